/- Proved here: steps on the way to FnStringSetHistorySaid (the last file has the statement). There are no conditions. -/
import Derived.Test.YtgmgmmoofjikiaaGreatPb
set_option linter.all false
set_option maxHeartbeats 1000000
namespace Go.Proofs.YtgmgmmoofjikiaaGreat
open Go.Eng
variable{a b c d e f g i j k p q r s:Value}{m n o l t u v:Nat}{I J:aK}{h H:Heap}{R:KV}{z y:bn}{x w:bW}{S T:bF}{A:Addr}{K N:cK}{E F:bU}{G M:El}{V W:ex}{α:Type}
def TA:(Bx h 369 b λ b d=>Bx d 95 c λ c d=>Lp (∃e:V0,(∀d,e d->(Lp (∃e:V1,(∀d f,e d f->(Nc a<|Ld f 327 a λ a=>Nc d<|Sr f 327 d a λ a=>Ld a 95 c λ c=>bC a 327 d 2 95 c λ a=>bg a 327 d 4 λ c=>Ld a 252 c λ e=>Ld a 369 b λ b=>Bs a 252 1 #[(0,b)] λ a b=>aX b 327 d 4 c 252 e<|(Ap b 252 e a λ a b=>bC b 327 d 4 252 a λ a=>R d a)))/\(aM d 327 a 5 325 λ b=>Nc b<|Ld d 558 b λ b=>Ln d 558 b λ b=>bv d .gtr 3 b i0 (aM d 327 a 5 325 λ c=>aM d 327 a 5 325 λ f=>Nc f<|Ld d 558 f λ f=>Bi d .sub 3 b i1 λ g=>Ia d 558 f g λ f=>Ld d 320 f λ f=>aM d 327 a 5 325 λ a=>Nc a<|Ld d 558 a λ a=>Bi d .sub 3 b i1 λ b=>Sl d 558 a none (some b) none λ a=>Nc c<|Sr d 558 c a λ a=>e f a) (Bd d 327 #[] λ a=>Bx d 327 a λ a b=>e a b)))))/\(aM d 327 a 5 325 λ b=>ce d 325 b nilp (Bs d 558 0 #[] λ b c=>Bx c 558 b λ b c=>bC c 327 a 5 325 b λ a=>e a) (e d))))->Cf h 333 #[a,b,c] R:=mS Tryz.func333 (Z (Y [] cF (Z (Y [7] Bt (Z (Z (Q EZ bG)))))))
def Hz:(aM h 327 b 4 252 λ c=>aM h 327 b 4 252 λ d=>Ln h 252 d λ d=>Bi h .sub 3 d i1 λ d=>Sl h 252 c none (some d) none λ c=>bC h 327 a 4 252 c λ c=>bg c 327 a 5 λ d=>Ld c 325 d λ e=>bg c 327 a 5 λ f=>Ld c 325 f λ g=>Nc g<|Ld c 558 g λ i=>Bs c 558 1 #[(0,b)] λ b c=>aX c 327 a 5 d 325 e<|aX c 327 a 5 f 325 g<|fY c 558 g i<|(Ap c 558 i b λ b c=>aX c 327 a 5 d 325 e<|(Nc e<|Sr c 558 e b λ a=>R (.tuple #[]) a)))->Cf h 334 #[a,b] R:=mS Tryz.func334 Hd
theorem HD(O:x.length=12):∃f o g e z a C I K d E P,x=[f,o,g,e,z,a,C,I,K,d,E,P]:=by match x,O with|[f,o,g,e,z,a,C,I,K,d,E,P],_=>exact⟨f,o,g,e,z,a,C,I,K,d,E,P,rfl⟩
theorem lc(W:∃H,blk h m=aE H n/\H.size=12){M:Prop}(T:∀f o g e z a C I K d E P,blk h m=aE #[f,o,g,e,z,a,C,I,K,d,E,P] n->M):M:=by obtain⟨H,y,N⟩:=W;obtain⟨f,o,g,e,z,a,C,I,K,d,E,P,k⟩:=HD (x:=H.toList) (bS N);exact T f o g e z a C I K d E P zbq
structure T9(base:Nat)(I:aK)(h:Heap)(w sb:Nat)(x pv:Value)(ws:cK)(spv:Value)(cw:cQ)(cp ct:cQ)(n:Nat)(rows:bW)(h3:Heap)(sb2:Nat)(x2:Value):Prop where
 st:aC (λ k=>k=w\/k∈aY sb x pv ws) I h I h3
 bw:blk h3 w=aE cw 327
 sp:eC 327 558 320 12 base I h3 sb2 x2 ws
 po:aQ base I h3 369 4 pv n rows
 nd:(w::aY sb2 x2 pv ws).Nodup
 old:∀k∈sb2::x2.bl,k∈aY sb x pv ws\/h.size+2<=k
 bp:blk h3 h.size=aE cp 369
 bt:blk h3 (h.size+1)=aE ct 95
 sbe:spv=aB sb->sb2=sb
structure R5(base:Nat)(I:aK)(h:Heap)(w sb:Nat)(x pv:Value)(ws:cK)(spv:Value)(cw:cQ)(cp ct:cQ)(n:Nat)(rows:bW)(h3:Heap)(w3 sb2:Nat)(x2:Value):Prop where
 st:aC (λ k=>k=w\/k∈aY sb x pv ws) I h I h3
 bw:blk h3 w=aE cw 327
 sp:eC 327 558 320 12 base I h3 sb2 x2 []
 po:aQ base I h3 369 4 pv n rows
 nd:(w::w3::aY sb2 x2 pv []).Nodup
 old:∀k∈w3::sb2::x2.bl,k∈aY sb x pv ws\/h.size+2<=k
 bp:blk h3 h.size=aE cp 369
 bt:blk h3 (h.size+1)=aE ct 95
 b3:∃cs,blk h3 w3=aE cs 327/\cs.size=12
 wI:I w3=none
 wb:base<=w3
 sbe:spv=aB sb->sb2=sb
theorem I9{D:Int}{r:IntKind}{T:Value->Prop}(K:0<=D/\D<=n):Sl h 558 (bq o l m n) none (some (.int r D)) none T=T (bq o l D.toNat n):=iW Tryz.underlying558 Pe K
set_option maxHeartbeats 1000000 in theorem pB{L:Nat}{T:aK}{O:Heap}(Z:aN T O){V:cK}{u0 u1 H u3 U C:Value}{a0:Nat}(hw:blk O m=aE #[c,d,e,f,g,i,j,p,q,b,r,s] 327)(a1:T m=none)(X:∀S∈[c,d,e,f,g,i,j,p,q,s],aG S=true)(v:∀S∈[u0,u1,H,u3,U,C],aG S=true)(hm:MQ 327 558 320 12 L T O m o a b V r)(po:aQ L T O 369 4 b a0 x)(M:a0<=1)(a2:bM T w G)(B:L<=O.size)(hR:∀J y M E F,aC (λ k=>k=m\/k∈aY o a b V) T O T F->blk F m=aE #[c,d,e,f,g,i,j,p,q,b,aB y,s] 327->blk F J=aE #[c,d,u0,u1,H,u3,U,C,q,E,aB y,s] 327->MS 327 558 320 12 L T F m J y M E [] (a0+1) (x++w)->(∀k∈J::aY y M E [],k∈aY o a b V\/O.size<=k)->(r=aB o->y=o)->R (aB J) F):Cf O 333 #[aB m,.agg w.toArray,.agg #[u0,u1,H,u3,U,C]] R:=by
 obtain⟨p0,p1,l,p3,rfl⟩:=cL a2.1;have q0:=X c zab;have q1:=X d zab;have q2:=X e zab;have q3:=X f zab;have Y:=X g zab;have q5:=X i zab;have q6:=X j zab;have q7:=X p zab;have q8:=X q zab;have q9:=X s zab;have F:=v u0 zab;have N:=v u1 zab;have r2:=v H zab;have r3:=v u3 zab;have r4:=v U zab;have r5:=v C zab;have s0:=a2.one p0 zab;have s1:=a2.one p1 zab;have s2:=a2.one l zab;have s3:=a2.one p3 zab;have P:=aF hw;have zm:=xk hm po P;have op:=po.one;have a3:V=[]\/∃S,V=[S]:=hm.elim (λ G=>.inl G.2.2.2.1) λ G=>G.2.2.1;apply TA;try simp(disch:=omega)only[go_sem,↓reduceIte,s0,s1,s2,s3]
 refine⟨λ K=>∃y M,T9 L T O m o a b V r (#[c,d,e,f,g,i,j,p,q,b,aB y,s]) #[p0,p1,l,p3] #[u0,u1,H,u3,U,C] a0 x K y M,λ K W=>W.elim λ y W=>W.elim λ M B=>?_,?_⟩
 ·have st:=B.st;have S3:=st.sat;have z3:=st.size;have v:=ED B.nd;refine B.sp.own.slK λ ax cx t=>?_;have bk:=B.sp.bk;rw[t]at bk;have a4:=B.sp.lts;refine rC B.bw.c bk.c ?_;refine⟨λ P t=>∃J x3,P=aB J/\R5 L T O m o a b V r (#[c,d,e,f,g,i,j,p,q,b,aB y,s]) #[p0,p1,l,p3] #[u0,u1,H,u3,U,C] a0 x t J y x3,λ P t W=>W.elim λ J W=>W.elim λ x3 W=>?_,?_⟩
  ·have e2:=W.1;have u:=W.2;have a5:=u.st;have r:=a5.sat;have z:=a5.size;have v:=fU u.nd;have X:=v.1;have n2:J≠O.size/\J≠O.size+1:=by
    rcases u.old J zab with Q|Q
    ·have:=zm _ Q;exact zaa
    ·exact zaa
   have n3:=n2.1;have w:=n2.2;have nw:=v.2.2.2.2.1.2.1;have P:=u.b3.elim λ a6 w=>aF w.1;have P:=aF u.sp.bk;have w:=aF u.bw;have w:=u.wI;have r3:aC (Eq J) T t T t:=aC.refl r;refine lc u.b3 λ P P P z3 z P z P z P P P hz=>?_;try simp(disch:=omega)only[go_sem,↓reduceIte,e2,aA u.bw,aA hz,aS hz,aA u.bp,aA u.bt,q0,q1,q2,q3,Y,q5,q6,q7,q8,q9,F,N,r2,r3,r4,r5,s0,s1,s2,s3,op,cn]
   refine bY gO rfl zaa zaa (H:=#[p0,p1,l,p3]) (u:=L) (T:=T) (v:=a0) (c:=x) Bk (u.po.step (D:=Eq J) (I':=T) (dv r r3 w) (λ P z G=>nw (G▸mem_bl.2 z))) (aC.sat (D:=Eq J) (I:=T) (h:=t) (dv r r3 w)) rfl a2.one zaa (by(try simp only[bJ]);exact zaa) λ E N o8 Y S8 w8=>?_;have a7:aC (λ k=>k=J\/b.ownBlock=some k) T t T N:=aC.touch ((show aC (Eq J) T t T _ from dv r r3 w).weak λ k _ G=>Or.inl G.symm) Y λ P z=>⟨.inr (.inr z),u.po.2 P z⟩;have F:aC (λ k=>b.ownBlock=some k) T _ T N:=aC.touch (show aC (λ k=>b.ownBlock=some k) T _ T _ from aC.refl (aC.sat (D:=Eq J) (I:=T) (h:=t) (dv r r3 w))) Y λ P z=>⟨.inr z,u.po.2 P z⟩;have r:blk N J=aE #[c,d,u0,u1,H,u3,U,C,q,b,aB y,s] 327:=F.blk (bz hz) λ F=>nw (mem_bl.2 F);have x:=aF r;have a8:=o8.one;(try simp only[bJ]at w8);have a9:∀F,aC (Eq J) T N T F->blk F J=aE #[c,d,u0,u1,H,u3,U,C,q,E,aB y,s] 327->R (aB J) F:=by
    intro F x b3;have t:=a7.trans' x (λ k _ G=>.inl G.symm);have R:(m::J::aY y x3 E []).Nodup:=f3 (K:=m::J::y::x3.bl) (N:=[]) u.nd (w8.imp id λ⟨P,z,Y⟩=>⟨P,z,λ k Y=>by
     simp only[List.mem_cons]at Y;rcases Y with rfl|rfl|rfl|Y
     ·exact zaa
     ·exact zaa
     ·exact zaa
     ·have:=(u.sp.own.lt Y).2;exact zaa,zab⟩);have aa:=fU R;refine hR J y x3 E F (a5.trans' t ?_) (t.blk u.bw ?_) b3 ⟨u.sp.step t ?_ ?_ zab,o8.step x (λ P z G=>aa.2.2.2.2.1.2.1 (G▸mem_bl.2 z)),R,a1,w,u.wb⟩ ?_ u.sbe
    ·intro k Y F;rcases F with rfl|F
     ·rcases u.old k zab with Q|Q
      ·exact .inr Q
      ·exact zaa
     ·exact zco
    ·exact zbj
    ·exact za2
    ·exact zaA
    ·intro k Y;simp only[aY,List.mem_cons,List.mem_append]at Y;have E:k∈J::y::x3.bl->k∈aY o a b V\/O.size<=k:=λ Y=>(u.old k Y).imp id λ Q=>zaa;rcases Y with Y|Y|Y|Y|Y
     ·exact E zch
     ·exact E zch
     ·exact E (c6 (c6 Y))
     ·rcases w8 with Q|⟨P,Q,t⟩
      ·exact zbE
      ·have:=mem_bl.1 Y;rw[Q]at this;cases this;exact .inr zaa
     ·cases Y
   have t:aC (Eq J) T N T N:=aC.refl S8;refine rD r.b e2 a8 ?_;refine a9 _ (dv S8 t w) ?_;exact bz r
  ·refine a3.elim (λ G=>?_) λ W=>W.elim λ S G=>?_
   ·have J:blk K y=aE #[.slice ax 0 cx] 558:=zcu;refine rC B.bw.c J.c ?_;have r:eC 327 558 320 12 L T K y M []:=zaI;have W:(m::aY y M b []).Nodup:=zaJ;have R:aD T K T (K.push (aV #[ni,nilp,nilp,nilp,nilp,nilp,nilp,bf,nilp,n0,nilp,ni] 327)):=(aC.refl S3).push _;have x:=aF B.bt;refine⟨K.size,M,rfl,⟨st.push _,R.blk B.bw id,r.step R id (λ _ _=>id) (λ _ _=>id),B.po.step R (λ _ _=>id),pd W ?_,?_,R.blk B.bp id,R.blk B.bt id,⟨#[ni,nilp,nilp,nilp,nilp,nilp,nilp,bf,nilp,n0,nilp,ni],Bk,rfl⟩,Z.fresh z3,zaa,B.sbe⟩⟩
    ·intro k Y;simp only[aY,List.mem_cons,List.mem_append]at Y;rcases Y with rfl|rfl|Y|Y|Y
     ·exact aF B.bw
     ·exact a4.1
     ·exact a4.2.1 k Y
     ·exact(B.po.lt Y).2
     ·cases Y
    ·intro k Y;rcases List.mem_cons.1 Y with rfl|Y
     ·exact .inr zaa
     ·exact B.old k Y
   ·have r:eC 327 558 320 12 L T K y M [S]:=zaI;have W:(m::aY y M b [S]).Nodup:=zaJ;refine r.own.atK zab λ P V v u ab w x ac t N ad=>?_;have J:1<=V:=x;have L:aI K P 0=some (aB S):=by rw[aA w,<-Array.getElem?_toList];have:(v.toList.take (1*1))[0]?=some (aB S):=zbh;rw[List.getElem?_take]at this;exact zai
    have E:blk K y=aE #[bq P 0 1 V] 558:=by have:=r.bk;rw[u]at this;exact zbX
    have x:=r.each S zab;have J:=fU (hu W);have ae:P∈M.bl:=mem_bl.2 zb8;have N:P≠y:=λ G=>J.2.2.2.1.2.2 (G▸ae);refine rF B.bw.c E.b L @I9 @bZ ?_;have L:aC (Eq y) T K T (aO K y 0 (bq P 0 0 V)):=aC.put (aC.refl S3) (.inr rfl) r.sbI;have K:(Value.slice (some ⟨P,0,none⟩) 0 V).bl=M.bl:=zb8;refine⟨S,bq P 0 0 V,rfl,⟨st.trans' L ?_,L.blk B.bw (λ G=>J.2.1 G.symm),⟨bz E,⟨⟨zab,.inr ⟨P,V,v,rfl,ab,?_,Nat.zero_le _,ac,t,zab⟩⟩,λ M t=>by cases t;exact ad⟩,zab,r.sbI,r.sbb,λ G=>by cases G;exact N rfl,zab⟩,B.po.step L (λ P z G=>J.2.2.2.2.1.2.2 (G▸mem_bl.2 z)),?_,?_,L.blk B.bp ?_,L.blk B.bt ?_,?_,x.2.2.1,x.2.1,B.sbe⟩⟩
    ·intro k Y G;rcases B.old y zab with Q|Q
     ·exact .inr (G▸Q)
     ·exact zaa
    ·show blk _ _=_;rw[bO,if_neg (λ G=>N G.symm)];exact w
    ·show(m::S::y::(_++_)).Nodup;rw[K];exact hu W
    ·intro k Y;rw[K]at Y;rcases List.mem_cons.1 Y with rfl|Y
     ·exact .inl (gx (by rw[G];exact zab))
     ·exact B.old k Y
    ·intro G;rcases B.old y zab with Q|Q
     ·have:=zm _ Q;exact zaa
     ·exact zaa
    ·intro G;rcases B.old y zab with Q|Q
     ·have:=zm _ Q;exact zaa
     ·exact zaa
    ·obtain⟨⟨a6,d,K⟩,-⟩:=x;exact⟨a6,L.blk d (λ G=>J.2.2.1 G.symm),K⟩
 ·refine hm.elim (λ G=>?_) λ G=>?_
  ·have V:blk O m=aE #[c,d,e,f,g,i,j,p,q,b,nilp,s] 327:=zbd;refine rB V.b ?_;obtain⟨L,e2,r,y,S⟩:=G;subst e2;subst r;subst y;have W:aC (Eq o) T O T O:=aC.refl Z;have Q:∀F,aC (Eq o) T O T F->aC (λ k=>k=o\/k∈aY o ni b []) T O T F:=λ F B=>B.weak λ k _ G=>.inl G.symm;refine⟨O.size+3,bq (O.size+2) 0 0 0,⟨Q _ (dv Z W a1),?_,⟨Bk,aQ.empty zaa zaP (Z.fresh zaa),zab,Z.fresh zaa,zaa,?_,zab⟩,po.step (D:=Eq o) (I':=T) (dv Z W a1) (λ P z G=>S (G▸mem_bl.2 z)),?_,?_,Bk,Bk,λ F=>by rw[L]at F;cases F⟩⟩
   ·exact bz V
   ·intro F;simp only[Value.ownBlock,Option.some.injEq]at F;exact zaa
   ·have n0:o≠O.size+3:=zaa;have X:o≠O.size+2:=zaa;have n2:∀k∈b.bl,k≠O.size+3/\k≠O.size+2:=λ k Y=>cW (po.lt Y).2;have n3:b.bl.Nodup:=zbm;have y:(Value.slice (some ⟨O.size+2,0,none⟩) 0 0).bl=[O.size+2]:=rfl;show(o::(O.size+3)::(_++_)).Nodup;rw[y];simp only[List.nodup_cons,List.cons_append,List.nil_append,List.append_nil,List.mem_cons,not_or];exact⟨⟨n0,X,S⟩,⟨zaa,λ F=>(n2 _ F).1 rfl⟩,λ F=>(n2 _ F).2 rfl,n3⟩
   ·intro k Y;have y:(Value.slice (some ⟨O.size+2,0,none⟩) 0 0).bl=[O.size+2]:=rfl;rw[y]at Y;simp only[List.mem_cons,List.not_mem_nil,or_false]at Y;exact .inr zaa
  ·have V:blk O m=aE #[c,d,e,f,g,i,j,p,q,b,aB o,s] 327:=zbd;refine rB V.c ?_;have R:aD T O T ((O.push (aV #[p0,p1,l,p3] 369)).push (aV #[u0,u1,H,u3,U,C] 95)):=((aC.refl Z).push _).push _;exact⟨o,a,⟨R.weak λ _ _=>False.elim,R.blk V id,G.2.1.step R id (λ _ _=>id) (λ _ _=>id),po.step R (λ _ _=>id),G.2.2.2,λ k Y=>.inl (m8 Y),Bk,Bk,λ _=>rfl⟩⟩
theorem Ds{L:Nat}{T:aK}{O:Heap}(Z:aN T O){y:cK}{F:Value}{H:cQ}(J:blk O m=aE #[d,e,f,g,i,j,p,q,r,F,aB t,s] 327)(K:blk O l=aE H 327)(a0:H.size=12)(C:H[9]?=some c)(Y:x.length=0*4)(S:MS 327 558 320 12 L T O m l t a c y 1 (x++w))(G:L<=O.size)(z:y.length<2147483646)(hR:∀M E U,aC (λ k=>k=m\/k∈aY t a c y) T O T U->blk U m=aE #[d,e,f,g,i,j,p,q,r,E,aB t,s] 327->MT 327 558 320 12 L T U m t M E (y++[l]) 0 x->(∀k∈aY t M E (y++[l]),k∈l::aY t a c y\/O.size<=k)->R (.tuple #[]) U):Cf O 334 #[aB m,aB l] R:=by
 have v:=fU S.nd;have P:=aF J;have P:=aF K;have E:=S.sp.lts;have R:=E.1;have G:=S.wI;have W:=S.sp.own.one;refine S.po.atK zaa λ P V X W U Q z B F N R=>?_;have w:P∈c.bl:=mem_bl.2 (by rw[W];rfl);have w:H[9]?=some (bq P 0 1 V):=by rw[C,W]
 have C:1<=V:=z;have a1:(Value.slice (some ⟨P,0,none⟩) 0 V).bl=c.bl:=by rw[W];rfl
 have a2:aQ L T O 369 4 (bq P 0 0 V) 0 x:=by refine⟨⟨Y,.inr ⟨P,V,X,rfl,U,Q,zaa,B,F,?_⟩⟩,λ g' B=>by cases B;exact R⟩;have C:X.toList.take (0*4)=(X.toList.take (1*4)).take (0*4):=zbx;rw[C,N,List.take_append_of_le_length zaa,<-Y,List.take_length]
 refine Hz (rD K.c w @gj ?_);refine rG J.b S.sp.bk.c K.c w @gj @bZ ?_;have W:aC (Eq m) T O T O:=aC.refl Z;refine bY o7 rfl zaa zaa (H:=#[aB l]) (u:=L) (T:=T) (v:=y.length) (c:=y.map aB) Bk (S.sp.own.step (D:=Eq m) (I':=T) (dv Z W G) (λ P z C=>v.2.2.2.1.1 (C▸mem_bl.2 z))) (aC.sat (D:=Eq m) (I:=T) (h:=O) (dv Z W G)) rfl zbg zaa (by(try simp only[bJ]);exact zaa) λ M N X Y Q w=>?_;have U:aC (λ k=>k=m\/a.ownBlock=some k) T O T N:=aC.touch ((show aC (Eq m) T O T _ from dv Z W G).weak λ k _ C=>Or.inl C.symm) Y λ P z=>⟨.inr (.inr z),S.sp.own.2 P z⟩;have x:aC (λ k=>a.ownBlock=some k) T _ T N:=aC.touch (show aC (λ k=>a.ownBlock=some k) T _ T _ from aC.refl (aC.sat (D:=Eq m) (I:=T) (h:=O) (dv Z W G))) Y λ P z=>⟨.inr z,S.sp.own.2 P z⟩;have R:blk N m=aE #[d,e,f,g,i,j,p,q,r,bq P 0 0 V,aB t,s] 327:=x.blk (bz J) λ F=>v.2.2.2.1.1 (mem_bl.2 F);have i:=U.blk S.sp.bk (λ F=>F.elim (λ C=>v.2.1 C.symm) λ C=>v.2.2.2.1.2.2 (mem_bl.2 C));have p:=U.blk K (λ F=>F.elim (λ C=>v.1 C.symm) λ C=>v.2.2.2.1.2.1 (mem_bl.2 C));have K:=U.size;have d:=X.one;(try simp only[bJ]at w);have x:∀k∈aY t a c y,k<O.size:=zah;have K:(m::l::aY t M c y).Nodup:=by
  have C:∀q:Value,(m::l::aY t q c y)=[m,l,t]++(q.bl++(c.bl++y)):=λ q=>rfl;rw[C];refine f3 (K:=[m,l,t]) (a:=a) (N:=c.bl++y) S.nd (w.imp id λ⟨P,z,q⟩=>⟨P,z,λ k Y=>?_,λ k Y=>?_⟩)
  ·exact zan
  ·have:k<O.size:=x k zam;exact zaa
 have L:=fU K;refine rD R.c i.b d ?_;have J:aC (Eq t) T N T (aO N t 0 M):=aC.put (aC.refl Q) (.inr rfl) S.sp.sbI;refine hR M (bq P 0 0 V) _ (aC.trans' (a:=Eq t) (U.weak λ k _ F=>F.imp id λ C=>eZ (mem_bl.2 C)) J λ k _ C=>.inr (C▸eu)) (J.blk R λ C=>v.2.1 C.symm) ⟨⟨?_,?_,?_,S.sp.sbI,S.sp.sbb,λ F=>L.2.2.2.1.2.2 (mem_bl.2 F),?_⟩,?_,?_,G⟩ ?_
 ·exact bz i
 ·have:=X.put2 (t:=t) (u:=0) (b:=M) λ P z C=>L.2.2.2.1.2.2 (C▸mem_bl.2 z);exact zai
 ·exact zas
 ·exact List.nodup_append.2 ⟨S.sp.nd,zab,λ S O E p C=>(v.2.2.2.2.2.2 S O).2.1 zaL⟩
 ·exact zaV
 ·exact zcW
 ·intro k Y;simp only[aY,List.mem_cons,List.mem_append,List.not_mem_nil,or_false]at Y;rcases Y with Y|Y|Y|Y|Y
  ·exact za1
  ·rcases w with Q|⟨g',Q,T⟩
   ·exact zaD
   ·have:=mem_bl.1 Y;rw[Q]at this;cases this;exact .inr zaa
  ·rw[a1]at Y;exact zbK
  ·exact zbJ
  ·exact .inl (by rw[Y];exact zab)
theorem Dj{L:Nat}{T:aK}{O:Heap}(Z:aN T O){y:cK}{F:Value}{H:cQ}(J:blk O m=aE #[d,e,f,g,i,j,p,q,r,F,aB t,s] 327)(K:blk O l=aE H 327)(a0:H.size=12)(C:H[9]?=some c)(Y:x.length=1*4)(S:MS 327 558 320 12 L T O m l t a c y 2 (x++w))(G:L<=O.size)(z:y.length<2147483646)(hR:∀M E U,aC (λ k=>k=m\/k∈aY t a c y) T O T U->blk U m=aE #[d,e,f,g,i,j,p,q,r,E,aB t,s] 327->MT 327 558 320 12 L T U m t M E (y++[l]) 1 x->(∀k∈aY t M E (y++[l]),k∈l::aY t a c y\/O.size<=k)->R (.tuple #[]) U):Cf O 334 #[aB m,aB l] R:=by
 have v:=fU S.nd;have P:=aF J;have P:=aF K;have E:=S.sp.lts;have R:=E.1;have G:=S.wI;have W:=S.sp.own.one;refine S.po.atK zaa λ P V X W U Q z B F N R=>?_;have w:P∈c.bl:=mem_bl.2 (by rw[W];rfl);have w:H[9]?=some (bq P 0 2 V):=by rw[C,W]
 have C:2<=V:=z;have a1:(Value.slice (some ⟨P,0,none⟩) 1 V).bl=c.bl:=by rw[W];rfl
 have a2:aQ L T O 369 4 (bq P 0 1 V) 1 x:=by refine⟨⟨Y,.inr ⟨P,V,X,rfl,U,Q,zaa,B,F,?_⟩⟩,λ g' B=>by cases B;exact R⟩;have C:X.toList.take (1*4)=(X.toList.take (2*4)).take (1*4):=zbx;rw[C,N,List.take_append_of_le_length zaa,<-Y,List.take_length]
 refine Hz (rD K.c w @gj ?_);refine rG J.b S.sp.bk.c K.c w @gj @bZ ?_;have W:aC (Eq m) T O T O:=aC.refl Z;refine bY o7 rfl zaa zaa (H:=#[aB l]) (u:=L) (T:=T) (v:=y.length) (c:=y.map aB) Bk (S.sp.own.step (D:=Eq m) (I':=T) (dv Z W G) (λ P z C=>v.2.2.2.1.1 (C▸mem_bl.2 z))) (aC.sat (D:=Eq m) (I:=T) (h:=O) (dv Z W G)) rfl zbg zaa (by(try simp only[bJ]);exact zaa) λ M N X Y Q w=>?_;have U:aC (λ k=>k=m\/a.ownBlock=some k) T O T N:=aC.touch ((show aC (Eq m) T O T _ from dv Z W G).weak λ k _ C=>Or.inl C.symm) Y λ P z=>⟨.inr (.inr z),S.sp.own.2 P z⟩;have x:aC (λ k=>a.ownBlock=some k) T _ T N:=aC.touch (show aC (λ k=>a.ownBlock=some k) T _ T _ from aC.refl (aC.sat (D:=Eq m) (I:=T) (h:=O) (dv Z W G))) Y λ P z=>⟨.inr z,S.sp.own.2 P z⟩;have R:blk N m=aE #[d,e,f,g,i,j,p,q,r,bq P 0 1 V,aB t,s] 327:=x.blk (bz J) λ F=>v.2.2.2.1.1 (mem_bl.2 F);have i:=U.blk S.sp.bk (λ F=>F.elim (λ C=>v.2.1 C.symm) λ C=>v.2.2.2.1.2.2 (mem_bl.2 C));have p:=U.blk K (λ F=>F.elim (λ C=>v.1 C.symm) λ C=>v.2.2.2.1.2.1 (mem_bl.2 C));have K:=U.size;have d:=X.one;(try simp only[bJ]at w);have x:∀k∈aY t a c y,k<O.size:=zah;have K:(m::l::aY t M c y).Nodup:=by
  have C:∀q:Value,(m::l::aY t q c y)=[m,l,t]++(q.bl++(c.bl++y)):=λ q=>rfl;rw[C];refine f3 (K:=[m,l,t]) (a:=a) (N:=c.bl++y) S.nd (w.imp id λ⟨P,z,q⟩=>⟨P,z,λ k Y=>?_,λ k Y=>?_⟩)
  ·exact zan
  ·have:k<O.size:=x k zam;exact zaa
 have L:=fU K;refine rD R.c i.b d ?_;have J:aC (Eq t) T N T (aO N t 0 M):=aC.put (aC.refl Q) (.inr rfl) S.sp.sbI;refine hR M (bq P 0 1 V) _ (aC.trans' (a:=Eq t) (U.weak λ k _ F=>F.imp id λ C=>eZ (mem_bl.2 C)) J λ k _ C=>.inr (C▸eu)) (J.blk R λ C=>v.2.1 C.symm) ⟨⟨?_,?_,?_,S.sp.sbI,S.sp.sbb,λ F=>L.2.2.2.1.2.2 (mem_bl.2 F),?_⟩,?_,?_,G⟩ ?_
 ·exact bz i
 ·have:=X.put2 (t:=t) (u:=0) (b:=M) λ P z C=>L.2.2.2.1.2.2 (C▸mem_bl.2 z);exact zai
 ·exact zas
 ·exact List.nodup_append.2 ⟨S.sp.nd,zab,λ S O E p C=>(v.2.2.2.2.2.2 S O).2.1 zaL⟩
 ·exact zaV
 ·exact zcW
 ·intro k Y;simp only[aY,List.mem_cons,List.mem_append,List.not_mem_nil,or_false]at Y;rcases Y with Y|Y|Y|Y|Y
  ·exact za1
  ·rcases w with Q|⟨g',Q,T⟩
   ·exact zaD
   ·have:=mem_bl.1 Y;rw[Q]at this;cases this;exact .inr zaa
  ·rw[a1]at Y;exact zbK
  ·exact zbJ
  ·exact .inl (by rw[Y];exact zab)
def tf:(aM h 327 a 1 86 λ b=>aM h 327 a 2 95 λ c=>aM h 327 a 0 228 λ d=>Mi h 320 a λ a=>Cf h 217 #[b,c,d,a] λ a b=>R a b)->Cf h 172 #[a] R:=mS Tryz.func172 (Z (Q (X #[0,1,3,7,0,16,48,112,0,256,768,1792,0,4096,16383,32767]) L))
def Vp:(aM h 327 a 3 173 λ b=>aM h 327 a 4 252 λ a=>Cf h 131 #[b,a] λ _ a=>R n0 a)->Cf h 326 #[a,b] R:=mS Tryz.func326 (Z (Q s6 bG))
def Ri:(Iv h c "Length" #[] λ d e=>Cf e 331 #[d] λ d e=>bH e 273 d λ d e=>Iv e c "Length" #[] λ e f=>Cf f 331 #[e] λ e f=>bH f 273 e λ e f=>Lp (∃(g:V1)(i:N1),g i0 f/\∀f j,g f j->(Iv j c "Length" #[] λ k l=>bv l .lss 3 f k (Lp (∃k:V0,(∀a,k a->(Bi a .add 3 f i1 λ b=>(g b a/\i b a<i f j)))/\(Iv l c "At" #[f] λ c f=>Lp (∃g:V1,(∀b c,g b c->(Ld c 369 b λ f=>Cf c 257 #[d,f] λ c f=>Cd c (Ld f 369 b λ c=>Cf f 257 #[e,c] λ c d=>Cd c (k d) (bg d 327 a 3 λ c=>Ld d 173 c λ f=>bg d 327 a 4 λ g=>Ld d 252 g λ i=>Ld d 369 b λ j=>Bs d 252 1 #[(0,j)] λ d j=>aX j 327 a 3 c 173 f<|aX j 327 a 4 g 252 i<|(Ap j 252 i d λ d g=>aX g 327 a 3 c 173 f<|(Cf g 131 #[f,d] λ _ a=>Ld a 369 b λ b=>Cf a 188 #[e,b] λ _ a=>k a)))) (Ld f 369 b λ a=>Cf f 188 #[d,a] λ _ a=>k a)))/\(bg f 327 a 6 λ d=>Ld f 225 d λ e=>bg f 327 a 1 λ i=>Ld f 86 i λ j=>(Cf f 332 #[e,j,b,c] λ b c=>aW b λ b _=>Al c 369 λ c f=>aX f 327 a 6 d 225 e<|aX f 327 a 1 i 86 j<|(Sr f 369 c b λ a=>g c a))/\(Al f 369 λ f k=>aX k 327 a 6 d 225 e<|aX k 327 a 1 i 86 j<|(Cf k 332 #[e,j,b,c] λ a b=>aW a λ a _=>Sr b 369 f a λ a=>g f a))))))) (Lp (∃(d:V2)(f:N2),d n0 i0 l/\∀g i j,d g i j->(Iv j c "Length" #[] λ k l=>bv l .lss 3 i k (Lp (∃k:V1,(∀a b,k a b->(Bi b .add 3 i i1 λ c=>(d a c b/\f a c b<f g i j)))/\(Iv l c "At" #[i] λ c d=>Lp (∃f:V1,(∀d i,f d i->(Ld i 369 d λ f=>Cf i 257 #[e,f] λ e f=>Cd e (k g f) (Ld f 369 d λ d=>aM f 354 b 0 95 λ b=>Cf f 333 #[a,d,b] λ b d=>bC d 327 b 0 228 c λ c=>Cf c 172 #[b] λ c d=>Ap d 323 g c λ c d=>aM d 327 b 3 173 λ e=>aM d 327 b 4 252 λ f=>Cf d 131 #[e,f] λ _ d=>Cf d 334 #[a,b] λ _ a=>k c a)))/\(bg d 327 a 6 λ e=>Ld d 225 e λ g=>bg d 327 a 1 λ i=>Ld d 86 i λ j=>(Cf d 332 #[g,j,b,c] λ b c=>aW b λ b _=>Al c 369 λ c d=>aX d 327 a 6 e 225 g<|aX d 327 a 1 i 86 j<|(Sr d 369 c b λ a=>f c a))/\(Al d 369 λ d k=>aX k 327 a 6 e 225 g<|aX k 327 a 1 i 86 j<|(Cf k 332 #[g,j,b,c] λ a b=>aW a λ a _=>Sr b 369 d a λ a=>f d a))))))) (R g l)))))))->Cf h 328 #[a,b,c] R:=mS Tryz.func328 (Z (Z (Z (Q (Z (B (O [9] (Q cF (Y [] (B (Z (Y [11] wf (Z (C (Z (C L (Q (X #[0,1,3,7,0,16,48,112,0,256,1008,2047]) L))) L))))) L))))) (Q (Z (B (O [6,13] (Q cF (Y [6] (B (Z (Y [15] wf (Q cF (Q Jg (Z (Z (Q s6 L)))))))) L))))) bG)))))
def G4:(aM h 327 a 6 225 λ c=>aM h 327 a 0 228 λ d=>Cf h 327 #[c,d] λ c d=>aW c λ c _=>bx d 338 c ni (aM d 327 a 6 225 λ e=>Nc e<|aM d 354 b 1 240 λ f=>ce d 240 f (aU ⟨#[97,116,111,109,105,99]⟩) (aM d 327 a 3 173 λ b=>aM d 327 a 4 252 λ a=>Cf d 131 #[b,a] λ _ a=>Dg a (cH e c) λ a=>R n0 a) (ce d 338 c ni (Dg d (cH e c) λ a=>R n0 a) (Cf d 328 #[a,b,c] λ a b=>Dg b (cH e c) λ b=>R a b))) (aM d 354 b 1 240 λ e=>ce d 240 e (aU ⟨#[97,116,111,109,105,99]⟩) (aM d 327 a 3 173 λ b=>aM d 327 a 4 252 λ a=>Cf d 131 #[b,a] λ _ a=>R n0 a) (ce d 338 c ni (R n0 d) (Cf d 328 #[a,b,c] λ a b=>R a b))))->Cf h 324 #[a,b] R:=mS Tryz.func324 oW
theorem La:dK 320 hC=some 326:=zag
theorem Mp:dK 320 gI=some 324:=zag
theorem KX:dK 320 gJ=some 325:=zag
@[go_sem] theorem VV{B:cQ}:Iv h (.iface 320 a) hC B R=Cf h 326 (#[a]++B) R:=dH La
@[go_sem] theorem VP{B:cQ}:Iv h (.iface 320 a) gI B R=Cf h 324 (#[a]++B) R:=dH Mp
@[go_sem] theorem VQ{B:cQ}:Iv h (.iface 320 a) gJ B R=Cf h 325 (#[a]++B) R:=dH KX
def SE(j:Nat)(T:aK)(h:Heap)(O:Nat)(b:cK)(g:bU):Prop:=∃a t,blk h O=aE #[a] 273/\aQ j T h 369 4 a g.length t/\Rows (bM T) t g/\(∀S∈t,aG S=true)/\dq g/\(O∈b/\(∀k∈a.bl,k∈b)/\O∉a.bl)/\∀k∈b,j<=k/\k<h.size/\T k=none
theorem SE.step{D:Nat->Prop}(B:SE m I h n K E)(V:aC D I h J H)(G:∀k∈K,¬D k):SE m J H n K E:=by obtain⟨a,t,u,s,W,N,f,⟨i1,i2,y⟩,c⟩:=B;exact⟨a,t,V.blk u (G _ i1),s.step V (λ P z=>G _ (i2 P (mem_bl.2 z))),W.mono λ _ _ w=>w.mono V.le,N,f,⟨i1,i2,y⟩,λ k Y=>⟨(c k Y).1,Nat.lt_of_lt_of_le (c k Y).2.1 V.size,(V.dom k (c k Y).2.1 (G k Y)).trans (c k Y).2.2⟩⟩
theorem th(Z:aN I h)(B:SE m I h n K E)(l:bM I x G)(D:E.length<=2147483647)(L:∀W U,aD I h I U->(W=true↔G∈E)->R (.bool W) U):Cf h 257 #[aB n,.agg x.toArray] R:=by obtain⟨a,t,u,s,W,N,f,-,-⟩:=B;exact nM Z u s W N f l D L
theorem uH(Z:aN I h)(B:SE m I h n K E){C:El}(l:bM I x C)(r:m<=h.size)(D:E.length<2147483646)(L:∀d X U,aC (λ k=>k∈K) I h I U->SE m I U n d X->(∀k∈d,k∈K\/h.size<=k)->(∀q,q∈X↔q=C\/q∈E)->X.length<=E.length+1->R (.tuple #[]) U):Cf h 188 #[aB n,.agg x.toArray] R:=by
 obtain⟨a,t,u,s,W,N,f,⟨i1,i2,y⟩,c⟩:=B;refine gQ (m:=m) (G:=C) Z u rfl (c n i1).2.2 s W N f (λ P z=>λ C=>y (C▸mem_bl.2 z)) l r D λ i A g W s b V B S G v jd M=>?_;have o:=(c n i1).2.1;refine L (K++i.bl) g W (s.weak λ k _ F=>F.elim (λ C=>C▸i1) λ C=>i2 _ (mem_bl.2 C)) ⟨i,A,b,V,B,S,G,⟨by simp[i1],λ k Y=>List.mem_append.2 (.inr Y),?_⟩,?_⟩ ?_ v M
 ·intro F;rcases jd with Q|⟨P,Q,T⟩
  ·exact y (mem_bl.2 (Q▸mem_bl.1 F))
  ·have:=mem_bl.1 F;rw[Q]at this;cases this;exact zaa
 ·intro k Y;rcases List.mem_append.1 Y with Y|Y
  ·exact⟨(c k Y).1,Nat.lt_of_lt_of_le (c k Y).2.1 s.size,(c k Y).2.2⟩
  ·exact⟨(V.lt Y).1,(V.lt Y).2,V.2 k (mem_bl.1 Y)⟩
 ·intro k Y;rcases List.mem_append.1 Y with Y|Y
  ·exact .inl Y
  ·rcases jd with Q|⟨P,Q,T⟩
   ·exact .inl (i2 k (mem_bl.2 (Q▸mem_bl.1 Y)))
   ·have:=mem_bl.1 Y;rw[Q]at this;cases this;exact .inr T
theorem kd(B:aQ m I h n o a l x)(D:0<l){M:Prop}(T:∀g V,a=bq g 0 l V->l<=V->g∈a.bl->(∀i S,x[i]?=some S->aI h g (0+i)=some S)->M):M:=by
 obtain⟨g,V,X,rfl,y,N,K,t,Q,q,y⟩:=B.at D;refine T g V rfl K (mem_bl.2 rfl) λ i S O=>?_;rw[Nat.zero_add,aA N,<-Array.getElem?_toList];rw[<-q,List.getElem?_take]at O;split at O
 ·exact O
 ·cases O
theorem Wx(C:a=n0)(W:R n0 h):Ap h 323 a n0 R:=by rw[C,cI d5,if_pos bu];exact W
theorem gY(Z:aN I h){C:El}(P:dD m I h o K S V)(H:aQ n I h 369 4 a 2 x)(w:Rows (bM I) x [.fld S,C])(G:∀k∈a.bl,k∉K)(r:m<=h.size)(O:(V.getD []).length<2147483646)(L:∀d y U,aC (λ k=>k∈K) I h I U->dD m I U o d S (some y)->(∀k∈d,k∈K\/h.size<=k)->(∀q,q∈y↔q=C\/q∈V.getD [])->y.length<=(V.getD []).length+1->R (.tuple #[]) U):Cf h 131 #[aB o,a] R:=by refine kd H zaa λ p V u x X H=>?_;rw[u];exact mh (e:=C) Z P w H (G p X) x r O L
theorem MS.step{D:Nat->Prop}{L:Nat}{C:Nat}(B:MS m L n o l I h t u v a b K C x)(E:aC D I h J H)(P:t<h.size)(e:u<h.size)(M:¬D t)(j:J u=none)(G:∀k∈aY v a b K,¬D k):MS m L n o l J H t u v a b K C x:=⟨B.sp.step E (G _ eu) (λ w z=>G _ (eZ (mem_bl.2 z))) (λ S O=>G _ (gx O)),B.po.step E (λ w z=>G _ (eU (mem_bl.2 z))),B.nd,(E.dom t P M).trans B.wI,j,B.w3b⟩
theorem MS.lts{L:Nat}{A:Nat}(B:MS m L n o l I h t u v a b K A x):∀k∈aY v a b K,k<h.size:=za5
theorem I8(Z:aN I h){al:Value}{s:bF}(M:blk h o=aE #[a,b,nilp,.pointer (some A),nilp,nilp,nilp,bf,aB l,c,d,al] 327)(p:PV I a (bE s))(i:dD m I h l K bA V)(H:aQ n I h 369 4 c 2 x)(w:Rows (bM I) x [.fld bA,.val s])(G:∀k∈c.bl,k∉K)(r:m<=h.size)(O:(V.getD []).length<2147483646)(L:∀d y U,aC (λ k=>k∈K) I h I U->dD m I U l d bA (some y)->(∀k∈d,k∈K\/h.size<=k)->(∀q,q∈y↔q=.val s\/q∈V.getD [])->y.length<=(V.getD []).length+1->R n0 U):Cf h 172 #[aB o] R:=by refine tf (rB M.c ?_);refine d9 (C:=ef .sc A) Z hB (.inr ⟨_,.str,p⟩) λ N P=>?_;have D:=P.blk M id;have g:=P.size;have l:=i.step P λ _ _=>id;have f:=H.step P λ _ _=>id;refine rA ?_;refine Vp (rB D.c ?_);refine gY (C:=.val s) P.sat l f w G zaa O λ d y U E J nf x t=>rA ?_;refine L d y U ((P.weak λ _ _=>False.elim).trans E) J (λ k Y=>(nf k Y).imp id λ Q=>zaa) x t
def iV(J:Value):Nat:=match J with|.int _ i=>i.toNat|_=>0
def tq(V:aK)(h:Heap)(A:bF)(B:Value)(U:Heap):Prop:=∃l E,B=aB l/\aD V h E U/\∃u q O J,blk U l=aE #[u,q,O,J] 369/\bM E [u,q,O,J] (.val A)
theorem tq.elim{M:Prop}(B:tq I h S a H)(T:∀l E u q O J,a=aB l->aD I h E H->blk H l=aE #[u,q,O,J] 369->bM E [u,q,O,J] (.val S)->M):M:=by obtain⟨l,E,C,w,u,q,O,J,N,p⟩:=B;exact T l E u q O J C w N p
structure E6(I:aK)(h:Heap)(l:bn)(ob db i:Nat)(fp fd:cK)(es:bU)(J:aK)(h7:Heap):Prop where
 st:aD I h J h7
 se:SE h.size J h7 ob fp es
 sd:SE h.size J h7 db fd []
 dj:∀k∈fp,k∉fd
 mem:∀y,y∈es↔∃t∈l.take i,y=.val t
 len:es.length<=i
theorem E6.pur{p:aK}{x:Heap}(B:E6 I h z m n o K N E J H)(G:aD J H p x):E6 I h z m n o K N E p x:=⟨B.st.trans G,B.se.step G λ _ _=>id,B.sd.step G λ _ _=>id,B.dj,B.mem,B.len⟩
theorem Cr(J:z.Nodup)(o:m<z.length)(s:∀q,q∈E↔∃G∈z.take m,q=.val G):¬El.val z[m]∈E:=by
 intro F;obtain⟨G,l,x⟩:=(s _).1 F;have f:z[m]=G:=by injection x
 obtain⟨r,Y,v⟩:=List.getElem_of_mem l;rw[List.length_take]at Y;rw[List.getElem_take]at v;exact(List.pairwise_iff_getElem.1 J) r m zaa o zaa (by rw[v,f])
theorem sT(o:m<z.length)(s:∀q,q∈E↔∃G∈z.take m,q=.val G)(x:∀q,q∈F↔q=.val z[m]\/q∈E):∀q,q∈F↔∃G∈z.take (m+1),q=.val G:=by
 intro q;rw[x,s,List.take_succ_eq_append_getElem o];constructor
 ·rintro(O|⟨G,l,C⟩)
  ·exact⟨z[m],List.mem_append.2 (.inr zab),O⟩
  ·exact⟨G,List.mem_append.2 (.inl l),C⟩
 ·rintro⟨G,l,C⟩;rcases List.mem_append.1 l with l|l
  ·exact .inr ⟨G,l,C⟩
  ·rw[List.mem_singleton.1 l]at C;exact .inl C
structure E9(base:Nat)(I:aK)(h:Heap)(w sb r:Nat)(cw:Value->cQ)(x0 pv0:Value)(fp0:cK)(rows:bW)(l:bn)(db:Nat)(fd:cK)(i:Nat)(J:aK)(h7:Heap)(x pv:Value)(ws fs:cK)(c:ex):Prop where
 st:aC (λ k=>k=w\/k∈aY sb x0 pv0 []\/k∈fp0) I h J h7
 bw:blk h7 w=aE (cw pv) 327
 mt:MT 327 558 320 12 base J h7 w sb x pv ws 1 rows
 wl:ws=[]\/∃u,ws=[u]
 nm:∀k∈aY sb x pv ws,k∈aY sb x0 pv0 []\/h.size<=k
 gs:dD base J h7 r fs bA c
 nf:∀k∈fs,k∈fp0\/h.size<=k
 dj:∀k∈fs,k≠w/\k∉aY sb x pv ws
 mem:∀y,y∈c.getD []↔∃t∈l.take i,y=.val t
 len:(c.getD []).length<=2*i
 sd:SE h.size J h7 db fd []
 dd:∀k∈fd,k∉fs/\k≠w/\k∉aY sb x pv ws
theorem MT.step{D:Nat->Prop}{L:Nat}(B:MT m L n o l I h t u a b K v x)(E:aC D I h J H)(P:t<h.size)(M:¬D t)(G:∀k∈aY u a b K,¬D k):MT m L n o l J H t u a b K v x:=⟨B.sp.step E (G _ eu) (λ b z=>G _ (eZ (mem_bl.2 z))) (λ S O=>G _ (gx O)),B.po.step E (λ b z=>G _ (eU (mem_bl.2 z))),B.nd,(E.dom t P M).trans B.wI⟩
theorem MT.lts{L:Nat}(B:MT m L n o l I h t u a b K v x):∀k∈aY u a b K,k<h.size:=za5
theorem MT.wn{L:Nat}(B:MT m L n o l I h t u a b K v x):t∉aY u a b K:=(List.nodup_cons.1 B.nd).1
theorem E9.pur{e:Value->cQ}{E:aK}{F:Heap}{y r:cK}(B:E9 m I h n o l e a b K x z t N u J H c d y r V)(G:aD J H E F):E9 m I h n o l e a b K x z t N u E F c d y r V:=⟨B.st.trans (G.weak λ _ _=>False.elim),G.blk B.bw id,B.mt.step G (aF B.bw) id (λ _ _=>id),B.wl,B.nm,B.gs.step G (λ _ _=>id),B.nf,B.dj,B.mem,B.len,B.sd.step G (λ _ _=>id),B.dd⟩
set_option maxHeartbeats 1000000 in theorem uB{L:Nat}{T:aK}{O:Heap}(Z:aN T O){al:Value}{t:bW}(hw:blk O m=aE #[a,b,i,j,p,q,r,s,aB o,f,aB n,al] 327)(X:∀a0∈[a,b,i,j,p,q,r,s,aB o,al],aG a0=true)(mt:MT 327 558 320 12 L T O m n d f [] 1 t)(hr:bM T t (.fld bA))(a2:dD L T O o K bA none)(a3:∀k∈K,k≠m/\k∉aY n d f [])(V:L<=O.size)(Y:cO T A)(E:cd T g 1 z.length (z.map bE))(G:z.Nodup)(N:z.length<1000000000)(hR:∀a4 pv ws fs c a5 U,aC (λ k=>k=m\/k∈aY n d f []\/k∈K) T O a5 U->blk U m=aE #[a,b,i,j,p,q,r,s,aB o,pv,aB n,al] 327->MT 327 558 320 12 L a5 U m n a4 pv ws 1 t->ws.length<=1->(∀k∈aY n a4 pv ws,k∈aY n d f []\/O.size<=k)->dD L a5 U o fs bA c->(∀k∈fs,k∈K\/O.size<=k)->(∀k∈fs,k≠m/\k∉aY n a4 pv ws)->(∀g,g∈c.getD []↔∃v∈z,g=.val v)->(c.getD []).length<=2*z.length->R n0 U):Cf O 328 #[aB m,.pointer (some A),.iface 585 g] R:=by
 have a6:=Y;obtain⟨xa,⟨a7,C,rfl,hb⟩,y⟩:=Y;have a8:=E;obtain⟨ya,l,rfl,H⟩:∃A c,g=.slice A z.length c/\z.length<=2147483647:=by obtain⟨A,c,C,-,-,N,-⟩:=E;exact⟨A,c,C,N⟩
 have a9:=aF hw;have Y:=Z.dom hb;refine Ri (rA ?_);refine dW ?_;refine rA ?_;refine n5 Z H λ R N l V=>?_;have u:=l.size;have P:=V.one;refine rB P ?_;refine dW ?_;refine rA ?_;refine n5 (I:=T) (aC.sat (D:=none_) (I:=T) (h:=O) (bX Z l)) H λ H A Q U=>?_;have J:aD T O T A:=aC.trans (bX Z l) Q;have Y:=Q.size;(try simp only[bJ]at Y);have w:=U.one;refine rB w ?_;have x:blk A N.size=aE #[R] 273:=Q.blk Bk id;refine⟨λ iv B=>∃M E P v a5,iv=aR (M:Nat)/\M<=z.length/\E6 T O z N.size A.size M E P v a5 B,λ iv B=>z.length-iV iv,⟨0,N.size::R.bl,A.size::H.bl,[],T,rfl,Nat.zero_le _,?_⟩,λ iv B W=>W.elim λ M W=>W.elim λ E W=>W.elim λ P W=>W.elim λ v W=>W.elim λ a5 W=>?_⟩
 ·have S:=l.sat;have w:∀k∈R.bl,O.size<=k/\k<N.size:=λ k Y=>V.lt Y;have v:∀k∈H.bl,N.size+1<=k/\k<A.size:=λ k Y=>by have:=U.lt Y;(try simp only[bJ]at this);exact zbX
  have E:aD T O T (aO (A.push (aV #[n0] 273)) A.size 0 H):=bX Z J;refine⟨E,⟨R,[],?_,?_,.nil,zab,List.Pairwise.nil,⟨zab,λ k Y=>zch,λ F=>cW (w _ F)⟩,λ k Y=>?_⟩,⟨H,[],Bk,?_,.nil,zab,List.Pairwise.nil,⟨zab,λ k Y=>zch,λ F=>cW (v _ F)⟩,λ k Y=>?_⟩,?_,zab,zab⟩
  ·show blk _ _=_;rw[bO,if_neg zaa,cq,if_neg zaa];exact x
  ·have y:aQ O.size T A 369 4 R 0 []:=V.step (D:=none_) (aC.trans (show aD T N T _ from aP S) Q) λ _ _=>id;exact(y.push _).put2 λ a2 R=>cW (w a2 (mem_bl.2 R))
  ·rcases List.mem_cons.1 Y with rfl|Y
   ·exact⟨u,by(try simp only[bJ]);exact zaa,Z.fresh u⟩
   ·have:=w k Y;exact⟨this.1,by(try simp only[bJ]);exact zaa,Z.fresh this.1⟩
  ·exact((U.weak (by(try simp only[bJ]);exact zaa)).push _).put2 λ a2 R=>cW (v a2 (mem_bl.2 R))
  ·rcases List.mem_cons.1 Y with rfl|Y
   ·exact⟨zaa,by(try simp only[bJ]);exact zaa,Z.fresh zaa⟩
   ·have:=v k Y;exact⟨zaa,by(try simp only[bJ]);exact zaa,Z.fresh zaa⟩
  ·intro k Y H;have x:k<N.size+1:=by
    rcases List.mem_cons.1 Y with rfl|Y
    ·exact zaa
    ·have:=w k Y;exact zaa
   rcases List.mem_cons.1 H with rfl|H
   ·exact zaa
   ·have:=v k H;exact zaa
 have ei:=W.1;have N:=W.2.1;have Z:=W.2.2;have S7:=Z.st.sat;refine rB @ei ?_;refine dW ?_;by_cases y:M<z.length
 ·have d0:decide ((M:Int)<(z.length:Int))=true:=by simp;exact zaa
  have J:=Z.st.blk hw id;refine rC d0 @ei ?_;refine⟨_,λ _ W=>W,?_⟩;refine rB @ei ?_;refine jU S7 (a8.mono Z.st.le) y λ ch S N R aa=>?_;have q8:=Z.pur R;have U:=R.blk J id;have E:=q8.st.sat;refine rA ?_;refine⟨tq S N z[M],λ pe ab W=>W.elim λ pb R u w1 w2 J ep Q bp hp=>?_,?_⟩
  ·have l:=q8.pur Q;have S9:=l.st.sat;refine rC bp.c @ep ?_;refine th (G:=.val z[M]) S9 l.se hp (cW Z.len) λ rr w ac ad=>?_;have rf:rr=false:=by cases rr with|false=>rfl|true=>exact absurd (ad.1 rfl) (Cr G y Z.mem)
   have V:=l.pur ac;have ae:=ac.blk bp id;refine rD ae.c rf @ep ?_;refine uH (C:=.val z[M]) V.st.sat V.se (hp.mono ac.le) V.st.size (cW Z.len) λ G af Q Q v x ag ah=>rB @ei ?_;obtain⟨-,-,-,-,-,-,-,-,ff⟩:=V.se;refine⟨⟨M+1,G,P,af,_,zab,y,⟨V.st.trans' Q (λ k Y F=>cW (ff k F).1),v,V.sd.step Q (λ k Y F=>Z.dj k F Y),λ k Y H=>?_,sT y Z.mem ag,cW Z.len⟩⟩,?_⟩
   ·rcases x k Y with Q|Q
    ·exact Z.dj k Q H
    ·obtain⟨-,-,-,-,-,-,-,-,x⟩:=V.sd;have:=(x k H).2.1;exact zaa
   ·simp only[iV];exact zaa
  ·have H:=aF U;refine rB U.c ?_;refine⟨?_,?_⟩
   ·refine en E (a6.mono q8.st.le) aa λ ai R G H aj=>?_;have S9:=H.sat;have ak:=H.blk U id;have y:=aF ak;have v:=aj.one;refine Exists.elim (cL aj.1) λ u W=>Exists.elim W λ w1 W=>Exists.elim W λ w2 W=>Exists.elim W λ J W=>?_;have q0:=v u (by rw[W];exact zab);have q1:=v w1 (by rw[W];exact zab);have y:=v w2 (by rw[W];exact zab);have q3:=v J (by rw[W];exact zab);refine rG ak.c W q0 q1 y q3 ?_;have U:R G.size=none:=S9.fresh bu;exact⟨G.size,R,rfl,aC.put (aC.put (aC.put (aC.put (H.push _) (.inl H.size) U) (.inl H.size) U) (.inl H.size) U) (.inl H.size) U,u,w1,w2,J,Bk,W▸aj⟩
   ·refine en (show aD S N S _ from aP E).sat (a6.mono q8.st.le) aa λ ai R G H aj=>?_;have x:aD S N R G:=aC.trans (aP E) H;have S:=H.size;(try simp only[bJ]at S);have S:blk G N.size=aE #[nilp,nilp,nilp,nilp] 369:=H.blk Bk id;have v:=aj.one;refine Exists.elim (cL aj.1) λ u W=>Exists.elim W λ w1 W=>Exists.elim W λ w2 W=>Exists.elim W λ J W=>?_;have q0:=v u (by rw[W];exact zab);have q1:=v w1 (by rw[W];exact zab);have y:=v w2 (by rw[W];exact zab);have q3:=v J (by rw[W];exact zab);refine rG S.b W q0 q1 y q3 ?_;have U:R N.size=none:=by rw[H.dom _ (by(try simp only[bJ]);exact zaa) id];exact E.fresh bu
    exact⟨N.size,R,rfl,aC.put (aC.put (aC.put (aC.put x (.inl bu) U) (.inl bu) U) (.inl bu) U) (.inl bu) U,u,w1,w2,J,bz S,W▸aj⟩
 ·have d0:decide ((M:Int)<(z.length:Int))=false:=by simp;exact zaa
  have U:M=z.length:=zaa;refine rC @ei d0 ?_;have S7:=Z.st.sat;have x:∀k∈K,k<O.size:=λ k Y=>(a2.fps.2 k Y).2.1;have U:=mt.lts;have am:∀k∈P,O.size<=k/\k<B.size/\a5 k=none:=by obtain⟨-,-,-,-,-,-,-,-,an⟩:=Z.sd;exact an
  refine⟨λ B iv N=>B=n0/\∃M a5 a4 pv ws fs c,iv=aR (M:Nat)/\M<=z.length/\E9 L T O m n o (λ pv=>#[a,b,i,j,p,q,r,s,aB o,pv,aB n,al]) d f K t z A.size P M a5 N a4 pv ws fs c,λ _ iv _=>z.length-iV iv,⟨rfl,0,a5,d,f,[],K,none,rfl,Nat.zero_le _,⟨Z.st.weak λ _ _=>False.elim,Z.st.blk hw id,mt.step Z.st a9 id (λ _ _=>id),.inl rfl,λ k Y=>.inl Y,a2.step Z.st (λ _ _=>id),λ k Y=>.inl Y,a3,zab,zab,Z.sd,λ k Y=>?_⟩⟩,λ B iv N W=>(W.2).elim λ i2 S=>S.elim λ J2 S=>S.elim λ a4 S=>S.elim λ pv S=>S.elim λ ws S=>S.elim λ fs S=>S.elim λ c S=>?_⟩
  ·have:=am k Y;exact⟨λ F=>cW (x k F),zaa,λ F=>cW (U k F)⟩
  have ao:=W.1;have ap:=S.1;have A:=S.2.1;have y:=S.2.2;have E:=y.st.sat;refine rB ap ?_;refine dW ?_;by_cases aq:i2<z.length
  ·have d0:decide ((i2:Int)<(z.length:Int))=true:=by simp;exact zaa
   refine rC d0 ap ?_;refine⟨_,λ _ _ W=>W,?_⟩;refine rB ap ?_;refine jU E (a8.mono y.st.le) aq λ ch R G H aa=>?_;have l:=y.pur H;have ak:blk G m=aE #[a,b,i,j,p,q,r,s,aB o,pv,aB n,al] 327:=l.bw;have S9:=l.st.sat;refine rA ?_;refine⟨tq R G z[i2],λ pe ab W=>W.elim λ pb Jp u w1 w2 J ep p bp hp=>?_,?_⟩
   ·have i:=l.pur p;refine rC bp.c @ep ?_;refine th (G:=.val z[i2]) i.st.sat i.sd hp zab λ rr w ac ad=>?_;have rf:rr=false:=by cases rr with|false=>rfl|true=>exact absurd (ad.1 rfl) zab
    have V:=i.pur ac;have r:=V.st.sat;have ae:=ac.blk bp id;have q:=V.st.size;have ar:T.le Jp:=V.st.le;have B:=At.of r (ar _ _ hb);have j:aI w a7 0=some nilp:=by have:=B 0 nilp rfl;exact zai
    have A:aI w a7 1=some (.pointer (some xa)):=by have:=B 1 (.pointer (some xa)) rfl;exact zai
    have S:aI w a7 2=some nilp:=by have:=B 2 nilp rfl;exact zai
    have s:aI w a7 3=some nilp:=by have:=B 3 nilp rfl;exact zai
    have Z:aI w a7 4=some nilp:=by have:=B 4 nilp rfl;exact zai
    have i:aI w a7 5=some bf:=by have:=B 5 bf rfl;exact zai
    try simp(disch:=omega)only[go_sem,↓reduceIte,rf,ep,aA ae,j,A,S,s,Z,i]
    have j:bM Jp [u,w1,w2,J] (.val z[i2]):=hp;refine pB (G:=.val z[i2]) (w:=[u,w1,w2,J]) r V.bw V.mt.wI X (by simp[cn,cB]) (.inr ⟨rfl,V.mt.sp,V.wl,V.mt.nd⟩) V.mt.po bu j zaa λ E M M S ab au Z A B X i=>?_;have s:=i rfl;rw[s]at Z A B X;have U:=au.sat;have s:=au.size;have H:=aF A;have s:blk ab E=aE #[a,b,nilp,.pointer (some xa),nilp,nilp,nilp,bf,aB o,S,aB n,al] 327:=A;have a:aG ch=true:=by obtain⟨a7,C,rfl,-⟩:=aa;rfl
    have av:=V.gs.fps;have A2:∀x∈aY n M S [],x<ab.size:=B.lts;have r:E≠m:=(fU B.nd).1.symm;have i:E∉fs:=λ F=>by
     rcases X E zab with Q|Q
     ·exact(V.dj E F).2 Q
     ·have:=(av.2 E F).2.1;exact zaa
    have aw:∀x∈aY n M S [],x∉fs:=λ x hm F=>by
     rcases X x (c6 hm)with Q|Q
     ·exact(V.dj x F).2 Q
     ·have:=(av.2 x F).2.1;exact zaa
    have ax:E∉aY n M S []:=(List.nodup_cons.1 (List.nodup_cons.1 B.nd).2).1;have q:m∉aY n M S []:=λ F=>(List.nodup_cons.1 B.nd).1 (c6 F);have ay:aC (Eq E) Jp ab Jp (aO ab E 0 ch):=aC.put (aC.refl U) (.inr rfl) B.w3I;have q:blk (aO ab E 0 ch) E=aE #[ch,b,nilp,.pointer (some xa),nilp,nilp,nilp,bf,aB o,S,aB n,al] 327:=by rw[bO,if_pos rfl,A];rfl
    have o:(aO ab E 0 ch).size=ab.size:=aJ .. ;have o:=V.gs.step au (λ k Y F=>F.elim (V.dj k Y).1 (V.dj k Y).2);have b:=o.step ay (λ k Y C=>i (C▸Y));have U:=B.step ay (aF Z) H r B.w3I (λ k Y C=>ax (C▸Y));have B:=ay.blk Z r;have A:Rows (bM Jp) (t++[u,w1,w2,J]) [.fld bA,.val z[i2]]:=by have C:t++[u,w1,w2,J]=t++([u,w1,w2,J]++[]):=zab;rw[C];exact .cons (hr.mono ar) (.cons j .nil)
    refine rC s.b a ?_;refine I8 (m:=L) (n:=L) (s:=z[i2]) ay.sat q (aa.mono (p.le.trans ac.le)) b U.po A (λ k Y=>aw k (eU Y)) (by(try simp only[bJ]);exact zaa) (cW V.len) λ r a a j H b az s=>?_;have b1:=j.sat;have a:=j.size;(try simp only[bJ]at a);have a:=j.blk q i;have s:=U.step j (aF B) (aF q) (λ F=>(V.dj m F).1 rfl) U.w3I aw;have p:=j.blk B (λ F=>(V.dj m F).1 rfl);have o:∀k∈r,k∈fs\/ab.size<=k:=λ k Y=>(b k Y).imp id λ Q=>by(try simp only[bJ]at Q);exact Q
    have b:∀x∈aY n M S [],x∉r:=λ x hm F=>by
     rcases o x F with Q|Q
     ·exact aw x hm Q
     ·have:=A2 x hm;exact zaa
    have b3:E∉r:=λ F=>by
     rcases o E F with Q|Q
     ·exact i Q
     ·exact zaa
    have B:m∉r:=λ F=>by
     rcases o m F with Q|Q
     ·exact(V.dj m Q).1 rfl
     ·have:=aF Z;exact zaa
    refine Wx ao ?_;refine rB a.c ?_;refine gY (m:=L) (C:=.val z[i2]) b1 H s.po A (λ k Y=>b k (eU Y)) zaa (by have:=V.len;simp only[Option.getD_some];exact zaa) λ i l2 b4 H b5 L b6 U=>?_;have q:=H.sat;have A:=H.size;have A:=H.blk a b3;have b7:=s.step H (aF p) (aF a) B s.w3I b;have s:=H.blk p B;have B:∀k∈i,k∈fs\/ab.size<=k:=λ k Y=>(L k Y).elim (o k) λ Q=>.inr zaa;refine Dj (x:=t) q s A rfl rfl hr.1 b7 zaa zab λ q t A s b8 b9 b=>rB ap ?_;have L:=aF Z;have p:∀k∈P,k<w.size/\k≠m/\k∉aY n a4 pv ws/\k∉fs:=by obtain⟨-,-,-,-,-,-,-,-,an⟩:=V.sd;exact λ k Y=>⟨(an k Y).2.1,(V.dd k Y).2.1,(V.dd k Y).2.2,(V.dd k Y).1⟩
    have ba:∀k∈P,k≠E/\k∉aY n M S []:=λ k Y=>by have an:=p k Y;have L:k∉E::aY n M S []:=λ F=>(X k F).elim an.2.2.1 λ Q=>zaa;exact⟨λ C=>L (by simp[C]),λ F=>L (c6 F)⟩
    have Z:∀k∈P,k∉r/\k∉i:=λ k Y=>by have an:=p k Y;exact⟨λ F=>(o k F).elim an.2.2.2 λ Q=>zaa,λ F=>(B k F).elim an.2.2.2 λ Q=>zaa⟩
    have r:∀k,k<O.size->k∈E::aY n M S []->k∈aY n d f []:=λ k Y F=>by
     rcases X k F with Q|Q
     ·exact(V.nm k Q).elim id λ L=>zaa
     ·exact zaa
    have a:∀k,k<O.size->(k∈fs\/ab.size<=k)->k∈K:=λ k Y F=>by
     rcases F with Q|Q
     ·exact(V.nf k Q).elim id λ L=>zaa
     ·exact zaa
    have P:aC (λ k=>k=m\/k∈aY n d f []\/k∈K) T O Jp A:=by
     refine aC.trans' (aC.trans' (aC.trans' (aC.trans' (aC.trans' V.st au ?_) ay ?_) j ?_) H ?_) s ?_
     ·rintro k Y(C|C)
      ·exact .inl C
      ·exact .inr (.inl ((V.nm k C).elim id λ L=>zaa))
     ·rintro k Y C;exact .inr (.inl (r k Y (by simp[<-C])))
     ·intro k Y F;exact .inr (.inr (a k Y (.inl F)))
     ·intro k Y F;exact .inr (.inr (a k Y (o k F)))
     ·rintro k Y(C|C)
      ·exact .inl C
      ·exact .inr (.inl (r k Y (c6 C)))
    have o:∀x∈aY n q t ([]++[E]),(x∈aY n a4 pv ws\/(w.size<=x/\x<ab.size))\/b4.size<=x:=λ x hm=>by
     rcases b x hm with Q|Q
     ·have:x<ab.size:=by
       rcases List.mem_cons.1 Q with C|C
       ·exact zaa
       ·exact A2 x C
      exact .inl ((X x Q).imp id λ L=>⟨L,this⟩)
     ·exact .inr Q
    have K:∀k∈i,k<b4.size:=λ k Y=>(b5.fps.2 k Y).2.1;have b:∀k∈i,k≠m/\k∉aY n q t ([]++[E]):=λ k Y=>by
     have x:=K k Y;rcases B k Y with Q|Q
     ·have O:=(av.2 k Q).2.1;refine⟨(V.dj k Q).1,λ F=>?_⟩;rcases o k F with(L|L)|L
      ·exact(V.dj k Q).2 L
      ·exact zaa
      ·exact zaa
     ·refine⟨zaa,λ F=>?_⟩;rcases o k F with(L|L)|L
      ·have:=V.mt.lts k L;exact zaa
      ·exact zaa
      ·exact zaa
    refine⟨⟨i2+1,Jp,q,t,[]++[E],i,some l2,zab,aq,⟨P,b8,b9,.inr ⟨E,rfl⟩,λ k Y=>?_,b5.step s (λ k Y F=>?_),λ k Y=>?_,b,?_,?_,?_,λ k Y=>?_⟩⟩,?_⟩
    ·rcases o k Y with(L|L)|L
     ·exact V.nm k L
     ·exact .inr zaa
     ·exact .inr zaa
    ·rcases F with C|C
     ·exact(b k Y).1 C
     ·rcases B k Y with Q|Q
      ·exact aw k C Q
      ·have:=A2 k C;exact zaa
    ·exact(B k Y).elim (V.nf k) λ Q=>.inr zaa
    ·refine sT aq V.mem λ g=>?_;simp only[Option.getD_some];rw[b6,Option.getD_some,az];constructor
     ·rintro(Q|Q|Q)
      ·exact zcB
      ·exact zcB
      ·exact .inr Q
     ·rintro(Q|Q)
      ·exact zcB
      ·exact .inr (.inr Q)
    ·have:=V.len;simp only[Option.getD_some]at U⊢;exact zaa
    ·refine((((V.sd.step au ?_).step ay ?_).step j ?_).step H ?_).step s ?_
     ·rintro k Y(C|C)
      ·exact(p k Y).2.1 C
      ·exact(p k Y).2.2.1 C
     ·exact λ k Y C=>(ba k Y).1 C.symm
     ·exact λ k Y F=>(p k Y).2.2.2 F
     ·exact λ k Y F=>(Z k Y).1 F
     ·rintro k Y(C|C)
      ·exact(p k Y).2.1 C
      ·exact(ba k Y).2 C
    ·refine⟨(Z k Y).2,(p k Y).2.1,λ F=>?_⟩;have an:=p k Y;rcases o k F with(L|L)|L
     ·exact an.2.2.1 L
     ·exact zaa
     ·exact zaa
    ·simp only[iV];exact zaa
   ·have M:=aF ak;refine rB ak.c ?_;refine⟨?_,?_⟩
    ·refine en S9 (a6.mono l.st.le) aa λ ai f P X aj=>?_;have o:=X.sat;have L:=X.blk ak id;have x:=aF L;have v:=aj.one;refine Exists.elim (cL aj.1) λ u W=>Exists.elim W λ w1 W=>Exists.elim W λ w2 W=>Exists.elim W λ J W=>?_;have q0:=v u (by rw[W];exact zab);have q1:=v w1 (by rw[W];exact zab);have y:=v w2 (by rw[W];exact zab);have q3:=v J (by rw[W];exact zab);refine rG L.c W q0 q1 y q3 ?_;have x:f P.size=none:=o.fresh bu;exact⟨P.size,f,rfl,aC.put (aC.put (aC.put (aC.put (X.push _) (.inl X.size) x) (.inl X.size) x) (.inl X.size) x) (.inl X.size) x,u,w1,w2,J,Bk,W▸aj⟩
    ·refine en (show aD R G R _ from aP S9).sat (a6.mono l.st.le) aa λ ai f P X aj=>?_;have t:aD R G f P:=aC.trans (aP S9) X;have R:=X.size;(try simp only[bJ]at R);have Y:blk P G.size=aE #[nilp,nilp,nilp,nilp] 369:=X.blk Bk id;have v:=aj.one;refine Exists.elim (cL aj.1) λ u W=>Exists.elim W λ w1 W=>Exists.elim W λ w2 W=>Exists.elim W λ J W=>?_;have q0:=v u (by rw[W];exact zab);have q1:=v w1 (by rw[W];exact zab);have y:=v w2 (by rw[W];exact zab);have q3:=v J (by rw[W];exact zab);refine rG Y.b W q0 q1 y q3 ?_;have x:f G.size=none:=by rw[X.dom _ (by(try simp only[bJ]);exact zaa) id];exact S9.fresh bu
     exact⟨G.size,f,rfl,aC.put (aC.put (aC.put (aC.put t (.inl bu) x) (.inl bu) x) (.inl bu) x) (.inl bu) x,u,w1,w2,J,bz Y,W▸aj⟩
  ·have d0:decide ((i2:Int)<(z.length:Int))=false:=by simp;exact zaa
   have i:i2=z.length:=zaa;refine rC ap d0 ?_;rw[ao];refine hR a4 pv ws fs c J2 N y.st y.bw y.mt (by rcases y.wl with C|⟨a0,C⟩<;>simp[C]) y.nm y.gs y.nf y.dj (λ g=>?_) (cW y.len);rw[y.mem,i,List.take_length]
def QO:(Bx h 9 a λ a f=>Bd f 369 #[(0,a)] λ g=>bH f 369 g λ f g=>Ld g 90 c λ i=>aM g 359 i 2 95 λ i=>bH g 95 i λ g i=>Lp (∃j:V0,(∀i,j i->(Ld i 320 d λ j=>Ld i 369 f λ f=>Ld i 95 g λ g=>Cf i 333 #[j,f,g] λ f g=>bC g 327 f 0 228 b λ g=>Ld g 323 e λ i=>Cf g 172 #[f] λ g j=>bh j 323 e i/\(Ap j 323 i g λ g i=>Sr i 323 e g λ e=>Lp (∃g:V0,(∀a,g a->(Ld a 320 d λ b=>Cf a 334 #[b,f] λ _ a=>R (.bool true) a))/\(Iv e b "IsNull" #[] λ d e=>Gd e d false (λ a c=>a b c) λ e i=>Gd i d false (λ a b=>Iv b e "IsMap" #[] λ b c=>a b c) λ e i=>Gd i d false (λ a b=>a e b) λ e i=>aH i e (λ a c=>a b c) λ b i=>aH i e (λ a c=>Iv c b "AsMap" #[] λ b c=>a b c) λ b i=>aH i e (λ a c=>Iv c b "Length" #[] λ b c=>a b c) λ b i=>aH i e (λ a c=>Eb c .eql 3 false true b i0 λ b=>a b c) λ b i=>Gd i d false (λ a c=>Pk e b bf λ b=>a b c) λ b e=>Pk d bt b λ b=>Cd b (aM e 327 f 3 173 λ a=>aM e 327 f 4 252 λ b=>Cf e 131 #[a,b] λ _ a=>g a) (Ld e 90 c λ b=>Ld e 9 a λ a=>Cf e 220 #[b,a] λ a b=>aW a λ a c=>bH b 417 a λ _ a=>cD a c (aM a 327 f 3 173 λ b=>aM a 327 f 4 252 λ c=>Cf a 131 #[b,c] λ _ a=>g a) (g a)))))))/\(Ld i 90 c λ b=>Ld i 9 a λ a=>Cf i 220 #[b,a] λ a b=>aW a λ a c=>bH b 417 a λ a b=>Cd c (Fa b 417 a 1 λ a=>Ld b 95 a λ a=>Sr b 95 g a λ a=>j a) (j b))))->Cf h 335 #[a,b,c,d,e] R:=mS Tryz.func335 (Z (Z (Z (Y [] jb (Z (Z (Q Il (Y [] (Z (C s6 (Z (Z (C s6 L))))) cX))))))))
theorem c7:(fb.toList==(⟨#[97,116,111,109,105,99]⟩:bF).toList)=false:=zag
theorem Is(Z:aN I h)(M:blk h n=aE #[a,b,nilp,nilp,.pointer (some A),nilp,nilp,bf,aB l,f,aB o,co t] 327)(F:aG b=true)(p:PV I a d)(g:er I d z)(G:MT 327 558 320 12 m I h n o e f [] 1 x)(w:bM I x (.fld bA))(B:dD m I h l K bA none)(W:∀k∈K,k≠n/\k∉aY o e f [])(r:m<=h.size)(Y:cO I A)(s:z.Nodup)(S:z.length<1000000000)(L:∀X i y r c V U,aC (λ k=>k=n\/k∈aY o e f []\/k∈K) I h V U->blk U n=aE #[a,b,nilp,nilp,.pointer (some A),nilp,nilp,bf,aB l,i,aB o,co t] 327->MT 327 558 320 12 m V U n o X i y 1 x->y.length<=1->(∀k∈aY o X i y,k∈aY o e f []\/h.size<=k)->dD m V U l r bA c->(∀k∈r,k∈K\/h.size<=k)->(∀k∈r,k≠n/\k∉aY o X i y)->(∀q,q∈c.getD []↔∃d∈z,q=.val d)->(c.getD []).length<=2*z.length->R n0 U):Cf h 172 #[aB n] R:=by
 have x:aG a=true:=zav;have J:=Y;obtain⟨q,rfl,t⟩:=g;obtain⟨K,⟨u,C,rfl,j⟩,h⟩:=Y;refine tf (rB M.c ?_);refine d9 (C:=ef .li ⟨u,0,none⟩) Z hB (.inr ⟨_,.lst,p⟩) λ N P=>?_;have D:=P.blk M id;refine rA ?_;refine G4 (rB D.c ?_);refine j6 P.sat (p.mono P.le) λ K o=>?_;have v:=P.trans o;have d:=v.sat;have m:=o.blk D id;have e:=v.size;have g:=At.of d (v.le _ _ j);have R:aI K u 6=some (aU fb):=by have:=g 6 (aU fb) rfl;exact zai
 refine rD m.c R @c7 ?_;refine uB d m ?_ (G.step v (aF M) id λ _ _=>id) (w.mono v.le) (B.step v λ _ _=>id) W zaa (J.mono v.le) (t.mono v.le) s S λ X i y r c V U E u D Y N T nf Z s t=>?_
 ·intro S O;simp only[List.mem_cons,List.not_mem_nil,or_false]at O;rcases O with rfl|rfl|rfl|rfl|rfl|rfl|rfl|rfl|rfl|rfl<;>first|exact x|exact F|rfl
 ·refine cG ?_;exact L X i y r c V U ((v.weak λ _ _=>False.elim).trans E) u D Y (λ k Y=>(N k Y).imp id λ Q=>zaa) T (λ k Y=>(nf k Y).imp id λ Q=>zaa) Z s t
inductive OS where|emp|nul|lst(l:bn)
def kt(T:aK)(G:Value):OS->Prop|.emp=>mI T G|.nul=>∃W,G=.iface 242 (.map (some W))/\T W=some (.map #[eA ni] 1)|.lst H=>dM T G H
theorem kt.mono(O:I.le J){s:OS}(B:kt I a s):kt J a s:=by
 cases s with
  |emp=>exact mI.mono O B
  |nul=>obtain⟨r,C,w⟩:=B;exact⟨r,C,O _ _ w⟩
  |lst H=>exact dM.mono O B
theorem kt.map{s:OS}(B:kt I a s){M:Prop}(T:∀W,a=.iface 242 (.map (some W))->M):M:=by
 cases s with
  |emp=>obtain⟨W,C,w⟩:=B;exact T _ C
  |nul=>obtain⟨W,C,w⟩:=B;exact T _ C
  |lst H=>obtain⟨W,a,C,w⟩:=B;exact T _ C
def E3:OS->bU|.nul=>[.fld bA]|_=>[]
def fZ:OS->bn|.lst H=>H|_=>[]
def EM(s:OS):Prop:=(fZ s).Nodup/\(fZ s).length<1000000
theorem pu(A:dq E)(O:∀q,q∈E↔q=G\/q∈([]:bU)):E=[G]:=by
 cases E with
  |nil=>exact absurd ((O G).2 (.inl rfl)) zab
  |cons B E=>have Y:B=G:=((O B).1 zab).elim id λ F=>absurd F zab;cases E with|nil=>rw[Y]|cons u E=>have j:u=G:=((O u).1 zab).elim id λ F=>absurd F zab;have:=A.head u zab;rw[Y,j]at this;exact absurd this eg
theorem dD.root(P:dD m I h n K S V):∃z j,blk h n=aE #[n0,z] j/\n∈K/\I n=none:=by
 cases V with
  |none=>exact⟨_,_,P.1,P.2.1,(P.2.2 n P.2.1).2.2⟩
  |some H=>obtain⟨j,t,A,V,O,p,z,X,c,B,P⟩:=P;exact⟨_,_,P.root,P.inr,(P.fps n P.inr).2.2⟩
theorem lT{L:Nat}(Z:aN I h)(P:dD L I h m K S V)(D:bM I x (.fld S))(E:∀i Q,x[i]?=some Q->aI h n (o+i)=some Q)(O:(V.getD []).length<=2147483647)(L:∀H U,aC (λ k=>k∈K) I h H U->cz H (aB m) [.fld S] S V->R (.tuple #[]) U):Cf h 131 #[aB m,bq n o 1 t] R:=by
 obtain⟨z,R,j,a,g⟩:=P.root;have y:=D.one;obtain⟨A,T,H,b,rfl⟩:=cL D.1;have v:=E 0 A rfl;have w:=E 1 T rfl;have F:=E 2 H rfl;have c:=E 3 b rfl;rw[Nat.add_zero]at v;refine HA (rA ?_);refine⟨λ A H N=>A=aB m/\H=bq n o 1 t/\h=N,λ _ _ _=>0,⟨rfl,rfl,rfl⟩,?_⟩;rintro _ _ _⟨rfl,rfl,rfl⟩;refine rG v w F c @Int.toNat_zero @Nat.add_zero ?_;refine gQ (m:=h.size) (G:=.fld S) (E:=[]) (x:=[]) Z j rfl g (aQ.nil _ _ _ _ _) .nil zab List.Pairwise.nil zap D bu zab λ X c H U E c n r u b s q t=>?_;have f:H=[.fld S]:=pu b s;subst f;refine rA ?_;have D:aC (λ k=>k∈K) I h I U:=E.weak λ k _ F=>F.elim (λ C=>C▸a) λ C=>by simp[Value.ownBlock]at C
 have S:∀k,k≠m->¬(k=m\/(Value.slice none 0 0).ownBlock=some k):=λ k Y F=>F.elim Y λ C=>by simp[Value.ownBlock]at C
 have Z:=D.freeze (λ k=>decide (k∈K++X.bl)) λ k Y=>by
  rcases List.mem_append.1 (of_decide_eq_true Y)with Q|Q
  ·exact .inr Q
  ·exact .inl (n.lt Q).1
 have W:I.le (I.fp (K++X.bl) U):=aK.add_le D.sat _;refine L (I.fp (K++X.bl) U) U Z ⟨m,R,X,z,rfl,aK.fp_eq (by simp[a]) c,ck.of (n.sli zab u λ k Y=>?_) (r.mono λ _ _ B=>B.mono W),b,?_⟩
 ·unfold aK.fp aK.add;rw[if_pos (decide_eq_true (List.mem_append.2 (.inr (mem_bl.2 Y))))]
 ·cases V with
   |none=>have C:=j.symm.trans P.1;simp only[Option.some.injEq,Obj.cells.injEq,Array.mk.injEq,List.cons.injEq,and_true,true_and]at C;rw[C.1];exact⟨none,0,rfl⟩
   |some H=>
    obtain⟨d,t,A,M,R,p,z,q,ys,v,P⟩:=P;have C:=j.symm.trans P.root;simp only[Option.some.injEq,Obj.cells.injEq,Array.mk.injEq,List.cons.injEq,and_true,true_and]at C;rw[C.1];have G:∀k,k∈K->k≠m->(I.fp (K++X.bl) U) k=blk h k:=λ k Y a=>by unfold aK.fp aK.add;rw[if_pos (decide_eq_true (List.mem_append.2 (.inl Y)))];exact E.same k (P.fps k Y).2.1 (S k a)
    refine⟨v,p,P.node_sli (G t P.innb (λ C=>P.d1 C.symm)),P.elem.mono W,z,_,_,(G p P.inq (λ C=>P.d2 C.symm)).trans P.inner,ck.of (P.own.sli O P.ones λ k Y=>G k (P.inx k Y) (P.dx k Y).1) (P.rows.mono λ _ _ B=>B.mono W),P.srt,none,0,rfl⟩
theorem u4(Z:aN I h){al:Value}(p:PV I a ni)(L:∀U,aD I h I U->R (bj ni ni) U):Cf h 327 #[al,a] R:=by obtain⟨u,C,rfl,j⟩:=p;refine Hc (rB (Z _ _ j).c ?_);refine f6 Z .nil λ N P=>rA ?_;exact L _ P
theorem aC.seq{D a:Nat->Prop}{z:aK}{N:Heap}(B:aC D I h J H)(u:aC a J H z N):aC (λ k=>D k\/a k) I h z N:=(B.weak λ _ _=>Or.inl).trans' u λ _ _=>Or.inr
theorem MS.mt{L:Nat}{T:Nat}(B:MS m L n o l I h t u v a b K T x):MT m L n o l I h u v a b K T x:=⟨B.sp,B.po,(List.nodup_cons.1 B.nd).2,B.w3I⟩
theorem MS.wn{L:Nat}{T:Nat}(B:MS m L n o l I h t u v a b K T x):t≠u/\t∉aY v a b K:=⟨λ C=>(List.nodup_cons.1 B.nd).1 (by simp[C]),λ F=>(List.nodup_cons.1 B.nd).1 (c6 F)⟩
theorem MT.ms{L:Nat}{c:Nat}(B:MT m L n o l I h u v a b K c x)(y:t≠u)(N:t∉aY v a b K)(W:I t=none)(i:l<=u):MS m L n o l I h t u v a b K c x:=⟨B.sp,B.po,List.nodup_cons.2 ⟨λ F=>(List.mem_cons.1 F).elim y N,B.nd⟩,W,B.wI,i⟩
def TW(V:aK)(h:Heap)(E W:Nat):Prop:=V E=none/\∃H,blk h E=aE H 327/\H.size=12/\H[8]?=some (aB W)
def k5(s:OS)(c:ex):Prop:=(∀q,q∈c.getD []↔∃G∈fZ s,q=.val G)/\(c.getD []).length<=2*(fZ s).length
theorem dD.doneD{g:Nat->Prop}(P:dD m J H n K S V)(E:aC g I h J H)(j:∀k∈K,h.size<=k\/g k)(f:(V.getD []).length<=2147483647):aC g I h (J.fp K H) H/\cz (J.fp K H) (aB n) [] S V:=⟨E.freeze _ λ k Y=>j k (of_decide_eq_true Y),P.frz E.sat f⟩
theorem aK.fp_ne(Y:m∉K):(I.fp K h) m=I m:=by unfold aK.fp aK.add;rw[if_neg (λ C=>Y (of_decide_eq_true C))]
theorem ri(Z:aN I h){P:bW}{H:cQ}(M:blk h n=aE #[d,e,f,g,i,j,p,q,aB l,b,aB t,r] 327)(z:blk h o=aE H 327)(b:H.size=12)(y:H[9]?=some c)(S:MS 327 558 320 12 m I h n o t a c K 1 P)(r:m<=h.size)(x:K.length<2147483646)(L:∀U,aC (λ k=>k=n\/k∈aY t a c K) I h I U->TW I U n l->R bt U):Cf h 334 #[aB n,aB o] λ _ E=>R bt E:=by refine Ds (x:=[]) (w:=P) Z M z b y rfl (bS S) r x λ M E U E u G N=>?_;exact L U E ⟨G.wI,_,u,rfl,rfl⟩
theorem FQ(Z:aN I h){al:Value}(M:blk h m=aE #[a,b,nilp,nilp,.pointer (some A),nilp,nilp,bf,c,d,e,al] 327)(p:PV I a ni)(Y:cO I A)(L:∀U,aD I h I U->R n0 U):Cf h 172 #[aB m] R:=by
 obtain⟨K,⟨u,C,rfl,j⟩,k⟩:=Y;refine tf (rB M.c ?_);refine d9 (C:=ef .li ⟨u,0,none⟩) Z hB (.inr ⟨_,.nil,p⟩) λ N P=>?_;have D:=P.blk M id;refine rA ?_;refine G4 (rB D.c ?_);refine u4 P.sat (p.mono P.le) λ K r=>?_;have v:=P.trans r;have g:=At.of v.sat (v.le _ _ j);have R:aI K u 6=some (aU fb):=by have:=g 6 (aU fb) rfl;exact zai
 refine rD (r.blk D id).c R @c7 ?_;exact L _ v
theorem bM.key(w:bM I [aB m,nilp,nilp,nilp] (.fld S)){M:Prop}(T:∀e,I m=aE #[aU S] e->M):M:=by obtain⟨-,u,A,e,j⟩:=w;cases A;exact T e j
theorem Fe(_:aN I h)(w:bM I x G):bM I x G:=w
def qv(R:KV)(a b c d e f g i:Value)(j:Heap):Prop:=bh j 323 d g/\(Ap j 323 g i λ g i=>Sr i 323 d g λ d=>Lp (∃g:V0,(∀a,g a->(Ld a 320 c λ b=>Cf a 334 #[b,f] λ _ a=>R bt a))/\(Iv d a "IsNull" #[] λ c d=>Gd d c false (λ b c=>b a c) λ d i=>Gd i c false (λ a b=>Iv b d "IsMap" #[] λ b c=>a b c) λ d i=>Gd i c false (λ a b=>a d b) λ d i=>aH i d (λ b c=>b a c) λ a i=>aH i d (λ b c=>Iv c a "AsMap" #[] λ a c=>b a c) λ a i=>aH i d (λ b c=>Iv c a "Length" #[] λ a c=>b a c) λ a i=>aH i d (λ b c=>Eb c .eql 3 false true a i0 λ a=>b a c) λ a i=>Gd i c false (λ b c=>Pk d a bf λ a=>b a c) λ a d=>Pk c bt a λ a=>Cd a (aM d 327 f 3 173 λ a=>aM d 327 f 4 252 λ b=>Cf d 131 #[a,b] λ _ a=>g a) (Ld d 90 b λ a=>Ld d 9 e λ b=>Cf d 220 #[a,b] λ a b=>aW a λ a c=>bH b 417 a λ _ a=>cD a c (aM a 327 f 3 173 λ b=>aM a 327 f 4 252 λ c=>Cf a 131 #[b,c] λ _ a=>g a) (g a)))))
@[go_sem] theorem Xc{k:KV->Heap->Prop}:Gd h bt false k R=R undef h:=wZ rfl
@[go_sem] theorem Xe{E:Bool}{k:KV->Heap->Prop}:Gd h undef E k R=R undef h:=by simp[Gd,Eng.Gd,gB,undef]
theorem Dn(Z:aN I h){w z L C P F J:Nat}{X Q:Addr}{H:cQ}(N:I n=aE #[.pointer (some A)] C)(E:I l=aE #[aB t] P)(a0:I L=aE #[aU bA] J)(Y:blk h o=aE #[n0] 323)(T:I o=none)(B:fl I A a)(V:cd I a 8 2 (c9 bA .li X++c9 bB .li Q))(y:I z=aE #[.iface 241 b] F)(M:blk h t=aE #[e,f,g,i,j,p,q,r,aB v,n0,aB w,s] 327)(G:blk h u=aE H 327)(a1:H.size=12)(a2:H[9]?=some d)(S:MS 327 558 320 12 m I h t u w c d K 1 x)(D:t≠o)(W:o∉aY w c d K)(U:m<=h.size)(O:K.length<=1)(hR:∀U,aC (λ k=>k=t\/k∈aY w c d K) I h I U->TW I U t v->R bt U):qv R (.iface 362 (aB z)) (aB n) (aB l) (aB o) (aB L) (aB u) n0 n0 h:=by
 have f:=B;obtain⟨J,J,rfl,e⟩:=B;have O:aO h o 0 n0=h:=eM Y rfl;have J:aN I (aO h o 0 n0):=by rw[O];exact Z
 have A:=Z.dom E;have F:o≠z:=λ C=>by rw[<-C,T]at y;cases y
 unfold qv;try simp(disch:=omega)only[go_sem,↓reduceIte,aA Y,cI d5,aS Y,F]
 refine⟨_,λ _ W=>W,?_⟩;refine rC (Z _ _ y).c F ?_;refine f6 J .lst λ T b=>?_;have x:=b.sat;refine rB (x _ _ y).c ?_;refine gK x .lst λ B P=>?_;have U:=P.sat;have H:aD I h I B:=by have T:=b.trans P;rw[O]at T;exact T
 try simp(disch:=omega)only[go_sem,↓reduceIte,aA (U _ _ N),aA (U _ _ a0),dz]
 refine eo U f V λ N Y=>?_;have Q:=Y.sat;have D:=H.trans Y;have J:=D.size;have P:=aF M;have e:=aF G;have g:l<N.size:=zaa;refine rB (Q _ _ E).c ?_;refine ri (show aD I N I _ from aP Q).sat ((show aD I N I _ from aP Q).blk (D.blk M id) id) ((show aD I N I _ from aP Q).blk (D.blk G id) id) a1 a2 ((S.step D P e id S.w3I (λ _ _=>id)).step (show aD I N I _ from aP Q) zaa zaa id S.w3I (λ _ _=>id)) (by(try simp only[bJ]);exact zaa) zaa λ G a E=>?_;exact hR G (aC.trans' (a:=λ k=>k=t\/k∈aY w c d K) (((D.trans (show aD I N I _ from aP Q))).weak λ _ _=>False.elim) a λ _ _=>id) E
theorem CH{b0:Nat}(Z:aN I h){w z L E C:Nat}{X A J O Q F W B:Value}(a0:I l=aE #[aB t] E)(Y:blk h o=aE #[n0] 323)(M:I o=none)(y:I z=aE #[ni] C)(hw:blk h t=aE #[c,d,e,f,g,i,j,p,aB v,n0,aB w,q] 327)(V:blk h u=aE #[r,s,X,A,J,O,Q,F,aB v,b,W,B] 327)(S:MS 327 558 320 12 m I h t u w a b K 1 x)(hp:bM I x (.fld bA))(P:dD b0 I h v N bA none)(G:∀k∈N,k≠t/\k≠u/\k∉aY w a b K)(H:t≠o)(T:o∉aY w a b K)(U:m<=h.size)(a1:K.length<=1)(hR:∀E U,aC (λ k=>k=t\/k∈aY w a b K\/k∈N) I h E U->TW E U t v->cz E (aB v) [.fld bA] bA none->R bt U):qv R (.iface 362 (aB z)) (aB n) (aB l) (aB o) (aB L) (aB u) n0 n0 h:=by
 have O:aO h o 0 n0=h:=eM Y rfl;have J:aN I (aO h o 0 n0):=by rw[O];exact Z
 have A:=Z.dom a0;have F:o≠z:=λ C=>by rw[<-C,M]at y;cases y
 unfold qv;try simp(disch:=omega)only[go_sem,↓reduceIte,aA Y,cI d5,aS Y,F]
 refine⟨_,λ _ W=>W,?_⟩;refine rC (Z _ _ y).c F ?_;refine f6 J .nil λ T i=>?_;have M:aD I h I T:=by have T:=i;rw[O]at T;exact T
 have x:=M.sat;have c:=M.blk V id;refine rB c.c ?_;have h:=S.step M (aF hw) (aF V) id S.w3I (λ _ _=>id);have H:=P.step M λ _ _=>id;refine kd h.po zaa λ p V d I X r=>rB d ?_;refine lT x H hp r zab λ y B P n=>?_;have d:=P.blk (M.blk hw id) (λ F=>(G t F).1 rfl);have B:=P.blk c (λ F=>(G u F).2.1 rfl);have m:=h.step P (aF (M.blk hw id)) (aF c) (λ F=>(G t F).1 rfl) ((P.dom u (aF c) (λ F=>(G u F).2.1 rfl)).trans S.w3I) (λ k Y F=>(G k F).2.2 Y);have I:=M.size;have h:=P.size;refine rB (P.sat _ _ (P.le _ _ a0)).c ?_;refine ri P.sat d B rfl rfl m zaa zaa λ G z E=>?_;exact hR y G (aC.trans' (aC.trans' (g:=λ k=>k=t\/k∈aY w a b K\/k∈N) (M.weak λ _ _=>False.elim) P λ k _ Y=>.inr (.inr Y)) z λ k _ Y=>Y.imp id .inl) E (n.mono z.le)
set_option maxHeartbeats 1000000 in theorem DF{L:Nat}{T:aK}(Z:aN T h){B w U z:Nat}{J:Value}{a0 Y:Addr}{Q:OS}(a1:T B=aE #[.pointer (some A)] U)(a2:T l=aE #[aB t] z)(a3:blk h m=aE #[n0] 323)(a4:T m=none)(y:fl T A a)(hf:cd T a 8 2 (c9 bA .li a0++c9 bB .li Y))(hx:cO T a0)(M:blk h t=aE #[d,f,g,i,j,p,q,r,aB u,n0,nilp,co w] 327)(G:T t=none)(X:∀S∈[d,f,g,i,j,p,q,r],aG S=true)(P:dD L T h u K bA none)(a5:t∉K)(a6:m∉K)(a7:t≠m)(C:L<=h.size)(E:PV T J s)(ht:(s=ni/\Q=.nul)\/∃a9,Q=.lst a9/\er T s a9)(a8:EM Q)(hR:∀V U c,aC (λ k=>k=t\/k=m\/k∈K) T h V U->blk U m=aE #[n0] 323->V m=none->TW V U t u->cz V (aB u) (E3 Q) bA c->k5 Q c->R bt U):Cf h 335 #[aU bA,J,aB B,aB l,aB m] R:=by
 have aa:=y;have ac:=E;have U:Tr s:=ht.elim (λ C=>C.1▸.nil) λ⟨a9,_,Y,C,_⟩=>C▸.lst;obtain⟨J,s,rfl,s⟩:=y;obtain⟨z,A,rfl,ad⟩:=E;have A:=Z.dom a1;have A:=Z.dom a2;have H:=Z.dom s;have O:=Z.dom ad;have y:=aF a3;have U:=aF M;have A:=X d zab;have p1:=X f zab;have E:=X g zab;have J:=X i zab;have Y:=X j zab;have H:=X p zab;have E:=X q zab;have Y:=X r zab;refine QO (rC (Z _ _ a1).c (Z _ _ s).c ?_);refine⟨_,λ _ W=>W,?_⟩;refine rB (Z _ _ a1).c ?_;refine eo (show aD T h T _ from aP Z).sat aa hf λ A H=>?_;have N:aD T h T A:=aC.trans (aP Z) H;have S2:=N.sat;have g:=H.size;(try simp only[bJ]at g);have ae:blk A h.size=aE #[aU bA] 9:=H.blk Bk id;have F:blk A (h.size+1)=aE #[aB h.size,nilp,nilp,nilp] 369:=H.blk Bk id;have E:blk A (h.size+2)=aE #[nilp,nilp,nilp,nilp,nilp,bf] 95:=H.blk Bk id;refine rD E.b F.c (S2 _ _ a2).c ?_;have a:aG (Value.iface 362 (aB z))=true:=rfl;have q2:aC (Eq (h.size+1+1)) T A T A:=aC.refl S2;have i2:T (h.size+1+1)=none:=Z.fresh zaa;refine pB (L:=L) (T:=T.one h.size _) (o:=t) (a:=ni) (V:=[]) (x:=[]) (a0:=0) (G:=.fld bA) ((show aD T h T _ from bX Z N).one (b:=h.size) bu).1.sat ((show aD T h T _ from bX Z N).blk M id) ?_ ?_ ?_ (.inl ⟨rfl,rfl,rfl,rfl,zap⟩) (aQ.nil _ _ _ _ _) zaa ⟨rfl,h.size,rfl,9,aK.one_eq ((show aC (Eq (h.size+1+1)) T A T _ from dv S2 q2 i2).blk ae zaa)⟩ (by(try simp only[bJ]);exact zaa) λ J y M E X W af H q p _=>?_
 ·rw[aK.one_ne zaa];exact G
 ·intro S O;simp only[List.mem_cons,List.not_mem_nil,or_false]at O;rcases O with rfl|rfl|rfl|rfl|rfl|rfl|rfl|rfl|rfl|rfl<;>first|assumption|rfl
 ·intro S O;exact zao
 have s:aC (λ k=>k=t) T h _ X:=aC.trans' (((show aD T h T _ from bX Z N).one (b:=h.size) bu).1.weak λ _ _=>False.elim) W λ k Y F=>zbo;have j:blk X m=aE #[n0] 323:=s.blk a3 λ C=>a7 C.symm;have i:=s.sat;have W:=s.le;have O:=s.size;have G:blk X J=aE #[d,f,nilp,nilp,.pointer (some a0),nilp,nilp,bf,aB u,E,aB y,co w] 327:=H;have N:∀k∈J::aY y M E [],h.size<=k:=λ k Y=>by
  rcases p k Y with Q|Q
  ·have:k=t:=by simpa[aY,Value.ownBlock]using Q
   exact absurd Y (this▸(List.nodup_cons.1 q.nd).1)
  ·(try simp only[bJ]at Q);exact zaa
 have U:h.size<=J:=N J zab;have d:J≠m:=zaa;refine rD G.b j.c a ?_;have S:=aC.put (o:=0) (v:=.iface 362 (aB z)) (aC.refl (D:=λ k=>k=J) i) (.inr rfl) q.w3I;have p:blk (aO X J 0 (.iface 362 (aB z))) J=aE #[.iface 362 (aB z),f,nilp,nilp,.pointer (some a0),nilp,nilp,bf,aB u,E,aB y,co w] 327:=by rw[bO,if_pos rfl,H];rfl
 have g:=S.blk j zaa;have ag:=S.blk af q.wn.1;have a:=q.step S (aF af) (aF H) q.wn.1 q.w3I (λ k Y C=>(List.nodup_cons.1 (List.nodup_cons.1 q.nd).2).1 (C▸Y));have O:=S.sat;have j:=S.size;have j:dD L _ (aO X J 0 (.iface 362 (aB z))) u K bA none:=(P.step s (λ k Y C=>a5 (C▸Y))).step S (λ k Y C=>cW (P.2.2 k Y).2.1);have U:∀k∈K,k<h.size:=λ k Y=>(P.2.2 k Y).2.1;have P:=Fe s.sat (x:=[aB h.size,nilp,nilp,nilp]) (G:=.fld bA) ⟨rfl,h.size,rfl,9,aK.one_eq ((show aC (Eq (h.size+1+1)) T A T _ from dv S2 q2 i2).blk ae zaa)⟩;refine ht.elim (λ C=>?_) (λ⟨a9,w,f⟩=>f.elim λ yl d=>?_)
 ·have i:=ac.mono W;have X:=W _ _ ad;rw[C.1]at i X;refine FQ O p i (hx.mono W) λ Q r=>?_;refine P.key λ ke G=>?_;show qv R (.iface 362 (aB z)) (aB B) (aB l) (aB m) (aB h.size) (aB J) n0 n0 Q;refine CH (n:=B) (L:=h.size) (N:=K) r.sat (r.le _ _ (W _ _ a2)) (r.blk g id) ((r.dom m zaa id).trans ((s.dom m zaa (λ C=>a7 C.symm)).trans a4)) (r.le _ _ X) (r.blk ag id) (r.blk p id) (a.step r zaa (by(try simp only[bJ]);have:=aF H;exact zaa) id a.w3I (λ _ _=>id)) (P.mono r.le) (j.step r (λ _ _=>id)) ?_ a7 ?_ ?_ zab λ H q u A i=>?_
  ·exact λ k Y=>⟨λ C=>a5 (C▸Y),λ C=>cW (U k Y),λ F=>uF (N k (c6 F)) (U k Y)⟩
  ·exact λ F=>cW (N m (c6 F))
  ·have:=r.size;exact zaa
  ·have X:¬(m=t\/m∈aY y M E []\/m∈K):=λ F=>by
    rcases F with F|F|F
    ·exact a7 F.symm
    ·have:=N m (c6 F);exact zaa
    ·exact a6 F
   refine hR H q none ?_ ?_ ?_ A ?_ ?_
   ·exact(((s.seq S).seq r).seq u).weak λ k Y F=>by
     rcases F with((F|F)|F)|F|F|F
     ·exact zcp
     ·exact zaa
     ·exact F.elim
     ·exact zcp
     ·have:=N k (c6 F);exact zaa
     ·exact .inr (.inr F)
   ·exact u.blk (r.blk g id) X
   ·exact(u.dom m (cW r.size) X).trans ((r.dom m zaa id).trans ((s.dom m zaa (λ C=>a7 C.symm)).trans a4))
   ·rw[C.2];exact i
   ·rw[C.2];simp[k5,fZ]
 ·refine Is (m:=L) O p p1 (ac.mono W) (f.mono W) (bS a.mt) P j ?_ (by(try simp only[bJ]);exact zaa) (hx.mono W) ?_ ?_ λ A p i fs c V Q j Z ah wl ai q aj ak am an=>?_
  ·exact λ k Y=>⟨λ C=>by have:=N k (by simp[C]);have:=U k Y;exact zaa,λ F=>uF (N k (c6 F)) (U k Y)⟩
  ·have:=a8;rw[w]at this;exact this.1
  ·have:=a8;rw[w]at this;have:=this.2;simp only[fZ]at this;exact zaa
  ·have U:t≠J/\t∉aY y M E []:=a.wn;have em:m∉aY y M E []:=λ F=>cW (N m (c6 F));have O:¬(m=J\/m∈aY y M E []\/m∈K):=by grind
   have X:¬(t=J\/t∈aY y M E []\/t∈K):=by grind
   have M:blk Q m=aE #[n0] 323:=j.blk g O;have S5:=j.sat;have r:=W.trans j.le;have H:=j.blk ag X;have u:=j.size;have W:(_:aK) m=none:=(s.dom m zaa (λ C=>a7 C.symm)).trans a4;have u:V m=none:=(j.dom m zaa O).trans W;have g:m∉aY y A p i:=λ F=>(ai m F).elim em λ Q=>zaa;have O:t∉aY y A p i:=λ F=>(ai t F).elim U.2 λ Q=>zaa;refine P.key λ ke G=>?_;refine f.elim λ yl d=>?_;have f:=r _ _ ad;rw[d.1]at f;show qv R (.iface 362 (aB z)) (aB B) (aB l) (aB m) (aB h.size) (aB J) n0 n0 Q;refine Dn (m:=L) S5 (r _ _ a1) (r _ _ a2) (j.le _ _ G) M u (aa.mono r) (hf.mono r) f H Z rfl rfl (MT.ms ah U.1 O ((j.dom t zaa X).trans a.wI) zaa) a7 g zaa wl λ G a E=>?_;have f:∀k∈fs,k≠t/\k≠m/\k∉aY y A p i:=λ k Y=>⟨λ C=>(aj k Y).elim (C▸a5) λ Q=>zaa,λ C=>(aj k Y).elim (C▸a6) λ Q=>zaa,(ak k Y).2⟩;have P:=q.step a λ k Y F=>F.elim (f k Y).1 (f k Y).2.2;have p:aC (λ k=>k=t\/k=m\/k∈K) T h V G:=(((s.seq S).seq j).seq a).weak λ k Y F=>by
    rcases F with((F|F)|F|F|F)|F|F
    ·exact zcp
    ·exact zaa
    ·exact zaa
    ·have:=N k (c6 F);exact zaa
    ·exact .inr (.inr F)
    ·exact zcp
    ·rcases ai k F with T|T
     ·have:=N k (c6 T);exact zaa
     ·exact zaa
   have Z:=P.doneD p (λ k Y=>(aj k Y).elim (λ Q=>.inr (.inr (.inr Q))) λ Q=>.inl zaa) (by have:=a8.2;rw[w]at this;simp only[fZ]at this;exact zaa);refine hR _ G c Z.1 (a.blk M λ F=>F.elim (λ C=>a7 C.symm) g) ((aK.fp_ne λ F=>(f m F).2.1 rfl).trans u) ⟨(aK.fp_ne λ F=>(f t F).1 rfl).trans E.1,E.2⟩ (by rw[w];exact Z.2) (by rw[w];exact⟨am,an⟩)
def Rq:(Bx h 320 a λ a d=>Bx d 90 b λ b d=>Al d 323 λ d e=>Iv e c "Iterate" #[(.func (.func 335) #[] #[b,a,d])] λ _ a=>Ld a 323 d λ b=>Sr a 323 d b λ a=>Rv a 323 d λ b=>R b a)->Cf h 330 #[a,b,c] R:=mS Tryz.func330 iO
def GT:(aM h 327 a 6 225 λ c=>aM h 327 a 0 228 λ d=>Cf h 329 #[c,d] λ c d=>aW c λ c _=>bx d 343 c ni (aM d 327 a 6 225 λ e=>Nc e<|aM d 359 b 3 240 λ f=>ce d 240 f (aU ⟨#[97,116,111,109,105,99]⟩) (aM d 327 a 3 173 λ b=>aM d 327 a 4 252 λ a=>Cf d 131 #[b,a] λ _ a=>Dg a (cH e c) λ a=>R n0 a) (ce d 343 c ni (Dg d (cH e c) λ a=>R n0 a) (Cf d 330 #[a,b,c] λ a b=>Dg b (cH e c) λ b=>R a b))) (aM d 359 b 3 240 λ e=>ce d 240 e (aU ⟨#[97,116,111,109,105,99]⟩) (aM d 327 a 3 173 λ b=>aM d 327 a 4 252 λ a=>Cf d 131 #[b,a] λ _ a=>R n0 a) (ce d 343 c ni (R n0 d) (Cf d 330 #[a,b,c] λ a b=>R a b))))->Cf h 325 #[a,b] R:=mS Tryz.func325 oW
def Vw:(Bx h 317 a λ a b=>Bd b 327 #[] λ c=>Bx b 327 c λ b c=>Fa c 317 a 0 λ d=>Ld c 228 d λ d=>bC c 327 b 0 228 d λ c=>Fa c 317 a 2 λ d=>Ld c 86 d λ d=>bC c 327 b 1 86 d λ c=>Fa c 317 a 1 λ a=>Ld c 95 a λ a=>bC c 327 b 2 95 a λ a=>Bd a 279 #[] λ c=>Bx a 279 c λ a c=>bC c 327 b 3 173 a λ a=>Cf a 118 #[] λ a c=>bC c 327 b 6 225 a λ a=>R b a)->Cf h 170 #[a] R:=mS Tryz.func170 (Z (Z (Z pY)))
def IN:eT:=(Z (Z (Z L)))
def x4(R:KV)(a:Value)(h:Heap):Prop:=bC h 327 a 1 86 nilp λ b=>Bd b 95 #[] λ c=>bC b 327 a 2 95 c λ b=>bC b 327 a 4 252 n0 λ b=>bC b 327 a 3 173 nilp λ a=>R (.tuple #[]) a
def Jk:(Bx h 317 a λ a b=>Ld b 317 a λ a=>Cf b 170 #[a] λ a b=>Cf b 172 #[a] λ b c=>Ln c 323 b λ d=>bx c 3 d i0 (Mi c 323 b λ b=>Dg c {target:=.fn (.func 171) #[],args:=#[]++#[a]} λ a=>R (bj nilp b) a) (aM c 327 a 3 173 λ b=>Dg c {target:=.fn (.func 171) #[],args:=#[]++#[a]} λ a=>R (bj b ni) a))->Cf h 115 #[a] R:=mS Tryz.func115 (Z (Z wa))
theorem fI:((⟨#[]⟩:bF).toList==(⟨#[97,116,111,109,105,99]⟩:bF).toList)=false:=zag
theorem NF:fO 335=true:=zag
theorem kt.tr{s:OS}(B:kt I a s):Tr a:=by
 cases s with
  |emp=>obtain⟨W,C,w⟩:=B;exact C▸.map
  |nul=>obtain⟨W,C,w⟩:=B;exact C▸.map
  |lst H=>obtain⟨W,a,C,w⟩:=B;exact C▸.map
def xJ(T:aK)(G:Value)(s:OS):Prop:=(G=ni/\s=.nul)\/∃H,s=.lst H/\er T G H
theorem xJ.mono(O:I.le J){s:OS}(B:xJ I a s):xJ J a s:=B.imp id λ⟨H,C,l⟩=>⟨H,C,l.mono O⟩
theorem D1{g:Nat->Prop}(Z:aN I h){x:Option Nat}{s:OS}(u:kt I (.iface 242 (.map x)) s)(q:∀k,g k->k<h.size)(r:s=.emp->R bt h)(V:∀J G A y,aD I h A y->PV A J G->xJ A G s->∀T:KV,(∀z N,aC g A y z N->R bt N->T bt N)->Cv y a #[aU bA,J] T):Cf h 477 #[.map x,co m,a] R:=by
 cases s with
  |emp=>obtain⟨W,C,w⟩:=u;cases C;exact l3 Z w (r rfl)
  |nul=>obtain⟨W,C,w⟩:=u;cases C;exact gA (g:=g) Z w rfl q λ J A y v p T Q=>V J _ A y v p (.inl ⟨rfl,rfl⟩) T Q
  |lst H=>obtain⟨W,G,C,w,l⟩:=u;cases C;exact gA (g:=g) Z (a:=G) w (by obtain⟨X,rfl,-⟩:=l;rfl) q λ J A y v p T Q=>V J _ A y v p (.inr ⟨H,rfl,l.mono v.le⟩) T Q
theorem qb{L:Nat}(O:aN I h){X q:Addr}{x:Option Nat}{s:OS}(B:fl I A a)(H:cd I a 8 2 (c9 bA .li X++c9 bB .li q))(N:cO I X)(M:blk h m=aE #[b,d,e,f,g,i,j,p,aB n,n0,nilp,co o] 327)(G:I m=none)(t:∀S∈[b,d,e,f,g,i,j,p],aG S=true)(P:dD L I h n K bA none)(z:m∉K)(r:L<=h.size)(v:kt I (.iface 242 (.map x)) s)(a0:EM s)(hR:∀V U c,aC (λ k=>k=m\/k∈K) I h V U->TW V U m n->cz V (aB n) (E3 s) bA c->k5 s c->R n0 U):Cf h 330 #[aB m,.pointer (some A),.iface 586 (.map x)] R:=by
 have q:=aF M;have U:∀k∈K,k<h.size:=λ k Y=>(P.2.2 k Y).2.1;have n:aD I h I ((((h.push (aV #[aB m] 320)).push (aV #[.pointer (some A)] 90)).push (aV #[n0] 323)).push (aV #[] 348)):=aP O;have Z:=n.freeze (λ k=>decide (k=h.size\/k=h.size+1)) λ k Y=>.inl (cW (of_decide_eq_true Y));have ev:∀k X,(k=h.size\/k=h.size+1)->blk ((((h.push (aV #[aB m] 320)).push (aV #[.pointer (some A)] 90)).push (aV #[n0] 323)).push (aV #[] 348)) k=some X->(I.add (λ k=>decide (k=h.size\/k=h.size+1)) _) k=some X:=λ k X Y j=>za7;refine Rq (rA ?_);refine Jm (rA ?_);refine D1 (g:=λ k=>k=m\/k=h.size+2\/k∈K) Z.sat (v.mono Z.le) ?_ ?_ ?_
 ·intro k Y;(try simp only[bJ]);rcases Y with Y|Y|Y
  ·exact zaa
  ·exact zaa
  ·have:=U k Y;exact zaa
 ·intro C;refine rA ?_;have E:=(show aD I h I (aO ((((h.push (aV #[aB m] 320)).push (aV #[.pointer (some A)] 90)).push (aV #[n0] 323)).push (aV #[] 348)) (h.size+1+1) 0 n0)from aP O);have Z:=(P.step E λ _ _=>id).doneD (g:=λ k=>k=m\/k∈K) (E.weak λ _ _=>False.elim) (λ k Y=>.inr (.inr Y)) zab;exact hR _ _ none Z.1 ⟨(aK.fp_ne z).trans G,_,E.blk M id,rfl,rfl⟩ (by rw[C];exact Z.2) (by rw[C];simp[k5,fZ])
 ·intro J a v y f p l T Q;have w:(_:aK) m=none:=(Z.dom m q id).trans G;have W:(I.add (λ k=>decide (k=h.size\/k=h.size+1)) ((((h.push (aV #[aB m] 320)).push (aV #[.pointer (some A)] 90)).push (aV #[n0] 323)).push (aV #[] 348))) (h.size+2)=none:=by unfold aK.add;rw[if_neg zab];exact O.fresh zaa
  have u:=Z.trans f;rw[ej NF];refine DF (L:=L) f.sat (U:=90) (z:=320) (f.le _ _ (ev _ _ (.inr rfl) Bk)) (f.le _ _ (ev _ _ (.inl rfl) Bk)) (f.blk (show blk _ (h.size+2)=_ from Bk) id) ((f.dom _ (by(try simp only[bJ]);exact zaa) id).trans W) (B.mono u.le) (H.mono u.le) (N.mono u.le) (u.blk M id) ((f.dom m (by(try simp only[bJ]);exact zaa) id).trans w) t (P.step u λ _ _=>id) z (λ F=>cW (U _ F)) zaa (cW u.size) p l a0 λ V N c d t a J r H=>?_;refine Q V N (d.weak λ k _ F=>F) ?_;refine rB t.b ?_;have O:aO N (h.size+1+1) 0 n0=N:=eM t rfl;refine(show R n0 (aO N (h.size+1+1) 0 n0)from O.symm▸hR V N c ((u.seq d).weak λ k Y F=>?_) J r H);rcases F with F|F|F|F
  ·exact F.elim
  ·exact zcp
  ·exact zaa
  ·exact .inr F
theorem JD(Z:aN I h){s:OS}(S:dr I d A)(D:cU I bT ⟨u,0,none⟩)(M:blk h n=aE #[a,d,aB u,nilp,nilp,nilp,nilp,bf,aB l,n0,nilp,co t] 327)(G:I n=none)(j:dD m I h l K bA none)(z:n∉K)(r:m<=h.size)(p:PV I a b)(H:kt I b s)(e:EM s)(L:∀V U c,aC (λ k=>k=n\/k∈K) I h V U->TW V U n l->cz V (aB l) (E3 s) bA c->k5 s c->R n0 U):Cf h 172 #[aB n] R:=by
 have x:aG a=true:=by obtain⟨w,C,rfl,-⟩:=p;rfl
 have F:aG d=true:=by obtain⟨w,C,h,rfl,-⟩:=S;rfl
 have Y:eO I A:=by obtain⟨w,C,h,-,-,-,Y⟩:=S;exact Y
 obtain⟨P,X,q,B,l,E,-⟩:=Y;have f:=B;obtain⟨J,d,rfl,b⟩:=B;refine H.map λ t X=>?_;refine tf (rB M.c ?_);refine d9 (C:=dc u) Z (kB S D) (.inr ⟨_,H.tr,p⟩) λ N P=>?_;have D:=P.blk M id;refine rA ?_;refine GT (rB D.c ?_);refine lx P.sat (X▸p.mono P.le) λ K r=>?_;have v:=P.trans r;have i:=v.sat;have g:=At.of i (v.le _ _ b);have b:aI K J 8=some s0:=by have:=g 8 s0 rfl;exact zai
 refine rD (r.blk D id).c b @fI ?_;refine qb (s:=s) i (f.mono v.le) (l.mono v.le) (E.mono v.le) (r.blk D id) ((v.dom n (aF M) id).trans G) ?_ (j.step v λ _ _=>id) z (cW v.size) (X▸H.mono v.le) e λ V U c E Q r H=>?_
 ·intro S O;simp only[List.mem_cons,List.not_mem_nil,or_false]at O;rcases O with rfl|rfl|rfl|rfl|rfl|rfl|rfl|rfl<;>first|exact x|exact F|rfl
 ·refine cG ?_;exact L V U c ((v.weak λ _ _=>False.elim).trans E) Q r H
theorem mi{T:aK}{O:Heap}(Z:aN T O)(x:aG a=true)(F:aG b=true)(L:∀E W w U,aD T O T U->O.size<=E->O.size<=W->E≠W->blk U W=aE #[n0,n0] 279->blk U E=aE #[a,b,aB m,nilp,nilp,nilp,nilp,bf,aB W,n0,nilp,co w] 327->R (aB E) U):Cf O 170 #[.agg (a::dc m++[b]).toArray] R:=by
 apply Vw;try simp(disch:=omega)only[go_sem,↓reduceIte,dc,x,F]
 refine dZ (I:=T) (aC.sat (D:=none_) (I:=T) (h:=O) (aP Z)) λ w N S=>?_;have j:blk N (O.size+1)=aE #[a,b,aB m,nilp,nilp,nilp,nilp,bf,aB (O.size+2),n0,nilp,ni] 327:=S.blk Bk id;have g:blk N (O.size+2)=aE #[n0,n0] 279:=S.blk Bk id;have E:aD T O T N:=aC.trans (aP Z) S;have r:=aF j;refine rB j.b ?_;refine L _ (O.size+2) w _ (aC.put E (.inl zaa) (Z.fresh zaa)) zaa zaa zaa ?_ ?_
 ·rw[bO,if_neg zaa,g]
 ·rw[bO,if_pos rfl,j];rfl
theorem Bq:vV Tryz.f171=true:=zag
theorem GV:pJ Tryz.f171 IN R [a] h=x4 R a h:=zag
theorem As{T:Heap->Prop}(Y:x4 (λ _ U=>T U) a h):Dg h {target:=.fn (.func 171) #[],args:=#[]++#[a]} T:=by intro E M;refine⟨_,_,171,#[a],rfl,?_,En (x:=[a]) (R:=λ _ U=>T U) Tryz.func171 IN Bq GV Y E M⟩;exact e9 zag _ E
theorem lQ{T:aK}{O:Heap}(Z:aN T O){J Q:Value}{g:OS}(S:dr T Q A)(X:cU T bT ⟨t,0,none⟩)(p:PV T J a)(B:kt T a g)(P:EM g)(L:∀w c V U,aD T O V U->cz V w (E3 g) bA c->k5 g c->R (bj w ni) U):Cf O 115 #[.agg (J::dc t++[Q]).toArray] R:=by
 have x:aG J=true:=zav;have F:aG Q=true:=by obtain⟨u,C,K,rfl,-⟩:=S;rfl
 apply Jk;try simp(disch:=omega)only[go_sem,↓reduceIte,dc,x,F]
 refine mi (m:=t) (a:=J) (b:=Q) (T:=T) (aC.sat (D:=none_) (I:=T) (h:=O) (aP Z)) x F λ E W w y l k m n f j=>?_;have z:aD T O T y:=aC.trans (aP Z) l;(try simp only[bJ]at k);(try simp only[bJ]at m);have l:=aF f;refine rA ?_;refine JD (m:=O.size) (s:=g) (K:=[W]) z.sat (S.mono z.le) (X.mono z.le) j (Z.fresh zaa) ⟨f,zab,λ r Y=>?_⟩ (bS n) z.size (p.mono z.le) (B.mono z.le) P λ V t c q Q p H=>?_
 ·rw[List.mem_singleton.1 Y];exact⟨zaa,l,Z.fresh zaa⟩
 have S:aD T O V t:=z.trans' q λ r Y G=>by
  rcases G with G|G
  ·exact zaa
  ·have:=List.mem_singleton.1 G;exact zaa
 have M:V E=none:=Q.1;refine Q.2.elim λ z b=>?_;refine lc ⟨z,b.1,b.2.1⟩ λ f t g e z a C z K d E P i=>?_;have B:K=aB W:=zbp;refine rC i.c B ?_;refine As ?_;unfold x4;refine rB i.b ?_;refine L _ c V _ ?_ p H;repeat'(first|with_reducible exact S|with_reducible refine aC.put ?_ (Or.inl zaa) M)
def Vi:(Ln h 241 a λ b=>Lp (∃(c:V2)(d:N2),c n0 i0 h/\∀e f g,c e f g->(bv g .lss 3 f b (Lp (∃b:V1,(∀a i,b a i->(Bi i .add 3 f i1 λ b=>(c a b i/\d a b i<d e f g)))/\(Ia g 241 a f λ a=>Ld g 20 a λ a=>Ta g a 20 369 true λ c=>Ex c 1 λ d=>Ex c 0 λ c=>Cd d (bH g 369 c λ a c=>Ld c 369 a λ a=>Bs c 252 1 #[(0,a)] λ a c=>Ap c 252 e a λ a c=>b a c) (Ta g a 20 3 true λ c=>Ex c 1 λ d=>Ex c 0 λ c=>Cd d (bH g 3 c λ a c=>Bd c 369 #[(3,a)] λ a=>Bs c 252 1 #[(0,a)] λ a c=>Ap c 252 e a λ a c=>b a c) (Ta g a 20 9 true λ c=>Ex c 1 λ d=>Ex c 0 λ c=>Cd d (bH g 9 c λ a c=>Bd c 369 #[(0,a)] λ a=>Bs c 252 1 #[(0,a)] λ a c=>Ap c 252 e a λ a c=>b a c) (Ta g a 20 365 true λ c=>Ex c 1 λ d=>Ex c 0 λ c=>Cd d (Nc c<|Ld g 441 c λ a=>Ln g 441 a λ a=>ce g 3 a i0 (Cf g 91 #[dO 0x6173736f63696174697665206c697374206b65792074797065207061746820656c656d656e7473206d7573742068617665206174206c65617374206f6e65206b65792028676f74207a65726f29] λ a b=>R (bj n0 a) b) (Bd g 369 #[(1,c)] λ a=>Bs g 252 1 #[(0,a)] λ a c=>Ap c 252 e a λ a c=>b a c)) (Ta g a 20 228 true λ a=>Ex a 1 λ c=>Ex a 0 λ a=>Cd c (bH g 228 a λ a c=>Bd c 369 #[(2,a)] λ a=>Bs c 252 1 #[(0,a)] λ a c=>Ap c 252 e a λ a c=>b a c) (Cf g 91 #[dO 0x756e61626c6520746f206d616b652061207061746820656c656d656e74] λ a b=>R (bj n0 a) b)))))))) (R (bj e ni) g))))->Cf h 454 #[a] R:=mS Tryz.func454 (Z (Z (Q (Z (B (O [4,15] (Z (Q d8 (Y [4] (B (Z (Z (B (Z (C bG (Z (C bG (Z (C bG (Z (C AP (Z (C bG cX)))))))))))))) L)))))) bG)))
theorem aC.forget{g:Nat->Prop}{T:aK}(K:I.le J)(B:aC g J h T H):aC g I h I H:=⟨B.size,B.same,λ _ _ _=>rfl,aK.le.refl _,λ u X i=>B.sat u X (B.le u X (K u X i))⟩
theorem aN.one(Z:aN I h)(b:Nat):aN (I.one b h) h:=by
 intro r X i;unfold aK.one aK.add at i;split at i
 ·exact i
 ·exact Z r X i
theorem aN.one_le(Z:aN I h)(u:Nat):I.le (I.one u h):=aK.add_le Z _
theorem or(Z:aN I h){B:Option Addr}(D:0<m)(L:∀O Q U,aD I h I U->h.size<=O->h.size<=Q->O≠Q->blk U O=aE #[.slice B m n,aB Q,aR (-1)] 661->blk U Q=aE #[ni] 432->R (.iface 655 (aB O)) U):Cf h 467 #[.slice B m n,co o] R:=by
 have a:((m:Int)==0)=false:=by simp;exact zaa
 refine Qt (rB a ?_);refine T5 (rA ?_);exact L (h.size+1) h.size _ (aP Z) zaa zaa zaa Bk Bk
theorem qC{B:Option Addr}{M:Int}(j:blk h m=aE #[.slice B n o,a,aR M] 661)(d:-1<=M/\M<1000000000){D:Int}(K:D=M+1)(L:R (.bool (decide (D<(n:Int)))) (aO h m 2 (aR D))):Cf h 492 #[aB m] R:=by subst K;refine Qs (rB j.b ?_);exact L
theorem qy(j:blk h m=aE #[bq o l t u,aB n,aR v] 661)(p:blk h n=aE #[a] 432)(e:m≠n)(d:v<t)(k:aI h o (l+v)=some b)(g:aG b=true)(L:R (bj (aR v) (.iface 362 (aB n))) (aO h n 0 b)):Cf h 491 #[aB m] R:=by
 have a:((v:Int)<0)=False:=zab;have z:((v:Int)>=(t:Int))=False:=by simp;exact zaa
 have Q:blk (aO h n 0 b) m=aE #[bq o l t u,aB n,aR v] 661:=by rw[bO,if_neg (λ C=>e C.symm)];exact j
 apply Tb;refine⟨_,λ _ W=>W,?_⟩;have V:decide ((v:Int)<0)=false:=zab;have X:decide ((v:Int)>=(t:Int))=false:=by simp;exact zaa
 have A:decide ((v:Int)<(t:Int))=true:=by simp;exact zaa
 have E:n≠m:=λ C=>e C.symm;refine rC j.c V ?_;refine⟨_,λ _ W=>W,?_⟩;refine rE j.c X A k ?_;refine iB p g ?_;refine rC j.c E ?_;exact L
theorem mF{T:aK}{O:Heap}(Z:aN T O)(j:blk O m=aE #[.iface 369 (.agg x.toArray)] o)(w:bM T x G)(L:∀i V U,aD T O V U->lI V i [G]->R (bj i ni) U):Cf O 454 #[bq m 0 1 1] R:=by
 have P:=w;have v:=w.one;obtain⟨F,N,l,c,rfl⟩:=cL w.1;have x:=v F (by simp);have S:=v N (by simp);have y:=v l (by simp);have u:=v c (by simp);have e:=aF j;apply Vi;try simp(disch:=omega)only[go_sem,↓reduceIte]
 refine⟨λ w J Q=>(J=i0/\w=n0/\O=Q)\/(J=i1/\aD T O T Q/\aQ O.size T Q 369 4 w 1 [F,N,l,c]),λ _ J _=>match J with|.int _ M=>1-M.toNat|_=>0,.inl ⟨rfl,rfl,rfl⟩,?_⟩;rintro _ _ Q(⟨rfl,rfl,rfl⟩|⟨rfl,E,W⟩)
 ·try simp(disch:=omega)only[go_sem,↓reduceIte,aA j,Int.toNat_zero,Nat.add_zero,x,S,y,u]
  refine⟨_,λ _ _ m=>m,?_⟩;try simp(disch:=omega)only[go_sem,↓reduceIte,aA j,Int.toNat_zero,Nat.add_zero,x,S,y,u]
  refine bY gO rfl (by omega) (by omega) (H:=#[F,N,l,c]) (v:=0) (c:=[]) (u:=O.size) (T:=T) Bk (aQ.nil _ _ _ _ _) (aC.sat (D:=none_) (I:=T) (h:=O) (aP Z)) rfl (by simpa using⟨x,S,y,u⟩) (by omega) (by(try simp only[aJ,aL,Array.size_push]);omega) λ s G d H m k=>?_;try simp(disch:=omega)only[go_sem,↓reduceIte]
  have a:aD T O T G:=aC.touch (show aD T O T _ from aP Z) H λ U z=>by simp[Value.ownBlock]at z
  have b:aQ O.size T G 369 4 s 1 [F,N,l,c]:=by simpa using d
  exact⟨by first|exact .inr ⟨rfl,a,b⟩|exact .inr ⟨a,b⟩,by decide⟩
 ·try simp(disch:=omega)only[go_sem,↓reduceIte]
  obtain⟨f,i,k⟩:=W.frz E bu (by omega) v;exact L _ _ _ f ⟨[F,N,l,c],k,by simpa using Rows.cons (P.mono f.le) .nil⟩
def Tq:(aM h 459 a 0 228 λ c=>Iv h c "IsList" #[] λ c d=>cD d c (R n0 d) (aM d 459 a 0 228 λ c=>aM d 459 a 4 225 λ e=>Nc c<|Iv d c "AsListUsing" #[e] λ c d=>aM d 459 a 4 225 λ e=>Nc e<|Eb d .eql 338 false true c ni λ f=>Gd d f false (λ a b=>a c b) λ d g=>Gd g f false (λ a b=>Iv b d "Length" #[] λ b c=>a b c) λ d g=>Gd g f false (λ a b=>Eb b .eql 3 false true d i0 λ c=>a c b) λ d g=>Pk f bt d λ d=>Cd d (Lp (∃b:V0,(∀a,b a->(Dg a (cH e c) λ a=>R n0 a))/\(Nc a<|Fa g 459 a 5 λ c=>Ld g 4 c λ c=>Cd c (aM g 459 a 0 228 λ c=>Iv g c "Unstructured" #[] λ c d=>bC d 459 a 1 20 c λ a=>b a) (b g)))) (aM g 354 b 1 240 λ d=>ce g 240 d (aU ⟨#[97,116,111,109,105,99]⟩) (Lp (∃b:V0,(∀a,b a->(Dg a (cH e c) λ a=>R n0 a))/\(Nc a<|Fa g 459 a 5 λ c=>Ld g 4 c λ c=>Cd c (aM g 459 a 0 228 λ c=>Iv g c "Unstructured" #[] λ c d=>bC d 459 a 1 20 c λ a=>b a) (b g)))) (aM g 459 a 4 225 λ d=>Nc (.func (.method "RangeUsing") #[c] #[])<|Iv g c "RangeUsing" #[d] λ d f=>aM f 459 a 4 225 λ g=>Nc g<|Lp (∃(i:V1)(j:N1),i n0 f/\∀f k,i f k->(Iv k d "Next" #[] λ l m=>Cd l (Iv m d "Item" #[] λ c d=>aW c λ _ c=>Lp (∃e:V1,(∀d g,e d g->(Ld g 369 d λ e=>Mi g 369 e λ e=>Bs g 241 1 #[(0,e)] λ e g=>Cf g 454 #[e] λ e g=>aW e λ e _=>aM g 459 a 3 173 λ l=>Cf g 455 #[l,e] λ e g=>aM g 459 a 3 173 λ l=>Ld g 369 d λ m=>Cf g 456 #[l,m] λ g l=>Cf l 93 #[g] λ g l=>Nt l g λ g=>aM l 459 a 5 4 λ m=>Cd m (Lp (∃m:V1,(∀a b,m a b->(Gd b e false (λ a b=>a g b) λ b c=>Pk e bt b λ b=>Cd b (Iv c a "Unstructured" #[] λ a b=>Bs b 241 1 #[(0,a)] λ a b=>Ap b 241 f a λ a b=>(i a b/\j a b<j f k)) (i f c/\j f c<j f k)))/\(Cd g (aM l 459 a 3 173 λ e=>Ld l 369 d λ d=>bg l 459 a 2 λ f=>Ld l 86 f λ g=>bg l 354 b 0 λ i=>Ld l 95 i λ j=>bg l 459 a 5 λ k=>Ld l 4 k λ n=>Cf l 456 #[e,d] λ d e=>aX e 459 a 2 f 86 g<|aX e 354 b 0 i 95 j<|aX e 459 a 5 k 4 n<|(Cf e 218 #[c,d,g,j,n] λ a b=>m a b)) (m c l)))) (Cd e (i f l/\j f l<j f k) (Lp (∃e:V1,(∀a b,e a b->(Iv b a "Unstructured" #[] λ a b=>Bs b 241 1 #[(0,a)] λ a b=>Ap b 241 f a λ a b=>(i a b/\j a b<j f k)))/\(Cd g (aM l 459 a 3 173 λ f=>Ld l 369 d λ d=>bg l 459 a 2 λ g=>Ld l 86 g λ i=>bg l 354 b 0 λ j=>Ld l 95 j λ k=>bg l 459 a 5 λ m=>Ld l 4 m λ n=>Cf l 456 #[f,d] λ d f=>aX f 459 a 2 g 86 i<|aX f 354 b 0 j 95 k<|aX f 459 a 5 m 4 n<|(Cf f 218 #[c,d,i,k,n] λ a b=>e a b)) (e c l)))))))/\(Nc a<|Fa d 459 a 4 λ f=>Ld d 225 f λ g=>bg d 459 a 2 λ i=>Ld d 86 i λ j=>(Cf d 332 #[g,j,b,c] λ b c=>aW b λ b _=>Al c 369 λ c d=>aX d 459 a 4 f 225 g<|aX d 459 a 2 i 86 j<|(Sr d 369 c b λ a=>e c a))/\(Al d 369 λ d k=>aX k 459 a 4 f 225 g<|aX k 459 a 2 i 86 j<|(Cf k 332 #[g,j,b,c] λ a b=>aW a λ a _=>Sr b 369 d a λ a=>e d a))))) (Lp (∃b:V0,(∀a,b a->(Dg a (cH g d) λ a=>Dg a (cH e c) λ a=>R n0 a))/\(Ln m 241 f λ c=>bv m .gtr 3 c i0 (Mi m 241 f λ c=>bC m 459 a 1 20 c λ a=>b a) (b m))))))))))->Cf h 451 #[a,b] R:=mS Tryz.func451 (Z (Q cg (Q PJ (Z (Q (Z (C qU L)) (Q (Z (C qU L)) (Z (Q (X #[0,0,2,6,14,1,33,97,255,511]) (Z (Q (B (O [6] (Q cF (B (Z (Y [10] wf (Z (Z (Q (X #[0,1,3,7,0,31,63,127,255]) (Z (C (Y [9] PA cF) (Q cF (Y [9] PA L))))))))))))) qU))))))))))
def It:(Bx h 95 d λ d f=>Cf f 118 #[] λ f g=>Bd g 459 #[(0,a),(2,c),(3,b),(4,f),(5,e)] λ b=>Bx g 459 b λ b e=>Ld e 95 d λ d=>Mi e 457 b λ f=>Cf e 217 #[c,d,a,f] λ _ a=>aM a 459 b 1 20 λ b=>Cf a 130 #[b] λ a b=>R a b)->Cf h 218 #[a,b,c,d,e] R:=mS Tryz.func218 uw
theorem OT:dK 655 "Next"=some 492:=zag
theorem NT:dK 655 "Item"=some 491:=zag
@[go_sem] theorem VB{B:cQ}:Iv h (.iface 655 a) "Next" B R=Cf h 492 (#[a]++B) R:=dH OT
@[go_sem] theorem VT{B:cQ}:Iv h (.iface 655 a) "Item" B R=Cf h 491 (#[a]++B) R:=dH NT
theorem JU:dK 457 gI=some 451:=zag
theorem MX:dK 457 gJ=some 452:=zag
@[go_sem] theorem Vy{B:cQ}:Iv h (.iface 457 a) gI B R=Cf h 451 (#[a]++B) R:=dH JU
@[go_sem] theorem VG{B:cQ}:Iv h (.iface 457 a) gJ B R=Cf h 452 (#[a]++B) R:=dH MX
noncomputable def d7(x:bU)(H:bn):bn:=H.filter λ A=>@decide (¬El.val A∈x) (Classical.propDecidable _)
def FT(T:aK)(G:Value)(H:bn):Prop:=(H=[]/\G=ni)\/(H≠[]/\er T G H)
def Jr(a b c d:Value)(e f:Heap)(g:V1)(i:N1):Prop:=Lp (∃j:V1,(∀f k,j f k->(Ld k 369 f λ j=>Mi k 369 j λ j=>Bs k 241 1 #[(0,j)] λ j k=>Cf k 454 #[j] λ j k=>aW j λ j _=>aM k 459 a 3 173 λ H=>Cf k 455 #[H,j] λ j k=>aM k 459 a 3 173 λ H=>Ld k 369 f λ x=>Cf k 456 #[H,x] λ k H=>Cf H 93 #[k] λ k H=>Nt H k λ k=>aM H 459 a 5 4 λ x=>Cd x (Lp (∃x:V1,(∀a b,x a b->(Gd b j false (λ a b=>a k b) λ b c=>Pk j bt b λ b=>Cd b (Iv c a "Unstructured" #[] λ a b=>Bs b 241 1 #[(0,a)] λ a b=>Ap b 241 d a λ a b=>(g a b/\i a b<i d e)) (g d c/\i d c<i d e)))/\(Cd k (aM H 459 a 3 173 λ d=>Ld H 369 f λ e=>bg H 459 a 2 λ f=>Ld H 86 f λ g=>bg H 354 b 0 λ i=>Ld H 95 i λ j=>bg H 459 a 5 λ k=>Ld H 4 k λ v=>Cf H 456 #[d,e] λ d e=>aX e 459 a 2 f 86 g<|aX e 354 b 0 i 95 j<|aX e 459 a 5 k 4 v<|(Cf e 218 #[c,d,g,j,v] λ a b=>x a b)) (x c H)))) (Cd j (g d H/\i d H<i d e) (Lp (∃j:V1,(∀a b,j a b->(Iv b a "Unstructured" #[] λ a b=>Bs b 241 1 #[(0,a)] λ a b=>Ap b 241 d a λ a b=>(g a b/\i a b<i d e)))/\(Cd k (aM H 459 a 3 173 λ d=>Ld H 369 f λ e=>bg H 459 a 2 λ f=>Ld H 86 f λ g=>bg H 354 b 0 λ i=>Ld H 95 i λ k=>bg H 459 a 5 λ x=>Ld H 4 x λ v=>Cf H 456 #[d,e] λ d e=>aX e 459 a 2 f 86 g<|aX e 354 b 0 i 95 k<|aX e 459 a 5 x 4 v<|(Cf e 218 #[c,d,g,k,v] λ a b=>j a b)) (j c H)))))))/\(Nc a<|Fa f 459 a 4 λ d=>Ld f 225 d λ e=>bg f 459 a 2 λ g=>Ld f 86 g λ i=>(Cf f 332 #[e,i,b,c] λ b c=>aW b λ b _=>Al c 369 λ c f=>aX f 459 a 4 d 225 e<|aX f 459 a 2 g 86 i<|(Sr f 369 c b λ a=>j c a))/\(Al f 369 λ f k=>aX k 459 a 4 d 225 e<|aX k 459 a 2 g 86 i<|(Cf k 332 #[e,i,b,c] λ a b=>aW a λ a _=>Sr b 369 f a λ a=>j f a))))
theorem AT{L:Nat}{T:aK}{O:Heap}(Z:aN T O){G:bW}{M:Value->Heap->Prop}{k:Value->Heap->Nat}(j:blk O m=aE #[a,ni,b,c,co l,bf] 459)(N:blk O o=aE #[bE S] 432)(Y:cO T A)(r:cz T c E bA none)(ox:aQ L T O 20 1 d t G)(p:d.ownBlock≠some o)(s:t+1<=2147483648)(P:L<=O.size)(a0:El.val S∈E->∀U,aD T O T U->M d U/\k d U<k d H)(a1:¬El.val S∈E->∀s U,aC (λ t=>d.ownBlock=some t) T O T U->aQ L T U 20 1 s (t+1) (G++[bE S])->(s.ownBlock=d.ownBlock\/∃g,s.ownBlock=some g/\O.size<=g)->M s U/\k s U<k d H):Jr (aB m) (.pointer (some A)) (.iface 362 (aB o)) d H O M k:=by
 have K:aG c=true:=zcl;have b:=Z.one o;have a2:=Y;have F:PV (T.one o O) (.iface 362 (aB o)) (bE S):=⟨o,432,rfl,aK.one_eq N⟩;have K:T.le (T.one o O):=aN.one_le Z o;have M:=ox.one;unfold Jr;refine⟨λ B i=>tq (T.one o O) O S B i,λ B i Q=>?_,?_⟩
 ·refine Q.elim λ l V u q c J U Q z C=>?_;have S22:=Q.sat;have v:=C.one;have x:=v u zab;have a:=v q zab;have y:=v c zab;have q3:=v J zab;have w:=Q.blk j id;refine rC z.c U ?_;refine mF (o:=20) (G:=.val S) (x:=[u,q,c,J]) (T:=V) (aC.sat (D:=none_) (I:=V) (h:=i) (aP S22)) Bk C λ p R k R X=>?_;have H:=Q.trans (aC.trans (show aD V i V _ from aP S22) R);have P:=H.sat;have A:=H.blk j id;have f:=R.blk ((show aD V i V _ from aP S22).blk z id) id;refine rB A.c ?_;refine rb P (r.mono (K.trans H.le)) X λ W d B w=>?_;have m:=H.trans B;have S5:=B.sat;have X:=m.blk j id;have l:=B.blk f id;refine rD X.c l.c U ?_;refine lW S5 (r.mono (K.trans m.le)) (x:=[u,q,c,J]) (G:=.val S) (C.mono ((aC.trans (show aD V i V _ from aP S22) R).le.trans B.le)) (.inl rfl) λ Y k Q d P=>?_;have M:=m.trans d;refine rA ?_;refine gl M.sat P λ p f=>?_;have P:=M.trans f;have U:=f.sat;have Y:=P.blk j id;have k:=P.blk N id;have l:(List.isEmpty ((none:ex).getD [])&&fh none)=true:=rfl;refine rC Y.c l ?_;have Q:aD T O T p:=P.forget K;cases W
  ·have V:¬El.val S∈E:=λ z=>by have:=w.2 z;cases this
   refine rA ?_;refine⟨_,λ _ _ W=>W,?_⟩;refine rB k.c ?_;refine e7 Q.sat rfl λ N Y=>?_;have p:=Q.trans Y;have B:=ox.step p λ _ _=>id;refine rA ?_;have d:=p.sat;refine bY kR rfl zaa zaa (H:=#[bE S]) (v:=t) (c:=G) (u:=L) (T:=T) Bk (B.push _) ((aC.refl (D:=none_) d).push _).sat rfl (by simp[cT]) zaa (by(try simp only[bJ]);have:=p.size;exact zaa) λ s G N H m k=>?_;refine a1 V s G (aC.touch ((p.weak λ _ _=>False.elim).push _) H λ g z=>⟨.inr z,ox.2 g z⟩) (bS N) (k.imp id λ⟨g,z,Y⟩=>⟨g,z,by(try simp only[bJ]at Y);have:=p.size;exact zaa⟩)
  ·refine rA ?_;exact a0 (w.1 rfl) _ Q
 ·have p:=aF j;refine rB j.c ?_;refine⟨?_,?_⟩
  ·refine en b (a2.mono (aN.one_le Z o)) F λ w f P X C=>?_;have z:=X.sat;have L:=X.blk j id;have l:=aF L;have v:=C.one;refine Exists.elim (cL C.1) λ u W=>Exists.elim W λ q W=>Exists.elim W λ c W=>Exists.elim W λ J W=>?_;have x:=v u (by rw[W];exact zab);have a:=v q (by rw[W];exact zab);have y:=v c (by rw[W];exact zab);have q3:=v J (by rw[W];exact zab);refine rG L.c W x a y q3 ?_;have G:f P.size=none:=z.fresh bu;exact⟨P.size,f,rfl,aC.put (aC.put (aC.put (aC.put (X.push _) (.inl X.size) G) (.inl X.size) G) (.inl X.size) G) (.inl X.size) G,u,q,c,J,Bk,W▸C⟩
  ·refine en (show aD (T.one o O) O (T.one o O) _ from aP b).sat (a2.mono (aN.one_le Z o)) F λ w f P X C=>?_;have t:aD (T.one o O) O f P:=aC.trans (aP b) X;have R:=X.size;(try simp only[bJ]at R);have N:blk P O.size=aE #[nilp,nilp,nilp,nilp] 369:=X.blk Bk id;have v:=C.one;refine Exists.elim (cL C.1) λ u W=>Exists.elim W λ q W=>Exists.elim W λ c W=>Exists.elim W λ J W=>?_;have x:=v u (by rw[W];exact zab);have a:=v q (by rw[W];exact zab);have y:=v c (by rw[W];exact zab);have q3:=v J (by rw[W];exact zab);refine rG N.b W x a y q3 ?_;have G:f O.size=none:=by rw[X.dom _ (by(try simp only[bJ]);exact zaa) id];exact b.fresh bu
   exact⟨O.size,f,rfl,aC.put (aC.put (aC.put (aC.put t (.inl bu) G) (.inl bu) G) (.inl bu) G) (.inl bu) G,u,q,c,J,bz N,W▸C⟩
def EG(h:Heap)(O:Nat):Nat:=match aI h O 2 with|some (.int _ i)=>(i+1).toNat|_=>0
theorem kZ{M:Int}(j:blk h m=aE #[a,b,aR M] 661):EG h m=(M+1).toNat:=by unfold EG;rw[aA j];rfl
theorem A1(Z:aN I h)(L:blk h m=aE #[a,ni,b,c,co n,bf] 459)(a0:I m=none)(p:PV I a (.iface 241 d))(e:cd I d 1 z.length (z.map bE))(f:0<z.length)(X:z.length<1000000)(Y:cO I A)(fs:cz I c E bA none)(hR:∀G V U,aC (Eq m) I h V U->blk U m=aE #[a,G,b,c,co n,bf] 459->FT V G (d7 E z)->V m=none->R n0 U):Cf h 451 #[aB m,.pointer (some A)] R:=by
 have J:=Y;have a:=p;have a:=e;have K:aG c=true:=by obtain⟨W,C,y,w,rfl,-⟩:=fs;rfl
 obtain⟨K,⟨u,C,rfl,l⟩,k⟩:=Y;obtain⟨s,D,rfl,y⟩:=p;obtain⟨ya,q,rfl,H,R⟩:∃A t,d=.slice A z.length t/\z.length<=2147483647/\(∃u s,A=some ⟨u,s,none⟩/\∀M S,(z.map bE)[M]?=some S->bP I u (s+M)=some S):=by obtain⟨A,t,C,-,-,N,-,K⟩:=e;exact⟨A,t,C,N,K f⟩
 obtain⟨D,g,rfl,V⟩:=R;have P:=aF L;refine Tq (rC L.c (Z _ _ y).c ?_);refine fQ Z .lst λ o v=>?_;have X:=v.sat;have x:=v.blk L id;try simp(disch:=omega)only[go_sem,↓reduceIte,dz,aA x,aA (X _ _ y)]
 refine km X λ N P=>?_;have W:=P.sat;have H:=P.blk x id;have s:=v.trans P;have F:=At.of W (s.le _ _ l);have R:aI N u 6=some (aU fb):=by have:=F 6 (aU fb) rfl;exact zai
 refine rD H.c R @c7 ?_;refine dW ?_;have T:((z.length:Int)==0)=false:=by simp;intro C;simp[C]at f
 refine rB T ?_;refine rD H.c R @c7 ?_;refine or W f λ O Q K r N c k o w=>?_;have i:=r.sat;have p:=r.blk H id;have R:=s.trans r;refine rB p.c ?_;have e:=R.size;refine⟨λ X G=>∃M:Nat,M<=z.length/\K.size<=G.size/\aD I h I G/\blk G O=aE #[bq D g z.length q,aB Q,aR ((M:Int)-1)] 661/\(∃S,blk G Q=aE #[S] 432)/\aQ K.size I G 20 1 X (d7 E (z.take M)).length ((d7 E (z.take M)).map bE),λ _ G=>z.length-EG G O,⟨0,zaa,Nat.le_refl _,R,o,⟨_,w⟩,aQ.nil _ _ _ _ _⟩,?_⟩;rintro X G⟨M,d,c,T,e,⟨S,l⟩,W⟩;have B:=T.sat;have d:=T.size;have a:∀r,h.size<=r->I r=none:=λ r Y=>Z.fresh Y;have H:=aF o;have t:=aF w;have i:=s.size;have R:=W.one;refine rA ?_;refine qC (D:=M) e zaa zaa ?_;have P:aD I h I (aO G O 2 (aR M)):=aC.put T (.inl zaa) (a _ zaa);have B:blk (aO G O 2 (aR M)) O=aE #[bq D g z.length q,aB Q,aR M] 661:=bz e;have U:blk (aO G O 2 (aR M)) Q=aE #[S] 432:=by rw[bO,if_neg k];exact l
 have F:aQ K.size I (aO G O 2 (aR M)) 20 1 X (d7 E (z.take M)).length ((d7 E (z.take M)).map bE):=W.put zaa;by_cases o:M<z.length
 ·have t:decide ((M:Int)<(z.length:Int))=true:=by simp;exact zaa
  have R:=P.sat.cell (V M (bE z[M]) zbL);refine rB t ?_;refine qy B U k o R rfl ?_;have T:aD I h I (aO (aO G O 2 (aR M)) Q 0 (bE z[M])):=aC.put P (.inl zaa) (a _ zaa);have l:blk (aO (aO G O 2 (aR M)) Q 0 (bE z[M])) Q=aE #[bE z[M]] 432:=bz U;have N:blk (aO (aO G O 2 (aR M)) Q 0 (bE z[M])) O=aE #[bq D g z.length q,aB Q,aR M] 661:=by rw[bO,if_neg (λ C=>k C.symm)];exact B
  refine rA ?_;have n:X.ownBlock≠some Q:=λ C=>cW (W.1.block C).1;have a:X.ownBlock≠some O:=λ C=>cW (W.1.block C).1;have d:z.take (M+1)=z.take M++[z[M]]:=List.take_succ_eq_append_getElem o;have f:(d7 E (z.take M)).length<=M:=by have:=List.length_filter_le (λ b=>@decide (¬El.val b∈E) (Classical.propDecidable _)) (z.take M);rw[List.length_take]at this;unfold d7;exact zaa
  refine AT (L:=K.size) T.sat (T.blk L id) l J fs (F.put zaa) n zaa (by(try simp only[bJ]);exact c) (λ B h v=>?_) λ B s h v c jb=>?_
  ·have i:=v.blk N id;refine⟨⟨M+1,o,by have:=v.size;(try simp only[bJ]at this);exact zaa,T.trans v,by rw[i];exact zab,⟨_,v.blk l id⟩,?_⟩,?_⟩
   ·have U:d7 E (z.take (M+1))=d7 E (z.take M):=zcL;rw[U];exact(F.put zaa).step v λ _ _=>id
   ·rw[kZ e,kZ i];exact zaa
  ·have i:=v.blk N a;have U:d7 E (z.take (M+1))=d7 E (z.take M)++[z[M]]:=zcL;refine⟨⟨M+1,o,by have:=v.size;(try simp only[bJ]at this);exact zaa,T.trans' v λ r Y h=>?_,by rw[i];exact zab,⟨_,v.blk l n⟩,?_⟩,?_⟩
   ·have:=(W.1.block h).1;exact zaa
   ·rw[U];simpa using c
   ·rw[kZ e,kZ i];exact zaa
 ·have t:decide ((M:Int)<(z.length:Int))=false:=by simp;exact zaa
  refine rB t ?_;have ei:z.take M=z:=List.take_of_length_le zaa;rw[ei]at F;have x:=P.blk L id;refine F.slK λ K e v=>?_;by_cases w:d7 E z=[]
  ·rw[w]at v;refine rA ?_;refine⟨_,λ _ W=>W,?_⟩;refine rB v ?_;refine cG ?_;refine cG ?_;exact hR ni I _ (P.weak λ _ _=>False.elim) x (.inl ⟨w,rfl⟩) a0
  ·have e:0<(d7 E z).length:=by cases B:d7 E z with|nil=>exact absurd B w|cons A u=>exact zab
   have V:decide (((d7 E z).length:Int)>0)=true:=bS e;have f:(d7 E z).length<=z.length:=List.length_filter_le _ _;have Z:=F.frz (P.weak (D':=Eq m) λ _ _=>False.elim) zaa zaa (by intro S Y;obtain⟨b,-,rfl⟩:=List.mem_map.1 Y;rfl);have L:(I.own X (aO G O 2 (aR M))) m=none:=by unfold aK.own aK.add;rw[if_neg (λ C=>cW (F.1.block (of_decide_eq_true C)).1)];exact a0
   have I:=Z.1;have l:=Z.2.2;rw[v]at l;refine rA ?_;refine⟨_,λ _ W=>W,?_⟩;refine rD x.b v V ?_;refine cG ?_;refine cG ?_;rw[v]at I L;refine hR _ _ _ (aC.put I (.inr rfl) L) (bz x) (.inr ⟨w,_,rfl,l⟩) L
def Tm:(Bx h 9 a λ a g=>Bd g 369 #[(0,a)] λ i=>bH g 369 i λ g i=>Ld i 369 g λ j=>Mi i 369 j λ j=>Bs i 241 1 #[(0,j)] λ i j=>Cf j 454 #[i] λ i j=>aW i λ i _=>Ld j 90 c λ c=>aM j 359 c 2 95 λ c=>bH j 95 c λ c j=>Lp (∃k:V0,(∀d,k d->(Ld d 457 e λ j=>aM d 459 j 3 173 λ j=>Cf d 455 #[j,i] λ d i=>Cd d (Lp (∃d:V0,(∀a,d a->(R (.bool true) a))/\(Ld i 457 e λ g=>aM i 459 g 5 4 λ g=>Cd g (Ld i 242 f λ g=>Ld i 9 a λ j=>Ld i 457 e λ k=>aM i 459 k 3 173 λ k=>Ld i 457 e λ l=>aM i 459 l 2 86 λ l=>Ld i 95 c λ c=>Ld i 457 e λ e=>aM i 459 e 5 4 λ e=>Cf i 218 #[b,k,l,c,e] λ b c=>bh c 242 f g/\bh c 9 a j/\(Iv c b "Unstructured" #[] λ b c=>bh c 242 f g/\bh c 9 a j/\(Mu c 242 g j b λ a=>d a))) (d i)))) (Lp (∃d:V1,(∀b c,d b c->(Ld c 242 f λ d=>Ld c 9 a λ e=>Iv c b "Unstructured" #[] λ b c=>bh c 242 f d/\bh c 9 a e/\(Mu c 242 d e b λ a=>R (.bool true) a)))/\(Ld i 457 e λ a=>aM i 459 a 3 173 λ a=>Ld i 369 g λ f=>Cf i 456 #[a,f] λ a f=>Cf f 93 #[a] λ f g=>cD g f (Ld g 457 e λ f=>aM g 459 f 2 86 λ f=>Ld g 95 c λ c=>Ld g 457 e λ e=>aM g 459 e 5 4 λ e=>Cf g 218 #[b,a,f,c,e] λ a b=>d a b) (Ld g 457 e λ a=>aM g 459 a 5 4 λ a=>Cd a (R (.bool true) g) (d b g)))))))/\(Ld j 96 d λ b=>Ld j 9 a λ a=>Lk j 96 b a true λ a=>aW a λ a b=>bH j 95 a λ a d=>Cd b (Ld d 95 a λ a=>Sr d 95 c a λ a=>k a) (k d))))->Cf h 457 #[a,b,c,d,e,f] R:=mS Tryz.func457 (Z (Z (Z (Z (Y [] jb (Q (Z (C (Y [] (Z (C (X #[0,0,0,0,8,24,56,0,128,384,896,0,0,4096,12288,28672,65532,131068,262143]) L)) bG) L)) (Y [1] (Q (X #[0,1,3,7,0,31,63]) (Z (C (X #[0,0,0,4,12,28,0,0,128,384,896,2047,4095]) cg))) (Q (X #[0,0,0,4,15]) bG))))))))
theorem zd(H:bn):d7 [] H=H:=by unfold d7;rw[List.filter_eq_self];exact zab
theorem FT.mono(O:I.le J)(B:FT I a z):FT J a z:=B.imp id λ⟨C,l⟩=>⟨C,l.mono O⟩
theorem FT.tr(B:FT I a z):Tr a:=by
 rcases B with⟨-,rfl⟩|⟨-,q,rfl,-⟩
 ·exact .nil
 ·exact .lst
theorem zu{T:aK}{O:Heap}(Z:aN T O)(F:aG b=true)(p:PV T a (.iface 241 d))(l:cd T d 1 z.length (z.map bE))(f:0<z.length)(X:z.length<1000000)(Y:cO T A)(r:cz T c E bA none)(L:∀e G V U,aD T O V U->PV V e G->FT V G (d7 E z)->R e U):Cf O 218 #[a,c,b,.agg (ef .li A).toArray,bf] R:=by have x:aG a=true:=zav;have K:aG c=true:=zcl;refine It (rA ?_);refine dZ (I:=T) (aC.sat (D:=none_) (I:=T) (h:=O) (aP Z)) λ w N P=>?_;have d:aD T O T N:=aC.trans (aP Z) P;have W:=P.sat;have g:=P.size;(try simp only[bJ]at g);have o:blk N O.size=aE #[nilp,nilp,.pointer (some A),nilp,nilp,bf] 95:=P.blk Bk id;refine rE o.c x K F ?_;have n:aD T O T (N.push (aV #[a,ni,b,c,co w,bf] 459)):=d.push _;refine d9 (C:=ef .li A) n.sat hB (.inr ⟨_,.lst,p⟩) λ t q=>?_;have S:=n.trans q;have E:blk t N.size=aE #[a,ni,b,c,co w,bf] 459:=q.blk Bk id;refine rA ?_;refine A1 S.sat E (Z.fresh zaa) p l f X Y r λ G V Q Z B H x=>?_;have j:aD T O V Q:=S.trans' Z λ r Y C=>zaa;have w:aG G=true:=H.tr.one;refine rB B.c ?_;refine gn j.sat w λ e E T M l=>rA ?_;exact L e G E T (j.trans M) l (H.mono M.le)
theorem PV.cell(B:PV I a c){M:Prop}(T:∀b e,a=.iface 362 (aB b)->I b=aE #[c] e->M):M:=by obtain⟨b,e,y,N⟩:=B;exact T b e y N
theorem Hh:cC (Array.toList #[⟨aU bA,a,0⟩,⟨aU bB,b,1⟩]) bA=some a:=by rfl
theorem Gh:cC [⟨aU bA,a,0⟩,⟨aU bB,b,1⟩] bA=some a:=by rfl
theorem NX:∀e∈(Array.toList #[(⟨aU bA,a,0⟩:g8),⟨aU bB,b,1⟩]),e.key=aU (aZ e):=zcO
set_option maxHeartbeats 1000000 in theorem DH{T:aK}(Z:aN T h){w q F P G:Nat}{B:Addr}(x:T m=aE #[.pointer (some B)] q)(r:T n=aE #[.map (some t)] F)(X:T o=aE #[aB v] P)(K:T l=aE #[.map (some u)] G)(N:T t=some (.map #[⟨aU bA,.agg (ef .li A).toArray,0⟩,⟨aU bB,j,1⟩] 2))(Y:blk h u=some (.map #[] 0))(a0:T u=none)(s:fl T B c)(hx:cO T A)(os:aG g=true)(M:blk h v=aE #[f,ni,g,i,co w,bf] 459)(Q:cz T i E bA V)(p:PV T d k)(y:er T k z)(hl:0<z.length)(a1:z.length<1000000)(L:∀W U,aC (Eq u) T h W U->W u=none->((El.fld bA∈E/\blk U u=some (.map #[] 0))\/(¬El.fld bA∈E/\∃t',blk U u=some (.map #[eA t'] 1)/\FT W t' (d7 (V.getD []) z)))->R bt U):Cf h 457 #[aU bA,d,aB m,aB n,aB o,aB l] R:=by
 have a2:=p;obtain⟨q,rfl,l⟩:=y;obtain⟨J,d,rfl,k⟩:=s;obtain⟨z,D,rfl,y⟩:=p;have w:=Z.dom x;have f:=Z.dom r;have P:=Z.dom X;have v:=Z.dom K;have p:=Z.dom k;have O:=Z.dom y;have g:=aF M;have j:=Z.dom N;refine Tm (rA ?_);refine mF (o:=20) (G:=.fld bA) (x:=[aB h.size,nilp,nilp,nilp]) (T:=T.one h.size _) ((show aD T h T _ from aP Z).one (b:=h.size) bu).1.sat Bk ⟨rfl,h.size,rfl,9,aK.one_eq Bk⟩ λ i R t q H=>?_;have S:=((show aD T h T _ from aP Z).one (b:=h.size) bu).1.trans q;have C:=(Fe q.sat (x:=[aB h.size,nilp,nilp,nilp]) (G:=.fld bA) ⟨rfl,h.size,rfl,9,q.le _ _ (aK.one_eq Bk)⟩);have O:=q.sat;have n:=S.le;have z:=q.size;(try simp only[bJ]at z);have P:blk t (h.size+1)=aE #[aB h.size,nilp,nilp,nilp] 369:=q.blk Bk id;have T:=S.blk Y id;have U:=S.blk M id;have m:=aF Y;refine rC (O _ _ (n _ _ x)).c (O _ _ (n _ _ k)).c ?_;refine⟨_,λ _ W=>W,?_⟩;refine C.key λ i G=>rC (O _ _ (n _ _ r)).c (O _ _ G).c ?_;refine(hN sk (bI ((show aD R t R _ from aP O).blk (O _ _ (n _ _ N)) id)) NX).mpr ?_;try simp(disch:=omega)only[go_sem,↓reduceIte,Hh,Gh,Option.getD_some,ef,dQ,aA (O _ _ (n _ _ X)),aA U]
 refine rb (show aD R t R _ from aP O).sat (Q.mono n) H λ c z H w=>?_;have F:aD R t R z:=aC.trans (aP O) H;have m:=H.sat;have Y:blk z t.size=aE #[nilp,nilp,.pointer (some A),nilp,nilp,bf] 95:=H.blk Bk id;have H:=F.blk P id;have r:=F.blk T id;have s:=F.blk U id;have d:=S.trans F;have g:R u=none:=(q.dom u (by(try simp only[bJ]);exact zaa) id).trans ((aK.one_ne zaa).trans a0);cases c
 ·have D:¬El.fld bA∈E:=λ F=>by have:=w.2 F;cases this
  refine rA ?_;refine⟨_,λ _ _ W=>W,?_⟩;refine rD (m _ _ (n _ _ X)).c s.c H.c ?_;refine lW m (Q.mono n) (x:=[aB h.size,nilp,nilp,nilp]) C (.inr rfl) λ S F T M E=>rA ?_;refine gl M.sat E λ t P=>?_;have N:=M.trans P;have U:=P.sat;have Z:=n.trans N.le;have O:=N.blk Y id;have j:=N.blk r id;have J:=N.blk s id;have x:=M.blk s id;have o:F u=none:=(M.dom u (aF r) id).trans g;by_cases x:V.getD []=[]
  ·have c:((V.getD []).isEmpty&&fh none)=true:=by rw[x];rfl
   refine rG (U _ _ (Z _ _ X)).c J.c (U _ _ (Z _ _ y)).c (U _ _ (Z _ _ K)).c (U _ _ (N.le _ _ G)).c c ?_;refine e7 U rfl λ S Y=>?_;have Q:=Y.sat;refine rC (Q _ _ (Z _ _ K)).c (Q _ _ (N.le _ _ G)).c ?_;have q:=Y.blk j id;refine(gy mJ (bI q) (cP.nil 0)).mpr ?_;refine L F _ ((((d.trans N).trans Y).weak (D':=Eq u) λ _ _=>False.elim).setMap (.inr rfl) o) o (.inr ⟨D,_,de (aF q),?_⟩);rw[x,zd];exact .inr ⟨by intro C;simp[C]at hl,_,rfl,l.mono Z⟩
  ·have c:((V.getD []).isEmpty&&fh none)=false:=by cases k:V.getD []with|nil=>exact absurd k x|cons B t=>rfl
   refine rE (U _ _ (Z _ _ X)).c J.c O.c c ?_;refine zu (A:=A) U os (a2.mono Z) (l.mono Z) hl a1 (hx.mono Z) (E.mono P.le) λ V t' F S Y l H=>?_;have Q:=Y.sat;have p:=Z.trans Y.le;refine l.cell λ J t c t=>rE (Q _ _ t).c (Q _ _ (p _ _ K)).c (Q _ _ (Y.le _ _ (N.le _ _ G))).c c ?_;refine e7 Q H.tr.one λ h v=>?_;have S10:=v.sat;refine rC (S10 _ _ (p _ _ K)).c (S10 _ _ (Y.le _ _ (N.le _ _ G))).c ?_;have x:=v.blk (Y.blk j id) id;have Z:F u=none:=(Y.dom u (aF j) id).trans o;refine(gy mJ (bI x) (cP.nil 0)).mpr ?_;exact L F _ (((((d.trans N).trans Y).trans v).weak (D':=Eq u) λ _ _=>False.elim).setMap (.inr rfl) Z) Z (.inr ⟨D,t',de (aF x),H⟩)
 ·refine rA ?_;refine⟨_,λ _ W=>W,?_⟩;refine rC (m _ _ (n _ _ X)).c s.c ?_;exact L R z (d.weak λ _ _=>False.elim) g (.inl ⟨w.1 rfl,r⟩)
def RN:(Bx h 457 a λ a c=>Bx c 90 b λ b c=>Ld c 457 a λ d=>aM c 459 d 0 228 λ d=>Iv c d "IsMap" #[] λ c d=>cD d c (R n0 d) (Ld d 457 a λ c=>aM d 459 c 0 228 λ c=>Ld d 457 a λ e=>aM d 459 e 4 225 λ e=>Nc c<|Iv d c "AsMapUsing" #[e] λ c d=>bx d 343 c ni (Ld d 457 a λ e=>aM d 459 e 4 225 λ e=>Nc e<|Eb d .eql 343 false true c ni λ f=>Gd d f false (λ a b=>a c b) λ d g=>Gd g f false (λ a b=>Iv b d "Empty" #[] λ b c=>a b c) λ d g=>Pk f bt d λ d=>Cd d (Lp (∃b:V0,(∀a,b a->(Dg a (cH e c) λ a=>R n0 a))/\(Ld g 457 a λ c=>aM g 459 c 5 4 λ c=>Cd c (Ld g 457 a λ c=>Ld g 457 a λ d=>aM g 459 d 0 228 λ d=>Iv g d "Unstructured" #[] λ d e=>bh e 457 a c/\(bC e 459 c 1 20 d λ a=>b a)) (b g)))) (Ld g 90 b λ d=>aM g 359 d 3 240 λ d=>ce g 240 d (aU ⟨#[97,116,111,109,105,99]⟩) (Lp (∃b:V0,(∀a,b a->(Dg a (cH e c) λ a=>R n0 a))/\(Ld g 457 a λ c=>aM g 459 c 5 4 λ c=>Cd c (Ld g 457 a λ c=>Ld g 457 a λ d=>aM g 459 d 0 228 λ d=>Iv g d "Unstructured" #[] λ d e=>bh e 457 a c/\(bC e 459 c 1 20 d λ a=>b a)) (b g)))) (Ag g (Instr.makeMap 96 none) λ d f=>bH f 96 d λ d f=>Ld f 90 b λ g=>aM f 359 g 0 356 λ g=>Ln f 356 g λ i=>Lp (∃(j:V1)(k:N1),j i0 f/\∀f l,j f l->(bv l .lss 3 f i (Ia l 356 g f λ a=>Ld l 417 a λ a=>bH l 417 a λ a b=>Ld b 96 d λ c=>Fa b 417 a 0 λ d=>Ld b 9 d λ d=>Fa b 417 a 1 λ a=>Ld b 95 a λ a=>Mu b 96 c d a λ a=>Bi a .add 3 f i1 λ b=>(j b a/\k b a<k f l)) (Ag l (Instr.makeMap 242 none) λ f g=>bH g 242 f λ f g=>Iv g c "Iterate" #[(.func (.func 457) #[] #[b,d,a,f])] λ _ b=>Lp (∃d:V0,(∀a,d a->(Dg a (cH e c) λ a=>R n0 a))/\(Ld b 242 f λ c=>Ln b 242 c λ c=>bv b .gtr 3 c i0 (Ld b 457 a λ a=>Ld b 242 f λ c=>Mi b 242 c λ c=>bC b 459 a 1 20 c λ a=>d a) (d b))))))))) (Eb d .eql 343 false true c ni λ e=>Gd d e false (λ a b=>a c b) λ d f=>Gd f e false (λ a b=>Iv b d "Empty" #[] λ b c=>a b c) λ d f=>Pk e bt d λ d=>Cd d (Lp (∃b:V0,(∀a,b a->(R n0 a))/\(Ld f 457 a λ c=>aM f 459 c 5 4 λ c=>Cd c (Ld f 457 a λ c=>Ld f 457 a λ d=>aM f 459 d 0 228 λ d=>Iv f d "Unstructured" #[] λ d e=>bh e 457 a c/\(bC e 459 c 1 20 d λ a=>b a)) (b f)))) (Ld f 90 b λ d=>aM f 359 d 3 240 λ d=>ce f 240 d (aU ⟨#[97,116,111,109,105,99]⟩) (Lp (∃b:V0,(∀a,b a->(R n0 a))/\(Ld f 457 a λ c=>aM f 459 c 5 4 λ c=>Cd c (Ld f 457 a λ c=>Ld f 457 a λ d=>aM f 459 d 0 228 λ d=>Iv f d "Unstructured" #[] λ d e=>bh e 457 a c/\(bC e 459 c 1 20 d λ a=>b a)) (b f)))) (Ag f (Instr.makeMap 96 none) λ d e=>bH e 96 d λ d e=>Ld e 90 b λ f=>aM e 359 f 0 356 λ f=>Ln e 356 f λ g=>Lp (∃(i:V1)(j:N1),i i0 e/\∀e k,i e k->(bv k .lss 3 e g (Ia k 356 f e λ a=>Ld k 417 a λ a=>bH k 417 a λ a b=>Ld b 96 d λ c=>Fa b 417 a 0 λ d=>Ld b 9 d λ d=>Fa b 417 a 1 λ a=>Ld b 95 a λ a=>Mu b 96 c d a λ a=>Bi a .add 3 e i1 λ b=>(i b a/\j b a<j e k)) (Ag k (Instr.makeMap 242 none) λ e f=>bH f 242 e λ e f=>Iv f c "Iterate" #[(.func (.func 457) #[] #[b,d,a,e])] λ _ b=>Lp (∃c:V0,(∀a,c a->(R n0 a))/\(Ld b 242 e λ d=>Ln b 242 d λ d=>bv b .gtr 3 d i0 (Ld b 457 a λ a=>Ld b 242 e λ d=>Mi b 242 d λ d=>bC b 459 a 1 20 d λ a=>c a) (c b)))))))))))->Cf h 452 #[a,b] R:=mS Tryz.func452 (Z (Q cg (Q PJ (Q cF (Q jd (Q jd (Z (Q (Z (B (O [76] mA))) (Z (Z qU))))))))))
def T4:(Bx h 317 a λ a c=>Fa c 317 a 0 λ d=>Ld c 228 d λ d=>Fa c 317 a 2 λ e=>Ld c 86 e λ e=>Fa c 317 a 1 λ f=>Ld c 95 f λ f=>Cf c 218 #[d,b,e,f,bf] λ b c=>Fa c 317 a 0 λ d=>Sr c 228 d b λ b=>R a b)->Cf h 175 #[a,b] R:=mS Tryz.func175 iO
inductive OR where|null|ob(o:OS)
def qT(T:aK)(G:Value):OR->Prop|.null=>G=ni|.ob s=>kt T G s
theorem qT.mono(O:I.le J){s:OR}(B:qT I a s):qT J a s:=by cases s with|null=>exact B|ob s=>exact kt.mono O B
theorem qT.tr{s:OR}(B:qT I a s):Tr a:=by cases s with|null=>cases B;exact .nil|ob s=>exact kt.tr B
noncomputable def td(x:bU)(c:ex):OS->OR|.lst H=>@ite _ (El.fld bA∈x) (Classical.propDecidable _) .null (@ite _ (d7 (c.getD []) H=[]) (Classical.propDecidable _) (.ob .nul) (.ob (.lst (d7 (c.getD []) H))))|_=>.null
theorem wy(O:El.fld bA∈E):td E V (.lst z)=.null:=by exact if_pos O
theorem Gq(O:¬El.fld bA∈E)(N:d7 (V.getD []) z=[]):td E V (.lst z)=.ob .nul:=by exact(if_neg O).trans (if_pos N)
theorem wj(O:¬El.fld bA∈E)(N:d7 (V.getD []) z≠[]):td E V (.lst z)=.ob (.lst (d7 (V.getD []) z)):=by exact(if_neg O).trans (if_neg N)
theorem KA:fO 457=true:=zag
theorem ID:cP (Array.toList #[(⟨aU bA,a,0⟩:g8)]) 1:=⟨zcO,zab,zab,zab⟩
structure FI(I:aK)(h:Heap)(n mb w:Nat)(va vb:Value)(v:Value)(h9:Heap):Prop where
 st:aD I h I h9
 bw:blk h9 h.size=aE #[aB w] 457
 bt:blk h9 (h.size+1)=aE #[aB mb] 90
 bf:blk h9 (n+1)=aE #[.map (some n)] 96
 z:n+2<=h9.size
 m:(v=i0/\blk h9 n=some (.map #[] 0))\/(v=i1/\blk h9 n=some (.map #[⟨aU bA,va,0⟩] 1))\/(v=i2/\blk h9 n=some (.map #[⟨aU bA,va,0⟩,⟨aU bB,vb,1⟩] 2))
theorem FI.upd{W:Heap}(Z:aN I h)(e:FI I h m n o a b c H)(G:aD I H I W)(D:h.size+2<=m){g:fP}(B:(d=i0/\(g,l)=(#[],0))\/(d=i1/\(g,l)=(#[⟨aU bA,a,0⟩],1))\/(d=i2/\(g,l)=(#[⟨aU bA,a,0⟩,⟨aU bB,b,1⟩],2))):FI I h m n o a b d (hset W m (.map g l)):=by
 have v:m<W.size:=uF G.size e.z;refine⟨(e.st.trans G).setMap (.inl zaa) (Z.fresh zaa),?_,?_,?_,by rw[aL];have:=G.size;have:=e.z;exact zaa,?_⟩
 ·rw[dw zaa];exact G.blk e.bw id
 ·rw[dw zaa];exact G.blk e.bt id
 ·rw[dw zaa];exact G.blk e.bf id
 ·rw[de v];rcases B with⟨A,z⟩|⟨A,z⟩|⟨A,z⟩
  ·cases z;exact .inl ⟨A,rfl⟩
  ·cases z;exact .inr (.inl ⟨A,rfl⟩)
  ·cases z;exact .inr (.inr ⟨A,rfl⟩)
theorem Vc:((c8 (Array.toList #[]) 0 bA a).toArray,fz (Array.toList #[]) 0 bA)=(#[⟨aU bA,a,0⟩],1):=by rfl
theorem Uy:((c8 (Array.toList #[⟨aU bA,a,0⟩]) 1 bB b).toArray,fz (Array.toList #[⟨aU bA,a,0⟩]) 1 bB)=(#[⟨aU bA,a,0⟩,⟨aU bB,b,1⟩],2):=by rfl
theorem BY{T:aK}{O:Heap}(Z:aN T O){K:Nat}{G:Value}{B:Addr}{H:bn}(hw:blk O K=aE #[c,ni,d,e,co m,bf] 459)(a0:T K=none)(Y:eO T B)(os:aG d=true)(p:PV T c G)(v:dM T G H)(hl:0<H.length)(a2:H.length<1000000)(fs:cz T e E bA V)(L:∀Q a3 U,aC (Eq K) T O a3 U->blk U K=aE #[c,Q,d,e,co m,bf] 459->a3 K=none->qT a3 Q (td E V (.lst H))->R n0 U):Cf O 452 #[aB K,.pointer (some B)] R:=by
 obtain⟨q,X,j,B,V,hx,-⟩:=Y;have a4:=B;obtain⟨J,d,rfl,k⟩:=B;obtain⟨W,S,rfl,u,U⟩:=v;have F:=p;obtain⟨z,F,rfl,C⟩:=p;obtain⟨r,n,rfl,s,-,-,-,P⟩:=V;obtain⟨p,fo,rfl,Y⟩:=P zaa;have P:=aF hw;have G:=Z.dom C;refine RN (rC hw.c (Z _ _ C).c ?_);refine gK (I:=T) (aC.sat (D:=none_) (I:=T) (h:=O) (aP Z)) .map λ y v=>?_;have m:=v.sat;have s:aD T O T y:=aC.trans (aP Z) v;have g:blk y O.size=aE #[aB K] 457:=v.blk Bk id;have j5:blk y (O.size+1)=aE #[aB J] 90:=v.blk Bk id;have i:=s.blk hw id;try simp(disch:=omega)only[go_sem,↓reduceIte,dz,aA g,aA i,aA (m _ _ C)]
 refine lF m rfl λ N P=>?_;have W:=P.sat;have G:=P.blk g id;have o:=P.blk j5 id;have C:=s.trans P;have F:=C.blk hw id;have q:=At.of W k;have r:aI N J 8=some s0:=by have:=q 8 s0 rfl;exact zai
 have E:aI N J 0=some (bq p fo 2 n):=by have:=q 0 (bq p fo 2 n) rfl;exact zai
 refine rC G.c F.c ?_;apply DJ;try simp(disch:=omega)only[go_sem,↓reduceIte,g4 Tryz.underlying586 (bI (W _ _ u))]
 have R:=v.size;(try simp only[bJ]at R);have g:=P.size;have A:=Z.dom k;have i:=Z.lt (Y 0 _ rfl);refine rG G.c F.c o.c r E @fI ?_;refine⟨FI T O N.size J K (.agg (ef .li X).toArray) (.agg (ef .li j).toArray),λ c _=>match c with|.int _ M=>2-M.toNat|_=>0,⟨bX Z C,bz G,bz o,Bk,by(try simp only[bJ]);exact zaa,.inl ⟨rfl,Bk⟩⟩,?_⟩;intro i G e;have o:=e;obtain⟨k,s,z,c,d,(⟨rfl,f⟩|⟨rfl,f⟩|⟨rfl,f⟩)⟩:=e
 ·have m:=k.sat;have g:∀M S,(c9 bA .li X++c9 bB .li j)[M]?=some S->aI G p (fo+M)=some S:=λ M S U=>m.cell (Y M S U);have E:=g 0 _ rfl;rw[Nat.add_zero]at E;have r:=g 1 _ rfl;have F:=g 2 _ rfl;have A:=g 3 _ rfl;have P:=g 4 _ rfl;have d:=g 5 _ rfl;have R:=g 6 _ rfl;have i:=g 7 _ rfl;try simp(disch:=omega)only[go_sem,↓reduceIte,Int.toNat_zero,Nat.add_zero,E,r,F,A,P,d,R,i,aA c]
  refine(gy sk (bI ((show aD T G T _ from aP m).blk f id)) (cP.nil 0)).mpr ?_;refine rA ?_;exact⟨o.upd Z (aP m) zaa (.inr (.inl ⟨rfl,Vc⟩)),zaE⟩
 ·have m:=k.sat;have g:∀M S,(c9 bA .li X++c9 bB .li j)[M]?=some S->aI G p (fo+M)=some S:=λ M S U=>m.cell (Y M S U);have E:=g 8 _ rfl;have r:=g 9 _ rfl;have F:=g 10 _ rfl;have A:=g 11 _ rfl;have P:=g 12 _ rfl;have d:=g 13 _ rfl;have R:=g 14 _ rfl;have i:=g 15 _ rfl;have j:fo+8+1=fo+9:=rfl;try simp(disch:=omega)only[go_sem,↓reduceIte,sM,Nat.one_mul,E,r,F,A,P,d,R,i,aA c]
  refine(gy sk (bI ((show aD T G T _ from aP m).blk f id)) ID).mpr ?_;refine rA ?_;exact⟨o.upd Z (aP m) zaa (.inr (.inr ⟨rfl,Uy⟩)),zaE⟩
 ·have m:=k.sat;refine rA ?_;refine Jm (rA ?_);have F:=Z.dom u;have e:aG S=true:=by obtain⟨X,rfl,-⟩:=U;rfl
  have R:aD T O T ((aO ((Array.push G (Obj.map #[] 0)).push (Obj.cells #[Value.map none] 242)) (Array.size G+1) 0 (Value.map (some (Array.size G)))).push (aV #[] 348)):=bX Z k;have k:aD T G T ((aO ((Array.push G (Obj.map #[] 0)).push (Obj.cells #[Value.map none] 242)) (Array.size G+1) 0 (Value.map (some (Array.size G)))).push (aV #[] 348)):=aP m;have d:=R.freeze (λ r=>decide (r=O.size\/r=O.size+1\/r=N.size\/r=N.size+1\/r=G.size+1)) λ r Y=>.inl (cW (of_decide_eq_true Y));have ev:∀r q,(r=O.size\/r=O.size+1\/r=N.size\/r=N.size+1\/r=G.size+1)->blk ((aO ((Array.push G (Obj.map #[] 0)).push (Obj.cells #[Value.map none] 242)) (Array.size G+1) 0 (Value.map (some (Array.size G)))).push (aV #[] 348)) r=some q->(T.add (λ r=>decide (r=O.size\/r=O.size+1\/r=N.size\/r=N.size+1\/r=G.size+1)) _) r=some q:=λ r q Y j=>za7;have o:∀r,¬(r=O.size\/r=O.size+1\/r=N.size\/r=N.size+1\/r=G.size+1)->T r=none->(T.add (λ r=>decide (r=O.size\/r=O.size+1\/r=N.size\/r=N.size+1\/r=G.size+1)) ((aO ((Array.push G (Obj.map #[] 0)).push (Obj.cells #[Value.map none] 242)) (Array.size G+1) 0 (Value.map (some (Array.size G)))).push (aV #[] 348))) r=none:=λ r Y j=>by unfold aK.add;rw[if_neg (λ C=>Y (of_decide_eq_true C))];exact j
  refine gA (g:=Eq G.size) d.sat (a:=S) (d.le _ _ u) e (λ r C=>by(try simp only[bJ]);exact zaa) λ B A y v F V y=>?_;have u:=d.trans v;rw[ej KA];refine DH (q:=90) (F:=96) (P:=457) (G:=242) (B:=⟨J,0,none⟩) (A:=X) (t:=N.size) (u:=G.size) (v:=K) (z:=H) v.sat (v.le _ _ (ev _ _ (.inr (.inl rfl)) (k.blk z id))) (v.le _ _ (ev _ _ (.inr (.inr (.inr (.inl rfl)))) (k.blk c id))) (v.le _ _ (ev _ _ (.inl rfl) (k.blk s id))) (v.le _ _ (ev _ _ (.inr (.inr (.inr (.inr rfl)))) Bk)) (v.le _ _ (ev _ _ (.inr (.inr (.inl rfl))) (k.blk f id))) (v.blk (show blk _ G.size=_ from Bk) id) ((v.dom _ (by(try simp only[bJ]);exact zaa) id).trans (o _ zaa (Z.fresh zaa))) (a4.mono u.le) (hx.mono u.le) os (u.blk hw id) (fs.mono u.le) F (U.mono u.le) hl a2 λ a3 M U e S=>?_;refine y a3 M U ?_;have V:=U.sat;have p:∀r q,(r=O.size\/r=O.size+1\/r=N.size\/r=N.size+1\/r=G.size+1)->blk _ r=some q->a3 r=some q:=λ r q Y j=>U.le _ _ (v.le _ _ (ev r q Y j));have Z:=p _ _ (.inr (.inr (.inr (.inr rfl)))) (show blk _ (G.size+1)=aE #[.map (some G.size)] 242 from Bk);have j:=p _ _ (.inl rfl) (k.blk s id);have z:=v.size;(try simp only[bJ]at z);have n:=U.blk (u.blk hw id) zaa;have R:a3 K=none:=(U.dom K zaa zaa).trans ((v.dom K (by(try simp only[bJ]);exact zaa) id).trans (o K zaa a0));have J:aC (Eq K) T O a3 M:=(u.seq U).weak λ r Y F=>F.elim False.elim λ C=>zaa;refine⟨_,λ _ W=>W,?_⟩;rcases S with⟨K,o⟩|⟨K,Q,o,H⟩
  ·try simp(disch:=omega)only[go_sem,↓reduceIte,aA (V _ _ Z),g4 Tryz.underlying242 (bI o)]
   refine cG ?_;exact L ni a3 M J n R (by rw[wy K];rfl)
  ·try simp(disch:=omega)only[go_sem,↓reduceIte,aA (V _ _ Z),g4 Tryz.underlying242 (bI o)]
   refine rD (V _ _ Z).c (V _ _ j).c n.b ?_;refine cG ?_;have Y:=J.one (b:=G.size) zaa;have P:(a3.one G.size M) G.size=some (.map #[eA Q] 1):=aK.one_eq o;refine L (.iface 242 (.map (some G.size))) (a3.one G.size M) _ (aC.put Y.1 (.inr rfl) ((aK.one_ne zaa).trans R)) (bz n) ((aK.one_ne zaa).trans R) ?_;rcases H with⟨A,z⟩|⟨A,z⟩
   ·rw[Gq K A];exact⟨G.size,rfl,z▸P⟩
   ·rw[wj K A];exact⟨G.size,Q,rfl,P,z.mono Y.2⟩
theorem DE{T:aK}{O:Heap}(Z:aN T O)(s:dr T b A)(t:cU T bT ⟨m,0,none⟩)(p:PV T a d)(v:dM T d z)(f:0<z.length)(X:z.length<1000000)(r:cz T c E bA V)(L:∀e Q G U,aD T O G U->PV G e Q->qT G Q (td E V (.lst z))->R e U):Cf O 218 #[a,c,b,.agg (dc m).toArray,bf] R:=by
 have x:aG a=true:=zav;have F:aG b=true:=zbc;have K:aG c=true:=zcl;have Y:eO T A:=zaN;have i:Tr d:=by obtain⟨W,S,rfl,-⟩:=v;exact .map
 refine It (rA ?_);refine dZ (I:=T) (aC.sat (D:=none_) (I:=T) (h:=O) (aP Z)) λ w N P=>?_;have d:aD T O T N:=aC.trans (aP Z) P;have W:=P.sat;have g:=P.size;(try simp only[bJ]at g);have o:blk N O.size=aE #[aB m,nilp,nilp,nilp,nilp,bf] 95:=P.blk Bk id;refine rE o.c x K F ?_;have n:aD T O T (N.push (aV #[a,ni,b,c,co w,bf] 459)):=d.push _;refine d9 (C:=dc m) n.sat (kB s t) (.inr ⟨_,i,p⟩) λ t q=>?_;have S:=n.trans q;have E:blk t N.size=aE #[a,ni,b,c,co w,bf] 459:=q.blk Bk id;refine rA ?_;refine BY S.sat E (Z.fresh zaa) Y F p v f X r λ Q G X Z B t p=>?_;have j:aD T O G X:=S.trans' Z λ r Y C=>zaa;have w:aG Q=true:=p.tr.one;refine rB B.c ?_;refine gn j.sat w λ e E T M l=>rA ?_;exact L e Q E T (j.trans M) l (p.mono M.le)
theorem is{T:aK}{O:Heap}(Z:aN T O){J:Value}(s:dr T a A)(S:cU T bT ⟨t,0,none⟩)(p:PV T J d)(H:dM T d z)(f:0<z.length)(X:z.length<1000000)(r:cz T c E bA V)(L:∀G e Q w U,aD T O w U->TV w G e a t->PV w e Q->qT w Q (td E V (.lst z))->R G U):Cf O 175 #[.agg (J::dc t++[a]).toArray,c] R:=by
 have x:aG J=true:=zav;have F:aG a=true:=by obtain⟨u,C,M,rfl,-⟩:=s;rfl
 apply T4;try simp(disch:=omega)only[go_sem,↓reduceIte,dc,x,F]
 refine DE (m:=t) (aC.sat (D:=none_) (I:=T) (h:=O) (aP Z)) s S p H f X r λ e Q w N P l m=>?_;have d:aD T O w N:=aC.trans (aP Z) P;have H:blk N O.size=aE #[J,aB t,nilp,nilp,nilp,nilp,bf,a] 317:=P.blk Bk id;have g:aG e=true:=by obtain⟨u,C,rfl,-⟩:=l;rfl
 have u:w O.size=none:=(P.dom _ (by(try simp only[bJ]);exact zaa) id).trans (Z.fresh bu);refine rC H.b g ?_;have T:=aC.put (o:=0) (v:=e) d (b:=O.size) (.inl bu) u;have K:=T.one (b:=O.size) bu;have J:blk (aO N O.size 0 e) O.size=aE #[e,aB t,nilp,nilp,nilp,nilp,bf,a] 317:=bz H;exact L _ e Q _ _ K.1 ⟨O.size,317,rfl,aK.one_eq J⟩ (l.mono K.2) (m.mono K.2)
def RU:(Bx h 95 c λ c d=>Lp (∃e:V1,(∀d f,e d f->(Ld f 95 c λ e=>Cf f 219 #[b,e] λ e f=>aW e λ e _=>bH f 92 e λ e f=>Fa f 273 d 0 λ g=>Ld f 271 g λ g=>bg f 279 a 0 λ i=>Fa f 273 i 0 λ i=>Ld f 271 i λ i=>Ap f 271 g i λ f g=>Fa g 273 d 0 λ i=>Sr g 271 i f λ f=>bg f 279 a 1 λ g=>Fa f 277 g 0 λ g=>Ld f 275 g λ g=>Ln f 275 g λ i=>Lp (∃(j:V1)(k:N1),j i0 f/\∀f l,j f l->(bv l .lss 3 f i (Lp (∃a:V0,(∀b,a b->(Bi b .add 3 f i1 λ a=>(j a b/\k a b<k f l)))/\(Ia l 275 g f λ b=>Ld l 388 b λ b=>bH l 388 b λ b c=>Fa c 388 b 0 λ f=>Fa c 369 f 0 λ f=>Ld c 87 f λ f=>Eb c .neq 87 false true f nilp λ f=>aH c f (λ a b=>Fa b 92 e 2 λ c=>a c b) λ c g=>aH g f (λ a b=>Ld b 90 c λ c=>a c b) λ c g=>aH g f (λ a b=>Eb b .neq 90 false true c nilp λ c=>a c b) λ c g=>Pk f c bf λ c=>Cd c (Lp (∃c:V1,(∀e f,c e f->(Cd e (Fa f 388 b 0 λ b=>Ld f 369 b λ b=>Cf f 188 #[d,b] λ _ b=>a b) (a f)))/\(Fa g 92 e 2 λ a=>Ld g 90 a λ d=>Fa g 388 b 0 λ f=>Fa g 369 f 0 λ i=>Ld g 87 i λ j=>Nc j<|Ld g 9 j λ k=>(Cf g 220 #[d,k] λ g l=>aW g λ g m=>Al l 417 λ l n=>eG n 92 e 2 a/\bh n 90 a d/\eG n 388 b 0 f/\eG n 369 f 0 i/\bh n 87 i j/\bh n 9 j k/\(Sr n 417 l g λ a=>c m a))/\(Al g 417 λ g l=>eG l 92 e 2 a/\bh l 90 a d/\eG l 388 b 0 f/\eG l 369 f 0 i/\bh l 87 i j/\bh l 9 j k/\(Cf l 220 #[d,k] λ a b=>aW a λ a d=>Sr b 417 g a λ a=>c d a))))) (a g)))) (Ld l 273 d λ e=>bg l 279 a 1 λ a=>Ld l 95 c λ c=>Cf l 221 #[a,b,c] λ a b=>bh b 273 d e/\(Nc a<|Ld b 277 a λ a=>Bd b 279 #[(0,e),(1,a)] λ a=>Bx b 279 a λ a b=>R a b))))))/\(bg d 279 a 0 λ b=>bg d 279 a 1 λ c=>Fa d 277 c 0 λ f=>Ld d 275 f λ g=>Ln d 275 g λ i=>(Cf d 143 #[b] λ d j=>eG j 279 a 1 c/\eG j 277 c 0 f/\bh j 275 f g/\vL j 275 g i/\(Bi j .add 3 d i λ k=>(Mz j 271 i0 k λ j l=>Bd l 273 #[(0,j)] λ m=>Al l 273 λ l n=>eG n 279 a 0 b/\eG n 279 a 1 c/\eG n 277 c 0 f/\bh n 275 f g/\vL n 275 g i/\Rc P n (binOp .add 3 d i) k/\Rc P n (Instr.build 273 #[(0,j)]) m/\(Sr n 273 l m λ a=>e l a))/\(Al j 273 λ j l=>eG l 279 a 0 b/\eG l 279 a 1 c/\eG l 277 c 0 f/\bh l 275 f g/\vL l 275 g i/\Rc P l (binOp .add 3 d i) k/\(Mz l 271 i0 k λ a b=>Bd b 273 #[(0,a)] λ a=>Sr b 273 j a λ a=>e j a))))/\(Al d 273 λ d j=>eG j 279 a 0 b/\eG j 279 a 1 c/\eG j 277 c 0 f/\bh j 275 f g/\vL j 275 g i/\(Cf j 143 #[b] λ b j=>eG j 279 a 1 c/\eG j 277 c 0 f/\bh j 275 f g/\vL j 275 g i/\(Bi j .add 3 b i λ a=>Mz j 271 i0 a λ a b=>Bd b 273 #[(0,a)] λ a=>Sr b 273 d a λ a=>e d a))))))->Cf h 176 #[a,b,c] R:=mS Tryz.func176 (Z (Y [7] (X #[0,1,3,7,0,16,48,112,240,496,1023,2047,4095,0,16383]) (Z (Q (X #[0,1,0,4,12,28,60,127,255,511]) (Q (Z (B (O [48] (Z (Q d8 (Y [] (B (Z (Z (C (Y [13] Qk cF) L)))) L)))))) (Q (X #[0,0,2,6,0,0,62,126,254,511,1023,2047]) L))))))
def Ig:(Bx h 95 c λ c d=>Cf d 249 #[a] λ d e=>Mz e 275 i0 d λ d e=>Ld e 95 c λ c=>Cf e 219 #[b,c] λ c e=>aW c λ c _=>bH e 92 c λ c e=>aM e 277 a 0 275 λ a=>Ln e 275 a λ f=>Lp (∃(g:V2)(i:N2),g d i0 e/\∀d e j,g d e j->(bv j .lss 3 e f (Ia j 275 a e λ a=>Ld j 388 a λ a=>bH j 388 a λ a f=>Bd f 95 #[] λ k=>bH f 95 k λ f k=>Lp (∃l:V0,(∀c,l c->(Fa c 388 a 0 λ k=>Ld c 369 k λ l=>Fa c 388 a 1 λ m=>Ld c 173 m λ m=>Ld c 95 f λ f=>Cf c 176 #[m,b,f] λ b c=>aX c 388 a 0 k 369 l<|(Bd c 388 #[(0,l),(1,b)] λ a=>Bs c 275 1 #[(0,a)] λ a b=>Ap b 275 d a λ a b=>Bi b .add 3 e i1 λ c=>(g a c b/\i a c b<i d e j))))/\(Fa k 388 a 0 λ b=>Fa k 369 b 0 λ b=>Ld k 87 b λ b=>Eb k .neq 87 false true b nilp λ b=>aH k b (λ a b=>Fa b 92 c 2 λ c=>a c b) λ d e=>aH e b (λ a b=>Ld b 90 d λ c=>a c b) λ d e=>aH e b (λ a b=>Eb b .neq 90 false true d nilp λ c=>a c b) λ d e=>Pk b d bf λ b=>Cd b (Fa e 92 c 2 λ b=>Ld e 90 b λ b=>aM e 359 b 2 95 λ b=>Sr e 95 f b λ b=>Lp (∃d:V2,(∀a b c,d a b c->(Cd b (Fa c 417 a 1 λ a=>Ld c 95 a λ a=>Sr c 95 f a λ a=>l a) (l c)))/\(Fa b 92 c 2 λ e=>Ld b 90 e λ f=>Fa b 388 a 0 λ g=>Fa b 369 g 0 λ i=>Ld b 87 i λ j=>Nc j<|Ld b 9 j λ k=>(Cf b 220 #[f,k] λ b l=>aW b λ b m=>Al l 417 λ l n=>eG n 92 c 2 e/\bh n 90 e f/\eG n 388 a 0 g/\eG n 369 g 0 i/\bh n 87 i j/\bh n 9 j k/\(Sr n 417 l b λ a=>d l m a))/\(Al b 417 λ b l=>eG l 92 c 2 e/\bh l 90 e f/\eG l 388 a 0 g/\eG l 369 g 0 i/\bh l 87 i j/\bh l 9 j k/\(Cf l 220 #[f,k] λ a c=>aW a λ a e=>Sr c 417 b a λ a=>d b e a))))) (Fa e 388 a 0 λ a=>Fa e 369 a 1 λ a=>Ld e 365 a λ a=>Eb e .neq 365 false true a nilp λ a=>aH e a (λ a b=>Fa b 92 c 1 λ c=>a c b) λ b d=>aH d a (λ a c=>Ld c 89 b λ b=>a b c) λ b d=>aH d a (λ a c=>Eb c .neq 89 false true b nilp λ b=>a b c) λ b d=>Pk a b bf λ a=>Cd a (Fa d 92 c 1 λ a=>Ld d 89 a λ a=>aM d 354 a 0 95 λ a=>Sr d 95 f a λ a=>l a) (l d))))) (Bd j 277 #[(0,d)] λ a=>Bx j 277 a λ a b=>R a b))))->Cf h 221 #[a,b,c] R:=mS Tryz.func221 (Z (Z (Z (Q (Z (B (O [7,29] (Z (Q d8 (Q (B (Z (Z (Y [] (Z (C (Z (Y [13,14] Qk cF)) cF)) (X #[0,0,2,0,8,0,0,120,254,510,1023,2047]))))) L)))))) bG))))
theorem DS(W:eW m=some (n,o,l,x))(k:x.length=o)(J:0<o)(j:l<=65535)(q:aQ t I h n o a u w)(Z:aN I h){s x f:Nat}{ys:bW}(p:ys.length=x*o)(y:∀S∈ys,aG S=true)(N:∀i S,ys[i]?=some S->aI h v (s+i)=some S)(E:u+x<=2147483648)(r:t<=h.size)(Q:∀e U,aQ t I U n o e (u+x) (w++ys)->ft h U a.ownBlock->aN I U->(e.ownBlock=a.ownBlock\/∃g,e.ownBlock=some g/\h.size<=g)->R e U):Ap h m a (bq v s x f) R:=by
 have C:c4 h v s (x*o)=some ys:=by rw[<-p];exact iL ys s N
 refine mX W k J q.1 p C y E j r ?_;intro e U v l E;have d:=aC.touch (aC.refl (D:=λ g=>a.ownBlock=some g) Z) l λ g z=>⟨.inr z,q.2 g z⟩;refine Q e U ⟨v,?_⟩ l d.sat E;intro g z;rcases E with J|⟨e,B,Y⟩
 ·exact q.2 g (J▸z)
 ·rw[B]at z;cases z;exact Z.fresh Y
theorem pN{w:Program}{M:TypeInfo}(W:w.underlying m=some (.slice n))(d:w.info? n=some M){B i:Option Addr}(f:o<=l)(E:World):(Builtin.append_ #[m,m] m #[.slice B o l,.slice i 0 t]).run w E=.ok (.slice B o l) E:=by
 have j:∀u:Addr,(loadCellsFrom u 0 0 #[]).run w E=.ok #[] E:=λ u=>by unfold loadCellsFrom;rfl
 cases i with
  |none=>exact kf W d f E
  |some u=>cases B with|none=>simp[Builtin.append_,run_underlying W,sizeOf,typeInfo,d,Builtin.lenOf,f,Builtin.firstCells,loadCells,j]|some B=>simp[Builtin.append_,run_underlying W,sizeOf,typeInfo,d,Builtin.lenOf,f,Builtin.firstCells,storeCells,loadCells,j]
theorem m9(W:eW m=some (n,o,l,x)){B i:Option Addr}(f:t<=u)(Q:R (.slice B t u) h):Ap h m (.slice B t u) (.slice i 0 v) R:=by obtain⟨M,A,O,d,-⟩:=eF W;exact λ E M=>⟨_,E,pN O d f E,by rw[M];exact Q,Sm.refl _⟩
@[go_sem] theorem Pv{D:Array (Nat×Value)}:Rc P h (Instr.build m D) a=Bd h m D λ S=>S=a:=jp
theorem Rows.nil_of{W:bW->α->Prop}{H:List α}(O:Rows W x H)(f:H=[]):x=[]:=by cases O with|nil=>rfl|cons=>cases f
theorem Ea(q:aQ m I h 369 4 a n x)(Z:aN I h)(v:ck I b E)(D:n+E.length<=2147483648)(r:m<=h.size)(Q:∀s ys U,aQ m I U 369 4 s (n+E.length) (x++ys)->Rows (bM I) ys E->(∀S∈ys,aG S=true)->ft h U a.ownBlock->aN I U->(s.ownBlock=a.ownBlock\/∃g,s.ownBlock=some g/\h.size<=g)->R s U):Ap h 271 a b R:=by
 obtain⟨x,N,⟨B,V,rfl,t,f,H,y,k⟩,o⟩:=v;have c:=Rows.ofLists x E N o;by_cases T:E.length=0
 ·have l:E=[]:=List.eq_nil_of_length_eq_zero T;subst l;have V:x.flatten=[]:=c.nil_of rfl;have P:aG a=true:=q.one;rcases q.1.2 with⟨rfl,rfl⟩|⟨g,d,X,rfl,-,-,a,-⟩
  ·refine m9 fj bu (Q _ x.flatten h (by rw[V];simpa using q) c y ⟨Nat.le_refl _,λ _ _ _=>rfl⟩ Z (.inl rfl))
  ·refine m9 fj a (Q _ x.flatten h (by rw[V];simpa using q) c y ⟨Nat.le_refl _,λ _ _ _=>rfl⟩ Z (.inl rfl))
 ·obtain⟨u,s,rfl,K⟩:=k zaa;exact DS fj rfl zaa zaa q Z f y (λ M S O=>Z.cell (K M S O)) D r λ e U B u t f=>Q e _ U B c y u t f
structure V7(I:aK)(h:Heap)(mb ab:Nat)(tr at_:cQ)(m:bU)(c:ex)(v:Value)(h8:Heap)(x:Value)(xs:bW)(m':bU):Prop where
 st:aD I h I h8
 bt:blk h8 h.size=aE tr 95
 ba:blk h8 ab=aE at_ 92
 bm:blk h8 mb=aE #[x] 273
 ox:aQ (h.size+1) I h8 369 4 x m'.length xs
 rx:Rows (bM I) xs m'
 o1:∀u∈xs,aG u=true
 srt:dq m'
 nx:x.ownBlock≠some mb/\x.ownBlock≠some ab
 ln:m'.length<=m.length+1
 mm:(v=i0/\m'=m)\/(v=i1/\c≠none/\∀y,y∈m'↔y=.fld bA\/y∈m)
theorem bM.fldK(w:bM I [a,c,d,f] (.fld S)){M:Prop}(T:∀b e,a=aB b->c=nilp->d=nilp->f=nilp->I b=aE #[aU S] e->M):M:=by obtain⟨-,b,A,e,j⟩:=w;simp only[List.cons.injEq,and_true]at A;obtain⟨q,y,N,K⟩:=A;exact T b e q y N K j
theorem pr(r:Kd)(B:Addr):∃V f i,dQ r B=[V,f,i]/\aG V=true/\aG f=true/\aG i=true/\(r=.ma->i=.pointer (some B)):=by
 cases r
 ·exact⟨_,_,_,rfl,rfl,rfl,rfl,λ C=>by cases C⟩
 ·exact⟨_,_,_,rfl,rfl,rfl,rfl,λ C=>by cases C⟩
 ·exact⟨_,_,_,rfl,rfl,rfl,rfl,λ _=>rfl⟩
def W9(T:aK)(h:Heap)(C:cQ)(s:Value)(N:Heap):Prop:=∃J X,s=aB J/\aD T h T N/\blk N h.size=aE C 95/\blk N J=aE #[X] 273/\aQ (h.size+1) T N 369 4 X 0 []/\X.ownBlock≠some J/\h.size<J
theorem qP{T:aK}{O:Heap}(Z:aN T O){C:Nat}{t:ex}{r:Kd}{B:Addr}(y:T m=aE #[d,f] C)(pm:ck T d E)(a3:dq E)(a4:c5 T f bA t)(S:ij T g x r B)(hk:t≠none->r=.ma/\eO T B)(p:E.length<1000000)(a5:∀V U,aD T O V U->∀R:KV,(∀nb X Y J,aD V U Y J->Y nb=aE #[X] 277->c5 Y X bA t->R (aB nb) J)->Cf U 221 #[cY m 1,g,.agg x.toArray] R)(L:∀p J X G V U,aD T O V U->V p=aE #[J,X] 279->ck V J G->dq G->(∀q,q∈G↔q∈E\/(t≠none/\q=.fld bA))->c5 V X bA t->R (aB p) U):Cf O 176 #[aB m,g,.agg x.toArray] R:=by
 obtain⟨P,s,S⟩:=S;obtain⟨j,g,y2,y3,A,y5,rfl⟩:=jI P;have x:=s j zab;have P:=s g zab;have f:=s y2 zab;have F:=s y3 zab;have Y:=s A zab;have k:=s y5 zab;obtain⟨ca,cc,rfl⟩:=a4.len;obtain⟨a6,mc,rfl,R,x⟩:=pm.slice;have M:=Z.dom y;have K:(if t.isSome=true then 1 else 0:Nat)<=1:=by split<;>omega
 generalize a7:(if t.isSome=true then 1 else 0:Nat)=W at K a4 y;obtain⟨R,f,a2,Y,w,z,x,a8⟩:=pr r B;rw[Y]at S;refine RU (rA ?_);refine⟨W9 T O #[j,g,y2,y3,A,y5],λ s h2 B=>?_,?_⟩
 ·refine B.elim λ mb B=>B.elim λ X B=>?_;have M:=B.1;have d:=B.2.1;have s:=B.2.2.1;have m:=B.2.2.2.1;have Y:=B.2.2.2.2.1;have N:=B.2.2.2.2.2.1;have U:=B.2.2.2.2.2.2;refine rC s.c M ?_;refine S d.sat λ K H=>?_;have Q:=d.trans H;have i:=H.sat;have d:=Q.size;have k:=H.blk m id;have F:=H.blk s id;have U:=aF k;have m:=Y.step H λ _ _=>id;refine rG k.c (i _ _ y).c M w z x ?_;refine Ea (m:=O.size+1) (n:=0) (x:=[]) (I:=T) ?_ (show aD T K T _ from aP i).sat pm zaa ?_ λ s ys h6 w a9 aa d x S=>?_
  ·exact zbC
  ·(try simp only[bJ]);exact zaa
  have U:=d.size;(try simp only[bJ]at U);have ab:aD T O T h6:=aC.touch (Q.trans (show aD T K T _ from aP i)) d λ P z=>⟨.inl (cW (Y.1.block z).1),Y.2 P z⟩;have H:=d.blk ((show aD T K T _ from aP i).blk k id) N;have k:=d.blk ((show aD T K T _ from aP i).blk F id) (λ F=>cW (Y.1.block F).1);have U:=d.blk (show blk _ K.size=aE #[R,f,a2] 92 from Bk) (λ F=>cW (m.1.block F).2);have i:=w.one;have B:s.ownBlock≠some mb:=λ F=>by
   rcases S with Q|⟨P,Q,h6⟩
   ·exact N (Q▸F)
   ·rw[Q]at F;cases F;(try simp only[bJ]at h6);exact zaa
  have Y:s.ownBlock≠some K.size:=λ F=>by
   rcases S with Q|⟨P,Q,h6⟩
   ·have:=(m.1.block (Q▸F)).2;exact zaa
   ·rw[Q]at F;cases F;(try simp only[bJ]at h6);exact zaa
  have S:=aC.put (o:=0) (v:=s) (aC.refl (D:=Eq mb) x) (b:=mb) (.inr rfl) (Z.fresh zaa);refine rE H.b (x _ _ y).c M i ?_;refine⟨λ J N=>∃X i G,V7 T O mb K.size #[j,g,y2,y3,A,y5] #[R,f,a2] E t J N X i G,λ J _=>match J with|.int _ R=>1-R.toNat|_=>0,⟨s,ys,E,?_⟩,?_⟩
  ·refine⟨ab.trans' S λ r hk C=>zaa,S.blk k zaa,S.blk U zaa,bz H,?_,a9,aa,a3,⟨B,Y⟩,zaa,.inl ⟨rfl,rfl⟩⟩;have:=w.put2 (t:=mb) (u:=0) (b:=s) λ P z C=>B (C▸z);exact zai
  rintro f N⟨x8,j,g,R⟩;have S8:=R.st.sat;have X:=R.st.size;by_cases k:f=aR W
  ·have d0:decide ((W:Int)<(W:Int))=false:=zab;have Y:=R.ox.one;refine rF R.bm.c R.bt.c k M d0 ?_;refine a5 T N R.st _ λ nb X V G H m i=>?_;have d:=H.size;refine rD (H.blk R.bm id).c (H.sat _ _ m).c M ?_;have d:=R.st.trans H;have A:=(R.ox.step H λ _ _=>id).frz d zaa (cW R.ln) R.o1;have j:=(A.1.push (aV #[x8,X] 279)).one (b:=G.size) (cW d.size);have S:=A.2.1;refine L G.size x8 X g _ _ j.1 (aK.one_eq zaq) (ck.of (A.2.2.mono j.2) (R.rx.mono λ _ _ w=>(w.mono H.le).mono (S.trans j.2))) R.srt (λ q=>?_) (i.mono (S.trans j.2));rcases R.mm with⟨A,q⟩|⟨A,q,U⟩
   ·have:t=none:=by rw[k]at A;injection A with _ A;cases t with|none=>rfl|some L=>simp at a7;exact zaa
    simp[q,this]
   ·rw[U];simp[q,or_comm]
  ·have Y:f=i0/\g=E:=R.mm.resolve_right λ F=>by refine k (F.1.trans ?_);cases t with|none=>exact absurd rfl F.2.1|some L=>rw[<-a7];rfl
   have m:t≠none:=λ C=>by rw[C]at a7;exact k (Y.1.trans (by rw[<-a7];rfl))
   have V:W=1:=by cases t with|none=>exact absurd rfl m|some L=>exact a7.symm
   refine Option.ne_none_iff_exists'.1 m|>.elim λ L B=>?_;have t:=hk m;have U:=t.2;refine c5.row (l:=L) (n:=W) (a:=ca) (cap:=cc) (ka:=bA) (I:=T) (by rw[<-B];exact a4) λ B s g q f w p A x s i c4 _=>?_;have j:=c4 S8;have d0:decide ((0:Int)<(W:Int))=true:=by rw[V];rfl
   have k:(0:Int)<(W:Int):=by rw[V];exact zaE
   have x:=s.one;have B:=x g zab;have g:=x q zab;have k:=x f zab;have q:=x w zab;refine s.fldK λ L w s S ac f i=>?_;have x:=a8 t.1;refine U.elim λ t U=>U.elim λ t U=>U.elim λ t U=>?_;have t:=Z.dom i;have ad:=aA (S8 _ _ i) 0;have t:K.size<=N.size:=cW (aF R.ba);have K:=aF R.ba;refine rD Y.1 A d0 ?_;refine⟨_,λ _ t=>t,?_⟩;try simp(disch:=omega)only[go_sem,↓reduceIte,Y.1,A,V,Int.toNat_zero,Nat.add_zero,j.1,j.2.1,j.2.2.1,j.2.2.2.1,j.2.2.2.2,B,g,k,q,s,S,ac,f,aA R.ba,x]
   refine⟨λ J t=>J=bt/\aD T N T t/\blk t N.size=aE #[aB L,nilp,nilp,nilp,aB p] 388,λ J t F=>?_,?_⟩
   ·have k:=F.2.1;have nC:=k.sat;have B:=k.blk R.bm id;refine rD F.2.2.c F.1 M ?_;refine gQ (m:=O.size+1) (G:=.fld bA) (w:=[aB L,nilp,nilp,nilp]) nC B rfl (Z.fresh zaa) (R.ox.step k λ _ _=>id) R.rx R.o1 R.srt (λ P z C=>R.nx.1 (C▸z)) ⟨rfl,L,rfl,w,i⟩ (cW k.size) (cW R.ln) λ X J M G H V s w q A B j f=>?_;have d:=(R.st.trans k).trans' H λ r hk G=>G.elim (λ C=>zaa) λ C=>cW (R.ox.1.block C).1;have S:∀r,r≠mb->(x8.ownBlock≠some r)->¬(r=mb\/x8.ownBlock=some r):=λ r y h2 F=>F.elim y h2;have g:=k.size;refine rB Y.1 ?_;refine⟨⟨X,J,M,d,H.blk (k.blk R.bt id) (S _ zaa λ C=>cW (R.ox.1.block C).1),H.blk (k.blk R.ba id) (S _ zaa λ C=>?_),V,s,w,q,A,?_,?_,.inr ⟨rfl,m,?_⟩⟩,zaE⟩
    ·exact R.nx.2 C
    ·have V:∀r,r<t.size->x8.ownBlock≠some r->X.ownBlock≠some r:=λ r hk y F=>by
      rcases j with Q|⟨P,Q,h6⟩
      ·exact y (Q▸F)
      ·rw[Q]at F;cases F;exact zaa
     exact⟨V _ zaa R.nx.1,V _ zaa R.nx.2⟩
    ·have:=Y.2;rw[this]at f;exact f
    ·have:=Y.2;rw[this]at B;exact B
   ·refine rD R.ba.c x ad ?_;refine⟨?_,?_⟩
    ·refine eo (show aD T N T _ from aP S8).sat U.1 U.2.1 λ f w=>?_;have G:aD T N T f:=aC.trans (aP S8) w;have ry:=w.sat;have q:blk f N.size=aE #[aB L,nilp,nilp,nilp,aB p] 388:=w.blk Bk id;have j:=G.blk R.ba id;have k:=G.size;have g:=aF q;refine rE j.c q.c (ry _ _ i).c x ?_;exact⟨bX S8 G,bz q⟩
    ·refine eo (show aD T N T _ from aP S8).sat U.1 U.2.1 λ f w=>?_;have G:aD T N T f:=aC.trans (aP S8) w;have ry:=w.sat;have q:blk f N.size=aE #[aB L,nilp,nilp,nilp,aB p] 388:=w.blk Bk id;have d:blk f (N.size+1)=aE #[s0,nilp,nilp,nilp,nilp,nilp,bf,ni] 417:=w.blk Bk id;have k:=G.size;have g:=aF d;refine rB d.b ?_;exact⟨bX S8 G,bz q⟩
 ·have nb:(E.length:Int)+(W:Int)=((E.length+W:Nat):Int):=zab;have K:IntKind.i64.wrap ((E.length:Int)+(W:Int))=(E.length:Int)+(W:Int):=io zaa;refine rB (Z _ _ y).c ?_;refine⟨?_,?_⟩
  ·refine kq (E:=E) (a:=.slice a6 E.length mc) (aC.sat (D:=none_) (I:=T) (h:=O) (aP Z)) (k7 y) pm ?_;refine rB (Z _ _ y).c ?_;refine⟨?_,?_⟩
   ·refine gw fj zaa (t:=0) (u:=E.length+W) rfl nb zaa zaa λ H m=>rD (Z _ _ y).c @ho K ?_;refine⟨O.size+2,bq (O.size+1) 0 0 (E.length+W),rfl,aP Z,Bk,Bk,?_,zap,zaa⟩;exact aQ.put2 (aQ.push (aQ.made (by(try simp only[bJ]);exact zaa) Bk (Z.fresh (by(try simp only[bJ]);exact zaa)) m zaa) _) (λ P z=>by simp only[Value.ownBlock,Option.some.injEq]at z;exact zaa)
   ·refine rD (Z _ _ y).c @ho K ?_;refine gw fj zaa (t:=0) (u:=E.length+W) rfl nb zaa zaa λ H m=>rD (Z _ _ y).c @ho K ?_;refine⟨O.size+1,bq (O.size+2) 0 0 (E.length+W),rfl,aP Z,Bk,Bk,?_,zap,zaa⟩;exact aQ.put2 (aQ.made (by(try simp only[bJ]);exact zaa) Bk (Z.fresh (by(try simp only[bJ]);exact zaa)) m zaa) (λ P z=>by simp only[Value.ownBlock,Option.some.injEq]at z;exact zaa)
  ·refine kq (E:=E) (a:=.slice a6 E.length mc) (aC.sat (D:=none_) (I:=T) (h:=O) (aP Z)) (k7 y) pm ?_;refine rD (Z _ _ y).c @ho K ?_;refine gw fj zaa (t:=0) (u:=E.length+W) rfl nb zaa zaa λ H m=>rD (Z _ _ y).c @ho K ?_;refine⟨O.size+1,bq (O.size+2) 0 0 (E.length+W),rfl,aP Z,Bk,Bk,?_,zap,zaa⟩;exact aQ.put2 (aQ.made (by(try simp only[bJ]);exact zaa) Bk (Z.fresh (by(try simp only[bJ]);exact zaa)) m zaa) (λ P z=>by simp only[Value.ownBlock,Option.some.injEq]at z;exact zaa)
theorem tI{T:aK}{O:Heap}(Z:aN T O){r:Kd}(y:bP T u m=some a)(v:c5 T a bA none)(S:ij T d x r A)(L:∀t X V U,aD T O V U->V t=aE #[X] 277->c5 V X bA none->R (aB t) U):Cf O 221 #[cY u m,d,.agg x.toArray] R:=by obtain⟨C,s,S⟩:=S;obtain⟨j,E,e,p,M,d,rfl⟩:=jI C;have x:=s j zab;have C:=s E zab;have P:=s e zab;have a:=s p zab;have Y:=s M zab;have k:=s d zab;obtain⟨V,f,i,Y,f,z,W,R⟩:=pr r A;rw[Y]at S;have w:=v;obtain⟨a,g,rfl⟩:=v;have a:=Z.lt y;refine Ig (rA ?_);refine nR (S:=bA) (V:=none) (aC.sat (D:=none_) (I:=T) (h:=O) (aP Z)) y w zaE λ N P=>?_;have C:aD T O T N:=aC.trans (aP Z) P;have o:blk N O.size=aE #[j,E,e,p,M,d] 95:=P.blk Bk id;have M:=aF o;refine gw kV zaa (t:=0) (u:=0) rfl rfl zaa zaa λ H B=>rB o.c ?_;refine S (show aD T O T _ from bX Z C).sat λ K r=>?_;have n:aD T O T K:=aC.trans (bX Z C) r;have i:=r.sat;have e:=n.size;have B:¬(K.size=u):=zaa;refine rE f z W (i.cell y) ?_;refine⟨λ X J G=>X=bq N.size 0 0 0/\J=i0/\aD T O T G,λ _ _ _=>0,⟨rfl,rfl,bX Z n⟩,?_⟩;rintro _ _ G⟨rfl,rfl,F⟩;refine rA ?_;have K:=(F.push (aV #[bq N.size 0 0 0] 277)).one (b:=G.size) F.size;exact L G.size _ _ _ K.1 (aK.one_eq zaq) ⟨_,_,rfl⟩
theorem m0:∀{a b:bU},dq a->dq b->(∀q,q∈a↔q∈b)->a=b
 |[],[],_,_,_=>rfl
 |[],q::b,_,_,O=>absurd ((O q).2 zab) zab
 |X::a,[],_,_,O=>absurd ((O X).1 zab) zab
 |X::a,q::b,s,U,O=>by
  have C:X=q:=by
   rcases List.mem_cons.1 ((O X).1 zab)with C|i
   ·exact C
   ·rcases List.mem_cons.1 ((O q).2 zab)with C|p
    ·exact C.symm
    ·exact absurd (U.head X i) (BE (s.head q p))
  subst C;have:a=b:=m0 s.tail U.tail λ L=>by
   constructor
   ·intro k;rcases List.mem_cons.1 ((O L).1 (c6 k))with C|o
    ·subst C;exact absurd (s.head L k) eg
    ·exact o
   ·intro k;rcases List.mem_cons.1 ((O L).2 (c6 k))with C|o
    ·subst C;exact absurd (U.head L k) eg
    ·exact o
  rw[this]
theorem Fz(Z:aN I h){r:Kd}(P:dI I m E)(S:ij I a x r A)(D:E.length<1000000)(d:∀V:aK,I.le V->ij V a x r A)(L:∀o V U,aD I h V U->dI V o E->R (aB o) U):Cf h 176 #[aB m,a,.agg x.toArray] R:=by
 obtain⟨C,y,z,u,v,b,n⟩:=P;refine qP (t:=none) Z u v b n S (λ h=>absurd rfl h) D (λ V U G R L=>tI G.sat (cE G.le (mc1 u)) (c5.mono (c:=none) G.le n) (d V G.le) L) λ o J X F V U G j g e p l=>?_;have M:F=E:=m0 e b λ q=>by rw[p];exact zab
 subst M;exact L o V U G ⟨279,J,X,j,g,e,l⟩
theorem DO(S:aN I h){b:Nat}{vc sc:Value}{tr:bW}{a:Addr}{l:bU}(h1:bP I b o=some vc)(fch:c5 I vc bA (some l))(hres:ij I sc tr .ma a)(ha:eO I a)(hn:l.length<1000000)(hR:∀nb x J h',aD I h J h'->J nb=aE #[x] 277->c5 J x bA (some l)->R (aB nb) h'):Cf h 221 #[cY b o,sc,.agg tr.toArray] R:=by
 obtain⟨l6,o6,hres⟩:=hres;obtain⟨y0,y1,y2,y3,y4,y5,rfl⟩:=jI l6;have q0:=o6 y0 zab;have q1:=o6 y1 zab;have q2:=o6 y2 zab;have q3:=o6 y3 zab;have q4:=o6 y4 zab;have q5:=o6 y5 zab;have hat:dQ .ma a=[nilp,nilp,.pointer (some a)]:=rfl;rw[hat]at hres;have fch0:=fch;obtain⟨ca,cc,rfl⟩:=fch.len;have zb:=S.lt h1;obtain⟨f,xx,yy,hm,hf,hx,-⟩:=ha;have hm0:=hm;obtain⟨mb,me,rfl,hmb⟩:=hm;refine fch.row λ rb ro w0 w1 w2 w3 q eca hcap hpe hq c4 _=>?_;have onw:=hpe.one;have p0:=onw w0 zab;have p1:=onw w1 zab;have p2:=onw w2 zab;have p3:=onw w3 zab;refine hpe.fldK λ kb ke ew0 ew1 ew2 ew3 hkb=>?_;subst ew0 ew1 ew2 ew3;refine Ig (rA ?_);refine nR (S:=bA) (V:=some l) (aC.sat (D:=none_) (I:=I) (h:=h) (aP S)) h1 fch0 (by simp only[eR];exact zaa) λ h2 t2=>?_;have s2:aD I h I h2:=aC.trans (aP S) t2;have bt2:blk h2 h.size=aE #[y0,y1,y2,y3,y4,y5] 95:=t2.blk Bk id;have zt:=aF bt2;refine gw kV zaa (t:=0) (u:=l.length) rfl rfl zaa zaa λ cs hcs=>rB bt2.c ?_;refine hres (show aD I h I _ from bX S s2).sat λ h3 t3=>?_;have s3:aD I h I h3:=aC.trans (bX S s2) t3;have S3:=t3.sat;have z3:=s3.size;have nzb:¬(h3.size=b):=zaa;have ox3:aQ h.size I h3 388 5 (bq h2.size 0 0 l.length) 0 []:=aQ.step (aQ.made (cW s2.size) Bk (S.fresh (cW s2.size)) hcs zaa) t3 λ _ _=>id;have zmb:=S.dom hmb;have zkb:=S.dom hkb;have zqv:∀{H:Heap},aD I h I H->aI H kb 0=some (aU bA):=λ t=>aA (t.sat _ _ hkb) 0;refine rC (S3.cell h1) nzb ?_;refine⟨λ x v h7=>(x=bq h2.size 0 0 l.length/\v=i0/\aD I h I h7/\blk h7 h3.size=aE #[nilp,nilp,aB mb] 92/\aQ h.size I h7 388 5 (bq h2.size 0 0 l.length) 0 [])\/(v=i1/\∃J q',aD I h J h7/\aQ h.size J h7 388 5 x 1 [aB kb,nilp,nilp,nilp,aB q']/\dI J q' l),λ _ v _=>match v with|.int _ i=>1-i.toNat|_=>0,.inl ⟨rfl,rfl,bX S s3,Bk,?_⟩,?_⟩
 ·exact aQ.put2 (aQ.put2 (aQ.put2 (ox3.push _) λ g hg=>cW (ox3.1.block hg)) λ g hg=>cW (ox3.1.block hg)) λ g hg=>cW (ox3.1.block hg)
 rintro x v h7(⟨rfl,rfl,s7,ba7,ox7⟩|⟨rfl,J,q',s7,ox7,fq⟩)
 ·have S7:=s7.sat;have cl:=c4 S7;have z7:=s7.size;have zab:=aF ba7;have at7:=At.of S7 hmb;have m2:aI h7 mb 2=some nilp:=by have:=at7 2 nilp rfl;exact zai
  have m3:aI h7 mb 3=some nilp:=by have:=at7 3 nilp rfl;exact zai
  have m4:aI h7 mb 4=some nilp:=by have:=at7 4 nilp rfl;exact zai
  have m5:aI h7 mb 5=some nilp:=by have:=at7 5 nilp rfl;exact zai
  have m6:aI h7 mb 6=some nilp:=by have:=at7 6 nilp rfl;exact zai
  have m7:aI h7 mb 7=some bf:=by have:=at7 7 bf rfl;exact zai
  refine rB eca ?_;try simp(disch:=omega)only[go_sem,↓reduceIte,eca,Int.toNat_zero,Nat.add_zero,cl.1,cl.2.1,cl.2.2.1,cl.2.2.2.1,cl.2.2.2.2,p0,p1,p2,p3]
  refine⟨_,λ _ H=>H,?_⟩;refine rH ba7.c m2 m3 m4 m5 m6 m7 ?_;refine⟨λ sf ok h23=>ok=bt/\∃sb,sf=aB sb/\h7.size+1<sb/\aD I h7 I h23/\blk h23 sb=aE (c9 bA .li xx).toArray 417/\blk h23 h7.size=aE #[aB kb,nilp,nilp,nilp,aB q] 388/\blk h23 (h7.size+1)=aE #[nilp,nilp,nilp,nilp,nilp,bf] 95,λ sf ok h23 hh=>?_,?_⟩
  ·refine hh.2.elim λ sb hh2=>?_;have esf:=hh2.1;have zsb:=hh2.2.1;have t23:=hh2.2.2.1;have bs23:=hh2.2.2.2.1;have bm23:=hh2.2.2.2.2.1;have bt23:=hh2.2.2.2.2.2;have S23:=t23.sat;have s23:=s7.trans t23;have z23:=t23.size;have bs23':blk h23 sb=aE #[aU bA,nilp,nilp,.pointer (some xx),nilp,nilp,bf,ni] 417:=bs23;have ox23:=ox7.step t23 λ _ _=>id;have ob7:∀g,(Value.slice (some ⟨h2.size,0,none⟩) 0 l.length).ownBlock=some g->g<h7.size:=λ g hg=>(ox7.1.block hg).2;try simp(disch:=omega)only[go_sem,↓reduceIte,hh.1,esf,aA bs23',aA bt23,aS bt23,aA bm23,p0,p1,p2,p3]
   refine Fz (x:=ef .li xx) (show aD I h I _ from bX S s23).sat hq hB hn (λ J _=>hB) λ q' J h13 t13 fq=>?_;have s13:aD I h J h13:=aC.trans (bX S s23) t13;have bm13:blk h13 h7.size=aE #[aB kb,nilp,nilp,nilp,aB q] 388:=t13.blk (bz bm23) id;have z13:=s13.size;have zz13:=t13.size;(try simp only[bJ]at zz13);have ox13:aQ h.size J h13 388 5 (bq h2.size 0 0 l.length) 0 []:=aQ.step (by repeat'(first|with_reducible exact ox23|with_reducible refine aQ.put2 ?_ (λ g hg=>cW (ob7 g hg)))) t13 λ _ _=>id;refine rF bm13.c p0 p1 p2 p3 ?_;refine bY kV rfl zaa zaa (H:=#[aB kb,nilp,nilp,nilp,aB q']) (v:=0) (c:=[]) (u:=h.size) (T:=J) Bk (ox13.push _) (aC.sat (D:=none_) (I:=J) (h:=h13) (by have S13:=t13.sat;exact aP S13)) rfl zbg zaa (by(try simp only[bJ]);exact zaa) λ x9 h9 ox9 t9 S9 w9=>?_;have s9:aD I h J h9:=aC.touch (s13.push _) t9 λ g hg=>⟨.inl (ox13.1.block hg).1,ox13.2 g hg⟩;refine rA ?_;exact⟨by first|exact .inr ⟨rfl,J,q',s9,bS ox9,fq⟩|exact .inr ⟨J,q',s9,bS ox9,fq⟩|exact⟨J,q',s9,bS ox9,fq⟩,zaE⟩
  ·refine rC ba7.c (zqv s7) ?_;refine⟨?_,?_⟩
   ·refine eo (show aD I h7 I _ from aP S7).sat hm0 hf λ h20 t20=>?_;have s20:aD I h7 I h20:=aC.trans (aP S7) t20;have ry:=t20.sat;have bm20:blk h20 h7.size=aE #[aB kb,nilp,nilp,nilp,aB q] 388:=t20.blk Bk id;have bt20:blk h20 (h7.size+1)=aE #[nilp,nilp,nilp,nilp,nilp,bf] 95:=t20.blk Bk id;have ba20:=s20.blk ba7 id;have z20:=s20.size;have zz20:=aF bt20;refine rD ba20.c bm20.c (zqv (s7.trans s20)) ?_;exact⟨h20.size,rfl,zaa,bX S7 s20,Bk,(show aD I h20 I _ from aP ry).blk bm20 id,(show aD I h20 I _ from aP ry).blk bt20 id⟩
   ·refine eo (show aD I h7 I _ from aP S7).sat hm0 hf λ h20 t20=>?_;have s20:aD I h7 I h20:=aC.trans (aP S7) t20;have ry:=t20.sat;have bm20:blk h20 h7.size=aE #[aB kb,nilp,nilp,nilp,aB q] 388:=t20.blk Bk id;have bt20:blk h20 (h7.size+1)=aE #[nilp,nilp,nilp,nilp,nilp,bf] 95:=t20.blk Bk id;have bx20:blk h20 (h7.size+2)=aE #[s0,nilp,nilp,nilp,nilp,nilp,bf,ni] 417:=t20.blk Bk id;have z20:=s20.size;have zz20:=aF bx20;refine rB bx20.b ?_;exact⟨h7.size+2,rfl,zaa,bX S7 s20,bz bx20,bz bm20,bz bt20⟩
 ·have ox:=ox7.one;refine rB ox ?_;have fz:=ox7.frz s7 bu zaa zbg;have kk:=(fz.1.push (aV #[x] 277)).one (b:=h7.size) s7.size;have le1:=fz.2.1.trans kk.2;exact hR h7.size x _ _ kk.1 (aK.one_eq zaq) ⟨[aB kb,nilp,nilp,nilp],q',fz.2.2.mono kk.2,⟨rfl,kb,rfl,ke,kk.1.le _ _ hkb⟩,fq.mono le1⟩
def mE(c:ex):bU:=if c.isSome=true then[.fld bA]else[]
theorem jQ(Z:aN I h){B:Addr}{t:ex}(r:cz I b [] bA t)(s:dr I d B)(D:cU I bT ⟨m,0,none⟩)(f:(t.getD []).length<1000000)(L:∀i V U,aD I h V U->cz V i (mE t) bA t->R i U):Cf h 176 #[b,d,.agg (dc m).toArray] R:=by
 obtain⟨W,C,y,z,rfl,u,v,b,n⟩:=r;have Y:eO I B:=zaN;refine qP (t:=t) (r:=.ma) (B:=B) (x:=dc m) Z u v b n (kB s D) (λ _=>⟨rfl,Y⟩) zab (λ V U G R L=>?_) λ o J X F V U G j g e p l=>?_
 ·cases t with|none=>exact tI G.sat (cE G.le (mc1 u)) (c5.mono (c:=none) G.le n) (kB (s.mono G.le) (D.mono G.le)) L|some H=>exact DO G.sat (cE G.le (mc1 u)) (c5.mono (c:=some H) G.le n) (kB (s.mono G.le) (D.mono G.le)) (Y.mono G.le) f L
 ·have M:F=mE t:=by cases t with|none=>exact List.eq_nil_iff_forall_not_mem.2 λ q v=>by have:=(p q).1 v;simp at this|some H=>exact pu e λ q=>by rw[p];exact zab
  subst M;exact L (aB o) V U G ⟨o,279,J,X,rfl,j,g,e,l⟩
def R4:(Al h 607 λ b c=>Mz c 605 i0 a λ a c=>Bd c 607 #[(0,a)] λ a=>Sr c 607 b a λ a=>Rv a 607 b λ b=>R b a)->Cf h 388 #[a] R:=mS Tryz.func388 cX
def IA:(Bx h 369 b λ b c=>aM c 607 a 0 605 λ d=>Ld c 369 b λ b=>Cf c 396 #[d,b,(.func (.func 397) #[] #[])] λ b c=>aW b λ b d=>Cd d (aM c 607 a 0 605 λ a=>Ia c 605 a b λ a=>Fa c 619 a 1 λ a=>Ld c 20 a λ a=>R (bj a bt) c) (R (bj ni bf) c))->Cf h 389 #[a,b] R:=mS Tryz.func389 (Z (Q wh nK))
def Tg:(Bx h 369 b λ b d=>aM d 607 a 0 605 λ e=>Ld d 369 b λ f=>Cf d 396 #[e,f,(.func (.func 398) #[] #[])] λ d e=>aW d λ d f=>Cd f (aM e 607 a 0 605 λ a=>Ia e 605 a d λ a=>Fa e 619 a 1 λ a=>Sr e 20 a c λ a=>R (.tuple #[]) a) (bg e 607 a 0 λ f=>Ld e 605 f λ g=>Ld e 369 b λ b=>Bd e 619 #[(0,b),(1,c)] λ b=>Bs e 604 1 #[(0,b)] λ b c=>aX c 607 a 0 f 605 g<|(Cf c 399 #[g,d,b] λ b c=>bC c 607 a 0 605 b λ a=>R (.tuple #[]) a)))->Cf h 390 #[a,b,c] R:=mS Tryz.func390 (Z (Q wh (Q cg (X #[0,0,2,6,14,0,0,0,192,448,1022,2047,4095,8191]))))
def Q0:(Bx h 369 b λ b d=>Ln d 605 a λ e=>Lp (∃(f:V2)(g:N2),f i0 e d/\∀d i j,f d i j->(bv j .lss 3 d i (Bi j .add 3 d i λ e=>Cn j 3 461 e λ e=>Bi j .shr 461 e (.int .u64 1) λ e=>Cn j 461 3 e λ e=>Ia j 605 a e λ a=>Ld j 619 a λ a=>Ld j 369 b λ b=>Cv j c #[a,b] λ a b=>bv b .lss 3 a i0 (Bi b .add 3 e i1 λ a=>(f a i b/\g a i b<g d i j)) (f d e b/\g d e b<g d i j)) (Bi j .lss 3 d e λ e=>aH j e (λ a b=>a c b) λ c f=>aH f e (λ b c=>b a c) λ a f=>aH f e (λ a b=>a d b) λ f g=>aH g e (λ b c=>Ia c 605 a f λ a=>b a c) λ a f=>aH f e (λ b c=>Ld c 619 a λ a=>b a c) λ a f=>aH f e (λ a c=>Ld c 369 b λ b=>a b c) λ b f=>aH f e (λ d e=>Cv e c #[a,b] λ a b=>d a b) λ a b=>aH b e (λ b c=>Eb c .eql 3 false true a i0 λ a=>b a c) λ a b=>Pk e a bf λ a=>R (bj d a) b))))->Cf h 396 #[a,b,c] R:=mS Tryz.func396 GK
def Vv:(Bx h 619 a λ a c=>Bx c 369 b λ b c=>Fa c 619 a 0 λ a=>Ld c 369 a λ a=>Ld c 369 b λ b=>Cf c 230 #[a,b] λ a b=>R a b)->Cf h 397 #[a,b] R:=mS Tryz.func397 cX
def Sd:(Bx h 619 a λ a c=>Bx c 369 b λ b c=>Fa c 619 a 0 λ a=>Ld c 369 a λ a=>Ld c 369 b λ b=>Cf c 230 #[a,b] λ a b=>R a b)->Cf h 398 #[a,b] R:=mS Tryz.func398 cX
def B9:(Sl h 605 a (some b) none none λ _=>Ln h 604 c λ d=>ce h 3 d i0 (R a h) (Ln h 605 a λ e=>Eb h .eql 3 false false b e λ f=>Cd f (A2 h 605 604 a c λ a b=>R a b) (Bi h .add 3 e d λ f=>Kp h 605 a λ g=>bv h .gtr 3 f g (Sl h 605 a none (some b) none λ f=>Bi h .add 3 e d λ e=>Bi h .sub 3 e b λ e=>A2 h 605 3 f e λ e f=>Sl f 605 e (some b) none none λ g=>Cy f 605 604 g c λ _ c=>Bi c .add 3 b d λ d=>Sl c 605 e (some d) none none λ d=>Sl c 605 a (some b) none none λ a=>Cy c 605 605 d a λ _ a=>R e a) (Bi h .add 3 e d λ f=>Sl h 605 a none (some f) none λ a=>Bi h .add 3 b d λ f=>Sl h 605 a (some f) none none λ f=>Xg h 402 #[c,f] λ f g=>cD g f (Bi g .add 3 b d λ d=>Sl g 605 a (some d) none none λ d=>Sl g 605 a (some b) none none λ e=>Cy g 605 605 d e λ _ d=>Sl d 605 a (some b) none none λ b=>Cy d 605 604 b c λ _ b=>R a b) (Sl g 605 a (some e) none none λ e=>Cy g 605 604 e c λ _ c=>Sl c 605 a (some b) none none λ b=>Cf c 403 #[b,d] λ _ b=>R a b)))))->Cf h 399 #[a,b,c] R:=mS Tryz.func399 II
def Ib:(Bx h 369 b λ b c=>bg c 634 a 0 λ a=>Ld c 369 b λ b=>Cf c 389 #[a,b] λ a b=>aW a λ a c=>cD b c (R (bj ni bf) b) (Ta b a 20 228 false λ a=>R (bj a bt) b))->Cf h 432 #[a,b] R:=mS Tryz.func432 PY
def Rx:(Al h 634 λ b c=>Cf c 388 #[a] λ a c=>Bd c 634 #[(0,a)] λ a=>Sr c 634 b a λ a=>Rv a 634 b λ b=>R b a)->Cf h 437 #[a] R:=mS Tryz.func437 cX
def UK:(Bx h 369 b λ b d=>bg d 634 a 0 λ a=>Ld d 369 b λ b=>Cf d 390 #[a,b,c] λ _ a=>R (.tuple #[]) a)->Cf h 438 #[a,b,c] R:=mS Tryz.func438 (Z (X #[0,1,3,0,0,31]))
theorem iU:eW 605=some (619,5,48,[nilp,nilp,nilp,nilp,ni]):=zag
theorem lf{D:Int}{r:IntKind}{T:Value->Prop}(K:0<=D/\D<=m):Sl h 605 (bq o l m n) (some (.int r D)) none none T=T (bq o (if n=D.toNat then l else l+D.toNat*5) (m-D.toNat) (n-D.toNat)):=l8 Tryz.underlying605 xw K
theorem mD{r:IntKind}{T:Value->Prop}:Sl h 605 (.slice none 0 m) (some (.int r 0)) none none T=T (.slice none 0 m):=by rw[lk Tryz.underlying605 xw zaa];exact zbs
theorem pD:A2 h 605 604 a b R=Ap h 605 a b R:=yE Tryz.underlying605 Tryz.underlying604
theorem o6{B:Option Addr}{T:Value->Prop}:Kp h 605 (.slice B m n) T=T (aR n):=sn Tryz.underlying605
theorem mT{D:Int}{r:IntKind}{T:Value->Prop}(K:0<=D/\D<=n):Sl h 605 (bq o l m n) none (some (.int r D)) none T=T (bq o l D.toNat n):=iW Tryz.underlying605 xw K
theorem sU{w:cQ}(Z:aN I h)(W:aQ m I h 619 5 d v x)(u:o<=v)(D:v+1<=2147483647)(j:blk h l=aE w 619)(C:w.size=5)(y:∀S∈w.toList,aG S=true)(H:∀S∈x,aG S=true)(a0:m<=h.size)(i:∀g,d.ownBlock=some g->g≠l)(L:∀s U,aQ m I U 619 5 s (v+1) (x.take (o*5)++w.toList++x.drop (o*5))->ft h U d.ownBlock->aN I U->(s.ownBlock=d.ownBlock\/∃g,s.ownBlock=some g/\h.size<=g)->R s U):Cf h 399 #[d,aR o,bq l 0 1 1] R:=by
 have T:=W.1.1;have J:=W.1.2;by_cases K:o=v
 ·subst K;have e:∀s U,aQ m I U 619 5 s (o+1) (x++w.toList)->ft h U d.ownBlock->aN I U->(s.ownBlock=d.ownBlock\/∃g,s.ownBlock=some g/\h.size<=g)->R s U:=by intro s U B u t f;refine L s U ?_ u t f;rw[List.take_of_length_le zaa,List.drop_of_length_le zaa,List.append_nil];exact B
  rcases J with⟨rfl,rfl⟩|⟨g,V,X,rfl,s,z,G,a1,E,p⟩
  ·refine B9 (rG @lf @mD @pD @o6 @mT @dS ?_);exact bY iU rfl zaa zaa j W Z C y zaa a0 e
  ·refine B9 (rG @lf @mD @pD @o6 @mT @dS ?_);first|exact bY iU rfl zaa zaa j W Z C y zaa a0 e|exact⟨λ _=>bY iU rfl zaa zaa j W Z C y zaa a0 e,λ F=>absurd F zab⟩
 ·rcases J with⟨rfl,rfl⟩|⟨g,V,X,rfl,s,z,G,a1,E,p⟩
  ·exact zaa
  have f:g≠l:=i g rfl;have K:I g=none:=W.2 g rfl;have B:blk h g=aE X 619:=z;have M:=aF B;have m:=aF j;have P:∀D S,x[D]?=some S->aI h g D=some S:=zbB;have a2:∀r,r<=v*5->X.toList.take r=x.take r:=zcI;have a3:∀S∈x.drop (o*5),aG S=true:=λ S O=>H S (List.mem_of_mem_drop O);have q:X.toList.length=V*5:=bS E;have e:((o:Int)==(v:Int))=false:=by simp;exact zaa
  obtain⟨i0,_,E,H,-⟩:=eF y8;have a4:∀(u G F N M q:Nat)(T:KV),Xg h 402 #[bq l u F N,bq g G M q] T=T bf h:=λ u G F N M q T=>nH Gn E H j B (λ M=>f M.symm) zaa;apply B9;by_cases T:V<v+1
  ·have G:decide ((V:Int)<(v:Int)+1)=true:=by simp;exact zaa
   refine rI @lf @mD @pD @o6 @mT @dS e G ?_;refine BF iU rfl zaa zaa (r:=v+1-o) zaa (b:=x.take (o*5)) (by rw[List.length_take];exact zaa) ?_ zaa zaa zaa ?_
   ·exact zcc
   intro t H A u R m;rw[show o+(v+1-o)=v+1 from zaa]at u⊢;have W:H.toList.length=t*5:=bS A;have F:blk (h.push (aV H 619)) h.size=aE H 619:=zaq;have f:blk (h.push (aV H 619)) l=aE w 619:=by rw[cq,if_neg zaa];exact j
   have i:w.toList.length=5:=bS C;refine rD @lf @dS @Nat.zero_add ?_;refine ju iU F (i:=1) (Y:=w.toList) (Nat.min_eq_left zaa) zaa (λ D S O=>zcs) (by rw[i];exact zaa) y ?_;generalize N:(H.toList.take (o*5)++w.toList++H.toList.drop (o*5+w.toList.length))=p;have d:=dV (H:=p.toArray) F;have U:p.length=t*5:=by rw[<-N];simp;exact zaa
   refine rD @lf @dS @Nat.zero_add ?_;have q:blk (ey (h.push (aV H 619)) h.size p.toArray) g=aE X 619:=by rw[g6 zaa,cq,if_neg zaa];exact B
   have f:(x.drop (o*5)).length=(v-o)*5:=by rw[List.length_drop];exact zaa
   refine ju iU d (i:=v-o) (Y:=x.drop (o*5)) (Nat.min_eq_left zaa) zaa ?_ (by rw[f];simp only[List.size_toArray];exact zaa) a3 ?_
   ·exact zcn
   have J:=dV (H:=(p.toArray.toList.take ((o+1)*5)++x.drop (o*5)++p.toArray.toList.drop ((o+1)*5+(x.drop (o*5)).length)).toArray) d;have z:(p.toArray.toList.take ((o+1)*5)++x.drop (o*5)++p.toArray.toList.drop ((o+1)*5+(x.drop (o*5)).length)).take ((v+1)*5)=x.take (o*5)++w.toList++x.drop (o*5):=by
    have A:p.toArray.toList.take ((o+1)*5)=x.take (o*5)++w.toList:=by show p.take _=_;rw[<-N,m,List.take_left'];rw[List.length_append,List.length_take,i];exact zaa
    rw[A,List.append_assoc,no (m:=o*5) (n:=5) (o:=(v-o)*5)]<;>first|omega|(rw[List.length_take];omega)
   generalize m:(p.toArray.toList.take ((o+1)*5)++x.drop (o*5)++p.toArray.toList.drop ((o+1)*5+(x.drop (o*5)).length))=F at J z⊢;have T:F.length=t*5:=by rw[<-m];simp;exact zaa
   have E:aD I h I (ey (ey (h.push (aV H 619)) h.size p.toArray) h.size F.toArray):=aC.setc (aC.setc (aC.push (aC.refl Z) _) (.inl bu) (Z.fresh bu)) (.inl bu) (Z.fresh bu);refine L _ _ ⟨⟨?_,.inr ⟨h.size,t,F.toArray,rfl,a0,J,u,R,bS T,z⟩⟩,λ W q=>by cases q;exact Z.fresh bu⟩ ⟨E.size,λ r Y _=>E.same r Y id⟩ E.sat (.inr ⟨_,rfl,Nat.le_refl _⟩);rw[List.length_append,List.length_append,List.length_take,i,f];exact zaa
  ·have G:decide ((V:Int)<(v:Int)+1)=false:=by simp;exact zaa
   try simp(disch:=omega)only[go_sem,↓reduceIte,lf,mD,pD,o6,mT,dS,e,G,a4]
   rw[show v+1-(o+1)=v-o from zaa];have i:w.toList.length=5:=bS C;have f:(x.drop (o*5)).length=(v-o)*5:=by rw[List.length_drop];exact zaa
   refine ju iU B (i:=v-o) (Y:=x.drop (o*5)) (Nat.min_eq_right zaa) zaa ?_ (by rw[f];exact zaa) a3 ?_
   ·intro D S O;rw[List.getElem?_drop]at O;exact P _ S O
   have d:=dV (H:=(X.toList.take ((o+1)*5)++x.drop (o*5)++X.toList.drop ((o+1)*5+(x.drop (o*5)).length)).toArray) B;have N:∀Q:bW,(X.toList.take ((o+1)*5)++x.drop (o*5)++Q).take (o*5)=x.take (o*5)/\(X.toList.take ((o+1)*5)++x.drop (o*5)++Q).drop (o*5+5)=x.drop (o*5)++Q:=by
    intro Q;have C:(X.toList.take ((o+1)*5)).length=(o+1)*5:=by rw[List.length_take];exact zaa
    refine⟨?_,?_⟩
    ·rw[List.append_assoc,List.take_append_of_le_length zaa,List.take_take,Nat.min_eq_left zaa,a2 _ zaa]
    ·rw[List.append_assoc,show o*5+5=(X.toList.take ((o+1)*5)).length from zaa,List.drop_left]
   have A:=N (X.toList.drop ((o+1)*5+(x.drop (o*5)).length));generalize t:(X.toList.take ((o+1)*5)++x.drop (o*5)++X.toList.drop ((o+1)*5+(x.drop (o*5)).length))=p at d A⊢;have U:p.length=V*5:=by rw[<-t];simp;exact zaa
   have H:blk (ey h g p.toArray) l=aE w 619:=by rw[g6 zaa];exact j
   refine rI @lf @mD @pD @o6 @mT @dS e G ?_;refine ju iU d (i:=1) (Y:=w.toList) (Nat.min_eq_left zaa) zaa (λ D S O=>zct) (by rw[i];simp only[List.size_toArray];exact zaa) y ?_;have J:=dV (H:=(p.toArray.toList.take (o*5)++w.toList++p.toArray.toList.drop (o*5+w.toList.length)).toArray) d;have z:(p.toArray.toList.take (o*5)++w.toList++p.toArray.toList.drop (o*5+w.toList.length)).take ((v+1)*5)=x.take (o*5)++w.toList++x.drop (o*5):=by rw[i];show(p.take (o*5)++w.toList++p.drop (o*5+5)).take _=_;rw[A.1,A.2,no (m:=o*5) (n:=5) (o:=(v-o)*5)]<;>first|omega|(rw[List.length_take];omega)
   generalize m:(p.toArray.toList.take (o*5)++w.toList++p.toArray.toList.drop (o*5+w.toList.length))=F at J z⊢;have T:F.length=V*5:=by rw[<-m];simp;exact zaa
   have E:aC (Eq g) I h I (ey (ey h g p.toArray) g F.toArray):=aC.setc (aC.setc (aC.refl Z) (.inr rfl) K) (.inr rfl) K;refine L _ _ ⟨⟨?_,.inr ⟨g,V,F.toArray,rfl,s,J,zaa,a1,bS T,z⟩⟩,λ W q=>by cases q;exact K⟩ ⟨E.size,λ r Y e=>E.same r Y (λ M=>e (by rw[<-M];rfl))⟩ E.sat (.inl rfl);rw[List.length_append,List.length_append,List.length_take,i,f];exact zaa
theorem yZ(Z:aN I h)(Y:bM I x G)(e:aG a=true)(j:bM I w M)(L:∀U,aD I h I U->R (aR (bQ G M)) U):Cf h 397 #[.agg (x++[a]).toArray,.agg w.toArray] R:=by obtain⟨p,Y⟩:=Y;obtain⟨O,j⟩:=j;obtain⟨F,B,P,v,rfl⟩:=cL p;obtain⟨A,T,H,g,rfl⟩:=cL O;refine Vv (rA ?_);exact zar
theorem z1(Z:aN I h)(Y:bM I x G)(e:aG a=true)(j:bM I w M)(L:∀U,aD I h I U->R (aR (bQ G M)) U):Cf h 398 #[.agg (x++[a]).toArray,.agg w.toArray] R:=by obtain⟨p,Y⟩:=Y;obtain⟨O,j⟩:=j;obtain⟨F,B,P,v,rfl⟩:=cL p;obtain⟨A,T,H,g,rfl⟩:=cL O;refine Sd (rA ?_);exact zar
theorem ua:mZ 397:=⟨zag,λ Z _ _ _ _ _ Y e j _ L=>yZ Z Y e j L⟩
theorem Ci:mZ 398:=⟨zag,λ Z _ _ _ _ _ Y e j _ L=>z1 Z Y e j L⟩
def k3(T:aK)(w:bW)(e:El×Value):Prop:=w.length=5/\bM T (w.take 4) e.1/\w[4]?=some e.2/\aG e.2=true
theorem k3.mono(O:I.le J){C:El×Value}(B:k3 I x C):k3 J x C:=⟨B.1,B.2.1.mono O,B.2.2⟩
theorem k3.of(e:bM I x G)(y:aG a=true):k3 I (x++[a]) (G,a):=by
 refine⟨by simp[e.1],?_,?_,y⟩
 ·rw[List.take_left' e.1];exact e
 ·rw[List.getElem?_append_right (by rw[e.1];exact zaa),e.1];rfl
def fE(T:aK)(J:Value)(H:et):Prop:=∃g:List bW,g.length=H.length/\cd T J 5 H.length g.flatten/\∀i(h:i<H.length)(U:i<g.length),k3 T g[i] H[i]
theorem fE.of{xs:bW}{H:et}(s:cd I a 5 H.length xs)(w:Rows (k3 I) xs H):fE I a H:=zcJ
theorem i7(V:mZ m)(Z:aN I h){J:Value}{H:et}(p:fE I J H)(l:bM I x G)(a0:∀a b(j:b<H.length)(e:a<=b),bQ H[b].1 G<0->bQ (H[a]'zaa).1 G<0)(L:∀(i:Nat)U,aD I h I U->i<=H.length->(∀k(Y:k<H.length),k<i->bQ H[k].1 G<0)->(∀k(Y:k<H.length),i<=k->¬bQ H[k].1 G<0)->R (bj (aR i) (.bool (if d:i<H.length then decide (bQ H[i].1 G=0)else false))) U):Cf h 396 #[J,.agg x.toArray,.func (.func m) #[] #[]] R:=by
 obtain⟨g,N,⟨a,T,rfl,t,-,D,-,E⟩,Q⟩:=p;obtain⟨D,C⟩:=l;obtain⟨A,T,M,j,rfl⟩:=cL D;refine Q0 (rA ?_);refine⟨λ d W N=>∃i D:Nat,d=aR i/\W=aR D/\i<=D/\D<=H.length/\aD I h I N/\blk N h.size=aE #[A,T,M,j] 369/\(∀k(Y:k<H.length),k<i->bQ H[k].1 G<0)/\(∀k(Y:k<H.length),D<=k->¬bQ H[k].1 G<0),λ d W _=>match d,W with|.int _ i,.int _ D=>D.toNat-i.toNat|_,_=>0,?_,?_⟩
 ·exact⟨0,H.length,rfl,rfl,zaa,zaa,aP Z,Bk,λ _ _ Y=>absurd Y zaa,λ _ Y Z=>absurd Y zaa⟩
 rintro _ _ N⟨i,D,rfl,rfl,c,K,d,bt,z,P⟩;refine rA ?_;have T:=d.size;have Z:∀k(Y:k<H.length),∃b s,a=some ⟨b,s,none⟩/\∃u q O J y,bM I [u,q,O,J] H[k].1/\aG y=true/\aI N b (s+k*5)=some u/\aI N b (s+k*5+1)=some q/\aI N b (s+k*5+2)=some O/\aI N b (s+k*5+3)=some J/\aI N b (s+k*5+4)=some y:=by
  intro k Y;obtain⟨b,s,rfl,r⟩:=E zaa;have f:k<g.length:=zaa;have o:∀X∈g,X.length=5:=by intro X M;obtain⟨p,X,rfl⟩:=List.getElem_of_mem M;exact(Q p zaa X).1
  have e:=Q k Y f;have S:∀D,D<5->g.flatten[k*5+D]?=g[k][D]?:=λ D K=>eD g o k D f K;generalize g[k]=w at e S;obtain⟨u,q,O,J,y,rfl⟩:=Ua e.1;have W:aN I N:=d.sat;have j:aI N b (s+k*5)=some u:=W.cell (r (k*5+0) u (by rw[S 0 zaa];rfl));have A:aI N b (s+k*5+1)=some q:=by rw[Nat.add_assoc];exact W.cell (r (k*5+1) q (by rw[S 1 zaa];rfl))
  have T:aI N b (s+k*5+2)=some O:=by rw[Nat.add_assoc];exact W.cell (r (k*5+2) O (by rw[S 2 zaa];rfl))
  have c:aI N b (s+k*5+3)=some J:=by rw[Nat.add_assoc];exact W.cell (r (k*5+3) J (by rw[S 3 zaa];rfl))
  have h:aI N b (s+k*5+4)=some y:=by rw[Nat.add_assoc];exact W.cell (r (k*5+4) y (by rw[S 4 zaa];rfl))
  have f:H[k].2=y:=by have:=e.2.2.1;simpa using this.symm
  exact⟨b,s,rfl,u,q,O,J,y,bS e.2.1,f▸e.2.2.2,j,A,T,c,h⟩
 refine⟨λ I=>?_,λ I=>?_⟩
 ·have o:i<D:=bS I;have M:((i:Int)+D)/2=((i+D)/2:Nat):=zaa;obtain⟨x,B⟩:∃x,x=(i+D)/2:=⟨_,rfl⟩;rw[<-B]at M;have B:x<H.length:=zaa;obtain⟨b,s,rfl,u,q,O,J,y,e,c,h,w,F,m,X⟩:=Z x B;rw[M];try simp(disch:=omega)only[go_sem,↓reduceIte,h,w,F,m,X,aA bt,ej V.cv,Array.append_empty]
  refine V.law (v:=[u,q,O,J]) d.sat e c ⟨rfl,C⟩ λ A r=>?_;have n:=d.trans r;have W:=r.blk bt id;refine rA ?_;refine⟨λ t=>?_,λ t=>?_⟩
  ·have T:bQ H[x].1 G<0:=bS t;refine⟨⟨x+1,D,rfl,rfl,zaa,K,n,W,λ k Y E=>a0 k x B zaa T,P⟩,zaa⟩
  ·have T:¬bQ H[x].1 G<0:=bS t;refine⟨⟨i,x,rfl,rfl,zaa,zaa,n,W,z,λ k Y E g=>T (a0 x k Y E g)⟩,zaa⟩
 ·have g:D=i:=by have:¬i<D:=bS I;exact zaa
  subst g;by_cases l:D<H.length
  ·have Y:decide ((D:Int)<(H.length:Int))=true:=bS l;obtain⟨b,s,rfl,u,q,O,J,y,e,c,h,w,F,m,X⟩:=Z D l;try simp(disch:=omega)only[go_sem,↓reduceIte,Y,h,w,F,m,X,aA bt,ej V.cv,Array.append_empty]
   refine V.law (v:=[u,q,O,J]) d.sat e c ⟨rfl,C⟩ λ A r=>rB Y ?_;have:=L D A (d.trans r) K z P;rw[dif_pos l]at this;have C:(bQ H[D].1 G==0)=decide (bQ H[D].1 G=0):=by rw[Bool.eq_iff_iff];exact zab
   rw[C];exact zbX
  ·have Y:decide ((D:Int)<(H.length:Int))=false:=bS l;refine rB Y ?_;have:=L D N d K z P;rw[dif_neg l]at this;exact zbX
def VM(i j:Nat)(T:aK)(h:Heap)(O:Nat)(b:cK)(g:et):Prop:=∃a t,blk h O=aE #[a] i/\aQ j T h 619 5 a g.length t/\Rows (k3 T) t g/\(∀S∈t,aG S=true)/\dq (g.map Prod.fst)/\(O∈b/\(∀k∈a.bl,k∈b)/\O∉a.bl)/\∀k∈b,j<=k/\k<h.size/\T k=none
theorem VM.step{D:Nat->Prop}{g:et}(B:VM m n I h o K g)(E:aC D I h J H)(G:∀k∈K,¬D k):VM m n J H o K g:=by obtain⟨a,t,u,s,W,N,f,⟨i1,i2,y⟩,c⟩:=B;exact⟨a,t,E.blk u (G _ i1),s.step E (λ P z=>G _ (i2 P (mem_bl.2 z))),W.mono λ _ _ w=>w.mono E.le,N,f,⟨i1,i2,y⟩,λ k Y=>⟨(c k Y).1,Nat.lt_of_lt_of_le (c k Y).2.1 E.size,(E.dom k (c k Y).2.1 (G k Y)).trans (c k Y).2.2⟩⟩
theorem VM.fps{g:et}(B:VM m n I h o K g):∀k∈K,n<=k/\k<h.size/\I k=none:=by obtain⟨a,t,-,-,-,-,-,-,c⟩:=B;exact c
theorem ub{g:et}(A:dq (g.map Prod.fst)){C:El}{M:Nat}(d:M<=g.length)(y:∀k(Y:k<g.length),k<M->bQ g[k].1 C<0)(N:∀k(Y:k<g.length),M<=k->¬bQ g[k].1 C<0):(if d:M<g.length then decide (bQ g[M].1 C=0)else false)=true↔C∈g.map Prod.fst:=by have:=A.found (G:=C) (m:=M) (bS d) (λ k Y G=>bS (y k (bS Y) G)) (λ k Y G=>bS (N k (bS Y) G));exact zai
theorem wP{g:et}(A:dq (g.map Prod.fst))(G:El):∀a b(j:b<g.length)(e:a<=b),bQ g[b].1 G<0->bQ (g[a]'zaa).1 G<0:=λ a b j e F=>by have:=A.mono G a b (bS j) e (bS F);exact zai
theorem U8{g:et}(w:Rows (k3 I) x g)(d:m<g.length):x[m*5+4]?=some g[m].2:=by
 obtain⟨g,y,rfl,K⟩:=w.lists;have o:∀X∈g,X.length=5:=by intro X i;obtain⟨p,P,rfl⟩:=List.getElem_of_mem i;exact(K p zaa P).1
 rw[eD g o m 4 zaa zaa];exact(K m d zaa).2.2.1
theorem kL(Z:aN I h){g:et}(B:VM m n I h o K g)(l:bM I x G)(D:g.length<=2147483646)(F:∀J U,aD I h I U->(G,J)∈g->R (bj J bt) U)(O:∀U,aD I h I U->(∀J,¬(G,J)∈g)->R (bj ni bf) U):Cf h 389 #[aB o,.agg x.toArray] R:=by
 obtain⟨a,t,u,W,w,N,f,⟨i1,i2,y⟩,c⟩:=B;have v:=l.one;obtain⟨A,T,H,j,rfl⟩:=cL l.1;have e:=aF u;have p:=W.one;have s:aD I h I (h.push (aV #[A,T,H,j] 369)):=aP Z;have c:aQ n I (h.push (aV #[A,T,H,j] 369)) 619 5 a g.length t:=W.push _;have K:I.le (I.own a (h.push (aV #[A,T,H,j] 369))):=aK.add_le s.sat _;have b:aN (I.own a (h.push (aV #[A,T,H,j] 369))) (h.push (aV #[A,T,H,j] 369)):=by have E:aC (λ r=>a.ownBlock=some r) I h I (h.push (aV #[A,T,H,j] 369)):=aP Z;exact(E.freeze _ λ P z=>.inr (of_decide_eq_true z)).sat
 have X:cd (I.own a (h.push (aV #[A,T,H,j] 369))) a 5 g.length t:=c.sli zaa N λ P z=>zbF;have hset:fE (I.own a (h.push (aV #[A,T,H,j] 369))) a g:=fE.of X (w.mono λ _ _ C=>C.mono K);refine IA (rB u.c ?_);refine i7 ua b hset (l.mono K) (wP f G) λ M N T d Z m=>?_;have Y:=ub f d Z m;have C:aD I h I N:=s.trans (T.thaw K);have H:=C.blk u id;have f:aQ n I N 619 5 a g.length t:=W.step C λ _ _=>id;by_cases V:(if d:M<g.length then decide (bQ g[M].1 G=0)else false)=true
 ·have L:M<g.length:=zbr;have x:g[M].1=G:=zbA;refine kd f zaa λ P U u h z r=>?_;have k:=r (M*5+4) _ (U8 w L);rw[Nat.zero_add]at k;refine rE H.c V u k ?_;exact F g[M].2 N C (by rw[<-x];exact List.getElem_mem L)
 ·exact zbl
theorem F8:ph 362 228=some true:=zag
@[go_sem] theorem W2{X:Nat}{T:Value->Prop}:Ta h (.iface 362 a) X 228 false T=T (.iface 362 a):=zy F8
theorem ve(Z:aN I h){g:et}(B:VM m n I h o K g){C:El}(l:bM I x C)(D:g.length<=2147483646)(p:∀q∈g,∃w,q.2=.iface 362 w)(F:∀J U,aD I h I U->(C,J)∈g->R (bj J bt) U)(O:∀U,aD I h I U->(∀J,¬(C,J)∈g)->R (bj ni bf) U):Cf h 432 #[aB o,.agg x.toArray] R:=by
 have v:=l.one;have i:=l;obtain⟨A,T,H,j,rfl⟩:=cL l.1;refine Ib (rA ?_);refine kL (G:=C) (show aD I h I _ from aP Z).sat (B.step (show aD I h I _ from aP Z) λ _ _=>id) i D (λ J U G B=>?_) λ U G B=>?_
 ·exact zbQ
 ·refine rA ?_;exact O U (aC.trans (aP Z) G) B
theorem aQ.setc(B:aQ m I h n o (bq t 0 l u) l x){k:Nat}(Y:k<l*o)(S:Value):aQ m I (aO h t k S) n o (bq t 0 l u) l (x.set k S):=by
 have D:0<l:=by
  rcases Nat.eq_zero_or_pos l with h|h
  ·subst h;simp at Y
  ·exact h
 obtain⟨J,H,X,v,j,z,a,q,s,l,d⟩:=B.at D;cases v;refine⟨⟨by rw[List.length_set];exact B.1.1,.inr ⟨t,u,X.setIfInBounds k S,rfl,j,?_,a,q,zce,?_⟩⟩,B.2⟩
 ·show blk (aO h t k S) t=_;rw[bO,if_pos rfl,z,dP]
 ·rw[Array.toList_setIfInBounds,List.take_set,l]
theorem Rows.set4(p:aG b=true){g:et}(w:Rows (k3 I) x g):∀(i:Nat)(d:i<g.length),Rows (k3 I) (x.set (i*5+4) b) (g.set i (g[i].1,b)):=by
 induction w with
  |nil=>intro i d;simp at d
  |@cons v B g bs Y w ih=>
   have f:=Y.1;intro i d;cases i with
    |zero=>
     rw[show 0*5+4=4 from rfl,List.set_append_left _ _ zaa];refine Rows.cons (a:=(B.1,b)) ⟨by rw[List.length_set];exact f,?_,?_,p⟩ w
     ·rw[List.take_set_of_le bu];exact Y.2.1
     ·rw[List.getElem?_set,if_pos rfl,if_pos zaa]
    |succ i=>rw[List.set_append_right _ _ zaa,show(i+1)*5+4-v.length=i*5+4 from zaa];exact Rows.cons Y (ih i (bS d))
theorem CL{g:et}(A:dq (g.map Prod.fst))(d:m<g.length)(J:Value):∀q,q∈g.set m (g[m].1,J)↔q=(g[m].1,J)\/(q.1≠g[m].1/\q∈g):=by
 intro q;rw[List.mem_iff_getElem?,];constructor
 ·rintro⟨r,Y⟩;rw[List.getElem?_set]at Y;by_cases h:m=r
  ·subst h;rw[if_pos rfl,if_pos d]at Y;exact .inl (by injection Y with Y;exact Y.symm)
  ·rw[if_neg h]at Y;refine .inr ⟨λ C=>h ?_,List.mem_of_getElem? Y⟩;obtain⟨c,G⟩:=List.getElem?_eq_some_iff.1 Y;have:=List.pairwise_iff_getElem.1 A;rcases Nat.lt_trichotomy m r with O|O|O
   ·have Q:=this m r (bS d) (bS c) O;simp[G,C]at Q;exact absurd Q eg
   ·exact O
   ·have Q:=this r m (bS c) (bS d) O;simp[G,C]at Q;exact absurd Q eg
 ·rintro(C|⟨A,z⟩)
  ·exact⟨m,by rw[List.getElem?_set,if_pos rfl,if_pos d,C]⟩
  ·obtain⟨r,Y,G⟩:=List.getElem_of_mem z;refine⟨r,?_⟩;rw[List.getElem?_set,if_neg,List.getElem?_eq_getElem Y,G];intro h;subst h;exact A (by rw[G])
theorem Ed{g:et}(d:m<g.length)(J:Value):(g.set m (g[m].1,J)).map Prod.fst=g.map Prod.fst:=by
 rw[List.map_set];apply List.ext_getElem?;intro r;rw[List.getElem?_set];by_cases h:m=r
 ·subst h;rw[if_pos rfl,if_pos (bS d)];simp[d]
 ·rw[if_neg h]
theorem iy(Z:aN I h){g:et}(B:VM m n I h l K g){C:El}{J:Value}(u:bM I x C)(p:aG J=true)(V:n<=h.size)(D:g.length<=2147483645)(hR:∀d X U,aC (λ k=>k∈K) I h I U->VM m n I U l d X->(∀k∈d,k∈K\/h.size<=k)->(∀q,q∈X↔q=(C,J)\/(q.1≠C/\q∈g))->X.length<=g.length+1->R (.tuple #[]) U):Cf h 390 #[aB l,.agg x.toArray,J] R:=by
 obtain⟨a,t,U,W,w,r1,f,⟨i1,i2,y⟩,c⟩:=B;have t1:=u.one;have a0:=u;obtain⟨A,T,H,j,rfl⟩:=cL u.1;have d:=aF U;have Q:=W.one;have s:aD I h I (h.push (aV #[A,T,H,j] 369)):=aP Z;have d:aQ n I (h.push (aV #[A,T,H,j] 369)) 619 5 a g.length t:=W.push _;have S:I.le (I.own a (h.push (aV #[A,T,H,j] 369))):=aK.add_le s.sat _;have N:aN (I.own a (h.push (aV #[A,T,H,j] 369))) (h.push (aV #[A,T,H,j] 369)):=by have E:aC (λ k=>a.ownBlock=some k) I h I (h.push (aV #[A,T,H,j] 369)):=aP Z;exact(E.freeze _ λ P z=>.inr (of_decide_eq_true z)).sat
 have X:cd (I.own a (h.push (aV #[A,T,H,j] 369))) a 5 g.length t:=d.sli zaa r1 λ P z=>zbF;have hset:fE (I.own a (h.push (aV #[A,T,H,j] 369))) a g:=fE.of X (w.mono λ _ _ E=>E.mono S);refine Tg (rB U.c ?_);refine i7 Ci N hset (u.mono S) (wP f C) λ M N F d a1 a2=>?_;have a3:=ub f d a1 a2;have m:aD I h I N:=s.trans (F.thaw S);have s:=m.blk U id;have R:=m.size;have a4:blk N h.size=aE #[A,T,H,j] 369:=F.blk zaq id;have E:aQ n I N 619 5 a g.length t:=W.step m λ _ _=>id;have a5:∀k∈K,k<N.size:=λ k Y=>cW (c k Y).2.1;by_cases V:(if d:M<g.length then decide (bQ g[M].1 C=0)else false)=true
 ·have L:M<g.length:=zbr;have x:g[M].1=C:=zbA;refine E.atK zaa λ P O X u t R O t t S D=>?_;have G:P∈K:=i2 P (mem_bl.2 zb8);have F:P≠l:=λ C=>y (mem_bl.2 (by rw[u,<-C];rfl));have S:M*5+4<X.size:=by rw[t];exact zaa
  have O:aI N P (M*5+4)=some X[M*5+4]:=by rw[aA R];exact Array.getElem?_eq_getElem S
  refine rG s.c R.f V u O p ?_;have O:=aC.put (o:=M*5+4) (v:=J) (m.weak (D':=λ k=>k∈K) λ _ _=>False.elim) (.inr G) D;have X:=(u▸E).setc (k:=M*5+4) zaa J;have D:=CL f L J;rw[x]at D;refine hR K (g.set M (g[M].1,J)) _ O ⟨a,_,?_,?_,Rows.set4 p w M L,?_,?_,⟨i1,i2,y⟩,?_⟩ (λ k Y=>.inl Y) (by rw[x];exact D) (by rw[List.length_set];exact zaa)
  ·rw[bO,if_neg F];exact s
  ·rw[List.length_set];rw[u];exact X
  ·intro S O;rcases List.mem_or_eq_of_mem_set O with Q|Q
   ·exact r1 S Q
   ·rw[Q];exact p
  ·rw[Ed L];exact f
  ·intro k Y;rw[aJ];exact⟨(c k Y).1,a5 k Y,(c k Y).2.2⟩
 ·have x:(if d:M<g.length then decide (bQ g[M].1 C=0)else false)=false:=bS V;have R:¬C∈g.map Prod.fst:=λ F=>V (a3.2 F);refine rE s.c a4.c x p ?_;have x:aD I h I (N.push (aV #[A,T,H,j,J] 619)):=bX Z m;refine sU (m:=n) x.sat (E.push _) d zaa (w:=#[A,T,H,j,J]) zaq rfl (eX (x:=[A,T,H,j]) t1 p) r1 (by(try simp only[bJ]);exact zaa) (λ P z=>cW (E.1.block z)) λ s t m N G V=>?_;have E:=N.blk (x.blk U id) (λ F=>y (mem_bl.2 F));have U:=m.one;have u:=N.size;(try simp only[bJ]at u);have n:aC (λ k=>k∈K) I h I t:=aC.touch (x.weak λ _ _=>False.elim) N λ P z=>⟨.inr (i2 P (mem_bl.2 z)),W.2 P z⟩;have L:l∉s.bl:=λ F=>by
   rcases V with Q|⟨P,Q,h⟩
   ·exact y (mem_bl.2 (Q▸mem_bl.1 F))
   ·have:=mem_bl.1 F;rw[Q]at this;cases this;(try simp only[bJ]at h);exact zaa
  refine rC E.b U ?_;have U:=f.insert (e:=C) (i:=M) (bS d) (λ k Y G=>bS (a1 k (bS Y) G)) (λ k Y G=>bS (a2 k (bS Y) G)) R;have G:=aC.put (o:=0) (v:=s) n (b:=l) (.inr i1) (c l i1).2.2;have t:(g.take M++(C,J)::g.drop M).length=g.length+1:=by rw[List.length_append,List.length_cons,List.length_take,List.length_drop];exact zaa
  refine hR (K++s.bl) (g.take M++(C,J)::g.drop M) _ G ⟨s,_,?_,?_,Rows.insert (r:=k3 I) (k3.of a0 p) (λ _ _ B=>B.1) M w d,?_,?_,⟨by simp[i1],λ k Y=>List.mem_append.2 (.inr Y),L⟩,?_⟩ ?_ ?_ zaa
  ·rw[bO,if_pos rfl,E];rfl
  ·rw[t];exact m.put2 λ P z C=>L (C▸mem_bl.2 z)
  ·intro S O;rcases List.mem_append.1 O with O|O
   ·rcases List.mem_append.1 O with O|O
    ·exact r1 S (List.mem_of_mem_take O)
    ·exact eX (x:=[A,T,H,j]) t1 p S O
   ·exact r1 S (List.mem_of_mem_drop O)
  ·have:=U.1;exact zai
  ·intro k Y;rw[aJ];rcases List.mem_append.1 Y with Y|Y
   ·exact⟨(c k Y).1,cW (a5 k Y),(c k Y).2.2⟩
   ·exact⟨(m.lt Y).1,(m.lt Y).2,m.2 k (mem_bl.1 Y)⟩
  ·intro k Y;rcases List.mem_append.1 Y with Y|Y
   ·exact .inl Y
   ·rcases V with Q|⟨P,Q,h⟩
    ·exact .inl (i2 k (mem_bl.2 (Q▸mem_bl.1 Y)))
    ·have:=mem_bl.1 Y;rw[Q]at this;cases this;(try simp only[bJ]at h);exact .inr zaa
  ·intro q;have:q∈g.take M++(C,J)::g.drop M↔q=(C,J)\/q∈g:=by
    rw[List.mem_append,List.mem_cons];constructor
    ·rintro(Q|Q|Q)
     ·exact .inr (List.mem_of_mem_take Q)
     ·exact zcB
     ·exact .inr (List.mem_of_mem_drop Q)
    ·rintro(Q|Q)
     ·exact .inr (.inl Q)
     ·rw[<-List.take_append_drop M g]at Q;rcases List.mem_append.1 Q with Q|Q
      ·exact zcB
      ·exact .inr (.inr Q)
   rw[this];constructor
   ·rintro(Q|Q)
    ·exact zcB
    ·exact .inr ⟨λ F=>R (List.mem_map.2 ⟨q,Q,F⟩),Q⟩
   ·rintro(Q|Q)
    ·exact zcB
    ·exact .inr Q.2
theorem qF(Z:aN I h){g:et}(B:VM m n I h o K g)(l:bM I x G)(p:aG a=true)(c:∃w,a=.iface 362 w)(r:n<=h.size)(D:g.length<=2147483645)(L:∀d X U,aC (λ k=>k∈K) I h I U->VM m n I U o d X->(∀k∈d,k∈K\/h.size<=k)->(∀q,q∈X↔q=(G,a)\/(q.1≠G/\q∈g))->X.length<=g.length+1->R (.tuple #[]) U):Cf h 438 #[aB o,.agg x.toArray,a] R:=by obtain⟨w,rfl⟩:=c;have v:=l.one;have i:=l;obtain⟨A,T,H,j,rfl⟩:=cL l.1;have b:=B.fps;refine UK (rA ?_);have s:aD I h I (h.push (aV #[A,T,H,j] 369)):=aP Z;refine iy s.sat (B.step s λ _ _=>id) i p (by(try simp only[bJ]);exact zaa) D λ d X U E y nf x t=>rA ?_;exact L d X U ((s.seq E).weak λ k _ F=>F.elim False.elim id) y (λ k Y=>(nf k Y).imp id λ Q=>by(try simp only[bJ]at Q);exact zaa) x t
theorem hO(Z:aN I h)(D:m<=2147483647)(L:∀X U,aD I h I U->aQ h.size I U 619 5 X 0 []->R (.agg #[X]) U):Cf h 388 #[aR m] R:=by refine R4 (rA ?_);refine gw iU zaa (t:=0) (u:=m) rfl rfl zaa zaa λ H b=>rA ?_;refine L (bq (h.size+1) 0 0 m) _ (aP Z) ?_;refine aQ.put2 (aQ.made (by(try simp only[bJ]);exact zaa) Bk (Z.fresh zaa) b zaa) λ P z=>?_;simp only[Value.ownBlock,Option.some.injEq]at z;exact zaa
theorem uf(Z:aN I h)(D:m<=2147483647)(L:∀X U,aD I h I U->aQ h.size I U 619 5 X 0 []->R (.agg #[X]) U):Cf h 437 #[aR m] R:=by
 refine Rx (rA ?_);refine hO (show aD I h I _ from aP Z).sat D λ X N P W=>?_;have C:aD I h I N:=aC.trans (aP Z) P;have j:=W.one;have H:blk N h.size=aE #[n0] 634:=P.blk Bk id;refine rC H.b j ?_;refine L X _ (aC.put C (.inl bu) (Z.fresh bu)) ?_;have:=(W.weak (base':=h.size) (by(try simp only[bJ]);exact zaa)).put2 (t:=h.size) (u:=0) (b:=X) λ P z=>by have:=(W.1.block z).1;(try simp only[bJ]at this);exact zaa
 exact zbX
def QK:(Bx h 369 b λ b d=>Bx d 95 c λ c d=>Lp (∃e:V0,(∀d,e d->(Lp (∃e:V1,(∀d f,e d f->(Nc a<|Ld f 411 a λ a=>Nc d<|Sr f 411 d a λ a=>Ld a 95 c λ c=>bC a 411 d 3 95 c λ a=>bg a 411 d 4 λ c=>Ld a 252 c λ e=>Ld a 369 b λ b=>Bs a 252 1 #[(0,b)] λ a b=>aX b 411 d 4 c 252 e<|(Ap b 252 e a λ a b=>bC b 411 d 4 252 a λ a=>bC a 411 d 0 228 ni λ a=>bC a 411 d 1 228 ni λ a=>bC a 411 d 7 408 nilp λ a=>R d a)))/\(aM d 411 a 9 409 λ b=>Nc b<|Ld d 647 b λ b=>Ln d 647 b λ b=>bv d .gtr 3 b i0 (aM d 411 a 9 409 λ c=>aM d 411 a 9 409 λ f=>Nc f<|Ld d 647 f λ f=>Bi d .sub 3 b i1 λ g=>Ia d 647 f g λ f=>Ld d 407 f λ f=>aM d 411 a 9 409 λ a=>Nc a<|Ld d 647 a λ a=>Bi d .sub 3 b i1 λ b=>Sl d 647 a none (some b) none λ a=>Nc c<|Sr d 647 c a λ a=>e f a) (Bd d 411 #[] λ a=>Bx d 411 a λ a b=>e a b)))))/\(aM d 411 a 9 409 λ b=>ce d 409 b nilp (Bs d 647 0 #[] λ b c=>Bx c 647 b λ b c=>bC c 411 a 9 409 b λ a=>e a) (e d))))->Cf h 440 #[a,b,c] R:=mS Tryz.func440 (Z (Y [] cF (Z (Y [7] Bt (Z (Z (Q EZ uw)))))))
def IU:(aM h 411 b 4 252 λ c=>aM h 411 b 4 252 λ d=>Ln h 252 d λ d=>Bi h .sub 3 d i1 λ d=>Sl h 252 c none (some d) none λ c=>bC h 411 a 4 252 c λ c=>bg c 411 a 9 λ d=>Ld c 409 d λ e=>bg c 411 a 9 λ f=>Ld c 409 f λ g=>Nc g<|Ld c 647 g λ i=>Bs c 647 1 #[(0,b)] λ b c=>aX c 411 a 9 d 409 e<|aX c 411 a 9 f 409 g<|fY c 647 g i<|(Ap c 647 i b λ b c=>aX c 411 a 9 d 409 e<|(Nc e<|Sr c 647 e b λ a=>R (.tuple #[]) a)))->Cf h 441 #[a,b] R:=mS Tryz.func441 Hd
theorem IB(O:x.length=16):∃f o g e z a C I K d E P i s Z c,x=[f,o,g,e,z,a,C,I,K,d,E,P,i,s,Z,c]:=by match x,O with|[f,o,g,e,z,a,C,I,K,d,E,P,i,s,Z,c],_=>exact⟨f,o,g,e,z,a,C,I,K,d,E,P,i,s,Z,c,rfl⟩
theorem yC(W:∃H,blk h m=aE H n/\H.size=16){M:Prop}(T:∀f o g e z a C I K d E P i s Z c,blk h m=aE #[f,o,g,e,z,a,C,I,K,d,E,P,i,s,Z,c] n->M):M:=by obtain⟨H,y,N⟩:=W;obtain⟨f,o,g,e,z,a,C,I,K,d,E,P,i,s,Z,c,k⟩:=IB (x:=H.toList) (bS N);exact T f o g e z a C I K d E P i s Z c zbq
structure UO(base:Nat)(I:aK)(h:Heap)(w sb:Nat)(x pv:Value)(ws:cK)(spv:Value)(cw:cQ)(cp ct:cQ)(n:Nat)(rows:bW)(h3:Heap)(sb2:Nat)(x2:Value):Prop where
 st:aC (λ k=>k=w\/k∈aY sb x pv ws) I h I h3
 bw:blk h3 w=aE cw 411
 sp:eC 411 647 407 16 base I h3 sb2 x2 ws
 po:aQ base I h3 369 4 pv n rows
 nd:(w::aY sb2 x2 pv ws).Nodup
 old:∀k∈sb2::x2.bl,k∈aY sb x pv ws\/h.size+2<=k
 bp:blk h3 h.size=aE cp 369
 bt:blk h3 (h.size+1)=aE ct 95
 sbe:spv=aB sb->sb2=sb
structure Vo(base:Nat)(I:aK)(h:Heap)(w sb:Nat)(x pv:Value)(ws:cK)(spv:Value)(cw:cQ)(cp ct:cQ)(n:Nat)(rows:bW)(h3:Heap)(w3 sb2:Nat)(x2:Value):Prop where
 st:aC (λ k=>k=w\/k∈aY sb x pv ws) I h I h3
 bw:blk h3 w=aE cw 411
 sp:eC 411 647 407 16 base I h3 sb2 x2 []
 po:aQ base I h3 369 4 pv n rows
 nd:(w::w3::aY sb2 x2 pv []).Nodup
 old:∀k∈w3::sb2::x2.bl,k∈aY sb x pv ws\/h.size+2<=k
 bp:blk h3 h.size=aE cp 369
 bt:blk h3 (h.size+1)=aE ct 95
 b3:∃cs,blk h3 w3=aE cs 411/\cs.size=16
 wI:I w3=none
 wb:base<=w3
 sbe:spv=aB sb->sb2=sb
theorem Hn{D:Int}{r:IntKind}{T:Value->Prop}(K:0<=D/\D<=n):Sl h 647 (bq o l m n) none (some (.int r D)) none T=T (bq o l D.toNat n):=iW Tryz.underlying647 KD K
set_option maxHeartbeats 1000000 in theorem pX{L:Nat}{T:aK}{O:Heap}(Z:aN T O){a0:cK}{V l z a1 u0 u1 H u3 U C:Value}{a2:Nat}(hw:blk O m=aE #[c,d,e,f,g,i,j,p,q,b,r,s,V,l,z,a1] 411)(a3:T m=none)(X:∀S∈[c,d,e,f,g,i,j,p,q,r,s,V,l,a1],aG S=true)(W:∀S∈[u0,u1,H,u3,U,C],aG S=true)(hm:MQ 411 647 407 16 L T O m o a b a0 z)(po:aQ L T O 369 4 b a2 x)(t:a2<=1)(a4:bM T w G)(E:L<=O.size)(hR:∀J y M E u,aC (λ k=>k=m\/k∈aY o a b a0) T O T u->blk u m=aE #[c,d,e,f,g,i,j,p,q,b,r,s,V,l,aB y,a1] 411->blk u J=aE #[ni,ni,e,u0,u1,H,u3,U,C,E,r,s,nilp,l,aB y,a1] 411->MS 411 647 407 16 L T u m J y M E [] (a2+1) (x++w)->(∀k∈J::aY y M E [],k∈aY o a b a0\/O.size<=k)->(z=aB o->y=o)->R (aB J) u):Cf O 440 #[aB m,.agg w.toArray,.agg #[u0,u1,H,u3,U,C]] R:=by
 obtain⟨p0,p1,p2,p3,rfl⟩:=cL a4.1;have q0:=X c zab;have q1:=X d zab;have q2:=X e zab;have q3:=X f zab;have Y:=X g zab;have q5:=X i zab;have q6:=X j zab;have q7:=X p zab;have q8:=X q zab;have q9:=X r zab;have a5:=X s zab;have a6:=X V zab;have a7:=X l zab;have a8:=X a1 zab;have F:=W u0 zab;have N:=W u1 zab;have r2:=W H zab;have r3:=W u3 zab;have r4:=W U zab;have r5:=W C zab;have s0:=a4.one p0 zab;have s1:=a4.one p1 zab;have s2:=a4.one p2 zab;have s3:=a4.one p3 zab;have P:=aF hw;have zm:=xk hm po P;have op:=po.one;have a9:a0=[]\/∃S,a0=[S]:=hm.elim (λ G=>.inl G.2.2.2.1) λ G=>G.2.2.1;apply QK;try simp(disch:=omega)only[go_sem,↓reduceIte,s0,s1,s2,s3]
 refine⟨λ K=>∃y M,UO L T O m o a b a0 z (#[c,d,e,f,g,i,j,p,q,b,r,s,V,l,aB y,a1]) #[p0,p1,p2,p3] #[u0,u1,H,u3,U,C] a2 x K y M,λ K W=>W.elim λ y W=>W.elim λ M B=>?_,?_⟩
 ·have st:=B.st;have S3:=st.sat;have z3:=st.size;have v:=ED B.nd;refine B.sp.own.slK λ ax cx X=>?_;have bk:=B.sp.bk;rw[X]at bk;have aa:=B.sp.lts;refine rC B.bw.c bk.c ?_;refine⟨λ P t=>∃J x3,P=aB J/\Vo L T O m o a b a0 z (#[c,d,e,f,g,i,j,p,q,b,r,s,V,l,aB y,a1]) #[p0,p1,p2,p3] #[u0,u1,H,u3,U,C] a2 x t J y x3,λ P t W=>W.elim λ J W=>W.elim λ x3 W=>?_,?_⟩
  ·have e2:=W.1;have u:=W.2;have ab:=u.st;have S4:=ab.sat;have z:=ab.size;have v:=fU u.nd;have X:=v.1;have n2:J≠O.size/\J≠O.size+1:=by
    rcases u.old J zab with Q|Q
    ·have:=zm _ Q;exact zaa
    ·exact zaa
   have n3:=n2.1;have w:=n2.2;have nw:=v.2.2.2.2.1.2.1;have P:=u.b3.elim λ ac w=>aF w.1;have P:=aF u.sp.bk;have w:=aF u.bw;have w:=u.wI;have r3:aC (Eq J) T t T t:=aC.refl S4;refine yC u.b3 λ P P P z3 z P z P z P P P P z P z hz=>?_;try simp(disch:=omega)only[go_sem,↓reduceIte,e2,aA u.bw,aA hz,aS hz,aA u.bp,aA u.bt,q0,q1,q2,q3,Y,q5,q6,q7,q8,q9,a5,a6,a7,a8,F,N,r2,r3,r4,r5,s0,s1,s2,s3,op,cn]
   refine bY gO rfl zaa zaa (H:=#[p0,p1,p2,p3]) (u:=L) (T:=T) (v:=a2) (c:=x) Bk (u.po.step (D:=Eq J) (I':=T) (dv S4 r3 w) (λ P z G=>nw (G▸mem_bl.2 z))) (aC.sat (D:=Eq J) (I:=T) (h:=t) (dv S4 r3 w)) rfl a4.one zaa (by(try simp only[bJ]);exact zaa) λ E N o8 Y S8 w8=>?_;have ad:aC (λ k=>k=J\/b.ownBlock=some k) T t T N:=aC.touch ((show aC (Eq J) T t T _ from dv S4 r3 w).weak λ k _ G=>Or.inl G.symm) Y λ P z=>⟨.inr (.inr z),u.po.2 P z⟩;have F:aC (λ k=>b.ownBlock=some k) T _ T N:=aC.touch (show aC (λ k=>b.ownBlock=some k) T _ T _ from aC.refl (aC.sat (D:=Eq J) (I:=T) (h:=t) (dv S4 r3 w))) Y λ P z=>⟨.inr z,u.po.2 P z⟩;have t:blk N J=aE #[c,d,e,u0,u1,H,u3,U,C,b,r,s,V,l,aB y,a1] 411:=F.blk (bz hz) λ F=>nw (mem_bl.2 F);have x:=aF t;have ae:=o8.one;(try simp only[bJ]at w8);have af:∀F,aC (Eq J) T N T F->blk F J=aE #[ni,ni,e,u0,u1,H,u3,U,C,E,r,s,nilp,l,aB y,a1] 411->R (aB J) F:=by
    intro F x b3;have R:=ad.trans' x (λ k _ G=>.inl G.symm);have ag:(m::J::aY y x3 E []).Nodup:=f3 (K:=m::J::y::x3.bl) (N:=[]) u.nd (w8.imp id λ⟨P,z,Y⟩=>⟨P,z,λ k Y=>by
     simp only[List.mem_cons]at Y;rcases Y with rfl|rfl|rfl|Y
     ·exact zaa
     ·exact zaa
     ·exact zaa
     ·have:=(u.sp.own.lt Y).2;exact zaa,zab⟩);have ah:=fU ag;refine hR J y x3 E F (ab.trans' R ?_) (R.blk u.bw ?_) b3 ⟨u.sp.step R ?_ ?_ zab,o8.step x (λ P z G=>ah.2.2.2.2.1.2.1 (G▸mem_bl.2 z)),ag,a3,w,u.wb⟩ ?_ u.sbe
    ·intro k Y F;rcases F with rfl|F
     ·rcases u.old k zab with Q|Q
      ·exact .inr Q
      ·exact zaa
     ·exact zco
    ·exact zbj
    ·exact za2
    ·exact zaA
    ·intro k Y;simp only[aY,List.mem_cons,List.mem_append]at Y;have x:k∈J::y::x3.bl->k∈aY o a b a0\/O.size<=k:=λ Y=>(u.old k Y).imp id λ Q=>zaa;rcases Y with Y|Y|Y|Y|Y
     ·exact x zch
     ·exact x zch
     ·exact x (c6 (c6 Y))
     ·rcases w8 with Q|⟨P,Q,v⟩
      ·exact zbE
      ·have:=mem_bl.1 Y;rw[Q]at this;cases this;exact .inr zaa
     ·cases Y
   have u:aC (Eq J) T N T N:=aC.refl S8;refine rD t.b e2 ae ?_;refine af _ (dv S8 u w) ?_;exact bz t
  ·refine a9.elim (λ G=>?_) λ W=>W.elim λ S G=>?_
   ·have u:blk K y=aE #[.slice ax 0 cx] 647:=zcu;refine rC B.bw.c u.c ?_;have E:eC 411 647 407 16 L T K y M []:=zaI;have x:(m::aY y M b []).Nodup:=zaJ;have R:aD T K T (K.push (aV #[ni,ni,nilp,nilp,nilp,nilp,nilp,nilp,bf,n0,nf,nf,nilp,bf,nilp,ni] 411)):=(aC.refl S3).push _;have t:=aF B.bt;refine⟨K.size,M,rfl,⟨st.push _,R.blk B.bw id,E.step R id (λ _ _=>id) (λ _ _=>id),B.po.step R (λ _ _=>id),pd x ?_,?_,R.blk B.bp id,R.blk B.bt id,⟨#[ni,ni,nilp,nilp,nilp,nilp,nilp,nilp,bf,n0,nf,nf,nilp,bf,nilp,ni],Bk,rfl⟩,Z.fresh z3,zaa,B.sbe⟩⟩
    ·intro k Y;simp only[aY,List.mem_cons,List.mem_append]at Y;rcases Y with rfl|rfl|Y|Y|Y
     ·exact aF B.bw
     ·exact aa.1
     ·exact aa.2.1 k Y
     ·exact(B.po.lt Y).2
     ·cases Y
    ·intro k Y;rcases List.mem_cons.1 Y with rfl|Y
     ·exact .inr zaa
     ·exact B.old k Y
   ·have E:eC 411 647 407 16 L T K y M [S]:=zaI;have x:(m::aY y M b [S]).Nodup:=zaJ;refine E.own.atK zab λ P v w u ai aj L ak t N am=>?_;have W:1<=v:=L;have L:aI K P 0=some (aB S):=by rw[aA aj,<-Array.getElem?_toList];have:(w.toList.take (1*1))[0]?=some (aB S):=zbh;rw[List.getElem?_take]at this;exact zai
    have N:blk K y=aE #[bq P 0 1 v] 647:=by have:=E.bk;rw[u]at this;exact zbX
    have W:=E.each S zab;have J:=fU (hu x);have an:P∈M.bl:=mem_bl.2 zb8;have ao:P≠y:=λ G=>J.2.2.2.1.2.2 (G▸an);refine rF B.bw.c N.b L @Hn @bZ ?_;have L:aC (Eq y) T K T (aO K y 0 (bq P 0 0 v)):=aC.put (aC.refl S3) (.inr rfl) E.sbI;have K:(Value.slice (some ⟨P,0,none⟩) 0 v).bl=M.bl:=zb8;refine⟨S,bq P 0 0 v,rfl,⟨st.trans' L ?_,L.blk B.bw (λ G=>J.2.1 G.symm),⟨bz N,⟨⟨zab,.inr ⟨P,v,w,rfl,ai,?_,Nat.zero_le _,ak,t,zab⟩⟩,λ M t=>by cases t;exact am⟩,zab,E.sbI,E.sbb,λ G=>by cases G;exact ao rfl,zab⟩,B.po.step L (λ P z G=>J.2.2.2.2.1.2.2 (G▸mem_bl.2 z)),?_,?_,L.blk B.bp ?_,L.blk B.bt ?_,?_,W.2.2.1,W.2.1,B.sbe⟩⟩
    ·intro k Y G;rcases B.old y zab with Q|Q
     ·exact .inr (G▸Q)
     ·exact zaa
    ·show blk _ _=_;rw[bO,if_neg (λ G=>ao G.symm)];exact aj
    ·show(m::S::y::(_++_)).Nodup;rw[K];exact hu x
    ·intro k Y;rw[K]at Y;rcases List.mem_cons.1 Y with rfl|Y
     ·exact .inl (gx (by rw[G];exact zab))
     ·exact B.old k Y
    ·intro G;rcases B.old y zab with Q|Q
     ·have:=zm _ Q;exact zaa
     ·exact zaa
    ·intro G;rcases B.old y zab with Q|Q
     ·have:=zm _ Q;exact zaa
     ·exact zaa
    ·obtain⟨⟨ac,d,e⟩,-⟩:=W;exact⟨ac,L.blk d (λ G=>J.2.2.1 G.symm),e⟩
 ·refine hm.elim (λ G=>?_) λ G=>?_
  ·have E:blk O m=aE #[c,d,e,f,g,i,j,p,q,b,r,s,V,l,nilp,a1] 411:=zbd;refine rB E.b ?_;obtain⟨y,e2,M,x,N⟩:=G;subst e2;subst M;subst x;have W:aC (Eq o) T O T O:=aC.refl Z;have Q:∀F,aC (Eq o) T O T F->aC (λ k=>k=o\/k∈aY o ni b []) T O T F:=λ F B=>B.weak λ k _ G=>.inl G.symm;refine⟨O.size+3,bq (O.size+2) 0 0 0,⟨Q _ (dv Z W a3),?_,⟨Bk,aQ.empty zaa zaP (Z.fresh zaa),zab,Z.fresh zaa,zaa,?_,zab⟩,po.step (D:=Eq o) (I':=T) (dv Z W a3) (λ P z G=>N (G▸mem_bl.2 z)),?_,?_,Bk,Bk,λ F=>by rw[y]at F;cases F⟩⟩
   ·exact bz E
   ·intro F;simp only[Value.ownBlock,Option.some.injEq]at F;exact zaa
   ·have n0:o≠O.size+3:=zaa;have X:o≠O.size+2:=zaa;have n2:∀k∈b.bl,k≠O.size+3/\k≠O.size+2:=λ k Y=>cW (po.lt Y).2;have n3:b.bl.Nodup:=zbm;have W:(Value.slice (some ⟨O.size+2,0,none⟩) 0 0).bl=[O.size+2]:=rfl;show(o::(O.size+3)::(_++_)).Nodup;rw[W];simp only[List.nodup_cons,List.cons_append,List.nil_append,List.append_nil,List.mem_cons,not_or];exact⟨⟨n0,X,N⟩,⟨zaa,λ F=>(n2 _ F).1 rfl⟩,λ F=>(n2 _ F).2 rfl,n3⟩
   ·intro k Y;have W:(Value.slice (some ⟨O.size+2,0,none⟩) 0 0).bl=[O.size+2]:=rfl;rw[W]at Y;simp only[List.mem_cons,List.not_mem_nil,or_false]at Y;exact .inr zaa
  ·have E:blk O m=aE #[c,d,e,f,g,i,j,p,q,b,r,s,V,l,aB o,a1] 411:=zbd;refine rB E.c ?_;have R:aD T O T ((O.push (aV #[p0,p1,p2,p3] 369)).push (aV #[u0,u1,H,u3,U,C] 95)):=((aC.refl Z).push _).push _;exact⟨o,a,⟨R.weak λ _ _=>False.elim,R.blk E id,G.2.1.step R id (λ _ _=>id) (λ _ _=>id),po.step R (λ _ _=>id),G.2.2.2,λ k Y=>.inl (m8 Y),Bk,Bk,λ _=>rfl⟩⟩
theorem CE{L:Nat}{T:aK}{O:Heap}(Z:aN T O){y:cK}{v J F a0 a1:Value}{H:cQ}(hw:blk O m=aE #[d,e,f,g,i,j,p,q,r,v,s,J,F,a0,aB t,a1] 411)(K:blk O l=aE H 411)(a2:H.size=16)(Q:H[9]?=some c)(z:x.length=0*4)(S:MS 411 647 407 16 L T O m l t a c y 1 (x++w))(N:L<=O.size)(V:y.length<2147483646)(hR:∀M E U,aC (λ k=>k=m\/k∈aY t a c y) T O T U->blk U m=aE #[d,e,f,g,i,j,p,q,r,E,s,J,F,a0,aB t,a1] 411->MT 411 647 407 16 L T U m t M E (y++[l]) 0 x->(∀k∈aY t M E (y++[l]),k∈l::aY t a c y\/O.size<=k)->R (.tuple #[]) U):Cf O 441 #[aB m,aB l] R:=by
 have v:=fU S.nd;have P:=aF hw;have C:=aF K;have E:=S.sp.lts;have G:=E.1;have G:=S.wI;have W:=S.sp.own.one;refine S.po.atK zaa λ P V X U w W R B Y N a3=>?_;have C:P∈c.bl:=mem_bl.2 zcj;have C:H[9]?=some (bq P 0 1 V):=by rw[Q,U]
 have Q:1<=V:=R;have a4:(Value.slice (some ⟨P,0,none⟩) 0 V).bl=c.bl:=zcj;have a5:aQ L T O 369 4 (bq P 0 0 V) 0 x:=by refine⟨⟨z,.inr ⟨P,V,X,rfl,w,W,zaa,B,Y,?_⟩⟩,λ g' B=>by cases B;exact a3⟩;have w:X.toList.take (0*4)=(X.toList.take (1*4)).take (0*4):=zbx;rw[w,N,List.take_append_of_le_length zaa,<-z,List.take_length]
 refine IU (rD K.c C @gj ?_);refine rG hw.b S.sp.bk.c K.c C @gj @bZ ?_;have W:aC (Eq m) T O T O:=aC.refl Z;refine bY p7 rfl zaa zaa (H:=#[aB l]) (u:=L) (T:=T) (v:=y.length) (c:=y.map aB) Bk (S.sp.own.step (D:=Eq m) (I':=T) (dv Z W G) (λ P z C=>v.2.2.2.1.1 (C▸mem_bl.2 z))) (aC.sat (D:=Eq m) (I:=T) (h:=O) (dv Z W G)) rfl zbg zaa (by(try simp only[bJ]);exact zaa) λ M N X Y Q w=>?_;have U:aC (λ k=>k=m\/a.ownBlock=some k) T O T N:=aC.touch ((show aC (Eq m) T O T _ from dv Z W G).weak λ k _ C=>Or.inl C.symm) Y λ P z=>⟨.inr (.inr z),S.sp.own.2 P z⟩;have x:aC (λ k=>a.ownBlock=some k) T _ T N:=aC.touch (show aC (λ k=>a.ownBlock=some k) T _ T _ from aC.refl (aC.sat (D:=Eq m) (I:=T) (h:=O) (dv Z W G))) Y λ P z=>⟨.inr z,S.sp.own.2 P z⟩;have Z:blk N m=aE #[d,e,f,g,i,j,p,q,r,bq P 0 0 V,s,J,F,a0,aB t,a1] 411:=x.blk (bz hw) λ F=>v.2.2.2.1.1 (mem_bl.2 F);have j:=U.blk S.sp.bk (λ F=>F.elim (λ C=>v.2.1 C.symm) λ C=>v.2.2.2.1.2.2 (mem_bl.2 C));have p:=U.blk K (λ F=>F.elim (λ C=>v.1 C.symm) λ C=>v.2.2.2.1.2.1 (mem_bl.2 C));have K:=U.size;have d:=X.one;(try simp only[bJ]at w);have x:∀k∈aY t a c y,k<O.size:=zah;have g:(m::l::aY t M c y).Nodup:=by
  have C:∀q:Value,(m::l::aY t q c y)=[m,l,t]++(q.bl++(c.bl++y)):=λ q=>rfl;rw[C];refine f3 (K:=[m,l,t]) (a:=a) (N:=c.bl++y) S.nd (w.imp id λ⟨P,z,q⟩=>⟨P,z,λ k Y=>?_,λ k Y=>?_⟩)
  ·exact zan
  ·have:k<O.size:=x k zam;exact zaa
 have O:=fU g;refine rD Z.c j.b d ?_;have J:aC (Eq t) T N T (aO N t 0 M):=aC.put (aC.refl Q) (.inr rfl) S.sp.sbI;refine hR M (bq P 0 0 V) _ (aC.trans' (a:=Eq t) (U.weak λ k _ F=>F.imp id λ C=>eZ (mem_bl.2 C)) J λ k _ C=>.inr (C▸eu)) (J.blk Z λ C=>v.2.1 C.symm) ⟨⟨?_,?_,?_,S.sp.sbI,S.sp.sbb,λ F=>O.2.2.2.1.2.2 (mem_bl.2 F),?_⟩,?_,?_,G⟩ ?_
 ·exact bz j
 ·have:=X.put2 (t:=t) (u:=0) (b:=M) λ P z C=>O.2.2.2.1.2.2 (C▸mem_bl.2 z);exact zai
 ·intro E G;rcases List.mem_append.1 G with G|G
  ·exact zal
  ·exact zby
 ·exact List.nodup_append.2 ⟨S.sp.nd,zab,λ S O F p C=>(v.2.2.2.2.2.2 S O).2.1 zaL⟩
 ·exact zaT
 ·exact zcU
 ·intro k Y;simp only[aY,List.mem_cons,List.mem_append,List.not_mem_nil,or_false]at Y;rcases Y with Y|Y|Y|Y|Y
  ·exact za1
  ·rcases w with Q|⟨g',Q,T⟩
   ·exact zaD
   ·have:=mem_bl.1 Y;rw[Q]at this;cases this;exact .inr zaa
  ·rw[a4]at Y;exact zbK
  ·exact zbJ
  ·exact .inl (by rw[Y];exact zab)
theorem Cq{L:Nat}{T:aK}{O:Heap}(Z:aN T O){y:cK}{v J F a0 a1:Value}{H:cQ}(hw:blk O m=aE #[d,e,f,g,i,j,p,q,r,v,s,J,F,a0,aB t,a1] 411)(K:blk O l=aE H 411)(a2:H.size=16)(Q:H[9]?=some c)(z:x.length=1*4)(S:MS 411 647 407 16 L T O m l t a c y 2 (x++w))(N:L<=O.size)(V:y.length<2147483646)(hR:∀M E U,aC (λ k=>k=m\/k∈aY t a c y) T O T U->blk U m=aE #[d,e,f,g,i,j,p,q,r,E,s,J,F,a0,aB t,a1] 411->MT 411 647 407 16 L T U m t M E (y++[l]) 1 x->(∀k∈aY t M E (y++[l]),k∈l::aY t a c y\/O.size<=k)->R (.tuple #[]) U):Cf O 441 #[aB m,aB l] R:=by
 have v:=fU S.nd;have P:=aF hw;have C:=aF K;have E:=S.sp.lts;have G:=E.1;have G:=S.wI;have W:=S.sp.own.one;refine S.po.atK zaa λ P V X U w W R B Y N a3=>?_;have C:P∈c.bl:=mem_bl.2 zcj;have C:H[9]?=some (bq P 0 2 V):=by rw[Q,U]
 have Q:2<=V:=R;have a4:(Value.slice (some ⟨P,0,none⟩) 1 V).bl=c.bl:=zcj;have a5:aQ L T O 369 4 (bq P 0 1 V) 1 x:=by refine⟨⟨z,.inr ⟨P,V,X,rfl,w,W,zaa,B,Y,?_⟩⟩,λ g' B=>by cases B;exact a3⟩;have w:X.toList.take (1*4)=(X.toList.take (2*4)).take (1*4):=zbx;rw[w,N,List.take_append_of_le_length zaa,<-z,List.take_length]
 refine IU (rD K.c C @gj ?_);refine rG hw.b S.sp.bk.c K.c C @gj @bZ ?_;have W:aC (Eq m) T O T O:=aC.refl Z;refine bY p7 rfl zaa zaa (H:=#[aB l]) (u:=L) (T:=T) (v:=y.length) (c:=y.map aB) Bk (S.sp.own.step (D:=Eq m) (I':=T) (dv Z W G) (λ P z C=>v.2.2.2.1.1 (C▸mem_bl.2 z))) (aC.sat (D:=Eq m) (I:=T) (h:=O) (dv Z W G)) rfl zbg zaa (by(try simp only[bJ]);exact zaa) λ M N X Y Q w=>?_;have U:aC (λ k=>k=m\/a.ownBlock=some k) T O T N:=aC.touch ((show aC (Eq m) T O T _ from dv Z W G).weak λ k _ C=>Or.inl C.symm) Y λ P z=>⟨.inr (.inr z),S.sp.own.2 P z⟩;have x:aC (λ k=>a.ownBlock=some k) T _ T N:=aC.touch (show aC (λ k=>a.ownBlock=some k) T _ T _ from aC.refl (aC.sat (D:=Eq m) (I:=T) (h:=O) (dv Z W G))) Y λ P z=>⟨.inr z,S.sp.own.2 P z⟩;have Z:blk N m=aE #[d,e,f,g,i,j,p,q,r,bq P 0 1 V,s,J,F,a0,aB t,a1] 411:=x.blk (bz hw) λ F=>v.2.2.2.1.1 (mem_bl.2 F);have j:=U.blk S.sp.bk (λ F=>F.elim (λ C=>v.2.1 C.symm) λ C=>v.2.2.2.1.2.2 (mem_bl.2 C));have p:=U.blk K (λ F=>F.elim (λ C=>v.1 C.symm) λ C=>v.2.2.2.1.2.1 (mem_bl.2 C));have K:=U.size;have d:=X.one;(try simp only[bJ]at w);have x:∀k∈aY t a c y,k<O.size:=zah;have g:(m::l::aY t M c y).Nodup:=by
  have C:∀q:Value,(m::l::aY t q c y)=[m,l,t]++(q.bl++(c.bl++y)):=λ q=>rfl;rw[C];refine f3 (K:=[m,l,t]) (a:=a) (N:=c.bl++y) S.nd (w.imp id λ⟨P,z,q⟩=>⟨P,z,λ k Y=>?_,λ k Y=>?_⟩)
  ·exact zan
  ·have:k<O.size:=x k zam;exact zaa
 have O:=fU g;refine rD Z.c j.b d ?_;have J:aC (Eq t) T N T (aO N t 0 M):=aC.put (aC.refl Q) (.inr rfl) S.sp.sbI;refine hR M (bq P 0 1 V) _ (aC.trans' (a:=Eq t) (U.weak λ k _ F=>F.imp id λ C=>eZ (mem_bl.2 C)) J λ k _ C=>.inr (C▸eu)) (J.blk Z λ C=>v.2.1 C.symm) ⟨⟨?_,?_,?_,S.sp.sbI,S.sp.sbb,λ F=>O.2.2.2.1.2.2 (mem_bl.2 F),?_⟩,?_,?_,G⟩ ?_
 ·exact bz j
 ·have:=X.put2 (t:=t) (u:=0) (b:=M) λ P z C=>O.2.2.2.1.2.2 (C▸mem_bl.2 z);exact zai
 ·intro E G;rcases List.mem_append.1 G with G|G
  ·exact zal
  ·exact zby
 ·exact List.nodup_append.2 ⟨S.sp.nd,zab,λ S O F p C=>(v.2.2.2.2.2.2 S O).2.1 zaL⟩
 ·exact zaT
 ·exact zcU
 ·intro k Y;simp only[aY,List.mem_cons,List.mem_append,List.not_mem_nil,or_false]at Y;rcases Y with Y|Y|Y|Y|Y
  ·exact za1
  ·rcases w with Q|⟨g',Q,T⟩
   ·exact zaD
   ·have:=mem_bl.1 Y;rw[Q]at this;cases this;exact .inr zaa
  ·rw[a4]at Y;exact zbK
  ·exact zbJ
  ·exact .inl (by rw[Y];exact zab)
def I4:(aM h 411 a 0 228 λ c=>Eb h .eql 228 false true c ni λ c=>aH h c (λ b c=>b a c) λ d e=>aH e c (λ a b=>Nc d<|a d b) λ d e=>aH e c (λ a b=>Fa b 411 d 1 λ c=>a c b) λ d e=>aH e c (λ a b=>Ld b 228 d λ c=>a c b) λ d e=>aH e c (λ a b=>Eb b .eql 228 false true d ni λ c=>a c b) λ d e=>Pk c d bf λ c=>Cd c (Cf e 194 #[dO 0x6174206c65617374206f6e65206f66206c687320616e6420726873206d7573742062652070726f7669646564] λ a b=>R a b) (Lp (∃c:V2,(∀d e f,c d e f->(Nt f e λ c=>Cd c (Cf f 194 #[dO 0x736368656d61206572726f723a206e6f207479706520666f756e64206d61746368696e67] λ a b=>R a b) (Lp (∃c:V1,(∀e f,c e f->(Lp (∃c:V1,(∀d f,c d f->(Lp (∃c:V1,(∀d e,c d e->(Lp (∃c:V0,(∀a,c a->(Cf a 240 #[d,b] λ a b=>R a b))/\(Nc a<|Fa e 411 a 8 λ b=>Ld e 4 b λ b=>Nt e b λ b=>aH e b (λ b c=>b a c) λ d e=>aH e b (λ a b=>Nc d<|a d b) λ d e=>aH e b (λ a b=>Fa b 411 d 6 λ c=>a c b) λ d e=>aH e b (λ a b=>Ld b 406 d λ c=>a c b) λ d e=>aH e b (λ a b=>Eb b .neq 406 false true d nf λ c=>a c b) λ d e=>Pk b d bf λ b=>Cd b (aM e 411 a 6 406 λ b=>Cv e b #[a] λ _ a=>c a) (c e)))))/\(Nc a<|Fa f 411 a 1 λ b=>Ld f 228 b λ b=>ce f 228 b ni (Ld f 92 e λ b=>aM f 411 a 3 95 λ d=>Mi f 407 a λ a=>Cf f 236 #[b,d,a] λ a b=>Ap b 323 n0 a λ a b=>c a b) (aM f 411 a 0 228 λ b=>Eb f .eql 228 false true b ni λ b=>Gd f b false (λ a b=>Cf b 238 #[e,d] λ b c=>a b c) λ f g=>Pk b bt f λ b=>Cd b (Ld g 92 d λ b=>aM g 411 a 3 95 λ d=>Mi g 407 a λ a=>Cf g 236 #[b,d,a] λ a b=>Ap b 323 n0 a λ a b=>c a b) (Nc a<|Ld g 411 a λ b=>bH g 411 b λ b f=>Ld f 92 e λ e=>aM f 411 a 3 95 λ g=>Mi f 407 b λ b=>Cf f 236 #[e,g,b] λ b e=>Ap e 323 n0 b λ b e=>Ld e 92 d λ d=>aM e 411 a 3 95 λ f=>Mi e 407 a λ a=>Cf e 236 #[d,f,a] λ a d=>Ap d 323 b a λ a b=>c a b))))))/\(Ld f 92 d λ b=>bg f 411 a 1 λ e=>Ld f 228 e λ g=>(Cf f 239 #[b,g] λ f i=>Al i 92 λ i j=>fY j 92 d b<|aX j 411 a 1 e 228 g<|(Sr j 92 i f λ a=>c i a))/\(Al f 92 λ f i=>fY i 92 d b<|aX i 411 a 1 e 228 g<|(Cf i 239 #[b,g] λ a b=>Sr b 92 f a λ a=>c f a))))))/\(Ld f 92 d λ b=>bg f 411 a 0 λ e=>Ld f 228 e λ g=>(Cf f 239 #[b,g] λ f i=>Al i 92 λ i j=>fY j 92 d b<|aX j 411 a 0 e 228 g<|(Sr j 92 i f λ a=>c i a))/\(Al f 92 λ f i=>fY i 92 d b<|aX i 411 a 0 e 228 g<|(Cf i 239 #[b,g] λ a b=>Sr b 92 f a λ a=>c f a)))))))/\(Nc a<|Fa e 411 a 2 λ b=>Ld e 86 b λ d=>bg e 411 a 3 λ f=>Ld e 95 f λ g=>(Cf e 219 #[d,g] λ e i=>aW e λ e j=>Al i 92 λ i k=>aX k 411 a 2 b 86 d<|aX k 411 a 3 f 95 g<|(Sr k 92 i e λ a=>c i j a))/\(Al e 92 λ e i=>aX i 411 a 2 b 86 d<|aX i 411 a 3 f 95 g<|(Cf i 219 #[d,g] λ a b=>aW a λ a d=>Sr b 92 e a λ a=>c e d a))))))->Cf h 216 #[a,b] R:=mS Tryz.func216 (Z (Q cg (Y [5,6] GZ (Q cg (Y [7] EK (Y [8] EK (Y [4] PN qU)))))))
structure fR(I:aK)(h:Heap)(k:Kd)(a:Addr)(b:Nat)(h2:Heap):Prop where
 st:aD I h I h2
 bk:blk h2 b=aE (dQ k a).toArray 92
theorem fR.step{K:Heap}{r:Kd}(p:fR I h r A m H)(G:aD I H I K):fR I h r A m K:=⟨p.st.trans G,G.blk p.bk id⟩
theorem fR.bk'{r:Kd}(p:fR I h r A m H)(Y:dQ r A=[a,b,c]):blk H m=aE #[a,b,c] 92:=by have:=p.bk;rw[Y]at this;exact zbX
theorem fR.at{r:Kd}(p:fR I h r A m H):At H m 0 (dQ r A):=λ M S O=>by rw[Nat.zero_add,aA p.bk];simpa using O
theorem fR.mk'{r:Kd}(Y:dQ r A=[a,b,c])(E:aD I h I H)(j:blk H m=aE #[a,b,c] 92):fR I h r A m H:=⟨E,by rw[Y];exact j⟩
theorem k0(Z:aN I h){r:Kd}{B:Addr}(Y:dQ r B=[c,d,e])(p:jW I b){z:KV}(L:∀U,aD I h I U->z (.agg #[c,d,e]) U):Cf h 239 #[.agg #[c,d,e],b] z:=by have:=gW (r:=r) (A:=B) Z p (R:=z) (by rw[Y];exact L);rw[Y]at this;exact zbX
theorem nS(Z:aN I h){r:Kd}{B:Addr}(Y:dQ r B=[i,j,p])(L:∀U,aD I h I U->Iv U q (lN r) #[.pointer (some B)] R):Cf h 236 #[.agg #[i,j,p],.agg #[b,c,d,e,f,g],q] R:=by have:=gX (r:=r) (A:=B) (x:=[b,c,d,e,f,g]) Z rfl L;rw[Y]at this;exact zbX
theorem kS(Z:aN I h){r:Kd}(w:ij I a [b,c,d,e,f,g] r A)(Y:dQ r A=[i,j,k])(L:∀U,aD I h I U->R (bj (.agg #[i,j,k]) bt) U):Cf h 219 #[a,.agg #[b,c,d,e,f,g]] R:=by refine w.2.2 Z ?_;rw[Y];exact L
def BN(E:Nat)(R:KV)(T:KV):Prop:=∀N H,blk N E=aE H 411->H[11]?=some nf->(∃b,H[13]?=some (.bool b))->R n0 N->T n0 N
def H1(R:KV)(a b:Value)(c:Heap):Prop:=Lp (∃d:V2,(∀c e f,d c e f->(Nt f e λ d=>Cd d (Cf f 194 #[(aU ⟨#[115,99,104,101,109,97,32,101,114,114,111,114,58,32,110,111,32,116,121,112,101,32,102,111,117,110,100,32,109,97,116,99,104,105,110,103]⟩)] λ a b=>R a b) (Lp (∃d:V1,(∀e f,d e f->(Lp (∃d:V1,(∀c f,d c f->(Lp (∃d:V1,(∀c e,d c e->(Lp (∃d:V0,(∀a,d a->(Cf a 240 #[c,b] λ a b=>R a b))/\(Nc a<|Fa e 411 a 8 λ b=>Ld e 4 b λ b=>Nt e b λ b=>aH e b (λ b c=>b a c) λ c e=>aH e b (λ a b=>Nc c<|a c b) λ c e=>aH e b (λ a b=>Fa b 411 c 6 λ c=>a c b) λ c e=>aH e b (λ a b=>Ld b 406 c λ c=>a c b) λ c e=>aH e b (λ a b=>Eb b .neq 406 false true c nf λ c=>a c b) λ c e=>Pk b c bf λ b=>Cd b (aM e 411 a 6 406 λ b=>Cv e b #[a] λ _ a=>d a) (d e)))))/\(Nc a<|Fa f 411 a 1 λ b=>Ld f 228 b λ b=>ce f 228 b ni (Ld f 92 e λ b=>aM f 411 a 3 95 λ c=>Mi f 407 a λ a=>Cf f 236 #[b,c,a] λ a b=>Ap b 323 n0 a λ a b=>d a b) (aM f 411 a 0 228 λ b=>Eb f .eql 228 false true b ni λ b=>Gd f b false (λ a b=>Cf b 238 #[e,c] λ b c=>a b c) λ f g=>Pk b bt f λ b=>Cd b (Ld g 92 c λ b=>aM g 411 a 3 95 λ c=>Mi g 407 a λ a=>Cf g 236 #[b,c,a] λ a b=>Ap b 323 n0 a λ a b=>d a b) (Nc a<|Ld g 411 a λ b=>bH g 411 b λ b f=>Ld f 92 e λ e=>aM f 411 a 3 95 λ g=>Mi f 407 b λ b=>Cf f 236 #[e,g,b] λ b e=>Ap e 323 n0 b λ b e=>Ld e 92 c λ c=>aM e 411 a 3 95 λ f=>Mi e 407 a λ a=>Cf e 236 #[c,f,a] λ a c=>Ap c 323 b a λ a b=>d a b))))))/\(Ld f 92 c λ b=>bg f 411 a 1 λ e=>Ld f 228 e λ g=>(Cf f 239 #[b,g] λ f i=>Al i 92 λ i j=>fY j 92 c b<|aX j 411 a 1 e 228 g<|(Sr j 92 i f λ a=>d i a))/\(Al f 92 λ f i=>fY i 92 c b<|aX i 411 a 1 e 228 g<|(Cf i 239 #[b,g] λ a b=>Sr b 92 f a λ a=>d f a))))))/\(Ld f 92 c λ b=>bg f 411 a 0 λ e=>Ld f 228 e λ g=>(Cf f 239 #[b,g] λ f i=>Al i 92 λ i j=>fY j 92 c b<|aX j 411 a 0 e 228 g<|(Sr j 92 i f λ a=>d i a))/\(Al f 92 λ f i=>fY i 92 c b<|aX i 411 a 0 e 228 g<|(Cf i 239 #[b,g] λ a b=>Sr b 92 f a λ a=>d f a)))))))/\(Nc a<|Fa c 411 a 2 λ b=>Ld c 86 b λ e=>bg c 411 a 3 λ f=>Ld c 95 f λ g=>(Cf c 219 #[e,g] λ c i=>aW c λ c j=>Al i 92 λ i k=>aX k 411 a 2 b 86 e<|aX k 411 a 3 f 95 g<|(Sr k 92 i c λ a=>d i j a))/\(Al c 92 λ c i=>aX i 411 a 2 b 86 e<|aX i 411 a 3 f 95 g<|(Cf i 219 #[e,g] λ a b=>aW a λ a e=>Sr b 92 c a λ a=>d c e a))))
theorem vX(a3:aN I h){F:Bool}{Z:Kd}(M:blk h m=aE #[a,b,c,d,e,f,g,i,j,k,p,nf,q,.bool F,r,s] 411)(w:ij I c [d,e,f,g,i,j] Z A)(E:jW I a)(a4:jW I b)(H:a≠ni\/b≠ni)(hE:∀U,aD I h I U->iS I U Z A)(q:∀U,aD I h I U->∀T:KV,BN m R T->Iv U (.iface 407 (aB m)) (lN Z) #[.pointer (some A)] T):H1 R (aB m) nf h:=by
 have s:=w.2.1;have x:=s d zab;have S:=s e zab;have O:=s f zab;have D:=s g zab;have Y:=s i zab;have k:=s j zab;have P:=aF M;have k:=w;have g:(a=ni)\/∃w,a=.iface 362 w:=E.imp id λ⟨G,_,u,C,y,_⟩=>⟨_,y⟩;have B:(b=ni)\/∃w,b=.iface 362 w:=a4.imp id λ⟨G,_,u,C,y,_⟩=>⟨_,y⟩;obtain⟨V,f,i,Y,p,z,L,-⟩:=pr Z A;unfold H1;refine⟨λ X l W=>l=bt/\∃u,X=aB u/\fR I h Z A u W,λ X l W F=>?_,?_⟩
 ·refine F.2.elim λ b0 Q=>?_;have v:=Q.1;have J:=Q.2;have e:=J.st.sat;have jd:=J.st.blk M id;refine rB F.1 ?_;refine⟨λ D n=>∃x,D=aB x/\fR I h Z A b0 n/\fR I h Z A x n,λ D n K=>?_,?_⟩
  ·refine K.elim λ x K=>?_;have r:=K.1;have o:=K.2.1;have V:=K.2.2;have l:=o.st.sat;have mP:=o.st.blk M id;refine⟨λ d i=>∃H,d=aB H/\fR I h Z A x i/\fR I h Z A H i,λ d i Q=>?_,?_⟩
   ·refine Q.elim λ H Q=>?_;have f:=Q.1;have S:=Q.2.1;have O:=Q.2.2;have x:=S.st.sat;have kW:=S.st.blk M id;have Z:=S.bk' Y;have a:=O.bk' Y;refine⟨λ C K=>C=n0/\(∃H,blk K m=aE H 411/\H[11]?=some nf/\∃u,H[13]?=some (.bool u))/\R n0 K,λ C K Q=>?_,?_⟩
    ·refine Q.2.1.elim λ H b=>b.2.2.elim λ u j=>?_;refine⟨λ A=>A=K,λ A U=>?_,?_⟩
     ·rw[Q.1,U];exact fT Q.2.2
     ·cases u
      ·try simp(disch:=omega)only[go_sem,↓reduceIte,aA b.1,j,b.2.1]
      ·try simp(disch:=omega)only[go_sem,↓reduceIte,aA b.1,j,b.2.1]
    ·have U:∀T:KV,(∀N,(λ C K=>C=Value.slice none 0 0/\(∃H,blk K m=aE H 411/\H[11]?=some nf/\∃u,H[13]?=some (.bool u))/\R n0 K) n0 N->T n0 N)->BN m R T:=λ T Q N H y K t G=>Q N ⟨rfl,⟨H,y,K,t⟩,G⟩;have j:=aF Z;have s:=aF a;rcases B with D|⟨u,D⟩
     ·refine rG kW.c Z.c a.c r f D ?_;exact zaG
     ·rcases g with B|⟨c,B⟩
      ·refine rH kW.c Z.c a.c r f D B ?_;exact zaG
      ·refine rH kW.c Z.c a.c r f D B ?_;refine nU x S.at O.at ?_ (hE i S.st);refine rH kW.c Z.c a.c r f D B ?_;exact zaG
   ·skip;have q:=o.bk' Y;have g:=aF mP;have b:=aF q;refine rD q.c mP.c v ?_;refine⟨?_,?_⟩
    ·refine k0 l Y a4 λ P X=>?_;exact zaZ
    ·refine rD q.c mP.c v ?_;refine k0 (show aD I n I _ from aP l).sat Y a4 λ P X=>?_;exact zaF
  ·exact zak
 ·have g:=aF M;refine rB M.c ?_;refine⟨?_,?_⟩
  ·refine kS a3 k Y λ P X=>?_;exact zaB
  ·refine rB M.c ?_;refine kS (show aD I h I _ from aP a3).sat k Y λ P X=>?_;exact zaY
theorem lK(Z:aN I h){F:Bool}{G:Kd}(M:blk h m=aE #[a,b,c,d,e,f,g,i,j,k,p,nf,q,.bool F,r,s] 411)(V:ij I c [d,e,f,g,i,j] G A)(E:jW I a)(O:jW I b)(H:a≠ni\/b≠ni)(J:∀U,aD I h I U->iS I U G A)(L:∀U,aD I h I U->∀T:KV,BN m R T->Iv U (.iface 407 (aB m)) (lN G) #[.pointer (some A)] T):Cf h 216 #[aB m,nf] R:=by
 have l:(a=ni)\/∃w,a=.iface 362 w:=E.imp id λ⟨G,_,u,C,y,_⟩=>⟨_,y⟩;have n:(b=ni)\/∃w,b=.iface 362 w:=O.imp id λ⟨G,_,u,C,y,_⟩=>⟨_,y⟩;rcases l with rfl|⟨c,rfl⟩
 ·rcases n with rfl|⟨S,rfl⟩
  ·simp at H
  ·refine I4 (rB M.c ?_);exact vX Z M V E O H J L
 ·refine I4 (rB M.c ?_);exact vX Z M V E O H J L
def T0:(aM h 411 a 0 228 λ c=>Cf h 387 #[b,c,(aU ⟨#[108,104,115,58,32]⟩)] λ c d=>aM d 411 a 1 228 λ e=>Cf d 387 #[b,e,(aU ⟨#[114,104,115,58,32]⟩)] λ b d=>Ln d 323 c λ e=>Bi d .gtr 3 e i0 λ e=>aH d e (λ a c=>a b c) λ d f=>aH f e (λ a b=>Ln b 323 d λ c=>a c b) λ d f=>aH f e (λ a b=>Bi b .gtr 3 d i0 λ c=>a c b) λ d f=>Pk e d bf λ d=>Cd d (Ap f 323 c b λ a b=>R a b) (Cf f 423 #[a] λ _ a=>R n0 a))->Cf h 426 #[a,b] R:=mS Tryz.func426 (Z (Z tN))
def TI:(aM h 411 a 8 4 λ b=>Cd b (R (.tuple #[]) h) (bC h 411 a 8 4 bt λ b=>aM b 411 a 5 406 λ c=>Cv b c #[a] λ _ a=>R (.tuple #[]) a))->Cf h 423 #[a] R:=mS Tryz.func423 (Q cF bG)
def Iy:(aM h 411 a 1 228 λ b=>bx h 228 b ni (aM h 411 a 1 228 λ b=>Iv h b "Unstructured" #[] λ b c=>bH c 20 b λ b c=>bC c 411 a 7 408 b λ a=>R (.tuple #[]) a) (aM h 411 a 0 228 λ b=>bx h 228 b ni (aM h 411 a 0 228 λ b=>Iv h b "Unstructured" #[] λ b c=>bH c 20 b λ b c=>bC c 411 a 7 408 b λ a=>R (.tuple #[]) a) (R (.tuple #[]) h)))->Cf h 169 #[a] R:=mS Tryz.func169 z6
def SG:(Bx h 369 c λ c f=>Ld f 369 c λ c=>aM f 354 b 0 95 λ b=>Cf f 440 #[a,c,b] λ b c=>bC c 411 b 0 228 d λ c=>bC c 411 b 1 228 e λ c=>Cf c 216 #[b,nf] λ c d=>Ap d 323 n0 c λ c d=>Lp (∃e:V1,(∀d f,e d f->(Cf f 441 #[a,b] λ _ a=>R (bj d c) a))/\(aM d 411 b 7 408 λ a=>bx d 408 a nilp (aM d 411 b 7 408 λ a=>e a d) (e nilp d))))->Cf h 434 #[a,b,c,d,e] R:=mS Tryz.func434 (Z (Q Jg (Z (Z (Z (Y [10] cF bG))))))
theorem Kz:dK 407 hC=some 426:=zag
theorem Kv:dK 407 gI=some 424:=zag
theorem OX:dK 407 gJ=some 425:=zag
@[go_sem] theorem VO{B:cQ}:Iv h (.iface 407 a) hC B R=Cf h 426 (#[a]++B) R:=dH Kz
@[go_sem] theorem VR{B:cQ}:Iv h (.iface 407 a) gI B R=Cf h 424 (#[a]++B) R:=dH Kv
@[go_sem] theorem Vz{B:cQ}:Iv h (.iface 407 a) gJ B R=Cf h 425 (#[a]++B) R:=dH OX
abbrev dh:Value:=.func (.func 169) #[] #[]
theorem w4(Z:aN I h){l z D:Value}(M:blk h m=aE #[a,c,d,e,f,g,i,j,k,p,q,r,s,l,z,D] 411)(G:I m=none)(v:a=ni\/PV I a (bE S))(w:c=ni\/PV I c (bE S))(H:a≠ni\/c≠ni)(L:∀O V U,aC (Eq m) I h V U->V O=aE #[bE S] 20->blk U m=aE #[a,c,d,e,f,g,i,j,k,p,q,r,aB O,l,z,D] 411->V m=none->R (.tuple #[]) U):Cf h 169 #[aB m] R:=by
 have P:=aF M;have n:∀y,aD I h I y->R (.tuple #[]) (aO (aO (y.push (aV #[ni] 20)) y.size 0 (bE S)) m 12 (aB y.size)):=λ y f=>by have o:=f.size;have d:aD I h I (aO (y.push (aV #[ni] 20)) y.size 0 (bE S)):=bX Z f;have K:=d.one (b:=y.size) o;have C:(I.one y.size (aO (y.push (aV #[ni] 20)) y.size 0 (bE S))) m=none:=(aK.one_ne zaa).trans G;refine L y.size _ _ (aC.put (K.1.weak λ _ _=>False.elim) (.inr rfl) C) (aK.one_eq Bk) ?_ C;simp(disch:=omega)only[cq,bO,dw,dP,aJ,aL,Array.size_push,if_pos,if_neg,↓reduceIte,Nat.reduceEqDiff,Nat.add_eq_left,List.setIfInBounds_toArray,List.set_cons_zero,List.set_cons_succ,eq_self,f.blk M id]
 rcases w with rfl|⟨O,J,rfl,B⟩
 ·rcases v with rfl|⟨D,c,rfl,F⟩
  ·simp at H
  ·refine Iy (rC M.c (Z _ _ F).c ?_);refine e7 Z rfl λ y f=>?_;have x:=f.blk M id;have o:=f.size;refine rB x.b ?_;exact n y f
 ·refine Iy (rC M.c (Z _ _ B).c ?_);refine e7 Z rfl λ y f=>?_;have x:=f.blk M id;have o:=f.size;refine rB x.b ?_;exact n y f
theorem pvn{s:bF}(O:a=ni\/PV I a (bE s)):jW I a:=O.imp id λ p=>⟨_,.str,p⟩
theorem Av{T:aK}(Z:aN T h){E:bF}(M:blk h m=aE #[b,c,q,nilp,.pointer (some A),nilp,nilp,nilp,bf,d,dh,nf,nilp,bf,e,f] 411)(G:T m=none)(B:b=ni\/PV T b (bE E))(w:c=ni\/PV T c (bE E))(H:b≠ni\/c≠ni)(i:cU T ic A)(L:∀O V U,aC (Eq m) T h V U->V O=aE #[bE E] 20->blk U m=aE #[b,c,q,nilp,.pointer (some A),nilp,nilp,nilp,bf,d,dh,nf,aB O,bt,e,f] 411->V m=none->R n0 U):Cf h 216 #[aB m,nf] R:=by refine lK (G:=.sc) (A:=A) Z M (hB (I:=T) (a:=q) (r:=.sc) (A:=A)) (pvn B) (pvn w) H (λ U W=>pp i) λ y Q X Z=>?_;have X:=Q.sat;have q:=Q.blk M id;refine rA ?_;refine T0 (rB q.c ?_);refine fi X (i.mono Q.le) (B.imp id λ p=>p.mono Q.le) λ N P=>?_;have j:=P.blk q id;refine rB j.c ?_;refine fi P.sat (i.mono (Q.trans P).le) (w.imp id λ p=>p.mono (Q.trans P).le) λ K r=>?_;have J:=r.blk j id;have W:=(Q.trans P).trans r;refine rA ?_;refine TI (rB J.b ?_);have C:T m=none:=G;have S:=aC.put (o:=13) (v:=bt) (W.weak (D':=Eq m) λ _ _=>False.elim) (.inr rfl) C;refine w4 (S:=E) S.sat (bz J) C (B.imp id λ p=>p.mono W.le) (w.imp id λ p=>p.mono W.le) H λ O V Q D T E x=>rA ?_;exact Z Q _ E rfl ⟨true,rfl⟩ (L O V Q (S.trans D) T E x)
theorem ty{L:Nat}(Z:aN I h){w:Nat}{y:cK}{X a0 al:Value}{t P:bW}{s:bF}(B:blk h m=aE #[a,b,c,d,e,f,g,i,j,a0,dh,nf,p,bf,aB w,al] 411)(Q:∀S∈[a,b,c,d,e,f,g,i,j,p,al],aG S=true)(W:MT 411 647 407 16 L I h m w X a0 y 1 t)(V:y=[]\/∃S,y=[S])(a1:t.length=1*4)(C:bM I P G)(F:q=ni\/PV I q (bE s))(hr:r=ni\/PV I r (bE s))(a2:q≠ni\/r≠ni)(Y:cO I A)(J:L<=h.size)(hR:∀O M E S a3 U,aC (λ k=>k=m\/k∈aY w X a0 y) I h a3 U->a3 O=aE #[bE s] 20->blk U m=aE #[a,b,c,d,e,f,g,i,j,E,dh,nf,p,bf,aB w,al] 411->MT 411 647 407 16 L a3 U m w M E [S] 1 t->(∀k∈aY w M E [S],k∈aY w X a0 y\/h.size<=k)->R (bj (aB O) n0) U):Cf h 434 #[aB m,.pointer (some A),.agg P.toArray,q,r] R:=by
 obtain⟨K,⟨u,R,rfl,a⟩,U⟩:=Y;have T:aG q=true:=by rcases F with rfl|⟨_,_,rfl,_⟩<;>rfl
 have i:aG r=true:=zcY;have e:=Z.dom a;have d:=aF B;have A:=C.one;have R:=C;obtain⟨e,g,l,m,rfl⟩:=cL C.1;have s0:=A e zab;have H:=A g zab;have C:=A l zab;have N:=A m zab;have P:=At.of Z a;have Y:aI h u 0=some nilp:=by have:=P 0 nilp rfl;exact zai
 have A:aI h u 1=some (.pointer (some K)):=by have:=P 1 (.pointer (some K)) rfl;exact zai
 have J:aI h u 2=some nilp:=by have:=P 2 nilp rfl;exact zai
 have a:aI h u 3=some nilp:=by have:=P 3 nilp rfl;exact zai
 have e4:aI h u 4=some nilp:=by have:=P 4 nilp rfl;exact zai
 have b:aI h u 5=some bf:=by have:=P 5 bf rfl;exact zai
 have z:aD I h I (h.push (aV #[e,g,l,m] 369)):=aP Z;have p:=W.step z d id (λ _ _=>id);have f:=W.lts;apply SG;try simp(disch:=omega)only[go_sem,↓reduceIte,s0,H,C,N,Y,A,J,a,e4,b]
 refine pX (L:=L) (o:=w) (a:=X) (b:=a0) (a0:=y) (x:=t) (a2:=1) z.sat (z.blk B id) W.wI ?_ ?_ (.inr ⟨rfl,p.sp,V,p.nd⟩) p.po zaa R (by(try simp only[bJ]);exact zaa) λ J f M E N d Y H V a R=>?_
 ·intro S B;simp only[List.mem_cons,List.not_mem_nil,or_false]at B;rcases B with rfl|rfl|rfl|rfl|rfl|rfl|rfl|rfl|rfl|rfl|rfl|rfl|rfl|rfl<;>first|rfl|exact Q _ zab
 ·intro S B;simp only[List.mem_cons,List.not_mem_nil,or_false]at B;rcases B with rfl|rfl|rfl|rfl|rfl|rfl<;>rfl
 have Q:f=w:=R rfl;rw[Q]at Y H V a;have Q:blk N J=aE #[ni,ni,c,nilp,.pointer (some K),nilp,nilp,nilp,bf,E,dh,nf,nilp,bf,aB w,al] 411:=H;have W:=d.sat;have f:I.le I:=aK.le.refl I;refine rD Q.b T i ?_;have u:=d.size;(try simp only[bJ]at u);have T:=aC.put (o:=1) (v:=r) (aC.put (o:=0) (v:=q) (aC.refl (D:=Eq J) W) (.inr rfl) V.w3I) (.inr rfl) V.w3I;have p:blk (aO (aO N J 0 q) J 1 r) J=aE #[q,r,c,nilp,.pointer (some K),nilp,nilp,nilp,bf,E,dh,nf,nilp,bf,aB w,al] 411:=bz H;refine Av (A:=K) (E:=s) T.sat p V.w3I F hr a2 U λ O a3 Q j U B p=>?_;have P:blk Q J=aE #[q,r,c,nilp,.pointer (some K),nilp,nilp,nilp,bf,E,dh,nf,aB O,bt,aB w,al] 411:=B;have C:=T.trans j;have F:=C.size;have i:=V.wn.1;have I:J∉aY w M E []:=(List.nodup_cons.1 (List.nodup_cons.1 V.nd).2).1;have Z:=C.blk Y (λ G=>i G.symm);have W:=V.step C (aF Y) (aF H) (λ G=>i G.symm) p (λ k Y G=>I (G▸Y));try simp(disch:=omega)only[go_sem,↓reduceIte,cI d5]
 refine⟨λ s K=>s=aB O/\Q=K,λ s K F=>?_,?_⟩
 ·refine Cq (x:=t) (w:=[e,g,l,m]) (F.2▸j.sat) (F.2▸Z) (F.2▸B) rfl rfl a1 (F.2▸W) (by rw[<-F.2];exact zaa) zab λ r I T L b m B=>?_;have e:=L;rw[<-F.2]at e B;refine rB F.1 ?_;have N:J∈aY w X a0 y\/h.size<=J:=(a J zab).imp id λ Q=>by(try simp only[bJ]at Q);exact zaa
  have S:∀k∈aY w M E [],k∈aY w X a0 y\/h.size<=k:=λ k Y=>(a k (c6 Y)).imp id λ Q=>by(try simp only[bJ]at Q);exact zaa
  refine hR O r I J a3 T ((((z.seq d).seq C).seq e).weak λ k Y F=>?_) U b m λ k Y=>?_
  ·rcases F with((F|F|F)|F)|F|F
   ·exact F.elim
   ·exact zcp
   ·exact .inr F
   ·rcases N with Q|Q
    ·exact .inr (F▸Q)
    ·exact zaa
   ·exact zcp
   ·rcases S k F with Q|Q
    ·exact .inr Q
    ·exact zaa
  ·rcases B k Y with Q|Q
   ·rcases List.mem_cons.1 Q with Q|Q
    ·exact Q▸N
    ·exact S k Q
   ·exact .inr zaa
 ·try simp(disch:=omega)only[go_sem,↓reduceIte,aA P]
def CW:(Iv h b "IsFloat" #[] λ d e=>Gd e d false (λ a b=>a c b) λ e f=>Gd f d false (λ a b=>Iv b e "IsFloat" #[] λ b c=>a b c) λ e f=>Pk d bt e λ d=>Cd d (Lp (∃a:V1,(∀b d,a b d->(Lp (∃a:V1,(∀c d,a c d->(Eb d .eql 31 false false b c λ a=>R a d))/\(Iv d c "IsFloat" #[] λ b d=>Cd b (Iv d c "AsFloat" #[] λ b c=>a b c) (Iv d c "IsInt" #[] λ b d=>Cd b (Iv d c "AsInt" #[] λ b c=>Cn c 2 31 b λ b=>a b c) (R (.bool false) d))))))/\(Iv f b "IsFloat" #[] λ c d=>Cd c (Iv d b "AsFloat" #[] λ b c=>a b c) (Iv d b "IsInt" #[] λ c d=>Cd c (Iv d b "AsInt" #[] λ b c=>Cn c 2 31 b λ b=>a b c) (R (.bool false) d))))) (Iv f b "IsInt" #[] λ d e=>Cd d (Iv e c "IsInt" #[] λ a d=>Cd a (Iv d b "AsInt" #[] λ a b=>Iv b c "AsInt" #[] λ b c=>Eb c .eql 2 false false a b λ a=>R a c) (R (.bool false) d)) (Iv e c "IsInt" #[] λ d e=>Cd d (R (.bool false) e) (Iv e b "IsString" #[] λ d e=>Cd d (Iv e c "IsString" #[] λ a d=>Cd a (Iv d b "AsString" #[] λ a b=>Iv b c "AsString" #[] λ b c=>Eb c .eql 9 false false a b λ a=>R a c) (R (.bool false) d)) (Iv e c "IsString" #[] λ d e=>Cd d (R (.bool false) e) (Iv e b "IsBool" #[] λ d e=>Cd d (Iv e c "IsBool" #[] λ a d=>Cd a (Iv d b "AsBool" #[] λ a b=>Iv b c "AsBool" #[] λ b c=>Eb c .eql 4 false false a b λ a=>R a c) (R (.bool false) d)) (Iv e c "IsBool" #[] λ d e=>Cd d (R (.bool false) e) (Iv e b "IsList" #[] λ d e=>Cd d (Iv e c "IsList" #[] λ d e=>Cd d (Iv e b "AsListUsing" #[a] λ b d=>Nc a<|Iv d c "AsListUsing" #[a] λ c d=>Nc a<|Iv d b "EqualsUsing" #[a,c] λ d e=>Dg e (cH a c) λ c=>Dg c (cH a b) λ a=>R d a) (R (.bool false) e)) (Iv e c "IsList" #[] λ d e=>Cd d (R (.bool false) e) (Iv e b "IsMap" #[] λ d e=>Cd d (Iv e c "IsMap" #[] λ d e=>Cd d (Iv e b "AsMapUsing" #[a] λ b d=>Nc a<|Iv d c "AsMapUsing" #[a] λ c d=>Nc a<|Iv d b "EqualsUsing" #[a,c] λ d e=>Dg e (cH a c) λ c=>Dg c (cH a b) λ a=>R d a) (R (.bool false) e)) (Iv e c "IsMap" #[] λ a d=>Cd a (R (.bool false) d) (Iv d b "IsNull" #[] λ a b=>Cd a (Iv b c "IsNull" #[] λ a b=>Cd a (R (.bool true) b) (R (.bool false) b)) (Iv b c "IsNull" #[] λ a b=>Cd a (R (.bool false) b) (R (.bool true) b))))))))))))))->Cf h 117 #[a,b,c] R:=mS Tryz.func117 (Z (Q (Z (C (Z (Y [7] (Z (C L (Z (C L bG)))) (Z (Y [8] (Z (C L (Z (C L bG)))) bG)))) L)) (Q qX (Q qX (Q qX (Q P4 (Q P4 (Q qX bG))))))))
def RQ:(Bd h 348 #[] λ c=>Bx h 348 c λ c d=>Mi d 346 c λ c=>Cf d 117 #[c,a,b] λ a b=>R a b)->Cf h 393 #[a,b] R:=mS Tryz.func393 cX
def QC:(Bx h 369 a λ a c=>Bx c 369 b λ b c=>Fa c 369 a 0 λ d=>Ld c 87 d λ d=>bx c 87 d nilp (Fa c 369 b 0 λ d=>Ld c 87 d λ d=>ce c 87 d nilp (R (.bool false) c) (Fa c 369 a 0 λ a=>Ld c 87 a λ a=>Nc a<|Ld c 9 a λ a=>Fa c 369 b 0 λ b=>Ld c 87 b λ b=>Nc b<|Ld c 9 b λ b=>Eb c .eql 9 false false a b λ a=>R a c)) (Fa c 369 b 0 λ d=>Ld c 87 d λ d=>bx c 87 d nilp (R (.bool false) c) (Fa c 369 a 1 λ d=>Ld c 365 d λ d=>bx c 365 d nilp (Fa c 369 b 1 λ d=>Ld c 365 d λ d=>ce c 365 d nilp (R (.bool false) c) (Fa c 369 a 1 λ a=>Ld c 365 a λ a=>Nc a<|Ld c 441 a λ a=>Fa c 369 b 1 λ b=>Ld c 365 b λ b=>Nc b<|Ld c 441 b λ b=>Cf c 439 #[a,b] λ a b=>R a b)) (Fa c 369 b 1 λ d=>Ld c 365 d λ d=>bx c 365 d nilp (R (.bool false) c) (Fa c 369 a 2 λ d=>Ld c 366 d λ d=>bx c 366 d nilp (Fa c 369 b 2 λ d=>Ld c 366 d λ d=>ce c 366 d nilp (R (.bool false) c) (Fa c 369 a 2 λ a=>Ld c 366 a λ a=>Nc a<|Ld c 228 a λ a=>Fa c 369 b 2 λ b=>Ld c 366 b λ b=>Nc b<|Ld c 228 b λ b=>Cf c 393 #[a,b] λ a b=>R a b)) (Fa c 369 b 2 λ d=>Ld c 366 d λ d=>bx c 366 d nilp (R (.bool false) c) (Fa c 369 a 3 λ d=>Ld c 367 d λ d=>bx c 367 d nilp (Fa c 369 b 3 λ d=>Ld c 367 d λ d=>ce c 367 d nilp (R (.bool false) c) (Fa c 369 a 3 λ a=>Ld c 367 a λ a=>Nc a<|Ld c 3 a λ a=>Fa c 369 b 3 λ b=>Ld c 367 b λ b=>Nc b<|Ld c 3 b λ b=>Eb c .eql 3 false false a b λ a=>R a c)) (Fa c 369 b 3 λ a=>Ld c 367 a λ a=>bx c 367 a nilp (R (.bool false) c) (R (.bool true) c)))))))))->Cf h 433 #[a,b] R:=mS Tryz.func433 (Z (Q tc (Q tc (Q tc (Q tc bG)))))
theorem v6:S.toList=T.toList↔S=T:=by rw[ByteArray.toList_eq,ByteArray.toList_eq];refine⟨λ O=>?_,λ O=>by rw[O]⟩;cases S;cases T;simp only[ByteArray.mk.injEq];exact Array.toList_inj.1 O
theorem oh(Z:aN I h){al:Value}(p:PV I a (bE S))(O:PV I b (bE T))(L:∀U,aD I h I U->R (.bool (S.toList==T.toList)) U):Cf h 117 #[al,a,b] R:=by
 obtain⟨x,A,rfl,J⟩:=p;obtain⟨H,z,rfl,c⟩:=O;have w:∀{W:Heap},aN I W->aI W x 0=some (bE S):=λ Z=>aA (Z _ _ J) 0;have F:∀{W:Heap},aN I W->aI W H 0=some (bE T):=λ Z=>aA (Z _ _ c) 0;refine CW (rB (w Z) ?_);refine e8 Z .str λ y v=>?_;have X:=v.sat;have z:=v;try simp(disch:=omega)only[go_sem,↓reduceIte,w X,F X,dz]
 refine e8 X .str λ N P=>?_;have W:=P.sat;have d:=z.trans P;try simp(disch:=omega)only[go_sem,↓reduceIte,w W,F W,dz]
 refine f4 W .str λ K r=>?_;have i:=r.sat;have T:=d.trans r;try simp(disch:=omega)only[go_sem,↓reduceIte,w i,F i,dz]
 refine f4 i .str λ t q=>?_;have O:=q.sat;have S:=T.trans q;try simp(disch:=omega)only[go_sem,↓reduceIte,w O,F O,dz]
 refine ew O .str λ Q D=>?_;have S5:=D.sat;have j:=S.trans D;try simp(disch:=omega)only[go_sem,↓reduceIte,w S5,F S5,dz]
 refine ew S5 .str λ T M=>?_;have x:=M.sat;have C:=j.trans M;try simp(disch:=omega)only[go_sem,↓reduceIte,w x,F x,dz]
 refine iG x λ B P=>?_;have U:=P.sat;refine rC (w U) (F U) ?_;refine iG U λ N Y=>rA ?_;exact L _ ((C.trans P).trans Y)
theorem AE(Z:aN I h)(p:PV I a (bE S))(O:PV I b (bE T))(L:∀U,aD I h I U->R (.bool (S.toList==T.toList)) U):Cf h 393 #[a,b] R:=by refine RQ (rA ?_);refine oh (show aD I h I _ from aP Z).sat p O λ N P=>?_;exact L _ (aC.trans (aP Z) P)
theorem kN(Z:aN I h)(y:bM I x (.val S))(N:bM I w (.val T))(L:∀U,aD I h I U->R (.bool (decide (S=T))) U):Cf h 433 #[.agg x.toArray,.agg w.toArray] R:=by
 obtain⟨-,x,rfl,A,g,J,a⟩:=y;obtain⟨-,H,rfl,z,l,c,b⟩:=N;have o:=Z.dom J;have g:=Z.dom c;refine QC (rC (Z _ _ J).c (Z _ _ c).c ?_);refine AE (show aD I h I _ from aP Z).sat a b λ K r=>?_;have C:(S.toList==T.toList)=decide (S=T):=by rw[Bool.eq_iff_iff];simp only[beq_iff_eq,decide_eq_true_eq];exact v6
 rw[C];exact za0
def Qx:(Al h 634 λ e f=>Lp (∃g:V1,(∀f i,g f i->(Cf i 437 #[f] λ g i=>bH i 634 g λ g i=>Mz i 251 i0 f λ i j=>Lp (∃(k:V3)(l:N3),k n0 i i0 j/\∀i j m n,k i j m n->(bv n .lss 3 m f (Lp (∃e:V2,(∀a b c,e a b c->(Bi c .add 3 m i1 λ d=>(k a b d c/\l a b d c<l i j m n)))/\(Iv n c "At" #[m] λ c f=>Lp (∃k:V2,(∀a b f,k a b f->(bx f 109 b ni (Cf f 194 #[(aU ⟨#[101,108,101,109,101,110,116]⟩)] λ a b=>Ap b 323 i a λ a b=>e a j b) (Lp (∃b:V1,(∀c d,b c d->(Ld d 369 a λ a=>Bs d 251 1 #[(0,a)] λ a b=>Ap b 251 j a λ a b=>e c a b))/\(Ld f 369 a λ k=>Cf f 432 #[g,k] λ f k=>aW f λ _ f=>aH k f (λ a b=>a d b) λ d k=>aH k f (λ a b=>Nt b d λ c=>a c b) λ d k=>Pk f d bf λ d=>Cd d (Cf k 194 #[dO 0x6475706c696361746520656e747269657320666f72206b6579] λ a b=>Ap b 323 i a λ a b=>e a j b) (cD k f (Ld k 369 a λ a=>Cf k 438 #[g,a,c] λ _ a=>b i a) (Ld k 369 a λ c=>Cf k 130 #[ni] λ d e=>bh e 369 a c/\(Cf e 438 #[g,c,d] λ _ a=>b i a))))))))/\(bg f 411 a 10 λ d=>Ld f 225 d λ e=>bg f 411 a 2 λ g=>Ld f 86 g λ i=>(Cf f 332 #[e,i,b,c] λ b c=>aW b λ b f=>Al c 369 λ c j=>aX j 411 a 10 d 225 e<|aX j 411 a 2 g 86 i<|(Sr j 369 c b λ a=>k c f a))/\(Al f 369 λ f j=>aX j 411 a 10 d 225 e<|aX j 411 a 2 g 86 i<|(Cf j 332 #[e,i,b,c] λ a b=>aW a λ a c=>Sr b 369 f a λ a=>k f c a))))))) (Ld n 634 g λ a=>Sr n 634 e a λ a=>Rv a 634 e λ b=>R (.tuple #[j,b,i]) a)))))/\(bx f 338 c ni (Iv f c "Length" #[] λ a b=>g a b) (g i0 f))))->Cf h 431 #[a,b,c,d] R:=mS Tryz.func431 (Z (Z (Z (Y [12] cF (Z (Z (Q (Z (B (O [11,14,15] (Q cF (Y [11,14] (B (Z (Y [17,18] wf (Q cg (Y [11] (Z (Z (C bG (Z (C L (X #[0,0,3])))))) L))))) L))))) (Q (X #[0,0,0,1,11,31]) L))))))))
def Io:(ce h 228 c ni (R (bj ni n0) h) (aM h 411 a 10 225 λ a=>Cf h 327 #[a,c] λ a b=>aW a λ a c=>bx b 109 c ni (Cf b 194 #[(aU ⟨#[101,114,114,111,114]⟩)] λ a b=>R (bj ni a) b) (R (bj a n0) b)))->Cf h 427 #[a,b,c] R:=mS Tryz.func427 E2
def fF(T:aK)(J:Value)(H:bn):Prop:=(J=ni/\H=[])\/∃q,J=.iface 585 q/\cd T q 1 H.length (H.map bE)
theorem fF.mono(O:I.le J)(B:fF I a z):fF J a z:=B.imp id λ⟨q,C,p⟩=>⟨q,C,p.mono O⟩
def k8(T:aK)(g:et)(H:bn):Prop:=(∀q∈g,∃A∈H,q.1=.val A/\PV T q.2 (bE A))/\∀A∈H,∃J,(El.val A,J)∈g
theorem k8.mono(O:I.le J){g:et}(B:k8 I g z):k8 J g z:=⟨λ q p=>zcA,B.2⟩
theorem fE.mono(O:I.le J){H:et}(B:fE I a H):fE J a H:=zcf
structure IX(I:aK)(h:Heap)(w ob:Nat)(cw:cQ)(l:bn)(i:Nat)(J:aK)(h7:Heap)(fp:cK)(es:et)(pes:Value)(rows:bW):Prop where
 st:aD I h J h7
 vm:VM 634 h.size J h7 ob fp es
 op:aQ h.size J h7 369 4 pes i rows
 rr:Rows (bM J) rows ((l.take i).map El.val)
 r1:∀u∈rows,aG u=true
 dj:∀k∈pes.bl,k∉fp
 ep:k8 J es (l.take i)
 ln:es.length<=i
 b9:blk h7 h.size=aE #[n0] 634
 n9:h.size∉fp/\h.size∉pes.bl
 j9:J h.size=none
theorem IX.pur{e:cQ}{E:aK}{N:Heap}{g:et}(B:IX I h m n e z o J H K g a x)(G:aD J H E N):IX I h m n e z o E N K g a x:=⟨B.st.trans G,B.vm.step G λ _ _=>id,B.op.step G λ _ _=>id,B.rr.mono λ _ _ w=>w.mono G.le,B.r1,B.dj,B.ep.mono G.le,B.ln,G.blk B.b9 id,B.n9,(G.dom _ (aF B.b9) id).trans B.j9⟩
def sB(V:aK)(h:Heap)(A:bF)(B:Value)(U:Heap):Prop:=∃l E,B=aB l/\h.size<=l/\aD V h E U/\∃u q O J,blk U l=aE #[u,q,O,J] 369/\bM E [u,q,O,J] (.val A)
theorem sB.elim{M:Prop}(B:sB I h S a H)(T:∀l E u q O J,a=aB l->h.size<=l->aD I h E H->blk H l=aE #[u,q,O,J] 369->bM E [u,q,O,J] (.val S)->M):M:=by obtain⟨l,E,C,L,w,u,q,O,J,g,p⟩:=B;exact T l E u q O J C L w g p
theorem VM.frz{g:et}(B:VM m n I h o K g)(G:∀k∈K,J k=h[k]?)(O:I.le J)(D:g.length<=2147483647):∃a,blk h o=aE #[a] m/\aG a=true/\fE J a g/\dq (g.map Prod.fst):=by obtain⟨a,t,u,W,b,N,f,⟨i1,i2,y⟩,c⟩:=B;exact⟨a,u,W.one,fE.of (W.sli D N λ P z=>G P (i2 P (mem_bl.2 z))) (b.mono λ _ _ w=>w.mono O),f⟩
theorem Aw(G:z.Nodup)(o:m<z.length){g:et}(O:k8 I g (z.take m)):∀J,¬(El.val z[m],J)∈g:=by
 intro J p;obtain⟨V,l,x,-⟩:=O.1 _ p;have f:z[m]=V:=by injection x
 obtain⟨r,Y,v⟩:=List.getElem_of_mem l;rw[List.length_take]at Y;rw[List.getElem_take]at v;exact(List.pairwise_iff_getElem.1 G) r m zaa o zaa (by rw[v,f])
theorem k8.snoc(o:m<z.length){g X:et}(O:k8 I g (z.take m))(b:PV I a (bE z[m]))(x:∀q,q∈X↔q=(El.val z[m],a)\/(q.1≠El.val z[m]/\q∈g))(D:∀a,¬(El.val z[m],a)∈g):k8 I X (z.take (m+1)):=by
 rw[List.take_succ_eq_append_getElem o];refine⟨λ q p=>?_,λ A s=>?_⟩
 ·rcases(x q).1 p with C|⟨-,p⟩
  ·exact⟨z[m],List.mem_append.2 (.inr (List.mem_singleton.2 rfl)),by rw[C],by rw[C];exact b⟩
  ·obtain⟨A,y,N,K⟩:=O.1 q p;exact⟨A,List.mem_append.2 (.inl y),N,K⟩
 ·rcases List.mem_append.1 s with s|s
  ·obtain⟨S,T⟩:=O.2 A s;refine⟨S,(x _).2 (.inr ⟨λ C=>?_,T⟩)⟩;have:A=z[m]:=bS C;exact D S (this▸T)
  ·rw[List.mem_singleton.1 s];exact⟨a,(x _).2 (.inl rfl)⟩
theorem nL{T:aK}(Z:aN T h){V F z M:Value}{H:bn}{u:Bool}(x:blk h m=aE #[a,b,d,f,g,i,j,k,p,q,r,s,V,F,z,co o] 411)(F:aG d=true)(Y:cO T A)(hl:fF T M H)(G:H.Nodup)(X:H.length<1000000)(hR:∀U a t g V i,aD T h V i->cd V U 4 H.length t->Rows (bM V) t (H.map El.val)->fE V a g->dq (g.map Prod.fst)->k8 V g H->g.length<=H.length->R (.tuple #[U,.agg #[a],n0]) i):Cf h 431 #[aB m,.pointer (some A),M,.bool u] R:=by
 have a0:=Y;have P:=aF x;have O:∀{S:KV},∀y:Heap,(M=ni->S (aR H.length) y)->(∀a1,M=.iface 585 a1->S (aR H.length) y)->S (aR H.length) y:=λ y K P=>hl.elim (λ f=>K f.1) λ⟨a1,f,_⟩=>P a1 f;apply Qx;try simp(disch:=omega)only[go_sem,↓reduceIte]
 refine⟨λ J N=>J=aR H.length/\N=h.push (aV #[n0] 634),λ J N F=>?_,?_⟩
 ·rw[F.1,F.2];refine uf (show aD T h T _ from aP Z).sat (by omega) λ a K j W=>?_;have q:aD T h T K:=aC.trans (aP Z) j;have Q:blk K h.size=aE #[n0] 634:=j.blk Bk id;have E:=aF Q;have j:=W.one;try simp(disch:=omega)only[go_sem,↓reduceIte,j]
  refine gw k1 (by omega) (t:=0) (u:=H.length) rfl rfl (by omega) (by omega) λ k b=>?_;have o:aD T h T ((aO (K.push (aV #[n0] 634)) K.size 0 a).push (aV k 369)):=bX Z q;have s:IX T h m K.size #[] H 0 T ((aO (K.push (aV #[n0] 634)) K.size 0 a).push (aV k 369)) (K.size::a.bl) [] (bq (K.size+1) 0 0 H.length) []:=by
   have i:∀P,a.ownBlock=some P->P<K.size:=λ P z=>(W.1.block z).2;have A:∀P,a.ownBlock=some P->h.size<P:=λ P z=>by have:=(W.1.block z).1;(try simp only[aJ,aL,Array.size_push]at this);omega
   have X:(Value.slice (some ⟨K.size+1,0,none⟩) 0 H.length).bl=[K.size+1]:=rfl;refine⟨o,⟨a,[],Bk,?_,.nil,by simp,by simp,⟨by simp,λ r Y=>c6 Y,λ F=>by have:=i _ (mem_bl.1 F);omega⟩,?_⟩,aQ.made (by omega) Bk (Z.fresh (by omega)) b (by omega),.nil,by simp,?_,⟨by simp,by simp⟩,by simp,bz Q,?_,Z.fresh bu⟩
   ·exact((aQ.put2 ((W.weak (by(try simp only[aJ,aL,Array.size_push]);omega)).push _) λ P z=>by have:=i P z;omega).push _)
   ·intro r Y;(try simp only[aJ,aL,Array.size_push]);rcases List.mem_cons.1 Y with rfl|Y
    ·exact⟨by omega,by omega,Z.fresh (by omega)⟩
    ·have y:=i r (mem_bl.1 Y);have N:=A r (mem_bl.1 Y);exact⟨by omega,by omega,Z.fresh (by omega)⟩
   ·intro r Y F;rw[X]at Y;have:=List.mem_singleton.1 Y;rcases List.mem_cons.1 F with Q|Q
    ·omega
    ·have:=i r (mem_bl.1 Q);omega
   ·refine⟨λ F=>?_,λ F=>?_⟩
    ·rcases List.mem_cons.1 F with Q|Q
     ·omega
     ·have:=A _ (mem_bl.1 Q);omega
    ·rw[X]at F;have:=List.mem_singleton.1 F;omega
  refine⟨λ f w J B=>f=n0/\∃M V b g t,J=aR (M:Nat)/\M<=H.length/\IX T h m K.size #[] H M V B b g w t,λ _ _ J _=>match J with|.int _ M=>H.length-M.toNat|_=>0,⟨rfl,0,T,_,[],[],rfl,by omega,by(try simp only[aJ,aL,Array.size_push]);exact s⟩,?_⟩;rintro f U J B⟨ee,M,V,b,g,t,ev,k,j⟩;have v:=j.st.sat;have W:=j.st.size;by_cases o:M<H.length
  ·have d0:decide ((M:Int)<(H.length:Int))=true:=by simp;omega
   refine hl.elim (λ F=>by have:=F.2;simp[this]at o) λ F=>F.elim λ a1 p=>?_;try simp(disch:=omega)only[go_sem,↓reduceIte,ev,d0]
   refine⟨λ R w N=>R=n0/\∃V b g t,IX T h m K.size #[] H (M+1) V N b g w t,λ R w N F=>?_,?_⟩
   ·refine F.2.elim λ E W=>W.elim λ C W=>W.elim λ X W=>W.elim λ k W=>?_;try simp(disch:=omega)only[go_sem,↓reduceIte,ev]
    exact⟨⟨F.1,M+1,E,C,X,k,by simp,by omega,W⟩,by omega⟩
   ·try simp(disch:=omega)only[go_sem,↓reduceIte,ev,p.1]
    refine jU v (p.2.mono j.st.le) o λ O J8 N q a2=>?_;have R:=j.pur q;have S8:=R.st.sat;have K:=R.st.blk x id;have s:aG O=true:=by obtain⟨S,f,rfl,-⟩:=a2;rfl
    have v:∃w,O=.iface 362 w:=by obtain⟨S,f,rfl,-⟩:=a2;exact⟨_,rfl⟩
    refine⟨λ u x m=>x=ni/\sB J8 N H[M] u m,λ u x m F=>?_,?_⟩
    ·refine F.2.elim λ i a u q O Z a3 k a4 k C=>?_;have x:=R.pur a4;have S10:=x.st.sat;have a5:=Aw G o x.ep;try simp(disch:=omega)only[go_sem,↓reduceIte,F.1,a3,aA k]
     refine⟨_,λ _ _ W=>W,?_⟩;try simp(disch:=omega)only[go_sem,↓reduceIte,a3,aA k]
     refine ve (C:=.val H[M]) S10 x.vm C (by have:=x.ln;omega) (λ a1 p=>by obtain⟨d,-,-,S,f,y,-⟩:=x.ep.1 a1 p;exact⟨_,y⟩) (λ J G L d=>absurd d (a5 J)) λ G L _=>?_;have E:=x.pur L;have m:=L.sat;have X:=L.blk k id;try simp(disch:=omega)only[go_sem,↓reduceIte,a3,aA X]
     refine qF (G:=.val H[M]) m E.vm C s v (by have:=E.st.size;omega) (by have:=E.ln;omega) λ m a6 J s a7 a8 a9 d=>?_;have k:∀r∈b,r<N.size:=λ r Y=>(R.vm.fps r Y).2.1;have x:i∉b:=λ F=>by have:=k i F;omega
     have aa:∀r∈U.bl,r<N.size:=λ r Y=>(R.op.lt Y).2;have d:N.size<=G.size:=by have:=a4.size;have:=L.size;omega
     have f:=s.sat;have G:=s.blk X x;have k:=E.op.step s λ P z F=>E.dj P (mem_bl.2 z) F;have i:=s.size;have v:=C.one;have x:=v u (by simp);have S:=v q (by simp);have y:=v O (by simp);have d:=v Z (by simp);try simp(disch:=omega)only[go_sem,↓reduceIte,a3,aA G]
     refine bY k1 rfl (by omega) (by omega) (H:=#[u,q,O,Z]) (v:=M) (c:=t) (u:=h.size) (T:=a) Bk (k.push _) ((aC.refl (D:=none_) f).push _).sat rfl (by simpa using⟨x,S,y,d⟩) (by omega) (by(try simp only[aJ,aL,Array.size_push]);have:=E.st.size;omega) λ X k ac i G oW=>?_;have ro:(H.take (M+1)).map El.val=(H.take M).map El.val++[.val H[M]]:=by rw[List.take_succ_eq_append_getElem o,List.map_append];rfl
     have G:aC (λ r=>r∈U.bl) a J a k:=aC.touch ((aC.refl (D:=λ r=>r∈U.bl) f).push _) i λ P z=>⟨.inr (mem_bl.2 z),E.op.2 P z⟩;have A:∀r∈X.bl,r∈U.bl\/J.size<=r:=λ r Y=>by
      rcases oW with Q|⟨P,Q,J⟩
      ·exact .inl (mem_bl.2 (Q▸mem_bl.1 Y))
      ·have:=mem_bl.1 Y;rw[Q]at this;cases this;(try simp only[aJ,aL,Array.size_push]at J);exact .inr (by omega)
     have i:∀r∈m,r∉U.bl:=λ r Y F=>by
      rcases a8 r Y with Q|Q
      ·exact E.dj r F Q
      ·have:=aa r F;omega
     have f:aD T h a k:=(E.st.trans' s λ r Y F=>by have:=(E.vm.fps r F).1;omega).trans' G λ r Y F=>by have:=(E.op.lt F).1;omega
     try simp(disch:=omega)only[go_sem,↓reduceIte]
     refine⟨ee,a,m,a6,t++[u,q,O,Z],f,a7.step G i,by simpa using ac,?_,?_,?_,E.ep.snoc o (a2.mono (a4.le.trans L.le)) a9 a5,by have:=E.ln;omega,?_,?_,(G.dom _ (by have:=aF E.b9;omega) E.n9.2).trans ((s.dom _ (aF E.b9) E.n9.1).trans E.j9)⟩
     ·rw[ro];exact Rows.snoc C E.rr
     ·intro m J;rcases List.mem_append.1 J with J|J
      ·exact E.r1 m J
      ·exact v m J
     ·intro r Y F;rcases A r Y with Q|Q
      ·exact i r F Q
      ·have:=(a7.fps r F).2.1;omega
     ·exact G.blk (s.blk E.b9 E.n9.1) E.n9.2
     ·refine⟨λ F=>?_,λ F=>?_⟩
      ·rcases a8 _ F with Q|Q
       ·exact E.n9.1 Q
       ·have:=E.st.size;have:=aF E.b9;omega
      ·rcases A _ F with Q|Q
       ·exact E.n9.2 Q
       ·have:=aF E.b9;omega
    ·skip;have A:=aF K;try simp(disch:=omega)only[go_sem,↓reduceIte,aA K]
     refine⟨?_,?_⟩
     ·refine en S8 (a0.mono R.st.le) a2 λ a f J X C=>?_;have o:=X.sat;have L:=X.blk K id;have s:=aF L;have v:=C.one;refine Exists.elim (cL C.1) λ u W=>Exists.elim W λ q W=>Exists.elim W λ O W=>Exists.elim W λ Z W=>?_;have x:=v u (by rw[W];simp);have S:=v q (by rw[W];simp);have y:=v O (by rw[W];simp);have d:=v Z (by rw[W];simp);try simp(disch:=omega)only[go_sem,↓reduceIte,W,aA L,x,S,y,d]
      have G:f J.size=none:=o.fresh bu;exact⟨J.size,f,rfl,X.size,aC.put (aC.put (aC.put (aC.put (X.push _) (.inl X.size) G) (.inl X.size) G) (.inl X.size) G) (.inl X.size) G,u,q,O,Z,Bk,W▸C⟩
     ·refine en (show aD J8 N J8 _ from aP S8).sat (a0.mono R.st.le) a2 λ a f J X C=>?_;have E:aD J8 N f J:=aC.trans (aP S8) X;have R:=X.size;(try simp only[aJ,aL,Array.size_push]at R);have s:blk J N.size=aE #[nilp,nilp,nilp,nilp] 369:=X.blk Bk id;have v:=C.one;refine Exists.elim (cL C.1) λ u W=>Exists.elim W λ q W=>Exists.elim W λ O W=>Exists.elim W λ Z W=>?_;have x:=v u (by rw[W];simp);have S:=v q (by rw[W];simp);have y:=v O (by rw[W];simp);have d:=v Z (by rw[W];simp);try simp(disch:=omega)only[go_sem,↓reduceIte,W,aA s,aS s,x,S,y,d]
      have G:f N.size=none:=by rw[X.dom _ (by(try simp only[aJ,aL,Array.size_push]);omega) id];exact S8.fresh bu
      exact⟨N.size,f,rfl,Nat.le_refl _,aC.put (aC.put (aC.put (aC.put E (.inl bu) G) (.inl bu) G) (.inl bu) G) (.inl bu) G,u,q,O,Z,bz s,W▸C⟩
  ·have d0:decide ((M:Int)<(H.length:Int))=false:=by simp;omega
   have ei:H.take M=H:=List.take_of_length_le (by omega);have T:M=H.length:=by omega
   have Z:=j.st.freeze (λ r=>decide (r∈b++U.bl)) λ r Y=>.inl (by
    rcases List.mem_append.1 (of_decide_eq_true Y)with Q|Q
    ·exact(j.vm.fps r Q).1
    ·exact(j.op.lt Q).1);have J:V.le (V.fp (b++U.bl) B):=aK.add_le j.st.sat _;have G:∀r,r∈b++U.bl->(V.fp (b++U.bl) B) r=B[r]?:=λ r Y=>by unfold aK.fp aK.add;rw[if_pos (decide_eq_true Y)]
   refine(j.vm.frz (λ r Y=>G r (List.mem_append.2 (.inl Y))) J (by have:=j.ln;omega)).elim λ X i=>?_;try simp(disch:=omega)only[go_sem,↓reduceIte,ev,d0,aA i.1,aA j.b9,aS j.b9,i.2.1]
   rw[ee];have y:(V.fp (b++U.bl) B) h.size=none:=(aK.fp_ne λ F=>by rcases List.mem_append.1 F with Q|Q;exact j.n9.1 Q;exact j.n9.2 Q).trans j.j9;have d:=j.rr;have ep:=j.ep;have K:=j.op;rw[ei]at d ep;rw[T]at K;exact hR U X t g _ _ (aC.put Z (.inl bu) y) (K.sli (by omega) j.r1 λ P z=>G P (List.mem_append.2 (.inr (mem_bl.2 z)))) (d.mono λ _ _ w=>w.mono J) i.2.2.1 i.2.2.2 (ep.mono J) (by have:=j.ln;omega)
 ·refine hl.elim (λ F=>?_) λ F=>F.elim λ a1 p=>?_
  ·have j:H.length=0:=by rw[F.2];rfl
   try simp(disch:=omega)only[go_sem,↓reduceIte,F.1,j]
  ·try simp(disch:=omega)only[go_sem,↓reduceIte,p.1]
   refine Exists.elim p.2 λ ya W=>W.elim λ q W=>?_;try simp(disch:=omega)only[go_sem,↓reduceIte,W.1]
   refine dW ?_;exact⟨rfl,rfl⟩
theorem nI(Z:aN I h){g:et}{c:Nat×Nat}(j:I n=some (.cells #[a] m c))(s:fE I a g)(f:dq (g.map Prod.fst))(l:bM I x G)(F:∀J U,aD I h I U->(G,J)∈g->R (bj J bt) U)(O:∀U,aD I h I U->(∀J,¬(G,J)∈g)->R (bj ni bf) U):Cf h 389 #[aB n,.agg x.toArray] R:=by
 have e:=Z.dom j;have v:=l.one;obtain⟨A,T,H,L,rfl⟩:=cL l.1;have o:aD I h I (h.push (aV #[A,T,H,L] 369)):=aP Z;refine IA (rB (Z _ _ j).c ?_);refine i7 ua o.sat s l (wP f G) λ M N U d z P=>?_;have Y:=ub f d z P;have C:aD I h I N:=o.trans U;have W:=C.sat;by_cases V:(if d:M<g.length then decide (bQ g[M].1 G=0)else false)=true
 ·have L:M<g.length:=zbr;have x:g[M].1=G:=zbA;obtain⟨U,a,⟨B,A,rfl,t,-,D,-,k⟩,Q⟩:=s;obtain⟨u,s,rfl,r⟩:=k zaa;have o:∀X∈U,X.length=5:=by intro X i;obtain⟨p,P,rfl⟩:=List.getElem_of_mem i;exact(Q p zaa P).1
  have b:U.flatten[M*5+4]?=some g[M].2:=by rw[eD U o M 4 zaa zaa];exact(Q M L zaa).2.2.1
  have X:=W.cell (r (M*5+4) _ b);have q:aI N u (s+M*5+4)=some g[M].2:=by rw[Nat.add_assoc];exact X
  refine rD (W _ _ j).c V q ?_;exact F g[M].2 N C (by rw[<-x];exact List.getElem_mem L)
 ·exact zbl
theorem uL(Z:aN I h){g:et}{c:Nat×Nat}(j:I n=some (.cells #[a] m c))(s:fE I a g)(f:dq (g.map Prod.fst)){C:El}(l:bM I x C)(p:∀q∈g,∃w,q.2=.iface 362 w)(F:∀J U,aD I h I U->(C,J)∈g->R (bj J bt) U)(O:∀U,aD I h I U->(∀J,¬(C,J)∈g)->R (bj ni bf) U):Cf h 432 #[aB n,.agg x.toArray] R:=by
 have v:=l.one;have i:=l;have Q:=Z.dom j;obtain⟨A,T,H,L,rfl⟩:=cL l.1;refine Ib (rA ?_);refine nI (G:=C) (show aD I h I _ from aP Z).sat j s f i (λ J U G B=>?_) λ U G B=>?_
 ·exact zbQ
 ·refine rA ?_;exact O U (aC.trans (aP Z) G) B
theorem zA(Z:aN I h){g:et}{c:Nat×Nat}(j:I m=some (.cells #[a] 634 c))(s:fE I a g)(f:dq (g.map Prod.fst))(ep:k8 I g z)(l:bM I x (.val S))(F:∀J U,aD I h I U->PV I J (bE S)->S∈z->R (bj J bt) U)(O:∀U,aD I h I U->S∉z->R (bj ni bf) U):Cf h 432 #[aB m,.agg x.toArray] R:=by
 refine uL Z j s f l (λ q p=>?_) (λ J U G B=>?_) λ U G B=>O U G λ s=>?_
 ·obtain⟨S,-,-,u,C,y,-⟩:=ep.1 q p;exact⟨_,y⟩
 ·obtain⟨n,y,N,K⟩:=ep.1 _ B;have C:S=n:=bS N;subst C;exact F J U G K y
 ·obtain⟨J,p⟩:=ep.2 S s;exact B J p
theorem AO(Z:aN I h){g:et}{c:Nat×Nat}(j:I m=some (.cells #[a] 634 c))(s:fE I a g)(f:dq (g.map Prod.fst))(ep:k8 I g z)(l:bM I x (.val S))(L:∀J b U,aD I h I U->(J=ni\/PV I J (bE S))->(S∈z->PV I J (bE S))->(b=true↔S∈z)->R (bj J (.bool b)) U):Cf h 432 #[aB m,.agg x.toArray] R:=zA Z j s f ep l (λ J U G p B=>L J true U G (.inr p) (λ _=>p) (bS B)) λ U G B=>L ni false U G (.inl rfl) (λ h=>absurd h B) (bS B)
structure MP where
 base:Nat
 I0:aK
 h0:Heap
 w:Nat
 sb:Nat
 x0:Value
 pv0:Value
 ws0:cK
 c0:Value
 c1:Value
 s:Value
 t0:Value
 t1:Value
 t2:Value
 t3:Value
 t4:Value
 t5:Value
 c12:Value
 ab:Nat
 rows:bW
 mb:Nat
abbrev MP.cell(w:MP)(i V:Value):Obj:=aV #[w.c0,w.c1,w.s,w.t0,w.t1,w.t2,w.t3,w.t4,w.t5,i,dh,nf,V,bf,aB w.sb,co w.ab] 411
structure MP.Ok(p:MP):Prop where
 o1:∀u∈[p.c0,p.c1,p.s,p.t0,p.t1,p.t2,p.t3,p.t4,p.t5,p.c12],aG u=true
 r4:p.rows.length=4
 bs:p.base<=p.h0.size
 wz:p.w<p.h0.size
 zm:∀k∈aY p.sb p.x0 p.pv0 p.ws0,k<p.h0.size
structure Fd(p:MP)(J:aK)(h:Heap)(out:Value)(outs js:bn)(x pv:Value)(ws fp:cK)(es:et):Prop where
 st:aC (λ k=>k=p.w\/k∈aY p.sb p.x0 p.pv0 p.ws0) p.I0 p.h0 J h
 bw:blk h p.w=some (p.cell pv p.c12)
 mt:MT 411 647 407 16 p.base J h p.w p.sb x pv ws 1 p.rows
 wl:ws=[]\/∃u,ws=[u]
 nw:∀k∈aY p.sb x pv ws,k∈aY p.sb p.x0 p.pv0 p.ws0\/p.h0.size<=k
 ou:aQ p.h0.size J h 20 1 out outs.length (outs.map bE)
 vm:VM 607 p.h0.size J h p.mb fp es
 d1:∀k∈aY p.sb x pv ws,k∉fp/\k∉out.bl
 d2:∀k∈out.bl,k∉fp
 ek:∀e,(∃v,(e,v)∈es)↔∃s∈js,e=.val s
 el:es.length<=js.length
def ML(w:MP)(V:aK)(h:Heap)(d:Value)(o j:bn):Prop:=∃X i y b g,Fd w V h d o j X i y b g
theorem Fd.pur{w:MP}{g:et}(B:Fd w I h a z y b c K N g)(G:aD I h J H):Fd w J H a z y b c K N g:=⟨B.st.trans (G.weak λ _ _=>False.elim),G.blk B.bw id,B.mt.step G (aF B.bw) id (λ _ _=>id),B.wl,B.nw,B.ou.step G λ _ _=>id,B.vm.step G λ _ _=>id,B.d1,B.d2,B.ek,B.el⟩
theorem ML.pur{w:MP}(B:ML w I h a z y)(G:aD I h J H):ML w J H a z y:=by obtain⟨X,i,y,b,g,B⟩:=B;exact⟨X,i,y,b,g,B.pur G⟩
theorem ML.sat{w:MP}(B:ML w I h a z y):aN I h:=by obtain⟨X,i,y,b,g,B⟩:=B;exact B.st.sat
theorem ML.bw{w:MP}(B:ML w I h a z y):∃i,blk h w.w=some (w.cell i w.c12):=by obtain⟨X,i,y,b,g,B⟩:=B;exact⟨i,B.bw⟩
theorem ML.item{w:MP}(l:w.Ok)(B:ML w I h a z y){per:bW}{str:bF}(t:bM I per G)(f:b=ni\/PV I b (bE str))(u:c=ni\/PV I c (bE str))(H:b≠ni\/c≠ni)(Y:cO I A)(L:∀O E U,I.le E->h.size<=U.size->ML w E U a z y->E O=aE #[bE str] 20->R (bj (aB O) n0) U):Cf h 434 #[aB w.w,.pointer (some A),.agg per.toArray,b,c] R:=by
 obtain⟨X,i,y,b,g,B⟩:=B;have s:=l.o1;have e:w.base<=h.size:=Nat.le_trans l.bs B.st.size;refine ty (L:=w.base) (X:=X) (y:=y) (t:=w.rows) (s:=str) B.st.sat B.bw (λ S p=>?_) B.mt B.wl (by rw[l.r4]) t f u H Y e λ O M v S E U G T J W N=>?_
 ·simp only[List.mem_cons,List.not_mem_nil,or_false]at p;rcases p with rfl|rfl|rfl|rfl|rfl|rfl|rfl|rfl|rfl|rfl|rfl;all_goals first|rfl|exact s _ zab
 ·have k:=B.vm.fps;have u:∀r∈a.bl,w.h0.size<=r/\r<h.size:=λ _ Y=>B.ou.lt Y;have j:w.w∉b/\w.w∉a.bl:=⟨λ F=>uF (k _ F).1 l.wz,λ F=>uF (u _ F).1 l.wz⟩;refine L O E U G.le G.size ⟨M,v,[S],b,g,B.st.trans' G λ r Y F=>?_,J,W,.inr ⟨S,rfl⟩,λ r Y=>?_,B.ou.step G λ P z F=>?_,B.vm.step G λ r Y F=>?_,λ r Y=>?_,B.d2,B.ek,B.el⟩ T
  ·rcases F with F|F
   ·exact zcp
   ·rcases B.nw r F with Q|Q
    ·exact .inr Q
    ·exact zaa
  ·rcases N r Y with Q|Q
   ·exact B.nw r Q
   ·exact .inr (Nat.le_trans B.st.size Q)
  ·rcases F with F|F
   ·exact j.2 (F▸mem_bl.2 z)
   ·exact(B.d1 P F).2 (mem_bl.2 z)
  ·rcases F with F|F
   ·exact j.1 (F▸Y)
   ·exact(B.d1 r F).1 Y
  ·rcases N r Y with Q|Q
   ·exact B.d1 r Q
   ·exact⟨λ F=>cW (k r F).2.1,λ F=>cW (u r F).2⟩
theorem ML.add{w:MP}(l:w.Ok)(B:ML w J h a z y)(u:z.length<=2147483646)(G:∀V U,h.size<=U.size->ML w J U V (z++[S]) y->R V U):Ap (h.push (aV #[bE S] 20)) 241 a (bq h.size 0 1 1) R:=by
 obtain⟨X,i,y,b,g,B⟩:=B;have Z:=B.st.sat;have f:=B.st.size;have m:=B.vm.fps;have u:∀r∈a.bl,w.h0.size<=r/\r<h.size:=λ _ Y=>B.ou.lt Y;have j:w.w∉a.bl:=λ F=>uF (u _ F).1 l.wz;have v:=B.mt.lts;refine bY kR rfl zaa zaa (H:=#[bE S]) (v:=z.length) (c:=z.map bE) (u:=w.h0.size) (T:=J) Bk (B.ou.push _) ((aC.refl (D:=none_) Z).push _).sat rfl (by simp;rfl) zaa (by(try simp only[bJ]);exact zaa) λ t k C M E oW=>?_;have s:aC (λ r=>r∈a.bl) J h J k:=aC.touch ((aC.refl (D:=λ r=>r∈a.bl) Z).push _) M λ P z=>⟨.inr (mem_bl.2 z),B.ou.2 P z⟩;have A:∀r∈t.bl,r∈a.bl\/h.size<=r:=λ r Y=>by
  rcases oW with Q|⟨P,Q,T⟩
  ·exact .inl (mem_bl.2 (Q▸mem_bl.1 Y))
  ·have:=mem_bl.1 Y;rw[Q]at this;cases this;(try simp only[bJ]at T);exact .inr zaa
 refine G t k s.size ⟨X,i,y,b,g,B.st.trans' s λ r Y F=>?_,s.blk B.bw j,B.mt.step s (aF B.bw) j λ r Y F=>(B.d1 r Y).2 F,B.wl,B.nw,bS C,B.vm.step s λ r Y F=>B.d2 r F Y,λ r Y=>⟨(B.d1 r Y).1,λ F=>?_⟩,λ r Y F=>?_,B.ek,B.el⟩
 ·have:=(u r F).1;exact zaa
 ·rcases A r F with Q|Q
  ·exact(B.d1 r Y).2 Q
  ·have:=v r Y;exact zaa
 ·rcases A r Y with Q|Q
  ·exact B.d2 r Q F
  ·have:=(m r F).2.1;exact zaa
theorem ML.ins{w:MP}(a:ML w I h b z y)(l:w.Ok){per:bW}(t:bM I per (.val S))(D:y.length<=2147483645)(L:∀U,h.size<=U.size->ML w I U b z (y++[S])->R (.tuple #[]) U):Cf h 390 #[aB w.mb,.agg per.toArray,.iface 347 (.agg #[])] R:=by
 obtain⟨X,i,y,Q,g,a⟩:=a;have k:=a.vm.fps;have f:=a.st.size;have j:w.w∉Q:=λ F=>uF (k _ F).1 l.wz;have v:=a.mt.lts;have u:∀r∈b.bl,w.h0.size<=r/\r<h.size:=λ _ Y=>a.ou.lt Y;refine iy (C:=.val S) a.st.sat a.vm t rfl f (cW a.el) λ d g U G o nf x ln=>?_;refine L U G.size ⟨X,i,y,d,g,a.st.trans' G λ r Y F=>?_,G.blk a.bw j,a.mt.step G (aF a.bw) j λ r Y F=>(a.d1 r Y).1 F,a.wl,a.nw,a.ou.step G λ P z F=>a.d2 P (mem_bl.2 z) F,o,λ r Y=>⟨λ F=>?_,(a.d1 r Y).2⟩,λ r Y F=>?_,λ C=>?_,by have:=a.el;simp;exact zaa⟩
 ·have:=(k r F).1;exact zaa
 ·rcases nf r F with Q|Q
  ·exact(a.d1 r Y).1 Q
  ·have:=v r Y;exact zaa
 ·rcases nf r F with Q|Q
  ·exact a.d2 r Y Q
  ·have:=(u r Y).2;exact zaa
 ·have d:=a.ek;constructor
  ·rintro⟨J,p⟩;rcases(x _).1 p with Q|⟨-,Q⟩
   ·exact⟨S,zab,by cases Q;rfl⟩
   ·obtain⟨n,T,B⟩:=(d C).1 ⟨J,Q⟩;exact⟨n,by simp[T],B⟩
  ·rintro⟨n,T,rfl⟩;by_cases s:n=S
   ·exact⟨_,(x _).2 (.inl (by rw[s]))⟩
   ·rcases List.mem_append.1 T with T|T
    ·obtain⟨J,p⟩:=(d (.val n)).2 ⟨n,T,rfl⟩;exact⟨J,(x _).2 (.inr ⟨bS s,p⟩)⟩
    ·exact absurd (bS T) s
theorem ML.get{w:MP}(B:ML w I h a z y){per:bW}(t:bM I per (.val S))(D:y.length<=2147483645)(L:∀J b U,ML w I U a z y->aD I h I U->(b=true↔S∈y)->R (bj J (.bool b)) U):Cf h 389 #[aB w.mb,.agg per.toArray] R:=by
 have V:=B;obtain⟨X,i,y,Q,g,B⟩:=B;refine kL (G:=.val S) B.st.sat B.vm t (cW B.el) (λ J U G l=>L J true U (V.pur G) G ?_) λ U G l=>L ni false U (V.pur G) G ?_
 ·obtain⟨n,y,N⟩:=(B.ek _).1 ⟨J,l⟩;have:S=n:=bS N;simpa[this]using y
 ·simp only[Bool.false_eq_true,false_iff];intro s;obtain⟨J,p⟩:=(B.ek (.val S)).2 ⟨S,s,rfl⟩;exact l J p
def mz(V:aK)(P:Value):Prop:=∃b s A u q O J,P=cY b s/\bM V [u,q,O,J] (.val A)/\bP V b s=some u/\bP V b (s+1)=some q/\bP V b (s+2)=some O/\bP V b (s+3)=some J
theorem mz.mono(O:I.le J)(B:mz I a):mz J a:=by obtain⟨u,s,A,Z,q,h,J,C,w,V,f,i,d⟩:=B;exact⟨u,s,A,Z,q,h,J,C,w.mono O,cE O V,cE O f,cE O i,cE O d⟩
def ii(V:aK)(J:Value):Prop:=J=nilp\/mz V J
theorem ii.mono(O:I.le J)(B:ii I a):ii J a:=B.imp id (mz.mono O)
def gU(V:aK)(J:Value):Prop:=∃v D,cd V J 1 v D/\∀p∈D,mz V p
theorem gU.mono(O:I.le J)(B:gU I a):gU J a:=by obtain⟨v,D,A,p⟩:=B;exact⟨v,D,A.mono O,λ r Y=>(p r Y).mono O⟩
theorem yf(Z:aN I h)(s:gU I a){T:Value->Value->Prop}(Q:∀R Y,gU I R->ii I Y->T R Y):Ln h 637 a λ b=>Bi h .gtr 3 b i0 λ c=>Cd c (Ia h 637 a i0 λ d=>Ld h 638 d λ g=>Sl h 637 a (some i1) none none λ i=>T i g) (T a nilp):=by
 obtain⟨v,D,X,O⟩:=s;have l:=X;obtain⟨B,V,rfl,t,f,P,y,k⟩:=X;by_cases q:0<v
 ·obtain⟨u,s,rfl,r⟩:=k q;have t:decide ((v:Int)>0)=true:=by simp;exact zaa
  cases D with
   |nil=>simp at f;exact zaa
   |cons p D=>
    have R:=Z.cell (r 0 p rfl);rw[Nat.add_zero]at R;have j:s+(0:Int).toNat*1=s:=zab;refine rD t j R ?_;have S:D.length+1=v:=bS f;rw[lk Tryz.underlying637 K3 ⟨zaa,zaa⟩];refine Q _ p ⟨v-1,D,?_,λ i Y=>O i (c6 Y)⟩ (.inr (O p zab));refine⟨_,V-1,rfl,zaa,zaa,zaa,λ S J=>y S (c6 J),λ e=>⟨u,s+1,?_,λ M S J=>?_⟩⟩
    ·rw[if_neg (by simp;exact zaa)];simp[Addr.add]
    ·rw[Nat.add_assoc,Nat.add_comm 1 M];exact r (M+1) S J
 ·have C:v=0:=zaa;have t:decide ((v:Int)>0)=false:=by simp;exact zaa
  refine rB t ?_;exact Q _ _ ⟨v,D,l,O⟩ (.inl rfl)
def T7:(Lp (∃e:V1,(∀f g,e f g->(Lp (∃e:V1,(∀g i,e g i->(Lp (∃e:V1,(∀g i,e g i->(Mz i 241 i0 g λ e g=>Cf g 431 #[a,b,d,bf] λ d g=>aW d λ i j=>Ex d 2 λ d=>bH g 634 j λ g j=>Ap j 323 n0 d λ d j=>Cf j 431 #[a,b,c,bt] λ j k=>aW j λ l m=>Ex j 2 λ j=>bH k 634 m λ k m=>Ap m 323 d j λ d j=>Ln j 323 d λ m=>bx j 3 m i0 (R d j) (Mz j 637 i0 f λ f j=>Ln j 251 i λ m=>Lp (∃(n:V2)(o:N2),n f i0 j/\∀f j p,n f j p->(Bi p .lss 3 j m λ m=>Cd m (Lp (∃a:V1,(∀b c,a b c->(Bi c .add 3 j i1 λ a=>(n b a c/\o b a c<o f j p)))/\(Ia p 251 i j λ b=>Nc b<|Ld p 369 b λ c=>Cf p 432 #[k,c] λ c d=>aW c λ _ c=>Cd c (Bs d 637 1 #[(0,b)] λ b c=>Ap c 637 f b λ b c=>a b c) (a f d)))) (Lp (∃j:V2,(∀f m n,j f m n->(Ln n 251 i λ j=>Cf n 388 #[j] λ j n=>bH n 607 j λ j n=>Ln n 251 l λ o=>Ln n 251 i λ p=>Lp (∃(q:V5)(r:N5),q e f m i0 i0 n/\∀e f m n s t,q e f m n s t->(Bi t .lss 3 n o λ u=>Gd t u false (λ a b=>a s b) λ v w=>Gd w u false (λ a b=>a p b) λ w x=>Gd x u false (λ a b=>Bi b .lss 3 v w λ c=>a c b) λ v w=>Pk u bt v λ u=>Cd u (Lp (∃d:V5,(∀u v w x y z,d u v w x y z->(Lp (∃d:V2,(∀c l o,d c l o->(Bi o .lss 3 y p λ d=>Cd d (Ia o 251 i y λ d=>Ld o 369 d λ d=>bH o 369 d λ d i=>Ld i 369 d λ o=>Bd i 347 #[] λ p=>Mi i 347 p λ p=>Cf i 390 #[j,o,p] λ _ i=>Ld i 369 d λ j=>Cf i 432 #[k,j] λ i j=>aW i λ i _=>Ld j 369 d λ k=>Cf j 432 #[g,k] λ g j=>aW g λ g _=>Ld j 369 d λ k=>Cf j 434 #[a,b,k,i,g] λ a b=>aW a λ a g=>Ap b 323 g g λ _ b=>Lp (∃g:V1,(∀a b,g a b->(Bi b .add 3 y i1 λ c=>Eb b .neq 638 false true w nilp λ g=>aH b g (λ a b=>a w b) λ b i=>aH i g (λ a c=>Nc b<|a b c) λ b i=>aH i g (λ a c=>Ld c 369 b λ b=>a b c) λ b i=>aH i g (λ a b=>Ld b 369 d λ c=>a c b) λ d i=>aH i g (λ a c=>Cf c 433 #[b,d] λ b c=>a b c) λ b d=>Pk g b bf λ b=>Cd b (Ln d 637 v λ b=>bv d .gtr 3 b i0 (Ia d 637 v i0 λ b=>Ld d 638 b λ b=>Sl d 637 v (some i1) none none λ g=>(q a g b l c d/\r a g b l c d<r e f m n s t)) (q a v nilp l c d/\r a v nilp l c d<r e f m n s t)) (q a v w l c d/\r a v w l c d<r e f m n s t)))/\(Eb b .neq 408 false true a nilp λ d=>Cd d (Nc a<|Ld b 20 a λ a=>Bs b 241 1 #[(0,a)] λ a b=>Ap b 241 c a λ a b=>g a b) (g c b)))) (q c v w l y o/\r c v w l y o<r e f m n s t)))/\(Bi z .lss 3 x o λ i=>Cd i (Ia z 251 l x λ i=>Ld z 369 i λ i=>bH z 369 i λ i k=>Ld k 369 i λ l=>Cf k 432 #[g,l] λ g k=>aW g λ _ g=>cD k g (aM k 411 a 10 225 λ d=>Nc (.func (.method "AtUsing") #[c] #[])<|Iv k c "AtUsing" #[d,x] λ c d=>Ld d 369 i λ g=>Cf d 434 #[a,b,g,c,ni] λ a b=>aW a λ a c=>Ap b 323 c c λ _ b=>Lp (∃c:V1,(∀a b,c a b->(Bi b .add 3 x i1 λ c=>(q a v w c y b/\r a v w c y b<r e f m n s t)))/\(Eb b .neq 408 false true a nilp λ d=>Cd d (Nc a<|Ld b 20 a λ a=>Bs b 241 1 #[(0,a)] λ a b=>Ap b 241 u a λ a b=>c a b) (c u b)))) (Ld k 369 i λ a=>Cf k 389 #[j,a] λ a b=>aW a λ _ a=>Cd a (Bi b .add 3 x i1 λ a=>d u a b) (d u x b))) (d u x z)))))/\(Bi w .lss 3 n o λ c=>aH w c (λ a b=>a s b) λ o u=>aH u c (λ a b=>a p b) λ p u=>aH u c (λ a b=>Bi b .lss 3 o p λ c=>a c b) λ o p=>Pk c o bf λ c=>Cd c (Ia p 251 l n λ c=>Ld p 369 c λ c=>bH p 369 c λ c o=>Ld o 369 c λ p=>Ia o 251 i s λ i=>Ld o 369 i λ i=>Cf o 433 #[p,i] λ i o=>Cd i (Ld o 369 c λ d=>Bd o 347 #[] λ i=>Mi o 347 i λ i=>Cf o 390 #[j,d,i] λ _ d=>Ld d 369 c λ i=>Cf d 432 #[k,i] λ d i=>aW d λ d _=>Ld i 369 c λ j=>Cf i 432 #[g,j] λ g i=>aW g λ g _=>Ld i 369 c λ c=>Cf i 434 #[a,b,c,d,g] λ a b=>aW a λ a c=>Ap b 323 c c λ _ b=>Lp (∃c:V1,(∀a b,c a b->(Bi b .add 3 n i1 λ c=>Bi b .add 3 s i1 λ d=>Ln b 637 f λ g=>bv b .gtr 3 g i0 (Ia b 637 f i0 λ g=>Ld b 638 g λ g=>Sl b 637 f (some i1) none none λ i=>(q a i g c d b/\r a i g c d b<r e f m n s t)) (q a f nilp c d b/\r a f nilp c d b<r e f m n s t)))/\(Eb b .neq 408 false true a nilp λ d=>Cd d (Nc a<|Ld b 20 a λ a=>Bs b 241 1 #[(0,a)] λ a b=>Ap b 241 e a λ a b=>c a b) (c e b)))) (Ld o 369 c λ a=>Cf o 432 #[g,a] λ a b=>aW a λ _ a=>aH b a (λ a b=>a m b) λ b c=>aH c a (λ a c=>Eb c .neq 638 false true b nilp λ b=>a b c) λ b c=>Pk a b bf λ a=>aH c a (λ a b=>a m b) λ b c=>aH c a (λ a c=>Nc b<|a b c) λ b c=>aH c a (λ a c=>Ld c 369 b λ b=>a b c) λ b c=>aH c a (λ a b=>a l b) λ c g=>aH g a (λ a b=>a n b) λ g i=>aH i a (λ a b=>Ia b 251 c g λ c=>a c b) λ c g=>aH g a (λ a b=>Ld b 369 c λ c=>a c b) λ c g=>aH g a (λ a d=>Cf d 433 #[b,c] λ b c=>a b c) λ b c=>aH c a (λ a c=>Nt c b λ b=>a b c) λ b c=>Pk a b bf λ a=>Cd a (Bi c .add 3 n i1 λ a=>(q e f m a s c/\r e f m a s c<r e f m n s t)) (d e f m n s c))) (d e f m n s p)))) (Lp (∃b:V0,(∀a,b a->(R d a))/\(Ln w 241 e λ c=>bv w .gtr 3 c i0 (Mi w 241 e λ c=>bH w 20 c λ c d=>bC d 411 a 7 408 c λ a=>b a) (b w))))))))/\(Ln p 637 f λ a=>bv p .gtr 3 a i0 (Ia p 637 f i0 λ a=>Ld p 638 a λ a=>Sl p 637 f (some i1) none none λ b=>j b a p) (j f nilp p)))))))))/\(Bi i .lss 3 g f λ a=>Cd a (e f i) (e g i)))))/\(Eb g .neq 338 false true c ni λ a=>Cd a (Iv g c "Length" #[] λ a b=>e a b) (e i0 g)))))/\(Eb h .neq 338 false true d ni λ a=>Cd a (Iv h d "Length" #[] λ a b=>e a b) (e i0 h))))->Cf h 428 #[a,b,c,d] R:=mS Tryz.func428 (Z (Z (Y [9] cF (Z (Y [10] cF (Z (Y [11] cF (Z (Z (Z (Z (Z (Q cg (Z (Q (Z (B (O [19,98] (Z (Q d8 (Y [19] (B (Z (Z jb))) L)))))) (Z (Y [19,24] cg (Z (Z (Q (Z (B (O [12,19,24,26,27] (Q cF (B (Y [12,19,24,26,27] (Z (C (Z (Q (Q (X #[0,0,0,6,14,31]) (C (Z (Z (Z (Z (Z (Y [12] cF (Z (Z AP)))))))) L)) (Z (Q (X #[0,1,3,7,15,31,63,127,255,63,63,1599,3647,8191,16383,32767]) iT)))) L)) (Y [12,26] (Z (C (Z (Z (Z (C (Q (X #[0,0,2,6,14,0,1,65,193,511,1023]) (Z (Z (Y [12] cF bG)))) jb)))) L)) (Z (C (Z (Z (Z (Z (Z (Z (Y [12] cF (Z (Q (X #[0,1,3,7,15,31,7,127,255]) (C mM L)))))))))) L))))))))) Bn))))))))))))))))))))
def Eo(a b c d e f g i j k H:Value)(x v:Heap)(s:V5)(w:N5):Prop:=Ld x 369 c λ p=>Bd x 347 #[] λ W=>Mi x 347 W λ W=>Cf x 390 #[d,p,W] λ _ d=>Ld d 369 c λ x=>Cf d 432 #[e,x] λ d e=>aW d λ d _=>Ld e 369 c λ x=>Cf e 432 #[f,x] λ e f=>aW e λ e _=>Ld f 369 c λ c=>Cf f 434 #[a,b,c,d,e] λ a b=>aW a λ a c=>Ap b 323 c c λ _ b=>Lp (∃c:V1,(∀a b,c a b->(Bi b .add 3 k i1 λ c=>Bi b .add 3 H i1 λ d=>Ln b 637 i λ e=>bv b .gtr 3 e i0 (Ia b 637 i i0 λ e=>Ld b 638 e λ e=>Sl b 637 i (some i1) none none λ f=>(s a f e c d b/\w a f e c d b<w g i j k H v)) (s a i nilp c d b/\w a i nilp c d b<w g i j k H v)))/\(Eb b .neq 408 false true a nilp λ d=>Cd d (Nc a<|Ld b 20 a λ a=>Bs b 241 1 #[(0,a)] λ a b=>Ap b 241 g a λ a b=>c a b) (c g b)))
def E4(a b c d e f g i j k H x v s:Value)(w p:Heap)(W:V5)(A:N5):Prop:=Ld w 369 d λ d=>Cf w 434 #[b,c,d,a,ni] λ a b=>aW a λ a c=>Ap b 323 c c λ _ b=>Lp (∃c:V1,(∀a b,c a b->(Bi b .add 3 v i1 λ c=>(W a H x c s b/\A a H x c s b<A e f g i j p)))/\(Eb b .neq 408 false true a nilp λ d=>Cd d (Nc a<|Ld b 20 a λ a=>Bs b 241 1 #[(0,a)] λ a b=>Ap b 241 k a λ a b=>c a b) (c k b)))
def w5(a b c d e f g i j k H x v s w p W:Value)(A G:Heap)(S:V5)(J:N5):Prop:=Bi A .lss 3 W d λ d=>Cd d (Ia A 251 c W λ c=>Ld A 369 c λ c=>bH A 369 c λ c d=>Ld d 369 c λ A=>Bd d 347 #[] λ E=>Mi d 347 E λ E=>Cf d 390 #[e,A,E] λ _ d=>Ld d 369 c λ e=>Cf d 432 #[f,e] λ d e=>aW d λ d _=>Ld e 369 c λ f=>Cf e 432 #[g,f] λ e f=>aW e λ e _=>Ld f 369 c λ g=>Cf f 434 #[a,b,g,d,e] λ a b=>aW a λ a d=>Ap b 323 d d λ _ b=>Lp (∃d:V1,(∀a b,d a b->(Bi b .add 3 W i1 λ d=>Eb b .neq 638 false true w nilp λ e=>aH b e (λ a b=>a w b) λ b f=>aH f e (λ a c=>Nc b<|a b c) λ b f=>aH f e (λ a c=>Ld c 369 b λ b=>a b c) λ b f=>aH f e (λ a b=>Ld b 369 c λ c=>a c b) λ c f=>aH f e (λ a d=>Cf d 433 #[b,c] λ b c=>a b c) λ b c=>Pk e b bf λ b=>Cd b (Ln c 637 s λ b=>bv c .gtr 3 b i0 (Ia c 637 s i0 λ b=>Ld c 638 b λ b=>Sl c 637 s (some i1) none none λ e=>(S a e b p d c/\J a e b p d c<J i j k H x G)) (S a s nilp p d c/\J a s nilp p d c<J i j k H x G)) (S a s w p d c/\J a s w p d c<J i j k H x G)))/\(Eb b .neq 408 false true a nilp λ c=>Cd c (Nc a<|Ld b 20 a λ a=>Bs b 241 1 #[(0,a)] λ a b=>Ap b 241 v a λ a b=>d a b) (d v b)))) (S v s w p W A/\J v s w p W A<J i j k H x G)
def MG(V:aK)(O:Nat)(H:bn):Prop:=∃a g,V O=aE #[a] 634/\fE V a g/\dq (g.map Prod.fst)/\k8 V g H
theorem MG.mono(O:I.le J)(B:MG I m z):MG J m z:=by obtain⟨a,g,u,A,r,C⟩:=B;exact⟨a,g,O _ _ u,A.mono O,r,C.mono O⟩
theorem MG.get(Z:aN I h)(B:MG I m z){tv:bW}(l:bM I tv (.val S))(L:∀J b U,aD I h I U->(J=ni\/PV I J (bE S))->(S∈z->PV I J (bE S))->(b=true↔S∈z)->R (bj J (.bool b)) U):Cf h 432 #[aB m,.agg tv.toArray] R:=by obtain⟨a,g,b,x,W,C⟩:=B;exact AO Z b x W C l L
theorem PV.ne(O:PV I a b):a≠ni:=by obtain⟨u,C,rfl,-⟩:=O;exact zab
theorem MJ{w:MP}(v:w.Ok)(M:ML w I h a z y)(J:cO I A){L k:bn}(N:MG I m L)(i:MG I n k)(P:I o=aE #[b,c,d,e] 369)(C:bM I [b,c,d,e] (.val S))(s:S∈L)(D:z.length<=2147483646)(p:y.length<=2147483645)(k:gU I f)(q:l<1000000000)(j:t<1000000000){G:Value->Value->Value->Value->Value->Heap->Prop}{X:Value->Value->Value->Value->Value->Heap->Nat}(q:∀V R Y E U,I.le E->ML w E U V (z++[S]) (y++[S])->gU E R->ii E Y->G V R Y (aR ((l:Int)+1)) (aR ((t:Int)+1)) U/\X V R Y (aR ((l:Int)+1)) (aR ((t:Int)+1)) U<X a f g (aR (l:Int)) (aR (t:Int)) H):Eo (aB w.w) (.pointer (some A)) (aB o) (aB w.mb) (aB m) (aB n) a f g (aR (l:Int)) (aR (t:Int)) h H G X:=by
 have Z:=M.sat;unfold Eo;refine rB (Z _ _ P).c ?_;refine M.ins (per:=[b,c,d,e]) v C p λ U o M=>?_;have h:=M.sat;refine rB (h _ _ P).c ?_;refine MG.get (tv:=[b,c,d,e]) h N C λ p u N p _ E _=>?_;have W:=p.sat;have x:=M.pur p;refine rB (W _ _ P).c ?_;refine MG.get (tv:=[b,c,d,e]) W i C λ W r T r O _ _=>?_;have i:=r.sat;have h:=x.pur r;refine rB (i _ _ P).c ?_;refine ML.item (per:=[b,c,d,e]) (str:=S) v h C (.inr (E s)) O (.inl (E s).ne) J λ O c b n M b T=>?_;have O:=b.sat;try simp(disch:=omega)only[go_sem,↓reduceIte,cI d5]
 refine⟨λ s Q=>∃Z,I.le Z/\ML w Z Q s (z++[S]) (y++[S]),λ s Q F=>?_,?_⟩
 ·refine F.elim λ Z F=>rA ?_;refine yf F.2.sat (k.mono F.1) (T:=λ B u=>G s B u (aR ((l:Int)+1)) (aR ((t:Int)+1)) Q/\X s B u (aR ((l:Int)+1)) (aR ((t:Int)+1)) Q<X a f g (aR (l:Int)) (aR (t:Int)) H) λ R Y U N=>q s R Y Z Q F.1 F.2 U N
 ·refine rB (O _ _ T).c ?_;exact b.add v D λ V Q a v=>⟨c,n,v⟩
theorem NA{w:MP}(l:w.Ok)(M:ML w I h a z y)(Y:cO I A)(E:PV I b (bE S))(P:n<1000000000)(P:I m=aE #[c,d,e,f] 369)(C:bM I [c,d,e,f] (.val S))(D:z.length<=2147483646){s0 n0:Value}{G:Value->Value->Value->Value->Value->Heap->Prop}{X:Value->Value->Value->Value->Value->Heap->Nat}(v:∀V N U,I.le N->ML w N U V (z++[S]) y->G V g i (aR ((n:Int)+1)) q U/\X V g i (aR ((n:Int)+1)) q U<X j s0 n0 k p H):E4 b (aB w.w) (.pointer (some A)) (aB m) j s0 n0 k p a g i (aR (n:Int)) q h H G X:=by
 have Z:=M.sat;unfold E4;refine rB (Z _ _ P).c ?_;refine ML.item (per:=[c,d,e,f]) (str:=S) l M C (.inr E) (.inl rfl) (.inl E.ne) Y λ O R t n L b T=>?_;have O:=b.sat;try simp(disch:=omega)only[go_sem,↓reduceIte,cI d5]
 refine⟨λ s Q=>∃Z,I.le Z/\ML w Z Q s (z++[S]) y,λ s Q F=>?_,?_⟩
 ·refine F.elim λ Z F=>rA ?_;exact v s Z Q F.1 F.2
 ·refine rB (O _ _ T).c ?_;exact b.add l D λ V Q a v=>⟨R,n,v⟩
theorem Ox{p:MP}(ok:p.Ok){out:Value}{outs js:bn}(ml:ML p J h out outs js){ad:Addr}(ha:cO J ad){oL oR:Nat}{L R:bn}(gL:MG J oL L)(gR:MG J oR R){pes:Value}(hpes:ck J pes (R.map El.val)){j:Nat}(hjb:j<1000000000)(hn:outs.length<=2147483646)(hjs:js.length<=2147483645){so nx o0 s0 n0 li0 ri0 li:Value}(hso:gU J so)(hnx:ii J nx){h23:Heap}{I50:Value->Value->Value->Value->Value->Heap->Prop}{m51:Value->Value->Value->Value->Value->Heap->Nat}(hE:¬j<R.length->I50 out so nx li (aR (j:Int)) h/\m51 out so nx li (aR (j:Int)) h<m51 o0 s0 n0 li0 ri0 h23)(hK:∀(hj:j<R.length),∀out' so' nx' J' h',J.le J'->ML p J' h' out' (outs++[R[j]]) (js++[R[j]])->gU J' so'->ii J' nx'->I50 out' so' nx' li (aR ((j:Int)+1)) h'/\m51 out' so' nx' li (aR ((j:Int)+1)) h'<m51 o0 s0 n0 li0 ri0 h23):w5 (aB p.w) (.pointer (some ad)) pes (aR R.length) (aB p.mb) (aB oL) (aB oR) o0 s0 n0 li0 ri0 out so nx li (aR (j:Int)) h h23 I50 m51:=by
 have S:=ml.sat;have lm:(R.map El.val).length=R.length:=zab;by_cases hlt:j<R.length
 ·have hK:=hK hlt;have d0:decide ((j:Int)<(R.length:Int))=true:=by simp;exact zaa
  obtain⟨a,cap,rfl,hcp,hn'⟩:=hpes.slice;refine hpes.rowK (o:=j) (bS hlt) λ b o w0 w1 w2 w3 ea hrow hc=>?_;subst ea;rw[List.getElem_map]at hrow;have cc:=hc S;have ho:=hrow.one;have q0:=ho w0 zab;have q1:=ho w1 zab;have q2:=ho w2 zab;have q3:=ho w3 zab;have st1:aD J h J (aO (aO (aO (aO (h.push (aV #[nilp,nilp,nilp,nilp] 369)) h.size 0 w0) h.size 1 w1) h.size 2 w2) h.size 3 w3):=aP S;obtain⟨J1,kk,hpb⟩:∃J1,aD J h J1 (aO (aO (aO (aO (h.push (aV #[nilp,nilp,nilp,nilp] 369)) h.size 0 w0) h.size 1 w1) h.size 2 w2) h.size 3 w3)/\J1 h.size=aE #[w0,w1,w2,w3] 369:=⟨_,(st1.one (b:=h.size) bu).1,aK.one_eq Bk⟩;have le1:=kk.le;have ml1:=ml.pur kk;unfold w5;try simp(disch:=omega)only[go_sem,↓reduceIte,d0,lm,cc.1,cc.2.1,cc.2.2.1,cc.2.2.2,q0,q1,q2,q3]
  skip;refine ml1.ins (per:=[w0,w1,w2,w3]) ok (hrow.mono le1) hjs λ h2 z2 ml2=>?_;have S2:=ml2.sat;refine rB (S2 _ _ hpb).c ?_;refine MG.get (tv:=[w0,w1,w2,w3]) S2 (gL.mono le1) (hrow.mono le1) λ lv b2 h3 t3 hlv _ _=>?_;have S3:=t3.sat;have ml3:=ml2.pur t3;refine rB (S3 _ _ hpb).c ?_;refine MG.get (tv:=[w0,w1,w2,w3]) S3 (gR.mono le1) (hrow.mono le1) λ rv b3 h4 t4 _ hrv _=>?_;have S4:=t4.sat;have ml4:=ml3.pur t4;have hrv':=hrv (List.getElem_mem hlt);refine rB (S4 _ _ hpb).c ?_;refine ML.item (per:=[w0,w1,w2,w3]) (str:=R[j]) ok ml4 (hrow.mono le1) hlv (.inr hrv') (.inr hrv'.ne) (ha.mono le1) λ ob J5 h5 le5 z5 ml5 hob=>?_;have S5:=ml5.sat;have le15:=le1.trans le5;try simp(disch:=omega)only[go_sem,↓reduceIte,cI d5]
  refine⟨λ o h6=>∃J6,J5.le J6/\ML p J6 h6 o (outs++[R[j]]) (js++[R[j]]),λ o h6 hh=>?_,?_⟩
  ·refine hh.elim λ J6 hh=>?_;have le06:=le15.trans hh.1;have S6:=hh.2.sat;have hso6:=hso.mono le06;have hpb6:=(le5.trans hh.1) _ _ hpb;refine hnx.elim (λ en=>?_) λ hnx=>?_
   ·refine rB en ?_;exact hK o so nilp J6 h6 le06 hh.2 hso6 (.inl rfl)
   ·have hnx6:=hnx.mono le06;refine Exists.elim hnx6 λ b9 H=>H.elim λ o9 H=>H.elim λ s9 H=>H.elim λ u0 H=>H.elim λ u1 H=>H.elim λ u2 H=>H.elim λ u3 H=>?_;have en:=H.1;have c0:=S6.cell H.2.2.1;have c1:=S6.cell H.2.2.2.1;have c2:=S6.cell H.2.2.2.2.1;have c3:=S6.cell H.2.2.2.2.2;refine rG (S6 _ _ hpb6).c en c0 c1 c2 c3 ?_;refine kN (x:=[u0,u1,u2,u3]) (w:=[w0,w1,w2,w3]) S6 H.2.1 (hrow.mono le06) λ h7 t7=>?_;refine(Decidable.em (s9=R[j])).elim (λ hd=>?_) λ hd=>?_
    ·refine rB hd ?_;exact yf t7.sat hso6 (T:=λ a b=>I50 o a b li (aR ((j:Int)+1)) h7/\m51 o a b li (aR ((j:Int)+1)) h7<m51 o0 s0 n0 li0 ri0 h23) λ so' nx' g1 g2=>hK o so' nx' J6 h7 le06 (hh.2.pur t7) g1 g2
    ·have hd':decide (s9=R[j])=false:=bS hd;refine rB hd' ?_;exact hK o so nx J6 h7 le06 (hh.2.pur t7) hso6 (.inr hnx6)
  ·refine rB (S5 _ _ hob).c ?_;exact ml5.add ok hn λ out' h6 z6 ml6=>⟨J5,aK.le.refl _,ml6⟩
 ·have d0:decide ((j:Int)<(R.length:Int))=false:=by simp;exact zaa
  unfold w5;refine rB d0 ?_;exact hE hlt
def w6(R:KV)(a b c d e f g i j k H x v s:Value)(w:Heap):Prop:=Lp (∃(p:V5)(W:N5),p d v s i0 i0 w/\∀d v s w A G,p d v s w A G->(Bi G .lss 3 w i λ S=>Gd G S false (λ a b=>a A b) λ J E=>Gd E S false (λ a b=>a j b) λ E X=>Gd X S false (λ a b=>Bi b .lss 3 J E λ c=>a c b) λ J E=>Pk S bt J λ S=>Cd S (Lp (∃g:V5,(∀S J E X q L,g S J E X q L->(Lp (∃g:V2,(∀c f i,g c f i->(Bi i .lss 3 q j λ g=>Cd g (Ia i 251 e q λ e=>Ld i 369 e λ e=>bH i 369 e λ e g=>Ld g 369 e λ i=>Bd g 347 #[] λ j=>Mi g 347 j λ j=>Cf g 390 #[x,i,j] λ _ g=>Ld g 369 e λ i=>Cf g 432 #[H,i] λ g i=>aW g λ g _=>Ld i 369 e λ j=>Cf i 432 #[k,j] λ i j=>aW i λ i _=>Ld j 369 e λ k=>Cf j 434 #[a,b,k,g,i] λ a b=>aW a λ a g=>Ap b 323 g g λ _ b=>Lp (∃g:V1,(∀a b,g a b->(Bi b .add 3 q i1 λ c=>Eb b .neq 638 false true E nilp λ g=>aH b g (λ a b=>a E b) λ b i=>aH i g (λ a c=>Nc b<|a b c) λ b i=>aH i g (λ a c=>Ld c 369 b λ b=>a b c) λ b i=>aH i g (λ a b=>Ld b 369 e λ c=>a c b) λ e i=>aH i g (λ a c=>Cf c 433 #[b,e] λ b c=>a b c) λ b e=>Pk g b bf λ b=>Cd b (Ln e 637 J λ b=>bv e .gtr 3 b i0 (Ia e 637 J i0 λ b=>Ld e 638 b λ b=>Sl e 637 J (some i1) none none λ g=>(p a g b f c e/\W a g b f c e<W d v s w A G)) (p a J nilp f c e/\W a J nilp f c e<W d v s w A G)) (p a J E f c e/\W a J E f c e<W d v s w A G)))/\(Eb b .neq 408 false true a nilp λ d=>Cd d (Nc a<|Ld b 20 a λ a=>Bs b 241 1 #[(0,a)] λ a b=>Ap b 241 c a λ a b=>g a b) (g c b)))) (p c J E f q i/\W c J E f q i<W d v s w A G)))/\(Bi L .lss 3 X i λ e=>Cd e (Ia L 251 f X λ e=>Ld L 369 e λ e=>bH L 369 e λ e f=>Ld f 369 e λ i=>Cf f 432 #[k,i] λ f i=>aW f λ _ f=>cD i f (aM i 411 a 10 225 λ f=>Nc (.func (.method "AtUsing") #[c] #[])<|Iv i c "AtUsing" #[f,X] λ c f=>Ld f 369 e λ e=>Cf f 434 #[a,b,e,c,ni] λ a b=>aW a λ a c=>Ap b 323 c c λ _ b=>Lp (∃c:V1,(∀a b,c a b->(Bi b .add 3 X i1 λ c=>(p a J E c q b/\W a J E c q b<W d v s w A G)))/\(Eb b .neq 408 false true a nilp λ d=>Cd d (Nc a<|Ld b 20 a λ a=>Bs b 241 1 #[(0,a)] λ a b=>Ap b 241 S a λ a b=>c a b) (c S b)))) (Ld i 369 e λ a=>Cf i 389 #[x,a] λ a b=>aW a λ _ a=>Cd a (Bi b .add 3 X i1 λ a=>g S a b) (g S X b))) (g S X L)))))/\(Bi E .lss 3 w i λ c=>aH E c (λ a b=>a A b) λ i S=>aH S c (λ a b=>a j b) λ j S=>aH S c (λ a b=>Bi b .lss 3 i j λ c=>a c b) λ i j=>Pk c i bf λ c=>Cd c (Ia j 251 f w λ c=>Ld j 369 c λ c=>bH j 369 c λ c i=>Ld i 369 c λ j=>Ia i 251 e A λ e=>Ld i 369 e λ e=>Cf i 433 #[j,e] λ e i=>Cd e (Ld i 369 c λ e=>Bd i 347 #[] λ f=>Mi i 347 f λ f=>Cf i 390 #[x,e,f] λ _ e=>Ld e 369 c λ f=>Cf e 432 #[H,f] λ e f=>aW e λ e _=>Ld f 369 c λ g=>Cf f 432 #[k,g] λ f g=>aW f λ f _=>Ld g 369 c λ c=>Cf g 434 #[a,b,c,e,f] λ a b=>aW a λ a c=>Ap b 323 c c λ _ b=>Lp (∃c:V1,(∀a b,c a b->(Bi b .add 3 w i1 λ c=>Bi b .add 3 A i1 λ e=>Ln b 637 v λ f=>bv b .gtr 3 f i0 (Ia b 637 v i0 λ f=>Ld b 638 f λ f=>Sl b 637 v (some i1) none none λ g=>(p a g f c e b/\W a g f c e b<W d v s w A G)) (p a v nilp c e b/\W a v nilp c e b<W d v s w A G)))/\(Eb b .neq 408 false true a nilp λ e=>Cd e (Nc a<|Ld b 20 a λ a=>Bs b 241 1 #[(0,a)] λ a b=>Ap b 241 d a λ a b=>c a b) (c d b)))) (Ld i 369 c λ a=>Cf i 432 #[k,a] λ a b=>aW a λ _ a=>aH b a (λ a b=>a s b) λ b c=>aH c a (λ a c=>Eb c .neq 638 false true b nilp λ b=>a b c) λ b c=>Pk a b bf λ a=>aH c a (λ a b=>a s b) λ b c=>aH c a (λ a c=>Nc b<|a b c) λ b c=>aH c a (λ a c=>Ld c 369 b λ b=>a b c) λ b c=>aH c a (λ a b=>a f b) λ c e=>aH e a (λ a b=>a w b) λ e f=>aH f a (λ a b=>Ia b 251 c e λ c=>a c b) λ c e=>aH e a (λ a b=>Ld b 369 c λ c=>a c b) λ c e=>aH e a (λ a d=>Cf d 433 #[b,c] λ b c=>a b c) λ b c=>aH c a (λ a c=>Nt c b λ b=>a b c) λ b c=>Pk a b bf λ a=>Cd a (Bi c .add 3 w i1 λ a=>(p d v s a A c/\W d v s a A c<W d v s w A G)) (g d v s w A c))) (g d v s w A j)))) (Lp (∃b:V0,(∀a,b a->(R g a))/\(Ln E 241 d λ c=>bv E .gtr 3 c i0 (Mi E 241 d λ c=>bH E 20 c λ c d=>bC d 411 a 7 408 c λ a=>b a) (b E))))))
def xf(a b c d e f g i j k H x v s w p W A G S:Value)(J E:Heap)(X:V5)(q:N5):Prop:=Lp (∃L:V2,(∀c e f,L c e f->(Bi f .lss 3 S g λ g=>Cd g (Ia f 251 d S λ d=>Ld f 369 d λ d=>bH f 369 d λ d f=>Ld f 369 d λ g=>Bd f 347 #[] λ p=>Mi f 347 p λ p=>Cf f 390 #[k,g,p] λ _ f=>Ld f 369 d λ g=>Cf f 432 #[j,g] λ f g=>aW f λ f _=>Ld g 369 d λ j=>Cf g 432 #[i,j] λ g i=>aW g λ g _=>Ld i 369 d λ j=>Cf i 434 #[a,b,j,f,g] λ a b=>aW a λ a f=>Ap b 323 f f λ _ b=>Lp (∃f:V1,(∀a b,f a b->(Bi b .add 3 S i1 λ c=>Eb b .neq 638 false true A nilp λ f=>aH b f (λ a b=>a A b) λ b g=>aH g f (λ a c=>Nc b<|a b c) λ b g=>aH g f (λ a c=>Ld c 369 b λ b=>a b c) λ b g=>aH g f (λ a b=>Ld b 369 d λ c=>a c b) λ d g=>aH g f (λ a c=>Cf c 433 #[b,d] λ b c=>a b c) λ b d=>Pk f b bf λ b=>Cd b (Ln d 637 W λ b=>bv d .gtr 3 b i0 (Ia d 637 W i0 λ b=>Ld d 638 b λ b=>Sl d 637 W (some i1) none none λ f=>(X a f b e c d/\q a f b e c d<q H x v s w E)) (X a W nilp e c d/\q a W nilp e c d<q H x v s w E)) (X a W A e c d/\q a W A e c d<q H x v s w E)))/\(Eb b .neq 408 false true a nilp λ d=>Cd d (Nc a<|Ld b 20 a λ a=>Bs b 241 1 #[(0,a)] λ a b=>Ap b 241 c a λ a b=>f a b) (f c b)))) (X c W A e S f/\q c W A e S f<q H x v s w E)))/\(Bi J .lss 3 G f λ d=>Cd d (Ia J 251 e G λ d=>Ld J 369 d λ d=>bH J 369 d λ d e=>Ld e 369 d λ f=>Cf e 432 #[i,f] λ e f=>aW e λ _ e=>cD f e (aM f 411 a 10 225 λ e=>Nc (.func (.method "AtUsing") #[c] #[])<|Iv f c "AtUsing" #[e,G] λ c e=>Ld e 369 d λ d=>Cf e 434 #[a,b,d,c,ni] λ a b=>aW a λ a c=>Ap b 323 c c λ _ b=>Lp (∃c:V1,(∀a b,c a b->(Bi b .add 3 G i1 λ c=>(X a W A c S b/\q a W A c S b<q H x v s w E)))/\(Eb b .neq 408 false true a nilp λ d=>Cd d (Nc a<|Ld b 20 a λ a=>Bs b 241 1 #[(0,a)] λ a b=>Ap b 241 p a λ a b=>c a b) (c p b)))) (Ld f 369 d λ a=>Cf f 389 #[k,a] λ a b=>aW a λ _ a=>Cd a (Bi b .add 3 G i1 λ a=>L p a b) (L p G b))) (L p G J)))
def k9(R:KV)(a b c d e f g i j k H x v s w p:Value)(W:Heap)(A:V5)(G:N5):Prop:=Bi W .lss 3 w g λ S=>Gd W S false (λ a b=>a p b) λ J E=>Gd E S false (λ a b=>a i b) λ E X=>Gd X S false (λ a b=>Bi b .lss 3 J E λ c=>a c b) λ J E=>Pk S bt J λ S=>Cd S (Lp (∃f:V5,(∀S J E X q L,f S J E X q L->(Lp (∃f:V2,(∀c e g,f c e g->(Bi g .lss 3 q i λ f=>Cd f (Ia g 251 d q λ d=>Ld g 369 d λ d=>bH g 369 d λ d f=>Ld f 369 d λ g=>Bd f 347 #[] λ i=>Mi f 347 i λ i=>Cf f 390 #[H,g,i] λ _ f=>Ld f 369 d λ g=>Cf f 432 #[k,g] λ f g=>aW f λ f _=>Ld g 369 d λ i=>Cf g 432 #[j,i] λ g i=>aW g λ g _=>Ld i 369 d λ j=>Cf i 434 #[a,b,j,f,g] λ a b=>aW a λ a f=>Ap b 323 f f λ _ b=>Lp (∃f:V1,(∀a b,f a b->(Bi b .add 3 q i1 λ c=>Eb b .neq 638 false true E nilp λ f=>aH b f (λ a b=>a E b) λ b g=>aH g f (λ a c=>Nc b<|a b c) λ b g=>aH g f (λ a c=>Ld c 369 b λ b=>a b c) λ b g=>aH g f (λ a b=>Ld b 369 d λ c=>a c b) λ d g=>aH g f (λ a c=>Cf c 433 #[b,d] λ b c=>a b c) λ b d=>Pk f b bf λ b=>Cd b (Ln d 637 J λ b=>bv d .gtr 3 b i0 (Ia d 637 J i0 λ b=>Ld d 638 b λ b=>Sl d 637 J (some i1) none none λ f=>(A a f b e c d/\G a f b e c d<G x v s w p W)) (A a J nilp e c d/\G a J nilp e c d<G x v s w p W)) (A a J E e c d/\G a J E e c d<G x v s w p W)))/\(Eb b .neq 408 false true a nilp λ d=>Cd d (Nc a<|Ld b 20 a λ a=>Bs b 241 1 #[(0,a)] λ a b=>Ap b 241 c a λ a b=>f a b) (f c b)))) (A c J E e q g/\G c J E e q g<G x v s w p W)))/\(Bi L .lss 3 X g λ d=>Cd d (Ia L 251 e X λ d=>Ld L 369 d λ d=>bH L 369 d λ d e=>Ld e 369 d λ g=>Cf e 432 #[j,g] λ e g=>aW e λ _ e=>cD g e (aM g 411 a 10 225 λ e=>Nc (.func (.method "AtUsing") #[c] #[])<|Iv g c "AtUsing" #[e,X] λ c e=>Ld e 369 d λ d=>Cf e 434 #[a,b,d,c,ni] λ a b=>aW a λ a c=>Ap b 323 c c λ _ b=>Lp (∃c:V1,(∀a b,c a b->(Bi b .add 3 X i1 λ c=>(A a J E c q b/\G a J E c q b<G x v s w p W)))/\(Eb b .neq 408 false true a nilp λ d=>Cd d (Nc a<|Ld b 20 a λ a=>Bs b 241 1 #[(0,a)] λ a b=>Ap b 241 S a λ a b=>c a b) (c S b)))) (Ld g 369 d λ a=>Cf g 389 #[H,a] λ a b=>aW a λ _ a=>Cd a (Bi b .add 3 X i1 λ a=>f S a b) (f S X b))) (f S X L)))))/\(Bi E .lss 3 w g λ c=>aH E c (λ a b=>a p b) λ g S=>aH S c (λ a b=>a i b) λ i S=>aH S c (λ a b=>Bi b .lss 3 g i λ c=>a c b) λ g i=>Pk c g bf λ c=>Cd c (Ia i 251 e w λ c=>Ld i 369 c λ c=>bH i 369 c λ c g=>Ld g 369 c λ i=>Ia g 251 d p λ d=>Ld g 369 d λ d=>Cf g 433 #[i,d] λ d g=>Cd d (Ld g 369 c λ d=>Bd g 347 #[] λ e=>Mi g 347 e λ e=>Cf g 390 #[H,d,e] λ _ d=>Ld d 369 c λ e=>Cf d 432 #[k,e] λ d e=>aW d λ d _=>Ld e 369 c λ f=>Cf e 432 #[j,f] λ e f=>aW e λ e _=>Ld f 369 c λ c=>Cf f 434 #[a,b,c,d,e] λ a b=>aW a λ a c=>Ap b 323 c c λ _ b=>Lp (∃c:V1,(∀a b,c a b->(Bi b .add 3 w i1 λ c=>Bi b .add 3 p i1 λ d=>Ln b 637 v λ e=>bv b .gtr 3 e i0 (Ia b 637 v i0 λ e=>Ld b 638 e λ e=>Sl b 637 v (some i1) none none λ f=>(A a f e c d b/\G a f e c d b<G x v s w p W)) (A a v nilp c d b/\G a v nilp c d b<G x v s w p W)))/\(Eb b .neq 408 false true a nilp λ d=>Cd d (Nc a<|Ld b 20 a λ a=>Bs b 241 1 #[(0,a)] λ a b=>Ap b 241 x a λ a b=>c a b) (c x b)))) (Ld g 369 c λ a=>Cf g 432 #[j,a] λ a b=>aW a λ _ a=>aH b a (λ a b=>a s b) λ b c=>aH c a (λ a c=>Eb c .neq 638 false true b nilp λ b=>a b c) λ b c=>Pk a b bf λ a=>aH c a (λ a b=>a s b) λ b c=>aH c a (λ a c=>Nc b<|a b c) λ b c=>aH c a (λ a c=>Ld c 369 b λ b=>a b c) λ b c=>aH c a (λ a b=>a e b) λ c d=>aH d a (λ a b=>a w b) λ d e=>aH e a (λ a b=>Ia b 251 c d λ c=>a c b) λ c d=>aH d a (λ a b=>Ld b 369 c λ c=>a c b) λ c d=>aH d a (λ a d=>Cf d 433 #[b,c] λ b c=>a b c) λ b c=>aH c a (λ a c=>Nt c b λ b=>a b c) λ b c=>Pk a b bf λ a=>Cd a (Bi c .add 3 w i1 λ a=>(A x v s a p c/\G x v s a p c<G x v s w p W)) (f x v s w p c))) (f x v s w p i)))) (Lp (∃b:V0,(∀a,b a->(R f a))/\(Ln E 241 x λ c=>bv E .gtr 3 c i0 (Mi E 241 x λ c=>bH E 20 c λ c d=>bC d 411 a 7 408 c λ a=>b a) (b E))))
theorem Dy{u:Bool}{k B:Prop}(y:u=true->k)(N:u=false->B):Cd (.bool u) k B:=by
 cases u
 ·refine rA ?_;exact N rfl
 ·refine rA ?_;exact y rfl
theorem wR(Z:aN I h):∃V,aD I h V (aO (aO (aO (aO (h.push (aV #[nilp,nilp,nilp,nilp] 369)) h.size 0 a) h.size 1 c) h.size 2 d) h.size 3 e)/\V h.size=aE #[a,c,d,e] 369:=by have z:aD I h I (aO (aO (aO (aO (h.push (aV #[nilp,nilp,nilp,nilp] 369)) h.size 0 a) h.size 1 c) h.size 2 d) h.size 3 e):=aP Z;exact⟨_,(z.one (b:=h.size) bu).1,aK.one_eq Bk⟩
def jK(w:MP)(V:aK)(L R:bn)(d f Z u C:Value)(B:Heap):Prop:=∃(i j:Nat)(o:bn)(y:aK),u=aR (i:Int)/\C=aR (j:Int)/\V.le y/\ML w y B d o (R.take j)/\gU y f/\ii y Z/\i<=L.length/\j<=R.length/\o.Nodup/\o.length<=i+j/\∀q,q∈o↔q∈R.take j\/(q∈L.take i/\q∉R)
def vU(L R:bn)(_ _ _ u C:Value)(_:Heap):Nat:=match u,C with|.int _ a,.int _ b=>(L.length-a.toNat)+(R.length-b.toNat)|_,_=>0
theorem gT{L:bn}:vU L z a b c (aR (m:Int)) (aR (n:Int)) h=(L.length-m)+(z.length-n):=rfl
theorem lM(G:z.Nodup)(d:m<z.length):z[m]∉z.take m:=by intro F;obtain⟨r,Y,C⟩:=List.getElem_of_mem F;rw[List.getElem_take]at C;rw[List.length_take]at Y;have:=(List.nodup_iff_pairwise_ne.1 G);exact(List.pairwise_iff_getElem.1 this) r m zaa d zaa C
theorem fu(d:m<z.length):z.take (m+1)=z.take m++[z[m]]:=List.take_succ_eq_append_getElem d
theorem jK.add{w:MP}{L:bn}(p:z.Nodup){i2:Nat}(K:n<z.length)(W:I.le J)(M:ML w J h a (y++[z[n]]) (z.take n++[z[n]]))(e:gU J b)(P:ii J c)(d:i2<=L.length)(A:m<=i2)(v:y.Nodup)(ln:y.length<=m+n)(s:∀q,q∈y↔q∈z.take n\/(q∈L.take m/\q∉z))(N:∀q,q∈L.take i2->q∉z->q∈L.take m):jK w I L z a b c (aR (i2:Int)) (aR ((n:Int)+1)) h:=by
 have w:=List.getElem_mem K;refine⟨i2,n+1,y++[z[n]],J,rfl,zab,W,by rw[fu K];exact M,e,P,d,K,?_,by simp;exact zaa,λ q=>?_⟩
 ·refine List.nodup_append.2 ⟨v,zab,λ B Y u j C=>?_⟩;have Z:u=z[n]:=bS j;have:B=z[n]:=C.trans Z;subst this;rcases(s _).1 Y with Q|⟨-,Q⟩
  ·exact lM p K Q
  ·exact Q w
 ·rw[List.mem_append,s,fu K,List.mem_append];constructor
  ·rintro((Q|⟨Q,T⟩)|Q)
   ·exact .inl (.inl Q)
   ·refine .inr ⟨?_,T⟩;obtain⟨r,Y,C⟩:=List.getElem_of_mem Q;rw[List.length_take]at Y;rw[List.getElem_take]at C;rw[<-C];exact List.mem_take_iff_getElem.2 ⟨r,zaa,rfl⟩
   ·exact .inl (.inr Q)
  ·rintro((Q|Q)|⟨Q,T⟩)
   ·exact .inl (.inl Q)
   ·exact .inr Q
   ·exact .inl (.inr ⟨N q Q T,T⟩)
theorem jK.skip{w:MP}{L:bn}(d:m<L.length)(K:n<=z.length)(W:I.le J)(M:ML w J h a y (z.take n))(e:gU J b)(P:ii J c)(v:y.Nodup)(ln:y.length<=m+n)(s:∀q,q∈y↔q∈z.take n\/(q∈L.take m/\q∉z))(B:L[m]∈z):jK w I L z a b c (aR ((m:Int)+1)) (aR (n:Int)) h:=by
 refine⟨m+1,n,y,J,zab,rfl,W,M,e,P,d,K,v,zaa,λ q=>?_⟩;rw[s,fu d,List.mem_append];constructor
 ·rintro(Q|⟨Q,T⟩)
  ·exact zcB
  ·exact .inr ⟨.inl Q,T⟩
 ·rintro(Q|⟨Q|Q,T⟩)
  ·exact zcB
  ·exact .inr ⟨Q,T⟩
  ·have:q=L[m]:=bS Q;exact absurd (this▸B) T
theorem jK.left{w:MP}{L:bn}(T:L.Nodup)(d:m<L.length)(K:n<=z.length)(W:I.le J)(M:ML w J h a (y++[L[m]]) (z.take n))(e:gU J b)(P:ii J c)(v:y.Nodup)(ln:y.length<=m+n)(s:∀q,q∈y↔q∈z.take n\/(q∈L.take m/\q∉z))(B:L[m]∉z):jK w I L z a b c (aR ((m:Int)+1)) (aR (n:Int)) h:=by
 refine⟨m+1,n,y++[L[m]],J,zab,rfl,W,M,e,P,d,K,?_,by simp;exact zaa,λ q=>?_⟩
 ·refine List.nodup_append.2 ⟨v,zab,λ X Y u j C=>?_⟩;have Z:u=L[m]:=bS j;have:X=L[m]:=C.trans Z;subst this;rcases(s _).1 Y with Q|⟨Q,-⟩
  ·exact B (List.mem_of_mem_take Q)
  ·exact lM T d Q
 ·rw[List.mem_append,s,fu d,List.mem_append];constructor
  ·rintro((Q|⟨Q,T⟩)|Q)
   ·exact zcB
   ·exact .inr ⟨.inl Q,T⟩
   ·exact .inr ⟨.inr Q,by have:q=L[m]:=bS Q;rw[this];exact B⟩
  ·rintro(Q|⟨Q|Q,T⟩)
   ·exact .inl (.inl Q)
   ·exact .inl (.inr ⟨Q,T⟩)
   ·exact .inr Q
theorem LR{w:MP}(ok:w.Ok)(Y:cO I A){L:bn}(F:MG I m L)(W:MG I n z)(hl:fF I a L)(P:ck I b (L.map El.val))(E:ck I c (z.map El.val))(dL:L.Nodup)(u:z.Nodup)(x:L.length<1000000)(C:z.length<1000000){s0 n0:Value}(Z:I.le J)(M:ML w J h d y (z.take l))(O:gU J e)(X:ii J f)(hi:o<=L.length)(hj:l<=z.length)(nd:y.Nodup)(ln:y.length<=o+l)(s:∀q,q∈y↔q∈z.take l\/(q∈L.take o/\q∉z))(a0:o<L.length\/l<z.length):xf (aB w.w) (.pointer (some A)) a c b (aR L.length) (aR z.length) (aB n) (aB m) (aB w.mb) g s0 n0 (aR (o:Int)) (aR (l:Int)) d e f (aR (o:Int)) (aR (l:Int)) h H (jK w I L z) (vU L z):=by
 obtain⟨m,B,rfl,-,-⟩:=P.slice;obtain⟨N,b,rfl,-,-⟩:=E.slice;have a:(L.map El.val).length=L.length:=zab;have B:(z.map El.val).length=z.length:=zab;have K:=M.sat;have S:=E.mono Z;have n:(z.take l).length<=2147483645:=by rw[List.length_take];exact zaa
 unfold xf;refine⟨λ h B N=>h=d/\∃i2:Nat,B=aR (i2:Int)/\o<=i2/\i2<=L.length/\(∀q,q∈L.take i2->q∉z->q∈L.take o)/\(¬l<z.length->o<i2)/\∃v,I.le v/\ML w v N d y (z.take l)/\gU v e/\ii v f,?_,?_⟩
 ·rintro h B N⟨w,i2,G,A,m,b,B,v,p,e,d,f⟩;rw[w,G];refine Ox ok e (Y.mono p) (F.mono p) (W.mono p) (E.mono p) zaa zaa n d f (λ D=>⟨⟨i2,l,y,v,rfl,rfl,p,e,d,f,m,hj,nd,zaa,λ q=>?_⟩,?_⟩) λ i f R T d h9 j U c F=>⟨jK.add u i (p.trans j) U c F m A nd ln s b,?_⟩
  ·rw[s];constructor
   ·rintro(Q|⟨Q,T⟩)
    ·exact zcB
    ·refine .inr ⟨?_,T⟩;obtain⟨r,i,C⟩:=List.mem_take_iff_getElem.1 Q;exact List.mem_take_iff_getElem.2 ⟨r,zaa,C⟩
   ·rintro(Q|⟨Q,T⟩)
    ·exact zcB
    ·exact .inr ⟨b q Q T,T⟩
  ·rw[gT,gT];have:=B D;exact zaa
  ·rw[show((l:Int)+1)=((l+1:Nat):Int)from zab,gT,gT];exact zaa
 ·refine(Decidable.em (o<L.length)).elim (λ H=>?_) λ H=>?_
  ·have t:decide ((o:Int)<(L.length:Int))=true:=by simp;exact zaa
   refine(P.mono Z).rowK (o:=o) (bS H) λ u h F p R b G C V=>?_;rw[List.getElem_map]at C;have g:=V K;have v:=C.one;have x:=v F zab;have i:=v p zab;have y:=v R zab;have I:=v b zab;refine(wR K (a:=F) (c:=p) (d:=R) (e:=b)).elim λ w K=>?_;have S:=K.1.le;have c:=K.1.sat;have V:=M.pur K.1;have e:=K.2;try simp(disch:=omega)only[go_sem,↓reduceIte,t,G,a,g.1,g.2.1,g.2.2.1,g.2.2.2,x,i,y,I]
   refine MG.get (tv:=[F,p,R,b]) c ((W.mono Z).mono S) (C.mono S) λ y u N P _ _ I=>?_;have W:=P.sat;have x:=V.pur P;have r:=Z.trans (S.trans P.le);have m:=P.le _ _ e;refine(Classical.em (L[o]∈z)).elim (λ B=>?_) λ B=>?_
   ·have A:u=true:=I.2 B;refine rC (W _ _ m).c A ?_;refine ML.get (per:=[F,p,R,b]) x ((C.mono S).mono P.le) n λ e c K b r n=>?_;have v:=(S.trans P.le).trans r.le;refine(Classical.em (L[o]∈z.take l)).elim (λ R=>?_) λ R=>?_
    ·have V:c=true:=n.2 R;refine rB V ?_;refine⟨o+1,zab,zaa,H,λ q Q T=>?_,λ _=>zaa,w,Z.trans S,?_,O.mono S,X.mono S⟩
     ·rw[fu H,List.mem_append]at Q;rcases Q with Q|Q
      ·exact Q
      ·have:q=L[o]:=bS Q;exact absurd (this▸B) T
     ·exact b
    ·have V:c=false:=by
      cases c
      ·rfl
      ·exact absurd (n.1 rfl) R
     refine rB V ?_;refine⟨o,rfl,zaa,zaa,λ q Q _=>Q,λ D=>absurd (?_:L[o]∈z.take l) R,w,Z.trans S,b,O.mono S,X.mono S⟩;rw[List.take_of_length_le zaa];exact B
   ·have A:u=false:=by
     cases u
     ·rfl
     ·exact absurd (I.1 rfl) B
    refine hl.elim (λ F=>by have:=F.2;simp[this]at H) λ F=>F.elim λ q p=>?_;have I:=p.2.mono (Z.trans S);refine x.bw.elim λ i n=>?_;have h:=p.1;refine rD n.c A h ?_;refine qZ W I H λ v F K r E=>?_;have W:=r.le;refine NA ok (x.pur r) (((Y.mono Z).mono S).mono W) E zaa (W _ _ m) ((C.mono S).mono W) zaa λ f d h9 j U=>⟨jK.left dL H hj (((Z.trans S).trans W).trans j) U (((O.mono S).mono W).mono j) (((X.mono S).mono W).mono j) nd ln s B,?_⟩;rw[show((o:Int)+1)=((o+1:Nat):Int)from zab,gT,gT];exact zaa
  ·have t:decide ((o:Int)<(L.length:Int))=false:=by simp;exact zaa
   refine rB t ?_;exact⟨o,rfl,zaa,hi,λ q Q _=>Q,λ D=>absurd (a0.resolve_left H) D,J,Z,M,O,X⟩
def tb(w:MP)(v:Value)(T:KV)(d:Value)(U:Heap):Prop:=Ln U 241 d λ a=>Bi U .gtr 3 a i0 λ b=>Cd b (Mi U 241 d λ c=>Al U 20 λ i e=>Sr e 20 i c λ h=>Nc (aB w.w)<|Fa h 411 (aB w.w) 7 λ f=>Sr h 408 f i λ g=>T v g) (T v U)
theorem Jq{w:MP}(F:w.Ok)(Y:cO I A){L:bn}(G:MG I m L)(X:MG I n z)(W:fF I a L)(t:ck I b (L.map El.val))(E:ck I c (z.map El.val))(T:L.Nodup)(Q:z.Nodup)(x:L.length<1000000)(i:z.length<1000000)(Z:I.le J)(M:ML w J h d y (z.take l))(a0:gU J e)(a1:ii J f)(O:o<=L.length)(hj:l<=z.length)(nd:y.Nodup)(ln:y.length<=o+l)(a2:∀q,q∈y↔q∈z.take l\/(q∈L.take o/\q∉z))(hK:o=L.length->l=z.length->tb w g R d h):k9 R (aB w.w) (.pointer (some A)) a c b g (aR L.length) (aR z.length) (aB n) (aB m) (aB w.mb) d e f (aR (o:Int)) (aR (l:Int)) h (jK w I L z) (vU L z):=by
 have a3:(o<L.length\/l<z.length)->∀s S v B u N,(s=d/\S=e/\v=f/\B=aR (o:Int)/\u=aR (l:Int)/\∃K,J.le K/\ML w K N d y (z.take l))->xf (aB w.w) (.pointer (some A)) a c b (aR L.length) (aR z.length) (aB n) (aB m) (aB w.mb) d e f (aR (o:Int)) (aR (l:Int)) s S v B u N h (jK w I L z) (vU L z):=by rintro d s S v B u N⟨rfl,rfl,rfl,rfl,rfl,K,p,e⟩;exact LR F Y G X W t E T Q x i (Z.trans p) e (a0.mono p) (a1.mono p) O hj nd ln a2 d
 obtain⟨y,B,rfl,-,-⟩:=t.slice;obtain⟨f,b,rfl,-,-⟩:=E.slice;have a:(L.map El.val).length=L.length:=zab;have w:(z.map El.val).length=z.length:=zab;have U:=M.sat;have h:=Y.mono Z;have i:=G.mono Z;have f:=X.mono Z;have W:=t.mono Z;have S:=E.mono Z;have n:(z.take l).length<=2147483645:=by rw[List.length_take];exact zaa
 by_cases H:o<L.length
 ·have t:decide ((o:Int)<(L.length:Int))=true:=by simp;exact zaa
  by_cases D:l<z.length
  ·have V:decide ((l:Int)<(z.length:Int))=true:=by simp;exact zaa
   refine W.rowK (o:=o) (bS H) λ u s I b O d G C p=>?_;refine S.rowK (o:=l) (bS D) λ c B A T W j B E r=>?_;rw[List.getElem_map]at C E;have s:=p U;have v:=C.one;have x:=v I zab;have c:=v b zab;have y:=v O zab;have m:=v d zab;obtain⟨J1,K⟩:=wR U (a:=I) (c:=b) (d:=O) (e:=d);have S:=K.1.le;have P:=K.1.sat;have v:=M.pur K.1;have U:=K.2;have S17:aN J _:=λ u X e=>P u X (S u X e);have Y:=r S17;have a4:=C.mono S;have r:=E.mono S;unfold k9;refine rC t V ?_;refine⟨_,a3 (.inl H),?_⟩;try simp(disch:=omega)only[go_sem,↓reduceIte,t,V,G,B,a,w,s.1,s.2.1,s.2.2.1,s.2.2.2,x,c,y,m,Y.1,Y.2.1,Y.2.2.1,Y.2.2.2]
   refine kN (x:=[I,b,O,d]) (w:=[A,T,W,j]) P a4 r λ N P=>?_;have W:=P.sat;have x:=v.pur P;have v:=P.le _ _ U;have T:=S.trans P.le;refine Dy (λ m=>?_) λ m=>?_
   ·have C:L[o]=z[l]:=of_decide_eq_true m;refine MJ F x (h.mono T) (i.mono T) (f.mono T) v (a4.mono P.le) (List.getElem_mem H) zaa n (a0.mono T) zaa zaa λ Y h Y Y B j U c F=>⟨?_,?_⟩
    ·rw[C]at U;rw[show((o:Int)+1)=((o+1:Nat):Int)from zab];exact jK.add Q D ((Z.trans T).trans j) U c F H zaa nd ln a2 λ q Q w=>by
      rw[fu H,List.mem_append]at Q;rcases Q with Q|Q
      ·exact Q
      ·have:q=L[o]:=bS Q;exact absurd (List.getElem_mem D) (C▸this▸w)
    ·rw[show((o:Int)+1)=((o+1:Nat):Int)from zab,show((l:Int)+1)=((l+1:Nat):Int)from zab,gT,gT];exact zaa
   ·refine rB (W _ _ v).c ?_;refine MG.get (tv:=[I,b,O,d]) W (f.mono T) (a4.mono P.le) λ v u K r _ _ j=>?_;have i:=r.sat;have K:=x.pur r;have S37:aN J _:=λ u X e=>i u X (T u X e);have r:=p S37;refine(Bool.eq_false_or_eq_true u).elim (λ f=>?_) λ f=>?_
    ·refine a1.elim (λ m=>?_) λ F=>?_
     ·refine rC f m ?_;exact⟨J1,S,K⟩
     ·have B:=F.mono S;refine Exists.elim B λ p W=>W.elim λ s W=>W.elim λ F W=>W.elim λ Y W=>W.elim λ E W=>W.elim λ e W=>W.elim λ p W=>?_;have m:=W.1;have v:=i.cell W.2.2.1;have w:=i.cell W.2.2.2.1;have A:=i.cell W.2.2.2.2.1;have c:=i.cell W.2.2.2.2.2;try simp(disch:=omega)only[go_sem,↓reduceIte,f,m,v,w,A,c,t,G,a,r.1,r.2.1,r.2.2.1,r.2.2.2]
      refine kN (x:=[Y,E,e,p]) (w:=[I,b,O,d]) i W.2.1 a4 λ s q=>?_;have b:=K.pur q;refine(Classical.em (F=L[o])).elim (λ Q=>?_) λ Q=>?_
      ·refine rB Q ?_;exact⟨J1,S,b⟩
      ·have C:decide (F=L[o])=false:=decide_eq_false Q;refine rB C ?_;refine⟨jK.skip H hj (Z.trans S) b (a0.mono S) (.inr B) nd ln a2 (j.1 f),?_⟩;rw[show((o:Int)+1)=((o+1:Nat):Int)from zab,gT,gT];exact zaa
    ·refine rB f ?_;exact⟨J1,S,K⟩
  ·have V:decide ((l:Int)<(z.length:Int))=false:=by simp;exact zaa
   unfold k9;refine rC t V ?_;refine⟨_,a3 (.inl H),?_⟩;refine rC t V ?_;exact⟨J,aK.le.refl _,M⟩
 ·have t:decide ((o:Int)<(L.length:Int))=false:=by simp;exact zaa
  by_cases D:l<z.length
  ·have V:decide ((l:Int)<(z.length:Int))=true:=by simp;exact zaa
   unfold k9;refine rC t V ?_;refine⟨_,a3 (.inr D),?_⟩;refine rC t V ?_;exact⟨J,aK.le.refl _,M⟩
  ·have V:decide ((l:Int)<(z.length:Int))=false:=by simp;exact zaa
   have n:=hK zaa zaa;unfold tb at n;unfold k9;refine rC t V ?_;refine⟨λ U=>R g U,λ _ W=>W,?_⟩;exact n
theorem LH{w:MP}(P:w.Ok)(G:ML w I h a [] [])(Y:cO I A){L:bn}(N:MG I m L)(H:MG I n z)(J:fF I b L)(t:ck I c (L.map El.val))(W:ck I d (z.map El.val))(T:L.Nodup)(p:z.Nodup)(x:L.length<1000000)(S:z.length<1000000)(k:gU I e)(r:ii I f)(Q:∀F o E U,I.le E->ML w E U F o z->o.Nodup->o.length<=L.length+z.length->(∀q,q∈o↔q∈z\/(q∈L/\q∉z))->tb w g R F U):w6 R (aB w.w) (.pointer (some A)) b a d c g (aR L.length) (aR z.length) (aB n) (aB m) (aB w.mb) e f h:=by unfold w6;refine⟨jK w I L z,vU L z,⟨0,0,[],I,rfl,rfl,aK.le.refl _,G,k,r,zaa,zaa,zab,zab,zab⟩,?_⟩;rintro F e f u C B⟨M,D,o,y,i,j,Z,M,O,X,E,K,v,ln,s⟩;show k9 R (aB w.w) (.pointer (some A)) b d c g (aR L.length) (aR z.length) (aB n) (aB m) (aB w.mb) F e f u C B (jK w I L z) (vU L z);subst i;subst j;refine Jq P Y N H J t W T p x S Z M O X E K v ln s λ ei g=>?_;rw[List.take_of_length_le (l:=z) zaa]at M;refine Q F o y B Z M v zaa λ q=>?_;rw[s,List.take_of_length_le (l:=z) zaa,List.take_of_length_le (l:=L) zaa]
theorem Gr{w:MP}(l:w.Ok)(M:ML w I h a z y)(G:w.I0 w.w=none)(e:z≠[])(n:z.length<=2147483647)(Q:∀O J X i y E U,aC (λ k=>k=w.w\/k∈aY w.sb w.x0 w.pv0 w.ws0) w.I0 w.h0 E U->E O=aE #[J] 20->er E J z->blk U w.w=some (w.cell i (aB O))->MT 411 647 407 16 w.base E U w.w w.sb X i y 1 w.rows->(y=[]\/∃S,y=[S])->(∀k∈aY w.sb X i y,k∈aY w.sb w.x0 w.pv0 w.ws0\/w.h0.size<=k)->R c U):tb w c R a h:=by
 obtain⟨X,i,y,T,s,B⟩:=M;have Z:=B.st.sat;have f:=B.st.size;have C:=l.wz;have R:=B.mt.lts;have A:=B.ou.frz B.st bu n (by simp;exact λ _ _=>rfl);obtain⟨r,s,q⟩:=A;have x:=q;have C:I w.w=none:=B.mt.wI;have u:=λ P c=>(B.ou.1.block (t:=P) c);have L:MT 411 647 407 16 w.base (I.own a h) h w.w w.sb X i y 1 w.rows:=by
  refine B.mt.step (D:=λ k=>k∈a.bl) ⟨Nat.le_refl _,λ _ _ _=>rfl,λ k Y G=>?_,s,r.sat⟩ zaa (λ F=>?_) λ k Y F=>(B.d1 k Y).2 F
  ·unfold aK.own aK.add;rw[if_neg (λ F=>G (mem_bl.2 (of_decide_eq_true F)))]
  ·have:=(u _ (mem_bl.1 F)).1;exact zaa
 obtain⟨F,V,rfl,t,f,H,M,K⟩:=q;have E:0<z.length:=List.length_pos_iff.2 e;have t:decide ((z.length:Int)>0)=true:=by simp;exact zaa
 have j:=B.bw;unfold tb;generalize(I.own (Value.slice F z.length V) h)=e at*;have m:aD e h e (aO (h.push (aV #[ni] 20)) h.size 0 (.iface 241 (.slice F z.length V))):=by have I:=r.sat;exact aP I
 have K:=m.one (b:=h.size) bu;have n:=L.step K.1 zaa id λ _ _=>id;have N:(e.one h.size (aO (h.push (aV #[ni] 20)) h.size 0 (.iface 241 (.slice F z.length V)))) h.size=aE #[.iface 241 (.slice F z.length V)] 20:=aK.one_eq Bk;have T:=r.trans' K.1 (λ _ _=>False.elim);have d:=n.wI;have s:=aC.put (o:=12) (v:=aB h.size) T (.inr (.inl rfl)) d;have W:w.w∉aY w.sb X i y:=B.mt.wn;have m:=K.1.blk j id;have p:MT 411 647 407 16 w.base (e.one h.size (aO (h.push (aV #[ni] 20)) h.size 0 (.iface 241 (.slice F z.length V)))) (aO (aO (h.push (aV #[ni] 20)) h.size 0 (.iface 241 (.slice F z.length V))) w.w 12 (aB h.size)) w.w w.sb X i y 1 w.rows:=⟨n.sp.step (D:=Eq w.w) (aC.put (o:=12) (v:=aB h.size) (aC.refl K.1.sat) (.inr rfl) d) (λ C=>W (C▸eu)) (λ P c C=>W (C▸eZ (mem_bl.2 c))) (λ S O C=>W (C▸gx O)),n.po.step (D:=Eq w.w) (aC.put (o:=12) (v:=aB h.size) (aC.refl K.1.sat) (.inr rfl) d) (λ P c C=>W (C▸eU (mem_bl.2 c))),n.nd,d⟩;refine rC j.b t ?_;exact Q h.size (.iface 241 (.slice F z.length V)) X i y _ _ s N ⟨_,rfl,x.mono K.2⟩ (bz m) p B.wl B.nw
theorem fE.one{H:et}(B:fE I a H):aG a=true:=by obtain⟨g,-,A,-⟩:=B;exact A.one
theorem mz.one(B:mz I a):aG a=true:=by obtain⟨b,s,A,u,q,O,J,rfl,-⟩:=B;rfl
theorem EQ(Z:aN I h){g:et}(w:fE I a g)(f:dq (g.map Prod.fst))(ep:k8 I g z):∃V,aD I h V (aO (h.push (aV #[n0] 634)) h.size 0 a)/\MG V h.size z:=by have z:aD I h I (aO (h.push (aV #[n0] 634)) h.size 0 a):=aP Z;have K:=z.one (b:=h.size) bu;exact⟨_,K.1,a,g,aK.one_eq Bk,w.mono K.2,f,ep.mono K.2⟩
theorem ck.ptE(R:ck I a (z.map El.val))(d:m<z.length){M:Prop}(T:∀b s u q O J V,a=bq b s (z.map El.val).length V->bM I [u,q,O,J] (.val z[m])->(∀{h:Heap},aN I h->aI h b (s+m*4)=some u/\aI h b (s+m*4+1)=some q/\aI h b (s+m*4+2)=some O/\aI h b (s+m*4+3)=some J)->mz I (cY b (s+m*4))->M):M:=by
 have U:(z.map El.val).length=z.length:=zab;obtain⟨B,V,rfl,-,-⟩:=R.slice;obtain⟨g,N,⟨x,H,C,t,-,D,-,k⟩,Q⟩:=R;cases C;obtain⟨b,s,rfl,r⟩:=k zaa;have f:m<g.length:=zaa;have o:∀X∈g,X.length=4:=by intro X i;obtain⟨p,P,rfl⟩:=List.getElem_of_mem i;exact(Q p zaa P).1
 have e:=Q m zaa f;rw[List.getElem_map]at e;have S:∀D,D<4->g.flatten[m*4+D]?=g[m][D]?:=λ D K=>eD g o m D f K;generalize g[m]=w at e S;obtain⟨u,q,O,J,rfl⟩:=cL e.1;have c:=r (m*4+0) u (by rw[S 0 zaa];rfl);have j:=r (m*4+1) q (by rw[S 1 zaa];rfl);have x:=r (m*4+2) O (by rw[S 2 zaa];rfl);have E:=r (m*4+3) J (by rw[S 3 zaa];rfl);rw[<-Nat.add_assoc]at j x E;exact T b s u q O J V rfl e (λ Z=>⟨Z.cell c,Z.cell j,Z.cell x,Z.cell E⟩) ⟨b,s+m*4,z[m],u,q,O,J,rfl,e,c,j,x,E⟩
structure rq(J:aK)(h0 h:Heap)(so:Value)(n:Nat)(ps:bW):Prop where
 st:aD J h0 J h
 ow:aQ h0.size J h 638 1 so n ps
 pt:∀q∈ps,mz J q
theorem rq.pur{U:Heap}(B:rq I h H a m x)(G:aD I H I U):rq I h U a m x:=⟨B.st.trans G,B.ow.step G λ _ _=>id,B.pt⟩
theorem rq.add(B:rq J h H a v x)(P:mz J b)(u:v<=2147483646)(Q:∀i U,rq J h U i (v+1) (x++[b])->R i U):Ap (H.push (aV #[b] 638)) 637 a (bq H.size 0 1 1) R:=by
 have Z:=B.st.sat;have L:=B.st.size;refine bY tG rfl zaa zaa (H:=#[b]) (v:=v) (c:=x) (u:=h.size) (T:=J) Bk (B.ow.push _) ((aC.refl (D:=none_) Z).push _).sat rfl (bS P.one) zaa (by(try simp only[bJ]);exact zaa) λ s k C M E oW=>?_;have S:aC (λ r=>r∈a.bl) J H J k:=aC.touch ((aC.refl (D:=λ r=>r∈a.bl) Z).push _) M λ y z=>⟨.inr (mem_bl.2 z),B.ow.2 y z⟩;refine Q s k ⟨B.st.trans' S λ r Y F=>?_,bS C,λ o d=>?_⟩
 ·have:=(B.ow.lt F).1;exact zaa
 ·rcases List.mem_append.1 d with Q|Q
  ·exact B.pt o Q
  ·have:o=b:=bS Q;exact this▸P
def wJ(R:KV)(a b c d e f g i j k H:Value)(x:Heap):Prop:=Lp (∃(v:V2)(s:N2),v i i0 x/\∀i x w,v i x w->(Bi w .lss 3 x j λ j=>Cd j (Lp (∃a:V1,(∀b c,a b c->(Bi c .add 3 x i1 λ a=>(v b a c/\s b a c<s i x w)))/\(Ia w 251 e x λ b=>Nc b<|Ld w 369 b λ c=>Cf w 432 #[H,c] λ c d=>aW c λ _ c=>Cd c (Bs d 637 1 #[(0,b)] λ b c=>Ap c 637 i b λ b c=>a b c) (a i d)))) (Lp (∃j:V2,(∀i x v,j i x v->(Ln v 251 e λ j=>Cf v 388 #[j] λ j v=>bH v 607 j λ j v=>Ln v 251 f λ s=>Ln v 251 e λ w=>Lp (∃(p:V5)(W:N5),p d i x i0 i0 v/\∀d i x v A G,p d i x v A G->(Bi G .lss 3 v s λ S=>Gd G S false (λ a b=>a A b) λ J E=>Gd E S false (λ a b=>a w b) λ E X=>Gd X S false (λ a b=>Bi b .lss 3 J E λ c=>a c b) λ J E=>Pk S bt J λ S=>Cd S (Lp (∃g:V5,(∀S J E X q L,g S J E X q L->(Lp (∃g:V2,(∀c f s,g c f s->(Bi s .lss 3 q w λ g=>Cd g (Ia s 251 e q λ e=>Ld s 369 e λ e=>bH s 369 e λ e g=>Ld g 369 e λ s=>Bd g 347 #[] λ w=>Mi g 347 w λ w=>Cf g 390 #[j,s,w] λ _ g=>Ld g 369 e λ j=>Cf g 432 #[H,j] λ g j=>aW g λ g _=>Ld j 369 e λ H=>Cf j 432 #[k,H] λ j k=>aW j λ j _=>Ld k 369 e λ H=>Cf k 434 #[a,b,H,g,j] λ a b=>aW a λ a g=>Ap b 323 g g λ _ b=>Lp (∃g:V1,(∀a b,g a b->(Bi b .add 3 q i1 λ c=>Eb b .neq 638 false true E nilp λ g=>aH b g (λ a b=>a E b) λ b j=>aH j g (λ a c=>Nc b<|a b c) λ b j=>aH j g (λ a c=>Ld c 369 b λ b=>a b c) λ b j=>aH j g (λ a b=>Ld b 369 e λ c=>a c b) λ e j=>aH j g (λ a c=>Cf c 433 #[b,e] λ b c=>a b c) λ b e=>Pk g b bf λ b=>Cd b (Ln e 637 J λ b=>bv e .gtr 3 b i0 (Ia e 637 J i0 λ b=>Ld e 638 b λ b=>Sl e 637 J (some i1) none none λ g=>(p a g b f c e/\W a g b f c e<W d i x v A G)) (p a J nilp f c e/\W a J nilp f c e<W d i x v A G)) (p a J E f c e/\W a J E f c e<W d i x v A G)))/\(Eb b .neq 408 false true a nilp λ d=>Cd d (Nc a<|Ld b 20 a λ a=>Bs b 241 1 #[(0,a)] λ a b=>Ap b 241 c a λ a b=>g a b) (g c b)))) (p c J E f q s/\W c J E f q s<W d i x v A G)))/\(Bi L .lss 3 X s λ e=>Cd e (Ia L 251 f X λ e=>Ld L 369 e λ e=>bH L 369 e λ e f=>Ld f 369 e λ H=>Cf f 432 #[k,H] λ f k=>aW f λ _ f=>cD k f (aM k 411 a 10 225 λ f=>Nc (.func (.method "AtUsing") #[c] #[])<|Iv k c "AtUsing" #[f,X] λ c f=>Ld f 369 e λ e=>Cf f 434 #[a,b,e,c,ni] λ a b=>aW a λ a c=>Ap b 323 c c λ _ b=>Lp (∃c:V1,(∀a b,c a b->(Bi b .add 3 X i1 λ c=>(p a J E c q b/\W a J E c q b<W d i x v A G)))/\(Eb b .neq 408 false true a nilp λ d=>Cd d (Nc a<|Ld b 20 a λ a=>Bs b 241 1 #[(0,a)] λ a b=>Ap b 241 S a λ a b=>c a b) (c S b)))) (Ld k 369 e λ a=>Cf k 389 #[j,a] λ a b=>aW a λ _ a=>Cd a (Bi b .add 3 X i1 λ a=>g S a b) (g S X b))) (g S X L)))))/\(Bi E .lss 3 v s λ c=>aH E c (λ a b=>a A b) λ s S=>aH S c (λ a b=>a w b) λ w S=>aH S c (λ a b=>Bi b .lss 3 s w λ c=>a c b) λ s w=>Pk c s bf λ c=>Cd c (Ia w 251 f v λ c=>Ld w 369 c λ c=>bH w 369 c λ c s=>Ld s 369 c λ w=>Ia s 251 e A λ e=>Ld s 369 e λ e=>Cf s 433 #[w,e] λ e s=>Cd e (Ld s 369 c λ e=>Bd s 347 #[] λ f=>Mi s 347 f λ f=>Cf s 390 #[j,e,f] λ _ e=>Ld e 369 c λ f=>Cf e 432 #[H,f] λ e f=>aW e λ e _=>Ld f 369 c λ g=>Cf f 432 #[k,g] λ f g=>aW f λ f _=>Ld g 369 c λ c=>Cf g 434 #[a,b,c,e,f] λ a b=>aW a λ a c=>Ap b 323 c c λ _ b=>Lp (∃c:V1,(∀a b,c a b->(Bi b .add 3 v i1 λ c=>Bi b .add 3 A i1 λ e=>Ln b 637 i λ f=>bv b .gtr 3 f i0 (Ia b 637 i i0 λ f=>Ld b 638 f λ f=>Sl b 637 i (some i1) none none λ g=>(p a g f c e b/\W a g f c e b<W d i x v A G)) (p a i nilp c e b/\W a i nilp c e b<W d i x v A G)))/\(Eb b .neq 408 false true a nilp λ e=>Cd e (Nc a<|Ld b 20 a λ a=>Bs b 241 1 #[(0,a)] λ a b=>Ap b 241 d a λ a b=>c a b) (c d b)))) (Ld s 369 c λ a=>Cf s 432 #[k,a] λ a b=>aW a λ _ a=>aH b a (λ a b=>a x b) λ b c=>aH c a (λ a c=>Eb c .neq 638 false true b nilp λ b=>a b c) λ b c=>Pk a b bf λ a=>aH c a (λ a b=>a x b) λ b c=>aH c a (λ a c=>Nc b<|a b c) λ b c=>aH c a (λ a c=>Ld c 369 b λ b=>a b c) λ b c=>aH c a (λ a b=>a f b) λ c e=>aH e a (λ a b=>a v b) λ e f=>aH f a (λ a b=>Ia b 251 c e λ c=>a c b) λ c e=>aH e a (λ a b=>Ld b 369 c λ c=>a c b) λ c e=>aH e a (λ a d=>Cf d 433 #[b,c] λ b c=>a b c) λ b c=>aH c a (λ a c=>Nt c b λ b=>a b c) λ b c=>Pk a b bf λ a=>Cd a (Bi c .add 3 v i1 λ a=>(p d i x a A c/\W d i x a A c<W d i x v A G)) (g d i x v A c))) (g d i x v A w)))) (Lp (∃b:V0,(∀a,b a->(R g a))/\(Ln E 241 d λ c=>bv E .gtr 3 c i0 (Mi E 241 d λ c=>bH E 20 c λ c d=>bC d 411 a 7 408 c λ a=>b a) (b E))))))))/\(Ln w 637 i λ a=>bv w .gtr 3 a i0 (Ia w 637 i i0 λ a=>Ld w 638 a λ a=>Sl w 637 i (some i1) none none λ b=>j b a w) (j i nilp w))))))
theorem LG(s:aD I h I H)(Y:cO I A){L:bn}(r:MG I n L)(S:MG I o z)(U:fF I b L)(l:ck I c (L.map El.val))(W:ck I d (z.map El.val))(G:L.Nodup)(p:z.Nodup)(x:L.length<1000000)(g:z.length<1000000)(k:aQ h.size I H 638 1 e 0 []){T:KV}(Q:∀R Z E U X,I.le E->h.size<=U.size->aD I h E U->aQ h.size E U 619 5 X 0 []->gU E R->ii E Z->aN E U->w6 T (aB m) (.pointer (some A)) b a d c f (aR L.length) (aR z.length) (aB o) (aB n) (aB U.size) R Z (aO (U.push (aV #[n0] 607)) U.size 0 X)):wJ T (aB m) (.pointer (some A)) b a d c f e (aR z.length) (aB o) (aB n) H:=by
 have w:(z.map El.val).length=z.length:=zab;unfold wJ;refine⟨λ e J y=>∃(M v:Nat)(D:bW),J=aR (M:Int)/\M<=z.length/\v<=M/\rq I h y e v D,λ _ J _=>match J with|.int _ B=>z.length-B.toNat|_=>0,⟨0,0,[],rfl,zaa,zaa,s,k,zab⟩,?_⟩;rintro j J y⟨M,v,D,ev,d,O,s⟩;have A:=s.st.sat;refine(Decidable.em (M<z.length)).elim (λ q=>?_) λ q=>?_
 ·have t:decide ((M:Int)<(z.length:Int))=true:=by simp;exact zaa
  refine W.ptE q λ u N b q O J V G c k i=>?_;have g:=k A;try simp(disch:=omega)only[go_sem,↓reduceIte,ev,t]
  refine⟨λ C N=>∃x V,x<=M+1/\rq I h N C x V,λ C N F=>?_,?_⟩
  ·refine F.elim λ x F=>F.elim λ V F=>?_;try simp(disch:=omega)only[go_sem,↓reduceIte,ev]
   exact⟨⟨M+1,x,V,zab,zaa,F.1,F.2⟩,zaa⟩
  ·try simp(disch:=omega)only[go_sem,↓reduceIte,ev,G,w,g.1,g.2.1,g.2.2.1,g.2.2.2]
   refine MG.get (tv:=[b,q,O,J]) A r c λ e c N P _ _ h=>?_;have G:=s.pur P;refine(Bool.eq_false_or_eq_true c).elim (λ A=>?_) λ A=>?_
   ·refine rB A ?_;exact G.add i zaa λ R U o=>⟨v+1,_,zaa,o⟩
   ·refine rB A ?_;exact⟨v,D,zaa,G⟩
 ·have t:decide ((M:Int)<(z.length:Int))=false:=by simp;exact zaa
  refine(s.ow.frz s.st bu zaa λ S O=>(s.pt S O).one).elim λ f i=>?_;have x:gU (I.own j y) j:=⟨v,D,i.2,λ p P=>(s.pt p P).mono i.1⟩;try simp(disch:=omega)only[go_sem,↓reduceIte,ev,t]
  refine⟨λ C Z N=>∃k,aD I h k N/\gU k C/\ii k Z,λ C Z N F=>?_,?_⟩
  ·refine F.elim λ k F=>?_;have d:=F.1.sat;refine W.slice.elim λ Y W=>W.elim λ b W=>?_;refine l.slice.elim λ J l=>l.elim λ a l=>?_;have a:(L.map El.val).length=L.length:=zab;refine rC W.1 w ?_;refine hO d zaa λ X v r m=>?_;have j:=m.one;refine rF j l.1 a W.1 w ?_;exact Q C Z k v X (F.1.trans r).le (F.1.trans r).size (F.1.trans r) (m.weak F.1.size) F.2.1 F.2.2 r.sat
  ·refine rA ?_;exact yf f.sat x (T:=λ B u=>∃k,aD I h k y/\gU k B/\ii k u) λ R Y n l=>⟨_,f,n,l⟩
end Go.Proofs.YtgmgmmoofjikiaaGreat
