/- Proved here: steps on the way to FnStringSetHistorySaid (the last file has the statement). There are no conditions. -/
import Derived.Test.YtgmgmmoofjikiaaGreatPd
set_option linter.all false
set_option maxHeartbeats 1000000
namespace Go.Proofs.YtgmgmmoofjikiaaGreat
open Go.Eng
variable{a b c d e f g i j k p q r s:Value}{m n o l t u v:Nat}{I J:aK}{h H:Heap}{R:KV}{z y:bn}{x w:bW}{S T:bF}{A:Addr}{K N:cK}{E F:bU}{G M:El}{V W:ex}{α:Type}
theorem cz.srt(B:cz I a E S (some F)):dq F:=by obtain⟨W,C,y,z,-,-,-,-,-,-,-,-,p,-,-,-,-,s,-⟩:=B;exact s
theorem FK(Z:aN I h){u:Bool}(O:I m=aE #[.iface 99 a,cr,cr,bf] n)(k0:f8 I a b o)(s:dr I b A)(D:cU I bT ⟨o,0,none⟩)(a0:TV I c f b o)(X:PV I f i)(a1:dM I i z)(L:z≠[])(v:z.Nodup)(N:z.length<=50000)(M:TV I d g b o)(T:PV I g j)(n:dM I j y)(Y:y≠[])(P:y.Nodup)(K:y.length<=50000)(U:cz I e [] bA (some E))(r:E.length<=100000)(a2:ec (λ b=>b∈y\/¬El.val b∈E) z≠[])(hR:∀w J G V h',aD I h V h'->TV V w J b o->PV V J G->dM V G (ec (λ b=>b∈y\/¬El.val b∈E) z)->R (bj w ni) h'):Cf h 178 #[aB m,c,d,dJ e u] R:=by
 have a3:aG f=true:=by obtain⟨u,C,rfl,-⟩:=X;rfl
 have V:aG g=true:=by obtain⟨u,C,rfl,-⟩:=T;rfl
 have os:aG b=true:=by obtain⟨u,C,H,rfl,-⟩:=s;rfl
 have g:=U.one;have a4:=List.length_pos_iff.2 L;refine Vl (rB (Z _ _ O).c ?_);refine fc Z g λ q p=>?_;have t:=p.sat;try simp(disch:=omega)only[go_sem,↓reduceIte,aA (t _ _ O),dH qj]
 refine jA t k0 M V λ Q V h1 a q0=>?_;have w:=a.sat;have S:=a.le;refine gq q0 λ H M q c=>?_;refine gq (a0.mono S) λ x A Q J=>rC (w _ _ c).c q ?_;refine jH w (s.mono S) (D.mono S) (T.mono S) (n.mono S) Y P K λ C l F K r O m=>?_;have i:=r.sat;have W:=S.trans r.le;refine rC (i _ _ (r.le _ _ J)).c Q ?_;refine jH i (s.mono W) (D.mono W) (X.mono W) (a1.mono W) L v N λ u k R t q d T=>?_;have n:=W.trans q.le;refine rA ?_;refine⟨λ W C w=>W=b/\∃B J',C=aB B/\aD R t J' w/\J' B=aE #[aB o,nilp,nilp,nilp,nilp,bf] 95,?_,?_⟩
 ·rintro W C w⟨rfl,B,Z,N,u,x⟩;have S5:=u.sat;have i:=n.trans u.le;have F:=u.le _ _ (q.le _ _ (r.le _ _ J));refine rE (S5 _ _ F).c (S5 _ _ x).c Q N ?_;refine jQ S5 ((O.mono q.le).mono u.le) (s.mono i) (D.mono i) (by have:=m.n;simp only[Option.getD_some];exact zaa) λ J e t M L=>?_;have W:=i.trans M.le;refine rE (M.sat _ _ (M.le _ _ F)).c (M.sat _ _ (M.le _ _ x)).c Q N ?_;refine jQ M.sat ((d.mono u.le).mono M.le) (s.mono W) (D.mono W) (by have:=T.n;simp only[Option.getD_some];exact zaa) λ Y f C P f=>?_;have Z:=W.trans P.le;have I:=M.trans P;refine rE (P.sat _ _ (I.le _ _ F)).c (P.sat _ _ (I.le _ _ x)).c Q N ?_;refine fN P.sat g λ c Y=>?_;have V:=I.trans Y;refine rE (Y.sat _ _ (V.le _ _ F)).c (Y.sat _ _ (V.le _ _ x)).c Q N ?_;refine jQ Y.sat (U.mono (Z.trans Y.le)) (s.mono (Z.trans Y.le)) (D.mono (Z.trans Y.le)) (by simp only[Option.getD_some];exact zaa) λ I R o H M=>?_;have c:=V.trans H;refine rD (H.sat _ _ (c.le _ _ F)).c Q N ?_;refine lH H.sat ((f.mono Y.le).mono H.le) (((L.mono P.le).mono Y.le).mono H.le) (by simp[mE]) (by have:=T.n;have:=m.n;simp[eR];exact zaa) λ L W v v e=>?_;have H:=c.trans v;refine rD (v.sat _ _ (H.le _ _ F)).c Q N ?_;rw[show cu (mE (some k)) (mE (some l))=[]from wi]at e;have j:=d.srt;have I:=O.srt;have C:=U.srt;refine nz v.sat e (M.mono v.le) (by simp[mE]) (by
   have:=T.n;have t:eR (qm (some k) (some l))<=k.length:=by
    show eR (fC (cu k l))<=_;have:=(hA k l).length_le;unfold fC;split
    ·exact Nat.zero_le _
    ·exact zbX
   simp only[eR]at t⊢;exact zaa) λ P v w L o=>?_;have g:=H.trans L;have t:=i.trans g.le;refine rD (L.sat _ _ (g.le _ _ F)).c Q N ?_;rw[show cy [] (mE (some E))=[]from by rw[cy]]at o;refine is L.sat (s.mono t) (D.mono t) (X.mono t) (a1.mono t) a4 zaa o λ J e Q R W w f Y O=>?_;have Z:∀b,b∈z->(El.val b∈(oG (qm (some k) (some l)) (some E)).getD []↔¬(b∈y\/¬El.val b∈E)):=λ b s=>by
   have P:El.val b∈cu k l↔b∉y:=by rw[g7 _ _ _ j I,T.val,m.val];exact⟨λ h=>h.2,λ h=>⟨s,h⟩⟩
   show El.val b∈(oG (fC (cu k l)) (some E)).getD []↔_;by_cases d:cu k l=[]
   ·have:b∈y:=by
     by_cases m:b∈y
     ·exact m
     ·have:=P.2 m;rw[d]at this;cases this
    rw[d];simp[fC,oG,this]
   ·have A:fC (cu k l)=some (cu k l):=by unfold fC;cases i:cu k l with|nil=>exact absurd i d|cons X c=>rfl
    rw[A];show El.val b∈(fC (cy (cu k l) E)).getD []↔_;rw[oX,hI _ _ _ (j1 j) C,P];constructor
    ·rintro⟨h1,N⟩(K|K)
     ·exact h1 K
     ·exact K N
    ·intro F;refine⟨λ h1=>F (.inl h1),?_⟩;by_cases N:El.val b∈E
     ·exact N
     ·exact absurd (.inr N) F
  rw[tE Z a2]at O;refine rA ?_;have l:=(((((p.trans a).trans r).trans q).trans u).trans g).trans w;exact hR J e Q R W l f Y O
 ·refine yr q.sat (((a0.mono S).mono r.le).mono q.le) a3 os λ B J' h' G j=>⟨rfl,B,J',rfl,G,j⟩
def QN:(Ag h (Instr.makeMap 170 none) λ f g=>Rn g 107 e λ e g=>Lp (∃(i:V0)(j:N0),i g/\∀g,i g->(Nx g e false 0 λ k l=>Ex k 0 λ k=>Cd k (Et l e λ a b=>Ex a 1 λ a=>Lp (∃c:V0,(∀b,c b->(Iv b a "APIVersion" #[] λ b c=>Iv c a "APIVersion" #[] λ c d=>Lk d 170 f c false λ e=>Iv d a "Set" #[] λ a d=>dn d 170 f c false e/\(Cf d 90 #[e,a] λ a c=>Mu c 170 f b a λ a=>(i a/\j a<j g))))/\(Iv b a "APIVersion" #[] λ b d=>Lk d 170 f b true λ b=>aW b λ _ b=>cD d b (Iv d a "APIVersion" #[] λ a b=>Cf b 88 #[n0] λ b d=>Mu d 170 f a b λ a=>c a) (c d)))) (Lp (∃e:V2,(∀b c d,e b c d->(Rn d 170 f λ d e=>Lp (∃(f:V2)(g:N2),f b c e/\∀b c e,f b c e->(Nx e d false 0 λ i j=>Ex i 0 λ i=>Cd i (Et j d λ d i=>aW d λ d j=>Cf i 222 #[a,b,c,d,j] λ a d=>aW a λ i j=>Ex a 2 λ a=>bx d 109 a ni (R (bj nilp a) d) (f i j d/\g i j d<g b c e)) (R (bj c ni) j)))))/\(Lk l 170 f d true λ g=>aW g λ g i=>Cd i (Cf l 222 #[a,b,c,d,g] λ a b=>aW a λ c g=>Ex a 2 λ a=>bx b 109 a ni (R (bj nilp a) b) (De b #[170,114] 0 #[f,d] λ _ a=>e c g a)) (e b c l)))))))->Cf h 177 #[a,b,c,d,e,f] R:=mS Tryz.func177 (Z (Z (Z (Q (Z (B (O [] (Z (Q d8 (B (Z (Y [] jb (X #[0,0,2,0,0,22,62,0,182,510,1023]))))))))) (Y [1,2] (Z (Z (C AP L))) (Q (Z (B (O [1,2] (Z (Q d8 (B (Z mM))))))) bG))))))
abbrev gh(w:Value):g8:={key:=aU bV,val:=w,born:=0}
theorem N7(w:Value):cC (#[gh w]:fP).toList bV=some w:=by rfl
theorem mU(w:Value):cC [gh w] bV=some w:=by rfl
theorem lm(w:Value):cP (#[gh w]:fP).toList 1:=by refine⟨?_,?_,?_,?_⟩<;>simp[aZ]
theorem IV(W:g0 m=some (n,o,a))(B:cJ h l=some (#[gh b],1))(Q:R (.tuple #[]) (hset h l (.map #[] 1))):De h #[m,n] 0 #[.map (some l),aU bV] R:=by
 obtain⟨O,Y,k⟩:=iP W;intro E v;obtain⟨p,y,N,K⟩:=fw (E:=E) Y (lm b).str (A:=bV);obtain⟨Z,R,T,k⟩:=lB v B (.map #[] 1);refine⟨_,Z,?_,T▸Q,k⟩;have f:cC (#[gh b]:fP).toList bV=some b:=N7 b;cases p with
  |none=>rw[f]at N;cases N
  |some p=>
   obtain⟨M,F⟩:=p;obtain⟨j,c,G,-⟩:=K M F rfl;have d:M=0:=by cases M with|zero=>rfl|succ M=>simp at c
   subst d;have D:(#[gh b]:fP).eraseIdxIfInBounds 0=#[]:=by simp[Array.eraseIdxIfInBounds]
   have f:∀u,(Instr.checkKey u 10000 n (aU bV)).run P E=.ok () E:=λ u=>Go.MapKept.run_checkKey Y (mW bV) u 9999;have V:(Instr.findKey n (aU bV) [gh b]).run P E=.ok (some (0,F)) E:=y;unfold Builtin.delete_;simp only[List.getElem?_toArray,List.getElem?_cons_zero,List.getElem?_cons_succ,Sem.run_bind,bD O,Result.andThen_ok,fK v B,f,V,D,R,Sem.run_pure]
def wY(R:KV)(a b c d e:Value)(f:Heap):Prop:=Lp (∃g:V2,(∀b c d,g b c d->(Rn d 170 e λ d e=>Lp (∃(f:V2)(g:N2),f b c e/\∀b c e,f b c e->(Nx e d false 0 λ i j=>Ex i 0 λ i=>Cd i (Et j d λ d i=>aW d λ d j=>Cf i 222 #[a,b,c,d,j] λ a d=>aW a λ i j=>Ex a 2 λ a=>bx d 109 a ni (R (bj nilp a) d) (f i j d/\g i j d<g b c e)) (R (bj c ni) j)))))/\(Lk f 170 e d true λ i=>aW i λ i j=>Cd j (Cf f 222 #[a,b,c,d,i] λ a b=>aW a λ c f=>Ex a 2 λ a=>bx b 109 a ni (R (bj nilp a) b) (De b #[170,114] 0 #[e,d] λ _ a=>g c f a)) (g b c f)))
theorem Vf:P.underlying 170=some (.map 114 173):=Tryz.underlying170
theorem vj{w p:bF->Prop}(O:∀A∈z,w A↔p A):ec w z=ec p z:=by unfold ec;refine List.filter_congr λ A s=>?_;simp[O A s]
theorem D5(Z:aN I h){t:Value}(O:I m=aE #[.iface 99 t,cr,cr,bf] n)(k:f8 I t a o)(s:dr I a A)(T:cU I bT ⟨o,0,none⟩)(v:TV I b f a o)(S:PV I f i)(u:dM I i z)(f:z≠[])(P:z.Nodup)(t:z.length<=50000)(W:TV I d g a o)(i:PV I g ni)(Q:cz I e [] bA (some E))(r:E.length<=100000)(Y:ec (λ a=>El.val a∈E) z≠[])(j:blk h l=some (.map #[gh e] 1))(y:I l=none)(L:∀w J G V U,aC (Eq l) I h V U->TV V w J a o->PV V J G->dM V G (ec (λ a=>El.val a∈E) z)->R (bj w ni) U):wY R (aB m) b d (aU bV) (.map (some l)) h:=by
 have A:=aF j;unfold wY;refine⟨λ x p K=>∃J G V,x=x/\blk K l=some (.map #[] 1)/\aC (Eq l) I h V K/\TV V p J a o/\PV V J G/\dM V G (ec (λ a=>El.val a∈E) z),?_,?_⟩
 ·rintro x p K⟨J,G,V,-,D,E,X,H,B⟩;have q:=E.sat;have M:=aF D;try simp(disch:=omega)only[go_sem,↓reduceIte,hX Vf (bI D)]
  refine⟨λ F o N=>o=p/\N=K.push (.mapIter (some l) 1 #[] 1),λ _ _ _=>0,⟨rfl,rfl⟩,?_⟩;rintro F o N⟨rfl,rfl⟩;refine im (s:=[]) (g:=#[]) (o:=1) (bI (show blk _ l=_ from bz D)) (cP.nil 1) df.new (λ _=>?_) λ C x=>by simp at x
  refine rA ?_;exact L o J G V _ (E.push _) X H B
 ·try simp(disch:=omega)only[go_sem,↓reduceIte,hN iQ (bI j) (lm e).1,mU,Option.getD_some]
  refine Di Z O k s T v S u f P t W i Q r Y λ p w J G V U E X C i W=>?_;have D:=E.blk j id;have k:V l=none:=(E.dom l A id).trans y;refine rA ?_;refine IV iQ (bI D) ⟨J,G,V,rfl,de (aF D),(E.weak λ _ _=>False.elim).setMap (.inr rfl) k,C,i,W⟩
structure hD(es done:fx):Prop where
 sub:∀e∈done,e∈es
 nd:(done.map (·.born)).Nodup
theorem hD.nil(g:fx):hD g []:=⟨zab,zab⟩
theorem hD.next{g s:fx}(B:hD g s){C:g8}(x:C∈g)(e:C.born∉s.map (·.born)):hD g (s++[C])/\s.length+1<=g.length:=by
 have v:((s++[C]).map (·.born)).Nodup:=by rw[List.map_append,List.nodup_append];exact⟨B.nd,zab,by simp;exact λ X Y j=>e (List.mem_map.2 ⟨X,Y,j⟩)⟩
 have y:∀X∈s++[C],X∈g:=λ X i=>(List.mem_append.1 i).elim (B.sub X) λ i=>List.mem_singleton.1 i▸x;refine⟨⟨y,v⟩,?_⟩;have:=List.Nodup.length_le_of_subset (eY v) y;exact zai
theorem hD.all{g s:fx}(B:hD g s)(J:cP g m)(O:∀e∈g,e.born∈s.map (·.born)):∀e∈g,e∈s:=λ e x=>by obtain⟨f,H,p⟩:=List.mem_map.1 (O e x);exact(uy J.born (B.sub f H) x p)▸H
theorem hD.len{g s:fx}(B:hD g s):s.length<=g.length:=List.Nodup.length_le_of_subset (eY B.nd) B.sub
def PD(T:aK)(h:Heap)(F:Nat)(y:g8->bU)(s:fx):Prop:=(s=[]/\blk h F=some (.map #[] 0))\/∃w L,s≠[]/\blk h F=some (.map #[gh w] 1)/\cz T w [] bA (some L)/\(∀q,q∈L↔∃e∈s,q∈y e)/\L.length<=s.length*1000
theorem zQ(v:ex)(H:bU):∃L,oa v (some H)=some L/\(∀q,q∈L↔q∈v.getD []\/q∈H)/\L.length<=eR v+H.length:=by cases v with|none=>exact⟨H,rfl,λ q=>zab,by simp[eR]⟩|some t=>exact⟨cl t H,rfl,λ q=>gg q _ _,hF _ _⟩
def wr(T:aK)(g:fx)(y:g8->bU):Prop:=∀e∈g,∃w b,e.val=dJ w b/\cz T w [] bA (some (y e))/\(y e).length<=1000
theorem wr.mono(O:I.le J){g:fx}{y:g8->bU}(B:wr I g y):wr J g y:=λ C x=>by obtain⟨w,u,y,N,K⟩:=B C x;exact⟨w,u,y,N.mono O,K⟩
set_option maxHeartbeats 1000000 in theorem vG{O:Heap}(Z:aN I O){W:Value}{H:bn}{Q:fP}{y:g8->bU}(P:I m=aE #[.iface 99 W,cr,cr,bf] n)(k:f8 I W a o)(W:dr I a A)(hn:cU I bT ⟨o,0,none⟩)(v:TV I b f a o)(X:PV I f i)(a0:dM I i H)(hl:H≠[])(hd:H.Nodup)(bl:H.length<=50000)(a1:TV I d g a o)(a2:PV I g ni)(B:cJ O t=some (Q,u))(J:cP Q.toList u)(S:wr I Q.toList y)(F:Q.toList≠[])(z:Q.toList.length<=50)(Y:ec (λ a=>∃e∈Q.toList,El.val a∈y e) H≠[])(hR:∀w D G V U,aD I O V U->TV V w D a o->PV V D G->dM V G (ec (λ a=>∃e∈Q.toList,El.val a∈y e) H)->R (bj w ni) U):Cf O 177 #[aB m,b,d,aU bV,.map (some t),j] R:=by
 have i:=dg B;have s:aD I O I (O.push (.map #[] 0)):=aP Z;have N:=s.map B id;refine QN (rA ?_);rw[hX Tryz.underlying107 N];have C:aD I O I ((O.push (.map #[] 0)).push (.mapIter (some t) u #[] u)):=s.push _;refine⟨λ K=>∃s V,df K (O.size+1) t u s/\hD Q.toList s/\aD I O V K/\V O.size=none/\V (O.size+1)=none/\PD V K O.size y s,λ K=>Q.toList.length-jq K (O.size+1),⟨[],I,?_,hD.nil _,C,Z.fresh zaa,Z.fresh zaa,.inl ⟨rfl,Bk⟩⟩,?_⟩
 ·have:=df.new (h:=O.push (.map #[] 0)) (m:=t) (n:=u);(try simp only[bJ]at this);exact zbX
 rintro K⟨s,V,it,Z,E,jv,ji,z⟩;(try simp only[bJ]);have i:=E.sat;have C:=E.size;have A:=E.map B id;have L:=aF it;refine im A J it (λ o=>?_) λ e T n h4 z4 g a3=>?_
 ·refine rA ?_;have f:=Z.all J o;rcases z with⟨j,-⟩|⟨w,L,-,D,x,A,lu⟩
  ·subst j;exact absurd (List.exists_mem_of_ne_nil _ F).choose_spec λ F=>by have:=f _ F;cases this
  ·have o:∀a,El.val a∈L↔∃e∈Q.toList,El.val a∈y e:=λ a=>(A _).trans ⟨λ⟨e,h1,N⟩=>⟨e,Z.sub e h1,N⟩,λ⟨e,h1,N⟩=>⟨e,f e h1,N⟩⟩;have G:=vj (z:=H) (w:=λ a=>El.val a∈L) (p:=λ a=>∃e∈Q.toList,El.val a∈y e) λ a _=>o a;have f:=E.le;have M:=Z.len;show wY R (aB m) b d (aU bV) (.map (some O.size)) K;refine D5 i (f _ _ P) (k.mono f) (W.mono f) (hn.mono f) (v.mono f) (X.mono f) (a0.mono f) hl hd bl (a1.mono f) (a2.mono f) x zaa (G▸Y) D jv λ i X Q b U a C m W=>?_;exact hR i X Q b U (E.trans' a λ i Y F=>zaa) C m (G▸W)
 ·have mn:=Z.next T n;refine(S e T).elim λ w W=>W.elim λ d W=>?_;have ev:=W.1;have b:=W.2.1;have H:=W.2.2;have m:=b.one;have S:aD I O V h4:=gf E (.inl zaa) ji z4 g;have S4:=S.sat;have E:=S.size;have n:=S.le;have E:PD V h4 O.size y s:=z.imp (λ F=>⟨F.1,(g _ zaa).trans F.2⟩) λ⟨w,L,h1,N,K⟩=>⟨w,L,h1,(g _ zaa).trans N,K⟩;have d:=S.map B id;try simp(disch:=omega)only[go_sem,↓reduceIte,jk d J T a3,ev]
  refine⟨λ T=>∃k o v,df T (O.size+1) t u (s++[e])/\aC (Eq O.size) V h4 k T/\blk T O.size=some (.map #[gh o] 1)/\cz k o [] bA v/\(∀f,f∈v.getD []↔∃e∈s,f∈y e)/\eR v<=s.length*1000/\k O.size=none/\k (O.size+1)=none,λ T F=>?_,?_⟩
  ·refine F.elim λ k F=>F.elim λ o F=>F.elim λ v F=>?_;have Q:=F.1;have C:=F.2.1;have X:=F.2.2.1;have f0:=F.2.2.2.1;have n:=F.2.2.2.2.1;have a:=F.2.2.2.2.2.1;have U:=C.sat;have R:=C.size;have a4:=F.2.2.2.2.2.2.1;have a5:=F.2.2.2.2.2.2.2;have W:aD I O k T:=S.trans' C λ i Y e=>zaa;have g:=W.le;refine rA ?_;refine fc U m λ S P=>rA ?_;refine fc P.sat m λ d K=>?_;have B:=P.trans K;try simp(disch:=omega)only[go_sem,↓reduceIte,f1 iQ (bI (B.blk X id)) (lm o).1,mU,Option.getD_some]
   refine fN K.sat m λ G H=>?_;have G:=B.trans H;try simp(disch:=omega)only[go_sem,↓reduceIte,f1 iQ (bI (G.blk X id)) (lm o).1,mU,Option.getD_some]
   have M:=Z.len;refine kD H.sat f0 (b.mono g) zab (by have b:eR (some (y e))=(y e).length:=rfl;exact zaa) λ R a B H x=>?_;rw[show cl [] []=[]from by rw[cl]]at x;have z:=G.trans H;have U:=z.blk X id;have H:=Q.step z id;have J:=aF X;have G:=aF Q;have g:a O.size=none:=(z.dom _ J id).trans a4;have J:a (O.size+1)=none:=(z.dom _ G id).trans a5;have k:aD I O a B:=W.trans z;refine rA ?_;rw[gy iQ (bI U) (lm o),show Obj.map (c8 (Array.toList #[gh o]) 1 bV R).toArray (fz (Array.toList #[gh o]) 1 bV)=Obj.map #[gh R] 1 from rfl];refine(zQ v (y e)).elim λ L G=>?_;have v:aD I O a (hset B O.size (.map #[gh R] 1)):=k.setMap (.inl bu) g;have I:df (hset B O.size (.map #[gh R] 1)) (O.size+1) t u (s++[e]):=(dw zaa).trans H;refine⟨⟨s++[e],a,I,mn.1,v,g,J,.inr ⟨R,L,zab,de (aF U),G.1▸x,λ f=>?_,?_⟩⟩,?_⟩
   ·rw[G.2.1,n];simp[or_and_right,exists_or]
   ·have:=G.2.2;have b:(s++[e]).length=s.length+1:=zab;exact zaa
   ·have h1:=dX I;have N:=dX it;have b:(s++[e]).length=s.length+1:=zab;have:=mn.2;exact zaa
  ·refine rA ?_;refine fc S4 m λ T M=>?_;have C:=M.size;have Q:=a3.step M id;have z:O.size<h4.size:=by rcases E with⟨-,F⟩|⟨w,L,-,F,-⟩<;>exact aF F
   have a:=aF a3;rcases E with⟨j,D⟩|⟨o,L,j,D,x,A,lu⟩
   ·have X:=M.blk D id;try simp(disch:=omega)only[go_sem,↓reduceIte,hN iQ (bI X) (cP.nil 0).1,sK,Option.getD_none]
    refine fc M.sat m λ S P=>?_;have T:=M.trans P;refine rA ?_;refine g9 P.sat bA λ H d K P=>?_;have G:=T.trans K;have J:=G.blk D id;have g:=a3.step G id;have K:=G.size;have F:=P.done (G.weak (D':=Eq O.size) λ _ _=>False.elim) (cW T.size) zab;refine rA ?_;rw[gy iQ (bI J) (cP.nil 0),show∀E,Obj.map (c8 (Array.toList #[]) 0 bV E).toArray (fz (Array.toList #[]) 0 bV)=Obj.map #[gh E] 1 from λ _=>rfl];have k:∀i,i=O.size\/i=O.size+1->V.fp [H] d i=none:=λ i Y=>by
     have n:=(P.fps.2 H zab).1;have b:=T.size;have:i≠H:=zaa;unfold aK.fp aK.add;simp only[List.mem_singleton,this,decide_false,Bool.false_eq_true,if_false];rcases Y with rfl|rfl
     ·exact jv
     ·exact ji
    refine⟨V.fp [H] d,_,none,(dw zaa).trans g,F.1.setMap (.inr rfl) (k _ (.inl rfl)),de (aF J),F.2.2,λ f=>?_,by simp[eR],k _ (.inl rfl),k _ (.inr rfl)⟩;rw[j];exact zab
   ·have X:=M.blk D id;try simp(disch:=omega)only[go_sem,↓reduceIte,hN iQ (bI X) (lm o).1,mU,Option.getD_some]
    exact⟨V,o,some L,Q,M.weak λ _ _=>False.elim,X,x.mono M.le,A,lu,jv,ji⟩
def HR:(Eb h .eql 183 false true e ni λ f=>Gd h f false (λ a b=>a e b) λ g i=>Gd i f false (λ a b=>Iv b g "Set" #[] λ b c=>a b c) λ g i=>Gd i f false (λ a b=>Cf b 93 #[g] λ b c=>a b c) λ g i=>Pk f bt g λ f=>Cd f (R (bj b ni) i) (Iv i e "APIVersion" #[] λ f g=>aM g 192 a 0 168 λ i=>Iv g i "Convert" #[b,f] λ g i=>aW g λ g j=>bx i 109 j ni (aM i 192 a 0 168 λ a=>Iv i a "IsMissingVersionError" #[j] λ a c=>Cd a (R (bj b ni) c) (Cf c 91 #[dO 0x6661696c656420746f20636f6e76657274206d6572676564206f626a65637420746f206c617374206170706c6965642076657273696f6e] λ a b=>R (bj nilp a) b)) (Lp (∃b:V2,(∀i j k,b i j k->(Nc g<|Ld k 317 g λ b=>Ld k 95 j λ l=>Iv k e "Set" #[] λ k m=>bh m 317 g b/\bh m 95 j l/\(Cf m 176 #[k,i,l] λ i j=>bh j 317 g b/\(Cf j 175 #[b,i] λ b i=>Cf i 177 #[a,g,b,f,c,d] λ b f=>aW b λ b i=>bx f 109 i ni (Cf f 91 #[dO 0x6661696c656420616464206261636b206f776e6564206974656d73] λ a b=>R (bj nilp a) b) (Cf f 178 #[a,g,b,e] λ b e=>aW b λ b f=>bx e 109 f ni (Cf e 91 #[dO 0x6661696c656420616464206261636b2064616e676c696e67206974656d73] λ a b=>R (bj nilp a) b) (bg e 192 a 0 λ f=>Ld e 168 f λ g=>Lk e 107 c d false λ c=>Nc g<|Iv e c "APIVersion" #[] λ c d=>aX d 192 a 0 f 168 g<|(Iv d g "Convert" #[b,c] λ a b=>aW a λ a c=>R (bj a c) b)))))))/\(Nc g<|Ld i 317 g λ a=>Nc g<|Ld i 317 g λ c=>(Cf i 173 #[a] λ d e=>bh e 317 g c/\((Cf e 174 #[c] λ e f=>Al f 95 λ f i=>bh i 317 g a/\bh i 317 g c/\(Sr i 95 f e λ a=>b d f a))/\(Al e 95 λ e f=>bh f 317 g a/\bh f 317 g c/\(Cf f 174 #[c] λ a c=>Sr c 95 e a λ a=>b d e a))))/\(Al i 95 λ d e=>bh e 317 g a/\bh e 317 g c/\(Cf e 173 #[a] λ a e=>bh e 317 g c/\(Cf e 174 #[c] λ c e=>Sr e 95 d c λ c=>b a d c))))))))->Cf h 116 #[a,b,c,d,e] R:=mS Tryz.func116 (Z (Q cg (Z (Z (Q oL (Y [15,16] Ik (Q (X #[0,1,3,0,8,0,0,120,255,511]) (Z (Q cg (Z (Q cg (Q (X #[0,1,3,7,0,0,0,96,224,15,527,2047,4095,4095,16383,32767]) L))))))))))))
theorem AI(L:R (bj b ni) h):Cf h 116 #[a,b,c,d,ni] R:=by refine HR (rA ?_);exact L
theorem A0(Z:aN I h){N:Value}{H:bn}{z:fP}{y:g8->bU}(O:I n=aE #[.iface 99 N,cr,cr,bf] o)(k:f8 I N a t)(s:dr I a A)(L:cU I bT ⟨t,0,none⟩)(Q0:TV I b g a t)(X:PV I g i)(a0:dM I i H)(hl:H≠[])(hd:H.Nodup)(bl:H.length<=50000)(U:cz I d [] bA (some E))(T:E≠[])(a1:E.length<=100000)(hm:cJ h u=some (z,v))(J:cP z.toList v)(ms:wr I z.toList y)(hz:z.toList.length<=50)(hk:ec (λ a=>∃e∈z.toList,El.val a∈y e) H≠[])(hg:cC z.toList S=some (dJ f true))(og:aG f=true)(hR:∀w x G V j,aD I h V j->TV V w x a t->PV V x G->dM V G (ec (λ a=>a∈ec (λ a=>∃e∈z.toList,El.val a∈y e) H\/¬El.val a∈E) H)->R (bj w ni) j):Cf h 116 #[aB n,b,.map (some u),aU S,dJ d true] R:=by
 have M:aG g=true:=by obtain⟨u,e,rfl,-⟩:=X;rfl
 have F:aG a=true:=by obtain⟨u,e,o,rfl,-⟩:=s;rfl
 have x:=U.one;have h:=List.length_pos_iff.2 hl;refine HR (rA ?_);refine fN Z x λ V i=>?_;have Z:=i.sat;refine rA ?_;refine gl Z U λ N P=>?_;have V:(([]:bU).isEmpty&&fh (some E))=false:=by cases E with|nil=>exact absurd rfl T|cons b C=>rfl
 have I:=i.trans P;refine rB V ?_;refine fc P.sat x λ K r=>?_;have W:=I.trans r;have i:=r.sat;try simp(disch:=omega)only[go_sem,↓reduceIte,aA (i _ _ O),dH qj]
 refine jA i k Q0 M λ S V o q K=>?_;have d:=q.sat;have n:=q.le;refine gq K λ b A Q A=>rA ?_;refine⟨λ b C w=>b=a/\∃B N,C=aB B/\aD V o N w/\N B=aE #[aB t,nilp,nilp,nilp,nilp,bf] 95,?_,yr d K M F λ B N j G j=>⟨rfl,B,N,rfl,G,j⟩⟩;rintro b C w⟨rfl,B,Z,N,D,b⟩;have S5:=D.sat;have r:=n.trans D.le;have F:=D.le _ _ A;refine rE (S5 _ _ F).c (S5 _ _ b).c Q N ?_;refine fN S5 x λ T M=>rE (M.sat _ _ F).c (M.sat _ _ b).c Q N ?_;refine jQ M.sat (U.mono r) (s.mono r) (L.mono r) (by simp only[Option.getD_some];exact zaa) λ B G B P b=>?_;have T:=M.trans P;have Z:=r.trans P.le;refine rD (P.sat _ _ (T.le _ _ F)).c Q N ?_;refine is P.sat (s.mono Z) (L.mono Z) (X.mono Z) (a0.mono Z) h zaa b λ p I Q I N Y d j V=>?_;rw[wy (E:=mE (some E)) (V:=some E) (z:=H) (by simp[mE])]at V;have f:Q=ni:=V;subst f;have p:=Z.trans Y.le;have g:=((((W.trans q).trans D).trans T).trans Y);have f:=g.map hm id;have V:z.toList≠[]:=λ q=>by rw[q]at hg;cases hg
 refine vG Y.sat (p _ _ O) (k.mono p) (s.mono p) (L.mono p) (((K.mono D.le).mono P.le).mono Y.le) (X.mono p) (a0.mono p) hl hd bl d j f J (ms.mono p) V hz hk λ B i o R G W t C A=>?_;have F:=g.trans W;have j:=p.trans W.le;refine rA ?_;have v:ec (λ a=>a∈ec (λ a=>∃e∈z.toList,El.val a∈y e) H\/¬El.val a∈E) H≠[]:=by obtain⟨q,p⟩:=List.exists_mem_of_ne_nil _ hk;have d:=(mem_keepL.1 p).1;exact List.ne_nil_of_mem (mem_keepL.2 ⟨d,.inl p⟩)
 have x:(ec (λ a=>∃e∈z.toList,El.val a∈y e) H).Nodup:=hd.filter _;have h:(ec (λ a=>∃e∈z.toList,El.val a∈y e) H).length<=50000:=Nat.le_trans (List.length_filter_le _ _) bl;refine FK W.sat (j _ _ O) (k.mono j) (s.mono j) (L.mono j) ((((K.mono D.le).mono P.le).mono Y.le).mono W.le) (X.mono j) (a0.mono j) hl hd bl t C A hk x h (U.mono j) a1 v λ T I v a h o C R D=>?_;have S10:=o.sat;have z:=j.trans o.le;have a:=F.trans o;have T:=a.map hm id;have E:aG I=true:=by obtain⟨u,e,rfl,-⟩:=R;rfl
 try simp(disch:=omega)only[go_sem,↓reduceIte,aA (S10 _ _ (z _ _ O)),f1 fH T J.str,hg,Option.getD_some]
 refine fc S10 og λ w L=>?_;have h:=z;try simp(disch:=omega)only[go_sem,↓reduceIte,aA (L.sat _ _ (z _ _ O)),dH qj]
 refine jA L.sat (k.mono z) C E λ n S W A w=>rA ?_;exact hR _ _ _ _ _ ((a.trans L).trans A) w (R.mono A.le) (D.mono A.le)
def Wr:(Ag h (Instr.makeMap 107 none) λ i j=>Ag j (Instr.makeMap 107 none) λ j k=>Nc b<|Ld k 317 b λ l=>Cf k 134 #[l,c] λ k l=>aW k λ k m=>bx l 109 m ni (Cf l 91 #[dO 0x6661696c656420746f20636f6d70617265206f626a65637473] λ a b=>R (.tuple #[cr,nilp,a]) b) (aM l 192 a 1 170 λ m=>Eb l .neq 170 false true m cr λ m=>aH l m (λ b c=>b a c) λ l n=>aH n m (λ a b=>Nc l<|a l b) λ l n=>aH n m (λ a b=>Fa b 192 l 2 λ c=>a c b) λ l n=>aH n m (λ a b=>Ld b 169 l λ c=>a c b) λ l n=>aH n m (λ a b=>Eb b .neq 169 false true l cr λ c=>a c b) λ l n=>Pk m l bf λ l=>Cd l (Cf n 91 #[dO 0x49676e6f726546696c74657220616e642049676e6f726546696c746572206d6179206e6f7420626f746820626520736574] λ a b=>R (.tuple #[cr,nilp,a]) b) (Lp (∃l:V1,(∀d m,l d m->(Rn m 107 e λ l m=>Lp (∃(n:V0)(o:N0),n m/\∀m,n m->(Nx m l false 0 λ p q=>Ex p 0 λ p=>Cd p (Et q l λ g k=>aW g λ g l=>Eb k .eql 9 false false g f λ f=>Cd f (n k/\o k<o m) (Iv k l "APIVersion" #[] λ f k=>Lk k 263 d f true λ f=>aW f λ f p=>Lp (∃q:V1,(∀a b,q a b->(Nc a<|Fa b 190 a 1 λ c=>Ld b 173 c λ d=>bg b 190 a 2 λ e=>Ld b 173 e λ f=>Iv b l "Set" #[] λ b k=>aX k 190 a 1 c 173 d<|aX k 190 a 2 e 173 f<|(Cf k 90 #[d,f] λ c d=>Cf d 137 #[b,c] λ b c=>Lp (∃d:V0,(∀b,d b->(Nc a<|Fa b 190 a 0 λ c=>Ld b 173 c λ c=>Cf b 93 #[c] λ b c=>cD c b (bg c 190 a 0 λ b=>Ld c 173 b λ d=>Iv c l "APIVersion" #[] λ c e=>aX e 190 a 0 b 173 d<|(Cf e 87 #[d,c,bf] λ a b=>Mu b 107 j g a λ a=>(n a/\o a<o m))) (n c/\o c<o m)))/\(Cf c 93 #[b] λ a c=>cD c a (Iv c l "APIVersion" #[] λ a c=>Cf c 87 #[b,a,bf] λ a b=>Mu b 107 i g a λ a=>d a) (d c))))))/\(Nt k p λ i=>Cd i (bg k 192 a 0 λ f=>Ld k 168 f λ i=>Nc i<|Iv k l "APIVersion" #[] λ j k=>aX k 192 a 0 f 168 i<|(Iv k i "Convert" #[b,j] λ b f=>aW b λ b i=>bx f 109 i ni (aM f 192 a 0 168 λ a=>Iv f a "IsMissingVersionError" #[i] λ a b=>Cd a (De b #[107,9] 0 #[e,g] λ _ a=>(n a/\o a<o m)) (Cf b 91 #[dO 0x6661696c656420746f20636f6e76657274206f6c64206f626a656374] λ a b=>R (.tuple #[cr,nilp,a]) b)) (bg f 192 a 0 λ i=>Ld f 168 i λ j=>Nc j<|Iv f l "APIVersion" #[] λ f k=>aX k 192 a 0 i 168 j<|(Iv k j "Convert" #[c,f] λ c f=>aW c λ c i=>bx f 109 i ni (aM f 192 a 0 168 λ a=>Iv f a "IsMissingVersionError" #[i] λ a b=>Cd a (De b #[107,9] 0 #[e,g] λ _ a=>(n a/\o a<o m)) (Cf b 91 #[dO 0x6661696c656420746f20636f6e76657274206e6577206f626a656374] λ a b=>R (.tuple #[cr,nilp,a]) b)) (Nc b<|Ld f 317 b λ b=>Cf f 134 #[b,c] λ b c=>aW b λ b e=>bx c 109 e ni (Cf c 91 #[dO 0x6661696c656420746f20636f6d70617265206f626a65637473] λ a b=>R (.tuple #[cr,nilp,a]) b) (aM c 192 a 1 170 λ e=>bx c 170 e cr (bg c 192 a 1 λ e=>Ld c 170 e λ f=>Iv c l "APIVersion" #[] λ c g=>aX g 192 a 1 e 170 f<|(Iv g l "APIVersion" #[] λ g i=>aX i 192 a 1 e 170 f<|(Lk i 170 f g false λ a=>Cf i 135 #[b,a] λ a e=>Mu e 263 d c a λ a=>q b a))) (bg c 192 a 2 λ e=>Ld c 169 e λ f=>Iv c l "APIVersion" #[] λ c g=>aX g 192 a 2 e 169 f<|(Iv g l "APIVersion" #[] λ g i=>aX i 192 a 2 e 169 f<|(Lk i 169 f g false λ a=>Cf i 136 #[b,a] λ a e=>Mu e 263 d c a λ a=>q b a))))))))) (q f k))))) (Nt q g λ a=>aH q a (λ a b=>a i b) λ b c=>aH c a (λ a c=>Ln c 107 b λ b=>a b c) λ b c=>aH c a (λ a c=>Eb c .neq 3 false true b i0 λ b=>a b c) λ b c=>Pk a b bf λ a=>Cd a (Cf c 138 #[i] λ a b=>Mi b 199 a λ a=>R (.tuple #[cr,nilp,a]) b) (Rn c 107 i λ a b=>Lp (∃(c:V0)(d:N0),c b/\∀b,c b->(Nx b a false 0 λ f g=>Ex f 0 λ f=>Cd f (Et g a λ a f=>aW a λ a g=>Lk f 107 e a false λ i=>Lk f 107 e a false λ j=>Lk f 107 e a false λ k=>Iv f i "Set" #[] λ f i=>dn i 107 e a false j/\dn i 107 e a false k/\(Iv i g "Set" #[] λ g i=>dn i 107 e a false j/\dn i 107 e a false k/\(Cf i 89 #[f,g] λ f g=>dn g 107 e a false j/\dn g 107 e a false k/\(Iv g j "APIVersion" #[] λ g i=>dn i 107 e a false k/\(Iv i k "Applied" #[] λ i j=>Cf j 87 #[f,g,i] λ f g=>Mu g 107 e a f λ a=>(c a/\d a<d b)))))) (Rn g 107 j λ a b=>Lp (∃(c:V0)(d:N0),c b/\∀b,c b->(Nx b a false 0 λ f g=>Ex f 0 λ f=>Cd f (Et g a λ a f=>aW a λ a g=>Lk f 107 e a false λ i=>Lk f 107 e a false λ j=>Lk f 107 e a false λ k=>Iv f i "Set" #[] λ f i=>dn i 107 e a false j/\dn i 107 e a false k/\(Iv i g "Set" #[] λ g i=>dn i 107 e a false j/\dn i 107 e a false k/\(Cf i 89 #[f,g] λ f g=>dn g 107 e a false j/\dn g 107 e a false k/\(Iv g j "APIVersion" #[] λ g i=>dn i 107 e a false k/\(Iv i k "Applied" #[] λ i j=>Cf j 87 #[f,g,i] λ f g=>Mu g 107 e a f λ a=>(c a/\d a<d b)))))) (Rn g 107 e λ a b=>Lp (∃(c:V0)(d:N0),c b/\∀b,c b->(Nx b a false 0 λ f g=>Ex f 0 λ f=>Cd f (Et g a λ a f=>Ex a 0 λ a=>Lk f 107 e a false λ g=>Iv f g "Set" #[] λ f g=>Cf g 93 #[f] λ f g=>Cd f (De g #[107,9] 0 #[e,a] λ _ a=>(c a/\d a<d b)) (c g/\d g<d b)) (R (.tuple #[e,k,ni]) g)))))))))))))))/\(Nc a<|Fa n 192 a 1 λ b=>Ld n 170 b λ b=>bx n 170 b cr (Ag n (Instr.makeMap 263 none) λ b c=>aM c 192 a 1 170 λ a=>Lk c 170 a d false λ a=>Cf c 135 #[k,a] λ a c=>Ug c (Instr.mapUpdate 263 b d a) λ a=>l b a) (Ag n (Instr.makeMap 263 none) λ b c=>aM c 192 a 2 169 λ a=>Lk c 169 a d false λ a=>Cf c 136 #[k,a] λ a c=>Ug c (Instr.mapUpdate 263 b d a) λ a=>l b a))))))->Cf h 86 #[a,b,c,d,e,f,g] R:=mS Tryz.func86 (Z (Z (Z (Z (Q cg (Z (Q cg (Y [21] cF (Q (Z (B (O [] (Z (Q d8 (B (Z (Q cF (Z (Y [24] (Z (C (Z (Q EL (Q oL (Q EL (Q oL (Z (Q cg (Z (C PL PL))))))))) L)) (Q (X #[0,1,0,4,12,28,0,64,192,448,1023,2047,4095]) (Y [] cF (Z (C (X #[0,0,0,4,12,28,0,64,252,511]) L)))))))))))))) (Q cg (Q PX (Q PX (Q (Z (B (O [] (Z (Q d8 (B jb)))))) bG)))))))))))))
def D8(R:KV)(a b c d e:Value)(f:Heap):Prop:=aH f e (λ b c=>b a c) λ f g=>aH g e (λ a b=>Ln b 107 f λ c=>a c b) λ f g=>aH g e (λ a b=>Eb b .neq 3 false true f i0 λ c=>a c b) λ f g=>Pk e f bf λ e=>Cd e (Cf g 138 #[a] λ a b=>Mi b 199 a λ a=>R (.tuple #[cr,nilp,a]) b) (Rn g 107 a λ a e=>Lp (∃(f:V0)(g:N0),f e/\∀e,f e->(Nx e a false 0 λ i j=>Ex i 0 λ i=>Cd i (Et j a λ a b=>aW a λ a c=>Lk b 107 d a false λ i=>Lk b 107 d a false λ j=>Lk b 107 d a false λ k=>Iv b i "Set" #[] λ b i=>dn i 107 d a false j/\dn i 107 d a false k/\(Iv i c "Set" #[] λ c i=>dn i 107 d a false j/\dn i 107 d a false k/\(Cf i 89 #[b,c] λ b c=>dn c 107 d a false j/\dn c 107 d a false k/\(Iv c j "APIVersion" #[] λ c i=>dn i 107 d a false k/\(Iv i k "Applied" #[] λ i j=>Cf j 87 #[b,c,i] λ b c=>Mu c 107 d a b λ a=>(f a/\g a<g e)))))) (Rn j 107 b λ a b=>Lp (∃(e:V0)(f:N0),e b/\∀b,e b->(Nx b a false 0 λ g i=>Ex g 0 λ g=>Cd g (Et i a λ a c=>aW a λ a g=>Lk c 107 d a false λ i=>Lk c 107 d a false λ j=>Lk c 107 d a false λ k=>Iv c i "Set" #[] λ c i=>dn i 107 d a false j/\dn i 107 d a false k/\(Iv i g "Set" #[] λ g i=>dn i 107 d a false j/\dn i 107 d a false k/\(Cf i 89 #[c,g] λ c g=>dn g 107 d a false j/\dn g 107 d a false k/\(Iv g j "APIVersion" #[] λ g i=>dn i 107 d a false k/\(Iv i k "Applied" #[] λ i j=>Cf j 87 #[c,g,i] λ c g=>Mu g 107 d a c λ a=>(e a/\f a<f b)))))) (Rn i 107 d λ a b=>Lp (∃(e:V0)(f:N0),e b/\∀b,e b->(Nx b a false 0 λ g i=>Ex g 0 λ g=>Cd g (Et i a λ a c=>Ex a 0 λ a=>Lk c 107 d a false λ g=>Iv c g "Set" #[] λ c g=>Cf g 93 #[c] λ c g=>Cd c (De g #[107,9] 0 #[d,a] λ _ a=>(e a/\f a<f b)) (e g/\f g<f b)) (R (.tuple #[d,c,ni]) i))))))))))
def C0(R:KV)(a b:Value)(c:Heap):Prop:=Rn c 107 b λ c d=>Lp (∃(e:V0)(f:N0),e d/\∀d,e d->(Nx d c false 0 λ g i=>Ex g 0 λ g=>Cd g (Et i c λ a c=>Ex a 0 λ a=>Lk c 107 b a false λ g=>Iv c g "Set" #[] λ c g=>Cf g 93 #[c] λ c g=>Cd c (De g #[107,9] 0 #[b,a] λ _ a=>(e a/\f a<f d)) (e g/\f g<f d)) (R (.tuple #[b,a,ni]) i)))
def e6(T:aK)(g:fx)(H:bF->bU):Prop:=∀e∈g,∃w,e.val=dJ w true/\cz T w [] bA (some (H (aZ e)))/\(H (aZ e)).length<=1000/\H (aZ e)≠[]
theorem e6.mono(O:I.le J){g:fx}{H:bF->bU}(B:e6 I g H):e6 J g H:=λ C x=>by obtain⟨w,y,N,K⟩:=B C x;exact⟨w,y,N.mono O,K⟩
theorem e6.mgS{g:fx}{H:bF->bU}(B:e6 I g H):wr I g λ e=>H (aZ e):=λ e x=>by obtain⟨w,y,N,K,-⟩:=B e x;exact⟨w,true,y,N,K⟩
theorem cP.look{g:fx}(J:cP g m){C:g8}(x:C∈g):cC g (aZ C)=some C.val:=by
 have p:∀H:fx,(H.map aZ).Nodup->C∈H->cC H (aZ C)=some C.val:=by
  intro H;induction H with
   |nil=>intro _ O;cases O
   |cons X H ih=>
    intro D B;rw[List.map_cons,List.nodup_cons]at D;rcases List.mem_cons.1 B with rfl|B
    ·simp[cC,(Go.MapKept.bytes_beq (aZ C) (aZ C)).2 rfl]
    ·have e:aZ X≠aZ C:=λ F=>D.1 (F▸List.mem_map_of_mem B);have:=ih D.2 B;simp only[cC,List.find?_cons]at this⊢;rw[show(aZ X==aZ C)=false from Bool.eq_false_iff.2 λ F=>e ((Go.MapKept.bytes_beq _ _).1 F)];exact zbX
 exact p g J.keys x
theorem FV(Z:aN I h){g:fP}{H:bF->bU}(B:cJ h m=some (g,n))(J:cP g.toList n)(S:e6 I g.toList H)(L:∀U,aD I h I U->R (.tuple #[.map (some m),a,ni]) U):C0 R a (.map (some m)) h:=by
 have p:=dg B;have C:aD I h I (h.push (.mapIter (some m) n #[] n)):=aP Z;unfold C0;rw[hX Tryz.underlying107 B];refine⟨λ K=>∃s,df K h.size m n s/\hD g.toList s/\aD I h I K,λ K=>g.toList.length-jq K h.size,⟨[],df.new,hD.nil _,C⟩,?_⟩;rintro K⟨s,r,D,E⟩;have i:=E.sat;have A:=E.map B id;have m:=aF r;refine im A J r (λ o=>?_) λ C x n t z j F=>?_
 ·exact zcz
 ·have P:=D.next x n;refine(S C x).elim λ w W=>?_;have ev:=W.1;have b:=W.2.1;have N:=W.2.2.2;have K:=b.one;have f:I h.size=none:=Z.fresh bu;have S:aD I h I t:=gf E (.inl bu) f z j;have O:=S.sat;have d:=S.map B id;have l:cC g.toList (aZ C)=some (dJ w true):=by rw[<-ev];exact J.look x
  try simp(disch:=omega)only[go_sem,↓reduceIte,jk d J x F,J.str C x,f1 fH d J.str,l,Option.getD_some]
  refine fN O K λ p D=>rA ?_;refine gl D.sat b λ T M=>?_;have c:(([]:bU).isEmpty&&fh (some (H (aZ C))))=false:=by cases i:H (aZ C)with|nil=>exact absurd i N|cons X i=>rfl
  refine rB c ?_;have e:=D.trans M;have Q:=F.step e id;refine⟨⟨s++[C],Q,P.1,S.trans e⟩,?_⟩;have y:=dX Q;have N:=dX r;have p:(s++[C]).length=s.length+1:=zab;have:=P.2;exact zaa
def DC(R:KV)(a b c:Value)(d:Heap):Prop:=Rn d 107 a λ a d=>Lp (∃(e:V0)(f:N0),e d/\∀d,e d->(Nx d a false 0 λ g i=>Ex g 0 λ g=>Cd g (Et i a λ a b=>aW a λ a g=>Lk b 107 c a false λ i=>Lk b 107 c a false λ j=>Lk b 107 c a false λ k=>Iv b i "Set" #[] λ b i=>dn i 107 c a false j/\dn i 107 c a false k/\(Iv i g "Set" #[] λ g i=>dn i 107 c a false j/\dn i 107 c a false k/\(Cf i 89 #[b,g] λ b g=>dn g 107 c a false j/\dn g 107 c a false k/\(Iv g j "APIVersion" #[] λ g i=>dn i 107 c a false k/\(Iv i k "Applied" #[] λ i j=>Cf j 87 #[b,g,i] λ b g=>Mu g 107 c a b λ a=>(e a/\f a<f d)))))) (Rn i 107 c λ a d=>Lp (∃(e:V0)(f:N0),e d/\∀d,e d->(Nx d a false 0 λ g i=>Ex g 0 λ g=>Cd g (Et i a λ a b=>Ex a 0 λ a=>Lk b 107 c a false λ g=>Iv b g "Set" #[] λ b g=>Cf g 93 #[b] λ b g=>Cd b (De g #[107,9] 0 #[c,a] λ _ a=>(e a/\f a<f d)) (e g/\f g<f d)) (R (.tuple #[c,b,ni]) i))))))
theorem rh{g:fx}(Y:(cC g S).isSome=true):(c8 g m S a).map aZ=g.map aZ/\fz g m S=m:=by unfold c8 fz;rw[if_pos Y,if_pos Y];refine⟨?_,rfl⟩;rw[List.map_map];refine List.map_congr_left λ C x=>?_;show aZ (if aZ C==S then{C with val:=a}else C)=aZ C;split<;>rfl
theorem ov{g:fx}(Y:(cC g S).isSome=true){C:g8}(x:C∈c8 g m S a):(aZ C=S/\C.val=a)\/(C∈g/\aZ C≠S):=by
 unfold c8 at x;rw[if_pos Y]at x;obtain⟨X,i,rfl⟩:=List.mem_map.1 x;by_cases q:aZ X=S
 ·rw[if_pos ((Go.MapKept.bytes_beq _ _).2 q)];exact .inl ⟨q,rfl⟩
 ·rw[if_neg λ F=>q ((Go.MapKept.bytes_beq _ _).1 F)];exact .inr ⟨i,q⟩
theorem e6.put{g:fx}{H:bF->bU}(B:e6 I g H)(Y:(cC g S).isSome=true)(b:cz I a [] bA (some (H S)))(f:(H S).length<=1000)(D:H S≠[]):e6 I (c8 g m S (dJ a true)) H:=λ C x=>by
 rcases ov Y x with⟨y,N⟩|⟨y,-⟩
 ·rw[y];exact⟨a,N,b,f,D⟩
 ·exact B C y
theorem qS{g:fx}(O:S∈g.map aZ):(cC g S).isSome=true:=by cases i:cC g S with|none=>exact absurd O (pg i)|some J=>rfl
def oV(c:bU)(W:ex):Prop:=∀q∈c,q∉W.getD []
theorem zX(s:dq E)(w:∀b,V=some b->dq b)(O:oV E V)(e:E≠[]):qm (some E) V=some E:=by
 cases V with
  |none=>rfl
  |some b=>
   have C:cu E b=E:=m0 (j1 s) s λ q=>by rw[g7 _ _ _ s (w b rfl)];exact⟨λ F=>F.1,λ F=>⟨F,O q F⟩⟩
   show fC (cu E b)=some E;rw[C];cases E with|nil=>exact absurd rfl e|cons X c=>rfl
theorem GA(Z:aN I h){g u:fP}{H:bF->bU}{J:Value}(B:cJ h m=some (g,n))(L:cP g.toList n)(S:e6 I g.toList H)(Y:I m=none)(w:cJ h o=some (u,l))(k:cP u.toList l)(W:o≠m)(O:∀e∈u.toList,e.val=dJ a false/\aZ e∈g.toList.map aZ/\oV (H (aZ e)) V)(A:cz I a [] bA V)(G:(V.getD []).length<=1000000)(N:∀M U X,aC (Eq m) I h M U->cJ U m=some (X,n)->cP X.toList n->e6 M X.toList H->X.toList.map aZ=g.toList.map aZ->R (.tuple #[.map (some m),J,ni]) U):DC R (.map (some o)) J (.map (some m)) h:=by
 have p:=dg B;have K:=dg w;have C:aC (Eq m) I h I (h.push (.mapIter (some o) l #[] l)):=aC.weak (show aD I h I _ from aP Z) λ _ _=>False.elim;have b:cJ (h.push (.mapIter (some o) l #[] l)) m=some (g,n):=(show aD I h I _ from aP Z).map B id;unfold DC;rw[hX Tryz.underlying107 w];refine⟨λ K=>∃s M X,df K h.size o l s/\hD u.toList s/\aC (Eq m) I h M K/\M m=none/\M h.size=none/\cJ K m=some (X,n)/\cP X.toList n/\e6 M X.toList H/\X.toList.map aZ=g.toList.map aZ,λ K=>u.toList.length-jq K h.size,⟨[],I,g,df.new,hD.nil _,C,Y,Z.fresh bu,b,L,S,rfl⟩,?_⟩;rintro K⟨s,M,X,r,Z,E,jm,f,a,L,Q,q⟩;have i:=E.sat;have D:=E.map w λ e=>W e.symm;have x:=aF r;refine im D k r (λ D=>?_) λ e x B t z j F=>?_
 ·refine rA ?_;show C0 R J (.map (some m)) K;refine FV i a L Q λ U G=>?_;exact N M U X (E.trans (G.weak λ _ _=>False.elim)) (G.map a id) L Q q
 ·have P:=Z.next x B;have ev:=(O e x).1;have b:=(O e x).2.1;have ed:=(O e x).2.2;have S:aC (Eq m) I h M t:=gf E (.inl bu) f z j;have O:=S.sat;have U:=S.map w λ e=>W e.symm;have d:cJ t m=some (X,n):=bI ((j m zaa).trans (ip a));have J:=qS (q▸b);have R:∃w,cC X.toList (aZ e)=some (dJ w true)/\cz M w [] bA (some (H (aZ e)))/\(H (aZ e)).length<=1000/\H (aZ e)≠[]:=by obtain⟨B,i,z⟩:=List.mem_map.1 (q▸b:aZ e∈X.toList.map aZ);obtain⟨w,h1,N,K,Z⟩:=Q B i;rw[<-z];exact⟨w,by rw[<-h1];exact L.look i,N,K,Z⟩
  refine R.elim λ w W=>?_;have ep:=W.1;have b:=W.2.1;have w:=W.2.2.1;have i:=W.2.2.2;have K:=b.one;have W:=A.one;try simp(disch:=omega)only[go_sem,↓reduceIte,jk U k x F,k.str e x,ev,f1 fH d L.str,ep,Option.getD_some]
  refine fN O K λ Z D=>?_;try simp(disch:=omega)only[go_sem,↓reduceIte,f1 fH (D.map d id) L.str,ep,Option.getD_some]
  refine fN D.sat W λ T M=>?_;have x:=D.trans M;have G:=E.le;try simp(disch:=omega)only[go_sem,↓reduceIte,f1 fH (x.map d id) L.str,ep,Option.getD_some]
  refine lH M.sat b (A.mono G) zab (by
   have Z:eR (some (H (aZ e)))=(H (aZ e)).length:=rfl;have T:eR V=(V.getD []).length:=by cases V<;>rfl
   exact zaa) λ p y B U V=>?_;have z:=x.trans U;have u:=z.map d id;try simp(disch:=omega)only[go_sem,↓reduceIte,f1 fH u L.str,ep,Option.getD_some]
  refine fc U.sat K λ Y Y=>?_;have g:=z.trans Y;try simp(disch:=omega)only[go_sem,↓reduceIte,f1 fH (Y.map u id) L.str,ep,Option.getD_some]
  refine t7 Y.sat K λ G H=>?_;have C:=g.trans H;have k:=C.map d id;refine rA ?_;refine ly V.one ?_;rw[show cu [] []=[]from by rw[cu],zX b.srt (λ u j=>by subst j;exact A.srt) ed i]at V;have t:=rh (m:=n) (a:=dJ p true) J;rw[gy fH k L,t.2];have x:=L.put (aZ e) (dJ p true);rw[t.2]at x;have E:y m=none:=((z.dom _ (dg d) id).trans jm);have g:y h.size=none:=((z.dom _ (aF F) id).trans f);have j:aC (Eq m) I h y G:=S.trans (C.weak λ _ _=>False.elim);have T:aC (Eq m) I h y (hset G m (.map (c8 X.toList n (aZ e) (dJ p true)).toArray n)):=j.setMap (.inr rfl) E;have a:=F.step C id;have I:df (hset G m (.map (c8 X.toList n (aZ e) (dJ p true)).toArray n)) h.size o l (s++[e]):=(dw zaa).trans a;refine⟨⟨s++[e],y,(c8 X.toList n (aZ e) (dJ p true)).toArray,I,P.1,T,E,g,bI (de (dg k)),bS x,bS ((Q.mono z.le).put J (V.mono (Y.trans H).le) w i),bS (t.1.trans q)⟩,?_⟩;have h1:=dX I;have N:=dX r;have Z:(s++[e]).length=s.length+1:=zab;have:=P.2;exact zaa
def D4(R:KV)(a b c d:Value)(e:Heap):Prop:=Rn e 107 a λ a e=>Lp (∃(f:V0)(g:N0),f e/\∀e,f e->(Nx e a false 0 λ i j=>Ex i 0 λ i=>Cd i (Et j a λ a b=>aW a λ a c=>Lk b 107 d a false λ i=>Lk b 107 d a false λ j=>Lk b 107 d a false λ k=>Iv b i "Set" #[] λ b i=>dn i 107 d a false j/\dn i 107 d a false k/\(Iv i c "Set" #[] λ c i=>dn i 107 d a false j/\dn i 107 d a false k/\(Cf i 89 #[b,c] λ b c=>dn c 107 d a false j/\dn c 107 d a false k/\(Iv c j "APIVersion" #[] λ c i=>dn i 107 d a false k/\(Iv i k "Applied" #[] λ i j=>Cf j 87 #[b,c,i] λ b c=>Mu c 107 d a b λ a=>(f a/\g a<g e)))))) (Rn j 107 b λ a b=>Lp (∃(e:V0)(f:N0),e b/\∀b,e b->(Nx b a false 0 λ g i=>Ex g 0 λ g=>Cd g (Et i a λ a c=>aW a λ a g=>Lk c 107 d a false λ i=>Lk c 107 d a false λ j=>Lk c 107 d a false λ k=>Iv c i "Set" #[] λ c i=>dn i 107 d a false j/\dn i 107 d a false k/\(Iv i g "Set" #[] λ g i=>dn i 107 d a false j/\dn i 107 d a false k/\(Cf i 89 #[c,g] λ c g=>dn g 107 d a false j/\dn g 107 d a false k/\(Iv g j "APIVersion" #[] λ g i=>dn i 107 d a false k/\(Iv i k "Applied" #[] λ i j=>Cf j 87 #[c,g,i] λ c g=>Mu g 107 d a c λ a=>(e a/\f a<f b)))))) (Rn i 107 d λ a b=>Lp (∃(e:V0)(f:N0),e b/\∀b,e b->(Nx b a false 0 λ g i=>Ex g 0 λ g=>Cd g (Et i a λ a c=>Ex a 0 λ a=>Lk c 107 d a false λ g=>Iv c g "Set" #[] λ c g=>Cf g 93 #[c] λ c g=>Cd c (De g #[107,9] 0 #[d,a] λ _ a=>(e a/\f a<f b)) (e g/\f g<f b)) (R (.tuple #[d,c,ni]) i)))))))))
theorem FC(Z:aN I h)(i:cJ h m=some (#[],0))(L:∀U,aD I h I U->DC R b a c U):D4 R (.map (some m)) b a c h:=by
 have z:=dg i;have C:aD I h I (h.push (.mapIter (some m) 0 #[] 0)):=aP Z;unfold D4;rw[hX Tryz.underlying107 i];refine⟨λ K=>df K h.size m 0 []/\aD I h I K,λ K=>0,⟨df.new,C⟩,?_⟩;rintro K⟨r,E⟩;refine im (E.map i id) (cP.nil 0) r (λ o=>?_) λ C x=>by simp at x
 exact zcz
theorem GC(Z:aN I h){g u:fP}{H:bF->bU}(c:Bool)(i:cJ h t=some (#[],0))(B:cJ h m=some (g,n))(J:cP g.toList n)(S:e6 I g.toList H)(Y:I m=none)(w:cJ h o=some (u,l))(k:cP u.toList l)(s:o≠m)(O:∀e∈u.toList,e.val=dJ b false/\aZ e∈g.toList.map aZ/\oV (H (aZ e)) V)(A:cz I b [] bA V)(r:(V.getD []).length<=1000000)(L:∀V U X,aC (Eq m) I h V U->cJ U m=some (X,n)->cP X.toList n->e6 V X.toList H->X.toList.map aZ=g.toList.map aZ->R (.tuple #[.map (some m),a,ni]) U):D8 R (.map (some t)) (.map (some o)) a (.map (some m)) (.bool (!c)) h:=by
 have z:=dg i;have p:D4 R (.map (some t)) (.map (some o)) a (.map (some m)) h:=FC Z i λ U G=>GA G.sat (G.map B id) J S Y (G.map w id) k s O A r λ V N X E=>L V N X (aC.trans (G.weak λ _ _=>False.elim) E);unfold D8;cases c
 ·try simp(disch:=omega)only[go_sem,↓reduceIte,g4 Tryz.underlying107 i]
  exact p
 ·refine rA ?_;exact p
def B2(R:KV)(a b c d e f g i j k:Value)(H:Heap):Prop:=Rn H 107 d λ H x=>Lp (∃(v:V0)(s:N0),v x/\∀x,v x->(Nx x H false 0 λ w p=>Ex w 0 λ w=>Cd w (Et p H λ f j=>aW f λ f H=>Eb j .eql 9 false false f e λ e=>Cd e (v j/\s j<s x) (Iv j H "APIVersion" #[] λ e j=>Lk j 263 k e true λ e=>aW e λ e w=>Lp (∃p:V1,(∀a b,p a b->(Nc a<|Fa b 190 a 1 λ c=>Ld b 173 c λ d=>bg b 190 a 2 λ e=>Ld b 173 e λ j=>Iv b H "Set" #[] λ b k=>aX k 190 a 1 c 173 d<|aX k 190 a 2 e 173 j<|(Cf k 90 #[d,j] λ c d=>Cf d 137 #[b,c] λ b c=>Lp (∃d:V0,(∀b,d b->(Nc a<|Fa b 190 a 0 λ c=>Ld b 173 c λ c=>Cf b 93 #[c] λ b c=>cD c b (bg c 190 a 0 λ b=>Ld c 173 b λ d=>Iv c H "APIVersion" #[] λ c e=>aX e 190 a 0 b 173 d<|(Cf e 87 #[d,c,bf] λ a b=>Mu b 107 i f a λ a=>(v a/\s a<s x))) (v c/\s c<s x)))/\(Cf c 93 #[b] λ a c=>cD c a (Iv c H "APIVersion" #[] λ a c=>Cf c 87 #[b,a,bf] λ a b=>Mu b 107 g f a λ a=>d a) (d c))))))/\(Nt j w λ g=>Cd g (bg j 192 a 0 λ e=>Ld j 168 e λ g=>Nc g<|Iv j H "APIVersion" #[] λ i j=>aX j 192 a 0 e 168 g<|(Iv j g "Convert" #[b,i] λ b e=>aW b λ b g=>bx e 109 g ni (aM e 192 a 0 168 λ a=>Iv e a "IsMissingVersionError" #[g] λ a b=>Cd a (De b #[107,9] 0 #[d,f] λ _ a=>(v a/\s a<s x)) (Cf b 91 #[(aU ⟨#[102,97,105,108,101,100,32,116,111,32,99,111,110,118,101,114,116,32,111,108,100,32,111,98,106,101,99,116]⟩)] λ a b=>R (.tuple #[cr,nilp,a]) b)) (bg e 192 a 0 λ g=>Ld e 168 g λ i=>Nc i<|Iv e H "APIVersion" #[] λ e j=>aX j 192 a 0 g 168 i<|(Iv j i "Convert" #[c,e] λ c e=>aW c λ c g=>bx e 109 g ni (aM e 192 a 0 168 λ a=>Iv e a "IsMissingVersionError" #[g] λ a b=>Cd a (De b #[107,9] 0 #[d,f] λ _ a=>(v a/\s a<s x)) (Cf b 91 #[(aU ⟨#[102,97,105,108,101,100,32,116,111,32,99,111,110,118,101,114,116,32,110,101,119,32,111,98,106,101,99,116]⟩)] λ a b=>R (.tuple #[cr,nilp,a]) b)) (Nc b<|Ld e 317 b λ b=>Cf e 134 #[b,c] λ b c=>aW b λ b d=>bx c 109 d ni (Cf c 91 #[(aU ⟨#[102,97,105,108,101,100,32,116,111,32,99,111,109,112,97,114,101,32,111,98,106,101,99,116,115]⟩)] λ a b=>R (.tuple #[cr,nilp,a]) b) (aM c 192 a 1 170 λ d=>bx c 170 d cr (bg c 192 a 1 λ d=>Ld c 170 d λ e=>Iv c H "APIVersion" #[] λ c f=>aX f 192 a 1 d 170 e<|(Iv f H "APIVersion" #[] λ f g=>aX g 192 a 1 d 170 e<|(Lk g 170 e f false λ a=>Cf g 135 #[b,a] λ a d=>Mu d 263 k c a λ a=>p b a))) (bg c 192 a 2 λ d=>Ld c 169 d λ e=>Iv c H "APIVersion" #[] λ c f=>aX f 192 a 2 d 169 e<|(Iv f H "APIVersion" #[] λ f g=>aX g 192 a 2 d 169 e<|(Lk g 169 e f false λ a=>Cf g 136 #[b,a] λ a d=>Mu d 263 k c a λ a=>p b a))))))))) (p e j))))) (Nt p f λ a=>aH p a (λ a b=>a g b) λ b c=>aH c a (λ a c=>Ln c 107 b λ b=>a b c) λ b c=>aH c a (λ a c=>Eb c .neq 3 false true b i0 λ b=>a b c) λ b c=>Pk a b bf λ a=>Cd a (Cf c 138 #[g] λ a b=>Mi b 199 a λ a=>R (.tuple #[cr,nilp,a]) b) (Rn c 107 g λ a b=>Lp (∃(c:V0)(e:N0),c b/\∀b,c b->(Nx b a false 0 λ f g=>Ex f 0 λ f=>Cd f (Et g a λ a f=>aW a λ a g=>Lk f 107 d a false λ i=>Lk f 107 d a false λ j=>Lk f 107 d a false λ k=>Iv f i "Set" #[] λ f i=>dn i 107 d a false j/\dn i 107 d a false k/\(Iv i g "Set" #[] λ g i=>dn i 107 d a false j/\dn i 107 d a false k/\(Cf i 89 #[f,g] λ f g=>dn g 107 d a false j/\dn g 107 d a false k/\(Iv g j "APIVersion" #[] λ g i=>dn i 107 d a false k/\(Iv i k "Applied" #[] λ i j=>Cf j 87 #[f,g,i] λ f g=>Mu g 107 d a f λ a=>(c a/\e a<e b)))))) (Rn g 107 i λ a b=>Lp (∃(c:V0)(e:N0),c b/\∀b,c b->(Nx b a false 0 λ f g=>Ex f 0 λ f=>Cd f (Et g a λ a f=>aW a λ a g=>Lk f 107 d a false λ i=>Lk f 107 d a false λ j=>Lk f 107 d a false λ k=>Iv f i "Set" #[] λ f i=>dn i 107 d a false j/\dn i 107 d a false k/\(Iv i g "Set" #[] λ g i=>dn i 107 d a false j/\dn i 107 d a false k/\(Cf i 89 #[f,g] λ f g=>dn g 107 d a false j/\dn g 107 d a false k/\(Iv g j "APIVersion" #[] λ g i=>dn i 107 d a false k/\(Iv i k "Applied" #[] λ i j=>Cf j 87 #[f,g,i] λ f g=>Mu g 107 d a f λ a=>(c a/\e a<e b)))))) (Rn g 107 d λ a b=>Lp (∃(c:V0)(e:N0),c b/\∀b,c b->(Nx b a false 0 λ f g=>Ex f 0 λ f=>Cd f (Et g a λ a f=>Ex a 0 λ a=>Lk f 107 d a false λ g=>Iv f g "Set" #[] λ f g=>Cf g 93 #[f] λ f g=>Cd f (De g #[107,9] 0 #[d,a] λ _ a=>(c a/\e a<e b)) (c g/\e g<e b)) (R (.tuple #[d,j,ni]) g)))))))))))))
theorem xx(s:dq E)(w:∀b,V=some b->dq b)(O:oV E V):fh (oG (some E) V)=true:=by
 cases V with
  |none=>rfl
  |some b=>
   have C:cy E b=[]:=by cases i:cy E b with|nil=>rfl|cons q ys=>have:=(hI (L:=q) _ _ s (w b rfl)).1 (by rw[i];exact zab);exact absurd this.2 (O q this.1)
   show fh (fC (cy E b))=true;rw[C];rfl
theorem mV{g:fx}{C:g8}(x:C∈c8 g m S a):(aZ C=S/\C.val=a)\/C∈g:=by
 by_cases Y:(cC g S).isSome=true
 ·exact(ov Y x).imp id λ O=>O.1
 ·unfold c8 at x;rw[if_neg Y]at x;rcases List.mem_append.1 x with O|O
  ·exact .inr O
  ·rw[List.mem_singleton.1 O];exact .inl ⟨rfl,rfl⟩
theorem Gs(Z:aN I h){y a0 x j:Nat}{g:fP}{H:bF->bU}{L:bn}(T:Bool)(a1:I v=aE #[aB a0,aB x,aB j] y)(A:ja I a0 x j L z V W)(p:cJ h u=some (#[gh (aB v)],1))(i:cJ h t=some (#[],0))(a2:cJ h l=some (#[],0))(w:cJ h m=some (g,n))(J:cP g.toList n)(ms:e6 I g.toList H)(Y:I m=none)(G:I l=none)(M:l≠m/\l≠t/\l≠u)(x:L.length<=50000)(F:z.length<=50000)(a3:∀e∈g.toList,aZ e≠S->∀q∈H (aZ e),∃a4∈L,q=.val a4/\a4∈z)(P:∀a5 U X,aC (λ b=>b=m\/b=l) I h a5 U->cJ U m=some (X,n)->cP X.toList n->e6 a5 X.toList H->X.toList.map aZ=g.toList.map aZ->R (.tuple #[.map (some m),aB v,ni]) U):B2 R a c d (.map (some m)) (aU S) (.bool T) (.map (some t)) (.map (some l)) (aB v) (.map (some u)) h:=by
 have y:=dg w;have z:=dg i;have C:=dg a2;have a:=dg p;have N:aD I h I (h.push (.mapIter (some m) n #[] n)):=aP Z;unfold B2;rw[hX Tryz.underlying107 w];refine⟨λ K=>∃s a5 u C,df K h.size m n s/\hD g.toList s/\aC (Eq l) I h a5 K/\a5 l=none/\a5 h.size=none/\cJ K l=some (u,C)/\cP u.toList C/\(∀e∈u.toList,e.val=dJ (aB a0) false/\aZ e∈g.toList.map aZ/\aZ e≠S),λ K=>g.toList.length-jq K h.size,⟨[],I,#[],0,df.new,hD.nil _,N.weak λ _ _=>False.elim,G,Z.fresh bu,N.map a2 id,cP.nil 0,zab⟩,?_⟩;rintro K⟨s,a5,u,C,r,Z,E,jr,f,D,k,O⟩;have d:=E.sat;have g:=E.map w M.1;have a:=E.map i M.2.1;have z:=E.map p M.2.2;have N:=aF r;have G:=E.le;have a6:=A.mono G;refine im g J r (λ Q=>?_) λ e x a7 h4 z j F=>?_
 ·refine rA ?_;show D8 R (.map (some t)) (.map (some l)) (aB v) (.map (some m)) (.bool (!T)) K;refine GC d T a g J (ms.mono G) ((E.dom _ y M.1).trans Y) D k M.1 (λ e x=>⟨(O e x).1,(O e x).2.1,λ q t hc=>?_⟩) a6.fr (cW A.lr) λ Y U X d N a g y=>P Y U X ((E.weak λ _=>λ _ c=>Or.inr c.symm).trans (d.weak λ _=>λ _ c=>Or.inl c.symm)) N a g y;obtain⟨X,i,R⟩:=List.mem_map.1 (O e x).2.1;obtain⟨a4,y,N,Q⟩:=a3 X i (R▸(O e x).2.2) q (R.symm▸t);obtain⟨t',T,B,g⟩:=(A.mr q).1 hc;rw[N]at B;cases B;exact g Q
 ·have P:=Z.next x a7;have Z:aC (Eq l) I h a5 h4:=gf E (.inl bu) f z j;have a:=Z.sat;have d:=Z.map w M.1;have z:=Z.map p M.2.2;have U:cJ h4 l=some (u,C):=bI ((j l zaa).trans (ip D));refine(ms e x).elim λ w R=>?_;have ev:=R.1;have w:=R.2.1.mono G;have c:=R.2.2.1;have c:=R.2.2.2;have K:=w.one;try simp(disch:=omega)only[go_sem,↓reduceIte,jk d J x F,J.str e x,ev]
  refine⟨λ M=>?_,λ M=>?_⟩
  ·refine⟨⟨s++[e],a5,u,C,F,P.1,Z,jr,f,U,k,O⟩,?_⟩;have y:=dX F;have N:=dX r;have Q:(s++[e]).length=s.length+1:=zab;have:=P.2;exact zaa
  ·have Y:aZ e≠S:=λ Y=>by rw[Y]at M;simp at M
   refine fc a K λ Q j=>?_;try simp(disch:=omega)only[go_sem,↓reduceIte,hN AM (j.map z id) (lm (aB v)).1,mU,Option.getD_some]
   refine⟨λ J B=>J=aB v/\aD a5 h4 a5 B,?_,?_⟩;rotate_left
   ·refine rA ?_;exact j
   rintro J B⟨rfl,R⟩;have M:=R.sat;refine rB (M _ _ (G _ _ a1)).c ?_;refine fN M K λ g p=>?_;have z:=R.trans p;refine rB (p.sat _ _ (G _ _ a1)).c ?_;refine kD p.sat a6.fm a6.fa (by split<;>simp) (by have:=A.la;have T:eR W=(W.getD []).length:=(by cases W<;>rfl);have g:eR none=0:=rfl;exact zaa) λ R R v S j=>?_;have c:=z.trans S;refine rA ?_;refine nz S.sat (w.mono S.le) j (by simp;split<;>simp[cl]) (by have:=A.la;have T:eR (oa none W)=(W.getD []).length:=(by cases W<;>rfl);have g:eR (some (H (aZ e)))=(H (aZ e)).length:=rfl;exact zaa) λ d a M v d=>?_;have z:=c.trans v;have j:=z.le;have c:=v.sat;have p:oV (H (aZ e)) W:=λ q t hc=>by obtain⟨a4,y,N,Q⟩:=a3 e x Y q t;obtain⟨t',T,B,g⟩:=(A.ma q).1 hc;rw[N]at B;cases B;exact g y
   have ei:((cy [] (cl [] (if L=[]then[El.fld bA]else[]))).isEmpty&&fh (oG (some (H (aZ e))) (oa none W)))=true:=by
    have S:cy [] (cl [] (if L=[]then[El.fld bA]else[]))=[]:=by rw[cy]
    rw[S];exact xx w.srt (λ b g=>by subst g;exact A.fa.srt) p
   refine rA ?_;refine⟨λ w=>aD a5 h4 a w,λ w g=>?_,?_⟩;rotate_left
   ·refine gl c d λ w g=>rB @ei ?_;exact z.trans g
   have B:=g.sat;have H:=a6.mono j;refine rB (B _ _ (j _ _ (G _ _ a1))).c ?_;refine gl B H.fr λ W A=>?_;have d:=A.sat;have T:=g.trans A;have c:=F.step T id;have p:a l=none:=(T.dom _ (dg U) id).trans jr;have E:a h.size=none:=(T.dom _ (aF F) id).trans f;have M:aC (Eq l) I h a W:=Z.trans (T.weak λ _ _=>False.elim);have A:=T.map U id;have Q:(s++[e]).length=s.length+1:=zab;have Q:=P.2;by_cases Q:fh V=true
   ·refine rC Q (@List.isEmpty_nil El) ?_;refine⟨⟨s++[e],a,u,C,c,P.1,M,p,E,A,k,O⟩,?_⟩;have y:=dX c;have N:=dX r;exact zaa
   ·have F:=aA (d _ _ (j _ _ (G _ _ a1)));try simp(disch:=omega)only[go_sem,↓reduceIte,Bool.eq_false_iff.2 Q,List.isEmpty_nil,Bool.and_false,F]
    refine fc d K λ d Z=>rB (Z.sat _ _ (j _ _ (G _ _ a1))).c ?_;refine ly rfl ?_;have R:=Z.map A id;rw[gy fH R k];have U:=c.step Z id;have D:=(Z.dom _ (dg A) id).trans p;have J:=(Z.dom _ (aF c) id).trans E;have G:aC (Eq l) I h a d:=M.trans (Z.weak λ _ _=>False.elim);have T:=G.setMap (s:=.map (c8 u.toList C (aZ e) (dJ (aB a0) false)).toArray (fz u.toList C (aZ e))) (.inr rfl) D;have H:=dg a2;have I:df (hset d l (.map (c8 u.toList C (aZ e) (dJ (aB a0) false)).toArray (fz u.toList C (aZ e)))) h.size m n (s++[e]):=(dw zaa).trans U;refine⟨⟨s++[e],a,(c8 u.toList C (aZ e) (dJ (aB a0) false)).toArray,fz u.toList C (aZ e),I,P.1,T,D,J,bI (de (dg R)),bS (k.put (aZ e) (dJ (aB a0) false)),λ X i=>?_⟩,?_⟩
    ·rcases mV (bS i)with⟨y,N⟩|y
     ·rw[y];exact⟨N,List.mem_map_of_mem x,Y⟩
     ·exact O X y
    ·have y:=dX I;have N:=dX r;exact zaa
def QD:(ce h 195 b ni (R a h) (aM h 190 a 0 173 λ c=>Nc (.func (.method "Filter") #[b] #[])<|Iv h b "Filter" #[c] λ c d=>bC d 190 a 0 173 c λ c=>aM c 190 a 1 173 λ d=>Nc (.func (.method "Filter") #[b] #[])<|Iv c b "Filter" #[d] λ c d=>bC d 190 a 1 173 c λ c=>aM c 190 a 2 173 λ d=>Nc (.func (.method "Filter") #[b] #[])<|Iv c b "Filter" #[d] λ b c=>bC c 190 a 2 173 b λ b=>R a b))->Cf h 136 #[a,b] R:=mS Tryz.func136 (Z (Q cg (Q Hp (Q Hp (Q Hp bG)))))
open Go.MapKept in theorem wt{T:Value->Prop}(W:g0 m=some (o,l,a)){A:bF}:Lk h m cr (aU A) false T=T a:=by obtain⟨O,Y,k⟩:=iP W;refine cV λ E M=>?_;obtain⟨p,y,N,-⟩:=fw (E:=E) Y (g:=[]) zab (A:=A);cases p with|some l=>simp[cC]at N|none=>unfold Instr.lookup;simp only[Sem.run_bind,bD O,Result.andThen_ok,Sem.run_pure,run_checkKey (n:=9999) Y (mW A),Array.toList_empty,y,g3 k];rfl
theorem wX(L:R a h):Cf h 136 #[a,ni] R:=by refine QD (rA ?_);exact L
theorem zH(Z:aN I h){M P:Option Nat}{L:bn}{E:fP}{H:bF->bU}(a0:Bool)(O:I m=aE #[.iface 99 a,cr,cr,bf] n)(s:dr I b A)(D:cU I bT ⟨o,0,none⟩)(y:TV I c f b o)(a:TV I d g b o)(j:PV I f (.iface 242 (.map M)))(i:PV I g (.iface 242 (.map P)))(u:dE I M L)(w:dE I P z)(T:L.Nodup)(A:z.Nodup)(x:L.length<=50000)(P:z.length<=50000)(g:z≠[])(B:cJ h l=some (E,t))(M:cP E.toList t)(ms:e6 I E.toList H)(Y:I l=none)(Q:∀e∈E.toList,aZ e≠S->∀q∈H (aZ e),∃G∈L,q=.val G/\G∈z)(G:∀k V U X,aC (Eq l) I h V U->cJ U l=some (X,t)->cP X.toList t->e6 V X.toList H->X.toList.map aZ=E.toList.map aZ->R (.tuple #[.map (some l),aB k,ni]) U):Cf h 86 #[aB m,c,d,aU bV,.map (some l),aU S,.bool a0] R:=by
 have K:aG f=true:=by obtain⟨H,e,rfl,-⟩:=j;rfl
 have F:aG b=true:=by obtain⟨H,e,o,rfl,-⟩:=s;rfl
 have p:=dg B;have z:=Z.dom O;apply Wr;refine gq y λ n v W E=>?_;have z:=Z.dom E;have C:aD I h I ((h.push (.map #[] 0)).push (.map #[] 0)):=aP Z;refine rE (Z _ _ E).c W K F ?_;refine wG C.sat s D a j i u w T A zaa zaa g λ k y W o v i H V K r s A=>?_;have n:=C.trans r;have i:=n.sat;have W:=n.le;have D:=r.size;(try simp only[bJ]at D);have y:blk K h.size=some (.map #[] 0):=r.blk Bk id;have w:blk K (h.size+1)=some (.map #[] 0):=r.blk Bk id;refine rB (i _ _ (W _ _ O)).c ?_;refine⟨λ J u=>J=.map (some K.size)/\aD I h V u/\blk u K.size=some (.map #[gh (aB k)] 1)/\blk u h.size=some (.map #[] 0)/\blk u (h.size+1)=some (.map #[] 0),?_,?_⟩
 ·rintro J u⟨rfl,v,D,N,T⟩;show B2 R (aB m) c d (.map (some l)) (aU S) (.bool a0) (.map (some h.size)) (.map (some (h.push (.map #[] 0)).size)) (aB k) (.map (some K.size)) u;(try simp only[bJ]);have a:=v.le;refine Gs v.sat a0 s A (bI D) (bI N) (bI T) (v.map B id) M (ms.mono a) ((v.dom _ p id).trans Y) ?_ ⟨zaa,zaa,zaa⟩ x P Q λ E U X N l a b q=>?_
  ·exact(r.dom (h.size+1) (by(try simp only[bJ]);exact zaa) id).trans (Z.fresh zaa)
  ·exact G k E U X (aC.trans' (v.weak λ _ _=>False.elim) N λ r Y F=>zaa) l a b q
 ·try simp(disch:=omega)only[go_sem,↓reduceIte,aA (i _ _ (W _ _ O)),wt AR]
  refine wX ?_;have bb:blk (K.push (.map #[] 0)) K.size=some (.map #[] 0):=Bk;show Mu _ 263 _ _ _ _;rw[gy AM (bI bb) (cP.nil 0),show∀X,Obj.map (c8 (Array.toList #[]) 0 bV X).toArray (fz (Array.toList #[]) 0 bV)=Obj.map #[gh X] 1 from λ _=>rfl];have d:aD I h V (K.push (.map #[] 0)):=n.push _;have u:V K.size=none:=i.fresh bu;have g:(K.push (Obj.map #[] 0)).size=K.size+1:=zbD;exact⟨rfl,d.setMap (.inl zaa) u,de zaa,(dw zaa).trans (bz y),(dw zaa).trans (bz w)⟩
def Wd:(Ag h (Instr.makeMap 107 none) λ d e=>Rn e 107 c λ c e=>Lp (∃(f:V0)(g:N0),f e/\∀e,f e->(Nx e c false 0 λ i j=>Ex i 0 λ i=>Cd i (Et j c λ c i=>aW c λ c j=>bg i 192 a 0 λ k=>Ld i 168 k λ l=>Nc l<|Iv i j "APIVersion" #[] λ i m=>aX m 192 a 0 k 168 l<|(Iv m l "Convert" #[b,i] λ b i=>aW b λ b k=>aM i 192 a 0 168 λ a=>Iv i a "IsMissingVersionError" #[k] λ a i=>Cd a (f i/\g i<g e) (bx i 109 k ni (R (bj cr k) i) (Iv i j "Set" #[] λ a i=>Cf i 133 #[a,b] λ a b=>aW a λ a i=>bx b 109 i ni (R (bj cr i) b) (bx b 173 a nilp (Iv b j "APIVersion" #[] λ b i=>Iv i j "Applied" #[] λ i j=>Cf j 87 #[a,b,i] λ a b=>Mu b 107 d c a λ a=>(f a/\g a<g e)) (Mu b 107 d c j λ a=>(f a/\g a<g e))))))) (R (bj d ni) j))))->Cf h 85 #[a,b,c] R:=mS Tryz.func85 (Z (Z (Q (Z (B (O [] (Z (Q d8 (B (Z (Q EL (Q cF (Q cg (Z (Q cg cF)))))))))))) bG)))
theorem lz{g:fx}{J:Value}:T∈(c8 g t S J).map aZ↔T=S\/T∈g.map aZ:=by
 by_cases Y:(cC g S).isSome=true
 ·rw[(rh (m:=t) (a:=J) Y).1];refine⟨.inr,λ O=>O.elim (λ O=>?_) id⟩;subst O;cases i:cC g T with
   |none=>rw[i]at Y;cases Y
   |some X=>
    obtain⟨C,y,N⟩:∃C∈g,aZ C=T:=by unfold cC at i;obtain⟨C,y,-⟩:=Option.map_eq_some_iff.1 i;exact⟨C,List.mem_of_find?_eq_some y,(Go.MapKept.bytes_beq _ _).1 (List.find?_some (p:=λ C=>aZ C==T) y)⟩
    exact N▸List.mem_map_of_mem y
 ·unfold c8;rw[if_neg Y,List.map_append,List.mem_append,or_comm];exact or_congr zcO Iff.rfl
theorem FH{O:Heap}(Z:aN I O){B:Value}{g:fP}{H:bF->bU}(v:I m=aE #[.iface 99 B,cr,cr,bf] n)(hc:f8 I B a l)(hs:dr I a A)(hn:cU I bT ⟨l,0,none⟩)(M:TV I b d a l)(T:aG d=true)(B:cJ O t=some (g,u))(J:cP g.toList u)(D:e6 I g.toList H)(W:∀V U X q,aD I O V U->V O.size=none->cJ U O.size=some (X,q)->cP X.toList q->e6 V X.toList H->(∀k,k∈X.toList.map aZ↔k∈g.toList.map aZ)->R (bj (.map (some O.size)) ni) U):Cf O 85 #[aB m,b,.map (some t)] R:=by
 have p:=dg B;have s:aD I O I (O.push (.map #[] 0)):=aP Z;have w:=s.map B id;refine Wd (rA ?_);rw[hX Tryz.underlying107 w];have C:aD I O I ((O.push (.map #[] 0)).push (.mapIter (some t) u #[] u)):=s.push _;refine⟨λ K=>∃s V X q,df K (O.size+1) t u s/\hD g.toList s/\aD I O V K/\V O.size=none/\V (O.size+1)=none/\cJ K O.size=some (X,q)/\cP X.toList q/\e6 V X.toList H/\(∀k,k∈X.toList.map aZ↔k∈s.map aZ),λ K=>g.toList.length-jq K (O.size+1),⟨[],I,#[],0,?_,hD.nil _,C,Z.fresh zaa,Z.fresh zaa,bI Bk,cP.nil 0,by simp[e6],zab⟩,?_⟩
 ·have:=df.new (h:=O.push (.map #[] 0)) (m:=t) (n:=u);(try simp only[bJ]at this);exact zbX
 rintro K⟨s,V,X,q,R,Z,E,a,ji,g,L,Q,ks⟩;(try simp only[bJ]);have i:=E.sat;have e:=E.size;have A:=E.map B id;have m:=aF R;have G:=E.le;refine im A J R (λ H=>?_) λ C x n b z j F=>?_
 ·refine rA ?_;have l:=Z.all J H;exact W V K X q E a g L Q λ k=>(ks k).trans ⟨λ Y=>by obtain⟨f,y,N⟩:=List.mem_map.1 Y;exact N▸List.mem_map_of_mem (Z.sub f y),λ Y=>by obtain⟨f,y,N⟩:=List.mem_map.1 Y;exact N▸List.mem_map_of_mem (l f y)⟩
 ·have P:=Z.next x n;have S:aD I O V b:=gf E (.inl zaa) ji z j;have i:=S.sat;have d:=S.map B id;have p:cJ b O.size=some (X,q):=bI ((j _ zaa).trans (ip g));refine(D C x).elim λ w W=>?_;have ev:=W.1;have b:=W.2.1.mono G;have l:=W.2.2.1;have f:=W.2.2.2;have K:=b.one;have g:=dg p;try simp(disch:=omega)only[go_sem,↓reduceIte,jk d J x F,J.str C x,ev,aA (i _ _ (G _ _ v))]
  refine fc i K λ A D=>?_;have S5:=D.sat;try simp(disch:=omega)only[go_sem,↓reduceIte,aA (S5 _ _ (G _ _ v)),dH qj]
  refine jA S5 (hc.mono G) (M.mono G) T λ M e T M J=>?_;have W:=G.trans M.le;have x:=M.sat;try simp(disch:=omega)only[go_sem,↓reduceIte,aA (x _ _ (W _ _ v)),dH Sk]
  refine Gx x (hc.mono W) λ B T=>?_;have U:=T.sat;refine rA ?_;refine fN U K λ Y Y=>rA ?_;refine uA Y.sat (hs.mono W) (hn.mono W) J (b.mono M.le) λ G H=>rA ?_;have z:=(((D.trans M).trans T).trans Y).trans H;have v:=z.map p id;rw[gy fH v L];have j:e O.size=none:=(z.dom _ g id).trans a;have g:e (O.size+1)=none:=(z.dom _ (aF F) id).trans ji;have Y:aD I O e G:=S.trans z;have a:=F.step z id;have T:=Y.setMap (s:=.map (c8 X.toList q (aZ C) (dJ w true)).toArray (fz X.toList q (aZ C))) (.inl bu) j;have I:df (hset G O.size (.map (c8 X.toList q (aZ C) (dJ w true)).toArray (fz X.toList q (aZ C)))) (O.size+1) t u (s++[C]):=(dw zaa).trans a;refine⟨⟨s++[C],e,(c8 X.toList q (aZ C) (dJ w true)).toArray,fz X.toList q (aZ C),I,P.1,T,j,g,bI (de (dg v)),bS (L.put (aZ C) (dJ w true)),λ a i=>?_,λ k=>?_⟩,?_⟩
  ·rcases mV (bS i)with⟨y,N⟩|y
   ·rw[y];exact⟨w,N,b.mono z.le,l,f⟩
   ·exact Q.mono z.le a y
  ·rw[show(c8 X.toList q (aZ C) (dJ w true)).toArray.toList=c8 X.toList q (aZ C) (dJ w true)from rfl,lz,ks,List.map_append,List.mem_append,or_comm];exact zab
  ·have y:=dX I;have N:=dX R;have A:(s++[C]).length=s.length+1:=zab;have:=P.2;exact zaa
def Wy:(Cf h 85 #[a,b,e] λ e i=>aW e λ e j=>bx i 109 j ni (Ag i (Instr.makeMap 107 none) λ a b=>R (.tuple #[nilp,a,j]) b) (Nc b<|Ld i 317 b λ j=>Cf i 114 #[j,c] λ i j=>aW i λ i k=>bx j 109 k ni (Ag j (Instr.makeMap 107 none) λ a b=>Cf b 91 #[dO 0x6661696c656420746f206d6572676520636f6e666967] λ b c=>R (.tuple #[nilp,a,b]) c) (Lk j 107 e f false λ k=>Nc c<|Ld j 317 c λ c=>Cf j 115 #[c] λ c j=>aW c λ c l=>bx j 109 l ni (Ag j (Instr.makeMap 107 none) λ a b=>Cf b 91 #[dO 0x6661696c656420746f20676574206669656c6420736574] λ b c=>R (.tuple #[nilp,a,b]) c) (aM j 192 a 1 170 λ l=>Eb j .neq 170 false true l cr λ l=>aH j l (λ b c=>b a c) λ j m=>aH m l (λ a b=>Nc j<|a j b) λ j m=>aH m l (λ a b=>Fa b 192 j 2 λ c=>a c b) λ j m=>aH m l (λ a b=>Ld b 169 j λ c=>a c b) λ j m=>aH m l (λ a b=>Eb b .neq 169 false true j cr λ c=>a c b) λ j m=>Pk l j bf λ j=>Cd j (Cf m 91 #[dO 0x49676e6f726546696c74657220616e642049676e6f726546696c746572206d6179206e6f7420626f746820626520736574] λ a b=>R (.tuple #[nilp,cr,a]) b) (Lp (∃j:V1,(∀l m,j l m->(Lp (∃j:V1,(∀c l,j c l->(Cf l 87 #[c,d,bt] λ c j=>Mu j 107 e f c λ c=>Cf c 116 #[a,i,e,f,k] λ c i=>aW c λ c j=>bx i 109 j ni (Ag i (Instr.makeMap 107 none) λ a b=>Cf b 91 #[dO 0x6661696c656420746f207072756e65206669656c6473] λ b c=>R (.tuple #[nilp,a,b]) c) (Cf i 86 #[a,b,c,d,e,f,g] λ d e=>aW d λ f _=>Ex d 2 λ d=>bx e 109 d ni (Ag e (Instr.makeMap 107 none) λ a b=>R (.tuple #[nilp,a,d]) b) (Lp (∃d:V1,(∀a b,d a b->(R (.tuple #[a,f,ni]) b))/\(aM e 192 a 3 4 λ a=>Nt e a λ a=>aH e a (λ a c=>a b c) λ b e=>aH e a (λ a c=>Nc b<|a b c) λ b e=>aH e a (λ a c=>Ld c 317 b λ b=>a b c) λ e f=>aH f a (λ a b=>a c b) λ f g=>aH g a (λ a b=>Nc f<|a f b) λ f g=>aH g a (λ a b=>Ld b 317 f λ c=>a c b) λ g i=>aH i a (λ a b=>Cf b 118 #[] λ b c=>a b c) λ i j=>GR a true e (bh j 317 b e)/\GR a true g (bh j 317 f g)/\(aH j a (λ a b=>Cf b 119 #[e] λ b c=>a b c) λ b e=>GR a true g (bh e 317 f g)/\(aH e a (λ a b=>Cf b 119 #[g] λ b c=>a b c) λ e f=>aH f a (λ a c=>Cf c 117 #[i,b,e] λ b c=>a b c) λ b e=>Pk a b bf λ a=>Cd a (d nilp e) (d c e)))))))))/\(bx m 195 l ni (Iv m l "Filter" #[c] λ a b=>j a b) (j c m)))))/\(aM m 192 a 1 170 λ b=>bx m 170 b cr (aM m 192 a 1 170 λ a=>Lk m 170 a d false λ a=>Cf m 92 #[a] λ a b=>j a b) (aM m 192 a 2 169 λ a=>Lk m 169 a d false λ a=>j a m))))))))->Cf h 64 #[a,b,c,d,e,f,g] R:=mS Tryz.func64 (Z (Z (Z (Q cg (Z (Q cg (Z (Z (Q cg (Q cg (Z (Y [21] cF (Y [20] cF (Z (Z (Q cg (Z (Q cg (Y [18] (Q (X #[0,1,3,7,15,31,63,63,191,447,1023,63,2111,6207,16383,32767,65535]) d8) bG)))))))))))))))))))
def putS(H:bF->bU)(w:bF)(c:bU):bF->bU:=λ k=>if k=w then c else H k
theorem he{H:bF->bU}:putS H S E S=E:=if_pos rfl
theorem iA{H:bF->bU}(O:T≠S):putS H S E T=H T:=if_neg O
theorem dM.root(B:dM I a z)(f:z≠[]):∃x,a=.iface 242 (.map x)/\dE I x z:=by obtain⟨W,a,rfl,y,N⟩:=B;exact⟨some W,rfl,W,rfl,.inr ⟨f,a,y,N⟩⟩
theorem e6.putS{g:fx}{H:bF->bU}{c:Nat}{w:bF}(B:e6 I g H)(J:cP g c)(b:cz I a [] bA (some E))(f:E.length<=1000)(D:E≠[]):e6 I (c8 g c w (dJ a true)) (putS H w E):=λ C x=>by
 have p:∀C:g8,aZ C=w->C.val=dJ a true->∃a,C.val=dJ a true/\cz I a [] bA (some (Go.Proofs.YtgmgmmoofjikiaaGreat.putS H w E (aZ C)))/\(Go.Proofs.YtgmgmmoofjikiaaGreat.putS H w E (aZ C)).length<=1000/\Go.Proofs.YtgmgmmoofjikiaaGreat.putS H w E (aZ C)≠[]:=λ C y N=>by rw[y,he];exact⟨a,N,b,f,D⟩
 by_cases Y:(cC g w).isSome=true
 ·rcases ov Y x with⟨y,N⟩|⟨y,N⟩
  ·exact p C y N
  ·rw[iA N];exact B C y
 ·unfold c8 at x;rw[if_neg Y]at x;rcases List.mem_append.1 x with O|O
  ·have e:aZ C≠w:=λ F=>Y (qS (F▸List.mem_map_of_mem O));rw[iA e];exact B C O
  ·rw[List.mem_singleton]at O;subst O;exact p _ rfl rfl
def qh(V:aK)(p A:Value)(t:Nat)(L r:bn):Prop:=(L=r/\p=nilp)\/(L≠r/\∃J G,TV V p J A t/\PV V J G/\dM V G r)
def Fk(T:aK)(J:Value)(j:bU):Prop:=(J=ni/\j=[])\/∃M,J=dJ M true/\cz T M [] bA (some j)/\j≠[]/\j.length<=1000
theorem Dq(Z:aN I h){j:fP}{H:bF->bU}(O:I m=aE #[.iface 99 a,cr,cr,bf] n)(k:f8 I a b o)(s:dr I b A)(D:cU I bT ⟨o,0,none⟩)(v:TV I c d b o)(X:PV I d f)(u:dM I f z)(C:z≠[])(a:z.Nodup)(x:z.length<=50000)(q:Fk I g E)(B:cJ h l=some (j,t))(K:cP j.toList t)(t:e6 I j.toList H)(n:j.toList.length<=50)(M:S∈j.toList.map aZ)(Y:∃G∈z,∃e∈j.toList,El.val G∈H (aZ e))(L:∀w J G y V U,aD I h V U->TV V w J b o->PV V J G->dM V G y->y.Nodup->y≠[]->y.length<=z.length->(∀G,G∈y↔G∈z/\((∃e∈j.toList,El.val G∈H (aZ e))\/El.val G∉E))->R (bj w ni) U):Cf h 116 #[aB m,c,.map (some l),aU S,g] R:=by
 rcases q with⟨rfl,rfl⟩|⟨g,rfl,g,A,r⟩
 ·exact AI (L c d f z I h (aC.refl Z) v X u a C bu λ G=>zab)
 ·obtain⟨p,i,q⟩:=List.mem_map.1 M;obtain⟨P,y,N,-,-⟩:=t p i;have z:cC j.toList S=some (dJ P true):=by rw[<-y,<-q];exact K.look i
  refine A0 (y:=λ e=>H (aZ e)) Z O k s D v X u C a x g A zaa B K t.mgS n ?_ z N.one λ w J G V U E C i W=>?_
  ·obtain⟨G,K,Q⟩:=Y;exact List.ne_nil_of_mem (mem_keepL.2 ⟨K,Q⟩)
  ·refine L w J G _ V U E C i W (Dr a) ?_ (zU _ _) λ G=>?_
   ·obtain⟨G,K,Q⟩:=Y;exact List.ne_nil_of_mem (mem_keepL.2 ⟨K,.inl (mem_keepL.2 ⟨K,Q⟩)⟩)
   ·rw[mem_keepL,mem_keepL];exact⟨λ F=>⟨F.1,F.2.imp (λ h=>h.2) id⟩,λ F=>⟨F.1,F.2.imp (λ h=>⟨F.1,h⟩) id⟩⟩
theorem uo(Z:aN I h)(s:dr I d A)(D:cU I bT ⟨m,0,none⟩)(p:PV I a b)(v:dM I b z)(f:z≠[])(G:z.Nodup)(l:z.length<=100)(L:∀w c V U,aD I h V U->cz V w [] bA (some c)->CI c z->c.length<=1000->R (bj w ni) U):Cf h 115 #[.agg #[a,aB m,nilp,nilp,nilp,nilp,bf,d]] R:=by refine lQ (g:=.lst z) Z s D p v ⟨G,by show z.length<_;exact zaa⟩ λ w c V U Q r H=>?_;cases c with|none=>exact zbT|some c=>have N:=H.2;simp only[fZ,Option.getD_some]at N;exact L w c V U Q r ⟨H.1,zaa⟩ zaa
theorem zS{k:Prop}:GR bt true a k=k:=by unfold GR gB;exact zab
theorem F3{g:fx}{H:bF->bU}(J:cP g m)(S:e6 I g H)(E:bF):∃j,Fk I ((cC g E).getD ni) j/\(E∈g.map aZ->j=H E)/\(E∉g.map aZ->j=[]):=by
 by_cases M:E∈g.map aZ
 ·obtain⟨X,i,q⟩:=List.mem_map.1 M;obtain⟨P,y,N,K,Q⟩:=S X i;have z:cC g E=some (dJ P true):=by rw[<-y,<-q];exact J.look i
  rw[q]at N K Q;exact⟨H E,.inr ⟨P,by rw[z];rfl,N,Q,K⟩,λ _=>rfl,λ O=>absurd M O⟩
 ·have:cC g E=none:=by
   cases i:cC g E with
    |none=>rfl
    |some J=>exfalso;unfold cC at i;obtain⟨C,y,-⟩:=Option.map_eq_some_iff.1 i;exact M ((Go.MapKept.bytes_beq _ _).1 (List.find?_some (p:=λ C=>aZ C==E) y)▸List.mem_map_of_mem (List.mem_of_find?_eq_some y))
  rw[this];exact⟨[],.inl ⟨rfl,rfl⟩,λ O=>absurd O M,λ _=>rfl⟩
theorem CM{g:fx}:(c8 g m S a).length<=g.length+1:=by unfold c8;split<;>simp
theorem C7(T:aN I h){M:Option Nat}{E:bF}{L:bn}{a0:fP}{H:bF->bU}(a1:Bool)(O:I m=aE #[.iface 99 r,cr,cr,bf] n)(hc:f8 I r a l)(s:dr I a A)(D:cU I bT ⟨l,0,none⟩)(a2:TV I d f a l)(vl:PV I f (.iface 242 (.map M)))(ol:dE I M L)(K:TV I e g a l)(F:PV I g i)(oc:dM I i z)(dL:L.Nodup)(j:z.Nodup)(x:L.length<=10000)(bN:z.length<=100)(x:z≠[])(B:cJ h t=some (a0,u))(J:cP a0.toList u)(S:e6 I a0.toList H)(Y:a0.toList.length<=49)(a3:∀G,G∈L↔∃k∈a0.toList.map aZ,El.val G∈H k)(a4:∀k∈a0.toList.map aZ,∀q∈H k,∃G,q=El.val G)(hR:∀Y p r Z X W V U,aD I h V U->h.size<=p->cJ U p=some (X,W)->cP X.toList W->e6 V X.toList (putS H E Z)->(∀k,k∈X.toList.map aZ↔k=E\/k∈a0.toList.map aZ)->CI Z z->r.Nodup->r≠[]->r.length<=L.length+z.length->(∀G,G∈r↔∃k∈X.toList.map aZ,El.val G∈putS H E Z k)->qh V Y a l L r->R (.tuple #[Y,.map (some p),ni]) U):Cf h 64 #[aB m,d,e,aU bV,.map (some t),aU E,.bool a1] R:=by
 have a5:aG f=true:=by obtain⟨u,C,rfl,-⟩:=vl;rfl
 have V:aG g=true:=by obtain⟨u,C,rfl,-⟩:=F;rfl
 have os:aG a=true:=by obtain⟨u,C,W,rfl,-⟩:=s;rfl
 obtain⟨M,e,a9x⟩:=oc.root x;have n:=e▸F;refine gq a2 λ X d W a6=>?_;refine gq K λ bc d f i=>?_;apply Wy;refine FH T O hc s D a2 a5 B J S λ V y d mc1 A a7 B Y m a8=>?_;have X:=A.sat;have S:=A.le;refine rC (X _ _ (S _ _ a6)).c W ?_;refine Dz X (s.mono S) (D.mono S) (K.mono S) (vl.mono S) (n.mono S) (ol.mono S) (a9x.mono S) dL j zaa zaa x λ N X T U e N g p a9 M dm aa e=>?_;have r:=g.sat;have n:=S.trans g.le;have X:=g.map B id;try simp(disch:=omega)only[go_sem,↓reduceIte,f,aA (r _ _ (n _ _ i)),f1 fH X Y.str]
 refine uo r (s.mono n) (D.mono n) (F.mono n) (oc.mono n) x j bN λ R Z t K r j iN S=>?_;have i:=r.sat;have V:=n.trans r.le;refine rB (i _ _ (V _ _ O)).c ?_;refine⟨λ J f=>J=ni/\aD t K t f,λ J f F=>?_,?_⟩;rotate_left
 ·try simp(disch:=omega)only[go_sem,↓reduceIte,aA (i _ _ (V _ _ O)),wt AR]
  exact aC.refl i
 have ev:=F.1;have n:=F.2;refine⟨λ J T=>J=R/\aD t K t T,λ J T F=>?_,?_⟩;rotate_left
 ·try simp(disch:=omega)only[go_sem,↓reduceIte,ev]
  exact n
 have ev:=F.1;have n:=F.2;try simp(disch:=omega)only[go_sem,↓reduceIte,ev]
 refine ly j.one ?_;have f:=r.trans n;have i:=f.map X id;have Qg:=n.sat;refine(gy fH i Y).mpr ?_;have mN:∀G,El.val G∈Z↔G∈z:=λ G=>iN.val;have ac:=(m.mono (g.le.trans f.le)).putS (w:=E) (c:=mc1) Y j S (iN.ne x);have ad:=Y.put E (dJ R true);have S:∀k,k∈(c8 d.toList mc1 E (dJ R true)).map aZ↔k=E\/k∈a0.toList.map aZ:=λ k=>by rw[lz,a8]
 have n:d.toList.length<=a0.toList.length:=by have:=List.Nodup.length_le_of_subset Y.keys λ k hk=>(a8 k).1 hk;exact zai
 have ae:t h.size=none:=(f.dom _ (dg X) id).trans ((g.dom _ (dg B) id).trans a7);have V:aD I h t T:=(A.trans g).trans f;have sH:=V.setMap (s:=.map (c8 d.toList mc1 E (dJ R true)).toArray (fz d.toList mc1 E)) (.inl bu) ae;have B:cJ (hset T h.size (.map (c8 d.toList mc1 E (dJ R true)).toArray (fz d.toList mc1 E))) h.size=some ((c8 d.toList mc1 E (dJ R true)).toArray,fz d.toList mc1 E):=bI (de (dg i));have V:=sH.le;have n:=g.le.trans f.le;refine(F3 Y (m.mono n) E).elim λ j m=>?_;have Y:E∈(c8 d.toList mc1 E (dJ R true)).map aZ:=(S E).2 (.inl rfl);have t:=f.le;have f:U≠[]:=λ C=>by obtain⟨X,i⟩:=List.exists_mem_of_ne_nil _ x;have:=(e X).2 (.inr i);rw[C]at this;cases this
 have n:∃G∈U,∃C∈(c8 d.toList mc1 E (dJ R true)),El.val G∈putS H E Z (aZ C):=by obtain⟨X,i⟩:=List.exists_mem_of_ne_nil _ x;obtain⟨C,y,N⟩:=List.mem_map.1 Y;exact⟨X,(e X).2 (.inr i),C,y,by rw[N,he];exact(mN X).2 i⟩
 refine Dq sH.sat (V _ _ O) (hc.mono V) (s.mono V) (D.mono V) (p.mono t) (a9.mono t) (M.mono t) f dm zaa m.1 B ad ac (by have:=CM (g:=d.toList) (m:=mc1) (S:=E) (a:=dJ R true);show(c8 d.toList mc1 E (dJ R true)).length<=50;exact zaa) Y n λ t v5 t5 A p U j X af ag g i x t=>?_;have S5:=j.sat;have r:=V.trans j.le;have n:=j.map B id;have M:p h.size=none:=(j.dom _ (dg B) id).trans ae;have f:∀P:bF->Prop,(∃C∈(c8 d.toList mc1 E (dJ R true)).toArray.toList,P (aZ C))↔∃k∈(c8 d.toList mc1 E (dJ R true)).map aZ,P k:=λ P=>⟨λ⟨C,y,N⟩=>⟨aZ C,List.mem_map_of_mem y,N⟩,λ⟨k,y,N⟩=>by obtain⟨C,K,U⟩:=List.mem_map.1 y;exact⟨C,K,U.symm▸N⟩⟩;have mL:∀G,G∈A↔∃k∈(c8 d.toList mc1 E (dJ R true)).map aZ,El.val G∈putS H E Z k:=λ G=>by
  rw[t,f λ k=>El.val G∈putS H E Z k];refine⟨λ F=>F.2.elim id λ N=>?_,λ F=>⟨?_,.inl F⟩⟩
  ·rcases(e G).1 F.1 with K|K
   ·obtain⟨k,T,x0⟩:=(a3 G).1 K;by_cases V:k=E
    ·subst V;rw[m.2.1 ((a8 _).2 T)]at N;exact absurd x0 N
    ·exact⟨k,(S k).2 (.inr T),by rw[iA V];exact x0⟩
   ·exact⟨E,Y,by rw[he];exact(mN G).2 K⟩
  ·obtain⟨k,T,B⟩:=F;by_cases V:k=E
   ·rw[V,he]at B;exact(e G).2 (.inr ((mN G).1 B))
   ·rw[iA V]at B;rcases(S k).1 T with f|f
    ·exact absurd f V
    ·exact(e G).2 (.inl ((a3 G).2 ⟨k,f,B⟩))
 have K:∀C∈(c8 d.toList mc1 E (dJ R true)).toArray.toList,aZ C≠E->∀q∈putS H E Z (aZ C),∃G∈L,q=.val G/\G∈A:=λ C m V q p=>by have t:=p;rw[iA V]at p;have e:aZ C∈(c8 d.toList mc1 E (dJ R true)).map aZ:=List.mem_map_of_mem m;have m:aZ C∈a0.toList.map aZ:=((S _).1 e).resolve_left V;obtain⟨G,rfl⟩:=a4 _ m q p;exact⟨G,(a3 G).2 ⟨_,m,p⟩,rfl,(mL G).2 ⟨_,e,t⟩⟩
 have m:A.length<=L.length+z.length:=Nat.le_trans x aa;refine(ag.root i).elim λ t z=>?_;have t:=z.1▸af;have H:aG v5=true:=by obtain⟨u,C,rfl,-⟩:=af;rfl
 refine rA ?_;refine zH S5 a1 (r _ _ O) (s.mono r) (D.mono r) (a2.mono r) X (vl.mono r) t (ol.mono r) z.2 dL g zaa zaa i n ad (ac.mono j.le) M K λ C e T p C Y V u n=>?_;have x:=C.sat;have M:=r.trans C.le;have s:aD I h e T:=(sH.trans j).trans' C λ k hk F=>zaa;refine rB (x _ _ (M _ _ O)).c ?_;have q:=C.le;have K:∀k,k∈p.toList.map aZ↔k∈(c8 d.toList mc1 E (dJ R true)).map aZ:=λ k=>by rw[n]
 refine⟨λ J U=>qh e J a l L A/\aD e T e U,λ J U F=>?_,?_⟩
 ·exact hR J h.size A Z p _ e U (s.trans F.2) bu (F.2.map Y id) V u (λ k=>(K k).trans (S k)) iN g i m (λ G=>(mL G).trans ⟨λ⟨k,y,N⟩=>⟨k,(K k).2 y,N⟩,λ⟨k,y,N⟩=>⟨k,(K k).1 y,N⟩⟩) F.1
 ·refine gq (X.mono q) λ R D D I=>rF (x _ _ (M _ _ O)).c (x _ _ (M _ _ a6)).c (x _ _ I).c W D ?_;refine dZ x λ R B T=>?_;have U:=T.sat;refine rF (U _ _ (M _ _ a6)).c (U _ _ I).c W D @zS ?_;refine jg U a5 os λ f Y=>?_;have s:=Y.sat;refine rF (s _ _ (M _ _ a6)).c (s _ _ I).c W D @zS ?_;refine jg s H os λ l H=>?_;have m:=H.sat;refine rA ?_;refine D6 (u:=decide (L=A)) m (vl.mono M) (t.mono q) (λ y G Q m=>BI G.sat (ol.mono M) (z.2.mono q) i zaa zaa m) λ h u=>?_;have z:=((T.trans Y).trans H).trans u;by_cases m:L=A
  ·have G:decide (L=A)=true:=decide_eq_true m;refine rB G ?_;exact⟨.inl ⟨m,rfl⟩,z⟩
  ·have G:decide (L=A)=false:=decide_eq_false m;refine rB G ?_;exact⟨.inr ⟨m,v5,t5,X.mono q,af.mono q,ag.mono q⟩,z⟩
theorem rL{T:aK}(Z:aN T h)(p:er T a z)(L:∀X V U,aD T h V U->jj V X z->R (jl X) U):Cf h 204 #[a] R:=by
 obtain⟨q,rfl,B,V,rfl,t,-,D,-,k⟩:=p;refine DT (rA ?_);refine⟨λ a Q=>∃(M:Nat)(X:Value),a=aR M/\M<=z.length/\aD T h T Q/\h.size+1<Q.size/\blk Q h.size=some gv/\blk Q (h.size+1)=aE #[aR 5,i0,f0,s0,n0,X] 35/\aQ (h.size+2) T Q 35 6 X M ((z.take M).flatMap strC),λ a _=>match a with|.int _ M=>z.length-M.toNat|_=>0,?_,?_⟩
 ·refine⟨0,n0,rfl,zaa,?_,?_,?_,?_,?_⟩
  ·exact aP Z
  ·(try simp only[bJ]);exact zaa
  ·exact Bk
  ·exact Bk
  ·exact aQ.nil ..
 rintro _ Q⟨M,X,rfl,d,j,a,U,m,W⟩;have e:=W.one;refine rA ?_;refine⟨λ y=>?_,λ y=>?_⟩
 ·have o:M<z.length:=bS y;obtain⟨u,s,rfl,r⟩:=k zaa;have aI:=j.sat.cell (r M (bE z[M]) zbL);try simp(disch:=omega)only[go_sem,↓reduceIte,aI,aA m,aS m]
  refine mq j.sat λ A C=>?_;have O:=j.trans C;have J:=C.size;have l:=C.blk U id;have A:=C.blk m id;have w:=W.step C λ _ _=>id;refine rB A.b ?_;refine bY gc rfl zaa zaa (v:=M) (c:=(z.take M).flatMap strC) (u:=h.size+2) (T:=T) Bk (Ow w) (show aD T h T _ from bX Z O).sat rfl zac zaa (by(try simp only[bJ]);exact zaa) ?_;intro s N J Y G E;have g:aD T h T N:=aC.touch (show aD T h T _ from bX Z O) Y λ P V=>⟨.inl (cW (w.1.block V).1),w.2 P V⟩;have K:=Y.size;(try simp only[bJ]at K);have t:∀P,X.ownBlock=some P->h.size+2<=P:=λ P V=>(w.1.block V).1;have V:=Y.blk (b:=h.size) (bz l) (λ F=>cW (t _ F));have c:=Y.blk (b:=h.size+1) (bz A) (λ F=>cW (t _ F));have H:=J.one;refine rC c.b H ?_;refine⟨⟨M+1,s,rfl,zaa,?_,by(try simp only[bJ]);exact zaa,?_,?_,?_⟩,zaa⟩
  ·exact bX Z g
  ·exact bz V
  ·exact bz c
  ·refine aQ.put ?_ zaa;have:(z.take (M+1)).flatMap strC=(z.take M).flatMap strC++strC z[M]:=by rw[List.take_add_one,List.flatMap_append,List.getElem?_eq_getElem o];exact zab
   rw[this];exact J
 ·have x:M=z.length:=by have:¬M<z.length:=bS y;exact zaa
  subst x;rw[List.take_length]at W;refine rD m.c U.b e ?_;have p:∀F,aD T h T F->aQ (h.size+2) T F 35 6 X z.length (z.flatMap strC)->R (jl X) F:=by intro F q v;obtain⟨f,i,c⟩:=v.frz q zaa D (n8 z);exact L _ _ _ f c
  refine p _ (bX Z j) (Ow W)
theorem sJ{T:aK}(Z:aN T h)(p:dM T a z)(L:∀X V U,aD T h V U->d6 V X z->R X U):Cf h 204 #[a] R:=by
 obtain⟨W,G,rfl,w,l⟩:=p;have J:cP (Array.toList #[(⟨gZ,G,0⟩:g8)]) 1:=⟨zcO,zab,zab,zab⟩;have F:=Z.dom w;refine DT (rA ?_);refine od (show aD T h T _ from aP Z).sat w J zab λ X q V y v i e=>?_;have d:q=[⟨#[97]⟩]:=List.perm_singleton.1 e;subst d;have s:aD T h V y:=aC.trans (aP Z) v;have o:=v.size;(try simp only[bJ]at o);have b0:blk y h.size=some gv:=v.blk Bk id;have x:blk y (h.size+1)=aE #[aR 6,i0,f0,s0,n0,n0] 35:=v.blk Bk id;have e:=i.one;have r:=i;have D:V h.size=none:=(v.dom _ (by(try simp only[bJ]);exact zaa) id).trans (Z.fresh zaa);have C:V (h.size+1)=none:=(v.dom _ (by(try simp only[bJ]);exact zaa) id).trans (Z.fresh zaa);obtain⟨f,u,rfl,P,-,-,-,y⟩:=i;obtain⟨N,W,rfl,j⟩:=y zab;have m:=j 0 gZ rfl;(try simp only[bJ]);refine rC x.b e ?_;refine⟨λ a Q=>∃p,blk Q h.size=some gv/\blk Q (h.size+1)=aE #[aR 6,i0,f0,s0,bq N W 1 u,p] 35/\((a=i0/\p=n0/\aD T h V Q)\/(a=i1/\∃E q,aD T h E Q/\V.le E/\E h.size=none/\jj E q z/\aQ (h.size+2) E Q 35 6 p 1 [aR 5,i0,f0,s0,n0,q])),λ a _=>match a with|.int _ M=>1-M.toNat|_=>0,?_,?_⟩
 ·refine⟨n0,bz b0,bz x,.inl ⟨rfl,rfl,s.put (.inl zaa) C⟩⟩
 rintro a Q⟨p,t,V,⟨rfl,rfl,j⟩|⟨rfl,E,q,j,G,x,y,B⟩⟩
 ·have S5:=j.sat;have c:aI Q N W=some gZ:=bS (S5.cell m);have a:=aF V;try simp(disch:=omega)only[go_sem,↓reduceIte,aA V,c,Int.toNat_zero,f1 mJ (bI (S5 _ _ (j.le _ _ w))) J.1,sI,Option.getD_some]
  refine rL S5 (l.mono j.le) λ q E Y M y=>?_;have a:=y.one;have O:=j.trans M;have w:=M.blk t id;have A:=M.blk V id;have c:=M.size;refine rC A.b a ?_;have U:E h.size=none:=(M.dom _ zaa id).trans D;have k:E (h.size+1)=none:=(M.dom _ zaa id).trans C;refine bY gc rfl zaa zaa (v:=0) (c:=[]) (u:=h.size+2) (T:=E) Bk (aQ.nil ..) (show aD T h E _ from bX Z O).sat rfl zbw zaa (by(try simp only[bJ]);exact zaa) ?_;intro s l J Y f C;have g:aD T h E l:=aC.touch (show aD T h E _ from bX Z O) Y λ P z=>zcb;have K:=Y.size;(try simp only[bJ]at K);have f0:=Y.blk (b:=h.size) (bz w) zap;have f:=Y.blk (b:=h.size+1) (bz A) zap;have H:=J.one;(try simp only[bJ]);refine rC f.b H ?_;refine⟨⟨s,bz f0,bz f,.inr ⟨E,q,g.put (.inl zaa) k,M.le,U,y,?_⟩⟩,zaE⟩;refine aQ.put ?_ zaa;exact J
 ·have S:=B.one;refine rE V.c t.b S e ?_;have m:∀F,aD T h E F->aQ (h.size+2) E F 35 6 p 1 [aR 5,i0,f0,s0,n0,q]->R (dU (bq N W 1 u) p) F:=by intro F d v;have a:=y.one;obtain⟨f,i,c⟩:=v.frz d zaa zaa zbw;exact L _ _ _ f ⟨_,_,q,rfl,(r.mono G).mono i,c,y.mono i⟩
  refine m _ ?_ (Ow B);repeat'(first|with_reducible exact j|with_reducible refine aC.put ?_ (Or.inl ?_) ?_|exact x|omega)
def PM:(Al h 35 λ b c=>ce c 101 a nilp (Bd c 35 #[] λ a=>Sr c 35 b a λ a=>Rv a 35 b λ b=>R b a) (Nc a<|Ld c 317 a λ a=>Cf c 119 #[a] λ a c=>Cf c 146 #[a] λ a c=>Sr c 35 b a λ a=>Rv a 35 b λ b=>R b a))->Cf h 95 #[a] R:=mS Tryz.func95 oY
abbrev MH:Value:=.agg #[i0,i0,f0,s0,n0,n0]
theorem d6.vv(B:d6 I a z):∃k p,a=dU k p/\aG k=true/\aG p=true:=by obtain⟨k,p,X,rfl,y,N,-⟩:=B;exact⟨k,p,rfl,y.one,N.one⟩
theorem rM(Z:aN I h)(p:PV I a b)(l:dM I b z)(L:∀X V U,aD I h V U->d6 V X z->R X U):Cf h 146 #[a] R:=by
 obtain⟨u,C,rfl,j⟩:=p;have w:aG b=true:=by obtain⟨W,q,rfl,-⟩:=l;rfl
 have o:=Z.dom j;refine GG (rB (Z _ _ j).c ?_);refine e7 (show aD I h I _ from aP Z).sat w λ N P=>?_;have C:aD I h I N:=aC.trans (aP Z) P;have g:=P.size;(try simp only[bJ]at g);have H:=P.blk (show blk (h.push (aV #[i0,i0,f0,s0,n0,n0] 35)) h.size=some _ from zaq) id;refine sJ C.sat l λ X V K r i=>?_;have n:=C.trans r;have J:=r.blk H id;have e:=r.size;have u:V h.size=none:=(r.dom _ zaa id).trans (Z.fresh bu);exact zaQ
theorem rO(Z:aN I h)(L:∀U,aD I h I U->R MH U):Cf h 95 #[nilp] R:=by refine PM (rA ?_);exact zaC
theorem ud(Z:aN I h)(e:TV I a b c m)(F:aG c=true)(p:PV I b d)(l:dM I d z)(L:∀X V U,aD I h V U->d6 V X z->R X U):Cf h 95 #[a] R:=by have x:aG b=true:=zav;obtain⟨u,C,rfl,j⟩:=e;have o:=Z.dom j;refine PM (rB (Z _ _ j).c ?_);refine jg (show aD I h I _ from aP Z).sat x F λ N P=>?_;have C:aD I h I N:=aC.trans (aP Z) P;have g:=P.size;(try simp only[bJ]at g);have H:blk N h.size=some gv:=P.blk Bk id;refine rM C.sat p l λ X V K r i=>?_;have n:=C.trans r;have J:=r.blk H id;have e:=r.size;have u:V h.size=none:=(r.dom _ zaa id).trans (Z.fresh bu);exact zaQ
def Xa:(Cf h 147 #[a] λ b c=>Ln c 32 b λ d=>Lp (∃(e:V2)(f:N2),e n0 i0 c/\∀c g i,e c g i->(bv i .lss 3 g d (Ia i 32 b g λ b=>Ld i 9 b λ b=>Lk i 107 a b false λ a=>Iv i a "APIVersion" #[] λ d j=>Iv j a "Applied" #[] λ j k=>Iv k a "Set" #[] λ a k=>Cf k 148 #[a] λ a k=>Bd k 52 #[(0,b),(1,d),(2,j),(3,a)] λ a=>Bs k 36 1 #[(0,a)] λ a b=>Ap b 36 c a λ a b=>Bi b .add 3 g i1 λ d=>(e a d b/\f a d b<f c g i)) (R c i))))->Cf h 96 #[a] R:=mS Tryz.func96 (Z (Z (Q (Z (B (O [3,10] (Z (Q d8 (Q (B cX) L)))))) bG)))
abbrev mgC(w:bF×Value):bW:=[aU w.1,aU bV,bt,w.2]
structure kx(I:aK)(v:Value)(rows:List (bF×Value))(cs:bF->bU):Prop where
 sl:cd I v 4 rows.length (rows.flatMap mgC)
 ok:∀p∈rows,eP I p.2 ((cs p.1).map (jL bA))/\dq (cs p.1)/\(cs p.1).length<=1000/\cs p.1≠[]
theorem kx.mono(O:I.le J){t:List (bF×Value)}{H:bF->bU}(B:kx I a t H):kx J a t H:=⟨B.sl.mono O,λ w e=>⟨(B.ok w e).1.mono O,(B.ok w e).2⟩⟩
theorem eP.one{D:List bU}(B:eP I a D):aG a=true:=by obtain⟨g,f,-⟩:=B;exact f.one
theorem kw{T:aK}(Z:aN T h){g:fP}{H:bF->bU}(B:T m=some (.map g o))(J:cP g.toList o)(S:e6 T g.toList H)(k:g.size<1000)(hR:∀X t V U,aD T h V U->kx V X t H->(t.map (·.1)).Perm (g.toList.map aZ)->R X U):Cf h 96 #[.map (some m)] R:=by
 apply Xa;refine nY Z B J zaa λ X q A y v i e=>?_;obtain⟨T,U,rfl,m,-,D,-,k⟩:=i;have uh:q.length=g.size:=by have:=e.length_eq;exact zai
 refine rA ?_;refine⟨λ d R Q=>∃(M:Nat)(V:aK)(t:List (bF×Value)),R=aR M/\M<=q.length/\aD A y V Q/\aQ y.size V Q 52 4 d M (t.flatMap mgC)/\t.map (·.1)=q.take M/\∀w∈t,eP V w.2 ((H w.1).map (jL bA)),λ _ R _=>match R with|.int _ M=>q.length-M.toNat|_=>0,⟨0,A,[],rfl,zaa,aC.refl v.sat,aQ.nil ..,rfl,zab⟩,?_⟩;rintro d _ Q⟨M,V,t,rfl,d,j,W,i,p⟩;have h:=W.one;refine rA ?_;refine⟨λ F=>?_,λ F=>?_⟩
 ·have o:M<q.length:=bS F;obtain⟨u,s,rfl,r⟩:=k zaa;have aI:=j.sat.cell (cE j.le (r M (aU q[M]) zbL));have r:=v.le.trans j.le;have S5:=j.sat;obtain⟨C,x,D⟩:=List.mem_map.1 (e.mem_iff.1 (List.getElem_mem o));obtain⟨w,ev,b,c,f⟩:=S C x;have l:cC g.toList q[M]=some (dJ w true):=by rw[<-ev,<-D];exact J.look x
  have K:=b.one;try simp(disch:=omega)only[go_sem,↓reduceIte,aI,f1 fH (bI (S5 _ _ (r _ _ B))) J.str,l,Option.getD_some]
  refine fc S5 K λ T s=>rC l (@Option.getD_some Value) ?_;refine t7 s.sat K λ B P=>rC l (@Option.getD_some Value) ?_;refine fN P.sat K λ N Y=>rA ?_;refine yG Y.sat (b.mono r) (by show(H (aZ C)).length<_;exact zaa) λ X E G J Q=>?_;have L:eP E X ((H q[M]).map (jL bA)):=D▸Q;have z:=((s.trans P).trans Y).trans J;have B:=j.trans z;have P:=L.one;have N:=W.step z λ _ _=>id;have d:=B.size;refine rB P ?_;refine bY Fb rfl zaa zaa (v:=M) (c:=t.flatMap mgC) (u:=y.size) (T:=E) Bk (Ow N) (show aD A y E _ from bX Z B).sat rfl (by simp[dy,cS,di,bZ,cn,cT,cB,dC,dB,cZ,dp,P]) zaa (by(try simp only[bJ]);exact zaa) ?_;intro s h T a O P;refine rA ?_;refine⟨⟨M+1,E,t++[(q[M],X)],rfl,zaa,aC.touch (show aD A y E _ from bX Z B) a λ P O=>⟨.inl (N.1.block O).1,N.2 P O⟩,?_,?_,?_⟩,zaa⟩
  ·rw[List.flatMap_append,List.flatMap_cons,List.flatMap_nil,List.append_nil];exact T
  ·rw[List.map_append,i,List.take_add_one,List.getElem?_eq_getElem o];rfl
  ·intro w e;rcases List.mem_append.1 e with e|e
   ·exact(p w e).mono z.le
   ·rw[List.mem_singleton.1 e];exact L
 ·have x:M=q.length:=by have:¬M<q.length:=bS F;exact zaa
  subst x;refine rA ?_;have o:=v.trans j;have u:∀T∈t.flatMap mgC,aG T=true:=by intro T O;obtain⟨w,e,s⟩:=List.mem_flatMap.1 O;have:=(p w e).one;simp only[List.mem_cons,List.not_mem_nil,or_false]at s;rcases s with rfl|rfl|rfl|rfl<;>first|rfl|exact this
  have a:t.length=q.length:=by have:=congrArg List.length i;exact zai
  have G:=W.frz o v.size zaa u;refine hR _ t _ _ G.1 ⟨by rw[a];exact G.2.2,λ w O=>⟨(p w O).mono G.2.1,?_⟩⟩ (by rw[i,List.take_length];exact e);have a:w.1∈q:=by have:w.1∈t.map (·.1):=List.mem_map_of_mem O;rw[i,List.take_length]at this;exact zbX
  obtain⟨C,x,D⟩:=List.mem_map.1 (e.mem_iff.1 a);obtain⟨i,ev,b,c,f⟩:=S C x;rw[D]at b c f;exact⟨b.srt,c,f⟩
def VZ:(Ag h (Instr.makeMap 107 none) λ b c=>Ln c 36 a λ d=>Lp (∃(e:V1)(f:N1),e i0 c/\∀c g,e c g->(bv g .lss 3 c d (Ia g 36 a c λ a=>Ld g 52 a λ a=>bH g 52 a λ a d=>Fa d 52 a 0 λ i=>Ld d 9 i λ j=>Fa d 52 a 3 λ k=>Ld d 50 k λ k=>Fa d 52 a 1 λ l=>Ld d 9 l λ m=>Fa d 52 a 2 λ n=>Ld d 4 n λ o=>Cf d 82 #[k] λ d k=>aX k 52 a 0 i 9 j<|aX k 52 a 1 l 9 m<|aX k 52 a 2 n 4 o<|(Cf k 87 #[d,m,o] λ d k=>aX k 52 a 0 i 9 j<|(Mu k 107 b j d λ a=>Bi a .add 3 c i1 λ b=>(e b a/\f b a<f c g)))) (R b g))))->Cf h 43 #[a] R:=mS Tryz.func43 (Z (Z (Q (Z (B (O [9] (Z (Q d8 (Q (B (Z (X #[0,0,2,0,8,24,0,64,0,256,1016,2047]))) L)))))) bG)))
theorem rZ(Z:aN I h){t:List (bF×Value)}{H:bF->bU}(p:kx I a t H)(b:(t.map (·.1)).Nodup)(L:∀V U g A,aD I h V U->cJ U h.size=some (g,A)->cP g.toList A->e6 V g.toList H->(∀k,k∈g.toList.map aZ↔k∈t.map (·.1))->R (.map (some h.size)) U):Cf h 43 #[a] R:=by
 obtain⟨⟨B,O,rfl,c,-,D,-,S⟩,N⟩:=p;refine VZ (rA ?_);refine⟨λ a Q=>∃(M:Nat)(V:aK)(g:fP)(A:Nat),a=aR M/\M<=t.length/\aD I h V Q/\V h.size=none/\cJ Q h.size=some (g,A)/\cP g.toList A/\e6 V g.toList H/\(∀k,k∈g.toList.map aZ↔k∈(t.take M).map (·.1)),λ a _=>match a with|.int _ M=>t.length-M.toNat|_=>0,⟨0,I,#[],0,rfl,zaa,aP Z,Z.fresh zaa,bI Bk,cP.nil 0,by simp[e6],zab⟩,?_⟩;rintro _ Q⟨M,V,g,A,rfl,d,j,u,n,i,W,l⟩;have p:=dg n;refine rA ?_;refine⟨λ F=>?_,λ F=>?_⟩
 ·have U:M<t.length:=bS F;obtain⟨x,s,rfl,r⟩:=S zaa;have D:∀M S,(t.flatMap mgC)[M]?=some S->bP I x (s+M)=some S:=r;have S5:aN I Q:=λ k q p=>j.sat k q (j.le k q p);have X:=gD (c:=mgC) (m:=4) S5 (λ _=>rfl) D U (zaa:0<4);have w:=cj (c:=mgC) (m:=4) S5 (λ _=>rfl) D U (zaa:1<4);have x:=cj (c:=mgC) (m:=4) S5 (λ _=>rfl) D U (zaa:2<4);have m:=cj (c:=mgC) (m:=4) S5 (λ _=>rfl) D U (zaa:3<4);have v:=N t[M] (List.getElem_mem U);have E:=v.1.one;refine rF X w x m E ?_;have b:=j.sat;have X:blk Q h.size=some (.map g A):=ip n;have K:aD I h V (aO (aO (aO (aO (Q.push (aV #[s0,s0,bf,n0] 52)) Q.size 0 (aU t[M].1)) Q.size 1 (aU bV)) Q.size 2 bt) Q.size 3 t[M].2):=bX b j;refine B4 (E:=H t[M].1) K.sat (v.1.mono j.le) zaa λ w R E T m r e J=>?_;have O:=K.trans m;have x:=m.sat;have c:blk T Q.size=aE #[aU t[M].1,aU bV,bt,t[M].2] 52:=m.blk Bk id;have d:R=some (H t[M].1):=by cases R with|none=>exact absurd (J.1 rfl) v.2.2.2|some Y=>exact congrArg some (m0 r.srt v.2.1 λ q=>e q)
  have z:=d▸r;have K:=z.one;have G:cJ (aO (aO (aO (aO (Q.push (aV #[s0,s0,bf,n0] 52)) Q.size 0 (aU t[M].1)) Q.size 1 (aU bV)) Q.size 2 bt) Q.size 3 t[M].2) h.size=some (g,A):=bI (bz X);have Y:=m.map G id;have P:E h.size=none:=(m.dom _ (dg G) id).trans u;refine rB c.c ?_;refine ly K ?_;refine rB c.c ?_;rw[gy fH Y i];refine rA ?_;have T:=O.setMap (s:=.map (c8 g.toList A t[M].1 (dJ w true)).toArray (fz g.toList A t[M].1)) (.inl bu) P;refine⟨⟨M+1,E,(c8 g.toList A t[M].1 (dJ w true)).toArray,fz g.toList A t[M].1,rfl,zaa,T,P,bI (de (dg Y)),bS (i.put t[M].1 (dJ w true)),λ C x=>?_,λ k=>?_⟩,zaa⟩
  ·rcases mV (bS x)with⟨y,N⟩|y
   ·rw[y];exact⟨w,N,z,v.2.2.1,v.2.2.2⟩
   ·exact W.mono m.le C y
  ·rw[show(c8 g.toList A t[M].1 (dJ w true)).toArray.toList=c8 g.toList A t[M].1 (dJ w true)from rfl,lz,l,List.take_add_one,List.getElem?_eq_getElem U,List.map_append,List.mem_append,or_comm];exact zab
 ·have x:M=t.length:=by have:¬M<t.length:=bS F;exact zaa
  subst x;refine rA ?_;exact L V Q g A j n i W (by rw[List.take_length]at l;exact l)
def W7:(Bx h 41 a λ a c=>Bx c 99 b λ b c=>Ld c 99 b λ b=>Mi c 99 b λ b=>Fa c 41 a 8 λ d=>Ld c 4 d λ d=>Bd c 172 #[(0,b),(3,d)] λ b=>bH c 172 b λ b c=>Lp (∃d:V0,(∀a,d a->(Cf a 84 #[b] λ a b=>R a b))/\(Fa c 41 a 6 λ e=>Ld c 38 e λ e=>Ln c 38 e λ e=>bv c .gtr 3 e i0 (Ag c (Instr.makeMap 170 none) λ c e=>Fa e 41 a 6 λ f=>Ld e 38 f λ f=>Ln e 38 f λ g=>Lp (∃(i:V1)(j:N1),i i0 e/\∀e k,i e k->(bv k .lss 3 e g (Ia k 38 f e λ a=>Ld k 127 a λ a=>bH k 127 a λ a b=>Fa b 127 a 0 λ d=>Ld b 9 d λ f=>Fa b 127 a 1 λ g=>Ld b 50 g λ g=>Cf b 82 #[g] λ b g=>aX g 127 a 0 d 9 f<|(Mu g 170 c f b λ a=>Bi a .add 3 e i1 λ b=>(i b a/\j b a<j e k))) (Fa k 41 a 7 λ a=>Ld k 4 a λ a=>Cd a (Cf k 83 #[c] λ a c=>Fa c 172 b 1 λ b=>Sr c 169 b a λ a=>d a) (Fa k 172 b 2 λ a=>Sr k 170 a c λ a=>d a))))) (d c))))->Cf h 41 #[a,b] R:=mS Tryz.func41 (Z (Z (Y [] (Z (C (Z (Q (Z (B (O [22] (Z (Q d8 (Q (B (Z (X #[0,0,2,0,8,24,63]))) L)))))) cF)) L)) bG)))
def Wv:(aM h 172 a 0 168 λ b=>aM h 172 a 1 169 λ c=>aM h 172 a 2 170 λ d=>aM h 172 a 3 4 λ a=>Bd h 192 #[(0,b),(2,c),(1,d),(3,a)] λ a=>Bx h 192 a λ a b=>R a b)->Cf h 84 #[a] R:=mS Tryz.func84 (Z (Q (X #[0,1,3,7,0,16,48,112,0,256,768,1792,0,4096,12288,28672,65535,131071,262143]) L))
def Wu:(Bx h 99 a λ a d=>Bx d 41 b λ b d=>Fa d 41 b 2 λ e=>Ld d 35 e λ e=>Cf d 79 #[e] λ d e=>Lp (∃f:V1,(∀d e,f d e->(Fa e 99 a 1 λ f=>Ld e 86 f λ g=>Ld e 99 a λ i=>Fa e 41 b 11 λ j=>Ld e 4 j λ k=>Cf e 40 #[i,c] λ c e=>aX e 99 a 1 f 86 g<|aX e 41 b 11 j 4 k<|(Cf e 81 #[g,c,d,k] λ a b=>aW a λ a c=>R (bj a c) b)))/\(Fa e 41 b 10 λ g=>Ld e 9 g λ g=>Eb e .neq 9 false true g s0 λ g=>aH e g (λ a c=>Fa c 41 b 10 λ b=>a b c) λ e i=>aH i g (λ a b=>Ld b 9 e λ c=>a c b) λ e i=>aH i g (λ a b=>a c b) λ i j=>aH j g (λ a b=>Eb b .neq 9 false false e i λ c=>a c b) λ e i=>Pk g e bf λ e=>Cd e (Ld i 99 a λ a=>Fa i 41 b 10 λ b=>Ld i 9 b λ b=>Cf i 80 #[a,d,b,c] λ a b=>f a b) (f d i))))->Cf h 38 #[a,b,c] R:=mS Tryz.func38 (Z (Z (Y [8] cF (Q (X #[0,1,0,0,12,0,0,64,255,511,511,2047,4095]) L))))
abbrev tT:Value:=aU ⟨#[116]⟩
abbrev wV(q k p D y:Value):Value:=.agg #[q,bt,tT,s0,n0,n0,s0,aR 6,i0,f0,s0,k,p,D,n0,n0,n0,bf,bf,n0,y,bf]
theorem f8.ones(B:f8 I a b m):∃N l,a=.agg #[n0,b,aB m,nilp,nilp,nilp,nilp,bf,.map (some N),.map (some l)]/\aG b=true:=by obtain⟨N,l,C,-,-,O⟩:=B;exact⟨N,l,C,O⟩
theorem tS(Z:aN I h)(X:aG a=true)(t:aG c=true)(W:aG d=true)(u:aG e=true)(q:aG f=true)(k:f8 I g i m)(L:∀z D V U,aD I h V U->V z=aE #[.iface 99 g,cr,cr,bf] D->R (aB z) U):Cf h 41 #[wV a c d e f,g] R:=by
 obtain⟨N,l,rfl,F⟩:=k.ones;refine W7 (rG X t W u q F ?_);refine⟨λ Q=>aD I h I Q/\blk Q (h.size+2)=aE #[.iface 99 (.agg #[n0,i,aB m,nilp,nilp,nilp,nilp,bf,.map (some N),.map (some l)]),cr,cr,bf] 172,λ Q F=>?_,?_⟩
 ·have E:=F.1;have bb:=F.2;refine Wv (rB bb.c ?_);have d:aD I h I (Q.push (aV #[.iface 99 (.agg #[n0,i,aB m,nilp,nilp,nilp,nilp,bf,.map (some N),.map (some l)]),cr,cr,bf] 192)):=E.push _;have K:=d.one (b:=Q.size) E.size;exact L Q.size 192 _ _ K.1 (aK.one_eq Bk)
 ·refine rA ?_;exact⟨aP Z,Bk⟩
def kp(T:aK)(k p:Value)(L:bn):Prop:=(L=[]/\k=n0/\p=n0)\/(L≠[]/\d6 T (dU k p) L)
theorem kp.mono(O:I.le J){L:bn}(B:kp I a b L):kp J a b L:=B.imp id λ F=>⟨F.1,F.2.mono O⟩
theorem kp.ones{L:bn}(B:kp I a b L):aG a=true/\aG b=true:=by
 rcases B with⟨-,rfl,rfl⟩|⟨-,F⟩
 ·exact⟨rfl,rfl⟩
 ·obtain⟨e,o,X,C,y,N,-⟩:=F;simp only[Value.agg.injEq,Array.mk.injEq,List.cons.injEq,and_true,true_and]at C;rw[C.1,C.2];exact⟨y.one,N.one⟩
theorem zx(Z:aN I h){L:bn}(f:kp I a b L)(T:L.Nodup)(x:L.length<1000000)(u:∀G x c V U,aD I h V U->G=.iface 242 (.map x)->dE V x L->kP V G c->vP c->R G U):Cf h 79 #[dU a b] R:=by
 rcases f with⟨rfl,rfl,rfl⟩|⟨e,F⟩
 ·refine zb Z λ G V U E l=>?_;have i:=l;obtain⟨W,rfl,w⟩:=l;exact u _ (some W) none V U E rfl ⟨W,rfl,.inl ⟨rfl,w⟩⟩ i λ _ h=>by cases h
 ·refine qI Z F λ G V U E l=>?_;obtain⟨x,C,w⟩:=l.root e;exact u G x (some L) V U E C w l λ H f=>by cases f;exact⟨T,zaa⟩
theorem Um:((⟨#[]⟩:bF).toList==(⟨#[]⟩:bF).toList)=true:=zab
theorem SP:(bV.toList==(⟨#[]⟩:bF).toList)=false:=zag
theorem Sb:(bV.toList==bV.toList)=true:=zab
theorem Fx(Z:aN I h){t:Value}{L:bn}(X:aG a=true)(v:aG e=true)(p:S=⟨#[]⟩\/S=bV)(k:f8 I t f m)(s:dr I f A)(P:cU I bT ⟨m,0,none⟩)(z:kp I b d L)(T:L.Nodup)(H:L.length<1000000)(y:∀w J x V U,aD I h V U->TV V w J f m->PV V J (.iface 242 (.map x))->dE V x L->R (bj w bt) U):Cf h 38 #[t,wV a b d e (aU S),aU bV] R:=by
 have K:=z.ones.1;have W:=z.ones.2;obtain⟨N,l,i,F⟩:=k.ones;refine Wu (rG i X K W v F ?_);have C:aD I h I ((h.push (aV #[n0,f,aB m,nilp,nilp,nilp,nilp,bf,.map (some N),.map (some l)] 99)).push (aV #[a,bt,tT,s0,n0,n0,s0,aR 6,i0,f0,s0,b,d,e,n0,n0,n0,bf,bf,n0,aU S,bf] 41)):=aP Z;refine zx C.sat z T H λ G x g V K r H R v A=>?_;have n:=C.trans r;have bc:blk K h.size=aE #[n0,f,aB m,nilp,nilp,nilp,nilp,bf,.map (some N),.map (some l)] 99:=r.blk Bk id;have j:blk K (h.size+1)=aE #[a,bt,tT,s0,n0,n0,s0,aR 6,i0,f0,s0,b,d,e,n0,n0,n0,bf,bf,n0,aU S,bf] 41:=r.blk Bk id;(try simp only[bJ]);refine rA ?_;refine⟨λ J Q=>J=G/\aD V K V Q,λ J Q B=>?_,?_⟩
 ·have ev:=B.1;have D:=B.2;have E:=D.blk bc id;have Z:=D.blk j id;have W:=n.le;refine rD E.c Z.c F ?_;rw[<-i];have o:=n.trans D;refine lZ o.sat (k.mono W) λ T M=>?_;have r:=M.blk E id;have b:=M.blk Z id;(try simp only[bJ]);try simp(disch:=omega)only[go_sem,↓reduceIte,aA r,aA b,F,ev]
  have O:=o.trans M;refine mv (K:=g) O.sat (s.mono W) (P.mono W) v A λ w J E B P C i=>rA ?_;exact y w J x E B (O.trans P) C (H▸i) (R.mono P.le)
 ·rcases p with rfl|rfl
  ·refine rD j.c bc.c @Um ?_;exact aC.refl n.sat
  ·refine rE j.c bc.c @SP @Sb ?_;exact aC.refl n.sat
def G0:(Al h 46 λ d e=>bx e 109 c ni (Ta e c 109 199 true λ a=>aW a λ a b=>Cd b (Cf e 94 #[a] λ a b=>Bd b 46 #[(1,a)] λ a=>Sr b 46 d a λ a=>Rv a 46 d λ b=>R b a) (Bd e 46 #[] λ a=>Sr e 46 d a λ a=>Rv a 46 d λ b=>R b a)) (Eb e .neq 101 false true a nilp λ c=>Cf e 95 #[a] λ a e=>Cf e 96 #[b] λ b e=>Bd e 46 #[(0,bt),(2,c),(3,a),(4,b)] λ a=>Sr e 46 d a λ a=>Rv a 46 d λ b=>R b a))->Cf h 44 #[a,b,c] R:=mS Tryz.func44 (Z (Q (Z (C (Q mM bG) L)) bG))
def S17:(Bx h 41 a λ a f=>Bx f 35 b λ b f=>Al f 46 λ f g=>Ld g 41 a λ i=>Cf g 37 #[i] λ g i=>bH i 99 g λ g i=>Ld i 99 g λ j=>Ld i 41 a λ k=>Cf i 38 #[j,k,c] λ i j=>aW i λ i k=>cD j k (Bd j 46 #[] λ a=>Sr j 46 f a λ a=>Rv a 46 f λ b=>R b a) (Fa j 99 g 1 λ k=>Ld j 86 k λ l=>Ld j 99 g λ m=>Ld j 35 b λ n=>Cf j 40 #[m,c] λ j m=>aX m 99 g 1 k 86 l<|fY m 35 b n<|(Cf m 39 #[l,j,n,bf] λ b j=>aW b λ b k=>cD j k (Bd j 46 #[] λ a=>Sr j 46 f a λ a=>Rv a 46 f λ b=>R b a) (Ld j 41 a λ k=>Ld j 99 g λ g=>Fa j 41 a 3 λ l=>Ld j 36 l λ m=>Cf j 41 #[k,g] λ g j=>aX j 41 a 3 l 36 m<|(Cf j 43 #[m] λ a j=>Cf j 64 #[g,i,b,c,a,d,e] λ a b=>aW a λ c d=>Ex a 2 λ a=>Cf b 44 #[c,d,a] λ a b=>Sr b 46 f a λ a=>Rv a 46 f λ b=>R b a)))))->Cf h 17 #[a,b,c,d,e] R:=mS Tryz.func17 (Z (Z (Z (Q cg (Q (X #[0,1,0,0,12,0,63,127,255,255,511,2047]) (Q cg (Q (X #[0,0,3,0,0,0,0,64,199,0,0,2047,4095,8191,8191,8191,16383,98303,262143]) bG)))))))
def iY(V:aK)(a:Value)(L r:bn)(t:List (bF×Value))(H:bF->bU):Prop:=∃D,kx V D t H/\((L=r/\a=.agg #[bt,n0,bf,i0,i0,f0,s0,n0,n0,D])\/(L≠r/\∃k p,d6 V (dU k p) r/\a=.agg #[bt,n0,bt,aR 6,i0,f0,s0,k,p,D]))
theorem iY.vv{L:bn}{t:List (bF×Value)}{H:bF->bU}(l:iY I a L z t H){M:Prop}(T:∀b F B P v S s D,a=.agg #[bt,n0,.bool b,F,B,P,v,S,s,D]->(aG F=true/\aG B=true/\aG P=true)->(aG v=true/\aG S=true/\aG s=true/\aG D=true)->M):M:=by
 obtain⟨D,y,⟨-,C⟩|⟨-,r,p,N,C⟩⟩:=l
 ·exact T _ _ _ _ _ _ _ _ C ⟨rfl,rfl,rfl⟩ ⟨rfl,rfl,rfl,y.sl.one⟩
 ·obtain⟨e,o,z,K,t⟩:=N.vv;simp only[Value.agg.injEq,Array.mk.injEq,List.cons.injEq,and_true,true_and]at z;rw[<-z.1]at K;rw[<-z.2]at t;exact T _ _ _ _ _ _ _ _ C ⟨rfl,rfl,rfl⟩ ⟨rfl,K,t,y.sl.one⟩
theorem qh.mono(O:I.le J){L:bn}(B:qh I a b m L z):qh J a b m L z:=by
 rcases B with B|⟨u,J,G,y,N,K⟩
 ·exact .inl B
 ·exact .inr ⟨u,J,G,y.mono O,N.mono O,K.mono O⟩
theorem Au(Z:aN I h){L:bn}{g:fP}{H:bF->bU}(F:aG c=true)(P:qh I b c m L z)(B:I n=some (.map g o))(J:cP g.toList o)(S:e6 I g.toList H)(k:g.size<1000)(c:∀a t V U,aD I h V U->iY V a L z t H->(t.map (·.1)).Perm (g.toList.map aZ)->R a U):Cf h 44 #[b,.map (some n),ni] R:=by
 have p:=Z.dom B;rcases P with⟨u,rfl⟩|⟨u,r,G,f,M,W⟩
 ·refine G0 (rA ?_);refine rO (show aD I h I _ from aP Z).sat λ y v=>?_;have s:aD I h I y:=aC.trans (aP Z) v;refine rA ?_;refine kw s.sat B J S k λ X t V N P i e=>?_;have C:=s.trans P;have m:=i.sl.one;have H:blk N h.size=aE #[bf,n0,bf,i0,i0,f0,s0,n0,n0,n0] 46:=P.blk (v.blk Bk id) id;refine rC H.b m ?_;have g:=aF H;have G:V h.size=none:=(P.dom _ (by have:=v.size;(try simp only[bJ]at this);exact zaa) id).trans (Z.fresh bu);refine c _ t V _ ?_ ⟨X,i,.inl ⟨u,rfl⟩⟩ e;exact zb4
 ·have d:=f;obtain⟨r,w,rfl,-⟩:=f;refine G0 (rA ?_);refine ud (show aD I h I _ from aP Z).sat d F M W λ q U y v p=>?_;have s:aD I h U y:=aC.trans (aP Z) v;obtain⟨r,b,rfl,O,q⟩:=p.vv;refine rA ?_;refine kw s.sat (v.le _ _ B) J (S.mono v.le) k λ X t V N P i e=>?_;have C:=s.trans P;have m:=i.sl.one;have H:blk N h.size=aE #[bf,n0,bf,i0,i0,f0,s0,n0,n0,n0] 46:=P.blk (v.blk Bk id) id;refine rE H.b m O q ?_;have g:=aF H;have G:V h.size=none:=(P.dom _ (by have:=v.size;(try simp only[bJ]at this);exact zaa) id).trans ((v.dom _ (by(try simp only[bJ]);exact zaa) id).trans (Z.fresh bu));refine c _ t V _ ?_ ⟨X,i,.inr ⟨u,r,b,p.mono P.le,rfl⟩⟩ e;exact zb4
def Ez(T:aK)(h:Heap)(E:Value):Prop:=∀R:KV,(∀c t A a V U,aD T h V U->f8 V c A t->dr V A a->cU V bT ⟨t,0,none⟩->R c U)->Cf h 37 #[E] R
structure iM(I:aK)(L:bn)(k q mg:Value)(rows:List (bF×Value))(cs:bF->bU):Prop where
 lv:kp I k q L
 nd:L.Nodup
 mg:kx I mg rows cs
 rk:(rows.map (·.1)).Nodup
 m1:∀t,t∈L↔∃k∈rows.map (·.1),El.val t∈cs k
 m2:∀k∈rows.map (·.1),∀y∈cs k,∃t,y=El.val t
theorem Ad(a0:aN I h){L:bn}{u:List (bF×Value)}{H:bF->bU}(a1:Bool)(K:aG c=true)(p:S=⟨#[]⟩\/S=bV)(n:iM I L d e f u H)(x:L.length<=10000)(k:u.length<=40)(J:d6 I (dU g i) z)(dN:z.Nodup)(bN:z.length<=100)(nN:z≠[])(j:∀U,aD I h I U->Ez I U (wV c d e f (aU S)))(hR:∀a r A Z V U,aD I h V U->iY V a L r A (putS H T Z)->(A.map (·.1)).Nodup->(∀X,X∈A.map (·.1)↔X=T\/X∈u.map (·.1))->CI Z z->r.Nodup->r≠[]->r.length<=L.length+z.length->(∀G,G∈r↔∃d∈A.map (·.1),El.val G∈putS H T Z d)->R a U):Cf h 17 #[wV c d e f (aU S),dU g i,aU bV,aU T,.bool a1] R:=by
 have Y:=n.lv.ones.1;have C:=n.lv.ones.2;have m:=n.mg.sl.one;obtain⟨B,o,w,t,l⟩:=J.vv;simp only[Value.agg.injEq,Array.mk.injEq,List.cons.injEq,and_true,true_and]at w;rw[<-w.1]at t;rw[<-w.2]at l;refine S17 (rG K Y C m t l ?_);have Q:aD I h I (((h.push (aV #[c,bt,tT,s0,n0,n0,s0,aR 6,i0,f0,s0,d,e,f,n0,n0,n0,bf,bf,n0,aU S,bf] 41)).push (aV #[aR 6,i0,f0,s0,g,i] 35)).push (aV #[bf,n0,bf,i0,i0,f0,s0,n0,n0,n0] 46)):=aP a0;refine j _ Q _ λ t H M a V t q k s D=>?_;have B:=Q.trans q;have z:=q.size;(try simp only[bJ]at z);have R:blk t h.size=aE #[c,bt,tT,s0,n0,n0,s0,aR 6,i0,f0,s0,d,e,f,n0,n0,n0,bf,bf,n0,aU S,bf] 41:=q.blk Bk id;have f:blk t (h.size+1)=aE #[aR 6,i0,f0,s0,g,i] 35:=q.blk Bk id;have a3:blk t (h.size+2)=aE #[bf,n0,bf,i0,i0,f0,s0,n0,n0,n0] 46:=q.blk Bk id;refine k.ones.elim λ N W=>W.elim λ l W=>?_;have v:=W.1;have F:=W.2;have z:=v▸k;refine rD R.c v F ?_;have O:=B.sat;have c:=B.le;refine Fx (L:=L) (show aD V t V _ from aP O).sat K m p z s D (n.lv.mono c) n.nd zaa λ w E P g Q y e i ro=>?_;have o:aD V t g Q:=aC.trans (aP O) y;have E:blk Q t.size=aE #[n0,M,aB H,nilp,nilp,nilp,nilp,bf,.map (some N),.map (some l)] 99:=y.blk Bk id;have w:=o.blk R id;have O:=o.blk f id;have j:=o.blk a3 id;have S5:=o.sat;(try simp only[bJ]);refine rD E.c O.c F ?_;refine lZ S5 (z.mono o.le) λ k M=>?_;have Q:=M.blk E id;have g:=M.blk w id;have S:=M.blk O id;have U:=M.blk j id;have E:=M.sat;have v:=o.le;refine rD Q.c S.c F ?_;refine yY E (s.mono v) (D.mono v) ((J.mono c).mono v) ⟨dN,zaa⟩ λ p vC j y J P f E S=>?_;have w:=P.blk Q id;have J:=P.blk g id;have p:=P.blk U id;have U:=P.sat;refine rD w.c J.c F ?_;refine tS U K Y C m rfl ((z.mono v).mono P.le) λ K R K N Y y=>?_;have g:=Y.blk J id;have O:=Y.blk p id;have Q:=Y.sat;have p:=(v.trans P.le).trans Y.le;refine rB g.c ?_;refine rZ Q ((n.mg.mono c).mono p) n.rk λ R m g c H k U K C=>?_;have Q:=H.blk O id;have m:=H.sat;have j:=p.trans H.le;refine rA ?_;have v:g.toList.length<=u.length:=by have:=List.Nodup.length_le_of_subset U.keys λ d g=>(C d).1 g;exact zai
 refine C7 m a1 (H.le _ _ y) (z.mono j) (s.mono j) (D.mono j) (((e.mono P.le).mono Y.le).mono H.le) (((i.mono P.le).mono Y.le).mono H.le) (((ro.mono P.le).mono Y.le).mono H.le) ((f.mono Y.le).mono H.le) ((E.mono Y.le).mono H.le) ((S.mono Y.le).mono H.le) n.nd dN x bN nN k U K zaa (λ G=>(n.m1 G).trans ⟨λ⟨d,y,N⟩=>⟨d,(C d).2 y,N⟩,λ⟨d,y,N⟩=>⟨d,(C d).1 y,N⟩⟩) (λ d g=>n.m2 d ((C d).1 g)) λ m p r Z z n D m v S s c O f J W j a4 i k=>?_;have K:=v.one (b:=p) S;have e:(D.one p m) p=some (.map z n):=aK.one_eq (ip s);have m:=v.blk Q id;have E:z.size<1000:=by
  have:=List.Nodup.length_le_of_subset (l₂:=T::u.map (·.1)) c.keys λ d g=>by
   rcases(f d).1 g with y|y
   ·exact y▸List.mem_cons_self
   ·exact c6 ((C d).1 y)
  simp at this;exact zaa
 refine rA ?_;refine Au K.1.sat F (k.mono K.2) e c (O.mono K.2) E λ e A v w S l e=>?_;have x:=S.blk m id;have p:=aF x;have U:aD V t v w:=(((((o.trans M).trans P).trans Y).trans H).trans K.1).trans S;have o:aD I h v w:=B.trans U;have Y:v (h.size+2)=none:=(U.dom _ (aF a3) id).trans ((q.dom _ (by(try simp only[bJ]);exact zaa) id).trans (a0.fresh zaa));refine l.vv λ u F B P s S s m R u O=>?_;try simp(disch:=omega)only[go_sem,↓reduceIte,R,aA x,aS x,u.1,u.2.1,u.2.2,O.1,O.2.1,O.2.2.1,O.2.2.2]
 have F:=R▸l;refine hR _ r A Z v _ ?_ F (e.nodup_iff.2 c.keys) (λ X=>(e.mem_iff.trans (f X)).trans (or_congr Iff.rfl (C X))) J W j a4 λ G=>(i G).trans ⟨λ⟨d,y,N⟩=>⟨d,e.mem_iff.2 y,N⟩,λ⟨d,y,N⟩=>⟨d,e.mem_iff.1 y,N⟩⟩;repeat'(first|with_reducible exact o|with_reducible refine aC.put ?_ (Or.inl ?_) ?_|exact Y|omega)
def WA:(Bx h 41 a λ a c=>Ln c 65 b λ d=>Lp (∃(e:V2)(f:N2),e n0 i0 c/\∀c g i,e c g i->(bv i .lss 3 g d (Lp (∃d:V1,(∀a b,d a b->(Bi b .add 3 g i1 λ d=>(e a d b/\f a d b<f c g i)))/\(Ia i 65 b g λ b=>Ld i 68 b λ b=>bH i 68 b λ b e=>Al e 46 λ e f=>Lp (∃g:V0,(∀f,g f->(Ld f 46 e λ g=>Bs f 147 1 #[(0,g)] λ f g=>Ap g 147 c f λ c f=>Fa f 46 e 0 λ g=>Ld f 4 g λ g=>Cd g (Fa f 46 e 4 λ g=>Ld f 36 g λ g=>Fa f 41 a 3 λ i=>Sr f 36 i g λ f=>Fa f 46 e 2 λ g=>Ld f 4 g λ g=>Cd g (Fa f 46 e 3 λ e=>Ld f 35 e λ e=>Fa f 68 b 3 λ g=>Ld f 9 g λ i=>Fa f 41 a 2 λ j=>Sr f 35 j e λ e=>aX e 68 b 3 g 9 i<|(Fa e 41 a 10 λ a=>Sr e 9 a i λ a=>d c a)) (d c f)) (d c f)))/\(Fa f 68 b 0 λ c=>Ld f 4 c λ c=>Cd c (Ld f 41 a λ a=>Fa f 68 b 4 λ c=>Ld f 35 c λ c=>Fa f 68 b 3 λ d=>Ld f 9 d λ d=>Fa f 68 b 2 λ i=>Ld f 9 i λ i=>Fa f 68 b 1 λ b=>Ld f 4 b λ b=>Cf f 17 #[a,c,d,i,b] λ a b=>Sr b 46 e a λ a=>g a) (Ld f 41 a λ a=>Fa f 68 b 4 λ c=>Ld f 35 c λ c=>Fa f 68 b 3 λ d=>Ld f 9 d λ d=>Fa f 68 b 2 λ b=>Ld f 9 b λ b=>Cf f 8 #[a,c,d,b] λ a b=>Sr b 46 e a λ a=>g a)))))) (R c i))))->Cf h 68 #[a,b] R:=mS Tryz.func68 (Z (Z (Q (Z (B (O [5,11] (Z (Q d8 (Y [5] (B (Z (Z (Y [] cF (Z (Z (C (Z (Z (C (X #[0,1,0,4,3,19,63,127]) L))) L))))))) L)))))) bG)))
abbrev gk:=List (bF×Value)
structure hZ(I:aK)(w:bF)(N:bn)(a:Value)(L:bn)(rows:gk)(cs:bF->bU)(L':bn)(rows':gk)(cs':bF->bU):Prop where
 an:iY I a L L' rows' cs'
 nd:(rows'.map (·.1)).Nodup
 ks:∀x,x∈rows'.map (·.1)↔x=w\/x∈rows.map (·.1)
 ci:∃cN,cs'=putS cs w cN/\CI cN N
 dl:L'.Nodup
 ne:L'≠[]
 ll:L'.length<=L.length+N.length
 ml:∀t,t∈L'↔∃k∈rows'.map (·.1),El.val t∈cs' k
theorem iM.mono(O:I.le J){L:bn}{t:gk}{H:bF->bU}(B:iM I L a b c t H):iM J L a b c t H:=⟨B.lv.mono O,B.nd,B.mg.mono O,B.rk,B.m1,B.m2⟩
theorem iY.mono(O:I.le J){L:bn}{t:gk}{H:bF->bU}(l:iY I a L z t H):iY J a L z t H:=by obtain⟨D,y,N⟩:=l;exact⟨D,y.mono O,N.imp id λ⟨C,r,p,K,t⟩=>⟨C,r,p,K.mono O,t⟩⟩
theorem hZ.mono(O:I.le J){L:bn}{t:gk}{H:bF->bU}{h:gk}{v:bF->bU}(A:hZ I S z a L t H y h v):hZ J S z a L t H y h v:=⟨A.an.mono O,A.nd,A.ks,A.ci,A.dl,A.ne,A.ll,A.ml⟩
structure gS where
 b:Bool
 v0:Value
 v1:Value
 v2:Value
 v3:Value
 v4:Value
 v5:Value
 mg:Value
abbrev anC(a:gS):bW:=[bt,n0,.bool a.b,a.v0,a.v1,a.v2,a.v3,a.v4,a.v5,a.mg]
abbrev oS(a:gS):Value:=.agg #[bt,n0,.bool a.b,a.v0,a.v1,a.v2,a.v3,a.v4,a.v5,a.mg]
structure gS.Ones(a:gS):Prop where
 o0:aG a.v0=true
 o1:aG a.v1=true
 o2:aG a.v2=true
 o3:aG a.v3=true
 o4:aG a.v4=true
 o5:aG a.v5=true
 og:aG a.mg=true
theorem iY.vi{L:bn}{t:gk}{H:bF->bU}(l:iY I a L z t H):∃X:gS,a=oS X/\X.Ones:=by refine l.vv λ M F B P v S s D C u O=>?_;exact⟨⟨M,F,B,P,v,S,s,D⟩,C,⟨u.1,u.2.1,u.2.2,O.1,O.2.1,O.2.2.1,O.2.2.2⟩⟩
structure gd(I:aK)(ps:List (bF×bn))(qs:List gS)(Ls:Nat->bn)(rs:Nat->gk)(cs:Nat->bF->bU):Prop where
 l0:Ls 0=[]
 r0:rs 0=[]
 st:∀i p a,ps[i]?=some p->qs[i]?=some a->hZ I p.1 p.2 (oS a) (Ls i) (rs i) (cs i) (Ls (i+1)) (rs (i+1)) (cs (i+1))
theorem gd.mono(O:I.le J){D:List (bF×bn)}{t:List gS}{L:Nat->bn}{u:Nat->gk}{H:Nat->bF->bU}(A:gd I D t L u H):gd J D t L u H:=⟨A.l0,A.r0,λ M w B y N=>(A.st M w B y N).mono O⟩
def hU(f:Nat->α)(i:Nat)(X:α):Nat->α:=λ j=>if j=i then X else f j
theorem eS{c:Nat->α}{X:α}:hU c m X m=X:=if_pos rfl
theorem fv{c:Nat->α}{X:α}(O:n≠m):hU c m X n=c n:=if_neg O
theorem gd.snoc{D:List (bF×bn)}{t:List gS}{L:Nat->bn}{u:Nat->gk}{H:Nat->bF->bU}(A:gd I D t L u H){w:bF×bn}{B:gS}{q:gk}{v:bF->bU}(e:D[t.length]?=some w)(s:hZ I w.1 w.2 (oS B) (L t.length) (u t.length) (H t.length) z q v):gd I D (t++[B]) (hU L (t.length+1) z) (hU u (t.length+1) q) (hU H (t.length+1) v):=by
 refine⟨(fv zaa).trans A.l0,(fv zaa).trans A.r0,λ M i g y N=>?_⟩;by_cases d:M=t.length
 ·subst d;rw[e]at y;cases y;rw[List.getElem?_append_right bu]at N;simp at N;subst N;rw[eS,eS,eS,fv zaa,fv zaa,fv zaa];exact s
 ·have o:M<t.length:=by have K:=(List.getElem?_eq_some_iff.1 N).1;simp at K;exact zaa
  rw[List.getElem?_append_left o]at N;rw[fv zaa,fv zaa,fv zaa,fv zaa,fv zaa,fv zaa];exact A.st M i g y N
structure iX where
 f:Bool
 w:bF
 k:Value
 q:Value
 N:bn
abbrev stC(G:iX):bW:=[bt,.bool G.f,aU G.w,aU bV,aR 6,i0,f0,s0,G.k,G.q]
structure kO(I:aK)(t:iX):Prop where
 ob:d6 I (dU t.k t.q) t.N
 nd:t.N.Nodup
 le:t.N.length<=40
 ne:t.N≠[]
theorem kO.ones{G:iX}(B:kO I G):aG G.k=true/\aG G.q=true:=by obtain⟨e,o,z,K,t⟩:=B.ob.vv;simp only[Value.agg.injEq,Array.mk.injEq,List.cons.injEq,and_true,true_and]at z;rw[<-z.1]at K;rw[<-z.2]at t;exact⟨K,t⟩
theorem hZ.wor{X:gS}{L:bn}{t:gk}{H:bF->bU}{A:gk}{v:bF->bU}(s:hZ I S z (oS X) L t H y A v)(n:iM I L a b c t H):(X.b=false->iM I y a b X.mg A v)/\(X.b=true->X.v0=aR 6/\X.v1=i0/\X.v2=f0/\X.v3=s0/\iM I y X.v4 X.v5 X.mg A v):=by
 have x:∀a∈A.map (·.1),∀q∈v a,∃G,q=El.val G:=by
  obtain⟨Z,C,Q⟩:=s.ci;intro a Y q p;rw[C]at p;by_cases V:a=S
  ·rw[V,he]at p;obtain⟨G,-,O⟩:=(Q.m q).1 p;exact⟨G,O⟩
  ·rw[iA V]at p;exact n.m2 a (((s.ks a).1 Y).resolve_left V) q p
 obtain⟨m,y,⟨u,C⟩|⟨u,e,o,N,C⟩⟩:=s.an
 ·simp only[Value.agg.injEq,Array.mk.injEq,List.cons.injEq,and_true,true_and,Value.bool.injEq]at C;refine⟨λ _=>⟨u▸n.lv,s.dl,C.2.2.2.2.2.2.2▸y,s.nd,s.ml,x⟩,λ j=>?_⟩;rw[C.1]at j;cases j
 ·simp only[Value.agg.injEq,Array.mk.injEq,List.cons.injEq,and_true,true_and,Value.bool.injEq]at C;refine⟨λ j=>?_,λ _=>⟨C.2.1,C.2.2.1,C.2.2.2.1,C.2.2.2.2.1,⟨.inr ⟨s.ne,?_⟩,s.dl,C.2.2.2.2.2.2.2▸y,s.nd,s.ml,x⟩⟩⟩
  ·rw[C.1]at j;cases j
  ·rw[C.2.2.2.2.2.1,C.2.2.2.2.2.2.1];exact N
theorem hZ.rlen{L:bn}{t:gk}{H:bF->bU}{A:gk}{v:bF->bU}(s:hZ I S z a L t H y A v):A.length<=t.length+1:=by
 have:=List.Nodup.length_le_of_subset (l₂:=S::t.map (·.1)) s.nd λ r Y=>by
  rcases(s.ks r).1 Y with y|y
  ·exact y▸List.mem_cons_self
  ·exact c6 y
 exact zai
structure Ih(I:aK)(h:Heap)(sl:Value)(sts:List iX)(i:Nat)(out:Value)(h5:Heap)(qs:List gS)(J:aK)(k q mg:Value)(ver:bF)(Ls:Nat->bn)(rs:Nat->gk)(cs:Nat->bF->bU):Prop where
 ql:qs.length=i
 st:aD I h J h5
 jn:J h.size=none
 bw:blk h5 h.size=aE #[sl,bt,tT,s0,n0,n0,s0,aR 6,i0,f0,s0,k,q,mg,n0,n0,n0,bf,bf,n0,aU ver,bf] 41
 ver:ver=⟨#[]⟩\/ver=bV
 ow:aQ (h.size+1) J h5 46 10 out i (qs.flatMap anC)
 hi:gd J (sts.map λ t=>(t.w,t.N)) qs Ls rs cs
 wo:iM J (Ls i) k q mg (rs i) (cs i)
 on:∀x∈qs,x.Ones
 bl:(Ls i).length<=40*i
 br:(rs i).length<=i
theorem xQ{T:aK}(C:aN T h){m:List iX}(a0:aG a=true)(s:cd T c 10 m.length (m.flatMap stC))(O:∀G∈m,kO T G)(K:m.length<=12)(hV:∀V U k p D y,aD T h V U->aG k=true->aG p=true->aG D=true->Ez V U (wV a k p D (aU y)))(hR:∀d t L u H V U,aD T h V U->cd V d 10 t.length (t.flatMap anC)->t.length=m.length->gd V (m.map λ G=>(G.w,G.N)) t L u H->R d U):Cf h 68 #[wV a n0 n0 n0 s0,c] R:=by
 obtain⟨B,o,rfl,l,-,Y,-,K⟩:=s;refine WA (rB a0 ?_);refine⟨λ d J Q=>∃(M:Nat)(t:List gS)(V:aK)(k p D:Value)(y:bF)(L:Nat->bn)(u:Nat->gk)(H:Nat->bF->bU),J=aR M/\M<=m.length/\Ih T h a m M d Q t V k p D y L u H,λ _ J _=>match J with|.int _ M=>m.length-M.toNat|_=>0,?_,?_⟩
 ·refine⟨0,[],T,n0,n0,n0,⟨#[]⟩,λ _=>[],λ _=>[],λ _ _=>[],rfl,zaa,⟨rfl,aP C,C.fresh zaa,Bk,.inl rfl,aQ.nil ..,⟨rfl,rfl,λ M J B E X=>by simp at X⟩,⟨.inl ⟨rfl,rfl,rfl⟩,List.nodup_nil,⟨cd.nil ..,zab⟩,List.nodup_nil,zab,zab⟩,zab,zab,zab⟩⟩
 rintro d _ Q⟨M,t,V,k,p,D,y,L,u,H,rfl,F,W⟩;have e:=W.ow.one;have j:=W.st;have S5:=j.sat;have zw:=aF W.bw;refine rA ?_;refine⟨λ F=>?_,λ F=>?_⟩
 ·have o:M<m.length:=bS F;refine(K zaa).elim λ x Y=>Y.elim λ E Y=>?_;have e:=Y.1;have g:∀M S,(m.flatMap stC)[M]?=some S->bP T x (E+M)=some S:=Y.2;have Z:aN T Q:=λ k c hy=>S5 k c (j.le k c hy);have v:=gD (c:=stC) (m:=10) Z (λ _=>rfl) g o (zaa:0<10);have x:=cj (c:=stC) (m:=10) Z (λ _=>rfl) g o (zaa:1<10);have B:=cj (c:=stC) (m:=10) Z (λ _=>rfl) g o (zaa:2<10);have r:=cj (c:=stC) (m:=10) Z (λ _=>rfl) g o (zaa:3<10);have X:=cj (c:=stC) (m:=10) Z (λ _=>rfl) g o (zaa:4<10);have E:=cj (c:=stC) (m:=10) Z (λ _=>rfl) g o (zaa:5<10);have R:=cj (c:=stC) (m:=10) Z (λ _=>rfl) g o (zaa:6<10);have i:=cj (c:=stC) (m:=10) Z (λ _=>rfl) g o (zaa:7<10);have z:=cj (c:=stC) (m:=10) Z (λ _=>rfl) g o (zaa:8<10);have A:=cj (c:=stC) (m:=10) Z (λ _=>rfl) g o (zaa:9<10);have l:=O m[M] (List.getElem_mem o);have O:=l.ones.1;have q1:=l.ones.2;have wk:=W.wo.lv.ones.1;have wq:=W.wo.lv.ones.2;have wg:=W.wo.mg.sl.one;have hp:(m.map λ G=>(G.w,G.N))[t.length]?=some (m[M].w,m[M].N):=by rw[W.ql,List.getElem?_map,List.getElem?_eq_getElem o];rfl
  have g:=W.ql;refine⟨λ d K=>∃t V k p D y L u H,Ih T h a m (M+1) d K t V k p D y L u H,λ g K F=>?_,?_⟩
  ·refine F.elim λ t F=>F.elim λ V F=>F.elim λ k F=>F.elim λ p F=>F.elim λ D F=>F.elim λ y F=>F.elim λ L F=>F.elim λ u F=>F.elim λ H F=>rA ?_;exact⟨⟨M+1,t,V,k,p,D,y,L,u,H,rfl,zaa,F⟩,zaa⟩
  try simp(disch:=omega)only[go_sem,↓reduceIte,e,v,x,B,r,X,E,R,i,z,A,O,q1]
  (try simp only[bJ]);refine⟨λ B=>∃(X:gS)(E:aK)(r:bn)(A:gk)(v:bF->bU),aD V Q E B/\blk B (Q.size+1)=aE #[bt,n0,.bool X.b,X.v0,X.v1,X.v2,X.v3,X.v4,X.v5,X.mg] 46/\blk B Q.size=aE #[bt,.bool m[M].f,aU m[M].w,aU bV,aR 6,i0,f0,s0,m[M].k,m[M].q] 68/\X.Ones/\hZ E m[M].w m[M].N (oS X) (L M) (u M) (H M) r A v,λ B F=>?_,?_⟩
  ·refine F.elim λ X F=>F.elim λ E F=>F.elim λ r F=>F.elim λ A F=>F.elim λ v F=>?_;have P:=F.1;have x:=F.2.1;have bt:=F.2.2.1;have i:=F.2.2.2.1;have Z:=F.2.2.2.2;have x0:=i.o0;have K:=i.o1;have xb:=i.o2;have o:=i.o3;have xd:=i.o4;have xe:=i.o5;have xg:=i.og;refine rI x.c x0 K xb o xd xe xg ?_;have a:=P.sat;have J:=P.size;have e:=j.trans P;have R:=W.ow.step P λ _ _=>id;have J:=aF bt;have z:=aF x;have a1:t.length=M:=W.ql;refine bY zW rfl zaa zaa (v:=M) (c:=t.flatMap anC) (u:=h.size+1) (T:=E) Bk (Ow R) (show aD T h E _ from bX C e).sat rfl (by simp[dy,cS,di,bZ,cn,cT,cB,dC,dB,cZ,dp,x0,K,xb,o,xd,xe,xg]) zaa (by(try simp only[bJ]);exact zaa) ?_;intro g a J Y g z;have g:aD T h E a:=aC.touch (show aD T h E _ from bX C e) Y λ C z=>⟨.inl (cW (R.1.block z).1),R.2 C z⟩;have T:∀C,d.ownBlock=some C->h.size+1<=C/\C<Q.size:=λ C z=>W.ow.1.block z;have C:=P.blk W.bw id;have R:=Y.blk (b:=h.size) (bz C) (λ F=>cW (T _ F).1);have a:=Y.blk (b:=Q.size+1) (bz x) (λ F=>cW (T _ F).2);have z:=Y.blk (b:=Q.size) (bz bt) (λ F=>cW (T _ F).2);have Y:=J.one;have C:E h.size=none:=(P.dom _ zw id).trans W.jn;(try simp only[bJ]);try simp(disch:=omega)only[go_sem,↓reduceIte,aA a,aA R,aS R,aA z,x0,K,xb,o,xd,xe,xg]
   have Y:hZ E (m[M].w,m[M].N).1 (m[M].w,m[M].N).2 (oS X) (L t.length) (u t.length) (H t.length) r A v:=by rw[a1];exact Z
   have a:=(W.hi.mono P.le).snoc hp Y;rw[a1]at a;have a3:=Z.wor (W.wo.mono P.le);have a4:r.length<=40*(M+1):=Xm Z.ll W.bl l.le;have a5:A.length<=M+1:=uF Z.rlen W.br;have Z:∀c∈t++[X],c.Ones:=λ c hy=>(List.mem_append.1 hy).elim (W.on c) λ h=>List.mem_singleton.1 h▸i;have h:(t++[X]).length=M+1:=by simp[a1]
   have a6:(t++[X]).flatMap anC=t.flatMap anC++anC X:=zab;refine⟨λ Y=>?_,λ Y=>?_⟩
   ·have T:=a3.2 Y;refine⟨t++[X],E,X.v4,X.v5,X.mg,bV,hU L (M+1) r,hU u (M+1) A,hU H (M+1) v,h,?_,C,?_,.inr rfl,?_,a,?_,Z,?_,?_⟩
    ·exact zb1
    ·have e0:=T.1;have e1:=T.2.1;have z:=T.2.2.1;have c:=T.2.2.2.1;simp(disch:=omega)only[cq,bO,dw,dP,aJ,aL,Array.size_push,if_pos,if_neg,↓reduceIte,Nat.reduceEqDiff,Nat.add_eq_left,List.setIfInBounds_toArray,List.set_cons_zero,List.set_cons_succ,eq_self,R,e0,e1,z,c]
    ·exact zci
    ·rw[eS,eS,eS];exact T.2.2.2.2
    ·rw[eS];exact a4
    ·rw[eS];exact a5
   ·have T:=a3.1 Y;refine⟨t++[X],E,k,p,X.mg,y,hU L (M+1) r,hU u (M+1) A,hU H (M+1) v,h,?_,C,?_,W.ver,?_,a,?_,Z,?_,?_⟩
    ·exact zb1
    ·exact bz R
    ·exact zci
    ·rw[eS,eS,eS];exact T
    ·rw[eS];exact a4
    ·rw[eS];exact a5
  ·refine rG W.bw.c wk wq wg O q1 ?_;have Z:=W.bl;have g:=W.br;have J:V Q.size=none:=S5.fresh bu;have Y:V (Q.size+1)=none:=S5.fresh zaa;refine Ad (T:=m[M].w) (show aD V Q V _ from aP S5).sat m[M].f a0 W.ver W.wo zaa zaa (l.ob.mono j.le) l.nd (cW l.le) l.ne (λ U G=>hV V U k p D y (j.trans (aC.trans (aP S5) G)) wk wq wg) λ h r A Z E B P l c h z J C a R=>?_;have e:aD V Q E B:=aC.trans (aP S5) P;have x:blk B (Q.size+1)=aE #[bf,n0,bf,i0,i0,f0,s0,n0,n0,n0] 46:=P.blk Bk id;have bt:blk B Q.size=aE #[bt,.bool m[M].f,aU m[M].w,aU bV,aR 6,i0,f0,s0,m[M].k,m[M].q] 68:=P.blk Bk id;refine l.vi.elim λ X i=>?_;have v:=i.1;have x0:=i.2.o0;have K:=i.2.o1;have xb:=i.2.o2;have o:=i.2.o3;have xd:=i.2.o4;have xe:=i.2.o5;have xg:=i.2.og;have y:E (Q.size+1)=none:=(P.dom _ (by(try simp only[bJ]);exact zaa) id).trans Y;(try simp only[bJ]);try simp(disch:=omega)only[go_sem,↓reduceIte,v,aA x,aS x,x0,K,xb,o,xd,xe,xg]
   have g:=v▸l;refine⟨X,E,r,A,putS (H M) m[M].w Z,?_,bz x,bz bt,i.2,g,c,h,⟨Z,rfl,z⟩,J,C,a,R⟩;repeat'(first|with_reducible exact e|with_reducible refine aC.put ?_ (Or.inl ?_) ?_|exact y|omega)
 ·have x:M=m.length:=by have:¬M<m.length:=bS F;exact zaa
  subst x;refine rA ?_;have Z:∀S∈t.flatMap anC,aG S=true:=by intro S O;obtain⟨X,i,s⟩:=List.mem_flatMap.1 O;have c:=W.on X i;simp only[List.mem_cons,List.not_mem_nil,or_false]at s;rcases s with rfl|rfl|rfl|rfl|rfl|rfl|rfl|rfl|rfl|rfl<;>first|rfl|exact c.o0|exact c.o1|exact c.o2|exact c.o3|exact c.o4|exact c.o5|exact c.og
  have G:=W.ow.frz j zaa zaa Z;exact hR d t L u H _ _ G.1 (by rw[W.ql];exact G.2.2) W.ql (W.hi.mono G.2.1)
def RY:(Bx h 41 a λ a c=>Bx c 46 b λ b c=>Al c 35 λ c d=>Fa d 46 b 2 λ e=>Ld d 4 e λ e=>Cd e (Fa d 46 b 3 λ a=>Ld d 35 a λ a=>Sr d 35 c a λ a=>Rv a 35 c λ b=>R b a) (Fa d 41 a 2 λ a=>Ld d 35 a λ a=>Sr d 35 c a λ a=>Rv a 35 c λ b=>R b a))->Cf h 120 #[a,b] R:=mS Tryz.func120 oY
def We:(Bx h 41 a λ a c=>Bx c 46 b λ b c=>Al c 41 λ c d=>Lp (∃e:V0,(∀b,e b->(Ld b 41 a λ a=>Sr b 41 c a λ a=>Rv a 41 c λ b=>R b a))/\(Fa d 46 b 0 λ c=>Ld d 4 c λ c=>Cd c (Ld d 41 a λ c=>Ld d 46 b λ f=>Fa d 46 b 4 λ g=>Ld d 36 g λ i=>Cf d 120 #[c,f] λ c d=>aX d 46 b 4 g 36 i<|(Fa d 41 a 2 λ f=>Sr d 35 f c λ c=>aX c 46 b 4 g 36 i<|(Fa c 41 a 3 λ a=>Sr c 36 a i λ a=>e a))) (e d))))->Cf h 69 #[a,b] R:=mS Tryz.func69 (Z (Y [] (Z (C (X #[0,0,3,0,8,7,39,127,255]) L)) bG))
def S23:(Bx h 41 a λ a c=>Al c 41 λ c d=>Ld d 41 a λ e=>Cf d 68 #[e,b] λ d e=>Ln e 147 d λ f=>Ln e 65 b λ b=>Eb e .neq 3 false false f b λ b=>Cd b (Ld e 41 a λ a=>Sr e 41 c a λ a=>Rv a 41 c λ b=>R (bj b bf) a) (Ln e 147 d λ b=>Lp (∃(f:V2)(g:N2),f bt i0 e/\∀e i j,f e i j->(bv j .lss 3 i b (Ia j 147 d i λ b=>Ld j 46 b λ b=>bH j 46 b λ b c=>aH c e (λ a c=>Fa c 46 b 0 λ b=>a b c) λ c d=>aH d e (λ a b=>Ld b 4 c λ c=>a c b) λ c d=>Pk e c bf λ c=>Ld d 41 a λ k=>Ld d 46 b λ b=>Cf d 69 #[k,b] λ b d=>Sr d 41 a b λ a=>Bi a .add 3 i i1 λ b=>(f c b a/\g c b a<g e i j)) (Ld j 41 a λ a=>Sr j 41 c a λ a=>Rv a 41 c λ b=>R (bj b e) a)))))->Cf h 23 #[a,b] R:=mS Tryz.func23 (Z (Z (Q cg (Q (Z (B (O [6,21] (Z (Q d8 (Q (B cX) L)))))) bG))))
theorem yu(Z:aN I h){X:gS}(g:aG a=true)(f:aG b=true)(W:aG c=true)(m:aG d=true)(l:aG e=true)(i:X.Ones)(L:∀U,aD I h I U->R (if X.b=true then .agg #[X.v0,X.v1,X.v2,X.v3,X.v4,X.v5]else dU b c) U):Cf h 120 #[wV a b c d e,oS X] R:=by
 have y:=i.o0;have K:=i.o1;have A:=i.o2;have o:=i.o3;have H:=i.o4;have M:=i.o5;have r:=i.og;apply RY;try simp(disch:=omega)only[go_sem,↓reduceIte,g,f,W,m,l,y,K,A,o,H,M,r]
 refine⟨λ j=>?_,λ j=>?_⟩
 ·rw[if_pos j]at L;exact zaC
 ·rw[if_neg (by simp[j])]at L;exact zaC
theorem Cc(Z:aN I h){X:gS}(k:aG a=true)(w:aG b=true)(W:aG c=true)(m:aG d=true)(l:aG e=true)(i:X.Ones)(Y:(if X.b=true then .agg #[X.v0,X.v1,X.v2,X.v3,X.v4,X.v5]else dU b c)=dU f g)(G:aG f=true)(s:aG g=true)(L:∀U,aD I h I U->R (wV a f g X.mg e) U):Cf h 69 #[wV a b c d e,oS X] R:=by
 have y:=i.o0;have K:=i.o1;have A:=i.o2;have o:=i.o3;have H:=i.o4;have M:=i.o5;have r:=i.og;apply We;try simp(disch:=omega)only[go_sem,↓reduceIte,k,w,W,m,l,y,K,A,o,H,M,r]
 refine⟨λ B=>aD I h I B/\blk B (h.size+2)=aE #[n0,bf,s0,s0,n0,n0,s0,i0,i0,f0,s0,n0,n0,n0,n0,n0,n0,bf,bf,n0,s0,bf] 41/\blk B h.size=aE #[a,bt,tT,s0,n0,n0,s0,aR 6,i0,f0,s0,f,g,X.mg,n0,n0,n0,bf,bf,n0,e,bf] 41,λ B F=>?_,?_⟩
 ·have E:=F.1;have D:=F.2.1;have j:=F.2.2;(try simp only[bJ]);refine rH j.c D.b k G s r l ?_;have u:I (h.size+2)=none:=Z.fresh zaa;refine L _ ?_;exact zau
 ·refine rA ?_;refine yu (show aD I h I _ from aP Z).sat k w W m l i λ N P=>?_;have C:aD I h I N:=aC.trans (aP Z) P;have j:blk N h.size=aE #[a,bt,tT,s0,n0,n0,s0,aR 6,i0,f0,s0,b,c,d,n0,n0,n0,bf,bf,n0,e,bf] 41:=P.blk Bk id;have x:blk N (h.size+1)=aE #[bt,n0,.bool X.b,X.v0,X.v1,X.v2,X.v3,X.v4,X.v5,X.mg] 46:=P.blk Bk id;have D:blk N (h.size+2)=aE #[n0,bf,s0,s0,n0,n0,s0,i0,i0,f0,s0,n0,n0,n0,n0,n0,n0,bf,bf,n0,s0,bf] 41:=P.blk Bk id;rw[Y];(try simp only[bJ]);refine rF x.c j.b G s r ?_;have u:I h.size=none:=Z.fresh zaa;refine⟨?_,bz D,bz j⟩;exact zb3
theorem iY.one{X:gS}{L:bn}{t:gk}{H:bF->bU}(l:iY I (oS X) L z t H):X.Ones:=by obtain⟨q,C,p⟩:=l.vi;simp only[Value.agg.injEq,Array.mk.injEq,List.cons.injEq,and_true,true_and,Value.bool.injEq]at C;obtain⟨A,z,c,h,b,g,e,B⟩:=C;exact⟨z▸p.o0,c▸p.o1,h▸p.o2,b▸p.o3,g▸p.o4,e▸p.o5,B▸p.og⟩
theorem GY(g:aN I h){m:List iX}(X:aG a=true)(s:cd I c 10 m.length (m.flatMap stC))(N:∀G∈m,kO I G)(v:m.length<=12)(z:∀V U k p D y,aD I h V U->aG k=true->aG p=true->aG D=true->Ez V U (wV a k p D (aU y)))(hR:∀k p D t L u H V U,aD I h V U->t.length=m.length->gd V (m.map λ G=>(G.w,G.N)) t L u H->iM V (L m.length) k p D (u m.length) (H m.length)->R (bj (wV a k p D s0) bt) U):Cf h 23 #[wV a n0 n0 n0 s0,c] R:=by
 have Y:=s;obtain⟨B,S,rfl,M,-,C,-,K⟩:=s;refine S23 (rB X ?_);have C:aD I h I ((h.push (aV #[a,bt,tT,s0,n0,n0,s0,aR 6,i0,f0,s0,n0,n0,n0,n0,n0,n0,bf,bf,n0,s0,bf] 41)).push (aV #[n0,bf,s0,s0,n0,n0,s0,i0,i0,f0,s0,n0,n0,n0,n0,n0,n0,bf,bf,n0,s0,bf] 41)):=aP g;refine xQ C.sat X Y N v (λ V U k p D y G=>z V U k p D y (C.trans G)) λ d t L u H V K r v P W=>?_;have s3:=C.trans r;have i:=s3.sat;have e:=r.size;(try simp only[bJ]at e);have q:blk K h.size=aE #[a,bt,tT,s0,n0,n0,s0,aR 6,i0,f0,s0,n0,n0,n0,n0,n0,n0,bf,bf,n0,s0,bf] 41:=r.blk Bk id;have l:blk K (h.size+1)=aE #[n0,bf,s0,s0,n0,n0,s0,i0,i0,f0,s0,n0,n0,n0,n0,n0,n0,bf,bf,n0,s0,bf] 41:=r.blk Bk id;refine Exists.elim v λ j v=>Exists.elim v λ C v=>?_;have w:=v.1;have s:=v.2.2.2.2.2;(try simp only[bJ]);try simp(disch:=omega)only[go_sem,↓reduceIte,w,P,bne_self_eq_false]
 refine⟨λ N J Q=>∃(M:Nat)(k p D:Value),N=bt/\J=aR M/\M<=m.length/\aC (Eq h.size) V K V Q/\blk Q h.size=aE #[a,bt,tT,s0,n0,n0,s0,aR 6,i0,f0,s0,k,p,D,n0,n0,n0,bf,bf,n0,s0,bf] 41/\iM V (L M) k p D (u M) (H M),λ _ J _=>match J with|.int _ M=>m.length-M.toNat|_=>0,⟨0,n0,n0,n0,rfl,rfl,zaa,aC.refl i,q,?_⟩,?_⟩
 ·show iM V (L 0) n0 n0 n0 (u 0) (H 0);rw[W.l0,W.r0];exact⟨.inl ⟨rfl,rfl,rfl⟩,List.nodup_nil,⟨cd.nil ..,zab⟩,List.nodup_nil,zab,zab⟩
 rintro N J Q⟨M,k,p,D,A,z,d,j,Z,n⟩;have S5:=j.sat;have wk:=n.lv.ones.1;have O:=n.lv.ones.2;have U:=n.mg.sl.one;have a0:=j.blk l zaa;have c:=aF Z;have c:V h.size=none:=(r.dom _ (by(try simp only[bJ]);exact zaa) id).trans (g.fresh zaa);have C:V (h.size+1)=none:=(r.dom _ (by(try simp only[bJ]);exact zaa) id).trans (g.fresh zaa);refine rC A z ?_;refine⟨λ F=>?_,λ F=>?_⟩
 ·have o:M<m.length:=bS F;have q:M<t.length:=zaa;refine(s zaa).elim λ a Y=>Y.elim λ s Y=>?_;have G:=Y.1;have g:∀M S,(t.flatMap anC)[M]?=some S->bP V a (s+M)=some S:=Y.2;have v:=gD (c:=anC) (m:=10) S5 (λ _=>rfl) g q (zaa:0<10);have e:=cj (c:=anC) (m:=10) S5 (λ _=>rfl) g q (zaa:1<10);have E:=cj (c:=anC) (m:=10) S5 (λ _=>rfl) g q (zaa:2<10);have a:=cj (c:=anC) (m:=10) S5 (λ _=>rfl) g q (zaa:3<10);have s:=cj (c:=anC) (m:=10) S5 (λ _=>rfl) g q (zaa:4<10);have d:=cj (c:=anC) (m:=10) S5 (λ _=>rfl) g q (zaa:5<10);have R:=cj (c:=anC) (m:=10) S5 (λ _=>rfl) g q (zaa:6<10);have S:=cj (c:=anC) (m:=10) S5 (λ _=>rfl) g q (zaa:7<10);have J:=cj (c:=anC) (m:=10) S5 (λ _=>rfl) g q (zaa:8<10);have l:=cj (c:=anC) (m:=10) S5 (λ _=>rfl) g q (zaa:9<10);have B:=W.st M _ _ (by rw[List.getElem?_map,List.getElem?_eq_getElem o];rfl) (List.getElem?_eq_getElem q);have i:=B.an.one;have y:=i.o0;have N:=i.o1;have g:=i.o2;have T:=i.o3;have xd:=i.o4;have xe:=i.o5;have r:=i.og;have a1:decide (M<m.length)=true:=decide_eq_true o;try simp(disch:=omega)only[go_sem,↓reduceIte,w,A,z,G,q,v,e,E,a,s,d,R,S,J,l,y,N,g,T,xd,xe,r,aA Z,wk,O,U]
  have E:∃e o,(if t[M].b=true then Value.agg #[t[M].v0,t[M].v1,t[M].v2,t[M].v3,t[M].v4,t[M].v5]else dU k p)=dU e o/\iM V (L (M+1)) e o t[M].mg (u (M+1)) (H (M+1)):=by
   have T:=B.wor n;by_cases a:t[M].b=true
   ·obtain⟨y,N,K,d,Q⟩:=T.2 a;exact⟨_,_,by rw[if_pos a,y,N,K,d],Q⟩
   ·exact⟨_,_,by rw[if_neg a],T.1 (bS a)⟩
  refine E.elim λ e Y=>Y.elim λ o Y=>?_;have J:=Y.1;have E:=Y.2;have g:=E.lv.ones.1;have l:=E.lv.ones.2;refine Cc (X:=t[M]) (show aD V Q V _ from aP S5).sat X wk O U rfl i J g l λ B G=>?_;have a:aD V Q V B:=aC.trans (aP S5) G;have w:=a.blk Z id;have J:aC (Eq h.size) V K V B:=j.trans (a.weak λ _ _=>False.elim);refine rH w.b X g l r A z ?_;refine⟨⟨M+1,e,o,t[M].mg,rfl,zaa,?_,bz w,E⟩,zaa⟩;repeat'(first|with_reducible exact J|with_reducible refine aC.put ?_ (Or.inr ?_) ?_|exact c|rfl)
 ·have N:M=m.length:=by have:¬M<m.length:=bS F;exact zaa
  refine rH Z.c a0.b X wk O U A ?_;have E:iM V (L m.length) k p D (u m.length) (H m.length):=N▸n;refine hR k p D t L u H V _ ?_ P W E;have O:aD I h V Q:=s3.trans' j λ k Y F=>zaa;repeat'(first|with_reducible exact O|with_reducible refine aC.put ?_ (Or.inl ?_) ?_|exact C|omega)
def H8:(Bx h 35 a λ a b=>Al b 35 λ b c=>Fa c 35 a 0 λ d=>Ld c 3 d λ d=>ce c 3 d i1 (Fa c 35 a 1 λ a=>Ld c 2 a λ a=>bx c 2 a i0 (Bd c 35 #[(0,i1),(1,i1)] λ a=>Sr c 35 b a λ a=>Rv a 35 b λ b=>R b a) (Bd c 35 #[(0,i1)] λ a=>Sr c 35 b a λ a=>Rv a 35 b λ b=>R b a)) (ce c 3 d i2 (Fa c 35 a 1 λ a=>Ld c 2 a λ a=>Bd c 35 #[(0,i2),(1,a)] λ a=>Sr c 35 b a λ a=>Rv a 35 b λ b=>R b a) (ce c 3 d (aR 3) (Fa c 35 a 2 λ a=>Ld c 31 a λ a=>Bd c 35 #[(0,(aR 3)),(2,a)] λ a=>Sr c 35 b a λ a=>Rv a 35 b λ b=>R b a) (ce c 3 d (aR 4) (Fa c 35 a 3 λ a=>Ld c 9 a λ a=>Bd c 35 #[(0,(aR 4)),(3,a)] λ a=>Sr c 35 b a λ a=>Rv a 35 b λ b=>R b a) (ce c 3 d (aR 5) (Fa c 35 a 5 λ a=>Ld c 33 a λ a=>Cf c 112 #[a] λ a c=>Bd c 35 #[(0,(aR 5)),(5,a)] λ a=>Sr c 35 b a λ a=>Rv a 35 b λ b=>R b a) (ce c 3 d (aR 6) (Ld c 35 a λ a=>Cf c 113 #[a] λ a c=>Sr c 35 b a λ a=>Rv a 35 b λ b=>R b a) (Bd c 35 #[] λ a=>Sr c 35 b a λ a=>Rv a 35 b λ b=>R b a)))))))->Cf h 63 #[a] R:=mS Tryz.func63 (Z (Q (Z (B (Z (C nK (Z (C bG H3)))))) bG))
def TO:(Ln h 33 a λ b=>Mz h 33 i0 b λ b c=>Ln c 33 a λ d=>Lp (∃(e:V2)(f:N2),e b i0 c/\∀b c g,e b c g->(bv g .lss 3 c d (Ia g 33 a c λ a=>Ld g 35 a λ a=>bH g 35 a λ a d=>Ld d 35 a λ a=>Cf d 63 #[a] λ a d=>Bs d 33 1 #[(0,a)] λ a d=>Ap d 33 b a λ a d=>Bi d .add 3 c i1 λ i=>(e a i d/\f a i d<f b c g)) (R b g))))->Cf h 112 #[a] R:=mS Tryz.func112 HN
def Q2:(Bx h 35 a λ a b=>Al b 35 λ b c=>Bd c 35 #[(0,(aR 6))] λ d=>bH c 35 d λ c d=>Lp (∃(e:V1)(f:N1),e i0 d/\∀d g,e d g->(Fa g 35 a 4 λ i=>Ld g 32 i λ i=>Ln g 32 i λ i=>Bi g .lss 3 d i λ i=>aH g i (λ a b=>a d b) λ j k=>aH k i (λ b c=>Fa c 35 a 5 λ a=>b a c) λ k l=>aH l i (λ a b=>Ld b 33 k λ c=>a c b) λ k l=>aH l i (λ a b=>Ln b 33 k λ c=>a c b) λ k l=>aH l i (λ a b=>Bi b .lss 3 j k λ c=>a c b) λ j k=>Pk i j bf λ i=>Cd i (Ld k 35 c λ b=>Fa k 35 a 4 λ i=>Ld k 32 i λ j=>Ia k 32 j d λ l=>Ld k 9 l λ m=>Fa k 35 a 5 λ n=>Ld k 33 n λ n=>Ia k 33 n d λ n=>Ld k 35 n λ n=>Cf k 63 #[n] λ k n=>fY n 35 c b<|aX n 35 a 4 i 32 j<|iR n 32 j d l/\bh n 9 l m/\(Cf n 167 #[b,m,k] λ a b=>Sr b 35 c a λ a=>Bi a .add 3 d i1 λ b=>(e b a/\f b a<f d g))) (Ld k 35 c λ a=>Sr k 35 b a λ a=>Rv a 35 b λ b=>R b a))))->Cf h 113 #[a] R:=mS Tryz.func113 (Z (Z (Q (Z (B (O [4] (Q cF (Q (B (X #[0,0,2,0,14,30,0,64,0,448,960,1984,4095,8191])) L))))) bG)))
def Q7:(Bx h 35 a λ a d=>Bx d 35 c λ c d=>Al d 35 λ d e=>Ld e 35 a λ f=>Cf e 215 #[f,b] λ e f=>aW e λ e g=>Bd f 35 #[(0,(aR 6))] λ i=>bH f 35 i λ f i=>Fa i 35 f 4 λ j=>Ld i 32 j λ j=>Fa i 35 a 4 λ k=>Ld i 32 k λ k=>Sl i 32 k none (some e) none λ k=>Ap i 32 j k λ i j=>Fa j 35 f 4 λ k=>Sr j 32 k i λ i=>Fa i 35 f 5 λ j=>Ld i 33 j λ j=>Fa i 35 a 5 λ k=>Ld i 33 k λ k=>Sl i 33 k none (some e) none λ k=>Ap i 33 j k λ i j=>Fa j 35 f 5 λ k=>Sr j 33 k i λ i=>Fa i 35 f 4 λ j=>Ld i 32 j λ j=>Bs i 32 1 #[(0,b)] λ b i=>Ap i 32 j b λ b i=>Fa i 35 f 4 λ j=>Sr i 32 j b λ b=>Fa b 35 f 5 λ i=>Ld b 33 i λ i=>Ld b 35 c λ c=>Bs b 33 1 #[(0,c)] λ b c=>Ap c 33 i b λ b c=>Fa c 35 f 5 λ i=>Sr c 33 i b λ b=>Lp (∃c:V1,(∀b e,c b e->(Fa e 35 f 4 λ c=>Ld e 32 c λ c=>Fa e 35 a 4 λ g=>Ld e 32 g λ g=>Sl e 32 g (some b) none none λ g=>Ap e 32 c g λ c e=>Fa e 35 f 4 λ g=>Sr e 32 g c λ c=>Fa c 35 f 5 λ e=>Ld c 33 e λ e=>Fa c 35 a 5 λ a=>Ld c 33 a λ a=>Sl c 33 a (some b) none none λ a=>Ap c 33 e a λ a b=>Fa b 35 f 5 λ c=>Sr b 33 c a λ a=>Ld a 35 f λ b=>Sr a 35 d b λ a=>Rv a 35 d λ b=>R b a))/\(Cd g (Bi b .add 3 e i1 λ a=>c a b) (c e b))))->Cf h 167 #[a,b,c] R:=mS Tryz.func167 (Z (Z (Z (Q Fj (Q Fj (Z (Z (Y [7] cF (Q Fj (Q Fj bG))))))))))
def QS:(Bx h 35 a λ a c=>Fa c 35 a 4 λ d=>Ld c 32 d λ d=>Ln c 32 d λ d=>Lp (∃(e:V2)(f:N2),e i0 d c/\∀c d g,e c d g->(bv g .lss 3 c d (Bi g .sub 3 d c λ i=>Bi g .quo 3 i i2 λ i=>Bi g .add 3 c i λ i=>Fa g 35 a 4 λ a=>Ld g 32 a λ a=>Ia g 32 a i λ a=>Ld g 9 a λ a=>bv g .lss 9 a b (Bi g .add 3 i i1 λ a=>(e a d g/\f a d g<f c d g)) (e c i g/\f c i g<f c d g)) (Fa g 35 a 4 λ d=>Ld g 32 d λ d=>Ln g 32 d λ d=>Bi g .lss 3 c d λ d=>aH g d (λ b c=>Fa c 35 a 4 λ a=>b a c) λ a e=>aH e d (λ b c=>Ld c 32 a λ a=>b a c) λ a e=>aH e d (λ a b=>a c b) λ e f=>aH f d (λ b c=>Ia c 32 a e λ a=>b a c) λ a e=>aH e d (λ b c=>Ld c 9 a λ a=>b a c) λ a e=>aH e d (λ a c=>a b c) λ b e=>aH e d (λ c d=>Eb d .eql 9 false false a b λ a=>c a d) λ a b=>Pk d a bf λ a=>R (bj c a) b))))->Cf h 215 #[a,b] R:=mS Tryz.func215 (Z (Q (X #[0,1,3,0,15]) (Q PZ (Q (X #[0,0,0,4,12,30,62,126,254,126,1022,2046,126,8190,16382,127,65535]) L))))
theorem hh(Z:aN I h)(L:∀U,aD I h I U->R (gt (aU S)) U):Cf h 63 #[gt (aU S)] R:=by refine H8 (rA ?_);exact zaC
theorem tw{T:aK}(Z:aN T h){H:bn}(i:jj T a H)(L:∀q V U,aD T h V U->jj V q H->R q U):Cf h 112 #[a] R:=by
 have e:=i.one;obtain⟨B,V,rfl,t,-,D,-,k⟩:=i;refine TO (rA ?_);refine gw gc zaa (t:=0) (u:=H.length) rfl rfl zaa zaa ?_;intro C b;refine rA ?_;refine⟨λ a J Q=>∃M:Nat,J=aR M/\M<=H.length/\aD T h T Q/\aQ h.size T Q 35 6 a M ((H.take M).flatMap strC),λ _ J _=>match J with|.int _ M=>H.length-M.toNat|_=>0,?_,?_⟩
 ·refine⟨0,rfl,zaa,aP Z,?_⟩;exact aQ.made (by(try simp only[bJ]);exact zaa) Bk (Z.fresh (by(try simp only[bJ]);exact zaa)) b zaa
 rintro a _ Q⟨M,rfl,d,j,W⟩;have e:=W.one;have d:=j.size;refine rA ?_;refine⟨λ y=>?_,λ y=>?_⟩
 ·have o:M<H.length:=bS y;obtain⟨u,O,rfl,r⟩:=k zaa;have g:∀M S,(H.flatMap strC)[M]?=some S->bP T u (O+M)=some S:=r;have S5:aN T Q:=λ r q p=>j.sat r q (j.le r q p);have v:=gD (c:=strC) (m:=6) S5 (λ _=>rfl) g o (zaa:0<6);have w:=cj (c:=strC) (m:=6) S5 (λ _=>rfl) g o (zaa:1<6);have F:=cj (c:=strC) (m:=6) S5 (λ _=>rfl) g o (zaa:2<6);have m:=cj (c:=strC) (m:=6) S5 (λ _=>rfl) g o (zaa:3<6);have X:=cj (c:=strC) (m:=6) S5 (λ _=>rfl) g o (zaa:4<6);have d:=cj (c:=strC) (m:=6) S5 (λ _=>rfl) g o (zaa:5<6);refine rG v w F m X d ?_;refine hh (S:=H[M]) (show aD T h T _ from bX Z j).sat ?_;intro B C;have O:aD T h T B:=aC.trans (bX Z j) C;have w:=aQ.step (show aQ h.size T _ 35 6 a M ((H.take M).flatMap strC)from Ow W) C λ _ _=>id;refine rA ?_;refine bY gc rfl zaa zaa (v:=M) (c:=(H.take M).flatMap strC) (u:=h.size) (T:=T) Bk (Ow w) (show aD T h T _ from bX Z O).sat rfl zac zaa (by have:=O.size;(try simp only[bJ]);exact zaa) ?_;intro N N J Y G E;refine rA ?_;refine⟨⟨M+1,rfl,zaa,aC.touch (show aD T h T _ from bX Z O) Y λ P z=>⟨.inl (w.1.block z).1,w.2 P z⟩,?_⟩,zaa⟩;have:(H.take (M+1)).flatMap strC=(H.take M).flatMap strC++strC H[M]:=by rw[List.take_add_one,List.flatMap_append,List.getElem?_eq_getElem o];exact zab
  rw[this];exact J
 ·have x:M=H.length:=by have:¬M<H.length:=bS y;exact zaa
  subst x;rw[List.take_length]at W;refine rA ?_;obtain⟨Q,i,h⟩:=W.frz j bu zaa (n8 H);exact L _ _ _ Q h
theorem yW(Z:aN I h)(i:jj I a z)(L:∀q V U,aD I h V U->jj V q z->R (jl q) U):Cf h 63 #[jl a] R:=by have e:=i.one;refine H8 (rB e ?_);refine tw (show aD I h I _ from aP Z).sat i λ q V N P p=>?_;have C:aD I h V N:=aC.trans (aP Z) P;have E:=p.one;have H:blk N (h.size+1)=some gv:=P.blk Bk id;have u:V (h.size+1)=none:=(P.dom _ (by(try simp only[bJ]);exact zaa) id).trans (Z.fresh zaa);(try simp only[bJ]);refine rC H.b E ?_;refine L _ _ _ ?_ p;exact zb3
theorem Bb(Z:aN I h)(L:∀U,aD I h I U->R (bj i0 bf) U):Cf h 215 #[dU n0 n0,aU S] R:=by refine QS (rA ?_);refine⟨λ g d Q=>g=i0/\d=i0/\aD I h I Q/\blk Q h.size=aE #[aR 6,i0,f0,s0,n0,n0] 35,λ _ _ _=>0,⟨rfl,rfl,aP Z,Bk⟩,?_⟩;rintro g d Q⟨rfl,rfl,j,r⟩;refine rB r.c ?_;exact L _ j
theorem Fh:ez 32=some 1:=zag
theorem Er:ez 33=some 6:=zag
theorem Fg{T:Value->Prop}:Sl h 32 n0 none (some i0) none T=T n0:=(pk Tryz.underlying32 Fh zaa).trans rfl
theorem EI{T:Value->Prop}:Sl h 33 n0 none (some i0) none T=T n0:=(pk Tryz.underlying33 Er zaa).trans rfl
theorem NN{T:Value->Prop}:Sl h 32 n0 (some i0) none none T=T n0:=(lk Tryz.underlying32 Fh zaa).trans rfl
theorem L8{T:Value->Prop}:Sl h 33 n0 (some i0) none none T=T n0:=(lk Tryz.underlying33 Er zaa).trans rfl
theorem rV{T:aK}(Z:aN T h)(e:aG a=true)(L:∀k p V U,aD T h V U->cd V k 1 1 [aU S]->cd V p 6 1 [aR 5,i0,f0,s0,n0,a]->R (dU k p) U):Cf h 167 #[dU n0 n0,aU S,jl a] R:=by
 refine Q7 (rB e ?_);refine Bb (show aD T h T _ from aP Z).sat λ y v=>?_;have s:aD T h T y:=aC.trans (aP Z) v;have r:blk y h.size=aE #[aR 6,i0,f0,s0,n0,n0] 35:=v.blk Bk id;have x:blk y (h.size+1)=aE #[aR 5,i0,f0,s0,n0,a] 35:=v.blk Bk id;have m:blk y (h.size+2)=some gv:=v.blk Bk id;have o:=v.size;(try simp only[bJ]at o);(try simp only[bJ]);try simp(disch:=omega)only[go_sem,↓reduceIte,aA r,aA x,e,Fg,EI,cI fD,cI gc]
 refine bY fD rfl zaa zaa (v:=0) (c:=[]) (u:=y.size+2) (T:=T) Bk (aQ.nil ..) (show aD T h T _ from bX Z s).sat rfl zac zaa (by(try simp only[bJ]);exact zaa) ?_;intro k N l Y G E;have g:aD T h T N:=aC.touch (show aD T h T _ from bX Z s) Y λ P z=>zcb;have K:=Y.size;(try simp only[bJ]at K);have j:T y.size=none:=Z.fresh zaa;have w:blk N y.size=aE #[aR 6,i0,f0,s0,n0,n0] 35:=Y.blk Bk zap;have i:blk N h.size=aE #[aR 6,i0,f0,s0,n0,n0] 35:=Y.blk (bz r) zap;have D:blk N (h.size+1)=aE #[aR 5,i0,f0,s0,n0,a] 35:=Y.blk (bz x) zap;have v:blk N (h.size+2)=some gv:=Y.blk (bz m) zap;simp only[Nat.zero_add,List.nil_append]at l;have O:=l.one;(try simp only[bJ]);try simp(disch:=omega)only[go_sem,↓reduceIte,aA w,aS w,aA D,aA i,e,O,Fg,EI,cI fD,cI gc]
 refine bY gc rfl zaa zaa (v:=0) (c:=[]) (u:=N.size+1) (T:=T) Bk (aQ.nil ..) (show aD T h T _ from bX Z g).sat rfl zbv zaa (by(try simp only[bJ]);exact zaa) ?_;intro H G u C b X;have D:aD T h T G:=aC.touch (show aD T h T _ from bX Z g) C λ P z=>zcb;have d:=C.size;(try simp only[bJ]at d);have c:blk G y.size=aE #[aR 6,i0,f0,s0,k,n0] 35:=C.blk (bz w) zap;have f:blk G h.size=aE #[aR 6,i0,f0,s0,n0,n0] 35:=C.blk (bz i) zap;have p:blk G (h.size+2)=some gv:=C.blk (bz v) zap;have t:aQ (y.size+2) T G 9 1 k 1 [aU S]:=aQ.touch (show aQ (y.size+2) T _ 9 1 k 1 [aU S]from Ow l) C zap;simp only[Nat.zero_add,List.nil_append]at u;have Q:=u.one;have d:∀{h:Heap}{M:KV},Ap h 32 k n0 M=M k h:=by obtain⟨P,V,X,C,-,-,W,-⟩:=l.at zaa;intro h M;rw[C,cI fD,if_pos W]
 have Y:∀{h:Heap}{M:KV},Ap h 33 H n0 M=M H h:=by obtain⟨P,V,X,C,-,-,W,-⟩:=u.at zaa;intro h M;rw[C,cI gc,if_pos W]
 refine rC c.b Q ?_;refine⟨λ M A=>M=i0/\aD T h T A/\aQ (y.size+2) T A 9 1 k 1 [aU S]/\aQ (N.size+1) T A 35 6 H 1 [aR 5,i0,f0,s0,n0,a]/\blk A y.size=aE #[aR 6,i0,f0,s0,k,H] 35/\blk A h.size=aE #[aR 6,i0,f0,s0,n0,n0] 35/\blk A (h.size+2)=some gv,λ M A F=>?_,?_⟩
 ·have j:=F.1;have E:=F.2.1;have o:=F.2.2.1;have v:=F.2.2.2.1;have x:=F.2.2.2.2.1;have B:=F.2.2.2.2.2.1;have J:=F.2.2.2.2.2.2;try simp(disch:=omega)only[go_sem,↓reduceIte,j,aA x,aS x,aA B,aA J,aS J,O,Q,NN,L8,d,Y]
  have C:∀F:Heap,aD T h T F->aQ (y.size+2) T F 9 1 k 1 [aU S]->aQ (N.size+1) T F 35 6 H 1 [aR 5,i0,f0,s0,n0,a]->R (dU k H) F:=by
   intro F q b B;refine L k H _ F (aC.keepAll q Z) ?_ ?_
   ·exact aQ.sli b zaa zac λ P z=>by have:=(b.1.block z).1;unfold aK.grow;rw[if_neg zaa]
   ·exact aQ.sli B zaa zbv λ P z=>by have:=(B.1.block z).1;unfold aK.grow;rw[if_neg zaa]
  refine C _ ?_ ?_ ?_
  ·exact bX Z E
  ·exact Ow o
  ·exact Ow v
 ·refine rA ?_;refine⟨?_,?_,?_,?_,?_,?_⟩
  ·exact bX Z D
  ·exact Ow t
  ·exact Ow u
  ·exact bz c
  ·exact bz f
  ·exact bz p
theorem uW(Z:aN I h)(p:d6 I (dU a b) z)(L:∀e o V U,aD I h V U->d6 V (dU e o) z->R (dU e o) U):Cf h 113 #[dU a b] R:=by
 obtain⟨n,x,X,C,Y,P,i⟩:=p;simp only[Value.agg.injEq,Array.mk.injEq,List.cons.injEq,and_true,true_and]at C;obtain⟨rfl,rfl⟩:=C;have O:=Y.one;have S:=P.one;have Q:=i.one;obtain⟨R,f,rfl,b,-,-,-,c⟩:=Y;obtain⟨K,l,rfl,v⟩:=c zab;obtain⟨s,k,rfl,w,-,-,-,g⟩:=P;obtain⟨G,B,rfl,r⟩:=g zab;have d:∀{W:Heap},aN I W->aI W K l=some gZ:=λ N=>bS (N.cell (v 0 gZ rfl));have u:∀{W:Heap},aN I W->aI W G B=some (aR 5):=λ N=>bS (N.cell (r 0 _ rfl));have q:∀{W:Heap},aN I W->aI W G (B+1)=some i0:=λ N=>N.cell (r 1 _ rfl);have b:∀{W:Heap},aN I W->aI W G (B+2)=some f0:=λ N=>N.cell (r 2 _ rfl);have p:∀{W:Heap},aN I W->aI W G (B+3)=some s0:=λ N=>N.cell (r 3 _ rfl);have y:∀{W:Heap},aN I W->aI W G (B+4)=some n0:=λ N=>N.cell (r 4 _ rfl);have E:∀{W:Heap},aN I W->aI W G (B+5)=some X:=λ N=>N.cell (r 5 _ rfl);refine Q2 (rC O S ?_);refine⟨λ J Q=>∃e o,blk Q h.size=aE #[aR 6,i0,f0,s0,bq K l 1 f,bq G B 1 k] 35/\blk Q (h.size+1)=some gv/\blk Q (h.size+2)=aE #[aR 6,i0,f0,s0,e,o] 35/\((J=i0/\e=n0/\o=n0/\aD I h I Q)\/(J=i1/\∃V,aD I h V Q/\V (h.size+1)=none/\d6 V (dU e o) z)),λ J _=>match J with|.int _ M=>1-M.toNat|_=>0,⟨n0,n0,Bk,Bk,Bk,.inl ⟨rfl,rfl,rfl,aP Z⟩⟩,?_⟩;intro J Q F;refine F.elim λ e F=>F.elim λ o F=>?_;have D:=F.1;have m:=F.2.1;have w:=F.2.2.1;refine F.2.2.2.elim (λ t=>?_) λ t=>?_
 ·have A:=t.1;have z:=t.2.1;have c:=t.2.2.1;have j:=t.2.2.2;have S5:=j.sat;have n:=aF w;try simp(disch:=omega)only[go_sem,↓reduceIte,A,z,c,aA D,aA w,d S5,u S5,q S5,b S5,p S5,y S5,E S5,Int.toNat_zero,Nat.add_zero]
  refine yW S5 i λ q V T M p=>?_;have E:=p.one;have X:=M.blk D id;have b:=M.blk m id;have S:=M.blk w id;have x:=M.sat;have H:aI T K l=some gZ:=d λ a q p=>x a q (M.le a q p);(try simp only[bJ]);refine rI X.c S.c A z c H @Int.toNat_zero @Nat.add_zero ?_;refine rV x E λ n y k B P a s=>?_;have d:=P.blk X id;have i:=P.blk b id;have f:=P.blk S id;have g:=a.one;have l:=s.one;have H:=M.trans P;have N:=j.trans H;have Q:k (h.size+1)=none:=(H.dom _ zaa id).trans (Z.fresh zaa);have G:k (h.size+2)=none:=(H.dom _ zaa id).trans (Z.fresh zaa);refine rE f.b A g l ?_;refine⟨⟨n,y,bz d,bz i,bz f,.inr ⟨k,?_,Q,⟨n,y,q,rfl,a,s,p.mono P.le⟩⟩⟩,zaE⟩;repeat'(first|with_reducible exact N|with_reducible refine aC.put ?_ (Or.inl ?_) ?_|exact G|omega)
 ·refine t.2.elim λ V F=>?_;have A:=t.1;have j:=F.1;have u:=F.2.1;have T:=F.2.2;have t:aG e=true/\aG o=true:=by obtain⟨n,y,C,g,l⟩:=T.vv;exact zaz
  have g:=t.1;have l:=t.2;refine rG D.c w.c m.b A g l ?_;refine L e o V _ ?_ T;repeat'(first|with_reducible exact j|with_reducible refine aC.put ?_ (Or.inl ?_) ?_|exact u|omega)
theorem z5(Z:aN I h)(p:d6 I (dU a b) z)(L:∀e o V U,aD I h V U->d6 V (dU e o) z->R (dU e o) U):Cf h 63 #[dU a b] R:=by
 have t:aG a=true/\aG b=true:=by obtain⟨n,y,C,g,l⟩:=p.vv;exact zaz
 have O:=t.1;have S:=t.2;refine H8 (rC O S ?_);refine uW (show aD I h I _ from aP Z).sat p λ e o V N P T=>?_;have Y:aD I h V N:=aC.trans (aP Z) P;have H:blk N (h.size+1)=some gv:=P.blk Bk id;have u:V (h.size+1)=none:=(P.dom _ (by(try simp only[bJ]);exact zaa) id).trans (Z.fresh zaa);have c:aG e=true/\aG o=true:=by obtain⟨n,y,C,g,l⟩:=T.vv;exact zaz
 have g:=c.1;have l:=c.2;(try simp only[bJ]);refine rD H.b g l ?_;refine L _ _ _ _ ?_ T;repeat'(first|with_reducible exact Y|with_reducible refine aC.put ?_ (Or.inl ?_) ?_|exact u|omega)
def Wo:(Bx h 35 a λ a c=>Al c 35 λ c d=>Fa d 35 a 4 λ e=>Ld d 32 e λ e=>Ln d 32 e λ e=>Fa d 35 a 5 λ f=>Ld d 33 f λ f=>Ln d 33 f λ f=>Mn d e f λ e=>Bi d .sub 3 e i1 λ e=>Lp (∃(f:V1)(g:N1),f e d/\∀d e,f d e->(bv e .geq 3 d i0 (Fa e 35 a 4 λ i=>Ld e 32 i λ i=>Ia e 32 i d λ i=>Ld e 9 i λ i=>Eb e .eql 9 false false i b λ b=>Cd b (Fa e 35 a 5 λ a=>Ld e 33 a λ a=>Ia e 33 a d λ a=>Ld e 35 a λ a=>Sr e 35 c a λ a=>Rv a 35 c λ b=>R (bj b bt) a) (Bi e .sub 3 d i1 λ a=>(f a e/\g a e<g d e))) (Bd e 35 #[] λ a=>Sr e 35 c a λ a=>Rv a 35 c λ b=>R (bj b bf) a))))->Cf h 70 #[a,b] R:=mS Tryz.func70 Ic
def V8:(Bx h 35 a λ a b=>Ld b 35 a λ a=>Cf b 63 #[a] λ a b=>Cf b 70 #[a,(aU ⟨#[97]⟩)] λ a b=>aW a λ a _=>bH b 35 a λ a b=>Fa b 35 a 5 λ a=>Ld b 33 a λ a=>Ln b 33 a λ c=>Lp (∃(d:V2)(e:N2),d n0 i0 b/\∀b f g,d b f g->(bv g .lss 3 f c (Ia g 33 a f λ a=>Ld g 35 a λ a=>bH g 35 a λ a c=>Fa c 35 a 0 λ i=>Ld c 3 i λ i=>bx c 3 i (aR 4) (R (bj n0 bf) c) (Fa c 35 a 3 λ a=>Ld c 9 a λ a=>Bs c 32 1 #[(0,a)] λ a c=>Ap c 32 b a λ a c=>Bi c .add 3 f i1 λ i=>(d a i c/\e a i c<e b f g))) (R (bj b bt) g))))->Cf h 25 #[a] R:=mS Tryz.func25 (Z (Z (Z (Q (Z (B (O [6,18] (Z (Q d8 (Q (B AP) L)))))) bG))))
theorem SM:((⟨#[97]⟩:bF).toList==(⟨#[97]⟩:bF).toList)=true:=zab
theorem yx(Z:aN I h)(p:d6 I (dU a b) z)(L:∀X U,aD I h I U->jj I X z->R (bj (jl X) bt) U):Cf h 70 #[dU a b,gZ] R:=by
 obtain⟨n,x,X,C,Y,P,i⟩:=p;simp only[Value.agg.injEq,Array.mk.injEq,List.cons.injEq,and_true,true_and]at C;obtain⟨rfl,rfl⟩:=C;have O:=Y.one;have S:=P.one;have e:=i.one;obtain⟨R,f,rfl,o,-,-,-,c⟩:=Y;obtain⟨K,l,rfl,v⟩:=c zab;obtain⟨s,k,rfl,w,-,-,-,g⟩:=P;obtain⟨G,B,rfl,r⟩:=g zab;have d:∀{W:Heap},aN I W->aI W K l=some gZ:=λ N=>bS (N.cell (v 0 gZ rfl));have u:∀{W:Heap},aN I W->aI W G B=some (aR 5):=λ N=>bS (N.cell (r 0 _ rfl));have q:∀{W:Heap},aN I W->aI W G (B+1)=some i0:=λ N=>N.cell (r 1 _ rfl);have s:∀{W:Heap},aN I W->aI W G (B+2)=some f0:=λ N=>N.cell (r 2 _ rfl);have J:∀{W:Heap},aN I W->aI W G (B+3)=some s0:=λ N=>N.cell (r 3 _ rfl);have y:∀{W:Heap},aN I W->aI W G (B+4)=some n0:=λ N=>N.cell (r 4 _ rfl);have E:∀{W:Heap},aN I W->aI W G (B+5)=some X:=λ N=>N.cell (r 5 _ rfl);refine Wo (rC O S ?_);refine⟨λ M Q=>M=i0/\aD I h I Q/\blk Q h.size=aE #[aR 6,i0,f0,s0,bq K l 1 f,bq G B 1 k] 35/\blk Q (h.size+1)=some gv,λ _ _=>0,⟨rfl,aP Z,Bk,Bk⟩,λ M Q F=>?_⟩;have A:=F.1;have j:=F.2.1;have D:=F.2.2.1;have m:=F.2.2.2;have S5:=j.sat;have B:I (h.size+1)=none:=Z.fresh zaa;try simp(disch:=omega)only[go_sem,↓reduceIte,A,aA D,aA m,aS m,d S5,u S5,q S5,s S5,J S5,y S5,E S5,Int.toNat_zero,Nat.add_zero,SM,e]
 refine L X _ ?_ i;repeat'(first|with_reducible exact j|with_reducible refine aC.put ?_ (Or.inl ?_) ?_|exact B|omega)
theorem uz{T:aK}(Z:aN T h)(p:d6 T (dU a b) z)(L:∀q V U,aD T h V U->Strs V q z->R (bj q bt) U):Cf h 25 #[dU a b] R:=by
 have t:aG a=true/\aG b=true:=by obtain⟨P,y,C,g,l⟩:=p.vv;exact zaz
 have O:=t.1;have S:=t.2;refine V8 (rC O S ?_);refine z5 (show aD T h T _ from aP Z).sat p λ e o V N P M=>?_;have C:aD T h V N:=aC.trans (aP Z) P;refine rA ?_;refine yx P.sat M λ X K r i=>?_;have l:=C.trans r;have s:=r.sat;have e:=l.size;have e:=i.one;have r:=i;obtain⟨B,F,v,t,-,D,-,k⟩:=i;refine rC e v ?_;refine⟨λ d J Q=>∃M:Nat,J=aR M/\M<=z.length/\aD V K V Q/\aQ (K.size+1) V Q 9 1 d M ((z.take M).map Value.string),λ _ J _=>match J with|.int _ M=>z.length-M.toNat|_=>0,⟨0,rfl,zaa,aP s,aQ.nil ..⟩,λ d J Q F=>?_⟩;refine F.elim λ M F=>?_;have A:=F.1;have d:=F.2.1;have j:=F.2.2.1;have W:=F.2.2.2;have X:=W.one;have S5:=j.sat;have a:=j.size;refine rB A ?_;refine⟨λ y=>?_,λ y=>?_⟩
 ·have o:M<z.length:=bS y;refine(k zaa).elim λ u Y=>Y.elim λ s Y=>?_;have G:=Y.1;have g:∀M S,(z.flatMap strC)[M]?=some S->bP V u (s+M)=some S:=Y.2;have e:=gD (c:=strC) (m:=6) S5 (λ _=>rfl) g o (zaa:0<6);have w:=cj (c:=strC) (m:=6) S5 (λ _=>rfl) g o (zaa:1<6);have F:=cj (c:=strC) (m:=6) S5 (λ _=>rfl) g o (zaa:2<6);have m:=cj (c:=strC) (m:=6) S5 (λ _=>rfl) g o (zaa:3<6);have X:=cj (c:=strC) (m:=6) S5 (λ _=>rfl) g o (zaa:4<6);have d:=cj (c:=strC) (m:=6) S5 (λ _=>rfl) g o (zaa:5<6);try simp(disch:=omega)only[go_sem,↓reduceIte,A,v,G,e,w,F,m,X,d,o]
  refine bY fD rfl zaa zaa (v:=M) (c:=(z.take M).map Value.string) (u:=K.size+1) (T:=V) Bk (Ow W) (show aD V Q V _ from aP S5).sat rfl zac zaa (by(try simp only[bJ]);exact zaa) ?_;intro s N J Y G E;have H:aD V K V N:=aC.touch (show aD V K V _ from bX S5 j) Y λ P t=>⟨.inl (cW (W.1.block t).1),W.2 P t⟩;refine rB A ?_;refine⟨⟨M+1,rfl,zaa,H,?_⟩,zaa⟩;have:(z.take (M+1)).map Value.string=(z.take M).map Value.string++[Value.string z[M]]:=by rw[List.take_add_one,List.map_append,List.getElem?_eq_getElem o];exact zab
  rw[this];exact J
 ·have x:M=z.length:=by have:¬M<z.length:=bS y;exact zaa
  refine rA ?_;rw[x,List.take_length]at W;obtain⟨g,i,c⟩:=W.frz (l.trans j) zaa D (by intro S O;exact za4);exact L _ _ _ g c
def Wm:(Al h 52 λ c d=>Ln d 36 a λ e=>Lp (∃(f:V1)(g:N1),f i0 d/\∀d i,f d i->(bv i .lss 3 d e (Ia i 36 a d λ a=>Ld i 52 a λ a=>bH i 52 a λ a e=>Fa e 52 a 0 λ j=>Ld e 9 j λ j=>Eb e .eql 9 false false j b λ b=>Cd b (Ld e 52 a λ a=>Sr e 52 c a λ a=>Rv a 52 c λ b=>R (bj b bt) a) (Bi e .add 3 d i1 λ a=>(f a e/\g a e<g d i))) (Bd i 52 #[] λ a=>Sr i 52 c a λ a=>Rv a 52 c λ b=>R (bj b bf) a))))->Cf h 27 #[a,b] R:=mS Tryz.func27 (Z E7)
theorem Hy(O:(S.toList==T.toList)=true):S=T:=by rw[beq_iff_eq,ByteArray.toList_eq,ByteArray.toList_eq]at O;exact ByteArray.ext (Array.toList_inj.mp O)
theorem mj(Z:aN I h){t:gk}{H:bF->bU}(p:kx I a t H)(n:S∈t.map (·.1))(L:∀w U,aD I h I U->w∈t->w.1=S->R (bj (.agg (mgC w).toArray) bt) U):Cf h 27 #[a,aU S] R:=by
 obtain⟨⟨B,V,rfl,P,-,D,-,k⟩,b⟩:=p;refine Wm (rA ?_);refine⟨λ a Q=>∃M:Nat,a=aR M/\M<=t.length/\aD I h I Q/\blk Q h.size=aE #[s0,s0,bf,n0] 52/\∀w∈t.take M,w.1≠S,λ a _=>match a with|.int _ M=>t.length-M.toNat|_=>0,⟨0,rfl,zaa,aP Z,Bk,zab⟩,λ a Q F=>?_⟩;refine F.elim λ M F=>?_;have A:=F.1;have d:=F.2.1;have j:=F.2.2.1;have m:=F.2.2.2.1;have c:=F.2.2.2.2;have S5:=j.sat;refine rB A ?_;refine⟨λ y=>?_,λ y=>?_⟩
 ·have o:M<t.length:=bS y;refine(k zaa).elim λ u Y=>Y.elim λ s Y=>?_;have G:=Y.1;have g:∀M S,(t.flatMap mgC)[M]?=some S->bP I u (s+M)=some S:=Y.2;have v:=gD (c:=mgC) (m:=4) S5 (λ _=>rfl) g o (zaa:0<4);have R:=cj (c:=mgC) (m:=4) S5 (λ _=>rfl) g o (zaa:1<4);have F:=cj (c:=mgC) (m:=4) S5 (λ _=>rfl) g o (zaa:2<4);have D:=cj (c:=mgC) (m:=4) S5 (λ _=>rfl) g o (zaa:3<4);have E:=(b t[M] (List.getElem_mem o)).1.one;have l:=aF m;try simp(disch:=omega)only[go_sem,↓reduceIte,A,G,v,R,F,D,o,E,aA m,aS m]
  have b:I Q.size=none:=S5.fresh bu;have u:I h.size=none:=Z.fresh bu;have g:=j.size;refine⟨λ p=>?_,λ p=>?_⟩
  ·refine L t[M] _ ?_ (List.getElem_mem o) (Hy p);exact zbn
  ·refine⟨⟨M+1,rfl,zaa,?_,bz m,λ w e=>?_⟩,zaa⟩
   ·exact zbn
   ·rw[List.take_add_one,List.getElem?_eq_getElem o]at e;rcases List.mem_append.1 e with e|e
    ·exact c w e
    ·have:w=t[M]:=bS e;rw[this];intro C;rw[C]at p;simp at p
 ·exfalso;have x:M=t.length:=by have:¬M<t.length:=bS y;exact zaa
  obtain⟨w,N,K⟩:=List.mem_map.1 n;rw[x,List.take_length]at c;exact c w N K
def Rf:(bv h .lss 2 a b (R (aR (-1)) h) (bv h .gtr 2 a b (R i1 h) (R i0 h)))->Cf h 153 #[a,b] R:=mS Tryz.func153 Ew
def UZ:(Bx h 35 a λ a b=>Fa b 35 a 0 λ a=>Ld b 3 a λ a=>Lp (∃c:V1,(∀b d,c b d->(Cd b (R i0 d) (ce d 3 a (aR 4) (R i1 d) (ce d 3 a i1 (R i2 d) (ce d 3 a (aR 5) (R (aR 3) d) (ce d 3 a (aR 6) (R (aR 4) d) (R (aR 5) d)))))))/\(Eb b .eql 3 false true a i2 λ d=>Cd d (c d b) (Eb b .eql 3 false true a (aR 3) λ a=>c a b))))->Cf h 263 #[a] R:=mS Tryz.func263 (Z (Q (Z (B (Y [5] cF (C bG H3)))) bG))
def I3:(Bx h 153 a λ a b=>Fa b 153 a 0 λ c=>Ld b 3 c λ c=>Eb b .eql 3 false true c i1 λ c=>Gd b c false (λ b c=>Fa c 153 a 0 λ a=>b a c) λ b d=>Gd d c false (λ a c=>Ld c 3 b λ b=>a b c) λ b d=>Gd d c false (λ a c=>Eb c .eql 3 false true b i2 λ b=>a b c) λ b d=>Pk c bt b λ b=>Gd d b false (λ b c=>Fa c 153 a 0 λ a=>b a c) λ c d=>Gd d b false (λ a b=>Ld b 3 c λ c=>a c b) λ c d=>Gd d b false (λ a b=>Eb b .eql 3 false true c (aR 3) λ c=>a c b) λ c d=>Pk b bt c λ b=>Cd b (Fa d 153 a 0 λ a=>Ld d 3 a λ a=>R a d) (R i0 d))->Cf h 160 #[a] R:=mS Tryz.func160 oY
def i3(a b:Int):Int:=if a<b then-1 else if b<a then 1 else 0
theorem ea{B u:Int}(L:R (aR (i3 B u)) h):Cf h 153 #[aR B,aR u] R:=by
 apply Rf;unfold i3 at L;refine rA ?_;refine⟨λ y=>?_,λ y=>?_⟩
 ·have N:B<u:=bS y;rw[if_pos N]at L;exact L
 ·have N:¬B<u:=bS y;rw[if_neg N]at L;refine⟨λ K=>?_,λ K=>?_⟩
  ·have Q:u<B:=bS K;rw[if_pos Q]at L;exact L
  ·have Q:¬u<B:=bS K;rw[if_neg Q]at L;exact L
theorem jO(Z:aN I h)(L:∀U,aD I h I U->R i1 U):Cf h 263 #[gt (aU S)] R:=by
 refine UZ (rA ?_);refine⟨λ J Q=>J=bf/\aD I h I Q,λ J Q F=>?_,?_⟩
 ·have A:=F.1;refine rB A ?_;exact L _ F.2
 ·refine rA ?_;first|exact⟨rfl,aP Z⟩|exact aP Z
theorem du(Z:aN I h)(L:∀U,aD I h I U->R (aR (match G with|.fld _=>0|.val _=>2)) U):Cf h 160 #[.agg (elC G).toArray] R:=by cases G with|fld A=>refine I3 (rA ?_);exact zaC|val A=>refine I3 (rA ?_);exact zaC
section
open Go.Eng Go.MapKept
def RG:(Lp (∃(c:V1)(d:N1),c i0 h/\∀e f,c e f->(Ln f 9 a λ g=>Bi f .lss 3 e g λ g=>aH f g (λ a b=>a e b) λ i j=>aH j g (λ a c=>a b c) λ j k=>aH k g (λ a b=>Ln b 9 j λ c=>a c b) λ j k=>aH k g (λ a b=>Bi b .lss 3 i j λ c=>a c b) λ i j=>Pk g i bf λ g=>Cd g (Rg j (Instr.index 9 a e) λ g=>Rg j (Instr.index 9 b e) λ i=>Eb j .neq 5 false false g i λ g=>Cd g (Rg j (Instr.index 9 a e) λ a=>Cn j 5 2 a λ a=>Rg j (Instr.index 9 b e) λ b=>Cn j 5 2 b λ b=>Cf j 153 #[a,b] λ a b=>R a b) (Bi j .add 3 e i1 λ a=>(c a j/\d a j<d e f))) (Ln j 9 a λ a=>Ln j 9 b λ b=>Cf j 153 #[a,b] λ a b=>R a b))))->Cf h 210 #[a,b] R:=mS Tryz.func210 (Z (Q (Z (B (O [5] (Q cF (Q (B (Q (X #[0,0,3,0,0,24,63]) (C (Q G1 L) L))) L))))) bG))
theorem s4(d:m<S.size){T:Value->Prop}:Rg h (Instr.index 9 (aU S) (aR m)) T=T (.int .u8 (S[m]).toNat):=by refine cV λ E M=>?_;unfold Instr.index;have y:S[m]?=some S[m]:=getElem?_pos S m d;simp only[asIntOf,Sem.run_bind,Sem.run_pure,Result.andThen_ok,bD Tryz.underlying9,Int.toNat_natCast,Int.natCast_nonneg,if_true,y]
theorem Qn:P.intKind 2=.i64:=zag
theorem W3:(P.underlying 5).isSome=true:=zag
theorem I2{T:Value->Prop}{X:UInt8}:Cn h 5 2 (.int .u8 X.toNat) T=T (aR X.toNat):=by refine cV λ E _=>?_;have i:=X.toNat_lt;rw[run_convert_int E 5 2 .u8 X.toNat W3 (by rw[Qn];exact Tryz.underlying2),Qn,io zaa]
theorem GW(e:∀j,j<m->S[j]! =T[j]!)(Y:m<S.size)(f:m<T.size)(X:S[m]!≠T[m]!):da S T=if S[m]!<T[m]! then-1 else 1:=by
 have V:(List.range (min S.size T.size)).find? (λ m=>S[m]! !=T[m]!)=some m:=by rw[List.find?_range_eq_some];refine⟨bS X,by simp;exact zaa,λ j K=>bS (e j K)⟩
 unfold da Extern.BytealgCompare.cmp;rw[V]
theorem wd(e:∀j,j<min S.size T.size->S[j]! =T[j]!):da S T=i3 S.size T.size:=by
 have V:(List.range (min S.size T.size)).find? (λ M=>S[M]! !=T[M]!)=none:=by rw[List.find?_range_eq_none];intro j K;simpa using e j K
 unfold da Extern.BytealgCompare.cmp i3;rw[V];simp only[Int.ofNat_lt,gt_iff_lt]
theorem lO(Z:aN I h)(Y:S.size<=2147483647)(j:T.size<=2147483647)(L:∀U,aD I h I U->R (aR (da S T)) U):Cf h 210 #[aU S,aU T] R:=by
 apply RG;refine⟨λ J y=>∃M:Nat,J=aR M/\M<=S.size/\M<=T.size/\aD I h I y/\∀D,D<M->S[D]! =T[D]!,λ J _=>match J with|.int _ M=>S.size-M.toNat|_=>0,⟨0,rfl,zaa,zaa,aC.refl Z,zab⟩,λ J y F=>?_⟩;refine F.elim λ M F=>?_;have A:=F.1;have d:=F.2.1;have q:=F.2.2.1;have E:=F.2.2.2.1;have e:=F.2.2.2.2;by_cases c:M<S.size
 ·have V:decide ((M:Int)<(S.size:Int))=true:=bS c;by_cases b:M<T.size
  ·have X:decide ((M:Int)<(T.size:Int))=true:=bS b;try simp(disch:=omega)only[go_sem,↓reduceIte,A,kk Tryz.underlying9,V,X,s4 c,s4 b]
   have Q:S[M]! =S[M]:=getElem!_pos S M c;have p:T[M]! =T[M]:=getElem!_pos T M b;refine⟨λ P=>?_,λ P=>?_⟩
   ·have O:S[M]!≠T[M]!:=by rw[Q,p];intro C;rw[C]at P;simp at P
    have k:=GW e c b O;try simp(disch:=omega)only[go_sem,↓reduceIte,A,I2,s4 b]
    refine ea ?_;have:i3 (S[M].toNat:Int) (T[M].toNat:Int)=da S T:=by
     rw[k,Q,p];unfold i3;have n:S[M].toNat≠T[M].toNat:=λ C=>O (by rw[Q,p];exact UInt8.toNat_inj.1 C);by_cases f:S[M]<T[M]
     ·have:S[M].toNat<T[M].toNat:=UInt8.lt_iff_toNat_lt.1 f;rw[if_pos f,if_pos zaa]
     ·have:¬S[M].toNat<T[M].toNat:=λ h=>f (UInt8.lt_iff_toNat_lt.2 h);rw[if_neg f,if_neg zaa,if_pos zaa]
    rw[this];exact L _ E
   ·have N:S[M]! =T[M]!:=by
     rw[Q,p];have:S[M].toNat=T[M].toNat:=by have:(S[M].toNat:Int)=(T[M].toNat:Int):=bS P;exact zaa
     exact UInt8.toNat_inj.1 this
    refine⟨⟨M+1,rfl,zaa,zaa,E,λ D K=>?_⟩,zaa⟩;by_cases a:D=M
    ·rw[a];exact N
    ·exact e D zaa
  ·have X:decide ((M:Int)<(T.size:Int))=false:=bS b;try simp(disch:=omega)only[go_sem,↓reduceIte,A,kk Tryz.underlying9,V,X]
   refine ea ?_;rw[<-wd λ D K=>e D zaa];exact L _ E
 ·have V:decide ((M:Int)<(S.size:Int))=false:=bS c;try simp(disch:=omega)only[go_sem,↓reduceIte,A,kk Tryz.underlying9,V]
  refine ea ?_;rw[<-wd λ D K=>e D zaa];exact L _ E
end
def QT:(Bx h 35 a λ a c=>Bx c 35 b λ b c=>Ld c 35 a λ d=>Ld c 35 b λ e=>Cf c 263 #[d] λ c d=>bh d 35 b e/\(Cf d 263 #[e] λ d e=>Cf e 153 #[c,d] λ c d=>bx d 3 c i0 (R c d) (Ld d 35 a λ c=>Cf d 263 #[c] λ c d=>ce d 3 c i0 (Fa d 35 a 0 λ c=>Ld d 3 c λ c=>Eb d .eql 3 false true c i2 λ c=>aH d c (λ a c=>Fa c 35 b 0 λ b=>a b c) λ d e=>aH e c (λ a b=>Ld b 3 d λ c=>a c b) λ d e=>aH e c (λ a b=>Eb b .eql 3 false true d i2 λ c=>a c b) λ d e=>Pk c d bf λ c=>Cd c (Fa e 35 a 1 λ a=>Ld e 2 a λ a=>Fa e 35 b 1 λ b=>Ld e 2 b λ b=>Cf e 153 #[a,b] λ a b=>R a b) (Ld e 35 a λ a=>Ld e 35 b λ c=>Cf e 265 #[a] λ a d=>bh d 35 b c/\(Cf d 265 #[c] λ b c=>Cf c 264 #[a,b] λ a b=>R a b))) (ce d 3 c i1 (Fa d 35 a 3 λ a=>Ld d 9 a λ a=>Fa d 35 b 3 λ b=>Ld d 9 b λ b=>Cf d 210 #[a,b] λ a b=>R a b) (ce d 3 c i2 (Fa d 35 a 1 λ a=>Ld d 2 a λ a=>Fa d 35 b 1 λ b=>Ld d 2 b λ b=>Cf d 153 #[a,b] λ a b=>R a b) (ce d 3 c (aR 3) (Fa d 35 a 5 λ a=>Ld d 33 a λ a=>Fa d 35 b 5 λ b=>Ld d 33 b λ b=>Cf d 266 #[a,b] λ a b=>R a b) (ce d 3 c (aR 4) (Ld d 35 a λ a=>Ld d 35 b λ b=>Cf d 267 #[a,b] λ a b=>R a b) (R i0 d))))))))->Cf h 244 #[a,b] R:=mS Tryz.func244 (Z (Q (Q vY cg) (Q (Z (B (Z (C (Q cg (Q vY L)) H3)))) bG)))
def T6:(Bx h 35 a λ a c=>Bx c 35 b λ b c=>Ld c 35 a λ a=>Ld c 35 b λ d=>Cf c 63 #[a] λ a c=>bh c 35 b d/\(Cf c 63 #[d] λ b c=>Cf c 244 #[a,b] λ a b=>R a b))->Cf h 209 #[a,b] R:=mS Tryz.func209 (Z (Q vY L))
def UQ:(Bx h 153 a λ a c=>Bx c 153 b λ b c=>Ld c 153 a λ d=>Ld c 153 b λ e=>Cf c 160 #[d] λ c d=>bh d 153 b e/\(Cf d 160 #[e] λ d e=>Cf e 153 #[c,d] λ c d=>bx d 3 c i0 (R c d) (Ld d 153 a λ c=>Cf d 160 #[c] λ c d=>ce d 3 c i1 (Ld d 153 a λ a=>Ld d 153 b λ b=>Cf d 208 #[a,b] λ a b=>R a b) (ce d 3 c i2 (Fa d 153 a 4 λ a=>Ld d 35 a λ a=>Fa d 153 b 4 λ b=>Ld d 35 b λ b=>Cf d 209 #[a,b] λ a b=>R a b) (ce d 3 c (aR 3) (Fa d 153 a 5 λ a=>Ld d 3 a λ a=>Fa d 153 b 5 λ b=>Ld d 3 b λ b=>Cf d 153 #[a,b] λ a b=>R a b) (Fa d 153 a 1 λ a=>Ld d 9 a λ a=>Fa d 153 b 1 λ b=>Ld d 9 b λ b=>Cf d 210 #[a,b] λ a b=>R a b))))))->Cf h 152 #[a,b] R:=mS Tryz.func152 (Z (Q (Q vY cg) (Q (Z (B EF)) bG)))
def IW:El->Prop|.fld A=>A.size<=2147483647|.val A=>A.size<=2147483647
theorem pH(Z:aN I h)(Y:S.size<=2147483647)(j:T.size<=2147483647)(L:∀U,aD I h I U->R (aR (da S T)) U):Cf h 244 #[gt (aU S),gt (aU T)] R:=by refine QT (rA ?_);refine jO (show aD I h I _ from aP Z).sat λ y v=>?_;have s:aD I h I y:=aC.trans (aP Z) v;have x:blk y h.size=aE #[aR 4,i0,f0,aU S,n0,n0] 35:=v.blk Bk id;have bb:blk y (h.size+1)=aE #[aR 4,i0,f0,aU T,n0,n0] 35:=v.blk Bk id;(try simp only[bJ]);refine rB bb.c ?_;refine jO v.sat λ N P=>?_;have b:=P.blk x id;have a:=P.blk bb id;refine rA ?_;refine ea ?_;have e:i3 1 1=0:=zaE;refine rC b.c e ?_;refine jO P.sat λ K r=>?_;have E:=r.blk b id;have c:=r.blk a id;refine rC E.c c.c ?_;refine lO r.sat Y j λ t q=>rA ?_;exact zbV
theorem nW(Z:aN I h)(Y:S.size<=2147483647)(j:T.size<=2147483647)(L:∀U,aD I h I U->R (aR (da S T)) U):Cf h 209 #[gt (aU S),gt (aU T)] R:=by refine T6 (rA ?_);refine hh (show aD I h I _ from aP Z).sat λ y v=>?_;have s:aD I h I y:=aC.trans (aP Z) v;have bb:blk y (h.size+1)=aE #[aR 4,i0,f0,aU T,n0,n0] 35:=v.blk Bk id;(try simp only[bJ]);refine rB bb.c ?_;refine hh v.sat λ N P=>rA ?_;refine pH P.sat Y j λ K r=>rA ?_;exact L _ ((s.trans P).trans r)
def rk:El->Int|.fld _=>0|.val _=>2
theorem j3(Z:aN I h)(Y:IW G)(C:IW M)(L:∀U,aD I h I U->R (aR (bQ G M)) U):Cf h 152 #[.agg (elC G).toArray,.agg (elC M).toArray] R:=by
 apply UQ;cases G with
  |fld A=>cases M with|fld S=>refine rA ?_;refine du (G:=.fld A) (show aD I h I _ from aP Z).sat λ y v=>?_;have s:aD I h I y:=aC.trans (aP Z) v;have x:blk y h.size=aE (elC (.fld A)).toArray 153:=v.blk Bk id;have bb:blk y (h.size+1)=aE (elC (.fld S)).toArray 153:=v.blk Bk id;(try simp only[bJ]);refine rB bb.c ?_;refine du (G:=.fld S) v.sat λ N P=>?_;have b:=P.blk x id;have a:=P.blk bb id;refine rA ?_;refine ea ?_;have j:i3 0 0=0:=zaE;refine rC b.c j ?_;refine du (G:=.fld A) P.sat λ K r=>?_;have E:=r.blk b id;have c:=r.blk a id;refine rC E.c c.c ?_;refine lO r.sat Y C λ t q=>rA ?_;exact zbV|val S=>refine rA ?_;refine du (G:=.fld A) (show aD I h I _ from aP Z).sat λ y v=>?_;have s:aD I h I y:=aC.trans (aP Z) v;have bb:blk y (h.size+1)=aE (elC (.val S)).toArray 153:=v.blk Bk id;(try simp only[bJ]);refine rB bb.c ?_;refine du (G:=.val S) v.sat λ N P=>rA ?_;refine ea ?_;have j:i3 0 2=-1:=zaE;refine rB j ?_;exact L _ (s.trans P)
  |val A=>cases M with|fld S=>refine rA ?_;refine du (G:=.val A) (show aD I h I _ from aP Z).sat λ y v=>?_;have s:aD I h I y:=aC.trans (aP Z) v;have bb:blk y (h.size+1)=aE (elC (.fld S)).toArray 153:=v.blk Bk id;(try simp only[bJ]);refine rB bb.c ?_;refine du (G:=.fld S) v.sat λ N P=>rA ?_;refine ea ?_;have j:i3 2 0=1:=zaE;refine rB j ?_;exact L _ (s.trans P)|val S=>refine rA ?_;refine du (G:=.val A) (show aD I h I _ from aP Z).sat λ y v=>?_;have s:aD I h I y:=aC.trans (aP Z) v;have x:blk y h.size=aE (elC (.val A)).toArray 153:=v.blk Bk id;have bb:blk y (h.size+1)=aE (elC (.val S)).toArray 153:=v.blk Bk id;(try simp only[bJ]);refine rB bb.c ?_;refine du (G:=.val S) v.sat λ N P=>?_;have b:=P.blk x id;have a:=P.blk bb id;refine rA ?_;refine ea ?_;have j:i3 2 2=0:=zaE;refine rC b.c j ?_;refine du (G:=.val A) P.sat λ K r=>?_;have E:=r.blk b id;have c:=r.blk a id;refine rC E.c c.c ?_;refine nW r.sat Y C λ t q=>rA ?_;exact zbV
def WS:(Lp (∃(c:V1)(d:N1),c i0 h/\∀e f,c e f->(Ln f 119 a λ g=>Bi f .lss 3 e g λ g=>aH f g (λ a b=>a e b) λ i j=>aH j g (λ a c=>a b c) λ j k=>aH k g (λ a b=>Ln b 119 j λ c=>a c b) λ j k=>aH k g (λ a b=>Bi b .lss 3 i j λ c=>a c b) λ i j=>Pk g i bf λ g=>Cd g (Ia j 119 a e λ g=>Ld j 153 g λ g=>Ia j 119 b e λ i=>Ld j 153 i λ i=>Cf j 152 #[g,i] λ g i=>ce i 3 g i0 (Bi i .add 3 e i1 λ a=>(c a i/\d a i<d e f)) (Ln i 119 a λ a=>Bi i .sub 3 a i1 λ a=>Eb i .eql 3 false false e a λ a=>Ln i 119 b λ b=>Bi i .sub 3 b i1 λ b=>Eb i .eql 3 false false e b λ b=>Eb i .neq 4 false false a b λ b=>Cd b (Cd a (R (aR (-1)) i) (R i1 i)) (R g i))) (Ln j 119 a λ a=>Ln j 119 b λ b=>Cf j 153 #[a,b] λ a b=>R a b))))->Cf h 98 #[a,b] R:=mS Tryz.func98 (Z (Q (Z (B (O [5] (Q cF (Q (B (Q G1 (Q cF (Q (Z oL) bG)))) L))))) bG))
theorem jz(C:El):(elC C).length=11:=by cases C<;>rfl
theorem PathR.cells(p:PathR I a E)(e:0<E.length):∃b s V,a=bq b s E.length V/\∀{W:Heap}(i j:Nat),aN I W->(d:i<E.length)->j<11->aI W b (s+i*11+j)=(elC E[i])[j]?:=by obtain⟨B,V,rfl,t,-,D,-,k⟩:=p;obtain⟨b,s,rfl,r⟩:=k e;exact⟨b,s,V,rfl,λ i j N d K=>cj (c:=elC) (m:=11) N jz r d K⟩
theorem Be(C:El):bQ C C=0:=by cases C with|fld A=>exact cmpS_eq0.2 rfl|val A=>exact cmpS_eq0.2 rfl
theorem k6(Z:aN I h){G:bF}(p:PathR I c (jL S (.val T)))(O:PathR I d (jL S (.val G)))(n:S.size<=2147483647)(hs:T.size<=2147483647)(l:G.size<=2147483647)(L:∀U,aD I h I U->R (aR (da T G)) U):Cf h 98 #[c,d] R:=by
 obtain⟨u,s,V,rfl,k⟩:=p.cells zab;obtain⟨H,f,C,rfl,q⟩:=O.cells zab;apply WS;refine⟨λ c Q=>∃M:Nat,c=aR M/\M<=2/\aD I h I Q/\(M=2->da T G=0),λ c _=>match c with|.int _ M=>2-M.toNat|_=>0,⟨0,rfl,zaa,aC.refl Z,zaa⟩,λ c Q F=>?_⟩;refine F.elim λ M F=>?_;have A:=F.1;have d:=F.2.1;have E:=F.2.2.1;have N:=F.2.2.2;have S5:=E.sat;have e:aI Q u (s)=some i0:=k 0 0 S5 zab zaa;have i:aI Q u (s+1)=some (aU S):=k 0 1 S5 zab zaa;have r:aI Q u (s+2)=some (n0):=k 0 2 S5 zab zaa;have t:aI Q u (s+3)=some (n0):=k 0 3 S5 zab zaa;have w:aI Q u (s+4)=some i0:=k 0 4 S5 zab zaa;have x:aI Q u (s+5)=some i0:=k 0 5 S5 zab zaa;have y:aI Q u (s+6)=some f0:=k 0 6 S5 zab zaa;have B:aI Q u (s+7)=some (s0):=k 0 7 S5 zab zaa;have D:aI Q u (s+8)=some (n0):=k 0 8 S5 zab zaa;have J:aI Q u (s+9)=some (n0):=k 0 9 S5 zab zaa;have K:aI Q u (s+10)=some i0:=k 0 10 S5 zab zaa;have P:aI Q u (s+11)=some i2:=k 1 0 S5 zab zaa;have W:aI Q u (s+11+1)=some (s0):=k 1 1 S5 zab zaa;have X:aI Q u (s+11+2)=some (n0):=k 1 2 S5 zab zaa;have Y:aI Q u (s+11+3)=some (n0):=k 1 3 S5 zab zaa;have C:aI Q u (s+11+4)=some (aR 4):=k 1 4 S5 zab zaa;have V:aI Q u (s+11+5)=some i0:=k 1 5 S5 zab zaa;have c:aI Q u (s+11+6)=some f0:=k 1 6 S5 zab zaa;have U:aI Q u (s+11+7)=some (aU T):=k 1 7 S5 zab zaa;have R:aI Q u (s+11+8)=some (n0):=k 1 8 S5 zab zaa;have d:aI Q u (s+11+9)=some (n0):=k 1 9 S5 zab zaa;have O:aI Q u (s+11+10)=some i0:=k 1 10 S5 zab zaa;have g:aI Q H (f)=some i0:=q 0 0 S5 zab zaa;have h:aI Q H (f+1)=some (aU S):=q 0 1 S5 zab zaa;have Z:aI Q H (f+2)=some (n0):=q 0 2 S5 zab zaa;have j:aI Q H (f+3)=some (n0):=q 0 3 S5 zab zaa;have s:aI Q H (f+4)=some i0:=q 0 4 S5 zab zaa;have m:aI Q H (f+5)=some i0:=q 0 5 S5 zab zaa;have I:aI Q H (f+6)=some f0:=q 0 6 S5 zab zaa;have o:aI Q H (f+7)=some (s0):=q 0 7 S5 zab zaa;have p:aI Q H (f+8)=some (n0):=q 0 8 S5 zab zaa;have k:aI Q H (f+9)=some (n0):=q 0 9 S5 zab zaa;have a0:aI Q H (f+10)=some i0:=q 0 10 S5 zab zaa;have a1:aI Q H (f+11)=some i2:=q 1 0 S5 zab zaa;have u:aI Q H (f+11+1)=some (s0):=q 1 1 S5 zab zaa;have a2:aI Q H (f+11+2)=some (n0):=q 1 2 S5 zab zaa;have a3:aI Q H (f+11+3)=some (n0):=q 1 3 S5 zab zaa;have a4:aI Q H (f+11+4)=some (aR 4):=q 1 4 S5 zab zaa;have a5:aI Q H (f+11+5)=some i0:=q 1 5 S5 zab zaa;have z:aI Q H (f+11+6)=some f0:=q 1 6 S5 zab zaa;have a6:aI Q H (f+11+7)=some (aU G):=q 1 7 S5 zab zaa;have a7:aI Q H (f+11+8)=some (n0):=q 1 8 S5 zab zaa;have a8:aI Q H (f+11+9)=some (n0):=q 1 9 S5 zab zaa;have a9:aI Q H (f+11+10)=some i0:=q 1 10 S5 zab zaa;by_cases v:M=0
 ·try simp(disch:=omega)only[go_sem,↓reduceIte,A,v,e,i,r,t,w,x,y,B,D,J,K,g,h,Z,j,s,m,I,o,p,k,a0]
  refine j3 (G:=.fld S) (M:=.fld S) S5 n n λ h K=>?_;have j:=Be (.fld S);refine rD j A v ?_;exact⟨⟨1,rfl,zaa,E.trans K,zaa⟩,zaE⟩
 by_cases g:M=1
 ·try simp(disch:=omega)only[go_sem,↓reduceIte,A,g,P,W,X,Y,C,V,c,U,R,d,O,a1,u,a2,a3,a4,a5,z,a6,a7,a8,a9]
  refine j3 (G:=.val T) (M:=.val G) S5 hs l λ h K=>?_;have j:bQ (.val T) (.val G)=da T G:=rfl;by_cases k:da T G=0
  ·refine rE j k A g ?_;exact⟨⟨2,rfl,zaa,E.trans K,λ _=>trivial⟩,zaE⟩
  ·have o:(da T G==0)=false:=bS k;refine rE j o A g ?_;exact L _ (E.trans K)
 ·have m:M=2:=zaa;refine rC A m ?_;refine ea ?_;have z:i3 2 2=da T G:=(N m).symm▸zaE;rw[z];exact L _ E
def PC:(Bx h 153 a λ a b=>Al b 153 λ b c=>Fa c 153 a 0 λ d=>Ld c 3 d λ d=>ce c 3 d i1 (Fa c 153 a 2 λ d=>Ld c 32 d λ d=>Ln c 32 d λ d=>Fa c 153 a 3 λ e=>Ld c 33 e λ e=>Ln c 33 e λ e=>Mn c d e λ d=>Fa c 153 a 2 λ e=>Ld c 32 e λ f=>Sl c 32 f none (some d) none λ g=>Fa c 153 a 3 λ i=>Ld c 33 i λ j=>Sl c 33 j none (some d) none λ k=>Bs c 32 0 #[] λ c l=>aX l 153 a 2 e 32 f<|Ie l 32 f none (some d) none g/\eG l 153 a 3 i/\bh l 33 i j/\Ie l 33 j none (some d) none k/\(Ap l 32 c g λ c e=>aX e 153 a 3 i 33 j<|Ie e 33 j none (some d) none k/\(Cf e 112 #[k] λ a d=>Bd d 153 #[(0,i1),(2,c),(3,a)] λ a=>Sr d 153 b a λ a=>Rv a 153 b λ b=>R b a))) (ce c 3 d i2 (Fa c 153 a 4 λ a=>Ld c 35 a λ a=>Cf c 63 #[a] λ a c=>Bd c 153 #[(0,i2),(4,a)] λ a=>Sr c 153 b a λ a=>Rv a 153 b λ b=>R b a) (ce c 3 d (aR 3) (Fa c 153 a 5 λ a=>Ld c 3 a λ a=>Bd c 153 #[(0,(aR 3)),(5,a)] λ a=>Sr c 153 b a λ a=>Rv a 153 b λ b=>R b a) (Fa c 153 a 1 λ a=>Ld c 9 a λ a=>Bd c 153 #[(1,a)] λ a=>Sr c 153 b a λ a=>Rv a 153 b λ b=>R b a))))->Cf h 99 #[a] R:=mS Tryz.func99 (Z (Q (Z (B (Z (C (Z (Q (X #[0,0,2,0,14,31,0,64,0,448,1023,2047,4095]) L)) z6)))) bG))
def Wf:(Ln h 119 a λ b=>Mz h 119 i0 b λ b c=>Ln c 119 a λ d=>Lp (∃(e:V2)(f:N2),e b i0 c/\∀b c g,e b c g->(bv g .lss 3 c d (Ia g 119 a c λ a=>Ld g 153 a λ a=>bH g 153 a λ a d=>Ld d 153 a λ a=>Cf d 99 #[a] λ a d=>Bs d 119 1 #[(0,a)] λ a d=>Ap d 119 b a λ a d=>Bi d .add 3 c i1 λ i=>(e a i d/\f a i d<f b c g)) (R b g))))->Cf h 47 #[a] R:=mS Tryz.func47 HN
theorem l7(Z:aN I h)(L:∀U,aD I h I U->R (.agg (elC G).toArray) U):Cf h 99 #[.agg (elC G).toArray] R:=by
 cases G with
  |fld A=>refine PC (rA ?_);exact zaC
  |val A=>refine PC (rA ?_);refine hh (show aD I h I _ from aP Z).sat λ y v=>?_;have s:aD I h I y:=aC.trans (aP Z) v;have x:blk y (h.size+1)=aE #[i0,s0,n0,n0,i0,i0,f0,s0,n0,n0,i0] 153:=v.blk Bk id;have u:I (h.size+1)=none:=Z.fresh zaa;(try simp only[bJ]);refine rB x.b ?_;refine L _ ?_;repeat'(first|with_reducible exact s|with_reducible refine aC.put ?_ (Or.inl ?_) ?_|exact u|omega)
theorem FD(w:bU):∀S∈w.flatMap elC,aG S=true:=by intro S O;obtain⟨C,_,s⟩:=List.mem_flatMap.1 O;cases C<;>simp only[List.mem_cons,List.not_mem_nil,or_false]at s<;>rcases s with rfl|rfl|rfl|rfl|rfl|rfl|rfl|rfl|rfl|rfl|rfl<;>rfl
theorem tZ{T:aK}(Z:aN T h)(p:PathR T a E)(L:∀q V U,aD T h V U->PathR V q E->R q U):Cf h 47 #[a] R:=by
 obtain⟨B,V,rfl,t,-,D,-,k⟩:=p;refine Wf (rA ?_);refine gw jF zaa (t:=0) (u:=E.length) rfl rfl zaa zaa ?_;intro H b;refine rA ?_;refine⟨λ X a Q=>∃M:Nat,a=aR M/\M<=E.length/\aD T h T Q/\aQ h.size T Q 153 11 X M ((E.take M).flatMap elC),λ _ a _=>match a with|.int _ M=>E.length-M.toNat|_=>0,?_,?_⟩
 ·refine⟨0,rfl,zaa,aP Z,?_⟩;exact aQ.made (by(try simp only[bJ]);exact zaa) Bk (Z.fresh (by(try simp only[bJ]);exact zaa)) b zaa
 rintro X _ Q⟨M,rfl,d,j,W⟩;have O:=W.one;have a:=j.size;refine rA ?_;refine⟨λ y=>?_,λ y=>?_⟩
 ·have o:M<E.length:=bS y;refine(k zaa).elim λ u Y=>Y.elim λ s Y=>?_;have G:=Y.1;have O:∀M S,(E.flatMap elC)[M]?=some S->bP T u (s+M)=some S:=Y.2;have S5:aN T Q:=λ r q p=>j.sat r q (j.le r q p);have g:∀D,D<11->aI Q u (s+M*11+D)=(elC E[M])[D]?:=λ D K=>cj (c:=elC) (m:=11) S5 jz O o K;cases V:E[M]with
   |fld A=>
    rw[V]at g;have v:aI Q u (s+M*11)=some i0:=g 0 zaa;have p:=g 1 zaa;have F:=g 2 zaa;have m:=g 3 zaa;have H:=g 4 zaa;have d:=g 5 zaa;have R:=g 6 zaa;have i:=g 7 zaa;have b:=g 8 zaa;have K:=g 9 zaa;have t:=g 10 zaa;try simp(disch:=omega)only[go_sem,↓reduceIte,G,o,v,p,F,m,H,d,R,i,b,K,t]
    refine l7 (G:=.fld A) (show aD T h T _ from bX Z j).sat λ U C=>?_;have O:aD T h T U:=aC.trans (bX Z j) C;have w:=aQ.step (show aQ h.size T _ 153 11 X M ((E.take M).flatMap elC)from Ow W) C λ _ _=>id;refine rA ?_;refine bY jF rfl zaa zaa (v:=M) (c:=(E.take M).flatMap elC) (u:=h.size) (T:=T) Bk (Ow w) (show aD T h T _ from bX Z O).sat rfl zac zaa (by have:=O.size;(try simp only[bJ]);exact zaa) ?_;intro k N J Y a B;refine rA ?_;refine⟨⟨M+1,rfl,zaa,aC.touch (show aD T h T _ from bX Z O) Y λ P z=>⟨.inl (w.1.block z).1,w.2 P z⟩,?_⟩,zaa⟩;have:(E.take (M+1)).flatMap elC=(E.take M).flatMap elC++elC (.fld A):=by rw[List.take_add_one,List.flatMap_append,List.getElem?_eq_getElem o,V];exact zab
    rw[this];exact J
   |val A=>
    rw[V]at g;have v:aI Q u (s+M*11)=some i2:=g 0 zaa;have p:=g 1 zaa;have F:=g 2 zaa;have m:=g 3 zaa;have H:=g 4 zaa;have d:=g 5 zaa;have R:=g 6 zaa;have i:=g 7 zaa;have b:=g 8 zaa;have K:=g 9 zaa;have t:=g 10 zaa;try simp(disch:=omega)only[go_sem,↓reduceIte,G,o,v,p,F,m,H,d,R,i,b,K,t]
    refine l7 (G:=.val A) (show aD T h T _ from bX Z j).sat λ U C=>?_;have O:aD T h T U:=aC.trans (bX Z j) C;have w:=aQ.step (show aQ h.size T _ 153 11 X M ((E.take M).flatMap elC)from Ow W) C λ _ _=>id;refine rA ?_;refine bY jF rfl zaa zaa (v:=M) (c:=(E.take M).flatMap elC) (u:=h.size) (T:=T) Bk (Ow w) (show aD T h T _ from bX Z O).sat rfl zac zaa (by have:=O.size;(try simp only[bJ]);exact zaa) ?_;intro k N J Y a B;refine rA ?_;refine⟨⟨M+1,rfl,zaa,aC.touch (show aD T h T _ from bX Z O) Y λ P z=>⟨.inl (w.1.block z).1,w.2 P z⟩,?_⟩,zaa⟩;have:(E.take (M+1)).flatMap elC=(E.take M).flatMap elC++elC (.val A):=by rw[List.take_add_one,List.flatMap_append,List.getElem?_eq_getElem o,V];exact zab
    rw[this];exact J
 ·have x:M=E.length:=by have:¬M<E.length:=bS y;exact zaa
  subst x;rw[List.take_length]at W;refine rA ?_;obtain⟨Q,i,i⟩:=W.frz j bu zaa (FD E);exact L _ _ _ Q i
def WM:(Ln h 50 a λ c=>Lp (∃(d:V2)(e:N2),d i0 c h/\∀c f g,d c f g->(bv g .lss 3 c f (Bi g .sub 3 f c λ i=>Bi g .quo 3 i i2 λ i=>Bi g .add 3 c i λ i=>Ia g 50 a i λ a=>Ld g 119 a λ a=>Cf g 98 #[a,b] λ a b=>bv b .lss 3 a i0 (Bi b .add 3 i i1 λ a=>(d a f b/\e a f b<e c f g)) (d c i b/\e c i b<e c f g)) (Ln g 50 a λ d=>Bi g .lss 3 c d λ d=>aH g d (λ b c=>b a c) λ a e=>aH e d (λ a b=>a c b) λ e f=>aH f d (λ b c=>Ia c 50 a e λ a=>b a c) λ a e=>aH e d (λ b c=>Ld c 119 a λ a=>b a c) λ a e=>aH e d (λ a c=>a b c) λ b e=>aH e d (λ c d=>Cf d 98 #[a,b] λ a b=>c a b) λ a b=>aH b d (λ b c=>Eb c .eql 3 false true a i0 λ a=>b a c) λ a b=>Pk d a bf λ a=>R (bj c a) b))))->Cf h 46 #[a,b] R:=mS Tryz.func46 (Z (Z (Q PZ bG)))
@[go_sem] theorem VK{B:Int}{T:Value->Prop}:Bi h .quo m (aR B) i2 T=if 0<=B/\B<9223372036854775808 then T (aR (B/2))else Rg h (binOp .quo m (aR B) i2) T:=by
 by_cases k:0<=B/\B<9223372036854775808
 ·rw[if_pos k];refine cV λ E _=>?_;have C:B.tdiv 2=B/2:=Int.tdiv_eq_ediv_of_nonneg k.1;have z:=io (B:=B/2) zaa;show(Op.intDiv .quo .i64 B 2).run P E=_;unfold Op.intDiv;rw[if_neg zaa];simp only[C,z,Sem.run_pure]
 ·rw[if_neg k];rfl
theorem B3(Z:aN I h){B:Option Addr}(f:x.length=z.length)(H:∀i(y:i<x.length)(N:i<z.length),PathR I x[i] (jL S (.val z[i])))(C:∀A∈z,A.size<=2147483647)(P:S.size<=2147483647)(c:T.size<=2147483647)(D:z.length<1000000)(k:0<z.length->∃b s,B=some ⟨b,s,none⟩/\∀W,aD I h I W->∀i(y:i<x.length),aI W b (s+i)=some x[i])(e:PathR I a (jL S (.val T)))(u:∀i j(d:i<z.length)(K:j<z.length),i<=j->da z[j] T<0->da z[i] T<0)(L:∀(i:Nat)U,aD I h I U->i<=z.length->(∀j(K:j<z.length),j<i->da z[j] T<0)->(∀j(K:j<z.length),i<=j->¬da z[j] T<0)->R (bj (aR i) (.bool (decide (∃d:i<z.length,da z[i] T=0)))) U):Cf h 46 #[.slice B z.length m,a] R:=by
 refine WM (rA ?_);refine⟨λ g d Q=>∃X q:Nat,g=aR X/\d=aR q/\X<=q/\q<=z.length/\aD I h I Q/\(∀j(K:j<z.length),j<X->da z[j] T<0)/\(∀j(K:j<z.length),q<=j->¬da z[j] T<0),λ g d _=>match g,d with|.int _ X,.int _ q=>q.toNat-X.toNat|_,_=>0,⟨0,z.length,rfl,rfl,zaa,zaa,aC.refl Z,zaa,zaa⟩,λ g d Q F=>?_⟩;refine F.elim λ X F=>F.elim λ q F=>?_;have A:=F.1;have f:=F.2.1;have r:=F.2.2.1;have m:=F.2.2.2.1;have E:=F.2.2.2.2.1;have n:=F.2.2.2.2.2.1;have l:=F.2.2.2.2.2.2;subst A;subst f;refine rA ?_;refine⟨λ y=>?_,λ y=>?_⟩
 ·have o:X<q:=bS y;refine(k zaa).elim λ b Y=>Y.elim λ s Y=>?_;have G:=Y.1;have M:(X:Int)+((q:Int)-X)/2=((X+(q-X)/2:Nat):Int):=zaa;have B:X+(q-X)/2<z.length:=zaa;have f:X+(q-X)/2<q:=zaa;have p:X<=X+(q-X)/2:=zaa;generalize X+(q-X)/2=x at M B f p;have v:=Y.2 Q E x zaa;refine rD G M v ?_;refine k6 E.sat (H x zaa B) e P (C _ (List.getElem_mem B)) c λ S J=>?_;have O:=E.trans J;refine rA ?_;refine⟨λ N=>?_,λ N=>?_⟩
  ·have r:da z[x] T<0:=bS N;refine rA ?_;exact⟨⟨x+1,q,by rw[M];rfl,rfl,zaa,zaa,O,λ j K t=>u j x K B zaa r,l⟩,zaa⟩
  ·have r:¬da z[x] T<0:=bS N;exact⟨⟨X,x,rfl,by rw[M],zaa,zaa,O,n,λ j K t Q=>r (u x j B K t Q)⟩,zaa⟩
 ·have x:X=q:=by have:¬X<q:=bS y;exact zaa
  subst x;by_cases o:X<z.length
  ·have V:decide ((X:Int)<(z.length:Int))=true:=bS o;refine(k zaa).elim λ b Y=>Y.elim λ s Y=>?_;have G:=Y.1;have v:=Y.2 Q E X zaa;refine rD V G v ?_;refine k6 E.sat (H X zaa o) e P (C _ (List.getElem_mem o)) c λ S J=>rB V ?_;have c:(da z[X] T==0)=decide (∃d:X<z.length,da z[X] T=0):=by rw[Bool.eq_iff_iff];exact zbL
   refine rC c V ?_;exact L X _ (E.trans J) m n l
  ·have V:decide ((X:Int)<(z.length:Int))=false:=bS o;refine rB V ?_;have c:false=decide (∃d:X<z.length,da z[X] T=0):=by rw[Bool.eq_iff_iff];exact zbL
   first|rw[c]|rw[show bf=Value.bool (decide (∃d:X<z.length,da z[X] T=0))from congrArg Value.bool c]
   exact L X _ E m n l
def S10:(Ln h 50 a λ b=>Lp (∃(c:V2)(d:N2),c n0 i0 h/\∀e f g,c e f g->(bv g .lss 3 f b (Lp (∃b:V1,(∀a i,b a i->(Bi i .add 3 f i1 λ b=>(c a b i/\d a b i<d e f g)))/\(Ia g 50 a f λ a=>Ld g 119 a λ a=>Ln g 119 a λ c=>ce g 3 c i0 (b e g) (Cf g 46 #[e,a] λ c d=>aW c λ c f=>Cd f (b e d) (Bs d 50 1 #[(0,n0)] λ d f=>Ap f 50 e d λ d e=>Bi e .add 3 c i1 λ f=>Sl e 50 d (some f) none none λ f=>Sl e 50 d (some c) none none λ g=>Cy e 50 50 f g λ _ e=>Cf e 47 #[a] λ a e=>Ia e 50 d c λ c=>Sr e 119 c a λ a=>b d a))))) (R e g))))->Cf h 10 #[a] R:=mS Tryz.func10 (Z (Z (Q (Z (B (O [3,10] (Z (Q d8 (Y [3] (B (Z (Q cF (Z (Q cF (Z (Q (X #[0,0,2,7,0,0,48,127]) L))))))) L)))))) bG)))
abbrev lC(m A:bF):bU:=jL m (.val A)
theorem QE{D:Int}{r:IntKind}{T:Value->Prop}(K:0<=D/\D<=m):Sl h 50 (bq o l m n) (some (.int r D)) none none T=T (bq o (if n=D.toNat then l else l+D.toNat*1) (m-D.toNat) (n-D.toNat)):=l8 Tryz.underlying50 Uc K
theorem aQ.look(B:aQ m I h n 1 a o x):∃B V,a=.slice B o V/\(0<o->∃b s,B=some ⟨b,s,none⟩/\∀W,aD I h I W->∀i(y:i<x.length),aI W b (s+i)=some x[i]):=by
 rcases B.1.2 with⟨rfl,rfl⟩|⟨P,V,X,rfl,j,z,t,-,U,N⟩
 ·exact⟨_,_,rfl,λ h=>absurd h zaa⟩
 ·refine⟨_,_,rfl,λ _=>⟨P,0,rfl,λ W E i y=>?_⟩⟩;have c:blk W P=aE X n:=E.blk z id;rw[aA c,Nat.zero_add,<-Array.getElem?_toList];have:(X.toList.take (o*1))[i]?=some x[i]:=by rw[N];exact List.getElem?_eq_getElem y
  rw[List.getElem?_take]at this;split at this
  ·exact zbX
  ·cases this
abbrev i9(W:bn):Prop:=W.Pairwise λ a b=>da a b<0
theorem i9.mono{r:bn}(w:i9 r)(G:bF):∀i j(d:i<r.length)(K:j<r.length),i<=j->da r[j] G<0->da r[i] G<0:=by
 intro i j d K k y;rcases Nat.lt_or_ge i j with N|N
 ·exact lL (List.pairwise_iff_getElem.1 w i j d K N) y
 ·have:i=j:=zaa;subst this;exact y
theorem i9.ins{r:bn}(w:i9 r)(d:m<=r.length)(y:∀j(K:j<r.length),j<m->da r[j] S<0)(N:∀j(K:j<r.length),m<=j->¬da r[j] S<0)(c:¬∃d:m<r.length,da r[m] S=0):i9 (r.take m++[S]++r.drop m):=by
 have o:∀A∈r.drop m,da S A<0:=by
  intro A s;obtain⟨j,K,rfl⟩:=List.mem_iff_getElem.1 s;rw[List.length_drop]at K;rw[List.getElem_drop];have X:=N (m+j) zaa zaa;by_cases C:da r[m+j] S=0
  ·exfalso;have v:m<r.length:=zaa;have n0:=N m v bu;have i:=cmpS_eq0.1 C;rcases Nat.eq_zero_or_pos j with l|l
   ·subst l;exact c ⟨v,C⟩
   ·have Q:=List.pairwise_iff_getElem.1 w m (m+j) v zaa zaa;rw[i]at Q;exact n0 Q
  ·exact cmpS_swap.2 zaa
 have h:∀A∈r.take m,da A S<0:=by intro A s;obtain⟨j,K,rfl⟩:=List.mem_iff_getElem.1 s;rw[List.length_take]at K;rw[List.getElem_take];exact y j zaa zaa
 have e:i9 (r.take m++r.drop m):=by rw[List.take_append_drop];exact w
 have b:=List.pairwise_append.1 e;refine List.pairwise_append.2 ⟨List.pairwise_append.2 ⟨b.1,zab,λ a Y u U=>?_⟩,b.2.1,λ a Y u U=>?_⟩
 ·rw[List.mem_singleton.1 U];exact h a Y
 ·rcases List.mem_append.1 Y with K|K
  ·exact b.2.2 a K u U
  ·rw[List.mem_singleton.1 K];exact o u U
theorem eB.ins{r:Value->α->Prop}{a:α}(O:r b a):∀{g bs}(i:Nat),eB r g bs->eB r (g.take i++[b]++g.drop i) (bs.take i++[a]++bs.drop i)|_,_,0,X=>bS (eB.cons O X)|_,_,i+1,.nil=>bS (eB.cons O .nil)|_,_,i+1,.cons X q=>bS (eB.cons X (q.ins O i))
theorem HS(d:m<=n)(D:x.length=n)(k:w.take (n+1)=x++[n0])(v:m<n->o=m+1):∃p,(w.take o++x.drop m++w.drop (o+(x.drop m).length)).take (n+1)=x.take m++[p]++x.drop m:=by
 by_cases O:m=n
 ·subst O;refine⟨n0,?_⟩;rw[List.drop_of_length_le zaa,List.take_of_length_le (l:=x) zaa];simp only[List.append_nil,List.length_nil,Nat.add_zero,List.take_append_drop];exact k
 ·have C:=v zaa;subst C;have K:m<x.length:=zaa;have y:w.take (m+1)=x.take m++[x[m]]:=by
   have:(w.take (n+1)).take (m+1)=(x++[n0]).take (m+1):=by rw[k]
   rw[List.take_take,Nat.min_eq_left zaa,List.take_append_of_le_length zaa,List.take_add_one (l:=x),List.getElem?_eq_getElem K]at this;exact zbX
  refine⟨x[m],?_⟩;rw[y];rw[List.take_left'];rw[List.length_append,List.length_append,List.length_take,List.length_drop];simp;exact zaa
structure SO(I:aK)(h:Heap)(ka:bF)(l:bn)(x:Value)(i:Nat)(h5:Heap)(J:aK)(vs:bW)(r:bn):Prop where
 st:aD I h J h5
 ox:aQ h.size J h5 119 1 x r.length vs
 a2:eB (PathR J) vs (r.map (lC ka))
 on:∀u∈vs,aG u=true
 so:i9 r
 me:∀s,s∈r↔s∈l.take i
 le:r.length<=i
theorem lY(d:m<z.length):S∈z.take (m+1)↔S∈z.take m\/S=z[m]:=by
 have:z.take (m+1)=z.take m++[z[m]]:=by rw[List.take_add_one,List.getElem?_eq_getElem d];rfl
 rw[this,List.mem_append,List.mem_singleton]
theorem F1(B:m<=x.length)(p q:Value):(x.take m++[p]++x.drop m).set m q=x.take m++[q]++x.drop m:=by
 have:(x.take m).length=m:=by rw[List.length_take];exact zaa
 rw[List.append_assoc,List.set_append_right _ _ zaa,this,Nat.sub_self];exact zab
theorem sY{T:aK}(Z:aN T h){m:bF}{H:bn}(p:eP T b (H.map (lC m)))(S:∀A∈H,A.size<=2147483647)(w:m.size<=2147483647)(D:H.length<1000000)(hR:∀q V U W,aD T h V U->eP V q (W.map (lC m))->i9 W->(∀A,A∈W↔A∈H)->R q U):Cf h 10 #[b] R:=by
 obtain⟨c,⟨B,R,rfl,e,O,-,d,k⟩,C⟩:=p;rw[List.length_map]at e k O;rw[List.length_map];refine S10 (rA ?_);refine⟨λ a0 b Q=>∃(M:Nat)(V:aK)(g:bW)(W:bn),b=aR M/\M<=H.length/\SO T h m H a0 M Q V g W,λ _ b _=>match b with|.int _ M=>H.length-M.toNat|_=>0,⟨0,T,[],[],rfl,zaa,aC.refl Z,aQ.nil ..,.nil,zab,.nil,zab,zab⟩,λ a0 b Q F=>?_⟩;refine F.elim λ M F=>F.elim λ V F=>F.elim λ g F=>F.elim λ W F=>?_;have d:=F.1;have U:=F.2.1;have f:=F.2.2;subst d;have j:=f.st;have S5:=j.sat;refine rA ?_;refine⟨λ y=>?_,λ y=>?_⟩
 ·have a1:M<H.length:=bS y;refine(k zaa).elim λ u Y=>Y.elim λ s Y=>?_;have G:=Y.1;have R:M<c.length:=zaa;have v:=j.sat.cell (cE j.le (Y.2 M c[M] (List.getElem?_eq_getElem R)));have i:PathR V c[M] (lC m H[M]):=by have:=C.get M (bS a1) R;rw[List.getElem_map]at this;exact cd.mono j.le this
  refine Exists.elim i λ p e=>Exists.elim e λ C e=>?_;have ep:=e.1;refine⟨λ s e=>∃(V:aK)(g:bW)(W:bn),SO T h m H s (M+1) e V g W,λ s e d=>?_,?_⟩
  ·refine rA ?_;refine d.elim λ E d=>d.elim λ c d=>d.elim λ Y d=>?_;exact⟨⟨M+1,E,c,Y,rfl,zaa,d⟩,zaa⟩
  have O:([El.fld m,El.val H[M]]:bU).length=2:=rfl;rw[ep]at v;refine rD G v O ?_;have k:PathR V (.slice p 2 C) (lC m H[M]):=ep▸i;refine Exists.elim f.ox.look λ K u=>Exists.elim u λ N u=>?_;have v:=u.1;subst v;have F:g.length=W.length:=by have:=f.a2.len;exact zai
  refine B3 S5 (S:=m) (T:=H[M]) (z:=W) (x:=g) F (λ D y N=>by have:=f.a2.get D (bS N) y;rw[List.getElem_map]at this;exact zbX) (λ A N=>S A (List.mem_of_mem_take ((f.me A).1 N))) w (S _ (List.getElem_mem a1)) (cW f.le) u.2 k (f.so.mono _) λ x e P B g1 g2=>?_;have C:=j.trans P;have w:=f.ox.step P (λ _ _=>id);have K:=f.le;refine rA ?_;refine⟨λ p=>?_,λ p=>?_⟩
  ·refine Exists.elim (of_decide_eq_true p) λ K v=>?_;refine⟨V,g,W,C,w,f.a2,f.on,f.so,λ A=>?_,zaa⟩;rw[lY a1,f.me A];refine⟨.inl,λ h=>h.elim id λ O=>?_⟩;rw[O,<-cmpS_eq0.1 v];exact(f.me _).1 (List.getElem_mem K)
  ·have c:¬∃U:x<W.length,da W[x] H[M]=0:=of_decide_eq_false p;refine rA ?_;refine bY oP rfl zaa zaa (v:=W.length) (c:=g) (u:=h.size) (T:=V) (H:=#[n0]) Bk (Ow w) (show aD T h V _ from bX Z C).sat rfl zac zaa (by have:=C.size;(try simp only[bJ]);exact zaa) ?_;intro s N J Y Q x0;have s:aD T h V N:=aC.touch (show aD T h V _ from bX Z C) Y λ P z=>⟨.inl (w.1.block z).1,w.2 P z⟩;rcases J.1.2 with⟨-,d⟩|⟨P,E,X,rfl,d,z,w,Z,v,i⟩
   ·exact zaa
   have K:blk N P=aE X 119:=z;have z:V P=none:=J.2 P rfl;have R:X.toList.take (W.length+1)=g++[n0]:=bS i;have U:(g.drop x).length=W.length-x:=by rw[List.length_drop];exact zaa
   have Q:X.toList.length=E:=bS v;refine rD @QE @dS @Nat.zero_add ?_;refine Exists.elim (HS B F R (o:=if E=x+1 then 0 else x+1) λ _=>if_neg zaa) λ p Y=>?_;refine ju oP K (i:=W.length-x) (Y:=g.drop x) (Nat.min_eq_right zaa|>.trans zaa) (by rw[U];exact zaa) ?_ ?_ (λ S O=>f.on S (List.mem_of_mem_drop O)) ?_
   ·intro D S O;rw[aA K,<-Array.getElem?_toList];rw[List.getElem?_drop]at O;have G:=(List.getElem?_eq_some_iff.1 O).1;have G:(X.toList.take (W.length+1))[x+D]?=some S:=by rw[R,List.getElem?_append_left zaa];exact O
    rw[List.getElem?_take]at G;split at G
    ·exact G
    ·cases G
   ·rw[U];split<;>omega
   generalize u:(X.toList.take (if E=x+1 then 0 else x+1)++g.drop x++X.toList.drop ((if E=x+1 then 0 else x+1)+(g.drop x).length))=L at Y⊢;have R:L.length=E:=by rw[<-u];simp only[List.length_append,List.length_take,List.length_drop,Q];split<;>omega
   have D:=dV (H:=L.toArray) K;have F:aD T h V (ey N P L.toArray):=aC.setc s (.inl d) z;refine rA ?_;refine tZ F.sat k λ q k C v e=>?_;have i:blk C P=aE L.toArray 119:=v.blk D id;have J:k P=none:=(v.dom P (aF D) id).trans z;have z:aI C P x=some p:=by
    rw[aA i];have G:(L.take (W.length+1))[x]?=some p:=by
     have X:(g.take x).length=x:=by rw[List.length_take];exact zaa
     rw[Y,List.append_assoc,List.getElem?_append_right zaa,X,Nat.sub_self];rfl
    rw[List.getElem?_take]at G;split at G
    ·simpa using G
    ·cases G
   have T:=aS i x;have Q:=e.one;refine rE @Nat.zero_add z T Q ?_;have z:(W.take x++[H[M]]++W.drop x).length=W.length+1:=by simp;exact zaa
   refine⟨k,g.take x++[q]++g.drop x,W.take x++[H[M]]++W.drop x,aC.put (F.trans v) (.inl d) J,?_,?_,?_,f.so.ins B g1 g2 c,λ A=>?_,zaa⟩
   ·rw[z];refine⟨⟨by simp;exact zaa,.inr ⟨P,E,L.toArray.setIfInBounds x q,rfl,d,?_,w,Z,bS R,?_⟩⟩,λ R B=>by cases B;exact J⟩
    ·show blk _ P=_;rw[bO,if_pos rfl,i];rfl
    ·rw[Array.toList_setIfInBounds,Nat.mul_one,List.take_set];show(L.take (W.length+1)).set x q=_;rw[Y,F1 zaa]
   ·have:=eB.ins (r:=PathR k) (a:=lC m H[M]) e x (f.a2.mono λ b a0=>cd.mono v.le);rw[List.map_append,List.map_append,List.map_take,List.map_drop];exact zbX
   ·intro S O;rcases List.mem_append.1 O with G|G
    ·rcases List.mem_append.1 G with G|G
     ·exact f.on S (List.mem_of_mem_take G)
     ·rw[List.mem_singleton.1 G];exact Q
    ·exact f.on S (List.mem_of_mem_drop G)
   ·have G:A∈W↔A∈W.take x\/A∈W.drop x:=zcP;rw[lY a1,<-f.me A,G];simp only[List.mem_append,List.mem_singleton];constructor
    ·rintro((h|h)|h)<;>simp[h]
    ·rintro((h|h)|h)<;>simp[h]
 ·have x:M=H.length:=by have:¬M<H.length:=bS y;exact zaa
  subst x;have c:=f.ox.frz j bu (cW f.le) f.on;refine hR _ _ _ W c.1 ⟨g,?_,f.a2.mono λ b a0=>cd.mono c.2.1⟩ f.so λ A=>?_
  ·rw[List.length_map];exact c.2.2
  ·rw[f.me A,List.take_length]
def Uq:(Bx h 35 a λ a b=>Fa b 35 a 0 λ c=>Ld b 3 c λ c=>Eb b .eql 3 false true c i2 λ c=>Gd b c false (λ b c=>Fa c 35 a 0 λ a=>b a c) λ a b=>Gd b c false (λ b c=>Ld c 3 a λ a=>b a c) λ a b=>Gd b c false (λ b c=>Eb c .eql 3 false true a (aR 3) λ a=>b a c) λ a b=>Pk c bt a λ a=>R a b)->Cf h 162 #[a] R:=mS Tryz.func162 cX
def U2:(Bx h 35 a λ a c=>Bx c 35 b λ b c=>Ld c 35 a λ d=>Cf c 162 #[d] λ c d=>aH d c (λ a c=>Ld c 35 b λ b=>a b c) λ d e=>aH e c (λ a b=>Cf b 162 #[d] λ b c=>a b c) λ d e=>Pk c d bf λ c=>Cd c (Fa e 35 a 0 λ c=>Ld e 3 c λ c=>Eb e .eql 3 false true c i2 λ c=>aH e c (λ a c=>Fa c 35 b 0 λ b=>a b c) λ d e=>aH e c (λ a b=>Ld b 3 d λ c=>a c b) λ d e=>aH e c (λ a b=>Eb b .eql 3 false true d i2 λ c=>a c b) λ d e=>Pk c d bf λ c=>Cd c (Fa e 35 a 1 λ a=>Ld e 2 a λ a=>Fa e 35 b 1 λ b=>Ld e 2 b λ b=>Eb e .eql 2 false false a b λ a=>R a e) (Ld e 35 a λ a=>Ld e 35 b λ c=>Cf e 265 #[a] λ a d=>bh d 35 b c/\(Cf d 265 #[c] λ b c=>Eb c .eql 31 false false a b λ a=>R a c))) (Fa e 35 a 0 λ c=>Ld e 3 c λ c=>Fa e 35 b 0 λ d=>Ld e 3 d λ d=>Eb e .neq 3 false false c d λ c=>Gd e c false (λ b c=>Fa c 35 a 1 λ a=>b a c) λ d e=>Gd e c false (λ a b=>Ld b 2 d λ c=>a c b) λ d e=>Gd e c false (λ a c=>Fa c 35 b 1 λ b=>a b c) λ e f=>Gd f c false (λ a b=>Ld b 2 e λ c=>a c b) λ e f=>Gd f c false (λ a b=>Eb b .neq 2 false false d e λ c=>a c b) λ d e=>Pk c bt d λ c=>Gd e c false (λ b c=>Fa c 35 a 3 λ a=>b a c) λ d e=>Gd e c false (λ a b=>Ld b 9 d λ c=>a c b) λ d e=>Gd e c false (λ a c=>Fa c 35 b 3 λ b=>a b c) λ e f=>Gd f c false (λ a b=>Ld b 9 e λ c=>a c b) λ e f=>Gd f c false (λ a b=>Eb b .neq 9 false false d e λ c=>a c b) λ d e=>Pk c bt d λ c=>Cd c (R (.bool false) e) (Fa e 35 a 4 λ c=>Ld e 32 c λ c=>Ln e 32 c λ c=>Fa e 35 b 4 λ d=>Ld e 32 d λ d=>Ln e 32 d λ d=>Eb e .neq 3 false false c d λ c=>Gd e c false (λ b c=>Fa c 35 a 5 λ a=>b a c) λ d e=>Gd e c false (λ a b=>Ld b 33 d λ c=>a c b) λ d e=>Gd e c false (λ a b=>Ln b 33 d λ c=>a c b) λ d e=>Gd e c false (λ a c=>Fa c 35 b 5 λ b=>a b c) λ e f=>Gd f c false (λ a b=>Ld b 33 e λ c=>a c b) λ e f=>Gd f c false (λ a b=>Ln b 33 e λ c=>a c b) λ e f=>Gd f c false (λ a b=>Eb b .neq 3 false false d e λ c=>a c b) λ d e=>Pk c bt d λ c=>Cd c (R (.bool false) e) (Fa e 35 a 4 λ c=>Ld e 32 c λ c=>Ln e 32 c λ c=>Lp (∃(d:V1)(f:N1),d i0 e/\∀e g,d e g->(bv g .lss 3 e c (Fa g 35 a 4 λ a=>Ld g 32 a λ a=>Ia g 32 a e λ a=>Ld g 9 a λ a=>Fa g 35 b 4 λ b=>Ld g 32 b λ b=>Ia g 32 b e λ b=>Ld g 9 b λ b=>Eb g .neq 9 false false a b λ a=>Cd a (R (.bool false) g) (Bi g .add 3 e i1 λ a=>(d a g/\f a g<f e g))) (Fa g 35 a 5 λ c=>Ld g 33 c λ c=>Ln g 33 c λ c=>Lp (∃(d:V1)(e:N1),d i0 g/\∀f g,d f g->(bv g .lss 3 f c (Fa g 35 a 5 λ a=>Ld g 33 a λ a=>Ia g 33 a f λ a=>Ld g 35 a λ a=>Fa g 35 b 5 λ b=>Ld g 33 b λ b=>Ia g 33 b f λ b=>Ld g 35 b λ b=>Cf g 268 #[a,b] λ a b=>cD b a (R (.bool false) b) (Bi b .add 3 f i1 λ a=>(d a b/\e a b<e f g))) (R (.bool true) g))))))))))->Cf h 268 #[a,b] R:=mS Tryz.func268 (Z (Q (Z (C (Q cg (Q vY L)) L)) (Q cg (Q cg (Q (Z (B (O [69] (Z (Q d8 (Q (B (Z (Q (X #[0,1,0,7,15,0,32,0,224,480,1023]) iT))) L)))))) (Q (Z (B (O [87] (Z (Q d8 (Q (B (Z (Q (X #[0,1,0,7,15,0,32,0,224,480,1023,2047]) iT))) L)))))) bG))))))
def RL:(Bx h 35 a λ a c=>Bx c 35 b λ b c=>Ld c 35 a λ a=>Ld c 35 b λ d=>Cf c 63 #[a] λ a c=>bh c 35 b d/\(Cf c 63 #[d] λ b c=>Cf c 268 #[a,b] λ a b=>R a b))->Cf h 246 #[a,b] R:=mS Tryz.func246 (Z (Q vY L))
def Tk:(Bx h 153 a λ a c=>Bx c 153 b λ b c=>Ld c 153 a λ d=>Ld c 153 b λ e=>Cf c 160 #[d] λ c d=>bh d 153 b e/\(Cf d 160 #[e] λ d e=>Eb e .neq 3 false false c d λ c=>Cd c (R (.bool false) e) (Ld e 153 a λ c=>Cf e 160 #[c] λ c d=>ce d 3 c i1 (Ld d 153 a λ a=>Ld d 153 b λ b=>Cf d 245 #[a,b] λ a b=>R a b) (ce d 3 c i2 (Fa d 153 a 4 λ a=>Ld d 35 a λ a=>Fa d 153 b 4 λ b=>Ld d 35 b λ b=>Cf d 246 #[a,b] λ a b=>R a b) (ce d 3 c (aR 3) (Fa d 153 a 5 λ a=>Ld d 3 a λ a=>Fa d 153 b 5 λ b=>Ld d 3 b λ b=>Eb d .eql 3 false false a b λ a=>R a d) (Fa d 153 a 1 λ a=>Ld d 9 a λ a=>Fa d 153 b 1 λ b=>Ld d 9 b λ b=>Eb d .eql 9 false false a b λ a=>R a d))))))->Cf h 211 #[a,b] R:=mS Tryz.func211 (Z (Q (Q (X #[0,1,0,7,15]) iT) (Q (Z (B EF)) bG)))
def QJ:(Ln h 119 b λ c=>Ln h 119 a λ d=>bv h .gtr 3 c d (R (.bool false) h) (Ln h 119 b λ c=>Lp (∃(d:V1)(e:N1),d i0 h/\∀f g,d f g->(bv g .lss 3 f c (Ia g 119 a f λ a=>Ld g 153 a λ a=>Ia g 119 b f λ b=>Ld g 153 b λ b=>Cf g 211 #[a,b] λ a b=>cD b a (R (.bool false) b) (Bi b .add 3 f i1 λ a=>(d a b/\e a b<e f g))) (R (.bool true) g)))))->Cf h 155 #[a,b] R:=mS Tryz.func155 Qe
def Rm:(Ln h 119 a λ c=>Ln h 119 b λ d=>Eb h .eql 3 false false c d λ c=>aH h c (λ b c=>b a c) λ a d=>aH d c (λ a c=>a b c) λ b d=>aH d c (λ c d=>Cf d 155 #[a,b] λ a b=>c a b) λ a b=>Pk c a bf λ a=>R a b)->Cf h 101 #[a,b] R:=mS Tryz.func101 cX
def Wp:(Ln h 50 a λ c=>Ln h 50 b λ d=>Eb h .neq 3 false false c d λ c=>Cd c (R (.bool false) h) (Ln h 50 a λ c=>Lp (∃(d:V1)(e:N1),d i0 h/\∀f g,d f g->(bv g .lss 3 f c (Ia g 50 a f λ a=>Ld g 119 a λ a=>Ia g 50 b f λ b=>Ld g 119 b λ b=>Cf g 101 #[a,b] λ a b=>cD b a (R (.bool false) b) (Bi b .add 3 f i1 λ a=>(d a b/\e a b<e f g))) (R (.bool true) g)))))->Cf h 49 #[a,b] R:=mS Tryz.func49 Qe
def WK:(Cf h 10 #[a] λ a c=>Cf c 10 #[b] λ b c=>Cf c 49 #[a,b] λ a b=>R a b)->Cf h 28 #[a,b] R:=mS Tryz.func28 cX
theorem xi(Z:aN I h)(L:∀U,aD I h I U->R bf U):Cf h 162 #[gt (aU S)] R:=by refine Uq (rA ?_);exact zaC
theorem uk(Z:aN I h)(L:∀U,aD I h I U->R bt U):Cf h 268 #[gt (aU S),gt (aU S)] R:=by refine U2 (rA ?_);refine xi (show aD I h I _ from aP Z).sat λ y v=>?_;have s:aD I h I y:=aC.trans (aP Z) v;have x:blk y h.size=aE #[aR 4,i0,f0,aU S,n0,n0] 35:=v.blk Bk id;have bb:blk y (h.size+1)=aE #[aR 4,i0,f0,aU S,n0,n0] 35:=v.blk Bk id;(try simp only[bJ]);refine rC x.c bb.c ?_;refine⟨λ J Q=>J=i0/\Q=y,λ _ _=>0,⟨rfl,rfl⟩,λ J Q F=>?_⟩;have A:=F.1;have z:=F.2;subst A;subst z;refine rC x.c bb.c ?_;refine⟨λ J T=>J=i0/\T=Q,λ _ _=>0,⟨rfl,rfl⟩,λ J T F=>?_⟩;have A:=F.1;have z:=F.2;subst A;subst z;refine rC x.c bb.c ?_;exact L _ s
theorem tz(Z:aN I h)(L:∀U,aD I h I U->R bt U):Cf h 246 #[gt (aU S),gt (aU S)] R:=by refine RL (rA ?_);refine hh (show aD I h I _ from aP Z).sat λ y v=>?_;have s:aD I h I y:=aC.trans (aP Z) v;have bb:blk y (h.size+1)=aE #[aR 4,i0,f0,aU S,n0,n0] 35:=v.blk Bk id;(try simp only[bJ]);refine rB bb.c ?_;refine hh v.sat λ N P=>rA ?_;refine uk P.sat λ K r=>rA ?_;exact L _ ((s.trans P).trans r)
theorem vH(Z:aN I h){C:El}(L:∀U,aD I h I U->R bt U):Cf h 211 #[.agg (elC C).toArray,.agg (elC C).toArray] R:=by
 apply Tk;cases C with
  |fld A=>
   refine rA ?_;refine du (G:=.fld A) (show aD I h I _ from aP Z).sat λ y v=>?_;have s:aD I h I y:=aC.trans (aP Z) v;have x:blk y h.size=aE (elC (.fld A)).toArray 153:=v.blk Bk id;have bb:blk y (h.size+1)=aE (elC (.fld A)).toArray 153:=v.blk Bk id;(try simp only[bJ]);refine rB bb.c ?_;refine du (G:=.fld A) v.sat λ N P=>?_;have b:=P.blk x id;have a:=P.blk bb id;try simp(disch:=omega)only[go_sem,↓reduceIte,rk,aA b,aA a]
   refine du (G:=.fld A) P.sat λ K r=>?_;have E:=r.blk b id;have c:=r.blk a id;try simp(disch:=omega)only[go_sem,↓reduceIte,rk,aA E,aA c]
   exact L _ ((s.trans P).trans r)
  |val A=>
   refine rA ?_;refine du (G:=.val A) (show aD I h I _ from aP Z).sat λ y v=>?_;have s:aD I h I y:=aC.trans (aP Z) v;have x:blk y h.size=aE (elC (.val A)).toArray 153:=v.blk Bk id;have bb:blk y (h.size+1)=aE (elC (.val A)).toArray 153:=v.blk Bk id;(try simp only[bJ]);refine rB bb.c ?_;refine du (G:=.val A) v.sat λ N P=>?_;have b:=P.blk x id;have a:=P.blk bb id;try simp(disch:=omega)only[go_sem,↓reduceIte,rk,aA b,aA a]
   refine du (G:=.val A) P.sat λ K r=>?_;have E:=r.blk b id;have c:=r.blk a id;try simp(disch:=omega)only[go_sem,↓reduceIte,rk,aA E,aA c]
   refine tz r.sat λ t q=>rA ?_;exact zbV
theorem zv{O:Heap}{T:Value->Prop}(W:∀j,j<11->aI O u (m+j)=(elC G)[j]?)(Q:T (.agg (elC G).toArray)):Ld O 153 (cY u m) T:=by have:=iL (h:=O) (m:=u) (elC G) m λ j S K=>(W j (by have:=(List.getElem?_eq_some_iff.1 K).1;rw[jz]at this;exact zbX)).trans K;rw[jz]at this;rw[Ff,this];exact Q
theorem sa(Z:aN I h)(p:PathR I a E)(O:PathR I b E)(L:∀U,aD I h I U->R bt U):Cf h 155 #[a,b] R:=by
 obtain⟨B,V,rfl,t,-,D,-,k⟩:=p;obtain⟨i,C,rfl,l,-,r,-,q⟩:=O;apply QJ;have V:decide ((E.length:Int)<(E.length:Int))=false:=zab;refine rB V ?_;refine⟨λ a Q=>∃M:Nat,a=aR M/\M<=E.length/\aD I h I Q,λ a _=>match a with|.int _ M=>E.length-M.toNat|_=>0,⟨0,rfl,zaa,aC.refl Z⟩,λ a Q F=>?_⟩;refine F.elim λ M F=>?_;have A:=F.1;have d:=F.2.1;have j:=F.2.2;subst A;have S5:=j.sat;refine rA ?_;refine⟨λ y=>?_,λ y=>?_⟩
 ·have o:M<E.length:=bS y;refine(k zaa).elim λ u Y=>Y.elim λ s Y=>?_;refine(q zaa).elim λ H e=>e.elim λ r e=>?_;have g:∀D,D<11->aI Q u (s+M*11+D)=(elC E[M])[D]?:=λ D K=>cj (c:=elC) (m:=11) S5 jz Y.2 o K;have c:∀D,D<11->aI Q H (r+M*11+D)=(elC E[M])[D]?:=λ D K=>cj (c:=elC) (m:=11) S5 jz e.2 o K;rw[Y.1,yo,if_pos zaa,Int.toNat_natCast];refine zv g ?_;rw[e.1,yo,if_pos zaa,Int.toNat_natCast];refine zv c ?_;refine vH S5 λ T Q=>rA ?_;exact⟨⟨M+1,rfl,zaa,j.trans Q⟩,zaa⟩
 ·refine rA ?_;exact L _ j
theorem uI(Z:aN I h)(p:PathR I a E)(O:PathR I b E)(L:∀U,aD I h I U->R bt U):Cf h 101 #[a,b] R:=by refine Exists.elim p λ B F=>Exists.elim F λ V F=>?_;refine Exists.elim O λ i Q=>Exists.elim Q λ C Q=>?_;have A:=F.1;have z:=Q.1;subst A;subst z;refine Rm (rA ?_);refine sa Z p O λ y v=>rA ?_;exact L _ v
theorem zB(Z:aN I h){D:List bU}(p:eP I a D)(O:eP I b D)(L:∀U,aD I h I U->R bt U):Cf h 49 #[a,b] R:=by
 obtain⟨g,⟨B,V,rfl,x0,j,S,-,k⟩,t⟩:=p;obtain⟨c,⟨i,C,rfl,l,n,r,-,q⟩,m⟩:=O;apply Wp;try simp(disch:=omega)only[go_sem,↓reduceIte,bne_self_eq_false]
 refine⟨λ a Q=>∃M:Nat,a=aR M/\M<=D.length/\aD I h I Q,λ a _=>match a with|.int _ M=>D.length-M.toNat|_=>0,⟨0,rfl,zaa,aC.refl Z⟩,λ a Q F=>?_⟩;refine F.elim λ M F=>?_;have A:=F.1;have d:=F.2.1;have E:=F.2.2;subst A;have S5:=E.sat;refine rA ?_;refine⟨λ y=>?_,λ y=>?_⟩
 ·have o:M<D.length:=bS y;refine(k zaa).elim λ u Y=>Y.elim λ s Y=>?_;refine(q zaa).elim λ H e=>e.elim λ f e=>?_;have v:=S5.cell (Y.2 M g[M] (List.getElem?_eq_getElem zaa));have w:=S5.cell (e.2 M c[M] (List.getElem?_eq_getElem zaa));refine rE Y.1 e.1 v w ?_;refine uI S5 (t.get M o zaa) (m.get M o zaa) λ T o=>rA ?_;exact⟨⟨M+1,rfl,zaa,E.trans o⟩,zaa⟩
 ·exact zcz
theorem i9.uniq:∀{W A:bn},i9 W->i9 A->(∀X,X∈W↔X∈A)->W=A
 |[],[],_,_,_=>rfl
 |[],q::A,_,_,O=>absurd ((O q).2 zab) zab
 |X::W,[],_,_,O=>absurd ((O X).1 zab) zab
 |X::W,q::A,w,H,O=>by
  obtain⟨N,l⟩:=List.pairwise_cons.1 w;obtain⟨s,F⟩:=List.pairwise_cons.1 H;have i:∀B,¬da B B<0:=λ B=>by rw[cmpS_eq0.2 rfl];exact zaa
  have C:X=q:=by
   rcases List.mem_cons.1 ((O X).1 zab)with C|C
   ·exact C
   ·rcases List.mem_cons.1 ((O q).2 zab)with R|R
    ·exact R.symm
    ·exact absurd (lL (s X C) (N q R)) (i q)
  subst C;have:W=A:=i9.uniq l F λ L=>by
   constructor
   ·intro k;rcases List.mem_cons.1 ((O L).1 (c6 k))with C|C
    ·exact absurd (N L k) (C▸i X)
    ·exact C
   ·intro k;rcases List.mem_cons.1 ((O L).2 (c6 k))with C|C
    ·exact absurd (s L k) (C▸i X)
    ·exact C
  rw[this]
theorem tx(Z:aN I h)(p:eP I a (z.map (lC S)))(O:eP I b (y.map (lC S)))(B:∀X,X∈z↔X∈y)(j:∀A∈z,A.size<=2147483647)(n:S.size<=2147483647)(D:z.length<1000000)(r:y.length<1000000)(L:∀V U,aD I h V U->R bt U):Cf h 28 #[a,b] R:=by
 apply WK;refine sY Z p j n D λ q V y W v e f t=>?_;refine sY v.sat (O.mono v.le) (λ A s=>j A ((B A).2 s)) n r λ w k N l P c d m=>?_;have C:l=W:=d.uniq f λ X=>by rw[m,t,B]
 refine zB P.sat (e.mono P.le) (C▸c) λ K r=>?_;exact L _ _ ((v.trans P).trans r)
def Qd:(Bx h 30 a λ a b=>Al b 95 λ b c=>Bd c 95 #[] λ d=>bH c 95 d λ c d=>Lp (∃e:V0,(∀d,e d->(Lp (∃e:V0,(∀a,e a->(Ld a 95 c λ c=>Sr a 95 b c λ a=>Rv a 95 b λ b=>R b a))/\(Fa d 30 a 3 λ b=>Ld d 9 b λ b=>bx d 9 b s0 (Fa d 30 a 3 λ a=>Ld d 9 a λ a=>bH d 240 a λ a b=>Fa b 95 c 2 λ c=>Sr b 93 c a λ a=>e a) (e d)))))/\(Fa d 30 a 0 λ b=>Ld d 4 b λ b=>Cd b (Fa d 30 a 1 λ a=>Ld d 9 a λ a=>bH d 9 a λ a b=>Fa b 95 c 0 λ c=>Sr b 87 c a λ a=>e a) (Fa d 30 a 2 λ a=>Ld d 28 a λ a=>Cf d 126 #[a] λ a b=>Fa b 95 c 1 λ c=>Sr b 92 c a λ a=>e a))))->Cf h 78 #[a] R:=mS Tryz.func78 (Z (Z (Y [] cg Bn)))
def xz:(Bx h 28 a λ a b=>Al b 92 λ b c=>Bd c 92 #[] λ d=>bH c 92 d λ c d=>Lp (∃e:V0,(∀d,e d->(Lp (∃e:V0,(∀d,e d->(Lp (∃e:V0,(∀a,e a->(Ld a 92 c λ c=>Sr a 92 b c λ a=>Rv a 92 b λ b=>R b a))/\(Fa d 28 a 2 λ b=>Ld d 26 b λ b=>Ln d 26 b λ b=>bv d .gtr 3 b i0 (Fa d 28 a 2 λ a=>Ld d 26 a λ a=>Ia d 26 a i0 λ a=>Ld d 142 a λ a=>Cf d 184 #[a] λ a b=>bH b 359 a λ a b=>Fa b 92 c 2 λ c=>Sr b 90 c a λ a=>e a) (e d)))))/\(Fa d 28 a 1 λ b=>Ld d 25 b λ b=>Ln d 25 b λ b=>bv d .gtr 3 b i0 (Fa d 28 a 1 λ a=>Ld d 25 a λ a=>Ia d 25 a i0 λ a=>Ld d 144 a λ a=>Cf d 183 #[a] λ a b=>bH b 354 a λ a b=>Fa b 92 c 1 λ c=>Sr b 89 c a λ a=>e a) (e d)))))/\(Fa d 28 a 0 λ b=>Ld d 9 b λ b=>bx d 9 b s0 (Fa d 28 a 0 λ a=>Ld d 9 a λ a=>bH d 352 a λ a b=>Fa b 92 c 0 λ c=>Sr b 88 c a λ a=>e a) (e d))))->Cf h 126 #[a] R:=mS Tryz.func126 (Z (Z (Y [] cg (Y [] cg Bn))))
def Us:(Bx h 144 a λ a b=>Al b 354 λ b c=>Fa c 144 a 0 λ d=>Ld c 30 d λ d=>Fa c 144 a 1 λ e=>Ld c 9 e λ f=>Fa c 144 a 2 λ g=>Ld c 32 g λ i=>Cf c 78 #[d] λ c d=>aX d 144 a 1 e 9 f<|aX d 144 a 2 g 32 i<|(Ap d 32 n0 i λ d g=>aX g 144 a 1 e 9 f<|(Bd g 354 #[(0,c),(1,f),(2,d)] λ a=>Sr g 354 b a λ a=>Rv a 354 b λ b=>R b a)))->Cf h 183 #[a] R:=mS Tryz.func183 (Z (Q (X #[0,1,3,0,8,0,32,103,255,511]) L))
def RE:(Bx h 139 a λ a b=>Al b 417 λ b c=>Lp (∃d:V1,(∀c e,d c e->(Lp (∃d:V0,(∀a,d a->(Ld a 417 c λ c=>Sr a 417 b c λ a=>Rv a 417 b λ b=>R b a))/\(Fa e 139 a 2 λ b=>Ld e 33 b λ b=>Ln e 33 b λ b=>bv e .gtr 3 b i0 (Fa e 139 a 2 λ a=>Ld e 33 a λ a=>Ia e 33 a i0 λ a=>Ld e 35 a λ a=>Cf e 79 #[a] λ a b=>Fa b 417 c 2 λ c=>Sr b 20 c a λ a=>d a) (d e)))))/\(Fa c 139 a 0 λ b=>Ld c 9 b λ e=>Fa c 139 a 1 λ f=>Ld c 30 f λ g=>(Cf c 78 #[g] λ c i=>aX i 139 a 0 b 9 e<|(Bd i 417 #[(0,e),(1,c)] λ j=>Al i 417 λ i k=>aX k 139 a 0 b 9 e<|aX k 139 a 1 f 30 g<|Rc P k (Instr.build 417 #[(0,e),(1,c)]) j/\(Sr k 417 i j λ a=>d i a)))/\(Al c 417 λ c i=>aX i 139 a 0 b 9 e<|aX i 139 a 1 f 30 g<|(Cf i 78 #[g] λ f g=>aX g 139 a 0 b 9 e<|(Bd g 417 #[(0,e),(1,f)] λ a=>Sr g 417 c a λ a=>d c a))))))->Cf h 224 #[a] R:=mS Tryz.func224 (Z (Y [3] (X #[0,1,0,4,12,31,0,127]) qU))
def SK:(Bx h 142 a λ a b=>Al b 359 λ b c=>Lp (∃d:V1,(∀c e,d c e->(Fa e 142 a 0 λ a=>Ld e 140 a λ a=>Ln e 140 a λ d=>Lp (∃(f:V1)(g:N1),f i0 e/\∀e i,f e i->(bv i .lss 3 e d (Ia i 140 a e λ a=>Ld i 139 a λ a=>bH i 139 a λ a b=>Fa b 359 c 0 λ d=>Ld b 356 d λ j=>Ld b 139 a λ a=>Cf b 224 #[a] λ a b=>aX b 359 c 0 d 356 j<|(Bs b 356 1 #[(0,a)] λ a b=>aX b 359 c 0 d 356 j<|(Ap b 356 j a λ a b=>Fa b 359 c 0 λ c=>Sr b 356 c a λ a=>Bi a .add 3 e i1 λ b=>(f b a/\g b a<g e i)))) (Ld i 359 c λ a=>Sr i 359 b a λ a=>Rv a 359 b λ b=>R b a)))))/\(Fa c 142 a 1 λ b=>Ld c 30 b λ e=>Fa c 142 a 2 λ f=>Ld c 9 f λ g=>(Cf c 78 #[e] λ c i=>aX i 142 a 2 f 9 g<|(Bd i 359 #[(2,c),(3,g)] λ j=>Al i 359 λ i k=>aX k 142 a 1 b 30 e<|aX k 142 a 2 f 9 g<|Rc P k (Instr.build 359 #[(2,c),(3,g)]) j/\(Sr k 359 i j λ a=>d i a)))/\(Al c 359 λ c i=>aX i 142 a 1 b 30 e<|aX i 142 a 2 f 9 g<|(Cf i 78 #[e] λ b e=>aX e 142 a 2 f 9 g<|(Bd e 359 #[(2,b),(3,g)] λ a=>Sr e 359 c a λ a=>d c a))))))->Cf h 184 #[a] R:=mS Tryz.func184 (Z (Y [3] (X #[0,1,3,0,8,31,0,127]) (Q (Z (B (O [15] Hb))) bG)))
def Wi:(Bx h 24 a λ a b=>Bd b 236 #[] λ c=>Bx b 236 c λ b c=>Fa c 24 a 0 λ a=>Ld c 22 a λ a=>Ln c 22 a λ d=>Lp (∃(e:V1)(f:N1),e i0 c/\∀c g,e c g->(bv g .lss 3 c d (Ia g 22 a c λ a=>Ld g 146 a λ a=>bH g 146 a λ a d=>bg d 236 b 0 λ i=>Ld d 234 i λ j=>Fa d 146 a 0 λ k=>Ld d 9 k λ l=>Fa d 146 a 1 λ m=>Ld d 28 m λ m=>Cf d 126 #[m] λ d m=>aX m 236 b 0 i 234 j<|aX m 146 a 0 k 9 l<|(Bd m 239 #[(0,l),(1,d)] λ a=>Bs m 234 1 #[(0,a)] λ a d=>aX d 236 b 0 i 234 j<|(Ap d 234 j a λ a d=>bC d 236 b 0 234 a λ a=>Bi a .add 3 c i1 λ b=>(e b a/\f b a<f c g)))) (R b g))))->Cf h 77 #[a] R:=mS Tryz.func77 (Z (Z (Q (Z (B (O [11] (Z (Q d8 (Q (B (Z (X #[0,0,2,6,14,0,32,0,128,384,992,2016,4094,8191,16383,32767]))) L)))))) bG)))
abbrev A3:=aK->Value->Value->Value->Prop
abbrev gV(Q:A3):Prop:=∀V o g l,Q V o g l->aG o=true/\aG g=true/\aG l=true
def g5(T:aK)(h:Heap)(y e M:Value)(Q:A3):Prop:=∀v U,aD T h v U->∀R:KV,(∀V N o g l,aD v U V N->Q V o g l->R (.agg #[o,g,l]) N)->Cf U 126 #[.agg #[y,e,M]] R
theorem iI(Z:aN I h){Q:A3}(s:aG a=true/\aG b=true/\aG c=true)(A:gV Q)(e:g5 I h a b c Q)(L:∀V U o g l,aD I h V U->Q V o g l->R (.agg #[nilp,o,g,l,nilp,bf]) U):Cf h 78 #[.agg #[bf,s0,a,b,c,s0]] R:=by
 have Y:=s.1;have X:=s.2.1;have f:=s.2.2;refine Qd (rD Y X f ?_);refine⟨λ p=>∃V o g l,aD I h V p/\Q V o g l/\V (h.size+1)=none/\blk p h.size=aE #[bf,s0,a,b,c,s0] 30/\blk p (h.size+1)=aE #[nilp,nilp,nilp,nilp,nilp,bf] 95/\blk p (h.size+2)=aE #[nilp,o,g,l,nilp,bf] 95,λ p F=>?_,?_⟩
 ·refine F.elim λ V F=>F.elim λ o F=>F.elim λ g F=>F.elim λ l F=>?_;have E:=F.1;have P:=F.2.1;have u:=F.2.2.1;have b0:=F.2.2.2.1;have x:=F.2.2.2.2.1;have H:=F.2.2.2.2.2;have S:=(A _ _ _ _ P).1;have y:=(A _ _ _ _ P).2.1;have D:=(A _ _ _ _ P).2.2;refine⟨λ T=>T=p,λ T C=>?_,?_⟩
  ·subst C;refine rG b0.c x.b H.c S y D ?_;refine L V _ o g l ?_ P;exact zau
  ·exact zax
 ·refine rA ?_;have B:aD I h I (aO (aO (aO (aO (aO (aO (((h.push (aV #[bf,s0,a,b,c,s0] 30)).push (aV #[nilp,nilp,nilp,nilp,nilp,bf] 95)).push (aV #[nilp,nilp,nilp,nilp,nilp,bf] 95)) (h.size+1+1) 0 nilp) (h.size+1+1) 1 nilp) (h.size+1+1) 2 nilp) (h.size+1+1) 3 nilp) (h.size+1+1) 4 nilp) (h.size+1+1) 5 bf):=aP Z;refine e _ _ B _ λ V z o g l G P=>?_;have S:=(A _ _ _ _ P).1;have y:=(A _ _ _ _ P).2.1;have D:=(A _ _ _ _ P).2.2;have b0:blk z h.size=aE #[bf,s0,a,b,c,s0] 30:=G.blk Bk id;have x:blk z (h.size+1)=aE #[nilp,nilp,nilp,nilp,nilp,bf] 95:=G.blk Bk id;have H:blk z (h.size+1+1)=aE #[nilp,nilp,nilp,nilp,nilp,bf] 95:=G.blk Bk id;have u:∀r,h.size<=r->r<h.size+3->V r=none:=λ r z N=>(G.dom r (by(try simp only[bJ]);exact zaa) id).trans (Z.fresh z);refine rE H.b S y D ?_;refine⟨V,o,g,l,?_,P,u _ zaa zaa,bz b0,bz x,bz H⟩;have o:=B.trans G;have K:=u (h.size+1+1) zaa zaa;repeat'(first|with_reducible exact o|with_reducible refine aC.put ?_ (Or.inl ?_) ?_|exact K|omega)
theorem Af(Z:aN I h)(L:∀t V U,aD I h V U->cU V S ⟨t,0,none⟩->R (.agg (dc t).toArray) U):Cf h 78 #[.agg #[bt,aU S,s0,n0,n0,s0]] R:=by
 refine Qd (rA ?_);refine⟨λ Q=>aD I h I Q/\blk Q h.size=aE #[bt,aU S,s0,n0,n0,s0] 30/\blk Q (h.size+1)=aE #[nilp,nilp,nilp,nilp,nilp,bf] 95/\blk Q (h.size+2)=aE #[aB (h.size+3),nilp,nilp,nilp,nilp,bf] 95/\blk Q (h.size+3)=aE #[aU S] 9,λ Q F=>?_,?_⟩
 ·have E:=F.1;have b0:=F.2.1;have x:=F.2.2.1;have H:=F.2.2.2.1;have J:=F.2.2.2.2;refine⟨λ T=>T=Q,λ T C=>?_,?_⟩
  ·subst C;refine rD b0.c x.b H.c ?_;have u:∀r,h.size<=r->I r=none:=λ r Y=>Z.fresh Y;have k:=u (h.size+1) zaa;have O:aD I h I (aO (aO (aO (aO (aO (aO T (h.size+1) 0 (aB (h.size+3))) (h.size+1) 1 nilp) (h.size+1) 2 nilp) (h.size+1) 3 nilp) (h.size+1) 4 nilp) (h.size+1) 5 bf):=zaX;have c:=lA O [h.size+3] zab;exact L _ _ _ c.1 ⟨_,9,rfl,c.2.1 _ _ zab (bz J)⟩
  ·exact zax
 ·refine rA ?_;refine⟨aP Z,Bk,Bk,Bk,Bk⟩
theorem oZ(Z:aN I h)(s:(S.toList==(⟨#[]⟩:bF).toList)=false):g5 I h (aU S) n0 n0 λ V o g l=>∃a,cU V S a/\o=.pointer (some a)/\g=nilp/\l=nilp:=by
 intro v U p z L;have W:=p.sat;refine xz (rA ?_);refine⟨λ Q=>aD v U v Q/\blk Q U.size=aE #[aU S,n0,n0] 28/\blk Q (U.size+1)=aE #[nilp,nilp,nilp] 92/\blk Q (U.size+2)=aE #[aB (U.size+3),nilp,nilp] 92/\blk Q (U.size+3)=aE #[aU S] 352,λ Q F=>?_,?_⟩
 ·have E:=F.1;have b0:=F.2.1;have x:=F.2.2.1;have H:=F.2.2.2.1;have J:=F.2.2.2.2;refine⟨λ T=>T=Q,λ T C=>?_,?_⟩
  ·subst C;refine⟨λ B=>B=T,λ B C=>?_,?_⟩
   ·subst C;refine rD b0.c x.b H.c ?_;have k:v (U.size+1)=none:=W.fresh zaa;have O:aD v U v (aO (aO (aO B (U.size+1) 0 (aB (U.size+3))) (U.size+1) 1 nilp) (U.size+1) 2 nilp):=zaX;have c:=lA O [U.size+3] zab;exact L _ _ _ _ _ c.1 ⟨_,⟨_,352,rfl,c.2.1 _ _ zab (bz J)⟩,rfl,rfl,rfl⟩
   ·exact zax
  ·exact zax
 ·refine rB s ?_;refine⟨aP W,Bk,Bk,Bk,Bk⟩
abbrev PP:=aK->Value->Value->Value->Value->Prop
def P8(T:aK)(h:Heap)(a:bW)(r:Value)(Q:PP):Prop:=∀v U,aD T h v U->∀R:KV,(∀V N o g l q,aD v U V N->Q V o g l q->R (.agg #[nilp,o,g,l,nilp,bf,r,q]) N)->Cf U 183 #[.agg a.toArray] R
theorem pC(Z:aN I h){Q:PP}(s:cd I a 8 1 [c,d,e,f,g,i,j,k])(W:aG b=true)(A:∀V o p1 l q,Q V o p1 l q->(aG o=true/\aG p1=true)/\aG l=true/\aG q=true)(hm:∀V E o p1 l q,V.le E->Q V o p1 l q->Q E o p1 l q)(J:P8 I h [c,d,e,f,g,i,j,k] b Q):g5 I h s0 a n0 λ V x S y=>∃M o p1 l q,Q V o p1 l q/\V M=aE #[nilp,o,p1,l,nilp,bf,b,q] 354/\x=nilp/\S=aB M/\y=nilp:=by
 intro v U p z L;have S2:=p.sat;have n:=s.one;obtain⟨B,O,rfl,t,-,D,-,R⟩:=s;refine(R zaa).elim λ u Y=>Y.elim λ s Y=>?_;have G:=Y.1;have X:=Y.2;refine xz (rB n ?_);refine⟨λ h=>aD v U v h/\blk h U.size=aE #[s0,.slice B 1 O,n0] 28/\blk h (U.size+1)=aE #[nilp,nilp,nilp] 92/\blk h (U.size+2)=aE #[nilp,nilp,nilp] 92,λ h F=>?_,?_⟩
 ·have E:=F.1;have b0:=F.2.1;have x:=F.2.2.1;have H:=F.2.2.2;refine⟨λ T=>∃V M o p1 l q,aD v U V T/\Q V o p1 l q/\V (U.size+1)=none/\V M=aE #[nilp,o,p1,l,nilp,bf,b,q] 354/\blk T U.size=aE #[s0,.slice B 1 O,n0] 28/\blk T (U.size+1)=aE #[nilp,nilp,nilp] 92/\blk T (U.size+2)=aE #[nilp,aB M,nilp] 92,λ T F=>?_,?_⟩
  ·refine F.elim λ V F=>F.elim λ M F=>F.elim λ o F=>F.elim λ p1 F=>F.elim λ l F=>F.elim λ q F=>?_;have E:=F.1;have P:=F.2.1;have n:=F.2.2.1;have Y:=F.2.2.2.1;have b0:=F.2.2.2.2.1;have x:=F.2.2.2.2.2.1;have H:=F.2.2.2.2.2.2;refine⟨λ F=>F=T,λ F C=>?_,?_⟩
   ·subst C;refine rD b0.c x.b H.c ?_;refine L V _ _ _ _ ?_ ⟨M,o,p1,l,q,P,Y,rfl,rfl,rfl⟩;repeat'(first|with_reducible exact E|with_reducible refine aC.put ?_ (Or.inl ?_) ?_|exact n|omega)
   ·exact zax
  ·have Z:aN I h:=λ r m I=>E.sat r m (E.le r m (p.le r m I));have t:∀D(K:D<8),aI h u (s+D)=some ([c,d,e,f,g,i,j,k][D]'K):=λ D K=>Z.cell (X D _ (List.getElem?_eq_getElem K));have L:aI h u s=some c:=t 0 zaa;have w:aI h u (s+1)=some d:=t 1 zaa;have F:aI h u (s+2)=some e:=t 2 zaa;have m:aI h u (s+3)=some f:=t 3 zaa;have X:aI h u (s+4)=some g:=t 4 zaa;have d:aI h u (s+5)=some i:=t 5 zaa;have R:aI h u (s+6)=some j:=t 6 zaa;have i:aI h u (s+7)=some k:=t 7 zaa;try simp(disch:=omega)only[go_sem,↓reduceIte,aA b0,G,un,Nat.add_zero,L,w,F,m,X,d,R,i]
   refine J _ _ (p.trans E) _ λ V z o p1 l q G P=>?_;have S:=(A _ _ _ _ _ P).1.1;have y:=(A _ _ _ _ _ P).1.2;have D:=(A _ _ _ _ _ P).2.1;have Y:=(A _ _ _ _ _ P).2.2;have a:=aF H;have t:=G.blk b0 id;have f:=G.blk x id;have X:=G.blk H id;have c:=G.size;have n:∀r,U.size<=r->r<U.size+3->V r=none:=λ r h N=>(G.dom r zaa id).trans (S2.fresh h);refine rG X.b S y D Y W ?_;have i:=E.trans G;have K:=n (U.size+2) zaa zaa;have j:V z.size=none:=G.sat.fresh bu;have N:=G.sat;refine(λ W T J=>?_:∀W,aD V z V W->blk W z.size=aE #[nilp,o,p1,l,nilp,bf,b,q] 354->∃V M o p1 l q,aD v U V (aO W (U.size+1+1) 1 (aB z.size))/\Q V o p1 l q/\V (U.size+1)=none/\V M=aE #[nilp,o,p1,l,nilp,bf,b,q] 354/\blk (aO W (U.size+1+1) 1 (aB z.size)) U.size=aE #[s0,.slice B 1 O,n0] 28/\blk (aO W (U.size+1+1) 1 (aB z.size)) (U.size+1)=aE #[nilp,nilp,nilp] 92/\blk (aO W (U.size+1+1) 1 (aB z.size)) (U.size+2)=aE #[nilp,aB M,nilp] 92) _ ?_ ?_
   ·have t:=T.blk t id;have f:=T.blk f id;have X:=T.blk X id;have O:aD v U V (aO W (U.size+1+1) 1 (aB z.size)):=(i.trans T).put (.inl zaa) K;exact⟨V.fp [z.size] _,z.size,o,p1,l,q,O.freeze _ (λ r Y=>.inl (by have:=of_decide_eq_true Y;simp at this;exact zaa)),hm _ _ _ _ _ _ (aK.add_le O.sat _) P,(aK.fp_ne (by simp;exact zaa)).trans (n _ zaa zaa),aK.fp_eq zab (bz J),bz t,bz f,bz X⟩
   ·exact aP N
   ·exact Bk
 ·refine rA ?_;refine⟨aP S2,Bk,Bk,Bk⟩
abbrev kT(f:Value):bW:=[f,n0,nilp,nilp,nilp,nilp,nilp,bf,s0]
def Qh(T:aK)(h:Heap)(a:bW)(Q:aK->Value->Prop):Prop:=∀v U,aD T h v U->∀R:KV,(∀V N f,aD v U V N->Q V f->R (.agg (kT f).toArray) N)->Cf U 184 #[.agg a.toArray] R
theorem yh(Z:aN I h){Q:aK->Value->Prop}(H:cd I a 8 1 [b,c,d,e,g,i,j,k])(A:∀V f,Q V f->aG f=true)(hm:∀V E f,V.le E->Q V f->Q E f)(l:Qh I h [b,c,d,e,g,i,j,k] Q):g5 I h s0 n0 a λ V x S y=>∃M f,Q V f/\V M=aE (kT f).toArray 359/\x=nilp/\S=nilp/\y=aB M:=by
 intro v U p z L;have S2:=p.sat;have n:=H.one;obtain⟨B,a,rfl,t,-,D,-,P⟩:=H;refine(P zaa).elim λ u Y=>Y.elim λ s Y=>?_;have G:=Y.1;have O:=Y.2;refine xz (rB n ?_);refine⟨λ R=>aD v U v R/\blk R U.size=aE #[s0,n0,.slice B 1 a] 28/\blk R (U.size+1)=aE #[nilp,nilp,nilp] 92/\blk R (U.size+2)=aE #[nilp,nilp,nilp] 92,λ R F=>?_,?_⟩
 ·have E:=F.1;have b0:=F.2.1;have x:=F.2.2.1;have H:=F.2.2.2;refine⟨λ T=>T=R,λ T C=>?_,?_⟩
  ·subst C;refine⟨λ B=>∃V M f,aD v U V B/\Q V f/\V (U.size+1)=none/\V M=aE (kT f).toArray 359/\blk B (U.size+1)=aE #[nilp,nilp,nilp] 92/\blk B (U.size+2)=aE #[nilp,nilp,aB M] 92,λ B F=>?_,?_⟩
   ·refine F.elim λ V F=>F.elim λ M F=>F.elim λ f F=>?_;have E:=F.1;have P:=F.2.1;have h:=F.2.2.1;have w:=F.2.2.2.1;have x:=F.2.2.2.2.1;have H:=F.2.2.2.2.2;refine rC x.b H.c ?_;refine L V _ _ _ _ ?_ ⟨M,f,P,w,rfl,rfl,rfl⟩;repeat'(first|with_reducible exact E|with_reducible refine aC.put ?_ (Or.inl ?_) ?_|exact h|omega)
   ·have Z:aN I T:=λ r q a=>E.sat r q (E.le r q (p.le r q a));have t:∀D(K:D<8),aI T u (s+D)=some ([b,c,d,e,g,i,j,k][D]'K):=λ D K=>Z.cell (O D _ (List.getElem?_eq_getElem K));have q:aI T u s=some b:=t 0 zaa;have w:aI T u (s+1)=some c:=t 1 zaa;have F:aI T u (s+2)=some d:=t 2 zaa;have m:aI T u (s+3)=some e:=t 3 zaa;have X:aI T u (s+4)=some g:=t 4 zaa;have d:aI T u (s+5)=some i:=t 5 zaa;have R:aI T u (s+6)=some j:=t 6 zaa;have i:aI T u (s+7)=some k:=t 7 zaa;try simp(disch:=omega)only[go_sem,↓reduceIte,aA b0,G,un,Nat.add_zero,q,w,F,m,X,d,R,i]
    refine l _ _ (p.trans E) _ λ V z f G P=>?_;have S:=A _ _ P;have a:=aF H;have t:=G.blk b0 id;have e:=G.blk x id;have X:=G.blk H id;have c:=G.size;have h:∀r,U.size<=r->r<U.size+3->V r=none:=λ r y N=>(G.dom r zaa id).trans (S2.fresh y);refine rC X.b S ?_;have o:=E.trans G;have K:=h (U.size+2) zaa zaa;have N:=G.sat;refine(λ W T J=>?_:∀W,aD V z V W->blk W z.size=aE (kT f).toArray 359->∃V M f,aD v U V (aO W (U.size+1+1) 2 (aB z.size))/\Q V f/\V (U.size+1)=none/\V M=aE (kT f).toArray 359/\blk (aO W (U.size+1+1) 2 (aB z.size)) (U.size+1)=aE #[nilp,nilp,nilp] 92/\blk (aO W (U.size+1+1) 2 (aB z.size)) (U.size+2)=aE #[nilp,nilp,aB M] 92) _ ?_ ?_
    ·have e:=T.blk e id;have X:=T.blk X id;have O:aD v U V (aO W (U.size+1+1) 2 (aB z.size)):=(o.trans T).put (.inl zaa) K;exact⟨V.fp [z.size] _,z.size,f,O.freeze _ (λ r Y=>.inl (by have:=of_decide_eq_true Y;simp at this;exact zaa)),hm _ _ _ (aK.add_le O.sat _) P,(aK.fp_ne (by simp;exact zaa)).trans (h _ zaa zaa),aK.fp_eq zab (bz J),bz e,bz X⟩
    ·exact aP N
    ·exact Bk
  ·exact zax
 ·refine rA ?_;refine⟨aP S2,Bk,Bk,Bk⟩
def Hf(T:aK)(h:Heap)(q:Value)(i:aK->Value->Prop):Prop:=∀V U,aD T h V U->∀T:KV,(∀n k N,aD V U k N->i k n->T n N)->Ap U 32 n0 q T
theorem Cj:Hf I h n0 λ _ J=>J=n0:=by intro V U E T Q;rw[cI fD,if_pos bu];exact Q _ V _ (aC.refl E.sat) rfl
theorem FR{T:aK}(Y:T m=aE #[aU S] 9):Hf T h (bq m 0 1 1) λ V J=>Strs V J [S]:=by
 intro V U E T Q;have Z:=E.sat;have j:blk U m=aE #[aU S] 9:=Z _ _ (E.le _ _ Y);refine bY fD rfl zaa zaa (v:=0) (c:=[]) (u:=U.size) (T:=V) j (aQ.nil ..) Z rfl zac zaa bu λ X N W G r K=>?_;have C:aD V U V N:=aC.touch (aC.refl Z) G λ P z=>by cases z
 have c:=W.frz C bu zaa zac;exact Q _ _ _ c.1 c.2.2
theorem lV(Z:aN I h){Q:A3}{i:aK->Value->Prop}(s:aG a=true/\aG b=true/\aG c=true)(w:aG d=true)(A:gV Q)(B:∀V E o g l,V.le E->Q V o g l->Q E o g l)(j:∀V J,i V J->aG J=true)(e:g5 I h a b c Q)(H:Hf I h d i):P8 I h [bf,s0,a,b,c,s0,aU S,d] (aU S) λ V o g l n=>Q V o g l/\i V n:=by intro v U p z L;have W:=p.sat;have Y:=s.1;have X:=s.2.1;have f:=s.2.2;refine Us (rE Y X f w ?_);have C:aD v U v ((U.push (aV #[bf,s0,a,b,c,s0,aU S,d] 144)).push (aV #[nilp,nilp,nilp,nilp,nilp,bf,s0,n0] 354)):=aP W;refine iI C.sat s A (λ z N G=>e z N ((p.trans C).trans G)) λ V K o g l r P=>?_;have N:=(A _ _ _ _ P).1;have y:=(A _ _ _ _ P).2.1;have D:=(A _ _ _ _ P).2.2;have b0:blk K U.size=aE #[bf,s0,a,b,c,s0,aU S,d] 144:=r.blk Bk id;have x:blk K (U.size+1)=aE #[nilp,nilp,nilp,nilp,nilp,bf,s0,n0] 354:=r.blk Bk id;have u:V (U.size+1)=none:=(r.dom _ (by(try simp only[bJ]);exact zaa) id).trans (W.fresh zaa);have b:=aF x;refine rE b0.c N y D ?_;refine H _ _ ((p.trans C).trans r) _ λ n k t q Y=>?_;have t:=q.blk b0 id;have V:=q.blk x id;have m:=j _ _ Y;have G:k (U.size+1)=none:=(q.dom _ b id).trans u;refine rG t.c V.b N y D m ?_;refine L k _ o g l n ?_ ⟨B _ _ _ _ _ q.le P,Y⟩;have B:=(C.trans r).trans q;repeat'(first|with_reducible exact B|with_reducible refine aC.put ?_ (Or.inl ?_) ?_|exact G|omega)
def Qf(T:aK)(h:Heap)(n:bW)(p:Value)(Q:A3):Prop:=∀v U,aD T h v U->∀R:KV,(∀V N o g l,aD v U V N->Q V o g l->R (.agg #[p,nilp,o,g,l,nilp,bf,ni]) N)->Cf U 224 #[.agg n.toArray] R
theorem oN(Z:aN I h){Q:A3}(s:aG a=true/\aG b=true/\aG c=true)(w:aG d=true)(A:gV Q)(e:g5 I h a b c Q):Qf I h [d,bf,s0,a,b,c,s0,n0] d Q:=by
 intro v U p z L;have I:=p.sat;have Y:=s.1;have X:=s.2.1;have f:=s.2.2;refine RE (rE Y X f w ?_);refine⟨λ i K=>∃V O o g l,i=aB O/\aD v U V K/\Q V o g l/\V (U.size+1)=none/\blk K U.size=aE #[d,bf,s0,a,b,c,s0,n0] 139/\blk K (U.size+1)=aE #[s0,nilp,nilp,nilp,nilp,nilp,bf,ni] 417/\blk K O=aE #[d,nilp,o,g,l,nilp,bf,ni] 417/\U.size+1<O,λ i K F=>?_,?_⟩
 ·refine F.elim λ V F=>F.elim λ O F=>F.elim λ o F=>F.elim λ g F=>F.elim λ l F=>?_;have C:=F.1;have E:=F.2.1;have P:=F.2.2.1;have u:=F.2.2.2.1;have b0:=F.2.2.2.2.1;have x:=F.2.2.2.2.2.1;have H:=F.2.2.2.2.2.2.1;have T:=F.2.2.2.2.2.2.2;subst C;have S:=(A _ _ _ _ P).1;have y:=(A _ _ _ _ P).2.1;have D:=(A _ _ _ _ P).2.2;refine⟨λ Z=>Z=K,λ Z C=>?_,?_⟩
  ·subst C;refine rG x.b H.c w S y D ?_;refine L V _ o g l ?_ P;exact zau
  ·exact zax
 ·refine rE Y X f w ?_;have C:aD v U v ((U.push (aV #[d,bf,s0,a,b,c,s0,n0] 139)).push (aV #[s0,nilp,nilp,nilp,nilp,nilp,bf,ni] 417)):=aP I;refine⟨?_,?_⟩
  ·refine iI C.sat s A (λ z N G=>e z N ((p.trans C).trans G)) λ V K o g l r P=>?_;have S:=(A _ _ _ _ P).1;have y:=(A _ _ _ _ P).2.1;have D:=(A _ _ _ _ P).2.2;have b0:blk K U.size=aE #[d,bf,s0,a,b,c,s0,n0] 139:=r.blk Bk id;have x:blk K (U.size+1)=aE #[s0,nilp,nilp,nilp,nilp,nilp,bf,ni] 417:=r.blk Bk id;have u:V (U.size+1)=none:=(r.dom _ (by(try simp only[bJ]);exact zaa) id).trans (I.fresh zaa);have E:=aF x;have i:=r.sat;refine rI b0.c S y D w Y X f ?_;refine(λ W T J=>?_:∀W,aD V K V W->blk W K.size=aE #[d,nilp,o,g,l,nilp,bf,ni] 417->∃V O o g l,aB K.size=aB O/\aD v U V W/\Q V o g l/\V (U.size+1)=none/\blk W U.size=aE #[d,bf,s0,a,b,c,s0,n0] 139/\blk W (U.size+1)=aE #[s0,nilp,nilp,nilp,nilp,nilp,bf,ni] 417/\blk W O=aE #[d,nilp,o,g,l,nilp,bf,ni] 417/\U.size+1<O) _ ?_ ?_
   ·exact⟨V,K.size,o,g,l,rfl,(C.trans r).trans T,P,u,T.blk b0 id,T.blk x id,J,zaa⟩
   ·exact aP i
   ·exact Bk
  ·have n:=C.push (aV #[s0,nilp,nilp,nilp,nilp,nilp,bf,ni] 417);refine iI n.sat s A (λ z N G=>e z N ((p.trans n).trans G)) λ V K o g l r P=>?_;have S:=(A _ _ _ _ P).1;have y:=(A _ _ _ _ P).2.1;have D:=(A _ _ _ _ P).2.2;have b0:blk K U.size=aE #[d,bf,s0,a,b,c,s0,n0] 139:=r.blk Bk id;have x:blk K (U.size+1)=aE #[s0,nilp,nilp,nilp,nilp,nilp,bf,ni] 417:=r.blk Bk id;have H:blk K (U.size+1+1)=aE #[s0,nilp,nilp,nilp,nilp,nilp,bf,ni] 417:=r.blk Bk id;have u:V (U.size+1)=none:=(r.dom _ (by(try simp only[bJ]);exact zaa) id).trans (I.fresh zaa);have G:V (U.size+1+1)=none:=(r.dom _ (by(try simp only[bJ]);exact zaa) id).trans (I.fresh zaa);have i:=r.sat;(try simp only[bJ]);try simp(disch:=omega)only[go_sem,↓reduceIte,aA b0,aA H,aS H,S,y,D,w,Y,X,f]
   refine(λ W T J=>?_:∀W,aC (Eq (U.size+1+1)) V K V W->blk W (U.size+1+1)=aE #[d,nilp,o,g,l,nilp,bf,ni] 417->∃V O o g l,aB (U.size+1+1)=aB O/\aD v U V W/\Q V o g l/\V (U.size+1)=none/\blk W U.size=aE #[d,bf,s0,a,b,c,s0,n0] 139/\blk W (U.size+1)=aE #[s0,nilp,nilp,nilp,nilp,nilp,bf,ni] 417/\blk W O=aE #[d,nilp,o,g,l,nilp,bf,ni] 417/\U.size+1<O) _ ?_ ?_
   ·exact⟨V,U.size+1+1,o,g,l,rfl,(n.trans r).trans' T (λ r y N=>zaa),P,u,T.blk b0 zaa,T.blk x zaa,J,zaa⟩
   ·exact zb9
   ·exact bz H
theorem pV(Z:aN I h):g5 I h s0 n0 n0 λ _ o g l=>o=nilp/\g=nilp/\l=nilp:=by
 intro v U p z L;have W:=p.sat;refine xz (rA ?_);refine⟨λ Q=>aD v U v Q/\blk Q U.size=aE #[s0,n0,n0] 28/\blk Q (U.size+1)=aE #[nilp,nilp,nilp] 92/\blk Q (U.size+2)=aE #[nilp,nilp,nilp] 92,λ Q F=>?_,?_⟩
 ·have E:=F.1;have b0:=F.2.1;have x:=F.2.2.1;have H:=F.2.2.2;refine⟨λ T=>T=Q,λ T C=>?_,?_⟩
  ·subst C;refine⟨λ B=>B=T,λ B C=>?_,?_⟩
   ·subst C;refine rD b0.c x.b H.c ?_;have k:v (U.size+1)=none:=W.fresh zaa;refine L v _ _ _ _ ?_ ⟨rfl,rfl,rfl⟩;exact zaX
   ·exact zax
  ·exact zax
 ·refine rA ?_;refine⟨aP W,Bk,Bk,Bk⟩
abbrev P3:=Value×Value×Value
abbrev ia(v:Value)(X:P3):bW:=[v,bf,s0,X.1,X.2.1,X.2.2,s0,n0]
abbrev p9(v:Value)(w:P3):bW:=[v,nilp,w.1,w.2.1,w.2.2,nilp,bf,ni]
abbrev M9(v:Nat->Value)(X:Nat->P3)(N:Nat):bW:=(List.range N).flatMap λ j=>ia (v j) (X j)
abbrev hT(v:Nat->Value)(w:Nat->P3)(N:Nat):bW:=(List.range N).flatMap λ j=>p9 (v j) (w j)
theorem w9(v:Nat->Value)(w:Nat->P3)(M:Nat)(p:P3):hT v (hU w M p) (M+1)=hT v w M++p9 (v M) p:=by
 rw[hT,List.range_succ,List.flatMap_append];have:∀r,r<=M->hT v (hU w M p) r=hT v w r:=by intro r;induction r with|zero=>intro _;rfl|succ r ih=>intro Y;have ih:=ih zaa;unfold hT at ih⊢;rw[List.range_succ,List.flatMap_append,List.flatMap_append,ih];simp only[List.flatMap_cons,List.flatMap_nil,fv (show r≠M from zaa)]
 have C:=this M bu;unfold hT at C;rw[C];simp only[List.flatMap_cons,List.flatMap_nil,eS,List.append_nil]
structure MI(I:aK)(h:Heap)(fs:Value)(n:Nat->Value)(Q:Nat->A3)(ob i:Nat)(h4:Heap)(J:aK)(x:Value)(p:Nat->P3):Prop where
 st:aD I h J h4
 jn:J (h.size+1)=none
 jo:J ob=none
 b0:blk h4 h.size=aE #[fs,bf,s0,s0,n0,n0,s0,s0] 142
 b1:blk h4 (h.size+1)=aE (kT n0).toArray 359
 b2:blk h4 ob=aE (kT x).toArray 359
 ox:aQ (ob+1) J h4 417 8 x i (hT n p i)
 lo:h.size+1<ob
 qs:∀j,j<i->Q j J (p j).1 (p j).2.1 (p j).2.2
theorem DU{T:aK}(Z:aN T h){v:Nat->Value}{X:Nat->P3}{Q:Nat->A3}(d:cd T a 8 m (M9 v X m))(J:m<=100)(on:∀j,aG (v j)=true)(ox:∀j,aG (X j).1=true/\aG (X j).2.1=true/\aG (X j).2.2=true)(A:∀j,gV (Q j))(hm:∀j V E o g l,V.le E->Q j V o g l->Q j E o g l)(y:∀j,j<m->Qf T h (ia (v j) (X j)) (v j) (Q j)):Qh T h [a,bf,s0,s0,n0,n0,s0,s0] λ V f=>∃w,cd V f 8 m (hT v w m)/\∀j,j<m->Q j V (w j).1 (w j).2.1 (w j).2.2:=by
 intro I' U p a0 L;have S2:=p.sat;have s:=d.one;obtain⟨B,a1,rfl,t,-,D,-,k⟩:=d;refine SK (rA ?_);refine⟨λ d K=>∃V O w,d=aB O/\MI I' U (.slice B m a1) v Q O 0 K V n0 w,λ d K F=>?_,?_⟩
 ·refine F.elim λ V F=>F.elim λ O F=>F.elim λ w F=>?_;have C:=F.1;have c:=F.2;subst C;refine rB c.b0.c ?_;refine⟨λ J t=>∃M V X w,J=aR (M:Nat)/\M<=m/\MI I' U (.slice B m a1) v Q O M t V X w,λ J _=>match J with|.int _ M=>m-M.toNat|_=>0,⟨0,V,n0,w,rfl,zaa,c⟩,λ J t F=>?_⟩;refine F.elim λ M F=>F.elim λ V F=>F.elim λ q F=>F.elim λ w F=>?_;have C:=F.1;have d:=F.2.1;have x:=F.2.2;subst C;have W:=x.ox.one;refine rA ?_;refine⟨λ h1=>?_,λ h1=>?_⟩
  ·have E:M<m:=bS h1;refine(k zaa).elim λ u Y=>Y.elim λ S Y=>?_;have Z:aN T t:=λ a2 q R=>x.st.sat a2 q (x.st.le a2 q (p.le a2 q R));have e:M<(List.range m).length:=by rw[List.length_range];exact E
   have r:∀j,j<8->aI t u (S+M*8+j)=(ia (v M) (X M))[j]?:=λ j C=>by have:=cj (c:=λ j=>ia (v j) (X j)) (m:=8) Z (λ _=>rfl) Y.2 e C;rwa[List.getElem_range]at this
   have Z:aI t u (S+M*8)=some (v M):=r 0 zaa;have N:=r 1 zaa;have T:=r 2 zaa;have k:=r 3 zaa;have X:=r 4 zaa;have d:=r 5 zaa;have R:=r 6 zaa;have i:=r 7 zaa;have c:=on M;have u:=(ox M).1;have D:=(ox M).2.1;have e:=(ox M).2.2;have J:=aF x.b2;have b:=x.st.sat;try simp(disch:=omega)only[go_sem,↓reduceIte,Y.1,Z,N,T,k,X,d,R,i,c,u,D,e,aA x.b2]
   refine y M E _ _ (p.trans (x.st.trans (show aD V t V _ from aP b))) _ λ k i o g l a P=>?_;have e:aD V t k i:=aC.trans (aP b) a;have S:=(A _ _ _ _ _ P).1;have y:=(A _ _ _ _ _ P).2.1;have D:=(A _ _ _ _ _ P).2.2;have t:=e.blk x.b0 id;have a:=e.blk x.b1 id;have X:=e.blk x.b2 id;have R:=x.ox.step e (λ _ _=>id);have E:=e.size;have z:=e.sat;have u:=x.lo;have G:k (U.size+1)=none:=(e.dom _ zaa id).trans x.jn;have T:k O=none:=(e.dom _ J id).trans x.jo;refine rF X.c S y D c ?_;refine bY z9 rfl zaa zaa (v:=M) (c:=hT v w M) (u:=O+1) (T:=k) (H:=(p9 (v M) (o,g,l)).toArray) Bk (R.push _) (show aD k i k _ from aP z).sat rfl (by simp[dy,cS,di,bZ,cn,cT,cB,dC,dB,cZ,dp,S,y,D,c]) zaa (by(try simp only[bJ]);exact zaa) λ b E N H Z Y=>?_;have r:aD I' U k E:=aC.touch ((x.st.trans e).push _) H λ d z=>⟨.inl (cW (R.1.block z).1),R.2 d z⟩;have E:∀a2,a2<=O->q.ownBlock≠some a2:=λ a2 Y F=>cW (R.1.block F).1;have p:=H.ofPush.blk t (E _ zaa);have i:=H.ofPush.blk a (E _ zaa);have z:=H.ofPush.blk X (E _ zaa);have h:=N.one;refine rC z.b h ?_;refine⟨⟨M+1,k,b,hU w M (o,g,l),rfl,zaa,r.put (.inl zaa) T,G,T,bz p,bz i,bz z,?_,x.lo,λ j C=>?_⟩,zaa⟩
   ·rw[w9];exact N.put zaa
   ·by_cases a:j=M
    ·subst a;rw[eS];exact P
    ·rw[fv a];exact hm _ _ _ _ _ _ e.le (x.qs j zaa)
  ·have k:M=m:=by have:¬M<m:=bS h1;exact zaa
   subst k;have J:=aF x.b2;have u:=x.lo;have u:=x.jn;refine rD x.b2.c x.b1.b W ?_;have E:=x.st;refine(λ W T b=>?_:∀W,aD I' U V W->aQ (O+1) V W 417 8 q M (hT v w M)->a0 (.agg (kT q).toArray) W) _ ?_ ?_
   ·have f:=b.frz T zaa zaa λ h J=>?_
    ·exact L _ _ _ f.1 ⟨w,f.2.2,λ j C=>hm _ _ _ _ _ _ f.2.1 (x.qs j C)⟩
    ·obtain⟨j,C,J⟩:=List.mem_flatMap.1 J;have p:=A _ _ _ _ _ (x.qs j (List.mem_range.1 C));simp only[List.mem_cons,List.not_mem_nil,or_false]at J;rcases J with rfl|rfl|rfl|rfl|rfl|rfl|rfl|rfl<;>first|rfl|exact on j|exact p.1|exact p.2.1|exact p.2.2
   ·exact zau
   ·have ox:=x.ox;repeat'(first|with_reducible exact ox|refine aQ.put ?_ zaa)
 ·refine rB s ?_;have one3:aG s0=true/\aG n0=true/\aG n0=true:=⟨rfl,rfl,rfl⟩;have Z:gV λ _ o g l=>o=nilp/\g=nilp/\l=nilp:=λ _ _ _ _ p=>⟨p.1▸rfl,p.2.1▸rfl,p.2.2▸rfl⟩;have C:aD I' U I' ((U.push (aV #[.slice B m a1,bf,s0,s0,n0,n0,s0,s0] 142)).push (aV #[n0,n0,nilp,nilp,nilp,nilp,nilp,bf,s0] 359)):=aP S2;refine⟨?_,?_⟩
  ·refine iI C.sat one3 Z (pV C.sat) λ V K o g l r P=>?_;have S:=P.1;have y:=P.2.1;have D:=P.2.2;have b0:blk K U.size=aE #[.slice B m a1,bf,s0,s0,n0,n0,s0,s0] 142:=r.blk Bk id;have x:blk K (U.size+1)=aE (kT n0).toArray 359:=r.blk Bk id;have u:V (U.size+1)=none:=(r.dom _ (by(try simp only[bJ]);exact zaa) id).trans (S2.fresh zaa);have b:=aF x;have i:=r.sat;refine rF b0.c S y D s ?_;refine(λ W T J=>?_:∀W,aD V K V W->blk W K.size=aE (kT n0).toArray 359->∃V O w,aB K.size=aB O/\MI I' U (.slice B m a1) v Q O 0 W V n0 w) _ ?_ ?_
   ·exact⟨V,K.size,λ _=>(nilp,nilp,nilp),rfl,(C.trans r).trans T,u,i.fresh bu,T.blk b0 id,T.blk x id,J,aQ.nil ..,zaa,zaa⟩
   ·exact aP i
   ·exact Bk
  ·have c:=C.push (aV #[n0,n0,nilp,nilp,nilp,nilp,nilp,bf,s0] 359);refine iI c.sat one3 Z (pV c.sat) λ V K o g l r P=>?_;have S:=P.1;have y:=P.2.1;have D:=P.2.2;have b0:blk K U.size=aE #[.slice B m a1,bf,s0,s0,n0,n0,s0,s0] 142:=r.blk Bk id;have x:blk K (U.size+1)=aE (kT n0).toArray 359:=r.blk Bk id;have H:blk K (U.size+1+1)=aE (kT n0).toArray 359:=r.blk Bk id;have u:V (U.size+1)=none:=(r.dom _ (by(try simp only[bJ]);exact zaa) id).trans (S2.fresh zaa);have G:V (U.size+1+1)=none:=(r.dom _ (by(try simp only[bJ]);exact zaa) id).trans (S2.fresh zaa);have i:=r.sat;(try simp only[bJ]);refine rG b0.c H.b S y D s ?_;refine(λ W T J=>?_:∀W,aC (Eq (U.size+1+1)) V K V W->blk W (U.size+1+1)=aE (kT n0).toArray 359->∃V O w,aB (U.size+1+1)=aB O/\MI I' U (.slice B m a1) v Q O 0 W V n0 w) _ ?_ ?_
   ·exact⟨V,U.size+1+1,λ _=>(nilp,nilp,nilp),rfl,(c.trans r).trans' T (λ a2 h1 N=>zaa),u,G,T.blk b0 zaa,T.blk x zaa,J,aQ.nil ..,zaa,zaa⟩
   ·exact zb9
   ·exact bz H
theorem uR{T:aK}(Z:aN T h){Q:A3}(r:cd T a 4 1 [c,d,e,f])(w:aG c=true)(s:aG d=true/\aG e=true/\aG f=true)(A:gV Q)(B:∀V E o g l,V.le E->Q V o g l->Q E o g l)(G:g5 T h d e f Q)(L:∀b u o g l V U,aD T h V U->V b=aE #[u] 236->cd V u 4 1 [c,o,g,l]->Q V o g l->R (aB b) U):Cf h 77 #[.agg #[a]] R:=by
 have F:=r.one;have S:=s.1;have a:=s.2.1;have H:=s.2.2;obtain⟨p,U,rfl,t,-,D,-,k⟩:=r;refine Wi (rA ?_);refine⟨λ J K=>∃M V X,J=aR (M:Nat)/\M<=1/\aD T h V K/\V (h.size+1)=none/\blk K (h.size+1)=aE #[X] 236/\(M=0->X=n0)/\(M=1->∃o g l,Q V o g l/\aQ (h.size+2) V K 239 4 X 1 [c,o,g,l]),λ J _=>match J with|.int _ M=>1-M.toNat|_=>0,⟨0,T,n0,rfl,zaa,aP Z,Z.fresh zaa,Bk,λ _=>rfl,λ h=>absurd h zaa⟩,λ J K F=>?_⟩;refine F.elim λ M F=>F.elim λ V F=>F.elim λ X F=>?_;have C:=F.1;have J:=F.2.1;have E:=F.2.2.1;have u:=F.2.2.2.1;have x:=F.2.2.2.2.1;have q:=F.2.2.2.2.2.1;have J:=F.2.2.2.2.2.2;subst C;have R:=aF x;have i:=E.sat;refine rA ?_;refine⟨λ y=>?_,λ y=>?_⟩
 ·have D:M<1:=cW (of_decide_eq_true y);have j:M=0:=zaa;subst j;have v:=q rfl;subst v;refine(k zaa).elim λ b Y=>Y.elim λ s Y=>?_;have Z:aN T K:=λ r q p=>i r q (E.le r q p);have t:∀D(z:D<4),aI K b (s+D)=some ([c,d,e,f][D]'z):=λ D z=>Z.cell (Y.2 D _ (List.getElem?_eq_getElem z));have v:aI K b s=some c:=t 0 zaa;have P:aI K b (s+1)=some d:=t 1 zaa;have Z:aI K b (s+2)=some e:=t 2 zaa;have m:aI K b (s+3)=some f:=t 3 zaa;try simp(disch:=omega)only[go_sem,↓reduceIte,Y.1,un,Nat.add_zero,v,P,Z,m,w,S,a,H,aA x]
  refine G _ _ (E.trans (show aD V K V _ from aP i)) _ λ k p o g l j P=>?_;have O:aD V K k p:=aC.trans (aP i) j;have S:=(A _ _ _ _ P).1;have m:=(A _ _ _ _ P).2.1;have D:=(A _ _ _ _ P).2.2;have V:=O.blk x id;have a:blk p K.size=aE #[c,d,e,f] 146:=j.blk Bk id;have C:=O.size;have q:=O.sat;have G:k (h.size+1)=none:=(O.dom _ R id).trans u;(try simp only[bJ]);refine rG V.c a.c S m D w ?_;refine bY zq rfl zaa zaa (v:=0) (c:=[]) (u:=h.size+2) (T:=k) (H:=#[c,o,g,l]) Bk (aQ.nil ..) (show aD k p k _ from aP q).sat rfl (by simp[dy,cS,di,bZ,cn,cT,cB,dC,dB,cZ,dp,S,m,D,w]) zaa (by(try simp only[bJ]);exact zaa) λ a j N H m s=>?_;have s:aD T h k j:=aC.touch ((E.trans O).push _) H λ d z=>by cases z
  have t:=H.ofPush.blk V zap;have e:=N.one;refine rC t.b e ?_;exact⟨⟨1,k,a,rfl,zaa,s.put (.inl zaa) G,G,bz t,λ h=>absurd h zaa,λ _=>⟨o,g,l,P,N.put zaa⟩⟩,zab⟩
 ·have k:M=1:=cW (of_decide_eq_false y);refine(J k).elim λ o F=>F.elim λ g F=>F.elim λ l F=>?_;have P:=F.1;have W:=F.2;refine rA ?_;have p:=A _ _ _ _ P;have c:=W.frz E zaa zaa λ S O=>by simp only[List.mem_cons,List.not_mem_nil,or_false]at O;rcases O with rfl|rfl|rfl|rfl<;>first|exact w|exact p.1|exact p.2.1|exact p.2.2
  have d:=c.1.freeze (λ r=>decide (r∈[h.size+1])) λ r Y=>.inl (by have:=of_decide_eq_true Y;simp at this;exact zaa);have H:=aK.add_le c.1.sat (λ r=>decide (r∈[h.size+1]));exact L _ X o g l _ _ d (aK.fp_eq zab x) (c.2.2.mono H) (B _ _ _ _ _ (c.2.1.trans H) P)
structure o9(I:aK)(ts ms fs sl kl il f2:Value)(kb:Nat):Prop where
 t:cd I ts 4 1 [aU bT,s0,n0,ms]
 m:cd I ms 8 1 [fs,bf,s0,s0,n0,n0,s0,s0]
 f:cd I fs 8 2 (ia (aU bA) (s0,sl,n0)++ia (aU bB) (s0,kl,n0))
 s:cd I sl 8 1 [bf,s0,aU ic,n0,n0,s0,aU fb,n0]
 l:cd I kl 8 1 [bf,s0,s0,n0,il,s0,aU fb,bq kb 0 1 1]
 i:cd I il 8 1 [f2,bf,s0,s0,n0,n0,s0,s0]
 g:cd I f2 8 2 (ia (aU bK) (aU ic,n0,n0)++ia (aU bV) (aU qa,n0,n0))
 k:I kb=aE #[aU bK] 9
theorem o9.mono(O:I.le J)(B:o9 I a b c d e f g m):o9 J a b c d e f g m:=⟨B.t.mono O,B.m.mono O,B.f.mono O,B.s.mono O,B.l.mono O,B.i.mono O,B.g.mono O,O _ _ B.k⟩
abbrev pw(a b:α):Nat->α:=λ j=>if j=0 then a else b
theorem kj{P:α->Prop}{B u:α}(Y:P B)(j:P u)(D:Nat):P (pw B u D):=by
 unfold pw;split
 ·exact Y
 ·exact j
abbrev sA(A:bF):A3:=λ V o g l=>∃a,cU V A a/\o=.pointer (some a)/\g=nilp/\l=nilp
abbrev n1(i:aK->Addr->Prop):A3:=λ V o g l=>∃a,i V a/\o=nilp/\g=.pointer (some a)/\l=nilp
abbrev l4(i:aK->Addr->Prop):A3:=λ V o g l=>∃a,i V a/\o=nilp/\g=nilp/\l=.pointer (some a)
theorem m7:gV (sA S):=λ _ _ _ _⟨_,_,j,A,z⟩=>⟨j▸rfl,A▸rfl,z▸rfl⟩
theorem Ev{i:aK->Addr->Prop}:gV (n1 i):=λ _ _ _ _⟨_,_,j,A,z⟩=>⟨j▸rfl,A▸rfl,z▸rfl⟩
theorem p5{i:aK->Addr->Prop}:gV (l4 i):=λ _ _ _ _⟨_,_,j,A,z⟩=>⟨j▸rfl,A▸rfl,z▸rfl⟩
theorem g5.weak{Q f:A3}(B:g5 I h a b c Q)(M:∀V o g l,Q V o g l->f V o g l):g5 I h a b c f:=λ v U G z L=>B v U G z λ V N o g l P p=>L V N o g l P (M _ _ _ _ p)
theorem one3(Y:aG a=true)(j:aG b=true)(k:aG c=true):aG a=true/\aG b=true/\aG c=true:=⟨Y,j,k⟩
theorem we(Z:aN I h){K A:P3}{d q:A3}{i:aK->Addr->Prop}(r:cd I b 8 1 [c,bf,s0,s0,n0,n0,s0,s0])(v:cd I c 8 2 (ia (aU S) K++ia (aU T) A))(u:aG K.1=true/\aG K.2.1=true/\aG K.2.2=true)(O:aG A.1=true/\aG A.2.1=true/\aG A.2.2=true)(Y:gV d)(j:gV q)(m:∀V E o g l,V.le E->d V o g l->d E o g l)(J:∀V E o g l,V.le E->q V o g l->q E o g l)(k:g5 I h K.1 K.2.1 K.2.2 d)(B:g5 I h A.1 A.2.1 A.2.2 q)(W:∀V f a(w p:P3),fl V a f->cd V f 8 2 (p9 (aU S) w++p9 (aU T) p)->d V w.1 w.2.1 w.2.2->q V p.1 p.2.1 p.2.2->i V a):g5 I h s0 n0 b (l4 i):=by
 have s:=DU (m:=2) (v:=pw (aU S) (aU T)) (X:=pw K A) (Q:=pw d q) Z v zaa (kj (P:=λ G=>aG G=true) rfl rfl) (kj (P:=λ X:P3=>aG X.1=true/\aG X.2.1=true/\aG X.2.2=true) u O) (kj (P:=λ Q:A3=>gV Q) Y j) (kj (P:=λ Q:A3=>∀V E o g l,V.le E->Q V o g l->Q E o g l) m J) λ D K=>by match D,K with|0,_=>exact oN Z u rfl Y k|1,_=>exact oN Z O rfl j B
 refine(yh Z r ?_ ?_ s).weak ?_
 ·rintro V f⟨w,e,_⟩;exact e.one
 ·rintro V E f H⟨w,e,q⟩;refine⟨w,e.mono H,λ D K=>?_⟩;match D,K with|0,_=>exact m _ _ _ _ _ H (q 0 zaa)|1,_=>exact J _ _ _ _ _ H (q 1 zaa)
 ·rintro V o g l⟨M,f,⟨w,e,q⟩,F,j,A,z⟩;exact⟨⟨M,0,none⟩,W V f _ (w 0) (w 1) ⟨M,359,rfl,F⟩ e (q 0 zaa) (q 1 zaa),j,A,z⟩
theorem Ul:((ic:bF).toList==(⟨#[]⟩:bF).toList)=false:=zab
theorem Qv:((qa:bF).toList==(⟨#[]⟩:bF).toList)=false:=zab
theorem x7:∀V E o g l,V.le E->sA S V o g l->sA S E o g l:=λ _ _ _ _ _ H⟨B,O,C⟩=>⟨B,O.mono H,C⟩
theorem EJ:∀V E o g l,V.le E->l4 kz V o g l->l4 kz E o g l:=λ _ _ _ _ _ H⟨B,O,C⟩=>⟨B,O.mono H,C⟩
theorem Vr:∀V E o g l,V.le E->n1 cO V o g l->n1 cO E o g l:=λ _ _ _ _ _ H⟨B,O,C⟩=>⟨B,O.mono H,C⟩
theorem TZ:∀V E o g l,V.le E->n1 md V o g l->n1 md E o g l:=λ _ _ _ _ _ H⟨B,O,C⟩=>⟨B,O.mono H,C⟩
theorem Pj:∀V E o g l,V.le E->l4 eO V o g l->l4 eO E o g l:=λ _ _ _ _ _ H⟨B,O,C⟩=>⟨B,O.mono H,C⟩
theorem lh{r:Kd}{w:P3}(C:[w.1,w.2.1,w.2.2]=dQ r A):p9 (aU S) w=c9 S r A:=by show aU S::nilp::([w.1,w.2.1,w.2.2]++[nilp,bf,ni])=_;rw[C];exact zcd
theorem vv(Z:aN I h)(W:o9 I b c d e f g i m)(L:∀A a V U,aD I h V U->dr V A a->aG A=true->R A U):Cf h 77 #[.agg #[b]] R:=by
 have D:g5 I h (aU ic) n0 n0 (sA ic):=oZ Z Ul;have G:g5 I h (aU qa) n0 n0 (sA qa):=oZ Z Qv;have K:g5 I h s0 n0 g (l4 kz):=we Z W.i W.g (one3 rfl rfl rfl) (one3 rfl rfl rfl) m7 m7 x7 x7 D G λ V r a w p y N⟨X,i,v⟩⟨R,Y,t⟩=>by rw[lh (r:=.sc) (A:=X) (by rw[v.1,v.2.1,v.2.2]),lh (r:=.sc) (A:=R) (by rw[t.1,t.2.1,t.2.2])]at N;exact⟨r,X,R,y,N,i,Y⟩
 have O:g5 I h s0 e n0 (n1 cO):=by
  refine(pC Z W.s rfl ?_ ?_ (lV (i:=λ _ J=>J=n0) Z (one3 rfl rfl rfl) rfl m7 x7 (λ V J C=>C▸rfl) D Cj)).weak ?_
  ·rintro V o g l q⟨p,C⟩;exact⟨⟨(m7 _ _ _ _ p).1,(m7 _ _ _ _ p).2.1⟩,(m7 _ _ _ _ p).2.2,C▸rfl⟩
  ·rintro V E o g l q H⟨p,C⟩;exact⟨x7 _ _ _ _ _ H p,C⟩
  ·rintro V o g l⟨M,x,S,Q,q,⟨⟨X,i,s,B,P⟩,d⟩,F,j,A,z⟩;subst s B P d;exact⟨⟨M,0,none⟩,⟨X,⟨M,354,rfl,F⟩,i⟩,j,A,z⟩
 have T:g5 I h s0 f n0 (n1 md):=by
  refine(pC Z W.l rfl ?_ ?_ (lV (i:=λ V J=>Strs V J [bK]) Z (one3 rfl rfl W.i.one) rfl p5 EJ (λ V J C=>C.one) K (FR W.k))).weak ?_
  ·rintro V o g l q⟨p,C⟩;exact⟨⟨(p5 _ _ _ _ p).1,(p5 _ _ _ _ p).2.1⟩,(p5 _ _ _ _ p).2.2,C.one⟩
  ·rintro V E o g l q H⟨p,C⟩;exact⟨EJ _ _ _ _ _ H p,C.mono H⟩
  ·rintro V o g l⟨M,x,S,Q,q,⟨⟨X,i,s,B,P⟩,d⟩,F,j,A,z⟩;subst s B P;exact⟨⟨M,0,none⟩,⟨X,q,⟨M,354,rfl,F⟩,i,d⟩,j,A,z⟩
 have Q:g5 I h s0 n0 c (l4 eO):=we Z W.m W.f (one3 rfl W.s.one rfl) (one3 rfl W.l.one rfl) Ev Ev Vr TZ O T λ V r a w p y N⟨X,i,v⟩⟨R,Y,t⟩=>by rw[lh (r:=.li) (A:=X) (by rw[v.1,v.2.1,v.2.2]),lh (r:=.li) (A:=R) (by rw[t.1,t.2.1,t.2.2])]at N;exact⟨r,X,R,y,N,i,Y⟩
 refine uR Z W.t rfl (one3 rfl rfl W.m.one) p5 Pj Q λ u n o g l V U E t r P=>?_;obtain⟨a,Y,j,A,z⟩:=P;subst j A z;exact L _ a _ _ E ⟨u,236,n,rfl,t,r,Y⟩ rfl
def S22:(Al h 24 λ a b=>Al b 30 λ b c=>Bd c 28 #[(0,(aU ⟨#[115,116,114,105,110,103]⟩))] λ d=>Bd c 30 #[(2,d)] λ d=>bH c 30 d λ c d=>Bd d 28 #[(0,(aU ⟨#[117,110,116,121,112,101,100]⟩))] λ e=>Bd d 30 #[(2,e)] λ e=>bH d 30 e λ d e=>Ld e 30 c λ f=>Bd e 139 #[(0,(aU ⟨#[107]⟩)),(1,f)] λ f=>Ld e 30 d λ d=>Bd e 139 #[(0,(aU ⟨#[118]⟩)),(1,d)] λ d=>Bs e 140 2 #[(0,f),(1,d)] λ d e=>Bd e 142 #[(0,d)] λ d=>Bs e 26 1 #[(0,d)] λ d e=>Bd e 28 #[(2,d)] λ d=>Bd e 30 #[(2,d)] λ d=>bH e 30 d λ d e=>Ld e 30 c λ c=>Bd e 144 #[(0,c),(1,(aU ⟨#[97,115,115,111,99,105,97,116,105,118,101]⟩))] λ c=>Bs e 25 1 #[(0,c)] λ c e=>Bd e 28 #[(1,c)] λ c=>Bd e 30 #[(2,c)] λ c=>bH e 30 c λ c e=>Ld e 30 d λ d=>Bs e 32 1 #[(0,(aU ⟨#[107]⟩))] λ e f=>Bd f 144 #[(0,d),(1,(aU ⟨#[97,115,115,111,99,105,97,116,105,118,101]⟩)),(2,e)] λ d=>Bs f 25 1 #[(0,d)] λ d e=>Bd e 28 #[(1,d)] λ d=>Bd e 30 #[(2,d)] λ d=>bH e 30 d λ d e=>Ld e 30 c λ c=>Bd e 139 #[(0,(aU ⟨#[97]⟩)),(1,c)] λ c=>Ld e 30 d λ d=>Bd e 139 #[(0,(aU ⟨#[98]⟩)),(1,d)] λ d=>Bs e 140 2 #[(0,c),(1,d)] λ c d=>Bd d 142 #[(0,c)] λ c=>Bs d 26 1 #[(0,c)] λ c d=>Bd d 28 #[(2,c)] λ c=>bH d 28 c λ c d=>Ld d 28 c λ c=>Bd d 146 #[(0,(aU ⟨#[116]⟩)),(1,c)] λ c=>Bs d 22 1 #[(0,c)] λ c d=>Bd d 24 #[(0,c)] λ c=>Bd d 30 #[(0,bt),(1,(aU ⟨#[116]⟩))] λ e=>Sr d 24 a c λ c=>Sr c 30 b e λ c=>Rv c 24 a λ a=>Rv c 30 b λ b=>R (bj a b) c)->Cf h 22 #[] R:=mS Tryz.func22 (Z (Z (Z pY)))
theorem cd.ofNew(j:I m=aE x.toArray t)(f:x.length=l*o)(D:l<=2147483647)(y:∀S∈x,aG S=true)(Y:l<=n):cd I (bq m 0 l n) o l x:=by refine⟨_,_,rfl,Y,f,D,y,λ _=>⟨m,0,rfl,λ M S O=>?_⟩⟩;unfold bP;rw[j,Nat.zero_add];simpa using O
set_option maxHeartbeats 4000000 in theorem si(Z:aN I h)(L:∀o S r q n F i M V U,aD I h V U->o9 V o S r q n F i M->R (bj (.agg #[o]) (.agg #[bt,tT,s0,n0,n0,s0])) U):Cf h 22 #[] R:=by
 apply S22;(try simp(maxSteps:=3000000)(disch:=omega)only[go_sem,↓reduceIte]);simp only[Nat.add_assoc,Nat.reduceAdd];refine(λ W E k B z D i b A u=>?_:∀W,aD I h I W->blk W (h.size+4)=aE (ia (aU bK) (aU ic,n0,n0)++ia (aU bV) (aU qa,n0,n0)).toArray 139->blk W (h.size+5)=aE ([(bq (h.size+4) 0 2 2),bf,s0,s0,n0,n0,s0,s0]).toArray 142->blk W (h.size+7)=aE ([bf,s0,aU ic,n0,n0,s0,aU fb,n0]).toArray 144->blk W (h.size+9)=aE ([aU bK]).toArray 9->blk W (h.size+10)=aE ([bf,s0,s0,n0,(bq (h.size+5) 0 1 1),s0,aU fb,(bq (h.size+9) 0 1 1)]).toArray 144->blk W (h.size+12)=aE (ia (aU bA) (s0,(bq (h.size+7) 0 1 1),n0)++ia (aU bB) (s0,(bq (h.size+10) 0 1 1),n0)).toArray 139->blk W (h.size+13)=aE ([(bq (h.size+12) 0 2 2),bf,s0,s0,n0,n0,s0,s0]).toArray 142->blk W (h.size+15)=aE ([aU bT,s0,n0,(bq (h.size+13) 0 1 1)]).toArray 146->R (bj (.agg #[(bq (h.size+15) 0 1 1)]) (.agg #[bt,tT,s0,n0,n0,s0])) W) _ ?_ ?_ ?_ ?_ ?_ ?_ ?_ ?_ ?_
 ·have c:=lA E [h.size+4,h.size+5,h.size+7,h.size+9,h.size+10,h.size+12,h.size+13,h.size+15] zab;have P:=c.2.1;refine L _ _ _ _ _ _ _ (h.size+9) _ _ c.1 ⟨cd.ofNew (P _ _ zab u) rfl zaa zac zaa,cd.ofNew (P _ _ zab A) rfl zaa zac zaa,cd.ofNew (P _ _ zab b) rfl zaa zac zaa,cd.ofNew (P _ _ zab z) rfl zaa zac zaa,cd.ofNew (P _ _ zab i) rfl zaa zac zaa,cd.ofNew (P _ _ zab B) rfl zaa zac zaa,cd.ofNew (P _ _ zab k) rfl zaa zac zaa,P _ _ zab D⟩
 ·repeat'(first|with_reducible exact aC.refl Z|with_reducible refine aC.push ?_ _|with_reducible refine aC.put ?_ (Or.inl ?_) ?_|exact Z.fresh zaa|omega)
 all_goals simp only[cq,bO,aJ,Array.size_push,Nat.add_assoc,Nat.reduceAdd,Nat.reduceEqDiff,Nat.add_eq_left,Nat.left_eq_add,Nat.reduceEqDiff,↓reduceIte,eq_self,dP,List.setIfInBounds_toArray,List.set_cons_zero,List.set_cons_succ,reduceCtorEq,List.cons_append,List.nil_append]
section
section
variable{P:Program}{ok:FuncId->Bool}{n:Nat}{ops:Array Oper}{b:Array Nat}
theorem qN{c P:Nat->Bool}(h:∀k,P k=true->c k=true):∀{H:List Nat}{i:Nat},i∈H->c i=true->P i=false->H.countP P<H.countP c
 |X::H,i,d,y,N=>by
  rw[List.countP_cons,List.countP_cons];have W:=List.countP_mono_left (l:=H) (p:=P) (q:=c) λ k _ Y=>h k Y;rcases List.mem_cons.1 d with rfl|d
  ·rw[y,N];simp;exact zaa
  ·have:=qN h d y N;have K:=h X;split<;>split<;>first|omega|(rename_i B t;exact absurd (K B) t)
abbrev yQ(ops:Array Oper)(L:Array Bool):Nat:=(List.range ops.size).countP λ i=>!L.getD i false
theorem tg{L:Array Bool}{M:Nat}(u:L.size=ops.size)(d:M∈Region.ready .any ops L):yQ ops (L.setIfInBounds M true)<yQ ops L:=by
 obtain⟨q,s,v,_⟩:=mem_ready.1 d;have o:=(Array.getElem?_eq_some_iff.1 v).1;have O:M<L.size:=zaa;have y:L.getD M false=false:=by rw[Array.getD_eq_getD_getElem?]at q⊢;rw[Array.getElem?_eq_getElem O]at q⊢;exact q
 refine qN (λ r Y=>?_) (List.mem_range.2 o) (by rw[y];rfl) ?_
 ·rw[Array.getD_eq_getD_getElem?,Array.getElem?_setIfInBounds]at Y;by_cases h:M=r
  ·subst h;rw[y];rfl
  ·rw[if_neg h,<-Array.getD_eq_getD_getElem?]at Y;exact Y
 ·rw[Array.getD_eq_getD_getElem?,Array.getElem?_setIfInBounds,if_pos rfl,if_pos O];rfl
theorem pA{k:Nat->Prop}:∀{H:List Nat},(∀j∈H,k j)->k4 k H|[],_=>trivial|[j],O=>O j zab|j::r::H,O=>⟨O j zab,pA λ M d=>O M (c6 d)⟩
theorem Fo{T:bd->List Deferred->Heap->Prop}(M:Array Bool->bd->Heap->Prop)(w:∀L e h i s,M L e h->i∈Region.ready .any ops L->ops[i]?=some s->dk s=true->jc P ok n ops s e [] (λ R m U=>m=[]/\M (L.setIfInBounds i true) R U) h)(x:∀L e h i s,M L e h->i∈Region.ready .any ops L->ops[i]?=some s->dk s=false->jc P ok n ops s e [] (λ R m U=>eq P ops b L i R U (m=[]/\M (L.setIfInBounds i true) R U) (List.range ops.size)) h)(V:∀L e h,M L e h->Region.ready .any ops L=[]->T e [] h):∀j L e h,L.size=ops.size->yQ ops L<=j->M L e h->jS P ok n ops b T j L e [] h:=by
 intro j;induction j with
  |zero=>
   intro L e h u k z;have:Region.ready .any ops L=[]:=by cases r:Region.ready .any ops L with|nil=>rfl|cons i X=>have:=tg u (M:=i) (by rw[r];exact zab);exact zaa
   unfold jS;rw[this];exact V L e h z this
  |succ j ih=>
   intro L e h u k z;unfold jS;split
   ·rename_i r;exact V L e h z r
   ·rename_i i X r;have a:∀D,D∈Region.ready .any ops L->∀R U,M (L.setIfInBounds D true) R U->jS P ok n ops b T j (L.setIfInBounds D true) R [] U:=λ D K R U c=>ih _ _ _ (by rw[Array.size_setIfInBounds];exact u) (cW (tg u K)) c;split
    ·rename_i D K;obtain⟨B,H⟩:=iZ K;rw[<-r]at B;obtain⟨_,s,v,_⟩:=mem_ready.1 B;rw[v];have o:dk s=true:=by simpa[gN,v]using H
     refine jP (λ R m U _ F=>?_) (w L e h D s z B v o);rw[F.1];exact a D B R U F.2
    ·rename_i K;have Y:=i5 K;refine pA λ D B=>?_;have l:D∈Region.ready .any ops L:=by rw[r];exact B
     obtain⟨_,s,v,_⟩:=mem_ready.1 l;rw[v];have o:dk s=false:=by have:=Y D B;simpa[gN,v]using this
     refine jP (λ R m U _ F=>?_) (x L e h D s z l v o);refine fL (λ F=>?_) F;rw[F.1];exact a D l R U F.2
theorem oT{L:Array Bool}{D:Nat}{C:bd}{O:Heap}{T:Prop}(Q:T):∀{q:List Nat},(∀k∈q,∀s,ops[k]?=some s->L.getD k false=true->dk s=true->∃d A J,s.dst=some d/\rdSem s C=some A/\bd.get C d=some J/\s.guard=none/\Rc P O A J)->eq P ops b L D C O T q
 |[],_=>Q
 |k::q,W=>by
  have ih:=oT (L:=L) (D:=D) (C:=C) (O:=O) Q (q:=q) λ U Z=>W U (c6 Z);unfold eq;cases v:ops[k]? with
   |none=>exact ih
   |some s=>
    simp only;cases f:(L.getD k false&&dk s&&fW s&&fS b D k)with
     |false=>exact ih
     |true=>simp only[Bool.and_eq_true]at f;obtain⟨d,A,J,y,N,K,t,Q⟩:=W k List.mem_cons_self s v f.1.1.1 f.1.1.2;simp only[y,N,K,t];exact⟨Q,ih⟩
end
variable{R:KV}{a b c d e f g i j k:Value}{h:Heap}
abbrev k2:String:= "objects.go:70"
def eV:Array Oper:=#[⟨some 8,.fieldAddr 41 (.tmp 1) 9,0,k2,#[],none⟩,⟨some 9,.load 39 (.tmp 8),39,k2,#[⟨0,.data⟩],none⟩,⟨some 10,.fieldAddr 41 (.tmp 1) 0,0,k2,#[],none⟩,⟨some 11,.load 24 (.tmp 10),24,k2,#[⟨2,.data⟩],none⟩,⟨some 12,.call ⟨.value (.func 77),#[(.tmp 11)],#[24]⟩,86,k2,#[⟨3,.data⟩],none⟩,⟨some 13,.fieldAddr 41 (.tmp 1) 1,0,k2,#[],none⟩,⟨some 14,.load 30 (.tmp 13),30,k2,#[⟨5,.data⟩],none⟩,⟨some 15,.call ⟨.value (.func 78),#[(.tmp 14)],#[30]⟩,95,k2,#[⟨6,.data⟩,⟨4,.chain⟩],none⟩,⟨some 16,.makeMap 96 none,96,k2,#[],none⟩,⟨some 17,.makeMap 97 none,97,k2,#[],none⟩,⟨some 18,.build 99 #[(0,(.tmp 9)),(1,(.tmp 12)),(2,(.tmp 15)),(3,(.tmp 16)),(4,(.tmp 17))],99,k2,#[⟨1,.data⟩,⟨4,.data⟩,⟨7,.data⟩,⟨8,.data⟩,⟨9,.data⟩],none⟩,⟨some 3,.alloc 99,0,k2,#[],none⟩,⟨none,.store 99 (.tmp 3) (.tmp 18),0,k2,#[⟨11,.data⟩,⟨10,.data⟩,⟨7,.chain⟩,⟨0,.phase⟩,⟨1,.phase⟩,⟨2,.phase⟩,⟨3,.phase⟩,⟨4,.phase⟩,⟨5,.phase⟩,⟨6,.phase⟩,⟨7,.phase⟩,⟨8,.phase⟩,⟨9,.phase⟩,⟨10,.phase⟩,⟨11,.phase⟩],none⟩]
def H2(T:Value->Heap->Prop)(a b c:Value)(h:Heap):Prop:=jS P fO 46 eV #[0,1,0,4,12,0,32,124,0,0,1023,0,4095] (λ R _ U=>nO [3] T R U) 13 (Array.replicate 13 false) [(2,c),(1,b),(0,a)] [] h
def S37:(Bx h 41 a λ b c=>Al c 99 λ c d=>Lp (∃e:V1,(∀a d,e a d->(Fa d 41 b 4 λ e=>Ld d 37 e λ e=>Ln d 37 e λ f=>Lp (∃(g:V1)(i:N1),g i0 d/\∀d j,g d j->(bv j .lss 3 d f (Ia j 37 e d λ b=>Ld j 132 b λ b=>bH j 132 b λ b c=>Fa c 99 a 3 λ e=>Ld c 96 e λ f=>Fa c 132 b 0 λ k=>Ld c 9 k λ l=>Fa c 132 b 1 λ m=>Ld c 30 m λ m=>Cf c 78 #[m] λ c m=>aX m 99 a 3 e 96 f<|aX m 132 b 0 k 9 l<|(Mu m 96 f l c λ a=>Bi a .add 3 d i1 λ b=>(g b a/\i b a<i d j))) (Fa j 41 b 5 λ b=>Ld j 32 b λ b=>Ln j 32 b λ d=>Lp (∃(e:V1)(f:N1),e i0 j/\∀g i,e g i->(bv i .lss 3 g d (Ia i 32 b g λ b=>Ld i 9 b λ b=>Fa i 99 a 4 λ a=>Ld i 97 a λ a=>Mu i 97 a b bt λ a=>Bi a .add 3 g i1 λ b=>(e b a/\f b a<f g i)) (Ld i 99 a λ a=>Sr i 99 c a λ a=>Rv a 99 c λ b=>R b a))))))))/\(H2 (λ a b=>e a b) a b c d)))->Cf h 37 #[a] R:=mS Tryz.func37 (Z (Y [3] (X #[0,1,0,4,12,0,32,124,0,0,1023,0,4095]) (Q (Z (B (O [22] (Z (Q d8 (Q (B (Z (X #[0,1,0,4,0,16,48,127]))) L)))))) (Q (Z (B (O [37] mA))) bG))))
end
abbrev zV:bW:=[n0,nilp,nilp,nilp,nilp,nilp,nilp,bf,cr,cr]
abbrev vC(A:Value)(t N l:Nat):bW:=[n0,A,aB t,nilp,nilp,nilp,nilp,bf,.map (some N),.map (some l)]
abbrev aT:Value:=.agg #[bt,tT,s0,n0,n0,s0]
abbrev wC(q k p D y:Value):bW:=[q,bt,tT,s0,n0,n0,s0,aR 6,i0,f0,s0,k,p,D,n0,n0,n0,bf,bf,n0,y,bf]
def mx(q:Value)(x g k:Nat)(L:Array Bool)(V:aK)(e:bd)(h:Heap):Prop:=match k with|0=>bd.get e 8=some (cY x (0+19))|1=>L.getD 0 false=true/\bd.get e 8=some (cY x (0+19))/\bd.get e 9=some n0|2=>bd.get e 10=some (cY x (0+0))|3=>L.getD 2 false=true/\bd.get e 10=some (cY x (0+0))/\bd.get e 11=some (.agg #[q])|4=>∃A a,bd.get e 12=some A/\dr V A a/\aG A=true|5=>bd.get e 13=some (cY x (0+1))|6=>L.getD 5 false=true/\bd.get e 13=some (cY x (0+1))/\bd.get e 14=some aT|7=>∃t,bd.get e 15=some (.agg (dc t).toArray)/\cU V bT ⟨t,0,none⟩|8=>∃W,bd.get e 16=some (.map (some W))/\V W=some (.map #[] 0)|9=>∃W,bd.get e 17=some (.map (some W))/\V W=some (.map #[] 0)|10=>(L.getD 1 false=true/\L.getD 4 false=true/\L.getD 7 false=true/\L.getD 8 false=true/\L.getD 9 false=true)/\∃A a t N l,(bd.get e 9=some n0/\bd.get e 12=some A/\bd.get e 15=some (.agg (dc t).toArray)/\bd.get e 16=some (.map (some N))/\bd.get e 17=some (.map (some l))/\bd.get e 18=some (.agg (vC A t N l).toArray))/\dr V A a/\aG A=true/\cU V bT ⟨t,0,none⟩/\V N=some (.map #[] 0)/\V l=some (.map #[] 0)|11=>∃O,bd.get e 3=some (aB O)/\g<=O/\V O=none/\blk h O=aE zV.toArray 99|_=>True
def fy:Nat->cK|0=>[8]|1=>[8,9]|2=>[10]|3=>[10,11]|4=>[12]|5=>[13]|6=>[13,14]|7=>[15]|8=>[16]|9=>[17]|10=>[9,12,15,16,17,18]|11=>[3]|_=>[]
theorem mx.stab{L r:Array Bool}{C R:bd}(B:mx a m n o L I C h)(u:∀o,L.getD o false=true->r.getD o false=true)(E:aD I h J H)(x:∀G,G∈fy o->bd.get R G=bd.get C G):mx a m n o r J R H:=by match o,B,x with|0,B,x=>exact(x 8 zaH).trans B|1,B,x=>exact⟨u _ B.1,(x 8 zaH).trans B.2.1,(x 9 zaH).trans B.2.2⟩|2,B,x=>exact(x 10 zaH).trans B|3,B,x=>exact⟨u _ B.1,(x 10 zaH).trans B.2.1,(x 11 zaH).trans B.2.2⟩|4,⟨A,X,y,N,K⟩,x=>exact⟨A,X,(x 12 zaH).trans y,N.mono E.le,K⟩|5,B,x=>exact(x 13 zaH).trans B|6,B,x=>exact⟨u _ B.1,(x 13 zaH).trans B.2.1,(x 14 zaH).trans B.2.2⟩|7,⟨t,y,N⟩,x=>exact⟨t,(x 15 zaH).trans y,N.mono E.le⟩|8,⟨W,y,N⟩,x=>exact⟨W,(x 16 zaH).trans y,E.le _ _ N⟩|9,⟨W,y,N⟩,x=>exact⟨W,(x 17 zaH).trans y,E.le _ _ N⟩|10,⟨H,A,X,t,B,l,P,S,C,D,Y,k⟩,x=>exact⟨⟨u _ H.1,u _ H.2.1,u _ H.2.2.1,u _ H.2.2.2.1,u _ H.2.2.2.2⟩,A,X,t,B,l,⟨(x 9 zaH).trans P.1,(x 12 zaH).trans P.2.1,(x 15 zaH).trans P.2.2.1,(x 16 zaH).trans P.2.2.2.1,(x 17 zaH).trans P.2.2.2.2.1,(x 18 zaH).trans P.2.2.2.2.2⟩,S.mono E.le,C,D.mono E.le,E.le _ _ Y,E.le _ _ k⟩|11,⟨O,y,N,K,t⟩,x=>exact⟨O,(x 3 zaH).trans y,N,(E.dom O (aF t) id).trans K,E.blk t id⟩|o+12,_,_=>trivial
structure qg(I:aK)(hS:Heap)(sl:Value)(b1:Nat)(L:Array Bool)(e:bd)(h:Heap)(J:aK):Prop where
 sz:L.size=13
 st:aD I hS J h
 g1:bd.get e 1=some (aB b1)
 al:∀k,L.getD k false=true->mx sl b1 hS.size k L J e h
 l12:L.getD 12 false=false
def Hl(T:aK)(i:Heap)(e:bd)(h:Heap):Prop:=∃V O A a t N l,bd.get e 3=some (aB O)/\i.size<=O/\aD T i V h/\blk h O=aE (vC A t N l).toArray 99/\dr V A a/\aG A=true/\cU V bT ⟨t,0,none⟩/\V N=some (.map #[] 0)/\V l=some (.map #[] 0)
def p4(T:aK)(i:Heap)(q:Value)(x:Nat)(L:Array Bool)(e:bd)(h:Heap):Prop:=(∃V,qg T i q x L e h V)\/((∀k,k<13->L.getD k false=true)/\Hl T i e h)
def nq:Nat->Nat|0=>8|1=>9|2=>10|3=>11|4=>12|5=>13|6=>14|7=>15|8=>16|9=>17|10=>18|_=>3
theorem FJ:((List.range 12).all λ j=>(List.range 12).all λ k=>!((fy k).elem (nq j))||(Nat.beq k j||[(1,0),(3,2),(6,5),(10,1),(10,4),(10,7),(10,8),(10,9)].elem (k,j)))=true:=by rfl
theorem He(D:Nat)(K:D<12)(r:Nat)(Y:r<12)(B:nq D∈fy r):r=D\/(r,D)∈[(1,0),(3,2),(6,5),(10,1),(10,4),(10,7),(10,8),(10,9)]:=by have O:=List.all_eq_true.1 (List.all_eq_true.1 FJ D (List.mem_range.2 K)) r (List.mem_range.2 Y);rw[List.elem_eq_true_of_mem B]at O;simp only[Bool.not_true,Bool.false_or,Bool.or_eq_true]at O;exact O.imp Nat.eq_of_beq_eq_true List.mem_of_elem_eq_true
theorem mx.sep{L:Array Bool}{C:bd}(K:l<12)(f:L.getD l false=false)(B:mx a m n o L I C h)(A:nq l∈fy o):o=l:=by
 by_cases Y:o<12
 ·rcases He l K o Y A with y|y
  ·exact y
  ·exfalso;simp only[List.mem_cons,List.not_mem_nil,or_false,Prod.mk.injEq]at y;rcases y with⟨rfl,rfl⟩|⟨rfl,rfl⟩|⟨rfl,rfl⟩|⟨rfl,rfl⟩|⟨rfl,rfl⟩|⟨rfl,rfl⟩|⟨rfl,rfl⟩|⟨rfl,rfl⟩
   ·rw[B.1]at f;cases f
   ·rw[B.1]at f;cases f
   ·rw[B.1]at f;cases f
   ·rw[B.1.1]at f;cases f
   ·rw[B.1.2.1]at f;cases f
   ·rw[B.1.2.2.1]at f;cases f
   ·rw[B.1.2.2.2.1]at f;cases f
   ·rw[B.1.2.2.2.2]at f;cases f
 ·obtain⟨x,rfl⟩:∃x,o=x+12:=⟨o-12,zaa⟩;have C:fy (x+12)=[]:=rfl;rw[C]at A;simp at A
theorem iD{L:Array Bool}:(L.setIfInBounds m true).getD n false=if m=n then decide (m<L.size)else L.getD n false:=by
 rw[Array.getD_eq_getD_getElem?,Array.getElem?_setIfInBounds,Array.getD_eq_getD_getElem?];by_cases O:m=n
 ·subst O;by_cases N:m<L.size
  ·simp[N]
  ·simp[N]
 ·simp[O]
theorem qg.adv{L:Array Bool}{C:bd}(W:qg I h a m L C H J)(K:n<12)(f:L.getD n false=false){E:aK}{U:Heap}(P:aD J H E U)(D:mx a m h.size n (L.setIfInBounds n true) E (bd.put C (some (nq n)) b) U):qg I h a m (L.setIfInBounds n true) (bd.put C (some (nq n)) b) U E:=by
 have s:=W.sz;have V:∀n,n<12->nq n≠1:=zaE;refine⟨zce,W.st.trans P,(bd.get_put _ _ _ _).trans ((if_neg (V n K)).trans W.g1),λ r Y=>?_,?_⟩
 ·by_cases c:r=n
  ·subst c;exact D
  ·rw[iD,if_neg (λ C=>c C.symm)]at Y;have B:=W.al r Y;refine B.stab (λ M d=>?_) P λ G l=>?_
   ·rw[iD];split
    ·exact decide_eq_true zaa
    ·exact d
   ·rw[bd.get_put];refine if_neg λ C=>c ?_;subst C;exact B.sep K f l
 ·rw[iD,if_neg zaa];exact W.l12
theorem mx.heap{L:Array Bool}{C:bd}(B:mx a m n o L I C h)(Y:o≠11):mx a m n o L I C H:=by match o,B,Y with|0,B,_|1,B,_|2,B,_|3,B,_|4,B,_|5,B,_|6,B,_|7,B,_|8,B,_|9,B,_|10,B,_=>exact B|11,_,h=>exact absurd rfl h|o+12,_,_=>trivial
theorem s5{L i:Array Bool}{C:bd}{u:Array Nat}(E:aD I h J H)(z:bd.get C 1=some (aB m))(al:∀k,k≠11->i.getD k false=true->mx a m h.size k L J C H)(j:blk h m=aE (wC a b c d e).toArray 41)(F:aG a=true){T:Prop}(Q:T):eq P eV u i n C H T (List.range eV.size):=by
 refine oT Q λ k Y s v f w=>?_;have B:=λ D=>al k D f;have o:=E.blk j id;have Z:k<13:=List.mem_range.1 Y;match k,Z,v,B with
  |0,_,v,B=>obtain rfl:=Option.some.inj v;replace B:=B zaa;refine⟨8,_,_,rfl,by show(match ev C (.tmp 1)with|some J=>some (Instr.fieldAt 41 J 9)|none=>none)=_;exact zcv,B,rfl,?_⟩;show eG H 41 (aB m) 9 _;try simp(disch:=omega)only[go_sem,↓reduceIte]
  |1,_,v,B=>obtain rfl:=Option.some.inj v;replace B:=B zaa;refine⟨9,_,_,rfl,by show(match ev C (.tmp 8)with|some J=>some (Instr.loadAt 39 J)|none=>none)=_;rw[show ev C (.tmp 8)=some _ from B.2.1],B.2.2,rfl,?_⟩;show bh H 39 _ _;try simp(disch:=omega)only[go_sem,↓reduceIte,aA o,F]
  |2,_,v,B=>obtain rfl:=Option.some.inj v;replace B:=B zaa;refine⟨10,_,_,rfl,by show(match ev C (.tmp 1)with|some J=>some (Instr.fieldAt 41 J 0)|none=>none)=_;exact zcv,B,rfl,?_⟩;show eG H 41 (aB m) 0 _;try simp(disch:=omega)only[go_sem,↓reduceIte]
  |3,_,v,B=>obtain rfl:=Option.some.inj v;replace B:=B zaa;refine⟨11,_,_,rfl,by show(match ev C (.tmp 10)with|some J=>some (Instr.loadAt 24 J)|none=>none)=_;rw[show ev C (.tmp 10)=some _ from B.2.1],B.2.2,rfl,?_⟩;show bh H 24 _ _;try simp(disch:=omega)only[go_sem,↓reduceIte,aA o,F]
  |5,_,v,B=>obtain rfl:=Option.some.inj v;replace B:=B zaa;refine⟨13,_,_,rfl,by show(match ev C (.tmp 1)with|some J=>some (Instr.fieldAt 41 J 1)|none=>none)=_;exact zcv,B,rfl,?_⟩;show eG H 41 (aB m) 1 _;try simp(disch:=omega)only[go_sem,↓reduceIte]
  |6,_,v,B=>obtain rfl:=Option.some.inj v;replace B:=B zaa;refine⟨14,_,_,rfl,by show(match ev C (.tmp 13)with|some J=>some (Instr.loadAt 30 J)|none=>none)=_;rw[show ev C (.tmp 13)=some _ from B.2.1],B.2.2,rfl,?_⟩;show bh H 30 _ _;try simp(disch:=omega)only[go_sem,↓reduceIte,aA o,F]
  |10,_,v,B=>
   obtain rfl:=Option.some.inj v;replace B:=B zaa;obtain⟨_,A,X,t,N,l,⟨z,G,T,x,U,g⟩,S,y,D,Y,h⟩:=B;refine⟨18,Instr.build 99 #[(0,n0),(1,A),(2,.agg (dc t).toArray),(3,.map (some N)),(4,.map (some l))],_,rfl,?_,g,rfl,?_⟩
   ·show(match evp C [(0,.tmp 9),(1,.tmp 12),(2,.tmp 15),(3,.tmp 16),(4,.tmp 17)]with|some H=>some (Instr.build 99 H.toArray)|none=>none)=_;simp only[evp,ev,z,G,T,x,U]
   ·rw[Pv];try simp(disch:=omega)only[go_sem,↓reduceIte,y]
  |4,_,v,_=>obtain rfl:=Option.some.inj v;cases w
  |7,_,v,_=>obtain rfl:=Option.some.inj v;cases w
  |8,_,v,_=>obtain rfl:=Option.some.inj v;cases w
  |9,_,v,_=>obtain rfl:=Option.some.inj v;cases w
  |11,_,v,_=>obtain rfl:=Option.some.inj v;cases w
  |12,_,v,_=>obtain rfl:=Option.some.inj v;cases w
theorem qg.agains{L:Array Bool}{C:bd}{p:Array Nat}(W:qg I h a m (L.setIfInBounds n true) C H J)(u:L.getD n false=false)(j:blk h m=aE (wC a b c d e).toArray 41)(F:aG a=true):eq P eV p L n C H (([]:List Deferred)=[]/\p4 I h a m (L.setIfInBounds n true) C H) (List.range eV.size):=s5 W.st W.g1 (λ r _ Y=>W.al r (by rw[iD,if_neg (λ C=>by subst C;rw[Y]at u;cases u)];exact Y)) j F ⟨rfl,.inl ⟨J,W⟩⟩
theorem vW{L:Array Bool}(O:L.getD m true=false):L.getD m false=false:=by rw[Array.getD_eq_getD_getElem?]at O⊢;cases i:L[m]? with|none=>rw[i]at O;cases O|some X=>rw[i]at O;exact O
theorem fe{C:bd}:bd.get (bd.put C (some m) a) m=some a:=(bd.get_put ..).trans (if_pos rfl)
theorem gF{C:bd}(z:bd.get C n=some b)(O:m≠n):bd.get (bd.put C (some m) a) n=some b:=(bd.get_put ..).trans ((if_neg O).trans z)
theorem fG{c:Array Edge}{X:Edge}(O:c[m]?=some X):X∈c:=Array.mem_of_getElem? O
theorem FF(u:blk h m=aE (wC a b c d e).toArray 41)(F:aG a=true)(L:Array Bool)(C:bd)(O:Heap)(M:Nat)(s:Oper)(z:p4 I h a m L C O)(d:M∈Region.ready .any eV L)(v:eV[M]?=some s)(H:dk s=true):jc P fO 46 eV s C [] (λ R W U=>W=[]/\p4 I h a m (L.setIfInBounds M true) R U) O:=by
 obtain⟨q,R,Q,G⟩:=mem_ready.1 d;rw[v]at Q;cases Q;have f:=vW q;have w:M<13:=(Array.getElem?_eq_some_iff.1 v).1;rcases z with⟨V,W⟩|⟨o,-⟩;case inr=>rw[o M w]at f;cases f
 have n:=W.g1;have o:=W.st.blk u id;have Z:=W.st.sat;have up:∀r,L.getD r false=true->(L.setIfInBounds M true).getD r false=true:=λ r Y=>by
  rw[iD];split
  ·exact decide_eq_true (cW W.sz)
  ·exact Y
 match M,w,v with
  |4,_,v|7,_,v|8,_,v|9,_,v|11,_,v|12,_,v=>obtain rfl:=Option.some.inj v;cases H
  |0,_,v=>obtain rfl:=Option.some.inj v;show(match(match ev C (.tmp 1)with|some J=>some (Instr.fieldAt 41 J 9)|none=>none)with|some A=>Rd P O A (λ J=>_)|none=>False);rw[show ev C (.tmp 1)=some (aB m)from n];show Fa O 41 (aB m) 9 λ J=>_;rw[zn];exact⟨rfl,.inl ⟨V,W.adv (n:=0) zaa f (aC.refl Z) fe⟩⟩
  |2,_,v=>obtain rfl:=Option.some.inj v;show(match(match ev C (.tmp 1)with|some J=>some (Instr.fieldAt 41 J 0)|none=>none)with|some A=>Rd P O A (λ J=>_)|none=>False);rw[show ev C (.tmp 1)=some (aB m)from n];show Fa O 41 (aB m) 0 λ J=>_;rw[Br];exact⟨rfl,.inl ⟨V,W.adv (n:=2) zaa f (aC.refl Z) fe⟩⟩
  |5,_,v=>obtain rfl:=Option.some.inj v;show(match(match ev C (.tmp 1)with|some J=>some (Instr.fieldAt 41 J 1)|none=>none)with|some A=>Rd P O A (λ J=>_)|none=>False);rw[show ev C (.tmp 1)=some (aB m)from n];show Fa O 41 (aB m) 1 λ J=>_;rw[zN];exact⟨rfl,.inl ⟨V,W.adv (n:=5) zaa f (aC.refl Z) fe⟩⟩
  |1,_,v=>obtain rfl:=Option.some.inj v;have g:=G ⟨0,.data⟩ (fG (m:=0) rfl) rfl;have K:bd.get C 8=some _:=W.al 0 g;show(match(match ev C (.tmp 8)with|some J=>some (Instr.loadAt 39 J)|none=>none)with|some A=>Rd P O A (λ J=>_)|none=>False);rw[show ev C (.tmp 8)=some _ from K];show Ld O 39 _ λ J=>_;refine rC o.c F ?_;exact .inl ⟨V,W.adv (n:=1) zaa f (aC.refl Z) ⟨up _ g,gF K zaE,fe⟩⟩
  |3,_,v=>obtain rfl:=Option.some.inj v;have g:=G ⟨2,.data⟩ (fG (m:=0) rfl) rfl;have K:bd.get C 10=some _:=W.al 2 g;show(match(match ev C (.tmp 10)with|some J=>some (Instr.loadAt 24 J)|none=>none)with|some A=>Rd P O A (λ J=>_)|none=>False);rw[show ev C (.tmp 10)=some _ from K];show Ld O 24 _ λ J=>_;refine rC o.c F ?_;exact .inl ⟨V,W.adv (n:=3) zaa f (aC.refl Z) ⟨up _ g,gF K zaE,fe⟩⟩
  |6,_,v=>obtain rfl:=Option.some.inj v;have g:=G ⟨5,.data⟩ (fG (m:=0) rfl) rfl;have K:bd.get C 13=some _:=W.al 5 g;show(match(match ev C (.tmp 13)with|some J=>some (Instr.loadAt 30 J)|none=>none)with|some A=>Rd P O A (λ J=>_)|none=>False);rw[show ev C (.tmp 13)=some _ from K];show Ld O 30 _ λ J=>_;refine rC o.c F ?_;exact .inl ⟨V,W.adv (n:=6) zaa f (aC.refl Z) ⟨up _ g,gF K zaE,fe⟩⟩
  |10,_,v=>obtain rfl:=Option.some.inj v;have Q:=G ⟨1,.data⟩ (fG (m:=0) rfl) rfl;have E:=G ⟨4,.data⟩ (fG (m:=1) rfl) rfl;have k:=G ⟨7,.data⟩ (fG (m:=2) rfl) rfl;have p:=G ⟨8,.data⟩ (fG (m:=3) rfl) rfl;have u:=G ⟨9,.data⟩ (fG (m:=4) rfl) rfl;have z:bd.get C 9=some n0:=(W.al 1 Q).2.2;obtain⟨A,X,B,S,y⟩:=W.al 4 E;obtain⟨t,T,D⟩:=W.al 7 k;obtain⟨N,x,Y⟩:=W.al 8 p;obtain⟨l,U,m⟩:=W.al 9 u;show(match(match evp C [(0,.tmp 9),(1,.tmp 12),(2,.tmp 15),(3,.tmp 16),(4,.tmp 17)]with|some H=>some (Instr.build 99 H.toArray)|none=>none)with|some A=>Rd P O A (λ J=>_)|none=>False);rw[show evp C [(0,.tmp 9),(1,.tmp 12),(2,.tmp 15),(3,.tmp 16),(4,.tmp 17)]=some [(0,n0),(1,A),(2,.agg (dc t).toArray),(3,.map (some N)),(4,.map (some l))]from by simp only[evp,ev,z,B,T,x,U]];show Bd O 99 #[(0,n0),(1,A),(2,.agg (dc t).toArray),(3,.map (some N)),(4,.map (some l))] λ J=>_;refine rB y ?_;exact .inl ⟨V,W.adv (n:=10) zaa f (aC.refl Z) ⟨⟨up _ Q,up _ E,up _ k,up _ p,up _ u⟩,A,X,t,N,l,⟨gF z zaE,gF B zaE,gF T zaE,gF x zaE,gF U zaE,fe⟩,S,y,D,Y,m⟩⟩
theorem sN{l:FuncId->Bool}{a:Array Oper}{s:Oper}{C:bd}{T:bd->List Deferred->Heap->Prop}(D:nc m s.dst=true)(z:s.guard=none)(G:fJ s=true)(W:kg P l s C (λ J U=>T (bd.put C s.dst J) [] U) h):jc P l m a s C [] T h:=by
 unfold jc;simp only[D,z];split
 ·rename_i t k;unfold fJ at G;rw[k]at G;cases G
 ·exact W
theorem uq{l:FuncId->Bool}{s:Oper}{C:bd}{c:Array Operand}{o:Array TypeId}(v:s.op=.call ⟨.value (.func m),c,o⟩)(Y:l m=true)(f:evs C c.toList=some x)(W:Cl P h m x.toArray R):kg P l s C R h:=by unfold kg;rw[v];simp only[f,Y];exact W
theorem A6{l:FuncId->Bool}{s:Oper}{C:bd}{B X:Operand}(v:s.op=.store m B X)(Y:ev C B=some a)(i:ev C X=some b)(W:Un P h (Instr.storeAt m a b) (R undef)):kg P l s C R h:=by unfold kg unSem;simp only[v,Y,i];exact W
theorem GL(x:o9 I a b c d e f g m)(b:blk h n=aE (wC a k p q r).toArray 41)(F:aG a=true)(L:Array Bool)(C:bd)(O:Heap)(M:Nat)(s:Oper)(z:p4 I h a n L C O)(d:M∈Region.ready .any eV L)(v:eV[M]?=some s)(t:dk s=false){u:Array Nat}:jc P fO 46 eV s C [] (λ R m U=>eq P eV u L M R U (m=[]/\p4 I h a n (L.setIfInBounds M true) R U) (List.range eV.size)) O:=by
 obtain⟨q,R,Q,G⟩:=mem_ready.1 d;rw[v]at Q;cases Q;have f:=vW q;have w:M<13:=(Array.getElem?_eq_some_iff.1 v).1;rcases z with⟨V,W⟩|⟨o,-⟩;case inr=>rw[o M w]at f;cases f
 have d0:=W.g1;have Z:=W.st.sat;have N:=W.st.size;match M,w,v with
  |0,_,v|1,_,v|2,_,v|3,_,v|5,_,v|6,_,v|10,_,v=>obtain rfl:=Option.some.inj v;cases t
  |4,_,v=>obtain rfl:=Option.some.inj v;have p:=G ⟨3,.data⟩ (fG (m:=0) rfl) rfl;have K:bd.get C 11=some (.agg #[a]):=(W.al 3 p).2.2;refine sN rfl rfl rfl (uq rfl rfl (x:=[.agg #[a]]) (show evs C [.tmp 11]=_ by simp only[evs,ev,K]) ?_);show Cf O 77 #[.agg #[a]] _;refine vv Z (x.mono W.st.le) λ A B E U X s y=>?_;exact(W.adv (n:=4) zaa f X ⟨A,B,fe,s,y⟩).agains f b F
  |7,_,v=>obtain rfl:=Option.some.inj v;have T:=G ⟨6,.data⟩ (fG (m:=0) rfl) rfl;have K:bd.get C 14=some aT:=(W.al 6 T).2.2;refine sN rfl rfl rfl (uq rfl rfl (x:=[aT]) (show evs C [.tmp 14]=_ by simp only[evs,ev,K]) ?_);show Cf O 78 #[aT] _;refine Af Z λ t E U X D=>?_;exact(W.adv (n:=7) zaa f X ⟨t,fe,D⟩).agains f b F
  |8,_,v=>obtain rfl:=Option.some.inj v;show Ag O (Instr.makeMap 96 none) _;rw[su];have c:=lA (show aD V O V (O.push (.map #[] 0))from aP Z) [O.size] zab;exact(W.adv (n:=8) zaa f c.1 ⟨O.size,fe,c.2.1 _ _ zab Bk⟩).agains f b F
  |9,_,v=>obtain rfl:=Option.some.inj v;show Ag O (Instr.makeMap 97 none) _;rw[su];have c:=lA (show aD V O V (O.push (.map #[] 0))from aP Z) [O.size] zab;exact(W.adv (n:=9) zaa f c.1 ⟨O.size,fe,c.2.1 _ _ zab Bk⟩).agains f b F
  |11,_,v=>obtain rfl:=Option.some.inj v;show Al O 99 _;rw[GQ];exact(W.adv (n:=11) zaa f (show aD V O V (O.push _)from aP Z) ⟨O.size,fe,N,Z.fresh bu,Bk⟩).agains f b F
  |12,_,v=>
   obtain rfl:=Option.some.inj v;have q:∀r,r<12->L.getD r false=true:=λ r Y=>by match r,Y with|0,_=>exact G ⟨0,.phase⟩ (fG (m:=3) rfl) rfl|1,_=>exact G ⟨1,.phase⟩ (fG (m:=4) rfl) rfl|2,_=>exact G ⟨2,.phase⟩ (fG (m:=5) rfl) rfl|3,_=>exact G ⟨3,.phase⟩ (fG (m:=6) rfl) rfl|4,_=>exact G ⟨4,.phase⟩ (fG (m:=7) rfl) rfl|5,_=>exact G ⟨5,.phase⟩ (fG (m:=8) rfl) rfl|6,_=>exact G ⟨6,.phase⟩ (fG (m:=9) rfl) rfl|7,_=>exact G ⟨7,.phase⟩ (fG (m:=10) rfl) rfl|8,_=>exact G ⟨8,.phase⟩ (fG (m:=11) rfl) rfl|9,_=>exact G ⟨9,.phase⟩ (fG (m:=12) rfl) rfl|10,_=>exact G ⟨10,.phase⟩ (fG (m:=13) rfl) rfl|11,_=>exact G ⟨11,.phase⟩ (fG (m:=14) rfl) rfl
   obtain⟨v,J,X,Q,w⟩:=W.al 11 (q 11 zaa);obtain⟨_,A,p,t,N,c,⟨z,B,T,x,B,g⟩,S,y,D,s,k⟩:=W.al 10 (q 10 zaa);refine sN rfl rfl rfl (A6 rfl (show ev C (.tmp 3)=some (aB v)from J) (show ev C (.tmp 18)=some (.agg (vC A t N c).toArray)from g) ?_);show Sr O 99 (aB v) (.agg (vC A t N c).toArray) λ U=>eq P eV u L 12 C U (([]:List Deferred)=[]/\p4 I h a n (L.setIfInBounds 12 true) C U) (List.range eV.size);refine rC w.b y ?_;have E:=W.st;refine(λ M H bf=>?_:∀M,aD I h V M->blk M v=aE (vC A t N c).toArray 99->eq P eV u L 12 C M (p4 I h a n (L.setIfInBounds 12 true) C M) (List.range eV.size)) _ ?_ ?_
   ·refine s5 H d0 (λ r Y f=>(W.al r f).heap Y) b F (.inr ⟨λ r Y=>?_,V,v,A,p,t,N,c,J,X,H,bf,S,y,D,s,k⟩);rw[iD];split
    ·exact decide_eq_true (cW W.sz)
    ·exact q r zaa
   ·repeat'(first|with_reducible exact E|with_reducible refine aC.put ?_ (Or.inl ?_) ?_|exact Q|omega)
   ·exact bz w
theorem kC{B:Edge}{H:List Edge}{w:Edge->Prop}:(∀X∈B::H,w X)↔w B/\∀X∈H,w X:=List.forall_mem_cons
theorem iH{w:Edge->Prop}:(∀X∈([]:List Edge),w X)↔True:=zab
theorem O5{L:Array Bool}{C:bd}(z:p4 I h a m L C H)(w:Region.ready .any eV L=[]):Hl I h C H:=by
 rcases z with⟨V,W⟩|⟨-,z⟩
 ·exfalso;have d:∀M s,eV[M]?=some s->(∀X∈s.after,L.getD X.on false=true)->L.getD M false=true:=λ M s v G=>by
   cases i:L.getD M false with
    |true=>rfl
    |false=>
     have o:M<L.size:=by have:=(Array.getElem?_eq_some_iff.1 v).1;rw[W.sz];exact zbX
     have:M∈Region.ready .any eV L:=mem_ready.2 ⟨by rw[Array.getD_eq_getD_getElem?]at i⊢;rw[Array.getElem?_eq_getElem o]at i⊢;exact i,s,v,λ X B _=>G X B⟩;rw[w]at this;cases this
  have g:∀M(c:List Edge)s,eV[M]?=some s->s.after=c.toArray->(∀X∈c,L.getD X.on false=true)->L.getD M false=true:=λ M c s v Y G=>d M s v λ X B=>G X (by rw[Y]at B;simpa using B);have b:=g 0 [] _ rfl rfl zbb;have Q:=g 1 [⟨0,.data⟩] _ rfl rfl (by simp only[kC,iH,and_true,b]);have e:=g 2 [] _ rfl rfl zbb;have F:=g 3 [⟨2,.data⟩] _ rfl rfl (by simp only[kC,iH,and_true,e]);have E:=g 4 [⟨3,.data⟩] _ rfl rfl (by simp only[kC,iH,and_true,F]);have A:=g 5 [] _ rfl rfl zbb;have T:=g 6 [⟨5,.data⟩] _ rfl rfl (by simp only[kC,iH,and_true,A]);have k:=g 7 [⟨6,.data⟩,⟨4,.chain⟩] _ rfl rfl (by simp only[kC,iH,and_true,T,E]);have p:=g 8 [] _ rfl rfl zbb;have u:=g 9 [] _ rfl rfl zbb;have f:=g 10 [⟨1,.data⟩,⟨4,.data⟩,⟨7,.data⟩,⟨8,.data⟩,⟨9,.data⟩] _ rfl rfl (by simp only[kC,iH,and_true,Q,E,k,p,u]);have j:=g 11 [] _ rfl rfl zbb;have l:=g 12 [⟨11,.data⟩,⟨10,.data⟩,⟨7,.chain⟩,⟨0,.phase⟩,⟨1,.phase⟩,⟨2,.phase⟩,⟨3,.phase⟩,⟨4,.phase⟩,⟨5,.phase⟩,⟨6,.phase⟩,⟨7,.phase⟩,⟨8,.phase⟩,⟨9,.phase⟩,⟨10,.phase⟩,⟨11,.phase⟩] _ rfl rfl (by simp only[kC,iH,and_true,b,Q,e,F,E,A,T,k,p,u,f,j]);rw[W.l12]at l;cases l
 ·exact z
theorem BL(Z:aN I H)(x:o9 I a b c d e f g m)(u:blk H n=aE (wC a i j k p).toArray 41){T:Value->Heap->Prop}(Q:∀O A X t N l V h,H.size<=O->aD I H V h->blk h O=aE (vC A t N l).toArray 99->dr V A X->aG A=true->cU V bT ⟨t,0,none⟩->V N=some (.map #[] 0)->V l=some (.map #[] 0)->T (aB O) h):H2 T q (aB n) r H:=by
 have F:=x.t.one;unfold H2;refine Fo (p4 I H a n) (λ L C h M s z d v w=>FF u F L C h M s z d v w) (λ L C h M s z d v w=>GL x u F L C h M s z d v w) (λ L C h z w=>?_) 13 _ _ _ rfl ?_ (.inl ⟨I,rfl,aC.refl Z,rfl,λ r Y=>?_,rfl⟩)
 ·obtain⟨V,O,A,X,t,N,l,J,W,E,o,j⟩:=O5 z w;show(match bd.get C 3 with|some B=>T B h|none=>False);rw[J];exact Q O A X t N l V h W E o j.1 j.2.1 j.2.2.1 j.2.2.2.1 j.2.2.2.2
 ·exact Nat.le_trans (List.countP_le_length) (by rw[List.length_range];exact Nat.le_refl _)
 ·exfalso;rw[Array.getD_eq_getD_getElem?,Array.getElem?_replicate]at Y;split at Y<;>cases Y
theorem rQ(Z:aN I h)(x:o9 I a b c d e f g m)(l:aG i=true)(B:aG j=true)(M:aG k=true):Ez I h (wV a i j k (aU S)):=by
 intro z L;have F:=x.t.one;refine S37 (rE F l B M ?_);have s:aD I h I ((h.push (aV (wC a i j k (aU S)).toArray 41)).push (aV zV.toArray 99)):=aP Z;have v:blk ((h.push (aV (wC a i j k (aU S)).toArray 41)).push (aV zV.toArray 99)) h.size=aE (wC a i j k (aU S)).toArray 41:=Bk;have e:blk ((h.push (aV (wC a i j k (aU S)).toArray 41)).push (aV zV.toArray 99)) (h.size+1)=aE zV.toArray 99:=Bk;refine⟨λ d K=>∃O A X t N l V,d=aB O/\aD I h V K/\V (h.size+1)=none/\blk K h.size=aE (wC a i j k (aU S)).toArray 41/\blk K (h.size+1)=aE zV.toArray 99/\blk K O=aE (vC A t N l).toArray 99/\dr V A X/\aG A=true/\cU V bT ⟨t,0,none⟩/\V N=some (.map #[] 0)/\V l=some (.map #[] 0),λ d K F=>?_,?_⟩
 ·refine F.elim λ O F=>F.elim λ A F=>F.elim λ X F=>F.elim λ t F=>F.elim λ N F=>F.elim λ l F=>F.elim λ V F=>?_;have w:=F.1;have E:=F.2.1;have u:=F.2.2.1;have b0:=F.2.2.2.1;have r:=F.2.2.2.2.1;have H:=F.2.2.2.2.2.1;have j:=F.2.2.2.2.2.2;have D:=j.2.1;subst w;refine rB b0.c ?_;refine⟨λ J G=>J=i0/\G=K,λ _ _=>0,⟨rfl,rfl⟩,λ J G F=>?_⟩;have b:=F.1;have z:=F.2;subst b;subst z;refine rB b0.c ?_;refine⟨λ J Q=>J=i0/\Q=G,λ _ _=>0,⟨rfl,rfl⟩,λ J Q F=>?_⟩;have b:=F.1;have z:=F.2;subst b;subst z;refine rD H.c r.b D ?_;refine L _ t A X V _ ?_ ⟨N,l,rfl,j.2.2.2.1,j.2.2.2.2,D⟩ j.1 j.2.2.1;exact zau
 ·have u:∀V U,aD I ((h.push (aV (wC a i j k (aU S)).toArray 41)).push (aV zV.toArray 99)) V U->V (h.size+1)=none:=λ V U G=>(G.dom _ (by(try simp only[bJ]);exact zaa) id).trans (Z.fresh zaa);refine BL s.sat x v λ O A X t N l V U D G w S y D Y k=>?_;exact⟨O,A,X,t,N,l,V,rfl,s.trans G,u _ _ G,G.blk v id,G.blk e id,w,S,y,D,Y,k⟩
def qr(T:aK)(J:Value)(v:Nat)(c:bW):Prop:=∃a V,J=.slice a v V/\v<=V/\c.length=v/\(∀S∈c,aG S=true)/\(0<v->∃b s,a=some ⟨b,s,none⟩/\∀i S,c[i]?=some S->bP T b (s+i)=some S)
theorem qr.sli(B:qr I a m x)(D:m<=2147483647):cd I a 1 m x:=by obtain⟨B,V,e,y,N,K,t⟩:=B;exact⟨B,V,e,y,zaa,D,K,t⟩
theorem qr.one(B:qr I a m x):aG a=true:=by obtain⟨B,V,rfl,-⟩:=B;rfl
abbrev kh(T:aK)(J:Value)(H:bn):Prop:=qr T J H.length (H.map Value.string)
def sq(T:aK)(J:Value)(S:List bn):Prop:=∃g,qr T J S.length g/\eB (kh T) g S
abbrev x9(T:aK)(J:Value)(S:List bn):Prop:=mC Strs T J S
theorem rn(Z:aN I h)(p:kh I a z)(L:∀b,(b=true->z.length<=2147483647/\∀A∈z,A.size<=2147483647)->R (.bool b) h):Cf h 18 #[a] R:=by
 by_cases D:z.length<=2147483647
 ·exact DD Z (p.sli D) (L _ λ j=>⟨D,λ A s=>of_decide_eq_true (List.all_eq_true.1 j A s)⟩)
 ·obtain⟨B,V,rfl,-⟩:=p;apply nC;have f:decide ((2147483647:Int)<(z.length:Int))=true:=by simp;exact zaa
  refine rB f ?_;exact L false zab
theorem Aa(Z:aN I h){S:List bn}(p:sq I a S)(L:∀b,(b=true->S.length<=2147483647/\∀H∈S,H.length<=2147483647/\∀A∈H,A.size<=2147483647)->R (.bool b) h):Cf h 19 #[a] R:=by
 obtain⟨g,⟨B,V,rfl,-,j,-,k⟩,t⟩:=p;apply Wj;by_cases D:S.length<=2147483647
 ·have f:decide ((2147483647:Int)<(S.length:Int))=false:=by simp;exact zaa
  refine rB f ?_;refine⟨λ a Q=>∃M:Nat,a=aR M/\M<=S.length/\Q=h/\∀H∈S.take M,H.length<=2147483647/\∀A∈H,A.size<=2147483647,λ a _=>match a with|.int _ M=>S.length-M.toNat|_=>0,⟨0,rfl,zaa,rfl,zab⟩,λ a Q F=>?_⟩;refine F.elim λ M F=>?_;have A:=F.1;have d:=F.2.1;have z:=F.2.2.1;have o:=F.2.2.2;subst A;subst z;refine rA ?_;refine⟨λ y=>?_,λ y=>?_⟩
  ·have E:M<S.length:=bS y;refine(k zaa).elim λ b Y=>Y.elim λ s Y=>?_;have v:=Z.cell (Y.2 M g[M] (List.getElem?_eq_getElem zaa));refine rC Y.1 v ?_;refine rn Z (t.get M E zaa) λ b j=>?_;cases b with
    |false=>refine rA ?_;exact L false zab
    |true=>
     refine rA ?_;refine⟨⟨M+1,rfl,zaa,λ H g=>?_⟩,zaa⟩;rw[List.take_add_one,List.getElem?_eq_getElem E]at g;rcases List.mem_append.1 g with h|h
     ·exact o H h
     ·rw[show H=S[M]from bS h];exact j rfl
  ·have x:M=S.length:=by have:¬M<S.length:=bS y;exact zaa
   refine rA ?_;subst x;rw[List.take_length]at o;exact L true λ _=>⟨D,o⟩
 ·have f:decide ((2147483647:Int)<(S.length:Int))=true:=by simp;exact zaa
  refine rB f ?_;exact L false zab
theorem Strs.mid{X q:Int}{T:Value->Prop}(p:Strs I a z)(i:X=m)(v:q=n)(k:m<=n)(K:n<=z.length)(Q:∀S,Strs I S ((z.take n).drop m)->T S):Sl h 32 a (some (aR X)) (some (aR q)) none T:=by
 obtain⟨B,V,rfl,t,f,D,y,k⟩:=p;obtain⟨b,_,O,d,-,U,-⟩:=eF fD;subst i v;have C:Sl h 32 (.slice B z.length V) (some (aR m)) (some (aR n)) none T=T (.slice (if V=m then B else B.map (·.add (m*1))) (n-m) (V-m)):=by refine cV λ E _=>?_;unfold Instr.sliceAt Instr.slice Instr.sliceBounds;have x:(0:Int)<=(n:Int)/\(n:Int)<=((V:Nat):Int):=zaa;have H:(0:Int)<=(m:Int)/\(m:Int)<=((n:Nat):Int):=zaa;simp only[Sem.run_bind,bD O,Result.andThen_ok,gG x,gG H,Int.toNat_natCast,Sem.run_pure,eE d,Option.isSome_none,Bool.false_eq_true,if_false,U]
 rw[C];have J:((z.take n).drop m).length=n-m:=by rw[List.length_drop,List.length_take];exact zaa
 refine Q _ ⟨_,V-m,by rw[J],zaa,zab,zaa,λ S O=>?_,λ e=>?_⟩
 ·exact za4
 ·obtain⟨u,s,rfl,r⟩:=k zaa;refine⟨u,s+m*1,by rw[if_neg zaa,Option.map_some,fB],λ o S O=>?_⟩;rw[List.getElem?_map,List.getElem?_drop,List.getElem?_take]at O;split at O
  ·rw[<-List.getElem?_map]at O;rw[Nat.mul_one,Nat.add_assoc];exact r _ _ O
  ·cases O
theorem FY{O:Heap}(q:aQ m I O 9 1 a n x)(Z:aN I O)(W:aN J O)(v:Strs J c z)(H:n+z.length<=2147483647)(r:m<=O.size)(Q:∀e U,aQ m I U 9 1 e (n+z.length) (x++z.map .string)->ft O U a.ownBlock->aN I U->R e U):Ap O 32 a c R:=by
 have T:=v;obtain⟨B,V,rfl,t,f,N,y,k⟩:=v;by_cases d:0<z.length
 ·obtain⟨u,s,rfl,A⟩:=k d;have E:c4 O u s (z.length*1)=some (z.map .string):=by have:=iL (h:=O) (m:=u) (z.map Value.string) s λ M c v=>W.cell (A M c v);rw[List.length_map]at this;rw[Nat.mul_one];exact zbX
  refine mX fD rfl zaa q.1 f E y zaa zaa r λ e U v l E=>?_;have d:=aC.touch (aC.refl (D:=λ P=>a.ownBlock=some P) Z) l λ P W=>⟨.inr W,q.2 P W⟩;refine Q e U ⟨v,λ P W=>?_⟩ l d.sat;rcases E with J|⟨F,B,Y⟩
  ·exact q.2 P (J▸W)
  ·rw[B]at W;cases W;exact Z.fresh Y
 ·have k:z=[]:=List.eq_nil_of_length_eq_zero zaa;subst k;have f:aQ m I O 9 1 a (n+0) (x++([]:bn).map .string):=bS q;rcases q.1.2 with⟨rfl,rfl⟩|⟨P,C,X,rfl,a,W,G,-⟩
  ·exact m9 fD bu (Q _ O f ⟨Nat.le_refl _,λ _ _ _=>rfl⟩ Z)
  ·exact m9 fD G (Q _ O f ⟨Nat.le_refl _,λ _ _ _=>rfl⟩ Z)
theorem IG:z.any (eK · S)=true↔S∈z:=by
 rw[List.any_eq_true];constructor
 ·rintro⟨X,i,x⟩;exact Hy x▸i
 ·exact λ O=>⟨S,O,beq_self_eq_true _⟩
theorem qn:z.any (eK · S)=false↔S∉z:=by rw[<-Bool.not_eq_true,IG]
theorem nodup_all:((List.range z.length).all λ i=>!(z.take i).any (eK · (z.getD i default)))=true↔z.Nodup:=by
 have p:∀i(d:i<z.length),z.getD i default=z[i]:=λ i d=>by rw[List.getD_eq_getElem?_getD,List.getElem?_eq_getElem d];rfl
 rw[List.all_eq_true];constructor
 ·intro W;refine List.pairwise_iff_getElem.2 λ i D d K k C=>?_;have y:=W D (List.mem_range.2 K);rw[p D K,Bool.not_eq_true',qn]at y;exact y (C▸List.mem_take_iff_getElem.2 ⟨i,zaa,rfl⟩)
 ·intro W i d;have d:=List.mem_range.1 d;rw[p i d,Bool.not_eq_true',qn];intro B;obtain⟨D,K,C⟩:=List.mem_take_iff_getElem.1 B;exact List.pairwise_iff_getElem.1 W D i zaa d zaa C
abbrev hG:=List (bF×bn)
abbrev f7(D:hG)(i:Nat)(E:bF):Bool:=((D.map (·.1)).drop (i+1)).any (eK · E)
def dT(D:hG):Nat->bn
 |0=>[]
 |i+1=>match D[i]? with|some w=>if f7 D i w.1=true then dT D i else dT D i++w.2.filter λ A=>(dT D i).any (eK · A)==false|none=>dT D i
theorem lb{D:hG}(O:D[m]?=none):dT D (m+1)=dT D m:=by rw[dT,O]
theorem iF{D:hG}{w:bF×bn}(O:D[m]?=some w)(f:f7 D m w.1=true):dT D (m+1)=dT D m:=by rw[dT,O];exact if_pos f
theorem j7{D:hG}{w:bF×bn}(O:D[m]?=some w)(f:f7 D m w.1=false):dT D (m+1)=dT D m++w.2.filter λ A=>(dT D m).any (eK · A)==false:=by rw[dT,O];exact if_neg (by rw[f];exact Bool.false_ne_true)
theorem rz(D:hG):∀{v G},G∈dT D v↔∃i w,i<v/\D[i]?=some w/\f7 D i w.1=false/\G∈w.2
 |0,G=>by simp[dT]
 |v+1,G=>by
  have ih:=rz D (v:=v) (G:=G);have up:(∃i w,i<v+1/\D[i]?=some w/\f7 D i w.1=false/\G∈w.2)↔(∃i w,i<v/\D[i]?=some w/\f7 D i w.1=false/\G∈w.2)\/∃w,D[v]?=some w/\f7 D v w.1=false/\G∈w.2:=by
   constructor
   ·rintro⟨i,w,d,O⟩;rcases Nat.lt_or_ge i v with y|y
    ·exact .inl ⟨i,w,y,O⟩
    ·have:i=v:=zaa;subst this;exact .inr ⟨w,O⟩
   ·rintro(⟨i,w,d,O⟩|⟨w,O⟩)
    ·exact⟨i,w,zaa,O⟩
    ·exact⟨v,w,zaa,O⟩
  rw[up,<-ih];cases e:D[v]? with
   |none=>rw[lb e];exact⟨.inl,λ O=>O.elim id λ⟨p,P,_⟩=>by cases P⟩
   |some w=>
    cases f:f7 D v w.1 with
     |true=>rw[iF e f];refine⟨.inl,λ O=>O.elim id λ⟨p,P,N,_⟩=>?_⟩;cases P;rw[f]at N;cases N
     |false=>
      rw[j7 e f,List.mem_append,List.mem_filter,beq_iff_eq,qn];constructor
      ·rintro(O|⟨O,-⟩)
       ·exact .inl O
       ·exact .inr ⟨w,rfl,f,O⟩
      ·rintro(O|⟨p,P,-,O⟩)
       ·exact .inl O
       ·cases P;by_cases M:G∈dT D v
        ·exact .inl M
        ·exact .inr ⟨O,M⟩
theorem nD(D:hG)(G:∀w∈D,w.2.Nodup):∀v,(dT D v).Nodup
 |0=>List.nodup_nil
 |v+1=>by
  have ih:=nD D G v;cases e:D[v]? with
   |none=>rw[lb e];exact ih
   |some w=>cases f:f7 D v w.1 with|true=>rw[iF e f];exact ih|false=>rw[j7 e f];refine List.nodup_append.2 ⟨ih,(G w (List.mem_of_getElem? e)).filter _,λ B Y u j C=>?_⟩;subst C;have:=(List.mem_filter.1 j).2;rw[beq_iff_eq,qn]at this;exact this Y
theorem mf(D:hG)(f:∀w∈D,w.2.length<=40):∀v,(dT D v).length<=40*v
 |0=>by simp[dT]
 |v+1=>by
  have ih:=mf D f v;cases e:D[v]? with
   |none=>rw[lb e];exact zaa
   |some w=>cases u:f7 D v w.1 with|true=>rw[iF e u];exact zaa|false=>rw[j7 e u];have y:=List.length_filter_le (λ A=>(dT D v).any (eK · A)==false) w.2;have N:=f w (List.mem_of_getElem? e);rw[List.length_append];exact zaa
theorem j0{D:hG}{t:List gS}{L:Nat->bn}{u:Nat->gk}{H:Nat->bF->bU}(W:gd I D t L u H)(P:t.length=D.length):∀v,v<=D.length->∀X,X∈(u v).map (·.1)↔∃i w,i<v/\D[i]?=some w/\w.1=X
 |0,_,X=>by rw[W.r0];exact zab
 |v+1,c,X=>by
  have ih:=j0 W P v zaa X;have E:=W.st v D[v] t[v] (List.getElem?_eq_getElem zaa) (List.getElem?_eq_getElem zaa);rw[E.ks,ih];constructor
  ·rintro(O|⟨i,w,d,O⟩)
   ·exact⟨v,D[v],zaa,List.getElem?_eq_getElem zaa,O.symm⟩
   ·exact⟨i,w,zaa,O⟩
  ·rintro⟨i,w,d,y,N⟩;rcases Nat.lt_or_ge i v with K|K
   ·exact .inr ⟨i,w,K,y,N⟩
   ·have:i=v:=zaa;subst this;rw[List.getElem?_eq_getElem zaa]at y;cases y;exact .inl N.symm
theorem nk{D:hG}{t:List gS}{L:Nat->bn}{u:Nat->gk}{H:Nat->bF->bU}(W:gd I D t L u H)(P:t.length=D.length):∀v,v<=D.length->∀i w,i<v->D[i]?=some w->(∀j p,i<j->j<v->D[j]?=some p->p.1≠w.1)->CI (H v w.1) w.2
 |0,_,i,w,d,_,_=>absurd d zaa
 |v+1,K,i,w,d,e,m=>by
  have E:=W.st v D[v] t[v] (List.getElem?_eq_getElem zaa) (List.getElem?_eq_getElem zaa);obtain⟨Z,C,Q⟩:=E.ci;rcases Nat.lt_or_ge i v with K|K
  ·have:=m v D[v] K zaa (List.getElem?_eq_getElem zaa);rw[C,iA (λ O=>this O.symm)];exact nk W P v zaa i w K e λ j p t G=>m j p t zaa
  ·have:i=v:=zaa;subst this;rw[List.getElem?_eq_getElem zaa]at e;cases e;rw[C,he];exact Q
theorem kI{D:hG}(O:f7 D m S=false):∀j p,m<j->j<D.length->D[j]?=some p->p.1≠S:=by intro j p k K P C;rw[qn]at O;refine O (List.mem_iff_getElem?.2 ⟨j-(m+1),?_⟩);rw[List.getElem?_drop,show m+1+(j-(m+1))=j from zaa,List.getElem?_map,P,<-C];rfl
theorem AA(D:hG)(X:bF):∀v,v<=D.length->(∃i w,i<v/\D[i]?=some w/\w.1=X)->(∀j p,v<=j->D[j]?=some p->p.1≠X)->∃i w,i<D.length/\D[i]?=some w/\w.1=X/\f7 D i w.1=false
 |0,_,⟨i,w,d,_⟩,_=>absurd d zaa
 |v+1,c,⟨i,w,d,e,x⟩,H=>by
  by_cases n:D[v].1=X
  ·refine⟨v,D[v],zaa,List.getElem?_eq_getElem zaa,n,?_⟩;rw[qn];intro B;obtain⟨r,Y⟩:=List.mem_iff_getElem?.1 B;rw[List.getElem?_drop,List.getElem?_map]at Y;cases P:D[v+1+r]? with|none=>rw[P]at Y;cases Y|some p=>rw[P]at Y;exact H _ p zaa P ((Option.some.inj Y).trans n)
  ·refine AA D X v zaa ?_ λ j p K P=>?_
   ·rcases Nat.lt_or_ge i v with K|K
    ·exact⟨i,w,K,e,x⟩
    ·have:i=v:=zaa;subst this;rw[List.getElem?_eq_getElem zaa]at e;cases e;exact absurd x n
   ·rcases Nat.lt_or_ge v j with K|K
    ·exact H j p K P
    ·have:j=v:=zaa;subst this;rw[List.getElem?_eq_getElem zaa]at P;cases P;exact n
theorem Cm{D:hG}{t:List gS}{L:Nat->bn}{u:Nat->gk}{H:Nat->bF->bU}(W:gd I D t L u H)(P:t.length=D.length)(n:iM I (L D.length) a b c (u D.length) (H D.length))(G:bF):G∈L D.length↔G∈dT D D.length:=by
 rw[n.m1,rz];constructor
 ·rintro⟨X,i,l⟩;obtain⟨M,w,d,e,x,f⟩:=AA D X D.length bu ((j0 W P _ bu X).1 i) λ D b K P=>by rw[List.getElem?_eq_none K]at P;cases P
  have Q:=nk W P _ bu M w d e (kI f);rw[x]at Q;obtain⟨A,s,C⟩:=(Q.m _).1 l;cases C;exact⟨M,w,d,e,f,s⟩
 ·rintro⟨M,w,d,e,f,l⟩;exact⟨w.1,(j0 W P _ bu _).2 ⟨M,w,d,e,rfl⟩,((nk W P _ bu M w d e (kI f)).m _).2 ⟨G,l,rfl⟩⟩
theorem Dk(f:z.Nodup)(B:y.Nodup)(O:∀G,G∈z↔G∈y):z.length=y.length/\(z.filter λ A=>y.any (eK · A)==true).length=y.length:=by have C:z.length=y.length:=((List.perm_ext_iff_of_nodup f B).2 O).length_eq;refine⟨C,?_⟩;rw[List.filter_eq_self.2 λ A s=>by rw[beq_iff_eq,IG];exact(O A).1 s];exact C
def PI(R:KV)(a b c d e:Value)(f:Heap):Prop:=Fa f 41 d 2 λ g=>Ld f 35 g λ g=>Cf f 25 #[g] λ f g=>aW f λ f i=>Lp (∃(j:V2)(k:N2),j n0 i0 g/\∀g H x,j g H x->(Bi x .lss 3 H c λ v=>Cd v (Lp (∃e:V1,(∀a b,e a b->(Bi b .add 3 H i1 λ c=>(j a c b/\k a c b<k g H x)))/\(Bi x .add 3 H i1 λ f=>Sl x 32 a (some f) (some c) none λ c=>Ia x 32 a H λ f=>Ld x 9 f λ f=>Cf x 26 #[c,f] λ c f=>Cd c (e g f) (Lp (∃c:V1,(∀a d,c a d->(Fa d 52 a 3 λ c=>Ld d 50 c λ f=>Ia d 62 b H λ i=>Ld d 32 i λ i=>Cf d 29 #[i] λ d i=>aX i 52 a 3 c 50 f<|(Cf i 28 #[f,d] λ a c=>cD c a (R bf c) (Ia c 62 b H λ a=>Ld c 32 a λ a=>Cf c 30 #[a,g,bf] λ a b=>Ap b 32 g a λ a b=>e a b))))/\(Fa f 41 d 3 λ b=>Ld f 36 b λ e=>Ia f 32 a H λ g=>Ld f 9 g λ i=>(Cf f 27 #[e,i] λ f j=>aW f λ f _=>Al j 52 λ j k=>aX k 41 d 3 b 36 e<|iR k 32 a H g/\bh k 9 g i/\(Sr k 52 j f λ a=>c j a))/\(Al f 52 λ f j=>aX j 41 d 3 b 36 e<|iR j 32 a H g/\bh j 9 g i/\(Cf j 27 #[e,i] λ a b=>aW a λ a _=>Sr b 52 f a λ a=>c f a)))))))) (aH x e (λ a b=>a i b) λ a b=>Pk e a bf λ a=>aH b a (λ a b=>a f b) λ b c=>aH c a (λ a c=>Cf c 31 #[b] λ b c=>a b c) λ b c=>Pk a b bf λ a=>aH c a (λ a b=>a f b) λ b c=>aH c a (λ a c=>Ln c 32 b λ b=>a b c) λ b c=>aH c a (λ a b=>a g b) λ c d=>aH d a (λ a b=>Ln b 32 c λ c=>a c b) λ c d=>aH d a (λ a d=>Eb d .eql 3 false false b c λ b=>a b d) λ b c=>Pk a b bf λ a=>aH c a (λ a b=>a f b) λ b c=>aH c a (λ a b=>a g b) λ c d=>aH d a (λ a d=>Cf d 30 #[b,c,bt] λ b c=>a b c) λ b c=>aH c a (λ a c=>Ln c 32 b λ b=>a b c) λ b c=>aH c a (λ a b=>a g b) λ c d=>aH d a (λ a b=>Ln b 32 c λ c=>a c b) λ c d=>aH d a (λ a d=>Eb d .eql 3 false false b c λ b=>a b d) λ b c=>Pk a b bf λ a=>R a c)))
theorem Ft(O:∀q∈E,∃G,q=El.val G):∃H:bn,E=H.map .val:=by
 induction E with
  |nil=>exact⟨[],rfl⟩
  |cons q E ih=>obtain⟨G,rfl⟩:=O q zab;obtain⟨H,rfl⟩:=ih λ L k=>O L (c6 k);exact⟨G::H,rfl⟩
structure lw(J:aK)(nv sv:Value)(ns:bn)(ls:List bn)(ps:hG):Prop where
 n:Strs J nv ns
 s:x9 J sv ls
 l1:ps.length<=ns.length
 l2:ps.length<=ls.length
 p:∀i(h:i<ps.length)(h1:i<ns.length)(h2:i<ls.length),ps[i]=(ns[i],ls[i])
 pos:0<ps.length
 le:ps.length<=12
 ok:∀p∈ps,p.2.Nodup/\p.2.length<=40/\∀s∈p.2,s.size<=2147483647
theorem lw.names{S:List bn}{D:hG}(B:lw I a b z S D):D.map (·.1)=z.take D.length:=by refine List.ext_getElem (by have:=B.l1;simp;exact zaa) λ M y N=>?_;have d:M<D.length:=bS y;have:=B.l1;have:=B.l2;rw[List.getElem_map,List.getElem_take,B.p M d zaa zaa]
theorem zs(Z:aN I h){S:List bn}{D:hG}(k:lw I a b z S D)(w:aG c=true)(o:blk h n=aE (wC c d e f s0).toArray 41){t:List gS}{L:Nat->bn}{u:Nat->gk}{H:Nat->bF->bU}(W:gd I D t L u H)(hq:t.length=D.length)(a0:iM I (L D.length) d e f (u D.length) (H D.length))(hR:∀E U,aD I h E U->R bt U):PI R a b (aR D.length) (aB n) bt h:=by
 have O:=a0.lv.ones.1;have B:=a0.lv.ones.2;have om:=a0.mg.sl.one;have c:=k.pos;have N:=k.l1;have J:=k.l2;have M:=k.le;have y:L D.length≠[]:=by have E:=W.st (D.length-1) D[D.length-1] t[D.length-1] (List.getElem?_eq_getElem zaa) (List.getElem?_eq_getElem zaa);have:=E.ne;rwa[show D.length-1+1=D.length from zaa]at this
 have f:d6 I (dU d e) (L D.length):=a0.lv.elim (λ C=>absurd C.1 y) (·.2);unfold PI;refine rD o.c O B ?_;refine uz Z f λ q V y v p=>?_;have B:=v.sat;refine rA ?_;refine⟨λ X J Q=>∃M:Nat,J=aR M/\M<=D.length/\aD V y V Q/\aQ y.size V Q 9 1 X (dT D M).length ((dT D M).map .string),λ _ J _=>match J with|.int _ M=>D.length-M.toNat|_=>0,⟨0,rfl,zaa,aC.refl B,aQ.nil ..⟩,λ X J Q F=>?_⟩;refine F.elim λ M F=>?_;have A:=F.1;have B:=F.2.1;have E:=F.2.2.1;have ox:=F.2.2.2;subst A;have S5:=E.sat;have a:=E.size;have N:=v.blk o id;have a1:=E.blk N id;have e:=aF a1;refine rA ?_;refine⟨λ F=>?_,λ F=>?_⟩
 ·have o:M<D.length:=bS F;have B:=k.p M o zaa zaa;have P:D[M]?=some D[M]:=List.getElem?_eq_getElem o;refine Exists.elim k.n λ a F=>Exists.elim F λ n T=>?_;have J:=T.1;refine Exists.elim k.s λ g F=>?_;have t:=F.2;refine Exists.elim F.1 λ c F=>Exists.elim F λ b s=>?_;have a:=s.1;have c:g.length=S.length:=t.len;refine(T.2.2.2.2.2 zaa).elim λ e Y=>Y.elim λ N n=>?_;refine(s.2.2.2.2.2 zaa).elim λ H Y=>Y.elim λ f Z=>?_;have G:=v.le.trans E.le;have f:=λ{W:Heap}(N:aN I W)=>N.cell (n.2 M (aU z[M]) (by rw[List.getElem?_map,List.getElem?_eq_getElem zaa];rfl));have a2:=λ{W:Heap}(N:aN I W)=>N.cell (Z.2 M g[M] (List.getElem?_eq_getElem zaa));have b:aN I Q:=λ d q p=>S5 d q (G d q p);have Y:=iq (f b);refine⟨λ N U=>aD V y V U/\aQ y.size V U 9 1 N (dT D (M+1)).length ((dT D (M+1)).map .string),λ N U F=>?_,?_⟩
  ·refine rA ?_;exact⟨⟨M+1,rfl,zaa,F.1,F.2⟩,zaa⟩
  refine rA ?_;refine Strs.mid (m:=M+1) (n:=D.length) (k.n.mono G) zaa rfl zaa zaa λ a3 O=>?_;subst J;subst a;refine rD n.1 Z.1 (f b) ?_;refine lD S5 O ?_;have H:((z.take D.length).drop (M+1)).any (eK · z[M])=f7 D M D[M].1:=by unfold f7;rw[k.names,B]
  rw[H];cases h:f7 D M D[M].1 with
   |true=>refine rA ?_;rw[iF P h];exact⟨E,ox⟩
   |false=>
    have H:=a0.mg.mono G;have Y:z[M]∈(u D.length).map (·.1):=(j0 W hq _ bu _).2 ⟨M,D[M],o,P,by rw[B]⟩;have jn:∀d,Q.size<=d->V d=none:=λ d Y=>S5.fresh Y;refine rA ?_;refine⟨λ x R=>∃J w,x=aB J/\aD V Q V R/\blk R J=aE (mgC w).toArray 52/\w∈u D.length/\w.1=z[M],λ x c F=>?_,?_⟩
    ·refine F.elim λ J F=>F.elim λ w F=>?_;have C:=F.1;have T:=F.2.1;have r:=F.2.2.1;have e:=F.2.2.2.1;have x:=F.2.2.2.2;subst C;have EU:=T.sat;have U:aN I c:=λ d q p=>EU d q (G d q p);have R:=iq (a2 U);have K:=(H.ok w e).1.one;have c:Strs V g[M] S[M]:=(t.get M zaa zaa).mono v.le;refine rE r.c K Z.1 (a2 U) ?_;refine um EU c λ a4 J2 g g y=>?_;have a:=g.blk r id;refine rC a.c K ?_;refine Exists.elim (Ft (a0.m2 w.1 (List.mem_map.2 ⟨w,e,rfl⟩))) λ a R=>?_;have ci:=nk W hq _ bu M D[M] o P (kI h);have A:D[M].1=w.1:=by rw[B,x]
     have t:D[M].2=S[M]:=by rw[B]
     rw[A,t,R]at ci;have U:=H.ok w e;rw[R]at U;have R:=k.ok D[M] (List.getElem_mem o);rw[t]at R;have o:∀X,X∈a↔X∈S[M]:=λ X=>by
      have:=ci.m (.val X);rw[List.mem_map]at this;constructor
      ·intro B;obtain⟨a5,A,C⟩:=this.1 ⟨X,B,rfl⟩;cases C;exact A
      ·intro B;obtain⟨a5,A,C⟩:=this.2 ⟨X,B,rfl⟩;cases C;exact A
     have A:eP J2 w.2 (a.map (lC bA)):=by have:=U.1.mono g.le;rw[List.map_map]at this;exact zbX
     refine tx (S:=bA) (z:=a) (y:=S[M]) g.sat A y o (λ A s=>R.2.2 A ((o A).1 s)) zaE (by have:=U.2.2.1;rw[List.length_map]at this;exact zaa) zaa λ s U R=>?_;have a:aD V Q V U:=T.trans (aC.forget (aK.le.refl V) (g.trans R));have T:=a.sat;have o:aN I U:=λ d q p=>T d q (G d q p);have T:=ox.step a (λ _ _=>id);refine rC Z.1 (a2 o) ?_;have Z:=mf D (λ w e=>(k.ok w e).2.1) M;have Z:=T.frz (E.trans a) bu zaa λ a3 O=>za4;refine v8 Z.1.sat (c.mono Z.2.1) Z.2.2 λ R R c g o=>?_;have C:aD V U V c:=aC.forget Z.2.1 g;have R:=T.step C (λ _ _=>id);refine FY R C.sat g.sat o (Nat.le_trans (Nat.add_le_add_left (List.length_filter_le _ _) _) zaa) ((E.trans a).trans C).size λ N g T S G0=>⟨aC.touch ((E.trans a).trans C) S λ a U=>⟨.inl (R.1.block U).1,R.2 a U⟩,?_⟩;rw[j7 P h,t,List.length_append,List.map_append];exact T
    ·refine rE a1.c om n.1 (f b) ?_;refine⟨?_,?_⟩
     ·refine mj S5 H Y λ w T h e x=>?_;have K:=(H.ok w e).1.one;have U:=h.sat;have S:aN I T:=λ d q p=>U d q (G d q p);have d:=h.blk a1 id;have C:=h.size;refine rF d.c om n.1 (f S) K ?_;refine(λ W a q=>?_:∀W,aD V T V W->blk W T.size=aE (mgC w).toArray 52->∃J w,aB T.size=aB J/\aD V Q V W/\blk W J=aE (mgC w).toArray 52/\w∈u D.length/\w.1=z[M]) _ ?_ ?_
      ·exact⟨_,w,rfl,h.trans a,q,e,x⟩
      ·exact aP U
      ·exact Bk
     ·have o:aD V Q V (Q.push (aV #[s0,s0,bf,n0] 52)):=aP S5;refine mj o.sat H Y λ w T h e x=>?_;have K:=(H.ok w e).1.one;have r:blk T Q.size=aE #[s0,s0,bf,n0] 52:=h.blk Bk id;refine rC r.b K ?_;have n:=o.trans h;have N:=jn Q.size bu;refine(λ W a q=>?_:∀W,aD V Q V W->blk W Q.size=aE (mgC w).toArray 52->∃J w,aB Q.size=aB J/\aD V Q V W/\blk W J=aE (mgC w).toArray 52/\w∈u D.length/\w.1=z[M]) _ ?_ ?_
      ·exact⟨_,w,rfl,a,q,e,x⟩
      ·repeat'(first|with_reducible exact n|with_reducible refine aC.put ?_ (Or.inl ?_) ?_|exact N|omega)
      ·exact bz r
 ·have x:M=D.length:=by have:¬M<D.length:=bS F;exact zaa
  subst x;have Z:=ox.frz E bu (cW (mf D (λ w e=>(k.ok w e).2.1) D.length)) λ a3 O=>za4;have B:Strs _ X (dT D D.length):=Z.2.2;have q:=Dk a0.nd (nD D (λ w e=>(k.ok w e).1) D.length) (Cm W hq a0);have R:=p.mono Z.2.1;refine Exists.elim p λ ya F=>Exists.elim F λ Q F=>?_;have t:=F.1;refine Exists.elim B λ K F=>Exists.elim F λ o F=>?_;have T:=F.1;have V:=nodup_all.2 a0.nd;have X:(((L D.length).length:Int)==((dT D D.length).length:Int))=true:=by rw[q.1];exact beq_self_eq_true _
  refine qo S5 p ?_;subst t;subst T;refine rC V X ?_;refine v8 Z.1.sat R B λ a4 s K r y=>?_;refine Exists.elim y λ p F=>Exists.elim F λ z F=>?_;have n:=F.1;subst n;have e:((((L D.length).filter λ A=>(dT D D.length).any (eK · A)==true).length:Int)==((dT D D.length).length:Int))=true:=by rw[q.2];exact beq_self_eq_true _
  refine rD V X e ?_;exact hR _ _ (v.trans (Z.1.trans r))
end Go.Proofs.YtgmgmmoofjikiaaGreat
