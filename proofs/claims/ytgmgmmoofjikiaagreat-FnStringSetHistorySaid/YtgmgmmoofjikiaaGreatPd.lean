/- Proved here: steps on the way to FnStringSetHistorySaid (the last file has the statement). There are no conditions. -/
import Derived.Test.YtgmgmmoofjikiaaGreatPc
set_option linter.all false
set_option maxHeartbeats 1000000
namespace Go.Proofs.YtgmgmmoofjikiaaGreat
open Go.Eng
variable{a b c d e f g i j k p q r s:Value}{m n o l t u v:Nat}{I J:aK}{h H:Heap}{R:KV}{z y:bn}{x w:bW}{S T:bF}{A:Addr}{K N:cK}{E F:bU}{G M:El}{V W:ex}{α:Type}
def yc(R:KV)(a b c d e f:Value)(g:Heap):Prop:=Mz g 241 i0 f λ f g=>Cf g 431 #[a,b,d,bf] λ d g=>aW d λ i j=>Ex d 2 λ d=>bH g 634 j λ g j=>Ap j 323 n0 d λ d j=>Cf j 431 #[a,b,c,bt] λ j k=>aW j λ H x=>Ex j 2 λ j=>bH k 634 x λ k x=>Ap x 323 d j λ d j=>Ln j 323 d λ x=>bx j 3 x i0 (R d j) (Mz j 637 i0 e λ e j=>Ln j 251 i λ x=>Lp (∃(v:V2)(s:N2),v e i0 j/\∀e j w,v e j w->(Bi w .lss 3 j x λ x=>Cd x (Lp (∃a:V1,(∀b c,a b c->(Bi c .add 3 j i1 λ a=>(v b a c/\s b a c<s e j w)))/\(Ia w 251 i j λ b=>Nc b<|Ld w 369 b λ c=>Cf w 432 #[k,c] λ c d=>aW c λ _ c=>Cd c (Bs d 637 1 #[(0,b)] λ b c=>Ap c 637 e b λ b c=>a b c) (a e d)))) (Lp (∃j:V2,(∀e x v,j e x v->(Ln v 251 i λ j=>Cf v 388 #[j] λ j v=>bH v 607 j λ j v=>Ln v 251 H λ s=>Ln v 251 i λ w=>Lp (∃(p:V5)(W:N5),p f e x i0 i0 v/\∀e f x v A G,p e f x v A G->(Bi G .lss 3 v s λ S=>Gd G S false (λ a b=>a A b) λ J E=>Gd E S false (λ a b=>a w b) λ E X=>Gd X S false (λ a b=>Bi b .lss 3 J E λ c=>a c b) λ J E=>Pk S bt J λ S=>Cd S (Lp (∃d:V5,(∀S J E X q L,d S J E X q L->(Lp (∃d:V2,(∀c H s,d c H s->(Bi s .lss 3 q w λ d=>Cd d (Ia s 251 i q λ d=>Ld s 369 d λ d=>bH s 369 d λ d i=>Ld i 369 d λ s=>Bd i 347 #[] λ w=>Mi i 347 w λ w=>Cf i 390 #[j,s,w] λ _ i=>Ld i 369 d λ j=>Cf i 432 #[k,j] λ i j=>aW i λ i _=>Ld j 369 d λ k=>Cf j 432 #[g,k] λ g j=>aW g λ g _=>Ld j 369 d λ k=>Cf j 434 #[a,b,k,i,g] λ a b=>aW a λ a g=>Ap b 323 g g λ _ b=>Lp (∃g:V1,(∀a b,g a b->(Bi b .add 3 q i1 λ c=>Eb b .neq 638 false true E nilp λ g=>aH b g (λ a b=>a E b) λ b i=>aH i g (λ a c=>Nc b<|a b c) λ b i=>aH i g (λ a c=>Ld c 369 b λ b=>a b c) λ b i=>aH i g (λ a b=>Ld b 369 d λ c=>a c b) λ d i=>aH i g (λ a c=>Cf c 433 #[b,d] λ b c=>a b c) λ b d=>Pk g b bf λ b=>Cd b (Ln d 637 J λ b=>bv d .gtr 3 b i0 (Ia d 637 J i0 λ b=>Ld d 638 b λ b=>Sl d 637 J (some i1) none none λ g=>(p a g b H c d/\W a g b H c d<W e f x v A G)) (p a J nilp H c d/\W a J nilp H c d<W e f x v A G)) (p a J E H c d/\W a J E H c d<W e f x v A G)))/\(Eb b .neq 408 false true a nilp λ d=>Cd d (Nc a<|Ld b 20 a λ a=>Bs b 241 1 #[(0,a)] λ a b=>Ap b 241 c a λ a b=>g a b) (g c b)))) (p c J E H q s/\W c J E H q s<W e f x v A G)))/\(Bi L .lss 3 X s λ i=>Cd i (Ia L 251 H X λ i=>Ld L 369 i λ i=>bH L 369 i λ i k=>Ld k 369 i λ H=>Cf k 432 #[g,H] λ g k=>aW g λ _ g=>cD k g (aM k 411 a 10 225 λ d=>Nc (.func (.method "AtUsing") #[c] #[])<|Iv k c "AtUsing" #[d,X] λ c d=>Ld d 369 i λ g=>Cf d 434 #[a,b,g,c,ni] λ a b=>aW a λ a c=>Ap b 323 c c λ _ b=>Lp (∃c:V1,(∀a b,c a b->(Bi b .add 3 X i1 λ c=>(p a J E c q b/\W a J E c q b<W e f x v A G)))/\(Eb b .neq 408 false true a nilp λ d=>Cd d (Nc a<|Ld b 20 a λ a=>Bs b 241 1 #[(0,a)] λ a b=>Ap b 241 S a λ a b=>c a b) (c S b)))) (Ld k 369 i λ a=>Cf k 389 #[j,a] λ a b=>aW a λ _ a=>Cd a (Bi b .add 3 X i1 λ a=>d S a b) (d S X b))) (d S X L)))))/\(Bi E .lss 3 v s λ c=>aH E c (λ a b=>a A b) λ s S=>aH S c (λ a b=>a w b) λ w S=>aH S c (λ a b=>Bi b .lss 3 s w λ c=>a c b) λ s w=>Pk c s bf λ c=>Cd c (Ia w 251 H v λ c=>Ld w 369 c λ c=>bH w 369 c λ c s=>Ld s 369 c λ w=>Ia s 251 i A λ i=>Ld s 369 i λ i=>Cf s 433 #[w,i] λ i s=>Cd i (Ld s 369 c λ d=>Bd s 347 #[] λ i=>Mi s 347 i λ i=>Cf s 390 #[j,d,i] λ _ d=>Ld d 369 c λ i=>Cf d 432 #[k,i] λ d i=>aW d λ d _=>Ld i 369 c λ j=>Cf i 432 #[g,j] λ g i=>aW g λ g _=>Ld i 369 c λ c=>Cf i 434 #[a,b,c,d,g] λ a b=>aW a λ a c=>Ap b 323 c c λ _ b=>Lp (∃c:V1,(∀a b,c a b->(Bi b .add 3 v i1 λ c=>Bi b .add 3 A i1 λ d=>Ln b 637 f λ g=>bv b .gtr 3 g i0 (Ia b 637 f i0 λ g=>Ld b 638 g λ g=>Sl b 637 f (some i1) none none λ i=>(p a i g c d b/\W a i g c d b<W e f x v A G)) (p a f nilp c d b/\W a f nilp c d b<W e f x v A G)))/\(Eb b .neq 408 false true a nilp λ d=>Cd d (Nc a<|Ld b 20 a λ a=>Bs b 241 1 #[(0,a)] λ a b=>Ap b 241 e a λ a b=>c a b) (c e b)))) (Ld s 369 c λ a=>Cf s 432 #[g,a] λ a b=>aW a λ _ a=>aH b a (λ a b=>a x b) λ b c=>aH c a (λ a c=>Eb c .neq 638 false true b nilp λ b=>a b c) λ b c=>Pk a b bf λ a=>aH c a (λ a b=>a x b) λ b c=>aH c a (λ a c=>Nc b<|a b c) λ b c=>aH c a (λ a c=>Ld c 369 b λ b=>a b c) λ b c=>aH c a (λ a b=>a H b) λ c g=>aH g a (λ a b=>a v b) λ g i=>aH i a (λ a b=>Ia b 251 c g λ c=>a c b) λ c g=>aH g a (λ a b=>Ld b 369 c λ c=>a c b) λ c g=>aH g a (λ a d=>Cf d 433 #[b,c] λ b c=>a b c) λ b c=>aH c a (λ a c=>Nt c b λ b=>a b c) λ b c=>Pk a b bf λ a=>Cd a (Bi c .add 3 v i1 λ a=>(p e f x a A c/\W e f x a A c<W e f x v A G)) (d e f x v A c))) (d e f x v A w)))) (Lp (∃b:V0,(∀a,b a->(R d a))/\(Ln E 241 e λ c=>bv E .gtr 3 c i0 (Mi E 241 e λ c=>bH E 20 c λ c d=>bC d 411 a 7 408 c λ a=>b a) (b E))))))))/\(Ln w 637 e λ a=>bv w .gtr 3 a i0 (Ia w 637 e i0 λ a=>Ld w 638 a λ a=>Sl w 637 e (some i1) none none λ b=>j b a w) (j e nilp w)))))))
theorem Iz(M:blk h n=aE #[d,e,f,g,i,j,p,q,r,c,dh,nf,s,bf,aB o,co l] 411)(G:MT 411 647 407 16 m I h n o a c K 1 x)(V:K=[]\/∃S,K=[S])(E:aD I h J H){y:Value}(W:aQ h.size J H 619 5 y 0 []){X:Value}(w:∃b,X=bq b 0 0 t)(O:aQ h.size J H 20 1 X 0 [])(Z:∀k∈X.bl,k∉y.bl):ML ⟨m,I,h,n,o,a,c,K,d,e,f,g,i,j,p,q,r,s,l,x,H.size⟩ J (aO (H.push (aV #[n0] 607)) H.size 0 y) X [] []:=by
 have m:=E.sat;have g:=E.size;have C:aD J H J (aO (H.push (aV #[n0] 607)) H.size 0 y):=aP m;have D:=E.trans C;have v:=G.lts;have P:=aF M;have T:∀k∈y.bl,h.size<=k/\k<H.size:=λ k Y=>W.lt Y;have u:∀k∈X.bl,h.size<=k/\k<H.size:=λ k Y=>O.lt Y;refine⟨a,c,K,H.size::y.bl,[],⟨D.weak λ _ _=>False.elim,D.blk M id,G.step D P id λ _ _=>id,V,λ k Y=>.inl Y,O.step C λ _ _=>id,?_,λ k Y=>⟨λ F=>?_,λ F=>?_⟩,λ k Y F=>?_,λ C=>zab,zab⟩⟩
 ·refine⟨y,[],Bk,(W.push _).put2 λ P z=>cW (T P (mem_bl.2 z)),.nil,zab,zab,⟨zab,λ k Y=>c6 Y,λ F=>cW (T H.size F)⟩,λ k Y=>?_⟩;(try simp only[bJ]);rcases List.mem_cons.1 Y with rfl|Y
  ·exact⟨g,zaa,m.fresh bu⟩
  ·have:=T k Y;exact⟨this.1,zaa,W.2 k (mem_bl.1 Y)⟩
 ·have:=v k Y;rcases List.mem_cons.1 F with Q|Q
  ·exact zaa
  ·have:=T k Q;exact zaa
 ·have:=v k Y;have:=u k F;exact zaa
 ·have:=u k Y;rcases List.mem_cons.1 F with Q|Q
  ·exact zaa
  ·exact Z k Y Q
theorem O3{G W:Value}{L:bn}(M:blk h n=aE #[d,e,f,g,i,j,p,q,r,b,dh,nf,s,bf,aB o,co t] 411)(X:∀S∈[d,e,f,g,i,j,p,q,r,s],aG S=true)(mt:MT 411 647 407 16 m I h n o a b K 1 x)(wl:K=[]\/∃S,K=[S])(a0:x.length=4)(a4:m<=h.size)(Y:cO I A)(hl:fF I G L)(w:fF I W z)(T:L.Nodup)(dR:z.Nodup)(bL:L.length<1000000)(bR:z.length<1000000)(a5:L≠[]\/z≠[])(v:aD I h I H)(D:u<=1000000){a6:KV}(hK:∀O a7 J x2 E C V U,aC (λ k=>k=n\/k∈aY o a b K) I h V U->V O=aE #[J] 20->er V J a7->a7.Nodup->a7.length<=L.length+z.length->(∀a8,a8∈a7↔a8∈L\/a8∈z)->blk U n=aE #[d,e,f,g,i,j,p,q,r,E,dh,nf,aB O,bf,aB o,co t] 411->MT 411 647 407 16 m V U n o x2 E C 1 x->(C=[]\/∃S,C=[S])->(∀k∈aY o x2 E C,k∈aY o a b K\/h.size<=k)->a6 n0 U):yc a6 (aB n) (.pointer (some A)) G W (aR z.length) (aR u) H:=by
 have F:=X f zab;have N:=v.sat;have z3:=v.size;have zw:=aF M;unfold yc;refine gw kR zaa (t:=0) (u:=u) rfl rfl zaa zaa λ Q y=>?_;have B:aD I H I (H.push (aV Q 20)):=aP N;have S:=v.trans B;have B:=S.sat;have a9:aQ H.size I (H.push (aV Q 20)) 20 1 (bq H.size 0 0 u) 0 []:=aQ.made (H:=Q) bu Bk (N.fresh bu) (bS y) zaa;have Q:=S.blk M id;refine nL B Q F (Y.mono S.le) (w.mono S.le) dR bR λ pR xR D V Z Q w Z N B v D y=>?_;have W:=B.one;have U:=S.trans w;refine(EQ w.sat B v D).elim λ v D=>?_;have V:=U.trans D.1;have y:=V.blk M id;try simp(disch:=omega)only[go_sem,↓reduceIte,W,cI d5]
 refine nL V.sat y F (Y.mono V.le) (hl.mono V.le) T bL λ pL xL B W y B P F y S W U v=>?_;have aa:=S.one;have ac:=V.trans P;refine(EQ P.sat S W U).elim λ S v=>?_;have U:=ac.trans v.1;have W:=P.le.trans v.1.le;have V:ck S pR (z.map El.val):=(ck.of (bS Z) N).mono (D.1.le.trans W);have sL:ck S pL (L.map El.val):=(ck.of (bS F) y).mono v.1.le;have gR:MG S Q.size z:=D.2.mono W;have N:MG S B.size L:=v.2;have S8:=U.sat;have Z:=((a9.step w λ _ _=>id).step D.1 λ _ _=>id).step P λ _ _=>id;have Z:=Z.step v.1 λ _ _=>id;have W:H.size+1<=B.size:=by have F:=w.size;have w:=D.1.size;have w:=P.size;(try simp only[bJ]at F);exact zaa
 try simp(disch:=omega)only[go_sem,↓reduceIte,aa,cI d5]
 refine gw tG zaa (t:=0) (u:=z.length) rfl rfl zaa zaa λ y D=>?_;refine V.slice.elim λ P W=>W.elim λ F W=>?_;have w:(z.map El.val).length=z.length:=zab;have F:aD S (aO (B.push (aV #[n0] 634)) B.size 0 xL) S ((aO (B.push (aV #[n0] 634)) B.size 0 xL).push (aV y 638)):=aP S8;have v:=U.trans F;have P:aQ (aO (B.push (aV #[n0] 634)) B.size 0 xL).size S ((aO (B.push (aV #[n0] 634)) B.size 0 xL).push (aV y 638)) 638 1 (bq ((aO (B.push (aV #[n0] 634)) B.size 0 xL).size) 0 0 z.length) 0 []:=aQ.made (H:=y) bu Bk (S8.fresh bu) (bS D) zaa;refine rC W.1 w ?_;show wJ a6 (aB n) (.pointer (some A)) G (.slice (some ⟨H.size,0,none⟩) 0 u) pR pL n0 (.slice (some ⟨(aO (B.push (.cells #[n0] 634 (0,0))) B.size 0 xL).size,0,none⟩) 0 z.length) (.int .i64 z.length) (.pointer (some ⟨Q.size,0,none⟩)) (.pointer (some ⟨B.size,0,none⟩)) ((aO (B.push (.cells #[n0] 634 (0,0))) B.size 0 xL).push (.cells y 638 (0,0)));refine LG (n:=B.size) (o:=Q.size) (L:=L) (z:=z) F (Y.mono v.le) (N.mono F.le) (gR.mono F.le) (hl.mono v.le) (sL.mono F.le) (V.mono F.le) T dR bL bR P λ D v v G D W S y w A S S9=>?_;have B:=U.trans y;have ad:=(Z.step y λ _ _=>id).weak (base':=h.size) z3;have y:=w.weak (base':=h.size) U.size;have Z:∀k∈(Value.slice (some ⟨H.size,0,none⟩) 0 u).bl,k∉D.bl:=λ k P U=>by have ae:(Value.slice (some ⟨H.size,0,none⟩) 0 u).bl=[H.size]:=rfl;rw[ae]at P;have:=List.mem_singleton.1 P;have:=(w.lt U).1;(try simp only[bJ]at this);exact zaa
 have H:=Iz (t:=u) M mt wl B y ⟨_,rfl⟩ ad Z;have U:MP.Ok ⟨m,I,h,n,o,a,b,K,d,e,f,g,i,j,p,q,r,s,t,x,G.size⟩:=⟨X,a0,a4,zw,mt.lts⟩;have a:aD v G v (aO (G.push (aV #[n0] 607)) G.size 0 D):=aP S9;have p:=(F.le.trans W);refine LH U H (Y.mono B.le) (N.mono W) (gR.mono W) (hl.mono B.le) (sL.mono W) (V.mono W) T dR bL bR A S λ d o v w f M v ln s=>?_;have w:∀a8,a8∈o↔a8∈L\/a8∈z:=λ a8=>by
  rw[s];constructor
  ·rintro(Q|Q)
   ·exact .inr Q
   ·exact .inl Q.1
  ·rintro(Q|Q)
   ·exact(Classical.em (a8∈z)).imp id λ T=>⟨Q,T⟩
   ·exact zcB
 have n:o≠[]:=by
  rcases a5 with Q|Q
  ·obtain⟨a8,a7,rfl⟩:=List.exists_cons_of_ne_nil Q;exact List.ne_nil_of_mem ((w a8).2 (.inl zab))
  ·obtain⟨a8,a7,rfl⟩:=List.exists_cons_of_ne_nil Q;exact List.ne_nil_of_mem ((w a8).2 (.inr zab))
 exact Gr U M mt.wI n zaa λ O J x2 E C S W t A D K P V X=>hK O o J x2 E C S W t A D v ln w K P V X
theorem kA(p:fF I a z)(Q:R (aR z.length) h):Eb h .neq 338 false true a ni λ g=>Cd g (Iv h a "Length" #[] λ j b=>R j b) (R i0 h):=by
 rcases p with⟨rfl,rfl⟩|⟨q,rfl,p⟩
 ·refine rA ?_;exact Q
 ·obtain⟨B,V,rfl,-⟩:=p;refine rA ?_;refine dW ?_;exact Q
theorem ur(Z:aN I h){W:Value}{L:bn}(hw:blk h n=aE #[c,d,e,f,g,i,j,p,q,b,dh,nf,r,bf,aB o,co l] 411)(X:∀S∈[c,d,e,f,g,i,j,p,q,r],aG S=true)(G:MT 411 647 407 16 m I h n o a b K 1 x)(wl:K=[]\/∃S,K=[S])(a0:x.length=4)(r:m<=h.size)(Y:cO I A)(t:fF I s L)(w:fF I W z)(T:L.Nodup)(dR:z.Nodup)(bL:L.length<1000000)(bR:z.length<1000000)(a1:L≠[]\/z≠[])(hK:∀O H J M E C V U,aC (λ k=>k=n\/k∈aY o a b K) I h V U->V O=aE #[J] 20->er V J H->H.Nodup->H.length<=L.length+z.length->(∀N,N∈H↔N∈L\/N∈z)->blk U n=aE #[c,d,e,f,g,i,j,p,q,E,dh,nf,aB O,bf,aB o,co l] 411->MT 411 647 407 16 m V U n o M E C 1 x->(C=[]\/∃S,C=[S])->(∀k∈aY o M E C,k∈aY o a b K\/h.size<=k)->R n0 U):Cf h 428 #[aB n,.pointer (some A),s,W] R:=by
 apply T7;refine⟨λ J y=>J=aR z.length/\aD I h I y,λ B y F=>?_,kA w ⟨rfl,aC.refl Z⟩⟩;refine⟨λ J N=>J=aR L.length/\aD I h I N,λ P N Q=>?_,kA (t.mono (aK.le.refl _)) ⟨rfl,F.2⟩⟩;refine⟨λ J K=>(∃v:Nat,J=aR v/\v<=1000000)/\aD I h I K,λ p K u=>u.1.elim λ v D=>?_,?_⟩
 ·show yc R (aB n) (.pointer (some A)) s W B p K;rw[F.1,D.1];exact O3 hw X G wl a0 r Y t w T dR bL bR a1 u.2 D.2 hK
 ·by_cases m:L.length<z.length
  ·have t:decide ((L.length:Int)<(z.length:Int))=true:=by simp;exact zaa
   refine rD F.1 Q.1 t ?_;exact⟨⟨z.length,rfl,zaa⟩,Q.2⟩
  ·have t:decide ((L.length:Int)<(z.length:Int))=false:=by simp;exact zaa
   refine rD F.1 Q.1 t ?_;exact⟨⟨L.length,rfl,zaa⟩,Q.2⟩
def CY:(aM h 411 a 0 228 λ c=>Cf h 427 #[a,(aU ⟨#[108,104,115,58,32]⟩),c] λ c d=>aW c λ c _=>bx d 338 c ni (aM d 411 a 10 225 λ e=>Nc e<|aM d 411 a 1 228 λ f=>Cf d 427 #[a,(aU ⟨#[114,104,115,58,32]⟩),f] λ d f=>aW d λ d _=>bx f 338 d ni (aM f 411 a 10 225 λ g=>Nc g<|Eb f .eql 338 false true c ni λ i=>Gd f i false (λ a b=>a c b) λ f j=>Gd j i false (λ a b=>Iv b f "Length" #[] λ b c=>a b c) λ f j=>Gd j i false (λ a b=>Eb b .eql 3 false true f i0 λ c=>a c b) λ f j=>Pk i bt f λ f=>aH j f (λ a b=>a d b) λ i j=>aH j f (λ a b=>Eb b .eql 338 false true i ni λ c=>a c b) λ i j=>aH j f (λ a b=>a i b) λ i j=>Gd j i false (λ a b=>a d b) λ j k=>Gd k i false (λ a b=>Iv b j "Length" #[] λ b c=>a b c) λ j k=>Gd k i false (λ a b=>Eb b .eql 3 false true j i0 λ c=>a c b) λ j k=>aH k f (λ a b=>Pk i bt j λ c=>a c b) λ i j=>Pk f i bf λ f=>aM j 354 b 1 240 λ i=>Eb j .eql 240 false true i (aU ⟨#[97,116,111,109,105,99]⟩) λ i=>Gd j i false (λ a b=>a f b) λ f j=>Pk i bt f λ f=>Cd f (Cf j 423 #[a] λ _ a=>Dg a (cH g d) λ a=>Dg a (cH e c) λ a=>R n0 a) (Eb j .eql 338 false true c ni λ f=>aH j f (λ a b=>a d b) λ i j=>aH j f (λ a b=>Eb b .eql 338 false true i ni λ c=>a c b) λ i j=>Pk f i bf λ f=>Cd f (Dg j (cH g d) λ a=>Dg a (cH e c) λ a=>R n0 a) (Cf j 428 #[a,b,c,d] λ a b=>Dg b (cH g d) λ b=>Dg b (cH e c) λ b=>R a b))) (Eb f .eql 338 false true c ni λ g=>Gd f g false (λ a b=>a c b) λ f i=>Gd i g false (λ a b=>Iv b f "Length" #[] λ b c=>a b c) λ f i=>Gd i g false (λ a b=>Eb b .eql 3 false true f i0 λ c=>a c b) λ f i=>Pk g bt f λ f=>aH i f (λ a b=>a d b) λ g i=>aH i f (λ a b=>Eb b .eql 338 false true g ni λ c=>a c b) λ g i=>aH i f (λ a b=>a g b) λ g i=>Gd i g false (λ a b=>a d b) λ i j=>Gd j g false (λ a b=>Iv b i "Length" #[] λ b c=>a b c) λ i j=>Gd j g false (λ a b=>Eb b .eql 3 false true i i0 λ c=>a c b) λ i j=>aH j f (λ a b=>Pk g bt i λ c=>a c b) λ g i=>Pk f g bf λ f=>aM i 354 b 1 240 λ g=>Eb i .eql 240 false true g (aU ⟨#[97,116,111,109,105,99]⟩) λ g=>Gd i g false (λ a b=>a f b) λ f i=>Pk g bt f λ f=>Cd f (Cf i 423 #[a] λ _ a=>Dg a (cH e c) λ a=>R n0 a) (Eb i .eql 338 false true c ni λ f=>aH i f (λ a b=>a d b) λ g i=>aH i f (λ a b=>Eb b .eql 338 false true g ni λ c=>a c b) λ g i=>Pk f g bf λ f=>Cd f (Dg i (cH e c) λ a=>R n0 a) (Cf i 428 #[a,b,c,d] λ a b=>Dg b (cH e c) λ b=>R a b)))) (aM d 411 a 1 228 λ e=>Cf d 427 #[a,(aU ⟨#[114,104,115,58,32]⟩),e] λ d e=>aW d λ d _=>bx e 338 d ni (aM e 411 a 10 225 λ f=>Nc f<|Eb e .eql 338 false true c ni λ g=>Gd e g false (λ a b=>a c b) λ e i=>Gd i g false (λ a b=>Iv b e "Length" #[] λ b c=>a b c) λ e i=>Gd i g false (λ a b=>Eb b .eql 3 false true e i0 λ c=>a c b) λ e i=>Pk g bt e λ e=>aH i e (λ a b=>a d b) λ g i=>aH i e (λ a b=>Eb b .eql 338 false true g ni λ c=>a c b) λ g i=>aH i e (λ a b=>a g b) λ g i=>Gd i g false (λ a b=>a d b) λ i j=>Gd j g false (λ a b=>Iv b i "Length" #[] λ b c=>a b c) λ i j=>Gd j g false (λ a b=>Eb b .eql 3 false true i i0 λ c=>a c b) λ i j=>aH j e (λ a b=>Pk g bt i λ c=>a c b) λ g i=>Pk e g bf λ e=>aM i 354 b 1 240 λ g=>Eb i .eql 240 false true g (aU ⟨#[97,116,111,109,105,99]⟩) λ g=>Gd i g false (λ a b=>a e b) λ e i=>Pk g bt e λ e=>Cd e (Cf i 423 #[a] λ _ a=>Dg a (cH f d) λ a=>R n0 a) (Eb i .eql 338 false true c ni λ e=>aH i e (λ a b=>a d b) λ g i=>aH i e (λ a b=>Eb b .eql 338 false true g ni λ c=>a c b) λ g i=>Pk e g bf λ e=>Cd e (Dg i (cH f d) λ a=>R n0 a) (Cf i 428 #[a,b,c,d] λ a b=>Dg b (cH f d) λ b=>R a b))) (Eb e .eql 338 false true c ni λ f=>Gd e f false (λ a b=>a c b) λ e g=>Gd g f false (λ a b=>Iv b e "Length" #[] λ b c=>a b c) λ e g=>Gd g f false (λ a b=>Eb b .eql 3 false true e i0 λ c=>a c b) λ e g=>Pk f bt e λ e=>aH g e (λ a b=>a d b) λ f g=>aH g e (λ a b=>Eb b .eql 338 false true f ni λ c=>a c b) λ f g=>aH g e (λ a b=>a f b) λ f g=>Gd g f false (λ a b=>a d b) λ g i=>Gd i f false (λ a b=>Iv b g "Length" #[] λ b c=>a b c) λ g i=>Gd i f false (λ a b=>Eb b .eql 3 false true g i0 λ c=>a c b) λ g i=>aH i e (λ a b=>Pk f bt g λ c=>a c b) λ f g=>Pk e f bf λ e=>aM g 354 b 1 240 λ f=>Eb g .eql 240 false true f (aU ⟨#[97,116,111,109,105,99]⟩) λ f=>Gd g f false (λ a b=>a e b) λ e g=>Pk f bt e λ e=>Cd e (Cf g 423 #[a] λ _ a=>R n0 a) (Eb g .eql 338 false true c ni λ e=>aH g e (λ a b=>a d b) λ f g=>aH g e (λ a b=>Eb b .eql 338 false true f ni λ c=>a c b) λ f g=>Pk e f bf λ e=>Cd e (R n0 g) (Cf g 428 #[a,b,c,d] λ a b=>R a b)))))->Cf h 424 #[a,b] R:=mS Tryz.func424 EC
theorem H4(Q:R (bj ni n0) h):Cf h 427 #[aB m,a,ni] R:=by refine Io (rA ?_);exact Q
theorem wL(Z:aN I h){l z J X:Value}(M:blk h m=aE #[b,c,d,e,f,g,i,j,k,p,q,r,s,l,z,co n] 411)(p:PV I J (.iface 241 X))(Q:∀U,aD I h I U->R (bj (.iface 585 X) n0) U):Cf h 427 #[aB m,a,J] R:=by have ev:∃u,J=.iface 362 u:=za6;obtain⟨u,rfl⟩:=ev;have P:=aF M;refine Io (rB M.c ?_);refine j6 Z p λ y v=>rA ?_;exact Q y v
theorem Bv{base:Nat}(S:aN I h){w sb ab:Nat}{ws:cK}{x pv t0 t1 t2 t3 t4 t5 c12 lv rv:Value}{rows:bW}{a:Addr}{L R:bn}(hw:blk h w=aE #[lv,rv,s,t0,t1,t2,t3,t4,t5,pv,dh,nf,c12,bf,aB sb,co ab] 411)(o1:∀u∈[lv,rv,s,t0,t1,t2,t3,t4,t5,c12],aG u=true)(mt:MT 411 647 407 16 base I h w sb x pv ws 1 rows)(wl:ws=[]\/∃u,ws=[u])(hr4:rows.length=4)(hbase:base<=h.size)(ha:cO I a)(hl:(lv=ni/\L=[])\/∃y,PV I lv (.iface 241 y)/\cd I y 1 L.length (L.map bE)/\L≠[])(hr:(rv=ni/\R=[])\/∃y,PV I rv (.iface 241 y)/\cd I y 1 R.length (R.map bE)/\R≠[])(dL:L.Nodup)(dR:R.Nodup)(bL:L.length<1000000)(bR:R.length<1000000)(hne:L≠[]\/R≠[]){K:KV}(hK:∀ob l v x2 pv2 ws2 J h',aC (λ k=>k=w\/k∈aY sb x pv ws) I h J h'->J ob=aE #[v] 20->er J v l->l.Nodup->l.length<=L.length+R.length->(∀y,y∈l↔y∈L\/y∈R)->blk h' w=aE #[lv,rv,s,t0,t1,t2,t3,t4,t5,pv2,dh,nf,aB ob,bf,aB sb,co ab] 411->MT 411 647 407 16 base J h' w sb x2 pv2 ws2 1 rows->(ws2=[]\/∃u,ws2=[u])->(∀k∈aY sb x2 pv2 ws2,k∈aY sb x pv ws\/h.size<=k)->K n0 h'):Cf h 424 #[aB w,.pointer (some a)] K:=by
 have ha0:=ha;obtain⟨xa,⟨b,e',rfl,hb⟩,hxa⟩:=ha;have c6:∀{h2:Heap},aN I h2->aI h2 b 6=some (aU fb):=λ S2=>by have:=(At.of S2 hb) 6 (aU fb) rfl;exact zai
 have zw:=aF hw;have zl:=mt.lts;have fin:∀{lv' rv':Value}{h1:Heap},fF I lv' L->fF I rv' R->aD I h I h1->∀{K':KV},(∀h',K n0 h'->K' n0 h')->Cf h1 428 #[aB w,aB b,lv',rv'] K':=by intro lv' rv' h1 hl' hr' t1 K' hKK;refine ur t1.sat (t1.blk hw id) o1 (mt.step t1 zw id λ _ _=>id) wl hr4 (Nat.le_trans hbase t1.size) ha0 hl' hr' dL dR bL bR hne λ ob l v x2 pv2 ws2 J h' st job tl nd ln mem bw mt' wl' nw=>hKK h' ?_;exact hK ob l v x2 pv2 ws2 J h' ((t1.weak λ _ _=>False.elim).trans st) job tl nd ln mem bw mt' wl' λ k hk=>(nw k hk).imp id (Nat.le_trans t1.size)
 have len:∀{y:Value}{l:bn},cd I y 1 l.length (l.map bE)->l≠[]->∃ad cap,y=.slice ad l.length cap/\(((l.length:Int)==0)=false):=λ hs hn=>by obtain⟨ad,cap,rfl,-⟩:=hs;refine⟨ad,cap,rfl,?_⟩;have:=List.length_pos_iff.2 hn;simp;exact zaa
 rcases hl with⟨rfl,rfl⟩|⟨yl,hyl,hsl,hnl⟩
 ·rcases hr with⟨rfl,rfl⟩|⟨yr,hyr,hsr,hnr⟩
  ·simp at hne
  ·obtain⟨ad,cap,er,dr⟩:=len hsr hnr;refine CY (rB hw.c ?_);refine H4 ?_;refine rB hw.c ?_;refine wL S hw hyr λ h1 t1=>rE (t1.blk hw id).c (c6 t1.sat) @c7 er ?_;refine dW ?_;refine rE (t1.blk hw id).c (c6 t1.sat) @c7 dr ?_;refine fin (.inl ⟨rfl,rfl⟩) (.inr ⟨_,rfl,er▸hsr⟩) t1 λ h2 h3=>?_;exact cG h3
 ·obtain⟨adl,capl,el,dl⟩:=len hsl hnl;rcases hr with⟨rfl,rfl⟩|⟨yr,hyr,hsr,hnr⟩
  ·refine CY (rB hw.c ?_);refine wL S hw hyl λ h1 t1=>rE (t1.blk hw id).c (c6 t1.sat) @c7 el ?_;refine H4 ?_;refine rE (t1.blk hw id).c (c6 t1.sat) @c7 dl ?_;refine dW ?_;refine rE (t1.blk hw id).c (c6 t1.sat) @c7 dl ?_;refine fin (.inr ⟨_,rfl,el▸hsl⟩) (.inl ⟨rfl,rfl⟩) t1 λ h2 h3=>?_;exact cG h3
  ·obtain⟨ad,cap,er,dr⟩:=len hsr hnr;refine CY (rB hw.c ?_);refine wL S hw hyl λ h1 t1=>rE (t1.blk hw id).c (c6 t1.sat) @c7 el ?_;refine wL t1.sat (t1.blk hw id) (hyr.mono t1.le) λ h2 t2=>rF ((t1.trans t2).blk hw id).c (c6 t2.sat) @c7 dl er ?_;refine dW ?_;refine rF ((t1.trans t2).blk hw id).c (c6 t2.sat) @c7 dl er ?_;refine fin (.inr ⟨_,rfl,el▸hsl⟩) (.inr ⟨_,rfl,er▸hsr⟩) (t1.trans t2) λ h3 h4=>?_;exact cG (T:=λ h37=>Dg h37 _ λ h38=>K n0 h38) (cG h4)
def Ho:(Lk h 586 a c true λ a=>aW a λ a c=>cD h c (R (bj ni bf) h) (Iv h b m4 #[] λ b c=>Cf c 187 #[b,a] λ a b=>R (bj a bt) b))->Cf h 474 #[a,b,c] R:=mS Tryz.func474 (Z (Z (Z (C bG bG))))
def Uf:(Ld h 343 c λ f=>bx h 343 f ni (Ld h 343 c λ c=>Ld h 225 d λ f=>Iv h c "GetUsing" #[f,a] λ c f=>aW c λ c g=>Cd g (Ld f 225 d λ d=>Nc d<|Ld f 510 e λ e=>Cv f e #[a,b,c] λ a b=>Dg b (cH d c) λ b=>R a b) (Ld f 510 e λ c=>Cv f c #[a,b,ni] λ a b=>R a b)) (Ld h 510 e λ c=>Cv h c #[a,b,ni] λ a b=>R a b))->Cf h 486 #[a,b,c,d,e] R:=mS Tryz.func486 (Z (Z (Q (Z (C mM L)) bG)))
def HP:(Ld h 343 c λ e=>Eb h .eql 343 false true e ni λ e=>Gd h e false (λ a b=>Ld b 343 c λ c=>a c b) λ c f=>Gd f e false (λ b c=>b a c) λ f g=>Gd g e false (λ a b=>Iv b c "Has" #[f] λ b c=>a b c) λ c f=>Gd f e false (λ a b=>Nt b c λ c=>a c b) λ c f=>Pk e bt c λ c=>Cd c (Ld f 510 d λ c=>Cv f c #[a,ni,b] λ a b=>R a b) (R (.bool true) f))->Cf h 487 #[a,b,c,d] R:=mS Tryz.func487 oY
def IF:(Bx h 225 a λ a e=>Bx e 343 b λ b e=>Bx e 343 c λ c e=>Bx e 510 d λ d e=>Ld e 343 b λ f=>Eb e .eql 343 false true f ni λ f=>Gd e f false (λ a c=>Ld c 343 b λ b=>a b c) λ e g=>Gd g f false (λ a b=>Iv b e "Empty" #[] λ b c=>a b c) λ e g=>Pk f bt e λ e=>aH g e (λ a b=>Ld b 343 c λ c=>a c b) λ f g=>aH g e (λ a b=>Eb b .eql 343 false true f ni λ c=>a c b) λ f g=>aH g e (λ a b=>a f b) λ f g=>Gd g f false (λ a b=>Ld b 343 c λ c=>a c b) λ g i=>Gd i f false (λ a b=>Iv b g "Empty" #[] λ b c=>a b c) λ g i=>aH i e (λ a b=>Pk f bt g λ c=>a c b) λ f g=>Pk e f bf λ e=>Cd e (R (.bool true) g) (Lp (∃e:V0,(∀f,e f->(Ld f 343 c λ e=>bx f 343 e ni (Ld f 343 c λ c=>Ld f 225 a λ a=>Iv f c "IterateUsing" #[a,(.func (.func 487) #[] #[b,d])] λ a b=>R a b) (R (.bool true) f)))/\(Ld g 343 b λ f=>bx g 343 f ni (Ld g 343 b λ b=>Ld g 225 a λ f=>Iv g b "IterateUsing" #[f,(.func (.func 486) #[] #[c,a,d])] λ a b=>cD b a (R (.bool false) b) (e b)) (e g)))))->Cf h 484 #[a,b,c,d] R:=mS Tryz.func484 (Z (Q cg (Y [] (Z (C mM L)) nK)))
def UE:(ce h 509 d i0 (Cf h 484 #[a,b,c,e] λ a b=>R a b) (ce h 509 d i1 (Cf h 485 #[a,b,c,e] λ a b=>R a b) (Mi h 9 (dO 0x556e737570706f72746564206d6170206f72646572) λ _=>False)))->Cf h 483 #[a,b,c,d,e] R:=mS Tryz.func483 (Z (Z (B z6)))
def Uz:(Mi h 586 a λ a=>Cf h 483 #[b,a,c,d,e] λ a b=>R a b)->Cf h 481 #[a,b,c,d,e] R:=mS Tryz.func481 cX
theorem N6:fO 486=true:=zag
theorem E5:fO 487=true:=zag
theorem My(G:Value):cC (#[eA G]:fP).toList bA=some G:=by rfl
theorem sI(G:Value):cC [eA G] bA=some G:=rfl
theorem On:cC [] bA=none:=rfl
def ge(T:aK)(W:Nat)(s:Option Value):Prop:=match s with|none=>T W=some (.map #[] 0)|some G=>T W=some (.map #[eA G] 1)/\aG G=true
theorem ge.mono(O:I.le J){r:Nat}{s:Option Value}(B:ge I r s):ge J r s:=by cases s with|none=>exact O _ _ B|some G=>exact⟨O _ _ B.1,B.2⟩
theorem gC(Z:aN I h){s:Option Value}(w:ge I m s)(L:R (.bool s.isNone) h):Cf h 470 #[.map (some m)] R:=by cases s with|none=>apply DJ;exact zbf|some G=>apply DJ;exact zcg
theorem v9(Z:aN I h){s:Option Value}(w:ge I m s)(L:R (.bool s.isSome) h):Cf h 475 #[.map (some m),aU bA] R:=by
 cases s with
  |none=>
   apply IH;try simp(disch:=omega)only[go_sem,↓reduceIte,hN mu (bI (Z _ _ w)) zab]
   exact L
  |some G=>
   apply IH;try simp(disch:=omega)only[go_sem,↓reduceIte,hN mu (bI (Z _ _ w.1)) (jh G).1,My]
   exact L
theorem Fw(Z:aN I h){s:Option Value}(w:ge I m s)(q:s=none->R (bj ni bf) h)(y:∀G J V U,s=some G->aD I h V U->PV V J G->R (bj J bt) U):Cf h 474 #[.map (some m),co n,aU bA] R:=by
 cases s with
  |none=>
   apply Ho;try simp(disch:=omega)only[go_sem,↓reduceIte,hN mu (bI (Z _ _ w)) zab,On,Option.getD_none,implies_true]
   exact q rfl
  |some G=>
   have l:=w.2;apply Ho;try simp(disch:=omega)only[go_sem,↓reduceIte,hN mu (bI (Z _ _ w.1)) (jh G).1,sI,Option.getD_some,implies_true]
   refine iJ Z λ N P H=>rA ?_;refine iB H l ?_;refine rA ?_;have f:=aC.one (show aD I h I (aO N h.size 0 G)from bX Z P) (b:=h.size) bu;exact y G _ _ _ rfl f.1 ⟨h.size,432,rfl,aK.one_eq (bz H)⟩
theorem zY{g:Nat->Prop}{P:aK->Heap->Prop}(Z:aN I h){u:Option Value}{bs:cQ}(f:ge I m u)(w:ge I n (some a))(q:∀k,g k->k<h.size)(V:∀c W A y,aD I h A y->((u=none/\c=ni)\/∃G,u=some G/\PV A c G)->PV A W a->∀T:KV,(∀z N,aC g A y z N->P z N->T bt N)->Cv y (.func (.func l) #[] bs) #[aU bA,c,W] T)(L:∀z N j K,aC g I h z N->P z N->aD z N j K->R bt K):Cf h 484 #[co o,.iface 586 (.map (some m)),.iface 586 (.map (some n)),.func (.func l) #[] bs] R:=by
 have B:aD I h I ((((h.push (aV #[co o] 225)).push (aV #[.iface 586 (.map (some m))] 343)).push (aV #[.iface 586 (.map (some n))] 343)).push (aV #[.func (.func l) #[] bs] 510)):=aP Z;obtain⟨R,Z,b0,x,H,J⟩:∃R,aD I h R ((((h.push (aV #[co o] 225)).push (aV #[.iface 586 (.map (some m))] 343)).push (aV #[.iface 586 (.map (some n))] 343)).push (aV #[.func (.func l) #[] bs] 510))/\R h.size=aE #[co o] 225/\R (h.size+1)=aE #[.iface 586 (.map (some m))] 343/\R (h.size+1+1)=aE #[.iface 586 (.map (some n))] 343/\R (h.size+1+1+1)=aE #[.func (.func l) #[] bs] 510:=by have Z:=B.freeze (λ k=>decide (h.size<=k)) λ k Y=>.inl (of_decide_eq_true Y);have ev:∀k X,h.size<=k->blk ((((h.push (aV #[co o] 225)).push (aV #[.iface 586 (.map (some m))] 343)).push (aV #[.iface 586 (.map (some n))] 343)).push (aV #[.func (.func l) #[] bs] 510)) k=some X->(I.add (λ k=>decide (h.size<=k)) _) k=some X:=λ k X Y j=>za7;exact⟨_,Z,ev _ _ zaa Bk,ev _ _ zaa Bk,ev _ _ zaa Bk,ev _ _ zaa Bk⟩
 have O:=Z.sat;have d:=f.mono Z.le;have U:=w.mono Z.le;have i:∀k,g k->k<((((h.push (aV #[co o] 225)).push (aV #[.iface 586 (.map (some m))] 343)).push (aV #[.iface 586 (.map (some n))] 343)).push (aV #[.func (.func l) #[] bs] 510)).size:=λ k Y=>Nat.lt_of_lt_of_le (q k Y) Z.size;cases u with
  |none=>
   refine IF (rA ?_);refine gC O d ?_;refine rA ?_;refine gC O U ?_;refine rA ?_;refine⟨λ Q=>((((h.push (aV #[co o] 225)).push (aV #[.iface 586 (.map (some m))] 343)).push (aV #[.iface 586 (.map (some n))] 343)).push (aV #[.func (.func l) #[] bs] 510))=Q,λ Q b=>?_,?_⟩
   ·subst b;refine rA ?_;refine gA (g:=g) O U.1 U.2 i λ K A y v p T j=>?_;have X:=v.sat;rw[ej E5];show Cf y 487 #[aU bA,K,aB (h.size+1),aB (h.size+1+1+1)] T;refine HP (rE (X _ _ (v.le _ _ b0)).c (X _ _ (v.le _ _ x)).c (X _ _ (v.le _ _ H)).c (X _ _ (v.le _ _ J)).c ?_);refine v9 X (d.mono v.le) ?_;refine rE (X _ _ (v.le _ _ b0)).c (X _ _ (v.le _ _ x)).c (X _ _ (v.le _ _ H)).c (X _ _ (v.le _ _ J)).c ?_;refine V ni K A y (Z.trans v) (.inl ⟨rfl,rfl⟩) p _ λ z N w E=>?_;exact j z N w (L z N z N (((Z.trans v).weak λ _ _=>False.elim).trans w) E (aC.refl w.sat))
   ·refine rA ?_;refine l3 O d ?_;try simp(disch:=omega)only[go_sem,↓reduceIte]
  |some G=>
   refine IF (rA ?_);refine gC O d ?_;refine rA ?_;refine⟨λ Q=>∃z,aC g R ((((h.push (aV #[co o] 225)).push (aV #[.iface 586 (.map (some m))] 343)).push (aV #[.iface 586 (.map (some n))] 343)).push (aV #[.func (.func l) #[] bs] 510)) z Q/\P z Q,λ Q F=>?_,?_⟩
   ·refine F.elim λ z F=>?_;have S5:=F.1.sat;have r:=F.1.le;refine rE (S5 _ _ (r _ _ b0)).c (S5 _ _ (r _ _ x)).c (S5 _ _ (r _ _ H)).c (S5 _ _ (r _ _ J)).c ?_;refine gA (g:=none_) S5 (U.mono r).1 U.2 (λ _=>False.elim) λ K A y v p T j=>?_;have X:=v.sat;have S:=r.trans v.le;rw[ej E5];show Cf y 487 #[aU bA,K,aB (h.size+1),aB (h.size+1+1+1)] T;refine HP (rE (X _ _ (S _ _ b0)).c (X _ _ (S _ _ x)).c (X _ _ (S _ _ H)).c (X _ _ (S _ _ J)).c ?_);refine v9 X (d.mono S) ?_;refine rE (X _ _ (S _ _ b0)).c (X _ _ (S _ _ x)).c (X _ _ (S _ _ H)).c (X _ _ (S _ _ J)).c ?_;exact j A y (aC.refl X) (L z Q A y ((Z.weak λ _ _=>False.elim).trans F.1) F.2 v)
   ·refine rA ?_;refine gA (g:=g) O d.1 d.2 i λ K A y v p T j=>?_;have X:=v.sat;rw[ej N6];show Cf y 486 #[aU bA,K,aB (h.size+1+1),aB h.size,aB (h.size+1+1+1)] T;refine Uf (rE (X _ _ (v.le _ _ b0)).c (X _ _ (v.le _ _ x)).c (X _ _ (v.le _ _ H)).c (X _ _ (v.le _ _ J)).c ?_);refine Fw X (U.mono v.le) (λ C=>absurd C zab) λ Q W e T l M O=>?_;have s:a=Q:=bS l;have c:=M.sat;have L:=v.le.trans M.le;refine rE (c _ _ (L _ _ b0)).c (c _ _ (L _ _ x)).c (c _ _ (L _ _ H)).c (c _ _ (L _ _ J)).c ?_;refine V K W e T ((Z.trans v).trans M) (.inr ⟨G,rfl,p.mono M.le⟩) (s.symm▸O) _ λ z N w E=>?_;refine cG ?_;refine j z N ((M.weak λ _ _=>False.elim).trans w) ?_;refine rA ?_;exact⟨z,(((v.trans M).weak λ _ _=>False.elim).trans w),E⟩
theorem Aq{g:Nat->Prop}{P:aK->Heap->Prop}(Z:aN I h){u:Option Value}{bs:cQ}(f:ge I m u)(w:ge I n (some a))(q:∀k,g k->k<h.size)(V:∀c W A y,aD I h A y->((u=none/\c=ni)\/∃G,u=some G/\PV A c G)->PV A W a->∀T:KV,(∀z N,aC g A y z N->P z N->T bt N)->Cv y (.func (.func l) #[] bs) #[aU bA,c,W] T)(L:∀z N j K,aC g I h z N->P z N->aD z N j K->R bt K):Cf h 481 #[.map (some m),co o,.iface 586 (.map (some n)),i0,.func (.func l) #[] bs] R:=by refine Uz (rA ?_);refine UE (rA ?_);exact zY Z f w q V L
def Se:(Bx h 9 d λ d g=>aM g 359 b 2 95 λ i=>bH g 95 i λ g i=>Lp (∃j:V0,(∀b,j b->(Bd b 369 #[(0,d)] λ i=>bH b 369 i λ b i=>Ld i 369 b λ b=>Ld i 95 g λ g=>Cf i 440 #[a,b,g] λ b g=>bC g 411 b 0 228 e λ e=>bC e 411 b 1 228 f λ e=>Cf e 216 #[b,nf] λ e f=>Ap f 323 n0 e λ e f=>Lp (∃g:V0,(∀c,g c->(Cf c 441 #[a,b] λ _ a=>R e a))/\(aM f 411 b 7 408 λ a=>bx f 408 a nilp (Ld f 9 d λ a=>aM f 411 b 7 408 λ b=>Nc b<|Ld f 20 b λ b=>Mu f 242 c a b λ a=>g a) (g f)))))/\(Ld i 9 d λ a=>Cf i 220 #[b,a] λ a b=>aW a λ a c=>bH b 417 a λ a b=>Cd c (Fa b 417 a 1 λ a=>Ld b 95 a λ a=>Sr b 95 g a λ a=>j a) (j b))))->Cf h 436 #[a,b,c,d,e,f] R:=mS Tryz.func436 (Z (Z (Y [] jb (Z (Z (Z (Z (Z (Y [] (Z (C (X #[0,0,0,4,12,28,60,124,255]) L)) cX)))))))))
def LW(T:aK)(J:Value)(L:bn):Prop:=(J=ni/\L=[])\/∃q,PV T J (.iface 241 q)/\cd T q 1 L.length (L.map bE)/\L≠[]
theorem LW.mono(O:I.le J){L:bn}(B:LW I a L):LW J a L:=B.imp id λ⟨q,w,A,v⟩=>⟨q,w.mono O,A.mono O,v⟩
theorem LW.pvn{L:bn}(B:LW I a L):jW I a:=B.imp (·.1) λ⟨q,w,_⟩=>⟨_,.lst,w⟩
theorem LW.one{L:bn}(B:LW I a L):aG a=true:=by rcases B with⟨rfl,-⟩|⟨q,⟨b,C,rfl,-⟩,-⟩<;>rfl
theorem LW.nn{L:bn}(B:LW I a L)(u:L≠[]):a≠ni:=by
 rcases B with⟨rfl,rfl⟩|⟨q,w,-⟩
 ·simp at u
 ·exact w.ne
theorem AL{T:aK}(Z:aN T h){A:Value}{B:Addr}{L:bn}(j:blk h n=aE #[d,e,A,nilp,nilp,.pointer (some B),nilp,nilp,bf,c,dh,nf,nilp,bf,aB o,co l] 411)(F:aG A=true)(X:MT 411 647 407 16 m T h n o b c K 1 x)(W:K=[]\/∃S,K=[S])(t:x.length=4)(r:m<=h.size)(Y:cO T B)(f:LW T d L)(w:LW T e z)(D:L.Nodup)(p:z.Nodup)(bL:L.length<1000000)(g:z.length<1000000)(i:z≠[])(Q:∀O H J M E C V U,aC (λ k=>k=n\/k∈aY o b c K) T h V U->V O=aE #[J] 20->er V J H->H.Nodup->H.length<=L.length+z.length->(∀q,q∈H↔q∈L\/q∈z)->blk U n=aE #[d,e,A,nilp,nilp,.pointer (some B),nilp,nilp,bf,E,dh,nf,aB O,bf,aB o,co l] 411->MT 411 647 407 16 m V U n o M E C 1 x->(C=[]\/∃S,C=[S])->(∀k∈aY o M E C,k∈aY o b c K\/h.size<=k)->R n0 U):Cf h 216 #[aB n,nf] R:=by
 refine lK (G:=.li) (A:=B) Z j (hB (I:=T) (a:=A) (r:=.li) (A:=B)) f.pvn w.pvn (.inr (w.nn i)) (λ U G=>yH G.sat (Y.mono G.le)) λ y v l n=>?_;have q:=v.blk j id;have P:=aF j;have u:=f.one;have N:=w.one;refine rA ?_;refine Bv v.sat q ?_ (X.step v P id λ _ _=>id) W t (Nat.le_trans r v.size) (Y.mono v.le) (f.mono v.le) (w.mono v.le) D p bL g (.inr i) λ O H J M E C V U K A D u ln F j W i e=>?_
 ·intro S X;simp only[List.mem_cons,List.not_mem_nil,or_false]at X;rcases X with rfl|rfl|rfl|rfl|rfl|rfl|rfl|rfl|rfl|rfl<;>first|rfl|assumption
 ·exact n U _ j rfl ⟨false,rfl⟩ (Q O H J M E C V U ((v.weak λ _ _=>False.elim).trans K) A D u ln F j W i λ k Y=>(e k Y).imp id (Nat.le_trans v.size))
theorem Ae(E:aD I h I H)(j:blk H m=aE #[aU S] 9)(Y:h.size<=m):∃V,aD I h V (aO (aO (aO (aO (H.push (aV #[nilp,nilp,nilp,nilp] 369)) H.size 0 (aB m)) H.size 1 nilp) H.size 2 nilp) H.size 3 nilp)/\bM V [aB m,nilp,nilp,nilp] (.fld S):=by have Z:=E.sat;have e:=aF j;have z:=E.size;have C:aD I H I (aO (aO (aO (aO (H.push (aV #[nilp,nilp,nilp,nilp] 369)) H.size 0 (aB m)) H.size 1 nilp) H.size 2 nilp) H.size 3 nilp):=aP Z;have K:=(E.trans C).one (b:=m) Y;exact⟨_,K.1,rfl,m,rfl,9,aK.one_eq (bz j)⟩
set_option maxHeartbeats 1000000 in theorem yB{a0:Nat}(Z:aN I h){E:Nat}{a1 P:Addr}{L:bn}(B:fl I A a)(hf:cd I a 8 2 (c9 bA .li a1++c9 bB .li P))(hx:cO I a1)(M:blk h E=aE #[b,c,d,i,j,p,q,r,s,n0,dh,nf,nilp,bf,nilp,co l] 411)(N:I E=none)(X:∀S∈[b,c,d,i,j,p,q,r,s],aG S=true)(a2:blk h m=some (.map #[] 0))(a:I m=none)(G:E≠m)(a3:a0<=h.size)(hl:LW I f L)(hr:LW I g z)(dL:L.Nodup)(dR:z.Nodup)(bL:L.length<1000000)(bR:z.length<1000000)(a4:z≠[])(hK:∀a5 H C y V U,aC (λ k=>k=E\/k=m) I h V U->er V a5 H->H.Nodup->H.length<=L.length+z.length->(∀P,P∈H↔P∈L\/P∈z)->blk U E=aE #[b,c,d,i,j,p,q,r,s,C,dh,nf,nilp,bf,aB y,co l] 411->V E=none->blk U m=some (.map #[eA a5] 1)->V m=none->R n0 U):Cf h 436 #[aB E,.pointer (some A),.map (some m),aU bA,f,g] R:=by
 have a6:=B;obtain⟨J,W,rfl,O⟩:=B;have u:=Z.dom O;have P:=aF M;have V:=aF a2;have u:=hl.one;have A:=hr.one;have J:=X b zab;have T:=X c zab;have z:=X d zab;have U:=X i zab;have Y:=X j zab;have b:=X p zab;have Q:=X q zab;have T:=X r zab;have r:=X s zab;refine Se (rB (Z _ _ O).c ?_);refine⟨λ t=>aD I h I t/\blk t h.size=aE #[aU bA] 9/\blk t (h.size+1)=aE #[nilp,nilp,.pointer (some a1),nilp,nilp,bf] 95,λ t F=>?_,?_⟩
 ·have O:=F.1.sat;have K:=aF F.2.1;have W:=aF F.2.2;refine(Ae F.1 F.2.1 bu).elim λ R K=>rC F.2.1.c F.2.2.c ?_;refine pX (L:=a0) (o:=E) (a:=ni) (a0:=[]) (x:=[]) (a2:=0) (G:=.fld bA) (w:=[aB h.size,nilp,nilp,nilp]) K.1.sat (K.1.blk M id) ((K.1.dom E P id).trans N) ?_ ?_ (.inl ⟨rfl,rfl,rfl,rfl,zap⟩) (aQ.nil ..) zaa K.2 (Nat.le_trans a3 K.1.size) λ J y M C Q j i B W b _=>?_
  ·intro S O;simp only[List.mem_cons,List.not_mem_nil,or_false]at O;rcases O with rfl|rfl|rfl|rfl|rfl|rfl|rfl|rfl|rfl|rfl|rfl|rfl|rfl|rfl<;>first|assumption|rfl
  ·intro S O;exact zao
  have p:blk Q J=aE #[ni,ni,d,nilp,nilp,.pointer (some a1),nilp,nilp,bf,C,dh,nf,nilp,bf,aB y,co l] 411:=B;have S5:=j.sat;have c:h.size<=t.size:=F.1.size;have c:=K.1.size;have P:aC (λ k=>k=E) I h R Q:=aC.trans' (K.1.weak λ _ _=>False.elim) j λ k Y F=>zbo;have N:∀k∈J::aY y M C [],h.size<=k:=λ k Y=>by
   rcases b k Y with Q|Q
   ·exact zca
   ·exact zaa
  have U:h.size<=J:=N J zab;refine rD p.b u A ?_;have T:=aC.put (o:=1) (v:=g) (aC.put (o:=0) (v:=f) (aC.refl (D:=Eq J) S5) (.inr rfl) W.w3I) (.inr rfl) W.w3I;have c:blk (aO (aO Q J 0 f) J 1 g) J=aE #[f,g,d,nilp,nilp,.pointer (some a1),nilp,nilp,bf,C,dh,nf,nilp,bf,aB y,co l] 411:=bz B;have b:J∉aY y M C []:=(List.nodup_cons.1 (List.nodup_cons.1 W.nd).2).1;have g:=W.step T (aF i) (aF B) (λ C=>W.wn.1 C.symm) W.w3I (λ k Y C=>b (C▸Y));have b:=T.blk i (λ C=>W.wn.1 C.symm);have r:=K.1.le;refine AL (m:=a0) T.sat c z g.mt (.inl rfl) rfl (Nat.le_trans a3 (Nat.le_trans P.size T.size)) (hx.mono r) (hl.mono r) (hr.mono r) dL dR bL bR a4 λ O H a5 d l i p B u a7 c nd ln s z X a8 f=>?_;have U:=u.sat;have t:∀k∈aY y d l i,h.size<=k:=λ k Y=>by
   rcases f k Y with Q|Q
   ·exact N k (c6 Q)
   ·have:=P.size;(try simp only[bJ]at Q);exact zaa
  have O:aC (λ k=>k=E) I h p B:=(P.trans' T λ k Y F=>zaa).trans' u λ k Y F=>by
   rcases F with F|F
   ·exact zaa
   ·have:=N k (c6 F);exact zaa
  have A:=O.blk a2 (λ C=>G C.symm);have q:p m=none:=(O.dom m V (λ C=>G C.symm)).trans a;have a:E∉aY y d l i:=λ F=>cW (t E F);have f:m∉aY y d l i:=λ F=>cW (t m F);have J:=u.blk b (λ F=>by
   rcases F with F|F
   ·exact zaa
   ·have:=N E (c6 F);exact zaa);have l:p E=none:=(u.dom E (aF b) (λ F=>by
   rcases F with F|F
   ·exact zaa
   ·have:=N E (c6 F);exact zaa)).trans g.wI;have d:∀C,R h.size=aE #[aU bA] C->aI B h.size 0=some (aU bA):=λ C N=>aA (U _ _ ((T.le.trans u.le) _ _ (j.le _ _ N))) 0;refine K.2.key λ r P=>?_;have R:=d r P;obtain⟨M,rfl,T⟩:=c;have Q:aC (λ k=>k=E\/k=m) I h p (hset B m (.map #[eA (.iface 241 M)] 1)):=(O.weak λ k _ F=>.inl F).setMap (.inr (.inr rfl)) q;have P:aC (λ k=>k=m) p B p (hset B m (.map #[eA (.iface 241 M)] 1)):=(aC.refl U).setMap (.inr rfl) q;have V:=X.step P (aF z) zaa (λ k Y C=>f (C▸Y));have b:=V.ms (t:=E) zaa a l W.w3b;have O:=P.blk J G;have K:=P.blk z zaa;have i:blk (hset B m (.map #[eA (.iface 241 M)] 1)) m=some (.map #[eA (.iface 241 M)] 1):=de (aF A);try simp(disch:=omega)only[go_sem,↓reduceIte,cI d5]
  refine⟨λ W=>hset B m (.map #[eA (.iface 241 M)] 1)=W,λ W c=>?_,?_⟩
  ·subst c;refine CE (x:=[]) (w:=[aB h.size,nilp,nilp,nilp]) P.sat O K rfl rfl rfl b (Nat.le_trans a3 Q.size) (by rcases a8 with rfl|⟨S,rfl⟩<;>simp) λ X P K a V r _=>?_;have c:=Q.trans' a λ k Y F=>by
    rcases F with F|F
    ·exact zcp
    ·have:=t k F;exact zaa
   exact hK _ H P y p K c ⟨M,rfl,T⟩ nd ln s V l (a.blk i λ F=>F.elim (λ C=>G C.symm) f) q
  ·refine rD z.c (U _ _ a7).c R ?_;refine(gy mJ (bI A) (cP.nil 0)).mpr ?_;rfl
 refine rA ?_;refine eo (show aD I h I _ from aP Z).sat a6 hf λ N H=>?_;have C:aD I h I N:=aC.trans (aP Z) H;have W:=C.sat;have g:=H.size;(try simp only[bJ]at g);have m:blk N h.size=aE #[aU bA] 9:=H.blk Bk id;have J:blk N (h.size+1)=aE #[nilp,nilp,nilp,nilp,nilp,bf] 95:=H.blk Bk id;refine rB J.b ?_;exact⟨bX Z C,bz m,bz J⟩
def U6:(Ld h 323 d λ i=>Ld h 407 e λ e=>Ld h 90 f λ f=>Ld h 242 g λ g=>Cf h 436 #[e,f,g,a,b,c] λ a b=>bh b 323 d i/\(Ap b 323 i a λ a b=>Sr b 323 d a λ a=>R (.bool true) a))->Cf h 435 #[a,b,c,d,e,f,g] R:=mS Tryz.func435 P6
def RV:(Bx h 407 a λ a e=>Bx e 90 b λ b e=>Al e 323 λ e f=>Ag f (Instr.makeMap 242 none) λ f g=>bH g 242 f λ f g=>Ld g 407 a λ i=>aM g 411 i 10 225 λ i=>Cf g 288 #[i,c,d,i0,(.func (.func 435) #[] #[e,a,b,f])] λ _ b=>Lp (∃c:V0,(∀a,c a->(Ld a 323 e λ b=>Sr a 323 e b λ a=>Rv a 323 e λ b=>R b a))/\(Ld b 242 f λ d=>Ln b 242 d λ d=>bv b .gtr 3 d i0 (Ld b 242 f λ d=>Mi b 242 d λ d=>bH b 20 d λ b d=>Ld d 407 a λ a=>bC d 411 a 7 408 b λ a=>c a) (c b))))->Cf h 430 #[a,b,c,d] R:=mS Tryz.func430 (Z (Z (Z Bn)))
def Sp:(ce h 228 c ni (R (bj ni n0) h) (aM h 411 a 10 225 λ a=>Cf h 329 #[a,c] λ a b=>aW a λ a c=>bx b 109 c ni (Cf b 194 #[(aU ⟨#[101,114,114,111,114]⟩)] λ a b=>R (bj ni a) b) (R (bj a n0) b)))->Cf h 429 #[a,b,c] R:=mS Tryz.func429 E2
def dE(T:aK)(x:Option Nat)(L:bn):Prop:=∃W,x=some W/\((L=[]/\T W=some (.map #[] 0))\/(L≠[]/\∃G,T W=some (.map #[eA G] 1)/\er T G L))
theorem dE.mono(O:I.le J){x:Option Nat}{L:bn}(B:dE I x L):dE J x L:=by obtain⟨r,C,B⟩:=B;exact⟨r,C,B.imp (λ u=>⟨u.1,O _ _ u.2⟩) λ u=>⟨u.1,u.2.elim λ G l=>⟨G,O _ _ l.1,l.2.mono O⟩⟩⟩
structure WR where
 w:Nat
 ab:Nat
 rl:Value
 rr:Value
 s:Value
 t0:Value
 t1:Value
 t2:Value
 t3:Value
 t4:Value
 t5:Value
abbrev WR.cell(p:WR)(i V z:Value):Obj:=aV #[p.rl,p.rr,p.s,p.t0,p.t1,p.t2,p.t3,p.t4,p.t5,i,dh,nf,V,bf,z,co p.ab] 411
structure MZ(q:WR)(mo eb:Nat)(L R:bn)(J:aK)(h:Heap)(v:Value)(l:bn)(pv:Value)(sb:Nat):Prop where
 tl:er J v l
 nd:l.Nodup
 ln:l.length<=L.length+R.length
 mem:∀y,y∈l↔y∈L\/y∈R
 bw:blk h q.w=some (q.cell pv nilp (aB sb))
 jw:J q.w=none
 bm:blk h mo=some (.map #[eA v] 1)
 jm:J mo=none
 be:blk h eb=aE #[n0] 323
 je:J eb=none
theorem MZ.pur{p:WR}{L:bn}(B:MZ p m n L z I h a y b o)(G:aD I h J H):MZ p m n L z J H a y b o:=⟨B.tl.mono G.le,B.nd,B.ln,B.mem,G.blk B.bw id,(G.dom _ (aF B.bw) id).trans B.jw,G.blk B.bm id,(G.dom _ (aF B.bm) id).trans B.jm,G.blk B.be id,(G.dom _ (aF B.be) id).trans B.je⟩
theorem DY(Z:aN I h)(p:WR){J V:Nat}{X q:Addr}{L:bn}(B:fl I A a)(C:cd I a 8 2 (c9 bA .li X++c9 bB .li q))(i:cO I X)(M:blk h p.w=some (p.cell n0 nilp nilp))(G:I p.w=none)(d:∀S∈[p.rl,p.rr,p.s,p.t0,p.t1,p.t2,p.t3,p.t4,p.t5],aG S=true)(K:blk h n=some (.map #[] 0))(F:I n=none)(W:p.w≠n)(r:m<=h.size)(Y:blk h o=aE #[n0] 323)(O:I o=none)(D:p.w≠o)(e:n≠o)(s:I l=aE #[aB p.w] v)(x:I t=aE #[.pointer (some A)] J)(T:I u=aE #[.map (some n)] V)(f:LW I b L)(w:LW I c z)(P:L.Nodup)(j:z.Nodup)(N:L.length<1000000)(g:z.length<1000000)(a0:z≠[])(Q:∀J H E y V U,aC (λ k=>k=p.w\/k=n\/k=o) I h V U->MZ p n o L z V U J H E y->R bt U):Cf h 435 #[aU bA,b,c,aB o,aB l,aB t,aB u] R:=by
 refine U6 (rE Y.c (Z _ _ s).c (Z _ _ x).c (Z _ _ T).c ?_);refine yB Z B C i M G d K F W r f w P j N g a0 λ J H E y V N M c v ln s j A r h=>?_;have P:=M.blk Y (λ F=>F.elim (λ C=>D C.symm) λ C=>e C.symm);have W:V o=none:=(M.dom o (aF Y) (λ F=>F.elim (λ C=>D C.symm) λ C=>e C.symm)).trans O;have O:aO N o 0 n0=N:=eM P rfl;try simp(disch:=omega)only[go_sem,↓reduceIte,aA P,aS P,cI d5]
 have n:=Q J H E y V N (M.weak λ k _ F=>F.imp id .inl) ⟨c,v,ln,s,j,A,r,h,P,W⟩;rw[O];exact n
def Vd:(Bx h 510 e λ e f=>bx f 343 b ni (Ld f 510 e λ e=>Iv f b "ZipUsing" #[a,c,d,e] λ a b=>R a b) (bx f 343 c ni (Iv f c "ZipUsing" #[a,b,d,(.func (.func 290) #[] #[e])] λ a b=>R a b) (R (.bool true) f)))->Cf h 288 #[a,b,c,d,e] R:=mS Tryz.func288 Ew
theorem qW{g:Nat->Prop}{P:aK->Heap->Prop}(Z:aN I h){u:Option Value}{bs:cQ}(f:ge I m u)(w:ge I n (some a))(q:∀k,g k->k<h.size)(V:∀c W A y,aD I h A y->((u=none/\c=ni)\/∃G,u=some G/\PV A c G)->PV A W a->∀T:KV,(∀z N,aC g A y z N->P z N->T bt N)->Cv y (.func (.func l) #[] bs) #[aU bA,c,W] T)(L:∀z N j K,aC g I h z N->P z N->aD z N j K->R bt K):Cf h 288 #[co o,.iface 586 (.map (some m)),.iface 586 (.map (some n)),i0,.func (.func l) #[] bs] R:=by have s:aD I h I (h.push (aV #[.func (.func l) #[] bs] 510)):=aP Z;refine Vd (rA ?_);refine Aq (P:=P) s.sat f w (λ k Y=>Nat.lt_of_lt_of_le (q k Y) s.size) (λ c W A y G=>V c W A y (s.trans G)) λ z N j K I l r=>?_;exact L z N j K ((s.weak λ _ _=>False.elim).trans I) l r
theorem Oo:fO 435=true:=zag
theorem yd{L:bn}(p:PV I a b)(l:er I b L)(e:L≠[]):LW I a L:=by obtain⟨q,rfl,s⟩:=l;exact .inr ⟨q,p,s,e⟩
set_option maxHeartbeats 1000000 in theorem qu{N:Nat}(C:aN I h)(p:WR){X q:Addr}{s t:Option Nat}{L:bn}(B:fl I A a)(K:cd I a 8 2 (c9 bA .li X++c9 bB .li q))(i:cO I X)(M:blk h p.w=some (p.cell n0 nilp nilp))(G:I p.w=none)(o1:∀S∈[p.rl,p.rr,p.s,p.t0,p.t1,p.t2,p.t3,p.t4,p.t5],aG S=true)(r:N<=h.size)(f:dE I s L)(w:dE I t z)(dL:L.Nodup)(dR:z.Nodup)(bL:L.length<1000000)(g:z.length<1000000)(e:z≠[])(hK:∀O S H E y V U,aC (Eq p.w) I h V U->V O=aE #[S] 20->dM V S H->H.Nodup->H.length<=L.length+z.length->(∀q,q∈H↔q∈L\/q∈z)->blk U p.w=some (p.cell E (aB O) (aB y))->V p.w=none->R n0 U):Cf h 430 #[aB p.w,.pointer (some A),.iface 586 (.map s),.iface 586 (.map t)] R:=by
 have O:=aF M;obtain⟨a,rfl,f⟩:=f;obtain⟨d,rfl,w⟩:=w;have n:aD I h I (aO (((((h.push (aV #[aB p.w] 407)).push (aV #[.pointer (some A)] 90)).push (aV #[n0] 323)).push (.map #[] 0)).push (aV #[cr] 242)) (h.size+1+1+1+1) 0 (.map (some (h.size+1+1+1)))):=aP C;obtain⟨V,Z,c,jt,jo,k,jm,jw⟩:∃V,aD I h V (aO (((((h.push (aV #[aB p.w] 407)).push (aV #[.pointer (some A)] 90)).push (aV #[n0] 323)).push (.map #[] 0)).push (aV #[cr] 242)) (h.size+1+1+1+1) 0 (.map (some (h.size+1+1+1))))/\V h.size=aE #[aB p.w] 407/\V (h.size+1)=aE #[.pointer (some A)] 90/\V (h.size+1+1+1+1)=aE #[.map (some (h.size+1+1+1))] 242/\V (h.size+1+1)=none/\V (h.size+1+1+1)=none/\V p.w=none:=by
  have Z:=n.freeze (λ r=>decide (r=h.size\/r=h.size+1\/r=h.size+1+1+1+1)) λ r Y=>.inl (cW (of_decide_eq_true Y));have ev:∀r X,(r=h.size\/r=h.size+1\/r=h.size+1+1+1+1)->blk (aO (((((h.push (aV #[aB p.w] 407)).push (aV #[.pointer (some A)] 90)).push (aV #[n0] 323)).push (.map #[] 0)).push (aV #[cr] 242)) (h.size+1+1+1+1) 0 (.map (some (h.size+1+1+1)))) r=some X->(I.add (λ r=>decide (r=h.size\/r=h.size+1\/r=h.size+1+1+1+1)) _) r=some X:=λ r X Y j=>za7;have m:∀r,¬(r=h.size\/r=h.size+1\/r=h.size+1+1+1+1)->I r=none->(I.add (λ r=>decide (r=h.size\/r=h.size+1\/r=h.size+1+1+1+1)) (aO (((((h.push (aV #[aB p.w] 407)).push (aV #[.pointer (some A)] 90)).push (aV #[n0] 323)).push (.map #[] 0)).push (aV #[cr] 242)) (h.size+1+1+1+1) 0 (.map (some (h.size+1+1+1))))) r=none:=λ r Y j=>by unfold aK.add;rw[if_neg (λ F=>Y (of_decide_eq_true F))];exact j
  exact⟨_,Z,ev _ _ zaa Bk,ev _ _ zaa Bk,ev _ _ zaa Bk,m _ zaa (C.fresh zaa),m _ zaa (C.fresh zaa),m _ zaa G⟩
 have j:blk (aO (((((h.push (aV #[aB p.w] 407)).push (aV #[.pointer (some A)] 90)).push (aV #[n0] 323)).push (.map #[] 0)).push (aV #[cr] 242)) (h.size+1+1+1+1) 0 (.map (some (h.size+1+1+1)))) (h.size+1+1+1)=some (.map #[] 0):=Bk;have x:blk (aO (((((h.push (aV #[aB p.w] 407)).push (aV #[.pointer (some A)] 90)).push (aV #[n0] 323)).push (.map #[] 0)).push (aV #[cr] 242)) (h.size+1+1+1+1) 0 (.map (some (h.size+1+1+1)))) (h.size+1+1)=aE #[n0] 323:=Bk;have T:=Z.blk M id;have t:=Z.sat;have s:=Z.le;refine RV (rB M.c ?_);obtain⟨u,X,M⟩:∃u,ge I a u/\∀{V:aK}{J:Value},I.le V->((u=none/\J=ni)\/∃G,u=some G/\PV V J G)->LW V J L:=by
  rcases f with⟨rfl,f⟩|⟨l,G,f,R⟩
  ·refine⟨none,f,λ W a=>?_⟩;rcases a with⟨-,rfl⟩|⟨G,C,-⟩
   ·exact .inl ⟨rfl,rfl⟩
   ·cases C
  ·refine⟨some G,⟨f,by obtain⟨q,rfl,-⟩:=R;rfl⟩,λ W a=>?_⟩;rcases a with⟨C,-⟩|⟨Q,C,a⟩
   ·cases C
   ·cases C;exact yd a (R.mono W) l
 obtain⟨S,A,l⟩:=(w.resolve_left λ F=>e F.1).2;refine qW (g:=λ r=>r=p.w\/r=h.size+1+1+1\/r=h.size+1+1) (P:=λ V U=>∃J H E y,MZ p (h.size+1+1+1) (h.size+1+1) L z V U J H E y) t (X.mono s) (show ge _ d (some S)from⟨s _ _ A,zb7⟩) ?_ ?_ ?_
 ·intro r Y;(try simp only[bJ]);rcases Y with Y|Y|Y<;>omega
 ·intro z W A w a d O A n;have S:=s.trans a.le;have U:=a.size;(try simp only[bJ]at U);rw[ej Oo];show Cf w 435 #[aU bA,z,W,aB (h.size+1+1),aB h.size,aB (h.size+1),aB (h.size+1+1+1+1)] A;refine DY (m:=N) a.sat p (B.mono S) (K.mono S) (i.mono S) (a.blk T id) ((a.dom _ (aF T) id).trans jw) o1 (a.blk j id) ((a.dom _ (aF j) id).trans jm) zaa zaa (a.blk x id) ((a.dom _ (aF x) id).trans k) zaa zaa (a.le _ _ c) (a.le _ _ jt) (a.le _ _ jo) (M S d) (yd O (l.mono S) e) dL dR bL g e λ J H E y k N d Q=>?_;exact n k N d ⟨J,H,E,y,Q⟩
 ·rintro z N j K d⟨J,H,E,y,Q⟩X;have g:=Q.pur X;have i:=X.sat;have W:=d.le.trans X.le;have s:aC (Eq p.w) I h j K:=((Z.weak (D':=Eq p.w) λ _ _=>False.elim).trans' d λ r Y F=>by
   rcases F with F|F|F
   ·exact F.symm
   ·exact zaa
   ·exact zaa).trans (X.weak λ _ _=>False.elim);have Y:=s.size;have q:=s.one (b:=h.size+1+1+1) zaa;have z:=aF g.bm;have a:=aF g.be;have l:=aF g.bw;have e:aC (Eq p.w) I h (j.one (h.size+1+1+1) K) (aO (K.push (aV #[ni] 20)) K.size 0 (.iface 242 (.map (some (h.size+1+1+1))))):=aC.put (q.1.push _) (.inl zaa) (q.1.sat.fresh bu);have k:=e.one (b:=K.size) zaa;have m:((j.one (h.size+1+1+1) K).one K.size (aO (K.push (aV #[ni] 20)) K.size 0 (.iface 242 (.map (some (h.size+1+1+1)))))) p.w=none:=(aK.one_ne zaa).trans ((aK.one_ne zaa).trans g.jw);have X:=aC.put (o:=12) (v:=aB K.size) k.1 (.inr rfl) m;have R:((j.one (h.size+1+1+1) K).one K.size (aO (K.push (aV #[ni] 20)) K.size 0 (.iface 242 (.map (some (h.size+1+1+1)))))) K.size=aE #[.iface 242 (.map (some (h.size+1+1+1)))] 20:=aK.one_eq Bk;have U:(j.one (h.size+1+1+1) K) (h.size+1+1+1)=some (.map #[eA J] 1):=aK.one_eq g.bm;have n:blk (aO (aO (K.push (aV #[ni] 20)) K.size 0 (.iface 242 (.map (some (h.size+1+1+1))))) p.w 12 (aB K.size)) p.w=some (p.cell E (aB K.size) (aB y)):=bz g.bw;have I:blk (aO (aO (K.push (aV #[ni] 20)) K.size 0 (.iface 242 (.map (some (h.size+1+1+1))))) p.w 12 (aB K.size)) (h.size+1+1)=aE #[n0] 323:=bz g.be;have O:=eM (n:=0) (a:=n0) I rfl;have x:=hK K.size (.iface 242 (.map (some (h.size+1+1+1)))) H E y _ _ X R ⟨_,J,rfl,k.2 _ _ U,(g.tl.mono q.2).mono k.2⟩ g.nd g.ln g.mem n m;refine⟨λ N=>aO (aO (K.push (aV #[ni] 20)) K.size 0 (.iface 242 (.map (some (h.size+1+1+1))))) p.w 12 (aB K.size)=N,λ N B=>?_,?_⟩
  ·subst B;refine rB I.b ?_;rw[O];exact x
  ·try simp(disch:=omega)only[go_sem,↓reduceIte,aA (i _ _ (W _ _ jo)),aA (i _ _ (W _ _ c)),g4 Tryz.underlying242 (bI g.bm),aA g.bw,aS g.bw]
def Re:(aM h 411 a 0 228 λ c=>Cf h 429 #[a,(aU ⟨#[108,104,115,58,32]⟩),c] λ c d=>aW c λ c _=>bx d 343 c ni (aM d 411 a 10 225 λ e=>Nc e<|aM d 411 a 1 228 λ f=>Cf d 429 #[a,(aU ⟨#[114,104,115,58,32]⟩),f] λ d f=>aW d λ d _=>bx f 343 d ni (aM f 411 a 10 225 λ g=>Nc g<|Eb f .eql 343 false true c ni λ i=>Gd f i false (λ a b=>a c b) λ f j=>Gd j i false (λ a b=>Iv b f "Empty" #[] λ b c=>a b c) λ f j=>Pk i bt f λ f=>aH j f (λ a b=>a d b) λ i j=>aH j f (λ a b=>Eb b .eql 343 false true i ni λ c=>a c b) λ i j=>aH j f (λ a b=>a i b) λ i j=>Gd j i false (λ a b=>a d b) λ j k=>Gd k i false (λ a b=>Iv b j "Empty" #[] λ b c=>a b c) λ j k=>aH k f (λ a b=>Pk i bt j λ c=>a c b) λ i j=>Pk f i bf λ f=>aM j 359 b 3 240 λ i=>Eb j .eql 240 false true i (aU ⟨#[97,116,111,109,105,99]⟩) λ i=>Gd j i false (λ a b=>a f b) λ f j=>Pk i bt f λ f=>Cd f (Cf j 423 #[a] λ _ a=>Dg a (cH g d) λ a=>Dg a (cH e c) λ a=>R n0 a) (Eb j .eql 343 false true c ni λ f=>aH j f (λ a b=>a d b) λ i j=>aH j f (λ a b=>Eb b .eql 343 false true i ni λ c=>a c b) λ i j=>Pk f i bf λ f=>Cd f (Dg j (cH g d) λ a=>Dg a (cH e c) λ a=>R n0 a) (Cf j 430 #[a,b,c,d] λ a b=>Ap b 323 n0 a λ a b=>Dg b (cH g d) λ b=>Dg b (cH e c) λ b=>R a b))) (Eb f .eql 343 false true c ni λ g=>Gd f g false (λ a b=>a c b) λ f i=>Gd i g false (λ a b=>Iv b f "Empty" #[] λ b c=>a b c) λ f i=>Pk g bt f λ f=>aH i f (λ a b=>a d b) λ g i=>aH i f (λ a b=>Eb b .eql 343 false true g ni λ c=>a c b) λ g i=>aH i f (λ a b=>a g b) λ g i=>Gd i g false (λ a b=>a d b) λ i j=>Gd j g false (λ a b=>Iv b i "Empty" #[] λ b c=>a b c) λ i j=>aH j f (λ a b=>Pk g bt i λ c=>a c b) λ g i=>Pk f g bf λ f=>aM i 359 b 3 240 λ g=>Eb i .eql 240 false true g (aU ⟨#[97,116,111,109,105,99]⟩) λ g=>Gd i g false (λ a b=>a f b) λ f i=>Pk g bt f λ f=>Cd f (Cf i 423 #[a] λ _ a=>Dg a (cH e c) λ a=>R n0 a) (Eb i .eql 343 false true c ni λ f=>aH i f (λ a b=>a d b) λ g i=>aH i f (λ a b=>Eb b .eql 343 false true g ni λ c=>a c b) λ g i=>Pk f g bf λ f=>Cd f (Dg i (cH e c) λ a=>R n0 a) (Cf i 430 #[a,b,c,d] λ a b=>Ap b 323 n0 a λ a b=>Dg b (cH e c) λ b=>R a b)))) (aM d 411 a 1 228 λ e=>Cf d 429 #[a,(aU ⟨#[114,104,115,58,32]⟩),e] λ d e=>aW d λ d _=>bx e 343 d ni (aM e 411 a 10 225 λ f=>Nc f<|Eb e .eql 343 false true c ni λ g=>Gd e g false (λ a b=>a c b) λ e i=>Gd i g false (λ a b=>Iv b e "Empty" #[] λ b c=>a b c) λ e i=>Pk g bt e λ e=>aH i e (λ a b=>a d b) λ g i=>aH i e (λ a b=>Eb b .eql 343 false true g ni λ c=>a c b) λ g i=>aH i e (λ a b=>a g b) λ g i=>Gd i g false (λ a b=>a d b) λ i j=>Gd j g false (λ a b=>Iv b i "Empty" #[] λ b c=>a b c) λ i j=>aH j e (λ a b=>Pk g bt i λ c=>a c b) λ g i=>Pk e g bf λ e=>aM i 359 b 3 240 λ g=>Eb i .eql 240 false true g (aU ⟨#[97,116,111,109,105,99]⟩) λ g=>Gd i g false (λ a b=>a e b) λ e i=>Pk g bt e λ e=>Cd e (Cf i 423 #[a] λ _ a=>Dg a (cH f d) λ a=>R n0 a) (Eb i .eql 343 false true c ni λ e=>aH i e (λ a b=>a d b) λ g i=>aH i e (λ a b=>Eb b .eql 343 false true g ni λ c=>a c b) λ g i=>Pk e g bf λ e=>Cd e (Dg i (cH f d) λ a=>R n0 a) (Cf i 430 #[a,b,c,d] λ a b=>Ap b 323 n0 a λ a b=>Dg b (cH f d) λ b=>R a b))) (Eb e .eql 343 false true c ni λ f=>Gd e f false (λ a b=>a c b) λ e g=>Gd g f false (λ a b=>Iv b e "Empty" #[] λ b c=>a b c) λ e g=>Pk f bt e λ e=>aH g e (λ a b=>a d b) λ f g=>aH g e (λ a b=>Eb b .eql 343 false true f ni λ c=>a c b) λ f g=>aH g e (λ a b=>a f b) λ f g=>Gd g f false (λ a b=>a d b) λ g i=>Gd i f false (λ a b=>Iv b g "Empty" #[] λ b c=>a b c) λ g i=>aH i e (λ a b=>Pk f bt g λ c=>a c b) λ f g=>Pk e f bf λ e=>aM g 359 b 3 240 λ f=>Eb g .eql 240 false true f (aU ⟨#[97,116,111,109,105,99]⟩) λ f=>Gd g f false (λ a b=>a e b) λ e g=>Pk f bt e λ e=>Cd e (Cf g 423 #[a] λ _ a=>R n0 a) (Eb g .eql 343 false true c ni λ e=>aH g e (λ a b=>a d b) λ f g=>aH g e (λ a b=>Eb b .eql 343 false true f ni λ c=>a c b) λ f g=>Pk e f bf λ e=>Cd e (R n0 g) (Cf g 430 #[a,b,c,d] λ a b=>Ap b 323 n0 a λ a b=>R a b)))))->Cf h 425 #[a,b] R:=mS Tryz.func425 EC
theorem HC(Z:aN I h){l z J:Value}{x:Option Nat}(M:blk h m=aE #[b,c,d,e,f,g,i,j,k,p,q,r,s,l,z,co n] 411)(p:PV I J (.iface 242 (.map x)))(Q:∀U,aD I h I U->R (bj (.iface 586 (.map x)) n0) U):Cf h 429 #[aB m,a,J] R:=by have ev:∃u,J=.iface 362 u:=za6;obtain⟨u,rfl⟩:=ev;have P:=aF M;refine Sp (rB M.c ?_);refine lx Z p λ y v=>rA ?_;exact Q y v
theorem dE.mapO{x:Option Nat}{L:bn}(B:dE I x L):∃W s,x=some W/\ge I W s/\(L≠[]->s.isNone=false):=by
 obtain⟨W,C,B⟩:=B;rcases B with⟨u,B⟩|⟨u,G,B,l⟩
 ·exact⟨W,none,C,B,λ O=>absurd u O⟩
 ·exact⟨W,some G,C,⟨B,zb7⟩,λ _=>rfl⟩
theorem Cb(Z:aN I h)(p:WR){l t:Option Nat}{L:bn}(Y:eO I A)(M:blk h p.w=some (p.cell n0 nilp nilp))(G:I p.w=none)(X:∀S∈[p.rl,p.rr,p.s,p.t0,p.t1,p.t2,p.t3,p.t4,p.t5],aG S=true)(r:m<=h.size)(j:PV I p.rl (.iface 242 (.map l)))(F:PV I p.rr (.iface 242 (.map t)))(f:dE I l L)(w:dE I t z)(C:L.Nodup)(R:z.Nodup)(x:L.length<1000000)(bR:z.length<1000000)(e:z≠[]){T:KV}(Q:∀O S H E y V U,aC (Eq p.w) I h V U->V O=aE #[S] 20->dM V S H->H.Nodup->H.length<=L.length+z.length->(∀q,q∈H↔q∈L\/q∈z)->blk U p.w=some (p.cell E (aB O) (aB y))->V p.w=none->T n0 U):Cf h 425 #[aB p.w,.pointer (some A)] T:=by
 obtain⟨c,t,q,B,t,i,-⟩:=Y;have z:=B;obtain⟨J,d,rfl,k⟩:=B;have b:∀{N:Heap},aN I N->aI N J 8=some s0:=λ W=>by have:=(At.of W k) 8 s0 rfl;exact zai
 have h:=aF M;obtain⟨c,u,rfl,B,-⟩:=f.mapO;obtain⟨d,s,rfl,o,a⟩:=w.mapO;have a:=a e;refine Re (rB M.c ?_);refine HC Z M j λ v v=>?_;have g:=v.blk M id;refine rB g.c ?_;refine HC v.sat g (F.mono v.le) λ N P=>?_;have s:=v.trans P;have W:=P.sat;have D:=s.blk M id;refine rB D.c ?_;refine gC W (B.mono s.le) ?_;have n:∀{l:KV},(∀U,T n0 U->l n0 U)->Cf N 430 #[aB p.w,aB J,.iface 586 (.map (some c)),.iface 586 (.map (some d))] l:=λ{l}c=>by refine qu (N:=m) W p (z.mono s.le) (t.mono s.le) (i.mono s.le) D ((s.dom _ h id).trans G) X (Nat.le_trans r s.size) (f.mono s.le) (w.mono s.le) C R x bR e λ O S H E y V U M A J v ln G j C=>?_;exact c U (Q O S H E y V U ((s.weak λ _ _=>False.elim).trans M) A J v ln G j C)
 refine(Bool.eq_false_or_eq_true u.isNone).elim (λ j=>?_) λ j=>?_
 ·refine rB j ?_;refine gC W (o.mono s.le) ?_;refine rD a (b W) @fI ?_;refine n λ Q t=>?_;exact zay
 ·refine rD j (b W) @fI ?_;refine n λ Q t=>?_;exact zay
def QP:(Bx h 369 b λ b e=>Bx e 95 c λ c e=>Lp (∃f:V0,(∀e,f e->(Lp (∃f:V1,(∀e g,f e g->(Nc a<|Ld g 382 a λ a=>Nc e<|Sr g 382 e a λ a=>Ld a 95 c λ c=>bC a 382 e 3 95 c λ a=>bg a 382 e 4 λ c=>Ld a 252 c λ f=>Ld a 369 b λ b=>Bs a 252 1 #[(0,b)] λ a b=>aX b 382 e 4 c 252 f<|(Ap b 252 f a λ a b=>bC b 382 e 4 252 a λ a=>bC a 382 e 0 228 ni λ a=>bC a 382 e 1 228 ni λ a=>bC a 382 e 5 179 d λ a=>R e a)))/\(aM e 382 a 7 380 λ b=>Nc b<|Ld e 626 b λ b=>Ln e 626 b λ b=>bv e .gtr 3 b i0 (aM e 382 a 7 380 λ c=>aM e 382 a 7 380 λ d=>Nc d<|Ld e 626 d λ d=>Bi e .sub 3 b i1 λ g=>Ia e 626 d g λ d=>Ld e 379 d λ d=>aM e 382 a 7 380 λ a=>Nc a<|Ld e 626 a λ a=>Bi e .sub 3 b i1 λ b=>Sl e 626 a none (some b) none λ a=>Nc c<|Sr e 626 c a λ a=>f d a) (Bd e 382 #[] λ a=>Bx e 382 a λ a b=>f a b)))))/\(aM e 382 a 7 380 λ b=>ce e 380 b nilp (Bs e 626 0 #[] λ b c=>Bx c 626 b λ b c=>bC c 382 a 7 380 b λ a=>f a) (f e))))->Cf h 400 #[a,b,c,d] R:=mS Tryz.func400 (Z (Y [] cF (Z (Y [9] Bt (Z (Z (Q EZ uw)))))))
def In:(aM h 382 b 4 252 λ c=>aM h 382 b 4 252 λ d=>Ln h 252 d λ d=>Bi h .sub 3 d i1 λ d=>Sl h 252 c none (some d) none λ c=>bC h 382 a 4 252 c λ c=>bg c 382 a 7 λ d=>Ld c 380 d λ e=>bg c 382 a 7 λ f=>Ld c 380 f λ g=>Nc g<|Ld c 626 g λ i=>Bs c 626 1 #[(0,b)] λ b c=>aX c 382 a 7 d 380 e<|aX c 382 a 7 f 380 g<|fY c 626 g i<|(Ap c 626 i b λ b c=>aX c 382 a 7 d 380 e<|(Nc e<|Sr c 626 e b λ a=>R (.tuple #[]) a)))->Cf h 401 #[a,b] R:=mS Tryz.func401 Hd
theorem Je(O:x.length=14):∃f o g e z a C I K d E P i s,x=[f,o,g,e,z,a,C,I,K,d,E,P,i,s]:=zbU
theorem xv(W:∃H,blk h m=aE H n/\H.size=14){M:Prop}(T:∀f o g e z a C I K d E P i s,blk h m=aE #[f,o,g,e,z,a,C,I,K,d,E,P,i,s] n->M):M:=by obtain⟨H,y,N⟩:=W;obtain⟨f,o,g,e,z,a,C,I,K,d,E,P,i,s,k⟩:=Je (x:=H.toList) (bS N);exact T f o g e z a C I K d E P i s zbq
structure Uw(base:Nat)(I:aK)(h:Heap)(w sb:Nat)(x pv:Value)(ws:cK)(spv:Value)(cw:cQ)(cp ct:cQ)(n:Nat)(rows:bW)(h3:Heap)(sb2:Nat)(x2:Value):Prop where
 st:aC (λ k=>k=w\/k∈aY sb x pv ws) I h I h3
 bw:blk h3 w=aE cw 382
 sp:eC 382 626 379 14 base I h3 sb2 x2 ws
 po:aQ base I h3 369 4 pv n rows
 nd:(w::aY sb2 x2 pv ws).Nodup
 old:∀k∈sb2::x2.bl,k∈aY sb x pv ws\/h.size+2<=k
 bp:blk h3 h.size=aE cp 369
 bt:blk h3 (h.size+1)=aE ct 95
 sbe:spv=aB sb->sb2=sb
structure U9(base:Nat)(I:aK)(h:Heap)(w sb:Nat)(x pv:Value)(ws:cK)(spv:Value)(cw:cQ)(cp ct:cQ)(n:Nat)(rows:bW)(h3:Heap)(w3 sb2:Nat)(x2:Value):Prop where
 st:aC (λ k=>k=w\/k∈aY sb x pv ws) I h I h3
 bw:blk h3 w=aE cw 382
 sp:eC 382 626 379 14 base I h3 sb2 x2 []
 po:aQ base I h3 369 4 pv n rows
 nd:(w::w3::aY sb2 x2 pv []).Nodup
 old:∀k∈w3::sb2::x2.bl,k∈aY sb x pv ws\/h.size+2<=k
 bp:blk h3 h.size=aE cp 369
 bt:blk h3 (h.size+1)=aE ct 95
 b3:∃cs,blk h3 w3=aE cs 382/\cs.size=14
 wI:I w3=none
 wb:base<=w3
 sbe:spv=aB sb->sb2=sb
theorem Jj{D:Int}{r:IntKind}{T:Value->Prop}(K:0<=D/\D<=n):Sl h 626 (bq o l m n) none (some (.int r D)) none T=T (bq o l D.toNat n):=iW Tryz.underlying626 Pd K
set_option maxHeartbeats 1000000 in theorem px{L:Nat}{T:aK}{O:Heap}(Z:aN T O){a0:cK}{V l u0 u1 H u3 U C:Value}{a1:Nat}{cm:Value}(oc:aG cm=true)(hw:blk O m=aE #[c,d,e,f,g,i,j,p,q,b,r,s,V,l] 382)(a2:T m=none)(X:∀S∈[c,d,e,f,g,i,j,p,q,r,s,l],aG S=true)(v:∀S∈[u0,u1,H,u3,U,C],aG S=true)(hm:MQ 382 626 379 14 L T O m o a b a0 V)(po:aQ L T O 369 4 b a1 x)(W:a1<=1)(a3:bM T w G)(J:L<=O.size)(hR:∀J y M E t,aC (λ k=>k=m\/k∈aY o a b a0) T O T t->blk t m=aE #[c,d,e,f,g,i,j,p,q,b,r,s,aB y,l] 382->blk t J=aE #[ni,ni,e,u0,u1,H,u3,U,C,E,cm,s,aB y,l] 382->MS 382 626 379 14 L T t m J y M E [] (a1+1) (x++w)->(∀k∈J::aY y M E [],k∈aY o a b a0\/O.size<=k)->(V=aB o->y=o)->R (aB J) t):Cf O 400 #[aB m,.agg w.toArray,.agg #[u0,u1,H,u3,U,C],cm] R:=by
 obtain⟨p0,p1,p2,p3,rfl⟩:=cL a3.1;have q0:=X c zab;have q1:=X d zab;have q2:=X e zab;have q3:=X f zab;have Y:=X g zab;have q5:=X i zab;have q6:=X j zab;have q7:=X p zab;have q8:=X q zab;have q9:=X r zab;have a4:=X s zab;have a5:=X l zab;have F:=v u0 zab;have N:=v u1 zab;have r2:=v H zab;have r3:=v u3 zab;have r4:=v U zab;have r5:=v C zab;have s0:=a3.one p0 zab;have s1:=a3.one p1 zab;have s2:=a3.one p2 zab;have s3:=a3.one p3 zab;have P:=aF hw;have zm:=xk hm po P;have op:=po.one;have a6:a0=[]\/∃S,a0=[S]:=hm.elim (λ G=>.inl G.2.2.2.1) λ G=>G.2.2.1;apply QP;try simp(disch:=omega)only[go_sem,↓reduceIte,s0,s1,s2,s3]
 refine⟨λ K=>∃y M,Uw L T O m o a b a0 V (#[c,d,e,f,g,i,j,p,q,b,r,s,aB y,l]) #[p0,p1,p2,p3] #[u0,u1,H,u3,U,C] a1 x K y M,λ K W=>W.elim λ y W=>W.elim λ M B=>?_,?_⟩
 ·have st:=B.st;have S3:=st.sat;have z3:=st.size;have v:=ED B.nd;refine B.sp.own.slK λ ax cx t=>?_;have bk:=B.sp.bk;rw[t]at bk;have a7:=B.sp.lts;refine rC B.bw.c bk.c ?_;refine⟨λ P t=>∃J x3,P=aB J/\U9 L T O m o a b a0 V (#[c,d,e,f,g,i,j,p,q,b,r,s,aB y,l]) #[p0,p1,p2,p3] #[u0,u1,H,u3,U,C] a1 x t J y x3,λ P t W=>W.elim λ J W=>W.elim λ x3 W=>?_,?_⟩
  ·have e2:=W.1;have u:=W.2;have a8:=u.st;have V:=a8.sat;have z:=a8.size;have v:=fU u.nd;have X:=v.1;have n2:J≠O.size/\J≠O.size+1:=by
    rcases u.old J zab with Q|Q
    ·have:=zm _ Q;exact zaa
    ·exact zaa
   have n3:=n2.1;have w:=n2.2;have nw:=v.2.2.2.2.1.2.1;have P:=u.b3.elim λ a9 w=>aF w.1;have P:=aF u.sp.bk;have w:=aF u.bw;have w:=u.wI;have r3:aC (Eq J) T t T t:=aC.refl V;refine xv u.b3 λ P P P z3 z P z P z P P P P z hz=>?_;try simp(disch:=omega)only[go_sem,↓reduceIte,e2,aA u.bw,aA hz,aS hz,aA u.bp,aA u.bt,q0,q1,q2,q3,Y,q5,q6,q7,q8,q9,a4,a5,F,N,r2,r3,r4,r5,s0,s1,s2,s3,op,cn]
   refine bY gO rfl zaa zaa (H:=#[p0,p1,p2,p3]) (u:=L) (T:=T) (v:=a1) (c:=x) Bk (u.po.step (D:=Eq J) (I':=T) (dv V r3 w) (λ P z G=>nw (G▸mem_bl.2 z))) (aC.sat (D:=Eq J) (I:=T) (h:=t) (dv V r3 w)) rfl a3.one zaa (by(try simp only[bJ]);exact zaa) λ E N o8 Y S8 w8=>?_;have aa:aC (λ k=>k=J\/b.ownBlock=some k) T t T N:=aC.touch ((show aC (Eq J) T t T _ from dv V r3 w).weak λ k _ G=>Or.inl G.symm) Y λ P z=>⟨.inr (.inr z),u.po.2 P z⟩;have F:aC (λ k=>b.ownBlock=some k) T _ T N:=aC.touch (show aC (λ k=>b.ownBlock=some k) T _ T _ from aC.refl (aC.sat (D:=Eq J) (I:=T) (h:=t) (dv V r3 w))) Y λ P z=>⟨.inr z,u.po.2 P z⟩;have t:blk N J=aE #[c,d,e,u0,u1,H,u3,U,C,b,r,s,aB y,l] 382:=F.blk (bz hz) λ F=>nw (mem_bl.2 F);have x:=aF t;have ab:=o8.one;(try simp only[bJ]at w8);have ac:∀F,aC (Eq J) T N T F->blk F J=aE #[ni,ni,e,u0,u1,H,u3,U,C,E,cm,s,aB y,l] 382->R (aB J) F:=by
    intro F R b3;have x:=aa.trans' R (λ k _ G=>.inl G.symm);have V:(m::J::aY y x3 E []).Nodup:=f3 (K:=m::J::y::x3.bl) (N:=[]) u.nd (w8.imp id λ⟨P,z,Y⟩=>⟨P,z,λ k Y=>by
     simp only[List.mem_cons]at Y;rcases Y with rfl|rfl|rfl|Y
     ·exact zaa
     ·exact zaa
     ·exact zaa
     ·have:=(u.sp.own.lt Y).2;exact zaa,zab⟩);have ad:=fU V;refine hR J y x3 E F (a8.trans' x ?_) (x.blk u.bw ?_) b3 ⟨u.sp.step x ?_ ?_ zab,o8.step R (λ P z G=>ad.2.2.2.2.1.2.1 (G▸mem_bl.2 z)),V,a2,w,u.wb⟩ ?_ u.sbe
    ·intro k Y F;rcases F with rfl|F
     ·rcases u.old k zab with Q|Q
      ·exact .inr Q
      ·exact zaa
     ·exact zco
    ·exact zbj
    ·exact za2
    ·exact zaA
    ·intro k Y;simp only[aY,List.mem_cons,List.mem_append]at Y;have R:k∈J::y::x3.bl->k∈aY o a b a0\/O.size<=k:=λ Y=>(u.old k Y).imp id λ Q=>zaa;rcases Y with Y|Y|Y|Y|Y
     ·exact R zch
     ·exact R zch
     ·exact R (c6 (c6 Y))
     ·rcases w8 with Q|⟨P,Q,x⟩
      ·exact zbE
      ·have:=mem_bl.1 Y;rw[Q]at this;cases this;exact .inr zaa
     ·cases Y
   have x:aC (Eq J) T N T N:=aC.refl S8;refine rE t.b e2 ab oc ?_;refine ac _ (dv S8 x w) ?_;exact bz t
  ·refine a6.elim (λ G=>?_) λ W=>W.elim λ S G=>?_
   ·have t:blk K y=aE #[.slice ax 0 cx] 626:=zcu;refine rC B.bw.c t.c ?_;have E:eC 382 626 379 14 L T K y M []:=zaI;have w:(m::aY y M b []).Nodup:=zaJ;have R:aD T K T (K.push (aV #[ni,ni,nilp,nilp,nilp,nilp,nilp,nilp,bf,n0,nilp,bf,nilp,ni] 382)):=(aC.refl S3).push _;have V:=aF B.bt;refine⟨K.size,M,rfl,⟨st.push _,R.blk B.bw id,E.step R id (λ _ _=>id) (λ _ _=>id),B.po.step R (λ _ _=>id),pd w ?_,?_,R.blk B.bp id,R.blk B.bt id,⟨#[ni,ni,nilp,nilp,nilp,nilp,nilp,nilp,bf,n0,nilp,bf,nilp,ni],Bk,rfl⟩,Z.fresh z3,zaa,B.sbe⟩⟩
    ·exact zbe
    ·intro k Y;rcases List.mem_cons.1 Y with rfl|Y
     ·exact .inr zaa
     ·exact B.old k Y
   ·have E:eC 382 626 379 14 L T K y M [S]:=zaI;have w:(m::aY y M b [S]).Nodup:=zaJ;refine E.own.atK zab λ P V v u ae x L af t N ag=>?_;have W:1<=V:=L;have L:aI K P 0=some (aB S):=by rw[aA x,<-Array.getElem?_toList];have:(v.toList.take (1*1))[0]?=some (aB S):=zbh;rw[List.getElem?_take]at this;exact zai
    have N:blk K y=aE #[bq P 0 1 V] 626:=by have:=E.bk;rw[u]at this;exact zbX
    have W:=E.each S zab;have J:=fU (hu w);have ah:P∈M.bl:=mem_bl.2 zb8;have ai:P≠y:=λ G=>J.2.2.2.1.2.2 (G▸ah);refine rF B.bw.c N.b L @Jj @bZ ?_;have L:aC (Eq y) T K T (aO K y 0 (bq P 0 0 V)):=aC.put (aC.refl S3) (.inr rfl) E.sbI;have K:(Value.slice (some ⟨P,0,none⟩) 0 V).bl=M.bl:=zb8;refine⟨S,bq P 0 0 V,rfl,⟨st.trans' L ?_,L.blk B.bw (λ G=>J.2.1 G.symm),⟨bz N,⟨⟨zab,.inr ⟨P,V,v,rfl,ae,?_,Nat.zero_le _,af,t,zab⟩⟩,λ N t=>by cases t;exact ag⟩,zab,E.sbI,E.sbb,λ G=>by cases G;exact ai rfl,zab⟩,B.po.step L (λ P z G=>J.2.2.2.2.1.2.2 (G▸mem_bl.2 z)),?_,?_,L.blk B.bp ?_,L.blk B.bt ?_,?_,W.2.2.1,W.2.1,B.sbe⟩⟩
    ·intro k Y G;rcases B.old y zab with Q|Q
     ·exact .inr (G▸Q)
     ·exact zaa
    ·show blk _ _=_;rw[bO,if_neg (λ G=>ai G.symm)];exact x
    ·show(m::S::y::(_++_)).Nodup;rw[K];exact hu w
    ·intro k Y;rw[K]at Y;rcases List.mem_cons.1 Y with rfl|Y
     ·exact .inl (gx (by rw[G];exact zab))
     ·exact B.old k Y
    ·intro G;rcases B.old y zab with Q|Q
     ·have:=zm _ Q;exact zaa
     ·exact zaa
    ·intro G;rcases B.old y zab with Q|Q
     ·have:=zm _ Q;exact zaa
     ·exact zaa
    ·exact zcw
 ·refine hm.elim (λ G=>?_) λ G=>?_
  ·have t:blk O m=aE #[c,d,e,f,g,i,j,p,q,b,r,s,nilp,l] 382:=zbd;refine rB t.b ?_;obtain⟨J,e2,V,x,S⟩:=G;subst e2;subst V;subst x;have W:aC (Eq o) T O T O:=aC.refl Z;have Q:∀F,aC (Eq o) T O T F->aC (λ k=>k=o\/k∈aY o ni b []) T O T F:=λ F B=>B.weak λ k _ G=>.inl G.symm;refine⟨O.size+3,bq (O.size+2) 0 0 0,⟨Q _ (dv Z W a2),?_,⟨Bk,aQ.empty zaa zaP (Z.fresh zaa),zab,Z.fresh zaa,zaa,?_,zab⟩,po.step (D:=Eq o) (I':=T) (dv Z W a2) (λ P z G=>S (G▸mem_bl.2 z)),?_,?_,Bk,Bk,λ F=>by rw[J]at F;cases F⟩⟩
   ·exact bz t
   ·intro F;simp only[Value.ownBlock,Option.some.injEq]at F;exact zaa
   ·have n0:o≠O.size+3:=zaa;have X:o≠O.size+2:=zaa;have n2:∀k∈b.bl,k≠O.size+3/\k≠O.size+2:=λ k Y=>cW (po.lt Y).2;have n3:b.bl.Nodup:=zbm;have E:(Value.slice (some ⟨O.size+2,0,none⟩) 0 0).bl=[O.size+2]:=rfl;show(o::(O.size+3)::(_++_)).Nodup;rw[E];simp only[List.nodup_cons,List.cons_append,List.nil_append,List.append_nil,List.mem_cons,not_or];exact⟨⟨n0,X,S⟩,⟨zaa,λ F=>(n2 _ F).1 rfl⟩,λ F=>(n2 _ F).2 rfl,n3⟩
   ·intro k Y;have E:(Value.slice (some ⟨O.size+2,0,none⟩) 0 0).bl=[O.size+2]:=rfl;rw[E]at Y;simp only[List.mem_cons,List.not_mem_nil,or_false]at Y;exact .inr zaa
  ·have t:blk O m=aE #[c,d,e,f,g,i,j,p,q,b,r,s,aB o,l] 382:=zbd;refine rB t.c ?_;have R:aD T O T ((O.push (aV #[p0,p1,p2,p3] 369)).push (aV #[u0,u1,H,u3,U,C] 95)):=((aC.refl Z).push _).push _;exact⟨o,a,⟨R.weak λ _ _=>False.elim,R.blk t id,G.2.1.step R id (λ _ _=>id) (λ _ _=>id),po.step R (λ _ _=>id),G.2.2.2,λ k Y=>.inl (m8 Y),Bk,Bk,λ _=>rfl⟩⟩
theorem C9{L:Nat}{T:aK}{O:Heap}(Z:aN T O){y:cK}{v J F:Value}{H:cQ}(hw:blk O m=aE #[d,e,f,g,i,j,p,q,r,v,s,J,aB t,F] 382)(K:blk O l=aE H 382)(a0:H.size=14)(Q:H[9]?=some c)(z:x.length=0*4)(S:MS 382 626 379 14 L T O m l t a c y 1 (x++w))(N:L<=O.size)(V:y.length<2147483646)(hR:∀M E U,aC (λ k=>k=m\/k∈aY t a c y) T O T U->blk U m=aE #[d,e,f,g,i,j,p,q,r,E,s,J,aB t,F] 382->MT 382 626 379 14 L T U m t M E (y++[l]) 0 x->(∀k∈aY t M E (y++[l]),k∈l::aY t a c y\/O.size<=k)->R (.tuple #[]) U):Cf O 401 #[aB m,aB l] R:=by
 have v:=fU S.nd;have P:=aF hw;have C:=aF K;have E:=S.sp.lts;have G:=E.1;have G:=S.wI;have W:=S.sp.own.one;refine S.po.atK zaa λ P V X U w W R B Y N a1=>?_;have C:P∈c.bl:=mem_bl.2 zcj;have C:H[9]?=some (bq P 0 1 V):=by rw[Q,U]
 have Q:1<=V:=R;have a2:(Value.slice (some ⟨P,0,none⟩) 0 V).bl=c.bl:=zcj;have a3:aQ L T O 369 4 (bq P 0 0 V) 0 x:=by refine⟨⟨z,.inr ⟨P,V,X,rfl,w,W,zaa,B,Y,?_⟩⟩,λ g' B=>by cases B;exact a1⟩;have w:X.toList.take (0*4)=(X.toList.take (1*4)).take (0*4):=zbx;rw[w,N,List.take_append_of_le_length zaa,<-z,List.take_length]
 refine In (rD K.c C @gj ?_);refine rG hw.b S.sp.bk.c K.c C @gj @bZ ?_;have W:aC (Eq m) T O T O:=aC.refl Z;refine bY pQ rfl zaa zaa (H:=#[aB l]) (u:=L) (T:=T) (v:=y.length) (c:=y.map aB) Bk (S.sp.own.step (D:=Eq m) (I':=T) (dv Z W G) (λ P z C=>v.2.2.2.1.1 (C▸mem_bl.2 z))) (aC.sat (D:=Eq m) (I:=T) (h:=O) (dv Z W G)) rfl zbg zaa (by(try simp only[bJ]);exact zaa) λ M N X Y Q w=>?_;have U:aC (λ k=>k=m\/a.ownBlock=some k) T O T N:=aC.touch ((show aC (Eq m) T O T _ from dv Z W G).weak λ k _ C=>Or.inl C.symm) Y λ P z=>⟨.inr (.inr z),S.sp.own.2 P z⟩;have x:aC (λ k=>a.ownBlock=some k) T _ T N:=aC.touch (show aC (λ k=>a.ownBlock=some k) T _ T _ from aC.refl (aC.sat (D:=Eq m) (I:=T) (h:=O) (dv Z W G))) Y λ P z=>⟨.inr z,S.sp.own.2 P z⟩;have Z:blk N m=aE #[d,e,f,g,i,j,p,q,r,bq P 0 0 V,s,J,aB t,F] 382:=x.blk (bz hw) λ F=>v.2.2.2.1.1 (mem_bl.2 F);have j:=U.blk S.sp.bk (λ F=>F.elim (λ C=>v.2.1 C.symm) λ C=>v.2.2.2.1.2.2 (mem_bl.2 C));have p:=U.blk K (λ F=>F.elim (λ C=>v.1 C.symm) λ C=>v.2.2.2.1.2.1 (mem_bl.2 C));have K:=U.size;have d:=X.one;(try simp only[bJ]at w);have x:∀k∈aY t a c y,k<O.size:=zah;have g:(m::l::aY t M c y).Nodup:=by
  have C:∀q:Value,(m::l::aY t q c y)=[m,l,t]++(q.bl++(c.bl++y)):=λ q=>rfl;rw[C];refine f3 (K:=[m,l,t]) (a:=a) (N:=c.bl++y) S.nd (w.imp id λ⟨P,z,q⟩=>⟨P,z,λ k Y=>?_,λ k Y=>?_⟩)
  ·exact zan
  ·have:k<O.size:=x k zam;exact zaa
 have O:=fU g;refine rD Z.c j.b d ?_;have J:aC (Eq t) T N T (aO N t 0 M):=aC.put (aC.refl Q) (.inr rfl) S.sp.sbI;refine hR M (bq P 0 0 V) _ (aC.trans' (a:=Eq t) (U.weak λ k _ F=>F.imp id λ C=>eZ (mem_bl.2 C)) J λ k _ C=>.inr (C▸eu)) (J.blk Z λ C=>v.2.1 C.symm) ⟨⟨?_,?_,?_,S.sp.sbI,S.sp.sbb,λ F=>O.2.2.2.1.2.2 (mem_bl.2 F),?_⟩,?_,?_,G⟩ ?_
 ·exact bz j
 ·have:=X.put2 (t:=t) (u:=0) (b:=M) λ P z C=>O.2.2.2.1.2.2 (C▸mem_bl.2 z);exact zai
 ·intro E G;rcases List.mem_append.1 G with G|G
  ·exact zal
  ·exact zbz
 ·exact List.nodup_append.2 ⟨S.sp.nd,zab,λ S O F p C=>(v.2.2.2.2.2.2 S O).2.1 zaL⟩
 ·exact zaU
 ·exact zcV
 ·intro k Y;simp only[aY,List.mem_cons,List.mem_append,List.not_mem_nil,or_false]at Y;rcases Y with Y|Y|Y|Y|Y
  ·exact za1
  ·rcases w with Q|⟨g',Q,T⟩
   ·exact zaD
   ·have:=mem_bl.1 Y;rw[Q]at this;cases this;exact .inr zaa
  ·rw[a2]at Y;exact zbK
  ·exact zbJ
  ·exact .inl (by rw[Y];exact zab)
theorem Dc{L:Nat}{T:aK}{O:Heap}(Z:aN T O){y:cK}{v J F:Value}{H:cQ}(hw:blk O m=aE #[d,e,f,g,i,j,p,q,r,v,s,J,aB t,F] 382)(K:blk O l=aE H 382)(a0:H.size=14)(Q:H[9]?=some c)(z:x.length=1*4)(S:MS 382 626 379 14 L T O m l t a c y 2 (x++w))(N:L<=O.size)(V:y.length<2147483646)(hR:∀M E U,aC (λ k=>k=m\/k∈aY t a c y) T O T U->blk U m=aE #[d,e,f,g,i,j,p,q,r,E,s,J,aB t,F] 382->MT 382 626 379 14 L T U m t M E (y++[l]) 1 x->(∀k∈aY t M E (y++[l]),k∈l::aY t a c y\/O.size<=k)->R (.tuple #[]) U):Cf O 401 #[aB m,aB l] R:=by
 have v:=fU S.nd;have P:=aF hw;have C:=aF K;have E:=S.sp.lts;have G:=E.1;have G:=S.wI;have W:=S.sp.own.one;refine S.po.atK zaa λ P V X U w W R B Y N a1=>?_;have C:P∈c.bl:=mem_bl.2 zcj;have C:H[9]?=some (bq P 0 2 V):=by rw[Q,U]
 have Q:2<=V:=R;have a2:(Value.slice (some ⟨P,0,none⟩) 1 V).bl=c.bl:=zcj;have a3:aQ L T O 369 4 (bq P 0 1 V) 1 x:=by refine⟨⟨z,.inr ⟨P,V,X,rfl,w,W,zaa,B,Y,?_⟩⟩,λ g' B=>by cases B;exact a1⟩;have w:X.toList.take (1*4)=(X.toList.take (2*4)).take (1*4):=zbx;rw[w,N,List.take_append_of_le_length zaa,<-z,List.take_length]
 refine In (rD K.c C @gj ?_);refine rG hw.b S.sp.bk.c K.c C @gj @bZ ?_;have W:aC (Eq m) T O T O:=aC.refl Z;refine bY pQ rfl zaa zaa (H:=#[aB l]) (u:=L) (T:=T) (v:=y.length) (c:=y.map aB) Bk (S.sp.own.step (D:=Eq m) (I':=T) (dv Z W G) (λ P z C=>v.2.2.2.1.1 (C▸mem_bl.2 z))) (aC.sat (D:=Eq m) (I:=T) (h:=O) (dv Z W G)) rfl zbg zaa (by(try simp only[bJ]);exact zaa) λ M N X Y Q w=>?_;have U:aC (λ k=>k=m\/a.ownBlock=some k) T O T N:=aC.touch ((show aC (Eq m) T O T _ from dv Z W G).weak λ k _ C=>Or.inl C.symm) Y λ P z=>⟨.inr (.inr z),S.sp.own.2 P z⟩;have x:aC (λ k=>a.ownBlock=some k) T _ T N:=aC.touch (show aC (λ k=>a.ownBlock=some k) T _ T _ from aC.refl (aC.sat (D:=Eq m) (I:=T) (h:=O) (dv Z W G))) Y λ P z=>⟨.inr z,S.sp.own.2 P z⟩;have Z:blk N m=aE #[d,e,f,g,i,j,p,q,r,bq P 0 1 V,s,J,aB t,F] 382:=x.blk (bz hw) λ F=>v.2.2.2.1.1 (mem_bl.2 F);have j:=U.blk S.sp.bk (λ F=>F.elim (λ C=>v.2.1 C.symm) λ C=>v.2.2.2.1.2.2 (mem_bl.2 C));have p:=U.blk K (λ F=>F.elim (λ C=>v.1 C.symm) λ C=>v.2.2.2.1.2.1 (mem_bl.2 C));have K:=U.size;have d:=X.one;(try simp only[bJ]at w);have x:∀k∈aY t a c y,k<O.size:=zah;have g:(m::l::aY t M c y).Nodup:=by
  have C:∀q:Value,(m::l::aY t q c y)=[m,l,t]++(q.bl++(c.bl++y)):=λ q=>rfl;rw[C];refine f3 (K:=[m,l,t]) (a:=a) (N:=c.bl++y) S.nd (w.imp id λ⟨P,z,q⟩=>⟨P,z,λ k Y=>?_,λ k Y=>?_⟩)
  ·exact zan
  ·have:k<O.size:=x k zam;exact zaa
 have O:=fU g;refine rD Z.c j.b d ?_;have J:aC (Eq t) T N T (aO N t 0 M):=aC.put (aC.refl Q) (.inr rfl) S.sp.sbI;refine hR M (bq P 0 1 V) _ (aC.trans' (a:=Eq t) (U.weak λ k _ F=>F.imp id λ C=>eZ (mem_bl.2 C)) J λ k _ C=>.inr (C▸eu)) (J.blk Z λ C=>v.2.1 C.symm) ⟨⟨?_,?_,?_,S.sp.sbI,S.sp.sbb,λ F=>O.2.2.2.1.2.2 (mem_bl.2 F),?_⟩,?_,?_,G⟩ ?_
 ·exact bz j
 ·have:=X.put2 (t:=t) (u:=0) (b:=M) λ P z C=>O.2.2.2.1.2.2 (C▸mem_bl.2 z);exact zai
 ·intro E G;rcases List.mem_append.1 G with G|G
  ·exact zal
  ·exact zbz
 ·exact List.nodup_append.2 ⟨S.sp.nd,zab,λ S O F p C=>(v.2.2.2.2.2.2 S O).2.1 zaL⟩
 ·exact zaU
 ·exact zcV
 ·intro k Y;simp only[aY,List.mem_cons,List.mem_append,List.not_mem_nil,or_false]at Y;rcases Y with Y|Y|Y|Y|Y
  ·exact za1
  ·rcases w with Q|⟨g',Q,T⟩
   ·exact zaD
   ·have:=mem_bl.1 Y;rw[Q]at this;cases this;exact .inr zaa
  ·rw[a2]at Y;exact zbK
  ·exact zbJ
  ·exact .inl (by rw[Y];exact zab)
def Id:(aM h 382 a 0 228 λ c=>Eb h .eql 228 false true c ni λ c=>aH h c (λ b c=>b a c) λ d e=>aH e c (λ a b=>Nc d<|a d b) λ d e=>aH e c (λ a b=>Fa b 382 d 1 λ c=>a c b) λ d e=>aH e c (λ a b=>Ld b 228 d λ c=>a c b) λ d e=>aH e c (λ a b=>Eb b .eql 228 false true d ni λ c=>a c b) λ d e=>Pk c d bf λ c=>Cd c (Cf e 194 #[dO 0x6174206c65617374206f6e65206f66206c687320616e6420726873206d7573742062652070726f7669646564] λ a b=>R a b) (Lp (∃c:V2,(∀d e f,c d e f->(Nt f e λ c=>Cd c (Cf f 194 #[dO 0x736368656d61206572726f723a206e6f207479706520666f756e64206d61746368696e67] λ a b=>R a b) (Lp (∃c:V1,(∀e f,c e f->(Lp (∃c:V1,(∀d f,c d f->(Lp (∃c:V1,(∀d e,c d e->(Lp (∃c:V0,(∀a,c a->(Cf a 240 #[d,b] λ a b=>R a b))/\(Nc a<|Fa e 382 a 6 λ b=>Ld e 4 b λ b=>cD e b (aM e 382 a 0 228 λ b=>ce e 228 b ni (aM e 382 a 5 179 λ b=>aM e 190 b 2 173 λ b=>aM e 382 a 4 252 λ a=>Cf e 131 #[b,a] λ _ a=>c a) (aM e 382 a 1 228 λ b=>ce e 228 b ni (aM e 382 a 5 179 λ b=>aM e 190 b 0 173 λ b=>aM e 382 a 4 252 λ a=>Cf e 131 #[b,a] λ _ a=>c a) (c e))) (c e)))))/\(Nc a<|Fa f 382 a 1 λ b=>Ld f 228 b λ b=>ce f 228 b ni (Ld f 92 e λ b=>aM f 382 a 3 95 λ d=>Mi f 379 a λ a=>Cf f 236 #[b,d,a] λ a b=>Ap b 323 n0 a λ a b=>c a b) (aM f 382 a 0 228 λ b=>Eb f .eql 228 false true b ni λ b=>Gd f b false (λ a b=>Cf b 238 #[e,d] λ b c=>a b c) λ f g=>Pk b bt f λ b=>Cd b (Ld g 92 d λ b=>aM g 382 a 3 95 λ d=>Mi g 379 a λ a=>Cf g 236 #[b,d,a] λ a b=>Ap b 323 n0 a λ a b=>c a b) (Nc a<|Ld g 382 a λ b=>bH g 382 b λ b f=>Ld f 92 e λ e=>aM f 382 a 3 95 λ g=>Mi f 379 b λ b=>Cf f 236 #[e,g,b] λ b e=>Ap e 323 n0 b λ b e=>Ld e 92 d λ d=>aM e 382 a 3 95 λ f=>Mi e 379 a λ a=>Cf e 236 #[d,f,a] λ a d=>Ap d 323 b a λ a b=>c a b))))))/\(Ld f 92 d λ b=>bg f 382 a 1 λ e=>Ld f 228 e λ g=>(Cf f 239 #[b,g] λ f i=>Al i 92 λ i j=>fY j 92 d b<|aX j 382 a 1 e 228 g<|(Sr j 92 i f λ a=>c i a))/\(Al f 92 λ f i=>fY i 92 d b<|aX i 382 a 1 e 228 g<|(Cf i 239 #[b,g] λ a b=>Sr b 92 f a λ a=>c f a))))))/\(Ld f 92 d λ b=>bg f 382 a 0 λ e=>Ld f 228 e λ g=>(Cf f 239 #[b,g] λ f i=>Al i 92 λ i j=>fY j 92 d b<|aX j 382 a 0 e 228 g<|(Sr j 92 i f λ a=>c i a))/\(Al f 92 λ f i=>fY i 92 d b<|aX i 382 a 0 e 228 g<|(Cf i 239 #[b,g] λ a b=>Sr b 92 f a λ a=>c f a)))))))/\(Nc a<|Fa e 382 a 2 λ b=>Ld e 86 b λ d=>bg e 382 a 3 λ f=>Ld e 95 f λ g=>(Cf e 219 #[d,g] λ e i=>aW e λ e j=>Al i 92 λ i k=>aX k 382 a 2 b 86 d<|aX k 382 a 3 f 95 g<|(Sr k 92 i e λ a=>c i j a))/\(Al e 92 λ e i=>aX i 382 a 2 b 86 d<|aX i 382 a 3 f 95 g<|(Cf i 219 #[d,g] λ a b=>aW a λ a d=>Sr b 92 e a λ a=>c e d a))))))->Cf h 196 #[a,b] R:=mS Tryz.func196 (Z (Q cg (Y [5,6] GZ (Q cg (Y [7] EK (Y [8] EK (Y [4] PN (Y [] (Z (C (Z (C AF (Z (C AF L)))) L)) bG))))))))
inductive mO(w:Nat)(R:KV)(h:Heap):Prop|leaf(cs:cQ):blk h w=aE cs 382->cs[11]?=some bt->R n0 h->mO w R h|both(cs:cQ)(p q:Value):blk h w=aE cs 382->cs[11]?=some bf->cs[0]?=some (.iface 362 p)->cs[1]?=some (.iface 362 q)->R n0 h->mO w R h|add(cs:cQ)(cb e:Nat)(r m a pv:Value):blk h w=aE cs 382->cs[11]?=some (.bool false)->cs[0]?=some .nilIface->cs[9]?=some pv->cs[10]?=some (aB cb)->blk h cb=aE #[r,m,a] e->Cf h 131 #[a,pv] (λ _ h3=>R n0 h3)->mO w R h
theorem mO.elim(L:mO m R h){M:Prop}(O:∀H,blk h m=aE H 382->H[11]?=some bt->R n0 h->M)(n:∀H w p,blk h m=aE H 382->H[11]?=some bf->H[0]?=some (.iface 362 w)->H[1]?=some (.iface 362 p)->R n0 h->M)(y:∀(H:cQ)(k e:Nat)(W s a i:Value),blk h m=aE H 382->H[11]?=some bf->H[0]?=some ni->H[9]?=some i->H[10]?=some (aB k)->blk h k=aE #[W,s,a] e->Cf h 131 #[a,i] (λ _ K=>R n0 K)->M):M:=by cases L with|leaf H x K J=>exact O H x K J|both H w p x K J E B=>exact n H w p x K J E B|add H k e W s a i x K J E B c z=>exact y H k e W s a i x K J E B c z
def HU(R:KV)(a b:Value)(c:Heap):Prop:=Lp (∃d:V2,(∀c e f,d c e f->(Nt f e λ d=>Cd d (Cf f 194 #[(aU ⟨#[115,99,104,101,109,97,32,101,114,114,111,114,58,32,110,111,32,116,121,112,101,32,102,111,117,110,100,32,109,97,116,99,104,105,110,103]⟩)] λ a b=>R a b) (Lp (∃d:V1,(∀e f,d e f->(Lp (∃d:V1,(∀c f,d c f->(Lp (∃d:V1,(∀c e,d c e->(Lp (∃d:V0,(∀a,d a->(Cf a 240 #[c,b] λ a b=>R a b))/\(Nc a<|Fa e 382 a 6 λ b=>Ld e 4 b λ b=>cD e b (aM e 382 a 0 228 λ b=>ce e 228 b ni (aM e 382 a 5 179 λ b=>aM e 190 b 2 173 λ b=>aM e 382 a 4 252 λ a=>Cf e 131 #[b,a] λ _ a=>d a) (aM e 382 a 1 228 λ b=>ce e 228 b ni (aM e 382 a 5 179 λ b=>aM e 190 b 0 173 λ b=>aM e 382 a 4 252 λ a=>Cf e 131 #[b,a] λ _ a=>d a) (d e))) (d e)))))/\(Nc a<|Fa f 382 a 1 λ b=>Ld f 228 b λ b=>ce f 228 b ni (Ld f 92 e λ b=>aM f 382 a 3 95 λ c=>Mi f 379 a λ a=>Cf f 236 #[b,c,a] λ a b=>Ap b 323 n0 a λ a b=>d a b) (aM f 382 a 0 228 λ b=>Eb f .eql 228 false true b ni λ b=>Gd f b false (λ a b=>Cf b 238 #[e,c] λ b c=>a b c) λ f g=>Pk b bt f λ b=>Cd b (Ld g 92 c λ b=>aM g 382 a 3 95 λ c=>Mi g 379 a λ a=>Cf g 236 #[b,c,a] λ a b=>Ap b 323 n0 a λ a b=>d a b) (Nc a<|Ld g 382 a λ b=>bH g 382 b λ b f=>Ld f 92 e λ e=>aM f 382 a 3 95 λ g=>Mi f 379 b λ b=>Cf f 236 #[e,g,b] λ b e=>Ap e 323 n0 b λ b e=>Ld e 92 c λ c=>aM e 382 a 3 95 λ f=>Mi e 379 a λ a=>Cf e 236 #[c,f,a] λ a c=>Ap c 323 b a λ a b=>d a b))))))/\(Ld f 92 c λ b=>bg f 382 a 1 λ e=>Ld f 228 e λ g=>(Cf f 239 #[b,g] λ f i=>Al i 92 λ i j=>fY j 92 c b<|aX j 382 a 1 e 228 g<|(Sr j 92 i f λ a=>d i a))/\(Al f 92 λ f i=>fY i 92 c b<|aX i 382 a 1 e 228 g<|(Cf i 239 #[b,g] λ a b=>Sr b 92 f a λ a=>d f a))))))/\(Ld f 92 c λ b=>bg f 382 a 0 λ e=>Ld f 228 e λ g=>(Cf f 239 #[b,g] λ f i=>Al i 92 λ i j=>fY j 92 c b<|aX j 382 a 0 e 228 g<|(Sr j 92 i f λ a=>d i a))/\(Al f 92 λ f i=>fY i 92 c b<|aX i 382 a 0 e 228 g<|(Cf i 239 #[b,g] λ a b=>Sr b 92 f a λ a=>d f a)))))))/\(Nc a<|Fa c 382 a 2 λ b=>Ld c 86 b λ e=>bg c 382 a 3 λ f=>Ld c 95 f λ g=>(Cf c 219 #[e,g] λ c i=>aW c λ c j=>Al i 92 λ i k=>aX k 382 a 2 b 86 e<|aX k 382 a 3 f 95 g<|(Sr k 92 i c λ a=>d i j a))/\(Al c 92 λ c i=>aX i 382 a 2 b 86 e<|aX i 382 a 3 f 95 g<|(Cf i 219 #[e,g] λ a b=>aW a λ a e=>Sr b 92 c a λ a=>d c e a))))
theorem wv(a3:aN I h){F:Bool}{Z:Kd}(M:blk h m=aE #[a,b,c,d,e,f,g,i,j,k,p,.bool F,q,r] 382)(w:ij I c [d,e,f,g,i,j] Z A)(E:jW I a)(r:jW I b)(H:a≠ni\/b≠ni)(t:∀U,aD I h I U->iS I U Z A)(q:∀U,aD I h I U->∀T:KV,(∀N,mO m R N->T n0 N)->Iv U (.iface 379 (aB m)) (lN Z) #[.pointer (some A)] T):HU R (aB m) nf h:=by
 have s:=w.2.1;have x:=s d zab;have S:=s e zab;have y:=s f zab;have D:=s g zab;have Y:=s i zab;have u:=s j zab;have P:=aF M;have U:=w;have P:(a=ni)\/∃w,a=.iface 362 w:=E.imp id λ⟨G,_,u,C,x,_⟩=>⟨_,x⟩;have T:(b=ni)\/∃w,b=.iface 362 w:=r.imp id λ⟨G,_,u,C,x,_⟩=>⟨_,x⟩;obtain⟨V,f,i,Y,p,z,L,-⟩:=pr Z A;unfold HU;refine⟨λ X l W=>l=bt/\∃u,X=aB u/\fR I h Z A u W,λ X l W F=>?_,?_⟩
 ·refine F.2.elim λ b0 Q=>?_;have v:=Q.1;have J:=Q.2;have e:=J.st.sat;have jd:=J.st.blk M id;refine rB F.1 ?_;refine⟨λ D n=>∃x,D=aB x/\fR I h Z A b0 n/\fR I h Z A x n,λ D n u=>?_,?_⟩
  ·refine u.elim λ x u=>?_;have f:=u.1;have o:=u.2.1;have V:=u.2.2;have l:=o.st.sat;have mP:=o.st.blk M id;refine⟨λ d i=>∃H,d=aB H/\fR I h Z A x i/\fR I h Z A H i,λ d i Q=>?_,?_⟩
   ·refine Q.elim λ H Q=>?_;have O:=Q.1;have S:=Q.2.1;have y:=Q.2.2;have X:=S.st.sat;have kW:=S.st.blk M id;have Z:=S.bk' Y;have a:=y.bk' Y;refine⟨λ C K=>C=n0/\mO m R K,λ C K g=>?_,?_⟩
    ·rw[g.1];refine⟨λ c=>R n0 c,λ c c=>fT c,?_⟩;refine g.2.elim (λ b x H s=>?_) (λ b w Q x H s K B=>?_) λ b R C m D A k x H s K B c w=>?_
     ·refine rC x.c H ?_;exact s
     ·refine rE x.c H s K ?_;exact B
     ·refine rG x.c c.c H s K B ?_;exact w
    ·have j:=aF Z;have s:=aF a;rcases T with D|⟨d,D⟩
     ·refine rG kW.c Z.c a.c f O D ?_;refine nS X Y λ T K=>q T (S.st.trans K) _ λ N F=>?_;try simp(disch:=omega)only[go_sem,↓reduceIte,cI d5]
      first|exact F|exact F.2
     ·rcases P with B|⟨c,B⟩
      ·exact zba
      ·refine rH kW.c Z.c a.c f O D B ?_;refine nU X S.at y.at ?_ (t i S.st);exact zba
   ·skip;have q:=o.bk' Y;have g:=aF mP;have b:=aF q;refine rD q.c mP.c v ?_;refine⟨?_,?_⟩
    ·refine k0 l Y r λ P X=>?_;exact zaZ
    ·refine rD q.c mP.c v ?_;refine k0 (show aD I n I _ from aP l).sat Y r λ P X=>?_;exact zaF
  ·exact zak
 ·have g:=aF M;refine rB M.c ?_;refine⟨?_,?_⟩
  ·refine kS a3 U Y λ P X=>?_;exact zaB
  ·refine rB M.c ?_;refine kS (show aD I h I _ from aP a3).sat U Y λ P X=>?_;exact zaY
theorem mK(Z:aN I h){F:Bool}{D:Kd}(M:blk h m=aE #[a,b,c,d,e,f,g,i,j,k,p,.bool F,q,r] 382)(o:ij I c [d,e,f,g,i,j] D A)(E:jW I a)(O:jW I b)(H:a≠ni\/b≠ni)(J:∀U,aD I h I U->iS I U D A)(L:∀U,aD I h I U->∀T:KV,(∀N,mO m R N->T n0 N)->Iv U (.iface 379 (aB m)) (lN D) #[.pointer (some A)] T):Cf h 196 #[aB m,nf] R:=by
 have l:(a=ni)\/∃w,a=.iface 362 w:=E.imp id λ⟨G,_,u,C,y,_⟩=>⟨_,y⟩;have n:(b=ni)\/∃w,b=.iface 362 w:=O.imp id λ⟨G,_,u,C,y,_⟩=>⟨_,y⟩;rcases l with rfl|⟨c,rfl⟩
 ·rcases n with rfl|⟨S,rfl⟩
  ·simp at H
  ·refine Id (rB M.c ?_);exact wv Z M o E O H J L
 ·refine Id (rB M.c ?_);exact wv Z M o E O H J L
def Vq:(aM h 382 a 0 228 λ c=>Cf h 387 #[b,c,(aU ⟨#[108,104,115,58,32]⟩)] λ c d=>aM d 382 a 1 228 λ e=>Cf d 387 #[b,e,(aU ⟨#[114,104,115,58,32]⟩)] λ b d=>Ln d 323 c λ e=>Bi d .gtr 3 e i0 λ e=>aH d e (λ a c=>a b c) λ d f=>aH f e (λ a b=>Ln b 323 d λ c=>a c b) λ d f=>aH f e (λ a b=>Bi b .gtr 3 d i0 λ c=>a c b) λ d f=>Pk e d bf λ d=>Cd d (Ap f 323 c b λ a b=>R a b) (Cf f 379 #[a] λ _ a=>R n0 a))->Cf h 382 #[a,b] R:=mS Tryz.func382 (Z (Z tN))
def T1:(aM h 382 a 6 4 λ b=>Cd b (R (.tuple #[]) h) (bC h 382 a 6 4 bt λ b=>aM b 382 a 0 228 λ c=>ce b 228 c ni (aM b 382 a 5 179 λ c=>aM b 190 c 2 173 λ c=>aM b 382 a 4 252 λ a=>Cf b 131 #[c,a] λ _ a=>R (.tuple #[]) a) (aM b 382 a 1 228 λ c=>ce b 228 c ni (aM b 382 a 5 179 λ c=>aM b 190 c 0 173 λ c=>aM b 382 a 4 252 λ a=>Cf b 131 #[c,a] λ _ a=>R (.tuple #[]) a) (aM b 382 a 8 225 λ c=>aM b 382 a 1 228 λ d=>aM b 382 a 0 228 λ e=>Cf b 117 #[c,d,e] λ b c=>cD c b (aM c 382 a 5 179 λ b=>aM c 190 b 1 173 λ b=>aM c 382 a 4 252 λ a=>Cf c 131 #[b,a] λ _ a=>R (.tuple #[]) a) (R (.tuple #[]) c)))))->Cf h 379 #[a] R:=mS Tryz.func379 (Q cF (Z (Z (C AF (Z (C AF (Q (X #[0,1,3,7,0,16,48,112,0,256,768,1792,4095,8191]) (C AF L))))))))
def Sg:(Bx h 369 c λ c f=>Ld f 369 c λ c=>aM f 354 b 0 95 λ b=>aM f 382 a 5 179 λ g=>Cf f 400 #[a,c,b,g] λ b c=>bC c 382 b 0 228 d λ c=>bC c 382 b 1 228 e λ c=>Cf c 196 #[b,nf] λ c d=>Cf d 401 #[a,b] λ _ a=>R c a)->Cf h 391 #[a,b,c,d,e] R:=mS Tryz.func391 (Z (Q (X #[0,0,0,4,12,28,0,64,192,448,1023,2047]) pY))
theorem KS:dK 379 hC=some 382:=zag
theorem L2:dK 379 gI=some 380:=zag
theorem LN:dK 379 gJ=some 381:=zag
@[go_sem] theorem VA{B:cQ}:Iv h (.iface 379 a) hC B R=Cf h 382 (#[a]++B) R:=dH KS
@[go_sem] theorem Vx{B:cQ}:Iv h (.iface 379 a) gI B R=Cf h 380 (#[a]++B) R:=dH L2
@[go_sem] theorem VS{B:cQ}:Iv h (.iface 379 a) gJ B R=Cf h 381 (#[a]++B) R:=dH LN
structure C3(base:Nat)(I:aK)(h:Heap)(r m a:Nat)(fr fm fa:cK)(cR cA:ex):Prop where
 gr:dD base I h r fr bA cR
 gm:dD base I h m fm bA none
 ga:dD base I h a fa bA cA
 d1:∀k∈fr,k∉fm/\k∉fa
 d2:∀k∈fm,k∉fa
theorem C3.step{D:Nat->Prop}{r:cK}(t:C3 m I h n o l K N r V W)(E:aC D I h J H)(G:∀k,k∈K\/k∈N\/k∈r->¬D k):C3 m J H n o l K N r V W:=⟨t.gr.step E λ k Y=>G k (.inl Y),t.gm.step E λ k Y=>G k (.inr (.inl Y)),t.ga.step E λ k Y=>G k (.inr (.inr Y)),t.d1,t.d2⟩
theorem C3.lt{r:cK}(t:C3 m I h n o l K N r V W):∀k,k∈K\/k∈N\/k∈r->m<=k/\k<h.size/\I k=none:=λ k Y=>Y.elim (t.gr.fps.2 k) λ Y=>Y.elim (t.gm.fps.2 k) (t.ga.fps.2 k)
structure Qa(base:Nat)(I:aK)(h h':Heap)(r m a:Nat)(fr fm fa:cK)(cR cA:ex)(fr' fa':cK)(cR' cA':ex)(lv rv:Value)(str:bF):Prop where
 c:C3 base I h' r m a fr' fm fa' cR' cA'
 nr:∀k∈fr',k∈fr\/h.size<=k
 na:∀k∈fa',k∈fa\/h.size<=k
 mr:∀y,y∈cR'.getD []↔y∈cR.getD []\/(rv=ni/\y=.val str)
 ma:∀y,y∈cA'.getD []↔y∈cA.getD []\/(lv=ni/\y=.val str)
 lr:(cR'.getD []).length<=(cR.getD []).length+1
 la:(cA'.getD []).length<=(cA.getD []).length+1
set_option maxHeartbeats 1000000 in theorem DV{T:aK}(Z:aN T h){C E B:Nat}{D:Value}{r:cK}(M:blk h l=aE #[b,c,D,nilp,.pointer (some A),nilp,nilp,nilp,bf,d,aB t,bf,f,g] 382)(Y:T l=none)(Q:T t=aE #[aB u,aB E,aB B] C)(hl:b=ni\/PV T b (bE S))(w:c=ni\/PV T c (bE S))(H:b≠ni\/c≠ni)(i:cU T ic A)(c3:C3 m T h u E B K N r V W)(z:aQ n T h 369 4 d 2 x)(a0:Rows (bM T) x [.fld bA,.val S])(G:∀k,k∈K\/k∈N\/k∈r->k≠l/\k∉d.bl)(j:l∉d.bl)(a1:m<=h.size)(a2:(V.getD []).length<2147483646)(a3:(W.getD []).length<2147483646)(L:∀F q n x U,aC (λ k=>k=l\/k∈K\/k∈r) T h T U->Qa m T h U u E B K N r V W F q n x b c S->blk U l=aE #[b,c,D,nilp,.pointer (some A),nilp,nilp,nilp,bf,d,aB t,bt,f,g] 382->R n0 U):Cf h 196 #[aB l,nf] R:=by
 refine mK (D:=.sc) (A:=A) Z M (hB (I:=T) (a:=D) (r:=.sc) (A:=A)) (pvn hl) (pvn w) H (λ U p=>pp i) λ y E U U=>?_;have X:=E.sat;have q:=E.blk M id;refine rA ?_;refine Vq (rB q.c ?_);refine fi X (i.mono E.le) (hl.imp id λ p=>p.mono E.le) λ N P=>?_;have O:=P.blk q id;refine rB O.c ?_;refine fi P.sat (i.mono (E.trans P).le) (w.imp id λ p=>p.mono (E.trans P).le) λ x R=>?_;have J:=R.blk O id;have p:=(E.trans P).trans R;have i:=aC.put (o:=11) (v:=bt) (p.weak (D':=Eq l) λ _ _=>False.elim) (.inr rfl) Y;have E:blk (aO x l 11 bt) l=aE #[b,c,D,nilp,.pointer (some A),nilp,nilp,nilp,bf,d,aB t,bt,f,g] 382:=bz J;have X:=c3.step i λ k Y C=>(G k Y).1 C.symm;have g:=z.step i λ P z C=>j (mem_bl.2 (C▸z));have O:=i.sat;have z:=i.size;have M:=aA (O _ _ Q);refine rA ?_;apply T1;have D:(b=ni)\/∃j,b=.iface 362 j:=hl.imp id λ⟨u,C,y,_⟩=>⟨_,y⟩;have n:(c=ni)\/∃j,c=.iface 362 j:=w.imp id λ⟨u,C,y,_⟩=>⟨_,y⟩;rcases D with B|⟨A,B⟩
 ·have f:c≠ni:=H.resolve_left λ h=>h B;refine rE J.b E.c B M ?_;refine gY (C:=.val S) O X.ga g a0 (λ k Y F=>(G k (.inr (.inr F))).2 Y) (Nat.le_trans a1 z) a3 λ d y Q j p m t x=>rA ?_;have H:l∉r:=λ F=>(G l (.inr (.inr F))).1 rfl;have Z:=j.blk E H;have P:aC (λ k=>k=l\/k∈K\/k∈r) T h T Q:=(i.seq j).weak λ k _ F=>F.elim (λ C=>.inl C.symm) λ F=>.inr (.inr F);refine U Q (.leaf _ Z rfl (L K d V (some y) Q P ⟨⟨X.gr.step j λ k Y F=>(c3.d1 k Y).2 F,X.gm.step j λ k Y F=>c3.d2 k Y F,p,λ k Y=>⟨(c3.d1 k Y).1,λ F=>?_⟩,λ k Y F=>?_⟩,λ k Y=>.inl Y,λ k Y=>(m k Y).imp id λ Q=>zaa,λ q=>?_,λ q=>?_,zaa,bS x⟩ Z))
  ·rcases m k F with Q|Q
   ·exact(c3.d1 k Y).2 Q
   ·have:=(c3.lt k (.inl Y)).2.1;exact zaa
  ·rcases m k F with Q|Q
   ·exact c3.d2 k Y Q
   ·have:=(c3.lt k (.inr (.inl Y))).2.1;exact zaa
  ·exact⟨.inl,λ F=>F.elim id λ F=>absurd F.1 f⟩
  ·refine(t q).trans ⟨λ F=>F.elim (λ F=>.inr ⟨B,F⟩) .inl,λ F=>F.elim .inr λ F=>.inl F.2⟩
 ·have N:b≠ni:=by rw[B];exact zab
  rcases n with D|⟨u,D⟩
  ·refine rF J.b E.c B D M ?_;refine gY (C:=.val S) O X.gr g a0 (λ k Y F=>(G k (.inl F)).2 Y) (Nat.le_trans a1 z) a2 λ d y Q j p m t x=>rA ?_;have H:l∉K:=λ F=>(G l (.inl F)).1 rfl;have Z:=j.blk E H;have P:aC (λ k=>k=l\/k∈K\/k∈r) T h T Q:=(i.seq j).weak λ k _ F=>F.elim (λ C=>.inl C.symm) λ F=>.inr (.inl F);refine U Q (.leaf _ Z rfl (L d r (some y) W Q P ⟨⟨p,X.gm.step j λ k Y F=>(c3.d1 k F).1 Y,X.ga.step j λ k Y F=>(c3.d1 k F).2 Y,λ k Y=>?_,c3.d2⟩,λ k Y=>(m k Y).imp id λ Q=>zaa,λ k Y=>.inl Y,λ q=>?_,λ q=>?_,bS x,zaa⟩ Z))
   ·rcases m k Y with Q|Q
    ·exact c3.d1 k Q
    ·exact⟨λ F=>cW (c3.lt k (.inr (.inl F))).2.1,λ F=>cW (c3.lt k (.inr (.inr F))).2.1⟩
   ·refine(t q).trans ⟨λ F=>F.elim (λ F=>.inr ⟨D,F⟩) .inl,λ F=>F.elim .inr λ F=>.inl F.2⟩
   ·exact⟨.inl,λ F=>F.elim id λ F=>absurd F.1 N⟩
  ·have f:c≠ni:=by rw[D];exact zab
   have n:=i.le;refine rF J.b E.c B D M ?_;refine oh (S:=S) (T:=S) O (D▸w.resolve_left f) (B▸hl.resolve_left N) λ Q D=>?_;have n:(S.toList==S.toList)=true:=zab;refine rB n ?_;have Z:=D.blk E id;have P:aC (λ k=>k=l\/k∈K\/k∈r) T h T Q:=(i.seq D).weak λ k _ F=>F.elim (λ C=>.inl C.symm) False.elim;exact U Q (.leaf _ Z rfl (L K r V W Q P ⟨X.step D λ _ _=>id,λ k Y=>.inl Y,λ k Y=>.inl Y,λ q=>⟨.inl,λ F=>F.elim id λ F=>absurd F.1 f⟩,λ q=>⟨.inl,λ F=>F.elim id λ F=>absurd F.1 N⟩,zaa,zaa⟩ Z))
set_option maxHeartbeats 1000000 in theorem vK{L:Nat}(Z:aN I h){w z B:Nat}{y:cK}{X T al:Value}{a0 P:bW}{s:bF}{r:cK}(H:blk h m=aE #[a,b,c,d,e,f,g,i,j,T,aB l,bf,aB w,al] 382)(o1:∀S∈[a,b,c,d,e,f,g,i,j,al],aG S=true)(Q:MT 382 626 379 14 L I h m w X T y 1 a0)(O:y=[]\/∃S,y=[S])(a1:a0.length=1*4)(a2:bM I a0 (.fld bA))(F:bM I P (.val s))(a3:I l=aE #[aB u,aB z,aB B] t)(hl:p=ni\/PV I p (bE s))(hr:q=ni\/PV I q (bE s))(a4:p≠ni\/q≠ni)(Y:cO I A)(J:C3 L I h u z B K N r V W)(G:∀k,k∈K\/k∈N\/k∈r->k≠m/\k∉aY w X T y)(E:L<=h.size)(a5:(V.getD []).length<2147483646)(a6:(W.getD []).length<2147483646)(hR:∀t a7 a8 a9 M E S U,aC (λ k=>k=m\/k∈aY w X T y\/k∈K\/k∈r) I h I U->Qa L I h U u z B K N r V W t a7 a8 a9 p q s->blk U m=aE #[a,b,c,d,e,f,g,i,j,E,aB l,bf,aB w,al] 382->MT 382 626 379 14 L I U m w M E [S] 1 a0->(∀k∈aY w M E [S],k∈aY w X T y\/h.size<=k)->(∀k,k∈t\/k∈N\/k∈a7->k≠m/\k∉aY w M E [S])->R n0 U):Cf h 391 #[aB m,.pointer (some A),.agg P.toArray,p,q] R:=by
 obtain⟨U,⟨u,R,rfl,B⟩,aa⟩:=Y;have ab:aG p=true:=by rcases hl with rfl|⟨_,_,rfl,_⟩<;>rfl
 have ac:aG q=true:=zcY;have e:=Z.dom B;have a:=aF H;have f:=F.one;have ae:=F;obtain⟨p0,g,p2,p3,rfl⟩:=cL F.1;have s0:=f p0 zab;have d:=f g zab;have C:=f p2 zab;have V:=f p3 zab;have P:=At.of Z B;have W:aI h u 0=some nilp:=by have:=P 0 nilp rfl;exact zai
 have A:aI h u 1=some (.pointer (some U)):=by have:=P 1 (.pointer (some U)) rfl;exact zai
 have B:aI h u 2=some nilp:=by have:=P 2 nilp rfl;exact zai
 have e:aI h u 3=some nilp:=by have:=P 3 nilp rfl;exact zai
 have i:aI h u 4=some nilp:=by have:=P 4 nilp rfl;exact zai
 have b:aI h u 5=some bf:=by have:=P 5 bf rfl;exact zai
 have z:aD I h I (h.push (aV #[p0,g,p2,p3] 369)):=aP Z;have Y:=Q.step z a id (λ _ _=>id);have af:=J.step z λ _ _=>id;have f:=Q.lts;have Z:=J.lt;apply Sg;try simp(disch:=omega)only[go_sem,↓reduceIte,s0,d,C,V,W,A,B,e,i,b,aA H]
 refine px (L:=L) (o:=w) (a:=X) (b:=T) (a0:=y) (x:=a0) (a1:=1) z.sat rfl (z.blk H id) Q.wI ?_ ?_ (.inr ⟨rfl,Y.sp,O,Y.nd⟩) Y.po zaa ae (by(try simp only[bJ]);exact zaa) λ J e M E f d u i V a R=>?_
 ·intro S O;simp only[List.mem_cons,List.not_mem_nil,or_false]at O;rcases O with rfl|rfl|rfl|rfl|rfl|rfl|rfl|rfl|rfl|rfl|rfl|rfl<;>first|rfl|exact o1 _ zab
 ·intro S O;exact zao
 have Q:e=w:=R rfl;rw[Q]at u i V a;have e:blk f J=aE #[ni,ni,c,nilp,.pointer (some U),nilp,nilp,nilp,bf,E,aB l,bf,aB w,al] 382:=i;have W:=d.sat;have F:=d.size;(try simp only[bJ]at F);have P:J∈aY w X T y\/h.size<=J:=(a J zab).imp id λ Q=>by(try simp only[bJ]at Q);exact zaa
 have S:∀k∈aY w M E [],k∈aY w X T y\/h.size<=k:=λ k Y=>(a k (c6 Y)).imp id λ Q=>by(try simp only[bJ]at Q);exact zaa
 have H:∀k,k∈K\/k∈N\/k∈r->k≠m/\k≠J/\k∉aY w M E []:=λ k Y=>⟨(G k Y).1,λ C=>(C▸P).elim (G k Y).2 λ Q=>cW (Z k Y).2.1,λ F=>(S k F).elim (G k Y).2 λ Q=>cW (Z k Y).2.1⟩;have a:=af.step d λ k Y F=>F.elim (G k Y).1 (G k Y).2;refine rD e.b ab ac ?_;have T:=aC.put (o:=1) (v:=q) (aC.put (o:=0) (v:=p) (aC.refl (D:=Eq J) W) (.inr rfl) V.w3I) (.inr rfl) V.w3I;have R:blk (aO (aO f J 0 p) J 1 q) J=aE #[p,q,c,nilp,.pointer (some U),nilp,nilp,nilp,bf,E,aB l,bf,aB w,al] 382:=bz i;have X:=V.wn.1;have y:J∉aY w M E []:=(List.nodup_cons.1 (List.nodup_cons.1 V.nd).2).1;have b:=V.step T (aF u) (aF i) (λ C=>X C.symm) V.w3I (λ k Y C=>y (C▸Y));have A:=T.blk u (λ C=>X C.symm);have O:=a.step T λ k Y C=>(H k Y).2.1 C.symm;have e:=T.size;have a:Rows (bM I) (a0++[p0,g,p2,p3]) [.fld bA,.val s]:=Rows.cons a2 (bS (Rows.cons ae Rows.nil));refine DV (n:=L) (m:=L) (S:=s) T.sat R V.w3I a3 hl hr a4 aa O b.po a (λ k Y=>⟨(H k Y).2.1,λ F=>(H k Y).2.2 (eU F)⟩) (λ F=>y (eU F)) zaa a5 a6 λ t a7 a8 a9 Q j O B=>?_;have W:blk Q J=aE #[p,q,c,nilp,.pointer (some U),nilp,nilp,nilp,bf,E,aB l,bt,aB w,al] 382:=B;have a:=j.size;have I:∀k,k∈aY w M E []\/k=m->¬(k=J\/k∈K\/k∈r):=by
  intro k Y F;rcases Y with Y|Y
  ·rcases F with F|F|F
   ·exact y (F▸Y)
   ·exact(H k (.inl F)).2.2 Y
   ·exact(H k (.inr (.inr F))).2.2 Y
  ·rcases F with F|F|F
   ·exact X (Y▸F)
   ·exact(H k (.inl F)).1 Y
   ·exact(H k (.inr (.inr F))).1 Y
 have Z:=j.blk A (I m (.inr rfl));have W:=b.step j (aF A) (aF R) (I m (.inr rfl)) V.w3I (λ k Y=>I k (.inl Y));have p:=O.c.lt;have L:=b.lts;refine rA ?_;refine Dc (x:=a0) (w:=[p0,g,p2,p3]) j.sat Z B rfl rfl a1 W zaa zab λ R L G a b h y=>?_;have c:∀k,k∈t\/k∈N\/k∈a7->(k∈K\/k∈N\/k∈r)\/f.size<=k:=by
  intro k Y;rcases Y with Y|Y|Y
  ·exact(O.nr k Y).imp .inl λ Q=>zaa
  ·exact .inl (.inr (.inl Y))
  ·exact(O.na k Y).imp (λ Q=>.inr (.inr Q)) λ Q=>zaa
 have W:=aF u;have q:=aF i;have Z:∀k,k∈t\/k∈N\/k∈a7->k≠m/\k≠J/\k∉aY w M E []:=by
  intro k Y;rcases c k Y with B|B
  ·exact H k B
  ·exact⟨zaa,zaa,λ F=>cW (V.lts k F)⟩
 have A:=O.c.step a λ k Y F=>F.elim (λ C=>(Z k Y).1 C) λ F=>(Z k Y).2.2 F;have C:=a.size;refine rA ?_;refine hR t a7 a8 a9 R L J G (((((z.seq d).seq T).seq j).seq a).weak λ k Y F=>?_) ⟨A,λ k Y=>(O.nr k Y).imp id λ Q=>zaa,λ k Y=>(O.na k Y).imp id λ Q=>zaa,O.mr,O.ma,O.lr,O.la⟩ b h (λ k Y=>?_) λ k Y=>⟨(Z k Y).1,λ F=>?_⟩
 ·rcases F with(((F|F|F)|F)|F|F|F)|F|F
  ·exact F.elim
  ·exact zcp
  ·exact .inr (.inl F)
  ·rcases P with Q|Q
   ·exact .inr (.inl (F▸Q))
   ·exact zaa
  ·rcases P with Q|Q
   ·exact .inr (.inl (F▸Q))
   ·exact zaa
  ·exact .inr (.inr (.inl F))
  ·exact .inr (.inr (.inr F))
  ·exact zcp
  ·rcases S k F with Q|Q
   ·exact .inr (.inl Q)
   ·exact zaa
 ·rcases y k Y with Q|Q
  ·rcases List.mem_cons.1 Q with Q|Q
   ·exact Q▸P
   ·exact S k Q
  ·exact .inr zaa
 ·rcases y k F with Q|Q
  ·rcases List.mem_cons.1 Q with Q|Q
   ·exact(Z k Y).2.1 Q
   ·exact(Z k Y).2.2 Q
  ·have:=(p k Y).2.1;exact zaa
def Vj:(Lp (∃e:V1,(∀f g,e f g->(Lp (∃e:V1,(∀g i,e g i->(Lp (∃e:V1,(∀i j,e i j->(Mz j 251 i0 i λ e i=>Cf i 388 #[g] λ i j=>bH j 607 i λ i j=>Lp (∃(k:V3)(l:N3),k n0 e i0 j/\∀e j m n,k e j m n->(Bi n .lss 3 m g λ g=>Cd g (Lp (∃d:V2,(∀a b c,d a b c->(Bi c .add 3 m i1 λ d=>(k a b d c/\l a b d c<l e j m n)))/\(Iv n c "At" #[m] λ c f=>Lp (∃g:V2,(∀a b f,g a b f->(Eb f .neq 109 false true b ni λ b=>Cd b (Cf f 194 #[(aU ⟨#[101,108,101,109,101,110,116]⟩)] λ a b=>Ap b 323 e a λ a b=>d a j b) (Ld f 369 a λ b=>Cf f 389 #[i,b] λ b f=>aW b λ b g=>Cd g (Ta f b 20 610 false λ b=>Ld f 369 a λ g=>Bs f 610 1 #[(0,c)] λ c f=>bh f 369 a g/\(Ap f 610 b c λ b c=>bh c 369 a g/\(Mi c 610 b λ a=>Cf c 390 #[i,g,a] λ _ a=>d e j a))) (Ld f 369 a λ b=>Bs f 610 1 #[(0,c)] λ c f=>Mi f 610 c λ c=>Cf f 390 #[i,b,c] λ _ b=>Ld b 369 a λ a=>Bs b 251 1 #[(0,a)] λ a b=>Ap b 251 j a λ a b=>d e a b))))/\(Nc a<|Fa f 382 a 8 λ d=>Ld f 225 d λ e=>bg f 382 a 2 λ i=>Ld f 86 i λ j=>(Cf f 332 #[e,j,b,c] λ b c=>aW b λ b f=>Al c 369 λ c k=>aX k 382 a 8 d 225 e<|aX k 382 a 2 i 86 j<|(Sr k 369 c b λ a=>g c f a))/\(Al f 369 λ f k=>aX k 382 a 8 d 225 e<|aX k 382 a 2 i 86 j<|(Cf k 332 #[e,j,b,c] λ a b=>aW a λ a c=>Sr b 369 f a λ a=>g f c a))))))) (Cf n 388 #[f] λ c g=>bH g 607 c λ c g=>Lp (∃(k:V3)(l:N3),k e j i0 g/\∀e g j m,k e g j m->(Bi m .lss 3 j f λ f=>Cd f (Lp (∃f:V2,(∀a b c,f a b c->(Bi c .add 3 j i1 λ d=>(k a b d c/\l a b d c<l e g j m)))/\(Iv m d "At" #[j] λ d j=>Lp (∃k:V2,(∀a b j,k a b j->(Eb j .neq 109 false true b ni λ b=>Cd b (Cf j 194 #[(aU ⟨#[101,108,101,109,101,110,116]⟩)] λ a b=>Ap b 323 e a λ a b=>f a g b) (Ld j 369 a λ b=>Cf j 389 #[c,b] λ b j=>aW b λ b k=>Cd k (Ta j b 20 610 false λ b=>Ld j 369 a λ i=>Bs j 610 1 #[(0,d)] λ d j=>bh j 369 a i/\(Ap j 610 b d λ b d=>bh d 369 a i/\(Mi d 610 b λ a=>Cf d 390 #[c,i,a] λ _ a=>f e g a))) (Ld j 369 a λ b=>Bs j 610 1 #[(0,d)] λ d j=>Mi j 610 d λ d=>Cf j 390 #[c,b,d] λ _ b=>Ld b 369 a λ c=>Cf b 389 #[i,c] λ b c=>aW b λ _ b=>cD c b (Ld c 369 a λ a=>Bs c 251 1 #[(0,a)] λ a b=>Ap b 251 g a λ a b=>f e a b) (f e g c)))))/\(Nc a<|Fa j 382 a 8 λ c=>Ld j 225 c λ e=>bg j 382 a 2 λ f=>Ld j 86 f λ g=>(Cf j 332 #[e,g,b,d] λ b d=>aW b λ b i=>Al d 369 λ d j=>aX j 382 a 8 c 225 e<|aX j 382 a 2 f 86 g<|(Sr j 369 d b λ a=>k d i a))/\(Al j 369 λ i j=>aX j 382 a 8 c 225 e<|aX j 382 a 2 f 86 g<|(Cf j 332 #[e,g,b,d] λ a b=>aW a λ a c=>Sr b 369 i a λ a=>k i c a))))))) (Ln m 251 g λ d=>Lp (∃(f:V2)(j:N2),f e i0 m/\∀e k l,f e k l->(Bi l .lss 3 k d λ d=>Cd d (Lp (∃d:V1,(∀a b,d a b->(Bi b .add 3 k i1 λ c=>(f a c b/\j a c b<j e k l)))/\(Ia l 251 g k λ f=>Ld l 369 f λ f=>bH l 369 f λ f g=>Lp (∃j:V1,(∀g i,j g i->(Lp (∃j:V1,(∀c i,j c i->(Ln i 610 g λ j=>Eb i .eql 3 false true j i0 λ j=>aH i j (λ a b=>a c b) λ i k=>aH k j (λ a b=>Ln b 610 i λ c=>a c b) λ i k=>aH k j (λ a b=>Eb b .eql 3 false true i i0 λ c=>a c b) λ i k=>Pk j i bf λ i=>Cd i (R e k) (Ln k 610 g λ i=>Bi k .leq 3 i i1 λ i=>aH k i (λ a b=>a c b) λ j k=>aH k i (λ a b=>Ln b 610 j λ c=>a c b) λ j k=>aH k i (λ a b=>Bi b .leq 3 j i1 λ c=>a c b) λ j k=>Pk i j bf λ i=>Cd i (Lp (∃i:V1,(∀g j,i g j->(Lp (∃i:V1,(∀c j,i c j->(Ld j 369 f λ f=>Cf j 391 #[a,b,f,g,c] λ a b=>Ap b 323 e a λ a b=>d a b))/\(Ln j 610 c λ a=>bx j 3 a i0 (Ia j 610 c i0 λ a=>Ld j 228 a λ a=>i a j) (i ni j)))))/\(Ln k 610 g λ a=>bx k 3 a i0 (Ia k 610 g i0 λ a=>Ld k 228 a λ a=>i a k) (i ni k)))) (Ln k 610 g λ i=>Bi k .geq 3 i i2 λ i=>aH k i (λ a b=>a c b) λ j k=>aH k i (λ a b=>Ln b 610 j λ c=>a c b) λ j k=>aH k i (λ a b=>Bi b .geq 3 j i2 λ c=>a c b) λ j k=>Pk i j bf λ i=>Cd i (Cv k (.func (.func 392) #[] #[]) #[g,c] λ b c=>cD c b (bg c 382 a 5 λ b=>Ld c 179 b λ g=>bg c 190 g 1 λ i=>Ld c 173 i λ j=>bg c 382 a 4 λ k=>Ld c 252 k λ l=>Ld c 369 f λ f=>Bs c 252 1 #[(0,f)] λ c f=>aX f 382 a 5 b 179 g<|aX f 190 g 1 i 173 j<|aX f 382 a 4 k 252 l<|(Ap f 252 l c λ c f=>aX f 382 a 5 b 179 g<|aX f 190 g 1 i 173 j<|(Cf f 131 #[j,c] λ _ a=>d e a))) (d e c)) (Ln k 610 g λ i=>bv k .geq 3 i i2 (Lp (∃g:V1,(∀b c,g b c->(Nc a<|Fa c 382 a 5 λ e=>Ld c 179 e λ g=>bg c 190 g 0 λ i=>Ld c 173 i λ j=>bg c 382 a 4 λ k=>Ld c 252 k λ l=>Ld c 369 f λ f=>Bs c 252 1 #[(0,f)] λ c f=>aX f 382 a 5 e 179 g<|aX f 190 g 0 i 173 j<|aX f 382 a 4 k 252 l<|(Ap f 252 l c λ c f=>aX f 382 a 5 e 179 g<|aX f 190 g 0 i 173 j<|(Cf f 131 #[j,c] λ _ a=>d b a))))/\(Ln k 610 c λ d=>bx k 3 d i0 (Ld k 369 f λ d=>Ia k 610 c i0 λ c=>Ld k 228 c λ c=>Cf k 391 #[a,b,d,ni,c] λ a b=>Ap b 323 e a λ a b=>g a b) (g e k)))) (Ln k 610 c λ c=>bv k .geq 3 c i2 (Lp (∃c:V1,(∀b e,c b e->(Nc a<|Fa e 382 a 5 λ c=>Ld e 179 c λ g=>bg e 190 g 2 λ i=>Ld e 173 i λ j=>bg e 382 a 4 λ k=>Ld e 252 k λ l=>Ld e 369 f λ f=>Bs e 252 1 #[(0,f)] λ e f=>aX f 382 a 5 c 179 g<|aX f 190 g 2 i 173 j<|aX f 382 a 4 k 252 l<|(Ap f 252 l e λ e f=>aX f 382 a 5 c 179 g<|aX f 190 g 2 i 173 j<|(Cf f 131 #[j,e] λ _ a=>d b a))))/\(Ln k 610 g λ d=>bx k 3 d i0 (Ld k 369 f λ d=>Ia k 610 g i0 λ f=>Ld k 228 f λ f=>Cf k 391 #[a,b,d,f,ni] λ a b=>Ap b 323 e a λ a b=>c a b) (c e k)))) (d e k)))))))/\(Ld i 369 f λ a=>Cf i 389 #[c,a] λ a b=>aW a λ a c=>Cd c (Ta b a 20 610 false λ a=>j a b) (j n0 b)))))/\(Ld g 369 f λ a=>Cf g 389 #[i,a] λ a b=>aW a λ a c=>Cd c (Ta b a 20 610 false λ a=>j a b) (j n0 b)))))) (R e l)))))))))))/\(Bi i .gtr 3 g f λ a=>Cd a (e g i) (e f i)))))/\(Eb g .neq 338 false true c ni λ a=>Cd a (Iv g c "Length" #[] λ a b=>e a b) (e i0 g)))))/\(Eb h .neq 338 false true d ni λ a=>Cd a (Iv h d "Length" #[] λ a b=>e a b) (e i0 h))))->Cf h 384 #[a,b,c,d] R:=mS Tryz.func384 (Z (Z (Y [9] cF (Z (Y [10] cF (Z (Y [11] cF (Z (Z (Q (Z (B (O [8,12,14] (Q cF (Y [8,12] (B (Z (Y [16,17] wf (Q cg (Z (Z (C PW bG))))))) L))))) (Z (Q (Z (B (O [8,12,22] (Q cF (Y [8,12] (B (Z (Y [24,25] wf (Q cg (Z (Z (C PW (Z jb)))))))) L))))) (Q (Z (B (O [8,172] (Z (Q d8 (Y [8] (B (Z (Z (Y [33] jb (Z (Y [36] jb (B (Z (C L (Z (C (Z (Y [39] cF (Z (Y [40] cF L)))) (Z (C (Z (Z (C mP L))) (Z (C PU (Z (C PU L))))))))))))))))) L)))))) L)))))))))))))
def sr(R:KV)(a b c d e f:Value)(g:Heap):Prop:=Ln g 251 f λ i=>Lp (∃(j:V2)(k:N2),j e i0 g/\∀e g H,j e g H->(Bi H .lss 3 g i λ i=>Cd i (Lp (∃i:V1,(∀a b,i a b->(Bi b .add 3 g i1 λ c=>(j a c b/\k a c b<k e g H)))/\(Ia H 251 f g λ f=>Ld H 369 f λ f=>bH H 369 f λ f g=>Lp (∃j:V1,(∀c g,j c g->(Lp (∃j:V1,(∀d g,j d g->(Ln g 610 c λ j=>Eb g .eql 3 false true j i0 λ j=>aH g j (λ a b=>a d b) λ g k=>aH k j (λ a b=>Ln b 610 g λ c=>a c b) λ g k=>aH k j (λ a b=>Eb b .eql 3 false true g i0 λ c=>a c b) λ g k=>Pk j g bf λ g=>Cd g (R e k) (Ln k 610 c λ g=>Bi k .leq 3 g i1 λ g=>aH k g (λ a b=>a d b) λ j k=>aH k g (λ a b=>Ln b 610 j λ c=>a c b) λ j k=>aH k g (λ a b=>Bi b .leq 3 j i1 λ c=>a c b) λ j k=>Pk g j bf λ g=>Cd g (Lp (∃g:V1,(∀c j,g c j->(Lp (∃g:V1,(∀d j,g d j->(Ld j 369 f λ f=>Cf j 391 #[a,b,f,c,d] λ a b=>Ap b 323 e a λ a b=>i a b))/\(Ln j 610 d λ a=>bx j 3 a i0 (Ia j 610 d i0 λ a=>Ld j 228 a λ a=>g a j) (g ni j)))))/\(Ln k 610 c λ a=>bx k 3 a i0 (Ia k 610 c i0 λ a=>Ld k 228 a λ a=>g a k) (g ni k)))) (Ln k 610 c λ g=>Bi k .geq 3 g i2 λ g=>aH k g (λ a b=>a d b) λ j k=>aH k g (λ a b=>Ln b 610 j λ c=>a c b) λ j k=>aH k g (λ a b=>Bi b .geq 3 j i2 λ c=>a c b) λ j k=>Pk g j bf λ g=>Cd g (Cv k (.func (.func 392) #[] #[]) #[c,d] λ b c=>cD c b (bg c 382 a 5 λ b=>Ld c 179 b λ d=>bg c 190 d 1 λ g=>Ld c 173 g λ j=>bg c 382 a 4 λ k=>Ld c 252 k λ H=>Ld c 369 f λ f=>Bs c 252 1 #[(0,f)] λ c f=>aX f 382 a 5 b 179 d<|aX f 190 d 1 g 173 j<|aX f 382 a 4 k 252 H<|(Ap f 252 H c λ c f=>aX f 382 a 5 b 179 d<|aX f 190 d 1 g 173 j<|(Cf f 131 #[j,c] λ _ a=>i e a))) (i e c)) (Ln k 610 c λ g=>bv k .geq 3 g i2 (Lp (∃c:V1,(∀b d,c b d->(Nc a<|Fa d 382 a 5 λ c=>Ld d 179 c λ e=>bg d 190 e 0 λ g=>Ld d 173 g λ j=>bg d 382 a 4 λ k=>Ld d 252 k λ H=>Ld d 369 f λ f=>Bs d 252 1 #[(0,f)] λ d f=>aX f 382 a 5 c 179 e<|aX f 190 e 0 g 173 j<|aX f 382 a 4 k 252 H<|(Ap f 252 H d λ d f=>aX f 382 a 5 c 179 e<|aX f 190 e 0 g 173 j<|(Cf f 131 #[j,d] λ _ a=>i b a))))/\(Ln k 610 d λ g=>bx k 3 g i0 (Ld k 369 f λ f=>Ia k 610 d i0 λ d=>Ld k 228 d λ d=>Cf k 391 #[a,b,f,ni,d] λ a b=>Ap b 323 e a λ a b=>c a b) (c e k)))) (Ln k 610 d λ d=>bv k .geq 3 d i2 (Lp (∃d:V1,(∀b c,d b c->(Nc a<|Fa c 382 a 5 λ d=>Ld c 179 d λ e=>bg c 190 e 2 λ g=>Ld c 173 g λ j=>bg c 382 a 4 λ k=>Ld c 252 k λ H=>Ld c 369 f λ f=>Bs c 252 1 #[(0,f)] λ c f=>aX f 382 a 5 d 179 e<|aX f 190 e 2 g 173 j<|aX f 382 a 4 k 252 H<|(Ap f 252 H c λ c f=>aX f 382 a 5 d 179 e<|aX f 190 e 2 g 173 j<|(Cf f 131 #[j,c] λ _ a=>i b a))))/\(Ln k 610 c λ g=>bx k 3 g i0 (Ld k 369 f λ f=>Ia k 610 c i0 λ c=>Ld k 228 c λ c=>Cf k 391 #[a,b,f,c,ni] λ a b=>Ap b 323 e a λ a b=>d a b) (d e k)))) (i e k)))))))/\(Ld g 369 f λ a=>Cf g 389 #[d,a] λ a b=>aW a λ a c=>Cd c (Ta b a 20 610 false λ a=>j a b) (j n0 b)))))/\(Ld g 369 f λ a=>Cf g 389 #[c,a] λ a b=>aW a λ a c=>Cd c (Ta b a 20 610 false λ a=>j a b) (j n0 b)))))) (R e H)))
def E1(R:KV)(a b c d e f g:Value)(i:Heap)(j:V2)(k:N2):Prop:=Lp (∃H:V1,(∀a b,H a b->(Bi b .add 3 g i1 λ c=>(j a c b/\k a c b<k f g i)))/\(Ia i 251 e g λ e=>Ld i 369 e λ e=>bH i 369 e λ e g=>Lp (∃i:V1,(∀c g,i c g->(Lp (∃i:V1,(∀d g,i d g->(Ln g 610 c λ i=>Eb g .eql 3 false true i i0 λ i=>aH g i (λ a b=>a d b) λ g j=>aH j i (λ a b=>Ln b 610 g λ c=>a c b) λ g j=>aH j i (λ a b=>Eb b .eql 3 false true g i0 λ c=>a c b) λ g j=>Pk i g bf λ g=>Cd g (R f j) (Ln j 610 c λ g=>Bi j .leq 3 g i1 λ g=>aH j g (λ a b=>a d b) λ i j=>aH j g (λ a b=>Ln b 610 i λ c=>a c b) λ i j=>aH j g (λ a b=>Bi b .leq 3 i i1 λ c=>a c b) λ i j=>Pk g i bf λ g=>Cd g (Lp (∃g:V1,(∀c i,g c i->(Lp (∃g:V1,(∀d i,g d i->(Ld i 369 e λ e=>Cf i 391 #[a,b,e,c,d] λ a b=>Ap b 323 f a λ a b=>H a b))/\(Ln i 610 d λ a=>bx i 3 a i0 (Ia i 610 d i0 λ a=>Ld i 228 a λ a=>g a i) (g ni i)))))/\(Ln j 610 c λ a=>bx j 3 a i0 (Ia j 610 c i0 λ a=>Ld j 228 a λ a=>g a j) (g ni j)))) (Ln j 610 c λ g=>Bi j .geq 3 g i2 λ g=>aH j g (λ a b=>a d b) λ i j=>aH j g (λ a b=>Ln b 610 i λ c=>a c b) λ i j=>aH j g (λ a b=>Bi b .geq 3 i i2 λ c=>a c b) λ i j=>Pk g i bf λ g=>Cd g (Cv j (.func (.func 392) #[] #[]) #[c,d] λ b c=>cD c b (bg c 382 a 5 λ b=>Ld c 179 b λ d=>bg c 190 d 1 λ g=>Ld c 173 g λ i=>bg c 382 a 4 λ j=>Ld c 252 j λ k=>Ld c 369 e λ e=>Bs c 252 1 #[(0,e)] λ c e=>aX e 382 a 5 b 179 d<|aX e 190 d 1 g 173 i<|aX e 382 a 4 j 252 k<|(Ap e 252 k c λ c e=>aX e 382 a 5 b 179 d<|aX e 190 d 1 g 173 i<|(Cf e 131 #[i,c] λ _ a=>H f a))) (H f c)) (Ln j 610 c λ g=>bv j .geq 3 g i2 (Lp (∃c:V1,(∀b d,c b d->(Nc a<|Fa d 382 a 5 λ c=>Ld d 179 c λ f=>bg d 190 f 0 λ g=>Ld d 173 g λ i=>bg d 382 a 4 λ j=>Ld d 252 j λ k=>Ld d 369 e λ e=>Bs d 252 1 #[(0,e)] λ d e=>aX e 382 a 5 c 179 f<|aX e 190 f 0 g 173 i<|aX e 382 a 4 j 252 k<|(Ap e 252 k d λ d e=>aX e 382 a 5 c 179 f<|aX e 190 f 0 g 173 i<|(Cf e 131 #[i,d] λ _ a=>H b a))))/\(Ln j 610 d λ g=>bx j 3 g i0 (Ld j 369 e λ e=>Ia j 610 d i0 λ d=>Ld j 228 d λ d=>Cf j 391 #[a,b,e,ni,d] λ a b=>Ap b 323 f a λ a b=>c a b) (c f j)))) (Ln j 610 d λ d=>bv j .geq 3 d i2 (Lp (∃d:V1,(∀b c,d b c->(Nc a<|Fa c 382 a 5 λ d=>Ld c 179 d λ f=>bg c 190 f 2 λ g=>Ld c 173 g λ i=>bg c 382 a 4 λ j=>Ld c 252 j λ k=>Ld c 369 e λ e=>Bs c 252 1 #[(0,e)] λ c e=>aX e 382 a 5 d 179 f<|aX e 190 f 2 g 173 i<|aX e 382 a 4 j 252 k<|(Ap e 252 k c λ c e=>aX e 382 a 5 d 179 f<|aX e 190 f 2 g 173 i<|(Cf e 131 #[i,c] λ _ a=>H b a))))/\(Ln j 610 c λ g=>bx j 3 g i0 (Ld j 369 e λ e=>Ia j 610 c i0 λ c=>Ld j 228 c λ c=>Cf j 391 #[a,b,e,c,ni] λ a b=>Ap b 323 f a λ a b=>d a b) (d f j)))) (H f j)))))))/\(Ld g 369 e λ a=>Cf g 389 #[d,a] λ a b=>aW a λ a c=>Cd c (Ta b a 20 610 false λ a=>i a b) (i n0 b)))))/\(Ld g 369 e λ a=>Cf g 389 #[c,a] λ a b=>aW a λ a c=>Cd c (Ta b a 20 610 false λ a=>i a b) (i n0 b)))))
def BV(T:aK)(J:Value)(A:bF):Prop:=∃b c e,J=.iface 610 (bq b 0 1 1)/\T b=aE #[c] e/\PV T c (bE A)
theorem BV.mono(O:I.le J)(B:BV I a S):BV J a S:=by obtain⟨u,c,C,y,N,K⟩:=B;exact⟨u,c,C,y,O _ _ N,K.mono O⟩
def zo(T:aK)(g:et)(H:bn):Prop:=(∀q∈g,∃A∈H,q.1=.val A/\BV T q.2 A)/\∀A∈H,∃J,(El.val A,J)∈g
theorem zo.mono(O:I.le J){g:et}(B:zo I g z):zo J g z:=⟨λ q p=>zcA,B.2⟩
def MB(V:aK)(O:Nat)(H:bn):Prop:=∃a g,V O=aE #[a] 607/\fE V a g/\dq (g.map Prod.fst)/\zo V g H
theorem MB.mono(O:I.le J)(B:MB I m z):MB J m z:=by obtain⟨a,g,f,i,d,N⟩:=B;exact⟨a,g,O _ _ f,i.mono O,d,N.mono O⟩
theorem MB.get(Z:aN I h)(B:MB I m z){tv:bW}(l:bM I tv (.val S))(y:∀b c e U,aD I h I U->I b=aE #[c] e->PV I c (bE S)->S∈z->R (bj (.iface 610 (bq b 0 1 1)) bt) U)(q:∀U,aD I h I U->S∉z->R (bj ni bf) U):Cf h 389 #[aB m,.agg tv.toArray] R:=by
 obtain⟨a,g,f,i,d,N⟩:=B;refine nI Z f i d l (λ J U G B=>?_) λ U G D=>q U G λ s=>?_
 ·obtain⟨n,o,R,b,c,e,rfl,j,k⟩:=N.1 _ B;have:S=n:=by injection R
  exact y b c e U G j (this▸k) (this▸o)
 ·obtain⟨J,p⟩:=N.2 S s;exact D J p
structure CP where
 base:Nat
 I:aK
 h0:Heap
 w:Nat
 sb:Nat
 x0:Value
 pv0:Value
 ws0:cK
 cb:Nat
 r:Nat
 m:Nat
 a:Nat
 fr0:cK
 fm:cK
 fa0:cK
 c0:Value
 c1:Value
 s:Value
 t0:Value
 t1:Value
 t2:Value
 t3:Value
 t4:Value
 t5:Value
 ab:Nat
 rows:bW
abbrev CP.cell(w:CP)(i:Value):Obj:=aV #[w.c0,w.c1,w.s,w.t0,w.t1,w.t2,w.t3,w.t4,w.t5,i,aB w.cb,bf,aB w.sb,co w.ab] 382
structure CP.Ok(p:CP):Prop where
 o1:∀u∈[p.c0,p.c1,p.s,p.t0,p.t1,p.t2,p.t3,p.t4,p.t5],aG u=true
 rw:bM p.I p.rows (.fld bA)
 bs:p.base<=p.h0.size
 wz:p.w<p.h0.size
 zm:∀k∈aY p.sb p.x0 p.pv0 p.ws0,k<p.h0.size
 cb:∃e,p.I p.cb=aE #[aB p.r,aB p.m,aB p.a] e
structure CS(p:CP)(L R:bn)(done:bn)(J:aK)(h:Heap)(x pv:Value)(ws fr fa:cK)(cR cA:ex):Prop where
 st:aC (λ k=>k=p.w\/k∈aY p.sb p.x0 p.pv0 p.ws0\/k∈p.fr0\/k∈p.fa0) p.I p.h0 J h
 bw:blk h p.w=some (p.cell pv)
 mt:MT 382 626 379 14 p.base J h p.w p.sb x pv ws 1 p.rows
 wl:ws=[]\/∃u,ws=[u]
 nw:∀k∈aY p.sb x pv ws,k∈aY p.sb p.x0 p.pv0 p.ws0\/p.h0.size<=k
 c3:C3 p.base J h p.r p.m p.a fr p.fm fa cR cA
 nr:∀k∈fr,k∈p.fr0\/p.h0.size<=k
 na:∀k∈fa,k∈p.fa0\/p.h0.size<=k
 dj:∀k,k∈fr\/k∈p.fm\/k∈fa->k≠p.w/\k∉aY p.sb x pv ws
 mr:∀y,y∈cR.getD []↔∃t∈done,y=.val t/\t∉R
 ma:∀y,y∈cA.getD []↔∃t∈done,y=.val t/\t∉L
 lr:(cR.getD []).length<=done.length
 la:(cA.getD []).length<=done.length
theorem CS.pur{w:CP}{L:bn}{r:cK}(B:CS w L z y I h a b K N r V W)(G:aD I h J H):CS w L z y J H a b K N r V W:=⟨B.st.trans (G.weak λ _ _=>False.elim),G.blk B.bw id,B.mt.step G (aF B.bw) id λ _ _=>id,B.wl,B.nw,B.c3.step G λ _ _=>id,B.nr,B.na,B.dj,B.mr,B.ma,B.lr,B.la⟩
theorem CS.item{w:CP}(l:w.Ok){L:bn}{r:cK}(B:CS w L z y I h a b K N r V W){per:bW}{str:bF}(t:bM I per (.val str))(f:(c=ni/\str∉L)\/(PV I c (bE str)/\str∈L))(j:(d=ni/\str∉z)\/(PV I d (bE str)/\str∈z))(H:str∈L\/str∈z)(Y:cO I A)(D:y.length<2147483646)(Q:∀E U s m X v i e x,I.le E->h.size<=U.size->CS w L z (y++[str]) E U s m X v i e x->R n0 U):Cf h 391 #[aB w.w,.pointer (some A),.agg per.toArray,c,d] R:=by
 obtain⟨y,q⟩:=l.cb;have D:=B.st.le;have N:=B.st.size;have k:c=ni↔str∉L:=f.elim (λ F=>⟨λ _=>F.2,λ _=>F.1⟩) λ F=>⟨λ C=>absurd C F.1.ne,λ C=>absurd F.2 C⟩;have g:d=ni↔str∉z:=j.elim (λ F=>⟨λ _=>F.2,λ _=>F.1⟩) λ F=>⟨λ C=>absurd C F.1.ne,λ C=>absurd F.2 C⟩;refine vK (L:=w.base) (s:=str) B.st.sat B.bw ?_ B.mt B.wl l.rw.1 (l.rw.mono D) t (D _ _ q) (f.imp (·.1) (·.1)) (j.imp (·.1) (·.1)) ?_ Y B.c3 B.dj (Nat.le_trans l.bs N) (cW B.lr) (cW B.la) λ v i e x M z S U E O j G N Z=>?_
 ·intro J p;simp only[List.mem_cons,List.not_mem_nil,or_false]at p;rcases p with rfl|rfl|rfl|rfl|rfl|rfl|rfl|rfl|rfl|rfl<;>first|rfl|exact l.o1 _ zab
 ·rcases H with F|F
  ·exact .inl λ C=>(k.1 C) F
  ·exact .inr λ C=>(g.1 C) F
 ·have q:=E.size;refine Q I U M z [S] v i e x (aK.le.refl _) q ⟨B.st.trans' E λ r Y F=>?_,j,G,.inr ⟨S,rfl⟩,λ r Y=>?_,O.c,λ r Y=>?_,λ r Y=>?_,Z,λ q=>?_,λ q=>?_,?_,?_⟩
  ·rcases F with F|F|F|F
   ·exact zcp
   ·exact(B.nw r F).elim (λ Q=>.inr (.inl Q)) λ Q=>zaa
   ·exact(B.nr r F).elim (λ Q=>.inr (.inr (.inl Q))) λ Q=>zaa
   ·exact(B.na r F).elim (λ Q=>.inr (.inr (.inr Q))) λ Q=>zaa
  ·exact(N r Y).elim (B.nw r) λ Q=>.inr zaa
  ·exact(O.nr r Y).elim (B.nr r) λ Q=>.inr zaa
  ·exact(O.na r Y).elim (B.na r) λ Q=>.inr zaa
  ·rw[O.mr,B.mr,g];exact zaw
  ·rw[O.ma,B.ma,k];exact zaw
  ·have:=O.lr;have:=B.lr;rw[List.length_append];simp;exact zaa
  ·have:=O.la;have:=B.la;rw[List.length_append];simp;exact zaa
theorem MM{w:CP}(p:w.Ok){L P:bn}(M:∀G∈P,G∈L\/G∈z)(Y:cO I A)(gL:MB I m L)(gR:MB I n z)(q:ck I a (P.map El.val))(d:o<P.length)(j:P.length<1000000000){r:cK}(H:CS w L z (P.take o) I h b c K N r V W){t:Value->Value->Heap->Prop}{G:Value->Value->Heap->Nat}(Q:∀E U s T X F i e x,I.le E->CS w L z (P.take (o+1)) E U s T X F i e x->t n0 (aR ((o:Int)+1)) U/\G n0 (aR ((o:Int)+1)) U<G n0 (aR (o:Int)) h):E1 R (aB w.w) (.pointer (some A)) (aB m) (aB n) a n0 (aR (o:Int)) h t G:=by
 obtain⟨a,n,rfl,-,-⟩:=q.slice;have m:(P.map El.val).length=P.length:=zab;have Z:=H.st.sat;unfold E1;refine⟨λ C U=>C=n0/\∃E s T X F i e x,I.le E/\CS w L z (P.take (o+1)) E U s T X F i e x,?_,?_⟩
 ·rintro C U⟨rfl,E,s,T,X,F,i,e,x,f,v⟩;have t:(o:Int)+1<9223372036854775808:=zaa;refine rA ?_;exact Q E U s T X F i e x f v
 ·refine q.rowK (o:=o) (bS d) λ u Q u q a0 J G l hc=>?_;rw[List.getElem_map]at l;have g:=hc Z;have v:=l.one;have Q:=v u zab;have a:=v q zab;have y:=v a0 zab;have D:=v J zab;refine(wR Z (a:=u) (c:=q) (d:=a0) (e:=J)).elim λ B R=>?_;have S:=R.1.le;have S1:=R.1.sat;have a1:=H.pur R.1;have a2:=R.2;have a3:=l.mono S;try simp(disch:=omega)only[go_sem,↓reduceIte,G,m,g.1,g.2.1,g.2.2.1,g.2.2.2,Q,a,y,D]
  have a4:∀{f y:Value}{t:Heap}{R:aK},B.le R->CS w L z (P.take o) R t b c K N r V W->((f=ni/\P[o]∉L)\/(PV R f (bE P[o])/\P[o]∈L))->((y=ni/\P[o]∉z)\/(PV R y (bE P[o])/\P[o]∈z))->∀{l:KV},(∀U E s T X F i e x,I.le E->CS w L z (P.take (o+1)) E U s T X F i e x->l n0 U)->Cf t 391 #[aB w.w,.pointer (some A),.agg #[u,q,a0,J],f,y] l:=by intro f y t R n g f G l O;refine CS.item (per:=[u,q,a0,J]) p g (a3.mono n) f G (M _ (List.getElem_mem d)) ((Y.mono S).mono n) (by rw[List.length_take];exact zaa) λ Z Q A h T l e i y X a Y=>?_;refine O Q Z A h T l e i y ((S.trans n).trans X) ?_;rw[fu d];exact Y
  refine⟨λ G x=>((G=n0/\P[o]∉L)\/∃l j C,G=bq l 0 1 1/\P[o]∈L/\B l=aE #[j] C/\PV B j (bE P[o]))/\CS w L z (P.take o) B x b c K N r V W,?_,?_⟩
  ·rintro G x⟨p,I⟩;have i:=I.st.sat;refine⟨λ h t=>((h=n0/\P[o]∉z)\/∃l j C,h=bq l 0 1 1/\P[o]∈z/\B l=aE #[j] C/\PV B j (bE P[o]))/\CS w L z (P.take o) B t b c K N r V W,?_,?_⟩
   ·rintro h t⟨n,g⟩;have O:=g.st.sat;rcases p with⟨ev,v⟩|⟨l,j,B,ev,H,b,A⟩
    ·rcases n with⟨f,U⟩|⟨m,s,D,f,o,h,c⟩
     ·exact absurd (M _ (List.getElem_mem d)) (by simp[v,U])
     ·try simp(disch:=omega)only[go_sem,↓reduceIte,ev,f]
      refine⟨λ B Q=>B=ni/\t=Q,?_,?_⟩
      ·rintro B Q⟨rfl,rfl⟩;refine⟨λ B Q=>B=s/\t=Q,?_,?_⟩
       ·rintro B Q⟨rfl,rfl⟩;refine rB (O _ _ a2).c ?_;refine a4 (aK.le.refl _) g (.inl ⟨rfl,v⟩) (.inr ⟨c,o⟩) λ r e Y F G T Z a p M y=>?_;exact zbk
       ·try simp(disch:=omega)only[go_sem,↓reduceIte,f,aA (O _ _ h)]
      ·try simp(disch:=omega)only[go_sem,↓reduceIte,ev]
    ·rcases n with⟨f,U⟩|⟨m,s,D,f,o,h,c⟩
     ·try simp(disch:=omega)only[go_sem,↓reduceIte,ev,f]
      refine⟨λ B Q=>B=j/\t=Q,?_,?_⟩
      ·rintro B Q⟨rfl,rfl⟩;refine⟨λ B Q=>B=ni/\t=Q,?_,?_⟩
       ·rintro B Q⟨rfl,rfl⟩;refine rB (O _ _ a2).c ?_;refine a4 (aK.le.refl _) g (.inr ⟨A,H⟩) (.inl ⟨rfl,U⟩) λ r e Y F G T Z a p M y=>?_;exact zbk
       ·try simp(disch:=omega)only[go_sem,↓reduceIte,f]
      ·try simp(disch:=omega)only[go_sem,↓reduceIte,ev,aA (O _ _ b)]
     ·try simp(disch:=omega)only[go_sem,↓reduceIte,ev,f]
      refine⟨λ B Q=>B=j/\t=Q,?_,?_⟩
      ·rintro B Q⟨rfl,rfl⟩;refine⟨λ B Q=>B=s/\t=Q,?_,?_⟩
       ·rintro B Q⟨rfl,rfl⟩;refine rB (O _ _ a2).c ?_;refine a4 (aK.le.refl _) g (.inr ⟨A,H⟩) (.inr ⟨c,o⟩) λ r e Y F G T Z a p M y=>?_;exact zbk
       ·try simp(disch:=omega)only[go_sem,↓reduceIte,f,aA (O _ _ h)]
      ·try simp(disch:=omega)only[go_sem,↓reduceIte,ev,aA (O _ _ b)]
   ·refine rB (i _ _ a2).c ?_;refine MB.get (tv:=[u,q,a0,J]) i (gR.mono S) a3 (λ l j C Q D i hc B=>?_) λ Q D B=>?_
    ·refine rA ?_;exact⟨.inr ⟨l,j,C,rfl,B,i,hc⟩,I.pur D⟩
    ·refine rA ?_;exact⟨.inl B,I.pur D⟩
  ·refine rB (S1 _ _ a2).c ?_;refine MB.get (tv:=[u,q,a0,J]) S1 (gL.mono S) a3 (λ l j C Q D i hc B=>?_) λ Q D B=>?_
   ·refine rA ?_;exact⟨.inr ⟨l,j,C,rfl,B,i,hc⟩,a1.pur D⟩
   ·refine rA ?_;exact⟨.inl B,a1.pur D⟩
theorem OE{w:CP}(l:w.Ok){L P:bn}(v:∀G∈P,G∈L\/G∈z)(Y:cO I A)(O:MB I m L)(G:MB I n z)(q:ck I a (P.map El.val))(j:P.length<1000000000){r:cK}(H:CS w L z [] I h b c K N r V W)(Q:∀E U s T X F i e x,I.le E->CS w L z P E U s T X F i e x->R n0 U):sr R (aB w.w) (.pointer (some A)) (aB m) (aB n) n0 a h:=by
 obtain⟨n,t,rfl,-,-⟩:=q.slice;have g:(P.map El.val).length=P.length:=by simp
 unfold sr;try simp(disch:=omega)only[go_sem,↓reduceIte,g]
 refine⟨λ C J B=>C=n0/\∃(M:Nat)(y:aK)(b c:Value)(K N r:cK)(V W:ex),J=aR (M:Nat)/\M<=P.length/\I.le y/\CS w L z (P.take M) y B b c K N r V W,λ _ J _=>match J with|.int _ M=>P.length-M.toNat|_=>0,⟨rfl,0,I,b,c,K,N,r,V,W,rfl,by omega,aK.le.refl _,H⟩,?_⟩;rintro C J B⟨rfl,M,y,S,a,z,p,u,k,D,rfl,d,Z,f⟩;by_cases o:M<P.length
 ·have t:decide ((M:Int)<(P.length:Int))=true:=by simp;omega
  try simp(disch:=omega)only[go_sem,↓reduceIte,t]
  refine MM l v (Y.mono Z) (O.mono Z) (G.mono Z) (q.mono Z) o j f λ E U s T X F i e x O v=>⟨⟨rfl,M+1,E,s,T,X,F,i,e,x,by simp,by omega,Z.trans O,v⟩,?_⟩;show P.length-((M:Int)+1).toNat<P.length-((M:Int)).toNat;omega
 ·have t:decide ((M:Int)<(P.length:Int))=false:=by simp;omega
  try simp(disch:=omega)only[go_sem,↓reduceIte,t]
  have ei:P.take M=P:=List.take_of_length_le (by omega);exact Q y B S a z p u k D Z (ei▸f)
structure GI(I:aK)(h:Heap)(ob:Nat)(done pl:bn)(J:aK)(h7:Heap)(fp:cK)(es:et)(pes:Value)(rows:bW):Prop where
 st:aD I h J h7
 vm:VM 607 h.size J h7 ob fp es
 op:aQ h.size J h7 369 4 pes pl.length rows
 rr:Rows (bM J) rows (pl.map El.val)
 r1:∀u∈rows,aG u=true
 dj:∀k∈pes.bl,k∉fp
 ep:zo J es done
 ln:es.length<=done.length
theorem GI.pur{E:aK}{N:Heap}{g:et}(B:GI I h m z y J H K g a x)(G:aD J H E N):GI I h m z y E N K g a x:=⟨B.st.trans G,B.vm.step G λ _ _=>id,B.op.step G λ _ _=>id,B.rr.mono λ _ _ w=>w.mono G.le,B.r1,B.dj,B.ep.mono G.le,B.ln⟩
theorem GI.init(E:aD I h J H)(K:aQ h.size J H 369 4 a z.length x)(d:Rows (bM J) x (z.map El.val))(N:∀S∈x,aG S=true)(D:m<=H.size)(e:∀k∈a.bl,k<m)(c:h.size<=m)(W:aQ m J H 619 5 b 0 []):GI I h H.size [] z J (aO (H.push (aV #[n0] 607)) H.size 0 b) (H.size::b.bl) [] a x:=by
 have Z:=E.sat;have g:=E.size;have o:aD J H J (aO (H.push (aV #[n0] 607)) H.size 0 b):=aP Z;have T:∀k∈b.bl,m<=k/\k<H.size:=λ k Y=>W.lt Y;refine⟨E.trans o,⟨b,[],Bk,(aQ.put2 ((W.weak c).push _) λ P z=>cW (T P (mem_bl.2 z))),.nil,zab,zab,⟨zab,λ k Y=>c6 Y,λ F=>cW (T _ F)⟩,λ k Y=>?_⟩,K.step o λ _ _=>id,d,N,λ k Y F=>?_,⟨zab,zab⟩,zab⟩
 ·(try simp only[bJ]);rcases List.mem_cons.1 Y with rfl|Y
  ·exact⟨g,zaa,Z.fresh bu⟩
  ·have:=T k Y;exact⟨zaa,zaa,W.2 k (mem_bl.1 Y)⟩
 ·have:=e k Y;rcases List.mem_cons.1 F with Q|Q
  ·exact zaa
  ·have:=T k Q;exact zaa
theorem GI.get0{g:et}(B:GI I h m z y J H K g a x)(t:bM J w (.val S))(l:S∉z)(D:z.length<=1000000)(Q:∀N,aD J H J N->R (bj ni bf) N):Cf H 389 #[aB m,.agg w.toArray] R:=by
 refine kL B.st.sat B.vm t (cW B.ln) (λ J N _ I=>?_) λ N Y _=>Q N Y;obtain⟨A,s,C,-⟩:=B.ep.1 _ I;have:S=A:=by injection C
 exact absurd (this▸s) l
theorem GI.ins{g:et}(a:GI I h m z y J H K g b x){per:bW}(t:bM J per (.val S))(l:S∉z)(D:z.length<=1000000){C:Nat}(j:J n=aE #[c] C)(k:PV J c (bE S))(Q:∀d X N,H.size<=N.size->GI I h m (z++[S]) y J N d X b x->R (.tuple #[]) N):Cf H 390 #[aB m,.agg per.toArray,.iface 610 (bq n 0 1 1)] R:=by
 have v:=a.st.size;refine iy (C:=.val S) a.st.sat a.vm t rfl v (cW a.ln) λ d X N E o nf x ln=>Q d X N E.size ⟨a.st.trans' E λ r Y F=>?_,o,a.op.step E λ P z F=>a.dj P (mem_bl.2 z) F,a.rr,a.r1,λ r Y F=>?_,⟨λ q p=>?_,λ A s=>?_⟩,by have:=a.ln;rw[List.length_append];simp;exact zaa⟩
 ·have:=(a.vm.fps r F).1;exact zaa
 ·rcases nf r F with Q|Q
  ·exact a.dj r Y Q
  ·have:=(a.op.lt Y).2;exact zaa
 ·rcases(x q).1 p with C|⟨-,p⟩
  ·exact⟨S,List.mem_append.2 (.inr (List.mem_singleton.2 rfl)),by rw[C],by rw[C];exact⟨n,c,_,rfl,j,k⟩⟩
  ·obtain⟨A,y,N,K⟩:=a.ep.1 q p;exact⟨A,List.mem_append.2 (.inl y),N,K⟩
 ·rcases List.mem_append.1 s with s|s
  ·obtain⟨d,O⟩:=a.ep.2 A s;refine⟨d,(x _).2 (.inr ⟨λ C=>?_,O⟩)⟩;have:A=S:=bS C;exact l (this▸s)
  ·rw[List.mem_singleton.1 s];exact⟨_,(x _).2 (.inl rfl)⟩
theorem GI.app{T:aK}{g:et}(B:GI T h m z y J H K g a x)(t:bM J [b,c,d,e] (.val S))(Y:y.length<=2147483646)(Q:∀X A N,H.size<=N.size->GI T h m z (y++[S]) J N K g X A->R X N):Ap (H.push (aV #[b,c,d,e] 369)) 251 a (bq H.size 0 1 1) R:=by
 have Z:=B.st.sat;have v:=B.st.size;have v:=t.one;have l:=v b (by simp);have S:=v c (by simp);have M:=v d (by simp);have g:=v e (by simp);refine bY k1 rfl (by omega) (by omega) (H:=#[b,c,d,e]) (v:=y.length) (c:=x) (u:=h.size) (T:=J) Bk (B.op.push _) ((aC.refl (D:=none_) Z).push _).sat rfl (by simpa using⟨l,S,M,g⟩) (by omega) (by(try simp only[aJ,aL,Array.size_push]);omega) λ s k C M E oW=>?_;have p:aC (λ r=>r∈a.bl) J H J k:=aC.touch ((aC.refl (D:=λ r=>r∈a.bl) Z).push _) M λ P z=>⟨.inr (mem_bl.2 z),B.op.2 P z⟩;have L:=p.size;refine Q s (x++[b,c,d,e]) k L ⟨B.st.trans' p λ r Y F=>?_,B.vm.step p λ r Y F=>B.dj r F Y,by simpa using C,?_,λ S O=>?_,λ r Y F=>?_,B.ep,B.ln⟩
 ·have:=(B.op.lt F).1;omega
 ·rw[List.map_append];exact Rows.snoc t B.rr
 ·rcases List.mem_append.1 O with O|O
  ·exact B.r1 S O
  ·exact v S O
 ·rcases oW with Q|⟨P,Q,T⟩
  ·exact B.dj r (mem_bl.2 (Q▸mem_bl.1 Y)) F
  ·have:=mem_bl.1 Y;rw[Q]at this;cases this;have:=(B.vm.fps r F).2.1;(try simp only[aJ,aL,Array.size_push]at T);omega
theorem GI.frz{g:et}(B:GI I h m z y J H K g a x)(D:z.length<=1000000):aD I h (J.fp K H) H/\J.le (J.fp K H)/\MB (J.fp K H) m z/\aQ h.size (J.fp K H) H 369 4 a y.length x:=by
 have Z:=B.st.freeze (λ r=>decide (r∈K)) λ r Y=>.inl (B.vm.fps r (of_decide_eq_true Y)).1;have W:J.le (J.fp K H):=aK.add_le B.st.sat _;have G:∀r,r∈K->(J.fp K H) r=H[r]?:=λ r Y=>zcF;obtain⟨a,u,s,w,f⟩:=B.vm.frz G W (cW B.ln);have c:m∈K:=by obtain⟨h,A,-,-,-,-,-,⟨i1,-⟩,-⟩:=B.vm;exact i1
 exact⟨Z,W,⟨a,g,(G m c).trans u,w,f,B.ep.mono W⟩,⟨B.op.1,λ P z=>(aK.fp_ne λ F=>B.dj P (mem_bl.2 z) F).trans (B.op.2 P z)⟩⟩
def Fi(V:aK)(h:Heap)(A:bF)(B:Value)(U:Heap):Prop:=∃l E u q O J,B=aB l/\aD V h E U/\E l=aE #[u,q,O,J] 369/\bM E [u,q,O,J] (.val A)
theorem sB.frz(B:sB I h S a H):Fi I h S a H:=by obtain⟨l,E,C,L,w,u,q,O,J,h,p⟩:=B;have K:=w.one (b:=l) L;exact⟨l,_,u,q,O,J,C,K.1,aK.one_eq h,p.mono K.2⟩
theorem vZ(Z:aN I h):∃V,aD I h V (h.push (aV #[a] m))/\V h.size=aE #[a] m:=by have K:=(show aD I h I (h.push (aV #[a] m))from aP Z).one (b:=h.size) bu;exact⟨_,K.1,aK.one_eq Bk⟩
def EX(a b c:Value)(d:Heap)(e:V2):Prop:=Nc a<|Fa d 382 a 8 λ f=>Ld d 225 f λ g=>bg d 382 a 2 λ i=>Ld d 86 i λ j=>(Cf d 332 #[g,j,b,c] λ b c=>aW b λ b d=>Al c 369 λ c k=>aX k 382 a 8 f 225 g<|aX k 382 a 2 i 86 j<|(Sr k 369 c b λ a=>e c d a))/\(Al d 369 λ d k=>aX k 382 a 8 f 225 g<|aX k 382 a 2 i 86 j<|(Cf k 332 #[g,j,b,c] λ a b=>aW a λ a c=>Sr b 369 d a λ a=>e d c a))
def EN(R:KV)(a b c d e f g:Value)(i:Heap):Prop:=Cf i 388 #[d] λ i j=>bH j 607 i λ i j=>Lp (∃(k:V3)(H:N3),k f g i0 j/\∀f g j x,k f g j x->(Bi x .lss 3 j d λ d=>Cd d (Lp (∃d:V2,(∀a b c,d a b c->(Bi c .add 3 j i1 λ d=>(k a b d c/\H a b d c<H f g j x)))/\(Iv x c "At" #[j] λ c j=>Lp (∃k:V2,(∀a b j,k a b j->(Eb j .neq 109 false true b ni λ b=>Cd b (Cf j 194 #[(aU ⟨#[101,108,101,109,101,110,116]⟩)] λ a b=>Ap b 323 f a λ a b=>d a g b) (Ld j 369 a λ b=>Cf j 389 #[i,b] λ b j=>aW b λ b k=>Cd k (Ta j b 20 610 false λ b=>Ld j 369 a λ e=>Bs j 610 1 #[(0,c)] λ c j=>bh j 369 a e/\(Ap j 610 b c λ b c=>bh c 369 a e/\(Mi c 610 b λ a=>Cf c 390 #[i,e,a] λ _ a=>d f g a))) (Ld j 369 a λ b=>Bs j 610 1 #[(0,c)] λ c j=>Mi j 610 c λ c=>Cf j 390 #[i,b,c] λ _ b=>Ld b 369 a λ c=>Cf b 389 #[e,c] λ b c=>aW b λ _ b=>cD c b (Ld c 369 a λ a=>Bs c 251 1 #[(0,a)] λ a b=>Ap b 251 g a λ a b=>d f a b) (d f g c)))))/\(Nc a<|Fa j 382 a 8 λ d=>Ld j 225 d λ e=>bg j 382 a 2 λ f=>Ld j 86 f λ g=>(Cf j 332 #[e,g,b,c] λ b c=>aW b λ b i=>Al c 369 λ c j=>aX j 382 a 8 d 225 e<|aX j 382 a 2 f 86 g<|(Sr j 369 c b λ a=>k c i a))/\(Al j 369 λ i j=>aX j 382 a 8 d 225 e<|aX j 382 a 2 f 86 g<|(Cf j 332 #[e,g,b,c] λ a b=>aW a λ a c=>Sr b 369 i a λ a=>k i c a))))))) (Ln x 251 g λ c=>Lp (∃(d:V2)(j:N2),d f i0 x/\∀f k H,d f k H->(Bi H .lss 3 k c λ c=>Cd c (Lp (∃c:V1,(∀a b,c a b->(Bi b .add 3 k i1 λ c=>(d a c b/\j a c b<j f k H)))/\(Ia H 251 g k λ d=>Ld H 369 d λ d=>bH H 369 d λ d g=>Lp (∃j:V1,(∀e g,j e g->(Lp (∃j:V1,(∀g i,j g i->(Ln i 610 e λ j=>Eb i .eql 3 false true j i0 λ j=>aH i j (λ a b=>a g b) λ i k=>aH k j (λ a b=>Ln b 610 i λ c=>a c b) λ i k=>aH k j (λ a b=>Eb b .eql 3 false true i i0 λ c=>a c b) λ i k=>Pk j i bf λ i=>Cd i (R f k) (Ln k 610 e λ i=>Bi k .leq 3 i i1 λ i=>aH k i (λ a b=>a g b) λ j k=>aH k i (λ a b=>Ln b 610 j λ c=>a c b) λ j k=>aH k i (λ a b=>Bi b .leq 3 j i1 λ c=>a c b) λ j k=>Pk i j bf λ i=>Cd i (Lp (∃i:V1,(∀e j,i e j->(Lp (∃i:V1,(∀g j,i g j->(Ld j 369 d λ d=>Cf j 391 #[a,b,d,e,g] λ a b=>Ap b 323 f a λ a b=>c a b))/\(Ln j 610 g λ a=>bx j 3 a i0 (Ia j 610 g i0 λ a=>Ld j 228 a λ a=>i a j) (i ni j)))))/\(Ln k 610 e λ a=>bx k 3 a i0 (Ia k 610 e i0 λ a=>Ld k 228 a λ a=>i a k) (i ni k)))) (Ln k 610 e λ i=>Bi k .geq 3 i i2 λ i=>aH k i (λ a b=>a g b) λ j k=>aH k i (λ a b=>Ln b 610 j λ c=>a c b) λ j k=>aH k i (λ a b=>Bi b .geq 3 j i2 λ c=>a c b) λ j k=>Pk i j bf λ i=>Cd i (Cv k (.func (.func 392) #[] #[]) #[e,g] λ b e=>cD e b (bg e 382 a 5 λ b=>Ld e 179 b λ g=>bg e 190 g 1 λ i=>Ld e 173 i λ j=>bg e 382 a 4 λ k=>Ld e 252 k λ H=>Ld e 369 d λ d=>Bs e 252 1 #[(0,d)] λ d e=>aX e 382 a 5 b 179 g<|aX e 190 g 1 i 173 j<|aX e 382 a 4 k 252 H<|(Ap e 252 H d λ d e=>aX e 382 a 5 b 179 g<|aX e 190 g 1 i 173 j<|(Cf e 131 #[j,d] λ _ a=>c f a))) (c f e)) (Ln k 610 e λ i=>bv k .geq 3 i i2 (Lp (∃e:V1,(∀b f,e b f->(Nc a<|Fa f 382 a 5 λ e=>Ld f 179 e λ g=>bg f 190 g 0 λ i=>Ld f 173 i λ j=>bg f 382 a 4 λ k=>Ld f 252 k λ H=>Ld f 369 d λ d=>Bs f 252 1 #[(0,d)] λ d f=>aX f 382 a 5 e 179 g<|aX f 190 g 0 i 173 j<|aX f 382 a 4 k 252 H<|(Ap f 252 H d λ d f=>aX f 382 a 5 e 179 g<|aX f 190 g 0 i 173 j<|(Cf f 131 #[j,d] λ _ a=>c b a))))/\(Ln k 610 g λ c=>bx k 3 c i0 (Ld k 369 d λ c=>Ia k 610 g i0 λ d=>Ld k 228 d λ d=>Cf k 391 #[a,b,c,ni,d] λ a b=>Ap b 323 f a λ a b=>e a b) (e f k)))) (Ln k 610 g λ g=>bv k .geq 3 g i2 (Lp (∃g:V1,(∀b e,g b e->(Nc a<|Fa e 382 a 5 λ f=>Ld e 179 f λ g=>bg e 190 g 2 λ i=>Ld e 173 i λ j=>bg e 382 a 4 λ k=>Ld e 252 k λ H=>Ld e 369 d λ d=>Bs e 252 1 #[(0,d)] λ d e=>aX e 382 a 5 f 179 g<|aX e 190 g 2 i 173 j<|aX e 382 a 4 k 252 H<|(Ap e 252 H d λ d e=>aX e 382 a 5 f 179 g<|aX e 190 g 2 i 173 j<|(Cf e 131 #[j,d] λ _ a=>c b a))))/\(Ln k 610 e λ c=>bx k 3 c i0 (Ld k 369 d λ c=>Ia k 610 e i0 λ d=>Ld k 228 d λ d=>Cf k 391 #[a,b,c,d,ni] λ a b=>Ap b 323 f a λ a b=>g a b) (g f k)))) (c f k)))))))/\(Ld g 369 d λ a=>Cf g 389 #[i,a] λ a b=>aW a λ a c=>Cd c (Ta b a 20 610 false λ a=>j a b) (j n0 b)))))/\(Ld g 369 d λ a=>Cf g 389 #[e,a] λ a b=>aW a λ a c=>Cd c (Ta b a 20 610 false λ a=>j a b) (j n0 b)))))) (R f H))))))
theorem EO(Z:aN I h)(M:blk h m=aE #[a,b,c,d,e,f,g,i,j,k,p,q,r,co n] 382)(Y:cO I A)(F:PV I s (bE S)){Q:Value->Value->Heap->Prop}(V:∀B U,Fi I h S B U->Q B ni U):EX (aB m) (.pointer (some A)) s h Q:=by
 have i:=aF M;unfold EX;refine rB M.c ?_;refine⟨?_,?_⟩
 ·refine en Z Y F λ w f P X C=>?_;have o:=X.sat;have L:=X.blk M id;have l:=aF L;have v:=C.one;refine Exists.elim (cL C.1) λ u W=>Exists.elim W λ q W=>Exists.elim W λ O W=>Exists.elim W λ J W=>?_;have x:=v u (by rw[W];exact zab);have S:=v q (by rw[W];exact zab);have y:=v O (by rw[W];exact zab);have D:=v J (by rw[W];exact zab);refine rG L.c W x S y D ?_;have G:f P.size=none:=o.fresh bu;exact V _ _ (sB.frz ⟨P.size,f,rfl,X.size,aC.put (aC.put (aC.put (aC.put (X.push _) (.inl X.size) G) (.inl X.size) G) (.inl X.size) G) (.inl X.size) G,u,q,O,J,Bk,W▸C⟩)
 ·refine en (show aD I h I _ from aP Z).sat Y F λ w f P X C=>?_;have t:aD I h f P:=aC.trans (aP Z) X;have R:=X.size;(try simp only[bJ]at R);have N:blk P h.size=aE #[nilp,nilp,nilp,nilp] 369:=X.blk Bk id;have v:=C.one;refine Exists.elim (cL C.1) λ u W=>Exists.elim W λ q W=>Exists.elim W λ O W=>Exists.elim W λ J W=>?_;have x:=v u (by rw[W];exact zab);have S:=v q (by rw[W];exact zab);have y:=v O (by rw[W];exact zab);have D:=v J (by rw[W];exact zab);refine rG N.b W x S y D ?_;have G:f h.size=none:=by rw[X.dom _ (by(try simp only[bJ]);exact zaa) id];exact Z.fresh bu
  exact V _ _ (sB.frz ⟨h.size,f,rfl,Nat.le_refl _,aC.put (aC.put (aC.put (aC.put t (.inl bu) G) (.inl bu) G) (.inl bu) G) (.inl bu) G,u,q,O,J,bz N,W▸C⟩)
noncomputable def fk(L H:bn):bn:=H.filter λ A=>@decide (A∉L) (Classical.propDecidable _)
theorem BX{L:bn}(O:S∈L):fk L (z++[S])=fk L z:=by unfold fk;rw[List.filter_append,List.filter_cons_of_neg (bS O)];exact zab
theorem AW{L:bn}(O:S∉L):fk L (z++[S])=fk L z++[S]:=by unfold fk;rw[List.filter_append,List.filter_cons_of_pos (bS O)];exact zab
theorem ky(L H:bn):(fk L H).length<=H.length:=List.length_filter_le ..
theorem mem_newIn{L:bn}:S∈fk L z↔S∈z/\S∉L:=by unfold fk;simp[List.mem_filter]
set_option maxHeartbeats 1000000 in theorem NQ{T:aK}{O:Heap}{V:Value}{L:bn}{W:Value}(v:blk O m=aE #[a,b,d,f,g,i,j,k,p,q,r,s,V,co o] 382)(ha:cO T A)(X:fF T W z)(dR:z.Nodup)(V:L.length<1000000)(g:z.length<1000000)(y:aD T O J H)(N:MB J l L)(K:aQ O.size J H 369 4 e L.length x)(d:Rows (bM J) x (L.map El.val))(p:∀S∈x,aG S=true)(hK:∀E U a0 i,aD T O E U->MB E l L->MB E i z->ck E a0 ((L++fk L z).map El.val)->sr R (aB m) (.pointer (some A)) (aB l) (aB i) n0 a0 U):EN R (aB m) (.pointer (some A)) W (aR z.length) (aB l) n0 e H:=by
 have Q:=y.sat;unfold EN;refine hO Q zaa λ a h9 f B=>?_;have j:=B.one;refine rB j ?_;have o:=K.step f λ _ _=>id;have G:=GI.init (I:=T) (h:=O) (z:=L) (m:=H.size) (y.trans f) o d p f.size (λ r hk=>(K.lt hk).2) y.size B;refine⟨λ i w F B=>i=n0/\∃(M:Nat)(y:aK)(b:cK)(g:et)(x:bW),F=aR (M:Nat)/\M<=z.length/\J.le y/\GI T O h9.size (z.take M) (L++fk L (z.take M)) y B b g w x,λ _ _ F _=>match F with|.int _ M=>z.length-M.toNat|_=>0,⟨rfl,0,J,_,_,x,rfl,zaa,aK.le.refl _,by simpa[fk]using G⟩,?_⟩;rintro i k F B⟨rfl,M,y,b,g,a1,ev,d,a2,G⟩;have u:=G.st.sat;by_cases o:M<z.length
 ·have t:decide ((M:Int)<(z.length:Int))=true:=by simp;exact zaa
  refine X.elim (λ F=>by have:=F.2;simp[this]at o) λ F=>F.elim λ q p=>?_;try simp(disch:=omega)only[go_sem,↓reduceIte,ev,t]
  refine⟨λ R w H=>R=n0/\∃J b g x,y.le J/\GI T O h9.size (z.take (M+1)) (L++fk L (z.take (M+1))) J H b g w x,λ R w H F=>?_,?_⟩
  ·refine F.2.elim λ E W=>W.elim λ d W=>W.elim λ X W=>W.elim λ A W=>?_;have V:((M:Int)+1)=((M+1:Nat):Int):=zaa;try simp(disch:=omega)only[go_sem,↓reduceIte,ev]
   exact⟨⟨F.1,M+1,E,d,X,A,zab,zaa,a2.trans W.1,W.2⟩,zaa⟩
  ·try simp(disch:=omega)only[go_sem,↓reduceIte,ev,p.1]
   refine jU u (p.2.mono G.st.le) o λ Z T H Y p=>?_;have Q:=G.pur Y;have g:=Q.st.blk v id;have a:aG Z=true:=by obtain⟨a3,i,rfl,-⟩:=p;rfl
   refine⟨λ R D l=>D=ni/\Fi T H z[M] R l,λ R D l F=>?_,?_⟩
   ·refine F.2.elim λ l W=>W.elim λ f W=>W.elim λ u W=>W.elim λ q W=>W.elim λ O W=>W.elim λ f W=>?_;have V:=W.1;have v:=W.2.1;have P:=W.2.2.1;have C:=W.2.2.2;have s:=Q.pur v;have S10:=v.sat;have j:=lM dR o;have E:(z.take M).length<=1000000:=by rw[List.length_take];exact zaa
    have D:(L++fk L (z.take M)).length<=2147483646:=by have:=ky L (z.take M);rw[List.length_append];exact zaa
    have T:=C.one;have x:=T u zab;have H:=T q zab;have W:=T O zab;have q3:=T f zab;refine rD (S10 _ _ P).c F.1 V ?_;refine GI.get0 (w:=[u,q,O,f]) s C j E λ S F=>?_;have l:=s.pur F;have m:=F.sat;refine(vZ m (a:=Z) (m:=228)).elim λ S K=>?_;have Z:=l.pur K.1;have F:=K.1.sat;have T:=K.1.le;refine rD (m _ _ P).c V a ?_;refine GI.ins (per:=[u,q,O,f]) Z (C.mono T) j E K.2 ((p.mono v.le).mono T) λ d X F s l=>?_;have E:=l.st.sat;have F:=E _ _ (T _ _ P);have j:J.le S:=((a2.trans Y.le).trans v.le).trans T;have Z:y.le S:=(Y.le.trans v.le).trans T;refine rC F.c V ?_;refine MB.get (tv:=[u,q,O,f]) E (N.mono j) (C.mono T) (λ a3 q i v f _ _ J=>?_) λ v f J=>?_
    ·refine rA ?_;exact⟨S,d,X,a1,Z,by rw[fu o,BX J];exact l.pur f⟩
    ·have q:=f.sat;have E:=l.pur f;refine rG (q _ _ (T _ _ P)).c V x H W q3 ?_;refine GI.app E (C.mono T) D λ a0 A H H s=>?_;refine⟨rfl,S,d,X,A,Z,?_⟩;rw[fu o,AW J,<-List.append_assoc];exact s
   ·exact EO Y.sat g (ha.mono Q.st.le) p λ R U C=>⟨rfl,C⟩
 ·have t:decide ((M:Int)<(z.length:Int))=false:=by simp;exact zaa
  have ei:z.take M=z:=List.take_of_length_le zaa;rw[ei]at G;have Z:=G.frz zaa;have S:=Z.2.2.2;have D:(L++fk L z).length<=2147483647:=by have:=ky L z;rw[List.length_append];exact zaa
  have i:=Z.1.freeze (λ r=>decide (r∈k.bl)) λ r hk=>.inl (G.op.lt (of_decide_eq_true hk)).1;have X:(y.fp b B).le ((y.fp b B).fp k.bl B):=aK.add_le Z.1.sat _;try simp(disch:=omega)only[go_sem,↓reduceIte,ev,t]
  refine hK _ B k h9.size i (N.mono (a2.trans (Z.2.1.trans X))) (Z.2.2.1.mono X) (ck.of (xs:=a1) ?_ ?_)
  ·rw[List.length_map];refine S.sli D G.r1 λ P z=>?_;show((y.fp b B).fp k.bl B) P=_;unfold aK.fp aK.add;rw[if_pos (decide_eq_true (mem_bl.2 z))]
  ·exact G.rr.mono λ _ _ w=>w.mono (Z.2.1.trans X)
def wQ(R:KV)(a b c d e f g i:Value)(j:Heap):Prop:=Lp (∃(k:V3)(H:N3),k n0 g i0 j/\∀g j x v,k g j x v->(Bi v .lss 3 x f λ f=>Cd f (Lp (∃d:V2,(∀a b c,d a b c->(Bi c .add 3 x i1 λ d=>(k a b d c/\H a b d c<H g j x v)))/\(Iv v c "At" #[x] λ c e=>Lp (∃f:V2,(∀a b e,f a b e->(Eb e .neq 109 false true b ni λ b=>Cd b (Cf e 194 #[(aU ⟨#[101,108,101,109,101,110,116]⟩)] λ a b=>Ap b 323 g a λ a b=>d a j b) (Ld e 369 a λ b=>Cf e 389 #[i,b] λ b e=>aW b λ b f=>Cd f (Ta e b 20 610 false λ b=>Ld e 369 a λ f=>Bs e 610 1 #[(0,c)] λ c e=>bh e 369 a f/\(Ap e 610 b c λ b c=>bh c 369 a f/\(Mi c 610 b λ a=>Cf c 390 #[i,f,a] λ _ a=>d g j a))) (Ld e 369 a λ b=>Bs e 610 1 #[(0,c)] λ c e=>Mi e 610 c λ c=>Cf e 390 #[i,b,c] λ _ b=>Ld b 369 a λ a=>Bs b 251 1 #[(0,a)] λ a b=>Ap b 251 j a λ a b=>d g a b))))/\(Nc a<|Fa e 382 a 8 λ d=>Ld e 225 d λ g=>bg e 382 a 2 λ i=>Ld e 86 i λ j=>(Cf e 332 #[g,j,b,c] λ b c=>aW b λ b e=>Al c 369 λ c k=>aX k 382 a 8 d 225 g<|aX k 382 a 2 i 86 j<|(Sr k 369 c b λ a=>f c e a))/\(Al e 369 λ e k=>aX k 382 a 8 d 225 g<|aX k 382 a 2 i 86 j<|(Cf k 332 #[g,j,b,c] λ a b=>aW a λ a c=>Sr b 369 e a λ a=>f e c a))))))) (Cf v 388 #[e] λ c f=>bH f 607 c λ c f=>Lp (∃(k:V3)(H:N3),k g j i0 f/\∀f g j x,k f g j x->(Bi x .lss 3 j e λ e=>Cd e (Lp (∃e:V2,(∀a b c,e a b c->(Bi c .add 3 j i1 λ d=>(k a b d c/\H a b d c<H f g j x)))/\(Iv x d "At" #[j] λ d j=>Lp (∃k:V2,(∀a b j,k a b j->(Eb j .neq 109 false true b ni λ b=>Cd b (Cf j 194 #[(aU ⟨#[101,108,101,109,101,110,116]⟩)] λ a b=>Ap b 323 f a λ a b=>e a g b) (Ld j 369 a λ b=>Cf j 389 #[c,b] λ b j=>aW b λ b k=>Cd k (Ta j b 20 610 false λ b=>Ld j 369 a λ i=>Bs j 610 1 #[(0,d)] λ d j=>bh j 369 a i/\(Ap j 610 b d λ b d=>bh d 369 a i/\(Mi d 610 b λ a=>Cf d 390 #[c,i,a] λ _ a=>e f g a))) (Ld j 369 a λ b=>Bs j 610 1 #[(0,d)] λ d j=>Mi j 610 d λ d=>Cf j 390 #[c,b,d] λ _ b=>Ld b 369 a λ c=>Cf b 389 #[i,c] λ b c=>aW b λ _ b=>cD c b (Ld c 369 a λ a=>Bs c 251 1 #[(0,a)] λ a b=>Ap b 251 g a λ a b=>e f a b) (e f g c)))))/\(Nc a<|Fa j 382 a 8 λ c=>Ld j 225 c λ e=>bg j 382 a 2 λ f=>Ld j 86 f λ g=>(Cf j 332 #[e,g,b,d] λ b d=>aW b λ b i=>Al d 369 λ d j=>aX j 382 a 8 c 225 e<|aX j 382 a 2 f 86 g<|(Sr j 369 d b λ a=>k d i a))/\(Al j 369 λ i j=>aX j 382 a 8 c 225 e<|aX j 382 a 2 f 86 g<|(Cf j 332 #[e,g,b,d] λ a b=>aW a λ a c=>Sr b 369 i a λ a=>k i c a))))))) (Ln x 251 g λ d=>Lp (∃(e:V2)(j:N2),e f i0 x/\∀f k H,e f k H->(Bi H .lss 3 k d λ d=>Cd d (Lp (∃d:V1,(∀a b,d a b->(Bi b .add 3 k i1 λ c=>(e a c b/\j a c b<j f k H)))/\(Ia H 251 g k λ e=>Ld H 369 e λ e=>bH H 369 e λ e g=>Lp (∃j:V1,(∀g i,j g i->(Lp (∃j:V1,(∀c i,j c i->(Ln i 610 g λ j=>Eb i .eql 3 false true j i0 λ j=>aH i j (λ a b=>a c b) λ i k=>aH k j (λ a b=>Ln b 610 i λ c=>a c b) λ i k=>aH k j (λ a b=>Eb b .eql 3 false true i i0 λ c=>a c b) λ i k=>Pk j i bf λ i=>Cd i (R f k) (Ln k 610 g λ i=>Bi k .leq 3 i i1 λ i=>aH k i (λ a b=>a c b) λ j k=>aH k i (λ a b=>Ln b 610 j λ c=>a c b) λ j k=>aH k i (λ a b=>Bi b .leq 3 j i1 λ c=>a c b) λ j k=>Pk i j bf λ i=>Cd i (Lp (∃i:V1,(∀g j,i g j->(Lp (∃i:V1,(∀c j,i c j->(Ld j 369 e λ e=>Cf j 391 #[a,b,e,g,c] λ a b=>Ap b 323 f a λ a b=>d a b))/\(Ln j 610 c λ a=>bx j 3 a i0 (Ia j 610 c i0 λ a=>Ld j 228 a λ a=>i a j) (i ni j)))))/\(Ln k 610 g λ a=>bx k 3 a i0 (Ia k 610 g i0 λ a=>Ld k 228 a λ a=>i a k) (i ni k)))) (Ln k 610 g λ i=>Bi k .geq 3 i i2 λ i=>aH k i (λ a b=>a c b) λ j k=>aH k i (λ a b=>Ln b 610 j λ c=>a c b) λ j k=>aH k i (λ a b=>Bi b .geq 3 j i2 λ c=>a c b) λ j k=>Pk i j bf λ i=>Cd i (Cv k (.func (.func 392) #[] #[]) #[g,c] λ b c=>cD c b (bg c 382 a 5 λ b=>Ld c 179 b λ g=>bg c 190 g 1 λ i=>Ld c 173 i λ j=>bg c 382 a 4 λ k=>Ld c 252 k λ H=>Ld c 369 e λ e=>Bs c 252 1 #[(0,e)] λ c e=>aX e 382 a 5 b 179 g<|aX e 190 g 1 i 173 j<|aX e 382 a 4 k 252 H<|(Ap e 252 H c λ c e=>aX e 382 a 5 b 179 g<|aX e 190 g 1 i 173 j<|(Cf e 131 #[j,c] λ _ a=>d f a))) (d f c)) (Ln k 610 g λ i=>bv k .geq 3 i i2 (Lp (∃g:V1,(∀b c,g b c->(Nc a<|Fa c 382 a 5 λ f=>Ld c 179 f λ g=>bg c 190 g 0 λ i=>Ld c 173 i λ j=>bg c 382 a 4 λ k=>Ld c 252 k λ H=>Ld c 369 e λ e=>Bs c 252 1 #[(0,e)] λ c e=>aX e 382 a 5 f 179 g<|aX e 190 g 0 i 173 j<|aX e 382 a 4 k 252 H<|(Ap e 252 H c λ c e=>aX e 382 a 5 f 179 g<|aX e 190 g 0 i 173 j<|(Cf e 131 #[j,c] λ _ a=>d b a))))/\(Ln k 610 c λ d=>bx k 3 d i0 (Ld k 369 e λ d=>Ia k 610 c i0 λ c=>Ld k 228 c λ c=>Cf k 391 #[a,b,d,ni,c] λ a b=>Ap b 323 f a λ a b=>g a b) (g f k)))) (Ln k 610 c λ c=>bv k .geq 3 c i2 (Lp (∃c:V1,(∀b f,c b f->(Nc a<|Fa f 382 a 5 λ c=>Ld f 179 c λ g=>bg f 190 g 2 λ i=>Ld f 173 i λ j=>bg f 382 a 4 λ k=>Ld f 252 k λ H=>Ld f 369 e λ e=>Bs f 252 1 #[(0,e)] λ e f=>aX f 382 a 5 c 179 g<|aX f 190 g 2 i 173 j<|aX f 382 a 4 k 252 H<|(Ap f 252 H e λ e f=>aX f 382 a 5 c 179 g<|aX f 190 g 2 i 173 j<|(Cf f 131 #[j,e] λ _ a=>d b a))))/\(Ln k 610 g λ d=>bx k 3 d i0 (Ld k 369 e λ d=>Ia k 610 g i0 λ e=>Ld k 228 e λ e=>Cf k 391 #[a,b,d,e,ni] λ a b=>Ap b 323 f a λ a b=>c a b) (c f k)))) (d f k)))))))/\(Ld i 369 e λ a=>Cf i 389 #[c,a] λ a b=>aW a λ a c=>Cd c (Ta b a 20 610 false λ a=>j a b) (j n0 b)))))/\(Ld g 369 e λ a=>Cf g 389 #[i,a] λ a b=>aW a λ a c=>Cd c (Ta b a 20 610 false λ a=>j a b) (j n0 b)))))) (R f H)))))))))
set_option maxHeartbeats 1000000 in theorem DM{V:Value}{L:bn}{S W:Value}(hw:blk h m=aE #[a,b,d,f,g,i,j,k,p,q,r,s,V,co n] 382)(Y:cO I A)(f:fF I S L)(n:fF I W z)(T:L.Nodup)(dR:z.Nodup)(x:L.length<1000000)(bR:z.length<1000000)(G:GI I h o [] [] I H K [] e [])(hK:∀E U X i,aD I h E U->MB E o L->MB E i z->ck E X ((L++fk L z).map El.val)->sr R (aB m) (.pointer (some A)) (aB o) (aB i) n0 X U):wQ R (aB m) (.pointer (some A)) S W (aR z.length) (aR L.length) e (aB o) H:=by
 unfold wQ;refine⟨λ C w J H=>C=n0/\∃(M:Nat)(y:aK)(b:cK)(g:et)(t:bW),J=aR (M:Nat)/\M<=L.length/\GI I h o (L.take M) (L.take M) y H b g w t,λ _ _ J _=>match J with|.int _ M=>L.length-M.toNat|_=>0,⟨rfl,0,I,K,[],[],rfl,zaa,G⟩,?_⟩;rintro C k J H⟨rfl,M,y,b,g,z,ev,d,G⟩;have u:=G.st.sat;by_cases j:M<L.length
 ·have i:decide ((M:Int)<(L.length:Int))=true:=by simp;exact zaa
  refine f.elim (λ F=>by have:=F.2;simp[this]at j) λ F=>F.elim λ q p=>?_;try simp(disch:=omega)only[go_sem,↓reduceIte,ev,i]
  refine⟨λ R w N=>R=n0/\∃V b g t,GI I h o (L.take (M+1)) (L.take (M+1)) V N b g w t,λ R w N F=>?_,?_⟩
  ·refine F.2.elim λ E W=>W.elim λ d W=>W.elim λ o W=>W.elim λ A W=>?_;try simp(disch:=omega)only[go_sem,↓reduceIte,ev]
   exact⟨⟨F.1,M+1,E,d,o,A,zab,zaa,W⟩,zaa⟩
  ·try simp(disch:=omega)only[go_sem,↓reduceIte,ev,p.1]
   refine jU u (p.2.mono G.st.le) j λ H I N R g=>?_;have Q:=G.pur R;have f:=Q.st.blk hw id;have a:aG H=true:=by obtain⟨u,C,rfl,-⟩:=g;rfl
   refine⟨λ B D h=>D=ni/\Fi I N L[M] B h,λ B D h F=>?_,?_⟩
   ·refine F.2.elim λ l W=>W.elim λ h W=>W.elim λ u W=>W.elim λ q W=>W.elim λ O W=>W.elim λ J W=>?_;have V:=W.1;have E:=W.2.1;have P:=W.2.2.1;have C:=W.2.2.2;have s:=Q.pur E;have S10:=E.sat;have t:=lM T j;have r:(L.take M).length<=1000000:=by rw[List.length_take];exact zaa
    have v:=C.one;have W:=v u zab;have S:=v q zab;have y:=v O zab;have D:=v J zab;refine rD (S10 _ _ P).c F.1 V ?_;refine GI.get0 (w:=[u,q,O,J]) s C t r λ b I=>?_;have k:=s.pur I;have m:=I.sat;refine(vZ m (a:=H) (m:=228)).elim λ h K=>?_;have Z:=k.pur K.1;have T:=K.1.le;refine rD (m _ _ P).c V a ?_;refine GI.ins (per:=[u,q,O,J]) Z (C.mono T) t r K.2 ((g.mono E.le).mono T) λ d o k s l=>?_;have E:=l.st.sat;have u:=E _ _ (T _ _ P);refine rG u.c V W S y D ?_;refine GI.app l (C.mono T) zaa λ X A z H b=>?_;refine⟨rfl,h,d,o,A,?_⟩;rw[fu j];exact b
   ·exact EO R.sat f (Y.mono Q.st.le) g λ B U a=>⟨rfl,a⟩
 ·have i:decide ((M:Int)<(L.length:Int))=false:=by simp;exact zaa
  have ei:L.take M=L:=List.take_of_length_le zaa;rw[ei]at G;have Z:=G.frz zaa;try simp(disch:=omega)only[go_sem,↓reduceIte,ev,i]
  exact NQ hw Y n dR x bR Z.1 Z.2.2.1 Z.2.2.2 (G.rr.mono λ _ _ w=>w.mono Z.2.1) G.r1 hK
theorem Ax{w:CP}(o:w.Ok){L:bn}{r:cK}{O:Heap}(H:CS w L z [] w.I O d e K N r V W)(Y:cO w.I A)(f:fF w.I a L)(K:fF w.I b z)(T:L.Nodup)(p:z.Nodup)(x:L.length<1000000)(g:z.length<1000000)(W:∀E U s m X F i e M,CS w L z (L++fk L z) E U s m X F i e M->R n0 U):Cf O 384 #[aB w.w,.pointer (some A),a,b] R:=by
 have Z:=H.st.sat;have M:=H.bw;have P:=aF M;apply Vj;refine⟨λ J y=>J=aR z.length/\y=O,λ J y F=>?_,kA K ⟨rfl,rfl⟩⟩;rw[F.1,F.2];refine⟨λ J y=>J=aR L.length/\y=O,λ J y F=>?_,kA f ⟨rfl,rfl⟩⟩;rw[F.1,F.2];refine⟨λ J y=>(∃v:Nat,J=aR (v:Int)/\v<=1000000)/\y=O,λ J y F=>?_,?_⟩
 ·refine F.1.elim λ v D=>?_;rw[D.1,F.2];refine gw k1 zaa (t:=0) (u:=v) rfl rfl zaa zaa λ d X=>?_;have B:aD w.I O w.I (O.push (aV d 369)):=aP Z;refine hO B.sat zaa λ e Q D S=>?_;have j:=S.one;have P:aQ O.size w.I Q 369 4 (bq O.size 0 0 v) 0 []:=(aQ.made (H:=d) bu Bk (Z.fresh bu) X zaa).step D λ _ _=>id;have G:=GI.init (I:=w.I) (h:=O) (z:=[]) (m:=O.size+1) (B.trans D) P .nil zab (by have:=D.size;(try simp only[bJ]at this);exact zaa) (λ r k=>by have C:(Value.slice (some ⟨O.size,0,none⟩) 0 v).bl=[O.size]:=rfl;rw[C]at k;have:=List.mem_singleton.1 k;exact zaa) zaa (S.weak (by(try simp only[bJ]);exact zaa));refine rB j ?_;show wQ R (aB w.w) (.pointer (some A)) a b (aR z.length) (aR L.length) (bq O.size 0 0 v) (aB Q.size) _;refine DM M Y f K T p x g G λ E U X i E Z u q=>?_;refine OE o (λ G e=>?_) (Y.mono E.le) Z u q (by have:=ky L z;rw[List.length_append];exact zaa) (H.pur E) λ k N M E C g o j q _ y=>W k N M E C g o j q y;exact(List.mem_append.1 e).imp id λ Q=>(mem_newIn.1 Q).1
 ·by_cases o:(z.length:Int)<(L.length:Int)
  ·have t:decide ((z.length:Int)<(L.length:Int))=true:=bS o;refine rB t ?_;exact⟨L.length,rfl,zaa⟩
  ·have t:decide ((z.length:Int)<(L.length:Int))=false:=bS o;refine rB t ?_;exact⟨z.length,rfl,zaa⟩
def GE:(aM h 382 a 0 228 λ c=>Cf h 383 #[a,(aU ⟨#[108,104,115,58,32]⟩),c] λ c d=>aW c λ c _=>bx d 338 c ni (aM d 382 a 8 225 λ e=>Nc e<|aM d 382 a 1 228 λ f=>Cf d 383 #[a,(aU ⟨#[114,104,115,58,32]⟩),f] λ d f=>aW d λ d _=>bx f 338 d ni (aM f 382 a 8 225 λ g=>Nc g<|Eb f .eql 338 false true c ni λ i=>Gd f i false (λ a b=>a c b) λ f j=>Gd j i false (λ a b=>Iv b f "Length" #[] λ b c=>a b c) λ f j=>Gd j i false (λ a b=>Eb b .eql 3 false true f i0 λ c=>a c b) λ f j=>Pk i bt f λ f=>aH j f (λ a b=>a d b) λ i j=>aH j f (λ a b=>Eb b .eql 338 false true i ni λ c=>a c b) λ i j=>aH j f (λ a b=>a i b) λ i j=>Gd j i false (λ a b=>a d b) λ j k=>Gd k i false (λ a b=>Iv b j "Length" #[] λ b c=>a b c) λ j k=>Gd k i false (λ a b=>Eb b .eql 3 false true j i0 λ c=>a c b) λ j k=>aH k f (λ a b=>Pk i bt j λ c=>a c b) λ i j=>Pk f i bf λ f=>aM j 354 b 1 240 λ i=>Eb j .eql 240 false true i (aU ⟨#[97,116,111,109,105,99]⟩) λ i=>Gd j i false (λ a b=>a f b) λ f j=>Pk i bt f λ f=>Cd f (Cf j 379 #[a] λ _ a=>Dg a (cH g d) λ a=>Dg a (cH e c) λ a=>R n0 a) (Eb j .eql 338 false true c ni λ f=>aH j f (λ a b=>a d b) λ i j=>aH j f (λ a b=>Eb b .eql 338 false true i ni λ c=>a c b) λ i j=>Pk f i bf λ f=>Cd f (Dg j (cH g d) λ a=>Dg a (cH e c) λ a=>R n0 a) (Cf j 384 #[a,b,c,d] λ a b=>Dg b (cH g d) λ b=>Dg b (cH e c) λ b=>R a b))) (Eb f .eql 338 false true c ni λ g=>Gd f g false (λ a b=>a c b) λ f i=>Gd i g false (λ a b=>Iv b f "Length" #[] λ b c=>a b c) λ f i=>Gd i g false (λ a b=>Eb b .eql 3 false true f i0 λ c=>a c b) λ f i=>Pk g bt f λ f=>aH i f (λ a b=>a d b) λ g i=>aH i f (λ a b=>Eb b .eql 338 false true g ni λ c=>a c b) λ g i=>aH i f (λ a b=>a g b) λ g i=>Gd i g false (λ a b=>a d b) λ i j=>Gd j g false (λ a b=>Iv b i "Length" #[] λ b c=>a b c) λ i j=>Gd j g false (λ a b=>Eb b .eql 3 false true i i0 λ c=>a c b) λ i j=>aH j f (λ a b=>Pk g bt i λ c=>a c b) λ g i=>Pk f g bf λ f=>aM i 354 b 1 240 λ g=>Eb i .eql 240 false true g (aU ⟨#[97,116,111,109,105,99]⟩) λ g=>Gd i g false (λ a b=>a f b) λ f i=>Pk g bt f λ f=>Cd f (Cf i 379 #[a] λ _ a=>Dg a (cH e c) λ a=>R n0 a) (Eb i .eql 338 false true c ni λ f=>aH i f (λ a b=>a d b) λ g i=>aH i f (λ a b=>Eb b .eql 338 false true g ni λ c=>a c b) λ g i=>Pk f g bf λ f=>Cd f (Dg i (cH e c) λ a=>R n0 a) (Cf i 384 #[a,b,c,d] λ a b=>Dg b (cH e c) λ b=>R a b)))) (aM d 382 a 1 228 λ e=>Cf d 383 #[a,(aU ⟨#[114,104,115,58,32]⟩),e] λ d e=>aW d λ d _=>bx e 338 d ni (aM e 382 a 8 225 λ f=>Nc f<|Eb e .eql 338 false true c ni λ g=>Gd e g false (λ a b=>a c b) λ e i=>Gd i g false (λ a b=>Iv b e "Length" #[] λ b c=>a b c) λ e i=>Gd i g false (λ a b=>Eb b .eql 3 false true e i0 λ c=>a c b) λ e i=>Pk g bt e λ e=>aH i e (λ a b=>a d b) λ g i=>aH i e (λ a b=>Eb b .eql 338 false true g ni λ c=>a c b) λ g i=>aH i e (λ a b=>a g b) λ g i=>Gd i g false (λ a b=>a d b) λ i j=>Gd j g false (λ a b=>Iv b i "Length" #[] λ b c=>a b c) λ i j=>Gd j g false (λ a b=>Eb b .eql 3 false true i i0 λ c=>a c b) λ i j=>aH j e (λ a b=>Pk g bt i λ c=>a c b) λ g i=>Pk e g bf λ e=>aM i 354 b 1 240 λ g=>Eb i .eql 240 false true g (aU ⟨#[97,116,111,109,105,99]⟩) λ g=>Gd i g false (λ a b=>a e b) λ e i=>Pk g bt e λ e=>Cd e (Cf i 379 #[a] λ _ a=>Dg a (cH f d) λ a=>R n0 a) (Eb i .eql 338 false true c ni λ e=>aH i e (λ a b=>a d b) λ g i=>aH i e (λ a b=>Eb b .eql 338 false true g ni λ c=>a c b) λ g i=>Pk e g bf λ e=>Cd e (Dg i (cH f d) λ a=>R n0 a) (Cf i 384 #[a,b,c,d] λ a b=>Dg b (cH f d) λ b=>R a b))) (Eb e .eql 338 false true c ni λ f=>Gd e f false (λ a b=>a c b) λ e g=>Gd g f false (λ a b=>Iv b e "Length" #[] λ b c=>a b c) λ e g=>Gd g f false (λ a b=>Eb b .eql 3 false true e i0 λ c=>a c b) λ e g=>Pk f bt e λ e=>aH g e (λ a b=>a d b) λ f g=>aH g e (λ a b=>Eb b .eql 338 false true f ni λ c=>a c b) λ f g=>aH g e (λ a b=>a f b) λ f g=>Gd g f false (λ a b=>a d b) λ g i=>Gd i f false (λ a b=>Iv b g "Length" #[] λ b c=>a b c) λ g i=>Gd i f false (λ a b=>Eb b .eql 3 false true g i0 λ c=>a c b) λ g i=>aH i e (λ a b=>Pk f bt g λ c=>a c b) λ f g=>Pk e f bf λ e=>aM g 354 b 1 240 λ f=>Eb g .eql 240 false true f (aU ⟨#[97,116,111,109,105,99]⟩) λ f=>Gd g f false (λ a b=>a e b) λ e g=>Pk f bt e λ e=>Cd e (Cf g 379 #[a] λ _ a=>R n0 a) (Eb g .eql 338 false true c ni λ e=>aH g e (λ a b=>a d b) λ f g=>aH g e (λ a b=>Eb b .eql 338 false true f ni λ c=>a c b) λ f g=>Pk e f bf λ e=>Cd e (R n0 g) (Cf g 384 #[a,b,c,d] λ a b=>R a b)))))->Cf h 380 #[a,b] R:=mS Tryz.func380 EC
def Hs:(ce h 228 c ni (R (bj ni n0) h) (aM h 382 a 8 225 λ a=>Cf h 327 #[a,c] λ a b=>aW a λ a c=>bx b 109 c ni (Cf b 194 #[(aU ⟨#[101,114,114,111,114]⟩)] λ a b=>R (bj ni a) b) (R (bj a n0) b)))->Cf h 383 #[a,b,c] R:=mS Tryz.func383 E2
theorem UH(Q:R (bj ni n0) h):Cf h 383 #[aB m,a,ni] R:=by refine Hs (rA ?_);exact Q
theorem B7(Z:aN I h){J X:Value}(M:blk h m=aE #[b,c,d,e,f,g,i,j,k,p,q,r,s,co n] 382)(p:PV I J (.iface 241 X))(Q:∀U,aD I h I U->R (bj (.iface 585 X) n0) U):Cf h 383 #[aB m,a,J] R:=by have ev:∃u,J=.iface 362 u:=za6;obtain⟨u,rfl⟩:=ev;have P:=aF M;refine Hs (rB M.c ?_);refine j6 Z p λ y v=>rA ?_;exact Q y v
theorem wH{w:CP}(D:w.Ok){L:bn}{Q r:cK}(H:CS w L z [] w.I h a b N Q r V W)(Y:cO w.I A)(f:LW w.I w.c0 L)(d:LW w.I w.c1 z)(q:L.Nodup)(p:z.Nodup)(B:L.length<1000000)(g:z.length<1000000)(b:z≠[]){T:KV}(Q:∀E U s m X F i e x,CS w L z (L++fk L z) E U s m X F i e x->T n0 U):Cf h 380 #[aB w.w,.pointer (some A)] T:=by
 have J:=Y;obtain⟨r,⟨r,R,rfl,j⟩,k⟩:=Y;have Z:=H.st.sat;have M:=H.bw;have R:∀{N:Heap},aN w.I N->aI N r 6=some (aU fb):=λ W=>by have:=(At.of W j) 6 (aU fb) rfl;exact zai
 have P:=aF M;have n:∀{k u:Value}{y:Heap},fF w.I k L->fF w.I u z->aD w.I h w.I y->∀{l:KV},(∀U,T n0 U->l n0 U)->Cf y 384 #[aB w.w,aB r,k,u] l:=by intro k u y S o v l c;exact Ax D (H.pur v) J S o q p B g λ E U s m X F i e x j=>c U (Q E U s m X F i e x j)
 have t:∀{q:Value}{H:bn},cd w.I q 1 H.length (H.map bE)->H≠[]->∃A V,q=.slice A H.length V/\(((H.length:Int)==0)=false):=λ s D=>by obtain⟨A,V,rfl,-⟩:=s;refine⟨A,V,rfl,?_⟩;have:=List.length_pos_iff.2 D;simp;exact zaa
 obtain⟨p,O,Q0,I⟩:=d.resolve_left λ F=>b F.2;obtain⟨d,S,D,a⟩:=t Q0 I;rcases f with⟨E,rfl⟩|⟨C,d,X,C⟩
 ·refine GE (rC M.c E ?_);refine UH ?_;refine rB M.c ?_;refine B7 Z M O λ y v=>rE (v.blk M id).c (R v.sat) @c7 D ?_;refine dW ?_;refine rE (v.blk M id).c (R v.sat) @c7 a ?_;refine n (.inl ⟨rfl,rfl⟩) (.inr ⟨_,rfl,D▸Q0⟩) v λ N g=>?_;exact cG g
 ·obtain⟨m,z,B,G⟩:=t X C;refine GE (rB M.c ?_);refine B7 Z M d λ y v=>rE (v.blk M id).c (R v.sat) @c7 B ?_;refine B7 v.sat (v.blk M id) (O.mono v.le) λ N P=>rF ((v.trans P).blk M id).c (R P.sat) @c7 G D ?_;refine dW ?_;refine rF ((v.trans P).blk M id).c (R P.sat) @c7 G D ?_;refine n (.inr ⟨_,rfl,B▸X⟩) (.inr ⟨_,rfl,D▸Q0⟩) (v.trans P) λ g t=>?_;exact cG (T:=λ h=>Dg h _ λ b=>T n0 b) (cG t)
structure ja(J:aK)(r m a:Nat)(L R:bn)(cR cA:ex):Prop where
 fr:cz J (aB r) [] bA cR
 fm:cz J (aB m) [] bA none
 fa:cz J (aB a) (if L=[]then[.fld bA]else[]) bA cA
 mr:∀y,y∈cR.getD []↔∃t∈L,y=.val t/\t∉R
 ma:∀y,y∈cA.getD []↔∃t∈R,y=.val t/\t∉L
 lr:(cR.getD []).length<=L.length+R.length
 la:(cA.getD []).length<=L.length+R.length
theorem ja.mono(O:I.le J){r:Nat}{L:bn}(c:ja I r m n L z V W):ja J r m n L z V W:=⟨c.fr.mono O,c.fm.mono O,c.fa.mono O,c.mr,c.ma,c.lr,c.la⟩
theorem MT.mem{L:Nat}(B:MT m L n o l I h t u a b K v x)(G:∀k,k=t\/k∈aY u a b K->J k=none):MT m L n o l J h t u a b K v x:=⟨⟨B.sp.bk,⟨B.sp.own.1,λ P z=>G P (.inr (eZ (mem_bl.2 z)))⟩,λ S O=>⟨(B.sp.each S O).1,(B.sp.each S O).2.1,G S (.inr (gx O)),(B.sp.each S O).2.2.2⟩,G u (.inr eu),B.sp.sbb,B.sp.sx,B.sp.nd⟩,⟨B.po.1,λ P z=>G P (.inr (eU (mem_bl.2 z)))⟩,B.nd,G t (.inl rfl)⟩
theorem MT.none{L:Nat}(B:MT m L n o l I h t u a b K v x):∀k,k=t\/k∈aY u a b K->I k=.none:=by
 rintro k(rfl|Y)
 ·exact B.wI
 ·simp only[aY,List.mem_cons,List.mem_append]at Y;rcases Y with rfl|Y|Y|Y
  ·exact B.sp.sbI
  ·exact B.sp.own.2 k (mem_bl.1 Y)
  ·exact B.po.2 k (mem_bl.1 Y)
  ·exact(B.sp.each k Y).2.2.1
theorem C3.fps{r:cK}(t:C3 m I h n o l K N r V W):n∈K/\o∈N/\l∈r:=⟨t.gr.fps.1,t.gm.fps.1,t.ga.fps.1⟩
abbrev CP.D(w:CP)(k:Nat):Prop:=k=w.w\/k∈aY w.sb w.x0 w.pv0 w.ws0\/k∈w.fr0\/k∈w.fm\/k∈w.fa0
theorem CS.fin{w:CP}{L:bn}{r:cK}(H:CS w L z (L++fk L z) I h a b K N r V W)(Y:∀k∈w.fm,k<w.h0.size)(x:L.length<1000000)(g:z.length<1000000){M:Prop}(T:∀E,aC w.D w.I w.h0 E h->I.le E->MT 382 626 379 14 w.base E h w.w w.sb a b K 1 w.rows->(∀k∈r,E k=none)->dD w.base E h w.a r bA W->cz E (aB w.r) [] bA V->cz E (aB w.m) [] bA none->(∀q,q∈V.getD []↔∃G∈L,q=.val G/\G∉z)->(∀q,q∈W.getD []↔∃G∈z,q=.val G/\G∉L)->(V.getD []).length<=L.length+z.length->(W.getD []).length<=L.length+z.length->M):M:=by
 have m:=ky L z;have V:=H.lr;have P:=H.la;rw[List.length_append]at V P;have s:aC w.D w.I w.h0 I h:=H.st.weak λ k _ F=>F.imp id λ F=>F.imp id λ F=>F.imp id .inr;have f:=H.c3.gr.doneD s (λ k Y=>(H.nr k Y).elim (λ Q=>.inr (.inr (.inr (.inl Q)))) .inl) zaa;have ni:∀k,k∈w.fm\/k∈r->k∉N:=λ k Y F=>Y.elim (H.c3.d1 k F).1 (H.c3.d1 k F).2;have l:dD w.base (I.fp N h) h w.m w.fm bA none:=⟨H.c3.gm.1,H.c3.gm.2.1,λ k Y=>⟨(H.c3.gm.2.2 k Y).1,(H.c3.gm.2.2 k Y).2.1,(aK.fp_ne (ni k (.inl Y))).trans (H.c3.gm.2.2 k Y).2.2⟩⟩;have i:=l.doneD f.1 (λ k Y=>.inr (.inr (.inr (.inr (.inl Y))))) zab;have S:I.le (I.fp N h):=aK.add_le H.st.sat _;have n:(I.fp N h).le ((I.fp N h).fp w.fm h):=aK.add_le f.1.sat _;have D:∀k,k∉N->k∉w.fm->((I.fp N h).fp w.fm h) k=I k:=λ k y v=>(aK.fp_ne v).trans (aK.fp_ne y);have o:∀k∈r,((I.fp N h).fp w.fm h) k=none:=λ k Y=>(D k (ni k (.inr Y)) λ F=>H.c3.d2 k F Y).trans (H.c3.lt k (.inr (.inr Y))).2.2;have J:dD w.base ((I.fp N h).fp w.fm h) h w.a r bA W:=by
  have P:=H.c3.ga;cases W with
   |none=>exact⟨P.1,P.2.1,λ k Y=>⟨(P.2.2 k Y).1,(P.2.2 k Y).2.1,o k Y⟩⟩
   |some I=>obtain⟨j,t,A,V,O,p,z,a,c,B,u⟩:=P;exact⟨j,t,A,V,O,p,z,a,c,B,{u with elem:=u.elem.mono (S.trans n),own:=⟨u.own.1,λ P z=>o P (u.inx P z)⟩,rows:=u.rows.mono λ _ _ w=>w.mono (S.trans n),fps:=λ k Y=>⟨(u.fps k Y).1,(u.fps k Y).2.1,o k Y⟩}⟩
 refine T _ i.1 (S.trans n) (H.mt.mem λ k Y=>?_) o J (f.2.mono n) i.2 (λ q=>?_) (λ q=>?_) zaa zaa
 ·rw[D k (λ F=>?_) λ F=>?_]
  ·exact H.mt.none k Y
  ·exact Y.elim (H.dj k (.inl F)).1 (H.dj k (.inl F)).2
  ·exact Y.elim (H.dj k (.inr (.inl F))).1 (H.dj k (.inr (.inl F))).2
 ·rw[H.mr];constructor
  ·rintro⟨G,y,v,K⟩;rcases List.mem_append.1 y with y|y
   ·exact⟨G,y,v,K⟩
   ·exact absurd (mem_newIn.1 y).1 K
  ·rintro⟨G,y,v,K⟩;exact⟨G,List.mem_append.2 (.inl y),v,K⟩
 ·rw[H.ma];constructor
  ·rintro⟨G,y,v,K⟩;rcases List.mem_append.1 y with y|y
   ·exact absurd y K
   ·exact⟨G,(mem_newIn.1 y).1,v,K⟩
  ·rintro⟨G,y,v,K⟩;exact⟨G,List.mem_append.2 (.inr (mem_newIn.2 ⟨y,K⟩)),v,K⟩
structure UL(p:CP)(L R:bn)(J:aK)(h:Heap)(x pv:Value)(ws:cK)(cR cA:ex):Prop where
 st:aC p.D p.I p.h0 J h
 bw:blk h p.w=some (p.cell pv)
 mt:MT 382 626 379 14 p.base J h p.w p.sb x pv ws 1 p.rows
 wl:ws=[]\/∃u,ws=[u]
 nw:∀k∈aY p.sb x pv ws,k∈aY p.sb p.x0 p.pv0 p.ws0\/p.h0.size<=k
 cf:ja J p.r p.m p.a L R cR cA
set_option maxHeartbeats 1000000 in theorem DQ{w:CP}(l:w.Ok){L:bn}{r:cK}{O:Heap}(H:CS w L z [] w.I O b c K N r V W)(u:∀k∈w.fm,k<w.h0.size)(j:w.t0=nilp)(J:w.t1=nilp)(i:w.t2=.pointer (some A))(Q:w.t3=nilp)(B:w.t4=nilp)(P:w.t5=bf)(Y:cO w.I A)(f:LW w.I w.c0 L)(hr:LW w.I w.c1 z)(T:L.Nodup)(p:z.Nodup)(x:L.length<1000000)(g:z.length<1000000)(e:z≠[])(hK:∀E U b m X c S,UL w L z E U b m X c S->R n0 U):Cf O 196 #[aB w.w,nf] R:=by
 have Z:=H.st.sat;have S:ij w.I w.s [w.t0,w.t1,w.t2,w.t3,w.t4,w.t5] .li A:=by rw[j,J,i,Q,B,P];exact hB (I:=w.I) (a:=w.s) (r:=.li) (A:=A)
 obtain⟨b,d⟩:=l.cb;refine mK (D:=.li) (A:=A) Z H.bw S f.pvn hr.pvn (.inr (hr.nn e)) (λ U G=>yH G.sat (Y.mono G.le)) λ y v X n=>rA ?_;refine wH l (H.pur v) Y f hr T p x g e λ V N M E C q o j q y=>n N ?_;refine y.fin u x g λ c T W n x J O x t m z P=>?_;have i:=T.sat;by_cases u:L=[]
 ·have B:w.c0=ni:=by
   rcases f with F|⟨A,-,-,D⟩
   ·exact F.1
   ·exact absurd u D
  refine .add _ w.cb b (aB w.r) (aB w.m) (aB w.a) E y.bw rfl (congrArg some B) rfl rfl (i _ _ (T.le _ _ d)) ?_;refine kd n.po zaa λ p V b Z X r=>?_;rw[b];refine lT i J (l.rw.mono T.le) r zaa λ R W S d=>?_;have v:∀k,k=w.w\/k∈aY w.sb M E C->k∉o:=λ k Y F=>Y.elim (y.dj k (.inr (.inr F))).1 (y.dj k (.inr (.inr F))).2;have G:=aF y.bw;refine hK R W M E C j q ⟨T.trans' S λ k Y F=>(y.na k F).elim (λ Q=>.inr (.inr (.inr (.inr Q)))) λ Q=>zaa,S.blk y.bw (v _ (.inl rfl)),n.step S G (v _ (.inl rfl)) λ k Y=>v k (.inr Y),y.wl,y.nw,⟨O.mono S.le,x.mono S.le,by rw[if_pos u];exact d,t,m,z,P⟩⟩
 ·have G:=J.doneD T (λ k Y=>(y.na k Y).elim (λ Q=>.inr (.inr (.inr (.inr (.inr Q))))) .inl) zaa;have W:=aK.add_le i (λ k=>decide (k∈o)) (h:=N);obtain⟨A,⟨l,T,B,-⟩,-,-⟩:=f.resolve_left λ F=>u F.2;obtain⟨b,⟨J,g,D,-⟩,-,-⟩:=hr.resolve_left λ F=>e F.2;refine .both _ _ _ y.bw rfl (congrArg some B) (congrArg some D) ?_;refine hK (c.fp o N) N M E C j q ⟨G.1,y.bw,n.mem λ k Y=>(aK.fp_ne λ F=>?_).trans (n.none k Y),y.wl,y.nw,⟨O.mono W,x.mono W,by rw[if_neg u];exact G.2,t,m,z,P⟩⟩;exact Y.elim (y.dj k (.inr (.inr F))).1 (y.dj k (.inr (.inr F))).2
def UR:(Bx h 9 d λ c d=>aM d 359 b 2 95 λ g=>bH d 95 g λ d g=>Lp (∃i:V0,(∀b,i b->(Bd b 369 #[(0,c)] λ c=>bH b 369 c λ b c=>Ld c 369 b λ b=>Ld c 95 d λ d=>aM c 382 a 5 179 λ g=>Cf c 400 #[a,b,d,g] λ b c=>bC c 382 b 0 228 e λ c=>bC c 382 b 1 228 f λ c=>Cf c 196 #[b,nf] λ c d=>Ap d 323 n0 c λ c d=>Cf d 401 #[a,b] λ _ a=>R c a))/\(Ld g 9 c λ a=>Cf g 220 #[b,a] λ a b=>aW a λ a c=>bH b 417 a λ a b=>Cd c (Fa b 417 a 1 λ a=>Ld b 95 a λ a=>Sr b 95 d a λ a=>i a) (i b))))->Cf h 395 #[a,b,c,d,e,f] R:=mS Tryz.func395 (Z (Z (Y [] jb (Z (Q (X #[0,0,0,0,8,24,56,127,255]) pY)))))
def QB:(Ld h 323 d λ i=>Ld h 379 e λ e=>Ld h 90 f λ f=>Ld h 242 g λ g=>Cf h 395 #[e,f,g,a,b,c] λ a b=>bh b 323 d i/\(Ap b 323 i a λ a b=>Sr b 323 d a λ a=>R (.bool true) a))->Cf h 394 #[a,b,c,d,e,f,g] R:=mS Tryz.func394 P6
set_option maxHeartbeats 1000000 in theorem xj{a0:Nat}(Z:aN I h){E a1 ra:Nat}{P:Value}{a2 F:Addr}{L:bn}{a3 a4:cK}(B:fl I A a)(hf:cd I a 8 2 (c9 bA .li a2++c9 bB .li F))(hx:cO I a2)(M:blk h E=aE #[b,c,d,i,j,p,q,r,s,n0,aB l,bf,nilp,co m] 382)(C:I E=none)(X:∀S∈[b,c,d,i,j,p,q,r,s],aG S=true)(a5:I l=aE #[aB u,aB a1,aB ra] t)(c3:C3 a0 I h u a1 ra a3 K a4 none none)(G:∀k,k∈a3\/k∈K\/k∈a4->k≠E)(a6:a0<=h.size)(hl:LW I f L)(hr:LW I g z)(dL:L.Nodup)(dR:z.Nodup)(bL:L.length<1000000)(bR:z.length<1000000)(a7:z≠[]){T:KV}(hK:∀a y F H V U,aC (λ k=>k=E\/k∈a3\/k∈K\/k∈a4) I h V U->ja V u a1 ra L z F H->blk U E=aE #[b,c,d,i,j,p,q,r,s,a,aB l,bf,aB y,co m] 382->V E=none->T n0 U):Cf h 395 #[aB E,.pointer (some A),P,aU bA,f,g] T:=by
 have a8:=B;obtain⟨J,Q,rfl,U⟩:=B;have V:=Z.dom U;have P:=aF M;have T:=hl.one;have a9:=hr.one;have A:=c3.lt;have O:=X b zab;have V:=X c zab;have c:=X d zab;have V:=X i zab;have Y:=X j zab;have W:=X p zab;have b:=X q zab;have Y:=X r zab;have F:=X s zab;refine UR (rB (Z _ _ U).c ?_);refine⟨λ b=>aD I h I b/\blk b h.size=aE #[aU bA] 9/\blk b (h.size+1)=aE #[nilp,nilp,.pointer (some a2),nilp,nilp,bf] 95,λ b F=>?_,?_⟩
 ·have O:=F.1.sat;have U:=aF F.2.1;have B:=aF F.2.2;have O:=F.1.blk M id;refine(Ae F.1 F.2.1 bu).elim λ s i=>rD F.2.1.c F.2.2.c O.c ?_;refine px (L:=a0) (o:=E) (a:=ni) (a0:=[]) (x:=[]) (a1:=0) (G:=.fld bA) (w:=[aB h.size,nilp,nilp,nilp]) i.1.sat rfl (i.1.blk M id) ((i.1.dom E P id).trans C) ?_ ?_ (.inl ⟨rfl,rfl,rfl,rfl,zap⟩) (aQ.nil ..) zaa i.2 (Nat.le_trans a6 i.1.size) λ J y M a Q j V B W r _=>?_
  ·intro S O;simp only[List.mem_cons,List.not_mem_nil,or_false]at O;rcases O with rfl|rfl|rfl|rfl|rfl|rfl|rfl|rfl|rfl|rfl|rfl|rfl<;>first|assumption|rfl
  ·intro S O;exact zao
  have C:blk Q J=aE #[ni,ni,d,nilp,nilp,.pointer (some a2),nilp,nilp,bf,a,aB l,bf,aB y,co m] 382:=B;have S5:=j.sat;have U:h.size<=b.size:=F.1.size;have c:=i.1.size;have P:aC (λ k=>k=E) I h s Q:=aC.trans' (i.1.weak λ _ _=>False.elim) j λ k Y F=>zbo;have N:∀k∈J::aY y M a [],h.size<=k:=λ k Y=>by
   rcases r k Y with Q|Q
   ·exact zca
   ·exact zaa
  have U:h.size<=J:=N J zab;refine rD C.b T a9 ?_;have T:=aC.put (o:=1) (v:=g) (aC.put (o:=0) (v:=f) (aC.refl (D:=Eq J) S5) (.inr rfl) W.w3I) (.inr rfl) W.w3I;have c:blk (aO (aO Q J 0 f) J 1 g) J=aE #[f,g,d,nilp,nilp,.pointer (some a2),nilp,nilp,bf,a,aB l,bf,aB y,co m] 382:=bz B;have b:J∉aY y M a []:=(List.nodup_cons.1 (List.nodup_cons.1 W.nd).2).1;have q:=W.step T (aF V) (aF B) (λ C=>W.wn.1 C.symm) W.w3I (λ k Y C=>b (C▸Y));have b:=T.blk V (λ C=>W.wn.1 C.symm);have j:=i.1.le;have V:=T.size;have X:=P.size;have H:=(c3.step P G).step T λ k Y C=>cW (A k Y).2.1;have B:CP.Ok ⟨a0,s,aO (aO Q J 0 f) J 1 g,J,y,M,a,[],l,u,a1,ra,a3,K,a4,f,g,d,nilp,nilp,.pointer (some a2),nilp,nilp,bf,m,[aB h.size,nilp,nilp,nilp]⟩:=by refine⟨λ S O=>?_,i.2,Nat.le_trans a6 (Nat.le_trans X V),aF c,q.lts,⟨t,j _ _ a5⟩⟩;simp only[List.mem_cons,List.not_mem_nil,or_false]at O;rcases O with rfl|rfl|rfl|rfl|rfl|rfl|rfl|rfl|rfl<;>first|assumption|rfl
  refine DQ (L:=L) (z:=z) (A:=a2) (b:=M) (c:=a) (K:=[]) (N:=a3) (r:=a4) (V:=none) (W:=none) B ⟨aC.refl T.sat,c,q.mt,.inl rfl,λ k Y=>.inl Y,H,λ k Y=>.inl Y,λ k Y=>.inl Y,λ k Y=>⟨λ(C:k=J)=>cW (A k Y).2.1,λ F=>uF (N k (c6 F)) (A k Y).2.1⟩,zab,zab,zab,zab⟩ (λ k Y=>(H.lt k (.inr (.inl Y))).2.1) rfl rfl rfl rfl rfl rfl (hx.mono j) (hl.mono j) (hr.mono j) dL dR bL bR a7 λ l B s A X p z j=>?_;have u:=j.st;have U:=u.sat;have t:∀k∈aY y s A X,h.size<=k:=λ k Y=>by
   rcases j.nw k Y with V|V
   ·exact N k (c6 V)
   ·have:(aO (aO Q J 0 f) J 1 g).size<=k:=V;exact zaa
  have c:¬(E=J\/E∈aY y M a []\/E∈a3\/E∈K\/E∈a4):=by
   rintro(F|F|F|F|F)
   ·exact zaa
   ·have:=N E (c6 F);exact zaa
   ·exact G E (.inl F) rfl
   ·exact G E (.inr (.inl F)) rfl
   ·exact G E (.inr (.inr F)) rfl
  have O:aC (λ k=>k=E\/k∈a3\/k∈K\/k∈a4) I h l B:=((P.trans' T λ k Y F=>zaa).weak λ k _ F=>Or.inl F).trans' u λ k Y F=>by
   rcases F with F|F|F
   ·have:k=J:=F;exact zaa
   ·have:=N k (c6 F);exact zaa
   ·exact .inr F
  have a:=u.blk b c;have m:l E=none:=(u.dom E (aF b) c).trans q.wI;have B:E∉aY y s A X:=λ F=>cW (t E F);have b:=j.mt.ms (t:=E) (show E≠J by omega) B m W.w3b;have K:=O.size;try simp(disch:=omega)only[go_sem,↓reduceIte,cI d5]
  refine C9 (x:=[]) (w:=[aB h.size,nilp,nilp,nilp]) U a j.bw rfl rfl rfl b (Nat.le_trans a6 K) (by rcases j.wl with C|⟨S,C⟩<;>simp[C]) λ X C G a s X _=>?_;have K:=O.trans' a λ k Y F=>by
   rcases F with F|F
   ·exact zcp
   ·have:=t k F;exact zaa
  exact hK C y p z l G K j.cf s m
 refine rA ?_;refine eo (show aD I h I _ from aP Z).sat a8 hf λ N H=>?_;have C:aD I h I N:=aC.trans (aP Z) H;have W:=C.sat;have g:=H.size;(try simp only[bJ]at g);have F:blk N h.size=aE #[aU bA] 9:=H.blk Bk id;have X:blk N (h.size+1)=aE #[nilp,nilp,nilp,nilp,nilp,bf] 95:=H.blk Bk id;refine rB X.b ?_;exact⟨bX Z C,bz F,bz X⟩
def UW:(Bx h 379 a λ a e=>Bx e 90 b λ b e=>Al e 323 λ e f=>Ag f (Instr.makeMap 242 none) λ f g=>bH g 242 f λ f g=>Ld g 379 a λ i=>aM g 382 i 8 225 λ i=>Cf g 288 #[i,c,d,i0,(.func (.func 394) #[] #[e,a,b,f])] λ _ a=>Ld a 323 e λ b=>Sr a 323 e b λ a=>Rv a 323 e λ b=>R b a)->Cf h 386 #[a,b,c,d] R:=mS Tryz.func386 uw
structure WC where
 w:Nat
 ab:Nat
 cb:Nat
 r:Nat
 m:Nat
 a:Nat
 rl:Value
 rr:Value
 s:Value
 t0:Value
 t1:Value
 t2:Value
 t3:Value
 t4:Value
 t5:Value
abbrev WC.cell(p:WC)(i V:Value):Obj:=aV #[p.rl,p.rr,p.s,p.t0,p.t1,p.t2,p.t3,p.t4,p.t5,i,aB p.cb,bf,V,co p.ab] 382
structure CZ(q:WC)(eb:Nat)(L R:bn)(J:aK)(h:Heap)(pv:Value)(sb:Nat)(cR cA:ex):Prop where
 cf:ja J q.r q.m q.a L R cR cA
 bw:blk h q.w=some (q.cell pv (aB sb))
 jw:J q.w=none
 be:blk h eb=aE #[n0] 323
 je:J eb=none
theorem CZ.pur{p:WC}{L:bn}(B:CZ p m L z I h a n V W)(G:aD I h J H):CZ p m L z J H a n V W:=⟨B.cf.mono G.le,G.blk B.bw id,(G.dom _ (aF B.bw) id).trans B.jw,G.blk B.be id,(G.dom _ (aF B.be) id).trans B.je⟩
theorem BP{j:Nat}(Z:aN I h)(p:WC){P:Nat}{X q:Addr}{L:bn}{r:cK}(B:fl I A a)(J:cd I a 8 2 (c9 bA .li X++c9 bB .li q))(C:cO I X)(M:blk h p.w=some (p.cell n0 nilp))(W:I p.w=none)(F:∀S∈[p.rl,p.rr,p.s,p.t0,p.t1,p.t2,p.t3,p.t4,p.t5],aG S=true)(O:I p.cb=aE #[aB p.r,aB p.m,aB p.a] t)(c3:C3 j I h p.r p.m p.a K N r none none)(G:∀k,k∈K\/k∈N\/k∈r->k≠p.w/\k≠m)(a0:j<=h.size)(Y:blk h m=aE #[n0] 323)(a1:I m=none)(D:p.w≠m)(s:I n=aE #[aB p.w] u)(x:I o=aE #[.pointer (some A)] v)(T:I l=aE #[d] P)(f:LW I b L)(w:LW I c z)(dL:L.Nodup)(dR:z.Nodup)(bL:L.length<1000000)(g:z.length<1000000)(e:z≠[])(Q:∀E y i H V U,aC (λ k=>k=p.w\/k=m\/k∈K\/k∈N\/k∈r) I h V U->CZ p m L z V U E y i H->R bt U):Cf h 394 #[aU bA,b,c,aB m,aB n,aB o,aB l] R:=by
 refine QB (rE Y.c (Z _ _ s).c (Z _ _ x).c (Z _ _ T).c ?_);refine xj (a0:=j) Z B J C M W F O c3 (λ k j=>(G k j).1) a0 f w dL dR bL g e λ E y i H V X f A j C=>?_;have I:¬(m=p.w\/m∈K\/m∈N\/m∈r):=λ F=>F.elim (λ t=>D t.symm) λ F=>(G m F).2 rfl;have P:=f.blk Y I;have W:V m=none:=(f.dom m (aF Y) I).trans a1;have O:aO X m 0 n0=X:=eM P rfl;try simp(disch:=omega)only[go_sem,↓reduceIte,aA P,aS P,cI d5]
 have n:=Q E y i H V X (f.weak λ k _ F=>F.imp id .inr) ⟨A,j,C,P,W⟩;rw[O];exact n
theorem Of:fO 394=true:=zag
theorem lA(E:aD I h I H)(Q:cK)(f:∀k∈Q,h.size<=k):aD I h (I.fp Q H) H/\(∀k X,k∈Q->blk H k=some X->(I.fp Q H) k=some X)/\∀k,k∉Q->(I.fp Q H) k=I k:=⟨E.freeze (λ k=>decide (k∈Q)) λ k Y=>.inl (f k (of_decide_eq_true Y)),λ k X Y j=>aK.fp_eq Y j,λ k Y=>aK.fp_ne Y⟩
set_option maxHeartbeats 1000000 in theorem qz{j:Nat}(T:aN I h)(p:WC){X q:Addr}{s t:Option Nat}{L:bn}{r:cK}(hm:fl I A a)(hf:cd I a 8 2 (c9 bA .li X++c9 bB .li q))(hx:cO I X)(M:blk h p.w=some (p.cell n0 nilp))(G:I p.w=none)(o1:∀S∈[p.rl,p.rr,p.s,p.t0,p.t1,p.t2,p.t3,p.t4,p.t5],aG S=true)(d:I p.cb=aE #[aB p.r,aB p.m,aB p.a] m)(J:C3 j I h p.r p.m p.a K N r none none)(hd:∀k,k∈K\/k∈N\/k∈r->k≠p.w)(U:j<=h.size)(f:dE I s L)(w:dE I t z)(dL:L.Nodup)(dR:z.Nodup)(bL:L.length<1000000)(g:z.length<1000000)(e:z≠[])(Q:∀E y i H V U,aC (λ k=>k=p.w\/k∈K\/k∈N\/k∈r) I h V U->ja V p.r p.m p.a L z i H->blk U p.w=some (p.cell E (aB y))->V p.w=none->R n0 U):Cf h 386 #[aB p.w,.pointer (some A),.iface 586 (.map s),.iface 586 (.map t)] R:=by
 have W:=aF M;have X:=J.lt;obtain⟨a,rfl,f⟩:=f;obtain⟨n,rfl,w⟩:=w;obtain⟨W,B⟩:∃W:Heap,W=aO (((((h.push (aV #[aB p.w] 379)).push (aV #[.pointer (some A)] 90)).push (aV #[n0] 323)).push (.map #[] 0)).push (aV #[cr] 242)) (h.size+1+1+1+1) 0 (.map (some (h.size+1+1+1))):=⟨_,rfl⟩;have b:aD I h I W:=by rw[B];exact aP T
 have c:W.size=h.size+5:=by rw[B];exact zbD
 have Z:=lA b [h.size,h.size+1,h.size+1+1+1+1] (by simp;exact zaa);have c:=Z.2.1 h.size _ zab (show blk W h.size=aE #[aB p.w] 379 from zaR);have m:=Z.2.1 (h.size+1) _ zab (show blk W (h.size+1)=aE #[.pointer (some A)] 90 from zaR);have R:=Z.2.1 (h.size+1+1+1+1) _ zab (show blk W (h.size+1+1+1+1)=aE #[.map (some (h.size+1+1+1))] 242 from zaR);have x:blk W (h.size+1+1)=aE #[n0] 323:=zaR;have je:(I.fp [h.size,h.size+1,h.size+1+1+1+1] W) (h.size+1+1)=none:=(Z.2.2 _ (by simp;exact zaa)).trans (T.fresh zaa);have jw:(I.fp [h.size,h.size+1,h.size+1+1+1+1] W) p.w=none:=(Z.2.2 _ (by simp;exact zaa)).trans G;have Z:=Z.1;have T:=Z.blk M id;have t:=Z.sat;have s:=Z.le;have a0:=J.step Z λ _ _=>id;refine UW (rB M.c ?_);rw[<-B];obtain⟨u,B,a1⟩:∃u,ge I a u/\∀{V:aK}{J:Value},I.le V->((u=none/\J=ni)\/∃G,u=some G/\PV V J G)->LW V J L:=by
  rcases f with⟨rfl,f⟩|⟨J,G,f,b⟩
  ·refine⟨none,f,λ W l=>?_⟩;rcases l with⟨-,rfl⟩|⟨G,C,-⟩
   ·exact .inl ⟨rfl,rfl⟩
   ·cases C
  ·refine⟨some G,⟨f,by obtain⟨q,rfl,-⟩:=b;rfl⟩,λ W l=>?_⟩;rcases l with⟨C,-⟩|⟨G,C,l⟩
   ·cases C
   ·cases C;exact yd l (b.mono W) J
 obtain⟨S,C,l⟩:=(w.resolve_left λ F=>e F.1).2;refine qW (g:=λ k=>k=p.w\/k=h.size+1+1\/k∈K\/k∈N\/k∈r) (P:=λ W U=>∃E y i H,CZ p (h.size+1+1) L z W U E y i H) t (B.mono s) (show ge _ n (some S)from⟨s _ _ C,zb7⟩) ?_ ?_ ?_
 ·intro k Y;rcases Y with Y|Y|Y
  ·exact zaa
  ·exact zaa
  ·have:=(X k Y).2.1;exact zaa
 ·intro a W A A M G O z n;have S:=s.trans M.le;have V:=M.size;rw[ej Of];show Cf A 394 #[aU bA,a,W,aB (h.size+1+1),aB h.size,aB (h.size+1),aB (h.size+1+1+1+1)] z;refine BP (j:=j) M.sat p (hm.mono S) (hf.mono S) (hx.mono S) (M.blk T id) ((M.dom _ (aF T) id).trans jw) o1 (S _ _ d) (a0.step M λ _ _=>id) (λ k Y=>⟨hd k Y,cW (X k Y).2.1⟩) zaa (M.blk x id) ((M.dom _ (aF x) id).trans je) zaa (M.le _ _ c) (M.le _ _ m) (M.le _ _ R) (a1 S G) (yd O (l.mono S) e) dL dR bL g e λ E y i H a x d J=>?_;exact n a x d ⟨E,y,i,H,J⟩
 ·rintro z x j w d⟨E,y,i,H,J⟩X;have g:=J.pur X;have s:aC (λ k=>k=p.w\/k∈K\/k∈N\/k∈r) I h j w:=((Z.weak (D':=λ k=>k=p.w\/k∈K\/k∈N\/k∈r) λ _ _=>False.elim).trans' d λ k Y F=>by
   rcases F with F|F|F
   ·exact zcp
   ·exact zaa
   ·exact .inr F).trans (X.weak λ _ _=>False.elim);have h:=g.be;have O:=eM (n:=0) (a:=n0) h rfl;have n:=Q E y i H j w s g.cf g.bw g.jw;refine rB h.b ?_;rw[O];exact n
def TN:(aM h 382 a 0 228 λ c=>Cf h 385 #[a,(aU ⟨#[108,104,115,58,32]⟩),c] λ c d=>aW c λ c _=>bx d 343 c ni (aM d 382 a 8 225 λ e=>Nc e<|aM d 382 a 1 228 λ f=>Cf d 385 #[a,(aU ⟨#[114,104,115,58,32]⟩),f] λ d f=>aW d λ d _=>bx f 343 d ni (aM f 382 a 8 225 λ g=>Nc g<|Eb f .eql 343 false true c ni λ i=>Gd f i false (λ a b=>a c b) λ f j=>Gd j i false (λ a b=>Iv b f "Empty" #[] λ b c=>a b c) λ f j=>Pk i bt f λ f=>aH j f (λ a b=>a d b) λ i j=>aH j f (λ a b=>Eb b .eql 343 false true i ni λ c=>a c b) λ i j=>aH j f (λ a b=>a i b) λ i j=>Gd j i false (λ a b=>a d b) λ j k=>Gd k i false (λ a b=>Iv b j "Empty" #[] λ b c=>a b c) λ j k=>aH k f (λ a b=>Pk i bt j λ c=>a c b) λ i j=>Pk f i bf λ f=>aM j 359 b 3 240 λ i=>Eb j .eql 240 false true i (aU ⟨#[97,116,111,109,105,99]⟩) λ i=>Gd j i false (λ a b=>a f b) λ f j=>Pk i bt f λ f=>Cd f (Cf j 379 #[a] λ _ a=>Dg a (cH g d) λ a=>Dg a (cH e c) λ a=>R n0 a) (Eb j .eql 343 false true c ni λ f=>aH j f (λ a b=>a d b) λ i j=>aH j f (λ a b=>Eb b .eql 343 false true i ni λ c=>a c b) λ i j=>Pk f i bf λ f=>Cd f (Dg j (cH g d) λ a=>Dg a (cH e c) λ a=>R n0 a) (Cf j 386 #[a,b,c,d] λ a b=>Ap b 323 n0 a λ a b=>Dg b (cH g d) λ b=>Dg b (cH e c) λ b=>R a b))) (Eb f .eql 343 false true c ni λ g=>Gd f g false (λ a b=>a c b) λ f i=>Gd i g false (λ a b=>Iv b f "Empty" #[] λ b c=>a b c) λ f i=>Pk g bt f λ f=>aH i f (λ a b=>a d b) λ g i=>aH i f (λ a b=>Eb b .eql 343 false true g ni λ c=>a c b) λ g i=>aH i f (λ a b=>a g b) λ g i=>Gd i g false (λ a b=>a d b) λ i j=>Gd j g false (λ a b=>Iv b i "Empty" #[] λ b c=>a b c) λ i j=>aH j f (λ a b=>Pk g bt i λ c=>a c b) λ g i=>Pk f g bf λ f=>aM i 359 b 3 240 λ g=>Eb i .eql 240 false true g (aU ⟨#[97,116,111,109,105,99]⟩) λ g=>Gd i g false (λ a b=>a f b) λ f i=>Pk g bt f λ f=>Cd f (Cf i 379 #[a] λ _ a=>Dg a (cH e c) λ a=>R n0 a) (Eb i .eql 343 false true c ni λ f=>aH i f (λ a b=>a d b) λ g i=>aH i f (λ a b=>Eb b .eql 343 false true g ni λ c=>a c b) λ g i=>Pk f g bf λ f=>Cd f (Dg i (cH e c) λ a=>R n0 a) (Cf i 386 #[a,b,c,d] λ a b=>Ap b 323 n0 a λ a b=>Dg b (cH e c) λ b=>R a b)))) (aM d 382 a 1 228 λ e=>Cf d 385 #[a,(aU ⟨#[114,104,115,58,32]⟩),e] λ d e=>aW d λ d _=>bx e 343 d ni (aM e 382 a 8 225 λ f=>Nc f<|Eb e .eql 343 false true c ni λ g=>Gd e g false (λ a b=>a c b) λ e i=>Gd i g false (λ a b=>Iv b e "Empty" #[] λ b c=>a b c) λ e i=>Pk g bt e λ e=>aH i e (λ a b=>a d b) λ g i=>aH i e (λ a b=>Eb b .eql 343 false true g ni λ c=>a c b) λ g i=>aH i e (λ a b=>a g b) λ g i=>Gd i g false (λ a b=>a d b) λ i j=>Gd j g false (λ a b=>Iv b i "Empty" #[] λ b c=>a b c) λ i j=>aH j e (λ a b=>Pk g bt i λ c=>a c b) λ g i=>Pk e g bf λ e=>aM i 359 b 3 240 λ g=>Eb i .eql 240 false true g (aU ⟨#[97,116,111,109,105,99]⟩) λ g=>Gd i g false (λ a b=>a e b) λ e i=>Pk g bt e λ e=>Cd e (Cf i 379 #[a] λ _ a=>Dg a (cH f d) λ a=>R n0 a) (Eb i .eql 343 false true c ni λ e=>aH i e (λ a b=>a d b) λ g i=>aH i e (λ a b=>Eb b .eql 343 false true g ni λ c=>a c b) λ g i=>Pk e g bf λ e=>Cd e (Dg i (cH f d) λ a=>R n0 a) (Cf i 386 #[a,b,c,d] λ a b=>Ap b 323 n0 a λ a b=>Dg b (cH f d) λ b=>R a b))) (Eb e .eql 343 false true c ni λ f=>Gd e f false (λ a b=>a c b) λ e g=>Gd g f false (λ a b=>Iv b e "Empty" #[] λ b c=>a b c) λ e g=>Pk f bt e λ e=>aH g e (λ a b=>a d b) λ f g=>aH g e (λ a b=>Eb b .eql 343 false true f ni λ c=>a c b) λ f g=>aH g e (λ a b=>a f b) λ f g=>Gd g f false (λ a b=>a d b) λ g i=>Gd i f false (λ a b=>Iv b g "Empty" #[] λ b c=>a b c) λ g i=>aH i e (λ a b=>Pk f bt g λ c=>a c b) λ f g=>Pk e f bf λ e=>aM g 359 b 3 240 λ f=>Eb g .eql 240 false true f (aU ⟨#[97,116,111,109,105,99]⟩) λ f=>Gd g f false (λ a b=>a e b) λ e g=>Pk f bt e λ e=>Cd e (Cf g 379 #[a] λ _ a=>R n0 a) (Eb g .eql 343 false true c ni λ e=>aH g e (λ a b=>a d b) λ f g=>aH g e (λ a b=>Eb b .eql 343 false true f ni λ c=>a c b) λ f g=>Pk e f bf λ e=>Cd e (R n0 g) (Cf g 386 #[a,b,c,d] λ a b=>Ap b 323 n0 a λ a b=>R a b)))))->Cf h 381 #[a,b] R:=mS Tryz.func381 EC
def Qo:(ce h 228 c ni (R (bj ni n0) h) (aM h 382 a 8 225 λ a=>Cf h 329 #[a,c] λ a b=>aW a λ a c=>bx b 109 c ni (Cf b 194 #[(aU ⟨#[101,114,114,111,114]⟩)] λ a b=>R (bj ni a) b) (R (bj a n0) b)))->Cf h 385 #[a,b,c] R:=mS Tryz.func385 E2
theorem IE(Z:aN I h){J:Value}{x:Option Nat}(M:blk h m=aE #[b,c,d,e,f,g,i,j,k,p,q,r,s,co n] 382)(p:PV I J (.iface 242 (.map x)))(Q:∀U,aD I h I U->R (bj (.iface 586 (.map x)) n0) U):Cf h 385 #[aB m,a,J] R:=by have ev:∃u,J=.iface 362 u:=za6;obtain⟨u,rfl⟩:=ev;have P:=aF M;refine Qo (rB M.c ?_);refine lx Z p λ y v=>rA ?_;exact Q y v
theorem Bh{R:Nat}(Z:aN I h)(p:WC){o t:Option Nat}{L:bn}{Q r:cK}(Y:eO I A)(M:blk h p.w=some (p.cell n0 nilp))(G:I p.w=none)(X:∀S∈[p.rl,p.rr,p.s,p.t0,p.t1,p.t2,p.t3,p.t4,p.t5],aG S=true)(d:I p.cb=aE #[aB p.r,aB p.m,aB p.a] m)(C:C3 R I h p.r p.m p.a N Q r none none)(hd:∀k,k∈N\/k∈Q\/k∈r->k≠p.w)(a0:R<=h.size)(j:PV I p.rl (.iface 242 (.map o)))(F:PV I p.rr (.iface 242 (.map t)))(f:dE I o L)(w:dE I t z)(dL:L.Nodup)(dR:z.Nodup)(x:L.length<1000000)(bR:z.length<1000000)(e:z≠[]){T:KV}(hK:∀E y i H V U,aC (λ k=>k=p.w\/k∈N\/k∈Q\/k∈r) I h V U->ja V p.r p.m p.a L z i H->blk U p.w=some (p.cell E (aB y))->V p.w=none->T n0 U):Cf h 381 #[aB p.w,.pointer (some A)] T:=by
 obtain⟨c,o,q,B,q,h,-⟩:=Y;have z:=B;obtain⟨J,Q,rfl,v⟩:=B;have b:∀{N:Heap},aN I N->aI N J 8=some s0:=λ W=>by have:=(At.of W v) 8 s0 rfl;exact zai
 have B:=aF M;obtain⟨Q,u,rfl,l,-⟩:=f.mapO;obtain⟨A,O,rfl,o,a⟩:=w.mapO;have a:=a e;refine TN (rB M.c ?_);refine IE Z M j λ Z v=>?_;have g:=v.blk M id;refine rB g.c ?_;refine IE v.sat g (F.mono v.le) λ N P=>?_;have s:=v.trans P;have W:=P.sat;have D:=s.blk M id;refine rB D.c ?_;refine gC W (l.mono s.le) ?_;have n:∀{l:KV},(∀U,T n0 U->l n0 U)->Cf N 386 #[aB p.w,aB J,.iface 586 (.map (some Q)),.iface 586 (.map (some A))] l:=λ{l}c=>by refine qz (j:=R) W p (z.mono s.le) (q.mono s.le) (h.mono s.le) D ((s.dom _ B id).trans G) X (s.le _ _ d) (C.step s λ _ _=>id) hd (Nat.le_trans a0 s.size) (f.mono s.le) (w.mono s.le) dL dR x bR e λ E y i H V U l A j C=>?_;exact c U (hK E y i H V U ((s.weak λ _ _=>False.elim).trans l) A j C)
 refine(Bool.eq_false_or_eq_true u.isNone).elim (λ j=>?_) λ j=>?_
 ·refine rB j ?_;refine gC W (o.mono s.le) ?_;refine rD a (b W) @fI ?_;refine n λ z t=>?_;exact zay
 ·refine rD j (b W) @fI ?_;refine n λ z t=>?_;exact zay
theorem CV{O:Nat}(Z:aN I h)(p:WC){B:Addr}{M t:Option Nat}{L:bn}{r:cK}(s:dr I p.s B)(D:cU I bT ⟨n,0,none⟩)(q:[p.t0,p.t1,p.t2,p.t3,p.t4,p.t5]=dc n)(b:blk h p.w=some (p.cell n0 nilp))(J:I p.w=none)(X:∀S∈[p.rl,p.rr,p.s,p.t0,p.t1,p.t2,p.t3,p.t4,p.t5],aG S=true)(d:I p.cb=aE #[aB p.r,aB p.m,aB p.a] m)(P:C3 O I h p.r p.m p.a K N r none none)(c:∀k,k∈K\/k∈N\/k∈r->k≠p.w)(W:O<=h.size)(j:PV I p.rl (.iface 242 (.map M)))(F:PV I p.rr (.iface 242 (.map t)))(f:dE I M L)(w:dE I t z)(T:L.Nodup)(A:z.Nodup)(x:L.length<1000000)(g:z.length<1000000)(e:z≠[])(Q:∀E y i H V U,aC (λ k=>k=p.w\/k∈K\/k∈N\/k∈r) I h V U->ja V p.r p.m p.a L z i H->blk U p.w=some (p.cell E (aB y))->V p.w=none->R n0 U):Cf h 196 #[aB p.w,nf] R:=by
 have Y:eO I B:=zaN;have S:ij I p.s [p.t0,p.t1,p.t2,p.t3,p.t4,p.t5] .ma B:=by rw[q];exact kB s D
 refine mK (D:=.ma) (A:=B) Z b S (.inr ⟨_,.map,j⟩) (.inr ⟨_,.map,F⟩) (.inr F.ne) (λ U G=>y0 G.sat (Y.mono G.le)) λ G v l n=>rA ?_;refine Bh (R:=O) v.sat p Y (v.blk b id) J X d (P.step v λ _ _=>id) c (Nat.le_trans W v.size) j F f w T A x g e λ E y i H V N X A c C=>n N ?_;obtain⟨l,B,B,-⟩:=j;obtain⟨J,t,b,-⟩:=F;exact .both _ _ _ c rfl (congrArg some B) (congrArg some b) (Q E y i H V N ((v.weak λ _ _=>False.elim).trans X) A c C)
def Sz:(Bx h 317 a λ a c=>Ld c 317 a λ a=>bH c 317 a λ a c=>Fa c 317 a 2 λ d=>Ld c 86 d λ d=>aM c 317 b 2 86 λ e=>Eb c .neq 86 false false d e λ d=>Cd d (Cf c 194 #[dO 0x6578706563746564206f626a6563747320776974682074797065732066726f6d207468652073616d6520736368656d61] λ a b=>Mi b 323 a λ a=>R (bj nilp a) b) (Fa c 317 a 1 λ d=>bg c 317 b 1 λ e=>Cf c 195 #[d,e] λ c d=>cD d c (Cf d 194 #[dO 0x6578706563746564206f626a65637473206f66207468652073616d6520747970652c2062757420676f7420616e64] λ a b=>Mi b 323 a λ a=>R (bj nilp a) b) (Bd d 382 #[] λ c=>Bx d 382 c λ c d=>Fa d 317 a 0 λ e=>Ld d 228 e λ e=>bC d 382 c 0 228 e λ d=>aM d 317 b 0 228 λ b=>bC d 382 c 1 228 b λ b=>Fa b 317 a 2 λ d=>Ld b 86 d λ d=>bC b 382 c 2 86 d λ b=>Fa b 317 a 1 λ a=>Ld b 95 a λ a=>bC b 382 c 3 95 a λ a=>Cf a 88 #[n0] λ a b=>Cf b 88 #[n0] λ b d=>Cf d 88 #[n0] λ d e=>Bd e 190 #[(0,a),(1,b),(2,d)] λ a=>Bx e 190 a λ a b=>bC b 382 c 5 179 a λ a=>Lp (∃b:V0,(∀a,b a->(Cf a 196 #[c,nf] λ a b=>Ln b 323 a λ d=>bv b .gtr 3 d i0 (Mi b 323 a λ a=>R (bj nilp a) b) (aM b 382 c 5 179 λ a=>R (bj a ni) b)))/\(Nc c<|Fa a 382 c 8 λ d=>Ld a 225 d λ d=>ce a 225 d ni (Cf a 118 #[] λ a d=>bC d 382 c 8 225 a λ a=>b a) (b a))))))->Cf h 134 #[a,b] R:=mS Tryz.func134 (Z (Z (Q (Q (X #[0,1,0,4,12,28,63]) iT) (Q cg (Z (Z (Z (Z (Z (Z (Y [] cF oY)))))))))))
theorem uc{M:TypeInfo}(W:P.underlying m=some (.pointer n))(d:P.info? n=some M)(E:World):(binOp .neq m (aB o) (aB o)).run P E=.ok bf E:=by
 simp only[binOp];unfold Op.equal Op.maxDepth Op.equalIn;simp only[Sem.run_bind,bD W,Result.andThen_ok,eE d];have A:((⟨o,0,none⟩:Addr)==⟨o,0,none⟩)=true:=zab;split
 ·unfold sameAddr;simp[Sem.run_pure,Result.andThen_ok,A]
 ·simp[Sem.run_pure,Result.andThen_ok,A]
theorem Uk:∃i,P.info? 236=some i:=by have:(P.info? 236).isSome=true:=zag;exact Option.isSome_iff_exists.1 this
@[go_sem] theorem P7{T:Value->Prop}{X q:Bool}:Eb h .neq 86 X q (aB m) (aB m) T=T bf:=by obtain⟨M,d⟩:=Uk;exact jM (λ _ E=>dF rfl E) (λ E=>uc Tryz.underlying86 d E)
def CF(R:KV)(a b:Value)(c:Heap):Prop:=Bd c 382 #[] λ d=>Bx c 382 d λ c d=>Fa d 317 a 0 λ e=>Ld d 228 e λ e=>bC d 382 c 0 228 e λ d=>aM d 317 b 0 228 λ b=>bC d 382 c 1 228 b λ b=>Fa b 317 a 2 λ d=>Ld b 86 d λ d=>bC b 382 c 2 86 d λ b=>Fa b 317 a 1 λ a=>Ld b 95 a λ a=>bC b 382 c 3 95 a λ a=>Cf a 88 #[n0] λ a b=>Cf b 88 #[n0] λ b d=>Cf d 88 #[n0] λ d e=>Bd e 190 #[(0,a),(1,b),(2,d)] λ a=>Bx e 190 a λ a b=>bC b 382 c 5 179 a λ a=>Lp (∃b:V0,(∀a,b a->(Cf a 196 #[c,nf] λ a b=>Ln b 323 a λ d=>bv b .gtr 3 d i0 (Mi b 323 a λ a=>R (bj nilp a) b) (aM b 382 c 5 179 λ a=>R (bj a ni) b)))/\(Nc c<|Fa a 382 c 8 λ d=>Ld a 225 d λ d=>ce a 225 d ni (Cf a 118 #[] λ a d=>bC d 382 c 8 225 a λ a=>b a) (b a)))
theorem FL(E:aD I h I H){B:Addr}{M y:Option Nat}{L:bn}(hs:dr I (aB u) B)(hn:cU I bT ⟨t,0,none⟩)(l:blk H o=aE #[c,aB t,nilp,nilp,nilp,nilp,bf,aB u] 317)(G:I m=aE #[d,aB t,nilp,nilp,nilp,nilp,bf,aB u] n)(j:PV I c (.iface 242 (.map M)))(N:PV I d (.iface 242 (.map y)))(hl:dE I M L)(hr:dE I y z)(dL:L.Nodup)(p:z.Nodup)(bL:L.length<1000000)(bR:z.length<1000000)(e:z≠[])(hK:∀k y W x v i cA V U,aD I h V U->V k=aE #[aB W,aB x,aB v] y->ja V W x v L z i cA->R (bj (aB k) ni) U):CF R (aB o) (aB m) H:=by
 have K:aG c=true:=zbW;have g:aG d=true:=by obtain⟨u,C,rfl,-⟩:=N;rfl
 have o1:∀S∈[c,d,aB u,aB t,nilp,nilp,nilp,nilp,bf],aG S=true:=zbi;have Z:=E.sat;have A:=aF l;have m:=Z.dom G;unfold CF;refine rE l.c (Z _ _ G).c K g ?_;have G:aD I H I (aO (aO (aO (aO (aO (aO (aO (aO (aO (H.push (aV #[ni,ni,nilp,nilp,nilp,nilp,nilp,nilp,bf,n0,nilp,bf,nilp,ni] 382)) H.size 0 c) H.size 1 d) H.size 2 (aB u)) H.size 3 (aB t)) H.size 4 nilp) H.size 5 nilp) H.size 6 nilp) H.size 7 nilp) H.size 8 bf):=aP Z;have o:blk (aO (aO (aO (aO (aO (aO (aO (aO (aO (H.push (aV #[ni,ni,nilp,nilp,nilp,nilp,nilp,nilp,bf,n0,nilp,bf,nilp,ni] 382)) H.size 0 c) H.size 1 d) H.size 2 (aB u)) H.size 3 (aB t)) H.size 4 nilp) H.size 5 nilp) H.size 6 nilp) H.size 7 nilp) H.size 8 bf) H.size=aE #[c,d,aB u,aB t,nilp,nilp,nilp,nilp,bf,n0,nilp,bf,nilp,ni] 382:=Bk;refine g9 G.sat bA λ W M s K=>?_;refine g9 s.sat bA λ x k M O=>?_;refine g9 M.sat bA λ v n f Q=>?_;have R:=G.size;have z:=s.size;have R:=M.size;have k:=f.size;have T:=((G.trans s).trans M).trans f;have C:blk n H.size=_:=((s.trans M).trans f).blk o id;have S:=aF C;have l:=T.sat;have w:=K.2.2 W zab;have U:=O.2.2 x zab;have P:=Q.2.2 v zab;(try simp only[bJ]at w);refine rB C.b ?_;have Y:aD I H I (aO (n.push (aV #[aB W,aB x,aB v] 190)) H.size 10 (aB n.size)):=bX Z T;have z:aC (Eq H.size) I n I (aO (n.push (aV #[aB W,aB x,aB v] 190)) H.size 10 (aB n.size)):=aC.put ((aC.refl l).push _) (.inr rfl) (Z.fresh bu);have P:=z.one (b:=n.size) bu;have S:=Y.one (b:=n.size) zaa;have l:(I.one n.size (aO (n.push (aV #[aB W,aB x,aB v] 190)) H.size 10 (aB n.size))) n.size=aE #[aB W,aB x,aB v] 190:=aK.one_eq Bk;have s:blk (aO (n.push (aV #[aB W,aB x,aB v] 190)) H.size 10 (aB n.size)) H.size=aE #[c,d,aB u,aB t,nilp,nilp,nilp,nilp,bf,n0,aB n.size,bf,nilp,ni] 382:=bz C;have k:(I.one n.size (aO (n.push (aV #[aB W,aB x,aB v] 190)) H.size 10 (aB n.size))) H.size=none:=(aK.one_ne zaa).trans (Z.fresh bu);refine⟨λ A=>∃w,aC (Eq H.size) (I.one n.size (aO (n.push (aV #[aB W,aB x,aB v] 190)) H.size 10 (aB n.size))) (aO (n.push (aV #[aB W,aB x,aB v] 190)) H.size 10 (aB n.size)) (I.one n.size (aO (n.push (aV #[aB W,aB x,aB v] 190)) H.size 10 (aB n.size))) A/\blk A H.size=aE #[c,d,aB u,aB t,nilp,nilp,nilp,nilp,bf,n0,aB n.size,bf,nilp,co w] 382,λ A F=>?_,?_⟩
 ·refine F.elim λ w F=>?_;have J:=P.1.trans F.1;have g:=F.1.size;have D:=P.2;have T:∀{X:Nat},blk n X=aE #[n0,n0] 279->H.size<X->dD H.size (I.one n.size (aO (n.push (aV #[aB W,aB x,aB v] 190)) H.size 10 (aB n.size))) A X [X] bA none:=λ{X}G U=>by have z:=aF G;refine⟨J.blk G zaa,zab,λ r Y=>?_⟩;rw[List.mem_singleton.1 Y];have g:=J.size;exact⟨zaa,zaa,(J.dom X z zaa).trans (Z.fresh zaa)⟩
  have g:=aF K.1;have R:=aF O.1;have m:C3 H.size (I.one n.size (aO (n.push (aV #[aB W,aB x,aB v] 190)) H.size 10 (aB n.size))) A W x v [W] [x] [v] none none:=⟨T ((M.trans f).blk K.1 id) zaa,T (f.blk O.1 id) zaa,T Q.1 zaa,by simp;exact zaa,by simp;exact zaa⟩;refine CV (O:=H.size) (p:=⟨H.size,w,n.size,W,x,v,c,d,aB u,aB t,nilp,nilp,nilp,nilp,bf⟩) (n:=t) (B:=B) F.1.sat (hs.mono D) (hn.mono D) rfl F.2 k ?_ l m (by simp;exact zaa) (cW J.size) (j.mono D) (N.mono D) (hl.mono D) (hr.mono D) dL p bL bR e λ X y i cA V N O A j C=>?_
  ·exact o1
  ·have J:blk N H.size=aE #[c,d,aB u,aB t,nilp,nilp,nilp,nilp,bf,X,aB n.size,bf,aB y,co w] 382:=j;have U:aD I h V N:=((E.trans S.1).trans' F.1 λ r Y F=>cW E.size).trans' O λ r Y F=>by have:=E.size;simp only[List.mem_singleton]at F;have:r=H.size\/r=W\/r=x\/r=v:=F;exact zaa
   refine rB J.c ?_;exact hK n.size 190 W x v i cA V N U (O.le _ _ l) A
 ·refine rB s.c ?_;refine dZ P.1.sat λ w Y p=>?_;have G:=p.blk s id;refine rB G.b ?_;refine⟨w,aC.put (p.weak λ _ _=>False.elim) (.inr rfl) k,bz G⟩
theorem ss(j:blk h m=aE #[a,aB n,nilp,nilp,nilp,nilp,bf,b] o):At h m 1 (dc n):=λ M S O=>by rw[aA j,Nat.add_comm];match M,O with|0,O|1,O|2,O|3,O|4,O|5,O=>simpa using O|M+6,O=>simp at O
theorem wG(Z:aN I h){M t:Option Nat}{L:bn}(s:dr I c A)(D:cU I bT ⟨m,0,none⟩)(P:TV I d b c m)(j:PV I a (.iface 242 (.map M)))(F:PV I b (.iface 242 (.map t)))(f:dE I M L)(w:dE I t z)(T:L.Nodup)(p:z.Nodup)(q:L.length<1000000)(g:z.length<1000000)(e:z≠[])(X:∀k y W x v i H V U,aD I h V U->V k=aE #[aB W,aB x,aB v] y->ja V W x v L z i H->R (bj (aB k) ni) U):Cf h 134 #[.agg (a::dc m++[c]).toArray,d] R:=by
 have K:aG a=true:=zbW;obtain⟨O,J,rfl,B⟩:=P;have N:=Z.dom B;obtain⟨u,C,o,rfl,x,r,k⟩:=s;have s:dr I (aB u) A:=⟨u,C,o,rfl,x,r,k⟩;have n:blk h O=aE #[b,aB m,nilp,nilp,nilp,nilp,bf,aB u] J:=Z _ _ B;have H:∀{W:Heap}{M:Nat},M=h.size+1->aD I h I W->blk W (h.size+1)=aE #[a,aB m,nilp,nilp,nilp,nilp,bf,aB u] 317->CF R (aB M) (aB O) W:=λ C E l=>FL E s D (C▸l) B j F f w T p q g e X;have q:∀{W:Heap}{Q:KV},aD I h I W->blk W (h.size+1)=aE #[a,aB m,nilp,nilp,nilp,nilp,bf,aB u] 317->Q bt W->Cf W 195 #[cY (h.size+1) 1,cY O 1] Q:=λ E l P=>wm E.sat D (ss l) (ss (E.blk n id)) P;apply Sz;try simp(disch:=omega)only[go_sem,↓reduceIte,dc,K,aA n]
 refine q (aP Z) Bk ?_;simp only[Xn,wF,Bool.not_true,n7];exact H (Array.size_push ..) (aP Z) Bk
def UM:(Bx h 317 a λ a c=>Cf c 168 #[a,b,(.func (.func 169) #[] #[]),nf] λ a b=>aW a λ a c=>R (bj a c) b)->Cf h 114 #[a,b] R:=mS Tryz.func114 cX
def UI:(aM h 317 a 2 86 λ e=>aM h 317 b 2 86 λ f=>Eb h .neq 86 false false e f λ e=>Cd e (Cf h 194 #[dO 0x6578706563746564206f626a6563747320776974682074797065732066726f6d207468652073616d6520736368656d61] λ a b=>Mi b 323 a λ a=>R (bj nilp a) b) (bg h 317 a 1 λ e=>bg h 317 b 1 λ f=>Cf h 195 #[e,f] λ e f=>cD f e (Cf f 194 #[dO 0x6578706563746564206f626a65637473206f66207468652073616d6520747970652c2062757420676f7420616e64] λ a b=>Mi b 323 a λ a=>R (bj nilp a) b) (Bd f 411 #[] λ e=>Bx f 411 e λ e f=>aM f 317 a 0 228 λ g=>bC f 411 e 0 228 g λ f=>aM f 317 b 0 228 λ b=>bC f 411 e 1 228 b λ b=>aM b 317 a 2 86 λ f=>bC b 411 e 2 86 f λ b=>aM b 317 a 1 95 λ f=>bC b 411 e 3 95 f λ b=>bC b 411 e 5 406 c λ b=>bC b 411 e 6 406 d λ b=>Lp (∃c:V0,(∀b,c b->(Cf b 216 #[e,nf] λ b c=>Ln c 323 b λ d=>bv c .gtr 3 d i0 (Mi c 323 b λ a=>R (bj nilp a) c) (aM c 317 a 2 86 λ b=>aM c 317 a 1 95 λ a=>Bd c 317 #[(2,b),(1,a)] λ a=>Bx c 317 a λ a b=>Lp (∃c:V0,(∀b,c b->(R (bj a ni) b))/\(Nc e<|Fa b 411 e 7 λ d=>Ld b 408 d λ d=>bx b 408 d nilp (aM b 411 e 7 408 λ d=>Nc d<|Ld b 20 d λ d=>Cf b 130 #[d] λ b d=>bC d 317 a 0 228 b λ a=>c a) (c b))))))/\(Nc e<|Fa b 411 e 10 λ a=>Ld b 225 a λ a=>ce b 225 a ni (Cf b 118 #[] λ a b=>bC b 411 e 10 225 a λ a=>c a) (c b))))))->Cf h 168 #[a,b,c,d] R:=mS Tryz.func168 (Z (Q nJ (Q (Q ti iT) (Z (Z (Z (Z (Z (Z (Z (Y [] cF (Z (Q cg (Q (X #[0,1,3,7,0,16,48,112,255,511,1023]) qU))))))))))))))
theorem BD{N:Nat}(Z:aN I h)(p:WR){B:Addr}{M t:Option Nat}{L:bn}(s:dr I p.s B)(D:cU I bT ⟨m,0,none⟩)(n:[p.t0,p.t1,p.t2,p.t3,p.t4,p.t5]=dc m)(A:blk h p.w=some (p.cell n0 nilp nilp))(b:I p.w=none)(X:∀S∈[p.rl,p.rr,p.s,p.t0,p.t1,p.t2,p.t3,p.t4,p.t5],aG S=true)(r:N<=h.size)(j:PV I p.rl (.iface 242 (.map M)))(F:PV I p.rr (.iface 242 (.map t)))(f:dE I M L)(w:dE I t z)(T:L.Nodup)(c:z.Nodup)(x:L.length<1000000)(g:z.length<1000000)(e:z≠[])(Q:∀O S H E y V U,aC (Eq p.w) I h V U->V O=aE #[S] 20->dM V S H->H.Nodup->H.length<=L.length+z.length->(∀q,q∈H↔q∈L\/q∈z)->blk U p.w=some (p.cell E (aB O) (aB y))->V p.w=none->R n0 U):Cf h 216 #[aB p.w,nf] R:=by
 have Y:eO I B:=zaN;have R:ij I p.s [p.t0,p.t1,p.t2,p.t3,p.t4,p.t5] .ma B:=by rw[n];exact kB s D
 refine lK (G:=.ma) (A:=B) Z A R (.inr ⟨_,.map,j⟩) (.inr ⟨_,.map,F⟩) (.inr F.ne) (λ U G=>y0 G.sat (Y.mono G.le)) λ n v l n=>rA ?_;refine Cb (m:=N) v.sat p Y (v.blk A id) b X (Nat.le_trans r v.size) j F f w T c x g e λ O S H E y V N B A W z ln s j C=>?_;exact n N _ j rfl ⟨false,rfl⟩ (Q O S H E y V N ((v.weak λ _ _=>False.elim).trans B) A W z ln s j C)
def Ee(R:KV)(a b c d:Value)(e:Heap):Prop:=Bd e 411 #[] λ f=>Bx e 411 f λ e f=>aM f 317 a 0 228 λ g=>bC f 411 e 0 228 g λ f=>aM f 317 b 0 228 λ b=>bC f 411 e 1 228 b λ b=>aM b 317 a 2 86 λ f=>bC b 411 e 2 86 f λ b=>aM b 317 a 1 95 λ f=>bC b 411 e 3 95 f λ b=>bC b 411 e 5 406 c λ b=>bC b 411 e 6 406 d λ b=>Lp (∃c:V0,(∀b,c b->(Cf b 216 #[e,nf] λ b c=>Ln c 323 b λ d=>bv c .gtr 3 d i0 (Mi c 323 b λ a=>R (bj nilp a) c) (aM c 317 a 2 86 λ b=>aM c 317 a 1 95 λ a=>Bd c 317 #[(2,b),(1,a)] λ a=>Bx c 317 a λ a b=>Lp (∃c:V0,(∀b,c b->(R (bj a ni) b))/\(Nc e<|Fa b 411 e 7 λ d=>Ld b 408 d λ d=>bx b 408 d nilp (aM b 411 e 7 408 λ d=>Nc d<|Ld b 20 d λ d=>Cf b 130 #[d] λ b d=>bC d 317 a 0 228 b λ a=>c a) (c b))))))/\(Nc e<|Fa b 411 e 10 λ a=>Ld b 225 a λ a=>ce b 225 a ni (Cf b 118 #[] λ a b=>bC b 411 e 10 225 a λ a=>c a) (c b)))
theorem Fu(E:aD I h I H){B:Addr}{M V:Option Nat}{L:bn}(s:dr I (aB u) B)(D:cU I bT ⟨t,0,none⟩)(l:blk H o=aE #[c,aB t,nilp,nilp,nilp,nilp,bf,aB u] 317)(y:I m=aE #[d,aB t,nilp,nilp,nilp,nilp,bf,aB u] n)(j:PV I c (.iface 242 (.map M)))(n:PV I d (.iface 242 (.map V)))(f:dE I M L)(r:dE I V z)(T:L.Nodup)(p:z.Nodup)(x:L.length<1000000)(G:z.length<1000000)(e:z≠[])(Q:∀w J S i V U,aD I h V U->TV V w J (aB u) t->PV V J S->dM V S i->i.Nodup->i.length<=L.length+z.length->(∀q,q∈i↔q∈L\/q∈z)->R (bj w ni) U):Ee R (aB o) (aB m) dh nf H:=by
 have K:aG c=true:=zbW;have g:aG d=true:=by obtain⟨u,C,rfl,-⟩:=n;rfl
 have X:∀S∈[c,d,aB u,aB t,nilp,nilp,nilp,nilp,bf],aG S=true:=zbi;have Z:=E.sat;have v:=aF l;have w:=Z.dom y;unfold Ee;refine rE l.c (Z _ _ y).c K g ?_;refine⟨λ A=>∃w,aD I H I A/\blk A H.size=aE #[c,d,aB u,aB t,nilp,nilp,nilp,nilp,bf,n0,dh,nf,nilp,bf,nilp,co w] 411,λ A F=>?_,?_⟩
 ·refine F.elim λ w F=>?_;have k:=F.1;have W:=k.size;refine BD (N:=H.size) k.sat ⟨H.size,w,c,d,aB u,aB t,nilp,nilp,nilp,nilp,bf⟩ (m:=t) (B:=B) s D rfl F.2 (Z.fresh bu) X W j n f r T p x G e λ O S i n y V N r A W v ln s j X=>?_;have e:blk N H.size=aE #[c,d,aB u,aB t,nilp,nilp,nilp,nilp,bf,n,dh,nf,aB O,bf,aB y,co w] 411:=j;have P:aD I h V N:=(E.trans k).trans' r λ K Y F=>by have:=E.size;have:H.size=K:=F;exact zaa
  have nC:=P.sat;have q:=aF e;have O:=nC.dom A;have Y:blk N o=_:=r.blk (k.blk l id) (λ C=>by have:H.size=o:=C;exact zaa);have k:aG S=true:=by obtain⟨U,G,rfl,-⟩:=W;rfl
  refine rB Y.c ?_;refine⟨λ f=>∃J E,aD V N E f/\E N.size=aE #[J,aB t,nilp,nilp,nilp,nilp,bf,aB u] 317/\PV E J S,λ f F=>?_,?_⟩
  ·refine F.elim λ J F=>F.elim λ E F=>?_;exact Q (aB N.size) J S i E f (P.trans F.1) ⟨_,_,rfl,F.2.1⟩ F.2.2 (W.mono F.1.le) v ln s
  ·refine rC e.c (nC _ _ A).c ?_;refine gn (show aD V N V _ from aP nC).sat k λ J E Y p i=>?_;have y:aD V N E Y:=aC.trans (aP nC) p;have G:blk Y N.size=aE #[ni,aB t,nilp,nilp,nilp,nilp,bf,aB u] 317:=p.blk Bk id;have z:=aF G;have j:E N.size=none:=(p.dom _ (by(try simp only[bJ]);exact zaa) id).trans (nC.fresh bu);have x:aG J=true:=by obtain⟨u,C,rfl,-⟩:=i;rfl
   have n:aD V N E (aO Y N.size 0 J):=aC.put y (.inl bu) j;have K:=n.one (b:=N.size) bu;refine rC G.b x ?_;exact⟨J,_,K.1,aK.one_eq (bz G),i.mono K.2⟩
 ·refine rA ?_;refine dZ (show aD I H I _ from aP Z).sat λ w Y p=>?_;have y:aD I H I Y:=aC.trans (aP Z) p;have G:blk Y H.size=aE #[c,d,aB u,aB t,nilp,nilp,nilp,nilp,bf,n0,dh,nf,nilp,bf,nilp,ni] 411:=p.blk Bk id;have z:=aF G;refine rB G.b ?_;exact⟨w,aC.put y (.inl bu) (Z.fresh bu),bz G⟩
theorem Dz(Z:aN I h){M t:Option Nat}{L:bn}(s:dr I c A)(D:cU I bT ⟨m,0,none⟩)(E:TV I d b c m)(j:PV I a (.iface 242 (.map M)))(F:PV I b (.iface 242 (.map t)))(f:dE I M L)(G:dE I t z)(T:L.Nodup)(p:z.Nodup)(x:L.length<1000000)(g:z.length<1000000)(e:z≠[])(Y:∀w J S H V U,aD I h V U->TV V w J c m->PV V J S->dM V S H->H.Nodup->H.length<=L.length+z.length->(∀q,q∈H↔q∈L\/q∈z)->R (bj w ni) U):Cf h 114 #[.agg (a::dc m++[c]).toArray,d] R:=by
 have K:aG a=true:=zbW;obtain⟨O,P,rfl,B⟩:=E;have N:=Z.dom B;obtain⟨u,C,o,rfl,n,r,k⟩:=s;have s:dr I (aB u) A:=⟨u,C,o,rfl,n,r,k⟩;have n:blk h O=aE #[b,aB m,nilp,nilp,nilp,nilp,bf,aB u] P:=Z _ _ B;have M:∀{W:Heap},aD I h I W->blk W h.size=aE #[a,aB m,nilp,nilp,nilp,nilp,bf,aB u] 317->∀{Q:KV},(∀w U,R (bj w ni) U->Q (bj w ni) U)->Cf W 168 #[aB h.size,aB O,dh,nf] Q:=by intro W E l Q P;have q:=E.blk n id;have v:=aF l;have R:Ee Q (aB h.size) (aB O) dh nf W:=Fu E s D l B j F f G T p x g e λ w J S H V U G f i d N X y=>P _ _ (Y w J S H V U G f i d N X y);refine UI (rC l.c q.c ?_);refine wm E.sat D (ss l) (ss q) ?_;simp only[Xn,wF,Bool.not_true,n7];exact R
 apply UM;try simp(disch:=omega)only[go_sem,↓reduceIte,dc,K]
 refine M (aP Z) Bk λ J U Y=>rA ?_;exact Y
def R6:(Bx h 585 a λ a d=>Mi d 657 a λ a=>Cf d 468 #[b,a,c] λ a b=>R a b)->Cf h 464 #[a,b,c] R:=mS Tryz.func464 cX
def US:(Iv h b "Length" #[] λ d e=>Iv e c "Length" #[] λ e f=>Eb f .neq 3 false false d e λ d=>Cd d (R (.bool false) f) (Iv f b "RangeUsing" #[a] λ b d=>Nc a<|Iv d c "RangeUsing" #[a] λ c d=>Nc a<|Lp (∃(e:V0)(f:N0),e d/\∀d,e d->(Iv d b "Next" #[] λ g i=>aH i g (λ a b=>a c b) λ i j=>aH j g (λ a b=>Iv b i "Next" #[] λ b c=>a b c) λ i j=>Pk g i bf λ g=>Cd g (Iv j b "Item" #[] λ g i=>aW g λ _ g=>Iv i c "Item" #[] λ i j=>aW i λ _ i=>Cf j 117 #[a,g,i] λ g i=>cD i g (Dg i (cH a c) λ c=>Dg c (cH a b) λ a=>R (.bool false) a) (e i/\f i<f d)) (Dg j (cH a c) λ c=>Dg c (cH a b) λ a=>R (.bool true) a)))))->Cf h 468 #[a,b,c] R:=mS Tryz.func468 (Z (Q cg (Z (Z (Z (Z (Q (B (O [] (Q cF (B (Z mM))))) bG)))))))
theorem Ek(Z:aN I h){L:bn}(i:cd I a 1 L.length (L.map bE))(p:cd I b 1 z.length (z.map bE))(u:L≠[])(x:L.length<1000000)(g:z.length<1000000){T:KV}(hK:∀U,aD I h I U->T (.bool (decide (L=z))) U):Cf h 464 #[a,co m,.iface 585 b] T:=by
 have l:=List.length_pos_iff.2 u;obtain⟨f,u,rfl,P,-,-,-,q⟩:=i;obtain⟨b,d,rfl,Y,-,-,-,W⟩:=p;refine R6 (rA ?_);refine US (rA ?_);refine dW ?_;refine rA ?_;refine dW ?_;by_cases D:L.length=z.length
 ·have G:(((L.length:Int)!=(z.length:Int)))=false:=by simp;exact zaa
  have X:aD I h I (h.push (aV #[.slice f L.length u] 585)):=aP Z;refine rB G ?_;refine or X.sat l λ k c y v o g Y x O=>rA ?_;refine or v.sat (D▸l) λ l n N P e N i A B=>?_;have a:=aF x;have w:=aF O;(try simp only[bJ]at o);(try simp only[bJ]at g);refine rA ?_;refine⟨λ Q=>∃(M:Nat)(m H:Value),M<=L.length/\(∀r,r<M->L[r]?=z[r]?)/\aD I h I Q/\blk Q k=aE #[.slice f L.length u,aB c,aR ((M:Int)-1)] 661/\blk Q c=aE #[m] 432/\blk Q l=aE #[.slice b z.length d,aB n,aR ((M:Int)-1)] 661/\blk Q n=aE #[H] 432,λ Q=>L.length+1-EG Q k,⟨0,ni,ni,zaa,zab,(X.trans v).trans P,P.blk x id,P.blk O id,A,B⟩,?_⟩;rintro Q⟨M,m,H,B,P,f,x,N,J,E⟩;have F:=aF x;have v:=aF N;have U:=aF J;have a:=aF E;refine rA ?_;refine qC (D:=(M:Int)) x zaa zaa ?_;by_cases o:M<L.length
  ·have t:decide ((M:Int)<(L.length:Int))=true:=by simp;exact zaa
   have V:decide ((M:Int)<(z.length:Int))=true:=by simp;exact zaa
   have p:M<z.length:=zaa;have O:blk (aO Q k 2 (aR (M:Int))) l=_:=(by exact bz J:_=aE #[.slice b z.length d,aB n,aR ((M:Int)-1)] 661);refine rB t ?_;refine qC (D:=(M:Int)) O zaa zaa ?_;refine rB V ?_;obtain⟨xb,a,rfl,y⟩:=q zaa;obtain⟨s,g,rfl,S⟩:=W zaa;have w:aD I h I (aO (aO Q k 2 (aR (M:Int))) l 2 (aR (M:Int))):=bX Z f;have U:=w.sat;have C:blk (aO (aO Q k 2 (aR (M:Int))) l 2 (aR (M:Int))) k=aE #[bq xb a L.length u,aB c,aR (M:Int)] 661:=bz x;have e:blk (aO (aO Q k 2 (aR (M:Int))) l 2 (aR (M:Int))) c=aE #[m] 432:=bz N;have V:=U.cell (y M (bE L[M]) zbL);have B:=U.cell (S M (bE z[M]) (by simp[p]));refine qy C e Y o V rfl ?_;have F:aD I h I (aO (aO (aO Q k 2 (aR (M:Int))) l 2 (aR (M:Int))) c 0 (bE L[M])):=bX Z w;have B:blk (aO (aO (aO Q k 2 (aR (M:Int))) l 2 (aR (M:Int))) c 0 (bE L[M])) l=aE #[bq s g z.length d,aB n,aR (M:Int)] 661:=bz J;have v:blk (aO (aO (aO Q k 2 (aR (M:Int))) l 2 (aR (M:Int))) c 0 (bE L[M])) n=aE #[H] 432:=bz E;have R:=F.sat.cell (S M (bE z[M]) (by simp[p]));refine rA ?_;refine qy B v i p R rfl ?_;obtain⟨W,B⟩:∃W:Heap,W=aO (aO (aO (aO Q k 2 (aR (M:Int))) l 2 (aR (M:Int))) c 0 (bE L[M])) n 0 (bE z[M]):=⟨_,rfl⟩;have q:aD I h I W:=by rw[B];exact bX Z F
   have w:blk W k=aE #[bq xb a L.length u,aB c,aR (M:Int)] 661:=by rw[B];exact bz x
   have F:blk W c=aE #[bE L[M]] 432:=by rw[B];exact bz N
   have m:blk W l=aE #[bq s g z.length d,aB n,aR (M:Int)] 661:=by rw[B];exact bz J
   have b:blk W n=aE #[bE z[M]] 432:=by rw[B];exact bz E
   rw[<-B];have N:=q.sat;have X:=N.one c;have A:=X.one n;have Q:=N.one_le c;have e:=X.one_le n;refine rA ?_;refine oh (S:=L[M]) (T:=z[M]) A ⟨c,_,rfl,e _ _ (aK.one_eq F)⟩ ⟨n,_,rfl,aK.one_eq b⟩ λ v H=>?_;have i:aD I W I v:=aC.forget (Q.trans e) H;have O:=q.trans i;by_cases s:L[M]=z[M]
   ·have A:(L[M].toList==z[M].toList)=true:=by rw[s];exact zab
    have N:=i.blk w id;have h:((M:Int)+1:Int)-1=(M:Int):=zaa;refine rB A ?_;refine⟨⟨M+1,bE L[M],bE z[M],zaa,λ r Y=>?_,O,?_,i.blk F id,?_,i.blk b id⟩,?_⟩
    ·by_cases a:r<M
     ·exact P r a
     ·have:r=M:=zaa;subst this;rw[List.getElem?_eq_getElem o,List.getElem?_eq_getElem p,s]
    ·rw[N];exact zab
    ·rw[i.blk m id];exact zab
    ·rw[kZ N,kZ x];exact zaa
   ·have A:(L[M].toList==z[M].toList)=false:=by simpa[v6]using s
    have V:decide (L=z)=false:=by simp;intro C;subst C;exact s rfl
    refine rB A ?_;exact cG (T:=λ R=>Dg R _ λ q=>T (.bool false) q) (cG (V▸hK v O))
  ·have t:decide ((M:Int)<(L.length:Int))=false:=by simp;exact zaa
   have V:decide (L=z)=true:=by
    simp only[decide_eq_true_eq];refine List.ext_getElem? λ r=>?_;by_cases Y:r<M
    ·exact P r Y
    ·rw[List.getElem?_eq_none zaa,List.getElem?_eq_none zaa]
   refine rB t ?_;exact cG (T:=λ R=>Dg R _ λ q=>T (.bool true) q) (cG (V▸hK _ (bX Z f)))
 ·have G:(((L.length:Int)!=(z.length:Int)))=true:=by simp;exact zaa
  have V:decide (L=z)=false:=by simp;intro C;exact D (by rw[C])
  refine rB G ?_;exact V▸hK _ (aP Z)
def IZ:(Bx h 586 a λ a d=>Bx d 225 b λ b d=>Ld d 586 a λ e=>Cf d 478 #[e] λ d e=>Iv e c "Length" #[] λ e f=>Eb f .neq 3 false false d e λ e=>Cd e (R (.bool false) f) (ce f 3 d i0 (R (.bool true) f) (Ld f 225 b λ d=>Iv f d m4 #[] λ d e=>bH e 362 d λ d e=>Ld e 225 b λ f=>Nc f<|Ld e 362 d λ g=>Mi e 362 g λ g=>Ld e 225 b λ i=>Iv e c "IterateUsing" #[i,(.func (.func 482) #[] #[a,b,d])] λ a b=>Dg b (cH f g) λ b=>R a b)))->Cf h 472 #[a,b,c] R:=mS Tryz.func472 (Z (Z (Z (Q cg (Q cg (Z (Q (X #[0,1,0,4,15]) bG)))))))
def TJ:(Ld h 586 c λ c=>Lk h 586 c a true λ a=>aW a λ a c=>cD h c (R (.bool false) h) (Ld h 225 d λ c=>Ld h 362 e λ e=>Cf h 187 #[e,a] λ a e=>bh e 225 d c/\(Cf e 117 #[c,a,b] λ a b=>R a b)))->Cf h 482 #[a,b,c,d,e] R:=mS Tryz.func482 (Z (Z (Q cg (Q (X #[0,0,0,6,0,31,63]) L))))
theorem An(Z:aN I h){L:bn}(p:PV I a (.iface 241 c))(O:PV I b (.iface 241 d))(i:cd I c 1 L.length (L.map bE))(E:cd I d 1 z.length (z.map bE))(u:L≠[])(x:L.length<1000000)(g:z.length<1000000){T:KV}(Q:∀U,aD I h I U->T (.bool (decide (L=z))) U):Cf h 117 #[co m,a,b] T:=by
 obtain⟨o,A,rfl,J⟩:=p;obtain⟨H,z,rfl,V⟩:=O;have w:∀{W:Heap},aN I W->aI W o 0=some (.iface 241 c):=λ Z=>aA (Z _ _ J) 0;have F:∀{W:Heap},aN I W->aI W H 0=some (.iface 241 d):=λ Z=>aA (Z _ _ V) 0;have s:aD I h I h:=aC.refl Z;refine CW (rB (w Z) ?_);refine e8 Z .lst λ y v=>?_;have X:=v.sat;have z:=v;try simp(disch:=omega)only[go_sem,↓reduceIte,w X,F X,dz]
 refine e8 X .lst λ y v=>?_;have X:=v.sat;have d:=z.trans v;try simp(disch:=omega)only[go_sem,↓reduceIte,w X,F X,dz]
 refine f4 X .lst λ y v=>?_;have X:=v.sat;have d:=d.trans v;try simp(disch:=omega)only[go_sem,↓reduceIte,w X,F X,dz]
 refine f4 X .lst λ y v=>?_;have X:=v.sat;have d:=d.trans v;try simp(disch:=omega)only[go_sem,↓reduceIte,w X,F X,dz]
 refine ew X .lst λ y v=>?_;have X:=v.sat;have d:=d.trans v;try simp(disch:=omega)only[go_sem,↓reduceIte,w X,F X,dz]
 refine ew X .lst λ y v=>?_;have X:=v.sat;have d:=d.trans v;try simp(disch:=omega)only[go_sem,↓reduceIte,w X,F X,dz]
 refine ig X .lst λ y v=>?_;have X:=v.sat;have d:=d.trans v;try simp(disch:=omega)only[go_sem,↓reduceIte,w X,F X,dz]
 refine ig X .lst λ y v=>?_;have X:=v.sat;have d:=d.trans v;try simp(disch:=omega)only[go_sem,↓reduceIte,w X,F X,dz]
 refine fQ X .lst λ y v=>?_;have X:=v.sat;have d:=d.trans v;try simp(disch:=omega)only[go_sem,↓reduceIte,w X,F X,dz]
 refine fQ X .lst λ y v=>?_;have X:=v.sat;have d:=d.trans v;try simp(disch:=omega)only[go_sem,↓reduceIte,w X,F X,dz]
 refine km X λ y v=>?_;have X:=v.sat;have d:=d.trans v;try simp(disch:=omega)only[go_sem,↓reduceIte,w X,F X,dz]
 refine km X λ y v=>?_;have X:=v.sat;have d:=d.trans v;try simp(disch:=omega)only[go_sem,↓reduceIte,w X,F X,dz]
 refine Ek X i E u x g λ N P=>?_;exact cG (T:=λ R=>Dg R _ λ q=>T _ q) (cG (Q N (d.trans P)))
theorem D6(Z:aN I h){M t:Option Nat}{u:Bool}(p:PV I a (.iface 242 (.map M)))(O:PV I b (.iface 242 (.map t)))(B:∀y,aD I h I y->∀Q:KV,(∀N,aD I y I N->Q (.bool u) N)->Cf y 472 #[.map M,co m,.iface 586 (.map t)] Q){T:KV}(D:∀U,aD I h I U->T (.bool u) U):Cf h 117 #[co m,a,b] T:=by
 obtain⟨x,A,rfl,J⟩:=p;obtain⟨H,z,rfl,c⟩:=O;have w:∀{W:Heap},aN I W->aI W x 0=some (.iface 242 (.map M)):=λ Z=>aA (Z _ _ J) 0;have F:∀{W:Heap},aN I W->aI W H 0=some (.iface 242 (.map t)):=λ Z=>aA (Z _ _ c) 0;have s:aD I h I h:=aC.refl Z;refine CW (rB (w Z) ?_);refine e8 Z .map λ y v=>?_;have X:=v.sat;have z:=v;try simp(disch:=omega)only[go_sem,↓reduceIte,w X,F X,dz]
 refine e8 X .map λ y v=>?_;have X:=v.sat;have d:=z.trans v;try simp(disch:=omega)only[go_sem,↓reduceIte,w X,F X,dz]
 refine f4 X .map λ y v=>?_;have X:=v.sat;have d:=d.trans v;try simp(disch:=omega)only[go_sem,↓reduceIte,w X,F X,dz]
 refine f4 X .map λ y v=>?_;have X:=v.sat;have d:=d.trans v;try simp(disch:=omega)only[go_sem,↓reduceIte,w X,F X,dz]
 refine ew X .map λ y v=>?_;have X:=v.sat;have d:=d.trans v;try simp(disch:=omega)only[go_sem,↓reduceIte,w X,F X,dz]
 refine ew X .map λ y v=>?_;have X:=v.sat;have d:=d.trans v;try simp(disch:=omega)only[go_sem,↓reduceIte,w X,F X,dz]
 refine ig X .map λ y v=>?_;have X:=v.sat;have d:=d.trans v;try simp(disch:=omega)only[go_sem,↓reduceIte,w X,F X,dz]
 refine ig X .map λ y v=>?_;have X:=v.sat;have d:=d.trans v;try simp(disch:=omega)only[go_sem,↓reduceIte,w X,F X,dz]
 refine fQ X .map λ y v=>?_;have X:=v.sat;have d:=d.trans v;try simp(disch:=omega)only[go_sem,↓reduceIte,w X,F X,dz]
 refine fQ X .map λ y v=>?_;have X:=v.sat;have d:=d.trans v;try simp(disch:=omega)only[go_sem,↓reduceIte,w X,F X,dz]
 refine gK X .map λ y v=>?_;have X:=v.sat;have d:=d.trans v;try simp(disch:=omega)only[go_sem,↓reduceIte,w X,F X,dz]
 refine gK X .map λ y v=>?_;have X:=v.sat;have d:=d.trans v;try simp(disch:=omega)only[go_sem,↓reduceIte,w X,F X,dz]
 refine lF X rfl λ y v=>?_;have X:=v.sat;have d:=d.trans v;try simp(disch:=omega)only[go_sem,↓reduceIte,w X,F X,dz]
 refine lF X rfl λ y v=>?_;have X:=v.sat;have d:=d.trans v;try simp(disch:=omega)only[go_sem,↓reduceIte,w X,F X,dz]
 refine B _ d _ λ N P=>?_;exact cG (T:=λ R=>Dg R _ λ q=>T _ q) (cG (D N (d.trans P)))
theorem xO{u:Bool}{g:Nat->Prop}(Z:aN I h)(w:I m=some (.map #[eA a] 1))(l:aG a=true)(q:∀k,g k->k<h.size)(V:∀J A y,aD I h A y->PV A J a->∀T:KV,(∀z N,aC g A y z N->(∀K,aD z N z K->R (.bool u) K)->T (.bool u) N)->Cv y c #[aU bA,J] T):Cf h 477 #[.map (some m),co n,c] R:=by
 apply DX;try simp(disch:=omega)only[go_sem,↓reduceIte,g4 Tryz.underlying586 (bI (Z _ _ w))]
 refine iJ Z λ y v x=>?_;have X:=v.sat;have o:=v.size;have P:=aF x;try simp(disch:=omega)only[go_sem,↓reduceIte,hX Tryz.underlying586 (bI (X _ _ w))]
 refine⟨λ K=>(df K y.size m 1 []/\aD I h I K/\blk K h.size=aE #[ni] 432)\/(u=true/\df K y.size m 1 [eA a]/\cJ K m=some (#[eA a],1)/\R (.bool u) K),λ K=>1-jq K y.size,.inl ⟨df.new,bX Z v,bz x⟩,?_⟩;rintro K(⟨r,E,D⟩|⟨j,r,B,L⟩)
 ·have i:=E.sat;refine im (bI (i _ _ w)) (jh a) r (λ o=>absurd (o (eA a) zab) zab) λ C x e t T n F=>?_;have s:C=eA a:=bS x;have U:=E.size;have A:I y.size=none:=by cases i:I y.size with|none=>rfl|some G=>exact absurd (Z.dom i) zaa
  have S:aD I h I t:=gf E (.inl zaa) A T n;have O:=S.sat;have p:blk t h.size=aE #[ni] 432:=(n _ zaa).trans D;have d:C.key=aU bA:=by rw[s]
  have ev:C.val=a:=by rw[s]
  try simp(disch:=omega)only[go_sem,↓reduceIte,jk (bI (O _ _ w)) (jh a) x F,d,ev]
  refine iB p l ?_;have f:=aC.one (show aD I h I (aO t h.size 0 a)from bX Z S) (b:=h.size) bu;refine V _ (I.one h.size (aO t h.size 0 a)) (aO t h.size 0 a) f.1 ⟨h.size,432,rfl,aK.one_eq (bz p)⟩ _ λ z N d H=>?_;have M:df (aO t h.size 0 a) y.size m 1 [C]:=by show blk _ _=_;rw[bO,if_neg zaa];exact F
  have Q:=M.step d λ G=>cW (q _ G);have Y:cJ N m=some (#[eA a],1):=bI (d.sat _ _ (d.le _ _ (f.2 _ _ w)));have W:=H N (aC.refl d.sat);refine(Bool.eq_false_or_eq_true u).elim (λ j=>?_) λ j=>?_
  ·refine rB j ?_;refine⟨.inr ⟨s▸Q,Y,j▸W⟩,?_⟩;rw[dX Q,dX r];show 1-1<1-0;exact zaE
  ·refine rB j ?_;exact cG (j▸W)
 ·refine im B (jh a) r (λ _=>?_) λ C x e t T n F=>absurd x (by intro x;have s:C=eA a:=bS x;exact e (by rw[s];exact zab));refine rA ?_;refine cG ?_;exact j▸L
theorem EB:dK 586 "Length"=some 478:=zag
theorem JI:dK 586 "IterateUsing"=some 477:=zag
theorem Mh:fO 482=true:=zag
theorem ng(Z:aN I h){s:Option Value}(w:ge I m s)(L:R (aR (if s.isSome then 1 else 0)) h):Cf h 478 #[.map (some m)] R:=by cases s with|none=>apply HT;exact zbf|some G=>apply HT;exact zcg
theorem BI(P:aN I h){M t:Option Nat}{L:bn}(f:dE I M L)(w:dE I t z)(e:z≠[])(bL:L.length<1000000)(bR:z.length<1000000)(Q:∀U,aD I h I U->R (.bool (decide (L=z))) U):Cf h 472 #[.map M,co m,.iface 586 (.map t)] R:=by
 obtain⟨a,rfl,f⟩:=f;obtain⟨d,rfl,w⟩:=w;obtain⟨S,H,l⟩:=(w.resolve_left λ F=>e F.1).2;have C:aD I h I ((h.push (aV #[.map (some a)] 586)).push (aV #[co m] 225)):=aP P;have k:aG S=true:=zb7;have x:ge I d (some S):=⟨H,k⟩;rcases f with⟨u,f⟩|⟨u,G,f,R⟩
 ·have V:decide (L=z)=false:=by simp only[decide_eq_false_iff_not];intro U;exact e (U▸u)
  refine IZ (rA ?_);refine ng (s:=none) C.sat f ?_;try simp(disch:=omega)only[go_sem,↓reduceIte,dH EB]
  refine ng (s:=some S) C.sat x ?_;refine rA ?_;exact V▸Q _ C
 ·have w:aG G=true:=by obtain⟨q,rfl,-⟩:=R;rfl
  refine IZ (rA ?_);refine ng (s:=some G) C.sat ⟨f,w⟩ ?_;try simp(disch:=omega)only[go_sem,↓reduceIte,dH EB]
  refine ng (s:=some S) C.sat x ?_;refine rA ?_;refine iJ C.sat λ K r J=>?_;have e:=r.size;(try simp only[bJ]at e);(try simp only[bJ]at J);have O:blk K h.size=aE #[.map (some a)] 586:=r.blk Bk id;have E:blk K (h.size+1)=aE #[co m] 225:=r.blk Bk id;have y:=aF J;have i:=r.sat;have T:=C.trans r;try simp(disch:=omega)only[go_sem,↓reduceIte,dH JI,aA O,aA E]
  obtain⟨W,B⟩:∃W:Heap,W=aO (K.push (aV #[nilp] 362)) K.size 0 (aB (h.size+1+1)):=⟨_,rfl⟩;rw[<-B];have v:aD I h I W:=by rw[B];exact bX P T
  have c:W.size=K.size+1:=by rw[B];exact zbD
  have c:blk W h.size=aE #[.map (some a)] 586:=by rw[B];exact bz O
  have a:blk W (h.size+1)=aE #[co m] 225:=by rw[B];exact bz E
  have j:blk W K.size=aE #[aB (h.size+1+1)] 362:=zaR;have F:blk W (h.size+1+1)=aE #[ni] 432:=by rw[B];exact bz J
  have Z:=lA v [h.size,h.size+1,K.size] (by simp;exact zaa);have x:=Z.2.1 h.size _ zab c;have N:=Z.2.1 (h.size+1) _ zab a;have c:=Z.2.1 K.size _ zab j;have e:=Z.2.2 (h.size+1+1) (by simp;exact zaa);have s:=Z.1.le;have t:=Z.1.sat;refine xO (u:=decide (L=z)) (g:=Eq (h.size+1+1)) t (s _ _ H) k (λ r Y=>zaa) λ J A y v p a x0=>?_;rw[ej Mh];show Cf y 482 #[aU bA,J,aB h.size,aB (h.size+1),aB K.size] a;have X:=v.sat;have m:=X _ _ (v.le _ _ x);have k:=X _ _ (v.le _ _ N);have J:=X _ _ (v.le _ _ c);have d:=v.blk F id;have g:=aF d;have i:=X _ _ (v.le _ _ (s _ _ f));have S:A (h.size+1+1)=none:=(v.dom _ (aF F) id).trans (e.trans (P.fresh zaa));apply TJ;try simp(disch:=omega)only[go_sem,↓reduceIte,aA m,aA k,aA J,hN mu (bI i) (jh G).1,sI,Option.getD_some]
  refine iB d w ?_;have g:aC (Eq (h.size+1+1)) A y A (aO y (h.size+1+1) 0 G):=aC.put (aC.refl X) (.inr rfl) S;have n:=g.sat;have K:=n _ _ (v.le _ _ N);have C:blk (aO y (h.size+1+1) 0 G) (h.size+1+1)=aE #[G] 432:=bz d;have j:=n.one_le (h.size+1+1);obtain⟨X,rfl,a0⟩:=R;obtain⟨q,rfl,F⟩:=l;have S:=s.trans v.le;refine rB K.c ?_;refine An (n.one (h.size+1+1)) ⟨_,_,rfl,aK.one_eq C⟩ (p.mono j) ((a0.mono S).mono j) ((F.mono S).mono j) u bL bR λ T M=>?_;refine x0 A T (g.trans ((aC.forget j M).weak λ _ _=>False.elim)) λ B P=>?_;refine cG ?_;refine Q B ?_;have S:aD I h A T:=((Z.1.trans v).trans' g λ r Y U=>zaa).trans (aC.forget j M);exact aC.forget (aK.le.refl _) ⟨(S.trans P).size,(S.trans P).same,λ _ _ _=>rfl,aK.le.refl _,λ u X i=>(S.trans P).sat u X ((S.trans P).le u X i)⟩
def SA:(Bx h 369 b λ b d=>Bx d 95 c λ c d=>Lp (∃e:V0,(∀d,e d->(Lp (∃e:V1,(∀d f,e d f->(Nc a<|Ld f 375 a λ e=>Nc d<|Sr f 375 d e λ e=>Ld e 95 c λ c=>bC e 375 d 3 95 c λ c=>bg c 375 a 4 λ e=>Ld c 252 e λ f=>Ld c 369 b λ b=>Bs c 252 1 #[(0,b)] λ b c=>aX c 375 a 4 e 252 f<|(Ap c 252 f b λ b c=>bC c 375 d 4 252 b λ b=>aM b 375 a 0 101 λ a=>bC b 375 d 0 101 a λ a=>R d a)))/\(aM d 375 a 8 373 λ b=>Nc b<|Ld d 596 b λ b=>Ln d 596 b λ b=>bv d .gtr 3 b i0 (aM d 375 a 8 373 λ c=>aM d 375 a 8 373 λ f=>Nc f<|Ld d 596 f λ f=>Bi d .sub 3 b i1 λ g=>Ia d 596 f g λ f=>Ld d 372 f λ f=>aM d 375 a 8 373 λ a=>Nc a<|Ld d 596 a λ a=>Bi d .sub 3 b i1 λ b=>Sl d 596 a none (some b) none λ a=>Nc c<|Sr d 596 c a λ a=>e f a) (Bd d 375 #[] λ a=>Bx d 375 a λ a b=>e a b)))))/\(aM d 375 a 8 373 λ b=>ce d 373 b nilp (Bs d 596 0 #[] λ b c=>Bx c 596 b λ b c=>bC c 375 a 8 373 b λ a=>e a) (e d))))->Cf h 367 #[a,b,c] R:=mS Tryz.func367 (Z (Y [] cF (Z (Y [7] Bt (Z (Z (Q EZ cX)))))))
def Ts:(bC h 375 b 2 173 nilp λ c=>bC c 375 b 1 86 nilp λ c=>bC c 375 b 0 101 nilp λ c=>Bd c 95 #[] λ d=>bC c 375 b 3 95 d λ c=>Lp (∃d:V0,(∀c,d c->(Lp (∃d:V0,(∀c,d c->(Lp (∃d:V0,(∀c,d c->(bC c 375 b 6 173 nilp λ c=>bC c 375 b 7 173 nilp λ c=>bg c 375 a 8 λ d=>Ld c 373 d λ e=>bg c 375 a 8 λ f=>Ld c 373 f λ g=>Nc g<|Ld c 596 g λ i=>Bs c 596 1 #[(0,b)] λ b c=>aX c 375 a 8 d 373 e<|aX c 375 a 8 f 373 g<|fY c 596 g i<|(Ap c 596 i b λ b c=>aX c 375 a 8 d 373 e<|(Nc e<|Sr c 596 e b λ a=>R (.tuple #[]) a))))/\(aM c 375 b 7 173 λ e=>bx c 173 e nilp (aM c 375 a 7 173 λ e=>ce c 173 e nilp (aM c 375 b 7 173 λ b=>bC c 375 a 7 173 b λ a=>d a) (aM c 375 a 7 173 λ e=>aM c 375 b 7 173 λ b=>Cf c 90 #[e,b] λ b c=>bC c 375 a 7 173 b λ a=>d a)) (d c)))))/\(aM c 375 b 6 173 λ e=>bx c 173 e nilp (aM c 375 a 6 173 λ e=>ce c 173 e nilp (aM c 375 b 6 173 λ b=>bC c 375 a 6 173 b λ a=>d a) (aM c 375 a 6 173 λ e=>aM c 375 b 6 173 λ b=>Cf c 90 #[e,b] λ b c=>bC c 375 a 6 173 b λ a=>d a)) (d c)))))/\(aM c 375 b 4 252 λ a=>Kp c 252 a λ a=>bv c .lss 3 a (aR 20) (aM c 375 b 4 252 λ a=>Sl c 252 a none (some i0) none λ a=>bC c 375 b 4 252 a λ a=>d a) (bC c 375 b 4 252 n0 λ a=>d a))))->Cf h 369 #[a,b] R:=mS Tryz.func369 (Z (Z (Z (Z (Y [] cF (Y [] Qc (Y [] Qc (Z (Z Hw)))))))))
theorem GM(O:x.length=14):∃f o g e z a C I K d E P i s,x=[f,o,g,e,z,a,C,I,K,d,E,P,i,s]:=zbU
theorem xX(W:∃H,blk h m=aE H n/\H.size=14){M:Prop}(T:∀f o g e z a C I K d E P i s,blk h m=aE #[f,o,g,e,z,a,C,I,K,d,E,P,i,s] n->M):M:=by obtain⟨H,y,N⟩:=W;obtain⟨f,o,g,e,z,a,C,I,K,d,E,P,i,s,k⟩:=GM (x:=H.toList) (bS N);exact T f o g e z a C I K d E P i s zbq
structure Tf(base:Nat)(I:aK)(h:Heap)(w sb:Nat)(x pv:Value)(ws:cK)(spv:Value)(cw:cQ)(cp ct:cQ)(n:Nat)(rows:bW)(h3:Heap)(sb2:Nat)(x2:Value):Prop where
 st:aC (λ k=>k=w\/k∈aY sb x pv ws) I h I h3
 bw:blk h3 w=aE cw 375
 sp:eC 375 596 372 14 base I h3 sb2 x2 ws
 po:aQ base I h3 369 4 pv n rows
 nd:(w::aY sb2 x2 pv ws).Nodup
 old:∀k∈sb2::x2.bl,k∈aY sb x pv ws\/h.size+2<=k
 bp:blk h3 h.size=aE cp 369
 bt:blk h3 (h.size+1)=aE ct 95
 sbe:spv=aB sb->sb2=sb
structure QL(base:Nat)(I:aK)(h:Heap)(w sb:Nat)(x pv:Value)(ws:cK)(spv:Value)(cw:cQ)(cp ct:cQ)(n:Nat)(rows:bW)(h3:Heap)(w3 sb2:Nat)(x2:Value):Prop where
 st:aC (λ k=>k=w\/k∈aY sb x pv ws) I h I h3
 bw:blk h3 w=aE cw 375
 sp:eC 375 596 372 14 base I h3 sb2 x2 []
 po:aQ base I h3 369 4 pv n rows
 nd:(w::w3::aY sb2 x2 pv []).Nodup
 old:∀k∈w3::sb2::x2.bl,k∈aY sb x pv ws\/h.size+2<=k
 bp:blk h3 h.size=aE cp 369
 bt:blk h3 (h.size+1)=aE ct 95
 b3:∃cs,blk h3 w3=aE cs 375/\cs.size=14
 wI:I w3=none
 wb:base<=w3
 sbe:spv=aB sb->sb2=sb
theorem HZ{D:Int}{r:IntKind}{T:Value->Prop}(K:0<=D/\D<=n):Sl h 596 (bq o l m n) none (some (.int r D)) none T=T (bq o l D.toNat n):=iW Tryz.underlying596 NE K
set_option maxHeartbeats 1000000 in theorem pK{L:Nat}{T:aK}{O:Heap}(Z:aN T O){a0:cK}{V l u0 u1 H u3 U C:Value}{a1:Nat}(hw:blk O m=aE #[c,d,e,f,g,i,j,p,q,b,r,s,V,l] 375)(a2:T m=none)(X:∀S∈[c,d,e,f,g,i,j,p,q,r,s,V],aG S=true)(v:∀S∈[u0,u1,H,u3,U,C],aG S=true)(hm:MQ 375 596 372 14 L T O m o a b a0 l)(po:aQ L T O 369 4 b a1 x)(W:a1<=1)(a3:bM T w G)(J:L<=O.size)(hR:∀J y M E t,aC (λ k=>k=m\/k∈aY o a b a0) T O T t->blk t m=aE #[c,d,e,f,g,i,j,p,q,b,r,s,V,aB y] 375->blk t J=aE #[c,d,e,u0,u1,H,u3,U,C,E,r,s,V,aB y] 375->MS 375 596 372 14 L T t m J y M E [] (a1+1) (x++w)->(∀k∈J::aY y M E [],k∈aY o a b a0\/O.size<=k)->(l=aB o->y=o)->MS 375 596 372 14 L T t m J y M b [] a1 x->R (aB J) t):Cf O 367 #[aB m,.agg w.toArray,.agg #[u0,u1,H,u3,U,C]] R:=by
 obtain⟨p0,p1,p2,p3,rfl⟩:=cL a3.1;have q0:=X c zab;have q1:=X d zab;have q2:=X e zab;have q3:=X f zab;have Y:=X g zab;have q5:=X i zab;have q6:=X j zab;have q7:=X p zab;have q8:=X q zab;have q9:=X r zab;have a4:=X s zab;have a5:=X V zab;have F:=v u0 zab;have N:=v u1 zab;have r2:=v H zab;have r3:=v u3 zab;have r4:=v U zab;have r5:=v C zab;have s0:=a3.one p0 zab;have s1:=a3.one p1 zab;have s2:=a3.one p2 zab;have s3:=a3.one p3 zab;have P:=aF hw;have zm:=xk hm po P;have op:=po.one;have a6:a0=[]\/∃S,a0=[S]:=hm.elim (λ G=>.inl G.2.2.2.1) λ G=>G.2.2.1;apply SA;try simp(disch:=omega)only[go_sem,↓reduceIte,s0,s1,s2,s3]
 refine⟨λ K=>∃y M,Tf L T O m o a b a0 l (#[c,d,e,f,g,i,j,p,q,b,r,s,V,aB y]) #[p0,p1,p2,p3] #[u0,u1,H,u3,U,C] a1 x K y M,λ K W=>W.elim λ y W=>W.elim λ M B=>?_,?_⟩
 ·have st:=B.st;have S3:=st.sat;have z3:=st.size;have v:=ED B.nd;refine B.sp.own.slK λ ax cx t=>?_;have bk:=B.sp.bk;rw[t]at bk;have a7:=B.sp.lts;refine rC B.bw.c bk.c ?_;refine⟨λ P t=>∃J x3,P=aB J/\QL L T O m o a b a0 l (#[c,d,e,f,g,i,j,p,q,b,r,s,V,aB y]) #[p0,p1,p2,p3] #[u0,u1,H,u3,U,C] a1 x t J y x3,λ P t W=>W.elim λ J W=>W.elim λ x3 W=>?_,?_⟩
  ·have e2:=W.1;have u:=W.2;have a8:=u.st;have l:=a8.sat;have z:=a8.size;have v:=fU u.nd;have X:=v.1;have n2:J≠O.size/\J≠O.size+1:=by
    rcases u.old J zab with Q|Q
    ·have:=zm _ Q;exact zaa
    ·exact zaa
   have n3:=n2.1;have w:=n2.2;have nw:=v.2.2.2.2.1.2.1;have P:=u.b3.elim λ a9 w=>aF w.1;have P:=aF u.sp.bk;have w:=aF u.bw;have w:=u.wI;have r3:aC (Eq J) T t T t:=aC.refl l;refine xX u.b3 λ P P P z3 z P z P z P P P P z hz=>?_;try simp(disch:=omega)only[go_sem,↓reduceIte,e2,aA u.bw,aA hz,aS hz,aA u.bp,aA u.bt,q0,q1,q2,q3,Y,q5,q6,q7,q8,q9,a4,a5,F,N,r2,r3,r4,r5,s0,s1,s2,s3,op,cn]
   refine v7 gO rfl zaa zaa (H:=#[p0,p1,p2,p3]) (t:=L) (I:=T) (u:=a1) (w:=x) Bk (u.po.step (D:=Eq J) (I':=T) (dv l r3 w) (λ P z G=>nw (G▸mem_bl.2 z))) (aC.sat (D:=Eq J) (I:=T) (h:=t) (dv l r3 w)) rfl a3.one zaa (by(try simp only[bJ]);exact zaa) λ E N o8 aa Y S8 w8=>?_;have ab:aC (λ k=>k=J\/b.ownBlock=some k) T t T N:=aC.touch ((show aC (Eq J) T t T _ from dv l r3 w).weak λ k _ G=>Or.inl G.symm) Y λ P z=>⟨.inr (.inr z),u.po.2 P z⟩;have F:aC (λ k=>b.ownBlock=some k) T _ T N:=aC.touch (show aC (λ k=>b.ownBlock=some k) T _ T _ from aC.refl (aC.sat (D:=Eq J) (I:=T) (h:=t) (dv l r3 w))) Y λ P z=>⟨.inr z,u.po.2 P z⟩;have l:blk N J=aE #[c,d,e,u0,u1,H,u3,U,C,b,r,s,V,aB y] 375:=F.blk (bz hz) λ F=>nw (mem_bl.2 F);have x:=aF l;have ac:=o8.one;(try simp only[bJ]at w8);have ad:∀F,aC (Eq J) T N T F->blk F J=aE #[c,d,e,u0,u1,H,u3,U,C,E,r,s,V,aB y] 375->R (aB J) F:=by
    intro F x b3;have t:=ab.trans' x (λ k _ G=>.inl G.symm);have R:(m::J::aY y x3 E []).Nodup:=f3 (K:=m::J::y::x3.bl) (N:=[]) u.nd (w8.imp id λ⟨P,z,Y⟩=>⟨P,z,λ k Y=>by
     simp only[List.mem_cons]at Y;rcases Y with rfl|rfl|rfl|Y
     ·exact zaa
     ·exact zaa
     ·exact zaa
     ·have:=(u.sp.own.lt Y).2;exact zaa,zab⟩);have ae:=fU R;refine hR J y x3 E F (a8.trans' t ?_) (t.blk u.bw ?_) b3 ⟨u.sp.step t ?_ ?_ zab,o8.step x (λ P z G=>ae.2.2.2.2.1.2.1 (G▸mem_bl.2 z)),R,a2,w,u.wb⟩ ?_ u.sbe ⟨u.sp.step t (λ G=>G.elim (λ G=>v.2.2.1 G.symm) λ G=>v.2.2.2.2.1.2.2 (mem_bl.2 G)) (λ P z G=>G.elim (λ G=>v.2.2.2.1.2.1 (G▸mem_bl.2 z)) λ G=>v.2.2.2.2.2.1 P (mem_bl.2 z) (mem_bl.2 G)) zab,aa.step x (λ P z G=>nw (G▸mem_bl.2 z)),u.nd,a2,w,u.wb⟩
    ·intro k Y F;rcases F with rfl|F
     ·rcases u.old k zab with Q|Q
      ·exact .inr Q
      ·exact zaa
     ·exact zco
    ·exact zbj
    ·exact za2
    ·exact zaA
    ·intro k Y;simp only[aY,List.mem_cons,List.mem_append]at Y;have x:k∈J::y::x3.bl->k∈aY o a b a0\/O.size<=k:=λ Y=>(u.old k Y).imp id λ Q=>zaa;rcases Y with Y|Y|Y|Y|Y
     ·exact x zch
     ·exact x zch
     ·exact x (c6 (c6 Y))
     ·rcases w8 with Q|⟨P,Q,E⟩
      ·exact zbE
      ·have:=mem_bl.1 Y;rw[Q]at this;cases this;exact .inr zaa
     ·cases Y
   have E:aC (Eq J) T N T N:=aC.refl S8;have R:blk N m=_:=ab.blk u.bw (λ F=>F.elim X λ G=>v.2.2.2.2.1.1 (mem_bl.2 G));refine rF l.b R.c e2 ac q0 ?_;refine ad _ (dv S8 E w) ?_;exact bz l
  ·refine a6.elim (λ G=>?_) λ W=>W.elim λ S G=>?_
   ·have l:blk K y=aE #[.slice ax 0 cx] 596:=zcu;refine rC B.bw.c l.c ?_;have l:eC 375 596 372 14 L T K y M []:=zaI;have x:(m::aY y M b []).Nodup:=zaJ;have R:aD T K T (K.push (aV #[nilp,nilp,nilp,nilp,nilp,nilp,nilp,nilp,bf,n0,bf,nilp,nilp,nilp] 375)):=(aC.refl S3).push _;have N:=aF B.bt;refine⟨K.size,M,rfl,⟨st.push _,R.blk B.bw id,l.step R id (λ _ _=>id) (λ _ _=>id),B.po.step R (λ _ _=>id),pd x ?_,?_,R.blk B.bp id,R.blk B.bt id,⟨#[nilp,nilp,nilp,nilp,nilp,nilp,nilp,nilp,bf,n0,bf,nilp,nilp,nilp],Bk,rfl⟩,Z.fresh z3,zaa,B.sbe⟩⟩
    ·exact zbe
    ·intro k Y;rcases List.mem_cons.1 Y with rfl|Y
     ·exact .inr zaa
     ·exact B.old k Y
   ·have l:eC 375 596 372 14 L T K y M [S]:=zaI;have x:(m::aY y M b [S]).Nodup:=zaJ;refine l.own.atK zab λ P w v u af E L ag t N ah=>?_;have W:1<=w:=L;have L:aI K P 0=some (aB S):=by rw[aA E,<-Array.getElem?_toList];have:(v.toList.take (1*1))[0]?=some (aB S):=zbh;rw[List.getElem?_take]at this;exact zai
    have N:blk K y=aE #[bq P 0 1 w] 596:=by have:=l.bk;rw[u]at this;exact zbX
    have W:=l.each S zab;have J:=fU (hu x);have ai:P∈M.bl:=mem_bl.2 zb8;have aj:P≠y:=λ G=>J.2.2.2.1.2.2 (G▸ai);refine rF B.bw.c N.b L @HZ @bZ ?_;have L:aC (Eq y) T K T (aO K y 0 (bq P 0 0 w)):=aC.put (aC.refl S3) (.inr rfl) l.sbI;have K:(Value.slice (some ⟨P,0,none⟩) 0 w).bl=M.bl:=zb8;refine⟨S,bq P 0 0 w,rfl,⟨st.trans' L ?_,L.blk B.bw (λ G=>J.2.1 G.symm),⟨bz N,⟨⟨zab,.inr ⟨P,w,v,rfl,af,?_,Nat.zero_le _,ag,t,zab⟩⟩,λ M t=>by cases t;exact ah⟩,zab,l.sbI,l.sbb,λ G=>by cases G;exact aj rfl,zab⟩,B.po.step L (λ P z G=>J.2.2.2.2.1.2.2 (G▸mem_bl.2 z)),?_,?_,L.blk B.bp ?_,L.blk B.bt ?_,?_,W.2.2.1,W.2.1,B.sbe⟩⟩
    ·intro k Y G;rcases B.old y zab with Q|Q
     ·exact .inr (G▸Q)
     ·exact zaa
    ·show blk _ _=_;rw[bO,if_neg (λ G=>aj G.symm)];exact E
    ·show(m::S::y::(_++_)).Nodup;rw[K];exact hu x
    ·intro k Y;rw[K]at Y;rcases List.mem_cons.1 Y with rfl|Y
     ·exact .inl (gx (by rw[G];exact zab))
     ·exact B.old k Y
    ·intro G;rcases B.old y zab with Q|Q
     ·have:=zm _ Q;exact zaa
     ·exact zaa
    ·intro G;rcases B.old y zab with Q|Q
     ·have:=zm _ Q;exact zaa
     ·exact zaa
    ·exact zcw
 ·refine hm.elim (λ G=>?_) λ G=>?_
  ·have l:blk O m=aE #[c,d,e,f,g,i,j,p,q,b,r,s,V,nilp] 375:=zbd;refine rB l.b ?_;obtain⟨E,e2,Q,w,S⟩:=G;subst e2;subst Q;subst w;have W:aC (Eq o) T O T O:=aC.refl Z;have Q:∀F,aC (Eq o) T O T F->aC (λ k=>k=o\/k∈aY o ni b []) T O T F:=λ F B=>B.weak λ k _ G=>.inl G.symm;refine⟨O.size+3,bq (O.size+2) 0 0 0,⟨Q _ (dv Z W a2),?_,⟨Bk,aQ.empty zaa zaP (Z.fresh zaa),zab,Z.fresh zaa,zaa,?_,zab⟩,po.step (D:=Eq o) (I':=T) (dv Z W a2) (λ P z G=>S (G▸mem_bl.2 z)),?_,?_,Bk,Bk,λ F=>by rw[E]at F;cases F⟩⟩
   ·exact bz l
   ·intro F;simp only[Value.ownBlock,Option.some.injEq]at F;exact zaa
   ·have n0:o≠O.size+3:=zaa;have X:o≠O.size+2:=zaa;have n2:∀k∈b.bl,k≠O.size+3/\k≠O.size+2:=λ k Y=>cW (po.lt Y).2;have n3:b.bl.Nodup:=zbm;have B:(Value.slice (some ⟨O.size+2,0,none⟩) 0 0).bl=[O.size+2]:=rfl;show(o::(O.size+3)::(_++_)).Nodup;rw[B];simp only[List.nodup_cons,List.cons_append,List.nil_append,List.append_nil,List.mem_cons,not_or];exact⟨⟨n0,X,S⟩,⟨zaa,λ F=>(n2 _ F).1 rfl⟩,λ F=>(n2 _ F).2 rfl,n3⟩
   ·intro k Y;have B:(Value.slice (some ⟨O.size+2,0,none⟩) 0 0).bl=[O.size+2]:=rfl;rw[B]at Y;simp only[List.mem_cons,List.not_mem_nil,or_false]at Y;exact .inr zaa
  ·have l:blk O m=aE #[c,d,e,f,g,i,j,p,q,b,r,s,V,aB o] 375:=zbd;refine rB l.c ?_;have R:aD T O T ((O.push (aV #[p0,p1,p2,p3] 369)).push (aV #[u0,u1,H,u3,U,C] 95)):=((aC.refl Z).push _).push _;exact⟨o,a,⟨R.weak λ _ _=>False.elim,R.blk l id,G.2.1.step R id (λ _ _=>id) (λ _ _=>id),po.step R (λ _ _=>id),G.2.2.2,λ k Y=>.inl (m8 Y),Bk,Bk,λ _=>rfl⟩⟩
set_option maxHeartbeats 1000000 in theorem rp{L:Nat}{T:aK}{O:Heap}(Z:aN T O){w pc:Nat}{y:cK}{a0 V H U X F Q z B C S W J:Value}{pa:Option Addr}(G:blk O m=aE #[c,d,e,f,g,i,j,p,q,a0,r,s,V,aB t] 375)(K:blk O l=aE #[H,U,X,F,Q,z,B,C,S,.slice pa v pc,W,nilp,nilp,J] 375)(S:MS 375 596 372 14 L T O m l t a a0 y w x)(F:L<=O.size)(E:y.length<2147483646)(hR:∀M U,aC (λ k=>k=l\/k=t\/k∈a.bl) T O T U->blk U m=aE #[c,d,e,f,g,i,j,p,q,a0,r,s,V,aB t] 375->MT 375 596 372 14 L T U m t M a0 (y++[l]) w x->(∀k∈aY t M a0 (y++[l]),k∈l::aY t a a0 y\/O.size<=k)->R (.tuple #[]) U):Cf O 369 #[aB m,aB l] R:=by
 have f:=fU S.nd;have P:=aF G;have B:=aF K;have F:=S.sp.lts;have E:=S.w3I;refine Ts (rB K.b ?_);have a1:aC (Eq l) T O T O:=aC.refl Z;refine⟨λ Q=>∃r,aG r=true/\aC (Eq l) T O T Q/\blk Q l=aE #[nilp,nilp,nilp,nilp,nilp,nilp,nilp,nilp,bf,r,W,nilp,nilp,J] 375,λ Q F=>?_,?_⟩
 ·refine F.elim λ r F=>?_;have B:=F.2.2;refine⟨λ x=>Q=x,λ x g=>?_,?_⟩
  ·subst g;refine⟨λ x=>Q=x,λ x g=>?_,?_⟩
   ·subst g;have j:=F.2.1;have S5:=j.sat;have g:=j.blk G (λ C=>f.1 C.symm);have w:=S.sp.step j (λ C=>f.2.2.1 C) (λ P z C=>f.2.2.2.1.2.1 (C▸mem_bl.2 z)) (λ V i C=>(f.2.2.2.2.2.2 V i).2.1 C.symm);have R:=w.bk;have c:=aF R;have c:=aF g;have q:=aF B;have X:=f.2.1;have q:=f.2.2.1;refine rD B.b g.c R.c ?_;have G:aC (Eq l) T Q T Q:=aC.refl S5;refine bY tA rfl zaa zaa (H:=#[aB l]) (u:=L) (T:=T) (v:=y.length) (c:=y.map aB) Bk (w.own.step (D:=Eq l) (I':=T) (dv S5 G E) (λ P z C=>f.2.2.2.1.2.1 (C▸mem_bl.2 z))) (aC.sat (D:=Eq l) (I:=T) (h:=Q) (dv S5 G E)) rfl zbg zaa (by(try simp only[bJ]);have:=j.size;exact zaa) λ M N X Y p L=>?_;have U:aC (λ k=>k=l\/a.ownBlock=some k) T Q T N:=aC.touch ((show aC (Eq l) T Q T _ from dv S5 G E).weak λ k _ C=>Or.inl C.symm) Y λ P z=>⟨.inr (.inr z),w.own.2 P z⟩;have s:aC (λ k=>a.ownBlock=some k) T _ T N:=aC.touch (show aC (λ k=>a.ownBlock=some k) T _ T _ from aC.refl (aC.sat (D:=Eq l) (I:=T) (h:=Q) (dv S5 G E))) Y λ P z=>⟨.inr z,w.own.2 P z⟩;have G:¬(m=l\/a.ownBlock=some m):=λ F=>F.elim f.1 λ C=>f.2.2.2.1.1 (mem_bl.2 C);have H:¬(t=l\/a.ownBlock=some t):=λ F=>F.elim (λ C=>f.2.2.1 C.symm) λ C=>f.2.2.2.1.2.2 (mem_bl.2 C);have c:=U.blk g G;have G:=U.blk R H;have g:blk N l=aE #[nilp,nilp,nilp,nilp,nilp,nilp,nilp,nilp,bf,r,W,nilp,nilp,J] 375:=s.blk (bz B) λ C=>f.2.2.2.1.2.1 (mem_bl.2 C);have W:=U.size;have Y:=j.size;have s:=X.one;(try simp only[bJ]at L);have W:(m::l::aY t M a0 y).Nodup:=by
     have C:∀q:Value,(m::l::aY t q a0 y)=[m,l,t]++(q.bl++(a0.bl++y)):=λ q=>rfl;rw[C];refine f3 (K:=[m,l,t]) (a:=a) (N:=a0.bl++y) S.nd (L.imp id λ⟨P,z,q⟩=>⟨P,z,λ k Y=>?_,λ k Y=>?_⟩)
     ·exact zan
     ·have:k<O.size:=S.lts k zam;exact zaa
    have H:=fU W;refine rD c.c G.b s ?_;have J:aC (Eq t) T N T (aO N t 0 M):=aC.put (aC.refl p) (.inr rfl) S.sp.sbI;have r:aC (λ k=>k=l\/k=t\/k∈a.bl) T O T N:=(j.seq U).weak λ k _ F=>F.elim (λ C=>.inl C.symm) λ F=>F.imp id λ C=>.inr (mem_bl.2 C);have N:∀P,P∈a0.bl->¬(P=l\/P=t\/P∈a.bl):=λ P z F=>F.elim (λ C=>f.2.2.2.2.1.2.1 (C▸z)) λ F=>F.elim (λ C=>f.2.2.2.2.1.2.2 (C▸z)) λ C=>f.2.2.2.2.2.1 P C z;refine hR M _ (aC.trans' r J λ k _ C=>.inr (.inl C.symm)) (J.blk c λ C=>f.2.1 C.symm) ⟨⟨?_,?_,?_,S.sp.sbI,S.sp.sbb,λ F=>H.2.2.2.1.2.2 (mem_bl.2 F),?_⟩,?_,m6 W,S.wI⟩ ?_
    ·exact bz G
    ·have:=X.put2 (t:=t) (u:=0) (b:=M) λ P z C=>H.2.2.2.1.2.2 (C▸mem_bl.2 z);exact zai
    ·intro t G;rcases List.mem_append.1 G with G|G
     ·obtain⟨⟨y,d,e⟩,m,X,M,R⟩:=w.each t G;have T:=f.2.2.2.2.2.2 t G;refine⟨⟨y,J.blk (U.blk d λ F=>F.elim T.2.1 R) (λ C=>M C.symm),e⟩,m,X,M,λ F=>(H.2.2.2.2.2.2 t G).2.2.2.1 (mem_bl.2 F)⟩
     ·rw[List.mem_singleton.1 G];exact⟨⟨_,J.blk g (λ C=>f.2.2.1 C.symm),rfl⟩,S.w3b,S.w3I,f.2.2.1,λ F=>H.2.2.2.1.2.1 (mem_bl.2 F)⟩
    ·exact List.nodup_append.2 ⟨S.sp.nd,zab,λ V i y p C=>(f.2.2.2.2.2.2 V i).2.1 zaL⟩
    ·exact(S.po.step r λ P z=>N P (mem_bl.2 z)).step J λ P z C=>f.2.2.2.2.1.2.2 (C▸mem_bl.2 z)
    ·intro k Y;simp only[aY,List.mem_cons,List.mem_append,List.not_mem_nil,or_false]at Y;rcases Y with Y|Y|Y|Y|Y
     ·exact za1
     ·rcases L with Q|⟨J,Q,x⟩
      ·exact zaD
      ·have:=mem_bl.1 Y;rw[Q]at this;cases this;exact .inr zaa
     ·exact zbK
     ·exact zbJ
     ·exact .inl (by rw[Y];exact zab)
   ·try simp(disch:=omega)only[go_sem,↓reduceIte,aA B]
  ·try simp(disch:=omega)only[go_sem,↓reduceIte,aA B]
 ·by_cases Q:(pc:Int)<20
  ·have R:decide ((pc:Int)<20)=true:=bS Q;have e:∀{O:Heap}{T:Value->Prop},Sl O 252 (.slice pa v pc) none (some i0) none T=T (.slice (if pc=0 then pa else pa.map (·.add (0*4))) ((0:Int).toNat-0) (pc-0)):=pk Tryz.underlying252 yz zaa;try simp(disch:=omega)only[go_sem,↓reduceIte,aA K,aS K,sn Tryz.underlying252,R,e]
   refine⟨.slice (if pc=0 then pa else Option.map (λ a=>a) pa) (0-0) (pc-0),bZ,?_,?_⟩
   ·exact dv Z a1 E
   ·exact bz K
  ·have R:decide ((pc:Int)<20)=false:=bS Q;try simp(disch:=omega)only[go_sem,↓reduceIte,aA K,aS K,sn Tryz.underlying252,R]
   refine⟨n0,bZ,?_,?_⟩
   ·exact dv Z a1 E
   ·exact bz K
def Si:(Lp (∃b:V2,(∀c d e,b c d e->(cD e d (Cf e 194 #[dO 0x636f756c64206e6f74207265736f6c7665] λ a b=>Ap b 323 n0 a λ a b=>R a b) (Ld e 92 c λ b=>aM e 375 a 3 95 λ c=>Mi e 372 a λ a=>Cf e 236 #[b,c,a] λ a b=>R a b)))/\(bg h 375 a 1 λ c=>Ld h 86 c λ d=>bg h 375 a 3 λ e=>Ld h 95 e λ f=>(Cf h 219 #[d,f] λ g i=>aW g λ g j=>Al i 92 λ i k=>aX k 375 a 1 c 86 d<|aX k 375 a 3 e 95 f<|(Sr k 92 i g λ a=>b i j a))/\(Al h 92 λ g i=>aX i 375 a 1 c 86 d<|aX i 375 a 3 e 95 f<|(Cf i 219 #[d,f] λ a c=>aW a λ a d=>Sr c 92 g a λ a=>b g d a)))))->Cf h 192 #[a] R:=mS Tryz.func192 (Z (Y [3,4] GZ (Q cg (Q (X #[0,0,2,6,14,0,32,127,255]) L))))
def Sn:(R n0 h)->Cf h 362 #[a,b] R:=mS Tryz.func362 cX
def Sh:(Bx h 369 a λ a g=>Ld g 372 c λ i=>Ld g 369 a λ j=>Ld g 89 d λ d=>aM g 354 d 0 95 λ d=>Cf g 367 #[i,j,d] λ d g=>Ld g 173 e λ e=>bg g 279 e 1 λ e=>Ld g 369 a λ a=>Cf g 368 #[e,a] λ a e=>aW a λ a g=>bC e 375 d 2 173 a λ a=>aH a b (λ a b=>a g b) λ a e=>aH e b (λ b c=>Nt c a λ a=>b a c) λ a e=>Pk b a bf λ a=>bC e 375 d 5 4 a λ a=>Ld a 323 f λ b=>Cf a 192 #[d] λ a e=>bh e 323 f b/\(Ap e 323 b a λ a b=>Sr b 323 f a λ a=>Ld a 372 c λ b=>Cf a 369 #[b,d] λ _ a=>R (.tuple #[]) a))->Cf h 366 #[a,b,c,d,e,f] R:=mS Tryz.func366 (Z (Z (Q Jg P1)))
def U5:(Bx h 369 a λ a c=>Ld c 593 b λ b=>Ld c 369 a λ a=>Cv c b #[a,bt] λ _ a=>R (.tuple #[]) a)->Cf h 372 #[a,b] R:=mS Tryz.func372 bG
theorem Lh:dK 372 hC=some 362:=zag
theorem OH:dK 372 gI=some 360:=zag
theorem Kc:dK 372 gJ=some 361:=zag
theorem Dl(Z:aN I h)(j:bP I m n=some a)(e:ck I a E){g:Nat->Heap->Prop}(q:g 0 h)(A:∀i U,g i U->aN I U/\h.size<=U.size)(v:∀i y N,g i y->aD I y I N->g i N)(s:∀i(d:i<E.length)y,g i y->∀w,bM I w E[i]->∀T:KV,(∀U,g (i+1) U->T (.tuple #[]) U)->Cv y b #[.agg w.toArray] T)(L:∀U,g E.length U->R (.tuple #[]) U):Cf h 260 #[cY m n,b] R:=by
 obtain⟨f,w,rfl,b,k⟩:=e.slice;refine BM (rB (Z.cell j) ?_);refine⟨λ a y=>∃i:Nat,a=aR i/\i<=E.length/\g i y,λ a _=>match a with|.int _ i=>E.length-i.toNat|_=>0,⟨0,rfl,Nat.zero_le _,q⟩,?_⟩;rintro _ y⟨i,rfl,d,iv⟩;have X:=(A _ _ iv).1;by_cases o:i<E.length
 ·have t:decide ((i:Int)<(E.length:Int))=true:=by simp;exact zaa
  refine e.rowK o λ c R u q O J G Q P=>?_;have Y:=Q.one u zab;have e:=Q.one q zab;have f:=Q.one O zab;have W:=Q.one J zab;refine rH t G (P X) Y e f W ?_;refine s i o _ (v _ _ _ iv (show aD I y I _ from aP X)) [u,q,O,J] Q _ λ U l=>rA ?_;exact⟨⟨i+1,rfl,zaa,l⟩,zaa⟩
 ·have t:decide ((i:Int)<(E.length:Int))=false:=by simp;exact zaa
  have x:i=E.length:=zaa;refine rB t ?_;exact L y (x▸iv)
theorem nV(Z:aN I h){O:Kd}(M:blk h m=aE #[a,b,c,d,e,f,g,i,j,k,p,q,r,s] 375)(w:ij I b [d,e,f,g,i,j] O A)(G:∀U,aD I h I U->Iv U (.iface 372 (aB m)) (lN O) #[.pointer (some A)] R):Cf h 192 #[aB m] R:=by
 have s:=w.2.1;have x:=s d zab;have S:=s e zab;have y:=s f zab;have D:=s g zab;have Y:=s i zab;have k:=s j zab;have P:=aF M;obtain⟨V,f,i,Y,p,z,L,-⟩:=pr O A;apply Si;refine⟨λ X l W=>l=bt/\∃u,X=aB u/\fR I h O A u W,λ X l W F=>?_,?_⟩
 ·refine F.2.elim λ b0 Q=>?_;have v:=Q.1;have J:=Q.2;have e:=J.st.sat;have jd:=J.st.blk M id;have q:=J.bk' Y;refine rE q.c jd.c F.1 v ?_;exact nS e Y λ T K=>G T (J.st.trans K)
 ·refine rB M.c ?_;refine⟨?_,?_⟩
  ·refine kS Z w Y λ P X=>?_;exact zaB
  ·refine rB M.c ?_;refine kS (show aD I h I _ from aP Z).sat w Y λ P X=>?_;have t:aD I h I P:=aC.trans (aP Z) X;have o:=X.sat;have G:blk P h.size=aE #[nilp,nilp,nilp] 92:=X.blk Bk id;have C:=aF G;refine rE G.b p z L ?_;exact⟨h.size,rfl,fR.mk' Y (bX Z t) (bz G)⟩
theorem Ej(Z:aN I h){F:Option Addr}(j:bP I m n=some (.slice F 0 o)){f:bW}(l:bM I f G)(L:∀U,aD I h I U->R (bj nilp bf) U):Cf h 368 #[cY m n,.agg f.toArray] R:=by have v:=l.one;have f:=l.1;obtain⟨u,q,O,J,rfl⟩:=cL l.1;have x:=v u zab;have S:=v q zab;have y:=v O zab;have D:=v J zab;have e:=Z.lt j;refine CA (rF (Z.cell j) x S y D ?_);refine kH (x:=[u,q,O,J]) (show aD I h I _ from aP Z).sat f λ N P=>rA ?_;exact L N (aC.trans (aP Z) P)
structure RS(base:Nat)(I:aK)(h0:Heap)(w sb eb:Nat)(c0 s c2 t0 t1 t2 t3 t4 t5 x0 pv:Value)(ws0:cK)(rows:bW)(h:Heap)(x:Value)(ws:cK):Prop where
 st:aC (λ k=>k=w\/k∈aY sb x0 pv ws0) I h0 I h
 bw:blk h w=aE #[c0,s,c2,t0,t1,t2,t3,t4,t5,pv,bf,nilp,nilp,aB sb] 375
 mt:MT 375 596 372 14 base I h w sb x pv ws 1 rows
 wl:ws=[]\/∃u,ws=[u]
 nm:∀k∈aY sb x pv ws,k∈aY sb x0 pv ws0\/h0.size<=k
 be:blk h eb=aE #[n0] 323
 ne:eb≠w/\eb∉aY sb x pv ws
theorem RS.pur{U:Heap}(B:RS m I h n o l a b c d e f g i j k p K x H q N)(G:aD I H I U):RS m I h n o l a b c d e f g i j k p K x U q N:=⟨B.st.trans (G.weak λ _ _=>False.elim),G.blk B.bw id,B.mt.step G (aF B.bw) id λ _ _=>id,B.wl,B.nm,G.blk B.be id,B.ne⟩
set_option maxHeartbeats 1000000 in theorem C6{L:Nat}{T:aK}{a1 J M N z P Q V:Nat}{A a2 X:Value}{y:cK}{E:bW}{B:Addr}{F:Option Addr}(rs:RS L T h m a1 l b A c d e f g i j p a2 K E H X y)(o1:∀S∈[b,A,c,d,e,f,g,i,j],aG S=true)(U:E.length=1*4)(r:L<=h.size)(Y:cO T B)(C:bM T w G)(a3:T t=aE #[aB m] N)(O:T u=aE #[.pointer (some B)] z)(a4:T J=aE #[aB M] P)(hq:T M=aE #[q,.slice F 0 V] Q)(hK:∀U z r,RS L T h m a1 l b A c d e f g i j p a2 K E U z r->R (.tuple #[]) U):Cf H 366 #[.agg w.toArray,bt,aB t,aB u,aB J,aB l] R:=by
 obtain⟨K,⟨u,R,rfl,R⟩,f⟩:=Y;have Z:=rs.st.sat;have M:=rs.bw;have P:=C.one;have t:=C;obtain⟨h,q,c,J,rfl⟩:=cL C.1;have s0:=P h zab;have F:=P q zab;have C:=P c zab;have d:=P J zab;have P:∀{W:Heap},aN T W->aI W u 0=some nilp/\aI W u 1=some (.pointer (some K))/\aI W u 2=some nilp/\aI W u 3=some nilp/\aI W u 4=some nilp/\aI W u 5=some bf:=λ N=>by
  have P:=At.of N R;refine⟨?_,?_,?_,?_,?_,?_⟩
  ·have:=P 0 nilp rfl;exact zai
  ·have:=P 1 (.pointer (some K)) rfl;exact zai
  ·have:=P 2 nilp rfl;exact zai
  ·have:=P 3 nilp rfl;exact zai
  ·have:=P 4 nilp rfl;exact zai
  ·have:=P 5 bf rfl;exact zai
 have z:=aF M;have e:=Z.dom R;have V:=P Z;have z:aD T H T (H.push (aV #[h,q,c,J] 369)):=aP Z;have e:=rs.pur z;have p:=e.mt;have M:=rs.st.size;have f:=Z.dom a3;have f:=Z.dom O;have w:=Z.dom a4;have W:=aF rs.be;apply Sh;try simp(disch:=omega)only[go_sem,↓reduceIte,s0,F,C,d,V.1,V.2.1,V.2.2.1,V.2.2.2.1,V.2.2.2.2.1,V.2.2.2.2.2,aA (Z _ _ a3),aA (Z _ _ O),aA (Z _ _ a4)]
 refine pK (L:=L) (o:=a1) (a:=X) (b:=a2) (a0:=y) (x:=E) (a1:=1) (w:=[h,q,c,J]) z.sat e.bw p.wI ?_ ?_ (.inr ⟨rfl,p.sp,rs.wl,p.nd⟩) p.po zaa t (by(try simp only[bJ]);exact zaa) λ U r M p h2 d P f V L R N=>?_
 ·intro S O;simp only[List.mem_cons,List.not_mem_nil,or_false]at O;rcases O with rfl|rfl|rfl|rfl|rfl|rfl|rfl|rfl|rfl|rfl|rfl|rfl<;>first|rfl|exact o1 _ zab
 ·intro S O;exact zao
 have Q:r=a1:=R rfl;rw[Q]at P f V L N;have W:=d.sat;have Q:=d.size;(try simp only[bJ]at Q);have Y:=W _ _ a4;have E:blk h2 H.size=aE #[h,q,c,J] 369:=d.blk Bk (λ F=>F.elim (λ G=>zaa) λ F=>uF (e.mt.lts _ F) (rs.mt.lts _ F));refine rC Y.c E.c ?_;refine Ej W (mc1 hq) t λ W g=>?_;have J:=g.blk f id;have t:=g.blk P id;have i:=g.sat;have E:U∈aY a1 X a2 y\/H.size<=U:=(L U zab).imp id λ Q=>by(try simp only[bJ]at Q);exact zaa
 have u:∀r∈aY a1 M a2 [],r∈aY a1 X a2 y\/H.size<=r:=λ r Y=>by
  simp only[aY,List.mem_cons,List.mem_append]at Y;have w:r∈aY a1 M p []->r∈aY a1 X a2 y\/H.size<=r:=λ Y=>(L r (c6 Y)).imp id λ Q=>by(try simp only[bJ]at Q);exact zaa
  rcases Y with Y|Y|Y|Y
  ·exact .inl (by rw[Y];exact eu)
  ·exact w (eZ Y)
  ·exact .inl (eU Y)
  ·cases Y
 have w:l≠U:=λ G=>(G▸E).elim rs.ne.2 λ Q=>zaa;have a5:l∉aY a1 M a2 []:=λ F=>(u l F).elim rs.ne.2 λ Q=>zaa;have Z:=d.blk (e.be) (λ F=>F.elim rs.ne.1 rs.ne.2);have h:=g.blk Z id;have c:=N.wn.1;have O:=N.w3I;have Z:=aA (i _ _ a3);have q:=aF J;have e:=aF h;have S:=aC.put (o:=10) (v:=.bool true) (aC.put (o:=2) (v:=nilp) (aC.refl (D:=Eq U) i) (.inr rfl) O) (.inr rfl) O;have i:blk (aO (aO W U 2 nilp) U 10 bt) U=aE #[b,A,nilp,nilp,.pointer (some K),nilp,nilp,nilp,bf,p,bt,nilp,nilp,aB a1] 375:=bz J;have Z:=S.blk h (λ G=>w G.symm);have R:=S.blk t (λ G=>c G.symm);have L:=N.step g (aF P) (aF f) id N.w3I (λ _ _=>id);have e:U∉aY a1 M a2 []:=(List.nodup_cons.1 (List.nodup_cons.1 N.nd).2).1;have M:=L.step S (aF t) (aF J) (λ G=>c G.symm) N.w3I (λ r Y G=>e (G▸Y));refine rC J.b h.c ?_;refine nV (O:=.sc) (A:=K) S.sat i (hB (I:=T) (a:=A) (r:=.sc) (A:=K)) λ Q j=>?_;have h:=j.blk Z id;have C:=j.blk i id;have Z:=j.blk R id;have S5:=j.sat;have W:=M.step j (aF R) (aF i) id N.w3I (λ _ _=>id);have O:aO Q l 0 n0=Q:=eM h rfl;have R:∃f J q,p=.slice f J q:=V.po.slK λ B t G=>⟨_,_,_,G⟩;obtain⟨f,J,q,M⟩:=R;rw[dH Lh];apply Sn;try simp(disch:=omega)only[go_sem,↓reduceIte,aA h,aS h,cI d5,O,aA (S5 _ _ a3)]
 have V:blk Q U=aE #[b,A,nilp,nilp,.pointer (some K),nilp,nilp,nilp,bf,.slice f J q,bt,nilp,nilp,aB a1] 375:=M▸C;have e:=g.size;have e:=S.size;have B:=j.size;refine rp S5 Z V W zaa zab λ O f C b i K=>?_;have M:aC (λ r=>r=U) T h2 T Q:=((g.weak (D':=λ r=>r=U) λ _ _=>False.elim).trans' S λ r _ G=>G.symm).trans (j.weak λ _ _=>False.elim);have c:∀r∈aY a1 O a2 [U],r∈aY a1 X a2 y\/H.size<=r:=λ r Y=>by
  rcases K r Y with B|B
  ·rcases List.mem_cons.1 B with B|B
   ·exact B▸E
   ·exact u r B
  ·exact .inr zaa
 have K:aC (λ r=>r=m\/r∈aY a1 X a2 y) T H T f:=(((z.seq d).seq M).seq C).weak λ r Y F=>by
  rcases F with((F|F|F)|F)|F|F|F
  ·exact F.elim
  ·exact zcp
  ·exact .inr F
  ·rcases E with Q|Q
   ·exact .inr (F▸Q)
   ·exact zaa
  ·rcases E with Q|Q
   ·exact .inr (F▸Q)
   ·exact zaa
  ·exact .inr (F▸eu)
  ·rcases u r (eZ F)with Q|Q
   ·exact .inr Q
   ·exact zaa
 refine hK f O [U] ⟨rs.st.trans' K λ r Y F=>?_,b,i,.inr ⟨_,rfl⟩,λ r Y=>?_,C.blk h λ F=>?_,rs.ne.1,λ F=>?_⟩
 ·rcases F with F|F
  ·exact zcp
  ·exact(rs.nm r F).elim .inr λ B=>zaa
 ·rcases c r Y with B|B
  ·exact rs.nm r B
  ·exact .inr zaa
 ·rcases F with F|F|F
  ·exact w F
  ·exact a5 (F▸eu)
  ·exact a5 (eZ F)
 ·rcases c l F with B|B
  ·exact rs.ne.2 B
  ·exact zaa
def UN:(Bx h 372 a λ a d=>Bx d 89 b λ b d=>Bx d 173 c λ c d=>Al d 323 λ d e=>bH e 593 (.func (.func 366) #[] #[a,b,c,d]) λ a b=>Ld b 173 c λ e=>bg b 279 e 1 λ e=>Cf b 370 #[e,(.func (.func 371) #[] #[c,a])] λ _ b=>Ld b 173 c λ c=>bg b 279 c 0 λ c=>Cf b 260 #[c,(.func (.func 372) #[] #[a])] λ _ a=>Ld a 323 d λ b=>Sr a 323 d b λ a=>Rv a 323 d λ b=>R b a)->Cf h 363 #[a,b,c] R:=mS Tryz.func363 pY
def TY:(aM h 375 a 5 4 λ c=>Nt h c λ c=>aH h c (λ a c=>a b c) λ d e=>aH e c (λ a b=>Nc d<|a d b) λ d e=>aH e c (λ a b=>Fa b 354 d 1 λ c=>a c b) λ d e=>aH e c (λ a b=>Ld b 240 d λ c=>a c b) λ d e=>aH e c (λ a b=>Eb b .eql 240 false true d (aU ⟨#[97,116,111,109,105,99]⟩) λ c=>a c b) λ d e=>Pk c d bf λ c=>Cd c (aM e 375 a 4 252 λ b=>Bs e 270 1 #[(0,b)] λ b c=>Cf c 88 #[b] λ b c=>bC c 375 a 6 173 b λ b=>aM b 375 a 4 252 λ c=>Bs b 270 1 #[(0,c)] λ b c=>Cf c 88 #[b] λ b c=>bC c 375 a 7 173 b λ a=>R n0 a) (Lp (∃c:V1,(∀a b,c a b->(R a b))/\(aM e 375 a 2 173 λ d=>bx e 173 d nilp (aM e 375 a 2 173 λ d=>Cf e 363 #[a,b,d] λ a b=>c a b) (c n0 e)))))->Cf h 360 #[a,b] R:=mS Tryz.func360 (Z (Q (Z (C iO L)) (Y [4] cF bG)))
def H9:(aM h 277 a 0 275 λ a=>Ln h 275 a λ c=>Lp (∃(d:V1)(e:N1),d i0 h/\∀f g,d f g->(bv g .lss 3 f c (Ia g 275 a f λ a=>Ld g 388 a λ a=>bH g 388 a λ a c=>Fa c 388 a 0 λ a=>Ld c 369 a λ a=>Cv c b #[a] λ _ a=>Bi a .add 3 f i1 λ b=>(d b a/\e b a<e f g)) (R (.tuple #[]) g))))->Cf h 370 #[a,b] R:=mS Tryz.func370 (Z (B (O [11] mA)))
theorem Ot:fO 366=true:=zag
theorem O2:fO 372=true:=zag
theorem Ba(Z:aN I h){F:Option Addr}(j:bP I m n=some (.slice F 0 o))(L:R (.tuple #[]) h):Cf h 370 #[cY m n,a] R:=by refine H9 (rB (Z.cell j) ?_);refine⟨λ J y=>J=i0/\y=h,λ _ _=>0,⟨rfl,rfl⟩,?_⟩;rintro _ _⟨rfl,rfl⟩;have t:decide (((0:Int))<((0:Nat):Int))=false:=zab;refine rB t ?_;exact L
set_option maxHeartbeats 1000000 in theorem u9{L:Nat}{T:aK}(Z:aN T h)(M:blk h m=aE #[a,b,c,d,e,f,g,i,j,p,bf,nilp,nilp,aB n] 375)(o1:∀S∈[a,b,c,d,e,f,g,i,j],aG S=true)(a0:x.length=1*4)(r:L<=h.size)(l:MT 375 596 372 14 L T h m n q p K 1 x)(V:K=[]\/∃S,K=[S])(ha:cO T A)(P:dI T o E)(Q:∀U s X,aC (λ k=>k=m\/k∈aY n q p K) T h T U->blk U m=aE #[a,b,c,d,e,f,g,i,j,p,bf,nilp,nilp,aB n] 375->MT 375 596 372 14 L T U m n s p X 1 x->(X=[]\/∃S,X=[S])->(∀k∈aY n s p X,k∈aY n q p K\/h.size<=k)->R n0 U):Cf h 363 #[aB m,.pointer (some A),aB o] R:=by
 obtain⟨t,y,z,R,w,u,F,O,rfl⟩:=P;have P:=aF M;have zm:=l.lts;obtain⟨W,B⟩:∃W:Heap,W=aO (((((h.push (aV #[aB m] 372)).push (aV #[.pointer (some A)] 89)).push (aV #[aB o] 173)).push (aV #[n0] 323)).push (aV #[nf] 593)) (h.size+1+1+1+1) 0 (.func (.func 366) #[] #[aB h.size,aB (h.size+1),aB (h.size+1+1),aB (h.size+1+1+1)]):=⟨_,rfl⟩;have sH:aD T h T W:=by rw[B];exact aP Z
 have Y:W.size=h.size+5:=by rw[B];exact zbD
 have b0:blk W h.size=aE #[aB m] 372:=zaR;have O:blk W (h.size+1)=aE #[.pointer (some A)] 89:=zaR;have H:blk W (h.size+1+1)=aE #[aB o] 173:=zaR;have J:blk W (h.size+1+1+1)=aE #[n0] 323:=zaR;have E:blk W (h.size+1+1+1+1)=aE #[.func (.func 366) #[] #[aB h.size,aB (h.size+1),aB (h.size+1+1),aB (h.size+1+1+1)]] 593:=zaR;have Z:=lA sH [h.size,h.size+1,h.size+1+1,h.size+1+1+1+1] (by simp;exact zaa);have r:=Z.2.1 h.size _ zab b0;have A:=Z.2.1 (h.size+1) _ zab O;have j2:=Z.2.1 (h.size+1+1) _ zab H;have j4:=Z.2.1 (h.size+1+1+1+1) _ zab E;have jN:=Z.2.2;have Z:=Z.1;have G:=Z.le;have E:=Z.sat;have C:=cE G (mc1 R);have o:=cE G (k7 R);have t:MT 375 596 372 14 L (T.fp [h.size,h.size+1,h.size+1+1,h.size+1+1+1+1] W) W m n q p K 1 x:=l.step Z P id λ _ _=>id;have z:RS L (T.fp [h.size,h.size+1,h.size+1+1,h.size+1+1+1+1] W) W m n (h.size+1+1+1) a b c d e f g i j q p K x W q K:=⟨aC.refl E,Z.blk M id,t,V,λ k Y=>.inl Y,J,zaa,λ F=>cW (zm _ F)⟩;refine UN (rA ?_);rw[<-B];refine Ba E C ?_;refine rC H.c J.c ?_;refine Dl (I:=T.fp [h.size,h.size+1,h.size+1+1,h.size+1+1+1+1] W) (g:=λ _ U=>∃s X,RS L (T.fp [h.size,h.size+1,h.size+1+1,h.size+1+1+1+1] W) W m n (h.size+1+1+1) a b c d e f g i j q p K x U s X) E o (w.mono G) ⟨q,K,z⟩ (λ M U F=>F.elim λ s F=>F.elim λ X u=>⟨u.st.sat,u.st.size⟩) (λ M y N F g=>F.elim λ s F=>F.elim λ X u=>⟨s,X,u.pur g⟩) (λ M d y F w C l j=>?_) λ y F=>?_
 ·obtain⟨s,X,u⟩:=F;have i:=u.st.sat;have v:=C.one;have o:=C;obtain⟨w,V,O,J,rfl⟩:=cL C.1;have x:=v w zab;have S:=v V zab;have b:=v O zab;have a:=v J zab;have N:=u.st.size;rw[ej O2];show Cf y 372 #[.agg #[w,V,O,J],aB (h.size+1+1+1+1)] l;apply U5;have d:aD (T.fp [h.size,h.size+1,h.size+1+1,h.size+1+1+1+1] W) y (T.fp [h.size,h.size+1,h.size+1+1,h.size+1+1+1+1] W) (y.push (aV #[w,V,O,J] 369)):=aP i;try simp(disch:=omega)only[go_sem,↓reduceIte,x,S,b,a,aA (i _ _ j4),ej Ot]
  refine C6 (L:=L) (w:=[w,V,O,J]) (u.pur d) o1 a0 zaa (ha.mono G) o r A j2 (G _ _ R) λ U M C e=>rA ?_;exact j U ⟨M,C,e⟩
 ·obtain⟨s,X,u⟩:=F;have N:=u.be;have O:aO y (h.size+1+1+1) 0 n0=y:=eM N rfl;have g:=u.st.size;refine rC N.b O ?_;have P:=aC.forget G ((aC.refl (I:=T.fp [h.size,h.size+1,h.size+1+1,h.size+1+1+1+1] W) (D:=λ k=>k=m\/k∈aY n q p K) E).trans u.st);refine Q y s X ((sH.weak λ _ _=>False.elim).trans P) u.bw (u.mt.mem λ k Y=>?_) u.wl λ k Y=>?_
  ·have:=u.mt.none k Y;by_cases v:k∈[h.size,h.size+1,h.size+1+1,h.size+1+1+1+1]
   ·have o:k<h.size\/W.size<=k:=Y.elim (λ C=>.inl zaa) λ Y=>(u.nm k Y).elim (λ Q=>.inl (zm k Q)) .inr;simp at v;exact zaa
   ·exact(jN k v).symm.trans this
  ·exact(u.nm k Y).imp id λ Q=>zaa
theorem Gc{T:aK}(Z:aN T h){A:Value}{B:Addr}(M:blk h n=aE #[b,A,aB l,nilp,nilp,.pointer (some B),nilp,nilp,bf,c,bf,nilp,nilp,aB o] 375)(e:aG b=true)(H:aG A=true)(f:x.length=1*4)(r:m<=h.size)(G:MT 375 596 372 14 m T h n o d c K 1 x)(V:K=[]\/∃S,K=[S])(Y:cO T B)(P:dI T l E)(Q:∀U D X,aC (λ k=>k=n\/k∈aY o d c K) T h T U->blk U n=aE #[b,A,aB l,nilp,nilp,.pointer (some B),nilp,nilp,bf,c,bf,nilp,nilp,aB o] 375->MT 375 596 372 14 m T U n o D c X 1 x->(X=[]\/∃S,X=[S])->(∀k∈aY o D c X,k∈aY o d c K\/h.size<=k)->R n0 U):Cf h 192 #[aB n] R:=by
 have z:=aF M;refine nV (O:=.li) (A:=B) Z M (hB (I:=T) (a:=A) (r:=.li) (A:=B)) λ y v=>?_;have J:=Y;obtain⟨K,⟨u,b,rfl,j⟩,l⟩:=Y;have b:=v.sat;have m:aI y u 6=some (aU fb):=by have:=(At.of b j) 6 (aU fb) rfl;exact zai
 have g:=v.blk M id;try simp(disch:=omega)only[go_sem,↓reduceIte,dH OH]
 refine TY (rD g.c m @c7 ?_);refine⟨λ C U=>C=n0/\R n0 U,λ C U F=>F.1▸F.2,?_⟩;refine rB g.c ?_;refine u9 b g (λ S O=>?_) f (Nat.le_trans r v.size) (G.step v z id λ _ _=>id) V J P λ U D X E j W i N=>⟨rfl,Q U D X ((v.weak λ _ _=>False.elim).trans E) j W i λ k Y=>(N k Y).imp id (Nat.le_trans v.size)⟩;simp only[List.mem_cons,List.not_mem_nil,or_false]at O;rcases O with rfl|rfl|rfl|rfl|rfl|rfl|rfl|rfl|rfl<;>first|exact e|exact H|rfl
def UF:(Bx h 369 b λ b c=>Al c 95 λ c d=>aM d 359 a 2 95 λ e=>bH d 95 e λ d e=>Lp (∃f:V0,(∀a,f a->(Ld a 95 d λ b=>Ld a 95 d λ e=>Bd a 95 #[] λ f=>Eb a .neq 95 false false e f λ g=>Sr a 95 c b λ a=>bh a 95 d e/\Rc P a (Instr.build 95 #[]) f/\Rc P a (Bo .neq 95 false false e f) g/\(Rv a 95 c λ b=>R (bj b g) a)))/\(Fa e 369 b 0 λ c=>Ld e 87 c λ c=>bx e 87 c nilp (Fa e 369 b 0 λ b=>Ld e 87 b λ b=>Nc b<|Ld e 9 b λ b=>Cf e 220 #[a,b] λ a b=>aW a λ a c=>bH b 417 a λ a b=>Cd c (Fa b 417 a 1 λ a=>Ld b 95 a λ a=>Sr b 95 d a λ a=>f a) (f b)) (f e))))->Cf h 375 #[a,b] R:=mS Tryz.func375 (Z (Z (Y [] (Z (C jb L)) (Q (X #[0,0,0,6,1,31]) L))))
def UP:(Bx h 95 a λ a b=>Fa b 95 a 0 λ c=>Ld b 87 c λ c=>bx b 87 c nilp (Fa b 95 a 0 λ a=>Ld b 87 a λ a=>Nc a<|Ld b 9 a λ a=>Eb b .eql 9 false true a (dO 0x5f5f756e74797065645f646564756365645f) λ a=>R a b) (Fa b 95 a 1 λ a=>Ld b 92 a λ a=>bH b 92 a λ a b=>Fa b 92 a 0 λ c=>Ld b 88 c λ c=>Eb b .neq 88 false true c nilp λ c=>aH b c (λ b c=>Fa c 92 a 0 λ a=>b a c) λ a b=>aH b c (λ b c=>Ld c 88 a λ a=>b a c) λ a b=>aH b c (λ b c=>Nc a<|b a c) λ a b=>aH b c (λ b c=>Ld c 352 a λ a=>b a c) λ a b=>aH b c (λ b c=>Eb c .eql 352 false true a (aU ⟨#[117,110,116,121,112,101,100]⟩) λ a=>b a c) λ a b=>Pk c a bf λ a=>R a b))->Cf h 373 #[a] R:=mS Tryz.func373 tN
def Qp:(aM h 359 a 2 95 λ b=>Cf h 373 #[b] λ b c=>aH c b (λ b c=>b a c) λ a c=>aH c b (λ b c=>Nc a<|b a c) λ a c=>aH c b (λ b c=>Fa c 359 a 0 λ a=>b a c) λ a c=>aH c b (λ b c=>Ld c 356 a λ a=>b a c) λ a c=>aH c b (λ b c=>Eb c .eql 356 false true a n0 λ a=>b a c) λ a c=>Pk b a bf λ a=>R a c)->Cf h 364 #[a] R:=mS Tryz.func364 cX
theorem oj{B:Option Addr}(W:P.underlying n=some (.pointer o))(E:World):(Op.equalIn (m+1) n (.pointer B) nilp).run P E=.ok B.isNone E:=by unfold Op.equalIn;simp only[Sem.run_bind,bD W,Result.andThen_ok];cases B<;>rfl
theorem qc(E:World):(program).run P E=.ok P E:=rfl
theorem FP:P.stoodInHeld 95=false:=zag
theorem Ga:P.stoodInHeld 92=false:=zag
theorem FO:P.eqGuardType P.depth 95=false:=zag
theorem jC{H:cQ}(W:eQ m=some none)(p:H[n]?=some a)(E:World):(part m H n).run P E=.ok a E:=by unfold part;simp[Sem.run_bind,jJ W,Result.andThen_ok,p]
theorem vM{H:cQ}(W:eQ m=some (some n))(E:World):(part m H o).run P E=.ok (.agg (H.extract o (o+n))) E:=by unfold part;simp[Sem.run_bind,(fg W E).1,(fg W E).2,Result.andThen_ok]
theorem FE(E:World):(Op.equalIn (m+2) 92 (.agg #[nilp,.pointer (some A),nilp]) (.agg #[nilp,nilp,nilp])).run P E=.ok false E:=by rw[show m+2=(m+1)+1 from rfl];unfold Op.equalIn;simp only[Sem.run_bind,bD Tryz.underlying92,Result.andThen_ok];simp only[qc,Result.andThen_ok,Ga,Bool.false_eq_true,if_false];have j:∀E,(part 88 #[nilp,.pointer (some A),nilp] 0).run P E=.ok nilp E:=λ E=>jC xh rfl E;have S:∀E,(part 88 #[nilp,nilp,nilp] 0).run P E=.ok nilp E:=λ E=>jC xh rfl E;have z:∀E,(part 89 #[nilp,.pointer (some A),nilp] 1).run P E=.ok (.pointer (some A)) E:=λ E=>jC wE rfl E;have c:∀E,(part 89 #[nilp,nilp,nilp] 1).run P E=.ok nilp E:=λ E=>jC wE rfl E;simp[List.forIn_cons,Sem.run_bind,j,S,z,c,Result.andThen_ok,oj Tryz.underlying88,oj Tryz.underlying89]
theorem Aj(E:World):(binOp .neq 95 (.agg #[nilp,nilp,.pointer (some A),nilp,nilp,bf]) (.agg #[nilp,nilp,nilp,nilp,nilp,bf])).run P E=.ok bt E:=by simp only[binOp];unfold Op.equal Op.maxDepth Op.equalIn;simp only[Sem.run_bind,bD Tryz.underlying95,Result.andThen_ok];simp only[qc,Result.andThen_ok,FP,Bool.false_eq_true,if_false];have j:∀E,(part 87 #[nilp,nilp,.pointer (some A),nilp,nilp,bf] 0).run P E=.ok nilp E:=λ E=>jC wT rfl E;have x:∀E,(part 87 #[nilp,nilp,nilp,nilp,nilp,bf] 0).run P E=.ok nilp E:=λ E=>jC wT rfl E;have z:∀E,(part 92 #[nilp,nilp,.pointer (some A),nilp,nilp,bf] 1).run P E=.ok (.agg #[nilp,.pointer (some A),nilp]) E:=λ E=>vM wM E;have c:∀E,(part 92 #[nilp,nilp,nilp,nilp,nilp,bf] 1).run P E=.ok (.agg #[nilp,nilp,nilp]) E:=λ E=>vM wM E;have h:∀E,(Op.equalIn 9999 87 nilp nilp).run P E=.ok true E:=λ E=>oj (m:=9998) Tryz.underlying87 E;have b:∀E,(Op.equalIn 9999 92 (.agg #[nilp,.pointer (some A),nilp]) (.agg #[nilp,nilp,nilp])).run P E=.ok false E:=λ E=>FE (m:=9997) E;simp[List.forIn_cons,Sem.run_bind,j,x,z,c,h,b,Result.andThen_ok]
theorem CD{X q:Operand}{B u:cQ}(E:World):(eqGuard .neq 95 X q (.agg B) (.agg u)).run P E=.ok () E:=by unfold eqGuard;simp only[Bool.not_true,Bool.false_eq_true,if_false,Sem.run_bind,qc,Result.andThen_ok,FO,Bool.not_false,if_true];exact Sem.run_pure ..
@[go_sem] theorem VC{T:Value->Prop}{X q:Bool}:Eb h .neq 95 X q (.agg #[nilp,nilp,.pointer (some A),nilp,nilp,bf]) (.agg #[nilp,nilp,nilp,nilp,nilp,bf]) T=T bt:=by refine cV λ E _=>?_;unfold Bo;rw[Sem.run_bind,CD,Result.andThen_ok,Aj]
@[go_sem] theorem Xh{K:BinOp}{X q:Bool}:Rc P h (Bo K m X q a b) c=Eb h K m X q a b λ S=>S=c:=jp
theorem xu(Z:aN I h){X q:Addr}{n:Kd}(B:fl I A a)(V:cd I a 8 2 (c9 bA .li X++c9 bB n q))(C:bM I x (.fld bA))(L:∀U,aD I h I U->R (bj (.agg (ef .li X).toArray) bt) U):Cf h 375 #[.pointer (some A),.agg x.toArray] R:=by
 have f:=B;have o:=C;obtain⟨J,d,rfl,k⟩:=B;have v:=C.one;obtain⟨u,q,O,J,rfl⟩:=cL C.1;refine C.fldK λ E e j A z c i=>?_;subst j;subst A;subst z;subst c;have p:=Z.dom k;have e:=Z.dom i;refine UF (rB (Z _ _ k).c ?_);refine⟨λ Q=>aD I h I Q/\blk Q (h.size+1)=aE #[nilp,nilp,nilp,nilp,nilp,bf] 95/\blk Q (h.size+1+1)=aE #[nilp,nilp,.pointer (some X),nilp,nilp,bf] 95,λ Q F=>?_,?_⟩
 ·have o:=aF F.2.1;have g:=aF F.2.2;have o:=F.1;refine rC F.2.1.b F.2.2.c ?_;exact L _ (bX Z o)
 ·refine rB (Z _ _ i).c ?_;refine eo (show aD I h I _ from aP Z).sat f V λ N H=>?_;have C:aD I h I N:=aC.trans (aP Z) H;have g:=H.size;(try simp only[bJ]at g);have x:blk N (h.size+1)=aE #[nilp,nilp,nilp,nilp,nilp,bf] 95:=H.blk Bk id;have A:blk N (h.size+1+1)=aE #[nilp,nilp,nilp,nilp,nilp,bf] 95:=H.blk Bk id;refine rC x.c A.b ?_;exact⟨bX Z C,bz x,bz A⟩
theorem yV(Z:aN I h)(B:fl I A a)(L:∀U,aD I h I U->R bf U):Cf h 364 #[.pointer (some A)] R:=by obtain⟨J,d,rfl,k⟩:=B;have p:=Z.dom k;refine Qp (rB (Z _ _ k).c ?_);refine UP (rA ?_);exact zaC
def RF:(Bx h 369 a λ a g=>Ld g 90 c λ c=>Ld g 369 a λ i=>Cf g 375 #[c,i] λ c g=>aW c λ c i=>bH g 95 c λ c g=>Cd i (Ld g 372 d λ i=>Ld g 369 a λ j=>Ld g 95 c λ c=>Cf g 367 #[i,j,c] λ c g=>Ld g 173 e λ e=>bg g 279 e 1 λ e=>Ld g 369 a λ a=>Cf g 368 #[e,a] λ a e=>aW a λ a g=>bC e 375 c 2 173 a λ a=>aH a b (λ a b=>a g b) λ a e=>aH e b (λ b c=>Nt c a λ a=>b a c) λ a e=>Pk b a bf λ a=>bC e 375 c 5 4 a λ a=>Ld a 323 f λ b=>Cf a 192 #[c] λ a e=>bh e 323 f b/\(Ap e 323 b a λ a b=>Sr b 323 f a λ a=>Ld a 372 d λ b=>Cf a 369 #[b,c] λ _ a=>R (.tuple #[]) a)) (R (.tuple #[]) g))->Cf h 374 #[a,b,c,d,e,f] R:=mS Tryz.func374 (Z (Z (Z (Z (C (Z P1) L)))))
def Sq:(Bx h 369 a λ a d=>Ld d 173 b λ b=>bg d 279 b 0 λ b=>Ld d 369 a λ e=>Cf d 257 #[b,e] λ b d=>Cd b (R (.tuple #[]) d) (Ld d 593 c λ b=>Ld d 369 a λ a=>Cv d b #[a,bf] λ _ a=>R (.tuple #[]) a))->Cf h 376 #[a,b,c] R:=mS Tryz.func376 (Z (Q (Q (X #[0,1,3,0,15]) d8) L))
theorem KH:fO 374=true:=zag
theorem LV:fO 376=true:=zag
theorem CR(Z:aN I h)(j:bP I m n=some a)(F:c5 I a S (some E)){f:bW}(l:bM I f (.fld S))(L:∀p U,aD I h I U->dI I p E->R (bj (aB p) bt) U):Cf h 368 #[cY m n,.agg f.toArray] R:=by obtain⟨B,o,s,Q,d⟩:=F;have w:=l.one;have i:=l;have e:=Z.lt j;obtain⟨A,T,H,a,rfl⟩:=cL l.1;have x:=w A zab;have S:=w T zab;have y:=w H zab;have D:=w a zab;have Y:=s;obtain⟨F,V,rfl,t,-,-,-,k⟩:=s;obtain⟨c,R,rfl,r⟩:=k zaa;obtain⟨u,q,O,J,rfl⟩:=cL Q.1;refine CA (rF (Z.cell j) x S y D ?_);refine kK (x:=[A,T,H,a]) tO (show aD I h I _ from aP Z).sat Y Q i λ N P=>?_;have C:aD I h I N:=aC.trans (aP Z) P;have W:=C.sat;have X:=W.cell (r 4 _ rfl);refine rE (W.cell j) X @Int.toNat_zero @Nat.add_zero ?_;exact L o N C d
theorem AU(Z:aN I h)(j:bP I m n=some a)(p:c5 I a S (some E)){Q:Heap->Prop}(V:∀y,aD I h I y->∀w,bM I w (.fld S)->∀T:KV,(∀U,Q U->T (.tuple #[]) U)->Cv y b #[.agg w.toArray] T)(L:∀U,Q U->R (.tuple #[]) U):Cf h 370 #[cY m n,b] R:=by
 obtain⟨B,T,ev⟩:=p.len;have d:a=.slice B 1 T:=bS ev;subst d;have e:=Z.lt j;refine p.row λ c R u q O J p G T A P r _=>?_;subst G;have g:=r Z;have v:=A.one;have x:=v u zab;have S:=v q zab;have c:=v O zab;have D:=v J zab;refine H9 (rB (Z.cell j) ?_);refine⟨λ a y=>(a=i0/\y=h)\/(a=i1/\Q y),λ a _=>match a with|.int _ M=>1-M.toNat|_=>0,.inl ⟨rfl,rfl⟩,?_⟩;rintro _ y(⟨rfl,rfl⟩|⟨rfl,P⟩)
 ·have t:decide (((0:Int))<((1:Nat):Int))=true:=zab;try simp(disch:=omega)only[go_sem,↓reduceIte,t,g.1,g.2.1,g.2.2.1,g.2.2.2.1,g.2.2.2.2,x,S,c,D,Int.toNat_zero,Nat.add_zero]
  refine V _ (aP Z) [u,q,O,J] A _ λ U P=>rA ?_;exact⟨.inr P,zaE⟩
 ·have t:decide (((1:Int))<((1:Nat):Int))=false:=zab;refine rB t ?_;exact L y P
def C1(R:KV)(a b c d e f:Value)(g:Heap):Prop:=aW f λ f i=>bH g 95 f λ f g=>Cd i (Ld g 372 b λ i=>Ld g 369 e λ j=>Ld g 95 f λ f=>Cf g 367 #[i,j,f] λ f g=>Ld g 173 c λ c=>bg g 279 c 1 λ c=>Ld g 369 e λ e=>Cf g 368 #[c,e] λ c e=>aW c λ c g=>bC e 375 f 2 173 c λ c=>aH c a (λ a b=>a g b) λ c e=>aH e a (λ a b=>Nt b c λ c=>a c b) λ c e=>Pk a c bf λ a=>bC e 375 f 5 4 a λ a=>Ld a 323 d λ c=>Cf a 192 #[f] λ a e=>bh e 323 d c/\(Ap e 323 c a λ a c=>Sr c 323 d a λ a=>Ld a 372 b λ b=>Cf a 369 #[b,f] λ _ a=>R (.tuple #[]) a)) (R (.tuple #[]) g)
set_option maxHeartbeats 1000000 in theorem Fv{L:Nat}(s:aD I h I H){S K A Q y:Nat}{X:Addr}(M:blk H m=aE #[a,b,c,d,f,g,i,j,p,n0,bf,nilp,nilp,nilp] 375)(a0:I m=none)(Y:m<h.size)(z:∀a4∈[a,b,c,d,f,g,i,j,p],aG a4=true)(V:L<=h.size)(hx:cO I X)(C:bM I w (.fld bA))(P:blk H y=aE w.toArray 369)(J:h.size<=y)(a1:I t=aE #[aB m] A)(T:I u=aE #[aB S] Q)(hq:I S=aE #[q,r] K)(a2:c5 I r bA (some E))(B:blk H l=aE #[n0] 323)(a3:l≠m)(F:l<h.size)(hK:∀w U,aC (λ k=>k=m) I h I U->blk U m=aE #[a,b,c,d,f,g,i,j,p,n0,bf,nilp,nilp,aB w] 375->blk U l=aE #[n0] 323->R (.tuple #[]) U):C1 R bf (aB t) (aB u) (aB l) (aB y) (bj (.agg (ef .li X).toArray) bt) H:=by
 have W:=C.one;have h:=C;obtain⟨u,q,w,t,rfl⟩:=cL C.1;have j:=z a zab;have os:=z b zab;have Z:=s.sat;have f:=s.size;have C:=aF M;have d:=aF P;unfold C1;have V:=Z.dom a1;have Q:=aF B;have G:=Z.dom T;refine rC (Z _ _ a1).c P.c ?_;have K:aD I H I (aO (aO (aO (aO (aO (aO (H.push (aV #[nilp,nilp,nilp,nilp,nilp,bf] 95)) H.size 0 nilp) H.size 1 nilp) H.size 2 (.pointer (some X))) H.size 3 nilp) H.size 4 nilp) H.size 5 bf):=aP Z;refine pK (L:=L) (o:=m) (a:=ni) (b:=n0) (a0:=[]) (x:=[]) (a1:=0) (G:=.fld bA) (w:=[u,q,w,t]) K.sat (K.blk M id) a0 ?_ ?_ (.inl ⟨rfl,rfl,rfl,rfl,zap⟩) (aQ.nil ..) zaa h (by(try simp only[bJ]);exact zaa) λ U y M E N d Z G V Q R S=>?_
 ·intro a4 O;simp only[List.mem_cons,List.not_mem_nil,or_false]at O;rcases O with rfl|rfl|rfl|rfl|rfl|rfl|rfl|rfl|rfl|rfl|rfl|rfl<;>first|rfl|exact z _ zab
 ·intro a4 O;exact zao
 have W:=d.sat;have g:=d.size;(try simp only[bJ]at g);have A:∀k,k∈aY m ni n0 []->k=m:=λ k Y=>by simpa[aY,Value.ownBlock]using Y
 have c:aC (λ k=>k=m) I H I N:=(K.weak λ _ _=>False.elim).trans (d.weak λ k _ F=>F.elim id (A k));have N:∀k∈U::aY y M E [],H.size<=k:=λ k Y=>by
  rcases Q k Y with Q|Q
  ·exact absurd Y (A k Q▸(List.nodup_cons.1 V.nd).1)
  ·(try simp only[bJ]at Q);exact zaa
 have J:=c.blk P zaa;refine rC (W _ _ T).c J.c ?_;refine CR W (mc1 hq) a2 h λ q3 K i A=>?_;have T:=i.sat;have J:=i.blk G id;have f:=i.blk Z id;have Z:=i.size;have r:=S.wn.1;have C:=S.w3I;have P:=N U zab;have h:=i.blk (c.blk B a3) id;have W:U≠l:=zaa;have B:=aF J;have B:=aF h;have S:=aC.put (o:=10) (v:=bf) (aC.put (o:=2) (v:=aB q3) (aC.refl (D:=Eq U) T) (.inr rfl) C) (.inr rfl) C;have T:blk (aO (aO K U 2 (aB q3)) U 10 bf) U=aE #[a,b,aB q3,nilp,nilp,.pointer (some X),nilp,nilp,bf,E,bf,nilp,nilp,aB y] 375:=bz J;have d:=S.blk h W;have R:=S.blk f (λ C=>r C.symm);have p:=aF G;have g:U∉aY y M E []:=(List.nodup_cons.1 (List.nodup_cons.1 V.nd).2).1;have f:=V.mt.step i p id λ _ _=>id;have p:MT 375 596 372 14 L I (aO (aO K U 2 (aB q3)) U 10 bf) U y M E [] 1 [u,q,w,t]:=⟨f.sp.step S (λ C=>g (C▸eu)) (λ P z C=>g (C▸eZ (mem_bl.2 z))) zab,f.po.step S (λ P z C=>g (C▸eU (mem_bl.2 z))),f.nd,f.wI⟩;refine rC J.b h.c ?_;refine Gc (m:=L) S.sat T j os rfl (cW S.size) p (.inl rfl) hx A λ Q A T j J w h B=>?_;have S5:=j.sat;have z:=S.size;have q:=j.size;have z:∀k∈aY y A E T,H.size<=k:=λ k Y=>(B k Y).elim (λ B=>N k (c6 B)) λ B=>zaa;have g:∀k,k<H.size->¬(k=U\/k∈aY y M E []):=λ k Y F=>F.elim (λ C=>zaa) λ F=>cW (N k (c6 F));have G:=j.blk d (g l zaa);have Z:=j.blk R (g m zaa);have O:aO Q l 0 n0=Q:=eM G rfl;have d:List.Sublist (aY y A n0 T) (aY y A E T):=by have C:(Value.slice none 0 0).bl=[]:=rfl;show List.Sublist (y::(A.bl++((Value.slice none 0 0).bl++T))) (y::(A.bl++(E.bl++T)));rw[C,List.nil_append];exact((List.Sublist.refl _).append (List.sublist_append_right _ _)).cons_cons _
 have K:MS 375 596 372 14 L I Q m U y A n0 T 0 []:=⟨w.sp,aQ.nil ..,List.nodup_cons.2 ⟨λ F=>(List.mem_cons.1 F).elim (λ C=>r C) λ F=>cW (z m (d.subset F)),w.nd.sublist (d.cons_cons _)⟩,a0,w.wI,V.w3b⟩;have L:∃f q r,E=.slice f q r:=V.po.slK λ B t C=>⟨_,_,_,C⟩;refine L.elim λ f W=>W.elim λ q W=>W.elim λ r P=>?_;have w:blk Q U=aE #[a,b,aB q3,nilp,nilp,.pointer (some X),nilp,nilp,bf,.slice f q r,bf,nilp,nilp,aB y] 375:=P▸J;try simp(disch:=omega)only[go_sem,↓reduceIte,aA G,aS G,cI d5,O,aA (S5 _ _ a1)]
 refine rp S5 Z w K zaa (by rcases h with C|⟨a4,C⟩<;>simp[C]) λ u T R b P t=>?_;refine hK y T ((((((s.weak (D':=λ k=>k=m) λ _ _=>False.elim).trans c).trans (i.weak λ _ _=>False.elim)).trans' S λ k Y C=>zaa).trans' j λ k Y F=>absurd F (g k zaa)).trans' R λ k Y F=>?_) b (R.blk G λ F=>?_)
 ·rcases F with F|F|F
  ·exact zaa
  ·have:=z y eu;exact zaa
  ·have:=z k (eZ F);exact zaa
 ·rcases F with F|F|F
  ·exact zaa
  ·have:=z y eu;exact zaa
  ·have:=z l (eZ F);exact zaa
def RT:(Bx h 372 a λ a d=>Bx d 90 b λ b d=>Bx d 173 c λ c d=>Al d 323 λ d e=>bH e 593 (.func (.func 374) #[] #[b,a,c,d]) λ a b=>Ld b 173 c λ e=>bg b 279 e 1 λ e=>Cf b 370 #[e,(.func (.func 376) #[] #[c,a])] λ _ b=>Ld b 173 c λ c=>bg b 279 c 0 λ c=>Cf b 260 #[c,(.func (.func 377) #[] #[a])] λ _ a=>Ld a 323 d λ b=>Sr a 323 d b λ a=>Rv a 323 d λ b=>R b a)->Cf h 365 #[a,b,c] R:=mS Tryz.func365 pY
def UX:(Cf h 364 #[b] λ c d=>Cd c (R n0 d) (aM d 375 a 5 4 λ c=>Nt d c λ c=>aH d c (λ a c=>a b c) λ d e=>aH e c (λ a b=>Nc d<|a d b) λ d e=>aH e c (λ a b=>Fa b 359 d 3 λ c=>a c b) λ d e=>aH e c (λ a b=>Ld b 240 d λ c=>a c b) λ d e=>aH e c (λ a b=>Eb b .eql 240 false true d (aU ⟨#[97,116,111,109,105,99]⟩) λ c=>a c b) λ d e=>Pk c d bf λ c=>Cd c (Lp (∃b:V0,(∀a,b a->(R n0 a))/\(aM e 375 a 2 173 λ c=>Eb e .neq 173 false true c nilp λ c=>aH e c (λ b c=>b a c) λ d e=>aH e c (λ a b=>Nc d<|a d b) λ d e=>aH e c (λ a b=>Fa b 375 d 2 λ c=>a c b) λ d e=>aH e c (λ a b=>Ld b 173 d λ c=>a c b) λ d e=>aH e c (λ a b=>Cf b 270 #[d] λ b c=>a b c) λ d e=>aH e c (λ a b=>Bi b .gtr 3 d i0 λ c=>a c b) λ d e=>Pk c d bf λ c=>Cd c (aM e 375 a 4 252 λ c=>Bs e 270 1 #[(0,c)] λ c d=>Cf d 88 #[c] λ c d=>bC d 375 a 6 173 c λ c=>aM c 375 a 4 252 λ d=>Bs c 270 1 #[(0,d)] λ c d=>Cf d 88 #[c] λ c d=>bC d 375 a 7 173 c λ a=>b a) (b e)))) (Lp (∃c:V1,(∀a b,c a b->(R a b))/\(aM e 375 a 2 173 λ d=>bx e 173 d nilp (aM e 375 a 2 173 λ d=>Cf e 365 #[a,b,d] λ a b=>c a b) (c n0 e))))))->Cf h 361 #[a,b] R:=mS Tryz.func361 (Z (Q cg (Q (Z (C Bn L)) (Y [4] cF bG))))
def IC:eT:=(Z (Z (Z (Z (Z (Z L))))))
def DZ(R:KV)(a:Value)(h:Heap):Prop:=bC h 375 a 2 173 nilp λ b=>bC b 375 a 1 86 nilp λ b=>bC b 375 a 0 101 nilp λ b=>Bd b 95 #[] λ c=>bC b 375 a 3 95 c λ b=>bC b 375 a 4 252 n0 λ b=>bC b 375 a 6 173 nilp λ b=>bC b 375 a 7 173 nilp λ a=>R (.tuple #[]) a
def Ss:(Bd h 375 #[] λ c=>Bx h 375 c λ c d=>bC d 375 c 2 173 a λ a=>bC a 375 c 0 101 b λ a=>aM a 317 b 2 86 λ d=>bC a 375 c 1 86 d λ a=>aM a 317 b 1 95 λ b=>bC a 375 c 3 95 b λ a=>Cf a 192 #[c] λ a b=>Ln b 323 a λ a=>bv b .gtr 3 a i0 (Cf b 91 #[dO 0x6572726f7273207265636f6e63696c696e67206669656c6420736574207769746820736368656d61] λ a b=>Dg b {target:=.fn (.func 191) #[],args:=#[]++#[c]} λ b=>R (bj nilp a) b) (aM b 375 c 7 173 λ a=>Eb b .neq 173 false true a nilp λ a=>Gd b a false (λ a b=>a c b) λ b d=>Gd d a false (λ a c=>Nc b<|a b c) λ b d=>Gd d a false (λ a c=>Fa c 375 b 6 λ b=>a b c) λ b d=>Gd d a false (λ a c=>Ld c 173 b λ b=>a b c) λ b d=>Gd d a false (λ a c=>Eb c .neq 173 false true b nilp λ b=>a b c) λ b d=>Pk a bt b λ a=>Cd a (aM d 375 c 2 173 λ a=>Lp (∃b:V1,(∀a d,b a d->(Lp (∃b:V1,(∀a d,b a d->(Dg d {target:=.fn (.func 191) #[],args:=#[]++#[c]} λ b=>R (bj a ni) b))/\(aM d 375 c 7 173 λ e=>bx d 173 e nilp (aM d 375 c 7 173 λ c=>Cf d 90 #[a,c] λ a c=>b a c) (b a d)))))/\(aM d 375 c 6 173 λ e=>bx d 173 e nilp (aM d 375 c 6 173 λ c=>Cf d 193 #[a,c] λ a c=>b a c) (b a d)))) (Dg d {target:=.fn (.func 191) #[],args:=#[]++#[c]} λ a=>R (bj nilp ni) a)))->Cf h 133 #[a,b] R:=mS Tryz.func133 (Z (Z (Z (Z (Z (Z (Z (Z (Q cg (Q (Z (C (Z (Y [8] cF (Y [8] cF bG))) L)) bG))))))))))
set_option maxHeartbeats 1000000 in theorem B8(Z:aN I h){U O z y:Nat}{X D:Addr}{H:Kd}(M:blk h n=aE #[a,b,c,d,e,f,g,i,j,n0,bf,nilp,nilp,nilp] 375)(G:I n=none)(N:∀S∈[a,b,c,d,e,f,g,i,j],aG S=true)(T:m<=h.size)(B:fl I A r)(V:cd I r 8 2 (c9 bA .li X++c9 bB H D))(F:cO I X)(C:bM I w (.fld bA))(s:I l=aE #[aB n] O)(x:I t=aE #[.pointer (some A)] z)(L:I u=aE #[aB v] y)(P:I v=aE #[p,q] U)(a0:c5 I q bA (some E))(Y:blk h o=aE #[n0] 323)(K:o≠n)(Q:∀z U,aC (λ k=>k=n) I h I U->blk U n=aE #[a,b,c,d,e,f,g,i,j,n0,bf,nilp,nilp,aB z] 375->blk U o=aE #[n0] 323->R (.tuple #[]) U):Cf h 374 #[.agg w.toArray,bf,aB t,aB l,aB u,aB o] R:=by
 have v:=C.one;have g:=C;obtain⟨t,q,O,J,rfl⟩:=cL C.1;have s0:=v t zab;have i:=v q zab;have C:=v O zab;have n:=v J zab;have A:=aF M;have D:=Z.dom s;have H:=Z.dom x;have D:=Z.dom L;have H:=aF Y;have z:aD I h I (h.push (aV #[t,q,O,J] 369)):=aP Z;have p:∀{W:Heap},aD I h I W->blk W h.size=aE #[t,q,O,J] 369->C1 R bf (aB l) (aB u) (aB o) (aB h.size) (bj (.agg (ef .li X).toArray) bt) W:=λ E e=>Fv (w:=[t,q,O,J]) E (E.blk M id) G A N T F g e bu s L P a0 (E.blk Y id) K H Q;apply RF;try simp(disch:=omega)only[go_sem,↓reduceIte,s0,i,C,n,aA (Z _ _ x)]
 refine xu z.sat B V g λ N f=>?_;have d:=z.trans f;have W:=d.sat;have g:=f.size;(try simp only[bJ]at g);have F:blk N h.size=aE #[t,q,O,J] 369:=f.blk Bk id;exact p d F
set_option maxHeartbeats 1000000 in theorem zK{L:Nat}(Z:aN I h){X V:Addr}{n:Kd}{H:bU}(M:blk h m=aE #[a,b,c,d,e,f,g,i,j,n0,bf,nilp,nilp,nilp] 375)(a0:I m=none)(o1:∀S∈[a,b,c,d,e,f,g,i,j],aG S=true)(r:L<=h.size)(hm:fl I A p)(hf:cd I p 8 2 (c9 bA .li X++c9 bB n V))(hx:cO I X)(o:cz I q [] bA (some H))(hK:∀w U,aC (λ k=>k=m) I h I U->blk U m=aE #[a,b,c,d,e,f,g,i,j,n0,bf,nilp,nilp,aB w] 375->R n0 U):Cf h 365 #[aB m,.pointer (some A),q] R:=by
 obtain⟨p,t,y,z,rfl,P,R,-,V⟩:=o;have W:=aF M;have C:=Z.dom P;obtain⟨W,B⟩:∃W:Heap,W=aO (((((h.push (aV #[aB m] 372)).push (aV #[.pointer (some A)] 90)).push (aV #[aB p] 173)).push (aV #[n0] 323)).push (aV #[nf] 593)) (h.size+1+1+1+1) 0 (.func (.func 374) #[] #[aB (h.size+1),aB h.size,aB (h.size+1+1),aB (h.size+1+1+1)]):=⟨_,rfl⟩;have T:aD I h I W:=by rw[B];exact aP Z
 have F:W.size=h.size+5:=by rw[B];exact zbD
 have b0:blk W h.size=aE #[aB m] 372:=zaR;have x:blk W (h.size+1)=aE #[.pointer (some A)] 90:=zaR;have O:blk W (h.size+1+1)=aE #[aB p] 173:=zaR;have A:blk W (h.size+1+1+1)=aE #[n0] 323:=zaR;have E:blk W (h.size+1+1+1+1)=aE #[.func (.func 374) #[] #[aB (h.size+1),aB h.size,aB (h.size+1+1),aB (h.size+1+1+1)]] 593:=zaR;have Z:=lA T [h.size,h.size+1,h.size+1+1,h.size+1+1+1+1] (by simp;exact zaa);have r:=Z.2.1 h.size _ zab b0;have z:=Z.2.1 (h.size+1) _ zab x;have K:=Z.2.1 (h.size+1+1) _ zab O;have p:=Z.2.1 (h.size+1+1+1+1) _ zab E;have s:=Z.2.2 m (by simp;exact zaa);have Z:=Z.1;have G:=Z.le;have J:=Z.sat;have D:=cE G (mc1 P);have Y:=cE G (k7 P);refine RT (rA ?_);rw[<-B];have B:∀U,aC (λ k=>k=m) (I.fp [h.size,h.size+1,h.size+1+1,h.size+1+1+1+1] W) W (I.fp [h.size,h.size+1,h.size+1+1,h.size+1+1+1+1] W) U->aC (λ k=>k=m) I h I U:=λ U E=>(T.weak λ _ _=>False.elim).trans (aC.forget G E);refine AU (S:=bA) (E:=H) (Q:=λ U=>∃w,aC (λ k=>k=m) (I.fp [h.size,h.size+1,h.size+1+1,h.size+1+1+1+1] W) W (I.fp [h.size,h.size+1,h.size+1+1,h.size+1+1+1+1] W) U/\blk U m=aE #[a,b,c,d,e,f,g,i,j,n0,bf,nilp,nilp,aB w] 375/\blk U (h.size+1+1+1)=aE #[n0] 323) J D (V.mono G) (λ y e i C a n=>?_) λ y F=>?_
 ·have X:=e.sat;have o:=e.size;have v:=C.one;have o:=C;obtain⟨u,q,O,J,rfl⟩:=cL C.1;have x:=v u zab;have S:=v q zab;have t:=v O zab;have D:=v J zab;rw[ej LV];show Cf y 376 #[.agg #[u,q,O,J],aB (h.size+1+1),aB (h.size+1+1+1+1)] a;refine Sq (rF (X _ _ K).c x S t D ?_);have d:aD (I.fp [h.size,h.size+1,h.size+1+1,h.size+1+1+1+1] W) y (I.fp [h.size,h.size+1,h.size+1+1,h.size+1+1+1+1] W) (y.push (aV #[u,q,O,J] 369)):=aP X;refine n4 (x:=[u,q,O,J]) d.sat Y (R.mono G) List.Pairwise.nil o λ W N f I=>?_;have D:W=false:=by cases W with|false=>rfl|true=>exact absurd (I.1 rfl) zab
  have W:=f.sat;have t:=e.trans (d.trans f);have b:blk N y.size=aE #[u,q,O,J] 369:=f.blk Bk id;have i:=t.size;try simp(disch:=omega)only[go_sem,↓reduceIte,D,aA (W _ _ p),aA b,ej KH]
  refine B8 (m:=L) (w:=[u,q,O,J]) W ((Z.trans t).blk M id) (s.trans a0) o1 zaa (hm.mono G) (hf.mono G) (hx.mono G) o r z K (G _ _ P) (V.mono G) (t.blk A id) zaa λ w a T m z=>rA ?_;exact n a ⟨w,(t.weak λ _ _=>False.elim).trans T,m,z⟩
 ·obtain⟨w,z,g,N⟩:=F;have X:=z.sat;have O:aO y (h.size+1+1+1) 0 n0=y:=eM N rfl;refine rB (X _ _ K).c ?_;refine rc X Y (R.mono G) ?_;refine rC N.b O ?_;exact hK w y (B y z) g
theorem cz.one(B:cz I a E S V):aG a=true:=by obtain⟨W,C,y,z,rfl,-⟩:=B;rfl
theorem Gm{L:Nat}(Z:aN I h){B:Addr}{H:bU}(s:dr I c B)(D:cU I bT ⟨n,0,none⟩)(M:blk h m=aE #[b,c,d,aB n,nilp,nilp,nilp,nilp,bf,n0,bf,nilp,nilp,nilp] 375)(G:I m=none)(A:aG b=true)(r:L<=h.size)(e:cz I d [] bA (some H))(Q:∀w U,aC (λ k=>k=m) I h I U->blk U m=aE #[b,c,d,aB n,nilp,nilp,nilp,nilp,bf,n0,bf,nilp,nilp,aB w] 375->R n0 U):Cf h 192 #[aB m] R:=by
 have n:aG c=true:=zbc;have Y:eO I B:=zaN;have K:aG d=true:=e.one;obtain⟨p,t,y,z,ep,-⟩:=id e;have P:=aF M;refine nV (O:=.ma) (A:=B) Z M (kB s D) λ y v=>?_;have g:=v.blk M id;obtain⟨c,X,q,B,V,i,-⟩:=Y;have f:=B;obtain⟨J,d,rfl,O⟩:=B;have b:∀{N:Heap},aN I N->aI N J 8=some s0:=λ W=>by have:=(At.of W O) 8 s0 rfl;exact zai
 try simp(disch:=omega)only[go_sem,↓reduceIte,dH Kc]
 apply UX;refine yV v.sat f λ N P=>?_;have D:=P.blk g id;have W:=P.sat;have s:=v.trans P;refine rD D.c (b W) @fI ?_;refine⟨λ C U=>C=n0/\R n0 U,λ C U F=>F.1▸F.2,?_⟩;refine rC D.c @ep ?_;refine zK (L:=L) (H:=H) W (ep▸D) G (λ S O=>?_) (Nat.le_trans r s.size) f V i (ep▸e) λ w K T m=>⟨rfl,Q w K ((s.weak λ _ _=>False.elim).trans T) (ep▸m)⟩;simp only[List.mem_cons,List.not_mem_nil,or_false]at O;rcases O with rfl|rfl|rfl|rfl|rfl|rfl|rfl|rfl|rfl<;>first|exact A|exact n|rfl
theorem AC:vV Tryz.f191=true:=zag
theorem JB:pJ Tryz.f191 IC R [a] h=DZ R a h:=zag
theorem Ix{T:Heap->Prop}(Y:DZ (λ _ U=>T U) a h):Dg h {target:=.fn (.func 191) #[],args:=#[]++#[a]} T:=by intro E M;refine⟨_,_,191,#[a],rfl,?_,En (x:=[a]) (R:=λ _ U=>T U) Tryz.func191 IC AC JB Y E M⟩;exact e9 zag _ E
theorem uA(Z:aN I h)(s:dr I a A)(D:cU I bT ⟨m,0,none⟩)(G:TV I c d a m)(e:cz I b [] bA (some E))(z:∀U,aD I h I U->R (bj nilp ni) U):Cf h 133 #[b,c] R:=by have F:aG a=true:=zbc;have K:aG b=true:=e.one;obtain⟨B,t,rfl,x⟩:=G;have M:=Z.dom x;have O:∀{W:Heap},aN I W->blk W B=aE #[d,aB m,nilp,nilp,nilp,nilp,bf,a] t:=λ N=>N _ _ x;have n:∀{W:Heap}{Q:KV},aD I h I W->blk W h.size=aE #[aB B,a,b,aB m,nilp,nilp,nilp,nilp,bf,n0,bf,nilp,nilp,nilp] 375->(∀w U,aD I h I U->blk U h.size=aE #[aB B,a,b,aB m,nilp,nilp,nilp,nilp,bf,n0,bf,nilp,nilp,aB w] 375->Q n0 U)->Cf W 192 #[aB h.size] Q:=λ{W Q}T q P=>Gm (L:=h.size) T.sat s D q (Z.fresh bu) rfl T.size e λ w U E j=>P w U (T.trans' E λ r Y C=>zaa) j;refine Ss (rD (O Z).c F K ?_);refine n (aP Z) Bk λ w N d D=>?_;have J:=aF D;refine rB D.c ?_;refine Ix ?_;unfold DZ;refine rB D.b ?_;exact z _ (bX Z d)
def EU:(Bx h 99 a λ a c=>Al c 95 λ c d=>Fa d 99 a 3 λ e=>Ld d 96 e λ e=>Lk d 96 e b true λ b=>aW b λ b e=>bH d 95 b λ b d=>Cd e (Ld d 95 b λ a=>Sr d 95 c a λ a=>Rv a 95 c λ b=>R b a) (Fa d 99 a 2 λ a=>Ld d 95 a λ a=>Sr d 95 c a λ a=>Rv a 95 c λ b=>R b a))->Cf h 40 #[a,b] R:=mS Tryz.func40 wa
def WU:(Bd h 269 #[(0,a),(1,b),(2,c)] λ a=>Mi h 269 a λ a=>R a h)->Cf h 87 #[a,b,c] R:=mS Tryz.func87 cX
def Rk:(Bx h 317 a λ a b=>Fa b 317 a 0 λ a=>Ld b 228 a λ a=>R a b)->Cf h 119 #[a] R:=mS Tryz.func119 cX
def Rh:(Bx h 317 a λ a b=>Fa b 317 a 2 λ a=>Ld b 86 a λ a=>R a b)->Cf h 173 #[a] R:=mS Tryz.func173 cX
def RO:(Bx h 317 a λ a b=>Al b 95 λ b c=>Fa c 317 a 1 λ a=>Ld c 95 a λ a=>Sr c 95 b a λ a=>Rv a 95 b λ b=>R b a)->Cf h 174 #[a] R:=mS Tryz.func174 cX
def Vg:(Bx h 99 a λ a d=>Fa d 99 a 4 λ e=>Ld d 97 e λ e=>Lk d 97 e c false λ e=>Cd e (Bd d 533 #[] λ a=>Mi d 533 a λ a=>R (bj b a) d) (Nc b<|Ld d 317 b λ e=>Cf d 119 #[e] λ d e=>Lp (∃f:V1,(∀b d,f b d->(Fa d 99 a 1 λ e=>Ld d 86 e λ f=>Ld d 99 a λ g=>Cf d 40 #[g,c] λ c d=>aX d 99 a 1 e 86 f<|(Cf d 310 #[b,f,c] λ a b=>R (bj a ni) b)))/\(Fa e 99 a 0 λ g=>Ld e 39 g λ g=>Ln e 39 g λ g=>bv e .gtr 3 g i0 (Ld e 99 a λ g=>Ld e 99 a λ i=>Nc b<|Ld e 317 b λ j=>Iv e d "Unstructured" #[] λ d e=>bh e 99 a g/\bh e 99 a i/\bh e 317 b j/\(Cf e 174 #[j] λ b e=>bh e 99 a g/\bh e 99 a i/\(Cf e 309 #[i,b] λ b e=>bh e 99 a g/\(Cf e 80 #[g,d,b,c] λ a b=>Cf b 130 #[a] λ a b=>f a b)))) (f d e)))))->Cf h 307 #[a,b,c] R:=mS Tryz.func307 (Z (Q cg (Z (Y [8] (Z (C (X #[0,0,2,0,0,16,48,118,254,0,1023,2047,4095]) L)) (Q (X #[0,0,2,0,0,24,63,127,255]) L)))))
def RI:(Bx h 99 a λ _ a=>Ta a b 109 533 true λ b=>aW b λ b c=>bH a 533 b λ _ a=>R c a)->Cf h 308 #[a,b] R:=mS Tryz.func308 iO
def SN:(Bx h 95 c λ c d=>Ld d 95 c λ c=>Bd d 317 #[(0,a),(1,c),(2,b)] λ a=>Bx d 317 a λ a b=>R a b)->Cf h 310 #[a,b,c] R:=mS Tryz.func310 iO
def SC:(Bx h 269 a λ a b=>Fa b 269 a 1 λ a=>Ld b 114 a λ a=>R a b)->Cf h 316 #[a] R:=mS Tryz.func316 cX
def Qq:(Bx h 269 a λ a b=>Fa b 269 a 2 λ a=>Ld b 4 a λ a=>R a b)->Cf h 317 #[a] R:=mS Tryz.func317 cX
def QW:(Bx h 269 a λ a b=>Fa b 269 a 0 λ a=>Ld b 173 a λ a=>R a b)->Cf h 318 #[a] R:=mS Tryz.func318 cX
theorem qj:dK 99 "Convert"=some 307:=zag
theorem Sk:dK 99 "IsMissingVersionError"=some 308:=zag
theorem sK:cC [] S=none:=rfl
def f8(T:aK)(c A:Value)(t:Nat):Prop:=∃N l,c=.agg #[n0,A,aB t,nilp,nilp,nilp,nilp,bf,.map (some N),.map (some l)]/\T N=some (.map #[] 0)/\T l=some (.map #[] 0)/\aG A=true
theorem f8.mono(O:I.le J)(B:f8 I c a m):f8 J c a m:=by obtain⟨N,l,C,y,z,K⟩:=B;exact⟨N,l,C,O _ _ y,O _ _ z,K⟩
theorem lZ(Z:aN I h)(k:f8 I a b m)(L:∀U,aD I h I U->R (.agg (dc m).toArray) U):Cf h 40 #[a,aU bV] R:=by obtain⟨N,l,rfl,y,N,F⟩:=k;have o:=Z.dom y;refine EU (rB F ?_);refine(hN sk (bI ((show aD I h I _ from aP Z).blk (Z _ _ y) id)) zab).mpr ?_;refine rC @sK (@Option.getD_none Value) ?_;exact zaC
theorem jg(Z:aN I h)(x:aG a=true)(F:aG b=true)(L:∀U,aD I h I U->R a U):Cf h 119 #[.agg #[a,aB m,nilp,nilp,nilp,nilp,bf,b]] R:=by refine Rk (rC x F ?_);exact zaC
theorem rj(Z:aN I h)(x:aG a=true)(F:aG b=true)(L:∀U,aD I h I U->R b U):Cf h 173 #[.agg #[a,aB m,nilp,nilp,nilp,nilp,bf,b]] R:=by refine Rh (rC x F ?_);exact zaC
theorem lg(Z:aN I h)(x:aG a=true)(F:aG b=true)(L:∀U,aD I h I U->R (.agg #[aB m,nilp,nilp,nilp,nilp,bf]) U):Cf h 174 #[.agg #[a,aB m,nilp,nilp,nilp,nilp,bf,b]] R:=by refine RO (rC x F ?_);exact zaC
theorem Dx(Z:aN I h)(x:aG a=true)(F:aG c=true)(L:∀w V U,aD I h V U->TV V w a c m->R w U):Cf h 310 #[a,c,.agg (dc m).toArray] R:=by
 apply SN;try simp(disch:=omega)only[go_sem,↓reduceIte,x,F,dc]
 have E:aD I h I ((h.push (aV #[aB m,nilp,nilp,nilp,nilp,bf] 95)).push (aV #[a,aB m,nilp,nilp,nilp,nilp,bf,c] 317)):=aP Z;have K:=E.one (b:=h.size+1) zaa;exact L _ _ _ K.1 ⟨h.size+1,317,rfl,aK.one_eq Bk⟩
theorem jA(Z:aN I h)(k:f8 I a b m)(e:TV I c d b m)(x:aG d=true)(L:∀i V U,aD I h V U->TV V i d b m->R (bj i ni) U):Cf h 307 #[a,c,aU bV] R:=by
 have Y:=k;obtain⟨v,l,rfl,y,N,F⟩:=k;obtain⟨u,C,rfl,j⟩:=e;have o:=Z.dom y;have g:=Z.dom N;have e:=Z.dom j;refine Vg (rB F ?_);refine(f1 Kw (bI ((show aD I h I _ from aP Z).blk (Z _ _ N) id)) zab).mpr ?_;refine rD (Z _ _ j).c @sK (@Option.getD_none Value) ?_;refine jg (show aD I h I _ from aP Z).sat x F λ K r=>?_;have f:blk K h.size=aE #[n0,b,aB m,nilp,nilp,nilp,nilp,bf,.map (some v),.map (some l)] 99:=r.blk Bk id;have n:aD I h I K:=aC.trans (aP Z) r;refine⟨λ X t=>X=d/\t=K,λ X t e=>?_,?_⟩
 ·rw[e.1,e.2];refine rB f.c ?_;refine lZ n.sat Y λ Q D=>?_;have E:=D.blk f id;refine rB E.c ?_;refine Dx D.sat x F λ i V T M G=>rA ?_;exact L i V T ((n.trans D).trans M) G
 ·try simp(disch:=omega)only[go_sem,↓reduceIte,aA f]
theorem Gx(Z:aN I h)(k:f8 I a b m)(L:∀U,aD I h I U->R bf U):Cf h 308 #[a,ni] R:=by obtain⟨N,l,rfl,y,N,F⟩:=k;refine RI (rB F ?_);exact zaC
abbrev dJ(w:Value)(b:Bool):Value:=.iface 269 (.agg #[w,aU bV,.bool b])
theorem ly{u:Bool}(K:aG a=true)(L:R (dJ a u) h):Cf h 87 #[a,aU bV,.bool u] R:=by refine WU (rB K ?_);exact L
theorem fN(Z:aN I h){u:Bool}(K:aG a=true)(L:∀U,aD I h I U->R a U):Cf h 318 #[.agg #[a,aU bV,.bool u]] R:=by refine QW (rB K ?_);exact zaC
theorem fc(Z:aN I h){u:Bool}(K:aG a=true)(L:∀U,aD I h I U->R (aU bV) U):Cf h 316 #[.agg #[a,aU bV,.bool u]] R:=by refine SC (rB K ?_);exact zaC
theorem t7(Z:aN I h){u:Bool}(K:aG a=true)(L:∀U,aD I h I U->R (.bool u) U):Cf h 317 #[.agg #[a,aU bV,.bool u]] R:=by refine Qq (rB K ?_);exact zaC
theorem Jd(Z:aN I h)(s:dr I b A)(O:cU I bT ⟨t,0,none⟩)(M:blk h n=aE #[a,b,aB t,nilp,nilp,nilp,nilp,bf,aB o,n0,nilp,co l] 327)(G:I n=none)(j:dD m I h o K bA none)(z:n∉K)(p:PV I a ni)(L:∀V U,aC (λ k=>k=n\/k∈K) I h V U->TW V U n o->cz V (aB o) [] bA none->R n0 U):Cf h 172 #[aB n] R:=by
 have x:aG a=true:=zav;have F:aG b=true:=zbc;have Y:eO I A:=zaN;obtain⟨c,X,q,B,V,i,-⟩:=Y;have f:=B;obtain⟨J,d,rfl,c⟩:=B;refine tf (rB M.c ?_);refine d9 (C:=dc t) Z (kB s O) (.inr ⟨_,.nil,p⟩) λ N P=>?_;have X:=P.blk M id;refine rA ?_;refine GT (rB X.c ?_);refine yg P.sat (p.mono P.le) λ W r=>?_;have v:=P.trans r;have i:=v.sat;have g:=At.of i (v.le _ _ c);have b:aI W J 8=some s0:=by have:=g 8 s0 rfl;exact zai
 refine rD (r.blk X id).c b @fI ?_;have Z:=(j.step v λ _ _=>id).doneD (g:=λ k=>k=n\/k∈K) (v.weak λ _ _=>False.elim) (λ k Y=>.inr (.inr Y)) zab;exact L _ _ Z.1 ⟨(aK.fp_ne z).trans G,_,v.blk M id,rfl,rfl⟩ Z.2
theorem qk{T:aK}{O:Heap}(Z:aN T O){J Q:Value}(M:dr T Q A)(S:cU T bT ⟨t,0,none⟩)(p:PV T J ni)(L:∀w V U,aD T O V U->cz V w [] bA none->R (bj w ni) U):Cf O 115 #[.agg (J::dc t++[Q]).toArray] R:=by
 have x:aG J=true:=zav;have F:aG Q=true:=by obtain⟨u,C,o,rfl,-⟩:=M;rfl
 apply Jk;try simp(disch:=omega)only[go_sem,↓reduceIte,dc,x,F]
 refine mi (m:=t) (a:=J) (b:=Q) (T:=T) (aC.sat (D:=none_) (I:=T) (h:=O) (aP Z)) x F λ E W w y A k m n f j=>?_;have z:aD T O T y:=aC.trans (aP Z) A;(try simp only[bJ]at k);(try simp only[bJ]at m);have l:=aF f;refine rA ?_;refine Jd (m:=O.size) (K:=[W]) z.sat (M.mono z.le) (S.mono z.le) j (Z.fresh zaa) ⟨f,zab,λ r Y=>?_⟩ (bS n) (p.mono z.le) λ V t q Q X=>?_
 ·rw[List.mem_singleton.1 Y];exact⟨zaa,l,Z.fresh zaa⟩
 have S:aD T O V t:=z.trans' q λ r Y G=>by
  rcases G with G|G
  ·exact zaa
  ·have:=List.mem_singleton.1 G;exact zaa
 have M:V E=none:=Q.1;refine Q.2.elim λ H b=>?_;refine lc ⟨H,b.1,b.2.1⟩ λ f o g e z a C Z K d E P i=>?_;have B:K=aB W:=zbp;refine rC i.c B ?_;refine As ?_;unfold x4;refine rB i.b ?_;refine L _ V _ ?_ X;repeat'(first|with_reducible exact S|with_reducible refine aC.put ?_ (Or.inl zaa) M)
def To:(aM h 192 a 0 168 λ f=>Iv h f "Convert" #[b,d] λ b f=>aW b λ b g=>bx f 109 g ni (aM f 192 a 0 168 λ a=>Iv f a "IsMissingVersionError" #[g] λ a d=>Cd a (R (.tuple #[b,c,ni]) d) (Cf d 91 #[dO 0x6661696c656420746f20636f6e76657274206d6572676564206f626a6563742061742076657273696f6e] λ a b=>R (.tuple #[nilp,nilp,a]) b)) (aM f 192 a 0 168 λ g=>Iv f g "Convert" #[c,d] λ c d=>aW c λ c f=>bx d 109 f ni (aM d 192 a 0 168 λ a=>Iv d a "IsMissingVersionError" #[f] λ a d=>Cd a (R (.tuple #[b,c,ni]) d) (Cf d 91 #[dO 0x6661696c656420746f20636f6e76657274207072756e6564206f626a6563742061742076657273696f6e] λ a b=>R (.tuple #[nilp,nilp,a]) b)) (Nc b<|Ld d 317 b λ a=>Cf d 115 #[a] λ a d=>aW a λ a f=>bx d 109 f ni (Cf d 91 #[dO 0x6661696c656420746f20637265617465206669656c64207365742066726f6d206d6572676564206f626a6563742061742076657273696f6e] λ a b=>R (.tuple #[nilp,nilp,a]) b) (Nc c<|Ld d 317 c λ c=>Cf d 115 #[c] λ c d=>aW c λ c f=>bx d 109 f ni (Cf d 91 #[dO 0x6661696c656420746f20637265617465206669656c64207365742066726f6d207072756e6564206f626a6563742061742076657273696f6e] λ a b=>R (.tuple #[nilp,nilp,a]) b) (Lp (∃f:V2,(∀d g i,f d g i->(Nc b<|Ld i 317 b λ f=>Ld i 95 g λ j=>Ld i 95 g λ k=>Ld i 95 g λ l=>Cf i 176 #[a,d,j] λ a i=>bh i 317 b f/\bh i 95 g k/\bh i 95 g l/\(Cf i 176 #[c,d,k] λ c i=>bh i 317 b f/\bh i 95 g l/\(Cf i 176 #[e,d,l] λ d e=>bh e 317 b f/\(Cf e 90 #[c,d] λ c d=>bh d 317 b f/\(Cf d 89 #[a,c] λ a c=>bh c 317 b f/\(Cf c 175 #[f,a] λ a c=>R (.tuple #[b,a,ni]) c)))))))/\(Nc b<|Ld d 317 b λ a=>Nc b<|Ld d 317 b λ c=>(Cf d 173 #[a] λ d e=>bh e 317 b c/\((Cf e 174 #[c] λ e g=>Al g 95 λ g i=>bh i 317 b a/\bh i 317 b c/\(Sr i 95 g e λ a=>f d g a))/\(Al e 95 λ e g=>bh g 317 b a/\bh g 317 b c/\(Cf g 174 #[c] λ a b=>Sr b 95 e a λ a=>f d e a))))/\(Al d 95 λ d e=>bh e 317 b a/\bh e 317 b c/\(Cf e 173 #[a] λ a e=>bh e 317 b c/\(Cf e 174 #[c] λ b c=>Sr c 95 d b λ b=>f a d b))))))))))->Cf h 222 #[a,b,c,d,e] R:=mS Tryz.func222 (Z (Z (Z (Q oL (Z (Q oL (Z (Q cg (Z (Q cg (Y [16,17] Ik (Q (X #[0,1,3,0,0,0,56,0,0,0,1016,0,0,0,16376,32760,65528,131071,262143]) bG))))))))))))
def Vl:(bg h 192 a 0 λ e=>Ld h 168 e λ f=>Nc f<|Iv h d "APIVersion" #[] λ g i=>aX i 192 a 0 e 168 f<|(Iv i f "Convert" #[c,g] λ c e=>aW c λ c f=>bx e 109 f ni (aM e 192 a 0 168 λ a=>Iv e a "IsMissingVersionError" #[f] λ a c=>Cd a (R (bj b ni) c) (Cf c 91 #[dO 0x6661696c656420746f20636f6e76657274207072756e6564206f626a65637420746f206c617374206170706c6965642076657273696f6e] λ a b=>R (bj nilp a) b)) (Nc c<|Ld e 317 c λ a=>Cf e 115 #[a] λ a c=>aW a λ a e=>bx c 109 e ni (Cf c 91 #[dO 0x6661696c656420746f20637265617465206669656c64207365742066726f6d207072756e6564206f626a65637420696e206c617374206170706c6965642076657273696f6e] λ a b=>R (bj nilp a) b) (Nc b<|Ld c 317 b λ e=>Cf c 115 #[e] λ c e=>aW c λ c f=>bx e 109 f ni (Cf e 91 #[dO 0x6661696c656420746f20637265617465206669656c64207365742066726f6d206d6572676564206f626a65637420696e206c617374206170706c6965642076657273696f6e] λ a b=>R (bj nilp a) b) (Lp (∃f:V2,(∀e g i,f e g i->(Ld i 95 g λ f=>Cf i 176 #[a,e,f] λ a f=>Ld f 95 g λ i=>Cf f 176 #[c,e,i] λ c f=>Ld f 95 g λ i=>Iv f d "Set" #[] λ d f=>bh f 95 g i/\(Cf f 176 #[d,e,i] λ d e=>Nc b<|Ld e 317 b λ f=>Cf e 89 #[c,a] λ a c=>bh c 317 b f/\(Cf c 137 #[a,d] λ a c=>bh c 317 b f/\(Cf c 175 #[f,a] λ a b=>R (bj a ni) b)))))/\(Nc b<|Ld e 317 b λ a=>Nc b<|Ld e 317 b λ c=>(Cf e 173 #[a] λ d e=>bh e 317 b c/\((Cf e 174 #[c] λ e g=>Al g 95 λ g i=>bh i 317 b a/\bh i 317 b c/\(Sr i 95 g e λ a=>f d g a))/\(Al e 95 λ e g=>bh g 317 b a/\bh g 317 b c/\(Cf g 174 #[c] λ a b=>Sr b 95 e a λ a=>f d e a))))/\(Al e 95 λ d e=>bh e 317 b a/\bh e 317 b c/\(Cf e 173 #[a] λ a e=>bh e 317 b c/\(Cf e 174 #[c] λ b c=>Sr c 95 d b λ b=>f a d b))))))))))->Cf h 178 #[a,b,c,d] R:=mS Tryz.func178 (Z (Q EL (Q oL (Z (Q cg (Z (Q cg (Y [14,15] Ik (Z (Z (Q (X #[0,1,0,0,15,31]) (Q (X #[0,1,3,0,0,24,0,120,255,511,1023]) L))))))))))))
def ES(a:Value)(b:Heap)(c:V2):Prop:=Nc a<|Ld b 317 a λ d=>Nc a<|Ld b 317 a λ e=>(Cf b 173 #[d] λ b f=>bh f 317 a e/\((Cf f 174 #[e] λ f g=>Al g 95 λ g i=>bh i 317 a d/\bh i 317 a e/\(Sr i 95 g f λ a=>c b g a))/\(Al f 95 λ f g=>bh g 317 a d/\bh g 317 a e/\(Cf g 174 #[e] λ a d=>Sr d 95 f a λ a=>c b f a))))/\(Al b 95 λ b f=>bh f 317 a d/\bh f 317 a e/\(Cf f 173 #[d] λ d f=>bh f 317 a e/\(Cf f 174 #[e] λ a e=>Sr e 95 b a λ a=>c d b a)))
theorem gq(V:TV I a c d m){M:Prop}(T:∀b e,a=aB b->I b=aE #[c,aB m,nilp,nilp,nilp,nilp,bf,d] e->M):M:=by obtain⟨b,e,y,N⟩:=V;exact T b e y N
theorem yr(Z:aN I h)(e:TV I a c d m)(x:aG c=true)(F:aG d=true){Q:Value->Value->Heap->Prop}(A:∀B E U,aD I h E U->E B=aE #[aB m,nilp,nilp,nilp,nilp,bf] 95->Q d (aB B) U):ES a h Q:=by
 refine gq e λ u C ep j=>?_;subst ep;have e:=Z.dom j;have bb:∀{W:Heap},aD I h I W->blk W u=aE #[c,aB m,nilp,nilp,nilp,nilp,bf,d] C:=λ G=>G.blk (Z _ _ j) id;unfold ES;refine rB (Z _ _ j).c ?_;refine⟨?_,?_⟩
 ·refine rj Z x F λ y v=>?_;have X:=v.sat;have e:=bb v;have P:=aF e;refine rB e.c ?_;refine⟨?_,?_⟩
  ·refine lg X x F λ N P=>?_;have s:=v.trans P;have i:=s.size;have W:=P.sat;have H:=bb s;have k:=aF H;refine rB H.c ?_;have n:aD I h I (aO (aO (aO (aO (aO (aO (N.push (aV #[nilp,nilp,nilp,nilp,nilp,bf] 95)) N.size 0 (aB m)) N.size 1 nilp) N.size 2 nilp) N.size 3 nilp) N.size 4 nilp) N.size 5 bf):=bX Z s;have K:=n.one (b:=N.size) s.size;exact A N.size _ _ K.1 (aK.one_eq Bk)
  ·refine lg (show aD I y I _ from aP X).sat x F λ N P=>?_;have s:aD I y I N:=aC.trans (aP X) P;have z:=v.trans s;have W:=P.sat;have o:=v.size;have D:blk N y.size=aE #[nilp,nilp,nilp,nilp,nilp,bf] 95:=P.blk Bk id;refine rB D.b ?_;have n:aD I h I (aO (aO (aO (aO (aO (aO N y.size 0 (aB m)) y.size 1 nilp) y.size 2 nilp) y.size 3 nilp) y.size 4 nilp) y.size 5 bf):=bX Z z;have K:=n.one (b:=y.size) o;exact A y.size _ _ K.1 (aK.one_eq (bz D))
 ·refine rB (Z _ _ j).c ?_;refine rj (show aD I h I _ from aP Z).sat x F λ y v=>?_;have s:aD I h I y:=aC.trans (aP Z) v;have D:blk y h.size=aE #[nilp,nilp,nilp,nilp,nilp,bf] 95:=v.blk Bk id;have e:=bb s;refine rB e.c ?_;refine lg s.sat x F λ N P=>?_;have f:=P.blk D id;have C:=s.trans P;have g:=aF f;refine rB f.b ?_;have n:aD I h I (aO (aO (aO (aO (aO (aO N h.size 0 (aB m)) h.size 1 nilp) h.size 2 nilp) h.size 3 nilp) h.size 4 nilp) h.size 5 bf):=bX Z C;have K:=n.one (b:=h.size) bu;exact A h.size _ _ K.1 (aK.one_eq (bz f))
structure CI(c:bU)(l:bn):Prop where
 m:∀y,y∈c↔∃t∈l,y=.val t
 n:c.length<=100000
theorem CI.ne(B:CI E z)(f:z≠[]):E≠[]:=by intro C;obtain⟨X,c,rfl⟩:=List.exists_cons_of_ne_nil f;have:=(B.m (.val X)).2 ⟨X,zab,rfl⟩;rw[C]at this;cases this
theorem CI.val(B:CI E z):El.val S∈E↔S∈z:=by
 rw[B.m];constructor
 ·rintro⟨d,O,C⟩;injection C with C;exact C▸O
 ·exact λ O=>⟨S,O,rfl⟩
theorem jH(Z:aN I h)(s:dr I d A)(D:cU I bT ⟨m,0,none⟩)(p:PV I a b)(v:dM I b z)(f:z≠[])(G:z.Nodup)(l:z.length<=50000)(L:∀w c V U,aD I h V U->cz V w [] bA (some c)->CI c z->R (bj w ni) U):Cf h 115 #[.agg #[a,aB m,nilp,nilp,nilp,nilp,bf,d]] R:=by refine lQ (g:=.lst z) Z s D p v ⟨G,by show z.length<_;exact zaa⟩ λ w c V U Q r H=>?_;cases c with|none=>exact zbT|some c=>exact L w c V U Q r ⟨H.1,by have:=H.2;simp only[fZ,Option.getD_some]at this;exact zaa⟩
noncomputable def ec(w:bF->Prop)(H:bn):bn:=H.filter λ A=>@decide (w A) (Classical.propDecidable _)
theorem mem_keepL{w:bF->Prop}:S∈ec w z↔S∈z/\w S:=by unfold ec;simp[List.mem_filter]
theorem Dr{w:bF->Prop}(O:z.Nodup):(ec w z).Nodup:=O.sublist List.filter_sublist
theorem zU(w:bF->Prop)(H:bn):(ec w H).length<=H.length:=List.length_filter_le ..
theorem x6{w:bF->Prop}(O:∀A∈z,El.val A∈E↔¬w A):d7 E z=ec w z:=by
 unfold d7 ec;refine List.filter_congr λ A s=>?_;have:=O A s;by_cases e:w A
 ·have:¬El.val A∈E:=λ F=>(this.1 F) e;simp[e,this]
 ·have:El.val A∈E:=this.2 e;simp[e,this]
theorem tE{w:bF->Prop}(O:∀A∈z,El.val A∈V.getD []↔¬w A)(Y:ec w z≠[]):td [] V (.lst z)=.ob (.lst (ec w z)):=by rw[<-x6 O]at Y⊢;exact wj zab Y
theorem oX(H:bU):(fC H).getD []=H:=by unfold fC;cases H<;>rfl
theorem wi:cu [.fld bA] [.fld bA]=[]:=by have:¬bQ (.fld bA) (.fld bA)<0:=eg;rw[cu,if_neg this,if_neg this,cu]
theorem Di(Z:aN I h){t:Value}{H:bn}(O:I m=aE #[.iface 99 t,cr,cr,bf] n)(k0:f8 I t a o)(s:dr I a A)(hn:cU I bT ⟨o,0,none⟩)(v0:TV I b f a o)(X:PV I f i)(u:dM I i H)(Y:H≠[])(i:H.Nodup)(B:H.length<=50000)(W:TV I d g a o)(L:PV I g ni)(fm:cz I e [] bA (some E))(r:E.length<=100000)(hk:ec (λ a=>El.val a∈E) H≠[])(hR:∀a0 w J G V U,aD I h V U->TV V a0 f a o->TV V w J a o->PV V J G->dM V G (ec (λ a=>El.val a∈E) H)->R (.tuple #[a0,w,ni]) U):Cf h 222 #[aB m,b,d,aU bV,e] R:=by
 have d:aG f=true:=by obtain⟨K,C,rfl,-⟩:=X;rfl
 have b:aG g=true:=by obtain⟨K,C,rfl,-⟩:=L;rfl
 have F:aG a=true:=by obtain⟨K,C,n,rfl,-⟩:=s;rfl
 have m:=List.length_pos_iff.2 Y;apply To;try simp(disch:=omega)only[go_sem,↓reduceIte,aA (Z _ _ O),dH qj]
 refine jA Z k0 v0 d λ q1 V y a1 K=>?_;have Q:=a1.sat;have S:=a1.le;try simp(disch:=omega)only[go_sem,↓reduceIte,aA (Q _ _ (S _ _ O)),dH qj]
 refine jA Q (k0.mono S) (W.mono S) b λ y k N P q0=>?_;have W:=P.sat;have n:=S.trans P.le;refine gq (K.mono P.le) λ x A Q J=>?_;refine gq q0 λ x z A b=>rC (W _ _ J).c Q ?_;refine jH W (s.mono n) (hn.mono n) (X.mono n) (u.mono n) Y i B λ e k N R r fM T=>?_;have i:=r.sat;have W:=n.trans r.le;refine rC (i _ _ (r.le _ _ b)).c A ?_;refine qk i (s.mono W) (hn.mono W) (L.mono W) λ O R t q v=>?_;have n:=W.trans q.le;refine rA ?_;refine⟨λ b D w=>b=a/\∃B Z,D=aB B/\aD R t Z w/\Z B=aE #[aB o,nilp,nilp,nilp,nilp,bf] 95,?_,yr q.sat (((K.mono P.le).mono r.le).mono q.le) d F λ B Z U G j=>⟨rfl,B,Z,rfl,G,j⟩⟩;rintro b D w⟨rfl,B,Z,N,D,x⟩;have S5:=D.sat;have U:=n.trans D.le;have F:=D.le _ _ (q.le _ _ (r.le _ _ J));refine rE (S5 _ _ F).c (S5 _ _ x).c Q N ?_;refine jQ S5 ((fM.mono q.le).mono D.le) (s.mono U) (hn.mono U) (by have:=T.n;simp only[Option.getD_some];exact zaa) λ y e G M f=>?_;have e:=U.trans M.le;refine rE (M.sat _ _ (M.le _ _ F)).c (M.sat _ _ (M.le _ _ x)).c Q N ?_;refine jQ M.sat ((v.mono D.le).mono M.le) (s.mono e) (hn.mono e) zab λ J y B z b=>?_;have Z:=e.trans z.le;have S:=M.trans z;refine rE (z.sat _ _ (S.le _ _ F)).c (z.sat _ _ (S.le _ _ x)).c Q N ?_;refine jQ z.sat (fm.mono Z) (s.mono Z) (hn.mono Z) (by simp only[Option.getD_some];exact zaa) λ g I L Y x=>?_;have V:=S.trans Y;refine rD (Y.sat _ _ (V.le _ _ F)).c Q N ?_;refine kD Y.sat (b.mono Y.le) x (by simp[mE]) (by simp[eR];exact zaa) λ y R G y v=>?_;have n:=V.trans y;refine rD (y.sat _ _ (n.le _ _ F)).c Q N ?_;have d:=((f.mono z.le).mono Y.le).mono y.le;refine lH y.sat d v (by simp[mE,cl]) (by have:=T.n;simp[eR,oa];exact zaa) λ L v f v B=>?_;have z:=n.trans v;have j:=U.trans z.le;refine rD (v.sat _ _ (z.le _ _ F)).c Q N ?_;have M:cu (mE (some k)) (cl (mE none) (mE (some E)))=[]:=by show cu [.fld bA] (cl [] [.fld bA])=[];rw[cl];exact wi
 rw[M]at B;refine is v.sat (s.mono j) (hn.mono j) (X.mono j) (u.mono j) m zaa B λ a0 e Q v w L d m O=>?_;have j:dq k:=by obtain⟨W,C,y,u,-,-,-,-,-,-,-,-,a0,-,-,-,-,s,-⟩:=fM;exact s
 have n:dq E:=by obtain⟨W,C,y,u,-,-,-,-,-,-,-,-,a0,-,-,-,-,s,-⟩:=fm;exact s
 have g:=tE (V:=qm (some k) (oa none (some E))) (w:=λ a=>El.val a∈E) (z:=H) (λ a s=>by show El.val a∈(fC (cu k E)).getD []↔_;rw[oX,g7 _ _ _ j n,T.val];exact⟨λ h=>h.2,λ h=>⟨s,h⟩⟩) hk;rw[g]at O;refine rA ?_;have k:=(((((a1.trans P).trans r).trans q).trans D).trans z).trans L;exact hR q1 a0 e Q v w k (((((((K.mono P.le).mono r.le).mono q.le).mono D.le).mono z.le).mono L.le)) d m O
end Go.Proofs.YtgmgmmoofjikiaaGreat
