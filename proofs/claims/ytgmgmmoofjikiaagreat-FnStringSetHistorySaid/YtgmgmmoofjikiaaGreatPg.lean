/- Proved: FnStringSetHistorySaid, that is: every run of the law FnStringSetHistory, over managers that apply sets of strings, answers true and does not panic. There are no conditions. -/
import Derived.Test.YtgmgmmoofjikiaaGreatPf
import Derived.Test.YtgmgmmoofjikiaaGreatRows
import Derived.WalkKit
import Derived.ProofKit
import Derived.OpenShut
import Derived.Below
import Derived.Carry
import Derived.ChangeSame
import Derived.Deep.Strs
import Derived.JoinedCond
set_option linter.all false
set_option maxHeartbeats 1000000
namespace Go.Proofs.YtgmgmmoofjikiaaGreat
open Go.ChangeShapes Go.WideShapes Go.ChangeAt
abbrev jx(O:Go.Eng.Heap):aK:=λ u=>O[u]?
theorem Gy(O:Go.Eng.Heap):aN (jx O) O:=λ _ _ C=>C
theorem kr{B:Addr}(O:B=⟨B.block,B.off,none⟩)(M:Nat):(B.add M).block=B.block/\(B.add M).off=B.off+M:=by
 have:B.add M=⟨B.block,B.off+M,none⟩:=by rw[O];exact fB _ _ _
 rw[this];exact⟨rfl,rfl⟩
theorem kc{n:World}{B:Addr}{S:Value}(k:n.cell? B=some S):B.spot=none/\bP (jx n.heap) B.block B.off=some S:=by
 unfold World.cell? at k;unfold bP jx;split at k
 ·rename_i t C c i;split at k
  ·cases k
  ·rename_i s;rw[i];exact⟨by cases Y:B.spot with|none=>rfl|some X=>rw[Y]at s;exact absurd rfl s,k⟩
 ·cases k
theorem Fy:P.cellsOf 9=1:=by kernel_rfl
theorem Fl:P.cellsOf 32=1:=by kernel_rfl
section
variable{H:Type}{enc:TypeId×Value->H}{W:World}{fuel:Nat}
theorem ul{J:Value}{X:DataW H×List MemPlace}(O:DataW.trod enc P W 0 (λ _=>true) true fuel 32 [J]=some X):∃e,kh (jx W.heap) J e:=by
 rcases Go.Deep.open_strs Tryz.underlying32 Tryz.underlying9 Fy O with⟨C,-⟩|⟨B,t,V,x,a,C,-,f,-,s,-,k⟩
 ·cases C;exact⟨[],none,0,rfl,Nat.le_refl _,rfl,by simp,λ O=>absurd O (by simp)⟩
 ·cases C;simp only[if_true]at s;refine⟨(List.range t).map a,some B,V,by rw[List.length_map,List.length_range],by rw[List.length_map,List.length_range];exact f,by simp,λ S O=>?_,λ e=>?_⟩
  ·obtain⟨A,_,rfl⟩:=List.mem_map.1 O;rfl
  ·rw[List.length_map,List.length_range]at e;obtain⟨s,-⟩:=kc (k 0 (by omega)).1;have Y:B=⟨B.block,B.off,none⟩:=by have:(B.add 0).spot=B.spot:=rfl;rw[this]at s;cases B;simp_all
   refine⟨B.block,B.off,congrArg some Y,λ M S O=>?_⟩;rw[List.getElem?_map,List.getElem?_map]at O;have d:M<t:=by
    rcases Nat.lt_or_ge M t with y|y
    ·exact y
    ·rw[List.getElem?_eq_none (bS y)]at O;cases O
   rw[List.getElem?_range d]at O;cases O;have:=(kc (k M (by omega)).1).2;rw[(kr Y M).1,(kr Y M).2]at this;exact this
theorem tU{a:Type}{W:Value->a->Prop}{T:Nat->Value}{L:Nat->a}:∀{H:cK},(∀M∈H,W (T M) (L M))->eB W (H.map T) (H.map L)|[],_=>.nil|M::H,O=>.cons (O M (by simp)) (tU λ D K=>O D (c6 K))
theorem BS{J:Value}{X:DataW H×List MemPlace}(O:DataW.trod enc P W 0 (λ _=>true) true fuel 62 [J]=some X):∃S,sq (jx W.heap) J S:=by
 rcases Go.Deep.open_slice1 Tryz.underlying62 Fl O with⟨C,-⟩|⟨B,t,V,x,v,T,g,a,C,-,f,-,n,-,k⟩
 ·cases C;exact⟨[],[],⟨none,0,rfl,Nat.le_refl _,rfl,by simp,λ O=>absurd O (by simp)⟩,.nil⟩
 ·cases C;simp only[if_true]at n;have h:∀M,∃U,M<t->kh (jx W.heap) (T M) U:=λ M=>by
   by_cases d:M<t
   ·obtain⟨U,f⟩:=ul (k M (by omega)).2;exact⟨U,λ _=>f⟩
   ·exact⟨[],λ O=>absurd O d⟩
  let L:=λ M=>Classical.choose (h M);have u:∀M,M<t->kh (jx W.heap) (T M) (L M):=λ M d=>Classical.choose_spec (h M) d;have m:((List.range t).map L).length=t:=by rw[List.length_map,List.length_range]
  refine⟨(List.range t).map L,(List.range t).map T,?_,tU λ M d=>u M (List.mem_range.1 d)⟩;rw[m];refine⟨some B,V,rfl,f,by rw[List.length_map,List.length_range],λ S O=>?_,λ e=>?_⟩
  ·obtain⟨M,d,rfl⟩:=List.mem_map.1 O;exact(u M (List.mem_range.1 d)).one
  ·obtain⟨s,-⟩:=kc (k 0 (by omega)).1;have Y:B=⟨B.block,B.off,none⟩:=by have:(B.add 0).spot=B.spot:=rfl;rw[this]at s;cases B;simp_all
   refine⟨B.block,B.off,congrArg some Y,λ M S O=>?_⟩;rw[List.getElem?_map]at O;have d:M<t:=by
    rcases Nat.lt_or_ge M t with y|y
    ·exact y
    ·rw[List.getElem?_eq_none (bS y)]at O;cases O
   rw[List.getElem?_range d]at O;cases O;have:=(kc (k M (by omega)).1).2;rw[(kr Y M).1,(kr Y M).2]at this;exact this
end
structure p6(W W':World):Prop where
 sm:Go.Eng.Sm W W'
 size:W.heap.size<=W'.heap.size
 block:∀k,k<W.heap.size->W'.heap[k]?=W.heap[k]?
theorem p6.frame{n E:World}(O:p6 n E)(m:MemPlace->Prop):n.keptBut E m:=by refine⟨O.sm.os,O.sm.out,λ M d=>?_⟩;rw[O.block M d];split<;>simp_all
theorem p6.same{n E:World}(O:p6 n E){K:MemPlace}(e:K.block<n.heap.size):n.sameAt E K:=by cases K with|cell u s=>exact World.cell?_of_block (w:=n) (O.block u e)|map u=>exact O.block u e
theorem p6.frozen{n E:World}(O:p6 n E){K:Addr}(e:K.block<n.heap.size):E.frozen? K=n.frozen? K:=World.frozen?_of_block (w:=n) (O.block K.block e)
theorem y4(n:World){a b:Value}{u:bn}{S:List bn}(D:kh (jx n.heap) a u)(s:sq (jx n.heap) b S):Calls P 5 #[a,b] n λ C E=>C=.returned bt/\p6 n E:=by refine(F7 (Gy n.heap) D s (R:=λ J U=>J=bt/\n.heap.size<=U.size/\∀r,r<n.heap.size->U[r]?=n.heap[r]?) (λ V U G=>⟨rfl,G.size,λ r Y=>G.same r Y id⟩) n rfl).mono ?_;rintro C E⟨J,rfl,⟨rfl,y,N⟩,k⟩;exact⟨rfl,k,y,N⟩
end Go.Proofs.YtgmgmmoofjikiaaGreat
namespace Go.Proofs.YtgmgmmoofjikiaaGreat
open Go.RowKit Go.ChangeShapes Go.WideShapes Go.ChangeAt
section
variable{H:Type}{enc:TypeId×Value->H}{P:Program}
theorem u6{c:Func}{A:ChangeSpec}{g q s wK:Bool}{n E:World}{a:cQ}{J:Value}{L T:List (DataW H)}{m f i:List MemPlace}(r:DataW.Whole enc P c.params.toList A.vars g n a.toList L T m)(S:∀(u:Nat)(d:Nat->Bool)(G:Bool),DataW.TrodAll enc P E u d G c.resultTypes.toList (J.resultList c.resultTypes.size) (A.fn H (L++T)).results [])(l:∀d:Nat->Bool,(∀w∈m,d w.block=true)->DataW.TrodAll enc P E 0 d true c.params.toList a.toList (A.fn H (L++T)).args f)(p:∀d:Nat->Bool,(∀w∈m,d w.block=true)->DataW.TrodVars enc P E d A.vars (A.fn H (L++T)).vars i)(O:m=f++i)(j:p6 n E)(h:∀(D:Nat)(G:TypeId)(W:Value),c.resultTypes[D]?=some G->(J.resultList c.resultTypes.size)[D]?=some W->Value.okWide P E .any 0 G W):A.post enc P c g q s wK n a J E:=by
 have o:∀w∈m,w.block<n.heap.size:=λ w e=>r.lt w e;have C:∀w∈m,(λ u=>decide (u<n.heap.size)) w.block=true:=λ w e=>bS (o w e);refine⟨L,T,m,[],f,i,r,S _ _ _,l _ C,p _ C,World.keptBut_mono (λ w e=>⟨e,?_⟩) (j.frame (·∈m)),λ _=>?_⟩
 ·rw[O,List.mem_append]at e;exact Or.inr e
 ·obtain⟨_,_,_,_,_,k,D⟩:=r;refine⟨h,_,_,([]++f)++i,⟨[]++f,i,trodAll_append (l _ (λ _ _=>rfl)) (S _ _ _),p _ (λ _ _=>rfl),rfl,?_,?_⟩,?_⟩
  ·intro u b e;have K:MemPlace.cell u b∈m:=by rw[O];simpa using e
   rw[j.frozen (o _ K)];exact k u b K
  ·intro Y;have:=D Y;rw[O]at this;simpa using this
  ·intro w e _;rw[O];simpa using e
end
theorem Uv:ownKnob Tryz.prog.godebug=none:=by kernel_rfl
theorem kxB{a b:Bool}(h:a=true)(k:b=true):(a&&b)=true:=by rw[h,k];rfl
theorem kxC:((List.range Tryz.prog.types.size).take 330).all (rowFine Tryz.prog)=true:=by kernel_rfl
theorem kxD:((List.range Tryz.prog.types.size).drop 330).all (rowFine Tryz.prog)=true:=by kernel_rfl
theorem kxE:(Tryz.prog.globals.all fun g=>decide (g.type<Tryz.prog.types.size))=true:=by kernel_rfl
theorem kxG:(Tryz.prog.funcs.all fun f=>f.params.all fun t=>decide (t<Tryz.prog.types.size))=true:=by kernel_rfl
theorem Lc:laidOutB Tryz.prog=true:=by unfold laidOutB;exact kxB (kxB (by rw[<-List.take_append_drop 330 (List.range _),List.all_append];exact kxB kxC kxD) kxE) kxG
theorem A9{W:Type}{e:TypeId×Value->W}{n E:World}{G:TypeId}{J:Value}{f:DataW W}{D:List MemPlace}{d:Nat->Bool}(w:Tryz.prog.readableRec G=true)(C:G<Tryz.prog.types.size)(O:DataW.Trod e Tryz.prog n 0 (λ _=>true) true G J f D)(j:p6 n E)(o:∀X∈D,X.block<n.heap.size)(Y:∀X∈D,d X.block=true):DataW.Trod e Tryz.prog E 0 d true G J f D:=WideElems.Trod_stays Lc w C O (λ X i=>j.same (o X i)) Y
set_option maxRecDepth 100000 in theorem z7(W:Type)(e:TypeId×Value->W)(n:World)(X:Nat)(a:cQ)(L T:List (DataW W))(m:List MemPlace)(h:∀(D:Nat)G J,Tryz.f5.params[D]?=some G->a[D]?=some J->Value.okWide Tryz.prog n .any X G J)(r:DataW.Whole e Tryz.prog Tryz.f5.params.toList Rows.fnStringSetHistorySpec.vars false n a.toList L T m):Calls Tryz.prog 5 a n λ C E=>∃J,C=.returned J/\Rows.fnStringSetHistorySpec.post e Tryz.prog Tryz.f5 false true false false n a J E:=by have c:=r;obtain⟨w,p,k,I,rfl,G,b⟩:=r;have l:DataW.TrodAll e Tryz.prog n 0 (λ _=>true) true Tryz.f5.params.toList a.toList L w:=k;rw[Tryz.params5]at l h;obtain⟨F,B,t,V,o,g,rfl,rfl,rfl,q,y⟩:=trodAll_two l;obtain⟨rfl,rfl⟩:=trodVars_none I;clear k;simp only[List.append_nil]at c;have H:∀X∈o++g,X.block<n.heap.size:=λ X i=>c.lt X i;obtain⟨V,N,S,j⟩:=okWide_slice Tryz.underlying32 (h 0 32 F rfl rfl);obtain⟨f,W,w,A⟩:=okWide_slice Tryz.underlying62 (h 1 62 B rfl rfl);obtain⟨K,d⟩:=q;obtain⟨M,t⟩:=y;obtain⟨u,D⟩:=ul (J:=F) (by rw[j]at d⊢;exact d);obtain⟨S,s⟩:=BS (J:=B) (by rw[A]at t⊢;exact t);refine(y4 n D s).mono λ C E⟨x,z⟩=>?_;subst x;refine⟨_,rfl,u6 (f:=o++g) (i:=[]) c (λ _ _ _=>trodAll_mk1 (shut_bool Tryz.underlying4 _)) (λ Y Y=>trodAll_mk2 (A9 (by kernel_rfl) (of_decide_eq_true (by kernel_rfl)) ⟨K,d⟩ z (λ X i=>H X (List.mem_append_left _ i)) λ X i=>Y X (List.mem_append_left _ i)) (A9 (by kernel_rfl) (of_decide_eq_true (by kernel_rfl)) ⟨M,t⟩ z (λ X i=>H X (List.mem_append_right _ i)) λ X i=>Y X (List.mem_append_right _ i))) (λ _ _=>rfl) (by simp) z (ok_one (by kernel_rfl) rfl (okWide_bool_mk Tryz.underlying4 _))⟩
set_option maxRecDepth 100000 in theorem Fq(F:Os)(s:F.Started)(W:Type)(e:TypeId×Value->W):ReturnsInHanded {} Tryz.checked F 5 .any (Rows.fnStringSetHistorySpec.pre6 e Tryz.prog Tryz.f5 Rows.fnStringSetHistoryRow.domain false) (Rows.fnStringSetHistorySpec.post e Tryz.prog Tryz.f5 false true false false):=by refine returnsInHanded_of_change (C:=Tryz.checked) Uv s (by kernel_rfl) Tryz.func5 (ChangeSpec.witness6 (enc:=e) (C:=Tryz.checked) false ⟨#[],#[n0,n0],[]⟩ 8 (by kernel_rfl) (by kernel_rfl) (by kernel_rfl) (by kernel_rfl)) ?_;intro n L a R T m h r _ _;exact z7 W e n L a R T m h r
theorem kxF:Tryz.pinned.checked.prog.funcNamed Rows.fnStringSetHistoryRow.func=some 5:=by kernel_rfl
theorem kx1:laidOutB Tryz.pinned.checked.prog=true:=Lc
theorem kx2:mapsRowed Tryz.pinned.checked.prog=true:=by kernel_rfl
theorem kx9:(Rows.fnStringSetHistoryRow.inPlace==Tryz.pinned.checked.prog.inPlace 5)=true:=by kernel_rfl
theorem ky0:(Rows.fnStringSetHistoryRow.unfollowed==Tryz.pinned.checked.prog.unfollowed 5)=true:=by kernel_rfl
theorem ky1:(Rows.fnStringSetHistoryRow.recurses==Tryz.pinned.checked.prog.recurses 5)=true:=by kernel_rfl
theorem ky2:(Rows.fnStringSetHistoryRow.named==Tryz.pinned.checked.prog.varsNamed 5)=true:=by kernel_rfl
theorem kz2:(Rows.fnStringSetHistoryRow.plainKeys==Tryz.pinned.checked.prog.plainKeys)=true:=by kernel_rfl
theorem kz4:Tryz.pinned.checked.prog.stopsHeard=true:=by kernel_rfl
theorem kz5:Tryz.pinned.checked.prog.mayEnter=true:=by kernel_rfl
theorem kz6:(Rows.fnStringSetHistoryRow.lifted==Tryz.pinned.checked.prog.liftsFinal)=true:=by kernel_rfl
theorem kz7:(Tryz.pinned.checked.prog.make==some Rows.fnStringSetHistoryRow.make)=true:=by kernel_rfl
theorem kxA:joinedFacts Tryz.pinned.checked.prog 5 Tryz.f5 Rows.fnStringSetHistorySpec Rows.fnStringSetHistoryRow=true:=by unfold joinedFacts;exact kxB (kxB (kxB (kxB (kxB (kxB (kxB (kxB (kxB (kxB (kxB (kxB (kxB (kxB (kxB (kxB (kxB (kxB (kxB (kxB (kxB (kxB (kxB (kxB (kxB (kxB (kxB (kxB (kxB (kxB (kxB (by kernel_rfl) kx1) kx2) (by kernel_rfl)) (by kernel_rfl)) (by kernel_rfl)) (by kernel_rfl)) (by kernel_rfl)) (by kernel_rfl)) kx9) ky0) ky1) ky2) (by kernel_rfl)) (by kernel_rfl)) (by kernel_rfl)) (by kernel_rfl)) (by kernel_rfl)) (by kernel_rfl)) (by kernel_rfl)) (by kernel_rfl)) (by kernel_rfl)) kz2) (by kernel_rfl)) kz4) kz5) kz6) kz7) (by kernel_rfl)) (by kernel_rfl)) (by kernel_rfl)) (by kernel_rfl)
theorem fnStringSetHistory_holds:Rows.FnStringSetHistorySaid:=OpenClaim.holds_of_wide 5 Tryz.f5 rfl rfl rfl rfl rfl rfl rfl ⟨rfl,rfl,rfl,rfl,rfl⟩ rfl rfl rfl rfl rfl kxF Tryz.func5 kxA (of_decide_eq_true (by kernel_rfl)) (by unfold Func.isWrapper;first|(rw[if_pos (by decide+kernel)];kernel_rfl)|(rw[if_neg (by decide+kernel)];exact⟨rfl,rfl⟩)) (λ F s W e _=>Fq F s W e)
#print axioms fnStringSetHistory_holds
end Go.Proofs.YtgmgmmoofjikiaaGreat
