/- the reach map, flattened -/
import Derived.Test.YtjenhelmpcajfaaGreatDoorA32
set_option linter.all false
set_option maxRecDepth 20000
set_option maxHeartbeats 16000000
namespace Go.Proofs.YtjenhelmpcajfaaGreatDoor
open Go.Proofs.Tryz Go.RowKit
theorem z233 (w:World):(zeroValue 233).run Tryz.prog w= .ok (.agg #[.slice none 0 0, .slice none 0 0]) w:=by kernel_rfl
theorem f109 {F:Nat->Prop} {root:aa} {ig:List aa} {pks:List Pk} (wb:Nat) (WM:List (aa × nD)) (w:World) (hM:ah nD.val w wb WM) (hP:FY root ig pks w WM) (Yf:WM.length<=1000000) (hx:∀q∈pks,q.imps.length+q.tests.length<=1000) (hpl:pks.length<=100) (hF:∀b,F b->b<w.heap.size):
 Calls Tryz.prog 109 #[.map (some wb), .bool false] w fun e w'=>∃rm em L,e= .returned (.tuple #[.map (some rm), .map (some em)])/\w.heap.size<=rm/\Below w.heap.size w w'/\ah qp w' rm L/\(∀t ie,ai L t=some ie->(∃q,fL ig pks t q)/\(∃A n c,ie.1= .slice A n c)/\∃S,bK F w' ie.2 S/\(∀x∈S,x∈bT pks)/\(bg root ig pks->∀x,x∈S↔iR root ig pks t x))/\∀t q,fL ig pks t q->∃ie,ai L t=some ie:=by
 have h1:=RQ;have h2:=RR;have h3:=RS;have h4:=Nb;have HM:=Y0 hM;have HP:=Y0 hP;have HR:=Y0 (show True/\_/\_/\_ from ⟨True.intro,hx,hpl,hF⟩);have RY:Hid ((dE w (jW w.heap.size wb)).heap.size=w.heap.size+14):=Y0 (eH _ _);have Yg:Hid (Below w.heap.size w (dE w (jW w.heap.size wb))):=Y0 (dI _ _);have hMA:Hid (ah nD.val (dE w (jW w.heap.size wb)) wb WM):=Y0 (hM.pure Yg.out);clear hM hP hx hpl hF;go_enter func109,ntmps109;go_wp2_with (go_at_call 137;refine (f137 nD.val wb WM _ hMA.out Yf).mono ?_;rintro e wk ⟨vk,ks,Fk,rfl,yh,pD,GX,tM⟩;obtain ⟨Ak,ck,hvk⟩:=pD.form;generalize Cb:ks.length=nk at hvk;subst hvk;replace pD:Own aD (dE w (jW w.heap.size wb)).heap.size 9 Fk wk (.slice Ak nk ck) ks:=pD;replace tM:Below (dE w (jW w.heap.size wb)).heap.size (dE w (jW w.heap.size wb)) wk:=tM;have HK:=Y4 yh pD tM Cb;obtain ⟨s,hs⟩:∃s,s=pY w.heap.size wb (bg root ig pks):=⟨_,rfl⟩;have HS:=Y0 hs;clear yh pD GX tM Cb;(try rw [show w.heap.size+1+1+1+1+1+1+1+1+1+1+1+1+1=s.c9 by rw [hs];rfl]);(try rw [show w.heap.size+1+1+1+1+1+1+1+1+1+1+1+1=s.c10 by rw [hs];rfl]);(try rw [show w.heap.size+1+1+1+1+1+1+1+1+1+1+1=s.c5 by rw [hs];rfl]);(try rw [show w.heap.size+1+1+1+1+1+1+1+1+1=s.c6 by rw [hs];rfl]);(try rw [show w.heap.size+1+1+1+1+1+1+1+1=s.em by rw [hs];rfl]);(try rw [show w.heap.size+1+1+1+1+1+1+1=s.c8 by rw [hs];rfl]);(try rw [show w.heap.size+1+1+1+1+1+1=s.im by rw [hs];rfl]);(try rw [show w.heap.size+1+1+1+1+1=s.c7 by rw [hs];rfl]);(try rw [show w.heap.size+1+1+1+1=s.xm by rw [hs];rfl]);(try rw [show w.heap.size+1+1+1=s.c2 by rw [hs];rfl]);(try rw [show w.heap.size+1+1=s.cm by rw [hs];rfl]);(try rw [show w.heap.size+1=s.c4 by rw [hs];rfl]);clear hs);have hlo:Hid (s.lo=w.heap.size+14):=Y0 (by rw [HS.out];rfl);have hst:=FZ (K:=fun _=> []) HM.out HP.out;rw [<-HS.out] at hst;have tM:=HK.out.2.2.1;have aR:=Y0 (hst.1.keep (w':=wk) (fun b hb=>tM.block b (by rw [RY.out];have:=hb.1;have:=hlo.out;omega)) tM.size);have hD0:=Y0 (hst.2.1.pure tM);have eJ:=Y0 hst.2.2
 have Yh:Hid (Own aD s.lo 9 Fk wk (.slice Ak nk ck) ks):=Y0 (by
  have h:=HK.out.2.1;rw [RY.out,<-hlo.out] at h;exact h)
 have hWk:Hid (Below w.heap.size w wk):=Y0 (Yg.out.trans (tM.mono Yg.out.size));have Cb:Hid (ks.length=nk):=Y0 HK.out.2.2.2;have PR:Hid (∀t,t∈ks↔t∈af WM):=Y0 HK.out.1.2
 have aaA:nk<=1000000:=by
  have h:=bQ (ej HK.out.1.1) (fun t ht=>(PR.out t).1 ht);rw [Cb.out] at h;simp [af] at h;omega
 have hz:=z5;have hz2:=z232;clear hst tM;go_loopw [41] (fun i wr=>∃(j:Nat) (C2 rL BM:List (aa × Nat)) (E2:List (aa × Value)) (K3:Nat->List (aa × Unit)),i= .int .i64 j/\j<=nk/\Hid (gM s pks wr C2 rL BM E2 K3/\sG root ig pks [] (bw C2) (fx rL K3)/\Fr s 0 (.slice none 0 0) wk wr/\Own aD s.lo 9 Fk wr (.slice Ak nk ck) ks/\∀t∈ks.take j,bw C2 t=2)) (fun i _=>nk - (intOf i).toNat)
 case atStart=>exact ⟨0, [], [], [], [],fun _=> [],rfl,by omega,Y0 ⟨hD0.out,eJ.out,Fr.refl _ _ _ _,Yh.out,by simp⟩⟩
 obtain ⟨j,C2,rL,BM,E2,K3,rfl,hj,hd⟩:=hrel;have qo:=Y0 (aR.out.fr hd.out.2.2.1);by_cases lR:j<nk
 · have lK:(j:Int)<(nk:Int):=by omega
   obtain ⟨d,hdj⟩:∃d,ks[j]?=some d:=⟨_,List.getElem?_eq_getElem (by rw [Cb.out];exact lR)⟩;have hrow:=aW hd.out.2.2.2.1;rw [Cb.out] at hrow;obtain ⟨gk,RM,hA,_,_⟩:=hrow.form (by omega);simp only [Value.slice.injEq,true_and] at hA;obtain ⟨rfl,rfl⟩:=hA;have hcell:wr.cell? ⟨gk,j,none⟩=some (.string d):=eW.at_ (base:=s.lo) (e:=9) (l:=ks) (by unfold eW;rw [Cb.out];exact hrow) hdj
   have htk:Hid (∀t,t∈ks.take (j+1)↔t∈ks.take j\/t=d):=Y0 (fun t=>by
    have h1:j<ks.length:=by rw [Cb.out];exact lR
    have h2:ks[j]=d:=by rw [List.getElem?_eq_getElem h1] at hdj;exact Option.some.inj hdj
    rw [List.take_succ_eq_append_getElem h1,h2,List.mem_append,List.mem_singleton])
   have y2:wr.cell? ⟨s.c2,0,none⟩=some (.map (some s.cm)):=cellAt (j:=0) qo.out.c2 rfl;have x9:wr.cell? ⟨s.c9,0,none⟩=some (.func (.func 135) #[] #[cp s.c2,cp s.c3,cp s.c4,cp s.c5,cp s.c6,cp s.c7,cp s.c8,cp s.c9,cp s.c10]):=cellAt (j:=0) qo.out.c9 rfl
   have Na:bw C2 d=0\/bw C2 d=2:=by
    unfold bw
    cases hg:ai C2 d with
    | none=>exact .inl rfl
    | some c=>
      rcases hd.out.1.cc d c hg with h|h
      · have h1:bw C2 d=1:=by unfold bw;rw [hg,h];rfl
        have h2:=(hd.out.2.1.grey d).1 h1;cases h2
      exact .inr (by simp [h])
   have hlk:(((ai C2 d).map jg).getD (.int .u8 0))= .int .u8 (bw C2 d:Nat):=by
    unfold bw;cases ai C2 d<;>rfl
   clear hdj hrow;rcases Na with h0|h2
   · have hcall:=Y0 (dfe HR.out.2.1 HR.out.2.2.1 (wh ig pks (bw C2)+1) d (.slice none 0 0) [] wr C2 rL BM E2 K3 qo.out hd.out.1 hd.out.2.1 (Own.nil _ _ _ _ _) List.nodup_nil (by simp) (Nat.lt_succ_self _));rw [h0] at hlk;clear h0
     go_wp2_with (first
      | (revert hlk;intro fu;refine bL (o:=⟨some 47,_,_,_,_,_⟩) (f:=jg) rfl _ _ 288 rfl _ _ underlying288 underlying9 (.int .u8 0) hz rfl hd.out.1.cm rfl ?_;rw [fu];clear fu;go_frame)
      | (go_at_call 135;refine hcall.out.mono ?_;rintro e w7 ⟨⟨b,rfl⟩,FX,C4,Ya,Yb,E4,K4,RN,RO⟩;have H7:=Y3 FX RN RO;clear FX RN RO))
     refine ⟨⟨j+1,C4,Ya,Yb,E4,K4,by go_num,by omega,Y0 ⟨H7.out.2.1,H7.out.2.2.dfs,hd.out.2.2.1.trans H7.out.1,H7.out.1.path hd.out.2.2.2.1 (fun e=>by simp [Value.ownBlock] at e),fun t ht=> ?_⟩⟩,by simp [intOf];omega⟩;rcases (htk.out t).1 ht with h|h
     · exact H7.out.2.2.old t (hd.out.2.2.2.2 t h)
     rw [h];exact H7.out.2.2.done (by simp)
   rw [h2] at hlk;have H2:=Y0 h2;clear h2;go_wp2_with (revert hlk;intro fu;refine bL (o:=⟨some 47,_,_,_,_,_⟩) (f:=jg) rfl _ _ 288 rfl _ _ underlying288 underlying9 (.int .u8 0) hz rfl hd.out.1.cm rfl ?_;rw [fu];clear fu;go_frame);refine ⟨⟨j+1,C2,rL,BM,E2,K3,by go_num,by omega,Y0 ⟨hd.out.1,hd.out.2.1,hd.out.2.2.1,hd.out.2.2.2.1,fun t ht=> ?_⟩⟩,by simp [intOf];omega⟩;rcases (htk.out t).1 ht with h|h
   · exact hd.out.2.2.2.2 t h
   rw [h];exact H2.out
 have wF:nk=j:=by omega
 subst wF;have tD:ks.take nk=ks:=List.take_of_length_le (by rw [Cb.out];exact Nat.le_refl _);have Gb:=hd.out.2.2.2.2;rw [tD] at Gb
 have hblk:∀t q,fL ig pks t q->∃b,ai rL t=some b/\(bg root ig pks->∀x,x∈af (K3 b)↔iR root ig pks t x):=fun t q hq=>by
  obtain ⟨me,mi,Dv⟩:=HP.out.2 t q hq;have htk:t∈ks:=(PR.out t).2 (aF.1 (by rw [Dv];rfl));obtain ⟨S,h3,h4⟩:=hd.out.2.1.black t q (Gb t htk) hq;unfold fx at h3
  cases hg:ai rL t with
  | none=>rw [hg] at h3;cases h3
  | some b=>rw [hg] at h3;exact ⟨b,rfl,fun hN x=>by rw [<-h4 hN x,<-Option.some.inj h3]⟩
 have HXa:=Y0 hblk
 have Xv:Hid (∀t b,ai rL t=some b->(∃q,fL ig pks t q)/\(∀x∈af (K3 b),x∈bT pks)/\(bg root ig pks->∀x,x∈af (K3 b)↔iR root ig pks t x)):=Y0 (fun t b hb=>by
  have hX:fx rL K3 t=some (af (K3 b)):=by unfold fx;rw [hb];rfl
  by_cases hg:∃q,fL ig pks t q
  · obtain ⟨q,hq⟩:=hg;obtain ⟨b',h3,h4⟩:=hblk t q hq;rw [hb] at h3;rw [Option.some.inj h3];exact ⟨⟨q,hq⟩,by rw [<-Option.some.inj h3];exact (hd.out.1.ks b (hd.out.1.bx hb)).2.2,h4⟩
  exfalso
  have hbad:∀q,¬fL ig pks t q:=fun q h=>hg ⟨q,h⟩
  cases hc:ai C2 t with
  | none=>
    have h3:=hd.out.2.1.white t (by unfold bw;rw [hc];rfl);rw [hX] at h3
    cases h3
  | some c=>
    rcases hd.out.1.cc t c hc with h|h
    · have h3:=(hd.out.2.1.grey t).1 (by unfold bw;rw [hc,h];rfl);cases h3
    have h3:=hd.out.2.1.bad t (by unfold bw;rw [hc,h];rfl) hbad;rw [hX] at h3;cases h3)
 have G0:Hid (Below w.heap.size w wr):=Y0 (hWk.out.trans ⟨hd.out.2.2.1.env.1,hd.out.2.2.1.env.2.1,hd.out.2.2.1.env.2.2,hd.out.2.2.1.size,fun b hb=>by
  have h0:=hWk.out.size;refine hd.out.2.2.1.stat b ⟨by have:=hlo.out;omega, ?_⟩;rw [HS.out];simp [pY,Sp.maps];omega⟩)
 have KM:=Y0 hd.out.1;obtain ⟨we,RF⟩:∃W,W=wr:=⟨_,rfl⟩;subst RF;have hmk:=RT;have hb1:Below we.heap.size we (we.alloc (.map #[] 0)):=(Below.refl _ _).alloc (Nat.le_refl _) _;have Yi:Hid (ah ek (we.alloc (.map #[] 0)) s.xm rL):=Y0 (KM.out.xm.pure hb1);have Yj:Hid (ah qp (we.alloc (.map #[] 0)) we.heap.size []):=Y0 (ah.made we qp);have y7:(we.alloc (.map #[] 0)).cell? ⟨s.c7,0,none⟩=some (.map (some s.xm)):=ag (cellAt (j:=0) qo.out.c7 rfl) hb1;have dz:=Y0 hb1;clear tD Gb hblk hb1 hd;go_wp2_with (refine bp (o:=⟨some 56,_,_,_,_,_⟩) rfl _ _ rfl _ _ underlying289 rfl Yi.out ?_;intro w1 hI KN KO;have hsz1:(we.alloc (.map #[] 0)).heap.size=we.heap.size+1:=World.size_alloc _ _;obtain ⟨rm,RZ⟩:∃rm,rm=we.heap.size:=⟨_,rfl⟩;obtain ⟨it,hit⟩:∃it,it=(we.alloc (.map #[] 0)).heap.size:=⟨_,rfl⟩;have HI:=Y5 hI KN KO (hit.trans hsz1) RZ;rw [<-hit] at hI ⊢;(try rw [<-RZ]);clear KN KO hit hsz1;have zY:=Y0 hI;clear hI RZ;go_frame)
 have jX:Hid (rm=we.heap.size/\it=we.heap.size+1/\w1.heap.size=we.heap.size+2/\Below we.heap.size we w1):=Y0 (by
  obtain ⟨a1,a2,a3,a4,a5⟩:=HI.out;refine ⟨a5,a4,by rw [a3,World.size_alloc],dz.out.trans (a2.mono (by simp))⟩)
 have hS1:=Y0 (qo.out.keep (w':=w1) (fun b hb=>jX.out.2.2.2.block b (Nat.lt_of_lt_of_le hb.1 qo.out.lo)) jX.out.2.2.2.size);have OU:=Y0 (KM.out.pure jX.out.2.2.2);have Nc:Hid (Below w.heap.size w w1):=Y0 (G0.out.trans (jX.out.2.2.2.mono G0.out.size))
 have Yk:Hid (ah qp w1 rm []):=Y0 (by
  have h:=Yj.out.pure HI.out.2.1;rw [<-jX.out.1] at h;exact h)
 have Rm:Hid (∀b∈rL.map (·.2)++BM.map (·.2),b<rm/\ah bY w1 b (K3 b)/\(K3 b).length<=100000):=Y0 (fun b hb=>by
  obtain ⟨h1,h2,h3⟩:=OU.out.ks b hb;refine ⟨by have:=KM.out.lt hb;have:=jX.out.1;omega,h2, ?_⟩;have h4:=bQ h2.nodup h3;have h5:=iX HR.out.2.1;have h6:=HR.out.2.2.1;simp [af] at h4;omega)
 go_loopw [18] (fun _ wq=>∃(left:List (aa × Nat)) (L:List (aa × (Value × Value))),Hid (nM F s.xm rL K3 w1 rm it left L wq)) (fun _ wq=>gz wq it)
 case atStart=>exact ⟨rL, [],Y0 ⟨zY.out,Yk.out,Env.refl _,Nat.le_refl _,fun _ _ _ _=>rfl,fun t ie h=>(by cases h),fun t _=>rfl,fun t h=> .inl h⟩⟩
 obtain ⟨left,L,hfl⟩:=hrel
 cases left with
 | cons pr eX=>
   have aU:True:=trivial;have Gc:=z233
   go_wp2_with (first
    | (clear aU;refine ay (o:=⟨some 57,_,_,_,_,_⟩) rfl _ rfl rfl hfl.out.iter (by intro h;cases h) ?_;intro t b fc wn hmem hget eI ba hlen hns hg2 hs2 hent;have ya:=Rm.out b (List.mem_append_left _ (List.mem_map.2 ⟨_,hfl.out.iter.sub.subset hmem,rfl⟩));have Ja:Hid (ah bY wn b (K3 b)):=Y0 (by have h1:=jX.out;have h2:=hfl.out.size;exact (ya.2.1.keep (hfl.out.fr b (by omega) (by omega) (by omega))).grown hg2 (by intro e;injection e with e;omega));have hlb:(K3 b).length<=100000:=ya.2.2;have hR:=Y8 hmem hget eI ba hlen hns hg2 hs2;clear hmem hget eI ba hlen hns hg2 hs2 ya;have CY:Hid (ah qp wn rm L):=Y0 (hfl.out.map.grown hR.out.2.2.2.2.2.2.1 (by intro e;injection e with e;have:=jX.out;omega));have pJ:((ai L t).map qp).getD (.agg #[.slice none 0 0, .slice none 0 0])= .agg #[.slice none 0 0, .slice none 0 0]:=(by rw [hfl.out.sep t ((by simp only [af,List.mem_map];exact ⟨_,hR.out.1,rfl⟩))];rfl);have Al:True:=trivial;go_frame)
    | (clear Al;refine ez (o:=⟨some 63,_,_,_,_,_⟩) rfl _ _ rfl _ _ underlying232 rfl Ja.out ?_;generalize uO:(K3 b).length=lb at hlb;have Jj:=Y0 uO;clear uO;have hms:=Ga lb hlb;have kV:True:=trivial;go_frame)
    | (clear kV;refine aM (f:=qp) (b:=(.slice none 0 0, .slice none 0 0)) rfl _ _ _ 159 rfl _ _ underlying159 underlying9 rfl CY.out rfl rfl ?_;intro w8 kU jV ke;have H8:=Y3 kU jV ke;clear kU jV ke;go_frame)
    | (clear kV;refine bp (o:=⟨some 72,_,_,_,_,_⟩) rfl _ _ rfl _ _ underlying232 rfl (Ja.out.alloc _) ?_;intro w5 KP bz hs5;have H5:=Y3 KP bz hs5;clear KP bz hs5;go_frame))
   · have hlz:((lb:Int)==0)=true:=(by assumption);have hl0:lb=0:=by simpa using hlz
     have hst:=hfl.out.step (ie:=(.slice none 0 0, .slice none 0 0)) hR.out.2.2.1 hR.out.2.2.2.1 hR.out.2.2.2.2.2.1 (ey hfl.out.iter.map.nodup (hfl.out.iter.sub.subset hR.out.1)) hR.out.2.2.2.2.2.2.1 (Env.grown H8.out.2.1) (by rw [H8.out.2.2];exact Nat.le_refl _) (fun c hc hne=>H8.out.2.1.block c hc (by intro e;injection e with e;exact hne e)) H8.out.1 (by have h1:=KM.out.xm.lt;have h2:=jX.out;omega) (by have:=jX.out;omega) ⟨[],Rd.nil _ _ _ _ _ (by simp [maxLen]),fun x=>by
      have h1:=Jj.out;rw [hl0] at h1;rw [List.eq_nil_of_length_eq_zero h1];simp [af],_,_,_,rfl⟩
     exact ⟨⟨fc,_,Y0 hst⟩,by rw [aG hst.iter,aG hfl.out.iter];have:=hR.out.2.2.2.2.1;omega⟩
   skip
   have iO:(wn.alloc (Obj.cells (madeCells #[Value.string ⟨#[]⟩] lb) 9)).heap.size=wn.heap.size+1:=World.size_alloc _ _;have hown0:=World.ownsRow_made (base:=wn.heap.size) (e:=9) (size:=1) wn (madeCells #[Value.string ⟨#[]⟩] lb) lb (Nat.le_refl _) (by simp [maxLen];omega) (by rw [size_madeCells,Nat.mul_one]);have hown1:=cG hown0 H5.out.2.1;have rM:Below wn.heap.size wn w5:=((Below.refl _ _).alloc (Nat.le_refl _) _).trans (H5.out.2.1.mono (by rw [iO];omega));rw [iO] at H5
   (try rw [iO])
   obtain ⟨m0,hm0⟩:∃m,m=wn.heap.size:=⟨_,rfl⟩;rw [<-hm0] at H5 hown1 rM ⊢;obtain ⟨jY,lN⟩:∃i,i=m0+1:=⟨_,rfl⟩;rw [<-lN] at H5 ⊢;have KQ:=Y0 hm0;have yi:=Y0 lN;have sJ:Hid ((K3 b).length<=100000):=Y0 (by rw [Jj.out];exact hlb);have hsrc:Hid (b<m0):=Y0 (by rw [hm0];exact Ja.out.lt)
   have CE:Hid (aL bY w5 b jY (K3 b) (K3 b)/\Own aD m0 9 (fun c=>F c\/c=m0) w5 (.slice (some ⟨m0,0,none⟩) 0 lb) []/\(∀c,(F c\/c=m0)->(F c\/m0<=c)/\c≠jY/\c<w5.heap.size)/\Below m0 wn w5/\([]:List aa).length+(K3 b).length=(K3 b).length/\(∀x,(x∈([]:List aa)\/x∈af (K3 b))↔x∈af (K3 b))/\(∀c,F c->(F c\/c=m0))/\jY<w5.heap.size):=Y0 (by
    have h5:=H5.out;refine ⟨h5.1,cV hown1 (fun k hk=> .inr (by simp [Value.ownBlock] at hk;exact hk.symm)),fun c hc=> ?_,rM,by simp,by simp,fun c h=> .inl h,by omega⟩;rcases hc with hc|hc
    · have h1:=HR.out.2.2.2 c hc;have h2:=Nc.out.size;have h4:=hfl.out.size;have h6:=hR.out.2.2.2.2.2.2.2;exact ⟨.inl hc,by omega,by omega⟩
    exact ⟨.inr (by omega),by omega,by omega⟩)
   clear iO hown0 hown1 rM hm0 lN;go_loopw [21] (fun v wq=>∃(acc:List aa) (left:List (aa × Unit)) (Fk:Nat->Prop),Hid (aL bY wq b jY (K3 b) left/\Own aD m0 9 Fk wq v acc/\(∀b,Fk b->(F b\/m0<=b)/\b≠jY/\b<wq.heap.size)/\Below m0 wn wq/\acc.length+left.length=((K3 b)).length/\(∀x,(x∈acc\/x∈af left)↔x∈af (K3 b))/\(∀b,F b->Fk b)/\jY<wq.heap.size)) (fun v _=>((K3 b)).length - kf v)
   case atStart=>exact ⟨[],_,_,Y0 CE.out⟩
   obtain ⟨acc,left,Fk,gG⟩:=hrel;obtain ⟨A0,c0,hv0⟩:=gG.out.2.1.form;generalize yP:acc.length=na at hv0;subst hv0;have R3:jY<wr.heap.size:=gG.out.2.2.2.2.2.2.2;have yj:m0<=wr.heap.size:=by have h1:=yi.out;omega
   cases left with
   | cons pr eX=>
     have hal:na<100001:=by have h1:=gG.out.2.2.2.2.1;have h2:=sJ.out;simp at h1;omega
     have Fv:=Y0 (show ∀b,Fk b->b<wr.heap.size from fun b hb=>(gG.out.2.2.1 b hb).2.2);have rJ:Hid (¬Fk jY):=Y0 (fun h=>(gG.out.2.2.1 _ h).2.1 rfl);have aU:True:=trivial
     go_wp2_with (first
      | (clear aU;refine ay (o:=⟨some 73,_,_,_,_,_⟩) rfl _ rfl rfl gG.out.1 (by intro h;cases h) ?_;intro y2 b2 left' w2 hmem hget eI ba hlen hns hg2 hs2 hent;have bO:=Y6 hmem eI ba hlen hg2 hs2;have hw2:wr.heap.size<=w2.heap.size:=(by omega);clear hmem hget eI ba hlen hns hg2 hs2;have ja:=Y0 (aX (w':=w2.alloc (.cells #[.string y2] 9)) (F':=Fk) gG.out.2.1 (fun k hk=>by have h1:=Fv.out k (bh gG.out.2.1 hk);rw [Below.heap_alloc _ _ k (by omega)];exact bO.out.2.2.2.2.1.block k h1 (by intro e;injection e with e;exact rJ.out (e▸bh gG.out.2.1 hk))) (fun _ h=>h));have gT:=Y0 (Rd.one (d:=aD) (F:=Fk) (w:=w2) (e:=9) (x:=y2) (cs:= #[.string y2]) rfl (by intro b hb;have:=Fv.out b hb;omega));go_frame)
      | (at_builtin;refine aH (o:=⟨some 80,_,_,_,_,_⟩) rfl _ _ 22 rfl aD 9 (.string ⟨#[]⟩) 16 underlying22 rA rfl (by decide) rfl rfl ja.out gT.out (by rw [yP];simp [maxLen];omega) (by rw [yP];simp;omega) (by simp;omega) rfl (na+1) (by rw [List.length_append,yP];rfl) ?_;intro A2 c2 w3 F2 mI iT bb gD;have zX:=Y4 mI iT bb gD;clear mI iT bb gD;go_frame))
     obtain ⟨i1,i2,i3,i4,i5,i6,i7,i8⟩:=gG.out;obtain ⟨j1,j2,j3,j4,j5,j6⟩:=bO.out;obtain ⟨k1,k2,k3,k4⟩:=zX.out
     have hF2:∀b,F2 b->(F b\/m0<=b)/\b≠jY/\b<w3.heap.size:=fun b hb=>by
      have hlt:=k2.lt (fun c hc'=>by have:=(i3 c hc').2.2;simp;omega) b hb;rcases Nat.lt_or_ge b (w2.alloc (.cells #[.string y2] 9)).heap.size with h|h
      · have h1:=i3 b (k2.old b h hb);exact ⟨h1.1,h1.2.1,hlt⟩
      simp at h;exact ⟨.inr (by omega),by omega,hlt⟩
     refine ⟨⟨acc++ [y2],left',F2,Y0 ⟨?_,k1,hF2, ?_, ?_, ?_,fun b h=>k2.grow b (i7 b h),by have:=k3.size;simp at this;omega⟩⟩,by simp [kf] at i5 ⊢;omega⟩
     · refine (j2.pure ((Below.refl _ _).alloc (Nat.le_refl _) (.cells #[.string y2] 9))).grown k4 (fun e=> ?_) (fun e=> ?_)
       · have:=(ak i2 e).2.1;have h9:=hsrc.out;omega
       exact rJ.out (bh i2 e)
     · exact (i4.grown j5 yj (fun k e=>by injection e with e;have h1:=yi.out;omega)).trans (((Below.refl _ _).alloc (by omega) _).trans (k3.mono (by omega)))
     · simp at i5 j4 ⊢;omega
     intro t;rw [<-i6];simp only [List.mem_append,List.mem_singleton,af,List.mem_map];constructor
     · rintro ((h|rfl)|⟨q,hq,rfl⟩)
       · exact .inl h
       · exact .inr ⟨_,j1,rfl⟩
       exact .inr ⟨q,(j3 q).2 (.inr hq),rfl⟩
     rintro (h|⟨q,hq,rfl⟩)
     · exact .inl (.inl h)
     rcases (j3 q).1 hq with rfl|h
     · exact .inl (.inr rfl)
     exact .inr ⟨q,h,rfl⟩
   | nil=>
     have hal:na<=100001:=by have h1:=gG.out.2.2.2.2.1;have h2:=sJ.out;simp at h1;omega
     have aU:True:=trivial;have hb4:=Y0 gG.out.2.2.2.1
     go_wp2_with (first
      | (clear aU;refine ay (o:=⟨some 73,_,_,_,_,_⟩) rfl _ rfl rfl gG.out.1 ?_ (by intro y2 b2 left' w2 hmem;cases hmem);intro _;go_frame)
      | (go_at_call 72;refine (f72 (base:=m0) (F:=Fk) _ acc _ gG.out.2.1 (by omega)).mono ?_;rintro e w6 ⟨rfl,xs,hp,hsrt,rZ,zO⟩;have rF:Below m0 wn w6:=hb4.out.trans (Below.of_grown zO (fun k e=>(ak gG.out.2.1 e).2.1) yj);have bU:=Y0 rF;have CZ:=Y0 (CY.out.below rF (by have h1:=KQ.out;have h2:=CY.out.lt;omega));have H6:=Y2 hp rZ;clear hp hsrt rZ zO rF;have Am:True:=trivial;go_frame)
      | (clear Am;refine bL (o:=⟨some 85,_,_,_,_,_⟩) (f:=qp) rfl _ _ 159 rfl _ _ underlying159 underlying9 (.agg #[.slice none 0 0, .slice none 0 0]) Gc rfl CZ.out rfl ?_;rw [pJ];have Ar:True:=trivial;go_frame)
      | (clear Ar;refine aM (f:=qp) (b:=(.slice none 0 0, .slice A0 na c0)) rfl _ _ _ 159 rfl _ _ underlying159 underlying9 rfl (CZ.out.alloc _) rfl rfl ?_;intro w8 kU jV ke;have H8:=Y3 kU jV ke;clear kU jV ke;go_frame))
     have jd:bK F w6 (.slice A0 na c0) xs:=H6.out.2.rd (fun c hc=>by have h1:=HR.out.2.2.2 c hc;have h2:=Nc.out.size;have h3:=KQ.out;have h4:=hfl.out.size;have h5:=hR.out.2.2.2.2.2.2.2;omega) gG.out.2.2.2.2.2.2.1 (by decide)
     have hst:=hfl.out.step (ie:=(.slice none 0 0, .slice A0 na c0)) hR.out.2.2.1 hR.out.2.2.2.1 hR.out.2.2.2.2.2.1 (ey hfl.out.iter.map.nodup (hfl.out.iter.sub.subset hR.out.1)) hR.out.2.2.2.2.2.2.1 (((Env.below bU.out).alloc _).trans (Env.grown H8.out.2.1)) (by have h1:=bU.out.size;have h2:=H8.out.2.2;simp at h2;omega) (fun c hc hne=>by
      have h1:=bU.out.size;have h3:=KQ.out;rw [H8.out.2.1.block c (by simp;omega) (by intro e;injection e with e;exact hne e),Below.heap_alloc _ _ c (by omega)]
      exact bU.out.block c (by omega)) H8.out.1 (by have h1:=KM.out.xm.lt;have h2:=jX.out;omega) (by have:=jX.out;omega) ⟨xs,tN jd (fun g2 cs ty fz hc=>by
       have hgl:g2<w6.heap.size:=(Array.getElem?_eq_some_iff.1 hc).1
       have h2:g2≠rm:=fun e=>by
        subst e;obtain ⟨es,ia,hr,_⟩:=CZ.out;rw [hc] at hr;cases hr
       rw [H8.out.2.1.block g2 (by simp;omega) (by intro e;injection e with e;exact h2 e),Below.heap_alloc _ _ g2 hgl]),fun x=>by
      rw [H6.out.1.mem_iff];have:=gG.out.2.2.2.2.2.1 x;simpa [af] using this,_,_,_,rfl⟩
     exact ⟨⟨fc,_,Y0 hst⟩,by rw [aG hst.iter,aG hfl.out.iter];have:=hR.out.2.2.2.2.1;omega⟩
 | nil=>
   have aU:True:=trivial
   have Nf:=nE.keep (w':=wr) hS1.out (fun b hb=>by
    have h1:=jX.out;have h2:=qo.out.lo;have h3:=hb.1;exact hfl.out.fr b (by omega) (by omega) (by omega)) hfl.out.size
   have aaB:=hfl.out.size;have y8:wr.cell? ⟨s.c8,0,none⟩=some (.map (some s.im)):=cellAt (j:=0) Nf.c8 rfl
   have him:Hid (ah ek wr s.im BM):=Y0 (OU.out.im.keep (by
    have h1:=jX.out;have h2:=KM.out.im.lt;exact hfl.out.fr s.im (by omega) (by omega) (by omega)))
   have Ng:=Y0 Nf
   have R4:Hid (Below w.heap.size w wr):=Y0 (Nc.out.trans ⟨hfl.out.env.1,hfl.out.env.2.1,hfl.out.env.2.2,hfl.out.size,fun c hc=>by
    have h1:=jX.out;have h2:=G0.out.size;exact hfl.out.fr c (by omega) (by omega) (by omega)⟩)
   clear Nf
   go_wp2_with (first
    | (clear aU;refine ay (o:=⟨some 57,_,_,_,_,_⟩) rfl _ rfl rfl hfl.out.iter ?_ (by intro y2 b2 left' w2 hmem;cases hmem);intro _;have Nh:True:=trivial;go_frame)
    | (clear Nh;refine bp (o:=⟨some 92,_,_,_,_,_⟩) rfl _ _ rfl _ _ underlying289 rfl him.out ?_;intro wA Yl M3 hsA;obtain ⟨KR,Gd⟩:∃i,i=wr.heap.size:=⟨_,rfl⟩;rw [<-Gd] at Yl ⊢;have C0:Hid (KR=wr.heap.size/\wA.heap.size=wr.heap.size+1/\rm<wr.heap.size):=Y0 ⟨Gd,hsA,hfl.out.map.lt⟩;have Ni:=Y2 Yl M3;clear Yl M3 hsA Gd;go_frame))
   have R5:Hid (Below w.heap.size w wA):=Y0 (R4.out.trans (Ni.out.2.mono R4.out.size))
   have Ym:Hid (∀b∈rL.map (·.2)++BM.map (·.2),b<rm/\ah bY wA b (K3 b)/\(K3 b).length<=100000):=Y0 (fun b hb=>by
    obtain ⟨h1,h2,h3⟩:=Rm.out b hb;have h4:=jX.out;exact ⟨h1,(h2.keep (hfl.out.fr b (by omega) (by omega) (by omega))).pure Ni.out.2,h3⟩)
   have Nj:Hid (∀t b,ai BM t=some b->t∈af rL):=Y0 (fun t b hb=>aF.1 (by rw [KM.out.same t,hb];rfl));have hSA:=Y0 (Ng.out.keep (w':=wA) (fun b hb=>Ni.out.2.block b (by have h1:=Ng.out.lo;have h2:=hb.1;omega)) Ni.out.2.size);go_loopw [24] (fun _ wq=>∃(left:List (aa × Nat)) (L:List (aa × (Value × Value))),Hid (nN F s.im rL BM K3 wA rm KR left L wq)) (fun _ wq=>gz wq KR)
   case atStart=>
    refine ⟨BM,L,Y0 ⟨Ni.out.1,hfl.out.map.pure Ni.out.2,Env.refl _,Nat.le_refl _,fun _ _ _ _=>rfl,nM.ent' hfl.out.ent (fun g cs ty fz hc=>Ni.out.2.block g (Array.getElem?_eq_some_iff.1 hc).1),fun t ht=> ?_⟩⟩;rcases hfl.out.all t ht with h|h
    · cases h
    exact h
   obtain ⟨left,L2,hfi⟩:=hrel;have Gc:=z233
   cases left with
   | cons pr eX=>
     have aU:True:=trivial
     go_wp2_with (first
      | (clear aU;refine ay (o:=⟨some 93,_,_,_,_,_⟩) rfl _ rfl rfl hfi.out.iter (by intro h;cases h) ?_;intro t b fc wn hmem hget eI ba hlen hns hg2 hs2 hent;have ya:=Ym.out b (List.mem_append_right _ (List.mem_map.2 ⟨_,hfi.out.iter.sub.subset hmem,rfl⟩));have Ja:Hid (ah bY wn b (K3 b)):=Y0 (by have h1:=C0.out;have h2:=hfi.out.size;exact (ya.2.1.keep (hfi.out.fr b (by omega) (by omega) (by omega))).grown hg2 (by intro e;injection e with e;omega));have hlb:(K3 b).length<=100000:=ya.2.2;have hR:=Y8 hmem hget eI ba hlen hns hg2 hs2;clear hmem hget eI ba hlen hns hg2 hs2 ya;have CY:Hid (ah qp wn rm L2):=Y0 (hfi.out.map.grown hR.out.2.2.2.2.2.2.1 (by intro e;injection e with e;have:=C0.out;omega));have htX:=Nj.out t b hR.out.2.1;obtain ⟨ie,CX⟩:∃ie,ai L2 t=some ie:=Option.isSome_iff_exists.1 (aF.2 (hfi.out.all t htX));obtain ⟨b0,S0,hb0,R6,Yn,Ax,nx,cx,hax⟩:=hfi.out.ent t ie CX;obtain ⟨Ay,cy,Yo⟩:=R6.form;generalize S0.length=ny at Yo;obtain ⟨ie1,ie2⟩:=ie;simp only at hax Yo;subst hax Yo;have hLt:=Y0 CX;have hold:((ai L2 t).map qp).getD (.agg #[.slice none 0 0, .slice none 0 0])= .agg #[.slice Ax nx cx, .slice Ay ny cy]:=(by rw [CX];rfl);clear CX htX hb0 R6 Yn;have Al:True:=trivial;go_frame)
      | (clear Al;refine ez (o:=⟨some 99,_,_,_,_,_⟩) rfl _ _ rfl _ _ underlying232 rfl Ja.out ?_;generalize uO:(K3 b).length=lb at hlb;have Jj:=Y0 uO;clear uO;have hms:=Ga lb hlb;have kV:True:=trivial;go_frame)
      | (clear kV;refine bp (o:=⟨some 105,_,_,_,_,_⟩) rfl _ _ rfl _ _ underlying232 rfl (Ja.out.alloc _) ?_;intro w5 KP bz hs5;have H5:=Y3 KP bz hs5;clear KP bz hs5;go_frame))
     · have hst:=hfi.out.skip hR.out.2.2.1 hR.out.2.2.2.2.2.2.1 (by have:=C0.out;omega);exact ⟨⟨fc,_,Y0 hst⟩,by rw [aG hst.iter,aG hfi.out.iter];have:=hR.out.2.2.2.2.1;omega⟩
     skip
     have iO:(wn.alloc (Obj.cells (madeCells #[Value.string ⟨#[]⟩] lb) 9)).heap.size=wn.heap.size+1:=World.size_alloc _ _;have hown0:=World.ownsRow_made (base:=wn.heap.size) (e:=9) (size:=1) wn (madeCells #[Value.string ⟨#[]⟩] lb) lb (Nat.le_refl _) (by simp [maxLen];omega) (by rw [size_madeCells,Nat.mul_one]);have hown1:=cG hown0 H5.out.2.1;have rM:Below wn.heap.size wn w5:=((Below.refl _ _).alloc (Nat.le_refl _) _).trans (H5.out.2.1.mono (by rw [iO];omega));rw [iO] at H5
     (try rw [iO])
     obtain ⟨m0,hm0⟩:∃m,m=wn.heap.size:=⟨_,rfl⟩;rw [<-hm0] at H5 hown1 rM ⊢;obtain ⟨jY,lN⟩:∃i,i=m0+1:=⟨_,rfl⟩;rw [<-lN] at H5 ⊢;have KQ:=Y0 hm0;have yi:=Y0 lN;have sJ:Hid ((K3 b).length<=100000):=Y0 (by rw [Jj.out];exact hlb);have hsrc:Hid (b<m0):=Y0 (by rw [hm0];exact Ja.out.lt)
     have CE:Hid (aL bY w5 b jY (K3 b) (K3 b)/\Own aD m0 9 (fun c=>F c\/c=m0) w5 (.slice (some ⟨m0,0,none⟩) 0 lb) []/\(∀c,(F c\/c=m0)->(F c\/m0<=c)/\c≠jY/\c<w5.heap.size)/\Below m0 wn w5/\([]:List aa).length+(K3 b).length=(K3 b).length/\(∀x,(x∈([]:List aa)\/x∈af (K3 b))↔x∈af (K3 b))/\(∀c,F c->(F c\/c=m0))/\jY<w5.heap.size):=Y0 (by
      have h5:=H5.out;refine ⟨h5.1,cV hown1 (fun k hk=> .inr (by simp [Value.ownBlock] at hk;exact hk.symm)),fun c hc=> ?_,rM,by simp,by simp,fun c h=> .inl h,by omega⟩;rcases hc with hc|hc
      · have h1:=HR.out.2.2.2 c hc;have h2:=R5.out.size;have h4:=hfi.out.size;have h6:=hR.out.2.2.2.2.2.2.2;exact ⟨.inl hc,by omega,by omega⟩
      exact ⟨.inr (by omega),by omega,by omega⟩)
     clear iO hown0 hown1 rM hm0 lN;go_loopw [27] (fun v wq=>∃(acc:List aa) (left:List (aa × Unit)) (Fk:Nat->Prop),Hid (aL bY wq b jY (K3 b) left/\Own aD m0 9 Fk wq v acc/\(∀b,Fk b->(F b\/m0<=b)/\b≠jY/\b<wq.heap.size)/\Below m0 wn wq/\acc.length+left.length=((K3 b)).length/\(∀x,(x∈acc\/x∈af left)↔x∈af (K3 b))/\(∀b,F b->Fk b)/\jY<wq.heap.size)) (fun v _=>((K3 b)).length - kf v)
     case atStart=>exact ⟨[],_,_,Y0 CE.out⟩
     obtain ⟨acc,left,Fk,gG⟩:=hrel;obtain ⟨A0,c0,hv0⟩:=gG.out.2.1.form;generalize yP:acc.length=na at hv0;subst hv0;have R3:jY<wr.heap.size:=gG.out.2.2.2.2.2.2.2;have yj:m0<=wr.heap.size:=by have h1:=yi.out;omega
     cases left with
     | cons pr eX=>
       have hal:na<100001:=by have h1:=gG.out.2.2.2.2.1;have h2:=sJ.out;simp at h1;omega
       have Fv:=Y0 (show ∀b,Fk b->b<wr.heap.size from fun b hb=>(gG.out.2.2.1 b hb).2.2);have rJ:Hid (¬Fk jY):=Y0 (fun h=>(gG.out.2.2.1 _ h).2.1 rfl);have aU:True:=trivial
       go_wp2_with (first
        | (clear aU;refine ay (o:=⟨some 106,_,_,_,_,_⟩) rfl _ rfl rfl gG.out.1 (by intro h;cases h) ?_;intro y2 b2 left' w2 hmem hget eI ba hlen hns hg2 hs2 hent;have bO:=Y6 hmem eI ba hlen hg2 hs2;have hw2:wr.heap.size<=w2.heap.size:=(by omega);clear hmem hget eI ba hlen hns hg2 hs2;have ja:=Y0 (aX (w':=w2.alloc (.cells #[.string y2] 9)) (F':=Fk) gG.out.2.1 (fun k hk=>by have h1:=Fv.out k (bh gG.out.2.1 hk);rw [Below.heap_alloc _ _ k (by omega)];exact bO.out.2.2.2.2.1.block k h1 (by intro e;injection e with e;exact rJ.out (e▸bh gG.out.2.1 hk))) (fun _ h=>h));have gT:=Y0 (Rd.one (d:=aD) (F:=Fk) (w:=w2) (e:=9) (x:=y2) (cs:= #[.string y2]) rfl (by intro b hb;have:=Fv.out b hb;omega));go_frame)
        | (at_builtin;refine aH (o:=⟨some 113,_,_,_,_,_⟩) rfl _ _ 22 rfl aD 9 (.string ⟨#[]⟩) 16 underlying22 rA rfl (by decide) rfl rfl ja.out gT.out (by rw [yP];simp [maxLen];omega) (by rw [yP];simp;omega) (by simp;omega) rfl (na+1) (by rw [List.length_append,yP];rfl) ?_;intro A2 c2 w3 F2 mI iT bb gD;have zX:=Y4 mI iT bb gD;clear mI iT bb gD;go_frame))
       obtain ⟨i1,i2,i3,i4,i5,i6,i7,i8⟩:=gG.out;obtain ⟨j1,j2,j3,j4,j5,j6⟩:=bO.out;obtain ⟨k1,k2,k3,k4⟩:=zX.out
       have hF2:∀b,F2 b->(F b\/m0<=b)/\b≠jY/\b<w3.heap.size:=fun b hb=>by
        have hlt:=k2.lt (fun c hc'=>by have:=(i3 c hc').2.2;simp;omega) b hb;rcases Nat.lt_or_ge b (w2.alloc (.cells #[.string y2] 9)).heap.size with h|h
        · have h1:=i3 b (k2.old b h hb);exact ⟨h1.1,h1.2.1,hlt⟩
        simp at h;exact ⟨.inr (by omega),by omega,hlt⟩
       refine ⟨⟨acc++ [y2],left',F2,Y0 ⟨?_,k1,hF2, ?_, ?_, ?_,fun b h=>k2.grow b (i7 b h),by have:=k3.size;simp at this;omega⟩⟩,by simp [kf] at i5 ⊢;omega⟩
       · refine (j2.pure ((Below.refl _ _).alloc (Nat.le_refl _) (.cells #[.string y2] 9))).grown k4 (fun e=> ?_) (fun e=> ?_)
         · have:=(ak i2 e).2.1;have h9:=hsrc.out;omega
         exact rJ.out (bh i2 e)
       · exact (i4.grown j5 yj (fun k e=>by injection e with e;have h1:=yi.out;omega)).trans (((Below.refl _ _).alloc (by omega) _).trans (k3.mono (by omega)))
       · simp at i5 j4 ⊢;omega
       intro t;rw [<-i6];simp only [List.mem_append,List.mem_singleton,af,List.mem_map];constructor
       · rintro ((h|rfl)|⟨q,hq,rfl⟩)
         · exact .inl h
         · exact .inr ⟨_,j1,rfl⟩
         exact .inr ⟨q,(j3 q).2 (.inr hq),rfl⟩
       rintro (h|⟨q,hq,rfl⟩)
       · exact .inl (.inl h)
       rcases (j3 q).1 hq with rfl|h
       · exact .inl (.inr rfl)
       exact .inr ⟨q,h,rfl⟩
     | nil=>
       have hal:na<=100001:=by have h1:=gG.out.2.2.2.2.1;have h2:=sJ.out;simp at h1;omega
       have aU:True:=trivial;have hb4:=Y0 gG.out.2.2.2.1
       go_wp2_with (first
        | (clear aU;refine ay (o:=⟨some 106,_,_,_,_,_⟩) rfl _ rfl rfl gG.out.1 ?_ (by intro y2 b2 left' w2 hmem;cases hmem);intro _;go_frame)
        | (go_at_call 72;refine (f72 (base:=m0) (F:=Fk) _ acc _ gG.out.2.1 (by omega)).mono ?_;rintro e w6 ⟨rfl,xs,hp,hsrt,rZ,zO⟩;have rF:Below m0 wn w6:=hb4.out.trans (Below.of_grown zO (fun k e=>(ak gG.out.2.1 e).2.1) yj);have bU:=Y0 rF;have CZ:=Y0 (CY.out.below rF (by have h1:=KQ.out;have h2:=CY.out.lt;omega));clear hp hsrt rZ zO rF;have Am:True:=trivial;go_frame)
        | (clear Am;refine bL (o:=⟨some 118,_,_,_,_,_⟩) (f:=qp) rfl _ _ 159 rfl _ _ underlying159 underlying9 (.agg #[.slice none 0 0, .slice none 0 0]) Gc rfl CZ.out rfl ?_;rw [hold];have Ar:True:=trivial;go_frame)
        | (clear Ar;refine aM (f:=qp) (b:=(.slice A0 na c0, .slice Ay ny cy)) rfl _ _ _ 159 rfl _ _ underlying159 underlying9 rfl (CZ.out.alloc _) rfl rfl ?_;intro w8 kU jV ke;have H8:=Y3 kU jV ke;clear kU jV ke;go_frame))
       have hst:=hfi.out.step (ie:=(.slice Ax nx cx, .slice Ay ny cy)) (v:= .slice A0 na c0) hR.out.2.2.1 hLt.out hR.out.2.2.2.2.2.2.1 (((Env.below bU.out).alloc _).trans (Env.grown H8.out.2.1)) (by have h1:=bU.out.size;have h2:=H8.out.2.2;simp at h2;omega) (fun c hc hne=>by
        have h1:=bU.out.size;have h3:=KQ.out;rw [H8.out.2.1.block c (by simp;omega) (by intro e;injection e with e;exact hne e),Below.heap_alloc _ _ c (by omega)];exact bU.out.block c (by omega)) H8.out.1 (by have h1:=KM.out.im.lt;have h2:=jX.out;omega) (by have:=C0.out;have:=jX.out;omega) ⟨_,_,_,rfl⟩
       exact ⟨⟨fc,_,Y0 hst⟩,by rw [aG hst.iter,aG hfi.out.iter];have:=hR.out.2.2.2.2.1;omega⟩
   | nil=>
     have aU:True:=trivial
     have ki:=nE.keep (w':=wr) hSA.out (fun c hc=>by
      have h1:=C0.out;have h2:=Ng.out.lo;have h3:=hc.1;have h4:=jX.out;have h5:=qo.out.lo;exact hfi.out.fr c (by omega) (by omega) (by omega)) hfi.out.size
     have y6:wr.cell? ⟨s.c6,0,none⟩=some (.map (some s.em)):=cellAt (j:=0) ki.c6 rfl;clear ki;go_wp2_with (clear aU;refine ay (o:=⟨some 93,_,_,_,_,_⟩) rfl _ rfl rfl hfi.out.iter ?_ (by intro y2 b2 left' w2 hmem;cases hmem);intro _;go_frame);go_quiet (fail);go_wp2;go_ret2
     have kK:Below w.heap.size w wr:=R5.out.trans ⟨hfi.out.env.1,hfi.out.env.2.1,hfi.out.env.2.2,hfi.out.size,fun c hc=>by
      have h1:=C0.out;have h4:=jX.out;have h6:=G0.out.size;exact hfi.out.fr c (by omega) (by omega) (by omega)⟩
     refine ⟨rm,s.em,L2,rfl,by have h4:=jX.out;have h6:=G0.out.size;omega, ?_, ?_,fun t ie ht=> ?_,fun t q hq=> ?_⟩
     · exact aY kK
     · exact hfi.out.map.pure (aY (Below.refl _ _))
     · obtain ⟨b,S,h1,h2,h3,h7⟩:=hfi.out.ent t ie ht;obtain ⟨h4,h8,h5⟩:=Xv.out t b h1;exact ⟨h4,h7,S,h2.pure (aY (Below.refl _ _)),fun x hx=>h8 x ((h3 x).1 hx),fun hN x=>by rw [h3,h5 hN]⟩
     obtain ⟨b,h1,_⟩:=HXa.out t q hq;exact Option.isSome_iff_exists.1 (aF.2 (hfi.out.all t (aF.1 (by rw [h1];rfl))))
theorem Yp (W:World):(binOp BinOp.neq 71 (Value.func (Fn.func 68) #[] #[]) Value.nilFunc).run Tryz.prog W= .ok (.bool true) W:=by kernel_rfl
theorem f67 {F:Nat->Prop} (rm:Nat) (L:List (aa × (Value × Value))) (Sx:aa->List aa) (All:List aa) (w:World) (hM:ah qp w rm L) (hL:∀t ie,ai L t=some ie->(∃A n c,ie.1= .slice A n c)/\bK F w ie.2 (Sx t)/\t.size<=1000000)
 (hS:∀t ie,ai L t=some ie->∀x∈Sx t,x∈All/\x.size<=1000000) (hA:All.length<=100000) (hF:∀b,F b->b<w.heap.size):
 Calls Tryz.prog 67 #[.map (some rm), .func (.func 68) #[] #[]] w fun e w'=>∃v' xs,e= .returned v'/\bK F w' v' xs/\(∀x,x∈xs↔∃t ie,ai L t=some ie/\hidden t=false/\x∈Sx t/\cW x.data.toList=false)/\xs.length<=100000/\Below w.heap.size w w':=by
 have hmk:=KH;have hnf:=Yp;have HL:=Y0 hL;have HS:=Y0 hS;have HF:=Y0 hF;have hb1:Below w.heap.size w (w.alloc (.map #[] 0)):=(Below.refl _ _).alloc (Nat.le_refl _) _;have Bt:Hid (ah qp (w.alloc (.map #[] 0)) rm L):=Y0 (hM.pure hb1);have jB:Hid (ah bY (w.alloc (.map #[] 0)) w.heap.size []):=Y0 (ah.made w bY);have dz:=Y0 hb1;have Yq:Hid (rm<w.heap.size):=Y0 hM.lt;clear hM hL hS hF hb1;go_enter func67,ntmps67;go_wp2_with (refine bp (o:=⟨some 14,_,_,_,_,_⟩) rfl _ _ rfl _ _ underlying159 rfl Bt.out ?_;intro w1 hI KN KO;have hsz1:(w.alloc (.map #[] 0)).heap.size=w.heap.size+1:=World.size_alloc _ _;obtain ⟨em,Oo⟩:∃em,em=w.heap.size:=⟨_,rfl⟩;obtain ⟨it,hit⟩:∃it,it=(w.alloc (.map #[] 0)).heap.size:=⟨_,rfl⟩;have HI:=Y5 hI KN KO (hit.trans hsz1) Oo;rw [<-hit] at hI ⊢;(try rw [<-Oo]);clear KN KO hit hsz1;have zY:=Y0 hI;clear hI Oo;go_frame)
 have jX:Hid (em=w.heap.size/\it=w.heap.size+1/\w1.heap.size=w.heap.size+2/\Below w.heap.size w w1):=Y0 (by
  obtain ⟨a1,a2,a3,a4,a5⟩:=HI.out;refine ⟨a5,a4,by rw [a3,World.size_alloc],dz.out.trans (a2.mono (by simp))⟩)
 have gT:Hid (ah bY w1 em []):=Y0 (by
  have h:=jB.out.pure HI.out.2.1;rw [<-jX.out.1] at h;exact h)
 go_loopw [6] (fun _ wq=>∃(left:List (aa × (Value × Value))) (K:List (aa × Unit)),Hid (aL qp wq rm it L left/\ah bY wq em K/\Below w.heap.size w wq/\w1.heap.size<=wq.heap.size/\∀x,x∈af K↔∃t ie,ai L t=some ie/\t∉af left/\hidden t=false/\x∈Sx t/\cW x.data.toList=false)) (fun _ wq=>gz wq it)
 case atStart=>exact ⟨L, [],Y0 ⟨zY.out,gT.out,jX.out.2.2.2,Nat.le_refl _,fun x=>⟨fun h=>(by cases h),fun ⟨t,ie,h1,h2,_⟩=>absurd (aF.1 (by rw [h1];rfl)) h2⟩⟩⟩
 obtain ⟨left,K,hc⟩:=hrel
 cases left with
 | cons pr eX=>
   have aU:True:=trivial;have C3:Below w.heap.size w wr:=hc.out.2.2.1;have MP:w.heap.size+2<=wr.heap.size:=by have h1:=jX.out;have h2:=hc.out.2.2.2.1;omega
   have R7:=Y0 C3;clear C3
   go_wp2_with (first
    | (clear aU;refine ay (o:=⟨some 15,_,_,_,_,_⟩) rfl _ rfl rfl hc.out.1 (by intro h;cases h) ?_;intro t ie fc wn hmem hget eI ba hlen hns hg2 hs2 hent;have pE:=ey Bt.out.nodup (hc.out.1.sub.subset hmem);obtain ⟨⟨A1,m1,c1,ha1⟩,jd,R8⟩:=HL.out t ie pE;obtain ⟨A2,c2,ha2⟩:=jd.form;generalize hm2:(Sx t).length=m2 at ha2;have WT:=Y0 (HS.out t ie pE);obtain ⟨ie1,ie2⟩:=ie;simp only at ha1 ha2 jd;subst ha1 ha2;(try simp only [qp] at hent);(try simp only [qp]);have hR:=Y8 hmem pE eI ba hlen hns hg2 hs2;have yE:=Y0 jd;have HM2:=Y0 hm2;clear hmem hget pE eI ba hlen hns hg2 hs2 jd hm2;have Nk:True:=trivial;go_frame)
    | (clear Nk;go_at_call 110;refine (f110 t _ R8).mono ?_;rintro e w3 ⟨rfl,bb⟩;have z2:w3.cell? ⟨wn.heap.size,1,none⟩=some (.slice A2 m2 c2):=ag (cellAt (j:=1) (heap_alloc_new wn (.cells #[.slice A1 m1 c1, .slice A2 m2 c2] 233)) rfl) bb;have dK:Hid (Below wn.heap.size wn w3):=Y0 (((Below.refl _ _).alloc (Nat.le_refl _) _).trans (bb.mono (by simp)));clear bb;cases hh:hidden t<;>(have R9:=Y0 hh;clear hh)))
   all_goals
    have Jk:Hid (wn.heap.size=wr.heap.size/\it≠em/\em<wr.heap.size):=Y0 ⟨hR.out.2.2.2.2.2.2.2,by have:=jX.out;omega,hc.out.2.1.lt⟩;have Nl:Hid (Below w.heap.size w w3):=Y0 ((R7.out.grown hR.out.2.2.2.2.2.2.1 R7.out.size (fun k e=>by injection e with e;have:=jX.out;omega)).trans (dK.out.mono (by have:=Jk.out;omega)));have Au:Hid (aL qp w3 rm it L fc):=Y0 (hR.out.2.2.1.pure dK.out);have lL:Hid (ah bY w3 em K):=Y0 ((hc.out.2.1.grown hR.out.2.2.2.2.2.2.1 (by intro e;injection e with e;exact Jk.out.2.1 e)).pure dK.out);have hs3:Hid (w1.heap.size<=w3.heap.size):=Y0 (by have h1:=hc.out.2.2.2.1;have h2:=dK.out.size;have h3:=Jk.out;omega)
    have hkl:Hid (∀y,y∈af (pr::eX)↔y=t\/y∈af fc):=Y0 (fun y=>by
     have ba:=hR.out.2.2.2.1;simp only [af,List.mem_map];constructor
     · rintro ⟨q,hq,rfl⟩;rcases (ba q).1 hq with rfl|h
       · exact .inl rfl
       exact .inr ⟨q,h,rfl⟩
     rintro (rfl|⟨q,hq,rfl⟩)
     · exact ⟨_,(ba _).2 (.inl rfl),rfl⟩
     exact ⟨q,(ba q).2 (.inr hq),rfl⟩)
    have hnew:Hid (∀(K':List (aa × Unit)),(∀x,x∈af K'↔x∈af K\/(hidden t=false/\x∈Sx t/\cW x.data.toList=false))->∀x,x∈af K'↔∃t ie,ai L t=some ie/\t∉af fc/\hidden t=false/\x∈Sx t/\cW x.data.toList=false):=Y0 (fun K' hK x=>by
     rw [hK,hc.out.2.2.2.2];constructor
     · rintro (⟨u,ie,h1,h2,h3⟩|h)
       · exact ⟨u,ie,h1,fun h=>h2 ((hkl.out u).2 (.inr h)),h3⟩
       exact ⟨t,_,hR.out.2.1,hR.out.2.2.2.2.2.1,h⟩
     rintro ⟨u,ie,h1,h2,h3⟩;by_cases hu:u=t
     · subst hu;exact .inr h3
     exact .inl ⟨u,ie,h1,fun h=>by rcases (hkl.out u).1 h with h|h;exact hu h;exact h2 h,h3⟩)
   · go_loopw [25] (fun i wq=>∃(j:Nat) (K':List (aa × Unit)),i= .int .i64 j/\j<=m2/\Hid (ah bY wq em K'/\w3.grownBy wq (some em)/\∀x,x∈af K'↔x∈af K\/(x∈(Sx t).take j/\cW x.data.toList=false))) (fun i _=>m2 - (intOf i).toNat)
     case atStart=>exact ⟨0,K,rfl,by omega,Y0 ⟨lL.out,⟨rfl,rfl,rfl,Nat.le_refl _,fun _ _ _=>rfl⟩,by simp⟩⟩
     obtain ⟨j,K',rfl,hj,hd⟩:=hrel;have hBq:Hid (Below w.heap.size w wr):=Y0 (Nl.out.grown hd.out.2.1 Nl.out.size (fun k e=>by injection e with e;have:=jX.out;omega));have aaC:m2<=9223372036854775807:=by have h1:=yE.out.bound;omega
     by_cases lR:j<m2
     · have lK:(j:Int)<(m2:Int):=by omega
       have hjl:j<(Sx t).length:=by rw [HM2.out];exact lR
       obtain ⟨g,off,hA,-,hg,hcell⟩:=yE.out.at1 hjl;subst hA
       replace hcell:=ag hcell hBq.out
       have htk:Hid (∀x,x∈(Sx t).take (j+1)↔x∈(Sx t).take j\/x=(Sx t)[j]):=Y0 (fun x=>by rw [List.take_succ_eq_append_getElem hjl,List.mem_append,List.mem_singleton]);have hys:=(WT.out _ (List.getElem_mem hjl)).2;generalize (Sx t)[j]=y at*;cases Jl:cW y.data.toList
       · have Sa:=Y0 Jl;clear Jl;have Av:True:=trivial
         go_wp2_with (first
          | (clear Av;go_at_call 68;refine (f68 y _ (by omega)).mono ?_;rw [Sa.out];rintro e w4 ⟨rfl,hw4⟩;subst hw4;have kV:True:=trivial)
          | (clear kV;refine aM (f:=bY) (b:=()) rfl _ _ _ 232 rfl _ _ underlying232 underlying9 rfl hd.out.1 rfl rfl ?_;intro w8 kU jV ke;have H8:=Y3 kU jV ke;clear kU jV ke;go_frame))
         refine ⟨⟨j+1,bN K' y (),by go_num,by omega,Y0 ⟨H8.out.1,⟨H8.out.2.1.os.trans hd.out.2.1.os,H8.out.2.1.tape.trans hd.out.2.1.tape,H8.out.2.1.output.trans hd.out.2.1.output,Nat.le_trans hd.out.2.1.size H8.out.2.1.size,fun k hk hne=>by rw [H8.out.2.1.block k (Nat.lt_of_lt_of_le hk hd.out.2.1.size) hne];exact hd.out.2.1.block k hk hne⟩,fun x=> ?_⟩⟩,by simp [intOf];omega⟩;rw [bH,hd.out.2.2,htk.out];constructor
         · rintro (rfl|h|⟨h1,h2⟩)
           · exact .inr ⟨.inr rfl,Sa.out⟩
           · exact .inl h
           exact .inr ⟨.inl h1,h2⟩
         rintro (h|⟨h1|h1,h2⟩)
         · exact .inr (.inl h)
         · exact .inr (.inr ⟨h1,h2⟩)
         exact .inl h1
       have Sa:=Y0 Jl;clear Jl;have Av:True:=trivial;go_wp2_with (clear Av;go_at_call 68;refine (f68 y _ (by omega)).mono ?_;rw [Sa.out];rintro e w4 ⟨rfl,hw4⟩;subst hw4);refine ⟨⟨j+1,K',by go_num,by omega,Y0 ⟨hd.out.1,hd.out.2.1,fun x=> ?_⟩⟩,by simp [intOf];omega⟩;rw [hd.out.2.2,htk.out];constructor
       · rintro (h|⟨h1,h2⟩)
         · exact .inl h
         exact .inr ⟨.inl h1,h2⟩
       rintro (h|⟨h1|h1,h2⟩)
       · exact .inl h
       · exact .inr ⟨h1,h2⟩
       rw [h1,Sa.out] at h2;cases h2
     have wF:m2=j:=by omega
     subst wF;have hall:(Sx t).take m2=Sx t:=List.take_of_length_le (by rw [HM2.out];exact Nat.le_refl _);have h6:=hd.out.2.2;rw [hall] at h6;have H6:=Y0 h6;clear hall h6;go_wp2;have hI9:=Au.out.grown hd.out.2.1 (by intro e;injection e with e;have:=Yq.out;have:=jX.out;omega) (by intro e;injection e with e;exact Jk.out.2.1 e.symm);exact ⟨⟨fc,K',Y0 ⟨hI9,hd.out.1,hBq.out,Nat.le_trans hs3.out hd.out.2.1.size,hnew.out K' (fun x=>by rw [H6.out x];exact ⟨fun h=>by rcases h with h|h;exact .inl h;exact .inr ⟨R9.out,h⟩,fun h=>by rcases h with h|h;exact .inl h;exact .inr h.2⟩)⟩⟩,by rw [aG hI9,aG hc.out.1];have:=hR.out.2.2.2.2.1;omega⟩
   exact ⟨⟨fc,K,Y0 ⟨Au.out,lL.out,Nl.out,hs3.out,hnew.out K (fun x=>⟨.inl,fun h=>by rcases h with h|h;exact h;rw [R9.out] at h;cases h.1⟩)⟩⟩,by rw [aG Au.out,aG hc.out.1];have:=hR.out.2.2.2.2.1;omega⟩
 | nil=>
   have aU:True:=trivial
   have hKx:Hid (∀x,x∈af K↔∃t ie,ai L t=some ie/\hidden t=false/\x∈Sx t/\cW x.data.toList=false):=Y0 (fun x=>by
    rw [hc.out.2.2.2.2 x];constructor
    · rintro ⟨t,ie,h1,_,h2⟩;exact ⟨t,ie,h1,h2⟩
    rintro ⟨t,ie,h1,h2⟩;exact ⟨t,ie,h1,by simp [af],h2⟩)
   have HKx:=hKx
   have sJ:Hid (K.length<=100000):=Y0 (by
    have h1:=bQ hc.out.2.1.nodup (m:=All) (fun x hx=>by
     obtain ⟨t,ie,h2,_,h3,_⟩:=(hKx.out x).1 hx;exact (HS.out t ie h2 x h3).1)
    simp [af] at h1;omega)
   have Sb:Hid (Below w.heap.size w wr):=Y0 hc.out.2.2.1;have Sd:Hid (ah bY wr em K):=Y0 hc.out.2.1;have UE:=Y0 hc.out.1;obtain ⟨wz,hwz⟩:∃W,W=wr:=⟨_,rfl⟩;subst hwz;clear hc hKx;obtain ⟨lb,uO⟩:∃n,n=K.length:=⟨_,rfl⟩;have Jj:=Y0 uO;have hlb:lb<=100000:=by rw [uO];exact sJ.out
   clear uO;by_cases hz0:lb=0
   · have hK0:Hid (K= []):=Y0 (List.eq_nil_of_length_eq_zero (by rw [<-Jj.out];exact hz0));subst hz0;have FV:True:=trivial
     go_wp2_with (first
      | (clear aU;refine ay (o:=⟨some 15,_,_,_,_,_⟩) rfl _ rfl rfl UE.out ?_ (by intro y2 b2 left' w2 hmem;cases hmem);intro _;have uP:True:=trivial;go_frame)
      | (clear uP;refine ez (o:=⟨some 41,_,_,_,_,_⟩) rfl _ _ rfl _ _ underlying232 rfl Sd.out ?_;rw [<-Jj.out];go_frame))
     go_ret;refine ⟨_,rfl, [],Rd.nil _ _ _ _ _ (by simp [maxLen]),fun x=> ?_,by simp, ?_⟩
     · constructor
       · intro h;cases h
       rintro ⟨t,⟨a,b,h1⟩,h2⟩;have h3:=(HKx.out x).2 ⟨t,_,h1,h2⟩;rw [hK0.out] at h3;cases h3
     repeat first|exact Sb.out|refine Below.alloc ?_ (by have:=Sb.out.size;omega) _
   have hz1:¬(lb:Int)=0:=by omega
   have hms:=Ga lb hlb
   go_wp2_with (first
    | (clear aU;refine ay (o:=⟨some 15,_,_,_,_,_⟩) rfl _ rfl rfl UE.out ?_ (by intro y2 b2 left' w2 hmem;cases hmem);intro _;have uP:True:=trivial;go_frame)
    | (clear uP;refine ez (o:=⟨some 41,_,_,_,_,_⟩) rfl _ _ rfl _ _ underlying232 rfl Sd.out ?_;rw [<-Jj.out];have Jm:True:=trivial;go_frame)
    | (clear Jm;refine ez (o:=⟨some 45,_,_,_,_,_⟩) rfl _ _ rfl _ _ underlying232 rfl Sd.out ?_;rw [<-Jj.out];have kV:True:=trivial;go_frame)
    | (clear kV;refine bp (o:=⟨some 48,_,_,_,_,_⟩) rfl _ _ rfl _ _ underlying232 rfl (Sd.out.alloc _) ?_;intro w5 KP bz hs5;have H5:=Y3 KP bz hs5;clear KP bz hs5;go_frame))
   have iO:(wz.alloc (Obj.cells (madeCells #[Value.string ⟨#[]⟩] lb) 9)).heap.size=wz.heap.size+1:=World.size_alloc _ _;have hown0:=World.ownsRow_made (base:=wz.heap.size) (e:=9) (size:=1) wz (madeCells #[Value.string ⟨#[]⟩] lb) lb (Nat.le_refl _) (by simp [maxLen];omega) (by rw [size_madeCells,Nat.mul_one]);have hown1:=cG hown0 H5.out.2.1;have rM:Below wz.heap.size wz w5:=((Below.refl _ _).alloc (Nat.le_refl _) _).trans (H5.out.2.1.mono (by rw [iO];omega));rw [iO] at H5
   (try rw [iO])
   obtain ⟨m0,hm0⟩:∃m,m=wz.heap.size:=⟨_,rfl⟩;rw [<-hm0] at H5 hown1 rM ⊢;obtain ⟨jY,lN⟩:∃i,i=m0+1:=⟨_,rfl⟩;rw [<-lN] at H5 ⊢;have KQ:=Y0 hm0;have yi:=Y0 lN;have hsrc:Hid (em<m0):=Y0 (by rw [hm0];exact Sd.out.lt)
   have CE:Hid (aL bY w5 em jY K K/\Own aD m0 9 (fun c=>F c\/c=m0) w5 (.slice (some ⟨m0,0,none⟩) 0 lb) []/\(∀c,(F c\/c=m0)->(F c\/m0<=c)/\c≠jY/\c<w5.heap.size)/\Below m0 wz w5/\([]:List aa).length+K.length=K.length/\(∀x,(x∈([]:List aa)\/x∈af K)↔x∈af K)/\(∀c,F c->(F c\/c=m0))/\jY<w5.heap.size):=Y0 (by
    have h5:=H5.out;refine ⟨h5.1,cV hown1 (fun k hk=> .inr (by simp [Value.ownBlock] at hk;exact hk.symm)),fun c hc=> ?_,rM,by simp,by simp,fun c h=> .inl h,by omega⟩;rcases hc with hc|hc
    · have h1:=HF.out c hc;have h2:=Sb.out.size;exact ⟨.inl hc,by omega,by omega⟩
    exact ⟨.inr (by omega),by omega,by omega⟩)
   clear iO hown0 hown1 rM hm0 lN;go_loopw [10] (fun v wq=>∃(acc:List aa) (left:List (aa × Unit)) (Fk:Nat->Prop),Hid (aL bY wq em jY K left/\Own aD m0 9 Fk wq v acc/\(∀b,Fk b->(F b\/m0<=b)/\b≠jY/\b<wq.heap.size)/\Below m0 wz wq/\acc.length+left.length=(K).length/\(∀x,(x∈acc\/x∈af left)↔x∈af K)/\(∀b,F b->Fk b)/\jY<wq.heap.size)) (fun v _=>(K).length - kf v)
   case atStart=>exact ⟨[],_,_,Y0 CE.out⟩
   obtain ⟨acc,left,Fk,gG⟩:=hrel;obtain ⟨A0,c0,hv0⟩:=gG.out.2.1.form;generalize yP:acc.length=na at hv0;subst hv0;have R3:jY<wr.heap.size:=gG.out.2.2.2.2.2.2.2;have yj:m0<=wr.heap.size:=by have h1:=yi.out;omega
   cases left with
   | cons pr eX=>
     have hal:na<100001:=by have h1:=gG.out.2.2.2.2.1;have h2:=sJ.out;simp at h1;omega
     have Fv:=Y0 (show ∀b,Fk b->b<wr.heap.size from fun b hb=>(gG.out.2.2.1 b hb).2.2);have rJ:Hid (¬Fk jY):=Y0 (fun h=>(gG.out.2.2.1 _ h).2.1 rfl);have aU:True:=trivial
     go_wp2_with (first
      | (clear aU;refine ay (o:=⟨some 49,_,_,_,_,_⟩) rfl _ rfl rfl gG.out.1 (by intro h;cases h) ?_;intro y2 b2 left' w2 hmem hget eI ba hlen hns hg2 hs2 hent;have bO:=Y6 hmem eI ba hlen hg2 hs2;have hw2:wr.heap.size<=w2.heap.size:=(by omega);clear hmem hget eI ba hlen hns hg2 hs2;have ja:=Y0 (aX (w':=w2.alloc (.cells #[.string y2] 9)) (F':=Fk) gG.out.2.1 (fun k hk=>by have h1:=Fv.out k (bh gG.out.2.1 hk);rw [Below.heap_alloc _ _ k (by omega)];exact bO.out.2.2.2.2.1.block k h1 (by intro e;injection e with e;exact rJ.out (e▸bh gG.out.2.1 hk))) (fun _ h=>h));have gT:=Y0 (Rd.one (d:=aD) (F:=Fk) (w:=w2) (e:=9) (x:=y2) (cs:= #[.string y2]) rfl (by intro b hb;have:=Fv.out b hb;omega));go_frame)
      | (at_builtin;refine aH (o:=⟨some 56,_,_,_,_,_⟩) rfl _ _ 22 rfl aD 9 (.string ⟨#[]⟩) 16 underlying22 rA rfl (by decide) rfl rfl ja.out gT.out (by rw [yP];simp [maxLen];omega) (by rw [yP];simp;omega) (by simp;omega) rfl (na+1) (by rw [List.length_append,yP];rfl) ?_;intro A2 c2 w3 F2 mI iT bb gD;have zX:=Y4 mI iT bb gD;clear mI iT bb gD;go_frame))
     obtain ⟨i1,i2,i3,i4,i5,i6,i7,i8⟩:=gG.out;obtain ⟨j1,j2,j3,j4,j5,j6⟩:=bO.out;obtain ⟨k1,k2,k3,k4⟩:=zX.out
     have hF2:∀b,F2 b->(F b\/m0<=b)/\b≠jY/\b<w3.heap.size:=fun b hb=>by
      have hlt:=k2.lt (fun c hc'=>by have:=(i3 c hc').2.2;simp;omega) b hb;rcases Nat.lt_or_ge b (w2.alloc (.cells #[.string y2] 9)).heap.size with h|h
      · have h1:=i3 b (k2.old b h hb);exact ⟨h1.1,h1.2.1,hlt⟩
      simp at h;exact ⟨.inr (by omega),by omega,hlt⟩
     refine ⟨⟨acc++ [y2],left',F2,Y0 ⟨?_,k1,hF2, ?_, ?_, ?_,fun b h=>k2.grow b (i7 b h),by have:=k3.size;simp at this;omega⟩⟩,by simp [kf] at i5 ⊢;omega⟩
     · refine (j2.pure ((Below.refl _ _).alloc (Nat.le_refl _) (.cells #[.string y2] 9))).grown k4 (fun e=> ?_) (fun e=> ?_)
       · have:=(ak i2 e).2.1;have h9:=hsrc.out;omega
       exact rJ.out (bh i2 e)
     · exact (i4.grown j5 yj (fun k e=>by injection e with e;have h1:=yi.out;omega)).trans (((Below.refl _ _).alloc (by omega) _).trans (k3.mono (by omega)))
     · simp at i5 j4 ⊢;omega
     intro t;rw [<-i6];simp only [List.mem_append,List.mem_singleton,af,List.mem_map];constructor
     · rintro ((h|rfl)|⟨q,hq,rfl⟩)
       · exact .inl h
       · exact .inr ⟨_,j1,rfl⟩
       exact .inr ⟨q,(j3 q).2 (.inr hq),rfl⟩
     rintro (h|⟨q,hq,rfl⟩)
     · exact .inl (.inl h)
     rcases (j3 q).1 hq with rfl|h
     · exact .inl (.inr rfl)
     exact .inr ⟨q,h,rfl⟩
   | nil=>
     have hal:na<=100001:=by have h1:=gG.out.2.2.2.2.1;have h2:=sJ.out;simp at h1;omega
     have aU:True:=trivial;have hb4:=Y0 gG.out.2.2.2.1
     go_wp2_with (first
      | (clear aU;refine ay (o:=⟨some 49,_,_,_,_,_⟩) rfl _ rfl rfl gG.out.1 ?_ (by intro y2 b2 left' w2 hmem;cases hmem);intro _;go_frame)
      | (go_at_call 72;refine (f72 (base:=m0) (F:=Fk) _ acc _ gG.out.2.1 (by omega)).mono ?_;rintro e w6 ⟨rfl,xs,hp,hsrt,rZ,zO⟩;have rF:Below m0 wz w6:=hb4.out.trans (Below.of_grown zO (fun k e=>(ak gG.out.2.1 e).2.1) yj);have bU:=Y0 rF;have H6:=Y2 hp rZ;clear hp hsrt rZ zO rF))
     go_ret;have aaD:=Sb.out.size;have aaE:=KQ.out;have jd:bK F w6 (.slice A0 na c0) xs:=H6.out.2.rd (fun c hc=>by have h1:=HF.out c hc;omega) gG.out.2.2.2.2.2.2.1 (by decide);refine ⟨_,xs,rfl,jd,fun x=> ?_, ?_,Sb.out.trans (bU.out.mono (by omega))⟩
     · rw [H6.out.1.mem_iff,<-HKx.out x];have:=gG.out.2.2.2.2.2.1 x;simpa [af] using this
     rw [H6.out.1.length_eq,yP];have h1:=gG.out.2.2.2.2.1;have h2:=sJ.out;simp at h1;omega
inductive fe where
 | bad (T:TypeId) (x:Value)
 | good (nm Nn:aa) (Ai:Option Addr) (ni ci:Nat) (At:Option Addr) (nt ct:Nat)
def fe.val:fe->Value
 | bad T x=> .agg #[.string ⟨#[]⟩, .string ⟨#[]⟩, .string ⟨#[]⟩, .slice none 0 0, .slice none 0 0, .iface T x]
 | good nm Nn Ai ni ci At nt ct=> .agg #[.string nm, .string Nn, .string ⟨#[]⟩, .slice Ai ni ci, .slice At nt ct, .nilIface]
def pZ (F:Nat->Prop) (w:World) (q:Pk):fe->Prop
 | .bad _ _=>q.err.toList.isEmpty=false
 | .good nm _ Ai ni ci At nt ct=>q.err.toList.isEmpty=true/\nm=q.name/\bK F w (.slice Ai ni ci) q.imps/\bK F w (.slice At nt ct) q.tests
structure mC (F:Nat->Prop) (w:World) (pm:Nat) (pks:List Pk) (PL:List (aa × fe)):Prop where
 map:ah fe.val w pm PL
 ent:∀t e,ai PL t=some e->∃q∈pks,q.path=t/\pZ F w q e
 all:∀q∈pks,∃e,ai PL q.path=some e
theorem pZ.pure {F:Nat->Prop} {w w':World} {q:Pk} {e:fe} (h:pZ F w q e) (hb:Below w.heap.size w w'):pZ F w' q e:=by
 cases e with
 | bad T x=>exact h
 | good=>exact ⟨h.1,h.2.1,h.2.2.1.pure hb,h.2.2.2.pure hb⟩
theorem mC.pure {F:Nat->Prop} {w w':World} {pm:Nat} {pks:List Pk} {PL:List (aa × fe)} (h:mC F w pm pks PL) (hb:Below w.heap.size w w'):mC F w' pm pks PL:=
 ⟨h.map.pure hb,fun t e ht=>by obtain ⟨q,h1,h2,h3⟩:=h.ent t e ht;exact ⟨q,h1,h2,h3.pure hb⟩,h.all⟩
theorem yl {pks:List Pk} (hn:(pks.map (·.path)).Nodup) {q:Pk} (hq:q∈pks):py pks q.path=some q:=by
 obtain ⟨k,hk⟩:=xU (pks:=pks) (s:=q.path) (List.mem_map.2 ⟨q,hq,rfl⟩);obtain ⟨h1,q',h2,h3⟩:=qm hk;have h4:q'=q:=lF hn (List.mem_of_getElem? h2) hq h3;subst h4;unfold py;rw [hk];exact h2
theorem Aw {root:aa} {ig:List aa} {pks:List Pk} (h:∀p∈pks,∀q∈pks,¬OH root ig pks p q):bg root ig pks:=by
 intro a b hab h1 h2
 have start:∀{x y:aa},eY root ig pks x y->∃q,fL ig pks x q:=by
  rintro x y ⟨z,q,hr,hq,hz⟩;by_cases hg:∃q,fL ig pks x q
  · exact hg
  have hbad:∀q,¬fL ig pks x q:=fun q hq'=>hg ⟨q,hq'⟩
  rw [hr.bad hbad] at hq;exact ⟨q,hq⟩
 obtain ⟨p,hp⟩:=start h1;obtain ⟨q,hq⟩:=start h2;obtain ⟨p1,p2⟩:=cD hp.1;obtain ⟨q1,q2⟩:=cD hq.1;exact h p p2 q q2 ⟨by rw [p1,q1];exact hab,by rw [p1,q1];exact h1,by rw [p1,q1];exact h2⟩
theorem Sh (w:World):(Instr.makeMap 228 none).run Tryz.prog w= .ok (.map (some w.heap.size)) (w.alloc (.map #[] 0)):=by kernel_rfl
structure UF (F:Nat->Prop) (root:aa) (ig:List aa) (pks:List Pk) (pm rN it:Nat) (PL:List (aa × fe)) (w w1:World) (left:List (aa × fe)) (W:List (aa × nD)) (wr:World):Prop where
 iter:aL fe.val wr pm it PL left
 map:ah nD.val wr rN W
 below:Below w.heap.size w wr
 fr:∀b,b<w1.heap.size->b≠rN->b≠it->wr.heap[b]?=w1.heap[b]?
 size:w1.heap.size<=wr.heap.size
 ent:∀t me mi,ai W t=some (.good me mi)->∃q le li,fL ig pks t q/\ah aO wr me le/\ah aO wr mi li/\(∀x,x∈af le↔x∈dD root ig q)/\(∀x,x∈af li↔x∈dQ root ig q)/\me≠rN/\mi≠rN/\me≠it/\mi≠it
 all:∀t q,fL ig pks t q->t∈af left\/∃me mi,ai W t=some (.good me mi)
 keys:∀t,t∈af W->t∈af PL/\t∉af left
theorem UF.step {F:Nat->Prop} {root:aa} {ig:List aa} {pks:List Pk} {pm rN it:Nat} {PL left fc:List (aa × fe)} {w w1 wr wn wq:World} {W W':List (aa × nD)} (h:UF F root ig pks pm rN it PL w w1 left W wr) {t:aa} {e0:fe}
 (hI:aL fe.val wn pm it PL fc) (ba:∀p,p∈left↔p=(t,e0)\/p∈fc) (hns:t∉af fc) (hg:wr.grownBy wn (some it)) (he:Env wn wq) (hs:wn.heap.size<=wq.heap.size) (hk:∀c,c<wn.heap.size->c≠rN->wq.heap[c]?=wn.heap[c]?)
 (hM:ah nD.val wq rN W') (hne:pm≠rN/\it≠rN/\w.heap.size<=rN/\w.heap.size<=it) (hW:∀u,u≠t->ai W' u=ai W u)
 (hnew:∀me mi,ai W' t=some (.good me mi)->∃q le li,fL ig pks t q/\ah aO wq me le/\ah aO wq mi li/\(∀x,x∈af le↔x∈dD root ig q)/\(∀x,x∈af li↔x∈dQ root ig q)/\me≠rN/\mi≠rN/\me≠it/\mi≠it)
 (hall:∀q,fL ig pks t q->∃me mi,ai W' t=some (.good me mi)):UF F root ig pks pm rN it PL w w1 fc W' wq:=by
 have hkl:∀y,y∈af left↔y=t\/y∈af fc:=fun y=>by
  simp only [af,List.mem_map];constructor
  · rintro ⟨q,hq,rfl⟩;rcases (ba q).1 hq with rfl|h
    · exact .inl rfl
    exact .inr ⟨q,h,rfl⟩
  rintro (rfl|⟨q,hq,rfl⟩)
  · exact ⟨_,(ba _).2 (.inl rfl),rfl⟩
  exact ⟨q,(ba q).2 (.inr hq),rfl⟩
 have KS:∀{m:Nat} {l:List (aa × Bool)},ah aO wr m l->m≠rN->m≠it->ah aO wq m l:=fun {m l} hm h1 h2=>by
  have h3:=hm.grown hg (by intro e;injection e with e;exact h2 e.symm);exact h3.keep (hk m h3.lt h1)
 refine ⟨hI.keep (hk pm hI.map.lt hne.1) (hk it hI.lt hne.2.1),hM, ?_,fun c hc h1 h2=> ?_,Nat.le_trans h.size (Nat.le_trans hg.size hs),fun u me mi hu=> ?_,fun u q hq=> ?_,fun u hu=> ?_⟩
 · have hb:=h.below.grown hg h.below.size (fun k e=>by injection e with e;have:=hne.2.2.2;omega);exact hb.trans ⟨he.1,he.2.1,he.2.2,hs,fun c hc=>hk c (Nat.lt_of_lt_of_le hc hb.size) (by have:=hne.2.2.1;omega)⟩
 · have h3:=h.size;have h4:=hg.size;rw [hk c (by omega) h1,hg.block c (by omega) (by intro e;injection e with e;exact h2 e)];exact h.fr c hc h1 h2
 · by_cases e:u=t
   · subst e;exact hnew me mi hu
   rw [hW u e] at hu;obtain ⟨q,le,li,a1,a2,a3,a4,a5,a6,a7,a8,a9⟩:=h.ent u me mi hu;exact ⟨q,le,li,a1,KS a2 a6 a8,KS a3 a7 a9,a4,a5,a6,a7,a8,a9⟩
 · by_cases e:u=t
   · subst e;exact .inr (hall q hq)
   rcases h.all u q hq with h1|h1
   · rcases (hkl u).1 h1 with h2|h2
     · exact absurd h2 e
     exact .inl h2
   rw [hW u e];exact .inr h1
 by_cases e:u=t
 · subst e;exact ⟨List.mem_map.2 ⟨_,h.iter.sub.subset ((ba _).2 (.inl rfl)),rfl⟩,hns⟩
 have h1:u∈af W:=by
  rw [<-aF] at hu ⊢;rw [<-hW u e];exact hu
 obtain ⟨h2,h3⟩:=h.keys u h1;exact ⟨h2,fun h4=>h3 ((hkl u).2 (.inr h4))⟩
theorem kW (s p:aa):qd s p=inside p s:=by
 unfold qd inside;rw [dm,dm,ByteArray.toList_eq,ByteArray.toList_eq];have e1:(p++⟨#[47]⟩:aa).data.toList=p.data.toList++ [47]:=by simp
 have e2:(s.extract p.size s.size).data.toList=(s.data.toList.drop p.size).take (s.size - p.size):=by rw [Lib.extract_data]
 have hs:=size_data s;have hp:=size_data p;unfold jE;rw [e1,e2,<-hs,<-hp];generalize s.data.toList=a;generalize p.data.toList=r;by_cases h:r<+:a
 · obtain ⟨t,rfl⟩:=h;simp only [List.drop_left,List.length_append,Nat.add_sub_cancel_left,List.take_length,List.prefix_append,decide_true,Bool.true_and]
   cases t with
   | nil=>simp
   | cons c t=>
     simp only [dt];rw [Bool.eq_iff_iff];by_cases hc:c.toNat=47
     · have:c=47:=UInt8.toNat_inj.1 hc;subst this;simp
     have h2:¬(47:UInt8)=c:=fun e=>hc (by rw [<-e];rfl)
     rw [if_neg hc];simp [List.prefix_append_right_inj,h2];cases h5:dt t<;>simp<;>omega
 have h1:¬a=r:=fun e=>h (e▸List.prefix_refl _)
 have h2:¬(r++ [47])<+:a:=fun e=>h ((List.prefix_append _ _).trans e)
 simp [h,h1,h2]
theorem BN {w:World} {n:Nat} {o:Obj} (h:w.heap[n]?=some o):n<w.heap.size:=(Array.getElem?_eq_some_iff.1 h).1
theorem jx {P:aa->Prop} {a:List aa} {y:aa} (h:¬P y) (x:aa):x∈a++ [y]/\P x↔x∈a/\P x:=by
 rw [List.mem_append,List.mem_singleton];constructor
 · rintro ⟨h1|rfl,h2⟩
   · exact ⟨h1,h2⟩
   exact absurd h2 h
 rintro ⟨h1,h2⟩;exact ⟨.inl h1,h2⟩
theorem BO {P:aa->Prop} {a:List aa} {y:aa} (h:P y) (x:aa):(x=y\/(x∈a/\P x))↔x∈a++ [y]/\P x:=by
 rw [List.mem_append,List.mem_singleton];constructor
 · rintro (rfl|⟨h1,h2⟩)
   · exact ⟨.inr rfl,h⟩
   exact ⟨.inl h1,h2⟩
 rintro ⟨h1|rfl,h2⟩
 · exact .inr ⟨h1,h2⟩
 exact .inl rfl
theorem f66 {F:Nat->Prop} (root:aa) (pm ib lo:Nat) (PL:List (aa × fe)) (pks:List Pk) (ig:List aa) (w:World) (hP:mC F w pm pks PL) (hI:uJ w lo ib ig) (hn:(pks.map (·.path)).Nodup)
 (hx:∀q∈pks,q.path.size<=1000000/\(∀x∈q.imps++q.tests,x.size<=1000000)/\q.imps.length+q.tests.length<=1000) (hrt:root.size<=1000000) (hpl:pks.length<=100) (hF:∀b,F b->b<w.heap.size):
 Calls Tryz.prog 66 #[.agg #[.string root, .map (some pm)], .bool true, .bool true, .bool false, .pointer (some ⟨ib,0,none⟩)] w fun e w'=>∃rm em L,e= .returned (.tuple #[.map (some rm), .map (some em)])/\w.heap.size<=rm/\Below w.heap.size w w'/\ah qp w' rm L/\
  (∀t ie,ai L t=some ie->(∃q,fL ig pks t q)/\(∃A n c,ie.1= .slice A n c)/\∃S,bK F w' ie.2 S/\(∀x∈S,x∈bT pks)/\(bg root ig pks->∀x,x∈S↔iR root ig pks t x))/\∀t q,fL ig pks t q->∃ie,ai L t=some ie:=by
 have hmk:=Sh;have aaF:=I7;have HP:=Y0 hP;have HI:=Y0 hI;have HX:=Y0 (show _/\_/\_/\_/\True/\_ from ⟨hn,hx,hrt,hpl,True.intro,hF⟩);have hb2:Below w.heap.size w ((w.alloc (.cells #[.string root, .map (some pm)] 106)).alloc (.map #[] 0)):=((Below.refl _ _).alloc (Nat.le_refl _) _).alloc (by simp) _;have yb:Hid (ah fe.val ((w.alloc (.cells #[.string root, .map (some pm)] 106)).alloc (.map #[] 0)) pm PL):=Y0 (hP.map.pure hb2);have hW2:Hid (ah nD.val ((w.alloc (.cells #[.string root, .map (some pm)] 106)).alloc (.map #[] 0)) (w.heap.size+1) []):=Y0 (by have h:=ah.made (w.alloc (.cells #[.string root, .map (some pm)] 106)) nD.val;rwa [World.size_alloc] at h);have E7:Hid (((w.alloc (.cells #[.string root, .map (some pm)] 106)).alloc (.map #[] 0)).heap[w.heap.size]?=some (.cells #[.string root, .map (some pm)] 106 (0,0))):=Y0 ((Below.heap_alloc _ _ _ (by simp)).trans (heap_alloc_new _ _));have iN:=Y0 hb2;have Np:Hid (pm<w.heap.size):=Y0 hP.map.lt;clear hP hI hn hx hrt hpl hF hb2;go_enter func66,ntmps66;go_wp2_with (refine bp (o:=⟨some 23,_,_,_,_,_⟩) rfl _ _ rfl _ _ underlying104 rfl yb.out ?_;intro w1 uQ KN KO;have jr:((w.alloc (.cells #[.string root, .map (some pm)] 106)).alloc (.map #[] 0)).heap.size=w.heap.size+2:=(by rw [World.size_alloc,World.size_alloc]);obtain ⟨it,hit⟩:∃it,it=((w.alloc (.cells #[.string root, .map (some pm)] 106)).alloc (.map #[] 0)).heap.size:=⟨_,rfl⟩;obtain ⟨rN,Nq⟩:∃b,b=w.heap.size+1:=⟨_,rfl⟩;have Yr:=Y5 uQ KN KO (hit.trans jr) Nq;rw [<-hit] at uQ ⊢;(try rw [<-Nq]);clear KN KO hit jr;have Yt:=Y0 uQ;clear uQ Nq;go_frame)
 have jX:Hid (rN=w.heap.size+1/\it=w.heap.size+2/\w1.heap.size=w.heap.size+3/\Below w.heap.size w w1):=Y0 (by
  obtain ⟨a1,a2,a3,a4,a5⟩:=Yr.out;refine ⟨a5,a4,by rw [a3,World.size_alloc,World.size_alloc],iN.out.trans (a2.mono (by simp;omega))⟩)
 have hW1:Hid (ah nD.val w1 rN []):=Y0 (by
  have h:=hW2.out.pure Yr.out.2.1;rw [<-jX.out.1] at h;exact h)
 have hc1:Hid (w1.heap[w.heap.size]?=some (.cells #[.string root, .map (some pm)] 106 (0,0))):=Y0 (ax E7.out Yr.out.2.1);go_loopw [14] (fun _ wq=>∃(left:List (aa × fe)) (W:List (aa × nD)),Hid (UF F root ig pks pm rN it PL w w1 left W wq)) (fun _ wq=>gz wq it)
 case atStart=>
  refine ⟨PL, [],Y0 ⟨Yt.out,hW1.out,jX.out.2.2.2,fun _ _ _ _=>rfl,Nat.le_refl _,fun t me mi h=>(by cases h),fun t q hq=> .inl ?_,fun t h=>(by cases h)⟩⟩;obtain ⟨h1,h2⟩:=cD hq.1;obtain ⟨e,he⟩:=HP.out.all q h2;rw [<-h1];exact aF.1 (by rw [he];rfl)
 obtain ⟨left,W,hc⟩:=hrel
 cases left with
 | cons pr eX=>
   have aU:True:=trivial
   go_wp2_with (first
    | (clear aU;refine ay (o:=⟨some 24,_,_,_,_,_⟩) rfl _ rfl rfl hc.out.iter (by intro h;cases h) ?_;intro t e fc wn hmem hget eI ba hlen hns hg2 hs2 hent;have pE:=ey HP.out.map.nodup (hc.out.iter.sub.subset hmem);obtain ⟨q,hq,UG,hok⟩:=HP.out.ent t e pE;have hR:=Y8 hmem pE eI ba hlen hns hg2 hs2;have HQ:=Y3 hq UG hok;have Yu:Hid (ah nD.val wn rN W):=Y0 (hc.out.map.grown hR.out.2.2.2.2.2.2.1 (by intro e;injection e with e;have:=jX.out;omega));have Dw:Hid (Below w.heap.size w wn):=Y0 (hc.out.below.grown hR.out.2.2.2.2.2.2.1 hc.out.below.size (fun k e=>by injection e with e;have:=jX.out;omega));have R8:t.size<=1000000:=(by have h9:=(HX.out.2.1 q HQ.out.1).1;rw [HQ.out.2.1] at h9;exact h9);have uN:True:=trivial;clear hmem hget pE eI ba hlen hns hg2 hs2 hq UG hok;rcases e with ⟨T,x⟩|⟨nm,Nn,Ai,ni,ci,At,nt,ct⟩<;>simp only [fe.val] at hent ⊢<;>go_frame)
    | (clear uN;refine aM (f:=nD.val) (b:= .bad T x) rfl _ _ _ 228 rfl _ _ underlying228 underlying9 rfl (Yu.out.alloc _) rfl rfl ?_;intro w8 kU jV ke;have H8:=Y3 kU jV ke;clear kU jV ke;go_frame)
    | (clear uN;go_at_call 106;refine (f106 lo ib ig t _ (HI.out.pure ((Dw.out.alloc Dw.out.size _).alloc (by simp;have:=Dw.out.size;omega) _)) (by omega)).mono ?_;rintro e w3 ⟨rfl,bb⟩;have y3:w3.cell? ⟨wn.heap.size+1,3,none⟩=some (.slice Ai ni ci):=ag (cellAt (j:=3) (by have h:=heap_alloc_new (wn.alloc (.cells #[.string nm, .string Nn, .string ⟨#[]⟩, .slice Ai ni ci, .slice At nt ct, .nilIface] 197)) (.cells #[.string nm, .string Nn, .string ⟨#[]⟩, .slice Ai ni ci, .slice At nt ct] 195);rwa [World.size_alloc] at h) rfl) bb;have y4:w3.cell? ⟨wn.heap.size+1,4,none⟩=some (.slice At nt ct):=ag (cellAt (j:=4) (by have h:=heap_alloc_new (wn.alloc (.cells #[.string nm, .string Nn, .string ⟨#[]⟩, .slice Ai ni ci, .slice At nt ct, .nilIface] 197)) (.cells #[.string nm, .string Nn, .string ⟨#[]⟩, .slice Ai ni ci, .slice At nt ct] 195);rwa [World.size_alloc] at h) rfl) bb;have dK:Hid (Below wn.heap.size wn w3):=Y0 ((((Below.refl _ _).alloc (Nat.le_refl _) _).alloc (by simp) _).trans (bb.mono (by simp;omega)));clear bb;cases BD:bV ig t<;>(have HIg:=Y0 BD;clear BD;have Nr:True:=trivial))
    | (clear Nr;go_at_call 107;refine (f107 (F:=F) _ _ q.imps q.tests _ (HQ.out.2.2.2.2.1.pure (Dw.out.trans (dK.out.mono Dw.out.size))) (HQ.out.2.2.2.2.2.pure (Dw.out.trans (dK.out.mono Dw.out.size))) (by have h9:=(HX.out.2.1 q HQ.out.1).2.2;omega) (by have h9:=(HX.out.2.1 q HQ.out.1).2.2;omega) (fun b hb=>Nat.lt_of_lt_of_le (HX.out.2.2.2.2.2 b hb) (Dw.out.trans (dK.out.mono Dw.out.size)).size)).mono ?_;rintro e w4 ⟨vd,D,rfl,OU,mP,OM,hB4⟩;obtain ⟨Ad,cd,hvd⟩:=OU.form;generalize hnd:D.length=nd at hvd;subst hvd;have Jn:=Y5 OU mP OM hB4 hnd;clear OU mP OM hB4 hnd))
   · have hst:=hc.out.step hR.out.2.2.1 hR.out.2.2.2.1 hR.out.2.2.2.2.2.1 hR.out.2.2.2.2.2.2.1 ((Env.refl wn).alloc _|>.trans (Env.grown H8.out.2.1)) (by have h1:=H8.out.2.2;simp at h1;omega) (fun c hc hne=>by rw [H8.out.2.1.block c (by simp;omega) (by intro e;injection e with e;exact hne e)];exact Below.heap_alloc _ _ c hc) H8.out.1 (by have h1:=jX.out;have h2:=Np.out;omega) (fun u hu=>by rw [bk,if_neg (Ne.symm hu)]) (fun me mi h=>by rw [bk,if_pos rfl] at h;cases h) (fun q' hq'=>by
      obtain ⟨a1,a2⟩:=cD hq'.1;have h3:q'=q:=lF HX.out.1 a2 HQ.out.1 (a1.trans HQ.out.2.1.symm);have h4:=hq'.2;rw [h3] at h4;have h5:q.err.toList.isEmpty=false:=HQ.out.2.2;unfold cX at h4;rw [h5] at h4;cases h4)
     exact ⟨⟨fc,_,Y0 hst⟩,by rw [aG hst.iter,aG hc.out.iter];have:=hR.out.2.2.2.2.1;omega⟩
   all_goals first
    | (refine ⟨⟨fc,W,Y0 (hc.out.step hR.out.2.2.1 hR.out.2.2.2.1 hR.out.2.2.2.2.2.1 hR.out.2.2.2.2.2.2.1 (Env.below dK.out) dK.out.size (fun c hc2 _=>dK.out.block c hc2) (Yu.out.pure dK.out) (by have h1:=jX.out;have h2:=Np.out;omega) (fun u _=>rfl) ?_ ?_)⟩, ?_⟩
       · intro me mi h;have h2:=(hc.out.keys t (aF.1 (by rw [h];rfl))).2;exact absurd (List.mem_map.2 ⟨_,hR.out.1,rfl⟩) h2
       · intro q' hq';have h1:=hq'.2;unfold cX at h1;rw [(cD hq'.1).1,HIg.out] at h1;simp at h1
       have hsame:=hR.out.2.2.1.keep (dK.out.block pm hR.out.2.2.1.map.lt) (dK.out.block it hR.out.2.2.1.lt);rw [aG hsame,aG hc.out.iter];have:=hR.out.2.2.2.2.1
       omega)
    | skip
   all_goals
    have hnn:nd<=1000:=by
     have h9:=(HX.out.2.1 q HQ.out.1).2.2;have h8:=Jn.out.2.2.1;have h7:=Jn.out.2.2.2.2;omega
    obtain ⟨w5,zy⟩:∃W,W=(((w4.alloc (.map #[] 0)).alloc (.map #[] 0)).alloc (.cells #[.nilIface, .map (some w4.heap.size), .map (some (w4.heap.size+1))] 230)):=⟨_,rfl⟩
    have CM:Hid (ah aO w5 w4.heap.size []/\ah aO w5 (w4.heap.size+1) []/\Below w4.heap.size w4 w5/\w5.heap.size=w4.heap.size+3):=Y0 (by
     subst zy;refine ⟨(ah.made w4 aO).alloc _|>.alloc _, ?_,(((Below.refl _ _).alloc (Nat.le_refl _) _).alloc (by simp) _).alloc (by simp;omega) _,by simp⟩;have h:=ah.made (w4.alloc (.map #[] 0)) aO;rw [World.size_alloc] at h;exact h.alloc _)
    have Si:w5.heap[w4.heap.size+1+1]?=some (.cells #[.nilIface, .map (some w4.heap.size), .map (some (w4.heap.size+1))] 230 (0,0)):=by
     subst zy;have h:=heap_alloc_new ((w4.alloc (.map #[] 0)).alloc (.map #[] 0)) (.cells #[.nilIface, .map (some w4.heap.size), .map (some (w4.heap.size+1))] 230)
     rwa [World.size_alloc,World.size_alloc] at h
    rw [<-zy];have Sj:=Y0 Si;have jA:Hid (Below wn.heap.size wn w4):=Y0 (dK.out.trans (Jn.out.2.2.2.1.mono dK.out.size));clear zy Si;obtain ⟨nb,hnb⟩:∃n,n=w4.heap.size:=⟨_,rfl⟩;rw [<-hnb] at CM Sj ⊢;have Hnb:=Y0 hnb;clear hnb;obtain ⟨wo,hwo⟩:∃W,W=wr:=⟨_,rfl⟩;subst hwo
    have hroot:Hid (w4.heap[w.heap.size]?=some (.cells #[.string root, .map (some pm)] 106 (0,0))):=Y0 (by
     have h1:=jX.out;have h2:=hc.out.size;have h3:=hR.out.2.2.2.2.2.2.1;have h4:=h3.size;rw [jA.out.block _ (by omega),h3.block _ (by omega) (by intro e;injection e with e;omega),hc.out.fr _ (by omega) (by omega) (by omega)];exact hc1.out)
    have Jo:Hid (uJ w4 lo ib ig):=Y0 (HI.out.pure (Dw.out.trans (jA.out.mono Dw.out.size)));clear y3 y4;go_loopw [62] (fun i wr=>∃(j:Nat) (KT li:List (aa × Bool)),i= .int .i64 j/\j<=nd/\Hid (ah aO wr nb KT/\ah aO wr (nb+1) li/\wr.heap[nb+1+1]?=some (.cells #[.nilIface, .map (some nb), .map (some (nb+1))] 230 (0,0))/\Below nb w4 wr/\(∀x,x∈af KT↔x∈D.take j/\dx ig x=false/\inside root x=false)/\(∀x,x∈af li↔x∈D.take j/\dx ig x=false/\inside root x=true))) (fun i _=>nd - (intOf i).toNat)
    case atStart=>exact ⟨0, [], [],rfl,by omega,Y0 ⟨CM.out.1,CM.out.2.1,Sj.out,CM.out.2.2.1,by simp [af],by simp [af]⟩⟩
    case round=>
     obtain ⟨j,KT,li,rfl,hj,hd⟩:=hrel;have hBw:Hid (Below w4.heap.size w4 wr):=Y0 (by have h1:=hd.out.2.2.2.1;rwa [Hnb.out] at h1);by_cases lR:j<nd
     · have lK:(j:Int)<(nd:Int):=by omega
       have Yv:j<D.length:=by have:=Jn.out.2.2.2.2;omega
       obtain ⟨g,off,hA,-,hg,hcell⟩:=Jn.out.1.at1 Yv;subst hA
       replace hcell:=ag hcell hBw.out
       have htk:Hid (D.take (j+1)=D.take j++ [D[j]]):=Y0 (List.take_succ_eq_append_getElem Yv);have OV:Hid (D[j].size<=1000000):=Y0 ((HX.out.2.1 q HQ.out.1).2.1 _ ((Jn.out.2.1 _).1 (List.getElem_mem Yv)));generalize D[j]=y at*;have hfl:True:=trivial;have aaG:nb+3<=wr.heap.size:=(by have:=BN hd.out.2.2.1;omega);cases Sk:bV ig y
       · have OW:=Y0 Sk;clear Sk;cases CL:(y.toList== [46])
         · have hsk:Hid (dx ig y=false):=Y0 (by unfold dx;rw [CL,OW.out];rfl);cases hIn:inside root y
           · have rO:=Y0 hIn;clear hIn
             go_wp2_with (first
              | (revert hfl;intro _;go_at_call 106;refine (f106 lo ib ig y wr (Jo.out.pure hBw.out) (by have:=OV.out;omega)).mono ?_;rw [OW.out];rintro e w6 ⟨rfl,eQ⟩;have bU:=Y0 eQ;clear eQ;have Ge:True:=trivial;have k0:w6.cell? ⟨w.heap.size,0,none⟩=some (.string root):=ag (ag (cellAt (j:=0) hroot.out rfl) hBw.out) bU.out;have k1:w6.cell? ⟨nb+1+1,1,none⟩=some (.map (some nb)):=ag (cellAt (j:=1) hd.out.2.2.1 rfl) bU.out;have k2:w6.cell? ⟨nb+1+1,2,none⟩=some (.map (some (nb+1))):=ag (cellAt (j:=2) hd.out.2.2.1 rfl) bU.out)
              | (revert Ge;intro _;go_at_call 108;refine (f108 y root _ (by have:=OV.out;omega) (by have:=HX.out.2.2.1;omega)).mono ?_;rw [kW,rO.out];rintro e w7 ⟨rfl,rfl⟩;have Ns:True:=trivial)
              | (revert Ns;intro _;refine aM (f:=aO) (b:=true) rfl _ _ _ 91 rfl _ _ underlying91 underlying9 rfl (hd.out.1.pure bU.out) rfl rfl ?_;intro w8 kU jV ke;have H8:=Y3 kU jV ke;clear kU jV ke;go_frame))
             refine ⟨⟨j+1,bN KT y true,li,by go_num,by omega,Y0 ⟨H8.out.1,(hd.out.2.1.pure bU.out).grown H8.out.2.1 (by intro e;injection e with e;omega),(H8.out.2.1.block _ (by have:=bU.out.size;omega) (by intro e;injection e with e;omega)).trans (ax hd.out.2.2.1 bU.out),(hd.out.2.2.2.1.trans (bU.out.mono (by omega))).grown H8.out.2.1 (by have:=bU.out.size;omega) (fun k e=>by injection e with e;omega),fun x=> ?_,fun x=> ?_⟩⟩,by simp [intOf];omega⟩
             · rw [bH,hd.out.2.2.2.2.1,htk.out];exact BO (P:=fun x=>dx ig x=false/\inside root x=false) ⟨hsk.out,rO.out⟩ x
             rw [htk.out,jx (P:=fun x=>dx ig x=false/\inside root x=true) (fun h=>by rw [rO.out] at h;cases h.2)];exact hd.out.2.2.2.2.2 x
           have rO:=Y0 hIn;clear hIn
           go_wp2_with (first
            | (revert hfl;intro _;go_at_call 106;refine (f106 lo ib ig y wr (Jo.out.pure hBw.out) (by have:=OV.out;omega)).mono ?_;rw [OW.out];rintro e w6 ⟨rfl,eQ⟩;have bU:=Y0 eQ;clear eQ;have Ge:True:=trivial;have k0:w6.cell? ⟨w.heap.size,0,none⟩=some (.string root):=ag (ag (cellAt (j:=0) hroot.out rfl) hBw.out) bU.out;have k1:w6.cell? ⟨nb+1+1,1,none⟩=some (.map (some nb)):=ag (cellAt (j:=1) hd.out.2.2.1 rfl) bU.out;have k2:w6.cell? ⟨nb+1+1,2,none⟩=some (.map (some (nb+1))):=ag (cellAt (j:=2) hd.out.2.2.1 rfl) bU.out)
            | (revert Ge;intro _;go_at_call 108;refine (f108 y root _ (by have:=OV.out;omega) (by have:=HX.out.2.2.1;omega)).mono ?_;rw [kW,rO.out];rintro e w7 ⟨rfl,rfl⟩;have Ns:True:=trivial)
            | (revert Ns;intro _;refine aM (f:=aO) (b:=true) rfl _ _ _ 91 rfl _ _ underlying91 underlying9 rfl (hd.out.2.1.pure bU.out) rfl rfl ?_;intro w8 kU jV ke;have H8:=Y3 kU jV ke;clear kU jV ke;go_frame))
           refine ⟨⟨j+1,KT,bN li y true,by go_num,by omega,Y0 ⟨(hd.out.1.pure bU.out).grown H8.out.2.1 (by intro e;injection e with e;omega),H8.out.1,(H8.out.2.1.block _ (by have:=bU.out.size;omega) (by intro e;injection e with e;omega)).trans (ax hd.out.2.2.1 bU.out),(hd.out.2.2.2.1.trans (bU.out.mono (by omega))).grown H8.out.2.1 (by have:=bU.out.size;omega) (fun k e=>by injection e with e;omega),fun x=> ?_,fun x=> ?_⟩⟩,by simp [intOf];omega⟩
           · rw [htk.out,jx (P:=fun x=>dx ig x=false/\inside root x=false) (fun h=>by rw [rO.out] at h;cases h.2)];exact hd.out.2.2.2.2.1 x
           rw [bH,hd.out.2.2.2.2.2,htk.out];exact BO (P:=fun x=>dx ig x=false/\inside root x=true) ⟨hsk.out,rO.out⟩ x
         have hsk:Hid (dx ig y=true):=Y0 (by unfold dx;rw [CL];rfl)
         go_wp2_with (first
          | (revert hfl;intro _;go_at_call 106;refine (f106 lo ib ig y wr (Jo.out.pure hBw.out) (by have:=OV.out;omega)).mono ?_;rw [OW.out];rintro e w6 ⟨rfl,eQ⟩;have bU:=Y0 eQ;clear eQ;have Ge:True:=trivial;have k0:w6.cell? ⟨w.heap.size,0,none⟩=some (.string root):=ag (ag (cellAt (j:=0) hroot.out rfl) hBw.out) bU.out;have k1:w6.cell? ⟨nb+1+1,1,none⟩=some (.map (some nb)):=ag (cellAt (j:=1) hd.out.2.2.1 rfl) bU.out;have k2:w6.cell? ⟨nb+1+1,2,none⟩=some (.map (some (nb+1))):=ag (cellAt (j:=2) hd.out.2.2.1 rfl) bU.out))
         refine ⟨⟨j+1,KT,li,by go_num,by omega,Y0 ⟨hd.out.1.pure bU.out,hd.out.2.1.pure bU.out,ax hd.out.2.2.1 bU.out,hd.out.2.2.2.1.trans (bU.out.mono (by omega)),fun x=> ?_,fun x=> ?_⟩⟩,by simp [intOf];omega⟩
         · rw [htk.out,jx (P:=fun x=>dx ig x=false/\inside root x=false) (fun h=>by rw [hsk.out] at h;cases h.1)];exact hd.out.2.2.2.2.1 x
         rw [htk.out,jx (P:=fun x=>dx ig x=false/\inside root x=true) (fun h=>by rw [hsk.out] at h;cases h.1)];exact hd.out.2.2.2.2.2 x
       have OW:=Y0 Sk;have hsk:Hid (dx ig y=true):=Y0 (by unfold dx;rw [Sk];simp);clear Sk
       go_wp2_with (first
        | (revert hfl;intro _;go_at_call 106;refine (f106 lo ib ig y wr (Jo.out.pure hBw.out) (by have:=OV.out;omega)).mono ?_;rw [OW.out];rintro e w6 ⟨rfl,eQ⟩;have bU:=Y0 eQ;clear eQ;have Ge:True:=trivial;have k0:w6.cell? ⟨w.heap.size,0,none⟩=some (.string root):=ag (ag (cellAt (j:=0) hroot.out rfl) hBw.out) bU.out;have k1:w6.cell? ⟨nb+1+1,1,none⟩=some (.map (some nb)):=ag (cellAt (j:=1) hd.out.2.2.1 rfl) bU.out;have k2:w6.cell? ⟨nb+1+1,2,none⟩=some (.map (some (nb+1))):=ag (cellAt (j:=2) hd.out.2.2.1 rfl) bU.out))
       refine ⟨⟨j+1,KT,li,by go_num,by omega,Y0 ⟨hd.out.1.pure bU.out,hd.out.2.1.pure bU.out,ax hd.out.2.2.1 bU.out,hd.out.2.2.2.1.trans (bU.out.mono (by omega)),fun x=> ?_,fun x=> ?_⟩⟩,by simp [intOf];omega⟩
       · rw [htk.out,jx (P:=fun x=>dx ig x=false/\inside root x=false) (fun h=>by rw [hsk.out] at h;cases h.1)];exact hd.out.2.2.2.2.1 x
       rw [htk.out,jx (P:=fun x=>dx ig x=false/\inside root x=true) (fun h=>by rw [hsk.out] at h;cases h.1)];exact hd.out.2.2.2.2.2 x
     have wF:j=nd:=by omega
     have Ez:D.take j=D:=List.take_of_length_le (by have:=Jn.out.2.2.2.2;omega);have hd1:=hd.out;rw [Ez] at hd1;have HD:=Y0 hd1;have q0:=cellAt (j:=0) HD.out.2.2.1 rfl;have q1:=cellAt (j:=1) HD.out.2.2.1 rfl;have q2:=cellAt (j:=2) HD.out.2.2.1 rfl;clear hd hd1 Ez;subst wF;have hfl:True:=trivial;have hMr:Hid (ah nD.val wr rN W):=Y0 ((Yu.out.pure jA.out).pure hBw.out);have aaH:wn.heap.size<=nb:=by rw [Hnb.out];exact jA.out.size
     go_wp2_with (revert hfl;intro _;refine aM (f:=nD.val) (b:= .good nb (nb+1)) rfl _ _ _ 228 rfl _ _ underlying228 underlying9 rfl hMr.out rfl rfl ?_;intro w8 kU jV ke;have H8:=Y3 kU jV ke;clear kU jV ke;go_frame);have hw:=jX.out;have aaa:=Np.out;have hnw:=Dw.out.size;have aaI:Hid (nb<wr.heap.size/\nb+1<wr.heap.size):=Y0 (by have:=BN HD.out.2.2.1;omega);have aaJ:w.heap.size+3<=wn.heap.size:=by have h1:=hc.out.size;have h2:=hR.out.2.2.2.2.2.2.1.size;omega
     refine ⟨⟨fc,bN W t (.good nb (nb+1)),Y0 (hc.out.step hR.out.2.2.1 hR.out.2.2.2.1 hR.out.2.2.2.2.2.1 hR.out.2.2.2.2.2.2.1 (((Env.below jA.out).trans (Env.below hBw.out)).trans (Env.grown H8.out.2.1)) (by have h1:=jA.out.size;have h2:=hBw.out.size;have h3:=H8.out.2.2;omega) (fun c hc2 hne=>by rw [H8.out.2.1.block c (by have h1:=jA.out.size;have h2:=hBw.out.size;omega) (by intro e;injection e with e;exact hne e),hBw.out.block c (by have h1:=jA.out.size;omega),jA.out.block c hc2]) H8.out.1 (by omega) (fun u hu=>by rw [bk,if_neg (Ne.symm hu)]) ?_ ?_)⟩, ?_⟩
     · intro me mi h;rw [bk,if_pos rfl] at h;injection h with h
       injection h with h1 h2
       subst h1 h2;refine ⟨q,KT,li,⟨by rw [<-HQ.out.2.1];exact yl HX.out.1 HQ.out.1,by unfold cX;rw [HQ.out.2.1,HIg.out,HQ.out.2.2.1];rfl⟩,HD.out.1.grown H8.out.2.1 (by intro e;injection e with e;omega),HD.out.2.1.grown H8.out.2.1 (by intro e;injection e with e;omega),fun x=> ?_,fun x=> ?_,by omega,by omega,by omega,by omega⟩
       · rw [HD.out.2.2.2.2.1,mA,Jn.out.2.1]
       rw [HD.out.2.2.2.2.2,tG,Jn.out.2.1]
     · intro q' hq';exact ⟨nb,nb+1,by rw [bk,if_pos rfl]⟩
     have hkk:∀c,c<wn.heap.size->c≠rN->w8.heap[c]?=wn.heap[c]?:=fun c hc2 hne=>by rw [H8.out.2.1.block c (by have h1:=jA.out.size;have h2:=hBw.out.size;omega) (by intro e;injection e with e;exact hne e),hBw.out.block c (by have h1:=jA.out.size;omega),jA.out.block c hc2]
     have hsame:=hR.out.2.2.1.keep (hkk pm hR.out.2.2.1.map.lt (by omega)) (hkk it hR.out.2.2.1.lt (by omega));rw [aG hsame,aG hc.out.iter];have:=hR.out.2.2.2.2.1
     omega
 | nil=>
   have aU:True:=trivial
   have Yf:W.length<=1000000:=by
    have h1:=bQ hc.out.map.nodup (m:=pks.map (·.path)) (fun t ht=>by
     obtain ⟨h2,_⟩:=hc.out.keys t ht;obtain ⟨e,he⟩:=Option.isSome_iff_exists.1 (aF.2 h2);obtain ⟨q,hq,UG,_⟩:=HP.out.ent t e he;exact List.mem_map.2 ⟨q,hq,UG⟩)
    have h2:=HX.out.2.2.2.1;simp [af] at h1;omega
   have Yw:Hid (FY root ig pks wr W):=Y0 ⟨fun t me mi h=>by
    obtain ⟨q,le,li,a1,a2,a3,a4,a5,_⟩:=hc.out.ent t me mi h;exact ⟨q,le,li,a1,a2,a3,a4,a5⟩,fun t q hq=>by
    rcases hc.out.all t q hq with h|h
    · cases h
    exact h⟩
   have hFw:Hid (∀b,F b->b<wr.heap.size):=Y0 (fun b hb=>Nat.lt_of_lt_of_le (HX.out.2.2.2.2.2 b hb) hc.out.below.size);have C3:=Y0 hc.out.below
   go_wp2_with (first
    | (clear aU;refine ay (o:=⟨some 24,_,_,_,_,_⟩) rfl _ rfl rfl hc.out.iter ?_ (by intro y2 b2 left' w2 hmem;cases hmem);intro _;go_frame)
    | (go_at_call 109;refine (f109 (F:=F) rN W _ hc.out.map Yw.out Yf (fun q hq=>(HX.out.2.1 q hq).2.2) HX.out.2.2.2.1 hFw.out).mono ?_;rintro e w9 ⟨rm,em,L,rfl,h1,h2,h3,h4,h5⟩;have H9:=Y5 h1 h2 h3 h4 h5;clear h1 h2 h3 h4 h5))
   go_ret2;exact ⟨rm,em,L,rfl,Nat.le_trans C3.out.size H9.out.1,C3.out.trans (H9.out.2.1.mono C3.out.size),H9.out.2.2.1,H9.out.2.2.2.1,H9.out.2.2.2.2⟩
end Go.Proofs.YtjenhelmpcajfaaGreatDoor
