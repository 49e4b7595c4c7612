/- a range of versions has a version in it -/
import Derived.Test.YtjenhelmpcajfaaGreatDoorA04
set_option linter.all false
set_option maxRecDepth 100000
set_option maxHeartbeats 16000000
namespace Go.Proofs.YtjenhelmpcajfaaGreatDoor
open Go.Proofs.Tryz Go.RowKit
theorem f363 {F:Nat->Prop} (p:Pc) (v:SV) (bv:Value) (w:World) (hR:Rd lO F w bv p.bt) (hp:p.Ok 1000000) (hv:v.Ok):
 Calls Tryz.prog 363 #[p.val bv,v.val] w fun e w'=>e= .returned (.bool (p.has v))/\Below w.heap.size w w':=by
 have hcl:=fun w=>f287 v p.lo w (by have:=hv.pr;omega) (by have:=hp.lo.pr;omega)
 have hch:=fun w=>f287 v p.hi w (by have:=hv.pr;omega) (by have:=hp.hi.pr;omega)
 have vw:=fun x (hx:x∈p.bt) w=>f285 x v w (by have:=(hp.bt x hx).pr;omega) (by have:=hv.pr;omega)
 have ug:p.lowOk v= !(p.hl && (decide (dY v p.lo<0)||(decide (dY v p.lo=0) && !p.wl))):=rfl;have mY:p.highOk v= !(p.hh && (decide (0<dY v p.hi)||(decide (dY v p.hi=0) && !p.wh))):=rfl;have D9:=Lz (p:=p) (v:=v);have Ea:=Hl (p:=p) (v:=v);have Hn:=LF (p:=p) (v:=v);have qT:=Hm (p:=p) (v:=v);generalize p.has v=res at D9 Ea Hn qT ⊢;generalize p.lowOk v=Vf at D9 qT ug;generalize p.highOk v=hok at Ea qT mY;have hlen:=hp.len;obtain ⟨⟨la,lb,lc,lp,lm,lo⟩,⟨ha,hb,hc,wC,hm,ho⟩,hl,hh,wl,wh,bt⟩:=p;simp only [SV.val,Pc.val,Pc.arr] at hcl hch ug mY Hn qT hR hlen ⊢;generalize dY v ⟨la,lb,lc,lp,lm,lo⟩=c1 at hcl ug;generalize dY v ⟨ha,hb,hc,wC,hm,ho⟩=c2 at hch mY;clear hp hv;have HQ:=Y0 vw;have Pm:=Y0 Hn;have Vg:=Y0 qT;clear vw Hn qT;obtain ⟨va,vb,vc,vp,vm,vo⟩:=v;simp only at hcl hch HQ;obtain ⟨A,cap,rfl⟩:=hR.form;obtain ⟨-,hb1,hb2⟩:=hR.bound;have Eb:=Y0 hcl;have GI:=Y0 hch;have HR:=Y0 hR;clear hcl hch hR;obtain ⟨W2,hW2,g1,g2,hs2,cZ⟩:=dO w (.cells #[.int .u64 la, .int .u64 lb, .int .u64 lc, .string lp, .string lm, .string lo, .int .u64 ha, .int .u64 hb, .int .u64 hc, .string wC, .string hm, .string ho, .bool hl, .bool hh, .bool wl, .bool wh, .slice A bt.length cap] 329) (.cells #[.int .u64 va, .int .u64 vb, .int .u64 vc, .string vp, .string vm, .string vo] 264);have HG:=Y5 hW2 g1 g2 hs2 cZ
 have cells:∀wr,Below (w.heap.size+2) W2 wr->(∀j x,(#[Value.int .u64 la, .int .u64 lb, .int .u64 lc, .string lp, .string lm, .string lo, .int .u64 ha, .int .u64 hb, .int .u64 hc, .string wC, .string hm, .string ho, .bool hl, .bool hh, .bool wl, .bool wh, .slice A bt.length cap]:Array Value)[j]?=some x->wr.cell? ⟨w.heap.size,j,none⟩=some x)/\(∀j x,(#[Value.int .u64 va, .int .u64 vb, .int .u64 vc, .string vp, .string vm, .string vo]:Array Value)[j]?=some x->wr.cell? ⟨w.heap.size+1,j,none⟩=some x):=fun wr hb=>
  ⟨fun j x hx=>ae (aJ g1 (by omega) hb) hx,fun j x hx=>ae (aJ g2 (by omega) hb) hx⟩
 have HC:=Y0 cells;have TC:=Y0 (show ∀wr,Below (w.heap.size+2) W2 wr->_/\_/\_/\_/\_/\_/\_/\_/\_/\_/\_/\_/\_/\_/\_/\_ from fun wr hb=>⟨(cells wr hb).1 6 _ rfl,(cells wr hb).1 7 _ rfl,(cells wr hb).1 8 _ rfl,(cells wr hb).1 9 _ rfl,(cells wr hb).1 10 _ rfl,(cells wr hb).1 11 _ rfl,(cells wr hb).1 13 _ rfl,(cells wr hb).1 14 _ rfl,(cells wr hb).1 15 _ rfl,(cells wr hb).1 16 _ rfl,(cells wr hb).2 0 _ rfl,(cells wr hb).2 1 _ rfl,(cells wr hb).2 2 _ rfl,(cells wr hb).2 3 _ rfl,(cells wr hb).2 4 _ rfl,(cells wr hb).2 5 _ rfl⟩);have zw:Hid (Below (w.heap.size+2) W2 W2):=Y0 (Below.refl _ _);clear hW2 g1 g2 hs2 cZ cells
 have low:(hl=false/\Hid (Vf=true))\/(hl=true/\0<c1/\Hid (Vf=true))\/(hl=true/\c1=0/\wl=true/\Hid (Vf=true))\/(hl=true/\c1<0/\Hid (res=false))\/(hl=true/\c1=0/\wl=false/\Hid (res=false)):=by
  cases hl
  · exact .inl ⟨rfl,Y0 (by rw [ug];rfl)⟩
  rcases Int.lt_trichotomy c1 0 with h|h|h
  · exact .inr (.inr (.inr (.inl ⟨rfl,h,Y0 (D9 (by rw [ug,decide_eq_true h];rfl))⟩)))
  · cases wl
    · exact .inr (.inr (.inr (.inr ⟨rfl,h,rfl,Y0 (D9 (by rw [ug,decide_eq_true h];simp))⟩)))
    exact .inr (.inr (.inl ⟨rfl,h,rfl,Y0 (by rw [ug,h];rfl)⟩))
  exact .inr (.inl ⟨rfl,h,Y0 (by rw [ug,decide_eq_false (by omega),decide_eq_false (by omega)];rfl)⟩)
 have high:(hh=false/\Hid (hok=true))\/(hh=true/\c2<0/\Hid (hok=true))\/(hh=true/\c2=0/\wh=true/\Hid (hok=true))\/(hh=true/\0<c2/\Hid (res=false))\/(hh=true/\c2=0/\wh=false/\Hid (res=false)):=by
  cases hh
  · exact .inl ⟨rfl,Y0 (by rw [mY];rfl)⟩
  rcases Int.lt_trichotomy c2 0 with h|h|h
  · exact .inr (.inl ⟨rfl,h,Y0 (by rw [mY,decide_eq_false (by omega),decide_eq_false (by omega)];rfl)⟩)
  · cases wh
    · exact .inr (.inr (.inr (.inr ⟨rfl,h,rfl,Y0 (Ea (by rw [mY,decide_eq_true h];simp))⟩)))
    exact .inr (.inr (.inl ⟨rfl,h,rfl,Y0 (by rw [mY,h];rfl)⟩))
  exact .inr (.inr (.inr (.inl ⟨rfl,h,Y0 (Ea (by rw [mY,decide_eq_true h];rfl))⟩)))
 clear ug mY D9 Ea;have hbase:Hid (∀wr,Below (w.heap.size+2) W2 wr->Below w.heap.size w wr):=Y0 fun wr h=>HG.out.2.2.2.2.trans (h.mono (by omega))
 rcases low with ⟨rfl,hlk⟩|⟨rfl,h1,hlk⟩|⟨rfl,rfl,rfl,hlk⟩|⟨rfl,h1,hres⟩|⟨rfl,rfl,rfl,hres⟩
 case inr.inr.inr.inl|inr.inr.inr.inr=>
  clear high;go_enter func363,ntmps363;go_wp2_with (go_at_call 287;(first|with_reducible refine (Eb.out _).mono ?_|with_reducible refine (GI.out _).mono ?_);rintro e w1 ⟨rfl,az⟩;(try rw [<-HG.out.1] at az);have zw:=Y0 (zw.out.trans (az.mono (by have:=zw.out.size;have:=HG.out.2.2.2.1;omega)));clear az;(try clear hx);have hx:=TC.out _ zw.out);go_ret;exact ⟨aq hres.out.symm,hbase.out _ zw.out⟩
 all_goals
  (try (have q1:(c1==0)=false:=by simp;omega))
  rcases high with ⟨rfl,Vh⟩|⟨rfl,h2,Vh⟩|⟨rfl,rfl,rfl,Vh⟩|⟨rfl,h2,hres⟩|⟨rfl,rfl,rfl,hres⟩
  case inr.inr.inr.inl|inr.inr.inr.inr=>
   go_enter func363,ntmps363;go_wp2_with (go_at_call 287;(first|with_reducible refine (Eb.out _).mono ?_|with_reducible refine (GI.out _).mono ?_);rintro e w1 ⟨rfl,az⟩;(try rw [<-HG.out.1] at az);have zw:=Y0 (zw.out.trans (az.mono (by have:=zw.out.size;have:=HG.out.2.2.2.1;omega)));clear az;(try clear hx);have hx:=TC.out _ zw.out);go_ret;exact ⟨aq hres.out.symm,hbase.out _ zw.out⟩
  all_goals
   (try (have q2:(c2==0)=false:=by simp;omega))
   go_enter func363,ntmps363;go_wp2_with (go_at_call 287;(first|with_reducible refine (Eb.out _).mono ?_|with_reducible refine (GI.out _).mono ?_);rintro e w1 ⟨rfl,az⟩;(try rw [<-HG.out.1] at az);have zw:=Y0 (zw.out.trans (az.mono (by have:=zw.out.size;have:=HG.out.2.2.2.1;omega)));clear az;(try clear hx);have hx:=TC.out _ zw.out)
   (try clear hx)
   (try rw [<-HG.out.1])
   go_loopw [46] (fun i wr=>∃k:Nat,i= .int .i64 k/\k<=bt.length/\Hid ((bt.take k).any (fun x=>yD x ⟨va,vb,vc,vp,vm,vo⟩)=false/\Below (w.heap.size+2) W2 wr)) (fun i _=>bt.length - (intOf i).toNat)
   case atStart=>exact ⟨0,rfl,by omega,Y0 ⟨rfl,zw.out⟩⟩
   case round=>
    obtain ⟨k,rfl,hk,H⟩:=hrel;by_cases hlt:k<bt.length
    · have ZR:Rd lO F wr (.slice A bt.length cap) bt:=HR.out.pure (hbase.out _ H.out.2);obtain ⟨g,off,rfl,hg,z0,z1,z2,z3,z4,z5⟩:=JZ ZR hlt;have hcall:=HQ.out bt[k] (List.getElem_mem hlt);have hstep:=Y0 (oZ bt (fun x=>yD x ⟨va,vb,vc,vp,vm,vo⟩) k hlt H.out.1);have hall:=Y0 Pm.out;generalize hbk:bt[k]=x at*;obtain ⟨xa,xb,xc,xp,xm,xo⟩:=x;simp only [SV.val] at*;have lQ:=Y0 hcall;have HBK:=Y0 hbk;clear hcall ZR hbk;generalize heq:yD ⟨xa,xb,xc,xp,xm,xo⟩ ⟨va,vb,vc,vp,vm,vo⟩=bq at lQ hstep;have HEQ:=Y0 heq;clear heq;have hx:=(TC.out _ H.out.2).2.2.2.2.2.2.2.2.2.2;have hsz:w.heap.size+2<=wr.heap.size:=(by have:=H.out.2.size;have:=HG.out.2.2.2.1;omega);have hsz1:w.heap.size+1<wr.heap.size:=by omega
      have Pn:w.heap.size<wr.heap.size:=by omega
      cases bq
      · go_wp2_with (go_at_call 285;(with_reducible refine (lQ.out _).mono ?_);rintro e w3 ⟨rfl,bb⟩;have dK:=Y0 bb;clear bb);go_roundw
        case rel=>exact ⟨k+1,by go_num,by omega,Y0 ⟨hstep.out.2 trivial,(H.out.2.alloc (by have:=hsz;omega) _).trans (dK.out.mono (by have:=hsz;simp;omega))⟩⟩
        simp [intOf];omega
      go_wp2_with (go_at_call 285;(with_reducible refine (lQ.out _).mono ?_);rintro e w3 ⟨rfl,bb⟩;have dK:=Y0 bb;clear bb);go_ret;exact ⟨aq (Pm.out (hstep.out.1 trivial)).symm,hbase.out _ ((H.out.2.alloc (by have:=hsz;omega) _).trans (dK.out.mono (by have:=hsz;simp;omega)))⟩
    have hk2:k=bt.length:=by omega
    have h:=H.out.1;rw [hk2,List.take_length] at h;have HA:=Y0 h;clear h;subst hk2;go_wp2;go_ret;exact ⟨aq (Vg.out hlk.out Vh.out HA.out).symm,hbase.out _ H.out.2⟩
theorem aZ (w:World) (o1:Obj):∃W,W=w.alloc o1/\W.heap[w.heap.size]?=some o1/\W.heap.size=w.heap.size+1/\Below w.heap.size w W:=
 ⟨_,rfl,heap_alloc_new _ _,by simp,(Below.refl _ _).alloc (Nat.le_refl _) _⟩
theorem f362 {F:Nat->Prop} (p:Pc) (bv:Value) (w:World) (hR:Rd lO F w bv p.bt) (hp:p.Ok 1000000):
 Calls Tryz.prog 362 #[p.val bv] w fun e w'=>e= .returned (.bool p.emp)/\Below w.heap.size w w':=by
 have hcl:=fun w=>f287 p.lo p.hi w (by have:=hp.lo.pr;omega) (by have:=hp.hi.pr;omega)
 have hhas:=fun (w':World) (hB:Below w.heap.size w w')=>f363 (F:=F) p p.lo bv w' (hR.pure hB) hp hp.lo
 have hemp:p.emp=(p.hl && p.hh && (decide (0<dY p.lo p.hi)||(decide (dY p.lo p.hi=0) && (!p.wl|| !p.wh|| !p.has p.lo)))):=rfl;generalize p.has p.lo=hs at hhas hemp;generalize p.emp=res at hemp ⊢;obtain ⟨⟨la,lb,lc,lp,lm,lo⟩,⟨ha,hb,hc,wC,hm,ho⟩,hl,hh,wl,wh,bt⟩:=p;simp only [SV.val,Pc.val,Pc.arr] at hcl hhas hemp hR ⊢;generalize dY ⟨la,lb,lc,lp,lm,lo⟩ ⟨ha,hb,hc,wC,hm,ho⟩=c1 at hcl hemp;obtain ⟨A,cap,rfl⟩:=hR.form;have Eb:=Y0 hcl;have HS:=Y0 hhas;clear hcl hhas hR hp;obtain ⟨W1,hW1,g1,hs1,az⟩:=aZ w (.cells #[.int .u64 la, .int .u64 lb, .int .u64 lc, .string lp, .string lm, .string lo, .int .u64 ha, .int .u64 hb, .int .u64 hc, .string wC, .string hm, .string ho, .bool hl, .bool hh, .bool wl, .bool wh, .slice A bt.length cap] 329);have HG:=Y4 hW1 g1 hs1 az;clear hW1 g1 hs1 az
 have LG:(hl=false/\Hid (res=false))\/(hl=true/\hh=false/\Hid (res=false))\/(hl=true/\hh=true/\c1<0/\Hid (res=false))\/(hl=true/\hh=true/\0<c1/\Hid (res=true))\/(hl=true/\hh=true/\c1=0/\wl=false/\Hid (res=true))\/(hl=true/\hh=true/\c1=0/\wl=true/\wh=false/\Hid (res=true))\/(hl=true/\hh=true/\c1=0/\wl=true/\wh=true/\Hid (res= !hs)):=by
  cases hl
  · exact .inl ⟨rfl,Y0 (by rw [hemp];rfl)⟩
  cases hh
  · exact .inr (.inl ⟨rfl,rfl,Y0 (by rw [hemp];rfl)⟩)
  rcases Int.lt_trichotomy c1 0 with h|h|h
  · exact .inr (.inr (.inl ⟨rfl,rfl,h,Y0 (by rw [hemp,decide_eq_false (by omega),decide_eq_false (by omega)];rfl)⟩))
  · cases wl
    · exact .inr (.inr (.inr (.inr (.inl ⟨rfl,rfl,h,rfl,Y0 (by rw [hemp,h];rfl)⟩))))
    cases wh
    · exact .inr (.inr (.inr (.inr (.inr (.inl ⟨rfl,rfl,h,rfl,rfl,Y0 (by rw [hemp,h];rfl)⟩)))))
    exact .inr (.inr (.inr (.inr (.inr (.inr ⟨rfl,rfl,h,rfl,rfl,Y0 (by rw [hemp,h];simp)⟩)))))
  exact .inr (.inr (.inr (.inl ⟨rfl,rfl,h,Y0 (by rw [hemp,decide_eq_true h];rfl)⟩)))
 clear hemp;have hbase:Hid (∀wr,Below (w.heap.size+1) W1 wr->Below w.heap.size w wr):=Y0 fun wr h=>HG.out.2.2.2.trans (h.mono (by omega))
 have hcell:Hid (∀wr,Below (w.heap.size+1) W1 wr->∀j x,(#[Value.int .u64 la, .int .u64 lb, .int .u64 lc, .string lp, .string lm, .string lo, .int .u64 ha, .int .u64 hb, .int .u64 hc, .string wC, .string hm, .string ho, .bool hl, .bool hh, .bool wl, .bool wh, .slice A bt.length cap]:Array Value)[j]?=some x->wr.cell? ⟨w.heap.size,j,none⟩=some x):=Y0 fun wr hb j x hx=>ae (aJ HG.out.2.1 (by omega) hb) hx
 rcases LG with ⟨rfl,hres⟩|⟨rfl,rfl,hres⟩|⟨rfl,rfl,h1,hres⟩|⟨rfl,rfl,h1,hres⟩|⟨rfl,rfl,rfl,rfl,hres⟩|⟨rfl,rfl,rfl,rfl,rfl,hres⟩|⟨rfl,rfl,rfl,rfl,rfl,hres⟩
 · go_enter func362,ntmps362;go_wp2;go_ret;exact ⟨aq hres.out.symm,(Below.refl _ _).alloc (Nat.le_refl _) _⟩
 · go_enter func362,ntmps362;go_wp2;go_ret;exact ⟨aq hres.out.symm,(Below.refl _ _).alloc (Nat.le_refl _) _⟩
 all_goals
  (try (have q1:(c1==0)=false:=by simp;omega))
  go_enter func362,ntmps362
  go_wp2_with (first
   | (go_at_call 287;(with_reducible refine (Eb.out _).mono ?_);rintro e w1 ⟨rfl,az⟩;(try rw [<-HG.out.1] at az);have dz:Hid (Below (w.heap.size+1) W1 w1):=Y0 (az.mono (by have:=HG.out.2.2.1;omega));clear az;have x0:w1.cell? ⟨w.heap.size,0,none⟩=some (.int .u64 la):=hcell.out _ dz.out 0 _ rfl;have x1:w1.cell? ⟨w.heap.size,1,none⟩=some (.int .u64 lb):=hcell.out _ dz.out 1 _ rfl;have x2:w1.cell? ⟨w.heap.size,2,none⟩=some (.int .u64 lc):=hcell.out _ dz.out 2 _ rfl;have x3:w1.cell? ⟨w.heap.size,3,none⟩=some (.string lp):=hcell.out _ dz.out 3 _ rfl;have x4:w1.cell? ⟨w.heap.size,4,none⟩=some (.string lm):=hcell.out _ dz.out 4 _ rfl;have x5:w1.cell? ⟨w.heap.size,5,none⟩=some (.string lo):=hcell.out _ dz.out 5 _ rfl;have x6:w1.cell? ⟨w.heap.size,6,none⟩=some (.int .u64 ha):=hcell.out _ dz.out 6 _ rfl;have x7:w1.cell? ⟨w.heap.size,7,none⟩=some (.int .u64 hb):=hcell.out _ dz.out 7 _ rfl;have x8:w1.cell? ⟨w.heap.size,8,none⟩=some (.int .u64 hc):=hcell.out _ dz.out 8 _ rfl;have x9:w1.cell? ⟨w.heap.size,9,none⟩=some (.string wC):=hcell.out _ dz.out 9 _ rfl;have TD:w1.cell? ⟨w.heap.size,10,none⟩=some (.string hm):=hcell.out _ dz.out 10 _ rfl;have TE:w1.cell? ⟨w.heap.size,11,none⟩=some (.string ho):=hcell.out _ dz.out 11 _ rfl;have TF:=hcell.out _ dz.out 12 _ rfl;have TG:=hcell.out _ dz.out 13 _ rfl;have TH:=hcell.out _ dz.out 14 _ rfl;have TI:=hcell.out _ dz.out 15 _ rfl;have Po:w1.cell? ⟨w.heap.size,16,none⟩=some (.slice A bt.length cap):=hcell.out _ dz.out 16 _ rfl)
   | (go_at_call 363;(with_reducible refine (HS.out _ (hbase.out _ dz.out)).mono ?_);rintro e w2 ⟨rfl,cZ⟩;have dz:=Y0 (dz.out.trans (cZ.mono (by have:=dz.out.size;have:=HG.out.2.2.1;omega)));clear cZ))
  go_ret;refine ⟨aq ?_,hbase.out _ dz.out⟩;rw [hres.out]
  first|done|rfl|(simp;done)|(simp;omega)|trace_state
end Go.Proofs.YtjenhelmpcajfaaGreatDoor
