/- two ranges at once -/
import Derived.Test.YtjenhelmpcajfaaGreatDoorA05
import Derived.Deep.DeepCutAuto
import Derived.Handy
set_option linter.all false
set_option maxRecDepth 100000
set_option maxHeartbeats 16000000
namespace Go.Proofs.YtjenhelmpcajfaaGreatDoor
open Go.Proofs.Tryz Go.RowKit
def Hq:Array Value:= #[.int .u64 0, .int .u64 0, .int .u64 0, .string ⟨#[]⟩, .string ⟨#[]⟩, .string ⟨#[]⟩, .int .u64 0, .int .u64 0, .int .u64 0, .string ⟨#[]⟩, .string ⟨#[]⟩, .string ⟨#[]⟩, .bool false, .bool false, .bool false, .bool false, .slice none 0 0]
theorem o6 (w:World) (o1 o2 o3:Obj):∃W,W=((w.alloc o1).alloc o2).alloc o3/\W.heap[w.heap.size]?=some o1/\W.heap[w.heap.size+1]?=some o2/\W.heap[w.heap.size+2]?=some o3/\W.heap.size=w.heap.size+3/\Below w.heap.size w W:=by
 refine ⟨_,rfl, ?_, ?_, ?_,by simp,(((Below.refl _ _).alloc (Nat.le_refl _) _).alloc (by simp) _).alloc (by simp;omega) _⟩
 · exact (Below.heap_alloc ((w.alloc o1).alloc o2) o3 w.heap.size (by simp;omega)).trans ((Below.heap_alloc (w.alloc o1) o2 w.heap.size (by simp)).trans (heap_alloc_new w o1))
 · have h:=heap_alloc_new (w.alloc o1) o2;rw [World.size_alloc] at h;exact (Below.heap_alloc ((w.alloc o1).alloc o2) o3 (w.heap.size+1) (by simp)).trans h
 have h:=heap_alloc_new ((w.alloc o1).alloc o2) o3
 rwa [World.size_alloc,World.size_alloc] at h
structure bM (w:World) (ar br:Array Value) (W:World):Prop where
 p:W.heap[w.heap.size]?=some (.cells ar 329 (0,0))
 q:W.heap[w.heap.size+1]?=some (.cells br 329 (0,0))
 r:W.heap[w.heap.size+2]?=some (.cells Hq 329 (0,0))
 below:Below w.heap.size w W
theorem bM.set {w:World} {ar br:Array Value} {W:World} (h:bM w ar br W) (j:Nat) (v:Value):bM w (ar.setIfInBounds j v) br (W.setCell ⟨w.heap.size,j,none⟩ v):=
 ⟨heap_setCell_same _ _ _ _ _ _ h.p,by rw [heap_setCell_other _ _ _ _ (by simp)];exact h.q,by rw [heap_setCell_other _ _ _ _ (by simp)];exact h.r,h.below.setCell (Nat.le_refl _) _⟩
theorem bM.drew {w:World} {ar br:Array Value} {W:World} (h:bM w ar br W):bM w ar br W.drew:=⟨h.p,h.q,h.r,h.below.drew⟩
theorem bM.size {w:World} {ar br:Array Value} {W:World} (h:bM w ar br W):w.heap.size+3<=W.heap.size:=by
 have:=(Array.getElem?_eq_some_iff.1 h.r).1;omega
theorem bM.pure {w:World} {ar br:Array Value} {W W':World} (h:bM w ar br W) (hb:Below W.heap.size W W'):bM w ar br W':=
 ⟨l9 h.p hb,l9 h.q hb,l9 h.r hb,h.below.trans (hb.mono h.below.size)⟩
where l9 {w w':World} {n:Nat} {o:Obj} (h:w.heap[n]?=some o) (hb:Below w.heap.size w w'):w'.heap[n]?=some o:=(hb.block n (Array.getElem?_eq_some_iff.1 h).1).trans h
theorem bM.low {w:World} {br:Array Value} {W:World} {a0 a1 a2 a3 a4 a5 a6 a7 a8 a9 Hr Hs a12 Ht Hu Hv Hw:Value} (h:bM w #[a0,a1,a2,a3,a4,a5,a6,a7,a8,a9,Hr,Hs,a12,Ht,Hu,Hv,Hw] br W) (b0 b1 b2 b3 b4 b5 Vs Vt:Value):
 bM w #[b0,b1,b2,b3,b4,b5,a6,a7,a8,a9,Hr,Hs,Vs,Ht,Vt,Hv,Hw] br ((((((((W.setCell ⟨w.heap.size,0,none⟩ b0).setCell ⟨w.heap.size,1,none⟩ b1).setCell ⟨w.heap.size,2,none⟩ b2).setCell ⟨w.heap.size,3,none⟩ b3).setCell ⟨w.heap.size,4,none⟩ b4).setCell ⟨w.heap.size,5,none⟩ b5).setCell ⟨w.heap.size,12,none⟩ Vs).setCell ⟨w.heap.size,14,none⟩ Vt).drew:=by
 simpa only [aA,aB,aC] using ((((((((h.set 0 b0).set 1 b1).set 2 b2).set 3 b3).set 4 b4).set 5 b5).set 12 Vs).set 14 Vt).drew
theorem bM.high {w:World} {br:Array Value} {W:World} {a0 a1 a2 a3 a4 a5 a6 a7 a8 a9 Hr Hs a12 Ht Hu Hv Hw:Value} (h:bM w #[a0,a1,a2,a3,a4,a5,a6,a7,a8,a9,Hr,Hs,a12,Ht,Hu,Hv,Hw] br W) (b6 b7 b8 b9 Oh Oi Vu Vv:Value):
 bM w #[a0,a1,a2,a3,a4,a5,b6,b7,b8,b9,Oh,Oi,a12,Vu,Hu,Vv,Hw] br ((((((((W.setCell ⟨w.heap.size,6,none⟩ b6).setCell ⟨w.heap.size,7,none⟩ b7).setCell ⟨w.heap.size,8,none⟩ b8).setCell ⟨w.heap.size,9,none⟩ b9).setCell ⟨w.heap.size,10,none⟩ Oh).setCell ⟨w.heap.size,11,none⟩ Oi).setCell ⟨w.heap.size,13,none⟩ Vu).setCell ⟨w.heap.size,15,none⟩ Vv).drew:=by
 simpa only [aA,aB,aC] using ((((((((h.set 6 b6).set 7 b7).set 8 b8).set 9 b9).set 10 Oh).set 11 Oi).set 13 Vu).set 15 Vv).drew
theorem uk:(Tryz.prog.info? 264).map (fun i=>(i.zero,i.size,i.bytes))=some (some (.agg #[.int .u64 0, .int .u64 0, .int .u64 0, .string ⟨#[]⟩, .string ⟨#[]⟩, .string ⟨#[]⟩]),lO.sz,72):=by kernel_rfl
theorem LM {F:Nat->Prop} {w:World} {A:Option Addr} {n cap:Nat} {vs:List SV} (h:Rd lO F w (.slice A n cap) vs) {k:Nat} (hk:k<vs.length):
 ∃g off,A=some ⟨g,off,none⟩/\¬F g/\g<w.heap.size/\∀w':World,w'.heap[g]?=w.heap[g]?->w'.cell? ⟨g,off+k*6,none⟩=some (.int .u64 vs[k].a)/\w'.cell? ⟨g,off+k*6+1,none⟩=some (.int .u64 vs[k].b)/\w'.cell? ⟨g,off+k*6+2,none⟩=some (.int .u64 vs[k].c)/\
  w'.cell? ⟨g,off+k*6+3,none⟩=some (.string vs[k].pr)/\w'.cell? ⟨g,off+k*6+4,none⟩=some (.string vs[k].mt)/\w'.cell? ⟨g,off+k*6+5,none⟩=some (.string vs[k].og):=by
 obtain ⟨g,off,cs,hA,hF,hg,hcs,hc⟩:=h.at_ (List.getElem?_eq_getElem hk);have hcs:cs=vs[k].cl:=hcs;subst hcs;refine ⟨g,off,hA,hF,hg,fun w' hw=> ?_⟩;have key:∀j u,vs[k].cl[j]?=some u->w'.cell? ⟨g,off+k*6+j,none⟩=some u:=fun j u hu=>(World.cell?_of_block (w:=w) (a:=⟨g,off+k*6+j,none⟩) hw).trans (hc j u hu)
 exact ⟨key 0 _ rfl,key 1 _ rfl,key 2 _ rfl,key 3 _ rfl,key 4 _ rfl,key 5 _ rfl⟩
theorem bM.keep {w:World} {ar br:Array Value} {W W':World} (h:bM w ar br W) (hk:∀b,b<w.heap.size+3->W'.heap[b]?=W.heap[b]?) (hb:Below w.heap.size w W'):bM w ar br W':=
 ⟨(hk _ (by omega)).trans h.p,(hk _ (by omega)).trans h.q,(hk _ (by omega)).trans h.r,hb⟩
theorem iw {base:Nat} {e:TypeId} {F F':Nat->Prop} {w w':World} {v:Value} {l:List SV} (h:Own lO base e F w v l) (hk:∀k,v.ownBlock=some k->w'.heap[k]?=w.heap[k]?) (hF:∀b,F b->F' b):Own lO base e F' w' v l:=by
 obtain ⟨cs,h1,h2,h3⟩:=h
 exact ⟨cs,bD h1 hk,fun k q=>hF k (h2 k q),fun i x hx=>by
  obtain ⟨c,hr,hc⟩:=h3 i x hx;exact ⟨c,hr,hc⟩⟩
theorem mf {α β:Type} (f:β->α->β) (b:β) (xs:List α) (k:Nat) (h:k<xs.length):(xs.take (k+1)).foldl f b=f ((xs.take k).foldl f b) xs[k]:=by
 rw [List.take_succ_eq_append_getElem h,List.foldl_append];rfl
theorem Em (p q:Pc):(p.bothL q).bt=p.bt:=by
 unfold Pc.bothL;split
 · split
   · rfl
   split<;>rfl
 rfl
theorem En (p q:Pc):(p.bothH q).bt=p.bt:=by
 unfold Pc.bothH;split
 · split
   · rfl
   split<;>rfl
 rfl
theorem wI {W:World} {b:Nat} {t:TypeId} {fr:Nat × Nat} {a0 a1 a2 a3 a4 a5 a6 a7 a8 a9 Hr Hs a12 Ht Hu Hv Hw:Value} (h:W.heap[b]?=some (.cells #[a0,a1,a2,a3,a4,a5,a6,a7,a8,a9,Hr,Hs,a12,Ht,Hu,Hv,Hw] t fr)):W.cell? ⟨b,0,none⟩=some a0/\W.cell? ⟨b,1,none⟩=some a1/\W.cell? ⟨b,2,none⟩=some a2/\W.cell? ⟨b,3,none⟩=some a3/\W.cell? ⟨b,4,none⟩=some a4/\W.cell? ⟨b,5,none⟩=some a5/\W.cell? ⟨b,12,none⟩=some a12/\W.cell? ⟨b,14,none⟩=some Hu:=⟨ae h rfl,ae h rfl,ae h rfl,ae h rfl,ae h rfl,ae h rfl,ae h rfl,ae h rfl⟩
theorem PG {W:World} {b:Nat} {t:TypeId} {cs:Array Value} (h:W.heap[b]?=some (.cells cs t (0,0))):W.frozen? ⟨b,0,none⟩=false/\W.frozen? ⟨b,1,none⟩=false/\W.frozen? ⟨b,2,none⟩=false/\W.frozen? ⟨b,3,none⟩=false/\W.frozen? ⟨b,4,none⟩=false/\W.frozen? ⟨b,5,none⟩=false/\W.frozen? ⟨b,12,none⟩=false/\W.frozen? ⟨b,14,none⟩=false:=⟨frozen_of_row _ _ _ _ _ h,frozen_of_row _ _ _ _ _ h,frozen_of_row _ _ _ _ _ h,frozen_of_row _ _ _ _ _ h,frozen_of_row _ _ _ _ _ h,frozen_of_row _ _ _ _ _ h,frozen_of_row _ _ _ _ _ h,frozen_of_row _ _ _ _ _ h⟩
theorem wJ {W:World} {b:Nat} {t:TypeId} {fr:Nat × Nat} {a0 a1 a2 a3 a4 a5 a6 a7 a8 a9 Hr Hs a12 Ht Hu Hv Hw:Value} (h:W.heap[b]?=some (.cells #[a0,a1,a2,a3,a4,a5,a6,a7,a8,a9,Hr,Hs,a12,Ht,Hu,Hv,Hw] t fr)):W.cell? ⟨b,6,none⟩=some a6/\W.cell? ⟨b,7,none⟩=some a7/\W.cell? ⟨b,8,none⟩=some a8/\W.cell? ⟨b,9,none⟩=some a9/\W.cell? ⟨b,10,none⟩=some Hr/\W.cell? ⟨b,11,none⟩=some Hs/\W.cell? ⟨b,13,none⟩=some Ht/\W.cell? ⟨b,15,none⟩=some Hv:=⟨ae h rfl,ae h rfl,ae h rfl,ae h rfl,ae h rfl,ae h rfl,ae h rfl,ae h rfl⟩
theorem PH {W:World} {b:Nat} {t:TypeId} {cs:Array Value} (h:W.heap[b]?=some (.cells cs t (0,0))):W.frozen? ⟨b,6,none⟩=false/\W.frozen? ⟨b,7,none⟩=false/\W.frozen? ⟨b,8,none⟩=false/\W.frozen? ⟨b,9,none⟩=false/\W.frozen? ⟨b,10,none⟩=false/\W.frozen? ⟨b,11,none⟩=false/\W.frozen? ⟨b,13,none⟩=false/\W.frozen? ⟨b,15,none⟩=false:=⟨frozen_of_row _ _ _ _ _ h,frozen_of_row _ _ _ _ _ h,frozen_of_row _ _ _ _ _ h,frozen_of_row _ _ _ _ _ h,frozen_of_row _ _ _ _ _ h,frozen_of_row _ _ _ _ _ h,frozen_of_row _ _ _ _ _ h,frozen_of_row _ _ _ _ _ h⟩
theorem f361 {F:Nat->Prop} (p q:Pc) (pv qv:Value) (w:World) (hP:Rd lO F w pv p.bt) (hQ:Rd lO F w qv q.bt) (hp:p.Ok 100000) (hq:q.Ok 100000) (hF:∀b,F b->b<w.heap.size):
 Calls Tryz.prog 361 #[p.val pv,q.val qv] w fun e w'=>∃rv,e= .returned ((p.both q).val rv)/\Rd lO F w' rv (p.both q).bt/\Below w.heap.size w w':=by
 obtain ⟨W3,hW3,g1,g2,g3,hs3,bb⟩:=o6 w (.cells (p.arr pv) 329) (.cells (q.arr qv) 329) (.cells Hq 329);have HG:=Y3 hW3 (bM.mk g1 g2 g3 bb) hs3;clear hW3 g1 g2 g3 hs3 bb;have hcl:=fun w=>f287 q.lo p.lo w (by have:=hq.lo.pr;omega) (by have:=hp.lo.pr;omega)
 have hL:p.bothL q=if q.hl then (if 0<(if p.hl then dY q.lo p.lo else 1) then {p with lo:=q.lo,hl:=true,wl:=q.wl} else if (if p.hl then dY q.lo p.lo else 1)=0 then {p with wl:=p.wl && q.wl} else p) else p:=rfl
 have hH:∀p1:Pc,p1.bothH q=if q.hh then (if (if p1.hh then dY q.hi p1.hi else -1)<0 then {p1 with hi:=q.hi,hh:=true,wh:=q.wh} else if (if p1.hh then dY q.hi p1.hi else -1)=0 then {p1 with wh:=p1.wh && q.wh} else p1) else p1:=fun _=>rfl
 have PI:∀p1:Pc,p1.Ok 100000->(p1.bothH q).Ok 100000:=fun p1 h=>Pc.bothH_ok h hq
 have hch:∀p1:Pc,p1.Ok 100000->∀w,Calls Tryz.prog 287 #[q.hi.val,p1.hi.val] w fun e w'=>e= .returned (.int .i64 (dY q.hi p1.hi))/\Below w.heap.size w w':=fun p1 h w=>f287 q.hi p1.hi w (by have:=hq.hi.pr;omega) (by have:=h.hi.pr;omega)
 have su:=Pc.bothL_ok (q:=q) hp hq;have PJ:=Em p q;have J3:p.both q={(p.bothL q).bothH q with bt:=(p.bt++q.bt).foldl ((p.bothL q).bothH q).butF []}:=rfl;have hlen:=hp.len;have sO:=hq.len
 have qg:∀x∈p.bt++q.bt,x.Ok:=fun x hx=>by
  rcases List.mem_append.1 hx with hx|hx
  · exact hp.bt x hx
  exact hq.bt x hx
 have TL:=Y3 hH PI hch;clear hH PI hch;have sZ:=Y4 J3 su PJ qg;have HP:=Y0 hP;have HQ:=Y0 hQ;have HF:=Y0 hF;clear J3 su PJ qg hp hq hF;generalize hbr:p.both q=br at*;clear hbr;generalize hp1:p.bothL q=p1 at*;clear hp1;have HL:=Y0 hL;clear hL;obtain ⟨⟨TM,TN,TP,TQ,TR,TS⟩,⟨Vw,Vx,Vy,Vz,VB,VC⟩,phl,VE,ZV,VF,pL⟩:=p;obtain ⟨⟨wK,wL,wM,wO,wP,wQ⟩,⟨wR,wS,wT,wU,wV,wW⟩,Bb,zA,vz,vA,oh⟩:=q;obtain ⟨PA,mg,rfl⟩:=hP.form;obtain ⟨QA,jZ,rfl⟩:=hQ.form;clear hP hQ;simp only [Pc.val,Pc.arr,SV.val,Hq] at*;generalize dY ⟨wK,wL,wM,wO,wP,wQ⟩ ⟨TM,TN,TP,TQ,TR,TS⟩=c1 at*;have Eb:=Y0 hcl;clear hcl;go_enter func361,ntmps361;go_upto_if 11 with fail;go_cut [] (fun wx=>Hid (bM w (p1.arr (.slice PA pL.length mg)) #[.int .u64 wK, .int .u64 wL, .int .u64 wM, .string wO, .string wP, .string wQ, .int .u64 wR, .int .u64 wS, .int .u64 wT, .string wU, .string wV, .string wW, .bool Bb, .bool zA, .bool vz, .bool vA, .slice QA oh.length jZ] wx))
 case first=>
  rw [<-HG.out.1];cases Bb
  · obtain ⟨x0,x1,x2,x3,x4,x5,TF,TH⟩:=wI HG.out.2.1.p;obtain ⟨y0,y1,y2,y3,y4,y5,VG,Bc⟩:=wI HG.out.2.1.q;go_wp2;go_meet
    case rel=>
     rw [HL.out];exact Y0 HG.out.2.1
  cases phl
  · obtain ⟨x0,x1,x2,x3,x4,x5,TF,TH⟩:=wI HG.out.2.1.p;obtain ⟨y0,y1,y2,y3,y4,y5,VG,Bc⟩:=wI HG.out.2.1.q;obtain ⟨z0,z1,z2,z3,z4,z5,z12,z14⟩:=PG HG.out.2.1.p;go_wp2
    go_region
    go_wp2;go_meet;rw [HL.out];exact Y0 (HG.out.2.1.low _ _ _ _ _ _ _ _)
  obtain ⟨x0,x1,x2,x3,x4,x5,TF,TH⟩:=wI HG.out.2.1.p;obtain ⟨y0,y1,y2,y3,y4,y5,VG,Bc⟩:=wI HG.out.2.1.q;rcases Int.lt_trichotomy c1 0 with h|h|h
  · have h2:(c1==0)=false:=by simp;omega
    go_wp2_with (go_at_call 287;(with_reducible refine (Eb.out _).mono ?_);rintro e w1 ⟨rfl,az⟩;have dz:=Y0 az;clear az);go_meet;rw [HL.out];simp only [if_true];rw [if_neg (by omega),if_neg (by omega)];exact Y0 (HG.out.2.1.pure dz.out)
  · subst h;cases ZV
    · go_wp2_with (go_at_call 287;(with_reducible refine (Eb.out _).mono ?_);rintro e w1 ⟨rfl,az⟩;have dz:Hid (bM w #[.int .u64 TM, .int .u64 TN, .int .u64 TP, .string TQ, .string TR, .string TS, .int .u64 Vw, .int .u64 Vx, .int .u64 Vy, .string Vz, .string VB, .string VC, .bool true, .bool VE, .bool false, .bool VF, .slice PA pL.length mg] #[.int .u64 wK, .int .u64 wL, .int .u64 wM, .string wO, .string wP, .string wQ, .int .u64 wR, .int .u64 wS, .int .u64 wT, .string wU, .string wV, .string wW, .bool true, .bool zA, .bool vz, .bool vA, .slice QA oh.length jZ] w1):=Y0 (HG.out.2.1.pure az);clear az;have v14:w1.cell? ⟨w.heap.size,14,none⟩=some (.bool false):=ae dz.out.p rfl;have ZW:w1.cell? ⟨w.heap.size+1,14,none⟩=some (.bool vz):=ae dz.out.q rfl;have s14:w1.frozen? ⟨w.heap.size,14,none⟩=false:=frozen_of_row _ _ _ _ _ dz.out.p);go_meet
      case rel=>
       rw [HL.out];exact Y0 (dz.out.set 14 _)
    go_wp2_with (go_at_call 287;(with_reducible refine (Eb.out _).mono ?_);rintro e w1 ⟨rfl,az⟩;have dz:Hid (bM w #[.int .u64 TM, .int .u64 TN, .int .u64 TP, .string TQ, .string TR, .string TS, .int .u64 Vw, .int .u64 Vx, .int .u64 Vy, .string Vz, .string VB, .string VC, .bool true, .bool VE, .bool true, .bool VF, .slice PA pL.length mg] #[.int .u64 wK, .int .u64 wL, .int .u64 wM, .string wO, .string wP, .string wQ, .int .u64 wR, .int .u64 wS, .int .u64 wT, .string wU, .string wV, .string wW, .bool true, .bool zA, .bool vz, .bool vA, .slice QA oh.length jZ] w1):=Y0 (HG.out.2.1.pure az);clear az;have v14:w1.cell? ⟨w.heap.size,14,none⟩=some (.bool true):=ae dz.out.p rfl;have ZW:w1.cell? ⟨w.heap.size+1,14,none⟩=some (.bool vz):=ae dz.out.q rfl;have s14:w1.frozen? ⟨w.heap.size,14,none⟩=false:=frozen_of_row _ _ _ _ _ dz.out.p);go_meet;rw [HL.out];exact Y0 (dz.out.set 14 _)
  have h2:(c1==0)=false:=by simp;omega
  go_wp2_with (go_at_call 287;(with_reducible refine (Eb.out _).mono ?_);rintro e w1 ⟨rfl,az⟩;have dz:Hid (bM w #[.int .u64 TM, .int .u64 TN, .int .u64 TP, .string TQ, .string TR, .string TS, .int .u64 Vw, .int .u64 Vx, .int .u64 Vy, .string Vz, .string VB, .string VC, .bool true, .bool VE, .bool ZV, .bool VF, .slice PA pL.length mg] #[.int .u64 wK, .int .u64 wL, .int .u64 wM, .string wO, .string wP, .string wQ, .int .u64 wR, .int .u64 wS, .int .u64 wT, .string wU, .string wV, .string wW, .bool true, .bool zA, .bool vz, .bool vA, .slice QA oh.length jZ] w1):=Y0 (HG.out.2.1.pure az);clear az;clear x0 x1 x2 x3 x4 x5 TF TH y0 y1 y2 y3 y4 y5 VG Bc;obtain ⟨v0,v1,v2,v3,v4,v5,v12,v14⟩:=wI dz.out.p;obtain ⟨u0,u1,u2,u3,u4,u5,u12,ZW⟩:=wI dz.out.q;obtain ⟨z0,z1,z2,z3,z4,z5,z12,z14⟩:=PG dz.out.p)
  go_region
  go_wp2;go_meet;rw [HL.out];simp only [if_true];rw [if_pos h];exact Y0 (dz.out.low _ _ _ _ _ _ _ _)
 have e2:=TL.out.1 p1;obtain ⟨p2,hp2⟩:∃p2,p2=Pc.bothH p1 ⟨⟨wK,wL,wM,wO,wP,wQ⟩,⟨wR,wS,wT,wU,wV,wW⟩,Bb,zA,vz,vA,oh⟩:=⟨_,rfl⟩;rw [<-hp2] at e2;have iN:Hid (br={p2 with bt:=(pL++oh).foldl p2.butF []}/\p2.Ok 100000/\p2.bt=pL/\∀x∈pL++oh,x.Ok):=Y0 ⟨by have h:=sZ.out.1;rw [<-hp2] at h;exact h,by rw [hp2];exact TL.out.2.1 p1 sZ.out.2.1,by rw [hp2,En];exact sZ.out.2.2.1,sZ.out.2.2.2⟩;have GK:=Y0 e2;clear e2 hp2;have GI:=Y0 (TL.out.2.2 p1 sZ.out.2.1);clear HL Eb TL sZ HG;have HD:=hcut;clear hcut;have y13:wc.cell? ⟨w.heap.size+1,13,none⟩=some (.bool zA):=ae HD.out.q rfl;go_upto_if 38 with fail;clear y13;go_cut [] (fun wx=>Hid (bM w (p2.arr (.slice PA pL.length mg)) #[.int .u64 wK, .int .u64 wL, .int .u64 wM, .string wO, .string wP, .string wQ, .int .u64 wR, .int .u64 wS, .int .u64 wT, .string wU, .string wV, .string wW, .bool Bb, .bool zA, .bool vz, .bool vA, .slice QA oh.length jZ] wx))
 case first=>
  clear iN;obtain ⟨⟨VH,VI,VJ,VK,VL,VM⟩,⟨TT,TU,TV,TW,TX,TY⟩,VN,rhh,VO,ZX,rbt⟩:=p1;simp only [SV.val,Pc.arr] at HD GK GI ⊢;generalize dY ⟨wR,wS,wT,wU,wV,wW⟩ ⟨TT,TU,TV,TW,TX,TY⟩=c2 at*;cases zA
  · obtain ⟨x6,x7,x8,x9,TD,TE,TG,TI⟩:=wJ HD.out.p;obtain ⟨y6,y7,y8,y9,VP,VQ,y13,TZ⟩:=wJ HD.out.q;go_wp2;go_meet
    case rel=>
     rw [GK.out];exact Y0 HD.out
  cases rhh
  · obtain ⟨x6,x7,x8,x9,TD,TE,TG,TI⟩:=wJ HD.out.p;obtain ⟨y6,y7,y8,y9,VP,VQ,y13,TZ⟩:=wJ HD.out.q;obtain ⟨z6,z7,z8,z9,z10,z11,z13,ZY⟩:=PH HD.out.p;go_wp2
    go_region
    go_wp2;go_meet;rw [GK.out];exact Y0 (HD.out.high _ _ _ _ _ _ _ _)
  obtain ⟨x6,x7,x8,x9,TD,TE,TG,TI⟩:=wJ HD.out.p;obtain ⟨y6,y7,y8,y9,VP,VQ,y13,TZ⟩:=wJ HD.out.q;rcases Int.lt_trichotomy c2 0 with h|h|h
  · have h2:(c2==0)=false:=by simp;omega
    go_wp2_with (go_at_call 287;(with_reducible refine (GI.out _).mono ?_);rintro e w1 ⟨rfl,az⟩;have dz:Hid (bM w #[.int .u64 VH, .int .u64 VI, .int .u64 VJ, .string VK, .string VL, .string VM, .int .u64 TT, .int .u64 TU, .int .u64 TV, .string TW, .string TX, .string TY, .bool VN, .bool true, .bool VO, .bool ZX, .slice PA pL.length mg] #[.int .u64 wK, .int .u64 wL, .int .u64 wM, .string wO, .string wP, .string wQ, .int .u64 wR, .int .u64 wS, .int .u64 wT, .string wU, .string wV, .string wW, .bool Bb, .bool true, .bool vz, .bool vA, .slice QA oh.length jZ] w1):=Y0 (HD.out.pure az);clear az;clear x6 y6 x7 y7 x8 y8 x9 y9 TD VP TE VQ TG y13 TI TZ;obtain ⟨v6,v7,v8,v9,v10,v11,v13,v15⟩:=wJ dz.out.p;obtain ⟨u6,u7,u8,u9,u10,u11,u13,VR⟩:=wJ dz.out.q;obtain ⟨z6,z7,z8,z9,z10,z11,z13,ZY⟩:=PH dz.out.p)
    go_region
    go_wp2;go_meet;rw [GK.out];simp only [if_true];rw [if_pos h];exact Y0 (dz.out.high _ _ _ _ _ _ _ _)
  · subst h;cases ZX
    · go_wp2_with (go_at_call 287;(with_reducible refine (GI.out _).mono ?_);rintro e w1 ⟨rfl,az⟩;have dz:Hid (bM w #[.int .u64 VH, .int .u64 VI, .int .u64 VJ, .string VK, .string VL, .string VM, .int .u64 TT, .int .u64 TU, .int .u64 TV, .string TW, .string TX, .string TY, .bool VN, .bool true, .bool VO, .bool false, .slice PA pL.length mg] #[.int .u64 wK, .int .u64 wL, .int .u64 wM, .string wO, .string wP, .string wQ, .int .u64 wR, .int .u64 wS, .int .u64 wT, .string wU, .string wV, .string wW, .bool Bb, .bool true, .bool vz, .bool vA, .slice QA oh.length jZ] w1):=Y0 (HD.out.pure az);clear az;have v15:w1.cell? ⟨w.heap.size,15,none⟩=some (.bool false):=ae dz.out.p rfl;have VR:w1.cell? ⟨w.heap.size+1,15,none⟩=some (.bool vA):=ae dz.out.q rfl;have s15:w1.frozen? ⟨w.heap.size,15,none⟩=false:=frozen_of_row _ _ _ _ _ dz.out.p);go_meet
      case rel=>
       rw [GK.out];exact Y0 (dz.out.set 15 _)
    go_wp2_with (go_at_call 287;(with_reducible refine (GI.out _).mono ?_);rintro e w1 ⟨rfl,az⟩;have dz:Hid (bM w #[.int .u64 VH, .int .u64 VI, .int .u64 VJ, .string VK, .string VL, .string VM, .int .u64 TT, .int .u64 TU, .int .u64 TV, .string TW, .string TX, .string TY, .bool VN, .bool true, .bool VO, .bool true, .slice PA pL.length mg] #[.int .u64 wK, .int .u64 wL, .int .u64 wM, .string wO, .string wP, .string wQ, .int .u64 wR, .int .u64 wS, .int .u64 wT, .string wU, .string wV, .string wW, .bool Bb, .bool true, .bool vz, .bool vA, .slice QA oh.length jZ] w1):=Y0 (HD.out.pure az);clear az;have v15:w1.cell? ⟨w.heap.size,15,none⟩=some (.bool true):=ae dz.out.p rfl;have VR:w1.cell? ⟨w.heap.size+1,15,none⟩=some (.bool vA):=ae dz.out.q rfl;have s15:w1.frozen? ⟨w.heap.size,15,none⟩=false:=frozen_of_row _ _ _ _ _ dz.out.p);go_meet;rw [GK.out];exact Y0 (dz.out.set 15 _)
  have h2:(c2==0)=false:=by simp;omega
  go_wp2_with (go_at_call 287;(with_reducible refine (GI.out _).mono ?_);rintro e w1 ⟨rfl,az⟩;have dz:=Y0 az;clear az);go_meet;rw [GK.out];simp only [if_true];rw [if_neg (by omega),if_neg (by omega)];exact Y0 (HD.out.pure dz.out)
 clear HD GK GI;have HD:=hcut;clear hcut
 have hF':∀b,(F b\/b=w.heap.size)->b<wc.heap.size:=fun b hb=>by
  have:=HD.out.size;rcases hb with hb|hb
  · have:=HF.out b hb;omega
  omega
 have Eo:Rd lO (fun b=>F b\/b=w.heap.size) wc.drew (.slice PA pL.length mg) pL:=(HP.out.less (fun b hb h=>h.resolve_right (by omega))).pure HD.out.below.drew;have Oj:Rd lO (fun b=>F b\/b=w.heap.size) wc.drew (.slice QA oh.length jZ) oh:=(HQ.out.less (fun b hb h=>h.resolve_right (by omega))).pure HD.out.below.drew;have Cf:Own lO wc.heap.size 264 (fun b=>F b\/b=w.heap.size) wc.drew (.slice none 0 0) ([]:List SV):=Own.nil _ _ _ _ _;have HPd:=Y0 Eo;have HQd:=Y0 Oj;have VS:=Y0 Cf;have Lu:=Y0 hF';clear Eo Oj Cf hF';have Po:wc.cell? ⟨w.heap.size,16,none⟩=some (.slice PA pL.length mg):=ae HD.out.p rfl;have y16:wc.cell? ⟨w.heap.size+1,16,none⟩=some (.slice QA oh.length jZ):=ae HD.out.q rfl;obtain ⟨wd,rfl⟩:∃W:World,W=wc:=⟨_,rfl⟩;obtain ⟨n,hn⟩:∃n,n=pL.length+oh.length:=⟨_,rfl⟩;have qw:n<=200000:=by omega
 have ZZ:=Y0 hn;clear hn;go_upto_region 17 with fail;go_cut [7] (fun s wx=>∃(A3:Option Addr) (c3:Nat) (F3:Nat->Prop),s= .slice A3 n c3/\Hid (Own lO wd.heap.size 264 F3 wx (.slice A3 n c3) (pL++oh)/\dw (fun b=>F b\/b=w.heap.size) wd.drew F3 wx/\bM w (p2.arr (.slice PA pL.length mg)) #[.int .u64 wK, .int .u64 wL, .int .u64 wM, .string wO, .string wP, .string wQ, .int .u64 wR, .int .u64 wS, .int .u64 wT, .string wU, .string wV, .string wW, .bool Bb, .bool zA, .bool vz, .bool vA, .slice QA oh.length jZ] wx))
 case first=>
  go_region_law (first
   | (refine fg (o:=⟨some 66,_,_,_,_,_⟩) rfl _ _ 327 rfl lO 264 (.agg #[.int .u64 0, .int .u64 0, .int .u64 0, .string ⟨#[]⟩, .string ⟨#[]⟩, .string ⟨#[]⟩]) 72 underlying327 uk rfl (by decide) rfl rfl VS.out HPd.out (by simp [maxLen];omega) (by simp;omega) (Nat.le_refl _) (List.nil_append _) pL.length rfl ?_;intro A2 c2 w2 F2 ja ji cZ _;have Ol:=Y3 ja ji cZ;clear ja ji cZ;have Dl:Hid (bM w (p2.arr (.slice PA pL.length mg)) #[.int .u64 wK, .int .u64 wL, .int .u64 wM, .string wO, .string wP, .string wQ, .int .u64 wR, .int .u64 wS, .int .u64 wT, .string wU, .string wV, .string wW, .bool Bb, .bool zA, .bool vz, .bool vA, .slice QA oh.length jZ] w2):=Y0 (HD.out.drew.pure Ol.out.2.2);have v16:w2.cell? ⟨w.heap.size,16,none⟩=some (.slice PA pL.length mg):=ae Dl.out.p rfl;have u16:w2.cell? ⟨w.heap.size+1,16,none⟩=some (.slice QA oh.length jZ):=ae Dl.out.q rfl)
   | (refine fg (o:=⟨some 69,_,_,_,_,_⟩) rfl _ _ 327 rfl lO 264 (.agg #[.int .u64 0, .int .u64 0, .int .u64 0, .string ⟨#[]⟩, .string ⟨#[]⟩, .string ⟨#[]⟩]) 72 underlying327 uk rfl (by decide) rfl rfl Ol.out.1 (HQd.out.step Ol.out.2.1) (by simp [maxLen];omega) (by omega) Ol.out.2.2.size rfl n (by rw [ZZ.out];simp) ?_;intro A3 c3 w3 F3 mI iT bb _;have VT:=Y3 mI iT bb;clear mI iT bb;have Hx:Hid (bM w (p2.arr (.slice PA pL.length mg)) #[.int .u64 wK, .int .u64 wL, .int .u64 wM, .string wO, .string wP, .string wQ, .int .u64 wR, .int .u64 wS, .int .u64 wT, .string wU, .string wV, .string wW, .bool Bb, .bool zA, .bool vz, .bool vA, .slice QA oh.length jZ] w3):=Y0 (HD.out.drew.pure (Ol.out.2.2.trans VT.out.2.2))))
  all_goals
   go_wp2;go_meet;exact ⟨A3,c3,F3,rfl,Y0 ⟨VT.out.1,Ol.out.2.1.trans VT.out.2.1,Hx.out⟩⟩
 obtain ⟨A3,c3,F3,rfl,HC⟩:=hcut;obtain ⟨w3,rfl⟩:∃W:World,W=wc:=⟨_,rfl⟩;have Po:w3.cell? ⟨w.heap.size,16,none⟩=some (.slice PA pL.length mg):=ae HC.out.2.2.p rfl;have Z0:w3.frozen? ⟨w.heap.size,16,none⟩=false:=frozen_of_row _ _ _ _ _ HC.out.2.2.p;go_wp2;clear Po Z0;have Ep:Hid (Rd lO (fun b=>F b\/b=w.heap.size) w3 (.slice A3 n c3) (pL++oh)):=Y0 (HC.out.1.rd (F0:=fun b=>F b\/b=w.heap.size) Lu.out (fun b hb=>HC.out.2.1.grow b hb) (by decide));have HN:Hid ((pL++oh).length=n):=Y0 (by rw [ZZ.out];simp);have HDs:Hid (bM w (p2.arr (.slice none 0 0)) #[.int .u64 wK, .int .u64 wL, .int .u64 wM, .string wO, .string wP, .string wQ, .int .u64 wR, .int .u64 wS, .int .u64 wT, .string wU, .string wV, .string wW, .bool Bb, .bool zA, .bool vz, .bool vA, .slice QA oh.length jZ] (w3.setCell ⟨w.heap.size,16,none⟩ (.slice none 0 0))):=Y0 (HC.out.2.2.set 16 _);obtain ⟨all,hall⟩:∃l,l=pL++oh:=⟨_,rfl⟩;rw [<-hall] at Ep HN iN;clear hall;have pM:Hid (w.heap.size+3<=w3.heap.size):=Y0 HC.out.2.2.size;obtain ⟨w4,hw4⟩:∃W,W=w3.setCell ⟨w.heap.size,16,none⟩ (.slice none 0 0):=⟨_,rfl⟩;have Hy:Hid (bM w (p2.arr (.slice none 0 0)) #[.int .u64 wK, .int .u64 wL, .int .u64 wM, .string wO, .string wP, .string wQ, .int .u64 wR, .int .u64 wS, .int .u64 wT, .string wU, .string wV, .string wW, .bool Bb, .bool zA, .bool vz, .bool vA, .slice QA oh.length jZ] w4/\w4.heap.size=w3.heap.size/\∀b,b≠w.heap.size->w4.heap[b]?=w3.heap[b]?):=Y0 (by rw [hw4];exact ⟨HDs.out,by simp,fun b hb=>heap_setCell_other _ _ _ _ hb⟩);rw [<-hw4];clear hw4;go_loopw [73] (fun i wr=>∃(k:Nat) (l:List SV) (lv:Value) (F':Nat->Prop),i= .int .i64 k/\k<=n/\l.length<=k/\Hid (l=(all.take k).foldl p2.butF []/\bM w (p2.arr lv) #[.int .u64 wK, .int .u64 wL, .int .u64 wM, .string wO, .string wP, .string wQ, .int .u64 wR, .int .u64 wS, .int .u64 wT, .string wU, .string wV, .string wW, .bool Bb, .bool zA, .bool vz, .bool vA, .slice QA oh.length jZ] wr/\Own lO w3.heap.size 264 F' wr lv l/\(∀b,F' b->w3.heap.size<=b/\b<wr.heap.size)/\(∀b,b<w3.heap.size->b≠w.heap.size->wr.heap[b]?=w3.heap[b]?)/\w3.heap.size<=wr.heap.size)) (fun i _=>n - (intOf i).toNat)
 case atStart=>exact ⟨0, [], .slice none 0 0,fun _=>False,rfl,by omega,by simp,Y0 ⟨rfl,Hy.out.1,Own.nil _ _ _ _ _,fun b hb=>hb.elim,fun b _ hb=>Hy.out.2.2 b hb,by have:=Hy.out.2.1;omega⟩⟩
 obtain ⟨k,l,lv,F',rfl,hk,hll,H⟩:=hrel;obtain ⟨LA,lc,hlv⟩:=H.out.2.2.1.form;subst hlv;by_cases hlt:k<n
 · have hkl:k<all.length:=by rw [HN.out];exact hlt
   have hlt':(k:Int)<(n:Int):=by omega
   obtain ⟨g,off,hA,hFg,hg,hcells⟩:=LM Ep.out hkl;subst hA;have VU:g≠w.heap.size:=fun e=>hFg (.inr e)
   obtain ⟨z0,z1,z2,z3,z4,z5⟩:=hcells wr (H.out.2.2.2.2.1 g hg VU);have Bd:=Y0 (mf p2.butF [] all k hkl);have VV:=Y0 (iN.out.2.2.2 _ (List.getElem_mem hkl));have Z1:g<wr.heap.size:=Nat.lt_of_lt_of_le hg H.out.2.2.2.2.2;clear hcells hFg;generalize all[k]=x at*;obtain ⟨xa,xb,xc,xp,xm,xo⟩:=x;simp only at z0 z1 z2 z3 z4 z5;have hs0:w.heap.size<wr.heap.size:=by have:=H.out.2.1.size;omega
   have hs1:w.heap.size+1<wr.heap.size:=by have:=H.out.2.1.size;omega
   obtain ⟨Wb,J4,b1,Px,bB⟩:=aZ wr (.cells #[.int .u64 xa, .int .u64 xb, .int .u64 xc, .string xp, .string xm, .string xo] 264);have ll:=Y4 J4 b1 Px bB;clear J4 b1 Px bB;have hown0:Own lO w3.heap.size 264 F' Wb (.slice LA l.length lc) l:=iw H.out.2.2.1 (fun c hc=>ll.out.2.2.2.block c (H.out.2.2.2.1 c (H.out.2.2.1.choose_spec.2.1 c hc)).2) (fun b h=>h);obtain ⟨bq,wX⟩:∃bq,bq=Pc.has {p2 with bt:=l} ⟨xa,xb,xc,xp,xm,xo⟩:=⟨_,rfl⟩
   have hhas:Calls Tryz.prog 363 #[.agg (p2.arr (.slice LA l.length lc)), .agg #[.int .u64 xa, .int .u64 xb, .int .u64 xc, .string xp, .string xm, .string xo]] Wb fun e w'=>e= .returned (.bool bq)/\Below Wb.heap.size Wb w':=by
    rw [wX]
    exact f363 (F:=fun _=>False) {p2 with bt:=l} ⟨xa,xb,xc,xp,xm,xo⟩ (.slice LA l.length lc) Wb (hown0.rd (F0:=fun _=>False) (fun b h=>h.elim) (fun b h=>h.elim) (by decide)) ⟨iN.out.2.1.lo,iN.out.2.1.hi,by show l.length<=1000000;omega,fun v hv=>by
     rw [H.out.1] at hv;rcases (qH p2 (all.take k) []).2 v hv with h|h
     · cases h
     exact iN.out.2.2.2 v (List.mem_of_mem_take h)⟩ VV.out
   have PK:p2.butF l ⟨xa,xb,xc,xp,xm,xo⟩=if bq then l++ [⟨xa,xb,xc,xp,xm,xo⟩] else l:=by rw [wX];rfl
   have Cs:=Y0 hown0;have PM:=Y0 PK;have Hz:=Y0 hhas;clear hown0 PK hhas wX;have hrow:Hid (Wb.heap[w.heap.size]?=some (.cells (p2.arr (.slice LA l.length lc)) 329 (0,0))):=Y0 ((ll.out.2.2.2.block _ hs0).trans H.out.2.1.p);have flag:True:=trivial;cases bq
   · go_wp2_with (first
      | (clear flag;rw [<-ll.out.1];refine wpList_load_row (o:=⟨some 77,_,_,_,_,_⟩) rfl 329 _ rfl w.heap.size rfl 329 (p2.arr (.slice LA l.length lc)) (0,0) _ hrow.out underlying329 rfl bj ?_;have au:True:=trivial)
      | (clear au;refine wpList_load_row (o:=⟨some 78,_,_,_,_,_⟩) rfl 264 _ rfl wr.heap.size rfl 264 #[.int .u64 xa, .int .u64 xb, .int .u64 xc, .string xp, .string xm, .string xo] (0,0) _ ll.out.2.1 underlying264 rfl aN ?_;have aQ:True:=trivial)
      | (clear aQ;go_at_call 363;(with_reducible refine Hz.out.mono ?_);rintro e w5 ⟨rfl,bz⟩;have dS:=Y0 bz;clear bz))
     have vB:Hid (Below wr.heap.size wr w5):=Y0 (ll.out.2.2.2.trans (dS.out.mono (by have:=ll.out.2.2.1;omega)));go_roundw
     case rel=>exact ⟨k+1,l, .slice LA l.length lc,F',by go_num,by omega,by omega,Y0 ⟨by rw [Bd.out,<-H.out.1,PM.out];rfl,H.out.2.1.pure vB.out,iw Cs.out (fun c hc=>dS.out.block c (by have:=(H.out.2.2.2.1 c (Cs.out.choose_spec.2.1 c hc)).2;have:=ll.out.2.2.1;omega)) (fun b h=>h),fun b hb=>⟨(H.out.2.2.2.1 b hb).1,Nat.lt_of_lt_of_le (H.out.2.2.2.1 b hb).2 vB.out.size⟩,fun b hb hne=>(vB.out.block b (Nat.lt_of_lt_of_le hb H.out.2.2.2.2.2)).trans (H.out.2.2.2.2.1 b hb hne),Nat.le_trans H.out.2.2.2.2.2 vB.out.size⟩⟩
     simp [intOf];omega
   go_wp2_with (first
    | (clear flag;rw [<-ll.out.1];refine wpList_load_row (o:=⟨some 77,_,_,_,_,_⟩) rfl 329 _ rfl w.heap.size rfl 329 (p2.arr (.slice LA l.length lc)) (0,0) _ hrow.out underlying329 rfl bj ?_;have au:True:=trivial)
    | (clear au;refine wpList_load_row (o:=⟨some 78,_,_,_,_,_⟩) rfl 264 _ rfl wr.heap.size rfl 264 #[.int .u64 xa, .int .u64 xb, .int .u64 xc, .string xp, .string xm, .string xo] (0,0) _ ll.out.2.1 underlying264 rfl aN ?_;have aQ:True:=trivial)
    | (clear aQ;go_at_call 363;(with_reducible refine Hz.out.mono ?_);rintro e w5 ⟨rfl,bz⟩;have dS:=Y0 bz;clear bz;have vB:Hid (Below wr.heap.size wr w5):=Y0 (ll.out.2.2.2.trans (dS.out.mono (by have:=ll.out.2.2.1;omega)));have v16:w5.cell? ⟨w.heap.size,16,none⟩=some (.slice LA l.length lc):=ae (H.out.2.1.pure vB.out).p rfl;have wY:Hid (w5.heap[wr.heap.size]?=some (.cells #[.int .u64 xa, .int .u64 xb, .int .u64 xc, .string xp, .string xm, .string xo] 264 (0,0))):=Y0 (aJ ll.out.2.1 (by have:=ll.out.2.2.1;omega) dS.out);have hs5:w.heap.size<w5.heap.size:=Nat.lt_of_lt_of_le hs0 vB.out.size;have iO:wr.heap.size<w5.heap.size:=(by have:=dS.out.size;have:=ll.out.2.2.1;omega);have hsw:Hid (w3.heap.size<=w5.heap.size):=Y0 (by have:=H.out.2.2.2.2.2;omega);obtain ⟨Wc,J5,c1,wZ,cB⟩:=aZ w5 (.cells #[.int .u64 xa, .int .u64 xb, .int .u64 xc, .string xp, .string xm, .string xo] 264);have oo:=Y4 J5 c1 wZ cB;clear J5 c1 wZ cB;have hown1:Own lO w3.heap.size 264 F' Wc (.slice LA l.length lc) l:=iw Cs.out (fun c hc=>by have h1:=(H.out.2.2.2.1 c (Cs.out.choose_spec.2.1 c hc)).2;rw [oo.out.2.2.2.block c (by omega)];exact dS.out.block c (by have:=ll.out.2.2.1;omega)) (fun b h=>h);have hE:=Rd.one (d:=lO) (F:=F') (w:=w5) (e:=264) (x:=(⟨xa,xb,xc,xp,xm,xo⟩:SV)) (cs:= #[.int .u64 xa, .int .u64 xb, .int .u64 xc, .string xp, .string xm, .string xo]) rfl (fun b hb=>by have:=(H.out.2.2.2.1 b hb).2;omega);rw [<-oo.out.1] at hE;have HX:=Y2 hown1 hE;clear hown1 hE;have cf:True:=trivial)
    | (clear cf;refine wpList_load_row (o:=⟨some 82,_,_,_,_,_⟩) rfl 264 _ rfl wr.heap.size rfl 264 #[.int .u64 xa, .int .u64 xb, .int .u64 xc, .string xp, .string xm, .string xo] (0,0) _ wY.out underlying264 rfl aN ?_;have ft:True:=trivial)
    | (clear ft;at_builtin;rw [<-oo.out.1];refine aH (o:=⟨some 84,_,_,_,_,_⟩) rfl _ _ 327 rfl lO 264 (.agg #[.int .u64 0, .int .u64 0, .int .u64 0, .string ⟨#[]⟩, .string ⟨#[]⟩, .string ⟨#[]⟩]) 72 underlying327 uk rfl (by decide) rfl rfl HX.out.1 HX.out.2 (by simp [maxLen];omega) (by simp;omega) (by have h1:=hsw.out;have h2:=oo.out.2.2.1;omega) rfl (l.length+1) (by simp) ?_;intro A6 c6 w6 F6 rZ sx eQ _;have Z2:Hid (∀b,b<w3.heap.size->w6.heap[b]?=wr.heap[b]?):=Y0 (fun b hb=>(eQ.block b hb).trans ((oo.out.2.2.2.block b (by have:=hsw.out;omega)).trans (vB.out.block b (by have:=H.out.2.2.2.2.2;omega))));have Om:Hid (bM w (p2.arr (.slice LA l.length lc)) #[.int .u64 wK, .int .u64 wL, .int .u64 wM, .string wO, .string wP, .string wQ, .int .u64 wR, .int .u64 wS, .int .u64 wT, .string wU, .string wV, .string wW, .bool Bb, .bool zA, .bool vz, .bool vA, .slice QA oh.length jZ] w6):=Y0 (H.out.2.1.keep (fun b hb=>Z2.out b (by have:=pM.out;omega)) (H.out.2.1.below.trans ((vB.out.mono (by omega)).trans ((oo.out.2.2.2.mono (by omega)).trans (eQ.mono (by have:=pM.out;omega))))));have H6:=Y3 rZ sx eQ;clear rZ sx eQ;have k16:w6.cell? ⟨w.heap.size,16,none⟩=some (.slice LA l.length lc):=ae Om.out.p rfl;have f16:w6.frozen? ⟨w.heap.size,16,none⟩=false:=frozen_of_row _ _ _ _ _ Om.out.p;go_frame))
   refine ⟨⟨k+1,l++ [⟨xa,xb,xc,xp,xm,xo⟩], .slice A6 (l.length+1) c6,F6,by go_num,by omega,by simp;omega,Y0 ⟨by rw [Bd.out,<-H.out.1,PM.out];rfl,Om.out.set 16 _,iw H6.out.1 (fun c hc=>heap_setCell_other _ _ _ _ (fun e=> ?_)) (fun b h=>h),fun b hb=>⟨?_, ?_⟩,fun b hb hne=> ?_, ?_⟩⟩,by simp [intOf];omega⟩
   · obtain ⟨cs,hr,_⟩:=H6.out.1;have h1:=(hr.lt c hc).1;have h2:=pM.out;rw [e] at h1;simp only at h1;omega
   · rcases Nat.lt_or_ge b Wc.heap.size with h|h
     · exact (H.out.2.2.2.1 b (H6.out.2.1.old b h hb)).1
     have:=hsw.out;have:=oo.out.2.2.1;omega
   · have h1:=H6.out.2.1.lt (fun c hc=>by have:=(H.out.2.2.2.1 c hc).2;have:=oo.out.2.2.1;omega) b hb;simpa using h1
   · rw [heap_setCell_other _ _ _ _ hne,Z2.out b hb];exact H.out.2.2.2.2.1 b hb hne
   have h1:=H6.out.2.2.size;have h2:=hsw.out;have h3:=oo.out.2.2.1;simp;omega
 have hkn:k=n:=by omega
 subst hkn;have hfin:Hid (l=all.foldl p2.butF []):=Y0 (by have h:=H.out.1;rwa [List.take_of_length_le (by rw [HN.out];exact Nat.le_refl _)] at h);have flag:True:=trivial;obtain ⟨wf,hwf⟩:∃W,W=wr.setRow (w.heap.size+1+1) (p2.arr (.slice LA l.length lc)):=⟨_,rfl⟩
 have hblk:Hid (wf.heap[w.heap.size+1+1]?=some (.cells (p2.arr (.slice LA l.length lc)) 329 (0,0))/\(∀b,b≠w.heap.size+2->wf.heap[b]?=wr.heap[b]?)/\Below (w.heap.size+2) wr wf):=Y0 (by
  rw [hwf];exact ⟨setRow_heap _ _ _ _ _ _ H.out.2.1.r,fun b hb=>setRow_other _ _ _ _ hb,⟨rfl,rfl,rfl,by simp,fun b hb=>setRow_other _ _ _ _ (by omega)⟩⟩)
 have HWF:=Y0 hwf;clear hwf
 go_wp2_with (first
  | (clear flag;refine wpList_load_row (o:=⟨some 87,_,_,_,_,_⟩) rfl 329 _ rfl w.heap.size rfl 329 (p2.arr (.slice LA l.length lc)) (0,0) _ H.out.2.1.p underlying329 rfl bj ?_;have au:True:=trivial)
  | (clear au;refine wpList_store_row (o:=⟨none,Op.store 329 (Operand.tmp 4) (Operand.tmp 87),_,_,_,_⟩) rfl 329 _ _ rfl (w.heap.size+1+1) (p2.arr (.slice LA l.length lc)) rfl rfl 329 Hq H.out.2.1.r bj rfl (Pc.arr_one _ rfl) ?_;rw [<-HWF.out]))
 (try simp only [Exit.inBlock,Exit.then])
 refine bodyPost_ret (results_cell_row results361 _ wf (w.heap.size+1+1) 329 (p2.arr (.slice LA l.length lc)) (0,0) _ rfl hblk.out.1 underlying329 rfl bj) rfl ⟨.slice LA l.length lc, ?_, ?_, ?_⟩
 · rw [iN.out.1];rfl
 · have mJ:br.bt=l:=by rw [iN.out.1,hfin.out]
   rw [mJ];have h1:=iw (F':=fun b=>F' b\/F b\/b=w.heap.size+2) H.out.2.2.1 (fun _ _=>rfl) (fun b h=> .inl h)
   have h2:=h1.rd (F0:=fun b=>F b\/b=w.heap.size+2) (fun b hb=>by
    have:=pM.out;rcases hb with hb|hb
    · have:=HF.out b hb;omega
    omega) (fun b h=> .inr h) (by decide)
   exact h2.step' (fun b _ h=> .inl h) (fun b _ hb=>hblk.out.2.1 b (fun e=>hb (.inr e)))
 exact H.out.2.1.below.trans (hblk.out.2.2.mono (by omega))
theorem Be {F:Nat->Prop} {w:World} {A:Option Addr} {n cap:Nat} {ps:List Pc} (h:Rd mX F w (.slice A n cap) ps) {k:Nat} (hk:k<ps.length):
 ∃g off BA bc,A=some ⟨g,off,none⟩/\¬F g/\g<w.heap.size/\Rd lO F w (.slice BA ps[k].bt.length bc) ps[k].bt/\∀w':World,w'.heap[g]?=w.heap[g]?->∀j v,(ps[k].arr (.slice BA ps[k].bt.length bc))[j]?=some v->w'.cell? ((⟨g,off+k*17,none⟩:Addr).add j)=some v:=by
 obtain ⟨g,off,cs,hA,hF,hg,⟨bv,hcs,hb⟩,hc⟩:=h.at_ (List.getElem?_eq_getElem hk);obtain ⟨BA,bc,rfl⟩:=hb.form;subst hcs;refine ⟨g,off,BA,bc,hA,hF,hg,hb,fun w' hw j v hv=> ?_⟩;rw [jo];have e:(ps[k].arr (.slice BA ps[k].bt.length bc))[j]?=(ps[k].cl (.slice BA ps[k].bt.length bc))[j]?:=by simp [Pc.arr,Pc.cl]
 exact (World.cell?_of_block (w:=w) (a:=⟨g,off+k*17+j,none⟩) hw).trans (hc j v (e▸hv))
theorem f359 {F:Nat->Prop} (ps:List Pc) (v:SV) (rv:Value) (w:World) (hR:Rd mX F w rv ps) (hp:∀p∈ps,p.Ok 1000000) (hv:v.Ok):
 Calls Tryz.prog 359 #[.agg #[rv],v.val] w fun e w'=>∃ev,e= .returned ev/\wB (ps.any fun p=>p.has v) ev/\Below w.heap.size w w':=by
 have hhas:=fun p (hm:p∈ps) bv w (h:Rd lO F w bv p.bt)=>f363 p v bv w h (hp p hm) hv
 have Hz:=Y0 hhas;clear hhas;obtain ⟨A,cap,rfl⟩:=hR.form;obtain ⟨-,hb1,hb2⟩:=hR.bound;have HR:=Y0 hR;clear hR;obtain ⟨va,vb,vc,vp,vm,vo⟩:=v;simp only [SV.val] at*;obtain ⟨W2,hW2,g1,g2,hs2,cZ⟩:=dO w (.cells #[.slice A ps.length cap] 326) (.cells #[.int .u64 va, .int .u64 vb, .int .u64 vc, .string vp, .string vm, .string vo] 264);have HG:=Y5 hW2 g1 g2 hs2 cZ;clear hW2 g1 g2 hs2 cZ;go_enter func359,ntmps359;go_wp2;rw [<-HG.out.1];go_loopw [10] (fun i wr=>∃k:Nat,i= .int .i64 k/\k<=ps.length/\Hid ((ps.take k).any (fun p=>p.has ⟨va,vb,vc,vp,vm,vo⟩)=false/\Below (w.heap.size+2) W2 wr)) (fun i _=>ps.length - (intOf i).toNat)
 case atStart=>exact ⟨0,rfl,by omega,Y0 ⟨rfl,Below.refl _ _⟩⟩
 obtain ⟨k,rfl,hk,H⟩:=hrel;have gI:Hid (Below w.heap.size w wr):=Y0 (HG.out.2.2.2.2.trans (H.out.2.mono (by omega)));have hsz1:w.heap.size+1<wr.heap.size:=by have:=H.out.2.size;have:=HG.out.2.2.2.1;omega
 by_cases hlt:k<ps.length
 · obtain ⟨g,off,BA,bc,rfl,-,hg0,mJ,hcells⟩:=Be HR.out hlt;have hstep:=Y0 (oZ ps (fun p=>p.has ⟨va,vb,vc,vp,vm,vo⟩) k hlt H.out.1);have hcall:=Hz.out ps[k] (List.getElem_mem hlt);have cz:=Y0 (hcells wr (gI.out.block g hg0));clear hcells;generalize ps[k]=p at*;obtain ⟨b,hb⟩:∃b,Pc.has p ⟨va,vb,vc,vp,vm,vo⟩=b:=⟨_,rfl⟩;have Er:Hid ((b=true->ps.any (fun p=>p.has ⟨va,vb,vc,vp,vm,vo⟩)=true)/\(b=false->(ps.take (k+1)).any (fun p=>p.has ⟨va,vb,vc,vp,vm,vo⟩)=false)):=Y0 (by rw [<-hb];exact hstep.out);have xd:=mJ.pure gI.out
   have Es:∀W,Below wr.heap.size wr W->Calls Tryz.prog 363 #[.agg (p.arr (.slice BA p.bt.length bc)), .agg #[.int .u64 va, .int .u64 vb, .int .u64 vc, .string vp, .string vm, .string vo]] W fun e w'=>e= .returned (.bool b)/\Below W.heap.size W w':=fun W hW=>by
    have:=hcall (.slice BA p.bt.length bc) W (xd.pure hW)
    rwa [hb] at this
   clear hcall hb hstep mJ xd;have lQ:=Y0 Es;clear Es;obtain ⟨ar,har⟩:∃ar,ar=p.arr (.slice BA p.bt.length bc):=⟨_,rfl⟩;have J6:ar.size=17:=by rw [har];rfl
   have Et:ar.all (·.oneCell')=true:=by rw [har];exact Pc.arr_one _ rfl
   rw [<-har] at lQ cz;have vC:=Y2 J6 Et;clear har J6 Et;obtain ⟨Wb,J4,c1,wZ,cB⟩:=boxed wr #[.int .u64 0, .int .u64 0, .int .u64 0, .string ⟨#[]⟩, .string ⟨#[]⟩, .string ⟨#[]⟩, .int .u64 0, .int .u64 0, .int .u64 0, .string ⟨#[]⟩, .string ⟨#[]⟩, .string ⟨#[]⟩, .bool false, .bool false, .bool false, .bool false, .slice none 0 0] ar 329;have ll:=Y4 J4 c1 wZ cB;clear J4 c1 wZ cB;have hvb:Hid (Wb.heap[w.heap.size+1]?=some (.cells #[.int .u64 va, .int .u64 vb, .int .u64 vc, .string vp, .string vm, .string vo] 264 (0,0))):=Y0 (aJ (aJ HG.out.2.2.1 (by omega) H.out.2) (by omega) ll.out.2.2.2);have flag:True:=trivial;cases b
   · go_wp2_with (first
      | (clear flag;refine bu (o:=⟨some 13,_,_,_,_,_⟩) rfl 329 _ rfl ⟨g,off+k*17,none⟩ rfl ar _ cz.out underlying329 rfl (by rw [vC.out.1];exact bj) ?_;have au:True:=trivial)
      | (clear au;refine wpList_store_row (o:=⟨none,Op.store 329 (Operand.tmp 6) (Operand.tmp 13),_,_,_,_⟩) rfl 329 _ _ rfl wr.heap.size ar rfl rfl 329 #[.int .u64 0, .int .u64 0, .int .u64 0, .string ⟨#[]⟩, .string ⟨#[]⟩, .string ⟨#[]⟩, .int .u64 0, .int .u64 0, .int .u64 0, .string ⟨#[]⟩, .string ⟨#[]⟩, .string ⟨#[]⟩, .bool false, .bool false, .bool false, .bool false, .slice none 0 0] (heap_alloc_new _ _) (by rw [vC.out.1];exact bj) (by rw [vC.out.1];rfl) vC.out.2 ?_;rw [<-ll.out.1];have aQ:True:=trivial)
      | (clear aQ;refine wpList_load_row (o:=⟨some 14,_,_,_,_,_⟩) rfl 329 _ rfl wr.heap.size rfl 329 ar (0,0) _ ll.out.2.1 underlying329 rfl (by rw [vC.out.1];exact bj) ?_;have cf:True:=trivial)
      | (clear cf;refine wpList_load_row (o:=⟨some 15,_,_,_,_,_⟩) rfl 264 _ rfl (w.heap.size+1) rfl 264 #[.int .u64 va, .int .u64 vb, .int .u64 vc, .string vp, .string vm, .string vo] (0,0) _ hvb.out underlying264 rfl aN ?_;have ft:True:=trivial)
      | (clear ft;go_at_call 363;(with_reducible refine (lQ.out _ ll.out.2.2.2).mono ?_);rintro e w3 ⟨rfl,bb⟩;have dK:=Y0 bb;clear bb))
     go_roundw
     case rel=>exact ⟨k+1,by go_num,by omega,Y0 ⟨Er.out.2 (by first|rfl|trivial),(H.out.2.trans (ll.out.2.2.2.mono (by omega))).trans (dK.out.mono (by have:=ll.out.2.2.1;omega))⟩⟩
     simp [intOf];omega
   go_wp2_with (first
    | (clear flag;refine bu (o:=⟨some 13,_,_,_,_,_⟩) rfl 329 _ rfl ⟨g,off+k*17,none⟩ rfl ar _ cz.out underlying329 rfl (by rw [vC.out.1];exact bj) ?_;have au:True:=trivial)
    | (clear au;refine wpList_store_row (o:=⟨none,Op.store 329 (Operand.tmp 6) (Operand.tmp 13),_,_,_,_⟩) rfl 329 _ _ rfl wr.heap.size ar rfl rfl 329 #[.int .u64 0, .int .u64 0, .int .u64 0, .string ⟨#[]⟩, .string ⟨#[]⟩, .string ⟨#[]⟩, .int .u64 0, .int .u64 0, .int .u64 0, .string ⟨#[]⟩, .string ⟨#[]⟩, .string ⟨#[]⟩, .bool false, .bool false, .bool false, .bool false, .slice none 0 0] (heap_alloc_new _ _) (by rw [vC.out.1];exact bj) (by rw [vC.out.1];rfl) vC.out.2 ?_;rw [<-ll.out.1];have aQ:True:=trivial)
    | (clear aQ;refine wpList_load_row (o:=⟨some 14,_,_,_,_,_⟩) rfl 329 _ rfl wr.heap.size rfl 329 ar (0,0) _ ll.out.2.1 underlying329 rfl (by rw [vC.out.1];exact bj) ?_;have cf:True:=trivial)
    | (clear cf;refine wpList_load_row (o:=⟨some 15,_,_,_,_,_⟩) rfl 264 _ rfl (w.heap.size+1) rfl 264 #[.int .u64 va, .int .u64 vb, .int .u64 vc, .string vp, .string vm, .string vo] (0,0) _ hvb.out underlying264 rfl aN ?_;have ft:True:=trivial)
    | (clear ft;go_at_call 363;(with_reducible refine (lQ.out _ ll.out.2.2.2).mono ?_);rintro e w3 ⟨rfl,bb⟩;have dK:=Y0 bb;clear bb))
   go_ret;exact ⟨_,rfl,by rw [Er.out.1 (by first|rfl|trivial)];rfl,(gI.out.trans (ll.out.2.2.2.mono (by omega))).trans (dK.out.mono (by have:=ll.out.2.2.1;omega))⟩
 have hk2:k=ps.length:=by omega
 have h:=H.out.1;rw [hk2,List.take_length] at h;have HA:=Y0 h;clear h;subst hk2;go_wp2_with (go_at_call 77;refine (f77 _ _).mono ?_;rintro e w2 ⟨⟨n,rfl⟩,cZ⟩;have iN:=Y0 cZ;clear cZ);go_ret;exact ⟨_,rfl,by rw [HA.out];exact ⟨n,rfl⟩,gI.out.trans (iN.out.mono (by omega))⟩
def gq (F:Nat->Prop) (w:World) (v:Value):Sc->Prop
 | .ver x=>v= .iface 264 x.val
 | .rng ps=>∃rv,v= .iface 326 (.agg #[rv])/\Rd mX F w rv ps
theorem gq.pure {F:Nat->Prop} {w w':World} {v:Value} {c:Sc} (h:gq F w v c) (hb:Below w.heap.size w w'):gq F w' v c:=by
 cases c with
 | ver x=>exact h
 | rng ps=>obtain ⟨rv,h1,h2⟩:=h;exact ⟨rv,h1,h2.pure hb⟩
def Sc.Oks (c:Sc):Prop:=match c with
 | .ver v=>v.Ok
 | .rng ps=>∀p∈ps,p.Ok 1000000
theorem f282 {F:Nat->Prop} (v:SV) (c:Sc) (cv:Value) (w:World) (hc:gq F w cv c) (hok:c.Oks) (hv:v.Ok):
 Calls Tryz.prog 282 #[v.val,cv] w fun e w'=>∃rv,e= .returned rv/\gq F w' rv (if c.mat v then .ver v else .rng [])/\Below w.heap.size w w':=by
 have hcall:∀W,Below w.heap.size w W->(∀x,c= .ver x->Calls Tryz.prog 283 #[x.val,v.val] W fun e w'=>∃ev,e= .returned ev/\wB (c.mat v) ev/\Below W.heap.size W w')/\
  (∀ps rv,c= .rng ps->cv= .iface 326 (.agg #[rv])->Calls Tryz.prog 359 #[.agg #[rv],v.val] W fun e w'=>∃ev,e= .returned ev/\wB (c.mat v) ev/\Below W.heap.size W w'):=fun W hW=>by
  constructor
  · rintro x rfl;exact f283 x v W (by have:=SV.Ok.pr (show x.Ok from hok);omega) (by have:=hv.pr;omega)
  rintro ps rv rfl rfl;obtain ⟨rv',h1,h2⟩:=hc;injection h1 with _ h1
  injection h1 with h1
  injection h1 with h1
  injection h1 with h1
  subst h1;exact f359 ps v rv W (h2.pure hW) hok hv
 have J7:(if c.mat v then Sc.ver v else Sc.rng [])=match c.mat v with|true=>Sc.ver v|false=>Sc.rng []:=by cases c.mat v<;>rfl
 rw [J7];clear J7;have HC:=Y0 hcall;clear hcall;obtain ⟨va,vb,vc,vp,vm,vo⟩:=v;generalize c.mat ⟨va,vb,vc,vp,vm,vo⟩=b at*;simp only [SV.val] at*;have hBb:Below w.heap.size w (w.alloc (.cells #[.int .u64 va, .int .u64 vb, .int .u64 vc, .string vp, .string vm, .string vo] 264)):=(Below.refl _ _).alloc (Nat.le_refl _) _;have Eu:=Y0 hBb;clear hBb
 cases c with
 | ver x=>
   have hcv:cv= .iface 264 x.val:=hc;subst hcv;have h1:=fun W hW=>(HC.out W hW).1 x rfl
   obtain ⟨xa,xb,xc,xp,xm,xo⟩:=x;simp only [SV.val] at*;have H1:=Y0 h1;clear h1 hc;cases b
   · go_enter func282,ntmps282;go_wp2_with (go_at_call 283;(with_reducible refine (H1.out _ Eu.out).mono ?_);rintro e w3 ⟨ev,rfl,⟨n,rfl⟩,bb⟩;have dK:=Y0 bb;clear bb);go_ret;exact ⟨_,rfl,⟨_,rfl,Rd.nil _ _ _ _ _ (by simp [maxLen])⟩,Eu.out.trans (dK.out.mono (by simp))⟩
   go_enter func282,ntmps282;go_wp2_with (go_at_call 283;(with_reducible refine (H1.out _ Eu.out).mono ?_);rintro e w3 ⟨ev,rfl,rfl,bb⟩;have hblk:=aJ (heap_alloc_new w (.cells #[.int .u64 va, .int .u64 vb, .int .u64 vc, .string vp, .string vm, .string vo] 264)) (by simp) bb;have k0:w3.cell? ⟨w.heap.size,0,none⟩=some (.int .u64 va):=ae hblk rfl;have k1:w3.cell? ⟨w.heap.size,1,none⟩=some (.int .u64 vb):=ae hblk rfl;have k2:w3.cell? ⟨w.heap.size,2,none⟩=some (.int .u64 vc):=ae hblk rfl;have k3:w3.cell? ⟨w.heap.size,3,none⟩=some (.string vp):=ae hblk rfl;have k4:w3.cell? ⟨w.heap.size,4,none⟩=some (.string vm):=ae hblk rfl;have k5:w3.cell? ⟨w.heap.size,5,none⟩=some (.string vo):=ae hblk rfl;have dK:=Y0 bb;clear bb hblk);go_ret
   exact ⟨_,rfl,rfl,Eu.out.trans (dK.out.mono (by simp))⟩
 | rng ps=>
   obtain ⟨rv,rfl,jd⟩:=hc;have h1:=fun W hW=>(HC.out W hW).2 ps rv rfl rfl
   obtain ⟨A,cap,rfl⟩:=jd.form;have H1:=Y0 h1;clear h1 jd;cases b
   · go_enter func282,ntmps282;go_wp2_with (go_at_call 359;(with_reducible refine (H1.out _ Eu.out).mono ?_);rintro e w3 ⟨ev,rfl,⟨n,rfl⟩,bb⟩;have dK:=Y0 bb;clear bb);go_ret;exact ⟨_,rfl,⟨_,rfl,Rd.nil _ _ _ _ _ (by simp [maxLen])⟩,Eu.out.trans (dK.out.mono (by simp))⟩
   go_enter func282,ntmps282;go_wp2_with (go_at_call 359;(with_reducible refine (H1.out _ Eu.out).mono ?_);rintro e w3 ⟨ev,rfl,rfl,bb⟩;have hblk:=aJ (heap_alloc_new w (.cells #[.int .u64 va, .int .u64 vb, .int .u64 vc, .string vp, .string vm, .string vo] 264)) (by simp) bb;have k0:w3.cell? ⟨w.heap.size,0,none⟩=some (.int .u64 va):=ae hblk rfl;have k1:w3.cell? ⟨w.heap.size,1,none⟩=some (.int .u64 vb):=ae hblk rfl;have k2:w3.cell? ⟨w.heap.size,2,none⟩=some (.int .u64 vc):=ae hblk rfl;have k3:w3.cell? ⟨w.heap.size,3,none⟩=some (.string vp):=ae hblk rfl;have k4:w3.cell? ⟨w.heap.size,4,none⟩=some (.string vm):=ae hblk rfl;have k5:w3.cell? ⟨w.heap.size,5,none⟩=some (.string vo):=ae hblk rfl;have dK:=Y0 bb;clear bb hblk);go_ret;exact ⟨_,rfl,rfl,Eu.out.trans (dK.out.mono (by simp))⟩
theorem uq:(Tryz.prog.info? 329).map (fun i=>(i.zero,i.size,i.bytes))=some (some (.agg #[.int .u64 0, .int .u64 0, .int .u64 0, .string ⟨#[]⟩, .string ⟨#[]⟩, .string ⟨#[]⟩, .int .u64 0, .int .u64 0, .int .u64 0, .string ⟨#[]⟩, .string ⟨#[]⟩, .string ⟨#[]⟩, .bool false, .bool false, .bool false, .bool false, .slice none 0 0]),mX.sz,176):=by kernel_rfl
theorem Ek (b:Pc) (RA:Option Addr) (n rc:Nat) (w:World):(Instr.buildSlice 324 1 #[(0, .agg (b.arr (.slice RA n rc)))]).run Tryz.prog w= .ok (.slice (some ⟨w.heap.size,0,none⟩) 1 1) (w.alloc (.cells (b.arr (.slice RA n rc)) 329)):=by kernel_rfl
theorem bP {P:Program} {ops:Array Oper} {rest:List Oper} {o:Oper} {a:Act} {w:World} {Q:Exit->Act->World->Prop} (hgd:o.guard=none) (t:TypeId) (x:Operand) (ho:o.op= .buildSlice t 1 #[(0,x)]) (v:Value) (hx:a.eval x=v) (r:Value) (W:World)
 (hrun:(Instr.buildSlice t 1 #[(0,v)]).run P w= .ok r W) (h:wpList P ops Q rest (a.put o.dst r) W):wpList P ops Q (o::rest) a w:=
 wpList_plain hgd fun K hK=>by
  unfold Oper.wp execOp;simp only [ho,List.map_toArray,List.map_cons,List.map_nil,hx,hrun,Sem.run_bind,Sem.run_pure,Result.andThen_ok];exact hK _ _ h
theorem Bf (x:Value) (w:World):(Instr.typeAssert (.iface 264 x) 259 264 true).run Tryz.prog w= .ok (.tuple #[x, .bool true]) w:=by kernel_rfl
theorem ur (x:Value) (w:World):(Instr.typeAssert (.iface 326 x) 259 264 true).run Tryz.prog w= .ok (.tuple #[.agg #[.int .u64 0, .int .u64 0, .int .u64 0, .string ⟨#[]⟩, .string ⟨#[]⟩, .string ⟨#[]⟩], .bool false]) w:=by kernel_rfl
theorem J8 (x:Value) (w:World):(Instr.typeAssert (.iface 326 x) 259 326 true).run Tryz.prog w= .ok (.tuple #[x, .bool true]) w:=by kernel_rfl
theorem PN {F:Nat->Prop} (ps:List Pc) (x:SV) (rv:Value) (w:World) (hR:Rd mX F w rv ps) (hp:∀p∈ps,p.Ok 1000000) (hx:x.Ok):
 Calls Tryz.prog 358 #[.agg #[rv], .iface 264 x.val] w fun e w'=>∃v',e= .returned v'/\gq F w' v' ((Sc.rng ps).inter (.ver x))/\Below w.heap.size w w':=by
 have hc:=fun W (hW:Below w.heap.size w W)=>f282 (F:=F) x (.rng ps) (.iface 326 (.agg #[rv])) W ⟨rv,rfl,hR.pure hW⟩ hp hx
 have hi:(Sc.rng ps).inter (.ver x)=if (Sc.rng ps).mat x then .ver x else .rng []:=rfl
 rw [hi];clear hi;generalize (if (Sc.rng ps).mat x then Sc.ver x else Sc.rng [])=res at*;obtain ⟨A,cap,rfl⟩:=hR.form;obtain ⟨xa,xb,xc,xp,xm,xo⟩:=x;simp only [SV.val] at*;have HC:=Y0 hc;clear hc hR hp hx;have t1:=fun w=>Bf (.agg #[.int .u64 xa, .int .u64 xb, .int .u64 xc, .string xp, .string xm, .string xo]) w
 go_enter func358,ntmps358;go_wp2_with (go_at_call 282;(with_reducible refine (HC.out _ (by as_aux_lemma=>exact ((Below.refl _ _).alloc (Nat.le_refl _) _).alloc (by simp) _)).mono ?_);rintro e w3 ⟨v',rfl,h1,bb⟩;have H3:=Y2 h1 bb;clear h1 bb);go_ret;exact ⟨_,rfl,H3.out.1,(((Below.refl _ _).alloc (Nat.le_refl _) _).alloc (by simp) _).trans (H3.out.2.mono (by simp;omega))⟩
structure iy (F:Nat->Prop) (w W3:World) (ro xo:Value) (F':Nat->Prop) (ov:Value) (o:List Pc) (wr:World):Prop where
 r:wr.heap[w.heap.size]?=some (.cells #[ro] 326 (0,0))
 x:wr.heap[w.heap.size+1]?=some (.cells #[xo] 326 (0,0))
 out:wr.heap[w.heap.size+2]?=some (.cells #[ov] 326 (0,0))
 own:Own mX (w.heap.size+3) 329 F' wr ov o
 stp:dw (fun b=>F b\/b=w.heap.size+2) W3 F' wr
 lt:∀b,F' b->b<wr.heap.size
 nr:¬F' w.heap.size/\¬F' (w.heap.size+1)
 below:Below w.heap.size w wr
theorem iy.size {F:Nat->Prop} {w W3:World} {ro xo:Value} {F':Nat->Prop} {ov:Value} {o:List Pc} {wr:World} (h:iy F w W3 ro xo F' ov o wr):w.heap.size+3<=wr.heap.size:=by
 have:=(Array.getElem?_eq_some_iff.1 h.out).1;omega
theorem iy.pure {F:Nat->Prop} {w W3:World} {ro xo:Value} {F':Nat->Prop} {ov:Value} {o:List Pc} {wr W:World} (h:iy F w W3 ro xo F' ov o wr) (hb:Below wr.heap.size wr W):iy F w W3 ro xo F' ov o W:=
 ⟨(hb.block _ (by have:=h.size;omega)).trans h.r,(hb.block _ (by have:=h.size;omega)).trans h.x,(hb.block _ (by have:=h.size;omega)).trans h.out,h.own.pure hb,h.stp.trans (.pure hb),fun b q=>Nat.lt_of_lt_of_le (h.lt b q) hb.size,h.nr,h.below.trans (hb.mono h.below.size)⟩
theorem iy.push {F:Nat->Prop} {w W3:World} {ro xo:Value} {F' F6:Nat->Prop} {ov Ia:Value} {o o':List Pc} {W w6:World} (h:iy F w W3 ro xo F' ov o W) (hO:Own mX (w.heap.size+3) 329 F6 w6 Ia o') (hS:dw F' W F6 w6) (hB:Below (w.heap.size+3) W w6):
 iy F w W3 ro xo F6 Ia o' (w6.setCell ⟨w.heap.size+2,0,none⟩ Ia):=by
 have h2:F6 (w.heap.size+2):=hS.grow _ (h.stp.grow _ (.inr rfl));have iO:dw F6 w6 F6 (w6.setCell ⟨w.heap.size+2,0,none⟩ Ia):= .setCell h2 _;have hsz:=h.size;have hx:∀b,b<w.heap.size+3->w6.heap[b]?=W.heap[b]?:=fun b hb=>hB.block b hb
 refine ⟨?_, ?_, ?_,hO.step iO (fun b hb=>heap_setCell_other _ _ _ _ ?_),(h.stp.trans hS).trans iO,fun b hb=>by simpa using hS.lt h.lt b hb,⟨fun q=>h.nr.1 (hS.old _ (by omega) q),fun q=>h.nr.2 (hS.old _ (by omega) q)⟩, ?_⟩
 · rw [heap_setCell_other _ _ _ _ (by simp),hx _ (by omega)];exact h.r
 · rw [heap_setCell_other _ _ _ _ (by simp),hx _ (by omega)];exact h.x
 · have h3:w6.heap[w.heap.size+2]?=some (.cells #[ov] 326 (0,0)):=(hx _ (by omega)).trans h.out;exact heap_setCell_same _ _ 0 _ _ _ h3
 · obtain ⟨cs,hr,_⟩:=hO;have:=(hr.lt b hb).1;show b≠w.heap.size+2;omega
 exact (h.below.trans (hB.mono (by omega))).setCell (by show w.heap.size<=w.heap.size+2;omega) _
theorem iy.rd {F:Nat->Prop} {w W3:World} {ro xo:Value} {F':Nat->Prop} {ov:Value} {o:List Pc} {wr:World} (h:iy F w W3 ro xo F' ov o wr) (hW:Below w.heap.size w W3) {v:Value} {ps:List Pc} (hR:Rd mX F w v ps):Rd mX F' wr v ps:=
 ((hR.less (F':=fun b=>F b\/b=w.heap.size+2) (fun b hb q=>q.resolve_right (by omega))).pure hW).step h.stp
theorem xe (ps qs:List Pc) (k:Nat) (h:k<ps.length):eD (ps.take (k+1)) qs=qs.foldl (fF ps[k]) (eD (ps.take k) qs):=by
 unfold eD;exact mf _ _ ps k h
theorem lq (p:Pc):∀(qs o:List Pc),(qs.foldl (fF p) o).length<=o.length+qs.length
 | [],o=>by simp
 | q::qs,o=>by
   have h1:=lq p qs (fF p o q)
   have h2:(fF p o q).length<=o.length+1:=by
    unfold fF;split
    · omega
    simp
   simp only [List.foldl_cons,List.length_cons];omega
theorem qW (qs:List Pc):∀(ps o:List Pc),(ps.foldl (fun o p=>qs.foldl (fF p) o) o).length<=o.length+ps.length*qs.length
 | [],o=>by simp
 | p::ps,o=>by
   have h1:=qW qs ps (qs.foldl (fF p) o);have h2:=lq p qs o;simp only [List.foldl_cons,List.length_cons,Nat.add_mul];omega
theorem PO {F:Nat->Prop} (ps qs:List Pc) (rv qv:Value) (w:World) (hR:Rd mX F w rv ps) (hQ:Rd mX F w qv qs) (hp:∀p∈ps,p.Ok 100000) (hq:∀p∈qs,p.Ok 100000) (hl:ps.length*qs.length<=4000000) (hF:∀b,F b->b<w.heap.size):
 Calls Tryz.prog 358 #[.agg #[rv], .iface 326 (.agg #[qv])] w fun e w'=>∃v',e= .returned v'/\gq F w' v' (.rng (eD ps qs))/\Below w.heap.size w w':=by
 obtain ⟨A,cap,rfl⟩:=hR.form;obtain ⟨-,hb1,hb2⟩:=hR.bound;obtain ⟨B,sy,rfl⟩:=hQ.form;obtain ⟨-,hb3,hb4⟩:=hQ.bound;obtain ⟨W3,hW3,g1,g2,g3,hs3,bb⟩:=o6 w (.cells #[.slice A ps.length cap] 326) (.cells #[.slice B qs.length sy] 326) (.cells #[.slice none 0 0] 326)
 have HG:Hid (W3=((w.alloc (.cells #[.slice A ps.length cap] 326)).alloc (.cells #[.slice B qs.length sy] 326)).alloc (.cells #[.slice none 0 0] 326)/\iy F w W3 (.slice A ps.length cap) (.slice B qs.length sy) (fun b=>F b\/b=w.heap.size+2) (.slice none 0 0) [] W3/\Below w.heap.size w W3):=Y0 ⟨hW3,⟨g1,g2,g3,Own.nil _ _ _ _ _,dw.refl _ _,fun b hb=>by
  rcases hb with hb|hb
  · have:=hF b hb;omega
  omega,⟨fun h=>by
  rcases h with h|h
  · have:=hF _ h;omega
  · omega,fun h=>by
  rcases h with h|h
  · have:=hF _ h;omega
  omega⟩,bb⟩,bb⟩
 clear hW3 g1 g2 g3 hs3 bb;have HR:=Y0 hR;have HQ:=Y0 hQ;have HP:=Y0 hp;have HQo:=Y0 hq;have HF:=Y0 hF;clear hR hQ hp hq hF
 have VW:Hid (∀k,k<ps.length->k*qs.length+qs.length<=4000000):=Y0 fun k hk=>by
  have:=Nat.mul_le_mul_right qs.length (show k+1<=ps.length from hk);rw [Nat.add_mul] at this;omega
 have HPl:Hid (ps.length*qs.length<=4000000):=Y0 hl;clear hl;have t2:=fun w=>ur (.agg #[.slice B qs.length sy]) w
 have t3:=fun w=>J8 (.agg #[.slice B qs.length sy]) w
 go_enter func358,ntmps358;go_wp2;clear t2 t3;rw [<-HG.out.1];go_loopw [27] (fun i wr=>∃(k:Nat) (ov:Value) (F':Nat->Prop),i= .int .i64 k/\k<=ps.length/\Hid (iy F w W3 (.slice A ps.length cap) (.slice B qs.length sy) F' ov (eD (ps.take k) qs) wr)) (fun i _=>ps.length - (intOf i).toNat)
 case atStart=>exact ⟨0,_,_,rfl,by omega,Y0 HG.out.2.1⟩
 obtain ⟨k,ov,F',rfl,hk,H⟩:=hrel;by_cases hlt:k<ps.length
 · have hlt':(k:Int)<(ps.length:Int):=by omega
   obtain ⟨g,off,BA,bc,hA,hFg,hg,mJ,hcells⟩:=Be (H.out.rd HG.out.2.2 HR.out) hlt;subst hA;have cz:=Y0 (hcells wr rfl);have HBt:=Y0 mJ;have PQ:=Y0 (HP.out _ (List.getElem_mem hlt));have Bd:=Y0 (xe ps qs k hlt);have hlk:=VW.out k hlt
   have hol:Hid ((eD (ps.take k) qs).length<=k*qs.length):=Y0 (by
    have:=qW qs (ps.take k) [];rw [List.length_take,Nat.min_eq_left hk] at this;unfold eD;simpa using this)
   clear hcells mJ hFg;generalize ps[k]=p at*;generalize PR:k*qs.length=km at*;have HKM:=Y0 PR;clear PR;obtain ⟨ar,har⟩:∃ar,ar=p.arr (.slice BA p.bt.length bc):=⟨_,rfl⟩;have vC:Hid (ar=p.arr (.slice BA p.bt.length bc)/\ar.size=17/\ar.all (·.oneCell')=true):=Y0 ⟨har,by rw [har];rfl,by rw [har];exact Pc.arr_one _ rfl⟩;rw [<-har] at cz;clear har;obtain ⟨Wb,J4,c1,wZ,cB⟩:=boxed wr #[.int .u64 0, .int .u64 0, .int .u64 0, .string ⟨#[]⟩, .string ⟨#[]⟩, .string ⟨#[]⟩, .int .u64 0, .int .u64 0, .int .u64 0, .string ⟨#[]⟩, .string ⟨#[]⟩, .string ⟨#[]⟩, .bool false, .bool false, .bool false, .bool false, .slice none 0 0] ar 329;have ll:=Y4 J4 c1 wZ cB;clear J4 c1 wZ cB;have x1:Wb.cell? ⟨w.heap.size+1,0,none⟩=some (.slice B qs.length sy):=ae (H.out.pure ll.out.2.2.2).x rfl;have hsz:=H.out.size;have flag:True:=trivial
   go_wp2_with (first
    | (clear flag;refine bu (o:=⟨some 30,_,_,_,_,_⟩) rfl 329 _ rfl ⟨g,off+k*17,none⟩ rfl ar _ cz.out underlying329 rfl (by rw [vC.out.2.1];exact bj) ?_;have au:True:=trivial)
    | (clear au;refine wpList_store_row (o:=⟨none,Op.store 329 (Operand.tmp 9) (Operand.tmp 30),_,_,_,_⟩) rfl 329 _ _ rfl wr.heap.size ar rfl rfl 329 #[.int .u64 0, .int .u64 0, .int .u64 0, .string ⟨#[]⟩, .string ⟨#[]⟩, .string ⟨#[]⟩, .int .u64 0, .int .u64 0, .int .u64 0, .string ⟨#[]⟩, .string ⟨#[]⟩, .string ⟨#[]⟩, .bool false, .bool false, .bool false, .bool false, .slice none 0 0] (heap_alloc_new _ _) (by rw [vC.out.2.1];exact bj) (by rw [vC.out.2.1];rfl) vC.out.2.2 ?_;rw [<-ll.out.1]))
   clear x1;obtain ⟨wo,hwo⟩:∃W:World,W=wr:=⟨_,rfl⟩;subst hwo;go_loopw [34] (fun i wr=>∃(j:Nat) (ov:Value) (F':Nat->Prop),i= .int .i64 j/\j<=qs.length/\Hid (iy F w W3 (.slice (some ⟨g,off,none⟩) ps.length cap) (.slice B qs.length sy) F' ov ((qs.take j).foldl (fF p) (eD (ps.take k) qs)) wr/\wr.heap[wo.heap.size]?=some (.cells ar 329 (0,0))/\(∀b,F' b->b≠wo.heap.size)/\Below w.heap.size wo wr/\Rd lO F' wr (.slice BA p.bt.length bc) p.bt)) (fun i _=>qs.length - (intOf i).toNat)
   case atStart=>
    exact ⟨0,ov,F',rfl,by omega,Y0 ⟨H.out.pure ll.out.2.2.2,ll.out.2.1,fun b hb=>by have:=H.out.lt b hb;omega,ll.out.2.2.2.mono (by omega),HBt.out.pure ll.out.2.2.2⟩⟩
   obtain ⟨j,ov,F',rfl,hj,H⟩:=hrel;obtain ⟨OA,oc,hov⟩:=H.out.1.own.form;subst hov;by_cases lR:j<qs.length
   · have lK:(j:Int)<(qs.length:Int):=by omega
     obtain ⟨g2,mh,VX,bc2,cZ,VY,hg2,xd,iU⟩:=Be (H.out.1.rd HG.out.2.2 HQ.out) lR;subst cZ;have gb:=Y0 (iU wr rfl);have VZ:=Y0 xd;have PS:=Y0 (HQo.out _ (List.getElem_mem lR));have Ew:=Y0 (mf (fF p) (eD (ps.take k) qs) qs j lR)
     have V2:((qs.take j).foldl (fF p) (eD (ps.take k) qs)).length<=4000000:=by
      have h1:=lq p (qs.take j) (eD (ps.take k) qs);have h2:=hol.out;rw [List.length_take,Nat.min_eq_left hj] at h1;omega
     have V3:((qs.take j).foldl (fF p) (eD (ps.take k) qs)).length<4000000:=by
      have h1:=lq p (qs.take j) (eD (ps.take k) qs);have h2:=hol.out;rw [List.length_take,Nat.min_eq_left hj] at h1;omega
     clear iU xd VY V2;generalize qs[j]=q at*;generalize (qs.take j).foldl (fF p) (eD (ps.take k) qs)=o at*;obtain ⟨ol,LN⟩:∃n,n=o.length:=⟨_,rfl⟩;have V4:=Y0 LN;have aak:ol<4000000:=by omega
     rw [<-LN] at H;clear LN V3;obtain ⟨Ex,Ey⟩:∃ar,ar=q.arr (.slice VX q.bt.length bc2):=⟨_,rfl⟩;have qX:Hid (Ex=q.arr (.slice VX q.bt.length bc2)/\Ex.size=17/\Ex.all (·.oneCell')=true):=Y0 ⟨Ey,by rw [Ey];rfl,by rw [Ey];exact Pc.arr_one _ rfl⟩;rw [<-Ey] at gb;clear Ey;obtain ⟨PT,PU,c1,wZ,cB⟩:=boxed wr #[.int .u64 0, .int .u64 0, .int .u64 0, .string ⟨#[]⟩, .string ⟨#[]⟩, .string ⟨#[]⟩, .int .u64 0, .int .u64 0, .int .u64 0, .string ⟨#[]⟩, .string ⟨#[]⟩, .string ⟨#[]⟩, .bool false, .bool false, .bool false, .bool false, .slice none 0 0] Ex 329;have pN:=Y4 PU c1 wZ cB;clear PU c1 wZ cB;have J9:Hid (PT.heap[wo.heap.size]?=some (.cells ar 329 (0,0))):=Y0 (aJ H.out.2.1 (Array.getElem?_eq_some_iff.1 H.out.2.1).1 pN.out.2.2.2);obtain ⟨b,hb⟩:∃b,b=p.both q:=⟨_,rfl⟩
     have hcall:Calls Tryz.prog 361 #[.agg ar, .agg Ex] PT fun e w'=>∃rv,e= .returned (.agg (b.arr rv))/\Rd lO F' w' rv b.bt/\Below PT.heap.size PT w':=by
      rw [hb,vC.out.1,qX.out.1];exact f361 (F:=F') p q (.slice BA p.bt.length bc) (.slice VX q.bt.length bc2) PT (H.out.2.2.2.2.pure pN.out.2.2.2) (VZ.out.pure pN.out.2.2.2) PQ.out PS.out (fun c hc=>by have:=H.out.1.lt c hc;have:=pN.out.2.2.1;omega)
     have Ib:Hid (b.Ok 200000/\∀o,fF p o q=if b.emp then o else o++ [b]):=Y0 ⟨by rw [hb];exact Pc.both_ok PQ.out PS.out,fun o=>by rw [hb];rfl⟩;have lQ:=Y0 hcall;clear hcall hb;obtain ⟨em,Oo⟩:∃em,em=b.emp:=⟨_,rfl⟩;have T3:=Y0 Oo;clear Oo;have V5:w.heap.size+3<=wr.heap.size:=H.out.1.size;have flag:True:=trivial;cases em
     · go_wp2_with (first
        | (clear flag;refine bu (o:=⟨some 37,_,_,_,_,_⟩) rfl 329 _ rfl ⟨g2,mh+j*17,none⟩ rfl Ex _ gb.out underlying329 rfl (by rw [qX.out.2.1];exact bj) ?_;have au:True:=trivial)
        | (clear au;refine wpList_store_row (o:=⟨none,Op.store 329 (Operand.tmp 11) (Operand.tmp 37),_,_,_,_⟩) rfl 329 _ _ rfl wr.heap.size Ex rfl rfl 329 #[.int .u64 0, .int .u64 0, .int .u64 0, .string ⟨#[]⟩, .string ⟨#[]⟩, .string ⟨#[]⟩, .int .u64 0, .int .u64 0, .int .u64 0, .string ⟨#[]⟩, .string ⟨#[]⟩, .string ⟨#[]⟩, .bool false, .bool false, .bool false, .bool false, .slice none 0 0] (heap_alloc_new _ _) (by rw [qX.out.2.1];exact bj) (by rw [qX.out.2.1];rfl) qX.out.2.2 ?_;rw [<-pN.out.1];have aQ:True:=trivial)
        | (clear aQ;refine wpList_load_row (o:=⟨some 38,_,_,_,_,_⟩) rfl 329 _ rfl wo.heap.size rfl 329 ar (0,0) _ J9.out underlying329 rfl (by rw [vC.out.2.1];exact bj) ?_;have zB:True:=trivial)
        | (clear zB;refine wpList_load_row (o:=⟨some 39,_,_,_,_,_⟩) rfl 329 _ rfl wr.heap.size rfl 329 Ex (0,0) _ pN.out.2.1 underlying329 rfl (by rw [qX.out.2.1];exact bj) ?_;have cf:True:=trivial)
        | (clear cf;go_at_call 361;(with_reducible refine lQ.out.mono ?_);rintro e w5 ⟨rv,rfl,jd,bz⟩;obtain ⟨RA,rc,Ka⟩:=jd.form;subst Ka;obtain ⟨br,hbr⟩:∃br,br=b.arr (.slice RA b.bt.length rc):=⟨_,rfl⟩;have jz:Hid (br=b.arr (.slice RA b.bt.length rc)/\br.size=17/\br.all (·.oneCell')=true):=Y0 ⟨hbr,by rw [hbr];rfl,by rw [hbr];exact Pc.arr_one _ rfl⟩;rw [<-hbr];clear hbr;obtain ⟨Wc,J5,c1,wZ,cB⟩:=boxed w5 #[.int .u64 0, .int .u64 0, .int .u64 0, .string ⟨#[]⟩, .string ⟨#[]⟩, .string ⟨#[]⟩, .int .u64 0, .int .u64 0, .int .u64 0, .string ⟨#[]⟩, .string ⟨#[]⟩, .string ⟨#[]⟩, .bool false, .bool false, .bool false, .bool false, .slice none 0 0] br 329;have oo:=Y4 J5 c1 wZ cB;clear J5 c1 wZ cB;have dS:Hid (Below wr.heap.size wr w5):=Y0 (pN.out.2.2.2.trans (bz.mono (by have:=pN.out.2.2.1;omega)));clear bz;have Oq:Hid (Rd lO F' Wc (.slice RA b.bt.length rc) b.bt):=Y0 (jd.pure oo.out.2.2.2);clear jd;have ft:True:=trivial)
        | (clear ft;refine wpList_store_row (o:=⟨none,Op.store 329 (Operand.tmp 12) (Operand.tmp 40),_,_,_,_⟩) rfl 329 _ _ rfl w5.heap.size br rfl rfl 329 #[.int .u64 0, .int .u64 0, .int .u64 0, .string ⟨#[]⟩, .string ⟨#[]⟩, .string ⟨#[]⟩, .int .u64 0, .int .u64 0, .int .u64 0, .string ⟨#[]⟩, .string ⟨#[]⟩, .string ⟨#[]⟩, .bool false, .bool false, .bool false, .bool false, .slice none 0 0] (heap_alloc_new _ _) (by rw [jz.out.2.1];exact bj) (by rw [jz.out.2.1];rfl) jz.out.2.2 ?_;rw [<-oo.out.1];have qY:True:=trivial)
        | (clear qY;refine wpList_load_row (o:=⟨some 41,_,_,_,_,_⟩) rfl 329 _ rfl w5.heap.size rfl 329 br (0,0) _ oo.out.2.1 underlying329 rfl (by rw [jz.out.2.1];exact bj) ?_;have zC:True:=trivial)
        | (clear zC;go_at_call 362;have kF:=f362 (F:=F') b (.slice RA b.bt.length rc) Wc Oq.out (Ib.out.1.mono (by omega));rw [<-T3.out] at kF;unfold Pc.val at kF;rw [<-jz.out.1] at kF;refine kF.mono ?_;rintro e w6 ⟨rfl,eQ⟩;clear kF;have Dm:Hid (iy F w W3 (.slice (some ⟨g,off,none⟩) ps.length cap) (.slice (some ⟨g2,mh,none⟩) qs.length sy) F' (.slice OA ol oc) o w6):=Y0 (((H.out.1.pure dS.out).pure oo.out.2.2.2).pure eQ);have bU:Hid (Below Wc.heap.size Wc w6):=Y0 eQ;clear eQ;have vB:Hid (Below wr.heap.size wr w6):=Y0 (dS.out.trans ((oo.out.2.2.2.mono dS.out.size).trans (bU.out.mono (by have h1:=dS.out.size;have h2:=oo.out.2.2.1;omega))));have Po:w6.cell? ⟨w.heap.size+1+1,0,none⟩=some (.slice OA ol oc):=ae Dm.out.out rfl;have Kb:Hid (w6.heap[w5.heap.size]?=some (.cells br 329 (0,0))):=Y0 (aJ oo.out.2.1 (by have:=oo.out.2.2.1;omega) bU.out);have iO:w.heap.size+1+1<w6.heap.size:=(by have:=vB.out.size;omega);obtain ⟨Wd,PV,d1,PW,dB⟩:=aZ w6 (.cells br 329);have yG:=Y4 PV d1 PW dB;clear PV d1 PW dB;have hE:=Rd.one (d:=mX) (F:=F') (w:=w6) (e:=329) (x:=b) (cs:=br) ⟨.slice RA b.bt.length rc,by rw [jz.out.1];rfl,by rw [<-yG.out.1];exact (Oq.out.pure bU.out).pure yG.out.2.2.2⟩ Dm.out.lt;rw [<-yG.out.1] at hE;have HX:=Y2 (Dm.out.own.pure yG.out.2.2.2) hE;clear hE;have s6:True:=trivial)
        | (clear s6;refine wpList_load_row (o:=⟨some 46,_,_,_,_,_⟩) rfl 329 _ rfl w5.heap.size rfl 329 br (0,0) _ Kb.out underlying329 rfl (by rw [jz.out.2.1];exact bj) ?_;have xf:True:=trivial)
        | (clear xf;refine bP (o:=⟨some 47,_,_,_,_,_⟩) rfl 324 _ rfl (.agg br) rfl _ (w6.alloc (.cells br 329)) (by rw [jz.out.1];exact Ek b RA b.bt.length rc w6) ?_;have xg:True:=trivial)
        | (clear xg;at_builtin;rw [<-yG.out.1];refine aH (o:=⟨some 48,_,_,_,_,_⟩) rfl _ _ 324 rfl mX 329 (.agg #[.int .u64 0, .int .u64 0, .int .u64 0, .string ⟨#[]⟩, .string ⟨#[]⟩, .string ⟨#[]⟩, .int .u64 0, .int .u64 0, .int .u64 0, .string ⟨#[]⟩, .string ⟨#[]⟩, .string ⟨#[]⟩, .bool false, .bool false, .bool false, .bool false, .slice none 0 0]) 176 underlying324 uq rfl (by decide) rfl rfl HX.out.1 HX.out.2 (by rw [<-V4.out];simp [maxLen];omega) (by rw [<-V4.out];simp;omega) (by have h1:=yG.out.2.2.1;omega) rfl (ol+1) (by rw [V4.out];simp) ?_;intro A8 c8 w8 F8 Bg Bh qh _;have H8:=Y3 Bg Bh qh;clear Bg Bh qh;have k16:w8.cell? ⟨w.heap.size+1+1,0,none⟩=some (.slice OA ol oc):=ae ((H8.out.2.2.block (w.heap.size+2) (by omega)).trans (Dm.out.pure yG.out.2.2.2).out) rfl;have f16:w8.frozen? ⟨w.heap.size+1+1,0,none⟩=false:=frozen_of_row _ _ _ _ _ ((H8.out.2.2.block (w.heap.size+2) (by omega)).trans (Dm.out.pure yG.out.2.2.2).out);go_frame))
       have LQ:wo.heap.size<wr.heap.size:=(Array.getElem?_eq_some_iff.1 H.out.2.1).1;have PX:Hid (Below wr.heap.size wr Wd):=Y0 (vB.out.trans (yG.out.2.2.2.mono vB.out.size));have hnF:¬F' wo.heap.size:=fun h=>H.out.2.2.1 _ h rfl
       have PY:=Dm.out.pure yG.out.2.2.2|>.push H8.out.1 H8.out.2.1 H8.out.2.2;have ke:dw F8 w8 F8 (w8.setCell ⟨w.heap.size+2,0,none⟩ (.slice A8 (ol+1) c8)):= .setCell (H8.out.2.1.grow _ ((Dm.out.pure yG.out.2.2.2).stp.grow _ (.inr rfl))) _;refine ⟨⟨j+1, .slice A8 (ol+1) c8,F8,by go_num,by omega,Y0 ⟨?_, ?_,fun c hc=> ?_, ?_, ?_⟩⟩,by simp [intOf];omega⟩
       · rw [Ew.out,Ib.out.2,<-T3.out];exact PY
       · show (w8.setCell ⟨w.heap.size+2,0,none⟩ (.slice A8 (ol+1) c8)).heap[wo.heap.size]?=_;rw [heap_setCell_other _ _ _ _ (by show wo.heap.size≠w.heap.size+2;have:=hsz;omega),H8.out.2.1.keep _ (Nat.lt_of_lt_of_le LQ PX.out.size) hnF];exact aJ H.out.2.1 LQ PX.out
       · intro e;rw [e] at hc;exact hnF (H8.out.2.1.old _ (Nat.lt_of_lt_of_le LQ PX.out.size) hc)
       · exact ((H.out.2.2.2.1.trans (PX.out.mono (by omega))).trans (H8.out.2.2.mono (by omega))).setCell (by show w.heap.size<=w.heap.size+2;omega) _
       exact ((H.out.2.2.2.2.pure PX.out).step H8.out.2.1).step ke
     go_wp2_with (first
      | (clear flag;refine bu (o:=⟨some 37,_,_,_,_,_⟩) rfl 329 _ rfl ⟨g2,mh+j*17,none⟩ rfl Ex _ gb.out underlying329 rfl (by rw [qX.out.2.1];exact bj) ?_;have au:True:=trivial)
      | (clear au;refine wpList_store_row (o:=⟨none,Op.store 329 (Operand.tmp 11) (Operand.tmp 37),_,_,_,_⟩) rfl 329 _ _ rfl wr.heap.size Ex rfl rfl 329 #[.int .u64 0, .int .u64 0, .int .u64 0, .string ⟨#[]⟩, .string ⟨#[]⟩, .string ⟨#[]⟩, .int .u64 0, .int .u64 0, .int .u64 0, .string ⟨#[]⟩, .string ⟨#[]⟩, .string ⟨#[]⟩, .bool false, .bool false, .bool false, .bool false, .slice none 0 0] (heap_alloc_new _ _) (by rw [qX.out.2.1];exact bj) (by rw [qX.out.2.1];rfl) qX.out.2.2 ?_;rw [<-pN.out.1];have aQ:True:=trivial)
      | (clear aQ;refine wpList_load_row (o:=⟨some 38,_,_,_,_,_⟩) rfl 329 _ rfl wo.heap.size rfl 329 ar (0,0) _ J9.out underlying329 rfl (by rw [vC.out.2.1];exact bj) ?_;have zB:True:=trivial)
      | (clear zB;refine wpList_load_row (o:=⟨some 39,_,_,_,_,_⟩) rfl 329 _ rfl wr.heap.size rfl 329 Ex (0,0) _ pN.out.2.1 underlying329 rfl (by rw [qX.out.2.1];exact bj) ?_;have cf:True:=trivial)
      | (clear cf;go_at_call 361;(with_reducible refine lQ.out.mono ?_);rintro e w5 ⟨rv,rfl,jd,bz⟩;obtain ⟨RA,rc,Ka⟩:=jd.form;subst Ka;obtain ⟨br,hbr⟩:∃br,br=b.arr (.slice RA b.bt.length rc):=⟨_,rfl⟩;have jz:Hid (br=b.arr (.slice RA b.bt.length rc)/\br.size=17/\br.all (·.oneCell')=true):=Y0 ⟨hbr,by rw [hbr];rfl,by rw [hbr];exact Pc.arr_one _ rfl⟩;rw [<-hbr];clear hbr;obtain ⟨Wc,J5,c1,wZ,cB⟩:=boxed w5 #[.int .u64 0, .int .u64 0, .int .u64 0, .string ⟨#[]⟩, .string ⟨#[]⟩, .string ⟨#[]⟩, .int .u64 0, .int .u64 0, .int .u64 0, .string ⟨#[]⟩, .string ⟨#[]⟩, .string ⟨#[]⟩, .bool false, .bool false, .bool false, .bool false, .slice none 0 0] br 329;have oo:=Y4 J5 c1 wZ cB;clear J5 c1 wZ cB;have dS:Hid (Below wr.heap.size wr w5):=Y0 (pN.out.2.2.2.trans (bz.mono (by have:=pN.out.2.2.1;omega)));clear bz;have Oq:Hid (Rd lO F' Wc (.slice RA b.bt.length rc) b.bt):=Y0 (jd.pure oo.out.2.2.2);clear jd;have ft:True:=trivial)
      | (clear ft;refine wpList_store_row (o:=⟨none,Op.store 329 (Operand.tmp 12) (Operand.tmp 40),_,_,_,_⟩) rfl 329 _ _ rfl w5.heap.size br rfl rfl 329 #[.int .u64 0, .int .u64 0, .int .u64 0, .string ⟨#[]⟩, .string ⟨#[]⟩, .string ⟨#[]⟩, .int .u64 0, .int .u64 0, .int .u64 0, .string ⟨#[]⟩, .string ⟨#[]⟩, .string ⟨#[]⟩, .bool false, .bool false, .bool false, .bool false, .slice none 0 0] (heap_alloc_new _ _) (by rw [jz.out.2.1];exact bj) (by rw [jz.out.2.1];rfl) jz.out.2.2 ?_;rw [<-oo.out.1];have qY:True:=trivial)
      | (clear qY;refine wpList_load_row (o:=⟨some 41,_,_,_,_,_⟩) rfl 329 _ rfl w5.heap.size rfl 329 br (0,0) _ oo.out.2.1 underlying329 rfl (by rw [jz.out.2.1];exact bj) ?_;have zC:True:=trivial)
      | (clear zC;go_at_call 362;have kF:=f362 (F:=F') b (.slice RA b.bt.length rc) Wc Oq.out (Ib.out.1.mono (by omega));rw [<-T3.out] at kF;unfold Pc.val at kF;rw [<-jz.out.1] at kF;refine kF.mono ?_;rintro e w6 ⟨rfl,eQ⟩;clear kF;have Dm:Hid (iy F w W3 (.slice (some ⟨g,off,none⟩) ps.length cap) (.slice (some ⟨g2,mh,none⟩) qs.length sy) F' (.slice OA ol oc) o w6):=Y0 (((H.out.1.pure dS.out).pure oo.out.2.2.2).pure eQ);have bU:Hid (Below Wc.heap.size Wc w6):=Y0 eQ;clear eQ;have vB:Hid (Below wr.heap.size wr w6):=Y0 (dS.out.trans ((oo.out.2.2.2.mono dS.out.size).trans (bU.out.mono (by have h1:=dS.out.size;have h2:=oo.out.2.2.1;omega))));have Po:w6.cell? ⟨w.heap.size+1+1,0,none⟩=some (.slice OA ol oc):=ae Dm.out.out rfl;have Kb:Hid (w6.heap[w5.heap.size]?=some (.cells br 329 (0,0))):=Y0 (aJ oo.out.2.1 (by have:=oo.out.2.2.1;omega) bU.out);have iO:w.heap.size+1+1<w6.heap.size:=(by have:=vB.out.size;omega);obtain ⟨Wd,PV,d1,PW,dB⟩:=aZ w6 (.cells br 329);have yG:=Y4 PV d1 PW dB;clear PV d1 PW dB;have hE:=Rd.one (d:=mX) (F:=F') (w:=w6) (e:=329) (x:=b) (cs:=br) ⟨.slice RA b.bt.length rc,by rw [jz.out.1];rfl,by rw [<-yG.out.1];exact (Oq.out.pure bU.out).pure yG.out.2.2.2⟩ Dm.out.lt;rw [<-yG.out.1] at hE;have HX:=Y2 (Dm.out.own.pure yG.out.2.2.2) hE;clear hE;have s6:True:=trivial))
     go_roundw
     case rel=>exact ⟨j+1, .slice OA ol oc,F',by go_num,by omega,Y0 ⟨by rw [Ew.out,Ib.out.2,<-T3.out];exact Dm.out,aJ H.out.2.1 (Array.getElem?_eq_some_iff.1 H.out.2.1).1 vB.out,H.out.2.2.1,H.out.2.2.2.1.trans (vB.out.mono (by omega)),H.out.2.2.2.2.pure vB.out⟩⟩
     simp [intOf];omega
   have hjl:j=qs.length:=by omega
   have H1:=H.out.1;rw [show qs.take j=qs from List.take_of_length_le (by omega),<-Bd.out] at H1;have HE:=Y0 H1;clear H1 H;subst hjl;go_wp2;go_roundw
   case rel=>exact ⟨k+1,_,F',by go_num,by omega,HE⟩
   simp [intOf];omega
 have hkl:k=ps.length:=by omega
 have Ez:ps.take k=ps:=List.take_of_length_le (by omega);have H1:=H.out;rw [Ez] at H1;have HE:=Y0 H1;clear H1 Ez H;subst hkl;obtain ⟨OA,oc,hov⟩:=HE.out.own.form;subst hov;have x0:wr.cell? ⟨w.heap.size+1+1,0,none⟩=some (.slice OA (eD ps qs).length oc):=ae HE.out.out rfl;go_wp2;go_ret;exact ⟨_,rfl,⟨_,rfl,HE.out.own.rd (F0:=F) (fun b hb=>by have:=HF.out b hb;omega) (fun b hb=>HE.out.stp.grow b (.inl hb)) (by decide)⟩,HE.out.below⟩
end Go.Proofs.YtjenhelmpcajfaaGreatDoor
