/- differences of locks -/
import Derived.Test.YtjenhelmpcajfaaGreatDoorA40
import Derived.Test.YtjenhelmpcajfaaGreatDoorA39
import Derived.Deep.DeepCutAuto
set_option linter.all false
set_option maxRecDepth 20000
set_option maxHeartbeats 4000000
namespace Go.Proofs.YtjenhelmpcajfaaGreatDoor
open Go.Proofs.Tryz Go.RowKit
abbrev pH:Array Value:= #[.slice none 0 0, .slice none 0 0, .nilIface, .nilIface, .string ⟨#[]⟩, .string ⟨#[]⟩, .string ⟨#[]⟩, .string ⟨#[]⟩, .int .u8 0, .int .u8 0, .int .i64 0, .int .i64 0, .bool false]
abbrev yT (r:aa):Array Value:= #[.string r, .bool false, .bool true, .slice none 0 0, .slice none 0 0, .nilIface, .nilIface, .string ⟨#[]⟩, .string ⟨#[]⟩, .string ⟨#[]⟩, .string ⟨#[]⟩, .int .u8 0, .int .u8 0, .int .i64 0, .int .i64 0, .bool false]
def jy (w:World) (v:Value) (e:Ending) (w':World):Prop:=e= .returned v/\Below w.heap.size w w'
theorem eN {w w':World} {v:Value} {e:Ending} (h:e= .returned v) (hb:Below w.heap.size w w'):jy w v e w':=⟨h,hb⟩
theorem f59 (r:aa) (w:World):Calls Tryz.prog 59 #[.agg (yT r)] w (jy w (.bool true)):=by
 go_enter func59,ntmps59;go_wp2;go_ret;exact eN rfl ((Below.refl _ _).alloc (Nat.le_refl _) _)
theorem f60 (r:aa) (w:World):Calls Tryz.prog 60 #[.agg (yT r)] w (jy w (.bool false)):=by
 go_enter func60,ntmps60;go_wp2;go_ret;exact eN rfl ((Below.refl _ _).alloc (Nat.le_refl _) _)
theorem f98 (w:World):Calls Tryz.prog 98 #[.agg pH] w (jy w (.bool false)):=by
 go_enter func98,ntmps98;go_wp2;go_ret;exact eN rfl ((Below.refl _ _).alloc (Nat.le_refl _) _)
theorem f99 (w:World):Calls Tryz.prog 99 #[.agg pH] w (jy w (.bool false)):=by
 go_enter func99,ntmps99;go_wp2;go_ret;exact eN rfl ((Below.refl _ _).alloc (Nat.le_refl _) _)
theorem f101 (w:World):Calls Tryz.prog 101 #[.agg pH] w (jy w (.bool false)):=by
 go_enter func101,ntmps101;go_wp2;go_ret;exact eN rfl ((Below.refl _ _).alloc (Nat.le_refl _) _)
theorem f102 (w:World):Calls Tryz.prog 102 #[.agg pH] w (jy w (.bool false)):=by
 go_enter func102,ntmps102;go_wp2;go_ret;exact eN rfl ((Below.refl _ _).alloc (Nat.le_refl _) _)
theorem f103 (w:World):Calls Tryz.prog 103 #[.agg pH] w (jy w (.bool false)):=by
 go_enter func103,ntmps103;go_wp2;go_ret;exact eN rfl ((Below.refl _ _).alloc (Nat.le_refl _) _)
theorem f104 (w:World):Calls Tryz.prog 104 #[.agg pH] w (jy w (.bool true)):=by
 go_enter func104,ntmps104;go_wp2;go_ret;exact eN rfl ((Below.refl _ _).alloc (Nat.le_refl _) _)
theorem f100 (w:World):Calls Tryz.prog 100 #[.agg pH] w (jy w (.bool false)):=by
 go_enter func100,ntmps100;go_wp2;go_ret;exact eN rfl ((Below.refl _ _).alloc (Nat.le_refl _) _)
theorem f96 (w:World):Calls Tryz.prog 96 #[.agg pH] w (jy w (.int .u32 0)):=by
 go_enter func96,ntmps96;go_wp2;go_ret;exact eN rfl (by repeat (first|exact Below.refl _ _|refine Below.alloc ?_ (by simp<;>omega) _))
theorem f97 (w:World):Calls Tryz.prog 97 #[.agg pH, .int .u32 2] w (jy w (.bool false)):=by
 go_enter func97,ntmps97;go_wp2;go_ret;exact eN rfl (by repeat (first|exact Below.refl _ _|refine Below.alloc ?_ (by simp<;>omega) _))
theorem f62 (r:aa) (w:World):Calls Tryz.prog 62 #[.agg (yT r)] w (jy w (.int .u32 2)):=by
 go_enter func62,ntmps62;go_wp2;go_ret;exact eN rfl (by repeat (first|exact Below.refl _ _|refine Below.alloc ?_ (by simp<;>omega) _))
theorem f63 (r:aa) (w:World):Calls Tryz.prog 63 #[.agg (yT r), .int .u32 2] w (jy w (.bool true)):=by
 go_enter func63,ntmps63;go_wp2;go_ret;exact eN rfl (by repeat (first|exact Below.refl _ _|refine Below.alloc ?_ (by simp<;>omega) _))
theorem f92 (A:Option Addr) (n c:Nat) (w:World) (hn:n<=1):Calls Tryz.prog 92 #[.slice A n c] w (jy w (.slice A n c)):=by
 have hn':(n:Int)<=1:=by omega
 go_enter func92,ntmps92;go_wp2;go_ret;exact eN rfl (Below.refl _ _)
def K6 (w:World) (e:Ending) (w':World):Prop:=e= .returned (.tuple #[.slice none 0 0, .slice none 0 0])/\Below w.heap.size w w'
theorem JJ {w w':World} {e:Ending} (h:e= .returned (.tuple #[.slice none 0 0, .slice none 0 0])) (hb:Below w.heap.size w w'):K6 w e w':=⟨h,hb⟩
theorem f95 (A B:Option Addr) (c d:Nat) (w:World):Calls Tryz.prog 95 #[.slice A 0 c, .slice B 0 d] w (K6 w):=by
 have m1:=KY;go_enter func95,ntmps95;go_upto_region 1 with fail;go_cut [6,7] (fun p q wx=>∃a b:Nat,p= .map (some a)/\q= .map (some b)/\Hid (ah aO wx a []/\ah aO wx b []/\Below w.heap.size w wx))
 case first=>
  have HA:=Y0 (fq [.map #[] 0, .map #[] 0] w);have HB:Hid (Below w.heap.size w ((w.alloc (.map #[] 0)).alloc (.map #[] 0)).drew):=Y0 (((Below.refl _ _).alloc (Nat.le_refl _) _).alloc (by simp) _).drew;refine wp_region_held_drew (S:=(fun _=>True)) (by kernel_rfl) ?_ (fun hHeld=> ?_)
  · (try dsimp only)
    all_goals trivial
  refine ik [0,1,3,4] ?_;refine U9 [2,5] ?_;refine iL (i:=2) (fun K hK=> ?_) ?_
  · go_simp;refine hK.out _ _ ?_ (fun hHeld=> ?_)
    · (try dsimp only)
      all_goals trivial
    clear hK K
    (try simp only [Act.put,aA,aB,aC])
    refine ik [6] ?_;refine kq 5 (fun K hK=> ?_);go_simp;refine hK.out _ _ ?_ (fun hHeld=> ?_)
    · (try dsimp only)
      all_goals trivial
    clear hK K
    (try simp only [Act.put,aA,aB,aC])
    refine ik [7] ?_;refine ve ?_;go_wp2_with fail;go_meet;exact ⟨w.heap.size,w.heap.size+1,rfl,rfl,Y0 ⟨iG _ (HA.out 0 _ rfl),iG _ (HA.out 1 _ rfl),HB.out⟩⟩
  refine iL (i:=5) (fun K hK=> ?_) ?_
  · go_simp;refine hK.out _ _ ?_ (fun hHeld=> ?_)
    · (try dsimp only)
      all_goals trivial
    clear hK K
    (try simp only [Act.put,aA,aB,aC])
    refine kq 2 (fun K hK=> ?_);go_simp;refine hK.out _ _ ?_ (fun hHeld=> ?_)
    · (try dsimp only)
      all_goals trivial
    clear hK K
    (try simp only [Act.put,aA,aB,aC])
    refine ik [6,7] ?_;refine ve ?_;go_wp2_with fail;go_meet;exact ⟨w.heap.size+1,w.heap.size,rfl,rfl,Y0 ⟨iG _ (HA.out 1 _ rfl),iG _ (HA.out 0 _ rfl),HB.out⟩⟩
  exact AllReadyH.nil
 obtain ⟨a,b,rfl,rfl,H⟩:=hcut;apply_assumption;go_wp2;go_loopw [24] (fun i wx=>i= .int .i64 0/\Hid (wx=wc)) (fun _ _=>0)
 case atStart=>exact ⟨rfl,Y0 rfl⟩
 obtain ⟨rfl,hw⟩:=hrel;go_wp2;go_loopw [33] (fun i wx=>i= .int .i64 0/\Hid (wx=wc)) (fun _ _=>0)
 case atStart=>exact ⟨rfl,hw⟩
 obtain ⟨rfl,hw⟩:=hrel;have hw2:=hw.out;subst hw2;go_wp2_with (go_at_call 128;refine (f128 aO a [] wr H.out.1 (by simp)).mono ?_;rintro e w2 ⟨v2,xs,F2,rfl,hK,hO,hF,hB⟩;obtain ⟨A2,c2,rfl⟩:=hO.form;have hx:xs= []:=List.eq_nil_iff_forall_not_mem.2 (fun x hx=>by have:=(hK.2 x).1 hx;simp [af] at this);subst hx;have H2:=Y0 hB;clear hK hO hF hB);go_loopw [5,43] (fun s i wx=>s= .slice none 0 0/\i= .int .i64 0/\Hid (wx=w2)) (fun _ _ _=>0)
 case atStart=>exact ⟨rfl,rfl,Y0 rfl⟩
 obtain ⟨rfl,rfl,hw⟩:=hrel;have hw2:=hw.out;subst hw2;go_wp2_with (go_at_call 128;refine (f128 aO b [] wr (H.out.2.1.pure H2.out) (by simp)).mono ?_;rintro e w3 ⟨v3,xs,F3,rfl,hK,hO,hF,hB⟩;obtain ⟨A3,c3,rfl⟩:=hO.form;have hx:xs= []:=List.eq_nil_iff_forall_not_mem.2 (fun x hx=>by have:=(hK.2 x).1 hx;simp [af] at this);subst hx;have H3:=Y0 (H2.out.trans (hB.mono H2.out.size));clear hK hO hF hB);go_loopw [4,59] (fun s i wx=>s= .slice none 0 0/\i= .int .i64 0/\Hid (wx=w3)) (fun _ _ _=>0)
 case atStart=>exact ⟨rfl,rfl,Y0 rfl⟩
 obtain ⟨rfl,rfl,hw⟩:=hrel;have hw2:=hw.out;subst hw2;go_wp2;go_ret2;exact JJ rfl (H.out.2.2.trans (H3.out.mono H.out.2.2.size))
def r9 (r:aa) (_:Unit):Value:= .agg (yT r)
theorem SX {w:World} {g:Nat} {x y z:Value} {t:TypeId} (h:av w g #[x,y,z] t):∃W,W=(w.setCell ⟨g,0,none⟩ x).setCell ⟨g,1,none⟩ y/\av W g #[x,y,z] t/\W.heap.size=w.heap.size/\(∀k,k≠g->W.heap[k]?=w.heap[k]?)/\Below g w W:=
 ⟨_,rfl,Go.heap_setCell_same _ g 1 _ _ _ (Go.heap_setCell_same _ g 0 _ _ _ h),by simp,fun k hk=>(heap_setCell_other _ ⟨g,1,none⟩ k y hk).trans (heap_setCell_other _ ⟨g,0,none⟩ k x hk),(ei (a:=⟨g,0,none⟩) (Nat.le_refl _) x).trans (ei (a:=⟨g,1,none⟩) (Nat.le_refl _) y)⟩
theorem SY (w:World):(Instr.makeMap 134 none).run Tryz.prog w= .ok (.map (some w.heap.size)) (w.alloc (.map #[] 0)):=by kernel_rfl
theorem nR:(Tryz.prog.info? 136).map (·.size)=some 3:=by kernel_rfl
abbrev oW:Array Value:= #[.slice none 0 0, .slice none 0 0, .map none]
def Zk (r:aa) (w:World) (e:Ending) (w':World):Prop:=∃m,e= .returned (.agg #[.slice none 0 0, .slice none 0 0, .map (some m)])/\ah (r9 r) w' m [(r,())]/\Below w.heap.size w w'
theorem Zl {r:aa} {w w':World} {e:Ending} {m:Nat} (h:e= .returned (.agg #[.slice none 0 0, .slice none 0 0, .map (some m)])) (h1:ah (r9 r) w' m [(r,())]) (h2:Below w.heap.size w w'):Zk r w e w':=⟨m,h,h1,h2⟩
theorem f55 {F:Nat->Prop} (A B A2 B2:Option Addr) (c d c2 d2:Nat) (l:iK) (w:World) (h:Rd GM F w (.slice A2 1 c2) [l]):
 Calls Tryz.prog 55 #[.iface 227 (.agg #[.slice A 0 c, .slice B 0 d]), .iface 227 (.agg #[.slice A2 1 c2, .slice B2 0 d2])] w (Zk l.root w):=by
 have mk:=SY;have SI:=yt;obtain ⟨-,hb1,hb2⟩:=h.bound;obtain ⟨w1,hw1,g1,hs1,az⟩:=aZ w (.cells oW 136);have HW:=Y4 hw1 g1 hs1 az;have HL:=Y0 (h.pure az);clear hw1 g1 hs1 az h;go_enter func55,ntmps55;go_upto_region 7 with fail;rw [show w.alloc (.cells #[.slice none 0 0, .slice none 0 0, .map none] 136)=w1 from HW.out.1.symm];have flag:True:=trivial
 go_wp2_with (first
  | (clear flag;go_at_call 268;refine (f268 _ _ _ _ _ _ w1).mono ?_;rintro e w2 ⟨rfl,cZ⟩;have H2:=Y0 cZ;clear cZ;have aj:True:=trivial)
  | (clear aj;go_at_call 268;refine (f268 _ _ _ _ _ _ w2).mono ?_;rintro e w3 ⟨rfl,bb⟩;have H3:=Y0 (H2.out.trans (bb.mono H2.out.size));clear bb;have au:True:=trivial)
  | (clear au;go_at_call 92;refine (f92 A 0 c w3 (by omega)).mono ?_;rintro e w4 ⟨rfl,hB4⟩;have H4:=Y0 (H3.out.trans (hB4.mono H3.out.size));clear hB4;have aQ:True:=trivial)
  | (clear aQ;go_at_call 92;refine (f92 A2 1 c2 w4 (by omega)).mono ?_;rintro e w5 ⟨rfl,bz⟩;have H5:=Y0 (H4.out.trans (bz.mono H4.out.size));clear bz;have cf:True:=trivial))
 obtain ⟨w6,qi,g5,g6,iO,eQ⟩:=dO w5 (.map #[] 0) (.cells #[.slice none 0 0, .slice none 0 0, .map (some w5.heap.size)] 136);rw [show (w5.alloc (.map #[] 0)).alloc (.cells #[.slice none 0 0, .slice none 0 0, .map (some w5.heap.size)] 136)=w6 from qi.symm];have hs5:w1.heap.size<=w5.heap.size:=H5.out.size;have hs1:w1.heap.size=w.heap.size+1:=HW.out.2.2.1;have H6:Hid (ah (r9 l.root) w6 w5.heap.size []/\av w6 (w5.heap.size+1) #[.slice none 0 0, .slice none 0 0, .map (some w5.heap.size)] 136/\av w6 w.heap.size oW 136/\Below w1.heap.size w1 w6):=Y0 ⟨iG _ g5,g6,(eQ.block _ (by omega)).trans ((H5.out.block _ (by omega)).trans HW.out.2.1),H5.out.trans (eQ.mono hs5)⟩;clear qi g5 g6 eQ mk;go_loopw [8,9] (fun i j wx=>i= .int .i64 0/\j= .int .i64 0/\Hid (wx=w6)) (fun _ _ _=>0)
 case atStart=>exact ⟨rfl,rfl,Y0 rfl⟩
 obtain ⟨rfl,rfl,hw⟩:=hrel;have hw2:=hw.out;subst hw2;go_wp2;go_loopw [16] (fun i wx=>∃k:Nat,i= .int .i64 k/\k<=1/\Hid (ah (r9 l.root) wx w5.heap.size (if k=0 then [] else [(l.root,())])/\av wx (w5.heap.size+1) #[.slice none 0 0, .slice none 0 0, .map (some w5.heap.size)] 136/\av wx w.heap.size oW 136/\Below w1.heap.size w1 wx)) (fun i _=>1 - (intOf i).toNat)
 case atStart=>exact ⟨0,rfl,by omega,Y0 ⟨H6.out.1,H6.out.2.1,H6.out.2.2.1,H6.out.2.2.2⟩⟩
 obtain ⟨k,rfl,hk,hc⟩:=hrel;by_cases hlt:k<1
 · have fu:k=0:=by omega
   subst fu;obtain ⟨g,off,cs,rfl,-,hg,⟨lv,rfl,hlv⟩,hcells⟩:=(HL.out.pure hc.out.2.2.2).at_ (i:=0) rfl
   have hcell:wr.cell? ⟨g,off,none⟩=some lv:=by
    have h:=hcells 0 _ rfl;simpa [GM] using h
   obtain ⟨T,x,rfl⟩:=hlv.form;have Gm:=Y0 hlv;have y2:wr.cell? ⟨w5.heap.size+1,2,none⟩=some (.map (some w5.heap.size)):=ae hc.out.2.1 rfl;clear hcells hlv;have hm0:Hid (ah (r9 l.root) wr w5.heap.size []):=Y0 (by simpa using hc.out.1);have yO:=hc.out.2.2.2.size;have hrl:=hc.out.1.lt;have U0:w5.heap.size+1<wr.heap.size:=(Array.getElem?_eq_some_iff.1 hc.out.2.1).1;have flag:True:=trivial
   go_wp2_with (first
    | (clear flag;refine lA (o:=⟨some 106,_,_,_,_,_⟩) rfl Gm.out _ rfl rfl ?_;intro w7 iV;have H7:=Y0 iV;have z2:w7.cell? ⟨w5.heap.size+1,2,none⟩=some (.map (some w5.heap.size)):=ae ((iV.block _ U0).trans hc.out.2.1) rfl;clear iV;have aj:True:=trivial;go_frame)
    | (clear aj;refine aM (f:=r9 l.root) (b:=()) rfl _ _ _ 134 rfl _ _ underlying134 underlying110 rfl (hm0.out.pure H7.out) rfl rfl ?_;intro w8 kU jV ke;have H8:=Y3 kU jV ke;clear kU jV ke;go_frame))
   exact ⟨⟨1,rfl,by omega,Y0 ⟨by simpa [bN] using H8.out.1,(H8.out.2.1.block _ (by have:=H7.out.size;omega) (by intro e;injection e with e;omega)).trans ((H7.out.block _ U0).trans hc.out.2.1),(H8.out.2.1.block _ (by have:=H7.out.size;omega) (by intro e;injection e with e;omega)).trans ((H7.out.block _ (by omega)).trans hc.out.2.2.1),(hc.out.2.2.2.trans (H7.out.mono yO)).trans (Below.of_grown H8.out.2.1 (fun j hj=>by injection hj with hj;omega) (by have:=H7.out.size;omega))⟩⟩,by simp [intOf]⟩
 have hk1:k=1:=by omega
 subst hk1;have Mk:Hid (ah (r9 l.root) wr w5.heap.size [(l.root,())]):=Y0 (by simpa using hc.out.1);have yO:=hc.out.2.2.2.size;have U0:w5.heap.size+1<wr.heap.size:=(Array.getElem?_eq_some_iff.1 hc.out.2.1).1;have flag:True:=trivial
 go_upto_region 38 with (first
  | (clear flag;go_at_call 267;refine (f267 _ _ _ _ _ _ wr).mono ?_;rintro e w7 ⟨rfl,iV⟩;have H7:=Y0 iV;clear iV;have aj:True:=trivial)
  | (clear aj;go_at_call 267;refine (f267 _ _ _ _ _ _ w7).mono ?_;rintro e w8 ⟨rfl,qh⟩;have H8:=Y0 (H7.out.trans (qh.mono H7.out.size));clear qh;have au:True:=trivial)
  | (clear au;go_at_call 95;refine (f95 B B2 d d2 w8).mono ?_;rintro e w9 ⟨rfl,kK⟩;have H9:=Y0 (H8.out.trans (kK.mono H8.out.size));have r8:=(H9.out.block _ U0).trans hc.out.2.1;have y0:w9.cell? ⟨w5.heap.size+1,0,none⟩=some (.slice none 0 0):=ae r8 rfl;have y1:w9.cell? ⟨w5.heap.size+1,1,none⟩=some (.slice none 0 0):=ae r8 rfl;have z0:=frozenAt (j:=0) r8;have z1:=frozenAt (j:=1) r8;have Hq9:=Y0 r8;clear kK r8;have aQ:True:=trivial))
 obtain ⟨wx,hwx,hrx,Rv,hkx,fZ⟩:=SX Hq9.out;rw [<-hwx];have HX:=Y4 hrx Rv hkx fZ;clear hwx hrx Rv hkx fZ y0 y1 z0 z1;have y0:wx.cell? ⟨w5.heap.size+1,0,none⟩=some (.slice none 0 0):=ae HX.out.1 rfl;have y1:wx.cell? ⟨w5.heap.size+1,1,none⟩=some (.slice none 0 0):=ae HX.out.1 rfl;have y2:wx.cell? ⟨w5.heap.size+1,2,none⟩=some (.map (some w5.heap.size)):=ae HX.out.1 rfl;have hz:Hid (av wx w.heap.size oW 136):=Y0 ((HX.out.2.2.1 _ (by omega)).trans ((H9.out.block _ (by omega)).trans hc.out.2.2.1))
 have hfin:∀(c:Act) (W6:World),Hid (av W6 w.heap.size #[.slice none 0 0, .slice none 0 0, .map (some w5.heap.size)] 136/\W6.heap.size=wx.heap.size/\(∀k,k≠w.heap.size->W6.heap[k]?=wx.heap[k]?)/\Below w.heap.size wx W6)->c.tmps.getD 4 undef= .pointer (some ⟨w.heap.size,0,none⟩)->c.defers= []->bodyPost Tryz.prog Tryz.f55 (Zk l.root w) Exit.ret c W6:=fun c W6 H6 hp zz=>by
  refine bodyPost_ret (df (p:=4) results55 c.tmps W6 w.heap.size 136 _ (0,0) _ hp H6.out.1 underlying136 rfl nR) zz ?_;exact Zl rfl (((Mk.out.pure H9.out).keep (HX.out.2.2.1 _ (by omega))).keep (H6.out.2.2.1 _ (by omega))) ((((HW.out.2.2.2.trans (hc.out.2.2.2.mono (by omega))).trans (H9.out.mono (by omega))).trans (HX.out.2.2.2.mono (by omega))).trans H6.out.2.2.2)
 have uX:=Y0 hfin;clear hfin;have SZ:True:=trivial
 go_wp2_with (first
  | (clear SZ;refine oL (o:=⟨none,Op.store 136 (Operand.tmp 4) (Operand.tmp 123),_,_,_,_⟩) (cs:= #[.slice none 0 0, .slice none 0 0, .map (some w5.heap.size)]) (old:=oW) rfl _ _ rfl w.heap.size rfl rfl hz.out nR rfl (by simp [Value.oneCell']) ?_;intro W6 H6;go_frame;refine wpList_nil ?_;dsimp only [Exit.then];apply_assumption;exact wp_ret (uX.out _ W6 H6 rfl rfl)))
abbrev BZ (m:Nat):Array Value:= #[.slice none 0 0, .slice none 0 0, .map (some m)]
theorem f56 (r:aa) (m:Nat) (w:World) (h:ah (r9 r) w m [(r,())]):Calls Tryz.prog 56 #[.agg (BZ m)] w (jy w (.int .u32 2)):=by
 obtain ⟨w1,hw1,g1,hs1,az⟩:=aZ w (.cells (BZ m) 136);have HW:=Y4 hw1 g1 hs1 az;have HM:=Y0 (h.pure az);have x0:w1.cell? ⟨w.heap.size,0,none⟩=some (.slice none 0 0):=ae g1 rfl;have x1:w1.cell? ⟨w.heap.size,1,none⟩=some (.slice none 0 0):=ae g1 rfl;have x2:w1.cell? ⟨w.heap.size,2,none⟩=some (.map (some m)):=ae g1 rfl;clear hw1 g1 hs1 az h;go_enter func56,ntmps56;go_upto_region 1 with fail;rw [show w.alloc (.cells #[.slice none 0 0, .slice none 0 0, .map (some m)] 136)=w1 from HW.out.1.symm];go_wp2_with (refine bp (o:=⟨some 20,_,_,_,_,_⟩) rfl _ _ rfl _ _ underlying134 rfl HM.out ?_;intro w2 hI cZ hs2;have H2:=Y3 hI cZ hs2;clear hI cZ;go_frame);go_loopw [3] (fun v wq=>∃k:Nat,v= .int .u32 k/\(k=0\/k=2)/\Hid (aL (r9 r) wq m w1.heap.size [(r,())] (if k=0 then [(r,())] else [])/\Below w1.heap.size w1 wq)) (fun v _=>2 - (intOf v).toNat)
 case atStart=>exact ⟨0,rfl, .inl rfl,Y0 ⟨H2.out.1,H2.out.2.1⟩⟩
 obtain ⟨k,rfl,hk,hc⟩:=hrel;rcases hk with rfl|rfl
 · have hI:Hid (aL (r9 r) wr m w1.heap.size [(r,())] [(r,())]):=Y0 (by simpa using hc.out.1);have flag:True:=trivial
   go_wp2_with (first
    | (clear flag;refine ay (o:=⟨some 21,_,_,_,_,_⟩) rfl _ rfl rfl hI.out (by intro h;cases h) ?_;intro y b left w3 hmem hget eI ba hlen hns hg2 hs3 hent;have hy:y=r:=congrArg Prod.fst (List.mem_singleton.1 hmem);rw [hy] at hent;dsimp only [r9] at hent;have H3:=Y4 eI hlen hg2 hs3;clear hmem hget eI ba hlen hns hg2;have aj:True:=trivial;go_frame)
    | (clear aj;go_at_call 62;refine (f62 r _).mono ?_;rintro e w4 ⟨rfl,hB4⟩;have H4:=Y0 hB4;clear hB4;have au:True:=trivial))
   have hl:left= []:=List.eq_nil_of_length_eq_zero (by have:=H3.out.2.1;simpa using this);subst hl;have hb4:Below w3.heap.size w3 w4:=((Below.refl _ _).alloc (Nat.le_refl _) _).trans (H4.out.mono (by simp));have hwr:=hc.out.2.size;exact ⟨⟨2,by congr 1, .inr rfl,Y0 ⟨H3.out.1.pure hb4,(hc.out.2.trans (Below.of_grown H3.out.2.2.1 (fun j hj=>by injection hj with hj;omega) (by omega))).trans (hb4.mono (by omega))⟩⟩,by decide⟩
 have hI:Hid (aL (r9 r) wr m w1.heap.size [(r,())] []):=Y0 (by simpa using hc.out.1);have flag:True:=trivial;go_wp2_with (refine ay (o:=⟨some 21,_,_,_,_,_⟩) rfl _ rfl rfl hI.out (fun _=> ?_) (by intro s b l' w' hm;cases hm);go_frame);go_ret;exact eN rfl (HW.out.2.2.2.trans (hc.out.2.mono (by have:=HW.out.2.2.1;omega)))
theorem f57 (r:aa) (m:Nat) (w:World) (h:ah (r9 r) w m [(r,())]):Calls Tryz.prog 57 #[.agg (BZ m), .int .u32 2] w (jy w (.bool true)):=by
 obtain ⟨w1,hw1,g1,hs1,az⟩:=aZ w (.cells (BZ m) 136);have HW:=Y4 hw1 g1 hs1 az;have HM:=Y0 (h.pure az);have x0:w1.cell? ⟨w.heap.size,0,none⟩=some (.slice none 0 0):=ae g1 rfl;have x1:w1.cell? ⟨w.heap.size,1,none⟩=some (.slice none 0 0):=ae g1 rfl;have x2:w1.cell? ⟨w.heap.size,2,none⟩=some (.map (some m)):=ae g1 rfl;clear hw1 g1 hs1 az h;go_enter func57,ntmps57;go_upto_region 1 with fail;rw [show w.alloc (.cells #[.slice none 0 0, .slice none 0 0, .map (some m)] 136)=w1 from HW.out.1.symm];go_upto_region 3 with fail;go_wp2_with (refine bp (o:=⟨some 24,_,_,_,_,_⟩) rfl _ _ rfl _ _ underlying134 rfl HM.out ?_;intro w2 hI cZ hs2;have H2:=Y3 hI cZ hs2;clear hI cZ;go_frame);go_loopw [] (fun wq=>Hid (aL (r9 r) wq m w1.heap.size [(r,())] [(r,())]/\Below w1.heap.size w1 wq)) (fun _=>0)
 case atStart=>exact Y0 ⟨H2.out.1,H2.out.2.1⟩
 have hc:=hrel;have flag:True:=trivial
 go_wp2_with (first
  | (clear flag;refine ay (o:=⟨some 25,_,_,_,_,_⟩) rfl _ rfl rfl hc.out.1 (by intro h;cases h) ?_;intro y b left w3 hmem hget eI ba hlen hns hg2 hs3 hent;have hy:y=r:=congrArg Prod.fst (List.mem_singleton.1 hmem);rw [hy] at hent;dsimp only [r9] at hent;have H3:=Y2 hg2 hs3;clear hmem hget eI ba hlen hns hg2;have aj:True:=trivial;go_frame)
  | (clear aj;go_at_call 63;refine (f63 r _).mono ?_;rintro e w4 ⟨rfl,hB4⟩;have H4:=Y0 hB4;clear hB4;have au:True:=trivial))
 go_ret;have hb4:Below w3.heap.size w3 w4:=((Below.refl _ _).alloc (Nat.le_refl _) _).trans (H4.out.mono (by simp));have hwr:=hc.out.2.size;exact eN rfl (HW.out.2.2.2.trans (((hc.out.2.trans (Below.of_grown H3.out.1 (fun j hj=>by injection hj with hj;omega) (by omega))).trans (hb4.mono (by omega))).mono (by have:=HW.out.2.2.1;omega)))
end Go.Proofs.YtjenhelmpcajfaaGreatDoor
