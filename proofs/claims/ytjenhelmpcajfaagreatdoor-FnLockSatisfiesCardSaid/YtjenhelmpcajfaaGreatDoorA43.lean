/- the difference of two projects -/
import Derived.Test.YtjenhelmpcajfaaGreatDoorA42
set_option linter.all false
set_option maxRecDepth 100000
set_option maxHeartbeats 4000000
namespace Go.Proofs.YtjenhelmpcajfaaGreatDoor
open Go.Proofs.Tryz Go.RowKit
abbrev B0 (A B:Option Addr) (c d:Nat) (b:Bool):Array Value:= #[.slice A 0 c, .slice B 0 d, .string ⟨#[]⟩, .string ⟨#[]⟩, .string ⟨#[]⟩, .string ⟨#[]⟩, .string ⟨#[]⟩, .string ⟨#[]⟩, .int .u8 0, .int .u8 0, .int .i64 0, .int .i64 0, .bool false, .int .u32 0, .bool false, .bool false, .bool false, .bool false, .bool false, .bool false, .bool false, .bool b]
abbrev z85:Array Value:=B0 none none 0 0 false
theorem gj:(Tryz.prog.info? 147).map (·.size)=some 13:=by kernel_rfl
theorem uZ:(Tryz.prog.info? 85).map (·.size)=some 22:=by kernel_rfl
abbrev S61 (w w1:World) (W:World):Prop:=Below w1.heap.size w1 W/\av W w.heap.size pH 147/\W.cell? ⟨w.heap.size,0,none⟩=some (.slice none 0 0)/\W.cell? ⟨w.heap.size,1,none⟩=some (.slice none 0 0)/\W.cell? ⟨w.heap.size,4,none⟩=some (.string ⟨#[]⟩)/\W.cell? ⟨w.heap.size,5,none⟩=some (.string ⟨#[]⟩)/\W.cell? ⟨w.heap.size,6,none⟩=some (.string ⟨#[]⟩)/\
 W.cell? ⟨w.heap.size,7,none⟩=some (.string ⟨#[]⟩)/\W.cell? ⟨w.heap.size,8,none⟩=some (.int .u8 0)/\W.cell? ⟨w.heap.size,9,none⟩=some (.int .u8 0)/\W.cell? ⟨w.heap.size,10,none⟩=some (.int .i64 0)/\W.cell? ⟨w.heap.size,11,none⟩=some (.int .i64 0)/\W.cell? ⟨w.heap.size,12,none⟩=some (.bool false)
def Zm (w:World) (e:Ending) (w':World):Prop:=∃A B c d,e= .returned (.agg (B0 A B c d true))/\Below w.heap.size w w'
theorem Zn {w w':World} {e:Ending} {A B:Option Addr} {c d:Nat} (h:e= .returned (.agg (B0 A B c d true))) (hb:Below w.heap.size w w'):Zm w e w':=⟨A,B,c,d,h,hb⟩
theorem K7 (A B:Option Addr) (c d:Nat) (b:Bool):(B0 A B c d b).all (·.oneCell')=true:=by
 have a1:∀k i,(Value.int k i).oneCell'=true:=fun _ _=>rfl
 have a2:∀s,(Value.string s).oneCell'=true:=fun _=>rfl
 have a3:∀A m c,(Value.slice A m c).oneCell'=true:=fun _ _ _=>rfl
 have a4:∀b,(Value.bool b).oneCell'=true:=fun _=>rfl
 simp only [B0,List.all_toArray,List.all_cons,List.all_nil,a1,a2,a3,a4,Bool.and_self]
theorem Zo {w:World} {g:Nat} {A B:Option Addr} {c d:Nat} (h:av w g (B0 A B c d false) 85):∃W,W=((((((w.setCell ⟨g,15,none⟩ (.bool false)).setCell ⟨g,16,none⟩ (.bool false)).setCell ⟨g,17,none⟩ (.bool false)).setCell ⟨g,18,none⟩ (.bool false)).setCell ⟨g,19,none⟩ (.bool false)).setCell ⟨g,20,none⟩ (.bool false)).setCell ⟨g,21,none⟩ (.bool true)/\av W g (B0 A B c d true) 85/\Below g w W:=
 ⟨_,rfl,by
  have st:∀{W:World} {cs:Array Value} (j:Nat) (v:Value),av W g cs 85->av (W.setCell ⟨g,j,none⟩ v) g (cs.setIfInBounds j v) 85:=fun j v h=>Go.heap_setCell_same _ g j _ _ v h
  have h7:=st 21 (.bool true) (st 20 (.bool false) (st 19 (.bool false) (st 18 (.bool false) (st 17 (.bool false) (st 16 (.bool false) (st 15 (.bool false) h))))));simpa only [B0,List.setIfInBounds_toArray,List.set_cons_succ,List.set_cons_zero] using h7,by
  have sb:∀(W:World) (j:Nat) (v:Value),Below g W (W.setCell ⟨g,j,none⟩ v):=fun W j v=>ei (a:=⟨g,j,none⟩) (Nat.le_refl _) v
  exact ((((((sb _ 15 _).trans (sb _ 16 _)).trans (sb _ 17 _)).trans (sb _ 18 _)).trans (sb _ 19 _)).trans (sb _ 20 _)).trans (sb _ 21 _)⟩
theorem f61 (w:World):Calls Tryz.prog 61 #[.agg pH, .int .u32 2] w (Zm w):=by
 obtain ⟨w1,hw1,g1,g2,hs1,az⟩:=dO w (.cells pH 147) (.cells z85 85);have hS:Hid (∀W,Below w1.heap.size w1 W->S61 w w1 W):=Y0 fun W h=>⟨h,(h.block _ (by omega)).trans g1,aK g1 h _ rfl,aK g1 h _ rfl,aK g1 h _ rfl,aK g1 h _ rfl,aK g1 h _ rfl,aK g1 h _ rfl,aK g1 h _ rfl,aK g1 h _ rfl,aK g1 h _ rfl,aK g1 h _ rfl,aK g1 h _ rfl⟩
 have HW:=Y5 hw1 g1 g2 hs1 az;clear hw1 g1 g2 hs1 az;go_enter func61,ntmps61;go_upto_region 1 with fail;rw [show (w.alloc (.cells pH 147)).alloc (.cells z85 85)=w1 from HW.out.1.symm];go_cut [5] (fun al wx=>∃p A B c d,al= .pointer (some ⟨p,0,none⟩)/\Hid (av wx p (B0 A B c d false) 85/\w1.heap.size<=p/\Below w1.heap.size w1 wx))
 case first=>
  refine wp_region_held_drew (S:=S61 w w1) (by kernel_rfl) (hS.out _ (Below.refl _ _).drew) (fun hHeld=> ?_);refine ik [0,1,3,4,6,7,8,9,10,11,12,13,14,15,16,17,18,19,20,21,22,23] ?_;refine sN 24 ?_ ?_ ?_;rotate_left;(intro w0 hSw;refine bJ 147 (Operand.tmp 2) ?_ w.heap.size ?_ 147 pH (0,0) _ hSw.2.1 underlying147 rfl gj<;>rfl);(try simp only [Act.put,aA,aB,aC]);refine sN 26 ?_ ?_ ?_;rotate_left;(intro w0 hSw;refine bJ 147 (Operand.tmp 2) ?_ w.heap.size ?_ 147 pH (0,0) _ hSw.2.1 underlying147 rfl gj<;>rfl);(try simp only [Act.put,aA,aB,aC]);refine ik [27] ?_
  repeat' (first
   | exact AllReadyH.nil
   | refine eO [2,30] ?_
   | refine eO [5,30] ?_
   | refine eO [25,30] ?_
   | refine eO [28,30] ?_
   | refine eO [30] ?_
   | refine eO [2] ?_
   | refine eO [5] ?_
   | refine eO [25] ?_
   | refine eO [28] ?_
   | refine eO [31] ?_
   | (refine Pd 29 ?_;(try simp only [Act.put,aA,aB,aC]))
   | (refine iL (i:=2) (fun K hK=> ?_) ?_;go_simp;go_at_call 38;have aR:Below w1.heap.size w1 _/\_:=(by assumption);refine (jb (F:=fun _=>False) _ [] _ (Rd.nil _ _ _ _ _ (Nat.zero_le _)) (fun _ h=>h.elim) (Nat.zero_le _)).mono ?_;rintro e wN ⟨v,rfl,hr,hB⟩;have dM:=hS.out _ (aR.1.trans (hB.mono aR.1.size));(try (have eJ:Fl z85 85 w1 _ _:=(by assumption);have qb:=eJ.pure hB));obtain ⟨A,c,rfl⟩:=hr.form;clear hr;simp only [List.length_nil];clear hB;refine hK.out _ _ dM (fun hHeld=> ?_);clear hK K;(try simp only [Act.put,aA,aB,aC]))
   | (refine iL (i:=5) (fun K hK=> ?_) ?_;go_simp;go_at_call 38;have aR:Below w1.heap.size w1 _/\_:=(by assumption);refine (jb (F:=fun _=>False) _ [] _ (Rd.nil _ _ _ _ _ (Nat.zero_le _)) (fun _ h=>h.elim) (Nat.zero_le _)).mono ?_;rintro e wN ⟨v,rfl,hr,hB⟩;have dM:=hS.out _ (aR.1.trans (hB.mono aR.1.size));(try (have eJ:Fl z85 85 w1 _ _:=(by assumption);have qb:=eJ.pure hB));obtain ⟨B,d,rfl⟩:=hr.form;clear hr;simp only [List.length_nil];clear hB;refine hK.out _ _ dM (fun hHeld=> ?_);clear hK K;(try simp only [Act.put,aA,aB,aC]))
   | (refine iL (i:=25) (fun K hK=> ?_) ?_;go_simp;go_at_call 96;have aR:Below w1.heap.size w1 _/\_:=(by assumption);refine (f96 _).mono ?_;rintro e wN ⟨rfl,hB⟩;have dM:=hS.out _ (aR.1.trans (hB.mono aR.1.size));(try (have eJ:Fl z85 85 w1 _ _:=(by assumption);have qb:=eJ.pure hB));clear hB;refine hK.out _ _ dM (fun hHeld=> ?_);clear hK K;(try simp only [Act.put,aA,aB,aC]))
   | (refine iL (i:=28) (fun K hK=> ?_) ?_;go_simp;go_at_call 97;have aR:Below w1.heap.size w1 _/\_:=(by assumption);refine (f97 _).mono ?_;rintro e wN ⟨rfl,hB⟩;have dM:=hS.out _ (aR.1.trans (hB.mono aR.1.size));(try (have eJ:Fl z85 85 w1 _ _:=(by assumption);have qb:=eJ.pure hB));clear hB;refine hK.out _ _ dM (fun hHeld=> ?_);clear hK K;(try simp only [Act.put,aA,aB,aC]))
   | (refine iL (i:=30) (fun K hK=> ?_) ?_;go_simp;have aR:Below w1.heap.size w1 _/\_:=(by assumption);have qb:=Fl.new (z:=z85) (t:=85) aR.1;have dM:=hS.out _ (aR.1.alloc aR.1.size (.cells z85 85));have hb:=NI aR.1 (.cells z85 85);(try clear hb);refine hK.out _ _ dM (fun hHeld=> ?_);clear hK K;(try simp only [Act.put,aA,aB,aC]))
   | (refine iL (i:=31) (fun K hK=> ?_) ?_;have aR:Below w1.heap.size w1 _/\_:=(by assumption);have eJ:Fl z85 85 w1 _ _:=(by assumption);refine rT (cs:=B0 A B c d false) (old:=z85) rfl _ _ rfl _ rfl rfl eJ.row uZ rfl (K7 _ _ _ _ _) ?_;intro WN HN;have dM:=hS.out _ (aR.1.trans (HN.out.2.2.2.mono eJ.lo));refine hK.out _ _ dM (fun hHeld=> ?_);clear hK K;(try simp only [Act.put,aA,aB,aC]))
   | (refine N7 ?_;go_wp2_with fail;go_meet;exact ⟨_,A,B,c,d,rfl,Y0 ⟨HN.out.1,eJ.lo,dM.1⟩⟩)
   | fail)
 obtain ⟨p,A,B,c,d,rfl,H⟩:=hcut;obtain ⟨w2,rfl⟩:∃W:World,W=wc:=⟨_,rfl⟩;apply_assumption;have hc:=hS.out w2 H.out.2.2;have x2:w2.cell? ⟨w.heap.size,2,none⟩=some .nilIface:=ae hc.2.1 rfl;have x3:w2.cell? ⟨w.heap.size,3,none⟩=some .nilIface:=ae hc.2.1 rfl;have sx:Hid (∀W,Below w1.heap.size w2 W->Below w1.heap.size w2 W/\av W w.heap.size pH 147):=Y0 fun W h=>⟨h,(h.block _ (by have:=HW.out.2.2.2.1;omega)).trans hc.2.1⟩
 clear hc;have HP:Hid (w1.heap.size<=p):=Y0 H.out.2.1;have nU:Hid (w1.heap.size<=w2.heap.size):=Y0 H.out.2.2.size;go_upto_region 6 with fail;refine wp_region_held_drew (S:=fun W=>Below w1.heap.size w2 W/\av W w.heap.size pH 147) (by kernel_rfl) (sx.out _ (Below.refl _ _).drew) (fun hHeld=> ?_);refine sN 0 ?_ ?_ ?_;rotate_left;(intro w0 hSw;refine bJ 147 (Operand.tmp 2) ?_ w.heap.size ?_ 147 pH (0,0) _ hSw.2 underlying147 rfl gj<;>rfl);(try simp only [Act.put,aA,aB,aC]);refine sN 2 ?_ ?_ ?_;rotate_left;(intro w0 hSw;refine bJ 147 (Operand.tmp 2) ?_ w.heap.size ?_ 147 pH (0,0) _ hSw.2 underlying147 rfl gj<;>rfl);(try simp only [Act.put,aA,aB,aC]);refine sN 4 ?_ ?_ ?_;rotate_left;(intro w0 hSw;refine bJ 147 (Operand.tmp 2) ?_ w.heap.size ?_ 147 pH (0,0) _ hSw.2 underlying147 rfl gj<;>rfl);(try simp only [Act.put,aA,aB,aC]);refine sN 6 ?_ ?_ ?_;rotate_left;(intro w0 hSw;refine bJ 147 (Operand.tmp 2) ?_ w.heap.size ?_ 147 pH (0,0) _ hSw.2 underlying147 rfl gj<;>rfl);(try simp only [Act.put,aA,aB,aC]);refine sN 8 ?_ ?_ ?_;rotate_left;(intro w0 hSw;refine bJ 147 (Operand.tmp 2) ?_ w.heap.size ?_ 147 pH (0,0) _ hSw.2 underlying147 rfl gj<;>rfl);(try simp only [Act.put,aA,aB,aC]);refine sN 10 ?_ ?_ ?_;rotate_left;(intro w0 hSw;refine bJ 147 (Operand.tmp 2) ?_ w.heap.size ?_ 147 pH (0,0) _ hSw.2 underlying147 rfl gj<;>rfl);(try simp only [Act.put,aA,aB,aC]);refine sN 12 ?_ ?_ ?_;rotate_left;(intro w0 hSw;refine bJ 147 (Operand.tmp 2) ?_ w.heap.size ?_ 147 pH (0,0) _ hSw.2 underlying147 rfl gj<;>rfl);(try simp only [Act.put,aA,aB,aC])
 refine kq 1 (fun K hK=> ?_);go_simp;go_at_call 98;refine (f98 _).mono ?_;rintro e v0 ⟨rfl,hB⟩;have hb0:=(((Below.refl w2.heap.size w2).drew)).trans (hB.mono (((Below.refl w2.heap.size w2).drew)).size);clear hB;refine hK.out _ _ (sx.out _ (hb0.mono nU.out)) (fun hHeld=> ?_);clear hK K
 (try simp only [Act.put,aA,aB,aC])
 refine kq 3 (fun K hK=> ?_);go_simp;go_at_call 99;refine (f99 _).mono ?_;rintro e v1 ⟨rfl,hB⟩;have hb1:=(hb0).trans (hB.mono (hb0).size);clear hB;refine hK.out _ _ (sx.out _ (hb1.mono nU.out)) (fun hHeld=> ?_);clear hK K
 (try simp only [Act.put,aA,aB,aC])
 refine kq 5 (fun K hK=> ?_);go_simp;go_at_call 100;refine (f100 _).mono ?_;rintro e v2 ⟨rfl,hB⟩;have hb2:=(hb1).trans (hB.mono (hb1).size);clear hB;refine hK.out _ _ (sx.out _ (hb2.mono nU.out)) (fun hHeld=> ?_);clear hK K
 (try simp only [Act.put,aA,aB,aC])
 refine kq 7 (fun K hK=> ?_);go_simp;go_at_call 101;refine (f101 _).mono ?_;rintro e v3 ⟨rfl,hB⟩;have hb3:=(hb2).trans (hB.mono (hb2).size);clear hB;refine hK.out _ _ (sx.out _ (hb3.mono nU.out)) (fun hHeld=> ?_);clear hK K
 (try simp only [Act.put,aA,aB,aC])
 refine kq 9 (fun K hK=> ?_);go_simp;go_at_call 102;refine (f102 _).mono ?_;rintro e v4 ⟨rfl,hB⟩;have hb4:=(hb3).trans (hB.mono (hb3).size);clear hB;refine hK.out _ _ (sx.out _ (hb4.mono nU.out)) (fun hHeld=> ?_);clear hK K
 (try simp only [Act.put,aA,aB,aC])
 refine kq 11 (fun K hK=> ?_);go_simp;go_at_call 103;refine (f103 _).mono ?_;rintro e v5 ⟨rfl,hB⟩;have pB:=(hb4).trans (hB.mono (hb4).size);clear hB;refine hK.out _ _ (sx.out _ (pB.mono nU.out)) (fun hHeld=> ?_);clear hK K
 (try simp only [Act.put,aA,aB,aC])
 refine kq 13 (fun K hK=> ?_);go_simp;go_at_call 104;refine (f104 _).mono ?_;rintro e v6 ⟨rfl,hB⟩;have rF:=(pB).trans (hB.mono (pB).size);clear hB;refine hK.out _ _ (sx.out _ (rF.mono nU.out)) (fun hHeld=> ?_);clear hK K
 (try simp only [Act.put,aA,aB,aC])
 refine ik [14,15] ?_;have yU:av v6 p (B0 A B c d false) 85:=(rF.block _ (Array.getElem?_eq_some_iff.1 H.out.1).1).trans H.out.1;obtain ⟨W7,GQ,O4,sF⟩:=Zo yU;have TZ:v6.cell? ⟨p,15,none⟩=some (.bool false):=ae yU rfl;have y16:v6.cell? ⟨p,16,none⟩=some (.bool false):=ae yU rfl;have y17:v6.cell? ⟨p,17,none⟩=some (.bool false):=ae yU rfl;have y18:v6.cell? ⟨p,18,none⟩=some (.bool false):=ae yU rfl;have y19:v6.cell? ⟨p,19,none⟩=some (.bool false):=ae yU rfl;have y20:v6.cell? ⟨p,20,none⟩=some (.bool false):=ae yU rfl;have y21:v6.cell? ⟨p,21,none⟩=some (.bool false):=ae yU rfl;have ZY:=frozenAt (j:=15) yU;have Z0:=frozenAt (j:=16) yU;have z17:=frozenAt (j:=17) yU;have z18:=frozenAt (j:=18) yU;have z19:=frozenAt (j:=19) yU;have z20:=frozenAt (j:=20) yU;have z21:=frozenAt (j:=21) yU;have K8:=Y3 GQ O4 sF;have bU:=Y0 rF;clear GQ O4 sF yU hb0 hb1 hb2 hb3 hb4 pB rF;refine kq 16 (fun K hK=> ?_);go_simp;rw [<-K8.out.1];refine hK.out _ _ (sx.out _ ((bU.out.mono nU.out).trans (K8.out.2.2.mono HP.out))) (fun hHeld=> ?_);clear hK K
 (try simp only [Act.put,aA,aB,aC])
 refine ve ?_;have hz:Hid (av W7 (w.heap.size+1) z85 85):=Y0 ((K8.out.2.2.block _ (by have:=HW.out.2.2.2.1;have:=HP.out;omega)).trans ((bU.out.block _ (by have:=HW.out.2.2.2.1;have:=nU.out;omega)).trans ((H.out.2.2.block _ (by have:=HW.out.2.2.2.1;omega)).trans HW.out.2.2.1)))
 have hfin:∀(a:Act) (W8:World),Hid (av W8 (w.heap.size+1) (B0 A B c d true) 85/\W8.heap.size=W7.heap.size/\(∀k,k≠w.heap.size+1->W8.heap[k]?=W7.heap[k]?)/\Below (w.heap.size+1) W7 W8)->a.tmps.getD 4 undef= .pointer (some ⟨w.heap.size+1,0,none⟩)->a.defers= []->bodyPost Tryz.prog Tryz.f61 (Zm w) Exit.ret a W8:=fun a W8 H8 hp zz=>by
  refine bodyPost_ret (df (p:=4) results61 a.tmps W8 (w.heap.size+1) 85 _ (0,0) _ hp H8.out.1 underlying85 rfl uZ) zz ?_;have hs:=HW.out.2.2.2.1;exact Zn rfl ((((HW.out.2.2.2.2.trans (H.out.2.2.mono (by omega))).trans (bU.out.mono (by have:=nU.out;omega))).trans (K8.out.2.2.mono (by have:=HP.out;omega))).trans (H8.out.2.2.2.mono (by omega)))
 have uX:=Y0 hfin;clear hfin;have flag:True:=trivial
 go_wp2_with (first
  | (clear flag;refine wpList_load_row (o:=⟨some 66,_,_,_,_,_⟩) rfl 85 _ rfl p rfl 85 (B0 A B c d true) (0,0) _ K8.out.2.1 underlying85 rfl uZ ?_;have aj:True:=trivial)
  | (clear aj;refine oL (o:=⟨none,Op.store 85 (Operand.tmp 4) (Operand.tmp 66),_,_,_,_⟩) (cs:=B0 A B c d true) (old:=z85) rfl _ _ rfl (w.heap.size+1) rfl rfl hz.out uZ rfl (K7 _ _ _ _ _) ?_;intro W8 H8;go_frame;refine wpList_nil ?_;dsimp only [Exit.then];apply_assumption;exact wp_ret (uX.out _ W8 H8 rfl rfl)))
end Go.Proofs.YtjenhelmpcajfaaGreatDoor
