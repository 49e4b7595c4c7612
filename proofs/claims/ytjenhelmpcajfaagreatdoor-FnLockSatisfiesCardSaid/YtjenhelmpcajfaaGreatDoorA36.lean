/- the law's own words -/
import Derived.Test.YtjenhelmpcajfaaGreatDoorA35
set_option linter.all false
set_option maxRecDepth 100000
set_option maxHeartbeats 2000000
namespace Go.Proofs.YtjenhelmpcajfaaGreatDoor
open Go.Proofs.Tryz Go.RowKit
def jO (s:aa):Bool:=decide (ByteArray.toList (aw s).1= [])||aV (aw s).1
def fI (l:List aa):Bool:=l.all jO && decide ((l.length:Int)<=8)
theorem C6 (s:aa):(aw s).1.size<=s.size:=by
 unfold aw;split
 · split
   · simp [ByteArray.size_extract];try omega
   exact Nat.le_refl _
 exact Nat.le_refl _
theorem f27 {F:Nat->Prop} (v:Value) (xs:List aa) (w:World) (hR:bK F w v xs) (hs:∀x∈xs,x.size<=140737488351232):
 Calls Tryz.prog 27 #[v] w fun e w'=>(e= .returned (.bool (fI xs)))/\w'=w:=by
 obtain ⟨A,cap,rfl⟩:=hR.form;obtain ⟨-,hb1,hb2⟩:=hR.bound;go_enter func27,ntmps27;go_wp2;go_loop [9] (fun i=>∃k:Nat,i= .int .i64 k/\k<=xs.length/\xs.all jO=(xs.drop k).all jO) (fun i=>xs.length - (intOf i).toNat)
 case atStart=>exact ⟨0,rfl,by omega,rfl⟩
 obtain ⟨k,rfl,hk,hi⟩:=hrel;have H:=Y0 hi;clear hi;by_cases hlt:k<xs.length
 · obtain ⟨g,off,rfl,hF,hg,hc⟩:=hR.at1 hlt;have hst:=Y0 (vS xs jO k hlt);have hsz:=hs xs[k] (List.getElem_mem _);have hwz:=Nat.le_trans (C6 xs[k]) hsz;have HS:=Y0 hs;clear hs;have hr:=Y0 (show jO xs[k]=(decide (ByteArray.toList (aw xs[k]).1= [])||aV (aw xs[k]).1) from rfl);by_cases he:ByteArray.toList (aw xs[k]).1= []
   · have CX:(ByteArray.toList (aw xs[k]).1).isEmpty=true:=by rw [he];rfl
     have Sn:=Y0 (show jO xs[k]=true by rw [hr.out];simp [he]);go_wp2_with (go_at_call 52;refine (f52 _ _ hsz).mono ?_;rintro e w' ⟨rfl,rfl⟩);go_round
     case rel=>exact ⟨k+1,by go_num,by omega,by rw [H.out,hst.out,Sn.out];rfl⟩
     simp [intOf];omega
   have CX:(ByteArray.toList (aw xs[k]).1).isEmpty=false:=by simpa using he
   cases hp:aV (aw xs[k]).1
   · have Sn:=Y0 (show jO xs[k]=false by rw [hr.out];simp [he,hp]);go_wp2_with (first|(go_at_call 52;refine (f52 _ _ hsz).mono ?_;rintro e w' ⟨rfl,rfl⟩)|(go_at_call 29;refine (f29 _ _ hwz).mono ?_;rintro e w' ⟨rfl,rfl⟩));go_ret;refine ⟨aq ?_,rfl⟩;rw [fI,H.out,hst.out,Sn.out];rfl
   have Sn:=Y0 (show jO xs[k]=true by rw [hr.out];simp [hp]);go_wp2_with (first|(go_at_call 52;refine (f52 _ _ hsz).mono ?_;rintro e w' ⟨rfl,rfl⟩)|(go_at_call 29;refine (f29 _ _ hwz).mono ?_;rintro e w' ⟨rfl,rfl⟩));go_round
   case rel=>exact ⟨k+1,by go_num,by omega,by rw [H.out,hst.out,Sn.out];rfl⟩
   simp [intOf];omega
 have HS:=Y0 hs;clear hs;go_wp2;have hk2:k=xs.length:=by omega
 subst hk2;go_ret;refine ⟨aq ?_,rfl⟩;rw [fI,H.out];simp
structure C7 (l:LD):Prop where
 root:aV l.root=true
 src:l.src.toList= []\/aV l.src=true
 v:fY l.v=true
 pkgs:cr l.pkgs 8=true
 dig:(l.dig.length:Int)<=40
 prune:l.prune<16
 h0:0<=l.hash
 h1:l.hash<=1000
def Yz (l:LD) (w:World) (e:Ending) (w':World):Prop:=∃b,e= .returned (.bool b)/\(b=true->C7 l)/\Below w.heap.size w w'
theorem Jp {l:LD} {w w':World} {e:Ending} (h:e= .returned (.bool false)) (hb:Below w.heap.size w w'):Yz l w e w':=⟨false,h,fun h=>(by cases h),hb⟩
theorem KV {l:LD} {w w':World} {e:Ending} {b:Bool} (h:e= .returned (.bool b)) (hl:b=true->C7 l) (hb:Below w.heap.size w w'):Yz l w e w':=⟨b,h,hl,hb⟩
theorem f26 {F:Nat->Prop} (l:LD) (pv dv:Value) (w:World) (h1:bK F w pv l.pkgs) (h2:Rd IB F w dv l.dig) (z1:l.root.size<=140737488351232) (z2:l.src.size<=140737488351232) (z3:l.v.text.size<=140737488351232) (z4:l.v.rev.size<=140737488351232) (z5:∀x∈l.pkgs,x.size<=140737488351232):
 Calls Tryz.prog 26 #[.agg (l.arr pv dv)] w (Yz l w):=by
 obtain ⟨A,c,rfl⟩:=h1.form;obtain ⟨B,d,rfl⟩:=h2.form;obtain ⟨w1,hw1,g1,hs1,az⟩:=aZ w (.cells (l.arr (.slice A l.pkgs.length c) (.slice B l.dig.length d)) 55);have H8:=Y0 fun W (h:Below w1.heap.size w1 W)=>f8 (F:=F) (.slice A l.pkgs.length c) l.pkgs 8 W ((h1.pure az).pure h) z5
 have UI:=Y0 fun W=>(f30 l.v W z3 z4:Calls Tryz.prog 30 #[.agg #[.int .i64 l.v.kind, .string l.v.text, .string l.v.rev]] W _)
 have HR:=Y0 fun W=>f29 l.root W z1
 have HS:=Y0 fun W=>f29 l.src W z2
 have hC:Hid (∀W,Below w1.heap.size w1 W->∀j x,(l.arr (.slice A l.pkgs.length c) (.slice B l.dig.length d))[j]?=some x->W.cell? ⟨w.heap.size,j,none⟩=some x):=Y0 fun W hW j x hx=>aK g1 hW _ hx
 have c0:w1.cell? ⟨w.heap.size,0,none⟩=some (.string l.root):=hC.out _ (Below.refl _ _) 0 _ rfl;have c1:w1.cell? ⟨w.heap.size,1,none⟩=some (.string l.src):=hC.out _ (Below.refl _ _) 1 _ rfl;have c2:w1.cell? ⟨w.heap.size,2,none⟩=some (.int .i64 l.v.kind):=hC.out _ (Below.refl _ _) 2 _ rfl;have c3:w1.cell? ⟨w.heap.size,3,none⟩=some (.string l.v.text):=hC.out _ (Below.refl _ _) 3 _ rfl;have c4:w1.cell? ⟨w.heap.size,4,none⟩=some (.string l.v.rev):=hC.out _ (Below.refl _ _) 4 _ rfl;have HW:=Y3 hw1 hs1 az;clear hw1 g1 hs1 az h1 h2 z1 z2 z3 z4 z5;have flag:True:=trivial
 have hsrc:Hid (∀b,aV l.src=b->(ByteArray.toList l.src).isEmpty=true\/b=true->l.src.toList= []\/aV l.src=true):=Y0 fun b hb h=>by
  rcases h with h|h
  · exact .inl (by simpa using h)
  exact .inr (by rw [hb,h])
 go_enter func26,ntmps26;go_upto_region 1 with fail;rw [<-HW.out.1];cases hE:(ByteArray.toList l.src).isEmpty
 case true=>
  clear flag
  go_wp2_with (first
   | (go_at_call 29;refine (HR.out _).mono ?_;rintro e w' ⟨rfl,rfl⟩;cases hq:aV l.root)
   | (go_at_call 30;refine (UI.out _).mono ?_;rintro e w2 ⟨rfl,hB⟩;have HB:=Y0 hB;have c5:w2.cell? ⟨w.heap.size,5,none⟩=some (.slice A l.pkgs.length c):=hC.out _ hB 5 _ rfl;have c9:w2.cell? ⟨w.heap.size,9,none⟩=some (.slice B l.dig.length d):=hC.out _ hB 9 _ rfl;have c7:w2.cell? ⟨w.heap.size,7,none⟩=some (.int .u8 l.prune):=hC.out _ hB 7 _ rfl;have c8:w2.cell? ⟨w.heap.size,8,none⟩=some (.int .i64 l.hash):=hC.out _ hB 8 _ rfl;clear hB;cases hv:fY l.v)
   | (go_at_call 8;refine (H8.out _ HB.out).mono ?_;rintro e w' ⟨rfl,rfl⟩;cases hP:cr l.pkgs 8))
  all_goals
   go_ret
   first
   | exact Jp rfl HW.out.2.2
   | exact Jp rfl (HW.out.2.2.trans (HB.out.mono (by have:=HW.out.2.1;omega)))
   | (refine KV rfl (fun hb=> ?_) (HW.out.2.2.trans (HB.out.mono (by have:=HW.out.2.1;omega)));have hb':=of_decide_eq_true hb;exact ⟨hq,hsrc.out _ rfl (.inl hE),hv,hP,by assumption,by assumption,by assumption,hb'⟩)
 go_wp2_with (first
  | (clear flag;go_at_call 29;refine (HS.out _).mono ?_;rintro e w' ⟨rfl,rfl⟩;cases hp:aV l.src)
  | (go_at_call 29;refine (HR.out _).mono ?_;rintro e w' ⟨rfl,rfl⟩;cases hq:aV l.root)
  | (go_at_call 30;refine (UI.out _).mono ?_;rintro e w2 ⟨rfl,hB⟩;have HB:=Y0 hB;have c5:w2.cell? ⟨w.heap.size,5,none⟩=some (.slice A l.pkgs.length c):=hC.out _ hB 5 _ rfl;have c9:w2.cell? ⟨w.heap.size,9,none⟩=some (.slice B l.dig.length d):=hC.out _ hB 9 _ rfl;have c7:w2.cell? ⟨w.heap.size,7,none⟩=some (.int .u8 l.prune):=hC.out _ hB 7 _ rfl;have c8:w2.cell? ⟨w.heap.size,8,none⟩=some (.int .i64 l.hash):=hC.out _ hB 8 _ rfl;clear hB;cases hv:fY l.v)
  | (go_at_call 8;refine (H8.out _ HB.out).mono ?_;rintro e w' ⟨rfl,rfl⟩;cases hP:cr l.pkgs 8))
 all_goals
  go_ret
  first
  | exact Jp rfl HW.out.2.2
  | exact Jp rfl (HW.out.2.2.trans (HB.out.mono (by have:=HW.out.2.1;omega)))
  | (refine KV rfl (fun hb=> ?_) (HW.out.2.2.trans (HB.out.mono (by have:=HW.out.2.1;omega)));have hb':=of_decide_eq_true hb;exact ⟨hq,hsrc.out _ hp (.inr rfl),hv,hP,by assumption,by assumption,by assumption,hb'⟩)
structure uT (ins:List aa) (ls:List LD):Prop where
 ins:cr ins 8=true
 n:ls.length<=6
 one:∀l∈ls,C7 l
 two:∀a b,(h:a<b)->(hb:b<ls.length)->(ls[b]'hb).root≠(ls[a]'(by omega)).root
def Gf (ins:List aa) (ls:List LD) (w:World) (e:Ending) (w':World):Prop:=∃b,e= .returned (.bool b)/\(b=true->uT ins ls)/\Below w.heap.size w w'
theorem uU {ins:List aa} {ls:List LD} {w w':World} {e:Ending} (h:e= .returned (.bool false)) (hb:Below w.heap.size w w'):Gf ins ls w e w':=⟨false,h,fun h=>(by cases h),hb⟩
structure Sq (l:LD):Prop where
 z1:l.root.size<=140737488351232
 z2:l.src.size<=140737488351232
 z3:l.v.text.size<=140737488351232
 z4:l.v.rev.size<=140737488351232
 z5:∀x∈l.pkgs,x.size<=140737488351232
structure kX (ls:List LD) (k:Nat):Prop where
 one:∀l∈ls.take k,C7 l
 two:∀a b,(h:a<b)->(hk:b<k)->(hb:b<ls.length)->(ls[b]'hb).root≠(ls[a]'(by omega)).root
theorem kX.zero (ls:List LD):kX ls 0:=⟨fun l h=>by simp at h,fun a b _ h=>by omega⟩
theorem kX.next {ls:List LD} {k:Nat} (h:kX ls k) (hk:k<ls.length) (h1:C7 ls[k]) (h2:∀a,(h:a<k)->(ls[k]'hk).root≠(ls[a]'(by omega)).root):kX ls (k+1) where
 one:=fun l hl=>by
  rw [List.take_succ_eq_append_getElem hk,List.mem_append] at hl;rcases hl with hl|hl
  · exact h.one l hl
  simp at hl;rw [hl];exact h1
 two:=fun a b hab hb hbl=>by
  by_cases e:b<k
  · exact h.two a b hab e hbl
  have:b=k:=by omega
  subst this;exact h2 a hab
theorem kX.done {ins:List aa} {ls:List LD} (h:kX ls ls.length) (hi:cr ins 8=true) (hn:ls.length<=6):uT ins ls:=⟨hi,hn,fun l hl=>h.one l (by simpa using hl),fun a b hab hb=>h.two a b hab hb hb⟩
theorem Jq {ins:List aa} {ls:List LD} {w w':World} {e:Ending} (h:e= .returned (.bool true)) (hl:uT ins ls) (hb:Below w.heap.size w w'):Gf ins ls w e w':=⟨true,h,fun _=>hl,hb⟩
theorem f6 {F:Nat->Prop} (ins:List aa) (ls:List LD) (iv pv:Value) (w:World) (hi:bK F w iv ins) (hp:Rd E0 F w pv ls) (hz:∀l∈ls,Sq l) (hzi:∀x∈ins,x.size<=140737488351232):
 Calls Tryz.prog 6 #[.agg #[iv,pv]] w (Gf ins ls w):=by
 obtain ⟨A,c,rfl⟩:=hi.form;obtain ⟨B,d,rfl⟩:=hp.form;obtain ⟨-,hb1,hb2⟩:=hp.bound;obtain ⟨w1,hw1,g1,hs1,az⟩:=aZ w (.cells #[.slice A ins.length c, .slice B ls.length d] 25);have H8:=Y0 (f8 (F:=F) (.slice A ins.length c) ins 8 w1 (hi.pure az) hzi);have HC:=Y0 fun W (h:Below w1.heap.size w1 W)=>(aK g1 h _ rfl:W.cell? ⟨w.heap.size,1,none⟩=some (.slice B ls.length d))
 have HP:=Y0 fun W (h:Below w1.heap.size w1 W)=>(hp.pure az).pure h
 have HZ:=Y0 hz;have x0:w1.cell? ⟨w.heap.size,0,none⟩=some (.slice A ins.length c):=aK g1 (Below.refl _ _) _ rfl;have x1:=HC.out w1 (Below.refl _ _);have HW:=Y3 hw1 hs1 az;clear hw1 g1 hs1 az hi hp hz hzi;go_enter func6,ntmps6;go_upto_region 1 with fail;rw [<-HW.out.1];by_cases hn:(ls.length:Int)>6
 · go_wp2_with (go_at_call 8;refine H8.out.mono ?_;rintro e w1 ⟨rfl,rfl⟩;cases hP:cr ins 8)
   all_goals
    go_ret;exact uU rfl HW.out.2.2
 go_wp2_with (go_at_call 8;refine H8.out.mono ?_;rintro e w1 ⟨rfl,rfl⟩;cases hP:cr ins 8)
 · go_ret;exact uU rfl HW.out.2.2
 clear x0 x1;go_loopw [20] (fun i wr=>∃k:Nat,i= .int .i64 k/\k<=ls.length/\Hid (Below w1.heap.size w1 wr/\kX ls k)) (fun i _=>ls.length - (intOf i).toNat)
 case atStart=>exact ⟨0,rfl,by omega,Y0 ⟨Below.refl _ _, .zero _⟩⟩
 obtain ⟨k,rfl,hk,H⟩:=hrel;by_cases hlt:k<ls.length
 · have hlt':(k:Int)<(ls.length:Int):=by omega
   obtain ⟨g,off,qv,dv,rfl,hg0,hq,hd,hcells⟩:=xz (HP.out _ H.out.1) hlt;have cz:=Y0 (hcells wr rfl);have Az:=Y0 (HZ.out _ (List.getElem_mem hlt));have HN:=Y0 (H.out.2.next hlt);obtain ⟨l,hl⟩:∃l,l=ls[k]:=⟨_,rfl⟩;have HL:=Y0 hl;rw [<-hl] at hq hd cz Az HN;obtain ⟨QA,qc,rfl⟩:=hq.form;obtain ⟨DA,dc,rfl⟩:=hd.form;have HQ:=Y2 hq hd;clear hcells hq hd hl;have flag:True:=trivial
   go_wp2_with (first
    | (clear flag;refine bu (o:=⟨some 24,_,_,_,_,_⟩) rfl 55 _ rfl ⟨g,off+k*10,none⟩ rfl (l.arr (.slice QA l.pkgs.length qc) (.slice DA l.dig.length dc)) _ cz.out underlying55 rfl fW ?_;have aj:True:=trivial)
    | (clear aj;refine cu (o:=⟨none,Op.store 55 (Operand.tmp 4) (Operand.tmp 24),_,_,_,_⟩) (cs:=l.arr (.slice QA l.pkgs.length qc) (.slice DA l.dig.length dc)) wr rfl _ _ rfl rfl rfl fW rfl (l.arr_one rfl rfl) ?_;intro W4 H4;have au:True:=trivial)
    | (clear au;refine wpList_load_row (o:=⟨some 25,_,_,_,_,_⟩) rfl 55 _ rfl wr.heap.size rfl 55 (l.arr (.slice QA l.pkgs.length qc) (.slice DA l.dig.length dc)) (0,0) _ H4.out.1 underlying55 rfl fW ?_;have aQ:True:=trivial)
    | (clear aQ;go_at_call 26;refine Calls.mono (f26 (F:=F) l _ _ W4 (HQ.out.1.pure H4.out.2.2) (HQ.out.2.pure H4.out.2.2) Az.out.z1 Az.out.z2 Az.out.z3 Az.out.z4 Az.out.z5) ?_;rintro e w5 ⟨b,rfl,hlk,bz⟩;have dS:Hid (Below w1.heap.size w1 w5):=Y0 ((H.out.1.trans (H4.out.2.2.mono H.out.1.size)).trans (bz.mono (by have:=H.out.1.size;have:=H4.out.2.1;omega)));have jA:=Y0 bz;have OX:=Y0 hlk;have y1:=HC.out w5 dS.out;clear bz hlk;cases b))
   · go_ret;exact uU rfl (HW.out.2.2.trans (dS.out.mono (by have:=HW.out.2.1;omega)))
   have HA:=Y0 fun W (h:Below w5.heap.size w5 W)=>(show W.cell? ⟨wr.heap.size,0,none⟩=some (.string l.root) from aK H4.out.1 (jA.out.trans (h.mono jA.out.size)) _ rfl)
   go_loopw [33] (fun i wr2=>∃j:Nat,i= .int .i64 j/\j<=k/\Hid (Below w5.heap.size w5 wr2/\∀a,(h:a<j)->(hb:a<ls.length)->l.root≠(ls[a]'hb).root)) (fun i _=>k - (intOf i).toNat)
   case atStart=>exact ⟨0,rfl,by omega,Y0 ⟨Below.refl _ _,fun a h=>by omega⟩⟩
   obtain ⟨j,rfl,hj,J⟩:=hrel;have Dx:Hid (Below w1.heap.size w1 wr):=Y0 (dS.out.trans (J.out.1.mono dS.out.size));by_cases lR:j<k
   · have lK:(j:Int)<(k:Int):=by omega
     have hjl:j<ls.length:=by omega
     obtain ⟨g2,mh,qv2,dv2,he,hg2,hq2,hd2,iU⟩:=xz (HP.out _ Dx.out) hjl;obtain ⟨rfl,rfl⟩:g2=g/\mh=off:=by simp at he;exact ⟨he.1.symm,he.2.symm⟩
     have gb:=Y0 (iU wr rfl)
     have HJ:=Y0 (show ∀r,r=ls[j].root->l.root≠r->∀a,(h:a<j+1)->(hb:a<ls.length)->l.root≠(ls[a]'hb).root from fun r hr hne a ha hb=>by
      by_cases e:a<j
      · exact J.out.2 a e hb
      have:a=j:=by omega
      subst this;rw [<-hr];exact hne)
     obtain ⟨m,hm⟩:∃m,m=ls[j]:=⟨_,rfl⟩;rw [<-hm] at hq2 hd2 gb HJ;obtain ⟨QA2,OY,rfl⟩:=hq2.form;obtain ⟨DA2,OZ,rfl⟩:=hd2.form;clear iU hq2 hd2 hm he;have flag:True:=trivial
     go_wp2_with (first
      | (clear flag;refine bu (o:=⟨some 36,_,_,_,_,_⟩) rfl 55 _ rfl ⟨g2,mh+j*10,none⟩ rfl (m.arr (.slice QA2 m.pkgs.length OY) (.slice DA2 m.dig.length OZ)) _ gb.out underlying55 rfl fW ?_;have aj:True:=trivial)
      | (clear aj;refine cu (o:=⟨none,Op.store 55 (Operand.tmp 6) (Operand.tmp 36),_,_,_,_⟩) (cs:=m.arr (.slice QA2 m.pkgs.length OY) (.slice DA2 m.dig.length OZ)) wr rfl _ _ rfl rfl rfl fW rfl (m.arr_one rfl rfl) ?_;intro W6 H6;have HA6:=HA.out W6 (J.out.1.trans (H6.out.2.2.mono J.out.1.size));have YA:W6.cell? ⟨wr.heap.size,0,none⟩=some (.string m.root):=aK H6.out.1 (Below.refl _ _) _ rfl))
     · go_ret;exact uU rfl (HW.out.2.2.trans ((Dx.out.trans (H6.out.2.2.mono Dx.out.size)).mono (by have:=HW.out.2.1;omega)))
     rename_i hne;go_roundw
     case rel=>exact ⟨j+1,by go_num,by omega,Y0 ⟨J.out.1.trans (H6.out.2.2.mono J.out.1.size),HJ.out _ rfl (fun hh=>by rw [hh] at hne;simp at hne)⟩⟩
     simp [intOf];omega
   have lK:¬(j:Int)<(k:Int):=by omega
   have hjk:j=k:=by omega
   subst hjk;go_wp2;go_roundw
   case rel=>exact ⟨j+1,by go_num,by omega,Y0 ⟨Dx.out,HN.out (OX.out trivial) (fun a h=>J.out.2 a h (by omega))⟩⟩
   simp [intOf];omega
 have hlt':¬(k:Int)<(ls.length:Int):=by omega
 have hk2:k=ls.length:=by omega
 subst hk2;go_wp2;go_ret;exact Jq rfl (H.out.2.done hP (by omega)) (HW.out.2.2.trans (H.out.1.mono (by have:=HW.out.2.1;omega)))
def bI:List Nd->aa->Option Nd
 | [],_=>none
 | n::r,s=>if n.root=s then some n else bI r s
theorem tO:∀{l:List Nd} {s:aa} {n:Nd},bI l s=some n->n∈l/\n.root=s
 | [],s,n,h=>by cases h
 | m::l,s,n,h=>by
   unfold bI at h;split at h
   · rename_i e;injection h with h
     subst h;exact ⟨List.mem_cons_self ..,e⟩
   obtain ⟨h1,h2⟩:=tO h;exact ⟨List.mem_cons_of_mem _ h1,h2⟩
theorem rP:∀{l:List Nd} {s:aa},bI l s=none↔∀n∈l,n.root≠s
 | [],s=>by simp [bI]
 | m::l,s=>by
   unfold bI;by_cases e:m.root=s
   · rw [if_pos e];exact ⟨fun h=>(by cases h),fun h=>absurd e (h m (List.mem_cons_self ..))⟩
   rw [if_neg e,rP];simp [e]
theorem C8 {l:List Nd} (h:(l.map (·.root)).Nodup) {n:Nd} (hn:n∈l):bI l n.root=some n:=by
 induction l with
 | nil=>cases hn
 | cons m l ih=>
   rw [List.map_cons,List.nodup_cons] at h;unfold bI;rcases List.mem_cons.1 hn with rfl|hn
   · rw [if_pos rfl]
   rw [if_neg (fun e=>h.1 (List.mem_map.2 ⟨n,hn,e.symm⟩)),ih h.2 hn]
theorem ym {a b s:List UInt8} (ha:a<+:s) (hb:b<+:s) (hl:a.length=b.length):a=b:=by
 obtain ⟨t,rfl⟩:=ha;obtain ⟨u,hu⟩:=hb;exact (List.append_inj hu.symm hl).1
theorem jP (s:aa):∀(R:List aa) (b:aa),begins s b=true->(∃r,(r=b\/r∈R)/\R.foldl (fun gH r=>if begins s r && decide (gH.size<r.size) then r else gH) b=r/\begins s r=true)/\
 ∀r,(r=b\/r∈R)->begins s r=true->r.size<=(R.foldl (fun gH r=>if begins s r && decide (gH.size<r.size) then r else gH) b).size
 | [],b,hb=>⟨⟨b, .inl rfl,rfl,hb⟩,fun r hr _=>by rcases hr with rfl|hr;exact Nat.le_refl _;cases hr⟩
 | x::R,b,hb=>by
   rw [List.foldl_cons];by_cases hx:(begins s x && decide (b.size<x.size))=true
   · rw [if_pos hx];rw [Bool.and_eq_true,decide_eq_true_eq] at hx;obtain ⟨⟨r,h1,h2,h3⟩,h4⟩:=jP s R x hx.1;refine ⟨⟨r,by rcases h1 with rfl|h1;exact .inr (List.mem_cons_self ..);exact .inr (List.mem_cons_of_mem _ h1),h2,h3⟩,fun r hr Jg=> ?_⟩;rcases hr with rfl|hr
     · exact Nat.le_trans (Nat.le_of_lt hx.2) (h4 x (.inl rfl) hx.1)
     rcases List.mem_cons.1 hr with rfl|hr
     · exact h4 r (.inl rfl) Jg
     exact h4 r (.inr hr) Jg
   rw [if_neg hx];obtain ⟨⟨r,h1,h2,h3⟩,h4⟩:=jP s R b hb;refine ⟨⟨r,by rcases h1 with rfl|h1;exact .inl rfl;exact .inr (List.mem_cons_of_mem _ h1),h2,h3⟩,fun r hr Jg=> ?_⟩;rcases hr with rfl|hr
   · exact h4 r (.inl rfl) Jg
   rcases List.mem_cons.1 hr with rfl|hr
   · rw [Jg] at hx;simp at hx;exact Nat.le_trans hx (h4 b (.inl rfl) hb)
   exact h4 r (.inr hr) Jg
theorem yn (s:aa):begins s ⟨#[]⟩=true:=by rw [dm];simp
theorem jQ (R:List aa) (s:aa):(longest R s=ByteArray.empty\/longest R s∈R)/\begins s (longest R s)=true/\∀r∈R,begins s r=true->r.size<=(longest R s).size:=by
 obtain ⟨⟨r,h1,h2,h3⟩,h4⟩:=jP s R ⟨#[]⟩ (yn s);have e:longest R s=r:=h2;refine ⟨?_,by rw [e];exact h3,fun x hx Vd=>h4 x (.inr hx) Vd⟩;rw [e];rcases h1 with h1|h1
 · exact .inl (by rw [h1];rfl)
 exact .inr h1
theorem AA {R:List aa} {g:gF} {s:aa} {o:Option (aa × Value)} (hg:∀p k v,g p=some (k,v)->cY k=p/\k∈R) (hR:∀r∈R,(g (cY r)).isSome=true) (hne:∀r∈R,r≠ByteArray.empty) (h:LP g (cY s) o) (x:aa):
 (∃v,o=some (x,v))↔longest R s=x/\x≠ByteArray.empty:=by
 obtain ⟨h1,h2,h3⟩:=jQ R s;rw [dm,decide_eq_true_eq] at h2;rcases h with ⟨rfl,hno⟩|⟨p,⟨k,v⟩,rfl,hp,Mu,hmax⟩
 · refine ⟨fun ⟨v,h⟩=>(by cases h),fun ⟨h4,h5⟩=> ?_⟩;rcases h1 with h1|h1
   · exact absurd (h4.symm.trans h1) h5
   have:=hno (cY (longest R s)) h2;have h6:=hR _ h1;rw [this] at h6;cases h6
 obtain ⟨hk,YB⟩:=hg p k v Mu;have hkb:begins s k=true:=by rw [dm,decide_eq_true_eq];rw [<-hk] at hp;exact hp
 have hle:=h3 k YB hkb
 have hl:longest R s=k:=by
  rcases h1 with h1|h1
  · rw [h1] at hle;have h0:k.size=0:=Nat.le_zero.1 hle;exact absurd (ByteArray.ext (Array.eq_empty_of_size_eq_zero h0)) (hne k YB)
  have h6:=hmax _ h2 (hR _ h1);rw [<-hk] at h6;refine BH (ym h2 (by rw [<-hk] at hp;exact hp) ?_);have e1:(cY (longest R s)).length=(longest R s).size:=size_data _;have e2:(cY k).length=k.size:=size_data _;have h7:(cY (longest R s)).length<=(cY k).length:=h6;omega
 constructor
 · rintro ⟨v',h⟩;simp only [Option.some.injEq,Prod.mk.injEq] at h;rw [<-h.1];exact ⟨hl,hne k YB⟩
 rintro ⟨h4,h5⟩;exact ⟨v,by rw [<-h4,hl]⟩
theorem pF {R R':List aa} (h:∀r,r∈R↔r∈R') (s:aa):longest R s=longest R' s:=by
 obtain ⟨h1,h2,h3⟩:=jQ R s;obtain ⟨k1,k2,k3⟩:=jQ R' s;rw [dm,decide_eq_true_eq] at h2 k2;have hz:(ByteArray.empty:aa).size=0:=rfl
 have a:(longest R s).size<=(longest R' s).size:=by
  rcases h1 with h1|h1
  · rw [h1,hz];exact Nat.zero_le _
  exact k3 _ ((h _).1 h1) (by rw [dm,decide_eq_true_eq];exact h2)
 have b:(longest R' s).size<=(longest R s).size:=by
  rcases k1 with k1|k1
  · rw [k1,hz];exact Nat.zero_le _
  exact h3 _ ((h _).2 k1) (by rw [dm,decide_eq_true_eq];exact k2)
 refine BH (ym h2 k2 ?_);have e1:(cY (longest R s)).length=(longest R s).size:=size_data _;have e2:(cY (longest R' s)).length=(longest R' s).size:=size_data _;show (cY (longest R s)).length=(cY (longest R' s)).length;omega
theorem rQ (R:List aa):∀(a l:List aa) (x:aa),x∈a.foldl (fun l s=>if longest R s=ByteArray.empty then l else bf l (longest R s)) l↔x∈l\/∃s∈a,longest R s=x/\x≠ByteArray.empty
 | [],l,x=>by simp
 | y::a,l,x=>by
   rw [List.foldl_cons,rQ R a];by_cases h:longest R y=ByteArray.empty
   · rw [if_pos h];constructor
     · rintro (h1|⟨s,h1,h2⟩)
       · exact .inl h1
       exact .inr ⟨s,List.mem_cons_of_mem _ h1,h2⟩
     rintro (h1|⟨s,h1,h2,h3⟩)
     · exact .inl h1
     rcases List.mem_cons.1 h1 with rfl|h1
     · exact absurd (h2.symm.trans h) h3
     exact .inr ⟨s,h1,h2,h3⟩
   rw [if_neg h];simp only [ju];constructor
   · rintro ((h1|h1)|⟨s,h1,h2⟩)
     · exact .inr ⟨y,List.mem_cons_self ..,h1.symm,fun e=>h (h1.symm.trans e)⟩
     · exact .inl h1
     exact .inr ⟨s,List.mem_cons_of_mem _ h1,h2⟩
   rintro (h1|⟨s,h1,h2,h3⟩)
   · exact .inl (.inr h1)
   rcases List.mem_cons.1 h1 with rfl|h1
   · exact .inl (.inl h2.symm)
   exact .inr ⟨s,h1,h2,h3⟩
theorem pG (R a:List aa) (x:aa):x∈qE R a↔∃s∈a,longest R s=x/\x≠ByteArray.empty:=by
 unfold qE;rw [rQ];simp
def NC (root:aa) (ig:List aa) (pks:List Pk) (rq:List aa) (x:aa):Prop:=(xY root ig pks x/\cW x.data.toList=false)\/x∈rq
def G6 (os:List Nd) (lps:List iK) (r:aa):Prop:=∃l∈lps,l.root=r/\∃n,bI os r=some n/\n.c.g.1.mat l.g=false
def YC (ns os:List Nd) (I:aa->Prop) (lps:List iK) (r:aa):Prop:=
 ∃l∈lps,l.root=r/\bI os r=none/\(∃n,bI ns r=some n/\n.c.g.1.mat l.g=false)/\∃s,I s/\longest (ns.map (·.root)) s=r/\r≠ByteArray.empty
theorem fy (a b:List aa):(fM a b).Pairwise iC/\∀x,x∈fM a b↔x∈a/\x∉b:=by
 refine ⟨jM _ a [] List.Pairwise.nil,fun x=> ?_⟩;have h:=oH (fQ b) a [] x;unfold fM;rw [h];simp only [List.not_mem_nil,false_or];rw [Bool.eq_false_iff,ne_eq,fC]
theorem fA (a:List aa):(eu a).Pairwise iC/\∀x,x∈eu a↔x∈a:=by
 refine ⟨dR a [] List.Pairwise.nil,fun x=> ?_⟩;unfold eu;rw [eG];simp
structure AB (root:aa) (p:Pk):Prop where
 path:aV p.path=true
 inside:YtjenhelmpcajfaaGreatDoor.inside root p.path=true
 imps:cr p.imps 8=true
 tests:cr p.tests 8=true
 name:p.name.size<=20
 err:p.err.size<=40
structure iI (root:aa) (ps:List Pk) (k:Nat):Prop where
 one:∀p∈ps.take k,AB root p
 two:∀a b,(h:a<b)->(hk:b<k)->(hb:b<ps.length)->(ps[b]'hb).path≠(ps[a]'(by omega)).path
theorem iI.zero (root:aa) (ps:List Pk):iI root ps 0:=⟨fun l h=>by simp at h,fun a b _ h=>by omega⟩
theorem iI.next {root:aa} {ls:List Pk} {k:Nat} (h:iI root ls k) (hk:k<ls.length) (h1:AB root ls[k]) (h2:∀a,(h:a<k)->(ls[k]'hk).path≠(ls[a]'(by omega)).path):iI root ls (k+1) where
 one:=fun l hl=>by
  rw [List.take_succ_eq_append_getElem hk,List.mem_append] at hl;rcases hl with hl|hl
  · exact h.one l hl
  simp at hl;rw [hl];exact h1
 two:=fun a b hab hb hbl=>by
  by_cases e:b<k
  · exact h.two a b hab e hbl
  have:b=k:=by omega
  subst this;exact h2 a hab
structure oM (root:aa) (ps:List Pk):Prop where
 rt:aV root=true
 n:ps.length<=12
 till:iI root ps ps.length
def Gg (root:aa) (ps:List Pk) (w:World) (e:Ending) (w':World):Prop:=∃b,e= .returned (.bool b)/\(b=true->oM root ps)/\Below w.heap.size w w'
theorem uV {root:aa} {ps:List Pk} {w w':World} {e:Ending} (h:e= .returned (.bool false)) (hb:Below w.heap.size w w'):Gg root ps w e w':=⟨false,h,fun h=>(by cases h),hb⟩
theorem Jr {root:aa} {ps:List Pk} {w w':World} {e:Ending} (h:e= .returned (.bool true)) (hl:oM root ps) (hb:Below w.heap.size w w'):Gg root ps w e w':=⟨true,h,fun _=>hl,hb⟩
structure ND (p:Pk):Prop where
 z1:p.path.size<=140737488351232
 z2:∀x∈p.imps,x.size<=140737488351232
 z3:∀x∈p.tests,x.size<=140737488351232
theorem f28 {F:Nat->Prop} (root:aa) (ps:List Pk) (pv:Value) (w:World) (hp:Rd pU F w pv ps) (hz:∀p∈ps,ND p) (hr:root.size<=140737488351232):
 Calls Tryz.prog 28 #[.agg #[.string root,pv]] w (Gg root ps w):=by
 obtain ⟨B,d,rfl⟩:=hp.form;obtain ⟨-,hb1,hb2⟩:=hp.bound;obtain ⟨w1,hw1,g1,hs1,az⟩:=aZ w (.cells #[.string root, .slice B ps.length d] 44);have HC:=Y0 fun W (h:Below w1.heap.size w1 W)=>(aK g1 h _ rfl:W.cell? ⟨w.heap.size,1,none⟩=some (.slice B ps.length d))
 have YD:=Y0 fun W (h:Below w1.heap.size w1 W)=>(aK g1 h _ rfl:W.cell? ⟨w.heap.size,0,none⟩=some (.string root))
 have HP:=Y0 fun W (h:Below w1.heap.size w1 W)=>(hp.pure az).pure h
 have HZ:=Y0 hz;have x0:=YD.out w1 (Below.refl _ _);have x1:=HC.out w1 (Below.refl _ _);have HW:=Y3 hw1 hs1 az;clear hw1 g1 hs1 az hp hz;go_enter func28,ntmps28;go_upto_region 1 with fail;rw [<-HW.out.1];by_cases hn:(ps.length:Int)>12
 · go_wp2_with (go_at_call 29;refine (f29 _ _ hr).mono ?_;rintro e w1 ⟨rfl,rfl⟩;cases hP:aV root)
   all_goals
    go_ret;exact uV rfl HW.out.2.2
 go_wp2_with (go_at_call 29;refine (f29 _ _ hr).mono ?_;rintro e w1 ⟨rfl,rfl⟩;cases hP:aV root)
 · go_ret;exact uV rfl HW.out.2.2
 clear x0 x1;go_loopw [20] (fun i wr=>∃k:Nat,i= .int .i64 k/\k<=ps.length/\Hid (Below w1.heap.size w1 wr/\iI root ps k)) (fun i _=>ps.length - (intOf i).toNat)
 case atStart=>exact ⟨0,rfl,by omega,Y0 ⟨Below.refl _ _, .zero _ _⟩⟩
 obtain ⟨k,rfl,hk,H⟩:=hrel;by_cases hlt:k<ps.length
 · have hlt':(k:Int)<(ps.length:Int):=by omega
   obtain ⟨g,off,Ai,ci,At,ct,rfl,hg0,hi,ht,c0,c1,c2,c3,c4⟩:=kS (HP.out _ H.out.1) hlt;have Az:=Y0 (HZ.out _ (List.getElem_mem hlt));have HN:=Y0 (H.out.2.next hlt);generalize ps[k]=p at*;have HQ:=Y2 hi ht;have y0:=YD.out wr H.out.1;clear hi ht;have pB:Below w1.heap.size w1 (wr.alloc (.cells #[.string p.path, .string p.name, .slice Ai p.imps.length ci, .slice At p.tests.length ct, .string p.err] 118)):=H.out.1.alloc (by have:=H.out.1.size;omega) _;have y1:=YD.out _ pB;have y2:=HC.out _ pB;have dS:=Y0 pB;have gI:Below wr.heap.size wr (wr.alloc (.cells #[.string p.path, .string p.name, .slice Ai p.imps.length ci, .slice At p.tests.length ct, .string p.err] 118)):=(Below.refl _ _).alloc (Nat.le_refl _) _;have H8i:=Y0 (f8 (F:=F) _ _ 8 _ (HQ.out.1.pure gI) Az.out.z2);have H8t:=Y0 (f8 (F:=F) _ _ 8 _ (HQ.out.2.pure gI) Az.out.z3);clear pB gI;have HS:=Y2 (fun W=>f29 p.path W Az.out.z1) (fun W=>f53 root p.path W hr Az.out.z1);obtain ⟨w5,zy⟩:∃W,W=wr.alloc (.cells #[.string p.path, .string p.name, .slice Ai p.imps.length ci, .slice At p.tests.length ct, .string p.err] 118):=⟨_,rfl⟩
   have HA:Hid (∀W,Below w5.heap.size w5 W->W.cell? ⟨wr.heap.size,0,none⟩=some (.string p.path)):=Y0 fun W h=>by
    obtain ⟨w6,qi,g6,-,-⟩:=aZ wr (.cells #[.string p.path, .string p.name, .slice Ai p.imps.length ci, .slice At p.tests.length ct, .string p.err] 118);rw [<-qi] at zy;subst zy;exact aK g6 h _ rfl
   have H5:=Y0 zy;clear zy;have flag:True:=trivial
   go_wp2_with (first
    | (clear flag;go_at_call 29;refine (HS.out.1 _).mono ?_;rintro e w' ⟨rfl,rfl⟩;cases hp1:aV p.path<;>have aj:True:=trivial)
    | (clear aj;go_at_call 53;refine (HS.out.2 _).mono ?_;rintro e w' ⟨rfl,rfl⟩;cases hp2:inside root p.path<;>have au:True:=trivial)
    | (clear au;go_at_call 8;refine H8i.out.mono ?_;rintro e w' ⟨rfl,rfl⟩;cases uM:cr p.imps 8<;>have aQ:True:=trivial)
    | (clear aQ;go_at_call 8;refine H8t.out.mono ?_;rintro e w' ⟨rfl,rfl⟩;cases yQ:cr p.tests 8<;>have cf:True:=trivial))
   all_goals first
    | (go_ret;exact uV rfl (HW.out.2.2.trans (dS.out.mono (by have:=HW.out.2.1;omega))))
    | skip
   rw [<-H5.out];have Js:Hid (Below w1.heap.size w1 w5):=Y0 (by rw [H5.out];exact dS.out);have HG:Hid (AB root p):=Y0 ⟨hp1,hp2,uM,yQ,by omega,by omega⟩;go_loopw [66] (fun i wr2=>∃j:Nat,i= .int .i64 j/\j<=k/\Hid (Below w5.heap.size w5 wr2/\∀a,(h:a<j)->(hb:a<ps.length)->p.path≠(ps[a]'hb).path)) (fun i _=>k - (intOf i).toNat)
   case atStart=>exact ⟨0,rfl,by omega,Y0 ⟨Below.refl _ _,fun a h=>by omega⟩⟩
   obtain ⟨j,rfl,hj,J⟩:=hrel;have Dx:Hid (Below w1.heap.size w1 wr):=Y0 (Js.out.trans (J.out.1.mono Js.out.size));by_cases lR:j<k
   · have lK:(j:Int)<(k:Int):=by omega
     have hjl:j<ps.length:=by omega
     obtain ⟨g2,mh,Uo,Uq,Ur,Us,he,hg2,hi2,ht2,d0,d1,d2,d3,d4⟩:=kS (HP.out _ Dx.out) hjl;obtain ⟨rfl,rfl⟩:g2=g/\mh=off:=by simp at he;exact ⟨he.1.symm,he.2.symm⟩
     have HJ:=Y0 (show ∀r,r=ps[j].path->p.path≠r->∀a,(h:a<j+1)->(hb:a<ps.length)->p.path≠(ps[a]'hb).path from fun r hr hne a ha hb=>by
      by_cases e:a<j
      · exact J.out.2 a e hb
      have:a=j:=by omega
      subst this;rw [<-hr];exact hne)
     obtain ⟨q,hq⟩:∃q,q=ps[j]:=⟨_,rfl⟩;rw [<-hq] at hi2 ht2 d0 d1 d2 d3 d4 HJ;have wX:Below w5.heap.size w5 (wr.alloc (.cells #[.string q.path, .string q.name, .slice Uo q.imps.length Uq, .slice Ur q.tests.length Us, .string q.err] 118)):=J.out.1.alloc (by have:=J.out.1.size;omega) _;have a1:=HA.out _ wX;have HBQ:=Y0 wX;clear hi2 ht2 hq he wX;go_wp2
     · go_ret;exact uV rfl (HW.out.2.2.trans ((Js.out.trans (HBQ.out.mono Js.out.size)).mono (by have:=HW.out.2.1;omega)))
     rename_i hne;go_roundw
     case rel=>exact ⟨j+1,by go_num,by omega,Y0 ⟨HBQ.out,HJ.out _ rfl (fun hh=>by rw [hh] at hne;simp at hne)⟩⟩
     simp [intOf];omega
   have lK:¬(j:Int)<(k:Int):=by omega
   have hjk:j=k:=by omega
   subst hjk;go_wp2;go_roundw
   case rel=>exact ⟨j+1,by go_num,by omega,Y0 ⟨Dx.out,HN.out HG.out (fun a h=>J.out.2 a h (by omega))⟩⟩
   simp [intOf];omega
 have hlt':¬(k:Int)<(ps.length:Int):=by omega
 have hk2:k=ps.length:=by omega
 subst hk2;go_wp2;go_ret;exact Jr rfl ⟨hP,by omega,H.out.2⟩ (HW.out.2.2.trans (H.out.1.mono (by have:=HW.out.2.1;omega)))
def BQ (root:aa) (ps:List Pk) (ig:List aa) (w:World) (e:Ending) (w':World):Prop:=∃b,e= .returned (.bool b)/\(b=true->oM root ps/\fI ig=true)/\Below w.heap.size w w'
theorem yo {root:aa} {ps:List Pk} {ig:List aa} {w w':World} {e:Ending} {b:Bool} (h:e= .returned (.bool b)) (hb:b=true->oM root ps/\fI ig=true) (hB:Below w.heap.size w w'):BQ root ps ig w e w':=⟨b,h,hb,hB⟩
theorem f7 {F:Nat->Prop} (root:aa) (pks:List Pk) (pv gv:Value) (ig:List aa) (w:World) (hp:Rd pU F w pv pks) (hg:bK F w gv ig) (hl:pks.length<=1466015503700) (hF:∀b,F b->b<w.heap.size) (hz:∀p∈pks,ND p) (hr:root.size<=140737488351232) (hi:∀x∈ig,x.size<=140737488351232):
 Calls Tryz.prog 7 #[.agg #[.string root,pv],gv] w (BQ root pks ig w):=by
 obtain ⟨A,c,rfl⟩:=hp.form;obtain ⟨B,d,rfl⟩:=hg.form;obtain ⟨w1,hw1,g1,hs1,az⟩:=aZ w (.cells #[.string root, .slice A pks.length c] 29);have H27:=Y0 (f27 (F:=F) (.slice B ig.length d) ig w1 (hg.pure az) hi);have Sr:=Y0 (f13 (F:=F) root (.slice A pks.length c) pks w1 (hp.pure az) (fun b hb=>by have:=hF b hb;omega) hl);have x0:w1.cell? ⟨w.heap.size,0,none⟩=some (.string root):=aK g1 (Below.refl _ _) _ rfl;have x1:w1.cell? ⟨w.heap.size,1,none⟩=some (.slice A pks.length c):=aK g1 (Below.refl _ _) _ rfl;have HW:=Y3 hw1 hs1 az;have HZ:=Y2 hz hr;clear hw1 g1 hs1 az hp hg hF hz hr hi;go_enter func7,ntmps7;go_upto_region 1 with fail;rw [<-HW.out.1]
 go_wp2_with (first
  | (go_at_call 27;refine H27.out.mono ?_;rintro e w' ⟨rfl,rfl⟩;cases hru:fI ig)
  | (go_at_call 13;refine Sr.out.mono ?_;rintro e w2 ⟨v2,rfl,h2,cZ⟩;obtain ⟨A2,c2,rfl⟩:=h2.form;have H2:=Y2 h2 cZ;clear h2 cZ)
  | (go_at_call 28;refine (f28 (F:=F) root pks _ _ H2.out.1 HZ.out.1 HZ.out.2).mono ?_;rintro e w3 ⟨b3,rfl,hb3,bb⟩;have H3:=Y2 hb3 bb;clear hb3 bb))
 · go_ret;exact yo rfl (fun h=>(by cases h)) HW.out.2.2
 go_ret;exact yo rfl (fun h=>⟨H3.out.1 h,hru⟩) (HW.out.2.2.trans ((H2.out.2.trans (H3.out.2.mono H2.out.2.size)).mono HW.out.2.2.size))
structure oN (S:Nat->Prop) (w w':World):Prop where
 env:Env w w'
 size:w.heap.size<=w'.heap.size
 fr:∀b,b<w.heap.size->¬S b->w'.heap[b]?=w.heap[b]?
theorem oN.refl (S:Nat->Prop) (w:World):oN S w w:=⟨Env.refl w,Nat.le_refl _,fun _ _ _=>rfl⟩
theorem oN.grown {S:Nat->Prop} {w w' w'':World} (h:oN S w w') {m:Nat} (hg:w'.grownBy w'' (some m)) (hm:S m\/w.heap.size<=m):oN S w w'':=
 ⟨h.env.trans (Env.grown hg),Nat.le_trans h.size hg.size,fun b hb hS=>(hg.block b (Nat.lt_of_lt_of_le hb h.size) (fun e=>by
  injection e with e
  subst e;rcases hm with hm|hm
  · exact hS hm
  omega)).trans (h.fr b hb hS)⟩
theorem oN.pure {S:Nat->Prop} {w w' w'':World} (h:oN S w w') (hb:Below w.heap.size w' w''):oN S w w'':=
 ⟨h.env.trans (Env.below hb),Nat.le_trans h.size hb.size,fun b hlt hS=>(hb.block b hlt).trans (h.fr b hlt hS)⟩
theorem oN.trans {S:Nat->Prop} {w w' w'':World} (h:oN S w w') (k:oN S w' w''):oN S w w'':=
 ⟨h.env.trans k.env,Nat.le_trans h.size k.size,fun b hb hS=>(k.fr b (Nat.lt_of_lt_of_le hb h.size) hS).trans (h.fr b hb hS)⟩
theorem oN.below {S:Nat->Prop} {w w':World} (h:oN S w w') {B:Nat} (hS:∀b,S b->B<=b) (hB:B<=w.heap.size):Below B w w':=
 ⟨h.env.1,h.env.2.1,h.env.2.2,h.size,fun b hb=>h.fr b (Nat.lt_of_lt_of_le hb hB) (fun q=>by have:=hS b q;omega)⟩
theorem oN.map {S:Nat->Prop} {w w':World} (h:oN S w w') {β:Type} {f:β->Value} {m:Nat} {l:List (aa × β)} (hM:ah f w m l) (hm:¬S m):ah f w' m l:=hM.keep (h.fr m hM.lt hm)
theorem oN.row {S:Nat->Prop} {w w':World} (h:oN S w w') {g:Nat} {o:Obj} (hM:w.heap[g]?=some o) (hm:¬S g):w'.heap[g]?=some o:=(h.fr g (Array.getElem?_eq_some_iff.1 hM).1 hm).trans hM
def Ev (w:World) (P:World->Prop):Prop:=∀W,Below w.heap.size w W->P W
theorem Ev.now {w:World} {P:World->Prop} (h:Ev w P):P w:=h w (Below.refl _ _)
theorem Ev.next {w w':World} {P:World->Prop} (h:Ev w P) (hb:Below w.heap.size w w'):Ev w' P:=fun W hW=>h W (hb.trans (hW.mono hb.size))
end Go.Proofs.YtjenhelmpcajfaaGreatDoor
