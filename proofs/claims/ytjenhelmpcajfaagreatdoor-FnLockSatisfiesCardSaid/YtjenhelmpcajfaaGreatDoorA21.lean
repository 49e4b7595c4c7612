/- a tree of prefixes: insertion -/
import Derived.Test.YtjenhelmpcajfaaGreatDoorA20
set_option linter.all false
set_option maxRecDepth 20000
set_option maxHeartbeats 4000000
namespace Go.Proofs.YtjenhelmpcajfaaGreatDoor
open Go.Proofs.Tryz Go.RowKit
structure xJ (w:World) (tb m:Nat) (s:aa) (v:Value) (n0:Nat) (dH:bl) (zP:Value) (eT:Fo) (k:Nat) (r:aa) (pre:aa) (leaf:bl) (ev:Value) (sub:Fo):Prop where
 node:cA w k pre leaf ev sub
 wf:sub.WF m
 len:sub.len<=m
 nd:(bF k leaf ev sub).Nodup
 tbn:tb∉bF k leaf ev sub
 key:∃q:Bytes,s.data.toList=q++r.data.toList/\∀p kk vv,bZ leaf sub p=some (kk,vv)->kk.data.toList=q++p
 ex:bZ leaf sub r.data.toList=bZ dH eT s.data.toList
 cont:∀W,gK w tb m s v k pre leaf ev sub r.data.toList W->gK w tb m s v n0 ⟨#[]⟩ dH zP eT s.data.toList W
def BC (w:World) (tb m n0:Nat) (dH:bl) (zP:Value) (eT:Fo) (sz:Nat) (s:aa) (v:Value) (w':World):Prop:=
 Env w w'/\w.heap.size<=w'.heap.size/\w'.heap[tb]?=some (.cells #[.pointer (some ⟨n0,0,none⟩), .int .i64 (if (bZ dH eT s.data.toList).isSome then sz else sz+1:Nat)] 241 (0,0))/\
  gK w tb m s v n0 ⟨#[]⟩ dH zP eT s.data.toList w'
theorem xJ.down {w:World} {tb m:Nat} {s:aa} {v:Value} {n0:Nat} {dH:bl} {zP:Value} {eT:Fo} {k:Nat} {r pre:aa} {leaf:bl} {ev:Value} {sub:Fo} {c:UInt8} {ch:Nat} {aP:aa} {leaf1:bl} {ev1:Value} {bC:Fo} {A B:List Nat} {r':aa}
 (hI:xJ w tb m s v n0 dH zP eT k r pre leaf ev sub) (hf:sub.find c=some ch) (hr:r.data.toList.head?=some c) (hp:aP.data.toList<+:r.data.toList) (hr':r'.data.toList=r.data.toList.drop aP.data.toList.length)
 (hN:cA w ch aP leaf1 ev1 bC) (hW:bC.WF m/\bC.len<=m/\aP.data.toList.head?=some c) (hps:aP.size<=1000000)
 (e1:sub.fp=A++bF ch leaf1 ev1 bC++B) (e2:∀n' pre' leaf' ev' sub',(sub.upd c n' pre' leaf' ev' sub').fp=A++bF n' leaf' ev' sub'++B)
 (e5:∀w w' n' pre' leaf' ev' sub',sub.At w->(∀b∈A++B,w'.heap[b]?=w.heap[b]?)->cA w' n' pre' leaf' ev' sub'->(sub.upd c n' pre' leaf' ev' sub').At w')
 (e6:∀p:Bytes,p.head?=some c->sub.get p=if aP.data.toList<+:p then bZ leaf1 bC (p.drop aP.data.toList.length) else none)
 (e7:∀n' pre' leaf' ev' sub',pre'.data.toList.head?=some c->∀p:Bytes,(sub.upd c n' pre' leaf' ev' sub').get p=if p.head?=some c then (if pre'.data.toList<+:p then bZ leaf' sub' (p.drop pre'.data.toList.length) else none) else sub.get p):
 xJ w tb m s v n0 dH zP eT ch r' aP leaf1 ev1 bC:=by
 have hsub:∀b∈bF ch leaf1 ev1 bC,b∈bF k leaf ev sub:=fun b hb=>by
  rw [bF,e1];exact List.mem_cons_of_mem _ (List.mem_append_right _ (List.mem_append_left _ (List.mem_append_right _ hb)))
 have hgn:∀p:Bytes,bZ leaf sub (aP.data.toList++p)=bZ leaf1 bC p:=by
  intro p
  have hne:aP.data.toList++p≠ []:=fun e=>by
   have:=hW.2.2;rw [(List.append_eq_nil_iff.1 e).1] at this;cases this
  have hh:(aP.data.toList++p).head?=some c:=by
   have:=hW.2.2
   cases hq:aP.data.toList with
   | nil=>rw [hq] at this;cases this
   | cons a q=>rw [hq] at this;exact this
  rw [bZ,if_neg hne,e6 _ hh,if_pos (List.prefix_append _ _),List.drop_left]
 obtain ⟨t,ht⟩:=hp;have hrt:r'.data.toList=t:=by rw [hr',<-ht,List.drop_left]
 refine ⟨hN,hW.1,hW.2.1, ?_,fun h=>hI.tbn (hsub _ h), ?_, ?_,fun W hR=>hI.cont W ?_⟩
 · have:=hI.nd;rw [bF,e1,List.nodup_cons,List.nodup_append,List.nodup_append (l₁:=A++bF ch leaf1 ev1 bC),List.nodup_append (l₁:=A)] at this;exact this.2.2.1.1.2.1
 · obtain ⟨q,h1,h2⟩:=hI.key;refine ⟨q++aP.data.toList,by rw [h1,hrt,<-ht,List.append_assoc],fun p kk vv h=> ?_⟩;rw [List.append_assoc];exact h2 (aP.data.toList++p) kk vv (by rw [hgn];exact h)
 · rw [hrt,<-hgn,ht];exact hI.ex
 rw [hr'] at hR;exact gK.up hI.node hI.wf hI.len hI.nd hI.tbn hf e1 e2 ⟨hW.2.2,hps⟩ e5 e6 e7 hr ⟨t,ht⟩ hR
theorem Kj {P:Program} {ops:Array Oper} {rest:List Oper} {o:Oper} {a:Act} {w:World} {Q:Exit->Act->World->Prop} (hgd:o.guard=none) (t:TypeId) (ps:List (Nat × Operand)) (ho:o.op= .build t ps.toArray) (l:List (Nat × Value)) (hl:(ps.map fun p=>(p.1,a.eval p.2))=l) (cs:Array Value) (hb:P.built t l=some cs)
 (h:wpList P ops Q rest (a.put o.dst (.agg cs)) w):wpList P ops Q (o::rest) a w:=by
 have hl':(ps.toArray.map fun (i,x)=>(i,a.eval x)).toList=l:=by rw [<-hl];simp
 exact wpList_build hgd t ps.toArray ho (by rw [hl',hb];rfl) (by rw [hl',hb];exact h)
theorem f75 (tb n0:Nat) (dH:bl) (zP:Value) (eT:Fo) (sz m:Nat) (s:aa) (v:Value) (hv:v=Value.nilIface\/∃T x,v=Value.iface T x) (w:World) (hT:mr w tb n0 dH zP eT sz) (hW:eT.WF m) (hm0:eT.len<=m) (hm:m<=11) (hs:s.size<=1000000) (hsz:sz<=1000)
 (hnd:(tb::bF n0 dH zP eT).Nodup) (hk:∀p kk vv,bZ dH eT p=some (kk,vv)->kk.data.toList=p):
 Calls Tryz.prog 75 #[.pointer (some ⟨tb,0,none⟩), .string s, v] w fun e w'=>(∃v,e= .returned v)/\BC w tb m n0 dH zP eT sz s v w':=by
 have Kk:Hid (Tryz.prog.built 248 [(0, .string s),(1,v)]=some #[.string s,v]):=Y0 (by rcases hv with rfl|⟨T,x,rfl⟩<;>kernel_rfl);have HV:=Y0 hv;clear hv;have ht:=cellAt (j:=0) hT.tree rfl;have HT:=Y0 hT;have HW:=Y0 hW;have HN:=Y0 (List.nodup_cons.1 hnd);have HK:=Y0 hk;clear hT hW hnd hk;go_enter func75,ntmps75;go_wp2;clear ht
 go_loopw [9,10] (fun n t wr=>∃(k:Nat) (r pre:aa) (leaf:bl) (ev:Value) (sub:Fo),n= .pointer (some ⟨k,0,none⟩)/\t= .string r/\r.size<=s.size/\
  Hid (xJ w tb m s v n0 dH zP eT k r pre leaf ev sub/\Below w.heap.size w wr)) (fun _ t _=>T9 t)
 case atStart=>
  refine ⟨n0,s,⟨#[]⟩,dH,zP,eT,rfl,rfl,Nat.le_refl _,Y0 ⟨⟨⟨HT.out.root,HT.out.leaf,HT.out.row,HT.out.sub⟩,HW.out,hm0,HN.out.2,HN.out.1,⟨[],rfl,fun p kk vv h=>HK.out p kk vv h⟩,rfl,fun _ h=>h⟩,Below.refl _ _⟩⟩
 obtain ⟨k,r,pre,leaf,ev,sub,rfl,rfl,hr,hI⟩:=hrel;have hk':=ax hI.out.1.node.1 hI.out.2;have hrow':=Y0 (cG hI.out.1.node.2.2.1 hI.out.2);have Ua:=ax HT.out.tree hI.out.2;have h0':wr.cell? ⟨k,0,none⟩=some leaf.val:=cellAt (j:=0) hk' rfl;have hf0:=frozenAt (j:=0) hk';have ht1:wr.cell? ⟨tb,1,none⟩=some (.int .i64 sz):=cellAt (j:=1) Ua rfl;have htf:=frozenAt (j:=1) Ua;have Kl:=Y0 hk';have QI:=Y0 Ua;clear hk' Ua;by_cases WA:r.size=0
 · have GJ:Hid (r.data.toList= []):=Y0 (List.eq_nil_of_length_eq_zero (by rw [size_data];exact WA))
   cases leaf with
   | none=>
     have hb1:Below wr.heap.size wr (wr.alloc (.cells #[.string s, v] 248)):=(Below.refl _ _).alloc (Nat.le_refl _) _;have k1:=ax Kl.out hb1;have kc1:(wr.alloc (.cells #[.string s, v] 248)).cell? ⟨k,0,none⟩=some (.pointer none):=cellAt (j:=0) k1 rfl;have kf1:=frozenAt (j:=0) k1;have tD:Hid (tb≠k):=Y0 (fun e=>hI.out.1.tbn (by simp [bF,e]))
     have t2:((wr.alloc (.cells #[.string s, v] 248)).setCell ⟨k,0,none⟩ (.pointer (some ⟨wr.heap.size,0,none⟩))).heap[tb]?=some (.cells #[.pointer (some ⟨n0,0,none⟩), .int .i64 sz] 241 (0,0)):=by
      rw [heap_setCell_other _ ⟨k,0,none⟩ tb _ (by first|exact tD.out|exact Ne.symm tD.out)];exact ax QI.out hb1
     have tc2:((wr.alloc (.cells #[.string s, v] 248)).setCell ⟨k,0,none⟩ (.pointer (some ⟨wr.heap.size,0,none⟩))).cell? ⟨tb,1,none⟩=some (.int .i64 sz):=cellAt (j:=1) t2 rfl;have tf2:=frozenAt (j:=1) t2;have HT2:=Y0 t2;have HK1:=Y0 k1;clear t2 k1 hb1;go_wp2_with (first|(go_at_call 113;refine (f113 k none pre ev _ (by exact Kl.out)).mono ?_;rintro e w1 ⟨rfl,rfl⟩)|(refine Kj rfl 248 [(0,_),(1,_)] rfl _ rfl _ Kk.out ?_;go_frame));go_ret2;refine ⟨⟨_,rfl⟩, ?_⟩;have eU:=hI.out.1;have kO:w.heap.size<=w1.heap.size:=hI.out.2.size;have ru:k<w1.heap.size:=(Array.getElem?_eq_some_iff.1 Kl.out).1;have pR:tb<w1.heap.size:=(Array.getElem?_eq_some_iff.1 QI.out).1;refine ⟨(((Env.below hI.out.2).alloc _).setCell _ _).setCell _ _,by simp;omega, ?_,eU.cont _ (GJ.out▸gK.leaf (lb:=w1.heap.size) eU.node eU.wf eU.len eU.nd eU.tbn (.inr ⟨rfl,kO⟩) ?_ ?_ ?_)⟩
     · rw [show (if (bZ dH eT s.data.toList).isSome=true then sz else sz+1)=sz+1 by rw [<-eU.ex,GJ.out];rfl];exact heap_setCell_same _ tb 1 _ _ _ HT2.out
     · rw [heap_setCell_other _ ⟨tb,1,none⟩ k _ (by first|exact tD.out|exact Ne.symm tD.out)];exact heap_setCell_same _ k 0 _ _ _ HK1.out
     · rw [heap_setCell_other _ ⟨tb,1,none⟩ _ _ (by show _≠_;simp;omega),heap_setCell_other _ ⟨k,0,none⟩ _ _ (by show _≠_;simp;omega)];exact heap_alloc_new _ _
     intro b hb hbk hbl mJ;rw [heap_setCell_other _ ⟨tb,1,none⟩ b _ (by first|exact mJ|exact Ne.symm mJ),heap_setCell_other _ ⟨k,0,none⟩ b _ (by first|exact hbk|exact Ne.symm hbk)]
     exact (Below.heap_alloc _ _ b (by omega)).trans (hI.out.2.block b hb)
   | some y=>
     obtain ⟨lb,kk,v0⟩:=y
     have hks:kk=s:=by
      obtain ⟨q,h1,h2⟩:=hI.out.1.key;have:=h2 [] kk v0 rfl;rw [GJ.out,<-this] at h1;exact ByteArray.ext (Array.ext' h1.symm)
     subst hks;have hl':=ax (show w.heap[lb]?=some (.cells #[.string kk,v0] 248 (0,0)) from hI.out.1.node.2.1) hI.out.2;have lZ:wr.cell? ⟨lb,1,none⟩=some v0:=cellAt (j:=1) hl' rfl;have hlf:=frozenAt (j:=1) hl'
     replace h0':wr.cell? ⟨k,0,none⟩=some (.pointer (some ⟨lb,0,none⟩)):=h0'
     have HL:=Y0 hl';clear hl';rcases HV.out with hv|⟨T,x,hv⟩
     all_goals
      subst hv;go_wp2_with (first|(go_at_call 113;refine (f113 k (some (lb,kk,v0)) pre ev _ (by exact Kl.out)).mono ?_;rintro e w1 ⟨rfl,rfl⟩)|(refine Kj rfl 248 [(0,_),(1,_)] rfl _ rfl _ Kk.out ?_;go_frame));go_ret2;refine ⟨⟨_,rfl⟩, ?_⟩;have eU:=hI.out.1;have kO:w.heap.size<=w1.heap.size:=hI.out.2.size;have hkl:k≠lb:=fun e=>by have:=eU.nd;rw [bF,List.nodup_cons] at this;exact this.1 (by simp [bl.blocks,e])
      have htl:tb≠lb:=fun e=>eU.tbn (by simp [bF,bl.blocks,e])
      refine ⟨(Env.below hI.out.2).setCell _ _,by simp;omega, ?_,eU.cont _ (GJ.out▸gK.leaf (lb:=lb) eU.node eU.wf eU.len eU.nd eU.tbn (.inl ⟨v0,rfl⟩) ?_ ?_ ?_)⟩
      · rw [show (if (bZ dH eT kk.data.toList).isSome=true then sz else sz+1)=sz by rw [<-eU.ex,GJ.out];rfl];rw [heap_setCell_other _ ⟨lb,1,none⟩ tb _ (by first|exact htl|exact Ne.symm htl)];exact QI.out
      · rw [heap_setCell_other _ ⟨lb,1,none⟩ k _ (by first|exact hkl|exact Ne.symm hkl)];exact Kl.out
      · exact heap_setCell_same _ lb 1 _ _ _ HL.out
      · intro b hb hbk hbl mJ;rw [heap_setCell_other _ ⟨lb,1,none⟩ b _ (by first|exact hbl|exact Ne.symm hbl)];exact hI.out.2.block b hb
 have h0:0<r.size:=by omega
 have hhead:r.data.toList.head?=some r[0]:=by
  have:=drop_cons r 0 h0;rw [List.drop_zero] at this;rw [this];rfl
 have HH:=Y0 hhead;clear hhead;have hlen':sub.len<=1000:=by have:=hI.out.1.len;omega
 cases jU:sub.find r[0] with
 | none=>
   have zQ:=Y0 jU;clear jU h0';go_wp2_with (first|(go_at_call 114;refine (f114 k leaf pre ev sub r[0] m _ Kl.out hrow'.out hI.out.1.wf hlen').mono ?_;rw [zQ.out,xD];rintro e w1 ⟨rfl,az⟩)|(refine Kj rfl 248 [(0,_),(1,_)] rfl _ rfl _ Kk.out ?_;go_frame));have eU:=hI.out.1;have hBw:Below w.heap.size w w1:=hI.out.2.trans (az.mono hI.out.2.size);have kO:w.heap.size<=w1.heap.size:=hBw.size;have ru:k<w.heap.size:=eU.node.lt k (by simp [bF]);have tD:tb≠k:=fun e=>eU.tbn (by simp [bF,e])
   have pR:tb<w.heap.size:=(Array.getElem?_eq_some_iff.1 HT.out.tree).1;have hb1:Below w1.heap.size w1 (w1.alloc (.cells #[.string s, v] 248)):=(Below.refl _ _).alloc (Nat.le_refl _) _;have hb2:=hb1.alloc (by simp) (.cells #[.pointer (some ⟨w1.heap.size,0,none⟩), .string r, .slice none 0 0] 245);have hb3:=hb2.alloc (by simp;omega) (.cells #[.int .u8 r[0].toNat, .pointer (some ⟨w1.heap.size+1,0,none⟩)] 250);have hw3:=hBw.trans (hb3.mono kO)
   have hown:ev.ownBlock≠some k:=fun e=>by
    have:=eU.nd;rw [bF,List.nodup_cons] at this;exact this.1 (by simp [aS.2 e])
   have iW:ev.ownBlock≠some tb:=fun e=>eU.tbn (by simp [bF,aS.2 e])
   have Mk:m<=11:=hm;refine (f117 k leaf.val pre ev r[0] (w1.heap.size+1) sub.edges _ (by exact ax eU.node.1 hw3) (by rw [Fo.edges_len,<-Fo.edges_cells];exact cG eU.node.2.2.1 hw3) (by rw [Fo.edges_len];have:=eU.len;omega) (by rw [Fo.edges_labs];exact (Fo.labs_sorted eU.wf).imp (fun h e=>by rw [e] at h;omega)) (by rw [Fo.edges_labs];exact Fo.find_none.1 zQ.out) hown).mono ?_;rintro e w4 ⟨rfl,l',ev',p1,p2,p3,p4,p5,p6,p7,p8,p9⟩;have CH:=Y0 ((Env.below hw3).trans p9);clear p9;have pM:w4.heap.size>=w1.heap.size+3:=by simpa using p5
   have q1:w4.heap[w1.heap.size]?=some (.cells #[.string s, v] 248 (0,0)):=by
    rw [p6 _ (by simp;omega) (by omega) (fun e=>by have:=(eU.node.2.2.1.lt _ e).2;omega)];exact (Below.heap_alloc _ _ _ (by simp;omega)).trans ((Below.heap_alloc _ _ _ (by simp)).trans (heap_alloc_new _ _))
   have q2:w4.heap[w1.heap.size+1]?=some (.cells #[.pointer (some ⟨w1.heap.size,0,none⟩), .string r, .slice none 0 0] 245 (0,0)):=by
    rw [p6 _ (by simp) (by omega) (fun e=>by have:=(eU.node.2.2.1.lt _ e).2;omega)];refine (Below.heap_alloc _ _ _ (by simp)).trans ?_;have:=heap_alloc_new (w1.alloc (.cells #[.string s, v] 248)) (.cells #[.pointer (some ⟨w1.heap.size,0,none⟩), .string r, .slice none 0 0] 245)
    rwa [World.size_alloc] at this
   have q3:w4.heap[tb]?=some (.cells #[.pointer (some ⟨n0,0,none⟩), .int .i64 sz] 241 (0,0)):=by
    rw [p6 tb (by simp;omega) tD iW,<-HT.out.tree];exact hw3.block tb pR
   have tc:w4.cell? ⟨tb,1,none⟩=some (.int .i64 sz):=cellAt (j:=1) q3 rfl;have tf:=frozenAt (j:=1) q3;have Q1:=Y0 q1;have Q2:=Y0 q2;have Q3:=Y0 q3;have P3:=Y0 p3;have P6:=Y0 p6;have Hk:=Y0 hw3;have P4:=Y0 p4;have Cs:=Y0 (show ev.ownBlock≠some k/\ev.ownBlock≠some tb from ⟨hown,iW⟩);have Km:=Y0 (show ∀b,ev'.ownBlock=some b->b≠k/\(ev.ownBlock=some b\/w1.heap.size+3<=b) from fun b hb=>⟨p8 b hb,by have:=p7 b hb;simpa using this⟩);clear q1 q2 q3 p3 p6 hw3 p4 hown iW p7 p8 hb1 hb2 hb3 hBw eU;go_wp2;go_ret2;refine ⟨⟨_,rfl⟩, ?_⟩;have eU:=hI.out.1
   have hrow:∀b,ev'.ownBlock=some b->b≠tb:=fun b hb e=>by
    subst e;rcases (Km.out b hb).2 with h|h
    · exact Cs.out.2 h
    omega
   have xK:∀b,b≠tb->(w4.setCell ⟨tb,1,none⟩ (.int .i64 ((sz:Int)+1))).heap[b]?=w4.heap[b]?:=fun b hb=>heap_setCell_other _ ⟨tb,1,none⟩ b _ (by first|exact hb|exact Ne.symm hb)
   refine ⟨CH.out.setCell _ _,by simp;omega, ?_,eU.cont _ (gK.ins (lb:=w1.heap.size) (nb:=w1.heap.size+1) (ev':=ev') eU.node eU.wf eU.len eU.nd eU.tbn zQ.out HH.out (by omega) kO (by omega) (by omega) p1 p2 ?_ ?_ ?_ ?_ ?_ ?_)⟩
   · rw [show (if (bZ dH eT s.data.toList).isSome=true then sz else sz+1)=sz+1 by
      rw [<-eU.ex];have:=(Fo.ins_spec (n':=0) (pre':=r) (leaf':=none) (ev':= .nilIface) (sub':= .nil) eU.wf zQ.out HH.out).2.2.1 r.data.toList HH.out;have hne:r.data.toList≠ []:=fun e=>by have h:=HH.out;rw [e] at h;cases h
      have hg:bZ leaf sub r.data.toList=none:=by rw [bZ,if_neg hne];exact this
      rw [hg];rfl]
     exact heap_setCell_same _ tb 1 _ _ _ Q3.out
   · rw [xK k (Ne.symm tD)];exact P3.out
   · rw [xK _ (by omega)];exact Q1.out
   · rw [xK _ (by omega)];exact Q2.out
   · exact bD P4.out fun b hb=>xK b (hrow b hb)
   · intro b hb;rcases (Km.out b hb).2 with h|h
     · exact .inl h
     exact .inr ⟨by omega,by omega,by omega⟩
   intro b hb hbk mJ qg;rw [xK b mJ,P6.out b (by simp;omega) hbk qg]
   exact Hk.out.block b hb
 | some ch=>
   obtain ⟨aP,leaf1,ev1,bC,A,B,e1,e2,e3,e4,e5,e6,e7⟩:=Fo.edge_fp jU;have E9:=e3 w hI.out.1.node.2.2.2;obtain ⟨w1',w2',Ub,w4'⟩:=e4 m hI.out.1.wf;have zQ:=Y0 jU;have GN:=Y0 E9;have HE:=Y5 e1 e2 e5 (e6 m hI.out.1.wf) (e7 m hI.out.1.wf);have lj:=Y0 (show bC.WF m/\bC.len<=m/\aP.data.toList.head?=some r[0] from ⟨w1',w2',Ub⟩);have k1:=ax E9.1 hI.out.2;have k2:wr.cell? ⟨ch,1,none⟩=some (.string aP):=cellAt (j:=1) k1 rfl;obtain ⟨c1,c2,c3⟩:=zU r.data.toList aP.data.toList;have Ml:comm r.data.toList aP.data.toList<=r.size:=by rw [<-c2,<-size_data r,List.length_take];exact Nat.min_le_right _ _
   have Kn:comm r.data.toList aP.data.toList<=aP.size:=by
    have:=congrArg List.length c1;rw [size_data,List.length_append,c2] at this;omega
   have hpos:0<aP.size:=by
    rcases Nat.eq_zero_or_pos aP.size with h|h
    · have:aP.data.toList= []:=List.eq_nil_of_length_eq_zero (by rw [size_data];exact h);rw [this] at Ub;cases Ub
    exact h
   have HC:=Y3 c1 c2 c3;have HCp:Hid (comm r.data.toList aP.data.toList=comm r.data.toList aP.data.toList):=Y0 rfl;generalize Ko:comm r.data.toList aP.data.toList=cp at Ml Kn HC;have WE:=Y0 Ko;have HPS:=Y0 w4';clear jU e1 e2 e3 e4 e5 e6 e7 E9 w1' w2' Ub k1 c1 c2 c3 HCp h0' Ko;have hr2:r.size<=1000000:=by omega
   by_cases hfull:cp=aP.size
   · subst hfull;clear Kn;have aao:=Y0 Ml;clear Ml;go_wp2_with (first|(go_at_call 114;refine (f114 k leaf pre ev sub r[0] m _ Kl.out hrow'.out hI.out.1.wf hlen').mono ?_;rw [zQ.out,nu];rintro e w1 ⟨rfl,az⟩;have k3:=ag k2 az)|(go_at_call 118;refine (f118 r aP _ (by omega) (by omega)).mono ?_;rw [WE.out];rintro e w2 ⟨rfl,q,rfl⟩)|(refine Kj rfl 248 [(0,_),(1,_)] rfl _ rfl _ Kk.out ?_;go_frame));go_roundw
     case rel=>
      obtain ⟨e1,e2,e5,e6,e7⟩:=HE.out;have hpd:aP.data.toList.drop aP.size= []:=dZ aP
      have hpre:aP.data.toList<+:r.data.toList:=by
       have:=HC.out.1;rw [hpd,List.append_nil] at this;rw [this];exact List.take_prefix _ _
      refine ⟨ch,r.extract aP.size r.size,aP,leaf1,ev1,bC,rfl,rfl,by rw [ByteArray.size_extract];omega,Y0 ⟨xJ.down hI.out.1 zQ.out HH.out hpre (by rw [fw,size_data]) GN.out lj.out (by omega) e1 e2 e5 e6 e7, ?_⟩⟩
      repeat first|exact hI.out.2.trans (az.mono hI.out.2.size)|refine aY ?_
     simp [T9,ByteArray.size_extract];omega
   have WG:¬(cp:Int)=(aP.size:Int):=by omega
   go_wp2_with (first|(go_at_call 114;refine (f114 k leaf pre ev sub r[0] m _ Kl.out hrow'.out hI.out.1.wf hlen').mono ?_;rw [zQ.out,nu];rintro e w1 ⟨rfl,az⟩;have k3:=ag k2 az;have t3:=ag ht1 az;have t4:=frozenAt (j:=1) (ax QI.out az))|(go_at_call 118;refine (f118 r aP _ (by omega) (by omega)).mono ?_;rw [WE.out];rintro e w2 ⟨rfl,q,rfl⟩)|(refine Kj rfl 248 [(0,_),(1,_)] rfl _ rfl _ Kk.out ?_;go_frame));have eU:=hI.out.1;have hBw:Below w.heap.size w w1:=hI.out.2.trans (az.mono hI.out.2.size);have kO:w.heap.size<=w1.heap.size:=hBw.size;have ru:k<w.heap.size:=eU.node.lt k (by simp [bF]);have tD:k≠tb:=fun e=>eU.tbn (by simp [bF,e])
   have pR:tb<w.heap.size:=(Array.getElem?_eq_some_iff.1 HT.out.tree).1
   have pg:ev.ownBlock≠some k:=fun e=>by
    have:=eU.nd;rw [bF,List.nodup_cons] at this;exact this.1 (by simp [aS.2 e])
   have iW:ev.ownBlock≠some tb:=fun e=>eU.tbn (by simp [bF,aS.2 e])
   have ry:ch∈sub.fp:=by rw [HE.out.1];simp [bF]
   have pS:ch≠tb:=fun e=>eU.tbn (by simp only [bF,List.mem_cons,List.mem_append];exact .inr (.inr (e▸ry)))
   have kP:ch<w.heap.size:=GN.out.lt ch (by simp [bF])
   have xL:ch≠k:=fun e=>by
    have:=eU.nd;rw [bF,List.nodup_cons] at this;exact this.1 (List.mem_append_right _ (e▸ry))
   have pT:ev.ownBlock≠some ch:=fun e=>by
    have:=eU.nd;rw [bF,List.nodup_cons,List.nodup_append] at this;exact this.2.2.2 ch (List.mem_append_right _ (aS.2 e)) ch ry rfl
   have eF:∀b,ev.ownBlock=some b->b<w.heap.size:=fun b hb=>(eU.node.2.2.1.lt b hb).2
   generalize hQ:r.extract 0 cp=Q
   have F2:∀W2,W2=(((w1.drewN q).setCell ⟨tb,1,none⟩ (.int .i64 ((sz:Int)+1))).alloc (.cells #[.pointer none, .string Q, .slice none 0 0] 245))->
    W2.heap.size=w1.heap.size+1/\(∀b,b<w.heap.size->b≠tb->W2.heap[b]?=w.heap[b]?)/\W2.heap[tb]?=some (.cells #[.pointer (some ⟨n0,0,none⟩), .int .i64 ((sz+1:Nat):Int)] 241 (0,0))/\W2.heap[w1.heap.size]?=some (.cells #[.pointer none, .string Q, .slice none 0 0] 245 (0,0)):=by
    intro W2 h;subst h;have t1:(w1.drewN q).heap[tb]?=some (.cells #[.pointer (some ⟨n0,0,none⟩), .int .i64 sz] 241 (0,0)):=show w1.heap[tb]?=_ from ax QI.out az;refine ⟨by simp,fun b hb mJ=> ?_, ?_, ?_⟩
    · rw [Below.heap_alloc _ _ b (by simp;omega),heap_setCell_other _ ⟨tb,1,none⟩ b _ (by first|exact mJ|exact Ne.symm mJ)];exact hBw.block b hb
    · rw [Below.heap_alloc _ _ tb (by simp;omega)];exact heap_setCell_same _ tb 1 _ _ _ t1
    have:=heap_alloc_new ((w1.drewN q).setCell ⟨tb,1,none⟩ (.int .i64 ((sz:Int)+1))) (.cells #[.pointer none, .string Q, .slice none 0 0] 245);simpa using this
   generalize hW2:(((w1.drewN q).setCell ⟨tb,1,none⟩ (.int .i64 ((sz:Int)+1))).alloc (.cells #[.pointer none, .string Q, .slice none 0 0] 245))=W2;have GK:Hid (Env w W2):=Y0 (by rw [<-hW2];exact (((Env.below hBw).drewN _).setCell _ _).alloc _);obtain ⟨s2,Uc,tb2,WH⟩:=F2 W2 hW2.symm;clear F2 hW2 k3 t3 t4;generalize hcb:w1.heap.size=cb at s2 WH kO ⊢;refine (f119 k leaf pre ev sub r[0] ch cb m _ (by rw [Uc k ru tD];exact eU.node.1) (bD eU.node.2.2.1 fun b hb=>Uc b (eF b hb) (fun e=>iW (e▸hb))) eU.wf (by omega) zQ.out).mono ?_;rintro e W3 ⟨rfl,mI,gD⟩;have HE3:=Y0 (GK.out.trans (Env.grown gD));have s3:cb+1<=W3.heap.size:=s2▸gD.size;have Oy:∀b,b<w.heap.size->b≠tb->ev.ownBlock≠some b->W3.heap[b]?=w.heap[b]?:=fun b h1 h2 h3=>by rw [gD.block b (by omega) (Ne.symm h3),Uc b h1 h2]
   have QJ:W3.heap[tb]?=some (.cells #[.pointer (some ⟨n0,0,none⟩), .int .i64 ((sz+1:Nat):Int)] 241 (0,0)):=by rw [gD.block tb (by omega) (Ne.symm iW)];exact tb2
   have Ud:W3.heap[cb]?=some (.cells #[.pointer none, .string Q, .slice none 0 0] 245 (0,0)):=by rw [gD.block cb (by omega) (fun e=>by have:=eF cb e.symm;omega)];exact WH
   have k3:W3.cell? ⟨ch,1,none⟩=some (.string aP):=cellAt (j:=1) ((Oy ch kP pS pT).trans GN.out.1) rfl;have aap:(cp:Int)<(aP.size:Int):=by omega
   have FAR:=Y8 kO ru tD pR pg iW ry pS;have Fa:=Y4 kP xL pT eF;have S3:=Y5 s3 Oy QJ Ud mI;have Dt:=Y0 eU;have HQ:=Y0 hQ;clear s2 Uc tb2 WH s3 Oy QJ Ud mI gD kO ru tD pR pg iW ry pS kP xL pT eF eU hQ hBw hcb;go_wp2_with (refine Kj rfl 248 [(0,_),(1,_)] rfl _ rfl _ Kk.out ?_;go_frame);refine (f117 cb (.pointer none) Q (.slice none 0 0) aP[cp] ch [] _ S3.out.2.2.2.1 (World.ownsRow_nil _ _ _ _) (by simp) (by simp) (by simp) (by simp [Value.ownBlock])).mono ?_;rintro e W4 ⟨rfl,l4,GP,p1,p2,p3,p4,p5,p6,p7,p8,p9⟩;have CH:=Y0 (HE3.out.trans p9);clear p9;obtain ⟨kO,ru,tD,pR,pg,iW,ry,pS⟩:=FAR.out;obtain ⟨kP,xL,pT,eF⟩:=Fa.out;obtain ⟨s3,Oy,QJ,Ud,mI⟩:=S3.out;have hl4:l4= [(aP[cp],ch)]:=List.perm_singleton.1 (by simpa using p1);subst hl4;have IK:∀b,b<w.heap.size->b≠tb->ev.ownBlock≠some b->W4.heap[b]?=w.heap[b]?:=fun b h1 h2 h3=>by rw [p6 b (by omega) (by omega) (by simp [Value.ownBlock]),Oy b h1 h2 h3]
   have Kq:W4.heap[tb]?=some (.cells #[.pointer (some ⟨n0,0,none⟩), .int .i64 ((sz+1:Nat):Int)] 241 (0,0)):=by rw [p6 tb (by omega) (by omega) (by simp [Value.ownBlock])];exact QJ
   have mM:W4.ownsRow 0 250 2 ev sub.len (bE (sub.edges.map fun p=>if p.1=r[0] then (r[0],cb) else p)):=bD mI fun b hb=>p6 b (by have:=eF b hb;omega) (by have:=eF b hb;omega) (by simp [Value.ownBlock])
   have Ue:=(IK ch kP pS pT).trans GN.out.1;have k4:W4.cell? ⟨ch,1,none⟩=some (.string aP):=cellAt (j:=1) Ue rfl;have f4:=frozenAt (j:=1) Ue;have s4:cb+1<=W4.heap.size:=by omega
   have nv:∀b,GP.ownBlock=some b->b≠cb/\w.heap.size<=b:=fun b hb=>⟨p8 b hb,by have:=p7 b hb;simp [Value.ownBlock] at this;omega⟩
   have S4:=Y7 s4 IK Kq p3 mM p4 nv;have CH4:=Y0 Ue;clear s4 IK Kq p1 p2 p3 p4 p5 p6 p7 p8 mM Ue nv s3 Oy QJ Ud mI kO ru tD pR pg iW ry pS kP xL pT eF S3 k3
   have IL:(((W4.setCell ⟨ch,1,none⟩ (.string (aP.extract cp aP.size))).alloc (.cells #[.string s, v] 248)).heap[cb]?=some (.cells #[.pointer none, .string Q,GP] 245 (0,0))):=by
    rw [Below.heap_alloc _ _ cb (by have:=S4.out.1;simp;omega),heap_setCell_other _ ⟨ch,1,none⟩ cb _ (by have:=FAR.out.1;have:=Fa.out.1;first|(show _≠_;simp;omega))];exact S4.out.2.2.2.1
   have kc5:((W4.setCell ⟨ch,1,none⟩ (.string (aP.extract cp aP.size))).alloc (.cells #[.string s, v] 248)).cell? ⟨cb,0,none⟩=some (.pointer none):=cellAt (j:=0) IL rfl;have kf5:=frozenAt (j:=0) IL;have WI:=Y0 IL;clear IL;have hcr:Hid (r.data.toList=Q.data.toList++(r.extract cp r.size).data.toList):=Y0 (by rw [fw,<-HQ.out,Lib.extract_data,List.drop_zero,Nat.sub_zero,List.take_append_drop]);have Uf:(aP.extract cp aP.size).data.toList=aP.data.toList.drop cp:=fw aP cp;have CI:(aP.extract cp aP.size).data.toList.head?=some aP[cp]:=by rw [Uf,drop_cons aP cp (by omega)];rfl
   have Oj:Q.data.toList=r.data.toList.take cp:=by rw [<-HQ.out,Lib.extract_data,List.drop_zero,Nat.sub_zero]
   have Eo:aP.data.toList=Q.data.toList++(aP.extract cp aP.size).data.toList:=by rw [Uf,Oj];exact HC.out.1
   have WJ:0<cp:=by
    rcases Nat.eq_zero_or_pos cp with h|h
    · exfalso
      have h1:=HC.out.2.2;rw [h,List.drop_zero,List.drop_zero] at h1;have hh:=HH.out;have hp:=lj.out.2.2;rcases h1 with h1|h1|⟨a,b,S',D',h1,h2,h3⟩
      · rw [h1] at hh;cases hh
      · rw [h1] at hp;cases hp
      rw [h1] at hh;rw [h2] at hp;simp only [List.head?_cons,Option.some.injEq] at hh hp;exact h3 (hh.trans hp.symm)
    exact h
   have Ks:Q.data.toList.head?=some r[0]:=by
    rw [Oj];have:=HH.out
    cases hq:r.data.toList with
    | nil=>rw [hq] at this;cases this
    | cons a t=>rw [hq] at this;rw [show cp=(cp - 1)+1 by omega];exact this
   have Dr:Q.size<=1000000:=by rw [<-HQ.out,ByteArray.size_extract];omega
   have Ds:(aP.extract cp aP.size).size<=1000000:=by have:=HPS.out;rw [ByteArray.size_extract];omega
   have DD:=Y5 CI Eo Ks Dr Ds;have Dl:=Y0 Uf;clear Uf CI Oj Eo WJ Ks Dr Ds
   have hsz:(bZ dH eT s.data.toList).isSome=false:=by
    rw [<-hI.out.1.ex];have hne:r.data.toList≠ []:=fun e=>by have h:=HH.out;rw [e] at h;cases h
    rw [bZ,if_neg hne,HE.out.2.2.2.1 _ HH.out,if_neg]
    · rfl
    intro hpre;have h1:=WE.out
    have:comm r.data.toList aP.data.toList=aP.data.toList.length:=by
     obtain ⟨t,ht⟩:=hpre;rw [<-ht];generalize aP.data.toList=z
     induction z with
     | nil=>cases t<;>simp [comm]
     | cons a z ih=>simp [comm,ih]
    rw [this,size_data] at h1;exact hfull h1.symm
   have HSZ:=Y0 hsz;clear hsz;by_cases hS:cp=r.size
   · have aR:r.extract cp r.size=ByteArray.empty:=by
      apply ByteArray.ext;apply Array.ext';rw [fw,hS,dZ];rfl
     have HS:=Y0 hS;clear hS;go_wp2_with (refine Kj rfl 248 [(0,_),(1,_)] rfl _ rfl _ Kk.out ?_;go_frame);go_ret2;refine ⟨⟨_,rfl⟩, ?_⟩;obtain ⟨kO,ru,tD,pR,pg,iW,ry,pS⟩:=FAR.out;obtain ⟨kP,xL,pT,eF⟩:=Fa.out;obtain ⟨s4,IK,Kq,p3,mM,p4,nv⟩:=S4.out;obtain ⟨CI,Eo,Ks,Dr,Ds⟩:=DD.out;obtain ⟨e1,e2,e5,e6,e7⟩:=HE.out;have jf:∀b,GP.ownBlock=some b->b<W4.heap.size:=fun b hb=>(p4.lt b hb).2
     have hblk:∀b,b<W4.heap.size->b≠ch->b≠cb->(((W4.setCell ⟨ch,1,none⟩ (.string (aP.extract cp aP.size))).alloc (.cells #[.string s, v] 248)).setCell ⟨cb,0,none⟩ (.pointer (some ⟨W4.heap.size,0,none⟩))).heap[b]?=W4.heap[b]?:=fun b hb h1 h2=>by
      rw [heap_setCell_other _ ⟨cb,0,none⟩ b _ (by first|exact h2|exact Ne.symm h2),Below.heap_alloc _ _ b (by simp;omega),heap_setCell_other _ ⟨ch,1,none⟩ b _ (by first|exact h1|exact Ne.symm h1)]
     have eU:=hI.out.1;refine ⟨((CH.out.setCell _ _).alloc _).setCell _ _,by simp;omega, ?_,eU.cont _ (gK.split1 (Q:=Q) (D:=aP.extract cp aP.size) (lab2:=aP[cp]) (cb:=cb) (lb:=W4.heap.size) (evC:=GP) eU.node eU.wf eU.len eU.nd eU.tbn GN.out lj.out.1 lj.out.2.1 e1 e2 e5 e6 e7 ?_ ?_ ?_ ?_ kO (by omega) (by omega) Ks Dr CI Ds Eo HH.out ?_ ?_ ?_ ?_)⟩
     · rw [hblk tb (by omega) (Ne.symm pS) (by omega),Kq,HSZ.out];rfl
     · intro b hb h1 h2 h3;rw [hblk b (by omega) h2 (by omega)];exact IK b hb h1 h3
     · rw [heap_setCell_other _ ⟨cb,0,none⟩ ch _ (by show _≠_;simp;omega),Below.heap_alloc _ _ ch (by simp;omega)];exact heap_setCell_same _ ch 1 _ _ _ CH4.out
     · exact bD mM fun b hb=>hblk b (by have:=eF b hb;omega) (fun e=>pT (e▸hb)) (by have:=eF b hb;omega)
     · rw [heap_setCell_other _ ⟨cb,0,none⟩ _ _ (by show _≠_;simp;omega)];have:=heap_alloc_new (W4.setCell ⟨ch,1,none⟩ (.string (aP.extract cp aP.size))) (.cells #[.string s, v] 248);simpa using this
     · rw [hcr.out,aR];simp
     · exact heap_setCell_same _ cb 0 _ _ _ WI.out
     · exact bD p4 fun b hb=>hblk b (jf b hb) (by have:=(nv b hb).2;omega) (nv b hb).1
     exact fun b hb=>⟨(nv b hb).2,(nv b hb).1,by have:=jf b hb;omega⟩
   have hS1:0<(r.extract cp r.size).size:=by rw [ByteArray.size_extract];omega
   have ji:¬r.extract cp r.size=ByteArray.empty:=by intro e;rw [e] at hS1;simp at hS1
   go_wp2_with (refine Kj rfl 248 [(0,_),(1,_)] rfl _ rfl _ Kk.out ?_;go_frame);obtain ⟨kO,ru,tD,pR,pg,iW,ry,pS⟩:=FAR.out;obtain ⟨kP,xL,pT,eF⟩:=Fa.out;obtain ⟨s4,IK,Kq,p3,mM,p4,nv⟩:=S4.out;obtain ⟨CI,Eo,Ks,Dr,Ds⟩:=DD.out
   have IP:(r.extract cp r.size).data.toList.head?=some (r.extract cp r.size)[0]:=by
    have:=drop_cons (r.extract cp r.size) 0 hS1;rw [List.drop_zero] at this;rw [this];rfl
   have hlab:(r.extract cp r.size)[0]≠aP[cp]:=by
    intro e;rcases HC.out.2.2 with h1|h1|⟨a,b,S',D',h1,h2,h3⟩
    · rw [<-fw] at h1;rw [h1] at IP;cases IP
    · rw [<-Dl.out] at h1;rw [h1] at CI;cases CI
    rw [fw,h1] at IP;rw [Dl.out,h2] at CI;simp only [List.head?_cons,Option.some.injEq] at IP CI;exact h3 (IP.trans (e.trans CI.symm))
   have jf:∀b,GP.ownBlock=some b->b<W4.heap.size:=fun b hb=>(p4.lt b hb).2
   generalize GQ:(((W4.setCell ⟨ch,1,none⟩ (.string (aP.extract cp aP.size))).alloc (.cells #[.string s, v] 248)).alloc (.cells #[.pointer (some ⟨W4.heap.size,0,none⟩), .string (r.extract cp r.size), .slice none 0 0] 245))=W7;have HE7:Hid (Env w W7):=Y0 (by rw [<-GQ];exact ((CH.out.setCell _ _).alloc _).alloc _);have s7:W7.heap.size=W4.heap.size+2:=by rw [<-GQ];simp
   have Oz:∀b,b<W4.heap.size->b≠ch->W7.heap[b]?=W4.heap[b]?:=fun b hb h1=>by
    rw [<-GQ,Below.heap_alloc _ _ b (by simp;omega),Below.heap_alloc _ _ b (by simp;omega),heap_setCell_other _ ⟨ch,1,none⟩ b _ (by first|exact h1|exact Ne.symm h1)]
   have Ug:W7.heap[ch]?=some (.cells #[leaf1.val, .string (aP.extract cp aP.size),ev1] 245 (0,0)):=by
    rw [<-GQ,Below.heap_alloc _ _ ch (by simp;omega),Below.heap_alloc _ _ ch (by simp;omega)];exact heap_setCell_same _ ch 1 _ _ _ CH4.out
   have Uh:W7.heap[W4.heap.size]?=some (.cells #[.string s, v] 248 (0,0)):=by
    rw [<-GQ,Below.heap_alloc _ _ _ (by simp)];have:=heap_alloc_new (W4.setCell ⟨ch,1,none⟩ (.string (aP.extract cp aP.size))) (.cells #[.string s, v] 248);simpa using this
   have Ui:W7.heap[W4.heap.size+1]?=some (.cells #[.pointer (some ⟨W4.heap.size,0,none⟩), .string (r.extract cp r.size), .slice none 0 0] 245 (0,0)):=by
    rw [<-GQ];have:=heap_alloc_new ((W4.setCell ⟨ch,1,none⟩ (.string (aP.extract cp aP.size))).alloc (.cells #[.string s, v] 248)) (.cells #[.pointer (some ⟨W4.heap.size,0,none⟩), .string (r.extract cp r.size), .slice none 0 0] 245);simpa using this
   have cb7:W7.heap[cb]?=some (.cells #[.pointer none, .string Q,GP] 245 (0,0)):=by rw [Oz cb (by omega) (by omega)];exact p3
   have ow7:W7.ownsRow 0 250 2 GP [(aP[cp],ch)].length (bE [(aP[cp],ch)]):=bD p4 fun b hb=>Oz b (jf b hb) (by have:=(nv b hb).2;omega)
   refine (f117 cb (.pointer none) Q GP (r.extract cp r.size)[0] (W4.heap.size+1) [(aP[cp],ch)] _ cb7 ow7 (by simp) (by simp) (by simp [hlab]) (fun e=>(nv cb e).1 rfl)).mono ?_;rintro e W8 ⟨rfl,l8,ev8,q1,q2,q3,q4,q5,q6,q7,q8,q9⟩;have HE8:=Y0 (HE7.out.trans q9);clear q9;have EN:=Y8 q1 q2 q3 q4 q5 q6 q7 q8;have EN7:=Y6 s7 Oz Ug Uh Ui jf;have Vb:=Y2 IP hlab;clear q1 q2 q3 q4 q5 q6 q7 q8 s7 Oz Ug Uh Ui cb7 ow7 jf IP hlab GQ kO ru tD pR pg iW ry pS kP xL pT eF s4 IK Kq p3 mM p4 nv CI Eo Ks Dr Ds;go_wp2;go_ret2;refine ⟨⟨_,rfl⟩, ?_⟩;obtain ⟨kO,ru,tD,pR,pg,iW,ry,pS⟩:=FAR.out;obtain ⟨kP,xL,pT,eF⟩:=Fa.out;obtain ⟨s4,IK,Kq,p3,mM,p4,nv⟩:=S4.out;obtain ⟨CI,Eo,Ks,Dr,Ds⟩:=DD.out;obtain ⟨e1,e2,e5,e6,e7⟩:=HE.out;obtain ⟨q1,q2,q3,q4,q5,q6,q7,q8⟩:=EN.out;obtain ⟨s7,Oz,Ug,Uh,Ui,jf⟩:=EN7.out;obtain ⟨IP,hlab⟩:=Vb.out;have eU:=hI.out.1
   have Mk:1<=m:=by
    have h1:=eU.len;have h2:=zQ.out
    cases AQ:sub with
    | nil=>rw [AQ] at h2;cases h2
    | cons=>rw [AQ] at h1;simp [Fo.len] at h1;omega
   have hblk:∀b,b<W4.heap.size->b≠ch->b≠cb->GP.ownBlock≠some b->W8.heap[b]?=W4.heap[b]?:=fun b hb h1 h2 h3=>by
    rw [q6 b (by omega) h2 h3,Oz b hb h1]
   have IQ:∀b,b<w.heap.size->GP.ownBlock≠some b:=fun b hb e=>by have:=(nv b e).2;omega
   refine ⟨HE8.out,by omega, ?_,eU.cont _ (gK.split2 (Q:=Q) (D:=aP.extract cp aP.size) (S:=r.extract cp r.size) (lab2:=aP[cp]) (lab3:=(r.extract cp r.size)[0]) (cb:=cb) (lb:=W4.heap.size) (nb:=W4.heap.size+1) (evC:=ev8) (lC:=l8) eU.node eU.wf eU.len eU.nd eU.tbn GN.out lj.out.1 lj.out.2.1 e1 e2 e5 e6 e7 ?_ ?_ ?_ ?_ kO (by omega) (by omega) Ks Dr CI Ds Eo HH.out hcr.out IP (by rw [ByteArray.size_extract];omega) hlab q3 ?_ q4 q1 q2 (by omega) (by omega) (by omega) Mk ?_)⟩
   · rw [hblk tb (by omega) (Ne.symm pS) (by omega) (IQ tb pR),Kq,HSZ.out];rfl
   · intro b hb h1 h2 h3;rw [hblk b (by omega) h2 (by omega) (IQ b hb)];exact IK b hb h1 h3
   · rw [q6 ch (by omega) (by omega) (IQ ch kP)];exact Ug
   · exact bD mM fun b hb=>hblk b (by have:=eF b hb;omega) (fun e=>pT (e▸hb)) (by have:=eF b hb;omega) (IQ b (eF b hb))
   · rw [q6 _ (by omega) (by omega) (fun e=>by have:=jf _ e;omega)];exact Uh
   · rw [q6 _ (by omega) (by omega) (fun e=>by have:=jf _ e;omega)];exact Ui
   intro b hb;rcases q7 b hb with h|h
   · have h1:=nv b h;have h2:=jf b h;exact ⟨h1.2,h1.1,by omega,by omega⟩
   exact ⟨by omega,q8 b hb,by omega,by omega⟩
abbrev gF:=Bytes->Option (aa × Value)
def LP (g:gF) (s:Bytes) (o:Option (aa × Value)):Prop:=
 (o=none/\∀p,p<+:s->g p=none)\/∃p x,o=some x/\p<+:s/\g p=some x/\∀q,q<+:s->(g q).isSome->q.length<=p.length
theorem Fo.get_nil {m:Nat} {f:Fo} (h:f.WF m):f.get []=none:=by
 induction f with
 | nil=>rfl
 | cons lab n pre leaf ev sub rest ih1 ih2=>
   obtain ⟨⟨h1,_⟩,_,_,_,h5⟩:=h
   have:¬pre.data.toList<+: []:=by
    intro e;rw [List.prefix_nil.1 e] at h1;cases h1
   simp only [Fo.get,if_neg this];exact ih2 h5
theorem Fo.get_lab {m:Nat} {f:Fo} (h:f.WF m) {p:Bytes} {c:UInt8} (hp:p.head?=some c) (hc:c∉f.labs):f.get p=none:=by
 induction f with
 | nil=>rfl
 | cons lab n pre leaf ev sub rest ih1 ih2=>
   obtain ⟨⟨h1,_⟩,_,_,_,h5⟩:=h;simp only [Fo.labs,List.mem_cons,not_or] at hc
   have:¬pre.data.toList<+:p:=by
    rintro ⟨t,e⟩
    cases wC:pre.data.toList with
    | nil=>rw [wC] at h1;cases h1
    | cons a l=>
      rw [wC] at h1 e;rw [<-e] at hp;simp at h1 hp;exact hc.1 (hp.symm.trans h1)
   simp only [Fo.get,if_neg this];exact ih2 h5 hc.2
theorem xM {a b:Bytes} (h:a<+:b) (hn:a≠ []):a.head?=b.head?:=by
 obtain ⟨t,rfl⟩:=h
 cases a with
 | nil=>exact absurd rfl hn
 | cons x l=>rfl
theorem kQ {a b:Bytes} (h:a<+:b):b=a++b.drop a.length:=by
 obtain ⟨t,rfl⟩:=h;simp
theorem rz {a p s:Bytes} (ha:a<+:p) (hp:p<+:s):p.drop a.length<+:s.drop a.length:=by
 obtain ⟨t,rfl⟩:=ha;obtain ⟨u,rfl⟩:=hp;exact ⟨u,by simp⟩
theorem Fo.lp_spec {m:Nat} {f:Fo} (hW:f.WF m):∀(s:Bytes) (b:bl),(f.lp s b=b/\∀p,p<+:s->f.get p=none)\/
 ∃p x,(f.lp s b).get=some x/\p<+:s/\f.get p=some x/\∀q,q<+:s->(f.get q).isSome->q.length<=p.length:=by
 induction f with
 | nil=>intro s b;exact Or.inl ⟨rfl,fun _ _=>rfl⟩
 | cons lab n pre leaf ev sub rest ih1 ih2=>
   intro s b;have hW0:=hW;obtain ⟨⟨h1,_⟩,h2,h3,h4,h5⟩:=hW
   have hne:pre.data.toList≠ []:=by
    intro e;rw [e] at h1;cases h1
   have hnl:lab∉rest.labs:=fun h=>Nat.lt_irrefl _ (h2 lab h)
   by_cases hs:s.head?=some lab
   ·
    have hrest:∀p,p<+:s->rest.get p=none:=by
     intro p hp;by_cases he:p= []
     · rw [he];exact Fo.get_nil h5
     exact Fo.get_lab h5 ((xM hp he).trans hs) hnl
    by_cases hp:pre.data.toList<+:s
    · by_cases hd:s.drop pre.data.toList.length= []
      · have e:(Fo.cons lab n pre leaf ev sub rest).lp s b=leaf.or b:=by simp only [Fo.lp,if_pos hs,if_pos hp,if_pos hd]
        have hsp:s=pre.data.toList:=by rw [kQ hp,hd];simp
        have hget:∀q,q<+:s->(Fo.cons lab n pre leaf ev sub rest).get q=if q=s then leaf.get else none:=by
         intro q hq;by_cases Ph:q=s
         · rw [if_pos Ph,Ph];simp only [Fo.get,if_pos hp,if_pos hd]
         have:¬pre.data.toList<+:q:=by
          intro h;exact Ph (hq.eq_of_length_le (by rw [hsp];exact h.length_le))
         simp only [Fo.get,if_neg this,if_neg Ph];exact hrest q hq
        cases leaf with
        | none=>
          refine Or.inl ⟨by rw [e];rfl,fun q hq=> ?_⟩;rw [hget q hq]
          split<;>rfl
        | some x=>
          refine Or.inr ⟨s,(x.2.1,x.2.2),by rw [e];rfl,List.prefix_rfl,by rw [hget s List.prefix_rfl,if_pos rfl];rfl,fun q hq _=>hq.length_le⟩
      have e:(Fo.cons lab n pre leaf ev sub rest).lp s b=sub.lp (s.drop pre.data.toList.length) (leaf.or b):=by simp only [Fo.lp,if_pos hs,if_pos hp,if_neg hd]
      have hget:∀q,q<+:s->(Fo.cons lab n pre leaf ev sub rest).get q=if pre.data.toList<+:q then (if q.drop pre.data.toList.length= [] then leaf.get else sub.get (q.drop pre.data.toList.length)) else none:=by
       intro q hq;simp only [Fo.get];split
       · rfl
       exact hrest q hq
      rcases ih1 h4 (s.drop pre.data.toList.length) (leaf.or b) with ⟨e1,e2⟩|⟨p,x,e1,e2,e3,e4⟩
      · cases leaf with
        | none=>
          refine Or.inl ⟨by rw [e,e1];rfl,fun q hq=> ?_⟩;rw [hget q hq];split
          · rename_i hpq;split
            · rfl
            exact e2 _ (rz hpq hq)
          rfl
        | some x=>
          refine Or.inr ⟨pre.data.toList,(x.2.1,x.2.2),by rw [e,e1];rfl,hp, ?_,fun q hq hi=> ?_⟩
          · rw [hget _ hp,if_pos List.prefix_rfl,if_pos (by simp)];rfl
          rw [hget q hq] at hi;split at hi
          · rename_i hpq;split at hi
            · rename_i hd;rw [kQ hpq,hd];simp
            rw [e2 _ (rz hpq hq)] at hi;cases hi
          cases hi
      have Mm:p≠ []:=by
       intro e;rw [e,Fo.get_nil h4] at e3;cases e3
      have hq0:pre.data.toList++p<+:s:=by
       rw [kQ hp];exact (List.prefix_append_right_inj _).2 e2
      refine Or.inr ⟨pre.data.toList++p,x,by rw [e];exact e1,hq0, ?_,fun q hq hi=> ?_⟩
      · rw [hget _ hq0,if_pos (List.prefix_append _ _),if_neg (by simpa using Mm)];simpa using e3
      rw [hget q hq] at hi;split at hi
      · rename_i hpq;split at hi
        · rename_i hd;rw [kQ hpq,hd];simp
        have:=e4 _ (rz hpq hq) hi;have hl:=congrArg List.length (kQ hpq);simp only [List.length_append] at hl ⊢;omega
      cases hi
    have e:(Fo.cons lab n pre leaf ev sub rest).lp s b=b:=by simp only [Fo.lp,if_pos hs,if_neg hp]
    refine Or.inl ⟨e,fun q hq=> ?_⟩;have:¬pre.data.toList<+:q:=fun h=>hp (h.trans hq)
    simp only [Fo.get,if_neg this];exact hrest q hq
   have e:(Fo.cons lab n pre leaf ev sub rest).lp s b=rest.lp s b:=by simp only [Fo.lp,if_neg hs]
   have hget:∀q,q<+:s->(Fo.cons lab n pre leaf ev sub rest).get q=rest.get q:=by
    intro q hq
    have:¬pre.data.toList<+:q:=by
     intro h;exact hs ((xM (h.trans hq) hne).symm.trans h1)
    simp only [Fo.get,if_neg this]
   rw [e];rcases ih2 h5 s b with ⟨e1,e2⟩|⟨p,x,e1,e2,e3,e4⟩
   · exact Or.inl ⟨e1,fun q hq=>(hget q hq).trans (e2 q hq)⟩
   exact Or.inr ⟨p,x,e1,e2,(hget p e2).trans e3,fun q hq hi=>e4 q hq (by rw [<-hget q hq];exact hi)⟩
theorem xN {m:Nat} {leaf:bl} {f:Fo} (hW:f.WF m) (s:Bytes):LP (bZ leaf f) s (vD leaf f s none).get:=by
 have hor:leaf.or none=leaf:=by cases leaf<;>rfl
 by_cases hs:s= []
 · subst hs;have:vD leaf f [] none=leaf:=by rw [vD,if_pos rfl,hor]
   rw [this]
   cases leaf with
   | none=>
     refine Or.inl ⟨rfl,fun p hp=> ?_⟩;rw [List.prefix_nil.1 hp]
     rfl
   | some x=>exact Or.inr ⟨[],(x.2.1,x.2.2),rfl,List.prefix_rfl,rfl,fun q hq _=>hq.length_le⟩
 have e:vD leaf f s none=f.lp s leaf:=by rw [vD,if_neg hs,hor]
 rw [e];have hget:∀q,q≠ []->bZ leaf f q=f.get q:=fun q hq=>by rw [bZ,if_neg hq]
 rcases Fo.lp_spec hW s leaf with ⟨e1,e2⟩|⟨p,x,e1,e2,e3,e4⟩
 · rw [e1]
   cases leaf with
   | none=>
     refine Or.inl ⟨rfl,fun p hp=> ?_⟩;by_cases he:p= []
     · rw [he];rfl
     rw [hget p he,e2 p hp]
   | some x=>
     refine Or.inr ⟨[],(x.2.1,x.2.2),rfl,List.nil_prefix,rfl,fun q hq hi=> ?_⟩;by_cases he:q= []
     · rw [he];exact Nat.le_refl _
     rw [hget q he,e2 q hq] at hi;cases hi
 have Mm:p≠ []:=by
  intro e;rw [e,Fo.get_nil hW] at e3;cases e3
 refine Or.inr ⟨p,x,e1,e2,(hget p Mm).trans e3,fun q hq hi=> ?_⟩;by_cases he:q= []
 · rw [he];exact Nat.zero_le _
 exact e4 q hq (by rw [<-hget q he];exact hi)
def Trie (w:World) (lo bx tb m:Nat) (g:gF) (sz:Nat):Prop:=
 ∃n0 leaf ev sub,mr w tb n0 leaf ev sub sz/\sub.WF m/\sub.len<=m/\(tb::bF n0 leaf ev sub).Nodup/\(∀b∈tb::bF n0 leaf ev sub,lo<=b/\b≠bx)/\(∀p,bZ leaf sub p=g p)/\∀p kk vv,g p=some (kk,vv)->kk.data.toList=p
theorem Trie.lt {w:World} {lo bx tb m sz:Nat} {g:gF} (h:Trie w lo bx tb m g sz):tb<w.heap.size:=by
 obtain ⟨n0,leaf,ev,sub,hT,_⟩:=h;exact (Array.getElem?_eq_some_iff.1 hT.tree).1
theorem Trie.node {w:World} {lo bx tb m sz:Nat} {g:gF} {n0:Nat} {leaf:bl} {ev:Value} {sub:Fo} (hT:mr w tb n0 leaf ev sub sz):cA w n0 ⟨#[]⟩ leaf ev sub:=⟨hT.root,hT.leaf,hT.row,hT.sub⟩
theorem Trie.pure {w w':World} {lo bx tb m sz:Nat} {g:gF} (h:Trie w lo bx tb m g sz) (hb:Below w.heap.size w w'):Trie w' lo bx tb m g sz:=by
 obtain ⟨n0,leaf,ev,sub,hT,h1,h2,h3,h4,h5⟩:=h;have hN:cA w' n0 ⟨#[]⟩ leaf ev sub:=(Trie.node (lo:=0) (bx:=0) (m:=0) (g:=fun _=>none) hT).keep fun b hb'=>hb.block b ((Trie.node (lo:=0) (bx:=0) (m:=0) (g:=fun _=>none) hT).lt b hb')
 exact ⟨n0,leaf,ev,sub,⟨ax hT.tree hb,hN.1,hN.2.1,hN.2.2.1,hN.2.2.2⟩,h1,h2,h3,h4,h5⟩
def gF.put (g:gF) (s:aa) (v:Value):gF:=fun p=>if p=s.data.toList then some (s,v) else g p
theorem Trie.ins {w w':World} {lo bx tb m sz n0:Nat} {g:gF} {leaf:bl} {ev:Value} {sub:Fo} {s:aa} {v:Value} (hT:mr w tb n0 leaf ev sub sz) (hlo:lo<=w.heap.size) (hnd:(tb::bF n0 leaf ev sub).Nodup) (hb:∀b∈tb::bF n0 leaf ev sub,lo<=b/\b≠bx) (hx:bx<w.heap.size)
 (hg:∀p,bZ leaf sub p=g p) (hk:∀p kk vv,g p=some (kk,vv)->kk.data.toList=p) (h:BC w tb m n0 leaf ev sub sz s v w'):
 Trie w' lo bx tb (m+1) (g.put s v) (if (g s.data.toList).isSome then sz else sz+1)/\Below lo w w'/\w'.heap[bx]?=w.heap[bx]?:=by
 obtain ⟨hE,hsz,ht,leaf',ev',sub',hN,hnd',xI,kN,hwf,hlen,hget⟩:=h;have hlt:=(Array.getElem?_eq_some_iff.1 hT.tree).1;refine ⟨⟨n0,leaf',ev',sub',⟨by rw [ht,hg],hN.1,hN.2.1,hN.2.2.1,hN.2.2.2⟩,hwf,hlen, ?_, ?_, ?_, ?_⟩,hE.below_of hsz ?_,kN bx hx (fun h=>(hb bx (List.mem_cons_of_mem _ h)).2 rfl) (fun e=>(hb tb (List.mem_cons_self ..)).2 e.symm)⟩
 · rw [List.nodup_cons] at hnd ⊢;refine ⟨fun hm=> ?_,hnd'⟩;rcases xI tb hm with h|h
   · exact hnd.1 h
   omega
 · intro b hm;rcases List.mem_cons.1 hm with rfl|hm
   · exact hb _ (List.mem_cons_self ..)
   rcases xI b hm with h|h
   · exact hb b (List.mem_cons_of_mem _ h)
   omega
 · intro p;rw [hget,hg];rfl
 · intro p kk vv h;simp only [gF.put] at h;split at h
   · rename_i hp;simp only [Option.some.injEq,Prod.mk.injEq] at h;rw [<-h.1,hp]
   exact hk p kk vv h
 intro b hbl;refine kN b (by omega) (fun hm=> ?_) (fun e=> ?_)
 · have:=(hb b (List.mem_cons_of_mem _ hm)).1;omega
 have:=(hb tb (List.mem_cons_self ..)).1;omega
theorem Trie.excl {w:World} {lo bx tb m sz:Nat} {g:gF} (h:Trie w lo bx tb m g sz) {bx':Nat} (hx:w.heap.size<=bx'):Trie w lo bx' tb m g sz:=by
 obtain ⟨n0,leaf,ev,sub,hT,h1,h2,h3,h4,h5⟩:=h;refine ⟨n0,leaf,ev,sub,hT,h1,h2,h3,fun b hb=>⟨(h4 b hb).1,fun e=> ?_⟩,h5⟩;rcases List.mem_cons.1 hb with rfl|hb
 · have:=(Array.getElem?_eq_some_iff.1 hT.tree).1;omega
 have:=(Trie.node (lo:=0) (bx:=0) (m:=0) (g:=fun _=>none) hT).lt b hb;omega
theorem QK (w:World):Calls Tryz.prog 71 #[] w fun e w'=>∃tb,e= .returned (.pointer (some ⟨tb,0,none⟩))/\Trie w' w.heap.size w'.heap.size tb 0 (fun _=>none) 0/\Below w.heap.size w w':=by
 refine (f71 w).mono ?_;rintro e w' ⟨tb,n0,rfl,hT,hB,g1,g2,g3⟩;refine ⟨tb,rfl,⟨n0,none,_, .nil,hT,trivial,Nat.le_refl _, ?_, ?_, ?_, ?_⟩,hB⟩
 · simp [bF,bl.blocks,aI,Value.ownBlock,Fo.fp,Ne.symm g3]
 · have h1:=(Array.getElem?_eq_some_iff.1 hT.tree).1;have h2:=(Array.getElem?_eq_some_iff.1 hT.root).1;simp [bF,bl.blocks,aI,Value.ownBlock,Fo.fp];omega
 · intro p;unfold bZ;split<;>rfl
 intro p kk vv h;cases h
theorem IU (lo bx tb m sz:Nat) (g:gF) (s:aa) (T:TypeId) (x:Value) (w:World) (h:Trie w lo bx tb m g sz) (hlo:lo<=w.heap.size) (hx:bx<w.heap.size) (hm:m<=11) (hs:s.size<=1000000) (hsz:sz<=1000):
 Calls Tryz.prog 75 #[.pointer (some ⟨tb,0,none⟩), .string s, .iface T x] w fun e w'=>(∃v,e= .returned v)/\Trie w' lo bx tb (m+1) (g.put s (.iface T x)) (if (g s.data.toList).isSome then sz else sz+1)/\Below lo w w'/\w'.heap[bx]?=w.heap[bx]?:=by
 obtain ⟨n0,leaf,ev,sub,hT,hW,hl,hnd,hb,hg,hk⟩:=h;refine (f75 tb n0 leaf ev sub sz m s _ (.inr ⟨T,x,rfl⟩) w hT hW hl hm hs hsz hnd (fun p kk vv h=>hk p kk vv ((hg p).symm.trans h))).mono ?_;rintro e w' ⟨he,hP⟩;exact ⟨he,Trie.ins hT hlo hnd hb hx hg hk hP⟩
theorem QL (lo bx tb m sz:Nat) (g:gF) (s:aa) (w:World) (h:Trie w lo bx tb m g sz) (hlo:lo<=w.heap.size) (hx:bx<w.heap.size) (hm:m<=11) (hs:s.size<=1000000) (hsz:sz<=1000):
 Calls Tryz.prog 75 #[.pointer (some ⟨tb,0,none⟩), .string s, .nilIface] w fun e w'=>(∃v,e= .returned v)/\Trie w' lo bx tb (m+1) (g.put s .nilIface) (if (g s.data.toList).isSome then sz else sz+1)/\Below lo w w'/\w'.heap[bx]?=w.heap[bx]?:=by
 obtain ⟨n0,leaf,ev,sub,hT,hW,hl,hnd,hb,hg,hk⟩:=h;refine (f75 tb n0 leaf ev sub sz m s _ (.inl rfl) w hT hW hl hm hs hsz hnd (fun p kk vv h=>hk p kk vv ((hg p).symm.trans h))).mono ?_;rintro e w' ⟨he,hP⟩;exact ⟨he,Trie.ins hT hlo hnd hb hx hg hk hP⟩
theorem WK (lo bx tb m sz:Nat) (g:gF) (s:aa) (w:World) (h:Trie w lo bx tb m g sz) (hm:m<=1000) (hs:s.size<=140737488351232):
 Calls Tryz.prog 73 #[.pointer (some ⟨tb,0,none⟩), .string s] w fun e w'=>∃o,e= .returned (jT o)/\LP g s.data.toList o/\(∀kk vv,o=some (kk,vv)->kk.data.toList<+:s.data.toList/\g kk.data.toList=some (kk,vv))/\Below w.heap.size w w':=by
 obtain ⟨n0,leaf,ev,sub,hT,hW,hl,hnd,hb,hg,hk⟩:=h;refine (f73 tb n0 leaf ev sub sz m s w hT hW hl hm hs).mono ?_;rintro e w' ⟨rfl,hB⟩;have h1:=xN (leaf:=leaf) hW s.data.toList;rw [show bZ leaf sub=g from funext hg] at h1;refine ⟨_,rfl,h1,fun kk vv ho=> ?_,hB⟩;rcases h1 with ⟨h2,_⟩|⟨p,x,h2,h3,h4,_⟩
 · rw [ho] at h2;cases h2
 rw [ho] at h2;obtain rfl:=Option.some.inj h2;have:=hk p kk vv h4;rw [this];exact ⟨h3,h4⟩
theorem QM (lo bx tb m sz:Nat) (g:gF) (w:World) (h:Trie w lo bx tb m g sz):Calls Tryz.prog 76 #[.pointer (some ⟨tb,0,none⟩)] w fun e w'=>e= .returned (.int .i64 sz)/\w'=w:=by
 obtain ⟨n0,leaf,ev,sub,hT,_⟩:=h;exact f76 tb sz _ w hT.tree
end Go.Proofs.YtjenhelmpcajfaaGreatDoor
