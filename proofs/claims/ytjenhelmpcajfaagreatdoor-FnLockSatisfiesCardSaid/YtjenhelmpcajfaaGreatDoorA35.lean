/- package trees -/
import Derived.Test.YtjenhelmpcajfaaGreatDoorA18
import Derived.Test.YtjenhelmpcajfaaGreatDoorA33
import Derived.Deep.CutBlock
set_option linter.all false
set_option maxRecDepth 100000
set_option maxHeartbeats 4000000
namespace Go.Proofs.YtjenhelmpcajfaaGreatDoor
open Go.Proofs.Tryz Go.RowKit
theorem nO {P:Program} {β:Type} {f:β->Value} {w:World} {m:Nat} {l:List (aa × β)} {ops:Array Oper} {o:Oper} {a:Act} {K:Act->World->Prop} {Q:Exit->Act->World->Prop} {E:Prop} (hgd:o.guard=none) (mo x v:Operand) (t:TypeId) (hop:o.op=Op.mapUpdate t mo x v) (k e:TypeId) (ht:P.underlying t=some (.map k e)) (hk:P.underlying k=some .string)
 (hm:a.eval mo= .map (some m)) (h:ah f w m l) {s:aa} (hx:a.eval x= .string s) {b:β} (hv:a.eval v=f b)
 (hK:∀w',ah f w' m (bN l s b)->w.grownBy w' (some m)->w'.heap.size=w.heap.size->K (a.put o.dst undef) w'):if Region.wanted o (yielded ops a.tmps)=true then Oper.wp P o a w K Q else E:=by
 have hw:Region.wanted o (yielded ops a.tmps)=true:=by simp [Region.wanted,hgd]
 rw [if_pos hw];obtain ⟨w',hrun,h1,h2,h3⟩:=lY ht hk h s b;unfold Oper.wp;simp only [execOp,hop,hm,hx,hv,Sem.run_bind,hrun,Result.andThen,Sem.run_pure,Oper.upon_skip];exact hK w' h1 h2 h3
theorem Sl (w:World):(Instr.makeMap 104 none).run Tryz.prog w= .ok (.map (some w.heap.size)) (w.alloc (.map #[] 0)):=by kernel_rfl
theorem pZ.step {F F':Nat->Prop} {w w':World} {q:Pk} {e:fe} (h:pZ F w q e) (s:dw F w F' w'):pZ F' w' q e:=by
 cases e with
 | bad T x=>exact h
 | good=>exact ⟨h.1,h.2.1,h.2.2.1.step s,h.2.2.2.step s⟩
theorem pZ.less {F F':Nat->Prop} {w:World} {q:Pk} {e:fe} (h:pZ F w q e) (s:∀b,b<w.heap.size->F' b->F b):pZ F' w q e:=by
 cases e with
 | bad T x=>exact h
 | good=>exact ⟨h.1,h.2.1,h.2.2.1.less s,h.2.2.2.less s⟩
structure KU (F:Nat->Prop) (w:World) (pks:List Pk) (l:List (aa × fe)):Prop where
 ent:∀t e,ai l t=some e->∃q∈pks,q.path=t/\pZ F w q e
 all:∀q∈pks,∃e,ai l q.path=some e
theorem KU.step {F F':Nat->Prop} {w w':World} {pks:List Pk} {l:List (aa × fe)} (h:KU F w pks l) (s:dw F w F' w'):KU F' w' pks l:=
 ⟨fun t e he=>by obtain ⟨q,a,b,c⟩:=h.ent t e he;exact ⟨q,a,b,c.step s⟩,h.all⟩
theorem KU.put {F:Nat->Prop} {w:World} {pks:List Pk} {l:List (aa × fe)} (h:KU F w pks l) (q:Pk) (e:fe) (he:pZ F w q e):KU F w (pks++ [q]) (bN l q.path e):=by
 refine ⟨fun t x hx=> ?_,fun m hm=> ?_⟩
 · rw [bk] at hx;split at hx
   · rename_i e1;injection hx with hx
     subst hx;exact ⟨q,by simp,e1,he⟩
   obtain ⟨m,a,b,c⟩:=h.ent t x hx;exact ⟨m,List.mem_append_left _ a,b,c⟩
 rw [bk];split
 · exact ⟨_,rfl⟩
 rcases List.mem_append.1 hm with hm|hm
 · exact h.all m hm
 simp at hm;subst hm;contradiction
theorem Nt (w:World) (o0 o1 o2 o3:Obj):∃W,W=(((w.alloc o0).alloc o1).alloc o2).alloc o3/\W.heap[w.heap.size+1]?=some o1/\W.heap[w.heap.size+1+1]?=some o2/\W.heap[w.heap.size+1+1+1]?=some o3/\W.heap.size=w.heap.size+1+1+1+1/\Below w.heap.size w W:=by
 obtain ⟨W1,h1,h2,h3,h4⟩:=aZ w o0;obtain ⟨W2,i1,i2,i3,i4⟩:=aZ W1 o1;obtain ⟨W3,j1,j2,j3,j4⟩:=aZ W2 o2;obtain ⟨W4,k1,k2,k3,k4⟩:=aZ W3 o3;rw [h3] at i2 i3 i4;rw [i3] at j2 j3 j4;rw [j3] at k2 k3 k4;exact ⟨W4,by rw [k1,j1,i1,h1],(k4.block _ (by omega)).trans ((j4.block _ (by omega)).trans i2),(k4.block _ (by omega)).trans j2,k2,k3,((h4.trans (i4.mono (by omega))).trans (j4.mono (by omega))).trans (k4.mono (by omega))⟩
theorem oL {P:Program} {ops:Array Oper} {rest:List Oper} {o:Oper} {a:Act} {w:World} {Q:Exit->Act->World->Prop} {t:TypeId} {cs old:Array Value} (hgd:o.guard=none) (x y:Operand) (ho:o.op= .store t x y) (g:Nat) (hx:a.eval x= .pointer (some ⟨g,0,none⟩)) (hy:a.eval y= .agg cs)
 (hc:av w g old t) (hi:(P.info? t).map (·.size)=some cs.size) (hold:old.size=cs.size) (h1:cs.all (·.oneCell')=true) (h:∀W,Hid (av W g cs t/\W.heap.size=w.heap.size/\(∀k,k≠g->W.heap[k]?=w.heap[k]?)/\Below g w W)->wpList P ops Q rest (a.put o.dst undef) W):wpList P ops Q (o::rest) a w:=
 wpList_store_row hgd t x y ho g cs hx hy t old hc hi hold h1 (h _ (Y0 ⟨setRow_heap _ _ _ _ _ _ hc,by simp,fun k hk=>setRow_other _ _ _ _ hk,below_setRow (Below.refl _ _) (Nat.le_refl _) _⟩))
theorem uR:(Tryz.prog.info? 106).map (·.size)=some 2:=by kernel_rfl
theorem Nu (r:aa) (m:Option Nat):(#[.string r, .map m]:Array Value).all (·.oneCell')=true:=by
 simp only [List.all_toArray,List.all_cons,List.all_nil,Bool.and_true];rfl
theorem f39 {F:Nat->Prop} (root:aa) (pks:List Pk) (v:Value) (w:World) (hR:Rd pU F w v pks) (hn:pks.length<=1000) (hx:∀q∈pks,q.imps.length<=1000/\q.tests.length<=1000) (hF:∀b,F b->b<w.heap.size):
 Calls Tryz.prog 39 #[.agg #[.string root,v]] w fun e w'=>∃pm PL,e= .returned (.agg #[.string root, .map (some pm)])/\mC F w' pm pks PL/\Below w.heap.size w w':=by
 obtain ⟨A,cap,rfl⟩:=hR.form;have mk:=Sl;have HF:=Y0 hF;have HR:=Y0 hR;have HX:=Y0 hx;clear hF hR hx;obtain ⟨W4,I3,g1,g2,g3,hs4,hB4⟩:=Nt w (.cells #[.string root, .slice A pks.length cap] 29) (.cells #[.string ⟨#[]⟩, .map none] 106) (.map #[] 0) (.cells #[.string root, .map (some (w.heap.size+1+1))] 106);obtain ⟨F1,Ov⟩:∃F1:Nat->Prop,F1=fun b=>F b\/b=w.heap.size+1\/b=w.heap.size+1+1:=⟨_,rfl⟩
 have kv:Hid ((∀b,F b->F1 b)/\F1 (w.heap.size+1+1)/\(∀b,F1 b->b<W4.heap.size)/\(∀b,b<w.heap.size->F1 b->F b)/\F1 (w.heap.size+1)):=Y0 (by
  subst Ov;exact ⟨fun b hb=> .inl hb, .inr (.inr rfl),fun b hb=>by rcases hb with hb|hb|hb;have:=HF.out b hb;omega;omega;omega,fun b hb q=>by rcases q with q|q|q;exact q;omega;omega, .inr (.inl rfl)⟩)
 have C5:Hid (Rd pU F1 W4 (.slice A pks.length cap) pks):=Y0 ((HR.out.less (F':=F1) kv.out.2.2.2.1).pure hB4);have Nv:Hid (ah fe.val W4 (w.heap.size+1+1) []):=Y0 ⟨#[],0,g2,rfl,by simp,by simp,by simp [af]⟩;have HW:=Y5 I3 g1 g3 hs4 hB4;clear I3 g1 g2 g3 hs4 hB4 Ov HR;go_enter func39,ntmps39;go_wp2;clear mk;rw [<-HW.out.1];go_loopw [13] (fun i wr=>∃(k:Nat) (l:List (aa × fe)),i= .int .i64 k/\k<=pks.length/\Hid (ah fe.val wr (w.heap.size+1+1) l/\KU F1 wr (pks.take k) l/\dw F1 W4 F1 wr/\Below w.heap.size w wr/\av wr (w.heap.size+1) #[.string ⟨#[]⟩, .map none] 106/\av wr (w.heap.size+1+1+1) #[.string root, .map (some (w.heap.size+1+1))] 106)) (fun i _=>pks.length - (intOf i).toNat)
 case atStart=>exact ⟨0, [],rfl,by omega,Y0 ⟨Nv.out,⟨fun t e h=>by simp [ai] at h,fun q h=>by simp at h⟩,dw.refl _ _,HW.out.2.2.2.2,HW.out.2.1,HW.out.2.2.1⟩⟩
 obtain ⟨k,l,rfl,hk,H⟩:=hrel;by_cases hlt:k<pks.length
 · have hlt':(k:Int)<(pks.length:Int):=by omega
   obtain ⟨g,off,Ai,ci,At,ct,rfl,hg0,hi,ht,x0,x1,x2,x3,x4⟩:=kS (C5.out.step H.out.2.2.1) hlt;have htk:Hid (pks.take (k+1)=pks.take k++ [pks[k]]):=Y0 (List.take_succ_eq_append_getElem hlt);have UH:=HX.out _ (List.getElem_mem hlt);generalize pks[k]=q at*;have HQ:=Y3 hi ht UH;have hb3:w.heap.size+1+1+1<wr.heap.size:=(Array.getElem?_eq_some_iff.1 H.out.2.2.2.2.2).1;have GL:=Y0 (H.out.2.2.1.lt kv.out.2.2.1);obtain ⟨w5,zy,g5,hs5,bz⟩:=aZ wr (.cells #[.string q.path, .string q.name, .slice Ai q.imps.length ci, .slice At q.tests.length ct, .string q.err] 122);have H5:=Y4 zy g5 hs5 bz
   have hS:Hid (∀W:World,W.heap[w.heap.size+1+1+1]?=w5.heap[w.heap.size+1+1+1]?->W.heap[wr.heap.size]?=w5.heap[wr.heap.size]?->((fun W=>W.cell? ⟨w.heap.size+1+1+1,1,none⟩=some (.map (some (w.heap.size+1+1)))/\W.cell? ⟨wr.heap.size,0,none⟩=some (.string q.path)/\W.cell? ⟨wr.heap.size,1,none⟩=some (.string q.name)/\W.cell? ⟨wr.heap.size,2,none⟩=some (.slice Ai q.imps.length ci)/\W.cell? ⟨wr.heap.size,3,none⟩=some (.slice At q.tests.length ct)/\W.cell? ⟨wr.heap.size,4,none⟩=some (.string q.err))) W):=Y0 fun W h1 h2=>by
    have a1:=h1.trans (aJ H.out.2.2.2.2.2 hb3 bz);have a2:=h2.trans g5;exact ⟨ae a1 rfl,ae a2 rfl,ae a2 rfl,ae a2 rfl,ae a2 rfl,ae a2 rfl⟩
   have c4:w5.cell? ⟨wr.heap.size,4,none⟩=some (.string q.err):=ae g5 rfl;clear hi ht UH zy g5 hs5 bz;cases hq:q.err.toList.isEmpty
   · have Yx:=Y0 hq;go_wp2_with fail;rw [<-H5.out.1];refine wp_region_held_drew (S:=(fun W=>W.cell? ⟨w.heap.size+1+1+1,1,none⟩=some (.map (some (w.heap.size+1+1)))/\W.cell? ⟨wr.heap.size,0,none⟩=some (.string q.path)/\W.cell? ⟨wr.heap.size,1,none⟩=some (.string q.name)/\W.cell? ⟨wr.heap.size,2,none⟩=some (.slice Ai q.imps.length ci)/\W.cell? ⟨wr.heap.size,3,none⟩=some (.slice At q.tests.length ct)/\W.cell? ⟨wr.heap.size,4,none⟩=some (.string q.err))) (by kernel_rfl) ?_ (fun hHeld=> ?_)
     · (try dsimp only)
       first|assumption|exact hS.out _ rfl rfl
     refine ik [0,1,2,3,4,5] ?_;refine kq 6 (fun K hK=> ?_);go_simp;go_at_call 77;refine (f77 _ _).mono ?_;rintro e w6 ⟨⟨em,rfl⟩,eQ⟩;have dS:Hid (Below w5.heap.size w5 w6):=Y0 ((Below.refl _ _).drew.trans eQ);have uS:Hid (Below wr.heap.size wr w6):=Y0 (H5.out.2.2.2.trans (dS.out.mono (by have:=H5.out.2.2.1;omega)));have sx:=hS.out w6 (dS.out.block _ (by have:=H5.out.2.2.1;omega)) (dS.out.block _ (by have:=H5.out.2.2.1;omega));clear eQ;refine hK.out _ _ ?_ (fun hHeld=> ?_)
     · (try dsimp only)
       first|assumption|exact hS.out _ rfl rfl
     clear hK K
     (try simp only [Act.put,aA,aB,aC])
     refine ik [7] ?_;refine kq 8 (fun K hK=> ?_);refine nO (f:=fe.val) (b:=(.bad 253 (.pointer (some ⟨em,0,none⟩)))) (l:=l) rfl _ _ _ 104 rfl _ _ underlying104 underlying9 rfl (H.out.1.pure uS.out) rfl rfl ?_;intro w9 BP jl ki;have H9:=Y3 BP jl ki;have ki:=hS.out w9 ((jl.block _ (by have:=uS.out.size;omega) (by intro e;injection e with e;omega)).trans (dS.out.block _ (by have:=H5.out.2.2.1;omega))) ((jl.block _ (by have:=uS.out.size;have:=dS.out.size;have:=H5.out.2.2.1;omega) (by intro e;injection e with e;omega)).trans (dS.out.block _ (by have:=H5.out.2.2.1;omega)));clear BP jl;refine hK.out _ _ ?_ (fun hHeld=> ?_)
     · (try dsimp only)
       first|assumption|exact hS.out _ rfl rfl
     clear hK K
     (try simp only [Act.put,aA,aB,aC])
     refine ve ?_;have hst:Hid (dw F1 wr F1 w9):=Y0 ((dw.pure uS.out).trans (dw.grown H9.out.2.1 (fun j hj=>by injection hj with hj;subst hj;exact kv.out.2.1)));have hrow:Hid (∀b,b<wr.heap.size->b≠w.heap.size+1+1->w9.heap[b]?=wr.heap[b]?):=Y0 fun b hb hne=>(H9.out.2.1.block _ (Nat.lt_of_lt_of_le hb uS.out.size) (fun e=>hne (by injection e))).trans (uS.out.block _ hb)
     go_wp2;refine ⟨⟨k+1,_,by go_num,by omega,Y0 ⟨H9.out.1,by rw [htk.out];exact ((H.out.2.1.step (.pure uS.out)).put q (.bad 253 (.pointer (some ⟨em,0,none⟩))) (Yx.out)).step (dw.grown H9.out.2.1 (fun j hj=>by injection hj with hj;subst hj;exact kv.out.2.1)),H.out.2.2.1.trans hst.out,(H.out.2.2.2.1.trans (uS.out.mono H.out.2.2.2.1.size)).grown H9.out.2.1 (by have:=uS.out.size;omega) (fun j hj=>by injection hj with hj;omega),(hrow.out _ (by omega) (by omega)).trans H.out.2.2.2.2.1,(hrow.out _ (by omega) (by omega)).trans H.out.2.2.2.2.2⟩⟩,by simp [intOf];omega⟩
   have Yx:=Y0 hq;go_wp2_with fail;rw [<-H5.out.1];refine wp_region_held_drew (S:=(fun W=>W.cell? ⟨w.heap.size+1+1+1,1,none⟩=some (.map (some (w.heap.size+1+1)))/\W.cell? ⟨wr.heap.size,0,none⟩=some (.string q.path)/\W.cell? ⟨wr.heap.size,1,none⟩=some (.string q.name)/\W.cell? ⟨wr.heap.size,2,none⟩=some (.slice Ai q.imps.length ci)/\W.cell? ⟨wr.heap.size,3,none⟩=some (.slice At q.tests.length ct)/\W.cell? ⟨wr.heap.size,4,none⟩=some (.string q.err))) (by kernel_rfl) ?_ (fun hHeld=> ?_)
   · (try dsimp only)
     first|assumption|exact hS.out _ rfl rfl
   refine ik [0,1,2,3,4,5,6,7,8,9,11,12] ?_;refine kq 10 (fun K hK=> ?_);go_simp;go_at_call 38;refine (jb (F:=F1) _ q.imps _ ((HQ.out.1.pure H5.out.2.2.2).pure (Below.refl w5.heap.size w5).drew) (fun b hb=>by have h1:=GL.out b hb;have h2:=H5.out.2.2.1;have h3:=((Below.refl w5.heap.size w5).drew).size;omega) (by have:=HQ.out.2.2;omega)).mono ?_;rintro e w6 ⟨vw6,rfl,Nw,Ny⟩;obtain ⟨Aw6,cw6,rfl⟩:=Nw.form;have mD:=Y2 Nw (((Below.refl w5.heap.size w5).drew).trans (Ny.mono ((Below.refl w5.heap.size w5).drew).size));have aaK:=Y0 Ny;have iH:=hS.out w6 (mD.out.2.block _ (by have:=H5.out.2.2.1;omega)) (mD.out.2.block _ (by have:=H5.out.2.2.1;omega));clear Nw Ny;refine hK.out _ _ ?_ (fun hHeld=> ?_)
   · (try dsimp only)
     first|assumption|exact hS.out _ rfl rfl
   clear hK K
   (try simp only [Act.put,aA,aB,aC])
   refine kq 13 (fun K hK=> ?_);go_simp;go_at_call 38;refine (jb (F:=F1) _ q.tests _ ((HQ.out.2.1.pure H5.out.2.2.2).pure mD.out.2) (fun b hb=>by have h1:=GL.out b hb;have h2:=H5.out.2.2.1;have h3:=(mD.out.2).size;omega) (by have:=HQ.out.2.2;omega)).mono ?_;rintro e w7 ⟨vw7,rfl,Nz,NA⟩;obtain ⟨Aw7,cw7,rfl⟩:=Nz.form;have r7:=Y2 Nz ((mD.out.2).trans (NA.mono (mD.out.2).size));have Yy:=Y0 NA;have Sm:=hS.out w7 (r7.out.2.block _ (by have:=H5.out.2.2.1;omega)) (r7.out.2.block _ (by have:=H5.out.2.2.1;omega));clear Nz NA;have dS:Hid (Below w5.heap.size w5 w7):=Y0 r7.out.2;have uS:Hid (Below wr.heap.size wr w7):=Y0 (H5.out.2.2.2.trans (dS.out.mono (by have:=H5.out.2.2.1;omega)));refine hK.out _ _ ?_ (fun hHeld=> ?_)
   · (try dsimp only)
     first|assumption|exact hS.out _ rfl rfl
   clear hK K
   (try simp only [Act.put,aA,aB,aC])
   refine ik [14,15] ?_;refine kq 16 (fun K hK=> ?_);refine nO (f:=fe.val) (b:=(.good q.name q.path Aw6 q.imps.length cw6 Aw7 q.tests.length cw7)) (l:=l) rfl _ _ _ 104 rfl _ _ underlying104 underlying9 rfl (H.out.1.pure uS.out) rfl rfl ?_;intro w9 BP jl ki;have H9:=Y3 BP jl ki;have ki:=hS.out w9 ((jl.block _ (by have:=uS.out.size;omega) (by intro e;injection e with e;omega)).trans (dS.out.block _ (by have:=H5.out.2.2.1;omega))) ((jl.block _ (by have:=uS.out.size;have:=dS.out.size;have:=H5.out.2.2.1;omega) (by intro e;injection e with e;omega)).trans (dS.out.block _ (by have:=H5.out.2.2.1;omega)));clear BP jl;refine hK.out _ _ ?_ (fun hHeld=> ?_)
   · (try dsimp only)
     first|assumption|exact hS.out _ rfl rfl
   clear hK K
   (try simp only [Act.put,aA,aB,aC])
   refine ve ?_;have hst:Hid (dw F1 wr F1 w9):=Y0 ((dw.pure uS.out).trans (dw.grown H9.out.2.1 (fun j hj=>by injection hj with hj;subst hj;exact kv.out.2.1)));have hrow:Hid (∀b,b<wr.heap.size->b≠w.heap.size+1+1->w9.heap[b]?=wr.heap[b]?):=Y0 fun b hb hne=>(H9.out.2.1.block _ (Nat.lt_of_lt_of_le hb uS.out.size) (fun e=>hne (by injection e))).trans (uS.out.block _ hb)
   go_wp2;refine ⟨⟨k+1,_,by go_num,by omega,Y0 ⟨H9.out.1,by rw [htk.out];exact ((H.out.2.1.step (.pure uS.out)).put q (.good q.name q.path Aw6 q.imps.length cw6 Aw7 q.tests.length cw7) (⟨Yx.out,rfl,mD.out.1.pure Yy.out,r7.out.1⟩)).step (dw.grown H9.out.2.1 (fun j hj=>by injection hj with hj;subst hj;exact kv.out.2.1)),H.out.2.2.1.trans hst.out,(H.out.2.2.2.1.trans (uS.out.mono H.out.2.2.2.1.size)).grown H9.out.2.1 (by have:=uS.out.size;omega) (fun j hj=>by injection hj with hj;omega),(hrow.out _ (by omega) (by omega)).trans H.out.2.2.2.2.1,(hrow.out _ (by omega) (by omega)).trans H.out.2.2.2.2.2⟩⟩,by simp [intOf];omega⟩
 have hlt':¬(k:Int)<(pks.length:Int):=by omega
 have hfin:Hid (KU F1 wr pks l):=Y0 (by have h:=H.out.2.1;rwa [List.take_of_length_le (by omega)] at h);have flag:True:=trivial
 go_wp2_with (first
  | (clear flag;refine wpList_load_row (o:=⟨some 45,_,_,_,_,_⟩) rfl 106 _ rfl (w.heap.size+1+1+1) rfl 106 #[.string root, .map (some (w.heap.size+1+1))] (0,0) _ H.out.2.2.2.2.2 underlying106 rfl uR ?_;have aj:True:=trivial)
  | (clear aj;refine oL (o:=⟨none,Op.store 106 (Operand.tmp 2) (Operand.tmp 45),_,_,_,_⟩) (cs:= #[.string root, .map (some (w.heap.size+1+1))]) (old:= #[.string ⟨#[]⟩, .map none]) rfl _ _ rfl (w.heap.size+1) rfl rfl H.out.2.2.2.2.1 uR rfl (Nu _ _) ?_;intro W6 H6))
 refine bodyPost_ret (df (p:=2) results39 _ W6 (w.heap.size+1) 106 _ (0,0) _ rfl H6.out.1 underlying106 rfl uR) rfl ?_;have hst:Hid (dw F1 wr F1 W6):=Y0 ⟨by rw [H6.out.2.1];exact Nat.le_refl _,fun b _ hb=>H6.out.2.2.1 b (fun e=>hb (e▸kv.out.2.2.2.2)),fun _ h=>h,fun _ _ h=>h,fun h b hb=>by rw [H6.out.2.1];exact h b hb⟩;have hpl:=Y0 (hfin.out.step hst.out);refine ⟨_,rfl,⟨l,⟨H.out.1.keep (H6.out.2.2.1 _ (by omega)),fun t e he=>by obtain ⟨q,a,b,c⟩:=hpl.out.ent t e he;exact ⟨q,a,b,c.less (fun b _ hb=>kv.out.1 b hb)⟩,hpl.out.all⟩⟩,H.out.2.2.2.1.trans (H6.out.2.2.2.mono (by omega))⟩
def NB (w:World) (e:Ending) (w':World):Prop:=(∃b,e= .returned (.bool b))/\Below w.heap.size w w'
theorem dW {w w':World} {e:Ending} {b:Bool} (h:e= .returned (.bool b)) (hb:Below w.heap.size w w'):NB w e w':=⟨⟨b,h⟩,hb⟩
def vL (n:FuncId) (args:Array Value) (w:World):Prop:=Calls Tryz.prog n args w (NB w)
theorem f88 (v:VD) (w:World):vL 88 #[v.val] w:=by
 unfold vL VD.val;go_enter func88,ntmps88;go_wp2
 all_goals
  go_ret;exact dW rfl ((Below.refl _ _).alloc (Nat.le_refl _) _)
theorem f23 {F:Nat->Prop} (v:Value) (xs:List aa) (w:World) (hR:bK F w v xs):vL 23 #[v] w:=by
 obtain ⟨A,cap,rfl⟩:=hR.form;obtain ⟨-,hb1,hb2⟩:=hR.bound;have HR:=Y0 hR;clear hR;unfold vL;go_enter func23,ntmps23;go_wp2
 · go_ret;exact dW rfl (Below.refl _ _)
 go_loop [10] (fun i=>∃k:Nat,i= .int .i64 k/\k<=xs.length) (fun i=>xs.length - (intOf i).toNat)
 case atStart=>exact ⟨0,rfl,by omega⟩
 obtain ⟨k,rfl,hk⟩:=hrel;by_cases hlt:k<xs.length
 · obtain ⟨g,off,rfl,-,hg,hc⟩:=HR.out.at1 hlt;generalize xs[k]=x at*;have hlt':(k:Int)<(xs.length:Int):=by omega
   go_wp2
   · go_ret;exact dW rfl (Below.refl _ _)
   go_round
   case rel=>exact ⟨k+1,by go_num,by omega⟩
   simp [intOf];omega
 have hlt':¬(k:Int)<(xs.length:Int):=by omega
 go_wp2;go_ret;exact dW rfl (Below.refl _ _)
theorem f89 {F:Nat->Prop} (p:Pk) (vi vt:Value) (w:World) (h1:bK F w vi p.imps) (h2:bK F w vt p.tests):vL 89 #[.agg #[.string p.path, .string p.name,vi,vt, .string p.err]] w:=by
 obtain ⟨A,c,rfl⟩:=h1.form;obtain ⟨B,d,rfl⟩:=h2.form;obtain ⟨w1,hw1,g1,hs1,az⟩:=aZ w (.cells #[.string p.path, .string p.name, .slice A p.imps.length c, .slice B p.tests.length d, .string p.err] 122);have H1:=Y0 fun W (h:Below w1.heap.size w1 W)=>f23 (F:=F) (.slice A p.imps.length c) p.imps W ((h1.pure az).pure h)
 have H2:=Y0 fun W (h:Below w1.heap.size w1 W)=>f23 (F:=F) (.slice B p.tests.length d) p.tests W ((h2.pure az).pure h)
 have HW:=Y4 hw1 g1 hs1 az;clear hw1 g1 hs1 az h1 h2;unfold vL at*;have flag:True:=trivial;go_enter func89,ntmps89
 go_wp2_with (first
  | (clear flag;go_at_call 23;rw [<-HW.out.1];refine (H1.out _ (Below.refl _ _)).mono ?_;rintro e w2 ⟨⟨b,rfl⟩,hB⟩;have HB:=Y0 hB;have c3:w2.cell? ⟨w.heap.size,3,none⟩=some (.slice B p.tests.length d):=aK HW.out.2.1 hB _ rfl;clear hB;cases b<;>have aj:True:=trivial)
  | (clear aj;go_at_call 23;refine (H2.out _ HB.out).mono ?_;rintro e w3 ⟨⟨b,rfl⟩,bb⟩;have dK:=Y0 (HB.out.trans (bb.mono HB.out.size));have c4:w3.cell? ⟨w.heap.size,4,none⟩=some (.string p.err):=aK HW.out.2.1 dK.out _ rfl;clear bb;cases b))
 all_goals
  go_ret
  first
  | exact dW rfl (HW.out.2.2.2.trans (dK.out.mono (by have:=HW.out.2.2.1;omega)))
  | exact dW rfl (HW.out.2.2.2.trans (HB.out.mono (by have:=HW.out.2.2.1;omega)))
  | exact dW rfl HW.out.2.2.2
  | exact dW rfl ((Below.refl _ _).alloc (Nat.le_refl _) _)
theorem f50 {F:Nat->Prop} (l:LD) (pv dv:Value) (w:World) (h1:bK F w pv l.pkgs) (h2:Rd IB F w dv l.dig):vL 50 #[.agg (l.arr pv dv)] w:=by
 obtain ⟨A,c,rfl⟩:=h1.form;obtain ⟨B,d,rfl⟩:=h2.form;obtain ⟨w1,hw1,g1,hs1,az⟩:=aZ w (.cells (l.arr (.slice A l.pkgs.length c) (.slice B l.dig.length d)) 55);have H1:=Y0 fun W (h:Below w1.heap.size w1 W)=>f23 (F:=F) (.slice A l.pkgs.length c) l.pkgs W ((h1.pure az).pure h)
 have hC:Hid (∀W,Below w1.heap.size w1 W->∀j x,(l.arr (.slice A l.pkgs.length c) (.slice B l.dig.length d))[j]?=some x->W.cell? ⟨w.heap.size,j,none⟩=some x):=Y0 fun W hW j x hx=>aK g1 hW _ hx
 have H2:=Y0 fun W=>(f88 l.v W:Calls Tryz.prog 88 #[.agg #[.int .i64 l.v.kind, .string l.v.text, .string l.v.rev]] W (NB W))
 have c0:w1.cell? ⟨w.heap.size,0,none⟩=some (.string l.root):=hC.out _ (Below.refl _ _) 0 _ rfl;have c1:w1.cell? ⟨w.heap.size,1,none⟩=some (.string l.src):=hC.out _ (Below.refl _ _) 1 _ rfl;have c2:w1.cell? ⟨w.heap.size,2,none⟩=some (.int .i64 l.v.kind):=hC.out _ (Below.refl _ _) 2 _ rfl;have c3:w1.cell? ⟨w.heap.size,3,none⟩=some (.string l.v.text):=hC.out _ (Below.refl _ _) 3 _ rfl;have c4:w1.cell? ⟨w.heap.size,4,none⟩=some (.string l.v.rev):=hC.out _ (Below.refl _ _) 4 _ rfl;have HW:=Y3 hw1 hs1 az;clear hw1 g1 hs1 az h1 h2;unfold vL at*;have flag:True:=trivial;go_enter func50,ntmps50;go_upto_region 1 with fail;rw [<-HW.out.1]
 go_wp2_with (first
  | (clear flag;go_at_call 88;refine (H2.out _).mono ?_;rintro e w2 ⟨⟨b,rfl⟩,hB⟩;have HB:=Y0 hB;have c5:w2.cell? ⟨w.heap.size,5,none⟩=some (.slice A l.pkgs.length c):=hC.out _ hB 5 _ rfl;clear hB;cases b<;>have aj:True:=trivial)
  | (clear aj;go_at_call 23;refine (H1.out _ HB.out).mono ?_;rintro e w3 ⟨⟨b,rfl⟩,bb⟩;have dK:=Y0 (HB.out.trans (bb.mono HB.out.size));have c9:w3.cell? ⟨w.heap.size,9,none⟩=some (.slice B l.dig.length d):=hC.out _ dK.out 9 _ rfl;clear bb;cases b))
 all_goals
  go_ret
  first
  | exact dW rfl (HW.out.2.2.trans (dK.out.mono (by have:=HW.out.2.1;omega)))
  | exact dW rfl (HW.out.2.2.trans (HB.out.mono (by have:=HW.out.2.1;omega)))
  | exact dW rfl HW.out.2.2
theorem f24 {F:Nat->Prop} (ls:List LD) (v:Value) (w:World) (hR:Rd E0 F w v ls):vL 24 #[v] w:=by
 obtain ⟨A,cap,rfl⟩:=hR.form;obtain ⟨-,hb1,hb2⟩:=hR.bound;have HR:=Y0 hR;clear hR;unfold vL;go_enter func24,ntmps24;go_wp2
 · go_ret;exact dW rfl (Below.refl _ _)
 go_loopw [10] (fun i wr=>∃k:Nat,i= .int .i64 k/\k<=ls.length/\Hid (Below w.heap.size w wr)) (fun i _=>ls.length - (intOf i).toNat)
 case atStart=>exact ⟨0,rfl,by omega,Y0 (Below.refl _ _)⟩
 obtain ⟨k,rfl,hk,H⟩:=hrel;by_cases hlt:k<ls.length
 · have hlt':(k:Int)<(ls.length:Int):=by omega
   obtain ⟨g,off,qv,dv,rfl,hg0,hq,hd,hcells⟩:=xz (HR.out.pure H.out) hlt;have cz:=Y0 (hcells wr rfl);generalize ls[k]=l at*;obtain ⟨QA,qc,rfl⟩:=hq.form;obtain ⟨DA,dc,rfl⟩:=hd.form;have HQ:=Y2 hq hd;clear hcells hq hd;have flag:True:=trivial
   go_wp2_with (first
    | (clear flag;refine bu (o:=⟨some 13,_,_,_,_,_⟩) rfl 55 _ rfl ⟨g,off+k*10,none⟩ rfl (l.arr (.slice QA l.pkgs.length qc) (.slice DA l.dig.length dc)) _ cz.out underlying55 rfl fW ?_;have aj:True:=trivial)
    | (clear aj;refine cu (o:=⟨none,Op.store 55 (Operand.tmp 4) (Operand.tmp 13),_,_,_,_⟩) (cs:=l.arr (.slice QA l.pkgs.length qc) (.slice DA l.dig.length dc)) wr rfl _ _ rfl rfl rfl fW rfl (l.arr_one rfl rfl) ?_;intro W4 H4;have au:True:=trivial)
    | (clear au;refine wpList_load_row (o:=⟨some 14,_,_,_,_,_⟩) rfl 55 _ rfl wr.heap.size rfl 55 (l.arr (.slice QA l.pkgs.length qc) (.slice DA l.dig.length dc)) (0,0) _ H4.out.1 underlying55 rfl fW ?_;have aQ:True:=trivial)
    | (clear aQ;go_at_call 50;refine Calls.mono (f50 (F:=F) l _ _ W4 (HQ.out.1.pure H4.out.2.2) (HQ.out.2.pure H4.out.2.2)) ?_;rintro e w5 ⟨⟨b,rfl⟩,bz⟩;have dS:Hid (Below w.heap.size w w5):=Y0 ((H.out.trans (H4.out.2.2.mono H.out.size)).trans (bz.mono (by have:=H.out.size;have:=H4.out.2.1;omega)));clear bz;cases b))
   · go_ret;exact dW rfl dS.out
   go_roundw
   case rel=>exact ⟨k+1,by go_num,by omega,dS⟩
   simp [intOf];omega
 have hlt':¬(k:Int)<(ls.length:Int):=by omega
 go_wp2;go_ret;exact dW rfl H.out
theorem f51 {F:Nat->Prop} (ls:List Pk) (v:Value) (w:World) (hR:Rd pU F w v ls):vL 51 #[v] w:=by
 obtain ⟨A,cap,rfl⟩:=hR.form;obtain ⟨-,hb1,hb2⟩:=hR.bound;have HR:=Y0 hR;clear hR;unfold vL;go_enter func51,ntmps51;go_wp2
 · go_ret;exact dW rfl (Below.refl _ _)
 go_loopw [10] (fun i wr=>∃k:Nat,i= .int .i64 k/\k<=ls.length/\Hid (Below w.heap.size w wr)) (fun i _=>ls.length - (intOf i).toNat)
 case atStart=>exact ⟨0,rfl,by omega,Y0 (Below.refl _ _)⟩
 obtain ⟨k,rfl,hk,H⟩:=hrel;by_cases hlt:k<ls.length
 · have hlt':(k:Int)<(ls.length:Int):=by omega
   obtain ⟨g,off,Ai,ci,At,ct,rfl,hg0,hi,ht,x0,x1,x2,x3,x4⟩:=kS (HR.out.pure H.out) hlt;generalize ls[k]=q at*;have hb:Below wr.heap.size wr (wr.alloc (.cells #[.string q.path, .string q.name, .slice Ai q.imps.length ci, .slice At q.tests.length ct, .string q.err] 122)):=(Below.refl _ _).alloc (Nat.le_refl _) _;have H89:=Y0 (f89 (F:=F) q _ _ _ (hi.pure hb) (ht.pure hb));have HB:=Y0 hb;clear hi ht hb;go_wp2_with (go_at_call 89;refine Calls.mono H89.out ?_;rintro e w5 ⟨⟨b,rfl⟩,bz⟩;have dS:Hid (Below w.heap.size w w5):=Y0 ((H.out.trans (HB.out.mono H.out.size)).trans (bz.mono (by have:=H.out.size;simp;omega)));clear bz;cases b)
   · go_ret;exact dW rfl dS.out
   go_roundw
   case rel=>exact ⟨k+1,by go_num,by omega,dS⟩
   simp [intOf];omega
 have hlt':¬(k:Int)<(ls.length:Int):=by omega
 go_wp2;go_ret;exact dW rfl H.out
theorem f25 {F:Nat->Prop} (root:aa) (ls:List Pk) (v:Value) (w:World) (hR:Rd pU F w v ls):vL 25 #[.agg #[.string root,v]] w:=by
 obtain ⟨A,cap,rfl⟩:=hR.form;have hb:Below w.heap.size w (w.alloc (.cells #[.string root, .slice A ls.length cap] 29)):=(Below.refl _ _).alloc (Nat.le_refl _) _;have H:=Y0 (f51 ls _ _ (hR.pure hb));clear hR;unfold vL at*;go_enter func25,ntmps25;go_wp2_with (go_at_call 51;refine H.out.mono ?_;rintro e w2 ⟨⟨b,rfl⟩,hB⟩;have HB:=Y0 (hb.trans (hB.mono hb.size));clear hB;cases b)
 all_goals
  go_ret
  first
  | exact dW rfl HB.out
  | exact dW rfl hb
theorem f4 {F:Nat->Prop} (ins:List aa) (ls:List LD) (iv pv:Value) (w:World) (hi:bK F w iv ins) (hp:Rd E0 F w pv ls):vL 4 #[.agg #[iv,pv]] w:=by
 obtain ⟨A,c,rfl⟩:=hi.form;obtain ⟨B,d,rfl⟩:=hp.form;obtain ⟨w1,hw1,g1,hs1,az⟩:=aZ w (.cells #[.slice A ins.length c, .slice B ls.length d] 25);have H1:=Y0 (f23 _ ins w1 (hi.pure az));have H2:=Y0 fun W (h:Below w1.heap.size w1 W)=>f24 (F:=F) ls (.slice B ls.length d) W ((hp.pure az).pure h)
 have HW:=Y4 hw1 g1 hs1 az;clear hw1 g1 hs1 az hi hp;unfold vL at*;go_enter func4,ntmps4
 go_wp2_with (first
  | (go_at_call 23;rw [<-HW.out.1];refine H1.out.mono ?_;rintro e w2 ⟨⟨b,rfl⟩,hB⟩;have HB:=Y0 hB;have c1:w2.cell? ⟨w.heap.size,1,none⟩=some (.slice B ls.length d):=aK HW.out.2.1 hB _ rfl;clear hB;cases b)
  | (go_at_call 24;refine (H2.out _ HB.out).mono ?_;rintro e w3 ⟨⟨b,rfl⟩,bb⟩;have dK:=Y0 (HB.out.trans (bb.mono HB.out.size));clear bb;cases b))
 all_goals
  go_ret
  first
  | exact dW rfl (HW.out.2.2.2.trans (dK.out.mono (by have:=HW.out.2.2.1;omega)))
  | exact dW rfl (HW.out.2.2.2.trans (HB.out.mono (by have:=HW.out.2.2.1;omega)))
theorem f5 {F:Nat->Prop} (A B:Option Addr) (n m c d:Nat) (ig rq:List aa) (vg vq:Value) (root:aa) (pks:List Pk) (pv:Value) (w:World) (hn:n<=9223372036854775807) (hm:m<=9223372036854775807) (hg:bK F w vg ig) (hq:bK F w vq rq) (hp:Rd pU F w pv pks):vL 5 #[.agg #[.slice A n c, .slice B m d,vg,vq, .string root,pv]] w:=by
 obtain ⟨GA,gc,rfl⟩:=hg.form;obtain ⟨QA,qc,rfl⟩:=hq.form;obtain ⟨PA,pc,rfl⟩:=hp.form;obtain ⟨w1,hw1,g1,hs1,az⟩:=aZ w (.cells #[.slice A n c, .slice B m d, .slice GA ig.length gc, .slice QA rq.length qc, .string root, .slice PA pks.length pc] 31);have H1:=Y0 (f23 _ ig w1 (hg.pure az));have H2:=Y0 fun W (h:Below w1.heap.size w1 W)=>f23 (F:=F) (.slice QA rq.length qc) rq W ((hq.pure az).pure h)
 have H3:=Y0 fun W (h:Below w1.heap.size w1 W)=>f25 (F:=F) root pks (.slice PA pks.length pc) W ((hp.pure az).pure h)
 have HW:=Y4 hw1 g1 hs1 az;clear hw1 g1 hs1 az hg hq hp;unfold vL at*;have flag:True:=trivial;go_enter func5,ntmps5
 go_wp2_with (first
  | (clear flag;go_at_call 23;rw [<-HW.out.1];refine H1.out.mono ?_;rintro e w2 ⟨⟨b,rfl⟩,hB⟩;have HB:=Y0 hB;have c3:w2.cell? ⟨w.heap.size,3,none⟩=some (.slice QA rq.length qc):=aK HW.out.2.1 hB _ rfl;clear hB;cases b<;>have aj:True:=trivial)
  | (clear aj;go_at_call 23;refine (H2.out _ HB.out).mono ?_;rintro e w3 ⟨⟨b,rfl⟩,bb⟩;have dK:=Y0 (HB.out.trans (bb.mono HB.out.size));have c4:w3.cell? ⟨w.heap.size,4,none⟩=some (.string root):=aK HW.out.2.1 dK.out _ rfl;have c5:w3.cell? ⟨w.heap.size,5,none⟩=some (.slice PA pks.length pc):=aK HW.out.2.1 dK.out _ rfl;clear bb;cases b)
  | (go_at_call 25;refine (H3.out _ dK.out).mono ?_;rintro e w4 ⟨⟨b,rfl⟩,hB4⟩;have jA:=Y0 (dK.out.trans (hB4.mono dK.out.size));clear hB4;cases b))
 all_goals
  go_ret
  first
  | exact dW rfl (HW.out.2.2.2.trans (jA.out.mono (by have:=HW.out.2.2.1;omega)))
  | exact dW rfl (HW.out.2.2.2.trans (dK.out.mono (by have:=HW.out.2.2.1;omega)))
  | exact dW rfl (HW.out.2.2.2.trans (HB.out.mono (by have:=HW.out.2.2.1;omega)))
  | exact dW rfl HW.out.2.2.2
  | exact dW rfl ((Below.refl _ _).alloc (Nat.le_refl _) _)
end Go.Proofs.YtjenhelmpcajfaaGreatDoor
