/- needs are well formed -/
import Derived.Test.YtjenhelmpcajfaaGreatDoorA36
set_option linter.all false
set_option maxRecDepth 100000
set_option maxHeartbeats 4000000
namespace Go.Proofs.YtjenhelmpcajfaaGreatDoor
open Go.Proofs.Tryz Go.RowKit
theorem f16 {F:Nat->Prop} (ns:List Nd) (v:Value) (w:World) (hR:Rd Dp F w v ns) (hn:ns.length<=1000) (hF:∀b,F b->b<w.heap.size):
 Calls Tryz.prog 16 #[v] w fun e w'=>∃v',e= .returned v'/\bK F w' v' (ns.map (·.root))/\Below w.heap.size w w':=by
 obtain ⟨A,cap,rfl⟩:=hR.form;have HR:=Y0 hR;have HF:=Y0 hF;clear hR hF;go_enter func16,ntmps16;go_wp2;go_loopw [3,8] (fun o i wr=>∃(k:Nat) (F':Nat->Prop),i= .int .i64 k/\k<=ns.length/\Hid (Own aD w.heap.size 9 F' wr o ((ns.take k).map (·.root))/\dw F w F' wr/\Below w.heap.size w wr)) (fun _ i _=>ns.length - (intOf i).toNat)
 case atStart=>exact ⟨0,F,rfl,by omega,Y0 ⟨by simpa using Own.nil aD _ _ _ _,dw.refl _ _,Below.refl _ _⟩⟩
 obtain ⟨k,F',rfl,hk,H⟩:=hrel;obtain ⟨OA,oc,hov⟩:=H.out.1.form;subst hov;have hlen:((ns.take k).map (·.root)).length=k:=by simp;omega
 rw [hlen] at H ⊢;by_cases hlt:k<ns.length
 · have hlt':(k:Int)<(ns.length:Int):=by omega
   obtain ⟨g,off,B,m,c,rfl,hg0,hcells⟩:=xC (HR.out.step (.pure H.out.2.2)) hlt;have cz:=Y0 (hcells wr rfl);have htk:Hid ((ns.take (k+1)).map (·.root)=(ns.take k).map (·.root)++ [ns[k].root]):=Y0 (by rw [List.take_succ_eq_append_getElem hlt,List.map_append];rfl);generalize ns[k]=n at*;have hws:w.heap.size<=wr.heap.size:=H.out.2.2.size;have Mb:=Y0 (H.out.2.1.lt HF.out);clear hcells;have flag:True:=trivial
   go_wp2_with (first
    | (clear flag;refine bu (o:=⟨some 11,_,_,_,_,_⟩) rfl 73 _ rfl ⟨g,off+k*8,none⟩ rfl (n.arr (.slice B m c)) _ cz.out underlying73 rfl fG ?_;have aj:True:=trivial)
    | (clear aj;refine cu (o:=⟨none,Op.store 73 (Operand.tmp 5) (Operand.tmp 11),_,_,_,_⟩) (cs:=n.arr (.slice B m c)) wr rfl _ _ rfl rfl rfl fG rfl (n.arr_one _ _ _) ?_;intro W4 H4;have c0:W4.cell? ⟨wr.heap.size,0,none⟩=some (.string n.root):=ae H4.out.1 rfl;have fZ:Below W4.heap.size W4 (W4.alloc (.cells #[.string n.root] 9)):=(Below.refl _ _).alloc (Nat.le_refl _) _;have rZ:=Y0 ((H.out.1.pure H4.out.2.2).pure fZ);have xB:=Y0 (Rd.one (d:=aD) (F:=F') (w:=W4) (e:=9) (x:=n.root) (cs:= #[.string n.root]) rfl (fun b hb=>Nat.lt_of_lt_of_le (Mb.out b hb) H4.out.2.2.size));have bU:=Y0 fZ;clear fZ;have au:True:=trivial)
    | (clear au;at_builtin;refine aH (o:=⟨some 16,_,_,_,_,_⟩) rfl _ _ 22 rfl aD 9 (.string ⟨#[]⟩) 16 underlying22 eA rfl (by decide) rfl rfl rZ.out xB.out (by rw [hlen];simp [maxLen];omega) (by rw [hlen];simp;omega) (by have:=H4.out.2.1;simp;omega) htk.out.symm (k+1) (by rw [htk.out,List.length_append,hlen];rfl) ?_;intro A8 c8 w8 F8 Bg Bh qh _;have H8:=Y3 Bg Bh qh;clear Bg Bh qh))
   go_roundw
   case rel=>exact ⟨k+1,F8,by go_num,by omega,Y0 ⟨H8.out.1,(H.out.2.1.trans (dw.pure (H4.out.2.2.trans (bU.out.mono H4.out.2.2.size)))).trans H8.out.2.1,(H.out.2.2.trans ((H4.out.2.2.trans (bU.out.mono H4.out.2.2.size)).mono hws)).trans H8.out.2.2⟩⟩
   simp [intOf];omega
 have hlt':¬(k:Int)<(ns.length:Int):=by omega
 have hkl:Hid ((ns.take k).map (·.root)=ns.map (·.root)):=Y0 (by rw [List.take_of_length_le (by omega)]);have yE:=Y0 (H.out.1.rd (F0:=F) (fun b hb=>HF.out b hb) (fun b hb=>H.out.2.1.grow b hb) (by decide));go_wp2;go_ret;exact ⟨_,rfl,by rw [<-hkl.out];exact yE.out,H.out.2.2⟩
def CD.arr (c:CD) (pv:Value):Array Value:= #[.int .i64 c.kind, .string c.text, .int .i64 c.v.kind, .string c.v.text, .string c.v.rev,pv]
abbrev KX:CD:=⟨0,⟨#[]⟩,⟨0,⟨#[]⟩,⟨#[]⟩⟩⟩
theorem CD.arr_one (c:CD) (A:Option Addr) (m d:Nat):(c.arr (.slice A m d)).all (·.oneCell')=true:=by simp [CD.arr,Value.oneCell']
theorem mE:(Tryz.prog.info? 58).map (·.size)=some 6:=by kernel_rfl
theorem YF {n:Nd} {pv v:Value} {j:Nat} (h:(n.c.arr pv)[j]?=some v):(n.arr pv)[2+j]?=some v:=by
 rcases j with _|_|_|_|_|_|j
 · exact h
 · exact h
 · exact h
 · exact h
 · exact h
 · exact h
 simp [CD.arr] at h
theorem Ju (ns:List Nd) (s:aa) (k:Nat) (h:k<ns.length):bI (ns.drop k) s=if ns[k].root=s then some ns[k] else bI (ns.drop (k+1)) s:=by
 rw [List.drop_eq_getElem_cons h];rfl
def Jv (o:Option Nd) (e:Ending):Prop:=∃(c:CD) (A:Option Addr) (m d:Nat),e= .returned (.tuple #[.agg (c.arr (.slice A m d)), .bool o.isSome])/\∀n,o=some n->c=n.c
theorem f17 {F:Nat->Prop} (ns:List Nd) (v:Value) (s:aa) (w:World) (hR:Rd Dp F w v ns) (hn:ns.length<=1000):
 Calls Tryz.prog 17 #[v, .string s] w fun e w'=>Jv (bI ns s) e/\Below w.heap.size w w':=by
 obtain ⟨A,cap,rfl⟩:=hR.form;obtain ⟨w1,hw1,g1,hs1,az⟩:=aZ w (.cells (KX.arr (.slice none 0 0)) 58);have HR:=Y0 hR;have HW:=Y4 hw1 g1 hs1 az;clear hR hw1 g1 hs1 az;go_enter func17,ntmps17;go_wp2;rw [show w.alloc (.cells #[.int .i64 0, .string ⟨#[]⟩, .int .i64 0, .string ⟨#[]⟩, .string ⟨#[]⟩, .slice none 0 0] 58)=w1 from HW.out.1.symm];go_loopw [10] (fun i wr=>∃(k:Nat),i= .int .i64 k/\k<=ns.length/\Hid (av wr w.heap.size (KX.arr (.slice none 0 0)) 58/\Below w1.heap.size w1 wr/\bI ns s=bI (ns.drop k) s)) (fun i _=>ns.length - (intOf i).toNat)
 case atStart=>exact ⟨0,rfl,by omega,Y0 ⟨HW.out.2.1,Below.refl _ _,rfl⟩⟩
 obtain ⟨k,rfl,hk,H⟩:=hrel;have gI:Hid (Below w.heap.size w wr):=Y0 (HW.out.2.2.2.trans (H.out.2.1.mono (by have:=HW.out.2.2.1;omega)));have hsw:w.heap.size<wr.heap.size:=by have:=HW.out.2.2.1;have:=H.out.2.1.size;omega
 by_cases hlt:k<ns.length
 · have hlt':(k:Int)<(ns.length:Int):=by omega
   obtain ⟨g,off,B,m,c,rfl,hg0,hcells⟩:=xC (HR.out.step (.pure gI.out)) hlt;have cz:=Y0 (hcells wr rfl);have hst:=Y0 (H.out.2.2.trans (Ju ns s k hlt));generalize ns[k]=n at*;clear hcells;have flag:True:=trivial;cases he:(n.root.toList==s.toList)
   · have hs:¬n.root=s:=by rwa [bS,decide_eq_false_iff_not] at he
     rw [if_neg hs] at hst;clear hs
     go_wp2_with (first
      | (clear flag;refine bu (o:=⟨some 13,_,_,_,_,_⟩) rfl 73 _ rfl ⟨g,off+k*8,none⟩ rfl (n.arr (.slice B m c)) _ cz.out underlying73 rfl fG ?_;have aj:True:=trivial)
      | (clear aj;refine cu (o:=⟨none,Op.store 73 (Operand.tmp 7) (Operand.tmp 13),_,_,_,_⟩) (cs:=n.arr (.slice B m c)) wr rfl _ _ rfl rfl rfl fG rfl (n.arr_one _ _ _) ?_;intro W4 H4;have c0:W4.cell? ⟨wr.heap.size,0,none⟩=some (.string n.root):=ae H4.out.1 rfl;have au:True:=trivial))
     go_roundw
     case rel=>exact ⟨k+1,by go_num,by omega,Y0 ⟨(H4.out.2.2.block _ hsw).trans H.out.1,H.out.2.1.trans (H4.out.2.2.mono H.out.2.1.size),hst.out⟩⟩
     simp [intOf];omega
   have hs:n.root=s:=by rwa [bS,decide_eq_true_eq] at he
   rw [if_pos hs] at hst;clear hs
   go_wp2_with (first
    | (clear flag;refine bu (o:=⟨some 13,_,_,_,_,_⟩) rfl 73 _ rfl ⟨g,off+k*8,none⟩ rfl (n.arr (.slice B m c)) _ cz.out underlying73 rfl fG ?_;have aj:True:=trivial)
    | (clear aj;refine cu (o:=⟨none,Op.store 73 (Operand.tmp 7) (Operand.tmp 13),_,_,_,_⟩) (cs:=n.arr (.slice B m c)) wr rfl _ _ rfl rfl rfl fG rfl (n.arr_one _ _ _) ?_;intro W4 H4;have c0:W4.cell? ⟨wr.heap.size,0,none⟩=some (.string n.root):=ae H4.out.1 rfl;have au:True:=trivial)
    | (clear au;refine bu (o:=⟨some 19,_,_,_,_,_⟩) rfl 58 _ rfl ⟨wr.heap.size,2,none⟩ rfl (n.c.arr (.slice B m c)) _ (fun j v hj=>by rw [Mr];exact ae H4.out.1 (YF hj)) underlying58 rfl mE ?_;have aQ:True:=trivial)
    | (clear aQ;refine s9 (o:=⟨none,Op.store 58 (Operand.tmp 4) (Operand.tmp 19),_,_,_,_⟩) (cs:=n.c.arr (.slice B m c)) (old:=KX.arr (.slice none 0 0)) rfl _ _ rfl w.heap.size rfl rfl ((H4.out.2.2.block _ hsw).trans H.out.1) mE rfl (n.c.arr_one _ _ _) ?_;intro W5 H5))
   refine bodyPost_ret (gU (p:=4) (q:=5) results17 _ W5 w.heap.size 58 (n.c.arr (.slice B m c)) (0,0) _ rfl H5.out.1 underlying58 rfl mE) rfl ?_;exact ⟨⟨n.c,B,m,c,by rw [hst.out];rfl,fun x hx=>by rw [hst.out] at hx;rw [Option.some.inj hx]⟩,gI.out.trans ((H4.out.2.2.mono (Nat.le_of_lt hsw)).trans H5.out.2.2)⟩
 have hlt':¬(k:Int)<(ns.length:Int):=by omega
 have hfin:Hid (bI ns s=none):=Y0 (by rw [H.out.2.2,List.drop_eq_nil_of_le (by omega)];rfl);go_wp2_with (refine s9 (o:=⟨none,Op.store 58 (Operand.tmp 4) (Operand.tmp 21),_,_,_,_⟩) (cs:=KX.arr (.slice none 0 0)) (old:=KX.arr (.slice none 0 0)) rfl _ _ rfl w.heap.size rfl rfl H.out.1 mE rfl (CD.arr_one _ _ _ _) ?_;intro W5 H5);refine bodyPost_ret (gU (p:=4) (q:=5) results17 _ W5 w.heap.size 58 (KX.arr (.slice none 0 0)) (0,0) _ rfl H5.out.1 underlying58 rfl mE) rfl ?_;exact ⟨⟨KX,none,0,0,by rw [hfin.out];rfl,fun x hx=>by rw [hfin.out] at hx;cases hx⟩,gI.out.trans H5.out.2.2⟩
structure Jw (n:Nd):Prop where
 path:aV n.root=true
 ok:n.c.Ok
structure NG (n:Nd):Prop where
 z1:n.root.size<=140737488351232
 z2:n.c.v.text.size<=140737488351232
 z3:n.c.v.rev.size<=140737488351232
structure gB (ns:List Nd) (k:Nat):Prop where
 one:∀n∈ns.take k,Jw n
 two:∀a b,(h:a<b)->(hk:b<k)->(hb:b<ns.length)->(ns[b]'hb).root≠(ns[a]'(by omega)).root
theorem gB.zero (ns:List Nd):gB ns 0:=⟨fun l h=>by simp at h,fun a b _ h=>by omega⟩
theorem gB.next {ns:List Nd} {k:Nat} (h:gB ns k) (hk:k<ns.length) (h1:Jw ns[k]) (h2:∀a,(h:a<k)->(ns[k]'hk).root≠(ns[a]'(by omega)).root):gB ns (k+1) where
 one:=fun l hl=>by
  rw [List.take_succ_eq_append_getElem hk,List.mem_append] at hl;rcases hl with hl|hl
  · exact h.one l hl
  simp at hl;rw [hl];exact h1
 two:=fun a b hab hb hbl=>by
  by_cases e:b<k
  · exact h.two a b hab e hbl
  have:b=k:=by omega
  subst this;exact h2 a hab
structure fJ (ns:List Nd):Prop where
 n:ns.length<=6
 one:∀n∈ns,Jw n
 nd:(ns.map (·.root)).Nodup
theorem gB.done {ns:List Nd} (h:gB ns ns.length) (hn:ns.length<=6):fJ ns:=⟨hn,fun l hl=>h.one l (by simpa using hl),by
 unfold List.Nodup;rw [List.pairwise_iff_getElem];intro i j hi hj hij;rw [List.getElem_map,List.getElem_map];intro e;rw [List.length_map] at hj;exact h.two i j hij hj hj e.symm⟩
def Gi (ns:List Nd) (w:World) (e:Ending) (w':World):Prop:=∃b,e= .returned (.bool b)/\(b=true->fJ ns)/\Below w.heap.size w w'
theorem rS {ns:List Nd} {w w':World} {e:Ending} (h:e= .returned (.bool false)) (hb:Below w.heap.size w w'):Gi ns w e w':=⟨false,h,fun h=>(by cases h),hb⟩
theorem Jx {ns:List Nd} {w w':World} {e:Ending} (h:e= .returned (.bool true)) (hl:fJ ns) (hb:Below w.heap.size w w'):Gi ns w e w':=⟨true,h,fun _=>hl,hb⟩
theorem Jy (ok a b:Bool) (s t:aa) (w:World):(Instr.field 76 (.agg #[.bool ok, .string s, .string t, .bool a, .bool b]) 0).run Tryz.prog w= .ok (.bool ok) w:=by kernel_rfl
theorem tP {v:VD} (h:fY v=true):v.text.size<=40/\v.rev.size<=40:=by
 unfold fY at h;rw [decide_eq_true_eq] at h;omega
theorem f9 {F:Nat->Prop} (ns:List Nd) (v:Value) (w:World) (hR:Rd Dp F w v ns) (hz:∀n∈ns,NG n) (hg:Gl w):
 Calls Tryz.prog 9 #[v] w (Gi ns w):=by
 obtain ⟨A,cap,rfl⟩:=hR.form;obtain ⟨-,hb1,hb2⟩:=hR.bound;have HR:=Y0 hR;have HZ:=Y0 hz;have HG:=Y0 hg;have aaL:=Jy;clear hR hz hg;go_enter func9,ntmps9;by_cases hn:(ns.length:Int)>6
 · go_wp2;go_ret;exact rS rfl (Below.refl _ _)
 go_upto_region 3 with fail;go_wp2;go_loopw [12] (fun i wr=>∃k:Nat,i= .int .i64 k/\k<=ns.length/\Hid (Below w.heap.size w wr/\gB ns k)) (fun i _=>ns.length - (intOf i).toNat)
 case atStart=>exact ⟨0,rfl,by omega,Y0 ⟨Below.refl _ _, .zero _⟩⟩
 obtain ⟨k,rfl,hk,H⟩:=hrel;by_cases hlt:k<ns.length
 · have hlt':(k:Int)<(ns.length:Int):=by omega
   obtain ⟨g,off,B,m,c,rfl,hg0,hcells⟩:=xC (HR.out.pure H.out.1) hlt;have cz:=Y0 (hcells wr rfl);have Az:=Y0 (HZ.out _ (List.getElem_mem hlt));have HN:=Y0 (H.out.2.next hlt);generalize ns[k]=n at*;clear hcells;have HGr:=Y0 (HG.out.pure H.out.1);have hws:w.heap.size<=wr.heap.size:=H.out.1.size;have UI:=Y0 fun W=>(f30 n.c.v W Az.out.z2 Az.out.z3:Calls Tryz.prog 30 #[.agg #[.int .i64 n.c.v.kind, .string n.c.v.text, .string n.c.v.rev]] W _)
   have H31:=Y0 fun W (h:n.c.Ok) (hg:Gl W)=>(f31 n.c B 0 c W h hg:Calls Tryz.prog 31 #[.agg #[.int .i64 n.c.kind, .string n.c.text, .int .i64 n.c.v.kind, .string n.c.v.text, .string n.c.v.rev, .slice B 0 c]] W _)
   have flag:True:=trivial;cases hk4:(n.c.kind==(4:Int))
   all_goals
    go_wp2_with (first
     | (clear flag;refine bu (o:=⟨some 16,_,_,_,_,_⟩) rfl 73 _ rfl ⟨g,off+k*8,none⟩ rfl (n.arr (.slice B m c)) _ cz.out underlying73 rfl fG ?_;have aj:True:=trivial)
     | (clear aj;refine cu (o:=⟨none,Op.store 73 (Operand.tmp 4) (Operand.tmp 16),_,_,_,_⟩) (cs:=n.arr (.slice B m c)) wr rfl _ _ rfl rfl rfl fG rfl (n.arr_one _ _ _) ?_;intro W4 H4;have jA:=Y0 (H.out.1.trans (H4.out.2.2.mono hws));have c0:W4.cell? ⟨wr.heap.size,0,none⟩=some (.string n.root):=ae H4.out.1 rfl;have c1:W4.cell? ⟨wr.heap.size,1,none⟩=some (.string n.src):=ae H4.out.1 rfl;have c2:W4.cell? ⟨wr.heap.size,2,none⟩=some (.int .i64 n.c.kind):=ae H4.out.1 rfl;have c3:W4.cell? ⟨wr.heap.size,3,none⟩=some (.string n.c.text):=ae H4.out.1 rfl;have c4:W4.cell? ⟨wr.heap.size,4,none⟩=some (.int .i64 n.c.v.kind):=ae H4.out.1 rfl;have c5:W4.cell? ⟨wr.heap.size,5,none⟩=some (.string n.c.v.text):=ae H4.out.1 rfl;have c6:W4.cell? ⟨wr.heap.size,6,none⟩=some (.string n.c.v.rev):=ae H4.out.1 rfl;have c7:W4.cell? ⟨wr.heap.size,7,none⟩=some (.slice B m c):=ae H4.out.1 rfl;have au:True:=trivial)
     | (clear au;go_at_call 29;refine (f29 n.root W4 Az.out.z1).mono ?_;rintro e w' ⟨rfl,GW⟩;rw [GW];clear GW;cases hp:aV n.root<;>have aQ:True:=trivial)
     | (clear aQ;go_at_call 30;refine (UI.out W4).mono ?_;rintro e w5 ⟨rfl,bz⟩;have dS:=Y0 (jA.out.trans (bz.mono (by have:=H4.out.2.1;omega)));have NH:=Y0 bz;have d2:w5.cell? ⟨wr.heap.size,2,none⟩=some (.int .i64 n.c.kind):=aK H4.out.1 bz _ rfl;have d3:w5.cell? ⟨wr.heap.size,3,none⟩=some (.string n.c.text):=aK H4.out.1 bz _ rfl;have d4:w5.cell? ⟨wr.heap.size,4,none⟩=some (.int .i64 n.c.v.kind):=aK H4.out.1 bz _ rfl;have d5:w5.cell? ⟨wr.heap.size,5,none⟩=some (.string n.c.v.text):=aK H4.out.1 bz _ rfl;have d6:w5.cell? ⟨wr.heap.size,6,none⟩=some (.string n.c.v.rev):=aK H4.out.1 bz _ rfl;have d7:w5.cell? ⟨wr.heap.size,7,none⟩=some (.slice B m c):=aK H4.out.1 bz _ rfl;clear bz;cases hv:fY n.c.v<;>have cf:True:=trivial)
     | (clear cf;go_at_call 31;have hok:n.c.Ok:=⟨by omega,by omega,by omega,fun h4=>by exact tP hv⟩;refine (H31.out w5 hok (HG.out.pure dS.out)).mono ?_;rintro e w6 ⟨⟨s1,s2,b1,b2,rfl⟩,eQ⟩;have SD:Hid (Below W4.heap.size W4 w6):=Y0 (NH.out.trans (eQ.mono NH.out.size));have bU:=Y0 (jA.out.trans (SD.out.mono (by have:=H4.out.2.1;omega)));have dU:=Y0 hok;clear eQ hok;cases YG:n.c.g.2)
     | (clear aQ;go_at_call 31;have hok:n.c.Ok:=⟨by omega,by omega,by omega,fun h4=>by rw [h4] at hk4;simp at hk4⟩;refine (H31.out W4 hok (HG.out.pure jA.out)).mono ?_;rintro e w6 ⟨⟨s1,s2,b1,b2,rfl⟩,eQ⟩;have SD:Hid (Below W4.heap.size W4 w6):=Y0 (eQ);have bU:=Y0 (jA.out.trans (SD.out.mono (by have:=H4.out.2.1;omega)));have dU:=Y0 hok;clear eQ hok;cases YG:n.c.g.2))
   all_goals first
    | (go_ret;exact rS rfl bU.out)
    | (go_ret;exact rS rfl dS.out)
    | (go_ret;exact rS rfl jA.out)
    | skip
   all_goals
    have HA:=Y0 fun W (h:Below w6.heap.size w6 W)=>(show W.cell? ⟨wr.heap.size,0,none⟩=some (.string n.root) from aK H4.out.1 (SD.out.trans (h.mono SD.out.size)) _ rfl)
    have YH:Hid (Jw n):=Y0 ⟨hp,dU.out⟩
    try clear c0 c1 c2 c3 c4 c5 c6 c7
    try clear d2 d3 d4 d5 d6 d7
    go_loopw [76] (fun i wr2=>∃j:Nat,i= .int .i64 j/\j<=k/\Hid (Below w6.heap.size w6 wr2/\∀a,(h:a<j)->(hb:a<ns.length)->n.root≠(ns[a]'hb).root)) (fun i _=>k - (intOf i).toNat)
    case atStart=>exact ⟨0,rfl,by omega,Y0 ⟨Below.refl _ _,fun a h=>by omega⟩⟩
    case round=>
     obtain ⟨j,rfl,hj,J⟩:=hrel;have Dx:Hid (Below w.heap.size w wr):=Y0 (bU.out.trans (J.out.1.mono bU.out.size));by_cases lR:j<k
     · have lK:(j:Int)<(k:Int):=by omega
       have hjl:j<ns.length:=by omega
       obtain ⟨g2,mh,B2,m2,UM,he,hg2,iU⟩:=xC (HR.out.pure Dx.out) hjl;obtain ⟨rfl,rfl⟩:g2=g/\mh=off:=by simp at he;exact ⟨he.1.symm,he.2.symm⟩
       have gb:=Y0 (iU wr rfl)
       have HJ:=Y0 (show ∀r,r=ns[j].root->n.root≠r->∀a,(h:a<j+1)->(hb:a<ns.length)->n.root≠(ns[a]'hb).root from fun r hr hne a ha hb=>by
        by_cases e:a<j
        · exact J.out.2 a e hb
        have:a=j:=by omega
        subst this;rw [<-hr];exact hne)
       obtain ⟨m,hm⟩:∃m,m=ns[j]:=⟨_,rfl⟩;rw [<-hm] at gb HJ;clear iU hm he;have flag:True:=trivial;cases vU:(m.root.toList==n.root.toList)
       · have hne:n.root≠m.root:=by
          rw [bS,decide_eq_false_iff_not] at vU;exact fun e=>vU e.symm
         have ZQ:=Y0 hne;clear hne
         go_wp2_with (first
          | (clear flag;refine bu (o:=⟨some 79,_,_,_,_,_⟩) rfl 73 _ rfl ⟨g2,mh+j*8,none⟩ rfl (m.arr (.slice B2 m2 UM)) _ gb.out underlying73 rfl fG ?_;have aj:True:=trivial)
          | (clear aj;refine cu (o:=⟨none,Op.store 73 (Operand.tmp 6) (Operand.tmp 79),_,_,_,_⟩) (cs:=m.arr (.slice B2 m2 UM)) wr rfl _ _ rfl rfl rfl fG rfl (m.arr_one _ _ _) ?_;intro W7 H7;have HA7:=HA.out W7 (J.out.1.trans (H7.out.2.2.mono J.out.1.size));have HM7:W7.cell? ⟨wr.heap.size,0,none⟩=some (.string m.root):=ae H7.out.1 rfl))
         go_roundw
         case rel=>exact ⟨j+1,by go_num,by omega,Y0 ⟨J.out.1.trans (H7.out.2.2.mono J.out.1.size),HJ.out _ rfl ZQ.out⟩⟩
         simp [intOf];omega
       go_wp2_with (first
        | (clear flag;refine bu (o:=⟨some 79,_,_,_,_,_⟩) rfl 73 _ rfl ⟨g2,mh+j*8,none⟩ rfl (m.arr (.slice B2 m2 UM)) _ gb.out underlying73 rfl fG ?_;have aj:True:=trivial)
        | (clear aj;refine cu (o:=⟨none,Op.store 73 (Operand.tmp 6) (Operand.tmp 79),_,_,_,_⟩) (cs:=m.arr (.slice B2 m2 UM)) wr rfl _ _ rfl rfl rfl fG rfl (m.arr_one _ _ _) ?_;intro W7 H7;have HA7:=HA.out W7 (J.out.1.trans (H7.out.2.2.mono J.out.1.size));have HM7:W7.cell? ⟨wr.heap.size,0,none⟩=some (.string m.root):=ae H7.out.1 rfl))
       go_ret;exact rS rfl (Dx.out.trans (H7.out.2.2.mono Dx.out.size))
     have lK:¬(j:Int)<(k:Int):=by omega
     have hjk:j=k:=by omega
     subst hjk;go_wp2;go_roundw
     case rel=>exact ⟨j+1,by go_num,by omega,Y0 ⟨Dx.out,HN.out YH.out (fun a h=>J.out.2 a h (by omega))⟩⟩
     simp [intOf];omega
 have hlt':¬(k:Int)<(ns.length:Int):=by omega
 have hk2:k=ns.length:=by omega
 subst hk2;go_wp2;go_ret;exact Jx rfl (H.out.2.done (by omega)) H.out.1
end Go.Proofs.YtjenhelmpcajfaaGreatDoor
