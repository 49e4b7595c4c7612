/- the parts of a version are read and compared -/
import Derived.Test.YtjenhelmpcajfaaGreatDoorA03
set_option linter.all false
set_option maxRecDepth 100000
set_option maxHeartbeats 4000000
namespace Go.Proofs.YtjenhelmpcajfaaGreatDoor
open Go.Proofs.Tryz Go.RowKit
theorem f166 (s:aa) (w:World) (hs:s.size<=140737488351232):
 Calls Tryz.prog 166 #[.string s] w fun e w'=>e= .returned (.string (di s))/\w'=w:=by
 go_enter func166,ntmps166;go_wp2;go_loop [0] (fun t=>∃r:aa,t= .string r/\r.size<=s.size/\Hid (mV s=mV r)) (fun t=>AW t)
 case atStart=>exact ⟨s,rfl,Nat.le_refl _,Y0 rfl⟩
 obtain ⟨r,rfl,hr,H⟩:=hrel;have hst:=Y0 (zf r);have hemp:=Y0 (isEmpty_iff r);cases hh:fK r 32
 · have hx:Hid (mV s=r):=Y0 (by rw [H.out,hst.out,hh];rfl);have HH:=Y0 hh;clear hh hst H;by_cases h0:r.size=0
   · have hq:r.toList.isEmpty=true:=by rw [hemp.out];simpa using h0
     have hx2:Hid (di s=r):=Y0 (by unfold di;rw [hx.out,qM,wu h0];rfl);go_wp2;go_loop [0] (fun t=>t= .string r) (fun t=>0)
     case atStart=>rfl
     subst hrel;go_wp2;go_ret;exact ⟨by rw [hx2.out];first|done|rfl,rfl⟩
   have hq:r.toList.isEmpty=false:=by rw [hemp.out];simpa using h0
   have h1:0<r.size:=by omega
   have h2:((r[0].toNat:Int)==32)=false:=by
    have:=HH.out;rw [jG h1] at this;simp at this ⊢;omega
   go_wp2;go_loop [0] (fun t=>∃q:aa,t= .string q/\q.size<=s.size/\Hid (di s=sU q)) (fun t=>AW t)
   case atStart=>exact ⟨r,rfl,hr,Y0 (by unfold di;rw [hx.out])⟩
   clear h2 hq h0;obtain ⟨q,rfl,Ph,HQ⟩:=hrel;have kx:=Y0 (qM q);have D4:=Y0 (isEmpty_iff q);cases hl:jF q 32
   · have hx3:Hid (di s=q):=Y0 (by rw [HQ.out,kx.out,hl];rfl);have HL:=Y0 hl;clear hl;by_cases h0:q.size=0
     · have hq:q.toList.isEmpty=true:=by rw [D4.out];simpa using h0
       go_wp2;go_ret;exact ⟨by rw [hx3.out];first|done|rfl,rfl⟩
     have hq:q.toList.isEmpty=false:=by rw [D4.out];simpa using h0
     have h1:0<q.size:=by omega
     have h2:((q[q.size - 1].toNat:Int)==32)=false:=by
      have:=HL.out;rw [sW h1] at this;simp at this ⊢;omega
     go_wp2;go_ret;exact ⟨by rw [hx3.out];first|done|rfl,rfl⟩
   have h1:=qK hl;have h0:¬q.size=0:=by omega
   have hx3:Hid (di s=sU (vV q)):=Y0 (by rw [HQ.out,kx.out,hl];rfl);have hq:q.toList.isEmpty=false:=by rw [D4.out];simpa using h0
   have h2:((q[q.size - 1].toNat:Int)==32)=true:=by
    rw [sW h1] at hl;simp at hl ⊢;omega
   clear hl;go_wp2;have hsz:=nX q;unfold vV at hsz;go_round
   case rel=>exact ⟨vV q,rfl,by unfold vV;omega,hx3⟩
   simp [AW];omega
 have h1:=jn hh;have h0:¬r.size=0:=by omega
 have hx3:Hid (mV s=mV (bR r)):=Y0 (by rw [H.out,hst.out,hh];rfl);have hq:r.toList.isEmpty=false:=by rw [hemp.out];simpa using h0
 have h2:((r[0].toNat:Int)==32)=true:=by
  rw [jG h1] at hh;simp at hh ⊢;omega
 clear hh;go_wp2;have hsz:=cw r;unfold bR at hsz;go_round
 case rel=>exact ⟨bR r,rfl,by unfold bR;omega,hx3⟩
 simp [AW];omega
theorem f190 (s:aa) (w:World) (hs:s.size<=140737488351232):
 Calls Tryz.prog 190 #[.string s] w fun e w'=>e= .returned (.bool (plain s))/\w'=w:=by
 go_enter func190,ntmps190;go_wp2;go_loop [3] (fun i=>∃k:Nat,i= .int .i64 k/\k<=s.size/\Hid ((s.data.toList.take k).all Oc=true)) (fun i=>s.size - (intOf i).toNat)
 case atStart=>exact ⟨0,rfl,by omega,Y0 rfl⟩
 obtain ⟨k,rfl,hk,H⟩:=hrel;by_cases hlt:k<s.size
 · have hst:=Y0 (iY s Oc k hlt);have hno:=Y0 (jD s Oc k hlt);go_wp2
   all_goals (try simp only [bne_iff_ne,bne_eq_false_iff_eq,ne_eq] at*)
   all_goals first
    | (have hd:¬Lv s[k].toNat:=by unfold Lv;omega
       go_ret;refine ⟨aq ?_,rfl⟩;unfold plain
       rw [hno.out (by unfold Oc;simpa using hd)])
    | (have hd:Lv s[k].toNat:=by unfold Lv;omega
       go_round
       case rel=>exact ⟨k+1,by go_num,by omega,Y0 (by rw [hst.out,H.out];unfold Oc;simpa using hd)⟩
       simp [intOf];omega)
 have hk2:k=s.size:=by omega
 subst hk2;have h:=H.out;rw [iZ] at h;have HA:=Y0 h;clear h;go_wp2;go_ret;exact ⟨aq HA.out.symm,rfl⟩
theorem Vc (v:SV):v.after 1=⟨(v.a+1) % 18446744073709551616,0,0,⟨#[]⟩,⟨#[]⟩,⟨#[]⟩⟩:=rfl
def SV.val (v:SV):Value:= .agg #[.int .u64 v.a, .int .u64 v.b, .int .u64 v.c, .string v.pr, .string v.mt, .string v.og]
theorem aae (w:World):(zeroValue 264).run Tryz.prog w= .ok SV.zero.val w:=by kernel_rfl
theorem D5 (n:Nat):IntKind.u64.wrap ((n:Int)+1)=(((n+1) % 18446744073709551616:Nat):Int):=by
 rw [IntKind.wrap_u64];omega
theorem f177 (v:SV) (n:Nat) (w:World) (hn:n<=3):
 Calls Tryz.prog 177 #[v.val, .int .i64 n] w fun e w'=>e= .returned (v.after n).val/\Below w.heap.size w w':=by
 obtain ⟨a,b,c,pr,mt,og⟩:=v;simp only [SV.val];have ha:=D5 a;have hb:=D5 b;have hc:=D5 c;rcases (show n=1\/n=2\/(n≠1/\n≠2) by omega) with rfl|rfl|⟨h1,h2⟩
 · go_enter func177,ntmps177;go_wp2;exact bodyPost_ret (v:= .agg #[.int .u64 (((a+1) % 18446744073709551616:Nat):Int), .int .u64 0, .int .u64 0, .string ⟨#[]⟩, .string ⟨#[]⟩, .string ⟨#[]⟩]) (by simp [results,results177,go_sem]) rfl ⟨rfl,by repeat first|exact Below.refl _ _|refine Below.setCell ?_ (by simp) _|refine Below.alloc ?_ (by simp;try omega) _⟩
 · go_enter func177,ntmps177;go_wp2;exact bodyPost_ret (v:= .agg #[.int .u64 a, .int .u64 (((b+1) % 18446744073709551616:Nat):Int), .int .u64 0, .string ⟨#[]⟩, .string ⟨#[]⟩, .string ⟨#[]⟩]) (by simp [results,results177,go_sem]) rfl ⟨rfl,by repeat first|exact Below.refl _ _|refine Below.setCell ?_ (by simp) _|refine Below.alloc ?_ (by simp;try omega) _⟩
 have h3:SV.after ⟨a,b,c,pr,mt,og⟩ n=⟨a,b,(c+1) % 18446744073709551616,⟨#[]⟩,⟨#[]⟩,⟨#[]⟩⟩:=by unfold SV.after;rw [if_neg h1,if_neg h2]
 rw [h3];clear h3;have q1:((n:Int)==1)=false:=by simp;omega
 have q2:((n:Int)==2)=false:=by simp;omega
 go_enter func177,ntmps177;go_wp2;exact bodyPost_ret (v:= .agg #[.int .u64 a, .int .u64 b, .int .u64 (((c+1) % 18446744073709551616:Nat):Int), .string ⟨#[]⟩, .string ⟨#[]⟩, .string ⟨#[]⟩]) (by simp [results,results177,go_sem]) rfl ⟨rfl,by repeat first|exact Below.refl _ _|refine Below.setCell ?_ (by simp) _|refine Below.alloc ?_ (by simp;try omega) _⟩
theorem D6 (s sep:aa) (k i last:Nat) (out:List aa):ud s sep (k+1) i last out=if i+sep.size<=s.size then (if s.extract i (i+sep.size)=sep then ud s sep k (i+sep.size) (i+sep.size) (out++ [s.extract last i]) else ud s sep k (i+1) last out) else out++ [s.extract last s.size]:=rfl
theorem f164 {F:Nat->Prop} (s sep:aa) (w:World) (hs:s.size<=1000000) (hs1:1<=sep.size) (hs2:sep.size<=2) (hF:∀b,F b->b<w.heap.size):
 Calls Tryz.prog 164 #[.string s, .string sep] w fun e w'=>∃v',e= .returned v'/\bK F w' v' (cP s sep)/\Below w.heap.size w w':=by
 have HF:=Y0 hF;clear hF;go_enter func164,ntmps164;go_wp2
 go_loopw [5,6,7] (fun v la i wr=>∃(out:List aa) (k q l:Nat) (F':Nat->Prop),i= .int .i64 q/\la= .int .i64 l/\l<=q/\q<=s.size/\s.size<k+q/\out.length<=q/\Hid (cP s sep=ud s sep k q l out)/\
  Own aD w.heap.size 9 F' wr v out/\dw F w F' wr/\Below w.heap.size w wr) (fun _ _ i _=>s.size+1 - (intOf i).toNat)
 case atStart=>exact ⟨[],s.size+1,0,0,F,rfl,rfl,by omega,by omega,by omega,by simp,Y0 rfl,Own.nil _ _ _ _ _,dw.refl _ _,Below.refl _ _⟩
 obtain ⟨out,k,q,l,F',rfl,rfl,Tz,hq,hk,hol,H,hO,hS,hB⟩:=hrel;obtain ⟨A0,c0,rfl⟩:=hO.form;have Lu:=Y0 (hS.lt HF.out);have hws:w.heap.size<=wr.heap.size:=hB.size;obtain ⟨k',rfl⟩:∃k',k=k'+1:=⟨k - 1,by omega⟩;have hst:=Y0 (D6 s sep k' q l out);by_cases hlt:q+sep.size<=s.size
 · have hlt':(q:Int)+(sep.size:Int)<=(s.size:Int):=by omega
   by_cases he:s.extract q (q+sep.size)=sep
   · have heq:((s.extract q (q+sep.size)).toList==sep.toList)=true:=by rw [bS];simpa using he
     have HE:=Y0 he;clear he;have fZ:Below wr.heap.size wr (wr.alloc (.cells #[.string (s.extract l q)] 9)):=(Below.refl _ _).alloc (Nat.le_refl _) _;have hE:bK F' (wr.alloc (.cells #[.string (s.extract l q)] 9)) (.slice (some ⟨wr.heap.size,0,none⟩) 1 1) [s.extract l q]:=Rd.one (d:=aD) (e:=9) (cs:= #[.string (s.extract l q)]) rfl Lu.out;have GF:=hO.pure fZ;go_wp2_with (at_builtin;refine aH rfl _ _ 22 rfl aD 9 (.string ⟨#[]⟩) 16 underlying22 eA rfl (by decide) rfl rfl GF hE (by simp [maxLen];omega) (by simp;omega) (by simp;omega) rfl (out.length+1) (by simp) ?_;intro A2 c2 w2 F2 ja ji cZ _);go_roundw
     case rel=>exact ⟨out++ [s.extract l q],k',q+sep.size,q+sep.size,F2,by go_num,by go_num,by omega,by omega,by omega,by simp;omega,Y0 (by rw [H.out,hst.out,if_pos hlt,if_pos HE.out]),ja,(hS.trans (dw.pure fZ)).trans ji,(hB.trans (fZ.mono hws)).trans cZ⟩
     simp [intOf];omega
   have heq:((s.extract q (q+sep.size)).toList==sep.toList)=false:=by rw [bS];simpa using he
   have HE:=Y0 he;clear he;go_wp2;go_roundw
   case rel=>exact ⟨out,k',q+1,l,F',by go_num,rfl,by omega,by omega,by omega,by omega,Y0 (by rw [H.out,hst.out,if_pos hlt,if_neg HE.out]),hO,hS,hB⟩
   simp [intOf];omega
 have hlt':¬(q:Int)+(sep.size:Int)<=(s.size:Int):=by omega
 have fZ:Below wr.heap.size wr (wr.alloc (.cells #[.string (s.extract l s.size)] 9)):=(Below.refl _ _).alloc (Nat.le_refl _) _;have hE:bK F' (wr.alloc (.cells #[.string (s.extract l s.size)] 9)) (.slice (some ⟨wr.heap.size,0,none⟩) 1 1) [s.extract l s.size]:=Rd.one (d:=aD) (e:=9) (cs:= #[.string (s.extract l s.size)]) rfl Lu.out;have GF:=hO.pure fZ;go_wp2_with (at_builtin;refine aH rfl _ _ 22 rfl aD 9 (.string ⟨#[]⟩) 16 underlying22 eA rfl (by decide) rfl rfl GF hE (by simp [maxLen];omega) (by simp;omega) (by simp;omega) rfl (out.length+1) (by simp) ?_;intro A2 c2 w2 F2 ja ji cZ _);go_ret;refine ⟨_,rfl, ?_,(hB.trans (fZ.mono hws)).trans cZ⟩;rw [H.out,hst.out,if_neg hlt];exact ja.rd (F0:=F) HF.out (fun b hb=>ji.grow b (hS.grow b hb)) (by decide)
theorem dO (w:World) (o1 o2:Obj):∃W,W=(w.alloc o1).alloc o2/\W.heap[w.heap.size]?=some o1/\W.heap[w.heap.size+1]?=some o2/\W.heap.size=w.heap.size+2/\Below w.heap.size w W:=
 ⟨_,rfl,(Below.heap_alloc (w.alloc o1) o2 w.heap.size (by simp)).trans (heap_alloc_new w o1),by
  have h:=heap_alloc_new (w.alloc o1) o2
  rwa [World.size_alloc] at h,by simp,((Below.refl _ _).alloc (Nat.le_refl _) _).alloc (by simp) _⟩
theorem ae {w:World} {g j:Nat} {cs:Array Value} {t:TypeId} {fr:Nat × Nat} {v:Value} (h:w.heap[g]?=some (.cells cs t fr)) (hj:cs[j]?=some v):w.cell? ⟨g,j,none⟩=some v:=by
 simp [World.cell?,h,hj]
theorem aJ {w w':World} {B n:Nat} {o:Obj} (h:w.heap[n]?=some o) (hn:n<B) (hb:Below B w w'):w'.heap[n]?=some o:=(hb.block n hn).trans h
theorem below_drewN {B:Nat} {w W:World} {n:Nat} (h:Below B w W):Below B w (W.drewN n):=⟨h.os,h.tape,h.output,h.size,h.block⟩
theorem D7 {v u:SV} (ha:v.a=u.a) (hb:v.b=u.b) (hc:v.c=u.c):dY v u=if v.pr=u.pr then 0 else if v.pr.size=0 then 1 else if u.pr.size=0 then -1 else jc (v.pr.size+1) v.pr u.pr:=by
 unfold dY;rw [if_neg (by omega),if_neg (by omega),if_neg (by omega),if_neg (by omega),if_neg (by omega),if_neg (by omega)]
theorem D8 (k:Nat) (a b:aa):jc (k+1) a b=if decide (a.size=0)||decide (b.size=0) then (if a=b then 0 else if a.size=0 then -1 else 1) else if gm (bX a).1 (bX b).1≠0 then gm (bX a).1 (bX b).1 else jc k (bX a).2 (bX b).2:=rfl
theorem f287 (v u:SV) (w:World) (hv:v.pr.size<=1000000) (hu:u.pr.size<=1000000):
 Calls Tryz.prog 287 #[v.val,u.val] w fun e w'=>e= .returned (.int .i64 (dY v u))/\Below w.heap.size w w':=by
 have iM:=fun h1 h2 h3=>D7 (v:=v) (u:=u) h1 h2 h3
 have hlt:(v.a<u.a->dY v u=-1)/\(u.a<v.a->dY v u=1)/\(v.a=u.a->v.b<u.b->dY v u=-1)/\(v.a=u.a->u.b<v.b->dY v u=1)/\(v.a=u.a->v.b=u.b->v.c<u.c->dY v u=-1)/\(v.a=u.a->v.b=u.b->u.c<v.c->dY v u=1):=by
  unfold dY;refine ⟨fun h=> ?_,fun h=> ?_,fun h1 h=> ?_,fun h1 h=> ?_,fun h1 h2 h=> ?_,fun h1 h2 h=> ?_⟩
  · rw [if_pos h]
  · rw [if_neg (by omega),if_pos h]
  · rw [if_neg (by omega),if_neg (by omega),if_pos h]
  · rw [if_neg (by omega),if_neg (by omega),if_neg (by omega),if_pos h]
  · rw [if_neg (by omega),if_neg (by omega),if_neg (by omega),if_neg (by omega),if_pos h]
  rw [if_neg (by omega),if_neg (by omega),if_neg (by omega),if_neg (by omega),if_neg (by omega),if_pos h]
 obtain ⟨a1,b1,c1,p1,m1,o1⟩:=v;obtain ⟨a2,b2,c2,p2,m2,o2⟩:=u;simp only [SV.val] at*;have HN:=Y0 iM;have HL:=Y0 hlt;clear iM hlt;have i0:∀w,(Instr.index 425 (.agg #[.int .u64 a1, .int .u64 a2, .int .u64 b1, .int .u64 b2, .int .u64 c1, .int .u64 c2]) (.int .i64 0)).run Tryz.prog w= .ok (.agg #[.int .u64 a1, .int .u64 a2]) w:=fun _=>by kernel_rfl
 have i1:∀w,(Instr.index 425 (.agg #[.int .u64 a1, .int .u64 a2, .int .u64 b1, .int .u64 b2, .int .u64 c1, .int .u64 c2]) (.int .i64 1)).run Tryz.prog w= .ok (.agg #[.int .u64 b1, .int .u64 b2]) w:=fun _=>by kernel_rfl
 have i2:∀w,(Instr.index 425 (.agg #[.int .u64 a1, .int .u64 a2, .int .u64 b1, .int .u64 b2, .int .u64 c1, .int .u64 c2]) (.int .i64 2)).run Tryz.prog w= .ok (.agg #[.int .u64 c1, .int .u64 c2]) w:=fun _=>by kernel_rfl
 obtain ⟨W2,hW2,g1,g2,hs2,cZ⟩:=dO w (.cells #[.int .u64 a1, .int .u64 b1, .int .u64 c1, .string p1, .string m1, .string o1] 264) (.cells #[.int .u64 a2, .int .u64 b2, .int .u64 c2, .string p2, .string m2, .string o2] 264);have HG:=Y5 hW2 g1 g2 hs2 cZ;clear hW2 g1 g2 hs2 cZ;go_enter func287,ntmps287;go_wp2;rw [<-HG.out.1];go_loopw [28] (fun i wr=>∃k:Nat,i= .int .i64 k/\k<=3/\Hid (((1<=k->a1=a2)/\(2<=k->b1=b2)/\(3<=k->c1=c2))/\Below (w.heap.size+2) W2 wr)) (fun i _=>3 - (intOf i).toNat)
 case atStart=>exact ⟨0,rfl,by omega,Y0 ⟨⟨by omega,by omega,by omega⟩,Below.refl _ _⟩⟩
 obtain ⟨k,rfl,hk,H⟩:=hrel;have hB:Hid (Below w.heap.size w wr):=Y0 (HG.out.2.2.2.2.trans (H.out.2.mono (by omega)));have hsz:Hid (w.heap.size+2<=wr.heap.size):=Y0 (by have:=H.out.2.size;have:=HG.out.2.2.2.1;omega);have fZ:∀o,Below (w.heap.size+2) W2 (wr.alloc o):=fun o=>H.out.2.alloc (by have:=hsz.out;omega) o
 have vh:=Y0 fZ;clear fZ;rcases (show k=0\/k=1\/k=2\/k=3 by omega) with rfl|rfl|rfl|rfl
 · rcases Nat.lt_trichotomy a1 a2 with h|h|h
   · have h':(a1:Int)<(a2:Int):=by omega
     go_wp2;go_ret;exact ⟨bW (by rw [HL.out.1 h]),hB.out.alloc (by have:=hsz.out;omega) _⟩
   · have HE:=Y0 h;have n1:¬(a1:Int)<(a2:Int):=by omega
     have n2:¬(a2:Int)<(a1:Int):=by omega
     clear h;go_wp2;go_roundw
     case rel=>exact ⟨1,rfl,by omega,Y0 ⟨⟨fun _=>HE.out,by omega,by omega⟩,vh.out _⟩⟩
     simp [intOf]
   have h':(a2:Int)<(a1:Int):=by omega
   have h'':¬(a1:Int)<(a2:Int):=by omega
   go_wp2;go_ret;exact ⟨bW (by rw [HL.out.2.1 h]),hB.out.alloc (by have:=hsz.out;omega) _⟩
 · have HA:Hid (a1=a2):=Y0 (H.out.1.1 (by omega));rcases Nat.lt_trichotomy b1 b2 with h|h|h
   · have h':(b1:Int)<(b2:Int):=by omega
     go_wp2;go_ret;exact ⟨bW (by rw [HL.out.2.2.1 HA.out h]),hB.out.alloc (by have:=hsz.out;omega) _⟩
   · have HE:=Y0 h;have n1:¬(b1:Int)<(b2:Int):=by omega
     have n2:¬(b2:Int)<(b1:Int):=by omega
     clear h;go_wp2;go_roundw
     case rel=>exact ⟨2,rfl,by omega,Y0 ⟨⟨fun _=>HA.out,fun _=>HE.out,by omega⟩,vh.out _⟩⟩
     simp [intOf]
   have h':(b2:Int)<(b1:Int):=by omega
   have h'':¬(b1:Int)<(b2:Int):=by omega
   go_wp2;go_ret;exact ⟨bW (by rw [HL.out.2.2.2.1 HA.out h]),hB.out.alloc (by have:=hsz.out;omega) _⟩
 · have HA:Hid (a1=a2/\b1=b2):=Y0 ⟨H.out.1.1 (by omega),H.out.1.2.1 (by omega)⟩;rcases Nat.lt_trichotomy c1 c2 with h|h|h
   · have h':(c1:Int)<(c2:Int):=by omega
     go_wp2;go_ret;exact ⟨bW (by rw [HL.out.2.2.2.2.1 HA.out.1 HA.out.2 h]),hB.out.alloc (by have:=hsz.out;omega) _⟩
   · have HE:=Y0 h;have n1:¬(c1:Int)<(c2:Int):=by omega
     have n2:¬(c2:Int)<(c1:Int):=by omega
     clear h;go_wp2;go_roundw
     case rel=>exact ⟨3,rfl,by omega,Y0 ⟨⟨fun _=>HA.out.1,fun _=>HA.out.2,fun _=>HE.out⟩,vh.out _⟩⟩
     simp [intOf]
   have h':(c2:Int)<(c1:Int):=by omega
   have h'':¬(c1:Int)<(c2:Int):=by omega
   go_wp2;go_ret;exact ⟨bW (by rw [HL.out.2.2.2.2.2 HA.out.1 HA.out.2 h]),hB.out.alloc (by have:=hsz.out;omega) _⟩
 have hc:=Y0 (HN.out (H.out.1.1 (by omega)) (H.out.1.2.1 (by omega)) (H.out.1.2.2 (by omega)));have x1:wr.cell? ⟨w.heap.size,3,none⟩=some (.string p1):=ae (aJ HG.out.2.1 (by omega) H.out.2) rfl;have x2:wr.cell? ⟨w.heap.size+1,3,none⟩=some (.string p2):=ae (aJ HG.out.2.2.1 (by omega) H.out.2) rfl;have e1:=Y0 (isEmpty_iff p1);have e2:=Y0 (isEmpty_iff p2);clear i0 i1 i2;rw [show ((3:Nat):Int)=3 from rfl];by_cases hp:p1=p2
 · have hq:(p1.toList==p2.toList)=true:=by rw [bS];simpa using hp
   have HP:=Y0 hp;clear hp;go_wp2;go_ret;exact ⟨bW (by rw [hc.out];rw [if_pos HP.out]),hB.out⟩
 have hq:(p1.toList==p2.toList)=false:=by rw [bS];simpa using hp
 have HP:=Y0 hp;clear hp;by_cases h1:p1.size=0
 · have hq1:p1.toList.isEmpty=true:=by rw [e1.out];simpa using h1
   go_wp2;go_ret;exact ⟨bW (by rw [hc.out];rw [if_neg HP.out];rw [if_pos h1]),hB.out⟩
 have hq1:p1.toList.isEmpty=false:=by rw [e1.out];simpa using h1
 by_cases h2:p2.size=0
 · have hq2:p2.toList.isEmpty=true:=by rw [e2.out];simpa using h2
   go_wp2;go_ret;exact ⟨bW (by rw [hc.out];rw [if_neg HP.out];rw [if_neg h1];rw [if_pos h2]),hB.out⟩
 have hq2:p2.toList.isEmpty=false:=by rw [e2.out];simpa using h2
 have hc2:Hid (dY ⟨a1,b1,c1,p1,m1,o1⟩ ⟨a2,b2,c2,p2,m2,o2⟩=jc (p1.size+1) p1 p2):=Y0 (by rw [hc.out];rw [if_neg HP.out];rw [if_neg h1];rw [if_neg h2]);obtain ⟨wo,rfl⟩:∃wo:World,wo=wr:=⟨_,rfl⟩;go_wp2;go_quiet (fail);go_wp2;clear x1 x2 hq hq1 hq2 h1 h2;go_loopw [4,7,8] (fun _ s t wr=>∃(a b:aa) (k n:Nat),s= .string a/\t= .string b/\a.size<=p1.size/\b.size<=p2.size/\a.size<k/\Hid (wr=wo.drewN n)/\Hid (jc (p1.size+1) p1 p2=jc k a b)) (fun _ s _ _=>AW s)
 case atStart=>exact ⟨p1,p2,p1.size+1,_,rfl,rfl,Nat.le_refl _,Nat.le_refl _,by omega,Y0 rfl,Y0 rfl⟩
 obtain ⟨a,b,k,n,rfl,rfl,ha,hb,hk2,hw,HC⟩:=hrel;obtain ⟨k',rfl⟩:∃k',k=k'+1:=⟨k - 1,by omega⟩;have hst:=Y0 (D8 k' a b);have hBr:Hid (Below w.heap.size w wr):=Y0 (by rw [hw.out];exact below_drewN hB.out);have e1:=Y0 (isEmpty_iff a);have e2:=Y0 (isEmpty_iff b);by_cases h1:a.size=0
 · have hq1:a.toList.isEmpty=true:=by rw [e1.out];simpa using h1
   by_cases hp:a=b
   · have hq:(a.toList==b.toList)=true:=by rw [bS];simpa using hp
     have Pj:=Y0 hp;clear hp;go_wp2;go_ret;exact ⟨bW (by rw [hc2.out,HC.out,hst.out,decide_eq_true h1];simp [Pj.out]),hBr.out⟩
   have hq:(a.toList==b.toList)=false:=by rw [bS];simpa using hp
   have Pj:=Y0 hp;clear hp;go_wp2;go_ret;exact ⟨bW (by rw [hc2.out,HC.out,hst.out,decide_eq_true h1];simp [Pj.out,h1]),hBr.out⟩
 have hq1:a.toList.isEmpty=false:=by rw [e1.out];simpa using h1
 by_cases h2:b.size=0
 · have hq2:b.toList.isEmpty=true:=by rw [e2.out];simpa using h2
   have hne:a≠b:=fun h=>by rw [h] at h1;exact h1 h2
   have hq:(a.toList==b.toList)=false:=by rw [bS];simpa using hne
   have Pj:=Y0 hne;clear hne;go_wp2;go_ret;exact ⟨bW (by rw [hc2.out,HC.out,hst.out,decide_eq_true h2];simp [Pj.out,h1]),hBr.out⟩
 have hq2:b.toList.isEmpty=false:=by rw [e2.out];simpa using h2
 have hfa:=qQ a;have hfb:=qQ b;have kx:Hid (jc (k'+1) a b=if gm (bX a).1 (bX b).1≠0 then gm (bX a).1 (bX b).1 else jc k' (bX a).2 (bX b).2):=Y0 (by rw [hst.out,decide_eq_false h1,decide_eq_false h2];rfl);have ca:=fun w=>f289 a w (by omega)
 have cb:=fun w=>f289 b w (by omega)
 have CA:=Y2 ca cb;clear ca cb;generalize hxa:bX a=fa at*;generalize Vd:bX b=fb at*;obtain ⟨x,a'⟩:=fa;obtain ⟨y,b'⟩:=fb;simp only at hfa hfb kx CA;clear hxa Vd;have hcm:=fun w=>f290 x y w (by omega) (by omega)
 have Ve:=Y0 hcm;clear hcm;generalize hcv:gm x y=cv at kx Ve;have flag:True:=trivial;by_cases hz:cv=0
 · subst hz;clear hcv
   go_wp2_with (first
    | (clear flag;go_at_call 289;refine (CA.out.1 _).mono ?_;rintro e w1 ⟨rfl,n1,hw1⟩;have lj:=Y0 hw1;clear hw1;have au:True:=trivial)
    | (clear au;go_at_call 289;refine (CA.out.2 _).mono ?_;rintro e w2 ⟨rfl,n2,hw2⟩;have sX:=Y0 hw2;clear hw2;have aQ:True:=trivial)
    | (clear aQ;go_at_call 290;refine (Ve.out _).mono ?_;rintro e w3 ⟨rfl,hw3⟩;have Hk:=Y0 hw3;clear hw3))
   go_roundw
   case rel=>exact ⟨a',b',k',n+n1+n2,rfl,rfl,by omega,by omega,by omega,Y0 (by rw [Hk.out,sX.out,lj.out,hw.out];simp [Nat.add_assoc]),Y0 (by rw [HC.out,kx.out,if_neg (by simp)])⟩
   simp [AW];omega
 have hz1:(cv !=0)=true:=by simpa using hz
 clear hcv
 go_wp2_with (first
  | (clear flag;go_at_call 289;refine (CA.out.1 _).mono ?_;rintro e w1 ⟨rfl,n1,hw1⟩;have lj:=Y0 hw1;clear hw1;have au:True:=trivial)
  | (clear au;go_at_call 289;refine (CA.out.2 _).mono ?_;rintro e w2 ⟨rfl,n2,hw2⟩;have sX:=Y0 hw2;clear hw2;have aQ:True:=trivial)
  | (clear aQ;go_at_call 290;refine (Ve.out _).mono ?_;rintro e w3 ⟨rfl,hw3⟩;have Hk:=Y0 hw3;clear hw3))
 go_ret;refine ⟨bW (by rw [hc2.out,HC.out,kx.out,if_pos hz]), ?_⟩;rw [Hk.out,sX.out,lj.out];exact below_drewN (below_drewN hBr.out)
theorem f285 (v u:SV) (w:World) (hv:v.pr.size<=1000000) (hu:u.pr.size<=1000000):
 Calls Tryz.prog 285 #[v.val,u.val] w fun e w'=>e= .returned (.bool (yD v u))/\Below w.heap.size w w':=by
 have hc:=fun w=>f287 v u w hv hu
 have he:yD v u=decide (dY v u=0):=rfl;obtain ⟨a1,b1,c1,p1,m1,o1⟩:=v;obtain ⟨a2,b2,c2,p2,m2,o2⟩:=u;simp only [SV.val] at*;have HC:=Y0 hc;have HE:=Y0 he;clear hc he;rw [HE.out];generalize dY ⟨a1,b1,c1,p1,m1,o1⟩ ⟨a2,b2,c2,p2,m2,o2⟩=cv at HC ⊢;clear HE;go_enter func285,ntmps285;go_wp2_with (go_at_call 287;refine (HC.out _).mono ?_;rintro e w1 ⟨rfl,hB⟩);go_ret;refine ⟨aq ?_,(((Below.refl _ _).alloc (Nat.le_refl _) _).alloc (by simp) _).trans (hB.mono (by simp;omega))⟩;rw [Bool.eq_iff_iff];simp
theorem f77 (s:aa) (w:World):Calls Tryz.prog 77 #[.string s] w fun e w'=>(∃n,e= .returned (.iface 253 (.pointer (some ⟨n,0,none⟩))))/\Below w.heap.size w w':=by
 go_enter func77,ntmps77;go_wp2;go_ret;exact ⟨⟨_,rfl⟩,(Below.refl _ _).alloc (Nat.le_refl _) _⟩
def wB (b:Bool) (v:Value):Prop:=if b then v= .nilIface else ∃n,v= .iface 253 (.pointer (some ⟨n,0,none⟩))
theorem f283 (v u:SV) (w:World) (hv:v.pr.size<=1000000) (hu:u.pr.size<=1000000):
 Calls Tryz.prog 283 #[v.val,u.val] w fun e w'=>∃ev,e= .returned ev/\wB (yD v u) ev/\Below w.heap.size w w':=by
 have hc:=fun w=>f285 v u w hv hu
 obtain ⟨a1,b1,c1,p1,m1,o1⟩:=v;obtain ⟨a2,b2,c2,p2,m2,o2⟩:=u;simp only [SV.val] at*;have HC:=Y0 hc;clear hc;generalize yD ⟨a1,b1,c1,p1,m1,o1⟩ ⟨a2,b2,c2,p2,m2,o2⟩=cv at HC ⊢;cases cv
 · go_enter func283,ntmps283
   go_wp2_with (first
    | (go_at_call 285;refine (HC.out _).mono ?_;rintro e w1 ⟨rfl,hB⟩)
    | (go_at_call 77;refine (f77 _ _).mono ?_;rintro e w2 ⟨⟨n,rfl⟩,cZ⟩))
   go_ret;exact ⟨_,rfl,⟨n,rfl⟩,((((Below.refl _ _).alloc (Nat.le_refl _) _).alloc (by simp) _).trans (hB.mono (by simp;omega))).trans (cZ.mono (by have:=hB.size;simp at this;omega))⟩
 go_enter func283,ntmps283;go_wp2_with (go_at_call 285;refine (HC.out _).mono ?_;rintro e w1 ⟨rfl,hB⟩);go_ret;exact ⟨_,rfl,rfl,(((Below.refl _ _).alloc (Nat.le_refl _) _).alloc (by simp) _).trans (hB.mono (by simp;omega))⟩
def SV.cl (v:SV):List Value:= [.int .u64 v.a, .int .u64 v.b, .int .u64 v.c, .string v.pr, .string v.mt, .string v.og]
def lO:Kd SV where
 sz:=6
 rep:=fun _ _ v cs=>cs=v.cl
 len:=fun h=>by rw [h];rfl
 one:=fun h u hu=>by
  rw [h] at hu;simp [SV.cl] at hu;rcases hu with rfl|rfl|rfl|rfl|rfl|rfl<;>rfl
 step:=fun _ _ h=>h
theorem JZ {F:Nat->Prop} {w:World} {A:Option Addr} {n cap:Nat} {vs:List SV} (h:Rd lO F w (.slice A n cap) vs) {k:Nat} (hk:k<vs.length):
 ∃g off,A=some ⟨g,off,none⟩/\g<w.heap.size/\w.cell? ⟨g,off+k*6,none⟩=some (.int .u64 vs[k].a)/\w.cell? ⟨g,off+k*6+1,none⟩=some (.int .u64 vs[k].b)/\w.cell? ⟨g,off+k*6+2,none⟩=some (.int .u64 vs[k].c)/\
  w.cell? ⟨g,off+k*6+3,none⟩=some (.string vs[k].pr)/\w.cell? ⟨g,off+k*6+4,none⟩=some (.string vs[k].mt)/\w.cell? ⟨g,off+k*6+5,none⟩=some (.string vs[k].og):=by
 obtain ⟨g,off,cs,hA,hF,hg,hcs,hc⟩:=h.at_ (List.getElem?_eq_getElem hk);have hcs:cs=vs[k].cl:=hcs;subst hcs;exact ⟨g,off,hA,hg,hc 0 _ rfl,hc 1 _ rfl,hc 2 _ rfl,hc 3 _ rfl,hc 4 _ rfl,hc 5 _ rfl⟩
def Pc.cl (p:Pc) (bv:Value):List Value:= [.int .u64 p.lo.a, .int .u64 p.lo.b, .int .u64 p.lo.c, .string p.lo.pr, .string p.lo.mt, .string p.lo.og, .int .u64 p.hi.a, .int .u64 p.hi.b, .int .u64 p.hi.c, .string p.hi.pr, .string p.hi.mt, .string p.hi.og, .bool p.hl, .bool p.hh, .bool p.wl, .bool p.wh,bv]
def Pc.arr (p:Pc) (bv:Value):Array Value:= #[.int .u64 p.lo.a, .int .u64 p.lo.b, .int .u64 p.lo.c, .string p.lo.pr, .string p.lo.mt, .string p.lo.og, .int .u64 p.hi.a, .int .u64 p.hi.b, .int .u64 p.hi.c, .string p.hi.pr, .string p.hi.mt, .string p.hi.og, .bool p.hl, .bool p.hh, .bool p.wl, .bool p.wh,bv]
def Pc.val (p:Pc) (bv:Value):Value:= .agg (p.arr bv)
def mX:Kd Pc where
 sz:=17
 rep:=fun F w p cs=>∃bv,cs=p.cl bv/\Rd lO F w bv p.bt
 len:=fun ⟨_,h,_⟩=>by rw [h];rfl
 one:=fun ⟨bv,h,h1⟩ u hu=>by
  obtain ⟨A,c,rfl⟩:=h1.form;subst h;simp [Pc.cl] at hu;rcases hu with rfl|rfl|rfl|rfl|rfl|rfl|rfl|rfl|rfl|rfl|rfl|rfl|rfl|rfl|rfl|rfl|rfl<;>rfl
 step:=fun ho hk ⟨bv,h,h1⟩=>⟨bv,h,h1.step' ho hk⟩
theorem aaf (w:World):(zeroValue 329).run Tryz.prog w= .ok (Pc.zero.val (.slice none 0 0)) w:=by kernel_rfl
theorem bj:(Tryz.prog.info? 329).map (·.size)=some 17:=by kernel_rfl
theorem aN:(Tryz.prog.info? 264).map (·.size)=some 6:=by kernel_rfl
theorem Pc.arr_size (p:Pc) (bv:Value):(p.arr bv).size=17:=rfl
theorem Pc.arr_one (p:Pc) {bv:Value} (h:bv.oneCell'=true):(p.arr bv).all (·.oneCell')=true:=by
 have h1:∀k i,(Value.int k i).oneCell'=true:=fun _ _=>rfl
 have h2:∀s,(Value.string s).oneCell'=true:=fun _=>rfl
 have h3:∀b,(Value.bool b).oneCell'=true:=fun _=>rfl
 simp only [Pc.arr,List.all_toArray,List.all_cons,List.all_nil,h,h1,h2,h3,Bool.and_self]
section
variable {P:Program}
theorem kC (w:World) (ad:Addr) (ty:TypeId) (cs:Array Value) (d:TypeDesc) (hc:∀j v,cs[j]?=some v->w.cell? (ad.add j)=some v)
 (hu:P.underlying ty=some d) (hd:(match d with| .struct _| .array _ _=>true|_=>false)=true) (hi:(P.info? ty).map (·.size)=some cs.size):
 (loadVar ty ad).run P w= .ok (.agg cs) w:=by
 have hl:(loadCells ad cs.toList.length).run P w= .ok cs.toList.toArray w:=run_loadCells_list (P:=P) w ad cs.toList (fun j v hv=>hc j v (by simpa using hv))
 cases hq:P.info? ty with
 | none=>simp [hq] at hi
 | some i=>
   have hs:i.size=cs.size:=by simpa [hq] using hi
   have hagg:(isAgg ty).run P w= .ok true w:=by
    unfold isAgg;rw [Sem.run_bind,run_underlying hu w];cases d<;>simp_all
   simp only [Array.length_toList,Array.toArray_toList] at hl;simp [loadVar,Sem.run_bind,hagg,sizeOf,typeInfo,hq,hs,hl]
theorem bu {ops:Array Oper} {rest:List Oper} {o:Oper} {a:Act} {w:World} {Q:Exit->Act->World->Prop} (hgd:o.guard=none) (ty:TypeId) (x:Operand) (ho:o.op= .load ty x)
 (ad:Addr) (hx:a.eval x= .pointer (some ad)) (cs:Array Value) (d:TypeDesc) (hc:∀j v,cs[j]?=some v->w.cell? (ad.add j)=some v)
 (hu:P.underlying ty=some d) (hd:(match d with| .struct _| .array _ _=>true|_=>false)=true) (hi:(P.info? ty).map (·.size)=some cs.size)
 (h:wpList P ops Q rest (a.put o.dst (.agg cs)) w):wpList P ops Q (o::rest) a w:=
 wpList_plain hgd fun K hK=>by
  unfold Oper.wp execOp;simp only [ho,hx,Instr.loadAt,Instr.sureAddr,Sem.run_bind,Sem.run_pure,Result.andThen_ok,kC w ad ty cs d hc hu hd hi];exact hK _ _ h
end
theorem boxed (w:World) (old cs:Array Value) (t:TypeId):∃W,W=(w.alloc (.cells old t)).setRow w.heap.size cs/\W.heap[w.heap.size]?=some (.cells cs t (0,0))/\W.heap.size=w.heap.size+1/\Below w.heap.size w W:=
 ⟨_,rfl,setRow_heap _ _ _ _ _ _ (heap_alloc_new _ _),by simp,⟨rfl,rfl,rfl,by simp,fun k hk=>by
  rw [setRow_other _ _ _ _ (by omega)];exact Below.heap_alloc w _ k hk⟩⟩
theorem jo (g o j:Nat):(⟨g,o,none⟩:Addr).add j=⟨g,o+j,none⟩:=by unfold Addr.add;split<;>simp_all
theorem oZ {α:Type} (l:List α) (p:α->Bool) (k:Nat) (h:k<l.length) (h1:(l.take k).any p=false):(p l[k]=true->l.any p=true)/\(p l[k]=false->(l.take (k+1)).any p=false):=by
 constructor
 · intro h2;rw [List.any_eq_true];exact ⟨_,List.getElem_mem h,h2⟩
 intro h2;rw [List.take_succ_eq_append_getElem h,List.any_append,h1];simpa using h2
theorem Lz {p:Pc} {v:SV} (h:p.lowOk v=false):p.has v=false:=by unfold Pc.has;rw [h];rfl
theorem Hl {p:Pc} {v:SV} (h:p.highOk v=false):p.has v=false:=by unfold Pc.has;rw [h];cases p.lowOk v<;>rfl
theorem LF {p:Pc} {v:SV} (h:(p.bt.any fun x=>yD x v)=true):p.has v=false:=by unfold Pc.has;rw [h];simp
theorem Hm {p:Pc} {v:SV} (h1:p.lowOk v=true) (h2:p.highOk v=true) (h3:(p.bt.any fun x=>yD x v)=false):p.has v=true:=by unfold Pc.has;rw [h1,h2,h3];rfl
def TA (p:Pc) (v:SV):Prop:=p.lowOk v=true/\p.highOk v=true
end Go.Proofs.YtjenhelmpcajfaaGreatDoor
