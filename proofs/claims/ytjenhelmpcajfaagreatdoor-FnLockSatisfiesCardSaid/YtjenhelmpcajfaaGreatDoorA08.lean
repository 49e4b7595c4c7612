/- a constraint's sign -/
import Derived.Test.YtjenhelmpcajfaaGreatDoorA07
import Derived.Test.YtjenhelmpcajfaaGreatDoorA09
set_option linter.all false
set_option maxRecDepth 100000
set_option maxHeartbeats 16000000
namespace Go.Proofs.YtjenhelmpcajfaaGreatDoor
open Go.Proofs.Tryz Go.RowKit
theorem Eg (va vb vc:Nat) (vp vm vo:aa):(#[.int .u64 va, .int .u64 vb, .int .u64 vc, .string vp, .string vm, .string vo]:Array Value).all (·.oneCell')=true:=by
 simp only [List.all_toArray,List.all_cons,List.all_nil,Bool.and_true];rfl
theorem Cr {s:aa} (h:2<s.size):fR s=(decide (s[s.size - 2].toNat=46) && (decide (s[s.size - 1].toNat=120)||decide (s[s.size - 1].toNat=88)||decide (s[s.size - 1].toNat=42))):=by unfold fR;rw [dif_pos h]
theorem f176 (text:aa) (w:World) (hs:text.size<=1000000) (hg:Gl w):
 Calls Tryz.prog 176 #[.string text] w fun e w'=>iu (gN text) e/\Below w.heap.size w w':=by
 have hpv:gN text=if dL text [120]||dL text [88]||dL text [42] then some (.zero,0) else if text.size=0 then none else fE (qG text):=rfl
 have Vo:=Y0 hpv;have Hp:=Y0 hg;clear hpv hg;generalize gN text=res at*;have hemp:=Y0 (isEmpty_iff text);obtain ⟨W1,hW1,b1,Px,bB⟩:=aZ w (.cells #[.int .u64 0, .int .u64 0, .int .u64 0, .string ⟨#[]⟩, .string ⟨#[]⟩, .string ⟨#[]⟩] 264);have lj:=Y4 hW1 b1 Px bB;clear hW1 b1 Px bB;have zero:∀W,Below w.heap.size w W->Hid (W.heap[w.heap.size]?=some (.cells #[.int .u64 0, .int .u64 0, .int .u64 0, .string ⟨#[]⟩, .string ⟨#[]⟩, .string ⟨#[]⟩] 264 (0,0)))->Hid (res=some (.zero,0))->iu res (.returned (.tuple #[.agg #[.int .u64 0, .int .u64 0, .int .u64 0, .string ⟨#[]⟩, .string ⟨#[]⟩, .string ⟨#[]⟩], .int .i64 0, .nilIface])):=fun W _ _ h=>by rw [h.out];rfl
 have ZT:=Y0 zero;clear zero;by_cases hx:dL text [120]=true\/dL text [88]=true\/dL text [42]=true
 · have hres:Hid (res=some (.zero,0)):=Y0 (by
    rw [Vo.out,if_pos];rcases hx with h|h|h
    · rw [h];rfl
    · rw [h];simp
    rw [h];simp)
   have hne:text.toList.isEmpty=false:=by
    rcases hx with h|h|h<;>(unfold dL at h;rw [beq_iff_eq] at h;rw [h];rfl)
   have ways:(text.toList== [120])=true\/((text.toList== [120])=false/\(text.toList== [88])=true)\/((text.toList== [120])=false/\(text.toList== [88])=false/\(text.toList== [42])=true):=by
    unfold dL at hx;cases h1:(text.toList== [120])
    · cases h2:(text.toList== [88])
      · rw [h1,h2] at hx;simp at hx;exact .inr (.inr ⟨rfl,rfl,by simpa using hx⟩)
      exact .inr (.inl ⟨rfl,rfl⟩)
    exact .inl rfl
   clear hx;rcases ways with q1|⟨q1,q2⟩|⟨q1,q2,q3⟩
   all_goals
    go_enter func176,ntmps176;go_wp2_with (rw [<-lj.out.1];refine wpList_store_row (o:=⟨none,Op.store 264 (Operand.tmp 2) (Operand.tmp 23),_,_,_,_⟩) rfl 264 _ _ rfl w.heap.size #[.int .u64 0, .int .u64 0, .int .u64 0, .string ⟨#[]⟩, .string ⟨#[]⟩, .string ⟨#[]⟩] rfl rfl 264 #[.int .u64 0, .int .u64 0, .int .u64 0, .string ⟨#[]⟩, .string ⟨#[]⟩, .string ⟨#[]⟩] lj.out.2.1 aN rfl fS ?_)
    (try simp only [Exit.inBlock,Exit.then])
    refine bodyPost_ret (cF results176 _ (W1.setRow w.heap.size #[.int .u64 0, .int .u64 0, .int .u64 0, .string ⟨#[]⟩, .string ⟨#[]⟩, .string ⟨#[]⟩]) w.heap.size 264 #[.int .u64 0, .int .u64 0, .int .u64 0, .string ⟨#[]⟩, .string ⟨#[]⟩, .string ⟨#[]⟩] (0,0) _ rfl (setRow_heap _ _ _ _ _ _ lj.out.2.1) underlying264 rfl aN) rfl ⟨?_,below_setRow lj.out.2.2.2 (Nat.le_refl _) _⟩;rw [hres.out];rfl
 have hb:dL text [120]=false/\dL text [88]=false/\dL text [42]=false:=by
  refine ⟨?_, ?_, ?_⟩<;>(rw [Bool.eq_false_iff];intro h;exact hx (by simp [h]))
 clear hx;have kE:Hid (res=if text.size=0 then none else fE (qG text)):=Y0 (by rw [Vo.out,hb.1,hb.2.1,hb.2.2];rfl);obtain ⟨q1,q2,q3⟩:=hb;unfold dL at q1 q2 q3;by_cases h0:text.size=0
 · have hres:Hid (res=none):=Y0 (by rw [kE.out,if_pos h0]);have q4:text.toList.isEmpty=true:=by rw [hemp.out];simpa using h0
   go_enter func176,ntmps176
   go_wp2_with (first
    | (go_at_call 77;rw [<-lj.out.1];refine (f77 _ _).mono ?_;rintro e w2 ⟨⟨em,rfl⟩,cZ⟩;have iN:=Y0 cZ;clear cZ;have hblk:=Y0 (aJ lj.out.2.1 (by have:=lj.out.2.2.1;omega) iN.out))
    | (refine wpList_store_row (o:=⟨none,Op.store 264 (Operand.tmp 2) (Operand.tmp 21),_,_,_,_⟩) rfl 264 _ _ rfl w.heap.size #[.int .u64 0, .int .u64 0, .int .u64 0, .string ⟨#[]⟩, .string ⟨#[]⟩, .string ⟨#[]⟩] rfl rfl 264 #[.int .u64 0, .int .u64 0, .int .u64 0, .string ⟨#[]⟩, .string ⟨#[]⟩, .string ⟨#[]⟩] hblk.out aN rfl fS ?_))
   (try simp only [Exit.inBlock,Exit.then])
   refine bodyPost_ret (cF results176 _ (w2.setRow w.heap.size #[.int .u64 0, .int .u64 0, .int .u64 0, .string ⟨#[]⟩, .string ⟨#[]⟩, .string ⟨#[]⟩]) w.heap.size 264 #[.int .u64 0, .int .u64 0, .int .u64 0, .string ⟨#[]⟩, .string ⟨#[]⟩, .string ⟨#[]⟩] (0,0) _ rfl (setRow_heap _ _ _ _ _ _ hblk.out) underlying264 rfl aN) rfl ⟨?_,below_setRow (lj.out.2.2.2.trans (iN.out.mono lj.out.2.2.2.size)) (Nat.le_refl _) _⟩;rw [hres.out];exact ⟨em,rfl⟩
 have q4:text.toList.isEmpty=false:=by rw [hemp.out];simpa using h0
 have dP:Hid (res=fE (qG text)):=Y0 (by rw [kE.out,if_neg h0]);clear Vo kE hemp;go_enter func176,ntmps176;go_wp2;clear q1 q2 q3 q4;rw [<-lj.out.1];go_loop [0] (fun t=>∃r:aa,t= .string r/\r.size<=text.size/\Hid (qG text=qG r)) (fun t=>AW t)
 case atStart=>exact ⟨text,rfl,Nat.le_refl _,Y0 rfl⟩
 obtain ⟨r,rfl,hr,H⟩:=hrel;have hst:=Y0 (Cl r);have hpl:=Y0 (f190 (l6 r) W1 (by have:=lf r;omega));go_upto_region 5 with fail;go_cut [66] (fun s wx=>s= .bool (fR r && plain (l6 r))/\Hid (wx=W1))
 case first=>
  by_cases h2:2<r.size
  · have hd:=Y0 (Cr h2);have h2':2<(r.size:Int):=by omega
    have hs2:IntKind.i64.wrap ((r.size:Int) - 2)=(r.size:Int) - 2:=IntWalk.i64_in _ (by omega);have hcut:l6 r=r.extract 0 (r.size - 2):=rfl;by_cases c2:r[r.size - 2].toNat=46
    · have k2:((r[r.size - 2].toNat:Int)==46)=true:=by simp [c2]
      by_cases x1:r[r.size - 1].toNat=120\/r[r.size - 1].toNat=88\/r[r.size - 1].toNat=42
      · have hdt:Hid (fR r=true):=Y0 (by
         rw [hd.out,decide_eq_true c2];rcases x1 with h|h|h<;>simp [h])
        generalize plain (l6 r)=pb at*;rw [hcut] at hpl
        have ways:((r[r.size - 1].toNat:Int)==120)=true\/(((r[r.size - 1].toNat:Int)==120)=false/\((r[r.size - 1].toNat:Int)==88)=true)\/(((r[r.size - 1].toNat:Int)==120)=false/\((r[r.size - 1].toNat:Int)==88)=false/\((r[r.size - 1].toNat:Int)==42)=true):=by
         rcases x1 with h|h|h
         · exact .inl (by simp [h])
         · exact .inr (.inl ⟨by simp [h],by simp [h]⟩)
         exact .inr (.inr ⟨by simp [h],by simp [h],by simp [h]⟩)
        clear x1 c2 hcut;rcases ways with y1|⟨y1,y2⟩|⟨y1,y2,y3⟩
        all_goals
         cases pb
        all_goals
         go_wp2_with (go_at_call 190;refine hpl.out.mono ?_;rintro e w5 ⟨rfl,zy⟩;subst zy);go_meet;exact ⟨by rw [hdt.out];rfl,Y0 rfl⟩
      have zz:Hid (fR r=false):=Y0 (by
       rw [hd.out,decide_eq_true c2];simp;omega)
      have y1:((r[r.size - 1].toNat:Int)==120)=false:=by simp;omega
      have y2:((r[r.size - 1].toNat:Int)==88)=false:=by simp;omega
      have y3:((r[r.size - 1].toNat:Int)==42)=false:=by simp;omega
      clear x1 c2;go_wp2;go_meet;exact ⟨by rw [zz.out];rfl,Y0 rfl⟩
    have k2:((r[r.size - 2].toNat:Int)==46)=false:=by simp;omega
    have zz:Hid (fR r=false):=Y0 (by rw [hd.out,decide_eq_false c2];rfl);clear c2;go_wp2;go_meet;exact ⟨by rw [zz.out];rfl,Y0 rfl⟩
  have zz:Hid (fR r=false):=Y0 (by unfold fR;rw [dif_neg h2]);have h2':¬2<(r.size:Int):=by omega
  go_wp2;go_meet;exact ⟨by rw [zz.out];rfl,Y0 rfl⟩
 obtain ⟨rfl,hw⟩:=hcut;have e:=hw.out;subst e;clear hw;cases hb:(fR r && plain (l6 r))
 · have hx:Hid (res=fE r):=Y0 (by rw [dP.out,H.out,hst.out,hb];rfl);have Py:=f167 r wc (by omega) (Hp.out.pure lj.out.2.2.2);have Pz:Hid (Calls Tryz.prog 167 #[.string r] wc fun e w'=>iu res e/\Below wc.heap.size wc w'):=Y0 (by rw [hx.out];exact Py);clear hb Py hpl hst H dP hx
   cases res with
   | none=>
     go_wp2_with (first
      | (go_at_call 167;refine Pz.out.mono ?_;rintro e w5 ⟨⟨em,rfl⟩,bz⟩;have dS:=Y0 bz;clear bz;have hblk:=Y0 (aJ lj.out.2.1 (by have:=lj.out.2.2.1;omega) dS.out))
      | (refine wpList_store_row (o:=⟨none,Op.store 264 (Operand.tmp 2) (Operand.tmp 74),_,_,_,_⟩) rfl 264 _ _ rfl w.heap.size #[.int .u64 0, .int .u64 0, .int .u64 0, .string ⟨#[]⟩, .string ⟨#[]⟩, .string ⟨#[]⟩] rfl rfl 264 #[.int .u64 0, .int .u64 0, .int .u64 0, .string ⟨#[]⟩, .string ⟨#[]⟩, .string ⟨#[]⟩] hblk.out aN rfl fS ?_))
     (try simp only [Exit.inBlock,Exit.then])
     refine bodyPost_ret (cF results176 _ (w5.setRow w.heap.size #[.int .u64 0, .int .u64 0, .int .u64 0, .string ⟨#[]⟩, .string ⟨#[]⟩, .string ⟨#[]⟩]) w.heap.size 264 #[.int .u64 0, .int .u64 0, .int .u64 0, .string ⟨#[]⟩, .string ⟨#[]⟩, .string ⟨#[]⟩] (0,0) _ rfl (setRow_heap _ _ _ _ _ _ hblk.out) underlying264 rfl aN) rfl ⟨?_,below_setRow (lj.out.2.2.2.trans (dS.out.mono lj.out.2.2.2.size)) (Nat.le_refl _) _⟩
     exact ⟨em,rfl⟩
   | some vn=>
     obtain ⟨⟨va,vb,vc,vp,vm,vo⟩,n⟩:=vn
     go_wp2_with (first
      | (go_at_call 167;refine Pz.out.mono ?_;rintro e w5 ⟨he,bz⟩;simp only [iu,SV.val] at he;subst he;have dS:=Y0 bz;clear bz;have hblk:=Y0 (aJ lj.out.2.1 (by have:=lj.out.2.2.1;omega) dS.out))
      | (refine wpList_store_row (o:=⟨none,Op.store 264 (Operand.tmp 2) (Operand.tmp 74),_,_,_,_⟩) rfl 264 _ _ rfl w.heap.size #[.int .u64 va, .int .u64 vb, .int .u64 vc, .string vp, .string vm, .string vo] rfl rfl 264 #[.int .u64 0, .int .u64 0, .int .u64 0, .string ⟨#[]⟩, .string ⟨#[]⟩, .string ⟨#[]⟩] hblk.out aN rfl (Eg _ _ _ _ _ _) ?_))
     (try simp only [Exit.inBlock,Exit.then])
     refine bodyPost_ret (cF results176 _ (w5.setRow w.heap.size #[.int .u64 va, .int .u64 vb, .int .u64 vc, .string vp, .string vm, .string vo]) w.heap.size 264 #[.int .u64 va, .int .u64 vb, .int .u64 vc, .string vp, .string vm, .string vo] (0,0) _ rfl (setRow_heap _ _ _ _ _ _ hblk.out) underlying264 rfl aN) rfl ⟨?_,below_setRow (lj.out.2.2.2.trans (dS.out.mono lj.out.2.2.2.size)) (Nat.le_refl _) _⟩;rfl
 have hd2:2<r.size:=by
  rw [Bool.and_eq_true] at hb;exact qL hb.1
 have hx:Hid (qG text=qG (l6 r)):=Y0 (by rw [H.out,hst.out,hb];rfl);clear hb hpl hst H;have hs2:IntKind.i64.wrap ((r.size:Int) - 2)=(r.size:Int) - 2:=IntWalk.i64_in _ (by omega);go_wp2;have hcs:=lf r;unfold l6 at hcs;go_round
 case rel=>exact ⟨l6 r,rfl,by unfold l6;omega,hx⟩
 simp [AW];omega
theorem Eh {a b:aa} (h:a.data.toList=b.data.toList):a=b:=ByteArray.ext (Array.ext' h)
theorem wG (r:aa) (h:0<r.size):ops r.data.toList=if JX r[0].toNat then ops (r.data.toList.drop 1)+1 else 0:=by
 have:=drop_cons r 0 h;rw [List.drop_zero] at this;rw [this];rfl
theorem AX (r:aa) (h:r.size=0):ops r.data.toList=0:=by
 have e:r.data.toList= []:=List.eq_nil_of_length_eq_zero (by rw [size_data];exact h);rw [e];rfl
theorem AY (o r term:aa) (h:0<r.size) (ht:term.data.toList=o.data.toList++r.data.toList):term.data.toList=(o++r.extract 0 1).data.toList++(r.extract 1 r.size).data.toList/\(o++r.extract 0 1).size=o.size+1:=by
 have h1:(o++r.extract 0 1).data.toList=o.data.toList++(r.extract 0 1).data.toList:=by simp
 have h2:(r.extract 0 1).data.toList=r.data.toList.take 1:=by rw [Lib.extract_data];simp
 have h3:(r.extract 1 r.size).data.toList=r.data.toList.drop 1:=Lib.extract_to_end r 1;refine ⟨by rw [h1,h2,h3,ht,List.append_assoc,List.take_append_drop], ?_⟩;rw [<-size_data,h1,List.length_append,h2,List.length_take,size_data,size_data];omega
theorem ui (o r term:aa) (ht:term.data.toList=o.data.toList++r.data.toList) (hn:ops term.data.toList=o.size):r=term.extract (ops term.data.toList) term.size/\lJ term=o.data.toList:=by
 have h1:o.data.toList.length=o.size:=size_data o;refine ⟨Eh ?_, ?_⟩
 · rw [Lib.extract_to_end,hn,ht,<-h1,List.drop_left]
 unfold lJ;rw [hn,ht,<-h1,List.take_left]
theorem Ei (l:List UInt8):l= []\/l= [61]\/l= [33,61]\/l= [62]\/l= [62,61]\/l= [61,62]\/l= [60]\/l= [60,61]\/l= [61,60]\/l= [126]\/l= [126,62]\/l= [94]\/
 (il l= .bad/\l≠ []/\l≠ [61]/\l≠ [33,61]/\l≠ [62]/\l≠ [62,61]/\l≠ [61,62]/\l≠ [60]/\l≠ [60,61]/\l≠ [61,60]/\l≠ [126]/\l≠ [126,62]/\l≠ [94]):=by
 by_cases h:l= []\/l= [61]\/l= [33,61]\/l= [62]\/l= [62,61]\/l= [61,62]\/l= [60]\/l= [60,61]\/l= [61,60]\/l= [126]\/l= [126,62]\/l= [94]
 · rcases h with h|h|h|h|h|h|h|h|h|h|h|h<;>simp [h]
 simp only [not_or] at h;obtain ⟨h1,h2,h3,h4,h5,h6,h7,h8,h9,h10,h11,h12⟩:=h;refine .inr (.inr (.inr (.inr (.inr (.inr (.inr (.inr (.inr (.inr (.inr (.inr ⟨?_,h1,h2,h3,h4,h5,h6,h7,h8,h9,h10,h11,h12⟩)))))))))));unfold il;split<;>first|rfl|contradiction
theorem AZ:∀(k:Nat) (r:aa) (ns ns':List Nat) (r':aa),oY k r ns=some (ns',r')->ns'.length<=ns.length+k
 | 0,r,ns,ns',r',h=>by
   simp only [oY,Option.some.injEq,Prod.mk.injEq] at h
   rw [<-h.1];omega
 | k+1,r,ns,ns',r',h=>by
   simp only [oY] at h;split at h
   · cases h
   split at h
   · cases h
   split at h
   · have:=AZ k _ _ _ _ h;simp at this;omega
   simp only [Option.some.injEq,Prod.mk.injEq] at h;rw [<-h.1];simp<;>omega
theorem Ej {t:aa} {v:SV} {n:Nat} (h:fE t=some (v,n)):n<=3:=by
 unfold fE at h;split at h
 · cases h
 rename_i ns r h1;have h2:=AZ _ _ _ _ _ h1;split at h
 · cases h
 split at h
 · cases h
 split at h
 · simp only [Option.some.injEq,Prod.mk.injEq] at h;rw [<-h.2];simpa using h2
 cases h
theorem wH {t:aa} {v:SV} {n:Nat} (h:gN t=some (v,n)):n<=3:=by
 unfold gN at h;split at h
 · simp only [Option.some.injEq,Prod.mk.injEq] at h;omega
 split at h
 · cases h
 exact Ej h
def jq (F:Nat->Prop) (w':World) (o:Option Sc) (e:Ending):Prop:=match o with
 | some c=>∃v,e= .returned (.tuple #[v, .nilIface])/\gq F w' v c
 | none=>∃m,e= .returned (.tuple #[.nilIface, .iface 253 (.pointer (some ⟨m,0,none⟩))])
def SV.arr (v:SV):Array Value:= #[.int .u64 v.a, .int .u64 v.b, .int .u64 v.c, .string v.pr, .string v.mt, .string v.og]
theorem SV.val_arr (v:SV):v.val= .agg v.arr:=rfl
theorem SV.arr_one (v:SV):v.arr.all (·.oneCell')=true:=by
 obtain ⟨a,b,c,p,m,o⟩:=v;exact Eg a b c p m o
abbrev dC:Value:= .slice none 0 0
theorem sY (v:SV) (n:Nat) (w:World) (hn:n<=3):Calls Tryz.prog 177 #[.agg v.arr, .int .i64 n] w fun e w'=>e= .returned (.agg (v.after n).arr)/\Below w.heap.size w w':=f177 v n w hn
abbrev av (W:World) (g:Nat) (cs:Array Value) (t:TypeId):Prop:=W.heap[g]?=some (.cells cs t (0,0))
theorem aaj (g j:Nat):(⟨g,0,none⟩:Addr).add j=⟨g,j,none⟩:=by rw [jo,Nat.zero_add]
section
variable {ops:Array Oper} {rest:List Oper} {o:Oper} {a:Act} {w:World} {Q:Exit->Act->World->Prop}
theorem pK (hgd:o.guard=none) (x:Operand) (ho:o.op= .load 264 x) (g:Nat) (hx:a.eval x= .pointer (some ⟨g,0,none⟩)) (v:SV) (hc:av w g v.arr 264) (h:wpList Tryz.prog ops Q rest (a.put o.dst (.agg v.arr)) w):wpList Tryz.prog ops Q (o::rest) a w:=
 wpList_load_row hgd 264 x ho g hx 264 v.arr (0,0) _ hc underlying264 rfl aN h
theorem Og (hgd:o.guard=none) (x:Operand) (ho:o.op= .load 329 x) (g:Nat) (hx:a.eval x= .pointer (some ⟨g,0,none⟩)) (p:Pc) (bv:Value) (hc:av w g (p.arr bv) 329) (h:wpList Tryz.prog ops Q rest (a.put o.dst (.agg (p.arr bv))) w):wpList Tryz.prog ops Q (o::rest) a w:=
 wpList_load_row hgd 329 x ho g hx 329 (p.arr bv) (0,0) _ hc underlying329 rfl bj h
def New (W0:World) (cs:Array Value) (t:TypeId) (W:World):Prop:=av W W0.heap.size cs t/\W.heap.size=W0.heap.size+1/\Below W0.heap.size W0 W
theorem cu {P:Program} {t:TypeId} {cs old:Array Value} (W0:World) (hgd:o.guard=none) (x y:Operand) (ho:o.op= .store t x y) (hx:a.eval x= .pointer (some ⟨W0.heap.size,0,none⟩)) (hy:a.eval y= .agg cs)
 (hi:(P.info? t).map (·.size)=some cs.size) (hold:old.size=cs.size) (h1:cs.all (·.oneCell')=true) (h:∀W,Hid (New W0 cs t W)->wpList P ops Q rest (a.put o.dst undef) W):wpList P ops Q (o::rest) a (W0.alloc (.cells old t)):=by
 obtain ⟨W,hW,h3,h4,h5⟩:=boxed W0 old cs t;refine wpList_store_row hgd t x y ho W0.heap.size cs hx hy t old (heap_alloc_new _ _) hi hold h1 ?_;rw [<-hW];exact h W (Y0 ⟨h3,h4,h5⟩)
theorem yF {P:Program} (hgd:o.guard=none) (t:TypeId) (ps:List (Nat × Operand)) (ho:o.op= .build t ps.toArray) (l:List (Nat × Value)) (hl:(ps.map fun p=>(p.1,a.eval p.2))=l) (cs:Array Value) (hb:P.built t l=some cs)
 (h:wpList P ops Q rest (a.put o.dst (.agg cs)) w):wpList P ops Q (o::rest) a w:=by
 have hl':(ps.toArray.map fun (i,x)=>(i,a.eval x)).toList=l:=by rw [<-hl];simp
 exact wpList_build hgd t ps.toArray ho (by rw [hl',hb];rfl) (by rw [hl',hb];exact h)
end
theorem PB (v:SV):Tryz.prog.built 329 [(0, .agg v.arr),(2, .bool true),(4, .bool true)]=some ((fk v).arr dC):=by kernel_rfl
theorem ZU (v a:SV):Tryz.prog.built 329 [(0, .agg v.arr),(2, .bool true),(4, .bool true),(1, .agg a.arr),(3, .bool true)]=some ((bG v a).arr dC):=by kernel_rfl
theorem sk (p:Pc) (W:World):(Instr.buildSlice 324 1 #[(0, .agg (p.arr dC))]).run Tryz.prog W= .ok (.slice (some ⟨W.heap.size,0,none⟩) 1 1) (W.alloc (.cells (p.arr dC) 329)):=Ek p none 0 0 W
theorem Vp (v:SV) (W:World):(Instr.buildSlice 327 1 #[(0, .agg v.arr)]).run Tryz.prog W= .ok (.slice (some ⟨W.heap.size,0,none⟩) 1 1) (W.alloc (.cells v.arr 264)):=by kernel_rfl
theorem Vq (p q:Pc) (W:World):(Instr.buildSlice 324 2 #[(0, .agg (p.arr dC)),(1, .agg (q.arr dC))]).run Tryz.prog W= .ok (.slice (some ⟨W.heap.size,0,none⟩) 2 2) (W.alloc (.cells (p.arr dC++q.arr dC) 329)):=by kernel_rfl
theorem od {F:Nat->Prop} {W:World} (p:Pc) (hp:p.bt= []) (hF:∀b,F b->b<W.heap.size):Rd mX F (W.alloc (.cells (p.arr dC) 329)) (.slice (some ⟨W.heap.size,0,none⟩) 1 1) [p]:=
 Rd.one (d:=mX) (x:=p) (cs:=p.arr dC) ⟨dC,rfl,by rw [hp];exact Rd.nil _ _ _ _ _ (by simp [maxLen])⟩ hF
theorem Vr {F:Nat->Prop} {W:World} (v:SV) (hF:∀b,F b->b<W.heap.size) (hF':∀b,F b->b<W.heap.size+1):
 Rd mX F ((W.alloc (.cells v.arr 264)).alloc (.cells (Pc.arr ⟨.zero, .zero,false,false,false,false, [v]⟩ (.slice (some ⟨W.heap.size,0,none⟩) 1 1)) 329)) (.slice (some ⟨W.heap.size+1,0,none⟩) 1 1) [⟨.zero, .zero,false,false,false,false, [v]⟩]:=by
 have h1:=Rd.one (d:=lO) (F:=F) (w:=W) (e:=264) (x:=v) (cs:=v.arr) rfl hF
 have h2:=Rd.one (d:=mX) (F:=F) (w:=W.alloc (.cells v.arr 264)) (e:=329) (x:=⟨.zero, .zero,false,false,false,false, [v]⟩) (cs:=Pc.arr ⟨.zero, .zero,false,false,false,false, [v]⟩ (.slice (some ⟨W.heap.size,0,none⟩) 1 1))
  ⟨_,rfl,h1.pure ((Below.refl _ _).alloc (Nat.le_refl _) _)⟩ (fun b hb=>by have:=hF b hb;simp;omega)
 rwa [World.size_alloc] at h2
theorem PC {F:Nat->Prop} {W:World} (p q:Pc) (hp:p.bt= []) (hq:q.bt= []) (hF:∀b,F b->b<W.heap.size):
 Rd mX F (W.alloc (.cells (p.arr dC++q.arr dC) 329)) (.slice (some ⟨W.heap.size,0,none⟩) 2 2) [p,q]:=by
 refine ⟨_,_,rfl,by simp,by simp [maxLen], .inr ⟨W.heap.size,0,rfl,fun h=>by have:=hF _ h;omega,by simp,fun i x hx=> ?_⟩⟩
 have hcell:∀j u,(p.cl dC++q.cl dC)[j]?=some u->(W.alloc (.cells (p.arr dC++q.arr dC) 329)).cell? ⟨W.heap.size,j,none⟩=some u:=fun j u hu=>
  ae (heap_alloc_new W (.cells (p.arr dC++q.arr dC) 329)) (by
   rw [<-Array.getElem?_toList,Array.toList_append];exact hu)
 rcases i with _|_|i
 · simp at hx;subst hx;refine ⟨p.cl dC,⟨dC,rfl,by rw [hp];exact Rd.nil _ _ _ _ _ (by simp [maxLen])⟩,fun j u hu=> ?_⟩;have hj:j<17:=(List.getElem?_eq_some_iff.1 hu).1;have:=hcell j u (by rw [List.getElem?_append_left (by exact hj)];exact hu);simpa [mX] using this
 · simp at hx;subst hx;refine ⟨q.cl dC,⟨dC,rfl,by rw [hq];exact Rd.nil _ _ _ _ _ (by simp [maxLen])⟩,fun j u hu=> ?_⟩;have:=hcell (17+j) u (by rw [List.getElem?_append_right (Nat.le_add_right 17 j)];show (q.cl dC)[17+j - 17]?=_;rw [Nat.add_sub_cancel_left];exact hu);simpa [mX] using this
 simp at hx
theorem PE {ops:Array Oper} {rest:List Oper} {o:Oper} {a:Act} {w:World} {Q:Exit->Act->World->Prop} (hgd:o.guard=none) (x y:Operand) (ho:o.op= .store 264 x y) (g:Nat) (hx:a.eval x= .pointer (some ⟨g,6,none⟩)) (h:SV) (hy:a.eval y= .agg h.arr)
 (p:Pc) (bv:Value) (hc:av w g (p.arr bv) 329) (hK:∀W,Hid (av W g (Pc.arr {p with hi:=h} bv) 329/\W.heap.size=w.heap.size/\Below g w W)->wpList Tryz.prog ops Q rest (a.put o.dst undef) W):wpList Tryz.prog ops Q (o::rest) a w:=
 wpList_plain hgd fun K hK'=>by
  have hr:=run_storeCells_at Tryz.prog g 6 329 h.arr.toList 0 (p.arr bv) w hc (by show 0+6+6<=17;decide) (fun v hv=>(Array.all_eq_true_iff_forall_mem.1 h.arr_one) v (by simpa using hv));have hcells:(p.arr bv).toList.take (6+0)++h.arr.toList++(p.arr bv).toList.drop (6+0+h.arr.toList.length)=(Pc.arr {p with hi:=h} bv).toList:=rfl
  have hsv:(storeVar 264 ⟨g,6,none⟩ (.agg h.arr)).run Tryz.prog w= .ok () (w.setRow g (Pc.arr {p with hi:=h} bv)):=by
   rw [hcells,Array.toArray_toList] at hr
   cases hq:Tryz.prog.info? 264 with
   | none=>have:=aN;simp [hq] at this
   | some i=>
     have hs:h.arr.size=i.size:=by have:=aN;simp [hq] at this;rw [this];rfl
     simp [storeVar,sizeOf,typeInfo,hq,Value.cells,hs,hr]
  unfold Oper.wp execOp;simp only [ho,hx,hy,Instr.storeAt,Instr.sureAddr,Sem.run_bind,Sem.run_pure,Result.andThen_ok,hsv];exact hK' _ _ (hK _ (Y0 ⟨setRow_heap _ _ _ _ _ _ hc,by simp,below_setRow (Below.refl _ _) (Nat.le_refl _) _⟩))
theorem J1 {w:World} {g:Nat} {p:Pc} {bv:Value} (hc:av w g (p.arr bv) 329):∃W,W=w.setCell ⟨g,13,none⟩ (.bool true)/\av W g (Pc.arr {p with hh:=true} bv) 329/\W.heap.size=w.heap.size/\Below g w W:=
 ⟨_,rfl,heap_setCell_same _ _ _ _ _ _ hc,by simp,Below.setCell (Below.refl g w) (p:=⟨g,13,none⟩) (Nat.le_refl g) _⟩
theorem uj {P:Program} {ops:Array Oper} {rest:List Oper} {o:Oper} {a:Act} {w:World} {Q:Exit->Act->World->Prop} (hgd:o.guard=none) (t:TypeId) (x y:Operand) (ho:o.op= .buildSlice t 2 #[(0,x),(1,y)]) (v u:Value) (hx:a.eval x=v) (hy:a.eval y=u) (r:Value) (W:World)
 (hrun:(Instr.buildSlice t 2 #[(0,v),(1,u)]).run P w= .ok r W) (h:wpList P ops Q rest (a.put o.dst r) W):wpList P ops Q (o::rest) a w:=
 wpList_plain hgd fun K hK=>by
  unfold Oper.wp execOp;simp only [ho,List.map_toArray,List.map_cons,List.map_nil,hx,hy,hrun,Sem.run_bind,Sem.run_pure,Result.andThen_ok];exact hK _ _ h
theorem sw (op:aa) (l:List UInt8) (h:op.data.toList=l) (b0 b1 b2 b3 b4 b5 b6 b7 b8 b9 Oh Oi:Bool)
 (hb: [l.isEmpty,l== [61],l== [33,61],l== [62],l== [62,61],l== [61,62],l== [60],l== [60,61],l== [61,60],l== [126],l== [126,62],l== [94]]= [b0,b1,b2,b3,b4,b5,b6,b7,b8,b9,Oh,Oi]):
 op.toList.isEmpty=b0/\(op.toList== [61])=b1/\(op.toList== [33,61])=b2/\(op.toList== [62])=b3/\(op.toList== [62,61])=b4/\(op.toList== [61,62])=b5/\(op.toList== [60])=b6/\(op.toList== [60,61])=b7/\(op.toList== [61,60])=b8/\(op.toList== [126])=b9/\(op.toList== [126,62])=Oh/\(op.toList== [94])=Oi:=by
 rw [ByteArray.toList_eq,h];simpa using hb
structure El (w:World) (x y:SV) (gv ga gl gi:Nat) (W:World):Prop where
 v:av W gv x.arr 264
 a:av W ga y.arr 264
 l:av W gl ((fk x).arr dC) 329
 i:av W gi ((bG x y).arr dC) 329
 b:Below w.heap.size w W
 s:w.heap.size<=gl/\gl<W.heap.size
theorem J2 (l:List UInt8) (e0:l≠ []) (e1:l≠ [61]) (e2:l≠ [33,61]) (e3:l≠ [62]) (e4:l≠ [62,61]) (e5:l≠ [61,62]) (e6:l≠ [60]) (e7:l≠ [60,61]) (e8:l≠ [61,60]) (e9:l≠ [126]) (e10:l≠ [126,62]) (e11:l≠ [94]):
 [l.isEmpty,l== [61],l== [33,61],l== [62],l== [62,61],l== [61,62],l== [60],l== [60,61],l== [61,60],l== [126],l== [126,62],l== [94]]= [false,false,false,false,false,false,false,false,false,false,false,false]:=by
 simp [e0,e1,e2,e3,e4,e5,e6,e7,e8,e9,e10,e11]
theorem LL (v:SV) (n:Nat):(JY v n=1/\((v.a:Int)==0)=false)\/(JY v n=1/\((v.a:Int)==0)=true/\¬(1:Int)<(n:Int))\/(JY v n=2/\((v.a:Int)==0)=true/\(1:Int)<(n:Int)/\((v.b:Int)==0)=false)\/
 (JY v n=2/\((v.a:Int)==0)=true/\(1:Int)<(n:Int)/\((v.b:Int)==0)=true/\¬(2:Int)<(n:Int))\/(JY v n=3/\((v.a:Int)==0)=true/\(1:Int)<(n:Int)/\((v.b:Int)==0)=true/\(2:Int)<(n:Int)):=by
 unfold JY;by_cases h1:v.a=0<;>by_cases h2:1<n<;>by_cases h3:v.b=0<;>by_cases h4:2<n<;>simp [h1,h2,h3,h4]<;>omega
theorem Ba (g:Sg) (v:SV) {n:Nat} (h:n≠0):iq g v n=match g with
 | .eq=>if n=3 then some (.ver v) else some (.rng [bG v (v.after n)])
 | .ne=>if n=3 then some (.rng [⟨.zero, .zero,false,false,false,false, [v]⟩]) else some (.rng [⟨.zero,v,false,true,false,false, []⟩,fk (v.after n)])
 | .gt=>if n=3 then some (.rng [⟨v, .zero,true,false,false,false, []⟩]) else some (.rng [fk (v.after n)])
 | .ge=>some (.rng [fk v])
 | .lt=>some (.rng [⟨.zero,v,false,true,false,false, []⟩])
 | .le=>if n=3 then some (.rng [⟨.zero,v,false,true,false,true, []⟩]) else some (.rng [⟨.zero,v.after n,false,true,false,false, []⟩])
 | .ti=>some (.rng [bG v (v.after (min n 2))])
 | .ca=>some (.rng [bG v (v.after (JY v n))])
 | .bad=>none:=by
 unfold iq;rw [if_neg h];cases g<;>rfl
end Go.Proofs.YtjenhelmpcajfaaGreatDoor
