/- a lock is told apart from another -/
import Derived.Test.YtjenhelmpcajfaaGreatDoorA43
import Derived.Test.YtjenhelmpcajfaaGreatDoorA41
set_option linter.all false
set_option maxRecDepth 100000
set_option maxHeartbeats 8000000
namespace Go.Proofs.YtjenhelmpcajfaaGreatDoor
open Go.Proofs.Tryz Go.RowKit
abbrev NF:Nat->Prop:=fun _=>False
abbrev Df:Array Value:= #[.slice none 0 0, .slice none 0 0, .slice none 0 0, .int .u32 0, .bool false]
abbrev Zp:Array Value:= #[.string ⟨#[]⟩, .bool false, .bool false, .slice none 0 0, .slice none 0 0, .nilIface, .nilIface, .string ⟨#[]⟩, .string ⟨#[]⟩, .string ⟨#[]⟩, .string ⟨#[]⟩, .int .u8 0, .int .u8 0, .int .i64 0, .int .i64 0, .bool false]
theorem rY:(Tryz.prog.info? 81).map (·.size)=some 5:=by kernel_rfl
theorem nS:(Tryz.prog.info? 149).map (·.size)=some 16:=by kernel_rfl
theorem Zq (w:World):(zeroValue 149).run Tryz.prog w= .ok (.agg Zp) w:=by kernel_rfl
theorem NV (m:Nat):(BZ m).all (·.oneCell')=true:=by
 simp only [BZ,List.all_toArray,List.all_cons,List.all_nil,oP,BU,Bool.and_self]
theorem Gv (A B C:Option Addr) (a b c d e f:Nat) (u:Int) (s:Bool):(#[.slice A a b, .slice B c d, .slice C e f, .int .u32 u, .bool s]:Array Value).all (·.oneCell')=true:=by
 simp only [List.all_toArray,List.all_cons,List.all_nil,oP,uW,kY,Bool.and_self]
theorem JK:(Value.nilIface).oneCell'=true:=rfl
theorem S5 (r:aa):(yT r).all (·.oneCell')=true:=by
 simp only [List.all_toArray,List.all_cons,List.all_nil,oP,uW,kY,BS,JK,Bool.and_self]
def Dg (n:Nat):Kd {cs:List Value // cs.length=n/\∀u∈cs,u.oneCell'=true} where
 sz:=n
 rep:=fun _ _ x cs=>cs=x.1
 len:=fun {_ _ x _} h=>by rw [h];exact x.2.1
 one:=fun {_ _ x _} h=>by rw [h];exact x.2.2
 step:=fun _ _ h=>h
abbrev JL (r:aa) (x:Bool) (u:Int) (A B:Option Addr) (c d:Nat) (b:Bool):Array Value:= #[.string r, .bool x, .bool false, .slice A 0 c, .slice B 0 d, .string ⟨#[]⟩, .string ⟨#[]⟩, .string ⟨#[]⟩, .string ⟨#[]⟩, .string ⟨#[]⟩, .string ⟨#[]⟩, .int .u8 0, .int .u8 0, .int .i64 0, .int .i64 0, .bool false, .int .u32 0, .bool false, .bool false, .bool false, .bool false, .bool false, .bool false, .bool false, .bool b, .int .u32 u, .bool x]
abbrev Z87:Array Value:=JL ⟨#[]⟩ false 0 none none 0 0 false
abbrev Zr:Nat:=216
theorem S6 (r:aa) (x:Bool) (u:Int) (A B:Option Addr) (c d:Nat) (b:Bool):(JL r x u A B c d b).all (·.oneCell')=true:=by
 simp only [List.all_toArray,List.all_cons,List.all_nil,oP,uW,kY,BS,Bool.and_self]
theorem NW (r:aa) (x:Bool) (u:Int) (A B:Option Addr) (c d:Nat) (b:Bool):∀v∈(JL r x u A B c d b).toList,v.oneCell'=true:=fun v hv=>by
 have:=S6 r x u A B c d b;rw [Array.all_eq_true_iff_forall_mem] at this;exact this v (by simpa using hv)
theorem NY:(Tryz.prog.info? 87).map (fun i=>(i.zero,i.size,i.bytes))=some (some (.agg Z87),(Dg 27).sz,Zr):=by kernel_rfl
theorem NZ {W:World} {x:Nat} {r:aa} (h:av W x (yT r) 149) (j:Nat) (v:Value) (hj:pH[j]?=some v):W.cell? ((⟨x,3,none⟩:Addr).add j)=some v:=by
 rw [jo,cell_of_row W x _ (yT r) 149 (0,0) h]
 match j with
 | 0|1|2|3|4|5|6|7|8|9|10|11|12=>exact hj
 | n+13=>simp at hj
theorem AP {P:Program} {o:Oper} {ev:Operand->Value} {w:World} (ty:TypeId) (x:Operand) (ho:o.op= .load ty x) (ad:Addr) (hx:ev x= .pointer (some ad)) (cs:Array Value) (d:TypeDesc) (hc:∀j v,cs[j]?=some v->w.cell? (ad.add j)=some v)
 (hu:P.underlying ty=some d) (hd:(match d with| .struct _| .array _ _=>true|_=>false)=true) (hi:(P.info? ty).map (·.size)=some cs.size):(execOp ev o).run P w= .ok (.value (.agg cs)) w:=by
 unfold execOp;simp only [ho,hx,Instr.loadAt,Instr.sureAddr,Sem.run_bind,Sem.run_pure,Result.andThen_ok,kC w ad ty cs d hc hu hd hi]
abbrev JM (A B:Option Addr) (c d:Nat) (v:Value):Array Value:= #[.slice A 0 c, .slice B 0 d,v, .int .u32 2, .bool true]
theorem N0 {F:Nat->Prop} {w:World} {r:aa} {A B:Option Addr} {c d:Nat} {h:(JL r true 2 A B c d true).toList.length=27/\∀u∈(JL r true 2 A B c d true).toList,u.oneCell'=true} {cs:List Value} {g off:Nat} (hcs:(Dg 27).rep F w ⟨(JL r true 2 A B c d true).toList,h⟩ cs)
 (hx:∀j u,cs[j]?=some u->w.cell? ⟨g,off+0*(Dg 27).sz+j,none⟩=some u):w.cell? ⟨g,off+1,none⟩=some (.bool true):=by
 have e:cs=(JL r true 2 A B c d true).toList:=hcs;subst e;simpa using hx 1 _ rfl
theorem S7 {w:World} {P:World->Prop} (_:Ev w P) (r:aa) (A B:Option Addr) (c d:Nat):∃W,W=w.alloc (.cells (JL r true 2 A B c d true) 87)/\Below w.heap.size w W/\Rd (Dg 27) NF W (.slice (some ⟨w.heap.size,0,none⟩) 1 1) [⟨(JL r true 2 A B c d true).toList,rfl,NW _ _ _ _ _ _ _ _⟩]:=
 ⟨_,rfl,mF _ _,Rd.one rfl (fun _ h=>h.elim)⟩
theorem S8 {w:World} {q:Nat} {A B:Option Addr} {c d:Nat} {u:Value} (h:av w q (JM A B c d u) 81) (v:Value):av (w.setCell ⟨q,2,none⟩ v) q (JM A B c d v) 81/\Below q w (w.setCell ⟨q,2,none⟩ v)/\∀b,b≠q->(w.setCell ⟨q,2,none⟩ v).heap[b]?=w.heap[b]?:=
 ⟨heap_setCell_same w q 2 _ _ v h,ei (a:=⟨q,2,none⟩) (Nat.le_refl _) _,fun b hb=>heap_setCell_other _ ⟨q,2,none⟩ b _ hb⟩
theorem sQ {w W W':World} {q x:Nat} {r:Array Value} {s:aa} (h:Below q w W/\av W x r 149/\W.cell? ⟨x,0,none⟩=some (.string s)) (hb:Below q W W') (hk:∀b,b≠q->W'.heap[b]?=W.heap[b]?) (hx:q≠x):Below q w W'/\av W' x r 149/\W'.cell? ⟨x,0,none⟩=some (.string s):=
 ⟨h.1.trans hb,(hk x (Ne.symm hx)).trans h.2.1,(World.cell?_of_block (w:=W) (a:=⟨x,0,none⟩) (hk x (Ne.symm hx))).trans h.2.2⟩
def S9 (w:World) (e:Ending) (w':World):Prop:=∃A n c B m d g off k,e= .returned (.agg #[.slice A n c, .slice B m d, .slice (some ⟨g,off,none⟩) 1 k, .int .u32 2, .bool true])/\w'.cell? ⟨g,off+1,none⟩=some (.bool true)/\1<=k/\Below w.heap.size w w'
abbrev L32 (A:Option Addr) (c:Nat):List Obj:= [.cells #[.slice none 0 0, .slice none 0 0] 25, .cells #[.slice none 0 0, .slice A 1 c] 25, .cells Df 81]
theorem f32 (A0:Option Addr) (k0:Nat) (l:LD) (w:World) (hp:Rd E0 NF w (.slice A0 1 k0) [l]) (hl:l.Ok) (hg:Gl w):
 Calls Tryz.prog 32 #[.agg #[.slice none 0 0, .slice none 0 0], .agg #[.slice none 0 0, .slice A0 1 k0], .int .u32 2] w (S9 w):=by
 obtain ⟨w1,hW1⟩:∃W,W=dE w (L32 A0 k0):=⟨_,rfl⟩;have hs1:w1.heap.size=w.heap.size+3:=by rw [hW1,eH];rfl
 have dz:Hid (Below w.heap.size w w1):=Y0 (by rw [hW1];exact dI _ _);have hA:=fq (L32 A0 k0) w;rw [<-hW1] at hA;have HA:=Y0 hA;have lj:=Y0 hW1;have nU:=Y0 hs1;have HP:=Y0 (hp.pure dz.out);have HG:=Y0 (hg.pure dz.out);have HL:=Y0 hl;have hS:Hid (∀W,Below w1.heap.size w1 W->Below w1.heap.size w1 W/\W.cell? ⟨w.heap.size,0,none⟩=some (.slice none 0 0)/\W.cell? ⟨w.heap.size,1,none⟩=some (.slice none 0 0)/\W.cell? ⟨w.heap.size+1,0,none⟩=some (.slice none 0 0)/\W.cell? ⟨w.heap.size+1,1,none⟩=some (.slice A0 1 k0)):=Y0 fun W h=>⟨h,aK (hA 0 _ rfl) h _ rfl,aK (hA 0 _ rfl) h _ rfl,aK (hA 1 _ rfl) h _ rfl,aK (hA 1 _ rfl) h _ rfl⟩
 clear hp hg hl hW1 hA hs1;go_enter func32,ntmps32;go_upto_region 1 with fail;rw [show ((w.alloc (.cells #[.slice none 0 0, .slice none 0 0] 25)).alloc (.cells #[.slice none 0 0, .slice A0 1 k0] 25)).alloc (.cells Df 81)=w1 from lj.out.symm];go_cut [7] (fun al wx=>∃p m,al= .pointer (some ⟨p,0,none⟩)/\Hid (av wx p (BZ m) 136/\Below w1.heap.size w1 wx/\w1.heap.size<=p/\ah (r9 l.root) wx m [(l.root,())]))
 case first=>
  refine wp_region_held_drew (S:=fun W=>Below w1.heap.size w1 W/\W.cell? ⟨w.heap.size,0,none⟩=some (.slice none 0 0)/\W.cell? ⟨w.heap.size,1,none⟩=some (.slice none 0 0)/\W.cell? ⟨w.heap.size+1,0,none⟩=some (.slice none 0 0)/\W.cell? ⟨w.heap.size+1,1,none⟩=some (.slice A0 1 k0)) (by kernel_rfl) (hS.out _ (Below.refl _ _).drew) (fun hHeld=> ?_);refine ik [0,2] ?_
  repeat' (first
   | exact AllReadyH.nil
   | refine eO [1,5] ?_
   | refine eO [3,5] ?_
   | refine eO [4,5] ?_
   | refine eO [5] ?_
   | refine eO [1] ?_
   | refine eO [3] ?_
   | refine eO [4] ?_
   | refine eO [6] ?_
   | (refine iL (i:=1) (fun K hK=> ?_) ?_;go_simp;go_at_call 33;have aR:Below w1.heap.size w1 _/\_:=(by assumption);refine (f33 (F:=NF) [] [] _ _ _ (Rd.nil _ _ _ _ _ (Nat.zero_le _)) (Rd.nil _ _ _ _ _ (Nat.zero_le _)) (by simp) (by simp) (by simp) (HG.out.pure aR.1) (fun _ h=>h.elim)).mono ?_;rintro e wN ⟨v1,rfl,lZ,hB⟩;have dM:=hS.out _ (aR.1.trans (hB.mono aR.1.size));(try (have eJ:Fl oW 136 w1 _ _:=(by assumption);have qb:=eJ.pure hB));(try have jB:=jB.next hB);(try have gT:=gT.next hB);obtain ⟨LA,ln,lc,LB,lm,ld,rfl,hl2,N8⟩:=lZ;have e1:ln=0:=hl2.bound.1;have e2:lm=0:=N8.bound.1;subst e1 e2;clear hl2 N8;clear hB;refine hK.out _ _ dM (fun hHeld=> ?_);clear hK K;(try simp only [Act.put,aA,aB,aC]))
   | (refine iL (i:=3) (fun K hK=> ?_) ?_;go_simp;go_at_call 33;have aR:Below w1.heap.size w1 _/\_:=(by assumption);refine (f33 (F:=NF) [l] [] _ _ _ (Rd.nil _ _ _ _ _ (Nat.zero_le _)) (HP.out.pure aR.1) (by intro x hx;rw [List.mem_singleton.1 hx];exact HL.out) (by simp) (by simp) (HG.out.pure aR.1) (fun _ h=>h.elim)).mono ?_;rintro e wN ⟨v2,rfl,lZ,hB⟩;have dM:=hS.out _ (aR.1.trans (hB.mono aR.1.size));(try (have eJ:Fl oW 136 w1 _ _:=(by assumption);have qb:=eJ.pure hB));(try have jB:=jB.next hB);(try have gT:=gT.next hB);obtain ⟨MA,mn,mc,MB,mm,md,rfl,hl2,N8⟩:=lZ;have e1:mn=1:=hl2.bound.1;have e2:mm=0:=N8.bound.1;subst e1 e2;have jB:Ev wN (fun W=>Rd GM NF W (.slice MA 1 mc) [l.lp]):=Ev.of fun W h=>hl2.pure h;clear hl2 N8;clear hB;refine hK.out _ _ dM (fun hHeld=> ?_);clear hK K;(try simp only [Act.put,aA,aB,aC]))
   | (refine iL (i:=4) (fun K hK=> ?_) ?_;go_simp;go_at_call 55;have aR:Below w1.heap.size w1 _/\_:=(by assumption);refine (f55 (F:=NF) LA LB MA MB lc ld mc md l.lp _ jB.now).mono ?_;rintro e wN ⟨m,rfl,hM,hB⟩;have dM:=hS.out _ (aR.1.trans (hB.mono aR.1.size));(try (have eJ:Fl oW 136 w1 _ _:=(by assumption);have qb:=eJ.pure hB));(try have jB:=jB.next hB);(try have gT:=gT.next hB);have gT:Ev wN (fun W=>ah (r9 l.root) W m [(l.root,())]):=Ev.of fun W h=>hM.pure h;clear hM;clear hB;refine hK.out _ _ dM (fun hHeld=> ?_);clear hK K;(try simp only [Act.put,aA,aB,aC]))
   | (refine iL (i:=5) (fun K hK=> ?_) ?_;go_simp;have aR:Below w1.heap.size w1 _/\_:=(by assumption);have qb:=Fl.new (z:=oW) (t:=136) aR.1;have dM:=hS.out _ (aR.1.alloc aR.1.size (.cells oW 136));have hb:=NI aR.1 (.cells oW 136);(try have jB:=jB.next hb);(try have gT:=gT.next hb);(try clear hb);refine hK.out _ _ dM (fun hHeld=> ?_);clear hK K;(try simp only [Act.put,aA,aB,aC]))
   | (refine iL (i:=6) (fun K hK=> ?_) ?_;have aR:Below w1.heap.size w1 _/\_:=(by assumption);have eJ:Fl oW 136 w1 _ _:=(by assumption);refine rT (cs:=BZ m) (old:=oW) rfl _ _ rfl _ rfl rfl eJ.row nR rfl (NV _) ?_;intro WN HN;have dM:=hS.out _ (aR.1.trans (HN.out.2.2.2.mono eJ.lo));refine hK.out _ _ dM (fun hHeld=> ?_);clear hK K;(try simp only [Act.put,aA,aB,aC]))
   | (refine N7 ?_;go_wp2_with fail;go_meet;exact ⟨_,m,rfl,Y0 ⟨HN.out.1,dM.1,eJ.lo,map_set gT.now eJ.row (fun k _ h=>HN.out.2.2.1 k h)⟩⟩)
   | fail)
 obtain ⟨p,m,rfl,H2⟩:=hcut;obtain ⟨w2,rfl⟩:∃W:World,W=wc:=⟨_,rfl⟩;have hp2:p<w2.heap.size:=(Array.getElem?_eq_some_iff.1 H2.out.1).1;have hw2:=H2.out.2.1.size;have wC:=H2.out.2.2.1;have HM:=Y0 H2.out.2.2.2;have ji:Hid (∀W,Below w2.heap.size w2 W->Below w2.heap.size w2 W/\av W p (BZ m) 136/\W.cell? ⟨p,0,none⟩=some (.slice none 0 0)/\W.cell? ⟨p,1,none⟩=some (.slice none 0 0)):=Y0 fun W h=>⟨h,(h.block _ hp2).trans H2.out.1,aK H2.out.1 h _ rfl,aK H2.out.1 h _ rfl⟩
 clear hS;have hS:=ji;clear ji;apply_assumption;go_upto_region 2 with fail;go_cut [8] (fun al wx=>∃q A c B d,al= .pointer (some ⟨q,0,none⟩)/\Hid (av wx q (JM A B c d (.slice none 0 0)) 81/\Below w2.heap.size w2 wx/\w2.heap.size<=q))
 case first=>
  refine wp_region_held_drew (S:=fun W=>Below w2.heap.size w2 W/\av W p (BZ m) 136/\W.cell? ⟨p,0,none⟩=some (.slice none 0 0)/\W.cell? ⟨p,1,none⟩=some (.slice none 0 0)) (by kernel_rfl) (hS.out _ (Below.refl _ _).drew) (fun hHeld=> ?_);refine ik [0,1,3,4] ?_;refine sN 6 ?_ ?_ ?_;rotate_left;(intro w0 hSw;refine bJ 136 (Operand.tmp 7) ?_ p ?_ 136 (BZ m) (0,0) _ hSw.2.1 underlying136 rfl nR<;>rfl);(try simp only [Act.put,aA,aB,aC]);refine sN 8 ?_ ?_ ?_;rotate_left;(intro w0 hSw;refine bJ 136 (Operand.tmp 7) ?_ p ?_ 136 (BZ m) (0,0) _ hSw.2.1 underlying136 rfl nR<;>rfl);(try simp only [Act.put,aA,aB,aC]);refine ik [9] ?_
  repeat' (first
   | exact AllReadyH.nil
   | refine eO [2,12] ?_
   | refine eO [5,12] ?_
   | refine eO [7,12] ?_
   | refine eO [10,12] ?_
   | refine eO [12] ?_
   | refine eO [2] ?_
   | refine eO [5] ?_
   | refine eO [7] ?_
   | refine eO [10] ?_
   | refine eO [13] ?_
   | (refine Pd 11 ?_;(try simp only [Act.put,aA,aB,aC]))
   | (refine iL (i:=2) (fun K hK=> ?_) ?_;go_simp;go_at_call 38;have aR:Below w2.heap.size w2 _/\_:=(by assumption);refine (jb (F:=NF) _ [] _ (Rd.nil _ _ _ _ _ (Nat.zero_le _)) (fun _ h=>h.elim) (Nat.zero_le _)).mono ?_;rintro e wN ⟨v,rfl,hr,hB⟩;have dM:=hS.out _ (aR.1.trans (hB.mono aR.1.size));(try (have eJ:Fl Df 81 w2 _ _:=(by assumption);have qb:=eJ.pure hB));obtain ⟨A,c,rfl⟩:=hr.form;clear hr;simp only [List.length_nil];clear hB;refine hK.out _ _ dM (fun hHeld=> ?_);clear hK K;(try simp only [Act.put,aA,aB,aC]))
   | (refine iL (i:=5) (fun K hK=> ?_) ?_;go_simp;go_at_call 38;have aR:Below w2.heap.size w2 _/\_:=(by assumption);refine (jb (F:=NF) _ [] _ (Rd.nil _ _ _ _ _ (Nat.zero_le _)) (fun _ h=>h.elim) (Nat.zero_le _)).mono ?_;rintro e wN ⟨v,rfl,hr,hB⟩;have dM:=hS.out _ (aR.1.trans (hB.mono aR.1.size));(try (have eJ:Fl Df 81 w2 _ _:=(by assumption);have qb:=eJ.pure hB));obtain ⟨B,d,rfl⟩:=hr.form;clear hr;simp only [List.length_nil];clear hB;refine hK.out _ _ dM (fun hHeld=> ?_);clear hK K;(try simp only [Act.put,aA,aB,aC]))
   | (refine iL (i:=7) (fun K hK=> ?_) ?_;go_simp;go_at_call 56;have aR:Below w2.heap.size w2 _/\_:=(by assumption);refine (f56 l.root m _ (HM.out.pure aR.1)).mono ?_;rintro e wN ⟨rfl,hB⟩;have dM:=hS.out _ (aR.1.trans (hB.mono aR.1.size));(try (have eJ:Fl Df 81 w2 _ _:=(by assumption);have qb:=eJ.pure hB));clear hB;refine hK.out _ _ dM (fun hHeld=> ?_);clear hK K;(try simp only [Act.put,aA,aB,aC]))
   | (refine iL (i:=10) (fun K hK=> ?_) ?_;go_simp;go_at_call 57;have aR:Below w2.heap.size w2 _/\_:=(by assumption);refine (f57 l.root m _ (HM.out.pure aR.1)).mono ?_;rintro e wN ⟨rfl,hB⟩;have dM:=hS.out _ (aR.1.trans (hB.mono aR.1.size));(try (have eJ:Fl Df 81 w2 _ _:=(by assumption);have qb:=eJ.pure hB));clear hB;refine hK.out _ _ dM (fun hHeld=> ?_);clear hK K;(try simp only [Act.put,aA,aB,aC]))
   | (refine iL (i:=12) (fun K hK=> ?_) ?_;go_simp;have aR:Below w2.heap.size w2 _/\_:=(by assumption);have qb:=Fl.new (z:=Df) (t:=81) aR.1;have dM:=hS.out _ (aR.1.alloc aR.1.size (.cells Df 81));have hb:=NI aR.1 (.cells Df 81);(try clear hb);refine hK.out _ _ dM (fun hHeld=> ?_);clear hK K;(try simp only [Act.put,aA,aB,aC]))
   | (refine iL (i:=13) (fun K hK=> ?_) ?_;have aR:Below w2.heap.size w2 _/\_:=(by assumption);have eJ:Fl Df 81 w2 _ _:=(by assumption);refine rT (cs:=JM A B c d (.slice none 0 0)) (old:=Df) rfl _ _ rfl _ rfl rfl eJ.row rY rfl (Gv _ _ _ _ _ _ _ _ _ _ _) ?_;intro WN HN;have dM:=hS.out _ (aR.1.trans (HN.out.2.2.2.mono eJ.lo));refine hK.out _ _ dM (fun hHeld=> ?_);clear hK K;(try simp only [Act.put,aA,aB,aC]))
   | (refine N7 ?_;go_wp2_with fail;go_meet;exact ⟨_,A,c,B,d,rfl,Y0 ⟨HN.out.1,dM.1,eJ.lo⟩⟩)
   | fail)
 obtain ⟨q,A,c,B,d,rfl,H3⟩:=hcut;obtain ⟨w3,rfl⟩:∃W:World,W=wc:=⟨_,rfl⟩;have MF:q<w3.heap.size:=(Array.getElem?_eq_some_iff.1 H3.out.1).1;have hw3:=H3.out.2.1.size;have hqr:=H3.out.2.2;have HM3:=Y0 (HM.out.pure H3.out.2.1);have O5:Hid (av w3 p (BZ m) 136):=Y0 ((H3.out.2.1.block _ hp2).trans H2.out.1);have x2:w3.cell? ⟨p,2,none⟩=some (.map (some m)):=ae O5.out rfl;clear hS;apply_assumption;go_wp2_with (go_at_call 58;refine (f58 (r9 l.root) m [(l.root,())] _ HM3.out (by simp)).mono ?_;rintro e w4 ⟨v4,xs,FK,rfl,hK,hO,K9,hB4⟩;obtain ⟨KA,kc,rfl⟩:=hO.form;have hxs:xs= [l.root]:=nA hK.1 (List.pairwise_singleton _ _) (fun s=>by rw [hK.2];simp [af]);subst hxs;have HK:=Y3 hO K9 hB4;clear hK hO K9 hB4);clear x2;have hw4:=HK.out.2.2.size;go_loopw [33] (fun i wr=>∃k:Nat,i= .int .i64 k/\k<=1/\Hid (oN (· =q) w4 wr/\∃Pv,av wr q (JM A B c d Pv) 81/\(k=0->Pv= .slice none 0 0)/\(k=1->∃g off cc,Pv= .slice (some ⟨g,off,none⟩) 1 cc/\w4.heap.size<=g/\1<=cc/\wr.cell? ⟨g,off+1,none⟩=some (.bool true)))) (fun i _=>1 - (intOf i).toNat)
 case atStart=>exact ⟨0,rfl,by omega,Y0 ⟨oN.refl _ _, .slice none 0 0,(HK.out.2.2.block _ MF).trans H3.out.1,fun _=>rfl,fun h=>by omega⟩⟩
 obtain ⟨k,rfl,hk,hc⟩:=hrel;have hsz:=hc.out.1.size;have Zt:Hid (av wr p (BZ m) 136):=Y0 ((hc.out.1.fr _ (by omega) (by omega)).trans ((HK.out.2.2.block _ (by omega)).trans O5.out));by_cases hlt:k<1
 · have fu:k=0:=by omega
   subst fu;obtain ⟨-,Pv,Kw,Zu,-⟩:=hc.out;have Zu:=Zu rfl;subst Zu;have C5:=Y0 Kw;have hrow:=aW (aX HK.out.1 (fun j hj=>hc.out.1.fr j (ak HK.out.1 hj).2.2.1 (by have:=(ak HK.out.1 hj).2.1;omega)) (fun _ q=>q));obtain ⟨gk,RM,hA,_,_⟩:=hrow.form (by simp);simp only [Value.slice.injEq,true_and] at hA;obtain ⟨rfl,rfl⟩:=hA;have hcell:wr.cell? ⟨gk,0,none⟩=some (.string l.root):=eW.at_ (base:=w3.heap.size) (e:=110) (l:= [l.root]) hrow rfl;have Nv:Hid (ah (r9 l.root) wr m [(l.root,())]):=Y0 (map_set (HM3.out.pure HK.out.2.2) ((HK.out.2.2.block _ MF).trans H3.out.1) (fun k h1 h2=>hc.out.1.fr k h1 h2));have y2:wr.cell? ⟨p,2,none⟩=some (.map (some m)):=ae Zt.out rfl;clear hrow Kw;have flag:True:=trivial;have hz:=Zq;have hlk:(((ai [(l.root,())] l.root).map (r9 l.root)).getD (.agg Zp))= .agg (yT l.root):=by simp [ai,r9]
   have OX:=Y0 hlk;have HZ:=Y0 hz;clear hlk hz
   go_upto_region 7 with (first
    | (clear flag;refine bL (o:=⟨some 40,_,_,_,_,_⟩) (f:=r9 l.root) rfl _ _ 134 rfl _ _ underlying134 underlying110 (.agg Zp) HZ.out rfl Nv.out rfl ?_;rw [OX.out];have aj:True:=trivial;go_frame)
    | (clear aj;refine cu (o:=⟨none,Op.store 149 (Operand.tmp 11) (Operand.tmp 40),_,_,_,_⟩) (cs:=yT l.root) wr rfl _ _ rfl rfl rfl nS rfl (S5 _) ?_;intro W4 H4;go_frame))
   have hx4:wr.heap.size<W4.heap.size:=by have:=H4.out.2.1;omega
   have MG:q<wr.heap.size:=by omega
   have UH:q≠wr.heap.size:=by omega
   have hRq:Hid (av W4 q (JM A B c d (.slice none 0 0)) 81):=Y0 ((H4.out.2.2.block _ MG).trans C5.out);have hS:Hid (∀W,Below W4.heap.size W4 W->Below q W4 W/\av W wr.heap.size (yT l.root) 149/\W.cell? ⟨wr.heap.size,0,none⟩=some (.string l.root)):=Y0 fun W h=>⟨h.mono (by omega),(h.block _ hx4).trans H4.out.1,aK H4.out.1 h _ rfl⟩
   have hE:Ev W4.drew (fun W=>Below W4.heap.size W4 W):=Ev.of fun W h=>((Below.refl _ _).drew).trans h
   clear hcell y2;refine wp_region_held_drew (S:=fun W=>Below q W4 W/\av W wr.heap.size (yT l.root) 149/\W.cell? ⟨wr.heap.size,0,none⟩=some (.string l.root)) (by kernel_rfl) (hS.out _ hE.now) (fun hHeld=> ?_);refine ik [0,2,3] ?_;refine sN 4 ?_ ?_ ?_;rotate_left;(intro w0 hSw;refine bJ 149 (Operand.tmp 11) ?_ wr.heap.size ?_ 149 (yT l.root) (0,0) _ hSw.2.1 underlying149 rfl nS<;>rfl);(try simp only [Act.put,aA,aB,aC]);refine sN 6 ?_ ?_ ?_;rotate_left;(intro w0 hSw;refine bJ 149 (Operand.tmp 11) ?_ wr.heap.size ?_ 149 (yT l.root) (0,0) _ hSw.2.1 underlying149 rfl nS<;>rfl);(try simp only [Act.put,aA,aB,aC]);refine ik [8] ?_;refine sN 9 ?_ ?_ ?_;rotate_left;(intro w0 hSw;refine AP 147 (Operand.tmp 49) ?_ ⟨wr.heap.size,3,none⟩ ?_ pH _ (NZ hSw.2.1) underlying147 rfl gj<;>rfl);(try simp only [Act.put,aA,aB,aC]);refine ik [10] ?_;refine sN 12 ?_ ?_ ?_;rotate_left;(intro w0 hSw;refine bJ 149 (Operand.tmp 11) ?_ wr.heap.size ?_ 149 (yT l.root) (0,0) _ hSw.2.1 underlying149 rfl nS<;>rfl);(try simp only [Act.put,aA,aB,aC]);refine sN 14 ?_ ?_ ?_;rotate_left;(intro w0 hSw;refine bJ 149 (Operand.tmp 11) ?_ wr.heap.size ?_ 149 (yT l.root) (0,0) _ hSw.2.1 underlying149 rfl nS<;>rfl);(try simp only [Act.put,aA,aB,aC]);refine ik [15] ?_
   repeat' (first
    | exact AllReadyH.nil
    | refine eO [1,5] ?_
    | refine eO [1,7] ?_
    | refine eO [1,11] ?_
    | refine eO [1,13] ?_
    | refine eO [1,16] ?_
    | refine eO [1,18] ?_
    | refine eO [1] ?_
    | refine eO [5] ?_
    | refine eO [7] ?_
    | refine eO [11] ?_
    | refine eO [13] ?_
    | refine eO [16] ?_
    | refine eO [18] ?_
    | refine eO [19] ?_
    | refine eO [21] ?_
    | (refine Pd 17 ?_;(try simp only [Act.put,aA,aB,aC]))
    | (refine Pd 20 ?_;(try simp only [Act.put,aA,aB,aC]))
    | (refine iL (i:=5) (fun K hK=> ?_) ?_;go_simp;go_at_call 59;refine (f59 _ _).mono ?_;rintro e wN ⟨rfl,hB⟩;have hE:=hE.next hB;have dM:=hS.out _ hE.now;clear hB;refine hK.out _ _ dM (fun hHeld=> ?_);clear hK K;(try simp only [Act.put,aA,aB,aC]))
    | (refine iL (i:=7) (fun K hK=> ?_) ?_;go_simp;go_at_call 60;refine (f60 _ _).mono ?_;rintro e wN ⟨rfl,hB⟩;have hE:=hE.next hB;have dM:=hS.out _ hE.now;clear hB;refine hK.out _ _ dM (fun hHeld=> ?_);clear hK K;(try simp only [Act.put,aA,aB,aC]))
    | (refine iL (i:=11) (fun K hK=> ?_) ?_;go_simp;go_at_call 61;refine (f61 _).mono ?_;rintro e wN ⟨A1,B1,c1,d1,rfl,hB⟩;have hE:=hE.next hB;have dM:=hS.out _ hE.now;clear hB;refine hK.out _ _ dM (fun hHeld=> ?_);clear hK K;(try simp only [Act.put,aA,aB,aC]))
    | (refine iL (i:=13) (fun K hK=> ?_) ?_;go_simp;go_at_call 62;refine (f62 _ _).mono ?_;rintro e wN ⟨rfl,hB⟩;have hE:=hE.next hB;have dM:=hS.out _ hE.now;clear hB;refine hK.out _ _ dM (fun hHeld=> ?_);clear hK K;(try simp only [Act.put,aA,aB,aC]))
    | (refine iL (i:=16) (fun K hK=> ?_) ?_;go_simp;go_at_call 63;refine (f63 _ _).mono ?_;rintro e wN ⟨rfl,hB⟩;have hE:=hE.next hB;have dM:=hS.out _ hE.now;clear hB;refine hK.out _ _ dM (fun hHeld=> ?_);clear hK K;(try simp only [Act.put,aA,aB,aC]))
    | (refine iL (i:=1) (fun K hK=> ?_) ?_;have y2:=aK hRq.out hE.now (j:=2) _ rfl;go_simp;have dM:=hS.out _ hE.now;clear y2;refine hK.out _ _ dM (fun hHeld=> ?_);clear hK K;(try simp only [Act.put,aA,aB,aC]))
    | (refine iL (i:=18) (fun K hK=> ?_) ?_;go_simp;obtain ⟨v5,ID,bz,hH⟩:=S7 hE l.root A1 B1 c1 d1;rw [<-ID];have HE:=Y0 hH;have hE:=hE.next bz;have dM:=hS.out _ hE.now;clear hH ID bz;refine hK.out _ _ dM (fun hHeld=> ?_);clear hK K;(try simp only [Act.put,aA,aB,aC]))
    | (refine iL (i:=19) (fun K hK=> ?_) ?_;have vN:=hE.now;have hs5:=vN.size;refine fg rfl _ _ 78 rfl (Dg 27) 87 (.agg Z87) Zr underlying78 NY rfl (by decide) rfl rfl (Own.nil (Dg 27) w4.heap.size 87 NF _) HE.out (by simp [maxLen]) (by simp [Zr]) (by omega) rfl 1 rfl ?_;intro A9 c9 w9 F9 sK ki kK jl;have hb9:=below_of jl rfl;have hE:=hE.next hb9;have jd:=sK.rd (F0:=NF) (fun _ h=>h.elim) (fun _ h=>h.elim) (by decide);obtain ⟨-,hc9,-⟩:=jd.bound;obtain ⟨g9,JN,cs9,rfl,-,-,Ta,hx9⟩:=jd.at_ (i:=0) rfl;have Tb:w4.heap.size<=g9:=(ak sK rfl).2.1;have Gw:w9.cell? ⟨g9,JN+1,none⟩=some (.bool true):=(N0 Ta hx9);have H9:=Y4 hc9 Tb Gw hE.now;have dM:=hS.out _ hE.now;have JO:=(H9.out.2.2.2.block _ (by omega)).trans hRq.out;have z2:=frozenAt (j:=2) JO;have y2:w9.cell? ⟨q,2,none⟩=some (.slice none 0 0):=ae JO rfl;have Zv:=Y0 JO;clear sK ki kK jl hb9 hc9 Tb Gw Ta hx9 jd JO vN;refine hK.out _ _ dM (fun hHeld=> ?_);clear hK K;(try simp only [Act.put,aA,aB,aC]))
    | (refine iL (i:=21) (fun K hK=> ?_) ?_;go_simp;have HST:=Y0 (S8 Zv.out (.slice (some ⟨g9,JN,none⟩) 1 c9));have dM:=sQ (hS.out _ H9.out.2.2.2) HST.out.2.1 HST.out.2.2 UH;refine hK.out _ _ dM (fun hHeld=> ?_);clear hK K;(try simp only [Act.put,aA,aB,aC]))
    | (refine N7 ?_;go_wp2_with fail;exact ⟨⟨1,rfl,by omega,Y0 ⟨((hc.out.1.pure (H4.out.2.2.mono hsz)).pure (H9.out.2.2.2.mono (by omega))).grown (gh _ _ _ _) (.inl rfl),_,HST.out.1,fun h=>by omega,fun _=>⟨g9,JN,c9,rfl,H9.out.2.1,H9.out.1,(World.cell?_of_block (w:=w9) (a:=⟨g9,JN+1,none⟩) (HST.out.2.2 g9 (by have:=H9.out.2.1;omega))).trans H9.out.2.2.1⟩⟩⟩,by simp [intOf]⟩)
    | fail)
 have hk1:k=1:=by omega
 subst hk1;obtain ⟨-,Pv,Kw,-,hP1⟩:=hc.out;obtain ⟨g,off,cc,rfl,hg4,hcc,hcell⟩:=hP1 rfl;have C5:=Y0 Kw;have HC:=Y3 hg4 hcc hcell;have O6:Hid (av wr (w.heap.size+2) Df 81):=Y0 ((hc.out.1.fr _ (by have:=nU.out;omega) (by have:=nU.out;omega)).trans ((HK.out.2.2.block _ (by have:=nU.out;omega)).trans ((H3.out.2.1.block _ (by have:=nU.out;omega)).trans ((H2.out.2.1.block _ (by have:=nU.out;omega)).trans (HA.out 2 _ rfl)))));have jz:Hid (Below w.heap.size w wr):=Y0 ((((dz.out.trans (H2.out.2.1.mono (by have:=nU.out;omega))).trans (H3.out.2.1.mono (by have:=nU.out;omega))).trans (HK.out.2.2.mono (by have:=nU.out;omega))).trans (hc.out.1.below (fun b hb=>by subst hb;have:=nU.out;omega) (by have:=nU.out;omega)));have HG2:Hid (w.heap.size+2<w4.heap.size):=Y0 (by have:=nU.out;omega);clear Kw hg4 hcc hcell
 have hfin:∀(a:Act) (W8:World),Hid (av W8 (w.heap.size+2) (JM A B c d (.slice (some ⟨g,off,none⟩) 1 cc)) 81/\W8.heap.size=wr.heap.size/\(∀k,k≠w.heap.size+2->W8.heap[k]?=wr.heap[k]?)/\Below (w.heap.size+2) wr W8)->a.tmps.getD 6 undef= .pointer (some ⟨w.heap.size+2,0,none⟩)->a.defers= []->bodyPost Tryz.prog Tryz.f32 (S9 w) Exit.ret a W8:=fun a W8 H8 hp zz=>by
  refine bodyPost_ret (df (p:=6) results32 a.tmps W8 (w.heap.size+2) 81 _ (0,0) _ hp H8.out.1 underlying81 rfl rY) zz ?_;exact ⟨_,_,_,_,_,_,g,off,cc,rfl,(World.cell?_of_block (w:=wr) (a:=⟨g,off+1,none⟩) (H8.out.2.2.1 g (by have:=HG2.out;have:=HC.out.1;omega))).trans HC.out.2.2,HC.out.2.1,jz.out.trans (H8.out.2.2.2.mono (by omega))⟩
 have uX:=Y0 hfin;clear hfin;have flag:True:=trivial
 go_wp2_with (first
  | (clear flag;refine wpList_load_row (o:=⟨some 63,_,_,_,_,_⟩) rfl 81 _ rfl q rfl 81 (JM A B c d (.slice (some ⟨g,off,none⟩) 1 cc)) (0,0) _ C5.out underlying81 rfl rY ?_;have aj:True:=trivial)
  | (clear aj;refine oL (o:=⟨none,Op.store 81 (Operand.tmp 6) (Operand.tmp 63),_,_,_,_⟩) (cs:=JM A B c d (.slice (some ⟨g,off,none⟩) 1 cc)) (old:=Df) rfl _ _ rfl (w.heap.size+2) rfl rfl O6.out rY rfl (Gv _ _ _ _ _ _ _ _ _ _ _) ?_;intro W8 H8;go_frame;refine wpList_nil ?_;dsimp only [Exit.then];apply_assumption;exact wp_ret (uX.out _ W8 H8 rfl rfl)))
abbrev Tc:LD:=⟨⟨#[97,46,98,47,99]⟩,⟨#[]⟩,⟨0,⟨#[114]⟩,⟨#[]⟩⟩, [],false,0,0, []⟩
theorem N1:Tc.Ok:=⟨by decide,by decide,by decide,by decide⟩
theorem f10 (w:World) (hg:Gl w):Calls Tryz.prog 10 #[] w (jy w (.bool true)):=by
 have hr:=Rd.one (d:=E0) (F:=NF) (w:=w) (e:=55) (x:=Tc) (cs:=Tc.arr (.slice none 0 0) (.slice none 0 0)) ⟨_,_,rfl,Rd.nil _ _ _ _ _ (Nat.zero_le _),Rd.nil _ _ _ _ _ (Nat.zero_le _)⟩ (fun _ h=>h.elim);have H32:=Y0 (f32 _ 1 Tc _ hr N1 (hg.pure (mF _ _)));have HB:=Y0 (mF w (.cells (Tc.arr (.slice none 0 0) (.slice none 0 0)) 55));clear hr hg;go_enter func10,ntmps10;go_wp2_with fail;go_at_call 32;refine H32.out.mono ?_;rintro e w2 ⟨A,n,c,B,m,d,g,off,k,rfl,hcell,hk,hB⟩;have iN:=Y0 (HB.out.trans (hB.mono HB.out.size));have HC:=Y0 hcell;have HK:=Y0 hk;clear hB hcell hk;have flag:True:=trivial;go_wp2_with (clear flag;refine cu (o:=⟨none,Op.store 81 (Operand.tmp 1) (Operand.tmp 7),_,_,_,_⟩) (cs:= #[.slice A n c, .slice B m d, .slice (some ⟨g,off,none⟩) 1 k, .int .u32 2, .bool true]) w2 rfl _ _ rfl rfl rfl rY rfl (Gv _ _ _ _ _ _ _ _ _ _ _) ?_;intro W4 H4;have x2:W4.cell? ⟨w2.heap.size,2,none⟩=some (.slice (some ⟨g,off,none⟩) 1 k):=ae H4.out.1 rfl;have x4:W4.cell? ⟨w2.heap.size,4,none⟩=some (.bool true):=ae H4.out.1 rfl;have xc:W4.cell? ⟨g,off+1,none⟩=some (.bool true):=(World.cell?_of_block (w:=w2) (a:=⟨g,off+1,none⟩) (H4.out.2.2.block _ (World.block_lt_of_cell? w2 _ HC.out))).trans HC.out);go_ret;exact eN rfl (iN.out.trans (H4.out.2.2.mono iN.out.size))
end Go.Proofs.YtjenhelmpcajfaaGreatDoor
