/- locked projects and needs -/
import Derived.Test.YtjenhelmpcajfaaGreatDoorA17
import Derived.Deep.Slices
import Derived.ChangeSame
import Derived.SizedLaws
set_option linter.all false
set_option maxRecDepth 100000
set_option maxHeartbeats 4000000
namespace Go.Proofs.YtjenhelmpcajfaaGreatDoor
open Go.Proofs.Tryz Go.RowKit
def lT:GV->Option UV
 | .rev _=>none
 | .un u=>some u
 | .pair u _=>some u
def nj:GV->aa
 | .rev r=>r
 | .un _=>⟨#[]⟩
 | .pair _ r=>r
structure iK where
 root:aa
 src:aa
 g:GV
def iK.cells (l:iK) (sl:Value):Value:= .agg #[.string l.root, .string l.src,fN (lT l.g), .string (nj l.g),sl]
def xy (v:Value) (l:iK):Prop:=∃A n c,v= .iface 282 (l.cells (.slice A n c))\/∃p h d,v= .iface 225 (.agg #[.iface 282 (l.cells (.slice A n c)),p,h,d])
theorem f105 (root src:aa) (g:GV) (A:Option Addr) (n cap:Nat) (w:World):Calls Tryz.prog 105 #[.agg #[.string root, .string src],g.val, .slice A n cap] w fun e w'=>e= .returned (.iface 282 (iK.cells ⟨root,src,g⟩ (.slice A n cap)))/\Below w.heap.size w w':=by
 have Ii:=EJ;have Ij:=EK;have Im:=EH;have Io:=EI;have EM:=Cv;have uy:=Cw;have Ik:=EF;have Il:=EG;have xq:=uw;have xt:=ux;rcases g with q|(⟨n,d⟩|q|⟨ua,ub,uc,up,um,uo⟩)|⟨(⟨n,d⟩|p|⟨ua,ub,uc,up,um,uo⟩),q⟩
 all_goals
  simp only [GV.val,UV.val,SV.val,iK.cells,fN,lT,nj];go_enter func105,ntmps105;go_wp2;go_ret;exact ⟨rfl,by (repeat (first|exact Below.refl _ _|refine Below.setCell ?_ (by simp) _|refine Below.alloc ?_ (by simp;try omega) _))⟩
theorem f320 (l:iK) (A:Option Addr) (n cap:Nat) (w:World):Calls Tryz.prog 320 #[l.cells (.slice A n cap)] w fun e w'=>e= .returned (.agg #[.string l.root, .string l.src])/\Below w.heap.size w w':=by
 simp only [iK.cells];generalize fN (lT l.g)=u;go_enter func320,ntmps320;go_wp2;exact bodyPost_ret (v:= .agg #[.string l.root, .string l.src]) (by simp [results,results320,go_sem]) rfl ⟨rfl,by (repeat (first|exact Below.refl _ _|refine Below.setCell ?_ (by simp) _|refine Below.alloc ?_ (by simp;try omega) _))⟩
def GV.Lk:GV->Prop
 | .rev r=>r.size≠0
 | .un _=>True
 | .pair _ r=>r.size≠0
theorem f323 (root src:aa) (g:GV) (hg:g.Lk) (A:Option Addr) (n cap:Nat) (w:World):Calls Tryz.prog 323 #[iK.cells ⟨root,src,g⟩ (.slice A n cap)] w fun e w'=>e= .returned g.val/\Below w.heap.size w w':=by
 rcases g with r|(⟨m,d⟩|m|v)|⟨(⟨m,d⟩|m|v),r⟩
 · have q:r.toList.isEmpty=false:=by rw [isEmpty_iff];simpa [GV.Lk] using hg
   clear hg;simp only [iK.cells,fN,lT,nj,UV.val];go_enter func323,ntmps323;go_wp2;go_ret;exact ⟨rfl,by (repeat (first|exact Below.refl _ _|refine Below.setCell ?_ (by simp) _|refine Below.alloc ?_ (by simp;try omega) _))⟩
 · simp only [iK.cells,fN,lT,nj,UV.val];go_enter func323,ntmps323;go_wp2;go_ret;exact ⟨rfl,by (repeat (first|exact Below.refl _ _|refine Below.setCell ?_ (by simp) _|refine Below.alloc ?_ (by simp;try omega) _))⟩
 · simp only [iK.cells,fN,lT,nj,UV.val];go_enter func323,ntmps323;go_wp2;go_ret;exact ⟨rfl,by (repeat (first|exact Below.refl _ _|refine Below.setCell ?_ (by simp) _|refine Below.alloc ?_ (by simp;try omega) _))⟩
 · simp only [iK.cells,fN,lT,nj,UV.val];go_enter func323,ntmps323;go_wp2;go_ret;exact ⟨rfl,by (repeat (first|exact Below.refl _ _|refine Below.setCell ?_ (by simp) _|refine Below.alloc ?_ (by simp;try omega) _))⟩
 · have q:r.toList.isEmpty=false:=by rw [isEmpty_iff];simpa [GV.Lk] using hg
   have HP:=Y0 fun W=>f329 m d r W
   clear hg;simp only [iK.cells,fN,lT,nj,UV.val];go_enter func323,ntmps323;go_wp2_with (go_at_call 329;refine (HP.out _).mono ?_;rintro e w3 ⟨rfl,bb⟩);go_ret;exact ⟨rfl,Below.trans (by (repeat (first|exact Below.refl _ _|refine Below.setCell ?_ (by simp) _|refine Below.alloc ?_ (by simp;try omega) _))) (bb.mono (by simp<;>omega))⟩
 · have q:r.toList.isEmpty=false:=by rw [isEmpty_iff];simpa [GV.Lk] using hg
   have HP:=Y0 fun W=>f339 m r W
   clear hg;simp only [iK.cells,fN,lT,nj,UV.val];go_enter func323,ntmps323;go_wp2_with (go_at_call 339;refine (HP.out _).mono ?_;rintro e w3 ⟨rfl,bb⟩);go_ret;exact ⟨rfl,Below.trans (by (repeat (first|exact Below.refl _ _|refine Below.setCell ?_ (by simp) _|refine Below.alloc ?_ (by simp;try omega) _))) (bb.mono (by simp<;>omega))⟩
 have q:r.toList.isEmpty=false:=by rw [isEmpty_iff];simpa [GV.Lk] using hg
 have HP:=Y0 fun W=>f297 v r W
 clear hg;simp only [iK.cells,fN,lT,nj,UV.val];go_enter func323,ntmps323;go_wp2_with (go_at_call 297;refine (HP.out _).mono ?_;rintro e w3 ⟨rfl,bb⟩);go_ret;exact ⟨rfl,Below.trans (by (repeat (first|exact Below.refl _ _|refine Below.setCell ?_ (by simp) _|refine Below.alloc ?_ (by simp;try omega) _))) (bb.mono (by simp<;>omega))⟩
section
variable {o:Oper} {a:Act} {w:World} {K:Act->World->Prop} {Q:Exit->Act->World->Prop} {l:iK} {lv:Value}
theorem Iz (h:xy lv l) (r:Operand) (hop:o.op= .call {callee:= .invoke r "Ident",args:= #[],argTypes:= #[]}) (hr:a.eval r=lv) (hK:∀w',Below w.heap.size w w'->K (a.put o.dst (.agg #[.string l.root, .string l.src])) w'):o.wp Tryz.prog a w K Q:=by
 obtain ⟨A,n,c,h|⟨p,q,d,h⟩⟩:=h
 all_goals
  subst h;refine ed r "Ident" _ _ hop _ _ 320 (l.cells (.slice A n c)) _ hr (fun w=>by kernel_rfl) func320 rfl (by kernel_rfl) (by simp:(#[]:Array Operand).map a.eval= #[]) _ (f320 l A n c w) ?_;rintro e w' ⟨rfl,h2⟩;exact ⟨_,rfl,hK w' h2⟩
theorem ow (h:xy lv l) (hl:l.g.Lk) (r:Operand) (hop:o.op= .call {callee:= .invoke r "Version",args:= #[],argTypes:= #[]}) (hr:a.eval r=lv) (hK:∀w',Below w.heap.size w w'->K (a.put o.dst l.g.val) w'):o.wp Tryz.prog a w K Q:=by
 obtain ⟨A,n,c,h|⟨p,q,d,h⟩⟩:=h
 all_goals
  subst h;refine ed r "Version" _ _ hop _ _ 323 (l.cells (.slice A n c)) _ hr (fun w=>by kernel_rfl) func323 rfl (by kernel_rfl) (by simp:(#[]:Array Operand).map a.eval= #[]) _ (f323 l.root l.src l.g hl A n c w) ?_;rintro e w' ⟨rfl,h2⟩;exact ⟨_,rfl,hK w' h2⟩
theorem ly {ops:Array Oper} {E:Prop} (hgd:o.guard=none) (h:xy lv l) (hl:l.g.Lk) (r:Operand) (hop:o.op= .call {callee:= .invoke r "Version",args:= #[],argTypes:= #[]}) (hr:a.eval r=lv) (hK:∀w',Below w.heap.size w w'->K (a.put o.dst l.g.val) w'):
 if Region.wanted o (yielded ops a.tmps)=true then Oper.wp Tryz.prog o a w K Q else E:=by
 have hw:Region.wanted o (yielded ops a.tmps)=true:=by simp [Region.wanted,hgd]
 rw [if_pos hw];exact ow h hl r hop hr hK
theorem lA {ops:Array Oper} {rest:List Oper} (hgd:o.guard=none) (h:xy lv l) (r:Operand) (hop:o.op= .call {callee:= .invoke r "Ident",args:= #[],argTypes:= #[]}) (hr:a.eval r=lv) (hK:∀w',Below w.heap.size w w'->wpList Tryz.prog ops Q rest (a.put o.dst (.agg #[.string l.root, .string l.src])) w'):wpList Tryz.prog ops Q (o::rest) a w:=
 wpList_plain hgd fun _ hK'=>Iz h r hop hr fun w' hb=>hK' _ _ (hK w' hb)
end
def IB:Kd UInt8 where
 sz:=1
 rep:=fun _ _ x cs=>cs= [.int .u8 x.toNat]
 len:=fun h=>by rw [h];rfl
 one:=fun h u hu=>by rw [h] at hu;simp at hu;rw [hu];rfl
 step:=fun _ _ h=>h
structure LD where
 root:aa
 src:aa
 v:VD
 pkgs:List aa
 ver:Bool
 prune:Int
 hash:Int
 dig:List UInt8
def LD.cl (l:LD) (pv dv:Value):List Value:= [.string l.root, .string l.src, .int .i64 l.v.kind, .string l.v.text, .string l.v.rev,pv, .bool l.ver, .int .u8 l.prune, .int .i64 l.hash,dv]
def LD.arr (l:LD) (pv dv:Value):Array Value:= #[.string l.root, .string l.src, .int .i64 l.v.kind, .string l.v.text, .string l.v.rev,pv, .bool l.ver, .int .u8 l.prune, .int .i64 l.hash,dv]
def E0:Kd LD where
 sz:=10
 rep:=fun F w l cs=>∃pv dv,cs=l.cl pv dv/\bK F w pv l.pkgs/\Rd IB F w dv l.dig
 len:=fun ⟨_,_,h,_⟩=>by rw [h];rfl
 one:=fun ⟨pv,dv,h,h1,h2⟩ u hu=>by
  obtain ⟨A,c,rfl⟩:=h1.form;obtain ⟨B,d,rfl⟩:=h2.form;subst h;simp [LD.cl] at hu;rcases hu with rfl|rfl|rfl|rfl|rfl|rfl|rfl|rfl|rfl|rfl<;>rfl
 step:=fun ho hk ⟨pv,dv,h,h1,h2⟩=>⟨pv,dv,h,h1.step' ho hk,h2.step' ho hk⟩
def LD.lp (l:LD):iK:=⟨l.root,l.src,jH l.v⟩
structure LD.Ok (l:LD):Prop where
 t:l.v.text.size<=40
 r:l.v.rev.size<=40
 n:l.pkgs.length<=1000
 d:l.dig.length<=1000
theorem Qp:(Tryz.prog.info? 5).map (fun i=>(i.zero,i.size,i.bytes))=some (some (.int .u8 0),IB.sz,1):=by kernel_rfl
abbrev Qq (w w1:World) (l:LD) (pv:Value) (W:World):Prop:=Below w1.heap.size w1 W/\W.cell? ⟨w.heap.size,0,none⟩=some (.string l.root)/\W.cell? ⟨w.heap.size,1,none⟩=some (.string l.src)/\W.cell? ⟨w.heap.size,2,none⟩=some (.int .i64 l.v.kind)/\W.cell? ⟨w.heap.size,3,none⟩=some (.string l.v.text)/\
 W.cell? ⟨w.heap.size,4,none⟩=some (.string l.v.rev)/\W.cell? ⟨w.heap.size,5,none⟩=some pv
theorem f64 {F:Nat->Prop} (l:LD) (pv dv:Value) (w:World) (hp:bK F w pv l.pkgs) (hd:Rd IB F w dv l.dig) (hl:l.Ok) (hg:Gl w) (hF:∀b,F b->b<w.heap.size):
 Calls Tryz.prog 64 #[.agg (l.arr pv dv)] w fun e w'=>∃v,e= .returned v/\xy v l.lp/\Below w.heap.size w w':=by
 obtain ⟨A,pc,rfl⟩:=hp.form;obtain ⟨D,dc,rfl⟩:=hd.form;obtain ⟨w1,hw1,g1,hs1,az⟩:=aZ w (.cells (l.arr (.slice A l.pkgs.length pc) (.slice D l.dig.length dc)) 55);have hC:Hid (∀W,Below w1.heap.size w1 W->∀j x,(l.arr (.slice A l.pkgs.length pc) (.slice D l.dig.length dc))[j]?=some x->W.cell? ⟨w.heap.size,j,none⟩=some x):=Y0 fun W hW j x hx=>aK g1 hW _ hx
 have hS:Hid (∀W,Below w1.heap.size w1 W->Qq w w1 l (.slice A l.pkgs.length pc) W):=Y0 fun W hW=>⟨hW,hC.out W hW 0 _ rfl,hC.out W hW 1 _ rfl,hC.out W hW 2 _ rfl,hC.out W hW 3 _ rfl,hC.out W hW 4 _ rfl,hC.out W hW 5 _ rfl⟩
 have Ww:=Y0 fun W (h:Below w1.heap.size w1 W)=>f49 l.v W hl.t ((hg.pure az).pure h)
 have H38:=Y0 fun W (h:Below w1.heap.size w1 W)=>jb (F:=F) (.slice A l.pkgs.length pc) l.pkgs W ((hp.pure az).pure h) (fun b hb=>by have:=hF b hb;have:=h.size;have:=az.size;omega) (by have:=hl.n;omega)
 have HD:=Y0 (hd.pure az);have HF:=Y0 fun b hb=>(show b<w1.heap.size by have:=hF b hb;omega)
 have HW:=Y3 hw1 hs1 az;have Vm:l.dig.length<=1000:=hl.d;clear hp hd hl hg hF hw1 g1 hs1 az;go_enter func64,ntmps64;go_wp2_with fail;rw [<-HW.out.1];go_region_held3 (fun W=>Qq w w1 l (.slice A l.pkgs.length pc) W) (first|assumption|exact hS.out _ (by repeat first|exact Below.refl _ _|refine Below.drew ?_)) (first|(go_at_call 49;have aR:Qq w w1 l _ _:=(by assumption);refine (Ww.out _ aR.1).mono ?_;rintro e w3 ⟨rfl,bb⟩;have iT:=hS.out w3 (aR.1.trans (bb.mono aR.1.size)))|(go_at_call 38;have hS1:Qq w w1 l _ _:=(by assumption);refine (H38.out _ hS1.1).mono ?_;rintro e w4 ⟨pv2,rfl,hr4,hB4⟩;obtain ⟨A4,c4,rfl⟩:=hr4.form;have Ma:=hS.out w4 (hS1.1.trans (hB4.mono hS1.1.size));clear hr4)|(go_at_call 105;have ji:Qq w w1 l _ _:=(by assumption);refine (f105 _ _ _ _ _ _ _).mono ?_;rintro e w5 ⟨rfl,bz⟩;have mK:=hS.out w5 (ji.1.trans (bz.mono ji.1.size))));have dS:Hid (Below w.heap.size w w5):=Y0 (HW.out.2.2.trans (mK.1.mono HW.out.2.2.size));have x6:w5.cell? ⟨w.heap.size,6,none⟩=some (.bool l.ver):=hC.out _ mK.1 6 _ rfl;have x7:w5.cell? ⟨w.heap.size,7,none⟩=some (.int .u8 l.prune):=hC.out _ mK.1 7 _ rfl;have x8:w5.cell? ⟨w.heap.size,8,none⟩=some (.int .i64 l.hash):=hC.out _ mK.1 8 _ rfl;have x9:w5.cell? ⟨w.heap.size,9,none⟩=some (.slice D l.dig.length dc):=hC.out _ mK.1 9 _ rfl;have T7:=Y0 (HD.out.pure mK.1);have T8:=Y0 mK.1;clear hS bz hB4 bb aR hS1 ji iT Ma mK;have hin:Hid (iK.cells ⟨l.root,l.src,jH l.v⟩ (.slice A4 l.pkgs.length c4)=iK.cells l.lp (.slice A4 l.pkgs.length c4)):=Y0 rfl;rw [hin.out];cases hv:l.ver
 · rw [hv] at x6;clear hv;go_wp2;go_ret;exact ⟨_,rfl,⟨_,_,_, .inl rfl⟩,dS.out⟩
 rw [hv] at x6;clear hv;go_wp2_with fail;have hT:Hid (∀W,Below w1.heap.size w1 W->(fun W=>Below w1.heap.size w1 W/\W.cell? ⟨w.heap.size,7,none⟩=some (.int .u8 l.prune)/\W.cell? ⟨w.heap.size,8,none⟩=some (.int .i64 l.hash)/\W.cell? ⟨w.heap.size,9,none⟩=some (.slice D l.dig.length dc)) W):=Y0 fun W hW=>⟨hW,hC.out W hW 7 _ rfl,hC.out W hW 8 _ rfl,hC.out W hW 9 _ rfl⟩
 refine wp_region_held_drew (S:=(fun W=>Below w1.heap.size w1 W/\W.cell? ⟨w.heap.size,7,none⟩=some (.int .u8 l.prune)/\W.cell? ⟨w.heap.size,8,none⟩=some (.int .i64 l.hash)/\W.cell? ⟨w.heap.size,9,none⟩=some (.slice D l.dig.length dc))) (by kernel_rfl) ?_ (fun hHeld=> ?_)
 · (try dsimp only)
   first|assumption|exact hT.out _ (by first|exact T8.out.drew|exact zF.out)
 refine ik [0,1,2,3,4,5,6] ?_;refine kq 7 (fun K hK=> ?_);refine fg (base:=w5.heap.size) (F:=F) rfl _ _ 53 rfl IB 5 (.int .u8 0) 1 underlying53 Qp rfl (by decide) rfl rfl (Own.nil _ _ _ _ _) (T7.out.pure ((Below.refl _ _).drew)) (by simp [maxLen];omega) (by simp;omega) (Nat.le_refl _) rfl l.dig.length (by simp) ?_;intro A7 c7 w7 F7 _ _ iV _;have zF:Hid (Below w1.heap.size w1 w7):=Y0 (T8.out.drew.trans (iV.mono T8.out.size));clear iV;refine hK.out _ _ ?_ (fun hHeld=> ?_)
 · (try dsimp only)
   first|assumption|exact hT.out _ (by first|exact T8.out.drew|exact zF.out)
 clear hK K
 (try simp only [Act.put,aA,aB,aC])
 refine ik [8,9,10,11] ?_;refine ve ?_;go_wp2;go_ret;exact ⟨_,rfl,⟨_,_,_, .inr ⟨_,_,_,rfl⟩⟩,HW.out.2.2.trans (zF.out.mono HW.out.2.2.size)⟩
def GM:Kd iK where
 sz:=1
 rep:=fun _ _ l cs=>∃v,cs= [v]/\xy v l
 len:=fun ⟨_,h,_⟩=>by rw [h];rfl
 one:=fun ⟨v,h,A,n,c,hv⟩ u hu=>by
  rw [h] at hu;simp at hu;subst hu;rcases hv with rfl|⟨p,q,d,rfl⟩<;>rfl
 step:=fun _ _ h=>h
theorem IC:(Tryz.prog.info? 153).map (fun i=>(i.zero,i.size,i.bytes))=some (some .nilIface,GM.sz,16):=by kernel_rfl
theorem fW:(Tryz.prog.info? 55).map (·.size)=some 10:=by kernel_rfl
theorem xz {F:Nat->Prop} {w:World} {A:Option Addr} {n cap:Nat} {ls:List LD} (h:Rd E0 F w (.slice A n cap) ls) {k:Nat} (hk:k<ls.length):
 ∃g off pv dv,A=some ⟨g,off,none⟩/\g<w.heap.size/\bK F w pv ls[k].pkgs/\Rd IB F w dv ls[k].dig/\∀W:World,W.heap[g]?=w.heap[g]?->∀j v,(ls[k].arr pv dv)[j]?=some v->W.cell? ((⟨g,off+k*10,none⟩:Addr).add j)=some v:=by
 obtain ⟨g,off,cs,hA,hF,hg,⟨pv,dv,hcs,h1,h2⟩,hc⟩:=h.at_ (List.getElem?_eq_getElem hk);refine ⟨g,off,pv,dv,hA,hg,h1,h2,fun W hW j v hv=> ?_⟩;rw [jo];exact (World.cell?_of_block (w:=w) (a:=⟨g,off+k*10+j,none⟩) hW).trans (hc j v (by rw [hcs];simpa [LD.arr,LD.cl] using hv))
theorem xy.form {v:Value} {l:iK} (h:xy v l):∃T x,v= .iface T x:=by
 obtain ⟨A,n,c,h|⟨p,q,d,h⟩⟩:=h
 · exact ⟨_,_,h⟩
 exact ⟨_,_,h⟩
theorem LD.arr_one (l:LD) {pv dv:Value} (h1:pv.oneCell'=true) (h2:dv.oneCell'=true):(l.arr pv dv).all (·.oneCell')=true:=by
 have a1:∀k i,(Value.int k i).oneCell'=true:=fun _ _=>rfl
 have a2:∀s,(Value.string s).oneCell'=true:=fun _=>rfl
 have a3:∀b,(Value.bool b).oneCell'=true:=fun _=>rfl
 simp only [LD.arr,List.all_toArray,List.all_cons,List.all_nil,h1,h2,a1,a2,a3,Bool.and_self]
theorem f65 (A B:Option Addr) (n m c d:Nat) (w:World):Calls Tryz.prog 65 #[.slice A n c, .slice B m d] w fun e w'=>e= .returned (.iface 227 (.agg #[.slice A n c, .slice B m d]))/\w'=w:=by
 go_enter func65,ntmps65;go_wp2;go_ret;exact ⟨rfl,rfl⟩
def kL (F:Nat->Prop) (w:World) (v:Value) (ls:List iK) (ins:List aa):Prop:=∃A n c B m d,v= .iface 227 (.agg #[.slice A n c, .slice B m d])/\Rd GM F w (.slice A n c) ls/\bK F w (.slice B m d) ins
theorem f33 {F:Nat->Prop} (ls:List LD) (ins:List aa) (iv pv:Value) (w:World) (hi:bK F w iv ins) (hp:Rd E0 F w pv ls) (hl:∀l∈ls,l.Ok) (hn:ls.length<=1000) (hm:ins.length<=1000) (hg:Gl w) (hF:∀b,F b->b<w.heap.size):
 Calls Tryz.prog 33 #[.agg #[iv,pv]] w fun e w'=>∃v,e= .returned v/\kL F w' v (ls.map LD.lp) ins/\Below w.heap.size w w':=by
 obtain ⟨IA,ic,rfl⟩:=hi.form;obtain ⟨PA,pc,rfl⟩:=hp.form;obtain ⟨w1,hw1,g1,hs1,az⟩:=aZ w (.cells #[.slice IA ins.length ic, .slice PA ls.length pc] 25);have HC:Hid (∀W,Below w1.heap.size w1 W->W.cell? ⟨w.heap.size,0,none⟩=some (.slice IA ins.length ic)):=Y0 fun W hW=>aK g1 hW _ rfl
 have HW:=Y3 hw1 hs1 az;have HP:=Y0 (hp.pure az);have HI:=Y0 (hi.pure az);have HG:=Y0 (hg.pure az);have HL:=Y0 hl;have HF:=Y0 fun b hb=>(show b<w1.heap.size by have:=hF b hb;omega)
 clear hw1 g1 hs1 az hp hi hg hl hF;go_enter func33,ntmps33;go_wp2;rw [<-HW.out.1];go_loopw [3,9] (fun o i wr=>∃(k:Nat) (F':Nat->Prop),i= .int .i64 k/\k<=ls.length/\Hid (Own GM w1.heap.size 153 F' wr o ((ls.take k).map LD.lp)/\dw F w1 F' wr/\Below w1.heap.size w1 wr)) (fun _ i _=>ls.length - (intOf i).toNat)
 case atStart=>exact ⟨0,F,rfl,by omega,Y0 ⟨by simpa using Own.nil GM _ _ _ _,dw.refl _ _,Below.refl _ _⟩⟩
 obtain ⟨k,F',rfl,hk,H⟩:=hrel;obtain ⟨OA,oc,hov⟩:=H.out.1.form;subst hov;have hlen:((ls.take k).map LD.lp).length=k:=by simp;omega
 rw [hlen] at H ⊢;by_cases hlt:k<ls.length
 · have hlt':(k:Int)<(ls.length:Int):=by omega
   obtain ⟨g,off,qv,dv,rfl,hg0,hq,hd,hcells⟩:=xz (HP.out.step (.pure H.out.2.2)) hlt;have cz:=Y0 (hcells wr rfl);have htk:Hid ((ls.take (k+1)).map LD.lp=(ls.take k).map LD.lp++ [ls[k].lp]):=Y0 (by rw [List.take_succ_eq_append_getElem hlt,List.map_append];rfl);have su:=HL.out _ (List.getElem_mem hlt);generalize ls[k]=l at*;obtain ⟨QA,qc,rfl⟩:=hq.form;obtain ⟨DA,dc,rfl⟩:=hd.form;have HQ:=Y2 hq hd;have dU:=Y0 su;have hws:w1.heap.size<=wr.heap.size:=H.out.2.2.size;clear hcells hq hd su;have flag:True:=trivial
   go_wp2_with (first
    | (clear flag;refine bu (o:=⟨some 12,_,_,_,_,_⟩) rfl 55 _ rfl ⟨g,off+k*10,none⟩ rfl (l.arr (.slice QA l.pkgs.length qc) (.slice DA l.dig.length dc)) _ cz.out underlying55 rfl fW ?_;have aj:True:=trivial)
    | (clear aj;refine cu (o:=⟨none,Op.store 55 (Operand.tmp 5) (Operand.tmp 12),_,_,_,_⟩) (cs:=l.arr (.slice QA l.pkgs.length qc) (.slice DA l.dig.length dc)) wr rfl _ _ rfl rfl rfl fW rfl (l.arr_one rfl rfl) ?_;intro W4 H4;have au:True:=trivial)
    | (clear au;refine wpList_load_row (o:=⟨some 14,_,_,_,_,_⟩) rfl 55 _ rfl wr.heap.size rfl 55 (l.arr (.slice QA l.pkgs.length qc) (.slice DA l.dig.length dc)) (0,0) _ H4.out.1 underlying55 rfl fW ?_;have aQ:True:=trivial)
    | (clear aQ;go_at_call 64;refine (f64 (F:=F) l _ _ W4 (HQ.out.1.pure H4.out.2.2) (HQ.out.2.pure H4.out.2.2) dU.out ((HG.out.pure H.out.2.2).pure H4.out.2.2) (fun b hb=>by have:=HF.out b hb;have:=H4.out.2.1;omega)).mono ?_;rintro e w5 ⟨v5,rfl,ID,bz⟩;obtain ⟨T5,x5,rfl⟩:=ID.form;have H5:=Y2 ID (H4.out.2.2.trans (bz.mono (by have:=H4.out.2.1;omega)));clear ID bz;have fZ:Below w5.heap.size w5 (w5.alloc (.cells #[.iface T5 x5] 153)):=(Below.refl _ _).alloc (Nat.le_refl _) _;have rZ:=Y0 ((H.out.1.pure H5.out.2).pure fZ);have Mb:=Y0 (H.out.2.1.lt HF.out);have xB:=Y0 (Rd.one (d:=GM) (F:=F') (w:=w5) (e:=153) (x:=l.lp) (cs:= #[.iface T5 x5]) ⟨_,rfl,H5.out.1⟩ (fun b hb=>Nat.lt_of_lt_of_le (Mb.out b hb) H5.out.2.size));have bU:=Y0 fZ;clear fZ;have cf:True:=trivial)
    | (clear cf;at_builtin;refine aH (o:=⟨some 17,_,_,_,_,_⟩) rfl _ _ 151 rfl GM 153 .nilIface 16 underlying151 IC rfl (by decide) rfl rfl rZ.out xB.out (by rw [hlen];simp [maxLen];omega) (by rw [hlen];simp;omega) (by have:=H5.out.2.size;simp;omega) htk.out.symm (k+1) (by rw [htk.out,List.length_append,hlen];rfl) ?_;intro A8 c8 w8 F8 Bg Bh qh _;have H8:=Y3 Bg Bh qh;clear Bg Bh qh))
   go_roundw
   case rel=>exact ⟨k+1,F8,by go_num,by omega,Y0 ⟨H8.out.1,(H.out.2.1.trans (dw.pure (H5.out.2.trans (bU.out.mono H5.out.2.size)))).trans H8.out.2.1,(H.out.2.2.trans ((H5.out.2.trans (bU.out.mono H5.out.2.size)).mono hws)).trans H8.out.2.2⟩⟩
   simp [intOf];omega
 have hlt':¬(k:Int)<(ls.length:Int):=by omega
 have hkl:Hid ((ls.take k).map LD.lp=ls.map LD.lp):=Y0 (by rw [List.take_of_length_le (by omega)]);have c0:wr.cell? ⟨w.heap.size,0,none⟩=some (.slice IA ins.length ic):=HC.out _ H.out.2.2;have HR:=Y0 (H.out.1.rd (F0:=F) (fun b hb=>HF.out b hb) (fun b hb=>H.out.2.1.grow b hb) (by decide))
 go_wp2_with (first
  | (go_at_call 38;refine (jb (F:=F) _ ins wr (HI.out.pure H.out.2.2) (fun b hb=>Nat.lt_of_lt_of_le (HF.out b hb) H.out.2.2.size) (by omega)).mono ?_;rintro e w5 ⟨v5,rfl,Mc,bz⟩;obtain ⟨A5,c5,rfl⟩:=Mc.form;have H5:=Y2 Mc bz;clear Mc bz)
  | (go_at_call 65;refine (f65 _ _ _ _ _ _ _).mono ?_;rintro e w6 ⟨rfl,rfl⟩))
 go_ret;refine ⟨_,rfl,⟨_,_,_,_,_,_,rfl, ?_,H5.out.1⟩,HW.out.2.2.trans ((H.out.2.2.trans (H5.out.2.mono H.out.2.2.size)).mono HW.out.2.2.size)⟩;rw [<-hkl.out];exact HR.out.pure H5.out.2
structure Nd where
 root:aa
 src:aa
 c:CD
def Nd.cl (n:Nd) (pv:Value):List Value:= [.string n.root, .string n.src, .int .i64 n.c.kind, .string n.c.text, .int .i64 n.c.v.kind, .string n.c.v.text, .string n.c.v.rev,pv]
def Nd.arr (n:Nd) (pv:Value):Array Value:= #[.string n.root, .string n.src, .int .i64 n.c.kind, .string n.c.text, .int .i64 n.c.v.kind, .string n.c.v.text, .string n.c.v.rev,pv]
def Dp:Kd Nd where
 sz:=8
 rep:=fun _ _ n cs=>∃A m c,cs=n.cl (.slice A m c)
 len:=fun ⟨_,_,_,h⟩=>by rw [h];rfl
 one:=fun ⟨A,m,c,h⟩ u hu=>by
  subst h;simp [Nd.cl] at hu;rcases hu with rfl|rfl|rfl|rfl|rfl|rfl|rfl|rfl<;>rfl
 step:=fun _ _ h=>h
theorem xC {F:Nat->Prop} {w:World} {A:Option Addr} {n cap:Nat} {ls:List Nd} (h:Rd Dp F w (.slice A n cap) ls) {k:Nat} (hk:k<ls.length):
 ∃g off B m c,A=some ⟨g,off,none⟩/\g<w.heap.size/\∀W:World,W.heap[g]?=w.heap[g]?->∀j v,(ls[k].arr (.slice B m c))[j]?=some v->W.cell? ((⟨g,off+k*8,none⟩:Addr).add j)=some v:=by
 obtain ⟨g,off,cs,hA,hF,hg,⟨B,m,c,hcs⟩,hc⟩:=h.at_ (List.getElem?_eq_getElem hk);refine ⟨g,off,B,m,c,hA,hg,fun W hW j v hv=> ?_⟩;rw [jo];exact (World.cell?_of_block (w:=w) (a:=⟨g,off+k*8+j,none⟩) hW).trans (hc j v (by rw [hcs];simpa [Nd.arr,Nd.cl] using hv))
theorem Nd.arr_one (n:Nd) (A:Option Addr) (m c:Nat):(n.arr (.slice A m c)).all (·.oneCell')=true:=by
 have a1:∀k i,(Value.int k i).oneCell'=true:=fun _ _=>rfl
 have a2:∀s,(Value.string s).oneCell'=true:=fun _=>rfl
 have a3:(Value.slice A m c).oneCell'=true:=rfl;simp only [Nd.arr,List.all_toArray,List.all_cons,List.all_nil,a1,a2,a3,Bool.and_self]
theorem fG:(Tryz.prog.info? 73).map (·.size)=some 8:=by kernel_rfl
theorem Qr (w:World):(Instr.makeMap 100 none).run Tryz.prog w= .ok (.map (some w.heap.size)) (w.alloc (.map #[] 0)):=by kernel_rfl
theorem fU.step {F F':Nat->Prop} {w w':World} {v:Value} {c:GC} (h:fU F w v c) (s:dw F w F' w'):fU F' w' v c:=by
 cases c with
 | semc c=>obtain ⟨x,h1,h2⟩:=h;exact ⟨x,h1,h2.step s⟩
 | any=>exact h
 | no=>exact h
 | ver g=>exact h
theorem fU.less {F F':Nat->Prop} {w:World} {v:Value} {c:GC} (h:fU F w v c) (s:∀b,b<w.heap.size->F' b->F b):fU F' w v c:=by
 cases c with
 | semc c=>obtain ⟨x,h1,h2⟩:=h;exact ⟨x,h1,h2.less s⟩
 | any=>exact h
 | no=>exact h
 | ver g=>exact h
def tq (p:aa × Value):Value:= .agg #[.string p.1,p.2]
structure iz (F:Nat->Prop) (w:World) (ns:List Nd) (l:List (aa × (aa × Value))):Prop where
 get:∀r p,ai l r=some p->∃n∈ns,n.root=r/\fU F w p.2 n.c.g.1
 has:∀n∈ns,∃p,ai l n.root=some p
 len:l.length<=ns.length
theorem iz.step {F F':Nat->Prop} {w w':World} {ns:List Nd} {l:List (aa × (aa × Value))} (h:iz F w ns l) (s:dw F w F' w'):iz F' w' ns l:=
 ⟨fun r p hp=>by obtain ⟨n,a,b,c⟩:=h.get r p hp;exact ⟨n,a,b,c.step s⟩,h.has,h.len⟩
theorem iz.put {F:Nat->Prop} {w:World} {ns:List Nd} {l:List (aa × (aa × Value))} (h:iz F w ns l) (n:Nd) (s:aa) (cv:Value) (hc:fU F w cv n.c.g.1):iz F w (ns++ [n]) (bN l n.root (s,cv)):=by
 refine ⟨fun r p hp=> ?_,fun m hm=> ?_, ?_⟩
 · rw [bk] at hp;split at hp
   · rename_i e;injection hp with hp
     subst hp;exact ⟨n,by simp,e,hc⟩
   obtain ⟨m,a,b,c⟩:=h.get r p hp;exact ⟨m,List.mem_append_left _ a,b,c⟩
 · rw [bk];split
   · exact ⟨_,rfl⟩
   rcases List.mem_append.1 hm with hm|hm
   · exact h.has m hm
   simp at hm;subst hm;contradiction
 have h1:=kr (l:=l) (s:=n.root) (v:=(s,cv));have h2:=h.len;rw [List.length_append];simp only [List.length_cons,List.length_nil];omega
theorem IE {P:Program} {fn:Func} {R:Ending->World->Prop} {a:Act} {w:World} {t:Tmp} (h:fn.results= #[.tmp t]) (hd:a.defers= []) (hR:R (.returned (a.tmps.getD t undef)) w):bodyPost P fn R .ret a w:=
 bodyPost_ret (results_tmp h _ _ _) hd hR
theorem f36 {F:Nat->Prop} (ns:List Nd) (v:Value) (w:World) (hR:Rd Dp F w v ns) (hok:∀n∈ns,n.c.Ok) (hn:ns.length<=1000) (hg:Gl w) (hF:∀b,F b->b<w.heap.size):
 Calls Tryz.prog 36 #[v] w fun e w'=>∃mb l,e= .returned (.map (some mb))/\ah tq w' mb l/\iz F w' ns l/\Below w.heap.size w w'/\w.heap.size<=mb:=by
 obtain ⟨A,cap,rfl⟩:=hR.form;obtain ⟨w1,hw1,g1,hs1,az⟩:=aZ w (.map #[] 0);have Bt:ah tq w1 w.heap.size []:=by rw [hw1];exact ah.made w tq
 obtain ⟨F1,Ov⟩:∃F1:Nat->Prop,F1=fun b=>F b\/b=w.heap.size:=⟨_,rfl⟩
 have kv:Hid ((∀b,F b->F1 b)/\F1 w.heap.size/\∀b,F1 b->b<w1.heap.size):=Y0 (by
  subst Ov;exact ⟨fun b hb=> .inl hb, .inr rfl,fun b hb=>by rcases hb with hb|hb;have:=hF b hb;omega;omega⟩)
 have HR:Hid (Rd Dp F1 w1 (.slice A ns.length cap) ns):=Y0 ((hR.less (F':=F1) (fun b hb q=>by rw [Ov] at q;rcases q with q|q;exact q;omega)).pure az);have HG:=Y0 hg;have HW:=Y3 hw1 hs1 az;have HM:=Y0 Bt;have dU:=Y0 hok;clear hw1 g1 hs1 az Bt Ov hR hok hg hF;have mk:=Qr;go_enter func36,ntmps36;go_wp2;rw [<-HW.out.1];clear mk;go_loopw [11] (fun i wr=>∃(k:Nat) (l:List (aa × (aa × Value))),i= .int .i64 k/\k<=ns.length/\Hid (ah tq wr w.heap.size l/\iz F1 wr (ns.take k) l/\dw F1 w1 F1 wr/\Below w.heap.size w wr)) (fun i _=>ns.length - (intOf i).toNat)
 case atStart=>exact ⟨0, [],rfl,by omega,Y0 ⟨HM.out,⟨fun r p h=>by simp [ai] at h,fun n h=>by simp at h,Nat.le_refl _⟩,dw.refl _ _,HW.out.2.2⟩⟩
 obtain ⟨k,l,rfl,hk,H⟩:=hrel;by_cases hlt:k<ns.length
 · have hlt':(k:Int)<(ns.length:Int):=by omega
   obtain ⟨g,off,B,m,c,rfl,hg0,hcells⟩:=xC (HR.out.step H.out.2.2.1) hlt;have cz:=Y0 (hcells wr rfl);have htk:Hid (ns.take (k+1)=ns.take k++ [ns[k]]):=Y0 (List.take_succ_eq_append_getElem hlt);have Qs:=dU.out _ (List.getElem_mem hlt);generalize ns[k]=n at*;have HN:=Y0 Qs;have hws:w.heap.size<=wr.heap.size:=H.out.2.2.2.size;have GL:=Y0 (H.out.2.2.1.lt kv.out.2.2);clear hcells Qs;have flag:True:=trivial
   go_wp2_with (first
    | (clear flag;refine bu (o:=⟨some 14,_,_,_,_,_⟩) rfl 73 _ rfl ⟨g,off+k*8,none⟩ rfl (n.arr (.slice B m c)) _ cz.out underlying73 rfl fG ?_;have aj:True:=trivial)
    | (clear aj;refine cu (o:=⟨none,Op.store 73 (Operand.tmp 5) (Operand.tmp 14),_,_,_,_⟩) (cs:=n.arr (.slice B m c)) wr rfl _ _ rfl rfl rfl fG rfl (n.arr_one _ _ _) ?_;intro W4 H4;have c2:W4.cell? ⟨wr.heap.size,2,none⟩=some (.int .i64 n.c.kind):=ae H4.out.1 rfl;have c3:W4.cell? ⟨wr.heap.size,3,none⟩=some (.string n.c.text):=ae H4.out.1 rfl;have c4:W4.cell? ⟨wr.heap.size,4,none⟩=some (.int .i64 n.c.v.kind):=ae H4.out.1 rfl;have c5:W4.cell? ⟨wr.heap.size,5,none⟩=some (.string n.c.v.text):=ae H4.out.1 rfl;have c6:W4.cell? ⟨wr.heap.size,6,none⟩=some (.string n.c.v.rev):=ae H4.out.1 rfl;have c7:W4.cell? ⟨wr.heap.size,7,none⟩=some (.slice B m c):=ae H4.out.1 rfl;have au:True:=trivial)
    | (clear au;go_at_call 48;refine (f48 (F:=F1) n.c B m c W4 HN.out ((HG.out.pure H.out.2.2.2).pure H4.out.2.2) (fun b hb=>Nat.lt_of_lt_of_le (GL.out b hb) H4.out.2.2.size)).mono ?_;rintro e w5 ⟨⟨cv,rfl,hcv⟩,bz⟩;obtain ⟨CT,cx,rfl,-⟩:=hcv.form;have d0:w5.cell? ⟨wr.heap.size,0,none⟩=some (.string n.root):=aK H4.out.1 bz _ rfl;have d1:w5.cell? ⟨wr.heap.size,1,none⟩=some (.string n.src):=aK H4.out.1 bz _ rfl;have H5:=Y2 hcv (H4.out.2.2.trans (bz.mono (by have:=H4.out.2.1;omega)));clear hcv bz;have aQ:True:=trivial)
    | (clear aQ;refine aM (f:=tq) (b:=(n.src, .iface CT cx)) rfl _ _ _ 100 rfl _ _ underlying100 underlying110 rfl (H.out.1.pure H5.out.2) rfl rfl ?_;intro w6 Qt zO sx;have H6:=Y3 Qt zO sx;clear Qt zO sx;go_frame))
   have hst:Hid (dw F1 w5 F1 w6):=Y0 (dw.grown H6.out.2.1 (fun j hj=>by injection hj with hj;subst hj;exact kv.out.2.1));go_roundw
   case rel=>exact ⟨k+1,_,by go_num,by omega,Y0 ⟨H6.out.1,by rw [htk.out];exact ((H.out.2.1.step (.pure H5.out.2)).put n n.src _ H5.out.1).step hst.out,(H.out.2.2.1.trans (.pure H5.out.2)).trans hst.out,(H.out.2.2.2.trans (H5.out.2.mono hws)).grown H6.out.2.1 (by have:=H5.out.2.size;omega) (fun j hj=>by injection hj with hj;omega)⟩⟩
   simp [intOf];omega
 have hlt':¬(k:Int)<(ns.length:Int):=by omega
 have hfin:Hid (iz F1 wr ns l):=Y0 (by have h:=H.out.2.1;rwa [List.take_of_length_le (by omega)] at h);go_wp2;refine IE (t:=2) results36 rfl ?_;exact ⟨_,rfl,_,H.out.1,⟨fun r p hp=>by obtain ⟨n,a,b,c⟩:=hfin.out.get r p hp;exact ⟨n,a,b,c.less (fun b _ hb=>kv.out.1 b hb)⟩,hfin.out.has,hfin.out.len⟩,H.out.2.2.2,Nat.le_refl _⟩
theorem f35 (a b p d:Nat) (w:World):Calls Tryz.prog 35 #[.map (some a), .map (some b), .pointer (some ⟨p,0,none⟩), .map (some d)] w fun e w'=>e= .returned (.iface 179 (.agg #[.map (some a), .map (some b), .pointer (some ⟨p,0,none⟩), .map (some d)]))/\w'=w:=by
 go_enter func35,ntmps35;go_wp2;go_ret;exact ⟨rfl,rfl⟩
theorem f258 (a b p d:Nat) (w:World):Calls Tryz.prog 258 #[.agg #[.map (some a), .map (some b), .pointer (some ⟨p,0,none⟩), .map (some d)]] w fun e w'=>e= .returned (.map (some a))/\Below w.heap.size w w':=by
 go_enter func258,ntmps258;go_wp2;go_ret;exact ⟨rfl,(Below.refl _ _).alloc (Nat.le_refl _) _⟩
theorem f260 (a b p d:Nat) (w:World):Calls Tryz.prog 260 #[.agg #[.map (some a), .map (some b), .pointer (some ⟨p,0,none⟩), .map (some d)]] w fun e w'=>e= .returned (.map (some b))/\Below w.heap.size w w':=by
 go_enter func260,ntmps260;go_wp2;go_ret;exact ⟨rfl,(Below.refl _ _).alloc (Nat.le_refl _) _⟩
theorem f259 (a b p d:Nat) (w:World):Calls Tryz.prog 259 #[.agg #[.map (some a), .map (some b), .pointer (some ⟨p,0,none⟩), .map (some d)]] w fun e w'=>e= .returned (.pointer (some ⟨p,0,none⟩))/\Below w.heap.size w w':=by
 go_enter func259,ntmps259;go_wp2;go_ret;exact ⟨rfl,(Below.refl _ _).alloc (Nat.le_refl _) _⟩
theorem f261 (a b p d:Nat) (w:World):Calls Tryz.prog 261 #[.agg #[.map (some a), .map (some b), .pointer (some ⟨p,0,none⟩), .map (some d)]] w fun e w'=>e= .returned (.map (some d))/\Below w.heap.size w w':=by
 go_enter func261,ntmps261;go_wp2;go_ret;exact ⟨rfl,(Below.refl _ _).alloc (Nat.le_refl _) _⟩
theorem f267 (A B:Option Addr) (n m c d:Nat) (w:World):Calls Tryz.prog 267 #[.agg #[.slice A n c, .slice B m d]] w fun e w'=>e= .returned (.slice B m d)/\Below w.heap.size w w':=by
 go_enter func267,ntmps267;go_wp2;go_ret;exact ⟨rfl,(Below.refl _ _).alloc (Nat.le_refl _) _⟩
theorem f268 (A B:Option Addr) (n m c d:Nat) (w:World):Calls Tryz.prog 268 #[.agg #[.slice A n c, .slice B m d]] w fun e w'=>e= .returned (.slice A n c)/\Below w.heap.size w w':=by
 go_enter func268,ntmps268;go_wp2;go_ret;exact ⟨rfl,(Below.refl _ _).alloc (Nat.le_refl _) _⟩
section
open Go.ChangeShapes Go.Deep Go.WideShapes
def dV (P:Program) (t:TypeId) {α:Type} (d:Kd α) (Z:α->Prop):Prop:=
 ∀(H:Type) (enc:TypeId × Value->H) (w:World) (base:Nat) (spare:Nat->Bool) (held:Bool) (fuel:Nat) (cs:List Value) (x:DataW H × List MemPlace),DataW.trod enc P w base spare held fuel t cs=some x->
  (∀n∈x.1.weights P t,n<=reachBytes)->∃a,d.rep (fun _=>False) w a cs/\Z a
theorem CB {P:Program} {t:TypeId} (ht:P.underlying t=some .string):dV P t aD (fun s=>s.size<=reachBytes):=by
 intro H enc w base spare held fuel cs x h hz;obtain ⟨s,rfl,rfl,-⟩:=DataW.trod_string ht h;refine ⟨s,rfl, ?_⟩;have:=hz s.data.toList.length (by simp [DataW.weights]);simpa using this
theorem E1 {P:Program} {t:TypeId} (ht:P.underlying t=some (.int .u8)):dV P t IB (fun _=>True):=by
 intro H enc w base spare held fuel cs x h hz;obtain ⟨n,rfl,rfl,hw⟩:=DataW.trod_int ht h;have hb:IntKind.u8.min<=n/\n<=IntKind.u8.max:=by simpa [Lit.wf] using hw
 rw [show IntKind.u8.min=0 from rfl,show IntKind.u8.max=255 from rfl] at hb;refine ⟨UInt8.ofNat n.toNat, ?_,trivial⟩;show [Value.int .u8 n]= [.int .u8 _];have:((UInt8.ofNat n.toNat).toNat:Int)=n:=by rw [UInt8.toNat_ofNat'];omega
 rw [this]
theorem o7 {H:Type} {P:Program} {e:TypeId} {d:DataW H}:∀{l:List (DataW H)},d∈l->∀n∈d.weights P e,n∈DataW.weightsAll P e l
 | a::l,hd,n,hn=>by
   rw [DataW.weightsAll,List.mem_append];rcases List.mem_cons.1 hd with rfl|hd
   · exact .inl hn
   exact .inr (o7 hd n hn)
theorem gu {P:Program} {t e:TypeId} {α:Type} [Inhabited α] {d:Kd α} {Z:α->Prop} (ht:P.underlying t=some (.slice e)) (hc:P.cellsOf e=d.sz) (h0:0<d.sz) (he:dV P e d Z):
 dV P t (B6 d) (fun xs=>xs.length*P.bytesOf e<=reachBytes/\∀x∈xs,Z x):=by
 intro H enc w base spare held fuel cs x h hz;rcases open_slice ht h with ⟨rfl,rfl⟩|⟨a,len,cap,m,n,D,Pl,rfl,hb,hl,hm,hmm,rfl,hi⟩
 · exact ⟨[],⟨_,rfl,Rd.nil _ _ _ _ _ (Nat.zero_le _)⟩,by simp,by simp⟩
 simp only [DataW.weights,ht] at hz;have hlm:len<=m:=by rw [hmm];split<;>omega
 obtain ⟨f,hf⟩:=choose_lt (p:=fun i y=>(∃cs,w.cells? base (a.add (i*P.cellsOf e)) (P.cellsOf e)=some cs/\d.rep (fun _=>False) w y cs)/\Z y) (n:=len) (fun i hil=>by
  obtain ⟨cs,h1,h2⟩:=hi i (by omega)
  obtain ⟨y,h3,h4⟩:=he H enc w base spare held n cs _ h2 (fun k hk=>hz k (by
   refine List.mem_cons_of_mem _ (List.mem_append.2 (.inl (o7 (List.mem_map.2 ⟨i,List.mem_range.2 hil,rfl⟩) k hk)))))
  exact ⟨y,⟨cs,h1,h3⟩,h4⟩)
 refine ⟨(List.range len).map f,⟨_,rfl,a,cap,by simp,by simpa using hl,hm, ?_⟩, ?_, ?_⟩
 · rcases Nat.eq_zero_or_pos len with h00|hpos
   · subst h00;exact .inl rfl
   obtain ⟨⟨cs,h1,h2⟩,-⟩:=hf 0 hpos;obtain ⟨-,hlen,hat⟩:=World.cells?_some h1;have hx:=hat 0 (by omega);rw [List.getElem?_eq_getElem (show 0<cs.length by omega)] at hx;rw [Nat.zero_mul,show (a.add 0).add 0=a from rfl] at hx;obtain ⟨b,off,spot⟩:=a;have hs:spot=none:=World.cell?_spot hx;subst hs;refine .inr ⟨b,off,rfl,fun h=>h,World.block_lt_of_cell? _ _ hx,fun i x Bu=> ?_⟩
   have hil:i<len:=by
    have:=(List.getElem?_eq_some_iff.1 Bu).1;simpa using this
   have hxe:f i=x:=by
    rw [List.getElem?_map,List.getElem?_range hil] at Bu;exact Option.some.inj Bu
   obtain ⟨⟨cs',h1',h2'⟩,-⟩:=hf i hil;obtain ⟨-,hlen',hat'⟩:=World.cells?_some h1';rw [hxe] at h2';refine ⟨cs',h2',fun j u hj=> ?_⟩
   have hjl:j<P.cellsOf e:=by
    have:=(List.getElem?_eq_some_iff.1 hj).1;omega
   have:=hat' j hjl;rw [Deep.add_add,hj,hc] at this;rw [<-this,jo];simp [Nat.add_assoc]
 · have:=hz _ (List.mem_cons_self ..);simp only [List.length_map,List.length_range] at this ⊢;exact Nat.le_trans (Nat.mul_le_mul_right _ (Nat.le_add_right _ _)) this
 intro x hx;obtain ⟨i,hi,rfl⟩:=List.mem_map.1 hx;exact (hf i (List.mem_range.1 hi)).2
theorem dG {P:Program} {t:TypeId} {fs:Array Field} (ht:P.underlying t=some (.struct fs)) {H:Type} {enc:TypeId × Value->H} {w:World} {base:Nat} {spare:Nat->Bool} {held:Bool} {fuel:Nat} {cs:List Value} {x:DataW H × List MemPlace}
 (h:DataW.trod enc P w base spare held fuel t cs=some x) (hz:∀n∈x.1.weights P t,n<=reachBytes):cs.length=P.cellsOf t/\
  ∀(i:Nat) (f:Field),fs[i]?=some f->∀(c:Nat),P.cellsOf f.type=c->∀{α:Type} {d:Kd α} {Z:α->Prop},dV P f.type d Z->∃a,d.rep (fun _=>False) w a ((cs.drop f.offset).take c)/\Z a:=by
 obtain ⟨xs,n,-,rfl,hl,hlen,hf⟩:=DataW.trod_struct ht h;refine ⟨hl,fun i f hif c hc α d Z hO=> ?_⟩;subst hc;have h1:=hf i f hif;have hil:i<xs.length:=by rw [hlen];exact (Array.getElem?_eq_some_iff.1 hif).1
 rw [List.getElem?_eq_getElem hil] at h1;refine hO H enc w base spare held n _ _ h1 (fun k hk=>hz k ?_);simp only [DataW.weights,ht];refine DataW.weights_mem_each (j:=i) (t:=f.type) (d:=xs[i].1) ?_ ?_ k hk
 · rw [List.getElem?_map];simp [hif]
 rw [List.getElem?_map,List.getElem?_eq_getElem hil];rfl
end
end Go.Proofs.YtjenhelmpcajfaaGreatDoor
