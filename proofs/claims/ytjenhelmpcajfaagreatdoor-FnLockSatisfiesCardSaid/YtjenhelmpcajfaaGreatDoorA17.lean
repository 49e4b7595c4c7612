/- constraints as texts -/
import Derived.Test.YtjenhelmpcajfaaGreatDoorA16
import Derived.Deep.RegionHeld3
import Derived.Test.YtjenhelmpcajfaaGreatDoorA01
set_option linter.all false
set_option maxRecDepth 100000
set_option maxHeartbeats 2000000
namespace Go.Proofs.YtjenhelmpcajfaaGreatDoor
open Go.Proofs.Tryz Go.RowKit
def Text (n:FuncId) (args:Array Value) (w:World):Prop:=Calls Tryz.prog n args w fun e w'=>(∃s:aa,e= .returned (.string s))/\Below w.heap.size w w'
theorem t278 (w:World):Text 278 #[.agg #[]] w:=by
 unfold Text;go_enter func278,ntmps278;go_wp2;go_ret;exact ⟨⟨_,rfl⟩,by (repeat (first|exact Below.refl _ _|refine Below.setCell ?_ (by simp) _|refine Below.alloc ?_ (by simp;try omega) _))⟩
theorem t274 (w:World):Text 274 #[.agg #[]] w:=by
 unfold Text;go_enter func274,ntmps274;go_wp2;go_ret;exact ⟨⟨_,rfl⟩,by (repeat (first|exact Below.refl _ _|refine Below.setCell ?_ (by simp) _|refine Below.alloc ?_ (by simp;try omega) _))⟩
theorem t316 (w:World):Text 316 #[.agg #[]] w:=by
 unfold Text;go_enter func316,ntmps316;go_wp2;go_ret;exact ⟨⟨_,rfl⟩,by (repeat (first|exact Below.refl _ _|refine Below.setCell ?_ (by simp) _|refine Below.alloc ?_ (by simp;try omega) _))⟩
theorem t312 (w:World):Text 312 #[.agg #[]] w:=by
 unfold Text;go_enter func312,ntmps312;go_wp2;go_ret;exact ⟨⟨_,rfl⟩,by (repeat (first|exact Below.refl _ _|refine Below.setCell ?_ (by simp) _|refine Below.alloc ?_ (by simp;try omega) _))⟩
theorem t252 (r:aa) (w:World):Text 252 #[.string r] w:=by
 unfold Text;go_enter func252,ntmps252;go_wp2;go_ret;exact ⟨⟨_,rfl⟩,by (repeat (first|exact Below.refl _ _|refine Below.setCell ?_ (by simp) _|refine Below.alloc ?_ (by simp;try omega) _))⟩
theorem t248 (r:aa) (w:World):Text 248 #[.string r] w:=by
 have H:=Y0 fun W=>t252 r W
 unfold Text at*;go_enter func248,ntmps248;go_wp2_with (go_at_call 252;refine (H.out _).mono ?_;rintro e w1 ⟨⟨s,rfl⟩,hB⟩);go_ret;exact ⟨⟨_,rfl⟩,Below.trans (by (repeat (first|exact Below.refl _ _|refine Below.setCell ?_ (by simp) _|refine Below.alloc ?_ (by simp;try omega) _))) (hB.mono (by simp<;>omega))⟩
theorem t340 (r:aa) (w:World):Text 340 #[.string r] w:=by
 unfold Text;go_enter func340,ntmps340;go_wp2;go_ret;exact ⟨⟨_,rfl⟩,by (repeat (first|exact Below.refl _ _|refine Below.setCell ?_ (by simp) _|refine Below.alloc ?_ (by simp;try omega) _))⟩
theorem t335 (r:aa) (w:World):Text 335 #[.string r] w:=by
 have H:=Y0 fun W=>t340 r W
 unfold Text at*;go_enter func335,ntmps335;go_wp2_with (go_at_call 340;refine (H.out _).mono ?_;rintro e w1 ⟨⟨s,rfl⟩,hB⟩);go_ret;exact ⟨⟨_,rfl⟩,Below.trans (by (repeat (first|exact Below.refl _ _|refine Below.setCell ?_ (by simp) _|refine Below.alloc ?_ (by simp;try omega) _))) (hB.mono (by simp<;>omega))⟩
theorem t330 (r:aa) (d:Bool) (w:World):Text 330 #[.agg #[.string r, .bool d]] w:=by
 unfold Text;go_enter func330,ntmps330;go_wp2;go_ret;exact ⟨⟨_,rfl⟩,by (repeat (first|exact Below.refl _ _|refine Below.setCell ?_ (by simp) _|refine Below.alloc ?_ (by simp;try omega) _))⟩
theorem t325 (r:aa) (d:Bool) (w:World):Text 325 #[.agg #[.string r, .bool d]] w:=by
 have H:=Y0 fun W=>t330 r d W
 unfold Text at*;go_enter func325,ntmps325;go_wp2_with (go_at_call 330;refine (H.out _).mono ?_;rintro e w1 ⟨⟨s,rfl⟩,hB⟩);go_ret;exact ⟨⟨_,rfl⟩,Below.trans (by (repeat (first|exact Below.refl _ _|refine Below.setCell ?_ (by simp) _|refine Below.alloc ?_ (by simp;try omega) _))) (hB.mono (by simp<;>omega))⟩
theorem f304 (v:SV) (w:World):Calls Tryz.prog 304 #[v.val] w fun e w'=>e= .returned (.string v.og)/\Below w.heap.size w w':=by
 obtain ⟨va,vb,vc,vp,vm,vo⟩:=v;simp only [SV.val];go_enter func304,ntmps304;go_wp2;go_ret;exact ⟨rfl,by (repeat (first|exact Below.refl _ _|refine Below.setCell ?_ (by simp) _|refine Below.alloc ?_ (by simp;try omega) _))⟩
theorem t298 (v:SV) (hv:v.Ok) (w:World) (hg:Gl w):Text 298 #[v.val] w:=by
 have H4:=Y0 fun W=>f304 v W
 have H2:=Y0 fun W (h:Gl W)=>f284 v hv W h
 have HG:=Y0 hg;clear hv hg;generalize jI v=t at*;obtain ⟨va,vb,vc,vp,vm,vo⟩:=v;simp only [SV.val] at*;unfold Text;have hb:Below w.heap.size w (w.alloc (.cells #[.int .u64 va, .int .u64 vb, .int .u64 vc, .string vp, .string vm, .string vo] 267)):=(Below.refl _ _).alloc (Nat.le_refl _) _;obtain ⟨w1,hw1,g1,hs1,az⟩:=aZ w (.cells #[.int .u64 va, .int .u64 vb, .int .u64 vc, .string vp, .string vm, .string vo] 267);have HW:=Y4 hw1 g1 hs1 az;clear hw1 g1 hs1 az hb;cases hq:vo.toList.isEmpty
 all_goals
  go_enter func298,ntmps298
  go_wp2_with (first
   | (go_at_call 304;rw [<-HW.out.1];refine (H4.out _).mono ?_;rintro e w2 ⟨rfl,hB⟩;have HB:=Y0 hB;clear hB;have c0:w2.cell? ⟨w.heap.size,0,none⟩=some (.int .u64 va):=aK HW.out.2.1 HB.out _ rfl;have c1:w2.cell? ⟨w.heap.size,1,none⟩=some (.int .u64 vb):=aK HW.out.2.1 HB.out _ rfl;have c2:w2.cell? ⟨w.heap.size,2,none⟩=some (.int .u64 vc):=aK HW.out.2.1 HB.out _ rfl;have c3:w2.cell? ⟨w.heap.size,3,none⟩=some (.string vp):=aK HW.out.2.1 HB.out _ rfl;have c4:w2.cell? ⟨w.heap.size,4,none⟩=some (.string vm):=aK HW.out.2.1 HB.out _ rfl;have c5:w2.cell? ⟨w.heap.size,5,none⟩=some (.string vo):=aK HW.out.2.1 HB.out _ rfl)
   | (go_at_call 284;refine (H2.out _ ((HG.out.pure HW.out.2.2.2).pure HB.out)).mono ?_;rintro e w3 ⟨rfl,bb⟩;have dK:=Y0 bb;clear bb))
  go_ret
  first
  | exact ⟨⟨_,rfl⟩,(HW.out.2.2.2.trans (HB.out.mono (by have:=HW.out.2.2.1;omega))).trans (dK.out.mono (by have:=HW.out.2.2.1;have:=HB.out.size;omega))⟩
  | exact ⟨⟨_,rfl⟩,HW.out.2.2.2.trans (HB.out.mono (by have:=HW.out.2.2.1;omega))⟩
theorem t293 (v:SV) (hv:v.Ok) (w:World) (hg:Gl w):Text 293 #[v.val] w:=by
 have H2:=f281 v hv;generalize jI v=t at*;obtain ⟨va,vb,vc,vp,vm,vo⟩:=v;simp only [SV.val] at*;unfold Text;have hb:Below w.heap.size w (w.alloc (.cells #[.int .u64 va, .int .u64 vb, .int .u64 vc, .string vp, .string vm, .string vo] 267)):=(Below.refl _ _).alloc (Nat.le_refl _) _;have H:=Y0 (H2 _ (hg.pure hb));clear hv hg H2;go_enter func293,ntmps293;go_wp2_with (go_at_call 281;refine H.out.mono ?_;rintro e w2 ⟨rfl,hB⟩);go_ret;exact ⟨⟨_,rfl⟩,hb.trans (hB.mono hb.size)⟩
theorem t350 (u:UV) (hu:u.Ok) (r:aa) (w:World) (hg:Gl w):Text 350 #[.agg #[u.val, .string r]] w:=by
 have hb:∀x:Value,Below w.heap.size w (w.alloc (.cells #[x, .string r] 287)):=fun x=>(Below.refl _ _).alloc (Nat.le_refl _) _
 have HG:=Y0 fun x=>hg.pure (hb x)
 have HB:=Y0 hb;clear hb hg
 cases u with
 | br m d=>
   have H:=Y0 fun W=>t330 m d W
   unfold Text at*;simp only [UV.val];clear hu;go_enter func350,ntmps350;go_wp2_with (go_at_call 330;refine (H.out _).mono ?_;rintro e w1 ⟨⟨s,rfl⟩,hB⟩);go_ret
   exact ⟨⟨_,rfl⟩,(HB.out _).trans (hB.mono (HB.out _).size)⟩
 | pl m=>
   have H:=Y0 fun W=>t340 m W
   unfold Text at*;simp only [UV.val];clear hu;go_enter func350,ntmps350;go_wp2_with (go_at_call 340;refine (H.out _).mono ?_;rintro e w1 ⟨⟨s,rfl⟩,hB⟩);go_ret
   exact ⟨⟨_,rfl⟩,(HB.out _).trans (hB.mono (HB.out _).size)⟩
 | sem v=>
   have H:=Y0 (t298 v hu _ (HG.out (.iface 267 v.val)));unfold Text at*;simp only [UV.val];clear hu;go_enter func350,ntmps350;go_wp2_with (go_at_call 298;refine H.out.mono ?_;rintro e w1 ⟨⟨s,rfl⟩,hB⟩);go_ret;exact ⟨⟨_,rfl⟩,(HB.out _).trans (hB.mono (HB.out _).size)⟩
theorem t345 (u:UV) (hu:u.Ok) (r:aa) (w:World) (hg:Gl w):Text 345 #[.agg #[u.val, .string r]] w:=by
 have hb:∀x:Value,Below w.heap.size w (w.alloc (.cells #[x, .string r] 287)):=fun x=>(Below.refl _ _).alloc (Nat.le_refl _) _
 have HG:=Y0 fun x=>hg.pure (hb x)
 have HB:=Y0 hb;clear hb hg
 cases u with
 | br m d=>
   have H:=Y0 fun W=>t325 m d W
   unfold Text at*;simp only [UV.val];clear hu;go_enter func345,ntmps345;go_wp2_with (go_at_call 325;refine (H.out _).mono ?_;rintro e w1 ⟨⟨s,rfl⟩,hB⟩);go_ret
   exact ⟨⟨_,rfl⟩,(HB.out _).trans (hB.mono (HB.out _).size)⟩
 | pl m=>
   have H:=Y0 fun W=>t335 m W
   unfold Text at*;simp only [UV.val];clear hu;go_enter func345,ntmps345;go_wp2_with (go_at_call 335;refine (H.out _).mono ?_;rintro e w1 ⟨⟨s,rfl⟩,hB⟩);go_ret
   exact ⟨⟨_,rfl⟩,(HB.out _).trans (hB.mono (HB.out _).size)⟩
 | sem v=>
   have H:=Y0 (t293 v hu _ (HG.out (.iface 267 v.val)));unfold Text at*;simp only [UV.val];clear hu;go_enter func345,ntmps345;go_wp2_with (go_at_call 293;refine H.out.mono ?_;rintro e w1 ⟨⟨s,rfl⟩,hB⟩);go_ret;exact ⟨⟨_,rfl⟩,(HB.out _).trans (hB.mono (HB.out _).size)⟩
def GC.Ok:GC->Prop
 | .any=>True
 | .no=>True
 | .ver g=>g.Ok
 | .semc c=>match c with
   | .ver v=>v.Ok
   | .rng ps=>ps.length<=100000000/\∀p∈ps,p.Ok 1000000
theorem t309 {F:Nat->Prop} (c:Sc) (cv:Value) (w:World) (hc:gq F w cv c) (hok:GC.Ok (.semc c)) (hg:Gl w):Text 309 #[.agg #[cv]] w:=by
 have hb:∀x:Value,Below w.heap.size w (w.alloc (.cells #[x] 269)):=fun x=>(Below.refl _ _).alloc (Nat.le_refl _) _
 have HG:=Y0 fun x=>hg.pure (hb x)
 have HB:=Y0 hb;clear hg
 cases c with
 | ver v=>
   have hcv:cv= .iface 264 v.val:=hc;subst hcv;have H:=Y0 (f284 v hok _ (HG.out (.iface 264 v.val)));unfold Text;clear hok hc hb;go_enter func309,ntmps309;go_wp2_with (go_at_call 284;refine H.out.mono ?_;rintro e w1 ⟨rfl,hB⟩);go_ret
   exact ⟨⟨_,rfl⟩,(HB.out _).trans (hB.mono (HB.out _).size)⟩
 | rng ps=>
   obtain ⟨rv,hcv,hR⟩:=hc;subst hcv;have H:=Y0 (f360 ps rv _ (hR.pure (hb (.iface 326 (.agg #[rv])))) hok.2 hok.1 (HG.out _));obtain ⟨A,cap,rfl⟩:=hR.form;unfold Text;clear hok hR hb;go_enter func309,ntmps309;go_wp2_with (go_at_call 360;refine H.out.mono ?_;rintro e w1 ⟨rfl,hB⟩);go_ret;exact ⟨⟨_,rfl⟩,(HB.out _).trans (hB.mono (HB.out _).size)⟩
theorem t306 {F:Nat->Prop} (c:Sc) (cv:Value) (w:World) (hc:gq F w cv c) (hok:GC.Ok (.semc c)) (hg:Gl w):Text 306 #[.agg #[cv]] w:=by
 have hb:∀x:Value,Below w.heap.size w (w.alloc (.cells #[x] 269)):=fun x=>(Below.refl _ _).alloc (Nat.le_refl _) _
 have HG:=Y0 fun x=>hg.pure (hb x)
 have HB:=Y0 hb;clear hg
 cases c with
 | ver v=>
   have hcv:cv= .iface 264 v.val:=hc;subst hcv;have H:=Y0 (f281 v hok _ (HG.out (.iface 264 v.val)));unfold Text;clear hok hc hb;go_enter func306,ntmps306;go_wp2_with (go_at_call 281;refine H.out.mono ?_;rintro e w1 ⟨rfl,hB⟩);go_ret
   exact ⟨⟨_,rfl⟩,(HB.out _).trans (hB.mono (HB.out _).size)⟩
 | rng ps=>
   obtain ⟨rv,hcv,hR⟩:=hc;subst hcv;have H:=Y0 (f357 ps rv _ (hR.pure (hb (.iface 326 (.agg #[rv])))) hok.2 hok.1 (HG.out _));obtain ⟨A,cap,rfl⟩:=hR.form;unfold Text;clear hok hR hb;go_enter func306,ntmps306;go_wp2_with (go_at_call 357;refine H.out.mono ?_;rintro e w1 ⟨rfl,hB⟩);go_ret;exact ⟨⟨_,rfl⟩,(HB.out _).trans (hB.mono (HB.out _).size)⟩
theorem Iw {ops:Array Oper} {rest:List Oper} {o:Oper} {a:Act} {w:World} {Q:Exit->Act->World->Prop} {F:Nat->Prop} {c:GC} {cv:Value} (hg:o.guard=none) (r:Operand)
 (hop:o.op= .call {callee:= .invoke r "String",args:= #[],argTypes:= #[]}) (hr:a.eval r=cv) (h:fU F w cv c) (hc:c.Ok) (hG:Gl w) (hK:∀(s:aa) w',Below w.heap.size w w'->wpList Tryz.prog ops Q rest (a.put o.dst (.string s)) w'):wpList Tryz.prog ops Q (o::rest) a w:=by
 rcases c with _|_|(q|(⟨n,d⟩|n|v)|⟨u,q⟩)|c
 · have h0:cv= .iface 257 (.agg #[]):=h;subst h0;refine aT hg r "String" #[] #[] hop 257 _ 278 (.agg #[]) _ hr (fun w=>by kernel_rfl) func278 rfl (by kernel_rfl) (by simp:(#[]:Array Operand).map a.eval= #[]) _ (t278 w) ?_;rintro e w' ⟨⟨s,rfl⟩,h2⟩;exact ⟨_,rfl,hK s w' h2⟩
 · have h0:cv= .iface 270 (.agg #[]):=h;subst h0;refine aT hg r "String" #[] #[] hop 270 _ 316 (.agg #[]) _ hr (fun w=>by kernel_rfl) func316 rfl (by kernel_rfl) (by simp:(#[]:Array Operand).map a.eval= #[]) _ (t316 w) ?_;rintro e w' ⟨⟨s,rfl⟩,h2⟩;exact ⟨_,rfl,hK s w' h2⟩
 · have h0:cv= .iface 144 (.string q):=h;subst h0;refine aT hg r "String" #[] #[] hop 144 _ 252 (.string q) _ hr (fun w=>by kernel_rfl) func252 rfl (by kernel_rfl) (by simp:(#[]:Array Operand).map a.eval= #[]) _ (t252 q w) ?_;rintro e w' ⟨⟨s,rfl⟩,h2⟩;exact ⟨_,rfl,hK s w' h2⟩
 · have h0:cv= .iface 284 (.agg #[.string n, .bool d]):=h;subst h0;refine aT hg r "String" #[] #[] hop 284 _ 330 (.agg #[.string n, .bool d]) _ hr (fun w=>by kernel_rfl) func330 rfl (by kernel_rfl) (by simp:(#[]:Array Operand).map a.eval= #[]) _ (t330 n d w) ?_;rintro e w' ⟨⟨s,rfl⟩,h2⟩;exact ⟨_,rfl,hK s w' h2⟩
 · have h0:cv= .iface 285 (.string n):=h;subst h0;refine aT hg r "String" #[] #[] hop 285 _ 340 (.string n) _ hr (fun w=>by kernel_rfl) func340 rfl (by kernel_rfl) (by simp:(#[]:Array Operand).map a.eval= #[]) _ (t340 n w) ?_;rintro e w' ⟨⟨s,rfl⟩,h2⟩;exact ⟨_,rfl,hK s w' h2⟩
 · have h0:cv= .iface 267 v.val:=h;subst h0;refine aT hg r "String" #[] #[] hop 267 _ 298 v.val _ hr (fun w=>by kernel_rfl) func298 rfl (by kernel_rfl) (by simp:(#[]:Array Operand).map a.eval= #[]) _ (t298 v hc w hG) ?_;rintro e w' ⟨⟨s,rfl⟩,h2⟩;exact ⟨_,rfl,hK s w' h2⟩
 · have h0:cv= .iface 287 (.agg #[u.val, .string q]):=h;subst h0;refine aT hg r "String" #[] #[] hop 287 _ 350 (.agg #[u.val, .string q]) _ hr (fun w=>by kernel_rfl) func350 rfl (by kernel_rfl) (by simp:(#[]:Array Operand).map a.eval= #[]) _ (t350 u hc.1 q w hG) ?_;rintro e w' ⟨⟨s,rfl⟩,h2⟩;exact ⟨_,rfl,hK s w' h2⟩
 obtain ⟨v,h0,hs⟩:=h;subst h0;refine aT hg r "String" #[] #[] hop 269 _ 309 (.agg #[v]) _ hr (fun w=>by kernel_rfl) func309 rfl (by kernel_rfl) (by simp:(#[]:Array Operand).map a.eval= #[]) _ (t309 c v w hs hc hG) ?_;rintro e w' ⟨⟨s,rfl⟩,h2⟩;exact ⟨_,rfl,hK s w' h2⟩
theorem Ix {ops:Array Oper} {rest:List Oper} {o:Oper} {a:Act} {w:World} {Q:Exit->Act->World->Prop} {F:Nat->Prop} {c:GC} {cv:Value} (hg:o.guard=none) (r:Operand)
 (hop:o.op= .call {callee:= .invoke r "ImpliedCaretString",args:= #[],argTypes:= #[]}) (hr:a.eval r=cv) (h:fU F w cv c) (hc:c.Ok) (hG:Gl w) (hK:∀(s:aa) w',Below w.heap.size w w'->wpList Tryz.prog ops Q rest (a.put o.dst (.string s)) w'):wpList Tryz.prog ops Q (o::rest) a w:=by
 rcases c with _|_|(q|(⟨n,d⟩|n|v)|⟨u,q⟩)|c
 · have h0:cv= .iface 257 (.agg #[]):=h;subst h0;refine aT hg r "ImpliedCaretString" #[] #[] hop 257 _ 274 (.agg #[]) _ hr (fun w=>by kernel_rfl) func274 rfl (by kernel_rfl) (by simp:(#[]:Array Operand).map a.eval= #[]) _ (t274 w) ?_;rintro e w' ⟨⟨s,rfl⟩,h2⟩;exact ⟨_,rfl,hK s w' h2⟩
 · have h0:cv= .iface 270 (.agg #[]):=h;subst h0;refine aT hg r "ImpliedCaretString" #[] #[] hop 270 _ 312 (.agg #[]) _ hr (fun w=>by kernel_rfl) func312 rfl (by kernel_rfl) (by simp:(#[]:Array Operand).map a.eval= #[]) _ (t312 w) ?_;rintro e w' ⟨⟨s,rfl⟩,h2⟩;exact ⟨_,rfl,hK s w' h2⟩
 · have h0:cv= .iface 144 (.string q):=h;subst h0;refine aT hg r "ImpliedCaretString" #[] #[] hop 144 _ 248 (.string q) _ hr (fun w=>by kernel_rfl) func248 rfl (by kernel_rfl) (by simp:(#[]:Array Operand).map a.eval= #[]) _ (t248 q w) ?_;rintro e w' ⟨⟨s,rfl⟩,h2⟩;exact ⟨_,rfl,hK s w' h2⟩
 · have h0:cv= .iface 284 (.agg #[.string n, .bool d]):=h;subst h0;refine aT hg r "ImpliedCaretString" #[] #[] hop 284 _ 325 (.agg #[.string n, .bool d]) _ hr (fun w=>by kernel_rfl) func325 rfl (by kernel_rfl) (by simp:(#[]:Array Operand).map a.eval= #[]) _ (t325 n d w) ?_;rintro e w' ⟨⟨s,rfl⟩,h2⟩;exact ⟨_,rfl,hK s w' h2⟩
 · have h0:cv= .iface 285 (.string n):=h;subst h0;refine aT hg r "ImpliedCaretString" #[] #[] hop 285 _ 335 (.string n) _ hr (fun w=>by kernel_rfl) func335 rfl (by kernel_rfl) (by simp:(#[]:Array Operand).map a.eval= #[]) _ (t335 n w) ?_;rintro e w' ⟨⟨s,rfl⟩,h2⟩;exact ⟨_,rfl,hK s w' h2⟩
 · have h0:cv= .iface 267 v.val:=h;subst h0;refine aT hg r "ImpliedCaretString" #[] #[] hop 267 _ 293 v.val _ hr (fun w=>by kernel_rfl) func293 rfl (by kernel_rfl) (by simp:(#[]:Array Operand).map a.eval= #[]) _ (t293 v hc w hG) ?_;rintro e w' ⟨⟨s,rfl⟩,h2⟩;exact ⟨_,rfl,hK s w' h2⟩
 · have h0:cv= .iface 287 (.agg #[u.val, .string q]):=h;subst h0;refine aT hg r "ImpliedCaretString" #[] #[] hop 287 _ 345 (.agg #[u.val, .string q]) _ hr (fun w=>by kernel_rfl) func345 rfl (by kernel_rfl) (by simp:(#[]:Array Operand).map a.eval= #[]) _ (t345 u hc.1 q w hG) ?_;rintro e w' ⟨⟨s,rfl⟩,h2⟩;exact ⟨_,rfl,hK s w' h2⟩
 obtain ⟨v,h0,hs⟩:=h;subst h0;refine aT hg r "ImpliedCaretString" #[] #[] hop 269 _ 306 (.agg #[v]) _ hr (fun w=>by kernel_rfl) func306 rfl (by kernel_rfl) (by simp:(#[]:Array Operand).map a.eval= #[]) _ (t306 c v w hs hc hG) ?_;rintro e w' ⟨⟨s,rfl⟩,h2⟩;exact ⟨_,rfl,hK s w' h2⟩
theorem df {P:Program} {fn:Func} {p:Tmp} {ty:TypeId} (h:fn.results= #[.cell p ty]) (tmps:Array Value) (w:World) (g:Nat) (t:TypeId) (cs:Array Value) (fr:Nat × Nat) (d:TypeDesc)
 (hp:tmps.getD p undef= .pointer (some ⟨g,0,none⟩)) (hg:w.heap[g]?=some (.cells cs t fr))
 (hu:P.underlying ty=some d) (hd:(match d with| .struct _| .array _ _=>true|_=>false)=true) (hi:(P.info? ty).map (·.size)=some cs.size):
 (results fn tmps).run P w= .ok (.agg cs) w:=by
 have hp':tmps[p]?.getD undef= .pointer (some ⟨g,0,none⟩):=by simpa using hp
 simp [results,h,hp',asAddr,run_loadVar_row w g t ty cs fr d hg hu hd hi]
theorem fU.pure {F:Nat->Prop} {w w':World} {v:Value} {c:GC} (h:fU F w v c) (hb:Below w.heap.size w w'):fU F w' v c:=by
 cases c with
 | semc c=>obtain ⟨x,h1,h2⟩:=h;exact ⟨x,h1,h2.pure hb⟩
 | any=>exact h
 | no=>exact h
 | ver g=>exact h
theorem isAny {F:Nat->Prop} {w:World} {cv:Value} {c:GC} (h:fU F w cv c) (W:World):Calls Tryz.prog 90 #[cv] W fun e w'=>(∃b,e= .returned (.bool b))/\Below W.heap.size W w':=by
 rcases c with _|_|(q|(⟨n,d⟩|n|v)|⟨u,q⟩)|c
 · have h0:cv= .iface 257 (.agg #[]):=h;subst h0;exact (Wt W).mono fun e w' h=>⟨⟨_,h.1⟩,h.2⟩
 · have h0:cv= .iface 270 (.agg #[]):=h;subst h0;exact (f90 _ _ W (by decide)).mono fun e w' h=>⟨⟨_,h.1⟩,h.2⟩
 · have h0:cv= .iface 144 (.string q):=h;subst h0;exact (f90 _ _ W (by decide)).mono fun e w' h=>⟨⟨_,h.1⟩,h.2⟩
 · have h0:cv= .iface 284 (.agg #[.string n, .bool d]):=h;subst h0;exact (f90 _ _ W (by decide)).mono fun e w' h=>⟨⟨_,h.1⟩,h.2⟩
 · have h0:cv= .iface 285 (.string n):=h;subst h0;exact (f90 _ _ W (by decide)).mono fun e w' h=>⟨⟨_,h.1⟩,h.2⟩
 · have h0:cv= .iface 267 v.val:=h;subst h0;exact (f90 _ _ W (by decide)).mono fun e w' h=>⟨⟨_,h.1⟩,h.2⟩
 · have h0:cv= .iface 287 (.agg #[u.val, .string q]):=h;subst h0;exact (f90 _ _ W (by decide)).mono fun e w' h=>⟨⟨_,h.1⟩,h.2⟩
 obtain ⟨v,h0,hs⟩:=h;subst h0;exact (f90 _ _ W (by decide)).mono fun e w' h=>⟨⟨_,h.1⟩,h.2⟩
theorem isNone {F:Nat->Prop} {w:World} {cv:Value} {c:GC} (h:fU F w cv c) (W:World):Calls Tryz.prog 91 #[cv] W fun e w'=>(∃b,e= .returned (.bool b))/\Below W.heap.size W w':=by
 rcases c with _|_|(q|(⟨n,d⟩|n|v)|⟨u,q⟩)|c
 · have h0:cv= .iface 257 (.agg #[]):=h;subst h0;exact (f91 _ _ W (by decide)).mono fun e w' h=>⟨⟨_,h.1⟩,h.2⟩
 · have h0:cv= .iface 270 (.agg #[]):=h;subst h0;exact (Wu W).mono fun e w' h=>⟨⟨_,h.1⟩,h.2⟩
 · have h0:cv= .iface 144 (.string q):=h;subst h0;exact (f91 _ _ W (by decide)).mono fun e w' h=>⟨⟨_,h.1⟩,h.2⟩
 · have h0:cv= .iface 284 (.agg #[.string n, .bool d]):=h;subst h0;exact (f91 _ _ W (by decide)).mono fun e w' h=>⟨⟨_,h.1⟩,h.2⟩
 · have h0:cv= .iface 285 (.string n):=h;subst h0;exact (f91 _ _ W (by decide)).mono fun e w' h=>⟨⟨_,h.1⟩,h.2⟩
 · have h0:cv= .iface 267 v.val:=h;subst h0;exact (f91 _ _ W (by decide)).mono fun e w' h=>⟨⟨_,h.1⟩,h.2⟩
 · have h0:cv= .iface 287 (.agg #[u.val, .string q]):=h;subst h0;exact (f91 _ _ W (by decide)).mono fun e w' h=>⟨⟨_,h.1⟩,h.2⟩
 obtain ⟨v,h0,hs⟩:=h;subst h0;exact (f91 _ _ W (by decide)).mono fun e w' h=>⟨⟨_,h.1⟩,h.2⟩
theorem uC:(Tryz.prog.info? 76).map (·.size)=some 5:=by kernel_rfl
theorem Kg (a b c:Bool) (s t:aa):(#[.bool a, .string s, .string t, .bool b, .bool c]:Array Value).all (·.oneCell')=true:=by
 simp only [List.all_toArray,List.all_cons,List.all_nil,Bool.and_true];rfl
def xx (ok:Bool) (e:Ending):Prop:=∃(s t:aa) (a n:Bool),e= .returned (.agg #[.bool ok, .string s, .string t, .bool a, .bool n])
theorem f54 {F:Nat->Prop} (c:GC) (cv:Value) (ok:Bool) (w:World) (h:fU F w cv c) (hc:c.Ok) (hg:Gl w):Calls Tryz.prog 54 #[cv, .bool ok] w fun e w'=>xx ok e/\Below w.heap.size w w':=by
 obtain ⟨w1,hw1,g1,hs1,az⟩:=aZ w (.cells #[.bool false, .string ⟨#[]⟩, .string ⟨#[]⟩, .bool false, .bool false] 76);have HW:=Y4 hw1 g1 hs1 az;have H:=Y3 (h.pure az) hc (hg.pure az);have HA:=Y0 (isAny h);have HN:=Y0 (isNone h);clear h hc hg hw1 g1 hs1 az;have flag:True:=trivial;go_enter func54,ntmps54
 go_wp2_with (first
  | (clear flag;refine Iw (o:=⟨some 7,_,_,_,_,_⟩) (cv:=cv) (c:=c) (F:=F) rfl _ rfl rfl (by rw [<-HW.out.1];exact H.out.1) H.out.2.1 (by rw [<-HW.out.1];exact H.out.2.2) ?_;rw [<-HW.out.1];intro s w2 cZ;have iN:=Y0 cZ;clear cZ;have aj:True:=trivial)
  | (clear aj;refine Ix (o:=⟨some 9,_,_,_,_,_⟩) (cv:=cv) (c:=c) (F:=F) rfl _ rfl rfl (H.out.1.pure iN.out) H.out.2.1 (H.out.2.2.pure iN.out) ?_;intro t w3 bb;have dK:=Y0 (iN.out.trans (bb.mono iN.out.size));clear bb;have au:True:=trivial)
  | (clear au;go_at_call 90;refine (HA.out _).mono ?_;rintro e w4 ⟨⟨a,rfl⟩,hB4⟩;have jA:=Y0 (dK.out.trans (hB4.mono dK.out.size));clear hB4;have aQ:True:=trivial)
  | (clear aQ;go_at_call 91;refine (HN.out _).mono ?_;rintro e w5 ⟨⟨n,rfl⟩,bz⟩;have dS:=Y0 (jA.out.trans (bz.mono jA.out.size));clear bz;have cf:True:=trivial)
  | (clear cf;refine s9 (o:=⟨none,Op.store 76 (Operand.tmp 4) (Operand.tmp 14),_,_,_,_⟩) (cs:= #[.bool ok, .string s, .string t, .bool a, .bool n]) (old:= #[.bool false, .string ⟨#[]⟩, .string ⟨#[]⟩, .bool false, .bool false]) rfl _ _ rfl w.heap.size rfl rfl (aJ HW.out.2.1 (by have:=HW.out.2.2.1;omega) dS.out) uC rfl (Kg _ _ _ _ _) ?_;intro W6 H6))
 refine bodyPost_ret (df (p:=4) results54 _ W6 w.heap.size 76 _ (0,0) _ rfl H6.out.1 underlying76 rfl uC) rfl ?_;exact ⟨⟨s,t,a,n,rfl⟩,(HW.out.2.2.2.trans (dS.out.mono (by have:=HW.out.2.2.1;omega))).trans H6.out.2.2⟩
theorem EX {caret:Bool} {L:List aa} {res:Option Sc} {c:Sc} (hL:∀x∈L,x.size<=40) (hk:∀j,j<=L.length->(∀x∈L.take j,0<x.size)->j<=20) (hr:res=some c):∀(n k:Nat) (all:Sc),k+n=L.length->js caret L k all res->c.Ok 1048576 20
 | 0,k,all,h,ha=>by
   have hkl:k=L.length:=by omega
   subst hkl;have h1:=hk _ (Nat.le_refl _) ha.pos;have h2:=ha.done;rw [hr] at h2;injection h2 with h2
   subst h2
   exact ha.ok.mono (zM h1) h1
 | n+1,k,all,h,ha=>by
   have hlt:k<L.length:=by omega
   cases hq:fo (di L[k]) caret with
   | none=>rw [ha.fail hlt hq] at hr;cases hr
   | some c2=>exact EX hL hk hr n (k+1) _ (by omega) (ha.next hlt hq (hL _ (List.getElem_mem hlt)))
theorem Iy {caret:Bool} {s:aa} {c:Sc} (hs:s.size<=40) (h:vW caret s=some c):c.Ok 1048576 20:=
 EX (fun x hx=>lg (by decide) hs hx) (fun j hj hp=>Kf hs hj hp) h _ 0 (.rng [.zero]) (Nat.zero_add _) (js.start caret _)
theorem Bq {caret:Bool}:∀(L:List aa) (out:List Pc) (only:Sc) (o:List Pc) (y:Sc),(∀x∈L,x.size<=40)->(∀p∈out,p.Ok 20)->ky caret L out only=some (o,y)->(∀p∈o,p.Ok 20)/\o.length<=out.length+L.length*1048576/\(L= []\/y.Ok 1048576 20)
 | [],out,only,o,y,_,ho,h=>by
   simp only [ky,Option.some.injEq,Prod.mk.injEq] at h;obtain ⟨rfl,rfl⟩:=h
   exact ⟨ho,Nat.le_add_right _ _, .inl rfl⟩
 | s::r,out,only,o,y,hL,ho,h=>by
   rw [mq] at h
   cases hq:vW caret s with
   | none=>rw [hq] at h;cases h
   | some c=>
     rw [hq] at h;have h1:=Iy (hL s (.head _)) hq;have h2:=ES (by decide) h1
     obtain ⟨a,b,d⟩:=Bq r (out++c.pcs) c o y (fun x hx=>hL x (.tail _ hx)) (fun p hp=>by
      rcases List.mem_append.1 hp with hp|hp
      · exact ho p hp
      exact h2.2 p hp) h
     refine ⟨a, ?_, .inr ?_⟩
     · have:=h2.1;rw [List.length_append] at b;simp only [List.length_cons];omega
     rcases d with rfl|d
     · simp only [ky,Option.some.injEq,Prod.mk.injEq] at h;rw [<-h.2];exact h1
     exact d
theorem zN {t:aa} {b:Bool} {c:Sc} (ht:t.size<=40) (h:cj t b=some c):GC.Ok (.semc c):=by
 unfold cj at h;have hL:=fun x (hx:x∈cP t ⟨#[124,124]⟩)=>lg (by decide) ht hx
 have hl:=nZ (s:=t) (sep:=⟨#[124,124]⟩) (by decide) ht;generalize cP t ⟨#[124,124]⟩=L at*
 cases hq:ky b L [] (.rng []) with
 | none=>rw [hq] at h;cases h
 | some p=>
   obtain ⟨o,y⟩:=p;rw [hq] at h;obtain ⟨h1,h2,h3⟩:=Bq L [] (.rng []) o y hL (by simp) hq;simp only at h;split at h
   · rename_i lZ;injection h with h
     subst h;rcases h3 with rfl|h3
     · cases lZ
     cases y with
     | ver v=>exact h3
     | rng ps=>exact ⟨Nat.le_trans h3.1 (by decide),fun p hp=>(h3.2 p hp).mono (by decide)⟩
   injection h with h
   subst h;refine ⟨?_,fun p hp=>(h1 p hp).mono (by decide)⟩;simp only [List.length_nil] at h2;omega
theorem Br {t:aa} {b:Bool} (ht:t.size<=40):(oq t b).1.Ok:=by
 unfold oq
 cases hq:cj t b with
 | none=>exact trivial
 | some c=>
   have h:=zN ht hq
   cases c with
   | ver v=>exact h
   | rng ps=>exact h
theorem tj {c:CD} (hc:c.Ok):c.g.1.Ok:=by
 unfold CD.g Bj;split
 · exact trivial
 split
 · exact Br hc.t
 split
 · exact Br hc.t
 split
 · rename_i h;exact uv (hc.v h).1 (hc.v h).2
 exact trivial
theorem f31 (c:CD) (A:Option Addr) (n cap:Nat) (w:World) (hc:c.Ok) (hg:Gl w):Calls Tryz.prog 31 #[c.val (.slice A n cap)] w fun e w'=>xx c.g.2 e/\Below w.heap.size w w':=by
 have hok:=tj hc;obtain ⟨w1,hw1,g1,g2,hs1,az⟩:=dO w (.cells #[.int .i64 c.kind, .string c.text, .int .i64 c.v.kind, .string c.v.text, .string c.v.rev, .slice A n cap] 58) (.cells #[.bool false, .string ⟨#[]⟩, .string ⟨#[]⟩, .bool false, .bool false] 76);have H:=f48 (F:=fun _=>False) c A n cap w1 hc (hg.pure az) (fun b hb=>hb.elim);have HW:=Y4 hw1 g2 hs1 az;have HG:=Y2 hok (hg.pure az);clear hok hc hg hw1 g1 g2 hs1 az;generalize c.g=gg at*;obtain ⟨gc,ok⟩:=gg;simp only [CD.val] at*;have H:=Y0 H;have flag:True:=trivial;go_enter func31,ntmps31
 go_wp2_with (first
  | (clear flag;go_at_call 48;rw [<-HW.out.1];refine H.out.mono ?_;rintro e w2 ⟨⟨cv,rfl,hcv⟩,cZ⟩;have H2:=Y2 hcv cZ;clear hcv cZ;have aj:True:=trivial)
  | (clear aj;go_at_call 54;refine (f54 gc cv ok w2 H2.out.1 HG.out.1 (HG.out.2.pure H2.out.2)).mono ?_;rintro e w3 ⟨⟨s,t,a,n,rfl⟩,bb⟩;have dK:=Y0 (H2.out.2.trans (bb.mono H2.out.2.size));clear bb;have au:True:=trivial)
  | (clear au;refine s9 (o:=⟨none,Op.store 76 (Operand.tmp 2) (Operand.tmp 12),_,_,_,_⟩) (cs:= #[.bool ok, .string s, .string t, .bool a, .bool n]) (old:= #[.bool false, .string ⟨#[]⟩, .string ⟨#[]⟩, .bool false, .bool false]) rfl _ _ rfl (w.heap.size+1) rfl rfl (aJ HW.out.2.1 (by have:=HW.out.2.2.1;omega) dK.out) uC rfl (Kg _ _ _ _ _) ?_;intro W6 H6))
 refine bodyPost_ret (df (p:=2) results31 _ W6 (w.heap.size+1) 76 _ (0,0) _ rfl H6.out.1 underlying76 rfl uC) rfl ?_;exact ⟨⟨s,t,a,n,rfl⟩,(HW.out.2.2.2.trans (dK.out.mono (by have:=HW.out.2.2.1;omega))).trans (H6.out.2.2.mono (by omega))⟩
theorem GC.Ok.oks {c:Sc} (h:GC.Ok (.semc c)):c.Oks:=by
 cases c with
 | ver v=>exact h
 | rng ps=>exact h.2
section
variable {o:Oper} {a:Act} {w:World} {K:Act->World->Prop} {Q:Exit->Act->World->Prop} {F:Nat->Prop} {c:GC} {cv:Value} {g:GV}
theorem EY (r x:Operand) (ty:TypeId) (hop:o.op= .call {callee:= .invoke r "Matches",args:= #[x],argTypes:= #[ty]}) (hr:a.eval r=cv) (hx:a.eval x=g.val) (h:fU F w cv c) (hc:c.Ok) (hg:g.Ok)
 (hK:∀w',Below w.heap.size w w'->K (a.put o.dst (.bool (c.mat g))) w'):o.wp Tryz.prog a w K Q:=by
 have hargs:(#[x]:Array Operand).map a.eval= #[g.val]:=by simp [hx]
 have fin:∀(e:Ending) w',(e= .returned (.bool (c.mat g))/\Below w.heap.size w w')->∃v,e= .returned v/\K (a.put o.dst v) w':=fun e w' h=>⟨_,h.1,hK w' h.2⟩
 rcases c with _|_|(q|(⟨n,d⟩|n|v)|⟨u,q⟩)|c
 · have h0:cv= .iface 257 (.agg #[]):=h;subst h0;exact ed r "Matches" _ _ hop 257 _ 276 (.agg #[]) _ hr (fun w=>by kernel_rfl) func276 rfl (by kernel_rfl) hargs _ (f276 g w) fin
 · have h0:cv= .iface 270 (.agg #[]):=h;subst h0;exact ed r "Matches" _ _ hop 270 _ 314 (.agg #[]) _ hr (fun w=>by kernel_rfl) func314 rfl (by kernel_rfl) hargs _ (f314 g w) fin
 · have h0:cv= .iface 144 (.string q):=h;subst h0;exact ed r "Matches" _ _ hop 144 _ 250 (.string q) _ hr (fun w=>by kernel_rfl) func250 rfl (by kernel_rfl) hargs _ (f250 q g w) fin
 · have h0:cv= .iface 284 (.agg #[.string n, .bool d]):=h;subst h0;exact ed r "Matches" _ _ hop 284 _ 327 (.agg #[.string n, .bool d]) _ hr (fun w=>by kernel_rfl) func327 rfl (by kernel_rfl) hargs _ (f327 n d g w) fin
 · have h0:cv= .iface 285 (.string n):=h;subst h0;exact ed r "Matches" _ _ hop 285 _ 337 (.string n) _ hr (fun w=>by kernel_rfl) func337 rfl (by kernel_rfl) hargs _ (f337 n g w) fin
 · have h0:cv= .iface 267 v.val:=h;subst h0;exact ed r "Matches" _ _ hop 267 _ 295 v.val _ hr (fun w=>by kernel_rfl) func295 rfl (by kernel_rfl) hargs _ (f295 v hc g hg w) fin
 · have h0:cv= .iface 287 (.agg #[u.val, .string q]):=h;subst h0;exact ed r "Matches" _ _ hop 287 _ 347 (.agg #[u.val, .string q]) _ hr (fun w=>by kernel_rfl) func347 rfl (by kernel_rfl) hargs _ (f347 u hc.1 q g hg w) fin
 obtain ⟨v,h0,hs⟩:=h;subst h0;exact ed r "Matches" _ _ hop 269 _ 307 (.agg #[v]) _ hr (fun w=>by kernel_rfl) func307 rfl (by kernel_rfl) hargs _ (f307 c v g w hs hc.oks hg) fin
theorem EZ {ops:Array Oper} {E:Prop} (hgd:o.guard=none) (r x:Operand) (ty:TypeId) (hop:o.op= .call {callee:= .invoke r "Matches",args:= #[x],argTypes:= #[ty]}) (hr:a.eval r=cv) (hx:a.eval x=g.val) (h:fU F w cv c) (hc:c.Ok) (hg:g.Ok)
 (hK:∀w',Below w.heap.size w w'->K (a.put o.dst (.bool (c.mat g))) w'):if Region.wanted o (yielded ops a.tmps)=true then Oper.wp Tryz.prog o a w K Q else E:=by
 have hw:Region.wanted o (yielded ops a.tmps)=true:=by simp [Region.wanted,hgd]
 rw [if_pos hw];exact EY r x ty hop hr hx h hc hg hK
end
theorem fU.form {F:Nat->Prop} {w:World} {cv:Value} {c:GC} (h:fU F w cv c):∃T x,cv= .iface T x/\∀W,(nilAhead 541 T x "Matches").run Tryz.prog W= .ok (some false) W:=by
 rcases c with _|_|(q|(⟨n,d⟩|n|v)|⟨u,q⟩)|c
 · exact ⟨257,(.agg #[]),h,fun W=>by kernel_rfl⟩
 · exact ⟨270,(.agg #[]),h,fun W=>by kernel_rfl⟩
 · exact ⟨144,(.string q),h,fun W=>by kernel_rfl⟩
 · exact ⟨284,(.agg #[.string n, .bool d]),h,fun W=>by kernel_rfl⟩
 · exact ⟨285,(.string n),h,fun W=>by kernel_rfl⟩
 · exact ⟨267,v.val,h,fun W=>by kernel_rfl⟩
 · exact ⟨287,(.agg #[u.val, .string q]),h,fun W=>by kernel_rfl⟩
 obtain ⟨v,h0,_⟩:=h;exact ⟨269, .agg #[v],h0,fun W=>by kernel_rfl⟩
theorem f18 (c:CD) (A:Option Addr) (n cap:Nat) (v:VD) (w:World) (hc:c.Ok) (hv:v.text.size<=40) (hr:v.rev.size<=40) (hg:Gl w):
 Calls Tryz.prog 18 #[c.val (.slice A n cap),v.val] w fun e w'=>e= .returned (.bool (c.g.1.mat (jH v)))/\Below w.heap.size w w':=by
 have hok:=tj hc;have hvg:=uv hv hr;obtain ⟨w1,hw1,g1,g2,hs1,az⟩:=dO w (.cells #[.int .i64 c.kind, .string c.text, .int .i64 c.v.kind, .string c.v.text, .string c.v.rev, .slice A n cap] 58) (.cells #[.int .i64 v.kind, .string v.text, .string v.rev] 52);have H:=f48 (F:=fun _=>False) c A n cap w1 hc (hg.pure az) (fun b hb=>hb.elim);have Ww:=Y0 fun W (h:Below w1.heap.size w1 W)=>f49 v W hv (hg.pure (az.trans (h.mono az.size)))
 have HW:=Y4 hw1 g2 hs1 az;have HO:=Y2 hok hvg;clear hok hc hg hw1 g1 g2 hs1 az hv hr hvg;generalize c.g=gg at*;generalize jH v=gv at*;obtain ⟨gc,ok⟩:=gg;simp only [CD.val,VD.val] at*;have H:=Y0 H;have hS:Hid (∀W,Below w1.heap.size w1 W->Below w1.heap.size w1 W/\W.cell? ⟨w.heap.size+1,0,none⟩=some (.int .i64 v.kind)/\W.cell? ⟨w.heap.size+1,1,none⟩=some (.string v.text)/\W.cell? ⟨w.heap.size+1,2,none⟩=some (.string v.rev)):=Y0 fun W hW=>⟨hW,aK HW.out.2.1 hW _ rfl,aK HW.out.2.1 hW _ rfl,aK HW.out.2.1 hW _ rfl⟩
 go_enter func18,ntmps18;go_wp2_with (go_at_call 48;rw [<-HW.out.1];refine H.out.mono ?_;rintro e w2 ⟨⟨cv,rfl,hcv⟩,cZ⟩;obtain ⟨CT,cx,rfl,hn⟩:=hcv.form;have H2:=Y2 hcv cZ;clear hcv cZ);refine wp_region_held_drew (S:=(fun W=>Below w1.heap.size w1 W/\W.cell? ⟨w.heap.size+1,0,none⟩=some (.int .i64 v.kind)/\W.cell? ⟨w.heap.size+1,1,none⟩=some (.string v.text)/\W.cell? ⟨w.heap.size+1,2,none⟩=some (.string v.rev))) (by kernel_rfl) ?_ (fun hHeld=> ?_)
 · (try dsimp only)
   first|assumption|exact hS.out _ (by first|exact H2.out.2.drew|exact H3.out)
 refine ik [0,1,3,4,5] ?_;refine kq 2 (fun K hK=> ?_);go_simp;go_at_call 49;have aR:Below w1.heap.size w1 _/\_:=(by assumption);refine (Ww.out _ aR.1).mono ?_;rintro e w3 ⟨rfl,bb⟩;have H3:=Y0 (aR.1.trans (bb.mono aR.1.size));have H3b:=Y0 bb;clear bb;refine hK.out _ _ ?_ (fun hHeld=> ?_)
 · (try dsimp only)
   first|assumption|exact hS.out _ (by first|exact H2.out.2.drew|exact H3.out)
 clear hK K
 (try simp only [Act.put,aA,aB,aC])
 refine kq 6 (fun K hK=> ?_);refine EZ (F:=fun _=>False) (c:=gc) (g:=gv) rfl _ _ _ rfl rfl rfl ((H2.out.1.pure (Below.refl _ _).drew).pure H3b.out) HO.out.1 HO.out.2 ?_;intro w4 hB4;have H3:=Y0 (H3.out.trans (hB4.mono H3.out.size));clear hB4;refine hK.out _ _ ?_ (fun hHeld=> ?_)
 · (try dsimp only)
   first|assumption|exact hS.out _ (by first|exact H2.out.2.drew|exact H3.out)
 clear hK K
 (try simp only [Act.put,aA,aB,aC])
 refine ik [7] ?_;refine ve ?_;go_wp2;go_ret;exact ⟨rfl,HW.out.2.2.2.trans (H3.out.mono (by have:=HW.out.2.2.1;omega))⟩
end Go.Proofs.YtjenhelmpcajfaaGreatDoor
