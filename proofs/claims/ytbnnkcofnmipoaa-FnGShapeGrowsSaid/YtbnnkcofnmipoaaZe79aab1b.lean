/- Texts in one. No condition. -/
import Derived.Test.YtbnnkcofnmipoaaZA
import Derived.Test.YtbnnkcofnmipoaaZFacts
set_option linter.unusedVariables false
set_option linter.unusedSimpArgs false
namespace Go.Proofs.Ytbnnkcofnmipoaa
open Go Go.Proofs
abbrev It:=Int × Int
abbrev Rk:=Int
def E:Enc It where
 cel x:=[.int .i64 x.1,.int .i64 x.2]
 sz:=2
 len _:=rfl
 one x v hv:=by simp at hv;rcases hv with rfl | rfl<;>rfl
 pos:=by decide
def rk (ord:List Int) (k:Int):Int:=if ord=[] then k else (ord[((k.tmod ord.length+ord.length).tmod ord.length).toNat]?).getD 0
def rkI (ord:List Int) (x:It):Rk:=rk ord x.1
abbrev O:SOrd Rk:=intOrd
def zIt:It:=(0,0)
def itV (x:It):Value:=.agg #[.int .i64 x.1,.int .i64 x.2]
theorem E_sz:E.sz=2:=rfl
theorem it_at {w:World} {b o:Nat} {xs:List It} (h:Row w b o (flat E xs)) {i:Nat} {x:It} (hi:xs[i]? = some x):rdA w b (o+i*2) 2=some (itV x) :=
 (row_at E h hi).rdA 2 (by simp [E])
set_option maxHeartbeats 40000 in
theorem leaf_any (b:Nat) (ch:Option Addr) (w:World) (hch:rd w b 3=some (.pointer ch)) :
  CallK Try.prog 108 #[ptr b] w fun v w'=>v = .bool ch.isNone/\w'=w:=by
 refine calls_of_W [.tmp 2] Try.func108 rfl Try.ntmps108 Try.results108 (by simp) fun e he=>?_
 have h0:e 0=ptr b:=he 0 _ rfl
 clear he
 refine W_sq fun K hK=>(W_text [true] (by kernel_rfl) ?_);simp only [↓zZ1,↓reduceIte,Nat.reduceEqDiff,rg,ow_108]
 apply hK;clear hK K
 refine W_sq fun K hK=>(W_text [true,true,true,true,true,true] (by kernel_rfl) ?_);simp only [↓zZ1,↓reduceIte,Nat.reduceEqDiff,rg,ow_108,h0,ptr_eq,hch]
 apply hK;clear hK K
 exact W_ret (endQ_1 rfl ⟨rfl,rfl⟩)
structure Cfg (w:World) (m:Nat) (iso:Int) (d:Nat):Prop where
 iso:rd w m 0=some (.int .u64 iso)
 ez:Row w m 7 (E.cel zIt)
 mn:rd w m 10=some (.int .i64 ((d-1:Nat):Int))
 mx:rd w m 9=some (.int .i64 ((2*d-1:Nat):Int))
 cv:rd w m 4=some (.bool false)
 ci:rd w m 5=some (.bool false)
 wok:wok w m 11
def cfgF (m:Nat):Nat->Nat->Prop:=fun x o=>x=m/\o ≠ 2/\o ≠ 3
theorem Cfg.ext {w w':World} {G:Nat->Nat->Prop} {m:Nat} {iso:Int} {d:Nat} (h:Cfg w m iso d) (hx:Ext G w w') (hG:∀ o,o ≠ 2->o ≠ 3->¬ G m o):Cfg w' m iso d :=
 ⟨hx.rd h.iso (hG _ (by decide) (by decide)),hx.row h.ez fun i _=>hG _ (by omega) (by omega),hx.rd h.mn (hG _ (by decide) (by decide)),hx.rd h.mx (hG _ (by decide) (by decide)),
  hx.rd h.cv (hG _ (by decide) (by decide)),hx.rd h.ci (hG _ (by decide) (by decide)),hx.wok h.wok⟩
theorem zIt_at {w:World} {m:Nat} {iso:Int} {d:Nat} (h:Cfg w m iso d):rdA w m 7 2=some (itV zIt):=h.ez.rdA 2 (by simp [E])
theorem Ext.od {F:Nat->Nat->Prop} {w w':World} {n:Nat} (h:Ext F (Go.Proofs.Ytbnnkcofnmipoaa.dr w n) w'):Ext F w w':=(Ext.dr F w n).tr h
theorem New.od {w w':World} {n:Nat} {l:List Value} (h:New (Go.Proofs.Ytbnnkcofnmipoaa.dr w n) w' l):New w w' l:=⟨h.ext.od,h.size,h.row,h.wok⟩
theorem keep3 {F:Nat->Nat->Prop} {w w':World} {a b c:Nat} (h:Ext F w w') (h1:a<w.heap.size/\∀ o,¬ F a o) (h2:b<w.heap.size/\∀ o,¬ F b o) (h3:c<w.heap.size/\∀ o,¬ F c o) :
  keeps (some (some [a,b,c])) w w':=keeps_on h fun x hx=>by
 simp only [List.mem_cons,List.not_mem_nil,or_false] at hx
 rcases hx with rfl | rfl | rfl
 ·exact h1
 ·exact h2
 ·exact h3
theorem on1 (a b c:Nat):readsB (some (some [a,b,c])) a=true:=by simp [readsB]
theorem on2 (a b c:Nat):readsB (some (some [a,b,c])) b=true:=by simp [readsB]
theorem on3 (a b c:Nat):readsB (some (some [a,b,c])) c=true:=by simp [readsB]
structure NewN (w:World) (B b:Nat) (iso:Int) (lf:Bool):Prop where
 ge:B<=b
 h0:rd w b 0=some (.int .u64 iso)
 h1:rd w b 1=some (.int .i64 0)
 h2:rd w b 2=some (.slice none 0 0)
 wb:wok w b 4
 leaf:lf=true->rd w b 3=some (.pointer none)
 kids:lf=false->∃ bc,rd w b 3=some (ptr bc)/\B<=bc/\bc ≠ b/\rd w bc 0=some (.slice none 0 0)/\wok w bc 1
theorem z_kids:zK Try.prog 166=some [.slice none 0 0]:=by kernel_rfl
theorem oc_one {v:Value} {l:List Value} (h:l=[v]) (hv:v.oneCell'=true):oc l:=fun u hu=>by rw [h] at hu;simp at hu;rw [hu];exact hv
theorem noF_of {F:Nat->Nat->Prop} {a b c:World} (h:Ext noF a b) (k:Ext F b c) (hF:∀ x o,x<a.heap.size->¬ F x o):Ext noF a c :=
 h.trans k (fun _ _ h=>h) fun x o hx h=>hF x o hx h
set_option maxHeartbeats 400000 in
set_option maxRecDepth 8000 in
theorem isoLoad_any (m pc po b:Nat) (mu:Bool) (iso:Int) (w:World) (h0:rd w m 0=some (.int .u64 iso)) (hp:rd w pc po=some (ptr b)) (hb:rd w b 0=some (.int .u64 iso)) :
  CallK Try.prog 96 #[ptr m,.pointer (some ⟨pc,po,none⟩),.bool mu] w fun v w'=>v=ptr b/\RO w w':=by
 refine calls_of_W [.tmp 6] Try.func96 rfl Try.ntmps96 Try.results96 (by simp) fun e he=>?_
 have e0:e 0=ptr m:=he 0 _ rfl
 have e1:e 1 = .pointer (some ⟨pc,po,none⟩):=he 1 _ rfl
 have e2:e 2 = .bool mu:=he 2 _ rfl
 clear he
 have hne:(iso != iso)=false:=by simp
 refine W_sq fun K hK=>(W_text [true] (by kernel_rfl) ?_);simp only [↓zZ1,↓reduceIte,Nat.reduceEqDiff,rg,ow_96]
 apply hK;clear hK K
 refine W_seq ?_
 cases mu with
 | true =>
  refine W_sq fun K hK=>(W_draw (some none) none [(0,0,0),(0,1,0),(0,2,0),(0,3,0),(0,4,0),(0,5,0),(0,6,0),(0,7,0),(0,8,0),(0,9,0),(0,10,0),(0,11,0),(0,12,0),(0,13,0)] mixed (by kernel_rfl) ?_);simp only [↓zZ1,↓reduceIte,Nat.reduceEqDiff,rg,ow_96,e0,e1,e2,ptr_eq,h0,hp,hb,hne]
  apply hK;clear hK K
  refine W_false (by simp only [evt,upd_eq,Nat.reduceEqDiff,↓reduceIte,zZ3]<;>rfl) (W_skip ?_)
  show W _ _ _ _ _ _
  refine W_sq fun K hK=>(W_text [true,true,true,true] (by kernel_rfl) ?_);simp only [↓zZ1,↓reduceIte,Nat.reduceEqDiff,rg,ow_96,e1,hp,ptr_eq]
  apply hK;clear hK K
  exact W_ret (endQ_1 (by simp only [upd_eq,Nat.reduceEqDiff,↓reduceIte]<;>rfl) ⟨rfl,RO.dr _ _⟩)
 | false =>
  refine W_sq fun K hK=>(W_draw (some none) none [(0,0,0),(0,1,0),(0,2,0),(0,3,0),(0,4,0),(0,5,0),(0,6,0),(0,7,0),(0,8,0),(0,9,0),(0,10,0),(0,11,0),(0,12,0),(0,13,0)] mixed (by kernel_rfl) ?_);simp only [↓zZ1,↓reduceIte,Nat.reduceEqDiff,rg,ow_96,e0,e1,e2,ptr_eq,h0,hp,hb,hne]
  apply hK;clear hK K
  refine W_false (by simp only [evt,upd_eq,Nat.reduceEqDiff,↓reduceIte,zZ3]<;>rfl) (W_skip ?_)
  show W _ _ _ _ _ _
  refine W_sq fun K hK=>(W_text [true,true,true,true] (by kernel_rfl) ?_);simp only [↓zZ1,↓reduceIte,Nat.reduceEqDiff,rg,ow_96,e1,hp,ptr_eq]
  apply hK;clear hK K
  exact W_ret (endQ_1 (by simp only [upd_eq,Nat.reduceEqDiff,↓reduceIte]<;>rfl) ⟨rfl,RO.dr _ _⟩)
set_option maxHeartbeats 400000 in
set_option maxRecDepth 8000 in
theorem count_leaf (b n cap:Nat) (a:Addr) (w:World) (h2:rd w b 2=some (.slice (some a) n cap)) (h3:rd w b 3=some (.pointer none)) (wb:wok w b 4) :
  CallK Try.prog 125 #[ptr b] w fun _ w'=>Ext (rng b 1 1) w w'/\rd w' b 1=some (.int .i64 n)/\w'.heap.size=w.heap.size:=by
 refine calls_of_W [] Try.func125 rfl Try.ntmps125 Try.results125 (by simp) fun e he=>?_
 have e0:e 0=ptr b:=he 0 _ rfl
 clear he
 refine W_sq fun K hK=>(W_text [true,true,true,true,true,true,true,true,false] (by kernel_rfl) ?_);simp only [↓zZ1,↓reduceIte,Nat.reduceEqDiff,rg,ow_125,e0,ptr_eq,h2]
 refine do_store (by simp only [evt,upd_eq,Nat.reduceEqDiff,↓reduceIte,zZ3]<;>rfl) (by simp only [evt,upd_eq,Nat.reduceEqDiff,↓reduceIte,zZ3]<;>rfl) sz_3 rfl wb (by decide) (oc_one rfl rfl) fun w1 x1 r1 s1=>⟨trivial,?_⟩
 simp only [↓zZ1,↓reduceIte,Nat.reduceEqDiff,rg,ow_125]
 apply hK;clear hK K
 have d3:=x1.rd h3 (by simp [rng])
 have d1:=(Row.cons.1 r1).1
 refine W_sq fun K hK=>(W_text [true,false,true] (by kernel_rfl) ?_);simp only [↓zZ1,↓reduceIte,Nat.reduceEqDiff,rg,ow_125,e0]
 refine do_call fn_108 rfl (by simpa only [evt,upd_eq,Nat.reduceEqDiff,↓reduceIte,List.map_toArray,List.map_cons,List.map_nil] using leaf_any b none w1 d3) ?_
 rintro v w2 ⟨rfl,rfl⟩
 refine ⟨trivial,?_⟩
 simp only [↓zZ1,↓reduceIte,Nat.reduceEqDiff,rg,ow_125]
 apply hK;clear hK K
 refine W_false (by simp only [evt,upd_eq,Nat.reduceEqDiff,↓reduceIte,zZ3]<;>rfl) (W_skip ?_)
 show endQ _ _ _ _ _ _
 exact endQ_0n ⟨x1,d1,s1⟩
theorem bu_node (iso:Int):buildV Try.prog 165 [(0,.int .u64 iso)]=some (.agg #[.int .u64 iso,.int .i64 0,.slice none 0 0,.pointer none]):=by kernel_rfl
set_option maxHeartbeats 400000 in
set_option maxRecDepth 8000 in
theorem newNode_any (m:Nat) (lf:Bool) (iso:Int) (w:World) (h0:rd w m 0=some (.int .u64 iso)) :
  CallK Try.prog 122 #[ptr m,.bool lf] w fun v w'=>∃ b,v=ptr b/\Ext noF w w'/\NewN w' w.heap.size b iso lf:=by
 refine calls_of_W [.tmp 4] Try.func122 rfl Try.ntmps122 Try.results122 (by simp) fun e he=>?_
 have e0:e 0=ptr m:=he 0 _ rfl
 have e1:e 1 = .bool lf:=he 1 _ rfl
 clear he
 refine W_sq fun K hK=>(W_text [true] (by kernel_rfl) ?_);simp only [↓zZ1,↓reduceIte,Nat.reduceEqDiff,rg,ow_122]
 apply hK;clear hK K
 refine W_sq fun K hK=>(W_text [true,true,true,true,true,false,true] (by kernel_rfl) ?_);simp only [↓zZ1,↓reduceIte,Nat.reduceEqDiff,rg,ow_122,e0,ptr_eq,h0,bu_node]
 refine do_box (by simp only [evt,upd_eq,Nat.reduceEqDiff,↓reduceIte,zZ3]<;>rfl) fun w2 n1=>⟨trivial,?_⟩
 simp only [↓zZ1,↓reduceIte,Nat.reduceEqDiff,rg,ow_122]
 apply hK;clear hK K
 have r1:Row w2 w.heap.size 0 [.int .u64 iso,.int .i64 0,.slice none 0 0,.pointer none]:=n1.row
 simp only [Row.cons] at r1
 obtain ⟨d0,d1,d2,d3,-⟩:=r1
 have hm:=rd_lt h0
 have dw:wok w2 w.heap.size 4:=n1.wok
 have X2:Ext noF w w2:=n1.ext
 refine W_seq ?_
 refine W_sq fun K hK=>(W_text [true,true] (by kernel_rfl) ?_);simp only [↓zZ1,↓reduceIte,Nat.reduceEqDiff,rg,ow_122,e1]
 apply hK;clear hK K
 cases lf with
 | true =>
  refine W_false (by simp only [evt,upd_eq,Nat.reduceEqDiff,↓reduceIte,zZ3]<;>rfl) (W_skip ?_)
  show W _ _ _ _ _ _
  refine W_sq fun K hK=>(W_text [true,true] (by kernel_rfl) ?_);simp only [↓zZ1,↓reduceIte,Nat.reduceEqDiff,rg,ow_122]
  apply hK;clear hK K
  refine W_ret (endQ_1 (by simp only [upd_eq,Nat.reduceEqDiff,↓reduceIte]<;>rfl) ⟨_,rfl,X2,⟨Nat.le_refl _,d0,d1,d2,dw,fun _=>d3,(fun h=>by cases h)⟩⟩)
 | false =>
  refine W_true (by simp only [evt,upd_eq,Nat.reduceEqDiff,↓reduceIte,zZ3]<;>rfl) ?_
  refine W_rg fun K hK=>(W_text [true,false,true,true,false] (by kernel_rfl) ?_);simp only [↓zZ1,↓reduceIte,Nat.reduceEqDiff,rg,ow_122]
  refine do_alloc z_kids fun w3 n3=>⟨trivial,?_⟩
  simp only [↓zZ1,↓reduceIte,Nat.reduceEqDiff,rg,ow_122]
  have hs:w2.heap.size=w.heap.size+1:=n1.size
  refine do_store (by simp only [evt,upd_eq,Nat.reduceEqDiff,↓reduceIte,zZ3]<;>rfl) (by simp only [evt,upd_eq,Nat.reduceEqDiff,↓reduceIte,zZ3]<;>rfl) sz_163 rfl (n3.ext.wok dw) (by decide) (oc_one rfl rfl) fun w4 x4 r4 s4=>⟨trivial,?_⟩
  simp only [↓zZ1,↓reduceIte,Nat.reduceEqDiff,rg,ow_122]
  apply hK;clear hK K
  show W _ _ _ _ _ _
  refine W_sq fun K hK=>(W_text [true,true] (by kernel_rfl) ?_);simp only [↓zZ1,↓reduceIte,Nat.reduceEqDiff,rg,ow_122]
  apply hK;clear hK K
  have X4:Ext noF w w4:=noF_of (X2.tr n3.ext) x4 fun x o hx h=>by simp only [rng] at h;omega
  refine W_ret (endQ_1 (by simp only [upd_eq,Nat.reduceEqDiff,↓reduceIte]<;>rfl) ⟨_,rfl,X4,⟨Nat.le_refl _,x4.rd (n3.ext.rd d0 (fun h=>h)) (by simp [rng]),x4.rd (n3.ext.rd d1 (fun h=>h)) (by simp [rng]),x4.rd (n3.ext.rd d2 (fun h=>h)) (by simp [rng]),
   x4.wok (n3.ext.wok dw),(fun h=>by cases h),fun _=>⟨w2.heap.size,(Row.cons.1 r4).1,by omega,by omega,x4.rd (Row.cons.1 n3.row).1 (by simp [rng]<;>omega),x4.wok n3.wok⟩⟩⟩)
theorem ptr_at {w:World} {b o:Nat} {ps:List Nat} (h:Row w b o (ps.map ptr)) {i p:Nat} (hi:ps[i]? = some p):rd w b (o+i)=some (ptr p):=h i _ (by simp [hi])
def cntP (cn:Nat->Nat) (ps:List Nat):Nat:=(ps.map cn).sum
theorem cntP_take (cn:Nat->Nat) (ps:List Nat) (i p:Nat) (h:ps[i]? = some p):cntP cn (ps.take (i+1))=cntP cn (ps.take i)+cn p:=by
 simp [cntP,List.take_add_one,h]
theorem cntP_le (cn:Nat->Nat) (ps:List Nat) (i:Nat):cntP cn (ps.take i)<=cntP cn ps:=by
 have:cntP cn ps=cntP cn (ps.take i)+cntP cn (ps.drop i):=by
  rw [cntP,cntP,cntP,<-List.sum_append,<-List.map_append,List.take_append_drop]
 omega
set_option maxHeartbeats 400000 in
set_option maxRecDepth 8000 in
theorem count_kids (b n cap bc ba oa capc:Nat) (a:Addr) (ps:List Nat) (cn:Nat->Nat) (w:World) (h2:rd w b 2=some (.slice (some a) n cap)) (h3:rd w b 3=some (ptr bc)) (wb:wok w b 4)
  (hk:Kids w bc ba oa capc ps) (hbc:bc ≠ b) (hba:ba ≠ b) (hps:∀ p ∈ ps,rd w p 1=some (.int .i64 (cn p))/\p ≠ b) (hbig:n+cntP cn ps<4611686018427387904) (hpl:ps.length<4611686018427387904) :
  CallK Try.prog 125 #[ptr b] w fun _ w'=>Ext (rng b 1 1) w w'/\rd w' b 1=some (.int .i64 (n+cntP cn ps:Nat))/\w'.heap.size=w.heap.size:=by
 refine calls_of_W [] Try.func125 rfl Try.ntmps125 Try.results125 (by simp) fun e he=>?_
 have e0:e 0=ptr b:=he 0 _ rfl
 clear he
 refine W_sq fun K hK=>(W_text [true,true,true,true,true,true,true,true,false] (by kernel_rfl) ?_);simp only [↓zZ1,↓reduceIte,Nat.reduceEqDiff,rg,ow_125,e0,ptr_eq,h2]
 refine do_store (by simp only [evt,upd_eq,Nat.reduceEqDiff,↓reduceIte,zZ3]<;>rfl) (by simp only [evt,upd_eq,Nat.reduceEqDiff,↓reduceIte,zZ3]<;>rfl) sz_3 rfl wb (by decide) (oc_one rfl rfl) fun w1 x1 r1 s1=>⟨trivial,?_⟩
 simp only [↓zZ1,↓reduceIte,Nat.reduceEqDiff,rg,ow_125]
 apply hK;clear hK K
 have d3:=x1.rd h3 (by simp [rng])
 have d1:=(Row.cons.1 r1).1
 refine W_sq fun K hK=>(W_text [true,false,true] (by kernel_rfl) ?_);simp only [↓zZ1,↓reduceIte,Nat.reduceEqDiff,rg,ow_125,e0]
 refine do_call fn_108 (by simp only [zZ2,Nat.reduceEqDiff,↓reduceIte,maT,maC,maN]) (leaf_any b (some ⟨bc,0,none⟩) w1 d3) ?_
 rintro v w2 ⟨rfl,rfl⟩
 refine ⟨trivial,?_⟩
 simp only [↓zZ1,↓reduceIte,Nat.reduceEqDiff,rg,ow_125]
 apply hK;clear hK K
 refine W_true (by simp only [evt,upd_eq,Nat.reduceEqDiff,↓reduceIte,zZ3]<;>rfl) ?_
 refine W_sq fun K hK=>(W_text [true] (by kernel_rfl) ?_);simp only [↓zZ1,↓reduceIte,Nat.reduceEqDiff,rg,ow_125]
 apply hK;clear hK K
 refine W_block (W_loop (fun m e w'=>∃ i:Nat,m=ps.length-i/\i<=ps.length/\e 0=ptr b/\e 2 = .int .i64 i/\Ext (rng b 1 1) w w'/\rd w' b 1=some (.int .i64 (n+cntP cn (ps.take i):Nat))/\w'.heap.size=w.heap.size)
  ps.length ⟨0,by simp,by simp,?_,?_,x1,?_,s1⟩ ?_)
 ·simp only [upd_eq,Nat.reduceEqDiff,↓reduceIte];exact e0
 ·simp only [upd_eq,Nat.reduceEqDiff,↓reduceIte];rfl
 ·rw [d1];simp [cntP]
 ·clear d1 r1 d3 x1 s1 e0 e
  rintro m e w' ⟨i,rfl,hi,e0,e2,x,d1,sz⟩
  have g0:=x.rd hk.c0 (by simp only [rng];omega)
  have g3:=x.rd h3 (by simp [rng])
  refine W_seq ?_
  by_cases hlt:i<ps.length
  ·have ht:=lt_tt i ps.length hlt
   refine W_sq fun K hK=>(W_text [true,true,true,true,true,true,true,true,true] (by kernel_rfl) ?_);simp only [↓zZ1,↓reduceIte,Nat.reduceEqDiff,rg,ow_125,e0,e2,ptr_eq,g3,g0,ht]
   apply hK;clear hK K
   refine W_true (by simp only [evt,upd_eq,Nat.reduceEqDiff,↓reduceIte,zZ3]<;>rfl) (W_skip ?_)
   show W _ _ _ _ _ _
   obtain ⟨p,hp⟩:∃ p,ps[i]? = some p:=⟨_,List.getElem?_eq_getElem hlt⟩
   obtain ⟨hp1,hpb⟩:=hps p (List.mem_of_getElem? hp)
   have g1:=x.rd hp1 (by simp only [rng];omega)
   have ga:=x.rd (ptr_at hk.row hp) (by simp only [rng];omega)
   have ea:=wadd (n+cntP cn (ps.take i)) (cn p) (by have:=cntP_take cn ps i p hp;have:=cntP_le cn ps (i+1);omega)
   refine W_seq (W_block ?_)
   refine W_rg fun K hK=>(W_draw (some none) (some 19) [(0,0,0),(0,1,0),(0,2,0),(0,3,0),(0,4,0),(0,5,0),(0,6,0),(0,7,0),(0,8,0),(0,9,0),(0,10,0),(0,11,0),(0,12,0),(0,13,0),(0,14,0),(0,15,0),(0,16,0),(0,17,0),(0,18,0),(1,19,0)] mixed (by kernel_rfl) ?_);simp only [↓zZ1,↓reduceIte,Nat.reduceEqDiff,rg,ow_125,e0,e2,ptr_eq,d1,g3,g0,hlt,ga,g1,ea]
   refine do_store (by simp only [evt,upd_eq,Nat.reduceEqDiff,↓reduceIte,zZ3]<;>rfl) (by simp only [evt,upd_eq,Nat.reduceEqDiff,↓reduceIte,zZ3]<;>rfl) sz_3 rfl (x.wok wb) (by decide) (oc_one rfl rfl) fun w1 x1 r1 s1=>⟨.inl trivial,?_⟩
   simp only [↓zZ1,↓reduceIte,Nat.reduceEqDiff,rg,ow_125]
   apply hK;clear hK K
   show W _ _ _ _ _ _
   have e3:=wadd1 i (by omega)
   refine W_rg fun K hK=>(W_text [true,true,true] (by kernel_rfl) ?_);simp only [↓zZ1,↓reduceIte,Nat.reduceEqDiff,rg,ow_125,e2,e3]
   apply hK;clear hK K
   refine ⟨_,?_,i+1,rfl,hlt,?_,?_,x.tr x1.od,?_,by rw [s1];exact sz⟩
   ·omega
   ·simp only [upd_eq,Nat.reduceEqDiff,↓reduceIte];exact e0
   ·simp only [upd_eq,Nat.reduceEqDiff,↓reduceIte]
   ·rw [cntP_take cn ps i p hp,<-Nat.add_assoc];exact (Row.cons.1 r1).1
  ·obtain rfl:i=ps.length:=by omega
   have ht:=lt_ff ps.length ps.length (by omega)
   refine W_sq fun K hK=>(W_text [true,true,true,true,true,true,true,true,true] (by kernel_rfl) ?_);simp only [↓zZ1,↓reduceIte,Nat.reduceEqDiff,rg,ow_125,e0,e2,ptr_eq,g3,g0,ht]
   apply hK;clear hK K
   refine W_false (by simp only [evt,upd_eq,Nat.reduceEqDiff,↓reduceIte,zZ3]<;>rfl) (W_exit ?_)
   simp only [andThen_exit,inBlk_exit,↓reduceIte]
   exact endQ_0n ⟨x,by rw [d1,List.take_length],sz⟩
theorem slFrom_ne {b o sz l n c:Nat} (h:c ≠ l):slFrom b o sz l n c = .slice (some ⟨b,o+l*sz,none⟩) (n-l) (c-l):=by simp [slFrom,h]
theorem z_it:zK Try.prog 33=some (E.cel zIt):=by kernel_rfl
theorem itV_len (x:It):(itV x).cells.toList.length=2:=rfl
theorem itV_oc (x:It):oc (itV x).cells.toList:=E.one x
set_option maxHeartbeats 400000 in
set_option maxRecDepth 8000 in
theorem split_leaf (m d b bi oi cap:Nat) (iso cnt:Int) (ks:List It) (w:World) (hd:2<=d) (hd':d<=128) (hc:Cfg w m iso d) (ho:Own E w b iso cnt bi oi cap ks (.pointer none)) (hl:ks.length=2*d-1)
  (hm:∀ o,¬ ownF E b bi oi cap m o) :
  CallK Try.prog 124 #[ptr m,ptr b] w fun v w'=>∃ rb x,v = .tuple #[ptr rb,itV x]/\ks[d-1]? = some x/\Ext (ownF E b bi oi cap) w w'/\w.heap.size<=rb ∧
   Own E w' b iso (d-1:Nat) bi oi (d-1) (ks.take (d-1)) (.pointer none)/\Own E w' rb iso (d-1:Nat) bi (oi+d*2) (cap-d) (ks.drop d) (.pointer none):=by
 refine calls_of_W [.tmp 4,.cell 5 33] Try.func124 rfl Try.ntmps124 Try.results124 (by simp) fun e he=>?_
 have e0:e 0=ptr m:=he 0 _ rfl
 have e1:e 1=ptr b:=he 1 _ rfl
 clear he
 obtain ⟨x,hx⟩:∃ x,ks[d-1]? = some x:=⟨_,List.getElem?_eq_getElem (by omega)⟩
 have hcap:=ho.le
 have wi:wok w bi (oi+cap*2):=(by have h:=ho.wi;simp only [E_sz,Nat.mul_one] at h;exact h)
 have hbl:=wok_lt ho.wb
 have hbil:=wok_lt ho.wi
 have hml:=wok_lt hc.wok
 have hmb:m ≠ b:=fun h=>hm 0 (.inl h)
 have q1:IntKind.i64.wrap (((2*d-1:Nat):Int).tdiv 2)=((d-1:Nat):Int):=by rw [wdiv2 _ (by omega)];congr 1;omega
 have q2:IntKind.i64.wrap (((d-1:Nat):Int)+1)=((d:Nat):Int):=by rw [wadd1 _ (by omega)];congr 1;omega
 have i1:d-1<ks.length:=by omega
 have i2:d<=ks.length:=by omega
 have i3:d-1<=cap:=by omega
 refine W_sq fun K hK=>(W_text [true,false] (by kernel_rfl) ?_);simp only [↓zZ1,↓reduceIte,Nat.reduceEqDiff,rg,ow_124]
 refine do_alloc z_it fun w1 n1=>⟨trivial,?_⟩
 simp only [↓zZ1,↓reduceIte,Nat.reduceEqDiff,rg,ow_124]
 apply hK;clear hK K
 have X1:=n1.ext
 have c1:=hc.ext X1 fun _ _ _ h=>h
 refine W_sq fun K hK=>(W_text [true,true,true,true,true,true] (by kernel_rfl) ?_);simp only [↓zZ1,↓reduceIte,Nat.reduceEqDiff,rg,ow_124,e0,ptr_eq,c1.mx,q1]
 apply hK;clear hK K
 have o1:=ho.ext X1 fun _ _ _ h=>h
 have it1:=it_at o1.row hx
 refine W_sq fun K hK=>(W_text [true,true,true,true,true,true,true,false] (by kernel_rfl) ?_);simp only [↓zZ1,↓reduceIte,Nat.reduceEqDiff,rg,ow_124,e1,ptr_eq,o1.h2,i1,it1]
 refine do_store (by simp only [zZ2,Nat.reduceEqDiff,↓reduceIte,zZ3]<;>rfl) (by simp only [zZ2,Nat.reduceEqDiff,↓reduceIte,zZ3]<;>rfl) sz_33 (itV_len x) n1.wok (by decide) (itV_oc x) fun w2 x2 r2 s2=>⟨trivial,?_⟩
 simp only [↓zZ1,↓reduceIte,Nat.reduceEqDiff,rg,ow_124]
 apply hK;clear hK K
 have X2:Ext noF w w2:=noF_of X1 x2 fun x o hx h=>by simp only [rng] at h;omega
 have o2:=ho.ext X2 fun _ _ _ h=>h
 have c2:=hc.ext X2 fun _ _ _ h=>h
 have s2':w2.heap.size=w.heap.size+1:=by rw [s2,n1.size]
 refine W_sq fun K hK=>(W_text [true,true,false,false,true] (by kernel_rfl) ?_);simp only [↓zZ1,↓reduceIte,Nat.reduceEqDiff,rg,ow_124,e0,e1]
 refine do_call fn_108 (by simp only [zZ2,Nat.reduceEqDiff,↓reduceIte,zZ4]<;>rfl) (leaf_any b none w2 o2.h3) ?_
 rintro v w3 ⟨rfl,rfl⟩
 refine ⟨trivial,?_⟩
 simp only [↓zZ1,↓reduceIte,Nat.reduceEqDiff,rg,ow_124]
 refine do_call fn_122 (by simp only [zZ2,Nat.reduceEqDiff,↓reduceIte,zZ4]<;>rfl) (newNode_any m true iso w3 c2.iso) ?_
 rintro v w4 ⟨rb,rfl,x4,nn⟩
 refine ⟨trivial,?_⟩
 simp only [↓zZ1,↓reduceIte,Nat.reduceEqDiff,rg,ow_124]
 apply hK;clear hK K
 have X4:=X2.tr x4
 have o4:=ho.ext X4 fun _ _ _ h=>h
 have c4:=hc.ext X4 fun _ _ _ h=>h
 have s4:=x4.size
 have nrb:=nn.ge
 have hs:slFrom bi oi 2 d ks.length cap = .slice (some ⟨bi,oi+d*2,none⟩) (ks.length-d) (cap-d):=by (rw [slFrom_ne (by omega)];try rw [Nat.mul_one])
 refine W_sq fun K hK=>(W_text [true,true,true,true,true,true,true,true,true,true,false] (by kernel_rfl) ?_);simp only [↓zZ1,↓reduceIte,Nat.reduceEqDiff,rg,ow_124,e1,ptr_eq,o4.h2,q2,i2,hs]
 refine do_store (by simp only [zZ2,Nat.reduceEqDiff,↓reduceIte,zZ3]<;>rfl) (by simp only [zZ2,Nat.reduceEqDiff,↓reduceIte,zZ3]<;>rfl) sz_25 rfl nn.wb (by decide) (oc_one rfl rfl) fun w5 x5 r5 s5=>⟨trivial,?_⟩
 simp only [↓zZ1,↓reduceIte,Nat.reduceEqDiff,rg,ow_124]
 apply hK;clear hK K
 have X5:Ext noF w w5:=noF_of X4 x5 fun x o hx h=>by simp only [rng] at h;omega
 have o5:=ho.ext X5 fun _ _ _ h=>h
 refine W_seq ?_
 refine W_sq fun K hK=>(W_text [true,false,true] (by kernel_rfl) ?_);simp only [↓zZ1,↓reduceIte,Nat.reduceEqDiff,rg,ow_124,e1]
 refine do_call fn_108 (by simp only [zZ2,Nat.reduceEqDiff,↓reduceIte,zZ4]<;>rfl) (leaf_any b none w5 o5.h3) ?_
 rintro v w6 ⟨rfl,rfl⟩
 refine ⟨trivial,?_⟩
 simp only [↓zZ1,↓reduceIte,Nat.reduceEqDiff,rg,ow_124]
 apply hK;clear hK K
 refine W_false (by simp only [zZ2,Nat.reduceEqDiff,↓reduceIte,zZ3]<;>rfl) (W_skip ?_)
 show W _ _ _ _ _ _
 have nl:=x5.rd (nn.leaf rfl) (by simp [rng])
 refine W_sq fun K hK=>(W_text [true,false] (by kernel_rfl) ?_);simp only [↓zZ1,↓reduceIte,Nat.reduceEqDiff,rg,ow_124]
 refine do_call fn_125 (by simp only [zZ2,Nat.reduceEqDiff,↓reduceIte,zZ4]<;>rfl) (count_leaf rb (ks.length-d) (cap-d) _ w6 (Row.cons.1 r5).1 nl (x5.wok nn.wb)) ?_
 rintro v w7 ⟨x7,r7,s7⟩
 refine ⟨trivial,?_⟩
 simp only [↓zZ1,↓reduceIte,Nat.reduceEqDiff,rg,ow_124]
 apply hK;clear hK K
 have X7:Ext noF w w7:=noF_of X5 x7 fun x o hx h=>by simp only [rng] at h;omega
 have o7:=ho.ext X7 fun _ _ _ h=>h
 have c7:=hc.ext X7 fun _ _ _ h=>h
 have z7:=zIt_at c7
 refine W_sq fun K hK=>(W_draw (some none) (some 10) [(0,0,0),(0,1,0),(0,2,0),(0,3,0),(0,4,0),(0,5,0),(0,6,0),(0,7,0),(0,8,0),(0,9,0),(1,10,0)] mixed (by kernel_rfl) ?_);simp only [↓zZ1,↓reduceIte,Nat.reduceEqDiff,rg,ow_124,e0,e1,ptr_eq,o7.h2,i1,z7]
 refine do_store (by simp only [zZ2,Nat.reduceEqDiff,↓reduceIte,zZ3]<;>rfl) (by simp only [zZ2,Nat.reduceEqDiff,↓reduceIte,zZ3]<;>rfl) sz_33 (itV_len zIt) (X7.wok wi) (by omega) (itV_oc zIt) fun w8 x8 r8 s8=>⟨.inl trivial,?_⟩
 simp only [↓zZ1,↓reduceIte,Nat.reduceEqDiff,rg,ow_124]
 apply hK;clear hK K
 have x8:=x8.od
 have b2:=x8.rd o7.h2 (by simp only [rng];have:=ho.ne;omega)
 have b3:=x8.rd o7.h3 (by simp only [rng];have:=ho.ne;omega)
 refine W_sq fun K hK=>(W_text [true,true,true,true,true,true,true,true,true,true,false] (by kernel_rfl) ?_);simp only [↓zZ1,↓reduceIte,Nat.reduceEqDiff,rg,ow_124,e1,ptr_eq,b2,i3]
 refine do_store (by simp only [zZ2,Nat.reduceEqDiff,↓reduceIte,zZ3]<;>rfl) (by simp only [zZ2,Nat.reduceEqDiff,↓reduceIte,zZ3]<;>rfl) sz_25 rfl (x8.wok o7.wb) (by decide) (oc_one rfl rfl) fun w9 x9 r9 s9=>⟨trivial,?_⟩
 simp only [↓zZ1,↓reduceIte,Nat.reduceEqDiff,rg,ow_124]
 apply hK;clear hK K
 have b3:=x9.rd b3 (by simp [rng])
 refine W_seq ?_
 refine W_sq fun K hK=>(W_text [true,false,true] (by kernel_rfl) ?_);simp only [↓zZ1,↓reduceIte,Nat.reduceEqDiff,rg,ow_124,e1]
 refine do_call fn_108 (by simp only [zZ2,Nat.reduceEqDiff,↓reduceIte,zZ4]<;>rfl) (leaf_any b none w9 b3) ?_
 rintro v w10 ⟨rfl,rfl⟩
 refine ⟨trivial,?_⟩
 simp only [↓zZ1,↓reduceIte,Nat.reduceEqDiff,rg,ow_124]
 apply hK;clear hK K
 refine W_false (by simp only [zZ2,Nat.reduceEqDiff,↓reduceIte,zZ3]<;>rfl) (W_skip ?_)
 show W _ _ _ _ _ _
 refine W_sq fun K hK=>(W_text [true,false] (by kernel_rfl) ?_);simp only [↓zZ1,↓reduceIte,Nat.reduceEqDiff,rg,ow_124,e1]
 have b2:=(Row.cons.1 r9).1
 refine do_call fn_125 (by simp only [zZ2,Nat.reduceEqDiff,↓reduceIte,zZ4]<;>rfl) (count_leaf b (d-1) (d-1) _ w10 b2 b3 (x9.wok (x8.wok o7.wb))) ?_
 rintro v w11 ⟨x11,r11,s11⟩
 refine ⟨trivial,?_⟩
 simp only [↓zZ1,↓reduceIte,Nat.reduceEqDiff,rg,ow_124]
 apply hK;clear hK K
 have md:∀ {w':World} {G:Nat->Nat->Prop},Ext G w3 w'->(∀ o,¬ G w.heap.size o)->Row w' w.heap.size 0 (itV x).cells.toList:=fun h hG=>h.row r2 fun i _=>hG _
 have ma:Row w11 w.heap.size 0 (itV x).cells.toList :=
  x11.row (x9.row (x8.row (x7.row (x5.row (x4.row r2 fun i _ h=>h) fun i _ h=>by simp only [rng] at h;omega) fun i _ h=>by simp only [rng] at h;omega) fun i _ h=>by simp only [rng] at h;omega) fun i _ h=>by simp only [rng] at h;omega) fun i _ h=>by simp only [rng] at h;omega
 have mv:rdA w11 w.heap.size 0 2=some (itV x):=ma.rdA 2 (Nat.le_of_eq (itV_len x).symm)
 have mw:wok w11 w.heap.size 2:=x11.wok (x9.wok (x8.wok (x7.wok (x5.wok (x4.wok (x2.wok n1.wok))))))
 refine W_sq fun K hK=>(W_draw (some none) (some 3) [(0,0,0),(0,1,0),(0,2,0),(1,3,0)] mixed (by kernel_rfl) ?_);simp only [↓zZ1,↓reduceIte,Nat.reduceEqDiff,rg,ow_124,e1,mv]
 refine do_store (by simp only [zZ2,Nat.reduceEqDiff,↓reduceIte,zZ3]<;>rfl) (by simp only [zZ2,Nat.reduceEqDiff,↓reduceIte,zZ3]<;>rfl) sz_33 (itV_len x) mw (by decide) (itV_oc x) fun w12 x12 r12 s12=>⟨.inl trivial,?_⟩
 simp only [↓zZ1,↓reduceIte,Nat.reduceEqDiff,rg,ow_124]
 apply hK;clear hK K
 have x12:=x12.od
 have Y:Ext (fun x o=>(x=b/\(o=1\/o=2))\/rng bi (oi+(d-1)*2) 2 x o\/x=w.heap.size) w7 w12 :=
  (((x8.trans x9 (H:=fun x o=>(x=b/\(o=1\/o=2))\/rng bi (oi+(d-1)*2) 2 x o\/x=w.heap.size) (fun _ _ h=>.inr (.inl h)) fun x o _ h=>by simp only [rng] at h;omega).trans x11 (fun _ _ h=>h) fun x o _ h=>by simp only [rng] at h;omega).trans x12 (fun _ _ h=>h) fun x o _ h=>by simp only [rng] at h;omega)
 have hne:=ho.ne
 have hrb7:=wok_lt (x7.wok (x5.wok nn.wb))
 refine W_ret (endQ_tc (by simp only [upd_eq,Nat.reduceEqDiff,↓reduceIte]<;>rfl) (by simp only [upd_eq,Nat.reduceEqDiff,↓reduceIte]<;>rfl) ld_33 (r12.rdA 2 (Nat.le_of_eq (itV_len x).symm)) ⟨rb,x,rfl,hx,?_,by omega,?_,?_⟩)
 ·refine X7.trans Y (fun _ _ h=>h.elim) fun y o hy h=>?_
  rcases h with ⟨rfl,_⟩ | h | rfl
  ·exact .inl rfl
  ·simp only [rng] at h;exact .inr ⟨h.1,by omega,by rw [E_sz];omega⟩
  ·omega
 ·have hrow:Row w12 bi oi (flat E (ks.take (d-1))):=by
   rw [<-flat_take]
   exact Y.row (o7.row.take _) fun i hi=>by rw [List.length_take] at hi;simp only [rng];rw [E_sz] at hi;omega
  have hlen:(ks.take (d-1)).length=d-1:=by rw [List.length_take];omega
  refine ⟨Y.rd o7.h0 (by simp only [rng];omega),x12.rd r11 (by simp only [rng];omega),?_,Y.rd o7.h3 (by simp only [rng];omega),Y.wok o7.wb,hrow,(Y.wok (X7.wok wi)).mono ?_,Nat.le_of_eq hlen,hne⟩
  ·rw [hlen];exact x12.rd (x11.rd b2 (by simp only [rng];omega)) (by simp only [rng];omega)
  ·rw [E_sz];omega
 ·have hrow:Row w12 bi (oi+d*2) (flat E (ks.drop d)):=by
   have hr:=o7.row.drop (d*E.sz)
   rw [flat_drop] at hr;simp only [E_sz,Nat.mul_one] at hr
   exact Y.row hr fun i hi=>by simp only [rng];omega
  have hlen:(ks.drop d).length=ks.length-d:=by rw [List.length_drop]
  have hl2:ks.length-d=d-1:=by omega
  have k0:=x7.rd (x5.rd nn.h0 (by simp only [rng];omega)) (by simp only [rng];omega)
  have k2:=x7.rd (Row.cons.1 r5).1 (by simp only [rng];omega)
  have k3:=x7.rd nl (by simp only [rng];omega)
  refine ⟨Y.rd k0 (by simp only [rng];omega),?_,?_,Y.rd k3 (by simp only [rng];omega),Y.wok (x7.wok (x5.wok nn.wb)),hrow,(Y.wok (X7.wok wi)).mono ?_,?_,by omega⟩
  ·rw [<-hl2];exact Y.rd r7 (by simp only [rng];omega)
  ·rw [hlen];exact Y.rd k2 (by simp only [rng];omega)
  ·rw [E_sz];omega
  ·rw [hlen];omega
theorem cntP_drop (cn:Nat->Nat) (ps:List Nat) (i:Nat):cntP cn (ps.drop i)<=cntP cn ps:=by
 have:cntP cn ps=cntP cn (ps.take i)+cntP cn (ps.drop i):=by
  rw [cntP,cntP,cntP,<-List.sum_append,<-List.map_append,List.take_append_drop]
 omega
set_option maxHeartbeats 400000 in
set_option maxRecDepth 8000 in
theorem split_inner (m d b bi oi cap bc ba oa capc:Nat) (ps:List Nat) (cn:Nat->Nat) (iso cnt:Int) (ks:List It) (w:World) (hd:2<=d) (hd':d<=128) (hc:Cfg w m iso d) (ho:Own E w b iso cnt bi oi cap ks (ptr bc)) (hk:Kids w bc ba oa capc ps) (hpl:ps.length=2*d) (hbc:bc ≠ b) (hba:ba ≠ b) (hic:bi ≠ bc) (hia:bi ≠ ba) (hl:ks.length=2*d-1)
  (hm:∀ o,¬ ownF E b bi oi cap m o) (hm':∀ o,¬ kidF bc ba oa capc m o) (hps:∀ p ∈ ps,rd w p 1=some (.int .i64 (cn p))/\∀ o,¬ ownF E b bi oi cap p o/\¬ kidF bc ba oa capc p o)
  (hbig:cntP cn ps<2305843009213693952) :
  CallK Try.prog 124 #[ptr m,ptr b] w fun v w'=>∃ rb x,v = .tuple #[ptr rb,itV x]/\ks[d-1]? = some x/\Ext (fun x o=>ownF E b bi oi cap x o\/kidF bc ba oa capc x o) w w'/\w.heap.size<=rb/\∃ rbc,w.heap.size<=rbc/\rbc ≠ rb ∧
   Own E w' b iso (d-1+cntP cn (ps.take d):Nat) bi oi (d-1) (ks.take (d-1)) (ptr bc)/\Own E w' rb iso (d-1+cntP cn (ps.drop d):Nat) bi (oi+d*2) (cap-d) (ks.drop d) (ptr rbc) ∧
   Kids w' bc ba oa d (ps.take d)/\Kids w' rbc ba (oa+d) (capc-d) (ps.drop d):=by
 refine calls_of_W [.tmp 4,.cell 5 33] Try.func124 rfl Try.ntmps124 Try.results124 (by simp) fun e he=>?_
 have e0:e 0=ptr m:=he 0 _ rfl
 have e1:e 1=ptr b:=he 1 _ rfl
 clear he
 obtain ⟨x,hx⟩:∃ x,ks[d-1]? = some x:=⟨_,List.getElem?_eq_getElem (by omega)⟩
 have hcap:=ho.le
 have wi:wok w bi (oi+cap*2):=(by have h:=ho.wi;simp only [E_sz,Nat.mul_one] at h;exact h)
 have hbl:=wok_lt ho.wb
 have hbil:=wok_lt ho.wi
 have hml:=wok_lt hc.wok
 have hmb:m ≠ b:=fun h=>hm 0 (.inl h)
 have q1:IntKind.i64.wrap (((2*d-1:Nat):Int).tdiv 2)=((d-1:Nat):Int):=by rw [wdiv2 _ (by omega)];congr 1;omega
 have q2:IntKind.i64.wrap (((d-1:Nat):Int)+1)=((d:Nat):Int):=by rw [wadd1 _ (by omega)];congr 1;omega
 have i1:d-1<ks.length:=by omega
 have i2:d<=ks.length:=by omega
 have i3:d-1<=cap:=by omega
 refine W_sq fun K hK=>(W_text [true,false] (by kernel_rfl) ?_);simp only [↓zZ1,↓reduceIte,Nat.reduceEqDiff,rg,ow_124]
 refine do_alloc z_it fun w1 n1=>⟨trivial,?_⟩
 simp only [↓zZ1,↓reduceIte,Nat.reduceEqDiff,rg,ow_124]
 apply hK;clear hK K
 have X1:=n1.ext
 have c1:=hc.ext X1 fun _ _ _ h=>h
 refine W_sq fun K hK=>(W_text [true,true,true,true,true,true] (by kernel_rfl) ?_);simp only [↓zZ1,↓reduceIte,Nat.reduceEqDiff,rg,ow_124,e0,ptr_eq,c1.mx,q1]
 apply hK;clear hK K
 have o1:=ho.ext X1 fun _ _ _ h=>h
 have it1:=it_at o1.row hx
 refine W_sq fun K hK=>(W_text [true,true,true,true,true,true,true,false] (by kernel_rfl) ?_);simp only [↓zZ1,↓reduceIte,Nat.reduceEqDiff,rg,ow_124,e1,ptr_eq,o1.h2,i1,it1]
 refine do_store (by simp only [zZ2,Nat.reduceEqDiff,↓reduceIte,zZ3]<;>rfl) (by simp only [zZ2,Nat.reduceEqDiff,↓reduceIte,zZ3]<;>rfl) sz_33 (itV_len x) n1.wok (by decide) (itV_oc x) fun w2 x2 r2 s2=>⟨trivial,?_⟩
 simp only [↓zZ1,↓reduceIte,Nat.reduceEqDiff,rg,ow_124]
 apply hK;clear hK K
 have X2:Ext noF w w2:=noF_of X1 x2 fun x o hx h=>by simp only [rng] at h;omega
 have o2:=ho.ext X2 fun _ _ _ h=>h
 have c2:=hc.ext X2 fun _ _ _ h=>h
 have s2':w2.heap.size=w.heap.size+1:=by rw [s2,n1.size]
 refine W_sq fun K hK=>(W_text [true,true,false,false,true] (by kernel_rfl) ?_);simp only [↓zZ1,↓reduceIte,Nat.reduceEqDiff,rg,ow_124,e0,e1]
 refine do_call fn_108 (by simp only [zZ2,Nat.reduceEqDiff,↓reduceIte,zZ4]<;>rfl) (leaf_any b (some ⟨bc,0,none⟩) w2 o2.h3) ?_
 rintro v w3 ⟨rfl,rfl⟩
 refine ⟨trivial,?_⟩
 simp only [↓zZ1,↓reduceIte,Nat.reduceEqDiff,rg,ow_124]
 refine do_call fn_122 (by simp only [zZ2,Nat.reduceEqDiff,↓reduceIte,zZ4]<;>rfl) (newNode_any m false iso w3 c2.iso) ?_
 rintro v w4 ⟨rb,rfl,x4,nn⟩
 refine ⟨trivial,?_⟩
 simp only [↓zZ1,↓reduceIte,Nat.reduceEqDiff,rg,ow_124]
 apply hK;clear hK K
 have X4:=X2.tr x4
 have o4:=ho.ext X4 fun _ _ _ h=>h
 have c4:=hc.ext X4 fun _ _ _ h=>h
 have s4:=x4.size
 have nrb:=nn.ge
 have hs:slFrom bi oi 2 d ks.length cap = .slice (some ⟨bi,oi+d*2,none⟩) (ks.length-d) (cap-d):=by (rw [slFrom_ne (by omega)];try rw [Nat.mul_one])
 refine W_sq fun K hK=>(W_text [true,true,true,true,true,true,true,true,true,true,false] (by kernel_rfl) ?_);simp only [↓zZ1,↓reduceIte,Nat.reduceEqDiff,rg,ow_124,e1,ptr_eq,o4.h2,q2,i2,hs]
 refine do_store (by simp only [zZ2,Nat.reduceEqDiff,↓reduceIte,zZ3]<;>rfl) (by simp only [zZ2,Nat.reduceEqDiff,↓reduceIte,zZ3]<;>rfl) sz_25 rfl nn.wb (by decide) (oc_one rfl rfl) fun w5 x5 r5 s5=>⟨trivial,?_⟩
 simp only [↓zZ1,↓reduceIte,Nat.reduceEqDiff,rg,ow_124]
 apply hK;clear hK K
 have X5:Ext noF w w5:=noF_of X4 x5 fun x o hx h=>by simp only [rng] at h;omega
 have o5:=ho.ext X5 fun _ _ _ h=>h
 refine W_seq ?_
 refine W_sq fun K hK=>(W_text [true,false,true] (by kernel_rfl) ?_);simp only [↓zZ1,↓reduceIte,Nat.reduceEqDiff,rg,ow_124,e1]
 refine do_call fn_108 (by simp only [zZ2,Nat.reduceEqDiff,↓reduceIte,zZ4]<;>rfl) (leaf_any b (some ⟨bc,0,none⟩) w5 o5.h3) ?_
 rintro v w6 ⟨rfl,rfl⟩
 refine ⟨trivial,?_⟩
 simp only [↓zZ1,↓reduceIte,Nat.reduceEqDiff,rg,ow_124]
 apply hK;clear hK K
 obtain ⟨rbc,nk,nk1,nk2,nk3,nk4⟩:=nn.kids rfl
 refine W_true (by simp only [zZ2,Nat.reduceEqDiff,↓reduceIte,zZ3]<;>rfl) ?_
 have nl:=x5.rd nk (by simp [rng])
 have g0:=X5.rd hk.c0 (fun h=>h)
 have hs':slFrom ba oa 1 d ps.length capc = .slice (some ⟨ba,oa+d*1,none⟩) (ps.length-d) (capc-d):=slFrom_ne (by have:=hk.le;omega)
 have i4:d<=ps.length:=by omega
 refine W_rg fun K hK=>(W_draw (some none) (some 14) [(0,0,0),(0,1,0),(0,2,0),(0,3,0),(0,4,0),(0,5,0),(0,6,0),(0,7,0),(0,8,0),(0,9,0),(0,10,0),(0,11,0),(0,12,0),(0,13,0),(1,14,0)] mixed (by kernel_rfl) ?_);simp only [↓zZ1,↓reduceIte,Nat.reduceEqDiff,rg,ow_124,e1,ptr_eq,o5.h3,g0,nl,q2,i4,hs']
 refine do_store (by simp only [zZ2,Nat.reduceEqDiff,↓reduceIte,zZ3]<;>rfl) (by simp only [zZ2,Nat.reduceEqDiff,↓reduceIte,zZ3]<;>rfl) sz_166 rfl (x5.wok nk4) (by decide) (oc_one rfl rfl) fun wk xk rk sk=>⟨.inl trivial,?_⟩
 simp only [↓zZ1,↓reduceIte,Nat.reduceEqDiff,rg,ow_124]
 apply hK;clear hK K
 show W _ _ _ _ _ _
 have xk:=xk.od
 have nl:=xk.rd nl (by simp only [rng];omega)
 have Xk:Ext noF w wk:=noF_of X5 xk fun x o hx h=>by simp only [rng] at h;omega
 have ok:=ho.ext Xk fun _ _ _ h=>h
 have kk:=hk.ext Xk fun _ _ _ h=>h
 have nK:Kids wk rbc ba (oa+d) (capc-d) (ps.drop d):=by
  have hd2:(ps.drop d).length=ps.length-d:=List.length_drop
  refine ⟨?_,xk.wok (x5.wok nk4),?_,(Xk.wok hk.wa).mono (by have:=hk.le;omega),by rw [hd2];have:=hk.le;omega,by have:=wok_lt hk.wa;omega⟩
  ·rw [hd2];exact (Row.cons.1 rk).1
  ·rw [List.map_drop];exact kk.row.drop d
 refine W_sq fun K hK=>(W_text [true,false] (by kernel_rfl) ?_);simp only [↓zZ1,↓reduceIte,Nat.reduceEqDiff,rg,ow_124]
 have hpd:∀ p ∈ ps.drop d,rd wk p 1=some (.int .i64 (cn p))/\p ≠ rb:=fun p hp=>by
  have h1:=hps p (List.mem_of_mem_drop hp)
  exact ⟨Xk.rd h1.1 fun h=>h,by have:=rd_lt h1.1;omega⟩
 have hcd:=cntP_drop cn ps d
 refine do_call fn_125 (by simp only [zZ2,Nat.reduceEqDiff,↓reduceIte,zZ4]<;>rfl) (count_kids rb (ks.length-d) (cap-d) rbc ba (oa+d) (capc-d) _ (ps.drop d) cn wk (xk.rd (Row.cons.1 r5).1 (by simp only [rng];omega)) nl (xk.wok (x5.wok nn.wb)) nK (by omega) (by have:=wok_lt hk.wa;omega) hpd (by omega) (by rw [List.length_drop];omega)) ?_
 rintro v w7 ⟨x7,r7,s7⟩
 refine ⟨trivial,?_⟩
 simp only [↓zZ1,↓reduceIte,Nat.reduceEqDiff,rg,ow_124]
 apply hK;clear hK K
 have X7:Ext noF w w7:=noF_of Xk x7 fun x o hx h=>by simp only [rng] at h;omega
 have k7:=hk.ext X7 fun _ _ _ h=>h
 have o7:=ho.ext X7 fun _ _ _ h=>h
 have c7:=hc.ext X7 fun _ _ _ h=>h
 have z7:=zIt_at c7
 refine W_sq fun K hK=>(W_draw (some none) (some 10) [(0,0,0),(0,1,0),(0,2,0),(0,3,0),(0,4,0),(0,5,0),(0,6,0),(0,7,0),(0,8,0),(0,9,0),(1,10,0)] mixed (by kernel_rfl) ?_);simp only [↓zZ1,↓reduceIte,Nat.reduceEqDiff,rg,ow_124,e0,e1,ptr_eq,o7.h2,i1,z7]
 refine do_store (by simp only [zZ2,Nat.reduceEqDiff,↓reduceIte,zZ3]<;>rfl) (by simp only [zZ2,Nat.reduceEqDiff,↓reduceIte,zZ3]<;>rfl) sz_33 (itV_len zIt) (X7.wok wi) (by omega) (itV_oc zIt) fun w8 x8 r8 s8=>⟨.inl trivial,?_⟩
 simp only [↓zZ1,↓reduceIte,Nat.reduceEqDiff,rg,ow_124]
 apply hK;clear hK K
 have x8:=x8.od
 have b2:=x8.rd o7.h2 (by simp only [rng];have:=ho.ne;omega)
 have b3:=x8.rd o7.h3 (by simp only [rng];have:=ho.ne;omega)
 refine W_sq fun K hK=>(W_text [true,true,true,true,true,true,true,true,true,true,false] (by kernel_rfl) ?_);simp only [↓zZ1,↓reduceIte,Nat.reduceEqDiff,rg,ow_124,e1,ptr_eq,b2,i3]
 refine do_store (by simp only [zZ2,Nat.reduceEqDiff,↓reduceIte,zZ3]<;>rfl) (by simp only [zZ2,Nat.reduceEqDiff,↓reduceIte,zZ3]<;>rfl) sz_25 rfl (x8.wok o7.wb) (by decide) (oc_one rfl rfl) fun w9 x9 r9 s9=>⟨trivial,?_⟩
 simp only [↓zZ1,↓reduceIte,Nat.reduceEqDiff,rg,ow_124]
 apply hK;clear hK K
 have b3:=x9.rd b3 (by simp [rng])
 refine W_seq ?_
 refine W_sq fun K hK=>(W_text [true,false,true] (by kernel_rfl) ?_);simp only [↓zZ1,↓reduceIte,Nat.reduceEqDiff,rg,ow_124,e1]
 refine do_call fn_108 (by simp only [zZ2,Nat.reduceEqDiff,↓reduceIte,zZ4]<;>rfl) (leaf_any b (some ⟨bc,0,none⟩) w9 b3) ?_
 rintro v w10 ⟨rfl,rfl⟩
 refine ⟨trivial,?_⟩
 simp only [↓zZ1,↓reduceIte,Nat.reduceEqDiff,rg,ow_124]
 apply hK;clear hK K
 refine W_true (by simp only [zZ2,Nat.reduceEqDiff,↓reduceIte,zZ3]<;>rfl) ?_
 have k10:=(k7.ext x8 fun x o h g=>by simp only [rng,kidF] at h g;omega).ext x9 fun x o h g=>by simp only [rng,kidF] at h g;omega
 have i5:d<=capc:=by have:=hk.le;omega
 refine W_rg fun K hK=>(W_draw (some none) (some 16) [(0,0,0),(0,1,0),(0,2,0),(0,3,0),(0,4,0),(0,5,0),(0,6,0),(0,7,0),(0,8,0),(0,9,0),(0,10,0),(0,11,0),(0,12,0),(0,13,0),(0,14,0),(0,15,0),(1,16,0)] mixed (by kernel_rfl) ?_);simp only [↓zZ1,↓reduceIte,Nat.reduceEqDiff,rg,ow_124,e1,ptr_eq,b3,k10.c0,q2,i5]
 refine do_store (by simp only [zZ2,Nat.reduceEqDiff,↓reduceIte,zZ3]<;>rfl) (by simp only [zZ2,Nat.reduceEqDiff,↓reduceIte,zZ3]<;>rfl) sz_166 rfl k10.wc (by decide) (oc_one rfl rfl) fun wl xl rl sl=>⟨.inl trivial,?_⟩
 simp only [↓zZ1,↓reduceIte,Nat.reduceEqDiff,rg,ow_124]
 apply hK;clear hK K
 show W _ _ _ _ _ _
 have xl:=xl.od
 have b3:=xl.rd b3 (by simp only [rng];omega)
 have b2:=xl.rd (Row.cons.1 r9).1 (by simp only [rng];omega)
 have lK:Kids wl bc ba oa d (ps.take d):=by
  have hd2:(ps.take d).length=d:=by rw [List.length_take];omega
  refine ⟨?_,xl.wok k10.wc,?_,(xl.wok k10.wa).mono (by omega),Nat.le_of_eq hd2,hk.ne⟩
  ·rw [hd2];exact (Row.cons.1 rl).1
  ·rw [List.map_take];exact xl.row (k10.row.take d) fun i _=>by simp only [rng];have:=hk.ne;omega
 refine W_sq fun K hK=>(W_text [true,false] (by kernel_rfl) ?_);simp only [↓zZ1,↓reduceIte,Nat.reduceEqDiff,rg,ow_124,e1]
 have hpt:∀ p ∈ ps.take d,rd wl p 1=some (.int .i64 (cn p))/\p ≠ b:=fun p hp=>by
  have h1:=hps p (List.mem_of_mem_take hp)
  have h2:=(h1.2 1).1
  have h3:=(h1.2 1).2
  have h0:=rd_lt h1.1
  simp only [ownF,kidF,rng,E_sz] at h2 h3
  refine ⟨xl.rd (x9.rd (x8.rd (X7.rd h1.1 fun h=>h) (by simp only [rng];omega)) (by simp only [rng];omega)) (by simp only [rng];omega),by omega⟩
 have hcl:=cntP_le cn ps d
 refine do_call fn_125 (by simp only [zZ2,Nat.reduceEqDiff,↓reduceIte,zZ4]<;>rfl) (count_kids b (d-1) (d-1) bc ba oa d _ (ps.take d) cn wl b2 b3 (xl.wok (x9.wok (x8.wok o7.wb))) lK hbc hba hpt (by omega) (by rw [List.length_take];omega)) ?_
 rintro v w11 ⟨x11,r11,s11⟩
 refine ⟨trivial,?_⟩
 simp only [↓zZ1,↓reduceIte,Nat.reduceEqDiff,rg,ow_124]
 apply hK;clear hK K
 have md:∀ {w':World} {G:Nat->Nat->Prop},Ext G w3 w'->(∀ o,¬ G w.heap.size o)->Row w' w.heap.size 0 (itV x).cells.toList:=fun h hG=>h.row r2 fun i _=>hG _
 have hbcl':=wok_lt hk.wc
 have ma:Row w11 w.heap.size 0 (itV x).cells.toList :=
  x11.row (xl.row (x9.row (x8.row (x7.row (xk.row (x5.row (x4.row r2 fun i _ h=>h) fun i _ h=>by simp only [rng] at h;omega) fun i _ h=>by simp only [rng] at h;omega) fun i _ h=>by simp only [rng] at h;omega) fun i _ h=>by simp only [rng] at h;omega) fun i _ h=>by simp only [rng] at h;omega) fun i _ h=>by simp only [rng] at h;omega) fun i _ h=>by simp only [rng] at h;omega
 have mv:rdA w11 w.heap.size 0 2=some (itV x):=ma.rdA 2 (Nat.le_of_eq (itV_len x).symm)
 have mw:wok w11 w.heap.size 2:=x11.wok (xl.wok (x9.wok (x8.wok (x7.wok (xk.wok (x5.wok (x4.wok (x2.wok n1.wok))))))))
 refine W_sq fun K hK=>(W_draw (some none) (some 3) [(0,0,0),(0,1,0),(0,2,0),(1,3,0)] mixed (by kernel_rfl) ?_);simp only [↓zZ1,↓reduceIte,Nat.reduceEqDiff,rg,ow_124,e1,mv]
 refine do_store (by simp only [zZ2,Nat.reduceEqDiff,↓reduceIte,zZ3]<;>rfl) (by simp only [zZ2,Nat.reduceEqDiff,↓reduceIte,zZ3]<;>rfl) sz_33 (itV_len x) mw (by decide) (itV_oc x) fun w12 x12 r12 s12=>⟨.inl trivial,?_⟩
 simp only [↓zZ1,↓reduceIte,Nat.reduceEqDiff,rg,ow_124]
 apply hK;clear hK K
 have x12:=x12.od
 have Y:Ext (fun x o=>(x=b/\(o=1\/o=2))\/rng bi (oi+(d-1)*2) 2 x o\/x=w.heap.size\/rng bc 0 1 x o) w7 w12 :=
  ((((x8.trans x9 (H:=fun x o=>(x=b/\(o=1\/o=2))\/rng bi (oi+(d-1)*2) 2 x o\/x=w.heap.size\/rng bc 0 1 x o) (fun _ _ h=>.inr (.inl h)) fun x o _ h=>by simp only [rng] at h;omega).trans xl (fun _ _ h=>h) fun x o _ h=>.inr (.inr (.inr h))).trans x11 (fun _ _ h=>h) fun x o _ h=>by simp only [rng] at h;omega).trans x12 (fun _ _ h=>h) fun x o _ h=>by simp only [rng] at h;omega)
 have hne:=ho.ne
 have hrb7:=wok_lt (x7.wok (xk.wok (x5.wok nn.wb)))
 have hbcl:=wok_lt hk.wc
 have hbal:=wok_lt hk.wa
 have hkne:=hk.ne
 refine W_ret (endQ_tc (by simp only [upd_eq,Nat.reduceEqDiff,↓reduceIte]<;>rfl) (by simp only [upd_eq,Nat.reduceEqDiff,↓reduceIte]<;>rfl) ld_33 (r12.rdA 2 (Nat.le_of_eq (itV_len x).symm)) ⟨rb,x,rfl,hx,?_,by omega,rbc,by omega,nk2,?_,?_,?_,?_⟩)
 ·refine X7.trans Y (fun _ _ h=>h.elim) fun y o hy h=>?_
  rcases h with ⟨rfl,_⟩ | h | rfl | h
  ·exact .inl (.inl rfl)
  ·simp only [rng] at h;exact .inl (.inr ⟨h.1,by omega,by rw [E_sz];omega⟩)
  ·omega
  ·exact .inr (.inl h.1)
 ·have hrow:Row w12 bi oi (flat E (ks.take (d-1))):=by
   rw [<-flat_take]
   exact Y.row (o7.row.take _) fun i hi=>by rw [List.length_take] at hi;simp only [rng];rw [E_sz] at hi;omega
  have hlen:(ks.take (d-1)).length=d-1:=by rw [List.length_take];omega
  refine ⟨Y.rd o7.h0 (by simp only [rng];omega),x12.rd r11 (by simp only [rng];omega),?_,Y.rd o7.h3 (by simp only [rng];omega),Y.wok o7.wb,hrow,(Y.wok (X7.wok wi)).mono ?_,Nat.le_of_eq hlen,hne⟩
  ·rw [hlen];exact x12.rd (x11.rd b2 (by simp only [rng];omega)) (by simp only [rng];omega)
  ·rw [E_sz];omega
 ·have hrow:Row w12 bi (oi+d*2) (flat E (ks.drop d)):=by
   have hr:=o7.row.drop (d*E.sz)
   rw [flat_drop] at hr;simp only [E_sz,Nat.mul_one] at hr
   exact Y.row hr fun i hi=>by simp only [rng];omega
  have hlen:(ks.drop d).length=ks.length-d:=by rw [List.length_drop]
  have hl2:ks.length-d=d-1:=by omega
  have k0:=x7.rd (xk.rd (x5.rd nn.h0 (by simp only [rng];omega)) (by simp only [rng];omega)) (by simp only [rng];omega)
  have k2:=x7.rd (xk.rd (Row.cons.1 r5).1 (by simp only [rng];omega)) (by simp only [rng];omega)
  have k3:=x7.rd nl (by simp only [rng];omega)
  refine ⟨Y.rd k0 (by simp only [rng];omega),?_,?_,Y.rd k3 (by simp only [rng];omega),Y.wok (x7.wok (xk.wok (x5.wok nn.wb))),hrow,(Y.wok (X7.wok wi)).mono ?_,?_,by omega⟩
  ·rw [<-hl2];exact Y.rd r7 (by simp only [rng];omega)
  ·rw [hlen];exact Y.rd k2 (by simp only [rng];omega)
  ·rw [E_sz];omega
  ·rw [hlen];omega
 ·exact (lK.ext x11 fun x o h g=>by simp only [rng,kidF] at h g;omega).ext x12 fun x o h g=>by simp only [rng,kidF] at h g;omega
 ·exact (nK.ext x7 fun x o h g=>by simp only [rng,kidF] at h g;omega).ext Y fun x o h g=>by simp only [rng,kidF] at h g;omega
theorem weave_split {α:Type}:∀ (i:Nat) (cs:List (List α)) (ks:List α) (k:α),cs.length=ks.length+1->ks[i]? = some k →
  weave cs ks=weave (cs.take (i+1)) (ks.take i)++k::weave (cs.drop (i+1)) (ks.drop (i+1))
 | _,cs,[],k,_,hk=>by simp at hk
 | _,[],_::_,k,h,_=>by simp at h
 | 0,c::cs,k0::ks,k,h,hk=>by simp at hk;subst hk;simp [weave]
 | i+1,c::cs,k0::ks,k,h,hk=>by
  rw [weave_cons,weave_split i cs ks k (by simpa using h) (by simpa using hk)]
  simp [weave]
theorem Tr.cnt {α:Type} {E:Enc α} {iso:Int} {mn mx:Nat} {w:World}:∀ {h lo b:Nat} {xs:List α} {F:FS α},Tr E iso mn mx h w lo b xs F->rd w b 1=some (.int .i64 xs.length)
 | 0,_,_,_,_,⟨_,_,_,hO,_⟩=>hO.h1
 | _+1,_,_,_,_,⟨_,_,_,_,_,_,_,_,_,hO,_⟩=>hO.h1
def cnW (w:World) (p:Nat):Nat:=match rd w p 1 with
 | some (.int _ k)=>k.toNat
 | _=>0
theorem cnW_eq {w:World} {p n:Nat} (h:rd w p 1=some (.int .i64 (n:Int))):cnW w p=n:=by simp [cnW,h]
theorem cntP_kids {α:Type} {E:Enc α} {iso:Int} {mn mx h:Nat} {w:World}:∀ {cs:List (Kid α)},(∀ c ∈ cs,Tr E iso mn mx h w mn c.b c.xs c.F)->cntP (cnW w) (cs.map Kid.b)=((cs.map Kid.xs).map List.length).sum
 | [],_=>rfl
 | c::cs,hc=>by
  have ih:=cntP_kids (cs:=cs) fun c h=>hc c (by simp [h])
  simp only [cntP,List.map_cons,List.sum_cons] at ih ⊢
  rw [ih,cnW_eq (hc c (by simp)).cnt]
theorem ownF_sub {α:Type} {E:Enc α} {b bi oi oi' cap cap' x o:Nat} (h:ownF E b bi oi' cap' x o) (h1:oi<=oi') (h2:oi'+cap'*E.sz<=oi+cap*E.sz):ownF E b bi oi cap x o:=by
 rcases h with h | ⟨h,h3,h4⟩
 ·exact .inl h
 ·exact .inr ⟨h,by omega,by omega⟩
set_option maxHeartbeats 1000000 in
theorem split_tr (m d b h:Nat) (iso:Int) (xs:List It) (F:FS It) (w:World) (hd:2<=d) (hd':d<=128) (hc:Cfg w m iso d) (ht:Tr E iso (d-1) (2*d-1) h w (2*d-1) b xs F)
  (hm:∀ o,¬ F m o) (hbig:xs.length<2305843009213693952) :
  CallK Try.prog 124 #[ptr m,ptr b] w fun v w'=>∃ rb md xl xr,∃ Fl Fr:FS It,(∃ k g,F.s = .nd k g/\k[d-1]? = some md/\Fl.s = .nd (k.take (d-1)) (g.take d)/\Fr.s = .nd (k.drop d) (g.drop d))/\v = .tuple #[ptr rb,itV md]/\xs=xl++md::xr/\Ext F w w'/\(∀ y o,Fl y o->F y o) ∧
   (∀ y o,Fr y o->F y o\/w.heap.size<=y)/\(∀ y o,Fl y o->¬ Fr y o)/\Tr E iso (d-1) (2*d-1) h w' (d-1) b xl Fl/\Tr E iso (d-1) (2*d-1) h w' (d-1) rb xr Fr:=by
 cases h with
 | zero =>
  obtain ⟨bi,oi,cap,ho,h1,h2,hF⟩:=ht
  have hbl:=wok_lt ho.wb
  have hbil:=wok_lt ho.wi
  have hle:=ho.le
  have hne:=ho.ne
  refine CallK_mono (split_leaf m d b bi oi cap iso _ xs w hd hd' hc ho (by omega) fun o h=>hm o ((hF _ _).2 h)) ?_
  rintro v w' ⟨rb,x,rfl,hx,X,hrb,oL,oR⟩
  have hxs:xs=xs.take (d-1)++x::xs.drop d:=by
   have h3:=(List.getElem?_eq_some_iff.1 hx)
   have:=List.take_append_drop (d-1) xs
   rw [List.drop_eq_getElem_cons h3.1,h3.2,show d-1+1=d by omega] at this
   exact this.symm
  have l1:(xs.take (d-1)).length=d-1:=by rw [List.length_take];omega
  have l2:(xs.drop d).length=d-1:=by rw [List.length_drop];omega
  refine ⟨rb,x,xs.take (d-1),xs.drop d,⟨ownF E b bi oi (d-1),.nd (xs.take (d-1)) []⟩,⟨ownF E rb bi (oi+d*2) (cap-d),.nd (xs.drop d) []⟩,⟨xs,[],hF.e,hx,by simp,by simp⟩,rfl,hxs,X.mono fun y o _ h=>(hF y o).2 h,fun y o h=>(hF y o).2 (ownF_sub h (Nat.le_refl _) (by rw [E_sz];omega)),?_,?_,?_,?_⟩
  ·rintro y o (rfl | ⟨rfl,h3,h4⟩)
   ·exact .inr hrb
   ·rw [E_sz] at h4;exact .inl ((hF _ _).2 (.inr ⟨rfl,by omega,by rw [E_sz];omega⟩))
  ·rintro y o (rfl | ⟨rfl,h3,h4⟩) (h5 | ⟨h5,h6,h7⟩)
   ·omega
   ·omega
   ·omega
   ·rw [E_sz] at h4 h7;omega
  ·exact ⟨bi,oi,d-1,by rw [l1];exact oL,by omega,by omega,⟨fun _ _=>Iff.rfl,rfl⟩⟩
  ·exact ⟨bi,oi+d*2,cap-d,by rw [l2];exact oR,by omega,by omega,⟨fun _ _=>Iff.rfl,rfl⟩⟩
 | succ h =>
  obtain ⟨bi,oi,cap,bc,ba,oa,capc,ks,cs,ho,hk,h1,h2,hcs,hxs,hT,hA,hF⟩:=ht
  have hbl:=wok_lt ho.wb
  have hbil:=wok_lt ho.wi
  have hbcl:=wok_lt hk.wc
  have hbal:=wok_lt hk.wa
  have hle:=ho.le
  have hne:=ho.ne
  have hkne:=hk.ne
  have hkle:=hk.le
  rw [List.length_map] at hkle
  have hkl:ks.length=2*d-1:=by omega
  have hsum:=cntP_kids hT
  have hlen:=weave_length (cs.map Kid.xs) ks (by simpa using hcs)
  rw [<-hxs] at hlen
  refine CallK_mono (split_inner m d b bi oi cap bc ba oa capc (cs.map Kid.b) (cnW w) iso _ ks w hd hd' hc ho hk (by rw [List.length_map];omega) hA.cb hA.ab hA.ic hA.ia hkl (fun o h=>hm o ((hF _ _).2 (.inl h)))
   (fun o h=>hm o ((hF _ _).2 (.inr (.inl h)))) ?_ (by omega)) ?_
  ·intro p hp
   obtain ⟨c,hcm,rfl⟩:=List.mem_map.1 hp
   have hTc:=hT c hcm
   refine ⟨by rw [cnW_eq hTc.cnt];exact hTc.cnt,fun o=>⟨hA.own c hcm _ _ (hTc.self o),hA.kid c hcm _ _ (hTc.self o)⟩⟩
  rintro v w' ⟨rb,x,rfl,hx,X,hrb,rbc,hrbc,hrr,oL,oR,kL,kR⟩
  have hsp:=weave_split (d-1) (cs.map Kid.xs) ks x (by simpa using hcs) hx
  rw [show d-1+1=d by omega,<-List.map_take,<-List.map_drop] at hsp
  have l1:(ks.take (d-1)).length=d-1:=by rw [List.length_take];omega
  have l2:(ks.drop d).length=d-1:=by rw [List.length_drop];omega
  have c1:(cs.take d).length=d:=by rw [List.length_take];omega
  have c2:(cs.drop d).length=d:=by rw [List.length_drop];omega
  have n1:=weave_length ((cs.take d).map Kid.xs) (ks.take (d-1)) (by rw [List.length_map];omega)
  have n2:=weave_length ((cs.drop d).map Kid.xs) (ks.drop d) (by rw [List.length_map];omega)
  have s1:=cntP_kids (cs:=cs.take d) fun c h=>hT c (List.mem_of_mem_take h)
  have s2:=cntP_kids (cs:=cs.drop d) fun c h=>hT c (List.mem_of_mem_drop h)
  rw [List.map_take] at s1
  rw [List.map_drop] at s2
  have hT':∀ c ∈ cs,Tr E iso (d-1) (2*d-1) h w' (d-1) c.b c.xs c.F:=fun c hc=>(hT c hc).ext X fun y o hy g=>by
   rcases g with g | g
   ·exact hA.own c hc y o hy g
   ·exact hA.kid c hc y o hy g
  have hlt:∀ c ∈ cs,∀ y o,c.F y o->y<w.heap.size:=fun c hc y o hy=>(hT c hc).lt y o hy
  have oLs:∀ y o,ownF E b bi oi (d-1) y o->ownF E b bi oi cap y o:=fun y o g=>ownF_sub g (Nat.le_refl _) (by rw [E_sz];omega)
  have oRs:∀ y o,ownF E rb bi (oi+d*2) (cap-d) y o->y=rb\/ownF E b bi oi cap y o:=fun y o g=>by
   rcases g with g | ⟨rfl,g1,g2⟩
   ·exact .inl g
   ·rw [E_sz] at g2;exact .inr (.inr ⟨rfl,by omega,by rw [E_sz];omega⟩)
  have kLs:∀ y o,kidF bc ba oa d y o->kidF bc ba oa capc y o:=fun y o g=>by
   rcases g with g | ⟨rfl,g1,g2⟩
   ·exact .inl g
   ·exact .inr ⟨rfl,by omega,by omega⟩
  have kRs:∀ y o,kidF rbc ba (oa+d) (capc-d) y o->y=rbc\/kidF bc ba oa capc y o:=fun y o g=>by
   rcases g with g | ⟨rfl,g1,g2⟩
   ·exact .inl g
   ·exact .inr (.inr ⟨rfl,by omega,by omega⟩)
  have hpair:∀ c1 ∈ cs.take d,∀ c2 ∈ cs.drop d,∀ y o,c1.F y o->¬ c2.F y o:=by
   have:=hA.two
   rw [<-List.take_append_drop d cs] at this
   exact (List.pairwise_append.1 this).2.2
  refine ⟨rb,x,_,_,⟨fun y o=>ownF E b bi oi (d-1) y o\/kidF bc ba oa d y o\/∃ c ∈ cs.take d,c.F y o,.nd (ks.take (d-1)) ((cs.take d).map fun c=>c.F.s)⟩,⟨fun y o=>ownF E rb bi (oi+d*2) (cap-d) y o\/kidF rbc ba (oa+d) (capc-d) y o\/∃ c ∈ cs.drop d,c.F y o,.nd (ks.drop d) ((cs.drop d).map fun c=>c.F.s)⟩,
   ⟨ks,_,hF.e,hx,by rw [List.map_take],by rw [List.map_drop]⟩,rfl,hxs.trans hsp,X.mono fun y o _ g=>(hF y o).2 (by rcases g with g | g;exact .inl g;exact .inr (.inl g)),?_,?_,?_,?_,?_⟩
  ·rintro y o (g | g | ⟨c,hc,g⟩)
   ·exact (hF y o).2 (.inl (oLs _ _ g))
   ·exact (hF y o).2 (.inr (.inl (kLs _ _ g)))
   ·exact (hF y o).2 (.inr (.inr ⟨c,List.mem_of_mem_take hc,g⟩))
  ·rintro y o (g | g | ⟨c,hc,g⟩)
   ·rcases oRs _ _ g with rfl | g
    ·exact .inr hrb
    ·exact .inl ((hF y o).2 (.inl g))
   ·rcases kRs _ _ g with rfl | g
    ·exact .inr hrbc
    ·exact .inl ((hF y o).2 (.inr (.inl g)))
   ·exact .inl ((hF y o).2 (.inr (.inr ⟨c,List.mem_of_mem_drop hc,g⟩)))
  ·have cb:=hA.cb
   have ab:=hA.ab
   have ic:=hA.ic
   have ia:=hA.ia
   rintro y o (g | g | ⟨c,hc,g⟩) (k | k | ⟨c',hc',k⟩)
   ·simp only [ownF,rng,E_sz] at g k;omega
   ·simp only [ownF,kidF,rng,E_sz] at g k;omega
   ·exact hA.own c' (List.mem_of_mem_drop hc') y o k (oLs _ _ g)
   ·simp only [ownF,kidF,rng,E_sz] at g k;omega
   ·simp only [kidF,rng] at g k;omega
   ·exact hA.kid c' (List.mem_of_mem_drop hc') y o k (kLs _ _ g)
   ·have:=hlt c (List.mem_of_mem_take hc) y o g
    rcases oRs _ _ k with rfl | k
    ·omega
    ·exact hA.own c (List.mem_of_mem_take hc) y o g k
   ·have:=hlt c (List.mem_of_mem_take hc) y o g
    rcases kRs _ _ k with rfl | k
    ·omega
    ·exact hA.kid c (List.mem_of_mem_take hc) y o g k
   ·exact hpair c hc c' hc' y o g k
  ·refine ⟨bi,oi,d-1,bc,ba,oa,d,ks.take (d-1),cs.take d,?_,?_,by omega,by omega,by omega,rfl,fun c hc=>hT' c (List.mem_of_mem_take hc),?_,⟨fun _ _=>Iff.rfl,rfl⟩⟩
   ·rw [n1,l1,<-s1];exact oL
   ·rw [List.map_take];exact kL
   ·exact ⟨hA.cb,hA.ab,hA.ic,hA.ia,fun c hc y o g k=>hA.own c (List.mem_of_mem_take hc) y o g (oLs _ _ k),fun c hc y o g k=>hA.kid c (List.mem_of_mem_take hc) y o g (kLs _ _ k),
     List.Pairwise.sublist (List.take_sublist _ _) hA.two⟩
  ·refine ⟨bi,oi+d*2,cap-d,rbc,ba,oa+d,capc-d,ks.drop d,cs.drop d,?_,?_,by omega,by omega,by omega,rfl,fun c hc=>hT' c (List.mem_of_mem_drop hc),?_,⟨fun _ _=>Iff.rfl,rfl⟩⟩
   ·rw [n2,l2,<-s2];exact oR
   ·rw [List.map_drop];exact kR
   ·refine ⟨hrr,by omega,by omega,hA.ia,fun c hc y o g k=>?_,fun c hc y o g k=>?_,List.Pairwise.sublist (List.drop_sublist _ _) hA.two⟩
    ·have:=hlt c (List.mem_of_mem_drop hc) y o g
     rcases oRs _ _ k with rfl | k
     ·omega
     ·exact hA.own c (List.mem_of_mem_drop hc) y o g k
    ·have:=hlt c (List.mem_of_mem_drop hc) y o g
     rcases kRs _ _ k with rfl | k
     ·omega
     ·exact hA.kid c (List.mem_of_mem_drop hc) y o g k
set_option maxHeartbeats 2000000 in
theorem set_asm {d h' b bi oi cap bc ba oa capc i lo b' o' cap' ba' oa' capc' rb:Nat} {iso:Int} {xs ks xl xr A C:List It} {md:It} {F F' Fl Fr:FS It} {G6:Nat->Nat->Prop} {w w4 w6 w8 w15 w16 w20:World} {cs:List (Kid It)} {c:Kid It}
  (n:Inn E iso (d-1) (2*d-1) h' w b xs F bi oi cap ks bc ba oa capc cs) (n4:Inn E iso (d-1) (2*d-1) h' w4 b xs F bi oi cap ks bc ba oa capc cs) (ho:Own E w b iso xs.length bi oi cap ks (ptr bc))
  (o4:Own E w4 b iso xs.length bi oi cap ks (ptr bc)) (hoF:∀ x o,ownF E b bi oi cap x o->F x o)
  (hci:cs[i]? = some c) (hlb:i<=ks.length) (hl1:lo<=ks.length) (hl2:ks.length<=2*d-1) (hfull:¬ ks.length=2*d-1) (hw:WAt (cs.map Kid.xs) ks i A C) (hxs:xs=A++c.xs++C) (hcxs:c.xs=xl++md::xr)
  (sz4:w.heap.size<=w4.heap.size) (s6:w4.heap.size<=w6.heap.size) (s8:w6.heap.size<=w8.heap.size) (x6':Ext G6 w4 w6) (hF'':∀ y o,F' y o->c.F y o\/w4.heap.size<=y) (x8:Ext F' w6 w8)
  (hFl:∀ y o,Fl y o->F' y o) (hFr':∀ y o,Fr y o->F' y o\/w6.heap.size<=y) (hlr:∀ y o,Fl y o->¬ Fr y o)
  (tL:Tr E iso (d-1) (2*d-1) h' w8 (d-1) c.b xl Fl) (tR:Tr E iso (d-1) (2*d-1) h' w8 (d-1) rb xr Fr) (T15:Ext (fun y o=>kidF bc ba oa capc y o\/w8.heap.size<=y) w8 w15)
  (k015:rd w15 bc 0=some (.slice (some ⟨ba',oa',none⟩) (cs.length+1) capc')) (wbc15:wok w15 bc 1) (rowK:Row w15 ba' oa' ((((cs.map Kid.b).map ptr).take (i+1))++([ptr rb]++((cs.map Kid.b).map ptr).drop (i+1))))
  (wok15:wok w15 ba' (oa'+capc')) (hcapc':cs.length+1<=capc') (hcase12:ba'=ba/\oa'=oa/\capc'=capc\/w8.heap.size<=ba') (hba'c:ba' ≠ bc) (hba'b:ba' ≠ b) (hba'i:ba' ≠ bi)
  (n16:Ext noF w15 w16) (Y:Ext (fun y o=>(rng bi (oi+ks.length*2) 2 y o/\ks.length+1<=cap)\/(y=b/\o=2)\/y=b'/\o'<=o/\o<o'+cap'*2) w16 w20)
  (hb'c:b'=bi/\o'=oi/\cap'=cap\/w15.heap.size<b') (own20:Own E w20 b iso xs.length b' o' cap' (ks.take i++md::ks.drop i) (ptr bc)) (hG6:∀ y o,G6 y o->c.F y o\/w.heap.size<=y:=by exact fun _ _ g=>.inl g) :
  ∃ F20:FS It,F20.s = .nd (ks.take i++md::ks.drop i) ((cs.take i).map (fun c=>c.F.s)++Fl.s::Fr.s::(cs.drop (i+1)).map fun c=>c.F.s)/\Tr E iso (d-1) (2*d-1) (h'+1) w20 (lo+1) b xs F20/\(∀ y o,F20 y o->F y o\/w4.heap.size<=y) ∧
   (∀ y o,y<w8.heap.size->¬ ownF E b bi oi cap y o->¬ ((rng bi (oi+ks.length*2) 2 y o/\ks.length+1<=cap)\/(y=b/\o=2)\/y=b'/\o'<=o/\o<o'+cap'*2)):=by
 have hcm:=List.mem_of_getElem? hci
 have hcl:=(List.getElem?_eq_some_iff.1 hci).1
 have hlen:=n.len
 have hbl:=wok_lt ho.wb
 have hbil:=wok_lt ho.wi
 have hbcl:=wok_lt n.kids.wc
 have hbal:=wok_lt n.kids.wa
 have hkne:=n.kids.ne
 have hne:=ho.ne
 have acb:=n.ap.cb
 have aab:=n.ap.ab
 have aic:=n.ap.ic
 have aia:=n.ap.ia
 have hS15:=T15.size
 have hb'b:=own20.ne
 have hcF:∀ y o,c.F y o->F y o:=fun y o g=>(n.fp y o).2 (.inr (.inr ⟨c,hcm,g⟩))
 have hF'own:∀ y o,F' y o->¬ ownF E b bi oi cap y o:=fun y o g k=>by
  rcases hF'' y o g with g | g
  ·exact n.ap.own c hcm y o g k
  ·have:=o4.lt k;omega
 have hF'kid:∀ y o,F' y o->¬ kidF bc ba oa capc y o:=fun y o g k=>by
  rcases hF'' y o g with g | g
  ·exact n.ap.kid c hcm y o g k
  ·have:=n4.kids.lt k;omega
 have hOKo:∀ kd ∈ cs,∀ y o,kd.F y o->y<w.heap.size:=fun kd hd y o g=>(n.sub kd hd).lt y o g
 obtain ⟨new,hnew⟩:∃ new:List (Kid It),new=[⟨c.b,xl,Fl⟩,⟨rb,xr,Fr⟩]:=⟨_,rfl⟩
 have hnewF:∀ kd ∈ new,∀ y o,kd.F y o->F' y o\/w6.heap.size<=y:=fun kd hd y o g=>by
  rw [hnew] at hd
  simp only [List.mem_cons,List.not_mem_nil,or_false] at hd
  rcases hd with rfl | rfl
  ·exact .inl (hFl y o g)
  ·exact hFr' y o g
 have hnewlt:∀ kd ∈ new,∀ y o,kd.F y o->y<w8.heap.size:=fun kd hd y o g=>by
  rw [hnew] at hd
  simp only [List.mem_cons,List.not_mem_nil,or_false] at hd
  rcases hd with rfl | rfl
  ·exact tL.lt y o g
  ·exact tR.lt y o g
 have hnew4:∀ kd ∈ new,∀ y o,kd.F y o->c.F y o\/w4.heap.size<=y:=fun kd hd y o g=>by
  rcases hnewF kd hd y o g with g | g
  ·exact hF'' y o g
  ·exact .inr (by omega)
 obtain ⟨cs2,hcs2⟩:∃ cs2,cs2=cs.take i++(new++cs.drop (i+1)):=⟨_,rfl⟩
 have hmem:∀ kd ∈ cs2,(kd ∈ cs.take i\/kd ∈ cs.drop (i+1))\/kd ∈ new:=fun kd hd=>by
  rw [hcs2] at hd
  rcases List.mem_append.1 hd with hd | hd
  ·exact .inl (.inl hd)
  ·rcases List.mem_append.1 hd with hd | hd
   ·exact .inr hd
   ·exact .inl (.inr hd)
 have hsp:cs=cs.take i++c::cs.drop (i+1):=by
  have h3:=List.getElem?_eq_some_iff.1 hci
  have:=List.take_append_drop i cs
  rw [List.drop_eq_getElem_cons h3.1,h3.2] at this
  exact this.symm
 have htwo:=n.ap.two
 rw [hsp] at htwo
 obtain ⟨p1,p2,p3⟩:=List.pairwise_append.1 htwo
 obtain ⟨p4,p5⟩:=List.pairwise_cons.1 p2
 have hold8:∀ kd,(kd ∈ cs.take i\/kd ∈ cs.drop (i+1))->kd ∈ cs/\∀ y o,kd.F y o->¬ c.F y o:=fun kd hd=>by
  rcases hd with hd | hd
  ·exact ⟨List.mem_of_mem_take hd,fun y o g k=>p3 kd hd c (by simp) y o g k⟩
  ·exact ⟨List.mem_of_mem_drop hd,fun y o g k=>p4 kd hd y o k g⟩
 have hOK:∀ kd ∈ cs2,∀ y o,kd.F y o->y<w8.heap.size/\¬ kidF bc ba oa capc y o/\¬ ownF E b bi oi cap y o:=fun kd hd y o g=>by
  rcases hmem kd hd with h | h
  ·have h1:=(hold8 kd h).1
   exact ⟨by have:=hOKo kd h1 y o g;omega,n.ap.kid kd h1 y o g,n.ap.own kd h1 y o g⟩
  ·refine ⟨hnewlt kd h y o g,fun k=>?_,fun k=>?_⟩
   ·rcases hnewF kd h y o g with g | g
    ·exact hF'kid y o g k
    ·have:=n4.kids.lt k;omega
   ·rcases hnewF kd h y o g with g | g
    ·exact hF'own y o g k
    ·have:=o4.lt k;omega
 have hT8:∀ kd ∈ cs2,Tr E iso (d-1) (2*d-1) h' w8 (d-1) kd.b kd.xs kd.F:=fun kd hd=>by
  rcases hmem kd hd with h | h
  ·have h1:=hold8 kd h
   refine ((n4.sub kd h1.1).ext x6' fun y o g k=>by
    rcases hG6 y o k with k | k
    ·exact h1.2 y o g k
    ·have:=hOKo kd h1.1 y o g;omega).ext x8 fun y o g k=>?_
   rcases hF'' y o k with k | k
   ·exact h1.2 y o g k
   ·have:=hOKo kd h1.1 y o g;omega
  ·rw [hnew] at h
   simp only [List.mem_cons,List.not_mem_nil,or_false] at h
   rcases h with rfl | rfl
   ·exact tL
   ·exact tR
 have hY:∀ y o,y<w8.heap.size->¬ ownF E b bi oi cap y o->¬ ((rng bi (oi+ks.length*2) 2 y o/\ks.length+1<=cap)\/(y=b/\o=2)\/y=b'/\o'<=o/\o<o'+cap'*2):=fun y o h1 h2 g=>by
  rcases g with g | g | g
  ·simp only [rng] at g;exact h2 (.inr ⟨g.1.1,by omega,by rw [E_sz];omega⟩)
  ·exact h2 (.inl g.1)
  ·rcases hb'c with ⟨rfl,rfl,rfl⟩ | h
   ·exact h2 (.inr ⟨g.1,g.2.1,by rw [E_sz];have:=g.2.2;omega⟩)
   ·omega
 have hT20:∀ kd ∈ cs2,Tr E iso (d-1) (2*d-1) h' w20 (d-1) kd.b kd.xs kd.F:=fun kd hd =>
  (((hT8 kd hd).ext T15 fun y o g k=>by
   have:=hOK kd hd y o g
   rcases k with k | k
   ·exact this.2.1 k
   ·omega).ext n16 fun _ _ _ k=>k).ext Y fun y o g=>hY y o (hOK kd hd y o g).1 (hOK kd hd y o g).2.2
 have hb2:cs2.map Kid.b=(cs.map Kid.b).take (i+1)++rb::(cs.map Kid.b).drop (i+1):=by
  rw [hcs2,hnew,List.take_add_one,List.getElem?_map,hci]
  simp [List.map_take,List.map_drop]
 have hl2':cs2.length=cs.length+1:=by
  have:=congrArg List.length hb2
  simp at this;omega
 have kids20:Kids w20 bc ba' oa' capc' (cs2.map Kid.b):=by
  have k15:Kids w15 bc ba' oa' capc' (cs2.map Kid.b):=by
   refine ⟨by rw [List.length_map,hl2'];exact k015,wbc15,?_,wok15,by rw [List.length_map,hl2'];exact hcapc',hba'c⟩
   rw [hb2,List.map_append,List.map_cons,List.map_take,List.map_drop]
   exact rowK
  refine (k15.ext n16 fun _ _ _ h=>h).ext Y fun y o g k=>?_
  have hbb:ba'<w15.heap.size:=wok_lt wok15
  simp only [kidF,rng] at g k
  omega
 have hap:Apart E b b' o' cap' bc ba' oa' capc' cs2:=by
  have ap1:Apart E b bi oi cap bc ba oa capc cs2:=by
   rw [hcs2]
   refine n.ap.swap hci hnew4 ?_ (fun kd hd y o g=>by have:=hOKo kd hd y o g;omega) (B:=w4.heap.size) (by omega) (by omega) (by omega) (by omega)
   rw [hnew]
   exact List.pairwise_cons.2 ⟨fun kd hd y o g k=>by
    simp only [List.mem_cons,List.not_mem_nil,or_false] at hd
    subst hd;exact hlr y o g k,List.pairwise_singleton _ _⟩
  have ap2:Apart E b bi oi cap bc ba' oa' capc' cs2:=by
   rcases hcase12 with ⟨rfl,rfl,rfl⟩ | h
   ·exact ap1
   ·exact ap1.kid' hba'b (Ne.symm hba'i) fun kd hd y o g=>by have:=(hOK kd hd y o g).1;omega
  rcases hb'c with ⟨rfl,rfl,rfl⟩ | h
  ·exact ap2
  ·have hbb:ba'<w15.heap.size:=wok_lt wok15
   exact ap2.own' (by omega) (by omega) fun kd hd y o g=>by have:=(hOK kd hd y o g).1;omega
 have hlen2:(ks.take i++md::ks.drop i).length=ks.length+1:=by simp;omega
 have hxs2:xs=weave (cs2.map Kid.xs) (ks.take i++md::ks.drop i):=by
  have:=hw.two xl md xr
  rw [<-hcxs,<-hxs] at this
  rw [<-this,hcs2,hnew]
  simp [List.map_take,List.map_drop]
 have inn20:Inn E iso (d-1) (2*d-1) h' w20 b xs ⟨fun y o=>ownF E b b' o' cap' y o\/kidF bc ba' oa' capc' y o\/∃ kd ∈ cs2,kd.F y o,.nd (ks.take i++md::ks.drop i) (cs2.map fun c=>c.F.s)⟩ b' o' cap' (ks.take i++md::ks.drop i) bc ba' oa' capc' cs2 :=
  ⟨kids20,by rw [hl2',hlen2];omega,hxs2,hT20,hap,⟨fun _ _=>Iff.rfl,rfl⟩⟩
 have tr20:=inn20.tr (lo:=lo+1) own20 (by rw [hlen2];omega) (by rw [hlen2];omega)
 have hF20:∀ y o,(ownF E b b' o' cap' y o\/kidF bc ba' oa' capc' y o\/∃ kd ∈ cs2,kd.F y o)->F y o\/w4.heap.size<=y:=by
  rintro y o (g | g | ⟨kd,hd,g⟩)
  ·rcases hb'c with ⟨rfl,rfl,rfl⟩ | h
   ·exact .inl (hoF _ _ g)
   ·rcases g with rfl | ⟨rfl,_⟩
    ·exact .inl (hoF _ _ (.inl rfl))
    ·exact .inr (by omega)
  ·rcases hcase12 with ⟨rfl,rfl,rfl⟩ | h
   ·exact .inl ((n.fp _ _).2 (.inr (.inl g)))
   ·rcases g with rfl | ⟨rfl,_⟩
    ·exact .inl ((n.fp _ _).2 (.inr (.inl (.inl rfl))))
    ·exact .inr (by omega)
  ·rcases hmem kd hd with h | h
   ·exact .inl ((n.fp _ _).2 (.inr (.inr ⟨kd,(hold8 kd h).1,g⟩)))
   ·rcases hnew4 kd h y o g with g | g
    ·exact .inl (hcF _ _ g)
    ·exact .inr g
 exact ⟨_,by simp [hcs2,hnew],tr20,hF20,hY⟩
inductive SetR (ord:List Int) (d:Nat) (x:It):Sh It->Bool->Sh It->Prop where
 | hit {ks:List It} {cs:List (Sh It)} (h:Go.Proofs.Ytbnnkcofnmipoaa.hit O (rkI ord) (rkI ord x) ks=true):SetR ord d x (.nd ks cs) false (.nd (ks.set (lb O (rkI ord) (rkI ord x) ks) x) cs)
 | leaf {ks:List It} {i:Nat} (h:Go.Proofs.Ytbnnkcofnmipoaa.hit O (rkI ord) (rkI ord x) ks=false) (hi:lb O (rkI ord) (rkI ord x) ks=i) (hl:¬ ks.length=2*d-1):SetR ord d x (.nd ks []) false (.nd (ks.take i++x::ks.drop i) [])
 | full {ks:List It} (h:Go.Proofs.Ytbnnkcofnmipoaa.hit O (rkI ord) (rkI ord x) ks=false) (hl:ks.length=2*d-1):SetR ord d x (.nd ks []) true (.nd ks [])
 | down {ks:List It} {cs:List (Sh It)} {i:Nat} {c c':Sh It} (h:Go.Proofs.Ytbnnkcofnmipoaa.hit O (rkI ord) (rkI ord x) ks=false) (hi:lb O (rkI ord) (rkI ord x) ks=i) (hc:cs[i]? = some c) (r:SetR ord d x c false c'):SetR ord d x (.nd ks cs) false (.nd ks (cs.set i c'))
 | stop {ks:List It} {cs:List (Sh It)} {i:Nat} {c c':Sh It} (h:Go.Proofs.Ytbnnkcofnmipoaa.hit O (rkI ord) (rkI ord x) ks=false) (hi:lb O (rkI ord) (rkI ord x) ks=i) (hc:cs[i]? = some c) (hl:ks.length=2*d-1) (r:SetR ord d x c true c'):SetR ord d x (.nd ks cs) true (.nd ks (cs.set i c'))
 | split {ks k:List It} {cs g:List (Sh It)} {i:Nat} {c:Sh It} {md:It} {b:Bool} {s:Sh It} (h:Go.Proofs.Ytbnnkcofnmipoaa.hit O (rkI ord) (rkI ord x) ks=false) (hi:lb O (rkI ord) (rkI ord x) ks=i) (hc:cs[i]? = some c) (hl:¬ ks.length=2*d-1) (r0:SetR ord d x c true (.nd k g)) (hm:k[d-1]? = some md)
   (r1:SetR ord d x (.nd (ks.take i++md::ks.drop i) (cs.take i ++ .nd (k.take (d-1)) (g.take d) :: .nd (k.drop d) (g.drop d)::cs.drop (i+1))) b s):SetR ord d x (.nd ks cs) b s
theorem SetR.one {ord:List Int} {d:Nat} {x:It} {s:Sh It} {b1 b2:Bool} {r1 r2:Sh It} (h1:SetR ord d x s b1 r1) (h2:SetR ord d x s b2 r2):b1=b2/\r1=r2:=by
 induction h1 generalizing b2 r2 with
 | hit h =>
  cases h2 with
  | hit _=>exact ⟨rfl,rfl⟩
  | leaf h' _ _=>rw [h] at h';cases h'
  | full h' _=>rw [h] at h';cases h'
  | down h' _ _ _=>rw [h] at h';cases h'
  | stop h' _ _ _ _=>rw [h] at h';cases h'
  | split h' _ _ _ _ _ _=>rw [h] at h';cases h'
 | leaf h hi hl =>
  cases h2 with
  | hit h'=>rw [h] at h';cases h'
  | leaf _ hi' _=>rw [<-hi,<-hi'];exact ⟨rfl,rfl⟩
  | full _ hl'=>exact (hl hl').elim
  | down _ _ hc _=>simp at hc
  | stop _ _ hc _ _=>simp at hc
  | split _ _ hc _ _ _ _=>simp at hc
 | full h hl =>
  cases h2 with
  | hit h'=>rw [h] at h';cases h'
  | leaf _ _ hl'=>exact (hl' hl).elim
  | full _ _=>exact ⟨rfl,rfl⟩
  | down _ _ hc _=>simp at hc
  | stop _ _ hc _ _=>simp at hc
  | split _ _ hc _ _ _ _=>simp at hc
 | down h hi hc r ih =>
  cases h2 with
  | hit h'=>rw [h] at h';cases h'
  | leaf _ _ _=>simp at hc
  | full _ _=>simp at hc
  | down _ hi' hc' r' =>
   subst hi;subst hi'
   rw [hc] at hc';cases hc'
   rw [(ih r').2];exact ⟨rfl,rfl⟩
  | stop _ hi' hc' _ r' =>
   subst hi;subst hi'
   rw [hc] at hc';cases hc'
   cases (ih r').1
  | split _ hi' hc' _ r' _ _ =>
   subst hi;subst hi'
   rw [hc] at hc';cases hc'
   cases (ih r').1
 | stop h hi hc hl r ih =>
  cases h2 with
  | hit h'=>rw [h] at h';cases h'
  | leaf _ _ _=>simp at hc
  | full _ _=>simp at hc
  | down _ hi' hc' r' =>
   subst hi;subst hi'
   rw [hc] at hc';cases hc'
   cases (ih r').1
  | stop _ hi' hc' _ r' =>
   subst hi;subst hi'
   rw [hc] at hc';cases hc'
   rw [(ih r').2];exact ⟨rfl,rfl⟩
  | split _ _ _ hl' _ _ _=>exact (hl' hl).elim
 | split h hi hc hl r0 hm r1 ih0 ih1 =>
  cases h2 with
  | hit h'=>rw [h] at h';cases h'
  | leaf _ _ _=>simp at hc
  | full _ _=>simp at hc
  | down _ hi' hc' r' =>
   subst hi;subst hi'
   rw [hc] at hc';cases hc'
   cases (ih0 r').1
  | stop _ _ _ hl' _=>exact (hl hl').elim
  | split _ hi' hc' _ r' hm' r1' =>
   subst hi;subst hi'
   rw [hc] at hc';cases hc'
   cases (ih0 r').2
   rw [hm] at hm';cases hm'
   exact ih1 r1'
inductive RootR (ord:List Int) (d:Nat) (x:It):Sh It->Sh It->Prop where
 | ok {s s':Sh It} (r:SetR ord d x s false s'):RootR ord d x s s'
 | grow {s s':Sh It} {k:List It} {g:List (Sh It)} {md:It} (r:SetR ord d x s true (.nd k g)) (hm:k[d-1]? = some md) (r1:RootR ord d x (.nd [md] [.nd (k.take (d-1)) (g.take d),.nd (k.drop d) (g.drop d)]) s'):RootR ord d x s s'
theorem RootR.one {ord:List Int} {d:Nat} {x:It} {s s1 s2:Sh It} (h1:RootR ord d x s s1) (h2:RootR ord d x s s2):s1=s2:=by
 induction h1 generalizing s2 with
 | ok r =>
  cases h2 with
  | ok r'=>exact (r.one r').2
  | grow r' _ _=>cases (r.one r').1
 | grow r hm r1 ih =>
  cases h2 with
  | ok r'=>cases (r.one r').1
  | grow r' hm' r1' =>
   cases (r.one r').2
   rw [hm] at hm';cases hm'
   exact ih r1'
def Hg:Nat->Sh It->Prop
 | 0,.nd _ cs=>cs=[]
 | h+1,.nd _ cs=>∃ c,cs.head? = some c/\Hg h c
theorem Hg.one:∀ {h h':Nat} {s:Sh It},Hg h s->Hg h' s->h=h'
 | 0,0,_,_,_=>rfl
 | 0,_+1,.nd _ cs,a,⟨c,b,_⟩=>by have a:cs=[]:=a;rw [a] at b;cases b
 | _+1,0,.nd _ cs,⟨c,b,_⟩,a=>by have a:cs=[]:=a;rw [a] at b;cases b
 | h+1,h'+1,.nd _ cs,⟨c,b,g⟩,⟨c',b',g'⟩=>by
  rw [b] at b';cases b'
  rw [Hg.one g g']
def ints (l:List Int):List Value:=l.map (Value.int .i64)
theorem rem_any (n:Int) (b:Nat) (hb:0<b) (hb':b<=2147483647) (w:World) :
  CallK Try.prog 104 #[.int .i64 n,.int .i64 b] w fun v w'=>v = .int .i64 ((n.tmod b+b).tmod b)/\w=w':=by
 refine calls_of_W [.tmp 4] Try.func104 rfl Try.ntmps104 Try.results104 (by simp) fun e he=>?_
 have e0:e 0 = .int .i64 n:=he 0 _ rfl
 have e1:e 1 = .int .i64 b:=he 1 _ rfl
 clear he
 have hz:((b:Int)=0)=False:=eq_false (by omega)
 have h1:=Int.tmod_lt_of_pos n (b:=(b:Int)) (by omega)
 have h2:-(b:Int)<n.tmod b:=by have:=Int.lt_tmod_of_pos n (b:=(b:Int)) (by omega);omega
 have q1:IntKind.i64.wrap (n.tmod b+b)=n.tmod b+b:=IntWalk.i64_in _ (by omega)
 refine W_sq fun K0 hK=>(W_text [true] (by kernel_rfl) ?_);simp only [↓zZ1,↓reduceIte,Nat.reduceEqDiff,rg,ow_104]
 apply hK;clear hK K0
 refine W_sq fun K0 hK=>(W_text [true,true,true,true,true,true,true,true] (by kernel_rfl) ?_);simp only [↓zZ1,↓reduceIte,Nat.reduceEqDiff,rg,ow_104,e0,e1,bv_rem _ _ _ _ hz,q1]
 apply hK;clear hK K0
 exact W_ret (endQ_1 (by simp only [upd_eq,Nat.reduceEqDiff,↓reduceIte]<;>rfl) ⟨rfl,rfl⟩)
theorem rem_nat (n:Int) (b:Nat) (hb:0<b):∃ j:Nat,(n.tmod b+b).tmod b=(j:Int)/\j<b:=by
 have h2:-(b:Int)<n.tmod b:=by have:=Int.lt_tmod_of_pos n (b:=(b:Int)) (by omega);omega
 have h3:=Int.tmod_nonneg (b:Int) (a:=n.tmod b+b) (by omega)
 have h4:=Int.tmod_lt_of_pos (n.tmod b+b) (b:=(b:Int)) (by omega)
 exact ⟨((n.tmod b+b).tmod b).toNat,by omega,by omega⟩
set_option maxHeartbeats 400000 in
set_option maxRecDepth 8000 in
theorem rank_any (sv:Value) (ord:List Int) (k:Int) (w:World) (hs:SlV w 1 sv ord.length (ints ord)) (hl:ord.length<=2147483647) :
  CallK Try.prog 117 #[sv,.int .i64 k] w fun v w'=>v = .int .i64 (rk ord k)/\w=w':=by
 obtain ⟨a,cp,hsv⟩:=hs.shape
 refine calls_of_W [.tmp 4] Try.func117 rfl Try.ntmps117 Try.results117 (by simp) fun e he=>?_
 have e0:e 0 = .slice a ord.length cp:=(he 0 _ rfl).trans hsv
 have e1:e 1 = .int .i64 k:=he 1 _ rfl
 clear he
 refine W_sq fun K0 hK=>(W_text [true] (by kernel_rfl) ?_);simp only [↓zZ1,↓reduceIte,Nat.reduceEqDiff,rg,ow_117]
 apply hK;clear hK K0
 refine W_seq ?_
 by_cases h0:ord=[]
 ·have t1:((ord.length:Int) == 0)=true:=by rw [h0];rfl
  refine W_sq fun K0 hK=>(W_text [true,true,true] (by kernel_rfl) ?_);simp only [↓zZ1,↓reduceIte,Nat.reduceEqDiff,rg,ow_117,e0,t1]
  apply hK;clear hK K0
  refine W_true (by simp only [zZ2,Nat.reduceEqDiff,↓reduceIte,zZ3]<;>rfl) ?_
  refine W_sq fun K0 hK=>(W_text [true,true] (by kernel_rfl) ?_);simp only [↓zZ1,↓reduceIte,Nat.reduceEqDiff,rg,ow_117,e1]
  apply hK;clear hK K0
  refine W_ret ?_
  simp only [andThen_ret]
  exact endQ_1 (by simp only [upd_eq,Nat.reduceEqDiff,↓reduceIte]<;>rfl) ⟨by rw [rk,if_pos h0],rfl⟩
 ·have hp:0<ord.length:=List.length_pos_iff.2 h0
  have t1:((ord.length:Int) == 0)=false:=by simp;omega
  refine W_sq fun K0 hK=>(W_text [true,true,true] (by kernel_rfl) ?_);simp only [↓zZ1,↓reduceIte,Nat.reduceEqDiff,rg,ow_117,e0,t1]
  apply hK;clear hK K0
  refine W_false (by simp only [zZ2,Nat.reduceEqDiff,↓reduceIte,zZ3]<;>rfl) (W_skip ?_)
  show W _ _ _ _ _ _
  refine W_sq fun K0 hK=>(W_text [true,true,true,true,false,true,true,true] (by kernel_rfl) ?_);simp only [↓zZ1,↓reduceIte,Nat.reduceEqDiff,rg,ow_117,e0,e1]
  refine do_call fn_104 (by simp only [zZ2,Nat.reduceEqDiff,↓reduceIte,zZ4]<;>rfl) (rem_any k ord.length hp hl w) ?_
  rintro _ _ ⟨rfl,rfl⟩
  refine ⟨trivial,?_⟩
  obtain ⟨j,hj,hjl⟩:=rem_nat k ord.length hp
  obtain ⟨b,o,ha,row⟩:=hs.at hsv hjl
  subst ha
  have hr:rd w b (o+j)=some (.int .i64 (rk ord k)):=by
   refine row _ _ ?_
   rw [ints,List.getElem?_map,List.getElem?_eq_getElem hjl]
   simp only [Option.map_some,Option.some.injEq,Value.int.injEq,true_and]
   rw [rk,if_neg h0,hj,Int.toNat_natCast,List.getElem?_eq_getElem hjl]
   rfl
  simp only [↓zZ1,↓reduceIte,Nat.reduceEqDiff,rg,ow_117,hj,hjl,hr]
  apply hK;clear hK K0
  exact W_ret (endQ_1 (by simp only [upd_eq,Nat.reduceEqDiff,↓reduceIte]<;>rfl) ⟨rfl,rfl⟩)
structure LessAt (B M:Nat) (w:World) (lv:Value) (ord:List Int):Prop where
 ex:∃ c sv,lv = .func (.func 116) #[] #[ptr c]/\(B<=c/\c<M)/\rd w c 0=some sv/\SlV w 1 sv ord.length (ints ord)/\∀ b o n cp,sv = .slice (some ⟨b,o,none⟩) n cp->B<=b/\b<M
 small:ord.length<=2147483647
theorem SlV.extB {w w':World} {G:Nat->Nat->Prop} {sz n:Nat} {v:Value} {l:List Value} (h:SlV w sz v n l) (x:Ext G w w') (hG:∀ b o n cp,v = .slice (some ⟨b,o,none⟩) n cp->∀ p,¬ G b p):SlV w' sz v n l:=by
 refine ⟨h.1,h.2.imp id fun ⟨b,o,cap,h1,h2,h3,h4⟩=>⟨b,o,cap,h1,h2,x.row h3 fun i _=>hG _ _ _ _ h1 _,x.wokR h4⟩⟩
theorem LessAt.ext {B M:Nat} {w w':World} {G:Nat->Nat->Prop} {lv:Value} {ord:List Int} (h:LessAt B M w lv ord) (x:Ext G w w') (hG:∀ y o,G y o->M<=y\/y<B):LessAt B M w' lv ord:=by
 obtain ⟨c,sv,h1,h2,h3,h4,h5⟩:=h.ex
 exact ⟨⟨c,sv,h1,h2,x.rd h3 fun g=>by have:=hG _ _ g;omega,h4.extB x fun b o n cp hv p g=>by have:=hG _ _ g;have:=h5 _ _ _ _ hv;omega,h5⟩,h.small⟩
theorem LessAt.mono {B M M':Nat} {w:World} {lv:Value} {ord:List Int} (h:LessAt B M w lv ord) (hM:M<=M'):LessAt B M' w lv ord:=by
 obtain ⟨c,sv,h1,h2,h3,h4,h5⟩:=h.ex
 exact ⟨⟨c,sv,h1,⟨h2.1,Nat.lt_of_lt_of_le h2.2 hM⟩,h3,h4,fun b o n cp hv=>⟨(h5 b o n cp hv).1,Nat.lt_of_lt_of_le (h5 b o n cp hv).2 hM⟩⟩,h.small⟩
theorem fn_before:isFn Try.prog 116=true:=by kernel_rfl
set_option maxHeartbeats 400000 in
set_option maxRecDepth 8000 in
theorem before_any (B:Nat) {M:Nat} (lv:Value) (ord:List Int) (a b:It) (w:World) (h:LessAt B M w lv ord) :
  CallV Try.prog lv #[itV a,itV b] w fun v w'=>v = .bool (O.lt (rkI ord a) (rkI ord b))/\Ext noF w w':=by
 obtain ⟨c,sv,rfl,h2,h3,h4,h5⟩:=h.ex
 refine ⟨fn_before,?_⟩
 refine calls_of_W (args:=[itV a,itV b,ptr c]) [.tmp 5] Try.func116 rfl Try.ntmps116 Try.results116 (by simp) fun e he=>?_
 have e0:e 0=itV a:=he 0 _ rfl
 have e1:e 1=itV b:=he 1 _ rfl
 have e2:e 2=ptr c:=he 2 _ rfl
 clear he
 refine W_sq fun K0 hK=>(W_text [false,false,true] (by kernel_rfl) ?_);simp only [↓zZ1,↓reduceIte,Nat.reduceEqDiff,rg,ow_116]
 refine do_box (by simp only [evt];exact e0) fun w1 n1=>⟨trivial,?_⟩
 simp only [↓zZ1,↓reduceIte,Nat.reduceEqDiff,rg,ow_116]
 refine do_box (by simp only [evt,upd_eq,Nat.reduceEqDiff,↓reduceIte];exact e1) fun w2 n2=>⟨trivial,?_⟩
 simp only [↓zZ1,↓reduceIte,Nat.reduceEqDiff,rg,ow_116]
 apply hK;clear hK K0
 have s1:=n1.size
 have X2:Ext noF w w2:=n1.ext.tr n2.ext
 have ra:rd w2 w.heap.size 0=some (.int .i64 a.1):=n2.ext.rd (Row.cons.1 n1.row).1 fun h=>h
 have rb:rd w2 w1.heap.size 0=some (.int .i64 b.1):=(Row.cons.1 n2.row).1
 have hc:=X2.rd h3 fun h=>h
 have hs:=h4.ext0 X2
 refine W_sq fun K0 hK=>(W_draw (some none) none [(0,0,0),(0,1,0),(0,2,0),(0,4,0),(0,5,0),(0,6,0),(1,3,0),(1,7,0),(0,8,0),(0,9,0)] mixed (by kernel_rfl) ?_);simp only [↓zZ1,↓reduceIte,Nat.reduceEqDiff,rg,ow_116,e2,ptr_eq,hc,ra,rb]
 refine do_call fn_117 (by simp only [zZ2,Nat.reduceEqDiff,↓reduceIte,zZ4]<;>rfl) (rank_any sv ord a.1 _ (hs.ext0 (Ext.dr noF _ _)) h.small) ?_
 rintro _ _ ⟨rfl,rfl⟩
 refine ⟨.inr rfl,?_⟩
 simp only [↓zZ1,↓reduceIte,Nat.reduceEqDiff,rg,ow_116,e2,ptr_eq,hc,ra,rb]
 refine do_call fn_117 (by simp only [zZ2,Nat.reduceEqDiff,↓reduceIte,zZ4]<;>rfl) (rank_any sv ord b.1 _ (hs.ext0 (Ext.dr noF _ _)) h.small) ?_
 rintro _ _ ⟨rfl,rfl⟩
 refine ⟨.inr rfl,?_⟩
 simp only [↓zZ1,↓reduceIte,Nat.reduceEqDiff,rg,ow_116]
 apply hK;clear hK K0
 refine W_ret (endQ_1 (by simp only [upd_eq,Nat.reduceEqDiff,↓reduceIte]<;>rfl) ⟨rfl,X2.tr (Ext.dr _ _ _)⟩)
section
variable {P:Program} {e:Env} {w:World} {d:Option Nat} {ty:Nat} {pos:String} {af:Array Edge}
theorem CallV_mono {lv:Value} {vs:Array Value} {R R':Value->World->Prop} (h:CallV P lv vs w R) (hk:∀ v w',R v w'->R' v w'):CallV P lv vs w R':=by
 unfold CallV at h ⊢
 split
 ·exact ⟨h.1,CallK_mono h.2 hk⟩
 ·rename_i hn;revert h;split
  ·rename_i f a b;exact (hn f a b rfl).elim
  ·exact fun h=>h
theorem do_callW {ops:Array Oper} {C:World->World->Prop} {KE:Env->World->Prop} {t:Nat} {args:Array Operand} {tys:Array Nat} {lv:Value} {vs:Array Value} {R:Value->World->Prop} (ht:e t=lv)
  (ha:args.map (ev e)=vs) (hc:CallV P lv vs w R) (hK:∀ v w',R v w'->C w w'/\KE (updO e d v) w') :
  DoO P ops C KE e w ⟨d,.call ⟨.value (.tmp t),args,tys⟩,ty,pos,af,none⟩ :=
 DoO_intro (DoOp_callv (by rw [ht,ha];exact CallV_mono hc hK))
theorem bv_shr1 (T:Nat) (a:Int):binV P .shr T (.int .u64 a) (.int .u64 1)=some (.int .u64 (a.fdiv 2)):=by simp [binV,IntKind.bits]
end
def Ls (B m:Nat) (w:World) (ord:List Int):Prop:=∃ lv,rd w m 6=some lv/\LessAt B m w lv ord/\B<=m
theorem Ls.ext {B m:Nat} {w w':World} {G:Nat->Nat->Prop} {ord:List Int} (h:Ls B m w ord) (x:Ext G w w') (hG:∀ y o,G y o->m<=y\/y<B) (hm:¬ G m 6):Ls B m w' ord:=by
 obtain ⟨lv,h1,h2,h3⟩:=h
 exact ⟨lv,x.rd h1 hm,h2.ext x hG,h3⟩
theorem Ls.ext0 {B m:Nat} {w w':World} {ord:List Int} (h:Ls B m w ord) (x:Ext noF w w'):Ls B m w' ord:=h.ext x (fun _ _ g=>g.elim) fun g=>g.elim
def srchG (ord:List Int) (ks:List It) (x:It):Value:=.tuple #[.int .i64 (lb O (rkI ord) (rkI ord x) ks:Nat),.bool (hit O (rkI ord) (rkI ord x) ks)]
theorem keep4 {F:Nat->Nat->Prop} {w w':World} {a b c d:Nat} (h:Ext F w w') (h1:a<w.heap.size/\∀ o,¬ F a o) (h2:b<w.heap.size/\∀ o,¬ F b o) (h3:c<w.heap.size/\∀ o,¬ F c o) (h4:d<w.heap.size/\∀ o,¬ F d o) :
  keeps (some (some [a,b,c,d])) w w':=keeps_on h fun x hx=>by
 simp only [List.mem_cons,List.not_mem_nil,or_false] at hx
 rcases hx with rfl | rfl | rfl | rfl
 ·exact h1
 ·exact h2
 ·exact h3
 ·exact h4
theorem in1 (a b c d:Nat):readsB (some (some [a,b,c,d])) a=true:=by simp [readsB]
theorem in2 (a b c d:Nat):readsB (some (some [a,b,c,d])) b=true:=by simp [readsB]
theorem in3 (a b c d:Nat):readsB (some (some [a,b,c,d])) c=true:=by simp [readsB]
theorem in4 (a b c d:Nat):readsB (some (some [a,b,c,d])) d=true:=by simp [readsB]
theorem iX_at {w:World} {b o:Nat} {x:It} (h:Row w b o (E.cel x)):rdA w b o 2=some (itV x):=h.rdA 2 (Nat.le_refl _)
theorem u64_of (n:Nat) (h:n<9223372036854775808):IntKind.u64.wrap (n:Int)=n:=IntWalk.u64_in _ (by omega)
theorem half_of (n:Nat):((n:Nat):Int).fdiv 2=((n / 2:Nat):Int):=by rw [Int.fdiv_eq_ediv_of_nonneg _ (by omega)];omega
theorem i64_of (n:Nat) (h:n<9223372036854775808):IntKind.i64.wrap (n:Int)=n:=IntWalk.i64_in _ (by omega)
set_option maxHeartbeats 800000 in
set_option maxRecDepth 8000 in
theorem bsearch_any (B m b bi oi cap:Nat) (ord:List Int) (ks:List It) (x:It) (w:World) (hL:Ls B m w ord) (h2:rd w b 2=some (.slice (some ⟨bi,oi,none⟩) ks.length cap)) (row:Row w bi oi (flat E ks)) (hbi:bi<w.heap.size)
  (hlen:ks.length<4611686018427387904) (ha:Asc O (rkI ord) ks) :
  CallK Try.prog 128 #[ptr m,ptr b,itV x] w fun v w'=>v=srchG ord ks x/\Ext noF w w':=by
 refine calls_of_W [.tmp 6,.tmp 7] Try.func128 rfl Try.ntmps128 Try.results128 (by simp) fun e he=>?_
 have e0:e 0=ptr m:=he 0 _ rfl
 have h0:e 1=ptr b:=he 1 _ rfl
 have h1:e 2=itV x:=he 2 _ rfl
 clear he
 refine W_sq fun K hK=>(W_text [false,true,true] (by kernel_rfl) ?_);simp only [↓zZ1,↓reduceIte,Nat.reduceEqDiff,rg,ow_128]
 refine do_box (by simp only [evt];exact h1) fun w1 n1=>⟨trivial,?_⟩
 simp only [↓zZ1,↓reduceIte,Nat.reduceEqDiff,rg,ow_128]
 apply hK;clear hK K
 have s1:=n1.size
 have bx1:Row w1 w.heap.size 0 (E.cel x):=n1.row
 have h2:=n1.ext.rd h2 fun g=>g
 have row:=n1.ext.row row fun _ _ g=>g
 have hL:=hL.ext0 n1.ext
 have hbl:=rd_lt h2
 have X1:=n1.ext
 clear n1
 refine W_sq fun K hK=>(W_draw (some none) none [(0,0,0),(0,1,0),(0,2,0),(0,3,0),(0,4,0),(0,5,0),(0,6,0)] mixed (by kernel_rfl) ?_);simp only [↓zZ1,↓reduceIte,Nat.reduceEqDiff,rg,ow_128,h0,ptr_eq,h2]
 apply hK;clear hK K
 refine W_seq (W_block (W_loop (fun mm e w'=>Ext noF w1 w'/\∃ lo hi:Nat,mm=hi-lo/\lo<=hi/\hi<=ks.length/\e 0=ptr m/\e 1=ptr b/\e 5=ptr w.heap.size/\e 8 = .int .i64 lo/\e 9 = .int .i64 hi ∧
  (∀ i y,i<lo->ks[i]? = some y->O.lt (rkI ord x) (rkI ord y)=false)/\(∀ i y,hi<=i->ks[i]? = some y->O.lt (rkI ord x) (rkI ord y)=true)) ks.length ⟨Ext.dr _ _ _,0,ks.length,by simp,by simp,by simp,?_,?_,?_,?_,?_,?_,?_⟩ ?_))
 ·simp only [upd_eq,Nat.reduceEqDiff,↓reduceIte];exact e0
 ·simp only [upd_eq,Nat.reduceEqDiff,↓reduceIte];exact h0
 ·simp only [upd_eq,Nat.reduceEqDiff,↓reduceIte];rfl
 ·simp only [upd_eq,Nat.reduceEqDiff,↓reduceIte];rfl
 ·simp only [upd_eq,Nat.reduceEqDiff,↓reduceIte]
 ·intro i y hi;omega
 ·intro i y hi hx;have:=(List.getElem?_eq_some_iff.1 hx).1;omega
 ·clear h0 h1 e0 e
  rintro mm e w' ⟨XW,lo,hi,rfl,hle,hhi,e0,h0,h5,h8,h9,hlo,hup⟩
  have sw:=XW.size
  have h2':=XW.rd h2 fun g=>g
  have row':=XW.row row fun _ _ g=>g
  have bx':=iX_at (XW.row bx1 fun _ _ g=>g)
  have hL':=hL.ext0 XW
  obtain ⟨lv,hlv,hless,hBm⟩:=id hL'
  have hml:=rd_lt hlv
  have A1:=in1 m b bi w.heap.size
  have A2:=in2 m b bi w.heap.size
  have A3:=in3 m b bi w.heap.size
  have A4:=in4 m b bi w.heap.size
  refine W_seq ?_
  by_cases hlt:lo<hi
  ·have ht:=lt_tt lo hi hlt
   refine W_sq fun K hK=>(W_text [true,true,true] (by kernel_rfl) ?_);simp only [↓zZ1,↓reduceIte,Nat.reduceEqDiff,rg,ow_128,h8,h9,ht]
   apply hK;clear hK K
   refine W_true (by simp only [zZ2,Nat.reduceEqDiff,↓reduceIte,zZ3]<;>rfl) (W_skip ?_)
   have e1:=wadd lo hi (by omega)
   have q1:=u64_of (lo+hi) (by omega)
   have q2:=half_of (lo+hi)
   have q3:=i64_of ((lo+hi) / 2) (by omega)
   refine W_block ?_
   refine W_sq fun K hK=>(W_text [true,true,true,true,true,true,true] (by kernel_rfl) ?_);simp only [↓zZ1,↓reduceIte,Nat.reduceEqDiff,rg,ow_128,h8,h9,e1,q1,bv_shr1,q2,q3]
   apply hK;clear hK K
   obtain ⟨y,hy⟩:∃ y,ks[(lo+hi) / 2]? = some y:=⟨_,List.getElem?_eq_getElem (by omega)⟩
   have hk:=it_at row' hy
   have hi1:(lo+hi) / 2<ks.length:=by omega
   refine W_sq fun K hK=>(W_draw (some (some [m,b,bi,w.heap.size])) none [(0,0,0),(0,1,0),(0,2,0),(0,3,0),(0,4,0),(0,5,0),(0,6,0),(0,7,0),(0,8,0),(0,9,0),(0,10,0),(0,11,0),(1,12,0),(0,13,0)] mixed (by kernel_rfl) ?_);simp only [↓zZ1,↓reduceIte,Nat.reduceEqDiff,rg,ow_128,e0,h0,h5,ptr_eq,h2',hi1,hk,hlv,bx',A1,A2,A3,A4]
   refine do_callW (by simp only [zZ2,Nat.reduceEqDiff,↓reduceIte,zZ3]<;>rfl) (by simp only [zZ2,Nat.reduceEqDiff,↓reduceIte,zZ4]<;>rfl) (before_any B lv ord x y _ (hless.ext (Ext.dr noF _ _) fun _ _ g=>g.elim)) ?_
   rintro _ w2 ⟨rfl,x2⟩
   refine ⟨.inr (keep4 x2 ⟨by rw [sz_dr];omega,fun _ g=>g⟩ ⟨by rw [sz_dr];omega,fun _ g=>g⟩ ⟨by rw [sz_dr];omega,fun _ g=>g⟩ ⟨by rw [sz_dr];omega,fun _ g=>g⟩),?_⟩
   simp only [↓zZ1,↓reduceIte,Nat.reduceEqDiff,rg,ow_128]
   apply hK;clear hK K
   have X2:=XW.tr x2.od
   cases hq:O.lt (rkI ord x) (rkI ord y) with
   | true =>
    refine W_false (by simp only [evt,upd_eq,↓reduceIte,zZ3]) ?_
    refine W_rg fun K hK=>(W_text [true,true] (by kernel_rfl) ?_);simp only [↓zZ1,↓reduceIte,Nat.reduceEqDiff,rg,ow_128]
    apply hK;clear hK K
    refine ⟨_,?_,X2.tr (Ext.dr _ _ _),lo,(lo+hi) / 2,rfl,by omega,by omega,?_,?_,?_,?_,?_,hlo,?_⟩
    ·omega
    ·simp only [upd_eq,Nat.reduceEqDiff,↓reduceIte];exact e0
    ·simp only [upd_eq,Nat.reduceEqDiff,↓reduceIte];exact h0
    ·simp only [upd_eq,Nat.reduceEqDiff,↓reduceIte];exact h5
    ·simp only [upd_eq,Nat.reduceEqDiff,↓reduceIte];exact h8
    ·simp only [upd_eq,Nat.reduceEqDiff,↓reduceIte]
    ·intro i z hi' hz
     by_cases he:i=(lo+hi) / 2
     ·subst he;rw [hy] at hz;cases hz;exact hq
     ·have hsp:=List.pairwise_iff_getElem.1 ha ((lo+hi) / 2) i (by omega) (List.getElem?_eq_some_iff.1 hz).1 (by omega)
      rw [(List.getElem?_eq_some_iff.1 hy).2,(List.getElem?_eq_some_iff.1 hz).2] at hsp
      exact O.tr _ _ _ hq hsp
   | false =>
    refine W_true (by simp only [evt,upd_eq,↓reduceIte,zZ3]) ?_
    have e3:=wadd1 ((lo+hi) / 2) (by omega)
    refine W_rg fun K hK=>(W_text [true,true,true] (by kernel_rfl) ?_);simp only [↓zZ1,↓reduceIte,Nat.reduceEqDiff,rg,ow_128,e3]
    apply hK;clear hK K
    refine ⟨_,?_,X2.tr (Ext.dr _ _ _),(lo+hi) / 2+1,hi,rfl,by omega,by omega,?_,?_,?_,?_,?_,?_,hup⟩
    ·omega
    ·simp only [upd_eq,Nat.reduceEqDiff,↓reduceIte];exact e0
    ·simp only [upd_eq,Nat.reduceEqDiff,↓reduceIte];exact h0
    ·simp only [upd_eq,Nat.reduceEqDiff,↓reduceIte];exact h5
    ·simp only [upd_eq,Nat.reduceEqDiff,↓reduceIte]
    ·simp only [upd_eq,Nat.reduceEqDiff,↓reduceIte];exact h9
    ·intro i z hi' hz
     by_cases he:i=(lo+hi) / 2
     ·subst he;rw [hy] at hz;cases hz;exact hq
     ·have hsp:=List.pairwise_iff_getElem.1 ha i ((lo+hi) / 2) (List.getElem?_eq_some_iff.1 hz).1 (by omega) (by omega)
      rw [(List.getElem?_eq_some_iff.1 hy).2,(List.getElem?_eq_some_iff.1 hz).2] at hsp
      cases hqy:O.lt (rkI ord x) (rkI ord z) with
      | false=>rfl
      | true=>have:=O.tr _ _ _ hqy hsp;rw [hq] at this;cases this
  ·obtain rfl:lo=hi:=by omega
   have ht:=lt_ff lo lo (by omega)
   refine W_sq fun K hK=>(W_text [true,true,true] (by kernel_rfl) ?_);simp only [↓zZ1,↓reduceIte,Nat.reduceEqDiff,rg,ow_128,h8,h9,ht]
   apply hK;clear hK K
   refine W_false (by simp only [zZ2,Nat.reduceEqDiff,↓reduceIte,zZ3]<;>rfl) (W_exit ?_)
   show W _ _ _ _ _ _
   refine W_seq ?_
   by_cases h00:0<lo
   ·obtain ⟨y,hy⟩:∃ y,ks[lo-1]? = some y:=⟨_,List.getElem?_eq_getElem (by omega)⟩
    have hk:=it_at row' hy
    have hi1:lo-1<ks.length:=by omega
    have e3:=wsub1 lo h00 (by omega)
    have ht0:decide (0<(lo:Int))=true:=by simp;omega
    refine W_sq fun K hK=>(W_draw (some (some [m,b,bi,w.heap.size])) none [(0,0,0),(0,1,0),(0,2,0),(0,3,0),(0,4,0),(0,5,0),(0,6,0),(0,7,0),(0,8,0),(0,9,0),(0,10,0),(0,11,0),(0,12,0),(0,13,0),(0,14,0),(0,15,0),(1,16,0),(0,17,0),(0,18,0)] mixed (by kernel_rfl) ?_);simp only [↓zZ1,↓reduceIte,Nat.reduceEqDiff,rg,ow_128,e0,h0,h5,h8,ptr_eq,h2',hi1,hk,hlv,bx',ht0,e3,A1,A2,A3,A4]
    refine do_callW (by simp only [zZ2,Nat.reduceEqDiff,↓reduceIte,zZ3]<;>rfl) (by simp only [zZ2,Nat.reduceEqDiff,↓reduceIte,zZ4]<;>rfl) (before_any B lv ord y x _ (hless.ext (Ext.dr noF _ _) fun _ _ g=>g.elim)) ?_
    rintro _ w2 ⟨rfl,x2⟩
    refine ⟨.inr (keep4 x2 ⟨by rw [sz_dr];omega,fun _ g=>g⟩ ⟨by rw [sz_dr];omega,fun _ g=>g⟩ ⟨by rw [sz_dr];omega,fun _ g=>g⟩ ⟨by rw [sz_dr];omega,fun _ g=>g⟩),?_⟩
    simp only [↓zZ1,↓reduceIte,Nat.reduceEqDiff,rg,ow_128]
    apply hK;clear hK K
    have X2:=(X1.tr XW).tr x2.od
    cases hq:O.lt (rkI ord y) (rkI ord x) with
    | true =>
     obtain ⟨f1,f2⟩:=missed_at O (rkI ord) ha (q:=rkI ord x) (u:=lo) hhi (fun z hz=>hup lo z (Nat.le_refl _) hz) (fun z _ hz=>by rw [hy] at hz;cases hz;exact hq)
     refine W_false (by simp only [evt,upd_eq,↓reduceIte,zZ3]) (W_skip ?_)
     show W _ _ _ _ _ _
     refine W_sq fun K hK=>(W_text [true,true,true] (by kernel_rfl) ?_);simp only [↓zZ1,↓reduceIte,Nat.reduceEqDiff,rg,ow_128,h8]
     apply hK;clear hK K
     have hs:Value.tuple #[.int .i64 (lo:Nat),.bool false]=srchG ord ks x:=by rw [srchG,f1,f2]
     exact W_ret (endQ_2 rfl rfl ⟨hs,X2.tr (Ext.dr _ _ _)⟩)
    | false =>
     obtain ⟨f1,f2⟩:=found_at O (rkI ord) ha (q:=rkI ord x) (u:=lo) hhi hlo (fun z hz=>hup lo z (Nat.le_refl _) hz) h00 hy hq
     refine W_true (by simp only [evt,upd_eq,↓reduceIte,zZ3]) ?_
     refine W_sq fun K hK=>(W_text [true,true,true,true] (by kernel_rfl) ?_);simp only [↓zZ1,↓reduceIte,Nat.reduceEqDiff,rg,ow_128,h8,e3]
     apply hK;clear hK K
     refine W_ret ?_
     simp only [andThen_ret,inBlk_ret]
     have hs:Value.tuple #[.int .i64 (lo-1:Nat),.bool true]=srchG ord ks x:=by rw [srchG,f1,f2]
     exact endQ_2 rfl rfl ⟨hs,X2.tr (Ext.dr _ _ _)⟩
   ·have ht0:decide (0<(lo:Int))=false:=by simp;omega
    refine W_sq fun K hK=>(W_draw (some none) none [(0,0,0),(0,1,0),(0,2,0),(0,3,0),(0,4,0),(0,5,0),(0,6,0),(0,7,0),(0,8,0),(0,9,0),(0,10,0),(0,11,0),(0,12,0),(0,13,0),(0,14,0),(0,15,0),(1,16,0),(0,17,0),(0,18,0)] mixed (by kernel_rfl) ?_);simp only [↓zZ1,↓reduceIte,Nat.reduceEqDiff,rg,ow_128,h8,ht0]
    apply hK;clear hK K
    obtain ⟨f1,f2⟩:=missed_at O (rkI ord) ha (q:=rkI ord x) (u:=lo) hhi (fun z hz=>hup lo z (Nat.le_refl _) hz) (fun z h _=>by omega)
    refine W_false (by simp only [zZ2,Nat.reduceEqDiff,↓reduceIte,zZ3]<;>rfl) (W_skip ?_)
    show W _ _ _ _ _ _
    refine W_sq fun K hK=>(W_text [true,true,true] (by kernel_rfl) ?_);simp only [↓zZ1,↓reduceIte,Nat.reduceEqDiff,rg,ow_128,h8]
    apply hK;clear hK K
    have hs:Value.tuple #[.int .i64 (lo:Nat),.bool false]=srchG ord ks x:=by rw [srchG,f1,f2]
    exact W_ret (endQ_2 rfl rfl ⟨hs,(X1.tr XW).tr (Ext.dr _ _ _)⟩)
end Go.Proofs.Ytbnnkcofnmipoaa
