/- Texts in one. No condition. -/
import Derived.Test.YtbnnkcofnmipoaaZ5617e328
import Derived.Test.YtbnnkcofnmipoaaZf56b7aa7
set_option linter.unusedVariables false
set_option linter.unusedSimpArgs false
namespace Go.Proofs.Ytbnnkcofnmipoaa
open Go Go.Proofs
theorem ext_symm {F:Nat->Nat->Prop} {u v:World} (x:Ext F u v) (hs:v.heap.size=u.heap.size):Ext F v u:=by
 refine ⟨x.os.symm,x.output.symm,x.tape.symm,by omega,fun b arr T fr hb=>?_,fun b o hb ho=>?_⟩
 ·have hlt:b<u.heap.size:=by rw [<-hs];exact lt_of_some hb
  obtain ⟨o,hu⟩:∃ o,u.heap[b]? = some o:=⟨_,Array.getElem?_eq_getElem hlt⟩
  by_cases hc:∃ a T' fr',o=Obj.cells a T' fr'
  ·obtain ⟨a,T',fr',rfl⟩:=hc
   obtain ⟨a',g1,g2,g3⟩:=x.cells b a T' fr' hu
   rw [hb,Option.some.injEq,Obj.cells.injEq] at g1
   obtain ⟨rfl,rfl,rfl⟩:=g1
   exact ⟨a,hu,g2.symm,fun o h=>(g3 o h).symm⟩
  ·have:=x.other b o hu fun a T' fr' e=>hc ⟨a,T',fr',e⟩
   rw [hb,Option.some.injEq] at this
   exact (hc ⟨arr,T,fr,this.symm⟩).elim
 ·have hlt:b<u.heap.size:=by rw [<-hs];exact lt_of_some hb
  obtain ⟨o',hu⟩:∃ o,u.heap[b]? = some o:=⟨_,Array.getElem?_eq_getElem hlt⟩
  by_cases hc:∃ a T' fr',o'=Obj.cells a T' fr'
  ·obtain ⟨a,T',fr',rfl⟩:=hc
   obtain ⟨a',g1,-⟩:=x.cells b a T' fr' hu
   rw [hb,Option.some.injEq] at g1
   exact (ho _ _ _ g1).elim
  ·have:=x.other b o' hu fun a T' fr' e=>hc ⟨a,T',fr',e⟩
   rw [hb] at this
   rw [hu,this]
def lastSel (n:Nat):Nat:=n-1
theorem lastSel_lt (n:Nat) (h:0<n):lastSel n<n:=by unfold lastSel;omega
def firstSel (_:Nat):Nat:=0
theorem firstSel_lt (n:Nat) (h:0<n):firstSel n<n:=h
theorem del_last {ord:List Int} {y:It} {zs:List It} (ha:Asc O (rkI ord) (zs++[y])):(at? O (rkI ord) (rkI ord y) (zs++[y])).getD zIt=y/\hit O (rkI ord) (rkI ord y) (zs++[y])=true/\del O (rkI ord) (rkI ord y) (zs++[y])=zs:=by
 obtain ⟨h1,h2⟩:=found_mid O (rkI ord) (C:=[]) ha
 refine ⟨?_,h2,?_⟩
 ·simp [at?,h1,h2]
 ·simp only [del,h1,h2,↓reduceIte]
  rw [List.eraseIdx_append_of_length_le (Nat.le_refl _)]
  simp
theorem del_first {ord:List Int} {y:It} {zs:List It} (ha:Asc O (rkI ord) (y::zs)):(at? O (rkI ord) (rkI ord y) (y::zs)).getD zIt=y/\hit O (rkI ord) (rkI ord y) (y::zs)=true/\del O (rkI ord) (rkI ord y) (y::zs)=zs:=by
 obtain ⟨h1,h2⟩:=found_mid O (rkI ord) (A:=[]) (k:=y) (C:=zs) ha
 refine ⟨?_,h2,?_⟩
 ·simp [at?,show lb O (rkI ord) (rkI ord y) (y::zs)=0 from h1,show hit O (rkI ord) (rkI ord y) (y::zs)=true from h2]
 ·simp only [del,show lb O (rkI ord) (rkI ord y) (y::zs)=0 from h1,show hit O (rkI ord) (rkI ord y) (y::zs)=true from h2,↓reduceIte]
  rfl
def endL (sel:Nat->Nat):Nat->Sh It->List It
 | 0,.nd ks _=>ks
 | h+1,.nd _ cs =>
  match cs[sel cs.length]? with
  | none=>[]
  | some c=>endL sel h c
def endY (mx:Bool) (l:List It):Option It:=if mx then l.getLast? else l.head?
def popS (sel:Nat->Nat) (mx:Bool):Nat->Sh It->Sh It
 | 0,.nd ks _=>.nd (if mx then ks.dropLast else ks.tail) []
 | h+1,.nd ks cs =>
  match cs[sel cs.length]? with
  | none=>.nd ks cs
  | some c=>.nd ks (cs.set (sel cs.length) (popS sel mx h c))
def PopW (ord:List Int) (d:Nat) (sel:Nat->Nat) (mx:Bool) (s s':Sh It):Prop :=
 ∃ h,Hg h s/\((¬ (endL sel h s).length=d-1/\s'=popS sel mx h s/\(s'.kl=0->h=0)/\(s'.kl ≠ 0->Hg h s'))\/((endL sel h s).length=d-1/\∃ y,endY mx (endL sel h s)=some y/\DelW ord d y s s'))
theorem PopW.one {ord:List Int} {d:Nat} {sel:Nat->Nat} {mx:Bool} {s s1 s2:Sh It} (h1:PopW ord d sel mx s s1) (h2:PopW ord d sel mx s s2):s1=s2:=by
 obtain ⟨h,g1,a⟩:=h1
 obtain ⟨h',k1,b⟩:=h2
 obtain rfl:=g1.one k1
 rcases a with ⟨a1,rfl,-⟩ | ⟨a1,y,a2,a3⟩<;>rcases b with ⟨b1,rfl,-⟩ | ⟨b1,z,b2,b3⟩
 ·rfl
 ·exact (a1 b1).elim
 ·exact (b1 a1).elim
 ·rw [a2] at b2;cases b2
  exact a3.one b3
def PopQ (A0 m d:Nat) (iso:Int) (ord:List Int) (sel:Nat->Nat) (mx:Bool) (y:Option It) (ys:List It) (F:FS It) (w:World) (v:Value) (w':World):Prop :=
 v=gotG y/\Ext (mapF m F) w w'/\∃ F',TreeAt A0 ord w' m d iso ys F'/\(y ≠ none->PopW ord d sel mx F.s F'.s)/\∀ y o,F' y o->F y o\/w.heap.size<=y
set_option maxHeartbeats 4000000 in
set_option maxRecDepth 8000 in
theorem popMax_any (A0 m d:Nat) (iso:Int) (ord:List Int) (hd:2<=d) (hd':d<=128) (xs:List It) (F:FS It) (w:World) (hM:TreeAt A0 ord w m d iso xs F) (hbig:xs.length<1152921504606846976) :
  CallK Try.prog 142 #[ptr m] w fun v w'=>PopQ A0 m d iso ord lastSel true xs.getLast? xs.dropLast F w v w':=by
 have hml:=hM.mlt
 refine calls_of_W [.cell 2 33,.tmp 3] Try.func142 rfl Try.ntmps142 Try.results142 (by simp) fun e he=>?_
 have e0:e 0=ptr m:=he 0 _ rfl
 clear he
 refine W_sq fun K hK=>(W_text [false,true] (by kernel_rfl) ?_);simp only [↓zZ1,↓reduceIte,Nat.reduceEqDiff,rg,ow_142]
 refine do_alloc dz_it fun w0 n0=>⟨trivial,?_⟩
 simp only [↓zZ1,↓reduceIte,Nat.reduceEqDiff,rg,ow_142]
 apply hK;clear hK K
 obtain ⟨R,hR⟩:∃ R,R=w.heap.size:=⟨_,rfl⟩
 have s0:w0.heap.size=R+1:=by have:=n0.size;omega
 have wR0:wok w0 R 2:=by rw [hR];exact n0.wok
 have X0:Ext noF w w0:=n0.ext
 have hFR:∀ y o,F y o->y<R:=by rw [hR];exact hM.lt
 rw [<-hR]
 replace hM:=hM.ext X0
 refine W_seq ?_
 refine W_sq fun K hK=>(W_text [true,false] (by kernel_rfl) ?_);simp only [↓zZ1,↓reduceIte,Nat.reduceEqDiff,rg,ow_142,e0]
 refine do_call fn_91 (by simp only [zZ2,Nat.reduceEqDiff,↓reduceIte,zZ4]<;>rfl) (lock_any _ _ w0) ?_
 rintro _ _ ⟨rfl,rfl⟩
 refine ⟨trivial,?_⟩
 simp only [↓zZ1,↓reduceIte,Nat.reduceEqDiff,rg,ow_142]
 apply hK;clear hK K
 refine W_false (by simp only [zZ2,Nat.reduceEqDiff,↓reduceIte,zZ3]<;>rfl) (W_skip ?_)
 show W _ _ _ _ _ _
 refine W_seq ?_
 rcases hM.root with ⟨rfl,hr,hs0⟩ | ⟨h,b,hr,ht⟩
 ·have z0:=zIt_at hM.cfg
  refine W_sq fun K hK=>(W_text [true,true,true,true,true] (by kernel_rfl) ?_);simp only [↓zZ1,↓reduceIte,Nat.reduceEqDiff,rg,ow_142,e0,ptr_eq,hr]
  apply hK;clear hK K
  refine W_true (by simp only [zZ2,Nat.reduceEqDiff,↓reduceIte,zZ3]<;>rfl) ?_
  refine W_sq fun K hK=>(W_text [true,true,true,true,false,true] (by kernel_rfl) ?_);simp only [↓zZ1,↓reduceIte,Nat.reduceEqDiff,rg,ow_142,e0,ptr_eq,z0]
  refine do_store (by simp only [zZ2,Nat.reduceEqDiff,↓reduceIte,zZ3]<;>rfl) (by simp only [zZ2,Nat.reduceEqDiff,↓reduceIte,zZ3]<;>rfl) sz_33 (rb_len zIt) wR0 (by decide) (rb_oc zIt) fun w1 x1 r1 s1=>⟨trivial,?_⟩
  simp only [↓zZ1,↓reduceIte,Nat.reduceEqDiff,rg,ow_142]
  apply hK;clear hK K
  refine W_ret ?_
  simp only [andThen_ret]
  refine endQ_ct (by simp only [upd_eq,Nat.reduceEqDiff,↓reduceIte]<;>rfl) (by simp only [upd_eq,Nat.reduceEqDiff,↓reduceIte]<;>rfl) ld_33 (iX_at (show Row w1 R 0 (E.cel zIt) from r1)) ⟨rfl,(X0.mono fun _ _ _ g=>g.elim).trans x1 (fun _ _ g=>g) fun y o hy g=>by have:=g.1;omega,F,hM.extG x1 (fun y o g k=>by have:=hFR y o g;have:=k.1;omega) (fun y o g=>by have:=g.1;omega),fun g=>(g rfl).elim,fun _ _ g=>.inl g⟩
 ·refine W_sq fun K hK=>(W_text [true,true,true,true,true] (by kernel_rfl) ?_);simp only [↓zZ1,↓reduceIte,Nat.reduceEqDiff,rg,ow_142,e0,ptr_eq,hr]
  apply hK;clear hK K
  refine W_false (by simp only [zZ2,Nat.reduceEqDiff,↓reduceIte,zZ3]<;>rfl) (W_skip ?_)
  show W _ _ _ _ _ _
  refine W_sq fun K hK=>(W_text [true,true,true,true,false,true] (by kernel_rfl) ?_);simp only [↓zZ1,↓reduceIte,Nat.reduceEqDiff,rg,ow_142,e0,ptr_eq]
  refine do_call fn_96 (by simp only [zZ2,Nat.reduceEqDiff,↓reduceIte,zZ4]<;>rfl) (isoLoad_any m m 2 b true iso w0 hM.cfg.iso hr ht.iso0.1) ?_
  rintro _ w1 ⟨rfl,r1⟩
  refine ⟨trivial,?_⟩
  simp only [↓zZ1,↓reduceIte,Nat.reduceEqDiff,rg,ow_142]
  apply hK;clear hK K
  refine W_sq fun K hK=>(W_text [false] (by kernel_rfl) ?_);simp only [↓zZ1,↓reduceIte,Nat.reduceEqDiff,rg,ow_142]
  refine do_alloc dz_it fun w3 n3=>⟨trivial,?_⟩
  simp only [↓zZ1,↓reduceIte,Nat.reduceEqDiff,rg,ow_142]
  apply hK;clear hK K
  have X03:Ext noF w0 w3:=(r1.ext (F:=noF)).tr n3.ext
  have X3:Ext noF w w3:=X0.tr X03
  obtain ⟨B,hB⟩:∃ B,B=w0.heap.size:=⟨_,rfl⟩
  have hBR:B=R+1:=by omega
  have hB1:w1.heap.size=B:=by obtain ⟨n,rfl⟩:=r1;exact hB.symm
  have s3:w3.heap.size=B+1:=by have:=n3.size;omega
  have wB:wok w3 B 2:=by rw [<-hB1];exact n3.wok
  have hFlt:∀ y o,F y o->y<B:=by rw [hB];exact hM.lt
  have wR:wok w3 R 2:=X03.wok wR0
  have hHg:=ht.hg
  rw [hB1]
  replace hM:=hM.ext X03
  replace hr:rd w3 m 2=some (ptr b):=X03.rd hr fun h=>h
  replace ht:=ht.ext X03 fun _ _ _ h=>h
  rw [<-hR] at hml
  clear r1 n3 hB1
  obtain ⟨root,hroot⟩:∃ root,root=b:=⟨_,rfl⟩
  rw [<-hroot] at hr
  refine W_sqx fun J hJ=>?_
  have hrest:∀ (e':Env) (w' u:World) (D:Nat->Prop) (y:It) (zs:List It),Ext (blkF B) w3 u->u.heap.size=w3.heap.size->Shift (-1) u w' D->(∀ y,RS lastSel w3 h b y ↔ D y)->(∀ y,D y->∀ o,F y o)->((endL lastSel h F.s).length=d-1/\endY true (endL lastSel h F.s)=some y)->Row w' B 0 (E.cel y)->xs=zs++[y]->(e' 0=ptr m/\e' 2=ptr R)->e' 5=ptr B->J e' w':=by
   intro e w' u D y zs xu su sh hD hDD hEn hrow hxy e0 e6
   refine hJ _ _ ?_;clear hJ J
   have hr':=sh.ext.rd (xu.rd hr (by show ¬ m=B;omega)) (fun g=>by omega)
   refine W_sq fun K hK=>(W_text [true,true,true,true,true] (by kernel_rfl) ?_);simp only [↓zZ1,↓reduceIte,Nat.reduceEqDiff,rg,ow_142,e0,ptr_eq,hr']
   apply hK;clear hK K
   refine W_sqx fun J hJ=>?_
   have hend:∀ (e':Env) (w':World),Ext noF u w'->Row w' B 0 (E.cel y)->(e' 0=ptr m/\e' 2=ptr R)->e' 5=ptr B->J e' w':=by
    intro e w' X hrow e0 e6
    refine hJ _ _ ?_;clear hJ J
    have XB:Ext (blkF B) w3 w':=xu.tr (X.mono fun _ _ _ g=>g.elim)
    have hM':=hM.extG XB (fun y o g k=>by have:=hFlt y o g;have:y=B:=k;omega) (fun y o k=>by have:y=B:=k;omega)
    have v1:=iX_at hrow
    refine W_sq fun K hK=>(W_text [true,true,false,true,true,false,true] (by kernel_rfl) ?_);simp only [↓zZ1,↓reduceIte,Nat.reduceEqDiff,rg,ow_142,e0,e6,ptr_eq,v1]
    refine do_call fn_92 (vs:=#[ptr m,itV y,hV none]) (by simp only [zZ2,Nat.reduceEqDiff,↓reduceIte,zZ4]<;>rfl) (delH_any A0 m d iso ord y none hd hd' xs F w' hM' hbig (HOk.none _) fun hb hh=>by cases hh) ?_
    obtain ⟨q1,q2,q3⟩:=del_last (hxy ▸ hM.asc:Asc O (rkI ord) (zs++[y]))
    rw [<-hxy] at q1 q2 q3
    rintro _ w4 ⟨rfl,x4,-,F',hM4,hDW,hF'⟩
    refine ⟨trivial,?_⟩
    simp only [↓zZ1,↓reduceIte,Nat.reduceEqDiff,rg,ow_142]
    rw [q1,q2]
    rw [q3] at hM4
    have x4:Ext (mapF m F) w' w4:=x4.mono fun y o _ g=>g.elim id fun g=>by cases g
    have X34:Ext (fun y o=>mapF m F y o\/y=B) w3 w4:=(XB.mono (G:=fun y o=>mapF m F y o\/y=B) fun _ _ _ g=>.inr g).tr (x4.mono fun _ _ _ g=>.inl g)
    refine do_store (b:=R) (o:=0) (by simp only [zZ2,Nat.reduceEqDiff,↓reduceIte];exact e0.2) (by simp only [zZ2,Nat.reduceEqDiff,↓reduceIte,zZ3]<;>rfl) sz_33 (rb_len y) (X34.wok wR) (by decide) (rb_oc y) fun w5 x5 r5 s5=>⟨trivial,?_⟩
    simp only [↓zZ1,↓reduceIte,Nat.reduceEqDiff,rg,ow_142]
    apply hK;clear hK K
    have sX:=XB.size
    have s4:=x4.size
    have hF'R:∀ y o,F' y o->y ≠ R:=fun y o g k=>by
     rcases hF' y o g with g | g
     ·have:=hFR y o g;omega
     ·omega
    refine W_ret (endQ_ct (by simp only [upd_eq,Nat.reduceEqDiff,↓reduceIte];exact e0.2) (by simp only [upd_eq,Nat.reduceEqDiff,↓reduceIte]<;>rfl) ld_33 (iX_at (show Row w5 R 0 (E.cel y) from r5)) ⟨by rw [hxy,List.getLast?_concat];rfl,?_,F',?_,fun _=>⟨h,hHg,.inr ⟨hEn.1,y,hEn.2,hDW q2⟩⟩,fun y o g=>(hF' y o g).imp id fun g=>by omega⟩)
    ·exact (X3.trans X34 (fun _ _ g=>g.elim) fun y o hy g=>g.elim id fun g=>by omega).trans x5 (fun _ _ g=>g) fun y o hy g=>by have:=g.1;omega
    ·rw [hxy];rw [List.dropLast_concat]
     exact hM4.extG x5 (fun y o g k=>hF'R y o g k.1) fun y o g=>by have:=g.1;omega
   clear hJ
   refine W_block (W_loop (fun mm e w'=>∃ (lo b:Nat) (ys:List It) (F:FS It) (D:Nat->Prop),Tr E iso (d-1) (2*d-1) mm w3 lo b ys F/\(∀ y o,F y o->y<B)/\Shift (-1) u w' D/\(∀ y,RS lastSel w3 mm b y ↔ D y)/\(∀ y,D y->y<B)/\Row w' B 0 (E.cel y)/\ys.length<=xs.length/\(e 0=ptr m/\e 2=ptr R)/\e 5=ptr B/\e 4=ptr b)
    h ⟨1,b,xs,F,D,ht,hFlt,sh,hD,fun y g=>hFlt y 0 (hDD y g 0),hrow,Nat.le_refl _,?_,?_,?_⟩ ?_)
   ·simp only [upd_eq,Nat.reduceEqDiff,↓reduceIte];exact e0
   ·simp only [upd_eq,Nat.reduceEqDiff,↓reduceIte];exact e6
   ·simp only [upd_eq,Nat.reduceEqDiff,↓reduceIte];rw [hroot];rfl
   clear sh hD hDD hrow e0 e6 hr' D e w' ht
   rintro mm e w' ⟨lo,b,ys,F',D,ht,hlt',sh,hD,hDB,hrow,hle,e0,e6,e5⟩
   obtain ⟨bi,oi,cap,ks,ch,ho3,h1,h2,hoF,hin⟩:=ht.open
   have hnb:∀ y o,F' y o->¬ blkF B y o:=fun y o g k=>by have:=hlt' y o g;have:y=B:=k;omega
   have ho:=ho3.ext xu fun y o g=>hnb y o (hoF y o g)
   have hDb:D b:=(hD b).1 (by cases mm<;>simp [RS])
   obtain ⟨k,k1,k2⟩:=sh.cnt b hDb
   rw [ho.h1,Option.some.injEq,Value.int.injEq] at k1
   obtain ⟨-,rfl⟩:=k1
   have q1:IntKind.i64.wrap ((ys.length:Int) + -1+1)=ys.length:=by rw [IntWalk.i64_in _ (by omega)];omega
   refine W_block ?_
   refine W_sq fun K hK=>(W_text [true,true,true,true,true,true,true,false] (by kernel_rfl) ?_);simp only [↓zZ1,↓reduceIte,Nat.reduceEqDiff,rg,ow_142,e5,ptr_eq,k2,q1]
   refine do_store (by simp only [zZ2,Nat.reduceEqDiff,↓reduceIte,zZ3]<;>rfl) (by simp only [zZ2,Nat.reduceEqDiff,↓reduceIte,zZ3]<;>rfl) sz_3 rfl (sh.ext.wok ho.wb) (by decide) (oc_one rfl rfl) fun w4 x4 r4 s4=>⟨trivial,?_⟩
   simp only [↓zZ1,↓reduceIte,Nat.reduceEqDiff,rg,ow_142]
   apply hK;clear hK K
   have sh4:=sh.undo hDb ho.h1 x4 (Row.cons.1 r4).1
   have hbB:=hDB b hDb
   have hrow4:Row w4 B 0 (E.cel y):=x4.row hrow fun j _ g=>by simp only [rng] at g;omega
   have b3:=sh4.ext.rd ho.h3 (fun g=>by omega)
   refine W_seq ?_
   rcases hin with ⟨rfl,rfl,rfl,hF⟩ | ⟨h',bc,ba,oa,capc,cs,rfl,rfl,n⟩
   ·refine W_sq fun K hK=>(W_text [true,false] (by kernel_rfl) ?_);simp only [↓zZ1,↓reduceIte,Nat.reduceEqDiff,rg,ow_142,e5]
    refine do_call fn_108 (by simp only [zZ2,Nat.reduceEqDiff,↓reduceIte,zZ4]<;>rfl) (leaf_any b none w4 b3) ?_
    rintro _ w4 ⟨rfl,rfl⟩
    refine ⟨trivial,?_⟩
    simp only [↓zZ1,↓reduceIte,Nat.reduceEqDiff,rg,ow_142]
    apply hK;clear hK K
    refine W_true (by simp only [zZ2,Nat.reduceEqDiff,↓reduceIte,zZ3]<;>rfl) (W_exit ?_)
    simp only [andThen_exit,inBlk_exit,andThen_normal,Nat.reduceEqDiff,↓reduceIte]
    refine hend _ _ (sh4.ext.mono fun y o _ g=>g.2.2 ((hD y).2 g.2.1)) hrow4 ?_ ?_
    ·simp only [upd_eq,Nat.reduceEqDiff,↓reduceIte];exact e0
    ·simp only [upd_eq,Nat.reduceEqDiff,↓reduceIte];exact e6
   ·refine W_sq fun K hK=>(W_text [true,false] (by kernel_rfl) ?_);simp only [↓zZ1,↓reduceIte,Nat.reduceEqDiff,rg,ow_142,e5]
    refine do_call fn_108 (by simp only [zZ2,Nat.reduceEqDiff,↓reduceIte,zZ4]<;>rfl) (leaf_any b (some ⟨bc,0,none⟩) w4 b3) ?_
    rintro _ w4 ⟨rfl,rfl⟩
    refine ⟨trivial,?_⟩
    simp only [↓zZ1,↓reduceIte,Nat.reduceEqDiff,rg,ow_142]
    apply hK;clear hK K
    refine W_false (by simp only [zZ2,Nat.reduceEqDiff,↓reduceIte,zZ3]<;>rfl) (W_skip ?_)
    show W _ _ _ _ _ _
    have hcl:lastSel cs.length<cs.length:=lastSel_lt _ (by have:=n.len;omega)
    obtain ⟨c,hc⟩:∃ c,cs[lastSel cs.length]? = some c:=⟨_,List.getElem?_eq_getElem hcl⟩
    have hcm:c ∈ cs:=List.mem_of_getElem? hc
    have htc:=n.sub c hcm
    have hcD:∀ y,(D y/\y ≠ b) ↔ RS lastSel w3 h' c.b y:=by
     intro y
     rw [<-hD y,n.rs ho3.h3 hc y]
     refine ⟨fun g=>g.1.resolve_left g.2,fun g=>⟨.inr g,fun hb=>?_⟩⟩
     rw [hb] at g
     exact n.ap.own c hcm b 0 (RS.sub lastSel_lt htc b g 0) (.inl rfl)
    have k4:=(n.kids.ext xu fun y o g=>hnb y o ((n.fp y o).2 (.inr (.inl g)))).ext sh4.ext fun y o g hh=>n.ap.kid c hcm y o (RS.sub lastSel_lt htc y ((hcD y).1 hh.2) o) g
    have hc0:=k4.c0
    rw [List.length_map] at hc0
    have hcr:rd w4 ba (oa+(cs.length-1))=some (ptr c.b):=ptr_at k4.row (by rw [List.getElem?_map];exact congrArg _ hc)
    have q2:=wsub1 cs.length (by omega) (by have:=n.len;omega)
    have hlc:cs.length-1<cs.length:=hcl
    refine W_rg fun K hK=>(W_draw (some none) none [(0,0,0),(0,1,0),(0,2,0),(0,3,0),(0,4,0),(0,5,0),(0,6,0),(0,7,0),(0,8,0),(0,9,0),(0,10,0),(0,11,0),(0,12,0),(0,13,0),(0,14,0),(0,15,0),(0,16,0)] mixed (by kernel_rfl) ?_);simp only [↓zZ1,↓reduceIte,Nat.reduceEqDiff,rg,ow_142,e5,ptr_eq,b3,hc0,q2,hlc,hcr]
    apply hK;clear hK K
    have hlen:c.xs.length<=ys.length:=by rw [n.eq];exact weave_mem_length _ _ (by simpa using n.len) _ (List.mem_map_of_mem hcm)
    refine ⟨h',by omega,d-1,c.b,c.xs,c.F,_,htc,fun y o g=>hlt' y o ((n.fp y o).2 (.inr (.inr ⟨c,hcm,g⟩))),sh4.ro (RO.dr _ _),fun y=>(hcD y).symm,fun y g=>hDB y g.1,(Ext.dr noF _ _).row hrow4 fun _ _ g=>g,by omega,?_,?_,?_⟩
    ·simp only [upd_eq,Nat.reduceEqDiff,↓reduceIte];exact e0
    ·simp only [upd_eq,Nat.reduceEqDiff,↓reduceIte];exact e6
    ·simp only [upd_eq,Nat.reduceEqDiff,↓reduceIte];rfl
  clear hJ
  refine W_block (W_loop (fun mm e w'=>∃ (lo b':Nat) (ys:List It) (Fb:FS It) (A:List It) (D:Nat->Prop) (P:Sh It->Sh It),(popS lastSel true h F.s=P (popS lastSel true mm Fb.s)/\endL lastSel h F.s=endL lastSel mm Fb.s)/\Tr E iso (d-1) (2*d-1) mm w3 lo b' ys Fb/\(lo=d-1\/lo=1/\A=[])/\Shift (-1) w3 w' D/\(∀ y,RS lastSel w3 h b y ↔ D y\/RS lastSel w3 mm b' y)/\(∀ y,D y->∀ o,¬ Fb y o)/\(∀ y,D y->∀ o,F y o)/\xs=A++ys ∧
    Hole E iso (d-1) (2*d-1) h 1 b F w3.heap.size w' mm lo b' ys Fb A [] (-1) P/\(∀ y o,Fb y o->F y o)/\(e 0=ptr m/\e 2=ptr R)/\e 5=ptr B/\e 4=ptr b')
    h ⟨1,b,xs,F,[],fun _=>False,fun s=>s,⟨rfl,rfl⟩,ht,.inr ⟨rfl,rfl⟩,Shift.nil _ _,fun y=>by simp,fun _ h=>h.elim,fun _ h=>h.elim,rfl,Hole.root (Nat.le_refl _),fun _ _ g=>g,?_,?_,?_⟩ ?_)
  ·simp only [upd_eq,Nat.reduceEqDiff,↓reduceIte];exact ⟨e0,rfl⟩
  ·simp only [upd_eq,Nat.reduceEqDiff,↓reduceIte];rfl
  ·simp only [upd_eq,Nat.reduceEqDiff,↓reduceIte]
  clear e0 e
  rintro mm e w' ⟨lo,b',ys,Fb,A,D,P,⟨hPS,hEL⟩,htb,hlo,sh,hD,hDF,hDD,hxs,hole,hsub,e0,e6,e5⟩
  obtain ⟨bi,oi,cap,ks,ch,ho,h1,h2,hoF,hin⟩:=htb.open
  have hyx:ys.length<=xs.length:=by rw [hxs];simp
  have hDb:¬ D b':=fun g=>hDF b' g 0 (htb.self 0)
  have q1:IntKind.i64.wrap ((ys.length:Int)-1)=(ys.length:Int) + -1:=by rw [IntWalk.i64_in _ (by omega)];omega
  have c1:=sh.ext.rd ho.h1 (fun g=>hDb g.2)
  have hbB:=hFlt b' 0 (hsub b' 0 (htb.self 0))
  have hDB:∀ y,D y->y<B:=fun y g=>hFlt y 0 (hDD y g 0)
  refine W_block ?_
  refine W_sq fun K hK=>(W_text [true,true,true,true,true,true,true,false] (by kernel_rfl) ?_);simp only [↓zZ1,↓reduceIte,Nat.reduceEqDiff,rg,ow_142,e5,ptr_eq,c1,q1]
  refine do_store (by simp only [zZ2,Nat.reduceEqDiff,↓reduceIte,zZ3]<;>rfl) (by simp only [zZ2,Nat.reduceEqDiff,↓reduceIte,zZ3]<;>rfl) sz_3 rfl (sh.ext.wok ho.wb) (by decide) (oc_one rfl rfl) fun w4 x4 r4 s4=>⟨trivial,?_⟩
  simp only [↓zZ1,↓reduceIte,Nat.reduceEqDiff,rg,ow_142]
  apply hK;clear hK K
  have b1:rd w4 b' 1=some (.int .i64 (ys.length + -1:Int)):=(Row.cons.1 r4).1
  have sh4:=sh.add hDb ho.h1 x4 b1
  have hFF:∀ y o,(o=1/\(D y\/y=b'))->∀ p,F y p:=fun y o g p=>g.2.elim (fun g=>hDD y g p) fun g=>by rw [g];exact hsub _ _ (htb.self p)
  have hM4:Cfg w4 m iso d:=hM.cfg.ext sh4.ext fun o _ _ g=>hM.off 0 (hFF _ _ g 0)
  have ho':=ho.ext sh.ext fun y o g hh=>hDF y hh.2 o (hoF y o g)
  have o4:=ho'.cnt' x4 b1
  refine W_seq ?_
  rcases hin with ⟨rfl,rfl,rfl,hF⟩ | ⟨h',bc,ba,oa,capc,cs,rfl,rfl,n⟩
  ·refine W_sq fun K hK=>(W_text [true,false] (by kernel_rfl) ?_);simp only [↓zZ1,↓reduceIte,Nat.reduceEqDiff,rg,ow_142,e5]
   refine do_call fn_108 (by simp only [zZ2,Nat.reduceEqDiff,↓reduceIte,zZ4]<;>rfl) (leaf_any b' none w4 o4.h3) ?_
   rintro _ w4 ⟨rfl,rfl⟩
   refine ⟨trivial,?_⟩
   simp only [↓zZ1,↓reduceIte,Nat.reduceEqDiff,rg,ow_142]
   apply hK;clear hK K
   refine W_true (by simp only [zZ2,Nat.reduceEqDiff,↓reduceIte,zZ3]<;>rfl) ?_
   have hpos:0<ys.length:=by rcases hlo with h | h<;>omega
   obtain ⟨y,zs,hys⟩:∃ y zs,ys=zs++[y]:=⟨ys.getLast (by intro e;rw [e] at hpos;simp at hpos),ys.dropLast,(List.dropLast_concat_getLast _).symm⟩
   have hzl:zs.length+1=ys.length:=by rw [hys];simp
   have wB4:wok w4 B 2:=sh4.ext.wok wB
   have i3:ys.length-1<ys.length:=by omega
   have q2:=wsub1 ys.length hpos (by omega)
   have hyi:ys[ys.length-1]? = some y:=by rw [hys];simp
   have kv:=it_at o4.row hyi
   refine W_sq fun K hK=>(W_draw (some none) (some 12) [(0,0,0),(0,1,0),(0,2,0),(0,3,0),(0,4,0),(0,5,0),(0,6,0),(0,7,0),(0,8,0),(0,9,0),(0,10,0),(0,11,0),(1,12,0)] mixed (by kernel_rfl) ?_);simp only [↓zZ1,↓reduceIte,Nat.reduceEqDiff,rg,ow_142,e5,e6,ptr_eq,o4.h2,q2,i3,kv]
   refine do_store (b:=B) (o:=0) (by simp only [zZ2,Nat.reduceEqDiff,↓reduceIte];exact e6) (by simp only [zZ2,Nat.reduceEqDiff,↓reduceIte,zZ3]<;>rfl) sz_33 (rb_len y) wB4 (by decide) (rb_oc y) fun w5 x5 r5 s5=>⟨(by first | exact trivial | exact .inl trivial),?_⟩
   simp only [↓zZ1,↓reduceIte,Nat.reduceEqDiff,rg,ow_142]
   apply hK;clear hK K
   (try replace x5:=x5.od)
   have rB:Row w5 B 0 (E.cel y):=r5
   have xB:Ext (blkF B) w4 w5:=x5.mono fun y o _ g=>g.1
   have hnb:∀ y o,Fb y o->¬ blkF B y o:=fun y o g k=>by have:=hFlt y o (hsub y o g);have:y=B:=k;omega
   have o5:=o4.ext xB fun y o g=>hnb y o (hoF y o g)
   have hM5:Cfg w5 m iso d:=hM4.ext xB fun o _ _ (g:m=B)=>by omega
   have hmn:=hM5.mn
   refine W_seq ?_
   by_cases hmin:ys.length=d-1
   ·have t1:((ys.length:Int) == ((d-1:Nat):Int))=true:=by simp;omega
    refine W_sq fun K hK=>(W_draw (some none) none [(0,0,0),(0,1,0),(0,2,0),(0,3,0),(0,4,0),(0,5,0),(0,6,0),(0,7,0),(0,8,0),(0,9,0)] mixed (by kernel_rfl) ?_);simp only [↓zZ1,↓reduceIte,Nat.reduceEqDiff,rg,ow_142,e0,e5,ptr_eq,o5.h2,hmn,t1]
    apply hK;clear hK K
    refine W_true (by simp only [zZ2,Nat.reduceEqDiff,↓reduceIte,zZ3]<;>rfl) (W_exit ?_)
    simp only [andThen_exit,inBlk_exit,andThen_normal,Nat.reduceEqDiff,↓reduceIte]
    obtain ⟨u,xu,su,shu⟩:=shift_base sh4 xB wB fun g=>g.elim (fun g=>by have:=hDB _ g;omega) fun g=>by omega
    refine hrest _ _ u _ y (A++zs) xu su (shu.ro (RO.dr _ _)) (fun y=>?_) (fun y g=>hFF y 1 ⟨rfl,g⟩) (by rw [hEL,hF.e];exact ⟨hmin,by rw [show endL lastSel 0 (.nd ys [])=ys from rfl,hys];exact List.getLast?_concat⟩) ((Ext.dr noF _ _).row rB fun _ _ g=>g) (by rw [hxs,hys];simp) ?_ ?_
    ·rw [hD y];rfl
    ·simp only [upd_eq,Nat.reduceEqDiff,↓reduceIte];exact e0
    ·simp only [upd_eq,Nat.reduceEqDiff,↓reduceIte];exact e6
   have t1:((ys.length:Int) == ((d-1:Nat):Int))=false:=by simp;omega
   refine W_sq fun K hK=>(W_draw (some none) none [(0,0,0),(0,1,0),(0,2,0),(0,3,0),(0,4,0),(0,5,0),(0,6,0),(0,7,0),(0,8,0),(0,9,0)] mixed (by kernel_rfl) ?_);simp only [↓zZ1,↓reduceIte,Nat.reduceEqDiff,rg,ow_142,e0,e5,ptr_eq,o5.h2,hmn,t1]
   apply hK;clear hK K
   refine W_false (by simp only [zZ2,Nat.reduceEqDiff,↓reduceIte,zZ3]<;>rfl) (W_skip ?_)
   show W _ _ _ _ _ _
   have D5:Ext noF w5 (dr w5 (w5.drawn+1)):=Ext.dr _ _ _
   have rB:=D5.row rB fun _ _ g=>g
   have xB:=xB.tr (D5.mono fun _ _ _ g=>g.elim)
   have o5:=o5.ext D5 fun _ _ _ g=>g
   have hM5:=hM5.ext D5 fun _ _ _ g=>g
   have hmn5:=hM5.mn
   generalize dr w5 (w5.drawn+1)=w5 at *
   have z5:=zIt_at hM5
   have hml5:∀ o,¬ ownF E b' bi oi cap m o:=fun o g=>hM.off o (hsub _ _ (hoF _ _ g))
   have hcap:=ho.le
   refine W_sq fun K hK=>(W_draw (some none) (some 15) [(0,0,0),(0,1,0),(0,2,0),(0,3,0),(0,4,0),(0,5,0),(0,6,0),(0,7,0),(0,8,0),(0,9,0),(0,10,0),(0,11,0),(0,12,0),(0,13,0),(0,14,0),(1,15,0)] mixed (by kernel_rfl) ?_);simp only [↓zZ1,↓reduceIte,Nat.reduceEqDiff,rg,ow_142,e0,e5,ptr_eq,o5.h2,q2,i3,z5]
   refine do_store (by simp only [zZ2,Nat.reduceEqDiff,↓reduceIte,zZ3]<;>rfl) (by simp only [zZ2,Nat.reduceEqDiff,↓reduceIte,zZ3]<;>rfl) sz_33 (rb_len zIt) o5.wi (by rw [E_sz];omega) (rb_oc zIt) fun w7 x7 r7 s7=>⟨(by first | exact trivial | exact .inl trivial),?_⟩
   simp only [↓zZ1,↓reduceIte,Nat.reduceEqDiff,rg,ow_142]
   apply hK;clear hK K
   obtain ⟨g3,g4⟩:=o5.se.set (i:=ys.length-1) (x:=zIt) (by omega) (by simp only [E_sz,Nat.mul_one];exact x7.od) (by simp only [E_sz,Nat.mul_one];exact r7)
   rw [show ys.set (ys.length-1) zIt=zs++[zIt] by rw [show ys.length-1=zs.length by omega,hys];exact set_last] at g3
   have o7:=o5.step g3 g4
   have X7:Ext (ownF E b' bi oi cap) w5 w7:=g4.mono fun _ _ _ g=>seF_own g
   have hA':(zs++[zIt]).length=ys.length:=by rw [List.length_append,List.length_singleton];omega
   have h27:=o7.h2
   rw [hA'] at h27
   have i4:ys.length-1<=cap:=by omega
   refine W_sq fun K hK=>(W_draw (some none) (some 14) [(0,0,0),(0,1,0),(0,2,0),(0,3,0),(0,4,0),(0,5,0),(0,6,0),(0,7,0),(0,8,0),(0,9,0),(0,10,0),(0,11,0),(0,12,0),(0,13,0),(1,14,0)] mixed (by kernel_rfl) ?_);simp only [↓zZ1,↓reduceIte,Nat.reduceEqDiff,rg,ow_142,e5,ptr_eq,h27,q2,i4]
   refine do_store (by simp only [zZ2,Nat.reduceEqDiff,↓reduceIte,zZ3]<;>rfl) (by simp only [zZ2,Nat.reduceEqDiff,↓reduceIte,zZ3]<;>rfl) sz_25 rfl o7.wb (by decide) (oc_one rfl rfl) fun w8 x8 r8 s8=>⟨(by first | exact trivial | exact .inl trivial),?_⟩
   simp only [↓zZ1,↓reduceIte,Nat.reduceEqDiff,rg,ow_142]
   apply hK;clear hK K
   obtain ⟨g5,g6⟩:=o7.se.cut x8.od (by rw [show zs.length=ys.length-1 by omega];exact (Row.cons.1 r8).1)
   have o8:=o7.step g5 g6
   have X8:Ext (ownF E b' bi oi cap) w5 w8:=X7.tr (g6.mono fun _ _ _ g=>seF_own g)
   have ho8:∀ o,¬ ownF E b' bi oi cap B o:=fun o g=>hnb _ _ (hoF _ _ g) rfl
   have rB8:Row w8 B 0 (E.cel y):=X8.row rB fun j _ g=>ho8 _ g
   have Xw:Ext (fun y o=>Fb y o\/y=B) w' w8:=((x4.mono fun y o _ g=>.inl (by simp only [rng] at g;rw [g.1];exact htb.self o)).tr (xB.mono fun y o _ g=>.inr g)).tr (X8.mono fun y o _ g=>.inl (hoF y o g))
   obtain ⟨u,xu1,su,xu2⟩:=ext_cutR Xw (sh.ext.wok wB)
   have xu3:=ext_symm xu2 su.symm
   have ou:=o8.ext xu3 fun y o g=>hnb y o (hoF y o g)
   have hz:((ys.length:Int) + -1)=(zs.length:Int):=by omega
   rw [hz] at ou
   have htr:∀ lo,lo<=zs.length->Tr E iso (d-1) (2*d-1) 0 u lo b' zs ⟨ownF E b' bi oi cap,.nd zs []⟩:=fun lo h=>⟨bi,oi,cap,ou,h,by omega,⟨fun _ _=>Iff.rfl,rfl⟩⟩
   have XW:Ext (fun y o=>F y o\/y=B) w3 w8:=(sh.ext.mono fun y o _ g=>.inl (hDD y g.2 o)).tr (Xw.mono fun y o _ g=>g.imp (hsub y o) id)
   have hmW:∀ o,¬ (F m o\/m=B):=fun o g=>g.elim (hM.off o) fun g=>by omega
   have ct8:=XW.rd hM.cnt (hmW 3)
   have q3:=wsub1 xs.length (by omega) (by omega)
   have cf8:=hM.cfg.ext XW fun o _ _=>hmW o
   refine W_sq fun K hK=>(W_text [true,true,true,true,true,true,true,false] (by kernel_rfl) ?_);simp only [↓zZ1,↓reduceIte,Nat.reduceEqDiff,rg,ow_142,e0,ptr_eq,ct8,q3]
   refine do_store (by simp only [zZ2,Nat.reduceEqDiff,↓reduceIte,zZ3]<;>rfl) (by simp only [zZ2,Nat.reduceEqDiff,↓reduceIte,zZ3]<;>rfl) sz_3 rfl cf8.wok (by decide) (oc_one rfl rfl) fun w9 x9 r9 s9=>⟨trivial,?_⟩
   simp only [↓zZ1,↓reduceIte,Nat.reduceEqDiff,rg,ow_142]
   apply hK;clear hK K
   have hmB:¬ B=m:=by omega
   have cf9:=cf8.ext x9 fun o h2 h3 g=>by simp only [rng] at g;omega
   have ct9:rd w9 m 3=some (.int .i64 (xs.length-1:Nat)):=(Row.cons.1 r9).1
   have rB9:Row w9 B 0 (E.cel y):=x9.row rB8 fun j _ g=>hmB g.1
   have vk:=iX_at rB9
   have hpl:popS lastSel true 0 Fb.s = .nd zs []:=by rw [hF.e];show Sh.nd (ys.dropLast) []=_;rw [hys];rw [List.dropLast_concat]
   have hnm:¬ (endL lastSel h F.s).length=d-1:=by rw [hEL,hF.e];exact hmin
   have X39:Ext (fun y o=>mapF m F y o\/y=B) w3 w9:=(XW.mono fun y o _ g=>g.imp .inl id).tr (x9.mono fun y o _ g=>.inl (.inr (by simp only [rng] at g;exact ⟨g.1,by omega⟩)))
   have ha:Asc O (rkI ord) xs.dropLast:=hM.asc.sublist (List.dropLast_sublist _)
   have hxe:xs=(A++zs)++[y]:=by rw [hxs,hys];simp
   have hxr:xs.dropLast=A++zs:=by rw [hxe];rw [List.dropLast_concat]
   have hxo:xs.getLast? = some y:=by rw [hxe];rw [List.getLast?_concat]
   have hxl:(xs.dropLast).length=xs.length-1:=by simp
   have hlen:=congrArg List.length hxs
   rw [List.length_append] at hlen
   refine W_seq ?_
   by_cases hc1:xs.length=1
   ·have t2:(((xs.length-1:Nat):Int) == 0)=true:=by rw [hc1];rfl
    refine W_sq fun K hK=>(W_text [true,true,true,true,true] (by kernel_rfl) ?_);simp only [↓zZ1,↓reduceIte,Nat.reduceEqDiff,rg,ow_142,e0,ptr_eq,ct9,t2]
    apply hK;clear hK K
    refine W_true (by simp only [zZ2,Nat.reduceEqDiff,↓reduceIte,zZ3]<;>rfl) ?_
    refine W_rg fun K hK=>(W_text [true,true,true,false] (by kernel_rfl) ?_);simp only [↓zZ1,↓reduceIte,Nat.reduceEqDiff,rg,ow_142,e0,ptr_eq]
    refine do_store (by simp only [zZ2,Nat.reduceEqDiff,↓reduceIte,zZ3]<;>rfl) (by simp only [zZ2,Nat.reduceEqDiff,↓reduceIte,zZ3]<;>rfl) sz_96 rfl cf9.wok (by decide) (oc_one rfl rfl) fun w10 x10 r10 s10=>⟨trivial,?_⟩
    simp only [↓zZ1,↓reduceIte,Nat.reduceEqDiff,rg,ow_142]
    apply hK;clear hK K
    show W _ _ _ _ _ _
    have rB10:Row w10 B 0 (E.cel y):=x10.row rB9 fun j _ g=>hmB g.1
    have vk:=iX_at rB10
    have X310:Ext (fun y o=>mapF m F y o\/y=B) w3 w10:=X39.tr (x10.mono fun y o _ g=>.inl (.inr (by simp only [rng] at g;exact ⟨g.1,by omega⟩)))
    refine W_sq fun K hK=>(W_text [true,false,true] (by kernel_rfl) ?_);simp only [↓zZ1,↓reduceIte,Nat.reduceEqDiff,rg,ow_142,e6,ptr_eq,vk]
    refine do_store (b:=R) (o:=0) (by simp only [zZ2,Nat.reduceEqDiff,↓reduceIte];exact e0.2) (by simp only [zZ2,Nat.reduceEqDiff,↓reduceIte,zZ3]<;>rfl) sz_33 (rb_len y) (X310.wok wR) (by decide) (rb_oc y) fun w11 x11 r11 s11=>⟨trivial,?_⟩
    simp only [↓zZ1,↓reduceIte,Nat.reduceEqDiff,rg,ow_142]
    apply hK;clear hK K
    refine W_ret ?_
    simp only [andThen_ret,inBlk_ret]
    have hnil:xs.dropLast=[]:=List.eq_nil_of_length_eq_zero (by omega)
    have hh0:h=0:=by have:=Tr.height (by omega) (Nat.le_refl 1) ht;omega
    have hpe:popS lastSel true h F.s = .nd [] []:=by
     subst hh0
     obtain ⟨bi',oi',cap',-,-,-,hF0⟩:=ht
     rw [hF0.e]
     show Sh.nd (xs.dropLast) []=_
     rw [hnil]
    refine endQ_ct (by simp only [upd_eq,Nat.reduceEqDiff,↓reduceIte];exact e0.2) (by simp only [upd_eq,Nat.reduceEqDiff,↓reduceIte]<;>rfl) ld_33 (iX_at (show Row w11 R 0 (E.cel y) from r11)) ⟨by rw [hxo];rfl,(X3.trans X310 (fun _ _ g=>g.elim) (fun y o hy g=>g.elim id fun g=>by omega)).trans x11 (fun _ _ g=>g) fun y o hy g=>by have:=g.1;omega,⟨noF,.nd [] []⟩,?_,fun _=>⟨h,hHg,.inl ⟨hnm,hpe.symm,fun _=>hh0,fun g=>(g rfl).elim⟩⟩,fun _ _ g=>g.elim⟩
    rw [hnil]
    refine TreeAt.extG ⟨cf9.ext x10 fun o h2 h3 g=>by simp only [rng] at g;omega,hM.less.ext X310 (fun y o g=>.inl (by rcases g with (g | g) | g;have:=hM.above y o g;omega;omega;omega)) (fun g=>by rcases g with (g | g) | g;exact hM.off _ g;omega;omega),?_,List.Pairwise.nil,.inl ⟨rfl,(Row.cons.1 r10).1,rfl⟩,fun _ g=>g,fun _ _ g=>g.elim,fun _ _ g=>g.elim⟩ x11 (fun _ _ g=>g.elim) fun y o g=>by have:=g.1;omega
    rw [hc1] at ct9
    exact x10.rd ct9 (by simp only [rng];omega)
   ·have t2:(((xs.length-1:Nat):Int) == 0)=false:=by simp;omega
    refine W_sq fun K hK=>(W_text [true,true,true,true,true] (by kernel_rfl) ?_);simp only [↓zZ1,↓reduceIte,Nat.reduceEqDiff,rg,ow_142,e0,ptr_eq,ct9,t2]
    apply hK;clear hK K
    refine W_false (by simp only [zZ2,Nat.reduceEqDiff,↓reduceIte,zZ3]<;>rfl) (W_skip ?_)
    show W _ _ _ _ _ _
    refine W_sq fun K hK=>(W_text [true,false,true] (by kernel_rfl) ?_);simp only [↓zZ1,↓reduceIte,Nat.reduceEqDiff,rg,ow_142,e6,ptr_eq,vk]
    refine do_store (b:=R) (o:=0) (by simp only [zZ2,Nat.reduceEqDiff,↓reduceIte];exact e0.2) (by simp only [zZ2,Nat.reduceEqDiff,↓reduceIte,zZ3]<;>rfl) sz_33 (rb_len y) (X39.wok wR) (by decide) (rb_oc y) fun w11 x11 r11 s11=>⟨trivial,?_⟩
    simp only [↓zZ1,↓reduceIte,Nat.reduceEqDiff,rg,ow_142]
    apply hK;clear hK K
    refine W_ret ?_
    simp only [andThen_ret,inBlk_ret]
    have hzlo:lo<=zs.length:=by
     rcases hlo with h | ⟨h,hA⟩
     ·omega
     ·rw [hA] at hlen;simp at hlen;omega
    obtain ⟨F2,hT2,hS2,hF2⟩:=hole u zs _ xu1 (htr lo hzlo) (fun y o g=>.inl (hoF y o g)) (by omega)
    have hF2B:∀ y o,F2 y o->¬ blkF B y o:=fun y o g (k:y=B)=>by
     rcases hF2 y o g with g | g
     ·have:=hFlt y o g;omega
     ·omega
    have hF2m:∀ o,¬ F2 m o:=fun o g=>by
     rcases hF2 m o g with g | g
     ·exact hM.off o g
     ·omega
    have hF2R:∀ y o,F2 y o->y ≠ R:=fun y o g k=>by
     rcases hF2 y o g with g | g
     ·have:=hFR y o g;omega
     ·omega
    refine endQ_ct (by simp only [upd_eq,Nat.reduceEqDiff,↓reduceIte];exact e0.2) (by simp only [upd_eq,Nat.reduceEqDiff,↓reduceIte]<;>rfl) ld_33 (iX_at (show Row w11 R 0 (E.cel y) from r11)) ⟨by rw [hxo];rfl,(X3.trans X39 (fun _ _ g=>g.elim) (fun y o hy g=>g.elim id fun g=>by omega)).trans x11 (fun _ _ g=>g) fun y o hy g=>by have:=g.1;omega,F2,?_,fun _=>⟨h,hHg,.inl ⟨hnm,by rw [hS2,hPS,hpl],fun g=>(hT2.kl1 (Nat.le_refl _) g).elim,fun _=>hT2.hg⟩⟩,fun y o g=>(hF2 y o g).imp id fun g=>by omega⟩
    refine TreeAt.extG ⟨cf9,hM.less.ext X39 (fun y o g=>.inl (by rcases g with (g | g) | g;have:=hM.above y o g;omega;omega;omega)) (fun g=>by rcases g with (g | g) | g;exact hM.off _ g;omega;omega),by rw [hxl];exact ct9,ha,.inr ⟨h,b,?_,?_⟩,hF2m,?_,fun y o g=>(hF2 y o g).elim (fun g=>hM.above y o g) fun g=>by omega⟩ x11 (fun y o g k=>hF2R y o g k.1) fun y o g=>by have:=g.1;omega
    ·rw [hroot] at hr
     exact x9.rd (XW.rd hr (hmW 2)) (by simp only [rng];omega)
    ·rw [hxr]
     have:=(hT2.ext xu2 hF2B).ext x9 fun y o g k=>by simp only [rng] at k;rw [k.1] at g;exact hF2m _ g
     simpa using this
    ·intro y o g;rw [s9];exact (hT2.ext xu2 hF2B).lt y o g
  ·have hcl:lastSel cs.length<cs.length:=lastSel_lt _ (by have:=n.len;omega)
   obtain ⟨c,hc⟩:∃ c,cs[lastSel cs.length]? = some c:=⟨_,List.getElem?_eq_getElem hcl⟩
   have hcm:c ∈ cs:=List.mem_of_getElem? hc
   have htc:=n.sub c hcm
   have hcF:∀ y o,c.F y o->Fb y o:=fun y o g=>(n.fp y o).2 (.inr (.inr ⟨c,hcm,g⟩))
   have b3:=o4.h3
   refine W_sq fun K hK=>(W_text [true,false] (by kernel_rfl) ?_);simp only [↓zZ1,↓reduceIte,Nat.reduceEqDiff,rg,ow_142,e5]
   refine do_call fn_108 (by simp only [zZ2,Nat.reduceEqDiff,↓reduceIte,zZ4]<;>rfl) (leaf_any b' (some ⟨bc,0,none⟩) w4 b3) ?_
   rintro _ w4 ⟨rfl,rfl⟩
   refine ⟨trivial,?_⟩
   simp only [↓zZ1,↓reduceIte,Nat.reduceEqDiff,rg,ow_142]
   apply hK;clear hK K
   refine W_false (by simp only [zZ2,Nat.reduceEqDiff,↓reduceIte,zZ3]<;>rfl) (W_skip ?_)
   show W _ _ _ _ _ _
   have n4:=n.ext sh4.ext (fun y o g hh=>by
    rcases hh.2 with hh | hh
    ·exact hDF y hh o ((n.fp y o).2 (.inr (.inl g)))
    ·subst hh
     rcases g with g | g
     ·exact n.ap.cb g.symm
     ·exact n.ap.ab g.1.symm) fun d' hd y o g hh=>by
    rcases hh.2 with hh | hh
    ·exact hDF y hh o ((n.fp y o).2 (.inr (.inr ⟨d',hd,g⟩)))
    ·exact n.ap.own d' hd y o g (.inl hh)
   have hc0:=n4.kids.c0
   rw [List.length_map] at hc0
   have hcr:rd w4 ba (oa+(cs.length-1))=some (ptr c.b):=ptr_at n4.kids.row (by rw [List.getElem?_map];exact congrArg _ hc)
   have q2:=wsub1 cs.length (by omega) (by have:=n.len;omega)
   have hlc:cs.length-1<cs.length:=hcl
   refine W_rg fun K hK=>(W_draw (some none) none [(0,0,0),(0,1,0),(0,2,0),(0,3,0),(0,4,0),(0,5,0),(0,6,0),(0,7,0),(0,8,0),(0,9,0),(0,10,0),(0,11,0),(0,12,0),(0,13,0),(0,14,0),(0,15,0),(1,16,0),(0,17,0)] mixed (by kernel_rfl) ?_);simp only [↓zZ1,↓reduceIte,Nat.reduceEqDiff,rg,ow_142,e0,e5,ptr_eq,b3,hc0,q2,hlc]
   refine do_call fn_96 (by simp only [zZ2,Nat.reduceEqDiff,↓reduceIte,zZ4]<;>rfl) (isoLoad_any m ba (oa+(cs.length-1)) c.b true iso _ hM4.iso hcr (n4.sub c hcm).iso0.1) ?_
   rintro _ w5 ⟨rfl,r5⟩
   refine ⟨.inr (keeps_ro r5),?_⟩
   simp only [↓zZ1,↓reduceIte,Nat.reduceEqDiff,rg,ow_142]
   apply hK;clear hK K
   have R5:RO w4 w5:=(RO.dr _ _).tr r5
   obtain ⟨A',C',hw⟩:=weave_at (lastSel cs.length) (cs.map Kid.xs) ks (by simpa using n.len) (by have:=n.len;simp only [lastSel];omega)
   have hC':C'=[]:=by
    rcases hw.right with ⟨hC,_⟩ | ⟨k,_,hk,_⟩
    ·exact hC
    ·have:=(List.getElem?_eq_some_iff.1 hk).1;have:=n.len;simp only [lastSel] at *;omega
   subst hC'
   have hxe:ys=A'++c.xs:=by rw [n.eq,hw.eq (c:=c.xs) (by rw [List.getElem?_map,hc];rfl),List.append_nil]
   have n':=n.ext sh.ext (fun y o g hh=>hDF y hh.2 o ((n.fp y o).2 (.inr (.inl g)))) fun d' hd y o g hh=>hDF y hh.2 o ((n.fp y o).2 (.inr (.inr ⟨d',hd,g⟩)))
   have hole4:=(hole.down n' ho' h1 h2 x4 b1 hc hw).ro R5
   have hcs:(cs.map fun c=>c.F.s)[lastSel (cs.map fun c=>c.F.s).length]? = some c.F.s:=by rw [List.length_map,List.getElem?_map,hc];rfl
   have hPS':popS lastSel true h F.s=P (.nd ks ((cs.map fun c=>c.F.s).set (lastSel cs.length) (popS lastSel true h' c.F.s))):=by
    rw [hPS,n.fp.e];simp only [popS,hcs];rw [List.length_map]
   have hEL':endL lastSel h F.s=endL lastSel h' c.F.s:=by
    rw [hEL,n.fp.e];simp only [endL,hcs]
   refine ⟨h',by omega,d-1,c.b,c.xs,c.F,A++A',_,_,⟨hPS',hEL'⟩,htc,.inl rfl,sh4.ro R5,fun y=>?_,fun y g o hh=>?_,fun y g=>?_,by rw [hxs,hxe,List.append_assoc],hole4,fun y o g=>hsub y o (hcF y o g),?_,?_,?_⟩
   ·rw [hD y,n.rs ho.h3 hc y,or_assoc]
   ·rcases g with g | g
    ·exact hDF y g o (hcF y o hh)
    ·exact n.ap.own c hcm y o hh (.inl g)
   ·exact hFF y 1 ⟨rfl,g⟩
   ·simp only [upd_eq,Nat.reduceEqDiff,↓reduceIte];exact e0
   ·simp only [upd_eq,Nat.reduceEqDiff,↓reduceIte];exact e6
   ·simp only [upd_eq,Nat.reduceEqDiff,↓reduceIte]
set_option maxHeartbeats 4000000 in
set_option maxRecDepth 8000 in
theorem popMin_any (A0 m d:Nat) (iso:Int) (ord:List Int) (hd:2<=d) (hd':d<=128) (xs:List It) (F:FS It) (w:World) (hM:TreeAt A0 ord w m d iso xs F) (hbig:xs.length<1152921504606846976) :
  CallK Try.prog 141 #[ptr m] w fun v w'=>PopQ A0 m d iso ord firstSel false xs.head? xs.tail F w v w':=by
 have hml:=hM.mlt
 refine calls_of_W [.cell 2 33,.tmp 3] Try.func141 rfl Try.ntmps141 Try.results141 (by simp) fun e he=>?_
 have e0:e 0=ptr m:=he 0 _ rfl
 clear he
 refine W_sq fun K hK=>(W_text [false,true] (by kernel_rfl) ?_);simp only [↓zZ1,↓reduceIte,Nat.reduceEqDiff,rg,ow_141]
 refine do_alloc dz_it fun w0 n0=>⟨trivial,?_⟩
 simp only [↓zZ1,↓reduceIte,Nat.reduceEqDiff,rg,ow_141]
 apply hK;clear hK K
 obtain ⟨R,hR⟩:∃ R,R=w.heap.size:=⟨_,rfl⟩
 have s0:w0.heap.size=R+1:=by have:=n0.size;omega
 have wR0:wok w0 R 2:=by rw [hR];exact n0.wok
 have X0:Ext noF w w0:=n0.ext
 have hFR:∀ y o,F y o->y<R:=by rw [hR];exact hM.lt
 rw [<-hR]
 replace hM:=hM.ext X0
 refine W_seq ?_
 refine W_sq fun K hK=>(W_text [true,false] (by kernel_rfl) ?_);simp only [↓zZ1,↓reduceIte,Nat.reduceEqDiff,rg,ow_141,e0]
 refine do_call fn_91 (by simp only [zZ2,Nat.reduceEqDiff,↓reduceIte,zZ4]<;>rfl) (lock_any _ _ w0) ?_
 rintro _ _ ⟨rfl,rfl⟩
 refine ⟨trivial,?_⟩
 simp only [↓zZ1,↓reduceIte,Nat.reduceEqDiff,rg,ow_141]
 apply hK;clear hK K
 refine W_false (by simp only [zZ2,Nat.reduceEqDiff,↓reduceIte,zZ3]<;>rfl) (W_skip ?_)
 show W _ _ _ _ _ _
 refine W_seq ?_
 rcases hM.root with ⟨rfl,hr,hs0⟩ | ⟨h,b,hr,ht⟩
 ·have z0:=zIt_at hM.cfg
  refine W_sq fun K hK=>(W_text [true,true,true,true,true] (by kernel_rfl) ?_);simp only [↓zZ1,↓reduceIte,Nat.reduceEqDiff,rg,ow_141,e0,ptr_eq,hr]
  apply hK;clear hK K
  refine W_true (by simp only [zZ2,Nat.reduceEqDiff,↓reduceIte,zZ3]<;>rfl) ?_
  refine W_sq fun K hK=>(W_text [true,true,true,true,false,true] (by kernel_rfl) ?_);simp only [↓zZ1,↓reduceIte,Nat.reduceEqDiff,rg,ow_141,e0,ptr_eq,z0]
  refine do_store (by simp only [zZ2,Nat.reduceEqDiff,↓reduceIte,zZ3]<;>rfl) (by simp only [zZ2,Nat.reduceEqDiff,↓reduceIte,zZ3]<;>rfl) sz_33 (rb_len zIt) wR0 (by decide) (rb_oc zIt) fun w1 x1 r1 s1=>⟨trivial,?_⟩
  simp only [↓zZ1,↓reduceIte,Nat.reduceEqDiff,rg,ow_141]
  apply hK;clear hK K
  refine W_ret ?_
  simp only [andThen_ret]
  refine endQ_ct (by simp only [upd_eq,Nat.reduceEqDiff,↓reduceIte]<;>rfl) (by simp only [upd_eq,Nat.reduceEqDiff,↓reduceIte]<;>rfl) ld_33 (iX_at (show Row w1 R 0 (E.cel zIt) from r1)) ⟨rfl,(X0.mono fun _ _ _ g=>g.elim).trans x1 (fun _ _ g=>g) fun y o hy g=>by have:=g.1;omega,F,hM.extG x1 (fun y o g k=>by have:=hFR y o g;have:=k.1;omega) (fun y o g=>by have:=g.1;omega),fun g=>(g rfl).elim,fun _ _ g=>.inl g⟩
 ·refine W_sq fun K hK=>(W_text [true,true,true,true,true] (by kernel_rfl) ?_);simp only [↓zZ1,↓reduceIte,Nat.reduceEqDiff,rg,ow_141,e0,ptr_eq,hr]
  apply hK;clear hK K
  refine W_false (by simp only [zZ2,Nat.reduceEqDiff,↓reduceIte,zZ3]<;>rfl) (W_skip ?_)
  show W _ _ _ _ _ _
  refine W_sq fun K hK=>(W_text [true,true,true,true,false,true] (by kernel_rfl) ?_);simp only [↓zZ1,↓reduceIte,Nat.reduceEqDiff,rg,ow_141,e0,ptr_eq]
  refine do_call fn_96 (by simp only [zZ2,Nat.reduceEqDiff,↓reduceIte,zZ4]<;>rfl) (isoLoad_any m m 2 b true iso w0 hM.cfg.iso hr ht.iso0.1) ?_
  rintro _ w1 ⟨rfl,r1⟩
  refine ⟨trivial,?_⟩
  simp only [↓zZ1,↓reduceIte,Nat.reduceEqDiff,rg,ow_141]
  apply hK;clear hK K
  refine W_sq fun K hK=>(W_text [false] (by kernel_rfl) ?_);simp only [↓zZ1,↓reduceIte,Nat.reduceEqDiff,rg,ow_141]
  refine do_alloc dz_it fun w3 n3=>⟨trivial,?_⟩
  simp only [↓zZ1,↓reduceIte,Nat.reduceEqDiff,rg,ow_141]
  apply hK;clear hK K
  have X03:Ext noF w0 w3:=(r1.ext (F:=noF)).tr n3.ext
  have X3:Ext noF w w3:=X0.tr X03
  obtain ⟨B,hB⟩:∃ B,B=w0.heap.size:=⟨_,rfl⟩
  have hBR:B=R+1:=by omega
  have hB1:w1.heap.size=B:=by obtain ⟨n,rfl⟩:=r1;exact hB.symm
  have s3:w3.heap.size=B+1:=by have:=n3.size;omega
  have wB:wok w3 B 2:=by rw [<-hB1];exact n3.wok
  have hFlt:∀ y o,F y o->y<B:=by rw [hB];exact hM.lt
  have wR:wok w3 R 2:=X03.wok wR0
  have hHg:=ht.hg
  rw [hB1]
  replace hM:=hM.ext X03
  replace hr:rd w3 m 2=some (ptr b):=X03.rd hr fun h=>h
  replace ht:=ht.ext X03 fun _ _ _ h=>h
  rw [<-hR] at hml
  clear r1 n3 hB1
  obtain ⟨root,hroot⟩:∃ root,root=b:=⟨_,rfl⟩
  rw [<-hroot] at hr
  refine W_sqx fun J hJ=>?_
  have hrest:∀ (e':Env) (w' u:World) (D:Nat->Prop) (y:It) (zs:List It),Ext (blkF B) w3 u->u.heap.size=w3.heap.size->Shift (-1) u w' D->(∀ y,RS firstSel w3 h b y ↔ D y)->(∀ y,D y->∀ o,F y o)->((endL firstSel h F.s).length=d-1/\endY false (endL firstSel h F.s)=some y)->Row w' B 0 (E.cel y)->xs=y::zs->(e' 0=ptr m/\e' 2=ptr R)->e' 5=ptr B->J e' w':=by
   intro e w' u D y zs xu su sh hD hDD hEn hrow hxy e0 e6
   refine hJ _ _ ?_;clear hJ J
   have hr':=sh.ext.rd (xu.rd hr (by show ¬ m=B;omega)) (fun g=>by omega)
   refine W_sq fun K hK=>(W_text [true,true,true,true,true] (by kernel_rfl) ?_);simp only [↓zZ1,↓reduceIte,Nat.reduceEqDiff,rg,ow_141,e0,ptr_eq,hr']
   apply hK;clear hK K
   refine W_sqx fun J hJ=>?_
   have hend:∀ (e':Env) (w':World),Ext noF u w'->Row w' B 0 (E.cel y)->(e' 0=ptr m/\e' 2=ptr R)->e' 5=ptr B->J e' w':=by
    intro e w' X hrow e0 e6
    refine hJ _ _ ?_;clear hJ J
    have XB:Ext (blkF B) w3 w':=xu.tr (X.mono fun _ _ _ g=>g.elim)
    have hM':=hM.extG XB (fun y o g k=>by have:=hFlt y o g;have:y=B:=k;omega) (fun y o k=>by have:y=B:=k;omega)
    have v1:=iX_at hrow
    refine W_sq fun K hK=>(W_text [true,true,false,true,true,false,true] (by kernel_rfl) ?_);simp only [↓zZ1,↓reduceIte,Nat.reduceEqDiff,rg,ow_141,e0,e6,ptr_eq,v1]
    refine do_call fn_92 (vs:=#[ptr m,itV y,hV none]) (by simp only [zZ2,Nat.reduceEqDiff,↓reduceIte,zZ4]<;>rfl) (delH_any A0 m d iso ord y none hd hd' xs F w' hM' hbig (HOk.none _) fun hb hh=>by cases hh) ?_
    obtain ⟨q1,q2,q3⟩:=del_first (hxy ▸ hM.asc:Asc O (rkI ord) (y::zs))
    rw [<-hxy] at q1 q2 q3
    rintro _ w4 ⟨rfl,x4,-,F',hM4,hDW,hF'⟩
    refine ⟨trivial,?_⟩
    simp only [↓zZ1,↓reduceIte,Nat.reduceEqDiff,rg,ow_141]
    rw [q1,q2]
    rw [q3] at hM4
    have x4:Ext (mapF m F) w' w4:=x4.mono fun y o _ g=>g.elim id fun g=>by cases g
    have X34:Ext (fun y o=>mapF m F y o\/y=B) w3 w4:=(XB.mono (G:=fun y o=>mapF m F y o\/y=B) fun _ _ _ g=>.inr g).tr (x4.mono fun _ _ _ g=>.inl g)
    refine do_store (b:=R) (o:=0) (by simp only [zZ2,Nat.reduceEqDiff,↓reduceIte];exact e0.2) (by simp only [zZ2,Nat.reduceEqDiff,↓reduceIte,zZ3]<;>rfl) sz_33 (rb_len y) (X34.wok wR) (by decide) (rb_oc y) fun w5 x5 r5 s5=>⟨trivial,?_⟩
    simp only [↓zZ1,↓reduceIte,Nat.reduceEqDiff,rg,ow_141]
    apply hK;clear hK K
    have sX:=XB.size
    have s4:=x4.size
    have hF'R:∀ y o,F' y o->y ≠ R:=fun y o g k=>by
     rcases hF' y o g with g | g
     ·have:=hFR y o g;omega
     ·omega
    refine W_ret (endQ_ct (by simp only [upd_eq,Nat.reduceEqDiff,↓reduceIte];exact e0.2) (by simp only [upd_eq,Nat.reduceEqDiff,↓reduceIte]<;>rfl) ld_33 (iX_at (show Row w5 R 0 (E.cel y) from r5)) ⟨by rw [hxy];rfl,?_,F',?_,fun _=>⟨h,hHg,.inr ⟨hEn.1,y,hEn.2,hDW q2⟩⟩,fun y o g=>(hF' y o g).imp id fun g=>by omega⟩)
    ·exact (X3.trans X34 (fun _ _ g=>g.elim) fun y o hy g=>g.elim id fun g=>by omega).trans x5 (fun _ _ g=>g) fun y o hy g=>by have:=g.1;omega
    ·rw [hxy]
     exact hM4.extG x5 (fun y o g k=>hF'R y o g k.1) fun y o g=>by have:=g.1;omega
   clear hJ
   refine W_block (W_loop (fun mm e w'=>∃ (lo b:Nat) (ys:List It) (F:FS It) (D:Nat->Prop),Tr E iso (d-1) (2*d-1) mm w3 lo b ys F/\(∀ y o,F y o->y<B)/\Shift (-1) u w' D/\(∀ y,RS firstSel w3 mm b y ↔ D y)/\(∀ y,D y->y<B)/\Row w' B 0 (E.cel y)/\ys.length<=xs.length/\(e 0=ptr m/\e 2=ptr R)/\e 5=ptr B/\e 4=ptr b)
    h ⟨1,b,xs,F,D,ht,hFlt,sh,hD,fun y g=>hFlt y 0 (hDD y g 0),hrow,Nat.le_refl _,?_,?_,?_⟩ ?_)
   ·simp only [upd_eq,Nat.reduceEqDiff,↓reduceIte];exact e0
   ·simp only [upd_eq,Nat.reduceEqDiff,↓reduceIte];exact e6
   ·simp only [upd_eq,Nat.reduceEqDiff,↓reduceIte];rw [hroot];rfl
   clear sh hD hDD hrow e0 e6 hr' D e w' ht
   rintro mm e w' ⟨lo,b,ys,F',D,ht,hlt',sh,hD,hDB,hrow,hle,e0,e6,e5⟩
   obtain ⟨bi,oi,cap,ks,ch,ho3,h1,h2,hoF,hin⟩:=ht.open
   have hnb:∀ y o,F' y o->¬ blkF B y o:=fun y o g k=>by have:=hlt' y o g;have:y=B:=k;omega
   have ho:=ho3.ext xu fun y o g=>hnb y o (hoF y o g)
   have hDb:D b:=(hD b).1 (by cases mm<;>simp [RS])
   obtain ⟨k,k1,k2⟩:=sh.cnt b hDb
   rw [ho.h1,Option.some.injEq,Value.int.injEq] at k1
   obtain ⟨-,rfl⟩:=k1
   have q1:IntKind.i64.wrap ((ys.length:Int) + -1+1)=ys.length:=by rw [IntWalk.i64_in _ (by omega)];omega
   refine W_block ?_
   refine W_sq fun K hK=>(W_text [true,true,true,true,true,true,true,false] (by kernel_rfl) ?_);simp only [↓zZ1,↓reduceIte,Nat.reduceEqDiff,rg,ow_141,e5,ptr_eq,k2,q1]
   refine do_store (by simp only [zZ2,Nat.reduceEqDiff,↓reduceIte,zZ3]<;>rfl) (by simp only [zZ2,Nat.reduceEqDiff,↓reduceIte,zZ3]<;>rfl) sz_3 rfl (sh.ext.wok ho.wb) (by decide) (oc_one rfl rfl) fun w4 x4 r4 s4=>⟨trivial,?_⟩
   simp only [↓zZ1,↓reduceIte,Nat.reduceEqDiff,rg,ow_141]
   apply hK;clear hK K
   have sh4:=sh.undo hDb ho.h1 x4 (Row.cons.1 r4).1
   have hbB:=hDB b hDb
   have hrow4:Row w4 B 0 (E.cel y):=x4.row hrow fun j _ g=>by simp only [rng] at g;omega
   have b3:=sh4.ext.rd ho.h3 (fun g=>by omega)
   refine W_seq ?_
   rcases hin with ⟨rfl,rfl,rfl,hF⟩ | ⟨h',bc,ba,oa,capc,cs,rfl,rfl,n⟩
   ·refine W_sq fun K hK=>(W_text [true,false] (by kernel_rfl) ?_);simp only [↓zZ1,↓reduceIte,Nat.reduceEqDiff,rg,ow_141,e5]
    refine do_call fn_108 (by simp only [zZ2,Nat.reduceEqDiff,↓reduceIte,zZ4]<;>rfl) (leaf_any b none w4 b3) ?_
    rintro _ w4 ⟨rfl,rfl⟩
    refine ⟨trivial,?_⟩
    simp only [↓zZ1,↓reduceIte,Nat.reduceEqDiff,rg,ow_141]
    apply hK;clear hK K
    refine W_true (by simp only [zZ2,Nat.reduceEqDiff,↓reduceIte,zZ3]<;>rfl) (W_exit ?_)
    simp only [andThen_exit,inBlk_exit,andThen_normal,Nat.reduceEqDiff,↓reduceIte]
    refine hend _ _ (sh4.ext.mono fun y o _ g=>g.2.2 ((hD y).2 g.2.1)) hrow4 ?_ ?_
    ·simp only [upd_eq,Nat.reduceEqDiff,↓reduceIte];exact e0
    ·simp only [upd_eq,Nat.reduceEqDiff,↓reduceIte];exact e6
   ·refine W_sq fun K hK=>(W_text [true,false] (by kernel_rfl) ?_);simp only [↓zZ1,↓reduceIte,Nat.reduceEqDiff,rg,ow_141,e5]
    refine do_call fn_108 (by simp only [zZ2,Nat.reduceEqDiff,↓reduceIte,zZ4]<;>rfl) (leaf_any b (some ⟨bc,0,none⟩) w4 b3) ?_
    rintro _ w4 ⟨rfl,rfl⟩
    refine ⟨trivial,?_⟩
    simp only [↓zZ1,↓reduceIte,Nat.reduceEqDiff,rg,ow_141]
    apply hK;clear hK K
    refine W_false (by simp only [zZ2,Nat.reduceEqDiff,↓reduceIte,zZ3]<;>rfl) (W_skip ?_)
    show W _ _ _ _ _ _
    have hcl:firstSel cs.length<cs.length:=firstSel_lt _ (by have:=n.len;omega)
    obtain ⟨c,hc⟩:∃ c,cs[firstSel cs.length]? = some c:=⟨_,List.getElem?_eq_getElem hcl⟩
    have hcm:c ∈ cs:=List.mem_of_getElem? hc
    have htc:=n.sub c hcm
    have hcD:∀ y,(D y/\y ≠ b) ↔ RS firstSel w3 h' c.b y:=by
     intro y
     rw [<-hD y,n.rs ho3.h3 hc y]
     refine ⟨fun g=>g.1.resolve_left g.2,fun g=>⟨.inr g,fun hb=>?_⟩⟩
     rw [hb] at g
     exact n.ap.own c hcm b 0 (RS.sub firstSel_lt htc b g 0) (.inl rfl)
    have k4:=(n.kids.ext xu fun y o g=>hnb y o ((n.fp y o).2 (.inr (.inl g)))).ext sh4.ext fun y o g hh=>n.ap.kid c hcm y o (RS.sub firstSel_lt htc y ((hcD y).1 hh.2) o) g
    have hc0:=k4.c0
    rw [List.length_map] at hc0
    have hcr:rd w4 ba oa=some (ptr c.b):=ptr_at (i:=0) k4.row (by rw [List.getElem?_map];exact congrArg _ hc)
    have hlc:=ix0 1 ba oa cs.length (by omega)
    refine W_rg fun K hK=>(W_text [true,true,true,true,true,true,true,true,true] (by kernel_rfl) ?_);simp only [↓zZ1,↓reduceIte,Nat.reduceEqDiff,rg,ow_141,e5,ptr_eq,b3,hc0,hlc,hcr]
    apply hK;clear hK K
    have hlen:c.xs.length<=ys.length:=by rw [n.eq];exact weave_mem_length _ _ (by simpa using n.len) _ (List.mem_map_of_mem hcm)
    refine ⟨h',by omega,d-1,c.b,c.xs,c.F,_,htc,fun y o g=>hlt' y o ((n.fp y o).2 (.inr (.inr ⟨c,hcm,g⟩))),sh4,fun y=>(hcD y).symm,fun y g=>hDB y g.1,hrow4,by omega,?_,?_,?_⟩
    ·simp only [upd_eq,Nat.reduceEqDiff,↓reduceIte];exact e0
    ·simp only [upd_eq,Nat.reduceEqDiff,↓reduceIte];exact e6
    ·simp only [upd_eq,Nat.reduceEqDiff,↓reduceIte];rfl
  clear hJ
  refine W_block (W_loop (fun mm e w'=>∃ (lo b':Nat) (ys:List It) (Fb:FS It) (A:List It) (D:Nat->Prop) (P:Sh It->Sh It),(popS firstSel false h F.s=P (popS firstSel false mm Fb.s)/\endL firstSel h F.s=endL firstSel mm Fb.s)/\Tr E iso (d-1) (2*d-1) mm w3 lo b' ys Fb/\(lo=d-1\/lo=1/\A=[])/\Shift (-1) w3 w' D/\(∀ y,RS firstSel w3 h b y ↔ D y\/RS firstSel w3 mm b' y)/\(∀ y,D y->∀ o,¬ Fb y o)/\(∀ y,D y->∀ o,F y o)/\xs=ys++A ∧
    Hole E iso (d-1) (2*d-1) h 1 b F w3.heap.size w' mm lo b' ys Fb [] A (-1) P/\(∀ y o,Fb y o->F y o)/\(e 0=ptr m/\e 2=ptr R)/\e 5=ptr B/\e 4=ptr b')
    h ⟨1,b,xs,F,[],fun _=>False,fun s=>s,⟨rfl,rfl⟩,ht,.inr ⟨rfl,rfl⟩,Shift.nil _ _,fun y=>by simp,fun _ h=>h.elim,fun _ h=>h.elim,(List.append_nil _).symm,Hole.root (Nat.le_refl _),fun _ _ g=>g,?_,?_,?_⟩ ?_)
  ·simp only [upd_eq,Nat.reduceEqDiff,↓reduceIte];exact ⟨e0,rfl⟩
  ·simp only [upd_eq,Nat.reduceEqDiff,↓reduceIte];rfl
  ·simp only [upd_eq,Nat.reduceEqDiff,↓reduceIte]
  clear e0 e
  rintro mm e w' ⟨lo,b',ys,Fb,A,D,P,⟨hPS,hEL⟩,htb,hlo,sh,hD,hDF,hDD,hxs,hole,hsub,e0,e6,e5⟩
  obtain ⟨bi,oi,cap,ks,ch,ho,h1,h2,hoF,hin⟩:=htb.open
  have hyx:ys.length<=xs.length:=by rw [hxs];simp
  have hDb:¬ D b':=fun g=>hDF b' g 0 (htb.self 0)
  have q1:IntKind.i64.wrap ((ys.length:Int)-1)=(ys.length:Int) + -1:=by rw [IntWalk.i64_in _ (by omega)];omega
  have c1:=sh.ext.rd ho.h1 (fun g=>hDb g.2)
  have hbB:=hFlt b' 0 (hsub b' 0 (htb.self 0))
  have hDB:∀ y,D y->y<B:=fun y g=>hFlt y 0 (hDD y g 0)
  refine W_block ?_
  refine W_sq fun K hK=>(W_text [true,true,true,true,true,true,true,false] (by kernel_rfl) ?_);simp only [↓zZ1,↓reduceIte,Nat.reduceEqDiff,rg,ow_141,e5,ptr_eq,c1,q1]
  refine do_store (by simp only [zZ2,Nat.reduceEqDiff,↓reduceIte,zZ3]<;>rfl) (by simp only [zZ2,Nat.reduceEqDiff,↓reduceIte,zZ3]<;>rfl) sz_3 rfl (sh.ext.wok ho.wb) (by decide) (oc_one rfl rfl) fun w4 x4 r4 s4=>⟨trivial,?_⟩
  simp only [↓zZ1,↓reduceIte,Nat.reduceEqDiff,rg,ow_141]
  apply hK;clear hK K
  have b1:rd w4 b' 1=some (.int .i64 (ys.length + -1:Int)):=(Row.cons.1 r4).1
  have sh4:=sh.add hDb ho.h1 x4 b1
  have hFF:∀ y o,(o=1/\(D y\/y=b'))->∀ p,F y p:=fun y o g p=>g.2.elim (fun g=>hDD y g p) fun g=>by rw [g];exact hsub _ _ (htb.self p)
  have hM4:Cfg w4 m iso d:=hM.cfg.ext sh4.ext fun o _ _ g=>hM.off 0 (hFF _ _ g 0)
  have ho':=ho.ext sh.ext fun y o g hh=>hDF y hh.2 o (hoF y o g)
  have o4:=ho'.cnt' x4 b1
  refine W_seq ?_
  rcases hin with ⟨rfl,rfl,rfl,hF⟩ | ⟨h',bc,ba,oa,capc,cs,rfl,rfl,n⟩
  ·refine W_sq fun K hK=>(W_text [true,false] (by kernel_rfl) ?_);simp only [↓zZ1,↓reduceIte,Nat.reduceEqDiff,rg,ow_141,e5]
   refine do_call fn_108 (by simp only [zZ2,Nat.reduceEqDiff,↓reduceIte,zZ4]<;>rfl) (leaf_any b' none w4 o4.h3) ?_
   rintro _ w4 ⟨rfl,rfl⟩
   refine ⟨trivial,?_⟩
   simp only [↓zZ1,↓reduceIte,Nat.reduceEqDiff,rg,ow_141]
   apply hK;clear hK K
   refine W_true (by simp only [zZ2,Nat.reduceEqDiff,↓reduceIte,zZ3]<;>rfl) ?_
   have hpos:0<ys.length:=by rcases hlo with h | h<;>omega
   obtain ⟨y,zs,hys⟩:∃ y zs,ys=y::zs:=by cases ys with | nil=>simp at hpos | cons y zs=>exact ⟨y,zs,rfl⟩
   have hzl:zs.length+1=ys.length:=by rw [hys];simp
   have wB4:wok w4 B 2:=sh4.ext.wok wB
   have i3:ys.length-1<ys.length:=by omega
   have q2:=wsub1 ys.length hpos (by omega)
   have hyi:ys[0]? = some y:=by rw [hys];rfl
   have kv:=it_at o4.row hyi
   simp only [Nat.zero_mul,Nat.add_zero] at kv
   have ii:=ix0 2 bi oi ys.length hpos
   refine W_sq fun K hK=>(W_text [true,true,true,true,true,true,false] (by kernel_rfl) ?_);simp only [↓zZ1,↓reduceIte,Nat.reduceEqDiff,rg,ow_141,e5,e6,ptr_eq,o4.h2,ii,kv]
   refine do_store (b:=B) (o:=0) (by simp only [zZ2,Nat.reduceEqDiff,↓reduceIte];exact e6) (by simp only [zZ2,Nat.reduceEqDiff,↓reduceIte,zZ3]<;>rfl) sz_33 (rb_len y) wB4 (by decide) (rb_oc y) fun w5 x5 r5 s5=>⟨(by first | exact trivial | exact .inl trivial),?_⟩
   simp only [↓zZ1,↓reduceIte,Nat.reduceEqDiff,rg,ow_141]
   apply hK;clear hK K
   (try replace x5:=x5.od)
   have rB:Row w5 B 0 (E.cel y):=r5
   have xB:Ext (blkF B) w4 w5:=x5.mono fun y o _ g=>g.1
   have hnb:∀ y o,Fb y o->¬ blkF B y o:=fun y o g k=>by have:=hFlt y o (hsub y o g);have:y=B:=k;omega
   have o5:=o4.ext xB fun y o g=>hnb y o (hoF y o g)
   have hM5:Cfg w5 m iso d:=hM4.ext xB fun o _ _ (g:m=B)=>by omega
   have hmn:=hM5.mn
   refine W_seq ?_
   by_cases hmin:ys.length=d-1
   ·have t1:((ys.length:Int) == ((d-1:Nat):Int))=true:=by simp;omega
    refine W_sq fun K hK=>(W_draw (some none) none [(0,0,0),(0,1,0),(0,2,0),(0,3,0),(0,4,0),(0,5,0),(0,6,0),(0,7,0),(0,8,0),(0,9,0)] mixed (by kernel_rfl) ?_);simp only [↓zZ1,↓reduceIte,Nat.reduceEqDiff,rg,ow_141,e0,e5,ptr_eq,o5.h2,hmn,t1]
    apply hK;clear hK K
    refine W_true (by simp only [zZ2,Nat.reduceEqDiff,↓reduceIte,zZ3]<;>rfl) (W_exit ?_)
    simp only [andThen_exit,inBlk_exit,andThen_normal,Nat.reduceEqDiff,↓reduceIte]
    obtain ⟨u,xu,su,shu⟩:=shift_base sh4 xB wB fun g=>g.elim (fun g=>by have:=hDB _ g;omega) fun g=>by omega
    refine hrest _ _ u _ y (zs++A) xu su (shu.ro (RO.dr _ _)) (fun y=>?_) (fun y g=>hFF y 1 ⟨rfl,g⟩) (by rw [hEL,hF.e];exact ⟨hmin,by rw [show endL firstSel 0 (.nd ys [])=ys from rfl,hys];rfl⟩) ((Ext.dr noF _ _).row rB fun _ _ g=>g) (by rw [hxs,hys];simp) ?_ ?_
    ·rw [hD y];rfl
    ·simp only [upd_eq,Nat.reduceEqDiff,↓reduceIte];exact e0
    ·simp only [upd_eq,Nat.reduceEqDiff,↓reduceIte];exact e6
   have t1:((ys.length:Int) == ((d-1:Nat):Int))=false:=by simp;omega
   refine W_sq fun K hK=>(W_draw (some none) none [(0,0,0),(0,1,0),(0,2,0),(0,3,0),(0,4,0),(0,5,0),(0,6,0),(0,7,0),(0,8,0),(0,9,0)] mixed (by kernel_rfl) ?_);simp only [↓zZ1,↓reduceIte,Nat.reduceEqDiff,rg,ow_141,e0,e5,ptr_eq,o5.h2,hmn,t1]
   apply hK;clear hK K
   refine W_false (by simp only [zZ2,Nat.reduceEqDiff,↓reduceIte,zZ3]<;>rfl) (W_skip ?_)
   show W _ _ _ _ _ _
   have D5:Ext noF w5 (dr w5 (w5.drawn+1)):=Ext.dr _ _ _
   have rB:=D5.row rB fun _ _ g=>g
   have xB:=xB.tr (D5.mono fun _ _ _ g=>g.elim)
   have o5:=o5.ext D5 fun _ _ _ g=>g
   have hM5:=hM5.ext D5 fun _ _ _ g=>g
   have hmn5:=hM5.mn
   generalize dr w5 (w5.drawn+1)=w5 at *
   have z5:=zIt_at hM5
   have hml5:∀ o,¬ ownF E b' bi oi cap m o:=fun o g=>hM.off o (hsub _ _ (hoF _ _ g))
   have hcap:=ho.le
   obtain ⟨o1,g1',g2',v2,-⟩:=o5.se.from E_sz 1 (by omega:1<=ys.length)
   have hp1:slcX (some 2) (.slice (some ⟨bi,oi,none⟩) ys.length cap) (some (.int .i64 1)) none none=some (.slice (some ⟨bi,o1,none⟩) (ys.length-1) (cap-1)):=(slcX_lo 2 bi oi ys.length cap 1 .i64 hpos).trans (by rw [g1'])
   refine W_sq fun K hK=>(W_draw (some none) (some 10) [(0,0,0),(0,1,0),(0,2,0),(0,3,0),(0,4,0),(0,5,0),(0,6,0),(0,7,0),(0,8,0),(0,9,0),(1,10,0)] mixed (by kernel_rfl) ?_);simp only [↓zZ1,↓reduceIte,Nat.reduceEqDiff,rg,ow_141,e5,ptr_eq,o5.h2,hp1]
   refine do_copy (by simp only [zZ2,Nat.reduceEqDiff,↓reduceIte,zZ3]<;>rfl) (by simp only [zZ2,Nat.reduceEqDiff,↓reduceIte,zZ3]<;>rfl) rb_eli (SlV.ext0 v2 (Ext.dr noF w5 (w5.drawn+1))) ((Ext.dr noF w5 (w5.drawn+1)).wok (o5.wi.mono (by rw [E_sz];omega))) (flat_oc E _) fun w6 x6 r6 s6=>⟨(by first | exact trivial | exact .inl trivial),?_⟩
   simp only [↓zZ1,↓reduceIte,Nat.reduceEqDiff,rg,ow_141]
   apply hK;clear hK K
   have hmn:min (ys.length-1) ys.length=ys.length-1-0:=by omega
   rw [hmn] at x6 r6
   rw [List.take_of_length_le (by rw [flat_length,List.length_drop,E_sz];omega)] at r6
   obtain ⟨z,g1,g2⟩:=o5.se.down (i:=0) hpos (by simp only [E_sz,Nat.mul_one,Nat.zero_mul,Nat.add_zero];(try simp only [Nat.mul_one] at x6);exact x6.od) (by simp only [E_sz,Nat.mul_one,Nat.zero_mul,Nat.add_zero];(try simp only [Nat.mul_one] at r6);exact r6)
   have he0:ys.eraseIdx 0=zs:=by rw [hys];rfl
   rw [he0] at g1
   have o6:=o5.step g1 g2
   have X6:Ext (ownF E b' bi oi cap) w5 w6:=g2.mono fun _ _ _ g=>seF_own g
   have hA:(zs++[z]).length=ys.length:=by rw [List.length_append,List.length_singleton];omega
   have h26:=o6.h2
   have h46:=o6.le
   rw [hA] at h26 h46
   have z6:=zIt_at (hM5.ext X6 fun o _ _=>hml5 o)
   refine W_sq fun K hK=>(W_draw (some none) (some 15) [(0,0,0),(0,1,0),(0,2,0),(0,3,0),(0,4,0),(0,5,0),(0,6,0),(0,7,0),(0,8,0),(0,9,0),(0,10,0),(0,11,0),(0,12,0),(0,13,0),(0,14,0),(1,15,0)] mixed (by kernel_rfl) ?_);simp only [↓zZ1,↓reduceIte,Nat.reduceEqDiff,rg,ow_141,e0,e5,ptr_eq,h26,q2,i3,z6]
   refine do_store (by simp only [zZ2,Nat.reduceEqDiff,↓reduceIte,zZ3]<;>rfl) (by simp only [zZ2,Nat.reduceEqDiff,↓reduceIte,zZ3]<;>rfl) sz_33 (rb_len zIt) o6.wi (by rw [E_sz];omega) (rb_oc zIt) fun w7 x7 r7 s7=>⟨(by first | exact trivial | exact .inl trivial),?_⟩
   simp only [↓zZ1,↓reduceIte,Nat.reduceEqDiff,rg,ow_141]
   apply hK;clear hK K
   obtain ⟨g3,g4⟩:=o6.se.set (i:=ys.length-1) (x:=zIt) (by rw [hA];omega) (by simp only [E_sz,Nat.mul_one];exact x7.od) (by simp only [E_sz,Nat.mul_one];exact r7)
   rw [show (zs++[z]).set (ys.length-1) zIt=zs++[zIt] by rw [show ys.length-1=zs.length by omega];exact set_last] at g3
   have o7:=o6.step g3 g4
   have X7:Ext (ownF E b' bi oi cap) w5 w7:=X6.tr (g4.mono fun _ _ _ g=>seF_own g)
   have hA':(zs++[zIt]).length=ys.length:=by rw [List.length_append,List.length_singleton];omega
   have h27:=o7.h2
   rw [hA'] at h27
   have i4:ys.length-1<=cap:=by omega
   refine W_sq fun K hK=>(W_draw (some none) (some 14) [(0,0,0),(0,1,0),(0,2,0),(0,3,0),(0,4,0),(0,5,0),(0,6,0),(0,7,0),(0,8,0),(0,9,0),(0,10,0),(0,11,0),(0,12,0),(0,13,0),(1,14,0)] mixed (by kernel_rfl) ?_);simp only [↓zZ1,↓reduceIte,Nat.reduceEqDiff,rg,ow_141,e5,ptr_eq,h27,q2,i4]
   refine do_store (by simp only [zZ2,Nat.reduceEqDiff,↓reduceIte,zZ3]<;>rfl) (by simp only [zZ2,Nat.reduceEqDiff,↓reduceIte,zZ3]<;>rfl) sz_25 rfl o7.wb (by decide) (oc_one rfl rfl) fun w8 x8 r8 s8=>⟨(by first | exact trivial | exact .inl trivial),?_⟩
   simp only [↓zZ1,↓reduceIte,Nat.reduceEqDiff,rg,ow_141]
   apply hK;clear hK K
   obtain ⟨g5,g6⟩:=o7.se.cut x8.od (by rw [show zs.length=ys.length-1 by omega];exact (Row.cons.1 r8).1)
   have o8:=o7.step g5 g6
   have X8:Ext (ownF E b' bi oi cap) w5 w8:=X7.tr (g6.mono fun _ _ _ g=>seF_own g)
   have ho8:∀ o,¬ ownF E b' bi oi cap B o:=fun o g=>hnb _ _ (hoF _ _ g) rfl
   have rB8:Row w8 B 0 (E.cel y):=X8.row rB fun j _ g=>ho8 _ g
   have Xw:Ext (fun y o=>Fb y o\/y=B) w' w8:=((x4.mono fun y o _ g=>.inl (by simp only [rng] at g;rw [g.1];exact htb.self o)).tr (xB.mono fun y o _ g=>.inr g)).tr (X8.mono fun y o _ g=>.inl (hoF y o g))
   obtain ⟨u,xu1,su,xu2⟩:=ext_cutR Xw (sh.ext.wok wB)
   have xu3:=ext_symm xu2 su.symm
   have ou:=o8.ext xu3 fun y o g=>hnb y o (hoF y o g)
   have hz:((ys.length:Int) + -1)=(zs.length:Int):=by omega
   rw [hz] at ou
   have htr:∀ lo,lo<=zs.length->Tr E iso (d-1) (2*d-1) 0 u lo b' zs ⟨ownF E b' bi oi cap,.nd zs []⟩:=fun lo h=>⟨bi,oi,cap,ou,h,by omega,⟨fun _ _=>Iff.rfl,rfl⟩⟩
   have XW:Ext (fun y o=>F y o\/y=B) w3 w8:=(sh.ext.mono fun y o _ g=>.inl (hDD y g.2 o)).tr (Xw.mono fun y o _ g=>g.imp (hsub y o) id)
   have hmW:∀ o,¬ (F m o\/m=B):=fun o g=>g.elim (hM.off o) fun g=>by omega
   have ct8:=XW.rd hM.cnt (hmW 3)
   have q3:=wsub1 xs.length (by omega) (by omega)
   have cf8:=hM.cfg.ext XW fun o _ _=>hmW o
   refine W_sq fun K hK=>(W_text [true,true,true,true,true,true,true,false] (by kernel_rfl) ?_);simp only [↓zZ1,↓reduceIte,Nat.reduceEqDiff,rg,ow_141,e0,ptr_eq,ct8,q3]
   refine do_store (by simp only [zZ2,Nat.reduceEqDiff,↓reduceIte,zZ3]<;>rfl) (by simp only [zZ2,Nat.reduceEqDiff,↓reduceIte,zZ3]<;>rfl) sz_3 rfl cf8.wok (by decide) (oc_one rfl rfl) fun w9 x9 r9 s9=>⟨trivial,?_⟩
   simp only [↓zZ1,↓reduceIte,Nat.reduceEqDiff,rg,ow_141]
   apply hK;clear hK K
   have hmB:¬ B=m:=by omega
   have cf9:=cf8.ext x9 fun o h2 h3 g=>by simp only [rng] at g;omega
   have ct9:rd w9 m 3=some (.int .i64 (xs.length-1:Nat)):=(Row.cons.1 r9).1
   have rB9:Row w9 B 0 (E.cel y):=x9.row rB8 fun j _ g=>hmB g.1
   have vk:=iX_at rB9
   have hpl:popS firstSel false 0 Fb.s = .nd zs []:=by rw [hF.e];show Sh.nd (ys.tail) []=_;rw [hys];rfl
   have hnm:¬ (endL firstSel h F.s).length=d-1:=by rw [hEL,hF.e];exact hmin
   have X39:Ext (fun y o=>mapF m F y o\/y=B) w3 w9:=(XW.mono fun y o _ g=>g.imp .inl id).tr (x9.mono fun y o _ g=>.inl (.inr (by simp only [rng] at g;exact ⟨g.1,by omega⟩)))
   have ha:Asc O (rkI ord) xs.tail:=hM.asc.sublist (List.tail_sublist _)
   have hxe:xs=y::(zs++A):=by rw [hxs,hys];simp
   have hxr:xs.tail=zs++A:=by rw [hxe];rfl
   have hxo:xs.head? = some y:=by rw [hxe];rfl
   have hxl:(xs.tail).length=xs.length-1:=by simp
   have hlen:=congrArg List.length hxs
   rw [List.length_append] at hlen
   refine W_seq ?_
   by_cases hc1:xs.length=1
   ·have t2:(((xs.length-1:Nat):Int) == 0)=true:=by rw [hc1];rfl
    refine W_sq fun K hK=>(W_text [true,true,true,true,true] (by kernel_rfl) ?_);simp only [↓zZ1,↓reduceIte,Nat.reduceEqDiff,rg,ow_141,e0,ptr_eq,ct9,t2]
    apply hK;clear hK K
    refine W_true (by simp only [zZ2,Nat.reduceEqDiff,↓reduceIte,zZ3]<;>rfl) ?_
    refine W_rg fun K hK=>(W_text [true,true,true,false] (by kernel_rfl) ?_);simp only [↓zZ1,↓reduceIte,Nat.reduceEqDiff,rg,ow_141,e0,ptr_eq]
    refine do_store (by simp only [zZ2,Nat.reduceEqDiff,↓reduceIte,zZ3]<;>rfl) (by simp only [zZ2,Nat.reduceEqDiff,↓reduceIte,zZ3]<;>rfl) sz_96 rfl cf9.wok (by decide) (oc_one rfl rfl) fun w10 x10 r10 s10=>⟨trivial,?_⟩
    simp only [↓zZ1,↓reduceIte,Nat.reduceEqDiff,rg,ow_141]
    apply hK;clear hK K
    show W _ _ _ _ _ _
    have rB10:Row w10 B 0 (E.cel y):=x10.row rB9 fun j _ g=>hmB g.1
    have vk:=iX_at rB10
    have X310:Ext (fun y o=>mapF m F y o\/y=B) w3 w10:=X39.tr (x10.mono fun y o _ g=>.inl (.inr (by simp only [rng] at g;exact ⟨g.1,by omega⟩)))
    refine W_sq fun K hK=>(W_text [true,false,true] (by kernel_rfl) ?_);simp only [↓zZ1,↓reduceIte,Nat.reduceEqDiff,rg,ow_141,e6,ptr_eq,vk]
    refine do_store (b:=R) (o:=0) (by simp only [zZ2,Nat.reduceEqDiff,↓reduceIte];exact e0.2) (by simp only [zZ2,Nat.reduceEqDiff,↓reduceIte,zZ3]<;>rfl) sz_33 (rb_len y) (X310.wok wR) (by decide) (rb_oc y) fun w11 x11 r11 s11=>⟨trivial,?_⟩
    simp only [↓zZ1,↓reduceIte,Nat.reduceEqDiff,rg,ow_141]
    apply hK;clear hK K
    refine W_ret ?_
    simp only [andThen_ret,inBlk_ret]
    have hnil:xs.tail=[]:=List.eq_nil_of_length_eq_zero (by omega)
    have hh0:h=0:=by have:=Tr.height (by omega) (Nat.le_refl 1) ht;omega
    have hpe:popS firstSel false h F.s = .nd [] []:=by
     subst hh0
     obtain ⟨bi',oi',cap',-,-,-,hF0⟩:=ht
     rw [hF0.e]
     show Sh.nd (xs.tail) []=_
     rw [hnil]
    refine endQ_ct (by simp only [upd_eq,Nat.reduceEqDiff,↓reduceIte];exact e0.2) (by simp only [upd_eq,Nat.reduceEqDiff,↓reduceIte]<;>rfl) ld_33 (iX_at (show Row w11 R 0 (E.cel y) from r11)) ⟨by rw [hxo];rfl,(X3.trans X310 (fun _ _ g=>g.elim) (fun y o hy g=>g.elim id fun g=>by omega)).trans x11 (fun _ _ g=>g) fun y o hy g=>by have:=g.1;omega,⟨noF,.nd [] []⟩,?_,fun _=>⟨h,hHg,.inl ⟨hnm,hpe.symm,fun _=>hh0,fun g=>(g rfl).elim⟩⟩,fun _ _ g=>g.elim⟩
    rw [hnil]
    refine TreeAt.extG ⟨cf9.ext x10 fun o h2 h3 g=>by simp only [rng] at g;omega,hM.less.ext X310 (fun y o g=>.inl (by rcases g with (g | g) | g;have:=hM.above y o g;omega;omega;omega)) (fun g=>by rcases g with (g | g) | g;exact hM.off _ g;omega;omega),?_,List.Pairwise.nil,.inl ⟨rfl,(Row.cons.1 r10).1,rfl⟩,fun _ g=>g,fun _ _ g=>g.elim,fun _ _ g=>g.elim⟩ x11 (fun _ _ g=>g.elim) fun y o g=>by have:=g.1;omega
    rw [hc1] at ct9
    exact x10.rd ct9 (by simp only [rng];omega)
   ·have t2:(((xs.length-1:Nat):Int) == 0)=false:=by simp;omega
    refine W_sq fun K hK=>(W_text [true,true,true,true,true] (by kernel_rfl) ?_);simp only [↓zZ1,↓reduceIte,Nat.reduceEqDiff,rg,ow_141,e0,ptr_eq,ct9,t2]
    apply hK;clear hK K
    refine W_false (by simp only [zZ2,Nat.reduceEqDiff,↓reduceIte,zZ3]<;>rfl) (W_skip ?_)
    show W _ _ _ _ _ _
    refine W_sq fun K hK=>(W_text [true,false,true] (by kernel_rfl) ?_);simp only [↓zZ1,↓reduceIte,Nat.reduceEqDiff,rg,ow_141,e6,ptr_eq,vk]
    refine do_store (b:=R) (o:=0) (by simp only [zZ2,Nat.reduceEqDiff,↓reduceIte];exact e0.2) (by simp only [zZ2,Nat.reduceEqDiff,↓reduceIte,zZ3]<;>rfl) sz_33 (rb_len y) (X39.wok wR) (by decide) (rb_oc y) fun w11 x11 r11 s11=>⟨trivial,?_⟩
    simp only [↓zZ1,↓reduceIte,Nat.reduceEqDiff,rg,ow_141]
    apply hK;clear hK K
    refine W_ret ?_
    simp only [andThen_ret,inBlk_ret]
    have hzlo:lo<=zs.length:=by
     rcases hlo with h | ⟨h,hA⟩
     ·omega
     ·rw [hA] at hlen;simp at hlen;omega
    obtain ⟨F2,hT2,hS2,hF2⟩:=hole u zs _ xu1 (htr lo hzlo) (fun y o g=>.inl (hoF y o g)) (by omega)
    have hF2B:∀ y o,F2 y o->¬ blkF B y o:=fun y o g (k:y=B)=>by
     rcases hF2 y o g with g | g
     ·have:=hFlt y o g;omega
     ·omega
    have hF2m:∀ o,¬ F2 m o:=fun o g=>by
     rcases hF2 m o g with g | g
     ·exact hM.off o g
     ·omega
    have hF2R:∀ y o,F2 y o->y ≠ R:=fun y o g k=>by
     rcases hF2 y o g with g | g
     ·have:=hFR y o g;omega
     ·omega
    refine endQ_ct (by simp only [upd_eq,Nat.reduceEqDiff,↓reduceIte];exact e0.2) (by simp only [upd_eq,Nat.reduceEqDiff,↓reduceIte]<;>rfl) ld_33 (iX_at (show Row w11 R 0 (E.cel y) from r11)) ⟨by rw [hxo];rfl,(X3.trans X39 (fun _ _ g=>g.elim) (fun y o hy g=>g.elim id fun g=>by omega)).trans x11 (fun _ _ g=>g) fun y o hy g=>by have:=g.1;omega,F2,?_,fun _=>⟨h,hHg,.inl ⟨hnm,by rw [hS2,hPS,hpl],fun g=>(hT2.kl1 (Nat.le_refl _) g).elim,fun _=>hT2.hg⟩⟩,fun y o g=>(hF2 y o g).imp id fun g=>by omega⟩
    refine TreeAt.extG ⟨cf9,hM.less.ext X39 (fun y o g=>.inl (by rcases g with (g | g) | g;have:=hM.above y o g;omega;omega;omega)) (fun g=>by rcases g with (g | g) | g;exact hM.off _ g;omega;omega),by rw [hxl];exact ct9,ha,.inr ⟨h,b,?_,?_⟩,hF2m,?_,fun y o g=>(hF2 y o g).elim (fun g=>hM.above y o g) fun g=>by omega⟩ x11 (fun y o g k=>hF2R y o g k.1) fun y o g=>by have:=g.1;omega
    ·rw [hroot] at hr
     exact x9.rd (XW.rd hr (hmW 2)) (by simp only [rng];omega)
    ·rw [hxr]
     have:=(hT2.ext xu2 hF2B).ext x9 fun y o g k=>by simp only [rng] at k;rw [k.1] at g;exact hF2m _ g
     simpa using this
    ·intro y o g;rw [s9];exact (hT2.ext xu2 hF2B).lt y o g
  ·have hcl:firstSel cs.length<cs.length:=firstSel_lt _ (by have:=n.len;omega)
   obtain ⟨c,hc⟩:∃ c,cs[firstSel cs.length]? = some c:=⟨_,List.getElem?_eq_getElem hcl⟩
   have hcm:c ∈ cs:=List.mem_of_getElem? hc
   have htc:=n.sub c hcm
   have hcF:∀ y o,c.F y o->Fb y o:=fun y o g=>(n.fp y o).2 (.inr (.inr ⟨c,hcm,g⟩))
   have b3:=o4.h3
   refine W_sq fun K hK=>(W_text [true,false] (by kernel_rfl) ?_);simp only [↓zZ1,↓reduceIte,Nat.reduceEqDiff,rg,ow_141,e5]
   refine do_call fn_108 (by simp only [zZ2,Nat.reduceEqDiff,↓reduceIte,zZ4]<;>rfl) (leaf_any b' (some ⟨bc,0,none⟩) w4 b3) ?_
   rintro _ w4 ⟨rfl,rfl⟩
   refine ⟨trivial,?_⟩
   simp only [↓zZ1,↓reduceIte,Nat.reduceEqDiff,rg,ow_141]
   apply hK;clear hK K
   refine W_false (by simp only [zZ2,Nat.reduceEqDiff,↓reduceIte,zZ3]<;>rfl) (W_skip ?_)
   show W _ _ _ _ _ _
   have n4:=n.ext sh4.ext (fun y o g hh=>by
    rcases hh.2 with hh | hh
    ·exact hDF y hh o ((n.fp y o).2 (.inr (.inl g)))
    ·subst hh
     rcases g with g | g
     ·exact n.ap.cb g.symm
     ·exact n.ap.ab g.1.symm) fun d' hd y o g hh=>by
    rcases hh.2 with hh | hh
    ·exact hDF y hh o ((n.fp y o).2 (.inr (.inr ⟨d',hd,g⟩)))
    ·exact n.ap.own d' hd y o g (.inl hh)
   have hc0:=n4.kids.c0
   rw [List.length_map] at hc0
   have hcr:rd w4 ba oa=some (ptr c.b):=ptr_at (i:=0) n4.kids.row (by rw [List.getElem?_map];exact congrArg _ hc)
   have hlc:=ix0 1 ba oa cs.length (by omega)
   refine W_rg fun K hK=>(W_text [true,true,true,true,true,true,true,true,false,true] (by kernel_rfl) ?_);simp only [↓zZ1,↓reduceIte,Nat.reduceEqDiff,rg,ow_141,e0,e5,ptr_eq,b3,hc0,hlc]
   refine do_call fn_96 (by simp only [zZ2,Nat.reduceEqDiff,↓reduceIte,zZ4]<;>rfl) (isoLoad_any m ba oa c.b true iso _ hM4.iso hcr (n4.sub c hcm).iso0.1) ?_
   rintro _ w5 ⟨rfl,r5⟩
   refine ⟨trivial,?_⟩
   simp only [↓zZ1,↓reduceIte,Nat.reduceEqDiff,rg,ow_141]
   apply hK;clear hK K
   have R5:RO w4 w5:=r5
   obtain ⟨A',C',hw⟩:=weave_at (firstSel cs.length) (cs.map Kid.xs) ks (by simpa using n.len) (by have:=n.len;simp only [firstSel];omega)
   have hA':A'=[]:=by
    rcases hw.left with ⟨hA,_⟩ | ⟨_,k,hk,_⟩
    ·exact hA
    ·simp only [firstSel] at hk;omega
   subst hA'
   have hxe:ys=c.xs++C':=by rw [n.eq,hw.eq (c:=c.xs) (by rw [List.getElem?_map,hc];rfl),List.nil_append]
   have n':=n.ext sh.ext (fun y o g hh=>hDF y hh.2 o ((n.fp y o).2 (.inr (.inl g)))) fun d' hd y o g hh=>hDF y hh.2 o ((n.fp y o).2 (.inr (.inr ⟨d',hd,g⟩)))
   have hole4:=(hole.down n' ho' h1 h2 x4 b1 hc hw).ro R5
   have hcs:(cs.map fun c=>c.F.s)[firstSel (cs.map fun c=>c.F.s).length]? = some c.F.s:=by rw [List.length_map,List.getElem?_map,hc];rfl
   have hPS':popS firstSel false h F.s=P (.nd ks ((cs.map fun c=>c.F.s).set (firstSel cs.length) (popS firstSel false h' c.F.s))):=by
    rw [hPS,n.fp.e];simp only [popS,hcs];rw [List.length_map]
   have hEL':endL firstSel h F.s=endL firstSel h' c.F.s:=by
    rw [hEL,n.fp.e];simp only [endL,hcs]
   refine ⟨h',by omega,d-1,c.b,c.xs,c.F,C'++A,_,_,⟨hPS',hEL'⟩,htc,.inl rfl,sh4.ro R5,fun y=>?_,fun y g o hh=>?_,fun y g=>?_,by rw [hxs,hxe,List.append_assoc],hole4,fun y o g=>hsub y o (hcF y o g),?_,?_,?_⟩
   ·rw [hD y,n.rs ho.h3 hc y,or_assoc]
   ·rcases g with g | g
    ·exact hDF y g o (hcF y o hh)
    ·exact n.ap.own c hcm y o hh (.inl g)
   ·exact hFF y 1 ⟨rfl,g⟩
   ·simp only [upd_eq,Nat.reduceEqDiff,↓reduceIte];exact e0
   ·simp only [upd_eq,Nat.reduceEqDiff,↓reduceIte];exact e6
   ·simp only [upd_eq,Nat.reduceEqDiff,↓reduceIte]
def nth (l:List It) (i:Int):Option It:=if 0<=i then l[i.toNat]? else none
def foO (x:Option It):It × Bool:=(x.getD (0,0),x.isSome)
def foP (x:It) (ok:Bool):It × Bool:=if ok=true then (x,true) else ((0,0),false)
theorem oc_fo (x:It × Bool):oc (foV x).cells.toList:=Ef.one x
theorem bu_fo1 (x:It):buildV Try.prog 35 [(0,iV x),(1,.bool true)]=some (foV (x,true)):=by kernel_rfl
theorem bu_fo0:buildV Try.prog 35 []=some (foV ((0,0),false)):=by kernel_rfl
theorem z_fo:zK Try.prog 35=some [.int .i64 0,.int .i64 0,.bool false]:=by kernel_rfl
theorem ld_fo {w:World} {b:Nat} {x:It × Bool} (h:Row w b 0 (Ef.cel x)):loadV w ⟨b,0,none⟩ (some 3)=some (foV x):=h.rdA 3 (by simp [Ef])
set_option maxHeartbeats 400000 in
set_option maxRecDepth 8000 in
theorem found_any (x:It) (ok:Bool) (w:World):CallK Try.prog 44 #[iV x,.bool ok] w fun v w'=>v=foV (foP x ok)/\Ext noF w w':=by
 refine calls_of_W [.cell 4 35] Try.func44 rfl Try.ntmps44 Try.results44 (by simp) fun e he=>?_
 have e0:e 0=iV x:=he 0 _ rfl
 have e1:e 1 = .bool ok:=he 1 _ rfl
 clear he
 refine W_sq fun K hK=>(W_text [false,false] (by kernel_rfl) ?_);simp only [↓zZ1,↓reduceIte,Nat.reduceEqDiff,rg,ow_44]
 refine do_box (by simp only [evt];exact e0) fun w1 n1=>⟨trivial,?_⟩
 simp only [↓zZ1,↓reduceIte,Nat.reduceEqDiff,rg,ow_44]
 refine do_alloc z_fo fun w2 n2=>⟨trivial,?_⟩
 simp only [↓zZ1,↓reduceIte,Nat.reduceEqDiff,rg,ow_44]
 apply hK;clear hK K
 have s1:=n1.size
 have s2:=n2.size
 have bx:rdA w2 w.heap.size 0 2=some (iV x):=(n2.ext.row n1.row fun _ _ h=>h).rdA 2 (by show 2<=2;omega)
 refine W_seq ?_
 refine W_sq fun K hK=>(W_text [true,true] (by kernel_rfl) ?_);simp only [↓zZ1,↓reduceIte,Nat.reduceEqDiff,rg,ow_44,e1]
 apply hK;clear hK K
 cases ok with
 | false =>
  refine W_true (by simp only [zZ2,Nat.reduceEqDiff,↓reduceIte,zZ3]<;>rfl) ?_
  refine W_sq fun K hK=>(W_text [true,false] (by kernel_rfl) ?_);simp only [↓zZ1,↓reduceIte,Nat.reduceEqDiff,rg,ow_44,bu_fo0]
  refine do_store (v:=foV ((0,0),false)) (by simp only [zZ2,Nat.reduceEqDiff,↓reduceIte,zZ3]<;>rfl) (by simp only [zZ2,Nat.reduceEqDiff,↓reduceIte,zZ3]<;>rfl) sz_35 rfl n2.wok (by decide) (oc_fo _) fun w3 x3 r3 s3=>⟨trivial,?_⟩
  simp only [↓zZ1,↓reduceIte,Nat.reduceEqDiff,rg,ow_44]
  apply hK;clear hK K
  refine W_ret ?_
  simp only [andThen_ret]
  exact endQ_c rfl ld_35 (ld_fo r3) ⟨rfl,noF_of (n1.ext.tr n2.ext) x3 fun y o hy h=>by simp only [rng] at h;omega⟩
 | true =>
  refine W_false (by simp only [zZ2,Nat.reduceEqDiff,↓reduceIte,zZ3]<;>rfl) (W_skip ?_)
  show W _ _ _ _ _ _
  refine W_sq fun K hK=>(W_text [true,true,false] (by kernel_rfl) ?_);simp only [↓zZ1,↓reduceIte,Nat.reduceEqDiff,rg,ow_44,bx,bu_fo1]
  refine do_store (v:=foV (x,true)) (by simp only [zZ2,Nat.reduceEqDiff,↓reduceIte,zZ3]<;>rfl) (by simp only [zZ2,Nat.reduceEqDiff,↓reduceIte,zZ3]<;>rfl) sz_35 rfl n2.wok (by decide) (oc_fo _) fun w3 x3 r3 s3=>⟨trivial,?_⟩
  simp only [↓zZ1,↓reduceIte,Nat.reduceEqDiff,rg,ow_44]
  apply hK;clear hK K
  refine W_ret ?_
  exact endQ_c rfl ld_35 (ld_fo r3) ⟨rfl,noF_of (n1.ext.tr n2.ext) x3 fun y o hy h=>by simp only [rng] at h;omega⟩
def cutL (l:List It) (i:Int):List It:=if 0<=i then l.eraseIdx i.toNat else l
set_option maxHeartbeats 1000000 in
set_option maxRecDepth 8000 in
theorem nodeItems_any (m B:Nat) (iso:Int) (mn mx:Nat) (hmB:m<B) (mu:Bool) :
  ∀ (h b lo pc po:Nat) (xs:List It) (F:FS It) (iv:Value) (K:List It) (w:World),Tr E iso mn mx h w lo b xs F->rd w m 0=some (.int .u64 iso)->rd w pc po=some (ptr b)->(∀ y o,F y o->y<B) →
   OutE E B iv K w->K.length+xs.length<=4294967295->B<=w.heap.size->pc<B →
  CallK Try.prog 118 #[ptr m,.pointer (some ⟨pc,po,none⟩),iv,.bool mu] w fun v w'=>OutE E B v (K++xs) w'/\Ext (fun y _=>B<=y) w w':=by
 intro h
 induction h with
 | zero =>
  intro b lo pc po xs F iv K w ht h0 hp hG hS hb1 hB hpc
  obtain ⟨bi,oi,cap,ho,h1,h2,hF⟩:=ht
  have hGo:∀ y o,ownF E b bi oi cap y o->y<B:=fun y o g=>hG y o ((hF y o).2 g)
  obtain ⟨ia,ic,hiv⟩:=hS.sl.shape
  refine calls_of_W [.tmp 8] Try.func118 rfl Try.ntmps118 Try.results118 (by simp) fun e he=>?_
  have e0:e 0=ptr m:=he 0 _ rfl
  have e1:e 1 = .pointer (some ⟨pc,po,none⟩):=he 1 _ rfl
  have e2:e 2=iv:=he 2 _ rfl
  have e3:e 3 = .bool mu:=he 3 _ rfl
  clear he
  refine W_sq fun K hK=>(W_text [true] (by kernel_rfl) ?_);simp only [↓zZ1,↓reduceIte,Nat.reduceEqDiff,rg,ow_118]
  apply hK;clear hK K
  refine W_sq fun K hK=>(W_text [true,true,true,false,true] (by kernel_rfl) ?_);simp only [↓zZ1,↓reduceIte,Nat.reduceEqDiff,rg,ow_118,e0,e1,e3]
  refine do_call fn_96 (by simp only [zZ2,Nat.reduceEqDiff,↓reduceIte,zZ4]<;>rfl) (isoLoad_any m pc po b mu iso w h0 hp ho.h0) ?_
  rintro _ w1 ⟨rfl,r1⟩
  refine ⟨trivial,?_⟩
  simp only [↓zZ1,↓reduceIte,Nat.reduceEqDiff,rg,ow_118]
  apply hK;clear hK K
  have x1:Ext noF w w1:=r1.ext
  have o1:=ho.ext x1 fun _ _ _ h=>h
  have S1:=hS.ext x1
  have s1:=x1.size
  refine W_seq ?_
  refine W_sq fun K hK=>(W_text [true,false] (by kernel_rfl) ?_);simp only [↓zZ1,↓reduceIte,Nat.reduceEqDiff,rg,ow_118]
  refine do_call fn_108 (by simp only [zZ2,Nat.reduceEqDiff,↓reduceIte,zZ4]<;>rfl) (leaf_any b none w1 o1.h3) ?_
  rintro _ w1' ⟨rfl,hw1⟩
  obtain rfl:w1=w1':=hw1.symm
  refine ⟨trivial,?_⟩
  simp only [↓zZ1,↓reduceIte,Nat.reduceEqDiff,rg,ow_118]
  apply hK;clear hK K
  refine W_true (by simp only [zZ2,Nat.reduceEqDiff,↓reduceIte,zZ3]<;>rfl) ?_
  have hb2:=o1.h2
  refine W_sq fun K hK=>(W_text [true,true,true,true,true,false,true] (by kernel_rfl) ?_);simp only [↓zZ1,↓reduceIte,Nat.reduceEqDiff,rg,ow_118,e2,ptr_eq,hb2]
  have hsl:SlV w1 2 (.slice (some ⟨bi,oi,none⟩) xs.length cap) xs.length (flat E xs):=⟨by rw [flat_length];rfl,.inr ⟨bi,oi,cap,rfl,ho.le,o1.row,o1.wi.R (Nat.le_refl _)⟩⟩
  refine do_append (by simp only [zZ2,Nat.reduceEqDiff,↓reduceIte,zZ3]<;>rfl) (by simp only [zZ2,Nat.reduceEqDiff,↓reduceIte,zZ3]<;>rfl) el_it rfl ni_25 S1.sl hsl (by omega) (by decide) (flat_oc E _) fun v2 w2 a2=>⟨trivial,?_⟩
  simp only [↓zZ1,↓reduceIte,Nat.reduceEqDiff,rg,ow_118]
  apply hK;clear hK K
  obtain ⟨q1,q2,q3⟩:=app_since a2 S1.si (by omega)
  refine W_ret ?_
  simp only [andThen_ret]
  refine endQ_1 (by simp only [upd_eq,Nat.reduceEqDiff,↓reduceIte]<;>rfl) ⟨⟨?_,q2⟩,(x1.mono fun _ _ _ h=>h.elim).tr q3⟩
  rw [List.length_append,flat_append]
  exact q1
 | succ h ih =>
  intro b lo pc po xs F iv K w ht h0 hp hG hS hb1 hB hpc
  obtain ⟨bi,oi,cap,bc,ba,oa,capc,ks,cs,ho,hk,h1,h2,hcs,rfl,hT,hA,hF⟩:=ht
  have hGo:∀ y o,ownF E b bi oi cap y o->y<B:=fun y o g=>hG y o ((hF y o).2 (.inl g))
  have hGk:∀ y o,kidF bc ba oa capc y o->y<B:=fun y o g=>hG y o ((hF y o).2 (.inr (.inl g)))
  have hGc:∀ c ∈ cs,∀ y o,c.F y o->y<B:=fun c hc y o g=>hG y o ((hF y o).2 (.inr (.inr ⟨c,hc,g⟩)))
  have hbaB:cs ≠ []->ba<B:=fun hne=>hGk ba oa (.inr ⟨rfl,Nat.le_refl _,by have:=hk.le;rw [List.length_map] at this;have:=List.length_pos_iff.2 hne;omega⟩)
  have hwl:=weave_length (cs.map Kid.xs) ks (by simpa using hcs)
  refine calls_of_W [.tmp 8] Try.func118 rfl Try.ntmps118 Try.results118 (by simp) fun e he=>?_
  have e0:e 0=ptr m:=he 0 _ rfl
  have e1:e 1 = .pointer (some ⟨pc,po,none⟩):=he 1 _ rfl
  have e2:e 2=iv:=he 2 _ rfl
  have e3:e 3 = .bool mu:=he 3 _ rfl
  clear he
  refine W_sq fun K hK=>(W_text [true] (by kernel_rfl) ?_);simp only [↓zZ1,↓reduceIte,Nat.reduceEqDiff,rg,ow_118]
  apply hK;clear hK K
  refine W_sq fun K hK=>(W_text [true,true,true,false,true] (by kernel_rfl) ?_);simp only [↓zZ1,↓reduceIte,Nat.reduceEqDiff,rg,ow_118,e0,e1,e3]
  refine do_call fn_96 (by simp only [zZ2,Nat.reduceEqDiff,↓reduceIte,zZ4]<;>rfl) (isoLoad_any m pc po b mu iso w h0 hp ho.h0) ?_
  rintro _ w1 ⟨rfl,r1⟩
  refine ⟨trivial,?_⟩
  simp only [↓zZ1,↓reduceIte,Nat.reduceEqDiff,rg,ow_118]
  apply hK;clear hK K
  have x1:Ext noF w w1:=r1.ext
  have o1:=ho.ext x1 fun _ _ _ h=>h
  have S1:=hS.ext x1
  refine W_seq ?_
  refine W_sq fun K hK=>(W_text [true,false] (by kernel_rfl) ?_);simp only [↓zZ1,↓reduceIte,Nat.reduceEqDiff,rg,ow_118]
  refine do_call fn_108 (by simp only [zZ2,Nat.reduceEqDiff,↓reduceIte,zZ4]<;>rfl) (leaf_any b (some ⟨bc,0,none⟩) w1 o1.h3) ?_
  rintro _ w1' ⟨rfl,hw1⟩
  obtain rfl:w1=w1':=hw1.symm
  refine ⟨trivial,?_⟩
  simp only [↓zZ1,↓reduceIte,Nat.reduceEqDiff,rg,ow_118]
  apply hK;clear hK K
  refine W_false (by simp only [zZ2,Nat.reduceEqDiff,↓reduceIte,zZ3]<;>rfl) (W_skip ?_)
  show W _ _ _ _ _ _
  refine W_seq (W_seq ?_)
  refine W_rg fun K hK=>(W_text [true] (by kernel_rfl) ?_);simp only [↓zZ1,↓reduceIte,Nat.reduceEqDiff,rg,ow_118]
  apply hK;clear hK K
  refine W_block (W_loop (fun mm e w'=>∃ (i:Nat) (K':List It),mm=ks.length-i/\i<=ks.length/\K++weave (cs.map Kid.xs) ks=K'++weave ((cs.map Kid.xs).drop i) (ks.drop i) ∧
    OutE E B (e 2) K' w'/\Ext (fun y _=>B<=y) w w'/\e 0=ptr m/\e 3 = .bool mu/\e 9=ptr b/\e 10 = .int .i64 i)
   ks.length ⟨0,K,by simp,by simp,by simp,?_,x1.mono fun _ _ _ h=>h.elim,?_,?_,?_,?_⟩ ?_)
  ·simp only [upd_eq,Nat.reduceEqDiff,↓reduceIte];rw [e2];exact S1
  ·simp only [upd_eq,Nat.reduceEqDiff,↓reduceIte];exact e0
  ·simp only [upd_eq,Nat.reduceEqDiff,↓reduceIte];exact e3
  ·simp only [upd_eq,Nat.reduceEqDiff,↓reduceIte]
  ·simp only [upd_eq,Nat.reduceEqDiff,↓reduceIte];rfl
  ·clear e0 e1 e2 e3 e S1 o1
   rintro mm e w' ⟨i,K',rfl,hi,hKe,hkv,X,e0,e3,e9,e10⟩
   have hKl:=congrArg List.length hKe
   simp only [List.length_append] at hKl
   have o':=ho.ext X fun y o g=>by have:=hGo y o g;omega
   have k':=hk.ext X fun y o g=>by have:=hGk y o g;omega
   have hb2:=o'.h2
   have hb3:=o'.h3
   have hc0:=k'.c0
   have sX:=X.size
   have h0':=X.rd h0 (by omega)
   have hci:∀ i,i<cs.length->∃ c,cs[i]? = some c/\rd w' ba (oa+i)=some (ptr c.b):=fun i hi=>by
    refine ⟨cs[i],List.getElem?_eq_getElem hi,k'.row i _ ?_⟩
    rw [List.getElem?_map,List.getElem?_map,List.getElem?_eq_getElem hi];rfl
   rw [List.length_map] at hc0
   have hba:=hbaB (by intro h;rw [h] at hcs;simp at hcs)
   refine W_seq ?_
   by_cases hlt:i<ks.length
   ·have ht:=lt_tt i ks.length hlt
    refine W_sq fun K hK=>(W_text [true,true,true,true,true,true,true] (by kernel_rfl) ?_);simp only [↓zZ1,↓reduceIte,Nat.reduceEqDiff,rg,ow_118,e9,e10,ptr_eq,hb2,ht]
    apply hK;clear hK K
    refine W_true (by simp only [zZ2,Nat.reduceEqDiff,↓reduceIte,zZ3]<;>rfl) (W_skip ?_)
    show W _ _ _ _ _ _
    refine W_seq (W_block ?_)
    obtain ⟨c,hc,hcr⟩:=hci i (by omega)
    have hcm:c ∈ cs:=List.mem_of_getElem? hc
    obtain ⟨x,hx⟩:∃ x,ks[i]? = some x:=⟨_,List.getElem?_eq_getElem hlt⟩
    have hlc:i<cs.length:=by omega
    rw [weave_step (c:=c.xs) (by rw [List.getElem?_map,hc];rfl) hx] at hKe hKl
    simp only [List.length_append,List.length_cons] at hKl
    refine W_sq fun K hK=>(W_text [true,true,true,true,true,true,true,true,true,true,true,false,true] (by kernel_rfl) ?_);simp only [↓zZ1,↓reduceIte,Nat.reduceEqDiff,rg,ow_118,e0,e3,e9,e10,ptr_eq,hb3,hc0,hlc]
    refine do_call fn_118 (by simp only [zZ2,Nat.reduceEqDiff,↓reduceIte,zZ4]<;>rfl) (ih c.b mn ba (oa+i) c.xs c.F (e 2) K' _ ((hT c hcm).ext X fun y o g=>by have:=hGc c hcm y o g;omega) h0' hcr (hGc c hcm) hkv (by omega) (by omega) hba) ?_
    rintro iv2 w2 ⟨H2,X2⟩
    refine ⟨trivial,?_⟩
    simp only [↓zZ1,↓reduceIte,Nat.reduceEqDiff,rg,ow_118]
    apply hK;clear hK K
    have s2:=X2.size
    have o2:=o'.ext X2 fun y o g=>by have:=hGo y o g;omega
    have hb2':=o2.h2
    have hk2:=it_at o2.row hx
    refine W_rg fun K hK=>(W_text [true,true,true,true,true,true,true,true,false,false,true] (by kernel_rfl) ?_);simp only [↓zZ1,↓reduceIte,Nat.reduceEqDiff,rg,ow_118,e9,e10,ptr_eq,hb2',hlt,hk2]
    refine do_bsl rfl (bs_it1 x) fun w3 n3=>⟨trivial,?_⟩
    simp only [↓zZ1,↓reduceIte,Nat.reduceEqDiff,rg,ow_118]
    have H3:=H2.ext n3.ext
    have s3:=n3.size
    have z3:SlV w3 2 (.slice (some ⟨w2.heap.size,0,none⟩) 1 1) 1 (E.cel x):=⟨rfl,.inr ⟨_,0,1,rfl,Nat.le_refl _,n3.row,n3.wok.R (Nat.le_refl _)⟩⟩
    refine do_append (by simp only [zZ2,Nat.reduceEqDiff,↓reduceIte,zZ3]<;>rfl) (by simp only [zZ2,Nat.reduceEqDiff,↓reduceIte,zZ3]<;>rfl) el_it rfl ni_25 H3.sl z3 (by simp;omega) (by decide) (E.one _) fun v4 w4 a4=>⟨trivial,?_⟩
    obtain ⟨H4,X4⟩:=H3.app a4 (by omega)
    simp only [↓zZ1,↓reduceIte,Nat.reduceEqDiff,rg,ow_118]
    apply hK;clear hK K
    have s4:=X4.size
    have X4':Ext (fun y _=>B<=y) w2 w4:=(n3.ext.mono fun _ _ _ h=>h.elim).tr X4
    show W _ _ _ _ _ _
    have q1:=wadd1 i (by omega)
    refine W_rg fun K hK=>(W_text [true,true,true] (by kernel_rfl) ?_);simp only [↓zZ1,↓reduceIte,Nat.reduceEqDiff,rg,ow_118,e10,q1]
    apply hK;clear hK K
    refine ⟨_,?_,i+1,K'++c.xs++[x],rfl,hlt,?_,?_,(X.tr X2).tr X4',?_,?_,?_,?_⟩
    ·omega
    ·rw [hKe];simp
    ·simp only [upd_eq,Nat.reduceEqDiff,↓reduceIte];exact H4
    ·simp only [upd_eq,Nat.reduceEqDiff,↓reduceIte];exact e0
    ·simp only [upd_eq,Nat.reduceEqDiff,↓reduceIte];exact e3
    ·simp only [upd_eq,Nat.reduceEqDiff,↓reduceIte];exact e9
    ·simp only [upd_eq,Nat.reduceEqDiff,↓reduceIte]
   ·obtain rfl:i=ks.length:=by omega
    have ht:=lt_ff ks.length ks.length (by omega)
    refine W_sq fun K hK=>(W_text [true,true,true,true,true,true,true] (by kernel_rfl) ?_);simp only [↓zZ1,↓reduceIte,Nat.reduceEqDiff,rg,ow_118,e9,e10,ptr_eq,hb2,ht]
    apply hK;clear hK K
    refine W_false (by simp only [zZ2,Nat.reduceEqDiff,↓reduceIte,zZ3]<;>rfl) (W_exit ?_)
    simp only [andThen_exit,inBlk_exit,↓reduceIte]
    show W _ _ _ _ _ _
    obtain ⟨c,hc,hcr⟩:=hci ks.length (by omega)
    have hcm:c ∈ cs:=List.mem_of_getElem? hc
    rw [weave_last (c:=c.xs) (by simpa using hcs) (by rw [List.getElem?_map,hc];rfl)] at hKe hKl
    have hlc:cs.length-1<cs.length:=by omega
    have hl1:cs.length-1=ks.length:=by omega
    have q1:=wsub1 cs.length (by omega) (by omega)
    have M1:readsB (some (some [b,bc,ba])) b=true:=by simp [readsB]
    have M2:readsB (some (some [b,bc,ba])) bc=true:=by simp [readsB]
    have M3:readsB (some (some [b,bc,ba])) ba=true:=by simp [readsB]
    refine W_sq fun K hK=>(W_draw (some (some [b,bc,ba])) none [(0,0,0),(0,1,0),(0,2,0),(0,3,0),(0,4,0),(0,5,0),(0,6,0),(0,7,0),(0,8,0),(0,9,0),(0,10,0),(0,11,0),(0,12,0),(0,13,0),(0,14,0),(0,15,0),(0,16,0),(0,17,0),(1,18,0),(0,19,0)] mixed (by kernel_rfl) ?_);simp only [↓zZ1,↓reduceIte,Nat.reduceEqDiff,rg,ow_118,e0,e3,e9,ptr_eq,hb3,hc0,q1,hlc,M1,M2,M3]
    rw [hl1]
    refine do_call fn_118 (by simp only [zZ2,Nat.reduceEqDiff,↓reduceIte,zZ4]<;>rfl) (ih c.b mn ba (oa+ks.length) c.xs c.F (e 2) K' _ ((hT c hcm).ext (X.tr (Ext.dr _ _ _)) fun y o g=>by have:=hGc c hcm y o g;omega) h0' hcr (hGc c hcm) (hkv.ext (Ext.dr _ _ _)) (by omega) (by rw [sz_dr];omega) hba) ?_
    rintro iv2 w2 ⟨H2,X2⟩
    refine ⟨.inr (keeps_on X2 fun y hy=>?_),?_⟩
    ·rw [sz_dr]
     simp only [List.mem_cons,List.not_mem_nil,or_false] at hy
     rcases hy with rfl | rfl | rfl
     ·exact ⟨wok_lt o'.wb,fun o g=>by have:=hGo _ 0 (.inl rfl);omega⟩
     ·exact ⟨wok_lt k'.wc,fun o g=>by have:=hGk _ 0 (.inl rfl);omega⟩
     ·exact ⟨wok_lt k'.wa,fun o g=>by omega⟩
    simp only [↓zZ1,↓reduceIte,Nat.reduceEqDiff,rg,ow_118]
    apply hK;clear hK K
    refine W_ret ?_
    refine endQ_1 (by simp only [upd_eq,Nat.reduceEqDiff,↓reduceIte]<;>rfl) ⟨?_,X.tr X2.od⟩
    rw [hKe]
    exact H2
set_option maxRecDepth 8000 in
theorem len_any (m:Nat) (n:Nat) (w:World) (h:rd w m 3=some (.int .i64 n)):CallK Try.prog 71 #[ptr m] w fun v w'=>v = .int .i64 n/\w=w':=by
 refine calls_of_W [.tmp 2] Try.func71 rfl Try.ntmps71 Try.results71 (by simp) fun e he=>?_
 have e0:e 0=ptr m:=he 0 _ rfl
 clear he
 refine W_sq fun K hK=>(W_text [true] (by kernel_rfl) ?_);simp only [↓zZ1,↓reduceIte,Nat.reduceEqDiff,rg,ow_71]
 apply hK;clear hK K
 refine W_sq fun K hK=>(W_text [true,true,true,true,true] (by kernel_rfl) ?_);simp only [↓zZ1,↓reduceIte,Nat.reduceEqDiff,rg,ow_71,e0,ptr_eq,h]
 apply hK;clear hK K
 exact W_ret (endQ_1 (by simp only [upd_eq,Nat.reduceEqDiff,↓reduceIte]<;>rfl) ⟨rfl,rfl⟩)
set_option maxHeartbeats 400000 in
set_option maxRecDepth 8000 in
theorem items_any (B m d:Nat) (ord:List Int) (iso:Int) (xs:List It) (F:FS It) (mu:Bool) (w:World) (hM:TreeAt B ord w m d iso xs F) (hbig:xs.length<=4294967295) :
  CallK Try.prog 77 #[ptr m,.bool mu] w fun v w'=>OutE E w.heap.size v xs w'/\Ext noF w w':=by
 have hml:=hM.mlt
 refine calls_of_W [.tmp 4] Try.func77 rfl Try.ntmps77 Try.results77 (by simp) fun e he=>?_
 have e0:e 0=ptr m:=he 0 _ rfl
 have e1:e 1 = .bool mu:=he 1 _ rfl
 clear he
 refine W_sq fun K hK=>(W_text [true] (by kernel_rfl) ?_);simp only [↓zZ1,↓reduceIte,Nat.reduceEqDiff,rg,ow_77]
 apply hK;clear hK K
 refine W_seq ?_
 refine W_sq fun K hK=>(W_text [true,true,false] (by kernel_rfl) ?_);simp only [↓zZ1,↓reduceIte,Nat.reduceEqDiff,rg,ow_77,e0,e1]
 refine do_call fn_91 (by simp only [zZ2,Nat.reduceEqDiff,↓reduceIte,zZ4]<;>rfl) (lock_any _ _ w) ?_
 rintro _ _ ⟨rfl,rfl⟩
 refine ⟨trivial,?_⟩
 simp only [↓zZ1,↓reduceIte,Nat.reduceEqDiff,rg,ow_77]
 apply hK;clear hK K
 refine W_false (by simp only [zZ2,Nat.reduceEqDiff,↓reduceIte,zZ3]<;>rfl) (W_skip ?_)
 show W _ _ _ _ _ _
 refine W_sq fun K hK=>(W_text [true,false,false,true] (by kernel_rfl) ?_);simp only [↓zZ1,↓reduceIte,Nat.reduceEqDiff,rg,ow_77,e0]
 refine do_call fn_71 (by simp only [zZ2,Nat.reduceEqDiff,↓reduceIte,zZ4]<;>rfl) (len_any m xs.length w hM.cnt) ?_
 rintro _ _ ⟨rfl,rfl⟩
 refine ⟨trivial,?_⟩
 simp only [↓zZ1,↓reduceIte,Nat.reduceEqDiff,rg,ow_77]
 refine do_make (n:=0) (c:=xs.length) (by simp only [zZ2,Nat.reduceEqDiff,↓reduceIte,zZ3]<;>rfl) (by simp only [zZ2,Nat.reduceEqDiff,↓reduceIte,zZ3]<;>rfl) el_it rfl (by omega) (by omega) (by omega) fun w1 l1 hl1 n1=>⟨trivial,?_⟩
 simp only [↓zZ1,↓reduceIte,Nat.reduceEqDiff,rg,ow_77]
 apply hK;clear hK K
 have s1:=n1.size
 have hO:OutE E w.heap.size (.slice (some ⟨w.heap.size,0,none⟩) 0 xs.length) [] w1:=by
  refine ⟨⟨rfl,.inr ⟨_,0,_,rfl,Nat.zero_le _,Row.nil _ _ _,n1.wok.R (by rw [hl1,E_sz];omega)⟩⟩,fun b o n c h=>by cases h;exact Nat.le_refl _⟩
 have hM1:=hM.ext n1.ext
 refine W_seq ?_
 rcases hM1.root with ⟨rfl,hr⟩ | ⟨h,b,hr,ht⟩
 ·refine W_sq fun K hK=>(W_text [true,true,true,true,true] (by kernel_rfl) ?_);simp only [↓zZ1,↓reduceIte,Nat.reduceEqDiff,rg,ow_77,e0,ptr_eq,hr]
  apply hK;clear hK K
  refine W_false (by simp only [zZ2,Nat.reduceEqDiff,↓reduceIte,zZ3]<;>rfl) (W_skip ?_)
  show W _ _ _ _ _ _
  refine W_sq fun K hK=>(W_text [true,true] (by kernel_rfl) ?_);simp only [↓zZ1,↓reduceIte,Nat.reduceEqDiff,rg,ow_77]
  apply hK;clear hK K
  exact W_ret (endQ_1 (by simp only [upd_eq,Nat.reduceEqDiff,↓reduceIte]<;>rfl) ⟨hO,n1.ext⟩)
 ·refine W_sq fun K hK=>(W_text [true,true,true,true,true] (by kernel_rfl) ?_);simp only [↓zZ1,↓reduceIte,Nat.reduceEqDiff,rg,ow_77,e0,ptr_eq,hr]
  apply hK;clear hK K
  refine W_true (by simp only [zZ2,Nat.reduceEqDiff,↓reduceIte,zZ3]<;>rfl) ?_
  refine W_rg fun K hK=>(W_text [true,true,true,true,true,true,false,true] (by kernel_rfl) ?_);simp only [↓zZ1,↓reduceIte,Nat.reduceEqDiff,rg,ow_77,e0,e1,ptr_eq]
  refine do_call fn_118 (by simp only [zZ2,Nat.reduceEqDiff,↓reduceIte,zZ4]<;>rfl) (nodeItems_any m w.heap.size iso (d-1) (2*d-1) hml mu h b 1 m 2 xs F _ [] w1 ht hM1.cfg.iso hr hM.lt hO (by simp;omega) (by omega) hml) ?_
  rintro v2 w2 ⟨hO2,X2⟩
  refine ⟨trivial,?_⟩
  simp only [↓zZ1,↓reduceIte,Nat.reduceEqDiff,rg,ow_77]
  apply hK;clear hK K
  show W _ _ _ _ _ _
  refine W_sq fun K hK=>(W_text [true,true] (by kernel_rfl) ?_);simp only [↓zZ1,↓reduceIte,Nat.reduceEqDiff,rg,ow_77]
  apply hK;clear hK K
  exact W_ret (endQ_1 (by simp only [upd_eq,Nat.reduceEqDiff,↓reduceIte]<;>rfl) ⟨hO2,noF_of n1.ext X2 fun y o hy g=>by omega⟩)
set_option maxRecDepth 8000 in
theorem itemsG_any (B m d:Nat) (ord:List Int) (iso:Int) (xs:List It) (F:FS It) (w:World) (hM:TreeAt B ord w m d iso xs F) (hbig:xs.length<=4294967295) :
  CallK Try.prog 46 #[ptr m] w fun v w'=>OutE E w.heap.size v xs w'/\Ext noF w w':=by
 refine calls_of_W [.tmp 2] Try.func46 rfl Try.ntmps46 Try.results46 (by simp) fun e he=>?_
 have e0:e 0=ptr m:=he 0 _ rfl
 clear he
 refine W_sq fun K hK=>(W_text [true] (by kernel_rfl) ?_);simp only [↓zZ1,↓reduceIte,Nat.reduceEqDiff,rg,ow_46]
 apply hK;clear hK K
 refine W_sq fun K hK=>(W_text [true,false,true] (by kernel_rfl) ?_);simp only [↓zZ1,↓reduceIte,Nat.reduceEqDiff,rg,ow_46,e0]
 refine do_call fn_77 (by simp only [zZ2,Nat.reduceEqDiff,↓reduceIte,zZ4]<;>rfl) (items_any B m d ord iso xs F false w hM hbig) ?_
 rintro v1 w1 h1
 refine ⟨trivial,?_⟩
 simp only [↓zZ1,↓reduceIte,Nat.reduceEqDiff,rg,ow_46]
 apply hK;clear hK K
 exact W_ret (endQ_1 (by simp only [upd_eq,Nat.reduceEqDiff,↓reduceIte]<;>rfl) h1)
theorem slcX_mid (sz b o n c i:Nat) (h:i+1<=c):slcX (some sz) (.slice (some ⟨b,o,none⟩) n c) (some (.int .i64 (i:Int))) (some (.int .i64 ((i+1:Nat):Int))) none=some (.slice (some ⟨b,o+i*sz,none⟩) (1:Nat) (c-i)):=by
 simp only [slcX,optV,bound_n (i+1) c .i64 h,bound_n i (i+1) .i64 (by omega),Option.isSome_none,Bool.false_and,Bool.false_eq_true,if_false]
 rw [if_neg (by omega)]
 simp [Addr.add]
theorem el_wk:elK Try.prog 58=some (25,1,24,[.slice none 0 0]):=by kernel_rfl
theorem ni_wk:noInt Try.prog 58=true:=by kernel_rfl
theorem bs_wk (a:Option Addr) (n c:Nat):bsV Try.prog 58 1 [(0,.slice a n c)]=some (25,[.slice a n c]):=by kernel_rfl
theorem app_nil {w w':World} {sz m:Nat} {v':Value} {l l':List Value} (h:AppRes w sz (.slice none 0 0) 0 m l l' v' w'):Ext noF w w':=by
 rcases h.2 with ⟨_,rfl,_⟩ | ⟨b,o,cap,hv,_⟩ | ⟨_,_,x,_⟩
 ·exact Ext.refl _ _
 ·cases hv
 ·exact x
def WkS (B vb k:Nat) (w:World):Prop:=∃ v n l,rd w vb 0=some v/\SlV w 1 v n l/\n<=k/\since B v/\(∀ o c m,v ≠ .slice (some ⟨vb,o,none⟩) m c)/\wok w vb 1
theorem WkS.ext {B vb k:Nat} {w w':World} (h:WkS B vb k w) (x:Ext noF w w'):WkS B vb k w':=by
 obtain ⟨v,n,l,h1,h2,h3,h4,h5,h6⟩:=h
 exact ⟨v,n,l,x.rd h1 fun g=>g,h2.ext0 x,h3,h4,h5,x.wok h6⟩
theorem WkS.mono {B vb k k':Nat} {w:World} (h:WkS B vb k w) (hk:k<=k'):WkS B vb k' w:=by
 obtain ⟨v,n,l,h1,h2,h3,h4⟩:=h
 exact ⟨v,n,l,h1,h2,by omega,h4⟩
set_option maxHeartbeats 800000 in
set_option maxRecDepth 8000 in
theorem gsh1_any (B vb k:Nat) (hvB:B<=vb) (n0:Nat) (l:List Value) (x:Value) (w:World) (hx:SlV w 2 x n0 l) (hl:oc l) (hn0:n0<=4294967296) (hs:WkS B vb k w) (hk:k<=4294967295) (hvl:vb<w.heap.size) :
  CallK Try.prog 69 #[x,ptr vb] w fun v w'=>v = .bool true/\WkS B vb (k+1) w'/\Ext (fun y _=>B<=y) w w':=by
 obtain ⟨xa,xc,rfl⟩:=hx.shape
 obtain ⟨v,n,l',h1,h2,h3,h4,h5,h6⟩:=hs
 obtain ⟨va,vc,rfl⟩:=h2.shape
 refine calls_of_W [.tmp 3] Try.func69 rfl Try.ntmps69 Try.results69 (by simp) fun e he=>?_
 have e0:e 0 = .slice xa n0 xc:=he 0 _ rfl
 have e1:e 1=ptr vb:=he 1 _ rfl
 clear he
 refine W_sq fun K hK=>(W_text [true] (by kernel_rfl) ?_);simp only [↓zZ1,↓reduceIte,Nat.reduceEqDiff,rg,ow_69]
 apply hK;clear hK K
 have M1:readsB (some (some [vb])) vb=true:=by simp [readsB]
 have D:=Ext.dr noF w (w.drawn+1)
 refine W_sq fun K hK=>(W_draw (some (some [vb])) (some 5) [(0,0,0),(0,1,0),(1,2,0),(1,3,0),(1,4,0),(1,5,0)] mixed (by kernel_rfl) ?_);simp only [↓zZ1,↓reduceIte,Nat.reduceEqDiff,rg,ow_69,e0,e1,ptr_eq,h1,M1]
 refine do_append (by simp only [zZ2,Nat.reduceEqDiff,↓reduceIte,zZ3]<;>rfl) (by simp only [zZ2,Nat.reduceEqDiff,↓reduceIte,zZ3]<;>rfl) el_it rfl ni_25 (v:=.slice none 0 0) (n:=0) (l:=[]) ⟨rfl,.inl ⟨rfl,rfl⟩⟩ (hx.ext0 D) (by omega) (by decide) hl fun v3 w3 a3=>?_
 have x3:=app_nil a3
 have s3:=x3.size
 rw [sz_dr] at s3
 refine ⟨by first | exact trivial | exact .inr (keeps_on x3 fun y hy=>⟨by simp only [List.mem_cons,List.not_mem_nil,or_false] at hy;rw [sz_dr];omega,fun _ g=>g⟩),?_⟩
 obtain ⟨g1,g2,-⟩:=app_since (B:=B) a3 (fun _ _ _ _ h=>by cases h) (by rw [sz_dr];omega)
 rw [Nat.zero_add] at g1
 obtain ⟨a3',c3',rfl⟩:=g1.shape
 simp only [↓zZ1,↓reduceIte,Nat.reduceEqDiff,rg,ow_69]
 refine do_bsl rfl (bs_wk a3' n0 c3') fun w4 n4=>?_
 have s4:=n4.size
 refine ⟨by first | exact trivial | exact .inr (keeps_on n4.ext fun y hy=>⟨by simp only [List.mem_cons,List.not_mem_nil,or_false] at hy;omega,fun _ g=>g⟩),?_⟩
 simp only [↓zZ1,↓reduceIte,Nat.reduceEqDiff,rg,ow_69]
 have X4:Ext noF w w4:=(D.tr x3).tr n4.ext
 refine do_append (by simp only [zZ2,Nat.reduceEqDiff,↓reduceIte,zZ3]<;>rfl) (by simp only [zZ2,Nat.reduceEqDiff,↓reduceIte,zZ3]<;>rfl) el_wk rfl ni_wk (h2.ext0 X4) (u:=.slice (some ⟨w3.heap.size,0,none⟩) 1 1) (m:=1) (l':=[.slice a3' n0 c3']) ⟨rfl,.inr ⟨_,0,1,rfl,Nat.le_refl _,n4.row,n4.wok.R (Nat.le_refl _)⟩⟩ (by omega) (by decide) (oc_one rfl rfl) fun v5 w5 a5=>?_
 obtain ⟨k1,k2,k3⟩:=app_since (B:=B) a5 h4 (by omega)
 have x5:Ext (fun y _=>∃ o m c,(Value.slice va n vc) = .slice (some ⟨y,o,none⟩) m c) w4 w5:=by
  rcases a5.2 with ⟨_,rfl,_⟩ | ⟨b,o,cap,hv,_,x,_⟩ | ⟨_,_,x,_⟩
  ·exact Ext.refl _ _
  ·exact x.mono fun y o' _ g=>⟨o,n,cap,by rw [hv,g.1]⟩
  ·exact x.mono fun _ _ _ g=>g.elim
 have hv5:∀ o c m,v5 ≠ .slice (some ⟨vb,o,none⟩) m c:=fun o c m hh=>by
  rcases a5.2 with ⟨h00,_,h0⟩ | ⟨b,o',cap,hv,hv',_⟩ | ⟨cap,hv',_⟩
  ·first | (rw [h00] at hh;exact h5 o c m hh) | (rw [h0] at hh;cases hh) | (cases h0)
  ·rw [hv'] at hh
   cases hh
   exact h5 _ _ _ hv
  ·rw [hv'] at hh
   cases hh
   omega
 refine ⟨by first | exact trivial | exact .inr (keeps_on x5 fun y hy=>⟨by simp only [List.mem_cons,List.not_mem_nil,or_false] at hy;omega,fun o ⟨o',m,c,g⟩=>by simp only [List.mem_cons,List.not_mem_nil,or_false] at hy;subst hy;exact h5 _ _ _ g⟩),?_⟩
 obtain ⟨a5',c5',rfl⟩:=k1.shape
 simp only [↓zZ1,↓reduceIte,Nat.reduceEqDiff,rg,ow_69]
 have hnv:¬ ∃ o m c,(Value.slice va n vc) = .slice (some ⟨vb,o,none⟩) m c:=fun ⟨o',m,c,g⟩=>h5 _ _ _ g
 refine do_store (b:=vb) (o:=0) (by simp only [zZ2,Nat.reduceEqDiff,↓reduceIte];exact e1) (by simp only [zZ2,Nat.reduceEqDiff,↓reduceIte,zZ3]<;>rfl) sz_58 rfl (x5.wok (X4.wok h6)) (by decide) (oc_one rfl rfl) fun w6 x6 r6 s6=>⟨by first | exact trivial | exact .inl trivial,?_⟩
 simp only [↓zZ1,↓reduceIte,Nat.reduceEqDiff,rg,ow_69]
 apply hK;clear hK K
 refine W_sq fun K hK=>(W_text [true] (by kernel_rfl) ?_);simp only [↓zZ1,↓reduceIte,Nat.reduceEqDiff,rg,ow_69]
 apply hK;clear hK K
 refine W_ret (endQ_1 (by simp only [upd_eq,Nat.reduceEqDiff,↓reduceIte]<;>rfl) ⟨rfl,⟨_,_,_,(Row.cons.1 r6).1,k1.ext x6 fun b o c hh i hi g=>hv5 _ _ _ (by rw [<-g.1];exact hh),by omega,k2,hv5,x6.wok (x5.wok (X4.wok h6))⟩,?_⟩)
 exact ((X4.mono fun _ _ _ g=>g.elim).tr k3).tr (x6.mono fun y o _ g=>by have:=g.1;omega)
def cbV (vb:Nat):Value:=.func (.func 69) #[] #[ptr vb]
theorem fn_gsh1:isFn Try.prog 69=true:=by kernel_rfl
set_option maxHeartbeats 1000000 in
set_option maxRecDepth 8000 in
theorem nodeWalk_any (m B vb:Nat) (iso:Int) (mn mx:Nat) (hmn:1<=mn) (hmB:m<B) (hvB:B<=vb) :
  ∀ (h b lo pc po:Nat) (xs:List It) (F:FS It) (k:Nat) (w:World),Tr E iso mn mx h w lo b xs F->1<=lo->rd w m 0=some (.int .u64 iso)->rd w pc po=some (ptr b)->(∀ y o,F y o->y<B) →
   WkS B vb k w->vb<w.heap.size->k+xs.length<=4294967295->pc<B →
  CallK Try.prog 147 #[ptr m,.pointer (some ⟨pc,po,none⟩),cbV vb,.bool false] w fun v w'=>v = .bool true/\WkS B vb (k+xs.length) w'/\Ext (fun y _=>B<=y) w w':=by
 intro h
 induction h with
 | zero =>
  intro b lo pc po xs F k w ht hlo h0 hp hG hS hvl hb1 hpc
  obtain ⟨bi,oi,cap,ho,h1,h2,hF⟩:=ht
  refine calls_of_W [.tmp 8] Try.func147 rfl Try.ntmps147 Try.results147 (by simp) fun e he=>?_
  have e0:e 0=ptr m:=he 0 _ rfl
  have e1:e 1 = .pointer (some ⟨pc,po,none⟩):=he 1 _ rfl
  have e2:e 2=cbV vb:=he 2 _ rfl
  have e3:e 3 = .bool false:=he 3 _ rfl
  clear he
  refine W_sq fun K hK=>(W_text [true] (by kernel_rfl) ?_);simp only [↓zZ1,↓reduceIte,Nat.reduceEqDiff,rg,ow_147]
  apply hK;clear hK K
  refine W_sq fun K hK=>(W_text [true,true,true,false,true] (by kernel_rfl) ?_);simp only [↓zZ1,↓reduceIte,Nat.reduceEqDiff,rg,ow_147,e0,e1,e3]
  refine do_call fn_96 (by simp only [zZ2,Nat.reduceEqDiff,↓reduceIte,zZ4]<;>rfl) (isoLoad_any m pc po b false iso w h0 hp ho.h0) ?_
  rintro _ w1 ⟨rfl,r1⟩
  refine ⟨trivial,?_⟩
  simp only [↓zZ1,↓reduceIte,Nat.reduceEqDiff,rg,ow_147]
  apply hK;clear hK K
  have x1:Ext noF w w1:=r1.ext
  have o1:=ho.ext x1 fun _ _ _ h=>h
  have S1:=hS.ext x1
  have s1:=x1.size
  refine W_seq ?_
  refine W_sq fun K hK=>(W_text [true,false] (by kernel_rfl) ?_);simp only [↓zZ1,↓reduceIte,Nat.reduceEqDiff,rg,ow_147]
  refine do_call fn_108 (by simp only [zZ2,Nat.reduceEqDiff,↓reduceIte,zZ4]<;>rfl) (leaf_any b none w1 o1.h3) ?_
  rintro _ w1' ⟨rfl,hw1⟩
  obtain rfl:w1=w1':=hw1.symm
  refine ⟨trivial,?_⟩
  simp only [↓zZ1,↓reduceIte,Nat.reduceEqDiff,rg,ow_147]
  apply hK;clear hK K
  refine W_true (by simp only [zZ2,Nat.reduceEqDiff,↓reduceIte,zZ3]<;>rfl) ?_
  have hb2:=o1.h2
  have hsl:SlV w1 2 (.slice (some ⟨bi,oi,none⟩) xs.length cap) xs.length (flat E xs):=⟨by rw [flat_length];rfl,.inr ⟨bi,oi,cap,rfl,ho.le,o1.row,o1.wi.R (Nat.le_refl _)⟩⟩
  refine W_sq fun K hK=>(W_text [true,true,true,true,true,false,true] (by kernel_rfl) ?_);simp only [↓zZ1,↓reduceIte,Nat.reduceEqDiff,rg,ow_147,e2,ptr_eq,hb2]
  refine do_callv (first:=#[]) (captured:=#[ptr vb]) (by simp only [evt,upd_eq,Nat.reduceEqDiff,↓reduceIte];first | exact e2 | rfl) fn_gsh1 rfl (by simp only [evt,upd_eq,Nat.reduceEqDiff,↓reduceIte,maT,maC,maN];exact gsh1_any B vb k hvB xs.length _ _ w1 hsl (flat_oc E _) (by omega) S1 (by omega) (by omega)) ?_
  rintro _ w2 ⟨rfl,q2,q3⟩
  refine ⟨trivial,?_⟩
  simp only [↓zZ1,↓reduceIte,Nat.reduceEqDiff,rg,ow_147]
  apply hK;clear hK K
  refine W_false (by simp only [zZ2,Nat.reduceEqDiff,↓reduceIte,zZ3]<;>rfl) (W_skip ?_)
  show W _ _ _ _ _ _
  refine W_sq fun K hK=>(W_text [true] (by kernel_rfl) ?_);simp only [↓zZ1,↓reduceIte,Nat.reduceEqDiff,rg,ow_147]
  apply hK;clear hK K
  exact W_ret (endQ_1 (by simp only [upd_eq,Nat.reduceEqDiff,↓reduceIte]<;>rfl) ⟨rfl,q2.mono (by omega),(x1.mono fun _ _ _ h=>h.elim).tr q3⟩)
 | succ h ih =>
  intro b lo pc po xs F k w ht hlo h0 hp hG hS hvl hb1 hpc
  obtain ⟨bi,oi,cap,bc,ba,oa,capc,ks,cs,ho,hk,h1,h2,hcs,rfl,hT,hA,hF⟩:=ht
  have hGo:∀ y o,ownF E b bi oi cap y o->y<B:=fun y o g=>hG y o ((hF y o).2 (.inl g))
  have hGk:∀ y o,kidF bc ba oa capc y o->y<B:=fun y o g=>hG y o ((hF y o).2 (.inr (.inl g)))
  have hGc:∀ c ∈ cs,∀ y o,c.F y o->y<B:=fun c hc y o g=>hG y o ((hF y o).2 (.inr (.inr ⟨c,hc,g⟩)))
  have hbaB:cs ≠ []->ba<B:=fun hne=>hGk ba oa (.inr ⟨rfl,Nat.le_refl _,by have:=hk.le;rw [List.length_map] at this;have:=List.length_pos_iff.2 hne;omega⟩)
  have hwl:=weave_length (cs.map Kid.xs) ks (by simpa using hcs)
  refine calls_of_W [.tmp 8] Try.func147 rfl Try.ntmps147 Try.results147 (by simp) fun e he=>?_
  have e0:e 0=ptr m:=he 0 _ rfl
  have e1:e 1 = .pointer (some ⟨pc,po,none⟩):=he 1 _ rfl
  have e2:e 2=cbV vb:=he 2 _ rfl
  have e3:e 3 = .bool false:=he 3 _ rfl
  clear he
  refine W_sq fun K hK=>(W_text [true] (by kernel_rfl) ?_);simp only [↓zZ1,↓reduceIte,Nat.reduceEqDiff,rg,ow_147]
  apply hK;clear hK K
  refine W_sq fun K hK=>(W_text [true,true,true,false,true] (by kernel_rfl) ?_);simp only [↓zZ1,↓reduceIte,Nat.reduceEqDiff,rg,ow_147,e0,e1,e3]
  refine do_call fn_96 (by simp only [zZ2,Nat.reduceEqDiff,↓reduceIte,zZ4]<;>rfl) (isoLoad_any m pc po b false iso w h0 hp ho.h0) ?_
  rintro _ w1 ⟨rfl,r1⟩
  refine ⟨trivial,?_⟩
  simp only [↓zZ1,↓reduceIte,Nat.reduceEqDiff,rg,ow_147]
  apply hK;clear hK K
  have x1:Ext noF w w1:=r1.ext
  have o1:=ho.ext x1 fun _ _ _ h=>h
  have S1:=hS.ext x1
  have s1:=x1.size
  refine W_seq ?_
  refine W_sq fun K hK=>(W_text [true,false] (by kernel_rfl) ?_);simp only [↓zZ1,↓reduceIte,Nat.reduceEqDiff,rg,ow_147]
  refine do_call fn_108 (by simp only [zZ2,Nat.reduceEqDiff,↓reduceIte,zZ4]<;>rfl) (leaf_any b (some ⟨bc,0,none⟩) w1 o1.h3) ?_
  rintro _ w1' ⟨rfl,hw1⟩
  obtain rfl:w1=w1':=hw1.symm
  refine ⟨trivial,?_⟩
  simp only [↓zZ1,↓reduceIte,Nat.reduceEqDiff,rg,ow_147]
  apply hK;clear hK K
  refine W_false (by simp only [zZ2,Nat.reduceEqDiff,↓reduceIte,zZ3]<;>rfl) ?_
  refine W_seq (W_seq ?_)
  refine W_rg fun K hK=>(W_text [true] (by kernel_rfl) ?_);simp only [↓zZ1,↓reduceIte,Nat.reduceEqDiff,rg,ow_147]
  apply hK;clear hK K
  show W _ _ _ _ _ _
  refine W_block (W_loop (fun mm e w'=>∃ (i k':Nat),mm=ks.length-i/\i<=ks.length/\k+(weave (cs.map Kid.xs) ks).length=k'+(weave ((cs.map Kid.xs).drop i) (ks.drop i)).length ∧
    WkS B vb k' w'/\vb<w'.heap.size/\Ext (fun y _=>B<=y) w w'/\e 0=ptr m/\e 2=cbV vb/\e 3 = .bool false/\e 9=ptr b/\e 10 = .int .i64 i)
   ks.length ⟨0,k,by simp,by simp,by simp,S1,by omega,x1.mono fun _ _ _ h=>h.elim,?_,?_,?_,?_,?_⟩ ?_)
  ·simp only [upd_eq,Nat.reduceEqDiff,↓reduceIte];exact e0
  ·simp only [upd_eq,Nat.reduceEqDiff,↓reduceIte];exact e2
  ·simp only [upd_eq,Nat.reduceEqDiff,↓reduceIte];exact e3
  ·simp only [upd_eq,Nat.reduceEqDiff,↓reduceIte]
  ·simp only [upd_eq,Nat.reduceEqDiff,↓reduceIte];rfl
  ·clear e0 e1 e2 e3 e S1 o1
   rintro mm e w' ⟨i,k',rfl,hi,hKl,hS',hvl',X,e0,e2,e3,e9,e10⟩
   have o':=ho.ext X fun y o g=>by have:=hGo y o g;omega
   have kk':=hk.ext X fun y o g=>by have:=hGk y o g;omega
   have hb2:=o'.h2
   have hb3:=o'.h3
   have hc0:=kk'.c0
   have sX:=X.size
   have h0':=X.rd h0 (by omega)
   have hci:∀ i,i<cs.length->∃ c,cs[i]? = some c/\rd w' ba (oa+i)=some (ptr c.b):=fun i hi=>by
    refine ⟨cs[i],List.getElem?_eq_getElem hi,kk'.row i _ ?_⟩
    rw [List.getElem?_map,List.getElem?_map,List.getElem?_eq_getElem hi];rfl
   rw [List.length_map] at hc0
   have hba:=hbaB (by intro h;rw [h] at hcs;simp at hcs)
   refine W_seq ?_
   by_cases hlt:i<ks.length
   ·have ht:=lt_tt i ks.length hlt
    refine W_sq fun K hK=>(W_text [true,true,true,true,true,true,true] (by kernel_rfl) ?_);simp only [↓zZ1,↓reduceIte,Nat.reduceEqDiff,rg,ow_147,e9,e10,ptr_eq,hb2,ht]
    apply hK;clear hK K
    refine W_true (by simp only [zZ2,Nat.reduceEqDiff,↓reduceIte,zZ3]<;>rfl) (W_skip ?_)
    show W _ _ _ _ _ _
    refine W_seq (W_block (W_seq ?_))
    obtain ⟨c,hc,hcr⟩:=hci i (by omega)
    have hcm:c ∈ cs:=List.mem_of_getElem? hc
    obtain ⟨x,hx⟩:∃ x,ks[i]? = some x:=⟨_,List.getElem?_eq_getElem hlt⟩
    have hlc:i<cs.length:=by omega
    rw [weave_step (c:=c.xs) (by rw [List.getElem?_map,hc];rfl) hx] at hKl
    simp only [List.length_append,List.length_cons] at hKl
    refine W_sq fun K hK=>(W_text [true,true,true,true,true,true,true,true,true,true,true,false,true] (by kernel_rfl) ?_);simp only [↓zZ1,↓reduceIte,Nat.reduceEqDiff,rg,ow_147,e0,e2,e3,e9,e10,ptr_eq,hb3,hc0,hlc]
    refine do_call fn_147 (by simp only [zZ2,Nat.reduceEqDiff,↓reduceIte,zZ4]<;>rfl) (ih c.b mn ba (oa+i) c.xs c.F k' _ ((hT c hcm).ext X fun y o g=>by have:=hGc c hcm y o g;omega) hmn h0' hcr (hGc c hcm) hS' hvl' (by omega) hba) ?_
    rintro _ w2 ⟨rfl,H2,X2⟩
    refine ⟨trivial,?_⟩
    simp only [↓zZ1,↓reduceIte,Nat.reduceEqDiff,rg,ow_147]
    apply hK;clear hK K
    refine W_false (by simp only [zZ2,Nat.reduceEqDiff,↓reduceIte,zZ3]<;>rfl) (W_skip ?_)
    show W _ _ _ _ _ _
    have s2:=X2.size
    have o2:=o'.ext X2 fun y o g=>by have:=hGo y o g;omega
    have hb2':=o2.h2
    have hcap:i+1<=cap:=by have:=ho.le;omega
    have q1:=wadd1 i (by omega)
    have hsl:=slcX_mid 2 bi oi ks.length cap i hcap
    have hrow:SlV w2 2 (.slice (some ⟨bi,oi+i*2,none⟩) 1 (cap-i)) 1 (E.cel x):=⟨rfl,.inr ⟨bi,oi+i*2,cap-i,rfl,by omega,row_at E o2.row hx,o2.wi.R (by rw [E_sz];omega)⟩⟩
    refine W_sq fun K hK=>(W_text [true,true,true,true,true,true,true,true,true,false,true] (by kernel_rfl) ?_);simp only [↓zZ1,↓reduceIte,Nat.reduceEqDiff,rg,ow_147,e2,e9,e10,ptr_eq,hb2',q1,hsl]
    refine do_callv (first:=#[]) (captured:=#[ptr vb]) (by simp only [evt,upd_eq,Nat.reduceEqDiff,↓reduceIte];first | exact e2 | rfl) fn_gsh1 rfl (by simp only [evt,upd_eq,Nat.reduceEqDiff,↓reduceIte,maT,maC,maN];exact gsh1_any B vb (k'+c.xs.length) hvB 1 _ _ w2 hrow (E.one x) (by omega) H2 (by omega) (by omega)) ?_
    rintro _ w3 ⟨rfl,q2,q3⟩
    refine ⟨trivial,?_⟩
    simp only [↓zZ1,↓reduceIte,Nat.reduceEqDiff,rg,ow_147]
    apply hK;clear hK K
    refine W_false (by simp only [zZ2,Nat.reduceEqDiff,↓reduceIte,zZ3]<;>rfl) (W_skip ?_)
    show W _ _ _ _ _ _
    have s3:=q3.size
    refine W_rg fun K hK=>(W_text [true,true,true] (by kernel_rfl) ?_);simp only [↓zZ1,↓reduceIte,Nat.reduceEqDiff,rg,ow_147,e10,q1]
    apply hK;clear hK K
    refine ⟨_,?_,i+1,k'+c.xs.length+1,rfl,hlt,by omega,q2,by omega,(X.tr X2).tr q3,?_,?_,?_,?_,?_⟩
    ·omega
    ·simp only [upd_eq,Nat.reduceEqDiff,↓reduceIte];exact e0
    ·simp only [upd_eq,Nat.reduceEqDiff,↓reduceIte];exact e2
    ·simp only [upd_eq,Nat.reduceEqDiff,↓reduceIte];exact e3
    ·simp only [upd_eq,Nat.reduceEqDiff,↓reduceIte];exact e9
    ·simp only [upd_eq,Nat.reduceEqDiff,↓reduceIte]
   ·obtain rfl:i=ks.length:=by omega
    have ht:=lt_ff ks.length ks.length (by omega)
    refine W_sq fun K hK=>(W_text [true,true,true,true,true,true,true] (by kernel_rfl) ?_);simp only [↓zZ1,↓reduceIte,Nat.reduceEqDiff,rg,ow_147,e9,e10,ptr_eq,hb2,ht]
    apply hK;clear hK K
    refine W_false (by simp only [zZ2,Nat.reduceEqDiff,↓reduceIte,zZ3]<;>rfl) (W_exit ?_)
    simp only [andThen_exit,inBlk_exit,↓reduceIte]
    show W _ _ _ _ _ _
    obtain ⟨c,hc,hcr⟩:=hci ks.length (by omega)
    have hcm:c ∈ cs:=List.mem_of_getElem? hc
    rw [weave_last (c:=c.xs) (by simpa using hcs) (by rw [List.getElem?_map,hc];rfl)] at hKl
    have hlc:ks.length<cs.length:=by omega
    have M1:readsB (some (some [b,bc,ba])) b=true:=by simp [readsB]
    have M2:readsB (some (some [b,bc,ba])) bc=true:=by simp [readsB]
    have M3:readsB (some (some [b,bc,ba])) ba=true:=by simp [readsB]
    refine W_sq fun K hK=>(W_draw (some (some [b,bc,ba])) none [(0,0,0),(0,1,0),(0,2,0),(0,3,0),(0,4,0),(0,5,0),(0,6,0),(0,7,0),(0,8,0),(0,9,0),(0,10,0),(0,11,0),(0,12,0),(0,13,0),(0,14,0),(1,15,0),(0,16,0)] mixed (by kernel_rfl) ?_);simp only [↓zZ1,↓reduceIte,Nat.reduceEqDiff,rg,ow_147,e0,e2,e3,e9,ptr_eq,hb2,hb3,hc0,hlc,M1,M2,M3]
    refine do_call fn_147 (by simp only [zZ2,Nat.reduceEqDiff,↓reduceIte,zZ4]<;>rfl) (ih c.b mn ba (oa+ks.length) c.xs c.F k' _ ((hT c hcm).ext (X.tr (Ext.dr _ _ _)) fun y o g=>by have:=hGc c hcm y o g;omega) hmn h0' hcr (hGc c hcm) (hS'.ext (Ext.dr _ _ _)) (by rw [sz_dr];omega) (by omega) hba) ?_
    rintro _ w2 ⟨rfl,H2,X2⟩
    refine ⟨.inr (keeps_on X2 fun y hy=>?_),?_⟩
    ·rw [sz_dr]
     simp only [List.mem_cons,List.not_mem_nil,or_false] at hy
     rcases hy with rfl | rfl | rfl
     ·exact ⟨wok_lt o'.wb,fun o g=>by have:=hGo _ 0 (.inl rfl);omega⟩
     ·exact ⟨wok_lt kk'.wc,fun o g=>by have:=hGk _ 0 (.inl rfl);omega⟩
     ·exact ⟨wok_lt kk'.wa,fun o g=>by omega⟩
    simp only [↓zZ1,↓reduceIte,Nat.reduceEqDiff,rg,ow_147]
    apply hK;clear hK K
    refine W_false (by simp only [zZ2,Nat.reduceEqDiff,↓reduceIte,zZ3]<;>rfl) (W_skip ?_)
    show W _ _ _ _ _ _
    refine W_sq fun K hK=>(W_text [true] (by kernel_rfl) ?_);simp only [↓zZ1,↓reduceIte,Nat.reduceEqDiff,rg,ow_147]
    apply hK;clear hK K
    exact W_ret (endQ_1 (by simp only [upd_eq,Nat.reduceEqDiff,↓reduceIte]<;>rfl) ⟨rfl,hKl ▸ H2,X.tr X2.od⟩)
def Ht (s:Sh It) (n:Nat):Prop:=(s.kl=0/\n=0)\/(s.kl ≠ 0/\∃ h,Hg h s/\n=h+1)
theorem Ht.one {s:Sh It} {n n':Nat} (h:Ht s n) (h':Ht s n'):n=n':=by
 rcases h with ⟨a,rfl⟩ | ⟨a,h,b,rfl⟩<;>rcases h' with ⟨a',rfl⟩ | ⟨a',h',b',rfl⟩
 ·rfl
 ·exact (a' a).elim
 ·exact (a a').elim
 ·rw [b.one b']
set_option maxHeartbeats 400000 in
set_option maxRecDepth 8000 in
theorem walk_any (A m d B vb k:Nat) (iso:Int) (ord:List Int) (hd:2<=d) (xs:List It) (F:FS It) (w:World) (hM:TreeAt A ord w m d iso xs F) (hmB:m<B) (hvB:B<=vb) (hG:∀ y o,F y o->y<B) (hS:WkS B vb k w) (hvl:vb<w.heap.size) (hb:k+xs.length<=4294967295) :
  CallK Try.prog 107 #[ptr m,cbV vb,.bool false] w fun _ w'=>WkS B vb (k+xs.length) w'/\Ext (fun y _=>B<=y) w w':=by
 refine calls_of_W [] Try.func107 rfl Try.ntmps107 Try.results107 (by simp) fun e he=>?_
 have e0:e 0=ptr m:=he 0 _ rfl
 have e1:e 1=cbV vb:=he 1 _ rfl
 have e2:e 2 = .bool false:=he 2 _ rfl
 clear he
 refine W_seq ?_
 refine W_sq fun K hK=>(W_text [true,true,false] (by kernel_rfl) ?_);simp only [↓zZ1,↓reduceIte,Nat.reduceEqDiff,rg,ow_107,e0,e2]
 refine do_call fn_91 (by simp only [zZ2,Nat.reduceEqDiff,↓reduceIte,zZ4]<;>rfl) (lock_any _ _ w) ?_
 rintro _ _ ⟨rfl,rfl⟩
 refine ⟨trivial,?_⟩
 simp only [↓zZ1,↓reduceIte,Nat.reduceEqDiff,rg,ow_107]
 apply hK;clear hK K
 refine W_false (by simp only [zZ2,Nat.reduceEqDiff,↓reduceIte,zZ3]<;>rfl) (W_skip ?_)
 show W _ _ _ _ _ _
 refine W_seq ?_
 rcases hM.root with ⟨rfl,hr,-⟩ | ⟨h,b,hr,ht⟩
 ·refine W_sq fun K hK=>(W_text [true,true,true,true,true] (by kernel_rfl) ?_);simp only [↓zZ1,↓reduceIte,Nat.reduceEqDiff,rg,ow_107,e0,ptr_eq,hr]
  apply hK;clear hK K
  refine W_true (by simp only [zZ2,Nat.reduceEqDiff,↓reduceIte,zZ3]<;>rfl) (W_ret ?_)
  simp only [andThen_ret]
  exact endQ_0 ⟨hS.mono (by omega),Ext.refl _ _⟩
 ·refine W_sq fun K hK=>(W_text [true,true,true,true,true] (by kernel_rfl) ?_);simp only [↓zZ1,↓reduceIte,Nat.reduceEqDiff,rg,ow_107,e0,ptr_eq,hr]
  apply hK;clear hK K
  refine W_false (by simp only [zZ2,Nat.reduceEqDiff,↓reduceIte,zZ3]<;>rfl) (W_skip ?_)
  show W _ _ _ _ _ _
  refine W_rg fun K hK=>(W_text [true,true,true,true,true,true,false] (by kernel_rfl) ?_);simp only [↓zZ1,↓reduceIte,Nat.reduceEqDiff,rg,ow_107,e0,e1,e2,ptr_eq]
  refine do_call fn_147 (vs:=#[ptr m,.pointer (some ⟨m,2,none⟩),cbV vb,.bool false]) (by simp only [zZ2,Nat.reduceEqDiff,↓reduceIte,zZ4]<;>rfl) (nodeWalk_any m B vb iso (d-1) (2*d-1) (by omega) hmB hvB h b 1 m 2 xs F k w ht (Nat.le_refl _) hM.cfg.iso hr hG hS hvl hb hmB) ?_
  rintro _ w2 ⟨rfl,H2,X2⟩
  refine ⟨trivial,?_⟩
  simp only [↓zZ1,↓reduceIte,Nat.reduceEqDiff,rg,ow_107]
  apply hK;clear hK K
  exact endQ_0n ⟨H2,X2⟩
set_option maxRecDepth 8000 in
theorem walkM_any (A m d B vb k:Nat) (iso:Int) (ord:List Int) (hd:2<=d) (xs:List It) (F:FS It) (w:World) (hM:TreeAt A ord w m d iso xs F) (hmB:m<B) (hvB:B<=vb) (hG:∀ y o,F y o->y<B) (hS:WkS B vb k w) (hvl:vb<w.heap.size) (hb:k+xs.length<=4294967295) :
  CallK Try.prog 68 #[ptr m,cbV vb] w fun _ w'=>WkS B vb (k+xs.length) w'/\Ext (fun y _=>B<=y) w w':=by
 refine calls_of_W [] Try.func68 rfl Try.ntmps68 Try.results68 (by simp) fun e he=>?_
 have e0:e 0=ptr m:=he 0 _ rfl
 have e1:e 1=cbV vb:=he 1 _ rfl
 clear he
 refine W_rg fun K hK=>(W_text [true,true,false] (by kernel_rfl) ?_);simp only [↓zZ1,↓reduceIte,Nat.reduceEqDiff,rg,ow_68,e0,e1]
 refine do_call fn_107 (by simp only [zZ2,Nat.reduceEqDiff,↓reduceIte,zZ4]<;>rfl) (walk_any A m d B vb k iso ord hd xs F w hM hmB hvB hG hS hvl hb) ?_
 rintro _ w2 ⟨H2,X2⟩
 refine ⟨trivial,?_⟩
 simp only [↓zZ1,↓reduceIte,Nat.reduceEqDiff,rg,ow_68]
 apply hK;clear hK K
 exact endQ_0n ⟨H2,X2⟩
set_option maxHeartbeats 800000 in
set_option maxRecDepth 8000 in
theorem height_any (A m d:Nat) (iso:Int) (ord:List Int) (hd:2<=d) (xs:List It) (F:FS It) (w:World) (hM:TreeAt A ord w m d iso xs F) (hb:xs.length<=4294967295) :
  CallK Try.prog 70 #[ptr m] w fun v w'=>(∃ n:Nat,v = .int .i64 n/\Ht F.s n)/\Ext noF w w':=by
 refine calls_of_W [.tmp 2] Try.func70 rfl Try.ntmps70 Try.results70 (by simp) fun e he=>?_
 have e0:e 0=ptr m:=he 0 _ rfl
 clear he
 refine W_sq fun K hK=>(W_text [true] (by kernel_rfl) ?_);simp only [↓zZ1,↓reduceIte,Nat.reduceEqDiff,rg,ow_70]
 apply hK;clear hK K
 refine W_seq ?_
 refine W_sq fun K hK=>(W_text [true,false] (by kernel_rfl) ?_);simp only [↓zZ1,↓reduceIte,Nat.reduceEqDiff,rg,ow_70,e0]
 refine do_call fn_91 (by simp only [zZ2,Nat.reduceEqDiff,↓reduceIte,zZ4]<;>rfl) (lock_any _ _ w) ?_
 rintro _ _ ⟨rfl,rfl⟩
 refine ⟨trivial,?_⟩
 simp only [↓zZ1,↓reduceIte,Nat.reduceEqDiff,rg,ow_70]
 apply hK;clear hK K
 refine W_false (by simp only [zZ2,Nat.reduceEqDiff,↓reduceIte,zZ3]<;>rfl) (W_skip ?_)
 show W _ _ _ _ _ _
 refine W_sq fun K hK=>(W_text [true] (by kernel_rfl) ?_);simp only [↓zZ1,↓reduceIte,Nat.reduceEqDiff,rg,ow_70]
 apply hK;clear hK K
 refine W_seq ?_
 rcases hM.root with ⟨rfl,hr,hs0⟩ | ⟨h,b,hr,ht⟩
 ·refine W_sq fun K hK=>(W_text [true,true,true,true,true] (by kernel_rfl) ?_);simp only [↓zZ1,↓reduceIte,Nat.reduceEqDiff,rg,ow_70,e0,ptr_eq,hr]
  apply hK;clear hK K
  refine W_false (by simp only [zZ2,Nat.reduceEqDiff,↓reduceIte,zZ3]<;>rfl) (W_skip ?_)
  show W _ _ _ _ _ _
  refine W_sq fun K hK=>(W_text [true,true] (by kernel_rfl) ?_);simp only [↓zZ1,↓reduceIte,Nat.reduceEqDiff,rg,ow_70]
  apply hK;clear hK K
  exact W_ret (endQ_1 (by simp only [upd_eq,Nat.reduceEqDiff,↓reduceIte]<;>rfl) ⟨⟨0,rfl,.inl ⟨by rw [hs0];rfl,rfl⟩⟩,Ext.refl _ _⟩)
 ·have hhl:=Tr.height (by omega) (Nat.le_refl 1) ht
  have hres:Ht F.s (h+1):=.inr ⟨ht.kl1 (Nat.le_refl _),h,ht.hg,rfl⟩
  refine W_sq fun K hK=>(W_text [true,true,true,true,true] (by kernel_rfl) ?_);simp only [↓zZ1,↓reduceIte,Nat.reduceEqDiff,rg,ow_70,e0,ptr_eq,hr]
  apply hK;clear hK K
  refine W_true (by simp only [zZ2,Nat.reduceEqDiff,↓reduceIte,zZ3]<;>rfl) ?_
  refine W_sq fun K hK=>(W_text [true,true,true,true,true] (by kernel_rfl) ?_);simp only [↓zZ1,↓reduceIte,Nat.reduceEqDiff,rg,ow_70,e0,ptr_eq,hr]
  apply hK;clear hK K
  refine W_block (W_loop (fun mm e w'=>∃ (b:Nat) (lo:Nat) (ys:List It) (F':FS It),mm<=h/\Ext noF w w'/\Tr E iso (d-1) (2*d-1) mm w' lo b ys F'/\e 4=ptr b/\e 3 = .int .i64 ((h-mm:Nat):Int)) h ⟨b,1,xs,F,Nat.le_refl _,Ext.refl _ _,ht,?_,?_⟩ ?_)
  ·simp only [upd_eq,Nat.reduceEqDiff,↓reduceIte];rfl
  ·simp only [upd_eq,Nat.reduceEqDiff,↓reduceIte];rw [Nat.sub_self];rfl
  clear e0 e ht hr b
  rintro mm e w' ⟨b,lo,ys,F',hm,X,ht,e4,e3⟩
  obtain ⟨bi,oi,cap,ks,ch,ho,-,-,-,hin⟩:=ht.open
  have q1:=wadd1 (h-mm) (by omega)
  refine W_block ?_
  refine W_sq fun K hK=>(W_text [true,true,true] (by kernel_rfl) ?_);simp only [↓zZ1,↓reduceIte,Nat.reduceEqDiff,rg,ow_70,e3,q1]
  apply hK;clear hK K
  refine W_seq ?_
  rcases hin with ⟨rfl,hcn,-,-⟩ | ⟨h',bc,ba,oa,capc,cs,rfl,hcn,n⟩
  ·rw [hcn] at ho
   refine W_sq fun K hK=>(W_text [true,false] (by kernel_rfl) ?_);simp only [↓zZ1,↓reduceIte,Nat.reduceEqDiff,rg,ow_70,e4]
   refine do_call fn_108 (by simp only [zZ2,Nat.reduceEqDiff,↓reduceIte,zZ4]<;>rfl) (leaf_any b none w' ho.h3) ?_
   rintro _ w2 ⟨rfl,hw⟩
   obtain rfl:w'=w2:=hw.symm
   refine ⟨trivial,?_⟩
   simp only [↓zZ1,↓reduceIte,Nat.reduceEqDiff,rg,ow_70]
   apply hK;clear hK K
   refine W_true (by simp only [zZ2,Nat.reduceEqDiff,↓reduceIte,zZ3]<;>rfl) (W_exit ?_)
   simp only [andThen_exit,inBlk_exit,andThen_normal,↓reduceIte]
   show W _ _ _ _ _ _
   refine W_sq fun K hK=>(W_text [true,true] (by kernel_rfl) ?_);simp only [↓zZ1,↓reduceIte,Nat.reduceEqDiff,rg,ow_70]
   apply hK;clear hK K
   exact W_ret (endQ_1 (by simp only [upd_eq,Nat.reduceEqDiff,↓reduceIte]<;>rfl) ⟨⟨h+1,rfl,hres⟩,X⟩)
  ·rw [hcn] at ho
   refine W_sq fun K hK=>(W_text [true,false] (by kernel_rfl) ?_);simp only [↓zZ1,↓reduceIte,Nat.reduceEqDiff,rg,ow_70,e4]
   refine do_call fn_108 (by simp only [zZ2,Nat.reduceEqDiff,↓reduceIte,zZ4]<;>rfl) (leaf_any b (some ⟨bc,0,none⟩) w' ho.h3) ?_
   rintro _ w2 ⟨rfl,hw⟩
   obtain rfl:w'=w2:=hw.symm
   refine ⟨trivial,?_⟩
   simp only [↓zZ1,↓reduceIte,Nat.reduceEqDiff,rg,ow_70]
   apply hK;clear hK K
   refine W_false (by simp only [zZ2,Nat.reduceEqDiff,↓reduceIte,zZ3]<;>rfl) (W_skip ?_)
   show W _ _ _ _ _ _
   obtain ⟨c,hc⟩:∃ c,cs[0]? = some c:=⟨_,List.getElem?_eq_getElem (by have:=n.len;omega)⟩
   have hc0:=n.kids.c0
   rw [List.length_map] at hc0
   have hcr:rd w' ba oa=some (ptr c.b):=ptr_at (i:=0) n.kids.row (by rw [List.getElem?_map,hc];rfl)
   have i0:=idx0 1 ba oa cs.length (by have:=n.len;omega)
   refine W_rg fun K hK=>(W_text [true,true,true,true,true,true,true,true,true] (by kernel_rfl) ?_);simp only [↓zZ1,↓reduceIte,Nat.reduceEqDiff,rg,ow_70,e4,ptr_eq,ho.h3,hc0,i0,hcr]
   apply hK;clear hK K
   refine ⟨h',by omega,c.b,d-1,c.xs,c.F,by omega,X,n.sub c (List.mem_of_getElem? hc),?_,?_⟩
   ·simp only [upd_eq,Nat.reduceEqDiff,↓reduceIte];rfl
   ·simp only [upd_eq,Nat.reduceEqDiff,↓reduceIte];rw [show h-h'=h-(h'+1)+1 by omega]
inductive Op where
 | set:It->Op
 | pmin:Op
 | pmax:Op
def Op.cel:Op->List Value
 | .set x=>[.int .i64 0,.int .i64 0,.int .i64 x.1,.int .i64 x.2,.int .i64 0,.int .i64 0,.int .i64 0,.bool false,.bool false]
 | .pmin=>[.int .i64 6,.int .i64 0,.int .i64 0,.int .i64 0,.int .i64 0,.int .i64 0,.int .i64 0,.bool false,.bool false]
 | .pmax=>[.int .i64 7,.int .i64 0,.int .i64 0,.int .i64 0,.int .i64 0,.int .i64 0,.int .i64 0,.bool false,.bool false]
def Eop:Enc Op where
 cel:=Op.cel
 sz:=9
 len o:=by cases o<;>rfl
 one o v hv:=by cases o<;>(simp [Op.cel] at hv;rcases hv with rfl | rfl | rfl | rfl | rfl | rfl | rfl | rfl | rfl<;>rfl)
 pos:=by decide
def stV (o:Op):Value:=.agg o.cel.toArray
theorem stV_oc (o:Op):oc (stV o).cells.toList:=Eop.one o
def opL (ord:List Int):Op->List It->List It
 | .set x,xs=>put O (rkI ord) x xs
 | .pmin,xs=>xs.tail
 | .pmax,xs=>xs.dropLast
def opA (ord:List Int):Op->List It->It × Bool
 | .set x,xs=>foP ((at? O (rkI ord) (rkI ord x) xs).getD zIt) (hit O (rkI ord) (rkI ord x) xs)
 | .pmin,xs=>foP (xs.head?.getD zIt) xs.head?.isSome
 | .pmax,xs=>foP (xs.getLast?.getD zIt) xs.getLast?.isSome
def OpW (ord:List Int) (d:Nat):Op->Sh It->Sh It->Prop
 | .set x,s,s'=>RootR ord d x s s'
 | .pmin,s,s'=>(s.kl=0->s' = .nd [] [])/\(s.kl ≠ 0->PopW ord d firstSel false s s')
 | .pmax,s,s'=>(s.kl=0->s' = .nd [] [])/\(s.kl ≠ 0->PopW ord d lastSel true s s')
theorem OpW.one {ord:List Int} {d:Nat} {o:Op} {s s1 s2:Sh It} (h1:OpW ord d o s s1) (h2:OpW ord d o s s2):s1=s2:=by
 cases o with
 | set x=>exact RootR.one h1 h2
 | pmin =>
  by_cases h:s.kl=0
  ·rw [h1.1 h,h2.1 h]
  ·exact (h1.2 h).one (h2.2 h)
 | pmax =>
  by_cases h:s.kl=0
  ·rw [h1.1 h,h2.1 h]
  ·exact (h1.2 h).one (h2.2 h)
theorem TreeAt.nil {A m d:Nat} {iso:Int} {ord:List Int} {xs:List It} {F:FS It} {w:World} (hd:2<=d) (h:TreeAt A ord w m d iso xs F) (hx:xs=[]):F.s = .nd [] []:=by
 rcases h.root with ⟨_,_,g⟩ | ⟨h',b,_,ht⟩
 ·exact g
 ·have:=Tr.height (by omega) (Nat.le_refl 1) ht
  rw [hx] at this;simp at this
theorem TreeAt.kl {A m d:Nat} {iso:Int} {ord:List Int} {xs:List It} {F:FS It} {w:World} (h:TreeAt A ord w m d iso xs F) (hx:xs ≠ []):F.s.kl ≠ 0:=by
 rcases h.root with ⟨g,_,_⟩ | ⟨h',b,_,ht⟩
 ·exact (hx g).elim
 ·exact ht.kl1 (Nat.le_refl _)
theorem z_fou:zK Try.prog 35=some [.int .i64 0,.int .i64 0,.bool false]:=by kernel_rfl
theorem ld_fou:ldK Try.prog 35=some (some 3):=by kernel_rfl
def StepQ (A m d:Nat) (iso:Int) (ord:List Int) (o:Op) (xs:List It) (F:FS It) (w:World) (v:Value) (w':World):Prop :=
 v = .tuple #[foV (opA ord o xs),.slice none 0 0]/\Ext (mapF m F) w w'/\∃ F',TreeAt A ord w' m d iso (opL ord o xs) F'/\OpW ord d o F.s F'.s/\∀ y o,F' y o->F y o\/w.heap.size<=y
set_option maxHeartbeats 1600000 in
set_option maxRecDepth 8000 in
theorem step_any (A m d:Nat) (iso:Int) (ord:List Int) (hd:2<=d) (hd':d<=128) (o:Op) (xs:List It) (F:FS It) (hv:Value) (w:World) (hM:TreeAt A ord w m d iso xs F) (hbig:xs.length<1152921504606846976) :
  CallK Try.prog 106 #[ptr m,stV o,hv] w (StepQ A m d iso ord o xs F w):=by
 have hml:=hM.mlt
 refine calls_of_W [.cell 6 35,.tmp 7] Try.func106 rfl Try.ntmps106 Try.results106 (by simp) fun e he=>?_
 have e0:e 0=ptr m:=he 0 _ rfl
 have e1:e 1=stV o:=he 1 _ rfl
 clear he
 refine W_sq fun K hK=>(W_text [false,false,true] (by kernel_rfl) ?_);simp only [↓zZ1,↓reduceIte,Nat.reduceEqDiff,rg,ow_106]
 refine do_box (v:=stV o) (by simp only [evt];exact e1) fun w1 n1=>⟨trivial,?_⟩
 simp only [↓zZ1,↓reduceIte,Nat.reduceEqDiff,rg,ow_106]
 refine do_alloc z_fou fun w2 n2=>⟨trivial,?_⟩
 simp only [↓zZ1,↓reduceIte,Nat.reduceEqDiff,rg,ow_106]
 apply hK;clear hK K
 refine W_sq fun K hK=>(W_text [false] (by kernel_rfl) ?_);simp only [↓zZ1,↓reduceIte,Nat.reduceEqDiff,rg,ow_106]
 refine do_alloc dz_it fun w3 n3=>⟨trivial,?_⟩
 simp only [↓zZ1,↓reduceIte,Nat.reduceEqDiff,rg,ow_106]
 apply hK;clear hK K
 refine W_sq fun K hK=>(W_text [true] (by kernel_rfl) ?_);simp only [↓zZ1,↓reduceIte,Nat.reduceEqDiff,rg,ow_106]
 apply hK;clear hK K
 have s1:=n1.size
 have s2:=n2.size
 have s3:=n3.size
 have X3:Ext noF w w3:=(n1.ext.tr n2.ext).tr n3.ext
 have rs:Row w3 w.heap.size 0 o.cel:=(n2.ext.tr n3.ext).row n1.row fun _ _ g=>g
 have wf3:wok w3 w1.heap.size 3:=n3.ext.wok n2.wok
 have wx3:wok w3 w2.heap.size 2:=n3.wok
 have hM3:=hM.ext X3
 have hFlt:∀ y o,F y o->y<w.heap.size:=hM.lt
 clear n1 n2 n3
 refine W_sqx fun J hJ=>?_
 have hend:∀ (g:Env) (w5:World) (y:It) (ok:Bool) (F':FS It),g 6=ptr w1.heap.size->g 8=ptr w2.heap.size->g 9 = .bool ok->opA ord o xs=foP y ok->Ext (fun y o=>mapF m F y o\/y=w2.heap.size) w3 w5->Row w5 w2.heap.size 0 (E.cel y)->TreeAt A ord w5 m d iso (opL ord o xs) F'->OpW ord d o F.s F'.s->(∀ y o,F' y o->F y o\/w3.heap.size<=y)->J g w5:=by
  intro g w5 y ok F' g6 g8 g9 hA X5 r5 hM5 hW hF'
  refine hJ _ _ ?_;clear hJ J
  have iy:=iX_at r5
  refine W_sq fun K hK=>(W_text [true,true,false,false,true] (by kernel_rfl) ?_);simp only [↓zZ1,↓reduceIte,Nat.reduceEqDiff,rg,ow_106,g8,g9,ptr_eq,iy]
  refine do_call fn_44 (vs:=#[iV y,.bool ok]) (by simp only [zZ2,Nat.reduceEqDiff,↓reduceIte,zZ4]<;>rfl) (found_any y ok w5) ?_
  rintro _ w6 ⟨rfl,x6⟩
  refine ⟨trivial,?_⟩
  simp only [↓zZ1,↓reduceIte,Nat.reduceEqDiff,rg,ow_106]
  have w56:wok w6 w1.heap.size 3:=x6.wok (X5.wok wf3)
  refine do_store (b:=w1.heap.size) (o:=0) (v:=foV (foP y ok)) (by simp only [zZ2,Nat.reduceEqDiff,↓reduceIte];exact g6) (by simp only [zZ2,Nat.reduceEqDiff,↓reduceIte,zZ3]<;>rfl) sz_35 rfl w56 (by decide) (oc_fo _) fun w7 x7 r7 s7=>⟨trivial,?_⟩
  simp only [↓zZ1,↓reduceIte,Nat.reduceEqDiff,rg,ow_106]
  apply hK;clear hK K
  have sz5:=X5.size
  have sz6:=x6.size
  have hF'n:∀ y o,F' y o->y ≠ w1.heap.size:=fun y o g k=>by
   rcases hF' y o g with g | g
   ·have:=hFlt y o g;omega
   ·omega
  refine W_ret (endQ_ct g6 (by simp only [upd_eq,Nat.reduceEqDiff,↓reduceIte]<;>rfl) ld_fou (by rw [loadV_some];exact (show Row w7 w1.heap.size 0 (foV (foP y ok)).cells.toList from r7).rdA 3 (Nat.le_refl _)) ⟨by rw [hA];rfl,?_,F',(hM5.ext x6).extG x7 (fun y o g k=>hF'n y o g k.1) (fun y o g=>by have:=g.1;omega),hW,fun y o g=>(hF' y o g).imp id fun g=>by omega⟩)
  exact ((X3.trans X5 (fun _ _ g=>g.elim) fun y o hy g=>g.elim id fun g=>by omega).tr (x6.mono fun _ _ _ g=>g.elim)).trans x7 (fun _ _ g=>g) fun y o hy g=>by have:=g.1;omega
 clear hJ
 cases o with
 | set x =>
  obtain ⟨r0,-,r2,r3,-,-,-,r7,-⟩:=by
   have rs:=rs
   simp only [Op.cel,Row.cons] at rs
   exact rs
  have zx:rdA w3 w.heap.size 2 2=some (iV x):=Row.rdA (l:=[.int .i64 x.1,.int .i64 x.2]) (Row.cons.2 ⟨r2,Row.cons.2 ⟨r3,Row.nil _ _ _⟩⟩) 2 (Nat.le_refl _)
  refine W_sq fun K hK=>(W_text [true,true] (by kernel_rfl) ?_);simp only [↓zZ1,↓reduceIte,Nat.reduceEqDiff,rg,ow_106,ptr_eq,r0]
  apply hK;clear hK K
  refine W_block ?_
  refine W_sq fun K hK=>(W_text [true,true] (by kernel_rfl) ?_);simp only [↓zZ1,↓reduceIte,Nat.reduceEqDiff,rg,ow_106]
  apply hK;clear hK K
  refine W_true (by simp only [zZ2,Nat.reduceEqDiff,↓reduceIte,zZ3]<;>rfl) ?_
  refine W_sq fun K hK=>(W_text [true,true] (by kernel_rfl) ?_);simp only [↓zZ1,↓reduceIte,Nat.reduceEqDiff,rg,ow_106,ptr_eq,r7]
  apply hK;clear hK K
  refine W_false (by simp only [zZ2,Nat.reduceEqDiff,↓reduceIte,zZ3]<;>rfl) ?_
  refine W_rg fun K hK=>(W_text [true,true,true,false,true,true,true,false,true] (by kernel_rfl) ?_);simp only [↓zZ1,↓reduceIte,Nat.reduceEqDiff,rg,ow_106,e0,ptr_eq,zx]
  refine do_call fn_55 (by simp only [zZ2,Nat.reduceEqDiff,↓reduceIte,zZ4]<;>rfl) (setG_any A m d iso ord x hd hd' xs F w3 hM3 hbig) ?_
  rintro _ w4 ⟨rfl,x4,F',hM4,hR,hF'⟩
  refine ⟨trivial,?_⟩
  simp only [↓zZ1,↓reduceIte,Nat.reduceEqDiff,rg,ow_106]
  have hx2:∀ o,¬ mapF m F w2.heap.size o:=fun o g=>by
   rcases g with g | g
   ·have:=hFlt _ _ g;omega
   ·omega
  refine do_store (by simp only [zZ2,Nat.reduceEqDiff,↓reduceIte,zZ3]<;>rfl) (by simp only [zZ2,Nat.reduceEqDiff,↓reduceIte,zZ3]<;>rfl) sz_33 (itV_len _) (x4.wok wx3) (by decide) (itV_oc _) fun w5 x5 r5 s5=>⟨trivial,?_⟩
  simp only [↓zZ1,↓reduceIte,Nat.reduceEqDiff,rg,ow_106]
  apply hK;clear hK K
  have hF'n:∀ y o,F' y o->y ≠ w2.heap.size:=fun y o g k=>by
   rcases hF' y o g with g | g
   ·have:=hFlt y o g;omega
   ·omega
  exact hend _ w5 _ _ F' rfl rfl rfl rfl ((x4.mono fun _ _ _ g=>.inl g).tr (x5.mono fun y o _ g=>.inr g.1)) r5 (hM4.extG x5 (fun y o g k=>hF'n y o g k.1) fun y o g=>by have:=g.1;omega) hR hF'
 | pmin =>
  have r0:rd w3 w.heap.size 0=some (.int .i64 6):=(Row.cons.1 rs).1
  refine W_sq fun K hK=>(W_text [true,true] (by kernel_rfl) ?_);simp only [↓zZ1,↓reduceIte,Nat.reduceEqDiff,rg,ow_106,ptr_eq,r0]
  apply hK;clear hK K
  refine W_block ?_
  refine W_sq fun K hK=>(W_text [true,true] (by kernel_rfl) ?_);simp only [↓zZ1,↓reduceIte,Nat.reduceEqDiff,rg,ow_106]
  apply hK;clear hK K
  refine W_false (by simp only [zZ2,Nat.reduceEqDiff,↓reduceIte,zZ3]<;>rfl) ?_
  refine W_sq fun K hK=>(W_text [true,true] (by kernel_rfl) ?_);simp only [↓zZ1,↓reduceIte,Nat.reduceEqDiff,rg,ow_106]
  apply hK;clear hK K
  refine W_false (by simp only [zZ2,Nat.reduceEqDiff,↓reduceIte,zZ3]<;>rfl) ?_
  refine W_sq fun K hK=>(W_text [true,true] (by kernel_rfl) ?_);simp only [↓zZ1,↓reduceIte,Nat.reduceEqDiff,rg,ow_106]
  apply hK;clear hK K
  refine W_false (by simp only [zZ2,Nat.reduceEqDiff,↓reduceIte,zZ3]<;>rfl) ?_
  refine W_sq fun K hK=>(W_text [true,true] (by kernel_rfl) ?_);simp only [↓zZ1,↓reduceIte,Nat.reduceEqDiff,rg,ow_106]
  apply hK;clear hK K
  refine W_false (by simp only [zZ2,Nat.reduceEqDiff,↓reduceIte,zZ3]<;>rfl) ?_
  refine W_sq fun K hK=>(W_text [true,true] (by kernel_rfl) ?_);simp only [↓zZ1,↓reduceIte,Nat.reduceEqDiff,rg,ow_106]
  apply hK;clear hK K
  refine W_false (by simp only [zZ2,Nat.reduceEqDiff,↓reduceIte,zZ3]<;>rfl) ?_
  refine W_sq fun K hK=>(W_text [true,true] (by kernel_rfl) ?_);simp only [↓zZ1,↓reduceIte,Nat.reduceEqDiff,rg,ow_106]
  apply hK;clear hK K
  refine W_false (by simp only [zZ2,Nat.reduceEqDiff,↓reduceIte,zZ3]<;>rfl) ?_
  refine W_sq fun K hK=>(W_text [true,true] (by kernel_rfl) ?_);simp only [↓zZ1,↓reduceIte,Nat.reduceEqDiff,rg,ow_106]
  apply hK;clear hK K
  refine W_true (by simp only [zZ2,Nat.reduceEqDiff,↓reduceIte,zZ3]<;>rfl) ?_
  refine W_rg fun K hK=>(W_text [true,false,true,true,true,false,true] (by kernel_rfl) ?_);simp only [↓zZ1,↓reduceIte,Nat.reduceEqDiff,rg,ow_106,e0]
  refine do_call fn_141 (by simp only [zZ2,Nat.reduceEqDiff,↓reduceIte,zZ4]<;>rfl) (popMin_any A m d iso ord hd hd' xs F w3 hM3 hbig) ?_
  rintro _ w4 ⟨rfl,x4,F',hM4,hW,hF'⟩
  refine ⟨trivial,?_⟩
  simp only [↓zZ1,↓reduceIte,Nat.reduceEqDiff,rg,ow_106,gotG_eq]
  have hx2:∀ o,¬ mapF m F w2.heap.size o:=fun o g=>by
   rcases g with g | g
   ·have:=hFlt _ _ g;omega
   ·omega
  refine do_store (by simp only [zZ2,Nat.reduceEqDiff,↓reduceIte,zZ3]<;>rfl) (by simp only [zZ2,Nat.reduceEqDiff,↓reduceIte,zZ3]<;>rfl) sz_33 (itV_len _) (x4.wok wx3) (by decide) (itV_oc _) fun w5 x5 r5 s5=>⟨trivial,?_⟩
  simp only [↓zZ1,↓reduceIte,Nat.reduceEqDiff,rg,ow_106]
  apply hK;clear hK K
  have hF'n:∀ y o,F' y o->y ≠ w2.heap.size:=fun y o g k=>by
   rcases hF' y o g with g | g
   ·have:=hFlt y o g;omega
   ·omega
  refine hend _ w5 _ _ F' rfl rfl rfl rfl ((x4.mono fun _ _ _ g=>.inl g).tr (x5.mono fun y o _ g=>.inr g.1)) r5 (hM4.extG x5 (fun y o g k=>hF'n y o g k.1) fun y o g=>by have:=g.1;omega) ⟨fun hk=>?_,fun hk=>?_⟩ hF'
  ·by_cases hx:xs=[]
   ·exact hM4.nil hd (by rw [hx];rfl)
   ·exact (hM3.kl hx hk).elim
  ·refine hW fun hn=>hk ?_
   have:xs=[]:=by cases xs with | nil=>rfl | cons y ys=>simp at hn
   rw [hM3.nil hd this];rfl
 | pmax =>
  have r0:rd w3 w.heap.size 0=some (.int .i64 7):=(Row.cons.1 rs).1
  refine W_sq fun K hK=>(W_text [true,true] (by kernel_rfl) ?_);simp only [↓zZ1,↓reduceIte,Nat.reduceEqDiff,rg,ow_106,ptr_eq,r0]
  apply hK;clear hK K
  refine W_block ?_
  refine W_sq fun K hK=>(W_text [true,true] (by kernel_rfl) ?_);simp only [↓zZ1,↓reduceIte,Nat.reduceEqDiff,rg,ow_106]
  apply hK;clear hK K
  refine W_false (by simp only [zZ2,Nat.reduceEqDiff,↓reduceIte,zZ3]<;>rfl) ?_
  refine W_sq fun K hK=>(W_text [true,true] (by kernel_rfl) ?_);simp only [↓zZ1,↓reduceIte,Nat.reduceEqDiff,rg,ow_106]
  apply hK;clear hK K
  refine W_false (by simp only [zZ2,Nat.reduceEqDiff,↓reduceIte,zZ3]<;>rfl) ?_
  refine W_sq fun K hK=>(W_text [true,true] (by kernel_rfl) ?_);simp only [↓zZ1,↓reduceIte,Nat.reduceEqDiff,rg,ow_106]
  apply hK;clear hK K
  refine W_false (by simp only [zZ2,Nat.reduceEqDiff,↓reduceIte,zZ3]<;>rfl) ?_
  refine W_sq fun K hK=>(W_text [true,true] (by kernel_rfl) ?_);simp only [↓zZ1,↓reduceIte,Nat.reduceEqDiff,rg,ow_106]
  apply hK;clear hK K
  refine W_false (by simp only [zZ2,Nat.reduceEqDiff,↓reduceIte,zZ3]<;>rfl) ?_
  refine W_sq fun K hK=>(W_text [true,true] (by kernel_rfl) ?_);simp only [↓zZ1,↓reduceIte,Nat.reduceEqDiff,rg,ow_106]
  apply hK;clear hK K
  refine W_false (by simp only [zZ2,Nat.reduceEqDiff,↓reduceIte,zZ3]<;>rfl) ?_
  refine W_sq fun K hK=>(W_text [true,true] (by kernel_rfl) ?_);simp only [↓zZ1,↓reduceIte,Nat.reduceEqDiff,rg,ow_106]
  apply hK;clear hK K
  refine W_false (by simp only [zZ2,Nat.reduceEqDiff,↓reduceIte,zZ3]<;>rfl) ?_
  refine W_sq fun K hK=>(W_text [true,true] (by kernel_rfl) ?_);simp only [↓zZ1,↓reduceIte,Nat.reduceEqDiff,rg,ow_106]
  apply hK;clear hK K
  refine W_false (by simp only [zZ2,Nat.reduceEqDiff,↓reduceIte,zZ3]<;>rfl) ?_
  refine W_sq fun K hK=>(W_text [true,true] (by kernel_rfl) ?_);simp only [↓zZ1,↓reduceIte,Nat.reduceEqDiff,rg,ow_106]
  apply hK;clear hK K
  refine W_true (by simp only [zZ2,Nat.reduceEqDiff,↓reduceIte,zZ3]<;>rfl) ?_
  refine W_rg fun K hK=>(W_text [true,false,true,true,true,false,true] (by kernel_rfl) ?_);simp only [↓zZ1,↓reduceIte,Nat.reduceEqDiff,rg,ow_106,e0]
  refine do_call fn_142 (by simp only [zZ2,Nat.reduceEqDiff,↓reduceIte,zZ4]<;>rfl) (popMax_any A m d iso ord hd hd' xs F w3 hM3 hbig) ?_
  rintro _ w4 ⟨rfl,x4,F',hM4,hW,hF'⟩
  refine ⟨trivial,?_⟩
  simp only [↓zZ1,↓reduceIte,Nat.reduceEqDiff,rg,ow_106,gotG_eq]
  have hx2:∀ o,¬ mapF m F w2.heap.size o:=fun o g=>by
   rcases g with g | g
   ·have:=hFlt _ _ g;omega
   ·omega
  refine do_store (by simp only [zZ2,Nat.reduceEqDiff,↓reduceIte,zZ3]<;>rfl) (by simp only [zZ2,Nat.reduceEqDiff,↓reduceIte,zZ3]<;>rfl) sz_33 (itV_len _) (x4.wok wx3) (by decide) (itV_oc _) fun w5 x5 r5 s5=>⟨trivial,?_⟩
  simp only [↓zZ1,↓reduceIte,Nat.reduceEqDiff,rg,ow_106]
  apply hK;clear hK K
  have hF'n:∀ y o,F' y o->y ≠ w2.heap.size:=fun y o g k=>by
   rcases hF' y o g with g | g
   ·have:=hFlt y o g;omega
   ·omega
  refine hend _ w5 _ _ F' rfl rfl rfl rfl ((x4.mono fun _ _ _ g=>.inl g).tr (x5.mono fun y o _ g=>.inr g.1)) r5 (hM4.extG x5 (fun y o g k=>hF'n y o g k.1) fun y o g=>by have:=g.1;omega) ⟨fun hk=>?_,fun hk=>?_⟩ hF'
  ·by_cases hx:xs=[]
   ·exact hM4.nil hd (by rw [hx];rfl)
   ·exact (hM3.kl hx hk).elim
  ·refine hW fun hn=>hk ?_
   have:xs=[]:=by cases xs with | nil=>rfl | cons y ys=>simp at hn
   rw [hM3.nil hd this];rfl
def opsL (ord:List Int) (ops:List Op):List It:=ops.foldl (fun xs o=>opL ord o xs) []
theorem opsL_snoc (ord:List Int) (ops:List Op) (o:Op):opsL ord (ops++[o])=opL ord o (opsL ord ops):=by simp [opsL]
theorem opL_len (ord:List Int) (o:Op) (xs:List It):(opL ord o xs).length<=xs.length+1:=by
 cases o with
 | set x=>have:=put_length O (rkI ord) x xs;show (put O (rkI ord) x xs).length<=_;split at this<;>omega
 | pmin=>show xs.tail.length<=_;simp;omega
 | pmax=>show xs.dropLast.length<=_;simp;omega
theorem opsL_len (ord:List Int) (ops:List Op):(opsL ord ops).length<=ops.length:=by
 have h:∀ (ops:List Op) (xs:List It),(ops.foldl (fun xs o=>opL ord o xs) xs).length<=xs.length+ops.length:=by
  intro ops
  induction ops with
  | nil=>intro xs;simp
  | cons o ops ih=>intro xs;have h1:=ih (opL ord o xs);have h2:=opL_len ord o xs;simp only [List.foldl_cons,List.length_cons];omega
 have:=h ops []
 simpa [opsL] using this
inductive RunW (ord:List Int) (d:Nat):Sh It->List Op->Sh It->Prop where
 | nil {s:Sh It}:RunW ord d s [] s
 | cons {s s1 s2:Sh It} {o:Op} {ops:List Op} (h:OpW ord d o s s1) (r:RunW ord d s1 ops s2):RunW ord d s (o::ops) s2
theorem RunW.one {ord:List Int} {d:Nat} {s s1 s2:Sh It} {ops:List Op} (h1:RunW ord d s ops s1) (h2:RunW ord d s ops s2):s1=s2:=by
 induction h1 with
 | nil=>cases h2;rfl
 | cons h r ih =>
  cases h2 with
  | cons h' r' =>
   rw [h'.one h] at r'
   exact ih r'
theorem RunW.snoc {ord:List Int} {d:Nat} {s s1 s2:Sh It} {ops:List Op} {o:Op} (h1:RunW ord d s ops s1) (h:OpW ord d o s1 s2):RunW ord d s (ops++[o]) s2:=by
 induction h1 with
 | nil=>exact .cons h .nil
 | cons h' r ih=>exact .cons h' (ih h)
theorem z_ph:zK Try.prog 109=some [.bool false,.bool false,.bool false,.bool false,.bool false,.bool false,.bool false,.bool false,.int .u8 0,.int .u8 0,.int .u8 0,.int .u8 0,.int .u8 0,.int .u8 0,.int .u8 0,.int .u8 0]:=by kernel_rfl
theorem z_stp:zK Try.prog 78=some [.int .i64 0,.int .i64 0,.int .i64 0,.int .i64 0,.int .i64 0,.int .i64 0,.int .i64 0,.bool false,.bool false]:=by kernel_rfl
theorem bs_tr (m:Nat):bsV Try.prog 124 1 [(0,ptr m)]=some (84,[ptr m]):=by kernel_rfl
def rpL (x:It × Bool) (n:Int):List Value:=[.int .i64 x.1.1,.int .i64 x.1.2,.bool x.2,.int .i64 n,.slice none 0 0]
theorem bu_rp (x:It) (b:Bool) (n:Int):buildV Try.prog 178 [(0,iV x),(1,.bool b),(2,.int .i64 n),(3,.slice none 0 0)]=some (.agg (rpL (x,b) n).toArray):=by kernel_rfl
theorem bs_rp (x:It × Bool) (n:Int):bsV Try.prog 125 1 [(0,.agg (rpL x n).toArray)]=some (178,rpL x n):=by kernel_rfl
theorem el_rp:elK Try.prog 125=some (178,5,56,[.int .i64 0,.int .i64 0,.bool false,.int .i64 0,.slice none 0 0]):=by kernel_rfl
theorem ni_rp:noInt Try.prog 125=true:=by kernel_rfl
theorem rpL_oc (x:It × Bool) (n:Int):oc (rpL x n):=fun v hv=>by simp [rpL] at hv;rcases hv with rfl | rfl | rfl | rfl | rfl<;>rfl
theorem stV_at {w:World} {b o:Nat} {l:List Op} (h:Row w b o (flat Eop l)) {i:Nat} {x:Op} (hi:l[i]? = some x):rdA w b (o+i*9) 9=some (stV x):=by
 have:=(row_at Eop h hi).rdA 9 (by rw [Eop.len];exact Nat.le_refl _)
 rw [List.take_of_length_le (by rw [Eop.len];exact Nat.le_refl _)] at this
 exact this
def offS (v:Value) (F:Nat->Nat->Prop):Prop:=∀ b o n c,v = .slice (some ⟨b,o,none⟩) n c->∀ p,¬ F b p
theorem app_offS {w w':World} {sz n m B:Nat} {v v':Value} {l l':List Value} {F:Nat->Nat->Prop} (h:AppRes w sz v n m l l' v' w') (hv:since B v) (ho:offS v F) (hF:∀ y o,F y o->y<w.heap.size) :
  offS v' F/\Ext (fun y _=>B<=y/\∀ p,¬ F y p) w w':=by
 rcases h.2 with ⟨rfl,rfl,h3⟩ | ⟨b0,o0,cap0,rfl,rfl,h3,h4,h5⟩ | ⟨cap',rfl,h2,h3⟩
 ·exact ⟨ho,Ext.refl _ _⟩
 ·have hb:=hv _ _ _ _ rfl
  have hf:=ho _ _ _ _ rfl
  refine ⟨fun b o n c h=>?_,h3.mono fun y o _ g=>by simp only [rng] at g;rw [g.1];exact ⟨hb,hf⟩⟩
  simp only [Value.slice.injEq,Option.some.injEq,Addr.mk.injEq] at h
  rw [<-h.1.1];exact hf
 ·refine ⟨fun b o n c h p hp=>?_,h2.mono fun y o _ g=>g.elim⟩
  simp only [Value.slice.injEq,Option.some.injEq,Addr.mk.injEq] at h
  have:=hF _ _ hp
  omega
structure PlS (W0 B A m d tb:Nat) (ord:List Int) (ops:List Op) (v:Value) (F:FS It) (w:World):Prop where
 t:TreeAt A ord w m d 1 (opsL ord ops) F
 r:RunW ord d (.nd [] []) ops F.s
 s:∃ rl,SlV w 5 v ops.length rl
 si:since B v
 of:offS v F
 tv:rd w tb 0=some (ptr m)
 F0:∀ y o,F y o->W0<=y/\y ≠ tb
 lt:W0<=m/\m<tb/\tb<B
theorem PlS.ext {W0 B A m d tb:Nat} {ord:List Int} {ops:List Op} {v:Value} {F:FS It} {w w':World} (h:PlS W0 B A m d tb ord ops v F w) (x:Ext noF w w'):PlS W0 B A m d tb ord ops v F w' :=
 ⟨h.t.ext x,h.r,h.s.imp fun _ g=>g.ext0 x,h.si,h.of,x.rd h.tv fun g=>g,h.F0,h.lt⟩
set_option maxHeartbeats 3200000 in
set_option maxRecDepth 8000 in
theorem play_any (d:Nat) (hd:DOk d) (ord:List Int) (sv:Value) (nl:Bool) (ops:List Op) (sc:Value) (w:World) (hO:SlInt w sv ord) (hOb:ord.length<=2147483647) (hsc:SlV w 9 sc ops.length (flat Eop ops)) (hob:ops.length<=4294967294) :
  CallK Try.prog 67 #[mkV sv d nl,sc] w fun v w'=>∃ tb A m F rv,v = .tuple #[.slice (some ⟨tb,0,none⟩) (1:Nat) 1,rv]/\rd w' tb 0=some (ptr m)/\TreeAt A ord w' m (degOf d) 1 (opsL ord ops) F/\RunW ord (degOf d) (.nd [] []) ops F.s/\Ext noF w w':=by
 obtain ⟨hd2,hd3⟩:=hd.of
 obtain ⟨sa,scp,hsv⟩:=hsc.shape
 refine calls_of_W [.tmp 4,.tmp 5] Try.func67 rfl Try.ntmps67 Try.results67 (by simp) fun e he=>?_
 have e0:e 0=mkV sv d nl:=he 0 _ rfl
 have e1:e 1 = .slice sa ops.length scp:=by rw [<-hsv];exact he 1 _ rfl
 clear he
 refine W_sq fun K hK=>(W_text [false,true,true] (by kernel_rfl) ?_);simp only [↓zZ1,↓reduceIte,Nat.reduceEqDiff,rg,ow_67]
 refine do_box (by simp only [evt];exact e0) fun w1 n1=>⟨trivial,?_⟩
 simp only [↓zZ1,↓reduceIte,Nat.reduceEqDiff,rg,ow_67]
 apply hK;clear hK K
 have s1:=n1.size
 have rm:=mk_at (show Row w1 w.heap.size 0 (mkL sv d nl) from n1.row)
 refine W_sq fun K hK=>(W_text [true,false,false,true] (by kernel_rfl) ?_);simp only [↓zZ1,↓reduceIte,Nat.reduceEqDiff,rg,ow_67,ptr_eq,rm]
 refine do_call fn_43 (by simp only [zZ2,Nat.reduceEqDiff,↓reduceIte,zZ4]<;>rfl) (growG_any d hd ord sv nl [] (.slice none 0 0) w1 (SlV.ext0 hO n1.ext) hOb ⟨rfl,.inl ⟨rfl,rfl⟩⟩ (by decide)) ?_
 rintro _ w2 ⟨x2,A,m,F0,rfl,hM,hm,hF0⟩
 refine ⟨trivial,?_⟩
 simp only [↓zZ1,↓reduceIte,Nat.reduceEqDiff,rg,ow_67]
 refine do_bsl rfl (bs_tr m) fun w3 n3=>⟨trivial,?_⟩
 simp only [↓zZ1,↓reduceIte,Nat.reduceEqDiff,rg,ow_67]
 apply hK;clear hK K
 refine W_sq fun K hK=>(W_text [false] (by kernel_rfl) ?_);simp only [↓zZ1,↓reduceIte,Nat.reduceEqDiff,rg,ow_67]
 refine do_alloc z_ph fun w4 n4=>⟨trivial,?_⟩
 simp only [↓zZ1,↓reduceIte,Nat.reduceEqDiff,rg,ow_67]
 apply hK;clear hK K
 refine W_sq fun K hK=>(W_text [true] (by kernel_rfl) ?_);simp only [↓zZ1,↓reduceIte,Nat.reduceEqDiff,rg,ow_67]
 apply hK;clear hK K
 have s2:=x2.size
 have s3:=n3.size
 have s4:=n4.size
 have hml:=hM.mlt
 have X4:Ext noF w w4:=((n1.ext.tr x2).tr n3.ext).tr n4.ext
 obtain ⟨tb,htb⟩:∃ tb,tb=w2.heap.size:=⟨_,rfl⟩
 have hst:F0.s = .nd [] []:=hM.nil hd2 rfl
 have hP0:PlS w.heap.size w3.heap.size A m (degOf d) tb ord (ops.take 0) (.slice none 0 0) F0 w4:=by
  rw [List.take_zero]
  refine ⟨(hM.ext n3.ext).ext n4.ext,by rw [hst];exact .nil,⟨[],rfl,.inl ⟨rfl,rfl⟩⟩,(fun _ _ _ _ h=>by cases h),(fun _ _ _ _ h=>by cases h),n4.ext.rd (by rw [htb];exact (Row.cons.1 n3.row).1) fun g=>g,fun y o g=>⟨?_,?_⟩,by omega,by omega,by omega⟩
  ·have:=hF0 y o g;omega
  ·have:=hM.lt y o g;omega
 rw [<-htb]
 refine W_seq (W_seq ?_)
 refine W_rg fun K hK=>(W_text [true,true,true] (by kernel_rfl) ?_);simp only [↓zZ1,↓reduceIte,Nat.reduceEqDiff,rg,ow_67,e1]
 apply hK;clear hK K
 show W _ _ _ _ _ _
 refine W_block (W_loop (fun mm e w'=>∃ (i:Nat) (F:FS It),mm=ops.length-i/\i<=ops.length/\e 6 = .slice (some ⟨tb,0,none⟩) 1 1/\e 7=ptr w3.heap.size/\e 17 = .slice sa ops.length scp/\e 18 = .int .i64 ops.length/\e 19 = .int .i64 i/\Ext noF w w'/\w4.heap.size<=w'.heap.size ∧
   PlS w.heap.size w3.heap.size A m (degOf d) tb ord (ops.take i) (e 8) F w')
  ops.length ⟨0,F0,by simp,by simp,(by first | (simp only [upd_eq,Nat.reduceEqDiff,↓reduceIte];done) | (simp only [upd_eq,Nat.reduceEqDiff,↓reduceIte];rfl)),(by first | (simp only [upd_eq,Nat.reduceEqDiff,↓reduceIte];done) | (simp only [upd_eq,Nat.reduceEqDiff,↓reduceIte];rfl)),(by first | (simp only [upd_eq,Nat.reduceEqDiff,↓reduceIte];done) | (simp only [upd_eq,Nat.reduceEqDiff,↓reduceIte];first | rfl | exact e1)),(by first | (simp only [upd_eq,Nat.reduceEqDiff,↓reduceIte];done) | (simp only [upd_eq,Nat.reduceEqDiff,↓reduceIte];rfl)),(by first | (simp only [upd_eq,Nat.reduceEqDiff,↓reduceIte];done) | (simp only [upd_eq,Nat.reduceEqDiff,↓reduceIte];rfl)),X4,Nat.le_refl _,(hP0)⟩ ?_)
 clear e0 e1 e rm hP0
 rintro mm e w' ⟨i,F,rfl,hi,e6,e7,e17,e18,e19,X,XS,hP⟩
 by_cases hlt:i<ops.length
 ·have ht:=lt_tt i ops.length hlt
  refine W_sq fun K hK=>(W_text [true] (by kernel_rfl) ?_);simp only [↓zZ1,↓reduceIte,Nat.reduceEqDiff,rg,ow_67,e18,e19,ht]
  apply hK;clear hK K
  refine W_seq (W_true (by simp only [zZ2,Nat.reduceEqDiff,↓reduceIte,zZ3]<;>rfl) (W_skip ?_))
  show W _ _ _ _ _ _
  obtain ⟨o,ho⟩:∃ x,ops[i]? = some x:=⟨_,List.getElem?_eq_getElem hlt⟩
  obtain ⟨b1,o1,g1,r1⟩:=hsc.at hsv hlt
  subst g1
  have y1:=stV_at (X.row r1 fun _ _ h=>h) ho
  have htk:ops.take (i+1)=ops.take i++[o]:=by rw [List.take_add_one,ho];rfl
  have hll:=opsL_len ord (ops.take i)
  have hil:(ops.take i).length=i:=by rw [List.length_take];omega
  rw [hil] at hll
  have hlt':=hP.lt
  refine W_seq (W_block ?_)
  refine W_sq fun K hK=>(W_text [true,true,false,false] (by kernel_rfl) ?_);simp only [↓zZ1,↓reduceIte,Nat.reduceEqDiff,rg,ow_67,e17,e19,hlt,y1]
  refine do_alloc z_stp fun w5 n5=>⟨trivial,?_⟩
  simp only [↓zZ1,↓reduceIte,Nat.reduceEqDiff,rg,ow_67]
  refine do_store (v:=stV o) (by simp only [zZ2,Nat.reduceEqDiff,↓reduceIte,zZ3]<;>rfl) (by simp only [zZ2,Nat.reduceEqDiff,↓reduceIte,zZ3]<;>rfl) sz_78 (Eop.len o) n5.wok (by decide) (stV_oc o) fun w6 x6 r6 s6=>⟨trivial,?_⟩
  simp only [↓zZ1,↓reduceIte,Nat.reduceEqDiff,rg,ow_67]
  apply hK;clear hK K
  have s5:=n5.size
  have Y6:Ext noF w' w6:=n5.ext.trans x6 (fun _ _ g=>g) fun y o hy g=>by have:=g.1;omega
  have r6:Row w6 w'.heap.size 0 o.cel:=r6
  have hP6:=hP.ext Y6
  have hdo:∃ k,rd w6 w'.heap.size 0=some (.int .i64 k)/\(k == 10)=false:=by
   cases o<;>exact ⟨_,(Row.cons.1 r6).1,rfl⟩
  obtain ⟨k0,hk0,hk1⟩:=hdo
  have hk2:rd w6 w'.heap.size 1=some (.int .i64 0):=by cases o<;>exact (Row.cons.1 (Row.cons.1 r6).2).1
  have htb6:=hP6.tv
  have i0:idxX (some 1) ⟨tb,0,none⟩ 1 (0:Int)=some (.pointer (some ⟨tb,0,none⟩)):=idxX_s 1 tb 0 1 0 (by decide)
  refine W_sq fun K hK=>(W_text [true,true,true,true,true,false,true,true,true] (by kernel_rfl) ?_);simp only [↓zZ1,↓reduceIte,Nat.reduceEqDiff,rg,ow_67,e6,ptr_eq,hk2]
  refine do_call fn_104 (vs:=#[.int .i64 0,.int .i64 (1:Nat)]) (by simp only [zZ2,Nat.reduceEqDiff,↓reduceIte,zZ4]<;>rfl) (rem_any 0 1 (by decide) (by decide) w6) ?_
  rintro _ _ ⟨rfl,rfl⟩
  refine ⟨trivial,?_⟩
  have hz:((0:Int).tmod ((1:Nat):Int)+((1:Nat):Int)).tmod ((1:Nat):Int)=0:=by decide
  rw [hz]
  simp only [↓zZ1,↓reduceIte,Nat.reduceEqDiff,rg,ow_67,e6,i0,htb6]
  apply hK;clear hK K
  refine W_seq ?_
  refine W_sq fun K hK=>(W_text [true,true,true] (by kernel_rfl) ?_);simp only [↓zZ1,↓reduceIte,Nat.reduceEqDiff,rg,ow_67,ptr_eq,hk0,hk1]
  apply hK;clear hK K
  refine W_false (by simp only [zZ2,Nat.reduceEqDiff,↓reduceIte,zZ3]<;>rfl) (W_skip ?_)
  show W _ _ _ _ _ _
  have y6:rdA w6 w'.heap.size 0 9=some (stV o):=by
   have hol:o.cel.length=9:=Eop.len o
   have:=r6.rdA 9 (by omega)
   rw [List.take_of_length_le (by omega)] at this
   exact this
  refine W_sq fun K hK=>(W_text [true,true,false,true,true,true,false,false,true] (by kernel_rfl) ?_);simp only [↓zZ1,↓reduceIte,Nat.reduceEqDiff,rg,ow_67,e7,ptr_eq,y6]
  refine do_call fn_106 (vs:=#[ptr m,stV o,ptr w3.heap.size]) (by simp only [zZ2,Nat.reduceEqDiff,↓reduceIte,zZ4,e7]<;>rfl) (step_any A m (degOf d) 1 ord hd2 hd3 o (opsL ord (ops.take i)) F (ptr w3.heap.size) w6 hP6.t (by omega)) ?_
  rintro _ w7 ⟨rfl,x7,F',hM7,hW7,hF7⟩
  refine ⟨trivial,?_⟩
  simp only [↓zZ1,↓reduceIte,Nat.reduceEqDiff,rg,ow_67]
  refine do_alloc z_fou fun w8 n8=>⟨trivial,?_⟩
  simp only [↓zZ1,↓reduceIte,Nat.reduceEqDiff,rg,ow_67]
  obtain ⟨fa,hfa⟩:∃ fa,fa=opA ord o (opsL ord (ops.take i)):=⟨_,rfl⟩
  rw [<-hfa]
  obtain ⟨fx,fb⟩:=fa
  clear hfa
  refine do_store (v:=foV (fx,fb)) (by simp only [zZ2,Nat.reduceEqDiff,↓reduceIte,zZ3]<;>rfl) (by simp only [zZ2,Nat.reduceEqDiff,↓reduceIte,zZ3]<;>rfl) sz_35 rfl n8.wok (by decide) (oc_fo _) fun w9 x9 r9 s9=>⟨trivial,?_⟩
  simp only [↓zZ1,↓reduceIte,Nat.reduceEqDiff,rg,ow_67]
  apply hK;clear hK K
  have s7:=x7.size
  have s8:=n8.size
  have s6':=Y6.size
  have Y9:Ext noF w7 w9:=n8.ext.trans x9 (fun _ _ g=>g) fun y o hy g=>by have:=g.1;omega
  have s9':=Y9.size
  have r9:Row w9 w7.heap.size 0 [.int .i64 fx.1,.int .i64 fx.2,.bool fb]:=r9
  have zf:rdA w9 w7.heap.size 0 2=some (iV fx):=r9.rdA 2 (by simp)
  have zb:rd w9 w7.heap.size 2=some (.bool fb):=(Row.cons.1 (Row.cons.1 (Row.cons.1 r9).2).2).1
  obtain ⟨ov,hov⟩:∃ ov,ov=e 8:=⟨_,rfl⟩
  have e8:e 8=ov:=hov.symm
  rw [<-hov] at hP hP6
  obtain ⟨rl,hrl⟩:=hP6.s
  rw [hil] at hrl
  have hbl:∀ b o n c,ov = .slice (some ⟨b,o,none⟩) n c->w3.heap.size<=b/\b<w6.heap.size/\∀ p,¬ F b p:=fun b o n c h=>⟨hP6.si _ _ _ _ h,hrl.lt h,hP6.of _ _ _ _ h⟩
  have hrl9:SlV w9 5 ov i rl:=(hrl.ext x7 fun b o c h j hj g=>by
   obtain ⟨h1,h2,h3⟩:=hbl _ _ _ _ h
   rcases g with g | g
   ·exact h3 _ g
   ·omega).ext0 Y9
  have hM9:=hM7.ext Y9
  have hof:offS ov F':=fun b o n c h p g=>by
   obtain ⟨h1,h2,h3⟩:=hbl _ _ _ _ h
   rcases hF7 b p g with g | g
   ·exact h3 _ g
   ·omega
  have hF0':∀ y o,F' y o->w.heap.size<=y/\y ≠ tb:=fun y o g=>by
   rcases hF7 y o g with g | g
   ·exact hP6.F0 y o g
   ·have:=X.size;exact ⟨by omega,by omega⟩
  have htb9:rd w9 tb 0=some (ptr m):=Y9.rd (x7.rd htb6 fun g=>by
   rcases g with g | g
   ·exact (hP6.F0 _ _ g).2 rfl
   ·omega) fun g=>g
  have hxl:=opsL_len ord (ops.take i++[o])
  rw [opsL_snoc] at hxl
  have M1:readsB (some (some [w7.heap.size])) w7.heap.size=true:=by simp [readsB]
  have D:=Ext.dr noF w9 (w9.drawn+1)
  refine W_rg fun K hK=>(W_draw (some (some [w7.heap.size])) none [(0,0,0),(0,1,0),(0,2,0),(0,3,0),(0,4,0),(0,5,0),(0,7,0),(1,6,0),(0,8,0),(1,9,0),(1,10,0),(0,11,0)] mixed (by kernel_rfl) ?_);simp only [↓zZ1,↓reduceIte,Nat.reduceEqDiff,rg,ow_67,e8,ptr_eq,zf,zb,M1,bu_rp]
  refine do_call fn_71 (vs:=#[ptr m]) (by simp only [zZ2,Nat.reduceEqDiff,↓reduceIte,zZ4]<;>rfl) (len_any m (opL ord o (opsL ord (ops.take i))).length _ (D.rd hM9.cnt fun g=>g)) ?_
  rintro _ _ ⟨rfl,rfl⟩
  refine ⟨by first | exact trivial | exact .inr (keeps_on (Ext.refl (fun _ _=>False) _) fun y hy=>⟨by simp only [List.mem_cons,List.not_mem_nil,or_false] at hy;rw [sz_dr];omega,fun _ g=>g⟩),?_⟩
  simp only [↓zZ1,↓reduceIte,Nat.reduceEqDiff,rg,ow_67,bu_rp]
  refine do_bsl rfl (bs_rp (fx,fb) _) fun w10 n10=>?_
  have s10:=n10.size
  rw [sz_dr] at s10
  refine ⟨by first | exact trivial | exact .inr (keeps_on n10.ext fun y hy=>⟨by simp only [List.mem_cons,List.not_mem_nil,or_false] at hy;rw [sz_dr];omega,fun _ g=>g⟩),?_⟩
  simp only [↓zZ1,↓reduceIte,Nat.reduceEqDiff,rg,ow_67]
  have Y10:Ext noF w9 w10:=D.tr n10.ext
  refine do_append (by simp only [zZ2,Nat.reduceEqDiff,↓reduceIte,zZ3]<;>rfl) (by simp only [zZ2,Nat.reduceEqDiff,↓reduceIte,zZ3]<;>rfl) el_rp rfl ni_rp (hrl9.ext0 Y10) (u:=.slice (some ⟨w9.heap.size,0,none⟩) 1 1) (m:=1) (l':=rpL (fx,fb) _) ⟨rfl,.inr ⟨_,0,1,rfl,Nat.le_refl _,n10.row,n10.wok.R (Nat.le_refl _)⟩⟩ (by omega) (by decide) (rpL_oc _ _) fun v11 w11 a11=>?_
  obtain ⟨k1,k2,-⟩:=app_since (B:=w3.heap.size) a11 hP6.si (by omega)
  obtain ⟨k3,k4⟩:=app_offS (B:=w3.heap.size) a11 hP6.si hof (fun y o g=>by have:=hM9.lt y o g;omega)
  have x11:Ext (fun y _=>∃ o m c,ov = .slice (some ⟨y,o,none⟩) m c) w10 w11:=by
   rcases a11.2 with ⟨_,rfl,_⟩ | ⟨b,o,cap,hv,_,x,_⟩ | ⟨_,_,x,_⟩
   ·exact Ext.refl _ _
   ·exact x.mono fun y o' _ g=>⟨o,i,cap,by rw [hv,g.1]⟩
   ·exact x.mono fun _ _ _ g=>g.elim
  refine ⟨by first | exact trivial | exact .inr (keeps_on x11 fun y hy=>⟨by simp only [List.mem_cons,List.not_mem_nil,or_false] at hy;omega,fun o ⟨o',m,c,g⟩=>by simp only [List.mem_cons,List.not_mem_nil,or_false] at hy;have:=(hbl _ _ _ _ g).2.1;omega⟩),?_⟩
  simp only [↓zZ1,↓reduceIte,Nat.reduceEqDiff,rg,ow_67]
  apply hK;clear hK K
  show W _ _ _ _ _ _
  have q1:=wadd1 i (by omega)
  refine W_rg fun K hK=>(W_text [true,true] (by kernel_rfl) ?_);simp only [↓zZ1,↓reduceIte,Nat.reduceEqDiff,rg,ow_67,e19,q1]
  apply hK;clear hK K
  have s11:=k4.size
  have hM11:=(hM9.ext Y10).extG k4 (fun y o hy g=>g.2 o hy) fun y o g=>by have:=g.1;omega
  refine ⟨_,?_,i+1,F',rfl,hlt,by simp only [upd_eq,Nat.reduceEqDiff,↓reduceIte];exact e6,by simp only [upd_eq,Nat.reduceEqDiff,↓reduceIte];exact e7,by simp only [upd_eq,Nat.reduceEqDiff,↓reduceIte];exact e17,by simp only [upd_eq,Nat.reduceEqDiff,↓reduceIte];exact e18,by simp only [upd_eq,Nat.reduceEqDiff,↓reduceIte],?_,by omega,?_⟩
  ·omega
  ·refine noF_of (X.tr Y6) ((x7.mono (G:=fun y _=>w.heap.size<=y) fun y o _ g=>?_).tr ((Y9.mono fun _ _ _ g=>g.elim).tr ((Y10.mono fun _ _ _ g=>g.elim).tr (k4.mono fun y o _ g=>?_)))) fun y o hy g=>by omega
   ·rcases g with g | g
    ·exact (hP6.F0 _ _ g).1
    ·omega
   ·have:=g.1;omega
  ·simp only [upd_eq,Nat.reduceEqDiff,↓reduceIte]
   rw [htk]
   refine ⟨by rw [opsL_snoc];exact hM11,hP6.r.snoc hW7,⟨_,by rw [List.length_append,hil];exact k1⟩,k2,k3,k4.rd (Y10.rd htb9 fun g=>g) (fun g=>by have:=g.1;omega),hF0',hlt'⟩
 ·obtain rfl:i=ops.length:=by omega
  have ht:=lt_ff ops.length ops.length (by omega)
  refine W_sq fun K hK=>(W_text [true] (by kernel_rfl) ?_);simp only [↓zZ1,↓reduceIte,Nat.reduceEqDiff,rg,ow_67,e18,e19,ht]
  apply hK;clear hK K
  refine W_seq (W_false (by simp only [zZ2,Nat.reduceEqDiff,↓reduceIte,zZ3]<;>rfl) (W_exit ?_))
  simp only [andThen_exit,inBlk_exit,andThen_normal,↓reduceIte]
  rw [List.take_length] at hP
  refine W_sq fun K hK=>(W_text [true,true,true,true] (by kernel_rfl) ?_);simp only [↓zZ1,↓reduceIte,Nat.reduceEqDiff,rg,ow_67,e6]
  apply hK;clear hK K
  exact W_ret (endQ_2 (by simp only [upd_eq,Nat.reduceEqDiff,↓reduceIte]<;>rfl) (by simp only [upd_eq,Nat.reduceEqDiff,↓reduceIte]<;>rfl) ⟨tb,A,m,F,_,rfl,hP.tv,hP.t,hP.r,X⟩)
theorem z_wk:zK Try.prog 58=some [.slice none 0 0]:=by kernel_rfl
def shL (n:Int) (k:Int) (a:Option Addr) (l c:Nat):List Value:=[.int .i64 n,.int .i64 k,.slice a l c]
theorem bu_sh (n k:Int) (a:Option Addr) (l c:Nat):buildV Try.prog 75 [(0,.int .i64 n),(1,.int .i64 k),(2,.slice a l c)]=some (.agg (shL n k a l c).toArray):=by kernel_rfl
theorem bs_sh (n k:Int) (a:Option Addr) (l c:Nat):bsV Try.prog 72 1 [(0,.agg (shL n k a l c).toArray)]=some (75,shL n k a l c):=by kernel_rfl
theorem el_sh:elK Try.prog 72=some (75,3,40,[.int .i64 0,.int .i64 0,.slice none 0 0]):=by kernel_rfl
theorem ni_sh:noInt Try.prog 72=true:=by kernel_rfl
theorem shL_oc (n k:Int) (a:Option Addr) (l c:Nat):oc (shL n k a l c):=fun v hv=>by simp [shL] at hv;rcases hv with rfl | rfl | rfl<;>rfl
def OpsH (ord:List Int) (d:Nat) (ops:List Op) (n:Nat):Prop :=
 ∃ s,RunW ord d (.nd [] []) ops s/\Ht s n/\(s.kl=0->s = .nd [] [])/\(opsL ord ops=[]->n=0)
set_option maxHeartbeats 1600000 in
set_option maxRecDepth 8000 in
theorem gshapes_any (d:Nat) (hd:DOk d) (ord:List Int) (sv:Value) (nl:Bool) (ops:List Op) (sc:Value) (w:World) (hO:SlInt w sv ord) (hOb:ord.length<=2147483647) (hsc:SlV w 9 sc ops.length (flat Eop ops)) (hob:ops.length<=4294967294) :
  CallK Try.prog 40 #[mkV sv d nl,sc] w fun v w'=>(∃ (n:Nat) (k:Int) (a:Option Addr) (l c:Nat),SlV w' 3 v 1 (shL n k a l c)/\OpsH ord (degOf d) ops n)/\Ext noF w w':=by
 obtain ⟨hd2,hd3⟩:=hd.of
 obtain ⟨sa,scp,hsv⟩:=hsc.shape
 refine calls_of_W [.tmp 4] Try.func40 rfl Try.ntmps40 Try.results40 (by simp) fun e he=>?_
 have e0:e 0=mkV sv d nl:=he 0 _ rfl
 have e1:e 1=sc:=he 1 _ rfl
 clear he
 refine W_sq fun K hK=>(W_text [false,true] (by kernel_rfl) ?_);simp only [↓zZ1,↓reduceIte,Nat.reduceEqDiff,rg,ow_40]
 refine do_box (by simp only [evt];exact e0) fun w1 n1=>⟨trivial,?_⟩
 simp only [↓zZ1,↓reduceIte,Nat.reduceEqDiff,rg,ow_40]
 apply hK;clear hK K
 have rm:=mk_at (show Row w1 w.heap.size 0 (mkL sv d nl) from n1.row)
 refine W_sq fun K hK=>(W_text [true,true,false,true,true,true,true,true] (by kernel_rfl) ?_);simp only [↓zZ1,↓reduceIte,Nat.reduceEqDiff,rg,ow_40,e1,ptr_eq,rm]
 refine do_call fn_67 (vs:=#[mkV sv d nl,sc]) (by simp only [zZ2,Nat.reduceEqDiff,↓reduceIte,zZ4]<;>rfl) (play_any d hd ord sv nl ops sc w1 (SlV.ext0 hO n1.ext) hOb (hsc.ext0 n1.ext) hob) ?_
 rintro _ w2 ⟨tb,A,m,F,rv,rfl,htb,hM,hW,x2⟩
 refine ⟨trivial,?_⟩
 simp only [↓zZ1,↓reduceIte,Nat.reduceEqDiff,rg,ow_40]
 apply hK;clear hK K
 refine W_sq fun K hK=>(W_text [true] (by kernel_rfl) ?_);simp only [↓zZ1,↓reduceIte,Nat.reduceEqDiff,rg,ow_40]
 apply hK;clear hK K
 have X2:Ext noF w w2:=n1.ext.tr x2
 have hll:=opsL_len ord ops
 have hml:=hM.mlt
 refine W_seq (W_seq ?_)
 refine W_rg fun K hK=>(W_text [true,true,true] (by kernel_rfl) ?_);simp only [↓zZ1,↓reduceIte,Nat.reduceEqDiff,rg,ow_40]
 apply hK;clear hK K
 show W _ _ _ _ _ _
 refine W_block (W_loop (fun mm e w'=>∃ i:Nat,mm=1-i/\i<=1/\e 17 = .slice (some ⟨tb,0,none⟩) 1 1/\e 18 = .int .i64 (1:Nat)/\e 19 = .int .i64 i/\Ext noF w2 w'/\(i=0->e 7 = .slice none 0 0)/\(i=1->∃ (n:Nat) (k:Int) (a:Option Addr) (l c:Nat),SlV w' 3 (e 7) 1 (shL n k a l c)/\OpsH ord (degOf d) ops n))
  1 ⟨0,by simp,by simp,(by first | (simp only [upd_eq,Nat.reduceEqDiff,↓reduceIte];done) | (simp only [upd_eq,Nat.reduceEqDiff,↓reduceIte];rfl)),(by first | (simp only [upd_eq,Nat.reduceEqDiff,↓reduceIte];done) | (simp only [upd_eq,Nat.reduceEqDiff,↓reduceIte];rfl)),(by first | (simp only [upd_eq,Nat.reduceEqDiff,↓reduceIte];done) | (simp only [upd_eq,Nat.reduceEqDiff,↓reduceIte];rfl)),Ext.refl _ _,fun _=>(by first | (simp only [upd_eq,Nat.reduceEqDiff,↓reduceIte];done) | (simp only [upd_eq,Nat.reduceEqDiff,↓reduceIte];rfl)),fun h=>by cases h⟩ ?_)
 clear e0 e1 e rm
 rintro mm e w' ⟨i,rfl,hi,e17,e18,e19,X,h7,hres⟩
 by_cases hlt:i<1
 ·have ht:=lt_tt i 1 hlt
  have e7:=h7 (by omega)
  refine W_sq fun K hK=>(W_text [true] (by kernel_rfl) ?_);simp only [↓zZ1,↓reduceIte,Nat.reduceEqDiff,rg,ow_40,e18,e19,ht]
  apply hK;clear hK K
  refine W_seq (W_true (by simp only [zZ2,Nat.reduceEqDiff,↓reduceIte,zZ3]<;>rfl) (W_skip ?_))
  show W _ _ _ _ _ _
  have htb':rd w' tb i=some (ptr m):=by rw [show i=0 by omega];exact X.rd htb fun g=>g
  have hM':=hM.ext X
  refine W_seq (W_block ?_)
  refine W_sq fun K hK=>(W_text [true,true,true] (by kernel_rfl) ?_);simp only [↓zZ1,↓reduceIte,Nat.reduceEqDiff,rg,ow_40,e17,e19,hlt,htb']
  apply hK;clear hK K
  refine W_sq fun K hK=>(W_text [false] (by kernel_rfl) ?_);simp only [↓zZ1,↓reduceIte,Nat.reduceEqDiff,rg,ow_40]
  refine do_alloc z_wk fun w3 n3=>⟨trivial,?_⟩
  simp only [↓zZ1,↓reduceIte,Nat.reduceEqDiff,rg,ow_40]
  apply hK;clear hK K
  have s3:=n3.size
  have hS:WkS w'.heap.size w'.heap.size 0 w3:=⟨_,0,[],(Row.cons.1 n3.row).1,⟨rfl,.inl ⟨rfl,rfl⟩⟩,Nat.le_refl _,(fun _ _ _ _ h=>by cases h),(fun _ _ _ h=>by cases h),n3.wok⟩
  have hml':=hM'.mlt
  refine W_sq fun K hK=>(W_text [true,true,false] (by kernel_rfl) ?_);simp only [↓zZ1,↓reduceIte,Nat.reduceEqDiff,rg,ow_40,ptr_eq]
  refine do_call fn_68 (vs:=#[ptr m,cbV w'.heap.size]) (by simp only [zZ2,Nat.reduceEqDiff,↓reduceIte,zZ4]<;>rfl) (walkM_any A m (degOf d) w'.heap.size w'.heap.size 0 1 ord hd2 _ F w3 (hM'.ext n3.ext) hml' (Nat.le_refl _) hM'.lt hS (by omega) (by omega)) ?_
  rintro _ w4 ⟨H4,x4⟩
  refine ⟨trivial,?_⟩
  simp only [↓zZ1,↓reduceIte,Nat.reduceEqDiff,rg,ow_40]
  apply hK;clear hK K
  have s4:=x4.size
  have X4:Ext noF w' w4:=noF_of n3.ext x4 fun y o hy g=>by omega
  obtain ⟨wv,wn,wl,hw1,hw2,-,-,-,-⟩:=H4
  obtain ⟨wa,wc,rfl⟩:=hw2.shape
  have hM4:=hM'.ext X4
  have M1:readsB (some (some [w'.heap.size])) w'.heap.size=true:=by simp [readsB]
  have D:=Ext.dr noF w4 (w4.drawn+1)
  refine W_rg fun K hK=>(W_draw (some (some [w'.heap.size])) none [(0,0,0),(0,1,0),(0,3,0),(0,5,0),(1,2,0),(1,4,0),(0,6,0),(1,7,0),(1,8,0),(0,9,0)] mixed (by kernel_rfl) ?_);simp only [↓zZ1,↓reduceIte,Nat.reduceEqDiff,rg,ow_40,e7,ptr_eq,hw1,M1]
  refine do_call fn_70 (vs:=#[ptr m]) (by simp only [zZ2,Nat.reduceEqDiff,↓reduceIte,zZ4]<;>rfl) (height_any A m (degOf d) 1 ord hd2 _ F _ (hM4.ext D) (by omega)) ?_
  rintro _ w5 ⟨⟨n,rfl,hn⟩,x5⟩
  have s5:=x5.size
  rw [sz_dr] at s5
  refine ⟨by first | exact trivial | exact .inr (keeps_on x5 fun y hy=>⟨by simp only [List.mem_cons,List.not_mem_nil,or_false] at hy;rw [sz_dr];omega,fun _ g=>g⟩),?_⟩
  simp only [↓zZ1,↓reduceIte,Nat.reduceEqDiff,rg,ow_40]
  refine do_call fn_71 (vs:=#[ptr m]) (by simp only [zZ2,Nat.reduceEqDiff,↓reduceIte,zZ4]<;>rfl) (len_any m (opsL ord ops).length w5 ((D.tr x5).rd hM4.cnt fun g=>g)) ?_
  rintro _ _ ⟨rfl,rfl⟩
  refine ⟨by first | exact trivial | exact .inr (keeps_on (Ext.refl (fun _ _=>False) _) fun y hy=>⟨by simp only [List.mem_cons,List.not_mem_nil,or_false] at hy;omega,fun _ g=>g⟩),?_⟩
  simp only [↓zZ1,↓reduceIte,Nat.reduceEqDiff,rg,ow_40,bu_sh]
  refine do_bsl rfl (bs_sh _ _ _ _ _) fun w6 n6=>?_
  have s6:=n6.size
  refine ⟨by first | exact trivial | exact .inr (keeps_on n6.ext fun y hy=>⟨by simp only [List.mem_cons,List.not_mem_nil,or_false] at hy;omega,fun _ g=>g⟩),?_⟩
  simp only [↓zZ1,↓reduceIte,Nat.reduceEqDiff,rg,ow_40]
  refine do_append (by simp only [zZ2,Nat.reduceEqDiff,↓reduceIte,zZ3]<;>rfl) (by simp only [zZ2,Nat.reduceEqDiff,↓reduceIte,zZ3]<;>rfl) el_sh rfl ni_sh (v:=.slice none 0 0) (n:=0) (l:=[]) ⟨rfl,.inl ⟨rfl,rfl⟩⟩ (u:=.slice (some ⟨w5.heap.size,0,none⟩) 1 1) (m:=1) (l':=shL _ _ _ _ _) ⟨rfl,.inr ⟨_,0,1,rfl,Nat.le_refl _,n6.row,n6.wok.R (Nat.le_refl _)⟩⟩ (by omega) (by decide) (shL_oc _ _ _ _ _) fun v7 w7 a7=>?_
  have x7:=app_nil a7
  obtain ⟨k1,-,-⟩:=app_since (B:=0) a7 (fun _ _ _ _ h=>by cases h) (by omega)
  refine ⟨by first | exact trivial | exact .inr (keeps_on x7 fun y hy=>⟨by simp only [List.mem_cons,List.not_mem_nil,or_false] at hy;omega,fun _ g=>g⟩),?_⟩
  simp only [↓zZ1,↓reduceIte,Nat.reduceEqDiff,rg,ow_40]
  apply hK;clear hK K
  show W _ _ _ _ _ _
  have q1:=wadd1 i (by omega)
  refine W_rg fun K hK=>(W_text [true,true] (by kernel_rfl) ?_);simp only [↓zZ1,↓reduceIte,Nat.reduceEqDiff,rg,ow_40,e19,q1]
  apply hK;clear hK K
  refine ⟨_,?_,i+1,rfl,hlt,by simp only [upd_eq,Nat.reduceEqDiff,↓reduceIte];exact e17,by simp only [upd_eq,Nat.reduceEqDiff,↓reduceIte];exact e18,by simp only [upd_eq,Nat.reduceEqDiff,↓reduceIte],((((X.tr X4).tr D).tr x5).tr n6.ext).tr x7,fun h=>by omega,fun _=>⟨n,_,_,_,_,by simp only [upd_eq,Nat.reduceEqDiff,↓reduceIte];exact k1,F.s,hW,hn,fun hk=>?_,fun hx=>?_⟩⟩
  ·omega
  ·by_cases hx:opsL ord ops=[]
   ·exact hM.nil hd2 hx
   ·exact (hM.kl hx hk).elim
  ·have h0:=hM.nil hd2 hx
   rcases hn with ⟨_,h1⟩ | ⟨h1,_⟩
   ·exact h1
   ·rw [h0] at h1;exact (h1 rfl).elim
 ·obtain rfl:i=1:=by omega
  have ht:=lt_ff 1 1 (by omega)
  refine W_sq fun K hK=>(W_text [true] (by kernel_rfl) ?_);simp only [↓zZ1,↓reduceIte,Nat.reduceEqDiff,rg,ow_40,e18,e19,ht]
  apply hK;clear hK K
  refine W_seq (W_false (by simp only [zZ2,Nat.reduceEqDiff,↓reduceIte,zZ3]<;>rfl) (W_exit ?_))
  simp only [andThen_exit,inBlk_exit,andThen_normal,↓reduceIte]
  refine W_sq fun K hK=>(W_text [true,true] (by kernel_rfl) ?_);simp only [↓zZ1,↓reduceIte,Nat.reduceEqDiff,rg,ow_40]
  apply hK;clear hK K
  exact W_ret (endQ_1 (by simp only [upd_eq,Nat.reduceEqDiff,↓reduceIte]<;>rfl) ⟨hres rfl,X2.tr X⟩)
variable {ord:List Int} {d:Nat} {x:It}
theorem hg_eq {h:Nat} {ks ks':List It} {cs cs':List (Sh It)} (hh:cs.head? = cs'.head?) (h0:Hg h (.nd ks cs)):Hg h (.nd ks' cs'):=by
 cases h with
 | zero =>
  have h0:cs=[]:=h0
  rw [h0] at hh
  show cs'=[]
  cases cs' with
  | nil=>rfl
  | cons c cs'=>simp at hh
 | succ h =>
  obtain ⟨c,g1,g2⟩:=h0
  exact ⟨c,by rw [<-hh];exact g1,g2⟩
theorem SetR.hg {b:Bool} {s s':Sh It} (hd:2<=d) (r:SetR ord d x s b s'):∀ h,Hg h s->Hg h s':=by
 have set_hg:∀ {h:Nat} {ks:List It} {cs:List (Sh It)} {i:Nat} {c c':Sh It},cs[i]? = some c->(∀ h,Hg h c->Hg h c')->Hg h (.nd ks cs)->Hg h (.nd ks (cs.set i c')):=by
  intro h ks cs i c c' hc ih h0
  cases h with
  | zero=>have h0:cs=[]:=h0;rw [h0] at hc;simp at hc
  | succ h =>
   obtain ⟨c0,g1,g2⟩:=h0
   cases cs with
   | nil=>simp at hc
   | cons c1 cs =>
    simp at g1;subst g1
    cases i with
    | zero=>simp at hc;subst hc;exact ⟨c',rfl,ih h g2⟩
    | succ i=>exact ⟨c1,rfl,g2⟩
 induction r with
 | hit _=>intro h h0;exact hg_eq rfl h0
 | leaf _ _ _=>intro h h0;exact hg_eq rfl h0
 | full _ _=>intro h h0;exact h0
 | down _ _ hc _ ih=>intro h h0;exact set_hg hc ih h0
 | stop _ _ hc _ _ ih=>intro h h0;exact set_hg hc ih h0
 | @split ks k cs g i c md b s _ _ hc _ _ hm _ ih0 ih1 =>
  intro h h0
  refine ih1 h ?_
  cases h with
  | zero=>have h0:cs=[]:=h0;rw [h0] at hc;simp at hc
  | succ h =>
   obtain ⟨c0,g1,g2⟩:=h0
   cases cs with
   | nil=>simp at hc
   | cons c1 cs =>
    simp at g1;subst g1
    cases i with
    | zero =>
     simp at hc;subst hc
     refine ⟨_,rfl,hg_eq ?_ (ih0 h g2)⟩
     cases g with
     | nil=>simp
     | cons g0 g =>
      obtain ⟨d',rfl⟩:∃ d',d=d'+1:=⟨d-1,by omega⟩
      rfl
    | succ i=>exact ⟨c1,rfl,g2⟩
theorem SetR.kl {b:Bool} {s s':Sh It} (r:SetR ord d x s b s'):s.kl<=s'.kl:=by
 induction r with
 | hit _=>simp [Sh.kl]
 | leaf _ _ _=>simp [Sh.kl];omega
 | full _ _=>exact Nat.le_refl _
 | down _ _ _ _ _=>exact Nat.le_refl _
 | stop _ _ _ _ _ _=>exact Nat.le_refl _
 | split _ _ _ _ _ _ _ _ ih1 =>
  refine Nat.le_trans ?_ ih1
  simp [Sh.kl];omega
def Sh.cs:Sh It->List (Sh It)
 | .nd _ cs=>cs
def Sh.ks:Sh It->List It
 | .nd ks _=>ks
theorem lb_ins {q:Rk} {ks:List It} {i:Nat} {md:It} (hi:lb O (rkI ord) q ks=i):lb O (rkI ord) q (ks.take i++md::ks.drop i)=i\/lb O (rkI ord) q (ks.take i++md::ks.drop i)=i+1:=by
 induction ks generalizing i with
 | nil =>
  subst hi
  simp only [lb,List.take_nil,List.drop_nil,List.nil_append]
  split
  ·exact .inr rfl
  ·exact .inl rfl
 | cons k ks ih =>
  by_cases hk:O.lt (rkI ord k) q=true
  ·have e:lb O (rkI ord) q (k::ks)=lb O (rkI ord) q ks+1:=by simp only [lb,hk,if_true]
   rw [e] at hi
   subst hi
   simp only [List.take_succ_cons,List.drop_succ_cons,List.cons_append]
   have e2:∀ l,lb O (rkI ord) q (k::l)=lb O (rkI ord) q l+1:=fun l=>by simp only [lb,hk,if_true]
   rw [e2]
   rcases ih rfl with h | h
   ·exact .inl (by omega)
   ·exact .inr (by omega)
  ·have e:∀ l,lb O (rkI ord) q (k::l)=0:=fun l=>by simp only [lb];rw [if_neg hk]
   rw [e] at hi
   subst hi
   simp only [List.take_zero,List.drop_zero,List.nil_append]
   rw [lb,e]
   split
   ·exact .inr rfl
   ·exact .inl rfl
theorem SetR.full' {b:Bool} {s s':Sh It} (hd:2<=d) (r:SetR ord d x s b s'):b=true->s.kl=2*d-1/\s'.kl=s.kl/\(s.cs=[]\/∃ c,s.cs[lb O (rkI ord) (rkI ord x) s.ks]? = some c/\c.kl=2*d-1):=by
 induction r with
 | hit _=>intro h;cases h
 | leaf _ _ _=>intro h;cases h
 | full _ hl=>intro _;exact ⟨hl,rfl,.inl rfl⟩
 | down _ _ _ _ _=>intro h;cases h
 | stop _ hi hc hl _ ih=>intro _;exact ⟨hl,rfl,.inr ⟨_,by rw [show lb O (rkI ord) (rkI ord x) (Sh.nd _ _).ks=_ from hi];exact hc,(ih rfl).1⟩⟩
 | @split ks k cs g i c md b s _ hi hc hl _ hm _ ih0 ih1 =>
  intro hb
  exfalso
  obtain ⟨-,-,h3⟩:=ih1 hb
  obtain ⟨h1,h2,-⟩:=ih0 rfl
  have hk:k.length=2*d-1:=h2.trans h1
  have hil:i<cs.length:=(List.getElem?_eq_some_iff.1 hc).1
  have hlt:(cs.take i).length=i:=by rw [List.length_take];omega
  rcases h3 with h3 | ⟨c',h3,h4⟩
  ·have:cs.take i++Sh.nd (k.take (d-1)) (g.take d)::Sh.nd (k.drop d) (g.drop d)::cs.drop (i+1)=[]:=h3
   simp at this
  ·have h3:(cs.take i++Sh.nd (k.take (d-1)) (g.take d)::Sh.nd (k.drop d) (g.drop d)::cs.drop (i+1))[lb O (rkI ord) (rkI ord x) (ks.take i++md::ks.drop i)]? = some c':=h3
   rcases lb_ins (md:=md) hi with e | e
   ·rw [e,List.getElem?_append_right (by omega),hlt,Nat.sub_self] at h3
    simp at h3;subst h3
    have:(k.take (d-1)).length=2*d-1:=h4
    rw [List.length_take] at this;omega
   ·rw [e,List.getElem?_append_right (by omega),hlt,show i+1-i=1 by omega] at h3
    simp at h3;subst h3
    have:(k.drop d).length=2*d-1:=h4
    rw [List.length_drop] at this;omega
theorem RootR.grow1 {s s':Sh It} (hd:2<=d) (r:RootR ord d x s s') {h:Nat} (h0:Hg h s) (hk:s.kl ≠ 0):s'.kl ≠ 0/\(Hg h s'\/Hg (h+1) s'):=by
 cases r with
 | ok r =>
  have:=r.kl
  exact ⟨by omega,.inl (r.hg hd h h0)⟩
 | grow r hm r1 =>
  rename_i k g md
  have hg1:=r.hg hd h h0
  have hroot:Hg (h+1) (Sh.nd [md] [.nd (k.take (d-1)) (g.take d),.nd (k.drop d) (g.drop d)]):=by
   refine ⟨_,rfl,hg_eq ?_ hg1⟩
   cases g with
   | nil=>simp
   | cons g0 g =>
    obtain ⟨d',rfl⟩:∃ d',d=d'+1:=⟨d-1,by omega⟩
    rfl
  cases r1 with
  | ok r2 =>
   have:=r2.kl
   have h1:(Sh.nd [md] [Sh.nd (k.take (d-1)) (g.take d),Sh.nd (k.drop d) (g.drop d)]).kl=1:=rfl
   exact ⟨by omega,.inr (r2.hg hd _ hroot)⟩
  | grow r2 _ _ =>
   have h1:=(r2.full' hd rfl).1
   have h2:(Sh.nd [md] [Sh.nd (k.take (d-1)) (g.take d),Sh.nd (k.drop d) (g.drop d)]).kl=1:=rfl
   omega
theorem SetR.nil {b:Bool} {s':Sh It} (hd:2<=d) (r:SetR ord d x (.nd [] []) b s'):b=false/\s' = .nd [x] []:=by
 cases r with
 | hit h=>cases h
 | leaf h hi hl=>subst hi;exact ⟨rfl,rfl⟩
 | full h hl=>have:0=2*d-1:=hl;omega
 | down _ _ hc _=>simp at hc
 | stop _ _ hc _ _=>simp at hc
 | split _ _ hc _ _ _ _=>simp at hc
theorem RootR.nil {s':Sh It} (hd:2<=d) (r:RootR ord d x (.nd [] []) s'):s' = .nd [x] []:=by
 cases r with
 | ok r=>exact (r.nil hd).2
 | grow r _ _=>cases (r.nil hd).1
theorem RunW.split {s s2:Sh It} {o:Op}:∀ {ops:List Op} {s:Sh It},RunW ord d s (ops++[o]) s2->∃ s1,RunW ord d s ops s1/\OpW ord d o s1 s2
 | [],s,r=>by
  cases r with
  | cons h r=>cases r;exact ⟨s,.nil,h⟩
 | o'::ops,s,r=>by
  cases r with
  | cons h r =>
   obtain ⟨s1,g1,g2⟩:=RunW.split (s:=s) r
   exact ⟨s1,.cons h g1,g2⟩
theorem OpsH.one {ops:List Op} {n n':Nat} (h:OpsH ord d ops n) (h':OpsH ord d ops n'):n=n':=by
 obtain ⟨s,g1,g2,-⟩:=h
 obtain ⟨s',k1,k2,-⟩:=h'
 rw [<-g1.one k1] at k2
 exact g2.one k2
theorem OpsH.set {ops:List Op} {n n':Nat} (hd:2<=d) (h:OpsH ord d ops n) (h':OpsH ord d (ops++[.set x]) n'):n<=n'/\n'<=n+1:=by
 obtain ⟨s,g1,g2,g3,-⟩:=h
 obtain ⟨s',k1,k2,-⟩:=h'
 obtain ⟨s1,k3,k4⟩:=RunW.split (s:=s) k1
 obtain rfl:=g1.one k3
 have k4:RootR ord d x s s':=k4
 rcases g2 with ⟨a,rfl⟩ | ⟨a,h,b,rfl⟩
 ·rw [g3 a] at k4
  rw [k4.nil hd] at k2
  rcases k2 with ⟨c,_⟩ | ⟨_,h',c,rfl⟩
  ·cases c
  ·have:h'=0:=Hg.one c (show Hg 0 (Sh.nd [x] []) from rfl)
   omega
 ·obtain ⟨e1,e2⟩:=k4.grow1 hd b a
  rcases k2 with ⟨c,_⟩ | ⟨_,h',c,rfl⟩
  ·exact (e1 c).elim
  ·rcases e2 with e2 | e2
   ·have:=c.one e2;omega
   ·have:=c.one e2;omega
theorem PopW.hgt {sel:Nat->Nat} {mx:Bool} {s s':Sh It} {h n':Nat} (hw:PopW ord d sel mx s s') (h0:Hg h s) (hn:Ht s' n'):n'<=h+1/\h<=n':=by
 obtain ⟨h1,g1,hc⟩:=hw
 obtain rfl:=h0.one g1
 have key:(s'.kl=0->h=0)->(s'.kl ≠ 0->∃ h',(h'=h\/h'+1=h)/\Hg h' s')->n'<=h+1/\h<=n':=fun e1 e2=>by
  rcases hn with ⟨a,rfl⟩ | ⟨a,h2,b,rfl⟩
  ·have:=e1 a;omega
  ·obtain ⟨h',e3,e4⟩:=e2 a
   have:=b.one e4
   omega
 rcases hc with ⟨-,-,e1,e2⟩ | ⟨-,y,-,h2,y2,r,f1,-,-,e1,e2⟩
 ·exact key e1 fun k=>⟨h,.inl rfl,e2 k⟩
 ·obtain rfl:=h0.one f1
  exact key e1 e2
theorem OpsH.pop {ops:List Op} {o:Op} {n n':Nat} (ho:o = .pmin\/o = .pmax) (h:OpsH ord d ops n) (h':OpsH ord d (ops++[o]) n'):n'<=n/\n<=n'+1:=by
 obtain ⟨s,g1,g2,g3,-⟩:=h
 obtain ⟨s',k1,k2,-⟩:=h'
 obtain ⟨s1,k3,k4⟩:=RunW.split (s:=s) k1
 obtain rfl:=g1.one k3
 have k4:(s.kl=0->s' = .nd [] [])/\(s.kl ≠ 0->∃ sel mx,PopW ord d sel mx s s'):=by
  rcases ho with rfl | rfl
  ·exact ⟨k4.1,fun h=>⟨_,_,k4.2 h⟩⟩
  ·exact ⟨k4.1,fun h=>⟨_,_,k4.2 h⟩⟩
 rcases g2 with ⟨a,rfl⟩ | ⟨a,h,b,rfl⟩
 ·rw [k4.1 a] at k2
  rcases k2 with ⟨_,rfl⟩ | ⟨c,_⟩
  ·omega
  ·exact (c rfl).elim
 ·obtain ⟨sel,mx,hw⟩:=k4.2 a
  have:=hw.hgt b k2
  omega
end Go.Proofs.Ytbnnkcofnmipoaa
namespace Go.Proofs.Ytbnnkcofnmipoaa
open Go Go.Proofs
set_option maxHeartbeats 400000 in
set_option maxRecDepth 8000 in
theorem impl_gitems (d:Nat) (hd:DOk d) (ord:List Int) (sv:Value) (nl:Bool) (l:List It) (lv:Value) (w:World) (hs:SlInt w sv ord) (hsb:ord.length<=2147483647) (hl:SlI w lv l) (hbig:l.length<=4294967294) :
  CallK Try.prog 24 #[mkV sv d nl,lv] w fun v w'=>SlI w' v (treeG ord l)/\since w.heap.size v/\Ext noF w w':=by
 have htl:=treeG_len ord l
 refine calls_of_W [.tmp 4] Try.func24 rfl Try.ntmps24 Try.results24 (by simp) fun e he=>?_
 have e0:e 0=mkV sv d nl:=he 0 _ rfl
 have e1:e 1=lv:=he 1 _ rfl
 clear he
 refine W_sq fun K hK=>(W_text [false,true] (by kernel_rfl) ?_);simp only [↓zZ1,↓reduceIte,Nat.reduceEqDiff,rg,ow_24]
 refine do_box (by simp only [evt];exact e0) fun w1 n1=>⟨trivial,?_⟩
 simp only [↓zZ1,↓reduceIte,Nat.reduceEqDiff,rg,ow_24]
 apply hK;clear hK K
 have s1:=n1.size
 have rm:=mk_at (show Row w1 w.heap.size 0 (mkL sv d nl) from n1.row)
 refine W_sq fun K hK=>(W_text [true,true,false,false,true] (by kernel_rfl) ?_);simp only [↓zZ1,↓reduceIte,Nat.reduceEqDiff,rg,ow_24,e1,rm]
 refine do_call fn_43 (by simp only [zZ2,Nat.reduceEqDiff,↓reduceIte,zZ4]<;>rfl) (growG_any d hd ord sv nl l lv w1 (SlV.ext0 hs n1.ext) hsb (SlV.ext0 hl n1.ext) hbig) ?_
 rintro _ w2 ⟨X2,B,m,F,rfl,hM,hm,-⟩
 refine ⟨trivial,?_⟩
 simp only [↓zZ1,↓reduceIte,Nat.reduceEqDiff,rg,ow_24]
 refine do_call fn_46 (by simp only [zZ2,Nat.reduceEqDiff,↓reduceIte,zZ4]<;>rfl) (itemsG_any B m (degOf d) ord 1 (treeG ord l) F w2 hM (by omega)) ?_
 rintro v3 w3 ⟨hO,X3⟩
 refine ⟨trivial,?_⟩
 simp only [↓zZ1,↓reduceIte,Nat.reduceEqDiff,rg,ow_24]
 apply hK;clear hK K
 have s2:=X2.size
 exact W_ret (endQ_1 (by simp only [upd_eq,Nat.reduceEqDiff,↓reduceIte]<;>rfl) ⟨hO.sl,fun b o n c h=>by have:=hO.si b o n c h;omega,(n1.ext.tr X2).tr X3⟩)
theorem SlV.one {w:World} {sz n:Nat} {v:Value} {l:List Value} (h:SlV w sz v n l):v.oneCell'=true:=by obtain ⟨a,c,rfl⟩:=h.shape;rfl
set_option maxHeartbeats 400000 in
set_option maxRecDepth 8000 in
theorem fitsL_any (sv:Value) (d:Int) (nl:Bool) (w:World) (h1:sv.oneCell'=true) :
  CallK Try.prog 13 #[.agg #[sv,.int .i64 d,.bool nl]] w fun v w'=>v = .bool (decide (d=0) || (decide (2<=d) && decide (d<=128)))/\Ext noF w w':=by
 refine calls_of_W [.tmp 2] Try.func13 rfl Try.ntmps13 Try.results13 (by simp) fun e he=>?_
 have e0:e 0 = .agg #[sv,.int .i64 d,.bool nl]:=he 0 _ rfl
 clear he
 refine W_sq fun K hK=>(W_text [false,true] (by kernel_rfl) ?_);simp only [↓zZ1,↓reduceIte,Nat.reduceEqDiff,rg,ow_13]
 refine do_box (by simp only [evt];exact e0) fun w1 n1=>⟨trivial,?_⟩
 simp only [↓zZ1,↓reduceIte,Nat.reduceEqDiff,rg,ow_13]
 apply hK;clear hK K
 have g1:=(Row.cons.1 (Row.cons.1 (show Row w1 w.heap.size 0 [sv,.int .i64 d,.bool nl] from n1.row)).2).1
 rw [Nat.zero_add] at g1
 refine W_sq fun K hK=>(W_text [true,true,false,true] (by kernel_rfl) ?_);simp only [↓zZ1,↓reduceIte,Nat.reduceEqDiff,rg,ow_13,g1]
 refine do_call fn_23 (by simp only [zZ2,Nat.reduceEqDiff,↓reduceIte,zZ4]<;>rfl) (fits_any d w1) ?_
 rintro _ w2 ⟨rfl,hw2⟩
 obtain rfl:w1=w2:=hw2
 refine ⟨trivial,?_⟩
 simp only [↓zZ1,↓reduceIte,Nat.reduceEqDiff,rg,ow_13]
 apply hK;clear hK K
 exact W_ret (endQ_1 (by simp only [upd_eq,Nat.reduceEqDiff,↓reduceIte]<;>rfl) ⟨rfl,n1.ext⟩)
set_option maxHeartbeats 400000 in
set_option maxRecDepth 8000 in
theorem alive_any (w:World):CallK Try.prog 14 #[] w fun v w'=>v = .bool true/\Ext noF w w':=by
 refine calls_of_W (args:=[]) [.tmp 0] Try.func14 rfl Try.ntmps14 Try.results14 (by simp) fun e he=>?_
 clear he
 refine W_sq fun K hK=>(W_text [true] (by kernel_rfl) ?_);simp only [↓zZ1,↓reduceIte,Nat.reduceEqDiff,rg,ow_14]
 apply hK;clear hK K
 refine W_sq fun K hK=>(W_text [false,false,true,false,true,true,true] (by kernel_rfl) ?_);simp only [↓zZ1,↓reduceIte,Nat.reduceEqDiff,rg,ow_14]
 refine do_call fn_19 (by simp only [zZ2,Nat.reduceEqDiff,↓reduceIte,zZ4]<;>rfl) (exMake_any w) ?_
 rintro _ w1 ⟨rfl,X1⟩
 refine ⟨trivial,?_⟩
 simp only [↓zZ1,↓reduceIte,Nat.reduceEqDiff,rg,ow_14]
 refine do_call fn_20 (by simp only [zZ2,Nat.reduceEqDiff,↓reduceIte,zZ4]<;>rfl) (exItems_any w1) ?_
 rintro x0 w2 ⟨h2,X2⟩
 refine ⟨trivial,?_⟩
 obtain ⟨s3,hs30,hS3⟩:=sl_hi h2 3 (by decide)
 have hs3:sliceV Try.prog 25 x0 none (some (.int .i64 3)) none=some s3:=hs30
 simp only [↓zZ1,↓reduceIte,Nat.reduceEqDiff,rg,ow_14,hs3]
 refine do_call fn_24 (by simp only [zZ2,Nat.reduceEqDiff,↓reduceIte,zZ4]<;>rfl) (impl_gitems 2 (.inr (by decide)) [] nilS false (exL.take 3) s3 w2 (nil_int _) (by decide) hS3 (by decide)) ?_
 rintro v4 w4 ⟨h4,_,X4⟩
 refine ⟨trivial,?_⟩
 obtain ⟨a4,c4,rfl⟩:=SlV.shape h4
 have hl:(treeG [] (exL.take 3)).length=3:=by decide
 have ht:(((3:Nat):Int) == 3)=true:=by decide
 rw [hl]
 simp only [↓zZ1,↓reduceIte,Nat.reduceEqDiff,rg,ow_14,ht]
 apply hK;clear hK K
 exact W_ret (endQ_1 (by simp only [upd_eq,Nat.reduceEqDiff,↓reduceIte]<;>rfl) ⟨rfl,(X1.tr X2).tr X4⟩)
def Ebl:Enc Bool where
 cel b:=[.bool b]
 sz:=1
 len _:=rfl
 one x v hv:=by simp at hv;subst hv;rfl
 pos:=by decide
theorem z_scr:zK Try.prog 71=some [.slice none 0 0]:=by kernel_rfl
theorem el_st:elK Try.prog 71=some (78,9,64,Op.pmin.cel.set 0 (.int .i64 0)):=by kernel_rfl
theorem ni_st:noInt Try.prog 71=true:=by kernel_rfl
theorem bu_sts (x:It):buildV Try.prog 78 [(0,.int .i64 0),(2,iV x)]=some (stV (.set x)):=by kernel_rfl
theorem bu_stn:buildV Try.prog 78 [(0,.int .i64 6)]=some (stV .pmin):=by kernel_rfl
theorem bu_stx:buildV Try.prog 78 [(0,.int .i64 7)]=some (stV .pmax):=by kernel_rfl
theorem bs_st (o:Op):bsV Try.prog 71 1 [(0,stV o)]=some (78,Eop.cel o):=by cases o<;>kernel_rfl
theorem bl_at {w:World} {b o:Nat} {l:List Bool} (h:Row w b o (flat Ebl l)) {i:Nat} {x:Bool} (hi:l[i]? = some x):rd w b (o+i)=some (.bool x):=by
 have:=row_cell (row_at Ebl h hi) (j:=0) rfl
 rwa [show Ebl.sz=1 from rfl,Nat.mul_one] at this
theorem fn_hts:isFn Try.prog 39=true:=by kernel_rfl
def cH (mb sb:Nat):Value:=.func (.func 39) #[] #[ptr mb,ptr sb]
set_option maxHeartbeats 400000 in
set_option maxRecDepth 8000 in
theorem hts_any (mb sb d:Nat) (hd:DOk d) (ord:List Int) (sv:Value) (nl:Bool) (ops:List Op) (sc:Value) (w:World) (hm:rdA w mb 0 3=some (mkV sv d nl)) (hs:rd w sb 0=some sc) (hO:SlInt w sv ord) (hOb:ord.length<=2147483647) (hsc:SlV w 9 sc ops.length (flat Eop ops)) (hob:ops.length<=4294967294) :
  CallK Try.prog 39 #[ptr mb,ptr sb] w fun v w'=>(∃ n:Nat,v = .tuple #[.int .i64 n,.bool true]/\OpsH ord (degOf d) ops n)/\Ext noF w w':=by
 refine calls_of_W [.tmp 2,.tmp 3] Try.func39 rfl Try.ntmps39 Try.results39 (by simp) fun e he=>?_
 have e0:e 0=ptr mb:=he 0 _ rfl
 have e1:e 1=ptr sb:=he 1 _ rfl
 clear he
 refine W_sq fun K hK=>(W_text [true,true] (by kernel_rfl) ?_);simp only [↓zZ1,↓reduceIte,Nat.reduceEqDiff,rg,ow_39]
 apply hK;clear hK K
 refine W_sq fun K hK=>(W_text [true,true,false,true] (by kernel_rfl) ?_);simp only [↓zZ1,↓reduceIte,Nat.reduceEqDiff,rg,ow_39,e0,e1,ptr_eq,hm,hs]
 refine do_call fn_40 (vs:=#[mkV sv d nl,sc]) (by simp only [zZ2,Nat.reduceEqDiff,↓reduceIte,zZ4]<;>rfl) (gshapes_any d hd ord sv nl ops sc w hO hOb hsc hob) ?_
 rintro v1 w1 ⟨⟨n,k,a,l,c,h1,h2⟩,x1⟩
 refine ⟨trivial,?_⟩
 simp only [↓zZ1,↓reduceIte,Nat.reduceEqDiff,rg,ow_39]
 apply hK;clear hK K
 obtain ⟨a1,c1,hv1⟩:=h1.shape
 obtain ⟨b1,o1,ha1,r1⟩:=h1.at hv1 (show 0<1 by decide)
 subst ha1
 have z1:rd w1 b1 o1=some (.int .i64 n):=(Row.cons.1 r1).1
 have i0:idxX (some 3) ⟨b1,o1,none⟩ 1 (0:Int)=some (.pointer (some ⟨b1,o1,none⟩)):=by
  have:=idxX_s 3 b1 o1 1 0 (by decide)
  rwa [Nat.zero_mul,Nat.add_zero] at this
 have t1:(((1:Nat):Int) == 1)=true:=rfl
 refine W_sq fun K hK=>(W_text [true,true,true,true,true,true,true,true,true] (by kernel_rfl) ?_);simp only [↓zZ1,↓reduceIte,Nat.reduceEqDiff,rg,ow_39,hv1,ptr_eq,i0,z1,t1]
 apply hK;clear hK K
 exact W_ret (endQ_2 (by simp only [upd_eq,Nat.reduceEqDiff,↓reduceIte]<;>rfl) (by simp only [upd_eq,Nat.reduceEqDiff,↓reduceIte]<;>rfl) ⟨⟨n,rfl,h2⟩,x1⟩)
theorem sets_snocO (l:List It) (i:Nat) (x:It) (hx:l[i]? = some x):(l.take (i+1)).map Op.set=(l.take i).map Op.set++[Op.set x]:=by rw [List.take_add_one,hx];simp
theorem opL_pop (ord:List Int) (o:Op) (ho:o = .pmin\/o = .pmax) (xs:List It):(opL ord o xs).length=xs.length-1:=by
 rcases ho with rfl | rfl
 ·show xs.tail.length=_;simp
 ·show xs.dropLast.length=_;simp
set_option maxHeartbeats 3200000 in
set_option maxRecDepth 8000 in
theorem top_FnGShapeGrows (ord:List Int) (sv:Value) (d:Int) (nl:Bool) (a0:List It) (v0:Value) (a1:List Bool) (v1:Value) (w:World) (gs:SlInt w sv ord) (g0:SlI w v0 a0) (g1:SlV w 1 v1 a1.length (flat Ebl a1)) :
  CallK Try.prog 10 #[.agg #[sv,.int .i64 d,.bool nl],v0,v1] w fun v w'=>v = .bool true/\Ext noF w w':=by
 obtain ⟨p0,c0,hv0⟩:=SlV.shape g0
 obtain ⟨p1,c1,hv1⟩:=SlV.shape g1
 refine calls_of_W [.tmp 6] Try.func10 rfl Try.ntmps10 Try.results10 (by simp) fun e he=>?_
 have e0:e 0 = .agg #[sv,.int .i64 d,.bool nl]:=he 0 _ rfl
 have e1:e 1=v0:=he 1 _ rfl
 have e2:e 2=v1:=he 2 _ rfl
 clear he
 refine W_sq fun K hK=>(W_text [false,true] (by kernel_rfl) ?_);simp only [↓zZ1,↓reduceIte,Nat.reduceEqDiff,rg,ow_10]
 refine do_box (by simp only [evt];exact e0) fun w1 n1=>⟨trivial,?_⟩
 simp only [↓zZ1,↓reduceIte,Nat.reduceEqDiff,rg,ow_10]
 apply hK;clear hK K
 have rm1:Row w1 w.heap.size 0 [sv,.int .i64 d,.bool nl]:=n1.row
 have XB:Ext noF w w1:=n1.ext
 have sB:=n1.size
 have rm13:rdA w1 w.heap.size 0 3=some (.agg #[sv,.int .i64 d,.bool nl]):=rm1.rdA 3 (Nat.le_refl _)
 refine W_seq ?_
 refine W_sq fun K hK=>(W_text [true,false,true,true,true,true,true,true,true,true,true,true,true] (by kernel_rfl) ?_);simp only [↓zZ1,↓reduceIte,Nat.reduceEqDiff,rg,ow_10,e1,e2,hv0,hv1,rm13]
 refine do_call fn_12 (by simp only [zZ2,Nat.reduceEqDiff,↓reduceIte,zZ4]<;>rfl) (fits1_any sv ord (.int .i64 d) nl w1 (SlV.ext0 gs XB)) ?_
 rintro _ wf ⟨rfl,xf⟩
 refine ⟨trivial,?_⟩
 have XF:=XB.tr xf
 by_cases hbo:ord.length<=2147483647
 case neg =>
  have to:decide (ord.length<=2147483647)=false:=by simp;omega
  simp only [↓zZ1,↓reduceIte,Nat.reduceEqDiff,rg,ow_10,e1,e2,hv0,hv1,to]
  apply hK;clear hK K
  refine W_true (by simp only [zZ2,Nat.reduceEqDiff,↓reduceIte,zZ3]<;>rfl) ?_
  refine W_sq fun K hK=>(W_text [true] (by kernel_rfl) ?_);simp only [↓zZ1,↓reduceIte,Nat.reduceEqDiff,rg,ow_10]
  apply hK;clear hK K
  refine W_ret ?_
  simp only [andThen_ret]
  exact endQ_1 (by simp only [upd_eq,Nat.reduceEqDiff,↓reduceIte]<;>rfl) ⟨rfl,XF⟩
 have to:decide (ord.length<=2147483647)=true:=by simp;omega
 by_cases hb0:a0.length<=2147483647
 case neg =>
  have t0:decide ((2147483647:Int)<(a0.length:Int))=true:=by simp;omega
  simp only [↓zZ1,↓reduceIte,Nat.reduceEqDiff,rg,ow_10,e1,e2,hv0,hv1,to,t0]
  apply hK;clear hK K
  refine W_true (by simp only [zZ2,Nat.reduceEqDiff,↓reduceIte,zZ3]<;>rfl) ?_
  refine W_sq fun K hK=>(W_text [true] (by kernel_rfl) ?_);simp only [↓zZ1,↓reduceIte,Nat.reduceEqDiff,rg,ow_10]
  apply hK;clear hK K
  refine W_ret ?_
  simp only [andThen_ret]
  exact endQ_1 (by simp only [upd_eq,Nat.reduceEqDiff,↓reduceIte]<;>rfl) ⟨rfl,XF⟩
 have t0:decide ((2147483647:Int)<(a0.length:Int))=false:=by simp;omega
 by_cases hb1:a1.length<=2147483647
 case neg =>
  have t1:decide ((2147483647:Int)<(a1.length:Int))=true:=by simp;omega
  simp only [↓zZ1,↓reduceIte,Nat.reduceEqDiff,rg,ow_10,e1,e2,hv0,hv1,to,t0,t1]
  apply hK;clear hK K
  refine W_true (by simp only [zZ2,Nat.reduceEqDiff,↓reduceIte,zZ3]<;>rfl) ?_
  refine W_sq fun K hK=>(W_text [true] (by kernel_rfl) ?_);simp only [↓zZ1,↓reduceIte,Nat.reduceEqDiff,rg,ow_10]
  apply hK;clear hK K
  refine W_ret ?_
  simp only [andThen_ret]
  exact endQ_1 (by simp only [upd_eq,Nat.reduceEqDiff,↓reduceIte]<;>rfl) ⟨rfl,XF⟩
 have t1:decide ((2147483647:Int)<(a1.length:Int))=false:=by simp;omega
 simp only [↓zZ1,↓reduceIte,Nat.reduceEqDiff,rg,ow_10,e1,e2,hv0,hv1,to,t0,t1]
 apply hK;clear hK K
 refine W_false (by simp only [zZ2,Nat.reduceEqDiff,↓reduceIte,zZ3]<;>rfl) (W_skip ?_)
 show W _ _ _ _ _ _
 have rmf:=xf.row rm1 fun _ _ h=>h
 have rmf3:rdA wf w.heap.size 0 3=some (.agg #[sv,.int .i64 d,.bool nl]):=rmf.rdA 3 (Nat.le_refl _)
 refine W_seq ?_
 refine W_sq fun K hK=>(W_text [true,false,true] (by kernel_rfl) ?_);simp only [↓zZ1,↓reduceIte,Nat.reduceEqDiff,rg,ow_10,rmf3]
 refine do_call fn_13 (by simp only [zZ2,Nat.reduceEqDiff,↓reduceIte,zZ4]<;>rfl) (fitsL_any sv d nl wf (SlV.one gs)) ?_
 rintro _ wc ⟨rfl,xc⟩
 refine ⟨trivial,?_⟩
 have XC:=XF.tr xc
 cases hf:(decide (d=0) || (decide (2<=d) && decide (d<=128))) with
 | false =>
  simp only [↓zZ1,↓reduceIte,Nat.reduceEqDiff,rg,ow_10]
  apply hK;clear hK K
  refine W_true (by simp only [zZ2,Nat.reduceEqDiff,↓reduceIte,zZ3]<;>rfl) ?_
  refine W_sq fun K hK=>(W_text [false,true] (by kernel_rfl) ?_);simp only [↓zZ1,↓reduceIte,Nat.reduceEqDiff,rg,ow_10]
  refine do_call fn_14 (by simp only [zZ2,Nat.reduceEqDiff,↓reduceIte,zZ4]<;>rfl) (alive_any wc) ?_
  rintro _ u1 ⟨rfl,z1⟩
  refine ⟨trivial,?_⟩
  simp only [↓zZ1,↓reduceIte,Nat.reduceEqDiff,rg,ow_10]
  apply hK;clear hK K
  refine W_ret ?_
  simp only [andThen_ret]
  exact endQ_1 (by simp only [upd_eq,Nat.reduceEqDiff,↓reduceIte]<;>rfl) ⟨rfl,XC.tr z1⟩
 | true =>
  have h2:d=0\/2<=d/\d<=128:=by simp at hf;omega
  obtain ⟨n,rfl⟩:∃ n:Nat,d=n:=⟨d.toNat,by omega⟩
  have hd:DOk n:=by unfold DOk;omega
  simp only [↓zZ1,↓reduceIte,Nat.reduceEqDiff,rg,ow_10]
  apply hK;clear hK K
  refine W_false (by simp only [zZ2,Nat.reduceEqDiff,↓reduceIte,zZ3]<;>rfl) (W_skip ?_)
  show W _ _ _ _ _ _
  have rm:Row wc w.heap.size 0 (mkL sv n nl):=xc.row rmf fun _ _ h=>h
  have rm3:=mk_at rm
  have sC:w.heap.size<wc.heap.size:=by have:=xf.size;have:=xc.size;omega
  obtain ⟨dn,hdn⟩:∃ dn,dn=degOf n:=⟨_,rfl⟩
  have hd2:2<=degOf n:=hd.of.1
  have XCw:=XC
  refine W_sq fun K hK=>(W_text [false] (by kernel_rfl) ?_);simp only [↓zZ1,↓reduceIte,Nat.reduceEqDiff,rg,ow_10]
  refine do_alloc z_scr fun w1' n1'=>⟨trivial,?_⟩
  simp only [↓zZ1,↓reduceIte,Nat.reduceEqDiff,rg,ow_10]
  apply hK;clear hK K
  have s1':=n1'.size
  refine W_sq fun K hK=>(W_text [true] (by kernel_rfl) ?_);simp only [↓zZ1,↓reduceIte,Nat.reduceEqDiff,rg,ow_10]
  apply hK;clear hK K
  refine W_sq fun K hK=>(W_text [true,true] (by kernel_rfl) ?_);simp only [↓zZ1,↓reduceIte,Nat.reduceEqDiff,rg,ow_10]
  apply hK;clear hK K
  have rmS:Row w1' w.heap.size 0 (mkL sv n nl):=n1'.ext.row rm fun _ _ h=>h
  have hH0:OpsH ord (degOf n) ([]:List Op) 0:=⟨_,.nil,.inl ⟨rfl,rfl⟩,fun _=>rfl,fun _=>rfl⟩
  obtain ⟨sb,hsb⟩:∃ sb,sb=wc.heap.size:=⟨_,rfl⟩
  have hb0':=n1'.row
  have X1:Ext noF w w1':=XC.tr n1'.ext
  rw [<-hsb]
  have hsl:sb<w1'.heap.size:=by omega
  have hwsb:w.heap.size<sb:=by omega
  refine W_seq (W_seq ?_)
  refine W_rg fun K hK=>(W_text [true,true,true] (by kernel_rfl) ?_);simp only [↓zZ1,↓reduceIte,Nat.reduceEqDiff,rg,ow_10,e1,hv0]
  apply hK;clear hK K
  show W _ _ _ _ _ _
  refine W_block (W_loop (fun mm e w'=>∃ (i k:Nat) (sc:Value),mm=a0.length-i/\i<=a0.length/\e 1=v0/\e 2=v1/\e 3=ptr w.heap.size/\e 7=ptr sb/\e 8 = .int .i64 k/\e 9=cH w.heap.size sb/\e 35 = .slice p0 a0.length c0/\e 36 = .int .i64 a0.length/\e 37 = .int .i64 i ∧
    rd w' sb 0=some sc/\SlV w' 9 sc ((a0.take i).map Op.set).length (flat Eop ((a0.take i).map Op.set))/\since (sb+1) sc/\wok w' sb 1/\OpsH ord (degOf n) ((a0.take i).map Op.set) k/\k<=i/\Ext noF w w'/\w1'.heap.size<=w'.heap.size/\Row w' w.heap.size 0 (mkL sv n nl))
   a0.length ⟨0,0,.slice none 0 0,by simp,by simp,e1,e2,(by simp only [upd_eq,Nat.reduceEqDiff,↓reduceIte];first | done | rfl),(by simp only [upd_eq,Nat.reduceEqDiff,↓reduceIte];first | done | rfl),(by simp only [upd_eq,Nat.reduceEqDiff,↓reduceIte];first | done | rfl),(by simp only [upd_eq,Nat.reduceEqDiff,↓reduceIte];first | done | rfl),(by first | (simp only [upd_eq,Nat.reduceEqDiff,↓reduceIte];done) | (simp only [upd_eq,Nat.reduceEqDiff,↓reduceIte];first | rfl | exact e1.trans hv0)),(by first | (simp only [upd_eq,Nat.reduceEqDiff,↓reduceIte];done) | (simp only [upd_eq,Nat.reduceEqDiff,↓reduceIte];rfl)),(by first | (simp only [upd_eq,Nat.reduceEqDiff,↓reduceIte];done) | (simp only [upd_eq,Nat.reduceEqDiff,↓reduceIte];rfl)),
    by rw [hsb];exact (Row.cons.1 hb0').1,⟨rfl,.inl ⟨rfl,rfl⟩⟩,(fun _ _ _ _ h=>by cases h),by rw [hsb];exact n1'.wok,hH0,Nat.le_refl _,X1,Nat.le_refl _,rmS⟩ ?_)
  clear e0 e1 e2 e rm3
  rintro mm e w' ⟨i,k,sc,rfl,hi,e1,e2,e3,e7,e8,e9,e35,e36,e37,hsc,hsl',hsi,hwk,hH,hki,X,XS,rmw⟩
  have hil:((a0.take i).map Op.set).length=i:=by rw [List.length_map,List.length_take];omega
  by_cases hlt:i<a0.length
  ·have ht:=lt_tt i a0.length hlt
   refine W_sq fun K hK=>(W_text [true] (by kernel_rfl) ?_);simp only [↓zZ1,↓reduceIte,Nat.reduceEqDiff,rg,ow_10,e36,e37,ht]
   apply hK;clear hK K
   refine W_seq (W_true (by simp only [zZ2,Nat.reduceEqDiff,↓reduceIte,zZ3]<;>rfl) (W_skip ?_))
   show W _ _ _ _ _ _
   obtain ⟨x,hx⟩:∃ x,a0[i]? = some x:=⟨_,List.getElem?_eq_getElem hlt⟩
   obtain ⟨b1,o1,ga,r1⟩:=SlV.at g0 hv0 hlt
   subst ga
   have y1:=it_at (X.row r1 fun _ _ h=>h) hx
   refine W_seq (W_block ?_)
   refine W_sq fun K hK=>(W_text [true,true,false,false] (by kernel_rfl) ?_);simp only [↓zZ1,↓reduceIte,Nat.reduceEqDiff,rg,ow_10,e35,e37,hlt,y1]
   refine do_alloc z_item fun w3 n3=>⟨trivial,?_⟩
   simp only [↓zZ1,↓reduceIte,Nat.reduceEqDiff,rg,ow_10]
   refine do_store (v:=itV x) (by simp only [zZ2,Nat.reduceEqDiff,↓reduceIte,zZ3]<;>rfl) (by simp only [zZ2,Nat.reduceEqDiff,↓reduceIte,zZ3]<;>rfl) sz_33 (itV_len x) n3.wok (by decide) (itV_oc x) fun w4 x4 r4 s4=>⟨trivial,?_⟩
   simp only [↓zZ1,↓reduceIte,Nat.reduceEqDiff,rg,ow_10]
   apply hK;clear hK K
   have s3:=n3.size
   have Y4:Ext noF w' w4:=n3.ext.trans x4 (fun _ _ g=>g) fun y o hy g=>by have:=g.1;omega
   have ix4:=iX_at (show Row w4 w'.heap.size 0 (E.cel x) from r4)
   have hsc4:=Y4.rd hsc fun g=>g
   refine W_sq fun K hK=>(W_text [true,true,true,false,false,false] (by kernel_rfl) ?_);simp only [↓zZ1,↓reduceIte,Nat.reduceEqDiff,rg,ow_10,e7,ptr_eq,hsc4,ix4,bu_sts]
   refine do_bsl rfl (bs_st (.set x)) fun w5 n5=>⟨trivial,?_⟩
   simp only [↓zZ1,↓reduceIte,Nat.reduceEqDiff,rg,ow_10]
   have s5:=n5.size
   have Y5:Ext noF w' w5:=Y4.tr n5.ext
   refine do_append (by simp only [zZ2,Nat.reduceEqDiff,↓reduceIte,zZ3]<;>rfl) (by simp only [zZ2,Nat.reduceEqDiff,↓reduceIte,zZ3]<;>rfl) el_st rfl ni_st (hsl'.ext0 Y5) (u:=.slice (some ⟨w4.heap.size,0,none⟩) 1 1) (m:=1) (l':=Eop.cel (.set x)) ⟨Eop.len _,.inr ⟨_,0,1,rfl,Nat.le_refl _,n5.row,n5.wok.R (Nat.le_refl _)⟩⟩ (by omega) (by decide) (Eop.one _) fun v6 w6 a6=>⟨trivial,?_⟩
   have s4':w4.heap.size=w'.heap.size+1:=by omega
   obtain ⟨k1,k2,k3⟩:=app_since (B:=sb+1) a6 hsi (by omega)
   obtain ⟨a6',c6',rfl⟩:=k1.shape
   simp only [↓zZ1,↓reduceIte,Nat.reduceEqDiff,rg,ow_10,e7,ptr_eq]
   have wk6:wok w6 sb 1:=k3.wok (Y5.wok hwk)
   refine do_store (b:=sb) (o:=0) (by simp only [zZ2,Nat.reduceEqDiff,↓reduceIte];exact e7) (by simp only [zZ2,Nat.reduceEqDiff,↓reduceIte,zZ3]<;>rfl) sz_71 rfl wk6 (by decide) (oc_one rfl rfl) fun w7 x7 r7 s7=>⟨trivial,?_⟩
   simp only [↓zZ1,↓reduceIte,Nat.reduceEqDiff,rg,ow_10]
   apply hK;clear hK K
   have s6:=k3.size
   have hsc7:rd w7 sb 0=some (.slice a6' (((a0.take i).map Op.set).length+1:Nat) c6'):=(Row.cons.1 r7).1
   have hsl7:=k1.ext x7 fun b o c h j hj g=>by have:=k2 _ _ _ _ h;have:=g.1;omega
   have Y7:Ext noF w w7:=noF_of X ((Y5.mono (G:=fun y _=>sb<=y) fun _ _ _ g=>g.elim).tr ((k3.mono fun y o _ g=>by omega).tr (x7.mono fun y o _ g=>by have:=g.1;omega))) fun y o hy g=>by omega
   have rm7:Row w7 w.heap.size 0 (mkL sv n nl):=(((Y5.mono (G:=fun y _=>sb<=y) fun _ _ _ g=>g.elim).tr ((k3.mono fun y o _ g=>by omega).tr (x7.mono fun y o _ g=>by have:=g.1;omega))).row rmw fun j _ g=>by omega)
   have hso:=sets_snocO a0 i x hx
   have hol:((a0.take (i+1)).map Op.set).length=i+1:=by rw [List.length_map,List.length_take];omega
   have hS7:SlV w7 9 (.slice a6' (((a0.take i).map Op.set).length+1:Nat) c6') ((a0.take (i+1)).map Op.set).length (flat Eop ((a0.take (i+1)).map Op.set)):=by
    rw [hso,List.length_append,flat_append,flat_one];exact hsl7
   have rm73:=mk_at rm7
   refine W_seq ?_
   refine W_sq fun K hK=>(W_text [true,true,false,true] (by kernel_rfl) ?_);simp only [↓zZ1,↓reduceIte,Nat.reduceEqDiff,rg,ow_10,e3,e7,ptr_eq,rm73,hsc7]
   refine do_call fn_40 (by simp only [zZ2,Nat.reduceEqDiff,↓reduceIte,zZ4]<;>rfl) (gshapes_any n hd ord sv nl _ _ w7 (SlV.ext0 gs Y7) hbo hS7 (by omega)) ?_
   rintro v8 w8 ⟨⟨h1,hk1,ha1,hl1,hc1,hV8,hO8⟩,x8⟩
   refine ⟨trivial,?_⟩
   simp only [↓zZ1,↓reduceIte,Nat.reduceEqDiff,rg,ow_10]
   apply hK;clear hK K
   obtain ⟨a8,c8,hv8⟩:=hV8.shape
   obtain ⟨b8,o8,ha8,r8⟩:=hV8.at hv8 (show 0<1 by decide)
   subst ha8
   have z8:rd w8 b8 o8=some (.int .i64 h1):=(Row.cons.1 r8).1
   have i0:idxX (some 3) ⟨b8,o8,none⟩ 1 (0:Int)=some (.pointer (some ⟨b8,o8,none⟩)):=by
    have:=idxX_s 3 b8 o8 1 0 (by decide)
    rwa [Nat.zero_mul,Nat.add_zero] at this
   have hgr:=hH.set hd2 (by rw [<-hso];exact hO8)
   have t1:(((1:Nat):Int) != 1)=false:=rfl
   have t2:decide ((h1:Int)<(k:Int))=false:=by simp;omega
   have t3:decide (((k+1:Nat):Int)<(h1:Int))=false:=by simp;omega
   have q1:=wadd1 k (by omega)
   refine W_sq fun K hK=>(W_text [true,true,true,true,true,true,true,true,true,true,true,true,true,true,true,true,true,true,true,true] (by kernel_rfl) ?_);simp only [↓zZ1,↓reduceIte,Nat.reduceEqDiff,rg,ow_10,hv8,e8,ptr_eq,i0,z8,t1,t2,t3,q1]
   apply hK;clear hK K
   refine W_false (by simp only [zZ2,Nat.reduceEqDiff,↓reduceIte,zZ3]<;>rfl) (W_skip ?_)
   show W _ _ _ _ _ _
   have hsc8:=x8.rd hsc7 fun g=>g
   have rm8:Row w8 w.heap.size 0 (mkL sv n nl):=x8.row rm7 fun _ _ g=>g
   refine W_rg fun K hK=>(W_text [true,false,true,true,true,true] (by kernel_rfl) ?_);simp only [↓zZ1,↓reduceIte,Nat.reduceEqDiff,rg,ow_10,e9]
   refine do_callv (first:=#[]) (captured:=#[ptr w.heap.size,ptr sb]) (by simp only [evt,upd_eq,Nat.reduceEqDiff,↓reduceIte];first | exact e9 | rfl) fn_hts rfl (by simp only [evt,upd_eq,Nat.reduceEqDiff,↓reduceIte,maT,maC,maN];exact hts_any w.heap.size sb n hd ord sv nl _ _ w8 (mk_at rm8) hsc8 (SlV.ext0 gs (Y7.tr x8)) hbo (hS7.ext0 x8) (by omega)) ?_
   rintro _ w9 ⟨⟨h2,rfl,hO9⟩,x9⟩
   refine ⟨trivial,?_⟩
   simp only [↓zZ1,↓reduceIte,Nat.reduceEqDiff,rg,ow_10]
   apply hK;clear hK K
   show W _ _ _ _ _ _
   have q2:=wadd1 i (by omega)
   refine W_rg fun K hK=>(W_text [true,true] (by kernel_rfl) ?_);simp only [↓zZ1,↓reduceIte,Nat.reduceEqDiff,rg,ow_10,e37,q2]
   apply hK;clear hK K
   have s8:=x8.size
   have s9:=x9.size
   refine ⟨_,?_,i+1,h2,_,rfl,hlt,by simp only [upd_eq,Nat.reduceEqDiff,↓reduceIte];exact e1,by simp only [upd_eq,Nat.reduceEqDiff,↓reduceIte];exact e2,by simp only [upd_eq,Nat.reduceEqDiff,↓reduceIte];exact e3,by simp only [upd_eq,Nat.reduceEqDiff,↓reduceIte];exact e7,by simp only [upd_eq,Nat.reduceEqDiff,↓reduceIte],by simp only [upd_eq,Nat.reduceEqDiff,↓reduceIte];exact e9,by simp only [upd_eq,Nat.reduceEqDiff,↓reduceIte];exact e35,by simp only [upd_eq,Nat.reduceEqDiff,↓reduceIte];exact e36,by simp only [upd_eq,Nat.reduceEqDiff,↓reduceIte],x9.rd hsc8 fun g=>g,(hS7.ext0 x8).ext0 x9,k2,x9.wok (x8.wok (x7.wok wk6)),hO9,by have:=hO9.one hO8;omega,(Y7.tr x8).tr x9,by omega,x9.row rm8 fun _ _ g=>g⟩
   omega
  ·obtain rfl:i=a0.length:=by omega
   have ht:=lt_ff a0.length a0.length (by omega)
   refine W_sq fun K hK=>(W_text [true] (by kernel_rfl) ?_);simp only [↓zZ1,↓reduceIte,Nat.reduceEqDiff,rg,ow_10,e36,e37,ht]
   apply hK;clear hK K
   refine W_seq (W_false (by simp only [zZ2,Nat.reduceEqDiff,↓reduceIte,zZ3]<;>rfl) (W_exit ?_))
   simp only [andThen_exit,inBlk_exit,andThen_normal,↓reduceIte]
   rw [List.take_length] at hsl' hH hil
   refine W_seq (W_seq ?_)
   refine W_rg fun K hK=>(W_text [true,true,true] (by kernel_rfl) ?_);simp only [↓zZ1,↓reduceIte,Nat.reduceEqDiff,rg,ow_10,e1,hv0]
   apply hK;clear hK K
   show W _ _ _ _ _ _
   refine W_block (W_loop (fun mm e w'=>∃ (i k:Nat) (sc:Value) (ops:List Op),mm=a0.length-i/\i<=a0.length/\e 1=v0/\e 2=v1/\e 3=ptr w.heap.size/\e 7=ptr sb/\e 8 = .int .i64 k/\e 9=cH w.heap.size sb/\e 76 = .int .i64 a0.length/\e 77 = .int .i64 i ∧
     ops.length=a0.length+i/\rd w' sb 0=some sc/\SlV w' 9 sc ops.length (flat Eop ops)/\since (sb+1) sc/\wok w' sb 1/\OpsH ord (degOf n) ops k/\k<=a0.length/\(opsL ord ops).length<=a0.length-i/\Ext noF w w'/\w1'.heap.size<=w'.heap.size/\Row w' w.heap.size 0 (mkL sv n nl))
    a0.length ⟨0,k,sc,a0.map Op.set,by simp,by simp,e1,e2,e3,e7,e8,e9,(by first | (simp only [upd_eq,Nat.reduceEqDiff,↓reduceIte];done) | (simp only [upd_eq,Nat.reduceEqDiff,↓reduceIte];rfl)),(by first | (simp only [upd_eq,Nat.reduceEqDiff,↓reduceIte];done) | (simp only [upd_eq,Nat.reduceEqDiff,↓reduceIte];rfl)),
     by simp,hsc,hsl',hsi,hwk,hH,hki,by have:=opsL_len ord (a0.map Op.set);simp at this;omega,X,XS,rmw⟩ ?_)
   clear e1 e2 e3 e7 e8 e9 e35 e36 e37 e hsc hsl' hsi hwk hH hki X XS rmw hil hlt ht hi
   clear w' k sc
   rintro mm e w' ⟨i,k,sc,ops,rfl,hi,e1,e2,e3,e7,e8,e9,e76,e77,hol0,hsc,hsl',hsi,hwk,hH,hki,hxl,X,XS,rmw⟩
   by_cases hlt:i<a0.length
   ·have ht:=lt_tt i a0.length hlt
    refine W_sq fun K hK=>(W_text [true] (by kernel_rfl) ?_);simp only [↓zZ1,↓reduceIte,Nat.reduceEqDiff,rg,ow_10,e76,e77,ht]
    apply hK;clear hK K
    refine W_seq (W_true (by simp only [zZ2,Nat.reduceEqDiff,↓reduceIte,zZ3]<;>rfl) (W_skip ?_))
    show W _ _ _ _ _ _
    refine W_seq (W_block ?_)
    refine W_sq fun K hK=>(W_text [true,true] (by kernel_rfl) ?_);simp only [↓zZ1,↓reduceIte,Nat.reduceEqDiff,rg,ow_10,e77]
    apply hK;clear hK K
    refine W_sq fun K hK=>(W_text [true] (by kernel_rfl) ?_);simp only [↓zZ1,↓reduceIte,Nat.reduceEqDiff,rg,ow_10]
    apply hK;clear hK K
    refine W_sqx fun J hJ=>?_
    have hend:∀ (g:Env) (o:Op) (kd:Int),(∀ q,(q=1\/q=2\/q=3\/q=7\/q=8\/q=9\/q=76\/q=77)->g q=e q)->g 14 = .int .i64 kd->buildV Try.prog 78 [(0,.int .i64 kd)]=some (stV o)->(o = .pmin\/o = .pmax)->J g w':=by
     intro g o kd hg g14 hbu ho
     refine hJ _ _ ?_;clear hJ J
     have g3:=(hg 3 (by omega)).trans e3
     have g7:=(hg 7 (by omega)).trans e7
     have g8:=(hg 8 (by omega)).trans e8
     have g9:=(hg 9 (by omega)).trans e9
     have g77:=(hg 77 (by omega)).trans e77
     refine W_sq fun K hK=>(W_text [true,true,true,false,false,false] (by kernel_rfl) ?_);simp only [↓zZ1,↓reduceIte,Nat.reduceEqDiff,rg,ow_10,g7,g14,ptr_eq,hsc,hbu]
     refine do_bsl rfl (bs_st o) fun w5 n5=>⟨trivial,?_⟩
     simp only [↓zZ1,↓reduceIte,Nat.reduceEqDiff,rg,ow_10]
     have s5:=n5.size
     have Y5:Ext noF w' w5:=n5.ext
     refine do_append (by simp only [zZ2,Nat.reduceEqDiff,↓reduceIte,zZ3]<;>rfl) (by simp only [zZ2,Nat.reduceEqDiff,↓reduceIte,zZ3]<;>rfl) el_st rfl ni_st (hsl'.ext0 Y5) (u:=.slice (some ⟨w'.heap.size,0,none⟩) 1 1) (m:=1) (l':=Eop.cel o) ⟨Eop.len _,.inr ⟨_,0,1,rfl,Nat.le_refl _,n5.row,n5.wok.R (by rw [Eop.len o];exact Nat.le_refl _)⟩⟩ (by omega) (by decide) (Eop.one _) fun v6 w6 a6=>⟨trivial,?_⟩
     obtain ⟨k1,k2,k3⟩:=app_since (B:=sb+1) a6 hsi (by omega)
     obtain ⟨a6',c6',rfl⟩:=k1.shape
     simp only [↓zZ1,↓reduceIte,Nat.reduceEqDiff,rg,ow_10,g7,ptr_eq]
     have wk6:wok w6 sb 1:=k3.wok (Y5.wok hwk)
     refine do_store (b:=sb) (o:=0) (by simp only [zZ2,Nat.reduceEqDiff,↓reduceIte];exact g7) (by simp only [zZ2,Nat.reduceEqDiff,↓reduceIte,zZ3]<;>rfl) sz_71 rfl wk6 (by decide) (oc_one rfl rfl) fun w7 x7 r7 s7=>⟨trivial,?_⟩
     simp only [↓zZ1,↓reduceIte,Nat.reduceEqDiff,rg,ow_10]
     apply hK;clear hK K
     have s6:=k3.size
     have hsc7:rd w7 sb 0=some (.slice a6' (ops.length+1:Nat) c6'):=(Row.cons.1 r7).1
     have hsl7:=k1.ext x7 fun b o c h j hj g=>by have:=k2 _ _ _ _ h;have:=g.1;omega
     have YY:=(Y5.mono (G:=fun y _=>sb<=y) fun _ _ _ g=>g.elim).tr ((k3.mono (G:=fun y _=>sb<=y) fun y o _ g=>by omega).tr (x7.mono (G:=fun y _=>sb<=y) fun y o _ g=>by have:=g.1;omega))
     have Y7:Ext noF w w7:=noF_of X YY fun y o hy g=>by omega
     have rm7:Row w7 w.heap.size 0 (mkL sv n nl):=YY.row rmw fun j _ g=>by omega
     have hS7:SlV w7 9 (.slice a6' (ops.length+1:Nat) c6') (ops++[o]).length (flat Eop (ops++[o])):=by
      rw [List.length_append,flat_append,flat_one];exact hsl7
     refine W_sq fun K hK=>(W_text [true,false,true,true,true,true,true] (by kernel_rfl) ?_);simp only [↓zZ1,↓reduceIte,Nat.reduceEqDiff,rg,ow_10,g9]
     refine do_callv (first:=#[]) (captured:=#[ptr w.heap.size,ptr sb]) (by simp only [evt,upd_eq,Nat.reduceEqDiff,↓reduceIte];first | exact g9 | rfl) fn_hts rfl (by simp only [evt,upd_eq,Nat.reduceEqDiff,↓reduceIte,maT,maC,maN];exact hts_any w.heap.size sb n hd ord sv nl _ _ w7 (mk_at rm7) hsc7 (SlV.ext0 gs Y7) hbo hS7 (by rw [List.length_append,List.length_singleton];omega)) ?_
     rintro _ w9 ⟨⟨h2,rfl,hO9⟩,x9⟩
     refine ⟨trivial,?_⟩
     simp only [↓zZ1,↓reduceIte,Nat.reduceEqDiff,rg,ow_10]
     apply hK;clear hK K
     obtain ⟨p1',p2'⟩:=hH.pop ho hO9
     have t2:decide ((k:Int)<(h2:Int))=false:=by simp;omega
     have t3:decide ((h2:Int)<(k:Int)-1)=false:=by simp;omega
     have q1:IntKind.i64.wrap ((k:Int)-1)=(k:Int)-1:=IntWalk.i64_in _ (by omega)
     refine W_seq ?_
     refine W_sq fun K hK=>(W_text [true,true,true,true,true,true,true,true,true] (by kernel_rfl) ?_);simp only [↓zZ1,↓reduceIte,Nat.reduceEqDiff,rg,ow_10,g8,t2,q1,t3]
     apply hK;clear hK K
     refine W_false (by simp only [zZ2,Nat.reduceEqDiff,↓reduceIte,zZ3]<;>rfl) (W_skip ?_)
     show W _ _ _ _ _ _
     refine W_rg fun K hK=>(W_text [true,true] (by kernel_rfl) ?_);simp only [↓zZ1,↓reduceIte,Nat.reduceEqDiff,rg,ow_10]
     apply hK;clear hK K
     show W _ _ _ _ _ _
     have q2:=wadd1 i (by omega)
     refine W_rg fun K hK=>(W_text [true,true] (by kernel_rfl) ?_);simp only [↓zZ1,↓reduceIte,Nat.reduceEqDiff,rg,ow_10,g77,q2]
     apply hK;clear hK K
     have s9:=x9.size
     refine ⟨_,?_,i+1,h2,_,ops++[o],rfl,hlt,by simp only [upd_eq,Nat.reduceEqDiff,↓reduceIte];exact (hg 1 (by omega)).trans e1,by simp only [upd_eq,Nat.reduceEqDiff,↓reduceIte];exact (hg 2 (by omega)).trans e2,by simp only [upd_eq,Nat.reduceEqDiff,↓reduceIte];exact g3,by simp only [upd_eq,Nat.reduceEqDiff,↓reduceIte];exact g7,by simp only [upd_eq,Nat.reduceEqDiff,↓reduceIte],by simp only [upd_eq,Nat.reduceEqDiff,↓reduceIte];exact g9,by simp only [upd_eq,Nat.reduceEqDiff,↓reduceIte];exact (hg 76 (by omega)).trans e76,by simp only [upd_eq,Nat.reduceEqDiff,↓reduceIte],by rw [List.length_append,List.length_singleton];omega,x9.rd hsc7 fun g=>g,hS7.ext0 x9,k2,x9.wok (x7.wok wk6),hO9,by omega,by rw [opsL_snoc,opL_pop ord o ho];omega,Y7.tr x9,by omega,x9.row rm7 fun _ _ g=>g⟩
     omega
    clear hJ
    have hkp:∀ (u:Env),(∀ q,(q=1\/q=2\/q=3\/q=7\/q=8\/q=9\/q=76\/q=77)->u q=e q)->∀ q,(q=1\/q=2\/q=3\/q=7\/q=8\/q=9\/q=76\/q=77)->u q=e q:=fun u h=>h
    by_cases hb:i<a1.length
    ·have hb1':=lt_tt i a1.length hb
     obtain ⟨bb,hbb⟩:∃ x,a1[i]? = some x:=⟨_,List.getElem?_eq_getElem hb⟩
     obtain ⟨b2,o2,ga,r2⟩:=SlV.at g1 hv1 hb
     subst ga
     have y2:=bl_at (X.row r2 fun _ _ h=>h) hbb
     refine W_sq fun K hK=>(W_text [true,true,true,true,true,true,true,true,true,true] (by kernel_rfl) ?_);simp only [↓zZ1,↓reduceIte,Nat.reduceEqDiff,rg,ow_10,e2,e77,hv1,hb1',hb,y2]
     apply hK;clear hK K
     cases bb with
     | true =>
      refine W_true (by simp only [zZ2,Nat.reduceEqDiff,↓reduceIte,zZ3]<;>rfl) ?_
      refine W_rg fun K hK=>(W_text [true] (by kernel_rfl) ?_);simp only [↓zZ1,↓reduceIte,Nat.reduceEqDiff,rg,ow_10]
      apply hK;clear hK K
      exact hend _ .pmax 7 (fun q hq=>by simp only [upd_apply];(repeat rw [if_neg (by omega)])) rfl bu_stx (.inr rfl)
     | false =>
      refine W_false (by simp only [zZ2,Nat.reduceEqDiff,↓reduceIte,zZ3]<;>rfl) (W_skip ?_)
      exact hend _ .pmin 6 (fun q hq=>by simp only [upd_apply];(repeat rw [if_neg (by omega)])) rfl bu_stn (.inl rfl)
    ·have hb1':=lt_ff i a1.length (by omega)
     refine W_sq fun K hK=>(W_text [true,true,true,true,true,true,true,true,true,true] (by kernel_rfl) ?_);simp only [↓zZ1,↓reduceIte,Nat.reduceEqDiff,rg,ow_10,e2,e77,hv1,hb1']
     apply hK;clear hK K
     refine W_false (by simp only [zZ2,Nat.reduceEqDiff,↓reduceIte,zZ3]<;>rfl) (W_skip ?_)
     exact hend _ .pmin 6 (fun q hq=>by simp only [upd_apply];(repeat rw [if_neg (by omega)])) rfl bu_stn (.inl rfl)
   ·obtain rfl:i=a0.length:=by omega
    have ht:=lt_ff a0.length a0.length (by omega)
    refine W_sq fun K hK=>(W_text [true] (by kernel_rfl) ?_);simp only [↓zZ1,↓reduceIte,Nat.reduceEqDiff,rg,ow_10,e76,e77,ht]
    apply hK;clear hK K
    refine W_seq (W_false (by simp only [zZ2,Nat.reduceEqDiff,↓reduceIte,zZ3]<;>rfl) (W_exit ?_))
    simp only [andThen_exit,inBlk_exit,andThen_normal,↓reduceIte]
    have hk0:k=0:=by
     obtain ⟨s,-,-,-,h0⟩:=hH
     exact h0 (List.eq_nil_of_length_eq_zero (by omega))
    subst hk0
    have t0':(((0:Nat):Int) == 0)=true:=rfl
    refine W_sq fun K hK=>(W_text [true,true,true,false,true,true] (by kernel_rfl) ?_);simp only [↓zZ1,↓reduceIte,Nat.reduceEqDiff,rg,ow_10,e8,t0']
    refine do_call fn_14 (by simp only [zZ2,Nat.reduceEqDiff,↓reduceIte,zZ4]<;>rfl) (alive_any w') ?_
    rintro _ u6 ⟨rfl,X6⟩
    refine ⟨trivial,?_⟩
    simp only [↓zZ1,↓reduceIte,Nat.reduceEqDiff,rg,ow_10]
    apply hK;clear hK K
    exact W_ret (endQ_1 (by simp only [upd_eq,Nat.reduceEqDiff,↓reduceIte]<;>rfl) ⟨rfl,X.tr X6⟩)
end Go.Proofs.Ytbnnkcofnmipoaa
namespace Go.Proofs.Ytbnnkcofnmipoaa
open Go Go.Proofs Go.ChangeShapes Go.WideShapes Go.ChangeAt Go.RowKit
set_option maxRecDepth 100000
section
variable {H:Type} {enc:TypeId × Value->H}
theorem elem_tru {w:World}:∀ n cs x,DataW.trod enc Try.prog w 0 (fun _=>true) true n 4 cs=some x->cs.length=Ebl.sz->∃ a:Bool,cs=Ebl.cel a:=by
 intro n cs x h _
 obtain ⟨a,h0,_⟩:=DataW.trod_bool Try.underlying4 h
 exact ⟨a,h0⟩
theorem open_bools {w:World} {base:Nat} {v:Value} {d:DataW H} {ps:List MemPlace} (hok:Value.okWide Try.prog w .any base 70 v)
  (h:DataW.Trod enc Try.prog w 0 (fun _=>true) true 70 v d ps) (hz:∀ b o,MemPlace.cell b o ∈ ps->w.frozen? ⟨b,o,none⟩=false):∃ l:List Bool,SlV w 1 v l.length (flat Ebl l):=by
 have hce:Try.prog.cellsOf 4=Ebl.sz:=by kernel_rfl
 exact open_arg (enc:=enc) Ebl Try.underlying70 hce elem_tru hok h hz
end
end Go.Proofs.Ytbnnkcofnmipoaa
namespace Go.Proofs.Ytbnnkcofnmipoaa
open Go Go.Proofs Go.ChangeShapes Go.WideShapes Go.ChangeAt Go.RowKit
set_option maxRecDepth 100000 in
theorem c_FnGShapeGrows (H:Type) (enc:TypeId × Value->H) (W:World) (base:Nat) (args:Array Value) (ds gs:List (DataW H)) (before:List MemPlace)
  (hval:∀ (j:Nat) t v,Try.f10.params[j]? = some t->args[j]? = some v->Value.okWide Try.prog W .any base t v)
  (hW:DataW.Whole enc Try.prog Try.f10.params.toList Rows.fnGShapeGrowsSpec.vars false W args.toList ds gs before) :
  Calls Try.prog 10 args W fun e W'=>∃ v,e = .returned v/\Rows.fnGShapeGrowsSpec.post enc Try.prog Try.f10 false true false false W args v W':=by
 have hW':=hW
 obtain ⟨p,q,hA0,hV,rfl,hfz,hnd⟩:=hW
 have hA:DataW.TrodAll enc Try.prog W 0 (fun _=>true) true Try.f10.params.toList args.toList ds p:=hA0
 rw [Try.params10] at hA hval
 obtain ⟨v0,v1,v2,d0,d1,d2,p0,p1,p2,rfl,rfl,rfl,h0,h1,h2⟩:=trodAll_three hA
 obtain ⟨rfl,rfl⟩:=trodVars_none hV
 obtain ⟨s0,a0,n0,r0,rfl,g0⟩:=open_make (hval 0 24 v0 rfl rfl) h0 fun b o h=>hfz b o (by simp [h])
 obtain ⟨a1,g1⟩:=open_items (hval 1 25 v1 rfl rfl) h1 fun b o h=>hfz b o (by simp [h])
 obtain ⟨a2,g2⟩:=open_bools (hval 2 70 v2 rfl rfl) h2 fun b o h=>hfz b o (by simp [h])
 exact calls_law laidOut (by rw [Try.params10];kernel_rfl) rfl hW' rfl rfl rfl (by kernel_rfl) Try.underlying4 (top_FnGShapeGrows r0 s0 a0 n0 a1 v1 a2 v2 W g0 g1 g2)
set_option maxRecDepth 100000 in
theorem l_FnGShapeGrows (os:Os) (started:os.Started) (H:Type) (enc:TypeId × Value->H) :
  ReturnsInHanded {} Try.checked os 10 .any (Rows.fnGShapeGrowsSpec.pre6 enc Try.prog Try.f10 Rows.fnGShapeGrowsRow.domain false) (Rows.fnGShapeGrowsSpec.post enc Try.prog Try.f10 false true false false):=by
 refine returnsInHanded_of_change (C:=Try.checked) own started (by kernel_rfl) Try.func10
  (ChangeSpec.witness6 (enc:=enc) (C:=Try.checked) false ⟨#[],#[.agg #[.slice none 0 0,.int .i64 0,.bool false],.slice none 0 0,.slice none 0 0],[]⟩ 8 (by kernel_rfl) (by kernel_rfl) (by kernel_rfl) (by kernel_rfl)) ?_
 intro W base args ds gs before hval hW _ _
 exact c_FnGShapeGrows H enc W base args ds gs before hval hW
theorem h_FnGShapeGrows:Rows.FnGShapeGrowsSaid :=
 OpenClaim.holds_of_wide 10 Try.f10 rfl rfl rfl rfl rfl rfl rfl ⟨rfl,rfl,rfl,rfl,rfl⟩ rfl rfl rfl rfl rfl (by kernel_rfl) Try.func10 (by kernel_rfl)
  (of_decide_eq_true (by kernel_rfl)) (by unfold Func.isWrapper;first | (rw [if_pos (by decide +kernel)];kernel_rfl) | (rw [if_neg (by decide +kernel)];exact ⟨rfl,rfl⟩))
  (fun os started H enc _=>l_FnGShapeGrows os started H enc)
#print axioms h_FnGShapeGrows
end Go.Proofs.Ytbnnkcofnmipoaa
