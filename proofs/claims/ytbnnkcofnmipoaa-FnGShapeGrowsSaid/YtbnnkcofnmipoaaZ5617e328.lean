/- Texts in one. No condition. -/
import Derived.Test.YtbnnkcofnmipoaaZe79aab1b
import Derived.Test.YtbnnkcofnmipoaaZA
import Derived.Test.YtbnnkcofnmipoaaZGSet
import Derived.Test.YtbnnkcofnmipoaaRows
import Derived.ChangeArms
set_option linter.unusedVariables false
set_option linter.unusedSimpArgs false
namespace Go.Proofs.Ytbnnkcofnmipoaa
open Go Go.Proofs
structure TreeAt (B:Nat) (ord:List Int) (w:World) (m d:Nat) (iso:Int) (xs:List It) (F:FS It):Prop where
 cfg:Cfg w m iso d
 less:Ls B m w ord
 cnt:rd w m 3=some (.int .i64 xs.length)
 asc:Asc O (rkI ord) xs
 root:(xs=[]/\rd w m 2=some (.pointer none)/\F.s = .nd [] [])\/∃ h b,rd w m 2=some (ptr b)/\Tr E iso (d-1) (2*d-1) h w 1 b xs F
 off:∀ o,¬ F m o
 lt:∀ y o,F y o->y<w.heap.size
 above:∀ y o,F y o->m<y
def mapF (m:Nat) (F:Nat->Nat->Prop):Nat->Nat->Prop:=fun y o=>F y o\/y=m/\(o=2\/o=3)
theorem TreeAt.extG {B:Nat} {ord:List Int} {w w':World} {G:Nat->Nat->Prop} {m d:Nat} {iso:Int} {xs:List It} {F:FS It} (h:TreeAt B ord w m d iso xs F) (x:Ext G w w') (hF:∀ y o,F y o->¬ G y o) (hm:∀ y o,G y o->m<y):TreeAt B ord w' m d iso xs F:=by
 have hm':∀ o,¬ G m o:=fun o g=>Nat.lt_irrefl _ (hm _ _ g)
 have hB:B<=m:=by obtain ⟨_,_,_,h⟩:=h.less;exact h
 exact ⟨h.cfg.ext x fun o _ _=>hm' o,h.less.ext x (fun y o g=>by have:=hm _ _ g;omega) (hm' 6),x.rd h.cnt (hm' 3),h.asc,h.root.imp (fun ⟨h1,h2,h3⟩=>⟨h1,x.rd h2 (hm' 2),h3⟩) fun ⟨h',b,h1,h2⟩=>⟨h',b,x.rd h1 (hm' 2),h2.ext x hF⟩,
  h.off,fun y o g=>Nat.lt_of_lt_of_le (h.lt y o g) x.size,h.above⟩
theorem TreeAt.ext {B:Nat} {ord:List Int} {w w':World} {m d:Nat} {iso:Int} {xs:List It} {F:FS It} (h:TreeAt B ord w m d iso xs F) (x:Ext noF w w'):TreeAt B ord w' m d iso xs F :=
 h.extG x (fun _ _ _ g=>g) fun _ _ g=>g.elim
theorem TreeAt.mlt {B:Nat} {ord:List Int} {w:World} {m d:Nat} {iso:Int} {xs:List It} {F:FS It} (h:TreeAt B ord w m d iso xs F):m<w.heap.size:=wok_lt h.cfg.wok
theorem Tr.height {α:Type} {E:Enc α} {iso:Int} {mn mx:Nat} {w:World} (hmn:1<=mn):∀ {h lo b:Nat} {xs:List α} {F:FS α},1<=lo->Tr E iso mn mx h w lo b xs F->h<xs.length
 | 0,_,_,_,_,hlo,⟨_,_,_,_,h1,_⟩=>by omega
 | h+1,_,_,_,_,hlo,⟨_,_,_,_,_,_,_,ks,cs,_,_,h1,_,hcs,hxs,hT,_⟩=>by
  have hl:=weave_length (cs.map Kid.xs) ks (by simpa using hcs)
  rw [<-hxs] at hl
  cases cs with
  | nil=>simp at hcs
  | cons c cs =>
   have:=Tr.height hmn hmn (hT c (by simp))
   simp at hl;omega
theorem Tr.iso0 {w:World} {iso:Int} {mn mx h lo b:Nat} {xs:List It} {F:FS It} (ht:Tr E iso mn mx h w lo b xs F):rd w b 0=some (.int .u64 iso)/\rd w b 1=some (.int .i64 xs.length):=by
 obtain ⟨bi,oi,cap,ks,ch,ho,_⟩:=ht.open
 exact ⟨ho.h0,ho.h1⟩
theorem bs_it0:bsV Try.prog 25 0 []=some (33,[]):=by kernel_rfl
theorem bs_it1 (x:It):bsV Try.prog 25 1 [(0,itV x)]=some (33,E.cel x):=by kernel_rfl
theorem bs_kid0:bsV Try.prog 166 0 []=some (96,[]):=by kernel_rfl
theorem bs_kid2 (a b:Nat):bsV Try.prog 166 2 [(0,ptr a),(1,ptr b)]=some (96,[ptr a,ptr b]):=by kernel_rfl
theorem keep2 {F:Nat->Nat->Prop} {w w':World} {a b:Nat} (h:Ext F w w') (h1:a<w.heap.size/\∀ o,¬ F a o) (h2:b<w.heap.size/\∀ o,¬ F b o):keeps (some (some [a,b])) w w':=keeps_on h fun x hx=>by
 simp only [List.mem_cons,List.not_mem_nil,or_false] at hx
 rcases hx with rfl | rfl
 ·exact h1
 ·exact h2
theorem app_new {w w':World} {sz m b o:Nat} {l':List Value} {v':Value} (h:AppRes w sz (.slice (some ⟨b,o,none⟩) 0 0) 0 m [] l' v' w') (hm:0<m) :
  ∃ cap',v' = .slice (some ⟨w.heap.size,0,none⟩) m cap'/\m<=cap'/\Row w' w.heap.size 0 l'/\wok w' w.heap.size (cap'*sz)/\Ext noF w w'/\w'.heap.size=w.heap.size+1:=by
 obtain ⟨hs,hc⟩:=h
 rw [Nat.zero_add] at hs hc
 rcases hc with ⟨_,_,h3⟩ | ⟨b0,o0,cap0,h1,h2,h3,h4,h5⟩ | ⟨cap',h1,h2,h3,h4⟩
 ·cases h3
 ·simp only [Value.slice.injEq,Option.some.injEq,Addr.mk.injEq,true_and,and_true] at h1
  omega
 ·subst h1
  rcases hs.2 with ⟨h,_⟩ | ⟨b1,o1,c1,h1,hle,hr,hw⟩
  ·cases h
  ·simp only [Value.slice.injEq,Option.some.injEq,Addr.mk.injEq,true_and,and_true] at h1
   obtain ⟨⟨rfl,rfl⟩,rfl⟩:=h1
   exact ⟨_,rfl,hle,by simpa using hr,h4,h2,h3⟩
set_option maxHeartbeats 1000000 in
set_option maxRecDepth 8000 in
theorem set_root (B m d:Nat) (iso:Int) (ord:List Int) (x:It) (hd:2<=d) (hd':d<=128):∀ (k h b:Nat) (xs:List It) (F:FS It) (w:World),xs.length-h=k->Cfg w m iso d->Ls B m w ord->(∀ y o,F y o->m<y) →
  rd w m 3=some (.int .i64 xs.length)->Asc O (rkI ord) xs->rd w m 2=some (ptr b)->Tr E iso (d-1) (2*d-1) h w 1 b xs F->(∀ o,¬ F m o)->xs.length<1152921504606846976 →
  CallK Try.prog 90 #[ptr m,itV x,.pointer none] w fun v w'=>v = .tuple #[itV ((at? O (rkI ord) (rkI ord x) xs).getD zIt),.bool (hit O (rkI ord) (rkI ord x) xs)]/\Ext (mapF m F) w w' ∧
   ∃ F',TreeAt B ord w' m d iso (put O (rkI ord) x xs) F'/\RootR ord d x F.s F'.s/\∀ y o,F' y o->F y o\/w.heap.size<=y:=by
 intro k
 induction k using Nat.strongRecOn with
 | _ k ih =>
 intro h b xs F w hk hc hL hBF hcnt ha hroot ht hm hbig
 have hml:=wok_lt hc.wok
 have hht:=Tr.height (by omega) (Nat.le_refl 1) ht
 have hBm:B<=m:=by obtain ⟨_,_,_,h⟩:=hL;exact h
 refine calls_of_W [.cell 6 33,.tmp 7] Try.func90 rfl Try.ntmps90 Try.results90 (by simp) fun e he=>?_
 have e0:e 0=ptr m:=he 0 _ rfl
 have e1:e 1=itV x:=he 1 _ rfl
 have e2:e 2 = .pointer none:=he 2 _ rfl
 clear he
 refine W_sq fun K hK=>(W_text [false,false,true] (by kernel_rfl) ?_);simp only [↓zZ1,↓reduceIte,Nat.reduceEqDiff,rg,ow_90]
 refine do_box (by simp only [evt];exact e1) fun w1 n1=>⟨trivial,?_⟩
 simp only [↓zZ1,↓reduceIte,Nat.reduceEqDiff,rg,ow_90]
 refine do_alloc z_it fun w2 n2=>⟨trivial,?_⟩
 simp only [↓zZ1,↓reduceIte,Nat.reduceEqDiff,rg,ow_90]
 apply hK;clear hK K
 have s1:=n1.size
 have X2:Ext noF w w2:=n1.ext.tr n2.ext
 have rx:Row w2 w.heap.size 0 (E.cel x):=n2.ext.row n1.row fun _ _ h=>h
 have s2:w2.heap.size=w.heap.size+2:=by have:=n2.size;omega
 obtain ⟨q,hq⟩:∃ q,q=w1.heap.size:=⟨_,rfl⟩
 have hqs:q=w.heap.size+1:=by omega
 have wq2:wok w2 q 2:=by rw [hq];exact n2.wok
 rw [<-hq]
 clear hq n1 n2
 have c2:=hc.ext X2 fun _ _ _ h=>h
 have rt2:=X2.rd hroot (fun h=>h)
 have ix:=iX_at rx
 refine W_seq ?_
 refine W_sq fun K hK=>(W_text [true,true,true,true,true] (by kernel_rfl) ?_);simp only [↓zZ1,↓reduceIte,Nat.reduceEqDiff,rg,ow_90,e0,ptr_eq,rt2]
 apply hK;clear hK K
 refine W_false (by simp only [zZ2,Nat.reduceEqDiff,↓reduceIte,zZ3]<;>rfl) (W_skip ?_)
 show W _ _ _ _ _ _
 have M1:readsB (some (some [w.heap.size])) w.heap.size=true:=by simp [readsB]
 have hFlt:=ht.lt
 refine W_sq fun K hK=>(W_draw (some (some [w.heap.size])) none [(0,0,0),(0,1,0),(0,2,0),(0,3,0),(0,4,0),(0,5,0),(1,6,0),(0,7,0),(0,8,0),(0,9,0),(0,10,0),(1,11,0),(0,12,0),(0,13,0)] mixed (by kernel_rfl) ?_);simp only [↓zZ1,↓reduceIte,Nat.reduceEqDiff,rg,ow_90,e0,e2,ptr_eq,ix,M1]
 refine do_call fn_123 (by simp only [zZ2,Nat.reduceEqDiff,↓reduceIte,zZ4]<;>rfl) (set_any B m d iso ord x hd hd' h _ 1 rfl (Nat.le_refl 1) b xs F _ m 2 0 (c2.ext (Ext.dr noF _ _) fun _ _ _ g=>g) (hL.ext0 (X2.tr (Ext.dr noF _ _))) hBF (by omega) ((ht.ext X2 fun _ _ _ g=>g).ext (Ext.dr noF _ _) fun _ _ _ g=>g) ha hbig hm rt2 (hm 2)) ?_
 rintro v w3p ⟨x3p,F',hF',hres⟩
 refine ⟨.inr (keeps_on x3p fun y hy=>?_),?_⟩
 ·rw [sz_dr]
  simp only [List.mem_cons,List.not_mem_nil,or_false] at hy
  subst hy
  exact ⟨by omega,fun o g=>by have:=hFlt _ _ g;omega⟩
 have x3p:=x3p.od
 have hF3:∀ y o,F' y o->F y o\/w2.heap.size<=y:=hF'
 have s3p:=x3p.size
 have wq3:=x3p.wok wq2
 have hF'm:∀ o,¬ F' m o:=fun o g=>by
  rcases hF3 m o g with g | g
  ·exact hm o g
  ·omega
 have hF'q:∀ o,¬ F' q o:=fun o g=>by
  rcases hF3 q o g with g | g
  ·have:=hFlt _ _ g;omega
  ·omega
 have hkeep:∀ {u:World},Ext (rng q 0 2) w3p u->keeps (some (some [w.heap.size])) w3p u:=fun hx=>keeps_on hx fun y hy=>by
  simp only [List.mem_cons,List.not_mem_nil,or_false] at hy
  subst hy
  exact ⟨by omega,fun o g=>by simp only [rng] at g;omega⟩
 rcases hres with ⟨rfl,hT',hh,hR⟩ | ⟨rfl,hT',hR⟩
 ·simp only [↓zZ1,↓reduceIte,Nat.reduceEqDiff,rg,ow_90]
  refine do_store (by simp only [zZ2,Nat.reduceEqDiff,↓reduceIte,zZ3]<;>rfl) (by simp only [zZ2,Nat.reduceEqDiff,↓reduceIte,zZ3]<;>rfl) sz_33 (itV_len zIt) wq3 (by decide) (itV_oc zIt) fun w3 x3s r3s s3s=>⟨.inr (hkeep x3s),?_⟩
  simp only [↓zZ1,↓reduceIte,Nat.reduceEqDiff,rg,ow_90]
  apply hK;clear hK K
  have x3:Ext (fun y o=>F y o\/rng q 0 2 y o) w2 w3:=x3p.trans x3s (fun _ _ g=>.inl g) fun _ _ _ g=>.inr g
  have X3:Ext F w w3:=X2.trans x3 (fun _ _ g=>g.elim) fun y o hy g=>g.elim id fun g=>by simp only [rng] at g;omega
  have s3:=x3.size
  have hmG:∀ o,¬ (F m o\/rng q 0 2 m o):=fun o g=>g.elim (hm o) fun g=>by simp only [rng] at g;omega
  have c3:=c2.ext x3 fun o _ _=>hmG o
  have rt3:=x3.rd rt2 (hmG 2)
  have ct3:=X3.rd hcnt (hm 3)
  have hL3:=hL.ext X3 (fun y o g=>by have:=hBF y o g;omega) (hm 6)
  have wq3':=x3s.wok wq3
  have hT':=hT'.ext x3s fun y o g k=>by simp only [rng] at k;exact hF'q o (by rw [<-k.1];exact g)
  have hab3:∀ y o,F' y o->m<y:=fun y o g=>by
   rcases hF3 y o g with g | g
   ·exact hBF _ _ g
   ·omega
  refine W_seq ?_
  refine W_sq fun K hK=>(W_text [true] (by kernel_rfl) ?_);simp only [↓zZ1,↓reduceIte,Nat.reduceEqDiff,rg,ow_90]
  apply hK;clear hK K
  refine W_true (by simp only [zZ2,Nat.reduceEqDiff,↓reduceIte,zZ3]<;>rfl) ?_
  refine W_sq fun K hK=>(W_text [true,true,true,true,false,true] (by kernel_rfl) ?_);simp only [↓zZ1,↓reduceIte,Nat.reduceEqDiff,rg,ow_90,e0,ptr_eq]
  have tb3:rd w3 b 0=some (.int .u64 iso):=hT'.iso0.1
  refine do_call fn_96 (by simp only [zZ2,Nat.reduceEqDiff,↓reduceIte,zZ4]<;>rfl) (isoLoad_any m m 2 b true iso w3 c3.iso rt3 tb3) ?_
  rintro _ _ ⟨rfl,n3,rfl⟩
  refine ⟨trivial,?_⟩
  simp only [↓zZ1,↓reduceIte,Nat.reduceEqDiff,rg,ow_90]
  apply hK;clear hK K
  refine W_sq fun K hK=>(W_text [true,true,false,true,true,true,false,true,false] (by kernel_rfl) ?_);simp only [↓zZ1,↓reduceIte,Nat.reduceEqDiff,rg,ow_90,e0]
  refine do_call fn_124 (by simp only [zZ2,Nat.reduceEqDiff,↓reduceIte,zZ4]<;>rfl) (split_tr m d b h iso xs F' (dr w3 n3) hd hd' (c3.ext (Ext.dr noF _ _) fun _ _ _ g=>g) (hT'.ext (Ext.dr noF _ _) fun _ _ _ g=>g) hF'm (by omega)) ?_
  rintro _ w4 ⟨rb,md,xl,xr,Fl,Fr,⟨k0,g0,hSk,hSm,hSl,hSr⟩,rfl,hxs,x4,hFl,hFr,hlr,tL,tR⟩
  refine ⟨trivial,?_⟩
  have x4:=x4.od
  have hFr:∀ y o,Fr y o->F' y o\/w3.heap.size<=y:=hFr
  simp only [↓zZ1,↓reduceIte,Nat.reduceEqDiff,rg,ow_90]
  refine do_alloc z_it fun w5 n5=>⟨trivial,?_⟩
  simp only [↓zZ1,↓reduceIte,Nat.reduceEqDiff,rg,ow_90]
  refine do_store (by simp only [zZ2,Nat.reduceEqDiff,↓reduceIte,zZ3]<;>rfl) (by simp only [zZ2,Nat.reduceEqDiff,↓reduceIte,zZ3]<;>rfl) sz_33 (itV_len md) n5.wok (by decide) (itV_oc md) fun w6 x6 r6 s6=>⟨trivial,?_⟩
  simp only [↓zZ1,↓reduceIte,Nat.reduceEqDiff,rg,ow_90]
  apply hK;clear hK K
  have s4:=x4.size
  have s5:=n5.size
  have X6:Ext noF w4 w6:=noF_of n5.ext x6 fun y o hy h=>by simp only [rng] at h;omega
  have c4:=c3.ext x4 fun o _ _=>hF'm o
  have c6:=c4.ext X6 fun _ _ _ h=>h
  refine W_sq fun K hK=>(W_text [true,true,false,true,true,false] (by kernel_rfl) ?_);simp only [↓zZ1,↓reduceIte,Nat.reduceEqDiff,rg,ow_90,e0]
  refine do_call fn_122 (by simp only [zZ2,Nat.reduceEqDiff,↓reduceIte,zZ4]<;>rfl) (newNode_any m false iso w6 c6.iso) ?_
  rintro _ w7 ⟨b2,rfl,x7,nn⟩
  refine ⟨trivial,?_⟩
  simp only [↓zZ1,↓reduceIte,Nat.reduceEqDiff,rg,ow_90,ptr_eq]
  have c7:=c6.ext x7 fun _ _ _ h=>h
  refine do_store (by simp only [zZ2,Nat.reduceEqDiff,↓reduceIte,zZ3]<;>rfl) (by simp only [zZ2,Nat.reduceEqDiff,↓reduceIte,zZ3]<;>rfl) sz_96 rfl (c7.wok.mono (by decide)) (Nat.le_refl 3) (oc_one rfl rfl) fun w8 x8 r8 s8=>⟨trivial,?_⟩
  simp only [↓zZ1,↓reduceIte,Nat.reduceEqDiff,rg,ow_90]
  apply hK;clear hK K
  obtain ⟨bc2,nk,nk1,nk2,nk3,nk4⟩:=nn.kids rfl
  have s7:=x7.size
  have nnge:=nn.ge
  have rt8:rd w8 m 2=some (ptr b2):=(Row.cons.1 r8).1
  have c8:=c7.ext x8 fun o h2 _ g=>h2 (by simp only [rng] at g;omega)
  have kp8:=x8.rd nk (by simp only [rng];omega)
  have q1:IntKind.i64.wrap (((2*d-1:Nat):Int)+1)=((2*d:Nat):Int):=by rw [wadd1 _ (by omega)];congr 1;omega
  have M2:readsB (some (some [m,b2])) m=true:=by simp [readsB]
  have M3:readsB (some (some [m,b2])) b2=true:=by simp [readsB]
  have hb2l:=wok_lt nn.wb
  refine W_sq fun K hK=>(W_draw (some (some [m,b2])) (some 14) [(0,0,0),(0,1,0),(0,2,0),(0,3,0),(0,4,0),(0,5,0),(0,6,0),(0,7,0),(0,8,0),(0,9,0),(0,10,0),(0,11,0),(1,12,0),(0,13,0),(1,14,0)] mixed (by kernel_rfl) ?_);simp only [↓zZ1,↓reduceIte,Nat.reduceEqDiff,rg,ow_90,e0,ptr_eq,rt8,kp8,c8.mx,q1,M2,M3]
  refine do_make (n:=0) (c:=2*d) (by simp only [zZ2,Nat.reduceEqDiff,↓reduceIte,zZ3]<;>rfl) (by simp only [zZ2,Nat.reduceEqDiff,↓reduceIte,zZ3]<;>rfl) el_kid rfl (by omega) (by omega) (by omega) fun w9 l9 hl9 n9=>⟨.inr (keeps_on n9.ext fun y hy=>⟨?_,fun _ h=>h⟩),?_⟩
  ·rw [sz_dr]
   simp only [List.mem_cons,List.not_mem_nil,or_false] at hy
   omega
  simp only [↓zZ1,↓reduceIte,Nat.reduceEqDiff,rg,ow_90]
  have n9:=n9.od
  refine do_store (by simp only [zZ2,Nat.reduceEqDiff,↓reduceIte,zZ3]<;>rfl) (by simp only [zZ2,Nat.reduceEqDiff,↓reduceIte,zZ3]<;>rfl) sz_166 rfl (n9.ext.wok (x8.wok nk4)) (by decide) (oc_one rfl rfl) fun w10 x10 r10 s10=>⟨.inl trivial,?_⟩
  simp only [↓zZ1,↓reduceIte,Nat.reduceEqDiff,rg,ow_90]
  apply hK;clear hK K
  have rt10:rd w10 m 2=some (ptr b2):=x10.rd (n9.ext.rd rt8 fun h=>h) (by simp only [rng];omega)
  have kp10:rd w10 b2 3=some (ptr bc2):=x10.rd (n9.ext.rd kp8 fun h=>h) (by simp only [rng];omega)
  have wbc10:wok w10 bc2 1:=x10.wok (n9.ext.wok (x8.wok nk4))
  have s9:=n9.size
  have hbc2l:=wok_lt wbc10
  refine W_sq fun K hK=>(W_draw (some (some [m,b2])) (some 13) [(0,0,0),(0,1,0),(0,2,0),(0,3,0),(0,4,0),(0,5,0),(0,6,0),(0,8,0),(0,9,0),(2,7,10),(1,11,0),(0,12,0),(1,13,0)] mixed (by kernel_rfl) ?_);simp only [↓zZ1,↓reduceIte,Nat.reduceEqDiff,rg,ow_90,e0,ptr_eq,rt10,kp10,M2,M3]
  have rest:∀ e' w',e' 0=ptr m->e' 2 = .pointer none->e' 4 = .pointer (some ⟨w.heap.size,0,none⟩)->e' 6 = .pointer (some ⟨q,0,none⟩)->e' 11 = .pointer (some ⟨w4.heap.size,0,none⟩)->Ext (rng bc2 0 1) w10 w' →
    (∃ ba2 cap2,rd w' bc2 0=some (.slice (some ⟨ba2,0,none⟩) 2 cap2)/\2<=cap2/\Row w' ba2 0 [ptr b,ptr rb]/\wok w' ba2 cap2/\w10.heap.size<=ba2)->K e' w':=by
   intro e' w14 f0 f2 f8 f6 f14 x14 ⟨ba2,cap2,q0,q2,q3,q4,q5⟩
   apply hK;clear hK K
   have s10':=x10.size
   have s14:=x14.size
   have rt14:rd w14 m 2=some (ptr b2):=x14.rd rt10 (by simp only [rng];omega)
   have rm14:Row w14 w4.heap.size 0 (E.cel md):=x14.row (x10.row (n9.ext.row (x8.row (x7.row r6 fun _ _ h=>h) fun j _ h=>by simp only [rng] at h;omega) fun _ _ h=>h) fun j _ h=>by simp only [rng] at h;omega) fun j _ h=>by simp only [rng] at h;omega
   have im14:=iX_at rm14
   have wb14:wok w14 b2 4:=x14.wok (x10.wok (n9.ext.wok (x8.wok nn.wb)))
   have M4:readsB (some (some [m,w4.heap.size])) m=true:=by simp [readsB]
   have M5:readsB (some (some [m,w4.heap.size])) w4.heap.size=true:=by simp [readsB]
   have s8':=x8.size
   have s6':w6.heap.size=w4.heap.size+1:=by omega
   refine W_sq fun K hK=>(W_draw (some (some [m,w4.heap.size])) (some 10) [(0,0,0),(0,1,0),(0,2,0),(0,3,0),(0,5,0),(2,4,6),(1,7,0),(0,8,0),(0,9,0),(1,10,0)] mixed (by kernel_rfl) ?_);simp only [↓zZ1,↓reduceIte,Nat.reduceEqDiff,rg,ow_90,f0,f14,ptr_eq,rt14,im14,M4,M5]
   have rest2:∀ e'' w',e'' 0=ptr m->e'' 2 = .pointer none->e'' 4 = .pointer (some ⟨w.heap.size,0,none⟩)->e'' 6 = .pointer (some ⟨q,0,none⟩)->Ext (rng b2 2 1) w14 w' →
     (∃ bi2 cap3,rd w' b2 2=some (.slice (some ⟨bi2,0,none⟩) 1 cap3)/\1<=cap3/\Row w' bi2 0 (E.cel md)/\wok w' bi2 (cap3*2)/\w14.heap.size<=bi2)->K e'' w':=by
    intro e'' w18 f0 f2 f8 f6 x18 ⟨bi2,cap3,p0,p2,p3,p4,p5⟩
    apply hK;clear hK K
    have s18:=x18.size
    have hb4:b<w4.heap.size:=tL.lt _ _ (tL.self 0)
    have hrb4:rb<w4.heap.size:=tR.lt _ _ (tR.self 0)
    have hba18:=wok_lt (x18.wok q4)
    have hba14:=wok_lt q4
    have hbi18:=wok_lt p4
    have T18:Ext (fun y o=>(y=m/\o=2)\/w4.heap.size<=y) w4 w18:=by
     refine ((((((X6.trans x7 (H:=fun y o=>(y=m/\o=2)\/w4.heap.size<=y) (fun _ _ g=>g.elim) fun _ _ _ g=>g.elim).trans x8 (fun _ _ g=>g) fun y o _ g=>?_).trans n9.ext (fun _ _ g=>g) fun _ _ _ g=>g.elim).trans x10 (fun _ _ g=>g) fun y o _ g=>?_).trans x14 (fun _ _ g=>g) fun y o _ g=>?_).trans x18 (fun _ _ g=>g) fun y o _ g=>?_)
     all_goals simp only [rng] at g;omega
    have hFlm:∀ y o,Fl y o->¬ ((y=m/\o=2)\/w4.heap.size<=y):=fun y o g k=>by
     rcases k with ⟨rfl,_⟩ | k
     ·exact hF'm _ (hFl _ _ g)
     ·have:=tL.lt _ _ g;omega
    have hFrm':∀ o,¬ Fr m o:=fun o g=>by
     rcases hFr _ _ g with g | g
     ·exact hF'm _ g
     ·omega
    have hFrm:∀ y o,Fr y o->¬ ((y=m/\o=2)\/w4.heap.size<=y):=fun y o g k=>by
     rcases k with ⟨rfl,_⟩ | k
     ·exact hFrm' _ g
     ·have:=tR.lt _ _ g;omega
    have tL18:=tL.ext T18 hFlm
    have tR18:=tR.ext T18 hFrm
    have kp18:rd w18 b2 3=some (ptr bc2):=x18.rd (x14.rd kp10 (by simp only [rng];omega)) (by simp only [rng];omega)
    have K18:Kids w18 bc2 ba2 0 cap2 [b,rb]:=⟨x18.rd q0 (by simp only [rng];omega),x18.wok (x14.wok wbc10),x18.row q3 fun j _ h=>by simp only [rng] at h;omega,by rw [Nat.zero_add];exact x18.wok q4,q2,by omega⟩
    have wb18:=x18.wok wb14
    have rt18:rd w18 m 2=some (ptr b2):=x18.rd rt14 (by simp only [rng];omega)
    have hcn:cntP (cnW w18) [b,rb]=xl.length+xr.length:=by simp [cntP,cnW_eq tL18.cnt,cnW_eq tR18.cnt]
    have hxl:xs.length=xl.length+1+xr.length:=by rw [hxs];simp;omega
    refine W_sq fun K hK=>(W_text [true,true,true,true,false] (by kernel_rfl) ?_);simp only [↓zZ1,↓reduceIte,Nat.reduceEqDiff,rg,ow_90,f0,ptr_eq,rt18]
    refine do_call fn_125 (by simp only [zZ2,Nat.reduceEqDiff,↓reduceIte,zZ4]<;>rfl) (count_kids b2 1 cap3 bc2 ba2 0 cap2 _ [b,rb] (cnW w18) w18 p0 kp18 wb18 K18 (by omega) (by omega) (fun p hp=>by
     simp only [List.mem_cons,List.not_mem_nil,or_false] at hp
     rcases hp with rfl | rfl
     ·exact ⟨by rw [cnW_eq tL18.cnt];exact tL18.cnt,by omega⟩
     ·exact ⟨by rw [cnW_eq tR18.cnt];exact tR18.cnt,by omega⟩) (by omega) (by simp)) ?_
    rintro _ w19 ⟨x19,d1,s19⟩
    refine ⟨trivial,?_⟩
    simp only [↓zZ1,↓reduceIte,Nat.reduceEqDiff,rg,ow_90]
    apply hK;clear hK K
    rw [hcn] at d1
    have T19:Ext (fun y o=>(y=m/\o=2)\/w4.heap.size<=y) w4 w19:=T18.trans x19 (fun _ _ g=>g) fun y o _ g=>by simp only [rng] at g;omega
    have c19:=c4.ext T19 fun o h2 _ g=>by
     rcases g with g | g
     ·exact h2 g.2
     ·have:=wok_lt c4.wok;omega
    have ct19:rd w19 m 3=some (.int .i64 xs.length):=T19.rd (x4.rd ct3 (hF'm 3)) fun g=>by omega
    have rx19:Row w19 w.heap.size 0 (E.cel x):=T19.row (x4.row (x3.row rx fun j _ g=>by
     rcases g with g | g
     ·have:=hFlt _ _ g;omega
     ·simp only [rng] at g;omega) fun j _ g=>by
     rcases hF3 _ _ g with g | g
     ·have:=hFlt _ _ g;omega
     ·omega) fun j _ g=>by omega
    have ix19:=iX_at rx19
    have wq19:wok w19 q 2:=T19.wok (x4.wok wq3')
    have hL19:=(hL3.ext x4 (fun y o g=>by have:=hab3 y o g;omega) (hF'm 6)).ext T19 (fun y o g=>by omega) (by omega)
    have own19:Own E w19 b2 iso xs.length bi2 0 cap3 [md] (ptr bc2):=by
     have h0:=x19.rd (x18.rd (x14.rd (x10.rd (n9.ext.rd (x8.rd nn.h0 (by simp only [rng];omega)) fun h=>h) (by simp only [rng];omega)) (by simp only [rng];omega)) (by simp only [rng];omega)) (by simp only [rng];omega)
     refine ⟨h0,?_,x19.rd p0 (by simp only [rng];omega),x19.rd kp18 (by simp only [rng];omega),x19.wok wb18,?_,by rw [Nat.zero_add];exact x19.wok p4,p2,by omega⟩
     ·rw [d1,hxl];congr 3;omega
     ·rw [flat_one];exact x19.row p3 fun j _ h=>by simp only [rng] at h;omega
    have K19:=K18.ext x19 fun y o g h=>by simp only [kidF,rng] at g h;omega
    have tL19:=tL.ext T19 hFlm
    have tR19:=tR.ext T19 hFrm
    have tr19:Tr E iso (d-1) (2*d-1) (h+1) w19 1 b2 xs ⟨fun y o=>ownF E b2 bi2 0 cap3 y o\/kidF bc2 ba2 0 cap2 y o\/∃ c ∈ [Kid.mk b xl Fl,Kid.mk rb xr Fr],c.F y o,.nd [md] [Fl.s,Fr.s]⟩:=by
     refine ⟨bi2,0,cap3,bc2,ba2,0,cap2,[md],[Kid.mk b xl Fl,Kid.mk rb xr Fr],own19,K19,Nat.le_refl _,(by show 1<=2*d-1;omega),rfl,hxs,?_,⟨nk2,by omega,by omega,by omega,?_,?_,?_⟩,⟨fun _ _=>Iff.rfl,rfl⟩⟩
     ·intro c hc
      simp only [List.mem_cons,List.not_mem_nil,or_false] at hc
      rcases hc with rfl | rfl
      ·exact tL19
      ·exact tR19
     ·intro c hc y o g k
      have:y<w4.heap.size:=by
       simp only [List.mem_cons,List.not_mem_nil,or_false] at hc
       rcases hc with rfl | rfl
       ·exact tL.lt _ _ g
       ·exact tR.lt _ _ g
      simp only [ownF,rng] at k;omega
     ·intro c hc y o g k
      have:y<w4.heap.size:=by
       simp only [List.mem_cons,List.not_mem_nil,or_false] at hc
       rcases hc with rfl | rfl
       ·exact tL.lt _ _ g
       ·exact tR.lt _ _ g
      simp only [kidF,rng] at k;omega
     ·exact List.pairwise_cons.2 ⟨fun c hc y o g k=>by
       simp only [List.mem_cons,List.not_mem_nil,or_false] at hc
       subst hc;exact hlr y o g k,List.pairwise_singleton _ _⟩
    have hF2:∀ y o,(ownF E b2 bi2 0 cap3 y o\/kidF bc2 ba2 0 cap2 y o\/∃ c ∈ [Kid.mk b xl Fl,Kid.mk rb xr Fr],c.F y o)->y ≠ m/\(F y o\/w2.heap.size<=y):=by
     have hF'2:∀ y o,F' y o->y ≠ m/\(F y o\/w2.heap.size<=y):=fun y o g=>⟨fun k=>hF'm o (k ▸ g),hF3 y o g⟩
     rintro y o (g | g | ⟨c,hc,g⟩)
     ·simp only [ownF,rng] at g;omega
     ·simp only [kidF,rng] at g;omega
     ·simp only [List.mem_cons,List.not_mem_nil,or_false] at hc
      rcases hc with rfl | rfl
      ·exact hF'2 y o (hFl y o g)
      ·rcases hFr y o g with g | g
       ·exact hF'2 y o g
       ·exact ⟨by omega,.inr (by omega)⟩
    refine W_sq fun K hK=>(W_text [true,true,true,false,true,true,false,true] (by kernel_rfl) ?_);simp only [↓zZ1,↓reduceIte,Nat.reduceEqDiff,rg,ow_90,f0,f2,f8,ix19]
    refine do_call fn_90 (by simp only [zZ2,Nat.reduceEqDiff,↓reduceIte,zZ4]<;>rfl) (ih (xs.length-(h+1)) (by omega) (h+1) b2 xs _ w19 rfl c19 hL19 (fun y o g=>by
     rcases (hF2 _ _ g).2 with g | g
     ·exact hBF _ _ g
     ·omega) ct19 ha (x19.rd rt18 (by simp only [rng];omega)) tr19 (fun o g=>(hF2 _ _ g).1 rfl) hbig) ?_
    rintro _ w20 ⟨rfl,x20,F'',hM,hR2,hF''⟩
    refine ⟨trivial,?_⟩
    simp only [↓zZ1,↓reduceIte,Nat.reduceEqDiff,rg,ow_90]
    refine do_store (by simp only [evt,upd_eq,Nat.reduceEqDiff,↓reduceIte];exact f6) (by simp only [zZ2,Nat.reduceEqDiff,↓reduceIte,zZ3]<;>rfl) sz_33 (itV_len _) (x20.wok wq19) (by decide) (itV_oc _) fun w21 x21 r21 s21=>⟨trivial,?_⟩
    simp only [↓zZ1,↓reduceIte,Nat.reduceEqDiff,rg,ow_90]
    apply hK;clear hK K
    have s20:=x20.size
    have hF9:∀ y o,F'' y o->F y o\/w2.heap.size<=y:=fun y o g=>by
     rcases hF'' y o g with g | g
     ·exact (hF2 y o g).2
     ·exact .inr (by omega)
    refine W_ret ?_
    simp only [andThen_ret]
    refine endQ_ct f6 (by simp only [upd_eq,Nat.reduceEqDiff,↓reduceIte]<;>rfl) ld_33 (iX_at (show Row w21 q 0 (E.cel ((at? O (rkI ord) (rkI ord x) xs).getD zIt)) from r21)) ⟨rfl,?_,F'',hM.extG x21 (fun y o g k=>?_) (fun y o g=>by simp only [rng] at g;omega),RootR.grow (by rw [<-hSk];exact hR) hSm (by rw [<-hSl,<-hSr];exact hR2),fun y o g=>?_⟩
    ·refine ((((X3.trans x4 (H:=mapF m F) (fun _ _ g=>.inl g) fun y o hy g=>?_).trans T19 (fun _ _ g=>g) fun y o hy g=>?_).trans x20 (fun _ _ g=>g) fun y o hy g=>?_).trans x21 (fun _ _ g=>g) fun y o hy g=>by simp only [rng] at g;omega)
     ·rcases hF3 y o g with g | g
      ·exact .inl g
      ·omega
     ·rcases g with g | g
      ·exact .inr ⟨g.1,.inl g.2⟩
      ·omega
     ·rcases g with g | g
      ·rcases (hF2 y o g).2 with g | g
       ·exact .inl g
       ·omega
      ·exact .inr g
    ·simp only [rng] at k
     rcases hF9 y o g with g | g
     ·have:=hFlt _ _ g;omega
     ·omega
    ·exact (hF9 y o g).imp id fun g=>by omega
   constructor
   ·refine do_bsl rfl bs_it0 fun w15 n15=>⟨.inr (keep2 n15.ext ⟨by rw [sz_dr];omega,fun _ h=>h⟩ ⟨by rw [sz_dr];omega,fun _ h=>h⟩),?_⟩
    simp only [↓zZ1,↓reduceIte,Nat.reduceEqDiff,rg,ow_90]
    have n15:=n15.od
    have s15:=n15.size
    refine do_bsl rfl (bs_it1 md) fun w16 n16=>⟨.inr (keep2 n16.ext ⟨by omega,fun _ h=>h⟩ ⟨by omega,fun _ h=>h⟩),?_⟩
    simp only [↓zZ1,↓reduceIte,Nat.reduceEqDiff,rg,ow_90]
    have s16:=n16.size
    have hv:SlV w16 2 (.slice (some ⟨w14.heap.size,0,none⟩) 0 0) 0 []:=⟨rfl,.inr ⟨_,0,0,rfl,Nat.le_refl _,Row.nil _ _ _,(n16.ext.wok n15.wok).R (Nat.le_refl _)⟩⟩
    have hu:SlV w16 2 (.slice (some ⟨w15.heap.size,0,none⟩) 1 1) 1 (E.cel md):=⟨rfl,.inr ⟨_,0,1,rfl,Nat.le_refl _,n16.row,n16.wok.R (Nat.le_refl _)⟩⟩
    have X16:Ext noF w14 w16:=n15.ext.tr n16.ext
    refine do_append (by simp only [zZ2,Nat.reduceEqDiff,↓reduceIte,zZ3]<;>rfl) (by simp only [zZ2,Nat.reduceEqDiff,↓reduceIte,zZ3]<;>rfl) el_it rfl ni_25 hv hu (by omega) (by decide) (E.one md) fun v17 w17 a17=>?_
    obtain ⟨cap3,rfl,hcap3,row17,wok17,x17,s17⟩:=app_new a17 (by omega)
    refine ⟨.inr (keep2 x17 ⟨by omega,fun _ h=>h⟩ ⟨by omega,fun _ h=>h⟩),?_⟩
    simp only [↓zZ1,↓reduceIte,Nat.reduceEqDiff,rg,ow_90,ptr_eq]
    refine do_store (by simp only [zZ2,Nat.reduceEqDiff,↓reduceIte,zZ3]<;>rfl) (by simp only [zZ2,Nat.reduceEqDiff,↓reduceIte,zZ3]<;>rfl) sz_25 rfl (x17.wok (X16.wok wb14)) (by decide) (oc_one rfl rfl) fun w18 x18 r18 s18=>⟨.inl trivial,?_⟩
    simp only [↓zZ1,↓reduceIte,Nat.reduceEqDiff,rg,ow_90]
    refine rest2 _ _ f0 f2 f8 f6 (((X16.tr x17).mono fun _ _ _ g=>g.elim).tr x18) ⟨w16.heap.size,cap3,(Row.cons.1 r18).1,hcap3,x18.row row17 fun j _ h=>by simp only [rng] at h;omega,x18.wok wok17,by omega⟩
   ·refine do_bsl rfl (bs_it1 md) fun w15 n15=>⟨.inr (keep2 n15.ext ⟨by rw [sz_dr];omega,fun _ h=>h⟩ ⟨by rw [sz_dr];omega,fun _ h=>h⟩),?_⟩
    simp only [↓zZ1,↓reduceIte,Nat.reduceEqDiff,rg,ow_90]
    have n15:=n15.od
    have s15:=n15.size
    refine do_bsl rfl bs_it0 fun w16 n16=>⟨.inr (keep2 n16.ext ⟨by omega,fun _ h=>h⟩ ⟨by omega,fun _ h=>h⟩),?_⟩
    simp only [↓zZ1,↓reduceIte,Nat.reduceEqDiff,rg,ow_90]
    have s16:=n16.size
    have hv:SlV w16 2 (.slice (some ⟨w15.heap.size,0,none⟩) 0 0) 0 []:=⟨rfl,.inr ⟨_,0,0,rfl,Nat.le_refl _,Row.nil _ _ _,n16.wok.R (Nat.le_refl _)⟩⟩
    have hu:SlV w16 2 (.slice (some ⟨w14.heap.size,0,none⟩) 1 1) 1 (E.cel md):=⟨rfl,.inr ⟨_,0,1,rfl,Nat.le_refl _,n16.ext.row n15.row fun _ _ h=>h,(n16.ext.wok n15.wok).R (Nat.le_refl _)⟩⟩
    have X16:Ext noF w14 w16:=n15.ext.tr n16.ext
    refine do_append (by simp only [zZ2,Nat.reduceEqDiff,↓reduceIte,zZ3]<;>rfl) (by simp only [zZ2,Nat.reduceEqDiff,↓reduceIte,zZ3]<;>rfl) el_it rfl ni_25 hv hu (by omega) (by decide) (E.one md) fun v17 w17 a17=>?_
    obtain ⟨cap3,rfl,hcap3,row17,wok17,x17,s17⟩:=app_new a17 (by omega)
    refine ⟨.inr (keep2 x17 ⟨by omega,fun _ h=>h⟩ ⟨by omega,fun _ h=>h⟩),?_⟩
    simp only [↓zZ1,↓reduceIte,Nat.reduceEqDiff,rg,ow_90,ptr_eq]
    refine do_store (by simp only [zZ2,Nat.reduceEqDiff,↓reduceIte,zZ3]<;>rfl) (by simp only [zZ2,Nat.reduceEqDiff,↓reduceIte,zZ3]<;>rfl) sz_25 rfl (x17.wok (X16.wok wb14)) (by decide) (oc_one rfl rfl) fun w18 x18 r18 s18=>⟨.inl trivial,?_⟩
    simp only [↓zZ1,↓reduceIte,Nat.reduceEqDiff,rg,ow_90]
    refine rest2 _ _ f0 f2 f8 f6 (((X16.tr x17).mono fun _ _ _ g=>g.elim).tr x18) ⟨w16.heap.size,cap3,(Row.cons.1 r18).1,hcap3,x18.row row17 fun j _ h=>by simp only [rng] at h;omega,x18.wok wok17,by omega⟩
  constructor
  ·refine do_bsl rfl bs_kid0 fun w11 n11=>⟨.inr (keep2 n11.ext ⟨by rw [sz_dr];omega,fun _ h=>h⟩ ⟨by rw [sz_dr];omega,fun _ h=>h⟩),?_⟩
   simp only [↓zZ1,↓reduceIte,Nat.reduceEqDiff,rg,ow_90]
   have n11:=n11.od
   have s11:=n11.size
   refine do_bsl rfl (bs_kid2 b rb) fun w12 n12=>⟨.inr (keep2 n12.ext ⟨by omega,fun _ h=>h⟩ ⟨by omega,fun _ h=>h⟩),?_⟩
   simp only [↓zZ1,↓reduceIte,Nat.reduceEqDiff,rg,ow_90]
   have s12:=n12.size
   have hv:SlV w12 1 (.slice (some ⟨w10.heap.size,0,none⟩) 0 0) 0 []:=⟨rfl,.inr ⟨_,0,0,rfl,Nat.le_refl _,Row.nil _ _ _,(n12.ext.wok n11.wok).R (Nat.le_refl _)⟩⟩
   have hu:SlV w12 1 (.slice (some ⟨w11.heap.size,0,none⟩) 2 2) 2 [ptr b,ptr rb]:=⟨rfl,.inr ⟨_,0,2,rfl,Nat.le_refl _,n12.row,n12.wok.R (Nat.le_refl _)⟩⟩
   have X12:Ext noF w10 w12:=n11.ext.tr n12.ext
   refine do_append (by simp only [zZ2,Nat.reduceEqDiff,↓reduceIte,zZ3]<;>rfl) (by simp only [zZ2,Nat.reduceEqDiff,↓reduceIte,zZ3]<;>rfl) el_kid rfl ni_166 hv hu (by omega) (by decide) (by intro v hv;simp at hv;rcases hv with rfl | rfl<;>rfl) fun v13 w13 a13=>?_
   obtain ⟨cap2,rfl,hcap2,row13,wok13,x13,s13⟩:=app_new a13 (by omega)
   refine ⟨.inr (keep2 x13 ⟨by omega,fun _ h=>h⟩ ⟨by omega,fun _ h=>h⟩),?_⟩
   simp only [↓zZ1,↓reduceIte,Nat.reduceEqDiff,rg,ow_90]
   refine do_store (by simp only [zZ2,Nat.reduceEqDiff,↓reduceIte,zZ3]<;>rfl) (by simp only [zZ2,Nat.reduceEqDiff,↓reduceIte,zZ3]<;>rfl) sz_166 rfl (x13.wok (X12.wok wbc10)) (by decide) (oc_one rfl rfl) fun w14 x14 r14 s14=>⟨.inl trivial,?_⟩
   simp only [↓zZ1,↓reduceIte,Nat.reduceEqDiff,rg,ow_90]
   refine rest _ _ e0 e2 (by simp only [upd_eq,Nat.reduceEqDiff,↓reduceIte]<;>rfl) (by simp only [upd_eq,Nat.reduceEqDiff,↓reduceIte]<;>rfl) (by simp only [upd_eq,Nat.reduceEqDiff,↓reduceIte]<;>rfl) (((X12.tr x13).mono fun _ _ _ g=>g.elim).tr x14) ⟨w12.heap.size,cap2,(Row.cons.1 r14).1,hcap2,x14.row row13 fun j _ h=>by simp only [rng] at h;omega,by have:=x14.wok wok13;rwa [Nat.mul_one] at this,by omega⟩
  ·refine do_bsl rfl (bs_kid2 b rb) fun w11 n11=>⟨.inr (keep2 n11.ext ⟨by rw [sz_dr];omega,fun _ h=>h⟩ ⟨by rw [sz_dr];omega,fun _ h=>h⟩),?_⟩
   simp only [↓zZ1,↓reduceIte,Nat.reduceEqDiff,rg,ow_90]
   have n11:=n11.od
   have s11:=n11.size
   refine do_bsl rfl bs_kid0 fun w12 n12=>⟨.inr (keep2 n12.ext ⟨by omega,fun _ h=>h⟩ ⟨by omega,fun _ h=>h⟩),?_⟩
   simp only [↓zZ1,↓reduceIte,Nat.reduceEqDiff,rg,ow_90]
   have s12:=n12.size
   have hv:SlV w12 1 (.slice (some ⟨w11.heap.size,0,none⟩) 0 0) 0 []:=⟨rfl,.inr ⟨_,0,0,rfl,Nat.le_refl _,Row.nil _ _ _,n12.wok.R (Nat.le_refl _)⟩⟩
   have hu:SlV w12 1 (.slice (some ⟨w10.heap.size,0,none⟩) 2 2) 2 [ptr b,ptr rb]:=⟨rfl,.inr ⟨_,0,2,rfl,Nat.le_refl _,n12.ext.row n11.row fun _ _ h=>h,(n12.ext.wok n11.wok).R (Nat.le_refl _)⟩⟩
   have X12:Ext noF w10 w12:=n11.ext.tr n12.ext
   refine do_append (by simp only [zZ2,Nat.reduceEqDiff,↓reduceIte,zZ3]<;>rfl) (by simp only [zZ2,Nat.reduceEqDiff,↓reduceIte,zZ3]<;>rfl) el_kid rfl ni_166 hv hu (by omega) (by decide) (by intro v hv;simp at hv;rcases hv with rfl | rfl<;>rfl) fun v13 w13 a13=>?_
   obtain ⟨cap2,rfl,hcap2,row13,wok13,x13,s13⟩:=app_new a13 (by omega)
   refine ⟨.inr (keep2 x13 ⟨by omega,fun _ h=>h⟩ ⟨by omega,fun _ h=>h⟩),?_⟩
   simp only [↓zZ1,↓reduceIte,Nat.reduceEqDiff,rg,ow_90]
   refine do_store (by simp only [zZ2,Nat.reduceEqDiff,↓reduceIte,zZ3]<;>rfl) (by simp only [zZ2,Nat.reduceEqDiff,↓reduceIte,zZ3]<;>rfl) sz_166 rfl (x13.wok (X12.wok wbc10)) (by decide) (oc_one rfl rfl) fun w14 x14 r14 s14=>⟨.inl trivial,?_⟩
   simp only [↓zZ1,↓reduceIte,Nat.reduceEqDiff,rg,ow_90]
   refine rest _ _ e0 e2 (by simp only [upd_eq,Nat.reduceEqDiff,↓reduceIte]<;>rfl) (by simp only [upd_eq,Nat.reduceEqDiff,↓reduceIte]<;>rfl) (by simp only [upd_eq,Nat.reduceEqDiff,↓reduceIte]<;>rfl) (((X12.tr x13).mono fun _ _ _ g=>g.elim).tr x14) ⟨w12.heap.size,cap2,(Row.cons.1 r14).1,hcap2,x14.row row13 fun j _ h=>by simp only [rng] at h;omega,by have:=x14.wok wok13;rwa [Nat.mul_one] at this,by omega⟩
 ·simp only [↓zZ1,↓reduceIte,Nat.reduceEqDiff,rg,ow_90]
  refine do_store (by simp only [zZ2,Nat.reduceEqDiff,↓reduceIte,zZ3]<;>rfl) (by simp only [zZ2,Nat.reduceEqDiff,↓reduceIte,zZ3]<;>rfl) sz_33 (itV_len _) wq3 (by decide) (itV_oc _) fun w3 x3s r3s s3s=>⟨.inr (hkeep x3s),?_⟩
  simp only [↓zZ1,↓reduceIte,Nat.reduceEqDiff,rg,ow_90]
  apply hK;clear hK K
  have x3:Ext (fun y o=>F y o\/rng q 0 2 y o) w2 w3:=x3p.trans x3s (fun _ _ g=>.inl g) fun _ _ _ g=>.inr g
  have X3:Ext F w w3:=X2.trans x3 (fun _ _ g=>g.elim) fun y o hy g=>g.elim id fun g=>by simp only [rng] at g;omega
  have s3:=x3.size
  have hmG:∀ o,¬ (F m o\/rng q 0 2 m o):=fun o g=>g.elim (hm o) fun g=>by simp only [rng] at g;omega
  have c3:=c2.ext x3 fun o _ _=>hmG o
  have rt3:=x3.rd rt2 (hmG 2)
  have ct3:=X3.rd hcnt (hm 3)
  have hL3:=hL.ext X3 (fun y o g=>by have:=hBF y o g;omega) (hm 6)
  have wq3':=x3s.wok wq3
  have hT':=hT'.ext x3s fun y o g k=>by simp only [rng] at k;exact hF'q o (by rw [<-k.1];exact g)
  have hab3:∀ y o,F' y o->m<y:=fun y o g=>by
   rcases hF3 y o g with g | g
   ·exact hBF _ _ g
   ·omega
  refine W_seq ?_
  refine W_sq fun K hK=>(W_text [true] (by kernel_rfl) ?_);simp only [↓zZ1,↓reduceIte,Nat.reduceEqDiff,rg,ow_90]
  apply hK;clear hK K
  refine W_false (by simp only [zZ2,Nat.reduceEqDiff,↓reduceIte,zZ3]<;>rfl) (W_skip ?_)
  show W _ _ _ _ _ _
  refine W_seq ?_
  have hpl:=put_length O (rkI ord) x xs
  have hpa:=put_asc O (rkI ord) (x:=x) ha
  cases hh2:hit O (rkI ord) (rkI ord x) xs with
  | true =>
   rw [hh2] at hpl
   refine W_sq fun K hK=>(W_text [true] (by kernel_rfl) ?_);simp only [↓zZ1,↓reduceIte,Nat.reduceEqDiff,rg,ow_90]
   apply hK;clear hK K
   refine W_true (by simp only [zZ2,Nat.reduceEqDiff,↓reduceIte,zZ3]<;>rfl) ?_
   have pv3:=iX_at (show Row w3 q 0 (E.cel ((at? O (rkI ord) (rkI ord x) xs).getD zIt)) from r3s)
   refine W_sq fun K hK=>(W_text [true,false,true] (by kernel_rfl) ?_);simp only [↓zZ1,↓reduceIte,Nat.reduceEqDiff,rg,ow_90,pv3]
   refine do_store (by simp only [zZ2,Nat.reduceEqDiff,↓reduceIte,zZ3]<;>rfl) (by simp only [zZ2,Nat.reduceEqDiff,↓reduceIte,zZ3]<;>rfl) sz_33 (itV_len _) wq3' (by decide) (itV_oc _) fun w4 x4 r4 s4=>⟨trivial,?_⟩
   simp only [↓zZ1,↓reduceIte,Nat.reduceEqDiff,rg,ow_90]
   apply hK;clear hK K
   refine W_ret ?_
   simp only [andThen_ret]
   have TA:TreeAt B ord w3 m d iso (put O (rkI ord) x xs) F':=⟨c3,hL3,by rw [hpl];exact ct3,hpa,.inr ⟨h,b,rt3,hT'⟩,hF'm,hT'.lt,hab3⟩
   exact endQ_ct (by simp only [upd_eq,Nat.reduceEqDiff,↓reduceIte]<;>rfl) (by simp only [upd_eq,Nat.reduceEqDiff,↓reduceIte]<;>rfl) ld_33 (iX_at (show Row w4 q 0 (E.cel ((at? O (rkI ord) (rkI ord x) xs).getD zIt)) from r4)) ⟨rfl,X3.trans x4 (fun _ _ g=>.inl g) fun y o hy g=>by simp only [rng] at g;omega,F',
    TA.extG x4 (fun y o g k=>by simp only [rng] at k;exact hF'q o (by rw [<-k.1];exact g)) (fun y o g=>by simp only [rng] at g;omega),RootR.ok hR,fun y o g=>(hF3 y o g).imp id fun g=>by omega⟩
  | false =>
   rw [hh2] at hpl
   have q1:=wadd1 xs.length (by omega)
   refine W_sq fun K hK=>(W_text [true] (by kernel_rfl) ?_);simp only [↓zZ1,↓reduceIte,Nat.reduceEqDiff,rg,ow_90]
   apply hK;clear hK K
   refine W_false (by simp only [zZ2,Nat.reduceEqDiff,↓reduceIte,zZ3]<;>rfl) (W_skip ?_)
   show W _ _ _ _ _ _
   refine W_sq fun K hK=>(W_text [true,true,true,true,true,true,true,false] (by kernel_rfl) ?_);simp only [↓zZ1,↓reduceIte,Nat.reduceEqDiff,rg,ow_90,e0,ptr_eq,ct3,q1]
   refine do_store (by simp only [zZ2,Nat.reduceEqDiff,↓reduceIte,zZ3]<;>rfl) (by simp only [zZ2,Nat.reduceEqDiff,↓reduceIte,zZ3]<;>rfl) sz_3 rfl c3.wok (by decide) (oc_one rfl rfl) fun w4 x4 r4 s4=>⟨trivial,?_⟩
   simp only [↓zZ1,↓reduceIte,Nat.reduceEqDiff,rg,ow_90]
   apply hK;clear hK K
   have c4:=c3.ext x4 fun o _ h3 g=>h3 (by simp only [rng] at g;omega)
   have z4:=zIt_at c4
   refine W_sq fun K hK=>(W_text [true,true,true,true,false,true] (by kernel_rfl) ?_);simp only [↓zZ1,↓reduceIte,Nat.reduceEqDiff,rg,ow_90,e0,ptr_eq,z4]
   refine do_store (by simp only [zZ2,Nat.reduceEqDiff,↓reduceIte,zZ3]<;>rfl) (by simp only [zZ2,Nat.reduceEqDiff,↓reduceIte,zZ3]<;>rfl) sz_33 (itV_len zIt) (x4.wok wq3') (by decide) (itV_oc zIt) fun w5 x5 r5 s5=>⟨trivial,?_⟩
   simp only [↓zZ1,↓reduceIte,Nat.reduceEqDiff,rg,ow_90]
   apply hK;clear hK K
   have hat:at? O (rkI ord) (rkI ord x) xs=none:=by unfold at?;rw [hh2];rfl
   have TA:TreeAt B ord w4 m d iso (put O (rkI ord) x xs) F':=by
    refine ⟨c4,hL3.ext x4 (fun y o g=>by simp only [rng] at g;omega) (by simp only [rng];omega),?_,hpa,.inr ⟨h,b,x4.rd rt3 (by simp only [rng];omega),?_⟩,hF'm,fun y o g=>?_,hab3⟩
    ·rw [hpl];exact (Row.cons.1 r4).1
    ·exact hT'.ext x4 fun y o g k=>hF'm o (by simp only [rng] at k;rw [<-k.1];exact g)
    ·have:=hT'.lt y o g;omega
   refine W_ret (endQ_ct (by simp only [upd_eq,Nat.reduceEqDiff,↓reduceIte]<;>rfl) (by simp only [upd_eq,Nat.reduceEqDiff,↓reduceIte]<;>rfl) ld_33 (iX_at (show Row w5 q 0 (E.cel zIt) from r5)) ⟨by rw [hat];rfl,(X3.trans x4 (fun _ _ g=>.inl g) fun y o _ g=>.inr ⟨g.1,by simp only [rng] at g;omega⟩).trans x5 (fun _ _ g=>g) fun y o hy g=>by simp only [rng] at g;omega,F',
    TA.extG x5 (fun y o g k=>by simp only [rng] at k;exact hF'q o (by rw [<-k.1];exact g)) (fun y o g=>by simp only [rng] at g;omega),RootR.ok hR,fun y o g=>(hF3 y o g).imp id fun g=>by omega⟩)
set_option maxHeartbeats 400000 in
set_option maxRecDepth 8000 in
theorem init_again (m d:Nat) (iso:Int) (hd:2<=d) (v:Value) (w:World) (hc:Cfg w m iso d):CallK Try.prog 114 #[ptr m,v] w fun _ w'=>w=w':=by
 refine calls_of_W [] Try.func114 rfl Try.ntmps114 Try.results114 (by simp) fun e he=>?_
 have e0:e 0=ptr m:=he 0 _ rfl
 clear he
 have t1:(((d-1:Nat):Int) != 0)=true:=by simp;omega
 refine W_seq ?_
 refine W_sq fun K hK=>(W_text [true,true,true,true,true] (by kernel_rfl) ?_);simp only [↓zZ1,↓reduceIte,Nat.reduceEqDiff,rg,ow_114,e0,ptr_eq,hc.mn,t1]
 apply hK;clear hK K
 refine W_true (by simp only [zZ2,Nat.reduceEqDiff,↓reduceIte,zZ3]<;>rfl) (W_ret ?_)
 simp only [andThen_ret]
 exact endQ_0 rfl
set_option maxHeartbeats 1000000 in
set_option maxRecDepth 8000 in
theorem set_nil (B m d:Nat) (iso:Int) (ord:List Int) (x:It) (hd:2<=d) (hd':d<=128) (w:World) (hc:Cfg w m iso d) (hL:Ls B m w ord) (hroot:rd w m 2=some (.pointer none)) :
  CallK Try.prog 90 #[ptr m,itV x,.pointer none] w fun v w'=>v = .tuple #[itV zIt,.bool false]/\Ext (mapF m noF) w w'/\∃ F',TreeAt B ord w' m d iso [x] F'/\F'.s = .nd [x] []/\∀ y o,F' y o->w.heap.size<=y:=by
 have hml:=rd_lt hroot
 have hBm:B<=m:=by obtain ⟨_,_,_,h⟩:=hL;exact h
 refine calls_of_W [.cell 6 33,.tmp 7] Try.func90 rfl Try.ntmps90 Try.results90 (by simp) fun e he=>?_
 have e0:e 0=ptr m:=he 0 _ rfl
 have e1:e 1=itV x:=he 1 _ rfl
 have e2:e 2 = .pointer none:=he 2 _ rfl
 clear he
 refine W_sq fun K hK=>(W_text [false,false,true] (by kernel_rfl) ?_);simp only [↓zZ1,↓reduceIte,Nat.reduceEqDiff,rg,ow_90]
 refine do_box (by simp only [evt];exact e1) fun w1 n1=>⟨trivial,?_⟩
 simp only [↓zZ1,↓reduceIte,Nat.reduceEqDiff,rg,ow_90]
 refine do_alloc z_it fun w2 n2=>⟨trivial,?_⟩
 simp only [↓zZ1,↓reduceIte,Nat.reduceEqDiff,rg,ow_90]
 apply hK;clear hK K
 have s1:=n1.size
 have X2:Ext noF w w2:=n1.ext.tr n2.ext
 have rx:Row w2 w.heap.size 0 (E.cel x):=n2.ext.row n1.row fun _ _ h=>h
 have s2:w2.heap.size=w.heap.size+2:=by have:=n2.size;omega
 obtain ⟨q,hq⟩:∃ q,q=w1.heap.size:=⟨_,rfl⟩
 have hqs:q=w.heap.size+1:=by omega
 have wq2:wok w2 q 2:=by rw [hq];exact n2.wok
 rw [<-hq]
 clear hq n1 n2
 have c2:=hc.ext X2 fun _ _ _ h=>h
 have rt2:=X2.rd hroot (fun h=>h)
 refine W_seq ?_
 refine W_sq fun K hK=>(W_text [true,true,true,true,true] (by kernel_rfl) ?_);simp only [↓zZ1,↓reduceIte,Nat.reduceEqDiff,rg,ow_90,e0,ptr_eq,rt2]
 apply hK;clear hK K
 refine W_true (by simp only [zZ2,Nat.reduceEqDiff,↓reduceIte,zZ3]<;>rfl) ?_
 refine W_sq fun K hK=>(W_text [true,false] (by kernel_rfl) ?_);simp only [↓zZ1,↓reduceIte,Nat.reduceEqDiff,rg,ow_90,e0]
 refine do_call fn_114 (by simp only [zZ2,Nat.reduceEqDiff,↓reduceIte,zZ4]<;>rfl) (init_again m d iso hd (.int .i64 0) w2 c2) ?_
 rintro _ _ rfl
 refine ⟨trivial,?_⟩
 simp only [↓zZ1,↓reduceIte,Nat.reduceEqDiff,rg,ow_90]
 apply hK;clear hK K
 refine W_sq fun K hK=>(W_text [true,true,false,true,true,false] (by kernel_rfl) ?_);simp only [↓zZ1,↓reduceIte,Nat.reduceEqDiff,rg,ow_90,e0]
 refine do_call fn_122 (by simp only [zZ2,Nat.reduceEqDiff,↓reduceIte,zZ4]<;>rfl) (newNode_any m true iso w2 c2.iso) ?_
 rintro _ w3 ⟨b,rfl,x3,nn⟩
 refine ⟨trivial,?_⟩
 simp only [↓zZ1,↓reduceIte,Nat.reduceEqDiff,rg,ow_90,ptr_eq]
 have c3:=c2.ext x3 fun _ _ _ h=>h
 refine do_store (by simp only [zZ2,Nat.reduceEqDiff,↓reduceIte,zZ3]<;>rfl) (by simp only [zZ2,Nat.reduceEqDiff,↓reduceIte,zZ3]<;>rfl) sz_96 rfl (c3.wok.mono (by decide)) (Nat.le_refl 3) (oc_one rfl rfl) fun w4 x4 r4 s4=>⟨trivial,?_⟩
 simp only [↓zZ1,↓reduceIte,Nat.reduceEqDiff,rg,ow_90]
 apply hK;clear hK K
 have nnge:=nn.ge
 have s3:=x3.size
 have hbl:=wok_lt nn.wb
 have rt4:rd w4 m 2=some (ptr b):=(Row.cons.1 r4).1
 have c4:=c3.ext x4 fun o h2 _ g=>h2 (by simp only [rng] at g;omega)
 have rx4:Row w4 w.heap.size 0 (E.cel x):=x4.row (x3.row rx fun _ _ h=>h) fun j _ h=>by simp only [rng] at h;omega
 have ix4:=iX_at rx4
 have wb4:=x4.wok nn.wb
 have M4:readsB (some (some [m,w.heap.size])) m=true:=by simp [readsB]
 have M5:readsB (some (some [m,w.heap.size])) w.heap.size=true:=by simp [readsB]
 refine W_sq fun K hK=>(W_draw (some (some [m,w.heap.size])) (some 10) [(0,0,0),(0,1,0),(0,2,0),(0,3,0),(0,5,0),(2,4,6),(1,7,0),(0,8,0),(0,9,0),(1,10,0)] mixed (by kernel_rfl) ?_);simp only [↓zZ1,↓reduceIte,Nat.reduceEqDiff,rg,ow_90,e0,ptr_eq,rt4,ix4,M4,M5]
 have rest2:∀ e'' w',e'' 0=ptr m->e'' 6 = .pointer (some ⟨q,0,none⟩)->Ext (rng b 2 1) w4 w' →
   (∃ bi2 cap3,rd w' b 2=some (.slice (some ⟨bi2,0,none⟩) 1 cap3)/\1<=cap3/\Row w' bi2 0 (E.cel x)/\wok w' bi2 (cap3*2)/\w4.heap.size<=bi2)->K e'' w':=by
  intro e'' w18 f0 f6 x18 ⟨bi2,cap3,p0,p2,p3,p4,p5⟩
  apply hK;clear hK K
  have s18:=x18.size
  have hbi18:=wok_lt p4
  have rt18:rd w18 m 2=some (ptr b):=x18.rd rt4 (by simp only [rng];omega)
  have c18:=c4.ext x18 fun o _ _ g=>by simp only [rng] at g;omega
  refine W_sq fun K hK=>(W_text [true,true,true,true,true,true,false] (by kernel_rfl) ?_);simp only [↓zZ1,↓reduceIte,Nat.reduceEqDiff,rg,ow_90,f0,ptr_eq,rt18]
  refine do_store (by simp only [zZ2,Nat.reduceEqDiff,↓reduceIte,zZ3]<;>rfl) (by simp only [zZ2,Nat.reduceEqDiff,↓reduceIte,zZ3]<;>rfl) sz_3 rfl (x18.wok wb4) (by decide) (oc_one rfl rfl) fun w19 x19 r19 s19=>⟨trivial,?_⟩
  simp only [↓zZ1,↓reduceIte,Nat.reduceEqDiff,rg,ow_90]
  apply hK;clear hK K
  have c19:=c18.ext x19 fun o _ _ g=>by simp only [rng] at g;omega
  refine W_sq fun K hK=>(W_text [true,true,true,false] (by kernel_rfl) ?_);simp only [↓zZ1,↓reduceIte,Nat.reduceEqDiff,rg,ow_90,f0,ptr_eq]
  refine do_store (by simp only [zZ2,Nat.reduceEqDiff,↓reduceIte,zZ3]<;>rfl) (by simp only [zZ2,Nat.reduceEqDiff,↓reduceIte,zZ3]<;>rfl) sz_3 rfl (c19.wok.mono (by decide)) (Nat.le_refl 4) (oc_one rfl rfl) fun w20 x20 r20 s20=>⟨trivial,?_⟩
  simp only [↓zZ1,↓reduceIte,Nat.reduceEqDiff,rg,ow_90]
  apply hK;clear hK K
  have c20:=c19.ext x20 fun o _ h3 g=>h3 (by simp only [rng] at g;omega)
  have z20:=zIt_at c20
  have hL20:Ls B m w20 ord:=((((((hL.ext0 X2).ext0 x3).ext x4 (fun y o g=>by simp only [rng] at g;omega) (by simp only [rng];omega)).ext x18 (fun y o g=>by simp only [rng] at g;omega) (by simp only [rng];omega)).ext x19 (fun y o g=>by simp only [rng] at g;omega) (by simp only [rng];omega)).ext x20 (fun y o g=>by simp only [rng] at g;omega) (by simp only [rng];omega))
  have wq20:wok w20 q 2:=x20.wok (x19.wok (x18.wok (x4.wok (x3.wok wq2))))
  refine W_sq fun K hK=>(W_text [true,true,true,true,false,true] (by kernel_rfl) ?_);simp only [↓zZ1,↓reduceIte,Nat.reduceEqDiff,rg,ow_90,f0,ptr_eq,z20]
  refine do_store (by simp only [evt,upd_eq,Nat.reduceEqDiff,↓reduceIte];exact f6) (by simp only [zZ2,Nat.reduceEqDiff,↓reduceIte,zZ3]<;>rfl) sz_33 (itV_len zIt) wq20 (by decide) (itV_oc zIt) fun w21 x21 r21 s21=>⟨trivial,?_⟩
  simp only [↓zZ1,↓reduceIte,Nat.reduceEqDiff,rg,ow_90]
  apply hK;clear hK K
  have X20:Ext (mapF m noF) w w20:=by
   refine (((((X2.tr x3).trans x4 (H:=mapF m noF) (fun _ _ g=>g.elim) fun y o _ g=>?_).trans x18 (fun _ _ g=>g) fun y o _ g=>?_).trans x19 (fun _ _ g=>g) fun y o _ g=>?_).trans x20 (fun _ _ g=>g) fun y o _ g=>?_)
   ·simp only [rng] at g;exact .inr ⟨g.1,by omega⟩
   ·simp only [rng] at g;omega
   ·simp only [rng] at g;omega
   ·simp only [rng] at g;exact .inr ⟨g.1,by omega⟩
  have tr:Tr E iso (d-1) (2*d-1) 0 w20 1 b [x] ⟨ownF E b bi2 0 cap3,.nd [x] []⟩:=by
   refine ⟨bi2,0,cap3,⟨x20.rd (x19.rd (x18.rd (x4.rd nn.h0 (by simp only [rng];omega)) (by simp only [rng];omega)) (by simp only [rng];omega)) (by simp only [rng];omega),?_,x20.rd (x19.rd p0 (by simp only [rng];omega)) (by simp only [rng];omega),
    x20.rd (x19.rd (x18.rd (x4.rd (nn.leaf rfl) (by simp only [rng];omega)) (by simp only [rng];omega)) (by simp only [rng];omega)) (by simp only [rng];omega),x20.wok (x19.wok (x18.wok wb4)),?_,by rw [Nat.zero_add];exact x20.wok (x19.wok p4),p2,by omega⟩,
    Nat.le_refl _,(by show 1<=2*d-1;omega),⟨fun _ _=>Iff.rfl,rfl⟩⟩
   ·exact x20.rd (Row.cons.1 r19).1 (by simp only [rng];omega)
   ·rw [flat_one];exact x20.row (x19.row p3 fun j _ h=>by simp only [rng] at h;omega) fun j _ h=>by simp only [rng] at h;omega
  have hown:∀ y o,ownF E b bi2 0 cap3 y o->w2.heap.size<=y:=fun y o g=>by simp only [ownF,rng] at g;omega
  refine W_ret ?_
  simp only [andThen_ret]
  have TA:TreeAt B ord w20 m d iso [x] ⟨ownF E b bi2 0 cap3,.nd [x] []⟩:=⟨c20,hL20,(Row.cons.1 r20).1,List.pairwise_singleton _ _,.inr ⟨0,b,x20.rd (x19.rd rt18 (by simp only [rng];omega)) (by simp only [rng];omega),tr⟩,fun o g=>by have:=hown _ _ g;omega,tr.lt,
   fun y o g=>by have:=hown _ _ g;omega⟩
  exact endQ_ct f6 (by simp only [upd_eq,Nat.reduceEqDiff,↓reduceIte]<;>rfl) ld_33 (iX_at (show Row w21 q 0 (E.cel zIt) from r21)) ⟨rfl,X20.trans x21 (fun _ _ g=>g) fun y o hy g=>by simp only [rng] at g;omega,_,
   TA.extG x21 (fun y o g k=>by have:=hown _ _ g;simp only [rng] at k;omega) (fun y o g=>by simp only [rng] at g;omega),rfl,fun y o g=>by have:=hown _ _ g;omega⟩
 constructor
 ·refine do_bsl rfl bs_it0 fun w15 n15=>⟨.inr (keep2 n15.ext ⟨by rw [sz_dr];omega,fun _ h=>h⟩ ⟨by rw [sz_dr];omega,fun _ h=>h⟩),?_⟩
  simp only [↓zZ1,↓reduceIte,Nat.reduceEqDiff,rg,ow_90]
  have n15:=n15.od
  have s15:=n15.size
  refine do_bsl rfl (bs_it1 x) fun w16 n16=>⟨.inr (keep2 n16.ext ⟨by omega,fun _ h=>h⟩ ⟨by omega,fun _ h=>h⟩),?_⟩
  simp only [↓zZ1,↓reduceIte,Nat.reduceEqDiff,rg,ow_90]
  have s16:=n16.size
  have hv:SlV w16 2 (.slice (some ⟨w4.heap.size,0,none⟩) 0 0) 0 []:=⟨rfl,.inr ⟨_,0,0,rfl,Nat.le_refl _,Row.nil _ _ _,(n16.ext.wok n15.wok).R (Nat.le_refl _)⟩⟩
  have hu:SlV w16 2 (.slice (some ⟨w15.heap.size,0,none⟩) 1 1) 1 (E.cel x):=⟨rfl,.inr ⟨_,0,1,rfl,Nat.le_refl _,n16.row,n16.wok.R (Nat.le_refl _)⟩⟩
  have X16:Ext noF w4 w16:=n15.ext.tr n16.ext
  refine do_append (by simp only [zZ2,Nat.reduceEqDiff,↓reduceIte,zZ3]<;>rfl) (by simp only [zZ2,Nat.reduceEqDiff,↓reduceIte,zZ3]<;>rfl) el_it rfl ni_25 hv hu (by omega) (by decide) (E.one x) fun v17 w17 a17=>?_
  obtain ⟨cap3,rfl,hcap3,row17,wok17,x17,s17⟩:=app_new a17 (by omega)
  refine ⟨.inr (keep2 x17 ⟨by omega,fun _ h=>h⟩ ⟨by omega,fun _ h=>h⟩),?_⟩
  simp only [↓zZ1,↓reduceIte,Nat.reduceEqDiff,rg,ow_90,ptr_eq]
  refine do_store (by simp only [zZ2,Nat.reduceEqDiff,↓reduceIte,zZ3]<;>rfl) (by simp only [zZ2,Nat.reduceEqDiff,↓reduceIte,zZ3]<;>rfl) sz_25 rfl (x17.wok (X16.wok wb4)) (by decide) (oc_one rfl rfl) fun w18 x18 r18 s18=>⟨.inl trivial,?_⟩
  simp only [↓zZ1,↓reduceIte,Nat.reduceEqDiff,rg,ow_90]
  refine rest2 _ _ e0 (by simp only [upd_eq,Nat.reduceEqDiff,↓reduceIte]<;>rfl) (((X16.tr x17).mono fun _ _ _ g=>g.elim).tr x18) ⟨w16.heap.size,cap3,(Row.cons.1 r18).1,hcap3,x18.row row17 fun j _ h=>by simp only [rng] at h;omega,x18.wok wok17,by omega⟩
 ·refine do_bsl rfl (bs_it1 x) fun w15 n15=>⟨.inr (keep2 n15.ext ⟨by rw [sz_dr];omega,fun _ h=>h⟩ ⟨by rw [sz_dr];omega,fun _ h=>h⟩),?_⟩
  simp only [↓zZ1,↓reduceIte,Nat.reduceEqDiff,rg,ow_90]
  have n15:=n15.od
  have s15:=n15.size
  refine do_bsl rfl bs_it0 fun w16 n16=>⟨.inr (keep2 n16.ext ⟨by omega,fun _ h=>h⟩ ⟨by omega,fun _ h=>h⟩),?_⟩
  simp only [↓zZ1,↓reduceIte,Nat.reduceEqDiff,rg,ow_90]
  have s16:=n16.size
  have hv:SlV w16 2 (.slice (some ⟨w15.heap.size,0,none⟩) 0 0) 0 []:=⟨rfl,.inr ⟨_,0,0,rfl,Nat.le_refl _,Row.nil _ _ _,n16.wok.R (Nat.le_refl _)⟩⟩
  have hu:SlV w16 2 (.slice (some ⟨w4.heap.size,0,none⟩) 1 1) 1 (E.cel x):=⟨rfl,.inr ⟨_,0,1,rfl,Nat.le_refl _,n16.ext.row n15.row fun _ _ h=>h,(n16.ext.wok n15.wok).R (Nat.le_refl _)⟩⟩
  have X16:Ext noF w4 w16:=n15.ext.tr n16.ext
  refine do_append (by simp only [zZ2,Nat.reduceEqDiff,↓reduceIte,zZ3]<;>rfl) (by simp only [zZ2,Nat.reduceEqDiff,↓reduceIte,zZ3]<;>rfl) el_it rfl ni_25 hv hu (by omega) (by decide) (E.one x) fun v17 w17 a17=>?_
  obtain ⟨cap3,rfl,hcap3,row17,wok17,x17,s17⟩:=app_new a17 (by omega)
  refine ⟨.inr (keep2 x17 ⟨by omega,fun _ h=>h⟩ ⟨by omega,fun _ h=>h⟩),?_⟩
  simp only [↓zZ1,↓reduceIte,Nat.reduceEqDiff,rg,ow_90,ptr_eq]
  refine do_store (by simp only [zZ2,Nat.reduceEqDiff,↓reduceIte,zZ3]<;>rfl) (by simp only [zZ2,Nat.reduceEqDiff,↓reduceIte,zZ3]<;>rfl) sz_25 rfl (x17.wok (X16.wok wb4)) (by decide) (oc_one rfl rfl) fun w18 x18 r18 s18=>⟨.inl trivial,?_⟩
  simp only [↓zZ1,↓reduceIte,Nat.reduceEqDiff,rg,ow_90]
  refine rest2 _ _ e0 (by simp only [upd_eq,Nat.reduceEqDiff,↓reduceIte]<;>rfl) (((X16.tr x17).mono fun _ _ _ g=>g.elim).tr x18) ⟨w16.heap.size,cap3,(Row.cons.1 r18).1,hcap3,x18.row row17 fun j _ h=>by simp only [rng] at h;omega,x18.wok wok17,by omega⟩
abbrev Ei:Enc It:=E
abbrev iV (x:It):Value:=itV x
theorem z_item:zK Try.prog 33=some [.int .i64 0,.int .i64 0]:=by kernel_rfl
def SlI (w:World) (v:Value) (l:List It):Prop:=SlV w 2 v l.length (flat Ei l)
theorem bu_item (a b:Int):buildV Try.prog 33 [(0,.int .i64 a),(1,.int .i64 b)]=some (iV (a,b)):=by kernel_rfl
def degOf (d:Nat):Nat:=if d=0 then 32 else d
def DOk (d:Nat):Prop:=d=0\/2<=d/\d<=128
theorem DOk.of {d:Nat} (h:DOk d):2<=degOf d/\degOf d<=128:=by
 unfold degOf
 rcases h with rfl | h
 ·simp
 ·rw [if_neg (by omega)];exact h
set_option maxHeartbeats 400000 in
set_option maxRecDepth 8000 in
theorem minmax_any (d:Nat) (h:DOk d) (w:World) :
  CallK Try.prog 149 #[.int .i64 d] w fun v w'=>v = .tuple #[.int .i64 (degOf d-1:Nat),.int .i64 (2*degOf d-1:Nat)]/\w=w':=by
 refine calls_of_W [.tmp 2,.tmp 3] Try.func149 rfl Try.ntmps149 Try.results149 (by simp) fun e he=>?_
 have e0:e 0 = .int .i64 d:=he 0 _ rfl
 clear he
 obtain ⟨h2,h3⟩:=h.of
 have q1:IntKind.i64.wrap ((degOf d:Int)*2)=((2*degOf d:Nat):Int):=by rw [IntWalk.i64_in _ (by omega)];omega
 have q2:IntKind.i64.wrap (((2*degOf d:Nat):Int)-1)=((2*degOf d-1:Nat):Int):=wsub1 _ (by omega) (by omega)
 have q3:IntKind.i64.wrap (((2*degOf d-1:Nat):Int).tdiv 2)=((degOf d-1:Nat):Int):=by rw [wdiv2 _ (by omega)];congr 1;omega
 refine W_sq fun K hK=>(W_text [true,true] (by kernel_rfl) ?_);simp only [↓zZ1,↓reduceIte,Nat.reduceEqDiff,rg,ow_149]
 apply hK;clear hK K
 refine W_sqx fun K hK=>?_
 have rest:∀ e',e' 0 = .int .i64 (degOf d)->K e' w:=fun e' f0=>by
  apply hK;clear hK K
  refine W_sq fun K hK=>(W_text [true,true,true,true] (by kernel_rfl) ?_);simp only [↓zZ1,↓reduceIte,Nat.reduceEqDiff,rg,ow_149,f0,bv_mul,q1,q2]
  apply hK;clear hK K
  refine W_sq fun K hK=>(W_text [true,true,true] (by kernel_rfl) ?_);simp only [↓zZ1,↓reduceIte,Nat.reduceEqDiff,rg,ow_149,q3]
  apply hK;clear hK K
  refine W_sq fun K hK=>(W_text [true,true,true,true] (by kernel_rfl) ?_);simp only [↓zZ1,↓reduceIte,Nat.reduceEqDiff,rg,ow_149]
  apply hK;clear hK K
  exact W_ret (endQ_2 (by simp only [upd_eq,Nat.reduceEqDiff,↓reduceIte]<;>rfl) (by simp only [upd_eq,Nat.reduceEqDiff,↓reduceIte]<;>rfl) ⟨rfl,rfl⟩)
 clear hK
 rcases h with rfl | ⟨g1,g2⟩
 ·have t1:decide ((0:Int)<=0)=true:=rfl
  refine W_sq fun K hK=>(W_text [true,true] (by kernel_rfl) ?_);simp only [↓zZ1,↓reduceIte,Nat.reduceEqDiff,rg,ow_149,e0,Int.natCast_zero,t1]
  apply hK;clear hK K
  refine W_true (by simp only [zZ2,Nat.reduceEqDiff,↓reduceIte,zZ3]<;>rfl) ?_
  refine W_rg fun K hK=>(W_text [true] (by kernel_rfl) ?_);simp only [↓zZ1,↓reduceIte,Nat.reduceEqDiff,rg,ow_149]
  apply hK;clear hK K
  refine rest _ ?_
  simp only [upd_eq,Nat.reduceEqDiff,↓reduceIte];rfl
 ·have t1:decide ((d:Int)<=0)=false:=by simp;omega
  have t2:((d:Int) == 1)=false:=by simp;omega
  refine W_sq fun K hK=>(W_text [true,true] (by kernel_rfl) ?_);simp only [↓zZ1,↓reduceIte,Nat.reduceEqDiff,rg,ow_149,e0,t1]
  apply hK;clear hK K
  refine W_false (by simp only [zZ2,Nat.reduceEqDiff,↓reduceIte,zZ3]<;>rfl) ?_
  refine W_sq fun K hK=>(W_text [true,true] (by kernel_rfl) ?_);simp only [↓zZ1,↓reduceIte,Nat.reduceEqDiff,rg,ow_149,e0,t2]
  apply hK;clear hK K
  refine W_false (by simp only [zZ2,Nat.reduceEqDiff,↓reduceIte,zZ3]<;>rfl) (W_skip ?_)
  refine rest _ ?_
  simp only [upd_eq,Nat.reduceEqDiff,↓reduceIte]
  rw [e0,degOf,if_neg (by omega)]
theorem la_cv:laK Try.prog 33 218=some .nilIface:=by kernel_rfl
theorem la_ci:laK Try.prog 33 221=some .nilIface:=by kernel_rfl
theorem z_tree:zK Try.prog 156=some [.int .u64 0,.pointer none,.pointer none,.int .i64 0,.bool false,.bool false,.nilFunc,.int .i64 0,.int .i64 0,.int .i64 0,.int .i64 0]:=by kernel_rfl
theorem z_u64:zK Try.prog 153=some [.int .u64 0]:=by kernel_rfl
theorem z_ints:zK Try.prog 22=some [.slice none 0 0]:=by kernel_rfl
theorem z_opt:zK Try.prog 138=some [.int .i64 0,.bool false]:=by kernel_rfl
theorem el_int:elK Try.prog 22=some (3,1,8,[.int .i64 0]):=by kernel_rfl
theorem ld_opt:ldK Try.prog 138=some (some 2):=by kernel_rfl
theorem bs_int0:bsV Try.prog 22 0 []=some (3,[]):=by kernel_rfl
theorem bu_opt (d:Int) (b:Bool):buildV Try.prog 138 [(0,.int .i64 d),(1,.bool b)]=some (.agg #[.int .i64 d,.bool b]):=by kernel_rfl
theorem eq_nil (a:Option Addr) (n c:Nat):binV Try.prog .eql 22 (.slice a n c) (.slice none 0 0)=some (.bool a.isNone):=by kernel_rfl
theorem oc_ints (l:List Int):oc (ints l):=fun v hv=>by
 obtain ⟨n,_,rfl⟩:=List.mem_map.1 hv
 rfl
set_option maxHeartbeats 400000 in
set_option maxRecDepth 8000 in
theorem init_any (m d:Nat) (hd:DOk d) (w:World) (wm:wok w m 11) (hr:Row w m 7 [.int .i64 0,.int .i64 0,.int .i64 0,.int .i64 0]) :
  CallK Try.prog 114 #[ptr m,.int .i64 d] w fun _ w'=>Ext (fun y o=>y=m/\(o=4\/o=5\/o=9\/o=10)) w w'/\rd w' m 10=some (.int .i64 (degOf d-1:Nat))/\rd w' m 9=some (.int .i64 (2*degOf d-1:Nat)) ∧
   rd w' m 4=some (.bool false)/\rd w' m 5=some (.bool false)/\w'.heap.size=w.heap.size:=by
 have hz:rdA w m 7 2=some (itV zIt):=(hr.take 2).rdA 2 (by decide)
 simp only [Row.cons] at hr
 obtain ⟨g7,g8,g9,g10,-⟩:=hr
 refine calls_of_W [] Try.func114 rfl Try.ntmps114 Try.results114 (by simp) fun e he=>?_
 have e0:e 0=ptr m:=he 0 _ rfl
 have e1:e 1 = .int .i64 d:=he 1 _ rfl
 clear he
 have t1:((0:Int) != 0)=false:=by simp
 refine W_seq ?_
 refine W_sq fun K hK=>(W_text [true,true,true,true,true] (by kernel_rfl) ?_);simp only [↓zZ1,↓reduceIte,Nat.reduceEqDiff,rg,ow_114,e0,ptr_eq,g10,t1]
 apply hK;clear hK K
 refine W_false (by simp only [zZ2,Nat.reduceEqDiff,↓reduceIte,zZ3]<;>rfl) (W_skip ?_)
 show W _ _ _ _ _ _
 refine W_sq fun K hK=>(W_text [true,true,true,false,true,true,true,true,true,false,true,true,false] (by kernel_rfl) ?_);simp only [↓zZ1,↓reduceIte,Nat.reduceEqDiff,rg,ow_114,e0,e1,ptr_eq]
 refine do_call fn_149 (by simp only [zZ2,Nat.reduceEqDiff,↓reduceIte,zZ4]<;>rfl) (minmax_any d hd w) ?_
 rintro _ _ ⟨rfl,rfl⟩
 refine ⟨trivial,?_⟩
 simp only [↓zZ1,↓reduceIte,Nat.reduceEqDiff,rg,ow_114,ptr_eq]
 refine do_store (by simp only [zZ2,Nat.reduceEqDiff,↓reduceIte,zZ3]<;>rfl) (by simp only [zZ2,Nat.reduceEqDiff,↓reduceIte,zZ3]<;>rfl) sz_3 rfl wm (by decide) (oc_one rfl rfl) fun w1 x1 r1 s1=>⟨trivial,?_⟩
 simp only [↓zZ1,↓reduceIte,Nat.reduceEqDiff,rg,ow_114,ptr_eq]
 refine do_store (by simp only [zZ2,Nat.reduceEqDiff,↓reduceIte,zZ3]<;>rfl) (by simp only [zZ2,Nat.reduceEqDiff,↓reduceIte,zZ3]<;>rfl) sz_3 rfl (x1.wok wm) (by decide) (oc_one rfl rfl) fun w2 x2 r2 s2=>⟨trivial,?_⟩
 simp only [↓zZ1,↓reduceIte,Nat.reduceEqDiff,rg,ow_114]
 apply hK;clear hK K
 have Z:∀ {u:World} {G:Nat->Nat->Prop},Ext G w u->(∀ o,G m o->o ≠ 7/\o ≠ 8)->rdA u m 7 2=some (itV zIt):=fun hx hG =>
  (hx.row (show Row w m 7 [.int .i64 0,.int .i64 0] from Row.cons.2 ⟨g7,Row.cons.2 ⟨g8,Row.nil _ _ _⟩⟩) fun j hj g=>by have:=hG _ g;simp at hj;omega).rdA 2 (by decide)
 have X2:Ext (fun y o=>y=m/\(o=4\/o=5\/o=9\/o=10)) w w2:=x1.trans x2 (fun y o g=>by simp only [rng] at g;omega) fun y o _ g=>by simp only [rng] at g;omega
 have z2:=Z X2 fun o g=>by omega
 have n1:=tas_no (P:=Try.prog) _ _ (itV zIt) _ co_218 la_cv
 have n2:=tas_no (P:=Try.prog) _ _ (itV zIt) _ co_221 la_ci
 refine W_sq fun K hK=>(W_text [true,true,true,true,true,true,true,true,true,true,true,true,false] (by kernel_rfl) ?_);simp only [↓zZ1,↓reduceIte,Nat.reduceEqDiff,rg,ow_114,e0,ptr_eq,z2,n1]
 refine do_store (by simp only [zZ2,Nat.reduceEqDiff,↓reduceIte,zZ3]<;>rfl) (by simp only [zZ2,Nat.reduceEqDiff,↓reduceIte,zZ3]<;>rfl) sz_4 rfl (x2.wok (x1.wok wm)) (by decide) (oc_one rfl rfl) fun w3 x3 r3 s3=>⟨trivial,?_⟩
 simp only [↓zZ1,↓reduceIte,Nat.reduceEqDiff,rg,ow_114]
 apply hK;clear hK K
 have g8':rd w3 m 4=some (.bool false):=(Row.cons.1 r3).1
 have X3:Ext (fun y o=>y=m/\(o=4\/o=5\/o=9\/o=10)) w w3:=X2.trans x3 (fun _ _ g=>g) fun y o _ g=>by simp only [rng] at g;omega
 have z3:=Z X3 fun o g=>by omega
 refine W_sq fun K hK=>(W_text [true,true,true,true,true] (by kernel_rfl) ?_);simp only [↓zZ1,↓reduceIte,Nat.reduceEqDiff,rg,ow_114,e0,ptr_eq,g8']
 apply hK;clear hK K
 refine W_true (by simp only [zZ2,Nat.reduceEqDiff,↓reduceIte,zZ3]<;>rfl) ?_
 refine W_rg fun K hK=>(W_text [true,true,true,true,true,true,true,true,true,true,true,true,false] (by kernel_rfl) ?_);simp only [↓zZ1,↓reduceIte,Nat.reduceEqDiff,rg,ow_114,e0,ptr_eq,z3,n2]
 refine do_store (by simp only [zZ2,Nat.reduceEqDiff,↓reduceIte,zZ3]<;>rfl) (by simp only [zZ2,Nat.reduceEqDiff,↓reduceIte,zZ3]<;>rfl) sz_4 rfl (x3.wok (x2.wok (x1.wok wm))) (by decide) (oc_one rfl rfl) fun w4 x4 r4 s4=>⟨trivial,?_⟩
 simp only [↓zZ1,↓reduceIte,Nat.reduceEqDiff,rg,ow_114]
 apply hK;clear hK K
 have X:Ext (fun y o=>y=m/\(o=4\/o=5\/o=9\/o=10)) w w4:=X3.trans x4 (fun _ _ g=>g) fun y o _ g=>by simp only [rng] at g;omega
 exact endQ_0n ⟨X,x4.rd (x3.rd (x2.rd (Row.cons.1 r1).1 (by simp only [rng];omega)) (by simp only [rng];omega)) (by simp only [rng];omega),x4.rd (x3.rd (Row.cons.1 r2).1 (by simp only [rng];omega)) (by simp only [rng];omega),
  x4.rd g8' (by simp only [rng];omega),(Row.cons.1 r4).1,by rw [s4,s3,s2,s1]⟩
set_option maxRecDepth 8000 in
theorem newIso_any (c:Nat) (w:World) (wc:wok w c 1) (h0:rd w c 0=some (.int .u64 0)) :
  CallK Try.prog 113 #[ptr c] w fun v w'=>v = .int .u64 1/\Ext (rng c 0 1) w w'/\w'.heap.size=w.heap.size:=by
 refine calls_of_W [.tmp 2] Try.func113 rfl Try.ntmps113 Try.results113 (by simp) fun e he=>?_
 have e0:e 0=ptr c:=he 0 _ rfl
 clear he
 have q:IntKind.u64.wrap (0+1)=1:=rfl
 refine W_sq fun K hK=>(W_text [true] (by kernel_rfl) ?_);simp only [↓zZ1,↓reduceIte,Nat.reduceEqDiff,rg,ow_113]
 apply hK;clear hK K
 refine W_sq fun K hK=>(W_text [true,true,true,true,true,false] (by kernel_rfl) ?_);simp only [↓zZ1,↓reduceIte,Nat.reduceEqDiff,rg,ow_113,e0,ptr_eq,h0,q]
 refine do_store (by simp only [zZ2,Nat.reduceEqDiff,↓reduceIte,zZ3]<;>rfl) (by simp only [zZ2,Nat.reduceEqDiff,↓reduceIte,zZ3]<;>rfl) sz_153 rfl wc (by decide) (oc_one rfl rfl) fun w1 x1 r1 s1=>⟨trivial,?_⟩
 simp only [↓zZ1,↓reduceIte,Nat.reduceEqDiff,rg,ow_113]
 apply hK;clear hK K
 have d0:rd w1 c 0=some (.int .u64 1):=(Row.cons.1 r1).1
 refine W_sq fun K hK=>(W_text [true,true,true,true] (by kernel_rfl) ?_);simp only [↓zZ1,↓reduceIte,Nat.reduceEqDiff,rg,ow_113,e0,ptr_eq,d0]
 apply hK;clear hK K
 exact W_ret (endQ_1 (by simp only [upd_eq,Nat.reduceEqDiff,↓reduceIte]<;>rfl) ⟨rfl,x1,s1⟩)
set_option maxHeartbeats 400000 in
set_option maxRecDepth 8000 in
theorem newTree_any (B d:Nat) (ord:List Int) (lv:Value) (nl:Bool) (hd:DOk d) (w:World) (hL:LessAt B w.heap.size w lv ord) (hB:B<=w.heap.size) :
  CallK Try.prog 74 #[lv,.agg #[.int .i64 d,.bool nl]] w fun v w'=>∃ m,v=ptr m/\w.heap.size<=m/\Ext noF w w'/\TreeAt B ord w' m (degOf d) 1 [] ⟨noF,.nd [] []⟩:=by
 obtain ⟨cc,sv,rfl,-⟩:=id hL.ex
 obtain ⟨lv,hlv⟩:∃ lv:Value,lv = .func (.func 116) #[] #[ptr cc]:=⟨_,rfl⟩
 have h1c:lv.cells.toList=[lv]:=by rw [hlv];rfl
 have h1o:lv.oneCell'=true:=by rw [hlv];rfl
 rw [<-hlv] at hL ⊢
 refine calls_of_W [.tmp 4] Try.func74 rfl Try.ntmps74 Try.results74 (by simp) fun e he=>?_
 have e0:e 0=lv:=he 0 _ rfl
 have e1:e 1 = .agg #[.int .i64 d,.bool nl]:=he 1 _ rfl
 clear he
 refine W_sq fun K hK=>(W_text [false,true] (by kernel_rfl) ?_);simp only [↓zZ1,↓reduceIte,Nat.reduceEqDiff,rg,ow_74]
 refine do_box (by simp only [evt];exact e1) fun w1 n1=>⟨trivial,?_⟩
 simp only [↓zZ1,↓reduceIte,Nat.reduceEqDiff,rg,ow_74]
 apply hK;clear hK K
 have s1:=n1.size
 have op1:rd w1 w.heap.size 0=some (.int .i64 d):=(Row.cons.1 n1.row).1
 refine W_sq fun K hK=>(W_text [false,true] (by kernel_rfl) ?_);simp only [↓zZ1,↓reduceIte,Nat.reduceEqDiff,rg,ow_74]
 refine do_alloc z_tree fun w2 n2=>⟨trivial,?_⟩
 simp only [↓zZ1,↓reduceIte,Nat.reduceEqDiff,rg,ow_74]
 apply hK;clear hK K
 have s2:=n2.size
 have r2:=n2.row
 obtain ⟨m,hm⟩:∃ m,m=w1.heap.size:=⟨_,rfl⟩
 have wm2:wok w2 m 11:=by rw [hm];exact n2.wok
 rw [<-hm] at r2 ⊢
 refine W_sq fun K hK=>(W_text [true,false,true,true,false] (by kernel_rfl) ?_);simp only [↓zZ1,↓reduceIte,Nat.reduceEqDiff,rg,ow_74]
 refine do_alloc z_u64 fun w3 n3=>⟨trivial,?_⟩
 simp only [↓zZ1,↓reduceIte,Nat.reduceEqDiff,rg,ow_74]
 have s3:=n3.size
 obtain ⟨c,hc⟩:∃ c,c=w2.heap.size:=⟨_,rfl⟩
 have wc3:wok w3 c 1:=by rw [hc];exact n3.wok
 have c3:rd w3 c 0=some (.int .u64 0):=by rw [hc];exact (Row.cons.1 n3.row).1
 have hcm:c ≠ m:=by omega
 rw [<-hc]
 refine do_store (by simp only [zZ2,Nat.reduceEqDiff,↓reduceIte,zZ3]<;>rfl) (by simp only [zZ2,Nat.reduceEqDiff,↓reduceIte,zZ3]<;>rfl) sz_154 rfl (n3.ext.wok wm2) (by decide) (oc_one rfl rfl) fun w4 x4 r4 s4=>⟨trivial,?_⟩
 simp only [↓zZ1,↓reduceIte,Nat.reduceEqDiff,rg,ow_74]
 apply hK;clear hK K
 have rc4:rd w4 m 1=some (.pointer (some ⟨c,0,none⟩)):=(Row.cons.1 r4).1
 have X34:Ext (fun y o=>y=m/\o<=1\/y=c) w2 w4:=n3.ext.trans x4 (fun _ _ g=>g.elim) fun y o _ g=>by simp only [rng] at g;omega
 refine W_sq fun K hK=>(W_text [true,true,true,true,true,false,true,true,false] (by kernel_rfl) ?_);simp only [↓zZ1,↓reduceIte,Nat.reduceEqDiff,rg,ow_74,ptr_eq,rc4]
 refine do_call fn_113 (by simp only [zZ2,Nat.reduceEqDiff,↓reduceIte,zZ4]<;>rfl) (newIso_any c w4 (x4.wok wc3) (x4.rd c3 (by simp only [rng];omega))) ?_
 rintro _ w5 ⟨rfl,x5,s5⟩
 refine ⟨trivial,?_⟩
 simp only [↓zZ1,↓reduceIte,Nat.reduceEqDiff,rg,ow_74]
 have wm5:=x5.wok (x4.wok (n3.ext.wok wm2))
 refine do_store (by simp only [zZ2,Nat.reduceEqDiff,↓reduceIte,zZ3]<;>rfl) (by simp only [zZ2,Nat.reduceEqDiff,↓reduceIte,zZ3]<;>rfl) sz_153 rfl wm5 (by decide) (oc_one rfl rfl) fun w6 x6 r6 s6=>⟨trivial,?_⟩
 simp only [↓zZ1,↓reduceIte,Nat.reduceEqDiff,rg,ow_74]
 apply hK;clear hK K
 have X6:Ext (fun y o=>y=m/\o<=1\/y=c) w2 w6:=(X34.trans x5 (fun _ _ g=>g) fun y o _ g=>by simp only [rng] at g;omega).trans x6 (fun _ _ g=>g) fun y o _ g=>by simp only [rng] at g;omega
 have wm6:=x6.wok wm5
 refine W_sq fun K hK=>(W_text [true,true,true,true,false] (by kernel_rfl) ?_);simp only [↓zZ1,↓reduceIte,Nat.reduceEqDiff,rg,ow_74,e0]
 refine do_store (by simp only [zZ2,Nat.reduceEqDiff,↓reduceIte,zZ3]<;>rfl) (by simp only [zZ2,Nat.reduceEqDiff,↓reduceIte,zZ3]<;>rfl) sz_112 (by rw [h1c];rfl) wm6 (by decide) (by rw [h1c];exact oc_one rfl h1o) fun w7 x7 r7 s7=>⟨trivial,?_⟩
 simp only [↓zZ1,↓reduceIte,Nat.reduceEqDiff,rg,ow_74]
 apply hK;clear hK K
 have r7:rd w7 m 6=some lv:=by have:=r7;rw [h1c] at this;exact (Row.cons.1 this).1
 have X7:Ext (fun y o=>y=m/\(o<=1\/o=6)\/y=c) w2 w7:=X6.trans x7 (fun y o g=>by omega) fun y o _ g=>by simp only [rng] at g;omega
 have op7:rd w7 w.heap.size 0=some (.int .i64 d):=X7.rd (n2.ext.rd op1 fun h=>h) fun g=>by omega
 refine W_sq fun K hK=>(W_text [true,true,true,false] (by kernel_rfl) ?_);simp only [↓zZ1,↓reduceIte,Nat.reduceEqDiff,rg,ow_74,op7]
 refine do_call fn_114 (by simp only [zZ2,Nat.reduceEqDiff,↓reduceIte,zZ4]<;>rfl) (init_any m d hd w7 (x7.wok wm6) (X7.row ((r2.drop 7).of_eq (by omega) rfl) fun j _ g=>by omega)) ?_
 rintro _ w8 ⟨x8,g10,g9,g4,g5,s8⟩
 refine ⟨trivial,?_⟩
 simp only [↓zZ1,↓reduceIte,Nat.reduceEqDiff,rg,ow_74]
 apply hK;clear hK K
 refine W_sq fun K hK=>(W_text [true,true] (by kernel_rfl) ?_);simp only [↓zZ1,↓reduceIte,Nat.reduceEqDiff,rg,ow_74]
 apply hK;clear hK K
 have r2':=r2
 simp only [Row.cons] at r2'
 obtain ⟨h0,h1,h2,h3,h4,h5,h6,h7,h8,h9,h10,-⟩:=r2'
 have X18:Ext noF w w8:=noF_of (noF_of (n1.ext.tr n2.ext) X7 fun y o hy g=>by omega) x8 fun y o hy g=>by omega
 have hL8:LessAt B m w8 lv ord:=(hL.ext X18 fun _ _ g=>g.elim).mono (by omega)
 have is8:rd w8 m 0=some (.int .u64 1):=x8.rd (x7.rd (Row.cons.1 r6).1 (by simp only [rng];omega)) (by omega)
 have ez8:Row w8 m 7 (E.cel zIt):=x8.row (X7.row (((r2.drop 7).take 2).of_eq (by omega) rfl) fun j _ g=>by omega) fun j hj g=>by have:(E.cel zIt).length=2:=rfl;omega
 refine W_ret (endQ_1 (by simp only [upd_eq,Nat.reduceEqDiff,↓reduceIte]<;>rfl) ⟨m,rfl,by omega,X18,⟨is8,ez8,g10,g9,g4,g5,x8.wok (x7.wok wm6)⟩,⟨lv,x8.rd r7 (by omega),hL8,by omega⟩,x8.rd (X7.rd h3 (by omega)) (by omega),List.Pairwise.nil,.inl ⟨rfl,x8.rd (X7.rd h2 (by omega)) (by omega),rfl⟩,fun _ g=>g,fun _ _ g=>g.elim,fun _ _ g=>g.elim⟩)
def SlInt (w:World) (v:Value) (l:List Int):Prop:=SlV w 1 v l.length (ints l)
set_option maxHeartbeats 400000 in
set_option maxRecDepth 8000 in
theorem clone_any (sv:Value) (ord:List Int) (w:World) (hs:SlInt w sv ord) (hbig:ord.length<=2147483647) :
  CallK Try.prog 115 #[sv] w fun v w'=>SlInt w' v ord/\Ext noF w w'/\since w.heap.size v:=by
 obtain ⟨a,cp,rfl⟩:=hs.shape
 refine calls_of_W [.tmp 2] Try.func115 rfl Try.ntmps115 Try.results115 (by simp) fun e he=>?_
 have e0:e 0 = .slice a ord.length cp:=he 0 _ rfl
 clear he
 refine W_sq fun K hK=>(W_text [true] (by kernel_rfl) ?_);simp only [↓zZ1,↓reduceIte,Nat.reduceEqDiff,rg,ow_115]
 apply hK;clear hK K
 refine W_seq ?_
 cases a with
 | none =>
  refine W_sq fun K hK=>(W_text [true,true] (by kernel_rfl) ?_);simp only [↓zZ1,↓reduceIte,Nat.reduceEqDiff,rg,ow_115,e0,eq_nil]
  apply hK;clear hK K
  refine W_true (by simp only [zZ2,Nat.reduceEqDiff,↓reduceIte,zZ3]<;>rfl) ?_
  refine W_sq fun K hK=>(W_text [true] (by kernel_rfl) ?_);simp only [↓zZ1,↓reduceIte,Nat.reduceEqDiff,rg,ow_115]
  apply hK;clear hK K
  refine W_ret ?_
  simp only [andThen_ret]
  refine endQ_1 (by simp only [upd_eq,Nat.reduceEqDiff,↓reduceIte]<;>rfl) ⟨?_,Ext.refl _ _,fun b o n c h=>by cases h⟩
  have h0:ord=[]:=by
   rcases hs.2 with ⟨_,h⟩ | ⟨b,o,cap,h,_⟩
   ·exact List.length_eq_zero_iff.1 h
   ·cases h
  subst h0
  exact ⟨rfl,.inl ⟨rfl,rfl⟩⟩
 | some a =>
  refine W_sq fun K hK=>(W_text [true,true] (by kernel_rfl) ?_);simp only [↓zZ1,↓reduceIte,Nat.reduceEqDiff,rg,ow_115,e0,eq_nil]
  apply hK;clear hK K
  refine W_false (by simp only [zZ2,Nat.reduceEqDiff,↓reduceIte,zZ3]<;>rfl) (W_skip ?_)
  show W _ _ _ _ _ _
  refine W_sq fun K hK=>(W_text [false,true,false,true] (by kernel_rfl) ?_);simp only [↓zZ1,↓reduceIte,Nat.reduceEqDiff,rg,ow_115,e0]
  refine do_bsl rfl bs_int0 fun w1 n1=>⟨trivial,?_⟩
  simp only [↓zZ1,↓reduceIte,Nat.reduceEqDiff,rg,ow_115,e0]
  have hv:SlV w1 1 (.slice (some ⟨w.heap.size,0,none⟩) 0 0) 0 []:=⟨rfl,.inr ⟨_,0,0,rfl,Nat.le_refl _,Row.nil _ _ _,n1.wok.R (Nat.le_refl _)⟩⟩
  refine do_append (by simp only [zZ2,Nat.reduceEqDiff,↓reduceIte,zZ3]<;>rfl) (by simp only [zZ2,Nat.reduceEqDiff,↓reduceIte,zZ3]<;>rfl) el_int rfl ni_22 hv (hs.ext0 n1.ext) (by omega) (by decide) (oc_ints _) fun v2 w2 a2=>⟨trivial,?_⟩
  simp only [↓zZ1,↓reduceIte,Nat.reduceEqDiff,rg,ow_115]
  apply hK;clear hK K
  obtain ⟨h1,h2,h3⟩:=app_since a2 (B:=w.heap.size) (fun b o n c h=>by cases h;exact Nat.le_refl _) (by have:=n1.size;omega)
  rw [Nat.zero_add,List.nil_append] at h1
  refine W_ret (endQ_1 (by simp only [upd_eq,Nat.reduceEqDiff,↓reduceIte]<;>rfl) ⟨h1,noF_of n1.ext h3 fun y o hy g=>by omega,h2⟩)
set_option maxHeartbeats 400000 in
set_option maxRecDepth 8000 in
theorem before0_any (sv:Value) (ord:List Int) (w:World) (hs:SlInt w sv ord) (hbig:ord.length<=2147483647) :
  CallK Try.prog 75 #[sv] w fun v w'=>Ext noF w w'/\LessAt w.heap.size w'.heap.size w' v ord:=by
 refine calls_of_W [.tmp 2] Try.func75 rfl Try.ntmps75 Try.results75 (by simp) fun e he=>?_
 have e0:e 0=sv:=he 0 _ rfl
 clear he
 refine W_sq fun K hK=>(W_text [true] (by kernel_rfl) ?_);simp only [↓zZ1,↓reduceIte,Nat.reduceEqDiff,rg,ow_75]
 apply hK;clear hK K
 refine W_sq fun K hK=>(W_text [true,false,false,false] (by kernel_rfl) ?_);simp only [↓zZ1,↓reduceIte,Nat.reduceEqDiff,rg,ow_75,e0]
 refine do_call fn_115 (by simp only [zZ2,Nat.reduceEqDiff,↓reduceIte,zZ4]<;>rfl) (clone_any sv ord w hs hbig) ?_
 rintro v1 w1 ⟨h1,x1,hsi⟩
 refine ⟨trivial,?_⟩
 simp only [↓zZ1,↓reduceIte,Nat.reduceEqDiff,rg,ow_75]
 refine do_alloc z_ints fun w2 n2=>⟨trivial,?_⟩
 simp only [↓zZ1,↓reduceIte,Nat.reduceEqDiff,rg,ow_75]
 obtain ⟨a,cp,rfl⟩:=h1.shape
 refine do_store (by simp only [zZ2,Nat.reduceEqDiff,↓reduceIte,zZ3]<;>rfl) (by simp only [zZ2,Nat.reduceEqDiff,↓reduceIte,zZ3]<;>rfl) sz_22 rfl n2.wok (by decide) (oc_one rfl rfl) fun w3 x3 r3 s3=>⟨trivial,?_⟩
 simp only [↓zZ1,↓reduceIte,Nat.reduceEqDiff,rg,ow_75]
 apply hK;clear hK K
 refine W_sq fun K hK=>(W_text [true,true] (by kernel_rfl) ?_);simp only [↓zZ1,↓reduceIte,Nat.reduceEqDiff,rg,ow_75]
 apply hK;clear hK K
 have X3:Ext noF w1 w3:=noF_of n2.ext x3 fun y o hy g=>by simp only [rng] at g;omega
 have s2:=n2.size
 refine W_ret (endQ_1 (by simp only [upd_eq,Nat.reduceEqDiff,↓reduceIte]<;>rfl) ⟨x1.tr X3,⟨⟨w1.heap.size,_,rfl,⟨x1.size,by omega⟩,(Row.cons.1 r3).1,h1.ext0 X3,fun b o n c h=>?_⟩,hbig⟩⟩)
 have:=h1.lt h
 have:=hsi _ _ _ _ h
 have:=X3.size
 omega
set_option maxHeartbeats 400000 in
set_option maxRecDepth 8000 in
theorem options_any (sv:Value) (d:Int) (nl:Bool) (w:World) (h1:sv.oneCell'=true) :
  CallK Try.prog 76 #[.agg #[sv,.int .i64 d,.bool nl]] w fun v w'=>v = .agg #[.int .i64 d,.bool nl]/\Ext noF w w':=by
 refine calls_of_W [.cell 2 138] Try.func76 rfl Try.ntmps76 Try.results76 (by simp) fun e he=>?_
 have e0:e 0 = .agg #[sv,.int .i64 d,.bool nl]:=he 0 _ rfl
 clear he
 refine W_sq fun K hK=>(W_text [false,false] (by kernel_rfl) ?_);simp only [↓zZ1,↓reduceIte,Nat.reduceEqDiff,rg,ow_76]
 refine do_box (by simp only [evt];exact e0) fun w1 n1=>⟨trivial,?_⟩
 simp only [↓zZ1,↓reduceIte,Nat.reduceEqDiff,rg,ow_76]
 refine do_alloc z_opt fun w2 n2=>⟨trivial,?_⟩
 simp only [↓zZ1,↓reduceIte,Nat.reduceEqDiff,rg,ow_76]
 apply hK;clear hK K
 have s1:=n1.size
 have r2:Row w2 w.heap.size 0 [sv,.int .i64 d,.bool nl]:=n2.ext.row n1.row fun _ _ h=>h
 simp only [Row.cons] at r2
 obtain ⟨-,g1,g2,-⟩:=r2
 refine W_sq fun K hK=>(W_text [true,true,true,true,true,false] (by kernel_rfl) ?_);simp only [↓zZ1,↓reduceIte,Nat.reduceEqDiff,rg,ow_76,g1,g2,bu_opt]
 refine do_store (by simp only [zZ2,Nat.reduceEqDiff,↓reduceIte,zZ3]<;>rfl) (by simp only [zZ2,Nat.reduceEqDiff,↓reduceIte,zZ3]<;>rfl) sz_138 rfl n2.wok (by decide) (by intro v hv;simp [Value.cells] at hv;rcases hv with rfl | rfl<;>rfl) fun w3 x3 r3 s3=>⟨trivial,?_⟩
 simp only [↓zZ1,↓reduceIte,Nat.reduceEqDiff,rg,ow_76]
 apply hK;clear hK K
 refine W_ret (endQ_c (by simp only [upd_eq,Nat.reduceEqDiff,↓reduceIte]<;>rfl) ld_opt (Row.rdA (l:=[.int .i64 d,.bool nl]) r3 2 (Nat.le_refl _)) ⟨rfl,noF_of (n1.ext.tr n2.ext) x3 fun y o hy g=>by simp only [rng] at g;omega⟩)
theorem set_tree (B m d:Nat) (iso:Int) (ord:List Int) (x:It) (hd:2<=d) (hd':d<=128) (xs:List It) (F:FS It) (w:World) (hM:TreeAt B ord w m d iso xs F) (hbig:xs.length<1152921504606846976) :
  CallK Try.prog 90 #[ptr m,itV x,.pointer none] w fun v w'=>v = .tuple #[itV ((at? O (rkI ord) (rkI ord x) xs).getD zIt),.bool (hit O (rkI ord) (rkI ord x) xs)]/\Ext (mapF m F) w w' ∧
   ∃ F',TreeAt B ord w' m d iso (put O (rkI ord) x xs) F'/\RootR ord d x F.s F'.s/\∀ y o,F' y o->F y o\/w.heap.size<=y:=by
 rcases hM.root with ⟨rfl,hr,hs0⟩ | ⟨h,b,hr,ht⟩
 ·refine CallK_mono (set_nil B m d iso ord x hd hd' w hM.cfg hM.less hr) ?_
  rintro v w' ⟨rfl,hX,F',hM',hs',hF'⟩
  exact ⟨rfl,hX.mono fun y o _ g=>g.imp (fun g=>g.elim) id,F',hM',by rw [hs0,hs'];exact RootR.ok (SetR.leaf (i:=0) rfl rfl (by show ¬ 0=2*d-1;omega)),fun y o g=>.inr (hF' y o g)⟩
 ·exact set_root B m d iso ord x hd hd' _ h b xs F w rfl hM.cfg hM.less hM.above hM.cnt hM.asc hr ht hM.off hbig
set_option maxHeartbeats 400000 in
set_option maxRecDepth 8000 in
theorem setH_tree (B m d:Nat) (iso:Int) (ord:List Int) (x:It) (hd:2<=d) (hd':d<=128) (xs:List It) (F:FS It) (w:World) (hM:TreeAt B ord w m d iso xs F) (hbig:xs.length<1152921504606846976) :
  CallK Try.prog 56 #[ptr m,itV x,.pointer none] w fun v w'=>v = .tuple #[itV ((at? O (rkI ord) (rkI ord x) xs).getD zIt),.bool (hit O (rkI ord) (rkI ord x) xs)]/\Ext (mapF m F) w w' ∧
   ∃ F',TreeAt B ord w' m d iso (put O (rkI ord) x xs) F'/\RootR ord d x F.s F'.s/\∀ y o,F' y o->F y o\/w.heap.size<=y:=by
 have hml:=hM.mlt
 refine calls_of_W [.cell 6 33,.tmp 7] Try.func56 rfl Try.ntmps56 Try.results56 (by simp) fun e he=>?_
 have e0:e 0=ptr m:=he 0 _ rfl
 have e1:e 1=itV x:=he 1 _ rfl
 have e2:e 2 = .pointer none:=he 2 _ rfl
 clear he
 refine W_sq fun K hK=>(W_text [false,false,true] (by kernel_rfl) ?_);simp only [↓zZ1,↓reduceIte,Nat.reduceEqDiff,rg,ow_56]
 refine do_box (by simp only [evt];exact e1) fun w1 n1=>⟨trivial,?_⟩
 simp only [↓zZ1,↓reduceIte,Nat.reduceEqDiff,rg,ow_56]
 refine do_alloc z_it fun w2 n2=>⟨trivial,?_⟩
 simp only [↓zZ1,↓reduceIte,Nat.reduceEqDiff,rg,ow_56]
 apply hK;clear hK K
 have s1:=n1.size
 have s2:=n2.size
 have X2:Ext noF w w2:=n1.ext.tr n2.ext
 have ix:=iX_at (n2.ext.row (show Row w1 w.heap.size 0 (E.cel x) from n1.row) fun _ _ h=>h)
 refine W_sq fun K hK=>(W_text [true,true,true,false,true,true,true,false,true] (by kernel_rfl) ?_);simp only [↓zZ1,↓reduceIte,Nat.reduceEqDiff,rg,ow_56,e0,e2,ix]
 refine do_call fn_90 (by simp only [zZ2,Nat.reduceEqDiff,↓reduceIte,zZ4]<;>rfl) (set_tree B m d iso ord x hd hd' xs F w2 (hM.ext X2) hbig) ?_
 rintro _ w3 ⟨rfl,x3,F',hM',hR,hF'⟩
 refine ⟨trivial,?_⟩
 simp only [↓zZ1,↓reduceIte,Nat.reduceEqDiff,rg,ow_56]
 have hq:∀ o,¬ mapF m F w1.heap.size o:=fun o g=>by
  rcases g with g | g
  ·have:=hM.lt _ _ g;omega
  ·omega
 have s3:=x3.size
 have hF2:∀ y o,F' y o->y ≠ w1.heap.size:=fun y o g k=>by
  subst k
  rcases hF' _ o g with g | g
  ·exact hq o (.inl g)
  ·omega
 refine do_store (by simp only [zZ2,Nat.reduceEqDiff,↓reduceIte,zZ3]<;>rfl) (by simp only [zZ2,Nat.reduceEqDiff,↓reduceIte,zZ3]<;>rfl) sz_33 (itV_len _) (x3.wok n2.wok) (by decide) (itV_oc _) fun w4 x4 r4 s4=>⟨trivial,?_⟩
 simp only [↓zZ1,↓reduceIte,Nat.reduceEqDiff,rg,ow_56]
 apply hK;clear hK K
 have iv:=iX_at (show Row w4 w1.heap.size 0 (E.cel ((at? O (rkI ord) (rkI ord x) xs).getD zIt)) from r4)
 refine W_sq fun K hK=>(W_text [true,true,false,true] (by kernel_rfl) ?_);simp only [↓zZ1,↓reduceIte,Nat.reduceEqDiff,rg,ow_56,iv]
 refine do_store (by simp only [zZ2,Nat.reduceEqDiff,↓reduceIte,zZ3]<;>rfl) (by simp only [zZ2,Nat.reduceEqDiff,↓reduceIte,zZ3]<;>rfl) sz_33 (itV_len _) (x4.wok (x3.wok n2.wok)) (by decide) (itV_oc _) fun w5 x5 r5 s5=>⟨trivial,?_⟩
 simp only [↓zZ1,↓reduceIte,Nat.reduceEqDiff,rg,ow_56]
 apply hK;clear hK K
 have x45:Ext (rng w1.heap.size 0 2) w3 w5:=x4.tr x5
 refine W_ret (endQ_ct (by simp only [upd_eq,Nat.reduceEqDiff,↓reduceIte]<;>rfl) (by simp only [upd_eq,Nat.reduceEqDiff,↓reduceIte]<;>rfl) ld_33 (iX_at (show Row w5 w1.heap.size 0 (E.cel ((at? O (rkI ord) (rkI ord x) xs).getD zIt)) from r5)) ⟨rfl,(X2.trans x3 (fun _ _ g=>g.elim) fun _ _ _ g=>g).trans x45 (fun _ _ g=>g) fun y o hy g=>by simp only [rng] at g;omega,F',
  hM'.extG x45 (fun y o g k=>hF2 y o g k.1) (fun y o g=>by simp only [rng] at g;omega),hR,fun y o g=>(hF' y o g).imp id fun g=>by omega⟩)
set_option maxHeartbeats 400000 in
set_option maxRecDepth 8000 in
theorem setG_any (B m d:Nat) (iso:Int) (ord:List Int) (x:It) (hd:2<=d) (hd':d<=128) (xs:List It) (F:FS It) (w:World) (hM:TreeAt B ord w m d iso xs F) (hbig:xs.length<1152921504606846976) :
  CallK Try.prog 55 #[ptr m,itV x] w fun v w'=>v = .tuple #[itV ((at? O (rkI ord) (rkI ord x) xs).getD zIt),.bool (hit O (rkI ord) (rkI ord x) xs)]/\Ext (mapF m F) w w' ∧
   ∃ F',TreeAt B ord w' m d iso (put O (rkI ord) x xs) F'/\RootR ord d x F.s F'.s/\∀ y o,F' y o->F y o\/w.heap.size<=y:=by
 have hml:=hM.mlt
 refine calls_of_W [.cell 4 33,.tmp 5] Try.func55 rfl Try.ntmps55 Try.results55 (by simp) fun e he=>?_
 have e0:e 0=ptr m:=he 0 _ rfl
 have e1:e 1=itV x:=he 1 _ rfl
 clear he
 refine W_sq fun K hK=>(W_text [false,false,true] (by kernel_rfl) ?_);simp only [↓zZ1,↓reduceIte,Nat.reduceEqDiff,rg,ow_55]
 refine do_box (by simp only [evt];exact e1) fun w1 n1=>⟨trivial,?_⟩
 simp only [↓zZ1,↓reduceIte,Nat.reduceEqDiff,rg,ow_55]
 refine do_alloc z_it fun w2 n2=>⟨trivial,?_⟩
 simp only [↓zZ1,↓reduceIte,Nat.reduceEqDiff,rg,ow_55]
 apply hK;clear hK K
 have s1:=n1.size
 have s2:=n2.size
 have X2:Ext noF w w2:=n1.ext.tr n2.ext
 have ix:=iX_at (n2.ext.row (show Row w1 w.heap.size 0 (E.cel x) from n1.row) fun _ _ h=>h)
 refine W_sq fun K hK=>(W_text [true,true,false,true,true,false,true] (by kernel_rfl) ?_);simp only [↓zZ1,↓reduceIte,Nat.reduceEqDiff,rg,ow_55,e0,ix]
 refine do_call fn_56 (by simp only [zZ2,Nat.reduceEqDiff,↓reduceIte,zZ4]<;>rfl) (setH_tree B m d iso ord x hd hd' xs F w2 (hM.ext X2) hbig) ?_
 rintro _ w3 ⟨rfl,x3,F',hM',hR,hF'⟩
 refine ⟨trivial,?_⟩
 simp only [↓zZ1,↓reduceIte,Nat.reduceEqDiff,rg,ow_55]
 have s3:=x3.size
 have hF2:∀ y o,F' y o->y ≠ w1.heap.size:=fun y o g k=>by
  subst k
  rcases hF' _ o g with g | g
  ·have:=hM.lt _ _ g;omega
  ·omega
 refine do_store (by simp only [zZ2,Nat.reduceEqDiff,↓reduceIte,zZ3]<;>rfl) (by simp only [zZ2,Nat.reduceEqDiff,↓reduceIte,zZ3]<;>rfl) sz_33 (itV_len _) (x3.wok n2.wok) (by decide) (itV_oc _) fun w4 x4 r4 s4=>⟨trivial,?_⟩
 simp only [↓zZ1,↓reduceIte,Nat.reduceEqDiff,rg,ow_55]
 apply hK;clear hK K
 refine W_ret (endQ_ct (by simp only [upd_eq,Nat.reduceEqDiff,↓reduceIte]<;>rfl) (by simp only [upd_eq,Nat.reduceEqDiff,↓reduceIte]<;>rfl) ld_33 (iX_at (show Row w4 w1.heap.size 0 (E.cel ((at? O (rkI ord) (rkI ord x) xs).getD zIt)) from r4)) ⟨rfl,(X2.trans x3 (fun _ _ g=>g.elim) fun _ _ _ g=>g).trans x4 (fun _ _ g=>g) fun y o hy g=>by simp only [rng] at g;omega,F',
  hM'.extG x4 (fun y o g k=>hF2 y o g k.1) (fun y o g=>by simp only [rng] at g;omega),hR,fun y o g=>(hF' y o g).imp id fun g=>by omega⟩)
def treeG (ord:List Int) (l:List It):List It:=l.foldl (fun xs x=>put O (rkI ord) x xs) []
theorem treeG_succ (ord:List Int) (l:List It) (i:Nat) (x:It) (h:l[i]? = some x):treeG ord (l.take (i+1))=put O (rkI ord) x (treeG ord (l.take i)):=by
 rw [List.take_add_one,h];simp [treeG]
theorem treeG_len (ord:List Int) (l:List It):(treeG ord l).length<=l.length:=by
 have:∀ (l:List It) (xs:List It),(l.foldl (fun xs x=>put O (rkI ord) x xs) xs).length<=xs.length+l.length:=by
  intro l
  induction l with
  | nil=>intro xs;simp
  | cons x l ih=>intro xs;have h1:=ih (put O (rkI ord) x xs);have h2:=put_length O (rkI ord) x xs;simp only [List.foldl_cons,List.length_cons];split at h2<;>omega
 have h:=this l []
 simp only [List.length_nil,Nat.zero_add] at h
 exact h
def mkV (sv:Value) (d:Nat) (nl:Bool):Value:=.agg #[sv,.int .i64 d,.bool nl]
set_option maxHeartbeats 800000 in
set_option maxRecDepth 8000 in
theorem growG_low (d:Nat) (hd:DOk d) (ord:List Int) (sv:Value) (nl:Bool) (l:List It) (lv:Value) (w:World) (hs:SlInt w sv ord) (hsb:ord.length<=2147483647) (hl:SlI w lv l) (hbig:l.length<=4294967294) :
  CallK Try.prog 43 #[mkV sv d nl,lv] w fun v w'=>Ext noF w w'/\∃ B m F,v=ptr m/\TreeAt B ord w' m (degOf d) 1 (treeG ord l) F/\w.heap.size<=m/\(∀ y o,F y o->w.heap.size<=y)/\w.heap.size<=B:=by
 obtain ⟨hd2,hd3⟩:=hd.of
 obtain ⟨sa,sc,rfl⟩:=hs.shape
 refine calls_of_W [.tmp 4] Try.func43 rfl Try.ntmps43 Try.results43 (by simp) fun e he=>?_
 have e0:e 0=mkV (.slice sa ord.length sc) d nl:=he 0 _ rfl
 have e1:e 1=lv:=he 1 _ rfl
 clear he
 refine W_sq fun K hK=>(W_text [false,true] (by kernel_rfl) ?_);simp only [↓zZ1,↓reduceIte,Nat.reduceEqDiff,rg,ow_43]
 refine do_box (by simp only [evt];exact e0) fun w1 n1=>⟨trivial,?_⟩
 simp only [↓zZ1,↓reduceIte,Nat.reduceEqDiff,rg,ow_43]
 apply hK;clear hK K
 have s1:=n1.size
 have rm:Row w1 w.heap.size 0 [.slice sa ord.length sc,.int .i64 d,.bool nl]:=n1.row
 have rm0:=(Row.cons.1 rm).1
 have rm3:rdA w1 w.heap.size 0 3=some (mkV (.slice sa ord.length sc) d nl):=rm.rdA 3 (Nat.le_refl _)
 have M1:readsB (some (some [w.heap.size])) w.heap.size=true:=by simp [readsB]
 refine W_sq fun K hK=>(W_draw (some (some [w.heap.size])) none [(0,0,0),(0,1,0),(0,3,0),(1,2,0),(1,4,0),(1,5,0),(0,6,0)] mixed (by kernel_rfl) ?_);simp only [↓zZ1,↓reduceIte,Nat.reduceEqDiff,rg,ow_43,rm0,rm3,M1]
 refine do_call fn_75 (by simp only [zZ2,Nat.reduceEqDiff,↓reduceIte,zZ4]<;>rfl) (before0_any _ ord _ (SlV.ext0 hs (n1.ext.tr (Ext.dr noF _ _))) hsb) ?_
 rintro lv2 w2 ⟨x2,hL2⟩
 have s2:=x2.size
 refine ⟨.inr (keeps_on x2 fun y hy=>⟨?_,fun _ g=>g⟩),?_⟩
 ·rw [sz_dr]
  simp only [List.mem_cons,List.not_mem_nil,or_false] at hy
  omega
 have x2:=x2.od
 simp only [↓zZ1,↓reduceIte,Nat.reduceEqDiff,rg,ow_43,rm0,rm3,M1]
 refine do_call fn_76 (by simp only [zZ2,Nat.reduceEqDiff,↓reduceIte,zZ4]<;>rfl) (options_any _ d nl w2 rfl) ?_
 rintro _ w3 ⟨rfl,x3⟩
 have s2':=x2.size
 refine ⟨.inr (keeps_on x3 fun y hy=>⟨?_,fun _ g=>g⟩),?_⟩
 ·simp only [List.mem_cons,List.not_mem_nil,or_false] at hy
  omega
 simp only [↓zZ1,↓reduceIte,Nat.reduceEqDiff,rg,ow_43]
 have s3:=x3.size
 refine do_call fn_74 (by simp only [zZ2,Nat.reduceEqDiff,↓reduceIte,zZ4]<;>rfl) (newTree_any w1.heap.size d ord lv2 nl hd w3 ((hL2.ext x3 fun _ _ g=>g.elim).mono s3) (by omega)) ?_
 rintro _ w4 ⟨m,rfl,hm,x4,hT⟩
 refine ⟨.inr (keeps_on x4 fun y hy=>⟨?_,fun _ g=>g⟩),?_⟩
 ·simp only [List.mem_cons,List.not_mem_nil,or_false] at hy
  omega
 simp only [↓zZ1,↓reduceIte,Nat.reduceEqDiff,rg,ow_43]
 apply hK;clear hK K
 have X4:Ext noF w w4:=((n1.ext.tr x2).tr x3).tr x4
 have hB:w.heap.size<=m:=by omega
 clear rm rm0 rm3 n1 x2 x3 x4 hL2 M1
 obtain ⟨a,c,hlv⟩:=SlV.shape hl
 refine W_seq ?_
 refine W_sq fun K hK=>(W_text [true,true,true] (by kernel_rfl) ?_);simp only [↓zZ1,↓reduceIte,Nat.reduceEqDiff,rg,ow_43,e1,hlv]
 apply hK;clear hK K
 refine W_block (W_loop (fun mm e w'=>∃ i:Nat,mm=l.length-i/\i<=l.length/\e 14=lv/\e 5=ptr m/\e 15 = .int .i64 l.length/\e 16 = .int .i64 i/\Ext noF w w'/\∃ F,TreeAt w1.heap.size ord w' m (degOf d) 1 (treeG ord (l.take i)) F/\∀ y o,F y o->w.heap.size<=y)
  l.length ⟨0,by simp,by simp,?_,?_,?_,?_,X4,⟨noF,.nd [] []⟩,hT,fun _ _ h=>h.elim⟩ ?_)
 ·simp only [upd_eq,Nat.reduceEqDiff,↓reduceIte];rw [hlv]
 ·simp only [upd_eq,Nat.reduceEqDiff,↓reduceIte]
 ·simp only [upd_eq,Nat.reduceEqDiff,↓reduceIte]
 ·simp only [upd_eq,Nat.reduceEqDiff,↓reduceIte];rfl
 ·clear X4 hT e0 e1 e
  rintro mm e w' ⟨i,rfl,hi,e10,e5,e11,e12,X,F,hM,hF⟩
  by_cases hlt:i<l.length
  ·have ht:=lt_tt i l.length hlt
   refine W_sq fun K hK=>(W_text [true] (by kernel_rfl) ?_);simp only [↓zZ1,↓reduceIte,Nat.reduceEqDiff,rg,ow_43,e11,e12,ht]
   apply hK;clear hK K
   refine W_seq (W_true (by simp only [zZ2,Nat.reduceEqDiff,↓reduceIte,zZ3]<;>rfl) (W_skip ?_))
   show W _ _ _ _ _ _
   obtain ⟨x,hx⟩:∃ x,l[i]? = some x:=⟨_,List.getElem?_eq_getElem hlt⟩
   obtain ⟨lb,lo,ha,row⟩:=SlV.at hl hlv hlt
   subst ha
   have row':Row w' lb lo (flat E l):=X.row row fun _ _ h=>h
   have ix:=it_at row' hx
   refine W_seq (W_block ?_)
   refine W_sq fun K hK=>(W_text [true,true,false,false] (by kernel_rfl) ?_);simp only [↓zZ1,↓reduceIte,Nat.reduceEqDiff,rg,ow_43,e10,hlv,e12,hlt,ix]
   refine do_alloc z_it fun w5 n5=>⟨trivial,?_⟩
   simp only [↓zZ1,↓reduceIte,Nat.reduceEqDiff,rg,ow_43]
   refine do_store (by simp only [zZ2,Nat.reduceEqDiff,↓reduceIte,zZ3]<;>rfl) (by simp only [zZ2,Nat.reduceEqDiff,↓reduceIte,zZ3]<;>rfl) sz_33 (itV_len x) n5.wok (by decide) (itV_oc x) fun w6 x6 r6 s6=>⟨trivial,?_⟩
   simp only [↓zZ1,↓reduceIte,Nat.reduceEqDiff,rg,ow_43]
   apply hK;clear hK K
   have X6:Ext noF w' w6:=noF_of n5.ext x6 fun y o hy h=>by simp only [rng] at h;omega
   have ix6:=iX_at (show Row w6 w'.heap.size 0 (E.cel x) from r6)
   have htl:=treeG_len ord (l.take i)
   have htk:(l.take i).length<=i:=by rw [List.length_take];omega
   refine W_rg fun K hK=>(W_text [true,true,false] (by kernel_rfl) ?_);simp only [↓zZ1,↓reduceIte,Nat.reduceEqDiff,rg,ow_43,e5,ix6]
   refine do_call fn_55 (by simp only [zZ2,Nat.reduceEqDiff,↓reduceIte,zZ4]<;>rfl) (setG_any w1.heap.size m (degOf d) 1 ord x hd2 hd3 _ F w6 (hM.ext X6) (by omega)) ?_
   rintro v w7 ⟨-,x7,F',hM7,-,hF'⟩
   refine ⟨trivial,?_⟩
   simp only [↓zZ1,↓reduceIte,Nat.reduceEqDiff,rg,ow_43]
   apply hK;clear hK K
   show W _ _ _ _ _ _
   have q1:=wadd1 i (by omega)
   refine W_rg fun K hK=>(W_text [true,true] (by kernel_rfl) ?_);simp only [↓zZ1,↓reduceIte,Nat.reduceEqDiff,rg,ow_43,e12,q1]
   apply hK;clear hK K
   have s3':=X6.size
   have sX:=X.size
   refine ⟨_,?_,i+1,rfl,hlt,?_,?_,?_,?_,?_,F',by rw [treeG_succ ord l i x hx];exact hM7,fun y o g=>?_⟩
   ·omega
   ·simp only [upd_eq,Nat.reduceEqDiff,↓reduceIte];exact e10
   ·simp only [upd_eq,Nat.reduceEqDiff,↓reduceIte];exact e5
   ·simp only [upd_eq,Nat.reduceEqDiff,↓reduceIte];exact e11
   ·simp only [upd_eq,Nat.reduceEqDiff,↓reduceIte]
   ·refine noF_of (X.tr X6) x7 fun y o hy g=>?_
    rcases g with g | g
    ·have:=hF y o g;omega
    ·omega
   ·rcases hF' y o g with g | g
    ·exact hF y o g
    ·omega
  ·obtain rfl:i=l.length:=by omega
   have ht:=lt_ff l.length l.length (by omega)
   refine W_sq fun K hK=>(W_text [true] (by kernel_rfl) ?_);simp only [↓zZ1,↓reduceIte,Nat.reduceEqDiff,rg,ow_43,e11,e12,ht]
   apply hK;clear hK K
   refine W_seq (W_false (by simp only [zZ2,Nat.reduceEqDiff,↓reduceIte,zZ3]<;>rfl) (W_exit ?_))
   simp only [andThen_exit,inBlk_exit,andThen_normal,↓reduceIte]
   refine W_sq fun K hK=>(W_text [true,true] (by kernel_rfl) ?_);simp only [↓zZ1,↓reduceIte,Nat.reduceEqDiff,rg,ow_43,e5]
   apply hK;clear hK K
   rw [List.take_length] at hM
   exact W_ret (endQ_1 (by simp only [upd_eq,Nat.reduceEqDiff,↓reduceIte]<;>rfl) ⟨X,_,m,F,rfl,hM,hB,hF,by omega⟩)
theorem growG_any (d:Nat) (hd:DOk d) (ord:List Int) (sv:Value) (nl:Bool) (l:List It) (lv:Value) (w:World) (hs:SlInt w sv ord) (hsb:ord.length<=2147483647) (hl:SlI w lv l) (hbig:l.length<=4294967294) :
  CallK Try.prog 43 #[mkV sv d nl,lv] w fun v w'=>Ext noF w w'/\∃ B m F,v=ptr m/\TreeAt B ord w' m (degOf d) 1 (treeG ord l) F/\w.heap.size<=m/\∀ y o,F y o->w.heap.size<=y :=
 CallK_mono (growG_low d hd ord sv nl l lv w hs hsb hl hbig) fun _ _ ⟨X,B,m,F,h1,h2,h3,h4,_⟩=>⟨X,B,m,F,h1,h2,h3,h4⟩
def fV:Option It->Value
 | some y=>.agg #[.int .i64 y.1,.int .i64 y.2,.bool true]
 | none=>.agg #[.int .i64 0,.int .i64 0,.bool false]
theorem sl_hi {w:World} {lv:Value} {l:List It} (hl:SlI w lv l) (i:Nat) (hi:i<=l.length):∃ sv,sliceV Try.prog 25 lv none (some (.int .i64 (i:Nat))) none=some sv/\SlV w 2 sv i (flat E (l.take i)):=by
 have hlen:(flat E (l.take i)).length=i*2:=by rw [flat_length,List.length_take,E_sz];congr 1;omega
 rcases hl.2 with ⟨rfl,h⟩ | ⟨b,o,cap,rfl,hc,row,hw⟩
 ·have h0:i=0:=by omega
  exact ⟨.slice none 0 0,by rw [slc_sl,sl_25,slcX_nil _ _ _ h0],hlen,.inl ⟨rfl,h0⟩⟩
 ·exact ⟨_,by rw [slc_sl,sl_25,slcX_hi _ _ _ _ _ _ _ (by omega:i<=cap)],hlen,.inr ⟨b,o,cap,rfl,by omega,by rw [<-flat_take];exact row.take _,hw⟩⟩
def exL:List It:=[(5,1),(3,2),(9,3),(3,4),(1,5),(7,6),(8,7)]
theorem bs_ex:bsV Try.prog 25 7 [(0,iV (5,1)),(1,iV (3,2)),(2,iV (9,3)),(3,iV (3,4)),(4,iV (1,5)),(5,iV (7,6)),(6,iV (8,7))]=some (33,flat Ei exL):=by kernel_rfl
set_option maxHeartbeats 400000 in
set_option maxRecDepth 8000 in
theorem exItems_any (w:World):CallK Try.prog 20 #[] w fun v w'=>SlI w' v exL/\Ext noF w w':=by
 refine calls_of_W (args:=[]) [.tmp 0] Try.func20 rfl Try.ntmps20 Try.results20 (by simp) fun e he=>?_
 clear he
 refine W_sq fun K hK=>(W_text [true] (by kernel_rfl) ?_);simp only [↓zZ1,↓reduceIte,Nat.reduceEqDiff,rg]
 apply hK;clear hK K
 refine W_sq fun K hK=>(W_text [true,true,true,true,true,true,true,false,true] (by kernel_rfl) ?_);simp only [↓zZ1,↓reduceIte,Nat.reduceEqDiff,rg,bu_item]
 refine do_bsl rfl bs_ex fun w1 n1=>⟨trivial,?_⟩
 simp only [↓zZ1,↓reduceIte,Nat.reduceEqDiff,rg]
 apply hK;clear hK K
 exact W_ret (endQ_1 (by simp only [upd_eq,Nat.reduceEqDiff,↓reduceIte]<;>rfl) ⟨⟨rfl,.inr ⟨_,0,7,rfl,Nat.le_refl _,n1.row,n1.wok.R (Nat.le_refl _)⟩⟩,n1.ext⟩)
set_option maxHeartbeats 400000 in
set_option maxRecDepth 8000 in
theorem fits_any (d:Int) (w:World):CallK Try.prog 23 #[.int .i64 d] w fun v w'=>v = .bool (decide (d=0) || (decide (2<=d) && decide (d<=128)))/\w=w':=by
 refine calls_of_W [.tmp 2] Try.func23 rfl Try.ntmps23 Try.results23 (by simp) fun e he=>?_
 have e0:e 0 = .int .i64 d:=he 0 _ rfl
 clear he
 refine W_sq fun K hK=>(W_text [true] (by kernel_rfl) ?_);simp only [↓zZ1,↓reduceIte,Nat.reduceEqDiff,rg,ow_23]
 apply hK;clear hK K
 by_cases h0:d=0
 ·have t1:(d == 0)=true:=by simp [h0]
  refine W_sq fun K hK=>(W_text [true,true,true,true,true,true,true,true,true,true,true] (by kernel_rfl) ?_);simp only [↓zZ1,↓reduceIte,Nat.reduceEqDiff,rg,ow_23,e0,t1]
  apply hK;clear hK K
  exact W_ret (endQ_1 (by simp only [upd_eq,Nat.reduceEqDiff,↓reduceIte]<;>rfl) ⟨by simp [h0],rfl⟩)
 ·have t1:(d == 0)=false:=by simp [h0]
  by_cases h2:2<=d
  ·have t2:decide (2<=d)=true:=by simp [h2]
   refine W_sq fun K hK=>(W_text [true,true,true,true,true,true,true,true,true,true,true] (by kernel_rfl) ?_);simp only [↓zZ1,↓reduceIte,Nat.reduceEqDiff,rg,ow_23,e0,t1,t2]
   apply hK;clear hK K
   exact W_ret (endQ_1 (by simp only [upd_eq,Nat.reduceEqDiff,↓reduceIte]<;>rfl) ⟨by simp [h0,h2],rfl⟩)
  ·have t2:decide (2<=d)=false:=by simp;omega
   refine W_sq fun K hK=>(W_text [true,true,true,true,true,true,true,true,true,true,true] (by kernel_rfl) ?_);simp only [↓zZ1,↓reduceIte,Nat.reduceEqDiff,rg,ow_23,e0,t1,t2]
   apply hK;clear hK K
   exact W_ret (endQ_1 (by simp only [upd_eq,Nat.reduceEqDiff,↓reduceIte]<;>rfl) ⟨by simp [h0,h2],rfl⟩)
def nilS:Value:=.slice none 0 0
theorem nil_int (w:World):SlInt w nilS []:=⟨rfl,.inl ⟨rfl,rfl⟩⟩
theorem z_make:zK Try.prog 24=some [.slice none 0 0,.int .i64 0,.bool false]:=by kernel_rfl
theorem bu_exMake:buildV Try.prog 24 [(1,.int .i64 2)]=some (mkV nilS 2 false):=by kernel_rfl
theorem ld_make:ldK Try.prog 24=some (some 3):=by kernel_rfl
theorem oc_mk (a:Option Addr) (n c d:Nat) (nl:Bool):oc (mkV (.slice a n c) d nl).cells.toList:=by
 intro v hv
 have h:v ∈ ([.slice a n c,.int .i64 d,.bool nl]:List Value):=hv
 simp at h
 rcases h with rfl | rfl | rfl<;>rfl
def mkL (sv:Value) (d:Nat) (nl:Bool):List Value:=[sv,.int .i64 d,.bool nl]
theorem mk_at {w:World} {b:Nat} {sv:Value} {d:Nat} {nl:Bool} (h:Row w b 0 (mkL sv d nl)):rdA w b 0 3=some (mkV sv d nl):=h.rdA 3 (Nat.le_refl _)
set_option maxHeartbeats 400000 in
set_option maxRecDepth 8000 in
theorem exMake_any (w:World):CallK Try.prog 19 #[] w fun v w'=>v=mkV nilS 2 false/\Ext noF w w':=by
 refine calls_of_W (args:=[]) [.cell 0 24] Try.func19 rfl Try.ntmps19 Try.results19 (by simp) fun e he=>?_
 clear he
 refine W_sq fun K hK=>(W_text [false] (by kernel_rfl) ?_);simp only [↓zZ1,↓reduceIte,Nat.reduceEqDiff,rg,ow_19]
 refine do_alloc z_make fun w1 n1=>⟨trivial,?_⟩
 simp only [↓zZ1,↓reduceIte,Nat.reduceEqDiff,rg,ow_19]
 apply hK;clear hK K
 refine W_sq fun K hK=>(W_text [true,false] (by kernel_rfl) ?_);simp only [↓zZ1,↓reduceIte,Nat.reduceEqDiff,rg,ow_19,bu_exMake]
 refine do_store (by simp only [zZ2,Nat.reduceEqDiff,↓reduceIte,zZ3]<;>rfl) (by simp only [zZ2,Nat.reduceEqDiff,↓reduceIte,zZ3]<;>rfl) sz_24 rfl n1.wok (by decide) (oc_mk _ _ _ _ _) fun w2 x2 r2 s2=>⟨trivial,?_⟩
 simp only [↓zZ1,↓reduceIte,Nat.reduceEqDiff,rg,ow_19]
 apply hK;clear hK K
 exact W_ret (endQ_c (by simp only [upd_eq,Nat.reduceEqDiff,↓reduceIte]<;>rfl) ld_make (mk_at (show Row w2 w.heap.size 0 (mkL nilS 2 false) from r2)) ⟨rfl,noF_of n1.ext x2 fun y o hy g=>by simp only [rng] at g;omega⟩)
set_option maxHeartbeats 400000 in
set_option maxRecDepth 8000 in
theorem fits1_any (sv:Value) (ord:List Int) (dv:Value) (nl:Bool) (w:World) (hs:SlInt w sv ord) :
  CallK Try.prog 12 #[.agg #[sv,dv,.bool nl]] w fun v w'=>v = .bool (decide (ord.length<=2147483647))/\Ext noF w w':=by
 obtain ⟨a,c,rfl⟩:=SlV.shape hs
 refine calls_of_W [.tmp 2] Try.func12 rfl Try.ntmps12 Try.results12 (by simp) fun e he=>?_
 have e0:e 0 = .agg #[.slice a ord.length c,dv,.bool nl]:=he 0 _ rfl
 clear he
 refine W_sq fun K hK=>(W_text [false,true] (by kernel_rfl) ?_);simp only [↓zZ1,↓reduceIte,Nat.reduceEqDiff,rg,ow_12]
 refine do_box (by simp only [evt];exact e0) fun w1 n1=>⟨trivial,?_⟩
 simp only [↓zZ1,↓reduceIte,Nat.reduceEqDiff,rg,ow_12]
 apply hK;clear hK K
 have g0:rd w1 w.heap.size 0=some (.slice a ord.length c):=(Row.cons.1 (show Row w1 w.heap.size 0 [.slice a ord.length c,dv,.bool nl] from n1.row)).1
 refine W_seq ?_
 by_cases h:ord.length<=2147483647
 ·have ht:decide ((2147483647:Int)<(ord.length:Int))=false:=by simp;omega
  refine W_sq fun K hK=>(W_text [true,true,true,true] (by kernel_rfl) ?_);simp only [↓zZ1,↓reduceIte,Nat.reduceEqDiff,rg,ow_12,g0,ht]
  apply hK;clear hK K
  refine W_false (by simp only [zZ2,Nat.reduceEqDiff,↓reduceIte,zZ3]<;>rfl) (W_skip ?_)
  show W _ _ _ _ _ _
  refine W_sq fun K hK=>(W_text [true] (by kernel_rfl) ?_);simp only [↓zZ1,↓reduceIte,Nat.reduceEqDiff,rg,ow_12]
  apply hK;clear hK K
  exact W_ret (endQ_1 (by simp only [upd_eq,Nat.reduceEqDiff,↓reduceIte]<;>rfl) ⟨by simp [h],n1.ext⟩)
 ·have ht:decide ((2147483647:Int)<(ord.length:Int))=true:=by simp;omega
  refine W_sq fun K hK=>(W_text [true,true,true,true] (by kernel_rfl) ?_);simp only [↓zZ1,↓reduceIte,Nat.reduceEqDiff,rg,ow_12,g0,ht]
  apply hK;clear hK K
  refine W_true (by simp only [zZ2,Nat.reduceEqDiff,↓reduceIte,zZ3]<;>rfl) ?_
  refine W_sq fun K hK=>(W_text [true] (by kernel_rfl) ?_);simp only [↓zZ1,↓reduceIte,Nat.reduceEqDiff,rg,ow_12]
  apply hK;clear hK K
  refine W_ret ?_
  simp only [andThen_ret]
  exact endQ_1 (by simp only [upd_eq,Nat.reduceEqDiff,↓reduceIte]<;>rfl) ⟨by simp [h],n1.ext⟩
def En:Enc Int where
 cel x:=[.int .i64 x]
 sz:=1
 len _:=rfl
 one x v hv:=by simp at hv;subst hv;rfl
 pos:=by decide
def Ef:Enc (It × Bool) where
 cel x:=[.int .i64 x.1.1,.int .i64 x.1.2,.bool x.2]
 sz:=3
 len _:=rfl
 one x v hv:=by simp at hv;rcases hv with rfl | rfl | rfl<;>rfl
 pos:=by decide
def foV (x:It × Bool):Value:=.agg #[.int .i64 x.1.1,.int .i64 x.1.2,.bool x.2]
end Go.Proofs.Ytbnnkcofnmipoaa
namespace Go.Proofs.Ytbnnkcofnmipoaa
open Go Go.Proofs Go.ChangeShapes Go.WideShapes Go.ChangeAt Go.RowKit
theorem own:ownKnob Try.prog.godebug=none:=by kernel_rfl
theorem laidOut:laidOutB Try.prog=true:=by kernel_rfl
theorem item_td:∃ f0 f1:Field,Try.prog.underlying 33=some (.struct #[f0,f1])/\f0.offset=0/\f1.offset=1/\Try.prog.cellsOf f0.type=1/\Try.prog.cellsOf f1.type=1 ∧
  Try.prog.underlying f0.type=some (.int .i64)/\Try.prog.underlying f1.type=some (.int .i64):=⟨_,_,Try.underlying33,by kernel_rfl,by kernel_rfl,by kernel_rfl,by kernel_rfl,by kernel_rfl,by kernel_rfl⟩
theorem make_td:∃ f0 f1 f2:Field,Try.prog.underlying 24=some (.struct #[f0,f1,f2])/\f0.offset=0/\f1.offset=1/\f2.offset=2/\Try.prog.cellsOf f0.type=1/\Try.prog.cellsOf f1.type=1/\Try.prog.cellsOf f2.type=1 ∧
  f0.type=22/\Try.prog.underlying f1.type=some (.int .i64)/\Try.prog.underlying f2.type=some .bool/\Try.prog.cellsOf 24=3 :=
 ⟨_,_,_,Try.underlying24,by kernel_rfl,by kernel_rfl,by kernel_rfl,by kernel_rfl,by kernel_rfl,by kernel_rfl,by kernel_rfl,by kernel_rfl,by kernel_rfl,by kernel_rfl⟩
theorem make_ts:Try.prog.cellTypes Try.prog.depth 24=some [22,3,4]:=by kernel_rfl
set_option maxRecDepth 100000
section
variable {H:Type} {enc:TypeId × Value->H}
theorem open_items {w:World} {base:Nat} {v:Value} {d:DataW H} {ps:List MemPlace} (hok:Value.okWide Try.prog w .any base 25 v)
  (h:DataW.Trod enc Try.prog w 0 (fun _=>true) true 25 v d ps) (hz:∀ b o,MemPlace.cell b o ∈ ps->w.frozen? ⟨b,o,none⟩=false):∃ l:List It,SlI w v l:=by
 obtain ⟨f0,f1,he,o0,o1,c0,c1,u0,u1⟩:=item_td
 have hce:Try.prog.cellsOf 33=Ei.sz:=by kernel_rfl
 have hel:∀ n cs x,DataW.trod enc Try.prog w 0 (fun _=>true) true n 33 cs=some x->cs.length=Ei.sz->∃ a:It,cs=Ei.cel a:=elem_int2 he o0 o1 c0 c1 u0 u1
 exact open_arg (enc:=enc) Ei Try.underlying25 hce hel hok h hz
theorem flat_En (l:List Int):flat En l=ints l:=by
 induction l with
 | nil=>rfl
 | cons x l ih=>rw [flat_cons,ih];rfl
theorem open_make {w:World} {base:Nat} {v:Value} {d:DataW H} {ps:List MemPlace} (hok:Value.okWide Try.prog w .any base 24 v)
  (h:DataW.Trod enc Try.prog w 0 (fun _=>true) true 24 v d ps) (hz:∀ b o,MemPlace.cell b o ∈ ps->w.frozen? ⟨b,o,none⟩=false) :
  ∃ (sv:Value) (d:Int) (nl:Bool) (ord:List Int),v = .agg #[sv,.int .i64 d,.bool nl]/\SlInt w sv ord:=by
 obtain ⟨f0,f1,f2,he,o0,o1,o2,c0,c1,c2,u0,u1,u2,hce⟩:=make_td
 unfold Value.okWide at hok
 simp only [he] at hok
 obtain ⟨cs,rfl,hs,ts,hts,-,hrow⟩:=hok
 rw [make_ts] at hts
 obtain rfl:=(Option.some.inj hts).symm
 obtain ⟨fuel,h⟩:=h
 have hlen:cs.toList.length=3:=by rw [hce] at hs;simpa using hs
 obtain ⟨xs,k,_,hx,_,hxl,hf⟩:=DataW.trod_struct he h
 match hc:cs.toList,hlen with
 | [v0,v1,v2],_ =>
  match xs,hxl with
  | [y0,y1,y2],_ =>
   have hcl:(Value.agg cs).cells.toList=[v0,v1,v2]:=hc
   have g0:=hf 0 f0 rfl
   have g1:=hf 1 f1 rfl
   have g2:=hf 2 f2 rfl
   rw [hcl] at g0 g1 g2
   simp [o0,o1,o2,c0,c1,c2] at g0 g1 g2
   obtain ⟨a,h1,_,_⟩:=DataW.trod_int u1 g1
   obtain ⟨b,h2,_⟩:=DataW.trod_bool u2 g2
   simp only [List.cons.injEq,and_true] at h1 h2
   subst h1 h2
   obtain ⟨u,hu,hok0⟩:=hrow 0 v0 (by rw [<-Array.getElem?_toList,hc];rfl)
   have hu':u=22:=by simpa using hu.symm
   subst hu'
   have hok1:Cell.ok Try.prog w .any base 22 v0:=by
    unfold Cell.okWide at hok0
    simp only [Try.underlying22] at hok0
    exact hok0
   rw [u0] at g0
   have hcen:Try.prog.cellsOf 3=En.sz:=by kernel_rfl
   have hel:∀ n cs x,DataW.trod enc Try.prog w 0 (fun _=>true) true n 3 cs=some x->cs.length=En.sz->∃ a:Int,cs=En.cel a:=elem_int Try.underlying3
   simp only [Prod.mk.injEq] at hx
   obtain ⟨l,hl⟩:=open_enc (enc:=enc) En Try.underlying22 hcen hel hok1 g0 fun b o hm=>hz b o (by rw [hx.2];simp [hm])
   refine ⟨v0,a,b,l,?_,by rw [flat_En] at hl;exact hl⟩
   rw [<-Array.toArray_toList (xs:=cs),hc]
end
end Go.Proofs.Ytbnnkcofnmipoaa
namespace Go.Proofs.Ytbnnkcofnmipoaa
open Go
variable {α:Type} {E:Enc α} {iso:Int} {mn mx:Nat}
theorem Ext.heal {F:Nat->Nat->Prop} {w w':World} (h:Ext F w w') {b o:Nat} {v:Value} (h1:Go.Proofs.Ytbnnkcofnmipoaa.rd w b o=some v) (h2:Go.Proofs.Ytbnnkcofnmipoaa.rd w' b o=some v):Ext (fun y p=>F y p/\¬ (y=b/\p=o)) w w':=by
 refine ⟨h.os,h.output,h.tape,h.size,fun y arr T fr hy=>?_,h.other⟩
 obtain ⟨arr',g1,g2,g3⟩:=h.cells y arr T fr hy
 refine ⟨arr',g1,g2,fun p hp=>?_⟩
 by_cases hb:y=b/\p=o
 ·obtain ⟨rfl,rfl⟩:=hb
  rw [rd_of hy] at h1
  rw [rd_of g1] at h2
  rw [h1,h2]
 ·exact g3 p fun hf=>hp ⟨hf,hb⟩
def selKid (sel:Nat->Nat) (w:World) (b c:Nat):Prop :=
 ∃ bc ba oa n cap,rd w b 3=some (ptr bc)/\rd w bc 0=some (.slice (some ⟨ba,oa,none⟩) n cap)/\rd w ba (oa+sel n)=some (ptr c)
theorem selKid.uniq {sel:Nat->Nat} {w:World} {b c c':Nat} (h:selKid sel w b c) (h':selKid sel w b c'):c=c':=by
 obtain ⟨bc,ba,oa,n,cap,h1,h2,h3⟩:=h
 obtain ⟨bc',ba',oa',n',cap',g1,g2,g3⟩:=h'
 rw [h1] at g1;simp only [ptr,Option.some.injEq,Value.pointer.injEq,Addr.mk.injEq,and_true] at g1;subst g1
 rw [h2] at g2;simp only [Option.some.injEq,Value.slice.injEq,Addr.mk.injEq,and_true] at g2
 obtain ⟨⟨rfl,rfl⟩,rfl,rfl⟩:=g2
 rw [h3] at g3;simp only [ptr,Option.some.injEq,Value.pointer.injEq,Addr.mk.injEq,and_true] at g3
 exact g3
def RS (sel:Nat->Nat) (w:World):Nat->Nat->Nat->Prop
 | 0,b,y=>y=b
 | h+1,b,y=>y=b\/∃ c,selKid sel w b c/\RS sel w h c y
theorem Inn.sel {h:Nat} {w:World} {b:Nat} {xs:List α} {F:FS α} {bi oi cap:Nat} {ks:List α} {bc ba oa capc:Nat} {cs:List (Kid α)} (n:Inn E iso mn mx h w b xs F bi oi cap ks bc ba oa capc cs)
  (h3:rd w b 3=some (ptr bc)) {sel:Nat->Nat} {c:Kid α} (hc:cs[sel cs.length]? = some c):selKid sel w b c.b:=by
 refine ⟨bc,ba,oa,_,capc,h3,n.kids.c0,?_⟩
 rw [List.length_map]
 exact n.kids.row _ _ (by rw [List.getElem?_map,List.getElem?_map,hc];rfl)
theorem Inn.rs {h:Nat} {w:World} {b:Nat} {xs:List α} {F:FS α} {bi oi cap:Nat} {ks:List α} {bc ba oa capc:Nat} {cs:List (Kid α)} (n:Inn E iso mn mx h w b xs F bi oi cap ks bc ba oa capc cs)
  (h3:rd w b 3=some (ptr bc)) {sel:Nat->Nat} {c:Kid α} (hc:cs[sel cs.length]? = some c) (y:Nat):RS sel w (h+1) b y ↔ y=b\/RS sel w h c.b y:=by
 have hs:=n.sel h3 hc
 constructor
 ·rintro (h | ⟨c',h1,h2⟩)
  ·exact .inl h
  ·rw [h1.uniq hs] at h2;exact .inr h2
 ·rintro (h | h)
  ·exact .inl h
  ·exact .inr ⟨_,hs,h⟩
theorem RS.sub {sel:Nat->Nat} (hsel:∀ n,0<n->sel n<n) {w:World}:∀ {h lo b:Nat} {xs:List α} {F:FS α},Tr E iso mn mx h w lo b xs F->∀ y,RS sel w h b y->∀ o,F y o
 | 0,_,_,_,_,ht,y,hy,o=>by rw [show y=_ from hy];exact ht.self o
 | h+1,_,b,_,F,ht,y,hy,o=>by
  obtain ⟨bi,oi,cap,ks,ch,ho,_,_,hsub,⟨h0,_⟩ | ⟨h',bc,ba,oa,capc,cs,hh,rfl,n⟩⟩:=ht.open
  ·omega
  ·obtain rfl:h=h':=by omega
   obtain ⟨c,hc⟩:∃ c,cs[sel cs.length]? = some c:=⟨_,List.getElem?_eq_getElem (hsel _ (by have:=n.len;omega))⟩
   rcases (n.rs ho.h3 hc y).1 hy with rfl | hy
   ·exact hsub _ _ (.inl rfl)
   ·exact (n.fp y o).2 (.inr (.inr ⟨c,List.mem_of_getElem? hc,RS.sub hsel (n.sub c (List.mem_of_getElem? hc)) y hy o⟩))
structure Shift (δ:Int) (w0 w':World) (D:Nat->Prop):Prop where
 ext:Ext (fun y o=>o=1/\D y) w0 w'
 cnt:∀ y,D y->∃ k:Int,rd w0 y 1=some (.int .i64 k)/\rd w' y 1=some (.int .i64 (k+δ))
theorem Shift.nil (δ:Int) (w:World):Shift δ w w fun _=>False:=⟨Ext.refl _ _,fun _ h=>h.elim⟩
theorem Shift.ro {δ:Int} {w0 w1 w2:World} {D:Nat->Prop} (h:Shift δ w0 w1 D) (r:RO w1 w2):Shift δ w0 w2 D :=
 ⟨h.ext.tr r.ext,fun y hy=>by obtain ⟨k,h1,h2⟩:=h.cnt y hy;exact ⟨k,h1,(r.ext (F:=noF)).rd h2 fun h=>h⟩⟩
theorem Shift.add {δ:Int} {w0 w1 w2:World} {D:Nat->Prop} (h:Shift δ w0 w1 D) {b:Nat} {k:Int} (hD:¬ D b) (h0:rd w0 b 1=some (.int .i64 k)) (x:Ext (rng b 1 1) w1 w2) (h2:rd w2 b 1=some (.int .i64 (k+δ))) :
  Shift δ w0 w2 fun y=>D y\/y=b:=by
 refine ⟨(h.ext.mono fun y o _ g=>⟨g.1,.inl g.2⟩).trans x (fun _ _ g=>g) fun y o _ g=>?_,fun y hy=>?_⟩
 ·simp only [rng] at g;exact ⟨by omega,.inr g.1⟩
 ·rcases hy with hy | rfl
  ·obtain ⟨k',g1,g2⟩:=h.cnt y hy
   exact ⟨k',g1,x.rd g2 fun g=>hD (by simp only [rng] at g;rw [<-g.1];exact hy)⟩
  ·exact ⟨k,h0,h2⟩
theorem Shift.undo {δ:Int} {w0 w1 w2:World} {D:Nat->Prop} (h:Shift δ w0 w1 D) {b:Nat} {v:Value} (hD:D b) (h0:rd w0 b 1=some v) (x:Ext (rng b 1 1) w1 w2) (h2:rd w2 b 1=some v) :
  Shift δ w0 w2 fun y=>D y/\y ≠ b:=by
 have X:Ext (fun y o=>o=1/\D y) w0 w2:=h.ext.trans x (fun _ _ g=>g) fun y o _ g=>by simp only [rng] at g;rw [g.1];exact ⟨by omega,hD⟩
 refine ⟨(X.heal h0 h2).mono fun y o _ g=>⟨g.1.1,g.1.2,fun e=>g.2 ⟨e,g.1.1⟩⟩,fun y hy=>?_⟩
 obtain ⟨k',g1,g2⟩:=h.cnt y hy.1
 exact ⟨k',g1,x.rd g2 fun g=>hy.2 (by simp only [rng] at g;exact g.1)⟩
def Hole (E:Enc α) (iso:Int) (mn mx H lo0 root:Nat) (F:FS α) (S:Nat) (w:World) (h lo b:Nat) (ys:List α) (Fb:FS α) (A C:List α) (δ:Int) (P:Sh α->Sh α):Prop :=
 ∀ (w2:World) (ys':List α) (Fb':FS α),Ext Fb w w2->Tr E iso mn mx h w2 lo b ys' Fb'->(∀ y o,Fb' y o->Fb y o\/w.heap.size<=y)->(ys'.length:Int)=ys.length+δ →
  ∃ F',Tr E iso mn mx H w2 lo0 root (A++ys'++C) F'/\F'.s=P Fb'.s/\∀ y o,F' y o->F y o\/S<=y
theorem Hole.root {w:World} {h lo b S:Nat} {ys:List α} {F:FS α} {δ:Int} (hS:S<=w.heap.size):Hole E iso mn mx h lo b F S w h lo b ys F [] [] δ fun s=>s :=
 fun w2 ys' Fb' _ ht hF _=>⟨Fb',by simpa using ht,rfl,fun y o g=>(hF y o g).imp id fun g=>by omega⟩
theorem Hole.ro {H lo0 root S h lo b:Nat} {F Fb:FS α} {w w1:World} {ys A C:List α} {δ:Int} {P:Sh α->Sh α} (k:Hole E iso mn mx H lo0 root F S w h lo b ys Fb A C δ P) (r:RO w w1):Hole E iso mn mx H lo0 root F S w1 h lo b ys Fb A C δ P:=by
 intro w2 ys' Fb' x ht hF hl
 have hs:w1.heap.size=w.heap.size:=by obtain ⟨n,rfl⟩:=r;rfl
 exact k w2 ys' Fb' (r.ext.tr x) ht (fun y o g=>(hF y o g).imp id fun g=>by omega) hl
theorem Hole.down {H lo0 root S h lo b:Nat} {F Fb:FS α} {w w1:World} {ys A C:List α} {δ:Int} {P:Sh α->Sh α} (k:Hole E iso mn mx H lo0 root F S w (h+1) lo b ys Fb A C δ P)
  {bi oi cap:Nat} {ks:List α} {bc ba oa capc:Nat} {cs:List (Kid α)} (n:Inn E iso mn mx h w b ys Fb bi oi cap ks bc ba oa capc cs) (ho:Own E w b iso ys.length bi oi cap ks (ptr bc)) (h1:lo<=ks.length) (h2:ks.length<=mx)
  (x:Ext (rng b 1 1) w w1) (hc1:rd w1 b 1=some (.int .i64 (ys.length+δ))) {i:Nat} {c:Kid α} (hc:cs[i]? = some c) {A' C':List α} (hw:WAt (cs.map Kid.xs) ks i A' C') :
  Hole E iso mn mx H lo0 root F S w1 h mn c.b c.xs c.F (A++A') (C'++C) δ fun s=>P (.nd ks ((cs.map fun c=>c.F.s).set i s)):=by
 intro w2 ys' Fb' x2 ht hF hl
 have hcm:=List.mem_of_getElem? hc
 have hcx:(cs.map Kid.xs)[i]? = some c.xs:=by rw [List.getElem?_map,hc];rfl
 have hil:=(List.getElem?_eq_some_iff.1 hc).1
 have s1:w.heap.size<=w1.heap.size:=x.size
 have hbw:=wok_lt ho.wb
 have hbiw:=wok_lt ho.wi
 have hcb:∀ o,¬ c.F b o:=fun o g=>n.ap.own c hcm _ _ g (.inl rfl)
 have hi1:∀ y o,c.F y o->¬ ownF E b bi oi cap y o:=fun y o g=>n.ap.own c hcm y o g
 have n1:Inn E iso mn mx h w1 b ys Fb bi oi cap ks bc ba oa capc cs:=n.ext x (fun y o g hr=>by
   simp only [rng] at hr
   rcases g with g | g
   ·exact n.ap.cb (by omega)
   ·exact n.ap.ab (by simp only [rng] at g;omega)) fun d hd y o g hr=>by
  simp only [rng] at hr
  exact n.ap.own d hd y o g (.inl hr.1)
 have n2:=n1.child (c':=⟨c.b,ys',Fb'⟩) hc x2 rfl ht hF (by omega) (by omega)
 have e1:=hw.eq hcx
 have e2:weave ((cs.map Kid.xs).set i ys') ks=A'++ys'++C':=by
  exact hw.set ys'
 have hln:(((weave ((cs.map Kid.xs).set i ys') ks).length:Nat):Int)=ys.length+δ:=by
  rw [e2,n.eq,e1]
  simp only [List.length_append,Int.natCast_add]
  omega
 have ho2:Own E w2 b iso ((weave ((cs.map Kid.xs).set i ys') ks).length:Nat) bi oi cap ks (ptr bc):=by
  have hr:∀ o,o ≠ 1->¬ rng b 1 1 b o:=fun o h g=>by simp only [rng] at g;omega
  have q0:=x2.rd (x.rd ho.h0 (hr 0 (by decide))) (hcb 0)
  have q1:=x2.rd hc1 (hcb 1)
  have q2:=x2.rd (x.rd ho.h2 (hr 2 (by decide))) (hcb 2)
  have q3:=x2.rd (x.rd ho.h3 (hr 3 (by decide))) (hcb 3)
  rw [<-hln] at q1
  exact ⟨q0,q1,q2,q3,x2.wok (x.wok ho.wb),x2.row (x.row ho.row fun j _ g=>by simp only [rng] at g;have:=ho.ne;omega) fun j hj g=>hi1 _ _ g (.inr ⟨rfl,by omega,by rw [flat_length] at hj;have:=Nat.mul_le_mul_right E.sz ho.le;omega⟩),
   x2.wok (x.wok ho.wi),ho.le,ho.ne⟩
 have htr:=n2.tr (lo:=lo) ho2 h1 h2
 have key:=k w2 _ _ ?_ htr ?_ hln
 ·obtain ⟨F',g1,g3,g2⟩:=key
  refine ⟨F',?_,by rw [g3];show P (.nd ks ((cs.set i ⟨c.b,ys',Fb'⟩).map fun c=>c.F.s))=_;rw [List.map_set],g2⟩
  rw [e2] at g1
  simpa [List.append_assoc] using g1
 ·refine (x.mono fun y o _ g=>?_).trans x2 (fun _ _ g=>g) fun y o _ g=>(n.fp y o).2 (.inr (.inr ⟨c,hcm,g⟩))
  simp only [rng] at g;rw [g.1];exact (n.fp _ _).2 (.inl (.inl rfl))
 ·intro y o g
  rcases g with g | g | ⟨d,hd,g⟩
  ·exact .inl ((n.fp y o).2 (.inl g))
  ·exact .inl ((n.fp y o).2 (.inr (.inl g)))
  ·rw [List.set_eq_take_append_cons_drop,if_pos hil] at hd
   rcases List.mem_append.1 hd with hd | hd
   ·exact .inl ((n.fp y o).2 (.inr (.inr ⟨d,List.mem_of_mem_take hd,g⟩)))
   ·rcases List.mem_cons.1 hd with rfl | hd
    ·rcases hF y o g with g | g
     ·exact .inl ((n.fp y o).2 (.inr (.inr ⟨c,hcm,g⟩)))
     ·exact .inr (by omega)
    ·exact .inl ((n.fp y o).2 (.inr (.inr ⟨d,List.mem_of_mem_drop hd,g⟩)))
end Go.Proofs.Ytbnnkcofnmipoaa
namespace Go.Proofs.Ytbnnkcofnmipoaa
open Go
def blkF (B:Nat):Nat->Nat->Prop:=fun y _=>y=B
theorem set_same (h:Array Obj) (B:Nat) (x:Obj) (hB:B<h.size):(h.setIfInBounds B x)[B]? = some x:=by simp [hB]
theorem set_else (h:Array Obj) (B b:Nat) (x:Obj) (hb:b ≠ B):(h.setIfInBounds B x)[b]? = h[b]?:=by
 rw [Array.getElem?_setIfInBounds];simp [hb.symm]
theorem ext_cutL {F:Nat->Nat->Prop} {w v:World} {B n:Nat} (x:Ext (fun y o=>F y o\/y=B) w v) (hB:wok w B n):∃ u,Ext (blkF B) w u/\u.heap.size=w.heap.size/\Ext F u v:=by
 obtain ⟨arr,T,h0,-,-⟩:=hB
 obtain ⟨arr',g1,g2,g3⟩:=x.cells B arr T _ h0
 have hlt:B<w.heap.size:=lt_of_some h0
 refine ⟨{ w with heap:=w.heap.setIfInBounds B (.cells arr' T (0,0)) },⟨rfl,rfl,rfl,by simp,fun b a T' fr hb=>?_,fun b o hb ho=>?_⟩,by simp,⟨x.os,x.output,x.tape,by simpa using x.size,fun b a T' fr hb=>?_,fun b o hb ho=>?_⟩⟩
 ·by_cases e:b=B
  ·subst e
   rw [h0,Option.some.injEq,Obj.cells.injEq] at hb
   obtain ⟨rfl,rfl,rfl⟩:=hb
   exact ⟨arr',set_same _ _ _ hlt,g2,fun o h=>(h rfl).elim⟩
  ·exact ⟨a,by rw [<-hb];exact set_else _ _ _ _ e,rfl,fun _ _=>rfl⟩
 ·by_cases e:b=B
  ·subst e
   rw [h0] at hb;cases hb
   exact (ho _ _ _ rfl).elim
  ·rw [<-hb];exact set_else _ _ _ _ e
 ·by_cases e:b=B
  ·subst e
   rw [show ({ w with heap:=w.heap.setIfInBounds b (.cells arr' T (0,0)) }:World).heap[b]? = some (.cells arr' T (0,0)) from set_same _ _ _ hlt,Option.some.injEq,Obj.cells.injEq] at hb
   obtain ⟨rfl,rfl,rfl⟩:=hb
   exact ⟨_,g1,rfl,fun _ _=>rfl⟩
  ·have hb':w.heap[b]? = some (.cells a T' fr):=by rw [<-hb];exact (set_else _ _ _ _ e).symm
   obtain ⟨a',k1,k2,k3⟩:=x.cells b a T' fr hb'
   exact ⟨a',k1,k2,fun o h=>k3 o fun g=>g.elim h e⟩
 ·by_cases e:b=B
  ·subst e
   rw [show ({ w with heap:=w.heap.setIfInBounds b (.cells arr' T (0,0)) }:World).heap[b]? = some (.cells arr' T (0,0)) from set_same _ _ _ hlt] at hb
   cases hb
   exact (ho _ _ _ rfl).elim
  ·have hb':w.heap[b]? = some o:=by rw [<-hb];exact (set_else _ _ _ _ e).symm
   exact x.other b o hb' ho
theorem ext_cutR {F:Nat->Nat->Prop} {w v:World} {B n:Nat} (x:Ext (fun y o=>F y o\/y=B) w v) (hB:wok w B n):∃ u,Ext F w u/\u.heap.size=v.heap.size/\Ext (blkF B) u v:=by
 obtain ⟨arr,T,h0,-,-⟩:=hB
 obtain ⟨arr',g1,g2,g3⟩:=x.cells B arr T _ h0
 have hlt:B<v.heap.size:=lt_of_some g1
 refine ⟨{ v with heap:=v.heap.setIfInBounds B (.cells arr T (0,0)) },⟨x.os,x.output,x.tape,by simpa using x.size,fun b a T' fr hb=>?_,fun b o hb ho=>?_⟩,by simp,⟨rfl,rfl,rfl,by simp,fun b a T' fr hb=>?_,fun b o hb ho=>?_⟩⟩
 ·by_cases e:b=B
  ·subst e
   rw [h0,Option.some.injEq,Obj.cells.injEq] at hb
   obtain ⟨rfl,rfl,rfl⟩:=hb
   exact ⟨arr,set_same _ _ _ hlt,rfl,fun o h=>rfl⟩
  ·obtain ⟨a',k1,k2,k3⟩:=x.cells b a T' fr hb
   exact ⟨a',by rw [<-k1];exact set_else _ _ _ _ e,k2,fun o h=>k3 o fun g=>g.elim h e⟩
 ·by_cases e:b=B
  ·subst e
   rw [h0] at hb;cases hb
   exact (ho _ _ _ rfl).elim
  ·rw [<-x.other b o hb ho];exact set_else _ _ _ _ e
 ·by_cases e:b=B
  ·subst e
   rw [show ({ v with heap:=v.heap.setIfInBounds b (.cells arr T (0,0)) }:World).heap[b]? = some (.cells arr T (0,0)) from set_same _ _ _ hlt,Option.some.injEq,Obj.cells.injEq] at hb
   obtain ⟨rfl,rfl,rfl⟩:=hb
   exact ⟨arr',g1,g2,fun o h=>(h rfl).elim⟩
  ·exact ⟨a,by rw [<-hb];exact (set_else _ _ _ _ e).symm,rfl,fun _ _=>rfl⟩
 ·by_cases e:b=B
  ·subst e
   rw [show ({ v with heap:=v.heap.setIfInBounds b (.cells arr T (0,0)) }:World).heap[b]? = some (.cells arr T (0,0)) from set_same _ _ _ hlt] at hb
   cases hb
   exact (ho _ _ _ rfl).elim
  ·rw [<-hb];exact (set_else _ _ _ _ e).symm
theorem shift_base {δ:Int} {w0 w1 w2:World} {D:Nat->Prop} {B n:Nat} (h:Shift δ w0 w1 D) (x:Ext (blkF B) w1 w2) (hB:wok w0 B n) (hD:¬ D B):∃ u,Ext (blkF B) w0 u/\u.heap.size=w0.heap.size/\Shift δ u w2 D:=by
 have X:Ext (fun y o=>(o=1/\D y)\/y=B) w0 w2:=h.ext.trans x (fun _ _ g=>.inl g) fun y o _ g=>.inr g
 obtain ⟨u,h1,h2,h3⟩:=ext_cutL X hB
 refine ⟨u,h1,h2,h3,fun y hy=>?_⟩
 obtain ⟨k,k1,k2⟩:=h.cnt y hy
 have hne:y ≠ B:=fun e=>hD (e ▸ hy)
 exact ⟨k,h1.rd k1 hne,x.rd k2 hne⟩
def pureOp (P:Program):Op->Bool
 | .move _=>true
 | .assign _=>true
 | .pick _ _ _=>true
 | .nilCheck _=>true
 | .binOp _ _ _ _ _=>true
 | .unOp .not _ _=>true
 | .slice _ _ _ _ _=>true
 | .fieldAddr T _ f=>(fOff P T f).isSome
 | .indexAddr _ _ _=>true
 | .extract _ _=>true
 | _=>false
theorem pure_tk {P:Program} {H H':Hold} {e:Env} {w w':World} {op:Op} (h:pureOp P op=true):tkOp P H e w op=tkOp P H' e w' op:=by
 cases op with
 | fieldAddr T x f =>
  obtain ⟨o,ho⟩:=Option.isSome_iff_exists.1 (show (fOff P T f).isSome=true from h)
  simp only [tkOp,foZ,ho]
 | unOp k T x=>cases k<;>first | rfl | cases h
 | _=>first | rfl | cases h
def ancs (ops:Array Oper) (f:Nat):Nat->List Nat
 | 0=>[f]
 | k+1=>let L:=ancs ops f k;if L.any (fun j=>waitsOn ops j (f-(k+1))) then (f-(k+1))::L else L
def descs (ops:Array Oper) (f:Nat):Nat->List Nat
 | 0=>[f]
 | k+1=>let L:=descs ops f k;if L.any (fun j=>waitsOn ops (f+(k+1)) j) then (f+(k+1))::L else L
def semiOk (P:Program) (ops:Array Oper) (f:Nat):Bool :=
 decide (f<ops.size) && (let A:=ancs ops f f;let D:=descs ops f (ops.size-f);(List.range ops.size).all fun i=>i == f || A.contains i || D.contains i || (ops[i]?).any fun o=>pureOp P o.op)
inductive Anc (ops:Array Oper) (f:Nat):Nat->Prop
 | self:Anc ops f f
 | step {j i:Nat}:Anc ops f j->waitsOn ops j i=true->Anc ops f i
inductive Desc (ops:Array Oper) (f:Nat):Nat->Prop
 | self:Desc ops f f
 | step {j i:Nat}:Desc ops f j->waitsOn ops i j=true->Desc ops f i
theorem ancs_spec {ops:Array Oper} {f:Nat}:∀ (k i:Nat),i ∈ ancs ops f k->Anc ops f i
 | 0,i,h=>by
  simp only [ancs,List.mem_singleton] at h
  subst h;exact .self
 | k+1,i,h=>by
  simp only [ancs] at h
  split at h
  ·rename_i hc
   rcases List.mem_cons.1 h with rfl | h
   ·obtain ⟨j,hj,hw⟩:=List.any_eq_true.1 hc
    exact .step (ancs_spec k j hj) hw
   ·exact ancs_spec k i h
  ·exact ancs_spec k i h
theorem descs_spec {ops:Array Oper} {f:Nat}:∀ (k i:Nat),i ∈ descs ops f k->Desc ops f i
 | 0,i,h=>by
  simp only [descs,List.mem_singleton] at h
  subst h;exact .self
 | k+1,i,h=>by
  simp only [descs] at h
  split at h
  ·rename_i hc
   rcases List.mem_cons.1 h with rfl | h
   ·obtain ⟨j,hj,hw⟩:=List.any_eq_true.1 hc
    exact .step (descs_spec k j hj) hw
   ·exact descs_spec k i h
  ·exact descs_spec k i h
theorem anc_ahead {ops:Array Oper} {f:Nat} {listed:Array Bool} (hc:ClosedUp ops listed) (hr:f ∈ Region.ready .any ops listed) {i:Nat} (h:Anc ops f i) (hu:listed.getD i false=false):i=f:=by
 induction h with
 | self=>rfl
 | @step j i hj hw ih =>
  cases hl:listed.getD j false with
  | true =>
   have:=waits_listed hc (.inr hl) hw
   rw [hu] at this;cases this
  | false =>
   obtain rfl:=ih hl
   have:=waits_listed hc (.inl hr) hw
   rw [hu] at this;cases this
theorem desc_behind {ops:Array Oper} {f:Nat} {listed:Array Bool} (hc:ClosedUp ops listed) (hf:f ∈ Region.ready .any ops listed) {i:Nat} (h:Desc ops f i) (hr:i ∈ Region.ready .any ops listed\/listed.getD i false=true):i=f:=by
 have key:i=f\/listed.getD f false=true:=by
  induction h with
  | self=>exact .inl rfl
  | @step j i hj hw ih =>
   have hl:=waits_listed hc hr hw
   rcases ih (.inr hl) with rfl | h
   ·exact .inr hl
   ·exact .inr h
 rcases key with h | h
 ·exact h
 ·exact (listed_unready h hf).elim
theorem semi_spec {P:Program} {ops:Array Oper} {f i:Nat} {o:Oper} (h:semiOk P ops f=true) (hi:ops[i]? = some o):i=f\/Anc ops f i\/Desc ops f i\/pureOp P o.op=true:=by
 simp only [semiOk,Bool.and_eq_true,decide_eq_true_eq,List.all_eq_true,List.mem_range,Bool.or_eq_true,beq_iff_eq] at h
 rcases h.2 i (Array.getElem?_eq_some_iff.1 hi).1 with ((h | h) | h) | h
 ·exact .inl h
 ·exact .inr (.inl (ancs_spec _ _ (by simpa using h)))
 ·exact .inr (.inr (.inl (descs_spec _ _ (by simpa using h))))
 ·rw [hi] at h;exact .inr (.inr (.inr h))
def linkOk (ops:Array Oper) (sd:List Nat) (f:Nat):Bool :=
 let A:=ancs ops f f;let D:=descs ops f (ops.size-f);sd.all fun i=>i == f || A.contains i || D.contains i
theorem link_spec {ops:Array Oper} {sd:List Nat} {f i:Nat} (h:linkOk ops sd f=true) (hi:sd.contains i=true):i=f\/Anc ops f i\/Desc ops f i:=by
 simp only [linkOk,List.all_eq_true,Bool.or_eq_true,beq_iff_eq] at h
 rcases h i (by simpa using hi) with (h | h) | h
 ·exact .inl h
 ·exact .inr (.inl (ancs_spec _ _ (by simpa using h)))
 ·exact .inr (.inr (descs_spec _ _ (by simpa using h)))
section
variable {P:Program} {ops:Array Oper} {Q:Exit->Act->World->Prop} {R:World->World->Prop} {sd:List Nat}
def wpM (P:Program) (ops:Array Oper) (Q:Exit->Act->World->Prop) (R:World->World->Prop) (sd:List Nat):Nat->Array Bool->World->Act->World->Prop
 | 0,listed,_,a,w=>Region.ready .any ops listed=[]/\Q .normal a w
 | fuel+1,listed,w0,a,w =>
  (Region.ready .any ops listed=[]->Q .normal a w) ∧
  ∀ i ∈ Region.ready .any ops listed,wpOp P ops Q i (fun a' w'=>(semiOk P ops i=true/\wpM P ops Q R sd fuel (listed.setIfInBounds i true) w' a' w') ∨
   ((linkOk ops sd i=true\/w'.heap=w.heap)/\R w0 w'/\wpM P ops Q R sd fuel (listed.setIfInBounds i true) w0 a' w')) a w
theorem wpAny_of_wpM:∀ (fuel:Nat) (listed:Array Bool) (w0:World) (a:Act) (w:World),wpM P ops Q R sd fuel listed w0 a w->wpAny P .any ops Q fuel listed a w
 | 0,_,_,_,_,h=>h
 | fuel+1,_,_,_,_,h=>⟨h.1,fun i hi=>wpOp_mono (fun a' w' h'=>h'.elim (fun h=>wpAny_of_wpM fuel _ _ a' w' h.2) fun h=>wpAny_of_wpM fuel _ _ a' w' h.2.2) (h.2 i hi)⟩
def Tol (P:Program) (R:World->World->Prop) (sd:List Nat) (o:Oper) (i:Nat) (w0 w u:World):Prop:=pureOp P o.op=true\/(sd.contains i=true/\u.heap=w.heap)\/(sd.contains i=false/\R w0 u)
theorem Gives.mono {S S':World->Prop} {o:Oper} {v:Value} {a:Act} (h:Gives P ops S o v a) (hS:∀ u,S' u->S u):Gives P ops S' o v a:=h.imp (fun ⟨h1,h2⟩=>⟨h1,fun w hw=>h2 w (hS w hw)⟩) id
theorem wpM_first {i:Nat} {oi:Oper} {v:Value} (hi:ops[i]? = some oi) (hR:∀ w,R w w)
  (hsel:∀ (j:Nat) (o:Oper) cs b,ops[j]? = some o->o.op ≠ .select cs b) (hQ:∀ c a w,¬ Q (.panic c) a w) :
  ∀ (fuel:Nat) (listed:Array Bool) (w0:World) (a:Act) (w:World),ClosedUp ops listed →
   (∀ j oj,ops[j]? = some oj->j ≠ i->listed.getD j true=false->(∀ e ∈ oj.after,Region.binds .any e=true->e.on ≠ i)->oi.apart ops oj=true) →
   i ∈ Region.ready .any ops listed->Gives P ops (Tol P R sd oi i w0 w) oi v a->R w0 w →
   wpM P ops Q R sd fuel (listed.setIfInBounds i true) w0 (a.put oi.dst v) w->wpM P ops Q R sd (fuel+1) listed w0 a w:=by
 have here:∀ {w0 w:World},R w0 w->Tol P R sd oi i w0 w w:=fun h=>by
  cases hs:sd.contains i with
  | true=>exact .inr (.inl ⟨hs,rfl⟩)
  | false=>exact .inr (.inr ⟨hs,h⟩)
 intro fuel
 induction fuel with
 | zero =>
  intro listed w0 a w _ _ hr hy hS H
  refine ⟨fun h=>(by rw [h] at hr;cases hr),fun j hj=>?_⟩
  by_cases hji:j=i
  ·subst hji;exact hy.wpOp hi (here hS) (.inr ⟨.inr rfl,hS,H⟩)
  ·have:=ready_mono hj hji
   rw [H.1] at this
   cases this
 | succ fuel ih =>
  intro listed w0 a w hc hfree hr hy hS H
  refine ⟨fun h=>(by rw [h] at hr;cases hr),fun j hj=>?_⟩
  by_cases hji:j=i
  ·subst hji;exact hy.wpOp hi (here hS) (.inr ⟨.inr rfl,hS,H⟩)
  ·have h1:=H.2 j (ready_mono hj hji)
   obtain ⟨hjun,oj,hoj,hall⟩:=mem_ready.1 hj
   have hiun:=(mem_ready.1 hr).1
   have his:i<ops.size:=(Array.getElem?_eq_some_iff.1 hi).1
   have hnot:∀ e ∈ oj.after,Region.binds .any e=true->e.on ≠ i:=fun e he hb heq=>by
    have h1:=hall e he hb
    rw [heq,getD_tf hiun] at h1
    cases h1
   have h2:=wpOp_before hoj (hfree j oj hoj hji hjun hnot) (fun cs b=>hsel i oi cs b hi) (fun cs b=>hsel j oj cs b hoj) hQ hy h1
   have hfree':∀ k ok,ops[k]? = some ok->k ≠ i->(listed.setIfInBounds j true).getD k true=false->(∀ e ∈ ok.after,Region.binds .any e=true->e.on ≠ i)->oi.apart ops ok=true:=fun k ok hk hki hun hno=>by
    refine hfree k ok hk hki ?_ hno
    by_cases hjk:j=k
    ·subst hjk;exact hjun
    ·rw [getD_set_ne true hjk] at hun;exact hun
   have apartL:¬ (i=j\/Anc ops j i\/Desc ops j i):=fun h=>by
    rcases h with h | h | h
    ·exact hji h.symm
    ·exact hji (anc_ahead hc hj h (getD_tf hiun)).symm
    ·exact hji (desc_behind hc hj h (.inl hr)).symm
   refine wpOp_mono (fun a' w' h3=>?_) h2
   rcases h3.2 with ⟨hb,hrest⟩ | ⟨hl,hS',hrest⟩
   ·refine .inl ⟨hb,ih (listed.setIfInBounds j true) w' a' w' (hc.set hj) hfree' (ready_mono hr (Ne.symm hji)) (h3.1.mono fun u _=>.inl ?_) (hR _) ?_⟩
    ·rcases semi_spec hb hi with h | h | h | h
     ·exact (apartL (.inl h)).elim
     ·exact (apartL (.inr (.inl h))).elim
     ·exact (apartL (.inr (.inr h))).elim
     ·exact h
    ·rw [Array.setIfInBounds_comm _ _ hji]
     exact hrest
   ·refine .inr ⟨hl,hS',ih (listed.setIfInBounds j true) w0 a' w' (hc.set hj) hfree' (ready_mono hr (Ne.symm hji)) (h3.1.mono fun u hu=>?_) hS' ?_⟩
    ·rcases hu with hu | ⟨hu,hh⟩ | hu
     ·exact .inl hu
     ·rcases hl with hl | hl
      ·exact (apartL (link_spec hl hu)).elim
      ·exact .inr (.inl ⟨hu,hh.trans hl⟩)
     ·exact .inr (.inr hu)
    ·rw [Array.setIfInBounds_comm _ _ hji]
     exact hrest
end
inductive PM where
 | nil
 | take (s:Bool) (i:Nat) (r:PM)
 | act (i:Nat) (r:PM)
 | bar (i:Nat) (r:PM)
 | split (i:Nat) (r:PM) (j:Nat) (s:PM)
def sdOf:PM->List Nat
 | .nil=>[]
 | .take true i r=>i::sdOf r
 | .take false _ r=>sdOf r
 | .act _ r=>sdOf r
 | .bar _ r=>sdOf r
 | .split _ r _ s=>sdOf r++sdOf s
def ptOkM (P:Program) (ops:Array Oper) (sd:List Nat):PM->Array Bool->Bool
 | .nil,listed=>(Region.ready .any ops listed).isEmpty
 | .take s i r,listed=>(s == sd.contains i) && (Region.ready .any ops listed).contains i && Region.free .any ops listed i && ptOkM P ops sd r (listed.setIfInBounds i true)
 | .act i r,listed=>decide (Region.ready .any ops listed=[i]) && linkOk ops sd i && ptOkM P ops sd r (listed.setIfInBounds i true)
 | .bar i r,listed=>decide (Region.ready .any ops listed=[i]) && semiOk P ops i && ptOkM P ops sd r (listed.setIfInBounds i true)
 | .split i r j s,listed=>decide (Region.ready .any ops listed=[i,j]) && linkOk ops sd i && linkOk ops sd j && ptOkM P ops sd r (listed.setIfInBounds i true) && ptOkM P ops sd s (listed.setIfInBounds j true)
def ptM:PM->Nat->Bool
 | .nil,n=>n == 0
 | .take _ _ r,n=>n != 0 && ptM r (n-1)
 | .act _ r,n=>n != 0 && ptM r (n-1)
 | .bar _ r,n=>n != 0 && ptM r (n-1)
 | .split _ r _ s,n=>n != 0 && ptM r (n-1) && ptM s (n-1)
def regOkM (P:Program) (n:Nat) (ops:Array Oper) (pl:PM):Bool :=
 Region.noSelect ops && dstsOk n ops && ptM pl ops.size && (let sd:=sdOf pl;ptOkM P ops sd pl (Array.replicate ops.size false))
def WPM (P:Program) (ops:Array Oper) (H:Hold) (Q:Post):PM->Env->World->Prop
 | .nil,e,w=>Q .normal e w
 | .take true i r,e,w=>withOp ops i (TakeO P ops (some none) (WPM P ops H Q r) e w)
 | .take false i r,e,w=>withOp ops i (TakeO P ops H (WPM P ops H Q r) e w)
 | .act i r,e,w=>DoAt P ops H none i (WPM P ops H Q r) e w
 | .bar i r,e,w=>DoB P ops i (WPM P ops H Q r) e w
 | .split i r j s,e,w=>DoAt P ops H none i (WPM P ops H Q r) e w/\DoAt P ops H none j (WPM P ops H Q s) e w
section
variable {P:Program} {ops:Array Oper} {n:Nat} {Q:Post} {sd:List Nat}
theorem wpM_of_plan {H:Hold} (hsel:Region.noSelect ops=true) (hd:dstsOk n ops=true) (hH:∀ a b c,keeps H a b->keeps H b c->keeps H a c) :
  ∀ (pl:PM) (k:Nat) (listed:Array Bool) (w0:World) (e:Env) (a:Act) (w:World),ptM pl k=true->Fr n e a->ClosedUp ops listed->ptOkM P ops sd pl listed=true->keeps H w0 w →
   WPM P ops H Q pl e w->wpM P ops (lift n Q) (keeps H) sd k listed w0 a w
 | .nil,k,listed,w0,e,a,w,hn,ha,_,hok,_,h=>by
  obtain rfl:k=0:=by simpa [ptM] using hn
  exact ⟨by simpa [ptOkM] using hok,e,ha,trivial,h⟩
 | .take s i r,0,listed,w0,e,a,w,hn,ha,hc,hok,hk,h=>by simp [ptM] at hn
 | .act i r,0,listed,w0,e,a,w,hn,ha,hc,hok,hk,h=>by simp [ptM] at hn
 | .bar i r,0,listed,w0,e,a,w,hn,ha,hc,hok,hk,h=>by simp [ptM] at hn
 | .split i r j s,0,listed,w0,e,a,w,hn,ha,hc,hok,hk,h=>by simp [ptM] at hn
 | .take s i r,k+1,listed,w0,e,a,w,hn,ha,hc,hok,hk,h=>by
  obtain ⟨o,ho,h⟩:withOp ops i (TakeO P ops (if s=true then some none else H) (WPM P ops H Q r) e w):=by cases s<;>exact h
  have hn':ptM r k=true:=by simpa [ptM] using hn
  simp only [ptOkM,Bool.and_eq_true,beq_iff_eq] at hok
  obtain ⟨⟨⟨hs,hr⟩,hf⟩,hok⟩:=hok
  have hr':i ∈ Region.ready .any ops listed:=by simpa using hr
  have go:∀ v,Gives P ops (Tol P (keeps H) sd o i w0 w) o v a->WPM P ops H Q r (updO e o.dst v) w →
    wpM P ops (lift n Q) (keeps H) sd (k+1) listed w0 a w:=fun v hg hw =>
   wpM_first ho (keeps_refl H) (Region.noSelect_spec hsel) lift_panic k listed w0 a w hc (Region.free_spec ho hf) hr' hg hk
    (wpM_of_plan hsel hd hH r k _ _ _ _ _ hn' (ha.put (dst_lt hd ho) v) (hc.set hr') hok hk hw)
  rcases guardE_cases h with ⟨hw,v,hv,hrest⟩ | ⟨hw,hrest⟩
  ·refine go v (.inl ⟨wanted_of ha hd hw,fun w' hk2=>?_⟩) hrest
   rw [ha.eval]
   rcases hk2 with hp | ⟨h1,h2⟩ | ⟨h1,h2⟩
   ·rw [pure_tk (H':=some (some [])) (w':=w) hp] at hv
    exact tk_sound hv fun b hb=>by simp [readsB] at hb
   ·exact tk_sound hv fun b _=>by rw [h2]
   ·rw [h1] at hs
    subst hs
    exact tk_sound hv fun b hb=>(keeps_reads h2 hb).trans (keeps_reads hk hb).symm
  ·exact go undef (.inr ⟨unwanted_of ha hd hw,rfl⟩) hrest
 | .act i r,k+1,listed,w0,e,a,w,hn,ha,hc,hok,hk,h=>by
  have hn':ptM r k=true:=by simpa [ptM] using hn
  simp only [ptOkM,Bool.and_eq_true,decide_eq_true_eq] at hok
  obtain ⟨⟨hr,hl⟩,hok⟩:=hok
  have hr':i ∈ Region.ready .any ops listed:=by rw [hr];simp
  refine ⟨fun h0=>(by rw [h0] at hr;cases hr),fun j hj=>?_⟩
  obtain rfl:j=i:=by rw [hr] at hj;simpa using hj
  refine wpOp_of_doAt ha hd h fun e' a' w' ha' hkk hrest=>?_
  have hk1:=hH _ _ _ hk (hkk.resolve_left (by simp))
  exact .inr ⟨.inl hl,hk1,wpM_of_plan hsel hd hH r k _ _ _ _ _ hn' ha' (hc.set hr') hok hk1 hrest⟩
 | .bar i r,k+1,listed,w0,e,a,w,hn,ha,hc,hok,hk,h=>by
  have hn':ptM r k=true:=by simpa [ptM] using hn
  simp only [ptOkM,Bool.and_eq_true,decide_eq_true_eq] at hok
  obtain ⟨⟨hr,hb⟩,hok⟩:=hok
  have hr':i ∈ Region.ready .any ops listed:=by rw [hr];simp
  refine ⟨fun h0=>(by rw [h0] at hr;cases hr),fun j hj=>?_⟩
  obtain rfl:j=i:=by rw [hr] at hj;simpa using hj
  refine wpOp_of_doB ha hd h fun e' a' w' ha' hrest=>.inl ⟨hb,?_⟩
  exact wpM_of_plan hsel hd hH r k _ _ _ _ _ hn' ha' (hc.set hr') hok (keeps_refl _ _) hrest
 | .split i r j s,k+1,listed,w0,e,a,w,hn,ha,hc,hok,hk,h=>by
  have hn':ptM r k=true/\ptM s k=true:=by simpa [ptM] using hn
  simp only [ptOkM,Bool.and_eq_true,decide_eq_true_eq] at hok
  obtain ⟨⟨⟨⟨hr,hl1⟩,hl2⟩,hok1⟩,hok2⟩:=hok
  have hi':i ∈ Region.ready .any ops listed:=by rw [hr];simp
  have hj':j ∈ Region.ready .any ops listed:=by rw [hr];simp
  refine ⟨fun h0=>(by rw [h0] at hr;cases hr),fun m hm=>?_⟩
  rw [hr] at hm
  rcases List.mem_cons.1 hm with rfl | hm
  ·refine wpOp_of_doAt ha hd h.1 fun e' a' w' ha' hkk hrest=>?_
   have hk1:=hH _ _ _ hk (hkk.resolve_left (by simp))
   exact .inr ⟨.inl hl1,hk1,wpM_of_plan hsel hd hH r k _ _ _ _ _ hn'.1 ha' (hc.set hi') hok1 hk1 hrest⟩
  ·obtain rfl:m=j:=by simpa using hm
   refine wpOp_of_doAt ha hd h.2 fun e' a' w' ha' hkk hrest=>?_
   have hk1:=hH _ _ _ hk (hkk.resolve_left (by simp))
   exact .inr ⟨.inl hl2,hk1,wpM_of_plan hsel hd hH s k _ _ _ _ _ hn'.2 ha' (hc.set hj') hok2 hk1 hrest⟩
theorem W_semi (H:Hold) (pl:PM) {id:Nat} {e:Env} {w:World} (hm:P.follows .mixedOrders=true)
  (hok:regOkM P n ops pl=true) (h:WPM P ops H Q pl e w.drew):W P n (.region id ops true) Q e w:=by
 intro a ha
 simp only [regOkM,Bool.and_eq_true] at hok
 obtain ⟨⟨⟨hsel,hd⟩,hlen⟩,hok⟩:=hok
 refine wp_region_any hm ?_
 have hc:ClosedUp ops (Array.replicate ops.size false):=⟨by simp,fun j oj _ hl=>by
  rcases Nat.lt_or_ge j ops.size with h | h
  ·simp [h] at hl
  ·simp [h] at hl⟩
 exact wpAny_of_wpM _ _ _ _ _ (wpM_of_plan hsel hd (keeps_trans H) pl _ _ w.drew e a w.drew hlen ha hc hok (keeps_refl _ _) h)
end
theorem rgm :
  (∀ {P:Program} {ops:Array Oper} {H:Hold} {Q:Post} {e:Env} {w:World},WPM P ops H Q .nil e w=Q Exit.normal e w) ∧
  (∀ {P:Program} {ops:Array Oper} {H:Hold} {Q:Post} {e:Env} {w:World} (i:Nat) (r:PM),WPM P ops H Q (.take true i r) e w=withOp ops i (TakeO P ops (some none) (WPM P ops H Q r) e w)) ∧
  (∀ {P:Program} {ops:Array Oper} {H:Hold} {Q:Post} {e:Env} {w:World} (i:Nat) (r:PM),WPM P ops H Q (.take false i r) e w=withOp ops i (TakeO P ops H (WPM P ops H Q r) e w)) ∧
  (∀ {P:Program} {ops:Array Oper} {H:Hold} {Q:Post} {e:Env} {w:World} (i:Nat) (r:PM),WPM P ops H Q (.act i r) e w=DoAt P ops H none i (WPM P ops H Q r) e w) ∧
  (∀ {P:Program} {ops:Array Oper} {H:Hold} {Q:Post} {e:Env} {w:World} (i:Nat) (r:PM),WPM P ops H Q (.bar i r) e w=DoB P ops i (WPM P ops H Q r) e w) ∧
  (∀ {P:Program} {ops:Array Oper} {H:Hold} {Q:Post} {e:Env} {w:World} (i j:Nat) (r s:PM),WPM P ops H Q (.split i r j s) e w=(DoAt P ops H none i (WPM P ops H Q r) e w/\DoAt P ops H none j (WPM P ops H Q s) e w)) :=
 ⟨id (Eq.trans rfl rfl),fun _ _=>id (Eq.trans rfl rfl),fun _ _=>id (Eq.trans rfl rfl),fun _ _=>id (Eq.trans rfl rfl),fun _ _=>id (Eq.trans rfl rfl),fun _ _ _ _=>id (Eq.trans rfl rfl)⟩
end Go.Proofs.Ytbnnkcofnmipoaa
namespace Go.Proofs.Ytbnnkcofnmipoaa
open Go
def Ep:Enc Nat where
 cel b:=[ptr b]
 sz:=1
 len _:=rfl
 one b v hv:=by simp at hv;subst hv;rfl
 pos:=by decide
section
variable {α:Type} {E:Enc α}
structure SE (E:Enc α) (w:World) (hb ho:Nat) (ks:List α) (bi oi cap:Nat):Prop where
 hd:rd w hb ho=some (.slice (some ⟨bi,oi,none⟩) ks.length cap)
 row:Row w bi oi (flat E ks)
 wi:wok w bi (oi+cap*E.sz)
 le:ks.length<=cap
 hok:wok w hb (ho+1)
 ne:bi ≠ hb
def seF (E:Enc α) (hb ho bi oi cap:Nat):Nat->Nat->Prop:=fun y o=>(y=hb/\o=ho)\/rng bi oi (cap*E.sz) y o
theorem SE.ext {w w':World} {G:Nat->Nat->Prop} {hb ho bi oi cap:Nat} {ks:List α} (h:SE E w hb ho ks bi oi cap) (x:Ext G w w') (hG:∀ y o,seF E hb ho bi oi cap y o->¬ G y o):SE E w' hb ho ks bi oi cap :=
 ⟨x.rd h.hd (hG _ _ (.inl ⟨rfl,rfl⟩)),x.row h.row fun i hi=>hG _ _ (.inr ⟨rfl,by omega,by rw [flat_length] at hi;have:=Nat.mul_le_mul_right E.sz h.le;omega⟩),x.wok h.wi,h.le,x.wok h.hok,h.ne⟩
theorem SE.ext0 {w w':World} {hb ho bi oi cap:Nat} {ks:List α} (h:SE E w hb ho ks bi oi cap) (x:Ext noF w w'):SE E w' hb ho ks bi oi cap:=h.ext x fun _ _ _ g=>g
theorem SE.lt {w:World} {hb ho bi oi cap:Nat} {ks:List α} (h:SE E w hb ho ks bi oi cap):hb<w.heap.size/\bi<w.heap.size:=⟨wok_lt h.hok,wok_lt h.wi⟩
theorem SE.slV {w:World} {hb ho bi oi cap:Nat} {ks:List α} (h:SE E w hb ho ks bi oi cap):SlV w E.sz (.slice (some ⟨bi,oi,none⟩) ks.length cap) ks.length (flat E ks) :=
 ⟨flat_length _ _,.inr ⟨bi,oi,cap,rfl,h.le,h.row,h.wi.R (Nat.le_refl _)⟩⟩
theorem SE.app {w w1 w2:World} {hb ho bi oi cap m:Nat} {ks ls:List α} {v':Value} (h:SE E w hb ho ks bi oi cap) (hm:ls.length=m) (a:AppRes w E.sz (.slice (some ⟨bi,oi,none⟩) ks.length cap) ks.length m (flat E ks) (flat E ls) v' w1)
  (x:Ext (rng hb ho 1) w1 w2) (r:rd w2 hb ho=some v') :
  ∃ bi' oi' cap',v' = .slice (some ⟨bi',oi',none⟩) (ks.length+m) cap'/\SE E w2 hb ho (ks++ls) bi' oi' cap'/\Ext (seF E hb ho bi oi cap) w w2/\((bi'=bi/\oi'=oi/\cap'=cap)\/(bi'=w.heap.size/\w.heap.size<w2.heap.size)):=by
 subst hm
 obtain ⟨hs,hc⟩:=a
 have hbl:=wok_lt h.hok
 have hbil:=wok_lt h.wi
 have hne:=h.ne
 have hlen:(ks++ls).length=ks.length+ls.length:=List.length_append
 rcases hc with ⟨_,_,h3⟩ | ⟨b0,o0,cap0,h1,h2,h3,h4,h5⟩ | ⟨cap',h1,h2,h3,h4⟩
 ·cases h3
 ·simp only [Value.slice.injEq,Option.some.injEq,Addr.mk.injEq,true_and,and_true] at h1
  obtain ⟨⟨rfl,rfl⟩,rfl⟩:=h1
  subst h2
  have hw1:=h3.wok h.wi
  have hr:Row w1 bi oi (flat E (ks++ls)):=by
   rw [flat_append]
   rcases hs.2 with ⟨h,_⟩ | ⟨b1,o1,c1,h1,hle,hr,hw⟩
   ·cases h
   ·simp only [Value.slice.injEq,Option.some.injEq,Addr.mk.injEq,true_and,and_true] at h1
    obtain ⟨⟨rfl,rfl⟩,rfl⟩:=h1
    exact hr
  refine ⟨bi,oi,cap,rfl,⟨by rw [r,hlen],x.row hr fun i _ g=>by simp only [rng] at g;omega,x.wok hw1,by omega,x.wok (h3.wok h.hok),hne⟩,h3.trans x (fun y o g=>.inr ?_) fun y o _ g=>.inl ?_,.inl ⟨rfl,rfl,rfl⟩⟩
  ·have e1:(ks.length+ls.length)*E.sz=ks.length*E.sz+ls.length*E.sz:=Nat.add_mul _ _ _
   have e2:=Nat.mul_le_mul_right E.sz h5
   simp only [rng] at g ⊢
   omega
  ·simp only [rng] at g;omega
 ·subst h1
  have hr:Row w1 w.heap.size 0 (flat E (ks++ls))/\ks.length+ls.length<=cap':=by
   rw [flat_append]
   rcases hs.2 with ⟨h,_⟩ | ⟨b1,o1,c1,h1,hle,hr,hw⟩
   ·cases h
   ·simp only [Value.slice.injEq,Option.some.injEq,Addr.mk.injEq,true_and,and_true] at h1
    obtain ⟨⟨rfl,rfl⟩,rfl⟩:=h1
    exact ⟨hr,hle⟩
  have s2:=x.size
  refine ⟨_,0,cap',rfl,⟨by rw [r,hlen],x.row hr.1 fun i _ g=>by simp only [rng] at g;omega,by rw [Nat.zero_add];exact x.wok h4,by omega,x.wok (h2.wok h.hok),by omega⟩,h2.trans x (fun y o g=>g.elim) fun y o _ g=>.inl ?_,.inr ⟨rfl,by omega⟩⟩
  simp only [rng] at g;omega
theorem SE.erase {w w1 w2 w3:World} {hb ho bi oi cap i:Nat} {ks:List α} (h:SE E w hb ho ks bi oi cap) (hi:i<ks.length)
  (x1:Ext (rng bi (oi+i*E.sz) ((ks.length-1-i)*E.sz)) w w1) (r1:Row w1 bi (oi+i*E.sz) (flat E (ks.drop (i+1)))) (x2:Ext (rng bi (oi+(ks.length-1)*E.sz) E.sz) w1 w2)
  (x3:Ext (rng hb ho 1) w2 w3) (r3:rd w3 hb ho=some (.slice (some ⟨bi,oi,none⟩) (ks.length-1:Nat) cap)) :
  SE E w3 hb ho (ks.eraseIdx i) bi oi cap/\Ext (seF E hb ho bi oi cap) w w3:=by
 have hne:=h.ne
 have hle:=h.le
 have hcap:=Nat.mul_le_mul_right E.sz hle
 have e1:(ks.length-1)*E.sz=ks.length*E.sz-E.sz:=by rw [Nat.sub_mul,Nat.one_mul]
 have e2:(ks.length-1-i)*E.sz=(ks.length-1)*E.sz-i*E.sz:=Nat.sub_mul _ _ _
 have e3:(i+1)*E.sz<=ks.length*E.sz:=Nat.mul_le_mul_right _ hi
 have e4:(i+1)*E.sz=i*E.sz+E.sz:=by rw [Nat.add_mul,Nat.one_mul]
 have hl:(ks.eraseIdx i).length=ks.length-1:=by rw [List.length_eraseIdx,if_pos hi]
 have X:Ext (seF E hb ho bi oi cap) w w3:=((x1.mono fun y o _ g=>.inr (by simp only [rng] at g ⊢;omega)).tr (x2.mono fun y o _ g=>.inr (by simp only [rng] at g ⊢;omega))).tr (x3.mono fun y o _ g=>.inl (by simp only [rng] at g;omega))
 refine ⟨⟨by rw [hl];exact r3,?_,X.wok h.wi,by omega,X.wok h.hok,hne⟩,X⟩
 rw [List.eraseIdx_eq_take_drop_succ,flat_append]
 have hlt:(flat E (ks.take i)).length=i*E.sz:=by rw [flat_length,List.length_take];congr 1;omega
 have hld:(flat E (ks.drop (i+1))).length=ks.length*E.sz-(i+1)*E.sz:=by rw [flat_length,List.length_drop,Nat.sub_mul]
 refine Row.append.2 ⟨?_,?_⟩
 ·have h0:=h.row.take (i*E.sz)
  rw [flat_take] at h0
  refine x3.row (x2.row (x1.row h0 fun j hj g=>?_) fun j hj g=>?_) fun j hj g=>?_
  ·rw [hlt] at hj;simp only [rng] at g;omega
  ·rw [hlt] at hj;simp only [rng] at g;omega
  ·simp only [rng] at g;omega
 ·rw [hlt]
  refine x3.row (x2.row r1 fun j hj g=>?_) fun j hj g=>?_
  ·rw [hld] at hj;simp only [rng] at g;omega
  ·simp only [rng] at g;omega
theorem SE.set {w w':World} {hb ho bi oi cap i:Nat} {ks:List α} {x:α} (h:SE E w hb ho ks bi oi cap) (hi:i<ks.length) (X:Ext (rng bi (oi+i*E.sz) E.sz) w w') (r:Row w' bi (oi+i*E.sz) (E.cel x)) :
  SE E w' hb ho (ks.set i x) bi oi cap/\Ext (seF E hb ho bi oi cap) w w':=by
 have hne:=h.ne
 have hle:=h.le
 have hcap:=Nat.mul_le_mul_right E.sz hle
 have e3:(i+1)*E.sz<=ks.length*E.sz:=Nat.mul_le_mul_right _ hi
 have e4:(i+1)*E.sz=i*E.sz+E.sz:=by rw [Nat.add_mul,Nat.one_mul]
 have hrow:Row w' bi oi (flat E (ks.set i x)):=by
  rw [List.set_eq_take_append_cons_drop,if_pos hi,flat_append,flat_cons]
  have hl:(flat E (ks.take i)).length=i*E.sz:=by rw [flat_length,List.length_take];congr 1;omega
  refine Row.append.2 ⟨?_,Row.append.2 ⟨by rw [hl];exact r,?_⟩⟩
  ·rw [<-flat_take]
   exact X.row (h.row.take _) fun j hj g=>by rw [flat_take,hl] at hj;simp only [rng] at g;omega
  ·rw [hl,E.len,<-flat_drop]
   have h1:=h.row.drop ((i+1)*E.sz)
   rw [e4,<-Nat.add_assoc] at h1
   rw [e4]
   exact X.row h1 fun j hj g=>by simp only [rng] at g;omega
 refine ⟨⟨by rw [List.length_set];exact X.rd h.hd (by simp only [rng];omega),hrow,X.wok h.wi,by rw [List.length_set];exact hle,X.wok h.hok,hne⟩,X.mono fun y o _ g=>.inr (by simp only [rng] at g ⊢;omega)⟩
end
end Go.Proofs.Ytbnnkcofnmipoaa
namespace Go.Proofs.Ytbnnkcofnmipoaa
open Go
structure Ob where
 p:World->(Nat->Nat->Prop)->Nat->Prop
 loc:∀ {w w':World} {F G:Nat->Nat->Prop} {K:Nat},p w F K->Ext G w w'->(∀ y o,F y o->¬ G y o)->p w' F K
 lt:∀ {w:World} {F:Nat->Nat->Prop} {K:Nat},p w F K->(∀ y o,F y o->y<w.heap.size)/\K<w.heap.size
structure St (w0:World) (G:Nat->Nat->Prop) (w:World) (P:List Ob) (F:Nat->Nat->Nat->Prop) (K:Nat->Nat):Prop where
 o:∀ (i:Nat) (A:Ob),P[i]? = some A->A.p w (F i) (K i)
 d:∀ i j,i<P.length->j<P.length->i ≠ j->∀ y o,F i y o->¬ F j y o
 s:∀ i,i<P.length->∀ y o,F i y o->G y o\/w0.heap.size<=y
 r:∀ i,i+3<P.length->K i ≠ K (i+3)
 x:Ext G w0 w
def Ss (w0:World) (G:Nat->Nat->Prop) (w:World) (P:List Ob):Prop:=∃ F K,St w0 G w P F K
theorem Ss.x {w0 w:World} {G:Nat->Nat->Prop} {P:List Ob} (s:Ss w0 G w P):Ext G w0 w:=s.elim fun _ h=>h.elim fun _ h=>h.x
theorem St.step {w0 w w':World} {G:Nat->Nat->Prop} {P:List Ob} {F:Nat->Nat->Nat->Prop} {K:Nat->Nat} (s:St w0 G w P F K) {i:Nat} {A:Ob} (hi:P[i]? = some A) (B:Ob) {F':Nat->Nat->Prop} {K':Nat}
  (x:Ext (F i) w w') (hB:B.p w' F' K') (hF:∀ y o,F' y o->F i y o\/w.heap.size<=y) (hK:K'=K i\/w.heap.size<=K'):Ss w0 G w' (P.set i B):=by
 have hil:=(List.getElem?_eq_some_iff.1 hi).1
 have hlt:∀ j,j<P.length->(∀ y o,F j y o->y<w.heap.size)/\K j<w.heap.size:=fun j hj=>(P[j]).lt (s.o j _ (List.getElem?_eq_getElem hj))
 refine ⟨fun j=>if j=i then F' else F j,fun j=>if j=i then K' else K j,⟨fun j C hj=>?_,fun j k hj hk hne y o g h=>?_,fun j hj y o g=>?_,fun j hj=>?_,s.x.trans x (fun _ _ g=>g) fun y o hy g=>?_⟩⟩
 ·by_cases hji:j=i
  ·subst hji
   rw [if_pos rfl,if_pos rfl]
   rw [List.getElem?_set_self hil] at hj
   cases hj
   exact hB
  ·rw [if_neg hji,if_neg hji]
   rw [List.getElem?_set_ne (Ne.symm hji)] at hj
   have hjl:=(List.getElem?_eq_some_iff.1 hj).1
   exact C.loc (s.o j C hj) x (s.d j i hjl hil hji)
 ·rw [List.length_set] at hj hk
  by_cases hji:j=i
  ·subst hji
   have hki:k ≠ j:=Ne.symm hne
   rw [if_pos rfl] at g
   rw [if_neg hki] at h
   rcases hF y o g with g | g
   ·exact s.d j k hj hk hne y o g h
   ·have:=(hlt k hk).1 y o h;omega
  ·rw [if_neg hji] at g
   by_cases hki:k=i
   ·subst hki
    rw [if_pos rfl] at h
    rcases hF y o h with h | h
    ·exact s.d j k hj hk hne y o g h
    ·have:=(hlt j hj).1 y o g;omega
   ·rw [if_neg hki] at h
    exact s.d j k hj hk hne y o g h
 ·rw [List.length_set] at hj
  by_cases hji:j=i
  ·subst hji
   rw [if_pos rfl] at g
   rcases hF y o g with g | g
   ·exact s.s j hj y o g
   ·have:=s.x.size;exact .inr (by omega)
  ·rw [if_neg hji] at g
   exact s.s j hj y o g
 ·rw [List.length_set] at hj
  have h1:=s.r j hj
  have h2:=(hlt j (by omega)).2
  have h3:=(hlt (j+3) hj).2
  by_cases hji:j=i
  ·subst hji
   rw [if_pos rfl,if_neg (by omega)]
   omega
  ·rw [if_neg hji]
   by_cases hki:j+3=i
   ·subst hki
    rw [if_pos rfl];omega
   ·rw [if_neg hki];exact h1
 ·rcases s.s i hil y o g with g | g
  ·exact g
  ·omega
theorem Ss.ext0 {w0 w w':World} {G:Nat->Nat->Prop} {P:List Ob} (s:Ss w0 G w P) (x:Ext noF w w'):Ss w0 G w' P:=by
 obtain ⟨F,K,s⟩:=s
 exact ⟨F,K,fun i A h=>A.loc (s.o i A h) x fun _ _ _ g=>g,s.d,s.s,s.r,s.x.trans x (fun _ _ g=>g) fun _ _ _ g=>g.elim⟩
section
variable {α:Type} {E:Enc α}
theorem Own.se {w:World} {b:Nat} {iso cnt:Int} {bi oi cap:Nat} {ks:List α} {ch:Value} (h:Own E w b iso cnt bi oi cap ks ch):SE E w b 2 ks bi oi cap:=⟨h.h2,h.row,h.wi,h.le,h.wb.mono (by decide),h.ne⟩
theorem seF_own {b bi oi cap:Nat} {y o:Nat} (h:seF E b 2 bi oi cap y o):ownF E b bi oi cap y o:=by
 rcases h with ⟨h,_⟩ | h
 ·exact .inl h
 ·exact .inr h
theorem Own.step {w w':World} {b:Nat} {iso cnt:Int} {bi oi cap bi' oi' cap':Nat} {ks ks':List α} {ch:Value} (h:Own E w b iso cnt bi oi cap ks ch) (s:SE E w' b 2 ks' bi' oi' cap') (x:Ext (seF E b 2 bi oi cap) w w') :
  Own E w' b iso cnt bi' oi' cap' ks' ch:=by
 have hne:=h.ne
 have hn:∀ o,o ≠ 2->¬ seF E b 2 bi oi cap b o:=fun o ho g=>by
  rcases g with g | g
  ·omega
  ·exact hne g.1.symm
 exact ⟨x.rd h.h0 (hn _ (by decide)),x.rd h.h1 (hn _ (by decide)),s.hd,x.rd h.h3 (hn _ (by decide)),x.wok h.wb,s.row,s.wi,s.le,s.ne⟩
theorem Own.cnt' {w w':World} {b:Nat} {iso cnt cnt':Int} {bi oi cap:Nat} {ks:List α} {ch:Value} (h:Own E w b iso cnt bi oi cap ks ch) (x:Ext (rng b 1 1) w w') (r:rd w' b 1=some (.int .i64 cnt')) :
  Own E w' b iso cnt' bi oi cap ks ch:=by
 have hne:=h.ne
 refine ⟨x.rd h.h0 ?_,r,x.rd h.h2 ?_,x.rd h.h3 ?_,x.wok h.wb,x.row h.row fun i _ g=>?_,x.wok h.wi,h.le,h.ne⟩
 ·simp only [rng];omega
 ·simp only [rng];omega
 ·simp only [rng];omega
 ·exact hne g.1
def Eo:Enc (Option Nat) where
 cel o:=[.pointer (o.map fun b=>⟨b,0,none⟩)]
 sz:=1
 len _:=rfl
 one o v hv:=by simp at hv;subst hv;rfl
 pos:=by decide
theorem Eo_sz:Eo.sz=1:=id (Eq.trans rfl rfl)
theorem flat_Eo (l:List Nat):flat Eo (l.map some)=l.map ptr:=by
 induction l with
 | nil=>rfl
 | cons x l ih=>rw [List.map_cons,flat_cons,ih];rfl
theorem Kids.se {w:World} {bc ba oa capc:Nat} {ps:List Nat} (h:Kids w bc ba oa capc ps):SE Eo w bc 0 (ps.map some) ba oa capc :=
 ⟨by rw [List.length_map];exact h.c0,by rw [flat_Eo];exact h.row,by rw [Eo_sz,Nat.mul_one];exact h.wa,by rw [List.length_map];exact h.le,h.wc,h.ne⟩
theorem SE.kids {w:World} {bc ba oa capc:Nat} {ps:List Nat} (h:SE Eo w bc 0 (ps.map some) ba oa capc):Kids w bc ba oa capc ps :=
 ⟨by have:=h.hd;rw [List.length_map] at this;exact this,h.hok,by have:=h.row;rw [flat_Eo] at this;exact this,by have:=h.wi;rw [Eo_sz,Nat.mul_one] at this;exact this,by have:=h.le;rw [List.length_map] at this;exact this,h.ne⟩
theorem seF_kid {bc ba oa capc:Nat} {y o:Nat} (h:seF Eo bc 0 ba oa capc y o):kidF bc ba oa capc y o:=by
 rcases h with ⟨h,_⟩ | h
 ·exact .inl h
 ·rw [Eo_sz,Nat.mul_one] at h;exact .inr h
def ndO (E:Enc α) (iso:Int) (z b:Nat) (cnt:Int) (ks:List α) (ch:Value):Ob where
 p w F K:=∃ bi oi cap,Own E w b iso cnt bi oi cap ks ch/\z<=cap/\K=bi/\∀ y o,F y o ↔ ownF E b bi oi cap y o
 loc:=fun ⟨bi,oi,cap,h,hz,hK,hF⟩ x hd=>⟨bi,oi,cap,h.ext x fun y o g=>hd y o ((hF y o).2 g),hz,hK,hF⟩
 lt:=fun ⟨_,_,_,h,_,hK,hF⟩=>⟨fun y o g=>h.lt ((hF y o).1 g),hK ▸ wok_lt h.wi⟩
def kdO (ch:Value) (ps:List (Option Nat)):Ob where
 p w F K:=(ch = .pointer none/\ps=[]/\K<w.heap.size/\∀ y o,¬ F y o)\/∃ bc ba oa capc,ch=ptr bc/\SE Eo w bc 0 ps ba oa capc/\K=ba/\∀ y o,F y o ↔ kidF bc ba oa capc y o
 loc:=fun h x hd=>h.imp (fun ⟨h1,h2,h3,h4⟩=>⟨h1,h2,Nat.lt_of_lt_of_le h3 x.size,h4⟩) fun ⟨bc,ba,oa,capc,h1,h,hK,hF⟩=>⟨bc,ba,oa,capc,h1,h.ext x fun y o g=>hd y o ((hF y o).2 (seF_kid g)),hK,hF⟩
 lt:=fun h=>by
  rcases h with ⟨_,_,hK,h⟩ | ⟨bc,ba,_,_,_,h,hK,hF⟩
  ·exact ⟨fun y o g=>(h y o g).elim,hK⟩
  ·have:=h.lt
   refine ⟨fun y o g=>?_,by omega⟩
   rcases (hF y o).1 g with g | g
   ·omega
   ·have:=g.1;omega
theorem ownF_new {b bi oi cap bi' oi' cap' B:Nat} (h:(bi'=bi/\oi'=oi/\cap'=cap)\/B<=bi') {y o:Nat} (g:ownF E b bi' oi' cap' y o):ownF E b bi oi cap y o\/B<=y:=by
 rcases h with ⟨rfl,rfl,rfl⟩ | h
 ·exact .inl g
 ·rcases g with g | g
  ·exact .inl (.inl g)
  ·exact .inr (by have:=g.1;omega)
theorem kidF_new {bc ba oa capc ba' oa' capc' B:Nat} (h:(ba'=ba/\oa'=oa/\capc'=capc)\/B<=ba') {y o:Nat} (g:kidF bc ba' oa' capc' y o):kidF bc ba oa capc y o\/B<=y:=by
 rcases h with ⟨rfl,rfl,rfl⟩ | h
 ·exact .inl g
 ·rcases g with g | g
  ·exact .inl (.inl g)
  ·exact .inr (by have:=g.1;omega)
theorem Ss.nd {w0 w:World} {G:Nat->Nat->Prop} {P:List Ob} (s:Ss w0 G w P) (i:Nat) {iso:Int} {z b:Nat} {cnt:Int} {ks:List α} {ch:Value} (hi:P[i]? = some (ndO E iso z b cnt ks ch)) :
  ∃ bi oi cap,Own E w b iso cnt bi oi cap ks ch ∧
   (∀ {w':World} {ks':List α} {bi' oi' cap':Nat},SE E w' b 2 ks' bi' oi' cap'->Ext (seF E b 2 bi oi cap) w w'->((bi'=bi/\oi'=oi/\cap'=cap)\/(w.heap.size<=bi'/\z<=cap'))->Ss w0 G w' (P.set i (ndO E iso z b cnt ks' ch))) ∧
   (∀ {w':World} {cnt':Int},Ext (rng b 1 1) w w'->rd w' b 1=some (.int .i64 cnt')->Ss w0 G w' (P.set i (ndO E iso z b cnt' ks ch))):=by
 obtain ⟨F,K,s⟩:=s
 obtain ⟨bi,oi,cap,h,hz,hK,hF⟩:=s.o i _ hi
 refine ⟨bi,oi,cap,h,fun {w' ks' bi' oi' cap'} s' x hb=>s.step hi _ (x.mono fun y o _ g=>(hF y o).2 (seF_own g)) ⟨bi',oi',cap',h.step s' x,by omega,rfl,fun _ _=>Iff.rfl⟩ (fun y o g=>?_) (by rw [hK];exact hb.imp And.left And.left),
  fun {w' cnt'} x r=>s.step hi _ (x.mono fun y o _ g=>(hF y o).2 (.inl g.1)) ⟨bi,oi,cap,h.cnt' x r,hz,rfl,fun _ _=>Iff.rfl⟩ (fun y o g=>.inl ((hF y o).2 g)) (.inl hK.symm)⟩
 rcases ownF_new (hb.imp id And.left) g with g | g
 ·exact .inl ((hF y o).2 g)
 ·exact .inr g
theorem Ss.kd {w0 w:World} {G:Nat->Nat->Prop} {P:List Ob} (s:Ss w0 G w P) (i:Nat) {bc:Nat} {ps:List (Option Nat)} (hi:P[i]? = some (kdO (ptr bc) ps)) :
  ∃ ba oa capc,SE Eo w bc 0 ps ba oa capc ∧
   (∀ {w':World} {ps':List (Option Nat)} {ba' oa' capc':Nat},SE Eo w' bc 0 ps' ba' oa' capc'->Ext (seF Eo bc 0 ba oa capc) w w'->((ba'=ba/\oa'=oa/\capc'=capc)\/w.heap.size<=ba')->Ss w0 G w' (P.set i (kdO (ptr bc) ps'))):=by
 obtain ⟨F,K,s⟩:=s
 rcases s.o i _ hi with ⟨h,_⟩ | ⟨bc',ba,oa,capc,h1,h,hK,hF⟩
 ·cases h
 ·obtain rfl:bc=bc':=by simpa [ptr] using h1
  refine ⟨ba,oa,capc,h,fun {w' ps' ba' oa' capc'} s' x hb=>s.step hi _ (x.mono fun y o _ g=>(hF y o).2 (seF_kid g)) (.inr ⟨bc,ba',oa',capc',rfl,s',rfl,fun _ _=>Iff.rfl⟩) (fun y o g=>?_) (by rw [hK];exact hb.imp And.left id)⟩
  rcases kidF_new hb g with g | g
  ·exact .inl ((hF y o).2 g)
  ·exact .inr g
end
section
variable {α:Type} {E:Enc α}
theorem SE.down {w w1:World} {hb ho bi oi cap i:Nat} {ks:List α} (h:SE E w hb ho ks bi oi cap) (hi:i<ks.length)
  (x1:Ext (rng bi (oi+i*E.sz) ((ks.length-1-i)*E.sz)) w w1) (r1:Row w1 bi (oi+i*E.sz) (flat E (ks.drop (i+1)))) :
  ∃ z,SE E w1 hb ho (ks.eraseIdx i++[z]) bi oi cap/\Ext (seF E hb ho bi oi cap) w w1:=by
 obtain ⟨z,hz⟩:∃ z,ks.drop (ks.length-1)=[z]:=List.length_eq_one_iff.1 (by rw [List.length_drop];omega)
 refine ⟨z,?_⟩
 rw [<-hz]
 have hne:=h.ne
 have hle:=h.le
 have hcap:=Nat.mul_le_mul_right E.sz hle
 have e1:(ks.length-1)*E.sz=ks.length*E.sz-E.sz:=by rw [Nat.sub_mul,Nat.one_mul]
 have e2:(ks.length-1-i)*E.sz=(ks.length-1)*E.sz-i*E.sz:=Nat.sub_mul _ _ _
 have e3:(i+1)*E.sz<=ks.length*E.sz:=Nat.mul_le_mul_right _ hi
 have e4:(i+1)*E.sz=i*E.sz+E.sz:=by rw [Nat.add_mul,Nat.one_mul]
 have hl:(ks.eraseIdx i++ks.drop (ks.length-1)).length=ks.length:=by rw [List.length_append,List.length_eraseIdx,if_pos hi,List.length_drop];omega
 have X:Ext (seF E hb ho bi oi cap) w w1:=x1.mono fun y o _ g=>.inr (by simp only [rng] at g ⊢;omega)
 refine ⟨⟨by rw [hl];exact x1.rd h.hd (by simp only [rng];omega),?_,X.wok h.wi,by omega,X.wok h.hok,hne⟩,X⟩
 rw [List.eraseIdx_eq_take_drop_succ,List.append_assoc,flat_append,flat_append]
 have hlt:(flat E (ks.take i)).length=i*E.sz:=by rw [flat_length,List.length_take];congr 1;omega
 have hld:(flat E (ks.drop (i+1))).length=ks.length*E.sz-(i+1)*E.sz:=by rw [flat_length,List.length_drop,Nat.sub_mul]
 refine Row.append.2 ⟨?_,Row.append.2 ⟨?_,?_⟩⟩
 ·have h0:=h.row.take (i*E.sz)
  rw [flat_take] at h0
  refine x1.row h0 fun j hj g=>?_
  rw [hlt] at hj;simp only [rng] at g;omega
 ·rw [hlt];exact r1
 ·rw [hlt,hld]
  have h0:=h.row.drop ((ks.length-1)*E.sz)
  rw [flat_drop] at h0
  have ho:oi+i*E.sz+(ks.length*E.sz-(i+1)*E.sz)=oi+(ks.length-1)*E.sz:=by omega
  rw [ho]
  refine x1.row h0 fun j hj g=>?_
  simp only [rng] at g;omega
theorem SE.up {w w1:World} {hb ho bi oi cap o1:Nat} {ks:List α} {z:α} (h:SE E w hb ho (ks++[z]) bi oi cap)
  (x1:Ext (rng bi o1 (ks.length*E.sz)) w w1) (r1:Row w1 bi o1 (flat E ks)) (ho1:0<ks.length->o1=oi+E.sz) :
  SE E w1 hb ho ((ks++[z]).take 1++ks) bi oi cap/\Ext (seF E hb ho bi oi cap) w w1:=by
 have hne:=h.ne
 have hle:=h.le
 rw [List.length_append,List.length_singleton] at hle
 have hcap:=Nat.mul_le_mul_right E.sz hle
 have e1:(ks.length+1)*E.sz=ks.length*E.sz+E.sz:=by rw [Nat.add_mul,Nat.one_mul]
 have hk0:ks.length=0->ks.length*E.sz=0:=fun e=>by rw [e,Nat.zero_mul]
 have X1:Ext (seF E hb ho bi oi cap) w w1:=x1.mono fun y o _ g=>.inr (by
  simp only [rng] at g ⊢
  by_cases hk:0<ks.length
  ·have:=ho1 hk;omega
  ·have:=hk0 (by omega);omega)
 have hl:((ks++[z]).take 1++ks).length=ks.length+1:=by simp only [List.length_append,List.length_take,List.length_singleton];omega
 have hl1:(flat E ((ks++[z]).take 1)).length=E.sz:=by rw [flat_length,List.length_take,List.length_append,List.length_singleton,Nat.min_eq_left (by omega),Nat.one_mul]
 refine ⟨⟨?_,?_,X1.wok h.wi,by omega,X1.wok h.hok,hne⟩,X1⟩
 ·have:=h.hd
  rw [List.length_append,List.length_singleton] at this
  rw [hl]
  exact x1.rd this (by simp only [rng];omega)
 ·rw [flat_append]
  refine Row.append.2 ⟨?_,?_⟩
  ·have h0:=h.row.take (1*E.sz)
   rw [flat_take] at h0
   refine x1.row h0 fun j hj g=>?_
   rw [hl1] at hj
   simp only [rng] at g
   by_cases hk:0<ks.length
   ·have:=ho1 hk;omega
   ·have:=hk0 (by omega);omega
  ·rw [hl1]
   by_cases hk:0<ks.length
   ·rw [<-ho1 hk];exact r1
   ·have:ks=[]:=List.eq_nil_of_length_eq_zero (by omega)
    rw [this];exact Row.nil _ _ _
theorem SE.cut {w w1:World} {hb ho bi oi cap:Nat} {ks:List α} {z:α} (h:SE E w hb ho (ks++[z]) bi oi cap) (x1:Ext (rng hb ho 1) w w1) (r1:rd w1 hb ho=some (.slice (some ⟨bi,oi,none⟩) ks.length cap)) :
  SE E w1 hb ho ks bi oi cap/\Ext (seF E hb ho bi oi cap) w w1:=by
 have hne:=h.ne
 have hle:=h.le
 rw [List.length_append,List.length_singleton] at hle
 have hr:=h.row
 rw [flat_append] at hr
 exact ⟨⟨r1,x1.row (Row.append.1 hr).1 fun j _ g=>by simp only [rng] at g;omega,x1.wok h.wi,by omega,x1.wok h.hok,hne⟩,x1.mono fun y o _ g=>.inl (by simp only [rng] at g;omega)⟩
theorem set_last {A:List α} {z x:α}:(A++[z]).set A.length x=A++[x]:=by simp
theorem set_first {A:List α} {z x:α}:((A++[z]).take 1++A).set 0 x=x::A:=by cases A<;>rfl
theorem SE.app' {w w1:World} {hb ho bi oi cap m:Nat} {ks ls:List α} {v':Value} (h:SE E w hb ho ks bi oi cap) (hm:ls.length=m) (a:AppRes w E.sz (.slice (some ⟨bi,oi,none⟩) ks.length cap) ks.length m (flat E ks) (flat E ls) v' w1) :
  ∃ bi' oi' cap',v' = .slice (some ⟨bi',oi',none⟩) (ks.length+m) cap'/\wok w1 hb (ho+1)/\w.heap.size<=w1.heap.size ∧
   ∀ w2,Ext (rng hb ho 1) w1 w2->rd w2 hb ho=some v'->SE E w2 hb ho (ks++ls) bi' oi' cap'/\Ext (seF E hb ho bi oi cap) w w2/\((bi'=bi/\oi'=oi/\cap'=cap)\/w.heap.size<=bi'):=by
 have key:∃ bi' oi' cap',v' = .slice (some ⟨bi',oi',none⟩) (ks.length+m) cap'/\wok w1 hb (ho+1)/\w.heap.size<=w1.heap.size:=by
  rcases a.2 with ⟨_,_,h3⟩ | ⟨b0,o0,cap0,h1,h2,h3,h4,h5⟩ | ⟨cap',h1,h2,h3,h4⟩
  ·cases h3
  ·exact ⟨_,_,_,h2,h3.wok h.hok,by omega⟩
  ·exact ⟨_,_,_,h1,h2.wok h.hok,by omega⟩
 obtain ⟨bi',oi',cap',hv,hw,hs⟩:=key
 refine ⟨bi',oi',cap',hv,hw,hs,fun w2 x r=>?_⟩
 obtain ⟨bi2,oi2,cap2,hv2,h1,h2,h3⟩:=h.app hm a x r
 rw [hv] at hv2
 simp only [Value.slice.injEq,Option.some.injEq,Addr.mk.injEq,true_and,and_true] at hv2
 obtain ⟨⟨rfl,rfl⟩,rfl⟩:=hv2
 exact ⟨h1,h2,h3.imp id fun g=>Nat.le_of_eq g.1.symm⟩
theorem SE.from {w:World} {hb ho bi oi cap:Nat} {ks:List α} (h:SE E w hb ho ks bi oi cap) {sz:Nat} (hsz:E.sz=sz) (i:Nat) (hi:i<=ks.length) :
  ∃ o1,slFrom bi oi sz i ks.length cap = .slice (some ⟨bi,o1,none⟩) (ks.length-i) (cap-i)/\(i<cap->o1=oi+i*sz)/\SlV w sz (.slice (some ⟨bi,o1,none⟩) (ks.length-i) (cap-i)) (ks.length-i) (flat E (ks.drop i))/\wok w bi (o1+(ks.length-i)*sz):=by
 subst hsz
 have hle:=h.le
 obtain ⟨o1,h1,h2,h3⟩:=slFrom_sl bi oi E.sz i ks.length cap
 have hl:(flat E (ks.drop i)).length=(ks.length-i)*E.sz:=by rw [flat_length,List.length_drop]
 have e1:(ks.length-i)*E.sz=ks.length*E.sz-i*E.sz:=Nat.sub_mul _ _ _
 have e2:=Nat.mul_le_mul_right E.sz hle
 have e3:=Nat.mul_le_mul_right E.sz hi
 have e4:(cap-i)*E.sz=cap*E.sz-i*E.sz:=Nat.sub_mul _ _ _
 by_cases hc:cap=i
 ·have ho:=h3 hc
  have hi0:ks.length-i=0:=by omega
  have hd:ks.drop i=[]:=List.drop_eq_nil_of_le (by omega)
  have e5:(ks.length-i)*E.sz=0:=by rw [hi0,Nat.zero_mul]
  refine ⟨o1,h1,fun g=>by omega,⟨by rw [hl],.inr ⟨bi,o1,cap-i,rfl,by omega,by rw [hd];exact Row.nil _ _ _,(h.wi.mono ?_).R (Nat.le_refl _)⟩⟩,h.wi.mono ?_⟩
  ·omega
  ·omega
 ·have ho:=h2 hc
  have hr:=h.row.drop (i*E.sz)
  rw [flat_drop,<-ho] at hr
  refine ⟨o1,h1,fun _=>ho,⟨by rw [hl],.inr ⟨bi,o1,cap-i,rfl,by omega,hr,(h.wi.mono ?_).R (Nat.le_refl _)⟩⟩,h.wi.mono ?_⟩
  ·omega
  ·omega
theorem New.keep {w w':World} {l:List Value} (n:New w w' l) (L:List Nat) (h:∀ b ∈ L,b<w.heap.size):keeps (some (some L)) w w':=keeps_on n.ext fun x hx=>⟨h x hx,fun _ g=>g⟩
theorem SE.ptr_at {w:World} {bc ba oa capc j p:Nat} {ps:List (Option Nat)} (h:SE Eo w bc 0 ps ba oa capc) (hp:ps[j]? = some (some p)):rd w ba (oa+j)=some (ptr p):=by
 have:=(Row.cons.1 (row_at Eo h.row hp)).1
 rw [Eo_sz,Nat.mul_one] at this
 exact this
end
theorem Ss.kdx {w0 w:World} {G:Nat->Nat->Prop} {P:List Ob} (s:Ss w0 G w P) (i:Nat) {bc:Nat} {ps:List (Option Nat)} (hi:P[i]? = some (kdO (ptr bc) ps)) (h0:0<ps.length) :
  ∃ ba oa capc,SE Eo w bc 0 ps ba oa capc ∧
   (∀ {w':World} {ps':List (Option Nat)} {ba' oa' capc':Nat},SE Eo w' bc 0 ps' ba' oa' capc'->Ext (seF Eo bc 0 ba oa capc) w w'->((ba'=ba/\oa'=oa/\capc'=capc)\/w.heap.size<=ba')->Ss w0 G w' (P.set i (kdO (ptr bc) ps'))) ∧
   (∀ {α:Type} {E:Enc α} (j:Nat) {iso:Int} {z b:Nat} {cnt:Int} {ks:List α} {ch:Value},j ≠ i->P[j]? = some (ndO E iso z b cnt ks ch)->b ≠ ba) ∧
   (∀ (j:Nat) {c:Nat} {qs:List (Option Nat)},j ≠ i->P[j]? = some (kdO (ptr c) qs)->c ≠ ba):=by
 obtain ⟨F,K,s⟩:=s
 rcases s.o i _ hi with ⟨h,_⟩ | ⟨bc',ba,oa,capc,h1,h,hK,hF⟩
 ·cases h
 ·obtain rfl:bc=bc':=by simpa [ptr] using h1
  have hle:=h.le
  have hil:=(List.getElem?_eq_some_iff.1 hi).1
  have hin:F i ba oa:=(hF _ _).2 (.inr ⟨rfl,Nat.le_refl _,by omega⟩)
  refine ⟨ba,oa,capc,h,fun {w' ps' ba' oa' capc'} s' x hb=>s.step hi _ (x.mono fun y o _ g=>(hF y o).2 (seF_kid g)) (.inr ⟨bc,ba',oa',capc',rfl,s',rfl,fun _ _=>Iff.rfl⟩) (fun y o g=>?_) (by rw [hK];exact hb.imp And.left id),fun {α E} j {iso z b cnt ks ch} hji hj hb=>?_,fun j {c qs} hji hj hc=>?_⟩
  ·rcases kidF_new hb g with g | g
   ·exact .inl ((hF y o).2 g)
   ·exact .inr g
  ·obtain ⟨bi,oi,cap,_,_,_,hF'⟩:=s.o j _ hj
   exact s.d j i (List.getElem?_eq_some_iff.1 hj).1 hil hji ba oa ((hF' _ _).2 (.inl hb.symm)) hin
  ·rcases s.o j _ hj with ⟨h,_⟩ | ⟨c',ba',oa',capc',h1,_,_,hF'⟩
   ·cases h
   ·obtain rfl:c=c':=by simpa [ptr] using h1
    exact s.d j i (List.getElem?_eq_some_iff.1 hj).1 hil hji ba oa ((hF' _ _).2 (.inl hc.symm)) hin
theorem app_keep {w w1:World} {sz n m bi oi cap:Nat} {l l':List Value} {v':Value} (a:AppRes w sz (.slice (some ⟨bi,oi,none⟩) n cap) n m l l' v' w1) (L:List Nat) (h:∀ x ∈ L,x<w.heap.size/\x ≠ bi):keeps (some (some L)) w w1:=by
 rcases a.2 with ⟨_,rfl,_⟩ | ⟨b0,o0,cap0,h1,_,h3,_⟩ | ⟨_,_,h2,_⟩
 ·exact keeps_refl _ _
 ·simp only [Value.slice.injEq,Option.some.injEq,Addr.mk.injEq,true_and,and_true] at h1
  obtain ⟨⟨rfl,rfl⟩,rfl⟩:=h1
  exact keeps_on h3 fun x hx=>⟨(h x hx).1,fun o g=>(h x hx).2 g.1⟩
 ·exact keeps_on h2 fun x hx=>⟨(h x hx).1,fun _ g=>g⟩
end Go.Proofs.Ytbnnkcofnmipoaa
namespace Go.Proofs.Ytbnnkcofnmipoaa
open Go Go.Proofs
theorem rb_k (x:It):bsV Try.prog 25 1 [(0,itV x)]=some (33,E.cel x):=by kernel_rfl
theorem rb_o (a:Option Addr):bsV Try.prog 166 1 [(0,.pointer a)]=some (96,[.pointer a]):=by kernel_rfl
theorem rb_eli:elK Try.prog 25=some (33,2,16,E.cel zIt):=by kernel_rfl
theorem rb_elk:elK Try.prog 166=some (96,1,8,[.pointer none]):=by kernel_rfl
theorem rb_len (x:It):(itV x).cells.toList.length=2:=rfl
theorem rb_oc (x:It):oc (itV x).cells.toList:=E.one x
theorem on1_0 (a:Nat):readsB (some (some [a])) a=true:=by simp [readsB]
theorem on2_0 (a b:Nat):readsB (some (some [a,b])) a=true:=by simp [readsB]
theorem on2_1 (a b:Nat):readsB (some (some [a,b])) b=true:=by simp [readsB]
theorem on3_0 (a b c:Nat):readsB (some (some [a,b,c])) a=true:=by simp [readsB]
theorem on3_1 (a b c:Nat):readsB (some (some [a,b,c])) b=true:=by simp [readsB]
theorem on3_2 (a b c:Nat):readsB (some (some [a,b,c])) c=true:=by simp [readsB]
theorem lt1 {B a:Nat} (h:a<B):∀ x ∈ [a],x<B:=by simp [h]
theorem lt2 {B a b:Nat} (h:a<B) (h2:b<B):∀ x ∈ [a,b],x<B:=by simp [h,h2]
theorem fkeep1 {B c a:Nat} (h:a<B/\a ≠ c):∀ x ∈ [a],x<B/\x ≠ c:=by simp [h]
theorem fkeep2 {B c a b:Nat} (h:a<B/\a ≠ c) (h2:b<B/\b ≠ c):∀ x ∈ [a,b],x<B/\x ≠ c:=by simp [h,h2]
theorem ix0 (sz b o n:Nat) (h:0<n):idxX (some sz) ⟨b,o,none⟩ n 0=some (.pointer (some ⟨b,o,none⟩)):=by
 have:=idxX_s sz b o n 0 h
 rwa [Nat.zero_mul,Nat.add_zero] at this
theorem W_st {P:Program} {n:Nat} {c:Code} {Q:Post} {e:Env} {w w0:World} {G:Nat->Nat->Prop} {L:List Ob} {v0 v1 v2 v6 v7:Value} (s:Ss w0 G w L) (h0:e 0=v0) (h1:e 1=v1) (h2:e 2=v2) (h6:e 6=v6) (h7:e 7=v7)
  (h:∀ (e':Env) (w':World),Ss w0 G w' L->e' 0=v0->e' 1=v1->e' 2=v2->e' 6=v6->e' 7=v7->W P n c Q e' w'):W P n c Q e w:=h e w s h0 h1 h2 h6 h7
set_option maxHeartbeats 4000000 in
set_option maxRecDepth 8000 in
theorem reb_merge (m d b p q bc i0 j cl cr:Nat) (iso cb:Int) (ks ls rs:List It) (k:It) (ps lp rp:List (Option Nat)) (chl chr:Value) (w0 w:World) (G:Nat->Nat->Prop) (hd:2<=d) (hd':d<=128) (hc:Cfg w0 m iso d) (hG:∀ o,¬ G m o)
  (s:Ss w0 G w [ndO E iso 1 b cb ks (ptr bc),ndO E iso 0 p (cl:Nat) ls chl,ndO E iso 0 q (cr:Nat) rs chr,kdO (ptr bc) ps,kdO chl lp,kdO chr rp]) (hj:(i0=j/\j<ks.length)\/(i0=ks.length/\j+1=ks.length)) (hkl:ks.length<=2*d-1) (hk:ks[j]? = some k) (hps:ps.length=ks.length+1) (hp:ps[j]? = some (some p)) (hq:ps[j+1]? = some (some q))
  (hch:(chl = .pointer none/\chr = .pointer none/\lp=[]/\rp=[])\/∃ lc rc,chl=ptr lc/\chr=ptr rc/\lp.length=ls.length+1/\rp.length=rs.length+1) (hll:ls.length<=2*d-1) (hrl:rs.length<=2*d-1) (hcl:cl<2305843009213693952) (hcr:cr<2305843009213693952) (hlt:ls.length+rs.length<2*d-1) :
  CallK Try.prog 151 #[ptr m,ptr b,.int .i64 (i0:Nat)] w fun _ w'=>Ss w0 G w' [ndO E iso 1 b cb (ks.eraseIdx j) (ptr bc),ndO E iso 0 p ((cl+(cr+1):Nat):Int) (ls++k::rs) chl,ndO E iso 0 q (cr:Nat) rs chr,kdO (ptr bc) (ps.eraseIdx (j+1)),kdO chl (lp++rp),kdO chr rp]:=by
 have hjn:j<ks.length:=(List.getElem?_eq_some_iff.1 hk).1
 refine calls_of_W [] Try.func151 rfl Try.ntmps151 Try.results151 (by simp) fun e he=>?_
 have e0:e 0=ptr m:=he 0 _ rfl
 have e1:e 1=ptr b:=he 1 _ rfl
 have e2:e 2 = .int .i64 (i0:Nat):=he 2 _ rfl
 clear he
 refine W_sqx fun J hJ=>?_
 have hend:∀ e,e 0=ptr m->e 1=ptr b->e 2 = .int .i64 j->J e w:=by
  clear e0 e1 e2 e
  intro e e0 e1 e2
  refine hJ _ _ ?_;clear hJ J
  obtain ⟨nb,no,nc,on,un,vn⟩:=s.nd 0 rfl
  obtain ⟨xb,xo,xc,ox,ux⟩:=s.kd 3 rfl
  obtain ⟨lb,lo,lq,ol,ul,vl⟩:=s.nd 1 rfl
  obtain ⟨tb,to,tq,ot,ut,vt⟩:=s.nd 2 rfl
  have hiso:=(hc.ext s.x fun o _ _=>hG o).iso
  have hjp:j<ps.length:=by omega
  refine W_sq fun K hK=>(W_text [true,true,true,true,true,true,true,true,true,false,true] (by kernel_rfl) ?_);simp only [↓zZ1,↓reduceIte,Nat.reduceEqDiff,rg,ow_151,e0,e1,e2,ptr_eq,on.h3,ox.hd,hjp]
  refine do_call fn_96 (by simp only [zZ2,Nat.reduceEqDiff,↓reduceIte,zZ4]<;>rfl) (isoLoad_any m xb (xo+j) p true iso _ hiso (ox.ptr_at hp) ol.h0) ?_
  rintro _ w1 ⟨rfl,r1⟩
  refine ⟨trivial,?_⟩
  simp only [↓zZ1,↓reduceIte,Nat.reduceEqDiff,rg,ow_151]
  apply hK;clear hK K
  have X1:Ext noF w w1:=r1.ext
  have on:=on.ext X1 fun _ _ _ g=>g
  have ox:=ox.ext0 X1
  have ot:=ot.ext X1 fun _ _ _ g=>g
  have hiso:=X1.rd hiso fun g=>g
  have q1:=wadd1 j (by omega)
  have hjp:j+1<ps.length:=by omega
  refine W_sq fun K hK=>(W_text [true,true,true,true,true,true,true,true,true,true,false,true] (by kernel_rfl) ?_);simp only [↓zZ1,↓reduceIte,Nat.reduceEqDiff,rg,ow_151,e0,e1,e2,ptr_eq,on.h3,ox.hd,hjp,q1]
  refine do_call fn_96 (by simp only [zZ2,Nat.reduceEqDiff,↓reduceIte,zZ4]<;>rfl) (isoLoad_any m xb (xo+(j+1)) q true iso _ hiso (ox.ptr_at hq) ot.h0) ?_
  rintro _ w2 ⟨rfl,r2⟩
  refine ⟨trivial,?_⟩
  simp only [↓zZ1,↓reduceIte,Nat.reduceEqDiff,rg,ow_151]
  apply hK;clear hK K
  have s2:=(s.ext0 X1).ext0 r2.ext
  refine W_st s2 e0 e1 e2 (by simp only [upd_eq,Nat.reduceEqDiff,↓reduceIte]<;>rfl) (by simp only [upd_eq,Nat.reduceEqDiff,↓reduceIte]<;>rfl) ?_
  clear s s2 e0 e1 e2 on un vn ox ux ol ul vl ot ut vt hiso X1 r1 r2 hjp q1
  clear e;intro e w s e0 e1 e2 e6 e7
  obtain ⟨lb,lo,lq,ol,ul,vl⟩:=s.nd 1 rfl
  obtain ⟨tb,to,tq,ot,ut,vt⟩:=s.nd 2 rfl
  have q1:=wadd ls.length rs.length (by omega)
  have hmx:=(hc.ext s.x fun o _ _=>hG o).mx
  have hb:decide (((ls.length+rs.length:Nat):Int)<((2*d-1:Nat):Int))=true:=by simp;omega
  refine W_sq fun K hK=>(W_draw (some none) none [(0,0,0),(0,1,0),(0,2,0),(0,3,0),(0,4,0),(0,5,0),(0,6,0),(0,7,0),(0,8,0),(0,9,0),(0,10,0),(0,11,0),(0,12,0),(0,13,0),(0,14,0),(0,15,0)] mixed (by kernel_rfl) ?_);simp only [↓zZ1,↓reduceIte,Nat.reduceEqDiff,rg,ow_151,e0,e6,e7,ptr_eq,ol.h2,ot.h2,q1,hmx,hb]
  apply hK;clear hK K
  refine W_true (by simp only [zZ2,Nat.reduceEqDiff,↓reduceIte,zZ3]<;>rfl) ?_
  have s2:=s.ext0 (Ext.dr noF w (w.drawn+1))
  refine W_st s2 e0 e1 e2 e6 e7 ?_
  clear s s2 e0 e1 e2 e6 e7 ol ul vl ot ut vt q1 hmx hb
  clear e;intro e w s e0 e1 e2 e6 e7
  obtain ⟨lb,lo,lq,ol,ul,vl⟩:=s.nd 1 rfl
  obtain ⟨nb,no,nq,on,un,vn⟩:=s.nd 0 rfl
  have hkv:=it_at on.row hk
  have hb_p:=wok_lt ol.wb
  have L0:=on1_0 p
  refine W_sq fun K hK=>(W_semi (some (some [p])) (.take false 0 (.take false 1 (.take false 2 (.take false 3 (.take false 4 (.take false 5 (.take false 6 (.take false 7 (.take true 8 (.take false 9 (.take false 10 (.take true 11 (.act 12 (.bar 13 (.take false 14 (.take false 15 (.bar 16 .nil))))))))))))))))) mixed (by kernel_rfl) ?_);simp only [↓rgm,↓zZ1,↓reduceIte,Nat.reduceEqDiff,rg,ow_151,e0,e1,e2,e6,e7,ptr_eq,ol.h2,on.h2,hjn,hkv,L0,rB_on]
  refine do_bsl rfl (rb_k k) fun w1 n1=>⟨.inr (n1.keep _ (lt1 hb_p)),?_⟩
  simp only [↓zZ1,↓reduceIte,Nat.reduceEqDiff,rg,ow_151,↓rgm]
  have n1:=n1.od
  have a1:=ol.se.ext0 n1.ext
  refine do_append (by simp only [zZ2,Nat.reduceEqDiff,↓reduceIte,zZ3]<;>rfl) (by simp only [zZ2,Nat.reduceEqDiff,↓reduceIte,zZ3]<;>rfl) rb_eli rfl ni_25 a1.slV (u:=.slice (some ⟨w.heap.size,0,none⟩) 1 1) (m:=1) (l':=E.cel k) ⟨rfl,.inr ⟨_,0,1,rfl,Nat.le_refl _,n1.row,n1.wok.R (Nat.le_refl _)⟩⟩ (by omega) (by decide) (E.one _) fun v2 w2 a2=>⟨trivial,?_⟩
  obtain ⟨gb,go,gc,rfl,wk2,-,nx⟩:=a1.app' (ls:=[k]) rfl (by rw [flat_one];exact a2)
  simp only [↓zZ1,↓reduceIte,Nat.reduceEqDiff,rg,ow_151,↓rgm]
  refine do_store (by simp only [zZ2,Nat.reduceEqDiff,↓reduceIte,zZ3]<;>rfl) (by simp only [zZ2,Nat.reduceEqDiff,↓reduceIte,zZ3]<;>rfl) sz_25 rfl wk2 (by decide) (oc_one rfl rfl) fun w3 x3 r3 s3=>⟨trivial,?_⟩
  simp only [↓zZ1,↓reduceIte,Nat.reduceEqDiff,rg,ow_151,↓rgm]
  apply hK;clear hK K
  obtain ⟨g1,g2,g3⟩:=nx w3 x3 (Row.cons.1 r3).1
  have s2:Ss w0 G w3 [ndO E iso 1 b cb ks (ptr bc),ndO E iso 0 p (cl:Nat) (ls++[k]) chl,ndO E iso 0 q (cr:Nat) rs chr,kdO (ptr bc) ps,kdO chl lp,kdO chr rp]:=ul g1 (n1.ext.trans g2 (fun _ _ h=>h.elim) fun _ _ _ h=>h) (g3.imp id fun h=>⟨(by have:=n1.size;omega),Nat.zero_le _⟩)
  refine W_st s2 e0 e1 e2 e6 e7 ?_
  clear s s2 e0 e1 e2 e6 e7 ol ul vl on un vn wk2 nx x3 r3 s3 g1 g2 g3 hkv hb_p n1 a1 a2 L0
  clear e;intro e w s e0 e1 e2 e6 e7
  obtain ⟨lb,lo,lq,ol,ul,vl⟩:=s.nd 1 rfl
  obtain ⟨tb,to,tq,ot,ut,vt⟩:=s.nd 2 rfl
  refine W_sq fun K hK=>(W_semi (some none) (.take false 0 (.take false 1 (.take false 2 (.take false 3 (.take true 4 (.take false 5 (.take false 6 (.take false 7 (.take true 8 (.bar 9 (.take false 10 (.take false 11 (.bar 12 .nil))))))))))))) mixed (by kernel_rfl) ?_);simp only [↓rgm,↓zZ1,↓reduceIte,Nat.reduceEqDiff,rg,ow_151,e0,e1,e2,e6,e7,ptr_eq,ol.h2,ot.h2]
  have a1:=ol.se.ext0 (Ext.dr noF w (w.drawn+1))
  refine do_append (by simp only [zZ2,Nat.reduceEqDiff,↓reduceIte,zZ3]<;>rfl) (by simp only [zZ2,Nat.reduceEqDiff,↓reduceIte,zZ3]<;>rfl) rb_eli rfl ni_25 a1.slV (ot.se.ext0 (Ext.dr noF w (w.drawn+1))).slV (by simp only [List.length_append,List.length_singleton];omega) (by decide) (flat_oc E _) fun v2 w2 a2=>⟨trivial,?_⟩
  obtain ⟨gb,go,gc,rfl,wk2,-,nx⟩:=a1.app' (ls:=rs) rfl a2
  simp only [↓zZ1,↓reduceIte,Nat.reduceEqDiff,rg,ow_151,↓rgm]
  refine do_store (by simp only [zZ2,Nat.reduceEqDiff,↓reduceIte,zZ3]<;>rfl) (by simp only [zZ2,Nat.reduceEqDiff,↓reduceIte,zZ3]<;>rfl) sz_25 rfl wk2 (by decide) (oc_one rfl rfl) fun w3 x3 r3 s3=>⟨trivial,?_⟩
  simp only [↓zZ1,↓reduceIte,Nat.reduceEqDiff,rg,ow_151,↓rgm]
  apply hK;clear hK K
  obtain ⟨g1,g2,g3⟩:=nx w3 x3 (Row.cons.1 r3).1
  have s2:Ss w0 G w3 [ndO E iso 1 b cb ks (ptr bc),ndO E iso 0 p (cl:Nat) ((ls++[k])++rs) chl,ndO E iso 0 q (cr:Nat) rs chr,kdO (ptr bc) ps,kdO chl lp,kdO chr rp]:=ul g1 ((Ext.dr noF w (w.drawn+1)).trans g2 (fun _ _ h=>h.elim) fun _ _ _ h=>h) (g3.imp id fun h=>⟨h,Nat.zero_le _⟩)
  refine W_st s2 e0 e1 e2 e6 e7 ?_
  clear s s2 e0 e1 e2 e6 e7 ol ul vl ot ut vt wk2 nx x3 r3 s3 g1 g2 g3 a1 a2
  clear e;intro e w s e0 e1 e2 e6 e7
  refine W_sqx fun J hJ=>?_
  have hend:∀ e w,Ss w0 G w [ndO E iso 1 b cb ks (ptr bc),ndO E iso 0 p (cl:Nat) ((ls++[k])++rs) chl,ndO E iso 0 q (cr:Nat) rs chr,kdO (ptr bc) ps,kdO chl (lp++rp),kdO chr rp]->e 0=ptr m->e 1=ptr b->e 2 = .int .i64 j->e 6=ptr p->e 7=ptr q->J e w:=by
   clear s e0 e1 e2 e6 e7 e w
   intro e w s e0 e1 e2 e6 e7
   refine hJ _ _ ?_;clear hJ J
   obtain ⟨lb,lo,lq,ol,ul,vl⟩:=s.nd 1 rfl
   obtain ⟨tb,to,tq,ot,ut,vt⟩:=s.nd 2 rfl
   have q1:=wadd1 cr (by omega)
   have q2:=wadd cl (cr+1) (by omega)
   refine W_sq fun K hK=>(W_draw (some none) (some 12) [(0,0,0),(0,1,0),(0,2,0),(0,3,0),(0,4,0),(0,5,0),(0,6,0),(0,7,0),(0,8,0),(0,9,0),(0,10,0),(0,11,0),(1,12,0)] mixed (by kernel_rfl) ?_);simp only [↓zZ1,↓reduceIte,Nat.reduceEqDiff,rg,ow_151,e0,e1,e2,e6,e7,ptr_eq,ol.h1,ot.h1,q1,q2]
   refine do_store (by simp only [zZ2,Nat.reduceEqDiff,↓reduceIte,zZ3]<;>rfl) (by simp only [zZ2,Nat.reduceEqDiff,↓reduceIte,zZ3]<;>rfl) sz_3 rfl ol.wb (by decide) (oc_one rfl rfl) fun w3 x3 r3 s3=>⟨(by first | exact trivial | exact .inl trivial),?_⟩
   simp only [↓zZ1,↓reduceIte,Nat.reduceEqDiff,rg,ow_151,↓rgm]
   apply hK;clear hK K
   have s2:Ss w0 G w3 [ndO E iso 1 b cb ks (ptr bc),ndO E iso 0 p ((cl+(cr+1):Nat):Int) ((ls++[k])++rs) chl,ndO E iso 0 q (cr:Nat) rs chr,kdO (ptr bc) ps,kdO chl (lp++rp),kdO chr rp]:=vl x3.od (Row.cons.1 r3).1
   refine W_st s2 e0 e1 e2 e6 e7 ?_
   clear s s2 e0 e1 e2 e6 e7 ol ul vl ot ut vt x3 r3 s3  q1 q2
   clear e;intro e w s e0 e1 e2 e6 e7
   obtain ⟨nb,no,nq,on,un,vn⟩:=s.nd 0 rfl
   have q1:=wadd1 j (by omega)
   have hil:j<ks.length:=hjn
   have hic:=on.se.le
   obtain ⟨o1,h1,h1',-,k1⟩:=on.se.from E_sz (j) (by omega)
   have h1':=h1' (by omega)
   try simp only [Nat.mul_one] at h1'
   subst h1'
   have i1:j<=ks.length:=by omega
   obtain ⟨o2,h2,-,v2,-⟩:=on.se.from E_sz (j+1) (by omega)
   have i2:(j+1)<=ks.length:=by omega
   refine W_sq fun K hK=>(W_draw (some none) (some 13) [(0,0,0),(0,1,0),(0,2,0),(0,3,0),(0,4,0),(0,5,0),(0,6,0),(0,7,0),(0,8,0),(0,9,0),(0,10,0),(0,11,0),(0,12,0),(1,13,0)] mixed (by kernel_rfl) ?_);simp only [↓zZ1,↓reduceIte,Nat.reduceEqDiff,rg,ow_151,e0,e1,e2,e6,e7,ptr_eq,on.h2,q1,i1,h1,i2,h2]
   refine do_copy (by simp only [zZ2,Nat.reduceEqDiff,↓reduceIte,zZ3]<;>rfl) (by simp only [zZ2,Nat.reduceEqDiff,↓reduceIte,zZ3]<;>rfl) rb_eli (SlV.ext0 v2 (Ext.dr noF w (w.drawn+1))) ((Ext.dr noF w (w.drawn+1)).wok k1) (flat_oc E _) fun w3 x3 r3 s3=>⟨(by first | exact trivial | exact .inl trivial),?_⟩
   simp only [↓zZ1,↓reduceIte,Nat.reduceEqDiff,rg,ow_151,↓rgm]
   apply hK;clear hK K
   have hm:min (ks.length-(j+1)) (ks.length-j)=ks.length-1-j:=by omega
   rw [hm] at x3 r3
   rw [List.take_of_length_le (by rw [flat_length,List.length_drop,E_sz];omega)] at r3
   obtain ⟨z,g1,g2⟩:=on.se.down (i:=j) hil (by simp only [E_sz,Nat.mul_one];(try simp only [Nat.mul_one] at x3);exact x3.od) (by simp only [E_sz,Nat.mul_one];(try simp only [Nat.mul_one] at r3);exact r3)
   have s2:Ss w0 G w3 [ndO E iso 1 b cb (ks.eraseIdx j++[z]) (ptr bc),ndO E iso 0 p ((cl+(cr+1):Nat):Int) ((ls++[k])++rs) chl,ndO E iso 0 q (cr:Nat) rs chr,kdO (ptr bc) ps,kdO chl (lp++rp),kdO chr rp]:=un g1 g2 (.inl ⟨rfl,rfl,rfl⟩)
   refine W_st s2 e0 e1 e2 e6 e7 ?_
   clear s s2 e0 e1 e2 e6 e7 on un vn x3 r3 s3 g1 g2 hm hil hic v2 h2 i2 q1 h1 i1 k1
   clear e;intro e w s e0 e1 e2 e6 e7
   obtain ⟨nb,no,nq,on,un,vn⟩:=s.nd 0 rfl
   have hA:(ks.eraseIdx j++[z]).length=ks.length:=by rw [List.length_append,List.length_singleton];have:=List.length_eraseIdx_of_lt hjn;omega
   have h2:=on.se.hd
   rw [hA] at h2
   have q1:=wsub1 (ks.length) (by omega) (by omega)
   have hi:ks.length-1<ks.length:=by omega
   have z4:=zIt_at (hc.ext s.x fun o _ _=>hG o)
   refine W_sq fun K hK=>(W_draw (some none) (some 15) [(0,0,0),(0,1,0),(0,2,0),(0,3,0),(0,4,0),(0,5,0),(0,6,0),(0,7,0),(0,8,0),(0,9,0),(0,10,0),(0,11,0),(0,12,0),(0,13,0),(0,14,0),(1,15,0)] mixed (by kernel_rfl) ?_);simp only [↓zZ1,↓reduceIte,Nat.reduceEqDiff,rg,ow_151,e0,e1,e2,e6,e7,ptr_eq,h2,q1,hi,z4]
   refine do_store (by simp only [zZ2,Nat.reduceEqDiff,↓reduceIte,zZ3]<;>rfl) (by simp only [zZ2,Nat.reduceEqDiff,↓reduceIte,zZ3]<;>rfl) sz_33 (rb_len zIt) on.se.wi (by have:=on.se.le;rw [E_sz];rw [hA] at this;omega) (rb_oc zIt) fun w3 x3 r3 s3=>⟨(by first | exact trivial | exact .inl trivial),?_⟩
   simp only [↓zZ1,↓reduceIte,Nat.reduceEqDiff,rg,ow_151,↓rgm]
   apply hK;clear hK K
   obtain ⟨g1,g2⟩:=on.se.set (i:=ks.length-1) (x:=zIt) (by rw [hA];omega) (by simp only [E_sz,Nat.mul_one];exact x3.od) (by simp only [E_sz,Nat.mul_one];exact r3)
   have hs:(ks.eraseIdx j++[z]).set (ks.length-1) zIt=ks.eraseIdx j++[zIt]:=by rw [show ks.length-1=(ks.eraseIdx j).length by have:=List.length_eraseIdx_of_lt hjn;omega];exact set_last
   rw [hs] at g1
   have s2:Ss w0 G w3 [ndO E iso 1 b cb (ks.eraseIdx j++[zIt]) (ptr bc),ndO E iso 0 p ((cl+(cr+1):Nat):Int) ((ls++[k])++rs) chl,ndO E iso 0 q (cr:Nat) rs chr,kdO (ptr bc) ps,kdO chl (lp++rp),kdO chr rp]:=un g1 g2 (.inl ⟨rfl,rfl,rfl⟩)
   refine W_st s2 e0 e1 e2 e6 e7 ?_
   clear s s2 e0 e1 e2 e6 e7 on un vn x3 r3 s3 g1 g2 hA h2 q1 hi z4 hs
   clear e;intro e w s e0 e1 e2 e6 e7
   obtain ⟨nb,no,nq,on,un,vn⟩:=s.nd 0 rfl
   have hA:((ks.eraseIdx j)++[zIt]).length=ks.length:=by rw [List.length_append,List.length_singleton];have:=List.length_eraseIdx_of_lt hjn;omega
   have h2:=on.se.hd
   have h4:=on.se.le
   rw [hA] at h2 h4
   have q1:=wsub1 (ks.length) (by omega) (by omega)
   have hi:ks.length-1<=nq:=by omega
   refine W_sq fun K hK=>(W_draw (some none) (some 14) [(0,0,0),(0,1,0),(0,2,0),(0,3,0),(0,4,0),(0,5,0),(0,6,0),(0,7,0),(0,8,0),(0,9,0),(0,10,0),(0,11,0),(0,12,0),(0,13,0),(1,14,0)] mixed (by kernel_rfl) ?_);simp only [↓zZ1,↓reduceIte,Nat.reduceEqDiff,rg,ow_151,e0,e1,e2,e6,e7,ptr_eq,h2,q1,hi]
   refine do_store (by simp only [zZ2,Nat.reduceEqDiff,↓reduceIte,zZ3]<;>rfl) (by simp only [zZ2,Nat.reduceEqDiff,↓reduceIte,zZ3]<;>rfl) sz_25 rfl on.se.hok (by decide) (oc_one rfl rfl) fun w3 x3 r3 s3=>⟨(by first | exact trivial | exact .inl trivial),?_⟩
   simp only [↓zZ1,↓reduceIte,Nat.reduceEqDiff,rg,ow_151,↓rgm]
   apply hK;clear hK K
   obtain ⟨g1,g2⟩:=on.se.cut x3.od (by rw [show ((ks.eraseIdx j)).length=ks.length-1 by have:=List.length_eraseIdx_of_lt hjn;omega];exact (Row.cons.1 r3).1)
   have s2:Ss w0 G w3 [ndO E iso 1 b cb (ks.eraseIdx j) (ptr bc),ndO E iso 0 p ((cl+(cr+1):Nat):Int) ((ls++[k])++rs) chl,ndO E iso 0 q (cr:Nat) rs chr,kdO (ptr bc) ps,kdO chl (lp++rp),kdO chr rp]:=un g1 g2 (.inl ⟨rfl,rfl,rfl⟩)
   refine W_st s2 e0 e1 e2 e6 e7 ?_
   clear s s2 e0 e1 e2 e6 e7 on un vn x3 r3 s3 g1 g2 hA h2 h4 q1 hi
   clear e;intro e w s e0 e1 e2 e6 e7
   have hjp:j+1<ps.length:=by omega
   obtain ⟨nb,no,nq,on,un,vn⟩:=s.nd 0 rfl
   obtain ⟨xb,xo,xq,ox,ux⟩:=s.kd 3 rfl
   have q1:=wadd1 j (by omega)
   have q2:IntKind.i64.wrap ((j:Int)+2)=((j+1+1:Nat):Int):=wadd j 2 (by omega)
   have hil:(j+1)<ps.length:=hjp
   have hic:=ox.le
   obtain ⟨o1,h1,h1',-,k1⟩:=ox.from Eo_sz ((j+1)) (by omega)
   have h1':=h1' (by omega)
   try simp only [Nat.mul_one] at h1'
   subst h1'
   have i1:(j+1)<=ps.length:=by omega
   obtain ⟨o2,h2,-,v2,-⟩:=ox.from Eo_sz ((j+1)+1) (by omega)
   have i2:((j+1)+1)<=ps.length:=by omega
   refine W_sq fun K hK=>(W_draw (some none) (some 18) [(0,0,0),(0,1,0),(0,2,0),(0,3,0),(0,4,0),(0,5,0),(0,6,0),(0,7,0),(0,8,0),(0,9,0),(0,10,0),(0,11,0),(0,12,0),(0,13,0),(0,14,0),(0,15,0),(0,16,0),(0,17,0),(1,18,0)] mixed (by kernel_rfl) ?_);simp only [↓zZ1,↓reduceIte,Nat.reduceEqDiff,rg,ow_151,e0,e1,e2,e6,e7,ptr_eq,on.h3,ox.hd,q1,q2,i1,h1,i2,h2]
   refine do_copy (by simp only [zZ2,Nat.reduceEqDiff,↓reduceIte,zZ3]<;>rfl) (by simp only [zZ2,Nat.reduceEqDiff,↓reduceIte,zZ3]<;>rfl) rb_elk (SlV.ext0 v2 (Ext.dr noF w (w.drawn+1))) ((Ext.dr noF w (w.drawn+1)).wok k1) (flat_oc Eo _) fun w3 x3 r3 s3=>⟨(by first | exact trivial | exact .inl trivial),?_⟩
   simp only [↓zZ1,↓reduceIte,Nat.reduceEqDiff,rg,ow_151,↓rgm]
   apply hK;clear hK K
   have hm:min (ps.length-((j+1)+1)) (ps.length-(j+1))=ps.length-1-(j+1):=by omega
   rw [hm] at x3 r3
   rw [List.take_of_length_le (by rw [flat_length,List.length_drop,Eo_sz];omega)] at r3
   obtain ⟨z,g1,g2⟩:=ox.down (i:=(j+1)) hil (by simpa only [Eo_sz,Nat.mul_one,Nat.zero_mul,Nat.add_zero] using x3.od) (by simpa only [Eo_sz,Nat.mul_one,Nat.zero_mul,Nat.add_zero] using r3)
   have s2:Ss w0 G w3 [ndO E iso 1 b cb (ks.eraseIdx j) (ptr bc),ndO E iso 0 p ((cl+(cr+1):Nat):Int) ((ls++[k])++rs) chl,ndO E iso 0 q (cr:Nat) rs chr,kdO (ptr bc) (ps.eraseIdx (j+1)++[z]),kdO chl (lp++rp),kdO chr rp]:=ux g1 g2 (.inl ⟨rfl,rfl,rfl⟩)
   refine W_st s2 e0 e1 e2 e6 e7 ?_
   clear s s2 e0 e1 e2 e6 e7 on un vn ox ux x3 r3 s3 g1 g2 hm hil hic v2 h2 i2 q1 q2 h1 i1 k1
   clear e;intro e w s e0 e1 e2 e6 e7
   obtain ⟨nb,no,nq,on,un,vn⟩:=s.nd 0 rfl
   obtain ⟨xb,xo,xq,ox,ux⟩:=s.kd 3 rfl
   have hA:(ps.eraseIdx (j+1)++[z]).length=ps.length:=by rw [List.length_append,List.length_singleton];have:=List.length_eraseIdx_of_lt hjp;omega
   have h2:=ox.hd
   rw [hA] at h2
   have q1:=wsub1 (ps.length) (by omega) (by omega)
   have hi:ps.length-1<ps.length:=by omega
   refine W_sq fun K hK=>(W_draw (some none) (some 15) [(0,0,0),(0,1,0),(0,2,0),(0,3,0),(0,4,0),(0,5,0),(0,6,0),(0,7,0),(0,8,0),(0,9,0),(0,10,0),(0,11,0),(0,12,0),(0,13,0),(0,14,0),(1,15,0)] mixed (by kernel_rfl) ?_);simp only [↓zZ1,↓reduceIte,Nat.reduceEqDiff,rg,ow_151,e0,e1,e2,e6,e7,ptr_eq,on.h3,h2,q1,hi]
   refine do_store (by simp only [zZ2,Nat.reduceEqDiff,↓reduceIte,zZ3]<;>rfl) (by simp only [zZ2,Nat.reduceEqDiff,↓reduceIte,zZ3]<;>rfl) sz_96 rfl ox.wi (by have:=ox.le;rw [Eo_sz];rw [hA] at this;omega) (oc_one rfl rfl) fun w3 x3 r3 s3=>⟨(by first | exact trivial | exact .inl trivial),?_⟩
   simp only [↓zZ1,↓reduceIte,Nat.reduceEqDiff,rg,ow_151,↓rgm]
   apply hK;clear hK K
   obtain ⟨g1,g2⟩:=ox.set (i:=ps.length-1) (x:=none) (by rw [hA];omega) (by rw [Eo_sz,Nat.mul_one];exact x3.od) (by rw [Eo_sz,Nat.mul_one];exact r3)
   have hs:(ps.eraseIdx (j+1)++[z]).set (ps.length-1) none=ps.eraseIdx (j+1)++[none]:=by rw [show ps.length-1=(ps.eraseIdx (j+1)).length by have:=List.length_eraseIdx_of_lt hjp;omega];exact set_last
   rw [hs] at g1
   have s2:Ss w0 G w3 [ndO E iso 1 b cb (ks.eraseIdx j) (ptr bc),ndO E iso 0 p ((cl+(cr+1):Nat):Int) ((ls++[k])++rs) chl,ndO E iso 0 q (cr:Nat) rs chr,kdO (ptr bc) (ps.eraseIdx (j+1)++[none]),kdO chl (lp++rp),kdO chr rp]:=ux g1 g2 (.inl ⟨rfl,rfl,rfl⟩)
   refine W_st s2 e0 e1 e2 e6 e7 ?_
   clear s s2 e0 e1 e2 e6 e7 on un vn ox ux x3 r3 s3 g1 g2 hA h2 q1 hi hs
   clear e;intro e w s e0 e1 e2 e6 e7
   obtain ⟨nb,no,nq,on,un,vn⟩:=s.nd 0 rfl
   obtain ⟨xb,xo,xq,ox,ux⟩:=s.kd 3 rfl
   have hA:((ps.eraseIdx (j+1))++[none]).length=ps.length:=by rw [List.length_append,List.length_singleton];have:=List.length_eraseIdx_of_lt hjp;omega
   have h2:=ox.hd
   have h4:=ox.le
   rw [hA] at h2 h4
   have q1:=wsub1 (ps.length) (by omega) (by omega)
   have hi:ps.length-1<=xq:=by omega
   refine W_rg fun K hK=>(W_draw (some none) (some 20) [(0,0,0),(0,1,0),(0,2,0),(0,3,0),(0,4,0),(0,5,0),(0,6,0),(0,7,0),(0,8,0),(0,9,0),(0,10,0),(0,11,0),(0,12,0),(0,13,0),(0,14,0),(0,15,0),(0,16,0),(0,17,0),(0,18,0),(0,19,0),(1,20,0)] mixed (by kernel_rfl) ?_);simp only [↓zZ1,↓reduceIte,Nat.reduceEqDiff,rg,ow_151,e0,e1,e2,e6,e7,ptr_eq,on.h3,h2,q1,hi]
   refine do_store (by simp only [zZ2,Nat.reduceEqDiff,↓reduceIte,zZ3]<;>rfl) (by simp only [zZ2,Nat.reduceEqDiff,↓reduceIte,zZ3]<;>rfl) sz_166 rfl ox.hok (by decide) (oc_one rfl rfl) fun w3 x3 r3 s3=>⟨(by first | exact trivial | exact .inl trivial),?_⟩
   simp only [↓zZ1,↓reduceIte,Nat.reduceEqDiff,rg,ow_151,↓rgm]
   apply hK;clear hK K
   obtain ⟨g1,g2⟩:=ox.cut x3.od (by rw [show ((ps.eraseIdx (j+1))).length=ps.length-1 by have:=List.length_eraseIdx_of_lt hjp;omega];exact (Row.cons.1 r3).1)
   have s2:Ss w0 G w3 [ndO E iso 1 b cb (ks.eraseIdx j) (ptr bc),ndO E iso 0 p ((cl+(cr+1):Nat):Int) ((ls++[k])++rs) chl,ndO E iso 0 q (cr:Nat) rs chr,kdO (ptr bc) (ps.eraseIdx (j+1)),kdO chl (lp++rp),kdO chr rp]:=ux g1 g2 (.inl ⟨rfl,rfl,rfl⟩)
   show endQ _ _ _ _ _ _
   refine endQ_0n ?_
   rw [List.append_assoc] at s2
   exact s2
  obtain ⟨lb,lo,lq,ol,ul,vl⟩:=s.nd 1 rfl
  rcases hch with ⟨rfl,rfl,rfl,rfl⟩ | ⟨lc,rc,rfl,rfl,hlp,hrp⟩
  ·refine W_sq fun K hK=>(W_text [true,false,true] (by kernel_rfl) ?_);simp only [↓zZ1,↓reduceIte,Nat.reduceEqDiff,rg,ow_151,e6]
   refine do_call fn_108 (by simp only [zZ2,Nat.reduceEqDiff,↓reduceIte,zZ4]<;>rfl) (leaf_any p none w ol.h3) ?_
   rintro _ w1 ⟨rfl,hw1⟩
   obtain rfl:w=w1:=hw1.symm
   refine ⟨trivial,?_⟩
   simp only [↓zZ1,↓reduceIte,Nat.reduceEqDiff,rg,ow_151]
   apply hK;clear hK K
   refine W_false (by simp only [zZ2,Nat.reduceEqDiff,↓reduceIte,zZ3]<;>rfl) (W_skip ?_)
   exact hend _ _ s e0 e1 e2 e6 e7
  ·refine W_sq fun K hK=>(W_text [true,false,true] (by kernel_rfl) ?_);simp only [↓zZ1,↓reduceIte,Nat.reduceEqDiff,rg,ow_151,e6]
   refine do_call fn_108 (by simp only [zZ2,Nat.reduceEqDiff,↓reduceIte,zZ4]<;>rfl) (leaf_any p (some ⟨lc,0,none⟩) w ol.h3) ?_
   rintro _ w1 ⟨rfl,hw1⟩
   obtain rfl:w=w1:=hw1.symm
   refine ⟨trivial,?_⟩
   simp only [↓zZ1,↓reduceIte,Nat.reduceEqDiff,rg,ow_151]
   apply hK;clear hK K
   refine W_true (by simp only [zZ2,Nat.reduceEqDiff,↓reduceIte,zZ3]<;>rfl) ?_
   refine W_st s e0 e1 e2 e6 e7 ?_
   clear s e0 e1 e2 e6 e7 ol ul vl
   clear e;intro e w s e0 e1 e2 e6 e7
   obtain ⟨lb,lo,lq,ol,ul,vl⟩:=s.nd 1 rfl
   obtain ⟨yb,yo,yq,oy,uy,fn,fk⟩:=s.kdx 4 rfl (by omega)
   obtain ⟨tb,to,tq,ot,ut,vt⟩:=s.nd 2 rfl
   obtain ⟨zb,zo,zq,oz,uz⟩:=s.kd 5 rfl
   have L0:=on1_0 p
   refine W_rg fun K hK=>(W_semi (some (some [p])) (.take false 0 (.take false 1 (.take false 2 (.take false 3 (.take false 4 (.take false 5 (.take false 6 (.take true 7 (.take false 8 (.take true 9 (.take false 10 (.take false 11 (.take false 12 (.take true 13 (.take false 14 (.take true 15 (.act 16 (.take false 17 (.bar 18 .nil))))))))))))))))))) mixed (by kernel_rfl) ?_);simp only [↓rgm,↓zZ1,↓reduceIte,Nat.reduceEqDiff,rg,ow_151,e0,e1,e2,e6,e7,ptr_eq,ol.h3,oy.hd,ot.h3,oz.hd,L0,rB_on]
   have a1:=oy.ext0 (Ext.dr noF w (w.drawn+1))
   refine do_append (by simp only [zZ2,Nat.reduceEqDiff,↓reduceIte,zZ3]<;>rfl) (by simp only [zZ2,Nat.reduceEqDiff,↓reduceIte,zZ3]<;>rfl) rb_elk rfl ni_166 a1.slV (oz.ext0 (Ext.dr noF w (w.drawn+1))).slV (by omega) (by decide) (flat_oc Eo _) fun v2 w2 a2=>⟨.inr (app_keep a2 _ (fkeep1 ⟨wok_lt ol.wb,fn 1 (by decide) rfl⟩)),?_⟩
   obtain ⟨gb,go,gc,rfl,wk2,-,nx⟩:=a1.app' (ls:=rp) rfl a2
   simp only [↓zZ1,↓reduceIte,Nat.reduceEqDiff,rg,ow_151,↓rgm]
   refine do_store (by simp only [zZ2,Nat.reduceEqDiff,↓reduceIte,zZ3]<;>rfl) (by simp only [zZ2,Nat.reduceEqDiff,↓reduceIte,zZ3]<;>rfl) sz_166 rfl wk2 (by decide) (oc_one rfl rfl) fun w3 x3 r3 s3=>⟨trivial,?_⟩
   simp only [↓zZ1,↓reduceIte,Nat.reduceEqDiff,rg,ow_151,↓rgm]
   apply hK;clear hK K
   obtain ⟨g1,g2,g3⟩:=nx w3 x3 (Row.cons.1 r3).1
   have s2:Ss w0 G w3 [ndO E iso 1 b cb ks (ptr bc),ndO E iso 0 p (cl:Nat) ((ls++[k])++rs) (ptr lc),ndO E iso 0 q (cr:Nat) rs (ptr rc),kdO (ptr bc) ps,kdO (ptr lc) (lp++rp),kdO (ptr rc) rp]:=uy g1 ((Ext.dr noF w (w.drawn+1)).trans g2 (fun _ _ h=>h.elim) fun _ _ _ h=>h) (g3.imp id fun h=>h)
   exact hend _ _ s2 e0 e1 e2 e6 e7
 obtain ⟨nb,no,nc,on,un,vn⟩:=s.nd 0 rfl
 rcases hj with ⟨rfl,hj⟩ | ⟨rfl,hj⟩
 ·have hb:((i0:Int) == (ks.length:Int))=false:=by simp;omega
  refine W_sq fun K hK=>(W_text [true,true,true,true,true,true,true] (by kernel_rfl) ?_);simp only [↓zZ1,↓reduceIte,Nat.reduceEqDiff,rg,ow_151,e1,e2,ptr_eq,on.h2,hb]
  apply hK;clear hK K
  refine W_false (by simp only [zZ2,Nat.reduceEqDiff,↓reduceIte,zZ3]<;>rfl) (W_skip ?_)
  exact hend _ e0 e1 e2
 ·have hb:((ks.length:Int) == (ks.length:Int))=true:=by simp
  refine W_sq fun K hK=>(W_text [true,true,true,true,true,true,true] (by kernel_rfl) ?_);simp only [↓zZ1,↓reduceIte,Nat.reduceEqDiff,rg,ow_151,e1,e2,ptr_eq,on.h2,hb]
  apply hK;clear hK K
  refine W_true (by simp only [zZ2,Nat.reduceEqDiff,↓reduceIte,zZ3]<;>rfl) ?_
  have q1:=wsub1 ks.length (by omega) (by omega)
  have hjs:ks.length-1=j:=by omega
  refine W_rg fun K hK=>(W_text [true,true,true] (by kernel_rfl) ?_);simp only [↓zZ1,↓reduceIte,Nat.reduceEqDiff,rg,ow_151,e2,q1]
  apply hK;clear hK K
  exact hend _ e0 e1 (by simp only [upd_eq,Nat.reduceEqDiff,↓reduceIte]<;>rw [hjs])
set_option maxHeartbeats 4000000 in
set_option maxRecDepth 8000 in
theorem reb_right (m d b p q bc i0 j cl cr:Nat) (iso cb:Int) (ks ls rs:List It) (k x:It) (ps lp rp:List (Option Nat)) (chl chr:Value) (w0 w:World) (G:Nat->Nat->Prop) (hd:2<=d) (hd':d<=128) (hc:Cfg w0 m iso d) (hG:∀ o,¬ G m o)
  (s:Ss w0 G w [ndO E iso 1 b cb ks (ptr bc),ndO E iso 0 p (cl:Nat) (ls++[x]) chl,ndO E iso 0 q (cr:Nat) rs chr,kdO (ptr bc) ps,kdO chl lp,kdO chr rp]) (hj:(i0=j/\j<ks.length)\/(i0=ks.length/\j+1=ks.length)) (hkl:ks.length<=2*d-1) (hk:ks[j]? = some k) (hps:ps.length=ks.length+1) (hp:ps[j]? = some (some p)) (hq:ps[j+1]? = some (some q))
  (hch:(chl = .pointer none/\chr = .pointer none/\lp=[]/\rp=[])\/∃ lc rc,chl=ptr lc/\chr=ptr rc/\lp.length=(ls++[x]).length+1/\rp.length=rs.length+1) (hll:(ls++[x]).length<=2*d-1) (hrl:rs.length<=2*d-1) (hcl:cl<2305843009213693952) (hcr:cr<2305843009213693952) (hlt:2*d-1<=(ls++[x]).length+rs.length) (hgt:rs.length<(ls++[x]).length) (cg:Nat) (hcg:1+cg<=cl) (hcgb:cr+cg<2305843009213693952) (hg:(lp=[]/\cg=0)\/∃ g lp',lp=lp'++[some g]/\rd w0 g 1=some (.int .i64 (cg:Nat))/\∀ o,¬ G g o) :
  CallK Try.prog 151 #[ptr m,ptr b,.int .i64 (i0:Nat)] w fun _ w'=>Ss w0 G w' [ndO E iso 1 b cb (ks.set j x) (ptr bc),ndO E iso 0 p ((cl-1-cg:Nat):Int) ls chl,ndO E iso 0 q ((cr+1+cg:Nat):Int) (k::rs) chr,kdO (ptr bc) ps,kdO chl lp.dropLast,kdO chr (lp.drop (lp.length-1)++rp)]:=by
 have hjn:j<ks.length:=(List.getElem?_eq_some_iff.1 hk).1
 refine calls_of_W [] Try.func151 rfl Try.ntmps151 Try.results151 (by simp) fun e he=>?_
 have e0:e 0=ptr m:=he 0 _ rfl
 have e1:e 1=ptr b:=he 1 _ rfl
 have e2:e 2 = .int .i64 (i0:Nat):=he 2 _ rfl
 clear he
 refine W_sqx fun J hJ=>?_
 have hend:∀ e,e 0=ptr m->e 1=ptr b->e 2 = .int .i64 j->J e w:=by
  clear e0 e1 e2 e
  intro e e0 e1 e2
  refine hJ _ _ ?_;clear hJ J
  obtain ⟨nb,no,nc,on,un,vn⟩:=s.nd 0 rfl
  obtain ⟨xb,xo,xc,ox,ux⟩:=s.kd 3 rfl
  obtain ⟨lb,lo,lq,ol,ul,vl⟩:=s.nd 1 rfl
  obtain ⟨tb,to,tq,ot,ut,vt⟩:=s.nd 2 rfl
  have hiso:=(hc.ext s.x fun o _ _=>hG o).iso
  have hjp:j<ps.length:=by omega
  refine W_sq fun K hK=>(W_text [true,true,true,true,true,true,true,true,true,false,true] (by kernel_rfl) ?_);simp only [↓zZ1,↓reduceIte,Nat.reduceEqDiff,rg,ow_151,e0,e1,e2,ptr_eq,on.h3,ox.hd,hjp]
  refine do_call fn_96 (by simp only [zZ2,Nat.reduceEqDiff,↓reduceIte,zZ4]<;>rfl) (isoLoad_any m xb (xo+j) p true iso _ hiso (ox.ptr_at hp) ol.h0) ?_
  rintro _ w1 ⟨rfl,r1⟩
  refine ⟨trivial,?_⟩
  simp only [↓zZ1,↓reduceIte,Nat.reduceEqDiff,rg,ow_151]
  apply hK;clear hK K
  have X1:Ext noF w w1:=r1.ext
  have on:=on.ext X1 fun _ _ _ g=>g
  have ox:=ox.ext0 X1
  have ot:=ot.ext X1 fun _ _ _ g=>g
  have hiso:=X1.rd hiso fun g=>g
  have q1:=wadd1 j (by omega)
  have hjp:j+1<ps.length:=by omega
  refine W_sq fun K hK=>(W_text [true,true,true,true,true,true,true,true,true,true,false,true] (by kernel_rfl) ?_);simp only [↓zZ1,↓reduceIte,Nat.reduceEqDiff,rg,ow_151,e0,e1,e2,ptr_eq,on.h3,ox.hd,hjp,q1]
  refine do_call fn_96 (by simp only [zZ2,Nat.reduceEqDiff,↓reduceIte,zZ4]<;>rfl) (isoLoad_any m xb (xo+(j+1)) q true iso _ hiso (ox.ptr_at hq) ot.h0) ?_
  rintro _ w2 ⟨rfl,r2⟩
  refine ⟨trivial,?_⟩
  simp only [↓zZ1,↓reduceIte,Nat.reduceEqDiff,rg,ow_151]
  apply hK;clear hK K
  have s2:=(s.ext0 X1).ext0 r2.ext
  refine W_st s2 e0 e1 e2 (by simp only [upd_eq,Nat.reduceEqDiff,↓reduceIte]<;>rfl) (by simp only [upd_eq,Nat.reduceEqDiff,↓reduceIte]<;>rfl) ?_
  clear s s2 e0 e1 e2 on un vn ox ux ol ul vl ot ut vt hiso X1 r1 r2 hjp q1
  clear e;intro e w s e0 e1 e2 e6 e7
  obtain ⟨lb,lo,lq,ol,ul,vl⟩:=s.nd 1 rfl
  obtain ⟨tb,to,tq,ot,ut,vt⟩:=s.nd 2 rfl
  have q1:=wadd (ls++[x]).length rs.length (by omega)
  have hmx:=(hc.ext s.x fun o _ _=>hG o).mx
  have hb:decide ((((ls++[x]).length+rs.length:Nat):Int)<((2*d-1:Nat):Int))=false:=by simp only [decide_eq_false_iff_not];omega
  refine W_sq fun K hK=>(W_draw (some none) none [(0,0,0),(0,1,0),(0,2,0),(0,3,0),(0,4,0),(0,5,0),(0,6,0),(0,7,0),(0,8,0),(0,9,0),(0,10,0),(0,11,0),(0,12,0),(0,13,0),(0,14,0),(0,15,0)] mixed (by kernel_rfl) ?_);simp only [↓zZ1,↓reduceIte,Nat.reduceEqDiff,rg,ow_151,e0,e6,e7,ptr_eq,ol.h2,ot.h2,q1,hmx,hb]
  apply hK;clear hK K
  refine W_false (by simp only [zZ2,Nat.reduceEqDiff,↓reduceIte,zZ3]<;>rfl) ?_
  have hb2:decide ((rs.length:Int)<((ls++[x]).length:Int))=true:=by simp only [decide_eq_true_eq];omega
  refine W_sq fun K hK=>(W_draw (some none) none [(0,0,0),(0,1,0),(0,2,0),(0,3,0),(0,4,0),(0,5,0),(0,6,0),(0,7,0),(0,8,0),(0,9,0),(0,10,0)] mixed (by kernel_rfl) ?_);simp only [↓zZ1,↓reduceIte,Nat.reduceEqDiff,rg,ow_151,e0,e6,e7,ptr_eq,ol.h2,ot.h2,hb2]
  apply hK;clear hK K
  refine W_true (by simp only [zZ2,Nat.reduceEqDiff,↓reduceIte,zZ3]<;>rfl) ?_
  refine W_st (s.ext0 (Ext.dr noF w _)) e0 e1 e2 e6 e7 ?_
  clear s e0 e1 e2 e6 e7 ol ul vl ot ut vt q1 hmx hb hb2
  clear e;intro e w s e0 e1 e2 e6 e7
  obtain ⟨n0,hn0⟩:∃ n0,n0=ls.length+1:=⟨_,rfl⟩
  have hnl:(ls++[x]).length=n0:=by simp [hn0]
  obtain ⟨tb,to,tq,ot,ut,vt⟩:=s.nd 2 rfl
  have z4:=zIt_at (hc.ext s.x fun o _ _=>hG o)
  have hb_q:=wok_lt ot.wb
  have L0:=on1_0 q
  refine W_sq fun K hK=>(W_semi (some (some [q])) (.take false 0 (.take false 1 (.take false 2 (.take false 3 (.take false 4 (.take false 5 (.take false 6 (.take false 7 (.take true 8 (.act 9 (.bar 10 (.take false 11 (.take false 12 (.bar 13 .nil)))))))))))))) mixed (by kernel_rfl) ?_);simp only [↓rgm,↓zZ1,↓reduceIte,Nat.reduceEqDiff,rg,ow_151,e0,e1,e2,e6,e7,ptr_eq,ot.h2,z4,L0,rB_on]
  refine do_bsl rfl (rb_k zIt) fun w1 n1=>⟨.inr (n1.keep _ (lt1 hb_q)),?_⟩
  simp only [↓zZ1,↓reduceIte,Nat.reduceEqDiff,rg,ow_151,↓rgm]
  have n1:=n1.od
  have a1:=ot.se.ext0 n1.ext
  refine do_append (by simp only [zZ2,Nat.reduceEqDiff,↓reduceIte,zZ3]<;>rfl) (by simp only [zZ2,Nat.reduceEqDiff,↓reduceIte,zZ3]<;>rfl) rb_eli rfl ni_25 a1.slV (u:=.slice (some ⟨w.heap.size,0,none⟩) 1 1) (m:=1) (l':=E.cel zIt) ⟨rfl,.inr ⟨_,0,1,rfl,Nat.le_refl _,n1.row,n1.wok.R (Nat.le_refl _)⟩⟩ (by omega) (by decide) (E.one _) fun v2 w2 a2=>⟨trivial,?_⟩
  obtain ⟨gb,go,gc,rfl,wk2,-,nx⟩:=a1.app' (ls:=[zIt]) rfl (by rw [flat_one];exact a2)
  simp only [↓zZ1,↓reduceIte,Nat.reduceEqDiff,rg,ow_151,↓rgm]
  refine do_store (by simp only [zZ2,Nat.reduceEqDiff,↓reduceIte,zZ3]<;>rfl) (by simp only [zZ2,Nat.reduceEqDiff,↓reduceIte,zZ3]<;>rfl) sz_25 rfl wk2 (by decide) (oc_one rfl rfl) fun w3 x3 r3 s3=>⟨trivial,?_⟩
  simp only [↓zZ1,↓reduceIte,Nat.reduceEqDiff,rg,ow_151,↓rgm]
  apply hK;clear hK K
  obtain ⟨g1,g2,g3⟩:=nx w3 x3 (Row.cons.1 r3).1
  have s2:Ss w0 G w3 [ndO E iso 1 b cb ks (ptr bc),ndO E iso 0 p (cl:Nat) (ls++[x]) chl,ndO E iso 0 q (cr:Nat) (rs++[zIt]) chr,kdO (ptr bc) ps,kdO chl lp,kdO chr rp]:=ut g1 (n1.ext.trans g2 (fun _ _ h=>h.elim) fun _ _ _ h=>h) (g3.imp id fun h=>⟨(by have:=n1.size;omega),Nat.zero_le _⟩)
  refine W_st s2 e0 e1 e2 e6 e7 ?_
  clear s s2 e0 e1 e2 e6 e7 ot ut vt wk2 nx x3 r3 s3 g1 g2 g3 z4 hb_q n1 a1 a2 L0
  clear e;intro e w s e0 e1 e2 e6 e7
  obtain ⟨tb,to,tq,ot,ut,vt⟩:=s.nd 2 rfl
  have hic:=ot.se.le
  have hle:(rs++[zIt]).length=rs.length+1:=by simp
  have i2:1<=(rs++[zIt]).length:=by omega
  obtain ⟨o1,h1,h1',-,k1⟩:=ot.se.from E_sz 1 i2
  have h3:slcX (some 2) (.slice (some ⟨tb,to,none⟩) (rs++[zIt]).length tq) (some (.int .i64 1)) none none=some (slFrom tb to 2 1 (rs++[zIt]).length tq):=slcX_lo _ _ _ _ _ 1 _ i2
  refine W_sq fun K hK=>(W_draw (some none) (some 9) [(0,0,0),(0,1,0),(0,2,0),(0,3,0),(0,4,0),(0,5,0),(0,6,0),(0,7,0),(0,8,0),(1,9,0)] mixed (by kernel_rfl) ?_);simp only [↓zZ1,↓reduceIte,Nat.reduceEqDiff,rg,ow_151,e0,e1,e2,e6,e7,ptr_eq,ot.h2,h3,h1]
  refine do_copy (by simp only [zZ2,Nat.reduceEqDiff,↓reduceIte,zZ3]<;>rfl) (by simp only [zZ2,Nat.reduceEqDiff,↓reduceIte,zZ3]<;>rfl) rb_eli (SlV.ext0 ot.se.slV (Ext.dr noF w (w.drawn+1))) ((Ext.dr noF w (w.drawn+1)).wok k1) (flat_oc E _) fun w3 x3 r3 s3=>⟨(by first | exact trivial | exact .inl trivial),?_⟩
  simp only [↓zZ1,↓reduceIte,Nat.reduceEqDiff,rg,ow_151,↓rgm]
  apply hK;clear hK K
  have hm:min (rs++[zIt]).length ((rs++[zIt]).length-1)=rs.length:=by omega
  rw [hm] at x3 r3
  rw [show rs.length*2=rs.length*E.sz from rfl,flat_take,List.take_left' rfl] at r3
  obtain ⟨g1,g2⟩:=ot.se.up x3.od r3 fun hA=>by have:=h1' (by omega);rw [E_sz];omega
  have s2:Ss w0 G w3 [ndO E iso 1 b cb ks (ptr bc),ndO E iso 0 p (cl:Nat) (ls++[x]) chl,ndO E iso 0 q (cr:Nat) ((rs++[zIt]).take 1++rs) chr,kdO (ptr bc) ps,kdO chl lp,kdO chr rp]:=ut g1 g2 (.inl ⟨rfl,rfl,rfl⟩)
  refine W_st s2 e0 e1 e2 e6 e7 ?_
  clear s s2 e0 e1 e2 e6 e7 ot ut vt x3 r3 s3 g1 g2 hm hic hle i2 h1 h1' k1 h3
  clear e;intro e w s e0 e1 e2 e6 e7
  obtain ⟨tb,to,tq,ot,ut,vt⟩:=s.nd 2 rfl
  obtain ⟨nb,no,nq,on,un,vn⟩:=s.nd 0 rfl
  have hkv:=it_at on.row hk
  have hl0:0<((rs++[zIt]).take 1++rs).length:=by simp only [List.length_append,List.length_take,List.length_cons,List.length_nil];omega
  have i0:=ix0 2 tb to ((rs++[zIt]).take 1++rs).length hl0
  refine W_sq fun K hK=>(W_draw (some none) (some 12) [(0,0,0),(0,1,0),(0,2,0),(0,3,0),(0,4,0),(0,5,0),(0,6,0),(0,7,0),(0,8,0),(0,9,0),(0,10,0),(0,11,0),(1,12,0)] mixed (by kernel_rfl) ?_);simp only [↓zZ1,↓reduceIte,Nat.reduceEqDiff,rg,ow_151,e0,e1,e2,e6,e7,ptr_eq,ot.h2,on.h2,hjn,hkv,i0]
  refine do_store (by simp only [zZ2,Nat.reduceEqDiff,↓reduceIte,zZ3]<;>rfl) (by simp only [zZ2,Nat.reduceEqDiff,↓reduceIte,zZ3]<;>rfl) sz_33 (rb_len k) ot.se.wi (by have:=ot.se.le;rw [E_sz];skip;omega) (rb_oc k) fun w3 x3 r3 s3=>⟨(by first | exact trivial | exact .inl trivial),?_⟩
  simp only [↓zZ1,↓reduceIte,Nat.reduceEqDiff,rg,ow_151,↓rgm]
  apply hK;clear hK K
  obtain ⟨g1,g2⟩:=ot.se.set (i:=0) (x:=k) (hl0) (by rw [Nat.zero_mul,Nat.add_zero];exact x3.od) (by rw [Nat.zero_mul,Nat.add_zero];exact r3)
  rw [set_first] at g1
  have s2:Ss w0 G w3 [ndO E iso 1 b cb ks (ptr bc),ndO E iso 0 p (cl:Nat) (ls++[x]) chl,ndO E iso 0 q (cr:Nat) (k::rs) chr,kdO (ptr bc) ps,kdO chl lp,kdO chr rp]:=ut g1 g2 (.inl ⟨rfl,rfl,rfl⟩)
  refine W_st s2 e0 e1 e2 e6 e7 ?_
  clear s s2 e0 e1 e2 e6 e7 ot ut vt on un vn x3 r3 s3 g1 g2 hkv hl0 i0
  clear e;intro e w s e0 e1 e2 e6 e7
  obtain ⟨tb,to,tq,ot,ut,vt⟩:=s.nd 2 rfl
  have q1:=wadd1 cr (by omega)
  refine W_sq fun K hK=>(W_text [true,true,true,true,true,true,true,false] (by kernel_rfl) ?_);simp only [↓zZ1,↓reduceIte,Nat.reduceEqDiff,rg,ow_151,e0,e1,e2,e6,e7,ptr_eq,ot.h1,q1]
  refine do_store (by simp only [zZ2,Nat.reduceEqDiff,↓reduceIte,zZ3]<;>rfl) (by simp only [zZ2,Nat.reduceEqDiff,↓reduceIte,zZ3]<;>rfl) sz_3 rfl ot.wb (by decide) (oc_one rfl rfl) fun w3 x3 r3 s3=>⟨(by first | exact trivial | exact .inl trivial),?_⟩
  simp only [↓zZ1,↓reduceIte,Nat.reduceEqDiff,rg,ow_151,↓rgm]
  apply hK;clear hK K
  have s2:Ss w0 G w3 [ndO E iso 1 b cb ks (ptr bc),ndO E iso 0 p (cl:Nat) (ls++[x]) chl,ndO E iso 0 q ((cr+1:Nat):Int) (k::rs) chr,kdO (ptr bc) ps,kdO chl lp,kdO chr rp]:=vt x3 (Row.cons.1 r3).1
  refine W_st s2 e0 e1 e2 e6 e7 ?_
  clear s s2 e0 e1 e2 e6 e7 ot ut vt x3 r3 s3  q1
  clear e;intro e w s e0 e1 e2 e6 e7
  obtain ⟨nb,no,nq,on,un,vn⟩:=s.nd 0 rfl
  obtain ⟨lb,lo,lq,ol,ul,vl⟩:=s.nd 1 rfl
  have h2:=ol.h2
  rw [hnl] at h2
  have q1:=wsub1 n0 (by omega) (by omega)
  have hi:n0-1<n0:=by omega
  have hxv:=it_at ol.row (i:=n0-1) (x:=x) (by simp [hn0])
  refine W_sq fun K hK=>(W_draw (some none) (some 18) [(0,0,0),(0,1,0),(0,2,0),(0,3,0),(0,4,0),(0,5,0),(0,6,0),(0,7,0),(0,8,0),(0,9,0),(0,10,0),(0,11,0),(0,12,0),(0,13,0),(0,14,0),(0,15,0),(0,16,0),(0,17,0),(1,18,0)] mixed (by kernel_rfl) ?_);simp only [↓zZ1,↓reduceIte,Nat.reduceEqDiff,rg,ow_151,e0,e1,e2,e6,e7,ptr_eq,on.h2,h2,hjn,q1,hi,hxv]
  refine do_store (by simp only [zZ2,Nat.reduceEqDiff,↓reduceIte,zZ3]<;>rfl) (by simp only [zZ2,Nat.reduceEqDiff,↓reduceIte,zZ3]<;>rfl) sz_33 (rb_len x) on.se.wi (by have:=on.se.le;rw [E_sz];skip;omega) (rb_oc x) fun w3 x3 r3 s3=>⟨(by first | exact trivial | exact .inl trivial),?_⟩
  simp only [↓zZ1,↓reduceIte,Nat.reduceEqDiff,rg,ow_151,↓rgm]
  apply hK;clear hK K
  obtain ⟨g1,g2⟩:=on.se.set (i:=j) (x:=x) (hjn) (by simp only [E_sz,Nat.mul_one];exact x3.od) (by simp only [E_sz,Nat.mul_one];exact r3)
  skip
  have s2:Ss w0 G w3 [ndO E iso 1 b cb (ks.set j x) (ptr bc),ndO E iso 0 p (cl:Nat) (ls++[x]) chl,ndO E iso 0 q ((cr+1:Nat):Int) (k::rs) chr,kdO (ptr bc) ps,kdO chl lp,kdO chr rp]:=un g1 g2 (.inl ⟨rfl,rfl,rfl⟩)
  refine W_st s2 e0 e1 e2 e6 e7 ?_
  clear s s2 e0 e1 e2 e6 e7 on un vn ol ul vl x3 r3 s3 g1 g2 h2 q1 hi hxv
  clear e;intro e w s e0 e1 e2 e6 e7
  obtain ⟨lb,lo,lq,ol,ul,vl⟩:=s.nd 1 rfl
  have hA:(ls++[x]).length=n0:=by rw [List.length_append,List.length_singleton];skip;omega
  have h2:=ol.se.hd
  rw [hA] at h2
  have q1:=wsub1 (n0) (by omega) (by omega)
  have hi:n0-1<n0:=by omega
  have z4:=zIt_at (hc.ext s.x fun o _ _=>hG o)
  refine W_sq fun K hK=>(W_draw (some none) (some 15) [(0,0,0),(0,1,0),(0,2,0),(0,3,0),(0,4,0),(0,5,0),(0,6,0),(0,7,0),(0,8,0),(0,9,0),(0,10,0),(0,11,0),(0,12,0),(0,13,0),(0,14,0),(1,15,0)] mixed (by kernel_rfl) ?_);simp only [↓zZ1,↓reduceIte,Nat.reduceEqDiff,rg,ow_151,e0,e1,e2,e6,e7,ptr_eq,h2,q1,hi,z4]
  refine do_store (by simp only [zZ2,Nat.reduceEqDiff,↓reduceIte,zZ3]<;>rfl) (by simp only [zZ2,Nat.reduceEqDiff,↓reduceIte,zZ3]<;>rfl) sz_33 (rb_len zIt) ol.se.wi (by have:=ol.se.le;rw [E_sz];rw [hA] at this;omega) (rb_oc zIt) fun w3 x3 r3 s3=>⟨(by first | exact trivial | exact .inl trivial),?_⟩
  simp only [↓zZ1,↓reduceIte,Nat.reduceEqDiff,rg,ow_151,↓rgm]
  apply hK;clear hK K
  obtain ⟨g1,g2⟩:=ol.se.set (i:=n0-1) (x:=zIt) (by rw [hA];omega) (by simp only [E_sz,Nat.mul_one];exact x3.od) (by simp only [E_sz,Nat.mul_one];exact r3)
  have hs:(ls++[x]).set (n0-1) zIt=ls++[zIt]:=by rw [show n0-1=(ls).length by skip;omega];exact set_last
  rw [hs] at g1
  have s2:Ss w0 G w3 [ndO E iso 1 b cb (ks.set j x) (ptr bc),ndO E iso 0 p (cl:Nat) (ls++[zIt]) chl,ndO E iso 0 q ((cr+1:Nat):Int) (k::rs) chr,kdO (ptr bc) ps,kdO chl lp,kdO chr rp]:=ul g1 g2 (.inl ⟨rfl,rfl,rfl⟩)
  refine W_st s2 e0 e1 e2 e6 e7 ?_
  clear s s2 e0 e1 e2 e6 e7 ol ul vl x3 r3 s3 g1 g2 hA h2 q1 hi z4 hs
  clear e;intro e w s e0 e1 e2 e6 e7
  obtain ⟨lb,lo,lq,ol,ul,vl⟩:=s.nd 1 rfl
  have hA:(ls++[zIt]).length=n0:=by rw [List.length_append,List.length_singleton];skip;omega
  have h2:=ol.se.hd
  have h4:=ol.se.le
  rw [hA] at h2 h4
  have q1:=wsub1 (n0) (by omega) (by omega)
  have hi:n0-1<=lq:=by omega
  refine W_sq fun K hK=>(W_draw (some none) (some 14) [(0,0,0),(0,1,0),(0,2,0),(0,3,0),(0,4,0),(0,5,0),(0,6,0),(0,7,0),(0,8,0),(0,9,0),(0,10,0),(0,11,0),(0,12,0),(0,13,0),(1,14,0)] mixed (by kernel_rfl) ?_);simp only [↓zZ1,↓reduceIte,Nat.reduceEqDiff,rg,ow_151,e0,e1,e2,e6,e7,ptr_eq,h2,q1,hi]
  refine do_store (by simp only [zZ2,Nat.reduceEqDiff,↓reduceIte,zZ3]<;>rfl) (by simp only [zZ2,Nat.reduceEqDiff,↓reduceIte,zZ3]<;>rfl) sz_25 rfl ol.se.hok (by decide) (oc_one rfl rfl) fun w3 x3 r3 s3=>⟨(by first | exact trivial | exact .inl trivial),?_⟩
  simp only [↓zZ1,↓reduceIte,Nat.reduceEqDiff,rg,ow_151,↓rgm]
  apply hK;clear hK K
  obtain ⟨g1,g2⟩:=ol.se.cut x3.od (by rw [show (ls).length=n0-1 by skip;omega];exact (Row.cons.1 r3).1)
  have s2:Ss w0 G w3 [ndO E iso 1 b cb (ks.set j x) (ptr bc),ndO E iso 0 p (cl:Nat) ls chl,ndO E iso 0 q ((cr+1:Nat):Int) (k::rs) chr,kdO (ptr bc) ps,kdO chl lp,kdO chr rp]:=ul g1 g2 (.inl ⟨rfl,rfl,rfl⟩)
  refine W_st s2 e0 e1 e2 e6 e7 ?_
  clear s s2 e0 e1 e2 e6 e7 ol ul vl x3 r3 s3 g1 g2 hA h2 h4 q1 hi
  clear e;intro e w s e0 e1 e2 e6 e7
  obtain ⟨lb,lo,lq,ol,ul,vl⟩:=s.nd 1 rfl
  have q1:=wsub1 cl (by omega) (by omega)
  refine W_sq fun K hK=>(W_text [true,true,true,true,true,true,true,false] (by kernel_rfl) ?_);simp only [↓zZ1,↓reduceIte,Nat.reduceEqDiff,rg,ow_151,e0,e1,e2,e6,e7,ptr_eq,ol.h1,q1]
  refine do_store (by simp only [zZ2,Nat.reduceEqDiff,↓reduceIte,zZ3]<;>rfl) (by simp only [zZ2,Nat.reduceEqDiff,↓reduceIte,zZ3]<;>rfl) sz_3 rfl ol.wb (by decide) (oc_one rfl rfl) fun w3 x3 r3 s3=>⟨(by first | exact trivial | exact .inl trivial),?_⟩
  simp only [↓zZ1,↓reduceIte,Nat.reduceEqDiff,rg,ow_151,↓rgm]
  apply hK;clear hK K
  have s2:Ss w0 G w3 [ndO E iso 1 b cb (ks.set j x) (ptr bc),ndO E iso 0 p ((cl-1:Nat):Int) ls chl,ndO E iso 0 q ((cr+1:Nat):Int) (k::rs) chr,kdO (ptr bc) ps,kdO chl lp,kdO chr rp]:=vl x3 (Row.cons.1 r3).1
  refine W_st s2 e0 e1 e2 e6 e7 ?_
  clear s s2 e0 e1 e2 e6 e7 ol ul vl x3 r3 s3  q1
  clear e;intro e w s e0 e1 e2 e6 e7
  obtain ⟨lb,lo,lq,ol,ul,vl⟩:=s.nd 1 rfl
  rcases hch with ⟨rfl,rfl,rfl,rfl⟩ | ⟨lc,rc,rfl,rfl,hlp,hrp⟩
  ·refine W_sq fun K hK=>(W_text [true,false,true] (by kernel_rfl) ?_);simp only [↓zZ1,↓reduceIte,Nat.reduceEqDiff,rg,ow_151,e6]
   refine do_call fn_108 (by simp only [zZ2,Nat.reduceEqDiff,↓reduceIte,zZ4]<;>rfl) (leaf_any p none w ol.h3) ?_
   rintro _ w1 ⟨rfl,hw1⟩
   obtain rfl:w=w1:=hw1.symm
   refine ⟨trivial,?_⟩
   simp only [↓zZ1,↓reduceIte,Nat.reduceEqDiff,rg,ow_151]
   apply hK;clear hK K
   refine W_false (by simp only [zZ2,Nat.reduceEqDiff,↓reduceIte,zZ3]<;>rfl) (W_skip ?_)
   show endQ _ _ _ _ _ _
   refine endQ_0n ?_
   obtain rfl:cg=0:=by
    rcases hg with ⟨_,h⟩ | ⟨g,lp',h,_⟩
    ·exact h
    ·simp at h
   exact s
  ·refine W_sq fun K hK=>(W_text [true,false,true] (by kernel_rfl) ?_);simp only [↓zZ1,↓reduceIte,Nat.reduceEqDiff,rg,ow_151,e6]
   refine do_call fn_108 (by simp only [zZ2,Nat.reduceEqDiff,↓reduceIte,zZ4]<;>rfl) (leaf_any p (some ⟨lc,0,none⟩) w ol.h3) ?_
   rintro _ w1 ⟨rfl,hw1⟩
   obtain rfl:w=w1:=hw1.symm
   refine ⟨trivial,?_⟩
   simp only [↓zZ1,↓reduceIte,Nat.reduceEqDiff,rg,ow_151]
   apply hK;clear hK K
   refine W_true (by simp only [zZ2,Nat.reduceEqDiff,↓reduceIte,zZ3]<;>rfl) ?_
   refine W_st s e0 e1 e2 e6 e7 ?_
   clear s e0 e1 e2 e6 e7 ol ul vl
   clear e;intro e w s e0 e1 e2 e6 e7
   obtain ⟨g,lp',rfl,hgc,hgG⟩:∃ g lp',lp=lp'++[some g]/\rd w0 g 1=some (.int .i64 (cg:Nat))/\∀ o,¬ G g o:=by
    rcases hg with ⟨h,_⟩ | h
    ·rw [h] at hlp;cases hlp
    ·exact h
   obtain ⟨n2,hn2⟩:∃ n2,n2=lp'.length+1:=⟨_,rfl⟩
   have hnk:(lp'++[some g]).length=n2:=by simp [hn2]
   have hrp0:rp.length<=2*d:=by omega
   have hn2b:n2<=2*d:=by omega
   clear hlp hll hrl hgt hlt hnl
   obtain ⟨tb,to,tq,ot,ut,vt⟩:=s.nd 2 rfl
   obtain ⟨zb,zo,zq,oz,uz,fn,fk⟩:=s.kdx 5 rfl (by omega)
   have hb_q:=wok_lt ot.wb
   have hb_rc:=wok_lt oz.hok
   have L0:=on2_0 q rc
   have L1:=on2_1 q rc
   refine W_sq fun K hK=>(W_semi (some (some [q,rc])) (.take false 0 (.take false 1 (.take false 2 (.take false 3 (.take false 4 (.take false 5 (.take false 6 (.take false 7 (.take false 8 (.take false 9 (.act 10 (.act 11 (.take false 12 (.bar 13 .nil)))))))))))))) mixed (by kernel_rfl) ?_);simp only [↓rgm,↓zZ1,↓reduceIte,Nat.reduceEqDiff,rg,ow_151,e0,e1,e2,e6,e7,ptr_eq,ot.h3,oz.hd,L0,L1,rB_on]
   refine do_bsl rfl (rb_o none) fun w1 n1=>⟨.inr (n1.keep _ (lt2 hb_q hb_rc)),?_⟩
   simp only [↓zZ1,↓reduceIte,Nat.reduceEqDiff,rg,ow_151,↓rgm]
   have n1:=n1.od
   have a1:=oz.ext0 n1.ext
   refine do_append (by simp only [zZ2,Nat.reduceEqDiff,↓reduceIte,zZ3]<;>rfl) (by simp only [zZ2,Nat.reduceEqDiff,↓reduceIte,zZ3]<;>rfl) rb_elk rfl ni_166 a1.slV (u:=.slice (some ⟨w.heap.size,0,none⟩) 1 1) (m:=1) (l':=Eo.cel none) ⟨rfl,.inr ⟨_,0,1,rfl,Nat.le_refl _,n1.row,n1.wok.R (Nat.le_refl _)⟩⟩ (by omega) (by decide) (Eo.one _) fun v2 w2 a2=>⟨.inr (app_keep a2 _ (fkeep2 ⟨wok_lt (n1.ext.wok ot.wb),fn 2 (by decide) rfl⟩ ⟨wok_lt (n1.ext.wok oz.hok),oz.ne.symm⟩)),?_⟩
   obtain ⟨gb,go,gc,rfl,wk2,-,nx⟩:=a1.app' (ls:=[none]) rfl (by rw [flat_one];exact a2)
   simp only [↓zZ1,↓reduceIte,Nat.reduceEqDiff,rg,ow_151,↓rgm]
   refine do_store (by simp only [zZ2,Nat.reduceEqDiff,↓reduceIte,zZ3]<;>rfl) (by simp only [zZ2,Nat.reduceEqDiff,↓reduceIte,zZ3]<;>rfl) sz_166 rfl wk2 (by decide) (oc_one rfl rfl) fun w3 x3 r3 s3=>⟨trivial,?_⟩
   simp only [↓zZ1,↓reduceIte,Nat.reduceEqDiff,rg,ow_151,↓rgm]
   apply hK;clear hK K
   obtain ⟨g1,g2,g3⟩:=nx w3 x3 (Row.cons.1 r3).1
   have s2:Ss w0 G w3 [ndO E iso 1 b cb (ks.set j x) (ptr bc),ndO E iso 0 p ((cl-1:Nat):Int) ls (ptr lc),ndO E iso 0 q ((cr+1:Nat):Int) (k::rs) (ptr rc),kdO (ptr bc) ps,kdO (ptr lc) (lp'++[some g]),kdO (ptr rc) (rp++[none])]:=uz g1 (n1.ext.trans g2 (fun _ _ h=>h.elim) fun _ _ _ h=>h) (g3.imp id fun h=>(by have:=n1.size;omega))
   refine W_st s2 e0 e1 e2 e6 e7 ?_
   clear s s2 e0 e1 e2 e6 e7 ot ut vt oz uz fn fk wk2 nx x3 r3 s3 g1 g2 g3 hb_q hb_rc n1 a1 a2 L0 L1
   clear e;intro e w s e0 e1 e2 e6 e7
   obtain ⟨tb,to,tq,ot,ut,vt⟩:=s.nd 2 rfl
   obtain ⟨zb,zo,zq,oz,uz⟩:=s.kd 5 rfl
   have hic:=oz.le
   have hle:(rp++[none]).length=rp.length+1:=by simp
   have i2:1<=(rp++[none]).length:=by omega
   obtain ⟨o1,h1,h1',-,k1⟩:=oz.from Eo_sz 1 i2
   have h3:slcX (some 1) (.slice (some ⟨zb,zo,none⟩) (rp++[none]).length zq) (some (.int .i64 1)) none none=some (slFrom zb zo 1 1 (rp++[none]).length zq):=slcX_lo _ _ _ _ _ 1 _ i2
   refine W_sq fun K hK=>(W_draw (some none) (some 13) [(0,0,0),(0,1,0),(0,2,0),(0,3,0),(0,4,0),(0,5,0),(0,6,0),(0,7,0),(0,8,0),(0,9,0),(0,10,0),(0,11,0),(0,12,0),(1,13,0)] mixed (by kernel_rfl) ?_);simp only [↓zZ1,↓reduceIte,Nat.reduceEqDiff,rg,ow_151,e0,e1,e2,e6,e7,ptr_eq,ot.h3,oz.hd,h3,h1]
   refine do_copy (by simp only [zZ2,Nat.reduceEqDiff,↓reduceIte,zZ3]<;>rfl) (by simp only [zZ2,Nat.reduceEqDiff,↓reduceIte,zZ3]<;>rfl) rb_elk (SlV.ext0 oz.slV (Ext.dr noF w (w.drawn+1))) ((Ext.dr noF w (w.drawn+1)).wok k1) (flat_oc Eo _) fun w3 x3 r3 s3=>⟨(by first | exact trivial | exact .inl trivial),?_⟩
   simp only [↓zZ1,↓reduceIte,Nat.reduceEqDiff,rg,ow_151,↓rgm]
   apply hK;clear hK K
   have hm:min (rp++[none]).length ((rp++[none]).length-1)=rp.length:=by omega
   rw [hm] at x3 r3
   rw [show rp.length*1=rp.length*Eo.sz from rfl,flat_take,List.take_left' rfl] at r3
   obtain ⟨g1,g2⟩:=oz.up x3.od r3 fun hA=>by have:=h1' (by omega);rw [Eo_sz];omega
   have s2:Ss w0 G w3 [ndO E iso 1 b cb (ks.set j x) (ptr bc),ndO E iso 0 p ((cl-1:Nat):Int) ls (ptr lc),ndO E iso 0 q ((cr+1:Nat):Int) (k::rs) (ptr rc),kdO (ptr bc) ps,kdO (ptr lc) (lp'++[some g]),kdO (ptr rc) ((rp++[none]).take 1++rp)]:=uz g1 g2 (.inl ⟨rfl,rfl,rfl⟩)
   refine W_st s2 e0 e1 e2 e6 e7 ?_
   clear s s2 e0 e1 e2 e6 e7 ot ut vt oz uz x3 r3 s3 g1 g2 hm hic hle i2 h1 h1' k1 h3
   clear e;intro e w s e0 e1 e2 e6 e7
   obtain ⟨tb,to,tq,ot,ut,vt⟩:=s.nd 2 rfl
   obtain ⟨zb,zo,zq,oz,uz⟩:=s.kd 5 rfl
   obtain ⟨lb,lo,lq,ol,ul,vl⟩:=s.nd 1 rfl
   obtain ⟨yb,yo,yq,oy,uy⟩:=s.kd 4 rfl
   have h2:=oy.hd
   rw [hnk] at h2
   have q1:=wsub1 n2 (by omega) (by omega)
   have hi:n2-1<n2:=by omega
   have hgv:=oy.ptr_at (j:=n2-1) (p:=g) (by simp [hn2])
   have hl0:0<((rp++[none]).take 1++rp).length:=by simp only [List.length_append,List.length_take,List.length_cons,List.length_nil];omega
   have i0:=ix0 1 zb zo ((rp++[none]).take 1++rp).length hl0
   refine W_sq fun K hK=>(W_draw (some none) (some 23) [(0,0,0),(0,1,0),(0,2,0),(0,3,0),(0,4,0),(0,5,0),(0,6,0),(0,7,0),(0,8,0),(0,9,0),(0,10,0),(0,11,0),(0,12,0),(0,13,0),(0,14,0),(0,15,0),(0,16,0),(0,17,0),(0,18,0),(0,19,0),(0,20,0),(0,21,0),(0,22,0),(1,23,0)] mixed (by kernel_rfl) ?_);simp only [↓zZ1,↓reduceIte,Nat.reduceEqDiff,rg,ow_151,e0,e1,e2,e6,e7,ptr_eq,ot.h3,oz.hd,ol.h3,h2,q1,hi,hgv,i0]
   refine do_store (by simp only [zZ2,Nat.reduceEqDiff,↓reduceIte,zZ3]<;>rfl) (by simp only [zZ2,Nat.reduceEqDiff,↓reduceIte,zZ3]<;>rfl) sz_96 rfl oz.wi (by have:=oz.le;rw [Eo_sz];skip;omega) (oc_one rfl rfl) fun w3 x3 r3 s3=>⟨(by first | exact trivial | exact .inl trivial),?_⟩
   simp only [↓zZ1,↓reduceIte,Nat.reduceEqDiff,rg,ow_151,↓rgm]
   apply hK;clear hK K
   obtain ⟨g1,g2⟩:=oz.set (i:=0) (x:=(some g)) (hl0) (by rw [Nat.zero_mul,Nat.add_zero];exact x3.od) (by rw [Nat.zero_mul,Nat.add_zero];exact r3)
   rw [set_first] at g1
   have s2:Ss w0 G w3 [ndO E iso 1 b cb (ks.set j x) (ptr bc),ndO E iso 0 p ((cl-1:Nat):Int) ls (ptr lc),ndO E iso 0 q ((cr+1:Nat):Int) (k::rs) (ptr rc),kdO (ptr bc) ps,kdO (ptr lc) (lp'++[some g]),kdO (ptr rc) (some g::rp)]:=uz g1 g2 (.inl ⟨rfl,rfl,rfl⟩)
   refine W_st s2 e0 e1 e2 e6 e7 ?_
   clear s s2 e0 e1 e2 e6 e7 ot ut vt oz uz ol ul vl oy uy x3 r3 s3 g1 g2 h2 q1 hi hgv hl0 i0
   clear e;intro e w s e0 e1 e2 e6 e7
   obtain ⟨lb,lo,lq,ol,ul,vl⟩:=s.nd 1 rfl
   obtain ⟨yb,yo,yq,oy,uy⟩:=s.kd 4 rfl
   have hA:(lp'++[some g]).length=n2:=by rw [List.length_append,List.length_singleton];skip;omega
   have h2:=oy.hd
   rw [hA] at h2
   have q1:=wsub1 (n2) (by omega) (by omega)
   have hi:n2-1<n2:=by omega
   refine W_sq fun K hK=>(W_draw (some none) (some 15) [(0,0,0),(0,1,0),(0,2,0),(0,3,0),(0,4,0),(0,5,0),(0,6,0),(0,7,0),(0,8,0),(0,9,0),(0,10,0),(0,11,0),(0,12,0),(0,13,0),(0,14,0),(1,15,0)] mixed (by kernel_rfl) ?_);simp only [↓zZ1,↓reduceIte,Nat.reduceEqDiff,rg,ow_151,e0,e1,e2,e6,e7,ptr_eq,ol.h3,h2,q1,hi]
   refine do_store (by simp only [zZ2,Nat.reduceEqDiff,↓reduceIte,zZ3]<;>rfl) (by simp only [zZ2,Nat.reduceEqDiff,↓reduceIte,zZ3]<;>rfl) sz_96 rfl oy.wi (by have:=oy.le;rw [Eo_sz];rw [hA] at this;omega) (oc_one rfl rfl) fun w3 x3 r3 s3=>⟨(by first | exact trivial | exact .inl trivial),?_⟩
   simp only [↓zZ1,↓reduceIte,Nat.reduceEqDiff,rg,ow_151,↓rgm]
   apply hK;clear hK K
   obtain ⟨g1,g2⟩:=oy.set (i:=n2-1) (x:=none) (by rw [hA];omega) (by rw [Eo_sz,Nat.mul_one];exact x3.od) (by rw [Eo_sz,Nat.mul_one];exact r3)
   have hs:(lp'++[some g]).set (n2-1) none=lp'++[none]:=by rw [show n2-1=(lp').length by skip;omega];exact set_last
   rw [hs] at g1
   have s2:Ss w0 G w3 [ndO E iso 1 b cb (ks.set j x) (ptr bc),ndO E iso 0 p ((cl-1:Nat):Int) ls (ptr lc),ndO E iso 0 q ((cr+1:Nat):Int) (k::rs) (ptr rc),kdO (ptr bc) ps,kdO (ptr lc) (lp'++[none]),kdO (ptr rc) (some g::rp)]:=uy g1 g2 (.inl ⟨rfl,rfl,rfl⟩)
   refine W_st s2 e0 e1 e2 e6 e7 ?_
   clear s s2 e0 e1 e2 e6 e7 ol ul vl oy uy x3 r3 s3 g1 g2 hA h2 q1 hi hs
   clear e;intro e w s e0 e1 e2 e6 e7
   obtain ⟨lb,lo,lq,ol,ul,vl⟩:=s.nd 1 rfl
   obtain ⟨yb,yo,yq,oy,uy⟩:=s.kd 4 rfl
   have hA:(lp'++[none]).length=n2:=by rw [List.length_append,List.length_singleton];skip;omega
   have h2:=oy.hd
   have h4:=oy.le
   rw [hA] at h2 h4
   have q1:=wsub1 (n2) (by omega) (by omega)
   have hi:n2-1<=yq:=by omega
   refine W_sq fun K hK=>(W_draw (some none) (some 20) [(0,0,0),(0,1,0),(0,2,0),(0,3,0),(0,4,0),(0,5,0),(0,6,0),(0,7,0),(0,8,0),(0,9,0),(0,10,0),(0,11,0),(0,12,0),(0,13,0),(0,14,0),(0,15,0),(0,16,0),(0,17,0),(0,18,0),(0,19,0),(1,20,0)] mixed (by kernel_rfl) ?_);simp only [↓zZ1,↓reduceIte,Nat.reduceEqDiff,rg,ow_151,e0,e1,e2,e6,e7,ptr_eq,ol.h3,h2,q1,hi]
   refine do_store (by simp only [zZ2,Nat.reduceEqDiff,↓reduceIte,zZ3]<;>rfl) (by simp only [zZ2,Nat.reduceEqDiff,↓reduceIte,zZ3]<;>rfl) sz_166 rfl oy.hok (by decide) (oc_one rfl rfl) fun w3 x3 r3 s3=>⟨(by first | exact trivial | exact .inl trivial),?_⟩
   simp only [↓zZ1,↓reduceIte,Nat.reduceEqDiff,rg,ow_151,↓rgm]
   apply hK;clear hK K
   obtain ⟨g1,g2⟩:=oy.cut x3.od (by rw [show (lp').length=n2-1 by skip;omega];exact (Row.cons.1 r3).1)
   have s2:Ss w0 G w3 [ndO E iso 1 b cb (ks.set j x) (ptr bc),ndO E iso 0 p ((cl-1:Nat):Int) ls (ptr lc),ndO E iso 0 q ((cr+1:Nat):Int) (k::rs) (ptr rc),kdO (ptr bc) ps,kdO (ptr lc) lp',kdO (ptr rc) (some g::rp)]:=uy g1 g2 (.inl ⟨rfl,rfl,rfl⟩)
   refine W_st s2 e0 e1 e2 e6 e7 ?_
   clear s s2 e0 e1 e2 e6 e7 ol ul vl oy uy x3 r3 s3 g1 g2 hA h2 h4 q1 hi
   clear e;intro e w s e0 e1 e2 e6 e7
   obtain ⟨lb,lo,lq,ol,ul,vl⟩:=s.nd 1 rfl
   obtain ⟨tb,to,tq,ot,ut,vt⟩:=s.nd 2 rfl
   obtain ⟨zb,zo,zq,oz,uz⟩:=s.kd 5 rfl
   have hgv:=oz.ptr_at (j:=0) (p:=g) rfl
   rw [Nat.add_zero] at hgv
   have hg1:=s.x.rd hgc (hgG 1)
   have hl0:0<(some g::rp).length:=by simp
   have i0:=ix0 1 zb zo (some g::rp).length hl0
   have q1:=wsub (cl-1) cg (by omega) (by omega)
   refine W_sq fun K hK=>(W_draw (some none) (some 18) [(0,0,0),(0,1,0),(0,2,0),(0,3,0),(0,4,0),(0,5,0),(0,6,0),(0,7,0),(0,8,0),(0,9,0),(0,10,0),(0,11,0),(0,12,0),(0,13,0),(0,14,0),(0,15,0),(0,16,0),(0,17,0),(1,18,0)] mixed (by kernel_rfl) ?_);simp only [↓zZ1,↓reduceIte,Nat.reduceEqDiff,rg,ow_151,e0,e1,e2,e6,e7,ptr_eq,ol.h1,ot.h3,oz.hd,i0,hgv,hg1,q1]
   refine do_store (by simp only [zZ2,Nat.reduceEqDiff,↓reduceIte,zZ3]<;>rfl) (by simp only [zZ2,Nat.reduceEqDiff,↓reduceIte,zZ3]<;>rfl) sz_3 rfl ol.wb (by decide) (oc_one rfl rfl) fun w3 x3 r3 s3=>⟨(by first | exact trivial | exact .inl trivial),?_⟩
   simp only [↓zZ1,↓reduceIte,Nat.reduceEqDiff,rg,ow_151,↓rgm]
   apply hK;clear hK K
   have s2:Ss w0 G w3 [ndO E iso 1 b cb (ks.set j x) (ptr bc),ndO E iso 0 p ((cl-1-cg:Nat):Int) ls (ptr lc),ndO E iso 0 q ((cr+1:Nat):Int) (k::rs) (ptr rc),kdO (ptr bc) ps,kdO (ptr lc) lp',kdO (ptr rc) (some g::rp)]:=vl x3.od (Row.cons.1 r3).1
   refine W_st s2 e0 e1 e2 e6 e7 ?_
   clear s s2 e0 e1 e2 e6 e7 ol ul vl ot ut vt oz uz x3 r3 s3 hgv hg1 hl0 i0 q1
   clear e;intro e w s e0 e1 e2 e6 e7
   obtain ⟨tb,to,tq,ot,ut,vt⟩:=s.nd 2 rfl
   obtain ⟨zb,zo,zq,oz,uz⟩:=s.kd 5 rfl
   have hgv:=oz.ptr_at (j:=0) (p:=g) rfl
   rw [Nat.add_zero] at hgv
   have hg1:=s.x.rd hgc (hgG 1)
   have hl0:0<(some g::rp).length:=by simp
   have i0:=ix0 1 zb zo (some g::rp).length hl0
   have q1:=wadd (cr+1) cg (by omega)
   refine W_rg fun K hK=>(W_draw (some none) (some 18) [(0,0,0),(0,1,0),(0,2,0),(0,3,0),(0,4,0),(0,5,0),(0,6,0),(0,7,0),(0,8,0),(0,9,0),(0,10,0),(0,11,0),(0,12,0),(0,13,0),(0,14,0),(0,15,0),(0,16,0),(0,17,0),(1,18,0)] mixed (by kernel_rfl) ?_);simp only [↓zZ1,↓reduceIte,Nat.reduceEqDiff,rg,ow_151,e0,e1,e2,e6,e7,ptr_eq,ot.h1,ot.h3,oz.hd,i0,hgv,hg1,q1]
   refine do_store (by simp only [zZ2,Nat.reduceEqDiff,↓reduceIte,zZ3]<;>rfl) (by simp only [zZ2,Nat.reduceEqDiff,↓reduceIte,zZ3]<;>rfl) sz_3 rfl ot.wb (by decide) (oc_one rfl rfl) fun w3 x3 r3 s3=>⟨(by first | exact trivial | exact .inl trivial),?_⟩
   simp only [↓zZ1,↓reduceIte,Nat.reduceEqDiff,rg,ow_151,↓rgm]
   apply hK;clear hK K
   have s2:Ss w0 G w3 [ndO E iso 1 b cb (ks.set j x) (ptr bc),ndO E iso 0 p ((cl-1-cg:Nat):Int) ls (ptr lc),ndO E iso 0 q ((cr+1+cg:Nat):Int) (k::rs) (ptr rc),kdO (ptr bc) ps,kdO (ptr lc) lp',kdO (ptr rc) (some g::rp)]:=vt x3.od (Row.cons.1 r3).1
   show endQ _ _ _ _ _ _
   refine endQ_0n ?_
   rw [List.dropLast_concat,show (lp'++[some g]).drop ((lp'++[some g]).length-1)=[some g] by simp]
   exact s2
 obtain ⟨nb,no,nc,on,un,vn⟩:=s.nd 0 rfl
 rcases hj with ⟨rfl,hj⟩ | ⟨rfl,hj⟩
 ·have hb:((i0:Int) == (ks.length:Int))=false:=by simp;omega
  refine W_sq fun K hK=>(W_text [true,true,true,true,true,true,true] (by kernel_rfl) ?_);simp only [↓zZ1,↓reduceIte,Nat.reduceEqDiff,rg,ow_151,e1,e2,ptr_eq,on.h2,hb]
  apply hK;clear hK K
  refine W_false (by simp only [zZ2,Nat.reduceEqDiff,↓reduceIte,zZ3]<;>rfl) (W_skip ?_)
  exact hend _ e0 e1 e2
 ·have hb:((ks.length:Int) == (ks.length:Int))=true:=by simp
  refine W_sq fun K hK=>(W_text [true,true,true,true,true,true,true] (by kernel_rfl) ?_);simp only [↓zZ1,↓reduceIte,Nat.reduceEqDiff,rg,ow_151,e1,e2,ptr_eq,on.h2,hb]
  apply hK;clear hK K
  refine W_true (by simp only [zZ2,Nat.reduceEqDiff,↓reduceIte,zZ3]<;>rfl) ?_
  have q1:=wsub1 ks.length (by omega) (by omega)
  have hjs:ks.length-1=j:=by omega
  refine W_rg fun K hK=>(W_text [true,true,true] (by kernel_rfl) ?_);simp only [↓zZ1,↓reduceIte,Nat.reduceEqDiff,rg,ow_151,e2,q1]
  apply hK;clear hK K
  exact hend _ e0 e1 (by simp only [upd_eq,Nat.reduceEqDiff,↓reduceIte]<;>rw [hjs])
set_option maxHeartbeats 4000000 in
set_option maxRecDepth 8000 in
theorem reb_left (m d b p q bc i0 j cl cr:Nat) (iso cb:Int) (ks ls rs:List It) (k x:It) (ps lp rp:List (Option Nat)) (chl chr:Value) (w0 w:World) (G:Nat->Nat->Prop) (hd:2<=d) (hd':d<=128) (hc:Cfg w0 m iso d) (hG:∀ o,¬ G m o)
  (s:Ss w0 G w [ndO E iso 1 b cb ks (ptr bc),ndO E iso 0 p (cl:Nat) ls chl,ndO E iso 0 q (cr:Nat) (x::rs) chr,kdO (ptr bc) ps,kdO chl lp,kdO chr rp]) (hj:(i0=j/\j<ks.length)\/(i0=ks.length/\j+1=ks.length)) (hkl:ks.length<=2*d-1) (hk:ks[j]? = some k) (hps:ps.length=ks.length+1) (hp:ps[j]? = some (some p)) (hq:ps[j+1]? = some (some q))
  (hch:(chl = .pointer none/\chr = .pointer none/\lp=[]/\rp=[])\/∃ lc rc,chl=ptr lc/\chr=ptr rc/\lp.length=ls.length+1/\rp.length=(x::rs).length+1) (hll:ls.length<=2*d-1) (hrl:(x::rs).length<=2*d-1) (hcl:cl<2305843009213693952) (hcr:cr<2305843009213693952) (hlt:2*d-1<=ls.length+(x::rs).length) (hgt:ls.length<=(x::rs).length) (cg:Nat) (hcg:1+cg<=cr) (hcgb:cl+cg<2305843009213693952) (hg:(rp=[]/\cg=0)\/∃ g rp',rp=some g::rp'/\rd w0 g 1=some (.int .i64 (cg:Nat))/\∀ o,¬ G g o) :
  CallK Try.prog 151 #[ptr m,ptr b,.int .i64 (i0:Nat)] w fun _ w'=>Ss w0 G w' [ndO E iso 1 b cb (ks.set j x) (ptr bc),ndO E iso 0 p ((cl+1+cg:Nat):Int) (ls++[k]) chl,ndO E iso 0 q ((cr-1-cg:Nat):Int) rs chr,kdO (ptr bc) ps,kdO chl (lp++rp.take 1),kdO chr (rp.drop 1)]:=by
 have hjn:j<ks.length:=(List.getElem?_eq_some_iff.1 hk).1
 refine calls_of_W [] Try.func151 rfl Try.ntmps151 Try.results151 (by simp) fun e he=>?_
 have e0:e 0=ptr m:=he 0 _ rfl
 have e1:e 1=ptr b:=he 1 _ rfl
 have e2:e 2 = .int .i64 (i0:Nat):=he 2 _ rfl
 clear he
 refine W_sqx fun J hJ=>?_
 have hend:∀ e,e 0=ptr m->e 1=ptr b->e 2 = .int .i64 j->J e w:=by
  clear e0 e1 e2 e
  intro e e0 e1 e2
  refine hJ _ _ ?_;clear hJ J
  obtain ⟨nb,no,nc,on,un,vn⟩:=s.nd 0 rfl
  obtain ⟨xb,xo,xc,ox,ux⟩:=s.kd 3 rfl
  obtain ⟨lb,lo,lq,ol,ul,vl⟩:=s.nd 1 rfl
  obtain ⟨tb,to,tq,ot,ut,vt⟩:=s.nd 2 rfl
  have hiso:=(hc.ext s.x fun o _ _=>hG o).iso
  have hjp:j<ps.length:=by omega
  refine W_sq fun K hK=>(W_text [true,true,true,true,true,true,true,true,true,false,true] (by kernel_rfl) ?_);simp only [↓zZ1,↓reduceIte,Nat.reduceEqDiff,rg,ow_151,e0,e1,e2,ptr_eq,on.h3,ox.hd,hjp]
  refine do_call fn_96 (by simp only [zZ2,Nat.reduceEqDiff,↓reduceIte,zZ4]<;>rfl) (isoLoad_any m xb (xo+j) p true iso _ hiso (ox.ptr_at hp) ol.h0) ?_
  rintro _ w1 ⟨rfl,r1⟩
  refine ⟨trivial,?_⟩
  simp only [↓zZ1,↓reduceIte,Nat.reduceEqDiff,rg,ow_151]
  apply hK;clear hK K
  have X1:Ext noF w w1:=r1.ext
  have on:=on.ext X1 fun _ _ _ g=>g
  have ox:=ox.ext0 X1
  have ot:=ot.ext X1 fun _ _ _ g=>g
  have hiso:=X1.rd hiso fun g=>g
  have q1:=wadd1 j (by omega)
  have hjp:j+1<ps.length:=by omega
  refine W_sq fun K hK=>(W_text [true,true,true,true,true,true,true,true,true,true,false,true] (by kernel_rfl) ?_);simp only [↓zZ1,↓reduceIte,Nat.reduceEqDiff,rg,ow_151,e0,e1,e2,ptr_eq,on.h3,ox.hd,hjp,q1]
  refine do_call fn_96 (by simp only [zZ2,Nat.reduceEqDiff,↓reduceIte,zZ4]<;>rfl) (isoLoad_any m xb (xo+(j+1)) q true iso _ hiso (ox.ptr_at hq) ot.h0) ?_
  rintro _ w2 ⟨rfl,r2⟩
  refine ⟨trivial,?_⟩
  simp only [↓zZ1,↓reduceIte,Nat.reduceEqDiff,rg,ow_151]
  apply hK;clear hK K
  have s2:=(s.ext0 X1).ext0 r2.ext
  refine W_st s2 e0 e1 e2 (by simp only [upd_eq,Nat.reduceEqDiff,↓reduceIte]<;>rfl) (by simp only [upd_eq,Nat.reduceEqDiff,↓reduceIte]<;>rfl) ?_
  clear s s2 e0 e1 e2 on un vn ox ux ol ul vl ot ut vt hiso X1 r1 r2 hjp q1
  clear e;intro e w s e0 e1 e2 e6 e7
  obtain ⟨lb,lo,lq,ol,ul,vl⟩:=s.nd 1 rfl
  obtain ⟨tb,to,tq,ot,ut,vt⟩:=s.nd 2 rfl
  have q1:=wadd ls.length (x::rs).length (by omega)
  have hmx:=(hc.ext s.x fun o _ _=>hG o).mx
  have hb:decide (((ls.length+(x::rs).length:Nat):Int)<((2*d-1:Nat):Int))=false:=by simp only [decide_eq_false_iff_not];omega
  refine W_sq fun K hK=>(W_draw (some none) none [(0,0,0),(0,1,0),(0,2,0),(0,3,0),(0,4,0),(0,5,0),(0,6,0),(0,7,0),(0,8,0),(0,9,0),(0,10,0),(0,11,0),(0,12,0),(0,13,0),(0,14,0),(0,15,0)] mixed (by kernel_rfl) ?_);simp only [↓zZ1,↓reduceIte,Nat.reduceEqDiff,rg,ow_151,e0,e6,e7,ptr_eq,ol.h2,ot.h2,q1,hmx,hb]
  apply hK;clear hK K
  refine W_false (by simp only [zZ2,Nat.reduceEqDiff,↓reduceIte,zZ3]<;>rfl) ?_
  have hb2:decide (((x::rs).length:Int)<(ls.length:Int))=false:=by simp only [decide_eq_false_iff_not];omega
  refine W_sq fun K hK=>(W_draw (some none) none [(0,0,0),(0,1,0),(0,2,0),(0,3,0),(0,4,0),(0,5,0),(0,6,0),(0,7,0),(0,8,0),(0,9,0),(0,10,0)] mixed (by kernel_rfl) ?_);simp only [↓zZ1,↓reduceIte,Nat.reduceEqDiff,rg,ow_151,e0,e6,e7,ptr_eq,ol.h2,ot.h2,hb2]
  apply hK;clear hK K
  refine W_false (by simp only [zZ2,Nat.reduceEqDiff,↓reduceIte,zZ3]<;>rfl) ?_
  refine W_st (s.ext0 (Ext.dr noF w _)) e0 e1 e2 e6 e7 ?_
  clear s e0 e1 e2 e6 e7 ol ul vl ot ut vt q1 hmx hb hb2
  clear e;intro e w s e0 e1 e2 e6 e7
  obtain ⟨n0,hn0⟩:∃ n0,n0=rs.length+1:=⟨_,rfl⟩
  have hnl:(x::rs).length=n0:=by simp [hn0]
  obtain ⟨lb,lo,lq,ol,ul,vl⟩:=s.nd 1 rfl
  obtain ⟨nb,no,nq,on,un,vn⟩:=s.nd 0 rfl
  have hkv:=it_at on.row hk
  have hb_p:=wok_lt ol.wb
  have L0:=on1_0 p
  refine W_sq fun K hK=>(W_semi (some (some [p])) (.take false 0 (.take false 1 (.take false 2 (.take false 3 (.take false 4 (.take false 5 (.take false 6 (.take false 7 (.take true 8 (.take false 9 (.take false 10 (.take true 11 (.act 12 (.bar 13 (.take false 14 (.take false 15 (.bar 16 .nil))))))))))))))))) mixed (by kernel_rfl) ?_);simp only [↓rgm,↓zZ1,↓reduceIte,Nat.reduceEqDiff,rg,ow_151,e0,e1,e2,e6,e7,ptr_eq,ol.h2,on.h2,hjn,hkv,L0,rB_on]
  refine do_bsl rfl (rb_k k) fun w1 n1=>⟨.inr (n1.keep _ (lt1 hb_p)),?_⟩
  simp only [↓zZ1,↓reduceIte,Nat.reduceEqDiff,rg,ow_151,↓rgm]
  have n1:=n1.od
  have a1:=ol.se.ext0 n1.ext
  refine do_append (by simp only [zZ2,Nat.reduceEqDiff,↓reduceIte,zZ3]<;>rfl) (by simp only [zZ2,Nat.reduceEqDiff,↓reduceIte,zZ3]<;>rfl) rb_eli rfl ni_25 a1.slV (u:=.slice (some ⟨w.heap.size,0,none⟩) 1 1) (m:=1) (l':=E.cel k) ⟨rfl,.inr ⟨_,0,1,rfl,Nat.le_refl _,n1.row,n1.wok.R (Nat.le_refl _)⟩⟩ (by omega) (by decide) (E.one _) fun v2 w2 a2=>⟨trivial,?_⟩
  obtain ⟨gb,go,gc,rfl,wk2,-,nx⟩:=a1.app' (ls:=[k]) rfl (by rw [flat_one];exact a2)
  simp only [↓zZ1,↓reduceIte,Nat.reduceEqDiff,rg,ow_151,↓rgm]
  refine do_store (by simp only [zZ2,Nat.reduceEqDiff,↓reduceIte,zZ3]<;>rfl) (by simp only [zZ2,Nat.reduceEqDiff,↓reduceIte,zZ3]<;>rfl) sz_25 rfl wk2 (by decide) (oc_one rfl rfl) fun w3 x3 r3 s3=>⟨trivial,?_⟩
  simp only [↓zZ1,↓reduceIte,Nat.reduceEqDiff,rg,ow_151,↓rgm]
  apply hK;clear hK K
  obtain ⟨g1,g2,g3⟩:=nx w3 x3 (Row.cons.1 r3).1
  have s2:Ss w0 G w3 [ndO E iso 1 b cb ks (ptr bc),ndO E iso 0 p (cl:Nat) (ls++[k]) chl,ndO E iso 0 q (cr:Nat) (x::rs) chr,kdO (ptr bc) ps,kdO chl lp,kdO chr rp]:=ul g1 (n1.ext.trans g2 (fun _ _ h=>h.elim) fun _ _ _ h=>h) (g3.imp id fun h=>⟨(by have:=n1.size;omega),Nat.zero_le _⟩)
  refine W_st s2 e0 e1 e2 e6 e7 ?_
  clear s s2 e0 e1 e2 e6 e7 ol ul vl on un vn wk2 nx x3 r3 s3 g1 g2 g3 hkv hb_p n1 a1 a2 L0
  clear e;intro e w s e0 e1 e2 e6 e7
  obtain ⟨lb,lo,lq,ol,ul,vl⟩:=s.nd 1 rfl
  have q1:=wadd1 cl (by omega)
  refine W_sq fun K hK=>(W_text [true,true,true,true,true,true,true,false] (by kernel_rfl) ?_);simp only [↓zZ1,↓reduceIte,Nat.reduceEqDiff,rg,ow_151,e0,e1,e2,e6,e7,ptr_eq,ol.h1,q1]
  refine do_store (by simp only [zZ2,Nat.reduceEqDiff,↓reduceIte,zZ3]<;>rfl) (by simp only [zZ2,Nat.reduceEqDiff,↓reduceIte,zZ3]<;>rfl) sz_3 rfl ol.wb (by decide) (oc_one rfl rfl) fun w3 x3 r3 s3=>⟨(by first | exact trivial | exact .inl trivial),?_⟩
  simp only [↓zZ1,↓reduceIte,Nat.reduceEqDiff,rg,ow_151,↓rgm]
  apply hK;clear hK K
  have s2:Ss w0 G w3 [ndO E iso 1 b cb ks (ptr bc),ndO E iso 0 p ((cl+1:Nat):Int) (ls++[k]) chl,ndO E iso 0 q (cr:Nat) (x::rs) chr,kdO (ptr bc) ps,kdO chl lp,kdO chr rp]:=vl x3 (Row.cons.1 r3).1
  refine W_st s2 e0 e1 e2 e6 e7 ?_
  clear s s2 e0 e1 e2 e6 e7 ol ul vl x3 r3 s3  q1
  clear e;intro e w s e0 e1 e2 e6 e7
  obtain ⟨nb,no,nq,on,un,vn⟩:=s.nd 0 rfl
  obtain ⟨tb,to,tq,ot,ut,vt⟩:=s.nd 2 rfl
  have hl0:0<(x::rs).length:=by omega
  have i0:=ix0 2 tb to (x::rs).length hl0
  have hxv:=it_at ot.row (i:=0) (x:=x) rfl
  simp only [Nat.zero_mul,Nat.add_zero] at hxv
  refine W_sq fun K hK=>(W_draw (some none) (some 12) [(0,0,0),(0,1,0),(0,2,0),(0,3,0),(0,4,0),(0,5,0),(0,6,0),(0,7,0),(0,8,0),(0,9,0),(0,10,0),(0,11,0),(1,12,0)] mixed (by kernel_rfl) ?_);simp only [↓zZ1,↓reduceIte,Nat.reduceEqDiff,rg,ow_151,e0,e1,e2,e6,e7,ptr_eq,on.h2,ot.h2,hjn,hxv,i0]
  refine do_store (by simp only [zZ2,Nat.reduceEqDiff,↓reduceIte,zZ3]<;>rfl) (by simp only [zZ2,Nat.reduceEqDiff,↓reduceIte,zZ3]<;>rfl) sz_33 (rb_len x) on.se.wi (by have:=on.se.le;rw [E_sz];skip;omega) (rb_oc x) fun w3 x3 r3 s3=>⟨(by first | exact trivial | exact .inl trivial),?_⟩
  simp only [↓zZ1,↓reduceIte,Nat.reduceEqDiff,rg,ow_151,↓rgm]
  apply hK;clear hK K
  obtain ⟨g1,g2⟩:=on.se.set (i:=j) (x:=x) (hjn) (by simp only [E_sz,Nat.mul_one];exact x3.od) (by simp only [E_sz,Nat.mul_one];exact r3)
  skip
  have s2:Ss w0 G w3 [ndO E iso 1 b cb (ks.set j x) (ptr bc),ndO E iso 0 p ((cl+1:Nat):Int) (ls++[k]) chl,ndO E iso 0 q (cr:Nat) (x::rs) chr,kdO (ptr bc) ps,kdO chl lp,kdO chr rp]:=un g1 g2 (.inl ⟨rfl,rfl,rfl⟩)
  refine W_st s2 e0 e1 e2 e6 e7 ?_
  clear s s2 e0 e1 e2 e6 e7 on un vn ot ut vt x3 r3 s3 g1 g2 hxv hl0 i0
  clear e;intro e w s e0 e1 e2 e6 e7
  obtain ⟨tb,to,tq,ot,ut,vt⟩:=s.nd 2 rfl
  have hil:0<(x::rs).length:=by simp
  have hic:=ot.se.le
  obtain ⟨o2,h2,-,v2,-⟩:=ot.se.from E_sz 1 (by omega)
  have i2:1<=(x::rs).length:=by omega
  have h3:slcX (some 2) (.slice (some ⟨tb,to,none⟩) (x::rs).length tq) (some (.int .i64 1)) none none=some (slFrom tb to 2 1 (x::rs).length tq):=slcX_lo _ _ _ _ _ 1 _ i2
  refine W_sq fun K hK=>(W_draw (some none) (some 9) [(0,0,0),(0,1,0),(0,2,0),(0,3,0),(0,4,0),(0,5,0),(0,6,0),(0,7,0),(0,8,0),(1,9,0)] mixed (by kernel_rfl) ?_);simp only [↓zZ1,↓reduceIte,Nat.reduceEqDiff,rg,ow_151,e0,e1,e2,e6,e7,ptr_eq,ot.h2,h3,i2,h2]
  refine do_copy (by simp only [zZ2,Nat.reduceEqDiff,↓reduceIte,zZ3]<;>rfl) (by simp only [zZ2,Nat.reduceEqDiff,↓reduceIte,zZ3]<;>rfl) rb_eli (SlV.ext0 v2 (Ext.dr noF w (w.drawn+1))) ((Ext.dr noF w (w.drawn+1)).wok (ot.se.wi.mono (by rw [E_sz];omega))) (flat_oc E _) fun w3 x3 r3 s3=>⟨(by first | exact trivial | exact .inl trivial),?_⟩
  simp only [↓zZ1,↓reduceIte,Nat.reduceEqDiff,rg,ow_151,↓rgm]
  apply hK;clear hK K
  have hm:min ((x::rs).length-1) ((x::rs).length)=(x::rs).length-1-0:=by omega
  rw [hm] at x3 r3
  rw [List.take_of_length_le (by rw [flat_length,List.length_drop,E_sz];omega)] at r3
  obtain ⟨z,g1,g2⟩:=ot.se.down (i:=0) hil (by rw [Nat.zero_mul,Nat.add_zero];exact x3.od) (by rw [Nat.zero_mul,Nat.add_zero];exact r3)
  have s2:Ss w0 G w3 [ndO E iso 1 b cb (ks.set j x) (ptr bc),ndO E iso 0 p ((cl+1:Nat):Int) (ls++[k]) chl,ndO E iso 0 q (cr:Nat) (rs++[z]) chr,kdO (ptr bc) ps,kdO chl lp,kdO chr rp]:=ut g1 g2 (.inl ⟨rfl,rfl,rfl⟩)
  refine W_st s2 e0 e1 e2 e6 e7 ?_
  clear s s2 e0 e1 e2 e6 e7 ot ut vt x3 r3 s3 g1 g2 hm hil hic v2 h2 i2   h3
  clear e;intro e w s e0 e1 e2 e6 e7
  obtain ⟨tb,to,tq,ot,ut,vt⟩:=s.nd 2 rfl
  have hA:(rs++[z]).length=n0:=by rw [List.length_append,List.length_singleton];skip;omega
  have h2:=ot.se.hd
  rw [hA] at h2
  have q1:=wsub1 (n0) (by omega) (by omega)
  have hi:n0-1<n0:=by omega
  have z4:=zIt_at (hc.ext s.x fun o _ _=>hG o)
  refine W_sq fun K hK=>(W_draw (some none) (some 15) [(0,0,0),(0,1,0),(0,2,0),(0,3,0),(0,4,0),(0,5,0),(0,6,0),(0,7,0),(0,8,0),(0,9,0),(0,10,0),(0,11,0),(0,12,0),(0,13,0),(0,14,0),(1,15,0)] mixed (by kernel_rfl) ?_);simp only [↓zZ1,↓reduceIte,Nat.reduceEqDiff,rg,ow_151,e0,e1,e2,e6,e7,ptr_eq,h2,q1,hi,z4]
  refine do_store (by simp only [zZ2,Nat.reduceEqDiff,↓reduceIte,zZ3]<;>rfl) (by simp only [zZ2,Nat.reduceEqDiff,↓reduceIte,zZ3]<;>rfl) sz_33 (rb_len zIt) ot.se.wi (by have:=ot.se.le;rw [E_sz];rw [hA] at this;omega) (rb_oc zIt) fun w3 x3 r3 s3=>⟨(by first | exact trivial | exact .inl trivial),?_⟩
  simp only [↓zZ1,↓reduceIte,Nat.reduceEqDiff,rg,ow_151,↓rgm]
  apply hK;clear hK K
  obtain ⟨g1,g2⟩:=ot.se.set (i:=n0-1) (x:=zIt) (by rw [hA];omega) (by simp only [E_sz,Nat.mul_one];exact x3.od) (by simp only [E_sz,Nat.mul_one];exact r3)
  have hs:(rs++[z]).set (n0-1) zIt=rs++[zIt]:=by rw [show n0-1=(rs).length by skip;omega];exact set_last
  rw [hs] at g1
  have s2:Ss w0 G w3 [ndO E iso 1 b cb (ks.set j x) (ptr bc),ndO E iso 0 p ((cl+1:Nat):Int) (ls++[k]) chl,ndO E iso 0 q (cr:Nat) (rs++[zIt]) chr,kdO (ptr bc) ps,kdO chl lp,kdO chr rp]:=ut g1 g2 (.inl ⟨rfl,rfl,rfl⟩)
  refine W_st s2 e0 e1 e2 e6 e7 ?_
  clear s s2 e0 e1 e2 e6 e7 ot ut vt x3 r3 s3 g1 g2 hA h2 q1 hi z4 hs
  clear e;intro e w s e0 e1 e2 e6 e7
  obtain ⟨tb,to,tq,ot,ut,vt⟩:=s.nd 2 rfl
  have hA:(rs++[zIt]).length=n0:=by rw [List.length_append,List.length_singleton];skip;omega
  have h2:=ot.se.hd
  have h4:=ot.se.le
  rw [hA] at h2 h4
  have q1:=wsub1 (n0) (by omega) (by omega)
  have hi:n0-1<=tq:=by omega
  refine W_sq fun K hK=>(W_draw (some none) (some 14) [(0,0,0),(0,1,0),(0,2,0),(0,3,0),(0,4,0),(0,5,0),(0,6,0),(0,7,0),(0,8,0),(0,9,0),(0,10,0),(0,11,0),(0,12,0),(0,13,0),(1,14,0)] mixed (by kernel_rfl) ?_);simp only [↓zZ1,↓reduceIte,Nat.reduceEqDiff,rg,ow_151,e0,e1,e2,e6,e7,ptr_eq,h2,q1,hi]
  refine do_store (by simp only [zZ2,Nat.reduceEqDiff,↓reduceIte,zZ3]<;>rfl) (by simp only [zZ2,Nat.reduceEqDiff,↓reduceIte,zZ3]<;>rfl) sz_25 rfl ot.se.hok (by decide) (oc_one rfl rfl) fun w3 x3 r3 s3=>⟨(by first | exact trivial | exact .inl trivial),?_⟩
  simp only [↓zZ1,↓reduceIte,Nat.reduceEqDiff,rg,ow_151,↓rgm]
  apply hK;clear hK K
  obtain ⟨g1,g2⟩:=ot.se.cut x3.od (by rw [show (rs).length=n0-1 by skip;omega];exact (Row.cons.1 r3).1)
  have s2:Ss w0 G w3 [ndO E iso 1 b cb (ks.set j x) (ptr bc),ndO E iso 0 p ((cl+1:Nat):Int) (ls++[k]) chl,ndO E iso 0 q (cr:Nat) rs chr,kdO (ptr bc) ps,kdO chl lp,kdO chr rp]:=ut g1 g2 (.inl ⟨rfl,rfl,rfl⟩)
  refine W_st s2 e0 e1 e2 e6 e7 ?_
  clear s s2 e0 e1 e2 e6 e7 ot ut vt x3 r3 s3 g1 g2 hA h2 h4 q1 hi
  clear e;intro e w s e0 e1 e2 e6 e7
  obtain ⟨tb,to,tq,ot,ut,vt⟩:=s.nd 2 rfl
  have q1:=wsub1 cr (by omega) (by omega)
  refine W_sq fun K hK=>(W_text [true,true,true,true,true,true,true,false] (by kernel_rfl) ?_);simp only [↓zZ1,↓reduceIte,Nat.reduceEqDiff,rg,ow_151,e0,e1,e2,e6,e7,ptr_eq,ot.h1,q1]
  refine do_store (by simp only [zZ2,Nat.reduceEqDiff,↓reduceIte,zZ3]<;>rfl) (by simp only [zZ2,Nat.reduceEqDiff,↓reduceIte,zZ3]<;>rfl) sz_3 rfl ot.wb (by decide) (oc_one rfl rfl) fun w3 x3 r3 s3=>⟨(by first | exact trivial | exact .inl trivial),?_⟩
  simp only [↓zZ1,↓reduceIte,Nat.reduceEqDiff,rg,ow_151,↓rgm]
  apply hK;clear hK K
  have s2:Ss w0 G w3 [ndO E iso 1 b cb (ks.set j x) (ptr bc),ndO E iso 0 p ((cl+1:Nat):Int) (ls++[k]) chl,ndO E iso 0 q ((cr-1:Nat):Int) rs chr,kdO (ptr bc) ps,kdO chl lp,kdO chr rp]:=vt x3 (Row.cons.1 r3).1
  refine W_st s2 e0 e1 e2 e6 e7 ?_
  clear s s2 e0 e1 e2 e6 e7 ot ut vt x3 r3 s3  q1
  clear e;intro e w s e0 e1 e2 e6 e7
  obtain ⟨lb,lo,lq,ol,ul,vl⟩:=s.nd 1 rfl
  rcases hch with ⟨rfl,rfl,rfl,rfl⟩ | ⟨lc,rc,rfl,rfl,hlp,hrp⟩
  ·refine W_sq fun K hK=>(W_text [true,false,true] (by kernel_rfl) ?_);simp only [↓zZ1,↓reduceIte,Nat.reduceEqDiff,rg,ow_151,e6]
   refine do_call fn_108 (by simp only [zZ2,Nat.reduceEqDiff,↓reduceIte,zZ4]<;>rfl) (leaf_any p none w ol.h3) ?_
   rintro _ w1 ⟨rfl,hw1⟩
   obtain rfl:w=w1:=hw1.symm
   refine ⟨trivial,?_⟩
   simp only [↓zZ1,↓reduceIte,Nat.reduceEqDiff,rg,ow_151]
   apply hK;clear hK K
   refine W_false (by simp only [zZ2,Nat.reduceEqDiff,↓reduceIte,zZ3]<;>rfl) (W_skip ?_)
   show endQ _ _ _ _ _ _
   refine endQ_0n ?_
   obtain rfl:cg=0:=by
    rcases hg with ⟨_,h⟩ | ⟨g,rp',h,_⟩
    ·exact h
    ·cases h
   exact s
  ·refine W_sq fun K hK=>(W_text [true,false,true] (by kernel_rfl) ?_);simp only [↓zZ1,↓reduceIte,Nat.reduceEqDiff,rg,ow_151,e6]
   refine do_call fn_108 (by simp only [zZ2,Nat.reduceEqDiff,↓reduceIte,zZ4]<;>rfl) (leaf_any p (some ⟨lc,0,none⟩) w ol.h3) ?_
   rintro _ w1 ⟨rfl,hw1⟩
   obtain rfl:w=w1:=hw1.symm
   refine ⟨trivial,?_⟩
   simp only [↓zZ1,↓reduceIte,Nat.reduceEqDiff,rg,ow_151]
   apply hK;clear hK K
   refine W_true (by simp only [zZ2,Nat.reduceEqDiff,↓reduceIte,zZ3]<;>rfl) ?_
   refine W_st s e0 e1 e2 e6 e7 ?_
   clear s e0 e1 e2 e6 e7 ol ul vl
   clear e;intro e w s e0 e1 e2 e6 e7
   obtain ⟨g,rp',rfl,hgc,hgG⟩:∃ g rp',rp=some g::rp'/\rd w0 g 1=some (.int .i64 (cg:Nat))/\∀ o,¬ G g o:=by
    rcases hg with ⟨h,_⟩ | h
    ·rw [h] at hrp;cases hrp
    ·exact h
   obtain ⟨n2,hn2⟩:∃ n2,n2=rp'.length+1:=⟨_,rfl⟩
   have hnk:(some g::rp').length=n2:=by simp [hn2]
   have hlp0:lp.length<=2*d:=by omega
   have hlp1:0<lp.length:=by omega
   have hn2b:n2<=2*d:=by omega
   clear hlp hrp hll hrl hgt hlt hnl
   obtain ⟨lb,lo,lq,ol,ul,vl⟩:=s.nd 1 rfl
   obtain ⟨yb,yo,yq,oy,uy,fn,fk⟩:=s.kdx 4 rfl (by omega)
   obtain ⟨tb,to,tq,ot,ut,vt⟩:=s.nd 2 rfl
   obtain ⟨zb,zo,zq,oz,uz⟩:=s.kd 5 rfl
   have hb_p:=wok_lt ol.wb
   have hb_lc:=wok_lt oy.hok
   have hgv:=oz.ptr_at (j:=0) (p:=g) rfl
   rw [Nat.add_zero] at hgv
   have hl0:0<(some g::rp').length:=by omega
   have i0:=ix0 1 zb zo (some g::rp').length hl0
   have L0:=on2_0 p lc
   have L1:=on2_1 p lc
   refine W_sq fun K hK=>(W_semi (some (some [p,lc])) (.take false 0 (.take false 1 (.take false 2 (.take false 3 (.take false 4 (.take false 5 (.take false 6 (.take false 7 (.take false 8 (.take false 9 (.take false 10 (.take false 11 (.take false 12 (.take true 13 (.take false 14 (.take true 15 (.take false 16 (.take true 17 (.act 18 (.act 19 (.take false 20 (.bar 21 .nil)))))))))))))))))))))) mixed (by kernel_rfl) ?_);simp only [↓rgm,↓zZ1,↓reduceIte,Nat.reduceEqDiff,rg,ow_151,e0,e1,e2,e6,e7,ptr_eq,ol.h3,oy.hd,ot.h3,oz.hd,i0,hgv,L0,L1,rB_on]
   refine do_bsl rfl (rb_o (some ⟨g,0,none⟩)) fun w1 n1=>⟨.inr (n1.keep _ (lt2 hb_p hb_lc)),?_⟩
   simp only [↓zZ1,↓reduceIte,Nat.reduceEqDiff,rg,ow_151,↓rgm]
   have n1:=n1.od
   have a1:=oy.ext0 n1.ext
   refine do_append (by simp only [zZ2,Nat.reduceEqDiff,↓reduceIte,zZ3]<;>rfl) (by simp only [zZ2,Nat.reduceEqDiff,↓reduceIte,zZ3]<;>rfl) rb_elk rfl ni_166 a1.slV (u:=.slice (some ⟨w.heap.size,0,none⟩) 1 1) (m:=1) (l':=Eo.cel (some g)) ⟨rfl,.inr ⟨_,0,1,rfl,Nat.le_refl _,n1.row,n1.wok.R (Nat.le_refl _)⟩⟩ (by omega) (by decide) (Eo.one _) fun v2 w2 a2=>⟨.inr (app_keep a2 _ (fkeep2 ⟨wok_lt (n1.ext.wok ol.wb),fn 1 (by decide) rfl⟩ ⟨wok_lt (n1.ext.wok oy.hok),oy.ne.symm⟩)),?_⟩
   obtain ⟨gb,go,gc,rfl,wk2,-,nx⟩:=a1.app' (ls:=[(some g)]) rfl (by rw [flat_one];exact a2)
   simp only [↓zZ1,↓reduceIte,Nat.reduceEqDiff,rg,ow_151,↓rgm]
   refine do_store (by simp only [zZ2,Nat.reduceEqDiff,↓reduceIte,zZ3]<;>rfl) (by simp only [zZ2,Nat.reduceEqDiff,↓reduceIte,zZ3]<;>rfl) sz_166 rfl wk2 (by decide) (oc_one rfl rfl) fun w3 x3 r3 s3=>⟨trivial,?_⟩
   simp only [↓zZ1,↓reduceIte,Nat.reduceEqDiff,rg,ow_151,↓rgm]
   apply hK;clear hK K
   obtain ⟨g1,g2,g3⟩:=nx w3 x3 (Row.cons.1 r3).1
   have s2:Ss w0 G w3 [ndO E iso 1 b cb (ks.set j x) (ptr bc),ndO E iso 0 p ((cl+1:Nat):Int) (ls++[k]) (ptr lc),ndO E iso 0 q ((cr-1:Nat):Int) rs (ptr rc),kdO (ptr bc) ps,kdO (ptr lc) (lp++[(some g)]),kdO (ptr rc) (some g::rp')]:=uy g1 (n1.ext.trans g2 (fun _ _ h=>h.elim) fun _ _ _ h=>h) (g3.imp id fun h=>(by have:=n1.size;omega))
   refine W_st s2 e0 e1 e2 e6 e7 ?_
   clear s s2 e0 e1 e2 e6 e7 ol ul vl oy uy fn fk ot ut vt oz uz wk2 nx x3 r3 s3 g1 g2 g3 hb_p hb_lc hgv hl0 i0 n1 a1 a2 L0 L1
   clear e;intro e w s e0 e1 e2 e6 e7
   obtain ⟨tb,to,tq,ot,ut,vt⟩:=s.nd 2 rfl
   obtain ⟨zb,zo,zq,oz,uz⟩:=s.kd 5 rfl
   have hil:0<(some g::rp').length:=by simp
   have hic:=oz.le
   obtain ⟨o2,h2,-,v2,-⟩:=oz.from Eo_sz 1 (by omega)
   have i2:1<=(some g::rp').length:=by omega
   have h3:slcX (some 1) (.slice (some ⟨zb,zo,none⟩) (some g::rp').length zq) (some (.int .i64 1)) none none=some (slFrom zb zo 1 1 (some g::rp').length zq):=slcX_lo _ _ _ _ _ 1 _ i2
   refine W_sq fun K hK=>(W_draw (some none) (some 13) [(0,0,0),(0,1,0),(0,2,0),(0,3,0),(0,4,0),(0,5,0),(0,6,0),(0,7,0),(0,8,0),(0,9,0),(0,10,0),(0,11,0),(0,12,0),(1,13,0)] mixed (by kernel_rfl) ?_);simp only [↓zZ1,↓reduceIte,Nat.reduceEqDiff,rg,ow_151,e0,e1,e2,e6,e7,ptr_eq,ot.h3,oz.hd,h3,i2,h2]
   refine do_copy (by simp only [zZ2,Nat.reduceEqDiff,↓reduceIte,zZ3]<;>rfl) (by simp only [zZ2,Nat.reduceEqDiff,↓reduceIte,zZ3]<;>rfl) rb_elk (SlV.ext0 v2 (Ext.dr noF w (w.drawn+1))) ((Ext.dr noF w (w.drawn+1)).wok (oz.wi.mono (by rw [Eo_sz];omega))) (flat_oc Eo _) fun w3 x3 r3 s3=>⟨(by first | exact trivial | exact .inl trivial),?_⟩
   simp only [↓zZ1,↓reduceIte,Nat.reduceEqDiff,rg,ow_151,↓rgm]
   apply hK;clear hK K
   have hm:min ((some g::rp').length-1) ((some g::rp').length)=(some g::rp').length-1-0:=by omega
   rw [hm] at x3 r3
   rw [List.take_of_length_le (by rw [flat_length,List.length_drop,Eo_sz];omega)] at r3
   obtain ⟨z,g1,g2⟩:=oz.down (i:=0) hil (by rw [Nat.zero_mul,Nat.add_zero];exact x3.od) (by rw [Nat.zero_mul,Nat.add_zero];exact r3)
   have s2:Ss w0 G w3 [ndO E iso 1 b cb (ks.set j x) (ptr bc),ndO E iso 0 p ((cl+1:Nat):Int) (ls++[k]) (ptr lc),ndO E iso 0 q ((cr-1:Nat):Int) rs (ptr rc),kdO (ptr bc) ps,kdO (ptr lc) (lp++[(some g)]),kdO (ptr rc) (rp'++[z])]:=uz g1 g2 (.inl ⟨rfl,rfl,rfl⟩)
   refine W_st s2 e0 e1 e2 e6 e7 ?_
   clear s s2 e0 e1 e2 e6 e7 ot ut vt oz uz x3 r3 s3 g1 g2 hm hil hic v2 h2 i2   h3
   clear e;intro e w s e0 e1 e2 e6 e7
   obtain ⟨tb,to,tq,ot,ut,vt⟩:=s.nd 2 rfl
   obtain ⟨zb,zo,zq,oz,uz⟩:=s.kd 5 rfl
   have hA:(rp'++[z]).length=n2:=by rw [List.length_append,List.length_singleton];skip;omega
   have h2:=oz.hd
   rw [hA] at h2
   have q1:=wsub1 (n2) (by omega) (by omega)
   have hi:n2-1<n2:=by omega
   refine W_sq fun K hK=>(W_draw (some none) (some 15) [(0,0,0),(0,1,0),(0,2,0),(0,3,0),(0,4,0),(0,5,0),(0,6,0),(0,7,0),(0,8,0),(0,9,0),(0,10,0),(0,11,0),(0,12,0),(0,13,0),(0,14,0),(1,15,0)] mixed (by kernel_rfl) ?_);simp only [↓zZ1,↓reduceIte,Nat.reduceEqDiff,rg,ow_151,e0,e1,e2,e6,e7,ptr_eq,ot.h3,h2,q1,hi]
   refine do_store (by simp only [zZ2,Nat.reduceEqDiff,↓reduceIte,zZ3]<;>rfl) (by simp only [zZ2,Nat.reduceEqDiff,↓reduceIte,zZ3]<;>rfl) sz_96 rfl oz.wi (by have:=oz.le;rw [Eo_sz];rw [hA] at this;omega) (oc_one rfl rfl) fun w3 x3 r3 s3=>⟨(by first | exact trivial | exact .inl trivial),?_⟩
   simp only [↓zZ1,↓reduceIte,Nat.reduceEqDiff,rg,ow_151,↓rgm]
   apply hK;clear hK K
   obtain ⟨g1,g2⟩:=oz.set (i:=n2-1) (x:=none) (by rw [hA];omega) (by rw [Eo_sz,Nat.mul_one];exact x3.od) (by rw [Eo_sz,Nat.mul_one];exact r3)
   have hs:(rp'++[z]).set (n2-1) none=rp'++[none]:=by rw [show n2-1=(rp').length by skip;omega];exact set_last
   rw [hs] at g1
   have s2:Ss w0 G w3 [ndO E iso 1 b cb (ks.set j x) (ptr bc),ndO E iso 0 p ((cl+1:Nat):Int) (ls++[k]) (ptr lc),ndO E iso 0 q ((cr-1:Nat):Int) rs (ptr rc),kdO (ptr bc) ps,kdO (ptr lc) (lp++[(some g)]),kdO (ptr rc) (rp'++[none])]:=uz g1 g2 (.inl ⟨rfl,rfl,rfl⟩)
   refine W_st s2 e0 e1 e2 e6 e7 ?_
   clear s s2 e0 e1 e2 e6 e7 ot ut vt oz uz x3 r3 s3 g1 g2 hA h2 q1 hi hs
   clear e;intro e w s e0 e1 e2 e6 e7
   obtain ⟨tb,to,tq,ot,ut,vt⟩:=s.nd 2 rfl
   obtain ⟨zb,zo,zq,oz,uz⟩:=s.kd 5 rfl
   have hA:(rp'++[none]).length=n2:=by rw [List.length_append,List.length_singleton];skip;omega
   have h2:=oz.hd
   have h4:=oz.le
   rw [hA] at h2 h4
   have q1:=wsub1 (n2) (by omega) (by omega)
   have hi:n2-1<=zq:=by omega
   refine W_sq fun K hK=>(W_draw (some none) (some 20) [(0,0,0),(0,1,0),(0,2,0),(0,3,0),(0,4,0),(0,5,0),(0,6,0),(0,7,0),(0,8,0),(0,9,0),(0,10,0),(0,11,0),(0,12,0),(0,13,0),(0,14,0),(0,15,0),(0,16,0),(0,17,0),(0,18,0),(0,19,0),(1,20,0)] mixed (by kernel_rfl) ?_);simp only [↓zZ1,↓reduceIte,Nat.reduceEqDiff,rg,ow_151,e0,e1,e2,e6,e7,ptr_eq,ot.h3,h2,q1,hi]
   refine do_store (by simp only [zZ2,Nat.reduceEqDiff,↓reduceIte,zZ3]<;>rfl) (by simp only [zZ2,Nat.reduceEqDiff,↓reduceIte,zZ3]<;>rfl) sz_166 rfl oz.hok (by decide) (oc_one rfl rfl) fun w3 x3 r3 s3=>⟨(by first | exact trivial | exact .inl trivial),?_⟩
   simp only [↓zZ1,↓reduceIte,Nat.reduceEqDiff,rg,ow_151,↓rgm]
   apply hK;clear hK K
   obtain ⟨g1,g2⟩:=oz.cut x3.od (by rw [show (rp').length=n2-1 by skip;omega];exact (Row.cons.1 r3).1)
   have s2:Ss w0 G w3 [ndO E iso 1 b cb (ks.set j x) (ptr bc),ndO E iso 0 p ((cl+1:Nat):Int) (ls++[k]) (ptr lc),ndO E iso 0 q ((cr-1:Nat):Int) rs (ptr rc),kdO (ptr bc) ps,kdO (ptr lc) (lp++[(some g)]),kdO (ptr rc) rp']:=uz g1 g2 (.inl ⟨rfl,rfl,rfl⟩)
   refine W_st s2 e0 e1 e2 e6 e7 ?_
   clear s s2 e0 e1 e2 e6 e7 ot ut vt oz uz x3 r3 s3 g1 g2 hA h2 h4 q1 hi
   clear e;intro e w s e0 e1 e2 e6 e7
   obtain ⟨lb,lo,lq,ol,ul,vl⟩:=s.nd 1 rfl
   obtain ⟨yb,yo,yq,oy,uy⟩:=s.kd 4 rfl
   obtain ⟨n4,hn4⟩:∃ n4,n4=lp.length+1:=⟨_,rfl⟩
   have h2:=oy.hd
   rw [show (lp++[some g]).length=n4 by simp [hn4]] at h2
   have q3:=wsub1 n4 (by omega) (by omega)
   have hi:n4-1<n4:=by omega
   have hgv:=oy.ptr_at (j:=n4-1) (p:=g) (by simp [hn4])
   have hg1:=s.x.rd hgc (hgG 1)
   have q1:=wadd (cl+1) cg (by omega)
   refine W_sq fun K hK=>(W_draw (some none) (some 26) [(0,0,0),(0,1,0),(0,2,0),(0,3,0),(0,4,0),(0,5,0),(0,6,0),(0,7,0),(0,8,0),(0,9,0),(0,10,0),(0,11,0),(0,12,0),(0,13,0),(0,14,0),(0,15,0),(0,16,0),(0,17,0),(0,18,0),(0,19,0),(0,20,0),(0,21,0),(0,22,0),(0,23,0),(0,24,0),(0,25,0),(1,26,0)] mixed (by kernel_rfl) ?_);simp only [↓zZ1,↓reduceIte,Nat.reduceEqDiff,rg,ow_151,e0,e1,e2,e6,e7,ptr_eq,ol.h1,h2,q3,hi,hgv,hg1,ol.h3,q1]
   refine do_store (by simp only [zZ2,Nat.reduceEqDiff,↓reduceIte,zZ3]<;>rfl) (by simp only [zZ2,Nat.reduceEqDiff,↓reduceIte,zZ3]<;>rfl) sz_3 rfl ol.wb (by decide) (oc_one rfl rfl) fun w3 x3 r3 s3=>⟨(by first | exact trivial | exact .inl trivial),?_⟩
   simp only [↓zZ1,↓reduceIte,Nat.reduceEqDiff,rg,ow_151,↓rgm]
   apply hK;clear hK K
   have s2:Ss w0 G w3 [ndO E iso 1 b cb (ks.set j x) (ptr bc),ndO E iso 0 p ((cl+1+cg:Nat):Int) (ls++[k]) (ptr lc),ndO E iso 0 q ((cr-1:Nat):Int) rs (ptr rc),kdO (ptr bc) ps,kdO (ptr lc) (lp++[(some g)]),kdO (ptr rc) rp']:=vl x3.od (Row.cons.1 r3).1
   refine W_st s2 e0 e1 e2 e6 e7 ?_
   clear s s2 e0 e1 e2 e6 e7 ol ul vl oy uy x3 r3 s3 h2 q3 hi hgv hg1 hn4 q1
   clear e;intro e w s e0 e1 e2 e6 e7
   obtain ⟨tb,to,tq,ot,ut,vt⟩:=s.nd 2 rfl
   obtain ⟨lb,lo,lq,ol,ul,vl⟩:=s.nd 1 rfl
   obtain ⟨yb,yo,yq,oy,uy⟩:=s.kd 4 rfl
   obtain ⟨n4,hn4⟩:∃ n4,n4=lp.length+1:=⟨_,rfl⟩
   have h2:=oy.hd
   rw [show (lp++[some g]).length=n4 by simp [hn4]] at h2
   have q3:=wsub1 n4 (by omega) (by omega)
   have hi:n4-1<n4:=by omega
   have hgv:=oy.ptr_at (j:=n4-1) (p:=g) (by simp [hn4])
   have hg1:=s.x.rd hgc (hgG 1)
   have q1:=wsub (cr-1) cg (by omega) (by omega)
   refine W_rg fun K hK=>(W_draw (some none) (some 26) [(0,0,0),(0,1,0),(0,2,0),(0,3,0),(0,4,0),(0,5,0),(0,6,0),(0,7,0),(0,8,0),(0,9,0),(0,10,0),(0,11,0),(0,12,0),(0,13,0),(0,14,0),(0,15,0),(0,16,0),(0,17,0),(0,18,0),(0,19,0),(0,20,0),(0,21,0),(0,22,0),(0,23,0),(0,24,0),(0,25,0),(1,26,0)] mixed (by kernel_rfl) ?_);simp only [↓zZ1,↓reduceIte,Nat.reduceEqDiff,rg,ow_151,e0,e1,e2,e6,e7,ptr_eq,ot.h1,h2,q3,hi,hgv,hg1,ol.h3,q1]
   refine do_store (by simp only [zZ2,Nat.reduceEqDiff,↓reduceIte,zZ3]<;>rfl) (by simp only [zZ2,Nat.reduceEqDiff,↓reduceIte,zZ3]<;>rfl) sz_3 rfl ot.wb (by decide) (oc_one rfl rfl) fun w3 x3 r3 s3=>⟨(by first | exact trivial | exact .inl trivial),?_⟩
   simp only [↓zZ1,↓reduceIte,Nat.reduceEqDiff,rg,ow_151,↓rgm]
   apply hK;clear hK K
   have s2:Ss w0 G w3 [ndO E iso 1 b cb (ks.set j x) (ptr bc),ndO E iso 0 p ((cl+1+cg:Nat):Int) (ls++[k]) (ptr lc),ndO E iso 0 q ((cr-1-cg:Nat):Int) rs (ptr rc),kdO (ptr bc) ps,kdO (ptr lc) (lp++[(some g)]),kdO (ptr rc) rp']:=vt x3.od (Row.cons.1 r3).1
   show endQ _ _ _ _ _ _
   refine endQ_0n ?_
   exact s2
 obtain ⟨nb,no,nc,on,un,vn⟩:=s.nd 0 rfl
 rcases hj with ⟨rfl,hj⟩ | ⟨rfl,hj⟩
 ·have hb:((i0:Int) == (ks.length:Int))=false:=by simp;omega
  refine W_sq fun K hK=>(W_text [true,true,true,true,true,true,true] (by kernel_rfl) ?_);simp only [↓zZ1,↓reduceIte,Nat.reduceEqDiff,rg,ow_151,e1,e2,ptr_eq,on.h2,hb]
  apply hK;clear hK K
  refine W_false (by simp only [zZ2,Nat.reduceEqDiff,↓reduceIte,zZ3]<;>rfl) (W_skip ?_)
  exact hend _ e0 e1 e2
 ·have hb:((ks.length:Int) == (ks.length:Int))=true:=by simp
  refine W_sq fun K hK=>(W_text [true,true,true,true,true,true,true] (by kernel_rfl) ?_);simp only [↓zZ1,↓reduceIte,Nat.reduceEqDiff,rg,ow_151,e1,e2,ptr_eq,on.h2,hb]
  apply hK;clear hK K
  refine W_true (by simp only [zZ2,Nat.reduceEqDiff,↓reduceIte,zZ3]<;>rfl) ?_
  have q1:=wsub1 ks.length (by omega) (by omega)
  have hjs:ks.length-1=j:=by omega
  refine W_rg fun K hK=>(W_text [true,true,true] (by kernel_rfl) ?_);simp only [↓zZ1,↓reduceIte,Nat.reduceEqDiff,rg,ow_151,e2,q1]
  apply hK;clear hK K
  exact hend _ e0 e1 (by simp only [upd_eq,Nat.reduceEqDiff,↓reduceIte]<;>rw [hjs])
end Go.Proofs.Ytbnnkcofnmipoaa
