/- Texts in one. No condition. -/
import Derived.Test.YtbnnkcofnmipoaaZ0b558072
import Derived.Test.YtbnnkcofnmipoaaZA
import Derived.Test.YtbnnkcofnmipoaaZGSet
import Derived.Test.YtbnnkcofnmipoaaRows
import Derived.ChangeArms
set_option linter.unusedVariables false
set_option linter.unusedSimpArgs false
namespace Go.Proofs.Ytbnnkcofnmipoaa
open Go Go.Proofs
structure TreeAt (B:Nat) (ord:List Int) (w:World) (m d:Nat) (iso:Int) (xs:List It) (F:Nat->Nat->Prop):Prop where
 cfg:Cfg w m iso d
 less:Ls B m w ord
 cnt:rd w m 3=some (.int .i64 xs.length)
 asc:Asc O (rkI ord) xs
 root:(xs=[]/\rd w m 2=some (.pointer none))\/∃ h b,rd w m 2=some (ptr b)/\Tr E iso (d-1) (2*d-1) h w 1 b xs F
 off:∀ o,¬ F m o
 lt:∀ y o,F y o->y<w.heap.size
 above:∀ y o,F y o->m<y
def mapF (m:Nat) (F:Nat->Nat->Prop):Nat->Nat->Prop:=fun y o=>F y o\/y=m/\(o=2\/o=3)
theorem TreeAt.extG {B:Nat} {ord:List Int} {w w':World} {G:Nat->Nat->Prop} {m d:Nat} {iso:Int} {xs:List It} {F:Nat->Nat->Prop} (h:TreeAt B ord w m d iso xs F) (x:Ext G w w') (hF:∀ y o,F y o->¬ G y o) (hm:∀ y o,G y o->m<y):TreeAt B ord w' m d iso xs F:=by
 have hm':∀ o,¬ G m o:=fun o g=>Nat.lt_irrefl _ (hm _ _ g)
 have hB:B<=m:=by obtain ⟨_,_,_,h⟩:=h.less;exact h
 exact ⟨h.cfg.ext x fun o _ _=>hm' o,h.less.ext x (fun y o g=>by have:=hm _ _ g;omega) (hm' 6),x.rd h.cnt (hm' 3),h.asc,h.root.imp (fun ⟨h1,h2⟩=>⟨h1,x.rd h2 (hm' 2)⟩) fun ⟨h',b,h1,h2⟩=>⟨h',b,x.rd h1 (hm' 2),h2.ext x hF⟩,
  h.off,fun y o g=>Nat.lt_of_lt_of_le (h.lt y o g) x.size,h.above⟩
theorem TreeAt.ext {B:Nat} {ord:List Int} {w w':World} {m d:Nat} {iso:Int} {xs:List It} {F:Nat->Nat->Prop} (h:TreeAt B ord w m d iso xs F) (x:Ext noF w w'):TreeAt B ord w' m d iso xs F :=
 h.extG x (fun _ _ _ g=>g) fun _ _ g=>g.elim
theorem TreeAt.mlt {B:Nat} {ord:List Int} {w:World} {m d:Nat} {iso:Int} {xs:List It} {F:Nat->Nat->Prop} (h:TreeAt B ord w m d iso xs F):m<w.heap.size:=wok_lt h.cfg.wok
theorem Tr.height {α:Type} {E:Enc α} {iso:Int} {mn mx:Nat} {w:World} (hmn:1<=mn):∀ {h lo b:Nat} {xs:List α} {F:Nat->Nat->Prop},1<=lo->Tr E iso mn mx h w lo b xs F->h<xs.length
 | 0,_,_,_,_,hlo,⟨_,_,_,_,h1,_⟩=>by omega
 | h+1,_,_,_,_,hlo,⟨_,_,_,_,_,_,_,ks,cs,_,_,h1,_,hcs,hxs,hT,_⟩=>by
  have hl:=weave_length (cs.map Kid.xs) ks (by simpa using hcs)
  rw [<-hxs] at hl
  cases cs with
  | nil=>simp at hcs
  | cons c cs =>
   have:=Tr.height hmn hmn (hT c (by simp))
   simp at hl;omega
theorem Tr.iso0 {w:World} {iso:Int} {mn mx h lo b:Nat} {xs:List It} {F:Nat->Nat->Prop} (ht:Tr E iso mn mx h w lo b xs F):rd w b 0=some (.int .u64 iso)/\rd w b 1=some (.int .i64 xs.length):=by
 obtain ⟨bi,oi,cap,ks,ch,ho,_⟩:=ht.open
 exact ⟨ho.h0,ho.h1⟩
theorem bs_it0:bsV Try.prog 25 0 []=some (33,[]):=by kernel_rfl
theorem bs_it1 (x:It):bsV Try.prog 25 1 [(0,itV x)]=some (33,E.cel x):=by kernel_rfl
theorem bs_kid0:bsV Try.prog 166 0 []=some (96,[]):=by kernel_rfl
theorem bs_kid2 (a b:Nat):bsV Try.prog 166 2 [(0,ptr a),(1,ptr b)]=some (96,[ptr a,ptr b]):=by kernel_rfl
theorem keep2 {F:Nat->Nat->Prop} {w w':World} {a b:Nat} (h:Ext F w w') (h1:a<w.heap.size/\∀ o,¬ F a o) (h2:b<w.heap.size/\∀ o,¬ F b o):keeps (some (some [a,b])) w w':=keeps_on h fun x hx=>by
 simp only [List.mem_cons,List.not_mem_nil,or_false] at hx
 rcases hx with rfl | rfl
 ·exact h1
 ·exact h2
theorem app_new {w w':World} {sz m b o:Nat} {l':List Value} {v':Value} (h:AppRes w sz (.slice (some ⟨b,o,none⟩) 0 0) 0 m [] l' v' w') (hm:0<m) :
  ∃ cap',v' = .slice (some ⟨w.heap.size,0,none⟩) m cap'/\m<=cap'/\Row w' w.heap.size 0 l'/\wok w' w.heap.size (cap'*sz)/\Ext noF w w'/\w'.heap.size=w.heap.size+1:=by
 obtain ⟨hs,hc⟩:=h
 rw [Nat.zero_add] at hs hc
 rcases hc with ⟨_,_,h3⟩ | ⟨b0,o0,cap0,h1,h2,h3,h4,h5⟩ | ⟨cap',h1,h2,h3,h4⟩
 ·cases h3
 ·simp only [Value.slice.injEq,Option.some.injEq,Addr.mk.injEq,true_and,and_true] at h1
  omega
 ·subst h1
  rcases hs.2 with ⟨h,_⟩ | ⟨b1,o1,c1,h1,hle,hr,hw⟩
  ·cases h
  ·simp only [Value.slice.injEq,Option.some.injEq,Addr.mk.injEq,true_and,and_true] at h1
   obtain ⟨⟨rfl,rfl⟩,rfl⟩:=h1
   exact ⟨_,rfl,hle,by simpa using hr,h4,h2,h3⟩
set_option maxHeartbeats 1000000 in
set_option maxRecDepth 8000 in
theorem set_root (B m d:Nat) (iso:Int) (ord:List Int) (x:It) (hd:2<=d) (hd':d<=128):∀ (k h b:Nat) (xs:List It) (F:Nat->Nat->Prop) (w:World),xs.length-h=k->Cfg w m iso d->Ls B m w ord->(∀ y o,F y o->m<y) →
  rd w m 3=some (.int .i64 xs.length)->Asc O (rkI ord) xs->rd w m 2=some (ptr b)->Tr E iso (d-1) (2*d-1) h w 1 b xs F->(∀ o,¬ F m o)->xs.length<1152921504606846976 →
  CallK Try.prog 90 #[ptr m,itV x,.pointer none] w fun v w'=>v = .tuple #[itV ((at? O (rkI ord) (rkI ord x) xs).getD zIt),.bool (hit O (rkI ord) (rkI ord x) xs)]/\Ext (mapF m F) w w' ∧
   ∃ F',TreeAt B ord w' m d iso (put O (rkI ord) x xs) F'/\∀ y o,F' y o->F y o\/w.heap.size<=y:=by
 intro k
 induction k using Nat.strongRecOn with
 | _ k ih =>
 intro h b xs F w hk hc hL hBF hcnt ha hroot ht hm hbig
 have hml:=wok_lt hc.wok
 have hht:=Tr.height (by omega) (Nat.le_refl 1) ht
 have hBm:B<=m:=by obtain ⟨_,_,_,h⟩:=hL;exact h
 refine calls_of_W [.cell 6 33,.tmp 7] Try.func90 rfl Try.ntmps90 Try.results90 (by simp) fun e he=>?_
 have e0:e 0=ptr m:=he 0 _ rfl
 have e1:e 1=itV x:=he 1 _ rfl
 have e2:e 2 = .pointer none:=he 2 _ rfl
 clear he
 refine W_sq fun K hK=>(W_text [false,false,true] (by kernel_rfl) ?_);simp only [↓zZ1,↓reduceIte,Nat.reduceEqDiff,rg,ow_90]
 refine do_box (by simp only [evt];exact e1) fun w1 n1=>⟨trivial,?_⟩
 simp only [↓zZ1,↓reduceIte,Nat.reduceEqDiff,rg,ow_90]
 refine do_alloc z_it fun w2 n2=>⟨trivial,?_⟩
 simp only [↓zZ1,↓reduceIte,Nat.reduceEqDiff,rg,ow_90]
 apply hK;clear hK K
 have s1:=n1.size
 have X2:Ext noF w w2:=n1.ext.tr n2.ext
 have rx:Row w2 w.heap.size 0 (E.cel x):=n2.ext.row n1.row fun _ _ h=>h
 have s2:w2.heap.size=w.heap.size+2:=by have:=n2.size;omega
 obtain ⟨q,hq⟩:∃ q,q=w1.heap.size:=⟨_,rfl⟩
 have hqs:q=w.heap.size+1:=by omega
 have wq2:wok w2 q 2:=by rw [hq];exact n2.wok
 rw [<-hq]
 clear hq n1 n2
 have c2:=hc.ext X2 fun _ _ _ h=>h
 have rt2:=X2.rd hroot (fun h=>h)
 have ix:=iX_at rx
 refine W_seq ?_
 refine W_sq fun K hK=>(W_text [true,true,true,true,true] (by kernel_rfl) ?_);simp only [↓zZ1,↓reduceIte,Nat.reduceEqDiff,rg,ow_90,e0,ptr_eq,rt2]
 apply hK;clear hK K
 refine W_false (by simp only [zZ2,Nat.reduceEqDiff,↓reduceIte,zZ3]<;>rfl) (W_skip ?_)
 show W _ _ _ _ _ _
 have M1:readsB (some (some [w.heap.size])) w.heap.size=true:=by simp [readsB]
 have hFlt:=ht.lt
 refine W_sq fun K hK=>(W_draw (some (some [w.heap.size])) none [(0,0,0),(0,1,0),(0,2,0),(0,3,0),(0,4,0),(0,5,0),(1,6,0),(0,7,0),(0,8,0),(0,9,0),(0,10,0),(1,11,0),(0,12,0),(0,13,0)] mixed (by kernel_rfl) ?_);simp only [↓zZ1,↓reduceIte,Nat.reduceEqDiff,rg,ow_90,e0,e2,ptr_eq,ix,M1]
 refine do_call fn_123 (by simp only [zZ2,Nat.reduceEqDiff,↓reduceIte,zZ4]<;>rfl) (set_any B m d iso ord x hd hd' h _ 1 rfl (Nat.le_refl 1) b xs F _ m 2 0 (c2.ext (Ext.dr noF _ _) fun _ _ _ g=>g) (hL.ext0 (X2.tr (Ext.dr noF _ _))) hBF (by omega) ((ht.ext X2 fun _ _ _ g=>g).ext (Ext.dr noF _ _) fun _ _ _ g=>g) ha hbig hm rt2 (hm 2)) ?_
 rintro v w3p ⟨x3p,F',hF',hres⟩
 refine ⟨.inr (keeps_on x3p fun y hy=>?_),?_⟩
 ·rw [sz_dr]
  simp only [List.mem_cons,List.not_mem_nil,or_false] at hy
  subst hy
  exact ⟨by omega,fun o g=>by have:=hFlt _ _ g;omega⟩
 have x3p:=x3p.od
 have hF3:∀ y o,F' y o->F y o\/w2.heap.size<=y:=hF'
 have s3p:=x3p.size
 have wq3:=x3p.wok wq2
 have hF'm:∀ o,¬ F' m o:=fun o g=>by
  rcases hF3 m o g with g | g
  ·exact hm o g
  ·omega
 have hF'q:∀ o,¬ F' q o:=fun o g=>by
  rcases hF3 q o g with g | g
  ·have:=hFlt _ _ g;omega
  ·omega
 have hkeep:∀ {u:World},Ext (rng q 0 2) w3p u->keeps (some (some [w.heap.size])) w3p u:=fun hx=>keeps_on hx fun y hy=>by
  simp only [List.mem_cons,List.not_mem_nil,or_false] at hy
  subst hy
  exact ⟨by omega,fun o g=>by simp only [rng] at g;omega⟩
 rcases hres with ⟨rfl,hT',hh⟩ | ⟨rfl,hT'⟩
 ·simp only [↓zZ1,↓reduceIte,Nat.reduceEqDiff,rg,ow_90]
  refine do_store (by simp only [zZ2,Nat.reduceEqDiff,↓reduceIte,zZ3]<;>rfl) (by simp only [zZ2,Nat.reduceEqDiff,↓reduceIte,zZ3]<;>rfl) sz_33 (itV_len zIt) wq3 (by decide) (itV_oc zIt) fun w3 x3s r3s s3s=>⟨.inr (hkeep x3s),?_⟩
  simp only [↓zZ1,↓reduceIte,Nat.reduceEqDiff,rg,ow_90]
  apply hK;clear hK K
  have x3:Ext (fun y o=>F y o\/rng q 0 2 y o) w2 w3:=x3p.trans x3s (fun _ _ g=>.inl g) fun _ _ _ g=>.inr g
  have X3:Ext F w w3:=X2.trans x3 (fun _ _ g=>g.elim) fun y o hy g=>g.elim id fun g=>by simp only [rng] at g;omega
  have s3:=x3.size
  have hmG:∀ o,¬ (F m o\/rng q 0 2 m o):=fun o g=>g.elim (hm o) fun g=>by simp only [rng] at g;omega
  have c3:=c2.ext x3 fun o _ _=>hmG o
  have rt3:=x3.rd rt2 (hmG 2)
  have ct3:=X3.rd hcnt (hm 3)
  have hL3:=hL.ext X3 (fun y o g=>by have:=hBF y o g;omega) (hm 6)
  have wq3':=x3s.wok wq3
  have hT':=hT'.ext x3s fun y o g k=>by simp only [rng] at k;exact hF'q o (by rw [<-k.1];exact g)
  have hab3:∀ y o,F' y o->m<y:=fun y o g=>by
   rcases hF3 y o g with g | g
   ·exact hBF _ _ g
   ·omega
  refine W_seq ?_
  refine W_sq fun K hK=>(W_text [true] (by kernel_rfl) ?_);simp only [↓zZ1,↓reduceIte,Nat.reduceEqDiff,rg,ow_90]
  apply hK;clear hK K
  refine W_true (by simp only [zZ2,Nat.reduceEqDiff,↓reduceIte,zZ3]<;>rfl) ?_
  refine W_sq fun K hK=>(W_text [true,true,true,true,false,true] (by kernel_rfl) ?_);simp only [↓zZ1,↓reduceIte,Nat.reduceEqDiff,rg,ow_90,e0,ptr_eq]
  have tb3:rd w3 b 0=some (.int .u64 iso):=hT'.iso0.1
  refine do_call fn_96 (by simp only [zZ2,Nat.reduceEqDiff,↓reduceIte,zZ4]<;>rfl) (isoLoad_any m m 2 b true iso w3 c3.iso rt3 tb3) ?_
  rintro _ _ ⟨rfl,n3,rfl⟩
  refine ⟨trivial,?_⟩
  simp only [↓zZ1,↓reduceIte,Nat.reduceEqDiff,rg,ow_90]
  apply hK;clear hK K
  refine W_sq fun K hK=>(W_text [true,true,false,true,true,true,false,true,false] (by kernel_rfl) ?_);simp only [↓zZ1,↓reduceIte,Nat.reduceEqDiff,rg,ow_90,e0]
  refine do_call fn_124 (by simp only [zZ2,Nat.reduceEqDiff,↓reduceIte,zZ4]<;>rfl) (split_tr m d b h iso xs F' (dr w3 n3) hd hd' (c3.ext (Ext.dr noF _ _) fun _ _ _ g=>g) (hT'.ext (Ext.dr noF _ _) fun _ _ _ g=>g) hF'm (by omega)) ?_
  rintro _ w4 ⟨rb,md,xl,xr,Fl,Fr,rfl,hxs,x4,hFl,hFr,hlr,tL,tR⟩
  refine ⟨trivial,?_⟩
  have x4:=x4.od
  have hFr:∀ y o,Fr y o->F' y o\/w3.heap.size<=y:=hFr
  simp only [↓zZ1,↓reduceIte,Nat.reduceEqDiff,rg,ow_90]
  refine do_alloc z_it fun w5 n5=>⟨trivial,?_⟩
  simp only [↓zZ1,↓reduceIte,Nat.reduceEqDiff,rg,ow_90]
  refine do_store (by simp only [zZ2,Nat.reduceEqDiff,↓reduceIte,zZ3]<;>rfl) (by simp only [zZ2,Nat.reduceEqDiff,↓reduceIte,zZ3]<;>rfl) sz_33 (itV_len md) n5.wok (by decide) (itV_oc md) fun w6 x6 r6 s6=>⟨trivial,?_⟩
  simp only [↓zZ1,↓reduceIte,Nat.reduceEqDiff,rg,ow_90]
  apply hK;clear hK K
  have s4:=x4.size
  have s5:=n5.size
  have X6:Ext noF w4 w6:=noF_of n5.ext x6 fun y o hy h=>by simp only [rng] at h;omega
  have c4:=c3.ext x4 fun o _ _=>hF'm o
  have c6:=c4.ext X6 fun _ _ _ h=>h
  refine W_sq fun K hK=>(W_text [true,true,false,true,true,false] (by kernel_rfl) ?_);simp only [↓zZ1,↓reduceIte,Nat.reduceEqDiff,rg,ow_90,e0]
  refine do_call fn_122 (by simp only [zZ2,Nat.reduceEqDiff,↓reduceIte,zZ4]<;>rfl) (newNode_any m false iso w6 c6.iso) ?_
  rintro _ w7 ⟨b2,rfl,x7,nn⟩
  refine ⟨trivial,?_⟩
  simp only [↓zZ1,↓reduceIte,Nat.reduceEqDiff,rg,ow_90,ptr_eq]
  have c7:=c6.ext x7 fun _ _ _ h=>h
  refine do_store (by simp only [zZ2,Nat.reduceEqDiff,↓reduceIte,zZ3]<;>rfl) (by simp only [zZ2,Nat.reduceEqDiff,↓reduceIte,zZ3]<;>rfl) sz_96 rfl (c7.wok.mono (by decide)) (Nat.le_refl 3) (oc_one rfl rfl) fun w8 x8 r8 s8=>⟨trivial,?_⟩
  simp only [↓zZ1,↓reduceIte,Nat.reduceEqDiff,rg,ow_90]
  apply hK;clear hK K
  obtain ⟨bc2,nk,nk1,nk2,nk3,nk4⟩:=nn.kids rfl
  have s7:=x7.size
  have nnge:=nn.ge
  have rt8:rd w8 m 2=some (ptr b2):=(Row.cons.1 r8).1
  have c8:=c7.ext x8 fun o h2 _ g=>h2 (by simp only [rng] at g;omega)
  have kp8:=x8.rd nk (by simp only [rng];omega)
  have q1:IntKind.i64.wrap (((2*d-1:Nat):Int)+1)=((2*d:Nat):Int):=by rw [wadd1 _ (by omega)];congr 1;omega
  have M2:readsB (some (some [m,b2])) m=true:=by simp [readsB]
  have M3:readsB (some (some [m,b2])) b2=true:=by simp [readsB]
  have hb2l:=wok_lt nn.wb
  refine W_sq fun K hK=>(W_draw (some (some [m,b2])) (some 14) [(0,0,0),(0,1,0),(0,2,0),(0,3,0),(0,4,0),(0,5,0),(0,6,0),(0,7,0),(0,8,0),(0,9,0),(0,10,0),(0,11,0),(1,12,0),(0,13,0),(1,14,0)] mixed (by kernel_rfl) ?_);simp only [↓zZ1,↓reduceIte,Nat.reduceEqDiff,rg,ow_90,e0,ptr_eq,rt8,kp8,c8.mx,q1,M2,M3]
  refine do_make (n:=0) (c:=2*d) (by simp only [zZ2,Nat.reduceEqDiff,↓reduceIte,zZ3]<;>rfl) (by simp only [zZ2,Nat.reduceEqDiff,↓reduceIte,zZ3]<;>rfl) el_kid rfl (by omega) (by omega) (by omega) fun w9 l9 hl9 n9=>⟨.inr (keeps_on n9.ext fun y hy=>⟨?_,fun _ h=>h⟩),?_⟩
  ·rw [sz_dr]
   simp only [List.mem_cons,List.not_mem_nil,or_false] at hy
   omega
  simp only [↓zZ1,↓reduceIte,Nat.reduceEqDiff,rg,ow_90]
  have n9:=n9.od
  refine do_store (by simp only [zZ2,Nat.reduceEqDiff,↓reduceIte,zZ3]<;>rfl) (by simp only [zZ2,Nat.reduceEqDiff,↓reduceIte,zZ3]<;>rfl) sz_166 rfl (n9.ext.wok (x8.wok nk4)) (by decide) (oc_one rfl rfl) fun w10 x10 r10 s10=>⟨.inl trivial,?_⟩
  simp only [↓zZ1,↓reduceIte,Nat.reduceEqDiff,rg,ow_90]
  apply hK;clear hK K
  have rt10:rd w10 m 2=some (ptr b2):=x10.rd (n9.ext.rd rt8 fun h=>h) (by simp only [rng];omega)
  have kp10:rd w10 b2 3=some (ptr bc2):=x10.rd (n9.ext.rd kp8 fun h=>h) (by simp only [rng];omega)
  have wbc10:wok w10 bc2 1:=x10.wok (n9.ext.wok (x8.wok nk4))
  have s9:=n9.size
  have hbc2l:=wok_lt wbc10
  refine W_sq fun K hK=>(W_draw (some (some [m,b2])) (some 13) [(0,0,0),(0,1,0),(0,2,0),(0,3,0),(0,4,0),(0,5,0),(0,6,0),(0,8,0),(0,9,0),(2,7,10),(1,11,0),(0,12,0),(1,13,0)] mixed (by kernel_rfl) ?_);simp only [↓zZ1,↓reduceIte,Nat.reduceEqDiff,rg,ow_90,e0,ptr_eq,rt10,kp10,M2,M3]
  have rest:∀ e' w',e' 0=ptr m->e' 2 = .pointer none->e' 4 = .pointer (some ⟨w.heap.size,0,none⟩)->e' 6 = .pointer (some ⟨q,0,none⟩)->e' 11 = .pointer (some ⟨w4.heap.size,0,none⟩)->Ext (rng bc2 0 1) w10 w' →
    (∃ ba2 cap2,rd w' bc2 0=some (.slice (some ⟨ba2,0,none⟩) 2 cap2)/\2<=cap2/\Row w' ba2 0 [ptr b,ptr rb]/\wok w' ba2 cap2/\w10.heap.size<=ba2)->K e' w':=by
   intro e' w14 f0 f2 f8 f6 f14 x14 ⟨ba2,cap2,q0,q2,q3,q4,q5⟩
   apply hK;clear hK K
   have s10':=x10.size
   have s14:=x14.size
   have rt14:rd w14 m 2=some (ptr b2):=x14.rd rt10 (by simp only [rng];omega)
   have rm14:Row w14 w4.heap.size 0 (E.cel md):=x14.row (x10.row (n9.ext.row (x8.row (x7.row r6 fun _ _ h=>h) fun j _ h=>by simp only [rng] at h;omega) fun _ _ h=>h) fun j _ h=>by simp only [rng] at h;omega) fun j _ h=>by simp only [rng] at h;omega
   have im14:=iX_at rm14
   have wb14:wok w14 b2 4:=x14.wok (x10.wok (n9.ext.wok (x8.wok nn.wb)))
   have M4:readsB (some (some [m,w4.heap.size])) m=true:=by simp [readsB]
   have M5:readsB (some (some [m,w4.heap.size])) w4.heap.size=true:=by simp [readsB]
   have s8':=x8.size
   have s6':w6.heap.size=w4.heap.size+1:=by omega
   refine W_sq fun K hK=>(W_draw (some (some [m,w4.heap.size])) (some 10) [(0,0,0),(0,1,0),(0,2,0),(0,3,0),(0,5,0),(2,4,6),(1,7,0),(0,8,0),(0,9,0),(1,10,0)] mixed (by kernel_rfl) ?_);simp only [↓zZ1,↓reduceIte,Nat.reduceEqDiff,rg,ow_90,f0,f14,ptr_eq,rt14,im14,M4,M5]
   have rest2:∀ e'' w',e'' 0=ptr m->e'' 2 = .pointer none->e'' 4 = .pointer (some ⟨w.heap.size,0,none⟩)->e'' 6 = .pointer (some ⟨q,0,none⟩)->Ext (rng b2 2 1) w14 w' →
     (∃ bi2 cap3,rd w' b2 2=some (.slice (some ⟨bi2,0,none⟩) 1 cap3)/\1<=cap3/\Row w' bi2 0 (E.cel md)/\wok w' bi2 (cap3*2)/\w14.heap.size<=bi2)->K e'' w':=by
    intro e'' w18 f0 f2 f8 f6 x18 ⟨bi2,cap3,p0,p2,p3,p4,p5⟩
    apply hK;clear hK K
    have s18:=x18.size
    have hb4:b<w4.heap.size:=tL.lt _ _ (tL.self 0)
    have hrb4:rb<w4.heap.size:=tR.lt _ _ (tR.self 0)
    have hba18:=wok_lt (x18.wok q4)
    have hba14:=wok_lt q4
    have hbi18:=wok_lt p4
    have T18:Ext (fun y o=>(y=m/\o=2)\/w4.heap.size<=y) w4 w18:=by
     refine ((((((X6.trans x7 (H:=fun y o=>(y=m/\o=2)\/w4.heap.size<=y) (fun _ _ g=>g.elim) fun _ _ _ g=>g.elim).trans x8 (fun _ _ g=>g) fun y o _ g=>?_).trans n9.ext (fun _ _ g=>g) fun _ _ _ g=>g.elim).trans x10 (fun _ _ g=>g) fun y o _ g=>?_).trans x14 (fun _ _ g=>g) fun y o _ g=>?_).trans x18 (fun _ _ g=>g) fun y o _ g=>?_)
     all_goals simp only [rng] at g;omega
    have hFlm:∀ y o,Fl y o->¬ ((y=m/\o=2)\/w4.heap.size<=y):=fun y o g k=>by
     rcases k with ⟨rfl,_⟩ | k
     ·exact hF'm _ (hFl _ _ g)
     ·have:=tL.lt _ _ g;omega
    have hFrm':∀ o,¬ Fr m o:=fun o g=>by
     rcases hFr _ _ g with g | g
     ·exact hF'm _ g
     ·omega
    have hFrm:∀ y o,Fr y o->¬ ((y=m/\o=2)\/w4.heap.size<=y):=fun y o g k=>by
     rcases k with ⟨rfl,_⟩ | k
     ·exact hFrm' _ g
     ·have:=tR.lt _ _ g;omega
    have tL18:=tL.ext T18 hFlm
    have tR18:=tR.ext T18 hFrm
    have kp18:rd w18 b2 3=some (ptr bc2):=x18.rd (x14.rd kp10 (by simp only [rng];omega)) (by simp only [rng];omega)
    have K18:Kids w18 bc2 ba2 0 cap2 [b,rb]:=⟨x18.rd q0 (by simp only [rng];omega),x18.wok (x14.wok wbc10),x18.row q3 fun j _ h=>by simp only [rng] at h;omega,by rw [Nat.zero_add];exact x18.wok q4,q2,by omega⟩
    have wb18:=x18.wok wb14
    have rt18:rd w18 m 2=some (ptr b2):=x18.rd rt14 (by simp only [rng];omega)
    have hcn:cntP (cnW w18) [b,rb]=xl.length+xr.length:=by simp [cntP,cnW_eq tL18.cnt,cnW_eq tR18.cnt]
    have hxl:xs.length=xl.length+1+xr.length:=by rw [hxs];simp;omega
    refine W_sq fun K hK=>(W_text [true,true,true,true,false] (by kernel_rfl) ?_);simp only [↓zZ1,↓reduceIte,Nat.reduceEqDiff,rg,ow_90,f0,ptr_eq,rt18]
    refine do_call fn_125 (by simp only [zZ2,Nat.reduceEqDiff,↓reduceIte,zZ4]<;>rfl) (count_kids b2 1 cap3 bc2 ba2 0 cap2 _ [b,rb] (cnW w18) w18 p0 kp18 wb18 K18 (by omega) (by omega) (fun p hp=>by
     simp only [List.mem_cons,List.not_mem_nil,or_false] at hp
     rcases hp with rfl | rfl
     ·exact ⟨by rw [cnW_eq tL18.cnt];exact tL18.cnt,by omega⟩
     ·exact ⟨by rw [cnW_eq tR18.cnt];exact tR18.cnt,by omega⟩) (by omega) (by simp)) ?_
    rintro _ w19 ⟨x19,d1,s19⟩
    refine ⟨trivial,?_⟩
    simp only [↓zZ1,↓reduceIte,Nat.reduceEqDiff,rg,ow_90]
    apply hK;clear hK K
    rw [hcn] at d1
    have T19:Ext (fun y o=>(y=m/\o=2)\/w4.heap.size<=y) w4 w19:=T18.trans x19 (fun _ _ g=>g) fun y o _ g=>by simp only [rng] at g;omega
    have c19:=c4.ext T19 fun o h2 _ g=>by
     rcases g with g | g
     ·exact h2 g.2
     ·have:=wok_lt c4.wok;omega
    have ct19:rd w19 m 3=some (.int .i64 xs.length):=T19.rd (x4.rd ct3 (hF'm 3)) fun g=>by omega
    have rx19:Row w19 w.heap.size 0 (E.cel x):=T19.row (x4.row (x3.row rx fun j _ g=>by
     rcases g with g | g
     ·have:=hFlt _ _ g;omega
     ·simp only [rng] at g;omega) fun j _ g=>by
     rcases hF3 _ _ g with g | g
     ·have:=hFlt _ _ g;omega
     ·omega) fun j _ g=>by omega
    have ix19:=iX_at rx19
    have wq19:wok w19 q 2:=T19.wok (x4.wok wq3')
    have hL19:=(hL3.ext x4 (fun y o g=>by have:=hab3 y o g;omega) (hF'm 6)).ext T19 (fun y o g=>by omega) (by omega)
    have own19:Own E w19 b2 iso xs.length bi2 0 cap3 [md] (ptr bc2):=by
     have h0:=x19.rd (x18.rd (x14.rd (x10.rd (n9.ext.rd (x8.rd nn.h0 (by simp only [rng];omega)) fun h=>h) (by simp only [rng];omega)) (by simp only [rng];omega)) (by simp only [rng];omega)) (by simp only [rng];omega)
     refine ⟨h0,?_,x19.rd p0 (by simp only [rng];omega),x19.rd kp18 (by simp only [rng];omega),x19.wok wb18,?_,by rw [Nat.zero_add];exact x19.wok p4,p2,by omega⟩
     ·rw [d1,hxl];congr 3;omega
     ·rw [flat_one];exact x19.row p3 fun j _ h=>by simp only [rng] at h;omega
    have K19:=K18.ext x19 fun y o g h=>by simp only [kidF,rng] at g h;omega
    have tL19:=tL.ext T19 hFlm
    have tR19:=tR.ext T19 hFrm
    have tr19:Tr E iso (d-1) (2*d-1) (h+1) w19 1 b2 xs (fun y o=>ownF E b2 bi2 0 cap3 y o\/kidF bc2 ba2 0 cap2 y o\/∃ c ∈ [Kid.mk b xl Fl,Kid.mk rb xr Fr],c.F y o):=by
     refine ⟨bi2,0,cap3,bc2,ba2,0,cap2,[md],[Kid.mk b xl Fl,Kid.mk rb xr Fr],own19,K19,Nat.le_refl _,(by show 1<=2*d-1;omega),rfl,hxs,?_,⟨nk2,by omega,by omega,by omega,?_,?_,?_⟩,fun _ _=>Iff.rfl⟩
     ·intro c hc
      simp only [List.mem_cons,List.not_mem_nil,or_false] at hc
      rcases hc with rfl | rfl
      ·exact tL19
      ·exact tR19
     ·intro c hc y o g k
      have:y<w4.heap.size:=by
       simp only [List.mem_cons,List.not_mem_nil,or_false] at hc
       rcases hc with rfl | rfl
       ·exact tL.lt _ _ g
       ·exact tR.lt _ _ g
      simp only [ownF,rng] at k;omega
     ·intro c hc y o g k
      have:y<w4.heap.size:=by
       simp only [List.mem_cons,List.not_mem_nil,or_false] at hc
       rcases hc with rfl | rfl
       ·exact tL.lt _ _ g
       ·exact tR.lt _ _ g
      simp only [kidF,rng] at k;omega
     ·exact List.pairwise_cons.2 ⟨fun c hc y o g k=>by
       simp only [List.mem_cons,List.not_mem_nil,or_false] at hc
       subst hc;exact hlr y o g k,List.pairwise_singleton _ _⟩
    have hF2:∀ y o,(ownF E b2 bi2 0 cap3 y o\/kidF bc2 ba2 0 cap2 y o\/∃ c ∈ [Kid.mk b xl Fl,Kid.mk rb xr Fr],c.F y o)->y ≠ m/\(F y o\/w2.heap.size<=y):=by
     have hF'2:∀ y o,F' y o->y ≠ m/\(F y o\/w2.heap.size<=y):=fun y o g=>⟨fun k=>hF'm o (k ▸ g),hF3 y o g⟩
     rintro y o (g | g | ⟨c,hc,g⟩)
     ·simp only [ownF,rng] at g;omega
     ·simp only [kidF,rng] at g;omega
     ·simp only [List.mem_cons,List.not_mem_nil,or_false] at hc
      rcases hc with rfl | rfl
      ·exact hF'2 y o (hFl y o g)
      ·rcases hFr y o g with g | g
       ·exact hF'2 y o g
       ·exact ⟨by omega,.inr (by omega)⟩
    refine W_sq fun K hK=>(W_text [true,true,true,false,true,true,false,true] (by kernel_rfl) ?_);simp only [↓zZ1,↓reduceIte,Nat.reduceEqDiff,rg,ow_90,f0,f2,f8,ix19]
    refine do_call fn_90 (by simp only [zZ2,Nat.reduceEqDiff,↓reduceIte,zZ4]<;>rfl) (ih (xs.length-(h+1)) (by omega) (h+1) b2 xs _ w19 rfl c19 hL19 (fun y o g=>by
     rcases (hF2 _ _ g).2 with g | g
     ·exact hBF _ _ g
     ·omega) ct19 ha (x19.rd rt18 (by simp only [rng];omega)) tr19 (fun o g=>(hF2 _ _ g).1 rfl) hbig) ?_
    rintro _ w20 ⟨rfl,x20,F'',hM,hF''⟩
    refine ⟨trivial,?_⟩
    simp only [↓zZ1,↓reduceIte,Nat.reduceEqDiff,rg,ow_90]
    refine do_store (by simp only [evt,upd_eq,Nat.reduceEqDiff,↓reduceIte];exact f6) (by simp only [zZ2,Nat.reduceEqDiff,↓reduceIte,zZ3]<;>rfl) sz_33 (itV_len _) (x20.wok wq19) (by decide) (itV_oc _) fun w21 x21 r21 s21=>⟨trivial,?_⟩
    simp only [↓zZ1,↓reduceIte,Nat.reduceEqDiff,rg,ow_90]
    apply hK;clear hK K
    have s20:=x20.size
    have hF9:∀ y o,F'' y o->F y o\/w2.heap.size<=y:=fun y o g=>by
     rcases hF'' y o g with g | g
     ·exact (hF2 y o g).2
     ·exact .inr (by omega)
    refine W_ret ?_
    simp only [andThen_ret]
    refine endQ_ct f6 (by simp only [upd_eq,Nat.reduceEqDiff,↓reduceIte]<;>rfl) ld_33 (iX_at (show Row w21 q 0 (E.cel ((at? O (rkI ord) (rkI ord x) xs).getD zIt)) from r21)) ⟨rfl,?_,F'',hM.extG x21 (fun y o g k=>?_) (fun y o g=>by simp only [rng] at g;omega),fun y o g=>?_⟩
    ·refine ((((X3.trans x4 (H:=mapF m F) (fun _ _ g=>.inl g) fun y o hy g=>?_).trans T19 (fun _ _ g=>g) fun y o hy g=>?_).trans x20 (fun _ _ g=>g) fun y o hy g=>?_).trans x21 (fun _ _ g=>g) fun y o hy g=>by simp only [rng] at g;omega)
     ·rcases hF3 y o g with g | g
      ·exact .inl g
      ·omega
     ·rcases g with g | g
      ·exact .inr ⟨g.1,.inl g.2⟩
      ·omega
     ·rcases g with g | g
      ·rcases (hF2 y o g).2 with g | g
       ·exact .inl g
       ·omega
      ·exact .inr g
    ·simp only [rng] at k
     rcases hF9 y o g with g | g
     ·have:=hFlt _ _ g;omega
     ·omega
    ·exact (hF9 y o g).imp id fun g=>by omega
   constructor
   ·refine do_bsl rfl bs_it0 fun w15 n15=>⟨.inr (keep2 n15.ext ⟨by rw [sz_dr];omega,fun _ h=>h⟩ ⟨by rw [sz_dr];omega,fun _ h=>h⟩),?_⟩
    simp only [↓zZ1,↓reduceIte,Nat.reduceEqDiff,rg,ow_90]
    have n15:=n15.od
    have s15:=n15.size
    refine do_bsl rfl (bs_it1 md) fun w16 n16=>⟨.inr (keep2 n16.ext ⟨by omega,fun _ h=>h⟩ ⟨by omega,fun _ h=>h⟩),?_⟩
    simp only [↓zZ1,↓reduceIte,Nat.reduceEqDiff,rg,ow_90]
    have s16:=n16.size
    have hv:SlV w16 2 (.slice (some ⟨w14.heap.size,0,none⟩) 0 0) 0 []:=⟨rfl,.inr ⟨_,0,0,rfl,Nat.le_refl _,Row.nil _ _ _,(n16.ext.wok n15.wok).R (Nat.le_refl _)⟩⟩
    have hu:SlV w16 2 (.slice (some ⟨w15.heap.size,0,none⟩) 1 1) 1 (E.cel md):=⟨rfl,.inr ⟨_,0,1,rfl,Nat.le_refl _,n16.row,n16.wok.R (Nat.le_refl _)⟩⟩
    have X16:Ext noF w14 w16:=n15.ext.tr n16.ext
    refine do_append (by simp only [zZ2,Nat.reduceEqDiff,↓reduceIte,zZ3]<;>rfl) (by simp only [zZ2,Nat.reduceEqDiff,↓reduceIte,zZ3]<;>rfl) el_it rfl ni_25 hv hu (by omega) (by decide) (E.one md) fun v17 w17 a17=>?_
    obtain ⟨cap3,rfl,hcap3,row17,wok17,x17,s17⟩:=app_new a17 (by omega)
    refine ⟨.inr (keep2 x17 ⟨by omega,fun _ h=>h⟩ ⟨by omega,fun _ h=>h⟩),?_⟩
    simp only [↓zZ1,↓reduceIte,Nat.reduceEqDiff,rg,ow_90,ptr_eq]
    refine do_store (by simp only [zZ2,Nat.reduceEqDiff,↓reduceIte,zZ3]<;>rfl) (by simp only [zZ2,Nat.reduceEqDiff,↓reduceIte,zZ3]<;>rfl) sz_25 rfl (x17.wok (X16.wok wb14)) (by decide) (oc_one rfl rfl) fun w18 x18 r18 s18=>⟨.inl trivial,?_⟩
    simp only [↓zZ1,↓reduceIte,Nat.reduceEqDiff,rg,ow_90]
    refine rest2 _ _ f0 f2 f8 f6 (((X16.tr x17).mono fun _ _ _ g=>g.elim).tr x18) ⟨w16.heap.size,cap3,(Row.cons.1 r18).1,hcap3,x18.row row17 fun j _ h=>by simp only [rng] at h;omega,x18.wok wok17,by omega⟩
   ·refine do_bsl rfl (bs_it1 md) fun w15 n15=>⟨.inr (keep2 n15.ext ⟨by rw [sz_dr];omega,fun _ h=>h⟩ ⟨by rw [sz_dr];omega,fun _ h=>h⟩),?_⟩
    simp only [↓zZ1,↓reduceIte,Nat.reduceEqDiff,rg,ow_90]
    have n15:=n15.od
    have s15:=n15.size
    refine do_bsl rfl bs_it0 fun w16 n16=>⟨.inr (keep2 n16.ext ⟨by omega,fun _ h=>h⟩ ⟨by omega,fun _ h=>h⟩),?_⟩
    simp only [↓zZ1,↓reduceIte,Nat.reduceEqDiff,rg,ow_90]
    have s16:=n16.size
    have hv:SlV w16 2 (.slice (some ⟨w15.heap.size,0,none⟩) 0 0) 0 []:=⟨rfl,.inr ⟨_,0,0,rfl,Nat.le_refl _,Row.nil _ _ _,n16.wok.R (Nat.le_refl _)⟩⟩
    have hu:SlV w16 2 (.slice (some ⟨w14.heap.size,0,none⟩) 1 1) 1 (E.cel md):=⟨rfl,.inr ⟨_,0,1,rfl,Nat.le_refl _,n16.ext.row n15.row fun _ _ h=>h,(n16.ext.wok n15.wok).R (Nat.le_refl _)⟩⟩
    have X16:Ext noF w14 w16:=n15.ext.tr n16.ext
    refine do_append (by simp only [zZ2,Nat.reduceEqDiff,↓reduceIte,zZ3]<;>rfl) (by simp only [zZ2,Nat.reduceEqDiff,↓reduceIte,zZ3]<;>rfl) el_it rfl ni_25 hv hu (by omega) (by decide) (E.one md) fun v17 w17 a17=>?_
    obtain ⟨cap3,rfl,hcap3,row17,wok17,x17,s17⟩:=app_new a17 (by omega)
    refine ⟨.inr (keep2 x17 ⟨by omega,fun _ h=>h⟩ ⟨by omega,fun _ h=>h⟩),?_⟩
    simp only [↓zZ1,↓reduceIte,Nat.reduceEqDiff,rg,ow_90,ptr_eq]
    refine do_store (by simp only [zZ2,Nat.reduceEqDiff,↓reduceIte,zZ3]<;>rfl) (by simp only [zZ2,Nat.reduceEqDiff,↓reduceIte,zZ3]<;>rfl) sz_25 rfl (x17.wok (X16.wok wb14)) (by decide) (oc_one rfl rfl) fun w18 x18 r18 s18=>⟨.inl trivial,?_⟩
    simp only [↓zZ1,↓reduceIte,Nat.reduceEqDiff,rg,ow_90]
    refine rest2 _ _ f0 f2 f8 f6 (((X16.tr x17).mono fun _ _ _ g=>g.elim).tr x18) ⟨w16.heap.size,cap3,(Row.cons.1 r18).1,hcap3,x18.row row17 fun j _ h=>by simp only [rng] at h;omega,x18.wok wok17,by omega⟩
  constructor
  ·refine do_bsl rfl bs_kid0 fun w11 n11=>⟨.inr (keep2 n11.ext ⟨by rw [sz_dr];omega,fun _ h=>h⟩ ⟨by rw [sz_dr];omega,fun _ h=>h⟩),?_⟩
   simp only [↓zZ1,↓reduceIte,Nat.reduceEqDiff,rg,ow_90]
   have n11:=n11.od
   have s11:=n11.size
   refine do_bsl rfl (bs_kid2 b rb) fun w12 n12=>⟨.inr (keep2 n12.ext ⟨by omega,fun _ h=>h⟩ ⟨by omega,fun _ h=>h⟩),?_⟩
   simp only [↓zZ1,↓reduceIte,Nat.reduceEqDiff,rg,ow_90]
   have s12:=n12.size
   have hv:SlV w12 1 (.slice (some ⟨w10.heap.size,0,none⟩) 0 0) 0 []:=⟨rfl,.inr ⟨_,0,0,rfl,Nat.le_refl _,Row.nil _ _ _,(n12.ext.wok n11.wok).R (Nat.le_refl _)⟩⟩
   have hu:SlV w12 1 (.slice (some ⟨w11.heap.size,0,none⟩) 2 2) 2 [ptr b,ptr rb]:=⟨rfl,.inr ⟨_,0,2,rfl,Nat.le_refl _,n12.row,n12.wok.R (Nat.le_refl _)⟩⟩
   have X12:Ext noF w10 w12:=n11.ext.tr n12.ext
   refine do_append (by simp only [zZ2,Nat.reduceEqDiff,↓reduceIte,zZ3]<;>rfl) (by simp only [zZ2,Nat.reduceEqDiff,↓reduceIte,zZ3]<;>rfl) el_kid rfl ni_166 hv hu (by omega) (by decide) (by intro v hv;simp at hv;rcases hv with rfl | rfl<;>rfl) fun v13 w13 a13=>?_
   obtain ⟨cap2,rfl,hcap2,row13,wok13,x13,s13⟩:=app_new a13 (by omega)
   refine ⟨.inr (keep2 x13 ⟨by omega,fun _ h=>h⟩ ⟨by omega,fun _ h=>h⟩),?_⟩
   simp only [↓zZ1,↓reduceIte,Nat.reduceEqDiff,rg,ow_90]
   refine do_store (by simp only [zZ2,Nat.reduceEqDiff,↓reduceIte,zZ3]<;>rfl) (by simp only [zZ2,Nat.reduceEqDiff,↓reduceIte,zZ3]<;>rfl) sz_166 rfl (x13.wok (X12.wok wbc10)) (by decide) (oc_one rfl rfl) fun w14 x14 r14 s14=>⟨.inl trivial,?_⟩
   simp only [↓zZ1,↓reduceIte,Nat.reduceEqDiff,rg,ow_90]
   refine rest _ _ e0 e2 (by simp only [upd_eq,Nat.reduceEqDiff,↓reduceIte]<;>rfl) (by simp only [upd_eq,Nat.reduceEqDiff,↓reduceIte]<;>rfl) (by simp only [upd_eq,Nat.reduceEqDiff,↓reduceIte]<;>rfl) (((X12.tr x13).mono fun _ _ _ g=>g.elim).tr x14) ⟨w12.heap.size,cap2,(Row.cons.1 r14).1,hcap2,x14.row row13 fun j _ h=>by simp only [rng] at h;omega,by have:=x14.wok wok13;rwa [Nat.mul_one] at this,by omega⟩
  ·refine do_bsl rfl (bs_kid2 b rb) fun w11 n11=>⟨.inr (keep2 n11.ext ⟨by rw [sz_dr];omega,fun _ h=>h⟩ ⟨by rw [sz_dr];omega,fun _ h=>h⟩),?_⟩
   simp only [↓zZ1,↓reduceIte,Nat.reduceEqDiff,rg,ow_90]
   have n11:=n11.od
   have s11:=n11.size
   refine do_bsl rfl bs_kid0 fun w12 n12=>⟨.inr (keep2 n12.ext ⟨by omega,fun _ h=>h⟩ ⟨by omega,fun _ h=>h⟩),?_⟩
   simp only [↓zZ1,↓reduceIte,Nat.reduceEqDiff,rg,ow_90]
   have s12:=n12.size
   have hv:SlV w12 1 (.slice (some ⟨w11.heap.size,0,none⟩) 0 0) 0 []:=⟨rfl,.inr ⟨_,0,0,rfl,Nat.le_refl _,Row.nil _ _ _,n12.wok.R (Nat.le_refl _)⟩⟩
   have hu:SlV w12 1 (.slice (some ⟨w10.heap.size,0,none⟩) 2 2) 2 [ptr b,ptr rb]:=⟨rfl,.inr ⟨_,0,2,rfl,Nat.le_refl _,n12.ext.row n11.row fun _ _ h=>h,(n12.ext.wok n11.wok).R (Nat.le_refl _)⟩⟩
   have X12:Ext noF w10 w12:=n11.ext.tr n12.ext
   refine do_append (by simp only [zZ2,Nat.reduceEqDiff,↓reduceIte,zZ3]<;>rfl) (by simp only [zZ2,Nat.reduceEqDiff,↓reduceIte,zZ3]<;>rfl) el_kid rfl ni_166 hv hu (by omega) (by decide) (by intro v hv;simp at hv;rcases hv with rfl | rfl<;>rfl) fun v13 w13 a13=>?_
   obtain ⟨cap2,rfl,hcap2,row13,wok13,x13,s13⟩:=app_new a13 (by omega)
   refine ⟨.inr (keep2 x13 ⟨by omega,fun _ h=>h⟩ ⟨by omega,fun _ h=>h⟩),?_⟩
   simp only [↓zZ1,↓reduceIte,Nat.reduceEqDiff,rg,ow_90]
   refine do_store (by simp only [zZ2,Nat.reduceEqDiff,↓reduceIte,zZ3]<;>rfl) (by simp only [zZ2,Nat.reduceEqDiff,↓reduceIte,zZ3]<;>rfl) sz_166 rfl (x13.wok (X12.wok wbc10)) (by decide) (oc_one rfl rfl) fun w14 x14 r14 s14=>⟨.inl trivial,?_⟩
   simp only [↓zZ1,↓reduceIte,Nat.reduceEqDiff,rg,ow_90]
   refine rest _ _ e0 e2 (by simp only [upd_eq,Nat.reduceEqDiff,↓reduceIte]<;>rfl) (by simp only [upd_eq,Nat.reduceEqDiff,↓reduceIte]<;>rfl) (by simp only [upd_eq,Nat.reduceEqDiff,↓reduceIte]<;>rfl) (((X12.tr x13).mono fun _ _ _ g=>g.elim).tr x14) ⟨w12.heap.size,cap2,(Row.cons.1 r14).1,hcap2,x14.row row13 fun j _ h=>by simp only [rng] at h;omega,by have:=x14.wok wok13;rwa [Nat.mul_one] at this,by omega⟩
 ·simp only [↓zZ1,↓reduceIte,Nat.reduceEqDiff,rg,ow_90]
  refine do_store (by simp only [zZ2,Nat.reduceEqDiff,↓reduceIte,zZ3]<;>rfl) (by simp only [zZ2,Nat.reduceEqDiff,↓reduceIte,zZ3]<;>rfl) sz_33 (itV_len _) wq3 (by decide) (itV_oc _) fun w3 x3s r3s s3s=>⟨.inr (hkeep x3s),?_⟩
  simp only [↓zZ1,↓reduceIte,Nat.reduceEqDiff,rg,ow_90]
  apply hK;clear hK K
  have x3:Ext (fun y o=>F y o\/rng q 0 2 y o) w2 w3:=x3p.trans x3s (fun _ _ g=>.inl g) fun _ _ _ g=>.inr g
  have X3:Ext F w w3:=X2.trans x3 (fun _ _ g=>g.elim) fun y o hy g=>g.elim id fun g=>by simp only [rng] at g;omega
  have s3:=x3.size
  have hmG:∀ o,¬ (F m o\/rng q 0 2 m o):=fun o g=>g.elim (hm o) fun g=>by simp only [rng] at g;omega
  have c3:=c2.ext x3 fun o _ _=>hmG o
  have rt3:=x3.rd rt2 (hmG 2)
  have ct3:=X3.rd hcnt (hm 3)
  have hL3:=hL.ext X3 (fun y o g=>by have:=hBF y o g;omega) (hm 6)
  have wq3':=x3s.wok wq3
  have hT':=hT'.ext x3s fun y o g k=>by simp only [rng] at k;exact hF'q o (by rw [<-k.1];exact g)
  have hab3:∀ y o,F' y o->m<y:=fun y o g=>by
   rcases hF3 y o g with g | g
   ·exact hBF _ _ g
   ·omega
  refine W_seq ?_
  refine W_sq fun K hK=>(W_text [true] (by kernel_rfl) ?_);simp only [↓zZ1,↓reduceIte,Nat.reduceEqDiff,rg,ow_90]
  apply hK;clear hK K
  refine W_false (by simp only [zZ2,Nat.reduceEqDiff,↓reduceIte,zZ3]<;>rfl) (W_skip ?_)
  show W _ _ _ _ _ _
  refine W_seq ?_
  have hpl:=put_length O (rkI ord) x xs
  have hpa:=put_asc O (rkI ord) (x:=x) ha
  cases hh2:hit O (rkI ord) (rkI ord x) xs with
  | true =>
   rw [hh2] at hpl
   refine W_sq fun K hK=>(W_text [true] (by kernel_rfl) ?_);simp only [↓zZ1,↓reduceIte,Nat.reduceEqDiff,rg,ow_90]
   apply hK;clear hK K
   refine W_true (by simp only [zZ2,Nat.reduceEqDiff,↓reduceIte,zZ3]<;>rfl) ?_
   have pv3:=iX_at (show Row w3 q 0 (E.cel ((at? O (rkI ord) (rkI ord x) xs).getD zIt)) from r3s)
   refine W_sq fun K hK=>(W_text [true,false,true] (by kernel_rfl) ?_);simp only [↓zZ1,↓reduceIte,Nat.reduceEqDiff,rg,ow_90,pv3]
   refine do_store (by simp only [zZ2,Nat.reduceEqDiff,↓reduceIte,zZ3]<;>rfl) (by simp only [zZ2,Nat.reduceEqDiff,↓reduceIte,zZ3]<;>rfl) sz_33 (itV_len _) wq3' (by decide) (itV_oc _) fun w4 x4 r4 s4=>⟨trivial,?_⟩
   simp only [↓zZ1,↓reduceIte,Nat.reduceEqDiff,rg,ow_90]
   apply hK;clear hK K
   refine W_ret ?_
   simp only [andThen_ret]
   have TA:TreeAt B ord w3 m d iso (put O (rkI ord) x xs) F':=⟨c3,hL3,by rw [hpl];exact ct3,hpa,.inr ⟨h,b,rt3,hT'⟩,hF'm,hT'.lt,hab3⟩
   exact endQ_ct (by simp only [upd_eq,Nat.reduceEqDiff,↓reduceIte]<;>rfl) (by simp only [upd_eq,Nat.reduceEqDiff,↓reduceIte]<;>rfl) ld_33 (iX_at (show Row w4 q 0 (E.cel ((at? O (rkI ord) (rkI ord x) xs).getD zIt)) from r4)) ⟨rfl,X3.trans x4 (fun _ _ g=>.inl g) fun y o hy g=>by simp only [rng] at g;omega,F',
    TA.extG x4 (fun y o g k=>by simp only [rng] at k;exact hF'q o (by rw [<-k.1];exact g)) (fun y o g=>by simp only [rng] at g;omega),fun y o g=>(hF3 y o g).imp id fun g=>by omega⟩
  | false =>
   rw [hh2] at hpl
   have q1:=wadd1 xs.length (by omega)
   refine W_sq fun K hK=>(W_text [true] (by kernel_rfl) ?_);simp only [↓zZ1,↓reduceIte,Nat.reduceEqDiff,rg,ow_90]
   apply hK;clear hK K
   refine W_false (by simp only [zZ2,Nat.reduceEqDiff,↓reduceIte,zZ3]<;>rfl) (W_skip ?_)
   show W _ _ _ _ _ _
   refine W_sq fun K hK=>(W_text [true,true,true,true,true,true,true,false] (by kernel_rfl) ?_);simp only [↓zZ1,↓reduceIte,Nat.reduceEqDiff,rg,ow_90,e0,ptr_eq,ct3,q1]
   refine do_store (by simp only [zZ2,Nat.reduceEqDiff,↓reduceIte,zZ3]<;>rfl) (by simp only [zZ2,Nat.reduceEqDiff,↓reduceIte,zZ3]<;>rfl) sz_3 rfl c3.wok (by decide) (oc_one rfl rfl) fun w4 x4 r4 s4=>⟨trivial,?_⟩
   simp only [↓zZ1,↓reduceIte,Nat.reduceEqDiff,rg,ow_90]
   apply hK;clear hK K
   have c4:=c3.ext x4 fun o _ h3 g=>h3 (by simp only [rng] at g;omega)
   have z4:=zIt_at c4
   refine W_sq fun K hK=>(W_text [true,true,true,true,false,true] (by kernel_rfl) ?_);simp only [↓zZ1,↓reduceIte,Nat.reduceEqDiff,rg,ow_90,e0,ptr_eq,z4]
   refine do_store (by simp only [zZ2,Nat.reduceEqDiff,↓reduceIte,zZ3]<;>rfl) (by simp only [zZ2,Nat.reduceEqDiff,↓reduceIte,zZ3]<;>rfl) sz_33 (itV_len zIt) (x4.wok wq3') (by decide) (itV_oc zIt) fun w5 x5 r5 s5=>⟨trivial,?_⟩
   simp only [↓zZ1,↓reduceIte,Nat.reduceEqDiff,rg,ow_90]
   apply hK;clear hK K
   have hat:at? O (rkI ord) (rkI ord x) xs=none:=by unfold at?;rw [hh2];rfl
   have TA:TreeAt B ord w4 m d iso (put O (rkI ord) x xs) F':=by
    refine ⟨c4,hL3.ext x4 (fun y o g=>by simp only [rng] at g;omega) (by simp only [rng];omega),?_,hpa,.inr ⟨h,b,x4.rd rt3 (by simp only [rng];omega),?_⟩,hF'm,fun y o g=>?_,hab3⟩
    ·rw [hpl];exact (Row.cons.1 r4).1
    ·exact hT'.ext x4 fun y o g k=>hF'm o (by simp only [rng] at k;rw [<-k.1];exact g)
    ·have:=hT'.lt y o g;omega
   refine W_ret (endQ_ct (by simp only [upd_eq,Nat.reduceEqDiff,↓reduceIte]<;>rfl) (by simp only [upd_eq,Nat.reduceEqDiff,↓reduceIte]<;>rfl) ld_33 (iX_at (show Row w5 q 0 (E.cel zIt) from r5)) ⟨by rw [hat];rfl,(X3.trans x4 (fun _ _ g=>.inl g) fun y o _ g=>.inr ⟨g.1,by simp only [rng] at g;omega⟩).trans x5 (fun _ _ g=>g) fun y o hy g=>by simp only [rng] at g;omega,F',
    TA.extG x5 (fun y o g k=>by simp only [rng] at k;exact hF'q o (by rw [<-k.1];exact g)) (fun y o g=>by simp only [rng] at g;omega),fun y o g=>(hF3 y o g).imp id fun g=>by omega⟩)
set_option maxHeartbeats 400000 in
set_option maxRecDepth 8000 in
theorem init_again (m d:Nat) (iso:Int) (hd:2<=d) (v:Value) (w:World) (hc:Cfg w m iso d):CallK Try.prog 114 #[ptr m,v] w fun _ w'=>w=w':=by
 refine calls_of_W [] Try.func114 rfl Try.ntmps114 Try.results114 (by simp) fun e he=>?_
 have e0:e 0=ptr m:=he 0 _ rfl
 clear he
 have t1:(((d-1:Nat):Int) != 0)=true:=by simp;omega
 refine W_seq ?_
 refine W_sq fun K hK=>(W_text [true,true,true,true,true] (by kernel_rfl) ?_);simp only [↓zZ1,↓reduceIte,Nat.reduceEqDiff,rg,ow_114,e0,ptr_eq,hc.mn,t1]
 apply hK;clear hK K
 refine W_true (by simp only [zZ2,Nat.reduceEqDiff,↓reduceIte,zZ3]<;>rfl) (W_ret ?_)
 simp only [andThen_ret]
 exact endQ_0 rfl
set_option maxHeartbeats 1000000 in
set_option maxRecDepth 8000 in
theorem set_nil (B m d:Nat) (iso:Int) (ord:List Int) (x:It) (hd:2<=d) (hd':d<=128) (w:World) (hc:Cfg w m iso d) (hL:Ls B m w ord) (hroot:rd w m 2=some (.pointer none)) :
  CallK Try.prog 90 #[ptr m,itV x,.pointer none] w fun v w'=>v = .tuple #[itV zIt,.bool false]/\Ext (mapF m noF) w w'/\∃ F',TreeAt B ord w' m d iso [x] F'/\∀ y o,F' y o->w.heap.size<=y:=by
 have hml:=rd_lt hroot
 have hBm:B<=m:=by obtain ⟨_,_,_,h⟩:=hL;exact h
 refine calls_of_W [.cell 6 33,.tmp 7] Try.func90 rfl Try.ntmps90 Try.results90 (by simp) fun e he=>?_
 have e0:e 0=ptr m:=he 0 _ rfl
 have e1:e 1=itV x:=he 1 _ rfl
 have e2:e 2 = .pointer none:=he 2 _ rfl
 clear he
 refine W_sq fun K hK=>(W_text [false,false,true] (by kernel_rfl) ?_);simp only [↓zZ1,↓reduceIte,Nat.reduceEqDiff,rg,ow_90]
 refine do_box (by simp only [evt];exact e1) fun w1 n1=>⟨trivial,?_⟩
 simp only [↓zZ1,↓reduceIte,Nat.reduceEqDiff,rg,ow_90]
 refine do_alloc z_it fun w2 n2=>⟨trivial,?_⟩
 simp only [↓zZ1,↓reduceIte,Nat.reduceEqDiff,rg,ow_90]
 apply hK;clear hK K
 have s1:=n1.size
 have X2:Ext noF w w2:=n1.ext.tr n2.ext
 have rx:Row w2 w.heap.size 0 (E.cel x):=n2.ext.row n1.row fun _ _ h=>h
 have s2:w2.heap.size=w.heap.size+2:=by have:=n2.size;omega
 obtain ⟨q,hq⟩:∃ q,q=w1.heap.size:=⟨_,rfl⟩
 have hqs:q=w.heap.size+1:=by omega
 have wq2:wok w2 q 2:=by rw [hq];exact n2.wok
 rw [<-hq]
 clear hq n1 n2
 have c2:=hc.ext X2 fun _ _ _ h=>h
 have rt2:=X2.rd hroot (fun h=>h)
 refine W_seq ?_
 refine W_sq fun K hK=>(W_text [true,true,true,true,true] (by kernel_rfl) ?_);simp only [↓zZ1,↓reduceIte,Nat.reduceEqDiff,rg,ow_90,e0,ptr_eq,rt2]
 apply hK;clear hK K
 refine W_true (by simp only [zZ2,Nat.reduceEqDiff,↓reduceIte,zZ3]<;>rfl) ?_
 refine W_sq fun K hK=>(W_text [true,false] (by kernel_rfl) ?_);simp only [↓zZ1,↓reduceIte,Nat.reduceEqDiff,rg,ow_90,e0]
 refine do_call fn_114 (by simp only [zZ2,Nat.reduceEqDiff,↓reduceIte,zZ4]<;>rfl) (init_again m d iso hd (.int .i64 0) w2 c2) ?_
 rintro _ _ rfl
 refine ⟨trivial,?_⟩
 simp only [↓zZ1,↓reduceIte,Nat.reduceEqDiff,rg,ow_90]
 apply hK;clear hK K
 refine W_sq fun K hK=>(W_text [true,true,false,true,true,false] (by kernel_rfl) ?_);simp only [↓zZ1,↓reduceIte,Nat.reduceEqDiff,rg,ow_90,e0]
 refine do_call fn_122 (by simp only [zZ2,Nat.reduceEqDiff,↓reduceIte,zZ4]<;>rfl) (newNode_any m true iso w2 c2.iso) ?_
 rintro _ w3 ⟨b,rfl,x3,nn⟩
 refine ⟨trivial,?_⟩
 simp only [↓zZ1,↓reduceIte,Nat.reduceEqDiff,rg,ow_90,ptr_eq]
 have c3:=c2.ext x3 fun _ _ _ h=>h
 refine do_store (by simp only [zZ2,Nat.reduceEqDiff,↓reduceIte,zZ3]<;>rfl) (by simp only [zZ2,Nat.reduceEqDiff,↓reduceIte,zZ3]<;>rfl) sz_96 rfl (c3.wok.mono (by decide)) (Nat.le_refl 3) (oc_one rfl rfl) fun w4 x4 r4 s4=>⟨trivial,?_⟩
 simp only [↓zZ1,↓reduceIte,Nat.reduceEqDiff,rg,ow_90]
 apply hK;clear hK K
 have nnge:=nn.ge
 have s3:=x3.size
 have hbl:=wok_lt nn.wb
 have rt4:rd w4 m 2=some (ptr b):=(Row.cons.1 r4).1
 have c4:=c3.ext x4 fun o h2 _ g=>h2 (by simp only [rng] at g;omega)
 have rx4:Row w4 w.heap.size 0 (E.cel x):=x4.row (x3.row rx fun _ _ h=>h) fun j _ h=>by simp only [rng] at h;omega
 have ix4:=iX_at rx4
 have wb4:=x4.wok nn.wb
 have M4:readsB (some (some [m,w.heap.size])) m=true:=by simp [readsB]
 have M5:readsB (some (some [m,w.heap.size])) w.heap.size=true:=by simp [readsB]
 refine W_sq fun K hK=>(W_draw (some (some [m,w.heap.size])) (some 10) [(0,0,0),(0,1,0),(0,2,0),(0,3,0),(0,5,0),(2,4,6),(1,7,0),(0,8,0),(0,9,0),(1,10,0)] mixed (by kernel_rfl) ?_);simp only [↓zZ1,↓reduceIte,Nat.reduceEqDiff,rg,ow_90,e0,ptr_eq,rt4,ix4,M4,M5]
 have rest2:∀ e'' w',e'' 0=ptr m->e'' 6 = .pointer (some ⟨q,0,none⟩)->Ext (rng b 2 1) w4 w' →
   (∃ bi2 cap3,rd w' b 2=some (.slice (some ⟨bi2,0,none⟩) 1 cap3)/\1<=cap3/\Row w' bi2 0 (E.cel x)/\wok w' bi2 (cap3*2)/\w4.heap.size<=bi2)->K e'' w':=by
  intro e'' w18 f0 f6 x18 ⟨bi2,cap3,p0,p2,p3,p4,p5⟩
  apply hK;clear hK K
  have s18:=x18.size
  have hbi18:=wok_lt p4
  have rt18:rd w18 m 2=some (ptr b):=x18.rd rt4 (by simp only [rng];omega)
  have c18:=c4.ext x18 fun o _ _ g=>by simp only [rng] at g;omega
  refine W_sq fun K hK=>(W_text [true,true,true,true,true,true,false] (by kernel_rfl) ?_);simp only [↓zZ1,↓reduceIte,Nat.reduceEqDiff,rg,ow_90,f0,ptr_eq,rt18]
  refine do_store (by simp only [zZ2,Nat.reduceEqDiff,↓reduceIte,zZ3]<;>rfl) (by simp only [zZ2,Nat.reduceEqDiff,↓reduceIte,zZ3]<;>rfl) sz_3 rfl (x18.wok wb4) (by decide) (oc_one rfl rfl) fun w19 x19 r19 s19=>⟨trivial,?_⟩
  simp only [↓zZ1,↓reduceIte,Nat.reduceEqDiff,rg,ow_90]
  apply hK;clear hK K
  have c19:=c18.ext x19 fun o _ _ g=>by simp only [rng] at g;omega
  refine W_sq fun K hK=>(W_text [true,true,true,false] (by kernel_rfl) ?_);simp only [↓zZ1,↓reduceIte,Nat.reduceEqDiff,rg,ow_90,f0,ptr_eq]
  refine do_store (by simp only [zZ2,Nat.reduceEqDiff,↓reduceIte,zZ3]<;>rfl) (by simp only [zZ2,Nat.reduceEqDiff,↓reduceIte,zZ3]<;>rfl) sz_3 rfl (c19.wok.mono (by decide)) (Nat.le_refl 4) (oc_one rfl rfl) fun w20 x20 r20 s20=>⟨trivial,?_⟩
  simp only [↓zZ1,↓reduceIte,Nat.reduceEqDiff,rg,ow_90]
  apply hK;clear hK K
  have c20:=c19.ext x20 fun o _ h3 g=>h3 (by simp only [rng] at g;omega)
  have z20:=zIt_at c20
  have hL20:Ls B m w20 ord:=((((((hL.ext0 X2).ext0 x3).ext x4 (fun y o g=>by simp only [rng] at g;omega) (by simp only [rng];omega)).ext x18 (fun y o g=>by simp only [rng] at g;omega) (by simp only [rng];omega)).ext x19 (fun y o g=>by simp only [rng] at g;omega) (by simp only [rng];omega)).ext x20 (fun y o g=>by simp only [rng] at g;omega) (by simp only [rng];omega))
  have wq20:wok w20 q 2:=x20.wok (x19.wok (x18.wok (x4.wok (x3.wok wq2))))
  refine W_sq fun K hK=>(W_text [true,true,true,true,false,true] (by kernel_rfl) ?_);simp only [↓zZ1,↓reduceIte,Nat.reduceEqDiff,rg,ow_90,f0,ptr_eq,z20]
  refine do_store (by simp only [evt,upd_eq,Nat.reduceEqDiff,↓reduceIte];exact f6) (by simp only [zZ2,Nat.reduceEqDiff,↓reduceIte,zZ3]<;>rfl) sz_33 (itV_len zIt) wq20 (by decide) (itV_oc zIt) fun w21 x21 r21 s21=>⟨trivial,?_⟩
  simp only [↓zZ1,↓reduceIte,Nat.reduceEqDiff,rg,ow_90]
  apply hK;clear hK K
  have X20:Ext (mapF m noF) w w20:=by
   refine (((((X2.tr x3).trans x4 (H:=mapF m noF) (fun _ _ g=>g.elim) fun y o _ g=>?_).trans x18 (fun _ _ g=>g) fun y o _ g=>?_).trans x19 (fun _ _ g=>g) fun y o _ g=>?_).trans x20 (fun _ _ g=>g) fun y o _ g=>?_)
   ·simp only [rng] at g;exact .inr ⟨g.1,by omega⟩
   ·simp only [rng] at g;omega
   ·simp only [rng] at g;omega
   ·simp only [rng] at g;exact .inr ⟨g.1,by omega⟩
  have tr:Tr E iso (d-1) (2*d-1) 0 w20 1 b [x] (ownF E b bi2 0 cap3):=by
   refine ⟨bi2,0,cap3,⟨x20.rd (x19.rd (x18.rd (x4.rd nn.h0 (by simp only [rng];omega)) (by simp only [rng];omega)) (by simp only [rng];omega)) (by simp only [rng];omega),?_,x20.rd (x19.rd p0 (by simp only [rng];omega)) (by simp only [rng];omega),
    x20.rd (x19.rd (x18.rd (x4.rd (nn.leaf rfl) (by simp only [rng];omega)) (by simp only [rng];omega)) (by simp only [rng];omega)) (by simp only [rng];omega),x20.wok (x19.wok (x18.wok wb4)),?_,by rw [Nat.zero_add];exact x20.wok (x19.wok p4),p2,by omega⟩,
    Nat.le_refl _,(by show 1<=2*d-1;omega),fun _ _=>Iff.rfl⟩
   ·exact x20.rd (Row.cons.1 r19).1 (by simp only [rng];omega)
   ·rw [flat_one];exact x20.row (x19.row p3 fun j _ h=>by simp only [rng] at h;omega) fun j _ h=>by simp only [rng] at h;omega
  have hown:∀ y o,ownF E b bi2 0 cap3 y o->w2.heap.size<=y:=fun y o g=>by simp only [ownF,rng] at g;omega
  refine W_ret ?_
  simp only [andThen_ret]
  have TA:TreeAt B ord w20 m d iso [x] (ownF E b bi2 0 cap3):=⟨c20,hL20,(Row.cons.1 r20).1,List.pairwise_singleton _ _,.inr ⟨0,b,x20.rd (x19.rd rt18 (by simp only [rng];omega)) (by simp only [rng];omega),tr⟩,fun o g=>by have:=hown _ _ g;omega,tr.lt,
   fun y o g=>by have:=hown _ _ g;omega⟩
  exact endQ_ct f6 (by simp only [upd_eq,Nat.reduceEqDiff,↓reduceIte]<;>rfl) ld_33 (iX_at (show Row w21 q 0 (E.cel zIt) from r21)) ⟨rfl,X20.trans x21 (fun _ _ g=>g) fun y o hy g=>by simp only [rng] at g;omega,_,
   TA.extG x21 (fun y o g k=>by have:=hown _ _ g;simp only [rng] at k;omega) (fun y o g=>by simp only [rng] at g;omega),fun y o g=>by have:=hown _ _ g;omega⟩
 constructor
 ·refine do_bsl rfl bs_it0 fun w15 n15=>⟨.inr (keep2 n15.ext ⟨by rw [sz_dr];omega,fun _ h=>h⟩ ⟨by rw [sz_dr];omega,fun _ h=>h⟩),?_⟩
  simp only [↓zZ1,↓reduceIte,Nat.reduceEqDiff,rg,ow_90]
  have n15:=n15.od
  have s15:=n15.size
  refine do_bsl rfl (bs_it1 x) fun w16 n16=>⟨.inr (keep2 n16.ext ⟨by omega,fun _ h=>h⟩ ⟨by omega,fun _ h=>h⟩),?_⟩
  simp only [↓zZ1,↓reduceIte,Nat.reduceEqDiff,rg,ow_90]
  have s16:=n16.size
  have hv:SlV w16 2 (.slice (some ⟨w4.heap.size,0,none⟩) 0 0) 0 []:=⟨rfl,.inr ⟨_,0,0,rfl,Nat.le_refl _,Row.nil _ _ _,(n16.ext.wok n15.wok).R (Nat.le_refl _)⟩⟩
  have hu:SlV w16 2 (.slice (some ⟨w15.heap.size,0,none⟩) 1 1) 1 (E.cel x):=⟨rfl,.inr ⟨_,0,1,rfl,Nat.le_refl _,n16.row,n16.wok.R (Nat.le_refl _)⟩⟩
  have X16:Ext noF w4 w16:=n15.ext.tr n16.ext
  refine do_append (by simp only [zZ2,Nat.reduceEqDiff,↓reduceIte,zZ3]<;>rfl) (by simp only [zZ2,Nat.reduceEqDiff,↓reduceIte,zZ3]<;>rfl) el_it rfl ni_25 hv hu (by omega) (by decide) (E.one x) fun v17 w17 a17=>?_
  obtain ⟨cap3,rfl,hcap3,row17,wok17,x17,s17⟩:=app_new a17 (by omega)
  refine ⟨.inr (keep2 x17 ⟨by omega,fun _ h=>h⟩ ⟨by omega,fun _ h=>h⟩),?_⟩
  simp only [↓zZ1,↓reduceIte,Nat.reduceEqDiff,rg,ow_90,ptr_eq]
  refine do_store (by simp only [zZ2,Nat.reduceEqDiff,↓reduceIte,zZ3]<;>rfl) (by simp only [zZ2,Nat.reduceEqDiff,↓reduceIte,zZ3]<;>rfl) sz_25 rfl (x17.wok (X16.wok wb4)) (by decide) (oc_one rfl rfl) fun w18 x18 r18 s18=>⟨.inl trivial,?_⟩
  simp only [↓zZ1,↓reduceIte,Nat.reduceEqDiff,rg,ow_90]
  refine rest2 _ _ e0 (by simp only [upd_eq,Nat.reduceEqDiff,↓reduceIte]<;>rfl) (((X16.tr x17).mono fun _ _ _ g=>g.elim).tr x18) ⟨w16.heap.size,cap3,(Row.cons.1 r18).1,hcap3,x18.row row17 fun j _ h=>by simp only [rng] at h;omega,x18.wok wok17,by omega⟩
 ·refine do_bsl rfl (bs_it1 x) fun w15 n15=>⟨.inr (keep2 n15.ext ⟨by rw [sz_dr];omega,fun _ h=>h⟩ ⟨by rw [sz_dr];omega,fun _ h=>h⟩),?_⟩
  simp only [↓zZ1,↓reduceIte,Nat.reduceEqDiff,rg,ow_90]
  have n15:=n15.od
  have s15:=n15.size
  refine do_bsl rfl bs_it0 fun w16 n16=>⟨.inr (keep2 n16.ext ⟨by omega,fun _ h=>h⟩ ⟨by omega,fun _ h=>h⟩),?_⟩
  simp only [↓zZ1,↓reduceIte,Nat.reduceEqDiff,rg,ow_90]
  have s16:=n16.size
  have hv:SlV w16 2 (.slice (some ⟨w15.heap.size,0,none⟩) 0 0) 0 []:=⟨rfl,.inr ⟨_,0,0,rfl,Nat.le_refl _,Row.nil _ _ _,n16.wok.R (Nat.le_refl _)⟩⟩
  have hu:SlV w16 2 (.slice (some ⟨w4.heap.size,0,none⟩) 1 1) 1 (E.cel x):=⟨rfl,.inr ⟨_,0,1,rfl,Nat.le_refl _,n16.ext.row n15.row fun _ _ h=>h,(n16.ext.wok n15.wok).R (Nat.le_refl _)⟩⟩
  have X16:Ext noF w4 w16:=n15.ext.tr n16.ext
  refine do_append (by simp only [zZ2,Nat.reduceEqDiff,↓reduceIte,zZ3]<;>rfl) (by simp only [zZ2,Nat.reduceEqDiff,↓reduceIte,zZ3]<;>rfl) el_it rfl ni_25 hv hu (by omega) (by decide) (E.one x) fun v17 w17 a17=>?_
  obtain ⟨cap3,rfl,hcap3,row17,wok17,x17,s17⟩:=app_new a17 (by omega)
  refine ⟨.inr (keep2 x17 ⟨by omega,fun _ h=>h⟩ ⟨by omega,fun _ h=>h⟩),?_⟩
  simp only [↓zZ1,↓reduceIte,Nat.reduceEqDiff,rg,ow_90,ptr_eq]
  refine do_store (by simp only [zZ2,Nat.reduceEqDiff,↓reduceIte,zZ3]<;>rfl) (by simp only [zZ2,Nat.reduceEqDiff,↓reduceIte,zZ3]<;>rfl) sz_25 rfl (x17.wok (X16.wok wb4)) (by decide) (oc_one rfl rfl) fun w18 x18 r18 s18=>⟨.inl trivial,?_⟩
  simp only [↓zZ1,↓reduceIte,Nat.reduceEqDiff,rg,ow_90]
  refine rest2 _ _ e0 (by simp only [upd_eq,Nat.reduceEqDiff,↓reduceIte]<;>rfl) (((X16.tr x17).mono fun _ _ _ g=>g.elim).tr x18) ⟨w16.heap.size,cap3,(Row.cons.1 r18).1,hcap3,x18.row row17 fun j _ h=>by simp only [rng] at h;omega,x18.wok wok17,by omega⟩
abbrev Ei:Enc It:=E
abbrev iV (x:It):Value:=itV x
theorem z_item:zK Try.prog 33=some [.int .i64 0,.int .i64 0]:=by kernel_rfl
theorem iV_at {w:World} {b o:Nat} {l:List It} (h:Row w b o (flat Ei l)) {i:Nat} {x:It} (hi:l[i]? = some x):rdA w b (o+i*2) 2=some (iV x) :=
 (row_at Ei h hi).rdA 2 (by simp [Ei,E])
def SlI (w:World) (v:Value) (l:List It):Prop:=SlV w 2 v l.length (flat Ei l)
theorem bu_item (a b:Int):buildV Try.prog 33 [(0,.int .i64 a),(1,.int .i64 b)]=some (iV (a,b)):=by kernel_rfl
def degOf (d:Nat):Nat:=if d=0 then 32 else d
def DOk (d:Nat):Prop:=d=0\/2<=d/\d<=128
theorem DOk.of {d:Nat} (h:DOk d):2<=degOf d/\degOf d<=128:=by
 unfold degOf
 rcases h with rfl | h
 ·simp
 ·rw [if_neg (by omega)];exact h
set_option maxHeartbeats 400000 in
set_option maxRecDepth 8000 in
theorem minmax_any (d:Nat) (h:DOk d) (w:World) :
  CallK Try.prog 149 #[.int .i64 d] w fun v w'=>v = .tuple #[.int .i64 (degOf d-1:Nat),.int .i64 (2*degOf d-1:Nat)]/\w=w':=by
 refine calls_of_W [.tmp 2,.tmp 3] Try.func149 rfl Try.ntmps149 Try.results149 (by simp) fun e he=>?_
 have e0:e 0 = .int .i64 d:=he 0 _ rfl
 clear he
 obtain ⟨h2,h3⟩:=h.of
 have q1:IntKind.i64.wrap ((degOf d:Int)*2)=((2*degOf d:Nat):Int):=by rw [IntWalk.i64_in _ (by omega)];omega
 have q2:IntKind.i64.wrap (((2*degOf d:Nat):Int)-1)=((2*degOf d-1:Nat):Int):=wsub1 _ (by omega) (by omega)
 have q3:IntKind.i64.wrap (((2*degOf d-1:Nat):Int).tdiv 2)=((degOf d-1:Nat):Int):=by rw [wdiv2 _ (by omega)];congr 1;omega
 refine W_sq fun K hK=>(W_text [true,true] (by kernel_rfl) ?_);simp only [↓zZ1,↓reduceIte,Nat.reduceEqDiff,rg,ow_149]
 apply hK;clear hK K
 refine W_sqx fun K hK=>?_
 have rest:∀ e',e' 0 = .int .i64 (degOf d)->K e' w:=fun e' f0=>by
  apply hK;clear hK K
  refine W_sq fun K hK=>(W_text [true,true,true,true] (by kernel_rfl) ?_);simp only [↓zZ1,↓reduceIte,Nat.reduceEqDiff,rg,ow_149,f0,bv_mul,q1,q2]
  apply hK;clear hK K
  refine W_sq fun K hK=>(W_text [true,true,true] (by kernel_rfl) ?_);simp only [↓zZ1,↓reduceIte,Nat.reduceEqDiff,rg,ow_149,q3]
  apply hK;clear hK K
  refine W_sq fun K hK=>(W_text [true,true,true,true] (by kernel_rfl) ?_);simp only [↓zZ1,↓reduceIte,Nat.reduceEqDiff,rg,ow_149]
  apply hK;clear hK K
  exact W_ret (endQ_2 (by simp only [upd_eq,Nat.reduceEqDiff,↓reduceIte]<;>rfl) (by simp only [upd_eq,Nat.reduceEqDiff,↓reduceIte]<;>rfl) ⟨rfl,rfl⟩)
 clear hK
 rcases h with rfl | ⟨g1,g2⟩
 ·have t1:decide ((0:Int)<=0)=true:=rfl
  refine W_sq fun K hK=>(W_text [true,true] (by kernel_rfl) ?_);simp only [↓zZ1,↓reduceIte,Nat.reduceEqDiff,rg,ow_149,e0,Int.natCast_zero,t1]
  apply hK;clear hK K
  refine W_true (by simp only [zZ2,Nat.reduceEqDiff,↓reduceIte,zZ3]<;>rfl) ?_
  refine W_rg fun K hK=>(W_text [true] (by kernel_rfl) ?_);simp only [↓zZ1,↓reduceIte,Nat.reduceEqDiff,rg,ow_149]
  apply hK;clear hK K
  refine rest _ ?_
  simp only [upd_eq,Nat.reduceEqDiff,↓reduceIte];rfl
 ·have t1:decide ((d:Int)<=0)=false:=by simp;omega
  have t2:((d:Int) == 1)=false:=by simp;omega
  refine W_sq fun K hK=>(W_text [true,true] (by kernel_rfl) ?_);simp only [↓zZ1,↓reduceIte,Nat.reduceEqDiff,rg,ow_149,e0,t1]
  apply hK;clear hK K
  refine W_false (by simp only [zZ2,Nat.reduceEqDiff,↓reduceIte,zZ3]<;>rfl) ?_
  refine W_sq fun K hK=>(W_text [true,true] (by kernel_rfl) ?_);simp only [↓zZ1,↓reduceIte,Nat.reduceEqDiff,rg,ow_149,e0,t2]
  apply hK;clear hK K
  refine W_false (by simp only [zZ2,Nat.reduceEqDiff,↓reduceIte,zZ3]<;>rfl) (W_skip ?_)
  refine rest _ ?_
  simp only [upd_eq,Nat.reduceEqDiff,↓reduceIte]
  rw [e0,degOf,if_neg (by omega)]
theorem la_cv:laK Try.prog 33 218=some .nilIface:=by kernel_rfl
theorem la_ci:laK Try.prog 33 221=some .nilIface:=by kernel_rfl
theorem z_tree:zK Try.prog 156=some [.int .u64 0,.pointer none,.pointer none,.int .i64 0,.bool false,.bool false,.nilFunc,.int .i64 0,.int .i64 0,.int .i64 0,.int .i64 0]:=by kernel_rfl
theorem z_u64:zK Try.prog 153=some [.int .u64 0]:=by kernel_rfl
theorem z_ints:zK Try.prog 22=some [.slice none 0 0]:=by kernel_rfl
theorem z_opt:zK Try.prog 138=some [.int .i64 0,.bool false]:=by kernel_rfl
theorem el_int:elK Try.prog 22=some (3,1,8,[.int .i64 0]):=by kernel_rfl
theorem ld_opt:ldK Try.prog 138=some (some 2):=by kernel_rfl
theorem bs_int0:bsV Try.prog 22 0 []=some (3,[]):=by kernel_rfl
theorem bu_opt (d:Int) (b:Bool):buildV Try.prog 138 [(0,.int .i64 d),(1,.bool b)]=some (.agg #[.int .i64 d,.bool b]):=by kernel_rfl
theorem eq_nil (a:Option Addr) (n c:Nat):binV Try.prog .eql 22 (.slice a n c) (.slice none 0 0)=some (.bool a.isNone):=by kernel_rfl
theorem oc_ints (l:List Int):oc (ints l):=fun v hv=>by
 obtain ⟨n,_,rfl⟩:=List.mem_map.1 hv
 rfl
set_option maxHeartbeats 400000 in
set_option maxRecDepth 8000 in
theorem init_any (m d:Nat) (hd:DOk d) (w:World) (wm:wok w m 11) (hr:Row w m 7 [.int .i64 0,.int .i64 0,.int .i64 0,.int .i64 0]) :
  CallK Try.prog 114 #[ptr m,.int .i64 d] w fun _ w'=>Ext (fun y o=>y=m/\(o=4\/o=5\/o=9\/o=10)) w w'/\rd w' m 10=some (.int .i64 (degOf d-1:Nat))/\rd w' m 9=some (.int .i64 (2*degOf d-1:Nat)) ∧
   rd w' m 4=some (.bool false)/\rd w' m 5=some (.bool false)/\w'.heap.size=w.heap.size:=by
 have hz:rdA w m 7 2=some (itV zIt):=(hr.take 2).rdA 2 (by decide)
 simp only [Row.cons] at hr
 obtain ⟨g7,g8,g9,g10,-⟩:=hr
 refine calls_of_W [] Try.func114 rfl Try.ntmps114 Try.results114 (by simp) fun e he=>?_
 have e0:e 0=ptr m:=he 0 _ rfl
 have e1:e 1 = .int .i64 d:=he 1 _ rfl
 clear he
 have t1:((0:Int) != 0)=false:=by simp
 refine W_seq ?_
 refine W_sq fun K hK=>(W_text [true,true,true,true,true] (by kernel_rfl) ?_);simp only [↓zZ1,↓reduceIte,Nat.reduceEqDiff,rg,ow_114,e0,ptr_eq,g10,t1]
 apply hK;clear hK K
 refine W_false (by simp only [zZ2,Nat.reduceEqDiff,↓reduceIte,zZ3]<;>rfl) (W_skip ?_)
 show W _ _ _ _ _ _
 refine W_sq fun K hK=>(W_text [true,true,true,false,true,true,true,true,true,false,true,true,false] (by kernel_rfl) ?_);simp only [↓zZ1,↓reduceIte,Nat.reduceEqDiff,rg,ow_114,e0,e1,ptr_eq]
 refine do_call fn_149 (by simp only [zZ2,Nat.reduceEqDiff,↓reduceIte,zZ4]<;>rfl) (minmax_any d hd w) ?_
 rintro _ _ ⟨rfl,rfl⟩
 refine ⟨trivial,?_⟩
 simp only [↓zZ1,↓reduceIte,Nat.reduceEqDiff,rg,ow_114,ptr_eq]
 refine do_store (by simp only [zZ2,Nat.reduceEqDiff,↓reduceIte,zZ3]<;>rfl) (by simp only [zZ2,Nat.reduceEqDiff,↓reduceIte,zZ3]<;>rfl) sz_3 rfl wm (by decide) (oc_one rfl rfl) fun w1 x1 r1 s1=>⟨trivial,?_⟩
 simp only [↓zZ1,↓reduceIte,Nat.reduceEqDiff,rg,ow_114,ptr_eq]
 refine do_store (by simp only [zZ2,Nat.reduceEqDiff,↓reduceIte,zZ3]<;>rfl) (by simp only [zZ2,Nat.reduceEqDiff,↓reduceIte,zZ3]<;>rfl) sz_3 rfl (x1.wok wm) (by decide) (oc_one rfl rfl) fun w2 x2 r2 s2=>⟨trivial,?_⟩
 simp only [↓zZ1,↓reduceIte,Nat.reduceEqDiff,rg,ow_114]
 apply hK;clear hK K
 have Z:∀ {u:World} {G:Nat->Nat->Prop},Ext G w u->(∀ o,G m o->o ≠ 7/\o ≠ 8)->rdA u m 7 2=some (itV zIt):=fun hx hG =>
  (hx.row (show Row w m 7 [.int .i64 0,.int .i64 0] from Row.cons.2 ⟨g7,Row.cons.2 ⟨g8,Row.nil _ _ _⟩⟩) fun j hj g=>by have:=hG _ g;simp at hj;omega).rdA 2 (by decide)
 have X2:Ext (fun y o=>y=m/\(o=4\/o=5\/o=9\/o=10)) w w2:=x1.trans x2 (fun y o g=>by simp only [rng] at g;omega) fun y o _ g=>by simp only [rng] at g;omega
 have z2:=Z X2 fun o g=>by omega
 have n1:=tas_no (P:=Try.prog) _ _ (itV zIt) _ co_218 la_cv
 have n2:=tas_no (P:=Try.prog) _ _ (itV zIt) _ co_221 la_ci
 refine W_sq fun K hK=>(W_text [true,true,true,true,true,true,true,true,true,true,true,true,false] (by kernel_rfl) ?_);simp only [↓zZ1,↓reduceIte,Nat.reduceEqDiff,rg,ow_114,e0,ptr_eq,z2,n1]
 refine do_store (by simp only [zZ2,Nat.reduceEqDiff,↓reduceIte,zZ3]<;>rfl) (by simp only [zZ2,Nat.reduceEqDiff,↓reduceIte,zZ3]<;>rfl) sz_4 rfl (x2.wok (x1.wok wm)) (by decide) (oc_one rfl rfl) fun w3 x3 r3 s3=>⟨trivial,?_⟩
 simp only [↓zZ1,↓reduceIte,Nat.reduceEqDiff,rg,ow_114]
 apply hK;clear hK K
 have g8':rd w3 m 4=some (.bool false):=(Row.cons.1 r3).1
 have X3:Ext (fun y o=>y=m/\(o=4\/o=5\/o=9\/o=10)) w w3:=X2.trans x3 (fun _ _ g=>g) fun y o _ g=>by simp only [rng] at g;omega
 have z3:=Z X3 fun o g=>by omega
 refine W_sq fun K hK=>(W_text [true,true,true,true,true] (by kernel_rfl) ?_);simp only [↓zZ1,↓reduceIte,Nat.reduceEqDiff,rg,ow_114,e0,ptr_eq,g8']
 apply hK;clear hK K
 refine W_true (by simp only [zZ2,Nat.reduceEqDiff,↓reduceIte,zZ3]<;>rfl) ?_
 refine W_rg fun K hK=>(W_text [true,true,true,true,true,true,true,true,true,true,true,true,false] (by kernel_rfl) ?_);simp only [↓zZ1,↓reduceIte,Nat.reduceEqDiff,rg,ow_114,e0,ptr_eq,z3,n2]
 refine do_store (by simp only [zZ2,Nat.reduceEqDiff,↓reduceIte,zZ3]<;>rfl) (by simp only [zZ2,Nat.reduceEqDiff,↓reduceIte,zZ3]<;>rfl) sz_4 rfl (x3.wok (x2.wok (x1.wok wm))) (by decide) (oc_one rfl rfl) fun w4 x4 r4 s4=>⟨trivial,?_⟩
 simp only [↓zZ1,↓reduceIte,Nat.reduceEqDiff,rg,ow_114]
 apply hK;clear hK K
 have X:Ext (fun y o=>y=m/\(o=4\/o=5\/o=9\/o=10)) w w4:=X3.trans x4 (fun _ _ g=>g) fun y o _ g=>by simp only [rng] at g;omega
 exact endQ_0n ⟨X,x4.rd (x3.rd (x2.rd (Row.cons.1 r1).1 (by simp only [rng];omega)) (by simp only [rng];omega)) (by simp only [rng];omega),x4.rd (x3.rd (Row.cons.1 r2).1 (by simp only [rng];omega)) (by simp only [rng];omega),
  x4.rd g8' (by simp only [rng];omega),(Row.cons.1 r4).1,by rw [s4,s3,s2,s1]⟩
set_option maxRecDepth 8000 in
theorem newIso_any (c:Nat) (w:World) (wc:wok w c 1) (h0:rd w c 0=some (.int .u64 0)) :
  CallK Try.prog 113 #[ptr c] w fun v w'=>v = .int .u64 1/\Ext (rng c 0 1) w w'/\w'.heap.size=w.heap.size:=by
 refine calls_of_W [.tmp 2] Try.func113 rfl Try.ntmps113 Try.results113 (by simp) fun e he=>?_
 have e0:e 0=ptr c:=he 0 _ rfl
 clear he
 have q:IntKind.u64.wrap (0+1)=1:=rfl
 refine W_sq fun K hK=>(W_text [true] (by kernel_rfl) ?_);simp only [↓zZ1,↓reduceIte,Nat.reduceEqDiff,rg,ow_113]
 apply hK;clear hK K
 refine W_sq fun K hK=>(W_text [true,true,true,true,true,false] (by kernel_rfl) ?_);simp only [↓zZ1,↓reduceIte,Nat.reduceEqDiff,rg,ow_113,e0,ptr_eq,h0,q]
 refine do_store (by simp only [zZ2,Nat.reduceEqDiff,↓reduceIte,zZ3]<;>rfl) (by simp only [zZ2,Nat.reduceEqDiff,↓reduceIte,zZ3]<;>rfl) sz_153 rfl wc (by decide) (oc_one rfl rfl) fun w1 x1 r1 s1=>⟨trivial,?_⟩
 simp only [↓zZ1,↓reduceIte,Nat.reduceEqDiff,rg,ow_113]
 apply hK;clear hK K
 have d0:rd w1 c 0=some (.int .u64 1):=(Row.cons.1 r1).1
 refine W_sq fun K hK=>(W_text [true,true,true,true] (by kernel_rfl) ?_);simp only [↓zZ1,↓reduceIte,Nat.reduceEqDiff,rg,ow_113,e0,ptr_eq,d0]
 apply hK;clear hK K
 exact W_ret (endQ_1 (by simp only [upd_eq,Nat.reduceEqDiff,↓reduceIte]<;>rfl) ⟨rfl,x1,s1⟩)
set_option maxHeartbeats 400000 in
set_option maxRecDepth 8000 in
theorem newTree_any (B d:Nat) (ord:List Int) (lv:Value) (nl:Bool) (hd:DOk d) (w:World) (hL:LessAt B w.heap.size w lv ord) (hB:B<=w.heap.size) :
  CallK Try.prog 74 #[lv,.agg #[.int .i64 d,.bool nl]] w fun v w'=>∃ m,v=ptr m/\w.heap.size<=m/\Ext noF w w'/\TreeAt B ord w' m (degOf d) 1 [] noF:=by
 obtain ⟨cc,sv,rfl,-⟩:=id hL.ex
 obtain ⟨lv,hlv⟩:∃ lv:Value,lv = .func (.func 116) #[] #[ptr cc]:=⟨_,rfl⟩
 have h1c:lv.cells.toList=[lv]:=by rw [hlv];rfl
 have h1o:lv.oneCell'=true:=by rw [hlv];rfl
 rw [<-hlv] at hL ⊢
 refine calls_of_W [.tmp 4] Try.func74 rfl Try.ntmps74 Try.results74 (by simp) fun e he=>?_
 have e0:e 0=lv:=he 0 _ rfl
 have e1:e 1 = .agg #[.int .i64 d,.bool nl]:=he 1 _ rfl
 clear he
 refine W_sq fun K hK=>(W_text [false,true] (by kernel_rfl) ?_);simp only [↓zZ1,↓reduceIte,Nat.reduceEqDiff,rg,ow_74]
 refine do_box (by simp only [evt];exact e1) fun w1 n1=>⟨trivial,?_⟩
 simp only [↓zZ1,↓reduceIte,Nat.reduceEqDiff,rg,ow_74]
 apply hK;clear hK K
 have s1:=n1.size
 have op1:rd w1 w.heap.size 0=some (.int .i64 d):=(Row.cons.1 n1.row).1
 refine W_sq fun K hK=>(W_text [false,true] (by kernel_rfl) ?_);simp only [↓zZ1,↓reduceIte,Nat.reduceEqDiff,rg,ow_74]
 refine do_alloc z_tree fun w2 n2=>⟨trivial,?_⟩
 simp only [↓zZ1,↓reduceIte,Nat.reduceEqDiff,rg,ow_74]
 apply hK;clear hK K
 have s2:=n2.size
 have r2:=n2.row
 obtain ⟨m,hm⟩:∃ m,m=w1.heap.size:=⟨_,rfl⟩
 have wm2:wok w2 m 11:=by rw [hm];exact n2.wok
 rw [<-hm] at r2 ⊢
 refine W_sq fun K hK=>(W_text [true,false,true,true,false] (by kernel_rfl) ?_);simp only [↓zZ1,↓reduceIte,Nat.reduceEqDiff,rg,ow_74]
 refine do_alloc z_u64 fun w3 n3=>⟨trivial,?_⟩
 simp only [↓zZ1,↓reduceIte,Nat.reduceEqDiff,rg,ow_74]
 have s3:=n3.size
 obtain ⟨c,hc⟩:∃ c,c=w2.heap.size:=⟨_,rfl⟩
 have wc3:wok w3 c 1:=by rw [hc];exact n3.wok
 have c3:rd w3 c 0=some (.int .u64 0):=by rw [hc];exact (Row.cons.1 n3.row).1
 have hcm:c ≠ m:=by omega
 rw [<-hc]
 refine do_store (by simp only [zZ2,Nat.reduceEqDiff,↓reduceIte,zZ3]<;>rfl) (by simp only [zZ2,Nat.reduceEqDiff,↓reduceIte,zZ3]<;>rfl) sz_154 rfl (n3.ext.wok wm2) (by decide) (oc_one rfl rfl) fun w4 x4 r4 s4=>⟨trivial,?_⟩
 simp only [↓zZ1,↓reduceIte,Nat.reduceEqDiff,rg,ow_74]
 apply hK;clear hK K
 have rc4:rd w4 m 1=some (.pointer (some ⟨c,0,none⟩)):=(Row.cons.1 r4).1
 have X34:Ext (fun y o=>y=m/\o<=1\/y=c) w2 w4:=n3.ext.trans x4 (fun _ _ g=>g.elim) fun y o _ g=>by simp only [rng] at g;omega
 refine W_sq fun K hK=>(W_text [true,true,true,true,true,false,true,true,false] (by kernel_rfl) ?_);simp only [↓zZ1,↓reduceIte,Nat.reduceEqDiff,rg,ow_74,ptr_eq,rc4]
 refine do_call fn_113 (by simp only [zZ2,Nat.reduceEqDiff,↓reduceIte,zZ4]<;>rfl) (newIso_any c w4 (x4.wok wc3) (x4.rd c3 (by simp only [rng];omega))) ?_
 rintro _ w5 ⟨rfl,x5,s5⟩
 refine ⟨trivial,?_⟩
 simp only [↓zZ1,↓reduceIte,Nat.reduceEqDiff,rg,ow_74]
 have wm5:=x5.wok (x4.wok (n3.ext.wok wm2))
 refine do_store (by simp only [zZ2,Nat.reduceEqDiff,↓reduceIte,zZ3]<;>rfl) (by simp only [zZ2,Nat.reduceEqDiff,↓reduceIte,zZ3]<;>rfl) sz_153 rfl wm5 (by decide) (oc_one rfl rfl) fun w6 x6 r6 s6=>⟨trivial,?_⟩
 simp only [↓zZ1,↓reduceIte,Nat.reduceEqDiff,rg,ow_74]
 apply hK;clear hK K
 have X6:Ext (fun y o=>y=m/\o<=1\/y=c) w2 w6:=(X34.trans x5 (fun _ _ g=>g) fun y o _ g=>by simp only [rng] at g;omega).trans x6 (fun _ _ g=>g) fun y o _ g=>by simp only [rng] at g;omega
 have wm6:=x6.wok wm5
 refine W_sq fun K hK=>(W_text [true,true,true,true,false] (by kernel_rfl) ?_);simp only [↓zZ1,↓reduceIte,Nat.reduceEqDiff,rg,ow_74,e0]
 refine do_store (by simp only [zZ2,Nat.reduceEqDiff,↓reduceIte,zZ3]<;>rfl) (by simp only [zZ2,Nat.reduceEqDiff,↓reduceIte,zZ3]<;>rfl) sz_112 (by rw [h1c];rfl) wm6 (by decide) (by rw [h1c];exact oc_one rfl h1o) fun w7 x7 r7 s7=>⟨trivial,?_⟩
 simp only [↓zZ1,↓reduceIte,Nat.reduceEqDiff,rg,ow_74]
 apply hK;clear hK K
 have r7:rd w7 m 6=some lv:=by have:=r7;rw [h1c] at this;exact (Row.cons.1 this).1
 have X7:Ext (fun y o=>y=m/\(o<=1\/o=6)\/y=c) w2 w7:=X6.trans x7 (fun y o g=>by omega) fun y o _ g=>by simp only [rng] at g;omega
 have op7:rd w7 w.heap.size 0=some (.int .i64 d):=X7.rd (n2.ext.rd op1 fun h=>h) fun g=>by omega
 refine W_sq fun K hK=>(W_text [true,true,true,false] (by kernel_rfl) ?_);simp only [↓zZ1,↓reduceIte,Nat.reduceEqDiff,rg,ow_74,op7]
 refine do_call fn_114 (by simp only [zZ2,Nat.reduceEqDiff,↓reduceIte,zZ4]<;>rfl) (init_any m d hd w7 (x7.wok wm6) (X7.row ((r2.drop 7).of_eq (by omega) rfl) fun j _ g=>by omega)) ?_
 rintro _ w8 ⟨x8,g10,g9,g4,g5,s8⟩
 refine ⟨trivial,?_⟩
 simp only [↓zZ1,↓reduceIte,Nat.reduceEqDiff,rg,ow_74]
 apply hK;clear hK K
 refine W_sq fun K hK=>(W_text [true,true] (by kernel_rfl) ?_);simp only [↓zZ1,↓reduceIte,Nat.reduceEqDiff,rg,ow_74]
 apply hK;clear hK K
 have r2':=r2
 simp only [Row.cons] at r2'
 obtain ⟨h0,h1,h2,h3,h4,h5,h6,h7,h8,h9,h10,-⟩:=r2'
 have X18:Ext noF w w8:=noF_of (noF_of (n1.ext.tr n2.ext) X7 fun y o hy g=>by omega) x8 fun y o hy g=>by omega
 have hL8:LessAt B m w8 lv ord:=(hL.ext X18 fun _ _ g=>g.elim).mono (by omega)
 have is8:rd w8 m 0=some (.int .u64 1):=x8.rd (x7.rd (Row.cons.1 r6).1 (by simp only [rng];omega)) (by omega)
 have ez8:Row w8 m 7 (E.cel zIt):=x8.row (X7.row (((r2.drop 7).take 2).of_eq (by omega) rfl) fun j _ g=>by omega) fun j hj g=>by have:(E.cel zIt).length=2:=rfl;omega
 refine W_ret (endQ_1 (by simp only [upd_eq,Nat.reduceEqDiff,↓reduceIte]<;>rfl) ⟨m,rfl,by omega,X18,⟨is8,ez8,g10,g9,g4,g5,x8.wok (x7.wok wm6)⟩,⟨lv,x8.rd r7 (by omega),hL8,by omega⟩,x8.rd (X7.rd h3 (by omega)) (by omega),List.Pairwise.nil,.inl ⟨rfl,x8.rd (X7.rd h2 (by omega)) (by omega)⟩,fun _ g=>g,fun _ _ g=>g.elim,fun _ _ g=>g.elim⟩)
def SlInt (w:World) (v:Value) (l:List Int):Prop:=SlV w 1 v l.length (ints l)
set_option maxHeartbeats 400000 in
set_option maxRecDepth 8000 in
theorem clone_any (sv:Value) (ord:List Int) (w:World) (hs:SlInt w sv ord) (hbig:ord.length<=2147483647) :
  CallK Try.prog 115 #[sv] w fun v w'=>SlInt w' v ord/\Ext noF w w'/\since w.heap.size v:=by
 obtain ⟨a,cp,rfl⟩:=hs.shape
 refine calls_of_W [.tmp 2] Try.func115 rfl Try.ntmps115 Try.results115 (by simp) fun e he=>?_
 have e0:e 0 = .slice a ord.length cp:=he 0 _ rfl
 clear he
 refine W_sq fun K hK=>(W_text [true] (by kernel_rfl) ?_);simp only [↓zZ1,↓reduceIte,Nat.reduceEqDiff,rg,ow_115]
 apply hK;clear hK K
 refine W_seq ?_
 cases a with
 | none =>
  refine W_sq fun K hK=>(W_text [true,true] (by kernel_rfl) ?_);simp only [↓zZ1,↓reduceIte,Nat.reduceEqDiff,rg,ow_115,e0,eq_nil]
  apply hK;clear hK K
  refine W_true (by simp only [zZ2,Nat.reduceEqDiff,↓reduceIte,zZ3]<;>rfl) ?_
  refine W_sq fun K hK=>(W_text [true] (by kernel_rfl) ?_);simp only [↓zZ1,↓reduceIte,Nat.reduceEqDiff,rg,ow_115]
  apply hK;clear hK K
  refine W_ret ?_
  simp only [andThen_ret]
  refine endQ_1 (by simp only [upd_eq,Nat.reduceEqDiff,↓reduceIte]<;>rfl) ⟨?_,Ext.refl _ _,fun b o n c h=>by cases h⟩
  have h0:ord=[]:=by
   rcases hs.2 with ⟨_,h⟩ | ⟨b,o,cap,h,_⟩
   ·exact List.length_eq_zero_iff.1 h
   ·cases h
  subst h0
  exact ⟨rfl,.inl ⟨rfl,rfl⟩⟩
 | some a =>
  refine W_sq fun K hK=>(W_text [true,true] (by kernel_rfl) ?_);simp only [↓zZ1,↓reduceIte,Nat.reduceEqDiff,rg,ow_115,e0,eq_nil]
  apply hK;clear hK K
  refine W_false (by simp only [zZ2,Nat.reduceEqDiff,↓reduceIte,zZ3]<;>rfl) (W_skip ?_)
  show W _ _ _ _ _ _
  refine W_sq fun K hK=>(W_text [false,true,false,true] (by kernel_rfl) ?_);simp only [↓zZ1,↓reduceIte,Nat.reduceEqDiff,rg,ow_115,e0]
  refine do_bsl rfl bs_int0 fun w1 n1=>⟨trivial,?_⟩
  simp only [↓zZ1,↓reduceIte,Nat.reduceEqDiff,rg,ow_115,e0]
  have hv:SlV w1 1 (.slice (some ⟨w.heap.size,0,none⟩) 0 0) 0 []:=⟨rfl,.inr ⟨_,0,0,rfl,Nat.le_refl _,Row.nil _ _ _,n1.wok.R (Nat.le_refl _)⟩⟩
  refine do_append (by simp only [zZ2,Nat.reduceEqDiff,↓reduceIte,zZ3]<;>rfl) (by simp only [zZ2,Nat.reduceEqDiff,↓reduceIte,zZ3]<;>rfl) el_int rfl ni_22 hv (hs.ext0 n1.ext) (by omega) (by decide) (oc_ints _) fun v2 w2 a2=>⟨trivial,?_⟩
  simp only [↓zZ1,↓reduceIte,Nat.reduceEqDiff,rg,ow_115]
  apply hK;clear hK K
  obtain ⟨h1,h2,h3⟩:=app_since a2 (B:=w.heap.size) (fun b o n c h=>by cases h;exact Nat.le_refl _) (by have:=n1.size;omega)
  rw [Nat.zero_add,List.nil_append] at h1
  refine W_ret (endQ_1 (by simp only [upd_eq,Nat.reduceEqDiff,↓reduceIte]<;>rfl) ⟨h1,noF_of n1.ext h3 fun y o hy g=>by omega,h2⟩)
set_option maxHeartbeats 400000 in
set_option maxRecDepth 8000 in
theorem before0_any (sv:Value) (ord:List Int) (w:World) (hs:SlInt w sv ord) (hbig:ord.length<=2147483647) :
  CallK Try.prog 75 #[sv] w fun v w'=>Ext noF w w'/\LessAt w.heap.size w'.heap.size w' v ord:=by
 refine calls_of_W [.tmp 2] Try.func75 rfl Try.ntmps75 Try.results75 (by simp) fun e he=>?_
 have e0:e 0=sv:=he 0 _ rfl
 clear he
 refine W_sq fun K hK=>(W_text [true] (by kernel_rfl) ?_);simp only [↓zZ1,↓reduceIte,Nat.reduceEqDiff,rg,ow_75]
 apply hK;clear hK K
 refine W_sq fun K hK=>(W_text [true,false,false,false] (by kernel_rfl) ?_);simp only [↓zZ1,↓reduceIte,Nat.reduceEqDiff,rg,ow_75,e0]
 refine do_call fn_115 (by simp only [zZ2,Nat.reduceEqDiff,↓reduceIte,zZ4]<;>rfl) (clone_any sv ord w hs hbig) ?_
 rintro v1 w1 ⟨h1,x1,hsi⟩
 refine ⟨trivial,?_⟩
 simp only [↓zZ1,↓reduceIte,Nat.reduceEqDiff,rg,ow_75]
 refine do_alloc z_ints fun w2 n2=>⟨trivial,?_⟩
 simp only [↓zZ1,↓reduceIte,Nat.reduceEqDiff,rg,ow_75]
 obtain ⟨a,cp,rfl⟩:=h1.shape
 refine do_store (by simp only [zZ2,Nat.reduceEqDiff,↓reduceIte,zZ3]<;>rfl) (by simp only [zZ2,Nat.reduceEqDiff,↓reduceIte,zZ3]<;>rfl) sz_22 rfl n2.wok (by decide) (oc_one rfl rfl) fun w3 x3 r3 s3=>⟨trivial,?_⟩
 simp only [↓zZ1,↓reduceIte,Nat.reduceEqDiff,rg,ow_75]
 apply hK;clear hK K
 refine W_sq fun K hK=>(W_text [true,true] (by kernel_rfl) ?_);simp only [↓zZ1,↓reduceIte,Nat.reduceEqDiff,rg,ow_75]
 apply hK;clear hK K
 have X3:Ext noF w1 w3:=noF_of n2.ext x3 fun y o hy g=>by simp only [rng] at g;omega
 have s2:=n2.size
 refine W_ret (endQ_1 (by simp only [upd_eq,Nat.reduceEqDiff,↓reduceIte]<;>rfl) ⟨x1.tr X3,⟨⟨w1.heap.size,_,rfl,⟨x1.size,by omega⟩,(Row.cons.1 r3).1,h1.ext0 X3,fun b o n c h=>?_⟩,hbig⟩⟩)
 have:=h1.lt h
 have:=hsi _ _ _ _ h
 have:=X3.size
 omega
set_option maxHeartbeats 400000 in
set_option maxRecDepth 8000 in
theorem options_any (sv:Value) (d:Int) (nl:Bool) (w:World) (h1:sv.oneCell'=true) :
  CallK Try.prog 76 #[.agg #[sv,.int .i64 d,.bool nl]] w fun v w'=>v = .agg #[.int .i64 d,.bool nl]/\Ext noF w w':=by
 refine calls_of_W [.cell 2 138] Try.func76 rfl Try.ntmps76 Try.results76 (by simp) fun e he=>?_
 have e0:e 0 = .agg #[sv,.int .i64 d,.bool nl]:=he 0 _ rfl
 clear he
 refine W_sq fun K hK=>(W_text [false,false] (by kernel_rfl) ?_);simp only [↓zZ1,↓reduceIte,Nat.reduceEqDiff,rg,ow_76]
 refine do_box (by simp only [evt];exact e0) fun w1 n1=>⟨trivial,?_⟩
 simp only [↓zZ1,↓reduceIte,Nat.reduceEqDiff,rg,ow_76]
 refine do_alloc z_opt fun w2 n2=>⟨trivial,?_⟩
 simp only [↓zZ1,↓reduceIte,Nat.reduceEqDiff,rg,ow_76]
 apply hK;clear hK K
 have s1:=n1.size
 have r2:Row w2 w.heap.size 0 [sv,.int .i64 d,.bool nl]:=n2.ext.row n1.row fun _ _ h=>h
 simp only [Row.cons] at r2
 obtain ⟨-,g1,g2,-⟩:=r2
 refine W_sq fun K hK=>(W_text [true,true,true,true,true,false] (by kernel_rfl) ?_);simp only [↓zZ1,↓reduceIte,Nat.reduceEqDiff,rg,ow_76,g1,g2,bu_opt]
 refine do_store (by simp only [zZ2,Nat.reduceEqDiff,↓reduceIte,zZ3]<;>rfl) (by simp only [zZ2,Nat.reduceEqDiff,↓reduceIte,zZ3]<;>rfl) sz_138 rfl n2.wok (by decide) (by intro v hv;simp [Value.cells] at hv;rcases hv with rfl | rfl<;>rfl) fun w3 x3 r3 s3=>⟨trivial,?_⟩
 simp only [↓zZ1,↓reduceIte,Nat.reduceEqDiff,rg,ow_76]
 apply hK;clear hK K
 refine W_ret (endQ_c (by simp only [upd_eq,Nat.reduceEqDiff,↓reduceIte]<;>rfl) ld_opt (Row.rdA (l:=[.int .i64 d,.bool nl]) r3 2 (Nat.le_refl _)) ⟨rfl,noF_of (n1.ext.tr n2.ext) x3 fun y o hy g=>by simp only [rng] at g;omega⟩)
theorem set_tree (B m d:Nat) (iso:Int) (ord:List Int) (x:It) (hd:2<=d) (hd':d<=128) (xs:List It) (F:Nat->Nat->Prop) (w:World) (hM:TreeAt B ord w m d iso xs F) (hbig:xs.length<1152921504606846976) :
  CallK Try.prog 90 #[ptr m,itV x,.pointer none] w fun v w'=>v = .tuple #[itV ((at? O (rkI ord) (rkI ord x) xs).getD zIt),.bool (hit O (rkI ord) (rkI ord x) xs)]/\Ext (mapF m F) w w' ∧
   ∃ F',TreeAt B ord w' m d iso (put O (rkI ord) x xs) F'/\∀ y o,F' y o->F y o\/w.heap.size<=y:=by
 rcases hM.root with ⟨rfl,hr⟩ | ⟨h,b,hr,ht⟩
 ·refine CallK_mono (set_nil B m d iso ord x hd hd' w hM.cfg hM.less hr) ?_
  rintro v w' ⟨rfl,hX,F',hM',hF'⟩
  exact ⟨rfl,hX.mono fun y o _ g=>g.imp (fun g=>g.elim) id,F',hM',fun y o g=>.inr (hF' y o g)⟩
 ·exact set_root B m d iso ord x hd hd' _ h b xs F w rfl hM.cfg hM.less hM.above hM.cnt hM.asc hr ht hM.off hbig
set_option maxHeartbeats 400000 in
set_option maxRecDepth 8000 in
theorem setH_tree (B m d:Nat) (iso:Int) (ord:List Int) (x:It) (hd:2<=d) (hd':d<=128) (xs:List It) (F:Nat->Nat->Prop) (w:World) (hM:TreeAt B ord w m d iso xs F) (hbig:xs.length<1152921504606846976) :
  CallK Try.prog 56 #[ptr m,itV x,.pointer none] w fun v w'=>v = .tuple #[itV ((at? O (rkI ord) (rkI ord x) xs).getD zIt),.bool (hit O (rkI ord) (rkI ord x) xs)]/\Ext (mapF m F) w w' ∧
   ∃ F',TreeAt B ord w' m d iso (put O (rkI ord) x xs) F'/\∀ y o,F' y o->F y o\/w.heap.size<=y:=by
 have hml:=hM.mlt
 refine calls_of_W [.cell 6 33,.tmp 7] Try.func56 rfl Try.ntmps56 Try.results56 (by simp) fun e he=>?_
 have e0:e 0=ptr m:=he 0 _ rfl
 have e1:e 1=itV x:=he 1 _ rfl
 have e2:e 2 = .pointer none:=he 2 _ rfl
 clear he
 refine W_sq fun K hK=>(W_text [false,false,true] (by kernel_rfl) ?_);simp only [↓zZ1,↓reduceIte,Nat.reduceEqDiff,rg,ow_56]
 refine do_box (by simp only [evt];exact e1) fun w1 n1=>⟨trivial,?_⟩
 simp only [↓zZ1,↓reduceIte,Nat.reduceEqDiff,rg,ow_56]
 refine do_alloc z_it fun w2 n2=>⟨trivial,?_⟩
 simp only [↓zZ1,↓reduceIte,Nat.reduceEqDiff,rg,ow_56]
 apply hK;clear hK K
 have s1:=n1.size
 have s2:=n2.size
 have X2:Ext noF w w2:=n1.ext.tr n2.ext
 have ix:=iX_at (n2.ext.row (show Row w1 w.heap.size 0 (E.cel x) from n1.row) fun _ _ h=>h)
 refine W_sq fun K hK=>(W_text [true,true,true,false,true,true,true,false,true] (by kernel_rfl) ?_);simp only [↓zZ1,↓reduceIte,Nat.reduceEqDiff,rg,ow_56,e0,e2,ix]
 refine do_call fn_90 (by simp only [zZ2,Nat.reduceEqDiff,↓reduceIte,zZ4]<;>rfl) (set_tree B m d iso ord x hd hd' xs F w2 (hM.ext X2) hbig) ?_
 rintro _ w3 ⟨rfl,x3,F',hM',hF'⟩
 refine ⟨trivial,?_⟩
 simp only [↓zZ1,↓reduceIte,Nat.reduceEqDiff,rg,ow_56]
 have hq:∀ o,¬ mapF m F w1.heap.size o:=fun o g=>by
  rcases g with g | g
  ·have:=hM.lt _ _ g;omega
  ·omega
 have s3:=x3.size
 have hF2:∀ y o,F' y o->y ≠ w1.heap.size:=fun y o g k=>by
  subst k
  rcases hF' _ o g with g | g
  ·exact hq o (.inl g)
  ·omega
 refine do_store (by simp only [zZ2,Nat.reduceEqDiff,↓reduceIte,zZ3]<;>rfl) (by simp only [zZ2,Nat.reduceEqDiff,↓reduceIte,zZ3]<;>rfl) sz_33 (itV_len _) (x3.wok n2.wok) (by decide) (itV_oc _) fun w4 x4 r4 s4=>⟨trivial,?_⟩
 simp only [↓zZ1,↓reduceIte,Nat.reduceEqDiff,rg,ow_56]
 apply hK;clear hK K
 have iv:=iX_at (show Row w4 w1.heap.size 0 (E.cel ((at? O (rkI ord) (rkI ord x) xs).getD zIt)) from r4)
 refine W_sq fun K hK=>(W_text [true,true,false,true] (by kernel_rfl) ?_);simp only [↓zZ1,↓reduceIte,Nat.reduceEqDiff,rg,ow_56,iv]
 refine do_store (by simp only [zZ2,Nat.reduceEqDiff,↓reduceIte,zZ3]<;>rfl) (by simp only [zZ2,Nat.reduceEqDiff,↓reduceIte,zZ3]<;>rfl) sz_33 (itV_len _) (x4.wok (x3.wok n2.wok)) (by decide) (itV_oc _) fun w5 x5 r5 s5=>⟨trivial,?_⟩
 simp only [↓zZ1,↓reduceIte,Nat.reduceEqDiff,rg,ow_56]
 apply hK;clear hK K
 have x45:Ext (rng w1.heap.size 0 2) w3 w5:=x4.tr x5
 refine W_ret (endQ_ct (by simp only [upd_eq,Nat.reduceEqDiff,↓reduceIte]<;>rfl) (by simp only [upd_eq,Nat.reduceEqDiff,↓reduceIte]<;>rfl) ld_33 (iX_at (show Row w5 w1.heap.size 0 (E.cel ((at? O (rkI ord) (rkI ord x) xs).getD zIt)) from r5)) ⟨rfl,(X2.trans x3 (fun _ _ g=>g.elim) fun _ _ _ g=>g).trans x45 (fun _ _ g=>g) fun y o hy g=>by simp only [rng] at g;omega,F',
  hM'.extG x45 (fun y o g k=>hF2 y o g k.1) (fun y o g=>by simp only [rng] at g;omega),fun y o g=>(hF' y o g).imp id fun g=>by omega⟩)
set_option maxHeartbeats 400000 in
set_option maxRecDepth 8000 in
theorem setG_any (B m d:Nat) (iso:Int) (ord:List Int) (x:It) (hd:2<=d) (hd':d<=128) (xs:List It) (F:Nat->Nat->Prop) (w:World) (hM:TreeAt B ord w m d iso xs F) (hbig:xs.length<1152921504606846976) :
  CallK Try.prog 55 #[ptr m,itV x] w fun v w'=>v = .tuple #[itV ((at? O (rkI ord) (rkI ord x) xs).getD zIt),.bool (hit O (rkI ord) (rkI ord x) xs)]/\Ext (mapF m F) w w' ∧
   ∃ F',TreeAt B ord w' m d iso (put O (rkI ord) x xs) F'/\∀ y o,F' y o->F y o\/w.heap.size<=y:=by
 have hml:=hM.mlt
 refine calls_of_W [.cell 4 33,.tmp 5] Try.func55 rfl Try.ntmps55 Try.results55 (by simp) fun e he=>?_
 have e0:e 0=ptr m:=he 0 _ rfl
 have e1:e 1=itV x:=he 1 _ rfl
 clear he
 refine W_sq fun K hK=>(W_text [false,false,true] (by kernel_rfl) ?_);simp only [↓zZ1,↓reduceIte,Nat.reduceEqDiff,rg,ow_55]
 refine do_box (by simp only [evt];exact e1) fun w1 n1=>⟨trivial,?_⟩
 simp only [↓zZ1,↓reduceIte,Nat.reduceEqDiff,rg,ow_55]
 refine do_alloc z_it fun w2 n2=>⟨trivial,?_⟩
 simp only [↓zZ1,↓reduceIte,Nat.reduceEqDiff,rg,ow_55]
 apply hK;clear hK K
 have s1:=n1.size
 have s2:=n2.size
 have X2:Ext noF w w2:=n1.ext.tr n2.ext
 have ix:=iX_at (n2.ext.row (show Row w1 w.heap.size 0 (E.cel x) from n1.row) fun _ _ h=>h)
 refine W_sq fun K hK=>(W_text [true,true,false,true,true,false,true] (by kernel_rfl) ?_);simp only [↓zZ1,↓reduceIte,Nat.reduceEqDiff,rg,ow_55,e0,ix]
 refine do_call fn_56 (by simp only [zZ2,Nat.reduceEqDiff,↓reduceIte,zZ4]<;>rfl) (setH_tree B m d iso ord x hd hd' xs F w2 (hM.ext X2) hbig) ?_
 rintro _ w3 ⟨rfl,x3,F',hM',hF'⟩
 refine ⟨trivial,?_⟩
 simp only [↓zZ1,↓reduceIte,Nat.reduceEqDiff,rg,ow_55]
 have s3:=x3.size
 have hF2:∀ y o,F' y o->y ≠ w1.heap.size:=fun y o g k=>by
  subst k
  rcases hF' _ o g with g | g
  ·have:=hM.lt _ _ g;omega
  ·omega
 refine do_store (by simp only [zZ2,Nat.reduceEqDiff,↓reduceIte,zZ3]<;>rfl) (by simp only [zZ2,Nat.reduceEqDiff,↓reduceIte,zZ3]<;>rfl) sz_33 (itV_len _) (x3.wok n2.wok) (by decide) (itV_oc _) fun w4 x4 r4 s4=>⟨trivial,?_⟩
 simp only [↓zZ1,↓reduceIte,Nat.reduceEqDiff,rg,ow_55]
 apply hK;clear hK K
 refine W_ret (endQ_ct (by simp only [upd_eq,Nat.reduceEqDiff,↓reduceIte]<;>rfl) (by simp only [upd_eq,Nat.reduceEqDiff,↓reduceIte]<;>rfl) ld_33 (iX_at (show Row w4 w1.heap.size 0 (E.cel ((at? O (rkI ord) (rkI ord x) xs).getD zIt)) from r4)) ⟨rfl,(X2.trans x3 (fun _ _ g=>g.elim) fun _ _ _ g=>g).trans x4 (fun _ _ g=>g) fun y o hy g=>by simp only [rng] at g;omega,F',
  hM'.extG x4 (fun y o g k=>hF2 y o g k.1) (fun y o g=>by simp only [rng] at g;omega),fun y o g=>(hF' y o g).imp id fun g=>by omega⟩)
def treeG (ord:List Int) (l:List It):List It:=l.foldl (fun xs x=>put O (rkI ord) x xs) []
theorem treeG_succ (ord:List Int) (l:List It) (i:Nat) (x:It) (h:l[i]? = some x):treeG ord (l.take (i+1))=put O (rkI ord) x (treeG ord (l.take i)):=by
 rw [List.take_add_one,h];simp [treeG]
theorem treeG_len (ord:List Int) (l:List It):(treeG ord l).length<=l.length:=by
 have:∀ (l:List It) (xs:List It),(l.foldl (fun xs x=>put O (rkI ord) x xs) xs).length<=xs.length+l.length:=by
  intro l
  induction l with
  | nil=>intro xs;simp
  | cons x l ih=>intro xs;have h1:=ih (put O (rkI ord) x xs);have h2:=put_length O (rkI ord) x xs;simp only [List.foldl_cons,List.length_cons];split at h2<;>omega
 have h:=this l []
 simp only [List.length_nil,Nat.zero_add] at h
 exact h
def mkV (sv:Value) (d:Nat) (nl:Bool):Value:=.agg #[sv,.int .i64 d,.bool nl]
set_option maxHeartbeats 800000 in
set_option maxRecDepth 8000 in
theorem growG_low (d:Nat) (hd:DOk d) (ord:List Int) (sv:Value) (nl:Bool) (l:List It) (lv:Value) (w:World) (hs:SlInt w sv ord) (hsb:ord.length<=2147483647) (hl:SlI w lv l) (hbig:l.length<=4294967294) :
  CallK Try.prog 43 #[mkV sv d nl,lv] w fun v w'=>Ext noF w w'/\∃ B m F,v=ptr m/\TreeAt B ord w' m (degOf d) 1 (treeG ord l) F/\w.heap.size<=m/\(∀ y o,F y o->w.heap.size<=y)/\w.heap.size<=B:=by
 obtain ⟨hd2,hd3⟩:=hd.of
 obtain ⟨sa,sc,rfl⟩:=hs.shape
 refine calls_of_W [.tmp 4] Try.func43 rfl Try.ntmps43 Try.results43 (by simp) fun e he=>?_
 have e0:e 0=mkV (.slice sa ord.length sc) d nl:=he 0 _ rfl
 have e1:e 1=lv:=he 1 _ rfl
 clear he
 refine W_sq fun K hK=>(W_text [false,true] (by kernel_rfl) ?_);simp only [↓zZ1,↓reduceIte,Nat.reduceEqDiff,rg,ow_43]
 refine do_box (by simp only [evt];exact e0) fun w1 n1=>⟨trivial,?_⟩
 simp only [↓zZ1,↓reduceIte,Nat.reduceEqDiff,rg,ow_43]
 apply hK;clear hK K
 have s1:=n1.size
 have rm:Row w1 w.heap.size 0 [.slice sa ord.length sc,.int .i64 d,.bool nl]:=n1.row
 have rm0:=(Row.cons.1 rm).1
 have rm3:rdA w1 w.heap.size 0 3=some (mkV (.slice sa ord.length sc) d nl):=rm.rdA 3 (Nat.le_refl _)
 have M1:readsB (some (some [w.heap.size])) w.heap.size=true:=by simp [readsB]
 refine W_sq fun K hK=>(W_draw (some (some [w.heap.size])) none [(0,0,0),(0,1,0),(0,3,0),(1,2,0),(1,4,0),(1,5,0),(0,6,0)] mixed (by kernel_rfl) ?_);simp only [↓zZ1,↓reduceIte,Nat.reduceEqDiff,rg,ow_43,rm0,rm3,M1]
 refine do_call fn_75 (by simp only [zZ2,Nat.reduceEqDiff,↓reduceIte,zZ4]<;>rfl) (before0_any _ ord _ (SlV.ext0 hs (n1.ext.tr (Ext.dr noF _ _))) hsb) ?_
 rintro lv2 w2 ⟨x2,hL2⟩
 have s2:=x2.size
 refine ⟨.inr (keeps_on x2 fun y hy=>⟨?_,fun _ g=>g⟩),?_⟩
 ·rw [sz_dr]
  simp only [List.mem_cons,List.not_mem_nil,or_false] at hy
  omega
 have x2:=x2.od
 simp only [↓zZ1,↓reduceIte,Nat.reduceEqDiff,rg,ow_43,rm0,rm3,M1]
 refine do_call fn_76 (by simp only [zZ2,Nat.reduceEqDiff,↓reduceIte,zZ4]<;>rfl) (options_any _ d nl w2 rfl) ?_
 rintro _ w3 ⟨rfl,x3⟩
 have s2':=x2.size
 refine ⟨.inr (keeps_on x3 fun y hy=>⟨?_,fun _ g=>g⟩),?_⟩
 ·simp only [List.mem_cons,List.not_mem_nil,or_false] at hy
  omega
 simp only [↓zZ1,↓reduceIte,Nat.reduceEqDiff,rg,ow_43]
 have s3:=x3.size
 refine do_call fn_74 (by simp only [zZ2,Nat.reduceEqDiff,↓reduceIte,zZ4]<;>rfl) (newTree_any w1.heap.size d ord lv2 nl hd w3 ((hL2.ext x3 fun _ _ g=>g.elim).mono s3) (by omega)) ?_
 rintro _ w4 ⟨m,rfl,hm,x4,hT⟩
 refine ⟨.inr (keeps_on x4 fun y hy=>⟨?_,fun _ g=>g⟩),?_⟩
 ·simp only [List.mem_cons,List.not_mem_nil,or_false] at hy
  omega
 simp only [↓zZ1,↓reduceIte,Nat.reduceEqDiff,rg,ow_43]
 apply hK;clear hK K
 have X4:Ext noF w w4:=((n1.ext.tr x2).tr x3).tr x4
 have hB:w.heap.size<=m:=by omega
 clear rm rm0 rm3 n1 x2 x3 x4 hL2 M1
 obtain ⟨a,c,hlv⟩:=SlV.shape hl
 refine W_seq ?_
 refine W_sq fun K hK=>(W_text [true,true,true] (by kernel_rfl) ?_);simp only [↓zZ1,↓reduceIte,Nat.reduceEqDiff,rg,ow_43,e1,hlv]
 apply hK;clear hK K
 refine W_block (W_loop (fun mm e w'=>∃ i:Nat,mm=l.length-i/\i<=l.length/\e 14=lv/\e 5=ptr m/\e 15 = .int .i64 l.length/\e 16 = .int .i64 i/\Ext noF w w'/\∃ F,TreeAt w1.heap.size ord w' m (degOf d) 1 (treeG ord (l.take i)) F/\∀ y o,F y o->w.heap.size<=y)
  l.length ⟨0,by simp,by simp,?_,?_,?_,?_,X4,noF,hT,fun _ _ h=>h.elim⟩ ?_)
 ·simp only [upd_eq,Nat.reduceEqDiff,↓reduceIte];rw [hlv]
 ·simp only [upd_eq,Nat.reduceEqDiff,↓reduceIte]
 ·simp only [upd_eq,Nat.reduceEqDiff,↓reduceIte]
 ·simp only [upd_eq,Nat.reduceEqDiff,↓reduceIte];rfl
 ·clear X4 hT e0 e1 e
  rintro mm e w' ⟨i,rfl,hi,e10,e5,e11,e12,X,F,hM,hF⟩
  by_cases hlt:i<l.length
  ·have ht:=lt_tt i l.length hlt
   refine W_sq fun K hK=>(W_text [true] (by kernel_rfl) ?_);simp only [↓zZ1,↓reduceIte,Nat.reduceEqDiff,rg,ow_43,e11,e12,ht]
   apply hK;clear hK K
   refine W_seq (W_true (by simp only [zZ2,Nat.reduceEqDiff,↓reduceIte,zZ3]<;>rfl) (W_skip ?_))
   show W _ _ _ _ _ _
   obtain ⟨x,hx⟩:∃ x,l[i]? = some x:=⟨_,List.getElem?_eq_getElem hlt⟩
   obtain ⟨lb,lo,ha,row⟩:=SlV.at hl hlv hlt
   subst ha
   have row':Row w' lb lo (flat E l):=X.row row fun _ _ h=>h
   have ix:=it_at row' hx
   refine W_seq (W_block ?_)
   refine W_sq fun K hK=>(W_text [true,true,false,false] (by kernel_rfl) ?_);simp only [↓zZ1,↓reduceIte,Nat.reduceEqDiff,rg,ow_43,e10,hlv,e12,hlt,ix]
   refine do_alloc z_it fun w5 n5=>⟨trivial,?_⟩
   simp only [↓zZ1,↓reduceIte,Nat.reduceEqDiff,rg,ow_43]
   refine do_store (by simp only [zZ2,Nat.reduceEqDiff,↓reduceIte,zZ3]<;>rfl) (by simp only [zZ2,Nat.reduceEqDiff,↓reduceIte,zZ3]<;>rfl) sz_33 (itV_len x) n5.wok (by decide) (itV_oc x) fun w6 x6 r6 s6=>⟨trivial,?_⟩
   simp only [↓zZ1,↓reduceIte,Nat.reduceEqDiff,rg,ow_43]
   apply hK;clear hK K
   have X6:Ext noF w' w6:=noF_of n5.ext x6 fun y o hy h=>by simp only [rng] at h;omega
   have ix6:=iX_at (show Row w6 w'.heap.size 0 (E.cel x) from r6)
   have htl:=treeG_len ord (l.take i)
   have htk:(l.take i).length<=i:=by rw [List.length_take];omega
   refine W_rg fun K hK=>(W_text [true,true,false] (by kernel_rfl) ?_);simp only [↓zZ1,↓reduceIte,Nat.reduceEqDiff,rg,ow_43,e5,ix6]
   refine do_call fn_55 (by simp only [zZ2,Nat.reduceEqDiff,↓reduceIte,zZ4]<;>rfl) (setG_any w1.heap.size m (degOf d) 1 ord x hd2 hd3 _ F w6 (hM.ext X6) (by omega)) ?_
   rintro v w7 ⟨-,x7,F',hM7,hF'⟩
   refine ⟨trivial,?_⟩
   simp only [↓zZ1,↓reduceIte,Nat.reduceEqDiff,rg,ow_43]
   apply hK;clear hK K
   show W _ _ _ _ _ _
   have q1:=wadd1 i (by omega)
   refine W_rg fun K hK=>(W_text [true,true] (by kernel_rfl) ?_);simp only [↓zZ1,↓reduceIte,Nat.reduceEqDiff,rg,ow_43,e12,q1]
   apply hK;clear hK K
   have s3':=X6.size
   have sX:=X.size
   refine ⟨_,?_,i+1,rfl,hlt,?_,?_,?_,?_,?_,F',by rw [treeG_succ ord l i x hx];exact hM7,fun y o g=>?_⟩
   ·omega
   ·simp only [upd_eq,Nat.reduceEqDiff,↓reduceIte];exact e10
   ·simp only [upd_eq,Nat.reduceEqDiff,↓reduceIte];exact e5
   ·simp only [upd_eq,Nat.reduceEqDiff,↓reduceIte];exact e11
   ·simp only [upd_eq,Nat.reduceEqDiff,↓reduceIte]
   ·refine noF_of (X.tr X6) x7 fun y o hy g=>?_
    rcases g with g | g
    ·have:=hF y o g;omega
    ·omega
   ·rcases hF' y o g with g | g
    ·exact hF y o g
    ·omega
  ·obtain rfl:i=l.length:=by omega
   have ht:=lt_ff l.length l.length (by omega)
   refine W_sq fun K hK=>(W_text [true] (by kernel_rfl) ?_);simp only [↓zZ1,↓reduceIte,Nat.reduceEqDiff,rg,ow_43,e11,e12,ht]
   apply hK;clear hK K
   refine W_seq (W_false (by simp only [zZ2,Nat.reduceEqDiff,↓reduceIte,zZ3]<;>rfl) (W_exit ?_))
   simp only [andThen_exit,inBlk_exit,andThen_normal,↓reduceIte]
   refine W_sq fun K hK=>(W_text [true,true] (by kernel_rfl) ?_);simp only [↓zZ1,↓reduceIte,Nat.reduceEqDiff,rg,ow_43,e5]
   apply hK;clear hK K
   rw [List.take_length] at hM
   exact W_ret (endQ_1 (by simp only [upd_eq,Nat.reduceEqDiff,↓reduceIte]<;>rfl) ⟨X,_,m,F,rfl,hM,hB,hF,by omega⟩)
theorem growG_any (d:Nat) (hd:DOk d) (ord:List Int) (sv:Value) (nl:Bool) (l:List It) (lv:Value) (w:World) (hs:SlInt w sv ord) (hsb:ord.length<=2147483647) (hl:SlI w lv l) (hbig:l.length<=4294967294) :
  CallK Try.prog 43 #[mkV sv d nl,lv] w fun v w'=>Ext noF w w'/\∃ B m F,v=ptr m/\TreeAt B ord w' m (degOf d) 1 (treeG ord l) F/\w.heap.size<=m/\∀ y o,F y o->w.heap.size<=y :=
 CallK_mono (growG_low d hd ord sv nl l lv w hs hsb hl hbig) fun _ _ ⟨X,B,m,F,h1,h2,h3,h4,_⟩=>⟨X,B,m,F,h1,h2,h3,h4⟩
def fV:Option It->Value
 | some y=>.agg #[.int .i64 y.1,.int .i64 y.2,.bool true]
 | none=>.agg #[.int .i64 0,.int .i64 0,.bool false]
theorem sl_hi {w:World} {lv:Value} {l:List It} (hl:SlI w lv l) (i:Nat) (hi:i<=l.length):∃ sv,sliceV Try.prog 25 lv none (some (.int .i64 (i:Nat))) none=some sv/\SlV w 2 sv i (flat E (l.take i)):=by
 have hlen:(flat E (l.take i)).length=i*2:=by rw [flat_length,List.length_take,E_sz];congr 1;omega
 rcases hl.2 with ⟨rfl,h⟩ | ⟨b,o,cap,rfl,hc,row,hw⟩
 ·have h0:i=0:=by omega
  exact ⟨.slice none 0 0,by rw [slc_sl,sl_25,slcX_nil _ _ _ h0],hlen,.inl ⟨rfl,h0⟩⟩
 ·exact ⟨_,by rw [slc_sl,sl_25,slcX_hi _ _ _ _ _ _ _ (by omega:i<=cap)],hlen,.inr ⟨b,o,cap,rfl,by omega,by rw [<-flat_take];exact row.take _,hw⟩⟩
def exL:List It:=[(5,1),(3,2),(9,3),(3,4),(1,5),(7,6),(8,7)]
theorem bs_ex:bsV Try.prog 25 7 [(0,iV (5,1)),(1,iV (3,2)),(2,iV (9,3)),(3,iV (3,4)),(4,iV (1,5)),(5,iV (7,6)),(6,iV (8,7))]=some (33,flat Ei exL):=by kernel_rfl
set_option maxHeartbeats 400000 in
set_option maxRecDepth 8000 in
theorem exItems_any (w:World):CallK Try.prog 20 #[] w fun v w'=>SlI w' v exL/\Ext noF w w':=by
 refine calls_of_W (args:=[]) [.tmp 0] Try.func20 rfl Try.ntmps20 Try.results20 (by simp) fun e he=>?_
 clear he
 refine W_sq fun K hK=>(W_text [true] (by kernel_rfl) ?_);simp only [↓zZ1,↓reduceIte,Nat.reduceEqDiff,rg]
 apply hK;clear hK K
 refine W_sq fun K hK=>(W_text [true,true,true,true,true,true,true,false,true] (by kernel_rfl) ?_);simp only [↓zZ1,↓reduceIte,Nat.reduceEqDiff,rg,bu_item]
 refine do_bsl rfl bs_ex fun w1 n1=>⟨trivial,?_⟩
 simp only [↓zZ1,↓reduceIte,Nat.reduceEqDiff,rg]
 apply hK;clear hK K
 exact W_ret (endQ_1 (by simp only [upd_eq,Nat.reduceEqDiff,↓reduceIte]<;>rfl) ⟨⟨rfl,.inr ⟨_,0,7,rfl,Nat.le_refl _,n1.row,n1.wok.R (Nat.le_refl _)⟩⟩,n1.ext⟩)
set_option maxHeartbeats 400000 in
set_option maxRecDepth 8000 in
theorem fits_any (d:Int) (w:World):CallK Try.prog 23 #[.int .i64 d] w fun v w'=>v = .bool (decide (d=0) || (decide (2<=d) && decide (d<=128)))/\w=w':=by
 refine calls_of_W [.tmp 2] Try.func23 rfl Try.ntmps23 Try.results23 (by simp) fun e he=>?_
 have e0:e 0 = .int .i64 d:=he 0 _ rfl
 clear he
 refine W_sq fun K hK=>(W_text [true] (by kernel_rfl) ?_);simp only [↓zZ1,↓reduceIte,Nat.reduceEqDiff,rg,ow_23]
 apply hK;clear hK K
 by_cases h0:d=0
 ·have t1:(d == 0)=true:=by simp [h0]
  refine W_sq fun K hK=>(W_text [true,true,true,true,true,true,true,true,true,true,true] (by kernel_rfl) ?_);simp only [↓zZ1,↓reduceIte,Nat.reduceEqDiff,rg,ow_23,e0,t1]
  apply hK;clear hK K
  exact W_ret (endQ_1 (by simp only [upd_eq,Nat.reduceEqDiff,↓reduceIte]<;>rfl) ⟨by simp [h0],rfl⟩)
 ·have t1:(d == 0)=false:=by simp [h0]
  by_cases h2:2<=d
  ·have t2:decide (2<=d)=true:=by simp [h2]
   refine W_sq fun K hK=>(W_text [true,true,true,true,true,true,true,true,true,true,true] (by kernel_rfl) ?_);simp only [↓zZ1,↓reduceIte,Nat.reduceEqDiff,rg,ow_23,e0,t1,t2]
   apply hK;clear hK K
   exact W_ret (endQ_1 (by simp only [upd_eq,Nat.reduceEqDiff,↓reduceIte]<;>rfl) ⟨by simp [h0,h2],rfl⟩)
  ·have t2:decide (2<=d)=false:=by simp;omega
   refine W_sq fun K hK=>(W_text [true,true,true,true,true,true,true,true,true,true,true] (by kernel_rfl) ?_);simp only [↓zZ1,↓reduceIte,Nat.reduceEqDiff,rg,ow_23,e0,t1,t2]
   apply hK;clear hK K
   exact W_ret (endQ_1 (by simp only [upd_eq,Nat.reduceEqDiff,↓reduceIte]<;>rfl) ⟨by simp [h0,h2],rfl⟩)
theorem bu_itemK (a:Int):buildV Try.prog 33 [(0,.int .i64 a)]=some (iV (a,0)):=by kernel_rfl
def nilS:Value:=.slice none 0 0
theorem nil_int (w:World):SlInt w nilS []:=⟨rfl,.inl ⟨rfl,rfl⟩⟩
theorem z_make:zK Try.prog 24=some [.slice none 0 0,.int .i64 0,.bool false]:=by kernel_rfl
theorem bu_exMake:buildV Try.prog 24 [(1,.int .i64 2)]=some (mkV nilS 2 false):=by kernel_rfl
theorem ld_make:ldK Try.prog 24=some (some 3):=by kernel_rfl
theorem oc_mk (a:Option Addr) (n c d:Nat) (nl:Bool):oc (mkV (.slice a n c) d nl).cells.toList:=by
 intro v hv
 have h:v ∈ ([.slice a n c,.int .i64 d,.bool nl]:List Value):=hv
 simp at h
 rcases h with rfl | rfl | rfl<;>rfl
def mkL (sv:Value) (d:Nat) (nl:Bool):List Value:=[sv,.int .i64 d,.bool nl]
theorem mk_at {w:World} {b:Nat} {sv:Value} {d:Nat} {nl:Bool} (h:Row w b 0 (mkL sv d nl)):rdA w b 0 3=some (mkV sv d nl):=h.rdA 3 (Nat.le_refl _)
set_option maxHeartbeats 400000 in
set_option maxRecDepth 8000 in
theorem exMake_any (w:World):CallK Try.prog 19 #[] w fun v w'=>v=mkV nilS 2 false/\Ext noF w w':=by
 refine calls_of_W (args:=[]) [.cell 0 24] Try.func19 rfl Try.ntmps19 Try.results19 (by simp) fun e he=>?_
 clear he
 refine W_sq fun K hK=>(W_text [false] (by kernel_rfl) ?_);simp only [↓zZ1,↓reduceIte,Nat.reduceEqDiff,rg,ow_19]
 refine do_alloc z_make fun w1 n1=>⟨trivial,?_⟩
 simp only [↓zZ1,↓reduceIte,Nat.reduceEqDiff,rg,ow_19]
 apply hK;clear hK K
 refine W_sq fun K hK=>(W_text [true,false] (by kernel_rfl) ?_);simp only [↓zZ1,↓reduceIte,Nat.reduceEqDiff,rg,ow_19,bu_exMake]
 refine do_store (by simp only [zZ2,Nat.reduceEqDiff,↓reduceIte,zZ3]<;>rfl) (by simp only [zZ2,Nat.reduceEqDiff,↓reduceIte,zZ3]<;>rfl) sz_24 rfl n1.wok (by decide) (oc_mk _ _ _ _ _) fun w2 x2 r2 s2=>⟨trivial,?_⟩
 simp only [↓zZ1,↓reduceIte,Nat.reduceEqDiff,rg,ow_19]
 apply hK;clear hK K
 exact W_ret (endQ_c (by simp only [upd_eq,Nat.reduceEqDiff,↓reduceIte]<;>rfl) ld_make (mk_at (show Row w2 w.heap.size 0 (mkL nilS 2 false) from r2)) ⟨rfl,noF_of n1.ext x2 fun y o hy g=>by simp only [rng] at g;omega⟩)
def En:Enc Int where
 cel x:=[.int .i64 x]
 sz:=1
 len _:=rfl
 one x v hv:=by simp at hv;subst hv;rfl
 pos:=by decide
def Ef:Enc (It × Bool) where
 cel x:=[.int .i64 x.1.1,.int .i64 x.1.2,.bool x.2]
 sz:=3
 len _:=rfl
 one x v hv:=by simp at hv;rcases hv with rfl | rfl | rfl<;>rfl
 pos:=by decide
def foV (x:It × Bool):Value:=.agg #[.int .i64 x.1.1,.int .i64 x.1.2,.bool x.2]
end Go.Proofs.Ytbnnkcofnmipoaa
namespace Go.Proofs.Ytbnnkcofnmipoaa
open Go Go.Proofs Go.ChangeShapes Go.WideShapes Go.ChangeAt Go.RowKit
theorem own:ownKnob Try.prog.godebug=none:=by kernel_rfl
theorem laidOut:laidOutB Try.prog=true:=by kernel_rfl
set_option maxRecDepth 100000
section
variable {H:Type} {enc:TypeId × Value->H}
end
end Go.Proofs.Ytbnnkcofnmipoaa
namespace Go.Proofs.Ytbnnkcofnmipoaa
section
variable {α:Type} (le:α->α->Prop)
def Heap (l:List α):Prop:=∀ j x y,0<j->l[(j-1) / 2]? = some x->l[j]? = some y->le x y
def HeapEx (l:List α) (i:Nat):Prop :=
 (∀ j x y,0<j->(j-1) / 2 ≠ i->l[(j-1) / 2]? = some x->l[j]? = some y->le x y) ∧
 (∀ j x y,0<j->0<i->(j-1) / 2=i->l[(i-1) / 2]? = some x->l[j]? = some y->le x y)
def swp2 (l:List α) (i c:Nat) (x y:α):List α:=(l.set i y).set c x
variable {le}
theorem Heap.min {l:List α} (hr:∀ a,le a a) (ht:∀ a b c,le a b->le b c->le a c) (h:Heap le l) {x:α} (h0:l[0]? = some x):∀ (j:Nat) (y:α),l[j]? = some y->le x y:=by
 intro j
 induction j using Nat.strongRecOn with
 | ind j ih =>
  intro y hy
  by_cases hj:j=0
  ·subst hj;rw [h0] at hy;cases hy;exact hr x
  ·have hlt:=(List.getElem?_eq_some_iff.1 hy).1
   obtain ⟨p,hp⟩:∃ p,l[(j-1) / 2]? = some p:=⟨_,List.getElem?_eq_getElem (by omega)⟩
   exact ht _ _ _ (ih _ (by omega) p hp) (h j p y (by omega) hp hy)
theorem HeapEx.done {l:List α} {i:Nat} (h:HeapEx le l i) (hl:∀ x y,l[i]? = some x->l[2*i+1]? = some y->le x y) (hr:∀ x y,l[i]? = some x->l[2*i+2]? = some y->le x y):Heap le l:=by
 intro j x y hj hx hy
 by_cases hp:(j-1) / 2=i
 ·have:j=2*i+1\/j=2*i+2:=by omega
  rw [hp] at hx
  rcases this with rfl | rfl
  ·exact hl x y hx hy
  ·exact hr x y hx hy
 ·exact h.1 j x y hj hp hx hy
theorem swp2_get {l:List α} {i c:Nat} {x y:α} (hx:l[i]? = some x) (hy:l[c]? = some y) (j:Nat):(swp2 l i c x y)[j]? = if j=c then some x else if j=i then some y else l[j]?:=by
 have h1:=(List.getElem?_eq_some_iff.1 hx).1
 have h2:=(List.getElem?_eq_some_iff.1 hy).1
 unfold swp2
 rw [List.getElem?_set,List.getElem?_set,List.length_set]
 by_cases hc:c=j
 ·subst hc;simp [h2]
 ·by_cases hi:i=j
  ·subst hi;rw [if_neg hc,if_pos rfl,if_pos h1,if_neg (Ne.symm hc),if_pos rfl]
  ·rw [if_neg hc,if_neg hi,if_neg (Ne.symm hc),if_neg (Ne.symm hi)]
theorem HeapEx.step {l:List α} {i c:Nat} {x y:α} (h:HeapEx le l i) (hc:c=2*i+1\/c=2*i+2) (hx:l[i]? = some x) (hy:l[c]? = some y) (hxy:le y x)
  (ho:∀ j z,j=2*i+1\/j=2*i+2->l[j]? = some z->le y z):HeapEx le (swp2 l i c x y) c:=by
 have g:=swp2_get hx hy
 refine ⟨fun j a b hj hp ha hb=>?_,fun j a b hj hc0 hp ha hb=>?_⟩
 ·rw [g] at ha hb
  rw [if_neg hp] at ha
  by_cases hpi:(j-1) / 2=i
  ·rw [if_pos hpi] at ha;cases ha
   by_cases hjc:j=c
   ·rw [if_pos hjc] at hb;cases hb;exact hxy
   ·rw [if_neg hjc,if_neg (by omega)] at hb
    exact ho j b (by omega) hb
  ·rw [if_neg hpi] at ha
   by_cases hjc:j=c
   ·omega
   ·rw [if_neg hjc] at hb
    by_cases hji:j=i
    ·rw [if_pos hji] at hb;cases hb
     subst hji
     exact h.2 c a y (by omega) hj (by omega) ha hy
    ·rw [if_neg hji] at hb
     exact h.1 j a b hj hpi ha hb
 ·rw [g] at ha hb
  rw [if_neg (by omega),if_pos (by omega)] at ha;cases ha
  rw [if_neg (by omega),if_neg (by omega)] at hb
  exact h.1 j y b hj (by omega) (by rw [hp];exact hy) hb
theorem swp2_perm {l:List α} {i c:Nat} {x y:α} (hx:l[i]? = some x) (hy:l[c]? = some y) (hne:i ≠ c):(swp2 l i c x y).Perm l:=by
 have key:∀ {l:List α} {i c:Nat} {x y:α},l[i]? = some x->l[c]? = some y->i<c->((l.set i y).set c x).Perm l:=by
  intro l i c x y hx hy hlt
  have h1:=List.getElem?_eq_some_iff.1 hx
  have h2:=List.getElem?_eq_some_iff.1 hy
  have h1l:=h1.1
  have h2l:=h2.1
  have e:l=l.take i++x::(l.drop (i+1)):=by
   rw [<-h1.2,<-List.drop_eq_getElem_cons h1.1,List.take_append_drop]
  obtain ⟨A,B,hA,rfl⟩:∃ A B,A.length=i/\l=A++x::B:=⟨_,_,by rw [List.length_take];omega,e⟩
  subst hA
  have hB:B[c-A.length-1]? = some y:=by
   rw [List.getElem?_append_right (by omega)] at hy
   rw [show c-A.length=(c-A.length-1)+1 by omega,List.getElem?_cons_succ] at hy
   exact hy
  have h3:=List.getElem?_eq_some_iff.1 hB
  have h3l:=h3.1
  have e2:B=B.take (c-A.length-1)++y::B.drop (c-A.length-1+1):=by
   conv=>lhs;rw [<-List.take_append_drop (c-A.length-1) B,List.drop_eq_getElem_cons h3.1,h3.2]
  obtain ⟨C,D,hC,rfl⟩:∃ C D,C.length=c-A.length-1/\B=C++y::D:=⟨_,_,by rw [List.length_take];omega,e2⟩
  have s1:(A++x::(C++y::D)).set A.length y=A++y::(C++y::D):=by
   rw [List.set_append_right _ _ (Nat.le_refl _)];simp
  have s2:(A++y::(C++y::D)).set c x=A++y::(C++x::D):=by
   rw [List.set_append_right _ _ (by omega),show c-A.length=C.length+1 by omega,List.set_cons_succ,List.set_append_right _ _ (Nat.le_refl _)];simp
  rw [s1,s2]
  refine List.Perm.append_left A ?_
  have p1:(y::(C++x::D)).Perm (y::x::(C++D)):=List.Perm.cons _ List.perm_middle
  have p2:(x::(C++y::D)).Perm (x::y::(C++D)):=List.Perm.cons _ List.perm_middle
  exact p1.trans ((List.Perm.swap x y _).trans p2.symm)
 rcases Nat.lt_or_gt_of_ne hne with h | h
 ·exact key hx hy h
 ·unfold swp2
  rw [List.set_comm _ _ hne]
  exact key hy hx h
theorem Heap.pop {l:List α} {z:α} (h:Heap le (l++[z])):HeapEx le (l.set 0 z) 0:=by
 refine ⟨fun j x y hj hp hx hy=>?_,fun j x y hj h0=>by omega⟩
 rw [List.getElem?_set_ne (by omega)] at hx
 rw [List.getElem?_set_ne (by omega)] at hy
 have h1:=(List.getElem?_eq_some_iff.1 hx).1
 have h2:=(List.getElem?_eq_some_iff.1 hy).1
 exact h j x y hj (by rw [List.getElem?_append_left h1];exact hx) (by rw [List.getElem?_append_left h2];exact hy)
theorem pop_perm {l:List α} {x z:α} (hx:(l++[z])[0]? = some x):(l++[z]).Perm (x::l.set 0 z):=by
 cases l with
 | nil=>simp at hx;subst hx;simp
 | cons a l =>
  simp at hx;subst hx
  simp only [List.cons_append,List.set_cons_zero]
  refine List.Perm.cons _ ?_
  exact List.perm_append_singleton z l
def HeapUp (le:α->α->Prop) (l:List α) (i:Nat):Prop :=
 (∀ j x y,0<j->j ≠ i->l[(j-1) / 2]? = some x->l[j]? = some y->le x y) ∧
 (∀ j x y,0<i->0<j->(j-1) / 2=i->l[(i-1) / 2]? = some x->l[j]? = some y->le x y)
theorem Heap.push {l:List α} (h:Heap le l) (z:α):HeapUp le (l++[z]) l.length:=by
 refine ⟨fun j x y hj hne hx hy=>?_,fun j x y h0 hj hp hx hy=>?_⟩
 ·have h2:=(List.getElem?_eq_some_iff.1 hy).1
  rw [List.length_append,List.length_singleton] at h2
  rw [List.getElem?_append_left (by omega)] at hx hy
  exact h j x y hj hx hy
 ·have h2:=(List.getElem?_eq_some_iff.1 hy).1
  rw [List.length_append,List.length_singleton] at h2
  omega
theorem HeapUp.done {l:List α} {i:Nat} (h:HeapUp le l i) (hl:∀ x y,0<i->l[(i-1) / 2]? = some x->l[i]? = some y->le x y):Heap le l:=by
 intro j x y hj hx hy
 by_cases hji:j=i
 ·subst hji;exact hl x y hj hx hy
 ·exact h.1 j x y hj hji hx hy
theorem HeapUp.step {l:List α} {i:Nat} {x y:α} (ht:∀ a b c,le a b->le b c->le a c) (h:HeapUp le l i) (h0:0<i) (hx:l[i]? = some x) (hy:l[(i-1) / 2]? = some y) (hxy:le x y):HeapUp le (swp2 l i ((i-1) / 2) x y) ((i-1) / 2):=by
 have g:=swp2_get hx hy
 refine ⟨fun j a b hj hp ha hb=>?_,fun j a b hp0 hj hp ha hb=>?_⟩
 ·rw [g] at ha hb
  rw [if_neg hp] at hb
  by_cases hpi:(j-1) / 2=(i-1) / 2
  ·rw [if_pos hpi] at ha;cases ha
   by_cases hji:j=i
   ·rw [if_pos hji] at hb;cases hb;exact hxy
   ·rw [if_neg hji] at hb
    exact ht _ _ _ hxy (h.1 j y b hj hji (by rw [hpi];exact hy) hb)
  ·rw [if_neg hpi] at ha
   by_cases hpj:(j-1) / 2=i
   ·rw [if_pos hpj] at ha;cases ha
    rw [if_neg (by omega)] at hb
    exact h.2 j y b h0 hj hpj hy hb
   ·rw [if_neg hpj] at ha
    by_cases hji:j=i
    ·subst hji;exact absurd rfl hpi
    ·rw [if_neg hji] at hb
     exact h.1 j a b hj hji ha hb
 ·rw [g] at ha hb
  rw [if_neg (by omega),if_neg (by omega)] at ha
  rw [if_neg (by omega)] at hb
  have h1:=h.1 ((i-1) / 2) a y hp0 (by omega) ha hy
  by_cases hji:j=i
  ·rw [if_pos hji] at hb;cases hb;exact h1
  ·rw [if_neg hji] at hb
   exact ht _ _ _ h1 (h.1 j y b hj hji (by rw [hp];exact hy) hb)
end
end Go.Proofs.Ytbnnkcofnmipoaa
namespace Go.Proofs.Ytbnnkcofnmipoaa
open Go Go.Proofs
structure HintAt (w:World) (hb:Nat):Prop where
 wok:wok w hb 16
 used:∀ i,i<8->∃ u:Bool,rd w hb i=some (.bool u)
 path:∀ i,i<8->∃ p:Nat,p<256/\rd w hb (8+i)=some (.int .u8 p)
theorem HintAt.ext {w w':World} {G:Nat->Nat->Prop} {hb:Nat} (h:HintAt w hb) (x:Ext G w w') (hG:∀ o,¬ G hb o):HintAt w' hb :=
 ⟨x.wok h.wok,fun i hi=>(h.used i hi).imp fun _ g=>x.rd g (hG _),fun i hi=>(h.path i hi).imp fun _ g=>⟨g.1,x.rd g.2 (hG _)⟩⟩
theorem HintAt.setU {w w':World} {hb i:Nat} {u:Bool} (h:HintAt w hb) (x:Ext (rng hb i 1) w w') (r:rd w' hb i=some (.bool u)) (hi:i<8):HintAt w' hb :=
 ⟨x.wok h.wok,fun j hj=>by
  by_cases hij:j=i
  ·subst hij;exact ⟨u,r⟩
  ·exact (h.used j hj).imp fun _ g=>x.rd g (by simp only [rng];omega),fun j hj=>(h.path j hj).imp fun _ g=>⟨g.1,x.rd g.2 (by simp only [rng];omega)⟩⟩
theorem HintAt.setP {w w':World} {hb i p:Nat} (h:HintAt w hb) (x:Ext (rng hb (8+i) 1) w w') (r:rd w' hb (8+i)=some (.int .u8 p)) (hp:p<256):HintAt w' hb :=
 ⟨x.wok h.wok,fun j hj=>(h.used j hj).imp fun _ g=>x.rd g (by simp only [rng];omega),fun j hj=>by
  by_cases hij:j=i
  ·subst hij;exact ⟨p,hp,r⟩
  ·exact (h.path j hj).imp fun _ g=>⟨g.1,x.rd g.2 (by simp only [rng];omega)⟩⟩
def hF (hp:Option Nat):Nat->Nat->Prop:=fun y _=>hp=some y
def hV (hp:Option Nat):Value:=.pointer (hp.map fun b=>⟨b,0,none⟩)
theorem hV_none:hV none = .pointer none:=id (Eq.trans rfl rfl)
theorem hV_some (b:Nat):hV (some b)=ptr b:=id (Eq.trans rfl rfl)
def HOk (hp:Option Nat) (w:World):Prop:=∀ hb,hp=some hb->HintAt w hb
theorem HOk.ext {w w':World} {G:Nat->Nat->Prop} {hp:Option Nat} (h:HOk hp w) (x:Ext G w w') (hG:∀ hb,hp=some hb->∀ o,¬ G hb o):HOk hp w':=fun hb e=>(h hb e).ext x (hG hb e)
theorem HOk.ext0 {w w':World} {hp:Option Nat} (h:HOk hp w) (x:Ext noF w w'):HOk hp w':=h.ext x fun _ _ _ g=>g
theorem HOk.none (w:World):HOk none w:=fun _ h=>by cases h
theorem u8_of (n:Int):∃ p:Nat,IntKind.u8.wrap n=p/\p<256:=by
 have h1:0<=IntKind.u8.wrap n:=by rw [IntKind.wrap_u8];omega
 have h2:IntKind.u8.wrap n<256:=by rw [IntKind.wrap_u8];omega
 exact ⟨(IntKind.u8.wrap n).toNat,by omega,by omega⟩
set_option maxHeartbeats 400000 in
set_option maxRecDepth 8000 in
theorem less_any (B m:Nat) (ord:List Int) (a b:It) (w:World) (hL:Ls B m w ord) :
  CallK Try.prog 138 #[ptr m,itV a,itV b] w fun v w'=>v = .bool (O.lt (rkI ord a) (rkI ord b))/\Ext noF w w':=by
 refine calls_of_W [.tmp 6] Try.func138 rfl Try.ntmps138 Try.results138 (by simp) fun e he=>?_
 have e0:e 0=ptr m:=he 0 _ rfl
 have e1:e 1=itV a:=he 1 _ rfl
 have e2:e 2=itV b:=he 2 _ rfl
 clear he
 refine W_sq fun K hK=>(W_text [false,false,true] (by kernel_rfl) ?_);simp only [↓zZ1,↓reduceIte,Nat.reduceEqDiff,rg,ow_138]
 refine do_box (by simp only [evt];exact e1) fun w1 n1=>⟨trivial,?_⟩
 simp only [↓zZ1,↓reduceIte,Nat.reduceEqDiff,rg,ow_138]
 refine do_box (by simp only [evt,upd_eq,Nat.reduceEqDiff,↓reduceIte];exact e2) fun w2 n2=>⟨trivial,?_⟩
 simp only [↓zZ1,↓reduceIte,Nat.reduceEqDiff,rg,ow_138]
 apply hK;clear hK K
 have s1:=n1.size
 have X2:Ext noF w w2:=n1.ext.tr n2.ext
 have ra:=iX_at (n2.ext.row (show Row w1 w.heap.size 0 (E.cel a) from n1.row) fun _ _ h=>h)
 have rb:=iX_at (show Row w2 w1.heap.size 0 (E.cel b) from n2.row)
 obtain ⟨lv,hlv,hless,hBm⟩:=id (hL.ext0 X2)
 have A1:=in1 m w.heap.size w1.heap.size w.heap.size
 have A2:=in2 m w.heap.size w1.heap.size w.heap.size
 have A3:=in3 m w.heap.size w1.heap.size w.heap.size
 have hml:=rd_lt hlv
 have s2:=n2.size
 refine W_sq fun K hK=>(W_draw (some (some [m,w.heap.size,w1.heap.size,w.heap.size])) none [(0,0,0),(0,1,0),(0,2,0),(0,3,0),(0,4,0),(0,5,0),(1,6,0),(0,7,0)] mixed (by kernel_rfl) ?_);simp only [↓zZ1,↓reduceIte,Nat.reduceEqDiff,rg,ow_138,e0,ptr_eq,hlv,ra,rb,A1,A2,A3]
 refine do_callW (by simp only [zZ2,Nat.reduceEqDiff,↓reduceIte,zZ3]<;>rfl) (by simp only [zZ2,Nat.reduceEqDiff,↓reduceIte,zZ4]<;>rfl) (before_any B lv ord a b _ (hless.ext (Ext.dr noF _ _) fun _ _ g=>g.elim)) ?_
 rintro _ w3 ⟨rfl,x3⟩
 refine ⟨.inr (keep4 x3 ⟨by rw [sz_dr];omega,fun _ g=>g⟩ ⟨by rw [sz_dr];omega,fun _ g=>g⟩ ⟨by rw [sz_dr];omega,fun _ g=>g⟩ ⟨by rw [sz_dr];omega,fun _ g=>g⟩),?_⟩
 simp only [↓zZ1,↓reduceIte,Nat.reduceEqDiff,rg,ow_138]
 apply hK;clear hK K
 exact W_ret (endQ_1 (by simp only [upd_eq,Nat.reduceEqDiff,↓reduceIte]<;>rfl) ⟨rfl,X2.tr x3.od⟩)
set_option maxHeartbeats 400000 in
theorem hi_sub (hi:Nat) (h:hi<4611686018427387904):IntKind.i64.wrap ((hi:Int)-1)=(hi:Int)-1:=IntWalk.i64_in _ (by omega)
theorem hi_add (hi:Nat) (h:hi<4611686018427387904):IntKind.i64.wrap ((hi:Int)-1+1)=(hi:Int):=by rw [IntWalk.i64_in _ (by omega)];omega
theorem u8_i64 (p:Nat) (h:p<256):IntKind.i64.wrap (p:Int)=p:=IntWalk.i64_in _ (by omega)
set_option maxHeartbeats 1600000 in
set_option maxRecDepth 8000 in
theorem hint_any (B m b bi oi cap:Nat) (ord:List Int) (ks:List It) (x:It) (ch:Option Addr) (hb dep:Nat) (w:World) (hL:Ls B m w ord) (h2:rd w b 2=some (.slice (some ⟨bi,oi,none⟩) ks.length cap)) (h3:rd w b 3=some (.pointer ch))
  (row:Row w bi oi (flat E ks)) (hbi:bi<w.heap.size) (hlen:ks.length<4611686018427387904) (hpos:0<ks.length) (ha:Asc O (rkI ord) ks) (hH:HintAt w hb) (hne:hb ≠ b) :
  CallK Try.prog 129 #[ptr m,ptr b,itV x,ptr hb,.int .i64 dep] w fun v w'=>v=srchG ord ks x/\Ext (hF (some hb)) w w'/\HintAt w' hb:=by
 refine calls_of_W [.tmp 10,.tmp 11] Try.func129 rfl Try.ntmps129 Try.results129 (by simp) fun e he=>?_
 have e0:e 0=ptr m:=he 0 _ rfl
 have e1:e 1=ptr b:=he 1 _ rfl
 have e2:e 2=itV x:=he 2 _ rfl
 have e3:e 3=ptr hb:=he 3 _ rfl
 have e4:e 4 = .int .i64 dep:=he 4 _ rfl
 clear he
 refine W_sq fun K hK=>(W_text [false,true,true] (by kernel_rfl) ?_);simp only [↓zZ1,↓reduceIte,Nat.reduceEqDiff,rg,ow_129]
 refine do_box (by simp only [evt];exact e2) fun w1 n1=>⟨trivial,?_⟩
 simp only [↓zZ1,↓reduceIte,Nat.reduceEqDiff,rg,ow_129]
 apply hK;clear hK K
 have s1:=n1.size
 have bx1:Row w1 w.heap.size 0 (E.cel x):=n1.row
 have h2:=n1.ext.rd h2 fun g=>g
 have h3:=n1.ext.rd h3 fun g=>g
 have row:=n1.ext.row row fun _ _ g=>g
 have hL:=hL.ext0 n1.ext
 have hbl:=rd_lt h2
 have hH:=hH.ext n1.ext fun _ g=>g
 have hhl:=wok_lt hH.wok
 have X1:=n1.ext
 clear n1
 obtain ⟨q,hq⟩:∃ q,q=w.heap.size:=⟨_,rfl⟩
 rw [<-hq] at bx1 s1 ⊢
 obtain ⟨-,-,-,hBm⟩:=id hL
 have hml:m<w1.heap.size:=by obtain ⟨lv,hlv,-⟩:=id hL;exact rd_lt hlv
 refine W_fwd 0 (fun e w'=>Ext noF w1 w'/\e 1=ptr b/\e 3=ptr hb/\e 4 = .int .i64 dep/\e 10 = .int .i64 (lb O (rkI ord) (rkI ord x) ks:Nat)/\e 11 = .bool (hit O (rkI ord) (rkI ord x) ks)) rfl ?_ ?_
 ·clear e0 e1 e2 e3 e4 e
  rintro e w' ⟨XW,e1,e3,e4,e10,e11⟩
  have XX:Ext noF w w':=X1.tr XW
  have hH':=hH.ext XW fun _ g=>g
  have h3':=XW.rd h3 fun g=>g
  have h2':=XW.rd h2 fun g=>g
  have hn0:∀ o,¬ rng hb o 1 b 3:=fun o g=>hne g.1.symm
  refine W_sqx fun K hK=>?_
  have hend:∀ (e:Env) (w2:World),e 10 = .int .i64 (lb O (rkI ord) (rkI ord x) ks:Nat)->e 11 = .bool (hit O (rkI ord) (rkI ord x) ks)->Ext (hF (some hb)) w w2->HintAt w2 hb->K e w2:=by
   intro e w2 e10 e11 X H
   apply hK;clear hK K
   refine W_sq fun K hK=>(W_text [true,true,true,true] (by kernel_rfl) ?_);simp only [↓zZ1,↓reduceIte,Nat.reduceEqDiff,rg,ow_129,e10,e11]
   apply hK;clear hK K
   refine W_ret ?_
   rw [jump_ret]
   exact endQ_2 rfl rfl ⟨rfl,X.tr (Ext.dr _ _ _),H.ext (Ext.dr noF _ _) fun _ g=>g⟩
  clear hK
  have XH:Ext (hF (some hb)) w w':=XX.mono fun _ _ _ g=>g.elim
  by_cases hd:dep<8
  ·have td:decide ((dep:Int)<8)=true:=by simp;omega
   refine W_sq fun K hK=>(W_text [true,true] (by kernel_rfl) ?_);simp only [↓zZ1,↓reduceIte,Nat.reduceEqDiff,rg,ow_129,e4,td]
   apply hK;clear hK K
   refine W_true (by simp only [zZ2,Nat.reduceEqDiff,↓reduceIte,zZ3]<;>rfl) ?_
   refine W_sq fun K hK=>(W_text [true,true,true,true,true,false] (by kernel_rfl) ?_);simp only [↓zZ1,↓reduceIte,Nat.reduceEqDiff,rg,ow_129,e3,e4,ptr_eq,idx_ar,idxA_s,hd]
   refine do_store (v:=.bool true) (by simp only [zZ2,Nat.reduceEqDiff,↓reduceIte,zZ3]<;>rfl) (by simp only [zZ2,Nat.reduceEqDiff,↓reduceIte,zZ3]<;>rfl) sz_4 rfl hH'.wok (by omega) (oc_one rfl rfl) fun w2 x2 r2 s2=>⟨trivial,?_⟩
   simp only [↓zZ1,↓reduceIte,Nat.reduceEqDiff,rg,ow_129]
   apply hK;clear hK K
   have hH2:=hH'.setU x2 (Row.cons.1 r2).1 hd
   have XH2:=XH.trans x2 (fun _ _ g=>g) fun y o _ g=>(show hF (some hb) y o from by rw [g.1];rfl)
   have h3'':rd w2 b 3=some (.pointer ch):=x2.rd h3' fun g=>hne g.1.symm
   refine W_sq fun K hK=>(W_text [true] (by kernel_rfl) ?_);simp only [↓zZ1,↓reduceIte,Nat.reduceEqDiff,rg,ow_129]
   apply hK;clear hK K
   refine W_sqx fun K hK=>?_
   have hst:∀ (e:Env) (k p:Nat),p<256->e 3=ptr hb->e 4 = .int .i64 dep->e 10 = .int .i64 (lb O (rkI ord) (rkI ord x) ks:Nat)->e 11 = .bool (hit O (rkI ord) (rkI ord x) ks)->e 15 = .int .u8 p->K e (dr w2 k):=by
    intro e k p hp e3 e4 e10 e11 e15
    apply hK;clear hK K
    obtain ⟨p0,hp0,hr0⟩:=hH2.path dep hd
    by_cases hpe:p=p0
    ·have tp:((p:Int) != (p0:Int))=false:=by simp;omega
     refine W_sq fun K hK=>(W_text [true,true,true,true,true,true,true,true] (by kernel_rfl) ?_);simp only [↓zZ1,↓reduceIte,Nat.reduceEqDiff,rg,ow_129,e3,e4,e15,ptr_eq,idx_ar,idxA_s,hd,hr0,tp]
     apply hK;clear hK K
     refine W_false (by simp only [zZ2,Nat.reduceEqDiff,↓reduceIte,zZ3]<;>rfl) (W_skip ?_)
     simp only [andThen_normal]
     exact hend _ _ e10 e11 (XH2.tr (Ext.dr _ _ _)) (hH2.ext (Ext.dr noF _ _) fun _ g=>g)
    ·have tp:((p:Int) != (p0:Int))=true:=by simp;omega
     refine W_sq fun K hK=>(W_text [true,true,true,true,true,true,true,true] (by kernel_rfl) ?_);simp only [↓zZ1,↓reduceIte,Nat.reduceEqDiff,rg,ow_129,e3,e4,e15,ptr_eq,idx_ar,idxA_s,hd,hr0,tp]
     apply hK;clear hK K
     refine W_true (by simp only [zZ2,Nat.reduceEqDiff,↓reduceIte,zZ3]<;>rfl) ?_
     refine W_sq fun K hK=>(W_text [true,true,true,true,true,true,false] (by kernel_rfl) ?_);simp only [↓zZ1,↓reduceIte,Nat.reduceEqDiff,rg,ow_129,e3,e4,e15,ptr_eq,idx_ar,idxA_s,hd]
     refine do_store (v:=.int .u8 p) (by simp only [zZ2,Nat.reduceEqDiff,↓reduceIte,zZ3]<;>rfl) (by simp only [zZ2,Nat.reduceEqDiff,↓reduceIte,zZ3]<;>rfl) sz_5 rfl hH2.wok (by omega) (oc_one rfl rfl) fun w3 x3 r3 s3=>⟨trivial,?_⟩
     simp only [↓zZ1,↓reduceIte,Nat.reduceEqDiff,rg,ow_129]
     apply hK;clear hK K
     have hH3:=hH2.setP x3.od (Row.cons.1 r3).1 hp
     have XH3:=XH2.trans x3.od (fun _ _ g=>g) fun y o _ g=>(show hF (some hb) y o from by rw [g.1];rfl)
     have q1:=wadd1 dep (by omega)
     refine W_sq fun K hK=>(W_text [true,true,true] (by kernel_rfl) ?_);simp only [↓zZ1,↓reduceIte,Nat.reduceEqDiff,rg,ow_129,e4,q1]
     apply hK;clear hK K
     refine W_block (W_loop (fun mm e w'=>∃ i:Nat,mm=8-i/\e 3=ptr hb/\e 10 = .int .i64 (lb O (rkI ord) (rkI ord x) ks:Nat)/\e 11 = .bool (hit O (rkI ord) (rkI ord x) ks)/\e 16 = .int .i64 i/\Ext (hF (some hb)) w w'/\HintAt w' hb)
      (8-(dep+1)) ⟨dep+1,rfl,by simp only [upd_eq,Nat.reduceEqDiff,↓reduceIte];exact e3,by simp only [upd_eq,Nat.reduceEqDiff,↓reduceIte];exact e10,by simp only [upd_eq,Nat.reduceEqDiff,↓reduceIte];exact e11,by simp only [upd_eq,Nat.reduceEqDiff,↓reduceIte],XH3.tr (Ext.dr _ _ _),hH3.ext (Ext.dr noF _ _) fun _ g=>g⟩ ?_)
     clear e3 e4 e10 e11 e15 e XH3 hH3 XH2
     rintro mm e w' ⟨i,rfl,e3,e10,e11,e16,XL,hL'⟩
     refine W_seq ?_
     by_cases hi:i<8
     ·have ti:decide ((i:Int)<8)=true:=by simp;omega
      refine W_sq fun K hK=>(W_text [true,true] (by kernel_rfl) ?_);simp only [↓zZ1,↓reduceIte,Nat.reduceEqDiff,rg,ow_129,e16,ti]
      apply hK;clear hK K
      refine W_true (by simp only [zZ2,Nat.reduceEqDiff,↓reduceIte,zZ3]<;>rfl) (W_skip ?_)
      show W _ _ _ _ _ _
      refine W_seq (W_block ?_)
      refine W_rg fun K hK=>(W_text [true,true,true,true,true,false] (by kernel_rfl) ?_);simp only [↓zZ1,↓reduceIte,Nat.reduceEqDiff,rg,ow_129,e3,e16,ptr_eq,idx_ar,idxA_s,hi]
      refine do_store (v:=.bool false) (by simp only [zZ2,Nat.reduceEqDiff,↓reduceIte,zZ3]<;>rfl) (by simp only [zZ2,Nat.reduceEqDiff,↓reduceIte,zZ3]<;>rfl) sz_4 rfl hL'.wok (by omega) (oc_one rfl rfl) fun w4 x4 r4 s4=>⟨trivial,?_⟩
      simp only [↓zZ1,↓reduceIte,Nat.reduceEqDiff,rg,ow_129]
      apply hK;clear hK K
      show W _ _ _ _ _ _
      have q2:=wadd1 i (by omega)
      refine W_rg fun K hK=>(W_text [true,true,true] (by kernel_rfl) ?_);simp only [↓zZ1,↓reduceIte,Nat.reduceEqDiff,rg,ow_129,e16,q2]
      apply hK;clear hK K
      refine ⟨_,?_,i+1,rfl,by simp only [upd_eq,Nat.reduceEqDiff,↓reduceIte];exact e3,by simp only [upd_eq,Nat.reduceEqDiff,↓reduceIte];exact e10,by simp only [upd_eq,Nat.reduceEqDiff,↓reduceIte];exact e11,by simp only [upd_eq,Nat.reduceEqDiff,↓reduceIte],(XL.trans x4.od (fun _ _ g=>g) fun y o _ g=>(show hF (some hb) y o from by rw [g.1];rfl)).tr (Ext.dr _ _ _),(hL'.setU x4.od (Row.cons.1 r4).1 hi).ext (Ext.dr noF _ _) fun _ g=>g⟩
      omega
     ·have ti:decide ((i:Int)<8)=false:=by simp;omega
      refine W_sq fun K hK=>(W_text [true,true] (by kernel_rfl) ?_);simp only [↓zZ1,↓reduceIte,Nat.reduceEqDiff,rg,ow_129,e16,ti]
      apply hK;clear hK K
      refine W_false (by simp only [zZ2,Nat.reduceEqDiff,↓reduceIte,zZ3]<;>rfl) (W_exit ?_)
      simp only [andThen_exit,inBlk_exit,andThen_normal,↓reduceIte]
      exact hend _ _ e10 e11 (XL.tr (Ext.dr _ _ _)) (hL'.ext (Ext.dr noF _ _) fun _ g=>g)
   clear hK
   obtain ⟨p1,hp1,hp1'⟩:=u8_of (IntKind.i64.wrap ((lb O (rkI ord) (rkI ord x) ks:Nat)+1))
   obtain ⟨p2,hp2,hp2'⟩:=u8_of (lb O (rkI ord) (rkI ord x) ks:Nat)
   cases hci:ch.isNone with
   | true =>
    refine W_sq fun K hK=>(W_text [true,false,true,true,true] (by kernel_rfl) ?_);simp only [↓zZ1,↓reduceIte,Nat.reduceEqDiff,rg,ow_129,e1]
    refine do_call fn_108 (by simp only [zZ2,Nat.reduceEqDiff,↓reduceIte,zZ4]<;>rfl) (leaf_any b ch w2 h3'') ?_
    rintro _ w3 ⟨rfl,hw3⟩
    obtain rfl:w2=w3:=hw3.symm
    refine ⟨trivial,?_⟩
    cases hht:hit O (rkI ord) (rkI ord x) ks with
    | true =>
     simp only [↓zZ1,↓reduceIte,Nat.reduceEqDiff,rg,ow_129,hci,e11,hht]
     apply hK;clear hK K
     refine W_true (by simp only [zZ2,Nat.reduceEqDiff,↓reduceIte,zZ3]<;>rfl) ?_
     refine W_rg fun K hK=>(W_text [true,true,true,true] (by kernel_rfl) ?_);simp only [↓zZ1,↓reduceIte,Nat.reduceEqDiff,rg,ow_129,e10,hp1]
     apply hK;clear hK K
     simp only [andThen_normal]
     exact hst _ _ p1 hp1' e3 e4 e10 e11 rfl
    | false =>
     simp only [↓zZ1,↓reduceIte,Nat.reduceEqDiff,rg,ow_129,hci,e11,hht]
     apply hK;clear hK K
     refine W_false (by simp only [zZ2,Nat.reduceEqDiff,↓reduceIte,zZ3]<;>rfl) ?_
     refine W_rg fun K hK=>(W_text [true,true,true] (by kernel_rfl) ?_);simp only [↓zZ1,↓reduceIte,Nat.reduceEqDiff,rg,ow_129,e10,hp2]
     apply hK;clear hK K
     simp only [andThen_normal]
     exact hst _ _ p2 hp2' e3 e4 e10 e11 rfl
   | false =>
    refine W_sq fun K hK=>(W_text [true,false,true,true,true] (by kernel_rfl) ?_);simp only [↓zZ1,↓reduceIte,Nat.reduceEqDiff,rg,ow_129,e1]
    refine do_call fn_108 (by simp only [zZ2,Nat.reduceEqDiff,↓reduceIte,zZ4]<;>rfl) (leaf_any b ch w2 h3'') ?_
    rintro _ w3 ⟨rfl,hw3⟩
    obtain rfl:w2=w3:=hw3.symm
    refine ⟨trivial,?_⟩
    simp only [↓zZ1,↓reduceIte,Nat.reduceEqDiff,rg,ow_129,hci]
    apply hK;clear hK K
    refine W_false (by simp only [zZ2,Nat.reduceEqDiff,↓reduceIte,zZ3]<;>rfl) ?_
    refine W_rg fun K hK=>(W_text [true,true,true] (by kernel_rfl) ?_);simp only [↓zZ1,↓reduceIte,Nat.reduceEqDiff,rg,ow_129,e10,hp2]
    apply hK;clear hK K
    simp only [andThen_normal]
    exact hst _ _ p2 hp2' e3 e4 e10 e11 rfl
  ·have td:decide ((dep:Int)<8)=false:=by simp;omega
   refine W_sq fun K hK=>(W_text [true,true] (by kernel_rfl) ?_);simp only [↓zZ1,↓reduceIte,Nat.reduceEqDiff,rg,ow_129,e4,td]
   apply hK;clear hK K
   refine W_false (by simp only [zZ2,Nat.reduceEqDiff,↓reduceIte,zZ3]<;>rfl) (W_skip ?_)
   simp only [andThen_normal]
   exact hend _ _ e10 e11 (XH.tr (Ext.dr _ _ _)) (hH'.ext (Ext.dr noF _ _) fun _ g=>g)
 ·intro hon
  refine W_sq fun K hK=>(W_text [true] (by kernel_rfl) ?_);simp only [↓zZ1,↓reduceIte,Nat.reduceEqDiff,rg,ow_129]
  apply hK;clear hK K
  have q0:=hi_sub ks.length hlen
  refine W_sq fun K hK=>(W_text [true,true,true,true,true,true,true] (by kernel_rfl) ?_);simp only [↓zZ1,↓reduceIte,Nat.reduceEqDiff,rg,ow_129,e1,ptr_eq,h2,q0]
  apply hK;clear hK K
  refine W_sqx fun K hK=>?_
  have hloop:∀ (e:Env) (w':World) (lo hi:Nat),Ext noF w1 w'->lo<=hi->hi<=ks.length->e 0=ptr m->e 1=ptr b->e 3=ptr hb->e 4 = .int .i64 dep->e 7=ptr q->e 12 = .int .i64 lo->e 13 = .int .i64 ((hi:Int)-1) →
    (∀ i y,i<lo->ks[i]? = some y->O.lt (rkI ord x) (rkI ord y)=false)->(∀ i y,hi<=i->ks[i]? = some y->O.lt (rkI ord x) (rkI ord y)=true)->K e w':=by
   clear e0 e1 e2 e3 e4 e
   intro e w' lo hi XW hle hhi e0 e1 e3 e4 e7 e12 e13 hlo hup
   apply hK;clear hK K
   refine W_seq ?_
   refine W_block (W_loop (fun mm e w'=>Ext noF w1 w'/\∃ lo hi:Nat,mm=hi-lo/\lo<=hi/\hi<=ks.length/\e 0=ptr m/\e 1=ptr b/\e 3=ptr hb/\e 4 = .int .i64 dep/\e 7=ptr q/\e 12 = .int .i64 lo/\e 13 = .int .i64 ((hi:Int)-1) ∧
    (∀ i y,i<lo->ks[i]? = some y->O.lt (rkI ord x) (rkI ord y)=false)/\(∀ i y,hi<=i->ks[i]? = some y->O.lt (rkI ord x) (rkI ord y)=true)) (hi-lo) ⟨XW,lo,hi,rfl,hle,hhi,e0,e1,e3,e4,e7,e12,e13,hlo,hup⟩ ?_)
   clear e0 e1 e3 e4 e7 e12 e13 e XW hle hhi hlo hup w' lo hi
   rintro mm e w' ⟨XW,lo,hi,rfl,hle,hhi,e0,e1,e3,e4,e7,e12,e13,hlo,hup⟩
   have sw:=XW.size
   have h2':=XW.rd h2 fun g=>g
   have row':=XW.row row fun _ _ g=>g
   have bx':=iX_at (XW.row bx1 fun _ _ g=>g)
   have hL':=hL.ext0 XW
   refine W_seq ?_
   by_cases hlt:lo<hi
   ·have ht:decide ((lo:Int)<=(hi:Int)-1)=true:=by simp;omega
    refine W_sq fun K hK=>(W_text [true,true,true] (by kernel_rfl) ?_);simp only [↓zZ1,↓reduceIte,Nat.reduceEqDiff,rg,ow_129,e12,e13,ht]
    apply hK;clear hK K
    refine W_true (by simp only [zZ2,Nat.reduceEqDiff,↓reduceIte,zZ3]<;>rfl) (W_skip ?_)
    show W _ _ _ _ _ _
    have q1:=hi_add hi (by omega)
    have q2:=wsub hi lo hle (by omega)
    have q3:=wdiv2 (hi-lo) (by omega)
    have q4:=wadd lo ((hi-lo) / 2) (by omega)
    refine W_block ?_
    refine W_sq fun K hK=>(W_text [true,true,true,true,true,true,true,true] (by kernel_rfl) ?_);simp only [↓zZ1,↓reduceIte,Nat.reduceEqDiff,rg,ow_129,e12,e13,q1,q2,q3,q4]
    apply hK;clear hK K
    obtain ⟨md,hmd⟩:∃ md,md=lo+(hi-lo) / 2:=⟨_,rfl⟩
    rw [<-hmd]
    obtain ⟨y,hy⟩:∃ y,ks[md]? = some y:=⟨_,List.getElem?_eq_getElem (by omega)⟩
    have hk:=it_at row' hy
    have hi1:md<ks.length:=by omega
    refine W_sq fun K hK=>(W_free (some none) (.take 0 (.take 1 (.take 2 (.take 3 (.take 4 (.take 5 (.take 6 (.take 7 (.take 8 (.bar 9 (.take 10 .nil))))))))))) mixed (by kernel_rfl) ?_);simp only [↓zZ1,↓reduceIte,Nat.reduceEqDiff,rg,ow_129,e0,e1,e7,ptr_eq,h2',hi1,hk,bx']
    refine do_call fn_138 (by simp only [zZ2,Nat.reduceEqDiff,↓reduceIte,zZ4]<;>rfl) (less_any B m ord x y _ (hL'.ext0 (Ext.dr noF _ _))) ?_
    rintro _ w2 ⟨rfl,x2⟩
    refine ⟨trivial,?_⟩
    simp only [↓zZ1,↓reduceIte,Nat.reduceEqDiff,rg,ow_129]
    apply hK;clear hK K
    have X2:=XW.tr x2.od
    cases hq:O.lt (rkI ord x) (rkI ord y) with
    | true =>
     refine W_false (by simp only [evt,upd_eq,↓reduceIte,zZ3]) ?_
     have e5:=hi_sub md (by omega)
     refine W_rg fun K hK=>(W_text [true,true,true] (by kernel_rfl) ?_);simp only [↓zZ1,↓reduceIte,Nat.reduceEqDiff,rg,ow_129,e5]
     apply hK;clear hK K
     refine ⟨_,?_,X2.tr (Ext.dr _ _ _),lo,md,rfl,by omega,by omega,?_,?_,?_,?_,?_,?_,?_,hlo,?_⟩
     ·omega
     ·simp only [upd_eq,Nat.reduceEqDiff,↓reduceIte];exact e0
     ·simp only [upd_eq,Nat.reduceEqDiff,↓reduceIte];exact e1
     ·simp only [upd_eq,Nat.reduceEqDiff,↓reduceIte];exact e3
     ·simp only [upd_eq,Nat.reduceEqDiff,↓reduceIte];exact e4
     ·simp only [upd_eq,Nat.reduceEqDiff,↓reduceIte];exact e7
     ·simp only [upd_eq,Nat.reduceEqDiff,↓reduceIte];exact e12
     ·simp only [upd_eq,Nat.reduceEqDiff,↓reduceIte]
     ·intro i z hi' hz
      by_cases he:i=md
      ·subst he;rw [hy] at hz;cases hz;exact hq
      ·have hsp:=List.pairwise_iff_getElem.1 ha md i (by omega) (List.getElem?_eq_some_iff.1 hz).1 (by omega)
       rw [(List.getElem?_eq_some_iff.1 hy).2,(List.getElem?_eq_some_iff.1 hz).2] at hsp
       exact O.tr _ _ _ hq hsp
    | false =>
     refine W_true (by simp only [evt,upd_eq,↓reduceIte,zZ3]) ?_
     have e5:=wadd1 md (by omega)
     refine W_rg fun K hK=>(W_text [true,true,true] (by kernel_rfl) ?_);simp only [↓zZ1,↓reduceIte,Nat.reduceEqDiff,rg,ow_129,e5]
     apply hK;clear hK K
     refine ⟨_,?_,X2.tr (Ext.dr _ _ _),md+1,hi,rfl,by omega,by omega,?_,?_,?_,?_,?_,?_,?_,?_,hup⟩
     ·omega
     ·simp only [upd_eq,Nat.reduceEqDiff,↓reduceIte];exact e0
     ·simp only [upd_eq,Nat.reduceEqDiff,↓reduceIte];exact e1
     ·simp only [upd_eq,Nat.reduceEqDiff,↓reduceIte];exact e3
     ·simp only [upd_eq,Nat.reduceEqDiff,↓reduceIte];exact e4
     ·simp only [upd_eq,Nat.reduceEqDiff,↓reduceIte];exact e7
     ·simp only [upd_eq,Nat.reduceEqDiff,↓reduceIte]
     ·simp only [upd_eq,Nat.reduceEqDiff,↓reduceIte];exact e13
     ·intro i z hi' hz
      by_cases he:i=md
      ·subst he;rw [hy] at hz;cases hz;exact hq
      ·have hsp:=List.pairwise_iff_getElem.1 ha i md (List.getElem?_eq_some_iff.1 hz).1 (by omega) (by omega)
       rw [(List.getElem?_eq_some_iff.1 hy).2,(List.getElem?_eq_some_iff.1 hz).2] at hsp
       cases hqy:O.lt (rkI ord x) (rkI ord z) with
       | false=>rfl
       | true=>have:=O.tr _ _ _ hqy hsp;rw [hq] at this;cases this
   ·obtain rfl:lo=hi:=by omega
    have ht:decide ((lo:Int)<=(lo:Int)-1)=false:=by simp;omega
    refine W_sq fun K hK=>(W_text [true,true,true] (by kernel_rfl) ?_);simp only [↓zZ1,↓reduceIte,Nat.reduceEqDiff,rg,ow_129,e12,e13,ht]
    apply hK;clear hK K
    refine W_false (by simp only [zZ2,Nat.reduceEqDiff,↓reduceIte,zZ3]<;>rfl) (W_exit ?_)
    simp only [andThen_exit,inBlk_exit,andThen_normal,↓reduceIte]
    refine W_sqx fun K hK=>?_
    have hlab:∀ (e:Env) (w':World),Ext noF w1 w'->e 1=ptr b->e 3=ptr hb->e 4 = .int .i64 dep->e 10 = .int .i64 (lb O (rkI ord) (rkI ord x) ks:Nat)->e 11 = .bool (hit O (rkI ord) (rkI ord x) ks)->K e w' :=
     fun e w' X g1 g3 g4 g10 g11=>hK _ _ (W_seq (W_label (by
      simp only [andThen_normal]
      exact hon _ _ ⟨X,g1,g3,g4,g10,g11⟩)))
    clear hK
    by_cases h00:0<lo
    ·obtain ⟨y,hy⟩:∃ y,ks[lo-1]? = some y:=⟨_,List.getElem?_eq_getElem (by omega)⟩
     have hk:=it_at row' hy
     have hi1:lo-1<ks.length:=by omega
     have e5:=wsub1 lo h00 (by omega)
     have ht0:decide (0<(lo:Int))=true:=by simp;omega
     refine W_sq fun K hK=>(W_free (some none) (.take 0 (.take 1 (.take 2 (.take 3 (.take 4 (.take 5 (.take 6 (.take 7 (.take 8 (.take 9 (.take 10 (.take 11 (.take 12 (.bar 13 (.take 14 (.take 15 .nil)))))))))))))))) mixed (by kernel_rfl) ?_);simp only [↓zZ1,↓reduceIte,Nat.reduceEqDiff,rg,ow_129,e0,e1,e7,e12,ptr_eq,h2',hi1,hk,bx',ht0,e5]
     refine do_call fn_138 (by simp only [zZ2,Nat.reduceEqDiff,↓reduceIte,zZ4]<;>rfl) (less_any B m ord y x _ (hL'.ext0 (Ext.dr noF _ _))) ?_
     rintro _ w2 ⟨rfl,x2⟩
     refine ⟨trivial,?_⟩
     simp only [↓zZ1,↓reduceIte,Nat.reduceEqDiff,rg,ow_129]
     apply hK;clear hK K
     have X2:=XW.tr x2.od
     cases hq:O.lt (rkI ord y) (rkI ord x) with
     | true =>
      obtain ⟨f1,f2⟩:=missed_at O (rkI ord) ha (q:=rkI ord x) (u:=lo) hhi (fun z hz=>hup lo z (Nat.le_refl _) hz) (fun z _ hz=>by rw [hy] at hz;cases hz;exact hq)
      refine W_false (by simp only [evt,upd_eq,↓reduceIte,zZ3]) ?_
      refine W_sq fun K hK=>(W_text [true,true] (by kernel_rfl) ?_);simp only [↓zZ1,↓reduceIte,Nat.reduceEqDiff,rg,ow_129,e12]
      apply hK;clear hK K
      refine W_rg fun K hK=>(W_text [true] (by kernel_rfl) ?_);simp only [↓zZ1,↓reduceIte,Nat.reduceEqDiff,rg,ow_129]
      apply hK;clear hK K
      simp only [andThen_normal]
      exact hlab _ _ (X2.tr (Ext.dr _ _ _)) e1 e3 e4 (by simp only [upd_eq,Nat.reduceEqDiff,↓reduceIte];rw [f1]) (by simp only [upd_eq,Nat.reduceEqDiff,↓reduceIte];rw [f2])
     | false =>
      obtain ⟨f1,f2⟩:=found_at O (rkI ord) ha (q:=rkI ord x) (u:=lo) hhi hlo (fun z hz=>hup lo z (Nat.le_refl _) hz) h00 hy hq
      refine W_true (by simp only [evt,upd_eq,↓reduceIte,zZ3]) ?_
      refine W_sq fun K hK=>(W_text [true,true,true] (by kernel_rfl) ?_);simp only [↓zZ1,↓reduceIte,Nat.reduceEqDiff,rg,ow_129,e12,e5]
      apply hK;clear hK K
      refine W_rg fun K hK=>(W_text [true] (by kernel_rfl) ?_);simp only [↓zZ1,↓reduceIte,Nat.reduceEqDiff,rg,ow_129]
      apply hK;clear hK K
      simp only [andThen_normal]
      exact hlab _ _ (X2.tr (Ext.dr _ _ _)) e1 e3 e4 (by simp only [upd_eq,Nat.reduceEqDiff,↓reduceIte];rw [f1]) (by simp only [upd_eq,Nat.reduceEqDiff,↓reduceIte];rw [f2])
    ·have ht0:decide (0<(lo:Int))=false:=by simp;omega
     refine W_sq fun K hK=>(W_free (some none) (.take 0 (.take 1 (.take 2 (.take 3 (.take 4 (.take 5 (.take 6 (.take 7 (.take 8 (.take 9 (.take 10 (.take 11 (.take 12 (.bar 13 (.take 14 (.take 15 .nil)))))))))))))))) mixed (by kernel_rfl) ?_);simp only [↓zZ1,↓reduceIte,Nat.reduceEqDiff,rg,ow_129,e12,ht0]
     apply hK;clear hK K
     obtain ⟨f1,f2⟩:=missed_at O (rkI ord) ha (q:=rkI ord x) (u:=lo) hhi (fun z hz=>hup lo z (Nat.le_refl _) hz) (fun z h _=>by omega)
     refine W_false (by simp only [zZ2,Nat.reduceEqDiff,↓reduceIte,zZ3]<;>rfl) ?_
     refine W_sq fun K hK=>(W_text [true,true] (by kernel_rfl) ?_);simp only [↓zZ1,↓reduceIte,Nat.reduceEqDiff,rg,ow_129,e12]
     apply hK;clear hK K
     refine W_rg fun K hK=>(W_text [true] (by kernel_rfl) ?_);simp only [↓zZ1,↓reduceIte,Nat.reduceEqDiff,rg,ow_129]
     apply hK;clear hK K
     simp only [andThen_normal]
     exact hlab _ _ (XW.tr (Ext.dr _ _ _)) e1 e3 e4 (by simp only [upd_eq,Nat.reduceEqDiff,↓reduceIte];rw [f1]) (by simp only [upd_eq,Nat.reduceEqDiff,↓reduceIte];rw [f2])
  clear hK
  by_cases hd:dep<8
  ·have td:decide ((dep:Int)<8)=true:=by simp;omega
   obtain ⟨u,hu⟩:=hH.used dep hd
   cases u with
   | false =>
    refine W_sq fun K hK=>(W_text [true,true,true,true,true,true,true,true,true,true] (by kernel_rfl) ?_);simp only [↓zZ1,↓reduceIte,Nat.reduceEqDiff,rg,ow_129,e3,e4,td,ptr_eq,idx_ar,idxA_s,hd,hu]
    apply hK;clear hK K
    refine W_false (by simp only [zZ2,Nat.reduceEqDiff,↓reduceIte,zZ3]<;>rfl) (W_skip ?_)
    simp only [andThen_normal]
    refine hloop _ _ 0 ks.length (Ext.dr _ _ _) (Nat.zero_le _) (Nat.le_refl _) e0 e1 e3 e4 rfl rfl rfl (fun i y hi=>by omega) (fun i y hi hx=>by have:=(List.getElem?_eq_some_iff.1 hx).1;omega)
   | true =>
    refine W_sq fun K hK=>(W_text [true,true,true,true,true,true,true,true,true,true] (by kernel_rfl) ?_);simp only [↓zZ1,↓reduceIte,Nat.reduceEqDiff,rg,ow_129,e3,e4,td,ptr_eq,idx_ar,idxA_s,hd,hu]
    apply hK;clear hK K
    refine W_true (by simp only [zZ2,Nat.reduceEqDiff,↓reduceIte,zZ3]<;>rfl) ?_
    obtain ⟨p,hp,hr⟩:=hH.path dep hd
    have p1:=u8_i64 p hp
    refine W_sq fun K hK=>(W_text [true,true,true,true,true,true,true,true] (by kernel_rfl) ?_);simp only [↓zZ1,↓reduceIte,Nat.reduceEqDiff,rg,ow_129,e3,e4,ptr_eq,idx_ar,idxA_s,hd,hr,p1]
    apply hK;clear hK K
    have hz:∀ (i:Nat) y,ks[i]? = some y->∀ j z,i<j->ks[j]? = some z->O.lt (rkI ord y) (rkI ord z)=true:=fun i y hy j z hij hz=>by
     have hsp:=List.pairwise_iff_getElem.1 ha i j (List.getElem?_eq_some_iff.1 hy).1 (List.getElem?_eq_some_iff.1 hz).1 hij
     rwa [(List.getElem?_eq_some_iff.1 hy).2,(List.getElem?_eq_some_iff.1 hz).2] at hsp
    refine W_sqx fun K2 hK2=>?_
    have hidx:∀ (e:Env) (w':World) (i:Nat),i<ks.length->Ext noF w1 w'->e 0=ptr m->e 1=ptr b->e 3=ptr hb->e 4 = .int .i64 dep->e 7=ptr q->e 10 = .int .i64 i->e 11 = .bool false->e 12 = .int .i64 (0:Nat) →
      e 13 = .int .i64 ((ks.length:Int)-1)->K2 e w':=by
     clear e0 e1 e2 e3 e4 e
     intro e w' i hi XW e0 e1 e3 e4 e7 e10 e11 e12 e13
     refine hK2 _ _ ?_;clear hK2 K2
     have sw:=XW.size
     have h2':=XW.rd h2 fun g=>g
     have row':=XW.row row fun _ _ g=>g
     have bx':=iX_at (XW.row bx1 fun _ _ g=>g)
     have hL':=hL.ext0 XW
     obtain ⟨y,hy⟩:∃ y,ks[i]? = some y:=⟨_,List.getElem?_eq_getElem hi⟩
     have hk:=it_at row' hy
     refine W_sq fun K hK=>(W_free (some none) (.take 0 (.take 1 (.take 2 (.take 3 (.take 4 (.take 5 (.take 6 (.take 7 (.take 8 (.bar 9 .nil)))))))))) mixed (by kernel_rfl) ?_);simp only [↓zZ1,↓reduceIte,Nat.reduceEqDiff,rg,ow_129,e0,e1,e7,e10,ptr_eq,h2',hi,hk,bx']
     refine do_call fn_138 (by simp only [zZ2,Nat.reduceEqDiff,↓reduceIte,zZ4]<;>rfl) (less_any B m ord x y _ (hL'.ext0 (Ext.dr noF _ _))) ?_
     rintro _ w2 ⟨rfl,x2⟩
     refine ⟨trivial,?_⟩
     simp only [↓zZ1,↓reduceIte,Nat.reduceEqDiff,rg,ow_129]
     apply hK;clear hK K
     have X2:=XW.tr x2.od
     have s2:=X2.size
     have h2'':=X2.rd h2 fun g=>g
     have row'':=X2.row row fun _ _ g=>g
     have bx'':=iX_at (X2.row bx1 fun _ _ g=>g)
     have hL'':=hL.ext0 X2
     have hk2:=it_at row'' hy
     cases hq:O.lt (rkI ord x) (rkI ord y) with
     | true =>
      refine W_true (by simp only [evt,upd_eq,↓reduceIte,zZ3]) ?_
      have up:∀ j z,i<=j->ks[j]? = some z->O.lt (rkI ord x) (rkI ord z)=true:=fun j z hij hjz=>by
       by_cases he:j=i
       ·subst he;rw [hy] at hjz;cases hjz;exact hq
       ·exact O.tr _ _ _ hq (hz i y hy j z (by omega) hjz)
      refine W_seq ?_
      by_cases h00:i=0
      ·have t0:((i:Int) == 0)=true:=by simp;omega
       refine W_sq fun K hK=>(W_free (some none) (.take 0 (.take 1 (.take 2 (.take 3 (.take 4 (.take 5 (.take 6 (.take 7 (.take 8 (.take 9 (.take 10 (.take 11 (.take 12 (.bar 13 (.take 14 .nil))))))))))))))) mixed (by kernel_rfl) ?_);simp only [↓zZ1,↓reduceIte,Nat.reduceEqDiff,rg,ow_129,e10,t0]
       apply hK;clear hK K
       obtain ⟨f1,f2⟩:=missed_at O (rkI ord) ha (q:=rkI ord x) (u:=i) (by omega) (fun z hz=>up i z (Nat.le_refl _) hz) (fun z h _=>by omega)
       refine W_true (by simp only [zZ2,Nat.reduceEqDiff,↓reduceIte,zZ3]<;>rfl) (W_goto ?_)
       simp only [andThen_goto,jump_goto]
       exact ⟨trivial,X2.tr (Ext.dr _ _ _),e1,e3,e4,(by simp only [upd_eq,Nat.reduceEqDiff,↓reduceIte];rw [f1];exact e10),(by simp only [upd_eq,Nat.reduceEqDiff,↓reduceIte];rw [f2];exact e11)⟩
      ·have t0:((i:Int) == 0)=false:=by simp;omega
       obtain ⟨y0,hy0⟩:∃ y,ks[i-1]? = some y:=⟨_,List.getElem?_eq_getElem (by omega)⟩
       have hk0:=it_at row'' hy0
       (have hi1:i-1<ks.length:=by omega);have e5:=wsub1 i (by omega) (by omega)
       refine W_sq fun K hK=>(W_free (some none) (.take 0 (.take 1 (.take 2 (.take 3 (.take 4 (.take 5 (.take 6 (.take 7 (.take 8 (.take 9 (.take 10 (.take 11 (.take 12 (.bar 13 (.take 14 .nil))))))))))))))) mixed (by kernel_rfl) ?_);simp only [↓zZ1,↓reduceIte,Nat.reduceEqDiff,rg,ow_129,e0,e1,e7,e10,ptr_eq,h2'',hi1,hk0,bx'',t0,e5]
       refine do_call fn_138 (by simp only [zZ2,Nat.reduceEqDiff,↓reduceIte,zZ4]<;>rfl) (less_any B m ord y0 x _ (hL''.ext0 (Ext.dr noF _ _))) ?_
       rintro _ w3 ⟨rfl,x3⟩
       refine ⟨trivial,?_⟩
       simp only [↓zZ1,↓reduceIte,Nat.reduceEqDiff,rg,ow_129]
       apply hK;clear hK K
       have X3:=X2.tr x3.od
       cases hq0:O.lt (rkI ord y0) (rkI ord x) with
       | true =>
        obtain ⟨f1,f2⟩:=missed_at O (rkI ord) ha (q:=rkI ord x) (u:=i) (by omega) (fun z hz=>up i z (Nat.le_refl _) hz) (fun z _ hz=>by rw [hy0] at hz;cases hz;exact hq0)
        refine W_true (by simp only [evt,upd_eq,↓reduceIte,zZ3]) (W_goto ?_)
        simp only [andThen_goto,jump_goto]
        exact ⟨trivial,X3.tr (Ext.dr _ _ _),e1,e3,e4,(by simp only [upd_eq,Nat.reduceEqDiff,↓reduceIte];rw [f1];exact e10),(by simp only [upd_eq,Nat.reduceEqDiff,↓reduceIte];rw [f2];exact e11)⟩
       | false =>
        refine W_false (by simp only [evt,upd_eq,↓reduceIte,zZ3]) (W_skip ?_)
        show W _ _ _ _ _ _
        have e6:=hi_sub i (by omega)
        refine W_rg fun K hK=>(W_text [true,true,true] (by kernel_rfl) ?_);simp only [↓zZ1,↓reduceIte,Nat.reduceEqDiff,rg,ow_129,e10,e6]
        apply hK;clear hK K
        simp only [andThen_normal]
        exact hloop _ _ 0 i (X3.tr (Ext.dr _ _ _)) (Nat.zero_le _) (by omega) e0 e1 e3 e4 e7 e12 rfl (fun i y hi=>by omega) up
     | false =>
      refine W_false (by simp only [evt,upd_eq,↓reduceIte,zZ3]) ?_
      refine W_sq fun K hK=>(W_free (some none) (.take 0 (.take 1 (.take 2 (.take 3 (.take 4 (.take 5 (.take 6 (.take 7 (.take 8 (.bar 9 .nil)))))))))) mixed (by kernel_rfl) ?_);simp only [↓zZ1,↓reduceIte,Nat.reduceEqDiff,rg,ow_129,e0,e1,e7,e10,ptr_eq,h2'',hi,hk2,bx'']
      refine do_call fn_138 (by simp only [zZ2,Nat.reduceEqDiff,↓reduceIte,zZ4]<;>rfl) (less_any B m ord y x _ (hL''.ext0 (Ext.dr noF _ _))) ?_
      rintro _ w3 ⟨rfl,x3⟩
      refine ⟨trivial,?_⟩
      simp only [↓zZ1,↓reduceIte,Nat.reduceEqDiff,rg,ow_129]
      apply hK;clear hK K
      have X3:=X2.tr x3.od
      have low:∀ j z,j<i+1->ks[j]? = some z->O.lt (rkI ord x) (rkI ord z)=false:=fun j z hij hjz=>by
       by_cases he:j=i
       ·subst he;rw [hy] at hjz;cases hjz;exact hq
       ·cases hqz:O.lt (rkI ord x) (rkI ord z) with
        | false=>rfl
        | true=>have:=O.tr _ _ _ hqz (hz j z hjz i y (by omega) hy);rw [hq] at this;cases this
      cases hq0:O.lt (rkI ord y) (rkI ord x) with
      | true =>
       refine W_true (by simp only [evt,upd_eq,↓reduceIte,zZ3]) ?_
       have e6:=wadd1 i (by omega)
       refine W_rg fun K hK=>(W_text [true,true,true] (by kernel_rfl) ?_);simp only [↓zZ1,↓reduceIte,Nat.reduceEqDiff,rg,ow_129,e10,e6]
       apply hK;clear hK K
       simp only [andThen_normal]
       exact hloop _ _ (i+1) ks.length (X3.tr (Ext.dr _ _ _)) hi (Nat.le_refl _) e0 e1 e3 e4 e7 rfl e13 low (fun i y hi hx=>by have:=(List.getElem?_eq_some_iff.1 hx).1;omega)
      | false =>
       have hxy:=O.tot _ _ hq0 hq
       obtain ⟨f1,f2⟩:=found_at O (rkI ord) ha (q:=rkI ord x) (u:=i+1) hi low (fun z hjz=>by rw [<-hxy];exact hz i y hy (i+1) z (by omega) hjz) (by omega) hy hq0
       refine W_false (by simp only [evt,upd_eq,↓reduceIte,zZ3]) ?_
       refine W_sq fun K hK=>(W_text [true] (by kernel_rfl) ?_);simp only [↓zZ1,↓reduceIte,Nat.reduceEqDiff,rg,ow_129]
       apply hK;clear hK K
       refine W_goto ?_
       simp only [andThen_goto,jump_goto]
       exact ⟨trivial,X3.tr (Ext.dr _ _ _),e1,e3,e4,(by simp only [upd_eq,Nat.reduceEqDiff,↓reduceIte];rw [f1];exact e10),(by simp only [upd_eq,Nat.reduceEqDiff,↓reduceIte];rw [f2])⟩
    clear hK2
    by_cases hpl:p<ks.length
    ·have tp:decide ((ks.length:Int)<=(p:Int))=false:=by simp;omega
     refine W_sq fun K hK=>(W_text [true,true,true,true,true,true,true] (by kernel_rfl) ?_);simp only [↓zZ1,↓reduceIte,Nat.reduceEqDiff,rg,ow_129,e1,ptr_eq,h2,tp]
     apply hK;clear hK K
     refine W_false (by simp only [zZ2,Nat.reduceEqDiff,↓reduceIte,zZ3]<;>rfl) (W_skip ?_)
     simp only [andThen_normal]
     exact hidx _ _ p hpl (Ext.dr _ _ _) e0 e1 e3 e4 rfl rfl rfl rfl rfl
    ·have tp:decide ((ks.length:Int)<=(p:Int))=true:=by simp;omega
     refine W_sq fun K hK=>(W_text [true,true,true,true,true,true,true] (by kernel_rfl) ?_);simp only [↓zZ1,↓reduceIte,Nat.reduceEqDiff,rg,ow_129,e1,ptr_eq,h2,tp]
     apply hK;clear hK K
     refine W_true (by simp only [zZ2,Nat.reduceEqDiff,↓reduceIte,zZ3]<;>rfl) (W_seq ?_)
     obtain ⟨y0,hy0⟩:∃ y,ks[ks.length-1]? = some y:=⟨_,List.getElem?_eq_getElem (by omega)⟩
     have hk0:=it_at row hy0
     have hi1:ks.length-1<ks.length:=by omega
     have e5:=wsub1 ks.length (by omega) (by omega)
     have bx':=iX_at bx1
     refine W_sq fun K hK=>(W_free (some none) (.take 0 (.take 1 (.take 2 (.take 3 (.take 4 (.take 5 (.take 6 (.take 7 (.take 8 (.take 9 (.take 10 (.take 11 (.take 12 (.take 13 (.bar 14 .nil))))))))))))))) mixed (by kernel_rfl) ?_);simp only [↓zZ1,↓reduceIte,Nat.reduceEqDiff,rg,ow_129,e0,e1,ptr_eq,h2,hi1,hk0,bx',e5]
     refine do_call fn_138 (by simp only [zZ2,Nat.reduceEqDiff,↓reduceIte,zZ4]<;>rfl) (less_any B m ord y0 x _ (hL.ext0 (Ext.dr noF _ _))) ?_
     rintro _ w2 ⟨rfl,x2⟩
     refine ⟨trivial,?_⟩
     simp only [↓zZ1,↓reduceIte,Nat.reduceEqDiff,rg,ow_129]
     apply hK;clear hK K
     have X2:=x2.od
     have h2'':=X2.rd h2 fun g=>g
     cases hq0:O.lt (rkI ord y0) (rkI ord x) with
     | true =>
      obtain ⟨f1,f2⟩:=missed_at O (rkI ord) ha (q:=rkI ord x) (u:=ks.length) (Nat.le_refl _) (fun z hjz=>by have:=(List.getElem?_eq_some_iff.1 hjz).1;omega) (fun z _ hz=>by rw [hy0] at hz;cases hz;exact hq0)
      refine W_true (by simp only [evt,upd_eq,↓reduceIte,zZ3]) ?_
      refine W_sq fun K hK=>(W_text [true,true,true,true,true,true] (by kernel_rfl) ?_);simp only [↓zZ1,↓reduceIte,Nat.reduceEqDiff,rg,ow_129,e1,ptr_eq,h2'']
      apply hK;clear hK K
      refine W_goto ?_
      simp only [andThen_goto,jump_goto]
      exact ⟨trivial,X2.tr (Ext.dr _ _ _),e1,e3,e4,(by simp only [upd_eq,Nat.reduceEqDiff,↓reduceIte];rw [f1]),(by simp only [upd_eq,Nat.reduceEqDiff,↓reduceIte];rw [f2])⟩
     | false =>
      refine W_false (by simp only [evt,upd_eq,↓reduceIte,zZ3]) (W_skip ?_)
      show W _ _ _ _ _ _
      refine W_rg fun K hK=>(W_text [true,true,true,true,true,true,true] (by kernel_rfl) ?_);simp only [↓zZ1,↓reduceIte,Nat.reduceEqDiff,rg,ow_129,e1,ptr_eq,h2'',e5]
      apply hK;clear hK K
      simp only [andThen_normal]
      exact hidx _ _ (ks.length-1) hi1 (X2.tr (Ext.dr _ _ _)) e0 e1 e3 e4 rfl rfl rfl rfl rfl
  ·have td:decide ((dep:Int)<8)=false:=by simp;omega
   refine W_sq fun K hK=>(W_text [true,true,true,true,true,true,true,true,true,true] (by kernel_rfl) ?_);simp only [↓zZ1,↓reduceIte,Nat.reduceEqDiff,rg,ow_129,e3,e4,td]
   apply hK;clear hK K
   refine W_false (by simp only [zZ2,Nat.reduceEqDiff,↓reduceIte,zZ3]<;>rfl) (W_skip ?_)
   simp only [andThen_normal]
   refine hloop _ _ 0 ks.length (Ext.dr _ _ _) (Nat.zero_le _) (Nat.le_refl _) e0 e1 e3 e4 rfl rfl rfl (fun i y hi=>by omega) (fun i y hi hx=>by have:=(List.getElem?_eq_some_iff.1 hx).1;omega)
set_option maxHeartbeats 400000 in
set_option maxRecDepth 8000 in
theorem find_any (B m b bi oi cap:Nat) (ord:List Int) (ks:List It) (x:It) (ch:Option Addr) (hp:Option Nat) (dep:Nat) (w:World) (hL:Ls B m w ord) (h2:rd w b 2=some (.slice (some ⟨bi,oi,none⟩) ks.length cap)) (h3:rd w b 3=some (.pointer ch))
  (row:Row w bi oi (flat E ks)) (hbi:bi<w.heap.size) (hlen:ks.length<4611686018427387904) (hpos:0<ks.length) (ha:Asc O (rkI ord) ks) (hH:HOk hp w) (hne:∀ hb,hp=some hb->hb ≠ b) :
  CallK Try.prog 97 #[ptr m,ptr b,itV x,hV hp,.int .i64 dep] w fun v w'=>v=srchG ord ks x/\Ext (hF hp) w w'/\HOk hp w':=by
 refine calls_of_W [.tmp 10,.tmp 11] Try.func97 rfl Try.ntmps97 Try.results97 (by simp) fun e he=>?_
 have e0:e 0=ptr m:=he 0 _ rfl
 have e1:e 1=ptr b:=he 1 _ rfl
 have e2:e 2=itV x:=he 2 _ rfl
 have e3:e 3=hV hp:=he 3 _ rfl
 have e4:e 4 = .int .i64 dep:=he 4 _ rfl
 clear he
 refine W_sq fun K hK=>(W_text [false,true,true] (by kernel_rfl) ?_);simp only [↓zZ1,↓reduceIte,Nat.reduceEqDiff,rg,ow_97]
 refine do_box (by simp only [evt];exact e2) fun w1 n1=>⟨trivial,?_⟩
 simp only [↓zZ1,↓reduceIte,Nat.reduceEqDiff,rg,ow_97]
 apply hK;clear hK K
 have ix:=iX_at (show Row w1 w.heap.size 0 (E.cel x) from n1.row)
 have X1:=n1.ext
 have h2':=X1.rd h2 fun g=>g
 have h3':=X1.rd h3 fun g=>g
 have row':=X1.row row fun _ _ g=>g
 have hL':=hL.ext0 X1
 have hs:=X1.size
 refine W_seq ?_
 cases hp with
 | none =>
  rw [hV_none] at e3
  refine W_sq fun K hK=>(W_text [true,true] (by kernel_rfl) ?_);simp only [↓zZ1,↓reduceIte,Nat.reduceEqDiff,rg,ow_97,e3]
  apply hK;clear hK K
  refine W_true (by simp only [zZ2,Nat.reduceEqDiff,↓reduceIte,zZ3]<;>rfl) ?_
  refine W_sq fun K hK=>(W_text [true,true,true,false,true,true,true,true] (by kernel_rfl) ?_);simp only [↓zZ1,↓reduceIte,Nat.reduceEqDiff,rg,ow_97,e0,e1,ix]
  refine do_call fn_128 (by simp only [zZ2,Nat.reduceEqDiff,↓reduceIte,zZ4]<;>rfl) (bsearch_any B m b bi oi cap ord ks x _ hL' h2' row' (by omega) hlen ha) ?_
  rintro _ w2 ⟨rfl,x2⟩
  refine ⟨trivial,?_⟩
  simp only [↓zZ1,↓reduceIte,Nat.reduceEqDiff,rg,ow_97,srchG]
  apply hK;clear hK K
  refine W_ret ?_
  simp only [andThen_ret]
  exact endQ_2 (by simp only [upd_eq,Nat.reduceEqDiff,↓reduceIte]<;>rfl) (by simp only [upd_eq,Nat.reduceEqDiff,↓reduceIte]<;>rfl) ⟨rfl,((X1.tr x2).tr (Ext.dr _ _ _)).mono fun _ _ _ g=>g.elim,HOk.none _⟩
 | some hb =>
  rw [hV_some] at e3
  refine W_sq fun K hK=>(W_text [true,true] (by kernel_rfl) ?_);simp only [↓zZ1,↓reduceIte,Nat.reduceEqDiff,rg,ow_97,e3,ptr_eq]
  apply hK;clear hK K
  refine W_false (by simp only [zZ2,Nat.reduceEqDiff,↓reduceIte,zZ3]<;>rfl) (W_skip ?_)
  show W _ _ _ _ _ _
  refine W_sq fun K hK=>(W_text [true,true,true,true,true,false,true,true,true,true] (by kernel_rfl) ?_);simp only [↓zZ1,↓reduceIte,Nat.reduceEqDiff,rg,ow_97,e0,e1,e3,e4,ix]
  refine do_call fn_129 (by simp only [zZ2,Nat.reduceEqDiff,↓reduceIte,zZ4]<;>rfl) (hint_any B m b bi oi cap ord ks x ch hb dep _ hL' h2' h3' row' (by omega) hlen hpos ha ((hH hb rfl).ext X1 fun _ g=>g) (hne hb rfl)) ?_
  rintro _ w2 ⟨rfl,x2,hH2⟩
  refine ⟨trivial,?_⟩
  simp only [↓zZ1,↓reduceIte,Nat.reduceEqDiff,rg,ow_97,srchG]
  apply hK;clear hK K
  refine W_ret ?_
  exact endQ_2 (by simp only [upd_eq,Nat.reduceEqDiff,↓reduceIte]<;>rfl) (by simp only [upd_eq,Nat.reduceEqDiff,↓reduceIte]<;>rfl) ⟨rfl,(X1.trans x2 (fun _ _ g=>g.elim) fun _ _ _ g=>g).tr (Ext.dr _ _ _),fun b' h=>by cases h;exact hH2.ext (Ext.dr noF _ _) fun _ g=>g⟩
end Go.Proofs.Ytbnnkcofnmipoaa
namespace Go.Proofs.Ytbnnkcofnmipoaa
open Go
def Ep:Enc Nat where
 cel b:=[ptr b]
 sz:=1
 len _:=rfl
 one b v hv:=by simp at hv;subst hv;rfl
 pos:=by decide
section
variable {α:Type} {E:Enc α}
structure SE (E:Enc α) (w:World) (hb ho:Nat) (ks:List α) (bi oi cap:Nat):Prop where
 hd:rd w hb ho=some (.slice (some ⟨bi,oi,none⟩) ks.length cap)
 row:Row w bi oi (flat E ks)
 wi:wok w bi (oi+cap*E.sz)
 le:ks.length<=cap
 hok:wok w hb (ho+1)
 ne:bi ≠ hb
def seF (E:Enc α) (hb ho bi oi cap:Nat):Nat->Nat->Prop:=fun y o=>(y=hb/\o=ho)\/rng bi oi (cap*E.sz) y o
theorem SE.ext {w w':World} {G:Nat->Nat->Prop} {hb ho bi oi cap:Nat} {ks:List α} (h:SE E w hb ho ks bi oi cap) (x:Ext G w w') (hG:∀ y o,seF E hb ho bi oi cap y o->¬ G y o):SE E w' hb ho ks bi oi cap :=
 ⟨x.rd h.hd (hG _ _ (.inl ⟨rfl,rfl⟩)),x.row h.row fun i hi=>hG _ _ (.inr ⟨rfl,by omega,by rw [flat_length] at hi;have:=Nat.mul_le_mul_right E.sz h.le;omega⟩),x.wok h.wi,h.le,x.wok h.hok,h.ne⟩
theorem SE.ext0 {w w':World} {hb ho bi oi cap:Nat} {ks:List α} (h:SE E w hb ho ks bi oi cap) (x:Ext noF w w'):SE E w' hb ho ks bi oi cap:=h.ext x fun _ _ _ g=>g
theorem SE.lt {w:World} {hb ho bi oi cap:Nat} {ks:List α} (h:SE E w hb ho ks bi oi cap):hb<w.heap.size/\bi<w.heap.size:=⟨wok_lt h.hok,wok_lt h.wi⟩
theorem SE.slV {w:World} {hb ho bi oi cap:Nat} {ks:List α} (h:SE E w hb ho ks bi oi cap):SlV w E.sz (.slice (some ⟨bi,oi,none⟩) ks.length cap) ks.length (flat E ks) :=
 ⟨flat_length _ _,.inr ⟨bi,oi,cap,rfl,h.le,h.row,h.wi.R (Nat.le_refl _)⟩⟩
theorem SE.app {w w1 w2:World} {hb ho bi oi cap m:Nat} {ks ls:List α} {v':Value} (h:SE E w hb ho ks bi oi cap) (hm:ls.length=m) (a:AppRes w E.sz (.slice (some ⟨bi,oi,none⟩) ks.length cap) ks.length m (flat E ks) (flat E ls) v' w1)
  (x:Ext (rng hb ho 1) w1 w2) (r:rd w2 hb ho=some v') :
  ∃ bi' oi' cap',v' = .slice (some ⟨bi',oi',none⟩) (ks.length+m) cap'/\SE E w2 hb ho (ks++ls) bi' oi' cap'/\Ext (seF E hb ho bi oi cap) w w2/\((bi'=bi/\oi'=oi/\cap'=cap)\/(bi'=w.heap.size/\w.heap.size<w2.heap.size)):=by
 subst hm
 obtain ⟨hs,hc⟩:=a
 have hbl:=wok_lt h.hok
 have hbil:=wok_lt h.wi
 have hne:=h.ne
 have hlen:(ks++ls).length=ks.length+ls.length:=List.length_append
 rcases hc with ⟨_,_,h3⟩ | ⟨b0,o0,cap0,h1,h2,h3,h4,h5⟩ | ⟨cap',h1,h2,h3,h4⟩
 ·cases h3
 ·simp only [Value.slice.injEq,Option.some.injEq,Addr.mk.injEq,true_and,and_true] at h1
  obtain ⟨⟨rfl,rfl⟩,rfl⟩:=h1
  subst h2
  have hw1:=h3.wok h.wi
  have hr:Row w1 bi oi (flat E (ks++ls)):=by
   rw [flat_append]
   rcases hs.2 with ⟨h,_⟩ | ⟨b1,o1,c1,h1,hle,hr,hw⟩
   ·cases h
   ·simp only [Value.slice.injEq,Option.some.injEq,Addr.mk.injEq,true_and,and_true] at h1
    obtain ⟨⟨rfl,rfl⟩,rfl⟩:=h1
    exact hr
  refine ⟨bi,oi,cap,rfl,⟨by rw [r,hlen],x.row hr fun i _ g=>by simp only [rng] at g;omega,x.wok hw1,by omega,x.wok (h3.wok h.hok),hne⟩,h3.trans x (fun y o g=>.inr ?_) fun y o _ g=>.inl ?_,.inl ⟨rfl,rfl,rfl⟩⟩
  ·have e1:(ks.length+ls.length)*E.sz=ks.length*E.sz+ls.length*E.sz:=Nat.add_mul _ _ _
   have e2:=Nat.mul_le_mul_right E.sz h5
   simp only [rng] at g ⊢
   omega
  ·simp only [rng] at g;omega
 ·subst h1
  have hr:Row w1 w.heap.size 0 (flat E (ks++ls))/\ks.length+ls.length<=cap':=by
   rw [flat_append]
   rcases hs.2 with ⟨h,_⟩ | ⟨b1,o1,c1,h1,hle,hr,hw⟩
   ·cases h
   ·simp only [Value.slice.injEq,Option.some.injEq,Addr.mk.injEq,true_and,and_true] at h1
    obtain ⟨⟨rfl,rfl⟩,rfl⟩:=h1
    exact ⟨hr,hle⟩
  have s2:=x.size
  refine ⟨_,0,cap',rfl,⟨by rw [r,hlen],x.row hr.1 fun i _ g=>by simp only [rng] at g;omega,by rw [Nat.zero_add];exact x.wok h4,by omega,x.wok (h2.wok h.hok),by omega⟩,h2.trans x (fun y o g=>g.elim) fun y o _ g=>.inl ?_,.inr ⟨rfl,by omega⟩⟩
  simp only [rng] at g;omega
theorem SE.erase {w w1 w2 w3:World} {hb ho bi oi cap i:Nat} {ks:List α} (h:SE E w hb ho ks bi oi cap) (hi:i<ks.length)
  (x1:Ext (rng bi (oi+i*E.sz) ((ks.length-1-i)*E.sz)) w w1) (r1:Row w1 bi (oi+i*E.sz) (flat E (ks.drop (i+1)))) (x2:Ext (rng bi (oi+(ks.length-1)*E.sz) E.sz) w1 w2)
  (x3:Ext (rng hb ho 1) w2 w3) (r3:rd w3 hb ho=some (.slice (some ⟨bi,oi,none⟩) (ks.length-1:Nat) cap)) :
  SE E w3 hb ho (ks.eraseIdx i) bi oi cap/\Ext (seF E hb ho bi oi cap) w w3:=by
 have hne:=h.ne
 have hle:=h.le
 have hcap:=Nat.mul_le_mul_right E.sz hle
 have e1:(ks.length-1)*E.sz=ks.length*E.sz-E.sz:=by rw [Nat.sub_mul,Nat.one_mul]
 have e2:(ks.length-1-i)*E.sz=(ks.length-1)*E.sz-i*E.sz:=Nat.sub_mul _ _ _
 have e3:(i+1)*E.sz<=ks.length*E.sz:=Nat.mul_le_mul_right _ hi
 have e4:(i+1)*E.sz=i*E.sz+E.sz:=by rw [Nat.add_mul,Nat.one_mul]
 have hl:(ks.eraseIdx i).length=ks.length-1:=by rw [List.length_eraseIdx,if_pos hi]
 have X:Ext (seF E hb ho bi oi cap) w w3:=((x1.mono fun y o _ g=>.inr (by simp only [rng] at g ⊢;omega)).tr (x2.mono fun y o _ g=>.inr (by simp only [rng] at g ⊢;omega))).tr (x3.mono fun y o _ g=>.inl (by simp only [rng] at g;omega))
 refine ⟨⟨by rw [hl];exact r3,?_,X.wok h.wi,by omega,X.wok h.hok,hne⟩,X⟩
 rw [List.eraseIdx_eq_take_drop_succ,flat_append]
 have hlt:(flat E (ks.take i)).length=i*E.sz:=by rw [flat_length,List.length_take];congr 1;omega
 have hld:(flat E (ks.drop (i+1))).length=ks.length*E.sz-(i+1)*E.sz:=by rw [flat_length,List.length_drop,Nat.sub_mul]
 refine Row.append.2 ⟨?_,?_⟩
 ·have h0:=h.row.take (i*E.sz)
  rw [flat_take] at h0
  refine x3.row (x2.row (x1.row h0 fun j hj g=>?_) fun j hj g=>?_) fun j hj g=>?_
  ·rw [hlt] at hj;simp only [rng] at g;omega
  ·rw [hlt] at hj;simp only [rng] at g;omega
  ·simp only [rng] at g;omega
 ·rw [hlt]
  refine x3.row (x2.row r1 fun j hj g=>?_) fun j hj g=>?_
  ·rw [hld] at hj;simp only [rng] at g;omega
  ·simp only [rng] at g;omega
theorem SE.set {w w':World} {hb ho bi oi cap i:Nat} {ks:List α} {x:α} (h:SE E w hb ho ks bi oi cap) (hi:i<ks.length) (X:Ext (rng bi (oi+i*E.sz) E.sz) w w') (r:Row w' bi (oi+i*E.sz) (E.cel x)) :
  SE E w' hb ho (ks.set i x) bi oi cap/\Ext (seF E hb ho bi oi cap) w w':=by
 have hne:=h.ne
 have hle:=h.le
 have hcap:=Nat.mul_le_mul_right E.sz hle
 have e3:(i+1)*E.sz<=ks.length*E.sz:=Nat.mul_le_mul_right _ hi
 have e4:(i+1)*E.sz=i*E.sz+E.sz:=by rw [Nat.add_mul,Nat.one_mul]
 have hrow:Row w' bi oi (flat E (ks.set i x)):=by
  rw [List.set_eq_take_append_cons_drop,if_pos hi,flat_append,flat_cons]
  have hl:(flat E (ks.take i)).length=i*E.sz:=by rw [flat_length,List.length_take];congr 1;omega
  refine Row.append.2 ⟨?_,Row.append.2 ⟨by rw [hl];exact r,?_⟩⟩
  ·rw [<-flat_take]
   exact X.row (h.row.take _) fun j hj g=>by rw [flat_take,hl] at hj;simp only [rng] at g;omega
  ·rw [hl,E.len,<-flat_drop]
   have h1:=h.row.drop ((i+1)*E.sz)
   rw [e4,<-Nat.add_assoc] at h1
   rw [e4]
   exact X.row h1 fun j hj g=>by simp only [rng] at g;omega
 refine ⟨⟨by rw [List.length_set];exact X.rd h.hd (by simp only [rng];omega),hrow,X.wok h.wi,by rw [List.length_set];exact hle,X.wok h.hok,hne⟩,X.mono fun y o _ g=>.inr (by simp only [rng] at g ⊢;omega)⟩
end
end Go.Proofs.Ytbnnkcofnmipoaa
namespace Go.Proofs.Ytbnnkcofnmipoaa
open Go
structure Ob where
 p:World->(Nat->Nat->Prop)->Nat->Prop
 loc:∀ {w w':World} {F G:Nat->Nat->Prop} {K:Nat},p w F K->Ext G w w'->(∀ y o,F y o->¬ G y o)->p w' F K
 lt:∀ {w:World} {F:Nat->Nat->Prop} {K:Nat},p w F K->(∀ y o,F y o->y<w.heap.size)/\K<w.heap.size
structure St (w0:World) (G:Nat->Nat->Prop) (w:World) (P:List Ob) (F:Nat->Nat->Nat->Prop) (K:Nat->Nat):Prop where
 o:∀ (i:Nat) (A:Ob),P[i]? = some A->A.p w (F i) (K i)
 d:∀ i j,i<P.length->j<P.length->i ≠ j->∀ y o,F i y o->¬ F j y o
 s:∀ i,i<P.length->∀ y o,F i y o->G y o\/w0.heap.size<=y
 r:∀ i,i+3<P.length->K i ≠ K (i+3)
 x:Ext G w0 w
def Ss (w0:World) (G:Nat->Nat->Prop) (w:World) (P:List Ob):Prop:=∃ F K,St w0 G w P F K
theorem Ss.x {w0 w:World} {G:Nat->Nat->Prop} {P:List Ob} (s:Ss w0 G w P):Ext G w0 w:=s.elim fun _ h=>h.elim fun _ h=>h.x
theorem St.step {w0 w w':World} {G:Nat->Nat->Prop} {P:List Ob} {F:Nat->Nat->Nat->Prop} {K:Nat->Nat} (s:St w0 G w P F K) {i:Nat} {A:Ob} (hi:P[i]? = some A) (B:Ob) {F':Nat->Nat->Prop} {K':Nat}
  (x:Ext (F i) w w') (hB:B.p w' F' K') (hF:∀ y o,F' y o->F i y o\/w.heap.size<=y) (hK:K'=K i\/w.heap.size<=K'):Ss w0 G w' (P.set i B):=by
 have hil:=(List.getElem?_eq_some_iff.1 hi).1
 have hlt:∀ j,j<P.length->(∀ y o,F j y o->y<w.heap.size)/\K j<w.heap.size:=fun j hj=>(P[j]).lt (s.o j _ (List.getElem?_eq_getElem hj))
 refine ⟨fun j=>if j=i then F' else F j,fun j=>if j=i then K' else K j,⟨fun j C hj=>?_,fun j k hj hk hne y o g h=>?_,fun j hj y o g=>?_,fun j hj=>?_,s.x.trans x (fun _ _ g=>g) fun y o hy g=>?_⟩⟩
 ·by_cases hji:j=i
  ·subst hji
   rw [if_pos rfl,if_pos rfl]
   rw [List.getElem?_set_self hil] at hj
   cases hj
   exact hB
  ·rw [if_neg hji,if_neg hji]
   rw [List.getElem?_set_ne (Ne.symm hji)] at hj
   have hjl:=(List.getElem?_eq_some_iff.1 hj).1
   exact C.loc (s.o j C hj) x (s.d j i hjl hil hji)
 ·rw [List.length_set] at hj hk
  by_cases hji:j=i
  ·subst hji
   have hki:k ≠ j:=Ne.symm hne
   rw [if_pos rfl] at g
   rw [if_neg hki] at h
   rcases hF y o g with g | g
   ·exact s.d j k hj hk hne y o g h
   ·have:=(hlt k hk).1 y o h;omega
  ·rw [if_neg hji] at g
   by_cases hki:k=i
   ·subst hki
    rw [if_pos rfl] at h
    rcases hF y o h with h | h
    ·exact s.d j k hj hk hne y o g h
    ·have:=(hlt j hj).1 y o g;omega
   ·rw [if_neg hki] at h
    exact s.d j k hj hk hne y o g h
 ·rw [List.length_set] at hj
  by_cases hji:j=i
  ·subst hji
   rw [if_pos rfl] at g
   rcases hF y o g with g | g
   ·exact s.s j hj y o g
   ·have:=s.x.size;exact .inr (by omega)
  ·rw [if_neg hji] at g
   exact s.s j hj y o g
 ·rw [List.length_set] at hj
  have h1:=s.r j hj
  have h2:=(hlt j (by omega)).2
  have h3:=(hlt (j+3) hj).2
  by_cases hji:j=i
  ·subst hji
   rw [if_pos rfl,if_neg (by omega)]
   omega
  ·rw [if_neg hji]
   by_cases hki:j+3=i
   ·subst hki
    rw [if_pos rfl];omega
   ·rw [if_neg hki];exact h1
 ·rcases s.s i hil y o g with g | g
  ·exact g
  ·omega
theorem Ss.ext0 {w0 w w':World} {G:Nat->Nat->Prop} {P:List Ob} (s:Ss w0 G w P) (x:Ext noF w w'):Ss w0 G w' P:=by
 obtain ⟨F,K,s⟩:=s
 exact ⟨F,K,fun i A h=>A.loc (s.o i A h) x fun _ _ _ g=>g,s.d,s.s,s.r,s.x.trans x (fun _ _ g=>g) fun _ _ _ g=>g.elim⟩
section
variable {α:Type} {E:Enc α}
theorem Own.se {w:World} {b:Nat} {iso cnt:Int} {bi oi cap:Nat} {ks:List α} {ch:Value} (h:Own E w b iso cnt bi oi cap ks ch):SE E w b 2 ks bi oi cap:=⟨h.h2,h.row,h.wi,h.le,h.wb.mono (by decide),h.ne⟩
theorem seF_own {b bi oi cap:Nat} {y o:Nat} (h:seF E b 2 bi oi cap y o):ownF E b bi oi cap y o:=by
 rcases h with ⟨h,_⟩ | h
 ·exact .inl h
 ·exact .inr h
theorem Own.step {w w':World} {b:Nat} {iso cnt:Int} {bi oi cap bi' oi' cap':Nat} {ks ks':List α} {ch:Value} (h:Own E w b iso cnt bi oi cap ks ch) (s:SE E w' b 2 ks' bi' oi' cap') (x:Ext (seF E b 2 bi oi cap) w w') :
  Own E w' b iso cnt bi' oi' cap' ks' ch:=by
 have hne:=h.ne
 have hn:∀ o,o ≠ 2->¬ seF E b 2 bi oi cap b o:=fun o ho g=>by
  rcases g with g | g
  ·omega
  ·exact hne g.1.symm
 exact ⟨x.rd h.h0 (hn _ (by decide)),x.rd h.h1 (hn _ (by decide)),s.hd,x.rd h.h3 (hn _ (by decide)),x.wok h.wb,s.row,s.wi,s.le,s.ne⟩
theorem Own.cnt' {w w':World} {b:Nat} {iso cnt cnt':Int} {bi oi cap:Nat} {ks:List α} {ch:Value} (h:Own E w b iso cnt bi oi cap ks ch) (x:Ext (rng b 1 1) w w') (r:rd w' b 1=some (.int .i64 cnt')) :
  Own E w' b iso cnt' bi oi cap ks ch:=by
 have hne:=h.ne
 refine ⟨x.rd h.h0 ?_,r,x.rd h.h2 ?_,x.rd h.h3 ?_,x.wok h.wb,x.row h.row fun i _ g=>?_,x.wok h.wi,h.le,h.ne⟩
 ·simp only [rng];omega
 ·simp only [rng];omega
 ·simp only [rng];omega
 ·exact hne g.1
def Eo:Enc (Option Nat) where
 cel o:=[.pointer (o.map fun b=>⟨b,0,none⟩)]
 sz:=1
 len _:=rfl
 one o v hv:=by simp at hv;subst hv;rfl
 pos:=by decide
theorem Eo_sz:Eo.sz=1:=id (Eq.trans rfl rfl)
theorem flat_Eo (l:List Nat):flat Eo (l.map some)=l.map ptr:=by
 induction l with
 | nil=>rfl
 | cons x l ih=>rw [List.map_cons,flat_cons,ih];rfl
theorem Kids.se {w:World} {bc ba oa capc:Nat} {ps:List Nat} (h:Kids w bc ba oa capc ps):SE Eo w bc 0 (ps.map some) ba oa capc :=
 ⟨by rw [List.length_map];exact h.c0,by rw [flat_Eo];exact h.row,by rw [Eo_sz,Nat.mul_one];exact h.wa,by rw [List.length_map];exact h.le,h.wc,h.ne⟩
theorem SE.kids {w:World} {bc ba oa capc:Nat} {ps:List Nat} (h:SE Eo w bc 0 (ps.map some) ba oa capc):Kids w bc ba oa capc ps :=
 ⟨by have:=h.hd;rw [List.length_map] at this;exact this,h.hok,by have:=h.row;rw [flat_Eo] at this;exact this,by have:=h.wi;rw [Eo_sz,Nat.mul_one] at this;exact this,by have:=h.le;rw [List.length_map] at this;exact this,h.ne⟩
theorem seF_kid {bc ba oa capc:Nat} {y o:Nat} (h:seF Eo bc 0 ba oa capc y o):kidF bc ba oa capc y o:=by
 rcases h with ⟨h,_⟩ | h
 ·exact .inl h
 ·rw [Eo_sz,Nat.mul_one] at h;exact .inr h
def ndO (E:Enc α) (iso:Int) (z b:Nat) (cnt:Int) (ks:List α) (ch:Value):Ob where
 p w F K:=∃ bi oi cap,Own E w b iso cnt bi oi cap ks ch/\z<=cap/\K=bi/\∀ y o,F y o ↔ ownF E b bi oi cap y o
 loc:=fun ⟨bi,oi,cap,h,hz,hK,hF⟩ x hd=>⟨bi,oi,cap,h.ext x fun y o g=>hd y o ((hF y o).2 g),hz,hK,hF⟩
 lt:=fun ⟨_,_,_,h,_,hK,hF⟩=>⟨fun y o g=>h.lt ((hF y o).1 g),hK ▸ wok_lt h.wi⟩
def kdO (ch:Value) (ps:List (Option Nat)):Ob where
 p w F K:=(ch = .pointer none/\ps=[]/\K<w.heap.size/\∀ y o,¬ F y o)\/∃ bc ba oa capc,ch=ptr bc/\SE Eo w bc 0 ps ba oa capc/\K=ba/\∀ y o,F y o ↔ kidF bc ba oa capc y o
 loc:=fun h x hd=>h.imp (fun ⟨h1,h2,h3,h4⟩=>⟨h1,h2,Nat.lt_of_lt_of_le h3 x.size,h4⟩) fun ⟨bc,ba,oa,capc,h1,h,hK,hF⟩=>⟨bc,ba,oa,capc,h1,h.ext x fun y o g=>hd y o ((hF y o).2 (seF_kid g)),hK,hF⟩
 lt:=fun h=>by
  rcases h with ⟨_,_,hK,h⟩ | ⟨bc,ba,_,_,_,h,hK,hF⟩
  ·exact ⟨fun y o g=>(h y o g).elim,hK⟩
  ·have:=h.lt
   refine ⟨fun y o g=>?_,by omega⟩
   rcases (hF y o).1 g with g | g
   ·omega
   ·have:=g.1;omega
theorem ownF_new {b bi oi cap bi' oi' cap' B:Nat} (h:(bi'=bi/\oi'=oi/\cap'=cap)\/B<=bi') {y o:Nat} (g:ownF E b bi' oi' cap' y o):ownF E b bi oi cap y o\/B<=y:=by
 rcases h with ⟨rfl,rfl,rfl⟩ | h
 ·exact .inl g
 ·rcases g with g | g
  ·exact .inl (.inl g)
  ·exact .inr (by have:=g.1;omega)
theorem kidF_new {bc ba oa capc ba' oa' capc' B:Nat} (h:(ba'=ba/\oa'=oa/\capc'=capc)\/B<=ba') {y o:Nat} (g:kidF bc ba' oa' capc' y o):kidF bc ba oa capc y o\/B<=y:=by
 rcases h with ⟨rfl,rfl,rfl⟩ | h
 ·exact .inl g
 ·rcases g with g | g
  ·exact .inl (.inl g)
  ·exact .inr (by have:=g.1;omega)
theorem Ss.nd {w0 w:World} {G:Nat->Nat->Prop} {P:List Ob} (s:Ss w0 G w P) (i:Nat) {iso:Int} {z b:Nat} {cnt:Int} {ks:List α} {ch:Value} (hi:P[i]? = some (ndO E iso z b cnt ks ch)) :
  ∃ bi oi cap,Own E w b iso cnt bi oi cap ks ch ∧
   (∀ {w':World} {ks':List α} {bi' oi' cap':Nat},SE E w' b 2 ks' bi' oi' cap'->Ext (seF E b 2 bi oi cap) w w'->((bi'=bi/\oi'=oi/\cap'=cap)\/(w.heap.size<=bi'/\z<=cap'))->Ss w0 G w' (P.set i (ndO E iso z b cnt ks' ch))) ∧
   (∀ {w':World} {cnt':Int},Ext (rng b 1 1) w w'->rd w' b 1=some (.int .i64 cnt')->Ss w0 G w' (P.set i (ndO E iso z b cnt' ks ch))):=by
 obtain ⟨F,K,s⟩:=s
 obtain ⟨bi,oi,cap,h,hz,hK,hF⟩:=s.o i _ hi
 refine ⟨bi,oi,cap,h,fun {w' ks' bi' oi' cap'} s' x hb=>s.step hi _ (x.mono fun y o _ g=>(hF y o).2 (seF_own g)) ⟨bi',oi',cap',h.step s' x,by omega,rfl,fun _ _=>Iff.rfl⟩ (fun y o g=>?_) (by rw [hK];exact hb.imp And.left And.left),
  fun {w' cnt'} x r=>s.step hi _ (x.mono fun y o _ g=>(hF y o).2 (.inl g.1)) ⟨bi,oi,cap,h.cnt' x r,hz,rfl,fun _ _=>Iff.rfl⟩ (fun y o g=>.inl ((hF y o).2 g)) (.inl hK.symm)⟩
 rcases ownF_new (hb.imp id And.left) g with g | g
 ·exact .inl ((hF y o).2 g)
 ·exact .inr g
theorem Ss.kd {w0 w:World} {G:Nat->Nat->Prop} {P:List Ob} (s:Ss w0 G w P) (i:Nat) {bc:Nat} {ps:List (Option Nat)} (hi:P[i]? = some (kdO (ptr bc) ps)) :
  ∃ ba oa capc,SE Eo w bc 0 ps ba oa capc ∧
   (∀ {w':World} {ps':List (Option Nat)} {ba' oa' capc':Nat},SE Eo w' bc 0 ps' ba' oa' capc'->Ext (seF Eo bc 0 ba oa capc) w w'->((ba'=ba/\oa'=oa/\capc'=capc)\/w.heap.size<=ba')->Ss w0 G w' (P.set i (kdO (ptr bc) ps'))):=by
 obtain ⟨F,K,s⟩:=s
 rcases s.o i _ hi with ⟨h,_⟩ | ⟨bc',ba,oa,capc,h1,h,hK,hF⟩
 ·cases h
 ·obtain rfl:bc=bc':=by simpa [ptr] using h1
  refine ⟨ba,oa,capc,h,fun {w' ps' ba' oa' capc'} s' x hb=>s.step hi _ (x.mono fun y o _ g=>(hF y o).2 (seF_kid g)) (.inr ⟨bc,ba',oa',capc',rfl,s',rfl,fun _ _=>Iff.rfl⟩) (fun y o g=>?_) (by rw [hK];exact hb.imp And.left id)⟩
  rcases kidF_new hb g with g | g
  ·exact .inl ((hF y o).2 g)
  ·exact .inr g
end
section
variable {α:Type} {E:Enc α}
theorem SE.down {w w1:World} {hb ho bi oi cap i:Nat} {ks:List α} (h:SE E w hb ho ks bi oi cap) (hi:i<ks.length)
  (x1:Ext (rng bi (oi+i*E.sz) ((ks.length-1-i)*E.sz)) w w1) (r1:Row w1 bi (oi+i*E.sz) (flat E (ks.drop (i+1)))) :
  ∃ z,SE E w1 hb ho (ks.eraseIdx i++[z]) bi oi cap/\Ext (seF E hb ho bi oi cap) w w1:=by
 obtain ⟨z,hz⟩:∃ z,ks.drop (ks.length-1)=[z]:=List.length_eq_one_iff.1 (by rw [List.length_drop];omega)
 refine ⟨z,?_⟩
 rw [<-hz]
 have hne:=h.ne
 have hle:=h.le
 have hcap:=Nat.mul_le_mul_right E.sz hle
 have e1:(ks.length-1)*E.sz=ks.length*E.sz-E.sz:=by rw [Nat.sub_mul,Nat.one_mul]
 have e2:(ks.length-1-i)*E.sz=(ks.length-1)*E.sz-i*E.sz:=Nat.sub_mul _ _ _
 have e3:(i+1)*E.sz<=ks.length*E.sz:=Nat.mul_le_mul_right _ hi
 have e4:(i+1)*E.sz=i*E.sz+E.sz:=by rw [Nat.add_mul,Nat.one_mul]
 have hl:(ks.eraseIdx i++ks.drop (ks.length-1)).length=ks.length:=by rw [List.length_append,List.length_eraseIdx,if_pos hi,List.length_drop];omega
 have X:Ext (seF E hb ho bi oi cap) w w1:=x1.mono fun y o _ g=>.inr (by simp only [rng] at g ⊢;omega)
 refine ⟨⟨by rw [hl];exact x1.rd h.hd (by simp only [rng];omega),?_,X.wok h.wi,by omega,X.wok h.hok,hne⟩,X⟩
 rw [List.eraseIdx_eq_take_drop_succ,List.append_assoc,flat_append,flat_append]
 have hlt:(flat E (ks.take i)).length=i*E.sz:=by rw [flat_length,List.length_take];congr 1;omega
 have hld:(flat E (ks.drop (i+1))).length=ks.length*E.sz-(i+1)*E.sz:=by rw [flat_length,List.length_drop,Nat.sub_mul]
 refine Row.append.2 ⟨?_,Row.append.2 ⟨?_,?_⟩⟩
 ·have h0:=h.row.take (i*E.sz)
  rw [flat_take] at h0
  refine x1.row h0 fun j hj g=>?_
  rw [hlt] at hj;simp only [rng] at g;omega
 ·rw [hlt];exact r1
 ·rw [hlt,hld]
  have h0:=h.row.drop ((ks.length-1)*E.sz)
  rw [flat_drop] at h0
  have ho:oi+i*E.sz+(ks.length*E.sz-(i+1)*E.sz)=oi+(ks.length-1)*E.sz:=by omega
  rw [ho]
  refine x1.row h0 fun j hj g=>?_
  simp only [rng] at g;omega
theorem SE.up {w w1:World} {hb ho bi oi cap o1:Nat} {ks:List α} {z:α} (h:SE E w hb ho (ks++[z]) bi oi cap)
  (x1:Ext (rng bi o1 (ks.length*E.sz)) w w1) (r1:Row w1 bi o1 (flat E ks)) (ho1:0<ks.length->o1=oi+E.sz) :
  SE E w1 hb ho ((ks++[z]).take 1++ks) bi oi cap/\Ext (seF E hb ho bi oi cap) w w1:=by
 have hne:=h.ne
 have hle:=h.le
 rw [List.length_append,List.length_singleton] at hle
 have hcap:=Nat.mul_le_mul_right E.sz hle
 have e1:(ks.length+1)*E.sz=ks.length*E.sz+E.sz:=by rw [Nat.add_mul,Nat.one_mul]
 have hk0:ks.length=0->ks.length*E.sz=0:=fun e=>by rw [e,Nat.zero_mul]
 have X1:Ext (seF E hb ho bi oi cap) w w1:=x1.mono fun y o _ g=>.inr (by
  simp only [rng] at g ⊢
  by_cases hk:0<ks.length
  ·have:=ho1 hk;omega
  ·have:=hk0 (by omega);omega)
 have hl:((ks++[z]).take 1++ks).length=ks.length+1:=by simp only [List.length_append,List.length_take,List.length_singleton];omega
 have hl1:(flat E ((ks++[z]).take 1)).length=E.sz:=by rw [flat_length,List.length_take,List.length_append,List.length_singleton,Nat.min_eq_left (by omega),Nat.one_mul]
 refine ⟨⟨?_,?_,X1.wok h.wi,by omega,X1.wok h.hok,hne⟩,X1⟩
 ·have:=h.hd
  rw [List.length_append,List.length_singleton] at this
  rw [hl]
  exact x1.rd this (by simp only [rng];omega)
 ·rw [flat_append]
  refine Row.append.2 ⟨?_,?_⟩
  ·have h0:=h.row.take (1*E.sz)
   rw [flat_take] at h0
   refine x1.row h0 fun j hj g=>?_
   rw [hl1] at hj
   simp only [rng] at g
   by_cases hk:0<ks.length
   ·have:=ho1 hk;omega
   ·have:=hk0 (by omega);omega
  ·rw [hl1]
   by_cases hk:0<ks.length
   ·rw [<-ho1 hk];exact r1
   ·have:ks=[]:=List.eq_nil_of_length_eq_zero (by omega)
    rw [this];exact Row.nil _ _ _
theorem SE.cut {w w1:World} {hb ho bi oi cap:Nat} {ks:List α} {z:α} (h:SE E w hb ho (ks++[z]) bi oi cap) (x1:Ext (rng hb ho 1) w w1) (r1:rd w1 hb ho=some (.slice (some ⟨bi,oi,none⟩) ks.length cap)) :
  SE E w1 hb ho ks bi oi cap/\Ext (seF E hb ho bi oi cap) w w1:=by
 have hne:=h.ne
 have hle:=h.le
 rw [List.length_append,List.length_singleton] at hle
 have hr:=h.row
 rw [flat_append] at hr
 exact ⟨⟨r1,x1.row (Row.append.1 hr).1 fun j _ g=>by simp only [rng] at g;omega,x1.wok h.wi,by omega,x1.wok h.hok,hne⟩,x1.mono fun y o _ g=>.inl (by simp only [rng] at g;omega)⟩
theorem set_last {A:List α} {z x:α}:(A++[z]).set A.length x=A++[x]:=by simp
theorem set_first {A:List α} {z x:α}:((A++[z]).take 1++A).set 0 x=x::A:=by cases A<;>rfl
theorem SE.app' {w w1:World} {hb ho bi oi cap m:Nat} {ks ls:List α} {v':Value} (h:SE E w hb ho ks bi oi cap) (hm:ls.length=m) (a:AppRes w E.sz (.slice (some ⟨bi,oi,none⟩) ks.length cap) ks.length m (flat E ks) (flat E ls) v' w1) :
  ∃ bi' oi' cap',v' = .slice (some ⟨bi',oi',none⟩) (ks.length+m) cap'/\wok w1 hb (ho+1)/\w.heap.size<=w1.heap.size ∧
   ∀ w2,Ext (rng hb ho 1) w1 w2->rd w2 hb ho=some v'->SE E w2 hb ho (ks++ls) bi' oi' cap'/\Ext (seF E hb ho bi oi cap) w w2/\((bi'=bi/\oi'=oi/\cap'=cap)\/w.heap.size<=bi'):=by
 have key:∃ bi' oi' cap',v' = .slice (some ⟨bi',oi',none⟩) (ks.length+m) cap'/\wok w1 hb (ho+1)/\w.heap.size<=w1.heap.size:=by
  rcases a.2 with ⟨_,_,h3⟩ | ⟨b0,o0,cap0,h1,h2,h3,h4,h5⟩ | ⟨cap',h1,h2,h3,h4⟩
  ·cases h3
  ·exact ⟨_,_,_,h2,h3.wok h.hok,by omega⟩
  ·exact ⟨_,_,_,h1,h2.wok h.hok,by omega⟩
 obtain ⟨bi',oi',cap',hv,hw,hs⟩:=key
 refine ⟨bi',oi',cap',hv,hw,hs,fun w2 x r=>?_⟩
 obtain ⟨bi2,oi2,cap2,hv2,h1,h2,h3⟩:=h.app hm a x r
 rw [hv] at hv2
 simp only [Value.slice.injEq,Option.some.injEq,Addr.mk.injEq,true_and,and_true] at hv2
 obtain ⟨⟨rfl,rfl⟩,rfl⟩:=hv2
 exact ⟨h1,h2,h3.imp id fun g=>Nat.le_of_eq g.1.symm⟩
theorem SE.from {w:World} {hb ho bi oi cap:Nat} {ks:List α} (h:SE E w hb ho ks bi oi cap) {sz:Nat} (hsz:E.sz=sz) (i:Nat) (hi:i<=ks.length) :
  ∃ o1,slFrom bi oi sz i ks.length cap = .slice (some ⟨bi,o1,none⟩) (ks.length-i) (cap-i)/\(i<cap->o1=oi+i*sz)/\SlV w sz (.slice (some ⟨bi,o1,none⟩) (ks.length-i) (cap-i)) (ks.length-i) (flat E (ks.drop i))/\wok w bi (o1+(ks.length-i)*sz):=by
 subst hsz
 have hle:=h.le
 obtain ⟨o1,h1,h2,h3⟩:=slFrom_sl bi oi E.sz i ks.length cap
 have hl:(flat E (ks.drop i)).length=(ks.length-i)*E.sz:=by rw [flat_length,List.length_drop]
 have e1:(ks.length-i)*E.sz=ks.length*E.sz-i*E.sz:=Nat.sub_mul _ _ _
 have e2:=Nat.mul_le_mul_right E.sz hle
 have e3:=Nat.mul_le_mul_right E.sz hi
 have e4:(cap-i)*E.sz=cap*E.sz-i*E.sz:=Nat.sub_mul _ _ _
 by_cases hc:cap=i
 ·have ho:=h3 hc
  have hi0:ks.length-i=0:=by omega
  have hd:ks.drop i=[]:=List.drop_eq_nil_of_le (by omega)
  have e5:(ks.length-i)*E.sz=0:=by rw [hi0,Nat.zero_mul]
  refine ⟨o1,h1,fun g=>by omega,⟨by rw [hl],.inr ⟨bi,o1,cap-i,rfl,by omega,by rw [hd];exact Row.nil _ _ _,(h.wi.mono ?_).R (Nat.le_refl _)⟩⟩,h.wi.mono ?_⟩
  ·omega
  ·omega
 ·have ho:=h2 hc
  have hr:=h.row.drop (i*E.sz)
  rw [flat_drop,<-ho] at hr
  refine ⟨o1,h1,fun _=>ho,⟨by rw [hl],.inr ⟨bi,o1,cap-i,rfl,by omega,hr,(h.wi.mono ?_).R (Nat.le_refl _)⟩⟩,h.wi.mono ?_⟩
  ·omega
  ·omega
theorem New.keep {w w':World} {l:List Value} (n:New w w' l) (L:List Nat) (h:∀ b ∈ L,b<w.heap.size):keeps (some (some L)) w w':=keeps_on n.ext fun x hx=>⟨h x hx,fun _ g=>g⟩
theorem SE.ptr_at {w:World} {bc ba oa capc j p:Nat} {ps:List (Option Nat)} (h:SE Eo w bc 0 ps ba oa capc) (hp:ps[j]? = some (some p)):rd w ba (oa+j)=some (ptr p):=by
 have:=(Row.cons.1 (row_at Eo h.row hp)).1
 rw [Eo_sz,Nat.mul_one] at this
 exact this
end
theorem Ss.kdx {w0 w:World} {G:Nat->Nat->Prop} {P:List Ob} (s:Ss w0 G w P) (i:Nat) {bc:Nat} {ps:List (Option Nat)} (hi:P[i]? = some (kdO (ptr bc) ps)) (h0:0<ps.length) :
  ∃ ba oa capc,SE Eo w bc 0 ps ba oa capc ∧
   (∀ {w':World} {ps':List (Option Nat)} {ba' oa' capc':Nat},SE Eo w' bc 0 ps' ba' oa' capc'->Ext (seF Eo bc 0 ba oa capc) w w'->((ba'=ba/\oa'=oa/\capc'=capc)\/w.heap.size<=ba')->Ss w0 G w' (P.set i (kdO (ptr bc) ps'))) ∧
   (∀ {α:Type} {E:Enc α} (j:Nat) {iso:Int} {z b:Nat} {cnt:Int} {ks:List α} {ch:Value},j ≠ i->P[j]? = some (ndO E iso z b cnt ks ch)->b ≠ ba) ∧
   (∀ (j:Nat) {c:Nat} {qs:List (Option Nat)},j ≠ i->P[j]? = some (kdO (ptr c) qs)->c ≠ ba):=by
 obtain ⟨F,K,s⟩:=s
 rcases s.o i _ hi with ⟨h,_⟩ | ⟨bc',ba,oa,capc,h1,h,hK,hF⟩
 ·cases h
 ·obtain rfl:bc=bc':=by simpa [ptr] using h1
  have hle:=h.le
  have hil:=(List.getElem?_eq_some_iff.1 hi).1
  have hin:F i ba oa:=(hF _ _).2 (.inr ⟨rfl,Nat.le_refl _,by omega⟩)
  refine ⟨ba,oa,capc,h,fun {w' ps' ba' oa' capc'} s' x hb=>s.step hi _ (x.mono fun y o _ g=>(hF y o).2 (seF_kid g)) (.inr ⟨bc,ba',oa',capc',rfl,s',rfl,fun _ _=>Iff.rfl⟩) (fun y o g=>?_) (by rw [hK];exact hb.imp And.left id),fun {α E} j {iso z b cnt ks ch} hji hj hb=>?_,fun j {c qs} hji hj hc=>?_⟩
  ·rcases kidF_new hb g with g | g
   ·exact .inl ((hF y o).2 g)
   ·exact .inr g
  ·obtain ⟨bi,oi,cap,_,_,_,hF'⟩:=s.o j _ hj
   exact s.d j i (List.getElem?_eq_some_iff.1 hj).1 hil hji ba oa ((hF' _ _).2 (.inl hb.symm)) hin
  ·rcases s.o j _ hj with ⟨h,_⟩ | ⟨c',ba',oa',capc',h1,_,_,hF'⟩
   ·cases h
   ·obtain rfl:c=c':=by simpa [ptr] using h1
    exact s.d j i (List.getElem?_eq_some_iff.1 hj).1 hil hji ba oa ((hF' _ _).2 (.inl hc.symm)) hin
theorem app_keep {w w1:World} {sz n m bi oi cap:Nat} {l l':List Value} {v':Value} (a:AppRes w sz (.slice (some ⟨bi,oi,none⟩) n cap) n m l l' v' w1) (L:List Nat) (h:∀ x ∈ L,x<w.heap.size/\x ≠ bi):keeps (some (some L)) w w1:=by
 rcases a.2 with ⟨_,rfl,_⟩ | ⟨b0,o0,cap0,h1,_,h3,_⟩ | ⟨_,_,h2,_⟩
 ·exact keeps_refl _ _
 ·simp only [Value.slice.injEq,Option.some.injEq,Addr.mk.injEq,true_and,and_true] at h1
  obtain ⟨⟨rfl,rfl⟩,rfl⟩:=h1
  exact keeps_on h3 fun x hx=>⟨(h x hx).1,fun o g=>(h x hx).2 g.1⟩
 ·exact keeps_on h2 fun x hx=>⟨(h x hx).1,fun _ g=>g⟩
end Go.Proofs.Ytbnnkcofnmipoaa
namespace Go.Proofs.Ytbnnkcofnmipoaa
open Go
def pureOp (P:Program):Op->Bool
 | .move _=>true
 | .assign _=>true
 | .pick _ _ _=>true
 | .nilCheck _=>true
 | .binOp _ _ _ _ _=>true
 | .unOp .not _ _=>true
 | .slice _ _ _ _ _=>true
 | .fieldAddr T _ f=>(fOff P T f).isSome
 | .indexAddr _ _ _=>true
 | .extract _ _=>true
 | _=>false
theorem pure_tk {P:Program} {H H':Hold} {e:Env} {w w':World} {op:Op} (h:pureOp P op=true):tkOp P H e w op=tkOp P H' e w' op:=by
 cases op with
 | fieldAddr T x f =>
  obtain ⟨o,ho⟩:=Option.isSome_iff_exists.1 (show (fOff P T f).isSome=true from h)
  simp only [tkOp,foZ,ho]
 | unOp k T x=>cases k<;>first | rfl | cases h
 | _=>first | rfl | cases h
def ancs (ops:Array Oper) (f:Nat):Nat->List Nat
 | 0=>[f]
 | k+1=>let L:=ancs ops f k;if L.any (fun j=>waitsOn ops j (f-(k+1))) then (f-(k+1))::L else L
def descs (ops:Array Oper) (f:Nat):Nat->List Nat
 | 0=>[f]
 | k+1=>let L:=descs ops f k;if L.any (fun j=>waitsOn ops (f+(k+1)) j) then (f+(k+1))::L else L
def semiOk (P:Program) (ops:Array Oper) (f:Nat):Bool :=
 decide (f<ops.size) && (let A:=ancs ops f f;let D:=descs ops f (ops.size-f);(List.range ops.size).all fun i=>i == f || A.contains i || D.contains i || (ops[i]?).any fun o=>pureOp P o.op)
inductive Anc (ops:Array Oper) (f:Nat):Nat->Prop
 | self:Anc ops f f
 | step {j i:Nat}:Anc ops f j->waitsOn ops j i=true->Anc ops f i
inductive Desc (ops:Array Oper) (f:Nat):Nat->Prop
 | self:Desc ops f f
 | step {j i:Nat}:Desc ops f j->waitsOn ops i j=true->Desc ops f i
theorem ancs_spec {ops:Array Oper} {f:Nat}:∀ (k i:Nat),i ∈ ancs ops f k->Anc ops f i
 | 0,i,h=>by
  simp only [ancs,List.mem_singleton] at h
  subst h;exact .self
 | k+1,i,h=>by
  simp only [ancs] at h
  split at h
  ·rename_i hc
   rcases List.mem_cons.1 h with rfl | h
   ·obtain ⟨j,hj,hw⟩:=List.any_eq_true.1 hc
    exact .step (ancs_spec k j hj) hw
   ·exact ancs_spec k i h
  ·exact ancs_spec k i h
theorem descs_spec {ops:Array Oper} {f:Nat}:∀ (k i:Nat),i ∈ descs ops f k->Desc ops f i
 | 0,i,h=>by
  simp only [descs,List.mem_singleton] at h
  subst h;exact .self
 | k+1,i,h=>by
  simp only [descs] at h
  split at h
  ·rename_i hc
   rcases List.mem_cons.1 h with rfl | h
   ·obtain ⟨j,hj,hw⟩:=List.any_eq_true.1 hc
    exact .step (descs_spec k j hj) hw
   ·exact descs_spec k i h
  ·exact descs_spec k i h
theorem anc_ahead {ops:Array Oper} {f:Nat} {listed:Array Bool} (hc:ClosedUp ops listed) (hr:f ∈ Region.ready .any ops listed) {i:Nat} (h:Anc ops f i) (hu:listed.getD i false=false):i=f:=by
 induction h with
 | self=>rfl
 | @step j i hj hw ih =>
  cases hl:listed.getD j false with
  | true =>
   have:=waits_listed hc (.inr hl) hw
   rw [hu] at this;cases this
  | false =>
   obtain rfl:=ih hl
   have:=waits_listed hc (.inl hr) hw
   rw [hu] at this;cases this
theorem desc_behind {ops:Array Oper} {f:Nat} {listed:Array Bool} (hc:ClosedUp ops listed) (hf:f ∈ Region.ready .any ops listed) {i:Nat} (h:Desc ops f i) (hr:i ∈ Region.ready .any ops listed\/listed.getD i false=true):i=f:=by
 have key:i=f\/listed.getD f false=true:=by
  induction h with
  | self=>exact .inl rfl
  | @step j i hj hw ih =>
   have hl:=waits_listed hc hr hw
   rcases ih (.inr hl) with rfl | h
   ·exact .inr hl
   ·exact .inr h
 rcases key with h | h
 ·exact h
 ·exact (listed_unready h hf).elim
theorem semi_spec {P:Program} {ops:Array Oper} {f i:Nat} {o:Oper} (h:semiOk P ops f=true) (hi:ops[i]? = some o):i=f\/Anc ops f i\/Desc ops f i\/pureOp P o.op=true:=by
 simp only [semiOk,Bool.and_eq_true,decide_eq_true_eq,List.all_eq_true,List.mem_range,Bool.or_eq_true,beq_iff_eq] at h
 rcases h.2 i (Array.getElem?_eq_some_iff.1 hi).1 with ((h | h) | h) | h
 ·exact .inl h
 ·exact .inr (.inl (ancs_spec _ _ (by simpa using h)))
 ·exact .inr (.inr (.inl (descs_spec _ _ (by simpa using h))))
 ·rw [hi] at h;exact .inr (.inr (.inr h))
def linkOk (ops:Array Oper) (sd:List Nat) (f:Nat):Bool :=
 let A:=ancs ops f f;let D:=descs ops f (ops.size-f);sd.all fun i=>i == f || A.contains i || D.contains i
theorem link_spec {ops:Array Oper} {sd:List Nat} {f i:Nat} (h:linkOk ops sd f=true) (hi:sd.contains i=true):i=f\/Anc ops f i\/Desc ops f i:=by
 simp only [linkOk,List.all_eq_true,Bool.or_eq_true,beq_iff_eq] at h
 rcases h i (by simpa using hi) with (h | h) | h
 ·exact .inl h
 ·exact .inr (.inl (ancs_spec _ _ (by simpa using h)))
 ·exact .inr (.inr (descs_spec _ _ (by simpa using h)))
section
variable {P:Program} {ops:Array Oper} {Q:Exit->Act->World->Prop} {R:World->World->Prop} {sd:List Nat}
def wpM (P:Program) (ops:Array Oper) (Q:Exit->Act->World->Prop) (R:World->World->Prop) (sd:List Nat):Nat->Array Bool->World->Act->World->Prop
 | 0,listed,_,a,w=>Region.ready .any ops listed=[]/\Q .normal a w
 | fuel+1,listed,w0,a,w =>
  (Region.ready .any ops listed=[]->Q .normal a w) ∧
  ∀ i ∈ Region.ready .any ops listed,wpOp P ops Q i (fun a' w'=>(semiOk P ops i=true/\wpM P ops Q R sd fuel (listed.setIfInBounds i true) w' a' w') ∨
   ((linkOk ops sd i=true\/w'.heap=w.heap)/\R w0 w'/\wpM P ops Q R sd fuel (listed.setIfInBounds i true) w0 a' w')) a w
theorem wpAny_of_wpM:∀ (fuel:Nat) (listed:Array Bool) (w0:World) (a:Act) (w:World),wpM P ops Q R sd fuel listed w0 a w->wpAny P .any ops Q fuel listed a w
 | 0,_,_,_,_,h=>h
 | fuel+1,_,_,_,_,h=>⟨h.1,fun i hi=>wpOp_mono (fun a' w' h'=>h'.elim (fun h=>wpAny_of_wpM fuel _ _ a' w' h.2) fun h=>wpAny_of_wpM fuel _ _ a' w' h.2.2) (h.2 i hi)⟩
def Tol (P:Program) (R:World->World->Prop) (sd:List Nat) (o:Oper) (i:Nat) (w0 w u:World):Prop:=pureOp P o.op=true\/(sd.contains i=true/\u.heap=w.heap)\/(sd.contains i=false/\R w0 u)
theorem Gives.mono {S S':World->Prop} {o:Oper} {v:Value} {a:Act} (h:Gives P ops S o v a) (hS:∀ u,S' u->S u):Gives P ops S' o v a:=h.imp (fun ⟨h1,h2⟩=>⟨h1,fun w hw=>h2 w (hS w hw)⟩) id
theorem wpM_first {i:Nat} {oi:Oper} {v:Value} (hi:ops[i]? = some oi) (hR:∀ w,R w w)
  (hsel:∀ (j:Nat) (o:Oper) cs b,ops[j]? = some o->o.op ≠ .select cs b) (hQ:∀ c a w,¬ Q (.panic c) a w) :
  ∀ (fuel:Nat) (listed:Array Bool) (w0:World) (a:Act) (w:World),ClosedUp ops listed →
   (∀ j oj,ops[j]? = some oj->j ≠ i->listed.getD j true=false->(∀ e ∈ oj.after,Region.binds .any e=true->e.on ≠ i)->oi.apart ops oj=true) →
   i ∈ Region.ready .any ops listed->Gives P ops (Tol P R sd oi i w0 w) oi v a->R w0 w →
   wpM P ops Q R sd fuel (listed.setIfInBounds i true) w0 (a.put oi.dst v) w->wpM P ops Q R sd (fuel+1) listed w0 a w:=by
 have here:∀ {w0 w:World},R w0 w->Tol P R sd oi i w0 w w:=fun h=>by
  cases hs:sd.contains i with
  | true=>exact .inr (.inl ⟨hs,rfl⟩)
  | false=>exact .inr (.inr ⟨hs,h⟩)
 intro fuel
 induction fuel with
 | zero =>
  intro listed w0 a w _ _ hr hy hS H
  refine ⟨fun h=>(by rw [h] at hr;cases hr),fun j hj=>?_⟩
  by_cases hji:j=i
  ·subst hji;exact hy.wpOp hi (here hS) (.inr ⟨.inr rfl,hS,H⟩)
  ·have:=ready_mono hj hji
   rw [H.1] at this
   cases this
 | succ fuel ih =>
  intro listed w0 a w hc hfree hr hy hS H
  refine ⟨fun h=>(by rw [h] at hr;cases hr),fun j hj=>?_⟩
  by_cases hji:j=i
  ·subst hji;exact hy.wpOp hi (here hS) (.inr ⟨.inr rfl,hS,H⟩)
  ·have h1:=H.2 j (ready_mono hj hji)
   obtain ⟨hjun,oj,hoj,hall⟩:=mem_ready.1 hj
   have hiun:=(mem_ready.1 hr).1
   have his:i<ops.size:=(Array.getElem?_eq_some_iff.1 hi).1
   have hnot:∀ e ∈ oj.after,Region.binds .any e=true->e.on ≠ i:=fun e he hb heq=>by
    have h1:=hall e he hb
    rw [heq,getD_tf hiun] at h1
    cases h1
   have h2:=wpOp_before hoj (hfree j oj hoj hji hjun hnot) (fun cs b=>hsel i oi cs b hi) (fun cs b=>hsel j oj cs b hoj) hQ hy h1
   have hfree':∀ k ok,ops[k]? = some ok->k ≠ i->(listed.setIfInBounds j true).getD k true=false->(∀ e ∈ ok.after,Region.binds .any e=true->e.on ≠ i)->oi.apart ops ok=true:=fun k ok hk hki hun hno=>by
    refine hfree k ok hk hki ?_ hno
    by_cases hjk:j=k
    ·subst hjk;exact hjun
    ·rw [getD_set_ne true hjk] at hun;exact hun
   have apartL:¬ (i=j\/Anc ops j i\/Desc ops j i):=fun h=>by
    rcases h with h | h | h
    ·exact hji h.symm
    ·exact hji (anc_ahead hc hj h (getD_tf hiun)).symm
    ·exact hji (desc_behind hc hj h (.inl hr)).symm
   refine wpOp_mono (fun a' w' h3=>?_) h2
   rcases h3.2 with ⟨hb,hrest⟩ | ⟨hl,hS',hrest⟩
   ·refine .inl ⟨hb,ih (listed.setIfInBounds j true) w' a' w' (hc.set hj) hfree' (ready_mono hr (Ne.symm hji)) (h3.1.mono fun u _=>.inl ?_) (hR _) ?_⟩
    ·rcases semi_spec hb hi with h | h | h | h
     ·exact (apartL (.inl h)).elim
     ·exact (apartL (.inr (.inl h))).elim
     ·exact (apartL (.inr (.inr h))).elim
     ·exact h
    ·rw [Array.setIfInBounds_comm _ _ hji]
     exact hrest
   ·refine .inr ⟨hl,hS',ih (listed.setIfInBounds j true) w0 a' w' (hc.set hj) hfree' (ready_mono hr (Ne.symm hji)) (h3.1.mono fun u hu=>?_) hS' ?_⟩
    ·rcases hu with hu | ⟨hu,hh⟩ | hu
     ·exact .inl hu
     ·rcases hl with hl | hl
      ·exact (apartL (link_spec hl hu)).elim
      ·exact .inr (.inl ⟨hu,hh.trans hl⟩)
     ·exact .inr (.inr hu)
    ·rw [Array.setIfInBounds_comm _ _ hji]
     exact hrest
end
inductive PM where
 | nil
 | take (s:Bool) (i:Nat) (r:PM)
 | act (i:Nat) (r:PM)
 | bar (i:Nat) (r:PM)
 | split (i:Nat) (r:PM) (j:Nat) (s:PM)
def sdOf:PM->List Nat
 | .nil=>[]
 | .take true i r=>i::sdOf r
 | .take false _ r=>sdOf r
 | .act _ r=>sdOf r
 | .bar _ r=>sdOf r
 | .split _ r _ s=>sdOf r++sdOf s
def ptOkM (P:Program) (ops:Array Oper) (sd:List Nat):PM->Array Bool->Bool
 | .nil,listed=>(Region.ready .any ops listed).isEmpty
 | .take s i r,listed=>(s == sd.contains i) && (Region.ready .any ops listed).contains i && Region.free .any ops listed i && ptOkM P ops sd r (listed.setIfInBounds i true)
 | .act i r,listed=>decide (Region.ready .any ops listed=[i]) && linkOk ops sd i && ptOkM P ops sd r (listed.setIfInBounds i true)
 | .bar i r,listed=>decide (Region.ready .any ops listed=[i]) && semiOk P ops i && ptOkM P ops sd r (listed.setIfInBounds i true)
 | .split i r j s,listed=>decide (Region.ready .any ops listed=[i,j]) && linkOk ops sd i && linkOk ops sd j && ptOkM P ops sd r (listed.setIfInBounds i true) && ptOkM P ops sd s (listed.setIfInBounds j true)
def ptM:PM->Nat->Bool
 | .nil,n=>n == 0
 | .take _ _ r,n=>n != 0 && ptM r (n-1)
 | .act _ r,n=>n != 0 && ptM r (n-1)
 | .bar _ r,n=>n != 0 && ptM r (n-1)
 | .split _ r _ s,n=>n != 0 && ptM r (n-1) && ptM s (n-1)
def regOkM (P:Program) (n:Nat) (ops:Array Oper) (pl:PM):Bool :=
 Region.noSelect ops && dstsOk n ops && ptM pl ops.size && (let sd:=sdOf pl;ptOkM P ops sd pl (Array.replicate ops.size false))
def WPM (P:Program) (ops:Array Oper) (H:Hold) (Q:Post):PM->Env->World->Prop
 | .nil,e,w=>Q .normal e w
 | .take true i r,e,w=>withOp ops i (TakeO P ops (some none) (WPM P ops H Q r) e w)
 | .take false i r,e,w=>withOp ops i (TakeO P ops H (WPM P ops H Q r) e w)
 | .act i r,e,w=>DoAt P ops H none i (WPM P ops H Q r) e w
 | .bar i r,e,w=>DoB P ops i (WPM P ops H Q r) e w
 | .split i r j s,e,w=>DoAt P ops H none i (WPM P ops H Q r) e w/\DoAt P ops H none j (WPM P ops H Q s) e w
section
variable {P:Program} {ops:Array Oper} {n:Nat} {Q:Post} {sd:List Nat}
theorem wpM_of_plan {H:Hold} (hsel:Region.noSelect ops=true) (hd:dstsOk n ops=true) (hH:∀ a b c,keeps H a b->keeps H b c->keeps H a c) :
  ∀ (pl:PM) (k:Nat) (listed:Array Bool) (w0:World) (e:Env) (a:Act) (w:World),ptM pl k=true->Fr n e a->ClosedUp ops listed->ptOkM P ops sd pl listed=true->keeps H w0 w →
   WPM P ops H Q pl e w->wpM P ops (lift n Q) (keeps H) sd k listed w0 a w
 | .nil,k,listed,w0,e,a,w,hn,ha,_,hok,_,h=>by
  obtain rfl:k=0:=by simpa [ptM] using hn
  exact ⟨by simpa [ptOkM] using hok,e,ha,trivial,h⟩
 | .take s i r,0,listed,w0,e,a,w,hn,ha,hc,hok,hk,h=>by simp [ptM] at hn
 | .act i r,0,listed,w0,e,a,w,hn,ha,hc,hok,hk,h=>by simp [ptM] at hn
 | .bar i r,0,listed,w0,e,a,w,hn,ha,hc,hok,hk,h=>by simp [ptM] at hn
 | .split i r j s,0,listed,w0,e,a,w,hn,ha,hc,hok,hk,h=>by simp [ptM] at hn
 | .take s i r,k+1,listed,w0,e,a,w,hn,ha,hc,hok,hk,h=>by
  obtain ⟨o,ho,h⟩:withOp ops i (TakeO P ops (if s=true then some none else H) (WPM P ops H Q r) e w):=by cases s<;>exact h
  have hn':ptM r k=true:=by simpa [ptM] using hn
  simp only [ptOkM,Bool.and_eq_true,beq_iff_eq] at hok
  obtain ⟨⟨⟨hs,hr⟩,hf⟩,hok⟩:=hok
  have hr':i ∈ Region.ready .any ops listed:=by simpa using hr
  have go:∀ v,Gives P ops (Tol P (keeps H) sd o i w0 w) o v a->WPM P ops H Q r (updO e o.dst v) w →
    wpM P ops (lift n Q) (keeps H) sd (k+1) listed w0 a w:=fun v hg hw =>
   wpM_first ho (keeps_refl H) (Region.noSelect_spec hsel) lift_panic k listed w0 a w hc (Region.free_spec ho hf) hr' hg hk
    (wpM_of_plan hsel hd hH r k _ _ _ _ _ hn' (ha.put (dst_lt hd ho) v) (hc.set hr') hok hk hw)
  rcases guardE_cases h with ⟨hw,v,hv,hrest⟩ | ⟨hw,hrest⟩
  ·refine go v (.inl ⟨wanted_of ha hd hw,fun w' hk2=>?_⟩) hrest
   rw [ha.eval]
   rcases hk2 with hp | ⟨h1,h2⟩ | ⟨h1,h2⟩
   ·rw [pure_tk (H':=some (some [])) (w':=w) hp] at hv
    exact tk_sound hv fun b hb=>by simp [readsB] at hb
   ·exact tk_sound hv fun b _=>by rw [h2]
   ·rw [h1] at hs
    subst hs
    exact tk_sound hv fun b hb=>(keeps_reads h2 hb).trans (keeps_reads hk hb).symm
  ·exact go undef (.inr ⟨unwanted_of ha hd hw,rfl⟩) hrest
 | .act i r,k+1,listed,w0,e,a,w,hn,ha,hc,hok,hk,h=>by
  have hn':ptM r k=true:=by simpa [ptM] using hn
  simp only [ptOkM,Bool.and_eq_true,decide_eq_true_eq] at hok
  obtain ⟨⟨hr,hl⟩,hok⟩:=hok
  have hr':i ∈ Region.ready .any ops listed:=by rw [hr];simp
  refine ⟨fun h0=>(by rw [h0] at hr;cases hr),fun j hj=>?_⟩
  obtain rfl:j=i:=by rw [hr] at hj;simpa using hj
  refine wpOp_of_doAt ha hd h fun e' a' w' ha' hkk hrest=>?_
  have hk1:=hH _ _ _ hk (hkk.resolve_left (by simp))
  exact .inr ⟨.inl hl,hk1,wpM_of_plan hsel hd hH r k _ _ _ _ _ hn' ha' (hc.set hr') hok hk1 hrest⟩
 | .bar i r,k+1,listed,w0,e,a,w,hn,ha,hc,hok,hk,h=>by
  have hn':ptM r k=true:=by simpa [ptM] using hn
  simp only [ptOkM,Bool.and_eq_true,decide_eq_true_eq] at hok
  obtain ⟨⟨hr,hb⟩,hok⟩:=hok
  have hr':i ∈ Region.ready .any ops listed:=by rw [hr];simp
  refine ⟨fun h0=>(by rw [h0] at hr;cases hr),fun j hj=>?_⟩
  obtain rfl:j=i:=by rw [hr] at hj;simpa using hj
  refine wpOp_of_doB ha hd h fun e' a' w' ha' hrest=>.inl ⟨hb,?_⟩
  exact wpM_of_plan hsel hd hH r k _ _ _ _ _ hn' ha' (hc.set hr') hok (keeps_refl _ _) hrest
 | .split i r j s,k+1,listed,w0,e,a,w,hn,ha,hc,hok,hk,h=>by
  have hn':ptM r k=true/\ptM s k=true:=by simpa [ptM] using hn
  simp only [ptOkM,Bool.and_eq_true,decide_eq_true_eq] at hok
  obtain ⟨⟨⟨⟨hr,hl1⟩,hl2⟩,hok1⟩,hok2⟩:=hok
  have hi':i ∈ Region.ready .any ops listed:=by rw [hr];simp
  have hj':j ∈ Region.ready .any ops listed:=by rw [hr];simp
  refine ⟨fun h0=>(by rw [h0] at hr;cases hr),fun m hm=>?_⟩
  rw [hr] at hm
  rcases List.mem_cons.1 hm with rfl | hm
  ·refine wpOp_of_doAt ha hd h.1 fun e' a' w' ha' hkk hrest=>?_
   have hk1:=hH _ _ _ hk (hkk.resolve_left (by simp))
   exact .inr ⟨.inl hl1,hk1,wpM_of_plan hsel hd hH r k _ _ _ _ _ hn'.1 ha' (hc.set hi') hok1 hk1 hrest⟩
  ·obtain rfl:m=j:=by simpa using hm
   refine wpOp_of_doAt ha hd h.2 fun e' a' w' ha' hkk hrest=>?_
   have hk1:=hH _ _ _ hk (hkk.resolve_left (by simp))
   exact .inr ⟨.inl hl2,hk1,wpM_of_plan hsel hd hH s k _ _ _ _ _ hn'.2 ha' (hc.set hj') hok2 hk1 hrest⟩
theorem W_semi (H:Hold) (pl:PM) {id:Nat} {e:Env} {w:World} (hm:P.follows .mixedOrders=true)
  (hok:regOkM P n ops pl=true) (h:WPM P ops H Q pl e w.drew):W P n (.region id ops true) Q e w:=by
 intro a ha
 simp only [regOkM,Bool.and_eq_true] at hok
 obtain ⟨⟨⟨hsel,hd⟩,hlen⟩,hok⟩:=hok
 refine wp_region_any hm ?_
 have hc:ClosedUp ops (Array.replicate ops.size false):=⟨by simp,fun j oj _ hl=>by
  rcases Nat.lt_or_ge j ops.size with h | h
  ·simp [h] at hl
  ·simp [h] at hl⟩
 exact wpAny_of_wpM _ _ _ _ _ (wpM_of_plan hsel hd (keeps_trans H) pl _ _ w.drew e a w.drew hlen ha hc hok (keeps_refl _ _) h)
end
theorem rgm :
  (∀ {P:Program} {ops:Array Oper} {H:Hold} {Q:Post} {e:Env} {w:World},WPM P ops H Q .nil e w=Q Exit.normal e w) ∧
  (∀ {P:Program} {ops:Array Oper} {H:Hold} {Q:Post} {e:Env} {w:World} (i:Nat) (r:PM),WPM P ops H Q (.take true i r) e w=withOp ops i (TakeO P ops (some none) (WPM P ops H Q r) e w)) ∧
  (∀ {P:Program} {ops:Array Oper} {H:Hold} {Q:Post} {e:Env} {w:World} (i:Nat) (r:PM),WPM P ops H Q (.take false i r) e w=withOp ops i (TakeO P ops H (WPM P ops H Q r) e w)) ∧
  (∀ {P:Program} {ops:Array Oper} {H:Hold} {Q:Post} {e:Env} {w:World} (i:Nat) (r:PM),WPM P ops H Q (.act i r) e w=DoAt P ops H none i (WPM P ops H Q r) e w) ∧
  (∀ {P:Program} {ops:Array Oper} {H:Hold} {Q:Post} {e:Env} {w:World} (i:Nat) (r:PM),WPM P ops H Q (.bar i r) e w=DoB P ops i (WPM P ops H Q r) e w) ∧
  (∀ {P:Program} {ops:Array Oper} {H:Hold} {Q:Post} {e:Env} {w:World} (i j:Nat) (r s:PM),WPM P ops H Q (.split i r j s) e w=(DoAt P ops H none i (WPM P ops H Q r) e w/\DoAt P ops H none j (WPM P ops H Q s) e w)) :=
 ⟨id (Eq.trans rfl rfl),fun _ _=>id (Eq.trans rfl rfl),fun _ _=>id (Eq.trans rfl rfl),fun _ _=>id (Eq.trans rfl rfl),fun _ _=>id (Eq.trans rfl rfl),fun _ _ _ _=>id (Eq.trans rfl rfl)⟩
end Go.Proofs.Ytbnnkcofnmipoaa
namespace Go.Proofs.Ytbnnkcofnmipoaa
open Go Go.Proofs
theorem rb_k (x:It):bsV Try.prog 25 1 [(0,itV x)]=some (33,E.cel x):=by kernel_rfl
theorem rb_o (a:Option Addr):bsV Try.prog 166 1 [(0,.pointer a)]=some (96,[.pointer a]):=by kernel_rfl
theorem rb_eli:elK Try.prog 25=some (33,2,16,E.cel zIt):=by kernel_rfl
theorem rb_elk:elK Try.prog 166=some (96,1,8,[.pointer none]):=by kernel_rfl
theorem rb_len (x:It):(itV x).cells.toList.length=2:=rfl
theorem rb_oc (x:It):oc (itV x).cells.toList:=E.one x
theorem on1_0 (a:Nat):readsB (some (some [a])) a=true:=by simp [readsB]
theorem on2_0 (a b:Nat):readsB (some (some [a,b])) a=true:=by simp [readsB]
theorem on2_1 (a b:Nat):readsB (some (some [a,b])) b=true:=by simp [readsB]
theorem on3_0 (a b c:Nat):readsB (some (some [a,b,c])) a=true:=by simp [readsB]
theorem on3_1 (a b c:Nat):readsB (some (some [a,b,c])) b=true:=by simp [readsB]
theorem on3_2 (a b c:Nat):readsB (some (some [a,b,c])) c=true:=by simp [readsB]
theorem on5_0 (a b c d e:Nat):readsB (some (some [a,b,c,d,e])) a=true:=by simp [readsB]
theorem on5_1 (a b c d e:Nat):readsB (some (some [a,b,c,d,e])) b=true:=by simp [readsB]
theorem on5_2 (a b c d e:Nat):readsB (some (some [a,b,c,d,e])) c=true:=by simp [readsB]
theorem on5_3 (a b c d e:Nat):readsB (some (some [a,b,c,d,e])) d=true:=by simp [readsB]
theorem on5_4 (a b c d e:Nat):readsB (some (some [a,b,c,d,e])) e=true:=by simp [readsB]
theorem lt1 {B a:Nat} (h:a<B):∀ x ∈ [a],x<B:=by simp [h]
theorem lt2 {B a b:Nat} (h:a<B) (h2:b<B):∀ x ∈ [a,b],x<B:=by simp [h,h2]
theorem fkeep1 {B c a:Nat} (h:a<B/\a ≠ c):∀ x ∈ [a],x<B/\x ≠ c:=by simp [h]
theorem fkeep2 {B c a b:Nat} (h:a<B/\a ≠ c) (h2:b<B/\b ≠ c):∀ x ∈ [a,b],x<B/\x ≠ c:=by simp [h,h2]
theorem ix0 (sz b o n:Nat) (h:0<n):idxX (some sz) ⟨b,o,none⟩ n 0=some (.pointer (some ⟨b,o,none⟩)):=by
 have:=idxX_s sz b o n 0 h
 rwa [Nat.zero_mul,Nat.add_zero] at this
theorem W_st {P:Program} {n:Nat} {c:Code} {Q:Post} {e:Env} {w w0:World} {G:Nat->Nat->Prop} {L:List Ob} {v0 v1 v2 v6 v7:Value} (s:Ss w0 G w L) (h0:e 0=v0) (h1:e 1=v1) (h2:e 2=v2) (h6:e 6=v6) (h7:e 7=v7)
  (h:∀ (e':Env) (w':World),Ss w0 G w' L->e' 0=v0->e' 1=v1->e' 2=v2->e' 6=v6->e' 7=v7->W P n c Q e' w'):W P n c Q e w:=h e w s h0 h1 h2 h6 h7
def capS (v:Value):Prop:=∀ a n c,v = .slice a n c->c<9223372036854775808
theorem mod_cap {k x:Nat} (h:k<9223372036854775808):k+x % (2 ^ 63-k)<9223372036854775808:=by
 have:x % (2 ^ 63-k)<2 ^ 63-k:=Nat.mod_lt _ (by omega)
 omega
section
variable {P:Program} {w:World} {K:Value->World->Prop}
theorem AppK_introC {T U E sz by_:Nat} {z:List Value} {v x:Value} {n m:Nat} {l l':List Value} (hel:elK P T=some (E,sz,by_,z)) (hT:E<tyN) (hz:z.length=sz) (hU:noInt P U=true)
  (hv:SlV w sz v n l) (hx:SlV w sz x m l') (hbig:n+m<=4294967296) (hby:by_<=64) (hoc:oc l')
  (hK:∀ v' w',AppRes w sz v n m l l' v' w'->(capS v->capS v')->K v' w'):AppK P T U v x w K:=by
 intro ty
 unfold elK at hel
 cases hu:P.underlying T with
 | none=>simp [hu] at hel
 | some td =>
  cases td with
  | slice E' =>
   cases hi:P.info? E' with
   | none=>simp [hu,hi] at hel
   | some i =>
    cases hzz:i.zero with
    | none=>simp [hu,hi,hzz] at hel
    | some zv =>
     simp only [hu,hi,hzz,Option.map_some,Option.some.injEq,Prod.mk.injEq] at hel
     obtain ⟨rfl,rfl,rfl,rfl⟩:=hel
     unfold noInt at hU
     cases hud':P.underlying U with
     | none=>simp [hud'] at hU
     | some ud =>
      obtain ⟨eU,rfl⟩:∃ eU,ud = .slice eU:=by cases ud<;>simp [hud'] at hU;exact ⟨_,rfl⟩
      have hud:=hud'
      have hnew:=hx.first (P:=P) m (Nat.le_refl _)
      have hold:=hv.first (P:=P) n (Nat.le_refl _)
      rw [<-hx.1,List.take_length] at hnew
      rw [<-hv.1,List.take_length] at hold
      have hlen:=hx.len
      by_cases hroom:∃ b o cap,v = .slice (some ⟨b,o,none⟩) n cap/\n+m<=cap
      ·obtain ⟨b,o,cap,rfl,hle⟩:=hroom
       obtain ⟨hr,hw⟩:Row w b o l/\wokR w b o (cap*i.size):=by
        rcases hv.2 with ⟨h,_⟩ | ⟨b',o',cap',h,_,hr,hw⟩
        ·cases h
        ·cases h;exact ⟨hr,hw⟩
       have hfit:o+n*i.size+l'.length<=o+cap*i.size:=by
        rw [hx.1,Nat.add_assoc,<-Nat.add_mul];exact Nat.add_le_add_left (Nat.mul_le_mul_right _ hle) _
       have hst:=run_storeCellsR (P:=P) l' w b _ _ (o+n*i.size) 0 hw (by omega) hfit hoc
       rw [Nat.add_zero] at hst
       have hx1:Ext (rng b (o+n*i.size) l'.length) w (putW w b (o+n*i.size) l'):=putW_extR hw
       refine ⟨.slice (some ⟨b,o,none⟩) (n+m) cap,putW w b (o+n*i.size) l',?_,hK _ _ ⟨⟨?_,.inr ⟨b,o,cap,rfl,hle,?_,hx1.wokR hw⟩⟩,.inr (.inl ⟨b,o,cap,rfl,rfl,hx.1 ▸ hx1,by simp [putW],hle⟩)⟩ fun h a n' c e=>by cases e;exact h _ _ _ rfl⟩
       ·simp [Builtin.append_,run_underlying' hu,run_underlying' hud,run_sizeOf hi,hlen,hle,hnew,add_mk,hst]
       ·simp [hv.1,hx.1,Nat.add_mul]
       ·refine Row.append.2 ⟨hx1.row hr fun k hk hf=>?_,?_⟩
        ·have:=hf.2.1;rw [hv.1] at hk;omega
        ·rw [hv.1];exact putW_rowR hw (by omega) hfit
      ·by_cases hnil:v = .slice none 0 0/\m=0
       ·obtain ⟨rfl,rfl⟩:=hnil
        have hn:n=0:=by
         rcases hv.2 with ⟨_,h⟩ | ⟨b',o',cap',h,_⟩
         ·exact h
         ·cases h
        subst hn
        have hl':l'=[]:=List.eq_nil_of_length_eq_zero (by rw [hx.1];simp)
        have hl:l=[]:=List.eq_nil_of_length_eq_zero (by rw [hv.1];simp)
        subst hl hl'
        refine ⟨.slice none 0 0,w,?_,hK _ _ ⟨⟨by simp,.inl ⟨rfl,rfl⟩⟩,.inl ⟨rfl,rfl,rfl⟩⟩ id⟩
        simp [Builtin.append_,run_underlying' hu,run_underlying' hud,run_sizeOf hi,hlen,hnew]
       ·obtain ⟨base,cap,rfl,hgr⟩:∃ base cap,v = .slice base n cap/\cap<n+m:=by
         rcases hv.2 with ⟨h,h2⟩ | ⟨b',o',cap',h,hc,_⟩
         ·refine ⟨none,0,by rw [h,h2],?_⟩
          have:m ≠ 0:=fun hm=>hnil ⟨h,hm⟩
          omega
         ·refine ⟨_,cap',h,?_⟩
          exact Nat.lt_of_not_le fun hle=>hroom ⟨b',o',cap',h,hle⟩
        have h1:=nextcap_le hgr
        have h2:Builtin.nextslicecap (n+m) cap*i.bytes<=281474976710656:=by
         calc Builtin.nextslicecap (n+m) cap*i.bytes<=(2*(n+m)+256)*64:=Nat.mul_le_mul h1 hby
          _<=281474976710656:=by omega
        (have h2':¬ 281474976710656<Builtin.nextslicecap (n+m) cap*i.bytes:=by omega);(have h3:¬ (9223372036854775807<((n:Int)+(m:Int))):=by omega);(have h4:¬ (n+m<=cap):=by omega);let q:=Question.appendCap (n+m) cap E'
        have hq:q.forced=false:=rfl
        let c:=q.cut (w.tape w.drawn q)
        have hc:n+m<=c:=by show n+m<=(n+m)+_ % _;omega
        let cells:Array Value:=l.toArray++l'.toArray++Builtin.zeroCells zv.cells (c-(n+m))
        have hcs:cells.toList.length=c*i.size:=by
         have hz':zv.cells.size=i.size:=by simpa using hz
         simp only [cells,Array.toList_append,List.length_append,List.toList_toArray,hv.1,hx.1,Array.length_toList,Builtin.zeroCells,Array.size_map,Array.size_range,hz']
         rw [<-Nat.add_mul,<-Nat.add_mul];congr 1;omega
        have hnw:=new_alloc w.drew cells.toList E' hT
        rw [Array.toArray_toList] at hnw
        refine ⟨.slice (some ⟨w.heap.size,0,none⟩) (n+m) c,w.drew.alloc (.cells cells E'),?_,hK _ _ ⟨⟨?_,.inr ⟨_,0,c,rfl,hc,?_,?_⟩⟩,.inr (.inr ⟨c,rfl,(Ext.drew noF w).tr hnw.ext,hnw.size,by have:=hnw.wok;rwa [hcs] at this⟩)⟩ fun _ a n' c' e=>by cases e;show (n+m)+_ % (2 ^ 63-(n+m))<_;exact mod_cap (by omega)⟩
        ·have hold':(Builtin.firstCells i.size n (.slice base n cap)).run P w.drew = .ok l.toArray w.drew:=by
          have:=(show SlV w.drew i.size (.slice base n cap) n l from hv.ext0 (Ext.drew _ _)).first (P:=P) n (Nat.le_refl _)
          rwa [<-hv.1,List.take_length] at this
         have hnew':(Builtin.firstCells i.size m x).run P w.drew = .ok l'.toArray w.drew:=by
          have:=(show SlV w.drew i.size x m l' from hx.ext0 (Ext.drew _ _)).first (P:=P) m (Nat.le_refl _)
          rwa [<-hx.1,List.take_length] at this
         have hdr:({ w with drawn:=w.drawn+1 }:World)=w.drew:=rfl
         have hzv:∀ w,(zeroValue E').run P w = .ok zv w:=fun w=>by simp [zeroValue,typeInfo,hi,hzz]
         simp [Builtin.append_,run_underlying' hu,run_underlying' hud,run_sizeOf hi,hlen,h4,h3,h2',typeInfo,hi,hq,hdr,hold',hnew',hzv,newRow,q,c,cells]
        ·simp [hv.1,hx.1,Nat.add_mul]
        ·have:Row (w.drew.alloc (.cells cells E')) w.heap.size 0 cells.toList:=hnw.row
         have e1:cells.toList=(l++l')++(Builtin.zeroCells zv.cells (c-(n+m))).toList:=by simp [cells]
         rw [e1] at this
         exact (Row.append.1 this).1
        ·have:=hnw.wok
         rw [hcs] at this
         exact this.R (by omega)
  | _=>simp [hu] at hel
end
section
variable {P:Program} {ops:Array Oper} {C:World->World->Prop} {KE:Env->World->Prop} {e:Env} {w:World} {d:Option Nat} {ty:Nat} {pos:String} {af:Array Edge}
theorem do_appendC {T U E sz by_:Nat} {z:List Value} {x y:Operand} {v u:Value} {n m:Nat} {l l':List Value} (hx:ev e x=v) (hy:ev e y=u) (hel:elK P T=some (E,sz,by_,z)) (hz:z.length=sz)
  (hU:noInt P U=true) (hv:SlV w sz v n l) (hu:SlV w sz u m l') (hbig:n+m<=4294967296) (hby:by_<=64) (hoc:oc l')
  (hK:∀ v' w',AppRes w sz v n m l l' v' w'->(capS v->capS v')->C w w'/\KE (updO e d v') w') (hT:E<tyN:=by decide):DoO P ops C KE e w ⟨d,.call ⟨.builtin .append,#[x,y],#[T,U]⟩,ty,pos,af,none⟩ :=
 DoO_intro (DoOp_append (by rw [hx,hy];exact AppK_introC hel hT hz hU hv hu hbig hby hoc hK))
end
end Go.Proofs.Ytbnnkcofnmipoaa
namespace Go.Proofs.Ytbnnkcofnmipoaa
open Go Go.Proofs
abbrev Qe:=It × Option Nat
def eV (e:Qe):Value:=.agg #[.int .i64 e.1.1,.int .i64 e.1.2,.pointer (e.2.map fun b=>⟨b,0,none⟩)]
def Eq':Enc Qe where
 cel e:=[.int .i64 e.1.1,.int .i64 e.1.2,.pointer (e.2.map fun b=>⟨b,0,none⟩)]
 sz:=3
 len _:=rfl
 one e v hv:=by simp at hv;rcases hv with rfl | rfl | rfl<;>rfl
 pos:=by decide
theorem Eq_sz:Eq'.sz=3:=id (Eq.trans rfl rfl)
theorem eV_len (e:Qe):(eV e).cells.toList.length=3:=rfl
theorem eV_oc (e:Qe):oc (eV e).cells.toList:=Eq'.one e
theorem eV_at {w:World} {b o:Nat} {l:List Qe} (h:Row w b o (flat Eq' l)) {i:Nat} {e:Qe} (hi:l[i]? = some e):rdA w b (o+i*3) 3=some (eV e):=(row_at Eq' h hi).rdA 3 (by simp [Eq'])
theorem eI_at {w:World} {b o:Nat} {l:List Qe} (h:Row w b o (flat Eq' l)) {i:Nat} {e:Qe} (hi:l[i]? = some e):rdA w b (o+i*3) 2=some (itV e.1):=by
 have h1:Row w b (o+i*3) ([.int .i64 e.1.1,.int .i64 e.1.2]++[.pointer (e.2.map fun b=>⟨b,0,none⟩)]):=row_at Eq' h hi
 exact (Row.append.1 h1).1.rdA 2 (Nat.le_refl _)
theorem bu_e (x:It) (o:Option Nat):buildV Try.prog 205 [(0,itV x),(1,.pointer (o.map fun b=>⟨b,0,none⟩))]=some (eV (x,o)):=by kernel_rfl
theorem bu_e0:buildV Try.prog 205 []=some (eV ((0,0),none)):=by kernel_rfl
theorem bs_e1 (e:Qe):bsV Try.prog 113 1 [(0,eV e)]=some (205,Eq'.cel e):=by kernel_rfl
theorem el_e:elK Try.prog 113=some (205,3,24,[.int .i64 0,.int .i64 0,.pointer none]):=by kernel_rfl
theorem ni_e:noInt Try.prog 113=true:=by kernel_rfl
def leE (ord:List Int) (a b:Qe):Prop:=O.lt (rkI ord b.1) (rkI ord a.1)=false
theorem leE_tr {ord:List Int} (a b c:Qe) (h1:leE ord a b) (h2:leE ord b c):leE ord a c:=by
 unfold leE at *
 cases h:O.lt (rkI ord c.1) (rkI ord a.1) with
 | false=>rfl
 | true =>
  by_cases hb:O.lt (rkI ord a.1) (rkI ord b.1)=true
  ·have:=O.tr _ _ _ h hb;rw [h2] at this;cases this
  ·have hb':O.lt (rkI ord a.1) (rkI ord b.1)=false:=by simpa using hb
   have e:=O.tot _ _ h1 hb'
   rw [e] at h2;rw [h] at h2;cases h2
def QAt (w:World) (hb:Nat) (q:List Qe):Option Nat->Prop
 | none=>q=[]/\rd w hb 3=some (.slice none 0 0)
 | some bi=>∃ oi cap,SE Eq' w hb 3 q bi oi cap/\cap<9223372036854775808
theorem QAt.ext {w w':World} {G:Nat->Nat->Prop} {hb:Nat} {q:List Qe} {kb:Option Nat} (h:QAt w hb q kb) (x:Ext G w w') (h1:¬ G hb 3) (h2:∀ y o,kb=some y->¬ G y o):QAt w' hb q kb:=by
 cases kb with
 | none=>exact ⟨h.1,x.rd h.2 h1⟩
 | some bi =>
  obtain ⟨oi,cap,h,hc⟩:=h
  refine ⟨oi,cap,h.ext x fun y o g k=>?_,hc⟩
  rcases g with ⟨rfl,rfl⟩ | g
  ·exact h1 k
  ·exact h2 y o (by rw [g.1]) k
theorem QAt.lt {w:World} {hb y:Nat} {q:List Qe} {kb:Option Nat} (h:QAt w hb q kb) (hy:kb=some y):y<w.heap.size:=by
 subst hy
 obtain ⟨_,_,h,_⟩:=h
 exact wok_lt h.wi
theorem QAt.val {w:World} {hb:Nat} {q:List Qe} {kb:Option Nat} (h:QAt w hb q kb):∃ a c,rd w hb 3=some (.slice a q.length c)/\SlV w 3 (.slice a q.length c) q.length (flat Eq' q)/\capS (.slice a q.length c):=by
 cases kb with
 | none=>obtain ⟨rfl,h⟩:=h;exact ⟨none,0,h,⟨rfl,.inl ⟨rfl,rfl⟩⟩,fun a n c e=>by cases e;decide⟩
 | some bi =>
  obtain ⟨oi,cap,h,hc⟩:=h
  exact ⟨_,_,h.hd,h.slV,fun a n c e=>by cases e;exact hc⟩
theorem QAt.app {w w1:World} {hb c:Nat} {a:Option Addr} {q:List Qe} {e:Qe} {kb:Option Nat} {v':Value} (h:QAt w hb q kb) (hok:wok w hb 4) (hv:rd w hb 3=some (.slice a q.length c))
  (ap:AppRes w 3 (.slice a q.length c) q.length 1 (flat Eq' q) (flat Eq' [e]) v' w1) (hcv:capS v'):∃ bi oi cap,v' = .slice (some ⟨bi,oi,none⟩) (q.length+1) cap/\cap<9223372036854775808/\wok w1 hb 4/\w.heap.size<=w1.heap.size ∧
   ∀ w2,Ext (rng hb 3 1) w1 w2->rd w2 hb 3=some v'->SE Eq' w2 hb 3 (q++[e]) bi oi cap/\Ext (fun y o=>(y=hb/\o=3)\/kb=some y) w w2/\(kb=some bi\/w.heap.size<=bi):=by
 have hbl:=wok_lt hok
 cases kb with
 | none =>
  obtain ⟨rfl,h⟩:=h
  rw [hv] at h
  simp only [Option.some.injEq,Value.slice.injEq] at h
  obtain ⟨rfl,-,rfl⟩:=h
  obtain ⟨ha,hc⟩:=ap
  rcases hc with ⟨rfl,_,_⟩ | ⟨_,_,_,h,_⟩ | ⟨cap,rfl,h2,h3,h4⟩
  ·rcases ha.2 with ⟨_,h⟩ | ⟨_,_,_,h,_⟩
   ·cases h
   ·cases h
  ·cases h
  ·refine ⟨_,_,_,rfl,hcv _ _ _ rfl,h2.wok hok,by omega,fun w2 x r=>?_⟩
   have X:Ext (fun y o=>(y=hb/\o=3)\/(none:Option Nat)=some y) w w2:=(h2.mono fun _ _ _ g=>g.elim).tr (x.mono fun y o _ g=>.inl (by simp only [rng] at g;omega))
   rcases ha.2 with ⟨h,_⟩ | ⟨b1,o1,c1,e1,hle,hr,hw⟩
   ·cases h
   ·simp only [Value.slice.injEq,Option.some.injEq,Addr.mk.injEq,true_and,and_true] at e1
    obtain ⟨⟨rfl,rfl⟩,rfl⟩:=e1
    exact ⟨⟨r,x.row hr fun i _ g=>by simp only [rng] at g;omega,by rw [Nat.zero_add];exact x.wok h4,hle,X.wok hok,by omega⟩,X,.inr (Nat.le_refl _)⟩
 | some b =>
  obtain ⟨oi,cap,h,_⟩:=h
  have:=h.hd
  rw [hv] at this
  simp only [Option.some.injEq,Value.slice.injEq] at this
  obtain ⟨rfl,-,rfl⟩:=this
  obtain ⟨bi,oi',cap',e1,e2,e3,e4⟩:=h.app' (ls:=[e]) rfl ap
  refine ⟨bi,oi',cap',e1,(by rw [e1] at hcv;exact hcv _ _ _ rfl),?_,e3,fun w2 x r=>?_⟩
  ·rcases ap.2 with ⟨_,rfl,_⟩ | ⟨_,_,_,_,_,x,_⟩ | ⟨_,_,x,_⟩
   ·exact hok
   ·exact x.wok hok
   ·exact x.wok hok
  ·obtain ⟨g1,g2,g3⟩:=e4 w2 x r
   refine ⟨g1,g2.mono fun y o _ g=>?_,g3.imp (fun g=>by rw [g.1]) id⟩
   rcases g with g | g
   ·exact .inl g
   ·exact .inr (by rw [g.1])
structure LiS (B M:Nat) (ord:List Int) (lb:Nat) (cnt:Int) (np:Nat) (q:List Qe) (kb:Option Nat) (w:World):Prop where
 le:∃ lv,rd w lb 0=some lv/\LessAt B M w lv ord
 cn:rd w lb 1=some (.int .i64 cnt)
 np:rd w lb 2=some (.int .i64 np)
 qa:QAt w lb q kb
 wok:wok w lb 4
 lM:M<=lb
 kM:∀ y,kb=some y->M<=y/\y ≠ lb
theorem LiS.ext {B M:Nat} {ord:List Int} {lb:Nat} {cnt:Int} {np:Nat} {q:List Qe} {kb:Option Nat} {w w':World} {G:Nat->Nat->Prop} (h:LiS B M ord lb cnt np q kb w) (x:Ext G w w') (h1:∀ o,¬ G lb o) (h2:∀ y o,kb=some y->¬ G y o) (h3:∀ y o,G y o->M<=y\/y<B):LiS B M ord lb cnt np q kb w':=by
 obtain ⟨lv,g1,g2⟩:=h.le
 exact ⟨⟨lv,x.rd g1 (h1 _),g2.ext x h3⟩,x.rd h.cn (h1 _),x.rd h.np (h1 _),h.qa.ext x (h1 _) h2,x.wok h.wok,h.lM,h.kM⟩
theorem LiS.ext0 {B M:Nat} {ord:List Int} {lb:Nat} {cnt:Int} {np:Nat} {q:List Qe} {kb:Option Nat} {w w':World} (h:LiS B M ord lb cnt np q kb w) (x:Ext noF w w'):LiS B M ord lb cnt np q kb w':=h.ext x (fun _ g=>g) (fun _ _ _ g=>g) fun _ _ g=>g.elim
def lbF (lb:Nat) (kb:Option Nat):Nat->Nat->Prop:=fun y _=>y=lb\/kb=some y
set_option maxHeartbeats 1600000 in
set_option maxRecDepth 8000 in
theorem push_any (B M:Nat) (ord:List Int) (lb:Nat) (cnt:Int) (np:Nat) (q:List Qe) (kb:Option Nat) (e1:Qe) (w0:World) (h:LiS B M ord lb cnt np q kb w0) (hbig:q.length<=2147483647) (hh:Heap (leE ord) q) :
  CallK Try.prog 130 #[ptr lb,eV e1] w0 fun _ w'=>∃ q' kb',q'.Perm (e1::q)/\Heap (leE ord) q'/\LiS B M ord lb cnt np q' kb' w'/\Ext (lbF lb kb) w0 w'/\(∀ y,kb'=some y->kb=some y\/w0.heap.size<=y):=by
 refine calls_of_W [] Try.func130 rfl Try.ntmps130 Try.results130 (by simp) fun e he=>?_
 have h0:e 0=ptr lb:=he 0 _ rfl
 have h1:e 1=eV e1:=he 1 _ rfl
 clear he
 refine W_sq fun K hK=>(W_text [false] (by kernel_rfl) ?_);simp only [↓zZ1,↓reduceIte,Nat.reduceEqDiff,rg,ow_130]
 refine do_box (by simp only [evt];exact h1) fun w1 n1=>⟨trivial,?_⟩
 simp only [↓zZ1,↓reduceIte,Nat.reduceEqDiff,rg,ow_130]
 apply hK;clear hK K
 have L1:=h.ext0 n1.ext
 have bx:rdA w1 w0.heap.size 0 3=some (eV e1):=n1.row.rdA 3 (by show 3<=3;omega)
 obtain ⟨a,c,hqv,hsl,hcs⟩:=L1.qa.val
 have L0:=on1_0 lb
 refine W_sq fun K hK=>(W_semi (some (some [lb])) (.take false 0 (.take false 1 (.take false 2 (.take false 3 (.take false 4 (.take true 5 (.act 6 (.bar 7 (.take false 8 (.take false 9 (.bar 10 .nil))))))))))) mixed (by kernel_rfl) ?_);simp only [↓rgm,↓zZ1,↓reduceIte,Nat.reduceEqDiff,rg,ow_130,h0,ptr_eq,hqv,bx,L0,rB_on]
 refine do_bsl rfl (bs_e1 e1) fun w3 n3=>⟨.inr (n3.keep _ (lt1 (wok_lt L1.wok))),?_⟩
 simp only [↓zZ1,↓reduceIte,Nat.reduceEqDiff,rg,ow_130,↓rgm]
 have n3:=n3.od
 have L3:=L1.ext0 n3.ext
 refine do_appendC (by simp only [zZ2,Nat.reduceEqDiff,↓reduceIte,zZ3]<;>rfl) (by simp only [zZ2,Nat.reduceEqDiff,↓reduceIte,zZ3]<;>rfl) el_e rfl ni_e (hsl.ext0 n3.ext) (u:=.slice (some ⟨w1.heap.size,0,none⟩) 1 1) (m:=1) (l':=flat Eq' [e1]) ⟨rfl,.inr ⟨_,0,1,rfl,Nat.le_refl _,by rw [flat_one];exact n3.row,n3.wok.R (Nat.le_refl _)⟩⟩ (by omega) (by decide) (by rw [flat_one];exact Eq'.one _) fun v4 w4 a4 c4=>⟨by first | exact trivial | exact .inr trivial,?_⟩
 obtain ⟨bi,oi,cap,rfl,hcap,wk4,s4,nx⟩:=L3.qa.app L3.wok (n3.ext.rd hqv fun g=>g) a4 (c4 hcs)
 simp only [↓zZ1,↓reduceIte,Nat.reduceEqDiff,rg,ow_130,↓rgm]
 refine do_store (by simp only [zZ2,Nat.reduceEqDiff,↓reduceIte,zZ3]<;>rfl) (by simp only [zZ2,Nat.reduceEqDiff,↓reduceIte,zZ3]<;>rfl) sz_113 rfl wk4 (by decide) (oc_one rfl rfl) fun w5 x5 r5 s5=>⟨by first | exact trivial | exact .inl trivial,?_⟩
 simp only [↓zZ1,↓reduceIte,Nat.reduceEqDiff,rg,ow_130,↓rgm]
 apply hK;clear hK K
 obtain ⟨S5,g2,g3⟩:=nx w5 x5 (Row.cons.1 r5).1
 have hlen:(q++[e1]).length=q.length+1:=by simp
 have X5:Ext (fun y o=>(y=lb/\o=3)\/kb=some y) w0 w5:=(n1.ext.tr n3.ext).trans g2 (fun _ _ g=>g.elim) fun _ _ _ g=>g
 have hbi:M<=bi/\bi ≠ lb:=by
  rcases g3 with g3 | g3
  ·exact h.kM _ g3
  ·have:=wok_lt L3.wok
   have:=h.lM
   omega
 have hbn:kb=some bi\/w0.heap.size<=bi:=g3.imp id fun g=>by have:=(n1.ext.tr n3.ext).size;omega
 obtain ⟨lv,lv0,lless⟩:=L3.le
 have hkM:=h.kM
 have hlM:=h.lM
 have lv5:=g2.rd lv0 fun g=>by
  rcases g with g | g
  ·omega
  ·exact (hkM _ g).2 rfl
 have less5:=lless.ext g2 fun y o g=>.inl (by
  rcases g with g | g
  ·omega
  ·exact (hkM _ g).1)
 have cn5:=g2.rd L3.cn fun g=>by
  rcases g with g | g
  ·omega
  ·exact (hkM _ g).2 rfl
 have np5:=g2.rd L3.np fun g=>by
  rcases g with g | g
  ·omega
  ·exact (hkM _ g).2 rfl
 have wk5:=g2.wok L3.wok
 have hd5:=S5.hd
 rw [hlen] at hd5
 have q1:=wsub1 (q.length+1) (by omega) (by omega)
 rw [Nat.add_sub_cancel] at q1
 refine W_sq fun K hK=>(W_text [true,true,true,true,true,true,true] (by kernel_rfl) ?_);simp only [↓zZ1,↓reduceIte,Nat.reduceEqDiff,rg,ow_130,h0,ptr_eq,hd5,q1]
 apply hK;clear hK K
 have par:∀ i:Nat,i<9223372036854775808->IntKind.i64.wrap ((IntKind.i64.wrap ((i:Int)-1)).tdiv 2)=(((i-1) / 2:Nat):Int):=fun i hi=>by
  cases i with
  | zero=>rfl
  | succ i =>
   rw [wsub1 (i+1) (by omega) hi]
   exact wdiv2 i (by omega)
 have q2:=par q.length (by omega)
 refine W_sq fun K hK=>(W_text [true,true,true,true] (by kernel_rfl) ?_);simp only [↓zZ1,↓reduceIte,Nat.reduceEqDiff,rg,ow_130,q2]
 apply hK;clear hK K
 refine W_block (W_loop (fun mm e w=>∃ (i:Nat) (q':List Qe),mm=i/\q'.Perm (e1::q)/\HeapUp (leE ord) q' i/\i<q'.length/\SE Eq' w lb 3 q' bi oi cap/\rd w lb 0=some lv/\LessAt B M w lv ord/\rd w lb 1=some (.int .i64 cnt)/\rd w lb 2=some (.int .i64 np)/\wok w lb 4/\Ext (fun y o=>y=bi) w5 w/\e 0=ptr lb/\e 4 = .int .i64 i/\e 5 = .int .i64 ((i-1) / 2:Nat))
  q.length ⟨q.length,q++[e1],rfl,List.perm_append_singleton e1 q,hh.push e1,by omega,S5,lv5,less5,cn5,np5,wk5,Ext.refl _ _,by simp only [upd_eq,Nat.reduceEqDiff,↓reduceIte];exact h0,by simp only [upd_eq,Nat.reduceEqDiff,↓reduceIte],by simp only [upd_eq,Nat.reduceEqDiff,↓reduceIte]⟩ ?_)
 clear S5 lv5 less5 cn5 np5 wk5 hd5 h0 h1 e q1 q2
 rintro i e w ⟨_,q',rfl,hp,hu,hil,S,lv1,less1,cn1,np1,wk1,X,e0,e4,e5⟩
 have hpl:=hp.length_eq
 rw [List.length_cons] at hpl
 have hend:(∀ x y,0<i->q'[(i-1) / 2]? = some x->q'[i]? = some y->leE ord x y)->∀ w',Ext noF w w'->∃ q' kb',q'.Perm (e1::q)/\Heap (leE ord) q'/\LiS B M ord lb cnt np q' kb' w'/\Ext (lbF lb kb) w0 w'/\(∀ y,kb'=some y->kb=some y\/w0.heap.size<=y):=fun hd w' x=>by
  refine ⟨q',some bi,hp,hu.done hd,⟨⟨lv,x.rd lv1 fun g=>g,less1.ext x fun _ _ g=>g.elim⟩,x.rd cn1 fun g=>g,x.rd np1 fun g=>g,⟨oi,cap,S.ext0 x,hcap⟩,x.wok wk1,hlM,fun y hy=>by cases hy;exact hbi⟩,((X5.mono fun y o _ g=>g.imp (fun g=>g.1) id).trans X (fun _ _ g=>g) fun y o hy g=>?_).trans x (fun _ _ g=>g) fun _ _ _ g=>g.elim,fun y hy=>by cases hy;exact hbn⟩
  subst g
  rcases hbn with g | g
  ·exact .inr g
  ·omega
 have hrow:=S.row
 have hhd:=S.hd
 refine W_seq ?_
 by_cases hi0:i=0
 ·subst hi0
  have z4:(((0:Nat):Int) != 0)=false:=rfl
  refine W_sq fun K hK=>(W_semi (some none) (.take false 0 (.take false 1 (.take false 2 (.take false 3 (.take false 4 (.take false 5 (.take true 6 (.take false 7 (.take false 8 (.take false 9 (.take true 10 (.take false 11 (.take false 12 (.take false 13 (.take true 14 (.take false 15 (.take false 16 (.take false 17 (.take true 18 (.take false 19 (.take false 20 (.take false 21 (.take true 22 (.bar 23 (.take false 24 .nil))))))))))))))))))))))))) mixed (by kernel_rfl) ?_);simp only [↓rgm,↓zZ1,↓reduceIte,Nat.reduceEqDiff,rg,ow_130,e4,z4]
  apply hK;clear hK K
  refine W_false (by simp only [zZ2,Nat.reduceEqDiff,↓reduceIte,zZ3]<;>rfl) (W_exit ?_)
  simp only [andThen_exit,inBlk_exit,andThen_normal,↓reduceIte]
  exact endQ_0n (hend (fun _ _ h=>absurd h (by decide)) _ (by first | exact Ext.refl _ _ | exact Ext.dr _ _ _))
 ·have z4:((i:Int) != 0)=true:=by simp;omega
  obtain ⟨x,hx⟩:∃ x,q'[i]? = some x:=⟨_,List.getElem?_eq_getElem hil⟩
  have hpar:(i-1) / 2<q'.length:=by omega
  obtain ⟨y,hy⟩:∃ y,q'[(i-1) / 2]? = some y:=⟨_,List.getElem?_eq_getElem hpar⟩
  have ix:=eI_at hrow hx
  have iy:=eI_at hrow hy
  refine W_sq fun K hK=>(W_semi (some none) (.take false 0 (.take false 1 (.take false 2 (.take false 3 (.take false 4 (.take false 5 (.take true 6 (.take false 7 (.take false 8 (.take false 9 (.take true 10 (.take false 11 (.take false 12 (.take false 13 (.take true 14 (.take false 15 (.take false 16 (.take false 17 (.take true 18 (.take false 19 (.take false 20 (.take false 21 (.take true 22 (.bar 23 (.take false 24 .nil))))))))))))))))))))))))) mixed (by kernel_rfl) ?_);simp only [↓rgm,↓zZ1,↓reduceIte,Nat.reduceEqDiff,rg,ow_130,e0,e4,e5,z4,ptr_eq,lv1,hhd,hil,hpar,ix,iy]
  refine do_callW (by simp only [zZ2,Nat.reduceEqDiff,↓reduceIte,zZ3]<;>rfl) (by simp only [zZ2,Nat.reduceEqDiff,↓reduceIte,zZ4]<;>rfl) (before_any B lv ord x.1 y.1 _ (less1.ext (Ext.dr noF _ _) fun _ _ g=>g.elim)) ?_
  rintro _ w2 ⟨rfl,x2⟩
  refine ⟨by first | exact trivial | exact .inr trivial,?_⟩
  simp only [↓zZ1,↓reduceIte,Nat.reduceEqDiff,rg,ow_130,↓rgm]
  apply hK;clear hK K
  have X2:=x2.od
  cases hlt:O.lt (rkI ord x.1) (rkI ord y.1) with
  | false =>
   refine W_false (by simp only [zZ2,Nat.reduceEqDiff,↓reduceIte,zZ3]<;>rfl) (W_exit ?_)
   simp only [andThen_exit,inBlk_exit,andThen_normal,↓reduceIte]
   refine endQ_0n (hend (fun a b _ ha hb=>?_) _ X2)
   rw [hy] at ha;rw [hx] at hb;cases ha;cases hb
   exact hlt
  | true =>
   refine W_true (by simp only [zZ2,Nat.reduceEqDiff,↓reduceIte,zZ3]<;>rfl) (W_skip ?_)
   show W _ _ _ _ _ _
   have S2:=S.ext0 X2
   have vx:=eV_at S2.row hx
   have vy:=eV_at S2.row hy
   have hhd2:=S2.hd
   refine W_block ?_
   refine W_sq fun K hK=>(W_semi (some none) (.take false 0 (.take false 1 (.take false 2 (.take false 3 (.take false 4 (.take false 5 (.take false 6 (.take false 7 (.take false 8 (.take false 9 (.take false 10 (.take false 11 (.take false 12 (.take false 13 (.take false 14 (.take false 15 (.take false 16 (.take false 17 (.take false 18 (.take false 19 (.take false 20 (.take false 21 (.take false 22 (.take false 23 (.take false 24 (.bar 25 (.take false 26 (.bar 27 .nil)))))))))))))))))))))))))))) mixed (by kernel_rfl) ?_);simp only [↓rgm,↓zZ1,↓reduceIte,Nat.reduceEqDiff,rg,ow_130,e0,e4,e5,ptr_eq,hhd2,hil,hpar,vx,vy]
   have hle:=S2.le
   have hm3:=Nat.mul_le_mul_right 3 hle
   refine do_store (v:=eV x) (by simp only [zZ2,Nat.reduceEqDiff,↓reduceIte,zZ3]<;>rfl) (by simp only [zZ2,Nat.reduceEqDiff,↓reduceIte,zZ3]<;>rfl) sz_205 (eV_len x) (S2.ext0 (Ext.dr noF _ (w2.drawn+1))).wi (by rw [Eq_sz];omega) (eV_oc x) fun w3 x3 r3 s3=>⟨by first | exact trivial | exact .inl trivial,?_⟩
   simp only [↓zZ1,↓reduceIte,Nat.reduceEqDiff,rg,ow_130,↓rgm,hil]
   have x3:=x3.od
   obtain ⟨S3,G3⟩:=S2.set (i:=(i-1) / 2) (x:=x) hpar (by rw [Eq_sz];exact x3) (by rw [Eq_sz];exact r3)
   refine do_store (v:=eV y) (by simp only [zZ2,Nat.reduceEqDiff,↓reduceIte,zZ3]<;>rfl) (by simp only [zZ2,Nat.reduceEqDiff,↓reduceIte,zZ3]<;>rfl) sz_205 (eV_len y) S3.wi (by rw [Eq_sz];omega) (eV_oc y) fun w4 x4 r4 s4=>⟨by first | exact trivial | exact .inl trivial,?_⟩
   simp only [↓zZ1,↓reduceIte,Nat.reduceEqDiff,rg,ow_130,↓rgm]
   apply hK;clear hK K
   obtain ⟨S4,G4⟩:=S3.set (i:=i) (x:=y) (by rw [List.length_set];exact hil) (by rw [Eq_sz];exact x4) (by rw [Eq_sz];exact r4)
   have hne:i ≠ (i-1) / 2:=by omega
   have hsw:(q'.set ((i-1) / 2) x).set i y=swp2 q' i ((i-1) / 2) x y:=List.set_comm _ _ (Ne.symm hne)
   rw [hsw] at S4
   have X4:Ext (fun y o=>y=bi) w2 w4:=(x3.mono fun y o _ g=>g.1).tr (x4.mono fun y o _ g=>g.1)
   have hlb:∀ o,¬ ((fun (y o:Nat)=>y=bi) lb o):=fun o g=>hbi.2 g.symm
   have XX:Ext (fun y o=>y=bi) w w4:=(X2.mono fun _ _ _ g=>g.elim).tr X4
   refine W_sq fun K hK=>(W_text [true,true] (by kernel_rfl) ?_);simp only [↓zZ1,↓reduceIte,Nat.reduceEqDiff,rg,ow_130,e5]
   apply hK;clear hK K
   have q2:=par ((i-1) / 2) (by omega)
   refine W_rg fun K hK=>(W_text [true,true,true,true] (by kernel_rfl) ?_);simp only [↓zZ1,↓reduceIte,Nat.reduceEqDiff,rg,ow_130,q2]
   apply hK;clear hK K
   exact ⟨(i-1) / 2,by omega,(i-1) / 2,swp2 q' i ((i-1) / 2) x y,rfl,(swp2_perm hx hy hne).trans hp,hu.step leE_tr (by omega) hx hy (by
    unfold leE
    exact O.asym hlt),by rw [(swp2_perm hx hy hne).length_eq];exact hpar,S4,XX.rd lv1 (hlb 0),less1.ext XX (fun y o g=>.inl (by rw [show y=bi from g];exact hbi.1)),XX.rd cn1 (hlb 1),XX.rd np1 (hlb 2),XX.wok wk1,X.tr XX,by simp only [upd_eq,Nat.reduceEqDiff,↓reduceIte];exact e0,by simp only [upd_eq,Nat.reduceEqDiff,↓reduceIte],by simp only [upd_eq,Nat.reduceEqDiff,↓reduceIte]⟩
def nV (o:Option Nat):Value:=.pointer (o.map fun b=>⟨b,0,none⟩)
set_option maxHeartbeats 1600000 in
set_option maxRecDepth 8000 in
theorem lapp_any (B M:Nat) (ord:List Int) (lb:Nat) (cnt:Int) (np:Nat) (q:List Qe) (kb:Option Nat) (x:It) (o:Option Nat) (w0:World) (h:LiS B M ord lb cnt np q kb w0) (hbig:q.length<=2147483647) (hh:Heap (leE ord) q)
  (ho:∀ b,o=some b->b ≠ lb/\∃ c:Int,rd w0 b 1=some (.int .i64 c)) :
  CallK Try.prog 98 #[ptr lb,itV x,nV o] w0 fun _ w'=>∃ cnt' q' kb',q'.Perm ((x,o)::q)/\Heap (leE ord) q'/\LiS B M ord lb cnt' np q' kb' w'/\Ext (lbF lb kb) w0 w'/\(∀ y,kb'=some y->kb=some y\/w0.heap.size<=y):=by
 refine calls_of_W [] Try.func98 rfl Try.ntmps98 Try.results98 (by simp) fun e he=>?_
 have h0:e 0=ptr lb:=he 0 _ rfl
 have h1:e 1=itV x:=he 1 _ rfl
 have h2:e 2=nV o:=he 2 _ rfl
 clear he
 refine W_sq fun K hK=>(W_text [false] (by kernel_rfl) ?_);simp only [↓zZ1,↓reduceIte,Nat.reduceEqDiff,rg,ow_98]
 refine do_box (by simp only [evt];exact h1) fun w1 n1=>⟨trivial,?_⟩
 simp only [↓zZ1,↓reduceIte,Nat.reduceEqDiff,rg,ow_98]
 apply hK;clear hK K
 have L1:=h.ext0 n1.ext
 have bx:Row w1 w0.heap.size 0 (E.cel x):=n1.row
 have hlb:=wok_lt h.wok
 have c1:=L1.cn
 refine W_sq fun K hK=>(W_text [true,true,true,true,true,true,true,false] (by kernel_rfl) ?_);simp only [↓zZ1,↓reduceIte,Nat.reduceEqDiff,rg,ow_98,h0,ptr_eq,c1]
 refine do_store (by simp only [zZ2,Nat.reduceEqDiff,↓reduceIte,zZ3]<;>rfl) (by simp only [zZ2,Nat.reduceEqDiff,↓reduceIte,zZ3]<;>rfl) sz_3 rfl L1.wok (by decide) (oc_one rfl rfl) fun w2 x2 r2 s2=>⟨trivial,?_⟩
 simp only [↓zZ1,↓reduceIte,Nat.reduceEqDiff,rg,ow_98]
 apply hK;clear hK K
 have cnt_ext:∀ {w w':World} {cnt cnt':Int},LiS B M ord lb cnt np q kb w->Ext (rng lb 1 1) w w'->rd w' lb 1=some (.int .i64 cnt')->LiS B M ord lb cnt' np q kb w':=fun L x r=>by
  obtain ⟨lv,g1,g2⟩:=L.le
  have hlM:=L.lM
  exact ⟨⟨lv,x.rd g1 (by simp only [rng];omega),g2.ext x fun y o g=>.inl (by have:=g.1;omega)⟩,r,x.rd L.np (by simp only [rng];omega),L.qa.ext x (by simp only [rng];omega) (fun y o hy g=>(L.kM y hy).2 g.1),x.wok L.wok,L.lM,L.kM⟩
 have L2:=cnt_ext L1 x2 (Row.cons.1 r2).1
 have bx2:=x2.row bx fun i _ g=>by have:=g.1;omega
 have X2:Ext (lbF lb kb) w0 w2:=(n1.ext.mono fun _ _ _ g=>g.elim).tr (x2.mono fun y o _ g=>.inl g.1)
 refine W_sqx fun J hJ=>?_
 have hlast:∀ (e:Env) (w3:World) (cnt':Int),LiS B M ord lb cnt' np q kb w3->Ext (lbF lb kb) w0 w3->Row w3 w0.heap.size 0 (E.cel x)->e 0=ptr lb->e 2=nV o->e 4=ptr w0.heap.size->J e w3:=by
  clear h0 h1 h2 c1
  intro e w3 cnt' L3 X3 bx3 h0 h2 h4
  refine hJ _ _ ?_;clear hJ J
  have lx:rdA w3 w0.heap.size 0 2=some (itV x):=bx3.rdA 2 (by show 2<=2;omega)
  have hbu:buildV Try.prog 205 [(0,itV x),(1,nV o)]=some (eV (x,o)):=bu_e x o
  refine W_rg fun K hK=>(W_text [true,true,true,true,false] (by kernel_rfl) ?_);simp only [↓zZ1,↓reduceIte,Nat.reduceEqDiff,rg,ow_98,h0,h2,h4,ptr_eq,lx,hbu]
  refine do_call fn_130 (by simp only [zZ2,Nat.reduceEqDiff,↓reduceIte,zZ4]<;>rfl) (push_any B M ord lb cnt' np q kb (x,o) w3 L3 hbig hh) ?_
  rintro _ w4 ⟨q',kb',hp,hh',L4,X4,hk⟩
  refine ⟨trivial,?_⟩
  simp only [↓zZ1,↓reduceIte,Nat.reduceEqDiff,rg,ow_98]
  apply hK;clear hK K
  exact endQ_0n ⟨cnt',q',kb',hp,hh',L4,X3.tr X4,fun y hy=>(hk y hy).imp id fun g=>by have:=X3.size;omega⟩
 clear hJ
 cases o with
 | none =>
  have hn:nV none = .pointer none:=rfl
  refine W_sq fun K hK=>(W_text [true,true] (by kernel_rfl) ?_);simp only [↓zZ1,↓reduceIte,Nat.reduceEqDiff,rg,ow_98,h2,hn]
  apply hK;clear hK K
  refine W_false (by simp only [zZ2,Nat.reduceEqDiff,↓reduceIte,zZ3]<;>rfl) (W_skip ?_)
  exact hlast _ w2 _ L2 X2 bx2 h0 h2 rfl
 | some nb =>
  obtain ⟨hnl,c,hc⟩:=ho nb rfl
  have hn:nV (some nb)=ptr nb:=rfl
  have c2:rd w2 nb 1=some (.int .i64 c):=x2.rd (n1.ext.rd hc fun g=>g) fun g=>hnl g.1
  have cl2:=L2.cn
  refine W_sq fun K hK=>(W_text [true,true] (by kernel_rfl) ?_);simp only [↓zZ1,↓reduceIte,Nat.reduceEqDiff,rg,ow_98,h2,hn,ptr_eq]
  apply hK;clear hK K
  refine W_true (by simp only [zZ2,Nat.reduceEqDiff,↓reduceIte,zZ3]<;>rfl) ?_
  refine W_rg fun K hK=>(W_draw (some none) (some 11) [(0,0,0),(0,1,0),(0,2,0),(0,3,0),(0,4,0),(0,5,0),(0,6,0),(0,7,0),(0,8,0),(0,9,0),(0,10,0),(1,11,0)] mixed (by kernel_rfl) ?_);simp only [↓zZ1,↓reduceIte,Nat.reduceEqDiff,rg,ow_98,h0,h2,hn,ptr_eq,c2,cl2]
  refine do_store (by simp only [zZ2,Nat.reduceEqDiff,↓reduceIte,zZ3]<;>rfl) (by simp only [zZ2,Nat.reduceEqDiff,↓reduceIte,zZ3]<;>rfl) sz_3 rfl L2.wok (by decide) (oc_one rfl rfl) fun w3 x3 r3 s3=>⟨by first | exact trivial | exact .inl trivial | exact .inr trivial,?_⟩
  simp only [↓zZ1,↓reduceIte,Nat.reduceEqDiff,rg,ow_98]
  apply hK;clear hK K
  have x3:=x3.od
  exact hlast _ w3 _ (cnt_ext L2 x3 (Row.cons.1 r3).1) (X2.tr (x3.mono fun y o _ g=>.inl g.1)) (x3.row bx2 fun i _ g=>by have:=g.1;omega) h0 h2 rfl
theorem lock_any (a b:Value) (w:World):CallK Try.prog 91 #[a,b] w fun v w'=>v = .bool false/\w=w':=by
 refine calls_of_W [.tmp 4] Try.func91 rfl Try.ntmps91 Try.results91 (by simp) fun e he=>?_
 clear he
 refine W_sq fun K hK=>(W_text [true] (by kernel_rfl) ?_);simp only [↓zZ1,↓reduceIte,Nat.reduceEqDiff,rg]
 apply hK;clear hK K
 refine W_sq fun K hK=>(W_text [true] (by kernel_rfl) ?_);simp only [↓zZ1,↓reduceIte,Nat.reduceEqDiff,rg]
 apply hK;clear hK K
 exact W_ret (endQ_1 (by simp only [upd_eq,Nat.reduceEqDiff,↓reduceIte]<;>rfl) ⟨rfl,rfl⟩)
def gotG (x:Option It):Value:=.tuple #[itV (x.getD zIt),.bool x.isSome]
def Cb (f:Value) (G:Nat->Nat->Prop) (S:List It->World->Prop) (go:List It->Bool):Prop :=
 (∃ g first cap,f = .func (.func g) first cap/\isFn Try.prog g=true/\∀ done x w,S done w->done.length<4294967295 →
  CallK Try.prog g (first ++ #[itV x]++cap) w fun v w'=>v = .bool (go (done++[x]))/\S (done++[x]) w'/\Ext G w w') ∧
 ∀ done w w',S done w->Ext noF w w'->S done w'
set_option maxHeartbeats 400000 in
set_option maxRecDepth 8000 in
theorem extract_any (iso:Int) (mn mx:Nat) (f:Value) (G:Nat->Nat->Prop) (S:List It->World->Prop) (go:List It->Bool) (C:Cb f G S go) :
  ∀ (h b lo:Nat) (xs:List It) (F:Nat->Nat->Prop) (done:List It) (w:World),Tr E iso mn mx h w lo b xs F->(∀ y o o',F y o->¬ G y o')->S done w →
   done.length+xs.length<=4294967295 →
  CallK Try.prog 131 #[ptr b,f] w fun v w'=>v = .bool (hand go done xs).2/\S (hand go done xs).1 w'/\Ext G w w':=by
 obtain ⟨⟨g,first,cap0,rfl,hg,hcall⟩,hSx⟩:=C
 intro h
 induction h with
 | zero =>
  intro b lo xs F done w ht hG hS hbig
  obtain ⟨bi,oi,cap,ho,h1,h2,hF⟩:=ht
  refine calls_of_W [.tmp 4] Try.func131 rfl Try.ntmps131 Try.results131 (by simp) fun e he=>?_
  have e0:e 0=ptr b:=he 0 _ rfl
  have e1:e 1 = .func (.func g) first cap0:=he 1 _ rfl
  clear he
  refine W_sq fun K hK=>(W_text [true] (by kernel_rfl) ?_);simp only [↓zZ1,↓reduceIte,Nat.reduceEqDiff,rg,ow_131]
  apply hK;clear hK K
  have x1:Ext noF w w:=Ext.refl _ _
  have o1:=ho
  have S1:=hS
  refine W_seq ?_
  refine W_sq fun K hK=>(W_text [true,false] (by kernel_rfl) ?_);simp only [↓zZ1,↓reduceIte,Nat.reduceEqDiff,rg,ow_131,e0]
  refine do_call fn_108 (by simp only [zZ2,Nat.reduceEqDiff,↓reduceIte,zZ4]<;>rfl) (leaf_any b none w o1.h3) ?_
  rintro _ w1 ⟨rfl,hw1⟩
  obtain rfl:w=w1:=hw1.symm
  refine ⟨trivial,?_⟩
  simp only [↓zZ1,↓reduceIte,Nat.reduceEqDiff,rg,ow_131]
  apply hK;clear hK K
  refine W_true (by simp only [zZ2,Nat.reduceEqDiff,↓reduceIte,zZ3]<;>rfl) (W_seq ?_)
  refine W_sq fun K hK=>(W_text [true] (by kernel_rfl) ?_);simp only [↓zZ1,↓reduceIte,Nat.reduceEqDiff,rg,ow_131]
  apply hK;clear hK K
  refine W_block (W_loop (fun mm e w'=>∃ (i:Nat) (d:List It),mm=xs.length-i/\i<=xs.length/\hand go done xs=hand go d (xs.drop i)/\d.length+(xs.length-i)<=4294967295/\S d w'/\Ext G w w'/\e 1 = .func (.func g) first cap0/\e 0=ptr b/\e 5 = .int .i64 i)
   xs.length ⟨0,done,by simp,by simp,by simp,by omega,S1,x1.mono fun _ _ _ h=>h.elim,?_,?_,?_⟩ ?_)
  ·simp only [upd_eq,Nat.reduceEqDiff,↓reduceIte];exact e1
  ·simp only [upd_eq,Nat.reduceEqDiff,↓reduceIte];exact e0
  ·simp only [upd_eq,Nat.reduceEqDiff,↓reduceIte];rfl
  ·clear e0 e1 e S1 o1
   rintro mm e w' ⟨i,d,rfl,hi,hh,hdl,hS',X,e2,e9,e10⟩
   have o':=ho.ext X fun y o h=>hG y o o ((hF y o).2 h)
   have hb2:=o'.h2
   refine W_seq ?_
   by_cases hlt:i<xs.length
   ·have ht:=lt_tt i xs.length hlt
    refine W_sq fun K hK=>(W_text [true,true,true,true,true,true,true] (by kernel_rfl) ?_);simp only [↓zZ1,↓reduceIte,Nat.reduceEqDiff,rg,ow_131,e9,e10,ptr_eq,hb2,ht]
    apply hK;clear hK K
    refine W_true (by simp only [zZ2,Nat.reduceEqDiff,↓reduceIte,zZ3]<;>rfl) (W_skip ?_)
    show W _ _ _ _ _ _
    refine W_seq (W_block ?_)
    obtain ⟨x,hx⟩:∃ x,xs[i]? = some x:=⟨_,List.getElem?_eq_getElem hlt⟩
    have hk:=it_at o'.row hx
    have hd:xs.drop i=x::xs.drop (i+1):=by rw [List.drop_eq_getElem_cons hlt,(List.getElem?_eq_some_iff.1 hx).2]
    refine W_sq fun K hK=>(W_text [true,true,true,true,true,true,true,true,false,true] (by kernel_rfl) ?_);simp only [↓zZ1,↓reduceIte,Nat.reduceEqDiff,rg,ow_131,e2,e9,e10,ptr_eq,hb2,hlt,hk]
    refine do_callv (by simp only [zZ2,Nat.reduceEqDiff,↓reduceIte,zZ3]<;>rfl) hg rfl (by simp only [evt,upd_eq,Nat.reduceEqDiff,↓reduceIte,maT,maC,maN];exact hcall d x _ hS' (by omega)) ?_
    rintro _ w2 ⟨rfl,hS2,x2⟩
    refine ⟨trivial,?_⟩
    simp only [↓zZ1,↓reduceIte,Nat.reduceEqDiff,rg,ow_131]
    apply hK;clear hK K
    cases hgo:go (d++[x]) with
    | true =>
     refine W_false (by simp only [zZ2,Nat.reduceEqDiff,↓reduceIte,zZ3]<;>rfl) (W_skip ?_)
     show W _ _ _ _ _ _
     have q1:=wadd1 i (by omega)
     refine W_rg fun K hK=>(W_text [true,true,true] (by kernel_rfl) ?_);simp only [↓zZ1,↓reduceIte,Nat.reduceEqDiff,rg,ow_131,e10,q1]
     apply hK;clear hK K
     refine ⟨_,?_,i+1,d++[x],rfl,hlt,by rw [hh,hd,hand_yes go hgo],by simp;omega,hS2,X.tr x2,?_,?_,?_⟩
     ·omega
     ·simp only [upd_eq,Nat.reduceEqDiff,↓reduceIte];exact e2
     ·simp only [upd_eq,Nat.reduceEqDiff,↓reduceIte];exact e9
     ·simp only [upd_eq,Nat.reduceEqDiff,↓reduceIte]
    | false =>
     refine W_true (by simp only [zZ2,Nat.reduceEqDiff,↓reduceIte,zZ3]<;>rfl) ?_
     refine W_sq fun K hK=>(W_text [true] (by kernel_rfl) ?_);simp only [↓zZ1,↓reduceIte,Nat.reduceEqDiff,rg,ow_131]
     apply hK;clear hK K
     refine W_ret ?_
     simp only [andThen_ret,inBlk_ret]
     refine endQ_1 (by simp only [upd_eq,Nat.reduceEqDiff,↓reduceIte]<;>rfl) ?_
     rw [hh,hd,hand_no go hgo]
     exact ⟨rfl,hS2,X.tr x2⟩
   ·obtain rfl:i=xs.length:=by omega
    have ht:=lt_ff xs.length xs.length (by omega)
    refine W_sq fun K hK=>(W_text [true,true,true,true,true,true,true] (by kernel_rfl) ?_);simp only [↓zZ1,↓reduceIte,Nat.reduceEqDiff,rg,ow_131,e9,e10,ptr_eq,hb2,ht]
    apply hK;clear hK K
    refine W_false (by simp only [zZ2,Nat.reduceEqDiff,↓reduceIte,zZ3]<;>rfl) (W_exit ?_)
    simp only [andThen_exit,inBlk_exit,↓reduceIte]
    show W _ _ _ _ _ _
    refine W_sq fun K hK=>(W_text [true] (by kernel_rfl) ?_);simp only [↓zZ1,↓reduceIte,Nat.reduceEqDiff,rg,ow_131]
    apply hK;clear hK K
    refine W_ret ?_
    simp only [andThen_ret]
    refine endQ_1 (by simp only [upd_eq,Nat.reduceEqDiff,↓reduceIte]<;>rfl) ?_
    rw [hh,List.drop_length,hand_nil]
    exact ⟨rfl,hS',X⟩
 | succ h ih =>
  intro b lo xs F done w ht hG hS hbig
  obtain ⟨bi,oi,cap,bc,ba,oa,capc,ks,cs,ho,hk,h1,h2,hcs,rfl,hT,hA,hF⟩:=ht
  have hGo:∀ y o,ownF E b bi oi cap y o->∀ o',¬ G y o':=fun y o g o'=>hG y o o' ((hF y o).2 (.inl g))
  have hGk:∀ y o,kidF bc ba oa capc y o->∀ o',¬ G y o':=fun y o g o'=>hG y o o' ((hF y o).2 (.inr (.inl g)))
  have hGc:∀ c ∈ cs,∀ y o o',c.F y o->¬ G y o':=fun c hc y o o' g=>hG y o o' ((hF y o).2 (.inr (.inr ⟨c,hc,g⟩)))
  have hwl:=weave_length (cs.map Kid.xs) ks (by simpa using hcs)
  have hks:ks.length<4611686018427387904:=by omega
  refine calls_of_W [.tmp 4] Try.func131 rfl Try.ntmps131 Try.results131 (by simp) fun e he=>?_
  have e0:e 0=ptr b:=he 0 _ rfl
  have e1:e 1 = .func (.func g) first cap0:=he 1 _ rfl
  clear he
  refine W_sq fun K hK=>(W_text [true] (by kernel_rfl) ?_);simp only [↓zZ1,↓reduceIte,Nat.reduceEqDiff,rg,ow_131]
  apply hK;clear hK K
  have x1:Ext noF w w:=Ext.refl _ _
  have o1:=ho
  have S1:=hS
  refine W_seq ?_
  refine W_sq fun K hK=>(W_text [true,false] (by kernel_rfl) ?_);simp only [↓zZ1,↓reduceIte,Nat.reduceEqDiff,rg,ow_131,e0]
  refine do_call fn_108 (by simp only [zZ2,Nat.reduceEqDiff,↓reduceIte,zZ4]<;>rfl) (leaf_any b (some ⟨bc,0,none⟩) w o1.h3) ?_
  rintro _ w1 ⟨rfl,hw1⟩
  obtain rfl:w=w1:=hw1.symm
  refine ⟨trivial,?_⟩
  simp only [↓zZ1,↓reduceIte,Nat.reduceEqDiff,rg,ow_131]
  apply hK;clear hK K
  refine W_false (by simp only [zZ2,Nat.reduceEqDiff,↓reduceIte,zZ3]<;>rfl) (W_skip ?_)
  show W _ _ _ _ _ _
  refine W_seq ?_
  refine W_sq fun K hK=>(W_text [true] (by kernel_rfl) ?_);simp only [↓zZ1,↓reduceIte,Nat.reduceEqDiff,rg,ow_131]
  apply hK;clear hK K
  refine W_block (W_loop (fun mm e w'=>∃ (i:Nat) (d:List It),mm=ks.length-i/\i<=ks.length/\hand go done (weave (cs.map Kid.xs) ks)=hand go d (weave ((cs.map Kid.xs).drop i) (ks.drop i))/\d.length+(weave ((cs.map Kid.xs).drop i) (ks.drop i)).length<=4294967295/\S d w'/\Ext G w w' ∧
    e 1 = .func (.func g) first cap0/\e 0=ptr b/\e 6 = .int .i64 i)
   ks.length ⟨0,done,by simp,by simp,by simp,by simpa using hbig,S1,x1.mono fun _ _ _ h=>h.elim,?_,?_,?_⟩ ?_)
  ·simp only [upd_eq,Nat.reduceEqDiff,↓reduceIte];exact e1
  ·simp only [upd_eq,Nat.reduceEqDiff,↓reduceIte];exact e0
  ·simp only [upd_eq,Nat.reduceEqDiff,↓reduceIte];rfl
  ·clear e0 e1 e S1 o1
   rintro mm e w' ⟨i,d,rfl,hi,hh,hdl,hS',X,e2,e9,e11⟩
   have o':=ho.ext X fun y o g=>hGo y o g o
   have k':=hk.ext X fun y o g=>hGk y o g o
   have hb2:=o'.h2
   have hb3:=o'.h3
   have hc0:=k'.c0
   have hci:∀ i,i<cs.length->∃ c,cs[i]? = some c/\rd w' ba (oa+i)=some (ptr c.b):=fun i hi=>by
    refine ⟨cs[i],List.getElem?_eq_getElem hi,k'.row i _ ?_⟩
    rw [List.getElem?_map,List.getElem?_map,List.getElem?_eq_getElem hi];rfl
   rw [List.length_map] at hc0
   refine W_seq ?_
   by_cases hlt:i<ks.length
   ·have ht:=lt_tt i ks.length hlt
    refine W_sq fun K hK=>(W_text [true,true,true,true,true,true,true] (by kernel_rfl) ?_);simp only [↓zZ1,↓reduceIte,Nat.reduceEqDiff,rg,ow_131,e9,e11,ptr_eq,hb2,ht]
    apply hK;clear hK K
    refine W_true (by simp only [zZ2,Nat.reduceEqDiff,↓reduceIte,zZ3]<;>rfl) (W_skip ?_)
    show W _ _ _ _ _ _
    refine W_seq (W_block (W_seq ?_))
    obtain ⟨c,hc,hcr⟩:=hci i (by omega)
    have hcm:c ∈ cs:=List.mem_of_getElem? hc
    obtain ⟨x,hx⟩:∃ x,ks[i]? = some x:=⟨_,List.getElem?_eq_getElem hlt⟩
    have hlc:i<cs.length:=by omega
    rw [weave_step (c:=c.xs) (by rw [List.getElem?_map,hc];rfl) hx] at hh hdl
    rw [List.length_append,List.length_cons] at hdl
    refine W_sq fun K hK=>(W_text [true,true,true,true,true,true,true,true,true,true,false,true] (by kernel_rfl) ?_);simp only [↓zZ1,↓reduceIte,Nat.reduceEqDiff,rg,ow_131,e2,e9,e11,ptr_eq,hb3,hc0,hlc,hcr]
    refine do_call fn_131 (by simp only [zZ2,Nat.reduceEqDiff,↓reduceIte,zZ4]<;>rfl) (ih c.b mn c.xs c.F d _ ((hT c hcm).ext X fun y o g=>hGc c hcm y o o g) (hGc c hcm) hS' (by omega)) ?_
    rintro _ w2 ⟨rfl,hS2,x2⟩
    refine ⟨trivial,?_⟩
    simp only [↓zZ1,↓reduceIte,Nat.reduceEqDiff,rg,ow_131]
    apply hK;clear hK K
    have X2:=X.tr x2
    cases hgo:(hand go d c.xs).2 with
    | false =>
     refine W_true (by simp only [zZ2,Nat.reduceEqDiff,↓reduceIte,zZ3]<;>rfl) ?_
     refine W_sq fun K hK=>(W_text [true] (by kernel_rfl) ?_);simp only [↓zZ1,↓reduceIte,Nat.reduceEqDiff,rg,ow_131]
     apply hK;clear hK K
     refine W_ret ?_
     simp only [andThen_ret,inBlk_ret]
     refine endQ_1 (by simp only [upd_eq,Nat.reduceEqDiff,↓reduceIte]<;>rfl) ?_
     rw [hh,hand_off go hgo,hgo]
     exact ⟨rfl,hS2,X2⟩
    | true =>
     rw [hand_on go hgo] at hh
     have hd2:(hand go d c.xs).1.length=d.length+c.xs.length:=by rw [hand_true go hgo,List.length_append]
     refine W_false (by simp only [zZ2,Nat.reduceEqDiff,↓reduceIte,zZ3]<;>rfl) (W_skip ?_)
     show W _ _ _ _ _ _
     have o2:=ho.ext X2 fun y o g=>hGo y o g o
     have hb2:=o2.h2
     have hk2:=it_at o2.row hx
     refine W_sq fun K hK=>(W_text [true,true,true,true,true,true,true,true,false,true] (by kernel_rfl) ?_);simp only [↓zZ1,↓reduceIte,Nat.reduceEqDiff,rg,ow_131,e2,e9,e11,ptr_eq,hb2,hlt,hk2]
     refine do_callv (by simp only [zZ2,Nat.reduceEqDiff,↓reduceIte,zZ3]<;>rfl) hg rfl (by simp only [evt,upd_eq,Nat.reduceEqDiff,↓reduceIte,maT,maC,maN];exact hcall _ x _ hS2 (by omega)) ?_
     rintro _ w3 ⟨rfl,hS3,x3⟩
     refine ⟨trivial,?_⟩
     simp only [↓zZ1,↓reduceIte,Nat.reduceEqDiff,rg,ow_131]
     apply hK;clear hK K
     cases hgo2:go ((hand go d c.xs).1++[x]) with
     | true =>
      refine W_false (by simp only [zZ2,Nat.reduceEqDiff,↓reduceIte,zZ3]<;>rfl) (W_skip ?_)
      show W _ _ _ _ _ _
      have q1:=wadd1 i (by omega)
      refine W_rg fun K hK=>(W_text [true,true,true] (by kernel_rfl) ?_);simp only [↓zZ1,↓reduceIte,Nat.reduceEqDiff,rg,ow_131,e11,q1]
      apply hK;clear hK K
      refine ⟨_,?_,i+1,_,rfl,hlt,by rw [hh,hand_yes go hgo2],by rw [List.length_append,List.length_singleton];omega,hS3,X2.tr x3,?_,?_,?_⟩
      ·omega
      ·simp only [upd_eq,Nat.reduceEqDiff,↓reduceIte];exact e2
      ·simp only [upd_eq,Nat.reduceEqDiff,↓reduceIte];exact e9
      ·simp only [upd_eq,Nat.reduceEqDiff,↓reduceIte]
     | false =>
      refine W_true (by simp only [zZ2,Nat.reduceEqDiff,↓reduceIte,zZ3]<;>rfl) ?_
      refine W_sq fun K hK=>(W_text [true] (by kernel_rfl) ?_);simp only [↓zZ1,↓reduceIte,Nat.reduceEqDiff,rg,ow_131]
      apply hK;clear hK K
      refine W_ret ?_
      simp only [andThen_ret,inBlk_ret]
      refine endQ_1 (by simp only [upd_eq,Nat.reduceEqDiff,↓reduceIte]<;>rfl) ?_
      rw [hh,hand_no go hgo2]
      exact ⟨rfl,hS3,X2.tr x3⟩
   ·obtain rfl:i=ks.length:=by omega
    have ht:=lt_ff ks.length ks.length (by omega)
    refine W_sq fun K hK=>(W_text [true,true,true,true,true,true,true] (by kernel_rfl) ?_);simp only [↓zZ1,↓reduceIte,Nat.reduceEqDiff,rg,ow_131,e9,e11,ptr_eq,hb2,ht]
    apply hK;clear hK K
    refine W_false (by simp only [zZ2,Nat.reduceEqDiff,↓reduceIte,zZ3]<;>rfl) (W_exit ?_)
    simp only [andThen_exit,inBlk_exit,↓reduceIte]
    show W _ _ _ _ _ _
    obtain ⟨c,hc,hcr⟩:=hci ks.length (by omega)
    have hcm:c ∈ cs:=List.mem_of_getElem? hc
    rw [weave_last (c:=c.xs) (by simpa using hcs) (by rw [List.getElem?_map,hc];rfl)] at hh hdl
    have hlc:cs.length-1<cs.length:=by omega
    have hl1:cs.length-1=ks.length:=by omega
    have hlk:ks.length<cs.length:=by omega
    have q1:=wsub1 cs.length (by omega) (by omega)
    have M1:readsB (some (some [b,bc,ba])) b=true:=by simp [readsB]
    have M2:readsB (some (some [b,bc,ba])) bc=true:=by simp [readsB]
    have M3:readsB (some (some [b,bc,ba])) ba=true:=by simp [readsB]
    refine W_sq fun K hK=>(W_draw (some (some [b,bc,ba])) none [(0,0,0),(0,1,0),(0,2,0),(0,3,0),(0,4,0),(0,5,0),(0,6,0),(0,7,0),(0,8,0),(0,9,0),(0,10,0),(0,11,0),(0,12,0),(0,13,0),(0,14,0),(0,15,0),(0,16,0),(1,17,0),(0,18,0)] mixed (by kernel_rfl) ?_);simp only [↓zZ1,↓reduceIte,Nat.reduceEqDiff,rg,ow_131,e2,e9,ptr_eq,hb3,hc0,q1,hl1,hlk,hcr,M1,M2,M3]
    refine do_call fn_131 (by simp only [zZ2,Nat.reduceEqDiff,↓reduceIte,zZ4]<;>rfl) (ih c.b mn c.xs c.F d _ ((hT c hcm).ext (X.tr (Ext.dr _ _ _)) fun y o g=>hGc c hcm y o o g) (hGc c hcm) (hSx _ _ _ hS' (Ext.dr _ _ _)) (by omega)) ?_
    rintro _ w2 ⟨rfl,hS2,x2⟩
    refine ⟨.inr (keeps_on x2 fun y hy=>?_),?_⟩
    ·rw [sz_dr]
     simp only [List.mem_cons,List.not_mem_nil,or_false] at hy
     rcases hy with rfl | rfl | rfl
     ·exact ⟨wok_lt o'.wb,hGo _ 0 (.inl rfl)⟩
     ·exact ⟨wok_lt k'.wc,hGk _ 0 (.inl rfl)⟩
     ·exact ⟨wok_lt k'.wa,hGk _ oa (.inr ⟨rfl,by omega,by have:=k'.le;rw [List.length_map] at this;omega⟩)⟩
    simp only [↓zZ1,↓reduceIte,Nat.reduceEqDiff,rg,ow_131]
    apply hK;clear hK K
    refine W_ret ?_
    refine endQ_1 (by simp only [upd_eq,Nat.reduceEqDiff,↓reduceIte]<;>rfl) ?_
    rw [hh]
    exact ⟨rfl,hS2,X.tr x2.od⟩
end Go.Proofs.Ytbnnkcofnmipoaa
