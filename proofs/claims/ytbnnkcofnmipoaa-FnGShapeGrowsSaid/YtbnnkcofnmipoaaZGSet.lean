/- Texts in one. No condition. -/
import Derived.Test.YtbnnkcofnmipoaaZe79aab1b
set_option linter.unusedVariables false
set_option linter.unusedSimpArgs false
namespace Go.Proofs.Ytbnnkcofnmipoaa
open Go Go.Proofs
theorem srchG_eq (ord:List Int) (ks:List It) (x:It):srchG ord ks x = .tuple #[.int .i64 (lb O (rkI ord) (rkI ord x) ks:Nat),.bool (hit O (rkI ord) (rkI ord x) ks)]:=id (Eq.trans rfl rfl)
theorem z_ptr:zK Try.prog 96=some [.pointer none]:=by kernel_rfl
theorem bs_it:bsV Try.prog 25 1 [(0,itV zIt)]=some (33,E.cel zIt):=by kernel_rfl
theorem bs_kid:bsV Try.prog 166 1 [(0,.pointer none)]=some (96,[.pointer none]):=by kernel_rfl
theorem el_it:elK Try.prog 25=some (33,2,16,E.cel zIt):=by kernel_rfl
theorem el_kid:elK Try.prog 166=some (96,1,8,[.pointer none]):=by kernel_rfl
theorem found_xs {ord:List Int} {xs A C:List It} {x k:It} (ha:Asc O (rkI ord) xs) (hx:xs=A++k::C) (hq:rkI ord x=rkI ord k):hit O (rkI ord) (rkI ord x) xs=true/\at? O (rkI ord) (rkI ord x) xs=some k/\put O (rkI ord) x xs=A++x::C:=by
 subst hx
 exact ⟨by rw [hq];exact (found_mid O (rkI ord) ha).2,at_found O (rkI ord) ha hq,put_found O (rkI ord) ha hq⟩
def SetQ (ord:List Int) (d:Nat) (iso:Int) (h lo b:Nat) (xs:List It) (x:It) (F:FS It) (w:World) (v:Value) (w':World):Prop :=
 Ext F w w'/\∃ F':FS It,(∀ y o,F' y o->F y o\/w.heap.size<=y) ∧
  ((v = .tuple #[itV zIt,.bool false,.bool true]/\Tr E iso (d-1) (2*d-1) h w' (2*d-1) b xs F'/\hit O (rkI ord) (rkI ord x) xs=false/\SetR ord d x F.s true F'.s) ∨
   (v = .tuple #[itV ((at? O (rkI ord) (rkI ord x) xs).getD zIt),.bool (hit O (rkI ord) (rkI ord x) xs),.bool false]/\Tr E iso (d-1) (2*d-1) h w' lo b (put O (rkI ord) x xs) F'/\SetR ord d x F.s false F'.s))
set_option maxHeartbeats 8000000 in
set_option maxRecDepth 8000 in
theorem set_any (B m d:Nat) (iso:Int) (ord:List Int) (x:It) (hd:2<=d) (hd':d<=128):∀ (h k lo:Nat),2*d-lo=k->1<=lo->∀ (b:Nat) (xs:List It) (F:FS It) (w:World) (pc po:Nat) (dep:Nat),Cfg w m iso d->Ls B m w ord->(∀ y o,F y o->m<y)->dep+h<1152921504606846976 →
  Tr E iso (d-1) (2*d-1) h w lo b xs F->Asc O (rkI ord) xs->xs.length<1152921504606846976->(∀ o,¬ F m o)->rd w pc po=some (ptr b)->¬ F pc po →
  CallK Try.prog 123 #[ptr m,.pointer (some ⟨pc,po,none⟩),itV x,.pointer none,.int .i64 dep] w (SetQ ord d iso h lo b xs x F w):=by
 intro h
 induction h using Nat.strongRecOn with
 | _ h ihh =>
 intro k
 induction k using Nat.strongRecOn with
 | _ k ihk =>
 intro lo hlo hlo1 b xs F w pc po dep hc hL hBF hdep ht ha hbig hm hp hpF
 obtain ⟨bi,oi,cap,ks,ch,ho,hl1,hl2,hoF,hin⟩:=ht.open
 have hbl:=wok_lt ho.wb
 have hbil:=wok_lt ho.wi
 have hne:=ho.ne
 have hcap:=ho.le
 have wi:wok w bi (oi+cap*2):=(by have h:=ho.wi;simp only [E_sz,Nat.mul_one] at h;exact h)
 have hml:=wok_lt hc.wok
 have hpl:=rd_lt hp
 have hmF:∀ o,¬ ownF E b bi oi cap m o:=fun o g=>hm o (hoF _ _ g)
 have hak:Asc O (rkI ord) ks:=by
  rcases hin with ⟨_,_,hx,_⟩ | ⟨_,_,_,_,_,cs,_,_,n⟩
  ·rw [<-hx];exact ha
  ·refine List.Pairwise.sublist ?_ ha
   rw [n.eq];exact weave_sub _ _ (by simpa using n.len)
 have hkb:ks.length<4611686018427387904:=Nat.lt_of_le_of_lt hl2 (by clear hin hoF;omega)
 replace hin:id _:=hin
 refine calls_of_W [.cell 10 33,.tmp 11,.tmp 12] Try.func123 rfl Try.ntmps123 Try.results123 (by simp) fun e he=>?_
 have e0:e 0=ptr m:=he 0 _ rfl
 have e1:e 1 = .pointer (some ⟨pc,po,none⟩):=he 1 _ rfl
 have e2:e 2=itV x:=he 2 _ rfl
 have e3:e 3 = .pointer none:=he 3 _ rfl
 have e4:e 4 = .int .i64 dep:=he 4 _ rfl
 clear he
 obtain ⟨lv,hlv,hless,hBm⟩:=id hL
 have hne0:(iso != iso)=false:=by simp
 refine W_sq fun K hK=>(W_text [false,false,true,true] (by kernel_rfl) ?_);simp only [↓zZ1,↓reduceIte,Nat.reduceEqDiff,rg,ow_123]
 refine do_box (by simp only [evt];exact e2) fun w0 n0=>⟨trivial,?_⟩
 simp only [↓zZ1,↓reduceIte,Nat.reduceEqDiff,rg,ow_123]
 refine do_alloc z_it fun w1 n1=>⟨trivial,?_⟩
 simp only [↓zZ1,↓reduceIte,Nat.reduceEqDiff,rg,ow_123]
 apply hK;clear hK K
 have s0:=n0.size
 have X1:Ext noF w w1:=n0.ext.tr n1.ext
 have rx1:Row w1 w.heap.size 0 (E.cel x):=n1.ext.row n0.row fun _ _ h=>h
 have s1:w1.heap.size=w.heap.size+2:=by have:=n1.size;omega
 obtain ⟨q,hq⟩:∃ q,q=w0.heap.size:=⟨_,rfl⟩
 have hqs:q=w.heap.size+1:=by omega
 have wq1:wok w1 q 2:=by rw [hq];exact n1.wok
 rw [<-hq]
 clear hq n0 n1
 have p1:=X1.rd hp fun h=>h
 have i1:=X1.rd hc.iso fun h=>h
 have b1:=X1.rd ho.h0 fun h=>h
 refine W_seq ?_
 refine W_sq fun K hK=>(W_draw (some none) none [(0,0,0),(0,1,0),(0,2,0),(0,3,0),(0,4,0),(0,5,0),(0,6,0),(0,7,0),(0,8,0),(0,9,0),(0,10,0)] mixed (by kernel_rfl) ?_);simp only [↓zZ1,↓reduceIte,Nat.reduceEqDiff,rg,ow_123,e0,e1,ptr_eq,p1,i1,b1,hne0]
 apply hK;clear hK K
 refine W_false (by simp only [zZ2,Nat.reduceEqDiff,↓reduceIte,zZ3]<;>rfl) (W_skip ?_)
 show W _ _ _ _ _ _
 refine W_sq fun K hK=>(W_text [true,true,true,false,false] (by kernel_rfl) ?_);simp only [↓zZ1,↓reduceIte,Nat.reduceEqDiff,rg,ow_123,e1,p1,ptr_eq]
 refine do_alloc z_ptr fun w3 n3=>⟨trivial,?_⟩
 simp only [↓zZ1,↓reduceIte,Nat.reduceEqDiff,rg,ow_123]
 refine do_store (by simp only [zZ2,Nat.reduceEqDiff,↓reduceIte,zZ3]<;>rfl) (by simp only [zZ2,Nat.reduceEqDiff,↓reduceIte,zZ3]<;>rfl) sz_96 rfl n3.wok (by decide) (oc_one rfl rfl) fun w4p x4 r4 s4=>⟨trivial,?_⟩
 simp only [↓zZ1,↓reduceIte,Nat.reduceEqDiff,rg,ow_123]
 apply hK;clear hK K
 have n3:=n3.od
 have s3:=n3.size
 have x4:Ext (rng w1.heap.size 0 1) w3 w4p:=x4
 have x3:=n3.ext
 have X3:Ext noF w w3:=X1.tr x3
 have X4p:Ext noF w w4p:=noF_of X3 x4 fun x o hx h=>by simp only [rng] at h;omega
 have rxp:Row w4p w.heap.size 0 (E.cel x):=x4.row (x3.row rx1 fun _ _ h=>h) fun i _ h=>by simp only [rng] at h;omega
 have rnp:rd w4p w1.heap.size 0=some (ptr b):=(Row.cons.1 r4).1
 have o4p:=ho.ext X4p fun _ _ _ h=>h
 have ixp:=iX_at rxp
 have wqp:wok w4p q 2:=x4.wok (x3.wok wq1)
 refine W_sq fun K hK=>(W_text [true] (by kernel_rfl) ?_);simp only [↓zZ1,↓reduceIte,Nat.reduceEqDiff,rg,ow_123]
 apply hK;clear hK K
 refine W_sq fun K hK=>(W_text [true] (by kernel_rfl) ?_);simp only [↓zZ1,↓reduceIte,Nat.reduceEqDiff,rg,ow_123]
 apply hK;clear hK K
 refine W_seq ?_
 refine W_sq fun K hK=>(W_text [true,true] (by kernel_rfl) ?_);simp only [↓zZ1,↓reduceIte,Nat.reduceEqDiff,rg,ow_123,e3]
 apply hK;clear hK K
 refine W_true (by simp only [zZ2,Nat.reduceEqDiff,↓reduceIte,zZ3]<;>rfl) ?_
 refine W_rg fun K hK=>(W_text [true,true,true,false,true,true,true,true,true] (by kernel_rfl) ?_);simp only [↓zZ1,↓reduceIte,Nat.reduceEqDiff,rg,ow_123,e0,rnp,ixp]
 refine do_call fn_128 (by simp only [zZ2,Nat.reduceEqDiff,↓reduceIte,zZ4]<;>rfl) (bsearch_any B m b bi oi cap ord ks x w4p (hL.ext0 X4p) o4p.h2 o4p.row (by have:=X4p.size;omega) hkb hak) ?_
 rintro _ w4 ⟨rfl,x5⟩
 refine ⟨trivial,?_⟩
 simp only [↓zZ1,↓reduceIte,Nat.reduceEqDiff,rg,ow_123,srchG_eq]
 apply hK;clear hK K
 have s5:=x5.size
 have X4:Ext noF w w4:=X4p.tr x5
 have rx:Row w4 w.heap.size 0 (E.cel x):=x5.row rxp fun _ _ h=>h
 have rn:rd w4 w1.heap.size 0=some (ptr b):=x5.rd rnp fun h=>h
 have o4:=o4p.ext x5 fun _ _ _ h=>h
 have wq4:wok w4 q 2:=x5.wok wqp
 have sz4:w.heap.size+3<=w4.heap.size:=by omega
 have hL4:=hL.ext0 X4
 refine W_seq ?_
 refine W_sq fun K hK=>(W_text [true] (by kernel_rfl) ?_);simp only [↓zZ1,↓reduceIte,Nat.reduceEqDiff,rg,ow_123]
 apply hK;clear hK K
 cases hh:hit O (rkI ord) (rkI ord x) ks with
 | true =>
  refine W_true (by simp only [zZ2,Nat.reduceEqDiff,↓reduceIte,zZ3]<;>rfl) ?_
  obtain ⟨kk,hk1,hk2⟩:=hit_at O (rkI ord) hh
  have hi:=(List.getElem?_eq_some_iff.1 hk1).1
  have hv:=it_at o4.row hk1
  refine W_sq fun K hK=>(W_text [true,true,true,true,true,true,true,false] (by kernel_rfl) ?_);simp only [↓zZ1,↓reduceIte,Nat.reduceEqDiff,rg,ow_123,rn,ptr_eq,o4.h2,hi,hv]
  refine do_store (by simp only [zZ2,Nat.reduceEqDiff,↓reduceIte,zZ3]<;>rfl) (by simp only [zZ2,Nat.reduceEqDiff,↓reduceIte,zZ3]<;>rfl) sz_33 (itV_len kk) wq4 (by decide) (itV_oc kk) fun w5 x5 r5 s5=>⟨trivial,?_⟩
  simp only [↓zZ1,↓reduceIte,Nat.reduceEqDiff,rg,ow_123]
  apply hK;clear hK K
  have X5:Ext noF w w5:=noF_of X4 x5 fun y o hy g=>by simp only [rng] at g;omega
  have rn5:=x5.rd rn (by simp only [rng];omega)
  have o5:=ho.ext X5 fun _ _ _ h=>h
  have ix5:=iX_at (x5.row rx fun j _ g=>by simp only [rng] at g;omega)
  refine W_sq fun K hK=>(W_draw (some none) (some 7) [(0,0,0),(0,1,0),(0,2,0),(0,3,0),(0,4,0),(0,5,0),(0,6,0),(1,7,0)] mixed (by kernel_rfl) ?_);simp only [↓zZ1,↓reduceIte,Nat.reduceEqDiff,rg,ow_123,rn5,ptr_eq,o5.h2,hi,ix5]
  refine do_store (by simp only [zZ2,Nat.reduceEqDiff,↓reduceIte,zZ3]<;>rfl) (by simp only [zZ2,Nat.reduceEqDiff,↓reduceIte,zZ3]<;>rfl) sz_33 (itV_len x) (X5.wok wi) (by omega) (itV_oc x) fun w6 x6 r6 s6=>⟨.inl trivial,?_⟩
  simp only [↓zZ1,↓reduceIte,Nat.reduceEqDiff,rg,ow_123]
  apply hK;clear hK K
  have x6:=x6.od
  have o6:=o5.set hi x6 r6
  have X6:Ext F w w6:=X5.trans x6 (fun _ _ g=>g.elim) fun y o _ g=>hoF _ _ (by simp only [rng] at g;exact .inr ⟨g.1,by omega,by rw [E_sz];omega⟩)
  have pv6:=iX_at (x6.row (show Row w5 q 0 (E.cel kk) from r5) fun j _ g=>by simp only [rng] at g;omega)
  refine W_sq fun K hK=>(W_text [true,false,true,true] (by kernel_rfl) ?_);simp only [↓zZ1,↓reduceIte,Nat.reduceEqDiff,rg,ow_123,pv6]
  refine do_store (by simp only [zZ2,Nat.reduceEqDiff,↓reduceIte,zZ3]<;>rfl) (by simp only [zZ2,Nat.reduceEqDiff,↓reduceIte,zZ3]<;>rfl) sz_33 (itV_len kk) (x6.wok (x5.wok wq4)) (by decide) (itV_oc kk) fun w7 x7 r7 s7=>⟨trivial,?_⟩
  simp only [↓zZ1,↓reduceIte,Nat.reduceEqDiff,rg,ow_123]
  apply hK;clear hK K
  have X7:Ext F w w7:=X6.trans x7 (fun _ _ g=>g) fun y o hy g=>by simp only [rng] at g;omega
  have key:∃ A C s,xs=A++kk::C/\SetR ord d x F.s false s/\Tr E iso (d-1) (2*d-1) h w6 lo b (A++x::C) ⟨F.f,s⟩:=by
   rcases (hin:_\/_) with ⟨rfl,rfl,rfl,hF⟩ | ⟨h',bc,ba,oa,capc,cs,rfl,rfl,n⟩
   ·refine ⟨xs.take (lb O (rkI ord) (rkI ord x) xs),xs.drop (lb O (rkI ord) (rkI ord x) xs+1),.nd (xs.take (lb O (rkI ord) (rkI ord x) xs)++x::xs.drop (lb O (rkI ord) (rkI ord x) xs+1)) [],?_,?_,bi,oi,cap,?_,?_,?_,⟨fun y o=>hF y o,rfl⟩⟩
    ·have h3:=List.getElem?_eq_some_iff.1 hk1
     have:=List.take_append_drop (lb O (rkI ord) (rkI ord x) xs) xs
     rw [List.drop_eq_getElem_cons h3.1,h3.2] at this
     exact this.symm
    ·rw [hF.e]
     have:=SetR.hit (ord:=ord) (d:=d) (cs:=[]) hh
     rw [List.set_eq_take_append_cons_drop,if_pos hi] at this
     exact this
    ·rw [List.set_eq_take_append_cons_drop,if_pos hi] at o6
     have hl:(xs.take (lb O (rkI ord) (rkI ord x) xs)++x::xs.drop (lb O (rkI ord) (rkI ord x) xs+1)).length=xs.length:=by simp;omega
     rw [hl];exact o6
    ·simp;omega
    ·simp;omega
   ·obtain ⟨A,C,hw⟩:=weave_key (lb O (rkI ord) (rkI ord x) ks) (cs.map Kid.xs) ks kk (by simpa using n.len) hk1
    have hxs:xs=A++kk::C:=by
     rw [n.eq,<-hw kk]
     obtain ⟨g1,g2⟩:=List.getElem?_eq_some_iff.1 hk1
     rw [<-g2,List.set_getElem_self g1]
    refine ⟨A,C,_,hxs,by rw [n.fp.e];exact SetR.hit hh,?_⟩
    have n6:=n.ext (G:=rng bi (oi+lb O (rkI ord) (rkI ord x) ks*2) 2) (w':=w6) ?_ ?_ ?_
    ·refine Inn.tr (ks:=ks.set (lb O (rkI ord) (rkI ord x) ks) x) ⟨n6.kids,by rw [List.length_set];exact n.len,(hw x).symm,n6.sub,n.ap,⟨fun y o=>n.fp y o,rfl⟩⟩ ?_ (by rw [List.length_set];exact hl1) (by rw [List.length_set];exact hl2)
     have hl:(A++x::C).length=xs.length:=by rw [hxs];simp
     rw [hl];exact o6
    ·exact X5.trans x6 (fun _ _ g=>g.elim) fun _ _ _ g=>g
    ·intro y o g k
     simp only [rng] at k
     have:=n.ap.ic
     have:=n.ap.ia
     rcases g with g | g
     ·omega
     ·simp only [rng] at g;omega
    ·intro c hc y o g k
     simp only [rng] at k
     exact n.ap.own c hc y o g (.inr ⟨k.1,by omega,by rw [E_sz];omega⟩)
  obtain ⟨A,C,s,hxs,hR,hT⟩:=key
  obtain ⟨f1,f2,f3⟩:=found_xs ha hxs hk2
  refine W_ret (endQ_ctt (by simp only [upd_eq,Nat.reduceEqDiff,↓reduceIte]<;>rfl) (by simp only [upd_eq,Nat.reduceEqDiff,↓reduceIte]<;>rfl) (by simp only [upd_eq,Nat.reduceEqDiff,↓reduceIte]<;>rfl) ld_33 (iX_at r7) ⟨X7,⟨F.f,s⟩,fun _ _ g=>.inl g,.inr ⟨?_,?_,hR⟩⟩)
  ·rw [f1,f2];rfl
  ·rw [f3];exact hT.ext x7 fun y o g k=>by have:=ht.lt y o g;simp only [rng] at k;omega
 | false =>
  refine W_false (by simp only [zZ2,Nat.reduceEqDiff,↓reduceIte,zZ3]<;>rfl) (W_skip ?_)
  show W _ _ _ _ _ _
  refine W_seq ?_
  have c4:=hc.ext X4 fun _ _ _ h=>h
  have z4:=zIt_at c4
  have ix:=iX_at rx
  have hmn:m ≠ bi:=fun g=>hmF oi (.inr ⟨g,by omega,by rw [E_sz];omega⟩)
  have hmb:m ≠ b:=fun g=>hmF 0 (.inl g)
  have hlb:lb O (rkI ord) (rkI ord x) ks<=ks.length:=lb_le O (rkI ord) _ _
  generalize hli:lb O (rkI ord) (rkI ord x) ks=i at *
  have L1:=on1 w1.heap.size b m
  have L2:=on2 w1.heap.size b m
  have L3:=on3 w1.heap.size b m
  rcases (hin:_\/_) with ⟨rfl,rfl,rfl,hF⟩ | ⟨h',bc,ba,oa,capc,cs,rfl,rfl,n⟩
  ·refine W_sq fun K hK=>(W_text [true,false] (by kernel_rfl) ?_);simp only [↓zZ1,↓reduceIte,Nat.reduceEqDiff,rg,ow_123,rn]
   refine do_call fn_108 (by simp only [zZ2,Nat.reduceEqDiff,↓reduceIte,zZ4]<;>rfl) (leaf_any b none w4 o4.h3) ?_
   rintro _ w4' ⟨rfl,hw4⟩
   obtain rfl:w4=w4':=hw4.symm
   refine ⟨trivial,?_⟩
   simp only [↓zZ1,↓reduceIte,Nat.reduceEqDiff,rg,ow_123]
   apply hK;clear hK K
   refine W_true (by simp only [zZ2,Nat.reduceEqDiff,↓reduceIte,zZ3]<;>rfl) (W_seq ?_)
   by_cases hfull:xs.length=2*d-1
   ·have hb:((xs.length:Int) == ((2*d-1:Nat):Int))=true:=by rw [hfull];simp
    refine W_sq fun K hK=>(W_draw (some none) none [(0,0,0),(0,1,0),(0,2,0),(0,3,0),(0,4,0),(0,5,0),(0,6,0),(0,7,0),(0,8,0),(0,9,0)] mixed (by kernel_rfl) ?_);simp only [↓zZ1,↓reduceIte,Nat.reduceEqDiff,rg,ow_123,e0,rn,ptr_eq,o4.h2,c4.mx,hb]
    apply hK;clear hK K
    refine W_true (by simp only [zZ2,Nat.reduceEqDiff,↓reduceIte,zZ3]<;>rfl) ?_
    refine W_sq fun K hK=>(W_text [true,true,true,true,false,true,true] (by kernel_rfl) ?_);simp only [↓zZ1,↓reduceIte,Nat.reduceEqDiff,rg,ow_123,e0,ptr_eq,z4]
    refine do_store (by simp only [zZ2,Nat.reduceEqDiff,↓reduceIte,zZ3]<;>rfl) (by simp only [zZ2,Nat.reduceEqDiff,↓reduceIte,zZ3]<;>rfl) sz_33 (itV_len zIt) wq4 (by decide) (itV_oc zIt) fun w5 x5 r5 s5=>⟨trivial,?_⟩
    simp only [↓zZ1,↓reduceIte,Nat.reduceEqDiff,rg,ow_123]
    apply hK;clear hK K
    have x5:=x5.od
    have X5:Ext noF w w5:=noF_of X4 x5 fun y o hy g=>by simp only [rng] at g;omega
    refine W_ret (endQ_ctt (by simp only [upd_eq,Nat.reduceEqDiff,↓reduceIte]<;>rfl) (by simp only [upd_eq,Nat.reduceEqDiff,↓reduceIte]<;>rfl) (by simp only [upd_eq,Nat.reduceEqDiff,↓reduceIte]<;>rfl) ld_33 (iX_at r5) ⟨X5.mono fun _ _ _ g=>g.elim,F,fun _ _ g=>.inl g,.inl ⟨rfl,?_,hh,by rw [hF.e];exact SetR.full hh hfull⟩⟩)
    exact ⟨bi,oi,cap,ho.ext X5 fun _ _ _ h=>h,by omega,hl2,hF⟩
   ·have hb:((xs.length:Int) == ((2*d-1:Nat):Int))=false:=by simp;omega
    refine W_sq fun K hK=>(W_draw (some none) none [(0,0,0),(0,1,0),(0,2,0),(0,3,0),(0,4,0),(0,5,0),(0,6,0),(0,7,0),(0,8,0),(0,9,0)] mixed (by kernel_rfl) ?_);simp only [↓zZ1,↓reduceIte,Nat.reduceEqDiff,rg,ow_123,e0,rn,ptr_eq,o4.h2,c4.mx,hb]
    apply hK;clear hK K
    refine W_false (by simp only [zZ2,Nat.reduceEqDiff,↓reduceIte,zZ3]<;>rfl) (W_skip ?_)
    show W _ _ _ _ _ _
    refine W_sq fun K hK=>(W_draw (some (some [w1.heap.size,b,m])) (some 13) [(0,0,0),(0,1,0),(0,2,0),(0,3,0),(0,4,0),(0,5,0),(0,6,0),(0,7,0),(0,8,0),(1,9,0),(1,10,0),(0,11,0),(0,12,0),(1,13,0)] mixed (by kernel_rfl) ?_);simp only [↓zZ1,↓reduceIte,Nat.reduceEqDiff,rg,ow_123,e0,rn,ptr_eq,o4.h2,z4,L1,L2,L3,rB_on]
    refine do_bsl rfl bs_it fun w6 n6=>⟨.inr (keep3 n6.ext ⟨by rw [sz_dr];omega,fun _ h=>h⟩ ⟨by rw [sz_dr];omega,fun _ h=>h⟩ ⟨by rw [sz_dr];omega,fun _ h=>h⟩),?_⟩
    simp only [↓zZ1,↓reduceIte,Nat.reduceEqDiff,rg,ow_123]
    have n6:=n6.od
    have s6:=n6.size
    have o6:=o4.ext n6.ext fun _ _ _ h=>h
    have hsl:SlV w6 2 (.slice (some ⟨bi,oi,none⟩) xs.length cap) xs.length (flat E xs):=⟨by rw [flat_length];rfl,.inr ⟨bi,oi,cap,rfl,hcap,o6.row,o6.wi.R (Nat.le_refl _)⟩⟩
    have hz:SlV w6 2 (.slice (some ⟨w4.heap.size,0,none⟩) 1 1) 1 (E.cel zIt):=⟨rfl,.inr ⟨_,0,1,rfl,Nat.le_refl _,n6.row,n6.wok.R (Nat.le_refl _)⟩⟩
    refine do_append (by simp only [zZ2,Nat.reduceEqDiff,↓reduceIte,zZ3]<;>rfl) (by simp only [zZ2,Nat.reduceEqDiff,↓reduceIte,zZ3]<;>rfl) el_it rfl ni_25 hsl hz (by omega) (by decide) (E.one zIt) fun v7 w7 a7=>?_
    obtain ⟨b',o',cap',rfl,hcap',row7,wok7,x7,hcase⟩:=app_out a7 o6.wi
    refine ⟨.inr (keep3 x7 ⟨by omega,fun o h=>by simp only [rng] at h;omega⟩ ⟨by omega,fun o h=>by simp only [rng] at h;omega⟩ ⟨by omega,fun o h=>by simp only [rng] at h;omega⟩),?_⟩
    simp only [↓zZ1,↓reduceIte,Nat.reduceEqDiff,rg,ow_123,rn,ptr_eq]
    have s7:=x7.size
    have wb7:=x7.wok (n6.ext.wok o4.wb)
    refine do_store (by simp only [zZ2,Nat.reduceEqDiff,↓reduceIte,zZ3]<;>rfl) (by simp only [zZ2,Nat.reduceEqDiff,↓reduceIte,zZ3]<;>rfl) sz_25 rfl wb7 (by decide) (oc_one rfl rfl) fun w8 x8 r8 s8=>⟨.inl trivial,?_⟩
    simp only [↓zZ1,↓reduceIte,Nat.reduceEqDiff,rg,ow_123]
    apply hK;clear hK K
    have hb'b:b' ≠ b:=by omega
    have hb's:b'<w8.heap.size:=by have:=wok_lt wok7;omega
    have rn8:rd w8 w1.heap.size 0=some (ptr b):=x8.rd (x7.rd (n6.ext.rd rn fun h=>h) (by simp only [rng];omega)) (by simp only [rng];omega)
    have b28:rd w8 b 2=some (.slice (some ⟨b',o',none⟩) (xs.length+1) cap'):=(Row.cons.1 r8).1
    have row8:Row w8 b' o' (flat E xs++E.cel zIt):=x8.row row7 fun j _ h=>by simp only [rng] at h;omega
    have wok8:=x8.wok wok7
    have q1:IntKind.i64.wrap ((i:Int)+1)=((i+1:Nat):Int):=wadd1 i (by omega)
    obtain ⟨o1,hs1,ho1,ho1'⟩:=slFrom_sl b' o' 2 (i+1) (xs.length+1) cap'
    have hs2:slFrom b' o' 2 i (xs.length+1) cap' = .slice (some ⟨b',o'+i*2,none⟩) (xs.length+1-i) (cap'-i):=by (rw [slFrom_ne (by omega)];try rw [Nat.mul_one])
    have i1:i+1<=xs.length+1:=by omega
    have i2:i<=xs.length+1:=by omega
    refine W_sq fun K hK=>(W_draw (some none) (some 13) [(0,0,0),(0,1,0),(0,2,0),(0,3,0),(0,4,0),(0,5,0),(0,6,0),(0,7,0),(0,8,0),(0,9,0),(0,10,0),(0,11,0),(0,12,0),(1,13,0)] mixed (by kernel_rfl) ?_);simp only [↓zZ1,↓reduceIte,Nat.reduceEqDiff,rg,ow_123,rn8,ptr_eq,b28,q1,i1,i2,hs1,hs2]
    have hln:(flat E xs++E.cel zIt).length=(xs.length+1)*2:=by rw [List.length_append,flat_length,E.len,E_sz];omega
    have hsrc:SlV (dr w8 (w8.drawn+1)) 2 (.slice (some ⟨b',o'+i*2,none⟩) (xs.length+1-i) (cap'-i)) (xs.length+1-i) ((flat E xs++E.cel zIt).drop (i*2)) :=
     ⟨by rw [List.length_drop,hln];omega,.inr ⟨b',_,_,rfl,by omega,row8.drop _,wok8.R (by omega)⟩⟩
    have hmo:o1+(xs.length+1-(i+1))*2<=o'+cap'*2:=by
     by_cases hcc:cap'=i+1
     ·have:=ho1' hcc;omega
     ·have:=ho1 hcc;omega
    refine do_copy (by simp only [zZ2,Nat.reduceEqDiff,↓reduceIte,zZ3]<;>rfl) (by simp only [zZ2,Nat.reduceEqDiff,↓reduceIte,zZ3]<;>rfl) el_it hsrc (wok8.mono hmo) (fun v hv=>by
     have:=List.mem_of_mem_drop hv
     rcases List.mem_append.1 this with h | h
     ·exact flat_oc E xs v h
     ·exact E.one zIt v h) fun w9 x9 r9 s9=>⟨.inl trivial,?_⟩
    simp only [↓zZ1,↓reduceIte,Nat.reduceEqDiff,rg,ow_123]
    apply hK;clear hK K
    have hmin:min (xs.length+1-i) (xs.length+1-(i+1))=xs.length-i:=by omega
    rw [hmin] at x9 r9
    have x9:=x9.od
    have rn9:=x9.rd rn8 (by simp only [rng];omega)
    have b29:=x9.rd b28 (by simp only [rng];omega)
    have wok9:=x9.wok wok8
    have row9:Row w9 w.heap.size 0 (E.cel x):=x9.row (x8.row (x7.row (n6.ext.row rx fun _ _ h=>h) fun j _ h=>by simp only [rng] at h;omega) fun j _ h=>by simp only [rng] at h;omega) fun j _ h=>by simp only [rng] at h;omega
    have ix9:=iX_at row9
    have i3:i<xs.length+1:=by omega
    refine W_sq fun K hK=>(W_draw (some none) (some 7) [(0,0,0),(0,1,0),(0,2,0),(0,3,0),(0,4,0),(0,5,0),(0,6,0),(1,7,0)] mixed (by kernel_rfl) ?_);simp only [↓zZ1,↓reduceIte,Nat.reduceEqDiff,rg,ow_123,rn9,ptr_eq,b29,i3,ix9]
    refine do_store (by simp only [zZ2,Nat.reduceEqDiff,↓reduceIte,zZ3]<;>rfl) (by simp only [zZ2,Nat.reduceEqDiff,↓reduceIte,zZ3]<;>rfl) sz_33 (itV_len x) wok9 (by omega) (itV_oc x) fun w10 x10 r10 s10=>⟨.inl trivial,?_⟩
    simp only [↓zZ1,↓reduceIte,Nat.reduceEqDiff,rg,ow_123]
    apply hK;clear hK K
    have x10:=x10.od
    have rn10:=x10.rd rn9 (by simp only [rng];omega)
    have b110:rd w10 b 1=some (.int .i64 xs.length):=x10.rd (x9.rd (x8.rd (x7.rd o6.h1 (by simp only [rng];omega)) (by simp only [rng];omega)) (by simp only [rng];omega)) (by simp only [rng];omega)
    have q2:=wadd1 xs.length (by omega)
    have wb10:=x10.wok (x9.wok (x8.wok wb7))
    refine W_sq fun K hK=>(W_text [true,true,true,true,true,true,true,false] (by kernel_rfl) ?_);simp only [↓zZ1,↓reduceIte,Nat.reduceEqDiff,rg,ow_123,rn10,ptr_eq,b110,q2]
    refine do_store (by simp only [zZ2,Nat.reduceEqDiff,↓reduceIte,zZ3]<;>rfl) (by simp only [zZ2,Nat.reduceEqDiff,↓reduceIte,zZ3]<;>rfl) sz_3 rfl wb10 (by decide) (oc_one rfl rfl) fun w11 x11 r11 s11=>⟨trivial,?_⟩
    simp only [↓zZ1,↓reduceIte,Nat.reduceEqDiff,rg,ow_123]
    apply hK;clear hK K
    have Y:Ext (fun y o=>(rng bi (oi+xs.length*2) 2 y o/\xs.length+1<=cap)\/(y=b/\(o=1\/o=2))\/y=b'/\o'<=o/\o<o'+cap'*2) w6 w11:=by
     refine (((x7.trans x8 (fun _ _ g=>.inl g) fun y o _ g=>?_).trans x9 (fun _ _ g=>g) fun y o _ g=>?_).trans x10 (fun _ _ g=>g) fun y o _ g=>?_).trans x11 (fun _ _ g=>g) fun y o _ g=>?_
     ·simp only [rng] at g;exact .inr (.inl (by omega))
     ·simp only [rng] at g
      refine .inr (.inr ⟨g.1,?_,?_⟩)
      ·by_cases hcc:cap'=i+1
       ·have:=ho1' hcc;omega
       ·have:=ho1 hcc;omega
      ·have:=hmo;omega
     ·simp only [rng] at g;exact .inr (.inr (by omega))
     ·simp only [rng] at g;exact .inr (.inl (by omega))
    have X6:Ext noF w w6:=X4.tr n6.ext
    have XF:Ext F w w11:=X6.trans Y (fun _ _ g=>g.elim) fun y o hy g=>by
     rw [hF.p y o]
     rcases g with g | g | g
     ·simp only [rng] at g
      exact .inr ⟨g.1.1,by omega,by rw [E_sz];omega⟩
     ·exact .inl g.1
     ·rcases hcase with ⟨rfl,rfl,rfl⟩ | hc
      ·exact .inr ⟨g.1,g.2.1,by rw [E_sz];have:=g.2.2;omega⟩
      ·omega
    have m11:=hc.ext XF fun o _ _=>hm o
    have z11:=zIt_at m11
    have hput:at? O (rkI ord) (rkI ord x) xs=none:=by unfold at?;rw [hh];rfl
    have tr11:Tr E iso (d-1) (2*d-1) 0 w11 lo b (put O (rkI ord) x xs) ⟨ownF E b b' o' cap',.nd (put O (rkI ord) x xs) []⟩:=by
     refine ⟨b',o',cap',?_,?_,?_,⟨fun _ _=>Iff.rfl,rfl⟩⟩
     ·have hp:=put_leaf O (rkI ord) hh
      rw [hli] at hp
      have hlen:(put O (rkI ord) x xs).length=xs.length+1:=by rw [put_length,hh];rfl
      have h0:rd w11 b 0=some (.int .u64 iso):=Y.rd o6.h0 (by simp only [rng];omega)
      have h3:rd w11 b 3=some (.pointer none):=Y.rd o6.h3 (by simp only [rng];omega)
      have hrow:Row w11 b' o' (flat E (xs.take i++x::xs.drop i)):=by
       rw [flat_append,flat_cons,<-flat_take,<-flat_drop]
       refine x11.row (ins_row (sz:=2) (n:=xs.length) (by rw [flat_length];rfl) hlb row8 rfl x9 r9 (fun hin=>ho1 (by omega)) x10 r10 (Ext.refl _ _)) fun j _ h=>by simp only [rng] at h;omega
      refine ⟨h0,?_,?_,h3,x11.wok wb10,?_,x11.wok (x10.wok wok9),?_,hb'b⟩
      ·rw [hlen];exact (Row.cons.1 r11).1
      ·rw [hlen];exact x11.rd (x10.rd b29 (by simp only [rng];omega)) (by simp only [rng];omega)
      ·rw [hp];exact hrow
      ·rw [hlen];exact hcap'
     ·rw [put_length,hh];simp;omega
     ·rw [put_length,hh];simp;omega
    have hown:∀ y o,ownF E b b' o' cap' y o->F y o\/w6.heap.size<=y:=by
     rintro y o (rfl | ⟨rfl,g1,g2⟩)
     ·exact .inl ((hF _ _).2 (.inl rfl))
     ·rcases hcase with ⟨rfl,rfl,rfl⟩ | hc
      ·exact .inl ((hF _ _).2 (.inr ⟨rfl,g1,g2⟩))
      ·exact .inr (by omega)
    have hFlt:=ht.lt
    refine W_sq fun K hK=>(W_text [true,true,true,true,false,true,true] (by kernel_rfl) ?_);simp only [↓zZ1,↓reduceIte,Nat.reduceEqDiff,rg,ow_123,e0,ptr_eq,z11]
    refine do_store (by simp only [zZ2,Nat.reduceEqDiff,↓reduceIte,zZ3]<;>rfl) (by simp only [zZ2,Nat.reduceEqDiff,↓reduceIte,zZ3]<;>rfl) sz_33 (itV_len zIt) (Y.wok (n6.ext.wok wq4)) (by decide) (itV_oc zIt) fun w12 x12 r12 s12=>⟨trivial,?_⟩
    simp only [↓zZ1,↓reduceIte,Nat.reduceEqDiff,rg,ow_123]
    apply hK;clear hK K
    have X12:Ext F w w12:=XF.trans x12 (fun _ _ g=>g) fun y o hy g=>by simp only [rng] at g;omega
    refine W_ret (endQ_ctt (by simp only [upd_eq,Nat.reduceEqDiff,↓reduceIte]<;>rfl) (by simp only [upd_eq,Nat.reduceEqDiff,↓reduceIte]<;>rfl) (by simp only [upd_eq,Nat.reduceEqDiff,↓reduceIte]<;>rfl) ld_33 (iX_at r12) ⟨X12,⟨ownF E b b' o' cap',.nd (put O (rkI ord) x xs) []⟩,?_,.inr ⟨?_,tr11.ext x12 fun y o g k=>?_,by rw [hF.e,put_leaf O (rkI ord) hh,hli];exact SetR.leaf hh hli hfull⟩⟩)
    ·intro y o g
     rcases hown y o g with g | g
     ·exact .inl g
     ·exact .inr (by omega)
    ·rw [hput,hh];rfl
    ·simp only [rng] at k
     rcases hown y o g with g | g
     ·have:=hFlt _ _ g;omega
     ·omega
  ·obtain ⟨c,hci⟩:∃ c,cs[i]? = some c:=⟨_,List.getElem?_eq_getElem (by have:=n.len;omega)⟩
   have hcm:=List.mem_of_getElem? hci
   have hcl:=(List.getElem?_eq_some_iff.1 hci).1
   have hkl:=n.kids.le
   rw [List.length_map] at hkl
   have hlen:=n.len
   have hbcl:=wok_lt n.kids.wc
   have hbal:=wok_lt n.kids.wa
   have hkne:=n.kids.ne
   have acb:=n.ap.cb
   have aab:=n.ap.ab
   have aic:=n.ap.ic
   have aia:=n.ap.ia
   have hcx:(cs.map Kid.xs)[i]? = some c.xs:=by rw [List.getElem?_map,hci];rfl
   obtain ⟨A,C,hw⟩:=weave_at i (cs.map Kid.xs) ks (by simpa using n.len) hlb
   have hxs:xs=A++c.xs++C:=by rw [n.eq];exact hw.eq hcx
   obtain ⟨hA,hC⟩:=hw.mid O (rkI ord) hcx (by rw [<-n.eq];exact ha) hli hh
   have hcF:∀ y o,c.F y o->F y o:=fun y o g=>(n.fp y o).2 (.inr (.inr ⟨c,hcm,g⟩))
   have hclt:∀ y o,c.F y o->y<w.heap.size:=(n.sub c hcm).lt
   have n4:=n.ext X4 (fun _ _ _ g=>g) fun _ _ _ _ _ g=>g
   have ga:rd w4 ba (oa+i)=some (ptr c.b):=ptr_at n4.kids.row (by rw [List.getElem?_map,hci];rfl)
   have hnF:¬ c.F ba (oa+i):=fun g=>n.ap.kid c hcm _ _ g (.inr ⟨rfl,by omega,by omega⟩)
   refine W_sq fun K hK=>(W_text [true,false] (by kernel_rfl) ?_);simp only [↓zZ1,↓reduceIte,Nat.reduceEqDiff,rg,ow_123,rn]
   refine do_call fn_108 (by simp only [zZ2,Nat.reduceEqDiff,↓reduceIte,zZ4]<;>rfl) (leaf_any b (some ⟨bc,0,none⟩) w4 o4.h3) ?_
   rintro _ w4' ⟨rfl,hw4⟩
   obtain rfl:w4=w4':=hw4.symm
   refine ⟨trivial,?_⟩
   simp only [↓zZ1,↓reduceIte,Nat.reduceEqDiff,rg,ow_123]
   apply hK;clear hK K
   refine W_false (by simp only [zZ2,Nat.reduceEqDiff,↓reduceIte,zZ3]<;>rfl) (W_skip ?_)
   show W _ _ _ _ _ _
   have M1:readsB (some (some [w1.heap.size,b,bc,w.heap.size])) w1.heap.size=true:=by simp [readsB]
   have M2:readsB (some (some [w1.heap.size,b,bc,w.heap.size])) b=true:=by simp [readsB]
   have M3:readsB (some (some [w1.heap.size,b,bc,w.heap.size])) bc=true:=by simp [readsB]
   have M4:readsB (some (some [w1.heap.size,b,bc,w.heap.size])) w.heap.size=true:=by simp [readsB]
   have k40:=n4.kids.c0
   rw [List.length_map] at k40
   have qd:=wadd1 dep (by omega)
   refine W_sq fun K hK=>(W_draw (some (some [w1.heap.size,b,bc,w.heap.size])) none [(0,0,0),(0,1,0),(0,2,0),(0,3,0),(0,4,0),(0,5,0),(0,6,0),(0,7,0),(0,8,0),(0,9,0),(0,10,0),(0,11,0),(0,12,0),(1,13,0),(0,14,0),(0,15,0),(0,16,0),(0,17,0),(1,18,0),(0,19,0),(0,20,0)] mixed (by kernel_rfl) ?_);simp only [↓zZ1,↓reduceIte,Nat.reduceEqDiff,rg,ow_123,e0,e3,e4,rn,ptr_eq,o4.h3,k40,hcl,ix,qd,M1,M2,M3,M4]
   refine do_call fn_123 (by simp only [zZ2,Nat.reduceEqDiff,↓reduceIte,zZ4]<;>rfl) (ihh h' (Nat.lt_succ_self _) _ (d-1) rfl (by omega) c.b c.xs c.F _ ba (oa+i) (dep+1) (c4.ext (Ext.dr noF _ _) fun _ _ _ g=>g) (hL4.ext0 (Ext.dr noF _ _)) (fun y o g=>hBF y o (hcF y o g)) (by omega) ((n4.sub c hcm).ext (Ext.dr noF _ _) fun _ _ _ g=>g)
    (by rw [hxs] at ha;exact ((Asc.append O (rkI ord)).1 ((Asc.append O (rkI ord)).1 ha).1).2.1) (by rw [hxs] at hbig;simp at hbig;omega) (fun o g=>hm o (hcF _ _ g)) ga hnF) ?_
   rintro v w5 ⟨x5,F',hF',hres⟩
   have x5':=x5.od
   have hF'':∀ y o,F' y o->c.F y o\/w4.heap.size<=y:=hF'
   refine ⟨.inr (keeps_on x5 fun y hy=>?_),?_⟩
   ·rw [sz_dr]
    simp only [List.mem_cons,List.not_mem_nil,or_false] at hy
    rcases hy with rfl | rfl | rfl | rfl
    ·exact ⟨by omega,fun o g=>by have:=hclt _ _ g;omega⟩
    ·exact ⟨by omega,fun o g=>n.ap.own c hcm _ _ g (.inl rfl)⟩
    ·exact ⟨by omega,fun o g=>n.ap.kid c hcm _ _ g (.inl rfl)⟩
    ·exact ⟨by omega,fun o g=>by have:=hclt _ _ g;omega⟩
   have s5':=x5'.size
   have wq5:=x5'.wok wq4
   have hkeep:∀ {u:World},Ext (rng q 0 2) w5 u->keeps (some (some [w1.heap.size,b,bc,w.heap.size])) w5 u:=fun hx=>keeps_on hx fun y hy=>by
    simp only [List.mem_cons,List.not_mem_nil,or_false] at hy
    rcases hy with rfl | rfl | rfl | rfl<;>exact ⟨by omega,fun o g=>by simp only [rng] at g;omega⟩
   have hall:∀ {u:World},Ext (rng q 0 2) w5 u->Ext (fun y o=>c.F y o\/rng q 0 2 y o) w4 u:=fun hx=>x5'.trans hx (fun _ _ g=>.inl g) fun _ _ _ g=>.inr g
   have hG6:∀ y o,(c.F y o\/rng q 0 2 y o)->c.F y o\/w.heap.size<=y:=fun y o g=>g.imp id fun g=>by simp only [rng] at g;omega
   have hcs:(cs.map fun c=>c.F.s)[i]? = some c.F.s:=by rw [List.getElem?_map,hci];rfl
   rcases hres with ⟨rfl,hT',hh',hR⟩ | ⟨rfl,hT',hR⟩
   ·simp only [↓zZ1,↓reduceIte,Nat.reduceEqDiff,rg,ow_123]
    refine do_store (by simp only [zZ2,Nat.reduceEqDiff,↓reduceIte,zZ3]<;>rfl) (by simp only [zZ2,Nat.reduceEqDiff,↓reduceIte,zZ3]<;>rfl) sz_33 (itV_len zIt) wq5 (by decide) (itV_oc zIt) fun w6 x6 r6 s6'=>⟨.inr (hkeep x6),?_⟩
    simp only [↓zZ1,↓reduceIte,Nat.reduceEqDiff,rg,ow_123]
    apply hK;clear hK K
    have x6':=hall x6
    have X6:Ext F w w6:=X4.trans x6' (fun _ _ g=>g.elim) fun y o hy g=>by
     rcases hG6 y o g with g | g
     ·exact hcF _ _ g
     ·omega
    have rn6:=x6'.rd rn fun g=>by
     rcases g with g | g
     ·have:=hclt _ _ g;omega
     ·simp only [rng] at g;omega
    have o6:=o4.ext x6' fun y o g k=>by
     rcases hG6 y o k with k | k
     ·exact n.ap.own c hcm y o k g
     ·have:=ho.lt g;omega
    have c6:=c4.ext x6' fun o _ _ g=>by
     rcases hG6 _ o g with g | g
     ·exact hm o (hcF _ _ g)
     ·omega
    have rx6:Row w6 w.heap.size 0 (E.cel x):=x6'.row rx fun j _ g=>by
     rcases g with g | g
     ·have:=hclt _ _ g;omega
     ·simp only [rng] at g;omega
    have s6:=x6'.size
    have hT0:=hT'
    have hT':=hT'.ext x6 fun y o g k=>by
     simp only [rng] at k
     rcases hF'' y o g with g | g
     ·have:=hclt _ _ g;omega
     ·omega
    have wq6:=x6.wok wq5
    refine W_seq ?_
    refine W_sq fun K hK=>(W_text [true] (by kernel_rfl) ?_);simp only [↓zZ1,↓reduceIte,Nat.reduceEqDiff,rg,ow_123]
    apply hK;clear hK K
    refine W_true (by simp only [zZ2,Nat.reduceEqDiff,↓reduceIte,zZ3]<;>rfl) (W_seq ?_)
    have z6:=zIt_at c6
    have hF'm:∀ o,¬ F' m o:=fun o g=>by
     rcases hF'' m o g with g | g
     ·exact hm o (hcF _ _ g)
     ·omega
    have hF'lt:=hT'.lt
    by_cases hfull:ks.length=2*d-1
    ·have hb:((ks.length:Int) == ((2*d-1:Nat):Int))=true:=by rw [hfull];simp
     refine W_sq fun K hK=>(W_draw (some none) none [(0,0,0),(0,1,0),(0,2,0),(0,3,0),(0,4,0),(0,5,0),(0,6,0),(0,7,0),(0,8,0),(0,9,0)] mixed (by kernel_rfl) ?_);simp only [↓zZ1,↓reduceIte,Nat.reduceEqDiff,rg,ow_123,e0,rn6,ptr_eq,o6.h2,c6.mx,hb]
     apply hK;clear hK K
     refine W_true (by simp only [zZ2,Nat.reduceEqDiff,↓reduceIte,zZ3]<;>rfl) ?_
     refine W_sq fun K hK=>(W_text [true,true,true,true,false,true,true] (by kernel_rfl) ?_);simp only [↓zZ1,↓reduceIte,Nat.reduceEqDiff,rg,ow_123,e0,ptr_eq,z6]
     refine do_store (by simp only [zZ2,Nat.reduceEqDiff,↓reduceIte,zZ3]<;>rfl) (by simp only [zZ2,Nat.reduceEqDiff,↓reduceIte,zZ3]<;>rfl) sz_33 (itV_len zIt) wq6 (by decide) (itV_oc zIt) fun w7 x7 r7 s7=>⟨trivial,?_⟩
     simp only [↓zZ1,↓reduceIte,Nat.reduceEqDiff,rg,ow_123]
     apply hK;clear hK K
     have x7:=x7.od
     have X67:Ext (rng q 0 2) w5 w7:=x6.tr x7
     have n6:=(n4.child (c':=⟨c.b,c.xs,F'⟩) hci x5' rfl (hT0.mono (by omega)) hF'' (by omega) (by omega)).ext X67 (fun y o g k=>by
      simp only [rng] at k
      have:=n.kids.lt g;omega) fun c1 hc1 y o g k=>by
      simp only [rng] at k
      rcases List.mem_or_eq_of_mem_set hc1 with h1 | rfl
      ·have:=(n.sub c1 h1).lt y o g;omega
      ·rcases hF'' y o g with g | g
       ·have:=hclt _ _ g;omega
       ·omega
     have hsame:weave ((cs.map Kid.xs).set i (Kid.mk c.b c.xs F').xs) ks=xs:=by rw [hw.set,hxs]
     rw [hsame] at n6
     refine W_ret (endQ_ctt (by simp only [upd_eq,Nat.reduceEqDiff,↓reduceIte]<;>rfl) (by simp only [upd_eq,Nat.reduceEqDiff,↓reduceIte]<;>rfl) (by simp only [upd_eq,Nat.reduceEqDiff,↓reduceIte]<;>rfl) ld_33 (iX_at r7) ⟨X6.trans x7 (fun _ _ g=>g) fun y o hy g=>by simp only [rng] at g;omega,_,?_,.inl ⟨rfl,n6.tr (o6.ext x7 fun y o g k=>by have:=ho.lt g;simp only [rng] at k;omega) (by omega) hl2,?_⟩⟩)
     ·rintro y o (g | g | ⟨c1,hc1,g⟩)
      ·exact .inl ((n.fp y o).2 (.inl g))
      ·exact .inl ((n.fp y o).2 (.inr (.inl g)))
      ·rcases List.mem_or_eq_of_mem_set hc1 with h1 | rfl
       ·exact .inl ((n.fp y o).2 (.inr (.inr ⟨c1,h1,g⟩)))
       ·rcases hF'' y o g with g | g
        ·exact .inl (hcF _ _ g)
        ·exact .inr (by omega)
     ·refine ⟨by rw [hxs,hit_mid O (rkI ord) hA hC];exact hh',?_⟩
      show SetR ord d x F.s true (Sh.nd ks ((cs.set i ⟨c.b,c.xs,F'⟩).map fun c=>c.F.s))
      rw [n.fp.e,List.map_set]
      exact SetR.stop hh hli hcs hfull hR
    ·have hb:((ks.length:Int) == ((2*d-1:Nat):Int))=false:=by simp;omega
     refine W_sq fun K hK=>(W_draw (some none) none [(0,0,0),(0,1,0),(0,2,0),(0,3,0),(0,4,0),(0,5,0),(0,6,0),(0,7,0),(0,8,0),(0,9,0)] mixed (by kernel_rfl) ?_);simp only [↓zZ1,↓reduceIte,Nat.reduceEqDiff,rg,ow_123,e0,rn6,ptr_eq,o6.h2,c6.mx,hb]
     apply hK;clear hK K
     refine W_false (by simp only [zZ2,Nat.reduceEqDiff,↓reduceIte,zZ3]<;>rfl) (W_skip ?_)
     show W _ _ _ _ _ _
     have ga6:=x6'.rd ga fun g=>g.elim hnF fun g=>by simp only [rng] at g;omega
     have k6:=n4.kids.ext x6' fun y o g k=>by
      rcases hG6 y o k with k | k
      ·exact n.ap.kid c hcm y o k g
      ·have:=n.kids.lt g;omega
     have k60:=k6.c0
     rw [List.length_map] at k60
     refine W_sq fun K hK=>(W_text [true,true,true,true,true,true,true,true,true,true,false,true,true,true,false,true,false] (by kernel_rfl) ?_);simp only [↓zZ1,↓reduceIte,Nat.reduceEqDiff,rg,ow_123,e0,rn6,ptr_eq,o6.h3,k60,hcl,ga6]
     refine do_call fn_124 (by simp only [zZ2,Nat.reduceEqDiff,↓reduceIte,zZ4]<;>rfl) (split_tr m d c.b h' iso c.xs F' _ hd hd' (c6.ext (Ext.dr noF _ _) fun _ _ _ g=>g) (hT'.ext (Ext.dr noF _ _) fun _ _ _ g=>g) hF'm (by rw [hxs] at hbig;simp at hbig;omega)) ?_
     rintro _ w8 ⟨rb,md,xl,xr,Fl,Fr,⟨k0,g0,hSk,hSm,hSl,hSr⟩,rfl,hcxs,x8,hFl,hFr,hlr,tL,tR⟩
     refine ⟨trivial,?_⟩
     simp only [↓zZ1,↓reduceIte,Nat.reduceEqDiff,rg,ow_123]
     have x8:=x8.od
     have hFr':∀ y o,Fr y o->F' y o\/w6.heap.size<=y:=hFr
     have s8:=x8.size
     have hF'n:∀ y o,y<w4.heap.size->¬ c.F y o->¬ F' y o:=fun y o h1 h2 g=>by
      rcases hF'' y o g with g | g
      ·exact h2 g
      ·omega
     have hcw:∀ y o,w.heap.size<=y->¬ c.F y o:=fun y o h1 g=>by have:=hclt _ _ g;omega
     have o8:=o6.ext x8 fun y o g=>hF'n y o (by have:=o4.lt g;omega) fun k=>n.ap.own c hcm y o k g
     have k8:=k6.ext x8 fun y o g=>hF'n y o (by have:=n4.kids.lt g;omega) fun k=>n.ap.kid c hcm y o k g
     have rn8:=x8.rd rn6 (hF'n _ _ (by omega) (hcw _ _ (by omega)))
     have rx8:Row w8 w.heap.size 0 (E.cel x):=x8.row rx6 fun j _=>hF'n _ _ (by omega) (hcw _ _ (by omega))
     have c8:=c6.ext x8 fun o _ _=>hF'm o
     have hnbs:w1.heap.size<w8.heap.size:=by omega
     refine do_alloc z_it fun w9 n9=>⟨trivial,?_⟩
     simp only [↓zZ1,↓reduceIte,Nat.reduceEqDiff,rg,ow_123]
     refine do_store (by simp only [zZ2,Nat.reduceEqDiff,↓reduceIte,zZ3]<;>rfl) (by simp only [zZ2,Nat.reduceEqDiff,↓reduceIte,zZ3]<;>rfl) sz_33 (itV_len md) n9.wok (by decide) (itV_oc md) fun w10 x10 r10 s10=>⟨trivial,?_⟩
     simp only [↓zZ1,↓reduceIte,Nat.reduceEqDiff,rg,ow_123]
     apply hK;clear hK K
     have s9:=n9.size
     have X10:Ext noF w8 w10:=noF_of n9.ext x10 fun x o hx h=>by simp only [rng] at h;omega
     have rm10:Row w10 w8.heap.size 0 (E.cel md):=r10
     have rn10:=X10.rd rn8 (fun h=>h)
     have o10:=o8.ext X10 fun _ _ _ h=>h
     have k10:=k8.ext X10 fun _ _ _ h=>h
     have k100:=k10.c0
     rw [List.length_map] at k100
     have N1:=on1 w1.heap.size b bc
     have N2:=on2 w1.heap.size b bc
     have N3:=on3 w1.heap.size b bc
     refine W_sq fun K hK=>(W_draw (some (some [w1.heap.size,b,bc])) (some 13) [(0,0,0),(0,1,0),(0,2,0),(0,3,0),(0,4,0),(0,5,0),(0,6,0),(0,7,0),(0,8,0),(0,9,0),(1,10,0),(1,11,0),(0,12,0),(1,13,0)] mixed (by kernel_rfl) ?_);simp only [↓zZ1,↓reduceIte,Nat.reduceEqDiff,rg,ow_123,rn10,ptr_eq,o10.h3,k100,N1,N2,N3]
     refine do_bsl rfl bs_kid fun w11 n11=>⟨.inr (keep3 n11.ext ⟨by rw [sz_dr];omega,fun _ h=>h⟩ ⟨by rw [sz_dr];omega,fun _ h=>h⟩ ⟨by rw [sz_dr];omega,fun _ h=>h⟩),?_⟩
     simp only [↓zZ1,↓reduceIte,Nat.reduceEqDiff,rg,ow_123]
     have n11:=n11.od
     have s11:=n11.size
     have k11:=k10.ext n11.ext fun _ _ _ h=>h
     have hkl2:((cs.map Kid.b).map ptr).length=cs.length:=by simp
     have hsl:SlV w11 1 (.slice (some ⟨ba,oa,none⟩) cs.length capc) cs.length ((cs.map Kid.b).map ptr):=⟨by rw [hkl2];omega,.inr ⟨ba,oa,capc,rfl,hkl,k11.row,k11.wa.R (by omega)⟩⟩
     have hz:SlV w11 1 (.slice (some ⟨w10.heap.size,0,none⟩) 1 1) 1 [.pointer none]:=⟨rfl,.inr ⟨_,0,1,rfl,Nat.le_refl _,n11.row,n11.wok.R (Nat.le_refl _)⟩⟩
     refine do_append (by simp only [zZ2,Nat.reduceEqDiff,↓reduceIte,zZ3]<;>rfl) (by simp only [zZ2,Nat.reduceEqDiff,↓reduceIte,zZ3]<;>rfl) el_kid rfl ni_166 hsl hz (by omega) (by decide) (oc_one rfl rfl) fun v12 w12 a12=>?_
     obtain ⟨ba',oa',capc',rfl,hcapc',row12,wok12,x12,hcase12⟩:=app_out a12 (k11.wa.mono (by omega))
     simp only [Nat.mul_one] at wok12 x12
     refine ⟨.inr (keep3 x12 ⟨by omega,fun o h=>by simp only [rng] at h;omega⟩ ⟨by omega,fun o h=>by simp only [rng] at h;omega⟩ ⟨by omega,fun o h=>by simp only [rng] at h;omega⟩),?_⟩
     simp only [↓zZ1,↓reduceIte,Nat.reduceEqDiff,rg,ow_123]
     have s12:=x12.size
     have wbc12:=x12.wok k11.wc
     refine do_store (by simp only [zZ2,Nat.reduceEqDiff,↓reduceIte,zZ3]<;>rfl) (by simp only [zZ2,Nat.reduceEqDiff,↓reduceIte,zZ3]<;>rfl) sz_166 rfl wbc12 (by decide) (oc_one rfl rfl) fun w13 x13 r13 s13=>⟨.inl trivial,?_⟩
     simp only [↓zZ1,↓reduceIte,Nat.reduceEqDiff,rg,ow_123]
     apply hK;clear hK K
     have hba'c:ba' ≠ bc:=by omega
     have hba'b:ba' ≠ b:=by omega
     have hba'i:ba' ≠ bi:=by omega
     have hba's:ba'<w13.heap.size:=by have:=wok_lt wok12;omega
     have rn13:rd w13 w1.heap.size 0=some (ptr b):=x13.rd (x12.rd (n11.ext.rd rn10 fun h=>h) (by simp only [rng];omega)) (by simp only [rng];omega)
     have h313:rd w13 b 3=some (ptr bc):=x13.rd (x12.rd (n11.ext.rd o10.h3 fun h=>h) (by simp only [rng];omega)) (by simp only [rng];omega)
     have k013:rd w13 bc 0=some (.slice (some ⟨ba',oa',none⟩) (cs.length+1) capc'):=(Row.cons.1 r13).1
     have row13:Row w13 ba' oa' ((cs.map Kid.b).map ptr++[.pointer none]):=x13.row row12 fun j _ h=>by simp only [rng] at h;omega
     have wok13:=x13.wok wok12
     have q1:IntKind.i64.wrap ((i:Int)+1)=((i+1:Nat):Int):=wadd1 i (by omega)
     have hs1:slFrom ba' oa' 1 (i+1) (cs.length+1) capc' = .slice (some ⟨ba',oa'+(i+1),none⟩) (cs.length+1-(i+1)) (capc'-(i+1)):=by rw [slFrom_ne (by omega),Nat.mul_one]
     have hs2:slFrom ba' oa' 1 i (cs.length+1) capc' = .slice (some ⟨ba',oa'+i,none⟩) (cs.length+1-i) (capc'-i):=by rw [slFrom_ne (by omega),Nat.mul_one]
     have i1:i+1<=cs.length+1:=by omega
     have i2:i<=cs.length+1:=by omega
     have i3:i+1<cs.length+1:=by omega
     refine W_sq fun K hK=>(W_draw (some none) (some 17) [(0,0,0),(0,1,0),(0,2,0),(0,3,0),(0,4,0),(0,5,0),(0,6,0),(0,7,0),(0,8,0),(0,9,0),(0,10,0),(0,11,0),(0,12,0),(0,13,0),(0,14,0),(0,15,0),(0,16,0),(1,17,0)] mixed (by kernel_rfl) ?_);simp only [↓zZ1,↓reduceIte,Nat.reduceEqDiff,rg,ow_123,rn13,ptr_eq,h313,k013,q1,i1,i2,hs1,hs2]
     have hln:((cs.map Kid.b).map ptr++[Value.pointer none]).length=(cs.length+1)*1:=by simp
     have hocp:oc ((cs.map Kid.b).map ptr++[Value.pointer none]):=fun v hv=>by
      rcases List.mem_append.1 hv with h | h
      ·obtain ⟨p,_,rfl⟩:=List.mem_map.1 h;rfl
      ·simp at h;rw [h];rfl
     have hsrc:SlV (dr w13 (w13.drawn+1)) 1 (.slice (some ⟨ba',oa'+i,none⟩) (cs.length+1-i) (capc'-i)) (cs.length+1-i) (((cs.map Kid.b).map ptr++[Value.pointer none]).drop i) :=
      ⟨by rw [List.length_drop,hln];omega,.inr ⟨ba',_,_,rfl,by omega,row13.drop _,wok13.R (by omega)⟩⟩
     refine do_copy (by simp only [zZ2,Nat.reduceEqDiff,↓reduceIte,zZ3]<;>rfl) (by simp only [zZ2,Nat.reduceEqDiff,↓reduceIte,zZ3]<;>rfl) el_kid hsrc (wok13.mono (by omega)) (fun v hv=>hocp v (List.mem_of_mem_drop hv)) fun w14 x14 r14 s14=>⟨.inl trivial,?_⟩
     simp only [↓zZ1,↓reduceIte,Nat.reduceEqDiff,rg,ow_123]
     apply hK;clear hK K
     have hmin:min (cs.length+1-i) (cs.length+1-(i+1))=cs.length-i:=by omega
     rw [hmin] at x14 r14
     have x14:=x14.od
     have rn14:=x14.rd rn13 (by simp only [rng];omega)
     have h314:=x14.rd h313 (by simp only [rng];omega)
     have k014:=x14.rd k013 (by simp only [rng];omega)
     have wok14:=x14.wok wok13
     refine W_sq fun K hK=>(W_text [true,true,true,true,true,true,true,true,true,true,false] (by kernel_rfl) ?_);simp only [↓zZ1,↓reduceIte,Nat.reduceEqDiff,rg,ow_123,rn14,ptr_eq,h314,k014,q1,i3]
     refine do_store (by simp only [zZ2,Nat.reduceEqDiff,↓reduceIte,zZ3]<;>rfl) (by simp only [zZ2,Nat.reduceEqDiff,↓reduceIte,zZ3]<;>rfl) sz_96 rfl wok14 (by omega) (oc_one rfl rfl) fun w15 x15 r15 s15=>⟨trivial,?_⟩
     simp only [↓zZ1,↓reduceIte,Nat.reduceEqDiff,rg,ow_123]
     apply hK;clear hK K
     have T15:Ext (fun y o=>kidF bc ba oa capc y o\/w8.heap.size<=y) w8 w15:=by
      refine ((((((X10.trans n11.ext (H:=fun y o=>kidF bc ba oa capc y o\/w8.heap.size<=y) (fun _ _ g=>g.elim) fun _ _ _ g=>g.elim).trans x12 (fun _ _ g=>g) fun y o _ g=>?_).trans x13 (fun _ _ g=>g) fun y o _ g=>?_).trans x14 (fun _ _ g=>g) fun y o _ g=>?_).trans x15 (fun _ _ g=>g) fun y o _ g=>?_))
      ·simp only [rng] at g;exact .inl (.inr ⟨g.1.1,by omega,by omega⟩)
      ·simp only [rng] at g;exact .inl (.inl g.1)
      ·simp only [rng] at g
       rcases hcase12 with ⟨rfl,rfl,rfl⟩ | h
       ·exact .inl (.inr ⟨g.1,by omega,by omega⟩)
       ·exact .inr (by omega)
      ·simp only [rng] at g
       rcases hcase12 with ⟨rfl,rfl,rfl⟩ | h
       ·exact .inl (.inr ⟨g.1,by omega,by omega⟩)
       ·exact .inr (by omega)
     have rn15:=x15.rd rn14 (by simp only [rng];omega)
     have c15:=c8.ext T15 fun o _ _ g=>by
      rcases g with g | g
      ·exact hm o ((n.fp _ _).2 (.inr (.inl g)))
      ·omega
     have o15:=o8.ext T15 fun y o g h=>by
      have:=o8.lt g
      rcases h with h | h
      ·simp only [ownF,kidF,rng] at g h;omega
      ·omega
     have rx15:Row w15 w.heap.size 0 (E.cel x):=T15.row rx8 fun j _ h=>by
      rcases h with h | h
      ·simp only [kidF,rng] at h;omega
      ·omega
     have rm15:Row w15 w8.heap.size 0 (E.cel md):=x15.row (x14.row (x13.row (x12.row (n11.ext.row rm10 fun _ _ h=>h) fun j _ h=>by simp only [rng] at h;omega) fun j _ h=>by simp only [rng] at h;omega) fun j _ h=>by simp only [rng] at h;omega) fun j _ h=>by simp only [rng] at h;omega
     have hS15:=x15.size
     have hS14:=x14.size
     have hS13:=x13.size
     have z15:=zIt_at c15
     have rowK:Row w15 ba' oa' ((((cs.map Kid.b).map ptr).take (i+1))++([ptr rb]++((cs.map Kid.b).map ptr).drop (i+1))):=by
      have:=ins_row1 (sz:=1) (n:=cs.length) (i:=i) (o1:=oa'+(i+1)) (zc:=[.pointer none]) (xc:=[ptr rb]) (w3:=w15) (by rw [hkl2,Nat.mul_one]) hcl row13 rfl x14 (by rw [Nat.mul_one i];exact r14) (by rw [Nat.mul_one]) (by rw [Nat.mul_one];exact x15) (by rw [Nat.mul_one];exact r15) (Ext.refl _ _)
      rwa [Nat.mul_one] at this
     have wok15:=x15.wok wok14
     have k015:=x15.rd k014 (by simp only [rng];omega)
     have wbc15:=x15.wok (x14.wok (x13.wok wbc12))
     refine W_sq fun K hK=>(W_draw (some (some [w1.heap.size,b,m])) (some 13) [(0,0,0),(0,1,0),(0,2,0),(0,3,0),(0,4,0),(0,5,0),(0,6,0),(0,7,0),(0,8,0),(1,9,0),(1,10,0),(0,11,0),(0,12,0),(1,13,0)] mixed (by kernel_rfl) ?_);simp only [↓zZ1,↓reduceIte,Nat.reduceEqDiff,rg,ow_123,e0,rn15,ptr_eq,o15.h2,z15,L1,L2,L3,rB_on]
     refine do_bsl rfl bs_it fun w16 n16=>⟨.inr (keep3 n16.ext ⟨by rw [sz_dr];omega,fun _ h=>h⟩ ⟨by rw [sz_dr];omega,fun _ h=>h⟩ ⟨by rw [sz_dr];omega,fun _ h=>h⟩),?_⟩
     simp only [↓zZ1,↓reduceIte,Nat.reduceEqDiff,rg,ow_123]
     have n16:=n16.od
     have s16:=n16.size
     have o16:=o15.ext n16.ext fun _ _ _ h=>h
     have hsl2:SlV w16 2 (.slice (some ⟨bi,oi,none⟩) ks.length cap) ks.length (flat E ks):=⟨by rw [flat_length];rfl,.inr ⟨bi,oi,cap,rfl,hcap,o16.row,o16.wi.R (Nat.le_refl _)⟩⟩
     have hz2:SlV w16 2 (.slice (some ⟨w15.heap.size,0,none⟩) 1 1) 1 (E.cel zIt):=⟨rfl,.inr ⟨_,0,1,rfl,Nat.le_refl _,n16.row,n16.wok.R (Nat.le_refl _)⟩⟩
     refine do_append (by simp only [zZ2,Nat.reduceEqDiff,↓reduceIte,zZ3]<;>rfl) (by simp only [zZ2,Nat.reduceEqDiff,↓reduceIte,zZ3]<;>rfl) el_it rfl ni_25 hsl2 hz2 (by omega) (by decide) (E.one zIt) fun v17 w17 a17=>?_
     obtain ⟨b',o',cap',rfl,hcap',row17,wok17,x17,hcase⟩:=app_out a17 o16.wi
     refine ⟨.inr (keep3 x17 ⟨by omega,fun o h=>by simp only [rng] at h;omega⟩ ⟨by omega,fun o h=>by simp only [rng] at h;omega⟩ ⟨by omega,fun o h=>by simp only [rng] at h;omega⟩),?_⟩
     simp only [↓zZ1,↓reduceIte,Nat.reduceEqDiff,rg,ow_123]
     have s17:=x17.size
     have wb17:=x17.wok (n16.ext.wok o15.wb)
     refine do_store (by simp only [zZ2,Nat.reduceEqDiff,↓reduceIte,zZ3]<;>rfl) (by simp only [zZ2,Nat.reduceEqDiff,↓reduceIte,zZ3]<;>rfl) sz_25 rfl wb17 (by decide) (oc_one rfl rfl) fun w18 x18 r18 s18=>⟨.inl trivial,?_⟩
     simp only [↓zZ1,↓reduceIte,Nat.reduceEqDiff,rg,ow_123]
     apply hK;clear hK K
     have hb'b:b' ≠ b:=by omega
     have hb's:b'<w18.heap.size:=by have:=wok_lt wok17;omega
     have rn18:rd w18 w1.heap.size 0=some (ptr b):=x18.rd (x17.rd (n16.ext.rd rn15 fun h=>h) (by simp only [rng];omega)) (by simp only [rng];omega)
     have b218:rd w18 b 2=some (.slice (some ⟨b',o',none⟩) (ks.length+1) cap'):=(Row.cons.1 r18).1
     have row18:Row w18 b' o' (flat E ks++E.cel zIt):=x18.row row17 fun j _ h=>by simp only [rng] at h;omega
     have wok18:=x18.wok wok17
     obtain ⟨o1,hs3,ho1,ho1'⟩:=slFrom_sl b' o' 2 (i+1) (ks.length+1) cap'
     have hs4:slFrom b' o' 2 i (ks.length+1) cap' = .slice (some ⟨b',o'+i*2,none⟩) (ks.length+1-i) (cap'-i):=by (rw [slFrom_ne (by omega)];try rw [Nat.mul_one])
     have j1:i+1<=ks.length+1:=by omega
     have j2:i<=ks.length+1:=by omega
     have j3:i<ks.length+1:=by omega
     refine W_sq fun K hK=>(W_draw (some none) (some 13) [(0,0,0),(0,1,0),(0,2,0),(0,3,0),(0,4,0),(0,5,0),(0,6,0),(0,7,0),(0,8,0),(0,9,0),(0,10,0),(0,11,0),(0,12,0),(1,13,0)] mixed (by kernel_rfl) ?_);simp only [↓zZ1,↓reduceIte,Nat.reduceEqDiff,rg,ow_123,rn18,ptr_eq,b218,q1,j1,j2,hs3,hs4]
     have hln2:(flat E ks++E.cel zIt).length=(ks.length+1)*2:=by rw [List.length_append,flat_length,E.len,E_sz];omega
     have hsrc2:SlV (dr w18 (w18.drawn+1)) 2 (.slice (some ⟨b',o'+i*2,none⟩) (ks.length+1-i) (cap'-i)) (ks.length+1-i) ((flat E ks++E.cel zIt).drop (i*2)) :=
      ⟨by rw [List.length_drop,hln2];omega,.inr ⟨b',_,_,rfl,by omega,row18.drop _,wok18.R (by omega)⟩⟩
     have hmo:o1+(ks.length+1-(i+1))*2<=o'+cap'*2:=by
      by_cases hcc:cap'=i+1
      ·have:=ho1' hcc;omega
      ·have:=ho1 hcc;omega
     refine do_copy (by simp only [zZ2,Nat.reduceEqDiff,↓reduceIte,zZ3]<;>rfl) (by simp only [zZ2,Nat.reduceEqDiff,↓reduceIte,zZ3]<;>rfl) el_it hsrc2 (wok18.mono hmo) (fun v hv=>by
      have:=List.mem_of_mem_drop hv
      rcases List.mem_append.1 this with h | h
      ·exact flat_oc E ks v h
      ·exact E.one zIt v h) fun w19 x19 r19 s19=>⟨.inl trivial,?_⟩
     simp only [↓zZ1,↓reduceIte,Nat.reduceEqDiff,rg,ow_123]
     apply hK;clear hK K
     have hmin2:min (ks.length+1-i) (ks.length+1-(i+1))=ks.length-i:=by omega
     rw [hmin2] at x19 r19
     have x19:=x19.od
     have rn19:=x19.rd rn18 (by simp only [rng];omega)
     have b219:=x19.rd b218 (by simp only [rng];omega)
     have wok19:=x19.wok wok18
     have rm19:Row w19 w8.heap.size 0 (E.cel md):=x19.row (x18.row (x17.row (n16.ext.row rm15 fun _ _ h=>h) fun j _ h=>by simp only [rng] at h;omega) fun j _ h=>by simp only [rng] at h;omega) fun j _ h=>by simp only [rng] at h;omega
     have im19:=iX_at rm19
     refine W_sq fun K hK=>(W_draw (some none) (some 7) [(0,0,0),(0,1,0),(0,2,0),(0,3,0),(0,4,0),(0,5,0),(0,6,0),(1,7,0)] mixed (by kernel_rfl) ?_);simp only [↓zZ1,↓reduceIte,Nat.reduceEqDiff,rg,ow_123,rn19,ptr_eq,b219,j3,im19]
     refine do_store (by simp only [zZ2,Nat.reduceEqDiff,↓reduceIte,zZ3]<;>rfl) (by simp only [zZ2,Nat.reduceEqDiff,↓reduceIte,zZ3]<;>rfl) sz_33 (itV_len md) wok19 (by omega) (itV_oc md) fun w20 x20 r20 s20=>⟨.inl trivial,?_⟩
     simp only [↓zZ1,↓reduceIte,Nat.reduceEqDiff,rg,ow_123]
     apply hK;clear hK K
     have x20:=x20.od
     have Y:Ext (fun y o=>(rng bi (oi+ks.length*2) 2 y o/\ks.length+1<=cap)\/(y=b/\o=2)\/y=b'/\o'<=o/\o<o'+cap'*2) w16 w20:=by
      refine ((x17.trans x18 (fun _ _ g=>.inl g) fun y o _ g=>?_).trans x19 (fun _ _ g=>g) fun y o _ g=>?_).trans x20 (fun _ _ g=>g) fun y o _ g=>?_
      ·simp only [rng] at g;exact .inr (.inl (by omega))
      ·simp only [rng] at g
       refine .inr (.inr ⟨g.1,?_,?_⟩)
       ·by_cases hcc:cap'=i+1
        ·have:=ho1' hcc;omega
        ·have:=ho1 hcc;omega
       ·have:=hmo;omega
      ·simp only [rng] at g;exact .inr (.inr (by omega))
     have hb'c:b'=bi/\o'=oi/\cap'=cap\/w15.heap.size<b':=by
      rcases hcase with h | h
      ·exact .inl h
      ·exact .inr (by omega)
     have hlen2:(ks.take i++md::ks.drop i).length=ks.length+1:=by simp;omega
     have own20:Own E w20 b iso xs.length b' o' cap' (ks.take i++md::ks.drop i) (ptr bc):=by
      have wb20:=x20.wok (x19.wok (x18.wok wb17))
      refine ⟨Y.rd o16.h0 (by simp only [rng];omega),Y.rd o16.h1 (by simp only [rng];omega),?_,Y.rd o16.h3 (by simp only [rng];omega),wb20,?_,x20.wok wok19,?_,hb'b⟩
      ·rw [hlen2];exact x20.rd b219 (by simp only [rng];omega)
      ·rw [flat_append,flat_cons,<-flat_take,<-flat_drop]
       exact ins_row (sz:=2) (n:=ks.length) (by rw [flat_length];rfl) hlb row18 rfl x19 r19 (fun hin=>ho1 (by omega)) x20 r20 (Ext.refl _ _)
      ·rw [hlen2];exact hcap'
     obtain ⟨F20,hS20,tr20,hF20,hY⟩:=set_asm (lo:=lo) n n4 ho o4 hoF hci hlb hl1 hl2 hfull hw hxs hcxs (by omega) s6 s8 x6' hF'' x8 hFl hFr' hlr tL tR T15 k015 wbc15 rowK wok15 hcapc'
      (by rcases hcase12 with h | h;exact .inl h;exact .inr (by omega)) hba'c hba'b hba'i n16.ext Y hb'c own20 hG6
     have hRs:∀ b s,SetR ord d x F20.s b s->SetR ord d x F.s b s:=fun b s g=>by
      rw [hS20,hSl,hSr,List.map_take,List.map_drop] at g
      rw [n.fp.e]
      rw [hSk] at hR
      exact SetR.split hh hli hcs hfull hR hSm g
     have hFlt:=ht.lt
     have c20:=(c15.ext n16.ext fun _ _ _ h=>h).ext Y fun o _ _=>hY m o (by omega) (hmF o)
     have rn20:=x20.rd rn19 (by simp only [rng];omega)
     have rx20:Row w20 w.heap.size 0 (E.cel x):=Y.row (n16.ext.row rx15 fun _ _ h=>h) fun j _=>hY _ _ (by omega) fun g=>by have:=ho.lt g;omega
     have ix20:=iX_at rx20
     have X20:Ext F w w20:=by
      refine (((X6.trans x8 (fun _ _ g=>g) fun y o hy g=>?_).trans T15 (fun _ _ g=>g) fun y o hy g=>?_).tr (n16.ext.mono fun _ _ _ g=>g.elim)).trans Y (fun _ _ g=>g) fun y o hy g=>?_
      ·rcases hF'' y o g with g | g
       ·exact hcF _ _ g
       ·omega
      ·rcases g with g | g
       ·exact (n.fp _ _).2 (.inr (.inl g))
       ·omega
      ·by_cases hk:ownF E b bi oi cap y o
       ·exact hoF _ _ hk
       ·exact (hY y o (by omega) hk g).elim
     refine W_sq fun K hK=>(W_text [true,true,true,true,false,true,true,true,false,true,true] (by kernel_rfl) ?_);simp only [↓zZ1,↓reduceIte,Nat.reduceEqDiff,rg,ow_123,e0,e3,e4,ix20]
     refine do_call fn_123 (by simp only [zZ2,Nat.reduceEqDiff,↓reduceIte,zZ4]<;>rfl) (ihk (2*d-(lo+1)) (by omega) (lo+1) rfl (by omega) b xs _ w20 w1.heap.size 0 dep c20 (hL.ext X20 (fun y o g=>by have:=hBF y o g;omega) fun g=>hm _ g) (fun y o g=>by
      rcases hF20 _ _ g with g | g
      ·exact hBF _ _ g
      ·omega) hdep tr20 ha hbig (fun o g=>by
      rcases hF20 _ _ g with g | g
      ·exact hm o g
      ·omega) rn20 (fun g=>by
      rcases hF20 _ _ g with g | g
      ·have:=hFlt _ _ g;omega
      ·omega)) ?_
     rintro v w21 ⟨x21,F21,hF21,hres⟩
     refine ⟨trivial,?_⟩
     have s20:=X20.size
     have X21:Ext F w w21:=X20.trans x21 (fun _ _ g=>g) fun y o hy g=>by
      rcases hF20 _ _ g with g | g
      ·exact g
      ·omega
     have hs420:w4.heap.size<=w20.heap.size:=by have a1:=T15.size;have a2:=n16.ext.size;have a3:=Y.size;omega
     have hF21':∀ y o,F21 y o->F y o\/w4.heap.size<=y:=fun y o g=>by
      rcases hF21 y o g with g | g
      ·rcases hF20 _ _ g with g | g
       ·exact .inl g
       ·exact .inr (by omega)
      ·exact .inr (by omega)
     have hF21q:∀ o,¬ F21 q o:=fun o g=>by
      rcases hF21' _ _ g with g | g
      ·have:=hFlt _ _ g;omega
      ·omega
     have wq21:wok w21 q 2:=x21.wok (Y.wok (n16.ext.wok (T15.wok (x8.wok wq6))))
     have hF21w:∀ y o,F21 y o->F y o\/w.heap.size<=y:=fun y o g=>(hF21' y o g).imp id fun g=>by omega
     have hqF:∀ {u:World},Ext (rng q 0 2) w21 u->Ext F w u:=fun hx=>X21.trans hx (fun _ _ g=>g) fun y o hy g=>by simp only [rng] at g;omega
     rcases hres with ⟨rfl,hT',hh2,hR2⟩ | ⟨rfl,hT',hR2⟩
     ·simp only [↓zZ1,↓reduceIte,Nat.reduceEqDiff,rg,ow_123]
      refine do_store (by simp only [zZ2,Nat.reduceEqDiff,↓reduceIte,zZ3]<;>rfl) (by simp only [zZ2,Nat.reduceEqDiff,↓reduceIte,zZ3]<;>rfl) sz_33 (itV_len zIt) wq21 (by decide) (itV_oc zIt) fun w22 x22 r22 s22=>⟨trivial,?_⟩
      simp only [↓zZ1,↓reduceIte,Nat.reduceEqDiff,rg,ow_123]
      apply hK;clear hK K
      exact W_ret (endQ_ctt (by simp only [upd_eq,Nat.reduceEqDiff,↓reduceIte]<;>rfl) (by simp only [upd_eq,Nat.reduceEqDiff,↓reduceIte]<;>rfl) (by simp only [upd_eq,Nat.reduceEqDiff,↓reduceIte]<;>rfl) ld_33 (iX_at r22) ⟨hqF x22,F21,hF21w,.inl ⟨rfl,hT'.ext x22 fun y o g k=>by simp only [rng] at k;exact hF21q o (by rw [<-k.1];exact g),hh2,hRs _ _ hR2⟩⟩)
     ·simp only [↓zZ1,↓reduceIte,Nat.reduceEqDiff,rg,ow_123]
      refine do_store (by simp only [zZ2,Nat.reduceEqDiff,↓reduceIte,zZ3]<;>rfl) (by simp only [zZ2,Nat.reduceEqDiff,↓reduceIte,zZ3]<;>rfl) sz_33 (itV_len _) wq21 (by decide) (itV_oc _) fun w22 x22 r22 s22=>⟨trivial,?_⟩
      simp only [↓zZ1,↓reduceIte,Nat.reduceEqDiff,rg,ow_123]
      apply hK;clear hK K
      exact W_ret (endQ_ctt (by simp only [upd_eq,Nat.reduceEqDiff,↓reduceIte]<;>rfl) (by simp only [upd_eq,Nat.reduceEqDiff,↓reduceIte]<;>rfl) (by simp only [upd_eq,Nat.reduceEqDiff,↓reduceIte]<;>rfl) ld_33 (iX_at r22) ⟨hqF x22,F21,hF21w,.inr ⟨rfl,(hT'.mono (by omega)).ext x22 fun y o g k=>by simp only [rng] at k;exact hF21q o (by rw [<-k.1];exact g),hRs _ _ hR2⟩⟩)
   ·simp only [↓zZ1,↓reduceIte,Nat.reduceEqDiff,rg,ow_123]
    refine do_store (by simp only [zZ2,Nat.reduceEqDiff,↓reduceIte,zZ3]<;>rfl) (by simp only [zZ2,Nat.reduceEqDiff,↓reduceIte,zZ3]<;>rfl) sz_33 (itV_len _) wq5 (by decide) (itV_oc _) fun w6 x6 r6 s6'=>⟨.inr (hkeep x6),?_⟩
    simp only [↓zZ1,↓reduceIte,Nat.reduceEqDiff,rg,ow_123]
    apply hK;clear hK K
    have x6':=hall x6
    have X6:Ext F w w6:=X4.trans x6' (fun _ _ g=>g.elim) fun y o hy g=>by
     rcases hG6 y o g with g | g
     ·exact hcF _ _ g
     ·omega
    have rn6:=x6'.rd rn fun g=>by
     rcases g with g | g
     ·have:=hclt _ _ g;omega
     ·simp only [rng] at g;omega
    have o6:=o4.ext x6' fun y o g k=>by
     rcases hG6 y o k with k | k
     ·exact n.ap.own c hcm y o k g
     ·have:=ho.lt g;omega
    have c6:=c4.ext x6' fun o _ _ g=>by
     rcases hG6 _ o g with g | g
     ·exact hm o (hcF _ _ g)
     ·omega
    have rx6:Row w6 w.heap.size 0 (E.cel x):=x6'.row rx fun j _ g=>by
     rcases g with g | g
     ·have:=hclt _ _ g;omega
     ·simp only [rng] at g;omega
    have s6:=x6'.size
    have hT0:=hT'
    have hT':=hT'.ext x6 fun y o g k=>by
     simp only [rng] at k
     rcases hF'' y o g with g | g
     ·have:=hclt _ _ g;omega
     ·omega
    have wq6:=x6.wok wq5
    have n6:=(n4.child (c':=⟨c.b,put O (rkI ord) x c.xs,F'⟩) hci x5' rfl hT0 hF'' (by omega) (by omega)).ext x6 (fun y o g k=>by
      simp only [rng] at k
      have:=n.kids.lt g;omega) fun c1 hc1 y o g k=>by
      simp only [rng] at k
      rcases List.mem_or_eq_of_mem_set hc1 with h1 | rfl
      ·have:=(n.sub c1 h1).lt y o g;omega
      ·rcases hF'' y o g with g | g
       ·have:=hclt _ _ g;omega
       ·omega
    have hput:put O (rkI ord) x xs=weave ((cs.map Kid.xs).set i (put O (rkI ord) x c.xs)) ks:=by rw [hxs,put_mid O (rkI ord) hA hC,hw.set]
    have hhit:hit O (rkI ord) (rkI ord x) xs=hit O (rkI ord) (rkI ord x) c.xs:=by rw [hxs,hit_mid O (rkI ord) hA hC]
    have hat:at? O (rkI ord) (rkI ord x) xs=at? O (rkI ord) (rkI ord x) c.xs:=by rw [hxs,at_mid O (rkI ord) hA hC]
    rw [show weave ((cs.map Kid.xs).set i (Kid.mk c.b (put O (rkI ord) x c.xs) F').xs) ks=put O (rkI ord) x xs from hput.symm] at n6
    have hRd:SetR ord d x F.s false (Sh.nd ks ((cs.set i ⟨c.b,put O (rkI ord) x c.xs,F'⟩).map fun c=>c.F.s)):=by
     rw [n.fp.e,List.map_set]
     exact SetR.down hh hli hcs hR
    have hsub:∀ y o,(ownF E b bi oi cap y o\/kidF bc ba oa capc y o\/∃ c_1 ∈ cs.set i ⟨c.b,put O (rkI ord) x c.xs,F'⟩,c_1.F y o)->F y o\/w.heap.size<=y:=by
     rintro y o (g | g | ⟨c1,hc1,g⟩)
     ·exact .inl ((n.fp y o).2 (.inl g))
     ·exact .inl ((n.fp y o).2 (.inr (.inl g)))
     ·rcases List.mem_or_eq_of_mem_set hc1 with h1 | rfl
      ·exact .inl ((n.fp y o).2 (.inr (.inr ⟨c1,h1,g⟩)))
      ·rcases hF'' y o g with g | g
       ·exact .inl (hcF _ _ g)
       ·exact .inr (by omega)
    have hsubq:∀ o,¬ (ownF E b bi oi cap q o\/kidF bc ba oa capc q o\/∃ c_1 ∈ cs.set i ⟨c.b,put O (rkI ord) x c.xs,F'⟩,c_1.F q o):=by
     rintro o (g | g | ⟨c1,hc1,g⟩)
     ·have:=ho.lt g;omega
     ·have:=n.kids.lt g;omega
     ·rcases List.mem_or_eq_of_mem_set hc1 with h1 | rfl
      ·have:=(n.sub c1 h1).lt _ _ g;omega
      ·rcases hF'' _ o g with g | g
       ·have:=hclt _ _ g;omega
       ·omega
    refine W_seq ?_
    refine W_sq fun K hK=>(W_text [true] (by kernel_rfl) ?_);simp only [↓zZ1,↓reduceIte,Nat.reduceEqDiff,rg,ow_123]
    apply hK;clear hK K
    refine W_false (by simp only [zZ2,Nat.reduceEqDiff,↓reduceIte,zZ3]<;>rfl) (W_skip ?_)
    show W _ _ _ _ _ _
    refine W_seq ?_
    refine W_sq fun K hK=>(W_text [true,true] (by kernel_rfl) ?_);simp only [↓zZ1,↓reduceIte,Nat.reduceEqDiff,rg,ow_123]
    apply hK;clear hK K
    have hpl:=put_length O (rkI ord) x xs
    rw [hhit] at hpl
    cases hh2:hit O (rkI ord) (rkI ord x) c.xs with
    | true =>
     rw [hh2] at hpl hhit
     refine W_false (by simp only [zZ2,Nat.reduceEqDiff,↓reduceIte,zZ3]<;>rfl) (W_skip ?_)
     show W _ _ _ _ _ _
     have pv6:=iX_at (show Row w6 q 0 (E.cel ((at? O (rkI ord) (rkI ord x) c.xs).getD zIt)) from r6)
     refine W_sq fun K hK=>(W_text [true,true,false,true,true] (by kernel_rfl) ?_);simp only [↓zZ1,↓reduceIte,Nat.reduceEqDiff,rg,ow_123,pv6]
     refine do_store (by simp only [zZ2,Nat.reduceEqDiff,↓reduceIte,zZ3]<;>rfl) (by simp only [zZ2,Nat.reduceEqDiff,↓reduceIte,zZ3]<;>rfl) sz_33 (itV_len _) wq6 (by decide) (itV_oc _) fun w7 x7 r7 s7=>⟨trivial,?_⟩
     simp only [↓zZ1,↓reduceIte,Nat.reduceEqDiff,rg,ow_123]
     apply hK;clear hK K
     refine W_ret (endQ_ctt (by simp only [upd_eq,Nat.reduceEqDiff,↓reduceIte]<;>rfl) (by simp only [upd_eq,Nat.reduceEqDiff,↓reduceIte]<;>rfl) (by simp only [upd_eq,Nat.reduceEqDiff,↓reduceIte]<;>rfl) ld_33 (iX_at (show Row w7 q 0 (E.cel ((at? O (rkI ord) (rkI ord x) c.xs).getD zIt)) from r7)) ⟨X6.trans x7 (fun _ _ g=>g) fun y o hy g=>by simp only [rng] at g;omega,_,hsub,.inr ⟨?_,Tr.ext x7 (n6.tr ?_ hl1 hl2) fun y o g k=>?_,hRd⟩⟩)
     ·rw [hat,hhit]
     ·rw [hpl];exact o6
     ·simp only [rng] at k
      exact hsubq o (by rw [<-k.1];exact g)
    | false =>
     rw [hh2] at hpl hhit
     refine W_true (by simp only [zZ2,Nat.reduceEqDiff,↓reduceIte,zZ3]<;>rfl) ?_
     have q2:=wadd1 xs.length (by omega)
     refine W_rg fun K hK=>(W_text [true,true,true,true,true,true,true,false] (by kernel_rfl) ?_);simp only [↓zZ1,↓reduceIte,Nat.reduceEqDiff,rg,ow_123,rn6,ptr_eq,o6.h1,q2]
     refine do_store (by simp only [zZ2,Nat.reduceEqDiff,↓reduceIte,zZ3]<;>rfl) (by simp only [zZ2,Nat.reduceEqDiff,↓reduceIte,zZ3]<;>rfl) sz_3 rfl o6.wb (by decide) (oc_one rfl rfl) fun w8 x8 r8 s8=>⟨trivial,?_⟩
     simp only [↓zZ1,↓reduceIte,Nat.reduceEqDiff,rg,ow_123]
     apply hK;clear hK K
     show W _ _ _ _ _ _
     have hqb:q ≠ b:=by omega
     have pv8:=iX_at (x8.row (show Row w6 q 0 (E.cel ((at? O (rkI ord) (rkI ord x) c.xs).getD zIt)) from r6) fun j _ g=>by simp only [rng] at g;omega)
     refine W_sq fun K hK=>(W_text [true,true,false,true,true] (by kernel_rfl) ?_);simp only [↓zZ1,↓reduceIte,Nat.reduceEqDiff,rg,ow_123,pv8]
     refine do_store (by simp only [zZ2,Nat.reduceEqDiff,↓reduceIte,zZ3]<;>rfl) (by simp only [zZ2,Nat.reduceEqDiff,↓reduceIte,zZ3]<;>rfl) sz_33 (itV_len _) (x8.wok wq6) (by decide) (itV_oc _) fun w9 x9 r9 s9=>⟨trivial,?_⟩
     simp only [↓zZ1,↓reduceIte,Nat.reduceEqDiff,rg,ow_123]
     apply hK;clear hK K
     have n8:=n6.ext x8 (fun y o g k=>by simp only [rng] at k;simp only [kidF,rng] at g;omega) fun c1 hc1 y o g k=>n6.ap.own c1 hc1 y o g (.inl k.1)
     have hne:=ho.ne
     refine W_ret (endQ_ctt (by simp only [upd_eq,Nat.reduceEqDiff,↓reduceIte]<;>rfl) (by simp only [upd_eq,Nat.reduceEqDiff,↓reduceIte]<;>rfl) (by simp only [upd_eq,Nat.reduceEqDiff,↓reduceIte]<;>rfl) ld_33 (iX_at (show Row w9 q 0 (E.cel ((at? O (rkI ord) (rkI ord x) c.xs).getD zIt)) from r9)) ⟨(X6.trans x8 (fun _ _ g=>g) fun y o _ g=>hoF _ _ (.inl g.1)).trans x9 (fun _ _ g=>g) fun y o hy g=>by simp only [rng] at g;omega,_,hsub,.inr ⟨?_,Tr.ext x9 (n8.tr ?_ hl1 hl2) fun y o g k=>?_,hRd⟩⟩)
     ·rw [hat,hhit]
     ·rw [hpl]
      refine ⟨x8.rd o6.h0 (by simp only [rng];omega),(Row.cons.1 r8).1,x8.rd o6.h2 (by simp only [rng];omega),x8.rd o6.h3 (by simp only [rng];omega),x8.wok o6.wb,x8.row o6.row fun j _ g=>by simp only [rng] at g;omega,
       x8.wok o6.wi,hcap,hne⟩
     ·simp only [rng] at k
      exact hsubq o (by rw [<-k.1];exact g)
end Go.Proofs.Ytbnnkcofnmipoaa
