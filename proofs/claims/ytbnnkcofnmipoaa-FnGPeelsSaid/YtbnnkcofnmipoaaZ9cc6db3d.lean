/- Texts in one. No condition. -/
import Derived.Test.YtbnnkcofnmipoaaZ5b25d89c
import Derived.Test.YtbnnkcofnmipoaaZA
set_option linter.unusedVariables false
set_option linter.unusedSimpArgs false
namespace Go.Proofs.Ytbnnkcofnmipoaa
open Go Go.Proofs
theorem leE_rf {ord:List Int} (a:Qe):leE ord a a:=O.irr _
theorem z_eit:zK Try.prog 205=some (eV ((0,0),none)).cells.toList:=by kernel_rfl
set_option maxHeartbeats 1600000 in
set_option maxRecDepth 8000 in
theorem pop_nil (lb c:Nat) (a:Option Addr) (w0:World) (hq:rd w0 lb 3=some (.slice a (0:Nat) c)) :
  CallK Try.prog 132 #[ptr lb] w0 fun v w'=>v = .tuple #[eV ((0,0),none),.bool false]/\Ext noF w0 w':=by
 refine calls_of_W [.cell 2 205,.tmp 3] Try.func132 rfl Try.ntmps132 Try.results132 (by simp) fun e he=>?_
 have h0:e 0=ptr lb:=he 0 _ rfl
 clear he
 refine W_sq fun K hK=>(W_text [false,true] (by kernel_rfl) ?_);simp only [↓zZ1,↓reduceIte,Nat.reduceEqDiff,rg,ow_132]
 refine do_alloc z_eit fun w1 n1=>⟨trivial,?_⟩
 simp only [↓zZ1,↓reduceIte,Nat.reduceEqDiff,rg,ow_132]
 apply hK;clear hK K
 have hq1:=n1.ext.rd hq fun g=>g
 refine W_seq ?_
 refine W_sq fun K hK=>(W_text [true,true,true,true,true,true] (by kernel_rfl) ?_);simp only [↓zZ1,↓reduceIte,Nat.reduceEqDiff,rg,ow_132,h0,ptr_eq,hq1]
 apply hK;clear hK K
 refine W_true (by simp only [zZ2,Nat.reduceEqDiff,↓reduceIte,zZ3]<;>rfl) ?_
 refine W_sq fun K hK=>(W_text [true,false,true] (by kernel_rfl) ?_);simp only [↓zZ1,↓reduceIte,Nat.reduceEqDiff,rg,ow_132,bu_e0]
 refine do_store (v:=eV ((0,0),none)) (by simp only [zZ2,Nat.reduceEqDiff,↓reduceIte,zZ3]<;>rfl) (by simp only [zZ2,Nat.reduceEqDiff,↓reduceIte,zZ3]<;>rfl) sz_205 (eV_len _) n1.wok (by decide) (eV_oc _) fun w2 x2 r2 s2=>⟨trivial,?_⟩
 simp only [↓zZ1,↓reduceIte,Nat.reduceEqDiff,rg,ow_132]
 apply hK;clear hK K
 refine W_ret ?_
 simp only [andThen_ret]
 exact endQ_ct (by simp only [upd_eq,Nat.reduceEqDiff,↓reduceIte]<;>rfl) (by simp only [upd_eq,Nat.reduceEqDiff,↓reduceIte]<;>rfl) ld_205 (by rw [loadV_some];exact r2.rdA 3 (by show 3<=3;omega)) ⟨rfl,n1.ext.trans x2 (fun _ _ g=>g) fun y o hy g=>by have:=g.1;omega⟩
def Low (ord:List Int) (q:List Qe) (i s n:Nat):Prop :=
 (s=i\/((s=2*i+1\/(s=2*i+2/\n=2))/\s<q.length))/\∀ x,q[i]? = some x->∃ u,q[s]? = some u/\leE ord u x/\(∀ y,q[2*i+1]? = some y->leE ord u y)/\(n=2->∀ z,q[2*i+2]? = some z->leE ord u z)
set_option maxHeartbeats 4000000 in
set_option maxRecDepth 8000 in
theorem pop_some (B M:Nat) (ord:List Int) (lb:Nat) (lv:Value) (q:List Qe) (bi oi cap:Nat) (w0:World) (S0:SE Eq' w0 lb 3 q bi oi cap) (hlv:rd w0 lb 0=some lv) (hls:LessAt B M w0 lv ord) (hlM:M<=lb) (hbM:M<=bi) (hwk:wok w0 lb 4) (hpos:0<q.length) (hbig:q.length<=2147483648) (hh:Heap (leE ord) q) :
  CallK Try.prog 132 #[ptr lb] w0 fun v w'=>∃ x q',v = .tuple #[eV x,.bool true]/\q.Perm (x::q')/\Heap (leE ord) q'/\(∀ y ∈ q',leE ord x y)/\SE Eq' w' lb 3 q' bi oi cap/\Ext (fun y o=>(y=lb/\o=3)\/rng bi oi (q.length*3) y o) w0 w':=by
 refine calls_of_W [.cell 2 205,.tmp 3] Try.func132 rfl Try.ntmps132 Try.results132 (by simp) fun e he=>?_
 have h0:e 0=ptr lb:=he 0 _ rfl
 clear he
 have hne:=S0.ne
 have hle:=S0.le
 obtain ⟨qi,z,rfl⟩:∃ qi z,q=qi++[z]:=⟨_,_,(List.dropLast_concat_getLast (List.ne_nil_of_length_pos hpos)).symm⟩
 have hql:(qi++[z]).length=qi.length+1:=by simp
 obtain ⟨x0,hx0⟩:∃ x,(qi++[z])[0]? = some x:=⟨_,List.getElem?_eq_getElem hpos⟩
 have hz:(qi++[z])[qi.length]? = some z:=by simp
 refine W_sq fun K hK=>(W_text [false,true] (by kernel_rfl) ?_);simp only [↓zZ1,↓reduceIte,Nat.reduceEqDiff,rg,ow_132]
 refine do_alloc z_eit fun w1 n1=>⟨trivial,?_⟩
 simp only [↓zZ1,↓reduceIte,Nat.reduceEqDiff,rg,ow_132]
 apply hK;clear hK K
 have S1:=S0.ext0 n1.ext
 have hd1:=S1.hd
 have hnz:((((qi++[z]).length:Nat):Int) == 0)=false:=by rw [hql];simp;omega
 refine W_seq ?_
 refine W_sq fun K hK=>(W_text [true,true,true,true,true,true] (by kernel_rfl) ?_);simp only [↓zZ1,↓reduceIte,Nat.reduceEqDiff,rg,ow_132,h0,ptr_eq,hd1,hnz]
 apply hK;clear hK K
 refine W_false (by simp only [zZ2,Nat.reduceEqDiff,↓reduceIte,zZ3]<;>rfl) (W_skip ?_)
 show W _ _ _ _ _ _
 refine W_sq fun K hK=>(W_text [false] (by kernel_rfl) ?_);simp only [↓zZ1,↓reduceIte,Nat.reduceEqDiff,rg,ow_132]
 refine do_alloc z_eit fun w2 n2=>⟨trivial,?_⟩
 simp only [↓zZ1,↓reduceIte,Nat.reduceEqDiff,rg,ow_132]
 apply hK;clear hK K
 have S2:=S1.ext0 n2.ext
 have hd2:=S2.hd
 have v0:=eV_at S2.row hx0
 have vz:=eV_at S2.row hz
 have q1:=wsub1 (qi++[z]).length (by omega) (by omega)
 rw [hql,Nat.add_sub_cancel] at q1
 rw [hql] at hd2
 have hlt0:0<qi.length+1:=by omega
 have hltz:qi.length<qi.length+1:=by omega
 have n2k:=n2.ext.size
 have n1k:=n1.size
 have hbl:=S0.lt
 have i0:idxX (some 3) ⟨bi,oi,none⟩ (qi.length+1) 0=some (.pointer (some ⟨bi,oi,none⟩)):=ix0 3 bi oi (qi.length+1) (by omega)
 rw [Nat.zero_mul,Nat.add_zero] at v0
 have o1:=on2_0 lb bi
 have o2:=on2_1 lb bi
 refine W_sq fun K hK=>(W_semi (some (some [lb,bi])) (.take false 0 (.take false 1 (.take false 2 (.take false 3 (.take false 4 (.take false 5 (.take false 6 (.take false 7 (.take false 8 (.take false 9 (.take false 10 (.take false 11 (.take false 12 (.take false 13 (.take false 14 (.take false 15 (.take false 16 (.take false 17 (.take false 18 (.take false 19 (.take false 20 (.take false 21 (.act 22 (.take false 23 (.bar 24 .nil))))))))))))))))))))))))) mixed (by kernel_rfl) ?_);simp only [↓rgm,↓zZ1,↓reduceIte,Nat.reduceEqDiff,rg,ow_132,h0,ptr_eq,hd2,q1,hlt0,hltz,i0,v0,vz,o1,o2,rB_on]
 refine do_store (v:=eV x0) (by simp only [zZ2,Nat.reduceEqDiff,↓reduceIte,zZ3]<;>rfl) (by simp only [zZ2,Nat.reduceEqDiff,↓reduceIte,zZ3]<;>rfl) sz_205 (eV_len x0) n2.wok (by decide) (eV_oc x0) fun w3 x3 r3 s3=>⟨.inr (keeps_on x3 fun y hy=>by
  simp only [List.mem_cons,List.not_mem_nil,or_false] at hy
  rcases hy with rfl | rfl
  ·exact ⟨by show _<w2.heap.size;omega,fun o g=>by have:=g.1;omega⟩
  ·exact ⟨by show _<w2.heap.size;omega,fun o g=>by have:=g.1;omega⟩),?_⟩
 simp only [↓zZ1,↓reduceIte,Nat.reduceEqDiff,rg,ow_132,↓rgm,i0,o1,o2,rB_on]
 have x3:=x3.od
 have S3:=S2.ext x3 fun y o g k=>by
  rcases g with g | g
  ·have:=k.1;omega
  ·have:=k.1;have:=g.1;omega
 refine do_store (v:=eV z) (by simp only [zZ2,Nat.reduceEqDiff,↓reduceIte,zZ3]<;>rfl) (by simp only [zZ2,Nat.reduceEqDiff,↓reduceIte,zZ3]<;>rfl) sz_205 (eV_len z) S3.wi (by rw [Eq_sz];omega) (eV_oc z) fun w4 x4 r4 s4=>⟨by first | exact trivial | exact .inl trivial,?_⟩
 simp only [↓zZ1,↓reduceIte,Nat.reduceEqDiff,rg,ow_132,↓rgm]
 apply hK;clear hK K
 obtain ⟨S4,G4⟩:=S3.set (i:=0) (x:=z) (by omega) (by rw [Eq_sz,Nat.zero_mul,Nat.add_zero];exact x4) (by rw [Eq_sz,Nat.zero_mul,Nat.add_zero];exact r4)
 have hd4:=S4.hd
 have hl4:((qi++[z]).set 0 z).length=qi.length+1:=by rw [List.length_set,hql]
 rw [hl4] at hd4
 have hsl:=slcX_hi 3 bi oi (qi.length+1) cap qi.length .i64 (by omega)
 refine W_sq fun K hK=>(W_semi (some none) (.take false 0 (.take false 1 (.take false 2 (.take false 3 (.take true 4 (.take false 5 (.take false 6 (.take false 7 (.take true 8 (.take true 9 (.take false 10 (.take false 11 (.take false 12 (.take false 13 (.bar 14 .nil))))))))))))))) mixed (by kernel_rfl) ?_);simp only [↓rgm,↓zZ1,↓reduceIte,Nat.reduceEqDiff,rg,ow_132,h0,ptr_eq,hd4,q1,hltz,hsl]
 refine do_store (by simp only [zZ2,Nat.reduceEqDiff,↓reduceIte,zZ3]<;>rfl) (by simp only [zZ2,Nat.reduceEqDiff,↓reduceIte,zZ3]<;>rfl) sz_113 rfl (S4.hok) (by decide) (oc_one rfl rfl) fun w5 x5 r5 s5=>⟨by first | exact trivial | exact .inl trivial,?_⟩
 simp only [↓zZ1,↓reduceIte,Nat.reduceEqDiff,rg,ow_132,↓rgm]
 apply hK;clear hK K
 have x5:=x5.od
 have ep:(qi++[z]).set 0 z=qi.set 0 z++[z]:=by
  cases qi with
  | nil=>rfl
  | cons a l=>rfl
 rw [ep] at S4
 obtain ⟨S5,G5⟩:=S4.cut x5 (by
  have:=(Row.cons.1 r5).1
  rw [List.length_set];exact this)
 have hpm:=pop_perm hx0
 have hH5:HeapEx (leE ord) (qi.set 0 z) 0:=hh.pop
 have hmin:=hh.min leE_rf leE_tr hx0
 have hbl2:∀ y,y ∈ qi.set 0 z->leE ord x0 y:=fun y hy=>by
  obtain ⟨j,hj⟩:=List.getElem?_of_mem (hpm.mem_iff.2 (List.mem_cons_of_mem _ hy))
  exact hmin j y hj
 generalize qi.set 0 z=ql at S5 hpm hH5 hbl2 hpm
 have hqlen:ql.length=qi.length:=by have:=hpm.length_eq;rw [hql,List.length_cons] at this;omega
 have hb5:Row w5 w1.heap.size 0 (eV x0).cells.toList:=x5.row (x4.row r3 fun i _ g=>by have:=g.1;omega) fun i _ g=>by have:=g.1;omega
 have W3:=(n1.ext.tr n2.ext).trans x3 (fun _ _ g=>g.elim) fun y o hy g=>(by have:=g.1;omega:((y=lb/\o=3)\/rng bi oi ((qi.length+1)*3) y o))
 have W5:Ext (fun y o=>(y=lb/\o=3)\/rng bi oi ((qi.length+1)*3) y o) w0 w5:=by
  refine (W3.tr (x4.mono fun y o _ g=>.inr ?_)).tr (x5.mono fun y o _ g=>.inl ?_)
  ·have h1:=g.1;have h2:oi<=o:=g.2.1;have h3:o<oi+3:=g.2.2
   exact ⟨h1,h2,by omega⟩
  ·have h2:3<=o:=g.2.1;have h3:o<3+1:=g.2.2
   exact ⟨g.1,by omega⟩
 have hb1:wok w5 w0.heap.size 3:=(W5 |> fun _=>(x5.wok (x4.wok (x3.wok (n2.ext.wok n1.wok)))))
 refine W_sq fun K hK=>(W_text [true] (by kernel_rfl) ?_);simp only [↓zZ1,↓reduceIte,Nat.reduceEqDiff,rg,ow_132]
 apply hK;clear hK K
 have lv5:rd w5 lb 0=some lv:=W5.rd hlv fun g=>by
  rcases g with g | g
  ·omega
  ·exact hne g.1.symm
 have ls5:LessAt B M w5 lv ord:=hls.ext W5 fun y o g=>.inl (by
  rcases g with g | g
  ·omega
  ·have:=g.1;omega)
 clear hd1 hd2 hd4 v0 vz S0 S1 S2 S3 S4 x3 x4 x5 r3 r4 r5 hsl
 refine W_seq (W_block (W_loop (fun mm e w=>∃ (i:Nat) (q':List Qe),mm=(qi.length+1)-i/\i<=qi.length/\(i=0\/i<q'.length)/\q'.Perm ql/\HeapEx (leE ord) q' i/\SE Eq' w lb 3 q' bi oi cap/\Ext (rng bi oi (qi.length*3)) w5 w/\e 0=ptr lb/\e 2=ptr w0.heap.size/\e 4=ptr w1.heap.size/\e 5 = .int .i64 i)
  (qi.length+1) ⟨0,ql,by omega,by omega,.inl rfl,List.Perm.refl _,hH5,S5,Ext.refl _ _,by simp only [upd_eq,Nat.reduceEqDiff,↓reduceIte];exact h0,by simp only [upd_eq,Nat.reduceEqDiff,↓reduceIte];rfl,by simp only [upd_eq,Nat.reduceEqDiff,↓reduceIte];rfl,by simp only [upd_eq,Nat.reduceEqDiff,↓reduceIte];rfl⟩ ?_))
 clear S5 h0 e
 rintro mm e w ⟨i,q',rfl,hi,hi2,hp,hu,S,X,e0,e2,e4,e5⟩
 have hpl:q'.length=qi.length:=by rw [hp.length_eq,hqlen]
 have hlv6:rd w lb 0=some lv:=X.rd lv5 fun g=>by have:=g.1;omega
 have hls6:LessAt B M w lv ord:=ls5.ext X fun y o g=>.inl (by have:=g.1;omega)
 have hhd:=S.hd
 have hrow:=S.row
 refine W_block ?_
 refine W_sq fun K hK=>(W_text [true,true] (by kernel_rfl) ?_);simp only [↓zZ1,↓reduceIte,Nat.reduceEqDiff,rg,ow_132,e5]
 apply hK;clear hK K
 have m0:IntKind.i64.wrap ((i:Int)*2)=((2*i:Nat):Int):=by
  rw [show ((i:Int)*2)=((2*i:Nat):Int) by omega]
  exact IntWalk.i64_in _ (by omega)
 have m1:IntKind.i64.wrap (IntKind.i64.wrap ((i:Int)*2)+1)=((2*i+1:Nat):Int):=by
  rw [m0];exact wadd1 _ (by omega)
 have m2:IntKind.i64.wrap (IntKind.i64.wrap ((i:Int)*2)+2)=((2*i+2:Nat):Int):=by
  rw [m0];exact wadd (2*i) 2 (by omega)
 refine W_sq fun K hK=>(W_text [true,true,true,true] (by kernel_rfl) ?_);simp only [↓zZ1,↓reduceIte,Nat.reduceEqDiff,rg,ow_132,e5,bv_mul,m1]
 apply hK;clear hK K
 refine W_sq fun K hK=>(W_text [true,true,true,true] (by kernel_rfl) ?_);simp only [↓zZ1,↓reduceIte,Nat.reduceEqDiff,rg,ow_132,e5,bv_mul,m2]
 apply hK;clear hK K
 refine W_sqx fun J1 hJ1=>?_
 have step1:∀ (e:Env) (w2:World) (s:Nat),Ext noF w w2->Low ord q' i s 1->e 0=ptr lb->e 2=ptr w0.heap.size->e 4=ptr w1.heap.size->e 5 = .int .i64 i->e 6 = .int .i64 s->e 8 = .int .i64 (2*i+2:Nat)->J1 e w2:=by
  clear e0 e2 e4 e5
  intro e w2 s x2 hlow e0 e2 e4 e5 e6 e8
  refine hJ1 _ _ ?_;clear hJ1 J1
  have S2:=S.ext0 x2
  have hhd:=S2.hd
  have hrow:=S2.row
  have lv2:=x2.rd hlv6 fun g=>g
  have ls2:=hls6.ext x2 fun _ _ g=>g.elim
  refine W_sqx fun J2 hJ2=>?_
  have step2:∀ (e:Env) (w3:World) (s:Nat),Ext noF w2 w3->Low ord q' i s 2->e 0=ptr lb->e 2=ptr w0.heap.size->e 4=ptr w1.heap.size->e 5 = .int .i64 i->e 6 = .int .i64 s->J2 e w3:=by
   clear e0 e2 e4 e5 e6 e8 hlow
   intro e w3 s x3 hlow e0 e2 e4 e5 e6
   refine hJ2 _ _ ?_;clear hJ2 J2
   have S3:=S2.ext0 x3
   have hhd:=S3.hd
   have hrow:=S3.row
   refine W_seq ?_
   by_cases hs:s=i
   ·subst hs
    have t1:(((s:Nat):Int) == (s:Int))=true:=by simp
    refine W_sq fun K hK=>(W_text [true,true,true] (by kernel_rfl) ?_);simp only [↓zZ1,↓reduceIte,Nat.reduceEqDiff,rg,ow_132,e5,e6,t1]
    apply hK;clear hK K
    refine W_true (by simp only [zZ2,Nat.reduceEqDiff,↓reduceIte,zZ3]<;>rfl) (W_exit ?_)
    simp only [andThen_exit,inBlk_exit,↓reduceIte]
    show W _ _ _ _ _ _
    have hfin:Heap (leE ord) q':=hu.done (fun x y hx hy=>by
     obtain ⟨u,g1,_,g3,_⟩:=hlow.2 x hx
     rw [hx] at g1;cases g1
     exact g3 y hy) (fun x y hx hy=>by
     obtain ⟨u,g1,_,_,g4⟩:=hlow.2 x hx
     rw [hx] at g1;cases g1
     exact g4 rfl y hy)
    have X3:=(X.tr (x2.mono fun _ _ _ g=>g.elim)).tr (x3.mono fun _ _ _ g=>g.elim)
    have hnb:∀ o,¬ rng bi oi (qi.length*3) w1.heap.size o:=fun o g=>by have:=g.1;omega
    have hb:rdA w3 w1.heap.size 0 3=some (eV x0):=(X3.row hb5 fun i _ g=>hnb _ g).rdA 3 (by show 3<=3;omega)
    have hw2:wok w3 w0.heap.size 3:=X3.wok hb1
    have n1l:=wok_lt hw2
    refine W_sq fun K hK=>(W_text [true,false,true] (by kernel_rfl) ?_);simp only [↓zZ1,↓reduceIte,Nat.reduceEqDiff,rg,ow_132,e4,e2,ptr_eq,hb]
    refine do_store (v:=eV x0) (by simp only [evt,upd_eq,Nat.reduceEqDiff,↓reduceIte];exact e2) (by simp only [zZ2,Nat.reduceEqDiff,↓reduceIte,zZ3]<;>rfl) sz_205 (eV_len _) hw2 (by decide) (eV_oc _) fun w4 x4 r4 s4=>⟨trivial,?_⟩
    simp only [↓zZ1,↓reduceIte,Nat.reduceEqDiff,rg,ow_132]
    apply hK;clear hK K
    refine W_ret ?_
    have hn0:∀ y o,rng w0.heap.size 0 3 y o->¬ seF Eq' lb 3 bi oi cap y o:=fun y o g k=>by
     have:=g.1
     rcases k with k | k
     ·omega
     ·have:=k.1;omega
    refine endQ_ct e2 (by simp only [upd_eq,Nat.reduceEqDiff,↓reduceIte]<;>rfl) ld_205 (by rw [loadV_some];exact r4.rdA 3 (by show 3<=3;omega)) ⟨x0,q',rfl,hpm.trans ((hp.symm).cons x0),hfin,fun y hy=>hbl2 y (hp.mem_iff.1 hy),S3.ext x4 fun y o g k=>hn0 y o k g,?_⟩
    have Z:Ext (fun y o=>(y=lb/\o=3)\/rng bi oi ((qi++[z]).length*3) y o) w0 w3:=W5.trans X3 (fun y o g=>by rw [hql];exact g) fun y o _ g=>.inr ⟨g.1,g.2.1,by have:=g.2.2;rw [hql];omega⟩
    exact Z.trans x4 (fun _ _ g=>g) fun y o hy g=>by have:=g.1;omega
   ·obtain ⟨h1,h2⟩:=hlow
    have hsl:=(h1.resolve_left hs).2
    have hsc:s=2*i+1\/s=2*i+2:=(h1.resolve_left hs).1.imp id fun g=>g.1
    have hil:i<q'.length:=by omega
    obtain ⟨x,hx⟩:∃ x,q'[i]? = some x:=⟨_,List.getElem?_eq_getElem hil⟩
    obtain ⟨u,hu1,hu2,hu3,hu4⟩:=h2 x hx
    have t1:(((s:Nat):Int) == (i:Int))=false:=by simp;omega
    have vx:=eV_at hrow hx
    have vu:=eV_at hrow hu1
    refine W_sq fun K hK=>(W_text [true,true,true] (by kernel_rfl) ?_);simp only [↓zZ1,↓reduceIte,Nat.reduceEqDiff,rg,ow_132,e5,e6,t1]
    apply hK;clear hK K
    refine W_false (by simp only [zZ2,Nat.reduceEqDiff,↓reduceIte,zZ3]<;>rfl) (W_skip ?_)
    show W _ _ _ _ _ _
    refine W_sq fun K hK=>(W_semi (some none) (.take false 0 (.take false 1 (.take false 2 (.take false 3 (.take false 4 (.take false 5 (.take false 6 (.take false 7 (.take false 8 (.take false 9 (.take false 10 (.take false 11 (.take false 12 (.take false 13 (.take false 14 (.take false 15 (.take false 16 (.take false 17 (.take false 18 (.take false 19 (.take false 20 (.take false 21 (.take false 22 (.take false 23 (.take false 24 (.bar 25 (.take false 26 (.bar 27 .nil)))))))))))))))))))))))))))) mixed (by kernel_rfl) ?_);simp only [↓rgm,↓zZ1,↓reduceIte,Nat.reduceEqDiff,rg,ow_132,e0,e5,e6,ptr_eq,hhd,hil,hsl,vx,vu]
    have hle:=S3.le
    have hm3:=Nat.mul_le_mul_right 3 hle
    refine do_store (v:=eV x) (by simp only [zZ2,Nat.reduceEqDiff,↓reduceIte,zZ3]<;>rfl) (by simp only [zZ2,Nat.reduceEqDiff,↓reduceIte,zZ3]<;>rfl) sz_205 (eV_len x) (S3.ext0 (Ext.dr noF _ (w3.drawn+1))).wi (by rw [Eq_sz];omega) (eV_oc x) fun w4 x4 r4 s4=>⟨by first | exact trivial | exact .inl trivial,?_⟩
    simp only [↓zZ1,↓reduceIte,Nat.reduceEqDiff,rg,ow_132,↓rgm,hil]
    have x4:=x4.od
    obtain ⟨S4,G4⟩:=S3.set (i:=s) (x:=x) hsl (by rw [Eq_sz];exact x4) (by rw [Eq_sz];exact r4)
    refine do_store (v:=eV u) (by simp only [zZ2,Nat.reduceEqDiff,↓reduceIte,zZ3]<;>rfl) (by simp only [zZ2,Nat.reduceEqDiff,↓reduceIte,zZ3]<;>rfl) sz_205 (eV_len u) S4.wi (by rw [Eq_sz];omega) (eV_oc u) fun w5' x5 r5 s5=>⟨by first | exact trivial | exact .inl trivial,?_⟩
    simp only [↓zZ1,↓reduceIte,Nat.reduceEqDiff,rg,ow_132,↓rgm]
    apply hK;clear hK K
    obtain ⟨S5,G5⟩:=S4.set (i:=i) (x:=u) (by rw [List.length_set];exact hil) (by rw [Eq_sz];exact x5) (by rw [Eq_sz];exact r5)
    have hne2:i ≠ s:=fun g=>hs g.symm
    have hsw:(q'.set s x).set i u=swp2 q' i s x u:=List.set_comm _ _ (Ne.symm hne2)
    rw [hsw] at S5
    refine W_rg fun K hK=>(W_text [true,true] (by kernel_rfl) ?_);simp only [↓zZ1,↓reduceIte,Nat.reduceEqDiff,rg,ow_132,e6]
    apply hK;clear hK K
    have hpp:=swp2_perm hx hu1 hne2
    refine ⟨_,?_,s,swp2 q' i s x u,rfl,?_,.inr (by rw [hpp.length_eq];exact hsl),hpp.trans hp,hu.step hsc hx hu1 hu2 ?_,S5,?_,by simp only [upd_eq,Nat.reduceEqDiff,↓reduceIte];exact e0,by simp only [upd_eq,Nat.reduceEqDiff,↓reduceIte];exact e2,by simp only [upd_eq,Nat.reduceEqDiff,↓reduceIte];exact e4,by simp only [upd_eq,Nat.reduceEqDiff,↓reduceIte]⟩
    ·omega
    ·omega
    ·intro j z hj hz
     rcases hj with rfl | rfl
     ·exact hu3 z hz
     ·exact hu4 rfl z hz
    ·refine (((X.tr (x2.mono fun _ _ _ g=>g.elim)).tr (x3.mono fun _ _ _ g=>g.elim)).tr (x4.mono fun y o _ g=>?_)).tr (x5.mono fun y o _ g=>?_)
     ·have h1:=g.1;have h2:=g.2.1;have h3:o<oi+s*3+3:=g.2.2
      exact ⟨h1,by omega,by omega⟩
     ·have h1:=g.1;have h2:=g.2.1;have h3:o<oi+i*3+3:=g.2.2
      exact ⟨h1,by omega,by omega⟩
  clear hJ2
  have hwr:∀ v:Nat,v=2*i+2->True:=fun _ _=>trivial
  by_cases hr:2*i+2<q'.length
  ·have hil:i<q'.length:=by omega
   obtain ⟨x,hx⟩:∃ x,q'[i]? = some x:=⟨_,List.getElem?_eq_getElem hil⟩
   obtain ⟨z',hz'⟩:∃ z,q'[2*i+2]? = some z:=⟨_,List.getElem?_eq_getElem hr⟩
   obtain ⟨u,hu1,hu2,hu3,_⟩:=hlow.2 x hx
   have hsl:=(List.getElem?_eq_some_iff.1 hu1).1
   have t1:=lt_tt (2*i+2) q'.length hr
   have iu:=eI_at hrow hu1
   have iz:=eI_at hrow hz'
   refine W_sq fun K hK=>(W_semi (some (some [lb,bi])) (.take false 0 (.take false 1 (.take false 2 (.take false 3 (.take false 4 (.take false 5 (.take false 6 (.take false 7 (.take false 8 (.take false 9 (.take false 10 (.take true 11 (.take false 12 (.take false 13 (.take false 14 (.take true 15 (.take false 16 (.take false 17 (.take false 18 (.take true 19 (.take false 20 (.take false 21 (.take false 22 (.take true 23 (.take false 24 (.take false 25 (.take false 26 (.take true 27 (.act 28 (.take false 29 (.take false 30 .nil))))))))))))))))))))))))))))))) mixed (by kernel_rfl) ?_);simp only [↓rgm,↓zZ1,↓reduceIte,Nat.reduceEqDiff,rg,ow_132,o1,o2,rB_on,e0,e6,e8,t1,ptr_eq,lv2,hhd,hsl,hr,iu,iz]
   refine do_callW (by simp only [zZ2,Nat.reduceEqDiff,↓reduceIte,zZ3]<;>rfl) (by simp only [zZ2,Nat.reduceEqDiff,↓reduceIte,zZ4]<;>rfl) (before_any B lv ord u.1 z'.1 _ (ls2.ext (Ext.dr noF _ _) fun _ _ g=>g.elim)) ?_
   rintro _ w3 ⟨rfl,x3⟩
   refine ⟨.inr (keeps_on x3 fun y hy=>by
    simp only [List.mem_cons,List.not_mem_nil,or_false] at hy
    rcases hy with rfl | rfl
    ·exact ⟨S2.lt.1,fun o g=>g⟩
    ·exact ⟨S2.lt.2,fun o g=>g⟩),?_⟩
   simp only [↓zZ1,↓reduceIte,Nat.reduceEqDiff,rg,ow_132,↓rgm]
   apply hK;clear hK K
   have x3:=x3.od
   cases hlt:O.lt (rkI ord u.1) (rkI ord z'.1) with
   | true =>
    refine W_false (by simp only [zZ2,Nat.reduceEqDiff,↓reduceIte,zZ3]<;>rfl) (W_skip ?_)
    refine step2 _ _ s x3 ⟨hlow.1.imp id fun g=>⟨g.1.imp id fun g=>by omega,g.2⟩,fun x1 hx1=>?_⟩ e0 e2 e4 e5 e6
    rw [hx] at hx1;cases hx1
    exact ⟨u,hu1,hu2,hu3,fun _ z2 hz2=>by rw [hz'] at hz2;cases hz2;exact O.asym hlt⟩
   | false =>
    refine W_true (by simp only [zZ2,Nat.reduceEqDiff,↓reduceIte,zZ3]<;>rfl) ?_
    refine W_rg fun K hK=>(W_text [true,true] (by kernel_rfl) ?_);simp only [↓zZ1,↓reduceIte,Nat.reduceEqDiff,rg,ow_132,e8]
    apply hK;clear hK K
    refine step2 _ _ (2*i+2) x3 ⟨.inr ⟨.inr ⟨rfl,rfl⟩,hr⟩,fun x1 hx1=>?_⟩ e0 e2 e4 e5 rfl
    rw [hx] at hx1;cases hx1
    have hzu:leE ord z' u:=hlt
    exact ⟨z',hz',leE_tr _ _ _ hzu hu2,fun y hy=>leE_tr _ _ _ hzu (hu3 y hy),fun _ z2 hz2=>by rw [hz'] at hz2;cases hz2;exact leE_rf _⟩
  ·have t1:=lt_ff (2*i+2) q'.length (by omega)
   refine W_sq fun K hK=>(W_semi (some none) (.take false 0 (.take false 1 (.take false 2 (.take false 3 (.take false 4 (.take false 5 (.take false 6 (.take false 7 (.take false 8 (.take false 9 (.take false 10 (.take true 11 (.take false 12 (.take false 13 (.take false 14 (.take true 15 (.take false 16 (.take false 17 (.take false 18 (.take true 19 (.take false 20 (.take false 21 (.take false 22 (.take true 23 (.take false 24 (.take false 25 (.take false 26 (.take true 27 (.act 28 (.take false 29 (.take false 30 .nil))))))))))))))))))))))))))))))) mixed (by kernel_rfl) ?_);simp only [↓rgm,↓zZ1,↓reduceIte,Nat.reduceEqDiff,rg,ow_132,e0,e8,t1,ptr_eq,hhd]
   apply hK;clear hK K
   refine W_false (by simp only [zZ2,Nat.reduceEqDiff,↓reduceIte,zZ3]<;>rfl) (W_skip ?_)
   refine step2 _ _ s (by first | exact Ext.refl _ _ | exact Ext.dr _ _ _) ⟨hlow.1.imp id fun g=>⟨g.1.imp id fun g=>by omega,g.2⟩,fun x1 hx1=>?_⟩ e0 e2 e4 e5 e6
   obtain ⟨u,hu1,hu2,hu3,_⟩:=hlow.2 x1 hx1
   exact ⟨u,hu1,hu2,hu3,fun _ z2 hz2=>by have:=(List.getElem?_eq_some_iff.1 hz2).1;omega⟩
 clear hJ1
 by_cases hl:2*i+1<q'.length
 ·have hil:i<q'.length:=by omega
  obtain ⟨x,hx⟩:∃ x,q'[i]? = some x:=⟨_,List.getElem?_eq_getElem hil⟩
  obtain ⟨y',hy'⟩:∃ y,q'[2*i+1]? = some y:=⟨_,List.getElem?_eq_getElem hl⟩
  have t1:=lt_tt (2*i+1) q'.length hl
  have ix:=eI_at hrow hx
  have iy:=eI_at hrow hy'
  refine W_sq fun K hK=>(W_semi (some (some [lb,bi])) (.take false 0 (.take false 1 (.take false 2 (.take false 3 (.take false 4 (.take false 5 (.take false 6 (.take false 7 (.take false 8 (.take false 9 (.take false 10 (.take true 11 (.take false 12 (.take false 13 (.take false 14 (.take true 15 (.take false 16 (.take false 17 (.take false 18 (.take true 19 (.take false 20 (.take false 21 (.take false 22 (.take true 23 (.take false 24 (.take false 25 (.take false 26 (.take true 27 (.act 28 (.take false 29 (.take false 30 .nil))))))))))))))))))))))))))))))) mixed (by kernel_rfl) ?_);simp only [↓rgm,↓zZ1,↓reduceIte,Nat.reduceEqDiff,rg,ow_132,o1,o2,rB_on,e0,t1,ptr_eq,hlv6,hhd,hil,hl,ix,iy]
  refine do_callW (by simp only [zZ2,Nat.reduceEqDiff,↓reduceIte,zZ3]<;>rfl) (by simp only [zZ2,Nat.reduceEqDiff,↓reduceIte,zZ4]<;>rfl) (before_any B lv ord x.1 y'.1 _ (hls6.ext (Ext.dr noF _ _) fun _ _ g=>g.elim)) ?_
  rintro _ w2 ⟨rfl,x2⟩
  refine ⟨.inr (keeps_on x2 fun y hy=>by
   simp only [List.mem_cons,List.not_mem_nil,or_false] at hy
   rcases hy with rfl | rfl
   ·exact ⟨S.lt.1,fun o g=>g⟩
   ·exact ⟨S.lt.2,fun o g=>g⟩),?_⟩
  simp only [↓zZ1,↓reduceIte,Nat.reduceEqDiff,rg,ow_132,↓rgm]
  apply hK;clear hK K
  have x2:=x2.od
  cases hlt:O.lt (rkI ord x.1) (rkI ord y'.1) with
  | true =>
   refine W_false (by simp only [zZ2,Nat.reduceEqDiff,↓reduceIte,zZ3]<;>rfl) (W_skip ?_)
   refine step1 _ _ i x2 ⟨.inl rfl,fun x1 hx1=>?_⟩ e0 e2 e4 e5 rfl rfl
   rw [hx] at hx1;cases hx1
   exact ⟨x,hx,leE_rf _,fun y hy=>by rw [hy'] at hy;cases hy;exact O.asym hlt,fun h=>by omega⟩
  | false =>
   refine W_true (by simp only [zZ2,Nat.reduceEqDiff,↓reduceIte,zZ3]<;>rfl) ?_
   refine W_rg fun K hK=>(W_text [true,true] (by kernel_rfl) ?_);simp only [↓zZ1,↓reduceIte,Nat.reduceEqDiff,rg,ow_132]
   apply hK;clear hK K
   refine step1 _ _ (2*i+1) x2 ⟨.inr ⟨.inl rfl,hl⟩,fun x1 hx1=>?_⟩ e0 e2 e4 e5 rfl rfl
   rw [hx] at hx1;cases hx1
   exact ⟨y',hy',hlt,fun y hy=>by rw [hy'] at hy;cases hy;exact leE_rf _,fun h=>by omega⟩
 ·have t1:=lt_ff (2*i+1) q'.length (by omega)
  refine W_sq fun K hK=>(W_semi (some none) (.take false 0 (.take false 1 (.take false 2 (.take false 3 (.take false 4 (.take false 5 (.take false 6 (.take false 7 (.take false 8 (.take false 9 (.take false 10 (.take true 11 (.take false 12 (.take false 13 (.take false 14 (.take true 15 (.take false 16 (.take false 17 (.take false 18 (.take true 19 (.take false 20 (.take false 21 (.take false 22 (.take true 23 (.take false 24 (.take false 25 (.take false 26 (.take true 27 (.act 28 (.take false 29 (.take false 30 .nil))))))))))))))))))))))))))))))) mixed (by kernel_rfl) ?_);simp only [↓rgm,↓zZ1,↓reduceIte,Nat.reduceEqDiff,rg,ow_132,e0,t1,ptr_eq,hhd]
  apply hK;clear hK K
  refine W_false (by simp only [zZ2,Nat.reduceEqDiff,↓reduceIte,zZ3]<;>rfl) (W_skip ?_)
  refine step1 _ _ i (by first | exact Ext.refl _ _ | exact Ext.dr _ _ _) ⟨.inl rfl,fun x1 hx1=>⟨x1,hx1,leE_rf _,fun y hy=>by have:=(List.getElem?_eq_some_iff.1 hy).1;omega,fun h=>by omega⟩⟩ e0 e2 e4 e5 rfl rfl
end Go.Proofs.Ytbnnkcofnmipoaa
namespace Go.Proofs.Ytbnnkcofnmipoaa
open Go
section
variable {α:Type}
theorem weave_cat:∀ (g1 g2:List (List α)) (k1 k2:List α) (k:α),g1.length=k1.length+1->weave (g1++g2) (k1++k::k2)=weave g1 k1++k::weave g2 k2
 | [],_,_,_,_,h=>by simp at h
 | [c],g2,[],k2,k,_=>rfl
 | c::d::g,g2,[],k2,k,h=>by simp at h
 | c::g1,g2,x::k1,k2,k,h=>by
  rw [List.cons_append,List.cons_append,weave_cons,weave_cons,weave_cat g1 g2 k1 k2 k (by simpa using h),List.append_assoc]
  rfl
theorem weave_two:∀ (A B:List (List α)) (a b:List α) (ks:List α) (k:α),ks[A.length]? = some k->weave (A++a::b::B) ks=weave (A++(a++k::b)::B) (ks.eraseIdx A.length)
 | [],B,a,b,[],k,h=>by simp at h
 | [],B,a,b,x::ks,k,h=>by
  simp at h
  subst h
  cases ks with
  | nil=>cases B<;>rfl
  | cons y ks=>simp [weave]
 | c::A,B,a,b,[],k,h=>by simp at h
 | c::A,B,a,b,x::ks,k,h=>by
  rw [List.cons_append,List.cons_append,weave_cons,weave_two A B a b ks k (by simpa using h),List.length_cons,List.eraseIdx_cons_succ,weave_cons]
theorem weave_swap {A B:List (List α)} {a b a' b':List α} {ks:List α} {k x:α} (hk:ks[A.length]? = some k) (h:a++k::b=a'++x::b'):weave (A++a::b::B) ks=weave (A++a'::b'::B) (ks.set A.length x):=by
 rw [weave_two A B a b ks k hk,weave_two A B a' b' (ks.set A.length x) x (by rw [List.getElem?_set_self (List.getElem?_eq_some_iff.1 hk).1]),h]
 congr 1
 have hl:=(List.getElem?_eq_some_iff.1 hk).1
 rw [List.eraseIdx_eq_take_drop_succ,List.eraseIdx_eq_take_drop_succ,List.take_set_of_le (Nat.le_refl _),List.drop_set_of_lt (by omega)]
end
variable {α:Type} {E:Enc α} {iso:Int} {mn mx:Nat}
def Dj (F G:Nat->Nat->Prop):Prop:=∀ y o,F y o->¬ G y o
theorem Dj.symm {F G:Nat->Nat->Prop} (h:Dj F G):Dj G F:=fun y o g f=>h y o f g
def Kin (E:Enc α) (iso:Int) (mn mx h:Nat) (w:World) (ch:Value) (ps:List (Option Nat)) (ks xs:List α) (gs:List (Kid α)):Prop :=
 (h=0/\ch = .pointer none/\ps=[]/\gs=[]/\xs=ks) ∨
 (∃ h',h=h'+1/\(∃ c,ch=ptr c)/\ps=gs.map (fun g=>some g.b)/\gs.length=ks.length+1/\xs=weave (gs.map Kid.xs) ks/\∀ c ∈ gs,Tr E iso mn mx h' w mn c.b c.xs c.F)
def kinF (gs:List (Kid α)):Nat->Nat->Prop:=fun y o=>∃ c ∈ gs,c.F y o
structure Lay (F1 F4:Nat->Nat->Prop) (K1 K4:Nat) (gs:List (Kid α)):Prop where
 d:Dj F1 F4
 g1:∀ c ∈ gs,Dj c.F F1
 g4:∀ c ∈ gs,Dj c.F F4
 two:gs.Pairwise fun c d=>Dj c.F d.F
 r:K1 ≠ K4
theorem Kin.ext {h:Nat} {w w':World} {ch:Value} {ps:List (Option Nat)} {ks xs:List α} {gs:List (Kid α)} {G:Nat->Nat->Prop} (n:Kin E iso mn mx h w ch ps ks xs gs) (x:Ext G w w') (hG:∀ c ∈ gs,Dj c.F G):Kin E iso mn mx h w' ch ps ks xs gs :=
 n.imp id fun ⟨h',h1,h2,h3,h4,h5,h6⟩=>⟨h',h1,h2,h3,h4,h5,fun c hc=>(h6 c hc).ext x (hG c hc)⟩
theorem Kin.lt {h:Nat} {w:World} {ch:Value} {ps:List (Option Nat)} {ks xs:List α} {gs:List (Kid α)} (n:Kin E iso mn mx h w ch ps ks xs gs):∀ c ∈ gs,∀ y o,c.F y o->y<w.heap.size:=by
 rcases n with ⟨_,_,_,rfl,_⟩ | ⟨h',_,_,_,_,_,h6⟩
 ·intro c hc;cases hc
 ·intro c hc;exact (h6 c hc).lt
theorem Tr.split {h:Nat} {w:World} {lo b:Nat} {xs:List α} {F:Nat->Nat->Prop} (ht:Tr E iso mn mx h w lo b xs F) :
  ∃ F1 F4 K1 K4 ks ch ps gs,(ndO E iso 0 b xs.length ks ch).p w F1 K1/\(kdO ch ps).p w F4 K4/\Kin E iso mn mx h w ch ps ks xs gs/\lo<=ks.length/\ks.length<=mx/\Lay F1 F4 K1 K4 gs/\∀ y o,F y o ↔ F1 y o\/F4 y o\/kinF gs y o:=by
 cases h with
 | zero =>
  obtain ⟨bi,oi,cap,ho,h1,h2,hF⟩:=ht
  refine ⟨ownF E b bi oi cap,noF,bi,b,xs,_,[],[],⟨bi,oi,cap,ho,Nat.zero_le _,rfl,fun _ _=>Iff.rfl⟩,.inl ⟨rfl,rfl,wok_lt ho.wb,fun _ _ g=>g⟩,.inl ⟨rfl,rfl,rfl,rfl,rfl⟩,h1,h2,
   ⟨fun _ _ _ g=>g,(fun _ hc=>by simp at hc),(fun _ hc=>by simp at hc),List.Pairwise.nil,ho.ne⟩,fun y o=>?_⟩
  rw [hF]
  exact ⟨.inl,fun g=>g.elim id fun g=>g.elim False.elim fun ⟨_,hc,_⟩=>by simp at hc⟩
 | succ h =>
  obtain ⟨bi,oi,cap,bc,ba,oa,capc,ks,cs,ho,hk,h1,h2,h3,h4,hT,hA,hF⟩:=ht
  have hps:cs.map (fun g=>some g.b)=(cs.map Kid.b).map some:=by rw [List.map_map];rfl
  refine ⟨ownF E b bi oi cap,kidF bc ba oa capc,bi,ba,ks,_,cs.map (fun g=>some g.b),cs,⟨bi,oi,cap,ho,Nat.zero_le _,rfl,fun _ _=>Iff.rfl⟩,.inr ⟨bc,ba,oa,capc,rfl,by rw [hps];exact hk.se,rfl,fun _ _=>Iff.rfl⟩,
   .inr ⟨h,rfl,⟨bc,rfl⟩,rfl,h3,h4,hT⟩,h1,h2,⟨fun y o g k=>?_,hA.own,hA.kid,hA.two,hA.ia⟩,hF⟩
  have:=hA.cb;have:=hA.ab;have:=hA.ic;have:=hA.ia
  simp only [ownF,kidF,rng] at g k
  omega
theorem Tr.join {h:Nat} {w:World} {lo z b:Nat} {cnt:Int} {ks xs:List α} {ch:Value} {ps:List (Option Nat)} {gs:List (Kid α)} {F1 F4:Nat->Nat->Prop} {K1 K4:Nat} (h1:(ndO E iso z b cnt ks ch).p w F1 K1) (h4:(kdO ch ps).p w F4 K4)
  (n:Kin E iso mn mx h w ch ps ks xs gs) (hlo:lo<=ks.length) (hmx:ks.length<=mx) (hz:0<ks.length\/1<=z) (l:Lay F1 F4 K1 K4 gs) (hcnt:cnt=xs.length):Tr E iso mn mx h w lo b xs fun y o=>F1 y o\/F4 y o\/kinF gs y o:=by
 subst hcnt
 obtain ⟨bi,oi,cap,ho,hzc,rfl,hF1⟩:=h1
 rcases n with ⟨rfl,rfl,rfl,rfl,rfl⟩ | ⟨h',rfl,⟨c,rfl⟩,rfl,g3,g4,g5⟩
 ·rcases h4 with ⟨_,_,_,hF4⟩ | ⟨_,_,_,_,hc,_⟩
  ·refine ⟨K1,oi,cap,ho,hlo,hmx,fun y o=>?_⟩
   show F1 y o\/F4 y o\/kinF [] y o ↔ _
   rw [hF1]
   exact ⟨fun g=>g.elim id fun g=>g.elim (fun g=>(hF4 _ _ g).elim) fun ⟨_,hc,_⟩=>by simp at hc,.inl⟩
  ·cases hc
 ·rcases h4 with ⟨hc,_⟩ | ⟨bc,ba,oa,capc,hc,se,rfl,hF4⟩
  ·cases hc
  ·obtain rfl:c=bc:=by simpa [ptr] using hc
   have hps:gs.map (fun g=>some g.b)=(gs.map Kid.b).map some:=by rw [List.map_map];rfl
   rw [hps] at se
   have hk:=se.kids
   have hle:=hk.le
   rw [List.length_map] at hle
   have hcap:0<cap:=by have:=ho.le;omega
   have hsz:=Nat.mul_le_mul_right E.sz hcap
   have hE:=E.pos
   refine ⟨K1,oi,cap,c,K4,oa,capc,ks,gs,ho,hk,hlo,hmx,g3,g4,g5,⟨fun hb=>?_,fun hb=>?_,fun hb=>?_,l.r,fun d hd y o g k=>l.g1 d hd y o g ((hF1 _ _).2 k),fun d hd y o g k=>l.g4 d hd y o g ((hF4 _ _).2 k),l.two⟩,fun y o=>?_⟩
   ·subst hb;exact l.d c 0 ((hF1 _ _).2 (.inl rfl)) ((hF4 _ _).2 (.inl rfl))
   ·subst hb;exact l.d K4 oa ((hF1 _ _).2 (.inl rfl)) ((hF4 _ _).2 (.inr ⟨rfl,by omega,by omega⟩))
   ·subst hb;exact l.d K1 oi ((hF1 _ _).2 (.inr ⟨rfl,by omega,by omega⟩)) ((hF4 _ _).2 (.inl rfl))
   ·show F1 y o\/F4 y o\/kinF gs y o ↔ _
    rw [hF1,hF4];rfl
theorem Kin.merge {h:Nat} {w:World} {ch1 ch2:Value} {p1 p2:List (Option Nat)} {k1 k2 x1 x2:List α} {g1 g2:List (Kid α)} {k:α} (a:Kin E iso mn mx h w ch1 p1 k1 x1 g1) (b:Kin E iso mn mx h w ch2 p2 k2 x2 g2) :
  Kin E iso mn mx h w ch1 (p1++p2) (k1++k::k2) (x1++k::x2) (g1++g2):=by
 rcases a with ⟨h0,ha,rfl,rfl,rfl⟩ | ⟨h',rfl,ha,rfl,a3,rfl,a5⟩
 ·rcases b with ⟨_,_,rfl,rfl,rfl⟩ | ⟨h',h1,_⟩
  ·exact .inl ⟨h0,ha,rfl,rfl,rfl⟩
  ·omega
 ·rcases b with ⟨h1,_⟩ | ⟨h2,h1,_,rfl,b3,rfl,b5⟩
  ·omega
  ·obtain rfl:h'=h2:=by omega
   refine .inr ⟨h',rfl,ha,by rw [List.map_append],by simp;omega,?_,fun c hc=>?_⟩
   ·rw [List.map_append,weave_cat _ _ _ _ _ (by simpa using a3)]
   ·rcases List.mem_append.1 hc with hc | hc
    ·exact a5 c hc
    ·exact b5 c hc
theorem Tr.cnt' {w:World} {h lo b:Nat} {xs:List α} {F:Nat->Nat->Prop} (t:Tr E iso mn mx h w lo b xs F):rd w b 1=some (.int .i64 (xs.length:Nat)):=by
 obtain ⟨_,_,_,_,_,h,_⟩:=t.open
 exact h.h1
theorem Kin.right {h:Nat} {w:World} {ch1 ch2:Value} {p1 p2:List (Option Nat)} {ls k2 x1 x2:List α} {g1 g2:List (Kid α)} {k x:α} (a:Kin E iso mn mx h w ch1 p1 (ls++[x]) x1 g1) (b:Kin E iso mn mx h w ch2 p2 k2 x2 g2) :
  ∃ cg x1' x2' gl gr,Kin E iso mn mx h w ch1 p1.dropLast ls x1' gl/\Kin E iso mn mx h w ch2 (p1.drop (p1.length-1)++p2) (k::k2) x2' gr/\x1++k::x2=x1'++x::x2'/\gl++gr=g1++g2 ∧
   x1'.length=x1.length-1-cg/\x2'.length=x2.length+1+cg/\1+cg<=x1.length/\((p1=[]/\cg=0)\/∃ c p',p1=p'++[some c.b]/\c ∈ g1/\rd w c.b 1=some (.int .i64 (cg:Nat))/\∀ o,c.F c.b o):=by
 rcases a with ⟨h0,ha,rfl,rfl,rfl⟩ | ⟨h',rfl,ha,rfl,a3,rfl,a5⟩
 ·rcases b with ⟨_,hb,rfl,rfl,rfl⟩ | ⟨h',h1,_⟩
  ·exact ⟨0,ls,k::x2,[],[],.inl ⟨h0,ha,rfl,rfl,rfl⟩,.inl ⟨h0,hb,rfl,rfl,rfl⟩,by simp,rfl,by simp,by simp,by simp,.inl ⟨rfl,rfl⟩⟩
  ·omega
 ·rcases b with ⟨h1,_⟩ | ⟨h2,h1,hb,rfl,b3,rfl,b5⟩
  ·omega
  ·obtain rfl:h'=h2:=by omega
   rw [List.length_append,List.length_singleton] at a3
   obtain ⟨gl,g,rfl⟩:∃ gl g,g1=gl++[g]:=⟨g1.dropLast,g1.getLast (by intro h;rw [h] at a3;simp at a3),(List.dropLast_concat_getLast _).symm⟩
   rw [List.length_append,List.length_singleton] at a3
   have hw:weave ((gl++[g]).map Kid.xs) (ls++[x])=weave (gl.map Kid.xs) ls++x::g.xs:=by
    rw [List.map_append,weave_cat _ _ _ _ _ (by simp;omega)];rfl
   refine ⟨g.xs.length,weave (gl.map Kid.xs) ls,g.xs++k::weave (g2.map Kid.xs) k2,gl,g::g2,.inr ⟨h',rfl,ha,by simp,by omega,rfl,fun c hc=>a5 c (by simp [hc])⟩,.inr ⟨h',rfl,hb,by simp,by simp;omega,by simp [weave_cons],fun c hc=>?_⟩,
    by rw [hw];simp,by simp,by rw [hw];simp<;>omega,by simp<;>omega,by rw [hw];simp<;>omega,.inr ⟨g,gl.map fun g=>some g.b,by simp,by simp,(a5 g (by simp)).cnt',(a5 g (by simp)).self⟩⟩
   rcases List.mem_cons.1 hc with rfl | hc
   ·exact a5 _ (by simp)
   ·exact b5 c hc
theorem Kin.left {h:Nat} {w:World} {ch1 ch2:Value} {p1 p2:List (Option Nat)} {k1 rs x1 x2:List α} {g1 g2:List (Kid α)} {k x:α} (a:Kin E iso mn mx h w ch1 p1 k1 x1 g1) (b:Kin E iso mn mx h w ch2 p2 (x::rs) x2 g2) :
  ∃ cg x1' x2' gl gr,Kin E iso mn mx h w ch1 (p1++p2.take 1) (k1++[k]) x1' gl/\Kin E iso mn mx h w ch2 (p2.drop 1) rs x2' gr/\x1++k::x2=x1'++x::x2'/\gl++gr=g1++g2 ∧
   x1'.length=x1.length+1+cg/\x2'.length=x2.length-1-cg/\1+cg<=x2.length/\((p2=[]/\cg=0)\/∃ c p',p2=some c.b::p'/\c ∈ g2/\rd w c.b 1=some (.int .i64 (cg:Nat))/\∀ o,c.F c.b o):=by
 rcases a with ⟨h0,ha,rfl,rfl,rfl⟩ | ⟨h',rfl,ha,rfl,a3,rfl,a5⟩
 ·rcases b with ⟨_,hb,rfl,rfl,rfl⟩ | ⟨h',h1,_⟩
  ·exact ⟨0,x1++[k],rs,[],[],.inl ⟨h0,ha,rfl,rfl,rfl⟩,.inl ⟨h0,hb,rfl,rfl,rfl⟩,by simp,rfl,by simp,by simp,by simp,.inl ⟨rfl,rfl⟩⟩
  ·omega
 ·rcases b with ⟨h1,_⟩ | ⟨h2,h1,hb,rfl,b3,rfl,b5⟩
  ·omega
  ·obtain rfl:h'=h2:=by omega
   rw [List.length_cons] at b3
   obtain ⟨g,gr,rfl⟩:∃ g gr,g2=g::gr:=by
    cases g2 with
    | nil=>simp at b3
    | cons g gr=>exact ⟨g,gr,rfl⟩
   rw [List.length_cons] at b3
   have hw:weave ((g::gr).map Kid.xs) (x::rs)=g.xs++x::weave (gr.map Kid.xs) rs:=by rw [List.map_cons,weave_cons]
   have hv:weave ((g1++[g]).map Kid.xs) (k1++[k])=weave (g1.map Kid.xs) k1++k::g.xs:=by
    rw [List.map_append,weave_cat _ _ _ _ _ (by simpa using a3)];rfl
   refine ⟨g.xs.length,weave (g1.map Kid.xs) k1++k::g.xs,weave (gr.map Kid.xs) rs,g1++[g],gr,.inr ⟨h',rfl,ha,by simp,by simp;omega,hv.symm,fun c hc=>?_⟩,.inr ⟨h',rfl,hb,by simp,by omega,rfl,fun c hc=>b5 c (by simp [hc])⟩,
    by rw [hw];simp,by simp,by simp<;>omega,by rw [hw];simp<;>omega,by rw [hw];simp<;>omega,.inr ⟨g,gr.map fun g=>some g.b,by simp,by simp,(b5 g (by simp)).cnt',(b5 g (by simp)).self⟩⟩
   rcases List.mem_append.1 hc with hc | hc
   ·exact a5 c hc
   ·have:c=g:=by simpa using hc
    subst this;exact b5 _ (by simp)
structure Two (E:Enc α) (iso:Int) (mn mx h:Nat) (w:World) (b bc:Nat) (cnt:Int) (ks:List α) (A B:List (Kid α)) (c1 c2:Kid α) (F0 F3:Nat->Nat->Prop) (K0 K3:Nat)
  (F1 F4:Nat->Nat->Prop) (K1 K4:Nat) (k1:List α) (ch1:Value) (p1:List (Option Nat)) (g1:List (Kid α)) (F2 F5:Nat->Nat->Prop) (K2 K5:Nat) (k2:List α) (ch2:Value) (p2:List (Option Nat)) (g2:List (Kid α)):Prop where
 n0:(ndO E iso 1 b cnt ks (ptr bc)).p w F0 K0
 n3:(kdO (ptr bc) ((A++c1::c2::B).map fun g=>some g.b)).p w F3 K3
 l0:Lay F0 F3 K0 K3 (A++c1::c2::B)
 n1:(ndO E iso 0 c1.b (c1.xs.length:Nat) k1 ch1).p w F1 K1
 n4:(kdO ch1 p1).p w F4 K4
 l1:Lay F1 F4 K1 K4 g1
 f1:∀ y o,c1.F y o ↔ F1 y o\/F4 y o\/kinF g1 y o
 q1:Kin E iso mn mx h w ch1 p1 k1 c1.xs g1
 n2:(ndO E iso 0 c2.b (c2.xs.length:Nat) k2 ch2).p w F2 K2
 n5:(kdO ch2 p2).p w F5 K5
 l2:Lay F2 F5 K2 K5 g2
 f2:∀ y o,c2.F y o ↔ F2 y o\/F5 y o\/kinF g2 y o
 q2:Kin E iso mn mx h w ch2 p2 k2 c2.xs g2
 rest:∀ c ∈ A++B,Tr E iso mn mx h w mn c.b c.xs c.F
def six (F0 F1 F2 F3 F4 F5:Nat->Nat->Prop):Nat->Nat->Prop:=fun y o=>F0 y o\/F1 y o\/F2 y o\/F3 y o\/F4 y o\/F5 y o
section
variable {h:Nat} {w:World} {b bc:Nat} {cnt:Int} {ks:List α} {A B:List (Kid α)} {c1 c2:Kid α} {F0 F3:Nat->Nat->Prop} {K0 K3:Nat}
  {F1 F4:Nat->Nat->Prop} {K1 K4:Nat} {k1:List α} {ch1:Value} {p1:List (Option Nat)} {g1:List (Kid α)} {F2 F5:Nat->Nat->Prop} {K2 K5:Nat} {k2:List α} {ch2:Value} {p2:List (Option Nat)} {g2:List (Kid α)}
theorem Two.apart (t:Two E iso mn mx h w b bc cnt ks A B c1 c2 F0 F3 K0 K3 F1 F4 K1 K4 k1 ch1 p1 g1 F2 F5 K2 K5 k2 ch2 p2 g2) :
  Dj c1.F c2.F/\(∀ a ∈ A++B,Dj a.F c1.F/\Dj a.F c2.F)/\(A++B).Pairwise fun c d=>Dj c.F d.F:=by
 obtain ⟨p1,p2,p3⟩:=List.pairwise_append.1 t.l0.two
 obtain ⟨p4,p5⟩:=List.pairwise_cons.1 p2
 obtain ⟨p6,p7⟩:=List.pairwise_cons.1 p5
 refine ⟨p4 c2 (by simp),fun a ha=>?_,List.pairwise_append.2 ⟨p1,p7,fun a ha b hb=>p3 a ha b (by simp [hb])⟩⟩
 rcases List.mem_append.1 ha with ha | ha
 ·exact ⟨p3 a ha c1 (by simp),p3 a ha c2 (by simp)⟩
 ·exact ⟨(p4 a (by simp [ha])).symm,(p6 a ha).symm⟩
theorem Two.init (t:Two E iso mn mx h w b bc cnt ks A B c1 c2 F0 F3 K0 K3 F1 F4 K1 K4 k1 ch1 p1 g1 F2 F5 K2 K5 k2 ch2 p2 g2) :
  Ss w (six F0 F1 F2 F3 F4 F5) w [ndO E iso 1 b cnt ks (ptr bc),ndO E iso 0 c1.b (c1.xs.length:Nat) k1 ch1,ndO E iso 0 c2.b (c2.xs.length:Nat) k2 ch2,kdO (ptr bc) ((A++c1::c2::B).map fun g=>some g.b),kdO ch1 p1,kdO ch2 p2]:=by
 obtain ⟨a1,-,-⟩:=t.apart
 have s1:∀ y o,F1 y o->c1.F y o:=fun y o g=>(t.f1 y o).2 (.inl g)
 have s4:∀ y o,F4 y o->c1.F y o:=fun y o g=>(t.f1 y o).2 (.inr (.inl g))
 have s2:∀ y o,F2 y o->c2.F y o:=fun y o g=>(t.f2 y o).2 (.inl g)
 have s5:∀ y o,F5 y o->c2.F y o:=fun y o g=>(t.f2 y o).2 (.inr (.inl g))
 have m1:c1 ∈ A++c1::c2::B:=by simp
 have m2:c2 ∈ A++c1::c2::B:=by simp
 have d01:Dj F0 F1:=fun y o g k=>t.l0.g1 c1 m1 y o (s1 y o k) g
 have d02:Dj F0 F2:=fun y o g k=>t.l0.g1 c2 m2 y o (s2 y o k) g
 have d04:Dj F0 F4:=fun y o g k=>t.l0.g1 c1 m1 y o (s4 y o k) g
 have d05:Dj F0 F5:=fun y o g k=>t.l0.g1 c2 m2 y o (s5 y o k) g
 have d31:Dj F3 F1:=fun y o g k=>t.l0.g4 c1 m1 y o (s1 y o k) g
 have d32:Dj F3 F2:=fun y o g k=>t.l0.g4 c2 m2 y o (s2 y o k) g
 have d34:Dj F3 F4:=fun y o g k=>t.l0.g4 c1 m1 y o (s4 y o k) g
 have d35:Dj F3 F5:=fun y o g k=>t.l0.g4 c2 m2 y o (s5 y o k) g
 have d12:Dj F1 F2:=fun y o g k=>a1 y o (s1 y o g) (s2 y o k)
 have d15:Dj F1 F5:=fun y o g k=>a1 y o (s1 y o g) (s5 y o k)
 have d42:Dj F4 F2:=fun y o g k=>a1 y o (s4 y o g) (s2 y o k)
 have d45:Dj F4 F5:=fun y o g k=>a1 y o (s4 y o g) (s5 y o k)
 refine ⟨fun | 0=>F0 | 1=>F1 | 2=>F2 | 3=>F3 | 4=>F4 | _=>F5,fun | 0=>K0 | 1=>K1 | 2=>K2 | 3=>K3 | 4=>K4 | _=>K5,⟨fun i C hi=>?_,fun i j hi hj hij=>?_,fun i hi y o g=>.inl ?_,fun i hi=>?_,Ext.refl _ _⟩⟩
 ·match i,hi with
  | 0,hi=>cases hi;exact t.n0
  | 1,hi=>cases hi;exact t.n1
  | 2,hi=>cases hi;exact t.n2
  | 3,hi=>cases hi;exact t.n3
  | 4,hi=>cases hi;exact t.n4
  | 5,hi=>cases hi;exact t.n5
  | n+6,hi=>simp at hi
 ·show Dj _ _
  match i,j,hi,hj,hij with
  | 0,0,_,_,h=>exact (h rfl).elim
  | 0,1,_,_,_=>exact d01
  | 0,2,_,_,_=>exact d02
  | 0,3,_,_,_=>exact t.l0.d
  | 0,4,_,_,_=>exact d04
  | 0,5,_,_,_=>exact d05
  | 1,0,_,_,_=>exact d01.symm
  | 1,1,_,_,h=>exact (h rfl).elim
  | 1,2,_,_,_=>exact d12
  | 1,3,_,_,_=>exact d31.symm
  | 1,4,_,_,_=>exact t.l1.d
  | 1,5,_,_,_=>exact d15
  | 2,0,_,_,_=>exact d02.symm
  | 2,1,_,_,_=>exact d12.symm
  | 2,2,_,_,h=>exact (h rfl).elim
  | 2,3,_,_,_=>exact d32.symm
  | 2,4,_,_,_=>exact d42.symm
  | 2,5,_,_,_=>exact t.l2.d
  | 3,0,_,_,_=>exact t.l0.d.symm
  | 3,1,_,_,_=>exact d31
  | 3,2,_,_,_=>exact d32
  | 3,3,_,_,h=>exact (h rfl).elim
  | 3,4,_,_,_=>exact d34
  | 3,5,_,_,_=>exact d35
  | 4,0,_,_,_=>exact d04.symm
  | 4,1,_,_,_=>exact t.l1.d.symm
  | 4,2,_,_,_=>exact d42
  | 4,3,_,_,_=>exact d34.symm
  | 4,4,_,_,h=>exact (h rfl).elim
  | 4,5,_,_,_=>exact d45
  | 5,0,_,_,_=>exact d05.symm
  | 5,1,_,_,_=>exact d15.symm
  | 5,2,_,_,_=>exact t.l2.d.symm
  | 5,3,_,_,_=>exact d35.symm
  | 5,4,_,_,_=>exact d45.symm
  | 5,5,_,_,h=>exact (h rfl).elim
  | n+6,_,hi,_,_=>exact absurd hi (by simp)
  | _,n+6,_,hj,_=>exact absurd hj (by simp)
 ·match i,hi,g with
  | 0,_,g=>exact .inl g
  | 1,_,g=>exact .inr (.inl g)
  | 2,_,g=>exact .inr (.inr (.inl g))
  | 3,_,g=>exact .inr (.inr (.inr (.inl g)))
  | 4,_,g=>exact .inr (.inr (.inr (.inr (.inl g))))
  | 5,_,g=>exact .inr (.inr (.inr (.inr (.inr g))))
  | n+6,hi,_=>exact absurd hi (by simp)
 ·match i,hi with
  | 0,_=>exact t.l0.r
  | 1,_=>exact t.l1.r
  | 2,_=>exact t.l2.r
  | n+3,hi=>exact absurd hi (by simp)
theorem Two.far (t:Two E iso mn mx h w b bc cnt ks A B c1 c2 F0 F3 K0 K3 F1 F4 K1 K4 k1 ch1 p1 g1 F2 F5 K2 K5 k2 ch2 p2 g2) :
  (∀ c ∈ A++B,Dj c.F (six F0 F1 F2 F3 F4 F5))/\(∀ c ∈ g1++g2,Dj c.F (six F0 F1 F2 F3 F4 F5))/\(g1++g2).Pairwise (fun c d=>Dj c.F d.F)/\∀ a ∈ A++B,∀ c ∈ g1++g2,Dj a.F c.F:=by
 obtain ⟨a1,a2,-⟩:=t.apart
 have s1:∀ y o,F1 y o->c1.F y o:=fun y o g=>(t.f1 y o).2 (.inl g)
 have s4:∀ y o,F4 y o->c1.F y o:=fun y o g=>(t.f1 y o).2 (.inr (.inl g))
 have s2:∀ y o,F2 y o->c2.F y o:=fun y o g=>(t.f2 y o).2 (.inl g)
 have s5:∀ y o,F5 y o->c2.F y o:=fun y o g=>(t.f2 y o).2 (.inr (.inl g))
 have m1:c1 ∈ A++c1::c2::B:=by simp
 have m2:c2 ∈ A++c1::c2::B:=by simp
 have e1:∀ c ∈ g1,∀ y o,c.F y o->c1.F y o:=fun c hc y o g=>(t.f1 y o).2 (.inr (.inr ⟨c,hc,g⟩))
 have e2:∀ c ∈ g2,∀ y o,c.F y o->c2.F y o:=fun c hc y o g=>(t.f2 y o).2 (.inr (.inr ⟨c,hc,g⟩))
 refine ⟨fun c hc y o g k=>?_,fun c hc y o g k=>?_,List.pairwise_append.2 ⟨t.l1.two,t.l2.two,fun c hc d hd y o g k=>a1 y o (e1 c hc y o g) (e2 d hd y o k)⟩,fun a ha c hc y o g k=>?_⟩
 ·have hm:c ∈ A++c1::c2::B:=by
   rcases List.mem_append.1 hc with h | h
   ·simp [h]
   ·simp [h]
  obtain ⟨a3,a4⟩:=a2 c hc
  rcases k with k | k | k | k | k | k
  ·exact t.l0.g1 c hm y o g k
  ·exact a3 y o g (s1 y o k)
  ·exact a4 y o g (s2 y o k)
  ·exact t.l0.g4 c hm y o g k
  ·exact a3 y o g (s4 y o k)
  ·exact a4 y o g (s5 y o k)
 ·rcases List.mem_append.1 hc with hc | hc
  ·have gc:=e1 c hc y o g
   rcases k with k | k | k | k | k | k
   ·exact t.l0.g1 c1 m1 y o gc k
   ·exact t.l1.g1 c hc y o g k
   ·exact a1 y o gc (s2 y o k)
   ·exact t.l0.g4 c1 m1 y o gc k
   ·exact t.l1.g4 c hc y o g k
   ·exact a1 y o gc (s5 y o k)
  ·have gc:=e2 c hc y o g
   rcases k with k | k | k | k | k | k
   ·exact t.l0.g1 c2 m2 y o gc k
   ·exact a1 y o (s1 y o k) gc
   ·exact t.l2.g1 c hc y o g k
   ·exact t.l0.g4 c2 m2 y o gc k
   ·exact a1 y o (s4 y o k) gc
   ·exact t.l2.g4 c hc y o g k
 ·obtain ⟨a3,a4⟩:=a2 a ha
  rcases List.mem_append.1 hc with hc | hc
  ·exact a3 y o g (e1 c hc y o k)
  ·exact a4 y o g (e2 c hc y o k)
theorem Two.kid (t:Two E iso mn mx h w b bc cnt ks A B c1 c2 F0 F3 K0 K3 F1 F4 K1 K4 k1 ch1 p1 g1 F2 F5 K2 K5 k2 ch2 p2 g2) {w':World} {P:List Ob} {F':Nat->Nat->Nat->Prop} {K':Nat->Nat}
  (s:St w (six F0 F1 F2 F3 F4 F5) w' P F' K') (i:Nat) {cb:Nat} {cnt':Int} {ks' xs':List α} {ch:Value} {ps:List (Option Nat)} {gs:List (Kid α)} (hi:P[i]? = some (ndO E iso 0 cb cnt' ks' ch)) (hj:P[i+3]? = some (kdO ch ps))
  (q:Kin E iso mn mx h w ch ps ks' xs' gs) (hs:gs.Sublist (g1++g2)) (h1:mn<=ks'.length) (h2:ks'.length<=mx) (h0:1<=mn) (hc:cnt'=(xs'.length:Nat)) :
  Tr E iso mn mx h w' mn cb xs' fun y o=>F' i y o\/F' (i+3) y o\/kinF gs y o:=by
 obtain ⟨-,f2,f3,-⟩:=t.far
 have hil:=(List.getElem?_eq_some_iff.1 hi).1
 have hjl:=(List.getElem?_eq_some_iff.1 hj).1
 have ha:∀ c ∈ gs,∀ n,n<P.length->Dj c.F (F' n):=fun c hc n hn y o g k=>by
  rcases s.s n hn y o k with k | k
  ·exact f2 c (hs.subset hc) y o g k
  ·have:=q.lt c hc y o g;omega
 exact Tr.join (s.o i _ hi) (s.o (i+3) _ hj) (q.ext s.x fun c hc=>f2 c (hs.subset hc)) h1 h2 (.inl (by omega)) ⟨s.d i (i+3) hil hjl (by omega),fun c hc=>ha c hc i hil,fun c hc=>ha c hc (i+3) hjl,f3.sublist hs,s.r i hjl⟩ hc
theorem Two.close (t:Two E iso mn mx h w b bc cnt ks A B c1 c2 F0 F3 K0 K3 F1 F4 K1 K4 k1 ch1 p1 g1 F2 F5 K2 K5 k2 ch2 p2 g2) {w':World} {P:List Ob} {F':Nat->Nat->Nat->Prop} {K':Nat->Nat}
  (s:St w (six F0 F1 F2 F3 F4 F5) w' P F' K') (hP:P.length=6) (new:List (Kid α)) {ks':List α} {lo:Nat} (h0:P[0]? = some (ndO E iso 1 b cnt ks' (ptr bc))) (h3:P[3]? = some (kdO (ptr bc) ((A++(new++B)).map fun g=>some g.b)))
  (hl:(A++(new++B)).length=ks'.length+1) (hT:∀ n ∈ new,Tr E iso mn mx h w' mn n.b n.xs n.F) (hF:∀ n ∈ new,∀ y o,n.F y o->(∃ i,(i=1\/i=2\/i=4\/i=5)/\F' i y o)\/kinF (g1++g2) y o)
  (h2:new.Pairwise fun c d=>Dj c.F d.F) (hlo:lo<=ks'.length) (hmx:ks'.length<=mx) (hc:cnt=((weave ((A++(new++B)).map Kid.xs) ks').length:Nat)) :
  ∃ F'',Tr E iso mn mx (h+1) w' lo b (weave ((A++(new++B)).map Kid.xs) ks') F''/\∀ y o,F'' y o->(F0 y o\/F3 y o\/kinF (A++c1::c2::B) y o)\/w.heap.size<=y:=by
 obtain ⟨f1,f2,f3,f4⟩:=t.far
 obtain ⟨-,-,a3⟩:=t.apart
 have hlt:∀ c ∈ A++B,∀ y o,c.F y o->y<w.heap.size:=fun c hc=>(t.rest c hc).lt
 have glt:∀ c ∈ g1++g2,∀ y o,c.F y o->y<w.heap.size:=fun c hc=>by
  rcases List.mem_append.1 hc with hc | hc
  ·exact t.q1.lt c hc
  ·exact t.q2.lt c hc
 have oldF:∀ c ∈ A++B,∀ n,n<6->Dj c.F (F' n):=fun c hc n hn y o g k=>by
  rcases s.s n (by omega) y o k with k | k
  ·exact f1 c hc y o g k
  ·have:=hlt c hc y o g;omega
 have gF:∀ n,n<6->Dj (kinF (g1++g2)) (F' n):=fun n hn y o g k=>by
  obtain ⟨c,hc,g⟩:=g
  rcases s.s n (by omega) y o k with k | k
  ·exact f2 c hc y o g k
  ·have:=glt c hc y o g;omega
 have newF:∀ c ∈ new,∀ n,n=0\/n=3->Dj c.F (F' n):=fun c hc n hn y o g k=>by
  rcases hF c hc y o g with ⟨i,hi,g⟩ | g
  ·exact s.d i n (by omega) (by omega) (by omega) y o g k
  ·exact gF n (by omega) y o g k
 have oldN:∀ a ∈ A++B,∀ c ∈ new,Dj a.F c.F:=fun a ha c hc y o g k=>by
  rcases hF c hc y o k with ⟨i,hi,k⟩ | ⟨e,he,k⟩
  ·exact oldF a ha i (by omega) y o g k
  ·exact f4 a ha e he y o g k
 have hmem:∀ c ∈ A++(new++B),c ∈ A++B\/c ∈ new:=fun c hc=>by
  rcases List.mem_append.1 hc with h | h
  ·exact .inl (by simp [h])
  ·rcases List.mem_append.1 h with h | h
   ·exact .inr h
   ·exact .inl (by simp [h])
 obtain ⟨p1,p2,p3⟩:=List.pairwise_append.1 a3
 refine ⟨_,Tr.join (s.o 0 _ h0) (s.o 3 _ h3) (.inr ⟨h,rfl,⟨bc,rfl⟩,rfl,hl,rfl,fun c hc=>?_⟩) hlo hmx (.inr (Nat.le_refl _)) ⟨s.d 0 3 (by omega) (by omega) (by decide),fun c hc=>?_,fun c hc=>?_,?_,s.r 0 (by omega)⟩ hc,fun y o g=>?_⟩
 ·rcases hmem c hc with h | h
  ·exact (t.rest c h).ext s.x (f1 c h)
  ·exact hT c h
 ·rcases hmem c hc with h | h
  ·exact oldF c h 0 (by decide)
  ·exact newF c h 0 (.inl rfl)
 ·rcases hmem c hc with h | h
  ·exact oldF c h 3 (by decide)
  ·exact newF c h 3 (.inr rfl)
 ·refine List.pairwise_append.2 ⟨p1,List.pairwise_append.2 ⟨h2,p2,fun c hc d hd=>(oldN d (by simp [hd]) c hc).symm⟩,fun c hc d hd=>?_⟩
  rcases List.mem_append.1 hd with hd | hd
  ·exact oldN c (by simp [hc]) d hd
  ·exact p3 c hc d hd
 ·have six_sub:∀ y o,six F0 F1 F2 F3 F4 F5 y o->F0 y o\/F3 y o\/kinF (A++c1::c2::B) y o:=fun y o g=>by
   rcases g with g | g | g | g | g | g
   ·exact .inl g
   ·exact .inr (.inr ⟨c1,by simp,(t.f1 y o).2 (.inl g)⟩)
   ·exact .inr (.inr ⟨c2,by simp,(t.f2 y o).2 (.inl g)⟩)
   ·exact .inr (.inl g)
   ·exact .inr (.inr ⟨c1,by simp,(t.f1 y o).2 (.inr (.inl g))⟩)
   ·exact .inr (.inr ⟨c2,by simp,(t.f2 y o).2 (.inr (.inl g))⟩)
  have put:∀ n,n<6->F' n y o->(F0 y o\/F3 y o\/kinF (A++c1::c2::B) y o)\/w.heap.size<=y:=fun n hn g=>(s.s n (by omega) y o g).imp (six_sub y o) id
  rcases g with g | g | ⟨c,hc,g⟩
  ·exact put 0 (by decide) g
  ·exact put 3 (by decide) g
  ·rcases hmem c hc with hm | hm
   ·refine .inl (.inr (.inr ⟨c,?_,g⟩))
    rcases List.mem_append.1 hm with h | h
    ·simp [h]
    ·simp [h]
   ·rcases hF c hm y o g with ⟨i,hi,g⟩ | ⟨e,he,g⟩
    ·exact put i (by omega) g
    ·rcases List.mem_append.1 he with he | he
     ·exact .inl (.inr (.inr ⟨c1,by simp,(t.f1 y o).2 (.inr (.inr ⟨e,he,g⟩))⟩))
     ·exact .inl (.inr (.inr ⟨c2,by simp,(t.f2 y o).2 (.inr (.inr ⟨e,he,g⟩))⟩))
theorem Two.six (t:Two E iso mn mx h w b bc cnt ks A B c1 c2 F0 F3 K0 K3 F1 F4 K1 K4 k1 ch1 p1 g1 F2 F5 K2 K5 k2 ch2 p2 g2) {y o:Nat} (g:Go.Proofs.Ytbnnkcofnmipoaa.six F0 F1 F2 F3 F4 F5 y o):F0 y o\/F3 y o\/kinF (A++c1::c2::B) y o:=by
 rcases g with g | g | g | g | g | g
 ·exact .inl g
 ·exact .inr (.inr ⟨c1,by simp,(t.f1 y o).2 (.inl g)⟩)
 ·exact .inr (.inr ⟨c2,by simp,(t.f2 y o).2 (.inl g)⟩)
 ·exact .inr (.inl g)
 ·exact .inr (.inr ⟨c1,by simp,(t.f1 y o).2 (.inr (.inl g))⟩)
 ·exact .inr (.inr ⟨c2,by simp,(t.f2 y o).2 (.inr (.inl g))⟩)
theorem Two.ch (t:Two E iso mn mx h w b bc cnt ks A B c1 c2 F0 F3 K0 K3 F1 F4 K1 K4 k1 ch1 p1 g1 F2 F5 K2 K5 k2 ch2 p2 g2) :
  (ch1 = .pointer none/\ch2 = .pointer none/\p1=[]/\p2=[])\/∃ lc rc,ch1=ptr lc/\ch2=ptr rc/\p1.length=k1.length+1/\p2.length=k2.length+1:=by
 rcases t.q1 with ⟨h0,ha,hp,_⟩ | ⟨h',h1,⟨lc,ha⟩,hp,hg,_⟩
 ·rcases t.q2 with ⟨_,hb,hq,_⟩ | ⟨h',h1,_⟩
  ·exact .inl ⟨ha,hb,hp,hq⟩
  ·omega
 ·rcases t.q2 with ⟨h0,_⟩ | ⟨_,_,⟨rc,hb⟩,hq,hg2,_⟩
  ·omega
  ·exact .inr ⟨lc,rc,ha,hb,by rw [hp,List.length_map];exact hg,by rw [hq,List.length_map];exact hg2⟩
end
structure Shr (E:Enc α) (iso:Int) (mn mx h:Nat) (w:World) (b bc:Nat) (cnt:Int) (ks:List α) (A:List (Kid α)) (c:Kid α) (B:List (Kid α)) (F0 F3:Nat->Nat->Prop) (K0 K3:Nat):Prop where
 n0:(ndO E iso 1 b cnt ks (ptr bc)).p w F0 K0
 n3:(kdO (ptr bc) ((A++c::B).map fun g=>some g.b)).p w F3 K3
 l0:Lay F0 F3 K0 K3 (A++c::B)
 t:Tr E iso mn mx h w (mn-1) c.b c.xs c.F
 rest:∀ a ∈ A++B,Tr E iso mn mx h w mn a.b a.xs a.F
theorem Tr.keys {w:World} {h lo b:Nat} {xs:List α} {F:Nat->Nat->Prop} (t:Tr E iso mn mx h w lo b xs F) :
  ∃ a n cap,rd w b 2=some (.slice (some a) n cap)/\lo<=n/\n<=mx/\∀ lo',lo'<=n->Tr E iso mn mx h w lo' b xs F:=by
 cases h with
 | zero =>
  obtain ⟨bi,oi,cap,ho,h1,h2,hF⟩:=t
  exact ⟨_,_,_,ho.h2,h1,h2,fun lo' hl=>⟨bi,oi,cap,ho,hl,h2,hF⟩⟩
 | succ h =>
  obtain ⟨bi,oi,cap,bc,ba,oa,capc,ks,cs,ho,hk,h1,h2,h3⟩:=t
  exact ⟨_,_,_,ho.h2,h1,h2,fun lo' hl=>⟨bi,oi,cap,bc,ba,oa,capc,ks,cs,ho,hk,hl,h2,h3⟩⟩
theorem Shr.fine {h:Nat} {w:World} {b bc:Nat} {cnt:Int} {ks:List α} {A B:List (Kid α)} {c:Kid α} {F0 F3:Nat->Nat->Prop} {K0 K3 lo:Nat} (s:Shr E iso mn mx h w b bc cnt ks A c B F0 F3 K0 K3) (hl:(A++c::B).length=ks.length+1)
  (hc:Tr E iso mn mx h w mn c.b c.xs c.F) (hlo:lo<=ks.length) (hmx:ks.length<=mx) (hcnt:cnt=((weave ((A++c::B).map Kid.xs) ks).length:Nat)) :
  Tr E iso mn mx (h+1) w lo b (weave ((A++c::B).map Kid.xs) ks) fun y o=>F0 y o\/F3 y o\/kinF (A++c::B) y o :=
 Tr.join s.n0 s.n3 (.inr ⟨h,rfl,⟨bc,rfl⟩,rfl,hl,rfl,fun a ha=>by
  rcases List.mem_append.1 ha with ha | ha
  ·exact s.rest a (by simp [ha])
  ·rcases List.mem_cons.1 ha with rfl | ha
   ·exact hc
   ·exact s.rest a (by simp [ha])⟩) hlo hmx (.inr (Nat.le_refl _)) s.l0 hcnt
theorem Shr.ext0 {h:Nat} {w w':World} {b bc:Nat} {cnt:Int} {ks:List α} {A B:List (Kid α)} {c:Kid α} {F0 F3:Nat->Nat->Prop} {K0 K3:Nat} (s:Shr E iso mn mx h w b bc cnt ks A c B F0 F3 K0 K3) (x:Ext noF w w'):Shr E iso mn mx h w' b bc cnt ks A c B F0 F3 K0 K3 :=
 ⟨(ndO _ _ _ _ _ _ _).loc s.n0 x fun _ _ _ g=>g,(kdO _ _).loc s.n3 x fun _ _ _ g=>g,s.l0,s.t.ext x fun _ _ _ g=>g,fun a ha=>(s.rest a ha).ext x fun _ _ _ g=>g⟩
theorem Inn.shr {h:Nat} {w w':World} {b:Nat} {xs:List α} {F:Nat->Nat->Prop} {bi oi cap:Nat} {cnt:Int} {ks:List α} {bc ba oa capc:Nat} {cs:List (Kid α)} (o:Own E w b iso cnt bi oi cap ks (ptr bc))
  (n:Inn E iso mn mx h w b xs F bi oi cap ks bc ba oa capc cs) (hk:1<=ks.length) {i:Nat} {c:Kid α} (hc:cs[i]? = some c) {G:Nat->Nat->Prop} (x:Ext G w w') (hG:∀ y o,F y o->G y o->c.F y o) {zs:List α} {F':Nat->Nat->Prop}
  (t:Tr E iso mn mx h w' (mn-1) c.b zs F') (hF':∀ y o,F' y o->c.F y o\/w.heap.size<=y) :
  Shr E iso mn mx h w' b bc cnt ks (cs.take i) ⟨c.b,zs,F'⟩ (cs.drop (i+1)) (ownF E b bi oi cap) (kidF bc ba oa capc) bi ba:=by
 have hcm:=List.mem_of_getElem? hc
 have hi:=(List.getElem?_eq_some_iff.1 hc).1
 have hbl:=wok_lt o.wb
 have hbil:=wok_lt o.wi
 have hbcl:=wok_lt n.kids.wc
 have hbal:=wok_lt n.kids.wa
 have ap:=n.ap.swap (new:=[⟨c.b,zs,F'⟩]) (B:=w.heap.size) hc (fun d hd y o g=>by
  obtain rfl:=List.mem_singleton.1 hd
  exact hF' y o g) (List.pairwise_singleton _ _) (fun d hd y o g=>(n.sub d hd).lt y o g) hbl hbil hbcl hbal
 have hcs:cs=cs.take i++c::cs.drop (i+1):=by
  have h3:=List.getElem?_eq_some_iff.1 hc
  have:=List.take_append_drop i cs
  rw [List.drop_eq_getElem_cons h3.1,h3.2] at this
  exact this.symm
 have hold:∀ a ∈ cs.take i++cs.drop (i+1),a ∈ cs/\Dj a.F c.F:=fun a ha=>by
  have h2:=n.ap.two
  rw [hcs] at h2
  obtain ⟨p1,p2,p3⟩:=List.pairwise_append.1 h2
  obtain ⟨p4,p5⟩:=List.pairwise_cons.1 p2
  rcases List.mem_append.1 ha with ha | ha
  ·exact ⟨List.mem_of_mem_take ha,p3 a ha c (by simp)⟩
  ·exact ⟨List.mem_of_mem_drop ha,fun y o g k=>p4 a ha y o k g⟩
 have hown:∀ y o,ownF E b bi oi cap y o->¬ G y o:=fun y o g k=>n.ap.own c hcm y o (hG y o ((n.fp y o).2 (.inl g)) k) g
 have hkid:∀ y o,kidF bc ba oa capc y o->¬ G y o:=fun y o g k=>n.ap.kid c hcm y o (hG y o ((n.fp y o).2 (.inr (.inl g))) k) g
 refine ⟨⟨bi,oi,cap,o.ext x hown,by have:=o.le;omega,rfl,fun _ _=>Iff.rfl⟩,.inr ⟨bc,ba,oa,capc,rfl,?_,rfl,fun _ _=>Iff.rfl⟩,⟨fun y o g k=>?_,ap.own,ap.kid,ap.two,ap.ia⟩,t,fun a ha=>?_⟩
 ·have hm:((cs.take i++⟨c.b,zs,F'⟩::cs.drop (i+1)).map fun g=>some g.b)=(cs.map Kid.b).map some:=by
   conv=>rhs;rw [hcs]
   simp
   rfl
  rw [hm]
  exact (n.kids.ext x hkid).se
 ·have:=ap.cb;have:=ap.ab;have:=ap.ic;have:=ap.ia
  simp only [ownF,kidF,rng] at g k
  omega
 ·obtain ⟨h1,h2⟩:=hold a ha
  exact (n.sub a h1).ext x fun y o g k=>h2 y o g (hG y o ((n.fp y o).2 (.inr (.inr ⟨a,h1,g⟩))) k)
theorem Inn.shr_fp {h:Nat} {w:World} {b:Nat} {xs:List α} {F:Nat->Nat->Prop} {bi oi cap:Nat} {ks:List α} {bc ba oa capc:Nat} {cs:List (Kid α)}
  (n:Inn E iso mn mx h w b xs F bi oi cap ks bc ba oa capc cs) {i:Nat} {c:Kid α} (hc:cs[i]? = some c) {zs:List α} {F':Nat->Nat->Prop} (hF':∀ y o,F' y o->c.F y o\/w.heap.size<=y) (y o:Nat)
  (g:ownF E b bi oi cap y o\/kidF bc ba oa capc y o\/kinF (cs.take i++⟨c.b,zs,F'⟩::cs.drop (i+1)) y o):F y o\/w.heap.size<=y:=by
 rcases g with g | g | ⟨a,ha,g⟩
 ·exact .inl ((n.fp y o).2 (.inl g))
 ·exact .inl ((n.fp y o).2 (.inr (.inl g)))
 ·rcases List.mem_append.1 ha with ha | ha
  ·exact .inl ((n.fp y o).2 (.inr (.inr ⟨a,List.mem_of_mem_take ha,g⟩)))
  ·rcases List.mem_cons.1 ha with rfl | ha
   ·exact (hF' y o g).imp (fun g=>(n.fp y o).2 (.inr (.inr ⟨c,List.mem_of_getElem? hc,g⟩))) id
   ·exact .inl ((n.fp y o).2 (.inr (.inr ⟨a,List.mem_of_mem_drop ha,g⟩)))
theorem shr_xs {cs:List (Kid α)} {i:Nat} {c:Kid α} (hc:cs[i]? = some c) {b:Nat} {zs:List α} {F':Nat->Nat->Prop}:(cs.take i++⟨b,zs,F'⟩::cs.drop (i+1)).map Kid.xs=(cs.map Kid.xs).set i zs:=by
 have hi:=(List.getElem?_eq_some_iff.1 hc).1
 rw [List.set_eq_take_append_cons_drop,if_pos (by rw [List.length_map];exact hi),List.map_append,List.map_cons,List.map_take,List.map_drop]
theorem shr_len {cs:List (Kid α)} {i:Nat} {c d:Kid α} (hc:cs[i]? = some c):(cs.take i++d::cs.drop (i+1)).length=cs.length/\(cs.take i).length=i:=by
 have hi:=(List.getElem?_eq_some_iff.1 hc).1
 simp only [List.length_append,List.length_take,List.length_cons,List.length_drop]
 omega
end Go.Proofs.Ytbnnkcofnmipoaa
namespace Go.Proofs.Ytbnnkcofnmipoaa
open Go
section
variable {α:Type} {P:α->List α->Prop}
def NP (P:α->List α->Prop) (xss:List (List α)) (ks:List α):Prop:=∀ i k d,ks[i]? = some k->xss[i+1]? = some d->P k d
theorem NP.cons {c d:List α} {cs:List (List α)} {k:α} {ks:List α} (h1:P k d) (h:NP P (d::cs) ks):NP P (c::d::cs) (k::ks):=fun i k' d' g1 g2=>by
 cases i with
 | zero=>simp at g1 g2;subst g1 g2;exact h1
 | succ i=>exact h i k' d' (by simpa using g1) (by simpa using g2)
theorem NP.cat {g1 g2:List (List α)} {k1 k2:List α} {k:α} (a:NP P g1 k1) (b:NP P g2 k2) (hl:g1.length=k1.length+1) (hk:∀ d,g2[0]? = some d->P k d):NP P (g1++g2) (k1++k::k2):=fun i k' d' e1 e2=>by
 rcases Nat.lt_trichotomy i k1.length with hi | hi | hi
 ·rw [List.getElem?_append_left hi] at e1
  rw [List.getElem?_append_left (by omega)] at e2
  exact a i k' d' e1 e2
 ·subst hi
  rw [List.getElem?_append_right (Nat.le_refl _),Nat.sub_self] at e1
  rw [List.getElem?_append_right (by omega),hl,Nat.sub_self] at e2
  simp at e1;subst e1
  exact hk d' e2
 ·rw [List.getElem?_append_right (by omega),show i-k1.length=(i-k1.length-1)+1 by omega,List.getElem?_cons_succ] at e1
  rw [List.getElem?_append_right (by omega),show i+1-g1.length=(i-k1.length-1)+1 by omega] at e2
  exact b _ k' d' e1 e2
theorem NP.left {g1 g2:List (List α)} {k1 k2:List α} (a:NP P (g1++g2) (k1++k2)) (hl:g1.length=k1.length+1):NP P g1 k1:=fun i k' d' e1 e2=>by
 have h1:=(List.getElem?_eq_some_iff.1 e1).1
 refine a i k' d' ?_ ?_
 ·rw [List.getElem?_append_left h1];exact e1
 ·rw [List.getElem?_append_left (by omega)];exact e2
theorem NP.tail {c:List α} {cs:List (List α)} {k:α} {ks:List α} (a:NP P (c::cs) (k::ks)):NP P cs ks:=fun i k' d' e1 e2=>a (i+1) k' d' (by simpa using e1) (by simpa using e2)
theorem NP.merge {A B:List (List α)} {a b m:List α} {ks:List α} (h:NP P (A++a::b::B) ks) (hm:∀ k,0<A.length->ks[A.length-1]? = some k->P k m):NP P (A++m::B) (ks.eraseIdx A.length):=fun i k' d' e1 e2=>by
 rw [List.getElem?_eraseIdx] at e1
 split at e1
 ·rename_i hi
  by_cases hj:i+1<A.length
  ·refine h i k' d' e1 ?_
   rw [List.getElem?_append_left hj] at e2 ⊢;exact e2
  ·have:i+1=A.length:=by omega
   rw [this,List.getElem?_append_right (Nat.le_refl _),Nat.sub_self] at e2
   simp at e2;subst e2
   exact hm k' (by omega) (by rw [show A.length-1=i by omega];exact e1)
 ·rename_i hi
  refine h (i+1) k' d' e1 ?_
  rw [List.getElem?_append_right (by omega)] at e2 ⊢
  rw [show i+1-A.length=(i-A.length)+1 by omega,List.getElem?_cons_succ] at e2
  rw [show i+1+1-A.length=(i-A.length)+1+1 by omega,List.getElem?_cons_succ,List.getElem?_cons_succ]
  exact e2
theorem NP.swap {A B:List (List α)} {a b a' b':List α} {ks:List α} {x:α} (h:NP P (A++a::b::B) ks) (ha:∀ k,0<A.length->ks[A.length-1]? = some k->P k a') (hb:P x b'):NP P (A++a'::b'::B) (ks.set A.length x):=fun i k' d' e1 e2=>by
 rw [List.getElem?_set] at e1
 rcases Nat.lt_trichotomy (i+1) A.length with hi | hi | hi
 ·rw [if_neg (by omega)] at e1
  refine h i k' d' e1 ?_
  rw [List.getElem?_append_left hi] at e2 ⊢;exact e2
 ·rw [if_neg (by omega)] at e1
  rw [hi,List.getElem?_append_right (Nat.le_refl _),Nat.sub_self] at e2
  simp at e2;subst e2
  exact ha k' (by omega) (by rw [show A.length-1=i by omega];exact e1)
 ·rw [List.getElem?_append_right (by omega)] at e2
  by_cases hj:A.length=i
  ·rw [if_pos hj] at e1
   split at e1
   ·cases e1
    rw [show i+1-A.length=0+1 by omega,List.getElem?_cons_succ] at e2
    simp at e2;subst e2;exact hb
   ·cases e1
  ·rw [if_neg hj] at e1
   refine h i k' d' e1 ?_
   rw [List.getElem?_append_right (by omega)]
   rw [show i+1-A.length=(i-1-A.length)+1+1 by omega,List.getElem?_cons_succ,List.getElem?_cons_succ] at e2 ⊢
   exact e2
theorem NP.set {xss:List (List α)} {ks:List α} {i:Nat} {z:List α} (h:NP P xss ks) (hz:∀ k,0<i->ks[i-1]? = some k->P k z):NP P (xss.set i z) ks:=fun j k' d' e1 e2=>by
 rw [List.getElem?_set] at e2
 split at e2
 ·rename_i hj
  split at e2
  ·cases e2
   exact hz k' (by omega) (by rw [show i-1=j by omega];exact e1)
  ·cases e2
 ·exact h j k' d' e1 e2
theorem NP.setk {xss:List (List α)} {ks:List α} {i:Nat} {y:α} (h:NP P xss ks) (hz:∀ d,xss[i+1]? = some d->P y d):NP P xss (ks.set i y):=fun j k' d' e1 e2=>by
 rw [List.getElem?_set] at e1
 split at e1
 ·rename_i hj
  split at e1
  ·cases e1
   exact hz d' (by rw [hj];exact e2)
  ·cases e1
 ·exact h j k' d' e1 e2
theorem NP.out {xss:List (List α)} {ks:List α} {i:Nat} (h:NP P xss ks):NP P (xss.eraseIdx (i+1)) (ks.eraseIdx i):=fun j k' d' e1 e2=>by
 rw [List.getElem?_eraseIdx] at e1 e2
 by_cases hj:j<i
 ·rw [if_pos hj] at e1
  rw [if_pos (by omega)] at e2
  exact h j k' d' e1 e2
 ·rw [if_neg hj] at e1
  rw [if_neg (by omega)] at e2
  exact h (j+1) k' d' e1 e2
theorem NP.imp {Q:α->List α->Prop} {xss:List (List α)} {ks:List α} (h:NP P xss ks) (hi:∀ i k d,ks[i]? = some k->xss[i+1]? = some d->P k d->Q k d):NP Q xss ks:=fun i k d e1 e2=>hi i k d e1 e2 (h i k d e1 e2)
end
section
variable {α:Type} (E:Enc α) (iso:Int) (mn mx:Nat) (P:α->List α->Prop)
def Tp:Nat->World->Nat->Nat->List α->(Nat->Nat->Prop)->Prop
 | 0,w,lo,b,xs,F=>∃ bi oi cap,Own E w b iso xs.length bi oi cap xs (.pointer none)/\lo<=xs.length/\xs.length<=mx/\∀ x o,F x o ↔ ownF E b bi oi cap x o
 | h+1,w,lo,b,xs,F=>∃ bi oi cap bc ba oa capc ks,∃ cs:List (Kid α),Own E w b iso xs.length bi oi cap ks (ptr bc)/\Inn E iso mn mx h w b xs F bi oi cap ks bc ba oa capc cs/\lo<=ks.length/\ks.length<=mx/\(∀ c ∈ cs,Tp h w mn c.b c.xs c.F)/\NP P (cs.map Kid.xs) ks
end
section
variable {α:Type} {E:Enc α} {iso:Int} {mn mx:Nat} {P:α->List α->Prop}
theorem Tp.tr {h:Nat} {w:World} {lo b:Nat} {xs:List α} {F:Nat->Nat->Prop} (t:Tp E iso mn mx P h w lo b xs F):Tr E iso mn mx h w lo b xs F:=by
 cases h with
 | zero=>exact t
 | succ h =>
  obtain ⟨bi,oi,cap,bc,ba,oa,capc,ks,cs,ho,n,h1,h2,_,_⟩:=t
  exact n.tr ho h1 h2
theorem weave_in:∀ (cs:List (List α)) (ks:List α) (x:α),(x ∈ ks/\ks.length<cs.length)\/(∃ c ∈ cs,x ∈ c/\cs.length=ks.length+1)->x ∈ weave cs ks
 | [],ks,x,h=>by
  rcases h with ⟨_,h⟩ | ⟨c,hc,_⟩
  ·simp at h
  ·simp at hc
 | c::cs,[],x,h=>by
  rcases h with ⟨h,_⟩ | ⟨d,hd,hx,hl⟩
  ·simp at h
  ·have:cs=[]:=List.eq_nil_of_length_eq_zero (by simpa using hl)
   subst this
   have:d=c:=by simpa using hd
   subst this
   simpa [weave] using hx
 | c::cs,k::ks,x,h=>by
  rw [weave_cons]
  rcases h with ⟨h,hl⟩ | ⟨d,hd,hx,hl⟩
  ·rcases List.mem_cons.1 h with rfl | h
   ·simp
   ·have:=weave_in cs ks x (.inl ⟨h,by simpa using hl⟩)
    simp [this]
  ·rcases List.mem_cons.1 hd with rfl | hd
   ·simp [hx]
   ·have:=weave_in cs ks x (.inr ⟨d,hd,hx,by simpa using hl⟩)
    simp [this]
theorem Inn.mem {h b:Nat} {w:World} {xs:List α} {F:Nat->Nat->Prop} {bi oi cap:Nat} {ks:List α} {bc ba oa capc:Nat} {cs:List (Kid α)} (n:Inn E iso mn mx h w b xs F bi oi cap ks bc ba oa capc cs) :
  (∀ x ∈ ks,x ∈ xs)/\∀ c ∈ cs,∀ x ∈ c.xs,x ∈ xs:=by
 have hl:=n.len
 refine ⟨fun x hx=>?_,fun c hc x hx=>?_⟩
 ·rw [n.eq];exact weave_in _ _ _ (.inl ⟨hx,by rw [List.length_map];omega⟩)
 ·rw [n.eq];exact weave_in _ _ _ (.inr ⟨c.xs,List.mem_map.2 ⟨c,hc,rfl⟩,hx,by rw [List.length_map];exact hl⟩)
theorem Tp.of:∀ {h lo b:Nat} {w:World} {xs:List α} {F:Nat->Nat->Prop},Tr E iso mn mx h w lo b xs F->(∀ x ∈ xs,∀ S,(∀ s ∈ S,s ∈ xs)->P x S)->Tp E iso mn mx P h w lo b xs F
 | 0,_,_,_,_,_,t,_=>t
 | h+1,lo,b,w,xs,F,t,hx=>by
  obtain ⟨bi,oi,cap,bc,ba,oa,capc,ks,cs,ho,hk,h1,h2,h3,h4,hT,hA,hF⟩:=t
  have n:Inn E iso mn mx h w b xs F bi oi cap ks bc ba oa capc cs:=⟨hk,h3,h4,hT,hA,hF⟩
  obtain ⟨m1,m2⟩:=n.mem
  refine ⟨bi,oi,cap,bc,ba,oa,capc,ks,cs,ho,n,h1,h2,fun c hc=>Tp.of (hT c hc) fun x hxc S hS=>hx x (m2 c hc x hxc) S fun s hs=>m2 c hc s (hS s hs),fun i k d e1 e2=>?_⟩
  rw [List.getElem?_map] at e2
  obtain ⟨c,hc,rfl⟩:=Option.map_eq_some_iff.1 e2
  exact hx k (m1 k (List.mem_of_getElem? e1)) _ fun s hs=>m2 c (List.mem_of_getElem? hc) s hs
theorem Tp.imp {Q:α->List α->Prop}:∀ {h lo b:Nat} {w:World} {xs:List α} {F:Nat->Nat->Prop},Tp E iso mn mx P h w lo b xs F->(∀ x ∈ xs,∀ S,(∀ s ∈ S,s ∈ xs)->P x S->Q x S)->Tp E iso mn mx Q h w lo b xs F
 | 0,_,_,_,_,_,t,_=>t
 | h+1,lo,b,w,xs,F,t,hx=>by
  obtain ⟨bi,oi,cap,bc,ba,oa,capc,ks,cs,ho,n,h1,h2,hT,hN⟩:=t
  obtain ⟨m1,m2⟩:=n.mem
  refine ⟨bi,oi,cap,bc,ba,oa,capc,ks,cs,ho,n,h1,h2,fun c hc=>Tp.imp (hT c hc) fun x hxc S hS=>hx x (m2 c hc x hxc) S fun s hs=>m2 c hc s (hS s hs),hN.imp fun i k d e1 e2=>?_⟩
  rw [List.getElem?_map] at e2
  obtain ⟨c,hc,rfl⟩:=Option.map_eq_some_iff.1 e2
  exact hx k (m1 k (List.mem_of_getElem? e1)) _ fun s hs=>m2 c (List.mem_of_getElem? hc) s hs
theorem Tp.ext {w w':World} {G:Nat->Nat->Prop} (hx:Ext G w w'):∀ {h lo b:Nat} {xs:List α} {F:Nat->Nat->Prop},Tp E iso mn mx P h w lo b xs F->(∀ x o,F x o->¬ G x o)->Tp E iso mn mx P h w' lo b xs F
 | 0,_,_,_,_,t,hG=>Tr.ext (mn:=mn) (h:=0) hx t hG
 | h+1,_,_,_,_,⟨bi,oi,cap,bc,ba,oa,capc,ks,cs,ho,n,h1,h2,hT,hN⟩,hG =>
  ⟨bi,oi,cap,bc,ba,oa,capc,ks,cs,ho.ext hx fun x o g=>hG x o ((n.fp x o).2 (.inl g)),n.ext hx (fun x o g=>hG x o ((n.fp x o).2 (.inr (.inl g)))) fun c hc x o g=>hG x o ((n.fp x o).2 (.inr (.inr ⟨c,hc,g⟩))),h1,h2,
   fun c hc=>Tp.ext hx (hT c hc) fun x o g=>hG x o ((n.fp x o).2 (.inr (.inr ⟨c,hc,g⟩))),hN⟩
theorem Tp.mono {w:World} {h lo lo' b:Nat} {xs:List α} {F:Nat->Nat->Prop} (t:Tp E iso mn mx P h w lo b xs F) (hl:lo'<=lo):Tp E iso mn mx P h w lo' b xs F:=by
 cases h with
 | zero=>exact Tr.mono (mn:=mn) (h:=0) t hl
 | succ h =>
  obtain ⟨bi,oi,cap,bc,ba,oa,capc,ks,cs,ho,n,h1,h2,h3⟩:=t
  exact ⟨bi,oi,cap,bc,ba,oa,capc,ks,cs,ho,n,Nat.le_trans hl h1,h2,h3⟩
theorem Tp.lt {w:World} {h lo b:Nat} {xs:List α} {F:Nat->Nat->Prop} (t:Tp E iso mn mx P h w lo b xs F):∀ x o,F x o->x<w.heap.size:=t.tr.lt
theorem Tp.keys {w:World} {h lo b:Nat} {xs:List α} {F:Nat->Nat->Prop} (t:Tp E iso mn mx P h w lo b xs F) :
  ∃ a n cap,rd w b 2=some (.slice (some a) n cap)/\lo<=n/\n<=mx/\∀ lo',lo'<=n->Tp E iso mn mx P h w lo' b xs F:=by
 cases h with
 | zero =>
  obtain ⟨bi,oi,cap,ho,h1,h2,hF⟩:=t
  exact ⟨_,_,_,ho.h2,h1,h2,fun lo' hl=>⟨bi,oi,cap,ho,hl,h2,hF⟩⟩
 | succ h =>
  obtain ⟨bi,oi,cap,bc,ba,oa,capc,ks,cs,ho,n,h1,h2,h3⟩:=t
  exact ⟨_,_,_,ho.h2,h1,h2,fun lo' hl=>⟨bi,oi,cap,bc,ba,oa,capc,ks,cs,ho,n,hl,h2,h3⟩⟩
theorem Tp.open {h:Nat} {w:World} {lo b:Nat} {xs:List α} {F:Nat->Nat->Prop} (ht:Tp E iso mn mx P h w lo b xs F) :
  ∃ bi oi cap ks ch,Own E w b iso xs.length bi oi cap ks ch/\lo<=ks.length/\ks.length<=mx/\(∀ x o,ownF E b bi oi cap x o->F x o) ∧
   ((h=0/\ch = .pointer none/\xs=ks/\∀ x o,F x o ↔ ownF E b bi oi cap x o) ∨
    (∃ h' bc ba oa capc cs,h=h'+1/\ch=ptr bc/\Inn E iso mn mx h' w b xs F bi oi cap ks bc ba oa capc cs/\(∀ c ∈ cs,Tp E iso mn mx P h' w mn c.b c.xs c.F)/\NP P (cs.map Kid.xs) ks)):=by
 cases h with
 | zero =>
  obtain ⟨bi,oi,cap,ho,h1,h2,hF⟩:=ht
  exact ⟨bi,oi,cap,xs,_,ho,h1,h2,fun x o g=>(hF x o).2 g,.inl ⟨rfl,rfl,rfl,hF⟩⟩
 | succ h =>
  obtain ⟨bi,oi,cap,bc,ba,oa,capc,ks,cs,ho,n,h1,h2,hT,hN⟩:=ht
  exact ⟨bi,oi,cap,ks,_,ho,h1,h2,fun x o g=>(n.fp x o).2 (.inl g),.inr ⟨h,bc,ba,oa,capc,cs,rfl,rfl,n,hT,hN⟩⟩
def KinP (E:Enc α) (iso:Int) (mn mx:Nat) (P:α->List α->Prop) (h:Nat) (w:World) (ch:Value) (ps:List (Option Nat)) (ks xs:List α) (gs:List (Kid α)):Prop :=
 Kin E iso mn mx h w ch ps ks xs gs/\(∀ c ∈ gs,∀ h',h=h'+1->Tp E iso mn mx P h' w mn c.b c.xs c.F)/\NP P (gs.map Kid.xs) ks
theorem Tp.split {h:Nat} {w:World} {lo b:Nat} {xs:List α} {F:Nat->Nat->Prop} (ht:Tp E iso mn mx P h w lo b xs F) :
  ∃ F1 F4 K1 K4 ks ch ps gs,(ndO E iso 0 b xs.length ks ch).p w F1 K1/\(kdO ch ps).p w F4 K4/\KinP E iso mn mx P h w ch ps ks xs gs/\lo<=ks.length/\ks.length<=mx/\Lay F1 F4 K1 K4 gs/\∀ y o,F y o ↔ F1 y o\/F4 y o\/kinF gs y o:=by
 cases h with
 | zero =>
  obtain ⟨F1,F4,K1,K4,ks,ch,ps,gs,a1,a2,a3,a4⟩:=Tr.split (h:=0) ht
  refine ⟨F1,F4,K1,K4,ks,ch,ps,gs,a1,a2,⟨a3,fun c _ h' hh=>by omega,fun i k d e1 e2=>?_⟩,a4⟩
  rcases a3 with ⟨_,_,_,rfl,_⟩ | ⟨_,hh,_⟩
  ·simp at e2
  ·omega
 | succ h =>
  obtain ⟨bi,oi,cap,bc,ba,oa,capc,ks,cs,ho,n,h1,h2,hT,hN⟩:=ht
  have hps:cs.map (fun g=>some g.b)=(cs.map Kid.b).map some:=by rw [List.map_map];rfl
  refine ⟨ownF E b bi oi cap,kidF bc ba oa capc,bi,ba,ks,_,cs.map (fun g=>some g.b),cs,⟨bi,oi,cap,ho,Nat.zero_le _,rfl,fun _ _=>Iff.rfl⟩,.inr ⟨bc,ba,oa,capc,rfl,by rw [hps];exact n.kids.se,rfl,fun _ _=>Iff.rfl⟩,
   ⟨.inr ⟨h,rfl,⟨bc,rfl⟩,rfl,n.len,n.eq,n.sub⟩,fun c hc h' hh=>by cases hh;exact hT c hc,hN⟩,h1,h2,⟨fun y o g k=>?_,n.ap.own,n.ap.kid,n.ap.two,n.ap.ia⟩,n.fp⟩
  have:=n.ap.cb;have:=n.ap.ab;have:=n.ap.ic;have:=n.ap.ia
  simp only [ownF,kidF,rng] at g k
  omega
theorem Tp.join {h:Nat} {w:World} {lo z b:Nat} {cnt:Int} {ks xs:List α} {ch:Value} {ps:List (Option Nat)} {gs:List (Kid α)} {F1 F4:Nat->Nat->Prop} {K1 K4:Nat} (h1:(ndO E iso z b cnt ks ch).p w F1 K1) (h4:(kdO ch ps).p w F4 K4)
  (nP:KinP E iso mn mx P h w ch ps ks xs gs) (hlo:lo<=ks.length) (hmx:ks.length<=mx) (hz:0<ks.length\/1<=z) (l:Lay F1 F4 K1 K4 gs) (hcnt:cnt=xs.length):Tp E iso mn mx P h w lo b xs fun y o=>F1 y o\/F4 y o\/kinF gs y o:=by
 obtain ⟨n,nT,nN⟩:=nP
 cases h with
 | zero=>exact Tr.join (h:=0) h1 h4 n hlo hmx hz l hcnt
 | succ h =>
  subst hcnt
  obtain ⟨bi,oi,cap,ho,hzc,rfl,hF1⟩:=h1
  rcases n with ⟨h0,_⟩ | ⟨h',hh,⟨c,rfl⟩,rfl,g3,g4,g5⟩
  ·cases h0
  ·obtain rfl:h=h':=by omega
   rcases h4 with ⟨hc,_⟩ | ⟨bc,ba,oa,capc,hc,se,rfl,hF4⟩
   ·cases hc
   ·obtain rfl:c=bc:=by simpa [ptr] using hc
    have hps:gs.map (fun g=>some g.b)=(gs.map Kid.b).map some:=by rw [List.map_map];rfl
    rw [hps] at se
    have hk:=se.kids
    have hle:=hk.le
    rw [List.length_map] at hle
    have hcap:0<cap:=by have:=ho.le;omega
    have hsz:=Nat.mul_le_mul_right E.sz hcap
    have hE:=E.pos
    refine ⟨K1,oi,cap,c,K4,oa,capc,ks,gs,ho,⟨hk,g3,g4,g5,⟨fun hb=>?_,fun hb=>?_,fun hb=>?_,l.r,fun d hd y o g k=>l.g1 d hd y o g ((hF1 _ _).2 k),fun d hd y o g k=>l.g4 d hd y o g ((hF4 _ _).2 k),l.two⟩,fun y o=>?_⟩,hlo,hmx,fun c hc=>nT c hc h rfl,nN⟩
    ·subst hb;exact l.d c 0 ((hF1 _ _).2 (.inl rfl)) ((hF4 _ _).2 (.inl rfl))
    ·subst hb;exact l.d K4 oa ((hF1 _ _).2 (.inl rfl)) ((hF4 _ _).2 (.inr ⟨rfl,by omega,by omega⟩))
    ·subst hb;exact l.d K1 oi ((hF1 _ _).2 (.inr ⟨rfl,by omega,by omega⟩)) ((hF4 _ _).2 (.inl rfl))
    ·show F1 y o\/F4 y o\/kinF gs y o ↔ _
     rw [hF1,hF4];rfl
theorem KinP.ext {h:Nat} {w w':World} {ch:Value} {ps:List (Option Nat)} {ks xs:List α} {gs:List (Kid α)} {G:Nat->Nat->Prop} (n:KinP E iso mn mx P h w ch ps ks xs gs) (x:Ext G w w') (hG:∀ c ∈ gs,Dj c.F G):KinP E iso mn mx P h w' ch ps ks xs gs :=
 ⟨n.1.ext x hG,fun c hc h' hh=>(n.2.1 c hc h' hh).ext x (hG c hc),n.2.2⟩
def Anti (P:α->List α->Prop):Prop:=∀ k S S',P k S->(∀ s ∈ S',s ∈ S)->P k S'
theorem KinP.merge (hA:Anti P) {h:Nat} {w:World} {ch1 ch2:Value} {p1 p2:List (Option Nat)} {k1 k2 x1 x2:List α} {g1 g2:List (Kid α)} {k:α} (a:KinP E iso mn mx P h w ch1 p1 k1 x1 g1) (b:KinP E iso mn mx P h w ch2 p2 k2 x2 g2) (hk:P k x2) :
  KinP E iso mn mx P h w ch1 (p1++p2) (k1++k::k2) (x1++k::x2) (g1++g2):=by
 refine ⟨a.1.merge b.1,fun c hc h' hh=>?_,?_⟩
 ·rcases List.mem_append.1 hc with hc | hc
  ·exact a.2.1 c hc h' hh
  ·exact b.2.1 c hc h' hh
 ·rcases a.1 with ⟨h0,_,_,ha,_⟩ | ⟨h',hh,_,_,hl,_⟩
  ·rcases b.1 with ⟨_,_,_,hb,_⟩ | ⟨_,h1,_⟩
   ·subst ha hb;intro i k d e1 e2;simp at e2
   ·omega
  ·rw [List.map_append]
   refine a.2.2.cat b.2.2 (by rw [List.length_map];exact hl) fun d hd=>?_
   rcases b.1 with ⟨h1,_⟩ | ⟨_,_,_,_,hl2,hx,_⟩
   ·omega
   ·refine hA k x2 d hk fun s hs=>?_
    rw [hx]
    exact weave_in _ _ _ (.inr ⟨d,List.mem_of_getElem? hd,hs,by rw [List.length_map];exact hl2⟩)
theorem KinP.right (hA:Anti P) {h:Nat} {w:World} {ch1 ch2:Value} {p1 p2:List (Option Nat)} {ls k2 x1 x2:List α} {g1 g2:List (Kid α)} {k x:α} (a:KinP E iso mn mx P h w ch1 p1 (ls++[x]) x1 g1) (b:KinP E iso mn mx P h w ch2 p2 k2 x2 g2) (hk:P k x2) :
  ∃ cg x1' x2' gl gr,KinP E iso mn mx P h w ch1 p1.dropLast ls x1' gl/\KinP E iso mn mx P h w ch2 (p1.drop (p1.length-1)++p2) (k::k2) x2' gr/\x1++k::x2=x1'++x::x2'/\gl++gr=g1++g2/\(∀ s ∈ x1',s ∈ x1)/\x ∈ x1 ∧
   x1'.length=x1.length-1-cg/\x2'.length=x2.length+1+cg/\1+cg<=x1.length/\((p1=[]/\cg=0)\/∃ c p',p1=p'++[some c.b]/\c ∈ g1/\rd w c.b 1=some (.int .i64 (cg:Nat))/\∀ o,c.F c.b o):=by
 obtain ⟨a0,aT,aN⟩:=a
 obtain ⟨b0,bT,bN⟩:=b
 rcases a0 with ⟨h0,ha,rfl,rfl,rfl⟩ | ⟨h',rfl,ha,rfl,a3,rfl,a5⟩
 ·rcases b0 with ⟨_,hb,rfl,rfl,rfl⟩ | ⟨h',h1,_⟩
  ·exact ⟨0,ls,k::x2,[],[],⟨.inl ⟨h0,ha,rfl,rfl,rfl⟩,fun _ hc=>(by cases hc),fun _ _ _ _ e=>(by simp at e)⟩,⟨.inl ⟨h0,hb,rfl,rfl,rfl⟩,fun _ hc=>(by cases hc),fun _ _ _ _ e=>(by simp at e)⟩,by simp,rfl,fun s hs=>by simp [hs],by simp,by simp,by simp,by simp,.inl ⟨rfl,rfl⟩⟩
  ·omega
 ·rcases b0 with ⟨h1,_⟩ | ⟨h2,h1,hb,rfl,b3,rfl,b5⟩
  ·omega
  ·obtain rfl:h'=h2:=by omega
   rw [List.length_append,List.length_singleton] at a3
   obtain ⟨gl,g,rfl⟩:∃ gl g,g1=gl++[g]:=⟨g1.dropLast,g1.getLast (by intro h;rw [h] at a3;simp at a3),(List.dropLast_concat_getLast _).symm⟩
   rw [List.length_append,List.length_singleton] at a3
   have hw:weave ((gl++[g]).map Kid.xs) (ls++[x])=weave (gl.map Kid.xs) ls++x::g.xs:=by
    rw [List.map_append,weave_cat _ _ _ _ _ (by simp;omega)];rfl
   rw [List.map_append] at aN
   obtain ⟨e0,er,he⟩:∃ e er,g2=e::er:=by
    cases g2 with
    | nil=>simp at b3
    | cons e er=>exact ⟨e,er,rfl⟩
   refine ⟨g.xs.length,weave (gl.map Kid.xs) ls,g.xs++k::weave (g2.map Kid.xs) k2,gl,g::g2,⟨.inr ⟨h',rfl,ha,by simp,by omega,rfl,fun c hc=>a5 c (by simp [hc])⟩,fun c hc=>aT c (by simp [hc]),aN.left (by rw [List.length_map];omega)⟩,
    ⟨.inr ⟨h',rfl,hb,by simp,by simp;omega,by simp [weave_cons],fun c hc=>?_⟩,fun c hc=>?_,?_⟩,
    by rw [hw];simp,by simp,fun s hs=>by rw [hw];simp [hs],by rw [hw];simp,by rw [hw];simp<;>omega,by simp<;>omega,by rw [hw];simp<;>omega,.inr ⟨g,gl.map fun g=>some g.b,by simp,by simp,(a5 g (by simp)).cnt',(a5 g (by simp)).self⟩⟩
   ·rcases List.mem_cons.1 hc with rfl | hc
    ·exact a5 _ (by simp)
    ·exact b5 c hc
   ·rcases List.mem_cons.1 hc with rfl | hc
    ·exact aT _ (by simp)
    ·exact bT c hc
   ·subst he
    rw [List.map_cons,List.map_cons]
    refine NP.cons (hA k _ _ hk fun s hs=>weave_in _ _ _ (.inr ⟨e0.xs,by simp,hs,by rw [List.length_map];exact b3⟩)) ?_
    rw [<-List.map_cons];exact bN
theorem KinP.left (hA:Anti P) {h:Nat} {w:World} {ch1 ch2:Value} {p1 p2:List (Option Nat)} {k1 rs x1 x2:List α} {g1 g2:List (Kid α)} {k x:α} (a:KinP E iso mn mx P h w ch1 p1 k1 x1 g1) (b:KinP E iso mn mx P h w ch2 p2 (x::rs) x2 g2) (hk:P k x2) :
  ∃ cg x1' x2' gl gr,KinP E iso mn mx P h w ch1 (p1++p2.take 1) (k1++[k]) x1' gl/\KinP E iso mn mx P h w ch2 (p2.drop 1) rs x2' gr/\x1++k::x2=x1'++x::x2'/\gl++gr=g1++g2/\(∃ l,x2=l++x::x2') ∧
   x1'.length=x1.length+1+cg/\x2'.length=x2.length-1-cg/\1+cg<=x2.length/\((p2=[]/\cg=0)\/∃ c p',p2=some c.b::p'/\c ∈ g2/\rd w c.b 1=some (.int .i64 (cg:Nat))/\∀ o,c.F c.b o):=by
 obtain ⟨a0,aT,aN⟩:=a
 obtain ⟨b0,bT,bN⟩:=b
 rcases a0 with ⟨h0,ha,rfl,rfl,rfl⟩ | ⟨h',rfl,ha,rfl,a3,rfl,a5⟩
 ·rcases b0 with ⟨_,hb,rfl,rfl,rfl⟩ | ⟨h',h1,_⟩
  ·exact ⟨0,x1++[k],rs,[],[],⟨.inl ⟨h0,ha,rfl,rfl,rfl⟩,fun _ hc=>(by cases hc),fun _ _ _ _ e=>(by simp at e)⟩,⟨.inl ⟨h0,hb,rfl,rfl,rfl⟩,fun _ hc=>(by cases hc),fun _ _ _ _ e=>(by simp at e)⟩,by simp,rfl,⟨[],rfl⟩,by simp,by simp,by simp,.inl ⟨rfl,rfl⟩⟩
  ·omega
 ·rcases b0 with ⟨h1,_⟩ | ⟨h2,h1,hb,rfl,b3,rfl,b5⟩
  ·omega
  ·obtain rfl:h'=h2:=by omega
   rw [List.length_cons] at b3
   obtain ⟨g,gr,rfl⟩:∃ g gr,g2=g::gr:=by
    cases g2 with
    | nil=>simp at b3
    | cons g gr=>exact ⟨g,gr,rfl⟩
   rw [List.length_cons] at b3
   have hw:weave ((g::gr).map Kid.xs) (x::rs)=g.xs++x::weave (gr.map Kid.xs) rs:=by rw [List.map_cons,weave_cons]
   have hv:weave ((g1++[g]).map Kid.xs) (k1++[k])=weave (g1.map Kid.xs) k1++k::g.xs:=by
    rw [List.map_append,weave_cat _ _ _ _ _ (by simpa using a3)];rfl
   refine ⟨g.xs.length,weave (g1.map Kid.xs) k1++k::g.xs,weave (gr.map Kid.xs) rs,g1++[g],gr,⟨.inr ⟨h',rfl,ha,by simp,by simp;omega,hv.symm,fun c hc=>?_⟩,fun c hc=>?_,?_⟩,⟨.inr ⟨h',rfl,hb,by simp,by omega,rfl,fun c hc=>b5 c (by simp [hc])⟩,fun c hc=>bT c (by simp [hc]),by rw [List.map_cons] at bN;exact bN.tail⟩,
    by rw [hw];simp,by simp,⟨g.xs,hw⟩,by simp<;>omega,by rw [hw];simp<;>omega,by rw [hw];simp<;>omega,.inr ⟨g,gr.map fun g=>some g.b,by simp,by simp,(b5 g (by simp)).cnt',(b5 g (by simp)).self⟩⟩
   ·rcases List.mem_append.1 hc with hc | hc
    ·exact a5 c hc
    ·have:c=g:=by simpa using hc
     subst this;exact b5 _ (by simp)
   ·rcases List.mem_append.1 hc with hc | hc
    ·exact aT c hc
    ·have:c=g:=by simpa using hc
     subst this;exact bT _ (by simp)
   ·rw [List.map_append]
    refine aN.cat (k2:=[]) (fun i k d e1=>by simp at e1) (by rw [List.length_map];exact a3) fun d hd=>?_
    simp at hd;subst hd
    exact hA k _ _ hk fun s hs=>by rw [hw];simp [hs]
end
end Go.Proofs.Ytbnnkcofnmipoaa
namespace Go.Proofs.Ytbnnkcofnmipoaa
open Go
section
variable {α:Type}
inductive Way (E:Enc α) (iso:Int) (mn mx:Nat) (w:World) (H lo0 root:Nat) (X:List α) (F0:Nat->Nat->Prop):List (Nat × Int)->Nat->Nat->Nat->List α->(Nat->Nat->Prop)->Nat->Prop
 | root:Way E iso mn mx w H lo0 root X F0 [] H lo0 root X F0 0
 | down {st:List (Nat × Int)} {h lo b:Nat} {xs:List α} {Fb:Nat->Nat->Prop} {off bi oi cap:Nat} {ks:List α} {bc ba oa capc:Nat} {cs:List (Kid α)} {i:Nat} {c:Kid α} (hw:Way E iso mn mx w H lo0 root X F0 st (h+1) lo b xs Fb off)
   (ho:Own E w b iso xs.length bi oi cap ks (ptr bc)) (n:Inn E iso mn mx h w b xs Fb bi oi cap ks bc ba oa capc cs) (hc:cs[i]? = some c) :
   Way E iso mn mx w H lo0 root X F0 (st++[(b,(i:Int))]) h mn c.b c.xs c.F (off+(fr (cs.map Kid.xs) ks i).length)
variable {E:Enc α} {iso:Int} {mn mx:Nat} {w:World} {H lo0 root:Nat} {X:List α} {F0:Nat->Nat->Prop}
theorem Kid.at {cs:List (Kid α)} {i:Nat} {c:Kid α} (hc:cs[i]? = some c):(cs.map Kid.xs)[i]? = some c.xs:=by rw [List.getElem?_map,hc];rfl
theorem Inn.le {h b bi oi cap bc ba oa capc:Nat} {xs ks:List α} {F:Nat->Nat->Prop} {cs:List (Kid α)} (n:Inn E iso mn mx h w b xs F bi oi cap ks bc ba oa capc cs) {i:Nat} {c:Kid α} (hc:cs[i]? = some c):i<=ks.length:=by
 have:=(List.getElem?_eq_some_iff.1 hc).1
 have:=n.len
 omega
theorem Inn.xs {h b bi oi cap bc ba oa capc:Nat} {xs ks:List α} {F:Nat->Nat->Prop} {cs:List (Kid α)} (n:Inn E iso mn mx h w b xs F bi oi cap ks bc ba oa capc cs) {i:Nat} {c:Kid α} (hc:cs[i]? = some c) :
  xs=fr (cs.map Kid.xs) ks i++c.xs++tl (cs.map Kid.xs) ks i:=by
 rw [n.eq]
 exact fr_mid i _ _ _ (by simpa using n.len) (n.le hc) (Kid.at hc)
theorem Inn.kid {h b bi oi cap bc ba oa capc:Nat} {xs ks:List α} {F:Nat->Nat->Prop} {cs:List (Kid α)} (n:Inn E iso mn mx h w b xs F bi oi cap ks bc ba oa capc cs) {i:Nat} (hi:i<=ks.length):∃ c,cs[i]? = some c :=
 ⟨_,List.getElem?_eq_getElem (by have:=n.len;omega)⟩
def Cur (E:Enc α) (iso:Int) (mn mx:Nat) (w:World) (H lo0 root:Nat) (X:List α) (F0:Nat->Nat->Prop) (full:List (Nat × Int)) (p:Nat):Prop :=
 ∃ st b h lo off xs Fb,∃ j:Nat,full=st++[(b,(j:Int))]/\Way E iso mn mx w H lo0 root X F0 st h lo b xs Fb off ∧
  ((h=0/\j<xs.length/\p=off+j) ∨
   ∃ h' bi oi cap ks bc ba oa capc cs c,h=h'+1/\Own E w b iso xs.length bi oi cap ks (ptr bc)/\Inn E iso mn mx h' w b xs Fb bi oi cap ks bc ba oa capc cs/\cs[j]? = some c/\j<ks.length/\p=off+(fr (cs.map Kid.xs) ks j).length+c.xs.length)
def NxAt (E:Enc α) (iso:Int) (mn mx:Nat) (w:World) (H lo0 root:Nat) (X:List α) (F0:Nat->Nat->Prop) (full:List (Nat × Int)) (q:Nat):Prop :=
 ∃ st b h lo off xs Fb,∃ j:Nat,full=st++[(b,(j:Int)-1)]/\Way E iso mn mx w H lo0 root X F0 st h lo b xs Fb off ∧
  ((h=0/\j<=xs.length/\q=off+j) ∨
   ∃ h' bi oi cap ks bc ba oa capc cs c,h=h'+1/\Own E w b iso xs.length bi oi cap ks (ptr bc)/\Inn E iso mn mx h' w b xs Fb bi oi cap ks bc ba oa capc cs/\cs[j]? = some c/\q=off+(fr (cs.map Kid.xs) ks j).length)
end
end Go.Proofs.Ytbnnkcofnmipoaa
namespace Go.Proofs.Ytbnnkcofnmipoaa
open Go
variable {α:Type} {E:Enc α} {iso:Int} {mn mx:Nat}
def selKid (sel:Nat->Nat) (w:World) (b c:Nat):Prop :=
 ∃ bc ba oa n cap,rd w b 3=some (ptr bc)/\rd w bc 0=some (.slice (some ⟨ba,oa,none⟩) n cap)/\rd w ba (oa+sel n)=some (ptr c)
def RS (sel:Nat->Nat) (w:World):Nat->Nat->Nat->Prop
 | 0,b,y=>y=b
 | h+1,b,y=>y=b\/∃ c,selKid sel w b c/\RS sel w h c y
structure Shift (δ:Int) (w0 w':World) (D:Nat->Prop):Prop where
 ext:Ext (fun y o=>o=1/\D y) w0 w'
 cnt:∀ y,D y->∃ k:Int,rd w0 y 1=some (.int .i64 k)/\rd w' y 1=some (.int .i64 (k+δ))
theorem Shift.nil (δ:Int) (w:World):Shift δ w w fun _=>False:=⟨Ext.refl _ _,fun _ h=>h.elim⟩
theorem Shift.congr {δ:Int} {w0 w1:World} {D D':Nat->Prop} (h:Shift δ w0 w1 D) (hd:∀ y,D' y ↔ D y):Shift δ w0 w1 D' :=
 ⟨h.ext.mono fun y o _ g=>⟨g.1,(hd y).2 g.2⟩,fun y hy=>h.cnt y ((hd y).1 hy)⟩
theorem Shift.add {δ:Int} {w0 w1 w2:World} {D:Nat->Prop} (h:Shift δ w0 w1 D) {b:Nat} {k:Int} (hD:¬ D b) (h0:rd w0 b 1=some (.int .i64 k)) (x:Ext (rng b 1 1) w1 w2) (h2:rd w2 b 1=some (.int .i64 (k+δ))) :
  Shift δ w0 w2 fun y=>D y\/y=b:=by
 refine ⟨(h.ext.mono fun y o _ g=>⟨g.1,.inl g.2⟩).trans x (fun _ _ g=>g) fun y o _ g=>?_,fun y hy=>?_⟩
 ·simp only [rng] at g;exact ⟨by omega,.inr g.1⟩
 ·rcases hy with hy | rfl
  ·obtain ⟨k',g1,g2⟩:=h.cnt y hy
   exact ⟨k',g1,x.rd g2 fun g=>hD (by simp only [rng] at g;rw [<-g.1];exact hy)⟩
  ·exact ⟨k,h0,h2⟩
def Hole (E:Enc α) (iso:Int) (mn mx H lo0 root:Nat) (F:Nat->Nat->Prop) (S:Nat) (w:World) (h lo b:Nat) (ys:List α) (Fb:Nat->Nat->Prop) (A C:List α) (δ:Int):Prop :=
 ∀ (w2:World) (ys':List α) (Fb':Nat->Nat->Prop),Ext Fb w w2->Tr E iso mn mx h w2 lo b ys' Fb'->(∀ y o,Fb' y o->Fb y o\/w.heap.size<=y)->(ys'.length:Int)=ys.length+δ →
  ∃ F',Tr E iso mn mx H w2 lo0 root (A++ys'++C) F'/\∀ y o,F' y o->F y o\/S<=y
end Go.Proofs.Ytbnnkcofnmipoaa
namespace Go.Proofs.Ytbnnkcofnmipoaa
open Go
section
variable {α:Type} {E:Enc α} {iso:Int} {mn mx:Nat} {w:World} {H lo0 root:Nat} {X:List α} {F0:Nat->Nat->Prop}
theorem kidb_set {cs:List (Kid α)} {i:Nat} {c c':Kid α} (hc:cs[i]? = some c) (hF:c'.b=c.b):(cs.set i c').map Kid.b=cs.map Kid.b:=by
 rw [List.map_set,hF]
 have:(cs.map Kid.b)[i]? = some c.b:=by rw [List.getElem?_map,hc];rfl
 obtain ⟨g1,g2⟩:=List.getElem?_eq_some_iff.1 this
 rw [<-g2];exact List.set_getElem_self g1
theorem mem_set_or {cs:List (Kid α)} {i:Nat} {c' d:Kid α} (h:d ∈ cs.set i c'):d=c'\/∃ j,j ≠ i/\cs[j]? = some d:=by
 obtain ⟨j,hj⟩:=List.getElem?_of_mem h
 rw [List.getElem?_set] at hj
 by_cases hij:i=j
 ·rw [if_pos hij] at hj
  split at hj
  ·cases hj;exact .inl rfl
  ·cases hj
 ·rw [if_neg hij] at hj;exact .inr ⟨j,fun h=>hij h.symm,hj⟩
end
end Go.Proofs.Ytbnnkcofnmipoaa
namespace Go.Proofs.Ytbnnkcofnmipoaa
open Go
section
variable {α:Type}
inductive Wp (E:Enc α) (iso:Int) (mn mx:Nat) (P:α->List α->Prop) (w:World) (H lo0 root:Nat) (X:List α) (F0:Nat->Nat->Prop):List (Nat × Nat)->Nat->Nat->Nat->List α->(Nat->Nat->Prop)->List α->List α->Prop
 | root:Wp E iso mn mx P w H lo0 root X F0 [(root,0)] H lo0 root X F0 [] []
 | down {L:List (Nat × Nat)} {h lo b:Nat} {xs:List α} {Fb:Nat->Nat->Prop} {A C:List α} {bi oi cap:Nat} {ks:List α} {bc ba oa capc:Nat} {cs:List (Kid α)} {i:Nat} {c:Kid α} (hw:Wp E iso mn mx P w H lo0 root X F0 L (h+1) lo b xs Fb A C)
   (ho:Own E w b iso xs.length bi oi cap ks (ptr bc)) (n:Inn E iso mn mx h w b xs Fb bi oi cap ks bc ba oa capc cs) (h1:lo<=ks.length) (h2:ks.length<=mx) (hT:∀ c ∈ cs,Tp E iso mn mx P h w mn c.b c.xs c.F) (hN:NP P (cs.map Kid.xs) ks) (hc:cs[i]? = some c) :
   Wp E iso mn mx P w H lo0 root X F0 (L++[(c.b,i)]) h mn c.b c.xs c.F (A++fr (cs.map Kid.xs) ks i) (tl (cs.map Kid.xs) ks i++C)
variable {E:Enc α} {iso:Int} {mn mx:Nat} {P:α->List α->Prop} {w:World} {H lo0 root:Nat} {X:List α} {F0:Nat->Nat->Prop} {L:List (Nat × Nat)} {h lo b:Nat} {xs:List α} {Fb:Nat->Nat->Prop} {A C:List α}
theorem Wp.tp (ht:Tp E iso mn mx P H w lo0 root X F0) (hw:Wp E iso mn mx P w H lo0 root X F0 L h lo b xs Fb A C):Tp E iso mn mx P h w lo b xs Fb:=by
 cases hw with
 | root=>exact ht
 | down hw ho n h1 h2 hT hN hc=>exact hT _ (List.mem_of_getElem? hc)
theorem Wp.sub (hw:Wp E iso mn mx P w H lo0 root X F0 L h lo b xs Fb A C):∀ y o,Fb y o->F0 y o:=by
 induction hw with
 | root=>exact fun _ _ h=>h
 | down hw ho n h1 h2 hT hN hc ih=>exact fun y o g=>ih y o ((n.fp y o).2 (.inr (.inr ⟨_,List.mem_of_getElem? hc,g⟩)))
theorem Wp.at (hw:Wp E iso mn mx P w H lo0 root X F0 L h lo b xs Fb A C):X=A++xs++C:=by
 induction hw with
 | root=>simp
 | down hw ho n h1 h2 hT hN hc ih =>
  rw [ih];conv=>lhs;rw [n.xs hc]
  simp only [List.append_assoc]
theorem Wp.len (hw:Wp E iso mn mx P w H lo0 root X F0 L h lo b xs Fb A C):L.length+h=H+1:=by
 induction hw with
 | root=>simp;omega
 | down hw ho n h1 h2 hT hN hc ih=>rw [List.length_append,List.length_singleton];omega
theorem Wp.top (hw:Wp E iso mn mx P w H lo0 root X F0 L h lo b xs Fb A C):(L=[(root,0)]/\h=H/\lo=lo0/\b=root)\/(2<=L.length/\lo=mn):=by
 cases hw with
 | root=>exact .inl ⟨rfl,rfl,rfl,rfl⟩
 | down hw ho n h1 h2 hT hN hc=>exact .inr ⟨by cases hw<;>simp,rfl⟩
theorem Wp.last (hw:Wp E iso mn mx P w H lo0 root X F0 L h lo b xs Fb A C):∃ L0 i,L=L0++[(b,i)]:=by
 cases hw with
 | root=>exact ⟨[],0,rfl⟩
 | down hw ho n h1 h2 hT hN hc=>exact ⟨_,_,rfl⟩
theorem Wp.mem (hw:Wp E iso mn mx P w H lo0 root X F0 L h lo b xs Fb A C):b ∈ L.map Prod.fst:=by
 obtain ⟨L0,i,rfl⟩:=hw.last
 simp
theorem Wp.out (hw:Wp E iso mn mx P w H lo0 root X F0 L h lo b xs Fb A C):∀ y ∈ L.map Prod.fst,y=b\/∀ o,¬ Fb y o:=by
 induction hw with
 | root=>intro y hy;left;simpa using hy
 | down hw ho n h1 h2 hT hN hc ih =>
  intro y hy
  have hcm:=List.mem_of_getElem? hc
  rw [List.map_append,List.mem_append] at hy
  rcases hy with hy | hy
  ·right
   intro o g
   rcases ih y hy with rfl | h
   ·exact n.ap.own _ hcm _ o g (.inl rfl)
   ·exact h o ((n.fp y o).2 (.inr (.inr ⟨_,hcm,g⟩)))
  ·left;simpa using hy
theorem Wp.nodup (ht:Tp E iso mn mx P H w lo0 root X F0) (hw:Wp E iso mn mx P w H lo0 root X F0 L h lo b xs Fb A C):(L.map Prod.fst).Nodup:=by
 induction hw with
 | root=>simp
 | down hw ho n h1 h2 hT hN hc ih =>
  have hcm:=List.mem_of_getElem? hc
  rw [List.map_append]
  refine List.nodup_append.2 ⟨ih,by simp,fun y hy z hz=>?_⟩
  rw [List.map_cons,List.map_nil,List.mem_singleton] at hz
  rintro rfl
  rw [hz] at hy
  have hs:=(n.sub _ hcm).self 0
  rcases hw.out _ hy with e | g
  ·exact n.ap.own _ hcm _ 0 hs (.inl e)
  ·exact g 0 ((n.fp _ _).2 (.inr (.inr ⟨_,hcm,hs⟩)))
theorem Wp.cnt (ht:Tp E iso mn mx P H w lo0 root X F0) (hw:Wp E iso mn mx P w H lo0 root X F0 L h lo b xs Fb A C):∀ y ∈ L.map Prod.fst,(∃ c:Nat,rd w y 1=some (.int .i64 (c:Nat))/\c<=X.length/\xs.length<=c/\wok w y 4)/\∀ o,F0 y o:=by
 induction hw with
 | root =>
  intro y hy
  have:y=root:=by simpa using hy
  subst this
  obtain ⟨bi,oi,cap,ks,ch,ho,_⟩:=ht.tr.open
  exact ⟨⟨_,ho.h1,Nat.le_refl _,Nat.le_refl _,ho.wb⟩,ht.tr.self⟩
 | @down L h lo b xs Fb A C bi oi cap ks bc ba oa capc cs i c hw ho n h1 h2 hT hN hc ih =>
  intro y hy
  have hcm:=List.mem_of_getElem? hc
  have hle:c.xs.length<=xs.length:=by rw [n.xs hc];simp only [List.length_append];omega
  rw [List.map_append,List.mem_append] at hy
  rcases hy with hy | hy
  ·obtain ⟨⟨k,g1,g2,g3,g4⟩,g5⟩:=ih y hy
   exact ⟨⟨k,g1,g2,by omega,g4⟩,g5⟩
  ·have:y=c.b:=by simpa using hy
   subst this
   obtain ⟨bi,oi,cap,ks,ch,ho2,_⟩:=(n.sub _ hcm).open
   refine ⟨⟨_,ho2.h1,?_,Nat.le_refl _,ho2.wb⟩,fun o=>hw.sub _ _ ((n.fp _ _).2 (.inr (.inr ⟨_,hcm,(n.sub _ hcm).self o⟩)))⟩
   have:=hw.at
   rw [this];simp only [List.length_append];omega
theorem Wp.up {L0:List (Nat × Nat)} {p:Nat × Nat} (hw:Wp E iso mn mx P w H lo0 root X F0 L h lo b xs Fb A C) (hL:L=L0++[p]) :
  (L0=[]/\p=(root,0)/\xs=X/\A=[]/\C=[]) ∨
  ∃ lo' b' bi oi cap bc ba oa capc i xs' ks Fb' cs c A' C',p=(b,i)/\Wp E iso mn mx P w H lo0 root X F0 L0 (h+1) lo' b' xs' Fb' A' C'/\Own E w b' iso xs'.length bi oi cap ks (ptr bc)/\Inn E iso mn mx h w b' xs' Fb' bi oi cap ks bc ba oa capc cs/\lo'<=ks.length/\ks.length<=mx ∧
   (∀ c ∈ cs,Tp E iso mn mx P h w mn c.b c.xs c.F)/\NP P (cs.map Kid.xs) ks/\cs[i]? = some c/\c.b=b/\c.xs=xs/\A=A'++fr (cs.map Kid.xs) ks i/\C=tl (cs.map Kid.xs) ks i++C':=by
 cases hw with
 | root =>
  left
  have:=List.append_inj' (s₁:=[]) (t₁:=[(root,0)]) hL rfl
  obtain ⟨rfl,hp⟩:=this
  simp only [List.cons.injEq,and_true] at hp
  exact ⟨rfl,hp.symm,rfl,rfl,rfl⟩
 | down hw ho n h1 h2 hT hN hc =>
  right
  have:=List.append_inj' hL rfl
  obtain ⟨rfl,hp⟩:=this
  simp only [List.cons.injEq,and_true] at hp
  subst hp
  exact ⟨_,_,_,_,_,_,_,_,_,_,_,_,_,_,_,_,_,rfl,hw,ho,n,h1,h2,hT,hN,hc,rfl,rfl,rfl,rfl⟩
theorem Wp.ext {w':World} {G:Nat->Nat->Prop} (x:Ext G w w') (hG:∀ y o,F0 y o->¬ G y o) (hw:Wp E iso mn mx P w H lo0 root X F0 L h lo b xs Fb A C):Wp E iso mn mx P w' H lo0 root X F0 L h lo b xs Fb A C:=by
 induction hw with
 | root=>exact .root
 | down hw ho n h1 h2 hT hN hc ih =>
  have hs:=hw.sub
  exact .down ih (ho.ext x fun y o g=>hG y o (hs y o ((n.fp y o).2 (.inl g)))) (n.ext x (fun y o g=>hG y o (hs y o ((n.fp y o).2 (.inr (.inl g))))) fun c hc y o g=>hG y o (hs y o ((n.fp y o).2 (.inr (.inr ⟨c,hc,g⟩)))))
   h1 h2 (fun c hc=>(hT c hc).ext x fun y o g=>hG y o (hs y o ((n.fp y o).2 (.inr (.inr ⟨c,hc,g⟩))))) hN hc
theorem fr_set {cs:List (List α)} {ks:List α} {i:Nat} {z:List α}:fr (cs.set i z) ks i=fr cs ks i:=by
 unfold fr
 congr 1
 rw [List.zip_eq_zipWith,List.zip_eq_zipWith,List.take_zipWith,List.take_zipWith,List.take_set_of_le (Nat.le_refl _)]
theorem tl_set {cs:List (List α)} {ks:List α} {i:Nat} {z:List α}:tl (cs.set i z) ks i=tl cs ks i:=by
 unfold tl
 rw [List.drop_set_of_lt (by omega)]
theorem fr_mem {cs:List (List α)} {ks:List α} {i j:Nat} (hl:cs.length=ks.length+1) (hij:j<i) (hi:i<=ks.length):(∀ k,ks[j]? = some k->k ∈ fr cs ks i)/\∀ c,cs[j]? = some c->∀ x ∈ c,x ∈ fr cs ks i:=by
 have hk:∃ k,ks[j]? = some k:=⟨_,List.getElem?_eq_getElem (by omega)⟩
 have hc:∃ c,cs[j]? = some c:=⟨_,List.getElem?_eq_getElem (by omega)⟩
 obtain ⟨k,hk⟩:=hk
 obtain ⟨c,hc⟩:=hc
 have key:(c,k) ∈ (cs.zip ks).take i:=by
  refine List.mem_of_getElem? (i:=j) ?_
  rw [List.getElem?_take_of_lt hij]
  exact List.getElem?_zip_eq_some.2 ⟨hc,hk⟩
 refine ⟨fun k' hk'=>?_,fun c' hc' x hx=>?_⟩
 ·rw [hk] at hk';cases hk'
  exact List.mem_flatMap.2 ⟨_,key,by simp⟩
 ·rw [hc] at hc';cases hc'
  exact List.mem_flatMap.2 ⟨_,key,by simp [hx]⟩
theorem tl_mem {cs:List (List α)} {ks:List α} {i j:Nat} (hl:cs.length=ks.length+1) (hij:i<=j) (hi:i<=ks.length):(∀ k,ks[j]? = some k->k ∈ tl cs ks i)/\∀ c,cs[j+1]? = some c->∀ x ∈ c,x ∈ tl cs ks i:=by
 unfold tl
 refine ⟨fun k hk=>weave_in _ _ _ (.inl ⟨List.mem_of_getElem? (i:=j-i) (by rw [List.getElem?_drop,show i+(j-i)=j by omega];exact hk),by simp;omega⟩),fun c hc x hx=>weave_in _ _ _ (.inr ⟨c,?_,hx,by simp;omega⟩)⟩
 refine List.mem_cons.2 (.inr (List.mem_of_getElem? (i:=j-i) ?_))
 rw [List.getElem?_drop,show i+1+(j-i)=j+1 by omega];exact hc
theorem Inn.fill {P':α->List α->Prop} {w2:World} {bi oi cap:Nat} {ks:List α} {bc ba oa capc:Nat} {cs:List (Kid α)} {i:Nat} {c:Kid α} {xs':List α} {Fc:Nat->Nat->Prop} {G:Nat->Nat->Prop} {j:Nat}
  (ho:Own E w b iso xs.length bi oi cap ks (ptr bc)) (n:Inn E iso mn mx h w b xs Fb bi oi cap ks bc ba oa capc cs) (hc:cs[i]? = some c) (hl:xs'.length+j=c.xs.length) (hT:∀ c ∈ cs,Tp E iso mn mx P h w mn c.b c.xs c.F) (hN:NP P (cs.map Kid.xs) ks)
  (t2:Tp E iso mn mx P' h w2 mn c.b xs' Fc) (hF:∀ y o,Fc y o->c.F y o) (x:Ext G w w2) (hG:∀ y o,Fb y o->G y o->c.F y o\/(o=1/\y=b)) (hcn:rd w2 b 1=some (.int .i64 ((xs.length:Int)-j)))
  (hA:∀ k ∈ fr (cs.map Kid.xs) ks i,∀ S,P' k S) (hC:∀ k ∈ tl (cs.map Kid.xs) ks i,∀ S,P k S->P' k S) :
  ∃ F',(∀ y o,F' y o->Fb y o/\(c.F y o->Fc y o))/\(∀ y o,Fc y o->F' y o)/\Own E w2 b iso (fr (cs.map Kid.xs) ks i++xs'++tl (cs.map Kid.xs) ks i).length bi oi cap ks (ptr bc)/\Inn E iso mn mx h w2 b (fr (cs.map Kid.xs) ks i++xs'++tl (cs.map Kid.xs) ks i) F' bi oi cap ks bc ba oa capc (cs.set i ⟨c.b,xs',Fc⟩) ∧
   (∀ a ∈ cs.set i ⟨c.b,xs',Fc⟩,Tp E iso mn mx P' h w2 mn a.b a.xs a.F)/\NP P' ((cs.set i ⟨c.b,xs',Fc⟩).map Kid.xs) ks/\(cs.set i ⟨c.b,xs',Fc⟩)[i]? = some ⟨c.b,xs',Fc⟩:=by
 have hcm:=List.mem_of_getElem? hc
 have hil:=(List.getElem?_eq_some_iff.1 hc).1
 have hlen:(cs.map Kid.xs).length=ks.length+1:=by simpa using n.len
 have hFb:∀ y o,ownF E b bi oi cap y o->Fb y o:=fun y o g=>(n.fp y o).2 (.inl g)
 have hkF:∀ y o,kidF bc ba oa capc y o->Fb y o:=fun y o g=>(n.fp y o).2 (.inr (.inl g))
 have hxs:=n.xs hc
 obtain ⟨ys,hys⟩:∃ ys,ys=fr (cs.map Kid.xs) ks i++xs'++tl (cs.map Kid.xs) ks i:=⟨_,rfl⟩
 rw [<-hys]
 have hyl:ys.length+j=xs.length:=by rw [hys,hxs];simp only [List.length_append];omega
 have hob:∀ y o,ownF E b bi oi cap y o->o ≠ 1\/y ≠ b->¬ G y o:=fun y o g h k=>by
  rcases hG y o (hFb y o g) k with k | k
  ·exact n.ap.own c hcm y o k g
  ·rcases h with h | h
   ·exact h k.1
   ·exact h k.2
 have hsub:∀ d ∈ cs.set i ⟨c.b,xs',Fc⟩,∃ d' ∈ cs,(∀ y o,d.F y o->d'.F y o):=fun d hd=>by
  rcases mem_set_or hd with rfl | ⟨j,_,hd⟩
  ·exact ⟨c,hcm,hF⟩
  ·exact ⟨d,List.mem_of_getElem? hd,fun _ _ g=>g⟩
 have hT2:∀ d ∈ cs.set i ⟨c.b,xs',Fc⟩,Tp E iso mn mx P' h w2 mn d.b d.xs d.F:=fun d hd=>by
  rcases mem_set_or hd with rfl | ⟨j,hj,hd⟩
  ·exact t2
  ·have hdm:=List.mem_of_getElem? hd
   have e1:Tp E iso mn mx P h w2 mn d.b d.xs d.F:=by
    refine (hT d hdm).ext x fun y o g k=>?_
    rcases hG y o ((n.fp y o).2 (.inr (.inr ⟨d,hdm,g⟩))) k with k | k
    ·obtain ⟨j1,j2⟩:=List.getElem?_eq_some_iff.1 hd
     obtain ⟨i1,i2⟩:=List.getElem?_eq_some_iff.1 hc
     have hp:=List.pairwise_iff_getElem.1 n.ap.two
     rcases Nat.lt_or_gt_of_ne hj with hlt | hlt
     ·exact hp j i j1 i1 hlt y o (by rw [j2];exact g) (by rw [i2];exact k)
     ·exact hp i j i1 j1 hlt y o (by rw [i2];exact k) (by rw [j2];exact g)
    ·rw [k.2] at g
     exact n.ap.own d hdm b o g (.inl rfl)
   refine e1.imp fun k hk S _ hP=>?_
   rcases Nat.lt_or_gt_of_ne hj with hlt | hlt
   ·exact hA k ((fr_mem hlen hlt (n.le hc)).2 _ (Kid.at hd) k hk) S
   ·exact hC k ((tl_mem (j:=j-1) hlen (by omega) (n.le hc)).2 _ (by rw [show j-1+1=j by omega];exact Kid.at hd) k hk) S hP
 refine ⟨fun y o=>ownF E b bi oi cap y o\/kidF bc ba oa capc y o\/∃ d ∈ cs.set i ⟨c.b,xs',Fc⟩,d.F y o,fun y o g=>?_,fun y o g=>.inr (.inr ⟨_,List.mem_of_getElem? (List.getElem?_set_self hil),g⟩),?_,⟨?_,by rw [List.length_set];exact n.len,?_,fun d hd=>(hT2 d hd).tr,?_,fun y o=>Iff.rfl⟩,hT2,?_,List.getElem?_set_self hil⟩
 ·rcases g with g | g | ⟨d,hd,g⟩
  ·exact ⟨hFb y o g,fun k=>(n.ap.own c hcm y o k g).elim⟩
  ·exact ⟨hkF y o g,fun k=>(n.ap.kid c hcm y o k g).elim⟩
  ·rcases mem_set_or hd with rfl | ⟨j,hj,hd⟩
   ·exact ⟨(n.fp y o).2 (.inr (.inr ⟨c,hcm,hF y o g⟩)),fun _=>g⟩
   ·have hdm:=List.mem_of_getElem? hd
    refine ⟨(n.fp y o).2 (.inr (.inr ⟨d,hdm,g⟩)),fun k=>?_⟩
    obtain ⟨j1,j2⟩:=List.getElem?_eq_some_iff.1 hd
    obtain ⟨i1,i2⟩:=List.getElem?_eq_some_iff.1 hc
    have hp:=List.pairwise_iff_getElem.1 n.ap.two
    rcases Nat.lt_or_gt_of_ne hj with hlt | hlt
    ·exact (hp j i j1 i1 hlt y o (by rw [j2];exact g) (by rw [i2];exact k)).elim
    ·exact (hp i j i1 j1 hlt y o (by rw [i2];exact k) (by rw [j2];exact g)).elim
 ·refine ⟨x.rd ho.h0 (hob _ _ (.inl rfl) (.inl (by decide))),?_,x.rd ho.h2 (hob _ _ (.inl rfl) (.inl (by decide))),x.rd ho.h3 (hob _ _ (.inl rfl) (.inl (by decide))),x.wok ho.wb,x.row ho.row fun j hj=>hob _ _ (.inr ⟨rfl,by omega,?_⟩) (.inr ho.ne),x.wok ho.wi,ho.le,ho.ne⟩
  ·rw [hcn,show ((xs.length:Nat):Int)-j=(ys.length:Nat) by omega]
  ·rw [flat_length] at hj;have:=Nat.mul_le_mul_right E.sz ho.le;omega
 ·rw [kidb_set (c':=(⟨c.b,xs',Fc⟩:Kid α)) hc rfl]
  refine n.kids.ext x fun y o g k=>?_
  rcases hG y o (hkF y o g) k with k | k
  ·exact n.ap.kid c hcm y o k g
  ·rw [k.2] at g
   rcases g with g | g
   ·exact n.ap.cb g.symm
   ·exact n.ap.ab g.1.symm
 ·rw [hys,List.map_set]
  obtain ⟨A,hA⟩:=weave_tl i (cs.map Kid.xs) ks hlen (n.le hc)
  have hAf:=hA.is_fr hlen (n.le hc) (Kid.at hc)
  subst hAf
  exact (hA.set xs').symm
 ·refine ⟨n.ap.cb,n.ap.ab,n.ap.ic,n.ap.ia,fun d hd y o g=>?_,fun d hd y o g=>?_,?_⟩
  ·obtain ⟨d',h1,h2⟩:=hsub d hd
   exact n.ap.own d' h1 y o (h2 y o g)
  ·obtain ⟨d',h1,h2⟩:=hsub d hd
   exact n.ap.kid d' h1 y o (h2 y o g)
  ·rw [List.pairwise_iff_getElem]
   intro a z ha hz haz y o g1 g2
   rw [List.length_set] at ha hz
   have hp:=List.pairwise_iff_getElem.1 n.ap.two a z ha hz haz y o
   rw [List.getElem_set] at g1 g2
   obtain ⟨i1,i2⟩:=List.getElem?_eq_some_iff.1 hc
   by_cases h1:i=a
   ·subst h1
    rw [if_pos rfl] at g1
    rw [if_neg (by omega)] at g2
    exact hp (by rw [i2];exact hF y o g1) g2
   ·rw [if_neg h1] at g1
    by_cases h2:i=z
    ·subst h2
     rw [if_pos rfl] at g2
     exact hp g1 (by rw [i2];exact hF y o g2)
    ·rw [if_neg h2] at g2
     exact hp g1 g2
 ·rw [List.map_set]
  intro a k d e1 e2
  rw [List.getElem?_set] at e2
  by_cases hia:i=a+1
  ·exact hA k ((fr_mem hlen (show a<i by omega) (n.le hc)).1 k e1) d
  ·rw [if_neg hia] at e2
   rcases Nat.lt_or_ge a i with hlt | hge
   ·exact hA k ((fr_mem hlen hlt (n.le hc)).1 k e1) d
   ·exact hC k ((tl_mem hlen hge (n.le hc)).1 k e1) d (hN a k d e1 e2)
theorem Wp.fill {P':α->List α->Prop} {w2:World} {xs':List α} {Fb':Nat->Nat->Prop} {j:Nat} (hw:Wp E iso mn mx P w H lo0 root X F0 L h lo b xs Fb A C) (hl:xs'.length+j=xs.length) (ht:Tp E iso mn mx P H w lo0 root X F0)
  (t2:Tp E iso mn mx P' h w2 lo b xs' Fb') (hF:∀ y o,Fb' y o->Fb y o) (x:Ext (fun y o=>Fb y o\/(o=1/\y ∈ L.map Prod.fst)) w w2) (hcn:∀ y ∈ L.map Prod.fst,∃ k:Int,rd w y 1=some (.int .i64 k)/\rd w2 y 1=some (.int .i64 (k-j)))
  (hA:∀ k ∈ A,∀ S,P' k S) (hC:∀ k ∈ C,∀ S,P k S->P' k S) :
  ∃ F0',(∀ y o,F0' y o->F0 y o/\(Fb y o->Fb' y o))/\Tp E iso mn mx P' H w2 lo0 root (A++xs'++C) F0'/\Wp E iso mn mx P' w2 H lo0 root (A++xs'++C) F0' L h lo b xs' Fb' A C:=by
 induction hw generalizing xs' Fb' with
 | root=>exact ⟨Fb',fun y o g=>⟨hF y o g,fun _=>g⟩,by simpa using t2,by simpa using Wp.root⟩
 | @down L h lo b xs Fb A C bi oi cap ks bc ba oa capc cs i c hw ho n h1 h2 hT hN hc ih =>
  have hcm:=List.mem_of_getElem? hc
  have hmem:=hw.mem
  have hb1:b ∈ (L++[(c.b,i)]).map Prod.fst:=by rw [List.map_append,List.mem_append];exact .inl hmem
  have hx0:∀ y o,Fb y o->(c.F y o\/(o=1/\y ∈ (L++[(c.b,i)]).map Prod.fst))->c.F y o\/(o=1/\y=b):=fun y o g k=>by
   rcases k with k | ⟨k1,k⟩
   ·exact .inl k
   ·rw [List.map_append,List.mem_append] at k
    rcases k with k | k
    ·rcases hw.out y k with e | h
     ·exact .inr ⟨k1,e⟩
     ·exact (h o g).elim
    ·have:y=c.b:=by simpa using k
     rw [this];exact .inl ((n.sub c hcm).self o)
  obtain ⟨k,hk1,hk2⟩:=hcn b hb1
  rw [ho.h1,Option.some.injEq,Value.int.injEq] at hk1
  obtain ⟨-,rfl⟩:=hk1
  obtain ⟨F',f1,f2,ho3,n3,hT3,hN3,hc3⟩:=Inn.fill (P':=P') ho n hc hl hT hN t2 hF x hx0 hk2 (fun k hk=>hA k (List.mem_append_right _ hk)) (fun k hk=>hC k (List.mem_append_left _ hk))
  have hyl:(fr (cs.map Kid.xs) ks i++xs'++tl (cs.map Kid.xs) ks i).length+j=xs.length:=by rw [n.xs hc];simp only [List.length_append];omega
  have hx2:Ext (fun y o=>Fb y o\/(o=1/\y ∈ L.map Prod.fst)) w w2:=x.mono fun y o _ g=>by
   rcases g with g | ⟨g1,g2⟩
   ·exact .inl ((n.fp y o).2 (.inr (.inr ⟨c,hcm,g⟩)))
   ·rw [List.map_append,List.mem_append] at g2
    rcases g2 with g2 | g2
    ·exact .inr ⟨g1,g2⟩
    ·have:y=c.b:=by simpa using g2
     rw [this];exact .inl ((n.fp _ _).2 (.inr (.inr ⟨c,hcm,(n.sub c hcm).self o⟩)))
  obtain ⟨F0',e1,e2,e3⟩:=ih hyl ⟨bi,oi,cap,bc,ba,oa,capc,ks,_,ho3,n3,h1,h2,hT3,hN3⟩ (fun y o g=>(f1 y o g).1) hx2 (fun y hy=>hcn y (by rw [List.map_append,List.mem_append];exact .inl hy)) (fun k hk=>hA k (List.mem_append_left _ hk)) (fun k hk=>hC k (List.mem_append_right _ hk))
  have e4:=Wp.down e3 ho3 n3 h1 h2 hT3 hN3 hc3
  have hX:A++(fr (cs.map Kid.xs) ks i++xs'++tl (cs.map Kid.xs) ks i)++C=(A++fr (cs.map Kid.xs) ks i)++xs'++(tl (cs.map Kid.xs) ks i++C):=by simp only [List.append_assoc]
  rw [hX] at e2 e4
  rw [List.map_set,fr_set,tl_set] at e4
  exact ⟨F0',fun y o g=>⟨(e1 y o g).1,fun k=>(f1 y o ((e1 y o g).2 ((n.fp y o).2 (.inr (.inr ⟨c,hcm,k⟩))))).2 k⟩,e2,e4⟩
theorem map_eraseIdx {β:Type} (f:α->β):∀ (l:List α) (i:Nat),(l.eraseIdx i).map f=(l.map f).eraseIdx i
 | [],_=>rfl
 | _::_,0=>rfl
 | a::l,i+1=>by simp [map_eraseIdx f l i]
theorem Inn.outB {P':α->List α->Prop} {w2:World} {bi oi cap:Nat} {ks:List α} {bc ba oa capc:Nat} {cs:List (Kid α)} {i:Nat} {c d:Kid α} {k:α} {G:Nat->Nat->Prop} {cnt:Int}
  (n:Inn E iso mn mx h w b xs Fb bi oi cap ks bc ba oa capc cs) (hc:cs[i]? = some c) (hd:cs[i+1]? = some d) (hk:ks[i]? = some k) (hT:∀ c ∈ cs,Tp E iso mn mx P h w mn c.b c.xs c.F) (hN:NP P (cs.map Kid.xs) ks)
  (ho2:Own E w2 b iso cnt bi oi cap (ks.eraseIdx i) (ptr bc)) (hcnt:cnt=(xs.length:Int)-(d.xs.length+1:Nat)) (hk2:Kids w2 bc ba oa capc ((cs.eraseIdx (i+1)).map Kid.b)) (x:Ext G w w2) (hG:∀ c ∈ cs,∀ y o,c.F y o->¬ G y o)
  (hP:∀ k' S,k' ∈ fr (cs.map Kid.xs) ks i\/(k' ∈ c.xs/\∀ s ∈ S,s ∈ c.xs)\/k' ∈ tl (cs.map Kid.xs) ks (i+1)->P k' S->P' k' S) :
  ∃ F',(∀ y o,F' y o->Fb y o)/\(∀ y o,d.F y o->¬ F' y o)/\(Own E w2 b iso (fr (cs.map Kid.xs) ks i++c.xs++tl (cs.map Kid.xs) ks (i+1)).length bi oi cap (ks.eraseIdx i) (ptr bc)/\Inn E iso mn mx h w2 b (fr (cs.map Kid.xs) ks i++c.xs++tl (cs.map Kid.xs) ks (i+1)) F' bi oi cap (ks.eraseIdx i) bc ba oa capc (cs.eraseIdx (i+1)) ∧
   (∀ e ∈ cs.eraseIdx (i+1),Tp E iso mn mx P' h w2 mn e.b e.xs e.F)/\NP P' ((cs.eraseIdx (i+1)).map Kid.xs) (ks.eraseIdx i)/\fr ((cs.eraseIdx (i+1)).map Kid.xs) (ks.eraseIdx i) i=fr (cs.map Kid.xs) ks i/\tl ((cs.eraseIdx (i+1)).map Kid.xs) (ks.eraseIdx i) i=tl (cs.map Kid.xs) ks (i+1))/\Tp E iso mn mx P h w2 mn d.b d.xs d.F ∧
   xs=fr (cs.map Kid.xs) ks i++c.xs++k::(d.xs++tl (cs.map Kid.xs) ks (i+1))/\P k d.xs:=by
 have hlen:(cs.map Kid.xs).length=ks.length+1:=by simpa using n.len
 have hil:=(List.getElem?_eq_some_iff.1 hd).1
 have hkl:=(List.getElem?_eq_some_iff.1 hk).1
 have hdm:=List.mem_of_getElem? hd
 obtain ⟨m1,m2⟩:=n.mem
 have hmem:∀ e ∈ cs.eraseIdx (i+1),e ∈ cs:=fun e he=>List.mem_of_mem_eraseIdx he
 have hxs:=n.xs hc
 rw [tl_step (Kid.at hd) hk] at hxs
 have hout:∀ e ∈ cs.eraseIdx (i+1),∃ z,z ≠ i+1/\cs[z]? = some e:=fun e he=>by
  obtain ⟨a,ha⟩:=List.getElem?_of_mem he
  rw [List.getElem?_eraseIdx] at ha
  split at ha
  ·exact ⟨a,by omega,ha⟩
  ·exact ⟨a+1,by omega,ha⟩
 have hsub2:∀ e ∈ cs.eraseIdx (i+1),Tp E iso mn mx P' h w2 mn e.b e.xs e.F:=fun e he=>((hT e (hmem e he)).ext x (hG e (hmem e he))).imp fun k hk S hS hP'=>hP k S (by
  obtain ⟨z,hz,hze⟩:=hout e he
  have hzl:=(List.getElem?_eq_some_iff.1 hze).1
  rcases Nat.lt_trichotomy z i with h | h | h
  ·exact .inl ((fr_mem hlen h (by omega)).2 _ (Kid.at hze) k hk)
  ·subst h
   rw [hc] at hze;cases hze
   exact .inr (.inl ⟨hk,hS⟩)
  ·have:=n.len
   exact .inr (.inr ((tl_mem (j:=z-1) hlen (by omega) (by omega)).2 _ (by rw [show z-1+1=z by omega];exact Kid.at hze) k hk))) hP'
 have hlen2:(cs.eraseIdx (i+1)).length=(ks.eraseIdx i).length+1:=by
  rw [List.length_eraseIdx,List.length_eraseIdx,if_pos hil,if_pos hkl]
  have:=n.len;omega
 have hi2:i<=(ks.eraseIdx i).length:=by rw [List.length_eraseIdx,if_pos hkl];omega
 have hc2:((cs.eraseIdx (i+1)).map Kid.xs)[i]? = some c.xs:=by
  rw [List.getElem?_map,List.getElem?_eraseIdx,if_pos (by omega),hc];rfl
 have e1:fr ((cs.eraseIdx (i+1)).map Kid.xs) (ks.eraseIdx i) i=fr (cs.map Kid.xs) ks i:=by
   unfold fr
   congr 1
   rw [List.zip_eq_zipWith,List.zip_eq_zipWith,List.take_zipWith,List.take_zipWith,<-List.map_take,<-List.map_take]
   congr 1
   ·congr 1
    rw [List.eraseIdx_eq_take_drop_succ,List.take_append_of_le_length (by rw [List.length_take];omega),List.take_take,Nat.min_eq_left (by omega)]
   ·rw [List.eraseIdx_eq_take_drop_succ,List.take_append_of_le_length (by rw [List.length_take];omega),List.take_take,Nat.min_self]
 have e2:tl ((cs.eraseIdx (i+1)).map Kid.xs) (ks.eraseIdx i) i=tl (cs.map Kid.xs) ks (i+1):=by
   unfold tl
   have g1:(cs.eraseIdx (i+1)).drop (i+1)=cs.drop (i+1+1):=by
    rw [List.eraseIdx_eq_take_drop_succ,List.drop_append,List.drop_eq_nil_of_le (by rw [List.length_take];omega),List.nil_append,List.length_take,Nat.min_eq_left (by omega),Nat.sub_self,List.drop_zero]
   have g2:(ks.eraseIdx i).drop i=ks.drop (i+1):=by
    rw [List.eraseIdx_eq_take_drop_succ,List.drop_append,List.drop_eq_nil_of_le (by rw [List.length_take];omega),List.nil_append,List.length_take,Nat.min_eq_left (by omega),Nat.sub_self,List.drop_zero]
   rw [<-List.map_drop,g1,g2,List.map_drop]
 have hwv:weave ((cs.eraseIdx (i+1)).map Kid.xs) (ks.eraseIdx i)=fr (cs.map Kid.xs) ks i++c.xs++tl (cs.map Kid.xs) ks (i+1):=by
  rw [fr_mid i _ _ c.xs (by rw [List.length_map];exact hlen2) hi2 hc2,e1,e2]
 have hPk:P k d.xs:=hN i k d.xs hk (Kid.at hd)
 have hnd:∀ e ∈ cs.eraseIdx (i+1),∀ y o,d.F y o->¬ e.F y o:=fun e he y o g1 g2=>by
  obtain ⟨z,hz,hze⟩:=hout e he
  obtain ⟨j1,j2⟩:=List.getElem?_eq_some_iff.1 hze
  obtain ⟨i1,i2⟩:=List.getElem?_eq_some_iff.1 hd
  have hp:=List.pairwise_iff_getElem.1 n.ap.two
  rcases Nat.lt_or_gt_of_ne hz with hlt | hlt
  ·exact hp z (i+1) j1 i1 hlt y o (by rw [j2];exact g2) (by rw [i2];exact g1)
  ·exact hp (i+1) z i1 j1 hlt y o (by rw [i2];exact g1) (by rw [j2];exact g2)
 refine ⟨fun y o=>ownF E b bi oi cap y o\/kidF bc ba oa capc y o\/∃ e ∈ cs.eraseIdx (i+1),e.F y o,fun y o g=>(n.fp y o).2 (g.imp id fun g=>g.imp id fun ⟨e,he,g⟩=>⟨e,hmem e he,g⟩),fun y o g k=>?_,?_,(hT d hdm).ext x (hG d hdm),by rw [hxs],hPk⟩
 ·rcases k with k | k | ⟨e,he,k⟩
  ·exact n.ap.own d hdm y o g k
  ·exact n.ap.kid d hdm y o g k
  ·exact hnd e he y o g k
 ·have hcnt2:cnt=((fr (cs.map Kid.xs) ks i++c.xs++tl (cs.map Kid.xs) ks (i+1)).length:Nat):=by
   rw [hcnt,hxs];simp only [List.length_append,List.length_cons];omega
  rw [hcnt2] at ho2
  refine ⟨ho2,⟨hk2,hlen2,hwv.symm,fun e he=>(hsub2 e he).tr,⟨n.ap.cb,n.ap.ab,n.ap.ic,n.ap.ia,fun e he=>n.ap.own e (hmem e he),fun e he=>n.ap.kid e (hmem e he),?_⟩,fun y o=>Iff.rfl⟩,hsub2,?_,e1,e2⟩
  ·exact n.ap.two.sublist (List.eraseIdx_sublist _ _)
  ·have:=(NP.out (i:=i) hN).imp (Q:=P') fun a k' d' e1 e2 hp=>hP k' d' (by
    rw [List.getElem?_eraseIdx] at e1
    split at e1
    ·rename_i hai
     exact .inl ((fr_mem hlen hai (by omega)).1 k' e1)
    ·rename_i hai
     exact .inr (.inr ((tl_mem (j:=a+1) hlen (by omega) (by omega)).1 k' e1))) hp
   rw [map_eraseIdx]
   exact this
end
end Go.Proofs.Ytbnnkcofnmipoaa
namespace Go.Proofs.Ytbnnkcofnmipoaa
section
variable {α β:Type} {κ:α->Int} {key:β->α} {sg:β->List α}
def GapQ (κ:α->Int) (lo:Int) (D:α->Prop) (k:α) (S:List α):Prop:=κ k<lo\/∀ s ∈ S,∀ d,D d->¬ (κ k<κ d/\κ d<κ s)
theorem GapQ.anti {lo:Int} {D:α->Prop}:Anti (GapQ κ lo D):=fun _ _ _ h hs=>h.imp id fun h s hs'=>h s (hs s hs')
theorem GapQ.more {lo:Int} {D D':α->Prop} {k:α} {S:List α} (h:GapQ κ lo D k S) (hD:∀ d,D' d->D d\/κ d<=κ k\/∀ s ∈ S,κ s<=κ d):GapQ κ lo D' k S:=by
 rcases h with h | h
 ·exact .inl h
 ·refine .inr fun s hs d hd g=>?_
  rcases hD d hd with h1 | h1 | h1
  ·exact h s hs d h1 g
  ·omega
  ·have:=h1 s hs;omega
theorem GapQ.cut {lo:Int} {D:α->Prop} {x:α} (hx:lo<=κ x):∀ k S l y r,decide (κ k<κ x)=false->decide (κ k<κ y)=true->S=l++y::r->GapQ κ lo D k S->GapQ κ lo D y r:=fun k S l y r h1 h2 hS h=>by
 simp only [decide_eq_false_iff_not,decide_eq_true_eq] at h1 h2
 rcases h with h | h
 ·omega
 ·refine .inr fun s hs d hd g=>h s (by rw [hS];simp [hs]) d hd ⟨by omega,g.2⟩
structure LQ (κ:α->Int) (key:β->α) (sg:β->List α) (q:List β) (R:List α):Prop where
 nd:q.Nodup
 ne:∀ e ∈ q,∀ e' ∈ q,e ≠ e'->κ (key e) ≠ κ (key e')
 sep:∀ e ∈ q,∀ e' ∈ q,κ (key e)<κ (key e')->∀ s ∈ sg e,κ s<κ (key e')
 asc:∀ e ∈ q,(key e::sg e).Pairwise fun a b=>κ a<κ b
 rem:∀ e ∈ q,∀ x ∈ R,κ (key e) ≠ κ x/\(κ (key e)<κ x->∀ s ∈ sg e,κ s<κ x)
theorem LQ.nil {R:List α}:LQ κ key sg [] R:=⟨List.nodup_nil,by simp,by simp,by simp,by simp⟩
theorem LQ.perm {q q':List β} {R:List α} (h:LQ κ key sg q R) (p:q'.Perm q):LQ κ key sg q' R :=
 ⟨p.nodup_iff.2 h.nd,fun e he e' he'=>h.ne e (p.mem_iff.1 he) e' (p.mem_iff.1 he'),fun e he e' he'=>h.sep e (p.mem_iff.1 he) e' (p.mem_iff.1 he'),fun e he=>h.asc e (p.mem_iff.1 he),fun e he=>h.rem e (p.mem_iff.1 he)⟩
theorem LQ.less {q:List β} {R R':List α} (h:LQ κ key sg q R) (hR:∀ x ∈ R',x ∈ R):LQ κ key sg q R':=⟨h.nd,h.ne,h.sep,h.asc,fun e he x hx=>h.rem e he x (hR x hx)⟩
theorem LQ.same {sg':β->List α} {q:List β} {R:List α} (h:LQ κ key sg q R) (hs:∀ e ∈ q,sg' e=sg e):LQ κ key sg' q R :=
 ⟨h.nd,h.ne,fun e he e' he'=>by rw [hs e he];exact h.sep e he e' he',fun e he=>by rw [hs e he];exact h.asc e he,fun e he=>by rw [hs e he];exact h.rem e he⟩
def LD (key:β->α) (sg:β->List α) (q:List β):α->Prop:=fun x=>∃ e ∈ q,x=key e\/x ∈ sg e
theorem LD.perm {q q':List β} (p:q'.Perm q) (x:α):LD key sg q' x ↔ LD key sg q x:=⟨fun ⟨e,he,h⟩=>⟨e,p.mem_iff.1 he,h⟩,fun ⟨e,he,h⟩=>⟨e,p.mem_iff.2 he,h⟩⟩
theorem LQ.out {q:List β} {R:List α} (h:LQ κ key sg q R) {e0:β} (hk:key e0 ∈ R):e0 ∉ q:=fun he=>(h.rem e0 he _ hk).1 rfl
section
variable [DecidableEq β]
def sgW (sg:β->List α) (e0:β) (S:List α):β->List α:=fun e=>if e=e0 then S else sg e
theorem sgW_same {q:List β} {e0:β} {S:List α} (h:e0 ∉ q):∀ e ∈ q,sgW sg e0 S e=sg e:=fun e he=>by
 unfold sgW
 split
 ·rename_i g;subst g;exact (h he).elim
 ·rfl
theorem LQ.push {q:List β} {A S C:List α} {e0:β} (h:LQ κ key sg q (A++key e0::(S++C))) (hR:(A++key e0::(S++C)).Pairwise fun a b=>κ a<κ b) (hg:∀ s ∈ S,∀ e ∈ q,¬ (κ (key e0)<κ (key e)/\κ (key e)<κ s)) :
  LQ κ key (sgW sg e0 S) (e0::q) (A++C):=by
 have h0:e0 ∉ q:=h.out (by simp)
 have hs:=sgW_same (sg:=sg) (S:=S) h0
 have he0:sgW sg e0 S e0=S:=by unfold sgW;rw [if_pos rfl]
 have h':=h.same hs
 obtain ⟨pA,p2,pX⟩:=List.pairwise_append.1 hR
 obtain ⟨p3,p4⟩:=List.pairwise_cons.1 p2
 obtain ⟨p5,p6,p7⟩:=List.pairwise_append.1 p4
 have hkm:key e0 ∈ A++key e0::(S++C):=by simp
 have hsm:∀ s ∈ S,s ∈ A++key e0::(S++C):=fun s hs=>by simp [hs]
 refine ⟨List.nodup_cons.2 ⟨h0,h.nd⟩,fun e he e' he' hne=>?_,fun e he e' he' hlt=>?_,fun e he=>?_,fun e he x hx=>?_⟩
 ·rcases List.mem_cons.1 he with rfl | hq
  ·rcases List.mem_cons.1 he' with rfl | hq'
   ·exact absurd rfl hne
   ·exact fun g=>(h.rem e' hq' _ hkm).1 g.symm
  ·rcases List.mem_cons.1 he' with rfl | hq'
   ·exact (h.rem e hq _ hkm).1
   ·exact h.ne e hq e' hq' hne
 ·rcases List.mem_cons.1 he with rfl | hq
  ·rcases List.mem_cons.1 he' with rfl | hq'
   ·omega
   ·rw [he0]
    intro s hs'
    have:=hg s hs' e' hq'
    have:=(h.rem e' hq' s (hsm s hs')).1
    omega
  ·rcases List.mem_cons.1 he' with rfl | hq'
   ·rw [hs e hq];exact (h.rem e hq _ hkm).2 hlt
   ·exact h'.sep e hq e' hq' hlt
 ·rcases List.mem_cons.1 he with rfl | hq
  ·rw [he0]
   exact List.pairwise_cons.2 ⟨fun s hs'=>p3 s (by simp [hs']),p5⟩
  ·exact h'.asc e hq
 ·rcases List.mem_cons.1 he with rfl | hq
  ·rw [he0]
   rcases List.mem_append.1 hx with hx | hx
   ·have:=pX x hx (key e) (by simp)
    exact ⟨by omega,fun g=>by omega⟩
   ·have:=p3 x (by simp [hx])
    exact ⟨by omega,fun _ s hs'=>p7 s hs' x hx⟩
  ·exact h'.rem e hq x (by
    rcases List.mem_append.1 hx with hx | hx<;>simp [hx])
theorem LD.push {q:List β} {e0:β} {S:List α} (h0:e0 ∉ q) (x:α):LD key (sgW sg e0 S) (e0::q) x ↔ (x=key e0\/x ∈ S)\/LD key sg q x:=by
 have hs:=sgW_same (sg:=sg) (S:=S) h0
 have he0:sgW sg e0 S e0=S:=by unfold sgW;rw [if_pos rfl]
 refine ⟨fun ⟨e,he,h⟩=>?_,fun h=>?_⟩
 ·rcases List.mem_cons.1 he with rfl | he
  ·rw [he0] at h;exact .inl h
  ·rw [hs e he] at h;exact .inr ⟨e,he,h⟩
 ·rcases h with h | ⟨e,he,h⟩
  ·exact ⟨e0,by simp,by rw [he0];exact h⟩
  ·exact ⟨e,by simp [he],by rw [hs e he];exact h⟩
end
def runQ (key:β->α) (sg:β->List α) (ps:List β):List α:=ps.flatMap fun e=>key e::sg e
theorem runQ_asc:∀ (ps:List β),(∀ e ∈ ps,(key e::sg e).Pairwise fun a b=>κ a<κ b)->(ps.Pairwise fun e e'=>κ (key e)<κ (key e')/\∀ s ∈ sg e,κ s<κ (key e'))->(runQ key sg ps).Pairwise fun a b=>κ a<κ b
 | [],_,_=>List.Pairwise.nil
 | e::ps,h1,h2=>by
  obtain ⟨g1,g2⟩:=List.pairwise_cons.1 h2
  unfold runQ
  rw [List.flatMap_cons]
  refine List.pairwise_append.2 ⟨h1 e (by simp),runQ_asc ps (fun e he=>h1 e (by simp [he])) g2,fun a ha b hb=>?_⟩
  obtain ⟨e',he',hb⟩:=List.mem_flatMap.1 hb
  have hk:κ a<κ (key e'):=by
   rcases List.mem_cons.1 ha with rfl | ha
   ·exact (g1 e' he').1
   ·exact (g1 e' he').2 a ha
  rcases List.mem_cons.1 hb with rfl | hb
  ·exact hk
  ·have:=(List.pairwise_cons.1 (h1 e' (by simp [he']))).1 b hb
   omega
theorem LQ.run {q ps:List β} {R:List α} (h:LQ κ key sg q R) (hp:ps.Perm q) (hs:ps.Pairwise fun e e'=>κ (key e)<=κ (key e')):(runQ key sg ps).Pairwise (fun a b=>κ a<κ b)/\∀ x,x ∈ runQ key sg ps ↔ LD key sg q x:=by
 refine ⟨runQ_asc ps (fun e he=>h.asc e (hp.mem_iff.1 he)) ?_,fun x=>?_⟩
 ·have hnd:=hp.nodup_iff.2 h.nd
  refine (hs.and hnd).imp_of_mem fun {e e'} he he' hh=>?_
  have h1:=hp.mem_iff.1 he
  have h2:=hp.mem_iff.1 he'
  have:=h.ne e h1 e' h2 hh.2
  have hlt:κ (key e)<κ (key e'):=by have:=hh.1;omega
  exact ⟨hlt,h.sep e h1 e' h2 hlt⟩
 ·unfold runQ
  rw [List.mem_flatMap]
  exact ⟨fun ⟨e,he,hx⟩=>⟨e,hp.mem_iff.1 he,List.mem_cons.1 hx⟩,fun ⟨e,he,hx⟩=>⟨e,hp.mem_iff.2 he,List.mem_cons.2 hx⟩⟩
theorem sorted_eq:∀ {a b:List α},(a.Pairwise fun x y=>κ x<κ y)->(b.Pairwise fun x y=>κ x<κ y)->(∀ x,x ∈ a ↔ x ∈ b)->a=b
 | [],[],_,_,_=>rfl
 | [],y::b,_,_,h=>by have:=(h y).2 (by simp);simp at this
 | x::a,[],_,_,h=>by have:=(h x).1 (by simp);simp at this
 | x::a,y::b,ha,hb,h=>by
  obtain ⟨a1,a2⟩:=List.pairwise_cons.1 ha
  obtain ⟨b1,b2⟩:=List.pairwise_cons.1 hb
  have e:x=y:=by
   rcases List.mem_cons.1 ((h x).1 (by simp)) with e | hx
   ·exact e
   ·rcases List.mem_cons.1 ((h y).2 (by simp)) with e | hy
    ·exact e.symm
    ·have:=a1 y hy;have:=b1 x hx;omega
  subst e
  congr 1
  refine sorted_eq a2 b2 fun z=>⟨fun hz=>?_,fun hz=>?_⟩
  ·rcases List.mem_cons.1 ((h z).1 (by simp [hz])) with e | g
   ·subst e;have:=a1 z hz;omega
   ·exact g
  ·rcases List.mem_cons.1 ((h z).2 (by simp [hz])) with e | g
   ·subst e;have:=b1 z hz;omega
   ·exact g
end
end Go.Proofs.Ytbnnkcofnmipoaa
namespace Go.Proofs.Ytbnnkcofnmipoaa
open Go Go.Proofs
theorem ni_i:noInt Try.prog 25=true:=by kernel_rfl
def nth (l:List It) (i:Int):Option It:=if 0<=i then l[i.toNat]? else none
def foO (x:Option It):It × Bool:=(x.getD (0,0),x.isSome)
def foP (x:It) (ok:Bool):It × Bool:=if ok=true then (x,true) else ((0,0),false)
def cutL (l:List It) (i:Int):List It:=if 0<=i then l.eraseIdx i.toNat else l
theorem bs_i1 (x:It):bsV Try.prog 25 1 [(0,iV x)]=some (33,Ei.cel x):=by kernel_rfl
theorem el_i:elK Try.prog 25=some (33,2,16,[.int .i64 0,.int .i64 0]):=by kernel_rfl
structure Kept (B ob:Nat) (done:List It) (w:World):Prop where
 var:∃ sv,rd w ob 0=some sv/\SlI w sv done/\since B sv
 wok:wok w ob 1
 lt:ob<B
 le:B<=w.heap.size
def outF (B ob:Nat):Nat->Nat->Prop:=fun y _=>y=ob\/B<=y
theorem Kept.ext {B ob:Nat} {done:List It} {w w':World} (h:Kept B ob done w) (x:Ext noF w w'):Kept B ob done w':=by
 obtain ⟨sv,h1,h2,h3⟩:=h.var
 exact ⟨⟨sv,x.rd h1 (fun h=>h),h2.ext0 x,h3⟩,x.wok h.wok,h.lt,Nat.le_trans h.le x.size⟩
set_option maxHeartbeats 400000 in
set_option maxRecDepth 8000 in
theorem take_any (B ob pb nb:Nat) (n:Int) (done:List It) (x:It) (w:World) (h:Kept B ob done w) (hp:rd w pb 0=some (ptr ob)) (hn:rd w nb 0=some (.int .i64 n)) (h1:pb ≠ ob) (h2:nb ≠ ob) (h3:pb<B) (h4:nb<B)
  (hbig:done.length<4294967295) :
  CallK Try.prog 133 #[iV x,ptr pb,ptr nb] w fun v w'=>v = .bool (upTo n (done++[x]))/\Kept B ob (done++[x]) w'/\Ext (outF B ob) w w':=by
 obtain ⟨sv,hv,hS,hsi⟩:=h.var
 have hlt:=h.lt
 have hle:=h.le
 refine calls_of_W [.tmp 4] Try.func133 rfl Try.ntmps133 Try.results133 (by simp) fun e he=>?_
 have e0:e 0=iV x:=he 0 _ rfl
 have e1:e 1=ptr pb:=he 1 _ rfl
 have e2:e 2=ptr nb:=he 2 _ rfl
 clear he
 refine W_sq fun K hK=>(W_text [false,true] (by kernel_rfl) ?_);simp only [↓zZ1,↓reduceIte,Nat.reduceEqDiff,rg,ow_133]
 refine do_box (by simp only [evt];exact e0) fun w1 n1=>⟨trivial,?_⟩
 simp only [↓zZ1,↓reduceIte,Nat.reduceEqDiff,rg,ow_133]
 apply hK;clear hK K
 have s1:=n1.size
 have hp1:=n1.ext.rd hp (fun h=>h)
 have hn1:=n1.ext.rd hn (fun h=>h)
 have hv1:=n1.ext.rd hv (fun h=>h)
 have bx:rdA w1 w.heap.size 0 2=some (iV x):=n1.row.rdA 2 (by show 2<=2;omega)
 have M1:readsB (some (some [pb,ob,w.heap.size])) pb=true:=by simp [readsB]
 have M2:readsB (some (some [pb,ob,w.heap.size])) ob=true:=by simp [readsB]
 have M3:readsB (some (some [pb,ob,w.heap.size])) w.heap.size=true:=by simp [readsB]
 refine W_sq fun K hK=>(W_draw (some (some [pb,ob,w.heap.size])) (some 8) [(0,0,0),(0,1,0),(0,2,0),(0,3,0),(0,4,0),(1,5,0),(1,6,0),(0,7,0),(1,8,0)] mixed (by kernel_rfl) ?_);simp only [↓zZ1,↓reduceIte,Nat.reduceEqDiff,rg,ow_133,e1,ptr_eq,hp1,hv1,bx,M1,M2,M3]
 refine do_bsl rfl (bs_i1 x) fun w2 n2=>⟨.inr (keeps_on n2.ext fun y hy=>⟨?_,fun _ h=>h⟩),?_⟩
 ·rw [sz_dr]
  simp only [List.mem_cons,List.not_mem_nil,or_false] at hy
  omega
 simp only [↓zZ1,↓reduceIte,Nat.reduceEqDiff,rg,ow_133]
 have n2:=n2.od
 have s2:=n2.size
 have X2:=n1.ext.tr n2.ext
 have hS2:=hS.ext0 X2
 have hx2:SlV w2 2 (.slice (some ⟨w1.heap.size,0,none⟩) 1 1) 1 (Ei.cel x):=⟨rfl,.inr ⟨_,0,1,rfl,Nat.le_refl _,n2.row,n2.wok.R (Nat.le_refl _)⟩⟩
 refine do_append (by simp only [zZ2,Nat.reduceEqDiff,↓reduceIte,zZ3]<;>rfl) (by simp only [zZ2,Nat.reduceEqDiff,↓reduceIte,zZ3]<;>rfl) el_i rfl ni_i hS2 hx2 (by omega) (by decide) (Ei.one x) fun v3 w3 a3=>?_
 obtain ⟨hS3,hs3,x3⟩:=app_since (B:=B) a3 hsi (by omega)
 refine ⟨.inr fun y hy=>app_block a3 ?_ fun o c k hh=>?_,?_⟩
 ·simp only [List.mem_cons,List.not_mem_nil,or_false] at hy
  omega
 ·have g1:=hsi _ _ _ _ hh
  have g2:=hS.lt hh
  simp only [List.mem_cons,List.not_mem_nil,or_false] at hy
  omega
 simp only [↓zZ1,↓reduceIte,Nat.reduceEqDiff,rg,ow_133]
 have s3:=x3.size
 obtain ⟨a3',c3',hv3⟩:=hS3.shape
 refine do_store (by simp only [zZ2,Nat.reduceEqDiff,↓reduceIte,zZ3]<;>rfl) (by simp only [zZ2,Nat.reduceEqDiff,↓reduceIte,zZ3]<;>rfl) sz_25 (by rw [hv3];rfl) (x3.wok (X2.wok h.wok)) (by decide) (by rw [hv3];exact oc_one rfl rfl) fun w4 x4 r4 s4=>⟨.inl trivial,?_⟩
 simp only [↓zZ1,↓reduceIte,Nat.reduceEqDiff,rg,ow_133]
 apply hK;clear hK K
 have hrow:rd w4 ob 0=some v3:=by
  rw [hv3] at r4 ⊢
  exact (Row.cons.1 r4).1
 have X4:Ext (outF B ob) w w4:=by
  refine (X2.trans (H:=outF B ob) x3 (fun _ _ g=>g.elim) fun y o _ g=>.inr g).trans x4 (fun _ _ g=>g) fun y o _ g=>?_
  simp only [rng] at g
  exact .inl g.1
 have x34:Ext (fun y o=>y=ob/\True) w3 w4:=x4.mono fun y o _ g=>⟨g.1,trivial⟩
 have hS4:SlI w4 v3 (done++[x]):=by
  have:SlV w4 2 v3 (done.length+1) (flat Ei done++Ei.cel x):=hS3.ext x4 fun b o c hh k _ g=>by
   have:=hs3 _ _ _ _ hh
   simp only [rng] at g
   omega
  rw [SlI,List.length_append,List.length_singleton,flat_append,flat_one]
  exact this
 have hn4:=x4.rd (x3.rd (X2.rd hn fun h=>h) (by omega)) (by simp only [rng];omega)
 have hp4:=x4.rd (x3.rd (X2.rd hp fun h=>h) (by omega)) (by simp only [rng];omega)
 have hl4:((done++[x]).length:Int)=((done.length+1:Nat):Int):=by simp
 have K4:Kept B ob (done++[x]) w4:=⟨⟨v3,hrow,hS4,hs3⟩,x4.wok (x3.wok (X2.wok h.wok)),hlt,by have:=X4.size;omega⟩
 have X5:∀ k,Ext (outF B ob) w (dr w4 k):=fun k=>X4.tr (Ext.dr _ _ _)
 have K5:∀ k,Kept B ob (done++[x]) (dr w4 k):=fun k=>K4.ext (Ext.dr _ _ _)
 rw [hv3] at hrow
 by_cases hn1':n<1
 ·have t1:decide (n<1)=true:=by simp [hn1']
  refine W_sq fun K hK=>(W_draw (some none) none [(0,0,0),(0,1,0),(0,2,0),(0,3,0),(0,4,0),(0,5,0),(0,6,0),(0,7,0),(0,8,0),(0,9,0),(0,10,0)] mixed (by kernel_rfl) ?_);simp only [↓zZ1,↓reduceIte,Nat.reduceEqDiff,rg,ow_133,e1,e2,ptr_eq,hp4,hn4,hrow,t1]
  apply hK;clear hK K
  refine W_ret (endQ_1 (by simp only [upd_eq,Nat.reduceEqDiff,↓reduceIte]<;>rfl) ⟨?_,K5 _,X5 _⟩)
  simp [upTo,hn1']
 ·have t1:decide (n<1)=false:=by simp;omega
  refine W_sq fun K hK=>(W_draw (some none) none [(0,0,0),(0,1,0),(0,2,0),(0,3,0),(0,4,0),(0,5,0),(0,6,0),(0,7,0),(0,8,0),(0,9,0),(0,10,0)] mixed (by kernel_rfl) ?_);simp only [↓zZ1,↓reduceIte,Nat.reduceEqDiff,rg,ow_133,e1,e2,ptr_eq,hp4,hn4,hrow,t1]
  apply hK;clear hK K
  refine W_ret (endQ_1 (by simp only [upd_eq,Nat.reduceEqDiff,↓reduceIte]<;>rfl) ⟨?_,K5 _,X5 _⟩)
  simp [upTo,hn1']
def takeV (pb nb:Nat):Value:=.func (.func 133) #[] #[ptr pb,ptr nb]
theorem fn_take:isFn Try.prog 133=true:=by kernel_rfl
set_option maxHeartbeats 400000 in
set_option maxRecDepth 8000 in
theorem taker_mk (ob:Nat) (n:Int) (w:World) :
  CallK Try.prog 100 #[ptr ob,.int .i64 n] w fun v w'=>v=takeV w.heap.size (w.heap.size+1)/\Ext noF w w'/\rd w' w.heap.size 0=some (ptr ob)/\rd w' (w.heap.size+1) 0=some (.int .i64 n)/\w'.heap.size=w.heap.size+2:=by
 refine calls_of_W [.tmp 4] Try.func100 rfl Try.ntmps100 Try.results100 (by simp) fun e he=>?_
 have e0:e 0=ptr ob:=he 0 _ rfl
 have e1:e 1 = .int .i64 n:=he 1 _ rfl
 clear he
 refine W_sq fun K hK=>(W_text [false,false,true] (by kernel_rfl) ?_);simp only [↓zZ1,↓reduceIte,Nat.reduceEqDiff,rg]
 refine do_box (v:=ptr ob) (by simp only [evt];exact e0) fun w1 n1=>⟨trivial,?_⟩
 simp only [↓zZ1,↓reduceIte,Nat.reduceEqDiff,rg]
 refine do_box (v:=.int .i64 n) (by simp only [evt,upd_eq,Nat.reduceEqDiff,↓reduceIte];exact e1) fun w2 n2=>⟨trivial,?_⟩
 simp only [↓zZ1,↓reduceIte,Nat.reduceEqDiff,rg]
 apply hK;clear hK K
 have s1:=n1.size
 have s2:=n2.size
 have r1:rd w2 w.heap.size 0=some (ptr ob):=n2.ext.rd (Row.cons.1 (show Row w1 w.heap.size 0 [ptr ob] from n1.row)).1 fun h=>h
 have r2:rd w2 (w.heap.size+1) 0=some (.int .i64 n):=by rw [<-s1];exact (Row.cons.1 (show Row w2 w1.heap.size 0 [.int .i64 n] from n2.row)).1
 refine W_sq fun K hK=>(W_text [true,true] (by kernel_rfl) ?_);simp only [↓zZ1,↓reduceIte,Nat.reduceEqDiff,rg]
 apply hK;clear hK K
 refine W_ret (endQ_1 (by simp only [upd_eq,Nat.reduceEqDiff,↓reduceIte]<;>rfl) ⟨?_,n1.ext.tr n2.ext,r1,r2,by omega⟩)
 rw [takeV,s1,ptr_eq,ptr_eq]
def TS (ob pb nb B:Nat) (n:Int) (done:List It) (w:World):Prop:=Kept B ob done w/\rd w pb 0=some (ptr ob)/\rd w nb 0=some (.int .i64 n)
def ownR (ob:Nat) (w:World) (y _o:Nat):Prop:=y=ob\/∃ o n c,rd w ob 0=some (.slice (some ⟨y,o,none⟩) n c)
theorem app_own {w w':World} {sz n m:Nat} {v v':Value} {l l':List Value} (h:AppRes w sz v n m l l' v' w'):Ext (fun y _=>∃ o n c,v = .slice (some ⟨y,o,none⟩) n c) w w':=by
 rcases h.2 with ⟨_,rfl,_⟩ | ⟨b,o,cap,rfl,_,x,_⟩ | ⟨_,_,x,_⟩
 ·exact Ext.refl _ _
 ·exact x.mono fun y o' _ g=>⟨o,n,cap,by rw [g.1]⟩
 ·exact x.mono fun _ _ _ g=>g.elim
set_option maxHeartbeats 400000 in
set_option maxRecDepth 8000 in
theorem take_anyR (B ob pb nb:Nat) (n:Int) (done:List It) (x:It) (w:World) (h:Kept B ob done w) (hp:rd w pb 0=some (ptr ob)) (hn:rd w nb 0=some (.int .i64 n)) (h1:pb ≠ ob) (h2:nb ≠ ob) (h3:pb<B) (h4:nb<B)
  (hbig:done.length<4294967295) :
  CallK Try.prog 133 #[iV x,ptr pb,ptr nb] w fun v w'=>v = .bool (upTo n (done++[x]))/\Kept B ob (done++[x]) w'/\Ext (outF B ob) w w'/\Ext (ownR ob w) w w':=by
 obtain ⟨sv,hv,hS,hsi⟩:=h.var
 have hlt:=h.lt
 have hle:=h.le
 refine calls_of_W [.tmp 4] Try.func133 rfl Try.ntmps133 Try.results133 (by simp) fun e he=>?_
 have e0:e 0=iV x:=he 0 _ rfl
 have e1:e 1=ptr pb:=he 1 _ rfl
 have e2:e 2=ptr nb:=he 2 _ rfl
 clear he
 refine W_sq fun K hK=>(W_text [false,true] (by kernel_rfl) ?_);simp only [↓zZ1,↓reduceIte,Nat.reduceEqDiff,rg,ow_133]
 refine do_box (by simp only [evt];exact e0) fun w1 n1=>⟨trivial,?_⟩
 simp only [↓zZ1,↓reduceIte,Nat.reduceEqDiff,rg,ow_133]
 apply hK;clear hK K
 have s1:=n1.size
 have hp1:=n1.ext.rd hp (fun h=>h)
 have hn1:=n1.ext.rd hn (fun h=>h)
 have hv1:=n1.ext.rd hv (fun h=>h)
 have bx:rdA w1 w.heap.size 0 2=some (iV x):=n1.row.rdA 2 (by show 2<=2;omega)
 have M1:readsB (some (some [pb,ob,w.heap.size])) pb=true:=by simp [readsB]
 have M2:readsB (some (some [pb,ob,w.heap.size])) ob=true:=by simp [readsB]
 have M3:readsB (some (some [pb,ob,w.heap.size])) w.heap.size=true:=by simp [readsB]
 refine W_sq fun K hK=>(W_draw (some (some [pb,ob,w.heap.size])) (some 8) [(0,0,0),(0,1,0),(0,2,0),(0,3,0),(0,4,0),(1,5,0),(1,6,0),(0,7,0),(1,8,0)] mixed (by kernel_rfl) ?_);simp only [↓zZ1,↓reduceIte,Nat.reduceEqDiff,rg,ow_133,e1,ptr_eq,hp1,hv1,bx,M1,M2,M3]
 refine do_bsl rfl (bs_i1 x) fun w2 n2=>⟨.inr (keeps_on n2.ext fun y hy=>⟨?_,fun _ h=>h⟩),?_⟩
 ·rw [sz_dr]
  simp only [List.mem_cons,List.not_mem_nil,or_false] at hy
  omega
 simp only [↓zZ1,↓reduceIte,Nat.reduceEqDiff,rg,ow_133]
 have n2:=n2.od
 have s2:=n2.size
 have X2:=n1.ext.tr n2.ext
 have hS2:=hS.ext0 X2
 have hx2:SlV w2 2 (.slice (some ⟨w1.heap.size,0,none⟩) 1 1) 1 (Ei.cel x):=⟨rfl,.inr ⟨_,0,1,rfl,Nat.le_refl _,n2.row,n2.wok.R (Nat.le_refl _)⟩⟩
 refine do_append (by simp only [zZ2,Nat.reduceEqDiff,↓reduceIte,zZ3]<;>rfl) (by simp only [zZ2,Nat.reduceEqDiff,↓reduceIte,zZ3]<;>rfl) el_i rfl ni_i hS2 hx2 (by omega) (by decide) (Ei.one x) fun v3 w3 a3=>?_
 obtain ⟨hS3,hs3,x3⟩:=app_since (B:=B) a3 hsi (by omega)
 have xs3:=app_own a3
 refine ⟨.inr fun y hy=>app_block a3 ?_ fun o c k hh=>?_,?_⟩
 ·simp only [List.mem_cons,List.not_mem_nil,or_false] at hy
  omega
 ·have g1:=hsi _ _ _ _ hh
  have g2:=hS.lt hh
  simp only [List.mem_cons,List.not_mem_nil,or_false] at hy
  omega
 simp only [↓zZ1,↓reduceIte,Nat.reduceEqDiff,rg,ow_133]
 have s3:=x3.size
 obtain ⟨a3',c3',hv3⟩:=hS3.shape
 refine do_store (by simp only [zZ2,Nat.reduceEqDiff,↓reduceIte,zZ3]<;>rfl) (by simp only [zZ2,Nat.reduceEqDiff,↓reduceIte,zZ3]<;>rfl) sz_25 (by rw [hv3];rfl) (x3.wok (X2.wok h.wok)) (by decide) (by rw [hv3];exact oc_one rfl rfl) fun w4 x4 r4 s4=>⟨.inl trivial,?_⟩
 simp only [↓zZ1,↓reduceIte,Nat.reduceEqDiff,rg,ow_133]
 apply hK;clear hK K
 have hrow:rd w4 ob 0=some v3:=by
  rw [hv3] at r4 ⊢
  exact (Row.cons.1 r4).1
 have X4:Ext (outF B ob) w w4:=by
  refine (X2.trans (H:=outF B ob) x3 (fun _ _ g=>g.elim) fun y o _ g=>.inr g).trans x4 (fun _ _ g=>g) fun y o _ g=>?_
  simp only [rng] at g
  exact .inl g.1
 have R4:Ext (ownR ob w) w w4:=(X2.trans (H:=ownR ob w) xs3 (fun _ _ g=>g.elim) fun y o _ ⟨o',n',c',g⟩=>.inr ⟨o',n',c',by rw [hv,g]⟩).trans x4 (fun _ _ g=>g) fun y o _ g=>.inl g.1
 have x34:Ext (fun y o=>y=ob/\True) w3 w4:=x4.mono fun y o _ g=>⟨g.1,trivial⟩
 have hS4:SlI w4 v3 (done++[x]):=by
  have:SlV w4 2 v3 (done.length+1) (flat Ei done++Ei.cel x):=hS3.ext x4 fun b o c hh k _ g=>by
   have:=hs3 _ _ _ _ hh
   simp only [rng] at g
   omega
  rw [SlI,List.length_append,List.length_singleton,flat_append,flat_one]
  exact this
 have hn4:=x4.rd (x3.rd (X2.rd hn fun h=>h) (by omega)) (by simp only [rng];omega)
 have hp4:=x4.rd (x3.rd (X2.rd hp fun h=>h) (by omega)) (by simp only [rng];omega)
 have hl4:((done++[x]).length:Int)=((done.length+1:Nat):Int):=by simp
 have K4:Kept B ob (done++[x]) w4:=⟨⟨v3,hrow,hS4,hs3⟩,x4.wok (x3.wok (X2.wok h.wok)),hlt,by have:=X4.size;omega⟩
 have X5:∀ k,Ext (outF B ob) w (dr w4 k):=fun k=>X4.tr (Ext.dr _ _ _)
 have K5:∀ k,Kept B ob (done++[x]) (dr w4 k):=fun k=>K4.ext (Ext.dr _ _ _)
 rw [hv3] at hrow
 by_cases hn1':n<1
 ·have t1:decide (n<1)=true:=by simp [hn1']
  refine W_sq fun K hK=>(W_draw (some none) none [(0,0,0),(0,1,0),(0,2,0),(0,3,0),(0,4,0),(0,5,0),(0,6,0),(0,7,0),(0,8,0),(0,9,0),(0,10,0)] mixed (by kernel_rfl) ?_);simp only [↓zZ1,↓reduceIte,Nat.reduceEqDiff,rg,ow_133,e1,e2,ptr_eq,hp4,hn4,hrow,t1]
  apply hK;clear hK K
  refine W_ret (endQ_1 (by simp only [upd_eq,Nat.reduceEqDiff,↓reduceIte]<;>rfl) ⟨?_,K5 _,X5 _,R4.tr (Ext.dr _ _ _)⟩)
  simp [upTo,hn1']
 ·have t1:decide (n<1)=false:=by simp;omega
  refine W_sq fun K hK=>(W_draw (some none) none [(0,0,0),(0,1,0),(0,2,0),(0,3,0),(0,4,0),(0,5,0),(0,6,0),(0,7,0),(0,8,0),(0,9,0),(0,10,0)] mixed (by kernel_rfl) ?_);simp only [↓zZ1,↓reduceIte,Nat.reduceEqDiff,rg,ow_133,e1,e2,ptr_eq,hp4,hn4,hrow,t1]
  apply hK;clear hK K
  refine W_ret (endQ_1 (by simp only [upd_eq,Nat.reduceEqDiff,↓reduceIte]<;>rfl) ⟨?_,K5 _,X5 _,R4.tr (Ext.dr _ _ _)⟩)
  simp [upTo,hn1']
theorem cb_takeR (ob pb nb B:Nat) (n:Int) (h1:pb ≠ ob) (h2:nb ≠ ob) (h3:pb<B) (h4:nb<B) (done:List It) (x:It) (w:World) (hS:TS ob pb nb B n done w) (hlen:done.length<4294967295) :
  CallK Try.prog 133 (#[] ++ #[itV x] ++ #[ptr pb,ptr nb]) w fun v w'=>v = .bool (upTo n (done++[x]))/\TS ob pb nb B n (done++[x]) w'/\Ext (ownR ob w) w w':=by
 refine CallK_mono (take_anyR B ob pb nb n done x w hS.1 hS.2.1 hS.2.2 h1 h2 h3 h4 hlen) ?_
 rintro v w' ⟨rfl,hK,X,R⟩
 refine ⟨rfl,⟨hK,X.rd hS.2.1 ?_,X.rd hS.2.2 ?_⟩,R⟩
 ·rintro (h | h)<;>omega
 ·rintro (h | h)<;>omega
theorem TS.lt {ob pb nb B:Nat} {n:Int} {done:List It} {w:World} (h:TS ob pb nb B n done w) {y o:Nat} (g:ownR ob w y o):y<w.heap.size/\outF B ob y o:=by
 rcases g with rfl | ⟨o',n',c,g⟩
 ·exact ⟨wok_lt h.1.wok,.inl rfl⟩
 ·obtain ⟨sv,v1,v2,v3⟩:=h.1.var
  rw [v1] at g;cases g
  exact ⟨SlV.lt v2 rfl,.inr (v3 _ _ _ _ rfl)⟩
theorem TS.ext {ob pb nb B:Nat} {n:Int} {done:List It} {w w':World} {G:Nat->Nat->Prop} (h:TS ob pb nb B n done w) (x:Ext G w w') (hG:∀ y o,G y o->y<B/\y ≠ ob/\y ≠ pb/\y ≠ nb):TS ob pb nb B n done w':=by
 obtain ⟨⟨⟨sv,v1,v2,v3⟩,h2,h3,h4⟩,h5,h6⟩:=h
 exact ⟨⟨⟨sv,x.rd v1 fun g=>(hG _ _ g).2.1 rfl,v2.ext x fun b o c hv i _ g=>by have:=v3 _ _ _ _ hv;have:=(hG _ _ g).1;omega,v3⟩,x.wok h2,h3,Nat.le_trans h4 x.size⟩,x.rd h5 fun g=>(hG _ _ g).2.2.1 rfl,x.rd h6 fun g=>(hG _ _ g).2.2.2 rfl⟩
theorem TS.st {ob pb nb B:Nat} {n:Int} {done:List It} {w w':World} {G:Nat->Nat->Prop} (h:TS ob pb nb B n done w) (x:Ext G w w') (hG:∀ o,¬ G ob o) {y o:Nat} (g:ownR ob w' y o):ownR ob w y o:=by
 rcases g with rfl | ⟨o',n',c,g⟩
 ·exact .inl rfl
 ·obtain ⟨sv,v1,v2,v3⟩:=h.1.var
  rw [x.rd v1 (hG _)] at g
  exact .inr ⟨o',n',c,by rw [v1];exact g⟩
def Ent (iso:Int) (mn mx:Nat) (w:World) (e:Qe) (S:List It) (F:Nat->Nat->Prop):Prop :=
 (e.2=none/\S=[])\/∃ b h,e.2=some b/\Tr E iso mn mx h w mn b S F
theorem Ent.ext {iso:Int} {mn mx:Nat} {w w':World} {e:Qe} {S:List It} {F G:Nat->Nat->Prop} (h:Ent iso mn mx w e S F) (x:Ext G w w') (hG:∀ y o,F y o->¬ G y o):Ent iso mn mx w' e S F :=
 h.imp id fun ⟨b,h',h1,h2⟩=>⟨b,h',h1,h2.ext x hG⟩
theorem leE_asc {ord:List Int} {a b:Qe}:leE ord a b ↔ rkI ord a.1<=rkI ord b.1:=by
 unfold leE
 show decide _=false ↔ _
 simp
set_option maxHeartbeats 1600000 in
set_option maxRecDepth 8000 in
theorem scan_nil (lb c:Nat) (a:Option Addr) (f:Value) (w0:World) (hq:rd w0 lb 3=some (.slice a (0:Nat) c)) (hn:rd w0 lb 2=some (.int .i64 0)) (hac:(a=none/\c=0)\/∃ bi oi,a=some ⟨bi,oi,none⟩) :
  CallK Try.prog 99 #[ptr lb,f] w0 fun _ w'=>Ext noF w0 w':=by
 refine calls_of_W [] Try.func99 rfl Try.ntmps99 Try.results99 (by simp) fun e he=>?_
 have h0:e 0=ptr lb:=he 0 _ rfl
 have h1:e 1=f:=he 1 _ rfl
 clear he
 have hsl:∃ v,slcX (some 3) (.slice a (0:Nat) c) none (some (.int .i64 c)) none=some v:=by
  rcases hac with ⟨rfl,rfl⟩ | ⟨bi,oi,rfl⟩
  ·exact ⟨_,slcX_nil 3 0 .i64 rfl⟩
  ·exact ⟨_,slcX_hi 3 bi oi 0 c c .i64 (Nat.le_refl _)⟩
 obtain ⟨pv,hsl⟩:=hsl
 refine W_sq fun K hK=>(W_draw (some none) none [(0,0,0),(0,1,0),(0,2,0),(0,3,0),(0,4,0),(0,5,0),(0,6,0),(0,7,0),(0,8,0),(0,9,0),(0,10,0)] mixed (by kernel_rfl) ?_);simp only [↓zZ1,↓reduceIte,Nat.reduceEqDiff,rg,ow_99,h0,ptr_eq,hq,hsl]
 apply hK;clear hK K
 refine W_seq ?_
 refine W_sq fun K hK=>(W_text [true] (by kernel_rfl) ?_);simp only [↓zZ1,↓reduceIte,Nat.reduceEqDiff,rg,ow_99]
 apply hK;clear hK K
 refine W_block (W_loop (fun mm e w=>mm=0/\w=dr w0 w.drawn/\e 0=ptr lb/\e 5 = .int .i64 (0:Nat)) 0 ⟨rfl,rfl,by simp only [upd_eq,Nat.reduceEqDiff,↓reduceIte];exact h0,by simp only [upd_eq,Nat.reduceEqDiff,↓reduceIte];rfl⟩ ?_)
 clear h0 h1 e
 rintro mm e w ⟨rfl,hw,h0,h5⟩
 have hnp1:rd w lb 2=some (.int .i64 (0:Nat)):=by rw [hw];exact hn
 have hq1:rd w lb 3=some (.slice a (0:Nat) c):=by rw [hw];exact hq
 have t0:=lt_ff 0 0 (Nat.le_refl _)
 refine W_seq ?_
 refine W_sq fun K hK=>(W_text [true,true,true,true,true,true] (by kernel_rfl) ?_);simp only [↓zZ1,↓reduceIte,Nat.reduceEqDiff,rg,ow_99,h0,h5,ptr_eq,hnp1,t0]
 apply hK;clear hK K
 refine W_false (by simp only [zZ2,Nat.reduceEqDiff,↓reduceIte,zZ3]<;>rfl) (W_exit ?_)
 simp only [andThen_exit,inBlk_exit,↓reduceIte,andThen_normal]
 show W _ _ _ _ _ _
 have xw:Ext noF w0 w:=by rw [hw];exact Ext.dr _ _ _
 refine W_block (W_loop (fun mm e u=>mm=0/\Ext noF w u/\e 0=ptr lb) 0 ⟨rfl,Ext.refl _ _,by first | exact h0 | (simp only [upd_eq,Nat.reduceEqDiff,↓reduceIte];exact h0)⟩ ?_)
 clear hw h0 h5 e
 rintro mm e u ⟨rfl,xu,h0⟩
 refine W_block ?_
 refine W_sq fun K hK=>(W_text [true,false,true,true,true,false,false,true] (by kernel_rfl) ?_);simp only [↓zZ1,↓reduceIte,Nat.reduceEqDiff,rg,ow_99,h0]
 refine do_call fn_132 (by simp only [zZ2,Nat.reduceEqDiff,↓reduceIte,zZ4]<;>rfl) (pop_nil lb c a u (xu.rd hq1 fun g=>g)) ?_
 rintro _ w1 ⟨rfl,x1⟩
 refine ⟨trivial,?_⟩
 simp only [↓zZ1,↓reduceIte,Nat.reduceEqDiff,rg,ow_99]
 refine do_alloc z_eit fun w2 n2=>⟨trivial,?_⟩
 simp only [↓zZ1,↓reduceIte,Nat.reduceEqDiff,rg,ow_99]
 refine do_store (v:=eV ((0,0),none)) (by simp only [zZ2,Nat.reduceEqDiff,↓reduceIte,zZ3]<;>rfl) (by simp only [zZ2,Nat.reduceEqDiff,↓reduceIte,zZ3]<;>rfl) sz_205 (eV_len _) n2.wok (by decide) (eV_oc _) fun w3 x3 r3 s3=>⟨trivial,?_⟩
 simp only [↓zZ1,↓reduceIte,Nat.reduceEqDiff,rg,ow_99]
 apply hK;clear hK K
 have x2:=n2.ext.trans x3 (fun _ _ g=>g) fun y o hy g=>(by have:=g.1;omega:noF y o)
 refine W_seq ?_
 refine W_sq fun K hK=>(W_text [true,true] (by kernel_rfl) ?_);simp only [↓zZ1,↓reduceIte,Nat.reduceEqDiff,rg,ow_99]
 apply hK;clear hK K
 refine W_true (by simp only [zZ2,Nat.reduceEqDiff,↓reduceIte,zZ3]<;>rfl) (W_ret ?_)
 simp only [andThen_ret,inBlk_ret]
 exact endQ_0 (((xw.tr xu).tr x1).tr x2)
set_option maxHeartbeats 4000000 in
set_option maxRecDepth 8000 in
theorem lscan_any (B M:Nat) (iso:Int) (mn mx:Nat) (ord:List Int) (lb:Nat) (lv:Value) (q:List Qe) (sg:Qe->List It) (fp:Qe->Nat->Nat->Prop) (bi oi cap:Nat) (w0:World) (S0:SE Eq' w0 lb 3 q bi oi cap) (hcap:cap<9223372036854775808) (hlv:rd w0 lb 0=some lv) (hls:LessAt B M w0 lv ord) (hnp:rd w0 lb 2=some (.int .i64 0))
  (hlM:M<=lb) (hbM:M<=bi) (hwk:wok w0 lb 4) (hbig:q.length<=2147483648) (hh:Heap (leE ord) q) (hent:∀ e ∈ q,Ent iso mn mx w0 e (sg e) (fp e)) (hfp:∀ e ∈ q,∀ y o,fp e y o->y ≠ lb/\y ≠ bi)
  (g:Nat) (first cap0:Array Value) (hg:isFn Try.prog g=true) (G:Nat->Nat->Prop) (R:World->Nat->Nat->Prop) (S:List It->World->Prop) (go:List It->Bool)
  (hcall:∀ done x w,S done w->done.length<4294967295->CallK Try.prog g (first ++ #[itV x]++cap0) w fun v w'=>v = .bool (go (done++[x]))/\S (done++[x]) w'/\Ext (R w) w w') (hRG:∀ done w y o,S done w->R w y o->y<w.heap.size/\G y o) (hS0:∀ done w w',S done w->Ext noF w w'->S done w')
  (hRst:∀ done w w',S done w->Ext (fun y o=>y=lb\/y=bi) w w'->∀ y o,R w' y o->R w y o) (hgo:∀ l,go l=true) (hGx:∀ o,¬ G lb o) (hGb:∀ o,¬ G bi o) (hGf:∀ e ∈ q,∀ y o o',fp e y o->¬ G y o') (hGl:∀ y o,G y o->M<=y\/y<B)
  (hSx:∀ done w w',S done w->Ext (fun y o=>y=lb\/y=bi) w w'->S done w') (hS:S [] w0) (hlen:(runQ Prod.fst sg q).length<=4294967295) :
  CallK Try.prog 99 #[ptr lb,.func (.func g) first cap0] w0 fun _ w'=>∃ ps:List Qe,ps.Perm q/\ps.Pairwise (leE ord)/\S (runQ Prod.fst sg ps) w'/\Ext (fun y o=>G y o\/(y=lb/\2<=o)\/y=bi) w0 w':=by
 refine calls_of_W [] Try.func99 rfl Try.ntmps99 Try.results99 (by simp) fun e he=>?_
 have h0:e 0=ptr lb:=he 0 _ rfl
 have h1:e 1 = .func (.func g) first cap0:=he 1 _ rfl
 clear he
 have hle:=S0.le
 have hd0:=S0.hd
 have hC:Cb (.func (.func g) first cap0) G S go:=⟨⟨g,first,cap0,rfl,hg,fun done x w h hl=>CallK_mono (hcall done x w h hl) fun v w' ⟨h1,h2,h3⟩=>⟨h1,h2,h3.mono fun y o _ k=>(hRG _ _ _ _ h k).2⟩⟩,hS0⟩
 have hsl:=slcX_hi 3 bi oi q.length cap cap .i64 (Nat.le_refl _)
 refine W_sq fun K hK=>(W_draw (some none) none [(0,0,0),(0,1,0),(0,2,0),(0,3,0),(0,4,0),(0,5,0),(0,6,0),(0,7,0),(0,8,0),(0,9,0),(0,10,0)] mixed (by kernel_rfl) ?_);simp only [↓zZ1,↓reduceIte,Nat.reduceEqDiff,rg,ow_99,h0,ptr_eq,hd0,hsl]
 apply hK;clear hK K
 refine W_seq ?_
 refine W_sq fun K hK=>(W_text [true] (by kernel_rfl) ?_);simp only [↓zZ1,↓reduceIte,Nat.reduceEqDiff,rg,ow_99]
 apply hK;clear hK K
 refine W_block (W_loop (fun mm e w=>mm=0/\w=dr w0 w.drawn/\e 0=ptr lb/\e 1 = .func (.func g) first cap0/\e 5 = .int .i64 (0:Nat)) 0 ⟨rfl,rfl,by simp only [upd_eq,Nat.reduceEqDiff,↓reduceIte];exact h0,by simp only [upd_eq,Nat.reduceEqDiff,↓reduceIte];exact h1,by simp only [upd_eq,Nat.reduceEqDiff,↓reduceIte];rfl⟩ ?_)
 clear h0 h1 e
 rintro mm e w ⟨rfl,hw,h0,h1,h5⟩
 have hnp1:rd w lb 2=some (.int .i64 (0:Nat)):=by rw [hw];exact hnp
 have t0:=lt_ff 0 0 (Nat.le_refl _)
 refine W_seq ?_
 refine W_sq fun K hK=>(W_text [true,true,true,true,true,true] (by kernel_rfl) ?_);simp only [↓zZ1,↓reduceIte,Nat.reduceEqDiff,rg,ow_99,h0,h5,ptr_eq,hnp1,t0]
 apply hK;clear hK K
 refine W_false (by simp only [zZ2,Nat.reduceEqDiff,↓reduceIte,zZ3]<;>rfl) (W_exit ?_)
 simp only [andThen_exit,inBlk_exit,↓reduceIte,andThen_normal]
 show W _ _ _ _ _ _
 have xw:Ext noF w0 (dr w (w.drawn+1))/\Ext noF w0 w:=by rw [hw];exact ⟨(Ext.dr _ _ _).tr (Ext.dr _ _ _),Ext.dr _ _ _⟩
 have GG:∀ {u u':World},Ext noF u u'->Ext (fun y o=>G y o\/(y=lb/\2<=o)\/y=bi) u u':=fun x=>x.mono fun _ _ _ g=>g.elim
 refine W_block (W_loop (fun mm e w=>∃ ps q':List Qe,mm=q'.length/\(ps++q').Perm q/\ps.Pairwise (leE ord)/\(∀ a ∈ ps,∀ b ∈ q',leE ord a b)/\Heap (leE ord) q'/\SE Eq' w lb 3 q' bi oi cap/\rd w lb 2=some (.int .i64 ps.length)/\S (runQ Prod.fst sg ps) w/\Ext (fun y o=>G y o\/(y=lb/\2<=o)\/y=bi) w0 w/\e 0=ptr lb/\e 1 = .func (.func g) first cap0) q.length
  ⟨[],q,rfl,List.Perm.refl _,List.Pairwise.nil,by simp,hh,?_,?_,?_,?_,by first | exact h0 | (simp only [upd_eq,Nat.reduceEqDiff,↓reduceIte];exact h0),by first | exact h1 | (simp only [upd_eq,Nat.reduceEqDiff,↓reduceIte];exact h1)⟩ ?_)
 ·exact S0.ext0 (by first | exact xw.1 | exact xw.2)
 ·exact (by first | exact xw.1 | exact xw.2:Ext noF w0 _).rd hnp fun g=>g
 ·exact hS0 _ _ _ hS (by first | exact xw.1 | exact xw.2)
 ·exact GG (by first | exact xw.1 | exact xw.2)
 clear hw h0 h1 h5 hnp1 t0 xw
 clear e w
 rintro mm e w ⟨ps,q',rfl,hp,hps,hpq,hh',S1,hn,hS1,X,h0,h1⟩
 have hpl:=hp.length_eq
 rw [List.length_append] at hpl
 refine W_block ?_
 cases q' with
 | nil =>
  have hd:=S1.hd
  refine W_sq fun K hK=>(W_text [true,false,true,true,true,false,false,true] (by kernel_rfl) ?_);simp only [↓zZ1,↓reduceIte,Nat.reduceEqDiff,rg,ow_99,h0]
  refine do_call fn_132 (by simp only [zZ2,Nat.reduceEqDiff,↓reduceIte,zZ4]<;>rfl) (pop_nil lb cap _ w hd) ?_
  rintro _ w1 ⟨rfl,x1⟩
  refine ⟨trivial,?_⟩
  simp only [↓zZ1,↓reduceIte,Nat.reduceEqDiff,rg,ow_99]
  refine do_alloc z_eit fun w2 n2=>⟨trivial,?_⟩
  simp only [↓zZ1,↓reduceIte,Nat.reduceEqDiff,rg,ow_99]
  refine do_store (v:=eV ((0,0),none)) (by simp only [zZ2,Nat.reduceEqDiff,↓reduceIte,zZ3]<;>rfl) (by simp only [zZ2,Nat.reduceEqDiff,↓reduceIte,zZ3]<;>rfl) sz_205 (eV_len _) n2.wok (by decide) (eV_oc _) fun w3 x3 r3 s3=>⟨trivial,?_⟩
  simp only [↓zZ1,↓reduceIte,Nat.reduceEqDiff,rg,ow_99]
  apply hK;clear hK K
  have x2:=n2.ext.trans x3 (fun _ _ g=>g) fun y o hy g=>(by have:=g.1;omega:noF y o)
  refine W_seq ?_
  refine W_sq fun K hK=>(W_text [true,true] (by kernel_rfl) ?_);simp only [↓zZ1,↓reduceIte,Nat.reduceEqDiff,rg,ow_99]
  apply hK;clear hK K
  refine W_true (by simp only [zZ2,Nat.reduceEqDiff,↓reduceIte,zZ3]<;>rfl) (W_ret ?_)
  simp only [andThen_ret,inBlk_ret]
  rw [List.append_nil] at hp
  exact endQ_0 ⟨ps,hp,hps,hS0 _ _ _ hS1 (x1.tr x2),X.tr (GG (x1.tr x2))⟩
 | cons y0 q1 =>
  have hlv1:=X.rd hlv fun g=>by
   rcases g with g | g | g
   ·exact hGx _ g
   ·exact absurd g.2 (by decide)
   ·exact S0.ne g.symm
  have hls1:LessAt B M w lv ord:=hls.ext X fun y o g=>by
   rcases g with g | g | g
   ·exact hGl y o g
   ·exact .inl (by omega)
   ·exact .inl (by omega)
  have hle1:=S1.le
  have hne:=S1.ne
  refine W_sq fun K hK=>(W_text [true,false,true,true,true,false,false,true] (by kernel_rfl) ?_);simp only [↓zZ1,↓reduceIte,Nat.reduceEqDiff,rg,ow_99,h0]
  refine do_call fn_132 (by simp only [zZ2,Nat.reduceEqDiff,↓reduceIte,zZ4]<;>rfl) (pop_some B M ord lb lv (y0::q1) bi oi cap w S1 hlv1 hls1 hlM hbM (X.wok hwk) (by simp) (by omega) hh') ?_
  rintro _ w1 ⟨x,q',rfl,hpx,hh2,hxq,S2,x1⟩
  refine ⟨trivial,?_⟩
  simp only [↓zZ1,↓reduceIte,Nat.reduceEqDiff,rg,ow_99]
  refine do_alloc z_eit fun w2 n2=>⟨trivial,?_⟩
  simp only [↓zZ1,↓reduceIte,Nat.reduceEqDiff,rg,ow_99]
  refine do_store (v:=eV x) (by simp only [zZ2,Nat.reduceEqDiff,↓reduceIte,zZ3]<;>rfl) (by simp only [zZ2,Nat.reduceEqDiff,↓reduceIte,zZ3]<;>rfl) sz_205 (eV_len _) n2.wok (by decide) (eV_oc _) fun w3 x3 r3 s3=>⟨trivial,?_⟩
  simp only [↓zZ1,↓reduceIte,Nat.reduceEqDiff,rg,ow_99]
  apply hK;clear hK K
  have hxl:(y0::q1).length=q'.length+1:=hpx.length_eq
  have x2:=n2.ext.trans x3 (fun _ _ g=>g) fun y o hy g=>(by have:=g.1;omega:noF y o)
  have s12:=x1.size
  have s2:=n2.size
  have slb:=S1.lt
  have X1:Ext (fun y o=>(y=lb/\2<=o)\/y=bi) w w3:=(x1.mono fun y o _ g=>(by
   rcases g with g | g
   ·exact .inl ⟨g.1,by omega⟩
   ·exact .inr g.1:(y=lb/\2<=o)\/y=bi)).tr (x2.mono fun _ _ _ g=>g.elim)
  have S3:=S2.ext0 x2
  have hd3:=S3.hd
  have hn3:rd w3 lb 2=some (.int .i64 ps.length):=x2.rd (x1.rd hn fun g=>by
   rcases g with g | g
   ·exact absurd g.2 (by decide)
   ·exact hne g.1.symm) fun g=>g
  have b3:Row w3 w1.heap.size 0 (eV x).cells.toList:=r3
  refine W_seq ?_
  refine W_sq fun K hK=>(W_text [true,true] (by kernel_rfl) ?_);simp only [↓zZ1,↓reduceIte,Nat.reduceEqDiff,rg,ow_99]
  apply hK;clear hK K
  refine W_false (by simp only [zZ2,Nat.reduceEqDiff,↓reduceIte,zZ3]<;>rfl) (W_skip ?_)
  show W _ _ _ _ _ _
  have vx:rdA w3 w1.heap.size 0 3=some (eV x):=b3.rdA 3 (by show 3<=3;omega)
  have c1:IntKind.i64.wrap ((cap:Int)-(ps.length:Int))=((cap-ps.length:Nat):Int):=wsub cap ps.length (by omega) hcap
  have c2:IntKind.i64.wrap (((cap-ps.length:Nat):Int)-1)=((cap-ps.length-1:Nat):Int):=wsub1 _ (by omega) (by omega)
  have hix:cap-ps.length-1<cap:=by omega
  have hsl2:=slcX_hi 3 bi oi q'.length cap cap .i64 (Nat.le_refl _)
  refine W_sq fun K hK=>(W_semi (some none) (.take false 0 (.take false 1 (.take false 2 (.take true 3 (.take false 4 (.take false 5 (.take false 6 (.take true 7 (.take true 8 (.take false 9 (.take false 10 (.take false 11 (.take false 12 (.take true 13 (.take true 14 (.take false 15 (.take false 16 (.take false 17 (.take true 18 (.take false 19 (.take false 20 (.take true 21 (.take false 22 (.bar 23 .nil)))))))))))))))))))))))) mixed (by kernel_rfl) ?_);simp only [↓rgm,↓zZ1,↓reduceIte,Nat.reduceEqDiff,rg,ow_99,h0,ptr_eq,hd3,hn3,hsl2,c1,c2,hix,vx]
  have hm3:=Nat.mul_le_mul_right 3 (show cap-ps.length-1+1<=cap by omega)
  refine do_store (v:=eV x) (by simp only [zZ2,Nat.reduceEqDiff,↓reduceIte,zZ3]<;>rfl) (by simp only [zZ2,Nat.reduceEqDiff,↓reduceIte,zZ3]<;>rfl) sz_205 (eV_len _) (S3.ext0 (Ext.dr noF _ (w3.drawn+1))).wi (by rw [Eq_sz];omega) (eV_oc _) fun w4 x4 r4 s4=>⟨by first | exact trivial | exact .inl trivial,?_⟩
  simp only [↓zZ1,↓reduceIte,Nat.reduceEqDiff,rg,ow_99,↓rgm]
  apply hK;clear hK K
  have x4:=x4.od
  have S4:SE Eq' w4 lb 3 q' bi oi cap:=⟨x4.rd S3.hd fun g=>hne g.1.symm,x4.row S3.row fun i hi g=>by
   rw [flat_length,Eq_sz] at hi
   have h2:oi+(cap-ps.length-1)*3<=oi+i:=g.2.1
   have:=Nat.mul_le_mul_right 3 (show q'.length<=cap-ps.length-1 by omega)
   omega,x4.wok S3.wi,S3.le,x4.wok S3.hok,S3.ne⟩
  have hn4:rd w4 lb 2=some (.int .i64 ps.length):=x4.rd hn3 fun g=>hne g.1.symm
  have wk4:wok w4 lb 4:=x4.wok (x2.wok (x1.wok (X.wok hwk)))
  have c3:=wadd1 ps.length (by omega)
  refine W_sq fun K hK=>(W_text [true,true,true,true,true,true,true,false] (by kernel_rfl) ?_);simp only [↓zZ1,↓reduceIte,Nat.reduceEqDiff,rg,ow_99,h0,ptr_eq,hn4,c3]
  refine do_store (by simp only [zZ2,Nat.reduceEqDiff,↓reduceIte,zZ3]<;>rfl) (by simp only [zZ2,Nat.reduceEqDiff,↓reduceIte,zZ3]<;>rfl) sz_3 rfl wk4 (by decide) (oc_one rfl rfl) fun w5 x5 r5 s5=>⟨trivial,?_⟩
  simp only [↓zZ1,↓reduceIte,Nat.reduceEqDiff,rg,ow_99]
  apply hK;clear hK K
  have S5:SE Eq' w5 lb 3 q' bi oi cap:=S4.ext x5 fun y o g k=>by
   have h1:=k.1;have h2:2<=o:=k.2.1;have h3:o<2+1:=k.2.2
   rcases g with g | g
   ·omega
   ·exact hne (g.1.symm.trans h1)
  have hn5:rd w5 lb 2=some (.int .i64 (ps++[x]).length):=by
   rw [List.length_append];exact (Row.cons.1 r5).1
  have X5:Ext (fun y o=>(y=lb/\2<=o)\/y=bi) w w5:=(X1.tr (x4.mono fun y o _ g=>.inr g.1)).tr (x5.mono fun y o _ g=>.inl ⟨g.1,g.2.1⟩)
  have hS5:S (runQ Prod.fst sg ps) w5:=hSx _ _ _ hS1 (X5.mono fun y o _ g=>g.imp (fun g=>g.1) id)
  have b5:Row w5 w1.heap.size 0 (eV x).cells.toList:=x5.row (x4.row b3 fun i _ g=>by have:=g.1;omega) fun i _ g=>by have:=g.1;omega
  have XX5:Ext (fun y o=>G y o\/(y=lb/\2<=o)\/y=bi) w0 w5:=X.tr (X5.mono fun _ _ _ g=>.inr g)
  have hp2:(ps++x::q').Perm q:=(List.Perm.append_left ps hpx.symm).trans hp
  have hxm:x ∈ q:=hp2.mem_iff.1 (by simp)
  have hrl:(runQ Prod.fst sg ps).length+(1+(sg x).length)<=4294967295:=by
   have:=(hp2.flatMap_right fun e=>Prod.fst e::sg e).length_eq
   rw [List.flatMap_append,List.flatMap_cons,List.length_append,List.length_append,List.length_cons] at this
   have hl2:(q.flatMap fun e=>Prod.fst e::sg e).length<=4294967295:=hlen
   unfold runQ
   omega
  have ix5:rdA w5 w1.heap.size 0 2=some (itV x.1):=by
   have:Row w5 w1.heap.size 0 ([.int .i64 x.1.1,.int .i64 x.1.2]++[.pointer (x.2.map fun b=>⟨b,0,none⟩)]):=b5
   exact (Row.append.1 this).1.rdA 2 (Nat.le_refl _)
  refine W_seq ?_
  refine W_sq fun K hK=>(W_text [true,true,true,false,true] (by kernel_rfl) ?_);simp only [↓zZ1,↓reduceIte,Nat.reduceEqDiff,rg,ow_99,h1,ptr_eq,ix5]
  refine do_callv (by simp only [zZ2,Nat.reduceEqDiff,↓reduceIte,zZ3]<;>rfl) hg rfl (by simp only [evt,upd_eq,Nat.reduceEqDiff,↓reduceIte,maT,maC,maN];exact hcall _ x.1 _ hS5 (by omega)) ?_
  rintro _ w6 ⟨rfl,hS6,xr6⟩
  refine ⟨trivial,?_⟩
  simp only [↓zZ1,↓reduceIte,Nat.reduceEqDiff,rg,ow_99,hgo]
  apply hK;clear hK K
  refine W_false (by simp only [zZ2,Nat.reduceEqDiff,↓reduceIte,zZ3]<;>rfl) (W_skip ?_)
  show W _ _ _ _ _ _
  have b6:rd w6 w1.heap.size 2=some (.pointer (x.2.map fun b=>⟨b,0,none⟩)):=by
   have:Row w5 w1.heap.size 0 ([.int .i64 x.1.1,.int .i64 x.1.2]++[.pointer (x.2.map fun b=>⟨b,0,none⟩)]):=b5
   refine xr6.rd (Row.cons.1 (Row.append.1 this).2).1 fun k=>?_
   have:=(hRG _ _ _ _ hS1 (hRst _ _ _ hS1 (X5.mono fun y o _ g=>g.imp (fun g=>g.1) id) _ _ k)).1
   omega
  have x6:Ext G w5 w6:=xr6.mono fun y o _ k=>(hRG _ _ _ _ hS5 k).2
  have fin:∀ (w7:World),S (runQ Prod.fst sg (ps++[x])) w7->Ext G w5 w7->∃ ps' q'':List Qe,q'.length=q''.length/\(ps'++q'').Perm q/\ps'.Pairwise (leE ord)/\(∀ a ∈ ps',∀ b ∈ q'',leE ord a b)/\Heap (leE ord) q''/\SE Eq' w7 lb 3 q'' bi oi cap/\rd w7 lb 2=some (.int .i64 ps'.length)/\S (runQ Prod.fst sg ps') w7/\Ext (fun y o=>G y o\/(y=lb/\2<=o)\/y=bi) w0 w7:=fun w7 hS7 x7=>by
   refine ⟨ps++[x],q',rfl,by rw [List.append_assoc];exact hp2,?_,?_,hh2,S5.ext x7 fun y o g k=>?_,x7.rd hn5 (hGx _),hS7,XX5.tr (x7.mono fun _ _ _ g=>.inl g)⟩
   ·refine List.pairwise_append.2 ⟨hps,List.pairwise_singleton _ _,fun a ha b hb=>?_⟩
    have:b=x:=by simpa using hb
    subst this
    exact hpq a ha b (hpx.mem_iff.2 (by simp))
   ·intro a ha b hb
    rcases List.mem_append.1 ha with ha | ha
    ·exact hpq a ha b (hpx.mem_iff.2 (by simp [hb]))
    ·have:a=x:=by simpa using ha
     subst this
     exact hxq b hb
   ·rcases g with g | g
    ·rw [g.1] at k;exact hGx _ k
    ·rw [g.1] at k;exact hGb _ k
  have hro:runQ Prod.fst sg (ps++[x])=(runQ Prod.fst sg ps++[x.1])++sg x:=by
   unfold runQ;rw [List.flatMap_append];simp
  rcases hent x hxm with ⟨hx2,hsx⟩ | ⟨nb,h',hx2,htr⟩
  ·rw [hx2] at b6
   refine W_sq fun K hK=>(W_text [true,true,true] (by kernel_rfl) ?_);simp only [↓zZ1,↓reduceIte,Nat.reduceEqDiff,rg,ow_99,ptr_eq,b6,Option.map_none]
   apply hK;clear hK K
   refine W_false (by simp only [zZ2,Nat.reduceEqDiff,↓reduceIte,zZ3]<;>rfl) (W_skip ?_)
   simp only [inBlk_normal,andThen_normal]
   have hS7:S (runQ Prod.fst sg (ps++[x])) w6:=by rw [hro,hsx,List.append_nil];exact hS6
   obtain ⟨ps',q'',g1,g2,g3,g4,g5,g6,g7,g8,g9⟩:=fin w6 hS7 x6
   exact ⟨q''.length,by omega,ps',q'',rfl,g2,g3,g4,g5,g6,g7,g8,g9,by simp only [upd_eq,Nat.reduceEqDiff,↓reduceIte];exact h0,by simp only [upd_eq,Nat.reduceEqDiff,↓reduceIte];exact h1⟩
  ·rw [hx2] at b6
   have e2:(some nb).map (fun b=>(⟨b,0,none⟩:Addr))=some ⟨nb,0,none⟩:=rfl
   refine W_sq fun K hK=>(W_text [true,true,true] (by kernel_rfl) ?_);simp only [↓zZ1,↓reduceIte,Nat.reduceEqDiff,rg,ow_99,ptr_eq,b6,e2]
   apply hK;clear hK K
   refine W_true (by simp only [zZ2,Nat.reduceEqDiff,↓reduceIte,zZ3]<;>rfl) ?_
   have htr6:Tr E iso mn mx h' w6 mn nb (sg x) (fp x):=(htr.ext XX5 fun y o g k=>by
    rcases k with k | k | k
    ·exact hGf x hxm y o o g k
    ·exact (hfp x hxm y o g).1 k.1
    ·exact (hfp x hxm y o g).2 k).ext x6 fun y o g k=>hGf x hxm y o o g k
   refine W_sq fun K hK=>(W_text [true,true,true,false,true] (by kernel_rfl) ?_);simp only [↓zZ1,↓reduceIte,Nat.reduceEqDiff,rg,ow_99,ptr_eq,b6,e2,h1]
   refine do_call fn_131 (vs:=#[ptr nb,.func (.func g) first cap0]) (by simp only [zZ2,Nat.reduceEqDiff,↓reduceIte,zZ4]<;>rfl) (extract_any iso mn mx _ G S go hC h' nb mn (sg x) (fp x) _ w6 htr6 (hGf x hxm) hS6 (by rw [List.length_append,List.length_singleton];omega)) ?_
   rintro _ w7 ⟨rfl,hS7,x7⟩
   refine ⟨trivial,?_⟩
   rw [hand_all go hgo] at hS7
   simp only [hand_all go hgo]
   simp only [↓zZ1,↓reduceIte,Nat.reduceEqDiff,rg,ow_99]
   apply hK;clear hK K
   refine W_false (by simp only [zZ2,Nat.reduceEqDiff,↓reduceIte,zZ3]<;>rfl) (W_skip ?_)
   simp only [inBlk_normal,andThen_normal]
   obtain ⟨ps',q'',g1,g2,g3,g4,g5,g6,g7,g8,g9⟩:=fin w7 (by rw [hro];exact hS7) (x6.tr x7)
   exact ⟨q''.length,by omega,ps',q'',rfl,g2,g3,g4,g5,g6,g7,g8,g9,by simp only [upd_eq,Nat.reduceEqDiff,↓reduceIte];exact h0,by simp only [upd_eq,Nat.reduceEqDiff,↓reduceIte];exact h1⟩
set_option maxHeartbeats 4000000 in
set_option maxRecDepth 8000 in
theorem reb_merge (m d b p q bc i0 j cl cr:Nat) (iso cb:Int) (ks ls rs:List It) (k:It) (ps lp rp:List (Option Nat)) (chl chr:Value) (w0 w:World) (G:Nat->Nat->Prop) (hd:2<=d) (hd':d<=128) (hc:Cfg w0 m iso d) (hG:∀ o,¬ G m o)
  (s:Ss w0 G w [ndO E iso 1 b cb ks (ptr bc),ndO E iso 0 p (cl:Nat) ls chl,ndO E iso 0 q (cr:Nat) rs chr,kdO (ptr bc) ps,kdO chl lp,kdO chr rp]) (hj:(i0=j/\j<ks.length)\/(i0=ks.length/\j+1=ks.length)) (hkl:ks.length<=2*d-1) (hk:ks[j]? = some k) (hps:ps.length=ks.length+1) (hp:ps[j]? = some (some p)) (hq:ps[j+1]? = some (some q))
  (hch:(chl = .pointer none/\chr = .pointer none/\lp=[]/\rp=[])\/∃ lc rc,chl=ptr lc/\chr=ptr rc/\lp.length=ls.length+1/\rp.length=rs.length+1) (hll:ls.length<=2*d-1) (hrl:rs.length<=2*d-1) (hcl:cl<2305843009213693952) (hcr:cr<2305843009213693952) (hlt:ls.length+rs.length<2*d-1) :
  CallK Try.prog 151 #[ptr m,ptr b,.int .i64 (i0:Nat)] w fun _ w'=>Ss w0 G w' [ndO E iso 1 b cb (ks.eraseIdx j) (ptr bc),ndO E iso 0 p ((cl+(cr+1):Nat):Int) (ls++k::rs) chl,ndO E iso 0 q (cr:Nat) rs chr,kdO (ptr bc) (ps.eraseIdx (j+1)),kdO chl (lp++rp),kdO chr rp]:=by
 have hjn:j<ks.length:=(List.getElem?_eq_some_iff.1 hk).1
 refine calls_of_W [] Try.func151 rfl Try.ntmps151 Try.results151 (by simp) fun e he=>?_
 have e0:e 0=ptr m:=he 0 _ rfl
 have e1:e 1=ptr b:=he 1 _ rfl
 have e2:e 2 = .int .i64 (i0:Nat):=he 2 _ rfl
 clear he
 refine W_sqx fun J hJ=>?_
 have hend:∀ e,e 0=ptr m->e 1=ptr b->e 2 = .int .i64 j->J e w:=by
  clear e0 e1 e2 e
  intro e e0 e1 e2
  refine hJ _ _ ?_;clear hJ J
  obtain ⟨nb,no,nc,on,un,vn⟩:=s.nd 0 rfl
  obtain ⟨xb,xo,xc,ox,ux⟩:=s.kd 3 rfl
  obtain ⟨lb,lo,lq,ol,ul,vl⟩:=s.nd 1 rfl
  obtain ⟨tb,to,tq,ot,ut,vt⟩:=s.nd 2 rfl
  have hiso:=(hc.ext s.x fun o _ _=>hG o).iso
  have hjp:j<ps.length:=by omega
  refine W_sq fun K hK=>(W_text [true,true,true,true,true,true,true,true,true,false,true] (by kernel_rfl) ?_);simp only [↓zZ1,↓reduceIte,Nat.reduceEqDiff,rg,ow_151,e0,e1,e2,ptr_eq,on.h3,ox.hd,hjp]
  refine do_call fn_96 (by simp only [zZ2,Nat.reduceEqDiff,↓reduceIte,zZ4]<;>rfl) (isoLoad_any m xb (xo+j) p true iso _ hiso (ox.ptr_at hp) ol.h0) ?_
  rintro _ w1 ⟨rfl,r1⟩
  refine ⟨trivial,?_⟩
  simp only [↓zZ1,↓reduceIte,Nat.reduceEqDiff,rg,ow_151]
  apply hK;clear hK K
  have X1:Ext noF w w1:=r1.ext
  have on:=on.ext X1 fun _ _ _ g=>g
  have ox:=ox.ext0 X1
  have ot:=ot.ext X1 fun _ _ _ g=>g
  have hiso:=X1.rd hiso fun g=>g
  have q1:=wadd1 j (by omega)
  have hjp:j+1<ps.length:=by omega
  refine W_sq fun K hK=>(W_text [true,true,true,true,true,true,true,true,true,true,false,true] (by kernel_rfl) ?_);simp only [↓zZ1,↓reduceIte,Nat.reduceEqDiff,rg,ow_151,e0,e1,e2,ptr_eq,on.h3,ox.hd,hjp,q1]
  refine do_call fn_96 (by simp only [zZ2,Nat.reduceEqDiff,↓reduceIte,zZ4]<;>rfl) (isoLoad_any m xb (xo+(j+1)) q true iso _ hiso (ox.ptr_at hq) ot.h0) ?_
  rintro _ w2 ⟨rfl,r2⟩
  refine ⟨trivial,?_⟩
  simp only [↓zZ1,↓reduceIte,Nat.reduceEqDiff,rg,ow_151]
  apply hK;clear hK K
  have s2:=(s.ext0 X1).ext0 r2.ext
  refine W_st s2 e0 e1 e2 (by simp only [upd_eq,Nat.reduceEqDiff,↓reduceIte]<;>rfl) (by simp only [upd_eq,Nat.reduceEqDiff,↓reduceIte]<;>rfl) ?_
  clear s s2 e0 e1 e2 on un vn ox ux ol ul vl ot ut vt hiso X1 r1 r2 hjp q1
  clear e;intro e w s e0 e1 e2 e6 e7
  obtain ⟨lb,lo,lq,ol,ul,vl⟩:=s.nd 1 rfl
  obtain ⟨tb,to,tq,ot,ut,vt⟩:=s.nd 2 rfl
  have q1:=wadd ls.length rs.length (by omega)
  have hmx:=(hc.ext s.x fun o _ _=>hG o).mx
  have hb:decide (((ls.length+rs.length:Nat):Int)<((2*d-1:Nat):Int))=true:=by simp;omega
  refine W_sq fun K hK=>(W_draw (some none) none [(0,0,0),(0,1,0),(0,2,0),(0,3,0),(0,4,0),(0,5,0),(0,6,0),(0,7,0),(0,8,0),(0,9,0),(0,10,0),(0,11,0),(0,12,0),(0,13,0),(0,14,0),(0,15,0)] mixed (by kernel_rfl) ?_);simp only [↓zZ1,↓reduceIte,Nat.reduceEqDiff,rg,ow_151,e0,e6,e7,ptr_eq,ol.h2,ot.h2,q1,hmx,hb]
  apply hK;clear hK K
  refine W_true (by simp only [zZ2,Nat.reduceEqDiff,↓reduceIte,zZ3]<;>rfl) ?_
  have s2:=s.ext0 (Ext.dr noF w (w.drawn+1))
  refine W_st s2 e0 e1 e2 e6 e7 ?_
  clear s s2 e0 e1 e2 e6 e7 ol ul vl ot ut vt q1 hmx hb
  clear e;intro e w s e0 e1 e2 e6 e7
  obtain ⟨lb,lo,lq,ol,ul,vl⟩:=s.nd 1 rfl
  obtain ⟨nb,no,nq,on,un,vn⟩:=s.nd 0 rfl
  have hkv:=it_at on.row hk
  have hb_p:=wok_lt ol.wb
  have L0:=on1_0 p
  refine W_sq fun K hK=>(W_semi (some (some [p])) (.take false 0 (.take false 1 (.take false 2 (.take false 3 (.take false 4 (.take false 5 (.take false 6 (.take false 7 (.take true 8 (.take false 9 (.take false 10 (.take true 11 (.act 12 (.bar 13 (.take false 14 (.take false 15 (.bar 16 .nil))))))))))))))))) mixed (by kernel_rfl) ?_);simp only [↓rgm,↓zZ1,↓reduceIte,Nat.reduceEqDiff,rg,ow_151,e0,e1,e2,e6,e7,ptr_eq,ol.h2,on.h2,hjn,hkv,L0,rB_on]
  refine do_bsl rfl (rb_k k) fun w1 n1=>⟨.inr (n1.keep _ (lt1 hb_p)),?_⟩
  simp only [↓zZ1,↓reduceIte,Nat.reduceEqDiff,rg,ow_151,↓rgm]
  have n1:=n1.od
  have a1:=ol.se.ext0 n1.ext
  refine do_append (by simp only [zZ2,Nat.reduceEqDiff,↓reduceIte,zZ3]<;>rfl) (by simp only [zZ2,Nat.reduceEqDiff,↓reduceIte,zZ3]<;>rfl) rb_eli rfl ni_25 a1.slV (u:=.slice (some ⟨w.heap.size,0,none⟩) 1 1) (m:=1) (l':=E.cel k) ⟨rfl,.inr ⟨_,0,1,rfl,Nat.le_refl _,n1.row,n1.wok.R (Nat.le_refl _)⟩⟩ (by omega) (by decide) (E.one _) fun v2 w2 a2=>⟨trivial,?_⟩
  obtain ⟨gb,go,gc,rfl,wk2,-,nx⟩:=a1.app' (ls:=[k]) rfl (by rw [flat_one];exact a2)
  simp only [↓zZ1,↓reduceIte,Nat.reduceEqDiff,rg,ow_151,↓rgm]
  refine do_store (by simp only [zZ2,Nat.reduceEqDiff,↓reduceIte,zZ3]<;>rfl) (by simp only [zZ2,Nat.reduceEqDiff,↓reduceIte,zZ3]<;>rfl) sz_25 rfl wk2 (by decide) (oc_one rfl rfl) fun w3 x3 r3 s3=>⟨trivial,?_⟩
  simp only [↓zZ1,↓reduceIte,Nat.reduceEqDiff,rg,ow_151,↓rgm]
  apply hK;clear hK K
  obtain ⟨g1,g2,g3⟩:=nx w3 x3 (Row.cons.1 r3).1
  have s2:Ss w0 G w3 [ndO E iso 1 b cb ks (ptr bc),ndO E iso 0 p (cl:Nat) (ls++[k]) chl,ndO E iso 0 q (cr:Nat) rs chr,kdO (ptr bc) ps,kdO chl lp,kdO chr rp]:=ul g1 (n1.ext.trans g2 (fun _ _ h=>h.elim) fun _ _ _ h=>h) (g3.imp id fun h=>⟨(by have:=n1.size;omega),Nat.zero_le _⟩)
  refine W_st s2 e0 e1 e2 e6 e7 ?_
  clear s s2 e0 e1 e2 e6 e7 ol ul vl on un vn wk2 nx x3 r3 s3 g1 g2 g3 hkv hb_p n1 a1 a2 L0
  clear e;intro e w s e0 e1 e2 e6 e7
  obtain ⟨lb,lo,lq,ol,ul,vl⟩:=s.nd 1 rfl
  obtain ⟨tb,to,tq,ot,ut,vt⟩:=s.nd 2 rfl
  refine W_sq fun K hK=>(W_semi (some none) (.take false 0 (.take false 1 (.take false 2 (.take false 3 (.take true 4 (.take false 5 (.take false 6 (.take false 7 (.take true 8 (.bar 9 (.take false 10 (.take false 11 (.bar 12 .nil))))))))))))) mixed (by kernel_rfl) ?_);simp only [↓rgm,↓zZ1,↓reduceIte,Nat.reduceEqDiff,rg,ow_151,e0,e1,e2,e6,e7,ptr_eq,ol.h2,ot.h2]
  have a1:=ol.se.ext0 (Ext.dr noF w (w.drawn+1))
  refine do_append (by simp only [zZ2,Nat.reduceEqDiff,↓reduceIte,zZ3]<;>rfl) (by simp only [zZ2,Nat.reduceEqDiff,↓reduceIte,zZ3]<;>rfl) rb_eli rfl ni_25 a1.slV (ot.se.ext0 (Ext.dr noF w (w.drawn+1))).slV (by simp only [List.length_append,List.length_singleton];omega) (by decide) (flat_oc E _) fun v2 w2 a2=>⟨trivial,?_⟩
  obtain ⟨gb,go,gc,rfl,wk2,-,nx⟩:=a1.app' (ls:=rs) rfl a2
  simp only [↓zZ1,↓reduceIte,Nat.reduceEqDiff,rg,ow_151,↓rgm]
  refine do_store (by simp only [zZ2,Nat.reduceEqDiff,↓reduceIte,zZ3]<;>rfl) (by simp only [zZ2,Nat.reduceEqDiff,↓reduceIte,zZ3]<;>rfl) sz_25 rfl wk2 (by decide) (oc_one rfl rfl) fun w3 x3 r3 s3=>⟨trivial,?_⟩
  simp only [↓zZ1,↓reduceIte,Nat.reduceEqDiff,rg,ow_151,↓rgm]
  apply hK;clear hK K
  obtain ⟨g1,g2,g3⟩:=nx w3 x3 (Row.cons.1 r3).1
  have s2:Ss w0 G w3 [ndO E iso 1 b cb ks (ptr bc),ndO E iso 0 p (cl:Nat) ((ls++[k])++rs) chl,ndO E iso 0 q (cr:Nat) rs chr,kdO (ptr bc) ps,kdO chl lp,kdO chr rp]:=ul g1 ((Ext.dr noF w (w.drawn+1)).trans g2 (fun _ _ h=>h.elim) fun _ _ _ h=>h) (g3.imp id fun h=>⟨h,Nat.zero_le _⟩)
  refine W_st s2 e0 e1 e2 e6 e7 ?_
  clear s s2 e0 e1 e2 e6 e7 ol ul vl ot ut vt wk2 nx x3 r3 s3 g1 g2 g3 a1 a2
  clear e;intro e w s e0 e1 e2 e6 e7
  refine W_sqx fun J hJ=>?_
  have hend:∀ e w,Ss w0 G w [ndO E iso 1 b cb ks (ptr bc),ndO E iso 0 p (cl:Nat) ((ls++[k])++rs) chl,ndO E iso 0 q (cr:Nat) rs chr,kdO (ptr bc) ps,kdO chl (lp++rp),kdO chr rp]->e 0=ptr m->e 1=ptr b->e 2 = .int .i64 j->e 6=ptr p->e 7=ptr q->J e w:=by
   clear s e0 e1 e2 e6 e7 e w
   intro e w s e0 e1 e2 e6 e7
   refine hJ _ _ ?_;clear hJ J
   obtain ⟨lb,lo,lq,ol,ul,vl⟩:=s.nd 1 rfl
   obtain ⟨tb,to,tq,ot,ut,vt⟩:=s.nd 2 rfl
   have q1:=wadd1 cr (by omega)
   have q2:=wadd cl (cr+1) (by omega)
   refine W_sq fun K hK=>(W_draw (some none) (some 12) [(0,0,0),(0,1,0),(0,2,0),(0,3,0),(0,4,0),(0,5,0),(0,6,0),(0,7,0),(0,8,0),(0,9,0),(0,10,0),(0,11,0),(1,12,0)] mixed (by kernel_rfl) ?_);simp only [↓zZ1,↓reduceIte,Nat.reduceEqDiff,rg,ow_151,e0,e1,e2,e6,e7,ptr_eq,ol.h1,ot.h1,q1,q2]
   refine do_store (by simp only [zZ2,Nat.reduceEqDiff,↓reduceIte,zZ3]<;>rfl) (by simp only [zZ2,Nat.reduceEqDiff,↓reduceIte,zZ3]<;>rfl) sz_3 rfl ol.wb (by decide) (oc_one rfl rfl) fun w3 x3 r3 s3=>⟨(by first | exact trivial | exact .inl trivial),?_⟩
   simp only [↓zZ1,↓reduceIte,Nat.reduceEqDiff,rg,ow_151,↓rgm]
   apply hK;clear hK K
   have s2:Ss w0 G w3 [ndO E iso 1 b cb ks (ptr bc),ndO E iso 0 p ((cl+(cr+1):Nat):Int) ((ls++[k])++rs) chl,ndO E iso 0 q (cr:Nat) rs chr,kdO (ptr bc) ps,kdO chl (lp++rp),kdO chr rp]:=vl x3.od (Row.cons.1 r3).1
   refine W_st s2 e0 e1 e2 e6 e7 ?_
   clear s s2 e0 e1 e2 e6 e7 ol ul vl ot ut vt x3 r3 s3  q1 q2
   clear e;intro e w s e0 e1 e2 e6 e7
   obtain ⟨nb,no,nq,on,un,vn⟩:=s.nd 0 rfl
   have q1:=wadd1 j (by omega)
   have hil:j<ks.length:=hjn
   have hic:=on.se.le
   obtain ⟨o1,h1,h1',-,k1⟩:=on.se.from E_sz (j) (by omega)
   have h1':=h1' (by omega)
   try simp only [Nat.mul_one] at h1'
   subst h1'
   have i1:j<=ks.length:=by omega
   obtain ⟨o2,h2,-,v2,-⟩:=on.se.from E_sz (j+1) (by omega)
   have i2:(j+1)<=ks.length:=by omega
   refine W_sq fun K hK=>(W_draw (some none) (some 13) [(0,0,0),(0,1,0),(0,2,0),(0,3,0),(0,4,0),(0,5,0),(0,6,0),(0,7,0),(0,8,0),(0,9,0),(0,10,0),(0,11,0),(0,12,0),(1,13,0)] mixed (by kernel_rfl) ?_);simp only [↓zZ1,↓reduceIte,Nat.reduceEqDiff,rg,ow_151,e0,e1,e2,e6,e7,ptr_eq,on.h2,q1,i1,h1,i2,h2]
   refine do_copy (by simp only [zZ2,Nat.reduceEqDiff,↓reduceIte,zZ3]<;>rfl) (by simp only [zZ2,Nat.reduceEqDiff,↓reduceIte,zZ3]<;>rfl) rb_eli (SlV.ext0 v2 (Ext.dr noF w (w.drawn+1))) ((Ext.dr noF w (w.drawn+1)).wok k1) (flat_oc E _) fun w3 x3 r3 s3=>⟨(by first | exact trivial | exact .inl trivial),?_⟩
   simp only [↓zZ1,↓reduceIte,Nat.reduceEqDiff,rg,ow_151,↓rgm]
   apply hK;clear hK K
   have hm:min (ks.length-(j+1)) (ks.length-j)=ks.length-1-j:=by omega
   rw [hm] at x3 r3
   rw [List.take_of_length_le (by rw [flat_length,List.length_drop,E_sz];omega)] at r3
   obtain ⟨z,g1,g2⟩:=on.se.down (i:=j) hil (by simp only [E_sz,Nat.mul_one];(try simp only [Nat.mul_one] at x3);exact x3.od) (by simp only [E_sz,Nat.mul_one];(try simp only [Nat.mul_one] at r3);exact r3)
   have s2:Ss w0 G w3 [ndO E iso 1 b cb (ks.eraseIdx j++[z]) (ptr bc),ndO E iso 0 p ((cl+(cr+1):Nat):Int) ((ls++[k])++rs) chl,ndO E iso 0 q (cr:Nat) rs chr,kdO (ptr bc) ps,kdO chl (lp++rp),kdO chr rp]:=un g1 g2 (.inl ⟨rfl,rfl,rfl⟩)
   refine W_st s2 e0 e1 e2 e6 e7 ?_
   clear s s2 e0 e1 e2 e6 e7 on un vn x3 r3 s3 g1 g2 hm hil hic v2 h2 i2 q1 h1 i1 k1
   clear e;intro e w s e0 e1 e2 e6 e7
   obtain ⟨nb,no,nq,on,un,vn⟩:=s.nd 0 rfl
   have hA:(ks.eraseIdx j++[z]).length=ks.length:=by rw [List.length_append,List.length_singleton];have:=List.length_eraseIdx_of_lt hjn;omega
   have h2:=on.se.hd
   rw [hA] at h2
   have q1:=wsub1 (ks.length) (by omega) (by omega)
   have hi:ks.length-1<ks.length:=by omega
   have z4:=zIt_at (hc.ext s.x fun o _ _=>hG o)
   refine W_sq fun K hK=>(W_draw (some none) (some 15) [(0,0,0),(0,1,0),(0,2,0),(0,3,0),(0,4,0),(0,5,0),(0,6,0),(0,7,0),(0,8,0),(0,9,0),(0,10,0),(0,11,0),(0,12,0),(0,13,0),(0,14,0),(1,15,0)] mixed (by kernel_rfl) ?_);simp only [↓zZ1,↓reduceIte,Nat.reduceEqDiff,rg,ow_151,e0,e1,e2,e6,e7,ptr_eq,h2,q1,hi,z4]
   refine do_store (by simp only [zZ2,Nat.reduceEqDiff,↓reduceIte,zZ3]<;>rfl) (by simp only [zZ2,Nat.reduceEqDiff,↓reduceIte,zZ3]<;>rfl) sz_33 (rb_len zIt) on.se.wi (by have:=on.se.le;rw [E_sz];rw [hA] at this;omega) (rb_oc zIt) fun w3 x3 r3 s3=>⟨(by first | exact trivial | exact .inl trivial),?_⟩
   simp only [↓zZ1,↓reduceIte,Nat.reduceEqDiff,rg,ow_151,↓rgm]
   apply hK;clear hK K
   obtain ⟨g1,g2⟩:=on.se.set (i:=ks.length-1) (x:=zIt) (by rw [hA];omega) (by simp only [E_sz,Nat.mul_one];exact x3.od) (by simp only [E_sz,Nat.mul_one];exact r3)
   have hs:(ks.eraseIdx j++[z]).set (ks.length-1) zIt=ks.eraseIdx j++[zIt]:=by rw [show ks.length-1=(ks.eraseIdx j).length by have:=List.length_eraseIdx_of_lt hjn;omega];exact set_last
   rw [hs] at g1
   have s2:Ss w0 G w3 [ndO E iso 1 b cb (ks.eraseIdx j++[zIt]) (ptr bc),ndO E iso 0 p ((cl+(cr+1):Nat):Int) ((ls++[k])++rs) chl,ndO E iso 0 q (cr:Nat) rs chr,kdO (ptr bc) ps,kdO chl (lp++rp),kdO chr rp]:=un g1 g2 (.inl ⟨rfl,rfl,rfl⟩)
   refine W_st s2 e0 e1 e2 e6 e7 ?_
   clear s s2 e0 e1 e2 e6 e7 on un vn x3 r3 s3 g1 g2 hA h2 q1 hi z4 hs
   clear e;intro e w s e0 e1 e2 e6 e7
   obtain ⟨nb,no,nq,on,un,vn⟩:=s.nd 0 rfl
   have hA:((ks.eraseIdx j)++[zIt]).length=ks.length:=by rw [List.length_append,List.length_singleton];have:=List.length_eraseIdx_of_lt hjn;omega
   have h2:=on.se.hd
   have h4:=on.se.le
   rw [hA] at h2 h4
   have q1:=wsub1 (ks.length) (by omega) (by omega)
   have hi:ks.length-1<=nq:=by omega
   refine W_sq fun K hK=>(W_draw (some none) (some 14) [(0,0,0),(0,1,0),(0,2,0),(0,3,0),(0,4,0),(0,5,0),(0,6,0),(0,7,0),(0,8,0),(0,9,0),(0,10,0),(0,11,0),(0,12,0),(0,13,0),(1,14,0)] mixed (by kernel_rfl) ?_);simp only [↓zZ1,↓reduceIte,Nat.reduceEqDiff,rg,ow_151,e0,e1,e2,e6,e7,ptr_eq,h2,q1,hi]
   refine do_store (by simp only [zZ2,Nat.reduceEqDiff,↓reduceIte,zZ3]<;>rfl) (by simp only [zZ2,Nat.reduceEqDiff,↓reduceIte,zZ3]<;>rfl) sz_25 rfl on.se.hok (by decide) (oc_one rfl rfl) fun w3 x3 r3 s3=>⟨(by first | exact trivial | exact .inl trivial),?_⟩
   simp only [↓zZ1,↓reduceIte,Nat.reduceEqDiff,rg,ow_151,↓rgm]
   apply hK;clear hK K
   obtain ⟨g1,g2⟩:=on.se.cut x3.od (by rw [show ((ks.eraseIdx j)).length=ks.length-1 by have:=List.length_eraseIdx_of_lt hjn;omega];exact (Row.cons.1 r3).1)
   have s2:Ss w0 G w3 [ndO E iso 1 b cb (ks.eraseIdx j) (ptr bc),ndO E iso 0 p ((cl+(cr+1):Nat):Int) ((ls++[k])++rs) chl,ndO E iso 0 q (cr:Nat) rs chr,kdO (ptr bc) ps,kdO chl (lp++rp),kdO chr rp]:=un g1 g2 (.inl ⟨rfl,rfl,rfl⟩)
   refine W_st s2 e0 e1 e2 e6 e7 ?_
   clear s s2 e0 e1 e2 e6 e7 on un vn x3 r3 s3 g1 g2 hA h2 h4 q1 hi
   clear e;intro e w s e0 e1 e2 e6 e7
   have hjp:j+1<ps.length:=by omega
   obtain ⟨nb,no,nq,on,un,vn⟩:=s.nd 0 rfl
   obtain ⟨xb,xo,xq,ox,ux⟩:=s.kd 3 rfl
   have q1:=wadd1 j (by omega)
   have q2:IntKind.i64.wrap ((j:Int)+2)=((j+1+1:Nat):Int):=wadd j 2 (by omega)
   have hil:(j+1)<ps.length:=hjp
   have hic:=ox.le
   obtain ⟨o1,h1,h1',-,k1⟩:=ox.from Eo_sz ((j+1)) (by omega)
   have h1':=h1' (by omega)
   try simp only [Nat.mul_one] at h1'
   subst h1'
   have i1:(j+1)<=ps.length:=by omega
   obtain ⟨o2,h2,-,v2,-⟩:=ox.from Eo_sz ((j+1)+1) (by omega)
   have i2:((j+1)+1)<=ps.length:=by omega
   refine W_sq fun K hK=>(W_draw (some none) (some 18) [(0,0,0),(0,1,0),(0,2,0),(0,3,0),(0,4,0),(0,5,0),(0,6,0),(0,7,0),(0,8,0),(0,9,0),(0,10,0),(0,11,0),(0,12,0),(0,13,0),(0,14,0),(0,15,0),(0,16,0),(0,17,0),(1,18,0)] mixed (by kernel_rfl) ?_);simp only [↓zZ1,↓reduceIte,Nat.reduceEqDiff,rg,ow_151,e0,e1,e2,e6,e7,ptr_eq,on.h3,ox.hd,q1,q2,i1,h1,i2,h2]
   refine do_copy (by simp only [zZ2,Nat.reduceEqDiff,↓reduceIte,zZ3]<;>rfl) (by simp only [zZ2,Nat.reduceEqDiff,↓reduceIte,zZ3]<;>rfl) rb_elk (SlV.ext0 v2 (Ext.dr noF w (w.drawn+1))) ((Ext.dr noF w (w.drawn+1)).wok k1) (flat_oc Eo _) fun w3 x3 r3 s3=>⟨(by first | exact trivial | exact .inl trivial),?_⟩
   simp only [↓zZ1,↓reduceIte,Nat.reduceEqDiff,rg,ow_151,↓rgm]
   apply hK;clear hK K
   have hm:min (ps.length-((j+1)+1)) (ps.length-(j+1))=ps.length-1-(j+1):=by omega
   rw [hm] at x3 r3
   rw [List.take_of_length_le (by rw [flat_length,List.length_drop,Eo_sz];omega)] at r3
   obtain ⟨z,g1,g2⟩:=ox.down (i:=(j+1)) hil (by simpa only [Eo_sz,Nat.mul_one,Nat.zero_mul,Nat.add_zero] using x3.od) (by simpa only [Eo_sz,Nat.mul_one,Nat.zero_mul,Nat.add_zero] using r3)
   have s2:Ss w0 G w3 [ndO E iso 1 b cb (ks.eraseIdx j) (ptr bc),ndO E iso 0 p ((cl+(cr+1):Nat):Int) ((ls++[k])++rs) chl,ndO E iso 0 q (cr:Nat) rs chr,kdO (ptr bc) (ps.eraseIdx (j+1)++[z]),kdO chl (lp++rp),kdO chr rp]:=ux g1 g2 (.inl ⟨rfl,rfl,rfl⟩)
   refine W_st s2 e0 e1 e2 e6 e7 ?_
   clear s s2 e0 e1 e2 e6 e7 on un vn ox ux x3 r3 s3 g1 g2 hm hil hic v2 h2 i2 q1 q2 h1 i1 k1
   clear e;intro e w s e0 e1 e2 e6 e7
   obtain ⟨nb,no,nq,on,un,vn⟩:=s.nd 0 rfl
   obtain ⟨xb,xo,xq,ox,ux⟩:=s.kd 3 rfl
   have hA:(ps.eraseIdx (j+1)++[z]).length=ps.length:=by rw [List.length_append,List.length_singleton];have:=List.length_eraseIdx_of_lt hjp;omega
   have h2:=ox.hd
   rw [hA] at h2
   have q1:=wsub1 (ps.length) (by omega) (by omega)
   have hi:ps.length-1<ps.length:=by omega
   refine W_sq fun K hK=>(W_draw (some none) (some 15) [(0,0,0),(0,1,0),(0,2,0),(0,3,0),(0,4,0),(0,5,0),(0,6,0),(0,7,0),(0,8,0),(0,9,0),(0,10,0),(0,11,0),(0,12,0),(0,13,0),(0,14,0),(1,15,0)] mixed (by kernel_rfl) ?_);simp only [↓zZ1,↓reduceIte,Nat.reduceEqDiff,rg,ow_151,e0,e1,e2,e6,e7,ptr_eq,on.h3,h2,q1,hi]
   refine do_store (by simp only [zZ2,Nat.reduceEqDiff,↓reduceIte,zZ3]<;>rfl) (by simp only [zZ2,Nat.reduceEqDiff,↓reduceIte,zZ3]<;>rfl) sz_96 rfl ox.wi (by have:=ox.le;rw [Eo_sz];rw [hA] at this;omega) (oc_one rfl rfl) fun w3 x3 r3 s3=>⟨(by first | exact trivial | exact .inl trivial),?_⟩
   simp only [↓zZ1,↓reduceIte,Nat.reduceEqDiff,rg,ow_151,↓rgm]
   apply hK;clear hK K
   obtain ⟨g1,g2⟩:=ox.set (i:=ps.length-1) (x:=none) (by rw [hA];omega) (by rw [Eo_sz,Nat.mul_one];exact x3.od) (by rw [Eo_sz,Nat.mul_one];exact r3)
   have hs:(ps.eraseIdx (j+1)++[z]).set (ps.length-1) none=ps.eraseIdx (j+1)++[none]:=by rw [show ps.length-1=(ps.eraseIdx (j+1)).length by have:=List.length_eraseIdx_of_lt hjp;omega];exact set_last
   rw [hs] at g1
   have s2:Ss w0 G w3 [ndO E iso 1 b cb (ks.eraseIdx j) (ptr bc),ndO E iso 0 p ((cl+(cr+1):Nat):Int) ((ls++[k])++rs) chl,ndO E iso 0 q (cr:Nat) rs chr,kdO (ptr bc) (ps.eraseIdx (j+1)++[none]),kdO chl (lp++rp),kdO chr rp]:=ux g1 g2 (.inl ⟨rfl,rfl,rfl⟩)
   refine W_st s2 e0 e1 e2 e6 e7 ?_
   clear s s2 e0 e1 e2 e6 e7 on un vn ox ux x3 r3 s3 g1 g2 hA h2 q1 hi hs
   clear e;intro e w s e0 e1 e2 e6 e7
   obtain ⟨nb,no,nq,on,un,vn⟩:=s.nd 0 rfl
   obtain ⟨xb,xo,xq,ox,ux⟩:=s.kd 3 rfl
   have hA:((ps.eraseIdx (j+1))++[none]).length=ps.length:=by rw [List.length_append,List.length_singleton];have:=List.length_eraseIdx_of_lt hjp;omega
   have h2:=ox.hd
   have h4:=ox.le
   rw [hA] at h2 h4
   have q1:=wsub1 (ps.length) (by omega) (by omega)
   have hi:ps.length-1<=xq:=by omega
   refine W_rg fun K hK=>(W_draw (some none) (some 20) [(0,0,0),(0,1,0),(0,2,0),(0,3,0),(0,4,0),(0,5,0),(0,6,0),(0,7,0),(0,8,0),(0,9,0),(0,10,0),(0,11,0),(0,12,0),(0,13,0),(0,14,0),(0,15,0),(0,16,0),(0,17,0),(0,18,0),(0,19,0),(1,20,0)] mixed (by kernel_rfl) ?_);simp only [↓zZ1,↓reduceIte,Nat.reduceEqDiff,rg,ow_151,e0,e1,e2,e6,e7,ptr_eq,on.h3,h2,q1,hi]
   refine do_store (by simp only [zZ2,Nat.reduceEqDiff,↓reduceIte,zZ3]<;>rfl) (by simp only [zZ2,Nat.reduceEqDiff,↓reduceIte,zZ3]<;>rfl) sz_166 rfl ox.hok (by decide) (oc_one rfl rfl) fun w3 x3 r3 s3=>⟨(by first | exact trivial | exact .inl trivial),?_⟩
   simp only [↓zZ1,↓reduceIte,Nat.reduceEqDiff,rg,ow_151,↓rgm]
   apply hK;clear hK K
   obtain ⟨g1,g2⟩:=ox.cut x3.od (by rw [show ((ps.eraseIdx (j+1))).length=ps.length-1 by have:=List.length_eraseIdx_of_lt hjp;omega];exact (Row.cons.1 r3).1)
   have s2:Ss w0 G w3 [ndO E iso 1 b cb (ks.eraseIdx j) (ptr bc),ndO E iso 0 p ((cl+(cr+1):Nat):Int) ((ls++[k])++rs) chl,ndO E iso 0 q (cr:Nat) rs chr,kdO (ptr bc) (ps.eraseIdx (j+1)),kdO chl (lp++rp),kdO chr rp]:=ux g1 g2 (.inl ⟨rfl,rfl,rfl⟩)
   show endQ _ _ _ _ _ _
   refine endQ_0n ?_
   rw [List.append_assoc] at s2
   exact s2
  obtain ⟨lb,lo,lq,ol,ul,vl⟩:=s.nd 1 rfl
  rcases hch with ⟨rfl,rfl,rfl,rfl⟩ | ⟨lc,rc,rfl,rfl,hlp,hrp⟩
  ·refine W_sq fun K hK=>(W_text [true,false,true] (by kernel_rfl) ?_);simp only [↓zZ1,↓reduceIte,Nat.reduceEqDiff,rg,ow_151,e6]
   refine do_call fn_108 (by simp only [zZ2,Nat.reduceEqDiff,↓reduceIte,zZ4]<;>rfl) (leaf_any p none w ol.h3) ?_
   rintro _ w1 ⟨rfl,hw1⟩
   obtain rfl:w=w1:=hw1.symm
   refine ⟨trivial,?_⟩
   simp only [↓zZ1,↓reduceIte,Nat.reduceEqDiff,rg,ow_151]
   apply hK;clear hK K
   refine W_false (by simp only [zZ2,Nat.reduceEqDiff,↓reduceIte,zZ3]<;>rfl) (W_skip ?_)
   exact hend _ _ s e0 e1 e2 e6 e7
  ·refine W_sq fun K hK=>(W_text [true,false,true] (by kernel_rfl) ?_);simp only [↓zZ1,↓reduceIte,Nat.reduceEqDiff,rg,ow_151,e6]
   refine do_call fn_108 (by simp only [zZ2,Nat.reduceEqDiff,↓reduceIte,zZ4]<;>rfl) (leaf_any p (some ⟨lc,0,none⟩) w ol.h3) ?_
   rintro _ w1 ⟨rfl,hw1⟩
   obtain rfl:w=w1:=hw1.symm
   refine ⟨trivial,?_⟩
   simp only [↓zZ1,↓reduceIte,Nat.reduceEqDiff,rg,ow_151]
   apply hK;clear hK K
   refine W_true (by simp only [zZ2,Nat.reduceEqDiff,↓reduceIte,zZ3]<;>rfl) ?_
   refine W_st s e0 e1 e2 e6 e7 ?_
   clear s e0 e1 e2 e6 e7 ol ul vl
   clear e;intro e w s e0 e1 e2 e6 e7
   obtain ⟨lb,lo,lq,ol,ul,vl⟩:=s.nd 1 rfl
   obtain ⟨yb,yo,yq,oy,uy,fn,fk⟩:=s.kdx 4 rfl (by omega)
   obtain ⟨tb,to,tq,ot,ut,vt⟩:=s.nd 2 rfl
   obtain ⟨zb,zo,zq,oz,uz⟩:=s.kd 5 rfl
   have L0:=on1_0 p
   refine W_rg fun K hK=>(W_semi (some (some [p])) (.take false 0 (.take false 1 (.take false 2 (.take false 3 (.take false 4 (.take false 5 (.take false 6 (.take true 7 (.take false 8 (.take true 9 (.take false 10 (.take false 11 (.take false 12 (.take true 13 (.take false 14 (.take true 15 (.act 16 (.take false 17 (.bar 18 .nil))))))))))))))))))) mixed (by kernel_rfl) ?_);simp only [↓rgm,↓zZ1,↓reduceIte,Nat.reduceEqDiff,rg,ow_151,e0,e1,e2,e6,e7,ptr_eq,ol.h3,oy.hd,ot.h3,oz.hd,L0,rB_on]
   have a1:=oy.ext0 (Ext.dr noF w (w.drawn+1))
   refine do_append (by simp only [zZ2,Nat.reduceEqDiff,↓reduceIte,zZ3]<;>rfl) (by simp only [zZ2,Nat.reduceEqDiff,↓reduceIte,zZ3]<;>rfl) rb_elk rfl ni_166 a1.slV (oz.ext0 (Ext.dr noF w (w.drawn+1))).slV (by omega) (by decide) (flat_oc Eo _) fun v2 w2 a2=>⟨.inr (app_keep a2 _ (fkeep1 ⟨wok_lt ol.wb,fn 1 (by decide) rfl⟩)),?_⟩
   obtain ⟨gb,go,gc,rfl,wk2,-,nx⟩:=a1.app' (ls:=rp) rfl a2
   simp only [↓zZ1,↓reduceIte,Nat.reduceEqDiff,rg,ow_151,↓rgm]
   refine do_store (by simp only [zZ2,Nat.reduceEqDiff,↓reduceIte,zZ3]<;>rfl) (by simp only [zZ2,Nat.reduceEqDiff,↓reduceIte,zZ3]<;>rfl) sz_166 rfl wk2 (by decide) (oc_one rfl rfl) fun w3 x3 r3 s3=>⟨trivial,?_⟩
   simp only [↓zZ1,↓reduceIte,Nat.reduceEqDiff,rg,ow_151,↓rgm]
   apply hK;clear hK K
   obtain ⟨g1,g2,g3⟩:=nx w3 x3 (Row.cons.1 r3).1
   have s2:Ss w0 G w3 [ndO E iso 1 b cb ks (ptr bc),ndO E iso 0 p (cl:Nat) ((ls++[k])++rs) (ptr lc),ndO E iso 0 q (cr:Nat) rs (ptr rc),kdO (ptr bc) ps,kdO (ptr lc) (lp++rp),kdO (ptr rc) rp]:=uy g1 ((Ext.dr noF w (w.drawn+1)).trans g2 (fun _ _ h=>h.elim) fun _ _ _ h=>h) (g3.imp id fun h=>h)
   exact hend _ _ s2 e0 e1 e2 e6 e7
 obtain ⟨nb,no,nc,on,un,vn⟩:=s.nd 0 rfl
 rcases hj with ⟨rfl,hj⟩ | ⟨rfl,hj⟩
 ·have hb:((i0:Int) == (ks.length:Int))=false:=by simp;omega
  refine W_sq fun K hK=>(W_text [true,true,true,true,true,true,true] (by kernel_rfl) ?_);simp only [↓zZ1,↓reduceIte,Nat.reduceEqDiff,rg,ow_151,e1,e2,ptr_eq,on.h2,hb]
  apply hK;clear hK K
  refine W_false (by simp only [zZ2,Nat.reduceEqDiff,↓reduceIte,zZ3]<;>rfl) (W_skip ?_)
  exact hend _ e0 e1 e2
 ·have hb:((ks.length:Int) == (ks.length:Int))=true:=by simp
  refine W_sq fun K hK=>(W_text [true,true,true,true,true,true,true] (by kernel_rfl) ?_);simp only [↓zZ1,↓reduceIte,Nat.reduceEqDiff,rg,ow_151,e1,e2,ptr_eq,on.h2,hb]
  apply hK;clear hK K
  refine W_true (by simp only [zZ2,Nat.reduceEqDiff,↓reduceIte,zZ3]<;>rfl) ?_
  have q1:=wsub1 ks.length (by omega) (by omega)
  have hjs:ks.length-1=j:=by omega
  refine W_rg fun K hK=>(W_text [true,true,true] (by kernel_rfl) ?_);simp only [↓zZ1,↓reduceIte,Nat.reduceEqDiff,rg,ow_151,e2,q1]
  apply hK;clear hK K
  exact hend _ e0 e1 (by simp only [upd_eq,Nat.reduceEqDiff,↓reduceIte]<;>rw [hjs])
set_option maxHeartbeats 4000000 in
set_option maxRecDepth 8000 in
theorem reb_right (m d b p q bc i0 j cl cr:Nat) (iso cb:Int) (ks ls rs:List It) (k x:It) (ps lp rp:List (Option Nat)) (chl chr:Value) (w0 w:World) (G:Nat->Nat->Prop) (hd:2<=d) (hd':d<=128) (hc:Cfg w0 m iso d) (hG:∀ o,¬ G m o)
  (s:Ss w0 G w [ndO E iso 1 b cb ks (ptr bc),ndO E iso 0 p (cl:Nat) (ls++[x]) chl,ndO E iso 0 q (cr:Nat) rs chr,kdO (ptr bc) ps,kdO chl lp,kdO chr rp]) (hj:(i0=j/\j<ks.length)\/(i0=ks.length/\j+1=ks.length)) (hkl:ks.length<=2*d-1) (hk:ks[j]? = some k) (hps:ps.length=ks.length+1) (hp:ps[j]? = some (some p)) (hq:ps[j+1]? = some (some q))
  (hch:(chl = .pointer none/\chr = .pointer none/\lp=[]/\rp=[])\/∃ lc rc,chl=ptr lc/\chr=ptr rc/\lp.length=(ls++[x]).length+1/\rp.length=rs.length+1) (hll:(ls++[x]).length<=2*d-1) (hrl:rs.length<=2*d-1) (hcl:cl<2305843009213693952) (hcr:cr<2305843009213693952) (hlt:2*d-1<=(ls++[x]).length+rs.length) (hgt:rs.length<(ls++[x]).length) (cg:Nat) (hcg:1+cg<=cl) (hcgb:cr+cg<2305843009213693952) (hg:(lp=[]/\cg=0)\/∃ g lp',lp=lp'++[some g]/\rd w0 g 1=some (.int .i64 (cg:Nat))/\∀ o,¬ G g o) :
  CallK Try.prog 151 #[ptr m,ptr b,.int .i64 (i0:Nat)] w fun _ w'=>Ss w0 G w' [ndO E iso 1 b cb (ks.set j x) (ptr bc),ndO E iso 0 p ((cl-1-cg:Nat):Int) ls chl,ndO E iso 0 q ((cr+1+cg:Nat):Int) (k::rs) chr,kdO (ptr bc) ps,kdO chl lp.dropLast,kdO chr (lp.drop (lp.length-1)++rp)]:=by
 have hjn:j<ks.length:=(List.getElem?_eq_some_iff.1 hk).1
 refine calls_of_W [] Try.func151 rfl Try.ntmps151 Try.results151 (by simp) fun e he=>?_
 have e0:e 0=ptr m:=he 0 _ rfl
 have e1:e 1=ptr b:=he 1 _ rfl
 have e2:e 2 = .int .i64 (i0:Nat):=he 2 _ rfl
 clear he
 refine W_sqx fun J hJ=>?_
 have hend:∀ e,e 0=ptr m->e 1=ptr b->e 2 = .int .i64 j->J e w:=by
  clear e0 e1 e2 e
  intro e e0 e1 e2
  refine hJ _ _ ?_;clear hJ J
  obtain ⟨nb,no,nc,on,un,vn⟩:=s.nd 0 rfl
  obtain ⟨xb,xo,xc,ox,ux⟩:=s.kd 3 rfl
  obtain ⟨lb,lo,lq,ol,ul,vl⟩:=s.nd 1 rfl
  obtain ⟨tb,to,tq,ot,ut,vt⟩:=s.nd 2 rfl
  have hiso:=(hc.ext s.x fun o _ _=>hG o).iso
  have hjp:j<ps.length:=by omega
  refine W_sq fun K hK=>(W_text [true,true,true,true,true,true,true,true,true,false,true] (by kernel_rfl) ?_);simp only [↓zZ1,↓reduceIte,Nat.reduceEqDiff,rg,ow_151,e0,e1,e2,ptr_eq,on.h3,ox.hd,hjp]
  refine do_call fn_96 (by simp only [zZ2,Nat.reduceEqDiff,↓reduceIte,zZ4]<;>rfl) (isoLoad_any m xb (xo+j) p true iso _ hiso (ox.ptr_at hp) ol.h0) ?_
  rintro _ w1 ⟨rfl,r1⟩
  refine ⟨trivial,?_⟩
  simp only [↓zZ1,↓reduceIte,Nat.reduceEqDiff,rg,ow_151]
  apply hK;clear hK K
  have X1:Ext noF w w1:=r1.ext
  have on:=on.ext X1 fun _ _ _ g=>g
  have ox:=ox.ext0 X1
  have ot:=ot.ext X1 fun _ _ _ g=>g
  have hiso:=X1.rd hiso fun g=>g
  have q1:=wadd1 j (by omega)
  have hjp:j+1<ps.length:=by omega
  refine W_sq fun K hK=>(W_text [true,true,true,true,true,true,true,true,true,true,false,true] (by kernel_rfl) ?_);simp only [↓zZ1,↓reduceIte,Nat.reduceEqDiff,rg,ow_151,e0,e1,e2,ptr_eq,on.h3,ox.hd,hjp,q1]
  refine do_call fn_96 (by simp only [zZ2,Nat.reduceEqDiff,↓reduceIte,zZ4]<;>rfl) (isoLoad_any m xb (xo+(j+1)) q true iso _ hiso (ox.ptr_at hq) ot.h0) ?_
  rintro _ w2 ⟨rfl,r2⟩
  refine ⟨trivial,?_⟩
  simp only [↓zZ1,↓reduceIte,Nat.reduceEqDiff,rg,ow_151]
  apply hK;clear hK K
  have s2:=(s.ext0 X1).ext0 r2.ext
  refine W_st s2 e0 e1 e2 (by simp only [upd_eq,Nat.reduceEqDiff,↓reduceIte]<;>rfl) (by simp only [upd_eq,Nat.reduceEqDiff,↓reduceIte]<;>rfl) ?_
  clear s s2 e0 e1 e2 on un vn ox ux ol ul vl ot ut vt hiso X1 r1 r2 hjp q1
  clear e;intro e w s e0 e1 e2 e6 e7
  obtain ⟨lb,lo,lq,ol,ul,vl⟩:=s.nd 1 rfl
  obtain ⟨tb,to,tq,ot,ut,vt⟩:=s.nd 2 rfl
  have q1:=wadd (ls++[x]).length rs.length (by omega)
  have hmx:=(hc.ext s.x fun o _ _=>hG o).mx
  have hb:decide ((((ls++[x]).length+rs.length:Nat):Int)<((2*d-1:Nat):Int))=false:=by simp only [decide_eq_false_iff_not];omega
  refine W_sq fun K hK=>(W_draw (some none) none [(0,0,0),(0,1,0),(0,2,0),(0,3,0),(0,4,0),(0,5,0),(0,6,0),(0,7,0),(0,8,0),(0,9,0),(0,10,0),(0,11,0),(0,12,0),(0,13,0),(0,14,0),(0,15,0)] mixed (by kernel_rfl) ?_);simp only [↓zZ1,↓reduceIte,Nat.reduceEqDiff,rg,ow_151,e0,e6,e7,ptr_eq,ol.h2,ot.h2,q1,hmx,hb]
  apply hK;clear hK K
  refine W_false (by simp only [zZ2,Nat.reduceEqDiff,↓reduceIte,zZ3]<;>rfl) ?_
  have hb2:decide ((rs.length:Int)<((ls++[x]).length:Int))=true:=by simp only [decide_eq_true_eq];omega
  refine W_sq fun K hK=>(W_draw (some none) none [(0,0,0),(0,1,0),(0,2,0),(0,3,0),(0,4,0),(0,5,0),(0,6,0),(0,7,0),(0,8,0),(0,9,0),(0,10,0)] mixed (by kernel_rfl) ?_);simp only [↓zZ1,↓reduceIte,Nat.reduceEqDiff,rg,ow_151,e0,e6,e7,ptr_eq,ol.h2,ot.h2,hb2]
  apply hK;clear hK K
  refine W_true (by simp only [zZ2,Nat.reduceEqDiff,↓reduceIte,zZ3]<;>rfl) ?_
  refine W_st (s.ext0 (Ext.dr noF w _)) e0 e1 e2 e6 e7 ?_
  clear s e0 e1 e2 e6 e7 ol ul vl ot ut vt q1 hmx hb hb2
  clear e;intro e w s e0 e1 e2 e6 e7
  obtain ⟨n0,hn0⟩:∃ n0,n0=ls.length+1:=⟨_,rfl⟩
  have hnl:(ls++[x]).length=n0:=by simp [hn0]
  obtain ⟨tb,to,tq,ot,ut,vt⟩:=s.nd 2 rfl
  have z4:=zIt_at (hc.ext s.x fun o _ _=>hG o)
  have hb_q:=wok_lt ot.wb
  have L0:=on1_0 q
  refine W_sq fun K hK=>(W_semi (some (some [q])) (.take false 0 (.take false 1 (.take false 2 (.take false 3 (.take false 4 (.take false 5 (.take false 6 (.take false 7 (.take true 8 (.act 9 (.bar 10 (.take false 11 (.take false 12 (.bar 13 .nil)))))))))))))) mixed (by kernel_rfl) ?_);simp only [↓rgm,↓zZ1,↓reduceIte,Nat.reduceEqDiff,rg,ow_151,e0,e1,e2,e6,e7,ptr_eq,ot.h2,z4,L0,rB_on]
  refine do_bsl rfl (rb_k zIt) fun w1 n1=>⟨.inr (n1.keep _ (lt1 hb_q)),?_⟩
  simp only [↓zZ1,↓reduceIte,Nat.reduceEqDiff,rg,ow_151,↓rgm]
  have n1:=n1.od
  have a1:=ot.se.ext0 n1.ext
  refine do_append (by simp only [zZ2,Nat.reduceEqDiff,↓reduceIte,zZ3]<;>rfl) (by simp only [zZ2,Nat.reduceEqDiff,↓reduceIte,zZ3]<;>rfl) rb_eli rfl ni_25 a1.slV (u:=.slice (some ⟨w.heap.size,0,none⟩) 1 1) (m:=1) (l':=E.cel zIt) ⟨rfl,.inr ⟨_,0,1,rfl,Nat.le_refl _,n1.row,n1.wok.R (Nat.le_refl _)⟩⟩ (by omega) (by decide) (E.one _) fun v2 w2 a2=>⟨trivial,?_⟩
  obtain ⟨gb,go,gc,rfl,wk2,-,nx⟩:=a1.app' (ls:=[zIt]) rfl (by rw [flat_one];exact a2)
  simp only [↓zZ1,↓reduceIte,Nat.reduceEqDiff,rg,ow_151,↓rgm]
  refine do_store (by simp only [zZ2,Nat.reduceEqDiff,↓reduceIte,zZ3]<;>rfl) (by simp only [zZ2,Nat.reduceEqDiff,↓reduceIte,zZ3]<;>rfl) sz_25 rfl wk2 (by decide) (oc_one rfl rfl) fun w3 x3 r3 s3=>⟨trivial,?_⟩
  simp only [↓zZ1,↓reduceIte,Nat.reduceEqDiff,rg,ow_151,↓rgm]
  apply hK;clear hK K
  obtain ⟨g1,g2,g3⟩:=nx w3 x3 (Row.cons.1 r3).1
  have s2:Ss w0 G w3 [ndO E iso 1 b cb ks (ptr bc),ndO E iso 0 p (cl:Nat) (ls++[x]) chl,ndO E iso 0 q (cr:Nat) (rs++[zIt]) chr,kdO (ptr bc) ps,kdO chl lp,kdO chr rp]:=ut g1 (n1.ext.trans g2 (fun _ _ h=>h.elim) fun _ _ _ h=>h) (g3.imp id fun h=>⟨(by have:=n1.size;omega),Nat.zero_le _⟩)
  refine W_st s2 e0 e1 e2 e6 e7 ?_
  clear s s2 e0 e1 e2 e6 e7 ot ut vt wk2 nx x3 r3 s3 g1 g2 g3 z4 hb_q n1 a1 a2 L0
  clear e;intro e w s e0 e1 e2 e6 e7
  obtain ⟨tb,to,tq,ot,ut,vt⟩:=s.nd 2 rfl
  have hic:=ot.se.le
  have hle:(rs++[zIt]).length=rs.length+1:=by simp
  have i2:1<=(rs++[zIt]).length:=by omega
  obtain ⟨o1,h1,h1',-,k1⟩:=ot.se.from E_sz 1 i2
  have h3:slcX (some 2) (.slice (some ⟨tb,to,none⟩) (rs++[zIt]).length tq) (some (.int .i64 1)) none none=some (slFrom tb to 2 1 (rs++[zIt]).length tq):=slcX_lo _ _ _ _ _ 1 _ i2
  refine W_sq fun K hK=>(W_draw (some none) (some 9) [(0,0,0),(0,1,0),(0,2,0),(0,3,0),(0,4,0),(0,5,0),(0,6,0),(0,7,0),(0,8,0),(1,9,0)] mixed (by kernel_rfl) ?_);simp only [↓zZ1,↓reduceIte,Nat.reduceEqDiff,rg,ow_151,e0,e1,e2,e6,e7,ptr_eq,ot.h2,h3,h1]
  refine do_copy (by simp only [zZ2,Nat.reduceEqDiff,↓reduceIte,zZ3]<;>rfl) (by simp only [zZ2,Nat.reduceEqDiff,↓reduceIte,zZ3]<;>rfl) rb_eli (SlV.ext0 ot.se.slV (Ext.dr noF w (w.drawn+1))) ((Ext.dr noF w (w.drawn+1)).wok k1) (flat_oc E _) fun w3 x3 r3 s3=>⟨(by first | exact trivial | exact .inl trivial),?_⟩
  simp only [↓zZ1,↓reduceIte,Nat.reduceEqDiff,rg,ow_151,↓rgm]
  apply hK;clear hK K
  have hm:min (rs++[zIt]).length ((rs++[zIt]).length-1)=rs.length:=by omega
  rw [hm] at x3 r3
  rw [show rs.length*2=rs.length*E.sz from rfl,flat_take,List.take_left' rfl] at r3
  obtain ⟨g1,g2⟩:=ot.se.up x3.od r3 fun hA=>by have:=h1' (by omega);rw [E_sz];omega
  have s2:Ss w0 G w3 [ndO E iso 1 b cb ks (ptr bc),ndO E iso 0 p (cl:Nat) (ls++[x]) chl,ndO E iso 0 q (cr:Nat) ((rs++[zIt]).take 1++rs) chr,kdO (ptr bc) ps,kdO chl lp,kdO chr rp]:=ut g1 g2 (.inl ⟨rfl,rfl,rfl⟩)
  refine W_st s2 e0 e1 e2 e6 e7 ?_
  clear s s2 e0 e1 e2 e6 e7 ot ut vt x3 r3 s3 g1 g2 hm hic hle i2 h1 h1' k1 h3
  clear e;intro e w s e0 e1 e2 e6 e7
  obtain ⟨tb,to,tq,ot,ut,vt⟩:=s.nd 2 rfl
  obtain ⟨nb,no,nq,on,un,vn⟩:=s.nd 0 rfl
  have hkv:=it_at on.row hk
  have hl0:0<((rs++[zIt]).take 1++rs).length:=by simp only [List.length_append,List.length_take,List.length_cons,List.length_nil];omega
  have i0:=ix0 2 tb to ((rs++[zIt]).take 1++rs).length hl0
  refine W_sq fun K hK=>(W_draw (some none) (some 12) [(0,0,0),(0,1,0),(0,2,0),(0,3,0),(0,4,0),(0,5,0),(0,6,0),(0,7,0),(0,8,0),(0,9,0),(0,10,0),(0,11,0),(1,12,0)] mixed (by kernel_rfl) ?_);simp only [↓zZ1,↓reduceIte,Nat.reduceEqDiff,rg,ow_151,e0,e1,e2,e6,e7,ptr_eq,ot.h2,on.h2,hjn,hkv,i0]
  refine do_store (by simp only [zZ2,Nat.reduceEqDiff,↓reduceIte,zZ3]<;>rfl) (by simp only [zZ2,Nat.reduceEqDiff,↓reduceIte,zZ3]<;>rfl) sz_33 (rb_len k) ot.se.wi (by have:=ot.se.le;rw [E_sz];skip;omega) (rb_oc k) fun w3 x3 r3 s3=>⟨(by first | exact trivial | exact .inl trivial),?_⟩
  simp only [↓zZ1,↓reduceIte,Nat.reduceEqDiff,rg,ow_151,↓rgm]
  apply hK;clear hK K
  obtain ⟨g1,g2⟩:=ot.se.set (i:=0) (x:=k) (hl0) (by rw [Nat.zero_mul,Nat.add_zero];exact x3.od) (by rw [Nat.zero_mul,Nat.add_zero];exact r3)
  rw [set_first] at g1
  have s2:Ss w0 G w3 [ndO E iso 1 b cb ks (ptr bc),ndO E iso 0 p (cl:Nat) (ls++[x]) chl,ndO E iso 0 q (cr:Nat) (k::rs) chr,kdO (ptr bc) ps,kdO chl lp,kdO chr rp]:=ut g1 g2 (.inl ⟨rfl,rfl,rfl⟩)
  refine W_st s2 e0 e1 e2 e6 e7 ?_
  clear s s2 e0 e1 e2 e6 e7 ot ut vt on un vn x3 r3 s3 g1 g2 hkv hl0 i0
  clear e;intro e w s e0 e1 e2 e6 e7
  obtain ⟨tb,to,tq,ot,ut,vt⟩:=s.nd 2 rfl
  have q1:=wadd1 cr (by omega)
  refine W_sq fun K hK=>(W_text [true,true,true,true,true,true,true,false] (by kernel_rfl) ?_);simp only [↓zZ1,↓reduceIte,Nat.reduceEqDiff,rg,ow_151,e0,e1,e2,e6,e7,ptr_eq,ot.h1,q1]
  refine do_store (by simp only [zZ2,Nat.reduceEqDiff,↓reduceIte,zZ3]<;>rfl) (by simp only [zZ2,Nat.reduceEqDiff,↓reduceIte,zZ3]<;>rfl) sz_3 rfl ot.wb (by decide) (oc_one rfl rfl) fun w3 x3 r3 s3=>⟨(by first | exact trivial | exact .inl trivial),?_⟩
  simp only [↓zZ1,↓reduceIte,Nat.reduceEqDiff,rg,ow_151,↓rgm]
  apply hK;clear hK K
  have s2:Ss w0 G w3 [ndO E iso 1 b cb ks (ptr bc),ndO E iso 0 p (cl:Nat) (ls++[x]) chl,ndO E iso 0 q ((cr+1:Nat):Int) (k::rs) chr,kdO (ptr bc) ps,kdO chl lp,kdO chr rp]:=vt x3 (Row.cons.1 r3).1
  refine W_st s2 e0 e1 e2 e6 e7 ?_
  clear s s2 e0 e1 e2 e6 e7 ot ut vt x3 r3 s3  q1
  clear e;intro e w s e0 e1 e2 e6 e7
  obtain ⟨nb,no,nq,on,un,vn⟩:=s.nd 0 rfl
  obtain ⟨lb,lo,lq,ol,ul,vl⟩:=s.nd 1 rfl
  have h2:=ol.h2
  rw [hnl] at h2
  have q1:=wsub1 n0 (by omega) (by omega)
  have hi:n0-1<n0:=by omega
  have hxv:=it_at ol.row (i:=n0-1) (x:=x) (by simp [hn0])
  refine W_sq fun K hK=>(W_draw (some none) (some 18) [(0,0,0),(0,1,0),(0,2,0),(0,3,0),(0,4,0),(0,5,0),(0,6,0),(0,7,0),(0,8,0),(0,9,0),(0,10,0),(0,11,0),(0,12,0),(0,13,0),(0,14,0),(0,15,0),(0,16,0),(0,17,0),(1,18,0)] mixed (by kernel_rfl) ?_);simp only [↓zZ1,↓reduceIte,Nat.reduceEqDiff,rg,ow_151,e0,e1,e2,e6,e7,ptr_eq,on.h2,h2,hjn,q1,hi,hxv]
  refine do_store (by simp only [zZ2,Nat.reduceEqDiff,↓reduceIte,zZ3]<;>rfl) (by simp only [zZ2,Nat.reduceEqDiff,↓reduceIte,zZ3]<;>rfl) sz_33 (rb_len x) on.se.wi (by have:=on.se.le;rw [E_sz];skip;omega) (rb_oc x) fun w3 x3 r3 s3=>⟨(by first | exact trivial | exact .inl trivial),?_⟩
  simp only [↓zZ1,↓reduceIte,Nat.reduceEqDiff,rg,ow_151,↓rgm]
  apply hK;clear hK K
  obtain ⟨g1,g2⟩:=on.se.set (i:=j) (x:=x) (hjn) (by simp only [E_sz,Nat.mul_one];exact x3.od) (by simp only [E_sz,Nat.mul_one];exact r3)
  skip
  have s2:Ss w0 G w3 [ndO E iso 1 b cb (ks.set j x) (ptr bc),ndO E iso 0 p (cl:Nat) (ls++[x]) chl,ndO E iso 0 q ((cr+1:Nat):Int) (k::rs) chr,kdO (ptr bc) ps,kdO chl lp,kdO chr rp]:=un g1 g2 (.inl ⟨rfl,rfl,rfl⟩)
  refine W_st s2 e0 e1 e2 e6 e7 ?_
  clear s s2 e0 e1 e2 e6 e7 on un vn ol ul vl x3 r3 s3 g1 g2 h2 q1 hi hxv
  clear e;intro e w s e0 e1 e2 e6 e7
  obtain ⟨lb,lo,lq,ol,ul,vl⟩:=s.nd 1 rfl
  have hA:(ls++[x]).length=n0:=by rw [List.length_append,List.length_singleton];skip;omega
  have h2:=ol.se.hd
  rw [hA] at h2
  have q1:=wsub1 (n0) (by omega) (by omega)
  have hi:n0-1<n0:=by omega
  have z4:=zIt_at (hc.ext s.x fun o _ _=>hG o)
  refine W_sq fun K hK=>(W_draw (some none) (some 15) [(0,0,0),(0,1,0),(0,2,0),(0,3,0),(0,4,0),(0,5,0),(0,6,0),(0,7,0),(0,8,0),(0,9,0),(0,10,0),(0,11,0),(0,12,0),(0,13,0),(0,14,0),(1,15,0)] mixed (by kernel_rfl) ?_);simp only [↓zZ1,↓reduceIte,Nat.reduceEqDiff,rg,ow_151,e0,e1,e2,e6,e7,ptr_eq,h2,q1,hi,z4]
  refine do_store (by simp only [zZ2,Nat.reduceEqDiff,↓reduceIte,zZ3]<;>rfl) (by simp only [zZ2,Nat.reduceEqDiff,↓reduceIte,zZ3]<;>rfl) sz_33 (rb_len zIt) ol.se.wi (by have:=ol.se.le;rw [E_sz];rw [hA] at this;omega) (rb_oc zIt) fun w3 x3 r3 s3=>⟨(by first | exact trivial | exact .inl trivial),?_⟩
  simp only [↓zZ1,↓reduceIte,Nat.reduceEqDiff,rg,ow_151,↓rgm]
  apply hK;clear hK K
  obtain ⟨g1,g2⟩:=ol.se.set (i:=n0-1) (x:=zIt) (by rw [hA];omega) (by simp only [E_sz,Nat.mul_one];exact x3.od) (by simp only [E_sz,Nat.mul_one];exact r3)
  have hs:(ls++[x]).set (n0-1) zIt=ls++[zIt]:=by rw [show n0-1=(ls).length by skip;omega];exact set_last
  rw [hs] at g1
  have s2:Ss w0 G w3 [ndO E iso 1 b cb (ks.set j x) (ptr bc),ndO E iso 0 p (cl:Nat) (ls++[zIt]) chl,ndO E iso 0 q ((cr+1:Nat):Int) (k::rs) chr,kdO (ptr bc) ps,kdO chl lp,kdO chr rp]:=ul g1 g2 (.inl ⟨rfl,rfl,rfl⟩)
  refine W_st s2 e0 e1 e2 e6 e7 ?_
  clear s s2 e0 e1 e2 e6 e7 ol ul vl x3 r3 s3 g1 g2 hA h2 q1 hi z4 hs
  clear e;intro e w s e0 e1 e2 e6 e7
  obtain ⟨lb,lo,lq,ol,ul,vl⟩:=s.nd 1 rfl
  have hA:(ls++[zIt]).length=n0:=by rw [List.length_append,List.length_singleton];skip;omega
  have h2:=ol.se.hd
  have h4:=ol.se.le
  rw [hA] at h2 h4
  have q1:=wsub1 (n0) (by omega) (by omega)
  have hi:n0-1<=lq:=by omega
  refine W_sq fun K hK=>(W_draw (some none) (some 14) [(0,0,0),(0,1,0),(0,2,0),(0,3,0),(0,4,0),(0,5,0),(0,6,0),(0,7,0),(0,8,0),(0,9,0),(0,10,0),(0,11,0),(0,12,0),(0,13,0),(1,14,0)] mixed (by kernel_rfl) ?_);simp only [↓zZ1,↓reduceIte,Nat.reduceEqDiff,rg,ow_151,e0,e1,e2,e6,e7,ptr_eq,h2,q1,hi]
  refine do_store (by simp only [zZ2,Nat.reduceEqDiff,↓reduceIte,zZ3]<;>rfl) (by simp only [zZ2,Nat.reduceEqDiff,↓reduceIte,zZ3]<;>rfl) sz_25 rfl ol.se.hok (by decide) (oc_one rfl rfl) fun w3 x3 r3 s3=>⟨(by first | exact trivial | exact .inl trivial),?_⟩
  simp only [↓zZ1,↓reduceIte,Nat.reduceEqDiff,rg,ow_151,↓rgm]
  apply hK;clear hK K
  obtain ⟨g1,g2⟩:=ol.se.cut x3.od (by rw [show (ls).length=n0-1 by skip;omega];exact (Row.cons.1 r3).1)
  have s2:Ss w0 G w3 [ndO E iso 1 b cb (ks.set j x) (ptr bc),ndO E iso 0 p (cl:Nat) ls chl,ndO E iso 0 q ((cr+1:Nat):Int) (k::rs) chr,kdO (ptr bc) ps,kdO chl lp,kdO chr rp]:=ul g1 g2 (.inl ⟨rfl,rfl,rfl⟩)
  refine W_st s2 e0 e1 e2 e6 e7 ?_
  clear s s2 e0 e1 e2 e6 e7 ol ul vl x3 r3 s3 g1 g2 hA h2 h4 q1 hi
  clear e;intro e w s e0 e1 e2 e6 e7
  obtain ⟨lb,lo,lq,ol,ul,vl⟩:=s.nd 1 rfl
  have q1:=wsub1 cl (by omega) (by omega)
  refine W_sq fun K hK=>(W_text [true,true,true,true,true,true,true,false] (by kernel_rfl) ?_);simp only [↓zZ1,↓reduceIte,Nat.reduceEqDiff,rg,ow_151,e0,e1,e2,e6,e7,ptr_eq,ol.h1,q1]
  refine do_store (by simp only [zZ2,Nat.reduceEqDiff,↓reduceIte,zZ3]<;>rfl) (by simp only [zZ2,Nat.reduceEqDiff,↓reduceIte,zZ3]<;>rfl) sz_3 rfl ol.wb (by decide) (oc_one rfl rfl) fun w3 x3 r3 s3=>⟨(by first | exact trivial | exact .inl trivial),?_⟩
  simp only [↓zZ1,↓reduceIte,Nat.reduceEqDiff,rg,ow_151,↓rgm]
  apply hK;clear hK K
  have s2:Ss w0 G w3 [ndO E iso 1 b cb (ks.set j x) (ptr bc),ndO E iso 0 p ((cl-1:Nat):Int) ls chl,ndO E iso 0 q ((cr+1:Nat):Int) (k::rs) chr,kdO (ptr bc) ps,kdO chl lp,kdO chr rp]:=vl x3 (Row.cons.1 r3).1
  refine W_st s2 e0 e1 e2 e6 e7 ?_
  clear s s2 e0 e1 e2 e6 e7 ol ul vl x3 r3 s3  q1
  clear e;intro e w s e0 e1 e2 e6 e7
  obtain ⟨lb,lo,lq,ol,ul,vl⟩:=s.nd 1 rfl
  rcases hch with ⟨rfl,rfl,rfl,rfl⟩ | ⟨lc,rc,rfl,rfl,hlp,hrp⟩
  ·refine W_sq fun K hK=>(W_text [true,false,true] (by kernel_rfl) ?_);simp only [↓zZ1,↓reduceIte,Nat.reduceEqDiff,rg,ow_151,e6]
   refine do_call fn_108 (by simp only [zZ2,Nat.reduceEqDiff,↓reduceIte,zZ4]<;>rfl) (leaf_any p none w ol.h3) ?_
   rintro _ w1 ⟨rfl,hw1⟩
   obtain rfl:w=w1:=hw1.symm
   refine ⟨trivial,?_⟩
   simp only [↓zZ1,↓reduceIte,Nat.reduceEqDiff,rg,ow_151]
   apply hK;clear hK K
   refine W_false (by simp only [zZ2,Nat.reduceEqDiff,↓reduceIte,zZ3]<;>rfl) (W_skip ?_)
   show endQ _ _ _ _ _ _
   refine endQ_0n ?_
   obtain rfl:cg=0:=by
    rcases hg with ⟨_,h⟩ | ⟨g,lp',h,_⟩
    ·exact h
    ·simp at h
   exact s
  ·refine W_sq fun K hK=>(W_text [true,false,true] (by kernel_rfl) ?_);simp only [↓zZ1,↓reduceIte,Nat.reduceEqDiff,rg,ow_151,e6]
   refine do_call fn_108 (by simp only [zZ2,Nat.reduceEqDiff,↓reduceIte,zZ4]<;>rfl) (leaf_any p (some ⟨lc,0,none⟩) w ol.h3) ?_
   rintro _ w1 ⟨rfl,hw1⟩
   obtain rfl:w=w1:=hw1.symm
   refine ⟨trivial,?_⟩
   simp only [↓zZ1,↓reduceIte,Nat.reduceEqDiff,rg,ow_151]
   apply hK;clear hK K
   refine W_true (by simp only [zZ2,Nat.reduceEqDiff,↓reduceIte,zZ3]<;>rfl) ?_
   refine W_st s e0 e1 e2 e6 e7 ?_
   clear s e0 e1 e2 e6 e7 ol ul vl
   clear e;intro e w s e0 e1 e2 e6 e7
   obtain ⟨g,lp',rfl,hgc,hgG⟩:∃ g lp',lp=lp'++[some g]/\rd w0 g 1=some (.int .i64 (cg:Nat))/\∀ o,¬ G g o:=by
    rcases hg with ⟨h,_⟩ | h
    ·rw [h] at hlp;cases hlp
    ·exact h
   obtain ⟨n2,hn2⟩:∃ n2,n2=lp'.length+1:=⟨_,rfl⟩
   have hnk:(lp'++[some g]).length=n2:=by simp [hn2]
   have hrp0:rp.length<=2*d:=by omega
   have hn2b:n2<=2*d:=by omega
   clear hlp hll hrl hgt hlt hnl
   obtain ⟨tb,to,tq,ot,ut,vt⟩:=s.nd 2 rfl
   obtain ⟨zb,zo,zq,oz,uz,fn,fk⟩:=s.kdx 5 rfl (by omega)
   have hb_q:=wok_lt ot.wb
   have hb_rc:=wok_lt oz.hok
   have L0:=on2_0 q rc
   have L1:=on2_1 q rc
   refine W_sq fun K hK=>(W_semi (some (some [q,rc])) (.take false 0 (.take false 1 (.take false 2 (.take false 3 (.take false 4 (.take false 5 (.take false 6 (.take false 7 (.take false 8 (.take false 9 (.act 10 (.act 11 (.take false 12 (.bar 13 .nil)))))))))))))) mixed (by kernel_rfl) ?_);simp only [↓rgm,↓zZ1,↓reduceIte,Nat.reduceEqDiff,rg,ow_151,e0,e1,e2,e6,e7,ptr_eq,ot.h3,oz.hd,L0,L1,rB_on]
   refine do_bsl rfl (rb_o none) fun w1 n1=>⟨.inr (n1.keep _ (lt2 hb_q hb_rc)),?_⟩
   simp only [↓zZ1,↓reduceIte,Nat.reduceEqDiff,rg,ow_151,↓rgm]
   have n1:=n1.od
   have a1:=oz.ext0 n1.ext
   refine do_append (by simp only [zZ2,Nat.reduceEqDiff,↓reduceIte,zZ3]<;>rfl) (by simp only [zZ2,Nat.reduceEqDiff,↓reduceIte,zZ3]<;>rfl) rb_elk rfl ni_166 a1.slV (u:=.slice (some ⟨w.heap.size,0,none⟩) 1 1) (m:=1) (l':=Eo.cel none) ⟨rfl,.inr ⟨_,0,1,rfl,Nat.le_refl _,n1.row,n1.wok.R (Nat.le_refl _)⟩⟩ (by omega) (by decide) (Eo.one _) fun v2 w2 a2=>⟨.inr (app_keep a2 _ (fkeep2 ⟨wok_lt (n1.ext.wok ot.wb),fn 2 (by decide) rfl⟩ ⟨wok_lt (n1.ext.wok oz.hok),oz.ne.symm⟩)),?_⟩
   obtain ⟨gb,go,gc,rfl,wk2,-,nx⟩:=a1.app' (ls:=[none]) rfl (by rw [flat_one];exact a2)
   simp only [↓zZ1,↓reduceIte,Nat.reduceEqDiff,rg,ow_151,↓rgm]
   refine do_store (by simp only [zZ2,Nat.reduceEqDiff,↓reduceIte,zZ3]<;>rfl) (by simp only [zZ2,Nat.reduceEqDiff,↓reduceIte,zZ3]<;>rfl) sz_166 rfl wk2 (by decide) (oc_one rfl rfl) fun w3 x3 r3 s3=>⟨trivial,?_⟩
   simp only [↓zZ1,↓reduceIte,Nat.reduceEqDiff,rg,ow_151,↓rgm]
   apply hK;clear hK K
   obtain ⟨g1,g2,g3⟩:=nx w3 x3 (Row.cons.1 r3).1
   have s2:Ss w0 G w3 [ndO E iso 1 b cb (ks.set j x) (ptr bc),ndO E iso 0 p ((cl-1:Nat):Int) ls (ptr lc),ndO E iso 0 q ((cr+1:Nat):Int) (k::rs) (ptr rc),kdO (ptr bc) ps,kdO (ptr lc) (lp'++[some g]),kdO (ptr rc) (rp++[none])]:=uz g1 (n1.ext.trans g2 (fun _ _ h=>h.elim) fun _ _ _ h=>h) (g3.imp id fun h=>(by have:=n1.size;omega))
   refine W_st s2 e0 e1 e2 e6 e7 ?_
   clear s s2 e0 e1 e2 e6 e7 ot ut vt oz uz fn fk wk2 nx x3 r3 s3 g1 g2 g3 hb_q hb_rc n1 a1 a2 L0 L1
   clear e;intro e w s e0 e1 e2 e6 e7
   obtain ⟨tb,to,tq,ot,ut,vt⟩:=s.nd 2 rfl
   obtain ⟨zb,zo,zq,oz,uz⟩:=s.kd 5 rfl
   have hic:=oz.le
   have hle:(rp++[none]).length=rp.length+1:=by simp
   have i2:1<=(rp++[none]).length:=by omega
   obtain ⟨o1,h1,h1',-,k1⟩:=oz.from Eo_sz 1 i2
   have h3:slcX (some 1) (.slice (some ⟨zb,zo,none⟩) (rp++[none]).length zq) (some (.int .i64 1)) none none=some (slFrom zb zo 1 1 (rp++[none]).length zq):=slcX_lo _ _ _ _ _ 1 _ i2
   refine W_sq fun K hK=>(W_draw (some none) (some 13) [(0,0,0),(0,1,0),(0,2,0),(0,3,0),(0,4,0),(0,5,0),(0,6,0),(0,7,0),(0,8,0),(0,9,0),(0,10,0),(0,11,0),(0,12,0),(1,13,0)] mixed (by kernel_rfl) ?_);simp only [↓zZ1,↓reduceIte,Nat.reduceEqDiff,rg,ow_151,e0,e1,e2,e6,e7,ptr_eq,ot.h3,oz.hd,h3,h1]
   refine do_copy (by simp only [zZ2,Nat.reduceEqDiff,↓reduceIte,zZ3]<;>rfl) (by simp only [zZ2,Nat.reduceEqDiff,↓reduceIte,zZ3]<;>rfl) rb_elk (SlV.ext0 oz.slV (Ext.dr noF w (w.drawn+1))) ((Ext.dr noF w (w.drawn+1)).wok k1) (flat_oc Eo _) fun w3 x3 r3 s3=>⟨(by first | exact trivial | exact .inl trivial),?_⟩
   simp only [↓zZ1,↓reduceIte,Nat.reduceEqDiff,rg,ow_151,↓rgm]
   apply hK;clear hK K
   have hm:min (rp++[none]).length ((rp++[none]).length-1)=rp.length:=by omega
   rw [hm] at x3 r3
   rw [show rp.length*1=rp.length*Eo.sz from rfl,flat_take,List.take_left' rfl] at r3
   obtain ⟨g1,g2⟩:=oz.up x3.od r3 fun hA=>by have:=h1' (by omega);rw [Eo_sz];omega
   have s2:Ss w0 G w3 [ndO E iso 1 b cb (ks.set j x) (ptr bc),ndO E iso 0 p ((cl-1:Nat):Int) ls (ptr lc),ndO E iso 0 q ((cr+1:Nat):Int) (k::rs) (ptr rc),kdO (ptr bc) ps,kdO (ptr lc) (lp'++[some g]),kdO (ptr rc) ((rp++[none]).take 1++rp)]:=uz g1 g2 (.inl ⟨rfl,rfl,rfl⟩)
   refine W_st s2 e0 e1 e2 e6 e7 ?_
   clear s s2 e0 e1 e2 e6 e7 ot ut vt oz uz x3 r3 s3 g1 g2 hm hic hle i2 h1 h1' k1 h3
   clear e;intro e w s e0 e1 e2 e6 e7
   obtain ⟨tb,to,tq,ot,ut,vt⟩:=s.nd 2 rfl
   obtain ⟨zb,zo,zq,oz,uz⟩:=s.kd 5 rfl
   obtain ⟨lb,lo,lq,ol,ul,vl⟩:=s.nd 1 rfl
   obtain ⟨yb,yo,yq,oy,uy⟩:=s.kd 4 rfl
   have h2:=oy.hd
   rw [hnk] at h2
   have q1:=wsub1 n2 (by omega) (by omega)
   have hi:n2-1<n2:=by omega
   have hgv:=oy.ptr_at (j:=n2-1) (p:=g) (by simp [hn2])
   have hl0:0<((rp++[none]).take 1++rp).length:=by simp only [List.length_append,List.length_take,List.length_cons,List.length_nil];omega
   have i0:=ix0 1 zb zo ((rp++[none]).take 1++rp).length hl0
   refine W_sq fun K hK=>(W_draw (some none) (some 23) [(0,0,0),(0,1,0),(0,2,0),(0,3,0),(0,4,0),(0,5,0),(0,6,0),(0,7,0),(0,8,0),(0,9,0),(0,10,0),(0,11,0),(0,12,0),(0,13,0),(0,14,0),(0,15,0),(0,16,0),(0,17,0),(0,18,0),(0,19,0),(0,20,0),(0,21,0),(0,22,0),(1,23,0)] mixed (by kernel_rfl) ?_);simp only [↓zZ1,↓reduceIte,Nat.reduceEqDiff,rg,ow_151,e0,e1,e2,e6,e7,ptr_eq,ot.h3,oz.hd,ol.h3,h2,q1,hi,hgv,i0]
   refine do_store (by simp only [zZ2,Nat.reduceEqDiff,↓reduceIte,zZ3]<;>rfl) (by simp only [zZ2,Nat.reduceEqDiff,↓reduceIte,zZ3]<;>rfl) sz_96 rfl oz.wi (by have:=oz.le;rw [Eo_sz];skip;omega) (oc_one rfl rfl) fun w3 x3 r3 s3=>⟨(by first | exact trivial | exact .inl trivial),?_⟩
   simp only [↓zZ1,↓reduceIte,Nat.reduceEqDiff,rg,ow_151,↓rgm]
   apply hK;clear hK K
   obtain ⟨g1,g2⟩:=oz.set (i:=0) (x:=(some g)) (hl0) (by rw [Nat.zero_mul,Nat.add_zero];exact x3.od) (by rw [Nat.zero_mul,Nat.add_zero];exact r3)
   rw [set_first] at g1
   have s2:Ss w0 G w3 [ndO E iso 1 b cb (ks.set j x) (ptr bc),ndO E iso 0 p ((cl-1:Nat):Int) ls (ptr lc),ndO E iso 0 q ((cr+1:Nat):Int) (k::rs) (ptr rc),kdO (ptr bc) ps,kdO (ptr lc) (lp'++[some g]),kdO (ptr rc) (some g::rp)]:=uz g1 g2 (.inl ⟨rfl,rfl,rfl⟩)
   refine W_st s2 e0 e1 e2 e6 e7 ?_
   clear s s2 e0 e1 e2 e6 e7 ot ut vt oz uz ol ul vl oy uy x3 r3 s3 g1 g2 h2 q1 hi hgv hl0 i0
   clear e;intro e w s e0 e1 e2 e6 e7
   obtain ⟨lb,lo,lq,ol,ul,vl⟩:=s.nd 1 rfl
   obtain ⟨yb,yo,yq,oy,uy⟩:=s.kd 4 rfl
   have hA:(lp'++[some g]).length=n2:=by rw [List.length_append,List.length_singleton];skip;omega
   have h2:=oy.hd
   rw [hA] at h2
   have q1:=wsub1 (n2) (by omega) (by omega)
   have hi:n2-1<n2:=by omega
   refine W_sq fun K hK=>(W_draw (some none) (some 15) [(0,0,0),(0,1,0),(0,2,0),(0,3,0),(0,4,0),(0,5,0),(0,6,0),(0,7,0),(0,8,0),(0,9,0),(0,10,0),(0,11,0),(0,12,0),(0,13,0),(0,14,0),(1,15,0)] mixed (by kernel_rfl) ?_);simp only [↓zZ1,↓reduceIte,Nat.reduceEqDiff,rg,ow_151,e0,e1,e2,e6,e7,ptr_eq,ol.h3,h2,q1,hi]
   refine do_store (by simp only [zZ2,Nat.reduceEqDiff,↓reduceIte,zZ3]<;>rfl) (by simp only [zZ2,Nat.reduceEqDiff,↓reduceIte,zZ3]<;>rfl) sz_96 rfl oy.wi (by have:=oy.le;rw [Eo_sz];rw [hA] at this;omega) (oc_one rfl rfl) fun w3 x3 r3 s3=>⟨(by first | exact trivial | exact .inl trivial),?_⟩
   simp only [↓zZ1,↓reduceIte,Nat.reduceEqDiff,rg,ow_151,↓rgm]
   apply hK;clear hK K
   obtain ⟨g1,g2⟩:=oy.set (i:=n2-1) (x:=none) (by rw [hA];omega) (by rw [Eo_sz,Nat.mul_one];exact x3.od) (by rw [Eo_sz,Nat.mul_one];exact r3)
   have hs:(lp'++[some g]).set (n2-1) none=lp'++[none]:=by rw [show n2-1=(lp').length by skip;omega];exact set_last
   rw [hs] at g1
   have s2:Ss w0 G w3 [ndO E iso 1 b cb (ks.set j x) (ptr bc),ndO E iso 0 p ((cl-1:Nat):Int) ls (ptr lc),ndO E iso 0 q ((cr+1:Nat):Int) (k::rs) (ptr rc),kdO (ptr bc) ps,kdO (ptr lc) (lp'++[none]),kdO (ptr rc) (some g::rp)]:=uy g1 g2 (.inl ⟨rfl,rfl,rfl⟩)
   refine W_st s2 e0 e1 e2 e6 e7 ?_
   clear s s2 e0 e1 e2 e6 e7 ol ul vl oy uy x3 r3 s3 g1 g2 hA h2 q1 hi hs
   clear e;intro e w s e0 e1 e2 e6 e7
   obtain ⟨lb,lo,lq,ol,ul,vl⟩:=s.nd 1 rfl
   obtain ⟨yb,yo,yq,oy,uy⟩:=s.kd 4 rfl
   have hA:(lp'++[none]).length=n2:=by rw [List.length_append,List.length_singleton];skip;omega
   have h2:=oy.hd
   have h4:=oy.le
   rw [hA] at h2 h4
   have q1:=wsub1 (n2) (by omega) (by omega)
   have hi:n2-1<=yq:=by omega
   refine W_sq fun K hK=>(W_draw (some none) (some 20) [(0,0,0),(0,1,0),(0,2,0),(0,3,0),(0,4,0),(0,5,0),(0,6,0),(0,7,0),(0,8,0),(0,9,0),(0,10,0),(0,11,0),(0,12,0),(0,13,0),(0,14,0),(0,15,0),(0,16,0),(0,17,0),(0,18,0),(0,19,0),(1,20,0)] mixed (by kernel_rfl) ?_);simp only [↓zZ1,↓reduceIte,Nat.reduceEqDiff,rg,ow_151,e0,e1,e2,e6,e7,ptr_eq,ol.h3,h2,q1,hi]
   refine do_store (by simp only [zZ2,Nat.reduceEqDiff,↓reduceIte,zZ3]<;>rfl) (by simp only [zZ2,Nat.reduceEqDiff,↓reduceIte,zZ3]<;>rfl) sz_166 rfl oy.hok (by decide) (oc_one rfl rfl) fun w3 x3 r3 s3=>⟨(by first | exact trivial | exact .inl trivial),?_⟩
   simp only [↓zZ1,↓reduceIte,Nat.reduceEqDiff,rg,ow_151,↓rgm]
   apply hK;clear hK K
   obtain ⟨g1,g2⟩:=oy.cut x3.od (by rw [show (lp').length=n2-1 by skip;omega];exact (Row.cons.1 r3).1)
   have s2:Ss w0 G w3 [ndO E iso 1 b cb (ks.set j x) (ptr bc),ndO E iso 0 p ((cl-1:Nat):Int) ls (ptr lc),ndO E iso 0 q ((cr+1:Nat):Int) (k::rs) (ptr rc),kdO (ptr bc) ps,kdO (ptr lc) lp',kdO (ptr rc) (some g::rp)]:=uy g1 g2 (.inl ⟨rfl,rfl,rfl⟩)
   refine W_st s2 e0 e1 e2 e6 e7 ?_
   clear s s2 e0 e1 e2 e6 e7 ol ul vl oy uy x3 r3 s3 g1 g2 hA h2 h4 q1 hi
   clear e;intro e w s e0 e1 e2 e6 e7
   obtain ⟨lb,lo,lq,ol,ul,vl⟩:=s.nd 1 rfl
   obtain ⟨tb,to,tq,ot,ut,vt⟩:=s.nd 2 rfl
   obtain ⟨zb,zo,zq,oz,uz⟩:=s.kd 5 rfl
   have hgv:=oz.ptr_at (j:=0) (p:=g) rfl
   rw [Nat.add_zero] at hgv
   have hg1:=s.x.rd hgc (hgG 1)
   have hl0:0<(some g::rp).length:=by simp
   have i0:=ix0 1 zb zo (some g::rp).length hl0
   have q1:=wsub (cl-1) cg (by omega) (by omega)
   refine W_sq fun K hK=>(W_draw (some none) (some 18) [(0,0,0),(0,1,0),(0,2,0),(0,3,0),(0,4,0),(0,5,0),(0,6,0),(0,7,0),(0,8,0),(0,9,0),(0,10,0),(0,11,0),(0,12,0),(0,13,0),(0,14,0),(0,15,0),(0,16,0),(0,17,0),(1,18,0)] mixed (by kernel_rfl) ?_);simp only [↓zZ1,↓reduceIte,Nat.reduceEqDiff,rg,ow_151,e0,e1,e2,e6,e7,ptr_eq,ol.h1,ot.h3,oz.hd,i0,hgv,hg1,q1]
   refine do_store (by simp only [zZ2,Nat.reduceEqDiff,↓reduceIte,zZ3]<;>rfl) (by simp only [zZ2,Nat.reduceEqDiff,↓reduceIte,zZ3]<;>rfl) sz_3 rfl ol.wb (by decide) (oc_one rfl rfl) fun w3 x3 r3 s3=>⟨(by first | exact trivial | exact .inl trivial),?_⟩
   simp only [↓zZ1,↓reduceIte,Nat.reduceEqDiff,rg,ow_151,↓rgm]
   apply hK;clear hK K
   have s2:Ss w0 G w3 [ndO E iso 1 b cb (ks.set j x) (ptr bc),ndO E iso 0 p ((cl-1-cg:Nat):Int) ls (ptr lc),ndO E iso 0 q ((cr+1:Nat):Int) (k::rs) (ptr rc),kdO (ptr bc) ps,kdO (ptr lc) lp',kdO (ptr rc) (some g::rp)]:=vl x3.od (Row.cons.1 r3).1
   refine W_st s2 e0 e1 e2 e6 e7 ?_
   clear s s2 e0 e1 e2 e6 e7 ol ul vl ot ut vt oz uz x3 r3 s3 hgv hg1 hl0 i0 q1
   clear e;intro e w s e0 e1 e2 e6 e7
   obtain ⟨tb,to,tq,ot,ut,vt⟩:=s.nd 2 rfl
   obtain ⟨zb,zo,zq,oz,uz⟩:=s.kd 5 rfl
   have hgv:=oz.ptr_at (j:=0) (p:=g) rfl
   rw [Nat.add_zero] at hgv
   have hg1:=s.x.rd hgc (hgG 1)
   have hl0:0<(some g::rp).length:=by simp
   have i0:=ix0 1 zb zo (some g::rp).length hl0
   have q1:=wadd (cr+1) cg (by omega)
   refine W_rg fun K hK=>(W_draw (some none) (some 18) [(0,0,0),(0,1,0),(0,2,0),(0,3,0),(0,4,0),(0,5,0),(0,6,0),(0,7,0),(0,8,0),(0,9,0),(0,10,0),(0,11,0),(0,12,0),(0,13,0),(0,14,0),(0,15,0),(0,16,0),(0,17,0),(1,18,0)] mixed (by kernel_rfl) ?_);simp only [↓zZ1,↓reduceIte,Nat.reduceEqDiff,rg,ow_151,e0,e1,e2,e6,e7,ptr_eq,ot.h1,ot.h3,oz.hd,i0,hgv,hg1,q1]
   refine do_store (by simp only [zZ2,Nat.reduceEqDiff,↓reduceIte,zZ3]<;>rfl) (by simp only [zZ2,Nat.reduceEqDiff,↓reduceIte,zZ3]<;>rfl) sz_3 rfl ot.wb (by decide) (oc_one rfl rfl) fun w3 x3 r3 s3=>⟨(by first | exact trivial | exact .inl trivial),?_⟩
   simp only [↓zZ1,↓reduceIte,Nat.reduceEqDiff,rg,ow_151,↓rgm]
   apply hK;clear hK K
   have s2:Ss w0 G w3 [ndO E iso 1 b cb (ks.set j x) (ptr bc),ndO E iso 0 p ((cl-1-cg:Nat):Int) ls (ptr lc),ndO E iso 0 q ((cr+1+cg:Nat):Int) (k::rs) (ptr rc),kdO (ptr bc) ps,kdO (ptr lc) lp',kdO (ptr rc) (some g::rp)]:=vt x3.od (Row.cons.1 r3).1
   show endQ _ _ _ _ _ _
   refine endQ_0n ?_
   rw [List.dropLast_concat,show (lp'++[some g]).drop ((lp'++[some g]).length-1)=[some g] by simp]
   exact s2
 obtain ⟨nb,no,nc,on,un,vn⟩:=s.nd 0 rfl
 rcases hj with ⟨rfl,hj⟩ | ⟨rfl,hj⟩
 ·have hb:((i0:Int) == (ks.length:Int))=false:=by simp;omega
  refine W_sq fun K hK=>(W_text [true,true,true,true,true,true,true] (by kernel_rfl) ?_);simp only [↓zZ1,↓reduceIte,Nat.reduceEqDiff,rg,ow_151,e1,e2,ptr_eq,on.h2,hb]
  apply hK;clear hK K
  refine W_false (by simp only [zZ2,Nat.reduceEqDiff,↓reduceIte,zZ3]<;>rfl) (W_skip ?_)
  exact hend _ e0 e1 e2
 ·have hb:((ks.length:Int) == (ks.length:Int))=true:=by simp
  refine W_sq fun K hK=>(W_text [true,true,true,true,true,true,true] (by kernel_rfl) ?_);simp only [↓zZ1,↓reduceIte,Nat.reduceEqDiff,rg,ow_151,e1,e2,ptr_eq,on.h2,hb]
  apply hK;clear hK K
  refine W_true (by simp only [zZ2,Nat.reduceEqDiff,↓reduceIte,zZ3]<;>rfl) ?_
  have q1:=wsub1 ks.length (by omega) (by omega)
  have hjs:ks.length-1=j:=by omega
  refine W_rg fun K hK=>(W_text [true,true,true] (by kernel_rfl) ?_);simp only [↓zZ1,↓reduceIte,Nat.reduceEqDiff,rg,ow_151,e2,q1]
  apply hK;clear hK K
  exact hend _ e0 e1 (by simp only [upd_eq,Nat.reduceEqDiff,↓reduceIte]<;>rw [hjs])
set_option maxHeartbeats 4000000 in
set_option maxRecDepth 8000 in
theorem reb_left (m d b p q bc i0 j cl cr:Nat) (iso cb:Int) (ks ls rs:List It) (k x:It) (ps lp rp:List (Option Nat)) (chl chr:Value) (w0 w:World) (G:Nat->Nat->Prop) (hd:2<=d) (hd':d<=128) (hc:Cfg w0 m iso d) (hG:∀ o,¬ G m o)
  (s:Ss w0 G w [ndO E iso 1 b cb ks (ptr bc),ndO E iso 0 p (cl:Nat) ls chl,ndO E iso 0 q (cr:Nat) (x::rs) chr,kdO (ptr bc) ps,kdO chl lp,kdO chr rp]) (hj:(i0=j/\j<ks.length)\/(i0=ks.length/\j+1=ks.length)) (hkl:ks.length<=2*d-1) (hk:ks[j]? = some k) (hps:ps.length=ks.length+1) (hp:ps[j]? = some (some p)) (hq:ps[j+1]? = some (some q))
  (hch:(chl = .pointer none/\chr = .pointer none/\lp=[]/\rp=[])\/∃ lc rc,chl=ptr lc/\chr=ptr rc/\lp.length=ls.length+1/\rp.length=(x::rs).length+1) (hll:ls.length<=2*d-1) (hrl:(x::rs).length<=2*d-1) (hcl:cl<2305843009213693952) (hcr:cr<2305843009213693952) (hlt:2*d-1<=ls.length+(x::rs).length) (hgt:ls.length<=(x::rs).length) (cg:Nat) (hcg:1+cg<=cr) (hcgb:cl+cg<2305843009213693952) (hg:(rp=[]/\cg=0)\/∃ g rp',rp=some g::rp'/\rd w0 g 1=some (.int .i64 (cg:Nat))/\∀ o,¬ G g o) :
  CallK Try.prog 151 #[ptr m,ptr b,.int .i64 (i0:Nat)] w fun _ w'=>Ss w0 G w' [ndO E iso 1 b cb (ks.set j x) (ptr bc),ndO E iso 0 p ((cl+1+cg:Nat):Int) (ls++[k]) chl,ndO E iso 0 q ((cr-1-cg:Nat):Int) rs chr,kdO (ptr bc) ps,kdO chl (lp++rp.take 1),kdO chr (rp.drop 1)]:=by
 have hjn:j<ks.length:=(List.getElem?_eq_some_iff.1 hk).1
 refine calls_of_W [] Try.func151 rfl Try.ntmps151 Try.results151 (by simp) fun e he=>?_
 have e0:e 0=ptr m:=he 0 _ rfl
 have e1:e 1=ptr b:=he 1 _ rfl
 have e2:e 2 = .int .i64 (i0:Nat):=he 2 _ rfl
 clear he
 refine W_sqx fun J hJ=>?_
 have hend:∀ e,e 0=ptr m->e 1=ptr b->e 2 = .int .i64 j->J e w:=by
  clear e0 e1 e2 e
  intro e e0 e1 e2
  refine hJ _ _ ?_;clear hJ J
  obtain ⟨nb,no,nc,on,un,vn⟩:=s.nd 0 rfl
  obtain ⟨xb,xo,xc,ox,ux⟩:=s.kd 3 rfl
  obtain ⟨lb,lo,lq,ol,ul,vl⟩:=s.nd 1 rfl
  obtain ⟨tb,to,tq,ot,ut,vt⟩:=s.nd 2 rfl
  have hiso:=(hc.ext s.x fun o _ _=>hG o).iso
  have hjp:j<ps.length:=by omega
  refine W_sq fun K hK=>(W_text [true,true,true,true,true,true,true,true,true,false,true] (by kernel_rfl) ?_);simp only [↓zZ1,↓reduceIte,Nat.reduceEqDiff,rg,ow_151,e0,e1,e2,ptr_eq,on.h3,ox.hd,hjp]
  refine do_call fn_96 (by simp only [zZ2,Nat.reduceEqDiff,↓reduceIte,zZ4]<;>rfl) (isoLoad_any m xb (xo+j) p true iso _ hiso (ox.ptr_at hp) ol.h0) ?_
  rintro _ w1 ⟨rfl,r1⟩
  refine ⟨trivial,?_⟩
  simp only [↓zZ1,↓reduceIte,Nat.reduceEqDiff,rg,ow_151]
  apply hK;clear hK K
  have X1:Ext noF w w1:=r1.ext
  have on:=on.ext X1 fun _ _ _ g=>g
  have ox:=ox.ext0 X1
  have ot:=ot.ext X1 fun _ _ _ g=>g
  have hiso:=X1.rd hiso fun g=>g
  have q1:=wadd1 j (by omega)
  have hjp:j+1<ps.length:=by omega
  refine W_sq fun K hK=>(W_text [true,true,true,true,true,true,true,true,true,true,false,true] (by kernel_rfl) ?_);simp only [↓zZ1,↓reduceIte,Nat.reduceEqDiff,rg,ow_151,e0,e1,e2,ptr_eq,on.h3,ox.hd,hjp,q1]
  refine do_call fn_96 (by simp only [zZ2,Nat.reduceEqDiff,↓reduceIte,zZ4]<;>rfl) (isoLoad_any m xb (xo+(j+1)) q true iso _ hiso (ox.ptr_at hq) ot.h0) ?_
  rintro _ w2 ⟨rfl,r2⟩
  refine ⟨trivial,?_⟩
  simp only [↓zZ1,↓reduceIte,Nat.reduceEqDiff,rg,ow_151]
  apply hK;clear hK K
  have s2:=(s.ext0 X1).ext0 r2.ext
  refine W_st s2 e0 e1 e2 (by simp only [upd_eq,Nat.reduceEqDiff,↓reduceIte]<;>rfl) (by simp only [upd_eq,Nat.reduceEqDiff,↓reduceIte]<;>rfl) ?_
  clear s s2 e0 e1 e2 on un vn ox ux ol ul vl ot ut vt hiso X1 r1 r2 hjp q1
  clear e;intro e w s e0 e1 e2 e6 e7
  obtain ⟨lb,lo,lq,ol,ul,vl⟩:=s.nd 1 rfl
  obtain ⟨tb,to,tq,ot,ut,vt⟩:=s.nd 2 rfl
  have q1:=wadd ls.length (x::rs).length (by omega)
  have hmx:=(hc.ext s.x fun o _ _=>hG o).mx
  have hb:decide (((ls.length+(x::rs).length:Nat):Int)<((2*d-1:Nat):Int))=false:=by simp only [decide_eq_false_iff_not];omega
  refine W_sq fun K hK=>(W_draw (some none) none [(0,0,0),(0,1,0),(0,2,0),(0,3,0),(0,4,0),(0,5,0),(0,6,0),(0,7,0),(0,8,0),(0,9,0),(0,10,0),(0,11,0),(0,12,0),(0,13,0),(0,14,0),(0,15,0)] mixed (by kernel_rfl) ?_);simp only [↓zZ1,↓reduceIte,Nat.reduceEqDiff,rg,ow_151,e0,e6,e7,ptr_eq,ol.h2,ot.h2,q1,hmx,hb]
  apply hK;clear hK K
  refine W_false (by simp only [zZ2,Nat.reduceEqDiff,↓reduceIte,zZ3]<;>rfl) ?_
  have hb2:decide (((x::rs).length:Int)<(ls.length:Int))=false:=by simp only [decide_eq_false_iff_not];omega
  refine W_sq fun K hK=>(W_draw (some none) none [(0,0,0),(0,1,0),(0,2,0),(0,3,0),(0,4,0),(0,5,0),(0,6,0),(0,7,0),(0,8,0),(0,9,0),(0,10,0)] mixed (by kernel_rfl) ?_);simp only [↓zZ1,↓reduceIte,Nat.reduceEqDiff,rg,ow_151,e0,e6,e7,ptr_eq,ol.h2,ot.h2,hb2]
  apply hK;clear hK K
  refine W_false (by simp only [zZ2,Nat.reduceEqDiff,↓reduceIte,zZ3]<;>rfl) ?_
  refine W_st (s.ext0 (Ext.dr noF w _)) e0 e1 e2 e6 e7 ?_
  clear s e0 e1 e2 e6 e7 ol ul vl ot ut vt q1 hmx hb hb2
  clear e;intro e w s e0 e1 e2 e6 e7
  obtain ⟨n0,hn0⟩:∃ n0,n0=rs.length+1:=⟨_,rfl⟩
  have hnl:(x::rs).length=n0:=by simp [hn0]
  obtain ⟨lb,lo,lq,ol,ul,vl⟩:=s.nd 1 rfl
  obtain ⟨nb,no,nq,on,un,vn⟩:=s.nd 0 rfl
  have hkv:=it_at on.row hk
  have hb_p:=wok_lt ol.wb
  have L0:=on1_0 p
  refine W_sq fun K hK=>(W_semi (some (some [p])) (.take false 0 (.take false 1 (.take false 2 (.take false 3 (.take false 4 (.take false 5 (.take false 6 (.take false 7 (.take true 8 (.take false 9 (.take false 10 (.take true 11 (.act 12 (.bar 13 (.take false 14 (.take false 15 (.bar 16 .nil))))))))))))))))) mixed (by kernel_rfl) ?_);simp only [↓rgm,↓zZ1,↓reduceIte,Nat.reduceEqDiff,rg,ow_151,e0,e1,e2,e6,e7,ptr_eq,ol.h2,on.h2,hjn,hkv,L0,rB_on]
  refine do_bsl rfl (rb_k k) fun w1 n1=>⟨.inr (n1.keep _ (lt1 hb_p)),?_⟩
  simp only [↓zZ1,↓reduceIte,Nat.reduceEqDiff,rg,ow_151,↓rgm]
  have n1:=n1.od
  have a1:=ol.se.ext0 n1.ext
  refine do_append (by simp only [zZ2,Nat.reduceEqDiff,↓reduceIte,zZ3]<;>rfl) (by simp only [zZ2,Nat.reduceEqDiff,↓reduceIte,zZ3]<;>rfl) rb_eli rfl ni_25 a1.slV (u:=.slice (some ⟨w.heap.size,0,none⟩) 1 1) (m:=1) (l':=E.cel k) ⟨rfl,.inr ⟨_,0,1,rfl,Nat.le_refl _,n1.row,n1.wok.R (Nat.le_refl _)⟩⟩ (by omega) (by decide) (E.one _) fun v2 w2 a2=>⟨trivial,?_⟩
  obtain ⟨gb,go,gc,rfl,wk2,-,nx⟩:=a1.app' (ls:=[k]) rfl (by rw [flat_one];exact a2)
  simp only [↓zZ1,↓reduceIte,Nat.reduceEqDiff,rg,ow_151,↓rgm]
  refine do_store (by simp only [zZ2,Nat.reduceEqDiff,↓reduceIte,zZ3]<;>rfl) (by simp only [zZ2,Nat.reduceEqDiff,↓reduceIte,zZ3]<;>rfl) sz_25 rfl wk2 (by decide) (oc_one rfl rfl) fun w3 x3 r3 s3=>⟨trivial,?_⟩
  simp only [↓zZ1,↓reduceIte,Nat.reduceEqDiff,rg,ow_151,↓rgm]
  apply hK;clear hK K
  obtain ⟨g1,g2,g3⟩:=nx w3 x3 (Row.cons.1 r3).1
  have s2:Ss w0 G w3 [ndO E iso 1 b cb ks (ptr bc),ndO E iso 0 p (cl:Nat) (ls++[k]) chl,ndO E iso 0 q (cr:Nat) (x::rs) chr,kdO (ptr bc) ps,kdO chl lp,kdO chr rp]:=ul g1 (n1.ext.trans g2 (fun _ _ h=>h.elim) fun _ _ _ h=>h) (g3.imp id fun h=>⟨(by have:=n1.size;omega),Nat.zero_le _⟩)
  refine W_st s2 e0 e1 e2 e6 e7 ?_
  clear s s2 e0 e1 e2 e6 e7 ol ul vl on un vn wk2 nx x3 r3 s3 g1 g2 g3 hkv hb_p n1 a1 a2 L0
  clear e;intro e w s e0 e1 e2 e6 e7
  obtain ⟨lb,lo,lq,ol,ul,vl⟩:=s.nd 1 rfl
  have q1:=wadd1 cl (by omega)
  refine W_sq fun K hK=>(W_text [true,true,true,true,true,true,true,false] (by kernel_rfl) ?_);simp only [↓zZ1,↓reduceIte,Nat.reduceEqDiff,rg,ow_151,e0,e1,e2,e6,e7,ptr_eq,ol.h1,q1]
  refine do_store (by simp only [zZ2,Nat.reduceEqDiff,↓reduceIte,zZ3]<;>rfl) (by simp only [zZ2,Nat.reduceEqDiff,↓reduceIte,zZ3]<;>rfl) sz_3 rfl ol.wb (by decide) (oc_one rfl rfl) fun w3 x3 r3 s3=>⟨(by first | exact trivial | exact .inl trivial),?_⟩
  simp only [↓zZ1,↓reduceIte,Nat.reduceEqDiff,rg,ow_151,↓rgm]
  apply hK;clear hK K
  have s2:Ss w0 G w3 [ndO E iso 1 b cb ks (ptr bc),ndO E iso 0 p ((cl+1:Nat):Int) (ls++[k]) chl,ndO E iso 0 q (cr:Nat) (x::rs) chr,kdO (ptr bc) ps,kdO chl lp,kdO chr rp]:=vl x3 (Row.cons.1 r3).1
  refine W_st s2 e0 e1 e2 e6 e7 ?_
  clear s s2 e0 e1 e2 e6 e7 ol ul vl x3 r3 s3  q1
  clear e;intro e w s e0 e1 e2 e6 e7
  obtain ⟨nb,no,nq,on,un,vn⟩:=s.nd 0 rfl
  obtain ⟨tb,to,tq,ot,ut,vt⟩:=s.nd 2 rfl
  have hl0:0<(x::rs).length:=by omega
  have i0:=ix0 2 tb to (x::rs).length hl0
  have hxv:=it_at ot.row (i:=0) (x:=x) rfl
  simp only [Nat.zero_mul,Nat.add_zero] at hxv
  refine W_sq fun K hK=>(W_draw (some none) (some 12) [(0,0,0),(0,1,0),(0,2,0),(0,3,0),(0,4,0),(0,5,0),(0,6,0),(0,7,0),(0,8,0),(0,9,0),(0,10,0),(0,11,0),(1,12,0)] mixed (by kernel_rfl) ?_);simp only [↓zZ1,↓reduceIte,Nat.reduceEqDiff,rg,ow_151,e0,e1,e2,e6,e7,ptr_eq,on.h2,ot.h2,hjn,hxv,i0]
  refine do_store (by simp only [zZ2,Nat.reduceEqDiff,↓reduceIte,zZ3]<;>rfl) (by simp only [zZ2,Nat.reduceEqDiff,↓reduceIte,zZ3]<;>rfl) sz_33 (rb_len x) on.se.wi (by have:=on.se.le;rw [E_sz];skip;omega) (rb_oc x) fun w3 x3 r3 s3=>⟨(by first | exact trivial | exact .inl trivial),?_⟩
  simp only [↓zZ1,↓reduceIte,Nat.reduceEqDiff,rg,ow_151,↓rgm]
  apply hK;clear hK K
  obtain ⟨g1,g2⟩:=on.se.set (i:=j) (x:=x) (hjn) (by simp only [E_sz,Nat.mul_one];exact x3.od) (by simp only [E_sz,Nat.mul_one];exact r3)
  skip
  have s2:Ss w0 G w3 [ndO E iso 1 b cb (ks.set j x) (ptr bc),ndO E iso 0 p ((cl+1:Nat):Int) (ls++[k]) chl,ndO E iso 0 q (cr:Nat) (x::rs) chr,kdO (ptr bc) ps,kdO chl lp,kdO chr rp]:=un g1 g2 (.inl ⟨rfl,rfl,rfl⟩)
  refine W_st s2 e0 e1 e2 e6 e7 ?_
  clear s s2 e0 e1 e2 e6 e7 on un vn ot ut vt x3 r3 s3 g1 g2 hxv hl0 i0
  clear e;intro e w s e0 e1 e2 e6 e7
  obtain ⟨tb,to,tq,ot,ut,vt⟩:=s.nd 2 rfl
  have hil:0<(x::rs).length:=by simp
  have hic:=ot.se.le
  obtain ⟨o2,h2,-,v2,-⟩:=ot.se.from E_sz 1 (by omega)
  have i2:1<=(x::rs).length:=by omega
  have h3:slcX (some 2) (.slice (some ⟨tb,to,none⟩) (x::rs).length tq) (some (.int .i64 1)) none none=some (slFrom tb to 2 1 (x::rs).length tq):=slcX_lo _ _ _ _ _ 1 _ i2
  refine W_sq fun K hK=>(W_draw (some none) (some 9) [(0,0,0),(0,1,0),(0,2,0),(0,3,0),(0,4,0),(0,5,0),(0,6,0),(0,7,0),(0,8,0),(1,9,0)] mixed (by kernel_rfl) ?_);simp only [↓zZ1,↓reduceIte,Nat.reduceEqDiff,rg,ow_151,e0,e1,e2,e6,e7,ptr_eq,ot.h2,h3,i2,h2]
  refine do_copy (by simp only [zZ2,Nat.reduceEqDiff,↓reduceIte,zZ3]<;>rfl) (by simp only [zZ2,Nat.reduceEqDiff,↓reduceIte,zZ3]<;>rfl) rb_eli (SlV.ext0 v2 (Ext.dr noF w (w.drawn+1))) ((Ext.dr noF w (w.drawn+1)).wok (ot.se.wi.mono (by rw [E_sz];omega))) (flat_oc E _) fun w3 x3 r3 s3=>⟨(by first | exact trivial | exact .inl trivial),?_⟩
  simp only [↓zZ1,↓reduceIte,Nat.reduceEqDiff,rg,ow_151,↓rgm]
  apply hK;clear hK K
  have hm:min ((x::rs).length-1) ((x::rs).length)=(x::rs).length-1-0:=by omega
  rw [hm] at x3 r3
  rw [List.take_of_length_le (by rw [flat_length,List.length_drop,E_sz];omega)] at r3
  obtain ⟨z,g1,g2⟩:=ot.se.down (i:=0) hil (by rw [Nat.zero_mul,Nat.add_zero];exact x3.od) (by rw [Nat.zero_mul,Nat.add_zero];exact r3)
  have s2:Ss w0 G w3 [ndO E iso 1 b cb (ks.set j x) (ptr bc),ndO E iso 0 p ((cl+1:Nat):Int) (ls++[k]) chl,ndO E iso 0 q (cr:Nat) (rs++[z]) chr,kdO (ptr bc) ps,kdO chl lp,kdO chr rp]:=ut g1 g2 (.inl ⟨rfl,rfl,rfl⟩)
  refine W_st s2 e0 e1 e2 e6 e7 ?_
  clear s s2 e0 e1 e2 e6 e7 ot ut vt x3 r3 s3 g1 g2 hm hil hic v2 h2 i2   h3
  clear e;intro e w s e0 e1 e2 e6 e7
  obtain ⟨tb,to,tq,ot,ut,vt⟩:=s.nd 2 rfl
  have hA:(rs++[z]).length=n0:=by rw [List.length_append,List.length_singleton];skip;omega
  have h2:=ot.se.hd
  rw [hA] at h2
  have q1:=wsub1 (n0) (by omega) (by omega)
  have hi:n0-1<n0:=by omega
  have z4:=zIt_at (hc.ext s.x fun o _ _=>hG o)
  refine W_sq fun K hK=>(W_draw (some none) (some 15) [(0,0,0),(0,1,0),(0,2,0),(0,3,0),(0,4,0),(0,5,0),(0,6,0),(0,7,0),(0,8,0),(0,9,0),(0,10,0),(0,11,0),(0,12,0),(0,13,0),(0,14,0),(1,15,0)] mixed (by kernel_rfl) ?_);simp only [↓zZ1,↓reduceIte,Nat.reduceEqDiff,rg,ow_151,e0,e1,e2,e6,e7,ptr_eq,h2,q1,hi,z4]
  refine do_store (by simp only [zZ2,Nat.reduceEqDiff,↓reduceIte,zZ3]<;>rfl) (by simp only [zZ2,Nat.reduceEqDiff,↓reduceIte,zZ3]<;>rfl) sz_33 (rb_len zIt) ot.se.wi (by have:=ot.se.le;rw [E_sz];rw [hA] at this;omega) (rb_oc zIt) fun w3 x3 r3 s3=>⟨(by first | exact trivial | exact .inl trivial),?_⟩
  simp only [↓zZ1,↓reduceIte,Nat.reduceEqDiff,rg,ow_151,↓rgm]
  apply hK;clear hK K
  obtain ⟨g1,g2⟩:=ot.se.set (i:=n0-1) (x:=zIt) (by rw [hA];omega) (by simp only [E_sz,Nat.mul_one];exact x3.od) (by simp only [E_sz,Nat.mul_one];exact r3)
  have hs:(rs++[z]).set (n0-1) zIt=rs++[zIt]:=by rw [show n0-1=(rs).length by skip;omega];exact set_last
  rw [hs] at g1
  have s2:Ss w0 G w3 [ndO E iso 1 b cb (ks.set j x) (ptr bc),ndO E iso 0 p ((cl+1:Nat):Int) (ls++[k]) chl,ndO E iso 0 q (cr:Nat) (rs++[zIt]) chr,kdO (ptr bc) ps,kdO chl lp,kdO chr rp]:=ut g1 g2 (.inl ⟨rfl,rfl,rfl⟩)
  refine W_st s2 e0 e1 e2 e6 e7 ?_
  clear s s2 e0 e1 e2 e6 e7 ot ut vt x3 r3 s3 g1 g2 hA h2 q1 hi z4 hs
  clear e;intro e w s e0 e1 e2 e6 e7
  obtain ⟨tb,to,tq,ot,ut,vt⟩:=s.nd 2 rfl
  have hA:(rs++[zIt]).length=n0:=by rw [List.length_append,List.length_singleton];skip;omega
  have h2:=ot.se.hd
  have h4:=ot.se.le
  rw [hA] at h2 h4
  have q1:=wsub1 (n0) (by omega) (by omega)
  have hi:n0-1<=tq:=by omega
  refine W_sq fun K hK=>(W_draw (some none) (some 14) [(0,0,0),(0,1,0),(0,2,0),(0,3,0),(0,4,0),(0,5,0),(0,6,0),(0,7,0),(0,8,0),(0,9,0),(0,10,0),(0,11,0),(0,12,0),(0,13,0),(1,14,0)] mixed (by kernel_rfl) ?_);simp only [↓zZ1,↓reduceIte,Nat.reduceEqDiff,rg,ow_151,e0,e1,e2,e6,e7,ptr_eq,h2,q1,hi]
  refine do_store (by simp only [zZ2,Nat.reduceEqDiff,↓reduceIte,zZ3]<;>rfl) (by simp only [zZ2,Nat.reduceEqDiff,↓reduceIte,zZ3]<;>rfl) sz_25 rfl ot.se.hok (by decide) (oc_one rfl rfl) fun w3 x3 r3 s3=>⟨(by first | exact trivial | exact .inl trivial),?_⟩
  simp only [↓zZ1,↓reduceIte,Nat.reduceEqDiff,rg,ow_151,↓rgm]
  apply hK;clear hK K
  obtain ⟨g1,g2⟩:=ot.se.cut x3.od (by rw [show (rs).length=n0-1 by skip;omega];exact (Row.cons.1 r3).1)
  have s2:Ss w0 G w3 [ndO E iso 1 b cb (ks.set j x) (ptr bc),ndO E iso 0 p ((cl+1:Nat):Int) (ls++[k]) chl,ndO E iso 0 q (cr:Nat) rs chr,kdO (ptr bc) ps,kdO chl lp,kdO chr rp]:=ut g1 g2 (.inl ⟨rfl,rfl,rfl⟩)
  refine W_st s2 e0 e1 e2 e6 e7 ?_
  clear s s2 e0 e1 e2 e6 e7 ot ut vt x3 r3 s3 g1 g2 hA h2 h4 q1 hi
  clear e;intro e w s e0 e1 e2 e6 e7
  obtain ⟨tb,to,tq,ot,ut,vt⟩:=s.nd 2 rfl
  have q1:=wsub1 cr (by omega) (by omega)
  refine W_sq fun K hK=>(W_text [true,true,true,true,true,true,true,false] (by kernel_rfl) ?_);simp only [↓zZ1,↓reduceIte,Nat.reduceEqDiff,rg,ow_151,e0,e1,e2,e6,e7,ptr_eq,ot.h1,q1]
  refine do_store (by simp only [zZ2,Nat.reduceEqDiff,↓reduceIte,zZ3]<;>rfl) (by simp only [zZ2,Nat.reduceEqDiff,↓reduceIte,zZ3]<;>rfl) sz_3 rfl ot.wb (by decide) (oc_one rfl rfl) fun w3 x3 r3 s3=>⟨(by first | exact trivial | exact .inl trivial),?_⟩
  simp only [↓zZ1,↓reduceIte,Nat.reduceEqDiff,rg,ow_151,↓rgm]
  apply hK;clear hK K
  have s2:Ss w0 G w3 [ndO E iso 1 b cb (ks.set j x) (ptr bc),ndO E iso 0 p ((cl+1:Nat):Int) (ls++[k]) chl,ndO E iso 0 q ((cr-1:Nat):Int) rs chr,kdO (ptr bc) ps,kdO chl lp,kdO chr rp]:=vt x3 (Row.cons.1 r3).1
  refine W_st s2 e0 e1 e2 e6 e7 ?_
  clear s s2 e0 e1 e2 e6 e7 ot ut vt x3 r3 s3  q1
  clear e;intro e w s e0 e1 e2 e6 e7
  obtain ⟨lb,lo,lq,ol,ul,vl⟩:=s.nd 1 rfl
  rcases hch with ⟨rfl,rfl,rfl,rfl⟩ | ⟨lc,rc,rfl,rfl,hlp,hrp⟩
  ·refine W_sq fun K hK=>(W_text [true,false,true] (by kernel_rfl) ?_);simp only [↓zZ1,↓reduceIte,Nat.reduceEqDiff,rg,ow_151,e6]
   refine do_call fn_108 (by simp only [zZ2,Nat.reduceEqDiff,↓reduceIte,zZ4]<;>rfl) (leaf_any p none w ol.h3) ?_
   rintro _ w1 ⟨rfl,hw1⟩
   obtain rfl:w=w1:=hw1.symm
   refine ⟨trivial,?_⟩
   simp only [↓zZ1,↓reduceIte,Nat.reduceEqDiff,rg,ow_151]
   apply hK;clear hK K
   refine W_false (by simp only [zZ2,Nat.reduceEqDiff,↓reduceIte,zZ3]<;>rfl) (W_skip ?_)
   show endQ _ _ _ _ _ _
   refine endQ_0n ?_
   obtain rfl:cg=0:=by
    rcases hg with ⟨_,h⟩ | ⟨g,rp',h,_⟩
    ·exact h
    ·cases h
   exact s
  ·refine W_sq fun K hK=>(W_text [true,false,true] (by kernel_rfl) ?_);simp only [↓zZ1,↓reduceIte,Nat.reduceEqDiff,rg,ow_151,e6]
   refine do_call fn_108 (by simp only [zZ2,Nat.reduceEqDiff,↓reduceIte,zZ4]<;>rfl) (leaf_any p (some ⟨lc,0,none⟩) w ol.h3) ?_
   rintro _ w1 ⟨rfl,hw1⟩
   obtain rfl:w=w1:=hw1.symm
   refine ⟨trivial,?_⟩
   simp only [↓zZ1,↓reduceIte,Nat.reduceEqDiff,rg,ow_151]
   apply hK;clear hK K
   refine W_true (by simp only [zZ2,Nat.reduceEqDiff,↓reduceIte,zZ3]<;>rfl) ?_
   refine W_st s e0 e1 e2 e6 e7 ?_
   clear s e0 e1 e2 e6 e7 ol ul vl
   clear e;intro e w s e0 e1 e2 e6 e7
   obtain ⟨g,rp',rfl,hgc,hgG⟩:∃ g rp',rp=some g::rp'/\rd w0 g 1=some (.int .i64 (cg:Nat))/\∀ o,¬ G g o:=by
    rcases hg with ⟨h,_⟩ | h
    ·rw [h] at hrp;cases hrp
    ·exact h
   obtain ⟨n2,hn2⟩:∃ n2,n2=rp'.length+1:=⟨_,rfl⟩
   have hnk:(some g::rp').length=n2:=by simp [hn2]
   have hlp0:lp.length<=2*d:=by omega
   have hlp1:0<lp.length:=by omega
   have hn2b:n2<=2*d:=by omega
   clear hlp hrp hll hrl hgt hlt hnl
   obtain ⟨lb,lo,lq,ol,ul,vl⟩:=s.nd 1 rfl
   obtain ⟨yb,yo,yq,oy,uy,fn,fk⟩:=s.kdx 4 rfl (by omega)
   obtain ⟨tb,to,tq,ot,ut,vt⟩:=s.nd 2 rfl
   obtain ⟨zb,zo,zq,oz,uz⟩:=s.kd 5 rfl
   have hb_p:=wok_lt ol.wb
   have hb_lc:=wok_lt oy.hok
   have hgv:=oz.ptr_at (j:=0) (p:=g) rfl
   rw [Nat.add_zero] at hgv
   have hl0:0<(some g::rp').length:=by omega
   have i0:=ix0 1 zb zo (some g::rp').length hl0
   have L0:=on2_0 p lc
   have L1:=on2_1 p lc
   refine W_sq fun K hK=>(W_semi (some (some [p,lc])) (.take false 0 (.take false 1 (.take false 2 (.take false 3 (.take false 4 (.take false 5 (.take false 6 (.take false 7 (.take false 8 (.take false 9 (.take false 10 (.take false 11 (.take false 12 (.take true 13 (.take false 14 (.take true 15 (.take false 16 (.take true 17 (.act 18 (.act 19 (.take false 20 (.bar 21 .nil)))))))))))))))))))))) mixed (by kernel_rfl) ?_);simp only [↓rgm,↓zZ1,↓reduceIte,Nat.reduceEqDiff,rg,ow_151,e0,e1,e2,e6,e7,ptr_eq,ol.h3,oy.hd,ot.h3,oz.hd,i0,hgv,L0,L1,rB_on]
   refine do_bsl rfl (rb_o (some ⟨g,0,none⟩)) fun w1 n1=>⟨.inr (n1.keep _ (lt2 hb_p hb_lc)),?_⟩
   simp only [↓zZ1,↓reduceIte,Nat.reduceEqDiff,rg,ow_151,↓rgm]
   have n1:=n1.od
   have a1:=oy.ext0 n1.ext
   refine do_append (by simp only [zZ2,Nat.reduceEqDiff,↓reduceIte,zZ3]<;>rfl) (by simp only [zZ2,Nat.reduceEqDiff,↓reduceIte,zZ3]<;>rfl) rb_elk rfl ni_166 a1.slV (u:=.slice (some ⟨w.heap.size,0,none⟩) 1 1) (m:=1) (l':=Eo.cel (some g)) ⟨rfl,.inr ⟨_,0,1,rfl,Nat.le_refl _,n1.row,n1.wok.R (Nat.le_refl _)⟩⟩ (by omega) (by decide) (Eo.one _) fun v2 w2 a2=>⟨.inr (app_keep a2 _ (fkeep2 ⟨wok_lt (n1.ext.wok ol.wb),fn 1 (by decide) rfl⟩ ⟨wok_lt (n1.ext.wok oy.hok),oy.ne.symm⟩)),?_⟩
   obtain ⟨gb,go,gc,rfl,wk2,-,nx⟩:=a1.app' (ls:=[(some g)]) rfl (by rw [flat_one];exact a2)
   simp only [↓zZ1,↓reduceIte,Nat.reduceEqDiff,rg,ow_151,↓rgm]
   refine do_store (by simp only [zZ2,Nat.reduceEqDiff,↓reduceIte,zZ3]<;>rfl) (by simp only [zZ2,Nat.reduceEqDiff,↓reduceIte,zZ3]<;>rfl) sz_166 rfl wk2 (by decide) (oc_one rfl rfl) fun w3 x3 r3 s3=>⟨trivial,?_⟩
   simp only [↓zZ1,↓reduceIte,Nat.reduceEqDiff,rg,ow_151,↓rgm]
   apply hK;clear hK K
   obtain ⟨g1,g2,g3⟩:=nx w3 x3 (Row.cons.1 r3).1
   have s2:Ss w0 G w3 [ndO E iso 1 b cb (ks.set j x) (ptr bc),ndO E iso 0 p ((cl+1:Nat):Int) (ls++[k]) (ptr lc),ndO E iso 0 q ((cr-1:Nat):Int) rs (ptr rc),kdO (ptr bc) ps,kdO (ptr lc) (lp++[(some g)]),kdO (ptr rc) (some g::rp')]:=uy g1 (n1.ext.trans g2 (fun _ _ h=>h.elim) fun _ _ _ h=>h) (g3.imp id fun h=>(by have:=n1.size;omega))
   refine W_st s2 e0 e1 e2 e6 e7 ?_
   clear s s2 e0 e1 e2 e6 e7 ol ul vl oy uy fn fk ot ut vt oz uz wk2 nx x3 r3 s3 g1 g2 g3 hb_p hb_lc hgv hl0 i0 n1 a1 a2 L0 L1
   clear e;intro e w s e0 e1 e2 e6 e7
   obtain ⟨tb,to,tq,ot,ut,vt⟩:=s.nd 2 rfl
   obtain ⟨zb,zo,zq,oz,uz⟩:=s.kd 5 rfl
   have hil:0<(some g::rp').length:=by simp
   have hic:=oz.le
   obtain ⟨o2,h2,-,v2,-⟩:=oz.from Eo_sz 1 (by omega)
   have i2:1<=(some g::rp').length:=by omega
   have h3:slcX (some 1) (.slice (some ⟨zb,zo,none⟩) (some g::rp').length zq) (some (.int .i64 1)) none none=some (slFrom zb zo 1 1 (some g::rp').length zq):=slcX_lo _ _ _ _ _ 1 _ i2
   refine W_sq fun K hK=>(W_draw (some none) (some 13) [(0,0,0),(0,1,0),(0,2,0),(0,3,0),(0,4,0),(0,5,0),(0,6,0),(0,7,0),(0,8,0),(0,9,0),(0,10,0),(0,11,0),(0,12,0),(1,13,0)] mixed (by kernel_rfl) ?_);simp only [↓zZ1,↓reduceIte,Nat.reduceEqDiff,rg,ow_151,e0,e1,e2,e6,e7,ptr_eq,ot.h3,oz.hd,h3,i2,h2]
   refine do_copy (by simp only [zZ2,Nat.reduceEqDiff,↓reduceIte,zZ3]<;>rfl) (by simp only [zZ2,Nat.reduceEqDiff,↓reduceIte,zZ3]<;>rfl) rb_elk (SlV.ext0 v2 (Ext.dr noF w (w.drawn+1))) ((Ext.dr noF w (w.drawn+1)).wok (oz.wi.mono (by rw [Eo_sz];omega))) (flat_oc Eo _) fun w3 x3 r3 s3=>⟨(by first | exact trivial | exact .inl trivial),?_⟩
   simp only [↓zZ1,↓reduceIte,Nat.reduceEqDiff,rg,ow_151,↓rgm]
   apply hK;clear hK K
   have hm:min ((some g::rp').length-1) ((some g::rp').length)=(some g::rp').length-1-0:=by omega
   rw [hm] at x3 r3
   rw [List.take_of_length_le (by rw [flat_length,List.length_drop,Eo_sz];omega)] at r3
   obtain ⟨z,g1,g2⟩:=oz.down (i:=0) hil (by rw [Nat.zero_mul,Nat.add_zero];exact x3.od) (by rw [Nat.zero_mul,Nat.add_zero];exact r3)
   have s2:Ss w0 G w3 [ndO E iso 1 b cb (ks.set j x) (ptr bc),ndO E iso 0 p ((cl+1:Nat):Int) (ls++[k]) (ptr lc),ndO E iso 0 q ((cr-1:Nat):Int) rs (ptr rc),kdO (ptr bc) ps,kdO (ptr lc) (lp++[(some g)]),kdO (ptr rc) (rp'++[z])]:=uz g1 g2 (.inl ⟨rfl,rfl,rfl⟩)
   refine W_st s2 e0 e1 e2 e6 e7 ?_
   clear s s2 e0 e1 e2 e6 e7 ot ut vt oz uz x3 r3 s3 g1 g2 hm hil hic v2 h2 i2   h3
   clear e;intro e w s e0 e1 e2 e6 e7
   obtain ⟨tb,to,tq,ot,ut,vt⟩:=s.nd 2 rfl
   obtain ⟨zb,zo,zq,oz,uz⟩:=s.kd 5 rfl
   have hA:(rp'++[z]).length=n2:=by rw [List.length_append,List.length_singleton];skip;omega
   have h2:=oz.hd
   rw [hA] at h2
   have q1:=wsub1 (n2) (by omega) (by omega)
   have hi:n2-1<n2:=by omega
   refine W_sq fun K hK=>(W_draw (some none) (some 15) [(0,0,0),(0,1,0),(0,2,0),(0,3,0),(0,4,0),(0,5,0),(0,6,0),(0,7,0),(0,8,0),(0,9,0),(0,10,0),(0,11,0),(0,12,0),(0,13,0),(0,14,0),(1,15,0)] mixed (by kernel_rfl) ?_);simp only [↓zZ1,↓reduceIte,Nat.reduceEqDiff,rg,ow_151,e0,e1,e2,e6,e7,ptr_eq,ot.h3,h2,q1,hi]
   refine do_store (by simp only [zZ2,Nat.reduceEqDiff,↓reduceIte,zZ3]<;>rfl) (by simp only [zZ2,Nat.reduceEqDiff,↓reduceIte,zZ3]<;>rfl) sz_96 rfl oz.wi (by have:=oz.le;rw [Eo_sz];rw [hA] at this;omega) (oc_one rfl rfl) fun w3 x3 r3 s3=>⟨(by first | exact trivial | exact .inl trivial),?_⟩
   simp only [↓zZ1,↓reduceIte,Nat.reduceEqDiff,rg,ow_151,↓rgm]
   apply hK;clear hK K
   obtain ⟨g1,g2⟩:=oz.set (i:=n2-1) (x:=none) (by rw [hA];omega) (by rw [Eo_sz,Nat.mul_one];exact x3.od) (by rw [Eo_sz,Nat.mul_one];exact r3)
   have hs:(rp'++[z]).set (n2-1) none=rp'++[none]:=by rw [show n2-1=(rp').length by skip;omega];exact set_last
   rw [hs] at g1
   have s2:Ss w0 G w3 [ndO E iso 1 b cb (ks.set j x) (ptr bc),ndO E iso 0 p ((cl+1:Nat):Int) (ls++[k]) (ptr lc),ndO E iso 0 q ((cr-1:Nat):Int) rs (ptr rc),kdO (ptr bc) ps,kdO (ptr lc) (lp++[(some g)]),kdO (ptr rc) (rp'++[none])]:=uz g1 g2 (.inl ⟨rfl,rfl,rfl⟩)
   refine W_st s2 e0 e1 e2 e6 e7 ?_
   clear s s2 e0 e1 e2 e6 e7 ot ut vt oz uz x3 r3 s3 g1 g2 hA h2 q1 hi hs
   clear e;intro e w s e0 e1 e2 e6 e7
   obtain ⟨tb,to,tq,ot,ut,vt⟩:=s.nd 2 rfl
   obtain ⟨zb,zo,zq,oz,uz⟩:=s.kd 5 rfl
   have hA:(rp'++[none]).length=n2:=by rw [List.length_append,List.length_singleton];skip;omega
   have h2:=oz.hd
   have h4:=oz.le
   rw [hA] at h2 h4
   have q1:=wsub1 (n2) (by omega) (by omega)
   have hi:n2-1<=zq:=by omega
   refine W_sq fun K hK=>(W_draw (some none) (some 20) [(0,0,0),(0,1,0),(0,2,0),(0,3,0),(0,4,0),(0,5,0),(0,6,0),(0,7,0),(0,8,0),(0,9,0),(0,10,0),(0,11,0),(0,12,0),(0,13,0),(0,14,0),(0,15,0),(0,16,0),(0,17,0),(0,18,0),(0,19,0),(1,20,0)] mixed (by kernel_rfl) ?_);simp only [↓zZ1,↓reduceIte,Nat.reduceEqDiff,rg,ow_151,e0,e1,e2,e6,e7,ptr_eq,ot.h3,h2,q1,hi]
   refine do_store (by simp only [zZ2,Nat.reduceEqDiff,↓reduceIte,zZ3]<;>rfl) (by simp only [zZ2,Nat.reduceEqDiff,↓reduceIte,zZ3]<;>rfl) sz_166 rfl oz.hok (by decide) (oc_one rfl rfl) fun w3 x3 r3 s3=>⟨(by first | exact trivial | exact .inl trivial),?_⟩
   simp only [↓zZ1,↓reduceIte,Nat.reduceEqDiff,rg,ow_151,↓rgm]
   apply hK;clear hK K
   obtain ⟨g1,g2⟩:=oz.cut x3.od (by rw [show (rp').length=n2-1 by skip;omega];exact (Row.cons.1 r3).1)
   have s2:Ss w0 G w3 [ndO E iso 1 b cb (ks.set j x) (ptr bc),ndO E iso 0 p ((cl+1:Nat):Int) (ls++[k]) (ptr lc),ndO E iso 0 q ((cr-1:Nat):Int) rs (ptr rc),kdO (ptr bc) ps,kdO (ptr lc) (lp++[(some g)]),kdO (ptr rc) rp']:=uz g1 g2 (.inl ⟨rfl,rfl,rfl⟩)
   refine W_st s2 e0 e1 e2 e6 e7 ?_
   clear s s2 e0 e1 e2 e6 e7 ot ut vt oz uz x3 r3 s3 g1 g2 hA h2 h4 q1 hi
   clear e;intro e w s e0 e1 e2 e6 e7
   obtain ⟨lb,lo,lq,ol,ul,vl⟩:=s.nd 1 rfl
   obtain ⟨yb,yo,yq,oy,uy⟩:=s.kd 4 rfl
   obtain ⟨n4,hn4⟩:∃ n4,n4=lp.length+1:=⟨_,rfl⟩
   have h2:=oy.hd
   rw [show (lp++[some g]).length=n4 by simp [hn4]] at h2
   have q3:=wsub1 n4 (by omega) (by omega)
   have hi:n4-1<n4:=by omega
   have hgv:=oy.ptr_at (j:=n4-1) (p:=g) (by simp [hn4])
   have hg1:=s.x.rd hgc (hgG 1)
   have q1:=wadd (cl+1) cg (by omega)
   refine W_sq fun K hK=>(W_draw (some none) (some 26) [(0,0,0),(0,1,0),(0,2,0),(0,3,0),(0,4,0),(0,5,0),(0,6,0),(0,7,0),(0,8,0),(0,9,0),(0,10,0),(0,11,0),(0,12,0),(0,13,0),(0,14,0),(0,15,0),(0,16,0),(0,17,0),(0,18,0),(0,19,0),(0,20,0),(0,21,0),(0,22,0),(0,23,0),(0,24,0),(0,25,0),(1,26,0)] mixed (by kernel_rfl) ?_);simp only [↓zZ1,↓reduceIte,Nat.reduceEqDiff,rg,ow_151,e0,e1,e2,e6,e7,ptr_eq,ol.h1,h2,q3,hi,hgv,hg1,ol.h3,q1]
   refine do_store (by simp only [zZ2,Nat.reduceEqDiff,↓reduceIte,zZ3]<;>rfl) (by simp only [zZ2,Nat.reduceEqDiff,↓reduceIte,zZ3]<;>rfl) sz_3 rfl ol.wb (by decide) (oc_one rfl rfl) fun w3 x3 r3 s3=>⟨(by first | exact trivial | exact .inl trivial),?_⟩
   simp only [↓zZ1,↓reduceIte,Nat.reduceEqDiff,rg,ow_151,↓rgm]
   apply hK;clear hK K
   have s2:Ss w0 G w3 [ndO E iso 1 b cb (ks.set j x) (ptr bc),ndO E iso 0 p ((cl+1+cg:Nat):Int) (ls++[k]) (ptr lc),ndO E iso 0 q ((cr-1:Nat):Int) rs (ptr rc),kdO (ptr bc) ps,kdO (ptr lc) (lp++[(some g)]),kdO (ptr rc) rp']:=vl x3.od (Row.cons.1 r3).1
   refine W_st s2 e0 e1 e2 e6 e7 ?_
   clear s s2 e0 e1 e2 e6 e7 ol ul vl oy uy x3 r3 s3 h2 q3 hi hgv hg1 hn4 q1
   clear e;intro e w s e0 e1 e2 e6 e7
   obtain ⟨tb,to,tq,ot,ut,vt⟩:=s.nd 2 rfl
   obtain ⟨lb,lo,lq,ol,ul,vl⟩:=s.nd 1 rfl
   obtain ⟨yb,yo,yq,oy,uy⟩:=s.kd 4 rfl
   obtain ⟨n4,hn4⟩:∃ n4,n4=lp.length+1:=⟨_,rfl⟩
   have h2:=oy.hd
   rw [show (lp++[some g]).length=n4 by simp [hn4]] at h2
   have q3:=wsub1 n4 (by omega) (by omega)
   have hi:n4-1<n4:=by omega
   have hgv:=oy.ptr_at (j:=n4-1) (p:=g) (by simp [hn4])
   have hg1:=s.x.rd hgc (hgG 1)
   have q1:=wsub (cr-1) cg (by omega) (by omega)
   refine W_rg fun K hK=>(W_draw (some none) (some 26) [(0,0,0),(0,1,0),(0,2,0),(0,3,0),(0,4,0),(0,5,0),(0,6,0),(0,7,0),(0,8,0),(0,9,0),(0,10,0),(0,11,0),(0,12,0),(0,13,0),(0,14,0),(0,15,0),(0,16,0),(0,17,0),(0,18,0),(0,19,0),(0,20,0),(0,21,0),(0,22,0),(0,23,0),(0,24,0),(0,25,0),(1,26,0)] mixed (by kernel_rfl) ?_);simp only [↓zZ1,↓reduceIte,Nat.reduceEqDiff,rg,ow_151,e0,e1,e2,e6,e7,ptr_eq,ot.h1,h2,q3,hi,hgv,hg1,ol.h3,q1]
   refine do_store (by simp only [zZ2,Nat.reduceEqDiff,↓reduceIte,zZ3]<;>rfl) (by simp only [zZ2,Nat.reduceEqDiff,↓reduceIte,zZ3]<;>rfl) sz_3 rfl ot.wb (by decide) (oc_one rfl rfl) fun w3 x3 r3 s3=>⟨(by first | exact trivial | exact .inl trivial),?_⟩
   simp only [↓zZ1,↓reduceIte,Nat.reduceEqDiff,rg,ow_151,↓rgm]
   apply hK;clear hK K
   have s2:Ss w0 G w3 [ndO E iso 1 b cb (ks.set j x) (ptr bc),ndO E iso 0 p ((cl+1+cg:Nat):Int) (ls++[k]) (ptr lc),ndO E iso 0 q ((cr-1-cg:Nat):Int) rs (ptr rc),kdO (ptr bc) ps,kdO (ptr lc) (lp++[(some g)]),kdO (ptr rc) rp']:=vt x3.od (Row.cons.1 r3).1
   show endQ _ _ _ _ _ _
   refine endQ_0n ?_
   exact s2
 obtain ⟨nb,no,nc,on,un,vn⟩:=s.nd 0 rfl
 rcases hj with ⟨rfl,hj⟩ | ⟨rfl,hj⟩
 ·have hb:((i0:Int) == (ks.length:Int))=false:=by simp;omega
  refine W_sq fun K hK=>(W_text [true,true,true,true,true,true,true] (by kernel_rfl) ?_);simp only [↓zZ1,↓reduceIte,Nat.reduceEqDiff,rg,ow_151,e1,e2,ptr_eq,on.h2,hb]
  apply hK;clear hK K
  refine W_false (by simp only [zZ2,Nat.reduceEqDiff,↓reduceIte,zZ3]<;>rfl) (W_skip ?_)
  exact hend _ e0 e1 e2
 ·have hb:((ks.length:Int) == (ks.length:Int))=true:=by simp
  refine W_sq fun K hK=>(W_text [true,true,true,true,true,true,true] (by kernel_rfl) ?_);simp only [↓zZ1,↓reduceIte,Nat.reduceEqDiff,rg,ow_151,e1,e2,ptr_eq,on.h2,hb]
  apply hK;clear hK K
  refine W_true (by simp only [zZ2,Nat.reduceEqDiff,↓reduceIte,zZ3]<;>rfl) ?_
  have q1:=wsub1 ks.length (by omega) (by omega)
  have hjs:ks.length-1=j:=by omega
  refine W_rg fun K hK=>(W_text [true,true,true] (by kernel_rfl) ?_);simp only [↓zZ1,↓reduceIte,Nat.reduceEqDiff,rg,ow_151,e2,q1]
  apply hK;clear hK K
  exact hend _ e0 e1 (by simp only [upd_eq,Nat.reduceEqDiff,↓reduceIte]<;>rw [hjs])
end Go.Proofs.Ytbnnkcofnmipoaa
