/- Texts in one. No condition. -/
import Derived.Test.YtbnnkcofnmipoaaZdf74e7d2
import Derived.Test.YtbnnkcofnmipoaaZfd105b1b
import Derived.Test.YtbnnkcofnmipoaaZA
set_option linter.unusedVariables false
set_option linter.unusedSimpArgs false
namespace Go.Proofs.Ytbnnkcofnmipoaa
open Go Go.Proofs
set_option maxHeartbeats 4000000 in
set_option maxRecDepth 8000 in
theorem reb_right (m d b p q bc i0 j cl cr:Nat) (iso cb:Int) (ks ls rs:List It) (k x:It) (ps lp rp:List (Option Nat)) (chl chr:Value) (w0 w:World) (G:Nat->Nat->Prop) (hd:2<=d) (hd':d<=128) (hc:Cfg w0 m iso d) (hG:∀ o,¬ G m o)
  (s:Ss w0 G w [ndO E iso 1 b cb ks (ptr bc),ndO E iso 0 p (cl:Nat) (ls++[x]) chl,ndO E iso 0 q (cr:Nat) rs chr,kdO (ptr bc) ps,kdO chl lp,kdO chr rp]) (hj:(i0=j/\j<ks.length)\/(i0=ks.length/\j+1=ks.length)) (hkl:ks.length<=2*d-1) (hk:ks[j]? = some k) (hps:ps.length=ks.length+1) (hp:ps[j]? = some (some p)) (hq:ps[j+1]? = some (some q))
  (hch:(chl = .pointer none/\chr = .pointer none/\lp=[]/\rp=[])\/∃ lc rc,chl=ptr lc/\chr=ptr rc/\lp.length=(ls++[x]).length+1/\rp.length=rs.length+1) (hll:(ls++[x]).length<=2*d-1) (hrl:rs.length<=2*d-1) (hcl:cl<2305843009213693952) (hcr:cr<2305843009213693952) (hlt:2*d-1<=(ls++[x]).length+rs.length) (hgt:rs.length<(ls++[x]).length) (cg:Nat) (hcg:1+cg<=cl) (hcgb:cr+cg<2305843009213693952) (hg:(lp=[]/\cg=0)\/∃ g lp',lp=lp'++[some g]/\rd w0 g 1=some (.int .i64 (cg:Nat))/\∀ o,¬ G g o) :
  CallK Try.prog 151 #[ptr m,ptr b,.int .i64 (i0:Nat)] w fun _ w'=>Ss w0 G w' [ndO E iso 1 b cb (ks.set j x) (ptr bc),ndO E iso 0 p ((cl-1-cg:Nat):Int) ls chl,ndO E iso 0 q ((cr+1+cg:Nat):Int) (k::rs) chr,kdO (ptr bc) ps,kdO chl lp.dropLast,kdO chr (lp.drop (lp.length-1)++rp)]:=by
 have hjn:j<ks.length:=(List.getElem?_eq_some_iff.1 hk).1
 refine calls_of_W [] Try.func151 rfl Try.ntmps151 Try.results151 (by simp) fun e he=>?_
 have e0:e 0=ptr m:=he 0 _ rfl
 have e1:e 1=ptr b:=he 1 _ rfl
 have e2:e 2 = .int .i64 (i0:Nat):=he 2 _ rfl
 clear he
 refine W_sqx fun J hJ=>?_
 have hend:∀ e,e 0=ptr m->e 1=ptr b->e 2 = .int .i64 j->J e w:=by
  clear e0 e1 e2 e
  intro e e0 e1 e2
  refine hJ _ _ ?_;clear hJ J
  obtain ⟨nb,no,nc,on,un,vn⟩:=s.nd 0 rfl
  obtain ⟨xb,xo,xc,ox,ux⟩:=s.kd 3 rfl
  obtain ⟨lb,lo,lq,ol,ul,vl⟩:=s.nd 1 rfl
  obtain ⟨tb,to,tq,ot,ut,vt⟩:=s.nd 2 rfl
  have hiso:=(hc.ext s.x fun o _ _=>hG o).iso
  have hjp:j<ps.length:=by omega
  refine W_sq fun K hK=>(W_text [true,true,true,true,true,true,true,true,true,false,true] (by kernel_rfl) ?_);simp only [↓zZ1,↓reduceIte,Nat.reduceEqDiff,rg,ow_151,e0,e1,e2,ptr_eq,on.h3,ox.hd,hjp]
  refine do_call fn_96 (by simp only [zZ2,Nat.reduceEqDiff,↓reduceIte,zZ4]<;>rfl) (isoLoad_any m xb (xo+j) p true iso _ hiso (ox.ptr_at hp) ol.h0) ?_
  rintro _ w1 ⟨rfl,r1⟩
  refine ⟨trivial,?_⟩
  simp only [↓zZ1,↓reduceIte,Nat.reduceEqDiff,rg,ow_151]
  apply hK;clear hK K
  have X1:Ext noF w w1:=r1.ext
  have on:=on.ext X1 fun _ _ _ g=>g
  have ox:=ox.ext0 X1
  have ot:=ot.ext X1 fun _ _ _ g=>g
  have hiso:=X1.rd hiso fun g=>g
  have q1:=wadd1 j (by omega)
  have hjp:j+1<ps.length:=by omega
  refine W_sq fun K hK=>(W_text [true,true,true,true,true,true,true,true,true,true,false,true] (by kernel_rfl) ?_);simp only [↓zZ1,↓reduceIte,Nat.reduceEqDiff,rg,ow_151,e0,e1,e2,ptr_eq,on.h3,ox.hd,hjp,q1]
  refine do_call fn_96 (by simp only [zZ2,Nat.reduceEqDiff,↓reduceIte,zZ4]<;>rfl) (isoLoad_any m xb (xo+(j+1)) q true iso _ hiso (ox.ptr_at hq) ot.h0) ?_
  rintro _ w2 ⟨rfl,r2⟩
  refine ⟨trivial,?_⟩
  simp only [↓zZ1,↓reduceIte,Nat.reduceEqDiff,rg,ow_151]
  apply hK;clear hK K
  have s2:=(s.ext0 X1).ext0 r2.ext
  refine W_st s2 e0 e1 e2 (by simp only [upd_eq,Nat.reduceEqDiff,↓reduceIte]<;>rfl) (by simp only [upd_eq,Nat.reduceEqDiff,↓reduceIte]<;>rfl) ?_
  clear s s2 e0 e1 e2 on un vn ox ux ol ul vl ot ut vt hiso X1 r1 r2 hjp q1
  clear e;intro e w s e0 e1 e2 e6 e7
  obtain ⟨lb,lo,lq,ol,ul,vl⟩:=s.nd 1 rfl
  obtain ⟨tb,to,tq,ot,ut,vt⟩:=s.nd 2 rfl
  have q1:=wadd (ls++[x]).length rs.length (by omega)
  have hmx:=(hc.ext s.x fun o _ _=>hG o).mx
  have hb:decide ((((ls++[x]).length+rs.length:Nat):Int)<((2*d-1:Nat):Int))=false:=by simp only [decide_eq_false_iff_not];omega
  refine W_sq fun K hK=>(W_draw (some none) none [(0,0,0),(0,1,0),(0,2,0),(0,3,0),(0,4,0),(0,5,0),(0,6,0),(0,7,0),(0,8,0),(0,9,0),(0,10,0),(0,11,0),(0,12,0),(0,13,0),(0,14,0),(0,15,0)] mixed (by kernel_rfl) ?_);simp only [↓zZ1,↓reduceIte,Nat.reduceEqDiff,rg,ow_151,e0,e6,e7,ptr_eq,ol.h2,ot.h2,q1,hmx,hb]
  apply hK;clear hK K
  refine W_false (by simp only [zZ2,Nat.reduceEqDiff,↓reduceIte,zZ3]<;>rfl) ?_
  have hb2:decide ((rs.length:Int)<((ls++[x]).length:Int))=true:=by simp only [decide_eq_true_eq];omega
  refine W_sq fun K hK=>(W_draw (some none) none [(0,0,0),(0,1,0),(0,2,0),(0,3,0),(0,4,0),(0,5,0),(0,6,0),(0,7,0),(0,8,0),(0,9,0),(0,10,0)] mixed (by kernel_rfl) ?_);simp only [↓zZ1,↓reduceIte,Nat.reduceEqDiff,rg,ow_151,e0,e6,e7,ptr_eq,ol.h2,ot.h2,hb2]
  apply hK;clear hK K
  refine W_true (by simp only [zZ2,Nat.reduceEqDiff,↓reduceIte,zZ3]<;>rfl) ?_
  refine W_st (s.ext0 (Ext.dr noF w _)) e0 e1 e2 e6 e7 ?_
  clear s e0 e1 e2 e6 e7 ol ul vl ot ut vt q1 hmx hb hb2
  clear e;intro e w s e0 e1 e2 e6 e7
  obtain ⟨n0,hn0⟩:∃ n0,n0=ls.length+1:=⟨_,rfl⟩
  have hnl:(ls++[x]).length=n0:=by simp [hn0]
  obtain ⟨tb,to,tq,ot,ut,vt⟩:=s.nd 2 rfl
  have z4:=zIt_at (hc.ext s.x fun o _ _=>hG o)
  have hb_q:=wok_lt ot.wb
  have L0:=on1_0 q
  refine W_sq fun K hK=>(W_semi (some (some [q])) (.take false 0 (.take false 1 (.take false 2 (.take false 3 (.take false 4 (.take false 5 (.take false 6 (.take false 7 (.take true 8 (.act 9 (.bar 10 (.take false 11 (.take false 12 (.bar 13 .nil)))))))))))))) mixed (by kernel_rfl) ?_);simp only [↓rgm,↓zZ1,↓reduceIte,Nat.reduceEqDiff,rg,ow_151,e0,e1,e2,e6,e7,ptr_eq,ot.h2,z4,L0,rB_on]
  refine do_bsl rfl (rb_k zIt) fun w1 n1=>⟨.inr (n1.keep _ (lt1 hb_q)),?_⟩
  simp only [↓zZ1,↓reduceIte,Nat.reduceEqDiff,rg,ow_151,↓rgm]
  have n1:=n1.od
  have a1:=ot.se.ext0 n1.ext
  refine do_append (by simp only [zZ2,Nat.reduceEqDiff,↓reduceIte,zZ3]<;>rfl) (by simp only [zZ2,Nat.reduceEqDiff,↓reduceIte,zZ3]<;>rfl) rb_eli rfl ni_25 a1.slV (u:=.slice (some ⟨w.heap.size,0,none⟩) 1 1) (m:=1) (l':=E.cel zIt) ⟨rfl,.inr ⟨_,0,1,rfl,Nat.le_refl _,n1.row,n1.wok.R (Nat.le_refl _)⟩⟩ (by omega) (by decide) (E.one _) fun v2 w2 a2=>⟨trivial,?_⟩
  obtain ⟨gb,go,gc,rfl,wk2,-,nx⟩:=a1.app' (ls:=[zIt]) rfl (by rw [flat_one];exact a2)
  simp only [↓zZ1,↓reduceIte,Nat.reduceEqDiff,rg,ow_151,↓rgm]
  refine do_store (by simp only [zZ2,Nat.reduceEqDiff,↓reduceIte,zZ3]<;>rfl) (by simp only [zZ2,Nat.reduceEqDiff,↓reduceIte,zZ3]<;>rfl) sz_25 rfl wk2 (by decide) (oc_one rfl rfl) fun w3 x3 r3 s3=>⟨trivial,?_⟩
  simp only [↓zZ1,↓reduceIte,Nat.reduceEqDiff,rg,ow_151,↓rgm]
  apply hK;clear hK K
  obtain ⟨g1,g2,g3⟩:=nx w3 x3 (Row.cons.1 r3).1
  have s2:Ss w0 G w3 [ndO E iso 1 b cb ks (ptr bc),ndO E iso 0 p (cl:Nat) (ls++[x]) chl,ndO E iso 0 q (cr:Nat) (rs++[zIt]) chr,kdO (ptr bc) ps,kdO chl lp,kdO chr rp]:=ut g1 (n1.ext.trans g2 (fun _ _ h=>h.elim) fun _ _ _ h=>h) (g3.imp id fun h=>⟨(by have:=n1.size;omega),Nat.zero_le _⟩)
  refine W_st s2 e0 e1 e2 e6 e7 ?_
  clear s s2 e0 e1 e2 e6 e7 ot ut vt wk2 nx x3 r3 s3 g1 g2 g3 z4 hb_q n1 a1 a2 L0
  clear e;intro e w s e0 e1 e2 e6 e7
  obtain ⟨tb,to,tq,ot,ut,vt⟩:=s.nd 2 rfl
  have hic:=ot.se.le
  have hle:(rs++[zIt]).length=rs.length+1:=by simp
  have i2:1<=(rs++[zIt]).length:=by omega
  obtain ⟨o1,h1,h1',-,k1⟩:=ot.se.from E_sz 1 i2
  have h3:slcX (some 2) (.slice (some ⟨tb,to,none⟩) (rs++[zIt]).length tq) (some (.int .i64 1)) none none=some (slFrom tb to 2 1 (rs++[zIt]).length tq):=slcX_lo _ _ _ _ _ 1 _ i2
  refine W_sq fun K hK=>(W_draw (some none) (some 9) [(0,0,0),(0,1,0),(0,2,0),(0,3,0),(0,4,0),(0,5,0),(0,6,0),(0,7,0),(0,8,0),(1,9,0)] mixed (by kernel_rfl) ?_);simp only [↓zZ1,↓reduceIte,Nat.reduceEqDiff,rg,ow_151,e0,e1,e2,e6,e7,ptr_eq,ot.h2,h3,h1]
  refine do_copy (by simp only [zZ2,Nat.reduceEqDiff,↓reduceIte,zZ3]<;>rfl) (by simp only [zZ2,Nat.reduceEqDiff,↓reduceIte,zZ3]<;>rfl) rb_eli (SlV.ext0 ot.se.slV (Ext.dr noF w (w.drawn+1))) ((Ext.dr noF w (w.drawn+1)).wok k1) (flat_oc E _) fun w3 x3 r3 s3=>⟨(by first | exact trivial | exact .inl trivial),?_⟩
  simp only [↓zZ1,↓reduceIte,Nat.reduceEqDiff,rg,ow_151,↓rgm]
  apply hK;clear hK K
  have hm:min (rs++[zIt]).length ((rs++[zIt]).length-1)=rs.length:=by omega
  rw [hm] at x3 r3
  rw [show rs.length*2=rs.length*E.sz from rfl,flat_take,List.take_left' rfl] at r3
  obtain ⟨g1,g2⟩:=ot.se.up x3.od r3 fun hA=>by have:=h1' (by omega);rw [E_sz];omega
  have s2:Ss w0 G w3 [ndO E iso 1 b cb ks (ptr bc),ndO E iso 0 p (cl:Nat) (ls++[x]) chl,ndO E iso 0 q (cr:Nat) ((rs++[zIt]).take 1++rs) chr,kdO (ptr bc) ps,kdO chl lp,kdO chr rp]:=ut g1 g2 (.inl ⟨rfl,rfl,rfl⟩)
  refine W_st s2 e0 e1 e2 e6 e7 ?_
  clear s s2 e0 e1 e2 e6 e7 ot ut vt x3 r3 s3 g1 g2 hm hic hle i2 h1 h1' k1 h3
  clear e;intro e w s e0 e1 e2 e6 e7
  obtain ⟨tb,to,tq,ot,ut,vt⟩:=s.nd 2 rfl
  obtain ⟨nb,no,nq,on,un,vn⟩:=s.nd 0 rfl
  have hkv:=it_at on.row hk
  have hl0:0<((rs++[zIt]).take 1++rs).length:=by simp only [List.length_append,List.length_take,List.length_cons,List.length_nil];omega
  have i0:=ix0 2 tb to ((rs++[zIt]).take 1++rs).length hl0
  refine W_sq fun K hK=>(W_draw (some none) (some 12) [(0,0,0),(0,1,0),(0,2,0),(0,3,0),(0,4,0),(0,5,0),(0,6,0),(0,7,0),(0,8,0),(0,9,0),(0,10,0),(0,11,0),(1,12,0)] mixed (by kernel_rfl) ?_);simp only [↓zZ1,↓reduceIte,Nat.reduceEqDiff,rg,ow_151,e0,e1,e2,e6,e7,ptr_eq,ot.h2,on.h2,hjn,hkv,i0]
  refine do_store (by simp only [zZ2,Nat.reduceEqDiff,↓reduceIte,zZ3]<;>rfl) (by simp only [zZ2,Nat.reduceEqDiff,↓reduceIte,zZ3]<;>rfl) sz_33 (rb_len k) ot.se.wi (by have:=ot.se.le;rw [E_sz];skip;omega) (rb_oc k) fun w3 x3 r3 s3=>⟨(by first | exact trivial | exact .inl trivial),?_⟩
  simp only [↓zZ1,↓reduceIte,Nat.reduceEqDiff,rg,ow_151,↓rgm]
  apply hK;clear hK K
  obtain ⟨g1,g2⟩:=ot.se.set (i:=0) (x:=k) (hl0) (by rw [Nat.zero_mul,Nat.add_zero];exact x3.od) (by rw [Nat.zero_mul,Nat.add_zero];exact r3)
  rw [set_first] at g1
  have s2:Ss w0 G w3 [ndO E iso 1 b cb ks (ptr bc),ndO E iso 0 p (cl:Nat) (ls++[x]) chl,ndO E iso 0 q (cr:Nat) (k::rs) chr,kdO (ptr bc) ps,kdO chl lp,kdO chr rp]:=ut g1 g2 (.inl ⟨rfl,rfl,rfl⟩)
  refine W_st s2 e0 e1 e2 e6 e7 ?_
  clear s s2 e0 e1 e2 e6 e7 ot ut vt on un vn x3 r3 s3 g1 g2 hkv hl0 i0
  clear e;intro e w s e0 e1 e2 e6 e7
  obtain ⟨tb,to,tq,ot,ut,vt⟩:=s.nd 2 rfl
  have q1:=wadd1 cr (by omega)
  refine W_sq fun K hK=>(W_text [true,true,true,true,true,true,true,false] (by kernel_rfl) ?_);simp only [↓zZ1,↓reduceIte,Nat.reduceEqDiff,rg,ow_151,e0,e1,e2,e6,e7,ptr_eq,ot.h1,q1]
  refine do_store (by simp only [zZ2,Nat.reduceEqDiff,↓reduceIte,zZ3]<;>rfl) (by simp only [zZ2,Nat.reduceEqDiff,↓reduceIte,zZ3]<;>rfl) sz_3 rfl ot.wb (by decide) (oc_one rfl rfl) fun w3 x3 r3 s3=>⟨(by first | exact trivial | exact .inl trivial),?_⟩
  simp only [↓zZ1,↓reduceIte,Nat.reduceEqDiff,rg,ow_151,↓rgm]
  apply hK;clear hK K
  have s2:Ss w0 G w3 [ndO E iso 1 b cb ks (ptr bc),ndO E iso 0 p (cl:Nat) (ls++[x]) chl,ndO E iso 0 q ((cr+1:Nat):Int) (k::rs) chr,kdO (ptr bc) ps,kdO chl lp,kdO chr rp]:=vt x3 (Row.cons.1 r3).1
  refine W_st s2 e0 e1 e2 e6 e7 ?_
  clear s s2 e0 e1 e2 e6 e7 ot ut vt x3 r3 s3  q1
  clear e;intro e w s e0 e1 e2 e6 e7
  obtain ⟨nb,no,nq,on,un,vn⟩:=s.nd 0 rfl
  obtain ⟨lb,lo,lq,ol,ul,vl⟩:=s.nd 1 rfl
  have h2:=ol.h2
  rw [hnl] at h2
  have q1:=wsub1 n0 (by omega) (by omega)
  have hi:n0-1<n0:=by omega
  have hxv:=it_at ol.row (i:=n0-1) (x:=x) (by simp [hn0])
  refine W_sq fun K hK=>(W_draw (some none) (some 18) [(0,0,0),(0,1,0),(0,2,0),(0,3,0),(0,4,0),(0,5,0),(0,6,0),(0,7,0),(0,8,0),(0,9,0),(0,10,0),(0,11,0),(0,12,0),(0,13,0),(0,14,0),(0,15,0),(0,16,0),(0,17,0),(1,18,0)] mixed (by kernel_rfl) ?_);simp only [↓zZ1,↓reduceIte,Nat.reduceEqDiff,rg,ow_151,e0,e1,e2,e6,e7,ptr_eq,on.h2,h2,hjn,q1,hi,hxv]
  refine do_store (by simp only [zZ2,Nat.reduceEqDiff,↓reduceIte,zZ3]<;>rfl) (by simp only [zZ2,Nat.reduceEqDiff,↓reduceIte,zZ3]<;>rfl) sz_33 (rb_len x) on.se.wi (by have:=on.se.le;rw [E_sz];skip;omega) (rb_oc x) fun w3 x3 r3 s3=>⟨(by first | exact trivial | exact .inl trivial),?_⟩
  simp only [↓zZ1,↓reduceIte,Nat.reduceEqDiff,rg,ow_151,↓rgm]
  apply hK;clear hK K
  obtain ⟨g1,g2⟩:=on.se.set (i:=j) (x:=x) (hjn) (by simp only [E_sz,Nat.mul_one];exact x3.od) (by simp only [E_sz,Nat.mul_one];exact r3)
  skip
  have s2:Ss w0 G w3 [ndO E iso 1 b cb (ks.set j x) (ptr bc),ndO E iso 0 p (cl:Nat) (ls++[x]) chl,ndO E iso 0 q ((cr+1:Nat):Int) (k::rs) chr,kdO (ptr bc) ps,kdO chl lp,kdO chr rp]:=un g1 g2 (.inl ⟨rfl,rfl,rfl⟩)
  refine W_st s2 e0 e1 e2 e6 e7 ?_
  clear s s2 e0 e1 e2 e6 e7 on un vn ol ul vl x3 r3 s3 g1 g2 h2 q1 hi hxv
  clear e;intro e w s e0 e1 e2 e6 e7
  obtain ⟨lb,lo,lq,ol,ul,vl⟩:=s.nd 1 rfl
  have hA:(ls++[x]).length=n0:=by rw [List.length_append,List.length_singleton];skip;omega
  have h2:=ol.se.hd
  rw [hA] at h2
  have q1:=wsub1 (n0) (by omega) (by omega)
  have hi:n0-1<n0:=by omega
  have z4:=zIt_at (hc.ext s.x fun o _ _=>hG o)
  refine W_sq fun K hK=>(W_draw (some none) (some 15) [(0,0,0),(0,1,0),(0,2,0),(0,3,0),(0,4,0),(0,5,0),(0,6,0),(0,7,0),(0,8,0),(0,9,0),(0,10,0),(0,11,0),(0,12,0),(0,13,0),(0,14,0),(1,15,0)] mixed (by kernel_rfl) ?_);simp only [↓zZ1,↓reduceIte,Nat.reduceEqDiff,rg,ow_151,e0,e1,e2,e6,e7,ptr_eq,h2,q1,hi,z4]
  refine do_store (by simp only [zZ2,Nat.reduceEqDiff,↓reduceIte,zZ3]<;>rfl) (by simp only [zZ2,Nat.reduceEqDiff,↓reduceIte,zZ3]<;>rfl) sz_33 (rb_len zIt) ol.se.wi (by have:=ol.se.le;rw [E_sz];rw [hA] at this;omega) (rb_oc zIt) fun w3 x3 r3 s3=>⟨(by first | exact trivial | exact .inl trivial),?_⟩
  simp only [↓zZ1,↓reduceIte,Nat.reduceEqDiff,rg,ow_151,↓rgm]
  apply hK;clear hK K
  obtain ⟨g1,g2⟩:=ol.se.set (i:=n0-1) (x:=zIt) (by rw [hA];omega) (by simp only [E_sz,Nat.mul_one];exact x3.od) (by simp only [E_sz,Nat.mul_one];exact r3)
  have hs:(ls++[x]).set (n0-1) zIt=ls++[zIt]:=by rw [show n0-1=(ls).length by skip;omega];exact set_last
  rw [hs] at g1
  have s2:Ss w0 G w3 [ndO E iso 1 b cb (ks.set j x) (ptr bc),ndO E iso 0 p (cl:Nat) (ls++[zIt]) chl,ndO E iso 0 q ((cr+1:Nat):Int) (k::rs) chr,kdO (ptr bc) ps,kdO chl lp,kdO chr rp]:=ul g1 g2 (.inl ⟨rfl,rfl,rfl⟩)
  refine W_st s2 e0 e1 e2 e6 e7 ?_
  clear s s2 e0 e1 e2 e6 e7 ol ul vl x3 r3 s3 g1 g2 hA h2 q1 hi z4 hs
  clear e;intro e w s e0 e1 e2 e6 e7
  obtain ⟨lb,lo,lq,ol,ul,vl⟩:=s.nd 1 rfl
  have hA:(ls++[zIt]).length=n0:=by rw [List.length_append,List.length_singleton];skip;omega
  have h2:=ol.se.hd
  have h4:=ol.se.le
  rw [hA] at h2 h4
  have q1:=wsub1 (n0) (by omega) (by omega)
  have hi:n0-1<=lq:=by omega
  refine W_sq fun K hK=>(W_draw (some none) (some 14) [(0,0,0),(0,1,0),(0,2,0),(0,3,0),(0,4,0),(0,5,0),(0,6,0),(0,7,0),(0,8,0),(0,9,0),(0,10,0),(0,11,0),(0,12,0),(0,13,0),(1,14,0)] mixed (by kernel_rfl) ?_);simp only [↓zZ1,↓reduceIte,Nat.reduceEqDiff,rg,ow_151,e0,e1,e2,e6,e7,ptr_eq,h2,q1,hi]
  refine do_store (by simp only [zZ2,Nat.reduceEqDiff,↓reduceIte,zZ3]<;>rfl) (by simp only [zZ2,Nat.reduceEqDiff,↓reduceIte,zZ3]<;>rfl) sz_25 rfl ol.se.hok (by decide) (oc_one rfl rfl) fun w3 x3 r3 s3=>⟨(by first | exact trivial | exact .inl trivial),?_⟩
  simp only [↓zZ1,↓reduceIte,Nat.reduceEqDiff,rg,ow_151,↓rgm]
  apply hK;clear hK K
  obtain ⟨g1,g2⟩:=ol.se.cut x3.od (by rw [show (ls).length=n0-1 by skip;omega];exact (Row.cons.1 r3).1)
  have s2:Ss w0 G w3 [ndO E iso 1 b cb (ks.set j x) (ptr bc),ndO E iso 0 p (cl:Nat) ls chl,ndO E iso 0 q ((cr+1:Nat):Int) (k::rs) chr,kdO (ptr bc) ps,kdO chl lp,kdO chr rp]:=ul g1 g2 (.inl ⟨rfl,rfl,rfl⟩)
  refine W_st s2 e0 e1 e2 e6 e7 ?_
  clear s s2 e0 e1 e2 e6 e7 ol ul vl x3 r3 s3 g1 g2 hA h2 h4 q1 hi
  clear e;intro e w s e0 e1 e2 e6 e7
  obtain ⟨lb,lo,lq,ol,ul,vl⟩:=s.nd 1 rfl
  have q1:=wsub1 cl (by omega) (by omega)
  refine W_sq fun K hK=>(W_text [true,true,true,true,true,true,true,false] (by kernel_rfl) ?_);simp only [↓zZ1,↓reduceIte,Nat.reduceEqDiff,rg,ow_151,e0,e1,e2,e6,e7,ptr_eq,ol.h1,q1]
  refine do_store (by simp only [zZ2,Nat.reduceEqDiff,↓reduceIte,zZ3]<;>rfl) (by simp only [zZ2,Nat.reduceEqDiff,↓reduceIte,zZ3]<;>rfl) sz_3 rfl ol.wb (by decide) (oc_one rfl rfl) fun w3 x3 r3 s3=>⟨(by first | exact trivial | exact .inl trivial),?_⟩
  simp only [↓zZ1,↓reduceIte,Nat.reduceEqDiff,rg,ow_151,↓rgm]
  apply hK;clear hK K
  have s2:Ss w0 G w3 [ndO E iso 1 b cb (ks.set j x) (ptr bc),ndO E iso 0 p ((cl-1:Nat):Int) ls chl,ndO E iso 0 q ((cr+1:Nat):Int) (k::rs) chr,kdO (ptr bc) ps,kdO chl lp,kdO chr rp]:=vl x3 (Row.cons.1 r3).1
  refine W_st s2 e0 e1 e2 e6 e7 ?_
  clear s s2 e0 e1 e2 e6 e7 ol ul vl x3 r3 s3  q1
  clear e;intro e w s e0 e1 e2 e6 e7
  obtain ⟨lb,lo,lq,ol,ul,vl⟩:=s.nd 1 rfl
  rcases hch with ⟨rfl,rfl,rfl,rfl⟩ | ⟨lc,rc,rfl,rfl,hlp,hrp⟩
  ·refine W_sq fun K hK=>(W_text [true,false,true] (by kernel_rfl) ?_);simp only [↓zZ1,↓reduceIte,Nat.reduceEqDiff,rg,ow_151,e6]
   refine do_call fn_108 (by simp only [zZ2,Nat.reduceEqDiff,↓reduceIte,zZ4]<;>rfl) (leaf_any p none w ol.h3) ?_
   rintro _ w1 ⟨rfl,hw1⟩
   obtain rfl:w=w1:=hw1.symm
   refine ⟨trivial,?_⟩
   simp only [↓zZ1,↓reduceIte,Nat.reduceEqDiff,rg,ow_151]
   apply hK;clear hK K
   refine W_false (by simp only [zZ2,Nat.reduceEqDiff,↓reduceIte,zZ3]<;>rfl) (W_skip ?_)
   show endQ _ _ _ _ _ _
   refine endQ_0n ?_
   obtain rfl:cg=0:=by
    rcases hg with ⟨_,h⟩ | ⟨g,lp',h,_⟩
    ·exact h
    ·simp at h
   exact s
  ·refine W_sq fun K hK=>(W_text [true,false,true] (by kernel_rfl) ?_);simp only [↓zZ1,↓reduceIte,Nat.reduceEqDiff,rg,ow_151,e6]
   refine do_call fn_108 (by simp only [zZ2,Nat.reduceEqDiff,↓reduceIte,zZ4]<;>rfl) (leaf_any p (some ⟨lc,0,none⟩) w ol.h3) ?_
   rintro _ w1 ⟨rfl,hw1⟩
   obtain rfl:w=w1:=hw1.symm
   refine ⟨trivial,?_⟩
   simp only [↓zZ1,↓reduceIte,Nat.reduceEqDiff,rg,ow_151]
   apply hK;clear hK K
   refine W_true (by simp only [zZ2,Nat.reduceEqDiff,↓reduceIte,zZ3]<;>rfl) ?_
   refine W_st s e0 e1 e2 e6 e7 ?_
   clear s e0 e1 e2 e6 e7 ol ul vl
   clear e;intro e w s e0 e1 e2 e6 e7
   obtain ⟨g,lp',rfl,hgc,hgG⟩:∃ g lp',lp=lp'++[some g]/\rd w0 g 1=some (.int .i64 (cg:Nat))/\∀ o,¬ G g o:=by
    rcases hg with ⟨h,_⟩ | h
    ·rw [h] at hlp;cases hlp
    ·exact h
   obtain ⟨n2,hn2⟩:∃ n2,n2=lp'.length+1:=⟨_,rfl⟩
   have hnk:(lp'++[some g]).length=n2:=by simp [hn2]
   have hrp0:rp.length<=2*d:=by omega
   have hn2b:n2<=2*d:=by omega
   clear hlp hll hrl hgt hlt hnl
   obtain ⟨tb,to,tq,ot,ut,vt⟩:=s.nd 2 rfl
   obtain ⟨zb,zo,zq,oz,uz,fn,fk⟩:=s.kdx 5 rfl (by omega)
   have hb_q:=wok_lt ot.wb
   have hb_rc:=wok_lt oz.hok
   have L0:=on2_0 q rc
   have L1:=on2_1 q rc
   refine W_sq fun K hK=>(W_semi (some (some [q,rc])) (.take false 0 (.take false 1 (.take false 2 (.take false 3 (.take false 4 (.take false 5 (.take false 6 (.take false 7 (.take false 8 (.take false 9 (.act 10 (.act 11 (.take false 12 (.bar 13 .nil)))))))))))))) mixed (by kernel_rfl) ?_);simp only [↓rgm,↓zZ1,↓reduceIte,Nat.reduceEqDiff,rg,ow_151,e0,e1,e2,e6,e7,ptr_eq,ot.h3,oz.hd,L0,L1,rB_on]
   refine do_bsl rfl (rb_o none) fun w1 n1=>⟨.inr (n1.keep _ (lt2 hb_q hb_rc)),?_⟩
   simp only [↓zZ1,↓reduceIte,Nat.reduceEqDiff,rg,ow_151,↓rgm]
   have n1:=n1.od
   have a1:=oz.ext0 n1.ext
   refine do_append (by simp only [zZ2,Nat.reduceEqDiff,↓reduceIte,zZ3]<;>rfl) (by simp only [zZ2,Nat.reduceEqDiff,↓reduceIte,zZ3]<;>rfl) rb_elk rfl ni_166 a1.slV (u:=.slice (some ⟨w.heap.size,0,none⟩) 1 1) (m:=1) (l':=Eo.cel none) ⟨rfl,.inr ⟨_,0,1,rfl,Nat.le_refl _,n1.row,n1.wok.R (Nat.le_refl _)⟩⟩ (by omega) (by decide) (Eo.one _) fun v2 w2 a2=>⟨.inr (app_keep a2 _ (fkeep2 ⟨wok_lt (n1.ext.wok ot.wb),fn 2 (by decide) rfl⟩ ⟨wok_lt (n1.ext.wok oz.hok),oz.ne.symm⟩)),?_⟩
   obtain ⟨gb,go,gc,rfl,wk2,-,nx⟩:=a1.app' (ls:=[none]) rfl (by rw [flat_one];exact a2)
   simp only [↓zZ1,↓reduceIte,Nat.reduceEqDiff,rg,ow_151,↓rgm]
   refine do_store (by simp only [zZ2,Nat.reduceEqDiff,↓reduceIte,zZ3]<;>rfl) (by simp only [zZ2,Nat.reduceEqDiff,↓reduceIte,zZ3]<;>rfl) sz_166 rfl wk2 (by decide) (oc_one rfl rfl) fun w3 x3 r3 s3=>⟨trivial,?_⟩
   simp only [↓zZ1,↓reduceIte,Nat.reduceEqDiff,rg,ow_151,↓rgm]
   apply hK;clear hK K
   obtain ⟨g1,g2,g3⟩:=nx w3 x3 (Row.cons.1 r3).1
   have s2:Ss w0 G w3 [ndO E iso 1 b cb (ks.set j x) (ptr bc),ndO E iso 0 p ((cl-1:Nat):Int) ls (ptr lc),ndO E iso 0 q ((cr+1:Nat):Int) (k::rs) (ptr rc),kdO (ptr bc) ps,kdO (ptr lc) (lp'++[some g]),kdO (ptr rc) (rp++[none])]:=uz g1 (n1.ext.trans g2 (fun _ _ h=>h.elim) fun _ _ _ h=>h) (g3.imp id fun h=>(by have:=n1.size;omega))
   refine W_st s2 e0 e1 e2 e6 e7 ?_
   clear s s2 e0 e1 e2 e6 e7 ot ut vt oz uz fn fk wk2 nx x3 r3 s3 g1 g2 g3 hb_q hb_rc n1 a1 a2 L0 L1
   clear e;intro e w s e0 e1 e2 e6 e7
   obtain ⟨tb,to,tq,ot,ut,vt⟩:=s.nd 2 rfl
   obtain ⟨zb,zo,zq,oz,uz⟩:=s.kd 5 rfl
   have hic:=oz.le
   have hle:(rp++[none]).length=rp.length+1:=by simp
   have i2:1<=(rp++[none]).length:=by omega
   obtain ⟨o1,h1,h1',-,k1⟩:=oz.from Eo_sz 1 i2
   have h3:slcX (some 1) (.slice (some ⟨zb,zo,none⟩) (rp++[none]).length zq) (some (.int .i64 1)) none none=some (slFrom zb zo 1 1 (rp++[none]).length zq):=slcX_lo _ _ _ _ _ 1 _ i2
   refine W_sq fun K hK=>(W_draw (some none) (some 13) [(0,0,0),(0,1,0),(0,2,0),(0,3,0),(0,4,0),(0,5,0),(0,6,0),(0,7,0),(0,8,0),(0,9,0),(0,10,0),(0,11,0),(0,12,0),(1,13,0)] mixed (by kernel_rfl) ?_);simp only [↓zZ1,↓reduceIte,Nat.reduceEqDiff,rg,ow_151,e0,e1,e2,e6,e7,ptr_eq,ot.h3,oz.hd,h3,h1]
   refine do_copy (by simp only [zZ2,Nat.reduceEqDiff,↓reduceIte,zZ3]<;>rfl) (by simp only [zZ2,Nat.reduceEqDiff,↓reduceIte,zZ3]<;>rfl) rb_elk (SlV.ext0 oz.slV (Ext.dr noF w (w.drawn+1))) ((Ext.dr noF w (w.drawn+1)).wok k1) (flat_oc Eo _) fun w3 x3 r3 s3=>⟨(by first | exact trivial | exact .inl trivial),?_⟩
   simp only [↓zZ1,↓reduceIte,Nat.reduceEqDiff,rg,ow_151,↓rgm]
   apply hK;clear hK K
   have hm:min (rp++[none]).length ((rp++[none]).length-1)=rp.length:=by omega
   rw [hm] at x3 r3
   rw [show rp.length*1=rp.length*Eo.sz from rfl,flat_take,List.take_left' rfl] at r3
   obtain ⟨g1,g2⟩:=oz.up x3.od r3 fun hA=>by have:=h1' (by omega);rw [Eo_sz];omega
   have s2:Ss w0 G w3 [ndO E iso 1 b cb (ks.set j x) (ptr bc),ndO E iso 0 p ((cl-1:Nat):Int) ls (ptr lc),ndO E iso 0 q ((cr+1:Nat):Int) (k::rs) (ptr rc),kdO (ptr bc) ps,kdO (ptr lc) (lp'++[some g]),kdO (ptr rc) ((rp++[none]).take 1++rp)]:=uz g1 g2 (.inl ⟨rfl,rfl,rfl⟩)
   refine W_st s2 e0 e1 e2 e6 e7 ?_
   clear s s2 e0 e1 e2 e6 e7 ot ut vt oz uz x3 r3 s3 g1 g2 hm hic hle i2 h1 h1' k1 h3
   clear e;intro e w s e0 e1 e2 e6 e7
   obtain ⟨tb,to,tq,ot,ut,vt⟩:=s.nd 2 rfl
   obtain ⟨zb,zo,zq,oz,uz⟩:=s.kd 5 rfl
   obtain ⟨lb,lo,lq,ol,ul,vl⟩:=s.nd 1 rfl
   obtain ⟨yb,yo,yq,oy,uy⟩:=s.kd 4 rfl
   have h2:=oy.hd
   rw [hnk] at h2
   have q1:=wsub1 n2 (by omega) (by omega)
   have hi:n2-1<n2:=by omega
   have hgv:=oy.ptr_at (j:=n2-1) (p:=g) (by simp [hn2])
   have hl0:0<((rp++[none]).take 1++rp).length:=by simp only [List.length_append,List.length_take,List.length_cons,List.length_nil];omega
   have i0:=ix0 1 zb zo ((rp++[none]).take 1++rp).length hl0
   refine W_sq fun K hK=>(W_draw (some none) (some 23) [(0,0,0),(0,1,0),(0,2,0),(0,3,0),(0,4,0),(0,5,0),(0,6,0),(0,7,0),(0,8,0),(0,9,0),(0,10,0),(0,11,0),(0,12,0),(0,13,0),(0,14,0),(0,15,0),(0,16,0),(0,17,0),(0,18,0),(0,19,0),(0,20,0),(0,21,0),(0,22,0),(1,23,0)] mixed (by kernel_rfl) ?_);simp only [↓zZ1,↓reduceIte,Nat.reduceEqDiff,rg,ow_151,e0,e1,e2,e6,e7,ptr_eq,ot.h3,oz.hd,ol.h3,h2,q1,hi,hgv,i0]
   refine do_store (by simp only [zZ2,Nat.reduceEqDiff,↓reduceIte,zZ3]<;>rfl) (by simp only [zZ2,Nat.reduceEqDiff,↓reduceIte,zZ3]<;>rfl) sz_96 rfl oz.wi (by have:=oz.le;rw [Eo_sz];skip;omega) (oc_one rfl rfl) fun w3 x3 r3 s3=>⟨(by first | exact trivial | exact .inl trivial),?_⟩
   simp only [↓zZ1,↓reduceIte,Nat.reduceEqDiff,rg,ow_151,↓rgm]
   apply hK;clear hK K
   obtain ⟨g1,g2⟩:=oz.set (i:=0) (x:=(some g)) (hl0) (by rw [Nat.zero_mul,Nat.add_zero];exact x3.od) (by rw [Nat.zero_mul,Nat.add_zero];exact r3)
   rw [set_first] at g1
   have s2:Ss w0 G w3 [ndO E iso 1 b cb (ks.set j x) (ptr bc),ndO E iso 0 p ((cl-1:Nat):Int) ls (ptr lc),ndO E iso 0 q ((cr+1:Nat):Int) (k::rs) (ptr rc),kdO (ptr bc) ps,kdO (ptr lc) (lp'++[some g]),kdO (ptr rc) (some g::rp)]:=uz g1 g2 (.inl ⟨rfl,rfl,rfl⟩)
   refine W_st s2 e0 e1 e2 e6 e7 ?_
   clear s s2 e0 e1 e2 e6 e7 ot ut vt oz uz ol ul vl oy uy x3 r3 s3 g1 g2 h2 q1 hi hgv hl0 i0
   clear e;intro e w s e0 e1 e2 e6 e7
   obtain ⟨lb,lo,lq,ol,ul,vl⟩:=s.nd 1 rfl
   obtain ⟨yb,yo,yq,oy,uy⟩:=s.kd 4 rfl
   have hA:(lp'++[some g]).length=n2:=by rw [List.length_append,List.length_singleton];skip;omega
   have h2:=oy.hd
   rw [hA] at h2
   have q1:=wsub1 (n2) (by omega) (by omega)
   have hi:n2-1<n2:=by omega
   refine W_sq fun K hK=>(W_draw (some none) (some 15) [(0,0,0),(0,1,0),(0,2,0),(0,3,0),(0,4,0),(0,5,0),(0,6,0),(0,7,0),(0,8,0),(0,9,0),(0,10,0),(0,11,0),(0,12,0),(0,13,0),(0,14,0),(1,15,0)] mixed (by kernel_rfl) ?_);simp only [↓zZ1,↓reduceIte,Nat.reduceEqDiff,rg,ow_151,e0,e1,e2,e6,e7,ptr_eq,ol.h3,h2,q1,hi]
   refine do_store (by simp only [zZ2,Nat.reduceEqDiff,↓reduceIte,zZ3]<;>rfl) (by simp only [zZ2,Nat.reduceEqDiff,↓reduceIte,zZ3]<;>rfl) sz_96 rfl oy.wi (by have:=oy.le;rw [Eo_sz];rw [hA] at this;omega) (oc_one rfl rfl) fun w3 x3 r3 s3=>⟨(by first | exact trivial | exact .inl trivial),?_⟩
   simp only [↓zZ1,↓reduceIte,Nat.reduceEqDiff,rg,ow_151,↓rgm]
   apply hK;clear hK K
   obtain ⟨g1,g2⟩:=oy.set (i:=n2-1) (x:=none) (by rw [hA];omega) (by rw [Eo_sz,Nat.mul_one];exact x3.od) (by rw [Eo_sz,Nat.mul_one];exact r3)
   have hs:(lp'++[some g]).set (n2-1) none=lp'++[none]:=by rw [show n2-1=(lp').length by skip;omega];exact set_last
   rw [hs] at g1
   have s2:Ss w0 G w3 [ndO E iso 1 b cb (ks.set j x) (ptr bc),ndO E iso 0 p ((cl-1:Nat):Int) ls (ptr lc),ndO E iso 0 q ((cr+1:Nat):Int) (k::rs) (ptr rc),kdO (ptr bc) ps,kdO (ptr lc) (lp'++[none]),kdO (ptr rc) (some g::rp)]:=uy g1 g2 (.inl ⟨rfl,rfl,rfl⟩)
   refine W_st s2 e0 e1 e2 e6 e7 ?_
   clear s s2 e0 e1 e2 e6 e7 ol ul vl oy uy x3 r3 s3 g1 g2 hA h2 q1 hi hs
   clear e;intro e w s e0 e1 e2 e6 e7
   obtain ⟨lb,lo,lq,ol,ul,vl⟩:=s.nd 1 rfl
   obtain ⟨yb,yo,yq,oy,uy⟩:=s.kd 4 rfl
   have hA:(lp'++[none]).length=n2:=by rw [List.length_append,List.length_singleton];skip;omega
   have h2:=oy.hd
   have h4:=oy.le
   rw [hA] at h2 h4
   have q1:=wsub1 (n2) (by omega) (by omega)
   have hi:n2-1<=yq:=by omega
   refine W_sq fun K hK=>(W_draw (some none) (some 20) [(0,0,0),(0,1,0),(0,2,0),(0,3,0),(0,4,0),(0,5,0),(0,6,0),(0,7,0),(0,8,0),(0,9,0),(0,10,0),(0,11,0),(0,12,0),(0,13,0),(0,14,0),(0,15,0),(0,16,0),(0,17,0),(0,18,0),(0,19,0),(1,20,0)] mixed (by kernel_rfl) ?_);simp only [↓zZ1,↓reduceIte,Nat.reduceEqDiff,rg,ow_151,e0,e1,e2,e6,e7,ptr_eq,ol.h3,h2,q1,hi]
   refine do_store (by simp only [zZ2,Nat.reduceEqDiff,↓reduceIte,zZ3]<;>rfl) (by simp only [zZ2,Nat.reduceEqDiff,↓reduceIte,zZ3]<;>rfl) sz_166 rfl oy.hok (by decide) (oc_one rfl rfl) fun w3 x3 r3 s3=>⟨(by first | exact trivial | exact .inl trivial),?_⟩
   simp only [↓zZ1,↓reduceIte,Nat.reduceEqDiff,rg,ow_151,↓rgm]
   apply hK;clear hK K
   obtain ⟨g1,g2⟩:=oy.cut x3.od (by rw [show (lp').length=n2-1 by skip;omega];exact (Row.cons.1 r3).1)
   have s2:Ss w0 G w3 [ndO E iso 1 b cb (ks.set j x) (ptr bc),ndO E iso 0 p ((cl-1:Nat):Int) ls (ptr lc),ndO E iso 0 q ((cr+1:Nat):Int) (k::rs) (ptr rc),kdO (ptr bc) ps,kdO (ptr lc) lp',kdO (ptr rc) (some g::rp)]:=uy g1 g2 (.inl ⟨rfl,rfl,rfl⟩)
   refine W_st s2 e0 e1 e2 e6 e7 ?_
   clear s s2 e0 e1 e2 e6 e7 ol ul vl oy uy x3 r3 s3 g1 g2 hA h2 h4 q1 hi
   clear e;intro e w s e0 e1 e2 e6 e7
   obtain ⟨lb,lo,lq,ol,ul,vl⟩:=s.nd 1 rfl
   obtain ⟨tb,to,tq,ot,ut,vt⟩:=s.nd 2 rfl
   obtain ⟨zb,zo,zq,oz,uz⟩:=s.kd 5 rfl
   have hgv:=oz.ptr_at (j:=0) (p:=g) rfl
   rw [Nat.add_zero] at hgv
   have hg1:=s.x.rd hgc (hgG 1)
   have hl0:0<(some g::rp).length:=by simp
   have i0:=ix0 1 zb zo (some g::rp).length hl0
   have q1:=wsub (cl-1) cg (by omega) (by omega)
   refine W_sq fun K hK=>(W_draw (some none) (some 18) [(0,0,0),(0,1,0),(0,2,0),(0,3,0),(0,4,0),(0,5,0),(0,6,0),(0,7,0),(0,8,0),(0,9,0),(0,10,0),(0,11,0),(0,12,0),(0,13,0),(0,14,0),(0,15,0),(0,16,0),(0,17,0),(1,18,0)] mixed (by kernel_rfl) ?_);simp only [↓zZ1,↓reduceIte,Nat.reduceEqDiff,rg,ow_151,e0,e1,e2,e6,e7,ptr_eq,ol.h1,ot.h3,oz.hd,i0,hgv,hg1,q1]
   refine do_store (by simp only [zZ2,Nat.reduceEqDiff,↓reduceIte,zZ3]<;>rfl) (by simp only [zZ2,Nat.reduceEqDiff,↓reduceIte,zZ3]<;>rfl) sz_3 rfl ol.wb (by decide) (oc_one rfl rfl) fun w3 x3 r3 s3=>⟨(by first | exact trivial | exact .inl trivial),?_⟩
   simp only [↓zZ1,↓reduceIte,Nat.reduceEqDiff,rg,ow_151,↓rgm]
   apply hK;clear hK K
   have s2:Ss w0 G w3 [ndO E iso 1 b cb (ks.set j x) (ptr bc),ndO E iso 0 p ((cl-1-cg:Nat):Int) ls (ptr lc),ndO E iso 0 q ((cr+1:Nat):Int) (k::rs) (ptr rc),kdO (ptr bc) ps,kdO (ptr lc) lp',kdO (ptr rc) (some g::rp)]:=vl x3.od (Row.cons.1 r3).1
   refine W_st s2 e0 e1 e2 e6 e7 ?_
   clear s s2 e0 e1 e2 e6 e7 ol ul vl ot ut vt oz uz x3 r3 s3 hgv hg1 hl0 i0 q1
   clear e;intro e w s e0 e1 e2 e6 e7
   obtain ⟨tb,to,tq,ot,ut,vt⟩:=s.nd 2 rfl
   obtain ⟨zb,zo,zq,oz,uz⟩:=s.kd 5 rfl
   have hgv:=oz.ptr_at (j:=0) (p:=g) rfl
   rw [Nat.add_zero] at hgv
   have hg1:=s.x.rd hgc (hgG 1)
   have hl0:0<(some g::rp).length:=by simp
   have i0:=ix0 1 zb zo (some g::rp).length hl0
   have q1:=wadd (cr+1) cg (by omega)
   refine W_rg fun K hK=>(W_draw (some none) (some 18) [(0,0,0),(0,1,0),(0,2,0),(0,3,0),(0,4,0),(0,5,0),(0,6,0),(0,7,0),(0,8,0),(0,9,0),(0,10,0),(0,11,0),(0,12,0),(0,13,0),(0,14,0),(0,15,0),(0,16,0),(0,17,0),(1,18,0)] mixed (by kernel_rfl) ?_);simp only [↓zZ1,↓reduceIte,Nat.reduceEqDiff,rg,ow_151,e0,e1,e2,e6,e7,ptr_eq,ot.h1,ot.h3,oz.hd,i0,hgv,hg1,q1]
   refine do_store (by simp only [zZ2,Nat.reduceEqDiff,↓reduceIte,zZ3]<;>rfl) (by simp only [zZ2,Nat.reduceEqDiff,↓reduceIte,zZ3]<;>rfl) sz_3 rfl ot.wb (by decide) (oc_one rfl rfl) fun w3 x3 r3 s3=>⟨(by first | exact trivial | exact .inl trivial),?_⟩
   simp only [↓zZ1,↓reduceIte,Nat.reduceEqDiff,rg,ow_151,↓rgm]
   apply hK;clear hK K
   have s2:Ss w0 G w3 [ndO E iso 1 b cb (ks.set j x) (ptr bc),ndO E iso 0 p ((cl-1-cg:Nat):Int) ls (ptr lc),ndO E iso 0 q ((cr+1+cg:Nat):Int) (k::rs) (ptr rc),kdO (ptr bc) ps,kdO (ptr lc) lp',kdO (ptr rc) (some g::rp)]:=vt x3.od (Row.cons.1 r3).1
   show endQ _ _ _ _ _ _
   refine endQ_0n ?_
   rw [List.dropLast_concat,show (lp'++[some g]).drop ((lp'++[some g]).length-1)=[some g] by simp]
   exact s2
 obtain ⟨nb,no,nc,on,un,vn⟩:=s.nd 0 rfl
 rcases hj with ⟨rfl,hj⟩ | ⟨rfl,hj⟩
 ·have hb:((i0:Int) == (ks.length:Int))=false:=by simp;omega
  refine W_sq fun K hK=>(W_text [true,true,true,true,true,true,true] (by kernel_rfl) ?_);simp only [↓zZ1,↓reduceIte,Nat.reduceEqDiff,rg,ow_151,e1,e2,ptr_eq,on.h2,hb]
  apply hK;clear hK K
  refine W_false (by simp only [zZ2,Nat.reduceEqDiff,↓reduceIte,zZ3]<;>rfl) (W_skip ?_)
  exact hend _ e0 e1 e2
 ·have hb:((ks.length:Int) == (ks.length:Int))=true:=by simp
  refine W_sq fun K hK=>(W_text [true,true,true,true,true,true,true] (by kernel_rfl) ?_);simp only [↓zZ1,↓reduceIte,Nat.reduceEqDiff,rg,ow_151,e1,e2,ptr_eq,on.h2,hb]
  apply hK;clear hK K
  refine W_true (by simp only [zZ2,Nat.reduceEqDiff,↓reduceIte,zZ3]<;>rfl) ?_
  have q1:=wsub1 ks.length (by omega) (by omega)
  have hjs:ks.length-1=j:=by omega
  refine W_rg fun K hK=>(W_text [true,true,true] (by kernel_rfl) ?_);simp only [↓zZ1,↓reduceIte,Nat.reduceEqDiff,rg,ow_151,e2,q1]
  apply hK;clear hK K
  exact hend _ e0 e1 (by simp only [upd_eq,Nat.reduceEqDiff,↓reduceIte]<;>rw [hjs])
set_option maxHeartbeats 4000000 in
set_option maxRecDepth 8000 in
theorem reb_left (m d b p q bc i0 j cl cr:Nat) (iso cb:Int) (ks ls rs:List It) (k x:It) (ps lp rp:List (Option Nat)) (chl chr:Value) (w0 w:World) (G:Nat->Nat->Prop) (hd:2<=d) (hd':d<=128) (hc:Cfg w0 m iso d) (hG:∀ o,¬ G m o)
  (s:Ss w0 G w [ndO E iso 1 b cb ks (ptr bc),ndO E iso 0 p (cl:Nat) ls chl,ndO E iso 0 q (cr:Nat) (x::rs) chr,kdO (ptr bc) ps,kdO chl lp,kdO chr rp]) (hj:(i0=j/\j<ks.length)\/(i0=ks.length/\j+1=ks.length)) (hkl:ks.length<=2*d-1) (hk:ks[j]? = some k) (hps:ps.length=ks.length+1) (hp:ps[j]? = some (some p)) (hq:ps[j+1]? = some (some q))
  (hch:(chl = .pointer none/\chr = .pointer none/\lp=[]/\rp=[])\/∃ lc rc,chl=ptr lc/\chr=ptr rc/\lp.length=ls.length+1/\rp.length=(x::rs).length+1) (hll:ls.length<=2*d-1) (hrl:(x::rs).length<=2*d-1) (hcl:cl<2305843009213693952) (hcr:cr<2305843009213693952) (hlt:2*d-1<=ls.length+(x::rs).length) (hgt:ls.length<=(x::rs).length) (cg:Nat) (hcg:1+cg<=cr) (hcgb:cl+cg<2305843009213693952) (hg:(rp=[]/\cg=0)\/∃ g rp',rp=some g::rp'/\rd w0 g 1=some (.int .i64 (cg:Nat))/\∀ o,¬ G g o) :
  CallK Try.prog 151 #[ptr m,ptr b,.int .i64 (i0:Nat)] w fun _ w'=>Ss w0 G w' [ndO E iso 1 b cb (ks.set j x) (ptr bc),ndO E iso 0 p ((cl+1+cg:Nat):Int) (ls++[k]) chl,ndO E iso 0 q ((cr-1-cg:Nat):Int) rs chr,kdO (ptr bc) ps,kdO chl (lp++rp.take 1),kdO chr (rp.drop 1)]:=by
 have hjn:j<ks.length:=(List.getElem?_eq_some_iff.1 hk).1
 refine calls_of_W [] Try.func151 rfl Try.ntmps151 Try.results151 (by simp) fun e he=>?_
 have e0:e 0=ptr m:=he 0 _ rfl
 have e1:e 1=ptr b:=he 1 _ rfl
 have e2:e 2 = .int .i64 (i0:Nat):=he 2 _ rfl
 clear he
 refine W_sqx fun J hJ=>?_
 have hend:∀ e,e 0=ptr m->e 1=ptr b->e 2 = .int .i64 j->J e w:=by
  clear e0 e1 e2 e
  intro e e0 e1 e2
  refine hJ _ _ ?_;clear hJ J
  obtain ⟨nb,no,nc,on,un,vn⟩:=s.nd 0 rfl
  obtain ⟨xb,xo,xc,ox,ux⟩:=s.kd 3 rfl
  obtain ⟨lb,lo,lq,ol,ul,vl⟩:=s.nd 1 rfl
  obtain ⟨tb,to,tq,ot,ut,vt⟩:=s.nd 2 rfl
  have hiso:=(hc.ext s.x fun o _ _=>hG o).iso
  have hjp:j<ps.length:=by omega
  refine W_sq fun K hK=>(W_text [true,true,true,true,true,true,true,true,true,false,true] (by kernel_rfl) ?_);simp only [↓zZ1,↓reduceIte,Nat.reduceEqDiff,rg,ow_151,e0,e1,e2,ptr_eq,on.h3,ox.hd,hjp]
  refine do_call fn_96 (by simp only [zZ2,Nat.reduceEqDiff,↓reduceIte,zZ4]<;>rfl) (isoLoad_any m xb (xo+j) p true iso _ hiso (ox.ptr_at hp) ol.h0) ?_
  rintro _ w1 ⟨rfl,r1⟩
  refine ⟨trivial,?_⟩
  simp only [↓zZ1,↓reduceIte,Nat.reduceEqDiff,rg,ow_151]
  apply hK;clear hK K
  have X1:Ext noF w w1:=r1.ext
  have on:=on.ext X1 fun _ _ _ g=>g
  have ox:=ox.ext0 X1
  have ot:=ot.ext X1 fun _ _ _ g=>g
  have hiso:=X1.rd hiso fun g=>g
  have q1:=wadd1 j (by omega)
  have hjp:j+1<ps.length:=by omega
  refine W_sq fun K hK=>(W_text [true,true,true,true,true,true,true,true,true,true,false,true] (by kernel_rfl) ?_);simp only [↓zZ1,↓reduceIte,Nat.reduceEqDiff,rg,ow_151,e0,e1,e2,ptr_eq,on.h3,ox.hd,hjp,q1]
  refine do_call fn_96 (by simp only [zZ2,Nat.reduceEqDiff,↓reduceIte,zZ4]<;>rfl) (isoLoad_any m xb (xo+(j+1)) q true iso _ hiso (ox.ptr_at hq) ot.h0) ?_
  rintro _ w2 ⟨rfl,r2⟩
  refine ⟨trivial,?_⟩
  simp only [↓zZ1,↓reduceIte,Nat.reduceEqDiff,rg,ow_151]
  apply hK;clear hK K
  have s2:=(s.ext0 X1).ext0 r2.ext
  refine W_st s2 e0 e1 e2 (by simp only [upd_eq,Nat.reduceEqDiff,↓reduceIte]<;>rfl) (by simp only [upd_eq,Nat.reduceEqDiff,↓reduceIte]<;>rfl) ?_
  clear s s2 e0 e1 e2 on un vn ox ux ol ul vl ot ut vt hiso X1 r1 r2 hjp q1
  clear e;intro e w s e0 e1 e2 e6 e7
  obtain ⟨lb,lo,lq,ol,ul,vl⟩:=s.nd 1 rfl
  obtain ⟨tb,to,tq,ot,ut,vt⟩:=s.nd 2 rfl
  have q1:=wadd ls.length (x::rs).length (by omega)
  have hmx:=(hc.ext s.x fun o _ _=>hG o).mx
  have hb:decide (((ls.length+(x::rs).length:Nat):Int)<((2*d-1:Nat):Int))=false:=by simp only [decide_eq_false_iff_not];omega
  refine W_sq fun K hK=>(W_draw (some none) none [(0,0,0),(0,1,0),(0,2,0),(0,3,0),(0,4,0),(0,5,0),(0,6,0),(0,7,0),(0,8,0),(0,9,0),(0,10,0),(0,11,0),(0,12,0),(0,13,0),(0,14,0),(0,15,0)] mixed (by kernel_rfl) ?_);simp only [↓zZ1,↓reduceIte,Nat.reduceEqDiff,rg,ow_151,e0,e6,e7,ptr_eq,ol.h2,ot.h2,q1,hmx,hb]
  apply hK;clear hK K
  refine W_false (by simp only [zZ2,Nat.reduceEqDiff,↓reduceIte,zZ3]<;>rfl) ?_
  have hb2:decide (((x::rs).length:Int)<(ls.length:Int))=false:=by simp only [decide_eq_false_iff_not];omega
  refine W_sq fun K hK=>(W_draw (some none) none [(0,0,0),(0,1,0),(0,2,0),(0,3,0),(0,4,0),(0,5,0),(0,6,0),(0,7,0),(0,8,0),(0,9,0),(0,10,0)] mixed (by kernel_rfl) ?_);simp only [↓zZ1,↓reduceIte,Nat.reduceEqDiff,rg,ow_151,e0,e6,e7,ptr_eq,ol.h2,ot.h2,hb2]
  apply hK;clear hK K
  refine W_false (by simp only [zZ2,Nat.reduceEqDiff,↓reduceIte,zZ3]<;>rfl) ?_
  refine W_st (s.ext0 (Ext.dr noF w _)) e0 e1 e2 e6 e7 ?_
  clear s e0 e1 e2 e6 e7 ol ul vl ot ut vt q1 hmx hb hb2
  clear e;intro e w s e0 e1 e2 e6 e7
  obtain ⟨n0,hn0⟩:∃ n0,n0=rs.length+1:=⟨_,rfl⟩
  have hnl:(x::rs).length=n0:=by simp [hn0]
  obtain ⟨lb,lo,lq,ol,ul,vl⟩:=s.nd 1 rfl
  obtain ⟨nb,no,nq,on,un,vn⟩:=s.nd 0 rfl
  have hkv:=it_at on.row hk
  have hb_p:=wok_lt ol.wb
  have L0:=on1_0 p
  refine W_sq fun K hK=>(W_semi (some (some [p])) (.take false 0 (.take false 1 (.take false 2 (.take false 3 (.take false 4 (.take false 5 (.take false 6 (.take false 7 (.take true 8 (.take false 9 (.take false 10 (.take true 11 (.act 12 (.bar 13 (.take false 14 (.take false 15 (.bar 16 .nil))))))))))))))))) mixed (by kernel_rfl) ?_);simp only [↓rgm,↓zZ1,↓reduceIte,Nat.reduceEqDiff,rg,ow_151,e0,e1,e2,e6,e7,ptr_eq,ol.h2,on.h2,hjn,hkv,L0,rB_on]
  refine do_bsl rfl (rb_k k) fun w1 n1=>⟨.inr (n1.keep _ (lt1 hb_p)),?_⟩
  simp only [↓zZ1,↓reduceIte,Nat.reduceEqDiff,rg,ow_151,↓rgm]
  have n1:=n1.od
  have a1:=ol.se.ext0 n1.ext
  refine do_append (by simp only [zZ2,Nat.reduceEqDiff,↓reduceIte,zZ3]<;>rfl) (by simp only [zZ2,Nat.reduceEqDiff,↓reduceIte,zZ3]<;>rfl) rb_eli rfl ni_25 a1.slV (u:=.slice (some ⟨w.heap.size,0,none⟩) 1 1) (m:=1) (l':=E.cel k) ⟨rfl,.inr ⟨_,0,1,rfl,Nat.le_refl _,n1.row,n1.wok.R (Nat.le_refl _)⟩⟩ (by omega) (by decide) (E.one _) fun v2 w2 a2=>⟨trivial,?_⟩
  obtain ⟨gb,go,gc,rfl,wk2,-,nx⟩:=a1.app' (ls:=[k]) rfl (by rw [flat_one];exact a2)
  simp only [↓zZ1,↓reduceIte,Nat.reduceEqDiff,rg,ow_151,↓rgm]
  refine do_store (by simp only [zZ2,Nat.reduceEqDiff,↓reduceIte,zZ3]<;>rfl) (by simp only [zZ2,Nat.reduceEqDiff,↓reduceIte,zZ3]<;>rfl) sz_25 rfl wk2 (by decide) (oc_one rfl rfl) fun w3 x3 r3 s3=>⟨trivial,?_⟩
  simp only [↓zZ1,↓reduceIte,Nat.reduceEqDiff,rg,ow_151,↓rgm]
  apply hK;clear hK K
  obtain ⟨g1,g2,g3⟩:=nx w3 x3 (Row.cons.1 r3).1
  have s2:Ss w0 G w3 [ndO E iso 1 b cb ks (ptr bc),ndO E iso 0 p (cl:Nat) (ls++[k]) chl,ndO E iso 0 q (cr:Nat) (x::rs) chr,kdO (ptr bc) ps,kdO chl lp,kdO chr rp]:=ul g1 (n1.ext.trans g2 (fun _ _ h=>h.elim) fun _ _ _ h=>h) (g3.imp id fun h=>⟨(by have:=n1.size;omega),Nat.zero_le _⟩)
  refine W_st s2 e0 e1 e2 e6 e7 ?_
  clear s s2 e0 e1 e2 e6 e7 ol ul vl on un vn wk2 nx x3 r3 s3 g1 g2 g3 hkv hb_p n1 a1 a2 L0
  clear e;intro e w s e0 e1 e2 e6 e7
  obtain ⟨lb,lo,lq,ol,ul,vl⟩:=s.nd 1 rfl
  have q1:=wadd1 cl (by omega)
  refine W_sq fun K hK=>(W_text [true,true,true,true,true,true,true,false] (by kernel_rfl) ?_);simp only [↓zZ1,↓reduceIte,Nat.reduceEqDiff,rg,ow_151,e0,e1,e2,e6,e7,ptr_eq,ol.h1,q1]
  refine do_store (by simp only [zZ2,Nat.reduceEqDiff,↓reduceIte,zZ3]<;>rfl) (by simp only [zZ2,Nat.reduceEqDiff,↓reduceIte,zZ3]<;>rfl) sz_3 rfl ol.wb (by decide) (oc_one rfl rfl) fun w3 x3 r3 s3=>⟨(by first | exact trivial | exact .inl trivial),?_⟩
  simp only [↓zZ1,↓reduceIte,Nat.reduceEqDiff,rg,ow_151,↓rgm]
  apply hK;clear hK K
  have s2:Ss w0 G w3 [ndO E iso 1 b cb ks (ptr bc),ndO E iso 0 p ((cl+1:Nat):Int) (ls++[k]) chl,ndO E iso 0 q (cr:Nat) (x::rs) chr,kdO (ptr bc) ps,kdO chl lp,kdO chr rp]:=vl x3 (Row.cons.1 r3).1
  refine W_st s2 e0 e1 e2 e6 e7 ?_
  clear s s2 e0 e1 e2 e6 e7 ol ul vl x3 r3 s3  q1
  clear e;intro e w s e0 e1 e2 e6 e7
  obtain ⟨nb,no,nq,on,un,vn⟩:=s.nd 0 rfl
  obtain ⟨tb,to,tq,ot,ut,vt⟩:=s.nd 2 rfl
  have hl0:0<(x::rs).length:=by omega
  have i0:=ix0 2 tb to (x::rs).length hl0
  have hxv:=it_at ot.row (i:=0) (x:=x) rfl
  simp only [Nat.zero_mul,Nat.add_zero] at hxv
  refine W_sq fun K hK=>(W_draw (some none) (some 12) [(0,0,0),(0,1,0),(0,2,0),(0,3,0),(0,4,0),(0,5,0),(0,6,0),(0,7,0),(0,8,0),(0,9,0),(0,10,0),(0,11,0),(1,12,0)] mixed (by kernel_rfl) ?_);simp only [↓zZ1,↓reduceIte,Nat.reduceEqDiff,rg,ow_151,e0,e1,e2,e6,e7,ptr_eq,on.h2,ot.h2,hjn,hxv,i0]
  refine do_store (by simp only [zZ2,Nat.reduceEqDiff,↓reduceIte,zZ3]<;>rfl) (by simp only [zZ2,Nat.reduceEqDiff,↓reduceIte,zZ3]<;>rfl) sz_33 (rb_len x) on.se.wi (by have:=on.se.le;rw [E_sz];skip;omega) (rb_oc x) fun w3 x3 r3 s3=>⟨(by first | exact trivial | exact .inl trivial),?_⟩
  simp only [↓zZ1,↓reduceIte,Nat.reduceEqDiff,rg,ow_151,↓rgm]
  apply hK;clear hK K
  obtain ⟨g1,g2⟩:=on.se.set (i:=j) (x:=x) (hjn) (by simp only [E_sz,Nat.mul_one];exact x3.od) (by simp only [E_sz,Nat.mul_one];exact r3)
  skip
  have s2:Ss w0 G w3 [ndO E iso 1 b cb (ks.set j x) (ptr bc),ndO E iso 0 p ((cl+1:Nat):Int) (ls++[k]) chl,ndO E iso 0 q (cr:Nat) (x::rs) chr,kdO (ptr bc) ps,kdO chl lp,kdO chr rp]:=un g1 g2 (.inl ⟨rfl,rfl,rfl⟩)
  refine W_st s2 e0 e1 e2 e6 e7 ?_
  clear s s2 e0 e1 e2 e6 e7 on un vn ot ut vt x3 r3 s3 g1 g2 hxv hl0 i0
  clear e;intro e w s e0 e1 e2 e6 e7
  obtain ⟨tb,to,tq,ot,ut,vt⟩:=s.nd 2 rfl
  have hil:0<(x::rs).length:=by simp
  have hic:=ot.se.le
  obtain ⟨o2,h2,-,v2,-⟩:=ot.se.from E_sz 1 (by omega)
  have i2:1<=(x::rs).length:=by omega
  have h3:slcX (some 2) (.slice (some ⟨tb,to,none⟩) (x::rs).length tq) (some (.int .i64 1)) none none=some (slFrom tb to 2 1 (x::rs).length tq):=slcX_lo _ _ _ _ _ 1 _ i2
  refine W_sq fun K hK=>(W_draw (some none) (some 9) [(0,0,0),(0,1,0),(0,2,0),(0,3,0),(0,4,0),(0,5,0),(0,6,0),(0,7,0),(0,8,0),(1,9,0)] mixed (by kernel_rfl) ?_);simp only [↓zZ1,↓reduceIte,Nat.reduceEqDiff,rg,ow_151,e0,e1,e2,e6,e7,ptr_eq,ot.h2,h3,i2,h2]
  refine do_copy (by simp only [zZ2,Nat.reduceEqDiff,↓reduceIte,zZ3]<;>rfl) (by simp only [zZ2,Nat.reduceEqDiff,↓reduceIte,zZ3]<;>rfl) rb_eli (SlV.ext0 v2 (Ext.dr noF w (w.drawn+1))) ((Ext.dr noF w (w.drawn+1)).wok (ot.se.wi.mono (by rw [E_sz];omega))) (flat_oc E _) fun w3 x3 r3 s3=>⟨(by first | exact trivial | exact .inl trivial),?_⟩
  simp only [↓zZ1,↓reduceIte,Nat.reduceEqDiff,rg,ow_151,↓rgm]
  apply hK;clear hK K
  have hm:min ((x::rs).length-1) ((x::rs).length)=(x::rs).length-1-0:=by omega
  rw [hm] at x3 r3
  rw [List.take_of_length_le (by rw [flat_length,List.length_drop,E_sz];omega)] at r3
  obtain ⟨z,g1,g2⟩:=ot.se.down (i:=0) hil (by rw [Nat.zero_mul,Nat.add_zero];exact x3.od) (by rw [Nat.zero_mul,Nat.add_zero];exact r3)
  have s2:Ss w0 G w3 [ndO E iso 1 b cb (ks.set j x) (ptr bc),ndO E iso 0 p ((cl+1:Nat):Int) (ls++[k]) chl,ndO E iso 0 q (cr:Nat) (rs++[z]) chr,kdO (ptr bc) ps,kdO chl lp,kdO chr rp]:=ut g1 g2 (.inl ⟨rfl,rfl,rfl⟩)
  refine W_st s2 e0 e1 e2 e6 e7 ?_
  clear s s2 e0 e1 e2 e6 e7 ot ut vt x3 r3 s3 g1 g2 hm hil hic v2 h2 i2   h3
  clear e;intro e w s e0 e1 e2 e6 e7
  obtain ⟨tb,to,tq,ot,ut,vt⟩:=s.nd 2 rfl
  have hA:(rs++[z]).length=n0:=by rw [List.length_append,List.length_singleton];skip;omega
  have h2:=ot.se.hd
  rw [hA] at h2
  have q1:=wsub1 (n0) (by omega) (by omega)
  have hi:n0-1<n0:=by omega
  have z4:=zIt_at (hc.ext s.x fun o _ _=>hG o)
  refine W_sq fun K hK=>(W_draw (some none) (some 15) [(0,0,0),(0,1,0),(0,2,0),(0,3,0),(0,4,0),(0,5,0),(0,6,0),(0,7,0),(0,8,0),(0,9,0),(0,10,0),(0,11,0),(0,12,0),(0,13,0),(0,14,0),(1,15,0)] mixed (by kernel_rfl) ?_);simp only [↓zZ1,↓reduceIte,Nat.reduceEqDiff,rg,ow_151,e0,e1,e2,e6,e7,ptr_eq,h2,q1,hi,z4]
  refine do_store (by simp only [zZ2,Nat.reduceEqDiff,↓reduceIte,zZ3]<;>rfl) (by simp only [zZ2,Nat.reduceEqDiff,↓reduceIte,zZ3]<;>rfl) sz_33 (rb_len zIt) ot.se.wi (by have:=ot.se.le;rw [E_sz];rw [hA] at this;omega) (rb_oc zIt) fun w3 x3 r3 s3=>⟨(by first | exact trivial | exact .inl trivial),?_⟩
  simp only [↓zZ1,↓reduceIte,Nat.reduceEqDiff,rg,ow_151,↓rgm]
  apply hK;clear hK K
  obtain ⟨g1,g2⟩:=ot.se.set (i:=n0-1) (x:=zIt) (by rw [hA];omega) (by simp only [E_sz,Nat.mul_one];exact x3.od) (by simp only [E_sz,Nat.mul_one];exact r3)
  have hs:(rs++[z]).set (n0-1) zIt=rs++[zIt]:=by rw [show n0-1=(rs).length by skip;omega];exact set_last
  rw [hs] at g1
  have s2:Ss w0 G w3 [ndO E iso 1 b cb (ks.set j x) (ptr bc),ndO E iso 0 p ((cl+1:Nat):Int) (ls++[k]) chl,ndO E iso 0 q (cr:Nat) (rs++[zIt]) chr,kdO (ptr bc) ps,kdO chl lp,kdO chr rp]:=ut g1 g2 (.inl ⟨rfl,rfl,rfl⟩)
  refine W_st s2 e0 e1 e2 e6 e7 ?_
  clear s s2 e0 e1 e2 e6 e7 ot ut vt x3 r3 s3 g1 g2 hA h2 q1 hi z4 hs
  clear e;intro e w s e0 e1 e2 e6 e7
  obtain ⟨tb,to,tq,ot,ut,vt⟩:=s.nd 2 rfl
  have hA:(rs++[zIt]).length=n0:=by rw [List.length_append,List.length_singleton];skip;omega
  have h2:=ot.se.hd
  have h4:=ot.se.le
  rw [hA] at h2 h4
  have q1:=wsub1 (n0) (by omega) (by omega)
  have hi:n0-1<=tq:=by omega
  refine W_sq fun K hK=>(W_draw (some none) (some 14) [(0,0,0),(0,1,0),(0,2,0),(0,3,0),(0,4,0),(0,5,0),(0,6,0),(0,7,0),(0,8,0),(0,9,0),(0,10,0),(0,11,0),(0,12,0),(0,13,0),(1,14,0)] mixed (by kernel_rfl) ?_);simp only [↓zZ1,↓reduceIte,Nat.reduceEqDiff,rg,ow_151,e0,e1,e2,e6,e7,ptr_eq,h2,q1,hi]
  refine do_store (by simp only [zZ2,Nat.reduceEqDiff,↓reduceIte,zZ3]<;>rfl) (by simp only [zZ2,Nat.reduceEqDiff,↓reduceIte,zZ3]<;>rfl) sz_25 rfl ot.se.hok (by decide) (oc_one rfl rfl) fun w3 x3 r3 s3=>⟨(by first | exact trivial | exact .inl trivial),?_⟩
  simp only [↓zZ1,↓reduceIte,Nat.reduceEqDiff,rg,ow_151,↓rgm]
  apply hK;clear hK K
  obtain ⟨g1,g2⟩:=ot.se.cut x3.od (by rw [show (rs).length=n0-1 by skip;omega];exact (Row.cons.1 r3).1)
  have s2:Ss w0 G w3 [ndO E iso 1 b cb (ks.set j x) (ptr bc),ndO E iso 0 p ((cl+1:Nat):Int) (ls++[k]) chl,ndO E iso 0 q (cr:Nat) rs chr,kdO (ptr bc) ps,kdO chl lp,kdO chr rp]:=ut g1 g2 (.inl ⟨rfl,rfl,rfl⟩)
  refine W_st s2 e0 e1 e2 e6 e7 ?_
  clear s s2 e0 e1 e2 e6 e7 ot ut vt x3 r3 s3 g1 g2 hA h2 h4 q1 hi
  clear e;intro e w s e0 e1 e2 e6 e7
  obtain ⟨tb,to,tq,ot,ut,vt⟩:=s.nd 2 rfl
  have q1:=wsub1 cr (by omega) (by omega)
  refine W_sq fun K hK=>(W_text [true,true,true,true,true,true,true,false] (by kernel_rfl) ?_);simp only [↓zZ1,↓reduceIte,Nat.reduceEqDiff,rg,ow_151,e0,e1,e2,e6,e7,ptr_eq,ot.h1,q1]
  refine do_store (by simp only [zZ2,Nat.reduceEqDiff,↓reduceIte,zZ3]<;>rfl) (by simp only [zZ2,Nat.reduceEqDiff,↓reduceIte,zZ3]<;>rfl) sz_3 rfl ot.wb (by decide) (oc_one rfl rfl) fun w3 x3 r3 s3=>⟨(by first | exact trivial | exact .inl trivial),?_⟩
  simp only [↓zZ1,↓reduceIte,Nat.reduceEqDiff,rg,ow_151,↓rgm]
  apply hK;clear hK K
  have s2:Ss w0 G w3 [ndO E iso 1 b cb (ks.set j x) (ptr bc),ndO E iso 0 p ((cl+1:Nat):Int) (ls++[k]) chl,ndO E iso 0 q ((cr-1:Nat):Int) rs chr,kdO (ptr bc) ps,kdO chl lp,kdO chr rp]:=vt x3 (Row.cons.1 r3).1
  refine W_st s2 e0 e1 e2 e6 e7 ?_
  clear s s2 e0 e1 e2 e6 e7 ot ut vt x3 r3 s3  q1
  clear e;intro e w s e0 e1 e2 e6 e7
  obtain ⟨lb,lo,lq,ol,ul,vl⟩:=s.nd 1 rfl
  rcases hch with ⟨rfl,rfl,rfl,rfl⟩ | ⟨lc,rc,rfl,rfl,hlp,hrp⟩
  ·refine W_sq fun K hK=>(W_text [true,false,true] (by kernel_rfl) ?_);simp only [↓zZ1,↓reduceIte,Nat.reduceEqDiff,rg,ow_151,e6]
   refine do_call fn_108 (by simp only [zZ2,Nat.reduceEqDiff,↓reduceIte,zZ4]<;>rfl) (leaf_any p none w ol.h3) ?_
   rintro _ w1 ⟨rfl,hw1⟩
   obtain rfl:w=w1:=hw1.symm
   refine ⟨trivial,?_⟩
   simp only [↓zZ1,↓reduceIte,Nat.reduceEqDiff,rg,ow_151]
   apply hK;clear hK K
   refine W_false (by simp only [zZ2,Nat.reduceEqDiff,↓reduceIte,zZ3]<;>rfl) (W_skip ?_)
   show endQ _ _ _ _ _ _
   refine endQ_0n ?_
   obtain rfl:cg=0:=by
    rcases hg with ⟨_,h⟩ | ⟨g,rp',h,_⟩
    ·exact h
    ·cases h
   exact s
  ·refine W_sq fun K hK=>(W_text [true,false,true] (by kernel_rfl) ?_);simp only [↓zZ1,↓reduceIte,Nat.reduceEqDiff,rg,ow_151,e6]
   refine do_call fn_108 (by simp only [zZ2,Nat.reduceEqDiff,↓reduceIte,zZ4]<;>rfl) (leaf_any p (some ⟨lc,0,none⟩) w ol.h3) ?_
   rintro _ w1 ⟨rfl,hw1⟩
   obtain rfl:w=w1:=hw1.symm
   refine ⟨trivial,?_⟩
   simp only [↓zZ1,↓reduceIte,Nat.reduceEqDiff,rg,ow_151]
   apply hK;clear hK K
   refine W_true (by simp only [zZ2,Nat.reduceEqDiff,↓reduceIte,zZ3]<;>rfl) ?_
   refine W_st s e0 e1 e2 e6 e7 ?_
   clear s e0 e1 e2 e6 e7 ol ul vl
   clear e;intro e w s e0 e1 e2 e6 e7
   obtain ⟨g,rp',rfl,hgc,hgG⟩:∃ g rp',rp=some g::rp'/\rd w0 g 1=some (.int .i64 (cg:Nat))/\∀ o,¬ G g o:=by
    rcases hg with ⟨h,_⟩ | h
    ·rw [h] at hrp;cases hrp
    ·exact h
   obtain ⟨n2,hn2⟩:∃ n2,n2=rp'.length+1:=⟨_,rfl⟩
   have hnk:(some g::rp').length=n2:=by simp [hn2]
   have hlp0:lp.length<=2*d:=by omega
   have hlp1:0<lp.length:=by omega
   have hn2b:n2<=2*d:=by omega
   clear hlp hrp hll hrl hgt hlt hnl
   obtain ⟨lb,lo,lq,ol,ul,vl⟩:=s.nd 1 rfl
   obtain ⟨yb,yo,yq,oy,uy,fn,fk⟩:=s.kdx 4 rfl (by omega)
   obtain ⟨tb,to,tq,ot,ut,vt⟩:=s.nd 2 rfl
   obtain ⟨zb,zo,zq,oz,uz⟩:=s.kd 5 rfl
   have hb_p:=wok_lt ol.wb
   have hb_lc:=wok_lt oy.hok
   have hgv:=oz.ptr_at (j:=0) (p:=g) rfl
   rw [Nat.add_zero] at hgv
   have hl0:0<(some g::rp').length:=by omega
   have i0:=ix0 1 zb zo (some g::rp').length hl0
   have L0:=on2_0 p lc
   have L1:=on2_1 p lc
   refine W_sq fun K hK=>(W_semi (some (some [p,lc])) (.take false 0 (.take false 1 (.take false 2 (.take false 3 (.take false 4 (.take false 5 (.take false 6 (.take false 7 (.take false 8 (.take false 9 (.take false 10 (.take false 11 (.take false 12 (.take true 13 (.take false 14 (.take true 15 (.take false 16 (.take true 17 (.act 18 (.act 19 (.take false 20 (.bar 21 .nil)))))))))))))))))))))) mixed (by kernel_rfl) ?_);simp only [↓rgm,↓zZ1,↓reduceIte,Nat.reduceEqDiff,rg,ow_151,e0,e1,e2,e6,e7,ptr_eq,ol.h3,oy.hd,ot.h3,oz.hd,i0,hgv,L0,L1,rB_on]
   refine do_bsl rfl (rb_o (some ⟨g,0,none⟩)) fun w1 n1=>⟨.inr (n1.keep _ (lt2 hb_p hb_lc)),?_⟩
   simp only [↓zZ1,↓reduceIte,Nat.reduceEqDiff,rg,ow_151,↓rgm]
   have n1:=n1.od
   have a1:=oy.ext0 n1.ext
   refine do_append (by simp only [zZ2,Nat.reduceEqDiff,↓reduceIte,zZ3]<;>rfl) (by simp only [zZ2,Nat.reduceEqDiff,↓reduceIte,zZ3]<;>rfl) rb_elk rfl ni_166 a1.slV (u:=.slice (some ⟨w.heap.size,0,none⟩) 1 1) (m:=1) (l':=Eo.cel (some g)) ⟨rfl,.inr ⟨_,0,1,rfl,Nat.le_refl _,n1.row,n1.wok.R (Nat.le_refl _)⟩⟩ (by omega) (by decide) (Eo.one _) fun v2 w2 a2=>⟨.inr (app_keep a2 _ (fkeep2 ⟨wok_lt (n1.ext.wok ol.wb),fn 1 (by decide) rfl⟩ ⟨wok_lt (n1.ext.wok oy.hok),oy.ne.symm⟩)),?_⟩
   obtain ⟨gb,go,gc,rfl,wk2,-,nx⟩:=a1.app' (ls:=[(some g)]) rfl (by rw [flat_one];exact a2)
   simp only [↓zZ1,↓reduceIte,Nat.reduceEqDiff,rg,ow_151,↓rgm]
   refine do_store (by simp only [zZ2,Nat.reduceEqDiff,↓reduceIte,zZ3]<;>rfl) (by simp only [zZ2,Nat.reduceEqDiff,↓reduceIte,zZ3]<;>rfl) sz_166 rfl wk2 (by decide) (oc_one rfl rfl) fun w3 x3 r3 s3=>⟨trivial,?_⟩
   simp only [↓zZ1,↓reduceIte,Nat.reduceEqDiff,rg,ow_151,↓rgm]
   apply hK;clear hK K
   obtain ⟨g1,g2,g3⟩:=nx w3 x3 (Row.cons.1 r3).1
   have s2:Ss w0 G w3 [ndO E iso 1 b cb (ks.set j x) (ptr bc),ndO E iso 0 p ((cl+1:Nat):Int) (ls++[k]) (ptr lc),ndO E iso 0 q ((cr-1:Nat):Int) rs (ptr rc),kdO (ptr bc) ps,kdO (ptr lc) (lp++[(some g)]),kdO (ptr rc) (some g::rp')]:=uy g1 (n1.ext.trans g2 (fun _ _ h=>h.elim) fun _ _ _ h=>h) (g3.imp id fun h=>(by have:=n1.size;omega))
   refine W_st s2 e0 e1 e2 e6 e7 ?_
   clear s s2 e0 e1 e2 e6 e7 ol ul vl oy uy fn fk ot ut vt oz uz wk2 nx x3 r3 s3 g1 g2 g3 hb_p hb_lc hgv hl0 i0 n1 a1 a2 L0 L1
   clear e;intro e w s e0 e1 e2 e6 e7
   obtain ⟨tb,to,tq,ot,ut,vt⟩:=s.nd 2 rfl
   obtain ⟨zb,zo,zq,oz,uz⟩:=s.kd 5 rfl
   have hil:0<(some g::rp').length:=by simp
   have hic:=oz.le
   obtain ⟨o2,h2,-,v2,-⟩:=oz.from Eo_sz 1 (by omega)
   have i2:1<=(some g::rp').length:=by omega
   have h3:slcX (some 1) (.slice (some ⟨zb,zo,none⟩) (some g::rp').length zq) (some (.int .i64 1)) none none=some (slFrom zb zo 1 1 (some g::rp').length zq):=slcX_lo _ _ _ _ _ 1 _ i2
   refine W_sq fun K hK=>(W_draw (some none) (some 13) [(0,0,0),(0,1,0),(0,2,0),(0,3,0),(0,4,0),(0,5,0),(0,6,0),(0,7,0),(0,8,0),(0,9,0),(0,10,0),(0,11,0),(0,12,0),(1,13,0)] mixed (by kernel_rfl) ?_);simp only [↓zZ1,↓reduceIte,Nat.reduceEqDiff,rg,ow_151,e0,e1,e2,e6,e7,ptr_eq,ot.h3,oz.hd,h3,i2,h2]
   refine do_copy (by simp only [zZ2,Nat.reduceEqDiff,↓reduceIte,zZ3]<;>rfl) (by simp only [zZ2,Nat.reduceEqDiff,↓reduceIte,zZ3]<;>rfl) rb_elk (SlV.ext0 v2 (Ext.dr noF w (w.drawn+1))) ((Ext.dr noF w (w.drawn+1)).wok (oz.wi.mono (by rw [Eo_sz];omega))) (flat_oc Eo _) fun w3 x3 r3 s3=>⟨(by first | exact trivial | exact .inl trivial),?_⟩
   simp only [↓zZ1,↓reduceIte,Nat.reduceEqDiff,rg,ow_151,↓rgm]
   apply hK;clear hK K
   have hm:min ((some g::rp').length-1) ((some g::rp').length)=(some g::rp').length-1-0:=by omega
   rw [hm] at x3 r3
   rw [List.take_of_length_le (by rw [flat_length,List.length_drop,Eo_sz];omega)] at r3
   obtain ⟨z,g1,g2⟩:=oz.down (i:=0) hil (by rw [Nat.zero_mul,Nat.add_zero];exact x3.od) (by rw [Nat.zero_mul,Nat.add_zero];exact r3)
   have s2:Ss w0 G w3 [ndO E iso 1 b cb (ks.set j x) (ptr bc),ndO E iso 0 p ((cl+1:Nat):Int) (ls++[k]) (ptr lc),ndO E iso 0 q ((cr-1:Nat):Int) rs (ptr rc),kdO (ptr bc) ps,kdO (ptr lc) (lp++[(some g)]),kdO (ptr rc) (rp'++[z])]:=uz g1 g2 (.inl ⟨rfl,rfl,rfl⟩)
   refine W_st s2 e0 e1 e2 e6 e7 ?_
   clear s s2 e0 e1 e2 e6 e7 ot ut vt oz uz x3 r3 s3 g1 g2 hm hil hic v2 h2 i2   h3
   clear e;intro e w s e0 e1 e2 e6 e7
   obtain ⟨tb,to,tq,ot,ut,vt⟩:=s.nd 2 rfl
   obtain ⟨zb,zo,zq,oz,uz⟩:=s.kd 5 rfl
   have hA:(rp'++[z]).length=n2:=by rw [List.length_append,List.length_singleton];skip;omega
   have h2:=oz.hd
   rw [hA] at h2
   have q1:=wsub1 (n2) (by omega) (by omega)
   have hi:n2-1<n2:=by omega
   refine W_sq fun K hK=>(W_draw (some none) (some 15) [(0,0,0),(0,1,0),(0,2,0),(0,3,0),(0,4,0),(0,5,0),(0,6,0),(0,7,0),(0,8,0),(0,9,0),(0,10,0),(0,11,0),(0,12,0),(0,13,0),(0,14,0),(1,15,0)] mixed (by kernel_rfl) ?_);simp only [↓zZ1,↓reduceIte,Nat.reduceEqDiff,rg,ow_151,e0,e1,e2,e6,e7,ptr_eq,ot.h3,h2,q1,hi]
   refine do_store (by simp only [zZ2,Nat.reduceEqDiff,↓reduceIte,zZ3]<;>rfl) (by simp only [zZ2,Nat.reduceEqDiff,↓reduceIte,zZ3]<;>rfl) sz_96 rfl oz.wi (by have:=oz.le;rw [Eo_sz];rw [hA] at this;omega) (oc_one rfl rfl) fun w3 x3 r3 s3=>⟨(by first | exact trivial | exact .inl trivial),?_⟩
   simp only [↓zZ1,↓reduceIte,Nat.reduceEqDiff,rg,ow_151,↓rgm]
   apply hK;clear hK K
   obtain ⟨g1,g2⟩:=oz.set (i:=n2-1) (x:=none) (by rw [hA];omega) (by rw [Eo_sz,Nat.mul_one];exact x3.od) (by rw [Eo_sz,Nat.mul_one];exact r3)
   have hs:(rp'++[z]).set (n2-1) none=rp'++[none]:=by rw [show n2-1=(rp').length by skip;omega];exact set_last
   rw [hs] at g1
   have s2:Ss w0 G w3 [ndO E iso 1 b cb (ks.set j x) (ptr bc),ndO E iso 0 p ((cl+1:Nat):Int) (ls++[k]) (ptr lc),ndO E iso 0 q ((cr-1:Nat):Int) rs (ptr rc),kdO (ptr bc) ps,kdO (ptr lc) (lp++[(some g)]),kdO (ptr rc) (rp'++[none])]:=uz g1 g2 (.inl ⟨rfl,rfl,rfl⟩)
   refine W_st s2 e0 e1 e2 e6 e7 ?_
   clear s s2 e0 e1 e2 e6 e7 ot ut vt oz uz x3 r3 s3 g1 g2 hA h2 q1 hi hs
   clear e;intro e w s e0 e1 e2 e6 e7
   obtain ⟨tb,to,tq,ot,ut,vt⟩:=s.nd 2 rfl
   obtain ⟨zb,zo,zq,oz,uz⟩:=s.kd 5 rfl
   have hA:(rp'++[none]).length=n2:=by rw [List.length_append,List.length_singleton];skip;omega
   have h2:=oz.hd
   have h4:=oz.le
   rw [hA] at h2 h4
   have q1:=wsub1 (n2) (by omega) (by omega)
   have hi:n2-1<=zq:=by omega
   refine W_sq fun K hK=>(W_draw (some none) (some 20) [(0,0,0),(0,1,0),(0,2,0),(0,3,0),(0,4,0),(0,5,0),(0,6,0),(0,7,0),(0,8,0),(0,9,0),(0,10,0),(0,11,0),(0,12,0),(0,13,0),(0,14,0),(0,15,0),(0,16,0),(0,17,0),(0,18,0),(0,19,0),(1,20,0)] mixed (by kernel_rfl) ?_);simp only [↓zZ1,↓reduceIte,Nat.reduceEqDiff,rg,ow_151,e0,e1,e2,e6,e7,ptr_eq,ot.h3,h2,q1,hi]
   refine do_store (by simp only [zZ2,Nat.reduceEqDiff,↓reduceIte,zZ3]<;>rfl) (by simp only [zZ2,Nat.reduceEqDiff,↓reduceIte,zZ3]<;>rfl) sz_166 rfl oz.hok (by decide) (oc_one rfl rfl) fun w3 x3 r3 s3=>⟨(by first | exact trivial | exact .inl trivial),?_⟩
   simp only [↓zZ1,↓reduceIte,Nat.reduceEqDiff,rg,ow_151,↓rgm]
   apply hK;clear hK K
   obtain ⟨g1,g2⟩:=oz.cut x3.od (by rw [show (rp').length=n2-1 by skip;omega];exact (Row.cons.1 r3).1)
   have s2:Ss w0 G w3 [ndO E iso 1 b cb (ks.set j x) (ptr bc),ndO E iso 0 p ((cl+1:Nat):Int) (ls++[k]) (ptr lc),ndO E iso 0 q ((cr-1:Nat):Int) rs (ptr rc),kdO (ptr bc) ps,kdO (ptr lc) (lp++[(some g)]),kdO (ptr rc) rp']:=uz g1 g2 (.inl ⟨rfl,rfl,rfl⟩)
   refine W_st s2 e0 e1 e2 e6 e7 ?_
   clear s s2 e0 e1 e2 e6 e7 ot ut vt oz uz x3 r3 s3 g1 g2 hA h2 h4 q1 hi
   clear e;intro e w s e0 e1 e2 e6 e7
   obtain ⟨lb,lo,lq,ol,ul,vl⟩:=s.nd 1 rfl
   obtain ⟨yb,yo,yq,oy,uy⟩:=s.kd 4 rfl
   obtain ⟨n4,hn4⟩:∃ n4,n4=lp.length+1:=⟨_,rfl⟩
   have h2:=oy.hd
   rw [show (lp++[some g]).length=n4 by simp [hn4]] at h2
   have q3:=wsub1 n4 (by omega) (by omega)
   have hi:n4-1<n4:=by omega
   have hgv:=oy.ptr_at (j:=n4-1) (p:=g) (by simp [hn4])
   have hg1:=s.x.rd hgc (hgG 1)
   have q1:=wadd (cl+1) cg (by omega)
   refine W_sq fun K hK=>(W_draw (some none) (some 26) [(0,0,0),(0,1,0),(0,2,0),(0,3,0),(0,4,0),(0,5,0),(0,6,0),(0,7,0),(0,8,0),(0,9,0),(0,10,0),(0,11,0),(0,12,0),(0,13,0),(0,14,0),(0,15,0),(0,16,0),(0,17,0),(0,18,0),(0,19,0),(0,20,0),(0,21,0),(0,22,0),(0,23,0),(0,24,0),(0,25,0),(1,26,0)] mixed (by kernel_rfl) ?_);simp only [↓zZ1,↓reduceIte,Nat.reduceEqDiff,rg,ow_151,e0,e1,e2,e6,e7,ptr_eq,ol.h1,h2,q3,hi,hgv,hg1,ol.h3,q1]
   refine do_store (by simp only [zZ2,Nat.reduceEqDiff,↓reduceIte,zZ3]<;>rfl) (by simp only [zZ2,Nat.reduceEqDiff,↓reduceIte,zZ3]<;>rfl) sz_3 rfl ol.wb (by decide) (oc_one rfl rfl) fun w3 x3 r3 s3=>⟨(by first | exact trivial | exact .inl trivial),?_⟩
   simp only [↓zZ1,↓reduceIte,Nat.reduceEqDiff,rg,ow_151,↓rgm]
   apply hK;clear hK K
   have s2:Ss w0 G w3 [ndO E iso 1 b cb (ks.set j x) (ptr bc),ndO E iso 0 p ((cl+1+cg:Nat):Int) (ls++[k]) (ptr lc),ndO E iso 0 q ((cr-1:Nat):Int) rs (ptr rc),kdO (ptr bc) ps,kdO (ptr lc) (lp++[(some g)]),kdO (ptr rc) rp']:=vl x3.od (Row.cons.1 r3).1
   refine W_st s2 e0 e1 e2 e6 e7 ?_
   clear s s2 e0 e1 e2 e6 e7 ol ul vl oy uy x3 r3 s3 h2 q3 hi hgv hg1 hn4 q1
   clear e;intro e w s e0 e1 e2 e6 e7
   obtain ⟨tb,to,tq,ot,ut,vt⟩:=s.nd 2 rfl
   obtain ⟨lb,lo,lq,ol,ul,vl⟩:=s.nd 1 rfl
   obtain ⟨yb,yo,yq,oy,uy⟩:=s.kd 4 rfl
   obtain ⟨n4,hn4⟩:∃ n4,n4=lp.length+1:=⟨_,rfl⟩
   have h2:=oy.hd
   rw [show (lp++[some g]).length=n4 by simp [hn4]] at h2
   have q3:=wsub1 n4 (by omega) (by omega)
   have hi:n4-1<n4:=by omega
   have hgv:=oy.ptr_at (j:=n4-1) (p:=g) (by simp [hn4])
   have hg1:=s.x.rd hgc (hgG 1)
   have q1:=wsub (cr-1) cg (by omega) (by omega)
   refine W_rg fun K hK=>(W_draw (some none) (some 26) [(0,0,0),(0,1,0),(0,2,0),(0,3,0),(0,4,0),(0,5,0),(0,6,0),(0,7,0),(0,8,0),(0,9,0),(0,10,0),(0,11,0),(0,12,0),(0,13,0),(0,14,0),(0,15,0),(0,16,0),(0,17,0),(0,18,0),(0,19,0),(0,20,0),(0,21,0),(0,22,0),(0,23,0),(0,24,0),(0,25,0),(1,26,0)] mixed (by kernel_rfl) ?_);simp only [↓zZ1,↓reduceIte,Nat.reduceEqDiff,rg,ow_151,e0,e1,e2,e6,e7,ptr_eq,ot.h1,h2,q3,hi,hgv,hg1,ol.h3,q1]
   refine do_store (by simp only [zZ2,Nat.reduceEqDiff,↓reduceIte,zZ3]<;>rfl) (by simp only [zZ2,Nat.reduceEqDiff,↓reduceIte,zZ3]<;>rfl) sz_3 rfl ot.wb (by decide) (oc_one rfl rfl) fun w3 x3 r3 s3=>⟨(by first | exact trivial | exact .inl trivial),?_⟩
   simp only [↓zZ1,↓reduceIte,Nat.reduceEqDiff,rg,ow_151,↓rgm]
   apply hK;clear hK K
   have s2:Ss w0 G w3 [ndO E iso 1 b cb (ks.set j x) (ptr bc),ndO E iso 0 p ((cl+1+cg:Nat):Int) (ls++[k]) (ptr lc),ndO E iso 0 q ((cr-1-cg:Nat):Int) rs (ptr rc),kdO (ptr bc) ps,kdO (ptr lc) (lp++[(some g)]),kdO (ptr rc) rp']:=vt x3.od (Row.cons.1 r3).1
   show endQ _ _ _ _ _ _
   refine endQ_0n ?_
   exact s2
 obtain ⟨nb,no,nc,on,un,vn⟩:=s.nd 0 rfl
 rcases hj with ⟨rfl,hj⟩ | ⟨rfl,hj⟩
 ·have hb:((i0:Int) == (ks.length:Int))=false:=by simp;omega
  refine W_sq fun K hK=>(W_text [true,true,true,true,true,true,true] (by kernel_rfl) ?_);simp only [↓zZ1,↓reduceIte,Nat.reduceEqDiff,rg,ow_151,e1,e2,ptr_eq,on.h2,hb]
  apply hK;clear hK K
  refine W_false (by simp only [zZ2,Nat.reduceEqDiff,↓reduceIte,zZ3]<;>rfl) (W_skip ?_)
  exact hend _ e0 e1 e2
 ·have hb:((ks.length:Int) == (ks.length:Int))=true:=by simp
  refine W_sq fun K hK=>(W_text [true,true,true,true,true,true,true] (by kernel_rfl) ?_);simp only [↓zZ1,↓reduceIte,Nat.reduceEqDiff,rg,ow_151,e1,e2,ptr_eq,on.h2,hb]
  apply hK;clear hK K
  refine W_true (by simp only [zZ2,Nat.reduceEqDiff,↓reduceIte,zZ3]<;>rfl) ?_
  have q1:=wsub1 ks.length (by omega) (by omega)
  have hjs:ks.length-1=j:=by omega
  refine W_rg fun K hK=>(W_text [true,true,true] (by kernel_rfl) ?_);simp only [↓zZ1,↓reduceIte,Nat.reduceEqDiff,rg,ow_151,e2,q1]
  apply hK;clear hK K
  exact hend _ e0 e1 (by simp only [upd_eq,Nat.reduceEqDiff,↓reduceIte]<;>rw [hjs])
theorem map_erase {α β:Type} (f:α->β) (l:List α) (i:Nat):(l.map f).eraseIdx i=(l.eraseIdx i).map f:=by
 rw [List.eraseIdx_eq_take_drop_succ,List.eraseIdx_eq_take_drop_succ,List.map_append,List.map_take,List.map_drop]
variable {h:Nat} {w:World} {b bc:Nat} {cnt:Int} {ks:List It} {A B:List (Kid It)} {c1 c2:Kid It} {F0 F3:Nat->Nat->Prop} {K0 K3:Nat}
  {F1 F4:Nat->Nat->Prop} {K1 K4:Nat} {k1:List It} {ch1:Value} {p1:List (Option Nat)} {g1:List (Kid It)} {F2 F5:Nat->Nat->Prop} {K2 K5:Nat} {k2:List It} {ch2:Value} {p2:List (Option Nat)} {g2:List (Kid It)}
set_option maxHeartbeats 1000000 in
theorem reb_two (m d i0:Nat) (iso:Int) (hd:2<=d) (hd':d<=128) (hc:Cfg w m iso d) (t:Two E iso (d-1) (2*d-1) h w b bc cnt ks A B c1 c2 F0 F3 K0 K3 F1 F4 K1 K4 k1 ch1 p1 g1 F2 F5 K2 K5 k2 ch2 p2 g2)
  (hm:∀ o,¬ (F0 m o\/F3 m o\/kinF (A++c1::c2::B) m o)) (hlen:(A++c1::c2::B).length=ks.length+1) (hj:(i0=A.length/\A.length<ks.length)\/(i0=ks.length/\A.length+1=ks.length)) (hks:ks.length<=2*d-1)
  (hcnt:cnt=((weave ((A++c1::c2::B).map Kid.xs) ks).length:Nat)) (hbig:(weave ((A++c1::c2::B).map Kid.xs) ks).length<1152921504606846976) (h1:d-2<=k1.length) (h2:d-2<=k2.length) (h1':k1.length<=2*d-1) (h2':k2.length<=2*d-1)
  (hsh:k1.length<d-1\/k2.length<d-1) :
  CallK Try.prog 151 #[ptr m,ptr b,.int .i64 (i0:Nat)] w fun _ w'=>∃ F'',Tr E iso (d-1) (2*d-1) (h+1) w' (ks.length-1) b (weave ((A++c1::c2::B).map Kid.xs) ks) F'' ∧
   Ext (fun y o=>F0 y o\/F3 y o\/kinF (A++c1::c2::B) y o) w w'/\∀ y o,F'' y o->(F0 y o\/F3 y o\/kinF (A++c1::c2::B) y o)\/w.heap.size<=y:=by
 have hAk:A.length<ks.length:=by omega
 obtain ⟨k,hk⟩:∃ k,ks[A.length]? = some k:=⟨_,List.getElem?_eq_getElem hAk⟩
 have s:=t.init
 have hG:∀ o,¬ six F0 F1 F2 F3 F4 F5 m o:=fun o g=>hm o (t.six g)
 have hp:((A++c1::c2::B).map fun g=>some g.b)[A.length]? = some (some c1.b):=by simp
 have hq:((A++c1::c2::B).map fun g=>some g.b)[A.length+1]? = some (some c2.b):=by simp
 have hps:((A++c1::c2::B).map fun g=>some g.b).length=ks.length+1:=by rw [List.length_map];exact hlen
 have hmap:(A++c1::c2::B).map Kid.xs=A.map Kid.xs++c1.xs::c2.xs::B.map Kid.xs:=by simp
 have hk':ks[(A.map Kid.xs).length]? = some k:=by rw [List.length_map];exact hk
 have hx1:c1.xs.length<1152921504606846976/\c2.xs.length<1152921504606846976:=by
  have e1:=weave_mem_length ((A++c1::c2::B).map Kid.xs) ks (by rw [List.length_map];exact hlen) c1.xs (by simp)
  have e2:=weave_mem_length ((A++c1::c2::B).map Kid.xs) ks (by rw [List.length_map];exact hlen) c2.xs (by simp)
  omega
 have hlA:(A++c1::c2::B).length=A.length+B.length+2:=by simp;omega
 have far:∀ {c:Kid It},c ∈ g1++g2->(∀ o,c.F c.b o)->∀ o,¬ six F0 F1 F2 F3 F4 F5 c.b o:=fun hc hs o g=>t.far.2.1 _ hc _ o (hs o) g
 by_cases hlt:k1.length+k2.length<2*d-1
 ·refine CallK_mono (reb_merge m d b c1.b c2.b bc i0 A.length c1.xs.length c2.xs.length iso cnt ks k1 k2 k _ p1 p2 ch1 ch2 w w _ hd hd' hc hG s hj hks hk hps hp hq t.ch h1' h2' (by omega) (by omega) hlt) ?_
  rintro v w' hs
  have X:=hs.x
  obtain ⟨F',K',s'⟩:=hs
  have q:=t.q1.merge (k:=k) t.q2
  have hw:=weave_two (A.map Kid.xs) (B.map Kid.xs) c1.xs c2.xs ks k hk'
  rw [List.length_map] at hw
  have hle:=List.length_eraseIdx_of_lt hAk
  have T:=t.kid s' 1 rfl rfl q (List.Sublist.refl _) (by simp;omega) (by simp;omega) (by omega) (by simp<;>omega)
  have hpe:((A++c1::c2::B).map fun g=>some g.b).eraseIdx (A.length+1)=(A++([Kid.mk c1.b (c1.xs++k::c2.xs) (fun y o=>F' 1 y o\/F' 4 y o\/kinF (g1++g2) y o)]++B)).map fun g=>some g.b:=by
   rw [map_erase,List.eraseIdx_append_of_length_le (by omega)]
   simp
  have hwe:(A++([Kid.mk c1.b (c1.xs++k::c2.xs) (fun y o=>F' 1 y o\/F' 4 y o\/kinF (g1++g2) y o)]++B)).map Kid.xs=A.map Kid.xs++(c1.xs++k::c2.xs)::B.map Kid.xs:=by simp
  obtain ⟨F'',T',hF''⟩:=t.close s' rfl [Kid.mk c1.b (c1.xs++k::c2.xs) (fun y o=>F' 1 y o\/F' 4 y o\/kinF (g1++g2) y o)] (ks':=ks.eraseIdx A.length) (lo:=ks.length-1) rfl (by rw [<-hpe];rfl)
   (by simp only [List.length_append,List.length_cons,List.length_nil];omega) (fun n hn=>by obtain rfl:=List.mem_singleton.1 hn;exact T)
   (fun n hn y o g=>by
    obtain rfl:=List.mem_singleton.1 hn
    rcases g with g | g | g
    ·exact .inl ⟨1,.inl rfl,g⟩
    ·exact .inl ⟨4,by decide,g⟩
    ·exact .inr g) (List.pairwise_singleton _ _) (by omega) (by omega) (by rw [hwe,<-hw,<-hmap];exact hcnt)
  rw [hwe,<-hw,<-hmap] at T'
  exact ⟨F'',T',X.mono fun y o _ g=>t.six g,hF''⟩
 ·have two:∀ {w':World} {F':Nat->Nat->Nat->Prop} {K':Nat->Nat} {P:List Ob} {x:It} {x1' x2' l1 l2:List It} {q1 q2:List (Option Nat)} {gl gr:List (Kid It)} {n1 n2:Int},St w (six F0 F1 F2 F3 F4 F5) w' P F' K' →
    P=[ndO E iso 1 b cnt (ks.set A.length x) (ptr bc),ndO E iso 0 c1.b n1 l1 ch1,ndO E iso 0 c2.b n2 l2 ch2,kdO (ptr bc) ((A++c1::c2::B).map fun g=>some g.b),kdO ch1 q1,kdO ch2 q2] →
    Kin E iso (d-1) (2*d-1) h w ch1 q1 l1 x1' gl->Kin E iso (d-1) (2*d-1) h w ch2 q2 l2 x2' gr->c1.xs++k::c2.xs=x1'++x::x2'->gl++gr=g1++g2->n1=(x1'.length:Nat)->n2=(x2'.length:Nat) →
    d-1<=l1.length->l1.length<=2*d-1->d-1<=l2.length->l2.length<=2*d-1 →
    ∃ F'',Tr E iso (d-1) (2*d-1) (h+1) w' (ks.length-1) b (weave ((A++c1::c2::B).map Kid.xs) ks) F'' ∧
     Ext (fun y o=>F0 y o\/F3 y o\/kinF (A++c1::c2::B) y o) w w'/\∀ y o,F'' y o->(F0 y o\/F3 y o\/kinF (A++c1::c2::B) y o)\/w.heap.size<=y:=by
   intro w' F' K' P x x1' x2' l1 l2 q1 q2 gl gr n1 n2 s' hP Q1 Q2 hxx hgg hn1 hn2 hl1 hl1' hl2 hl2'
   subst hP
   have T1:=t.kid s' 1 rfl rfl Q1 (by rw [<-hgg];exact List.sublist_append_left _ _) hl1 hl1' (by omega) hn1
   have T2:=t.kid s' 2 rfl rfl Q2 (by rw [<-hgg];exact List.sublist_append_right _ _) hl2 hl2' (by omega) hn2
   have hw:=weave_swap (A:=A.map Kid.xs) (B:=B.map Kid.xs) hk' hxx
   rw [List.length_map] at hw
   have hpe:(A++c1::c2::B).map (fun g=>some g.b)=(A++([Kid.mk c1.b x1' (fun y o=>F' 1 y o\/F' 4 y o\/kinF gl y o),Kid.mk c2.b x2' (fun y o=>F' 2 y o\/F' 5 y o\/kinF gr y o)]++B)).map fun g=>some g.b:=by simp
   have hwe:(A++([Kid.mk c1.b x1' (fun y o=>F' 1 y o\/F' 4 y o\/kinF gl y o),Kid.mk c2.b x2' (fun y o=>F' 2 y o\/F' 5 y o\/kinF gr y o)]++B)).map Kid.xs=A.map Kid.xs++x1'::x2'::B.map Kid.xs:=by simp
   obtain ⟨f1,f2,f3,f4⟩:=t.far
   have gF:∀ c ∈ gl++gr,∀ n,n<6->Dj c.F (F' n):=fun c hc n hn y o g k=>by
    rw [hgg] at hc
    rcases s'.s n hn y o k with k | k
    ·exact f2 c hc y o g k
    ·have:y<w.heap.size:=by
      rcases List.mem_append.1 hc with hc | hc
      ·exact t.q1.lt c hc y o g
      ·exact t.q2.lt c hc y o g
     omega
   have hd12:Dj (fun y o=>F' 1 y o\/F' 4 y o\/kinF gl y o) (fun y o=>F' 2 y o\/F' 5 y o\/kinF gr y o):=by
    intro y o g k
    rcases g with g | g | ⟨c,hc,g⟩<;>rcases k with k | k | ⟨e,he,k⟩
    ·exact s'.d 1 2 (by simp) (by simp) (by decide) y o g k
    ·exact s'.d 1 5 (by simp) (by simp) (by decide) y o g k
    ·exact gF e (by simp [he]) 1 (by decide) y o k g
    ·exact s'.d 4 2 (by simp) (by simp) (by decide) y o g k
    ·exact s'.d 4 5 (by simp) (by simp) (by decide) y o g k
    ·exact gF e (by simp [he]) 4 (by decide) y o k g
    ·exact gF c (by simp [hc]) 2 (by decide) y o g k
    ·exact gF c (by simp [hc]) 5 (by decide) y o g k
    ·rw [<-hgg] at f3
     exact (List.pairwise_append.1 f3).2.2 c hc e he y o g k
   have hls:(ks.set A.length x).length=ks.length:=List.length_set
   obtain ⟨F'',T',hF''⟩:=t.close s' rfl [Kid.mk c1.b x1' (fun y o=>F' 1 y o\/F' 4 y o\/kinF gl y o),Kid.mk c2.b x2' (fun y o=>F' 2 y o\/F' 5 y o\/kinF gr y o)] (ks':=ks.set A.length x) (lo:=ks.length-1) rfl (by rw [<-hpe];rfl)
    (by simp only [List.length_append,List.length_cons,List.length_nil];omega)
    (fun n hn=>by
     rcases List.mem_cons.1 hn with rfl | hn
     ·exact T1
     ·obtain rfl:=List.mem_singleton.1 hn;exact T2)
    (fun n hn y o g=>by
     rcases List.mem_cons.1 hn with rfl | hn
     ·rcases g with g | g | ⟨c,hc,g⟩
      ·exact .inl ⟨1,by decide,g⟩
      ·exact .inl ⟨4,by decide,g⟩
      ·exact .inr ⟨c,by rw [<-hgg];simp [hc],g⟩
     ·obtain rfl:=List.mem_singleton.1 hn
      rcases g with g | g | ⟨c,hc,g⟩
      ·exact .inl ⟨2,by decide,g⟩
      ·exact .inl ⟨5,by decide,g⟩
      ·exact .inr ⟨c,by rw [<-hgg];simp [hc],g⟩)
    (List.pairwise_pair.2 hd12) (by omega) (by omega) (by rw [hwe,<-hw,<-hmap];exact hcnt)
   rw [hwe,<-hw,<-hmap] at T'
   exact ⟨F'',T',s'.x.mono fun y o _ g=>t.six g,hF''⟩
  by_cases hgt:k2.length<k1.length
  ·obtain ⟨ls,x,rfl⟩:∃ ls x,k1=ls++[x]:=⟨k1.dropLast,k1.getLast (by intro h;rw [h] at hgt;simp at hgt),(List.dropLast_concat_getLast _).symm⟩
   obtain ⟨cg,x1',x2',gl,gr,Q1,Q2,hxx,hgg,e1,e2,e3,hg⟩:=t.q1.right (k:=k) t.q2
   have hsx:x1'.length+1+x2'.length=c1.xs.length+1+c2.xs.length:=by
    have:=congrArg List.length hxx
    simp only [List.length_append,List.length_cons] at this
    omega
   refine CallK_mono (reb_right m d b c1.b c2.b bc i0 A.length c1.xs.length c2.xs.length iso cnt ks ls k2 k x _ p1 p2 ch1 ch2 w w _ hd hd' hc hG s hj hks hk hps hp hq t.ch h1' h2' (by omega) (by omega) (by omega) hgt cg e3 (by omega) ?_) ?_
   ·rcases hg with hg | ⟨c,p',hp',hcm,hr,hself⟩
    ·exact .inl hg
    ·exact .inr ⟨c.b,p',hp',hr,far (by simp [hcm]) hself⟩
   ·rintro v w' ⟨F',K',s'⟩
    rw [List.length_append,List.length_singleton] at h1 h1' hlt hgt hsh
    exact two s' rfl Q1 Q2 hxx hgg (by rw [e1]) (by rw [e2]) (by omega) (by omega) (by rw [List.length_cons];omega) (by rw [List.length_cons];omega)
  ·obtain ⟨x,rs,rfl⟩:∃ x rs,k2=x::rs:=by
    cases k2 with
    | nil=>rw [List.length_nil] at hgt hlt;omega
    | cons x rs=>exact ⟨x,rs,rfl⟩
   obtain ⟨cg,x1',x2',gl,gr,Q1,Q2,hxx,hgg,e1,e2,e3,hg⟩:=t.q1.left (k:=k) t.q2
   have hsx:x1'.length+1+x2'.length=c1.xs.length+1+c2.xs.length:=by
    have:=congrArg List.length hxx
    simp only [List.length_append,List.length_cons] at this
    omega
   refine CallK_mono (reb_left m d b c1.b c2.b bc i0 A.length c1.xs.length c2.xs.length iso cnt ks k1 rs k x _ p1 p2 ch1 ch2 w w _ hd hd' hc hG s hj hks hk hps hp hq t.ch h1' h2' (by omega) (by omega) (by omega) (by omega) cg e3 (by omega) ?_) ?_
   ·rcases hg with hg | ⟨c,p',hp',hcm,hr,hself⟩
    ·exact .inl hg
    ·exact .inr ⟨c.b,p',hp',hr,far (by simp [hcm]) hself⟩
   ·rintro v w' ⟨F',K',s'⟩
    rw [List.length_cons] at h2 h2' hlt hgt hsh
    exact two s' rfl Q1 Q2 hxx hgg (by rw [e1]) (by rw [e2]) (by rw [List.length_append,List.length_singleton];omega) (by rw [List.length_append,List.length_singleton];omega) (by omega) (by omega)
theorem nd_len {w:World} {z b n cap:Nat} {cnt:Int} {k:List It} {ch:Value} {a:Option Addr} {F:Nat->Nat->Prop} {K:Nat} {iso:Int} (h:(ndO E iso z b cnt k ch).p w F K) (h2:rd w b 2=some (.slice a n cap)):k.length=n:=by
 obtain ⟨_,_,_,ho,_⟩:=h
 have:=ho.h2.symm.trans h2
 simp only [Option.some.injEq,Value.slice.injEq] at this
 exact this.2.1
theorem reb_shr (m d:Nat) (iso:Int) (hd:2<=d) (hd':d<=128) (hc:Cfg w m iso d) {c:Kid It} (s:Shr E iso (d-1) (2*d-1) h w b bc cnt ks A c B F0 F3 K0 K3) (hm:∀ o,¬ (F0 m o\/F3 m o\/kinF (A++c::B) m o))
  (hlen:(A++c::B).length=ks.length+1) (hk0:1<=ks.length) (hks:ks.length<=2*d-1) (hcnt:cnt=((weave ((A++c::B).map Kid.xs) ks).length:Nat)) (hbig:(weave ((A++c::B).map Kid.xs) ks).length<1152921504606846976)
  {a:Option Addr} {n cap:Nat} (hr:rd w c.b 2=some (.slice a n cap)) (hn:n<d-1) :
  CallK Try.prog 151 #[ptr m,ptr b,.int .i64 (A.length:Nat)] w fun _ w'=>∃ F'',Tr E iso (d-1) (2*d-1) (h+1) w' (ks.length-1) b (weave ((A++c::B).map Kid.xs) ks) F'' ∧
   Ext (fun y o=>F0 y o\/F3 y o\/kinF (A++c::B) y o) w w'/\∀ y o,F'' y o->(F0 y o\/F3 y o\/kinF (A++c::B) y o)\/w.heap.size<=y:=by
 obtain ⟨F1,F4,K1,K4,k1,ch1,p1,g1,n1,n4,q1,h1,h1',l1,f1⟩:=s.t.split
 have hk1:=nd_len n1 hr
 have hl:(A++c::B).length=A.length+B.length+1:=by simp;omega
 by_cases hA:A.length<ks.length
 ·cases B with
  | nil=>rw [List.length_nil] at hl;omega
  | cons c2 B =>
   obtain ⟨F2,F5,K2,K5,k2,ch2,p2,g2,n2,n5,q2,h2,h2',l2,f2⟩:=(s.rest c2 (by simp)).split
   have t:Two E iso (d-1) (2*d-1) h w b bc cnt ks A B c c2 F0 F3 K0 K3 F1 F4 K1 K4 k1 ch1 p1 g1 F2 F5 K2 K5 k2 ch2 p2 g2:=⟨s.n0,s.n3,s.l0,n1,n4,l1,f1,q1,n2,n5,l2,f2,q2,fun e he=>s.rest e (by
    rcases List.mem_append.1 he with he | he
    ·simp [he]
    ·simp [he])⟩
   exact reb_two m d A.length iso hd hd' hc t hm hlen (.inl ⟨rfl,hA⟩) hks hcnt hbig (by omega) (by omega) h1' h2' (.inl (by omega))
 ·obtain ⟨A,c0,rfl⟩:∃ A' c0,A=A'++[c0]:=⟨A.dropLast,A.getLast (by intro h;rw [h,List.length_nil] at hA;omega),(List.dropLast_concat_getLast _).symm⟩
  have hB:B=[]:=List.eq_nil_of_length_eq_zero (by omega)
  subst hB
  obtain ⟨F2,F5,K2,K5,k2,ch2,p2,g2,n2,n5,q2,h2,h2',l2,f2⟩:=(s.rest c0 (by simp)).split
  have e:A++[c0]++[c]=A++c0::c::[]:=by simp
  obtain ⟨s1,s2,s3,s4,s5⟩:=s
  rw [List.length_append,List.length_singleton] at hl hA
  rw [e] at s2 s3 hm hlen hcnt hbig ⊢
  have t:Two E iso (d-1) (2*d-1) h w b bc cnt ks A [] c0 c F0 F3 K0 K3 F2 F5 K2 K5 k2 ch2 p2 g2 F1 F4 K1 K4 k1 ch1 p1 g1:=⟨s1,s2,s3,n2,n5,l2,f2,q2,n1,n4,l1,f1,q1,fun e he=>s5 e (by
   simp at he;simp [he])⟩
  have hi:(A++[c0]).length=ks.length:=by
   rw [List.length_append,List.length_singleton]
   simp only [List.length_append,List.length_cons,List.length_nil] at hlen
   omega
  exact reb_two m d (A++[c0]).length iso hd hd' hc t hm hlen (.inr ⟨hi,by rw [<-hi];simp⟩) hks hcnt hbig (by omega) (by omega) h2' h1' (.inr (by omega))
end Go.Proofs.Ytbnnkcofnmipoaa
namespace Go.Proofs.Ytbnnkcofnmipoaa
open Go Go.Proofs
section
variable {α:Type} {E:Enc α} {iso:Int} {mn mx:Nat} {Q:α->List α->Prop}
variable {h:Nat} {w:World} {b bc:Nat} {cnt:Int} {ks:List α} {A B:List (Kid α)} {c1 c2:Kid α} {F0 F3:Nat->Nat->Prop} {K0 K3:Nat}
  {F1 F4:Nat->Nat->Prop} {K1 K4:Nat} {k1:List α} {ch1:Value} {p1:List (Option Nat)} {g1:List (Kid α)} {F2 F5:Nat->Nat->Prop} {K2 K5:Nat} {k2:List α} {ch2:Value} {p2:List (Option Nat)} {g2:List (Kid α)}
theorem Two.kidP (t:Two E iso mn mx h w b bc cnt ks A B c1 c2 F0 F3 K0 K3 F1 F4 K1 K4 k1 ch1 p1 g1 F2 F5 K2 K5 k2 ch2 p2 g2) {w':World} {P:List Ob} {F':Nat->Nat->Nat->Prop} {K':Nat->Nat}
  (s:St w (Go.Proofs.Ytbnnkcofnmipoaa.six F0 F1 F2 F3 F4 F5) w' P F' K') (i:Nat) {cb:Nat} {cnt':Int} {ks' xs':List α} {ch:Value} {ps:List (Option Nat)} {gs:List (Kid α)} (hi:P[i]? = some (ndO E iso 0 cb cnt' ks' ch)) (hj:P[i+3]? = some (kdO ch ps))
  (q:KinP E iso mn mx Q h w ch ps ks' xs' gs) (hs:gs.Sublist (g1++g2)) (h1:mn<=ks'.length) (h2:ks'.length<=mx) (h0:1<=mn) (hc:cnt'=(xs'.length:Nat)) :
  Tp E iso mn mx Q h w' mn cb xs' fun y o=>F' i y o\/F' (i+3) y o\/kinF gs y o:=by
 obtain ⟨-,f2,f3,-⟩:=t.far
 have hil:=(List.getElem?_eq_some_iff.1 hi).1
 have hjl:=(List.getElem?_eq_some_iff.1 hj).1
 have ha:∀ c ∈ gs,∀ n,n<P.length->Dj c.F (F' n):=fun c hc n hn y o g k=>by
  rcases s.s n hn y o k with k | k
  ·exact f2 c (hs.subset hc) y o g k
  ·have:=q.1.lt c hc y o g;omega
 exact Tp.join (s.o i _ hi) (s.o (i+3) _ hj) (q.ext s.x fun c hc=>f2 c (hs.subset hc)) h1 h2 (.inl (by omega)) ⟨s.d i (i+3) hil hjl (by omega),fun c hc=>ha c hc i hil,fun c hc=>ha c hc (i+3) hjl,f3.sublist hs,s.r i hjl⟩ hc
theorem Two.closeP (t:Two E iso mn mx h w b bc cnt ks A B c1 c2 F0 F3 K0 K3 F1 F4 K1 K4 k1 ch1 p1 g1 F2 F5 K2 K5 k2 ch2 p2 g2) {w':World} {P:List Ob} {F':Nat->Nat->Nat->Prop} {K':Nat->Nat}
  (s:St w (Go.Proofs.Ytbnnkcofnmipoaa.six F0 F1 F2 F3 F4 F5) w' P F' K') (hP:P.length=6) (new:List (Kid α)) {ks':List α} {lo:Nat} (h0:P[0]? = some (ndO E iso 1 b cnt ks' (ptr bc))) (h3:P[3]? = some (kdO (ptr bc) ((A++(new++B)).map fun g=>some g.b)))
  (hl:(A++(new++B)).length=ks'.length+1) (hT:∀ n ∈ new,Tp E iso mn mx Q h w' mn n.b n.xs n.F) (hR:∀ c ∈ A++B,Tp E iso mn mx Q h w mn c.b c.xs c.F) (hN:NP Q ((A++(new++B)).map Kid.xs) ks') (hF:∀ n ∈ new,∀ y o,n.F y o->(∃ i,(i=1\/i=2\/i=4\/i=5)/\F' i y o)\/kinF (g1++g2) y o)
  (h2:new.Pairwise fun c d=>Dj c.F d.F) (hlo:lo<=ks'.length) (hmx:ks'.length<=mx) (hc:cnt=((weave ((A++(new++B)).map Kid.xs) ks').length:Nat)) :
  ∃ F'',Tp E iso mn mx Q (h+1) w' lo b (weave ((A++(new++B)).map Kid.xs) ks') F''/\∀ y o,F'' y o->(F0 y o\/F3 y o\/kinF (A++c1::c2::B) y o)\/w.heap.size<=y:=by
 obtain ⟨f1,f2,f3,f4⟩:=t.far
 obtain ⟨-,-,a3⟩:=t.apart
 have hlt:∀ c ∈ A++B,∀ y o,c.F y o->y<w.heap.size:=fun c hc=>(t.rest c hc).lt
 have glt:∀ c ∈ g1++g2,∀ y o,c.F y o->y<w.heap.size:=fun c hc=>by
  rcases List.mem_append.1 hc with hc | hc
  ·exact t.q1.lt c hc
  ·exact t.q2.lt c hc
 have oldF:∀ c ∈ A++B,∀ n,n<6->Dj c.F (F' n):=fun c hc n hn y o g k=>by
  rcases s.s n (by omega) y o k with k | k
  ·exact f1 c hc y o g k
  ·have:=hlt c hc y o g;omega
 have gF:∀ n,n<6->Dj (kinF (g1++g2)) (F' n):=fun n hn y o g k=>by
  obtain ⟨c,hc,g⟩:=g
  rcases s.s n (by omega) y o k with k | k
  ·exact f2 c hc y o g k
  ·have:=glt c hc y o g;omega
 have newF:∀ c ∈ new,∀ n,n=0\/n=3->Dj c.F (F' n):=fun c hc n hn y o g k=>by
  rcases hF c hc y o g with ⟨i,hi,g⟩ | g
  ·exact s.d i n (by omega) (by omega) (by omega) y o g k
  ·exact gF n (by omega) y o g k
 have oldN:∀ a ∈ A++B,∀ c ∈ new,Dj a.F c.F:=fun a ha c hc y o g k=>by
  rcases hF c hc y o k with ⟨i,hi,k⟩ | ⟨e,he,k⟩
  ·exact oldF a ha i (by omega) y o g k
  ·exact f4 a ha e he y o g k
 have hmem:∀ c ∈ A++(new++B),c ∈ A++B\/c ∈ new:=fun c hc=>by
  rcases List.mem_append.1 hc with h | h
  ·exact .inl (by simp [h])
  ·rcases List.mem_append.1 h with h | h
   ·exact .inr h
   ·exact .inl (by simp [h])
 obtain ⟨p1,p2,p3⟩:=List.pairwise_append.1 a3
 refine ⟨_,Tp.join (s.o 0 _ h0) (s.o 3 _ h3) ⟨.inr ⟨h,rfl,⟨bc,rfl⟩,rfl,hl,rfl,fun c hc=>?_⟩,fun c hc h' hh=>?_,hN⟩ hlo hmx (.inr (Nat.le_refl _)) ⟨s.d 0 3 (by omega) (by omega) (by decide),fun c hc=>?_,fun c hc=>?_,?_,s.r 0 (by omega)⟩ hc,fun y o g=>?_⟩
 ·rcases hmem c hc with h | h
  ·exact (t.rest c h).ext s.x (f1 c h)
  ·exact (hT c h).tr
 ·obtain rfl:h=h':=by omega
  rcases hmem c hc with h | h
  ·exact (hR c h).ext s.x (f1 c h)
  ·exact hT c h
 ·rcases hmem c hc with h | h
  ·exact oldF c h 0 (by decide)
  ·exact newF c h 0 (.inl rfl)
 ·rcases hmem c hc with h | h
  ·exact oldF c h 3 (by decide)
  ·exact newF c h 3 (.inr rfl)
 ·refine List.pairwise_append.2 ⟨p1,List.pairwise_append.2 ⟨h2,p2,fun c hc d hd=>(oldN d (by simp [hd]) c hc).symm⟩,fun c hc d hd=>?_⟩
  rcases List.mem_append.1 hd with hd | hd
  ·exact oldN c (by simp [hc]) d hd
  ·exact p3 c hc d hd
 ·have six_sub:∀ y o,Go.Proofs.Ytbnnkcofnmipoaa.six F0 F1 F2 F3 F4 F5 y o->F0 y o\/F3 y o\/kinF (A++c1::c2::B) y o:=fun y o g=>by
   rcases g with g | g | g | g | g | g
   ·exact .inl g
   ·exact .inr (.inr ⟨c1,by simp,(t.f1 y o).2 (.inl g)⟩)
   ·exact .inr (.inr ⟨c2,by simp,(t.f2 y o).2 (.inl g)⟩)
   ·exact .inr (.inl g)
   ·exact .inr (.inr ⟨c1,by simp,(t.f1 y o).2 (.inr (.inl g))⟩)
   ·exact .inr (.inr ⟨c2,by simp,(t.f2 y o).2 (.inr (.inl g))⟩)
  have put:∀ n,n<6->F' n y o->(F0 y o\/F3 y o\/kinF (A++c1::c2::B) y o)\/w.heap.size<=y:=fun n hn g=>(s.s n (by omega) y o g).imp (six_sub y o) id
  rcases g with g | g | ⟨c,hc,g⟩
  ·exact put 0 (by decide) g
  ·exact put 3 (by decide) g
  ·rcases hmem c hc with hm | hm
   ·refine .inl (.inr (.inr ⟨c,?_,g⟩))
    rcases List.mem_append.1 hm with h | h
    ·simp [h]
    ·simp [h]
   ·rcases hF c hm y o g with ⟨i,hi,g⟩ | ⟨e,he,g⟩
    ·exact put i (by omega) g
    ·rcases List.mem_append.1 he with he | he
     ·exact .inl (.inr (.inr ⟨c1,by simp,(t.f1 y o).2 (.inr (.inr ⟨e,he,g⟩))⟩))
     ·exact .inl (.inr (.inr ⟨c2,by simp,(t.f2 y o).2 (.inr (.inr ⟨e,he,g⟩))⟩))
end
section
variable {h:Nat} {w:World} {b bc:Nat} {cnt:Int} {ks:List It} {A B:List (Kid It)} {c1 c2:Kid It} {F0 F3:Nat->Nat->Prop} {K0 K3:Nat}
  {F1 F4:Nat->Nat->Prop} {K1 K4:Nat} {k1:List It} {ch1:Value} {p1:List (Option Nat)} {g1:List (Kid It)} {F2 F5:Nat->Nat->Prop} {K2 K5:Nat} {k2:List It} {ch2:Value} {p2:List (Option Nat)} {g2:List (Kid It)}
variable {Q:It->List It->Prop}
set_option maxHeartbeats 1000000 in
theorem reb_twoP (m d i0:Nat) (iso:Int) (hd:2<=d) (hd':d<=128) (hc:Cfg w m iso d) (t:Two E iso (d-1) (2*d-1) h w b bc cnt ks A B c1 c2 F0 F3 K0 K3 F1 F4 K1 K4 k1 ch1 p1 g1 F2 F5 K2 K5 k2 ch2 p2 g2)
  (hm:∀ o,¬ (F0 m o\/F3 m o\/kinF (A++c1::c2::B) m o)) (hlen:(A++c1::c2::B).length=ks.length+1) (hj:(i0=A.length/\A.length<ks.length)\/(i0=ks.length/\A.length+1=ks.length)) (hks:ks.length<=2*d-1)
  (hcnt:cnt=((weave ((A++c1::c2::B).map Kid.xs) ks).length:Nat)) (hbig:(weave ((A++c1::c2::B).map Kid.xs) ks).length<1152921504606846976) (h1:d-2<=k1.length) (h2:d-2<=k2.length) (h1':k1.length<=2*d-1) (h2':k2.length<=2*d-1)
  (hsh:k1.length<d-1\/k2.length<d-1) (hA:Anti Q) (K1P:KinP E iso (d-1) (2*d-1) Q h w ch1 p1 k1 c1.xs g1) (K2P:KinP E iso (d-1) (2*d-1) Q h w ch2 p2 k2 c2.xs g2) (hR:∀ c ∈ A++B,Tp E iso (d-1) (2*d-1) Q h w (d-1) c.b c.xs c.F)
  (hN:NP Q ((A++c1::c2::B).map Kid.xs) ks) (hV:∀ k,0<A.length->ks[A.length-1]? = some k->∀ S,(∀ s ∈ S,s ∈ c1.xs\/ks[A.length]? = some s\/s ∈ c2.xs)->Q k S) (hVx:k2.length<d-1->∀ x ∈ c1.xs,∀ S,(∀ s ∈ S,s ∈ c1.xs\/ks[A.length]? = some s\/s ∈ c2.xs)->Q x S) (hL:k1.length<d-1->∀ l x r,c2.xs=l++x::r->Q x r) :
  CallK Try.prog 151 #[ptr m,ptr b,.int .i64 (i0:Nat)] w fun _ w'=>∃ F'',Tp E iso (d-1) (2*d-1) Q (h+1) w' (ks.length-1) b (weave ((A++c1::c2::B).map Kid.xs) ks) F'' ∧
   Ext (fun y o=>F0 y o\/F3 y o\/kinF (A++c1::c2::B) y o) w w'/\∀ y o,F'' y o->(F0 y o\/F3 y o\/kinF (A++c1::c2::B) y o)\/w.heap.size<=y:=by
 have hAk:A.length<ks.length:=by omega
 obtain ⟨k,hk⟩:∃ k,ks[A.length]? = some k:=⟨_,List.getElem?_eq_getElem hAk⟩
 have s:=t.init
 have hmap0:(A++c1::c2::B).map Kid.xs=A.map Kid.xs++c1.xs::c2.xs::B.map Kid.xs:=by simp
 have hkP:Q k c2.xs:=hN A.length k c2.xs hk (by simp)
 rw [hmap0] at hN
 have hlmA:(A.map Kid.xs).length=A.length:=List.length_map ..
 have hG:∀ o,¬ six F0 F1 F2 F3 F4 F5 m o:=fun o g=>hm o (t.six g)
 have hp:((A++c1::c2::B).map fun g=>some g.b)[A.length]? = some (some c1.b):=by simp
 have hq:((A++c1::c2::B).map fun g=>some g.b)[A.length+1]? = some (some c2.b):=by simp
 have hps:((A++c1::c2::B).map fun g=>some g.b).length=ks.length+1:=by rw [List.length_map];exact hlen
 have hmap:(A++c1::c2::B).map Kid.xs=A.map Kid.xs++c1.xs::c2.xs::B.map Kid.xs:=by simp
 have hk':ks[(A.map Kid.xs).length]? = some k:=by rw [List.length_map];exact hk
 have hx1:c1.xs.length<1152921504606846976/\c2.xs.length<1152921504606846976:=by
  have e1:=weave_mem_length ((A++c1::c2::B).map Kid.xs) ks (by rw [List.length_map];exact hlen) c1.xs (by simp)
  have e2:=weave_mem_length ((A++c1::c2::B).map Kid.xs) ks (by rw [List.length_map];exact hlen) c2.xs (by simp)
  omega
 have hlA:(A++c1::c2::B).length=A.length+B.length+2:=by simp;omega
 have far:∀ {c:Kid It},c ∈ g1++g2->(∀ o,c.F c.b o)->∀ o,¬ six F0 F1 F2 F3 F4 F5 c.b o:=fun hc hs o g=>t.far.2.1 _ hc _ o (hs o) g
 by_cases hlt:k1.length+k2.length<2*d-1
 ·refine CallK_mono (reb_merge m d b c1.b c2.b bc i0 A.length c1.xs.length c2.xs.length iso cnt ks k1 k2 k _ p1 p2 ch1 ch2 w w _ hd hd' hc hG s hj hks hk hps hp hq t.ch h1' h2' (by omega) (by omega) hlt) ?_
  rintro v w' hs
  have X:=hs.x
  obtain ⟨F',K',s'⟩:=hs
  have q:=K1P.merge hA (k:=k) K2P hkP
  have hw:=weave_two (A.map Kid.xs) (B.map Kid.xs) c1.xs c2.xs ks k hk'
  rw [List.length_map] at hw
  have hle:=List.length_eraseIdx_of_lt hAk
  have T:=t.kidP s' 1 rfl rfl q (List.Sublist.refl _) (by simp;omega) (by simp;omega) (by omega) (by simp<;>omega)
  have hpe:((A++c1::c2::B).map fun g=>some g.b).eraseIdx (A.length+1)=(A++([Kid.mk c1.b (c1.xs++k::c2.xs) (fun y o=>F' 1 y o\/F' 4 y o\/kinF (g1++g2) y o)]++B)).map fun g=>some g.b:=by
   rw [map_erase,List.eraseIdx_append_of_length_le (by omega)]
   simp
  have hwe:(A++([Kid.mk c1.b (c1.xs++k::c2.xs) (fun y o=>F' 1 y o\/F' 4 y o\/kinF (g1++g2) y o)]++B)).map Kid.xs=A.map Kid.xs++(c1.xs++k::c2.xs)::B.map Kid.xs:=by simp
  obtain ⟨F'',T',hF''⟩:=t.closeP s' rfl [Kid.mk c1.b (c1.xs++k::c2.xs) (fun y o=>F' 1 y o\/F' 4 y o\/kinF (g1++g2) y o)] (ks':=ks.eraseIdx A.length) (lo:=ks.length-1) rfl (by rw [<-hpe];rfl)
   (by simp only [List.length_append,List.length_cons,List.length_nil];omega) (fun n hn=>by obtain rfl:=List.mem_singleton.1 hn;exact T) hR (by
    rw [hwe,<-hlmA]
    refine hN.merge fun k' h0 hk'=>hV k' (by rwa [List.length_map] at h0) (by rwa [List.length_map] at hk') _ fun s hs=>?_
    rcases List.mem_append.1 hs with hs | hs
    ·exact .inl hs
    ·rcases List.mem_cons.1 hs with rfl | hs
     ·exact .inr (.inl hk)
     ·exact .inr (.inr hs))
   (fun n hn y o g=>by
    obtain rfl:=List.mem_singleton.1 hn
    rcases g with g | g | g
    ·exact .inl ⟨1,.inl rfl,g⟩
    ·exact .inl ⟨4,by decide,g⟩
    ·exact .inr g) (List.pairwise_singleton _ _) (by omega) (by omega) (by rw [hwe,<-hw,<-hmap];exact hcnt)
  rw [hwe,<-hw,<-hmap] at T'
  exact ⟨F'',T',X.mono fun y o _ g=>t.six g,hF''⟩
 ·have two:∀ {w':World} {F':Nat->Nat->Nat->Prop} {K':Nat->Nat} {P:List Ob} {x:It} {x1' x2' l1 l2:List It} {q1 q2:List (Option Nat)} {gl gr:List (Kid It)} {n1 n2:Int},St w (six F0 F1 F2 F3 F4 F5) w' P F' K' →
    P=[ndO E iso 1 b cnt (ks.set A.length x) (ptr bc),ndO E iso 0 c1.b n1 l1 ch1,ndO E iso 0 c2.b n2 l2 ch2,kdO (ptr bc) ((A++c1::c2::B).map fun g=>some g.b),kdO ch1 q1,kdO ch2 q2] →
    KinP E iso (d-1) (2*d-1) Q h w ch1 q1 l1 x1' gl->KinP E iso (d-1) (2*d-1) Q h w ch2 q2 l2 x2' gr->Q x x2'->c1.xs++k::c2.xs=x1'++x::x2'->gl++gr=g1++g2->n1=(x1'.length:Nat)->n2=(x2'.length:Nat) →
    d-1<=l1.length->l1.length<=2*d-1->d-1<=l2.length->l2.length<=2*d-1 →
    ∃ F'',Tp E iso (d-1) (2*d-1) Q (h+1) w' (ks.length-1) b (weave ((A++c1::c2::B).map Kid.xs) ks) F'' ∧
     Ext (fun y o=>F0 y o\/F3 y o\/kinF (A++c1::c2::B) y o) w w'/\∀ y o,F'' y o->(F0 y o\/F3 y o\/kinF (A++c1::c2::B) y o)\/w.heap.size<=y:=by
   intro w' F' K' P x x1' x2' l1 l2 q1 q2 gl gr n1 n2 s' hP Q1 Q2 hQx hxx hgg hn1 hn2 hl1 hl1' hl2 hl2'
   subst hP
   have T1:=t.kidP s' 1 rfl rfl Q1 (by rw [<-hgg];exact List.sublist_append_left _ _) hl1 hl1' (by omega) hn1
   have T2:=t.kidP s' 2 rfl rfl Q2 (by rw [<-hgg];exact List.sublist_append_right _ _) hl2 hl2' (by omega) hn2
   have hmem:∀ s ∈ x1'++x::x2',s ∈ c1.xs\/ks[A.length]? = some s\/s ∈ c2.xs:=fun s hs=>by
    rw [<-hxx] at hs
    rcases List.mem_append.1 hs with hs | hs
    ·exact .inl hs
    ·rcases List.mem_cons.1 hs with rfl | hs
     ·exact .inr (.inl hk)
     ·exact .inr (.inr hs)
   have hw:=weave_swap (A:=A.map Kid.xs) (B:=B.map Kid.xs) hk' hxx
   rw [List.length_map] at hw
   have hpe:(A++c1::c2::B).map (fun g=>some g.b)=(A++([Kid.mk c1.b x1' (fun y o=>F' 1 y o\/F' 4 y o\/kinF gl y o),Kid.mk c2.b x2' (fun y o=>F' 2 y o\/F' 5 y o\/kinF gr y o)]++B)).map fun g=>some g.b:=by simp
   have hwe:(A++([Kid.mk c1.b x1' (fun y o=>F' 1 y o\/F' 4 y o\/kinF gl y o),Kid.mk c2.b x2' (fun y o=>F' 2 y o\/F' 5 y o\/kinF gr y o)]++B)).map Kid.xs=A.map Kid.xs++x1'::x2'::B.map Kid.xs:=by simp
   obtain ⟨f1,f2,f3,f4⟩:=t.far
   have gF:∀ c ∈ gl++gr,∀ n,n<6->Dj c.F (F' n):=fun c hc n hn y o g k=>by
    rw [hgg] at hc
    rcases s'.s n hn y o k with k | k
    ·exact f2 c hc y o g k
    ·have:y<w.heap.size:=by
      rcases List.mem_append.1 hc with hc | hc
      ·exact t.q1.lt c hc y o g
      ·exact t.q2.lt c hc y o g
     omega
   have hd12:Dj (fun y o=>F' 1 y o\/F' 4 y o\/kinF gl y o) (fun y o=>F' 2 y o\/F' 5 y o\/kinF gr y o):=by
    intro y o g k
    rcases g with g | g | ⟨c,hc,g⟩<;>rcases k with k | k | ⟨e,he,k⟩
    ·exact s'.d 1 2 (by simp) (by simp) (by decide) y o g k
    ·exact s'.d 1 5 (by simp) (by simp) (by decide) y o g k
    ·exact gF e (by simp [he]) 1 (by decide) y o k g
    ·exact s'.d 4 2 (by simp) (by simp) (by decide) y o g k
    ·exact s'.d 4 5 (by simp) (by simp) (by decide) y o g k
    ·exact gF e (by simp [he]) 4 (by decide) y o k g
    ·exact gF c (by simp [hc]) 2 (by decide) y o g k
    ·exact gF c (by simp [hc]) 5 (by decide) y o g k
    ·rw [<-hgg] at f3
     exact (List.pairwise_append.1 f3).2.2 c hc e he y o g k
   have hls:(ks.set A.length x).length=ks.length:=List.length_set
   obtain ⟨F'',T',hF''⟩:=t.closeP s' rfl [Kid.mk c1.b x1' (fun y o=>F' 1 y o\/F' 4 y o\/kinF gl y o),Kid.mk c2.b x2' (fun y o=>F' 2 y o\/F' 5 y o\/kinF gr y o)] (ks':=ks.set A.length x) (lo:=ks.length-1) rfl (by rw [<-hpe];rfl)
    (by simp only [List.length_append,List.length_cons,List.length_nil];omega)
    (fun n hn=>by
     rcases List.mem_cons.1 hn with rfl | hn
     ·exact T1
     ·obtain rfl:=List.mem_singleton.1 hn;exact T2) hR (by
     rw [hwe,<-hlmA]
     refine hN.swap (fun k' h0 hk''=>hV k' (by rwa [List.length_map] at h0) (by rwa [List.length_map] at hk'') _ fun s hs=>hmem s (by simp [hs])) hQx)
    (fun n hn y o g=>by
     rcases List.mem_cons.1 hn with rfl | hn
     ·rcases g with g | g | ⟨c,hc,g⟩
      ·exact .inl ⟨1,by decide,g⟩
      ·exact .inl ⟨4,by decide,g⟩
      ·exact .inr ⟨c,by rw [<-hgg];simp [hc],g⟩
     ·obtain rfl:=List.mem_singleton.1 hn
      rcases g with g | g | ⟨c,hc,g⟩
      ·exact .inl ⟨2,by decide,g⟩
      ·exact .inl ⟨5,by decide,g⟩
      ·exact .inr ⟨c,by rw [<-hgg];simp [hc],g⟩)
    (List.pairwise_pair.2 hd12) (by omega) (by omega) (by rw [hwe,<-hw,<-hmap];exact hcnt)
   rw [hwe,<-hw,<-hmap] at T'
   exact ⟨F'',T',s'.x.mono fun y o _ g=>t.six g,hF''⟩
  by_cases hgt:k2.length<k1.length
  ·obtain ⟨ls,x,rfl⟩:∃ ls x,k1=ls++[x]:=⟨k1.dropLast,k1.getLast (by intro h;rw [h] at hgt;simp at hgt),(List.dropLast_concat_getLast _).symm⟩
   obtain ⟨cg,x1',x2',gl,gr,Q1,Q2,hxx,hgg,-,hxm,e1,e2,e3,hg⟩:=K1P.right hA (k:=k) K2P hkP
   have hsx:x1'.length+1+x2'.length=c1.xs.length+1+c2.xs.length:=by
    have:=congrArg List.length hxx
    simp only [List.length_append,List.length_cons] at this
    omega
   refine CallK_mono (reb_right m d b c1.b c2.b bc i0 A.length c1.xs.length c2.xs.length iso cnt ks ls k2 k x _ p1 p2 ch1 ch2 w w _ hd hd' hc hG s hj hks hk hps hp hq t.ch h1' h2' (by omega) (by omega) (by omega) hgt cg e3 (by omega) ?_) ?_
   ·rcases hg with hg | ⟨c,p',hp',hcm,hr,hself⟩
    ·exact .inl hg
    ·exact .inr ⟨c.b,p',hp',hr,far (by simp [hcm]) hself⟩
   ·rintro v w' ⟨F',K',s'⟩
    rw [List.length_append,List.length_singleton] at h1 h1' hlt hgt hsh
    exact two s' rfl Q1 Q2 (hVx (by omega) x hxm _ fun s hs=>by
     have:s ∈ c1.xs++k::c2.xs:=by rw [hxx];simp [hs]
     rcases List.mem_append.1 this with hs | hs
     ·exact .inl hs
     ·rcases List.mem_cons.1 hs with rfl | hs
      ·exact .inr (.inl hk)
      ·exact .inr (.inr hs)) hxx hgg (by rw [e1]) (by rw [e2]) (by omega) (by omega) (by rw [List.length_cons];omega) (by rw [List.length_cons];omega)
  ·obtain ⟨x,rs,rfl⟩:∃ x rs,k2=x::rs:=by
    cases k2 with
    | nil=>rw [List.length_nil] at hgt hlt;omega
    | cons x rs=>exact ⟨x,rs,rfl⟩
   obtain ⟨cg,x1',x2',gl,gr,Q1,Q2,hxx,hgg,⟨l,hl⟩,e1,e2,e3,hg⟩:=K1P.left hA (k:=k) K2P hkP
   have hsx:x1'.length+1+x2'.length=c1.xs.length+1+c2.xs.length:=by
    have:=congrArg List.length hxx
    simp only [List.length_append,List.length_cons] at this
    omega
   refine CallK_mono (reb_left m d b c1.b c2.b bc i0 A.length c1.xs.length c2.xs.length iso cnt ks k1 rs k x _ p1 p2 ch1 ch2 w w _ hd hd' hc hG s hj hks hk hps hp hq t.ch h1' h2' (by omega) (by omega) (by omega) (by omega) cg e3 (by omega) ?_) ?_
   ·rcases hg with hg | ⟨c,p',hp',hcm,hr,hself⟩
    ·exact .inl hg
    ·exact .inr ⟨c.b,p',hp',hr,far (by simp [hcm]) hself⟩
   ·rintro v w' ⟨F',K',s'⟩
    rw [List.length_cons] at h2 h2' hlt hgt hsh
    exact two s' rfl Q1 Q2 (hL (by omega) l x x2' hl) hxx hgg (by rw [e1]) (by rw [e2]) (by rw [List.length_append,List.length_singleton];omega) (by rw [List.length_append,List.length_singleton];omega) (by omega) (by omega)
set_option maxHeartbeats 1000000 in
theorem reb_shrP (m d:Nat) (iso:Int) (hd:2<=d) (hd':d<=128) (hc:Cfg w m iso d) {c:Kid It} (s:Shr E iso (d-1) (2*d-1) h w b bc cnt ks A c B F0 F3 K0 K3) (hm:∀ o,¬ (F0 m o\/F3 m o\/kinF (A++c::B) m o))
  (hlen:(A++c::B).length=ks.length+1) (hk0:1<=ks.length) (hks:ks.length<=2*d-1) (hcnt:cnt=((weave ((A++c::B).map Kid.xs) ks).length:Nat)) (hbig:(weave ((A++c::B).map Kid.xs) ks).length<1152921504606846976)
  {a:Option Addr} {n cap:Nat} (hr:rd w c.b 2=some (.slice a n cap)) (hn:n<d-1) (hQ:Anti Q) (sT:Tp E iso (d-1) (2*d-1) Q h w (d-1-1) c.b c.xs c.F) (sR:∀ a ∈ A++B,Tp E iso (d-1) (2*d-1) Q h w (d-1) a.b a.xs a.F) (hN:NP Q ((A++c::B).map Kid.xs) ks)
  (hV:∀ k,0<A.length->ks[A.length-1]? = some k->∀ S,Q k S) (hVA:∀ a ∈ A,∀ x ∈ a.xs,∀ S,Q x S) (hV2:∀ k,1<A.length->ks[A.length-2]? = some k->∀ S,Q k S) (hL:∀ c2 B',B=c2::B'->∀ l x r,c2.xs=l++x::r->Q x r) :
  CallK Try.prog 151 #[ptr m,ptr b,.int .i64 (A.length:Nat)] w fun _ w'=>∃ F'',Tp E iso (d-1) (2*d-1) Q (h+1) w' (ks.length-1) b (weave ((A++c::B).map Kid.xs) ks) F'' ∧
   Ext (fun y o=>F0 y o\/F3 y o\/kinF (A++c::B) y o) w w'/\∀ y o,F'' y o->(F0 y o\/F3 y o\/kinF (A++c::B) y o)\/w.heap.size<=y:=by
 obtain ⟨F1,F4,K1,K4,k1,ch1,p1,g1,n1,n4,q1,h1,h1',l1,f1⟩:=sT.split
 have hk1:=nd_len n1 hr
 have hl:(A++c::B).length=A.length+B.length+1:=by simp;omega
 by_cases hA:A.length<ks.length
 ·cases B with
  | nil=>rw [List.length_nil] at hl;omega
  | cons c2 B =>
   obtain ⟨F2,F5,K2,K5,k2,ch2,p2,g2,n2,n5,q2,h2,h2',l2,f2⟩:=(sR c2 (by simp)).split
   have t:Two E iso (d-1) (2*d-1) h w b bc cnt ks A B c c2 F0 F3 K0 K3 F1 F4 K1 K4 k1 ch1 p1 g1 F2 F5 K2 K5 k2 ch2 p2 g2:=⟨s.n0,s.n3,s.l0,n1,n4,l1,f1,q1.1,n2,n5,l2,f2,q2.1,fun e he=>s.rest e (by
    rcases List.mem_append.1 he with he | he
    ·simp [he]
    ·simp [he])⟩
   exact reb_twoP m d A.length iso hd hd' hc t hm hlen (.inl ⟨rfl,hA⟩) hks hcnt hbig (by omega) (by omega) h1' h2' (.inl (by omega)) hQ q1 q2 (fun e he=>sR e (by
    rcases List.mem_append.1 he with he | he
    ·simp [he]
    ·simp [he])) hN (fun k h0 hk S _=>hV k h0 hk S) (fun h=>by omega) fun _=>hL c2 B rfl
 ·obtain ⟨A,c0,rfl⟩:∃ A' c0,A=A'++[c0]:=⟨A.dropLast,A.getLast (by intro h;rw [h,List.length_nil] at hA;omega),(List.dropLast_concat_getLast _).symm⟩
  have hB:B=[]:=List.eq_nil_of_length_eq_zero (by omega)
  subst hB
  obtain ⟨F2,F5,K2,K5,k2,ch2,p2,g2,n2,n5,q2,h2,h2',l2,f2⟩:=(sR c0 (by simp)).split
  have e:A++[c0]++[c]=A++c0::c::[]:=by simp
  obtain ⟨s1,s2,s3,s4,s5⟩:=s
  rw [List.length_append,List.length_singleton] at hl hA
  rw [e] at s2 s3 hm hlen hcnt hbig hN ⊢
  have t:Two E iso (d-1) (2*d-1) h w b bc cnt ks A [] c0 c F0 F3 K0 K3 F2 F5 K2 K5 k2 ch2 p2 g2 F1 F4 K1 K4 k1 ch1 p1 g1:=⟨s1,s2,s3,n2,n5,l2,f2,q2.1,n1,n4,l1,f1,q1.1,fun e he=>s5 e (by
   simp at he;simp [he])⟩
  have hi:(A++[c0]).length=ks.length:=by
   rw [List.length_append,List.length_singleton]
   simp only [List.length_append,List.length_cons,List.length_nil] at hlen
   omega
  exact reb_twoP m d (A++[c0]).length iso hd hd' hc t hm hlen (.inr ⟨hi,by rw [<-hi];simp⟩) hks hcnt hbig (by omega) (by omega) h2' h1' (.inr (by omega)) hQ q2 q1 (fun e he=>sR e (by
   simp at he;simp [he])) hN (fun k h0 hk S _=>hV2 k (by simp;omega) (by simpa using hk) S) (fun _ x hx S _=>hVA c0 (by simp) x hx S) fun h=>by omega
end
end Go.Proofs.Ytbnnkcofnmipoaa
namespace Go.Proofs.Ytbnnkcofnmipoaa
open Go
section
variable {α R:Type} (O:SOrd R) (κ:α->R)
def delR (mx:Bool) (q:R) (xs:List α):Option (α × List α) :=
 if mx=true then xs.getLast?.map fun y=>(y,xs.dropLast) else (at? O κ q xs).map fun y=>(y,del O κ q xs)
variable {O κ}
theorem delR_max {q:R} {A m:List α} (hm:m ≠ []):delR O κ true q (A++m)=(delR O κ true q m).map fun p=>(p.1,A++p.2):=by
 simp only [delR,↓reduceIte]
 obtain ⟨l,x,rfl⟩:∃ l x,m=l++[x]:=⟨m.dropLast,m.getLast hm,(List.dropLast_concat_getLast hm).symm⟩
 rw [<-List.append_assoc,List.getLast?_concat,List.getLast?_concat,List.dropLast_concat,List.dropLast_concat]
 rfl
theorem delR_last {q:R} {l:List α} {x:α}:delR O κ true q (l++[x])=some (x,l):=by
 simp only [delR,↓reduceIte,List.getLast?_concat,List.dropLast_concat,Option.map_some]
theorem delR_key {A C:List α} {k:α} (ha:Asc O κ (A++k::C)):delR O κ false (κ k) (A++k::C)=some (k,A++C):=by
 obtain ⟨h1,h2⟩:=found_mid O κ ha
 have h3:(A++k::C)[A.length]? = some k:=by simp
 simp only [delR,at?,del,h2,h1,↓reduceIte,h3,Option.map_some,Bool.false_eq_true]
 rw [List.eraseIdx_append_of_length_le (Nat.le_refl _)]
 simp
theorem delR_leaf {q:R} {xs:List α} {k:α} (hh:hit O κ q xs=true) (hk:xs[lb O κ q xs]? = some k):delR O κ false q xs=some (k,xs.eraseIdx (lb O κ q xs)):=by
 simp only [delR,at?,del,hh,↓reduceIte,hk,Option.map_some,Bool.false_eq_true]
theorem delR_miss {q:R} {xs:List α} (hh:hit O κ q xs=false):delR O κ false q xs=none:=by
 simp only [delR,at?,hh,↓reduceIte,Option.map_none,Bool.false_eq_true]
theorem delR_mid {q:R} {a m c:List α} (ha:∀ x ∈ a,O.lt (κ x) q=true) (hc:∀ x ∈ c.head?,O.lt q (κ x)=true):delR O κ false q (a++m++c)=(delR O κ false q m).map fun p=>(p.1,a++p.2++c):=by
 cases hh:hit O κ q m with
 | false=>rw [delR_miss hh,delR_miss (by rw [hit_mid O κ ha hc];exact hh)];rfl
 | true =>
  obtain ⟨k,hk,_⟩:=hit_at O κ hh
  have hl:=lb_mid O κ (q:=q) (a:=a) (m:=m) (c:=c) ha fun x hx=>O.asym (hc x hx)
  have hi:=(List.getElem?_eq_some_iff.1 hk).1
  rw [delR_leaf hh hk,delR_leaf (k:=k) (by rw [hit_mid O κ ha hc];exact hh) (by
   rw [hl,List.append_assoc,List.getElem?_append_right (by omega),Nat.add_sub_cancel_left,List.getElem?_append_left hi];exact hk),hl]
  simp only [Option.map_some,List.append_assoc]
  rw [List.eraseIdx_append_of_length_le (by omega),Nat.add_sub_cancel_left,List.eraseIdx_append_of_lt_length hi]
theorem delR_len {mx:Bool} {q:R} {xs ys:List α} {y:α} (h:delR O κ mx q xs=some (y,ys)):ys.length+1=xs.length:=by
 cases mx with
 | true =>
  rcases List.eq_nil_or_concat xs with rfl | ⟨l,x,rfl⟩
  ·simp [delR] at h
  ·rw [List.concat_eq_append,delR_last] at h
   cases h
   simp
 | false =>
  cases hh:hit O κ q xs with
  | false=>rw [delR_miss hh] at h;cases h
  | true =>
   obtain ⟨k,hk,_⟩:=hit_at O κ hh
   have hi:=(List.getElem?_eq_some_iff.1 hk).1
   rw [delR_leaf hh hk] at h
   cases h
   rw [List.length_eraseIdx_of_lt hi];omega
theorem delR_asc {mx:Bool} {q:R} {xs ys:List α} {y:α} (ha:Asc O κ xs) (h:delR O κ mx q xs=some (y,ys)):Asc O κ ys:=by
 cases mx with
 | true =>
  rcases List.eq_nil_or_concat xs with rfl | ⟨l,x,rfl⟩
  ·simp [delR] at h
  ·rw [List.concat_eq_append,delR_last] at h
   rw [List.concat_eq_append] at ha
   cases h
   exact ((Asc.append O κ).1 ha).1
 | false =>
  cases hh:hit O κ q xs with
  | false=>rw [delR_miss hh] at h;cases h
  | true =>
   obtain ⟨k,hk,_⟩:=hit_at O κ hh
   rw [delR_leaf hh hk] at h
   cases h
   exact ha.sublist (List.eraseIdx_sublist _ _)
theorem weave_end:∀ (L:List (List α)) (ks:List α),L.length=ks.length->∃ A,∀ c,weave (L++[c]) ks=A++c
 | [],[],_=>⟨[],fun _=>rfl⟩
 | [],_::_,h=>by simp at h
 | _::_,[],h=>by simp at h
 | a::L,k::ks,h=>by
  obtain ⟨A,hA⟩:=weave_end L ks (by simpa using h)
  exact ⟨a++k::A,fun c=>by rw [List.cons_append,weave_cons,hA];simp⟩
theorem weave_ahead {L B:List (List α)} {ks:List α} {k:α} (hk:ks[L.length]? = some k):∃ A C,∀ c y,weave (L++c::B) (ks.set L.length y)=A++c++y::C:=by
 have hi:=(List.getElem?_eq_some_iff.1 hk).1
 obtain ⟨A,hA⟩:=weave_end L (ks.take L.length) (by rw [List.length_take];omega)
 refine ⟨A,weave B (ks.drop (L.length+1)),fun c y=>?_⟩
 rw [List.set_eq_take_append_cons_drop,if_pos hi,<-hA c]
 have:=weave_cat (L++[c]) B (ks.take L.length) (ks.drop (L.length+1)) y (by rw [List.length_append,List.length_take,List.length_singleton];omega)
 rw [List.append_assoc] at this
 exact this
end
end Go.Proofs.Ytbnnkcofnmipoaa
namespace Go.Proofs.Ytbnnkcofnmipoaa
open Go Go.Proofs
def DelQ (ord:List Int) (d:Nat) (iso:Int) (h lo b:Nat) (xs:List It) (mx:Bool) (x:It) (hp:Option Nat) (F:Nat->Nat->Prop) (w:World) (v:Value) (w':World):Prop :=
 Ext (fun y o=>F y o\/hF hp y o) w w'/\HOk hp w'/\∃ F':Nat->Nat->Prop,(∀ y o,F' y o->F y o\/w.heap.size<=y) ∧
  ((delR O (rkI ord) mx (rkI ord x) xs=none/\v = .tuple #[itV zIt,.bool false]/\Tr E iso (d-1) (2*d-1) h w' lo b xs F') ∨
   ∃ y ys,delR O (rkI ord) mx (rkI ord x) xs=some (y,ys)/\v = .tuple #[itV y,.bool true]/\Tr E iso (d-1) (2*d-1) h w' (lo-1) b ys F')
theorem dz_it:zK Try.prog 33=some (E.cel zIt):=by kernel_rfl
theorem dsrch (ord:List Int) (ks:List It) (x:It):srchG ord ks x = .tuple #[.int .i64 (lb O (rkI ord) (rkI ord x) ks:Nat),.bool (hit O (rkI ord) (rkI ord x) ks)]:=id (Eq.trans rfl rfl)
theorem dropL {α:Type} {l:List α} (h:0<l.length):l.eraseIdx (l.length-1)=l.dropLast:=by
 rw [List.eraseIdx_eq_take_drop_succ,List.drop_eq_nil_of_le (by omega),List.append_nil,List.dropLast_eq_take]
set_option maxHeartbeats 8000000 in
set_option maxRecDepth 8000 in
theorem del_any (B m d:Nat) (iso:Int) (ord:List Int) (hd:2<=d) (hd':d<=128):∀ (h lo b:Nat) (xs:List It) (F:Nat->Nat->Prop) (w:World) (pc po:Nat) (mx:Bool) (x:It) (hp:Option Nat) (dep:Nat),Cfg w m iso d->Ls B m w ord →
  (∀ y o,F y o->m<y)->dep+h<1152921504606846976->1<=lo->Tr E iso (d-1) (2*d-1) h w lo b xs F->Asc O (rkI ord) xs->xs.length<1152921504606846976->rd w pc po=some (ptr b)->HOk hp w->(∀ hb,hp=some hb->m<hb/\∀ o,¬ F hb o) →
  CallK Try.prog 126 #[ptr m,.pointer (some ⟨pc,po,none⟩),.bool mx,itV x,hV hp,.int .i64 dep] w (DelQ ord d iso h lo b xs mx x hp F w):=by
 intro h
 induction h using Nat.strongRecOn with
 | _ h ihh =>
 intro lo b xs F w pc po mx x hp dep hc hL hBF hdep hlo ht ha hbig hpp hH hHF
 obtain ⟨bi,oi,cap,ks,ch,ho,hl1,hl2,hoF,hin⟩:=ht.open
 have hbl:=wok_lt ho.wb
 have hbil:=wok_lt ho.wi
 have hml:=wok_lt hc.wok
 have hcap:=ho.le
 have hm:∀ o,¬ F m o:=fun o g=>by have:=hBF m o g;omega
 have hFh:∀ y o,F y o->¬ hF hp y o:=fun y o g k=>(hHF y k).2 o g
 have hHl:∀ y o,hF hp y o->y<w.heap.size:=fun y o g=>wok_lt (hH y g).wok
 have hmh:∀ o,¬ hF hp m o:=fun o g=>by have:=(hHF m g).1;omega
 have hak:Asc O (rkI ord) ks:=by
  rcases hin with ⟨_,_,hx,_⟩ | ⟨_,_,_,_,_,cs,_,_,n⟩
  ·rw [<-hx];exact ha
  ·refine List.Pairwise.sublist ?_ ha
   rw [n.eq];exact weave_sub _ _ (by simpa using n.len)
 have hkb:ks.length<4611686018427387904:=Nat.lt_of_le_of_lt hl2 (by clear hin hoF hFh;omega)
 have hch:∃ cc,ch = .pointer cc:=by
  rcases hin with ⟨_,h,_⟩ | ⟨_,bc,_,_,_,_,_,h,_⟩
  ·exact ⟨_,h⟩
  ·exact ⟨_,h⟩
 obtain ⟨cc,hcc⟩:=hch
 refine calls_of_W [.cell 12 33,.tmp 13] Try.func126 rfl Try.ntmps126 Try.results126 (by simp) fun e he=>?_
 have e0:e 0=ptr m:=he 0 _ rfl
 have e1:e 1 = .pointer (some ⟨pc,po,none⟩):=he 1 _ rfl
 have e2:e 2 = .bool mx:=he 2 _ rfl
 have e3:e 3=itV x:=he 3 _ rfl
 have e4:e 4=hV hp:=he 4 _ rfl
 have e5:e 5 = .int .i64 dep:=he 5 _ rfl
 clear he
 refine W_sq fun K hK=>(W_text [false,false,true] (by kernel_rfl) ?_);simp only [↓zZ1,↓reduceIte,Nat.reduceEqDiff,rg,ow_126]
 refine do_box (by simp only [evt];exact e3) fun w1 n1=>⟨trivial,?_⟩
 simp only [↓zZ1,↓reduceIte,Nat.reduceEqDiff,rg,ow_126]
 refine do_alloc dz_it fun w2 n2=>⟨trivial,?_⟩
 simp only [↓zZ1,↓reduceIte,Nat.reduceEqDiff,rg,ow_126]
 apply hK;clear hK K
 have X2:Ext noF w w2:=n1.ext.tr n2.ext
 have rk2:Row w2 w.heap.size 0 (E.cel x):=n2.ext.row n1.row fun _ _ g=>g
 have s1:=n1.size
 have s2:=n2.size
 obtain ⟨r0,hr0⟩:∃ r0,r0=w1.heap.size:=⟨_,rfl⟩
 have wr2:wok w2 r0 2:=by rw [hr0];exact n2.wok
 have hr0':r0=w.heap.size+1:=by omega
 rw [<-hr0]
 clear hr0
 have p2:=X2.rd hpp fun g=>g
 have i2:=X2.rd hc.iso fun g=>g
 have b2:=X2.rd ho.h0 fun g=>g
 refine W_sq fun K hK=>(W_text [true,true,false,true] (by kernel_rfl) ?_);simp only [↓zZ1,↓reduceIte,Nat.reduceEqDiff,rg,ow_126,e0,e1]
 refine do_call fn_96 (by simp only [zZ2,Nat.reduceEqDiff,↓reduceIte,zZ4]<;>rfl) (isoLoad_any m pc po b true iso w2 i2 p2 b2) ?_
 rintro _ w3 ⟨rfl,r3⟩
 refine ⟨trivial,?_⟩
 simp only [↓zZ1,↓reduceIte,Nat.reduceEqDiff,rg,ow_126]
 apply hK;clear hK K
 have x3:Ext noF w2 w3:=r3.ext
 have X3:Ext noF w w3:=X2.tr x3
 have rk3:=x3.row rk2 fun _ _ g=>g
 have wr3:=x3.wok wr2
 have s3:=x3.size
 have hs3:w.heap.size+2<=w3.heap.size:=by omega
 clear n1 n2 X2 rk2 wr2 s1 x3 r3 p2 i2 b2
 refine W_sq fun K hK=>(W_text [true] (by kernel_rfl) ?_);simp only [↓zZ1,↓reduceIte,Nat.reduceEqDiff,rg,ow_126]
 apply hK;clear hK K
 refine W_sq fun K hK=>(W_text [true] (by kernel_rfl) ?_);simp only [↓zZ1,↓reduceIte,Nat.reduceEqDiff,rg,ow_126]
 apply hK;clear hK K
 refine W_sqx fun J hJ=>?_
 have hend:∀ (e:Env) (w3:World) (fnd:Bool) (i:Nat),((mx=true/\fnd=true/\i=ks.length-1)\/(mx=false/\i=lb O (rkI ord) (rkI ord x) ks/\fnd=hit O (rkI ord) (rkI ord x) ks))->Ext (hF hp) w w3->HOk hp w3->Row w3 w.heap.size 0 (E.cel x)->wok w3 r0 2->w.heap.size+2<=w3.heap.size →
   e 0=ptr m->e 2 = .bool mx->e 4=hV hp->e 5 = .int .i64 dep->e 9=ptr w.heap.size->e 12=ptr r0->e 14=ptr b->e 15 = .int .i64 i->e 16 = .bool fnd->J e w3:=by
  clear e0 e1 e2 e3 e4 e5 X3 rk3 wr3 s2 s3 hs3
  clear e w3
  intro e w3 fnd i hfi X3 hH3 rk3 wr3 s3 e0 e2 e4 e5 e9 e12 e14 e15 e16
  refine hJ _ _ ?_;clear hJ J
  have o3:=ho.ext X3 fun y o g=>hFh y o (hoF y o g)
  have c3:=hc.ext X3 fun o _ _=>hmh o
  refine W_seq ?_
  rcases (id hin:_\/_) with ⟨rfl,hcn,hxk,hFo⟩ | ⟨h',bc,ba,oa,capc,cs,rfl,hcn,n⟩
  ·have hxk:=hxk.symm
   subst hxk
   rw [hcn] at o3
   refine W_sq fun K hK=>(W_text [true,false] (by kernel_rfl) ?_);simp only [↓zZ1,↓reduceIte,Nat.reduceEqDiff,rg,ow_126,e14]
   refine do_call fn_108 (by simp only [zZ2,Nat.reduceEqDiff,↓reduceIte,zZ4]<;>rfl) (leaf_any b none w3 o3.h3) ?_
   rintro _ w4 ⟨rfl,hw4⟩
   obtain rfl:w3=w4:=hw4.symm
   refine ⟨trivial,?_⟩
   simp only [↓zZ1,↓reduceIte,Nat.reduceEqDiff,rg,ow_126]
   apply hK;clear hK K
   refine W_true (by simp only [zZ2,Nat.reduceEqDiff,↓reduceIte,zZ3]<;>rfl) (W_seq ?_)
   refine W_sq fun K hK=>(W_text [true] (by kernel_rfl) ?_);simp only [↓zZ1,↓reduceIte,Nat.reduceEqDiff,rg,ow_126,e16]
   apply hK;clear hK K
   cases fnd with
   | false =>
    refine W_false (by simp only [zZ2,Nat.reduceEqDiff,↓reduceIte,zZ3]<;>rfl) (W_skip ?_)
    show W _ _ _ _ _ _
    have z3:=zIt_at c3
    refine W_sq fun K hK=>(W_text [true,true,true,true,false,true] (by kernel_rfl) ?_);simp only [↓zZ1,↓reduceIte,Nat.reduceEqDiff,rg,ow_126,e0,ptr_eq,z3]
    refine do_store (by simp only [zZ2,Nat.reduceEqDiff,↓reduceIte];exact e12) (by simp only [zZ2,Nat.reduceEqDiff,↓reduceIte,zZ3]<;>rfl) sz_33 (rb_len zIt) wr3 (by decide) (rb_oc zIt) fun w5 x5 r5 s5=>⟨trivial,?_⟩
    simp only [↓zZ1,↓reduceIte,Nat.reduceEqDiff,rg,ow_126]
    apply hK;clear hK K
    obtain ⟨hmx,hi,hh⟩:mx=false/\i=lb O (rkI ord) (rkI ord x) ks/\false=hit O (rkI ord) (rkI ord x) ks:=by
     rcases hfi with ⟨_,h,_⟩ | h
     ·cases h
     ·exact h
    subst hmx
    have X5:Ext (hF hp) w w5:=X3.trans x5 (fun _ _ g=>g) fun y o hy g=>by simp only [rng] at g;omega
    refine W_ret (endQ_ct e12 (by simp only [upd_eq,Nat.reduceEqDiff,↓reduceIte]<;>rfl) ld_33 (iX_at (show Row w5 r0 0 (E.cel zIt) from r5)) ⟨X5.mono fun _ _ _ g=>.inr g,hH3.ext x5 (fun hb hh o g=>?_),F,fun _ _ g=>.inl g,.inl ⟨delR_miss hh.symm,rfl,ht.ext X5 hFh⟩⟩)
    have:=hHl hb 0 hh
    simp only [rng] at g;omega
   | true =>
    refine W_true (by simp only [zZ2,Nat.reduceEqDiff,↓reduceIte,zZ3]<;>rfl) ?_
    have hi:i<ks.length:=by
     rcases hfi with ⟨_,_,h⟩ | ⟨_,h,hh⟩
     ·omega
     ·obtain ⟨k,hk,_⟩:=hit_at O (rkI ord) hh.symm
      rw [h];exact (List.getElem?_eq_some_iff.1 hk).1
    obtain ⟨k,hk⟩:∃ k,ks[i]? = some k:=⟨_,List.getElem?_eq_getElem hi⟩
    have hdel:delR O (rkI ord) mx (rkI ord x) ks=some (k,ks.eraseIdx i):=by
     rcases hfi with ⟨rfl,_,h⟩ | ⟨rfl,h,hh⟩
     ·have:ks=ks.dropLast++[k]:=by
       conv=>lhs;rw [<-List.dropLast_concat_getLast (l:=ks) (by intro h;rw [h] at hi;simp at hi)]
       congr 2
       rw [List.getLast_eq_getElem]
       subst h
       exact (List.getElem?_eq_some_iff.1 hk).2
      rw [h,dropL (by omega)]
      conv=>lhs;rw [this]
      exact delR_last
     ·rw [h] at hk ⊢
      exact delR_leaf hh.symm hk
    have hkv:=it_at o3.row hk
    refine W_sq fun K hK=>(W_text [true,true,true,true,true,true,true,false,false] (by kernel_rfl) ?_);simp only [↓zZ1,↓reduceIte,Nat.reduceEqDiff,rg,ow_126,e14,e15,ptr_eq,o3.h2,hi,hkv]
    refine do_alloc dz_it fun w4 n4=>⟨trivial,?_⟩
    simp only [↓zZ1,↓reduceIte,Nat.reduceEqDiff,rg,ow_126]
    refine do_store (by simp only [zZ2,Nat.reduceEqDiff,↓reduceIte,zZ3]<;>rfl) (by simp only [zZ2,Nat.reduceEqDiff,↓reduceIte,zZ3]<;>rfl) sz_33 (rb_len k) n4.wok (by decide) (rb_oc k) fun w5 x5 r5 s5=>⟨trivial,?_⟩
    simp only [↓zZ1,↓reduceIte,Nat.reduceEqDiff,rg,ow_126]
    apply hK;clear hK K
    have s4:=n4.size
    have X5:Ext noF w3 w5:=noF_of n4.ext x5 fun y o hy g=>by simp only [rng] at g;omega
    obtain ⟨q,hq⟩:∃ q,q=w3.heap.size:=⟨_,rfl⟩
    rw [<-hq] at r5 ⊢
    have rq5:Row w5 q 0 (E.cel k):=r5
    have o5:=o3.ext X5 fun _ _ _ g=>g
    have hqo:∀ o,¬ ownF E b bi oi cap q o:=fun o g=>by have:=ho.lt g;omega
    have hro:∀ o,¬ ownF E b bi oi cap r0 o:=fun o g=>by have:=ho.lt g;omega
    have hmo:∀ o,¬ ownF E b bi oi cap m o:=fun o g=>hm o (hoF _ _ g)
    have q1:=wadd1 i (by omega)
    have i1:i<=ks.length:=by omega
    have i2:i+1<=ks.length:=by omega
    obtain ⟨o1,h1,h1',-,k1⟩:=o5.se.from E_sz i i1
    obtain rfl:=h1' (by omega)
    obtain ⟨o2,h2,-,v2,-⟩:=o5.se.from E_sz (i+1) i2
    refine W_sq fun K hK=>(W_draw (some none) (some 13) [(0,0,0),(0,1,0),(0,2,0),(0,3,0),(0,4,0),(0,5,0),(0,6,0),(0,7,0),(0,8,0),(0,9,0),(0,10,0),(0,11,0),(0,12,0),(1,13,0)] mixed (by kernel_rfl) ?_);simp only [↓zZ1,↓reduceIte,Nat.reduceEqDiff,rg,ow_126,e14,e15,ptr_eq,o5.h2,q1,i1,i2,h1,h2]
    refine do_copy (by simp only [zZ2,Nat.reduceEqDiff,↓reduceIte,zZ3]<;>rfl) (by simp only [zZ2,Nat.reduceEqDiff,↓reduceIte,zZ3]<;>rfl) rb_eli (SlV.ext0 v2 (Ext.dr noF w5 (w5.drawn+1))) ((Ext.dr noF w5 (w5.drawn+1)).wok k1) (flat_oc E _) fun w6 x6 r6 s6=>⟨(by first | exact trivial | exact .inl trivial),?_⟩
    simp only [↓zZ1,↓reduceIte,Nat.reduceEqDiff,rg,ow_126]
    apply hK;clear hK K
    have hmn:min (ks.length-(i+1)) (ks.length-i)=ks.length-1-i:=by omega
    rw [hmn] at x6 r6
    rw [List.take_of_length_le (by rw [flat_length,List.length_drop,E_sz];omega)] at r6
    obtain ⟨z,g1,g2⟩:=o5.se.down (i:=i) hi x6.od r6
    have o6:=o5.step g1 g2
    have X6:Ext (ownF E b bi oi cap) w3 w6:=X5.trans g2 (fun _ _ g=>g.elim) fun _ _ _ g=>seF_own g
    have le:=List.length_eraseIdx_of_lt hi
    have hA:(ks.eraseIdx i++[z]).length=ks.length:=by rw [List.length_append,List.length_singleton];omega
    have h26:=o6.h2
    have h46:=o6.le
    rw [hA] at h26 h46
    have q2:=wsub1 ks.length (by omega) (by omega)
    have i3:ks.length-1<ks.length:=by omega
    have z6:=zIt_at (c3.ext X6 fun o _ _=>hmo o)
    refine W_sq fun K hK=>(W_draw (some none) (some 15) [(0,0,0),(0,1,0),(0,2,0),(0,3,0),(0,4,0),(0,5,0),(0,6,0),(0,7,0),(0,8,0),(0,9,0),(0,10,0),(0,11,0),(0,12,0),(0,13,0),(0,14,0),(1,15,0)] mixed (by kernel_rfl) ?_);simp only [↓zZ1,↓reduceIte,Nat.reduceEqDiff,rg,ow_126,e0,e14,ptr_eq,h26,q2,i3,z6]
    refine do_store (by simp only [zZ2,Nat.reduceEqDiff,↓reduceIte,zZ3]<;>rfl) (by simp only [zZ2,Nat.reduceEqDiff,↓reduceIte,zZ3]<;>rfl) sz_33 (rb_len zIt) o6.wi (by rw [E_sz];omega) (rb_oc zIt) fun w7 x7 r7 s7=>⟨(by first | exact trivial | exact .inl trivial),?_⟩
    simp only [↓zZ1,↓reduceIte,Nat.reduceEqDiff,rg,ow_126]
    apply hK;clear hK K
    obtain ⟨g3,g4⟩:=o6.se.set (i:=ks.length-1) (x:=zIt) (by rw [hA];omega) x7.od r7
    rw [show (ks.eraseIdx i++[z]).set (ks.length-1) zIt=ks.eraseIdx i++[zIt] by rw [show ks.length-1=(ks.eraseIdx i).length by omega];exact set_last] at g3
    have o7:=o6.step g3 g4
    have X7:Ext (ownF E b bi oi cap) w3 w7:=X6.tr (g4.mono fun _ _ _ g=>seF_own g)
    have hA':(ks.eraseIdx i++[zIt]).length=ks.length:=by rw [List.length_append,List.length_singleton];omega
    have h27:=o7.h2
    rw [hA'] at h27
    have i4:ks.length-1<=cap:=by omega
    refine W_sq fun K hK=>(W_draw (some none) (some 14) [(0,0,0),(0,1,0),(0,2,0),(0,3,0),(0,4,0),(0,5,0),(0,6,0),(0,7,0),(0,8,0),(0,9,0),(0,10,0),(0,11,0),(0,12,0),(0,13,0),(1,14,0)] mixed (by kernel_rfl) ?_);simp only [↓zZ1,↓reduceIte,Nat.reduceEqDiff,rg,ow_126,e14,ptr_eq,h27,q2,i4]
    refine do_store (by simp only [zZ2,Nat.reduceEqDiff,↓reduceIte,zZ3]<;>rfl) (by simp only [zZ2,Nat.reduceEqDiff,↓reduceIte,zZ3]<;>rfl) sz_25 rfl o7.wb (by decide) (oc_one rfl rfl) fun w8 x8 r8 s8=>⟨(by first | exact trivial | exact .inl trivial),?_⟩
    simp only [↓zZ1,↓reduceIte,Nat.reduceEqDiff,rg,ow_126]
    apply hK;clear hK K
    obtain ⟨g5,g6⟩:=o7.se.cut x8.od (by rw [le];exact (Row.cons.1 r8).1)
    have o8:=o7.step g5 g6
    have X8:Ext (ownF E b bi oi cap) w3 w8:=X7.tr (g6.mono fun _ _ _ g=>seF_own g)
    refine W_sq fun K hK=>(W_text [true,true,true,true,true,true,true,false] (by kernel_rfl) ?_);simp only [↓zZ1,↓reduceIte,Nat.reduceEqDiff,rg,ow_126,e14,ptr_eq,o8.h1,q2]
    refine do_store (by simp only [zZ2,Nat.reduceEqDiff,↓reduceIte,zZ3]<;>rfl) (by simp only [zZ2,Nat.reduceEqDiff,↓reduceIte,zZ3]<;>rfl) sz_3 rfl o8.wb (by decide) (oc_one rfl rfl) fun w9 x9 r9 s9=>⟨trivial,?_⟩
    simp only [↓zZ1,↓reduceIte,Nat.reduceEqDiff,rg,ow_126]
    apply hK;clear hK K
    have o9:=o8.cnt' x9 (Row.cons.1 r9).1
    have X9:Ext (ownF E b bi oi cap) w3 w9:=X8.tr (x9.mono fun _ _ _ g=>.inl g.1)
    have sz9:=X9.size
    have Y9:Ext (ownF E b bi oi cap) w5 w9:=(((g2.mono fun _ _ _ g=>seF_own g).tr (g4.mono fun _ _ _ g=>seF_own g)).tr (g6.mono fun _ _ _ g=>seF_own g)).tr (x9.mono fun _ _ _ g=>.inl g.1)
    have kq9:=iX_at (Y9.row rq5 fun j _=>hqo _)
    refine W_sq fun K hK=>(W_text [true,false,true] (by kernel_rfl) ?_);simp only [↓zZ1,↓reduceIte,Nat.reduceEqDiff,rg,ow_126,kq9]
    refine do_store (by simp only [zZ2,Nat.reduceEqDiff,↓reduceIte];exact e12) (by simp only [zZ2,Nat.reduceEqDiff,↓reduceIte,zZ3]<;>rfl) sz_33 (rb_len k) (X9.wok wr3) (by decide) (rb_oc k) fun w10 x10 r10 s10=>⟨trivial,?_⟩
    simp only [↓zZ1,↓reduceIte,Nat.reduceEqDiff,rg,ow_126]
    apply hK;clear hK K
    have X10:Ext (fun y o=>F y o\/hF hp y o) w w10:=(X3.trans X9 (fun _ _ g=>.inr g) fun y o _ g=>.inl (hoF y o g)).trans x10 (fun _ _ g=>g) fun y o hy g=>by simp only [rng] at g;omega
    have H10:HOk hp w10:=(hH3.ext X9 fun hb hh o g=>(hHF hb hh).2 o (hoF _ _ g)).ext x10 fun hb hh o g=>by
     have:=hHl hb 0 hh
     simp only [rng] at g;omega
    refine W_ret (endQ_ct e12 (by simp only [upd_eq,Nat.reduceEqDiff,↓reduceIte]<;>rfl) ld_33 (iX_at (show Row w10 r0 0 (E.cel k) from r10)) ⟨X10,H10,F,fun _ _ g=>.inl g,.inr ⟨k,ks.eraseIdx i,hdel,rfl,bi,oi,cap,?_,by omega,by omega,hFo⟩⟩)
    have o10:=o9.ext x10 fun y o g h=>by
     simp only [rng] at h
     exact hro o (by rw [<-h.1];exact g)
    rw [le]
    exact o10
  ·rw [hcn] at o3
   have hkF:∀ y o,kidF bc ba oa capc y o->F y o:=fun y o g=>(n.fp y o).2 (.inr (.inl g))
   have hcF:∀ c ∈ cs,∀ y o,c.F y o->F y o:=fun c hc y o g=>(n.fp y o).2 (.inr (.inr ⟨c,hc,g⟩))
   have n3:=n.ext X3 (fun y o g=>hFh y o (hkF y o g)) fun c hc y o g=>hFh y o (hcF c hc y o g)
   refine W_sq fun K hK=>(W_text [true,false] (by kernel_rfl) ?_);simp only [↓zZ1,↓reduceIte,Nat.reduceEqDiff,rg,ow_126,e14]
   refine do_call fn_108 (by simp only [zZ2,Nat.reduceEqDiff,↓reduceIte,zZ4]<;>rfl) (leaf_any b (some ⟨bc,0,none⟩) w3 o3.h3) ?_
   rintro _ w4 ⟨rfl,hw4⟩
   obtain rfl:w3=w4:=hw4.symm
   refine ⟨trivial,?_⟩
   simp only [↓zZ1,↓reduceIte,Nat.reduceEqDiff,rg,ow_126]
   apply hK;clear hK K
   refine W_false (by simp only [zZ2,Nat.reduceEqDiff,↓reduceIte,zZ3]<;>rfl) (W_skip ?_)
   show W _ _ _ _ _ _
   refine W_sq fun K hK=>(W_text [false] (by kernel_rfl) ?_);simp only [↓zZ1,↓reduceIte,Nat.reduceEqDiff,rg,ow_126]
   refine do_alloc dz_it fun w4 n4=>⟨trivial,?_⟩
   simp only [↓zZ1,↓reduceIte,Nat.reduceEqDiff,rg,ow_126]
   apply hK;clear hK K
   refine W_sq fun K hK=>(W_text [true] (by kernel_rfl) ?_);simp only [↓zZ1,↓reduceIte,Nat.reduceEqDiff,rg,ow_126]
   apply hK;clear hK K
   obtain ⟨q,hq⟩:∃ q,q=w3.heap.size:=⟨_,rfl⟩
   have wq4:wok w4 q 2:=by rw [hq];exact n4.wok
   have s4:=n4.size
   have x4:Ext noF w3 w4:=n4.ext
   rw [<-hq]
   have X4:Ext (hF hp) w w4:=X3.trans x4 (fun _ _ g=>g) fun _ _ _ g=>g.elim
   have H4:=hH3.ext0 x4
   have rk4:=x4.row rk3 fun _ _ g=>g
   have wr4:=x4.wok wr3
   have hs4:w.heap.size+3<=w4.heap.size:=by omega
   have hqs:w.heap.size+2<=q/\q<w4.heap.size:=by omega
   have o4:=o3.ext x4 fun _ _ _ g=>g
   have nn:=n3.ext x4 (fun _ _ _ g=>g) fun _ _ _ _ _ g=>g
   have hrq:r0 ≠ q:=by omega
   clear n3 o3 c3 X3 hH3 rk3 wr3 s3 n4 x4 s4 hq
   refine W_sqx fun J hJ=>?_
   have hyes:∀ (e:Env) (w5:World) (y:It) (A Bq:List (Kid It)) (c:Kid It) (ks' ys:List It) (F0 F3:Nat->Nat->Prop) (K0 K3:Nat),Shr E iso (d-1) (2*d-1) h' w5 b bc (xs.length:Nat) ks' A c Bq F0 F3 K0 K3->ks'.length=ks.length->(A++c::Bq).length=ks'.length+1 →
     ys=weave ((A++c::Bq).map Kid.xs) ks'->delR O (rkI ord) mx (rkI ord x) xs=some (y,ys)->Ext (fun y o=>F y o\/hF hp y o) w w5->HOk hp w5->(∀ y o,(F0 y o\/F3 y o\/kinF (A++c::Bq) y o)->F y o\/w.heap.size<=y)->Row w5 q 0 (E.cel y)->wok w5 r0 2 →
     (∀ o,¬ (F0 q o\/F3 q o\/kinF (A++c::Bq) q o))->(∀ o,¬ (F0 r0 o\/F3 r0 o\/kinF (A++c::Bq) r0 o)) →
     e 0=ptr m->e 12=ptr r0->e 14=ptr b->e 15 = .int .i64 (A.length:Nat)->e 18=ptr q->e 19 = .bool true->J e w5:=by
    clear e0 e2 e4 e5 e9 e12 e14 e15 e16 X4 H4 rk4 wr4 wq4 o4 nn
    clear e
    intro e w5 y A Bq c ks' ys F0 F3 K0 K3 sh hkl hlen hys hdel X5 H5 hFs rq5 wr5 hqF hrF e0 e12 e14 e15 e18 e19
    refine hJ _ _ ?_;clear hJ J
    have hyl:=delR_len hdel
    refine W_seq ?_
    refine W_sq fun K hK=>(W_text [true,true] (by kernel_rfl) ?_);simp only [↓zZ1,↓reduceIte,Nat.reduceEqDiff,rg,ow_126,e19]
    apply hK;clear hK K
    refine W_false (by simp only [zZ2,Nat.reduceEqDiff,↓reduceIte,zZ3]<;>rfl) (W_skip ?_)
    show W _ _ _ _ _ _
    obtain ⟨bi',oi',cap',o5,hz,hK,hF0⟩:=sh.n0
    have q1:=wsub1 xs.length (by omega) (by omega)
    refine W_sq fun K hK=>(W_text [true,true,true,true,true,true,true,false] (by kernel_rfl) ?_);simp only [↓zZ1,↓reduceIte,Nat.reduceEqDiff,rg,ow_126,e14,ptr_eq,o5.h1,q1]
    refine do_store (by simp only [zZ2,Nat.reduceEqDiff,↓reduceIte,zZ3]<;>rfl) (by simp only [zZ2,Nat.reduceEqDiff,↓reduceIte,zZ3]<;>rfl) sz_3 rfl o5.wb (by decide) (oc_one rfl rfl) fun w6 x6 r6 s6=>⟨trivial,?_⟩
    simp only [↓zZ1,↓reduceIte,Nat.reduceEqDiff,rg,ow_126]
    apply hK;clear hK K
    have hb0:∀ y o,rng b 1 1 y o->F0 y o:=fun y o g=>(hF0 y o).2 (.inl g.1)
    have x6':Ext F0 w5 w6:=x6.mono fun y o _ g=>hb0 y o g
    have sh6:Shr E iso (d-1) (2*d-1) h' w6 b bc (ys.length:Nat) ks' A c Bq F0 F3 K0 K3:=⟨⟨bi',oi',cap',by rw [show ys.length=xs.length-1 by omega];exact o5.cnt' x6 (Row.cons.1 r6).1,hz,hK,hF0⟩,
     (kdO _ _).loc sh.n3 x6' sh.l0.d.symm,sh.l0,sh.t.ext x6' (sh.l0.g1 c (by simp)),fun a ha=>(sh.rest a ha).ext x6' (sh.l0.g1 a (by
      rcases List.mem_append.1 ha with ha | ha
      ·simp [ha]
      ·simp [ha]))⟩
    have X6:Ext (fun y o=>F y o\/hF hp y o) w w6:=X5.trans x6' (fun _ _ g=>g) fun y o hy g=>by
     rcases hFs y o (.inl g) with h | h
     ·exact .inl h
     ·omega
    have H6:HOk hp w6:=H5.ext x6' fun hb hh o g=>by
     rcases hFs hb o (.inl g) with h | h
     ·exact (hHF hb hh).2 o h
     ·have:=hHl hb 0 hh;omega
    have rq6:=x6'.row rq5 fun j _ g=>hqF _ (.inl g)
    have wr6:=x6'.wok wr5
    clear sh o5 X5 H5 rq5 wr5 x6 r6 s6 x6' hb0 q1 hz hK hF0
    have hmF:∀ o,¬ (F0 m o\/F3 m o\/kinF (A++c::Bq) m o):=fun o g=>by
     rcases hFs m o g with h | h
     ·exact hm o h
     ·omega
    have c6:=hc.ext X6 fun o _ _ g=>g.elim (hm o) (hmh o)
    refine W_sqx fun J hJ=>?_
    have hfin:∀ (e:Env) (w7:World) (F'':Nat->Nat->Prop),Tr E iso (d-1) (2*d-1) (h'+1) w7 (lo-1) b ys F''->Ext (fun y o=>F0 y o\/F3 y o\/kinF (A++c::Bq) y o) w6 w7->(∀ y o,F'' y o->(F0 y o\/F3 y o\/kinF (A++c::Bq) y o)\/w6.heap.size<=y) →
      e 12=ptr r0->e 18=ptr q->J e w7:=by
     clear e0 e12 e14 e15 e18 e19
     clear e
     intro e w7 F'' T7 x7 hF'' e12 e18
     refine hJ _ _ ?_;clear hJ J
     have rq7:=x7.row rq6 fun j _ g=>hqF _ g
     have kq7:=iX_at rq7
     have s6:=X6.size
     have s7:=x7.size
     refine W_sq fun K hK=>(W_text [true,false,true] (by kernel_rfl) ?_);simp only [↓zZ1,↓reduceIte,Nat.reduceEqDiff,rg,ow_126,e18,ptr_eq,kq7]
     refine do_store (by simp only [zZ2,Nat.reduceEqDiff,↓reduceIte];exact e12) (by simp only [zZ2,Nat.reduceEqDiff,↓reduceIte,zZ3]<;>rfl) sz_33 (rb_len y) (x7.wok wr6) (by decide) (rb_oc y) fun w8 x8 r8 s8=>⟨trivial,?_⟩
     simp only [↓zZ1,↓reduceIte,Nat.reduceEqDiff,rg,ow_126]
     apply hK;clear hK K
     have hold:∀ y o,(F0 y o\/F3 y o\/kinF (A++c::Bq) y o)->y<w.heap.size->F y o:=fun y o g hy=>(hFs y o g).resolve_right (by omega)
     refine W_ret (endQ_ct e12 (by simp only [upd_eq,Nat.reduceEqDiff,↓reduceIte]<;>rfl) ld_33 (iX_at (show Row w8 r0 0 (E.cel y) from r8)) ⟨(X6.trans x7 (fun _ _ g=>g) fun y o hy g=>.inl (hold y o g hy)).trans x8 (fun _ _ g=>g) fun y o hy g=>by simp only [rng] at g;omega,
      (H6.ext x7 fun hb hh o g=>?_).ext x8 fun hb hh o g=>?_,F'',fun y o g=>?_,.inr ⟨y,ys,hdel,rfl,T7.ext x8 fun y o g k=>?_⟩⟩)
     ·have:=hHl hb 0 hh
      exact (hHF hb hh).2 o (hold hb o g this)
     ·have:=hHl hb 0 hh
      simp only [rng] at g;omega
     ·rcases hF'' y o g with g | g
      ·exact hFs y o g
      ·exact .inr (by omega)
     ·simp only [rng] at k
      rcases hF'' y o g with g | g
      ·exact hrF o (by rw [<-k.1];exact g)
      ·have:=wok_lt wr6
       omega
    obtain ⟨a,nk,capn,hkn,hk1,hk2,hraise⟩:=sh6.t.keys
    obtain ⟨bi',oi',cap',o6,hz,hK,hF0⟩:=sh6.n0
    rcases sh6.n3 with ⟨h,_⟩ | ⟨bc',ba',oa',capc',hbc,k6,_,_⟩
    ·cases h
    obtain rfl:bc=bc':=by simpa [ptr] using hbc
    have hil:A.length<((A++c::Bq).map fun g=>some g.b).length:=by simp
    have hcp:=k6.ptr_at (j:=A.length) (p:=c.b) (by simp)
    by_cases hsh:nk<d-1
    ·have hb:decide ((nk:Int)<((d-1:Nat):Int))=true:=by simp only [decide_eq_true_eq];omega
     refine W_sq fun K hK=>(W_draw (some none) none [(0,0,0),(0,1,0),(0,2,0),(0,3,0),(0,4,0),(0,5,0),(0,6,0),(0,7,0),(0,8,0),(0,9,0),(0,10,0),(0,11,0),(0,12,0),(0,13,0),(0,14,0),(0,15,0),(0,16,0),(0,17,0)] mixed (by kernel_rfl) ?_);simp only [↓zZ1,↓reduceIte,Nat.reduceEqDiff,rg,ow_126,e0,e14,e15,ptr_eq,o6.h3,k6.hd,hil,hcp,hkn,c6.mn,hb]
     apply hK;clear hK K
     refine W_true (by simp only [zZ2,Nat.reduceEqDiff,↓reduceIte,zZ3]<;>rfl) ?_
     have D:=Ext.dr noF w6 (w6.drawn+1)
     refine W_rg fun K hK=>(W_text [true,true,true,false] (by kernel_rfl) ?_);simp only [↓zZ1,↓reduceIte,Nat.reduceEqDiff,rg,ow_126,e0,e14,e15]
     refine do_call fn_151 (by simp only [zZ2,Nat.reduceEqDiff,↓reduceIte,zZ4]<;>rfl) (reb_shr m d iso hd hd' (c6.ext D fun _ _ _ g=>g) (sh6.ext0 D) hmF hlen (by omega) (by omega) (by rw [hys]) (by rw [<-hys];omega) (D.rd hkn fun g=>g) hsh) ?_
     rintro _ w7 ⟨F'',T7,x7,hF''⟩
     refine ⟨trivial,?_⟩
     simp only [↓zZ1,↓reduceIte,Nat.reduceEqDiff,rg,ow_126]
     apply hK;clear hK K
     rw [<-hys] at T7
     exact hfin _ _ F'' (T7.mono (by omega)) x7.od hF'' e12 e18
    ·have hb:decide ((nk:Int)<((d-1:Nat):Int))=false:=by simp only [decide_eq_false_iff_not];omega
     refine W_sq fun K hK=>(W_draw (some none) none [(0,0,0),(0,1,0),(0,2,0),(0,3,0),(0,4,0),(0,5,0),(0,6,0),(0,7,0),(0,8,0),(0,9,0),(0,10,0),(0,11,0),(0,12,0),(0,13,0),(0,14,0),(0,15,0),(0,16,0),(0,17,0)] mixed (by kernel_rfl) ?_);simp only [↓zZ1,↓reduceIte,Nat.reduceEqDiff,rg,ow_126,e0,e14,e15,ptr_eq,o6.h3,k6.hd,hil,hcp,hkn,c6.mn,hb]
     apply hK;clear hK K
     refine W_false (by simp only [zZ2,Nat.reduceEqDiff,↓reduceIte,zZ3]<;>rfl) (W_skip ?_)
     have T6:=sh6.fine (lo:=lo-1) hlen (hraise (d-1) (by omega)) (by omega) (by omega) (by rw [hys])
     rw [<-hys] at T6
     exact hfin _ _ _ (T6.ext (Ext.dr noF _ _) fun _ _ _ g=>g) ((Ext.dr noF _ _).mono fun _ _ _ g=>g.elim) (fun y o g=>.inl g) e12 e18
   have hlt:∀ y o,F y o->y<w.heap.size:=ht.lt
   have hno:∀ (e:Env) (w5:World) (F':Nat->Nat->Prop),delR O (rkI ord) mx (rkI ord x) xs=none->Tr E iso (d-1) (2*d-1) (h'+1) w5 lo b xs F'->(∀ y o,F' y o->F y o\/w.heap.size<=y)->(∀ o,¬ F' r0 o)->Ext (fun y o=>F y o\/hF hp y o) w w5->HOk hp w5->wok w5 r0 2 →
     e 0=ptr m->e 12=ptr r0->e 19 = .bool false->J e w5:=by
    clear e0 e2 e4 e5 e9 e12 e14 e15 e16 X4 H4 rk4 wr4 wq4 o4 nn hyes
    clear e
    intro e w5 F' hdel T5 hF' hFr X5 H5 wr5 e0 e12 e19
    refine hJ _ _ ?_;clear hJ J
    refine W_seq ?_
    refine W_sq fun K hK=>(W_text [true,true] (by kernel_rfl) ?_);simp only [↓zZ1,↓reduceIte,Nat.reduceEqDiff,rg,ow_126,e19]
    apply hK;clear hK K
    refine W_true (by simp only [zZ2,Nat.reduceEqDiff,↓reduceIte,zZ3]<;>rfl) ?_
    have z5:=zIt_at (hc.ext X5 fun o _ _ g=>g.elim (hm o) (hmh o))
    refine W_sq fun K hK=>(W_text [true,true,true,true,false,true] (by kernel_rfl) ?_);simp only [↓zZ1,↓reduceIte,Nat.reduceEqDiff,rg,ow_126,e0,ptr_eq,z5]
    refine do_store (by simp only [zZ2,Nat.reduceEqDiff,↓reduceIte];exact e12) (by simp only [zZ2,Nat.reduceEqDiff,↓reduceIte,zZ3]<;>rfl) sz_33 (rb_len zIt) wr5 (by decide) (rb_oc zIt) fun w6 x6 r6 s6=>⟨trivial,?_⟩
    simp only [↓zZ1,↓reduceIte,Nat.reduceEqDiff,rg,ow_126]
    apply hK;clear hK K
    refine W_ret (endQ_ct e12 (by simp only [upd_eq,Nat.reduceEqDiff,↓reduceIte]<;>rfl) ld_33 (iX_at (show Row w6 r0 0 (E.cel zIt) from r6)) ⟨X5.trans x6 (fun _ _ g=>g) fun y o hy g=>by simp only [rng] at g;omega,
     H5.ext x6 fun hb hh o g=>?_,F',hF',.inl ⟨hdel,rfl,T5.ext x6 fun y o g k=>?_⟩⟩)
    ·have:=hHl hb 0 hh
     simp only [rng] at g;omega
    ·simp only [rng] at k
     exact hFr o (by rw [<-k.1];exact g)
   have hpost:∀ (e:Env) (w5 w6:World) (i:Nat) (c:Kid It) (F':Nat->Nat->Prop) (y:It) (zs:List It) (dl:Bool),cs[i]? = some c->Ext (fun y o=>c.F y o\/hF hp y o) w4 w5->HOk hp w5->(∀ y o,F' y o->c.F y o\/w4.heap.size<=y)->Ext (rng q 0 2) w5 w6->Row w6 q 0 (E.cel y) →
     ((dl=true/\Tr E iso (d-1) (2*d-1) h' w5 (d-1-1) c.b zs F'/\delR O (rkI ord) mx (rkI ord x) xs=some (y,weave ((cs.map Kid.xs).set i zs) ks))\/(dl=false/\zs=c.xs/\Tr E iso (d-1) (2*d-1) h' w5 (d-1) c.b c.xs F'/\delR O (rkI ord) mx (rkI ord x) xs=none)) →
     e 0=ptr m->e 12=ptr r0->e 14=ptr b->e 15 = .int .i64 (i:Nat)->e 18=ptr q->e 19 = .bool dl->J e w6:=by
    clear e0 e2 e4 e5 e9 e12 e14 e15 e16
    clear e
    intro e w5 w6 i c F' y zs dl hcs x5 H5 hF' x6 r6 hres e0 e12 e14 e15 e18 e19
    have hcm:=List.mem_of_getElem? hcs
    have hcl:∀ y o,c.F y o->y<w.heap.size:=fun y o g=>hlt y o (hcF c hcm y o g)
    have x46:Ext (fun y o=>(c.F y o\/hF hp y o)\/y=q) w4 w6:=x5.trans x6 (fun _ _ g=>.inl g) fun y o _ g=>.inr g.1
    have hG:∀ y o,F y o->((c.F y o\/hF hp y o)\/y=q)->c.F y o:=fun y o g k=>by
     rcases k with (k | k) | k
     ·exact k
     ·exact (hFh y o g k).elim
     ·have:=hlt y o g;omega
    have hF'q:∀ o,¬ F' q o:=fun o g=>by
     rcases hF' q o g with g | g
     ·have:=hcl q o g;omega
     ·omega
    have T6:∀ {lo':Nat} {zs':List It},Tr E iso (d-1) (2*d-1) h' w5 lo' c.b zs' F'->Tr E iso (d-1) (2*d-1) h' w6 lo' c.b zs' F':=fun T=>T.ext x6 fun y o g k=>hF'q o (by rw [<-k.1];exact g)
    have X6:Ext (fun y o=>F y o\/hF hp y o) w w6:=X4.trans x46 (fun _ _ g=>.inr g) fun y o hy g=>by
     rcases g with (g | g) | g
     ·exact .inl (hcF c hcm y o g)
     ·exact .inr g
     ·omega
    have H6:HOk hp w6:=H5.ext x6 fun hb hh o g=>by
     have:=hHl hb 0 hh
     simp only [rng] at g;omega
    have wr6:wok w6 r0 2:=x46.wok wr4
    obtain ⟨l1,l2⟩:=shr_len (d:=(⟨c.b,zs,F'⟩:Kid It)) hcs
    have hfp:∀ y o,(ownF E b bi oi cap y o\/kidF bc ba oa capc y o\/kinF (cs.take i++(⟨c.b,zs,F'⟩:Kid It)::cs.drop (i+1)) y o)->F y o\/w4.heap.size<=y:=fun y o g=>nn.shr_fp hcs hF' y o g
    have hfp':∀ y o,(ownF E b bi oi cap y o\/kidF bc ba oa capc y o\/kinF (cs.take i++(⟨c.b,zs,F'⟩:Kid It)::cs.drop (i+1)) y o)->F y o\/w.heap.size<=y:=fun y o g=>(hfp y o g).imp id fun g=>by omega
    have hfq:∀ (r:Nat) (o:Nat),w.heap.size<=r->r<w4.heap.size->¬ (ownF E b bi oi cap r o\/kidF bc ba oa capc r o\/kinF (cs.take i++(⟨c.b,zs,F'⟩:Kid It)::cs.drop (i+1)) r o):=fun r o h1 h2 g=>by
     rcases hfp r o g with g | g
     ·have:=hlt r o g;omega
     ·omega
    rcases hres with ⟨rfl,T5,hdel⟩ | ⟨rfl,rfl,T5,hdel⟩
    ·have sh:=nn.shr o4 (by omega) hcs x46 hG (T6 T5) hF'
     exact hyes e w6 y (cs.take i) (cs.drop (i+1)) ⟨c.b,zs,F'⟩ ks _ _ _ _ _ sh rfl (by rw [l1];exact n.len) rfl (by rw [shr_xs hcs];exact hdel) X6 H6 hfp' r6 wr6 (fun o g=>hfq q o (by omega) (by omega) g) (fun o g=>hfq r0 o (by omega) (by omega) g) e0 e12 e14 (by rw [l2];exact e15) e18 e19
    ·have sh:=nn.shr o4 (by omega) hcs x46 hG ((T6 T5).mono (by omega)) hF'
     have hset:(cs.map Kid.xs).set i c.xs=cs.map Kid.xs:=by
      obtain ⟨g1,g2⟩:=List.getElem?_eq_some_iff.1 (show (cs.map Kid.xs)[i]? = some c.xs by rw [List.getElem?_map,hcs];rfl)
      rw [<-g2];exact List.set_getElem_self g1
     have hxe:weave ((cs.take i++⟨c.b,c.xs,F'⟩::cs.drop (i+1)).map Kid.xs) ks=xs:=by rw [shr_xs hcs,hset];exact n.eq.symm
     have T:=sh.fine (lo:=lo) (by rw [l1];exact n.len) (T6 T5) hl1 hl2 (by rw [hxe])
     rw [hxe] at T
     exact hno e w6 _ hdel T hfp' (fun o g=>hfq r0 o (by omega) (by omega) g) X6 H6 wr6 e0 e12 e19
   have hcell:∀ {i:Nat} {c:Kid It},cs[i]? = some c->rd w4 ba (oa+i)=some (ptr c.b):=fun hcs=>nn.kids.se.ptr_at (by simp [hcs])
   have hk0:=nn.kids.c0
   have hkx:=iX_at rk4
   have hlenc:∀ {i:Nat} {c:Kid It},cs[i]? = some c->c.xs.length<=xs.length:=fun hcs=>by
    rw [n.eq];exact weave_mem_length _ _ (by simpa using n.len) _ (List.mem_map_of_mem (List.mem_of_getElem? hcs))
   have hL4:Ls B m w4 ord:=hL.ext X4 (fun y o g=>by have:=(hHF y g).1;exact .inl (by omega)) (hmh 6)
   have c4:=hc.ext X4 fun o _ _=>hmh o
   have z4:=zIt_at c4
   have hcnl:=n.len
   have hll:(cs.map Kid.b).length=cs.length:=List.length_map _
   have D:=Ext.dr noF w4 (w4.drawn+1)
   refine W_sq fun K hK=>(W_text [true] (by kernel_rfl) ?_);simp only [↓zZ1,↓reduceIte,Nat.reduceEqDiff,rg,ow_126,e16]
   apply hK;clear hK K
   cases fnd with
   | false =>
    refine W_false (by simp only [zZ2,Nat.reduceEqDiff,↓reduceIte,zZ3]<;>rfl) ?_
    obtain ⟨rfl,hi,hh⟩:mx=false/\i=lb O (rkI ord) (rkI ord x) ks/\false=hit O (rkI ord) (rkI ord x) ks:=by
     rcases hfi with ⟨_,h,_⟩ | h
     ·cases h
     ·exact h
    have hik:i<=ks.length:=by rw [hi];exact lb_le O (rkI ord) _ _
    obtain ⟨c,hcs⟩:∃ c,cs[i]? = some c:=⟨_,List.getElem?_eq_getElem (by omega)⟩
    have hcm:=List.mem_of_getElem? hcs
    have hce:=hcell hcs
    have hil:i<(cs.map Kid.b).length:=by omega
    obtain ⟨A,C,hw⟩:=weave_at i (cs.map Kid.xs) ks (by simpa using n.len) hik
    have hcx:(cs.map Kid.xs)[i]? = some c.xs:=by rw [List.getElem?_map,hcs];rfl
    have hxs:xs=A++c.xs++C:=n.eq.trans (hw.eq hcx)
    have hac:Asc O (rkI ord) c.xs:=by
     rw [hxs] at ha
     exact ((Asc.append O (rkI ord)).1 ((Asc.append O (rkI ord)).1 ha).1).2.1
    obtain ⟨hA,hC⟩:=hw.mid O (rkI ord) hcx (n.eq ▸ ha) hi.symm hh.symm
    have hdm:=delR_mid (O:=O) (κ:=rkI ord) (m:=c.xs) hA hC
    rw [<-hxs] at hdm
    have q1:=wadd1 dep (by omega)
    have hle:=hlenc hcs
    refine W_rg fun K hK=>(W_semi (some none) (.take false 0 (.take false 1 (.take false 2 (.take false 3 (.take true 4 (.take false 5 (.take true 6 (.take false 7 (.take false 8 (.take false 9 (.take true 10 (.take false 11 (.take false 12 (.take false 13 (.bar 14 (.take false 15 (.take false 16 (.take false 17 (.bar 18 (.take false 19 .nil)))))))))))))))))))) mixed (by kernel_rfl) ?_);simp only [↓rgm,↓zZ1,↓reduceIte,Nat.reduceEqDiff,rg,ow_126,e0,e2,e4,e5,e9,e14,e15,ptr_eq,o4.h3,hk0,hil,hce,hkx,q1]
    refine do_call fn_126 (by simp only [zZ2,Nat.reduceEqDiff,↓reduceIte,zZ4]<;>rfl) (ihh h' (by omega) (d-1) c.b c.xs c.F _ ba (oa+i) false x hp (dep+1) (c4.ext D fun _ _ _ g=>g) (hL4.ext0 D) (fun y o g=>hBF y o (hcF c hcm y o g)) (by omega) (by omega) ((nn.sub c hcm).ext D fun _ _ _ g=>g) hac (by omega) (D.rd hce fun g=>g) (H4.ext0 D) fun hb hh=>⟨(hHF hb hh).1,fun o g=>(hHF hb hh).2 o (hcF c hcm hb o g)⟩) ?_
    rintro _ w5 ⟨X5,H5,F',hF',hres⟩
    have x45:=X5.od
    rcases hres with ⟨hd0,rfl,T5⟩ | ⟨y,yl,hd1,rfl,T5⟩
    ·refine ⟨trivial,?_⟩
     simp only [↓zZ1,↓reduceIte,Nat.reduceEqDiff,rg,ow_126,↓rgm]
     refine do_store (by simp only [zZ2,Nat.reduceEqDiff,↓reduceIte,zZ3]<;>rfl) (by simp only [zZ2,Nat.reduceEqDiff,↓reduceIte,zZ3]<;>rfl) sz_33 (rb_len zIt) (x45.wok wq4) (by decide) (rb_oc zIt) fun w6 x6 r6 s6=>⟨trivial,?_⟩
     simp only [↓zZ1,↓reduceIte,Nat.reduceEqDiff,rg,ow_126,↓rgm]
     apply hK;clear hK K
     exact hpost _ w5 w6 i c F' zIt c.xs false hcs x45 H5 hF' x6 r6 (.inr ⟨rfl,rfl,T5,by rw [hdm,hd0];rfl⟩) e0 e12 e14 e15 (by simp only [upd_eq,Nat.reduceEqDiff,↓reduceIte]<;>rfl) (by simp only [upd_eq,Nat.reduceEqDiff,↓reduceIte]<;>rfl)
    ·refine ⟨trivial,?_⟩
     simp only [↓zZ1,↓reduceIte,Nat.reduceEqDiff,rg,ow_126,↓rgm]
     refine do_store (by simp only [zZ2,Nat.reduceEqDiff,↓reduceIte,zZ3]<;>rfl) (by simp only [zZ2,Nat.reduceEqDiff,↓reduceIte,zZ3]<;>rfl) sz_33 (rb_len y) (x45.wok wq4) (by decide) (rb_oc y) fun w6 x6 r6 s6=>⟨trivial,?_⟩
     simp only [↓zZ1,↓reduceIte,Nat.reduceEqDiff,rg,ow_126,↓rgm]
     apply hK;clear hK K
     exact hpost _ w5 w6 i c F' y yl true hcs x45 H5 hF' x6 r6 (.inl ⟨rfl,T5,by rw [hdm,hd1,hw.set];rfl⟩) e0 e12 e14 e15 (by simp only [upd_eq,Nat.reduceEqDiff,↓reduceIte]<;>rfl) (by simp only [upd_eq,Nat.reduceEqDiff,↓reduceIte]<;>rfl)
   | true =>
    refine W_true (by simp only [zZ2,Nat.reduceEqDiff,↓reduceIte,zZ3]<;>rfl) ?_
    have hpos:∀ {i:Nat} {c:Kid It},cs[i]? = some c->c.xs ≠ []:=fun hcs hnil=>by
     obtain ⟨bi1,oi1,cap1,ks1,ch1,ho1,hl11,hl12,hoF1,hin1⟩:=(n.sub _ (List.mem_of_getElem? hcs)).open
     rcases hin1 with ⟨_,_,hx,_⟩ | ⟨_,_,_,_,_,cs1,_,_,n1⟩
     ·rw [hnil] at hx;rw [<-hx] at hl11;simp at hl11;omega
     ·have:=(weave_sub (cs1.map Kid.xs) ks1 (by rw [List.length_map];exact n1.len)).length_le
      rw [<-n1.eq,hnil] at this
      simp at this;rw [this] at hl11;simp at hl11;omega
    cases mx with
    | true =>
     refine W_sq fun K hK=>(W_text [true] (by kernel_rfl) ?_);simp only [↓zZ1,↓reduceIte,Nat.reduceEqDiff,rg,ow_126,e2]
     apply hK;clear hK K
     refine W_true (by simp only [zZ2,Nat.reduceEqDiff,↓reduceIte,zZ3]<;>rfl) ?_
     have hi:i=ks.length-1:=by
      rcases hfi with ⟨_,_,h⟩ | ⟨h,_⟩
      ·exact h
      ·cases h
     have q1:=wadd1 i (by omega)
     refine W_sq fun K hK=>(W_text [true,true,true] (by kernel_rfl) ?_);simp only [↓zZ1,↓reduceIte,Nat.reduceEqDiff,rg,ow_126,e15,q1]
     apply hK;clear hK K
     have hik:i+1=ks.length:=by omega
     obtain ⟨c,hcs⟩:∃ c,cs[i+1]? = some c:=⟨_,List.getElem?_eq_getElem (by omega)⟩
     have hcm:=List.mem_of_getElem? hcs
     have hce:=hcell hcs
     have hil:i+1<(cs.map Kid.b).length:=by omega
     have hle:=hlenc hcs
     have hne:=hpos hcs
     have hsp:cs.map Kid.xs=(cs.take (i+1)).map Kid.xs++[c.xs]:=by
      have h3:=List.getElem?_eq_some_iff.1 hcs
      have:=List.take_append_drop (i+1) cs
      rw [List.drop_eq_getElem_cons h3.1,h3.2,List.drop_eq_nil_of_le (by omega)] at this
      conv=>lhs;rw [<-this]
      simp
     have hLl:((cs.take (i+1)).map Kid.xs).length=ks.length:=by rw [List.length_map,List.length_take];omega
     obtain ⟨A,hA⟩:=weave_end ((cs.take (i+1)).map Kid.xs) ks hLl
     have hxs:xs=A++c.xs:=by rw [n.eq,hsp,hA]
     have hac:Asc O (rkI ord) c.xs:=by
      rw [hxs] at ha
      exact ((Asc.append O (rkI ord)).1 ha).2.1
     have hdm:=delR_max (O:=O) (κ:=rkI ord) (q:=rkI ord x) (A:=A) hne
     rw [<-hxs] at hdm
     refine W_rg fun K hK=>(W_semi (some none) (.take false 0 (.take false 1 (.take false 2 (.take false 3 (.take true 4 (.take false 5 (.take true 6 (.take false 7 (.take false 8 (.take false 9 (.take false 10 (.take false 11 (.take true 12 (.bar 13 (.take false 14 (.take false 15 (.take false 16 (.bar 17 (.take false 18 .nil))))))))))))))))))) mixed (by kernel_rfl) ?_);simp only [↓rgm,↓zZ1,↓reduceIte,Nat.reduceEqDiff,rg,ow_126,e0,e14,ptr_eq,o4.h3,hk0,hil,hce,z4]
     refine do_call fn_126 (by simp only [zZ2,Nat.reduceEqDiff,↓reduceIte,zZ4]<;>rfl) (ihh h' (by omega) (d-1) c.b c.xs c.F _ ba (oa+(i+1)) true zIt none 0 (c4.ext D fun _ _ _ g=>g) (hL4.ext0 D) (fun y o g=>hBF y o (hcF c hcm y o g)) (by omega) (by omega) ((nn.sub c hcm).ext D fun _ _ _ g=>g) hac (by omega) (D.rd hce fun g=>g) (HOk.none _) fun hb hh=>by cases hh) ?_
     rintro _ w5 ⟨X5,_,F',hF',hres⟩
     have x45:Ext (fun y o=>c.F y o\/hF hp y o) w4 w5:=X5.od.mono fun y o _ g=>g.elim .inl fun g=>by cases g
     rcases hres with ⟨hd0,rfl,T5⟩ | ⟨y,yl,hd1,rfl,T5⟩
     ·exfalso
      have:=delR_last (O:=O) (κ:=rkI ord) (q:=rkI ord zIt) (l:=c.xs.dropLast) (x:=c.xs.getLast hne)
      rw [List.dropLast_concat_getLast,hd0] at this
      cases this
     ·refine ⟨trivial,?_⟩
      simp only [↓zZ1,↓reduceIte,Nat.reduceEqDiff,rg,ow_126,↓rgm]
      refine do_store (by simp only [zZ2,Nat.reduceEqDiff,↓reduceIte,zZ3]<;>rfl) (by simp only [zZ2,Nat.reduceEqDiff,↓reduceIte,zZ3]<;>rfl) sz_33 (rb_len y) (x45.wok wq4) (by decide) (rb_oc y) fun w6 x6 r6 s6=>⟨trivial,?_⟩
      simp only [↓zZ1,↓reduceIte,Nat.reduceEqDiff,rg,ow_126,↓rgm]
      apply hK;clear hK K
      have H5:HOk hp w5:=H4.ext X5.od fun hb hh o g=>by
       rcases g with g | g
       ·exact (hHF hb hh).2 o (hcF c hcm hb o g)
       ·cases g
      refine hpost _ w5 w6 (i+1) c F' y yl true hcs x45 H5 hF' x6 r6 (.inl ⟨rfl,T5,?_⟩) e0 e12 e14 (by simp only [upd_eq,Nat.reduceEqDiff,↓reduceIte]<;>rfl) (by simp only [upd_eq,Nat.reduceEqDiff,↓reduceIte]<;>rfl) (by simp only [upd_eq,Nat.reduceEqDiff,↓reduceIte]<;>rfl)
      have hset:(cs.map Kid.xs).set (i+1) yl=(cs.take (i+1)).map Kid.xs++[yl]:=by
       have:=set_last (A:=(cs.take (i+1)).map Kid.xs) (z:=c.xs) (x:=yl)
       rw [hLl,<-hik] at this
       rw [hsp]
       exact this
      rw [hset,hA,hdm]
      rw [show delR O (rkI ord) true (rkI ord x) c.xs=delR O (rkI ord) true (rkI ord zIt) c.xs from rfl,hd1]
      rfl
    | false =>
     refine W_sq fun K hK=>(W_text [true] (by kernel_rfl) ?_);simp only [↓zZ1,↓reduceIte,Nat.reduceEqDiff,rg,ow_126,e2]
     apply hK;clear hK K
     refine W_false (by simp only [zZ2,Nat.reduceEqDiff,↓reduceIte,zZ3]<;>rfl) ?_
     obtain ⟨hi,hh⟩:i=lb O (rkI ord) (rkI ord x) ks/\true=hit O (rkI ord) (rkI ord x) ks:=by
      rcases hfi with ⟨h,_⟩ | ⟨_,h⟩
      ·cases h
      ·exact h
     obtain ⟨kk,hk1,hk2⟩:=hit_at O (rkI ord) hh.symm
     rw [<-hi] at hk1
     have hik:=(List.getElem?_eq_some_iff.1 hk1).1
     obtain ⟨c,hcs⟩:∃ c,cs[i]? = some c:=⟨_,List.getElem?_eq_getElem (by omega)⟩
     have hcm:=List.mem_of_getElem? hcs
     have hil:i<(cs.map Kid.b).length:=by omega
     have hle:=hlenc hcs
     have hne:=hpos hcs
     have hkv:=it_at o4.row hk1
     have hsp:cs.map Kid.xs=(cs.take i).map Kid.xs++c.xs::(cs.drop (i+1)).map Kid.xs:=by
      have h3:=List.getElem?_eq_some_iff.1 hcs
      have:=List.take_append_drop i cs
      rw [List.drop_eq_getElem_cons h3.1,h3.2] at this
      conv=>lhs;rw [<-this]
      simp
     have hLl:((cs.take i).map Kid.xs).length=i:=by rw [List.length_map,List.length_take];omega
     obtain ⟨A,C,hA⟩:=weave_ahead (L:=(cs.take i).map Kid.xs) (B:=(cs.drop (i+1)).map Kid.xs) (ks:=ks) (k:=kk) (by rw [hLl];exact hk1)
     rw [hLl] at hA
     have hxs:xs=A++c.xs++kk::C:=by
      rw [n.eq,hsp,<-hA c.xs kk]
      obtain ⟨g1,g2⟩:=List.getElem?_eq_some_iff.1 hk1
      rw [<-g2,List.set_getElem_self g1]
     have hac:Asc O (rkI ord) c.xs:=by
      rw [hxs] at ha
      exact ((Asc.append O (rkI ord)).1 ((Asc.append O (rkI ord)).1 ha).1).2.1
     have hdk:delR O (rkI ord) false (rkI ord x) xs=some (kk,A++c.xs++C):=by
      rw [hk2,hxs]
      exact delR_key (by rw [<-hxs];exact ha)
     refine W_sq fun K hK=>(W_text [true,true,true,true,true,true,true,false] (by kernel_rfl) ?_);simp only [↓zZ1,↓reduceIte,Nat.reduceEqDiff,rg,ow_126,e14,e15,ptr_eq,o4.h2,hik,hkv]
     refine do_store (by simp only [zZ2,Nat.reduceEqDiff,↓reduceIte,zZ3]<;>rfl) (by simp only [zZ2,Nat.reduceEqDiff,↓reduceIte,zZ3]<;>rfl) sz_33 (rb_len kk) wq4 (by decide) (rb_oc kk) fun w5 x5 r5 s5=>⟨trivial,?_⟩
     simp only [↓zZ1,↓reduceIte,Nat.reduceEqDiff,rg,ow_126]
     apply hK;clear hK K
     have hqn:∀ y o,F y o->¬ rng q 0 2 y o:=fun y o g k=>by have:=hlt y o g;have:=k.1;omega
     have o5:=o4.ext x5 fun y o g=>hqn y o (hoF y o g)
     have n5:=nn.ext x5 (fun y o g=>hqn y o (hkF y o g)) fun a ha y o g=>hqn y o (hcF a ha y o g)
     have hmq:∀ o,¬ rng q 0 2 m o:=fun o k=>by have:=k.1;omega
     have c5:=c4.ext x5 fun o _ _=>hmq o
     have hL5:Ls B m w5 ord:=hL4.ext x5 (fun y o g=>.inl (by have:=g.1;omega)) (hmq 6)
     have z5:=zIt_at c5
     have hce5:=n5.kids.se.ptr_at (j:=i) (p:=c.b) (by simp [hcs])
     have hk5:=n5.kids.c0
     have X5:Ext (fun y o=>F y o\/hF hp y o) w w5:=(X4.mono fun _ _ _ g=>.inr g).trans x5 (fun _ _ g=>g) fun y o hy g=>by have:=g.1;omega
     have H5:HOk hp w5:=H4.ext x5 fun hb hh o g=>by
      have:=hHl hb 0 hh
      have:=g.1;omega
     have wr5:=x5.wok wr4
     have rq5:Row w5 q 0 (E.cel kk):=r5
     have hq5:q<w5.heap.size:=by have:=x5.size;omega
     have L0:=on3_0 b bc m
     have L1:=on3_1 b bc m
     have L2:=on3_2 b bc m
     have hbcl:=wok_lt n5.kids.wc
     have hb5:b<w5.heap.size/\m<w5.heap.size:=⟨by omega,by omega⟩
     have hcb:∀ o,¬ c.F b o:=fun o g=>n.ap.own c hcm b o g (.inl rfl)
     have hcbc:∀ o,¬ c.F bc o:=fun o g=>n.ap.kid c hcm bc o g (.inl rfl)
     have hcmF:∀ o,¬ c.F m o:=fun o g=>hm o (hcF c hcm m o g)
     have D5:=Ext.dr noF w5 (w5.drawn+1)
     have kin3:∀ {G:Nat->Nat->Prop} {u v:World},Ext G u v->(∀ x ∈ [b,bc,m],x<u.heap.size/\∀ o,¬ G x o)->keeps (some (some [b,bc,m])) u v:=fun x h=>keeps_on x h
     clear D hk0 hkx c4 z4 hL4 X4 H4 rk4 wr4 o4 x5 r5 hpost hno
     refine W_sq fun K hK=>(W_free (some (some [b,bc,m])) (.take 0 (.take 1 (.take 2 (.take 3 (.take 4 (.take 5 (.take 6 (.take 7 (.take 8 (.take 9 (.take 10 (.take 11 (.take 12 (.split 13 (.take 14 (.take 15 (.take 16 (.act 17 (.act 18 (.take 19 .nil)))))) 17 (.act 13 (.take 14 (.take 15 (.take 16 (.act 18 (.take 19 .nil)))))))))))))))))))) mixed (by kernel_rfl) ?_);simp only [↓zZ1,↓reduceIte,Nat.reduceEqDiff,rg,ow_126,e0,e14,e15,ptr_eq,o5.h3,hk5,hil,hce5,z5,L0,L1,L2,rB_on]
     have hjoin:∀ (e:Env) (w8:World) (t:Nat) (y:It) (yl:List It) (F':Nat->Nat->Prop),delR O (rkI ord) true (rkI ord zIt) c.xs=some (y,yl)->Tr E iso (d-1) (2*d-1) h' w8 (d-1-1) c.b yl F'->(∀ y o,F' y o->c.F y o\/w5.heap.size<=y)->Ext c.F w5 w8->Row w8 t 0 (E.cel y) →
       e 0=ptr m->e 12=ptr r0->e 14=ptr b->e 15 = .int .i64 (i:Nat)->e 18=ptr q->e 20=ptr t->K e w8:=by
      clear e0 e2 e4 e5 e9 e12 e14 e15 e16
      clear e
      intro e w8 t y yl F' hdl T8 hF' x58 rt8 e0 e12 e14 e15 e18 e20
      apply hK;clear hK K
      refine W_sq fun K hK=>(W_text [true] (by kernel_rfl) ?_);simp only [↓zZ1,↓reduceIte,Nat.reduceEqDiff,rg,ow_126]
      apply hK;clear hK K
      have hown:∀ y o,ownF E b bi oi cap y o->¬ c.F y o:=fun y o g k=>n.ap.own c hcm y o k g
      have o8:=o5.ext x58 hown
      have ky:=iX_at rt8
      refine W_rg fun K hK=>(W_draw (some none) (some 7) [(0,0,0),(0,1,0),(0,2,0),(0,3,0),(0,4,0),(0,5,0),(0,6,0),(1,7,0)] mixed (by kernel_rfl) ?_);simp only [↓zZ1,↓reduceIte,Nat.reduceEqDiff,rg,ow_126,e14,e15,e20,ptr_eq,o8.h2,hik,ky]
      refine do_store (by simp only [zZ2,Nat.reduceEqDiff,↓reduceIte,zZ3]<;>rfl) (by simp only [zZ2,Nat.reduceEqDiff,↓reduceIte,zZ3]<;>rfl) sz_33 (rb_len y) o8.wi (by rw [E_sz];omega) (rb_oc y) fun w9 x9 r9 s9=>⟨(by first | exact trivial | exact .inl trivial),?_⟩
      simp only [↓zZ1,↓reduceIte,Nat.reduceEqDiff,rg,ow_126]
      apply hK;clear hK K
      have o9:=o8.set hik x9.od r9
      have x9':Ext (ownF E b bi oi cap) w8 w9:=x9.od.mono fun y o _ g=>.inr (by simp only [rng] at g ⊢;rw [E_sz];omega)
      obtain ⟨l1,l2⟩:=shr_len (d:=(⟨c.b,yl,F'⟩:Kid It)) hcs
      have sh:=n5.shr o5 (by omega) hcs x58 (fun _ _ _ g=>g) T8 hF'
      have hfp:∀ y o,(ownF E b bi oi cap y o\/kidF bc ba oa capc y o\/kinF (cs.take i++(⟨c.b,yl,F'⟩:Kid It)::cs.drop (i+1)) y o)->F y o\/w5.heap.size<=y:=fun y o g=>n5.shr_fp hcs hF' y o g
      have s5':=X5.size
      have sh9:Shr E iso (d-1) (2*d-1) h' w9 b bc (xs.length:Nat) (ks.set i y) (cs.take i) ⟨c.b,yl,F'⟩ (cs.drop (i+1)) (ownF E b bi oi cap) (kidF bc ba oa capc) bi ba :=
       ⟨⟨bi,oi,cap,o9,by omega,rfl,fun _ _=>Iff.rfl⟩,(kdO _ _).loc sh.n3 x9' sh.l0.d.symm,sh.l0,sh.t.ext x9' (sh.l0.g1 _ (by simp)),fun a ha=>(sh.rest a ha).ext x9' (sh.l0.g1 a (by
        rcases List.mem_append.1 ha with ha | ha
        ·simp [ha]
        ·simp [ha]))⟩
      have X9:Ext (fun y o=>F y o\/hF hp y o) w w9:=(X5.trans x58 (fun _ _ g=>g) fun y o _ g=>.inl (hcF c hcm y o g)).trans x9' (fun _ _ g=>g) fun y o _ g=>.inl (hoF y o g)
      have H9:HOk hp w9:=(H5.ext x58 fun hb hh o g=>(hHF hb hh).2 o (hcF c hcm hb o g)).ext x9' fun hb hh o g=>(hHF hb hh).2 o (hoF hb o g)
      have hcq:∀ o,¬ c.F q o:=fun o g=>by have:=hlt q o (hcF c hcm q o g);omega
      have hoq:∀ o,¬ ownF E b bi oi cap q o:=fun o g=>by have:=hlt q o (hoF q o g);omega
      have rq9:=x9'.row (x58.row rq5 fun j _=>hcq _) fun j _=>hoq _
      have wr9:=x9'.wok (x58.wok wr5)
      have hcxs:c.xs=yl++[y]:=by
       have:=delR_last (O:=O) (κ:=rkI ord) (q:=rkI ord zIt) (l:=c.xs.dropLast) (x:=c.xs.getLast hne)
       rw [List.dropLast_concat_getLast,hdl] at this
       simp only [Option.some.injEq,Prod.mk.injEq] at this
       rw [this.1,this.2,List.dropLast_concat_getLast]
      refine hyes _ w9 kk (cs.take i) (cs.drop (i+1)) ⟨c.b,yl,F'⟩ (ks.set i y) (A++c.xs++C) _ _ _ _ sh9 List.length_set (by rw [l1,List.length_set];exact n.len) ?_ hdk X9 H9 (fun y o g=>(hfp y o g).imp id fun g=>by omega) rq9 wr9 (fun o g=>?_) (fun o g=>?_)
       e0 e12 e14 (by simp only [upd_eq,Nat.reduceEqDiff,↓reduceIte];rw [l2];exact e15) e18 (by simp only [upd_eq,Nat.reduceEqDiff,↓reduceIte]<;>rfl)
      ·rw [List.map_append,List.map_cons,hA,hcxs];simp
      ·rcases hfp q o g with g | g
       ·have:=hlt q o g;omega
       ·omega
      ·rcases hfp r0 o g with g | g
       ·have:=hlt r0 o g;omega
       ·omega
     have hx3:∀ x ∈ [b,bc,m],x<w5.heap.size/\∀ o,¬ (c.F x o\/hF none x o):=fun x hx=>by
      simp only [List.mem_cons,List.not_mem_nil,or_false] at hx
      rcases hx with rfl | rfl | rfl
      ·exact ⟨hb5.1,fun o g=>g.elim (hcb o) fun g=>by cases g⟩
      ·exact ⟨hbcl,fun o g=>g.elim (hcbc o) fun g=>by cases g⟩
      ·exact ⟨hb5.2,fun o g=>g.elim (hcmF o) fun g=>by cases g⟩
     have hx3l:∀ x ∈ [b,bc,m],x<w5.heap.size:=fun x hx=>(hx3 x hx).1
     have hcl:∀ y o,c.F y o->y<w5.heap.size:=fun y o g=>by have:=hlt y o (hcF c hcm y o g);omega
     have nohit:∀ {P:Prop},delR O (rkI ord) true (rkI ord zIt) c.xs=none->P:=fun hd0=>by
      have:=delR_last (O:=O) (κ:=rkI ord) (q:=rkI ord zIt) (l:=c.xs.dropLast) (x:=c.xs.getLast hne)
      rw [List.dropLast_concat_getLast,hd0] at this
      cases this
     refine ⟨?_,?_⟩
     ·refine do_call fn_126 (by simp only [zZ2,Nat.reduceEqDiff,↓reduceIte,zZ4]<;>rfl) (ihh h' (by omega) (d-1) c.b c.xs c.F _ ba (oa+i) true zIt none 0 (c5.ext D5 fun _ _ _ g=>g) (hL5.ext0 D5) (fun y o g=>hBF y o (hcF c hcm y o g)) (by omega) (by omega) ((n5.sub c hcm).ext D5 fun _ _ _ g=>g) hac (by omega) (D5.rd hce5 fun g=>g) (HOk.none _) fun hb hh=>by cases hh) ?_
      rintro _ w6 ⟨X6,_,F',hF',hres⟩
      rcases hres with ⟨hd0,_⟩ | ⟨y,yl,hd1,rfl,T6⟩
      ·exact nohit hd0
      ·have x56:Ext c.F w5 w6:=X6.od.mono fun y o _ g=>g.elim id fun g=>by cases g
       have s56:=x56.size
       refine ⟨.inr (kin3 X6 hx3),?_⟩
       simp only [↓zZ1,↓reduceIte,Nat.reduceEqDiff,rg,ow_126]
       refine do_alloc dz_it fun w7 n7=>⟨.inr (n7.keep _ fun x hx=>by have:=hx3l x hx;omega),?_⟩
       simp only [↓zZ1,↓reduceIte,Nat.reduceEqDiff,rg,ow_126]
       have s7:=n7.size
       refine do_store (by simp only [zZ2,Nat.reduceEqDiff,↓reduceIte,zZ3]<;>rfl) (by simp only [zZ2,Nat.reduceEqDiff,↓reduceIte,zZ3]<;>rfl) sz_33 (rb_len y) n7.wok (by decide) (rb_oc y) fun w8 x8 r8 s8=>⟨.inr (kin3 x8 fun x hx=>⟨by have:=hx3l x hx;omega,fun o g=>by have:=hx3l x hx;have:=g.1;omega⟩),?_⟩
       simp only [↓zZ1,↓reduceIte,Nat.reduceEqDiff,rg,ow_126]
       refine hjoin _ w8 w6.heap.size y yl F' hd1 ((T6.ext n7.ext fun _ _ _ g=>g).ext x8 fun y o g k=>?_) hF' ((x56.trans n7.ext (fun _ _ g=>g) fun _ _ _ g=>g.elim).trans x8 (fun _ _ g=>g) fun y o hy g=>?_) r8
        e0 e12 e14 e15 (by simp only [upd_eq,Nat.reduceEqDiff,↓reduceIte]<;>rfl) (by simp only [upd_eq,Nat.reduceEqDiff,↓reduceIte]<;>rfl)
       ·have:=T6.lt y o g;have:=k.1;omega
       ·have:=g.1;omega
     ·refine do_alloc dz_it fun w6 n6=>⟨.inr (n6.keep _ hx3l),?_⟩
      simp only [↓zZ1,↓reduceIte,Nat.reduceEqDiff,rg,ow_126]
      have n6':=n6.od
      have s6:=n6'.size
      refine do_call fn_126 (by simp only [zZ2,Nat.reduceEqDiff,↓reduceIte,zZ4]<;>rfl) (ihh h' (by omega) (d-1) c.b c.xs c.F w6 ba (oa+i) true zIt none 0 (c5.ext n6'.ext fun _ _ _ g=>g) (hL5.ext0 n6'.ext) (fun y o g=>hBF y o (hcF c hcm y o g)) (by omega) (by omega) ((n5.sub c hcm).ext n6'.ext fun _ _ _ g=>g) hac (by omega) (n6'.ext.rd hce5 fun g=>g) (HOk.none _) fun hb hh=>by cases hh) ?_
      rintro _ w7 ⟨X7,_,F',hF',hres⟩
      rcases hres with ⟨hd0,_⟩ | ⟨y,yl,hd1,rfl,T7⟩
      ·exact nohit hd0
      ·have x67:Ext c.F w6 w7:=X7.mono fun y o _ g=>g.elim id fun g=>by cases g
       have x57:Ext c.F w5 w7:=n6'.ext.trans x67 (fun _ _ g=>g.elim) fun _ _ _ g=>g
       refine ⟨.inr (kin3 X7 fun x hx=>⟨by have:=hx3l x hx;omega,(hx3 x hx).2⟩),?_⟩
       simp only [↓zZ1,↓reduceIte,Nat.reduceEqDiff,rg,ow_126]
       have s67:=x67.size
       refine do_store (by simp only [zZ2,Nat.reduceEqDiff,↓reduceIte,zZ3]<;>rfl) (by simp only [zZ2,Nat.reduceEqDiff,↓reduceIte,zZ3]<;>rfl) sz_33 (rb_len y) (x67.wok n6.wok) (by decide) (rb_oc y) fun w8 x8 r8 s8=>⟨.inr (kin3 x8 fun x hx=>⟨by have:=hx3l x hx;omega,fun o g=>by have:=hx3l x hx;have:=g.1;rw [sz_dr] at this;omega⟩),?_⟩
       simp only [↓zZ1,↓reduceIte,Nat.reduceEqDiff,rg,ow_126]
       refine hjoin _ w8 w5.heap.size y yl F' hd1 (T7.ext x8 fun y o g k=>?_) (fun y o g=>(hF' y o g).imp id fun g=>by omega) (x57.trans x8 (fun _ _ g=>g) fun y o hy g=>?_) r8
        e0 e12 e14 e15 (by simp only [upd_eq,Nat.reduceEqDiff,↓reduceIte]<;>rfl) (by simp only [upd_eq,Nat.reduceEqDiff,↓reduceIte]<;>rfl)
       ·have h1:y=w5.heap.size:=k.1
        rcases hF' y o g with g | g
        ·have:=hcl y o g;omega
        ·omega
       ·have h1:y=w5.heap.size:=g.1
        omega
 have o3:=ho.ext X3 fun _ _ _ g=>g
 refine W_sq fun K hK=>(W_text [true] (by kernel_rfl) ?_);simp only [↓zZ1,↓reduceIte,Nat.reduceEqDiff,rg,ow_126,e2]
 apply hK;clear hK K
 cases mx with
 | true =>
  refine W_true (by simp only [zZ2,Nat.reduceEqDiff,↓reduceIte,zZ3]<;>rfl) ?_
  have q1:=wsub1 ks.length (by omega) (by omega)
  refine W_rg fun K hK=>(W_text [true,true,true,true,true,true,true,true] (by kernel_rfl) ?_);simp only [↓zZ1,↓reduceIte,Nat.reduceEqDiff,rg,ow_126,ptr_eq,o3.h2,q1]
  apply hK;clear hK K
  exact hend _ _ true (ks.length-1) (.inl ⟨rfl,rfl,rfl⟩) (X3.mono fun _ _ _ g=>g.elim) (hH.ext0 X3) rk3 wr3 (by omega) e0 e2 e4 e5 (by simp only [upd_eq,Nat.reduceEqDiff,↓reduceIte]<;>rfl) (by simp only [upd_eq,Nat.reduceEqDiff,↓reduceIte]<;>rfl) (by simp only [upd_eq,Nat.reduceEqDiff,↓reduceIte]<;>rfl) (by simp only [upd_eq,Nat.reduceEqDiff,↓reduceIte]<;>rfl) (by simp only [upd_eq,Nat.reduceEqDiff,↓reduceIte]<;>rfl)
 | false =>
  refine W_false (by simp only [zZ2,Nat.reduceEqDiff,↓reduceIte,zZ3]<;>rfl) ?_
  have hkx:=iX_at rk3
  have h33:=o3.h3
  rw [hcc] at h33
  refine W_rg fun K hK=>(W_text [true,true,true,true,true,false,true,true,true,true,true] (by kernel_rfl) ?_);simp only [↓zZ1,↓reduceIte,Nat.reduceEqDiff,rg,ow_126,e0,e4,e5,hkx]
  refine do_call fn_97 (by simp only [zZ2,Nat.reduceEqDiff,↓reduceIte,zZ4]<;>rfl) (find_any B m b bi oi cap ord ks x cc hp dep w3 (hL.ext0 X3) o3.h2 h33 o3.row (by omega) hkb (by omega) hak (hH.ext0 X3) fun hb hh hbb=>(hHF hb hh).2 0 (hbb ▸ ht.self 0)) ?_
  rintro _ w4 ⟨rfl,X4,H4⟩
  refine ⟨trivial,?_⟩
  simp only [↓zZ1,↓reduceIte,Nat.reduceEqDiff,rg,ow_126,dsrch]
  apply hK;clear hK K
  have s4:=X4.size
  refine hend _ _ _ _ (.inr ⟨rfl,rfl,rfl⟩) (X3.trans X4 (fun _ _ g=>g.elim) fun _ _ _ g=>g) H4 (X4.row rk3 fun j _ g=>?_) (X4.wok wr3) (by omega) e0 e2 e4 e5 (by simp only [upd_eq,Nat.reduceEqDiff,↓reduceIte]<;>rfl) (by simp only [upd_eq,Nat.reduceEqDiff,↓reduceIte]<;>rfl) (by simp only [upd_eq,Nat.reduceEqDiff,↓reduceIte]<;>rfl) (by simp only [upd_eq,Nat.reduceEqDiff,↓reduceIte]<;>rfl) (by simp only [upd_eq,Nat.reduceEqDiff,↓reduceIte]<;>rfl)
  have:=hHl _ _ g
  omega
def DelQP (Q:It->List It->Prop) (ord:List Int) (d:Nat) (iso:Int) (h lo b:Nat) (xs:List It) (mx:Bool) (x:It) (hp:Option Nat) (F:Nat->Nat->Prop) (w:World) (v:Value) (w':World):Prop :=
 Ext (fun y o=>F y o\/hF hp y o) w w'/\HOk hp w'/\∃ F':Nat->Nat->Prop,(∀ y o,F' y o->F y o\/w.heap.size<=y) ∧
  ((delR O (rkI ord) mx (rkI ord x) xs=none/\v = .tuple #[itV zIt,.bool false]/\Tp E iso (d-1) (2*d-1) Q h w' lo b xs F') ∨
   ∃ y ys,delR O (rkI ord) mx (rkI ord x) xs=some (y,ys)/\v = .tuple #[itV y,.bool true]/\Tp E iso (d-1) (2*d-1) Q h w' (lo-1) b ys F')
theorem Shr.fineP {Q:It->List It->Prop} {E:Enc It} {iso:Int} {mn mx h:Nat} {w:World} {b bc:Nat} {cnt:Int} {ks:List It} {A B:List (Kid It)} {c:Kid It} {F0 F3:Nat->Nat->Prop} {K0 K3 lo:Nat} (s:Shr E iso mn mx h w b bc cnt ks A c B F0 F3 K0 K3) (hl:(A++c::B).length=ks.length+1)
  (hc:Tp E iso mn mx Q h w mn c.b c.xs c.F) (sR:∀ a ∈ A++B,Tp E iso mn mx Q h w mn a.b a.xs a.F) (hN:NP Q ((A++c::B).map Kid.xs) ks) (hlo:lo<=ks.length) (hmx:ks.length<=mx) (hcnt:cnt=((weave ((A++c::B).map Kid.xs) ks).length:Nat)) :
  Tp E iso mn mx Q (h+1) w lo b (weave ((A++c::B).map Kid.xs) ks) fun y o=>F0 y o\/F3 y o\/kinF (A++c::B) y o:=by
 have key:∀ a ∈ A++c::B,Tp E iso mn mx Q h w mn a.b a.xs a.F:=fun a ha=>by
  rcases List.mem_append.1 ha with ha | ha
  ·exact sR a (by simp [ha])
  ·rcases List.mem_cons.1 ha with rfl | ha
   ·exact hc
   ·exact sR a (by simp [ha])
 exact Tp.join s.n0 s.n3 ⟨.inr ⟨h,rfl,⟨bc,rfl⟩,rfl,hl,rfl,fun a ha=>(key a ha).tr⟩,fun a ha h' hh=>(by cases hh;exact key a ha),hN⟩ hlo hmx (.inr (Nat.le_refl _)) s.l0 hcnt
theorem Inn.others {h:Nat} {w:World} {E:Enc It} {iso:Int} {mn mx b:Nat} {xs:List It} {F:Nat->Nat->Prop} {bi oi cap:Nat} {ks:List It} {bc ba oa capc:Nat} {cs:List (Kid It)}
  (n:Inn E iso mn mx h w b xs F bi oi cap ks bc ba oa capc cs) {i:Nat} {c:Kid It} (hc:cs[i]? = some c):∀ a ∈ cs.take i++cs.drop (i+1),a ∈ cs/\Dj a.F c.F:=fun a ha=>by
 have hcs:cs=cs.take i++c::cs.drop (i+1):=by
  have h3:=List.getElem?_eq_some_iff.1 hc
  have:=List.take_append_drop i cs
  rw [List.drop_eq_getElem_cons h3.1,h3.2] at this
  exact this.symm
 have h2:=n.ap.two
 rw [hcs] at h2
 obtain ⟨p1,p2,p3⟩:=List.pairwise_append.1 h2
 obtain ⟨p4,p5⟩:=List.pairwise_cons.1 p2
 rcases List.mem_append.1 ha with ha | ha
 ·exact ⟨List.mem_of_mem_take ha,p3 a ha c (by simp)⟩
 ·exact ⟨List.mem_of_mem_drop ha,fun y o g k=>p4 a ha y o k g⟩
set_option maxHeartbeats 8000000 in
set_option maxRecDepth 8000 in
theorem delP_any (Q:It->List It->Prop) (hQ:Anti Q) (B m d:Nat) (iso:Int) (ord:List Int) (hd:2<=d) (hd':d<=128):∀ (h lo b:Nat) (xs:List It) (F:Nat->Nat->Prop) (w:World) (pc po:Nat) (mx:Bool) (x:It) (hp:Option Nat) (dep:Nat),Cfg w m iso d->Ls B m w ord →
  (∀ y o,F y o->m<y)->dep+h<1152921504606846976->1<=lo->Tp E iso (d-1) (2*d-1) Q h w lo b xs F->Asc O (rkI ord) xs->xs.length<1152921504606846976->rd w pc po=some (ptr b)->HOk hp w->(∀ hb,hp=some hb->m<hb/\∀ o,¬ F hb o)->mx=false->(∀ y ∈ xs,O.lt (rkI ord y) (rkI ord x)=true->∀ S,Q y S) →
  (∀ k S l y r,O.lt (rkI ord k) (rkI ord x)=false->O.lt (rkI ord k) (rkI ord y)=true->S=l++y::r->Q k S->Q y r) →
  CallK Try.prog 126 #[ptr m,.pointer (some ⟨pc,po,none⟩),.bool mx,itV x,hV hp,.int .i64 dep] w (DelQP Q ord d iso h lo b xs mx x hp F w):=by
 intro h
 induction h using Nat.strongRecOn with
 | _ h ihh =>
 intro lo b xs F w pc po mx x hp dep hc hL hBF hdep hlo htP ha hbig hpp hH hHF hmx hVd hLq
 have ht:=htP.tr
 obtain ⟨bi,oi,cap,ks,ch,ho,hl1,hl2,hoF,hin⟩:=htP.open
 have hbl:=wok_lt ho.wb
 have hbil:=wok_lt ho.wi
 have hml:=wok_lt hc.wok
 have hcap:=ho.le
 have hm:∀ o,¬ F m o:=fun o g=>by have:=hBF m o g;omega
 have hFh:∀ y o,F y o->¬ hF hp y o:=fun y o g k=>(hHF y k).2 o g
 have hHl:∀ y o,hF hp y o->y<w.heap.size:=fun y o g=>wok_lt (hH y g).wok
 have hmh:∀ o,¬ hF hp m o:=fun o g=>by have:=(hHF m g).1;omega
 have hak:Asc O (rkI ord) ks:=by
  rcases hin with ⟨_,_,hx,_⟩ | ⟨_,_,_,_,_,cs,_,_,n,_⟩
  ·rw [<-hx];exact ha
  ·refine List.Pairwise.sublist ?_ ha
   rw [n.eq];exact weave_sub _ _ (by simpa using n.len)
 have hkb:ks.length<4611686018427387904:=Nat.lt_of_le_of_lt hl2 (by clear hin hoF hFh;omega)
 have hch:∃ cc,ch = .pointer cc:=by
  rcases hin with ⟨_,h,_⟩ | ⟨_,bc,_,_,_,_,_,h,_⟩
  ·exact ⟨_,h⟩
  ·exact ⟨_,h⟩
 obtain ⟨cc,hcc⟩:=hch
 refine calls_of_W [.cell 12 33,.tmp 13] Try.func126 rfl Try.ntmps126 Try.results126 (by simp) fun e he=>?_
 have e0:e 0=ptr m:=he 0 _ rfl
 have e1:e 1 = .pointer (some ⟨pc,po,none⟩):=he 1 _ rfl
 have e2:e 2 = .bool mx:=he 2 _ rfl
 have e3:e 3=itV x:=he 3 _ rfl
 have e4:e 4=hV hp:=he 4 _ rfl
 have e5:e 5 = .int .i64 dep:=he 5 _ rfl
 clear he
 refine W_sq fun K hK=>(W_text [false,false,true] (by kernel_rfl) ?_);simp only [↓zZ1,↓reduceIte,Nat.reduceEqDiff,rg,ow_126]
 refine do_box (by simp only [evt];exact e3) fun w1 n1=>⟨trivial,?_⟩
 simp only [↓zZ1,↓reduceIte,Nat.reduceEqDiff,rg,ow_126]
 refine do_alloc dz_it fun w2 n2=>⟨trivial,?_⟩
 simp only [↓zZ1,↓reduceIte,Nat.reduceEqDiff,rg,ow_126]
 apply hK;clear hK K
 have X2:Ext noF w w2:=n1.ext.tr n2.ext
 have rk2:Row w2 w.heap.size 0 (E.cel x):=n2.ext.row n1.row fun _ _ g=>g
 have s1:=n1.size
 have s2:=n2.size
 obtain ⟨r0,hr0⟩:∃ r0,r0=w1.heap.size:=⟨_,rfl⟩
 have wr2:wok w2 r0 2:=by rw [hr0];exact n2.wok
 have hr0':r0=w.heap.size+1:=by omega
 rw [<-hr0]
 clear hr0
 have p2:=X2.rd hpp fun g=>g
 have i2:=X2.rd hc.iso fun g=>g
 have b2:=X2.rd ho.h0 fun g=>g
 refine W_sq fun K hK=>(W_text [true,true,false,true] (by kernel_rfl) ?_);simp only [↓zZ1,↓reduceIte,Nat.reduceEqDiff,rg,ow_126,e0,e1]
 refine do_call fn_96 (by simp only [zZ2,Nat.reduceEqDiff,↓reduceIte,zZ4]<;>rfl) (isoLoad_any m pc po b true iso w2 i2 p2 b2) ?_
 rintro _ w3 ⟨rfl,r3⟩
 refine ⟨trivial,?_⟩
 simp only [↓zZ1,↓reduceIte,Nat.reduceEqDiff,rg,ow_126]
 apply hK;clear hK K
 have x3:Ext noF w2 w3:=r3.ext
 have X3:Ext noF w w3:=X2.tr x3
 have rk3:=x3.row rk2 fun _ _ g=>g
 have wr3:=x3.wok wr2
 have s3:=x3.size
 have hs3:w.heap.size+2<=w3.heap.size:=by omega
 clear n1 n2 X2 rk2 wr2 s1 x3 r3 p2 i2 b2
 refine W_sq fun K hK=>(W_text [true] (by kernel_rfl) ?_);simp only [↓zZ1,↓reduceIte,Nat.reduceEqDiff,rg,ow_126]
 apply hK;clear hK K
 refine W_sq fun K hK=>(W_text [true] (by kernel_rfl) ?_);simp only [↓zZ1,↓reduceIte,Nat.reduceEqDiff,rg,ow_126]
 apply hK;clear hK K
 refine W_sqx fun J hJ=>?_
 have hend:∀ (e:Env) (w3:World) (fnd:Bool) (i:Nat),((mx=true/\fnd=true/\i=ks.length-1)\/(mx=false/\i=lb O (rkI ord) (rkI ord x) ks/\fnd=hit O (rkI ord) (rkI ord x) ks))->Ext (hF hp) w w3->HOk hp w3->Row w3 w.heap.size 0 (E.cel x)->wok w3 r0 2->w.heap.size+2<=w3.heap.size →
   e 0=ptr m->e 2 = .bool mx->e 4=hV hp->e 5 = .int .i64 dep->e 9=ptr w.heap.size->e 12=ptr r0->e 14=ptr b->e 15 = .int .i64 i->e 16 = .bool fnd->J e w3:=by
  clear e0 e1 e2 e3 e4 e5 X3 rk3 wr3 s2 s3 hs3
  clear e w3
  intro e w3 fnd i hfi X3 hH3 rk3 wr3 s3 e0 e2 e4 e5 e9 e12 e14 e15 e16
  refine hJ _ _ ?_;clear hJ J
  have o3:=ho.ext X3 fun y o g=>hFh y o (hoF y o g)
  have c3:=hc.ext X3 fun o _ _=>hmh o
  refine W_seq ?_
  rcases (id hin:_\/_) with ⟨rfl,hcn,hxk,hFo⟩ | ⟨h',bc,ba,oa,capc,cs,rfl,hcn,n,nT,nN⟩
  ·have hxk:=hxk.symm
   subst hxk
   rw [hcn] at o3
   refine W_sq fun K hK=>(W_text [true,false] (by kernel_rfl) ?_);simp only [↓zZ1,↓reduceIte,Nat.reduceEqDiff,rg,ow_126,e14]
   refine do_call fn_108 (by simp only [zZ2,Nat.reduceEqDiff,↓reduceIte,zZ4]<;>rfl) (leaf_any b none w3 o3.h3) ?_
   rintro _ w4 ⟨rfl,hw4⟩
   obtain rfl:w3=w4:=hw4.symm
   refine ⟨trivial,?_⟩
   simp only [↓zZ1,↓reduceIte,Nat.reduceEqDiff,rg,ow_126]
   apply hK;clear hK K
   refine W_true (by simp only [zZ2,Nat.reduceEqDiff,↓reduceIte,zZ3]<;>rfl) (W_seq ?_)
   refine W_sq fun K hK=>(W_text [true] (by kernel_rfl) ?_);simp only [↓zZ1,↓reduceIte,Nat.reduceEqDiff,rg,ow_126,e16]
   apply hK;clear hK K
   cases fnd with
   | false =>
    refine W_false (by simp only [zZ2,Nat.reduceEqDiff,↓reduceIte,zZ3]<;>rfl) (W_skip ?_)
    show W _ _ _ _ _ _
    have z3:=zIt_at c3
    refine W_sq fun K hK=>(W_text [true,true,true,true,false,true] (by kernel_rfl) ?_);simp only [↓zZ1,↓reduceIte,Nat.reduceEqDiff,rg,ow_126,e0,ptr_eq,z3]
    refine do_store (by simp only [zZ2,Nat.reduceEqDiff,↓reduceIte];exact e12) (by simp only [zZ2,Nat.reduceEqDiff,↓reduceIte,zZ3]<;>rfl) sz_33 (rb_len zIt) wr3 (by decide) (rb_oc zIt) fun w5 x5 r5 s5=>⟨trivial,?_⟩
    simp only [↓zZ1,↓reduceIte,Nat.reduceEqDiff,rg,ow_126]
    apply hK;clear hK K
    obtain ⟨hmx,hi,hh⟩:mx=false/\i=lb O (rkI ord) (rkI ord x) ks/\false=hit O (rkI ord) (rkI ord x) ks:=by
     rcases hfi with ⟨_,h,_⟩ | h
     ·cases h
     ·exact h
    subst hmx
    have X5:Ext (hF hp) w w5:=X3.trans x5 (fun _ _ g=>g) fun y o hy g=>by simp only [rng] at g;omega
    refine W_ret (endQ_ct e12 (by simp only [upd_eq,Nat.reduceEqDiff,↓reduceIte]<;>rfl) ld_33 (iX_at (show Row w5 r0 0 (E.cel zIt) from r5)) ⟨X5.mono fun _ _ _ g=>.inr g,hH3.ext x5 (fun hb hh o g=>?_),F,fun _ _ g=>.inl g,.inl ⟨delR_miss hh.symm,rfl,htP.ext X5 hFh⟩⟩)
    have:=hHl hb 0 hh
    simp only [rng] at g;omega
   | true =>
    refine W_true (by simp only [zZ2,Nat.reduceEqDiff,↓reduceIte,zZ3]<;>rfl) ?_
    have hi:i<ks.length:=by
     rcases hfi with ⟨_,_,h⟩ | ⟨_,h,hh⟩
     ·omega
     ·obtain ⟨k,hk,_⟩:=hit_at O (rkI ord) hh.symm
      rw [h];exact (List.getElem?_eq_some_iff.1 hk).1
    obtain ⟨k,hk⟩:∃ k,ks[i]? = some k:=⟨_,List.getElem?_eq_getElem hi⟩
    have hdel:delR O (rkI ord) mx (rkI ord x) ks=some (k,ks.eraseIdx i):=by
     rcases hfi with ⟨rfl,_,h⟩ | ⟨rfl,h,hh⟩
     ·have:ks=ks.dropLast++[k]:=by
       conv=>lhs;rw [<-List.dropLast_concat_getLast (l:=ks) (by intro h;rw [h] at hi;simp at hi)]
       congr 2
       rw [List.getLast_eq_getElem]
       subst h
       exact (List.getElem?_eq_some_iff.1 hk).2
      rw [h,dropL (by omega)]
      conv=>lhs;rw [this]
      exact delR_last
     ·rw [h] at hk ⊢
      exact delR_leaf hh.symm hk
    have hkv:=it_at o3.row hk
    refine W_sq fun K hK=>(W_text [true,true,true,true,true,true,true,false,false] (by kernel_rfl) ?_);simp only [↓zZ1,↓reduceIte,Nat.reduceEqDiff,rg,ow_126,e14,e15,ptr_eq,o3.h2,hi,hkv]
    refine do_alloc dz_it fun w4 n4=>⟨trivial,?_⟩
    simp only [↓zZ1,↓reduceIte,Nat.reduceEqDiff,rg,ow_126]
    refine do_store (by simp only [zZ2,Nat.reduceEqDiff,↓reduceIte,zZ3]<;>rfl) (by simp only [zZ2,Nat.reduceEqDiff,↓reduceIte,zZ3]<;>rfl) sz_33 (rb_len k) n4.wok (by decide) (rb_oc k) fun w5 x5 r5 s5=>⟨trivial,?_⟩
    simp only [↓zZ1,↓reduceIte,Nat.reduceEqDiff,rg,ow_126]
    apply hK;clear hK K
    have s4:=n4.size
    have X5:Ext noF w3 w5:=noF_of n4.ext x5 fun y o hy g=>by simp only [rng] at g;omega
    obtain ⟨q,hq⟩:∃ q,q=w3.heap.size:=⟨_,rfl⟩
    rw [<-hq] at r5 ⊢
    have rq5:Row w5 q 0 (E.cel k):=r5
    have o5:=o3.ext X5 fun _ _ _ g=>g
    have hqo:∀ o,¬ ownF E b bi oi cap q o:=fun o g=>by have:=ho.lt g;omega
    have hro:∀ o,¬ ownF E b bi oi cap r0 o:=fun o g=>by have:=ho.lt g;omega
    have hmo:∀ o,¬ ownF E b bi oi cap m o:=fun o g=>hm o (hoF _ _ g)
    have q1:=wadd1 i (by omega)
    have i1:i<=ks.length:=by omega
    have i2:i+1<=ks.length:=by omega
    obtain ⟨o1,h1,h1',-,k1⟩:=o5.se.from E_sz i i1
    obtain rfl:=h1' (by omega)
    obtain ⟨o2,h2,-,v2,-⟩:=o5.se.from E_sz (i+1) i2
    refine W_sq fun K hK=>(W_draw (some none) (some 13) [(0,0,0),(0,1,0),(0,2,0),(0,3,0),(0,4,0),(0,5,0),(0,6,0),(0,7,0),(0,8,0),(0,9,0),(0,10,0),(0,11,0),(0,12,0),(1,13,0)] mixed (by kernel_rfl) ?_);simp only [↓zZ1,↓reduceIte,Nat.reduceEqDiff,rg,ow_126,e14,e15,ptr_eq,o5.h2,q1,i1,i2,h1,h2]
    refine do_copy (by simp only [zZ2,Nat.reduceEqDiff,↓reduceIte,zZ3]<;>rfl) (by simp only [zZ2,Nat.reduceEqDiff,↓reduceIte,zZ3]<;>rfl) rb_eli (SlV.ext0 v2 (Ext.dr noF w5 (w5.drawn+1))) ((Ext.dr noF w5 (w5.drawn+1)).wok k1) (flat_oc E _) fun w6 x6 r6 s6=>⟨(by first | exact trivial | exact .inl trivial),?_⟩
    simp only [↓zZ1,↓reduceIte,Nat.reduceEqDiff,rg,ow_126]
    apply hK;clear hK K
    have hmn:min (ks.length-(i+1)) (ks.length-i)=ks.length-1-i:=by omega
    rw [hmn] at x6 r6
    rw [List.take_of_length_le (by rw [flat_length,List.length_drop,E_sz];omega)] at r6
    obtain ⟨z,g1,g2⟩:=o5.se.down (i:=i) hi x6.od r6
    have o6:=o5.step g1 g2
    have X6:Ext (ownF E b bi oi cap) w3 w6:=X5.trans g2 (fun _ _ g=>g.elim) fun _ _ _ g=>seF_own g
    have le:=List.length_eraseIdx_of_lt hi
    have hA:(ks.eraseIdx i++[z]).length=ks.length:=by rw [List.length_append,List.length_singleton];omega
    have h26:=o6.h2
    have h46:=o6.le
    rw [hA] at h26 h46
    have q2:=wsub1 ks.length (by omega) (by omega)
    have i3:ks.length-1<ks.length:=by omega
    have z6:=zIt_at (c3.ext X6 fun o _ _=>hmo o)
    refine W_sq fun K hK=>(W_draw (some none) (some 15) [(0,0,0),(0,1,0),(0,2,0),(0,3,0),(0,4,0),(0,5,0),(0,6,0),(0,7,0),(0,8,0),(0,9,0),(0,10,0),(0,11,0),(0,12,0),(0,13,0),(0,14,0),(1,15,0)] mixed (by kernel_rfl) ?_);simp only [↓zZ1,↓reduceIte,Nat.reduceEqDiff,rg,ow_126,e0,e14,ptr_eq,h26,q2,i3,z6]
    refine do_store (by simp only [zZ2,Nat.reduceEqDiff,↓reduceIte,zZ3]<;>rfl) (by simp only [zZ2,Nat.reduceEqDiff,↓reduceIte,zZ3]<;>rfl) sz_33 (rb_len zIt) o6.wi (by rw [E_sz];omega) (rb_oc zIt) fun w7 x7 r7 s7=>⟨(by first | exact trivial | exact .inl trivial),?_⟩
    simp only [↓zZ1,↓reduceIte,Nat.reduceEqDiff,rg,ow_126]
    apply hK;clear hK K
    obtain ⟨g3,g4⟩:=o6.se.set (i:=ks.length-1) (x:=zIt) (by rw [hA];omega) x7.od r7
    rw [show (ks.eraseIdx i++[z]).set (ks.length-1) zIt=ks.eraseIdx i++[zIt] by rw [show ks.length-1=(ks.eraseIdx i).length by omega];exact set_last] at g3
    have o7:=o6.step g3 g4
    have X7:Ext (ownF E b bi oi cap) w3 w7:=X6.tr (g4.mono fun _ _ _ g=>seF_own g)
    have hA':(ks.eraseIdx i++[zIt]).length=ks.length:=by rw [List.length_append,List.length_singleton];omega
    have h27:=o7.h2
    rw [hA'] at h27
    have i4:ks.length-1<=cap:=by omega
    refine W_sq fun K hK=>(W_draw (some none) (some 14) [(0,0,0),(0,1,0),(0,2,0),(0,3,0),(0,4,0),(0,5,0),(0,6,0),(0,7,0),(0,8,0),(0,9,0),(0,10,0),(0,11,0),(0,12,0),(0,13,0),(1,14,0)] mixed (by kernel_rfl) ?_);simp only [↓zZ1,↓reduceIte,Nat.reduceEqDiff,rg,ow_126,e14,ptr_eq,h27,q2,i4]
    refine do_store (by simp only [zZ2,Nat.reduceEqDiff,↓reduceIte,zZ3]<;>rfl) (by simp only [zZ2,Nat.reduceEqDiff,↓reduceIte,zZ3]<;>rfl) sz_25 rfl o7.wb (by decide) (oc_one rfl rfl) fun w8 x8 r8 s8=>⟨(by first | exact trivial | exact .inl trivial),?_⟩
    simp only [↓zZ1,↓reduceIte,Nat.reduceEqDiff,rg,ow_126]
    apply hK;clear hK K
    obtain ⟨g5,g6⟩:=o7.se.cut x8.od (by rw [le];exact (Row.cons.1 r8).1)
    have o8:=o7.step g5 g6
    have X8:Ext (ownF E b bi oi cap) w3 w8:=X7.tr (g6.mono fun _ _ _ g=>seF_own g)
    refine W_sq fun K hK=>(W_text [true,true,true,true,true,true,true,false] (by kernel_rfl) ?_);simp only [↓zZ1,↓reduceIte,Nat.reduceEqDiff,rg,ow_126,e14,ptr_eq,o8.h1,q2]
    refine do_store (by simp only [zZ2,Nat.reduceEqDiff,↓reduceIte,zZ3]<;>rfl) (by simp only [zZ2,Nat.reduceEqDiff,↓reduceIte,zZ3]<;>rfl) sz_3 rfl o8.wb (by decide) (oc_one rfl rfl) fun w9 x9 r9 s9=>⟨trivial,?_⟩
    simp only [↓zZ1,↓reduceIte,Nat.reduceEqDiff,rg,ow_126]
    apply hK;clear hK K
    have o9:=o8.cnt' x9 (Row.cons.1 r9).1
    have X9:Ext (ownF E b bi oi cap) w3 w9:=X8.tr (x9.mono fun _ _ _ g=>.inl g.1)
    have sz9:=X9.size
    have Y9:Ext (ownF E b bi oi cap) w5 w9:=(((g2.mono fun _ _ _ g=>seF_own g).tr (g4.mono fun _ _ _ g=>seF_own g)).tr (g6.mono fun _ _ _ g=>seF_own g)).tr (x9.mono fun _ _ _ g=>.inl g.1)
    have kq9:=iX_at (Y9.row rq5 fun j _=>hqo _)
    refine W_sq fun K hK=>(W_text [true,false,true] (by kernel_rfl) ?_);simp only [↓zZ1,↓reduceIte,Nat.reduceEqDiff,rg,ow_126,kq9]
    refine do_store (by simp only [zZ2,Nat.reduceEqDiff,↓reduceIte];exact e12) (by simp only [zZ2,Nat.reduceEqDiff,↓reduceIte,zZ3]<;>rfl) sz_33 (rb_len k) (X9.wok wr3) (by decide) (rb_oc k) fun w10 x10 r10 s10=>⟨trivial,?_⟩
    simp only [↓zZ1,↓reduceIte,Nat.reduceEqDiff,rg,ow_126]
    apply hK;clear hK K
    have X10:Ext (fun y o=>F y o\/hF hp y o) w w10:=(X3.trans X9 (fun _ _ g=>.inr g) fun y o _ g=>.inl (hoF y o g)).trans x10 (fun _ _ g=>g) fun y o hy g=>by simp only [rng] at g;omega
    have H10:HOk hp w10:=(hH3.ext X9 fun hb hh o g=>(hHF hb hh).2 o (hoF _ _ g)).ext x10 fun hb hh o g=>by
     have:=hHl hb 0 hh
     simp only [rng] at g;omega
    refine W_ret (endQ_ct e12 (by simp only [upd_eq,Nat.reduceEqDiff,↓reduceIte]<;>rfl) ld_33 (iX_at (show Row w10 r0 0 (E.cel k) from r10)) ⟨X10,H10,F,fun _ _ g=>.inl g,.inr ⟨k,ks.eraseIdx i,hdel,rfl,bi,oi,cap,?_,by omega,by omega,hFo⟩⟩)
    have o10:=o9.ext x10 fun y o g h=>by
     simp only [rng] at h
     exact hro o (by rw [<-h.1];exact g)
    rw [le]
    exact o10
  ·rw [hcn] at o3
   have hkF:∀ y o,kidF bc ba oa capc y o->F y o:=fun y o g=>(n.fp y o).2 (.inr (.inl g))
   have hcF:∀ c ∈ cs,∀ y o,c.F y o->F y o:=fun c hc y o g=>(n.fp y o).2 (.inr (.inr ⟨c,hc,g⟩))
   have nM:=n.mem
   have hj1:∀ j k,j<lb O (rkI ord) (rkI ord x) ks->ks[j]? = some k->O.lt (rkI ord k) (rkI ord x)=true:=fun j k hj hk=>by
    refine lb_take_lt O (rkI ord) (xs:=ks) k ?_
    rw [List.mem_iff_getElem?]
    exact ⟨j,by rw [List.getElem?_take,if_pos hj];exact hk⟩
   have hnext:∀ (j:Nat) (k:It) (c2:Kid It),ks[j]? = some k->cs[j+1]? = some c2->∀ y ∈ c2.xs,O.lt (rkI ord k) (rkI ord y)=true:=fun j k c2 hk hc2 y hy=>by
    obtain ⟨c0,hc0⟩:∃ c0,cs[j]? = some c0:=⟨_,List.getElem?_eq_getElem (by have:=(List.getElem?_eq_some_iff.1 hc2).1;omega)⟩
    have hx:=n.xs hc0
    rw [tl_step (Kid.at hc2) hk] at hx
    rw [hx] at ha
    have h1:=((Asc.append O (rkI ord)).1 ha).2.1
    exact (List.pairwise_cons.1 h1).1 y (by simp [hy])
   have hprev:∀ (j:Nat) (k:It) (a:Kid It),ks[j]? = some k->cs[j]? = some a->∀ y ∈ a.xs,O.lt (rkI ord y) (rkI ord k)=true:=fun j k a hk ha2 y hy=>by
    obtain ⟨c2,hc2⟩:∃ c2,cs[j+1]? = some c2:=⟨_,List.getElem?_eq_getElem (by have:=(List.getElem?_eq_some_iff.1 hk).1;have:=n.len;omega)⟩
    have hx:=n.xs ha2
    rw [tl_step (Kid.at hc2) hk] at hx
    rw [hx] at ha
    exact ((Asc.append O (rkI ord)).1 ha).2.2 y (by simp [hy]) k (by simp)
   have hj2:∀ a ∈ cs.take (lb O (rkI ord) (rkI ord x) ks),∀ y ∈ a.xs,O.lt (rkI ord y) (rkI ord x)=true:=fun a ha2 y hy=>by
    obtain ⟨j,hj⟩:=List.mem_iff_getElem?.1 ha2
    rw [List.getElem?_take] at hj
    split at hj
    ·rename_i hlt
     have hle:=lb_le O (rkI ord) (rkI ord x) ks
     obtain ⟨k,hk⟩:∃ k,ks[j]? = some k:=⟨_,List.getElem?_eq_getElem (by omega)⟩
     exact O.tr _ _ _ (hprev j k a hk hj y hy) (hj1 j k hlt hk)
    ·cases hj
   have hcond:∀ (i:Nat) (ks':List It),i=lb O (rkI ord) (rkI ord x) ks->(∀ j,j<i->ks'[j]? = ks[j]?) →
     (∀ k,0<(cs.take i).length->ks'[(cs.take i).length-1]? = some k->∀ S,Q k S)/\(∀ a ∈ cs.take i,∀ y ∈ a.xs,∀ S,Q y S)/\(∀ k,1<(cs.take i).length->ks'[(cs.take i).length-2]? = some k->∀ S,Q k S) ∧
     ∀ c2 B',cs.drop (i+1)=c2::B'->∀ l y r,c2.xs=l++y::r->Q y r:=fun i ks' hi hks=>by
    have hle:=lb_le O (rkI ord) (rkI ord x) ks
    have hti:(cs.take i).length=i:=by rw [List.length_take];have:=n.len;omega
    rw [hti]
    refine ⟨fun k h0 hk S=>?_,fun a ha2 y hy S=>?_,fun k h0 hk S=>?_,fun c2 B' hd l y r hs=>?_⟩
    ·rw [hks _ (by omega)] at hk
     exact hVd k (nM.1 k (List.mem_of_getElem? hk)) (hj1 _ k (by omega) hk) S
    ·rw [hi] at ha2
     exact hVd y (nM.2 a (List.mem_of_mem_take ha2) y hy) (hj2 a ha2 y hy) S
    ·rw [hks _ (by omega)] at hk
     exact hVd k (nM.1 k (List.mem_of_getElem? hk)) (hj1 _ k (by omega) hk) S
    ·have hc2:cs[i+1]? = some c2:=by
      have:=congrArg (fun l=>l[0]?) hd
      simpa using this
     obtain ⟨k,hk⟩:∃ k,ks[i]? = some k:=⟨_,List.getElem?_eq_getElem (by have:=(List.getElem?_eq_some_iff.1 hc2).1;have:=n.len;omega)⟩
     have hnlt:O.lt (rkI ord k) (rkI ord x)=false:=by rw [hi] at hk;exact lb_ge O (rkI ord) hk
     exact hLq k c2.xs l y r hnlt (hnext i k c2 hk hc2 y (by rw [hs];simp)) hs (nN i k c2.xs hk (Kid.at hc2))
   have n3:=n.ext X3 (fun y o g=>hFh y o (hkF y o g)) fun c hc y o g=>hFh y o (hcF c hc y o g)
   refine W_sq fun K hK=>(W_text [true,false] (by kernel_rfl) ?_);simp only [↓zZ1,↓reduceIte,Nat.reduceEqDiff,rg,ow_126,e14]
   refine do_call fn_108 (by simp only [zZ2,Nat.reduceEqDiff,↓reduceIte,zZ4]<;>rfl) (leaf_any b (some ⟨bc,0,none⟩) w3 o3.h3) ?_
   rintro _ w4 ⟨rfl,hw4⟩
   obtain rfl:w3=w4:=hw4.symm
   refine ⟨trivial,?_⟩
   simp only [↓zZ1,↓reduceIte,Nat.reduceEqDiff,rg,ow_126]
   apply hK;clear hK K
   refine W_false (by simp only [zZ2,Nat.reduceEqDiff,↓reduceIte,zZ3]<;>rfl) (W_skip ?_)
   show W _ _ _ _ _ _
   refine W_sq fun K hK=>(W_text [false] (by kernel_rfl) ?_);simp only [↓zZ1,↓reduceIte,Nat.reduceEqDiff,rg,ow_126]
   refine do_alloc dz_it fun w4 n4=>⟨trivial,?_⟩
   simp only [↓zZ1,↓reduceIte,Nat.reduceEqDiff,rg,ow_126]
   apply hK;clear hK K
   refine W_sq fun K hK=>(W_text [true] (by kernel_rfl) ?_);simp only [↓zZ1,↓reduceIte,Nat.reduceEqDiff,rg,ow_126]
   apply hK;clear hK K
   obtain ⟨q,hq⟩:∃ q,q=w3.heap.size:=⟨_,rfl⟩
   have wq4:wok w4 q 2:=by rw [hq];exact n4.wok
   have s4:=n4.size
   have x4:Ext noF w3 w4:=n4.ext
   rw [<-hq]
   have X4:Ext (hF hp) w w4:=X3.trans x4 (fun _ _ g=>g) fun _ _ _ g=>g.elim
   have H4:=hH3.ext0 x4
   have rk4:=x4.row rk3 fun _ _ g=>g
   have wr4:=x4.wok wr3
   have hs4:w.heap.size+3<=w4.heap.size:=by omega
   have hqs:w.heap.size+2<=q/\q<w4.heap.size:=by omega
   have o4:=o3.ext x4 fun _ _ _ g=>g
   have nn:=n3.ext x4 (fun _ _ _ g=>g) fun _ _ _ _ _ g=>g
   have nT4:∀ a ∈ cs,Tp E iso (d-1) (2*d-1) Q h' w4 (d-1) a.b a.xs a.F:=fun a ha=>(nT a ha).ext X4 fun y o g=>hFh y o (hcF a ha y o g)
   have hrq:r0 ≠ q:=by omega
   clear n3 o3 c3 X3 hH3 rk3 wr3 s3 n4 x4 s4 hq
   refine W_sqx fun J hJ=>?_
   have hyes:∀ (e:Env) (w5:World) (y:It) (A Bq:List (Kid It)) (c:Kid It) (ks' ys:List It) (F0 F3:Nat->Nat->Prop) (K0 K3:Nat),Shr E iso (d-1) (2*d-1) h' w5 b bc (xs.length:Nat) ks' A c Bq F0 F3 K0 K3->ks'.length=ks.length->(A++c::Bq).length=ks'.length+1->Tp E iso (d-1) (2*d-1) Q h' w5 (d-1-1) c.b c.xs c.F->(∀ a ∈ A++Bq,Tp E iso (d-1) (2*d-1) Q h' w5 (d-1) a.b a.xs a.F)->NP Q ((A++c::Bq).map Kid.xs) ks' →
     ((∀ k,0<A.length->ks'[A.length-1]? = some k->∀ S,Q k S)/\(∀ a ∈ A,∀ y ∈ a.xs,∀ S,Q y S)/\(∀ k,1<A.length->ks'[A.length-2]? = some k->∀ S,Q k S)/\∀ c2 B',Bq=c2::B'->∀ l y r,c2.xs=l++y::r->Q y r) →
     ys=weave ((A++c::Bq).map Kid.xs) ks'->delR O (rkI ord) mx (rkI ord x) xs=some (y,ys)->Ext (fun y o=>F y o\/hF hp y o) w w5->HOk hp w5->(∀ y o,(F0 y o\/F3 y o\/kinF (A++c::Bq) y o)->F y o\/w.heap.size<=y)->Row w5 q 0 (E.cel y)->wok w5 r0 2 →
     (∀ o,¬ (F0 q o\/F3 q o\/kinF (A++c::Bq) q o))->(∀ o,¬ (F0 r0 o\/F3 r0 o\/kinF (A++c::Bq) r0 o)) →
     e 0=ptr m->e 12=ptr r0->e 14=ptr b->e 15 = .int .i64 (A.length:Nat)->e 18=ptr q->e 19 = .bool true->J e w5:=by
    clear e0 e2 e4 e5 e9 e12 e14 e15 e16 X4 H4 rk4 wr4 wq4 o4 nn
    clear e
    intro e w5 y A Bq c ks' ys F0 F3 K0 K3 sh hkl hlen sT sR sN sC hys hdel X5 H5 hFs rq5 wr5 hqF hrF e0 e12 e14 e15 e18 e19
    refine hJ _ _ ?_;clear hJ J
    have hyl:=delR_len hdel
    refine W_seq ?_
    refine W_sq fun K hK=>(W_text [true,true] (by kernel_rfl) ?_);simp only [↓zZ1,↓reduceIte,Nat.reduceEqDiff,rg,ow_126,e19]
    apply hK;clear hK K
    refine W_false (by simp only [zZ2,Nat.reduceEqDiff,↓reduceIte,zZ3]<;>rfl) (W_skip ?_)
    show W _ _ _ _ _ _
    obtain ⟨bi',oi',cap',o5,hz,hK,hF0⟩:=sh.n0
    have q1:=wsub1 xs.length (by omega) (by omega)
    refine W_sq fun K hK=>(W_text [true,true,true,true,true,true,true,false] (by kernel_rfl) ?_);simp only [↓zZ1,↓reduceIte,Nat.reduceEqDiff,rg,ow_126,e14,ptr_eq,o5.h1,q1]
    refine do_store (by simp only [zZ2,Nat.reduceEqDiff,↓reduceIte,zZ3]<;>rfl) (by simp only [zZ2,Nat.reduceEqDiff,↓reduceIte,zZ3]<;>rfl) sz_3 rfl o5.wb (by decide) (oc_one rfl rfl) fun w6 x6 r6 s6=>⟨trivial,?_⟩
    simp only [↓zZ1,↓reduceIte,Nat.reduceEqDiff,rg,ow_126]
    apply hK;clear hK K
    have hb0:∀ y o,rng b 1 1 y o->F0 y o:=fun y o g=>(hF0 y o).2 (.inl g.1)
    have x6':Ext F0 w5 w6:=x6.mono fun y o _ g=>hb0 y o g
    have sh6:Shr E iso (d-1) (2*d-1) h' w6 b bc (ys.length:Nat) ks' A c Bq F0 F3 K0 K3:=⟨⟨bi',oi',cap',by rw [show ys.length=xs.length-1 by omega];exact o5.cnt' x6 (Row.cons.1 r6).1,hz,hK,hF0⟩,
     (kdO _ _).loc sh.n3 x6' sh.l0.d.symm,sh.l0,sh.t.ext x6' (sh.l0.g1 c (by simp)),fun a ha=>(sh.rest a ha).ext x6' (sh.l0.g1 a (by
      rcases List.mem_append.1 ha with ha | ha
      ·simp [ha]
      ·simp [ha]))⟩
    have sT6:=sT.ext x6' (sh.l0.g1 c (by simp))
    have sR6:∀ a ∈ A++Bq,Tp E iso (d-1) (2*d-1) Q h' w6 (d-1) a.b a.xs a.F:=fun a ha=>(sR a ha).ext x6' (sh.l0.g1 a (by
     rcases List.mem_append.1 ha with ha | ha
     ·simp [ha]
     ·simp [ha]))
    have X6:Ext (fun y o=>F y o\/hF hp y o) w w6:=X5.trans x6' (fun _ _ g=>g) fun y o hy g=>by
     rcases hFs y o (.inl g) with h | h
     ·exact .inl h
     ·omega
    have H6:HOk hp w6:=H5.ext x6' fun hb hh o g=>by
     rcases hFs hb o (.inl g) with h | h
     ·exact (hHF hb hh).2 o h
     ·have:=hHl hb 0 hh;omega
    have rq6:=x6'.row rq5 fun j _ g=>hqF _ (.inl g)
    have wr6:=x6'.wok wr5
    clear sh o5 X5 H5 rq5 wr5 x6 r6 s6 x6' hb0 q1 hz hK hF0
    have hmF:∀ o,¬ (F0 m o\/F3 m o\/kinF (A++c::Bq) m o):=fun o g=>by
     rcases hFs m o g with h | h
     ·exact hm o h
     ·omega
    have c6:=hc.ext X6 fun o _ _ g=>g.elim (hm o) (hmh o)
    refine W_sqx fun J hJ=>?_
    have hfin:∀ (e:Env) (w7:World) (F'':Nat->Nat->Prop),Tp E iso (d-1) (2*d-1) Q (h'+1) w7 (lo-1) b ys F''->Ext (fun y o=>F0 y o\/F3 y o\/kinF (A++c::Bq) y o) w6 w7->(∀ y o,F'' y o->(F0 y o\/F3 y o\/kinF (A++c::Bq) y o)\/w6.heap.size<=y) →
      e 12=ptr r0->e 18=ptr q->J e w7:=by
     clear e0 e12 e14 e15 e18 e19
     clear e
     intro e w7 F'' T7 x7 hF'' e12 e18
     refine hJ _ _ ?_;clear hJ J
     have rq7:=x7.row rq6 fun j _ g=>hqF _ g
     have kq7:=iX_at rq7
     have s6:=X6.size
     have s7:=x7.size
     refine W_sq fun K hK=>(W_text [true,false,true] (by kernel_rfl) ?_);simp only [↓zZ1,↓reduceIte,Nat.reduceEqDiff,rg,ow_126,e18,ptr_eq,kq7]
     refine do_store (by simp only [zZ2,Nat.reduceEqDiff,↓reduceIte];exact e12) (by simp only [zZ2,Nat.reduceEqDiff,↓reduceIte,zZ3]<;>rfl) sz_33 (rb_len y) (x7.wok wr6) (by decide) (rb_oc y) fun w8 x8 r8 s8=>⟨trivial,?_⟩
     simp only [↓zZ1,↓reduceIte,Nat.reduceEqDiff,rg,ow_126]
     apply hK;clear hK K
     have hold:∀ y o,(F0 y o\/F3 y o\/kinF (A++c::Bq) y o)->y<w.heap.size->F y o:=fun y o g hy=>(hFs y o g).resolve_right (by omega)
     refine W_ret (endQ_ct e12 (by simp only [upd_eq,Nat.reduceEqDiff,↓reduceIte]<;>rfl) ld_33 (iX_at (show Row w8 r0 0 (E.cel y) from r8)) ⟨(X6.trans x7 (fun _ _ g=>g) fun y o hy g=>.inl (hold y o g hy)).trans x8 (fun _ _ g=>g) fun y o hy g=>by simp only [rng] at g;omega,
      (H6.ext x7 fun hb hh o g=>?_).ext x8 fun hb hh o g=>?_,F'',fun y o g=>?_,.inr ⟨y,ys,hdel,rfl,T7.ext x8 fun y o g k=>?_⟩⟩)
     ·have:=hHl hb 0 hh
      exact (hHF hb hh).2 o (hold hb o g this)
     ·have:=hHl hb 0 hh
      simp only [rng] at g;omega
     ·rcases hF'' y o g with g | g
      ·exact hFs y o g
      ·exact .inr (by omega)
     ·simp only [rng] at k
      rcases hF'' y o g with g | g
      ·exact hrF o (by rw [<-k.1];exact g)
      ·have:=wok_lt wr6
       omega
    obtain ⟨a,nk,capn,hkn,hk1,hk2,hraise⟩:=sT6.keys
    obtain ⟨bi',oi',cap',o6,hz,hK,hF0⟩:=sh6.n0
    rcases sh6.n3 with ⟨h,_⟩ | ⟨bc',ba',oa',capc',hbc,k6,_,_⟩
    ·cases h
    obtain rfl:bc=bc':=by simpa [ptr] using hbc
    have hil:A.length<((A++c::Bq).map fun g=>some g.b).length:=by simp
    have hcp:=k6.ptr_at (j:=A.length) (p:=c.b) (by simp)
    by_cases hsh:nk<d-1
    ·have hb:decide ((nk:Int)<((d-1:Nat):Int))=true:=by simp only [decide_eq_true_eq];omega
     refine W_sq fun K hK=>(W_draw (some none) none [(0,0,0),(0,1,0),(0,2,0),(0,3,0),(0,4,0),(0,5,0),(0,6,0),(0,7,0),(0,8,0),(0,9,0),(0,10,0),(0,11,0),(0,12,0),(0,13,0),(0,14,0),(0,15,0),(0,16,0),(0,17,0)] mixed (by kernel_rfl) ?_);simp only [↓zZ1,↓reduceIte,Nat.reduceEqDiff,rg,ow_126,e0,e14,e15,ptr_eq,o6.h3,k6.hd,hil,hcp,hkn,c6.mn,hb]
     apply hK;clear hK K
     refine W_true (by simp only [zZ2,Nat.reduceEqDiff,↓reduceIte,zZ3]<;>rfl) ?_
     have D:=Ext.dr noF w6 (w6.drawn+1)
     refine W_rg fun K hK=>(W_text [true,true,true,false] (by kernel_rfl) ?_);simp only [↓zZ1,↓reduceIte,Nat.reduceEqDiff,rg,ow_126,e0,e14,e15]
     refine do_call fn_151 (by simp only [zZ2,Nat.reduceEqDiff,↓reduceIte,zZ4]<;>rfl) (reb_shrP m d iso hd hd' (c6.ext D fun _ _ _ g=>g) (sh6.ext0 D) hmF hlen (by omega) (by omega) (by rw [hys]) (by rw [<-hys];omega) (D.rd hkn fun g=>g) hsh hQ (sT6.ext D fun _ _ _ g=>g) (fun a ha=>(sR6 a ha).ext D fun _ _ _ g=>g) sN sC.1 sC.2.1 sC.2.2.1 sC.2.2.2) ?_
     rintro _ w7 ⟨F'',T7,x7,hF''⟩
     refine ⟨trivial,?_⟩
     simp only [↓zZ1,↓reduceIte,Nat.reduceEqDiff,rg,ow_126]
     apply hK;clear hK K
     rw [<-hys] at T7
     exact hfin _ _ F'' (T7.mono (by omega)) x7.od hF'' e12 e18
    ·have hb:decide ((nk:Int)<((d-1:Nat):Int))=false:=by simp only [decide_eq_false_iff_not];omega
     refine W_sq fun K hK=>(W_draw (some none) none [(0,0,0),(0,1,0),(0,2,0),(0,3,0),(0,4,0),(0,5,0),(0,6,0),(0,7,0),(0,8,0),(0,9,0),(0,10,0),(0,11,0),(0,12,0),(0,13,0),(0,14,0),(0,15,0),(0,16,0),(0,17,0)] mixed (by kernel_rfl) ?_);simp only [↓zZ1,↓reduceIte,Nat.reduceEqDiff,rg,ow_126,e0,e14,e15,ptr_eq,o6.h3,k6.hd,hil,hcp,hkn,c6.mn,hb]
     apply hK;clear hK K
     refine W_false (by simp only [zZ2,Nat.reduceEqDiff,↓reduceIte,zZ3]<;>rfl) (W_skip ?_)
     have T6:=sh6.fineP (lo:=lo-1) hlen (hraise (d-1) (by omega)) sR6 sN (by omega) (by omega) (by rw [hys])
     rw [<-hys] at T6
     exact hfin _ _ _ (T6.ext (Ext.dr noF _ _) fun _ _ _ g=>g) ((Ext.dr noF _ _).mono fun _ _ _ g=>g.elim) (fun y o g=>.inl g) e12 e18
   have hlt:∀ y o,F y o->y<w.heap.size:=ht.lt
   have hno:∀ (e:Env) (w5:World) (F':Nat->Nat->Prop),delR O (rkI ord) mx (rkI ord x) xs=none->Tp E iso (d-1) (2*d-1) Q (h'+1) w5 lo b xs F'->(∀ y o,F' y o->F y o\/w.heap.size<=y)->(∀ o,¬ F' r0 o)->Ext (fun y o=>F y o\/hF hp y o) w w5->HOk hp w5->wok w5 r0 2 →
     e 0=ptr m->e 12=ptr r0->e 19 = .bool false->J e w5:=by
    clear e0 e2 e4 e5 e9 e12 e14 e15 e16 X4 H4 rk4 wr4 wq4 o4 nn hyes
    clear e
    intro e w5 F' hdel T5 hF' hFr X5 H5 wr5 e0 e12 e19
    refine hJ _ _ ?_;clear hJ J
    refine W_seq ?_
    refine W_sq fun K hK=>(W_text [true,true] (by kernel_rfl) ?_);simp only [↓zZ1,↓reduceIte,Nat.reduceEqDiff,rg,ow_126,e19]
    apply hK;clear hK K
    refine W_true (by simp only [zZ2,Nat.reduceEqDiff,↓reduceIte,zZ3]<;>rfl) ?_
    have z5:=zIt_at (hc.ext X5 fun o _ _ g=>g.elim (hm o) (hmh o))
    refine W_sq fun K hK=>(W_text [true,true,true,true,false,true] (by kernel_rfl) ?_);simp only [↓zZ1,↓reduceIte,Nat.reduceEqDiff,rg,ow_126,e0,ptr_eq,z5]
    refine do_store (by simp only [zZ2,Nat.reduceEqDiff,↓reduceIte];exact e12) (by simp only [zZ2,Nat.reduceEqDiff,↓reduceIte,zZ3]<;>rfl) sz_33 (rb_len zIt) wr5 (by decide) (rb_oc zIt) fun w6 x6 r6 s6=>⟨trivial,?_⟩
    simp only [↓zZ1,↓reduceIte,Nat.reduceEqDiff,rg,ow_126]
    apply hK;clear hK K
    refine W_ret (endQ_ct e12 (by simp only [upd_eq,Nat.reduceEqDiff,↓reduceIte]<;>rfl) ld_33 (iX_at (show Row w6 r0 0 (E.cel zIt) from r6)) ⟨X5.trans x6 (fun _ _ g=>g) fun y o hy g=>by simp only [rng] at g;omega,
     H5.ext x6 fun hb hh o g=>?_,F',hF',.inl ⟨hdel,rfl,T5.ext x6 fun y o g k=>?_⟩⟩)
    ·have:=hHl hb 0 hh
     simp only [rng] at g;omega
    ·simp only [rng] at k
     exact hFr o (by rw [<-k.1];exact g)
   have hpost:∀ (e:Env) (w5 w6:World) (i:Nat) (c:Kid It) (F':Nat->Nat->Prop) (y:It) (zs:List It) (dl:Bool),i=lb O (rkI ord) (rkI ord x) ks->cs[i]? = some c->Ext (fun y o=>c.F y o\/hF hp y o) w4 w5->HOk hp w5->(∀ y o,F' y o->c.F y o\/w4.heap.size<=y)->Ext (rng q 0 2) w5 w6->Row w6 q 0 (E.cel y) →
     ((dl=true/\Tp E iso (d-1) (2*d-1) Q h' w5 (d-1-1) c.b zs F'/\delR O (rkI ord) mx (rkI ord x) xs=some (y,weave ((cs.map Kid.xs).set i zs) ks))\/(dl=false/\zs=c.xs/\Tp E iso (d-1) (2*d-1) Q h' w5 (d-1) c.b c.xs F'/\delR O (rkI ord) mx (rkI ord x) xs=none)) →
     e 0=ptr m->e 12=ptr r0->e 14=ptr b->e 15 = .int .i64 (i:Nat)->e 18=ptr q->e 19 = .bool dl->J e w6:=by
    clear e0 e2 e4 e5 e9 e12 e14 e15 e16
    clear e
    intro e w5 w6 i c F' y zs dl hilb hcs x5 H5 hF' x6 r6 hres e0 e12 e14 e15 e18 e19
    have hcm:=List.mem_of_getElem? hcs
    have hcl:∀ y o,c.F y o->y<w.heap.size:=fun y o g=>hlt y o (hcF c hcm y o g)
    have x46:Ext (fun y o=>(c.F y o\/hF hp y o)\/y=q) w4 w6:=x5.trans x6 (fun _ _ g=>.inl g) fun y o _ g=>.inr g.1
    have hG:∀ y o,F y o->((c.F y o\/hF hp y o)\/y=q)->c.F y o:=fun y o g k=>by
     rcases k with (k | k) | k
     ·exact k
     ·exact (hFh y o g k).elim
     ·have:=hlt y o g;omega
    have hF'q:∀ o,¬ F' q o:=fun o g=>by
     rcases hF' q o g with g | g
     ·have:=hcl q o g;omega
     ·omega
    have T6:∀ {lo':Nat} {zs':List It},Tp E iso (d-1) (2*d-1) Q h' w5 lo' c.b zs' F'->Tp E iso (d-1) (2*d-1) Q h' w6 lo' c.b zs' F':=fun T=>T.ext x6 fun y o g k=>hF'q o (by rw [<-k.1];exact g)
    have X6:Ext (fun y o=>F y o\/hF hp y o) w w6:=X4.trans x46 (fun _ _ g=>.inr g) fun y o hy g=>by
     rcases g with (g | g) | g
     ·exact .inl (hcF c hcm y o g)
     ·exact .inr g
     ·omega
    have H6:HOk hp w6:=H5.ext x6 fun hb hh o g=>by
     have:=hHl hb 0 hh
     simp only [rng] at g;omega
    have wr6:wok w6 r0 2:=x46.wok wr4
    obtain ⟨l1,l2⟩:=shr_len (d:=(⟨c.b,zs,F'⟩:Kid It)) hcs
    have hfp:∀ y o,(ownF E b bi oi cap y o\/kidF bc ba oa capc y o\/kinF (cs.take i++(⟨c.b,zs,F'⟩:Kid It)::cs.drop (i+1)) y o)->F y o\/w4.heap.size<=y:=fun y o g=>nn.shr_fp hcs hF' y o g
    have hfp':∀ y o,(ownF E b bi oi cap y o\/kidF bc ba oa capc y o\/kinF (cs.take i++(⟨c.b,zs,F'⟩:Kid It)::cs.drop (i+1)) y o)->F y o\/w.heap.size<=y:=fun y o g=>(hfp y o g).imp id fun g=>by omega
    have hfq:∀ (r:Nat) (o:Nat),w.heap.size<=r->r<w4.heap.size->¬ (ownF E b bi oi cap r o\/kidF bc ba oa capc r o\/kinF (cs.take i++(⟨c.b,zs,F'⟩:Kid It)::cs.drop (i+1)) r o):=fun r o h1 h2 g=>by
     rcases hfp r o g with g | g
     ·have:=hlt r o g;omega
     ·omega
    have sR:∀ a ∈ cs.take i++cs.drop (i+1),Tp E iso (d-1) (2*d-1) Q h' w6 (d-1) a.b a.xs a.F:=fun a ha=>by
     obtain ⟨h1,h2⟩:=n.others hcs a ha
     exact (nT4 a h1).ext x46 fun y o g k=>h2 y o g (hG y o (hcF a h1 y o g) k)
    have sN:NP Q ((cs.take i++(⟨c.b,zs,F'⟩:Kid It)::cs.drop (i+1)).map Kid.xs) ks:=by
     rw [shr_xs hcs]
     exact nN.set fun k h0 hk=>hVd k (nM.1 k (List.mem_of_getElem? hk)) (hj1 _ k (by omega) hk) _
    rcases hres with ⟨rfl,T5,hdel⟩ | ⟨rfl,rfl,T5,hdel⟩
    ·have sh:=nn.shr o4 (by omega) hcs x46 hG (T6 T5).tr hF'
     exact hyes e w6 y (cs.take i) (cs.drop (i+1)) ⟨c.b,zs,F'⟩ ks _ _ _ _ _ sh rfl (by rw [l1];exact n.len) (T6 T5) sR sN (hcond i ks hilb fun _ _=>rfl) rfl (by rw [shr_xs hcs];exact hdel) X6 H6 hfp' r6 wr6 (fun o g=>hfq q o (by omega) (by omega) g) (fun o g=>hfq r0 o (by omega) (by omega) g) e0 e12 e14 (by rw [l2];exact e15) e18 e19
    ·have sh:=nn.shr o4 (by omega) hcs x46 hG ((T6 T5).mono (by omega)).tr hF'
     have hset:(cs.map Kid.xs).set i c.xs=cs.map Kid.xs:=by
      obtain ⟨g1,g2⟩:=List.getElem?_eq_some_iff.1 (show (cs.map Kid.xs)[i]? = some c.xs by rw [List.getElem?_map,hcs];rfl)
      rw [<-g2];exact List.set_getElem_self g1
     have hxe:weave ((cs.take i++⟨c.b,c.xs,F'⟩::cs.drop (i+1)).map Kid.xs) ks=xs:=by rw [shr_xs hcs,hset];exact n.eq.symm
     have T:=sh.fineP (lo:=lo) (by rw [l1];exact n.len) (T6 T5) sR sN hl1 hl2 (by rw [hxe])
     rw [hxe] at T
     exact hno e w6 _ hdel T hfp' (fun o g=>hfq r0 o (by omega) (by omega) g) X6 H6 wr6 e0 e12 e19
   have hcell:∀ {i:Nat} {c:Kid It},cs[i]? = some c->rd w4 ba (oa+i)=some (ptr c.b):=fun hcs=>nn.kids.se.ptr_at (by simp [hcs])
   have hk0:=nn.kids.c0
   have hkx:=iX_at rk4
   have hlenc:∀ {i:Nat} {c:Kid It},cs[i]? = some c->c.xs.length<=xs.length:=fun hcs=>by
    rw [n.eq];exact weave_mem_length _ _ (by simpa using n.len) _ (List.mem_map_of_mem (List.mem_of_getElem? hcs))
   have hL4:Ls B m w4 ord:=hL.ext X4 (fun y o g=>by have:=(hHF y g).1;exact .inl (by omega)) (hmh 6)
   have c4:=hc.ext X4 fun o _ _=>hmh o
   have z4:=zIt_at c4
   have hcnl:=n.len
   have hll:(cs.map Kid.b).length=cs.length:=List.length_map _
   have D:=Ext.dr noF w4 (w4.drawn+1)
   refine W_sq fun K hK=>(W_text [true] (by kernel_rfl) ?_);simp only [↓zZ1,↓reduceIte,Nat.reduceEqDiff,rg,ow_126,e16]
   apply hK;clear hK K
   cases fnd with
   | false =>
    refine W_false (by simp only [zZ2,Nat.reduceEqDiff,↓reduceIte,zZ3]<;>rfl) ?_
    obtain ⟨rfl,hi,hh⟩:mx=false/\i=lb O (rkI ord) (rkI ord x) ks/\false=hit O (rkI ord) (rkI ord x) ks:=by
     rcases hfi with ⟨_,h,_⟩ | h
     ·cases h
     ·exact h
    have hik:i<=ks.length:=by rw [hi];exact lb_le O (rkI ord) _ _
    obtain ⟨c,hcs⟩:∃ c,cs[i]? = some c:=⟨_,List.getElem?_eq_getElem (by omega)⟩
    have hcm:=List.mem_of_getElem? hcs
    have hce:=hcell hcs
    have hil:i<(cs.map Kid.b).length:=by omega
    obtain ⟨A,C,hw⟩:=weave_at i (cs.map Kid.xs) ks (by simpa using n.len) hik
    have hcx:(cs.map Kid.xs)[i]? = some c.xs:=by rw [List.getElem?_map,hcs];rfl
    have hxs:xs=A++c.xs++C:=n.eq.trans (hw.eq hcx)
    have hac:Asc O (rkI ord) c.xs:=by
     rw [hxs] at ha
     exact ((Asc.append O (rkI ord)).1 ((Asc.append O (rkI ord)).1 ha).1).2.1
    obtain ⟨hA,hC⟩:=hw.mid O (rkI ord) hcx (n.eq ▸ ha) hi.symm hh.symm
    have hdm:=delR_mid (O:=O) (κ:=rkI ord) (m:=c.xs) hA hC
    rw [<-hxs] at hdm
    have q1:=wadd1 dep (by omega)
    have hle:=hlenc hcs
    refine W_rg fun K hK=>(W_semi (some none) (.take false 0 (.take false 1 (.take false 2 (.take false 3 (.take true 4 (.take false 5 (.take true 6 (.take false 7 (.take false 8 (.take false 9 (.take true 10 (.take false 11 (.take false 12 (.take false 13 (.bar 14 (.take false 15 (.take false 16 (.take false 17 (.bar 18 (.take false 19 .nil)))))))))))))))))))) mixed (by kernel_rfl) ?_);simp only [↓rgm,↓zZ1,↓reduceIte,Nat.reduceEqDiff,rg,ow_126,e0,e2,e4,e5,e9,e14,e15,ptr_eq,o4.h3,hk0,hil,hce,hkx,q1]
    refine do_call fn_126 (by simp only [zZ2,Nat.reduceEqDiff,↓reduceIte,zZ4]<;>rfl) (ihh h' (by omega) (d-1) c.b c.xs c.F _ ba (oa+i) false x hp (dep+1) (c4.ext D fun _ _ _ g=>g) (hL4.ext0 D) (fun y o g=>hBF y o (hcF c hcm y o g)) (by omega) (by omega) ((nT4 c hcm).ext D fun _ _ _ g=>g) hac (by omega) (D.rd hce fun g=>g) (H4.ext0 D) (fun hb hh=>⟨(hHF hb hh).1,fun o g=>(hHF hb hh).2 o (hcF c hcm hb o g)⟩) rfl (fun y hy=>hVd y (nM.2 c hcm y hy)) hLq) ?_
    rintro _ w5 ⟨X5,H5,F',hF',hres⟩
    have x45:=X5.od
    rcases hres with ⟨hd0,rfl,T5⟩ | ⟨y,yl,hd1,rfl,T5⟩
    ·refine ⟨trivial,?_⟩
     simp only [↓zZ1,↓reduceIte,Nat.reduceEqDiff,rg,ow_126,↓rgm]
     refine do_store (by simp only [zZ2,Nat.reduceEqDiff,↓reduceIte,zZ3]<;>rfl) (by simp only [zZ2,Nat.reduceEqDiff,↓reduceIte,zZ3]<;>rfl) sz_33 (rb_len zIt) (x45.wok wq4) (by decide) (rb_oc zIt) fun w6 x6 r6 s6=>⟨trivial,?_⟩
     simp only [↓zZ1,↓reduceIte,Nat.reduceEqDiff,rg,ow_126,↓rgm]
     apply hK;clear hK K
     exact hpost _ w5 w6 i c F' zIt c.xs false hi hcs x45 H5 hF' x6 r6 (.inr ⟨rfl,rfl,T5,by rw [hdm,hd0];rfl⟩) e0 e12 e14 e15 (by simp only [upd_eq,Nat.reduceEqDiff,↓reduceIte]<;>rfl) (by simp only [upd_eq,Nat.reduceEqDiff,↓reduceIte]<;>rfl)
    ·refine ⟨trivial,?_⟩
     simp only [↓zZ1,↓reduceIte,Nat.reduceEqDiff,rg,ow_126,↓rgm]
     refine do_store (by simp only [zZ2,Nat.reduceEqDiff,↓reduceIte,zZ3]<;>rfl) (by simp only [zZ2,Nat.reduceEqDiff,↓reduceIte,zZ3]<;>rfl) sz_33 (rb_len y) (x45.wok wq4) (by decide) (rb_oc y) fun w6 x6 r6 s6=>⟨trivial,?_⟩
     simp only [↓zZ1,↓reduceIte,Nat.reduceEqDiff,rg,ow_126,↓rgm]
     apply hK;clear hK K
     exact hpost _ w5 w6 i c F' y yl true hi hcs x45 H5 hF' x6 r6 (.inl ⟨rfl,T5,by rw [hdm,hd1,hw.set];rfl⟩) e0 e12 e14 e15 (by simp only [upd_eq,Nat.reduceEqDiff,↓reduceIte]<;>rfl) (by simp only [upd_eq,Nat.reduceEqDiff,↓reduceIte]<;>rfl)
   | true =>
    refine W_true (by simp only [zZ2,Nat.reduceEqDiff,↓reduceIte,zZ3]<;>rfl) ?_
    have hpos:∀ {i:Nat} {c:Kid It},cs[i]? = some c->c.xs ≠ []:=fun hcs hnil=>by
     obtain ⟨bi1,oi1,cap1,ks1,ch1,ho1,hl11,hl12,hoF1,hin1⟩:=(n.sub _ (List.mem_of_getElem? hcs)).open
     rcases hin1 with ⟨_,_,hx,_⟩ | ⟨_,_,_,_,_,cs1,_,_,n1⟩
     ·rw [hnil] at hx;rw [<-hx] at hl11;simp at hl11;omega
     ·have:=(weave_sub (cs1.map Kid.xs) ks1 (by rw [List.length_map];exact n1.len)).length_le
      rw [<-n1.eq,hnil] at this
      simp at this;rw [this] at hl11;simp at hl11;omega
    cases mx with
    | true=>cases hmx
    | false =>
     refine W_sq fun K hK=>(W_text [true] (by kernel_rfl) ?_);simp only [↓zZ1,↓reduceIte,Nat.reduceEqDiff,rg,ow_126,e2]
     apply hK;clear hK K
     refine W_false (by simp only [zZ2,Nat.reduceEqDiff,↓reduceIte,zZ3]<;>rfl) ?_
     obtain ⟨hi,hh⟩:i=lb O (rkI ord) (rkI ord x) ks/\true=hit O (rkI ord) (rkI ord x) ks:=by
      rcases hfi with ⟨h,_⟩ | ⟨_,h⟩
      ·cases h
      ·exact h
     obtain ⟨kk,hk1,hk2⟩:=hit_at O (rkI ord) hh.symm
     rw [<-hi] at hk1
     have hik:=(List.getElem?_eq_some_iff.1 hk1).1
     obtain ⟨c,hcs⟩:∃ c,cs[i]? = some c:=⟨_,List.getElem?_eq_getElem (by omega)⟩
     have hcm:=List.mem_of_getElem? hcs
     have hil:i<(cs.map Kid.b).length:=by omega
     have hle:=hlenc hcs
     have hne:=hpos hcs
     have hkv:=it_at o4.row hk1
     have hsp:cs.map Kid.xs=(cs.take i).map Kid.xs++c.xs::(cs.drop (i+1)).map Kid.xs:=by
      have h3:=List.getElem?_eq_some_iff.1 hcs
      have:=List.take_append_drop i cs
      rw [List.drop_eq_getElem_cons h3.1,h3.2] at this
      conv=>lhs;rw [<-this]
      simp
     have hLl:((cs.take i).map Kid.xs).length=i:=by rw [List.length_map,List.length_take];omega
     obtain ⟨A,C,hA⟩:=weave_ahead (L:=(cs.take i).map Kid.xs) (B:=(cs.drop (i+1)).map Kid.xs) (ks:=ks) (k:=kk) (by rw [hLl];exact hk1)
     rw [hLl] at hA
     have hxs:xs=A++c.xs++kk::C:=by
      rw [n.eq,hsp,<-hA c.xs kk]
      obtain ⟨g1,g2⟩:=List.getElem?_eq_some_iff.1 hk1
      rw [<-g2,List.set_getElem_self g1]
     have hac:Asc O (rkI ord) c.xs:=by
      rw [hxs] at ha
      exact ((Asc.append O (rkI ord)).1 ((Asc.append O (rkI ord)).1 ha).1).2.1
     have hdk:delR O (rkI ord) false (rkI ord x) xs=some (kk,A++c.xs++C):=by
      rw [hk2,hxs]
      exact delR_key (by rw [<-hxs];exact ha)
     refine W_sq fun K hK=>(W_text [true,true,true,true,true,true,true,false] (by kernel_rfl) ?_);simp only [↓zZ1,↓reduceIte,Nat.reduceEqDiff,rg,ow_126,e14,e15,ptr_eq,o4.h2,hik,hkv]
     refine do_store (by simp only [zZ2,Nat.reduceEqDiff,↓reduceIte,zZ3]<;>rfl) (by simp only [zZ2,Nat.reduceEqDiff,↓reduceIte,zZ3]<;>rfl) sz_33 (rb_len kk) wq4 (by decide) (rb_oc kk) fun w5 x5 r5 s5=>⟨trivial,?_⟩
     simp only [↓zZ1,↓reduceIte,Nat.reduceEqDiff,rg,ow_126]
     apply hK;clear hK K
     have hqn:∀ y o,F y o->¬ rng q 0 2 y o:=fun y o g k=>by have:=hlt y o g;have:=k.1;omega
     have o5:=o4.ext x5 fun y o g=>hqn y o (hoF y o g)
     have n5:=nn.ext x5 (fun y o g=>hqn y o (hkF y o g)) fun a ha y o g=>hqn y o (hcF a ha y o g)
     have nT5:∀ a ∈ cs,Tp E iso (d-1) (2*d-1) Q h' w5 (d-1) a.b a.xs a.F:=fun a ha=>(nT4 a ha).ext x5 fun y o g=>hqn y o (hcF a ha y o g)
     have hmq:∀ o,¬ rng q 0 2 m o:=fun o k=>by have:=k.1;omega
     have c5:=c4.ext x5 fun o _ _=>hmq o
     have hL5:Ls B m w5 ord:=hL4.ext x5 (fun y o g=>.inl (by have:=g.1;omega)) (hmq 6)
     have z5:=zIt_at c5
     have hce5:=n5.kids.se.ptr_at (j:=i) (p:=c.b) (by simp [hcs])
     have hk5:=n5.kids.c0
     have X5:Ext (fun y o=>F y o\/hF hp y o) w w5:=(X4.mono fun _ _ _ g=>.inr g).trans x5 (fun _ _ g=>g) fun y o hy g=>by have:=g.1;omega
     have H5:HOk hp w5:=H4.ext x5 fun hb hh o g=>by
      have:=hHl hb 0 hh
      have:=g.1;omega
     have wr5:=x5.wok wr4
     have rq5:Row w5 q 0 (E.cel kk):=r5
     have hq5:q<w5.heap.size:=by have:=x5.size;omega
     have L0:=on3_0 b bc m
     have L1:=on3_1 b bc m
     have L2:=on3_2 b bc m
     have hbcl:=wok_lt n5.kids.wc
     have hb5:b<w5.heap.size/\m<w5.heap.size:=⟨by omega,by omega⟩
     have hcb:∀ o,¬ c.F b o:=fun o g=>n.ap.own c hcm b o g (.inl rfl)
     have hcbc:∀ o,¬ c.F bc o:=fun o g=>n.ap.kid c hcm bc o g (.inl rfl)
     have hcmF:∀ o,¬ c.F m o:=fun o g=>hm o (hcF c hcm m o g)
     have D5:=Ext.dr noF w5 (w5.drawn+1)
     have kin3:∀ {G:Nat->Nat->Prop} {u v:World},Ext G u v->(∀ x ∈ [b,bc,m],x<u.heap.size/\∀ o,¬ G x o)->keeps (some (some [b,bc,m])) u v:=fun x h=>keeps_on x h
     clear D hk0 hkx c4 z4 hL4 X4 H4 rk4 wr4 o4 x5 r5 hpost hno
     refine W_sq fun K hK=>(W_free (some (some [b,bc,m])) (.take 0 (.take 1 (.take 2 (.take 3 (.take 4 (.take 5 (.take 6 (.take 7 (.take 8 (.take 9 (.take 10 (.take 11 (.take 12 (.split 13 (.take 14 (.take 15 (.take 16 (.act 17 (.act 18 (.take 19 .nil)))))) 17 (.act 13 (.take 14 (.take 15 (.take 16 (.act 18 (.take 19 .nil)))))))))))))))))))) mixed (by kernel_rfl) ?_);simp only [↓zZ1,↓reduceIte,Nat.reduceEqDiff,rg,ow_126,e0,e14,e15,ptr_eq,o5.h3,hk5,hil,hce5,z5,L0,L1,L2,rB_on]
     have hjoin:∀ (e:Env) (w8:World) (t:Nat) (y:It) (yl:List It) (F':Nat->Nat->Prop),delR O (rkI ord) true (rkI ord zIt) c.xs=some (y,yl)->Tr E iso (d-1) (2*d-1) h' w8 (d-1-1) c.b yl F'->(∀ y o,F' y o->c.F y o\/w5.heap.size<=y)->Ext c.F w5 w8->Row w8 t 0 (E.cel y) →
       e 0=ptr m->e 12=ptr r0->e 14=ptr b->e 15 = .int .i64 (i:Nat)->e 18=ptr q->e 20=ptr t->K e w8:=by
      clear e0 e2 e4 e5 e9 e12 e14 e15 e16
      clear e
      intro e w8 t y yl F' hdl T8 hF' x58 rt8 e0 e12 e14 e15 e18 e20
      apply hK;clear hK K
      refine W_sq fun K hK=>(W_text [true] (by kernel_rfl) ?_);simp only [↓zZ1,↓reduceIte,Nat.reduceEqDiff,rg,ow_126]
      apply hK;clear hK K
      have hown:∀ y o,ownF E b bi oi cap y o->¬ c.F y o:=fun y o g k=>n.ap.own c hcm y o k g
      have o8:=o5.ext x58 hown
      have ky:=iX_at rt8
      refine W_rg fun K hK=>(W_draw (some none) (some 7) [(0,0,0),(0,1,0),(0,2,0),(0,3,0),(0,4,0),(0,5,0),(0,6,0),(1,7,0)] mixed (by kernel_rfl) ?_);simp only [↓zZ1,↓reduceIte,Nat.reduceEqDiff,rg,ow_126,e14,e15,e20,ptr_eq,o8.h2,hik,ky]
      refine do_store (by simp only [zZ2,Nat.reduceEqDiff,↓reduceIte,zZ3]<;>rfl) (by simp only [zZ2,Nat.reduceEqDiff,↓reduceIte,zZ3]<;>rfl) sz_33 (rb_len y) o8.wi (by rw [E_sz];omega) (rb_oc y) fun w9 x9 r9 s9=>⟨(by first | exact trivial | exact .inl trivial),?_⟩
      simp only [↓zZ1,↓reduceIte,Nat.reduceEqDiff,rg,ow_126]
      apply hK;clear hK K
      have o9:=o8.set hik x9.od r9
      have x9':Ext (ownF E b bi oi cap) w8 w9:=x9.od.mono fun y o _ g=>.inr (by simp only [rng] at g ⊢;rw [E_sz];omega)
      obtain ⟨l1,l2⟩:=shr_len (d:=(⟨c.b,yl,F'⟩:Kid It)) hcs
      have sh:=n5.shr o5 (by omega) hcs x58 (fun _ _ _ g=>g) T8 hF'
      have hfp:∀ y o,(ownF E b bi oi cap y o\/kidF bc ba oa capc y o\/kinF (cs.take i++(⟨c.b,yl,F'⟩:Kid It)::cs.drop (i+1)) y o)->F y o\/w5.heap.size<=y:=fun y o g=>n5.shr_fp hcs hF' y o g
      have s5':=X5.size
      have sh9:Shr E iso (d-1) (2*d-1) h' w9 b bc (xs.length:Nat) (ks.set i y) (cs.take i) ⟨c.b,yl,F'⟩ (cs.drop (i+1)) (ownF E b bi oi cap) (kidF bc ba oa capc) bi ba :=
       ⟨⟨bi,oi,cap,o9,by omega,rfl,fun _ _=>Iff.rfl⟩,(kdO _ _).loc sh.n3 x9' sh.l0.d.symm,sh.l0,sh.t.ext x9' (sh.l0.g1 _ (by simp)),fun a ha=>(sh.rest a ha).ext x9' (sh.l0.g1 a (by
        rcases List.mem_append.1 ha with ha | ha
        ·simp [ha]
        ·simp [ha]))⟩
      have X9:Ext (fun y o=>F y o\/hF hp y o) w w9:=(X5.trans x58 (fun _ _ g=>g) fun y o _ g=>.inl (hcF c hcm y o g)).trans x9' (fun _ _ g=>g) fun y o _ g=>.inl (hoF y o g)
      have H9:HOk hp w9:=(H5.ext x58 fun hb hh o g=>(hHF hb hh).2 o (hcF c hcm hb o g)).ext x9' fun hb hh o g=>(hHF hb hh).2 o (hoF hb o g)
      have hcq:∀ o,¬ c.F q o:=fun o g=>by have:=hlt q o (hcF c hcm q o g);omega
      have hoq:∀ o,¬ ownF E b bi oi cap q o:=fun o g=>by have:=hlt q o (hoF q o g);omega
      have rq9:=x9'.row (x58.row rq5 fun j _=>hcq _) fun j _=>hoq _
      have wr9:=x9'.wok (x58.wok wr5)
      have hcxs:c.xs=yl++[y]:=by
       have:=delR_last (O:=O) (κ:=rkI ord) (q:=rkI ord zIt) (l:=c.xs.dropLast) (x:=c.xs.getLast hne)
       rw [List.dropLast_concat_getLast,hdl] at this
       simp only [Option.some.injEq,Prod.mk.injEq] at this
       rw [this.1,this.2,List.dropLast_concat_getLast]
      have hcv:∀ z ∈ c.xs,O.lt (rkI ord z) (rkI ord x)=true:=fun z hz=>by rw [hk2];exact hprev i kk c hk1 hcs z hz
      have hym:y ∈ c.xs:=by rw [hcxs];simp
      have sT9:Tp E iso (d-1) (2*d-1) Q h' w9 (d-1-1) c.b yl F':=Tp.of sh9.t fun z hz S _=>hVd z (nM.2 c hcm z (by rw [hcxs];simp [hz])) (hcv z (by rw [hcxs];simp [hz])) S
      have sR9:∀ a ∈ cs.take i++cs.drop (i+1),Tp E iso (d-1) (2*d-1) Q h' w9 (d-1) a.b a.xs a.F:=fun a ha=>by
       obtain ⟨h1,h2⟩:=n.others hcs a ha
       exact ((nT5 a h1).ext x58 h2).ext x9' (sh.l0.g1 a (by
        rcases List.mem_append.1 ha with ha | ha
        ·simp [ha]
        ·simp [ha]))
      have sN9:NP Q ((cs.take i++(⟨c.b,yl,F'⟩:Kid It)::cs.drop (i+1)).map Kid.xs) (ks.set i y):=by
       rw [shr_xs hcs]
       refine NP.setk (nN.set fun k h0 hk=>hVd k (nM.1 k (List.mem_of_getElem? hk)) (hj1 _ k (by omega) hk) _) fun dd _=>hVd y (nM.2 c hcm y hym) (hcv y hym) _
      refine hyes _ w9 kk (cs.take i) (cs.drop (i+1)) ⟨c.b,yl,F'⟩ (ks.set i y) (A++c.xs++C) _ _ _ _ sh9 List.length_set (by rw [l1,List.length_set];exact n.len) sT9 sR9 sN9 (hcond i _ hi fun j hj=>by rw [List.getElem?_set,if_neg (by omega)]) ?_ hdk X9 H9 (fun y o g=>(hfp y o g).imp id fun g=>by omega) rq9 wr9 (fun o g=>?_) (fun o g=>?_)
       e0 e12 e14 (by simp only [upd_eq,Nat.reduceEqDiff,↓reduceIte];rw [l2];exact e15) e18 (by simp only [upd_eq,Nat.reduceEqDiff,↓reduceIte]<;>rfl)
      ·rw [List.map_append,List.map_cons,hA,hcxs];simp
      ·rcases hfp q o g with g | g
       ·have:=hlt q o g;omega
       ·omega
      ·rcases hfp r0 o g with g | g
       ·have:=hlt r0 o g;omega
       ·omega
     have hx3:∀ x ∈ [b,bc,m],x<w5.heap.size/\∀ o,¬ (c.F x o\/hF none x o):=fun x hx=>by
      simp only [List.mem_cons,List.not_mem_nil,or_false] at hx
      rcases hx with rfl | rfl | rfl
      ·exact ⟨hb5.1,fun o g=>g.elim (hcb o) fun g=>by cases g⟩
      ·exact ⟨hbcl,fun o g=>g.elim (hcbc o) fun g=>by cases g⟩
      ·exact ⟨hb5.2,fun o g=>g.elim (hcmF o) fun g=>by cases g⟩
     have hx3l:∀ x ∈ [b,bc,m],x<w5.heap.size:=fun x hx=>(hx3 x hx).1
     have hcl:∀ y o,c.F y o->y<w5.heap.size:=fun y o g=>by have:=hlt y o (hcF c hcm y o g);omega
     have nohit:∀ {P:Prop},delR O (rkI ord) true (rkI ord zIt) c.xs=none->P:=fun hd0=>by
      have:=delR_last (O:=O) (κ:=rkI ord) (q:=rkI ord zIt) (l:=c.xs.dropLast) (x:=c.xs.getLast hne)
      rw [List.dropLast_concat_getLast,hd0] at this
      cases this
     refine ⟨?_,?_⟩
     ·refine do_call fn_126 (by simp only [zZ2,Nat.reduceEqDiff,↓reduceIte,zZ4]<;>rfl) (del_any B m d iso ord hd hd' h' (d-1) c.b c.xs c.F _ ba (oa+i) true zIt none 0 (c5.ext D5 fun _ _ _ g=>g) (hL5.ext0 D5) (fun y o g=>hBF y o (hcF c hcm y o g)) (by omega) (by omega) ((n5.sub c hcm).ext D5 fun _ _ _ g=>g) hac (by omega) (D5.rd hce5 fun g=>g) (HOk.none _) fun hb hh=>by cases hh) ?_
      rintro _ w6 ⟨X6,_,F',hF',hres⟩
      rcases hres with ⟨hd0,_⟩ | ⟨y,yl,hd1,rfl,T6⟩
      ·exact nohit hd0
      ·have x56:Ext c.F w5 w6:=X6.od.mono fun y o _ g=>g.elim id fun g=>by cases g
       have s56:=x56.size
       refine ⟨.inr (kin3 X6 hx3),?_⟩
       simp only [↓zZ1,↓reduceIte,Nat.reduceEqDiff,rg,ow_126]
       refine do_alloc dz_it fun w7 n7=>⟨.inr (n7.keep _ fun x hx=>by have:=hx3l x hx;omega),?_⟩
       simp only [↓zZ1,↓reduceIte,Nat.reduceEqDiff,rg,ow_126]
       have s7:=n7.size
       refine do_store (by simp only [zZ2,Nat.reduceEqDiff,↓reduceIte,zZ3]<;>rfl) (by simp only [zZ2,Nat.reduceEqDiff,↓reduceIte,zZ3]<;>rfl) sz_33 (rb_len y) n7.wok (by decide) (rb_oc y) fun w8 x8 r8 s8=>⟨.inr (kin3 x8 fun x hx=>⟨by have:=hx3l x hx;omega,fun o g=>by have:=hx3l x hx;have:=g.1;omega⟩),?_⟩
       simp only [↓zZ1,↓reduceIte,Nat.reduceEqDiff,rg,ow_126]
       refine hjoin _ w8 w6.heap.size y yl F' hd1 ((T6.ext n7.ext fun _ _ _ g=>g).ext x8 fun y o g k=>?_) hF' ((x56.trans n7.ext (fun _ _ g=>g) fun _ _ _ g=>g.elim).trans x8 (fun _ _ g=>g) fun y o hy g=>?_) r8
        e0 e12 e14 e15 (by simp only [upd_eq,Nat.reduceEqDiff,↓reduceIte]<;>rfl) (by simp only [upd_eq,Nat.reduceEqDiff,↓reduceIte]<;>rfl)
       ·have:=T6.lt y o g;have:=k.1;omega
       ·have:=g.1;omega
     ·refine do_alloc dz_it fun w6 n6=>⟨.inr (n6.keep _ hx3l),?_⟩
      simp only [↓zZ1,↓reduceIte,Nat.reduceEqDiff,rg,ow_126]
      have n6':=n6.od
      have s6:=n6'.size
      refine do_call fn_126 (by simp only [zZ2,Nat.reduceEqDiff,↓reduceIte,zZ4]<;>rfl) (del_any B m d iso ord hd hd' h' (d-1) c.b c.xs c.F w6 ba (oa+i) true zIt none 0 (c5.ext n6'.ext fun _ _ _ g=>g) (hL5.ext0 n6'.ext) (fun y o g=>hBF y o (hcF c hcm y o g)) (by omega) (by omega) ((n5.sub c hcm).ext n6'.ext fun _ _ _ g=>g) hac (by omega) (n6'.ext.rd hce5 fun g=>g) (HOk.none _) fun hb hh=>by cases hh) ?_
      rintro _ w7 ⟨X7,_,F',hF',hres⟩
      rcases hres with ⟨hd0,_⟩ | ⟨y,yl,hd1,rfl,T7⟩
      ·exact nohit hd0
      ·have x67:Ext c.F w6 w7:=X7.mono fun y o _ g=>g.elim id fun g=>by cases g
       have x57:Ext c.F w5 w7:=n6'.ext.trans x67 (fun _ _ g=>g.elim) fun _ _ _ g=>g
       refine ⟨.inr (kin3 X7 fun x hx=>⟨by have:=hx3l x hx;omega,(hx3 x hx).2⟩),?_⟩
       simp only [↓zZ1,↓reduceIte,Nat.reduceEqDiff,rg,ow_126]
       have s67:=x67.size
       refine do_store (by simp only [zZ2,Nat.reduceEqDiff,↓reduceIte,zZ3]<;>rfl) (by simp only [zZ2,Nat.reduceEqDiff,↓reduceIte,zZ3]<;>rfl) sz_33 (rb_len y) (x67.wok n6.wok) (by decide) (rb_oc y) fun w8 x8 r8 s8=>⟨.inr (kin3 x8 fun x hx=>⟨by have:=hx3l x hx;omega,fun o g=>by have:=hx3l x hx;have:=g.1;rw [sz_dr] at this;omega⟩),?_⟩
       simp only [↓zZ1,↓reduceIte,Nat.reduceEqDiff,rg,ow_126]
       refine hjoin _ w8 w5.heap.size y yl F' hd1 (T7.ext x8 fun y o g k=>?_) (fun y o g=>(hF' y o g).imp id fun g=>by omega) (x57.trans x8 (fun _ _ g=>g) fun y o hy g=>?_) r8
        e0 e12 e14 e15 (by simp only [upd_eq,Nat.reduceEqDiff,↓reduceIte]<;>rfl) (by simp only [upd_eq,Nat.reduceEqDiff,↓reduceIte]<;>rfl)
       ·have h1:y=w5.heap.size:=k.1
        rcases hF' y o g with g | g
        ·have:=hcl y o g;omega
        ·omega
       ·have h1:y=w5.heap.size:=g.1
        omega
 have o3:=ho.ext X3 fun _ _ _ g=>g
 refine W_sq fun K hK=>(W_text [true] (by kernel_rfl) ?_);simp only [↓zZ1,↓reduceIte,Nat.reduceEqDiff,rg,ow_126,e2]
 apply hK;clear hK K
 cases mx with
 | true =>
  refine W_true (by simp only [zZ2,Nat.reduceEqDiff,↓reduceIte,zZ3]<;>rfl) ?_
  have q1:=wsub1 ks.length (by omega) (by omega)
  refine W_rg fun K hK=>(W_text [true,true,true,true,true,true,true,true] (by kernel_rfl) ?_);simp only [↓zZ1,↓reduceIte,Nat.reduceEqDiff,rg,ow_126,ptr_eq,o3.h2,q1]
  apply hK;clear hK K
  exact hend _ _ true (ks.length-1) (.inl ⟨rfl,rfl,rfl⟩) (X3.mono fun _ _ _ g=>g.elim) (hH.ext0 X3) rk3 wr3 (by omega) e0 e2 e4 e5 (by simp only [upd_eq,Nat.reduceEqDiff,↓reduceIte]<;>rfl) (by simp only [upd_eq,Nat.reduceEqDiff,↓reduceIte]<;>rfl) (by simp only [upd_eq,Nat.reduceEqDiff,↓reduceIte]<;>rfl) (by simp only [upd_eq,Nat.reduceEqDiff,↓reduceIte]<;>rfl) (by simp only [upd_eq,Nat.reduceEqDiff,↓reduceIte]<;>rfl)
 | false =>
  refine W_false (by simp only [zZ2,Nat.reduceEqDiff,↓reduceIte,zZ3]<;>rfl) ?_
  have hkx:=iX_at rk3
  have h33:=o3.h3
  rw [hcc] at h33
  refine W_rg fun K hK=>(W_text [true,true,true,true,true,false,true,true,true,true,true] (by kernel_rfl) ?_);simp only [↓zZ1,↓reduceIte,Nat.reduceEqDiff,rg,ow_126,e0,e4,e5,hkx]
  refine do_call fn_97 (by simp only [zZ2,Nat.reduceEqDiff,↓reduceIte,zZ4]<;>rfl) (find_any B m b bi oi cap ord ks x cc hp dep w3 (hL.ext0 X3) o3.h2 h33 o3.row (by omega) hkb (by omega) hak (hH.ext0 X3) fun hb hh hbb=>(hHF hb hh).2 0 (hbb ▸ ht.self 0)) ?_
  rintro _ w4 ⟨rfl,X4,H4⟩
  refine ⟨trivial,?_⟩
  simp only [↓zZ1,↓reduceIte,Nat.reduceEqDiff,rg,ow_126,dsrch]
  apply hK;clear hK K
  have s4:=X4.size
  refine hend _ _ _ _ (.inr ⟨rfl,rfl,rfl⟩) (X3.trans X4 (fun _ _ g=>g.elim) fun _ _ _ g=>g) H4 (X4.row rk3 fun j _ g=>?_) (X4.wok wr3) (by omega) e0 e2 e4 e5 (by simp only [upd_eq,Nat.reduceEqDiff,↓reduceIte]<;>rfl) (by simp only [upd_eq,Nat.reduceEqDiff,↓reduceIte]<;>rfl) (by simp only [upd_eq,Nat.reduceEqDiff,↓reduceIte]<;>rfl) (by simp only [upd_eq,Nat.reduceEqDiff,↓reduceIte]<;>rfl) (by simp only [upd_eq,Nat.reduceEqDiff,↓reduceIte]<;>rfl)
  have:=hHl _ _ g
  omega
theorem delR_out {ord:List Int} {x:It} {xs:List It}:(delR O (rkI ord) false (rkI ord x) xs=none->at? O (rkI ord) (rkI ord x) xs=none/\hit O (rkI ord) (rkI ord x) xs=false/\del O (rkI ord) (rkI ord x) xs=xs) ∧
  (∀ {y ys},delR O (rkI ord) false (rkI ord x) xs=some (y,ys)->at? O (rkI ord) (rkI ord x) xs=some y/\hit O (rkI ord) (rkI ord x) xs=true/\del O (rkI ord) (rkI ord x) xs=ys):=by
 cases hh:hit O (rkI ord) (rkI ord x) xs with
 | false =>
  refine ⟨fun _=>⟨by simp [at?,hh],rfl,by simp [del,hh]⟩,fun {y ys} h=>?_⟩
  rw [delR_miss hh] at h;cases h
 | true =>
  obtain ⟨k,hk,_⟩:=hit_at O (rkI ord) hh
  refine ⟨fun h=>?_,fun {y ys} h=>?_⟩
  ·rw [delR_leaf hh hk] at h;cases h
  ·rw [delR_leaf hh hk] at h
   cases h
   exact ⟨by simp [at?,hh,hk],rfl,by simp [del,hh]⟩
structure TreeAtP (Q:It->List It->Prop) (B:Nat) (ord:List Int) (w:World) (m d:Nat) (iso:Int) (xs:List It) (F:Nat->Nat->Prop):Prop where
 cfg:Cfg w m iso d
 less:Ls B m w ord
 cnt:rd w m 3=some (.int .i64 xs.length)
 asc:Asc O (rkI ord) xs
 root:(xs=[]/\rd w m 2=some (.pointer none))\/∃ h b,rd w m 2=some (ptr b)/\Tp E iso (d-1) (2*d-1) Q h w 1 b xs F
 off:∀ o,¬ F m o
 lt:∀ y o,F y o->y<w.heap.size
 above:∀ y o,F y o->m<y
theorem TreeAtP.t {Q:It->List It->Prop} {B:Nat} {ord:List Int} {w:World} {m d:Nat} {iso:Int} {xs:List It} {F:Nat->Nat->Prop} (h:TreeAtP Q B ord w m d iso xs F):TreeAt B ord w m d iso xs F :=
 ⟨h.cfg,h.less,h.cnt,h.asc,h.root.imp id fun ⟨h',b,h1,h2⟩=>⟨h',b,h1,h2.tr⟩,h.off,h.lt,h.above⟩
theorem TreeAtP.extG {Q:It->List It->Prop} {B:Nat} {ord:List Int} {w w':World} {G:Nat->Nat->Prop} {m d:Nat} {iso:Int} {xs:List It} {F:Nat->Nat->Prop} (h:TreeAtP Q B ord w m d iso xs F) (x:Ext G w w') (hF:∀ y o,F y o->¬ G y o) (hm:∀ y o,G y o->m<y):TreeAtP Q B ord w' m d iso xs F:=by
 have t:=h.t.extG x hF hm
 exact ⟨t.cfg,t.less,t.cnt,t.asc,h.root.imp (fun ⟨h1,h2⟩=>⟨h1,x.rd h2 fun g=>Nat.lt_irrefl _ (hm _ _ g)⟩) fun ⟨h',b,h1,h2⟩=>⟨h',b,x.rd h1 fun g=>Nat.lt_irrefl _ (hm _ _ g),h2.ext x hF⟩,t.off,t.lt,t.above⟩
theorem TreeAtP.ext {Q:It->List It->Prop} {B:Nat} {ord:List Int} {w w':World} {m d:Nat} {iso:Int} {xs:List It} {F:Nat->Nat->Prop} (h:TreeAtP Q B ord w m d iso xs F) (x:Ext noF w w'):TreeAtP Q B ord w' m d iso xs F :=
 h.extG x (fun _ _ _ g=>g) fun _ _ g=>g.elim
theorem TreeAt.p {Q:It->List It->Prop} {B:Nat} {ord:List Int} {w:World} {m d:Nat} {iso:Int} {xs:List It} {F:Nat->Nat->Prop} (h:TreeAt B ord w m d iso xs F) (hx:∀ x ∈ xs,∀ S,(∀ s ∈ S,s ∈ xs)->Q x S):TreeAtP Q B ord w m d iso xs F :=
 ⟨h.cfg,h.less,h.cnt,h.asc,h.root.imp id fun ⟨h',b,h1,h2⟩=>⟨h',b,h1,Tp.of h2 hx⟩,h.off,h.lt,h.above⟩
theorem TreeAtP.imp {P Q:It->List It->Prop} {B:Nat} {ord:List Int} {w:World} {m d:Nat} {iso:Int} {xs:List It} {F:Nat->Nat->Prop} (h:TreeAtP P B ord w m d iso xs F) (hx:∀ x ∈ xs,∀ S,(∀ s ∈ S,s ∈ xs)->P x S->Q x S):TreeAtP Q B ord w m d iso xs F :=
 ⟨h.cfg,h.less,h.cnt,h.asc,h.root.imp id fun ⟨h',b,h1,h2⟩=>⟨h',b,h1,Tp.imp h2 hx⟩,h.off,h.lt,h.above⟩
set_option maxHeartbeats 4000000 in
set_option maxRecDepth 8000 in
theorem delHP_any (Q:It->List It->Prop) (hQ:Anti Q) (B m d:Nat) (iso:Int) (ord:List Int) (x:It) (hp:Option Nat) (hd:2<=d) (hd':d<=128) (xs:List It) (F:Nat->Nat->Prop) (w:World) (hM:TreeAtP Q B ord w m d iso xs F) (hbig:xs.length<1152921504606846976) (hH:HOk hp w) (hHF:∀ hb,hp=some hb->m<hb/\∀ o,¬ F hb o)
  (hVd:∀ y ∈ xs,O.lt (rkI ord y) (rkI ord x)=true->∀ S,Q y S) (hLq:∀ k S l y r,O.lt (rkI ord k) (rkI ord x)=false->O.lt (rkI ord k) (rkI ord y)=true->S=l++y::r->Q k S->Q y r) :
  CallK Try.prog 92 #[ptr m,itV x,hV hp] w fun v w'=>v = .tuple #[itV ((at? O (rkI ord) (rkI ord x) xs).getD zIt),.bool (hit O (rkI ord) (rkI ord x) xs)]/\Ext (fun y o=>mapF m F y o\/hF hp y o) w w'/\HOk hp w' ∧
   ∃ F',TreeAtP Q B ord w' m d iso (del O (rkI ord) (rkI ord x) xs) F'/\∀ y o,F' y o->F y o\/w.heap.size<=y:=by
 have hml:=hM.t.mlt
 have hHl:∀ y o,hF hp y o->y<w.heap.size:=fun y o g=>wok_lt (hH y g).wok
 have hmh:∀ o,¬ hF hp m o:=fun o g=>by have:=(hHF m g).1;omega
 refine calls_of_W [.cell 6 33,.tmp 7] Try.func92 rfl Try.ntmps92 Try.results92 (by simp) fun e he=>?_
 have e0:e 0=ptr m:=he 0 _ rfl
 have e1:e 1=itV x:=he 1 _ rfl
 have e2:e 2=hV hp:=he 2 _ rfl
 clear he
 refine W_sq fun K hK=>(W_text [false,false,true] (by kernel_rfl) ?_);simp only [↓zZ1,↓reduceIte,Nat.reduceEqDiff,rg,ow_92]
 refine do_box (by simp only [evt];exact e1) fun w1 n1=>⟨trivial,?_⟩
 simp only [↓zZ1,↓reduceIte,Nat.reduceEqDiff,rg,ow_92]
 refine do_alloc dz_it fun w2 n2=>⟨trivial,?_⟩
 simp only [↓zZ1,↓reduceIte,Nat.reduceEqDiff,rg,ow_92]
 apply hK;clear hK K
 have s1:=n1.size
 have s2:=n2.size
 have X2:Ext noF w w2:=n1.ext.tr n2.ext
 have rk2:Row w2 w.heap.size 0 (E.cel x):=n2.ext.row n1.row fun _ _ h=>h
 obtain ⟨r0,hr0⟩:∃ r0,r0=w1.heap.size:=⟨_,rfl⟩
 have wr2:wok w2 r0 2:=by rw [hr0];exact n2.wok
 have hr0':r0=w.heap.size+1:=by omega
 have hs2:w2.heap.size=w.heap.size+2:=by omega
 rw [<-hr0]
 clear hr0 n1 n2 s1 s2
 have hM2:=hM.ext X2
 refine W_seq ?_
 rcases hM2.root with ⟨hxs,hr2⟩ | ⟨h,b,hr2,ht⟩
 ·refine W_sq fun K hK=>(W_text [true,true,true,true,true] (by kernel_rfl) ?_);simp only [↓zZ1,↓reduceIte,Nat.reduceEqDiff,rg,ow_92,e0,ptr_eq,hr2]
  apply hK;clear hK K
  refine W_true (by simp only [zZ2,Nat.reduceEqDiff,↓reduceIte,zZ3]<;>rfl) ?_
  have z2:=zIt_at hM2.cfg
  refine W_sq fun K hK=>(W_text [true,true,true,true,false,true] (by kernel_rfl) ?_);simp only [↓zZ1,↓reduceIte,Nat.reduceEqDiff,rg,ow_92,e0,ptr_eq,z2]
  refine do_store (by simp only [zZ2,Nat.reduceEqDiff,↓reduceIte,zZ3]<;>rfl) (by simp only [zZ2,Nat.reduceEqDiff,↓reduceIte,zZ3]<;>rfl) sz_33 (rb_len zIt) wr2 (by decide) (rb_oc zIt) fun w3 x3 r3 s3=>⟨trivial,?_⟩
  simp only [↓zZ1,↓reduceIte,Nat.reduceEqDiff,rg,ow_92]
  apply hK;clear hK K
  subst hxs
  have X3:Ext noF w w3:=noF_of X2 x3 fun y o hy g=>by have:=g.1;omega
  refine W_ret ?_
  simp only [andThen_ret]
  exact endQ_ct (by simp only [upd_eq,Nat.reduceEqDiff,↓reduceIte]<;>rfl) (by simp only [upd_eq,Nat.reduceEqDiff,↓reduceIte]<;>rfl) ld_33 (iX_at (show Row w3 r0 0 (E.cel zIt) from r3)) ⟨rfl,X3.mono fun _ _ _ g=>g.elim,hH.ext0 X3,F,hM.ext X3,fun _ _ g=>.inl g⟩
 ·refine W_sq fun K hK=>(W_text [true,true,true,true,true] (by kernel_rfl) ?_);simp only [↓zZ1,↓reduceIte,Nat.reduceEqDiff,rg,ow_92,e0,ptr_eq,hr2]
  apply hK;clear hK K
  refine W_false (by simp only [zZ2,Nat.reduceEqDiff,↓reduceIte,zZ3]<;>rfl) (W_skip ?_)
  show W _ _ _ _ _ _
  have hm:∀ o,¬ F m o:=hM.off
  have hh:=ht.tr.height (by omega) (by omega)
  have H2:=hH.ext0 X2
  have kx:=iX_at rk2
  have L0:=on1_0 w.heap.size
  have hkF:∀ o,¬ (F w.heap.size o\/hF hp w.heap.size o):=fun o g=>by
   rcases g with g | g
   ·have:=hM.lt _ _ g;omega
   ·have:=hHl _ _ g;omega
  have D:=Ext.dr noF w2 (w2.drawn+1)
  refine W_sq fun K hK=>(W_free (some (some [w.heap.size])) (.take 0 (.take 1 (.take 2 (.take 3 (.take 4 (.take 5 (.split 6 (.take 7 (.take 8 (.take 9 (.act 10 (.act 11 (.take 12 .nil)))))) 10 (.act 6 (.take 7 (.take 8 (.take 9 (.act 11 (.take 12 .nil))))))))))))) mixed (by kernel_rfl) ?_);simp only [↓zZ1,↓reduceIte,Nat.reduceEqDiff,rg,ow_92,e0,e2,ptr_eq,kx,L0,rB_on]
  have hjoin:∀ (e:Env) (w4:World) (t:Nat) (y:It) (dl:Bool) (F':Nat->Nat->Prop),((dl=false/\delR O (rkI ord) false (rkI ord x) xs=none/\Tp E iso (d-1) (2*d-1) Q h w4 1 b xs F')\/(dl=true/\∃ ys,delR O (rkI ord) false (rkI ord x) xs=some (y,ys)/\Tp E iso (d-1) (2*d-1) Q h w4 0 b ys F')) →
    Ext (fun y o=>F y o\/hF hp y o) w2 w4->HOk hp w4->(∀ y o,F' y o->F y o\/w2.heap.size<=y)->Row w4 t 0 (E.cel y)->w2.heap.size<=t->t<w4.heap.size->e 0=ptr m->e 6=ptr r0->e 8=ptr t->e 9 = .bool dl->K e w4:=by
   clear e0 e1 e2
   clear e
   intro e w4 t y dl F' hres X4 H4 hF' rt4 ht1 ht2 e0 e6 e8 e9
   apply hK;clear hK K
   have XX4:Ext (fun y o=>F y o\/hF hp y o) w w4:=X2.trans X4 (fun _ _ g=>g.elim) fun _ _ _ g=>g
   have hmo:∀ o,¬ (F m o\/hF hp m o):=fun o g=>g.elim (hm o) (hmh o)
   have c4:=hM2.cfg.ext X4 fun o _ _=>hmo o
   have wr4:=X4.wok wr2
   have hFm:∀ y o,F' y o->m<y:=fun y o g=>by
    rcases hF' y o g with g | g
    ·exact hM.above y o g
    ·omega
   have hFr:∀ o,¬ F' r0 o:=fun o g=>by
    rcases hF' r0 o g with g | g
    ·have:=hM.lt _ _ g;omega
    ·omega
   refine W_seq ?_
   rcases hres with ⟨rfl,hdl,T4⟩ | ⟨rfl,ys,hdl,T4⟩
   ·refine W_sq fun K hK=>(W_text [true,true] (by kernel_rfl) ?_);simp only [↓zZ1,↓reduceIte,Nat.reduceEqDiff,rg,ow_92,e9]
    apply hK;clear hK K
    refine W_true (by simp only [zZ2,Nat.reduceEqDiff,↓reduceIte,zZ3]<;>rfl) ?_
    have z4:=zIt_at c4
    refine W_sq fun K hK=>(W_text [true,true,true,true,false,true] (by kernel_rfl) ?_);simp only [↓zZ1,↓reduceIte,Nat.reduceEqDiff,rg,ow_92,e0,ptr_eq,z4]
    refine do_store (by simp only [zZ2,Nat.reduceEqDiff,↓reduceIte];exact e6) (by simp only [zZ2,Nat.reduceEqDiff,↓reduceIte,zZ3]<;>rfl) sz_33 (rb_len zIt) wr4 (by decide) (rb_oc zIt) fun w5 x5 r5 s5=>⟨trivial,?_⟩
    simp only [↓zZ1,↓reduceIte,Nat.reduceEqDiff,rg,ow_92]
    apply hK;clear hK K
    obtain ⟨h1,h2,h3⟩:=delR_out.1 hdl
    have XX5:Ext (fun y o=>F y o\/hF hp y o) w w5:=XX4.trans x5 (fun _ _ g=>g) fun y o hy g=>by have:=g.1;omega
    refine W_ret ?_
    simp only [andThen_ret]
    refine endQ_ct e6 (by simp only [upd_eq,Nat.reduceEqDiff,↓reduceIte]<;>rfl) ld_33 (iX_at (show Row w5 r0 0 (E.cel zIt) from r5)) ⟨by rw [h1,h2];rfl,XX5.mono fun y o _ g=>g.imp .inl id,H4.ext x5 fun hb hh o g=>by have:=hHl hb 0 hh;have:=g.1;omega,F',?_,fun y o g=>(hF' y o g).imp id fun g=>by omega⟩
    rw [h3]
    have T5:=T4.ext x5 fun y o g k=>hFr o (by rw [<-k.1];exact g)
    exact ⟨hM.cfg.ext XX5 fun o _ _=>hmo o,hM.less.ext XX5 (fun y o g=>.inl (by rcases g with g | g;have:=hM.above y o g;omega;have:=(hHF y g).1;omega)) (hmo 6),XX5.rd hM.cnt (hmo 3),hM.asc,.inr ⟨h,b,x5.rd (X4.rd hr2 (hmo 2)) (fun g=>by have:=g.1;omega),T5⟩,fun o g=>by have:=hFm m o g;omega,T5.lt,hFm⟩
   ·refine W_sq fun K hK=>(W_text [true,true] (by kernel_rfl) ?_);simp only [↓zZ1,↓reduceIte,Nat.reduceEqDiff,rg,ow_92,e9]
    apply hK;clear hK K
    refine W_false (by simp only [zZ2,Nat.reduceEqDiff,↓reduceIte,zZ3]<;>rfl) (W_skip ?_)
    show W _ _ _ _ _ _
    obtain ⟨h1,h2,h3⟩:=delR_out.2 hdl
    have hyl:=delR_len hdl
    have hya:=delR_asc hM.asc hdl
    have hml4:m<w4.heap.size:=by have:=X4.size;omega
    have rm4:rd w4 m 2=some (ptr b):=X4.rd hr2 (hmo 2)
    have rc4:rd w4 m 3=some (.int .i64 (xs.length:Nat)):=X4.rd hM2.cnt (hmo 3)
    obtain ⟨a,nk,capn,hkn,-,-,hraise⟩:=T4.keys
    have hbF:=T4.tr.self
    have htF:∀ o,¬ rng m 2 1 t o:=fun o g=>by have:=g.1;omega
    refine W_sqx fun J hJ=>?_
    have hfin:∀ (e:Env) (w5:World) (F5:Nat->Nat->Prop),(ys=[]\/∃ h5 b5,rd w5 m 2=some (ptr b5)/\Tp E iso (d-1) (2*d-1) Q h5 w5 1 b5 ys F5)->(∀ y o,F5 y o->F' y o)->Ext (rng m 2 1) w4 w5->e 0=ptr m->e 6=ptr r0->e 8=ptr t->J e w5:=by
     clear e0 e6 e8 e9
     clear e
     intro e w5 F5 hroot hF5 x5 e0 e6 e8
     refine hJ _ _ ?_;clear hJ J
     have rc5:=x5.rd rc4 fun g=>by have:=g.2;omega
     have wm5:=x5.wok c4.wok
     have q1:=wsub1 xs.length (by omega) (by omega)
     refine W_sq fun K hK=>(W_text [true,true,true,true,true,true,true,false] (by kernel_rfl) ?_);simp only [↓zZ1,↓reduceIte,Nat.reduceEqDiff,rg,ow_92,e0,ptr_eq,rc5,q1]
     refine do_store (by simp only [zZ2,Nat.reduceEqDiff,↓reduceIte,zZ3]<;>rfl) (by simp only [zZ2,Nat.reduceEqDiff,↓reduceIte,zZ3]<;>rfl) sz_3 rfl wm5 (by decide) (oc_one rfl rfl) fun w6 x6 r6 s6=>⟨trivial,?_⟩
     simp only [↓zZ1,↓reduceIte,Nat.reduceEqDiff,rg,ow_92]
     apply hK;clear hK K
     have rc6:rd w6 m 3=some (.int .i64 (xs.length-1:Nat)):=(Row.cons.1 r6).1
     have G46:Ext (fun y o=>y=m/\(o=2\/o=3)) w4 w6:=x5.trans x6 (fun y o g=>⟨g.1,by have:=g.2;omega⟩) fun y o _ g=>⟨g.1,by have:=g.2;omega⟩
     refine W_sqx fun J hJ=>?_
     have hret:∀ (e:Env) (w7:World) (F7:Nat->Nat->Prop),((ys=[]/\rd w7 m 2=some (.pointer none))\/∃ h5 b5,rd w7 m 2=some (ptr b5)/\Tp E iso (d-1) (2*d-1) Q h5 w7 1 b5 ys F7)->(∀ y o,F7 y o->F' y o)->rd w7 m 3=some (.int .i64 (ys.length:Nat))->Ext (fun y o=>y=m/\(o=2\/o=3)) w4 w7->(∀ y o,F7 y o->y<w7.heap.size)->e 6=ptr r0->e 8=ptr t->J e w7:=by
      clear e0 e6 e8
      clear e
      intro e w7 F7 hroot hF7 rc7 x7 hlt7 e6 e8
      refine hJ _ _ ?_;clear hJ J
      have ky:=iX_at (x7.row rt4 fun j _ g=>by have:=g.1;omega)
      refine W_sq fun K hK=>(W_text [true,false,true] (by kernel_rfl) ?_);simp only [↓zZ1,↓reduceIte,Nat.reduceEqDiff,rg,ow_92,e8,ptr_eq,ky]
      refine do_store (by simp only [zZ2,Nat.reduceEqDiff,↓reduceIte];exact e6) (by simp only [zZ2,Nat.reduceEqDiff,↓reduceIte,zZ3]<;>rfl) sz_33 (rb_len y) (x7.wok wr4) (by decide) (rb_oc y) fun w8 x8 r8 s8=>⟨trivial,?_⟩
      simp only [↓zZ1,↓reduceIte,Nat.reduceEqDiff,rg,ow_92]
      apply hK;clear hK K
      have XX7:Ext (fun y o=>mapF m F y o\/hF hp y o) w w7:=(XX4.mono fun y o _ g=>g.imp .inl id).trans x7 (fun _ _ g=>g) fun y o _ g=>.inl (.inr g)
      have hne:∀ o,o ≠ 2->o ≠ 3->¬ (mapF m F m o\/hF hp m o):=fun o h2 h3 g=>by
       rcases g with (g | g) | g
       ·exact hm o g
       ·have:=g.2;omega
       ·exact hmh o g
      have hM7:TreeAtP Q B ord w7 m d iso ys F7:=⟨hM.cfg.ext XX7 hne,hM.less.ext XX7 (fun y o g=>.inl (by
       rcases g with (g | g) | g
       ·have:=hM.above y o g;omega
       ·have:=g.1;omega
       ·have:=(hHF y g).1;omega)) (hne 6 (by decide) (by decide)),rc7,hya,hroot,fun o g=>by have:=hFm m o (hF7 _ _ g);omega,hlt7,fun y o g=>hFm y o (hF7 y o g)⟩
      refine W_ret ?_
      refine endQ_ct e6 (by simp only [upd_eq,Nat.reduceEqDiff,↓reduceIte]<;>rfl) ld_33 (iX_at (show Row w8 r0 0 (E.cel y) from r8)) ⟨by rw [h1,h2];rfl,XX7.trans x8 (fun _ _ g=>g) fun y o hy g=>by have:=g.1;omega,?_,F7,?_,fun y o g=>(hF' y o (hF7 y o g)).imp id fun g=>by omega⟩
      ·refine (H4.ext x7 fun hb hh o g=>?_).ext x8 fun hb hh o g=>?_
       ·have:=(hHF hb hh).1
        have:=g.1;omega
       ·have:=hHl hb 0 hh
        have:=g.1;omega
      ·rw [h3]
       exact hM7.extG x8 (fun y o g k=>hFr o (by rw [<-k.1];exact hF7 y o g)) fun y o g=>by have:=g.1;omega
     by_cases hy0:ys=[]
     ·have hb:(((xs.length-1:Nat):Int) == 0)=true:=by rw [hy0] at hyl;simp at hyl ⊢;omega
      refine W_sq fun K hK=>(W_text [true,true,true,true,true] (by kernel_rfl) ?_);simp only [↓zZ1,↓reduceIte,Nat.reduceEqDiff,rg,ow_92,e0,ptr_eq,rc6,hb]
      apply hK;clear hK K
      refine W_true (by simp only [zZ2,Nat.reduceEqDiff,↓reduceIte,zZ3]<;>rfl) ?_
      refine W_rg fun K hK=>(W_text [true,true,true,false] (by kernel_rfl) ?_);simp only [↓zZ1,↓reduceIte,Nat.reduceEqDiff,rg,ow_92,e0,ptr_eq]
      refine do_store (v:=.pointer none) (by simp only [zZ2,Nat.reduceEqDiff,↓reduceIte,zZ3]<;>rfl) (by simp only [zZ2,Nat.reduceEqDiff,↓reduceIte,zZ3]<;>rfl) sz_96 rfl (x6.wok wm5) (by decide) (oc_one rfl rfl) fun w7 x7 r7 s7=>⟨trivial,?_⟩
      simp only [↓zZ1,↓reduceIte,Nat.reduceEqDiff,rg,ow_92]
      apply hK;clear hK K
      exact hret _ w7 noF (.inl ⟨hy0,(Row.cons.1 r7).1⟩) (fun _ _ g=>g.elim) (by rw [show ys.length=xs.length-1 by omega];exact x7.rd rc6 fun g=>by have:=g.2;omega) (G46.trans x7 (fun _ _ g=>g) fun y o _ g=>⟨g.1,by have:=g.2;omega⟩) (fun _ _ g=>g.elim) e6 e8
     ·have hb:(((xs.length-1:Nat):Int) == 0)=false:=by
       have:ys.length ≠ 0:=fun h=>hy0 (List.eq_nil_of_length_eq_zero h)
       simp;omega
      refine W_sq fun K hK=>(W_text [true,true,true,true,true] (by kernel_rfl) ?_);simp only [↓zZ1,↓reduceIte,Nat.reduceEqDiff,rg,ow_92,e0,ptr_eq,rc6,hb]
      apply hK;clear hK K
      refine W_false (by simp only [zZ2,Nat.reduceEqDiff,↓reduceIte,zZ3]<;>rfl) (W_skip ?_)
      obtain ⟨h5,b5,hr5,T5⟩:=hroot.resolve_left hy0
      have T6:=T5.ext x6 fun y o g k=>by have:=hFm y o (hF5 y o g);have:=k.1;omega
      exact hret _ w6 F5 (.inr ⟨h5,b5,x6.rd hr5 fun g=>by have:=g.2;omega,T6⟩) hF5 (by rw [show ys.length=xs.length-1 by omega];exact rc6) G46 T6.lt e6 e8
    by_cases hn0:nk=0
    ·subst hn0
     have hb:(((0:Nat):Int) == 0)=true:=rfl
     rcases T4.open with ⟨bi,oi,cap,ks,ch,ho,-,-,hoF,hin⟩
     have hks:ks=[]:=by
      have:=ho.h2.symm.trans hkn
      simp only [Option.some.injEq,Value.slice.injEq] at this
      exact List.eq_nil_of_length_eq_zero this.2.1
     rcases hin with ⟨_,hcn,hx,_⟩ | ⟨h',bc,ba,oa,capc,cs,rfl,hcn,n,nT,nN⟩
     ·rw [hcn] at ho
      refine W_sq fun K hK=>(W_text [true,true,true,true,true,true,true,true,true,true,true,true,true,true,false,true,true] (by kernel_rfl) ?_);simp only [↓zZ1,↓reduceIte,Nat.reduceEqDiff,rg,ow_92,e0,ptr_eq,rm4,hkn,hb]
      refine do_call fn_108 (by simp only [zZ2,Nat.reduceEqDiff,↓reduceIte,zZ4]<;>rfl) (leaf_any b none w4 ho.h3) ?_
      rintro _ w5 ⟨rfl,hw5⟩
      obtain rfl:w4=w5:=hw5.symm
      refine ⟨trivial,?_⟩
      simp only [↓zZ1,↓reduceIte,Nat.reduceEqDiff,rg,ow_92]
      apply hK;clear hK K
      refine W_false (by simp only [zZ2,Nat.reduceEqDiff,↓reduceIte,zZ3]<;>rfl) (W_skip ?_)
      exact hfin _ w4 F' (.inl (hx.trans hks)) (fun _ _ g=>g) (Ext.refl _ _) e0 e6 e8
     ·rw [hcn] at ho
      refine W_sq fun K hK=>(W_text [true,true,true,true,true,true,true,true,true,true,true,true,true,true,false,true,true] (by kernel_rfl) ?_);simp only [↓zZ1,↓reduceIte,Nat.reduceEqDiff,rg,ow_92,e0,ptr_eq,rm4,hkn,hb]
      refine do_call fn_108 (by simp only [zZ2,Nat.reduceEqDiff,↓reduceIte,zZ4]<;>rfl) (leaf_any b (some ⟨bc,0,none⟩) w4 ho.h3) ?_
      rintro _ w5 ⟨rfl,hw5⟩
      obtain rfl:w4=w5:=hw5.symm
      refine ⟨trivial,?_⟩
      simp only [↓zZ1,↓reduceIte,Nat.reduceEqDiff,rg,ow_92]
      apply hK;clear hK K
      refine W_true (by simp only [zZ2,Nat.reduceEqDiff,↓reduceIte,zZ3]<;>rfl) ?_
      have hl1:cs.length=1:=by rw [n.len,hks];rfl
      obtain ⟨c,rfl⟩:=List.length_eq_one_iff.1 hl1
      have hk0:rd w4 bc 0=some (.slice (some ⟨ba,oa,none⟩) 1 capc):=n.kids.c0
      have i0:=ix0 1 ba oa 1 (by decide)
      have hce:=n.kids.se.ptr_at (j:=0) (p:=c.b) rfl
      rw [Nat.add_zero] at hce
      have hyc:ys=c.xs:=by rw [n.eq,hks];rfl
      have hcF:∀ y o,c.F y o->F' y o:=fun y o g=>(n.fp y o).2 (.inr (.inr ⟨c,by simp,g⟩))
      refine W_rg fun K hK=>(W_text [true,true,true,true,true,true,true,true,true,true,true,true,true,true,false] (by kernel_rfl) ?_);simp only [↓zZ1,↓reduceIte,Nat.reduceEqDiff,rg,ow_92,e0,ptr_eq,rm4,ho.h3,hk0,i0,hce]
      refine do_store (v:=ptr c.b) (by simp only [zZ2,Nat.reduceEqDiff,↓reduceIte,zZ3]<;>rfl) (by simp only [zZ2,Nat.reduceEqDiff,↓reduceIte,zZ3]<;>rfl) sz_96 rfl c4.wok (by decide) (oc_one rfl rfl) fun w5 x5 r5 s5=>⟨trivial,?_⟩
      simp only [↓zZ1,↓reduceIte,Nat.reduceEqDiff,rg,ow_92]
      apply hK;clear hK K
      refine hfin _ w5 c.F (.inr ⟨h',c.b,(Row.cons.1 r5).1,?_⟩) hcF x5 e0 e6 e8
      rw [hyc]
      exact ((nT c (by simp)).mono (by omega)).ext x5 fun y o g k=>by have:=hFm y o (hcF y o g);have:=k.1;omega
    ·have hb:((nk:Int) == 0)=false:=by simp;omega
     refine W_sq fun K hK=>(W_text [true,true,true,true,true,true,true,true,true,true,true,true,true,true,false,true,true] (by kernel_rfl) ?_);simp only [↓zZ1,↓reduceIte,Nat.reduceEqDiff,rg,ow_92,e0,ptr_eq,rm4,hkn,hb]
     apply hK;clear hK K
     refine W_false (by simp only [zZ2,Nat.reduceEqDiff,↓reduceIte,zZ3]<;>rfl) (W_skip ?_)
     exact hfin _ w4 F' (.inr ⟨h,b,rm4,hraise 1 (by omega)⟩) (fun _ _ g=>g) (Ext.refl _ _) e0 e6 e8
  refine ⟨?_,?_⟩
  ·refine do_call fn_126 (by simp only [zZ2,Nat.reduceEqDiff,↓reduceIte,zZ4]<;>rfl) (delP_any Q hQ B m d iso ord hd hd' h 1 b xs F _ m 2 false x hp 0 (hM2.cfg.ext D fun _ _ _ g=>g) (hM2.less.ext0 D) hM2.above (by omega) (by omega) (ht.ext D fun _ _ _ g=>g) hM2.asc hbig (D.rd hr2 fun g=>g) (H2.ext0 D) hHF rfl hVd hLq) ?_
   rintro _ w3 ⟨X3,H3,F',hF',hres⟩
   have s3:=X3.size
   have s3':w2.heap.size<=w3.heap.size:=s3
   rcases hres with ⟨hd0,rfl,T3⟩ | ⟨y,ys,hd1,rfl,T3⟩
   ·refine ⟨.inr (keeps_on X3 fun a ha=>by obtain rfl:=List.mem_singleton.1 ha;exact ⟨by rw [sz_dr];omega,hkF⟩),?_⟩
    simp only [↓zZ1,↓reduceIte,Nat.reduceEqDiff,rg,ow_92]
    refine do_alloc dz_it fun w4 n4=>⟨.inr (n4.keep _ (lt1 (by omega))),?_⟩
    simp only [↓zZ1,↓reduceIte,Nat.reduceEqDiff,rg,ow_92]
    have s4:=n4.size
    refine do_store (by simp only [zZ2,Nat.reduceEqDiff,↓reduceIte,zZ3]<;>rfl) (by simp only [zZ2,Nat.reduceEqDiff,↓reduceIte,zZ3]<;>rfl) sz_33 (rb_len zIt) n4.wok (by decide) (rb_oc zIt) fun w5 x5 r5 s5=>⟨.inr (keeps_on x5 fun a ha=>by obtain rfl:=List.mem_singleton.1 ha;exact ⟨by omega,fun o g=>by have:=g.1;omega⟩),?_⟩
    simp only [↓zZ1,↓reduceIte,Nat.reduceEqDiff,rg,ow_92]
    have X35:Ext noF w3 w5:=noF_of n4.ext x5 fun y o hy g=>by have:=g.1;omega
    exact hjoin _ w5 w3.heap.size zIt false F' (.inl ⟨rfl,hd0,T3.ext X35 fun _ _ _ g=>g⟩) (X3.od.trans X35 (fun _ _ g=>g) fun _ _ _ g=>g.elim) (H3.ext0 X35) hF' r5 s3' (by omega) e0 (by simp only [upd_eq,Nat.reduceEqDiff,↓reduceIte]<;>rfl) (by simp only [upd_eq,Nat.reduceEqDiff,↓reduceIte]<;>rfl) (by simp only [upd_eq,Nat.reduceEqDiff,↓reduceIte]<;>rfl)
   ·refine ⟨.inr (keeps_on X3 fun a ha=>by obtain rfl:=List.mem_singleton.1 ha;exact ⟨by rw [sz_dr];omega,hkF⟩),?_⟩
    simp only [↓zZ1,↓reduceIte,Nat.reduceEqDiff,rg,ow_92]
    refine do_alloc dz_it fun w4 n4=>⟨.inr (n4.keep _ (lt1 (by omega))),?_⟩
    simp only [↓zZ1,↓reduceIte,Nat.reduceEqDiff,rg,ow_92]
    have s4:=n4.size
    refine do_store (by simp only [zZ2,Nat.reduceEqDiff,↓reduceIte,zZ3]<;>rfl) (by simp only [zZ2,Nat.reduceEqDiff,↓reduceIte,zZ3]<;>rfl) sz_33 (rb_len y) n4.wok (by decide) (rb_oc y) fun w5 x5 r5 s5=>⟨.inr (keeps_on x5 fun a ha=>by obtain rfl:=List.mem_singleton.1 ha;exact ⟨by omega,fun o g=>by have:=g.1;omega⟩),?_⟩
    simp only [↓zZ1,↓reduceIte,Nat.reduceEqDiff,rg,ow_92]
    have X35:Ext noF w3 w5:=noF_of n4.ext x5 fun y o hy g=>by have:=g.1;omega
    exact hjoin _ w5 w3.heap.size y true F' (.inr ⟨rfl,ys,hd1,T3.ext X35 fun _ _ _ g=>g⟩) (X3.od.trans X35 (fun _ _ g=>g) fun _ _ _ g=>g.elim) (H3.ext0 X35) hF' r5 s3' (by omega) e0 (by simp only [upd_eq,Nat.reduceEqDiff,↓reduceIte]<;>rfl) (by simp only [upd_eq,Nat.reduceEqDiff,↓reduceIte]<;>rfl) (by simp only [upd_eq,Nat.reduceEqDiff,↓reduceIte]<;>rfl)
  ·refine do_alloc dz_it fun w3 n3=>⟨.inr (n3.keep _ (lt1 (by rw [sz_dr];omega))),?_⟩
   simp only [↓zZ1,↓reduceIte,Nat.reduceEqDiff,rg,ow_92]
   have n3':=n3.od
   have x3:=n3'.ext
   have s3:=n3'.size
   refine do_call fn_126 (by simp only [zZ2,Nat.reduceEqDiff,↓reduceIte,zZ4]<;>rfl) (delP_any Q hQ B m d iso ord hd hd' h 1 b xs F w3 m 2 false x hp 0 (hM2.cfg.ext x3 fun _ _ _ g=>g) (hM2.less.ext0 x3) hM2.above (by omega) (by omega) (ht.ext x3 fun _ _ _ g=>g) hM2.asc hbig (x3.rd hr2 fun g=>g) (H2.ext0 x3) hHF rfl hVd hLq) ?_
   rintro _ w4 ⟨X4,H4,F',hF',hres⟩
   have s4:=X4.size
   have X24:Ext (fun y o=>F y o\/hF hp y o) w2 w4:=x3.trans X4 (fun _ _ g=>g.elim) fun _ _ _ g=>g
   have hF'':∀ y o,F' y o->F y o\/w2.heap.size<=y:=fun y o g=>(hF' y o g).imp id fun g=>by omega
   have hF't:∀ o,¬ F' w2.heap.size o:=fun o g=>by
    rcases hF' _ o g with g | g
    ·have:=hM2.lt _ _ g;omega
    ·omega
   have hHt:∀ hb,hp=some hb->hb<w2.heap.size:=fun hb hh=>by have:=hHl hb 0 hh;omega
   rcases hres with ⟨hd0,rfl,T4⟩ | ⟨y,ys,hd1,rfl,T4⟩
   ·refine ⟨.inr (keeps_on X4 fun a ha=>by obtain rfl:=List.mem_singleton.1 ha;exact ⟨by omega,hkF⟩),?_⟩
    simp only [↓zZ1,↓reduceIte,Nat.reduceEqDiff,rg,ow_92]
    refine do_store (by simp only [zZ2,Nat.reduceEqDiff,↓reduceIte,zZ3]<;>rfl) (by simp only [zZ2,Nat.reduceEqDiff,↓reduceIte,zZ3]<;>rfl) sz_33 (rb_len zIt) (X4.wok n3.wok) (by decide) (rb_oc zIt) fun w5 x5 r5 s5=>⟨.inr (keeps_on x5 fun a ha=>by obtain rfl:=List.mem_singleton.1 ha;exact ⟨by omega,fun o g=>by have:=g.1;rw [sz_dr] at this;omega⟩),?_⟩
    simp only [↓zZ1,↓reduceIte,Nat.reduceEqDiff,rg,ow_92]
    exact hjoin _ w5 w2.heap.size zIt false F' (.inl ⟨rfl,hd0,T4.ext x5 fun y o g k=>hF't o (by rw [<-show y=w2.heap.size from k.1];exact g)⟩) (X24.trans x5 (fun _ _ g=>g) fun y o hy g=>by have:y=w2.heap.size:=g.1;omega) (H4.ext x5 fun hb hh o g=>by have:=hHt hb hh;have:hb=w2.heap.size:=g.1;omega) hF'' r5 (Nat.le_refl _) (by omega) e0 (by simp only [upd_eq,Nat.reduceEqDiff,↓reduceIte]<;>rfl) (by simp only [upd_eq,Nat.reduceEqDiff,↓reduceIte]<;>rfl) (by simp only [upd_eq,Nat.reduceEqDiff,↓reduceIte]<;>rfl)
   ·refine ⟨.inr (keeps_on X4 fun a ha=>by obtain rfl:=List.mem_singleton.1 ha;exact ⟨by omega,hkF⟩),?_⟩
    simp only [↓zZ1,↓reduceIte,Nat.reduceEqDiff,rg,ow_92]
    refine do_store (by simp only [zZ2,Nat.reduceEqDiff,↓reduceIte,zZ3]<;>rfl) (by simp only [zZ2,Nat.reduceEqDiff,↓reduceIte,zZ3]<;>rfl) sz_33 (rb_len y) (X4.wok n3.wok) (by decide) (rb_oc y) fun w5 x5 r5 s5=>⟨.inr (keeps_on x5 fun a ha=>by obtain rfl:=List.mem_singleton.1 ha;exact ⟨by omega,fun o g=>by have:=g.1;rw [sz_dr] at this;omega⟩),?_⟩
    simp only [↓zZ1,↓reduceIte,Nat.reduceEqDiff,rg,ow_92]
    exact hjoin _ w5 w2.heap.size y true F' (.inr ⟨rfl,ys,hd1,T4.ext x5 fun y o g k=>hF't o (by rw [<-show y=w2.heap.size from k.1];exact g)⟩) (X24.trans x5 (fun _ _ g=>g) fun y o hy g=>by have:y=w2.heap.size:=g.1;omega) (H4.ext x5 fun hb hh o g=>by have:=hHt hb hh;have:hb=w2.heap.size:=g.1;omega) hF'' r5 (Nat.le_refl _) (by omega) e0 (by simp only [upd_eq,Nat.reduceEqDiff,↓reduceIte]<;>rfl) (by simp only [upd_eq,Nat.reduceEqDiff,↓reduceIte]<;>rfl) (by simp only [upd_eq,Nat.reduceEqDiff,↓reduceIte]<;>rfl)
def okA (a:Option Addr) (n c:Nat):Prop:=(a=none/\n=0/\c=0)\/∃ bi oi,a=some ⟨bi,oi,none⟩
def nilF:Value:=.nilFunc
set_option maxHeartbeats 1600000 in
set_option maxRecDepth 8000 in
theorem lclear_any (lb n c:Nat) (a:Option Addr) (w:World) (hw:wok w lb 4) (hq:rd w lb 3=some (.slice a n c)) (ha:okA a n c) (hn:n<=c) :
  CallK Try.prog 94 #[ptr lb] w fun _ w'=>Ext (fun y _=>y=lb) w w'/\rd w' lb 0=some nilF/\rd w' lb 1=some (.int .i64 0)/\rd w' lb 2=some (.int .i64 0)/\rd w' lb 3=some (.slice a (0:Nat) c)/\w'.heap.size=w.heap.size:=by
 refine calls_of_W [] Try.func94 rfl Try.ntmps94 Try.results94 (by simp) fun e he=>?_
 have h0:e 0=ptr lb:=he 0 _ rfl
 clear he
 refine W_sq fun K hK=>(W_text [true,true,true,false] (by kernel_rfl) ?_);simp only [↓zZ1,↓reduceIte,Nat.reduceEqDiff,rg,ow_94,h0,ptr_eq]
 refine do_store (by simp only [zZ2,Nat.reduceEqDiff,↓reduceIte,zZ3]<;>rfl) (by simp only [zZ2,Nat.reduceEqDiff,↓reduceIte,zZ3]<;>rfl) sz_112 rfl hw (by decide) (oc_one rfl rfl) fun w1 x1 r1 s1=>⟨trivial,?_⟩
 simp only [↓zZ1,↓reduceIte,Nat.reduceEqDiff,rg,ow_94]
 apply hK;clear hK K
 have hq1:=x1.rd hq fun g=>absurd g.2.2 (by decide)
 have hsl:slcX (some 3) (.slice a n c) none (some (.int .i64 0)) none=some (.slice a (0:Nat) c):=by
  rcases ha with ⟨rfl,rfl,rfl⟩ | ⟨bi,oi,rfl⟩
  ·exact slcX_nil 3 0 .i64 rfl
  ·exact slcX_hi 3 bi oi n c 0 .i64 (Nat.zero_le _)
 refine W_sq fun K hK=>(W_text [true,true,true,true,true,true,true,true,false] (by kernel_rfl) ?_);simp only [↓zZ1,↓reduceIte,Nat.reduceEqDiff,rg,ow_94,h0,ptr_eq,hq1,hsl]
 refine do_store (by simp only [zZ2,Nat.reduceEqDiff,↓reduceIte,zZ3]<;>rfl) (by simp only [zZ2,Nat.reduceEqDiff,↓reduceIte,zZ3]<;>rfl) sz_113 rfl (x1.wok hw) (by decide) (oc_one rfl rfl) fun w2 x2 r2 s2=>⟨trivial,?_⟩
 simp only [↓zZ1,↓reduceIte,Nat.reduceEqDiff,rg,ow_94]
 apply hK;clear hK K
 refine W_sq fun K hK=>(W_text [true,true,true,false] (by kernel_rfl) ?_);simp only [↓zZ1,↓reduceIte,Nat.reduceEqDiff,rg,ow_94,h0,ptr_eq]
 refine do_store (by simp only [zZ2,Nat.reduceEqDiff,↓reduceIte,zZ3]<;>rfl) (by simp only [zZ2,Nat.reduceEqDiff,↓reduceIte,zZ3]<;>rfl) sz_3 rfl (x2.wok (x1.wok hw)) (by decide) (oc_one rfl rfl) fun w3 x3 r3 s3=>⟨trivial,?_⟩
 simp only [↓zZ1,↓reduceIte,Nat.reduceEqDiff,rg,ow_94]
 apply hK;clear hK K
 refine W_rg fun K hK=>(W_text [true,true,true,false] (by kernel_rfl) ?_);simp only [↓zZ1,↓reduceIte,Nat.reduceEqDiff,rg,ow_94,h0,ptr_eq]
 refine do_store (by simp only [zZ2,Nat.reduceEqDiff,↓reduceIte,zZ3]<;>rfl) (by simp only [zZ2,Nat.reduceEqDiff,↓reduceIte,zZ3]<;>rfl) sz_3 rfl (x3.wok (x2.wok (x1.wok hw))) (by decide) (oc_one rfl rfl) fun w4 x4 r4 s4=>⟨trivial,?_⟩
 simp only [↓zZ1,↓reduceIte,Nat.reduceEqDiff,rg,ow_94]
 apply hK;clear hK K
 have g1:rd w1 lb 0=some nilF:=(Row.cons.1 r1).1
 have g2:rd w2 lb 3=some (.slice a (0:Nat) c):=(Row.cons.1 r2).1
 have g3:rd w3 lb 1=some (.int .i64 0):=(Row.cons.1 r3).1
 have g4:rd w4 lb 2=some (.int .i64 0):=(Row.cons.1 r4).1
 refine endQ_0n ⟨(((x1.mono fun y o _ g=>g.1).tr (x2.mono fun y o _ g=>g.1)).tr (x3.mono fun y o _ g=>g.1)).tr (x4.mono fun y o _ g=>g.1),?_,?_,g4,?_,by omega⟩
 ·exact x4.rd (x3.rd (x2.rd g1 fun g=>absurd g.2.1 (by decide)) fun g=>absurd g.2.1 (by decide)) fun g=>absurd g.2.1 (by decide)
 ·exact x4.rd g3 fun g=>absurd g.2.1 (by decide)
 ·exact x4.rd (x3.rd g2 fun g=>absurd g.2.2 (by decide)) fun g=>absurd g.2.2 (by decide)
def stopV (b12 b5 b7:Nat):Value:=.func (.func 95) #[] #[ptr b12,ptr b5,ptr b7]
theorem fn_stop:isFn Try.prog 95=true:=by kernel_rfl
def stopI (ord:List Int) (mi:Bool) (mxi x:It):Bool:=if mi then O.lt (rkI ord mxi) (rkI ord x) else !O.lt (rkI ord x) (rkI ord mxi)
set_option maxHeartbeats 1600000 in
set_option maxRecDepth 8000 in
theorem stop_any (B m b12 b5 b7:Nat) (ord:List Int) (mi:Bool) (mxi x:It) (w:World) (hL:Ls B m w ord) (h12:rd w b12 0=some (.bool mi)) (h5:rd w b5 0=some (ptr m)) (h7:Row w b7 0 (E.cel mxi)) :
  CallK Try.prog 95 #[itV x,ptr b12,ptr b5,ptr b7] w fun v w'=>v = .bool (stopI ord mi mxi x)/\Ext noF w w':=by
 obtain ⟨lv,hlv,hls,hB⟩:=hL
 refine calls_of_W [.tmp 5] Try.func95 rfl Try.ntmps95 Try.results95 (by simp) fun e he=>?_
 have e0:e 0=itV x:=he 0 _ rfl
 have e1:e 1=ptr b12:=he 1 _ rfl
 have e2:e 2=ptr b5:=he 2 _ rfl
 have e3:e 3=ptr b7:=he 3 _ rfl
 clear he
 refine W_sq fun K hK=>(W_text [false,true] (by kernel_rfl) ?_);simp only [↓zZ1,↓reduceIte,Nat.reduceEqDiff,rg,ow_95]
 refine do_box (by simp only [evt];exact e0) fun w1 n1=>⟨trivial,?_⟩
 simp only [↓zZ1,↓reduceIte,Nat.reduceEqDiff,rg,ow_95]
 apply hK;clear hK K
 have bx:rdA w1 w.heap.size 0 2=some (itV x):=n1.row.rdA 2 (by show 2<=2;omega)
 have k12:=n1.ext.rd h12 fun g=>g
 have k5:=n1.ext.rd h5 fun g=>g
 have k7:rdA w1 b7 0 2=some (itV mxi):=(n1.ext.row h7 fun _ _ g=>g).rdA 2 (by show 2<=2;omega)
 have klv:=n1.ext.rd hlv fun g=>g
 have kls:=hls.ext n1.ext fun _ _ g=>g.elim
 refine W_seq ?_
 refine W_sq fun K hK=>(W_text [true] (by kernel_rfl) ?_);simp only [↓zZ1,↓reduceIte,Nat.reduceEqDiff,rg,ow_95,e1,ptr_eq,k12]
 apply hK;clear hK K
 cases mi with
 | true =>
  refine W_true (by simp only [zZ2,Nat.reduceEqDiff,↓reduceIte,zZ3]<;>rfl) ?_
  refine W_sq fun K hK=>(W_semi (some none) (.take true 0 (.take false 1 (.take false 2 (.take true 3 (.take true 4 (.take true 5 (.bar 6 (.take false 7 .nil)))))))) mixed (by kernel_rfl) ?_);simp only [↓rgm,↓zZ1,↓reduceIte,Nat.reduceEqDiff,rg,ow_95,e2,e3,ptr_eq,k5,klv,bx,k7]
  refine do_callW (by simp only [zZ2,Nat.reduceEqDiff,↓reduceIte,zZ3]<;>rfl) (by simp only [zZ2,Nat.reduceEqDiff,↓reduceIte,zZ4]<;>rfl) (before_any B lv ord mxi x _ (kls.ext (Ext.dr noF _ _) fun _ _ g=>g.elim)) ?_
  rintro _ w2 ⟨rfl,x2⟩
  refine ⟨by first | exact trivial | exact .inr trivial,?_⟩
  simp only [↓zZ1,↓reduceIte,Nat.reduceEqDiff,rg,ow_95,↓rgm]
  apply hK;clear hK K
  refine W_ret ?_
  simp only [andThen_ret]
  exact endQ_1 (by simp only [upd_eq,Nat.reduceEqDiff,↓reduceIte]<;>rfl) ⟨rfl,n1.ext.tr x2.od⟩
 | false =>
  refine W_false (by simp only [zZ2,Nat.reduceEqDiff,↓reduceIte,zZ3]<;>rfl) (W_skip ?_)
  show W _ _ _ _ _ _
  refine W_sq fun K hK=>(W_semi (some none) (.take true 0 (.take false 1 (.take false 2 (.take true 3 (.take true 4 (.take true 5 (.bar 6 (.take false 7 (.take false 8 .nil))))))))) mixed (by kernel_rfl) ?_);simp only [↓rgm,↓zZ1,↓reduceIte,Nat.reduceEqDiff,rg,ow_95,e2,e3,ptr_eq,k5,klv,bx,k7]
  refine do_callW (by simp only [zZ2,Nat.reduceEqDiff,↓reduceIte,zZ3]<;>rfl) (by simp only [zZ2,Nat.reduceEqDiff,↓reduceIte,zZ4]<;>rfl) (before_any B lv ord x mxi _ (kls.ext (Ext.dr noF _ _) fun _ _ g=>g.elim)) ?_
  rintro _ w2 ⟨rfl,x2⟩
  refine ⟨by first | exact trivial | exact .inr trivial,?_⟩
  simp only [↓zZ1,↓reduceIte,Nat.reduceEqDiff,rg,ow_95,↓rgm]
  apply hK;clear hK K
  refine W_ret ?_
  exact endQ_1 (by simp only [upd_eq,Nat.reduceEqDiff,↓reduceIte]<;>rfl) ⟨rfl,n1.ext.tr x2.od⟩
end Go.Proofs.Ytbnnkcofnmipoaa
namespace Go.Proofs.Ytbnnkcofnmipoaa
open Go
def atO:List Nat->Code->Option Code
 | [],c=>some c
 | 0::p,.seq a _=>atO p a
 | _::p,.seq _ b=>atO p b
 | 0::p,.cond _ a _=>atO p a
 | _::p,.cond _ _ b=>atO p b
 | _::p,.scope c=>atO p c
 | _::p,.block _ c=>atO p c
 | _::p,.loop c=>atO p c
 | _,_=>none
def atF (f:Func) (p:List Nat):Option Code :=
 match f.body with
 | some c=>atO p c
 | none=>none
def pc (f:Func) (p:List Nat):Code:=(atF f p).getD .skip
theorem W_pc {P:Program} {n:Nat} {f:Func} {p:List Nat} {c:Code} {Q:Post} {e:Env} {w:World} (hp:atF f p=some c) (h:W P n c Q e w):W P n (pc f p) Q e w:=by
 unfold pc;rw [hp];exact h
theorem W_qc {P:Program} {n:Nat} {f:Func} {p:List Nat} {c:Code} {Q:Post} {e:Env} {w:World} (hp:atF f p=some c) (h:W P n (pc f p) Q e w):W P n c Q e w:=by
 unfold pc at h;rw [hp] at h;exact h
end Go.Proofs.Ytbnnkcofnmipoaa
