/- Texts in one. No condition. -/
import Derived.Test.YtbnnkcofnmipoaaZ018c8958
import Derived.Test.YtbnnkcofnmipoaaZ5b25d89c
set_option linter.unusedVariables false
set_option linter.unusedSimpArgs false
namespace Go.Proofs.Ytbnnkcofnmipoaa
open Go Go.Proofs
theorem blk_ok {a:Option Addr} {n c:Nat} (h:okA a n c) {y:Nat} (hy:blk a=some y):∃ oi,a=some ⟨y,oi,none⟩:=by
 rcases h with ⟨rfl,_⟩ | ⟨bi,oi,rfl⟩
 ·cases hy
 ·cases hy;exact ⟨oi,rfl⟩
structure Bet (B m d:Nat) (ord:List Int) (ex:Bool) (lb S0:Nat) (w:World) (st:List (List It) × List It) (v:Value) (F:Nat->Nat->Prop) (a:Option Addr) (n c:Nat) (hs:List Hd) (K:Nat->Prop):Prop where
 t:TreeAt B ord w m d 1 st.2 F
 l:LbAt m F lb w a n c
 ea:ex=false->a=none
 ll:LL K w v hs st.1
 kk:∀ y,K y->y<w.heap.size/\m<y/\y ≠ lb/\blk a ≠ some y/\∀ o,¬ F y o
 sm:S0<=m
 sF:∀ y o,F y o->S0<=y
 sa:∀ y,blk a=some y->S0<=y
theorem Bet.ext {B m d:Nat} {ord:List Int} {ex:Bool} {lb S0:Nat} {w w':World} {st:List (List It) × List It} {v:Value} {F:Nat->Nat->Prop} {a:Option Addr} {n c:Nat} {hs:List Hd} {K:Nat->Prop} (h:Bet B m d ord ex lb S0 w st v F a n c hs K) (x:Ext noF w w'):Bet B m d ord ex lb S0 w' st v F a n c hs K :=
 ⟨h.t.ext x,h.l.ext x fun _ g=>g,h.ea,h.ll.ext x fun _ _ _ g=>g,fun y hy=>by obtain ⟨g1,g2⟩:=h.kk y hy;exact ⟨Nat.lt_of_lt_of_le g1 x.size,g2⟩,h.sm,h.sF,h.sa⟩
theorem Bet.mid {B m d:Nat} {ord:List Int} {ex mi:Bool} {lb S0:Nat} {wz u0 u1 w9 w10:World} {st:List (List It) × List It} {ev:Value} {F:Nat->Nat->Prop} {a:Option Addr} {n c:Nat} {hs:List Hd} {K:Nat->Prop} (h:Bet B m d ord ex lb S0 wz st ev F a n c hs K) (xu:Ext noF wz u0) (s:It × It)
  {F':Nat->Nat->Prop} {a':Option Addr} {n' c':Nat} {lv:Value} {cnt:Int} {v:Value} (R:RgR B m d 1 ord st.2 F s.1 s.2 ex mi lb a wz u0 F' a' n' c' lv cnt v u1) (xb:Nat) (hxb:(wz.heap.size<=xb/\xb<u0.heap.size)\/u1.heap.size<=xb) (x9:Ext (rng xb 0 4) u1 w9)
  (x10:Ext (fun y _=>y=xb\/blk a'=some y) w9 w10):LL K w10 ev hs st.1:=by
 have hml:=h.t.mlt
 have hlb:=wok_lt h.l.wk
 have hlm:=h.l.ml
 have hsm:=h.sm
 have zu:=xu.size
 have z1:=R.x.size
 have z9:=x9.size
 have hxz:wz.heap.size<=xb:=by rcases hxb with g | g<;>omega
 have hKG:∀ y,(∀ o,¬ F y o)->m<y->y ≠ lb->blk a ≠ some y->¬ ((∃ o,F y o)\/y=m\/y=lb\/blk a=some y):=fun y h1 h2 h3 h4 g=>by
  rcases g with ⟨o,g⟩ | g | g | g
  ·exact h1 o g
  ·omega
  ·exact h3 g
  ·exact h4 g
 have hK:∀ y,K y->¬ ((∃ o,F y o)\/y=m\/y=lb\/blk a=some y):=fun y hy=>by
  obtain ⟨g1,g2,g3,g4,g5⟩:=h.kk y hy
  exact hKG y g5 g2 g3 g4
 have hold:∀ y,((∃ o,F y o)\/y=m\/y=lb\/blk a=some y)\/wz.heap.size<=y->¬ K y/\S0<=y:=fun y g=>by
  rcases g with g | g
  ·refine ⟨fun k=>hK y k g,?_⟩
   rcases g with ⟨o,g⟩ | g | g | g
   ·exact h.sF y o g
   ·omega
   ·omega
   ·exact h.sa y g
  ·exact ⟨fun k=>by have:=(h.kk y k).1;omega,by omega⟩
 have hKx:∀ y,K y->y ≠ xb:=fun y hy e=>by have:=(h.kk y hy).1;omega
 have hF':∀ y o,F' y o->y<u1.heap.size/\y ≠ xb/\¬ K y/\S0<=y:=fun y o g=>by
  have g1:=R.t.lt y o g
  obtain ⟨g2,g3⟩:=hold y (R.F y o g)
  refine ⟨g1,fun e=>?_,g2,g3⟩
  rcases hxb with k | k
  ·exact R.fS y o g ⟨by omega,by omega⟩
  ·omega
 have hA:∀ y,blk a'=some y->m<y/\y ≠ lb/\(∀ o,¬ F' y o)/\¬ K y/\S0<=y/\y<u1.heap.size:=fun y e=>by
  obtain ⟨oi,ha⟩:=blk_ok R.l.ha e
  obtain ⟨g1,g2,g3,g4,g5⟩:=R.l.kb y oi ha
  obtain ⟨g6,g7⟩:=hold y (R.k y e)
  exact ⟨g1,g2,g3,g6,g7,(R.kS y e).2⟩
 have hlu:=wok_lt R.l.wk
 have hxl:xb ≠ lb:=by rcases hxb with g | g<;>omega
 exact ((h.ll.ext R.x fun y o hy g=>hK y hy g).ext x9 fun y o hy g=>hKx y hy g.1).ext x10 fun y o hy g=>by
  rcases g with g | g
  ·exact hKx y hy g
  ·exact (hA y g).2.2.2.1 hy
theorem Bet.step {B m d:Nat} {ord:List Int} {ex mi:Bool} {lb S0:Nat} {wz u0 u1 w9 w10 w11 w12:World} {st:List (List It) × List It} {ev:Value} {F:Nat->Nat->Prop} {a:Option Addr} {n c:Nat} {hs:List Hd} {K:Nat->Prop} (h:Bet B m d ord ex lb S0 wz st ev F a n c hs K) (xu:Ext noF wz u0) (s:It × It)
  {F':Nat->Nat->Prop} {a':Option Addr} {n' c':Nat} {lv:Value} {cnt:Int} {v:Value} (R:RgR B m d 1 ord st.2 F s.1 s.2 ex mi lb a wz u0 F' a' n' c' lv cnt v u1) (xb:Nat) (hxb:(wz.heap.size<=xb/\xb<u0.heap.size)\/u1.heap.size<=xb) (x9:Ext (rng xb 0 4) u1 w9)
  {hd0:Hd} {ev':Value} (x10:Ext (fun y _=>y=xb\/blk a'=some y) w9 w10) (h0:SlI w10 (hdV hd0) (if ex then st.2.filter (inI ord mi s.1 s.2) else [])) (c0:since w9.heap.size (hdV hd0)) (x11:Ext noF w10 w11) (ap:AppRes w11 1 ev hs.length 1 (flat Ehd hs) [hdV hd0] ev' w12) :
  (∃ F a n c hs K,Bet B m d ord ex lb S0 w12 (stepR ord ex mi st s) ev' F a n c hs K)/\Ext (fun y _=>S0<=y) wz w12:=by
 have hml:=h.t.mlt
 have hlb:=wok_lt h.l.wk
 have hlm:=h.l.ml
 have hsm:=h.sm
 have zu:=xu.size
 have z1:=R.x.size
 have z9:=x9.size
 have z10:=x10.size
 have z11:=x11.size
 have hxz:wz.heap.size<=xb:=by rcases hxb with g | g<;>omega
 have hKG:∀ y,(∀ o,¬ F y o)->m<y->y ≠ lb->blk a ≠ some y->¬ ((∃ o,F y o)\/y=m\/y=lb\/blk a=some y):=fun y h1 h2 h3 h4 g=>by
  rcases g with ⟨o,g⟩ | g | g | g
  ·exact h1 o g
  ·omega
  ·exact h3 g
  ·exact h4 g
 have hK:∀ y,K y->¬ ((∃ o,F y o)\/y=m\/y=lb\/blk a=some y):=fun y hy=>by
  obtain ⟨g1,g2,g3,g4,g5⟩:=h.kk y hy
  exact hKG y g5 g2 g3 g4
 have hold:∀ y,((∃ o,F y o)\/y=m\/y=lb\/blk a=some y)\/wz.heap.size<=y->¬ K y/\S0<=y:=fun y g=>by
  rcases g with g | g
  ·refine ⟨fun k=>hK y k g,?_⟩
   rcases g with ⟨o,g⟩ | g | g | g
   ·exact h.sF y o g
   ·omega
   ·omega
   ·exact h.sa y g
  ·exact ⟨fun k=>by have:=(h.kk y k).1;omega,by omega⟩
 have hKx:∀ y,K y->y ≠ xb:=fun y hy e=>by have:=(h.kk y hy).1;omega
 have hF':∀ y o,F' y o->y<u1.heap.size/\y ≠ xb/\¬ K y/\S0<=y:=fun y o g=>by
  have g1:=R.t.lt y o g
  obtain ⟨g2,g3⟩:=hold y (R.F y o g)
  refine ⟨g1,fun e=>?_,g2,g3⟩
  rcases hxb with k | k
  ·exact R.fS y o g ⟨by omega,by omega⟩
  ·omega
 have hA:∀ y,blk a'=some y->m<y/\y ≠ lb/\(∀ o,¬ F' y o)/\¬ K y/\S0<=y/\y<u1.heap.size:=fun y e=>by
  obtain ⟨oi,ha⟩:=blk_ok R.l.ha e
  obtain ⟨g1,g2,g3,g4,g5⟩:=R.l.kb y oi ha
  obtain ⟨g6,g7⟩:=hold y (R.k y e)
  exact ⟨g1,g2,g3,g6,g7,(R.kS y e).2⟩
 have hlu:=wok_lt R.l.wk
 have hxl:xb ≠ lb:=by rcases hxb with g | g<;>omega
 have L10:=((h.ll.ext R.x fun y o hy g=>hK y hy g).ext x9 fun y o hy g=>hKx y hy g.1).ext x10 fun y o hy g=>by
  rcases g with g | g
  ·exact hKx y hy g
  ·exact (hA y g).2.2.2.1 hy
 have L11:=(L10.ext x11 fun _ _ _ g=>g).mono (K':=fun y=>K y\/(w9.heap.size<=y/\y<w11.heap.size)) fun y hy=>.inl hy
 have h11:=SlV.ext0 h0 x11
 have hap:apart2 ev (hdV hd0):=fun b o n c o' n' c' k1 k2=>by
  have g1:=c0 _ _ _ _ k2
  have g2:=(h.kk b (h.ll.vk _ _ _ _ k1)).1
  omega
 obtain ⟨L12,x12⟩:=L11.push h11 (fun b o n c e=>.inr ⟨c0 _ _ _ _ e,SlV.lt h11 e⟩) hap ap
 have z12:=x12.size
 have hK1:∀ y,(K y\/(w9.heap.size<=y/\y<w11.heap.size))->m<y/\y ≠ lb/\blk a' ≠ some y/\(∀ o,¬ F' y o)/\S0<=y:=fun y g=>by
  rcases g with g | g
  ·obtain ⟨g1,g2,g3,g4,g5⟩:=h.kk y g
   exact ⟨g2,g3,fun e=>(hA y e).2.2.2.1 g,fun o k=>(hF' y o k).2.2.1 g,by omega⟩
  ·exact ⟨by omega,by omega,fun e=>by have:=(hA y e).2.2.2.2.2;omega,fun o k=>by have:=(hF' y o k).1;omega,by omega⟩
 have t9:=R.t.extG x9 (fun y o hy g=>(hF' y o hy).2.1 g.1) fun y o g=>by have:=g.1;omega
 have t10:=t9.extG x10 (fun y o hy g=>by
  rcases g with g | g
  ·exact (hF' y o hy).2.1 g
  ·exact (hA y g).2.2.1 o hy) fun y o g=>by
  rcases g with g | g
  ·omega
  ·exact (hA y g).1
 have t12:=(t10.ext x11).extG x12 (fun y o hy g=>(hK1 y g).2.2.2.1 o hy) fun y o g=>(hK1 y g).1
 have l12:=(((R.l.ext x9 fun o g=>hxl g.1.symm).ext x10 fun o g=>by
  rcases g with g | g
  ·exact hxl g.symm
  ·exact (hA lb g).2.1 rfl).ext x11 fun _ g=>g).ext x12 fun o g=>(hK1 lb g).2.1 rfl
 refine ⟨⟨F',a',n',c',hs++[hd0],_,t12,l12,R.ea,L12,fun y hy=>?_,hsm,fun y o g=>(hF' y o g).2.2.2,fun y e=>(hA y e).2.2.2.2.1⟩,?_⟩
 ·rcases hy with hy | ⟨hy,hz⟩
  ·obtain ⟨g1,g2,g3,g4,_⟩:=hK1 y hy
   refine ⟨?_,g1,g2,g3,g4⟩
   rcases hy with hy | hy
   ·have:=(h.kk y hy).1;omega
   ·omega
  ·exact ⟨hz,by omega,by omega,fun e=>by have:=(hA y e).2.2.2.2.2;omega,fun o k=>by have:=(hF' y o k).1;omega⟩
 ·refine ((((R.x.mono fun y o _ g=>(hold y (.inl g)).2).tr (x9.mono fun y o _ g=>?_)).tr (x10.mono fun y o _ g=>?_)).tr (x11.mono fun _ _ _ g=>g.elim)).tr (x12.mono fun y o _ g=>(hK1 y g).2.2.2.2)
  ·have:=g.1;omega
  ·rcases g with g | g
   ·omega
   ·exact (hA y g).2.2.2.2.1
set_option maxHeartbeats 3200000 in
set_option maxRecDepth 8000 in
theorem impl_delr (d:Nat) (hd:DOk d) (ord:List Int) (sv:Value) (nl:Bool) (l:List It) (lv:Value) (ss:List (It × It)) (spv:Value) (p nr mi:Bool) (w:World) (hO:SlInt w sv ord) (hOb:ord.length<=2147483647) (hl:SlI w lv l) (hbig:l.length<=2147483647) (hsp:SlSp w spv ss) (hsb:ss.length<=2147483647) :
  CallK Try.prog 34 #[mkV sv d nl,lv,spv,rgV p nr mi] w fun v w'=>∃ v1 v2 K hs,v = .tuple #[v1,v2]/\LL K w' v1 hs (runR ord (p || !nr) (mi && !p) (treeG ord l) ss).1/\SlI w' v2 (runR ord (p || !nr) (mi && !p) (treeG ord l) ss).2/\Ext noF w w':=by
 obtain ⟨a0,c0,hv0⟩:=SlV.shape hsp
 obtain ⟨hd2,hd3⟩:=hd.of
 refine calls_of_W [.tmp 8,.tmp 9] Try.func34 rfl Try.ntmps34 Try.results34 (by simp) fun e he=>?_
 have e0:e 0=mkV sv d nl:=he 0 _ rfl
 have e1:e 1=lv:=he 1 _ rfl
 have e2:e 2 = .slice a0 ss.length c0:=by rw [<-hv0];exact he 2 _ rfl
 have e3:e 3=rgV p nr mi:=he 3 _ rfl
 clear he
 have htl:=treeG_len ord l
 refine W_sq fun K hK=>(W_text [false,false,true,true] (by kernel_rfl) ?_);simp only [↓zZ1,↓reduceIte,Nat.reduceEqDiff,rg,ow_34]
 refine do_box (by simp only [evt];exact e0) fun w1 n1=>⟨trivial,?_⟩
 simp only [↓zZ1,↓reduceIte,Nat.reduceEqDiff,rg,ow_34]
 refine do_box (v:=rgV p nr mi) (by simp only [evt,upd_eq,Nat.reduceEqDiff,↓reduceIte];exact e3) fun w2 n2=>⟨trivial,?_⟩
 simp only [↓zZ1,↓reduceIte,Nat.reduceEqDiff,rg,ow_34]
 apply hK;clear hK K
 have s1:=n1.size
 have s2:=n2.size
 have X2:=n1.ext.tr n2.ext
 have P4:Row w2 w.heap.size 0 (mkL sv d nl):=n2.ext.row (show Row w1 w.heap.size 0 (mkL sv d nl) from n1.row) fun _ _ g=>g
 have P7:Row w2 w1.heap.size 0 [.bool p,.bool nr,.bool mi]:=n2.row
 have rm:=mk_at P4
 refine W_sq fun K hK=>(W_text [true,true,false,true] (by kernel_rfl) ?_);simp only [↓zZ1,↓reduceIte,Nat.reduceEqDiff,rg,ow_34,e1,ptr_eq,rm]
 refine do_call fn_43 (by simp only [zZ2,Nat.reduceEqDiff,↓reduceIte,zZ4]<;>rfl) (growG_any d hd ord sv nl l lv w2 (SlV.ext0 hO X2) hOb (SlV.ext0 hl X2) (by omega)) ?_
 rintro _ w3 ⟨x3,B,m,F0,rfl,hM,hm,hsi⟩
 refine ⟨trivial,?_⟩
 simp only [↓zZ1,↓reduceIte,Nat.reduceEqDiff,rg,ow_34]
 apply hK;clear hK K
 have s3:=x3.size
 have hml:=hM.mlt
 refine W_sq fun K hK=>(W_text [false] (by kernel_rfl) ?_);simp only [↓zZ1,↓reduceIte,Nat.reduceEqDiff,rg,ow_34]
 refine do_alloc z_list fun w4 n4=>⟨trivial,?_⟩
 simp only [↓zZ1,↓reduceIte,Nat.reduceEqDiff,rg,ow_34]
 apply hK;clear hK K
 have s4:=n4.size
 have X4:=(X2.tr x3).tr n4.ext
 have R4:Row w4 w3.heap.size 0 [nilF,.int .i64 0,.int .i64 0,.slice none 0 0]:=n4.row
 have hB0:Bet B m (degOf d) ord (p || !nr) w3.heap.size w2.heap.size w4 (runR ord (p || !nr) (mi && !p) (treeG ord l) (ss.take 0)) (.slice none 0 0) F0 none 0 0 [] (fun _=>False):=by
  rw [List.take_zero]
  exact ⟨hM.ext n4.ext,⟨n4.wok,(Row.cons.1 (Row.cons.1 (Row.cons.1 (Row.cons.1 R4).2).2).2).1,.inl ⟨rfl,rfl,rfl⟩,Nat.le_refl _,hml,fun o g=>Nat.lt_irrefl _ (hM.lt _ _ g),fun bi oi e=>(by cases e)⟩,fun _=>rfl,LL.nil _ _,fun y g=>g.elim,hm,hsi,fun y e=>(by cases e)⟩
 refine W_sq fun K hK=>(W_text [true] (by kernel_rfl) ?_);simp only [↓zZ1,↓reduceIte,Nat.reduceEqDiff,rg,ow_34]
 apply hK;clear hK K
 refine W_seq (W_seq ?_)
 refine W_rg fun K hK=>(W_text [true,true,true] (by kernel_rfl) ?_);simp only [↓zZ1,↓reduceIte,Nat.reduceEqDiff,rg,ow_34,e2]
 apply hK;clear hK K
 show W _ _ _ _ _ _
 refine W_block (W_loop (fun mm e w'=>∃ i:Nat,mm=ss.length-i/\i<=ss.length/\Ext noF w w'/\w2.heap.size<=w'.heap.size/\Row w' w1.heap.size 0 [.bool p,.bool nr,.bool mi]/\e 7=ptr w1.heap.size/\e 10=ptr m/\e 11=ptr w3.heap.size/\e 19 = .slice a0 ss.length c0/\e 20 = .int .i64 ss.length/\e 21 = .int .i64 i ∧
   ∃ F a n c hs K,Bet B m (degOf d) ord (p || !nr) w3.heap.size w2.heap.size w' (runR ord (p || !nr) (mi && !p) (treeG ord l) (ss.take i)) (e 12) F a n c hs K)
  ss.length ⟨0,by simp,by simp,X4,(by omega),(x3.tr n4.ext).row P7 (fun _ _ g=>g),rfl,(by simp only [upd_eq,Nat.reduceEqDiff,↓reduceIte];first | done | rfl),rfl,(by first | (simp only [upd_eq,Nat.reduceEqDiff,↓reduceIte];done) | (simp only [upd_eq,Nat.reduceEqDiff,↓reduceIte];first | rfl | exact e2)),(by first | (simp only [upd_eq,Nat.reduceEqDiff,↓reduceIte];done) | (simp only [upd_eq,Nat.reduceEqDiff,↓reduceIte];rfl)),(by first | (simp only [upd_eq,Nat.reduceEqDiff,↓reduceIte];done) | (simp only [upd_eq,Nat.reduceEqDiff,↓reduceIte];rfl)),F0,none,0,0,[],_,(hB0)⟩ ?_)
 clear e0 e1 e2 e3 e P4 P7 rm hB0
 rintro mm e w' ⟨i,rfl,hi,X,XS,P7,e7,e10,e11,e19,e20,e21,F,a,n,c,hs,K,hBt⟩
 by_cases hlt:i<ss.length
 ·have ht:=lt_tt i ss.length hlt
  refine W_sq fun K hK=>(W_text [true] (by kernel_rfl) ?_);simp only [↓zZ1,↓reduceIte,Nat.reduceEqDiff,rg,ow_34,e20,e21,ht]
  apply hK;clear hK K
  refine W_seq (W_true (by simp only [zZ2,Nat.reduceEqDiff,↓reduceIte,zZ3]<;>rfl) (W_skip ?_))
  show W _ _ _ _ _ _
  obtain ⟨s,hs1⟩:∃ x,ss[i]? = some x:=⟨_,List.getElem?_eq_getElem hlt⟩
  obtain ⟨b1,o1,g1,r1⟩:=SlV.at hsp hv0 hlt
  subst g1
  have y1:=spV_at (X.row r1 fun _ _ h=>h) hs1
  have htk:ss.take (i+1)=ss.take i++[s]:=take_snoc hs1
  obtain ⟨L1,L2,L3⟩:=runR_len ord (p || !nr) (mi && !p) (treeG ord l) (ss.take i)
  have hst:=runR_snoc ord (p || !nr) (mi && !p) (treeG ord l) (ss.take i) s
  generalize runR ord (p || !nr) (mi && !p) (treeG ord l) (ss.take i)=st at hBt L1 L2 L3 hst
  refine W_seq (W_block ?_)
  refine W_sq fun K hK=>(W_text [true,true,false,false] (by kernel_rfl) ?_);simp only [↓zZ1,↓reduceIte,Nat.reduceEqDiff,rg,ow_34,e19,e21,hlt,y1]
  refine do_alloc z_span fun w4 n4=>⟨trivial,?_⟩
  simp only [↓zZ1,↓reduceIte,Nat.reduceEqDiff,rg,ow_34]
  refine do_store (v:=spV s) (by simp only [zZ2,Nat.reduceEqDiff,↓reduceIte,zZ3]<;>rfl) (by simp only [zZ2,Nat.reduceEqDiff,↓reduceIte,zZ3]<;>rfl) sz_57 rfl n4.wok (by decide) (Esp.one s) fun w5 x5 r5 s5=>⟨trivial,?_⟩
  simp only [↓zZ1,↓reduceIte,Nat.reduceEqDiff,rg,ow_34]
  apply hK;clear hK K
  have s4:=n4.size
  have Y5:Ext noF w' w5:=n4.ext.trans x5 (fun _ _ g=>g) fun y o hy g=>by have:=g.1;omega
  have X5:=X.tr Y5
  have rs:Row w5 w'.heap.size 0 ([.int .i64 s.1.1,.int .i64 s.1.2]++[.int .i64 s.2.1,.int .i64 s.2.2]):=r5
  have zl:rdA w5 w'.heap.size 0 2=some (iV s.1):=(Row.append.1 rs).1.rdA 2 (Nat.le_refl _)
  have zh:rdA w5 w'.heap.size 2 2=some (iV s.2):=(Row.append.1 rs).2.rdA 2 (Nat.le_refl _)
  have P7':=Y5.row P7 fun _ _ g=>g
  have zo:rdA w5 w1.heap.size 0 3=some (rgV p nr mi):=P7'.rdA 3 (Nat.le_refl _)
  have hB5:=hBt.ext Y5
  have s5':=Y5.size
  have M1:readsB (some (some [w'.heap.size,w1.heap.size])) w'.heap.size=true:=by simp [readsB]
  have M2:readsB (some (some [w'.heap.size,w1.heap.size])) w1.heap.size=true:=by simp [readsB]
  refine W_sqx fun J hJ=>?_
  have hend:∀ (g:Env) (u0 u1 w9:World) (xb:Nat) (F':Nat->Nat->Prop) (a':Option Addr) (n' c':Nat) (lv:Value) (cnt:Int) (v:Value),(∀ k,k ∈ [7,10,11,12,19,20,21]->g k=e k)->g 15=ptr xb->Ext noF w5 u0->RgR B m (degOf d) 1 ord st.2 F s.1 s.2 (p || !nr) (mi && !p) w3.heap.size a w5 u0 F' a' n' c' lv cnt v u1->((w5.heap.size<=xb/\xb<u0.heap.size)\/u1.heap.size<=xb)->Ext (rng xb 0 4) u1 w9 →
    Row w9 xb 0 [lv,.int .i64 cnt,.int .i64 0,.slice a' (n':Nat) c']->wok w9 xb 4->J g w9:=by
   intro g u0 u1 w9 xb F' a' n' c' lv cnt v hg g15 xu R hxb x9 r9 k9
   refine hJ _ _ ?_;clear hJ J
   have g12:g 12=e 12:=hg 12 (by simp)
   refine W_rg fun K hK=>(W_text [true,false,false,false,true] (by kernel_rfl) ?_);simp only [↓zZ1,↓reduceIte,Nat.reduceEqDiff,rg,ow_34,g12,g15]
   refine do_call fn_62 (vs:=#[ptr xb]) (by simp only [zZ2,Nat.reduceEqDiff,↓reduceIte,zZ4,g15]<;>rfl) (R.s w9 xb (x9.mono fun y o _ g=>.inl g.1) (hxb.imp id .inl) r9 k9) ?_
   rintro v10 w10 ⟨h0,c0',x10⟩
   obtain ⟨hd0,rfl⟩:=hdV_of h0
   refine ⟨trivial,?_⟩
   simp only [↓zZ1,↓reduceIte,Nat.reduceEqDiff,rg,ow_34]
   refine do_bsl rfl (bs_ll hd0) fun w11 n11=>⟨trivial,?_⟩
   simp only [↓zZ1,↓reduceIte,Nat.reduceEqDiff,rg,ow_34]
   have n11:=n11.od
   have x11:=n11.ext
   have hx11:SlV w11 1 (.slice (some ⟨w10.heap.size,0,none⟩) 1 1) 1 [hdV hd0]:=⟨rfl,.inr ⟨_,0,1,rfl,Nat.le_refl _,n11.row,n11.wok.R (Nat.le_refl _)⟩⟩
   have hlen:=hB5.ll.len
   have L1':st.1.length<=i:=by rw [L1,List.length_take];omega
   have hsl:SlV w11 1 (e 12) hs.length (flat Ehd hs):=SlV.ext0 (hB5.mid xu s R xb hxb x9 x10).sl x11
   refine do_append (by simp only [zZ2,Nat.reduceEqDiff,↓reduceIte,zZ3]<;>rfl) (by simp only [zZ2,Nat.reduceEqDiff,↓reduceIte,zZ3]<;>rfl) el_ll rfl ni_ll hsl hx11 (by omega) (by decide) (Ehd.one hd0) fun v12 w12 a12=>⟨trivial,?_⟩
   simp only [↓zZ1,↓reduceIte,Nat.reduceEqDiff,rg,ow_34]
   apply hK;clear hK K
   obtain ⟨⟨F2,a2,n2',c2,hs2,K2,hB2⟩,x12⟩:=hB5.step xu s R xb hxb x9 x10 h0 c0' x11 a12
   have s12:=x12.size
   have X12:Ext noF w w12:=noF_of X5 x12 fun y o hy h=>by omega
   have q1:=wadd1 i (by omega)
   have g21:g 21 = .int .i64 i:=(hg 21 (by simp)).trans e21
   refine W_rg fun K hK=>(W_text [true,true] (by kernel_rfl) ?_);simp only [↓zZ1,↓reduceIte,Nat.reduceEqDiff,rg,ow_34,g21,q1]
   apply hK;clear hK K
   refine ⟨_,?_,i+1,rfl,hlt,X12,(by omega),?_,((hg 7 (by simp)).trans e7),((hg 10 (by simp)).trans e10),((hg 11 (by simp)).trans e11),((hg 19 (by simp)).trans e19),((hg 20 (by simp)).trans e20),rfl,F2,a2,n2',c2,hs2,K2,?_⟩
   ·omega
   ·exact x12.row P7' fun _ _ g=>by omega
   ·simp only [upd_eq,Nat.reduceEqDiff,↓reduceIte]
    rw [htk,hst]
    exact hB2
  clear hJ
  have hIb:st.2.length<=2147483647:=by omega
  refine W_rg fun K hK=>(W_free (some (some [w'.heap.size,w1.heap.size])) (.take 0 (.take 1 (.take 2 (.take 3 (.take 4 (.take 5 (.split 6 (.split 7 (.act 8 (.bar 9 .nil)) 8 (.act 7 (.bar 9 .nil))) 8 (.act 6 (.act 7 (.bar 9 .nil)))))))))) mixed (by kernel_rfl) ?_);simp only [↓zZ1,↓reduceIte,Nat.reduceEqDiff,rg,ow_34,e7,e10,e11,ptr_eq,zl,zh,zo,M1,M2]
  have keep:∀ {x y:World},Ext noF x y->w5.heap.size<=x.heap.size->keeps (some (some [w'.heap.size,w1.heap.size])) x y:=fun x h=>keeps_on x fun y hy=>⟨by
   simp only [List.mem_cons,List.not_mem_nil,or_false] at hy
   omega,fun _ g=>g⟩
  have keepX:∀ {x y:World} {xb:Nat},Ext (rng xb 0 4) x y->w5.heap.size<=xb/\w5.heap.size<=x.heap.size->keeps (some (some [w'.heap.size,w1.heap.size])) x y:=fun x h=>keeps_on x fun y hy=>by
   simp only [List.mem_cons,List.not_mem_nil,or_false] at hy
   exact ⟨by omega,fun o g=>by have:=g.1;omega⟩
  have keepR:∀ {x y:World},Ext (fun y _=>((∃ o,F y o)\/y=m\/y=w3.heap.size\/blk a=some y)\/w5.heap.size<=y) x y->w5.heap.size<=x.heap.size->keeps (some (some [w'.heap.size,w1.heap.size])) x y:=fun x h=>keeps_on x fun y hy=>by
   simp only [List.mem_cons,List.not_mem_nil,or_false] at hy
   refine ⟨by omega,fun o g=>?_⟩
   have hlt:=hBt.t.lt
   have hml':=hBt.t.mlt
   have hlw:=wok_lt hBt.l.wk
   have hsm:=hBt.sm
   rcases g with (⟨o',g⟩ | g | g | g) | g
   ·have:=hlt y o' g;have:=hBt.sF y o' g;omega
   ·omega
   ·omega
   ·obtain ⟨oi,ha⟩:=blk_ok hBt.l.ha g
    have:=wok_lt (hBt.l.kb y oi ha).2.2.2.1
    have:=hBt.sa y g
    omega
   ·omega
  have xd:Ext noF w5 (dr w5 (w5.drawn+1)):=Ext.dr _ _ _
  have zd:(dr w5 (w5.drawn+1)).heap.size=w5.heap.size:=rfl
  refine ⟨?_,?_⟩
  ·refine do_call fn_61 (vs:=#[rgV p nr mi]) (by simp only [zZ2,Nat.reduceEqDiff,↓reduceIte,zZ4]<;>rfl) (ranges_any p nr mi (dr w5 (w5.drawn+1))) ?_
   rintro _ u1 ⟨ov,nr',mi',rfl,xr,hov,hex,hmi⟩
   have zr:=xr.size
   have xu:Ext noF w5 u1:=xd.tr xr
   have zu1:=xu.size
   refine ⟨by first | exact trivial | exact .inr (keep xr (by omega)),?_⟩
   simp only [↓zZ1,↓reduceIte,Nat.reduceEqDiff,rg,ow_34,e10,e11,ptr_eq,zl,zh,zo,M1,M2]
   refine ⟨?_,?_⟩
   ·refine do_call fn_60 (vs:=#[ptr m,itV s.1,itV s.2,oV ov,ptr w3.heap.size]) (by simp only [zZ2,Nat.reduceEqDiff,↓reduceIte,zZ4,e11]<;>rfl) (range_res B m (degOf d) 1 ord hd2 hd3 st.2 F w5 u1 xu hB5.t hIb s.1 s.2 ov nr' mi' hov w3.heap.size n c a hB5.l (p || !nr) (mi && !p) hex (hmi.trans (Bool.and_comm _ _)) hB5.ea) ?_
    rintro _ u2 ⟨F',a',n',c',lv,cnt,R⟩
    obtain rfl:=R.v
    have zy:=R.y.size
    refine ⟨by first | exact trivial | exact .inr (keepR R.y (by omega)),?_⟩
    simp only [↓zZ1,↓reduceIte,Nat.reduceEqDiff,rg,ow_34,e10,e11,ptr_eq,zl,zh,zo,M1,M2]
    refine do_alloc z_list fun u3 n3=>⟨by first | exact trivial | exact .inr (keep n3.ext (by omega)),?_⟩
    have zu3:=n3.size
    simp only [↓zZ1,↓reduceIte,Nat.reduceEqDiff,rg,ow_34,e10,e11,ptr_eq,zl,zh,zo,M1,M2]
    refine do_store (v:=.agg #[lv,.int .i64 cnt,.int .i64 0,.slice a' (n':Nat) c']) (by simp only [zZ2,Nat.reduceEqDiff,↓reduceIte,zZ3]<;>rfl) (by simp only [zZ2,Nat.reduceEqDiff,↓reduceIte,zZ3]<;>rfl) sz_115 rfl n3.wok (by decide) (R.oc) fun w9 x9 r9 s9=>⟨by first | exact trivial | exact .inr (keepX x9 (by omega)),?_⟩
    simp only [↓zZ1,↓reduceIte,Nat.reduceEqDiff,rg,ow_34]
    apply hK;clear hK K
    refine hend _ u1 u2 w9 u2.heap.size F' a' n' c' lv cnt _ (fun k hk=>?_) (by simp only [upd_eq,Nat.reduceEqDiff,↓reduceIte];first | done | rfl) xu R (.inr (Nat.le_refl _)) ((n3.ext.mono fun _ _ _ g=>g.elim).tr x9) r9 (x9.wok n3.wok)
    simp only [List.mem_cons,List.not_mem_nil,or_false] at hk
    rcases hk with rfl | rfl | rfl | rfl | rfl | rfl | rfl<;>simp only [upd_eq,Nat.reduceEqDiff,↓reduceIte]
   ·refine do_alloc z_list fun u2 n2=>⟨by first | exact trivial | exact .inr (keep n2.ext (by omega)),?_⟩
    have zu2:=n2.size
    simp only [↓zZ1,↓reduceIte,Nat.reduceEqDiff,rg,ow_34,e10,e11,ptr_eq,zl,zh,zo,M1,M2]
    have xu2:=xu.tr n2.ext
    refine do_call fn_60 (vs:=#[ptr m,itV s.1,itV s.2,oV ov,ptr w3.heap.size]) (by simp only [zZ2,Nat.reduceEqDiff,↓reduceIte,zZ4,e11]<;>rfl) (range_res B m (degOf d) 1 ord hd2 hd3 st.2 F w5 u2 xu2 hB5.t hIb s.1 s.2 ov nr' mi' (fun ob h=>⟨n2.ext.rd (hov ob h).1 fun g=>g,n2.ext.rd (hov ob h).2 fun g=>g⟩) w3.heap.size n c a hB5.l (p || !nr) (mi && !p) hex (hmi.trans (Bool.and_comm _ _)) hB5.ea) ?_
    rintro _ u3 ⟨F',a',n',c',lv,cnt,R⟩
    obtain rfl:=R.v
    have zy:=R.y.size
    refine ⟨by first | exact trivial | exact .inr (keepR R.y (by omega)),?_⟩
    simp only [↓zZ1,↓reduceIte,Nat.reduceEqDiff,rg,ow_34,e10,e11,ptr_eq,zl,zh,zo,M1,M2]
    refine do_store (v:=.agg #[lv,.int .i64 cnt,.int .i64 0,.slice a' (n':Nat) c']) (by simp only [zZ2,Nat.reduceEqDiff,↓reduceIte,zZ3]<;>rfl) (by simp only [zZ2,Nat.reduceEqDiff,↓reduceIte,zZ3]<;>rfl) sz_115 rfl (R.y.wok n2.wok) (by decide) (R.oc) fun w9 x9 r9 s9=>⟨by first | exact trivial | exact .inr (keepX x9 (by omega)),?_⟩
    simp only [↓zZ1,↓reduceIte,Nat.reduceEqDiff,rg,ow_34]
    apply hK;clear hK K
    refine hend _ u2 u3 w9 u1.heap.size F' a' n' c' lv cnt _ (fun k hk=>?_) (by simp only [upd_eq,Nat.reduceEqDiff,↓reduceIte];first | done | rfl) xu2 R (.inl ⟨by omega,by omega⟩) x9 r9 (x9.wok (R.y.wok n2.wok))
    simp only [List.mem_cons,List.not_mem_nil,or_false] at hk
    rcases hk with rfl | rfl | rfl | rfl | rfl | rfl | rfl<;>simp only [upd_eq,Nat.reduceEqDiff,↓reduceIte]
  ·refine do_alloc z_list fun u1 n1=>⟨by first | exact trivial | exact .inr (keep n1.ext (by omega)),?_⟩
   have zu1:=n1.size
   simp only [↓zZ1,↓reduceIte,Nat.reduceEqDiff,rg,ow_34,e10,e11,ptr_eq,zl,zh,zo,M1,M2]
   have xa:Ext noF w5 u1:=xd.tr n1.ext
   refine do_call fn_61 (vs:=#[rgV p nr mi]) (by simp only [zZ2,Nat.reduceEqDiff,↓reduceIte,zZ4]<;>rfl) (ranges_any p nr mi u1) ?_
   rintro _ u2 ⟨ov,nr',mi',rfl,xr,hov,hex,hmi⟩
   have zr:=xr.size
   have xu2:Ext noF w5 u2:=xa.tr xr
   have zu2:=xu2.size
   refine ⟨by first | exact trivial | exact .inr (keep xr (by omega)),?_⟩
   simp only [↓zZ1,↓reduceIte,Nat.reduceEqDiff,rg,ow_34,e10,e11,ptr_eq,zl,zh,zo,M1,M2]
   refine do_call fn_60 (vs:=#[ptr m,itV s.1,itV s.2,oV ov,ptr w3.heap.size]) (by simp only [zZ2,Nat.reduceEqDiff,↓reduceIte,zZ4,e11]<;>rfl) (range_res B m (degOf d) 1 ord hd2 hd3 st.2 F w5 u2 xu2 hB5.t hIb s.1 s.2 ov nr' mi' hov w3.heap.size n c a hB5.l (p || !nr) (mi && !p) hex (hmi.trans (Bool.and_comm _ _)) hB5.ea) ?_
   rintro _ u3 ⟨F',a',n',c',lv,cnt,R⟩
   obtain rfl:=R.v
   have zy:=R.y.size
   refine ⟨by first | exact trivial | exact .inr (keepR R.y (by omega)),?_⟩
   simp only [↓zZ1,↓reduceIte,Nat.reduceEqDiff,rg,ow_34,e10,e11,ptr_eq,zl,zh,zo,M1,M2]
   refine do_store (v:=.agg #[lv,.int .i64 cnt,.int .i64 0,.slice a' (n':Nat) c']) (by simp only [zZ2,Nat.reduceEqDiff,↓reduceIte,zZ3]<;>rfl) (by simp only [zZ2,Nat.reduceEqDiff,↓reduceIte,zZ3]<;>rfl) sz_115 rfl (R.y.wok (xr.wok n1.wok)) (by decide) (R.oc) fun w9 x9 r9 s9=>⟨by first | exact trivial | exact .inr (keepX x9 (by omega)),?_⟩
   simp only [↓zZ1,↓reduceIte,Nat.reduceEqDiff,rg,ow_34]
   apply hK;clear hK K
   refine hend _ u2 u3 w9 (dr w5 (w5.drawn+1)).heap.size F' a' n' c' lv cnt _ (fun k hk=>?_) (by simp only [upd_eq,Nat.reduceEqDiff,↓reduceIte];first | done | rfl) xu2 R (.inl ⟨Nat.le_refl _,by omega⟩) x9 r9 (x9.wok (R.y.wok (xr.wok n1.wok)))
   simp only [List.mem_cons,List.not_mem_nil,or_false] at hk
   rcases hk with rfl | rfl | rfl | rfl | rfl | rfl | rfl<;>simp only [upd_eq,Nat.reduceEqDiff,↓reduceIte]
 ·obtain rfl:i=ss.length:=by omega
  have ht:=lt_ff ss.length ss.length (by omega)
  refine W_sq fun K hK=>(W_text [true] (by kernel_rfl) ?_);simp only [↓zZ1,↓reduceIte,Nat.reduceEqDiff,rg,ow_34,e20,e21,ht]
  apply hK;clear hK K
  refine W_seq (W_false (by simp only [zZ2,Nat.reduceEqDiff,↓reduceIte,zZ3]<;>rfl) (W_exit ?_))
  simp only [andThen_exit,inBlk_exit,andThen_normal,↓reduceIte]
  rw [List.take_length] at hBt
  obtain ⟨L1,L2,L3⟩:=runR_len ord (p || !nr) (mi && !p) (treeG ord l) ss
  refine W_sq fun K hK=>(W_text [true,true,false,true,true] (by kernel_rfl) ?_);simp only [↓zZ1,↓reduceIte,Nat.reduceEqDiff,rg,ow_34,e10]
  refine do_call fn_46 (by simp only [zZ2,Nat.reduceEqDiff,↓reduceIte,zZ4]<;>rfl) (itemsG_any B m (degOf d) ord 1 _ F w' hBt.t (by omega)) ?_
  rintro v9 w9 ⟨ho,x9⟩
  refine ⟨trivial,?_⟩
  simp only [↓zZ1,↓reduceIte,Nat.reduceEqDiff,rg,ow_34]
  apply hK;clear hK K
  exact W_ret (endQ_2 (by simp only [upd_eq,Nat.reduceEqDiff,↓reduceIte]<;>rfl) (by simp only [upd_eq,Nat.reduceEqDiff,↓reduceIte]<;>rfl) ⟨e 12,v9,K,hs,rfl,hBt.ll.ext x9 fun _ _ _ g=>g,ho.sl,X.tr x9⟩)
structure DrR (B m d:Nat) (ord:List Int) (X:List It) (F0:Nat->Nat->Prop) (mn mxx:It) (ex mi:Bool) (w0:World) (F':Nat->Nat->Prop) (a':Option Addr) (n' c':Nat) (lv:Value) (cnt:Int) (v:Value) (w':World):Prop where
 v:v = .agg #[lv,.int .i64 cnt,.int .i64 0,.slice a' (n':Nat) c']
 oc:oc [lv,.int .i64 cnt,.int .i64 0,.slice a' (n':Nat) c']
 x:Ext (fun y _=>(∃ o,F0 y o)\/y=m) w0 w'
 t:TreeAt B ord w' m d 1 (X.filter fun x=>!inI ord mi mn mxx x) F'
 F:∀ y o,F' y o->((∃ o,F0 y o)\/y=m)\/w0.heap.size<=y
 k:∀ y,blk a'=some y->m<y/\(∀ o,¬ F' y o)/\y<w'.heap.size/\(((∃ o,F0 y o)\/y=m)\/w0.heap.size<=y)
 s:∀ w2 xb,Ext (rng xb 0 4) w' w2->(w'.heap.size<=xb\/(m<xb/\xb<w0.heap.size/\∀ o,¬ F0 xb o))->Row w2 xb 0 [lv,.int .i64 cnt,.int .i64 0,.slice a' (n':Nat) c']->wok w2 xb 4 →
  CallK Try.prog 62 #[ptr xb] w2 fun v w3=>SlI w3 v (if ex then X.filter (inI ord mi mn mxx) else [])/\since w2.heap.size v/\Ext (fun y _=>y=xb\/blk a'=some y) w2 w3
set_option maxHeartbeats 1600000 in
set_option maxRecDepth 8000 in
theorem dr_any (B m d:Nat) (ord:List Int) (hd:2<=d) (hd':d<=128) (X:List It) (F0:Nat->Nat->Prop) (w0:World) (hM:TreeAt B ord w0 m d 1 X F0) (hbig:X.length<=2147483647) (mn mxx:It) (ov:Option Nat) (nr mi0:Bool) (hov:∀ ob,ov=some ob->rd w0 ob 0=some (.bool nr)/\rd w0 ob 1=some (.bool mi0)) (ex mi:Bool) (hex:(ov.isNone || !nr)=ex) (hmi:(ov.isSome && mi0)=mi) :
  CallK Try.prog 65 #[ptr m,itV mn,itV mxx,oV ov] w0 fun v w'=>∃ F' a' n' c' lv cnt,DrR B m d ord X F0 mn mxx ex mi w0 F' a' n' c' lv cnt v w':=by
 have hml:=hM.mlt
 refine calls_of_W [.cell 8 115] Try.func65 rfl Try.ntmps65 Try.results65 (by simp) fun e he=>?_
 have e0:e 0=ptr m:=he 0 _ rfl
 have e1:e 1=itV mn:=he 1 _ rfl
 have e2:e 2=itV mxx:=he 2 _ rfl
 have e3:e 3=oV ov:=he 3 _ rfl
 clear he
 refine W_sq fun K hK=>(W_text [false,false,false] (by kernel_rfl) ?_);simp only [↓zZ1,↓reduceIte,Nat.reduceEqDiff,rg,ow_65]
 refine do_box (v:=itV mn) (by simp only [evt];exact e1) fun w1 n1=>⟨trivial,?_⟩
 simp only [↓zZ1,↓reduceIte,Nat.reduceEqDiff,rg,ow_65]
 refine do_box (v:=itV mxx) (by simp only [evt,upd_eq,Nat.reduceEqDiff,↓reduceIte];exact e2) fun w2 n2=>⟨trivial,?_⟩
 simp only [↓zZ1,↓reduceIte,Nat.reduceEqDiff,rg,ow_65]
 refine do_alloc z_list fun w3 n3=>⟨trivial,?_⟩
 simp only [↓zZ1,↓reduceIte,Nat.reduceEqDiff,rg,ow_65]
 apply hK;clear hK K
 have s1:=n1.size
 have s2:=n2.size
 have s3:=n3.size
 have X3:=(n1.ext.tr n2.ext).tr n3.ext
 have q1:=iX_at ((n2.ext.tr n3.ext).row (show Row w1 w0.heap.size 0 (E.cel mn) from n1.row) fun _ _ g=>g)
 have q2:=iX_at (n3.ext.row (show Row w2 w1.heap.size 0 (E.cel mxx) from n2.row) fun _ _ g=>g)
 have R3:Row w3 w2.heap.size 0 [nilF,.int .i64 0,.int .i64 0,.slice none 0 0]:=n3.row
 have hl:LbAt m F0 w2.heap.size w3 none 0 0:=⟨n3.wok,(Row.cons.1 (Row.cons.1 (Row.cons.1 (Row.cons.1 R3).2).2).2).1,.inl ⟨rfl,rfl,rfl⟩,Nat.le_refl _,by omega,fun o g=>by have:=hM.lt _ _ g;omega,fun bi oi e=>by cases e⟩
 refine W_sq fun K hK=>(W_text [true,true,true,true,false,false] (by kernel_rfl) ?_);simp only [↓zZ1,↓reduceIte,Nat.reduceEqDiff,rg,ow_65,e0,e3,ptr_eq,q1,q2]
 refine do_call fn_60 (vs:=#[ptr m,itV mn,itV mxx,oV ov,ptr w2.heap.size]) (by simp only [zZ2,Nat.reduceEqDiff,↓reduceIte,zZ4]<;>rfl) (range_res B m d 1 ord hd hd' X F0 w3 w3 (Ext.refl _ _) (hM.ext X3) hbig mn mxx ov nr mi0 (fun ob h=>⟨X3.rd (hov ob h).1 fun g=>g,X3.rd (hov ob h).2 fun g=>g⟩) w2.heap.size 0 0 none hl ex mi hex hmi (fun _=>rfl)) ?_
 rintro v w4 ⟨F',a',n',c',lv,cnt,R⟩
 obtain rfl:=R.v
 refine ⟨trivial,?_⟩
 simp only [↓zZ1,↓reduceIte,Nat.reduceEqDiff,rg,ow_65]
 refine do_store (v:=.agg #[lv,.int .i64 cnt,.int .i64 0,.slice a' (n':Nat) c']) (by simp only [zZ2,Nat.reduceEqDiff,↓reduceIte,zZ3]<;>rfl) (by simp only [zZ2,Nat.reduceEqDiff,↓reduceIte,zZ3]<;>rfl) sz_115 rfl R.l.wk (by decide) R.oc fun w5 x5 r5 s5=>⟨trivial,?_⟩
 simp only [↓zZ1,↓reduceIte,Nat.reduceEqDiff,rg,ow_65]
 apply hK;clear hK K
 have r5:Row w5 w2.heap.size 0 [lv,.int .i64 cnt,.int .i64 0,.slice a' (n':Nat) c']:=r5
 have zy:=R.y.size
 have hlw:=wok_lt R.l.wk
 refine W_ret (endQ_c rfl ld_115 (by rw [loadV_some];exact r5.rdA 4 (Nat.le_refl _)) ⟨F',a',n',c',lv,cnt,rfl,R.oc,?_,?_,?_,?_,?_⟩)
 ·refine (X3.trans R.x (fun _ _ g=>g.elim) fun y o hy g=>?_).trans x5 (fun _ _ g=>g) fun y o hy g=>?_
  ·rcases g with g | g | g | g
   ·exact .inl g
   ·exact .inr g
   ·omega
   ·cases g
  ·have:=g.1;omega
 ·exact R.t.extG x5 (fun y o hy g=>R.l.lF o (by rw [<-g.1];exact hy)) fun y o g=>by have:=g.1;omega
 ·intro y o g
  rcases R.F y o g with (g | g | g | g) | g
  ·exact .inl (.inl g)
  ·exact .inl (.inr g)
  ·exact .inr (by omega)
  ·cases g
  ·exact .inr (by omega)
 ·intro y e
  obtain ⟨oi,ha⟩:=blk_ok R.l.ha e
  obtain ⟨g1,g2,g3,g4,g5⟩:=R.l.kb y oi ha
  refine ⟨g1,g3,by have:=(R.kS y e).2;omega,?_⟩
  rcases R.k y e with (g | g | g | g) | g
  ·exact .inl (.inl g)
  ·exact .inl (.inr g)
  ·exact .inr (by omega)
  ·cases g
  ·exact .inr (by omega)
 ·intro w6 xb x6 hx r6 k6
  refine R.s w6 xb ((x5.mono fun y o _ g=>.inr g.1).tr (x6.mono fun y o _ g=>.inl g.1)) ?_ r6 k6
  rcases hx with hx | ⟨h1,h2,h3⟩
  ·exact .inr (.inl (by omega))
  ·exact .inr (.inr ⟨h1,by omega,h3,by omega,fun e=>by cases e⟩)
theorem wok_at {w:World} {b n o:Nat} (h:wok w b n) (ho:o<n):∃ v,rd w b o=some v:=by
 obtain ⟨arr,T,h1,h2,-⟩:=h
 exact ⟨_,by rw [rd_of h1];exact Array.getElem?_eq_getElem (by omega)⟩
set_option maxRecDepth 8000 in
theorem lenv_any (xb:Nat) (v:Value) (w:World) (h:rd w xb 1=some v):CallK Try.prog 66 #[ptr xb] w fun v' w'=>v'=v/\w=w':=by
 refine calls_of_W [.tmp 2] Try.func66 rfl Try.ntmps66 Try.results66 (by simp) fun e he=>?_
 have e0:e 0=ptr xb:=he 0 _ rfl
 clear he
 refine W_sq fun K hK=>(W_text [true] (by kernel_rfl) ?_);simp only [↓zZ1,↓reduceIte,Nat.reduceEqDiff,rg,ow_66]
 apply hK;clear hK K
 refine W_sq fun K hK=>(W_text [true,true,true,true,true] (by kernel_rfl) ?_);simp only [↓zZ1,↓reduceIte,Nat.reduceEqDiff,rg,ow_66,e0,ptr_eq,h]
 apply hK;clear hK K
 exact W_ret (endQ_1 (by simp only [upd_eq,Nat.reduceEqDiff,↓reduceIte]<;>rfl) ⟨rfl,rfl⟩)
set_option maxHeartbeats 3200000 in
set_option maxRecDepth 8000 in
theorem impl_delo (d:Nat) (hd:DOk d) (ord:List Int) (sv:Value) (nl:Bool) (l:List It) (lv:Value) (lo hi:It) (p nr mi:Bool) (w:World) (hO:SlInt w sv ord) (hOb:ord.length<=2147483647) (hl:SlI w lv l) (hbig:l.length<=2147483647) :
  CallK Try.prog 38 #[mkV sv d nl,lv,itV lo,itV hi,rgV p nr mi] w fun v w'=>∃ v1 c v2,v = .tuple #[v1,c,v2]/\SlI w' v1 (if (p || !nr) then (treeG ord l).filter (inI ord (mi && !p) lo hi) else [])/\SlI w' v2 ((treeG ord l).filter fun x=>!inI ord (mi && !p) lo hi x)/\Ext noF w w':=by
 obtain ⟨hd2,hd3⟩:=hd.of
 refine calls_of_W [.tmp 10,.tmp 11,.tmp 12] Try.func38 rfl Try.ntmps38 Try.results38 (by simp) fun e he=>?_
 have e0:e 0=mkV sv d nl:=he 0 _ rfl
 have e1:e 1=lv:=he 1 _ rfl
 have e2:e 2=itV lo:=he 2 _ rfl
 have e3:e 3=itV hi:=he 3 _ rfl
 have e4:e 4=rgV p nr mi:=he 4 _ rfl
 clear he
 have htl:=treeG_len ord l
 refine W_sq fun K hK=>(W_text [false,false,false,false,true,true,true] (by kernel_rfl) ?_);simp only [↓zZ1,↓reduceIte,Nat.reduceEqDiff,rg,ow_38]
 refine do_box (by simp only [evt];exact e0) fun w1 n1=>⟨trivial,?_⟩
 simp only [↓zZ1,↓reduceIte,Nat.reduceEqDiff,rg,ow_38]
 refine do_box (v:=itV lo) (by simp only [evt,upd_eq,Nat.reduceEqDiff,↓reduceIte];exact e2) fun w2 n2=>⟨trivial,?_⟩
 simp only [↓zZ1,↓reduceIte,Nat.reduceEqDiff,rg,ow_38]
 refine do_box (v:=itV hi) (by simp only [evt,upd_eq,Nat.reduceEqDiff,↓reduceIte];exact e3) fun w3 n3=>⟨trivial,?_⟩
 simp only [↓zZ1,↓reduceIte,Nat.reduceEqDiff,rg,ow_38]
 refine do_box (v:=rgV p nr mi) (by simp only [evt,upd_eq,Nat.reduceEqDiff,↓reduceIte];exact e4) fun w4 n4=>⟨trivial,?_⟩
 simp only [↓zZ1,↓reduceIte,Nat.reduceEqDiff,rg,ow_38]
 apply hK;clear hK K
 have s1:=n1.size
 have s2:=n2.size
 have s3:=n3.size
 have s4:=n4.size
 have X23:=n2.ext.tr n3.ext
 have X34:=n3.ext.tr n4.ext
 have X4:=n1.ext.tr (n2.ext.tr X34)
 have P5:Row w4 w.heap.size 0 (mkL sv d nl):=(n2.ext.tr X34).row (show Row w1 w.heap.size 0 (mkL sv d nl) from n1.row) fun _ _ g=>g
 have P7:Row w4 w1.heap.size 0 (E.cel lo):=X34.row (show Row w2 w1.heap.size 0 (E.cel lo) from n2.row) fun _ _ g=>g
 have P8:Row w4 w2.heap.size 0 (E.cel hi):=n4.ext.row (show Row w3 w2.heap.size 0 (E.cel hi) from n3.row) fun _ _ g=>g
 have P9:Row w4 w3.heap.size 0 [.bool p,.bool nr,.bool mi]:=n4.row
 have rm:=mk_at P5
 refine W_sq fun K hK=>(W_text [true,true,false,true] (by kernel_rfl) ?_);simp only [↓zZ1,↓reduceIte,Nat.reduceEqDiff,rg,ow_38,e1,ptr_eq,rm]
 refine do_call fn_43 (by simp only [zZ2,Nat.reduceEqDiff,↓reduceIte,zZ4]<;>rfl) (growG_any d hd ord sv nl l lv w4 (SlV.ext0 hO X4) hOb (SlV.ext0 hl X4) (by omega)) ?_
 rintro _ w5 ⟨x5,B,m,F0,rfl,hM,hm,hsi⟩
 refine ⟨trivial,?_⟩
 simp only [↓zZ1,↓reduceIte,Nat.reduceEqDiff,rg,ow_38]
 apply hK;clear hK K
 have s5:=x5.size
 have hml:=hM.mlt
 have X5:=X4.tr x5
 have zl:=iX_at (x5.row P7 fun _ _ g=>g)
 have zh:=iX_at (x5.row P8 fun _ _ g=>g)
 have zo:rdA w5 w3.heap.size 0 3=some (rgV p nr mi):=(x5.row P9 fun _ _ g=>g).rdA 3 (Nat.le_refl _)
 have M1:readsB (some (some [w1.heap.size,w2.heap.size,w3.heap.size])) w1.heap.size=true:=by simp [readsB]
 have M2:readsB (some (some [w1.heap.size,w2.heap.size,w3.heap.size])) w2.heap.size=true:=by simp [readsB]
 have M3:readsB (some (some [w1.heap.size,w2.heap.size,w3.heap.size])) w3.heap.size=true:=by simp [readsB]
 refine W_sqx fun J hJ=>?_
 have hend:∀ (g:Env) (u0 u1 w9:World) (xb:Nat) (F':Nat->Nat->Prop) (a':Option Addr) (n' c':Nat) (lv:Value) (cnt:Int) (v:Value),g 13=ptr m->g 14=ptr xb->Ext noF w5 u0->DrR B m (degOf d) ord (treeG ord l) F0 lo hi (p || !nr) (mi && !p) u0 F' a' n' c' lv cnt v u1->((m<xb/\xb<u0.heap.size/\∀ o,¬ F0 xb o)\/u1.heap.size<=xb)->Ext (rng xb 0 4) u1 w9 →
   Row w9 xb 0 [lv,.int .i64 cnt,.int .i64 0,.slice a' (n':Nat) c']->wok w9 xb 4->J g w9:=by
  intro g u0 u1 w9 xb F' a' n' c' lv cnt v g13 g14 xu R hxb x9 r9 k9
  refine hJ _ _ ?_;clear hJ J
  have zu:=xu.size
  have z1:=R.x.size
  have z9:=x9.size
  have hxm:m<xb:=by rcases hxb with h | h<;>omega
  have hF':∀ y o,F' y o->y ≠ xb:=fun y o h e=>by
   rcases hxb with k | k
   ·rcases R.F y o h with (⟨o',j⟩ | j) | j
    ·exact k.2.2 o' (e ▸ j)
    ·omega
    ·omega
   ·have:=R.t.lt y o h;omega
  refine W_sq fun K hK=>(W_text [false,false,true,false,true,true,true] (by kernel_rfl) ?_);simp only [↓zZ1,↓reduceIte,Nat.reduceEqDiff,rg,ow_38,g13,g14]
  refine do_call fn_62 (vs:=#[ptr xb]) (by simp only [zZ2,Nat.reduceEqDiff,↓reduceIte,zZ4,g13,g14]<;>rfl) (R.s w9 xb x9 (hxb.symm) r9 k9) ?_
  rintro v10 w10 ⟨h0,-,x10⟩
  refine ⟨trivial,?_⟩
  simp only [↓zZ1,↓reduceIte,Nat.reduceEqDiff,rg,ow_38,g13,g14]
  obtain ⟨vn,hvn⟩:=wok_at (x10.wok k9) (by decide:1<4)
  refine do_call fn_66 (vs:=#[ptr xb]) (by simp only [zZ2,Nat.reduceEqDiff,↓reduceIte,zZ4,g13,g14]<;>rfl) (lenv_any xb vn w10 hvn) ?_
  rintro _ _ ⟨rfl,rfl⟩
  refine ⟨trivial,?_⟩
  simp only [↓zZ1,↓reduceIte,Nat.reduceEqDiff,rg,ow_38,g13,g14]
  have hG:∀ y o,(y=xb\/blk a'=some y)->m<y/\¬ F' y o:=fun y o h=>by
   rcases h with h | h
   ·exact ⟨by omega,fun k=>hF' y o k h⟩
   ·obtain ⟨k1,k2,-,-⟩:=R.k y h
    exact ⟨k1,k2 o⟩
  have t10:=(R.t.extG x9 (fun y o hy h=>hF' y o hy h.1) fun y o h=>by have:=h.1;omega).extG x10 (fun y o hy h=>(hG y o h).2 hy) fun y o h=>(hG y o h).1
  have hfl:((treeG ord l).filter fun x=>!inI ord (mi && !p) lo hi x).length<=(treeG ord l).length:=List.length_filter_le _ _
  refine do_call fn_46 (vs:=#[ptr m]) (by simp only [zZ2,Nat.reduceEqDiff,↓reduceIte,zZ4,g13,g14]<;>rfl) (itemsG_any B m (degOf d) ord 1 _ F' w10 t10 (by omega)) ?_
  rintro v11 w11 ⟨h11,x11⟩
  refine ⟨trivial,?_⟩
  simp only [↓zZ1,↓reduceIte,Nat.reduceEqDiff,rg,ow_38]
  apply hK;clear hK K
  have XX:Ext (fun y _=>w4.heap.size<=y) u0 w11:=((R.x.mono fun y o _ h=>?_).tr (x9.mono fun y o _ h=>?_)).tr ((x10.mono fun y o _ h=>?_).tr (x11.mono fun _ _ _ h=>h.elim))
  ·exact W_ret (endQ_3 (by simp only [upd_eq,Nat.reduceEqDiff,↓reduceIte]<;>rfl) (by simp only [upd_eq,Nat.reduceEqDiff,↓reduceIte]<;>rfl) (by simp only [upd_eq,Nat.reduceEqDiff,↓reduceIte]<;>rfl) ⟨_,_,_,rfl,SlV.ext0 h0 x11,h11.sl,noF_of (X5.tr xu) XX fun y o hy h=>by omega⟩)
  ·rcases h with ⟨o',h⟩ | h
   ·exact hsi y o' h
   ·omega
  ·have:=h.1;omega
  ·have:=(hG y o h).1;omega
 clear hJ
 have hIb:(treeG ord l).length<=2147483647:=by omega
 refine W_rg fun K hK=>(W_free (some (some [w1.heap.size,w2.heap.size,w3.heap.size])) (.take 0 (.take 1 (.take 2 (.take 3 (.split 4 (.split 5 (.act 6 (.bar 7 .nil)) 6 (.act 5 (.bar 7 .nil))) 6 (.act 4 (.act 5 (.bar 7 .nil)))))))) mixed (by kernel_rfl) ?_);simp only [↓zZ1,↓reduceIte,Nat.reduceEqDiff,rg,ow_38,ptr_eq,zl,zh,zo,M1,M2,M3]
 have keep:∀ {x y:World},Ext noF x y->w5.heap.size<=x.heap.size->keeps (some (some [w1.heap.size,w2.heap.size,w3.heap.size])) x y:=fun x h=>keeps_on x fun y hy=>⟨by
  simp only [List.mem_cons,List.not_mem_nil,or_false] at hy
  omega,fun _ g=>g⟩
 have keepX:∀ {x y:World} {xb:Nat},Ext (rng xb 0 4) x y->w5.heap.size<=xb/\w5.heap.size<=x.heap.size->keeps (some (some [w1.heap.size,w2.heap.size,w3.heap.size])) x y:=fun x h=>keeps_on x fun y hy=>by
  simp only [List.mem_cons,List.not_mem_nil,or_false] at hy
  exact ⟨by omega,fun o g=>by have:=g.1;omega⟩
 have keepR:∀ {x y:World},Ext (fun y _=>(∃ o,F0 y o)\/y=m) x y->w5.heap.size<=x.heap.size->keeps (some (some [w1.heap.size,w2.heap.size,w3.heap.size])) x y:=fun x h=>keeps_on x fun y hy=>by
  simp only [List.mem_cons,List.not_mem_nil,or_false] at hy
  refine ⟨by omega,fun o g=>?_⟩
  rcases g with ⟨o',g⟩ | g
  ·have:=hsi y o' g;omega
  ·omega
 have xd:Ext noF w5 (dr w5 (w5.drawn+1)):=Ext.dr _ _ _
 have zd:(dr w5 (w5.drawn+1)).heap.size=w5.heap.size:=rfl
 refine ⟨?_,?_⟩
 ·refine do_call fn_61 (vs:=#[rgV p nr mi]) (by simp only [zZ2,Nat.reduceEqDiff,↓reduceIte,zZ4]<;>rfl) (ranges_any p nr mi (dr w5 (w5.drawn+1))) ?_
  rintro _ u1 ⟨ov,nr',mi',rfl,xr,hov,hex,hmi⟩
  have zr:=xr.size
  have xu1:Ext noF w5 u1:=xd.tr xr
  have zu1:=xu1.size
  refine ⟨by first | exact trivial | exact .inr (keep xr (by omega)),?_⟩
  simp only [↓zZ1,↓reduceIte,Nat.reduceEqDiff,rg,ow_38,ptr_eq,zl,zh,zo,M1,M2,M3]
  refine ⟨?_,?_⟩
  ·refine do_call fn_65 (vs:=#[ptr m,itV lo,itV hi,oV ov]) (by simp only [zZ2,Nat.reduceEqDiff,↓reduceIte,zZ4]<;>rfl) (dr_any B m (degOf d) ord hd2 hd3 (treeG ord l) F0 u1 (hM.ext xu1) hIb lo hi ov nr' mi' (hov) (p || !nr) (mi && !p) hex (hmi.trans (Bool.and_comm _ _))) ?_
   rintro _ u2 ⟨F',a',n',c',lv,cnt,R⟩
   obtain rfl:=R.v
   have zy:=R.x.size
   refine ⟨by first | exact trivial | exact .inr (keepR R.x (by omega)),?_⟩
   simp only [↓zZ1,↓reduceIte,Nat.reduceEqDiff,rg,ow_38,ptr_eq,zl,zh,zo,M1,M2,M3]
   refine do_alloc z_list fun u3 n3=>⟨by first | exact trivial | exact .inr (keep n3.ext (by omega)),?_⟩
   have zu3:=n3.size
   simp only [↓zZ1,↓reduceIte,Nat.reduceEqDiff,rg,ow_38,ptr_eq,zl,zh,zo,M1,M2,M3]
   refine do_store (v:=.agg #[lv,.int .i64 cnt,.int .i64 0,.slice a' (n':Nat) c']) (by simp only [zZ2,Nat.reduceEqDiff,↓reduceIte,zZ3]<;>rfl) (by simp only [zZ2,Nat.reduceEqDiff,↓reduceIte,zZ3]<;>rfl) sz_115 rfl (n3.wok) (by decide) (R.oc) fun w9 x9 r9 s9=>⟨by first | exact trivial | exact .inr (keepX x9 (by omega)),?_⟩
   simp only [↓zZ1,↓reduceIte,Nat.reduceEqDiff,rg,ow_38]
   apply hK;clear hK K
   exact hend _ u1 u2 w9 u2.heap.size F' a' n' c' lv cnt _ (by simp only [upd_eq,Nat.reduceEqDiff,↓reduceIte];first | done | rfl) (by simp only [upd_eq,Nat.reduceEqDiff,↓reduceIte];first | done | rfl) xu1 R (.inr (Nat.le_refl _)) ((n3.ext.mono fun _ _ _ g=>g.elim).tr x9) r9 (x9.wok n3.wok)
  ·refine do_alloc z_list fun u2 n2=>⟨by first | exact trivial | exact .inr (keep n2.ext (by omega)),?_⟩
   have zu2:=n2.size
   simp only [↓zZ1,↓reduceIte,Nat.reduceEqDiff,rg,ow_38,ptr_eq,zl,zh,zo,M1,M2,M3]
   have xu2:=xu1.tr n2.ext
   refine do_call fn_65 (vs:=#[ptr m,itV lo,itV hi,oV ov]) (by simp only [zZ2,Nat.reduceEqDiff,↓reduceIte,zZ4]<;>rfl) (dr_any B m (degOf d) ord hd2 hd3 (treeG ord l) F0 u2 (hM.ext xu2) hIb lo hi ov nr' mi' (fun ob h=>⟨n2.ext.rd (hov ob h).1 fun g=>g,n2.ext.rd (hov ob h).2 fun g=>g⟩) (p || !nr) (mi && !p) hex (hmi.trans (Bool.and_comm _ _))) ?_
   rintro _ u3 ⟨F',a',n',c',lv,cnt,R⟩
   obtain rfl:=R.v
   have zy:=R.x.size
   refine ⟨by first | exact trivial | exact .inr (keepR R.x (by omega)),?_⟩
   simp only [↓zZ1,↓reduceIte,Nat.reduceEqDiff,rg,ow_38,ptr_eq,zl,zh,zo,M1,M2,M3]
   refine do_store (v:=.agg #[lv,.int .i64 cnt,.int .i64 0,.slice a' (n':Nat) c']) (by simp only [zZ2,Nat.reduceEqDiff,↓reduceIte,zZ3]<;>rfl) (by simp only [zZ2,Nat.reduceEqDiff,↓reduceIte,zZ3]<;>rfl) sz_115 rfl (R.x.wok n2.wok) (by decide) (R.oc) fun w9 x9 r9 s9=>⟨by first | exact trivial | exact .inr (keepX x9 (by omega)),?_⟩
   simp only [↓zZ1,↓reduceIte,Nat.reduceEqDiff,rg,ow_38]
   apply hK;clear hK K
   exact hend _ u2 u3 w9 u1.heap.size F' a' n' c' lv cnt _ (by simp only [upd_eq,Nat.reduceEqDiff,↓reduceIte];first | done | rfl) (by simp only [upd_eq,Nat.reduceEqDiff,↓reduceIte];first | done | rfl) xu2 R (.inl ⟨by omega,by omega,fun o g=>by have:=hM.lt _ _ g;omega⟩) x9 r9 (x9.wok (R.x.wok n2.wok))
 ·refine do_alloc z_list fun u1 n1=>⟨by first | exact trivial | exact .inr (keep n1.ext (by omega)),?_⟩
  have zu1:=n1.size
  simp only [↓zZ1,↓reduceIte,Nat.reduceEqDiff,rg,ow_38,ptr_eq,zl,zh,zo,M1,M2,M3]
  have xa:Ext noF w5 u1:=xd.tr n1.ext
  refine do_call fn_61 (vs:=#[rgV p nr mi]) (by simp only [zZ2,Nat.reduceEqDiff,↓reduceIte,zZ4]<;>rfl) (ranges_any p nr mi u1) ?_
  rintro _ u2 ⟨ov,nr',mi',rfl,xr,hov,hex,hmi⟩
  have zr:=xr.size
  have xu2:Ext noF w5 u2:=xa.tr xr
  have zu2:=xu2.size
  refine ⟨by first | exact trivial | exact .inr (keep xr (by omega)),?_⟩
  simp only [↓zZ1,↓reduceIte,Nat.reduceEqDiff,rg,ow_38,ptr_eq,zl,zh,zo,M1,M2,M3]
  refine do_call fn_65 (vs:=#[ptr m,itV lo,itV hi,oV ov]) (by simp only [zZ2,Nat.reduceEqDiff,↓reduceIte,zZ4]<;>rfl) (dr_any B m (degOf d) ord hd2 hd3 (treeG ord l) F0 u2 (hM.ext xu2) hIb lo hi ov nr' mi' (hov) (p || !nr) (mi && !p) hex (hmi.trans (Bool.and_comm _ _))) ?_
  rintro _ u3 ⟨F',a',n',c',lv,cnt,R⟩
  obtain rfl:=R.v
  have zy:=R.x.size
  refine ⟨by first | exact trivial | exact .inr (keepR R.x (by omega)),?_⟩
  simp only [↓zZ1,↓reduceIte,Nat.reduceEqDiff,rg,ow_38,ptr_eq,zl,zh,zo,M1,M2,M3]
  refine do_store (v:=.agg #[lv,.int .i64 cnt,.int .i64 0,.slice a' (n':Nat) c']) (by simp only [zZ2,Nat.reduceEqDiff,↓reduceIte,zZ3]<;>rfl) (by simp only [zZ2,Nat.reduceEqDiff,↓reduceIte,zZ3]<;>rfl) sz_115 rfl (R.x.wok (xr.wok n1.wok)) (by decide) (R.oc) fun w9 x9 r9 s9=>⟨by first | exact trivial | exact .inr (keepX x9 (by omega)),?_⟩
  simp only [↓zZ1,↓reduceIte,Nat.reduceEqDiff,rg,ow_38]
  apply hK;clear hK K
  exact hend _ u2 u3 w9 (dr w5 (w5.drawn+1)).heap.size F' a' n' c' lv cnt _ (by simp only [upd_eq,Nat.reduceEqDiff,↓reduceIte];first | done | rfl) (by simp only [upd_eq,Nat.reduceEqDiff,↓reduceIte];first | done | rfl) xu2 R (.inl ⟨by omega,by omega,fun o g=>by have:=hM.lt _ _ g;omega⟩) x9 r9 (x9.wok (R.x.wok (xr.wok n1.wok)))
theorem bu_rg0:buildV Try.prog 63 []=some (rgV false false false):=by kernel_rfl
def exSp:List (It × It):=[((2,0),(8,0)),((0,0),(9,0))]
set_option maxHeartbeats 400000 in
set_option maxRecDepth 8000 in
theorem impl_gitems (d:Nat) (hd:DOk d) (ord:List Int) (sv:Value) (nl:Bool) (l:List It) (lv:Value) (w:World) (hs:SlInt w sv ord) (hsb:ord.length<=2147483647) (hl:SlI w lv l) (hbig:l.length<=4294967294) :
  CallK Try.prog 24 #[mkV sv d nl,lv] w fun v w'=>SlI w' v (treeG ord l)/\since w.heap.size v/\Ext noF w w':=by
 have htl:=treeG_len ord l
 refine calls_of_W [.tmp 4] Try.func24 rfl Try.ntmps24 Try.results24 (by simp) fun e he=>?_
 have e0:e 0=mkV sv d nl:=he 0 _ rfl
 have e1:e 1=lv:=he 1 _ rfl
 clear he
 refine W_sq fun K hK=>(W_text [false,true] (by kernel_rfl) ?_);simp only [↓zZ1,↓reduceIte,Nat.reduceEqDiff,rg,ow_24]
 refine do_box (by simp only [evt];exact e0) fun w1 n1=>⟨trivial,?_⟩
 simp only [↓zZ1,↓reduceIte,Nat.reduceEqDiff,rg,ow_24]
 apply hK;clear hK K
 have s1:=n1.size
 have rm:=mk_at (show Row w1 w.heap.size 0 (mkL sv d nl) from n1.row)
 refine W_sq fun K hK=>(W_text [true,true,false,false,true] (by kernel_rfl) ?_);simp only [↓zZ1,↓reduceIte,Nat.reduceEqDiff,rg,ow_24,e1,rm]
 refine do_call fn_43 (by simp only [zZ2,Nat.reduceEqDiff,↓reduceIte,zZ4]<;>rfl) (growG_any d hd ord sv nl l lv w1 (SlV.ext0 hs n1.ext) hsb (SlV.ext0 hl n1.ext) hbig) ?_
 rintro _ w2 ⟨X2,B,m,F,rfl,hM,hm,-⟩
 refine ⟨trivial,?_⟩
 simp only [↓zZ1,↓reduceIte,Nat.reduceEqDiff,rg,ow_24]
 refine do_call fn_46 (by simp only [zZ2,Nat.reduceEqDiff,↓reduceIte,zZ4]<;>rfl) (itemsG_any B m (degOf d) ord 1 (treeG ord l) F w2 hM (by omega)) ?_
 rintro v3 w3 ⟨hO,X3⟩
 refine ⟨trivial,?_⟩
 simp only [↓zZ1,↓reduceIte,Nat.reduceEqDiff,rg,ow_24]
 apply hK;clear hK K
 have s2:=X2.size
 exact W_ret (endQ_1 (by simp only [upd_eq,Nat.reduceEqDiff,↓reduceIte]<;>rfl) ⟨hO.sl,fun b o n c h=>by have:=hO.si b o n c h;omega,(n1.ext.tr X2).tr X3⟩)
theorem SlV.one {w:World} {sz n:Nat} {v:Value} {l:List Value} (h:SlV w sz v n l):v.oneCell'=true:=by obtain ⟨a,c,rfl⟩:=h.shape;rfl
set_option maxHeartbeats 400000 in
set_option maxRecDepth 8000 in
theorem fitsL_any (sv:Value) (d:Int) (nl:Bool) (w:World) (h1:sv.oneCell'=true) :
  CallK Try.prog 13 #[.agg #[sv,.int .i64 d,.bool nl]] w fun v w'=>v = .bool (decide (d=0) || (decide (2<=d) && decide (d<=128)))/\Ext noF w w':=by
 refine calls_of_W [.tmp 2] Try.func13 rfl Try.ntmps13 Try.results13 (by simp) fun e he=>?_
 have e0:e 0 = .agg #[sv,.int .i64 d,.bool nl]:=he 0 _ rfl
 clear he
 refine W_sq fun K hK=>(W_text [false,true] (by kernel_rfl) ?_);simp only [↓zZ1,↓reduceIte,Nat.reduceEqDiff,rg,ow_13]
 refine do_box (by simp only [evt];exact e0) fun w1 n1=>⟨trivial,?_⟩
 simp only [↓zZ1,↓reduceIte,Nat.reduceEqDiff,rg,ow_13]
 apply hK;clear hK K
 have g1:=(Row.cons.1 (Row.cons.1 (show Row w1 w.heap.size 0 [sv,.int .i64 d,.bool nl] from n1.row)).2).1
 rw [Nat.zero_add] at g1
 refine W_sq fun K hK=>(W_text [true,true,false,true] (by kernel_rfl) ?_);simp only [↓zZ1,↓reduceIte,Nat.reduceEqDiff,rg,ow_13,g1]
 refine do_call fn_23 (by simp only [zZ2,Nat.reduceEqDiff,↓reduceIte,zZ4]<;>rfl) (fits_any d w1) ?_
 rintro _ w2 ⟨rfl,hw2⟩
 obtain rfl:w1=w2:=hw2
 refine ⟨trivial,?_⟩
 simp only [↓zZ1,↓reduceIte,Nat.reduceEqDiff,rg,ow_13]
 apply hK;clear hK K
 exact W_ret (endQ_1 (by simp only [upd_eq,Nat.reduceEqDiff,↓reduceIte]<;>rfl) ⟨rfl,n1.ext⟩)
set_option maxHeartbeats 400000 in
set_option maxRecDepth 8000 in
theorem alive_any (w:World):CallK Try.prog 14 #[] w fun v w'=>v = .bool true/\Ext noF w w':=by
 refine calls_of_W (args:=[]) [.tmp 0] Try.func14 rfl Try.ntmps14 Try.results14 (by simp) fun e he=>?_
 clear he
 refine W_sq fun K hK=>(W_text [true] (by kernel_rfl) ?_);simp only [↓zZ1,↓reduceIte,Nat.reduceEqDiff,rg,ow_14]
 apply hK;clear hK K
 refine W_sq fun K hK=>(W_text [false,false,true,false,true,true,true] (by kernel_rfl) ?_);simp only [↓zZ1,↓reduceIte,Nat.reduceEqDiff,rg,ow_14]
 refine do_call fn_19 (by simp only [zZ2,Nat.reduceEqDiff,↓reduceIte,zZ4]<;>rfl) (exMake_any w) ?_
 rintro _ w1 ⟨rfl,X1⟩
 refine ⟨trivial,?_⟩
 simp only [↓zZ1,↓reduceIte,Nat.reduceEqDiff,rg,ow_14]
 refine do_call fn_20 (by simp only [zZ2,Nat.reduceEqDiff,↓reduceIte,zZ4]<;>rfl) (exItems_any w1) ?_
 rintro x0 w2 ⟨h2,X2⟩
 refine ⟨trivial,?_⟩
 obtain ⟨s3,hs30,hS3⟩:=sl_hi h2 3 (by decide)
 have hs3:sliceV Try.prog 25 x0 none (some (.int .i64 3)) none=some s3:=hs30
 simp only [↓zZ1,↓reduceIte,Nat.reduceEqDiff,rg,ow_14,hs3]
 refine do_call fn_24 (by simp only [zZ2,Nat.reduceEqDiff,↓reduceIte,zZ4]<;>rfl) (impl_gitems 2 (.inr (by decide)) [] nilS false (exL.take 3) s3 w2 (nil_int _) (by decide) hS3 (by decide)) ?_
 rintro v4 w4 ⟨h4,_,X4⟩
 refine ⟨trivial,?_⟩
 obtain ⟨a4,c4,rfl⟩:=SlV.shape h4
 have hl:(treeG [] (exL.take 3)).length=3:=by decide
 have ht:(((3:Nat):Int) == 3)=true:=by decide
 rw [hl]
 simp only [↓zZ1,↓reduceIte,Nat.reduceEqDiff,rg,ow_14,ht]
 apply hK;clear hK K
 exact W_ret (endQ_1 (by simp only [upd_eq,Nat.reduceEqDiff,↓reduceIte]<;>rfl) ⟨rfl,(X1.tr X2).tr X4⟩)
theorem bs_spp (x y:It × It):bsV Try.prog 55 2 [(0,spV x),(1,spV y)]=some (57,flat Esp [x,y]):=by kernel_rfl
theorem twice_r (ord:List Int) (X:List It) (s:It × It):runR ord true false X [s,s]=([X.filter (inI ord false s.1 s.2),[]],X.filter fun x=>!inI ord false s.1 s.2 x):=by
 have h1:(X.filter fun x=>!inI ord false s.1 s.2 x).filter (inI ord false s.1 s.2)=[]:=by
  rw [List.filter_filter,List.filter_eq_nil_iff]
  intro x _;cases inI ord false s.1 s.2 x<;>simp
 have h2:(X.filter fun x=>!inI ord false s.1 s.2 x).filter (fun x=>!inI ord false s.1 s.2 x)=X.filter fun x=>!inI ord false s.1 s.2 x:=by
  rw [List.filter_filter];congr 1;funext x;simp
 simp [runR,stepR,h1,h2]
set_option maxHeartbeats 3200000 in
set_option maxRecDepth 8000 in
theorem top_FnGRangeTwice (ord:List Int) (sv:Value) (d:Int) (nl:Bool) (a0:List It) (v0:Value) (a1:It × It) (w:World) (gs:SlInt w sv ord) (g0:SlI w v0 a0) :
  CallK Try.prog 9 #[.agg #[sv,.int .i64 d,.bool nl],v0,spV a1] w fun v w'=>v = .bool true/\Ext noF w w':=by
 obtain ⟨p0,c0,hv0⟩:=SlV.shape g0
 refine calls_of_W [.tmp 6] Try.func9 rfl Try.ntmps9 Try.results9 (by simp) fun e he=>?_
 have e0:e 0 = .agg #[sv,.int .i64 d,.bool nl]:=he 0 _ rfl
 have e1:e 1=v0:=he 1 _ rfl
 have e2:e 2=spV a1:=he 2 _ rfl
 clear he
 refine W_sq fun K hK=>(W_text [false,false,true] (by kernel_rfl) ?_);simp only [↓zZ1,↓reduceIte,Nat.reduceEqDiff,rg,ow_9]
 refine do_box (by simp only [evt];exact e0) fun w1 n1=>⟨trivial,?_⟩
 simp only [↓zZ1,↓reduceIte,Nat.reduceEqDiff,rg,ow_9]
 refine do_box (by simp only [evt,upd_eq,Nat.reduceEqDiff,↓reduceIte];exact e2) fun w2 n2=>⟨trivial,?_⟩
 simp only [↓zZ1,↓reduceIte,Nat.reduceEqDiff,rg,ow_9]
 have Z2:=n1.ext.tr n2.ext
 apply hK;clear hK K
 have rm1:Row w2 w.heap.size 0 [sv,.int .i64 d,.bool nl]:=(n2.ext).row n1.row fun _ _ h=>h
 have ri1:Row w2 w1.heap.size 0 (Esp.cel a1):=n2.row
 have XB:Ext noF w w2:=Z2
 have sB:=n1.size
 have sB2:=n2.size
 have rm13:rdA w2 w.heap.size 0 3=some (.agg #[sv,.int .i64 d,.bool nl]):=rm1.rdA 3 (Nat.le_refl _)
 refine W_seq ?_
 refine W_sq fun K hK=>(W_text [true,false,true,true,true,true,true,true] (by kernel_rfl) ?_);simp only [↓zZ1,↓reduceIte,Nat.reduceEqDiff,rg,ow_9,e1,hv0,rm13]
 refine do_call fn_12 (by simp only [zZ2,Nat.reduceEqDiff,↓reduceIte,zZ4]<;>rfl) (fits1_any sv ord (.int .i64 d) nl w2 (SlV.ext0 gs XB)) ?_
 rintro _ wf ⟨rfl,xf⟩
 refine ⟨trivial,?_⟩
 have XF:=XB.tr xf
 by_cases hbo:ord.length<=2147483647
 case neg =>
  have to:decide (ord.length<=2147483647)=false:=by simp;omega
  simp only [↓zZ1,↓reduceIte,Nat.reduceEqDiff,rg,ow_9,e1,hv0,to]
  apply hK;clear hK K
  refine W_true (by simp only [zZ2,Nat.reduceEqDiff,↓reduceIte,zZ3]<;>rfl) ?_
  refine W_sq fun K hK=>(W_text [true] (by kernel_rfl) ?_);simp only [↓zZ1,↓reduceIte,Nat.reduceEqDiff,rg,ow_9]
  apply hK;clear hK K
  refine W_ret ?_
  simp only [andThen_ret]
  exact endQ_1 (by simp only [upd_eq,Nat.reduceEqDiff,↓reduceIte]<;>rfl) ⟨rfl,XF⟩
 have to:decide (ord.length<=2147483647)=true:=by simp;omega
 by_cases hb0:a0.length<=2147483647
 case neg =>
  have t0:decide ((2147483647:Int)<(a0.length:Int))=true:=by simp;omega
  simp only [↓zZ1,↓reduceIte,Nat.reduceEqDiff,rg,ow_9,e1,hv0,to,t0]
  apply hK;clear hK K
  refine W_true (by simp only [zZ2,Nat.reduceEqDiff,↓reduceIte,zZ3]<;>rfl) ?_
  refine W_sq fun K hK=>(W_text [true] (by kernel_rfl) ?_);simp only [↓zZ1,↓reduceIte,Nat.reduceEqDiff,rg,ow_9]
  apply hK;clear hK K
  refine W_ret ?_
  simp only [andThen_ret]
  exact endQ_1 (by simp only [upd_eq,Nat.reduceEqDiff,↓reduceIte]<;>rfl) ⟨rfl,XF⟩
 have t0:decide ((2147483647:Int)<(a0.length:Int))=false:=by simp;omega
 simp only [↓zZ1,↓reduceIte,Nat.reduceEqDiff,rg,ow_9,e1,hv0,to,t0]
 apply hK;clear hK K
 refine W_false (by simp only [zZ2,Nat.reduceEqDiff,↓reduceIte,zZ3]<;>rfl) (W_skip ?_)
 show W _ _ _ _ _ _
 have rmf:=xf.row rm1 fun _ _ h=>h
 have rmf3:rdA wf w.heap.size 0 3=some (.agg #[sv,.int .i64 d,.bool nl]):=rmf.rdA 3 (Nat.le_refl _)
 refine W_seq ?_
 refine W_sq fun K hK=>(W_text [true,false,true] (by kernel_rfl) ?_);simp only [↓zZ1,↓reduceIte,Nat.reduceEqDiff,rg,ow_9,rmf3]
 refine do_call fn_13 (by simp only [zZ2,Nat.reduceEqDiff,↓reduceIte,zZ4]<;>rfl) (fitsL_any sv d nl wf (SlV.one gs)) ?_
 rintro _ wc ⟨rfl,xc⟩
 refine ⟨trivial,?_⟩
 have XC:=XF.tr xc
 cases hf:(decide (d=0) || (decide (2<=d) && decide (d<=128))) with
 | false =>
  simp only [↓zZ1,↓reduceIte,Nat.reduceEqDiff,rg,ow_9]
  apply hK;clear hK K
  refine W_true (by simp only [zZ2,Nat.reduceEqDiff,↓reduceIte,zZ3]<;>rfl) ?_
  refine W_sq fun K hK=>(W_text [false,true] (by kernel_rfl) ?_);simp only [↓zZ1,↓reduceIte,Nat.reduceEqDiff,rg,ow_9]
  refine do_call fn_14 (by simp only [zZ2,Nat.reduceEqDiff,↓reduceIte,zZ4]<;>rfl) (alive_any wc) ?_
  rintro _ u1 ⟨rfl,z1⟩
  refine ⟨trivial,?_⟩
  simp only [↓zZ1,↓reduceIte,Nat.reduceEqDiff,rg,ow_9]
  apply hK;clear hK K
  refine W_ret ?_
  simp only [andThen_ret]
  exact endQ_1 (by simp only [upd_eq,Nat.reduceEqDiff,↓reduceIte]<;>rfl) ⟨rfl,XC.tr z1⟩
 | true =>
  have h2:d=0\/2<=d/\d<=128:=by simp at hf;omega
  obtain ⟨n,rfl⟩:∃ n:Nat,d=n:=⟨d.toNat,by omega⟩
  have hd:DOk n:=by unfold DOk;omega
  simp only [↓zZ1,↓reduceIte,Nat.reduceEqDiff,rg,ow_9]
  apply hK;clear hK K
  refine W_false (by simp only [zZ2,Nat.reduceEqDiff,↓reduceIte,zZ3]<;>rfl) (W_skip ?_)
  show W _ _ _ _ _ _
  have rm:Row wc w.heap.size 0 (mkL sv n nl):=xc.row rmf fun _ _ h=>h
  have rm3:=mk_at rm
  have sC:w.heap.size<wc.heap.size:=by have:=xf.size;have:=xc.size;omega
  have rc1:Row wc w1.heap.size 0 (Esp.cel a1):=(xf.tr xc).row ri1 fun _ _ h=>h
  have rc1v:rdA wc w1.heap.size 0 4=some (spV a1):=rc1.rdA 4 (Nat.le_refl _)
  have sC1:w1.heap.size<wc.heap.size:=by have:=xf.size;have:=xc.size;omega
  have htl:=treeG_len ord a0
  refine W_sq fun K hK=>(W_text [true,true,true,true,false,true,false,true,true,true,true,true] (by kernel_rfl) ?_);simp only [↓zZ1,↓reduceIte,Nat.reduceEqDiff,rg,ow_9,e1,ptr_eq,rm3,rc1v,bu_rg0]
  refine do_bsl rfl (bs_spp a1 a1) fun u1 n1'=>⟨trivial,?_⟩
  have Y1:=XC.tr n1'.ext
  have rm1':=n1'.ext.row rm fun _ _ h=>h
  have rm13':=mk_at rm1'
  simp only [↓zZ1,↓reduceIte,Nat.reduceEqDiff,rg,ow_9,e1,ptr_eq,rm13',bu_rg0]
  have hss:SlSp u1 (.slice (some ⟨wc.heap.size,0,none⟩) 2 2) [a1,a1]:=⟨rfl,.inr ⟨_,0,2,rfl,Nat.le_refl _,n1'.row,n1'.wok.R (Nat.le_refl _)⟩⟩
  refine do_call fn_34 (by simp only [zZ2,Nat.reduceEqDiff,↓reduceIte,zZ4]<;>rfl) (impl_delr n hd ord sv nl a0 v0 [a1,a1] _ false false false u1 (SlV.ext0 gs Y1) hbo (SlV.ext0 g0 Y1) hb0 hss (by simp)) ?_
  rintro _ u2 ⟨q1,q2,K1,hs1,rfl,h1,h2,X2⟩
  refine ⟨trivial,?_⟩
  have Y2:=Y1.tr X2
  have htw:=twice_r ord (treeG ord a0) a1
  have h1:LL K1 u2 q1 hs1 (runR ord true false (treeG ord a0) [a1,a1]).1:=h1
  have h2:SlI u2 q2 (runR ord true false (treeG ord a0) [a1,a1]).2:=h2
  rw [htw] at h1 h2
  have hl1:=h1.len
  obtain ⟨b1,b2,rfl⟩:∃ b1 b2,hs1=[b1,b2]:=by
   match hs1,hl1 with
   | [b1,b2],_=>exact ⟨b1,b2,rfl⟩
  simp only [↓zZ1,↓reduceIte,Nat.reduceEqDiff,rg,ow_9]
  apply hK;clear hK K
  have Z2:=n1'.ext.tr X2
  have rm2:=mk_at (Z2.row rm fun _ _ h=>h)
  have rs2:Row u2 w1.heap.size 0 ([.int .i64 a1.1.1,.int .i64 a1.1.2]++[.int .i64 a1.2.1,.int .i64 a1.2.2]):=Z2.row rc1 fun _ _ h=>h
  have zl:rdA u2 w1.heap.size 0 2=some (iV a1.1):=(Row.append.1 rs2).1.rdA 2 (Nat.le_refl _)
  have zh:rdA u2 w1.heap.size 2 2=some (iV a1.2):=(Row.append.1 rs2).2.rdA 2 (Nat.le_refl _)
  refine W_sq fun K hK=>(W_text [true,true,true,true,true,true,true,false,true,true,true,true,true,true,true] (by kernel_rfl) ?_);simp only [↓zZ1,↓reduceIte,Nat.reduceEqDiff,rg,ow_9,e1,ptr_eq,rm2,zl,zh,bu_rg0]
  refine do_call fn_38 (by simp only [zZ2,Nat.reduceEqDiff,↓reduceIte,zZ4]<;>rfl) (impl_delo n hd ord sv nl a0 v0 a1.1 a1.2 false false false u2 (SlV.ext0 gs Y2) hbo (SlV.ext0 g0 Y2) hb0) ?_
  rintro _ u3 ⟨q3,qc,q4,rfl,h3,h4,X3⟩
  refine ⟨trivial,?_⟩
  have h3:SlI u3 q3 ((treeG ord a0).filter (inI ord false a1.1 a1.2)):=h3
  have h4:SlI u3 q4 ((treeG ord a0).filter fun x=>!inI ord false a1.1 a1.2 x):=h4
  have Y3:=Y2.tr X3
  have h1:=h1.ext X3 fun _ _ _ g=>g
  have h2:=SlV.ext0 h2 X3
  simp only [↓zZ1,↓reduceIte,Nat.reduceEqDiff,rg,ow_9]
  apply hK;clear hK K
  obtain ⟨k1,-,-⟩:=h1.el 0 b1 _ rfl rfl
  obtain ⟨k2,-,-⟩:=h1.el 1 b2 _ rfl rfl
  obtain ⟨aq,cq,hq1⟩:=h1.sl.shape
  have hq1:q1 = .slice aq 2 cq:=hq1
  obtain ⟨bq,oq,hqa,rq⟩:=h1.sl.at hq1 (show 0<2 by decide)
  subst hqa
  have y0:rd u3 bq oq=some (hdV b1):=hdV_at rq (i:=0) rfl
  have y1:rd u3 bq (oq+1)=some (hdV b2):=hdV_at rq (i:=1) rfl
  obtain ⟨a2,c2,hb2⟩:=SlV.shape k2
  have hb2:hdV b2 = .slice a2 0 c2:=hb2
  rw [hb2] at y1
  have i0:idxX (some 1) ⟨bq,oq,none⟩ 2 (0:Int)=some (.pointer (some ⟨bq,oq,none⟩)):=idxX_s 1 bq oq 2 0 (by decide)
  have i1:idxX (some 1) ⟨bq,oq,none⟩ 2 (1:Int)=some (.pointer (some ⟨bq,oq+1,none⟩)):=idxX_s 1 bq oq 2 1 (by decide)
  have te:(((2:Nat):Int) == 2)=true:=by decide
  have te0:(((0:Nat):Int) == 0)=true:=by decide
  have hfl:((treeG ord a0).filter (inI ord false a1.1 a1.2)).length<=(treeG ord a0).length:=List.length_filter_le _ _
  have hfl':((treeG ord a0).filter fun x=>!inI ord false a1.1 a1.2 x).length<=(treeG ord a0).length:=List.length_filter_le _ _
  refine W_sq fun K hK=>(W_text [true,true,true,true,true,true,true,true,false,true,true,true,true,true,true,true,true,true,true,true,false,true,true,false,true,true] (by kernel_rfl) ?_);simp only [↓zZ1,↓reduceIte,Nat.reduceEqDiff,rg,ow_9,hq1,ptr_eq,te,i0,y0]
  refine do_call fn_30 (by simp only [zZ2,Nat.reduceEqDiff,↓reduceIte,zZ4]<;>rfl) (eq_i ((treeG ord a0).filter (inI ord false a1.1 a1.2)) (hdV b1) q3 u3 k1 h3 (by omega)) ?_
  rintro _ u4 ⟨rfl,r4⟩
  have X4:Ext noF u3 u4:=r4.ext
  refine ⟨trivial,?_⟩
  have y1':=X4.rd y1 fun g=>g
  simp only [↓zZ1,↓reduceIte,Nat.reduceEqDiff,rg,ow_9,hq1,ptr_eq,i1,y1',te0]
  refine do_call fn_30 (by simp only [zZ2,Nat.reduceEqDiff,↓reduceIte,zZ4]<;>rfl) (eq_i ((treeG ord a0).filter fun x=>!inI ord false a1.1 a1.2 x) q2 q4 u4 (SlV.ext0 h2 X4) (SlV.ext0 h4 X4) (by omega)) ?_
  rintro _ u5 ⟨rfl,r5⟩
  have X5:Ext noF u4 u5:=r5.ext
  refine ⟨trivial,?_⟩
  simp only [↓zZ1,↓reduceIte,Nat.reduceEqDiff,rg,ow_9]
  refine do_call fn_14 (by simp only [zZ2,Nat.reduceEqDiff,↓reduceIte,zZ4]<;>rfl) (alive_any u5) ?_
  rintro _ u6 ⟨rfl,X6⟩
  refine ⟨trivial,?_⟩
  simp only [↓zZ1,↓reduceIte,Nat.reduceEqDiff,rg,ow_9]
  apply hK;clear hK K
  exact W_ret (endQ_1 (by simp only [upd_eq,Nat.reduceEqDiff,↓reduceIte]<;>rfl) ⟨rfl,((Y3.tr X4).tr X5).tr X6⟩)
end Go.Proofs.Ytbnnkcofnmipoaa
namespace Go.Proofs.Ytbnnkcofnmipoaa
open Go Go.Proofs Go.ChangeShapes Go.WideShapes Go.ChangeAt Go.RowKit
set_option maxRecDepth 100000 in
theorem c_FnGRangeTwice (H:Type) (enc:TypeId × Value->H) (W:World) (base:Nat) (args:Array Value) (ds gs:List (DataW H)) (before:List MemPlace)
  (hval:∀ (j:Nat) t v,Try.f9.params[j]? = some t->args[j]? = some v->Value.okWide Try.prog W .any base t v)
  (hW:DataW.Whole enc Try.prog Try.f9.params.toList Rows.fnGRangeTwiceSpec.vars false W args.toList ds gs before) :
  Calls Try.prog 9 args W fun e W'=>∃ v,e = .returned v/\Rows.fnGRangeTwiceSpec.post enc Try.prog Try.f9 false true false false W args v W':=by
 have hW':=hW
 obtain ⟨p,q,hA0,hV,rfl,hfz,hnd⟩:=hW
 have hA:DataW.TrodAll enc Try.prog W 0 (fun _=>true) true Try.f9.params.toList args.toList ds p:=hA0
 rw [Try.params9] at hA hval
 obtain ⟨v0,v1,v2,d0,d1,d2,p0,p1,p2,rfl,rfl,rfl,h0,h1,h2⟩:=trodAll_three hA
 obtain ⟨rfl,rfl⟩:=trodVars_none hV
 obtain ⟨s0,a0,n0,r0,rfl,g0⟩:=open_make (hval 0 24 v0 rfl rfl) h0 fun b o h=>hfz b o (by simp [h])
 obtain ⟨a1,g1⟩:=open_items (hval 1 25 v1 rfl rfl) h1 fun b o h=>hfz b o (by simp [h])
 obtain ⟨a2,rfl⟩:=open_span (hval 2 57 v2 rfl rfl) h2
 exact calls_law laidOut (by rw [Try.params9];kernel_rfl) rfl hW' rfl rfl rfl (by kernel_rfl) Try.underlying4 (top_FnGRangeTwice r0 s0 a0 n0 a1 v1 a2 W g0 g1)
set_option maxRecDepth 100000 in
theorem l_FnGRangeTwice (os:Os) (started:os.Started) (H:Type) (enc:TypeId × Value->H) :
  ReturnsInHanded {} Try.checked os 9 .any (Rows.fnGRangeTwiceSpec.pre6 enc Try.prog Try.f9 Rows.fnGRangeTwiceRow.domain false) (Rows.fnGRangeTwiceSpec.post enc Try.prog Try.f9 false true false false):=by
 refine returnsInHanded_of_change (C:=Try.checked) own started (by kernel_rfl) Try.func9
  (ChangeSpec.witness6 (enc:=enc) (C:=Try.checked) false ⟨#[],#[.agg #[.slice none 0 0,.int .i64 0,.bool false],.slice none 0 0,.agg #[.int .i64 0,.int .i64 0,.int .i64 0,.int .i64 0]],[]⟩ 8 (by kernel_rfl) (by kernel_rfl) (by kernel_rfl) (by kernel_rfl)) ?_
 intro W base args ds gs before hval hW _ _
 exact c_FnGRangeTwice H enc W base args ds gs before hval hW
theorem h_FnGRangeTwice:Rows.FnGRangeTwiceSaid :=
 OpenClaim.holds_of_wide 9 Try.f9 rfl rfl rfl rfl rfl rfl rfl ⟨rfl,rfl,rfl,rfl,rfl⟩ rfl rfl rfl rfl rfl (by kernel_rfl) Try.func9 (by kernel_rfl)
  (of_decide_eq_true (by kernel_rfl)) (by unfold Func.isWrapper;first | (rw [if_pos (by decide +kernel)];kernel_rfl) | (rw [if_neg (by decide +kernel)];exact ⟨rfl,rfl⟩))
  (fun os started H enc _=>l_FnGRangeTwice os started H enc)
#print axioms h_FnGRangeTwice
end Go.Proofs.Ytbnnkcofnmipoaa
