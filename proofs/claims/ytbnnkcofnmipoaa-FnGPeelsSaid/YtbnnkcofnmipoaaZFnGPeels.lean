/- Texts in one. No condition. -/
import Derived.Test.YtbnnkcofnmipoaaZ8674e109
import Derived.Test.YtbnnkcofnmipoaaZ5b25d89c
set_option linter.unusedVariables false
set_option linter.unusedSimpArgs false
namespace Go.Proofs.Ytbnnkcofnmipoaa
open Go Go.Proofs
theorem blk_ok {a:Option Addr} {n c:Nat} (h:okA a n c) {y:Nat} (hy:blk a=some y):∃ oi,a=some ⟨y,oi,none⟩:=by
 rcases h with ⟨rfl,_⟩ | ⟨bi,oi,rfl⟩
 ·cases hy
 ·cases hy;exact ⟨oi,rfl⟩
structure Bet (B m d:Nat) (ord:List Int) (ex:Bool) (lb S0:Nat) (w:World) (st:List (List It) × List It) (v:Value) (F:Nat->Nat->Prop) (a:Option Addr) (n c:Nat) (hs:List Hd) (K:Nat->Prop):Prop where
 t:TreeAt B ord w m d 1 st.2 F
 l:LbAt m F lb w a n c
 ea:ex=false->a=none
 ll:LL K w v hs st.1
 kk:∀ y,K y->y<w.heap.size/\m<y/\y ≠ lb/\blk a ≠ some y/\∀ o,¬ F y o
 sm:S0<=m
 sF:∀ y o,F y o->S0<=y
 sa:∀ y,blk a=some y->S0<=y
theorem Bet.ext {B m d:Nat} {ord:List Int} {ex:Bool} {lb S0:Nat} {w w':World} {st:List (List It) × List It} {v:Value} {F:Nat->Nat->Prop} {a:Option Addr} {n c:Nat} {hs:List Hd} {K:Nat->Prop} (h:Bet B m d ord ex lb S0 w st v F a n c hs K) (x:Ext noF w w'):Bet B m d ord ex lb S0 w' st v F a n c hs K :=
 ⟨h.t.ext x,h.l.ext x fun _ g=>g,h.ea,h.ll.ext x fun _ _ _ g=>g,fun y hy=>by obtain ⟨g1,g2⟩:=h.kk y hy;exact ⟨Nat.lt_of_lt_of_le g1 x.size,g2⟩,h.sm,h.sF,h.sa⟩
theorem Bet.mid {B m d:Nat} {ord:List Int} {ex mi:Bool} {lb S0:Nat} {wz u0 u1 w9 w10:World} {st:List (List It) × List It} {ev:Value} {F:Nat->Nat->Prop} {a:Option Addr} {n c:Nat} {hs:List Hd} {K:Nat->Prop} (h:Bet B m d ord ex lb S0 wz st ev F a n c hs K) (xu:Ext noF wz u0) (s:It × It)
  {F':Nat->Nat->Prop} {a':Option Addr} {n' c':Nat} {lv:Value} {cnt:Int} {v:Value} (R:RgR B m d 1 ord st.2 F s.1 s.2 ex mi lb a wz u0 F' a' n' c' lv cnt v u1) (xb:Nat) (hxb:(wz.heap.size<=xb/\xb<u0.heap.size)\/u1.heap.size<=xb) (x9:Ext (rng xb 0 4) u1 w9)
  (x10:Ext (fun y _=>y=xb\/blk a'=some y) w9 w10):LL K w10 ev hs st.1:=by
 have hml:=h.t.mlt
 have hlb:=wok_lt h.l.wk
 have hlm:=h.l.ml
 have hsm:=h.sm
 have zu:=xu.size
 have z1:=R.x.size
 have z9:=x9.size
 have hxz:wz.heap.size<=xb:=by rcases hxb with g | g<;>omega
 have hKG:∀ y,(∀ o,¬ F y o)->m<y->y ≠ lb->blk a ≠ some y->¬ ((∃ o,F y o)\/y=m\/y=lb\/blk a=some y):=fun y h1 h2 h3 h4 g=>by
  rcases g with ⟨o,g⟩ | g | g | g
  ·exact h1 o g
  ·omega
  ·exact h3 g
  ·exact h4 g
 have hK:∀ y,K y->¬ ((∃ o,F y o)\/y=m\/y=lb\/blk a=some y):=fun y hy=>by
  obtain ⟨g1,g2,g3,g4,g5⟩:=h.kk y hy
  exact hKG y g5 g2 g3 g4
 have hold:∀ y,((∃ o,F y o)\/y=m\/y=lb\/blk a=some y)\/wz.heap.size<=y->¬ K y/\S0<=y:=fun y g=>by
  rcases g with g | g
  ·refine ⟨fun k=>hK y k g,?_⟩
   rcases g with ⟨o,g⟩ | g | g | g
   ·exact h.sF y o g
   ·omega
   ·omega
   ·exact h.sa y g
  ·exact ⟨fun k=>by have:=(h.kk y k).1;omega,by omega⟩
 have hKx:∀ y,K y->y ≠ xb:=fun y hy e=>by have:=(h.kk y hy).1;omega
 have hF':∀ y o,F' y o->y<u1.heap.size/\y ≠ xb/\¬ K y/\S0<=y:=fun y o g=>by
  have g1:=R.t.lt y o g
  obtain ⟨g2,g3⟩:=hold y (R.F y o g)
  refine ⟨g1,fun e=>?_,g2,g3⟩
  rcases hxb with k | k
  ·exact R.fS y o g ⟨by omega,by omega⟩
  ·omega
 have hA:∀ y,blk a'=some y->m<y/\y ≠ lb/\(∀ o,¬ F' y o)/\¬ K y/\S0<=y/\y<u1.heap.size:=fun y e=>by
  obtain ⟨oi,ha⟩:=blk_ok R.l.ha e
  obtain ⟨g1,g2,g3,g4,g5⟩:=R.l.kb y oi ha
  obtain ⟨g6,g7⟩:=hold y (R.k y e)
  exact ⟨g1,g2,g3,g6,g7,(R.kS y e).2⟩
 have hlu:=wok_lt R.l.wk
 have hxl:xb ≠ lb:=by rcases hxb with g | g<;>omega
 exact ((h.ll.ext R.x fun y o hy g=>hK y hy g).ext x9 fun y o hy g=>hKx y hy g.1).ext x10 fun y o hy g=>by
  rcases g with g | g
  ·exact hKx y hy g
  ·exact (hA y g).2.2.2.1 hy
theorem Bet.step {B m d:Nat} {ord:List Int} {ex mi:Bool} {lb S0:Nat} {wz u0 u1 w9 w10 w11 w12:World} {st:List (List It) × List It} {ev:Value} {F:Nat->Nat->Prop} {a:Option Addr} {n c:Nat} {hs:List Hd} {K:Nat->Prop} (h:Bet B m d ord ex lb S0 wz st ev F a n c hs K) (xu:Ext noF wz u0) (s:It × It)
  {F':Nat->Nat->Prop} {a':Option Addr} {n' c':Nat} {lv:Value} {cnt:Int} {v:Value} (R:RgR B m d 1 ord st.2 F s.1 s.2 ex mi lb a wz u0 F' a' n' c' lv cnt v u1) (xb:Nat) (hxb:(wz.heap.size<=xb/\xb<u0.heap.size)\/u1.heap.size<=xb) (x9:Ext (rng xb 0 4) u1 w9)
  {hd0:Hd} {ev':Value} (x10:Ext (fun y _=>y=xb\/blk a'=some y) w9 w10) (h0:SlI w10 (hdV hd0) (if ex then st.2.filter (inI ord mi s.1 s.2) else [])) (c0:since w9.heap.size (hdV hd0)) (x11:Ext noF w10 w11) (ap:AppRes w11 1 ev hs.length 1 (flat Ehd hs) [hdV hd0] ev' w12) :
  (∃ F a n c hs K,Bet B m d ord ex lb S0 w12 (stepR ord ex mi st s) ev' F a n c hs K)/\Ext (fun y _=>S0<=y) wz w12:=by
 have hml:=h.t.mlt
 have hlb:=wok_lt h.l.wk
 have hlm:=h.l.ml
 have hsm:=h.sm
 have zu:=xu.size
 have z1:=R.x.size
 have z9:=x9.size
 have z10:=x10.size
 have z11:=x11.size
 have hxz:wz.heap.size<=xb:=by rcases hxb with g | g<;>omega
 have hKG:∀ y,(∀ o,¬ F y o)->m<y->y ≠ lb->blk a ≠ some y->¬ ((∃ o,F y o)\/y=m\/y=lb\/blk a=some y):=fun y h1 h2 h3 h4 g=>by
  rcases g with ⟨o,g⟩ | g | g | g
  ·exact h1 o g
  ·omega
  ·exact h3 g
  ·exact h4 g
 have hK:∀ y,K y->¬ ((∃ o,F y o)\/y=m\/y=lb\/blk a=some y):=fun y hy=>by
  obtain ⟨g1,g2,g3,g4,g5⟩:=h.kk y hy
  exact hKG y g5 g2 g3 g4
 have hold:∀ y,((∃ o,F y o)\/y=m\/y=lb\/blk a=some y)\/wz.heap.size<=y->¬ K y/\S0<=y:=fun y g=>by
  rcases g with g | g
  ·refine ⟨fun k=>hK y k g,?_⟩
   rcases g with ⟨o,g⟩ | g | g | g
   ·exact h.sF y o g
   ·omega
   ·omega
   ·exact h.sa y g
  ·exact ⟨fun k=>by have:=(h.kk y k).1;omega,by omega⟩
 have hKx:∀ y,K y->y ≠ xb:=fun y hy e=>by have:=(h.kk y hy).1;omega
 have hF':∀ y o,F' y o->y<u1.heap.size/\y ≠ xb/\¬ K y/\S0<=y:=fun y o g=>by
  have g1:=R.t.lt y o g
  obtain ⟨g2,g3⟩:=hold y (R.F y o g)
  refine ⟨g1,fun e=>?_,g2,g3⟩
  rcases hxb with k | k
  ·exact R.fS y o g ⟨by omega,by omega⟩
  ·omega
 have hA:∀ y,blk a'=some y->m<y/\y ≠ lb/\(∀ o,¬ F' y o)/\¬ K y/\S0<=y/\y<u1.heap.size:=fun y e=>by
  obtain ⟨oi,ha⟩:=blk_ok R.l.ha e
  obtain ⟨g1,g2,g3,g4,g5⟩:=R.l.kb y oi ha
  obtain ⟨g6,g7⟩:=hold y (R.k y e)
  exact ⟨g1,g2,g3,g6,g7,(R.kS y e).2⟩
 have hlu:=wok_lt R.l.wk
 have hxl:xb ≠ lb:=by rcases hxb with g | g<;>omega
 have L10:=((h.ll.ext R.x fun y o hy g=>hK y hy g).ext x9 fun y o hy g=>hKx y hy g.1).ext x10 fun y o hy g=>by
  rcases g with g | g
  ·exact hKx y hy g
  ·exact (hA y g).2.2.2.1 hy
 have L11:=(L10.ext x11 fun _ _ _ g=>g).mono (K':=fun y=>K y\/(w9.heap.size<=y/\y<w11.heap.size)) fun y hy=>.inl hy
 have h11:=SlV.ext0 h0 x11
 have hap:apart2 ev (hdV hd0):=fun b o n c o' n' c' k1 k2=>by
  have g1:=c0 _ _ _ _ k2
  have g2:=(h.kk b (h.ll.vk _ _ _ _ k1)).1
  omega
 obtain ⟨L12,x12⟩:=L11.push h11 (fun b o n c e=>.inr ⟨c0 _ _ _ _ e,SlV.lt h11 e⟩) hap ap
 have z12:=x12.size
 have hK1:∀ y,(K y\/(w9.heap.size<=y/\y<w11.heap.size))->m<y/\y ≠ lb/\blk a' ≠ some y/\(∀ o,¬ F' y o)/\S0<=y:=fun y g=>by
  rcases g with g | g
  ·obtain ⟨g1,g2,g3,g4,g5⟩:=h.kk y g
   exact ⟨g2,g3,fun e=>(hA y e).2.2.2.1 g,fun o k=>(hF' y o k).2.2.1 g,by omega⟩
  ·exact ⟨by omega,by omega,fun e=>by have:=(hA y e).2.2.2.2.2;omega,fun o k=>by have:=(hF' y o k).1;omega,by omega⟩
 have t9:=R.t.extG x9 (fun y o hy g=>(hF' y o hy).2.1 g.1) fun y o g=>by have:=g.1;omega
 have t10:=t9.extG x10 (fun y o hy g=>by
  rcases g with g | g
  ·exact (hF' y o hy).2.1 g
  ·exact (hA y g).2.2.1 o hy) fun y o g=>by
  rcases g with g | g
  ·omega
  ·exact (hA y g).1
 have t12:=(t10.ext x11).extG x12 (fun y o hy g=>(hK1 y g).2.2.2.1 o hy) fun y o g=>(hK1 y g).1
 have l12:=(((R.l.ext x9 fun o g=>hxl g.1.symm).ext x10 fun o g=>by
  rcases g with g | g
  ·exact hxl g.symm
  ·exact (hA lb g).2.1 rfl).ext x11 fun _ g=>g).ext x12 fun o g=>(hK1 lb g).2.1 rfl
 refine ⟨⟨F',a',n',c',hs++[hd0],_,t12,l12,R.ea,L12,fun y hy=>?_,hsm,fun y o g=>(hF' y o g).2.2.2,fun y e=>(hA y e).2.2.2.2.1⟩,?_⟩
 ·rcases hy with hy | ⟨hy,hz⟩
  ·obtain ⟨g1,g2,g3,g4,_⟩:=hK1 y hy
   refine ⟨?_,g1,g2,g3,g4⟩
   rcases hy with hy | hy
   ·have:=(h.kk y hy).1;omega
   ·omega
  ·exact ⟨hz,by omega,by omega,fun e=>by have:=(hA y e).2.2.2.2.2;omega,fun o k=>by have:=(hF' y o k).1;omega⟩
 ·refine ((((R.x.mono fun y o _ g=>(hold y (.inl g)).2).tr (x9.mono fun y o _ g=>?_)).tr (x10.mono fun y o _ g=>?_)).tr (x11.mono fun _ _ _ g=>g.elim)).tr (x12.mono fun y o _ g=>(hK1 y g).2.2.2.2)
  ·have:=g.1;omega
  ·rcases g with g | g
   ·omega
   ·exact (hA y g).2.2.2.2.1
set_option maxHeartbeats 3200000 in
set_option maxRecDepth 8000 in
theorem impl_delr (d:Nat) (hd:DOk d) (ord:List Int) (sv:Value) (nl:Bool) (l:List It) (lv:Value) (ss:List (It × It)) (spv:Value) (p nr mi:Bool) (w:World) (hO:SlInt w sv ord) (hOb:ord.length<=2147483647) (hl:SlI w lv l) (hbig:l.length<=2147483647) (hsp:SlSp w spv ss) (hsb:ss.length<=2147483647) :
  CallK Try.prog 34 #[mkV sv d nl,lv,spv,rgV p nr mi] w fun v w'=>∃ v1 v2 K hs,v = .tuple #[v1,v2]/\LL K w' v1 hs (runR ord (p || !nr) (mi && !p) (treeG ord l) ss).1/\SlI w' v2 (runR ord (p || !nr) (mi && !p) (treeG ord l) ss).2/\Ext noF w w':=by
 obtain ⟨a0,c0,hv0⟩:=SlV.shape hsp
 obtain ⟨hd2,hd3⟩:=hd.of
 refine calls_of_W [.tmp 8,.tmp 9] Try.func34 rfl Try.ntmps34 Try.results34 (by simp) fun e he=>?_
 have e0:e 0=mkV sv d nl:=he 0 _ rfl
 have e1:e 1=lv:=he 1 _ rfl
 have e2:e 2 = .slice a0 ss.length c0:=by rw [<-hv0];exact he 2 _ rfl
 have e3:e 3=rgV p nr mi:=he 3 _ rfl
 clear he
 have htl:=treeG_len ord l
 refine W_sq fun K hK=>(W_text [false,false,true,true] (by kernel_rfl) ?_);simp only [↓zZ1,↓reduceIte,Nat.reduceEqDiff,rg,ow_34]
 refine do_box (by simp only [evt];exact e0) fun w1 n1=>⟨trivial,?_⟩
 simp only [↓zZ1,↓reduceIte,Nat.reduceEqDiff,rg,ow_34]
 refine do_box (v:=rgV p nr mi) (by simp only [evt,upd_eq,Nat.reduceEqDiff,↓reduceIte];exact e3) fun w2 n2=>⟨trivial,?_⟩
 simp only [↓zZ1,↓reduceIte,Nat.reduceEqDiff,rg,ow_34]
 apply hK;clear hK K
 have s1:=n1.size
 have s2:=n2.size
 have X2:=n1.ext.tr n2.ext
 have P4:Row w2 w.heap.size 0 (mkL sv d nl):=n2.ext.row (show Row w1 w.heap.size 0 (mkL sv d nl) from n1.row) fun _ _ g=>g
 have P7:Row w2 w1.heap.size 0 [.bool p,.bool nr,.bool mi]:=n2.row
 have rm:=mk_at P4
 refine W_sq fun K hK=>(W_text [true,true,false,true] (by kernel_rfl) ?_);simp only [↓zZ1,↓reduceIte,Nat.reduceEqDiff,rg,ow_34,e1,ptr_eq,rm]
 refine do_call fn_43 (by simp only [zZ2,Nat.reduceEqDiff,↓reduceIte,zZ4]<;>rfl) (growG_any d hd ord sv nl l lv w2 (SlV.ext0 hO X2) hOb (SlV.ext0 hl X2) (by omega)) ?_
 rintro _ w3 ⟨x3,B,m,F0,rfl,hM,hm,hsi⟩
 refine ⟨trivial,?_⟩
 simp only [↓zZ1,↓reduceIte,Nat.reduceEqDiff,rg,ow_34]
 apply hK;clear hK K
 have s3:=x3.size
 have hml:=hM.mlt
 refine W_sq fun K hK=>(W_text [false] (by kernel_rfl) ?_);simp only [↓zZ1,↓reduceIte,Nat.reduceEqDiff,rg,ow_34]
 refine do_alloc z_list fun w4 n4=>⟨trivial,?_⟩
 simp only [↓zZ1,↓reduceIte,Nat.reduceEqDiff,rg,ow_34]
 apply hK;clear hK K
 have s4:=n4.size
 have X4:=(X2.tr x3).tr n4.ext
 have R4:Row w4 w3.heap.size 0 [nilF,.int .i64 0,.int .i64 0,.slice none 0 0]:=n4.row
 have hB0:Bet B m (degOf d) ord (p || !nr) w3.heap.size w2.heap.size w4 (runR ord (p || !nr) (mi && !p) (treeG ord l) (ss.take 0)) (.slice none 0 0) F0 none 0 0 [] (fun _=>False):=by
  rw [List.take_zero]
  exact ⟨hM.ext n4.ext,⟨n4.wok,(Row.cons.1 (Row.cons.1 (Row.cons.1 (Row.cons.1 R4).2).2).2).1,.inl ⟨rfl,rfl,rfl⟩,Nat.le_refl _,hml,fun o g=>Nat.lt_irrefl _ (hM.lt _ _ g),fun bi oi e=>(by cases e)⟩,fun _=>rfl,LL.nil _ _,fun y g=>g.elim,hm,hsi,fun y e=>(by cases e)⟩
 refine W_sq fun K hK=>(W_text [true] (by kernel_rfl) ?_);simp only [↓zZ1,↓reduceIte,Nat.reduceEqDiff,rg,ow_34]
 apply hK;clear hK K
 refine W_seq (W_seq ?_)
 refine W_rg fun K hK=>(W_text [true,true,true] (by kernel_rfl) ?_);simp only [↓zZ1,↓reduceIte,Nat.reduceEqDiff,rg,ow_34,e2]
 apply hK;clear hK K
 show W _ _ _ _ _ _
 refine W_block (W_loop (fun mm e w'=>∃ i:Nat,mm=ss.length-i/\i<=ss.length/\Ext noF w w'/\w2.heap.size<=w'.heap.size/\Row w' w1.heap.size 0 [.bool p,.bool nr,.bool mi]/\e 7=ptr w1.heap.size/\e 10=ptr m/\e 11=ptr w3.heap.size/\e 19 = .slice a0 ss.length c0/\e 20 = .int .i64 ss.length/\e 21 = .int .i64 i ∧
   ∃ F a n c hs K,Bet B m (degOf d) ord (p || !nr) w3.heap.size w2.heap.size w' (runR ord (p || !nr) (mi && !p) (treeG ord l) (ss.take i)) (e 12) F a n c hs K)
  ss.length ⟨0,by simp,by simp,X4,(by omega),(x3.tr n4.ext).row P7 (fun _ _ g=>g),rfl,(by simp only [upd_eq,Nat.reduceEqDiff,↓reduceIte];first | done | rfl),rfl,(by first | (simp only [upd_eq,Nat.reduceEqDiff,↓reduceIte];done) | (simp only [upd_eq,Nat.reduceEqDiff,↓reduceIte];first | rfl | exact e2)),(by first | (simp only [upd_eq,Nat.reduceEqDiff,↓reduceIte];done) | (simp only [upd_eq,Nat.reduceEqDiff,↓reduceIte];rfl)),(by first | (simp only [upd_eq,Nat.reduceEqDiff,↓reduceIte];done) | (simp only [upd_eq,Nat.reduceEqDiff,↓reduceIte];rfl)),F0,none,0,0,[],_,(hB0)⟩ ?_)
 clear e0 e1 e2 e3 e P4 P7 rm hB0
 rintro mm e w' ⟨i,rfl,hi,X,XS,P7,e7,e10,e11,e19,e20,e21,F,a,n,c,hs,K,hBt⟩
 by_cases hlt:i<ss.length
 ·have ht:=lt_tt i ss.length hlt
  refine W_sq fun K hK=>(W_text [true] (by kernel_rfl) ?_);simp only [↓zZ1,↓reduceIte,Nat.reduceEqDiff,rg,ow_34,e20,e21,ht]
  apply hK;clear hK K
  refine W_seq (W_true (by simp only [zZ2,Nat.reduceEqDiff,↓reduceIte,zZ3]<;>rfl) (W_skip ?_))
  show W _ _ _ _ _ _
  obtain ⟨s,hs1⟩:∃ x,ss[i]? = some x:=⟨_,List.getElem?_eq_getElem hlt⟩
  obtain ⟨b1,o1,g1,r1⟩:=SlV.at hsp hv0 hlt
  subst g1
  have y1:=spV_at (X.row r1 fun _ _ h=>h) hs1
  have htk:ss.take (i+1)=ss.take i++[s]:=take_snoc hs1
  obtain ⟨L1,L2,L3⟩:=runR_len ord (p || !nr) (mi && !p) (treeG ord l) (ss.take i)
  have hst:=runR_snoc ord (p || !nr) (mi && !p) (treeG ord l) (ss.take i) s
  generalize runR ord (p || !nr) (mi && !p) (treeG ord l) (ss.take i)=st at hBt L1 L2 L3 hst
  refine W_seq (W_block ?_)
  refine W_sq fun K hK=>(W_text [true,true,false,false] (by kernel_rfl) ?_);simp only [↓zZ1,↓reduceIte,Nat.reduceEqDiff,rg,ow_34,e19,e21,hlt,y1]
  refine do_alloc z_span fun w4 n4=>⟨trivial,?_⟩
  simp only [↓zZ1,↓reduceIte,Nat.reduceEqDiff,rg,ow_34]
  refine do_store (v:=spV s) (by simp only [zZ2,Nat.reduceEqDiff,↓reduceIte,zZ3]<;>rfl) (by simp only [zZ2,Nat.reduceEqDiff,↓reduceIte,zZ3]<;>rfl) sz_57 rfl n4.wok (by decide) (Esp.one s) fun w5 x5 r5 s5=>⟨trivial,?_⟩
  simp only [↓zZ1,↓reduceIte,Nat.reduceEqDiff,rg,ow_34]
  apply hK;clear hK K
  have s4:=n4.size
  have Y5:Ext noF w' w5:=n4.ext.trans x5 (fun _ _ g=>g) fun y o hy g=>by have:=g.1;omega
  have X5:=X.tr Y5
  have rs:Row w5 w'.heap.size 0 ([.int .i64 s.1.1,.int .i64 s.1.2]++[.int .i64 s.2.1,.int .i64 s.2.2]):=r5
  have zl:rdA w5 w'.heap.size 0 2=some (iV s.1):=(Row.append.1 rs).1.rdA 2 (Nat.le_refl _)
  have zh:rdA w5 w'.heap.size 2 2=some (iV s.2):=(Row.append.1 rs).2.rdA 2 (Nat.le_refl _)
  have P7':=Y5.row P7 fun _ _ g=>g
  have zo:rdA w5 w1.heap.size 0 3=some (rgV p nr mi):=P7'.rdA 3 (Nat.le_refl _)
  have hB5:=hBt.ext Y5
  have s5':=Y5.size
  have M1:readsB (some (some [w'.heap.size,w1.heap.size])) w'.heap.size=true:=by simp [readsB]
  have M2:readsB (some (some [w'.heap.size,w1.heap.size])) w1.heap.size=true:=by simp [readsB]
  refine W_sqx fun J hJ=>?_
  have hend:∀ (g:Env) (u0 u1 w9:World) (xb:Nat) (F':Nat->Nat->Prop) (a':Option Addr) (n' c':Nat) (lv:Value) (cnt:Int) (v:Value),(∀ k,k ∈ [7,10,11,12,19,20,21]->g k=e k)->g 15=ptr xb->Ext noF w5 u0->RgR B m (degOf d) 1 ord st.2 F s.1 s.2 (p || !nr) (mi && !p) w3.heap.size a w5 u0 F' a' n' c' lv cnt v u1->((w5.heap.size<=xb/\xb<u0.heap.size)\/u1.heap.size<=xb)->Ext (rng xb 0 4) u1 w9 →
    Row w9 xb 0 [lv,.int .i64 cnt,.int .i64 0,.slice a' (n':Nat) c']->wok w9 xb 4->J g w9:=by
   intro g u0 u1 w9 xb F' a' n' c' lv cnt v hg g15 xu R hxb x9 r9 k9
   refine hJ _ _ ?_;clear hJ J
   have g12:g 12=e 12:=hg 12 (by simp)
   refine W_rg fun K hK=>(W_text [true,false,false,false,true] (by kernel_rfl) ?_);simp only [↓zZ1,↓reduceIte,Nat.reduceEqDiff,rg,ow_34,g12,g15]
   refine do_call fn_62 (vs:=#[ptr xb]) (by simp only [zZ2,Nat.reduceEqDiff,↓reduceIte,zZ4,g15]<;>rfl) (R.s w9 xb (x9.mono fun y o _ g=>.inl g.1) (hxb.imp id .inl) r9 k9) ?_
   rintro v10 w10 ⟨h0,c0',x10⟩
   obtain ⟨hd0,rfl⟩:=hdV_of h0
   refine ⟨trivial,?_⟩
   simp only [↓zZ1,↓reduceIte,Nat.reduceEqDiff,rg,ow_34]
   refine do_bsl rfl (bs_ll hd0) fun w11 n11=>⟨trivial,?_⟩
   simp only [↓zZ1,↓reduceIte,Nat.reduceEqDiff,rg,ow_34]
   have n11:=n11.od
   have x11:=n11.ext
   have hx11:SlV w11 1 (.slice (some ⟨w10.heap.size,0,none⟩) 1 1) 1 [hdV hd0]:=⟨rfl,.inr ⟨_,0,1,rfl,Nat.le_refl _,n11.row,n11.wok.R (Nat.le_refl _)⟩⟩
   have hlen:=hB5.ll.len
   have L1':st.1.length<=i:=by rw [L1,List.length_take];omega
   have hsl:SlV w11 1 (e 12) hs.length (flat Ehd hs):=SlV.ext0 (hB5.mid xu s R xb hxb x9 x10).sl x11
   refine do_append (by simp only [zZ2,Nat.reduceEqDiff,↓reduceIte,zZ3]<;>rfl) (by simp only [zZ2,Nat.reduceEqDiff,↓reduceIte,zZ3]<;>rfl) el_ll rfl ni_ll hsl hx11 (by omega) (by decide) (Ehd.one hd0) fun v12 w12 a12=>⟨trivial,?_⟩
   simp only [↓zZ1,↓reduceIte,Nat.reduceEqDiff,rg,ow_34]
   apply hK;clear hK K
   obtain ⟨⟨F2,a2,n2',c2,hs2,K2,hB2⟩,x12⟩:=hB5.step xu s R xb hxb x9 x10 h0 c0' x11 a12
   have s12:=x12.size
   have X12:Ext noF w w12:=noF_of X5 x12 fun y o hy h=>by omega
   have q1:=wadd1 i (by omega)
   have g21:g 21 = .int .i64 i:=(hg 21 (by simp)).trans e21
   refine W_rg fun K hK=>(W_text [true,true] (by kernel_rfl) ?_);simp only [↓zZ1,↓reduceIte,Nat.reduceEqDiff,rg,ow_34,g21,q1]
   apply hK;clear hK K
   refine ⟨_,?_,i+1,rfl,hlt,X12,(by omega),?_,((hg 7 (by simp)).trans e7),((hg 10 (by simp)).trans e10),((hg 11 (by simp)).trans e11),((hg 19 (by simp)).trans e19),((hg 20 (by simp)).trans e20),rfl,F2,a2,n2',c2,hs2,K2,?_⟩
   ·omega
   ·exact x12.row P7' fun _ _ g=>by omega
   ·simp only [upd_eq,Nat.reduceEqDiff,↓reduceIte]
    rw [htk,hst]
    exact hB2
  clear hJ
  have hIb:st.2.length<=2147483647:=by omega
  refine W_rg fun K hK=>(W_free (some (some [w'.heap.size,w1.heap.size])) (.take 0 (.take 1 (.take 2 (.take 3 (.take 4 (.take 5 (.split 6 (.split 7 (.act 8 (.bar 9 .nil)) 8 (.act 7 (.bar 9 .nil))) 8 (.act 6 (.act 7 (.bar 9 .nil)))))))))) mixed (by kernel_rfl) ?_);simp only [↓zZ1,↓reduceIte,Nat.reduceEqDiff,rg,ow_34,e7,e10,e11,ptr_eq,zl,zh,zo,M1,M2]
  have keep:∀ {x y:World},Ext noF x y->w5.heap.size<=x.heap.size->keeps (some (some [w'.heap.size,w1.heap.size])) x y:=fun x h=>keeps_on x fun y hy=>⟨by
   simp only [List.mem_cons,List.not_mem_nil,or_false] at hy
   omega,fun _ g=>g⟩
  have keepX:∀ {x y:World} {xb:Nat},Ext (rng xb 0 4) x y->w5.heap.size<=xb/\w5.heap.size<=x.heap.size->keeps (some (some [w'.heap.size,w1.heap.size])) x y:=fun x h=>keeps_on x fun y hy=>by
   simp only [List.mem_cons,List.not_mem_nil,or_false] at hy
   exact ⟨by omega,fun o g=>by have:=g.1;omega⟩
  have keepR:∀ {x y:World},Ext (fun y _=>((∃ o,F y o)\/y=m\/y=w3.heap.size\/blk a=some y)\/w5.heap.size<=y) x y->w5.heap.size<=x.heap.size->keeps (some (some [w'.heap.size,w1.heap.size])) x y:=fun x h=>keeps_on x fun y hy=>by
   simp only [List.mem_cons,List.not_mem_nil,or_false] at hy
   refine ⟨by omega,fun o g=>?_⟩
   have hlt:=hBt.t.lt
   have hml':=hBt.t.mlt
   have hlw:=wok_lt hBt.l.wk
   have hsm:=hBt.sm
   rcases g with (⟨o',g⟩ | g | g | g) | g
   ·have:=hlt y o' g;have:=hBt.sF y o' g;omega
   ·omega
   ·omega
   ·obtain ⟨oi,ha⟩:=blk_ok hBt.l.ha g
    have:=wok_lt (hBt.l.kb y oi ha).2.2.2.1
    have:=hBt.sa y g
    omega
   ·omega
  have xd:Ext noF w5 (dr w5 (w5.drawn+1)):=Ext.dr _ _ _
  have zd:(dr w5 (w5.drawn+1)).heap.size=w5.heap.size:=rfl
  refine ⟨?_,?_⟩
  ·refine do_call fn_61 (vs:=#[rgV p nr mi]) (by simp only [zZ2,Nat.reduceEqDiff,↓reduceIte,zZ4]<;>rfl) (ranges_any p nr mi (dr w5 (w5.drawn+1))) ?_
   rintro _ u1 ⟨ov,nr',mi',rfl,xr,hov,hex,hmi⟩
   have zr:=xr.size
   have xu:Ext noF w5 u1:=xd.tr xr
   have zu1:=xu.size
   refine ⟨by first | exact trivial | exact .inr (keep xr (by omega)),?_⟩
   simp only [↓zZ1,↓reduceIte,Nat.reduceEqDiff,rg,ow_34,e10,e11,ptr_eq,zl,zh,zo,M1,M2]
   refine ⟨?_,?_⟩
   ·refine do_call fn_60 (vs:=#[ptr m,itV s.1,itV s.2,oV ov,ptr w3.heap.size]) (by simp only [zZ2,Nat.reduceEqDiff,↓reduceIte,zZ4,e11]<;>rfl) (range_res B m (degOf d) 1 ord hd2 hd3 st.2 F w5 u1 xu hB5.t hIb s.1 s.2 ov nr' mi' hov w3.heap.size n c a hB5.l (p || !nr) (mi && !p) hex (hmi.trans (Bool.and_comm _ _)) hB5.ea) ?_
    rintro _ u2 ⟨F',a',n',c',lv,cnt,R⟩
    obtain rfl:=R.v
    have zy:=R.y.size
    refine ⟨by first | exact trivial | exact .inr (keepR R.y (by omega)),?_⟩
    simp only [↓zZ1,↓reduceIte,Nat.reduceEqDiff,rg,ow_34,e10,e11,ptr_eq,zl,zh,zo,M1,M2]
    refine do_alloc z_list fun u3 n3=>⟨by first | exact trivial | exact .inr (keep n3.ext (by omega)),?_⟩
    have zu3:=n3.size
    simp only [↓zZ1,↓reduceIte,Nat.reduceEqDiff,rg,ow_34,e10,e11,ptr_eq,zl,zh,zo,M1,M2]
    refine do_store (v:=.agg #[lv,.int .i64 cnt,.int .i64 0,.slice a' (n':Nat) c']) (by simp only [zZ2,Nat.reduceEqDiff,↓reduceIte,zZ3]<;>rfl) (by simp only [zZ2,Nat.reduceEqDiff,↓reduceIte,zZ3]<;>rfl) sz_115 rfl n3.wok (by decide) (R.oc) fun w9 x9 r9 s9=>⟨by first | exact trivial | exact .inr (keepX x9 (by omega)),?_⟩
    simp only [↓zZ1,↓reduceIte,Nat.reduceEqDiff,rg,ow_34]
    apply hK;clear hK K
    refine hend _ u1 u2 w9 u2.heap.size F' a' n' c' lv cnt _ (fun k hk=>?_) (by simp only [upd_eq,Nat.reduceEqDiff,↓reduceIte];first | done | rfl) xu R (.inr (Nat.le_refl _)) ((n3.ext.mono fun _ _ _ g=>g.elim).tr x9) r9 (x9.wok n3.wok)
    simp only [List.mem_cons,List.not_mem_nil,or_false] at hk
    rcases hk with rfl | rfl | rfl | rfl | rfl | rfl | rfl<;>simp only [upd_eq,Nat.reduceEqDiff,↓reduceIte]
   ·refine do_alloc z_list fun u2 n2=>⟨by first | exact trivial | exact .inr (keep n2.ext (by omega)),?_⟩
    have zu2:=n2.size
    simp only [↓zZ1,↓reduceIte,Nat.reduceEqDiff,rg,ow_34,e10,e11,ptr_eq,zl,zh,zo,M1,M2]
    have xu2:=xu.tr n2.ext
    refine do_call fn_60 (vs:=#[ptr m,itV s.1,itV s.2,oV ov,ptr w3.heap.size]) (by simp only [zZ2,Nat.reduceEqDiff,↓reduceIte,zZ4,e11]<;>rfl) (range_res B m (degOf d) 1 ord hd2 hd3 st.2 F w5 u2 xu2 hB5.t hIb s.1 s.2 ov nr' mi' (fun ob h=>⟨n2.ext.rd (hov ob h).1 fun g=>g,n2.ext.rd (hov ob h).2 fun g=>g⟩) w3.heap.size n c a hB5.l (p || !nr) (mi && !p) hex (hmi.trans (Bool.and_comm _ _)) hB5.ea) ?_
    rintro _ u3 ⟨F',a',n',c',lv,cnt,R⟩
    obtain rfl:=R.v
    have zy:=R.y.size
    refine ⟨by first | exact trivial | exact .inr (keepR R.y (by omega)),?_⟩
    simp only [↓zZ1,↓reduceIte,Nat.reduceEqDiff,rg,ow_34,e10,e11,ptr_eq,zl,zh,zo,M1,M2]
    refine do_store (v:=.agg #[lv,.int .i64 cnt,.int .i64 0,.slice a' (n':Nat) c']) (by simp only [zZ2,Nat.reduceEqDiff,↓reduceIte,zZ3]<;>rfl) (by simp only [zZ2,Nat.reduceEqDiff,↓reduceIte,zZ3]<;>rfl) sz_115 rfl (R.y.wok n2.wok) (by decide) (R.oc) fun w9 x9 r9 s9=>⟨by first | exact trivial | exact .inr (keepX x9 (by omega)),?_⟩
    simp only [↓zZ1,↓reduceIte,Nat.reduceEqDiff,rg,ow_34]
    apply hK;clear hK K
    refine hend _ u2 u3 w9 u1.heap.size F' a' n' c' lv cnt _ (fun k hk=>?_) (by simp only [upd_eq,Nat.reduceEqDiff,↓reduceIte];first | done | rfl) xu2 R (.inl ⟨by omega,by omega⟩) x9 r9 (x9.wok (R.y.wok n2.wok))
    simp only [List.mem_cons,List.not_mem_nil,or_false] at hk
    rcases hk with rfl | rfl | rfl | rfl | rfl | rfl | rfl<;>simp only [upd_eq,Nat.reduceEqDiff,↓reduceIte]
  ·refine do_alloc z_list fun u1 n1=>⟨by first | exact trivial | exact .inr (keep n1.ext (by omega)),?_⟩
   have zu1:=n1.size
   simp only [↓zZ1,↓reduceIte,Nat.reduceEqDiff,rg,ow_34,e10,e11,ptr_eq,zl,zh,zo,M1,M2]
   have xa:Ext noF w5 u1:=xd.tr n1.ext
   refine do_call fn_61 (vs:=#[rgV p nr mi]) (by simp only [zZ2,Nat.reduceEqDiff,↓reduceIte,zZ4]<;>rfl) (ranges_any p nr mi u1) ?_
   rintro _ u2 ⟨ov,nr',mi',rfl,xr,hov,hex,hmi⟩
   have zr:=xr.size
   have xu2:Ext noF w5 u2:=xa.tr xr
   have zu2:=xu2.size
   refine ⟨by first | exact trivial | exact .inr (keep xr (by omega)),?_⟩
   simp only [↓zZ1,↓reduceIte,Nat.reduceEqDiff,rg,ow_34,e10,e11,ptr_eq,zl,zh,zo,M1,M2]
   refine do_call fn_60 (vs:=#[ptr m,itV s.1,itV s.2,oV ov,ptr w3.heap.size]) (by simp only [zZ2,Nat.reduceEqDiff,↓reduceIte,zZ4,e11]<;>rfl) (range_res B m (degOf d) 1 ord hd2 hd3 st.2 F w5 u2 xu2 hB5.t hIb s.1 s.2 ov nr' mi' hov w3.heap.size n c a hB5.l (p || !nr) (mi && !p) hex (hmi.trans (Bool.and_comm _ _)) hB5.ea) ?_
   rintro _ u3 ⟨F',a',n',c',lv,cnt,R⟩
   obtain rfl:=R.v
   have zy:=R.y.size
   refine ⟨by first | exact trivial | exact .inr (keepR R.y (by omega)),?_⟩
   simp only [↓zZ1,↓reduceIte,Nat.reduceEqDiff,rg,ow_34,e10,e11,ptr_eq,zl,zh,zo,M1,M2]
   refine do_store (v:=.agg #[lv,.int .i64 cnt,.int .i64 0,.slice a' (n':Nat) c']) (by simp only [zZ2,Nat.reduceEqDiff,↓reduceIte,zZ3]<;>rfl) (by simp only [zZ2,Nat.reduceEqDiff,↓reduceIte,zZ3]<;>rfl) sz_115 rfl (R.y.wok (xr.wok n1.wok)) (by decide) (R.oc) fun w9 x9 r9 s9=>⟨by first | exact trivial | exact .inr (keepX x9 (by omega)),?_⟩
   simp only [↓zZ1,↓reduceIte,Nat.reduceEqDiff,rg,ow_34]
   apply hK;clear hK K
   refine hend _ u2 u3 w9 (dr w5 (w5.drawn+1)).heap.size F' a' n' c' lv cnt _ (fun k hk=>?_) (by simp only [upd_eq,Nat.reduceEqDiff,↓reduceIte];first | done | rfl) xu2 R (.inl ⟨Nat.le_refl _,by omega⟩) x9 r9 (x9.wok (R.y.wok (xr.wok n1.wok)))
   simp only [List.mem_cons,List.not_mem_nil,or_false] at hk
   rcases hk with rfl | rfl | rfl | rfl | rfl | rfl | rfl<;>simp only [upd_eq,Nat.reduceEqDiff,↓reduceIte]
 ·obtain rfl:i=ss.length:=by omega
  have ht:=lt_ff ss.length ss.length (by omega)
  refine W_sq fun K hK=>(W_text [true] (by kernel_rfl) ?_);simp only [↓zZ1,↓reduceIte,Nat.reduceEqDiff,rg,ow_34,e20,e21,ht]
  apply hK;clear hK K
  refine W_seq (W_false (by simp only [zZ2,Nat.reduceEqDiff,↓reduceIte,zZ3]<;>rfl) (W_exit ?_))
  simp only [andThen_exit,inBlk_exit,andThen_normal,↓reduceIte]
  rw [List.take_length] at hBt
  obtain ⟨L1,L2,L3⟩:=runR_len ord (p || !nr) (mi && !p) (treeG ord l) ss
  refine W_sq fun K hK=>(W_text [true,true,false,true,true] (by kernel_rfl) ?_);simp only [↓zZ1,↓reduceIte,Nat.reduceEqDiff,rg,ow_34,e10]
  refine do_call fn_46 (by simp only [zZ2,Nat.reduceEqDiff,↓reduceIte,zZ4]<;>rfl) (itemsG_any B m (degOf d) ord 1 _ F w' hBt.t (by omega)) ?_
  rintro v9 w9 ⟨ho,x9⟩
  refine ⟨trivial,?_⟩
  simp only [↓zZ1,↓reduceIte,Nat.reduceEqDiff,rg,ow_34]
  apply hK;clear hK K
  exact W_ret (endQ_2 (by simp only [upd_eq,Nat.reduceEqDiff,↓reduceIte]<;>rfl) (by simp only [upd_eq,Nat.reduceEqDiff,↓reduceIte]<;>rfl) ⟨e 12,v9,K,hs,rfl,hBt.ll.ext x9 fun _ _ _ g=>g,ho.sl,X.tr x9⟩)
theorem bu_sp2 (a b c d:Int):buildV Try.prog 57 [(0,iV (a,b)),(1,iV (c,d))]=some (spV ((a,b),(c,d))):=by kernel_rfl
theorem bu_rg0:buildV Try.prog 63 []=some (rgV false false false):=by kernel_rfl
def exSp:List (It × It):=[((2,0),(8,0)),((0,0),(9,0))]
theorem u16_64 (p:Nat) (h:p<65536):IntKind.i64.wrap (p:Int)=p:=IntWalk.i64_in _ (by omega)
theorem remN (a b:Nat) (h:0<b):(a:Int).tmod (b:Int)=((a % b:Nat):Int):=by rw [Int.tmod_eq_emod_of_nonneg (by omega)];omega
theorem mulN (a b:Nat) (h:a*b<9223372036854775808):IntKind.i64.wrap ((a:Int)*(b:Int))=((a*b:Nat):Int):=by rw [IntWalk.i64_in _ (by rw [<-Int.natCast_mul];omega),Int.natCast_mul]
theorem quoN (a b:Nat) (ha:a<65536):IntKind.i64.wrap ((a:Int).tdiv (b:Int))=((a / b:Nat):Int):=by
 have h:(a:Int).tdiv (b:Int)=((a / b:Nat):Int):=by rw [Int.tdiv_eq_ediv_of_nonneg (by omega)];rfl
 have hd:=Nat.div_le_self a b
 rw [h]
 generalize a / b=q at *
 exact IntWalk.i64_in _ (by omega)
theorem bvq (P:Program) (T:Nat) (a b:Int) (h:(b=0)=False):binV P .quo T (.int .i64 a) (.int .i64 b)=some (.int .i64 (IntKind.i64.wrap (a.tdiv b))):=by simp [binV,h]
theorem bs_it1' (x:It):bsV Try.prog 25 1 [(0,iV x)]=some (33,Ei.cel x):=by kernel_rfl
set_option maxRecDepth 8000 in
theorem coprime_any (n s:Nat) (w:World):CallK Try.prog 33 #[.int .i64 n,.int .i64 s] w fun v w'=>v = .bool (Nat.gcd n s == 1)/\Ext noF w w':=by
 refine calls_of_W [.tmp 4] Try.func33 rfl Try.ntmps33 Try.results33 (by simp) fun e he=>?_
 have e0:e 0 = .int .i64 n:=he 0 _ rfl
 have e1:e 1 = .int .i64 s:=he 1 _ rfl
 clear he
 refine W_sq fun K hK=>(W_text [true] (by kernel_rfl) ?_);simp only [↓zZ1,↓reduceIte,Nat.reduceEqDiff,rg,ow_33]
 apply hK;clear hK K
 refine W_seq (W_block (W_loop (fun mm e w'=>∃ a b:Nat,mm=b/\Nat.gcd a b=Nat.gcd n s/\e 0 = .int .i64 a/\e 1 = .int .i64 b/\Ext noF w w') s ⟨n,s,rfl,rfl,by simp only [upd_eq,Nat.reduceEqDiff,↓reduceIte];exact e0,by simp only [upd_eq,Nat.reduceEqDiff,↓reduceIte];exact e1,Ext.refl _ _⟩ ?_))
 clear e0 e1 e
 rintro b e w' ⟨a,_,rfl,hg,e0,e1,X⟩
 refine W_seq ?_
 by_cases hb:0<b
 ·have ht:decide ((0:Int)<(b:Int))=true:=by simp;omega
  refine W_sq fun K hK=>(W_text [true,true] (by kernel_rfl) ?_);simp only [↓zZ1,↓reduceIte,Nat.reduceEqDiff,rg,ow_33,e1,ht]
  apply hK;clear hK K
  refine W_true (by simp only [zZ2,Nat.reduceEqDiff,↓reduceIte,zZ3]<;>rfl) (W_skip ?_)
  have hz:((b:Int)=0)=False:=eq_false (by omega)
  have q1:=remN a b hb
  refine W_block ?_
  refine W_rg fun K hK=>(W_draw (some none) none [(0,0,0),(0,1,0),(0,2,0),(0,3,0),(0,4,0),(0,5,0)] mixed (by kernel_rfl) ?_);simp only [↓zZ1,↓reduceIte,Nat.reduceEqDiff,rg,ow_33,e0,e1,bv_rem _ _ _ _ hz,q1]
  apply hK;clear hK K
  refine ⟨_,?_,b,a % b,rfl,?_,by simp only [upd_eq,Nat.reduceEqDiff,↓reduceIte],by simp only [upd_eq,Nat.reduceEqDiff,↓reduceIte],X.tr (Ext.dr _ _ _)⟩
  ·exact Nat.mod_lt _ hb
  ·rw [<-hg,Nat.gcd_comm b,<-Nat.gcd_rec b a,Nat.gcd_comm]
 ·obtain rfl:b=0:=by omega
  have ht:decide ((0:Int)<((0:Nat):Int))=false:=by simp
  refine W_sq fun K hK=>(W_text [true,true] (by kernel_rfl) ?_);simp only [↓zZ1,↓reduceIte,Nat.reduceEqDiff,rg,ow_33,e1,ht]
  apply hK;clear hK K
  refine W_false (by simp only [zZ2,Nat.reduceEqDiff,↓reduceIte,zZ3]<;>rfl) (W_exit ?_)
  simp only [andThen_exit,inBlk_exit,andThen_normal,↓reduceIte]
  have hd:((a:Int) == 1)=(Nat.gcd n s == 1):=by
   rw [<-hg,Nat.gcd_zero_right,Bool.eq_iff_iff]
   simp only [beq_iff_eq]
   omega
  refine W_sq fun K hK=>(W_text [true,true,true] (by kernel_rfl) ?_);simp only [↓zZ1,↓reduceIte,Nat.reduceEqDiff,rg,ow_33,e0,hd]
  apply hK;clear hK K
  exact W_ret (endQ_1 (by simp only [upd_eq,Nat.reduceEqDiff,↓reduceIte]<;>rfl) ⟨rfl,X⟩)
set_option maxRecDepth 8000 in
theorem stride_any (n s:Nat) (hn:n<=4000) (hs:s<65536) (w:World):CallK Try.prog 35 #[.int .i64 n,.int .i64 s] w fun v w'=>SlI w' v (strideL n s n)/\Ext noF w w':=by
 refine calls_of_W [.tmp 4] Try.func35 rfl Try.ntmps35 Try.results35 (by simp) fun e he=>?_
 have e0:e 0 = .int .i64 n:=he 0 _ rfl
 have e1:e 1 = .int .i64 s:=he 1 _ rfl
 clear he
 refine W_sq fun K hK=>(W_text [true] (by kernel_rfl) ?_);simp only [↓zZ1,↓reduceIte,Nat.reduceEqDiff,rg,ow_35]
 apply hK;clear hK K
 refine W_sq fun K hK=>(W_text [true] (by kernel_rfl) ?_);simp only [↓zZ1,↓reduceIte,Nat.reduceEqDiff,rg,ow_35]
 apply hK;clear hK K
 refine W_seq (W_seq ?_)
 refine W_rg fun K hK=>(W_text [true,true] (by kernel_rfl) ?_);simp only [↓zZ1,↓reduceIte,Nat.reduceEqDiff,rg,ow_35,e0]
 apply hK;clear hK K
 show W _ _ _ _ _ _
 refine W_block (W_loop (fun mm e w'=>∃ j:Nat,mm=n-j/\j<=n/\e 0 = .int .i64 n/\e 1 = .int .i64 s/\e 7 = .int .i64 n/\e 8 = .int .i64 j/\OutE Ei w.heap.size (e 5) (strideL n s j) w'/\Ext (fun y _=>w.heap.size<=y) w w')
  n ⟨0,by simp,by simp,by simp only [upd_eq,Nat.reduceEqDiff,↓reduceIte];exact e0,by simp only [upd_eq,Nat.reduceEqDiff,↓reduceIte];exact e1,(by first | (simp only [upd_eq,Nat.reduceEqDiff,↓reduceIte];done) | (simp only [upd_eq,Nat.reduceEqDiff,↓reduceIte];first | rfl | exact e0)),rfl,by simp only [upd_eq,Nat.reduceEqDiff,↓reduceIte];exact OutE.nil _ _ _,Ext.refl _ _⟩ ?_)
 clear e0 e1 e
 rintro mm e w' ⟨j,rfl,hj,e0,e1,e7,e8,hO,X⟩
 by_cases hlt:j<n
 ·have ht:=lt_tt j n hlt
  refine W_sq fun K hK=>(W_text [true] (by kernel_rfl) ?_);simp only [↓zZ1,↓reduceIte,Nat.reduceEqDiff,rg,ow_35,e7,e8,ht]
  apply hK;clear hK K
  refine W_seq (W_true (by simp only [zZ2,Nat.reduceEqDiff,↓reduceIte,zZ3]<;>rfl) (W_skip ?_))
  show W _ _ _ _ _ _
  refine W_seq (W_block ?_)
  refine W_sq fun K hK=>(W_text [true,true] (by kernel_rfl) ?_);simp only [↓zZ1,↓reduceIte,Nat.reduceEqDiff,rg,ow_35,e8]
  apply hK;clear hK K
  obtain ⟨ov,hov⟩:∃ ov,ov=e 5:=⟨_,rfl⟩
  have e5:e 5=ov:=hov.symm
  rw [<-hov] at hO
  have hjs:j*s<9223372036854775808:=by
   have:=Nat.mul_le_mul (show j<=4000 by omega) (show s<=65536 by omega)
   omega
  have hz:((n:Int)=0)=False:=eq_false (by omega)
  have q1:=mulN j s hjs
  have q2:=remN (j*s) n (by omega)
  have hol:(strideL n s j).length=j:=by simp [strideL]
  refine W_rg fun K hK=>(W_text [true,true,true,true,true,true,true,true,false,false,true] (by kernel_rfl) ?_);simp only [↓zZ1,↓reduceIte,Nat.reduceEqDiff,rg,ow_35,e0,e1,e5,bv_mul,q1,bv_rem _ _ _ _ hz,q2,bu_item]
  refine do_bsl rfl (bs_it1' (((j*s % n:Nat):Int),(j:Int))) fun w3 n3=>⟨trivial,?_⟩
  simp only [↓zZ1,↓reduceIte,Nat.reduceEqDiff,rg,ow_35]
  refine do_append (by simp only [zZ2,Nat.reduceEqDiff,↓reduceIte,zZ3]<;>rfl) (by simp only [zZ2,Nat.reduceEqDiff,↓reduceIte,zZ3]<;>rfl) el_i rfl ni_i (hO.ext n3.ext).sl (u:=.slice (some ⟨w'.heap.size,0,none⟩) 1 1) (m:=1) (l':=Ei.cel _) ⟨rfl,.inr ⟨_,0,1,rfl,Nat.le_refl _,n3.row,n3.wok.R (Nat.le_refl _)⟩⟩ (by omega) (by decide) (Ei.one _) fun v4 w4 a4=>⟨trivial,?_⟩
  have sX:=X.size
  have s3:=n3.size
  obtain ⟨hO4,X4⟩:=(hO.ext n3.ext).app (E:=Ei) a4 (by omega)
  simp only [↓zZ1,↓reduceIte,Nat.reduceEqDiff,rg,ow_35]
  apply hK;clear hK K
  show W _ _ _ _ _ _
  have q3:=wadd1 j (by omega)
  refine W_rg fun K hK=>(W_text [true,true] (by kernel_rfl) ?_);simp only [↓zZ1,↓reduceIte,Nat.reduceEqDiff,rg,ow_35,e8,q3]
  apply hK;clear hK K
  refine ⟨_,?_,j+1,rfl,hlt,by simp only [upd_eq,Nat.reduceEqDiff,↓reduceIte];exact e0,by simp only [upd_eq,Nat.reduceEqDiff,↓reduceIte];exact e1,by simp only [upd_eq,Nat.reduceEqDiff,↓reduceIte];exact e7,by simp only [upd_eq,Nat.reduceEqDiff,↓reduceIte],by simp only [upd_eq,Nat.reduceEqDiff,↓reduceIte];rw [strideL_succ];exact hO4,(X.tr (n3.ext.mono fun _ _ _ g=>g.elim)).tr X4⟩
  omega
 ·obtain rfl:j=n:=by omega
  have ht:=lt_ff j j (by omega)
  refine W_sq fun K hK=>(W_text [true] (by kernel_rfl) ?_);simp only [↓zZ1,↓reduceIte,Nat.reduceEqDiff,rg,ow_35,e7,e8,ht]
  apply hK;clear hK K
  refine W_seq (W_false (by simp only [zZ2,Nat.reduceEqDiff,↓reduceIte,zZ3]<;>rfl) (W_exit ?_))
  simp only [andThen_exit,inBlk_exit,andThen_normal,↓reduceIte]
  refine W_sq fun K hK=>(W_text [true,true] (by kernel_rfl) ?_);simp only [↓zZ1,↓reduceIte,Nat.reduceEqDiff,rg,ow_35]
  apply hK;clear hK K
  exact W_ret (endQ_1 (by simp only [upd_eq,Nat.reduceEqDiff,↓reduceIte]<;>rfl) ⟨hO.sl,noF_of (Ext.refl _ _) X fun y o hy g=>by omega⟩)
set_option maxHeartbeats 400000 in
set_option maxRecDepth 8000 in
theorem impl_gitems (d:Nat) (hd:DOk d) (ord:List Int) (sv:Value) (nl:Bool) (l:List It) (lv:Value) (w:World) (hs:SlInt w sv ord) (hsb:ord.length<=2147483647) (hl:SlI w lv l) (hbig:l.length<=4294967294) :
  CallK Try.prog 24 #[mkV sv d nl,lv] w fun v w'=>SlI w' v (treeG ord l)/\since w.heap.size v/\Ext noF w w':=by
 have htl:=treeG_len ord l
 refine calls_of_W [.tmp 4] Try.func24 rfl Try.ntmps24 Try.results24 (by simp) fun e he=>?_
 have e0:e 0=mkV sv d nl:=he 0 _ rfl
 have e1:e 1=lv:=he 1 _ rfl
 clear he
 refine W_sq fun K hK=>(W_text [false,true] (by kernel_rfl) ?_);simp only [↓zZ1,↓reduceIte,Nat.reduceEqDiff,rg,ow_24]
 refine do_box (by simp only [evt];exact e0) fun w1 n1=>⟨trivial,?_⟩
 simp only [↓zZ1,↓reduceIte,Nat.reduceEqDiff,rg,ow_24]
 apply hK;clear hK K
 have s1:=n1.size
 have rm:=mk_at (show Row w1 w.heap.size 0 (mkL sv d nl) from n1.row)
 refine W_sq fun K hK=>(W_text [true,true,false,false,true] (by kernel_rfl) ?_);simp only [↓zZ1,↓reduceIte,Nat.reduceEqDiff,rg,ow_24,e1,rm]
 refine do_call fn_43 (by simp only [zZ2,Nat.reduceEqDiff,↓reduceIte,zZ4]<;>rfl) (growG_any d hd ord sv nl l lv w1 (SlV.ext0 hs n1.ext) hsb (SlV.ext0 hl n1.ext) hbig) ?_
 rintro _ w2 ⟨X2,B,m,F,rfl,hM,hm,-⟩
 refine ⟨trivial,?_⟩
 simp only [↓zZ1,↓reduceIte,Nat.reduceEqDiff,rg,ow_24]
 refine do_call fn_46 (by simp only [zZ2,Nat.reduceEqDiff,↓reduceIte,zZ4]<;>rfl) (itemsG_any B m (degOf d) ord 1 (treeG ord l) F w2 hM (by omega)) ?_
 rintro v3 w3 ⟨hO,X3⟩
 refine ⟨trivial,?_⟩
 simp only [↓zZ1,↓reduceIte,Nat.reduceEqDiff,rg,ow_24]
 apply hK;clear hK K
 have s2:=X2.size
 exact W_ret (endQ_1 (by simp only [upd_eq,Nat.reduceEqDiff,↓reduceIte]<;>rfl) ⟨hO.sl,fun b o n c h=>by have:=hO.si b o n c h;omega,(n1.ext.tr X2).tr X3⟩)
set_option maxHeartbeats 400000 in
set_option maxRecDepth 8000 in
theorem fitsL_any (sv:Value) (d:Int) (nl:Bool) (w:World) (h1:sv.oneCell'=true) :
  CallK Try.prog 13 #[.agg #[sv,.int .i64 d,.bool nl]] w fun v w'=>v = .bool (decide (d=0) || (decide (2<=d) && decide (d<=128)))/\Ext noF w w':=by
 refine calls_of_W [.tmp 2] Try.func13 rfl Try.ntmps13 Try.results13 (by simp) fun e he=>?_
 have e0:e 0 = .agg #[sv,.int .i64 d,.bool nl]:=he 0 _ rfl
 clear he
 refine W_sq fun K hK=>(W_text [false,true] (by kernel_rfl) ?_);simp only [↓zZ1,↓reduceIte,Nat.reduceEqDiff,rg,ow_13]
 refine do_box (by simp only [evt];exact e0) fun w1 n1=>⟨trivial,?_⟩
 simp only [↓zZ1,↓reduceIte,Nat.reduceEqDiff,rg,ow_13]
 apply hK;clear hK K
 have g1:=(Row.cons.1 (Row.cons.1 (show Row w1 w.heap.size 0 [sv,.int .i64 d,.bool nl] from n1.row)).2).1
 rw [Nat.zero_add] at g1
 refine W_sq fun K hK=>(W_text [true,true,false,true] (by kernel_rfl) ?_);simp only [↓zZ1,↓reduceIte,Nat.reduceEqDiff,rg,ow_13,g1]
 refine do_call fn_23 (by simp only [zZ2,Nat.reduceEqDiff,↓reduceIte,zZ4]<;>rfl) (fits_any d w1) ?_
 rintro _ w2 ⟨rfl,hw2⟩
 obtain rfl:w1=w2:=hw2
 refine ⟨trivial,?_⟩
 simp only [↓zZ1,↓reduceIte,Nat.reduceEqDiff,rg,ow_13]
 apply hK;clear hK K
 exact W_ret (endQ_1 (by simp only [upd_eq,Nat.reduceEqDiff,↓reduceIte]<;>rfl) ⟨rfl,n1.ext⟩)
set_option maxHeartbeats 400000 in
set_option maxRecDepth 8000 in
theorem alive_any (w:World):CallK Try.prog 14 #[] w fun v w'=>v = .bool true/\Ext noF w w':=by
 refine calls_of_W (args:=[]) [.tmp 0] Try.func14 rfl Try.ntmps14 Try.results14 (by simp) fun e he=>?_
 clear he
 refine W_sq fun K hK=>(W_text [true] (by kernel_rfl) ?_);simp only [↓zZ1,↓reduceIte,Nat.reduceEqDiff,rg,ow_14]
 apply hK;clear hK K
 refine W_sq fun K hK=>(W_text [false,false,true,false,true,true,true] (by kernel_rfl) ?_);simp only [↓zZ1,↓reduceIte,Nat.reduceEqDiff,rg,ow_14]
 refine do_call fn_19 (by simp only [zZ2,Nat.reduceEqDiff,↓reduceIte,zZ4]<;>rfl) (exMake_any w) ?_
 rintro _ w1 ⟨rfl,X1⟩
 refine ⟨trivial,?_⟩
 simp only [↓zZ1,↓reduceIte,Nat.reduceEqDiff,rg,ow_14]
 refine do_call fn_20 (by simp only [zZ2,Nat.reduceEqDiff,↓reduceIte,zZ4]<;>rfl) (exItems_any w1) ?_
 rintro x0 w2 ⟨h2,X2⟩
 refine ⟨trivial,?_⟩
 obtain ⟨s3,hs30,hS3⟩:=sl_hi h2 3 (by decide)
 have hs3:sliceV Try.prog 25 x0 none (some (.int .i64 3)) none=some s3:=hs30
 simp only [↓zZ1,↓reduceIte,Nat.reduceEqDiff,rg,ow_14,hs3]
 refine do_call fn_24 (by simp only [zZ2,Nat.reduceEqDiff,↓reduceIte,zZ4]<;>rfl) (impl_gitems 2 (.inr (by decide)) [] nilS false (exL.take 3) s3 w2 (nil_int _) (by decide) hS3 (by decide)) ?_
 rintro v4 w4 ⟨h4,_,X4⟩
 refine ⟨trivial,?_⟩
 obtain ⟨a4,c4,rfl⟩:=SlV.shape h4
 have hl:(treeG [] (exL.take 3)).length=3:=by decide
 have ht:(((3:Nat):Int) == 3)=true:=by decide
 rw [hl]
 simp only [↓zZ1,↓reduceIte,Nat.reduceEqDiff,rg,ow_14,ht]
 apply hK;clear hK K
 exact W_ret (endQ_1 (by simp only [upd_eq,Nat.reduceEqDiff,↓reduceIte]<;>rfl) ⟨rfl,(X1.tr X2).tr X4⟩)
theorem bu_mkd (d:Nat):buildV Try.prog 24 [(1,.int .i64 (d:Int))]=some (mkV nilS d false):=by kernel_rfl
theorem el_sp:elK Try.prog 55=some (57,4,32,[.int .i64 0,.int .i64 0,.int .i64 0,.int .i64 0]):=by kernel_rfl
theorem ni_sp:noInt Try.prog 55=true:=by kernel_rfl
theorem bs_sp1 (x:It × It):bsV Try.prog 55 1 [(0,spV x)]=some (57,Esp.cel x):=by kernel_rfl
set_option maxHeartbeats 3200000 in
set_option maxRecDepth 8000 in
theorem top_FnGPeels (d:Int) (n s k:Nat) (w:World) (gn:n<65536) (gs:s<65536) (gk:k<65536) :
  CallK Try.prog 7 #[.int .i64 d,.int .u16 n,.int .u16 s,.int .u16 k] w fun v w'=>v = .bool true/\Ext noF w w':=by
 refine calls_of_W [.tmp 8] Try.func7 rfl Try.ntmps7 Try.results7 (by simp) fun e he=>?_
 have e0:e 0 = .int .i64 d:=he 0 _ rfl
 have e1:e 1 = .int .u16 n:=he 1 _ rfl
 have e2:e 2 = .int .u16 s:=he 2 _ rfl
 have e3:e 3 = .int .u16 k:=he 3 _ rfl
 clear he
 refine W_sq fun K hK=>(W_text [true] (by kernel_rfl) ?_);simp only [↓zZ1,↓reduceIte,Nat.reduceEqDiff,rg,ow_7]
 apply hK;clear hK K
 have q1:=u16_64 n gn
 have q2:=u16_64 s gs
 have q3:=u16_64 k gk
 refine W_seq ?_
 refine W_sq fun K hK=>(W_text [true,false,true,true,true,true,true,true,true,true,true,true,true,true,true,true,true,true,true,true,true,true,true,true,false,true,true] (by kernel_rfl) ?_);simp only [↓zZ1,↓reduceIte,Nat.reduceEqDiff,rg,ow_7,e0]
 refine do_call fn_23 (by simp only [zZ2,Nat.reduceEqDiff,↓reduceIte,zZ4]<;>rfl) (fits_any d w) ?_
 rintro _ _ ⟨rfl,rfl⟩
 refine ⟨trivial,?_⟩
 cases hf:(decide (d=0) || (decide (2<=d) && decide (d<=128))) with
 | false =>
  simp only [↓zZ1,↓reduceIte,Nat.reduceEqDiff,rg,ow_7]
  apply hK;clear hK K
  refine W_true (by simp only [zZ2,Nat.reduceEqDiff,↓reduceIte,zZ3]<;>rfl) ?_
  refine W_sq fun K hK=>(W_text [false,true] (by kernel_rfl) ?_);simp only [↓zZ1,↓reduceIte,Nat.reduceEqDiff,rg,ow_7]
  refine do_call fn_14 (by simp only [zZ2,Nat.reduceEqDiff,↓reduceIte,zZ4]<;>rfl) (alive_any w) ?_
  rintro _ u1 ⟨rfl,z1⟩
  refine ⟨trivial,?_⟩
  simp only [↓zZ1,↓reduceIte,Nat.reduceEqDiff,rg,ow_7]
  apply hK;clear hK K
  refine W_ret ?_
  simp only [andThen_ret]
  exact endQ_1 (by simp only [upd_eq,Nat.reduceEqDiff,↓reduceIte]<;>rfl) ⟨rfl,z1⟩
 | true =>
  have h2:d=0\/2<=d/\d<=128:=by simp at hf;omega
  obtain ⟨dn,rfl⟩:∃ n:Nat,d=n:=⟨d.toNat,by omega⟩
  have hd:DOk dn:=by unfold DOk;omega
  by_cases h4:n<=4000
  case neg =>
   have t1:decide ((4000:Int)<(n:Int))=true:=by simp;omega
   simp only [↓zZ1,↓reduceIte,Nat.reduceEqDiff,rg,ow_7,e1,t1]
   apply hK;clear hK K
   refine W_true (by simp only [zZ2,Nat.reduceEqDiff,↓reduceIte,zZ3]<;>rfl) ?_
   refine W_sq fun K hK=>(W_text [false,true] (by kernel_rfl) ?_);simp only [↓zZ1,↓reduceIte,Nat.reduceEqDiff,rg,ow_7]
   refine do_call fn_14 (by simp only [zZ2,Nat.reduceEqDiff,↓reduceIte,zZ4]<;>rfl) (alive_any w) ?_
   rintro _ u1 ⟨rfl,z1⟩
   refine ⟨trivial,?_⟩
   simp only [↓zZ1,↓reduceIte,Nat.reduceEqDiff,rg,ow_7]
   apply hK;clear hK K
   refine W_ret ?_
   simp only [andThen_ret]
   exact endQ_1 (by simp only [upd_eq,Nat.reduceEqDiff,↓reduceIte]<;>rfl) ⟨rfl,z1⟩
  have t1:decide ((4000:Int)<(n:Int))=false:=by simp;omega
  by_cases hk:0<k
  case neg =>
   have t2:((k:Int) == 0)=true:=by simp;omega
   simp only [↓zZ1,↓reduceIte,Nat.reduceEqDiff,rg,ow_7,e1,e3,t1,t2]
   apply hK;clear hK K
   refine W_true (by simp only [zZ2,Nat.reduceEqDiff,↓reduceIte,zZ3]<;>rfl) ?_
   refine W_sq fun K hK=>(W_text [false,true] (by kernel_rfl) ?_);simp only [↓zZ1,↓reduceIte,Nat.reduceEqDiff,rg,ow_7]
   refine do_call fn_14 (by simp only [zZ2,Nat.reduceEqDiff,↓reduceIte,zZ4]<;>rfl) (alive_any w) ?_
   rintro _ u1 ⟨rfl,z1⟩
   refine ⟨trivial,?_⟩
   simp only [↓zZ1,↓reduceIte,Nat.reduceEqDiff,rg,ow_7]
   apply hK;clear hK K
   refine W_ret ?_
   simp only [andThen_ret]
   exact endQ_1 (by simp only [upd_eq,Nat.reduceEqDiff,↓reduceIte]<;>rfl) ⟨rfl,z1⟩
  have t2:((k:Int) == 0)=false:=by simp;omega
  have hz:((k:Int)=0)=False:=eq_false (by omega)
  have q4:=quoN n k gn
  by_cases h40:n / k<=400
  case neg =>
   have t3:decide ((400:Int)<((n / k:Nat):Int))=true:=by simp only [decide_eq_true_eq];omega
   simp only [↓zZ1,↓reduceIte,Nat.reduceEqDiff,rg,ow_7,e1,e3,t1,t2,q1,q3,bvq _ _ _ _ hz,q4,t3]
   apply hK;clear hK K
   refine W_true (by simp only [zZ2,Nat.reduceEqDiff,↓reduceIte,zZ3]<;>rfl) ?_
   refine W_sq fun K hK=>(W_text [false,true] (by kernel_rfl) ?_);simp only [↓zZ1,↓reduceIte,Nat.reduceEqDiff,rg,ow_7]
   refine do_call fn_14 (by simp only [zZ2,Nat.reduceEqDiff,↓reduceIte,zZ4]<;>rfl) (alive_any w) ?_
   rintro _ u1 ⟨rfl,z1⟩
   refine ⟨trivial,?_⟩
   simp only [↓zZ1,↓reduceIte,Nat.reduceEqDiff,rg,ow_7]
   apply hK;clear hK K
   refine W_ret ?_
   simp only [andThen_ret]
   exact endQ_1 (by simp only [upd_eq,Nat.reduceEqDiff,↓reduceIte]<;>rfl) ⟨rfl,z1⟩
  have t3:decide ((400:Int)<((n / k:Nat):Int))=false:=by simp only [decide_eq_false_iff_not];omega
  simp only [↓zZ1,↓reduceIte,Nat.reduceEqDiff,rg,ow_7,e1,e2,e3,t1,t2,q1,q2,q3,bvq _ _ _ _ hz,q4,t3]
  refine do_call fn_33 (by simp only [zZ2,Nat.reduceEqDiff,↓reduceIte,zZ4]<;>rfl) (coprime_any n s w) ?_
  rintro _ w1 ⟨rfl,X1⟩
  refine ⟨trivial,?_⟩
  by_cases hg:Nat.gcd n s=1
  case neg =>
   have t4:(Nat.gcd n s == 1)=false:=by simpa using hg
   simp only [↓zZ1,↓reduceIte,Nat.reduceEqDiff,rg,ow_7,t4]
   apply hK;clear hK K
   refine W_true (by simp only [zZ2,Nat.reduceEqDiff,↓reduceIte,zZ3]<;>rfl) ?_
   refine W_sq fun K hK=>(W_text [false,true] (by kernel_rfl) ?_);simp only [↓zZ1,↓reduceIte,Nat.reduceEqDiff,rg,ow_7]
   refine do_call fn_14 (by simp only [zZ2,Nat.reduceEqDiff,↓reduceIte,zZ4]<;>rfl) (alive_any w1) ?_
   rintro _ u1 ⟨rfl,z1⟩
   refine ⟨trivial,?_⟩
   simp only [↓zZ1,↓reduceIte,Nat.reduceEqDiff,rg,ow_7]
   apply hK;clear hK K
   refine W_ret ?_
   simp only [andThen_ret]
   exact endQ_1 (by simp only [upd_eq,Nat.reduceEqDiff,↓reduceIte]<;>rfl) ⟨rfl,X1.tr z1⟩
  have t4:(Nat.gcd n s == 1)=true:=by simpa using hg
  simp only [↓zZ1,↓reduceIte,Nat.reduceEqDiff,rg,ow_7,t4]
  apply hK;clear hK K
  refine W_false (by simp only [zZ2,Nat.reduceEqDiff,↓reduceIte,zZ3]<;>rfl) (W_skip ?_)
  show W _ _ _ _ _ _
  refine W_sq fun K hK=>(W_text [true] (by kernel_rfl) ?_);simp only [↓zZ1,↓reduceIte,Nat.reduceEqDiff,rg,ow_7]
  apply hK;clear hK K
  refine W_seq (W_seq ?_)
  refine W_rg fun K hK=>(W_text [true] (by kernel_rfl) ?_);simp only [↓zZ1,↓reduceIte,Nat.reduceEqDiff,rg,ow_7]
  apply hK;clear hK K
  show W _ _ _ _ _ _
  refine W_block (W_loop (fun mm e w'=>∃ j:Nat,mm=n-j*k/\j<=n/\j*k<n+k/\e 0 = .int .i64 dn/\e 1 = .int .u16 n/\e 2 = .int .u16 s/\e 3 = .int .u16 k/\e 10 = .int .i64 ((j*k:Nat):Int)/\OutE Esp w1.heap.size (e 9) (spL k j) w'/\Ext (fun y _=>w1.heap.size<=y) w1 w')
   n ⟨0,by simp,by simp,by omega,by simp only [upd_eq,Nat.reduceEqDiff,↓reduceIte];exact e0,by simp only [upd_eq,Nat.reduceEqDiff,↓reduceIte];exact e1,by simp only [upd_eq,Nat.reduceEqDiff,↓reduceIte];exact e2,by simp only [upd_eq,Nat.reduceEqDiff,↓reduceIte];exact e3,(by simp only [upd_eq,Nat.reduceEqDiff,↓reduceIte];simp),by simp only [upd_eq,Nat.reduceEqDiff,↓reduceIte];exact OutE.nil _ _ _,Ext.refl _ _⟩ ?_)
  clear e0 e1 e2 e3 e
  rintro mm e w' ⟨j,rfl,hj,hjk,e0,e1,e2,e3,e10,hO,X⟩
  refine W_seq ?_
  by_cases hlt:j*k<n
  ·have ht:=lt_tt (j*k) n hlt
   refine W_sq fun K hK=>(W_text [true,true,true,true] (by kernel_rfl) ?_);simp only [↓zZ1,↓reduceIte,Nat.reduceEqDiff,rg,ow_7,e1,e10,q1,ht]
   apply hK;clear hK K
   refine W_true (by simp only [zZ2,Nat.reduceEqDiff,↓reduceIte,zZ3]<;>rfl) (W_skip ?_)
   show W _ _ _ _ _ _
   refine W_seq (W_block ?_)
   obtain ⟨ov,hov⟩:∃ ov,ov=e 9:=⟨_,rfl⟩
   have e9:e 9=ov:=hov.symm
   rw [<-hov] at hO
   have q5:=wadd (j*k) k (by omega)
   have hol:=spL_len k j
   refine W_rg fun K hK=>(W_text [true,true,true,true,true,true,true,true,true,false,false,true] (by kernel_rfl) ?_);simp only [↓zZ1,↓reduceIte,Nat.reduceEqDiff,rg,ow_7,e9,e10,e3,q3,q5,bu_itemK,bu_sp2]
   refine do_bsl rfl (bs_sp1 ((((j*k:Nat):Int),0),(((j*k+k:Nat):Int),0))) fun w3 n3=>⟨trivial,?_⟩
   simp only [↓zZ1,↓reduceIte,Nat.reduceEqDiff,rg,ow_7,e9]
   refine do_append (by simp only [zZ2,Nat.reduceEqDiff,↓reduceIte,zZ3]<;>rfl) (by simp only [zZ2,Nat.reduceEqDiff,↓reduceIte,zZ3]<;>rfl) el_sp rfl ni_sp (hO.ext n3.ext).sl (u:=.slice (some ⟨w'.heap.size,0,none⟩) 1 1) (m:=1) (l':=Esp.cel _) ⟨rfl,.inr ⟨_,0,1,rfl,Nat.le_refl _,n3.row,n3.wok.R (Nat.le_refl _)⟩⟩ (by omega) (by decide) (Esp.one _) fun v4 w4 a4=>⟨trivial,?_⟩
   have sX:=X.size
   have s3:=n3.size
   obtain ⟨hO4,X4⟩:=(hO.ext n3.ext).app (E:=Esp) a4 (by omega)
   simp only [↓zZ1,↓reduceIte,Nat.reduceEqDiff,rg,ow_7]
   apply hK;clear hK K
   show W _ _ _ _ _ _
   refine W_rg fun K hK=>(W_text [true,true,true,true,true] (by kernel_rfl) ?_);simp only [↓zZ1,↓reduceIte,Nat.reduceEqDiff,rg,ow_7,e3,e10,q3,q5]
   apply hK;clear hK K
   have hm:(j+1)*k=j*k+k:=Nat.succ_mul j k
   have hjj:j<=j*k:=Nat.le_mul_of_pos_right j hk
   refine ⟨_,?_,j+1,rfl,by omega,by omega,by simp only [upd_eq,Nat.reduceEqDiff,↓reduceIte];exact e0,by simp only [upd_eq,Nat.reduceEqDiff,↓reduceIte];exact e1,by simp only [upd_eq,Nat.reduceEqDiff,↓reduceIte];exact e2,by simp only [upd_eq,Nat.reduceEqDiff,↓reduceIte];exact e3,by simp only [upd_eq,Nat.reduceEqDiff,↓reduceIte];rw [hm],by simp only [upd_eq,Nat.reduceEqDiff,↓reduceIte];rw [spL_succ];exact hO4,(X.tr (n3.ext.mono fun _ _ _ g=>g.elim)).tr X4⟩
   omega
  ·have ht:=lt_ff (j*k) n (by omega)
   refine W_sq fun K hK=>(W_text [true,true,true,true] (by kernel_rfl) ?_);simp only [↓zZ1,↓reduceIte,Nat.reduceEqDiff,rg,ow_7,e1,e10,q1,ht]
   apply hK;clear hK K
   refine W_false (by simp only [zZ2,Nat.reduceEqDiff,↓reduceIte,zZ3]<;>rfl) (W_exit ?_)
   simp only [andThen_exit,inBlk_exit,andThen_normal,↓reduceIte]
   have X2:Ext noF w1 w':=noF_of (Ext.refl _ _) X fun y o hy g=>by omega
   obtain ⟨P1,P2,P3,P4,P5⟩:=peels n s k j hg (by omega)
   obtain ⟨ov,hov⟩:∃ ov,ov=e 9:=⟨_,rfl⟩
   have e9:e 9=ov:=hov.symm
   rw [<-hov] at hO
   have hS:=hO.sl
   have hsl:=spL_len k j
   obtain ⟨ao,co,hov2⟩:=SlV.shape hS
   rw [hsl] at hov2
   have htl:(strideL n s n).length=n:=by simp [strideL]
   have hjj:j<=4000:=by omega
   refine W_sq fun K hK=>(W_text [true,true,true,true,true,true,false,true,true,false,true,true,true,true,true] (by kernel_rfl) ?_);simp only [↓zZ1,↓reduceIte,Nat.reduceEqDiff,rg,ow_7,e0,e1,e2,e9,q1,q2,bu_mkd,bu_rg0]
   refine do_call fn_35 (by simp only [zZ2,Nat.reduceEqDiff,↓reduceIte,zZ4]<;>rfl) (stride_any n s h4 gs w') ?_
   rintro lv w2 ⟨hl,X3⟩
   refine ⟨trivial,?_⟩
   simp only [↓zZ1,↓reduceIte,Nat.reduceEqDiff,rg,ow_7,e0,e9,bu_mkd,bu_rg0]
   refine do_call fn_34 (by simp only [zZ2,Nat.reduceEqDiff,↓reduceIte,zZ4]<;>rfl) (impl_delr dn hd [] nilS false (strideL n s n) lv (spL k j) ov false false false w2 (nil_int _) (by decide) hl (by omega) (SlV.ext0 hS X3) (by omega)) ?_
   rintro _ w3 ⟨v1,v2,K1,hs1,rfl,g1,g2,X4⟩
   refine ⟨trivial,?_⟩
   have g1:LL K1 w3 v1 hs1 (runR [] true false (treeG [] (strideL n s n)) (spL k j)).1:=g1
   have g2:SlI w3 v2 (runR [] true false (treeG [] (strideL n s n)) (spL k j)).2:=g2
   rw [P3] at g2
   obtain ⟨L1,L2,L3⟩:=runR_len [] true false (treeG [] (strideL n s n)) (spL k j)
   rw [P1] at L3
   generalize (runR [] true false (treeG [] (strideL n s n)) (spL k j)).1=ls at g1 P2 P4 P5 L3
   obtain ⟨a1,c1,hv1⟩:=g1.sl.shape
   have hll:=g1.len
   rw [hll,P2] at hv1
   obtain ⟨a2,c2,hv2⟩:=SlV.shape g2
   have hv2:v2 = .slice a2 0 c2:=hv2
   have X5:=((X1.tr X2).tr X3).tr X4
   simp only [↓zZ1,↓reduceIte,Nat.reduceEqDiff,rg,ow_7]
   apply hK;clear hK K
   refine W_sq fun K hK=>(W_text [true] (by kernel_rfl) ?_);simp only [↓zZ1,↓reduceIte,Nat.reduceEqDiff,rg,ow_7]
   apply hK;clear hK K
   refine W_seq (W_seq ?_)
   refine W_rg fun K hK=>(W_text [true,true,true] (by kernel_rfl) ?_);simp only [↓zZ1,↓reduceIte,Nat.reduceEqDiff,rg,ow_7,hv1]
   apply hK;clear hK K
   show W _ _ _ _ _ _
   refine W_block (W_loop (fun mm e w'=>∃ i:Nat,mm=j-i/\i<=j/\e 1 = .int .u16 n/\e 9=ov/\e 11=v1/\e 12=v2/\e 78=v1/\e 79 = .int .i64 j/\e 80 = .int .i64 i/\e 13 = .int .i64 ((ls.take i).flatten.length:Nat)/\Ext noF w3 w')
    j ⟨0,by simp,by simp,by simp only [upd_eq,Nat.reduceEqDiff,↓reduceIte];exact e1,by simp only [upd_eq,Nat.reduceEqDiff,↓reduceIte];exact e9,(by first | (simp only [upd_eq,Nat.reduceEqDiff,↓reduceIte];done) | (simp only [upd_eq,Nat.reduceEqDiff,↓reduceIte];first | rfl | exact hv1.symm | exact hv1)),(by first | (simp only [upd_eq,Nat.reduceEqDiff,↓reduceIte];done) | (simp only [upd_eq,Nat.reduceEqDiff,↓reduceIte];first | rfl | exact hv1.symm | exact hv1)),(by first | (simp only [upd_eq,Nat.reduceEqDiff,↓reduceIte];done) | (simp only [upd_eq,Nat.reduceEqDiff,↓reduceIte];first | rfl | exact hv1.symm | exact hv1)),rfl,rfl,rfl,Ext.refl _ _⟩ ?_)
   clear hov e0 e1 e2 e3 e9 e10 e
   rintro mm e w4 ⟨i,rfl,hi,e1,e9,e11,e12,e78,e79,e80,e13,Y⟩
   by_cases hlt:i<j
   ·have ht:=lt_tt i j hlt
    refine W_sq fun K hK=>(W_text [true] (by kernel_rfl) ?_);simp only [↓zZ1,↓reduceIte,Nat.reduceEqDiff,rg,ow_7,e79,e80,ht]
    apply hK;clear hK K
    refine W_seq (W_true (by simp only [zZ2,Nat.reduceEqDiff,↓reduceIte,zZ3]<;>rfl) (W_skip ?_))
    show W _ _ _ _ _ _
    obtain ⟨l,hl0⟩:∃ x,ls[i]? = some x:=⟨_,List.getElem?_eq_getElem (by omega)⟩
    obtain ⟨x1,hx1⟩:∃ x,hs1[i]? = some x:=⟨_,List.getElem?_eq_getElem (by omega)⟩
    have hv1':v1 = .slice a1 hs1.length c1:=by rw [hv1,hll,P2]
    obtain ⟨b1,o1,ha,r1⟩:=g1.sl.at hv1' (by omega:i<hs1.length)
    have y1:=hdV_at (Y.row r1 fun _ _ h=>h) hx1
    obtain ⟨k1,_⟩:=g1.el i x1 l hx1 hl0
    obtain ⟨al,cl,hvl⟩:=SlV.shape k1
    rw [hvl] at y1
    rw [hv1,ha] at e78
    have hll0:=L3 l (List.mem_of_getElem? hl0)
    have hfs:=flat_succ hl0
    have hfb:(ls.take (i+1)).flatten.length<=n:=by
     rw [<-P4,<-List.take_append_drop (i+1) ls,List.flatten_append,List.length_append,List.take_append_drop];omega
    generalize hbs:(ls.take i).flatten.length=bs at e13 hfs
    refine W_seq (W_block ?_)
    refine W_sq fun K hK=>(W_text [true,true,true] (by kernel_rfl) ?_);simp only [↓zZ1,↓reduceIte,Nat.reduceEqDiff,rg,ow_7,e78,e80,hlt,y1]
    apply hK;clear hK K
    refine W_sq fun K hK=>(W_text [true,true,true] (by kernel_rfl) ?_);simp only [↓zZ1,↓reduceIte,Nat.reduceEqDiff,rg,ow_7]
    apply hK;clear hK K
    refine W_block (W_loop (fun mm e2 w5=>∃ t:Nat,mm=l.length-t/\t<=l.length/\(∀ q,(q=1\/q=9\/q=11\/q=12\/q=78\/q=79\/q=80)->e2 q=e q)/\e2 84 = .slice al l.length cl/\e2 85 = .int .i64 l.length/\e2 86 = .int .i64 t/\e2 13 = .int .i64 ((bs+t:Nat):Int)/\Ext noF w3 w5)
     l.length ⟨0,by simp,by simp,(fun q hq=>by simp only [upd_apply];repeat rw [if_neg (by omega)]),by simp only [upd_eq,Nat.reduceEqDiff,↓reduceIte],by simp only [upd_eq,Nat.reduceEqDiff,↓reduceIte],by simp only [upd_eq,Nat.reduceEqDiff,↓reduceIte];rfl,by simp only [upd_eq,Nat.reduceEqDiff,↓reduceIte];exact e13,Y⟩ ?_)
    rintro mm e2 w5 ⟨t,rfl,htl,f,f84,f85,f86,f13,Z⟩
    by_cases hlt2:t<l.length
    ·have ht2:=lt_tt t l.length hlt2
     refine W_sq fun K hK=>(W_text [true] (by kernel_rfl) ?_);simp only [↓zZ1,↓reduceIte,Nat.reduceEqDiff,rg,ow_7,f85,f86,ht2]
     apply hK;clear hK K
     refine W_seq (W_true (by simp only [zZ2,Nat.reduceEqDiff,↓reduceIte,zZ3]<;>rfl) (W_skip ?_))
     show W _ _ _ _ _ _
     obtain ⟨x,hx⟩:∃ x,l[t]? = some x:=⟨_,List.getElem?_eq_getElem hlt2⟩
     obtain ⟨b2,o2,hal,r2⟩:=SlV.at k1 hvl hlt2
     have z1:=iV_at (Z.row r2 fun _ _ h=>h) hx
     rw [hal] at f84
     have hxk:=P5 _ x (flat_at hl0 hx)
     rw [hbs] at hxk
     have tn:(x.1 != ((bs+t:Nat):Int))=false:=by rw [hxk];simp
     have q5:=wadd1 (bs+t) (by omega)
     have q6:=wadd1 t (by omega)
     refine W_seq (W_block ?_)
     refine W_sq fun K hK=>(W_text [true,true,false,false] (by kernel_rfl) ?_);simp only [↓zZ1,↓reduceIte,Nat.reduceEqDiff,rg,ow_7,f84,f86,hlt2,z1]
     refine do_alloc z_item fun w6 n6=>⟨trivial,?_⟩
     simp only [↓zZ1,↓reduceIte,Nat.reduceEqDiff,rg,ow_7]
     refine do_store (v:=iV x) (by simp only [zZ2,Nat.reduceEqDiff,↓reduceIte,zZ3]<;>rfl) (by simp only [zZ2,Nat.reduceEqDiff,↓reduceIte,zZ3]<;>rfl) sz_33 rfl n6.wok (by decide) (Ei.one x) fun w7 x7 r7 s7=>⟨trivial,?_⟩
     simp only [↓zZ1,↓reduceIte,Nat.reduceEqDiff,rg,ow_7]
     apply hK;clear hK K
     have s6:=n6.size
     have Z7:Ext noF w5 w7:=n6.ext.trans x7 (fun _ _ g=>g) fun y o hy g=>by have:=g.1;omega
     have r7:Row w7 w5.heap.size 0 [.int .i64 x.1,.int .i64 x.2]:=r7
     have z0:rd w7 w5.heap.size 0=some (.int .i64 x.1):=(Row.cons.1 r7).1
     refine W_seq ?_
     refine W_sq fun K hK=>(W_text [true,true,true,true] (by kernel_rfl) ?_);simp only [↓zZ1,↓reduceIte,Nat.reduceEqDiff,rg,ow_7,f13,ptr_eq,z0,tn]
     apply hK;clear hK K
     refine W_false (by simp only [zZ2,Nat.reduceEqDiff,↓reduceIte,zZ3]<;>rfl) (W_skip ?_)
     show W _ _ _ _ _ _
     refine W_rg fun K hK=>(W_text [true,true,true] (by kernel_rfl) ?_);simp only [↓zZ1,↓reduceIte,Nat.reduceEqDiff,rg,ow_7,f13,q5]
     apply hK;clear hK K
     show W _ _ _ _ _ _
     refine W_rg fun K hK=>(W_text [true,true] (by kernel_rfl) ?_);simp only [↓zZ1,↓reduceIte,Nat.reduceEqDiff,rg,ow_7,f86,q6]
     apply hK;clear hK K
     refine ⟨_,?_,t+1,rfl,hlt2,(fun q hq=>by simp only [upd_apply];(repeat rw [if_neg (by omega)]);exact f q hq),by simp only [upd_eq,Nat.reduceEqDiff,↓reduceIte];rw [hal];exact f84,by simp only [upd_eq,Nat.reduceEqDiff,↓reduceIte];exact f85,by simp only [upd_eq,Nat.reduceEqDiff,↓reduceIte],by simp only [upd_eq,Nat.reduceEqDiff,↓reduceIte];rfl,Z.tr Z7⟩
     omega
    ·obtain rfl:t=l.length:=by omega
     have ht2:=lt_ff l.length l.length (by omega)
     refine W_sq fun K hK=>(W_text [true] (by kernel_rfl) ?_);simp only [↓zZ1,↓reduceIte,Nat.reduceEqDiff,rg,ow_7,f85,f86,ht2]
     apply hK;clear hK K
     refine W_seq (W_false (by simp only [zZ2,Nat.reduceEqDiff,↓reduceIte,zZ3]<;>rfl) (W_exit ?_))
     simp only [andThen_exit,inBlk_exit,andThen_normal,↓reduceIte]
     have q6:=wadd1 i (by omega)
     have f80:=(f 80 (by omega)).trans e80
     refine W_rg fun K hK=>(W_text [true,true] (by kernel_rfl) ?_);simp only [↓zZ1,↓reduceIte,Nat.reduceEqDiff,rg,ow_7,f80,q6]
     apply hK;clear hK K
     refine ⟨_,?_,i+1,rfl,hlt,by simp only [upd_eq,Nat.reduceEqDiff,↓reduceIte];exact (f 1 (by omega)).trans e1,by simp only [upd_eq,Nat.reduceEqDiff,↓reduceIte];exact (f 9 (by omega)).trans e9,by simp only [upd_eq,Nat.reduceEqDiff,↓reduceIte];exact (f 11 (by omega)).trans e11,by simp only [upd_eq,Nat.reduceEqDiff,↓reduceIte];exact (f 12 (by omega)).trans e12,by simp only [upd_eq,Nat.reduceEqDiff,↓reduceIte];rw [hv1,ha];exact (f 78 (by omega)).trans e78,by simp only [upd_eq,Nat.reduceEqDiff,↓reduceIte];exact (f 79 (by omega)).trans e79,by simp only [upd_eq,Nat.reduceEqDiff,↓reduceIte],by simp only [upd_eq,Nat.reduceEqDiff,↓reduceIte];rw [hfs];exact f13,Z⟩
     omega
   ·obtain rfl:i=j:=by omega
    have ht:=lt_ff i i (by omega)
    refine W_sq fun K hK=>(W_text [true] (by kernel_rfl) ?_);simp only [↓zZ1,↓reduceIte,Nat.reduceEqDiff,rg,ow_7,e79,e80,ht]
    apply hK;clear hK K
    refine W_seq (W_false (by simp only [zZ2,Nat.reduceEqDiff,↓reduceIte,zZ3]<;>rfl) (W_exit ?_))
    simp only [andThen_exit,inBlk_exit,andThen_normal,↓reduceIte]
    rw [List.take_of_length_le (by omega),P4] at e13
    have te1:((n:Int) == (n:Int))=true:=by simp
    have te2:((i:Int) == (i:Int))=true:=by simp
    have te3:(((0:Nat):Int) == 0)=true:=by decide
    rw [hv1] at e11
    rw [hv2] at e12
    rw [hov2] at e9
    refine W_sq fun K hK=>(W_text [true,true,true,true,true,true,true,true,true,true,true,true,true,true,true,true,true,false,true,true] (by kernel_rfl) ?_);simp only [↓zZ1,↓reduceIte,Nat.reduceEqDiff,rg,ow_7,e1,e9,e11,e12,e13,q1,te1,te2,te3]
    refine do_call fn_14 (by simp only [zZ2,Nat.reduceEqDiff,↓reduceIte,zZ4]<;>rfl) (alive_any w4) ?_
    rintro _ u1 ⟨rfl,z1⟩
    refine ⟨trivial,?_⟩
    simp only [↓zZ1,↓reduceIte,Nat.reduceEqDiff,rg,ow_7]
    apply hK;clear hK K
    exact W_ret (endQ_1 (by simp only [upd_eq,Nat.reduceEqDiff,↓reduceIte]<;>rfl) ⟨rfl,(X5.tr Y).tr z1⟩)
end Go.Proofs.Ytbnnkcofnmipoaa
namespace Go.Proofs.Ytbnnkcofnmipoaa
open Go Go.Proofs Go.ChangeShapes Go.WideShapes Go.ChangeAt Go.RowKit
theorem u16_wf {n:Int} (h:(Lit.int .u16 n).wf=true):∃ m:Nat,n=m/\m<65536:=by
 simp [Lit.wf,IntKind.min,IntKind.max,IntKind.signed,IntKind.bits] at h
 exact ⟨n.toNat,by omega,by omega⟩
set_option maxRecDepth 100000 in
theorem c_FnGPeels (H:Type) (enc:TypeId × Value->H) (W:World) (base:Nat) (args:Array Value) (ds gs:List (DataW H)) (before:List MemPlace)
  (hval:∀ (j:Nat) t v,Try.f7.params[j]? = some t->args[j]? = some v->Value.okWide Try.prog W .any base t v)
  (hW:DataW.Whole enc Try.prog Try.f7.params.toList Rows.fnGPeelsSpec.vars false W args.toList ds gs before) :
  Calls Try.prog 7 args W fun e W'=>∃ v,e = .returned v/\Rows.fnGPeelsSpec.post enc Try.prog Try.f7 false true false false W args v W':=by
 have hW':=hW
 obtain ⟨p,q,hA0,hV,rfl,hfz,hnd⟩:=hW
 have hA:DataW.TrodAll enc Try.prog W 0 (fun _=>true) true Try.f7.params.toList args.toList ds p:=hA0
 rw [Try.params7] at hA hval
 obtain ⟨v0,v1,v2,v3,d0,d1,d2,d3,p0,p1,p2,p3,rfl,rfl,rfl,h0,h1,h2,h3⟩:=trodAll_four hA
 obtain ⟨rfl,rfl⟩:=trodVars_none hV
 obtain ⟨a0,rfl,rfl,rfl,_⟩:=open_int Try.underlying3 (hval 0 3 v0 rfl rfl) h0
 obtain ⟨z1,rfl,rfl,rfl,hz1⟩:=open_int Try.underlying53 (hval 1 53 v1 rfl rfl) h1
 obtain ⟨a1,rfl,g1⟩:=u16_wf hz1
 obtain ⟨z2,rfl,rfl,rfl,hz2⟩:=open_int Try.underlying53 (hval 2 53 v2 rfl rfl) h2
 obtain ⟨a2,rfl,g2⟩:=u16_wf hz2
 obtain ⟨z3,rfl,rfl,rfl,hz3⟩:=open_int Try.underlying53 (hval 3 53 v3 rfl rfl) h3
 obtain ⟨a3,rfl,g3⟩:=u16_wf hz3
 exact calls_law laidOut (by rw [Try.params7];kernel_rfl) rfl hW' rfl rfl rfl (by kernel_rfl) Try.underlying4 (top_FnGPeels a0 a1 a2 a3 W g1 g2 g3)
set_option maxRecDepth 100000 in
theorem l_FnGPeels (os:Os) (started:os.Started) (H:Type) (enc:TypeId × Value->H) :
  ReturnsInHanded {} Try.checked os 7 .any (Rows.fnGPeelsSpec.pre6 enc Try.prog Try.f7 Rows.fnGPeelsRow.domain false) (Rows.fnGPeelsSpec.post enc Try.prog Try.f7 false true false false):=by
 refine returnsInHanded_of_change (C:=Try.checked) own started (by kernel_rfl) Try.func7
  (ChangeSpec.witness6 (enc:=enc) (C:=Try.checked) false ⟨#[],#[.int .i64 0,.int .u16 0,.int .u16 0,.int .u16 0],[]⟩ 8 (by kernel_rfl) (by kernel_rfl) (by kernel_rfl) (by kernel_rfl)) ?_
 intro W base args ds gs before hval hW _ _
 exact c_FnGPeels H enc W base args ds gs before hval hW
theorem h_FnGPeels:Rows.FnGPeelsSaid :=
 OpenClaim.holds_of_wide 7 Try.f7 rfl rfl rfl rfl rfl rfl rfl ⟨rfl,rfl,rfl,rfl,rfl⟩ rfl rfl rfl rfl rfl (by kernel_rfl) Try.func7 (by kernel_rfl)
  (of_decide_eq_true (by kernel_rfl)) (by unfold Func.isWrapper;first | (rw [if_pos (by decide +kernel)];kernel_rfl) | (rw [if_neg (by decide +kernel)];exact ⟨rfl,rfl⟩))
  (fun os started H enc _=>l_FnGPeels os started H enc)
#print axioms h_FnGPeels
end Go.Proofs.Ytbnnkcofnmipoaa
