/- Texts in one. No condition. -/
import Derived.Test.YtbnnkcofnmipoaaZ08a13488
import Derived.Test.YtbnnkcofnmipoaaZdf74e7d2
import Derived.Test.YtbnnkcofnmipoaaZfd105b1b
set_option linter.unusedVariables false
set_option linter.unusedSimpArgs false
namespace Go.Proofs.Ytbnnkcofnmipoaa
open Go Go.Proofs
def inI (ord:List Int) (mi:Bool) (mn mx x:It):Bool:=!decide (rkI ord x<rkI ord mn) && !stopI ord mi mx x
variable {c:RgC} {w w':World} {xs:List It} {F:Nat->Nat->Prop} {q:List Qe} {kb:Option Nat} {sg:Qe->List It} {fp:Qe->Nat->Nat->Prop} {R:List It} {sb:Option Nat} {pv:It}
theorem RgC.all (ok:c.Ok):(c.Lx++c.R0).Pairwise fun a b=>c.κ a<c.κ b:=ok.asc.imp fun g=>ltO.1 g
theorem RgC.St.left (ok:c.Ok) (st:c.St w (c.DR R) xs F q kb sg fp R sb pv) (eq:xs=c.Lx++R) (hs:∀ x ∈ R,stopI c.ord c.mi c.mxi x=true):xs=(c.Lx++c.R0).filter (fun x=>decide (c.κ x<c.lo) || stopI c.ord c.mi c.mxi x):=by
 have ha:=RgC.all ok
 have hxs:xs.Sublist (c.Lx++c.R0):=by rw [eq];exact List.Sublist.append_left st.qs.sub _
 refine sorted_eq (κ:=c.κ) (ha.sublist hxs) (ha.sublist List.filter_sublist) fun x=>?_
 rw [eq,List.mem_append,List.mem_filter,List.mem_append,Bool.or_eq_true,decide_eq_true_eq]
 constructor
 ·rintro (h | h)
  ·exact ⟨.inl h,.inl (ok.low x h)⟩
  ·exact ⟨.inr (st.qs.sub.subset h),.inr (hs x h)⟩
 ·rintro ⟨h | h,g⟩
  ·exact .inl h
  ·rcases st.qs.gone x h with k | k
   ·exact .inr k
   ·rcases g with g | g
    ·have:=ok.high x h;omega
    ·rw [k] at g;cases g
theorem RgC.St.goneL (ok:c.Ok) (st:c.St w (c.DR R) xs F q kb sg fp R sb pv) (hs:∀ x ∈ R,stopI c.ord c.mi c.mxi x=true) (hex:c.ex=true) {ps:List Qe} (hp:ps.Perm q) (hps:ps.Pairwise (leE c.ord)):runQ Prod.fst sg ps=c.R0.filter (fun x=>!stopI c.ord c.mi c.mxi x):=by
 have ha:=(List.pairwise_append.1 (RgC.all ok)).2.1
 obtain ⟨h1,h2⟩:=st.qs.lq.run hp (hps.imp fun g=>leE_asc.1 g)
 refine sorted_eq (κ:=c.κ) h1 (ha.sublist List.filter_sublist) fun x=>?_
 rw [h2,st.qs.full hex x,List.mem_filter,Bool.not_eq_true']
 constructor
 ·rintro ⟨g1,g2⟩
  exact ⟨g1,(st.qs.gone x g1).resolve_left g2⟩
 ·rintro ⟨g1,g2⟩
  exact ⟨g1,fun g=>by rw [hs x g] at g2;cases g2⟩
structure LbAt (m:Nat) (F:Nat->Nat->Prop) (lb:Nat) (w:World) (a:Option Addr) (n c0:Nat):Prop where
 wk:wok w lb 4
 hq:rd w lb 3=some (.slice a n c0)
 ha:okA a n c0
 hn:n<=c0
 ml:m<lb
 lF:∀ o,¬ F lb o
 kb:∀ bi oi,a=some ⟨bi,oi,none⟩->m<bi/\bi ≠ lb/\(∀ o,¬ F bi o)/\wok w bi (oi+c0*3)/\c0<9223372036854775808
theorem LbAt.ext {m:Nat} {F G:Nat->Nat->Prop} {lb:Nat} {a:Option Addr} {n c0:Nat} (h:LbAt m F lb w a n c0) (x:Ext G w w') (hG:∀ o,¬ G lb o):LbAt m F lb w' a n c0 :=
 ⟨x.wok h.wk,x.rd h.hq (hG _),h.ha,h.hn,h.ml,h.lF,fun bi oi e=>by obtain ⟨g1,g2,g3,g4,g5⟩:=h.kb bi oi e;exact ⟨g1,g2,g3,x.wok g4,g5⟩⟩
structure RgR (B m d:Nat) (iso:Int) (ord:List Int) (X:List It) (F0:Nat->Nat->Prop) (mn mxx:It) (ex mi:Bool) (lb:Nat) (a:Option Addr) (wz w0:World) (F':Nat->Nat->Prop) (a':Option Addr) (n' c':Nat) (lv:Value) (cnt:Int) (v:Value) (w':World):Prop where
 v:v = .agg #[lv,.int .i64 cnt,.int .i64 0,.slice a' (n':Nat) c']
 x:Ext (fun y _=>(∃ o,F0 y o)\/y=m\/y=lb\/blk a=some y) wz w'
 y:Ext (fun y _=>((∃ o,F0 y o)\/y=m\/y=lb\/blk a=some y)\/wz.heap.size<=y) w0 w'
 t:TreeAt B ord w' m d iso (X.filter fun x=>!inI ord mi mn mxx x) F'
 l:LbAt m F' lb w' a' n' c'
 F:∀ y o,F' y o->((∃ o,F0 y o)\/y=m\/y=lb\/blk a=some y)\/wz.heap.size<=y
 k:∀ y,blk a'=some y->((∃ o,F0 y o)\/y=m\/y=lb\/blk a=some y)\/wz.heap.size<=y
 fS:∀ y o,F' y o->¬ (wz.heap.size<=y/\y<w0.heap.size)
 kS:∀ y,blk a'=some y->¬ (wz.heap.size<=y/\y<w0.heap.size)/\y<w'.heap.size
 ea:ex=false->a'=none
 oc:oc [lv,.int .i64 cnt,.int .i64 0,.slice a' (n':Nat) c']
 s:∀ w2 xb,Ext (fun y _=>y=xb\/y=lb) w' w2->((wz.heap.size<=xb/\xb<w0.heap.size)\/w'.heap.size<=xb\/(m<xb/\xb<wz.heap.size/\(∀ o,¬ F0 xb o)/\xb ≠ lb/\blk a ≠ some xb))->Row w2 xb 0 [lv,.int .i64 cnt,.int .i64 0,.slice a' (n':Nat) c']->wok w2 xb 4 →
  CallK Try.prog 62 #[ptr xb] w2 fun v w3=>SlI w3 v (if ex then X.filter (inI ord mi mn mxx) else [])/\since w2.heap.size v/\Ext (fun y _=>y=xb\/blk a'=some y) w2 w3
theorem oc_list {lv:Value} (h:lv.oneCell'=true) (cnt:Int) (a:Option Addr) (n c:Nat):oc [lv,.int .i64 cnt,.int .i64 0,.slice a (n:Nat) c]:=fun v hv=>by
 simp at hv
 rcases hv with rfl | rfl | rfl | rfl
 ·exact h
 ·rfl
 ·rfl
 ·rfl
set_option maxHeartbeats 1600000 in
theorem range_res (B m d:Nat) (iso:Int) (ord:List Int) (hd:2<=d) (hd':d<=128) (X:List It) (F0:Nat->Nat->Prop) (wz w0:World) (xz:Ext noF wz w0) (hM:TreeAt B ord wz m d iso X F0) (hbig:X.length<=2147483647) (mn mxx:It) (ov:Option Nat) (nr mi0:Bool) (hov:∀ ob,ov=some ob->rd w0 ob 0=some (.bool nr)/\rd w0 ob 1=some (.bool mi0))
  (lb n c0:Nat) (a:Option Addr) (hl:LbAt m F0 lb wz a n c0) (ex mi:Bool) (hex:(ov.isNone || !nr)=ex) (hmi:(ov.isSome && mi0)=mi) (hexa:ex=false->a=none) :
  CallK Try.prog 60 #[ptr m,itV mn,itV mxx,oV ov,ptr lb] w0 fun v w'=>∃ F' a' n' c' lv cnt,RgR B m d iso ord X F0 mn mxx ex mi lb a wz w0 F' a' n' c' lv cnt v w':=by
 refine CallK_mono (range_any B m d iso ord hd hd' X F0 wz w0 xz hM hbig mn mxx ov nr mi0 hov lb n c0 a hl.wk hl.hq hl.ha hl.hn hl.ml hl.lF hl.kb (by rw [hex];exact hexa)) ?_
 rw [hex,hmi]
 rintro v w' ⟨c,⟨ok,eS0,eS1,S0,S1,b5,b7,b10,b12,b14,b15,hc⟩,xs,F,q,kb,sg,fp,R,sb,pv,lv,cnt,qs,st,eq,hs,row,rfl⟩
 have hasc:X.Pairwise fun a b=>rkI ord a<rkI ord b:=hM.asc.imp fun g=>ltO.1 g
 have hX:c.Lx++c.R0=X:=by rw [hc];exact filter_split (κ:=rkI ord) (lo:=rkI ord mn) hasc
 have hR0:c.R0=X.filter (fun x=>!decide (rkI ord x<rkI ord mn)):=by rw [hc];rfl
 have eB:c.B=B:=by rw [hc];rfl
 have em:c.m=m:=by rw [hc];rfl
 have ed:c.d=d:=by rw [hc];rfl
 have ei:c.iso=iso:=by rw [hc];rfl
 have eo:c.ord=ord:=by rw [hc];rfl
 have el:c.lb=lb:=by rw [hc];rfl
 have emi:c.mi=mi:=by rw [hc];rfl
 have eex:c.ex=ex:=by rw [hc];rfl
 have emx:c.mxi=mxx:=by rw [hc];rfl
 have elo:c.lo=rkI ord mn:=by rw [hc];rfl
 have ew:c.w0=w0:=by rw [hc];rfl
 have eG:c.G0=fun y _=>((∃ o,F0 y o)\/y=m\/y=lb\/blk a=some y)\/wz.heap.size<=y:=by rw [hc];rfl
 have hleft:=st.left ok eq hs
 rw [hX,eo,emi,emx,elo] at hleft
 have hfun:(fun x=>decide (rkI ord x<rkI ord mn) || stopI ord mi mxx x)=fun x=>!inI ord mi mn mxx x:=by
  funext x;unfold inI;simp
 rw [show (fun x=>decide (c.κ x<rkI ord mn) || stopI ord mi mxx x)=fun x=>decide (rkI ord x<rkI ord mn) || stopI ord mi mxx x from by funext x;rw [show c.κ x=rkI ord x from by show rkI c.ord x=_;rw [eo]],hfun] at hleft
 have hin:c.R0.filter (fun x=>!stopI c.ord c.mi c.mxi x)=X.filter (inI ord mi mn mxx):=by
  rw [hR0,eo,emi,emx,List.filter_filter]
  congr 1
  funext x;unfold inI;exact Bool.and_comm _ _
 have htr:=TreeAtP.t st.tr
 rw [eB,eo,em,ed,ei,hleft] at htr
 have hby:=st.base
 rw [ew,eG] at hby
 have hzw:=xz.size
 have hbase:Ext (fun y _=>(∃ o,F0 y o)\/y=m\/y=lb\/blk a=some y) wz w':=xz.trans hby (fun _ _ g=>g.elim) fun y o hy g=>g.resolve_right (by omega)
 rw [el] at row
 have r0:=(Row.cons.1 row).1
 have r3:=(Row.cons.1 (Row.cons.1 (Row.cons.1 (Row.cons.1 row).2).2).2).1
 have hwk:=st.qs.wk
 rw [el] at hwk
 have hml:m<lb:=hl.ml
 have hlF:∀ o,¬ F lb o:=fun o g=>st.apF _ _ g (.inr (.inl el.symm))
 have hF:∀ y o,F y o->((∃ o,F0 y o)\/y=m\/y=lb\/blk a=some y)\/wz.heap.size<=y:=fun y o g=>by
  have:=st.old y o g
  rw [eG,ew] at this
  rcases this with (g | g) | g
  ·exact .inl g
  ·exact .inr g
  ·exact .inr (by omega)
 have hfS:∀ y o,F y o->¬ (wz.heap.size<=y/\y<w0.heap.size):=fun y o g k=>st.apF y o g (.inl ⟨by rw [eS0];exact k.1,Nat.lt_of_lt_of_le k.2 eS1⟩)
 rcases st.qs.li with ⟨hexc,cn,L⟩ | ⟨hexc,hq0,L⟩
 ·rw [eex] at hexc
  have hL:=L
  obtain ⟨⟨lv',l1,l2⟩,l3,l4,l5,l6,l7,l8⟩:=L
  rw [el] at l1 l3 l4 l5
  cases l1.symm.trans r0
  have hoc:lv.oneCell'=true:=by
   obtain ⟨c0,s0,rfl,_⟩:=l2.ex
   rfl
  cases kb with
  | none =>
   obtain ⟨q0,q3⟩:=l5
   rw [show (0+1+1+1:Nat)=3 from rfl] at r3
   cases q3.symm.trans r3
   refine ⟨F,none,0,0,lv,cnt,rfl,hbase,hby,htr,⟨hwk,q3,.inl ⟨rfl,rfl,rfl⟩,Nat.le_refl _,hml,hlF,fun bi oi e=>(by cases e)⟩,hF,fun y e=>(by cases e),hfS,fun y e=>(by cases e),fun _=>rfl,oc_list hoc _ _ _ _,fun w2 xb x2 hxb hr hw=>?_⟩
   have hg:=st.goneL ok hs (by rw [eex];exact hexc) (ps:=[]) (by rw [q0]) List.Pairwise.nil
   refine CallK_mono (scanned_none xb 0 0 none w2 (wok_lt hw) (Row.cons.1 (Row.cons.1 (Row.cons.1 (Row.cons.1 hr).2).2).2).1 (Row.cons.1 (Row.cons.1 (Row.cons.1 hr).2).2).1 (.inl ⟨rfl,rfl⟩)) ?_
   rintro _ w3 ⟨rfl,x3⟩
   rw [hexc,if_pos rfl,<-hin,<-hg]
   exact ⟨⟨rfl,.inl ⟨rfl,rfl⟩⟩,fun _ _ _ _ h=>(by cases h),x3.mono fun _ _ _ g=>g.elim⟩
  | some bi =>
   obtain ⟨oi,cap,S,hcap⟩:=l5
   rw [show (0+1+1+1:Nat)=3 from rfl] at r3
   cases S.hd.symm.trans r3
   obtain ⟨k1,k2,k3,k4,k5⟩:=st.kbs bi rfl
   rw [em] at k1;rw [el] at k3
   refine ⟨F,some ⟨bi,oi,none⟩,q.length,cap,lv,cnt,rfl,hbase,hby,htr,⟨hwk,S.hd,.inr ⟨bi,oi,rfl⟩,S.le,hml,hlF,fun bi' oi' e=>?_⟩,hF,fun y e=>?_,hfS,fun y e=>?_,fun h=>(by rw [hexc] at h;cases h),oc_list hoc _ _ _ _,fun w2 xb x2 hxb hr hw=>?_⟩
   ·cases e
    exact ⟨k1,k3,fun o g=>st.apF _ _ g (.inr (.inr (.inl rfl))),S.wi,hcap⟩
   ·cases e
    have:=st.kbo bi rfl
    rw [eG,ew] at this
    rcases this with g | g
    ·exact g 0
    ·exact .inr (Nat.le_trans hzw g)
   ·cases e
    exact ⟨fun k=>k2 ⟨by rw [eS0];exact k.1,Nat.lt_of_lt_of_le k.2 eS1⟩,k5⟩
   have hq4:rd w2 xb 3=some (.slice (some ⟨bi,oi,none⟩) q.length cap):=(Row.cons.1 (Row.cons.1 (Row.cons.1 (Row.cons.1 hr).2).2).2).1
   have hxbi:bi ≠ xb:=fun e=>by
    rcases hxb with g | g | ⟨g,gz,gF,gl,ga⟩
    ·exact k2 ⟨by rw [eS0];omega,by omega⟩
    ·omega
    ·have:=st.kbo bi rfl
     rw [eG,ew] at this
     rcases this with k | k
     ·rcases k 0 with (⟨o',k⟩ | k | k | k) | k
      ·exact gF o' (by rw [<-e];exact k)
      ·omega
      ·omega
      ·exact ga (by rw [<-e];exact k)
      ·omega
     ·omega
   have hxm:m<xb:=by
    have:=hM.mlt
    have:=hbase.size
    rcases hxb with g | g | g<;>omega
   have hxe:∀ e ∈ q,∀ o,¬ fp e xb o:=fun e he o g=>by
    obtain ⟨g1,g2,g3,g4,g5⟩:=st.apq e he xb o g
    rcases hxb with h | h | ⟨gm,gz,gF,gl,ga⟩
    ·exact g1 (.inl ⟨by rw [eS0];omega,by omega⟩)
    ·omega
    ·rw [eG,ew] at g5
     rcases g5 with ((⟨o',k⟩ | k | k | k) | k) | k
     ·exact gF o' k
     ·omega
     ·exact gl k
     ·exact ga k
     ·omega
     ·omega
   have S2:SE Eq' w2 xb 3 q bi oi cap:=⟨hq4,x2.row S.row fun i _ g=>g.elim hxbi k3,x2.wok S.wi,S.le,hw,hxbi⟩
   have hlen:=st.qs.num
   have hb:=ok.big
   rw [List.length_append] at hb
   have hml':=hM.mlt
   refine CallK_mono (scanned_some B m iso (d-1) (2*d-1) ord xb lv q sg fp bi oi cap w2 S2 hcap (Row.cons.1 hr).1 ?_ (Row.cons.1 (Row.cons.1 (Row.cons.1 hr).2).2).1 ?_ (Nat.le_of_lt k1) hw ?_ ?_ (fun e he=>?_) (fun e he y o g=>?_) (by omega)) ?_
   ·rw [eB,em,eo] at l2;exact l2.ext x2 fun y o g=>.inl (by rcases g with g | g<;>omega)
   ·omega
   ·have:=runQ_len (sg:=sg) (q:=q);omega
   ·rw [<-eo];exact st.qs.hp
   ·have:=st.qs.ent e he
    rw [ei,ed] at this
    exact this.ext x2 fun y o g k=>by
     rcases k with k | k
     ·exact hxe e he o (by rw [<-k];exact g)
     ·exact (st.apq e he y o g).1 (.inr (.inl (by rw [el];exact k)))
   ·obtain ⟨g1,g2,g3,g4,g5⟩:=st.apq e he y o g
    have:=x2.size
    exact ⟨fun e'=>hxe e he o (by rw [<-e'];exact g),fun e=>g1 (.inr (.inr (.inl (by rw [e])))),by omega⟩
   rintro v w3 ⟨ps,g1,g2,g3,g4,g5⟩
   have hg:=st.goneL ok hs (by rw [eex];exact hexc) g1 (by rw [eo];exact g2)
   rw [hexc,if_pos rfl,<-hin,<-hg]
   exact ⟨g3,g4,g5.mono fun y o _ g=>g.imp id fun e=>by rw [e];rfl⟩
 ·rw [eex] at hexc
  obtain ⟨l1,l2,l3,l4⟩:=L
  rw [el] at l1 l2 l3 l4
  rw [show (0+1+1+1:Nat)=3 from rfl] at r3
  cases l4.symm.trans r3
  have hoc:lv.oneCell'=true:=by
   cases l1.symm.trans r0
   rfl
  refine ⟨F,none,0,0,lv,cnt,rfl,hbase,hby,htr,⟨hwk,l4,.inl ⟨rfl,rfl,rfl⟩,Nat.le_refl _,hml,hlF,fun bi oi e=>(by cases e)⟩,hF,fun y e=>(by cases e),hfS,fun y e=>(by cases e),fun _=>rfl,oc_list hoc _ _ _ _,fun w2 xb x2 hxb hr hw=>?_⟩
  refine CallK_mono (scanned_none xb 0 0 none w2 (wok_lt hw) (Row.cons.1 (Row.cons.1 (Row.cons.1 (Row.cons.1 hr).2).2).2).1 (Row.cons.1 (Row.cons.1 (Row.cons.1 hr).2).2).1 (.inl ⟨rfl,rfl⟩)) ?_
  rintro _ w3 ⟨rfl,x3⟩
  rw [hexc,if_neg (by decide)]
  exact ⟨⟨rfl,.inl ⟨rfl,rfl⟩⟩,fun _ _ _ _ h=>(by cases h),x3.mono fun _ _ _ g=>g.elim⟩
end Go.Proofs.Ytbnnkcofnmipoaa
namespace Go.Proofs.Ytbnnkcofnmipoaa
open Go Go.Proofs
abbrev Hd:=Option Addr × Nat × Nat
def hdV (h:Hd):Value:=.slice h.1 (h.2.1:Nat) h.2.2
def Ehd:Enc Hd where
 cel h:=[hdV h]
 sz:=1
 len _:=rfl
 one x v hv:=by simp at hv;subst hv;rfl
 pos:=by decide
theorem hdV_of {w:World} {v:Value} {l:List It} (h:SlI w v l):∃ x:Hd,v=hdV x:=by
 obtain ⟨a,c,h⟩:=SlV.shape h
 exact ⟨(a,l.length,c),h⟩
theorem hdV_at {w:World} {b o:Nat} {l:List Hd} (h:Row w b o (flat Ehd l)) {i:Nat} {x:Hd} (hi:l[i]? = some x):rd w b (o+i)=some (hdV x):=by
 have:=row_cell (row_at Ehd h hi) (j:=0) rfl
 rwa [show Ehd.sz=1 from rfl,Nat.mul_one] at this
def inK (K:Nat->Prop) (v:Value):Prop:=∀ b o n c,v = .slice (some ⟨b,o,none⟩) n c->K b
theorem SlV.extK {w w':World} {G:Nat->Nat->Prop} {sz n:Nat} {v:Value} {l:List Value} {K:Nat->Prop} (h:SlV w sz v n l) (hk:inK K v) (x:Ext G w w') (hG:∀ y o,K y->¬ G y o):SlV w' sz v n l :=
 h.ext x fun b o c hv i _ g=>hG b _ (hk _ _ _ _ hv) g
structure LL (K:Nat->Prop) (w:World) (v:Value) (hs:List Hd) (ls:List (List It)):Prop where
 len:hs.length=ls.length
 sl:SlV w 1 v hs.length (flat Ehd hs)
 vk:inK K v
 el:∀ (i:Nat) (h:Hd) (l:List It),hs[i]? = some h->ls[i]? = some l->SlI w (hdV h) l/\inK K (hdV h)/\apart2 v (hdV h)
theorem LL.ext {K:Nat->Prop} {w w':World} {v:Value} {hs:List Hd} {ls:List (List It)} {G:Nat->Nat->Prop} (h:LL K w v hs ls) (x:Ext G w w') (hG:∀ y o,K y->¬ G y o):LL K w' v hs ls :=
 ⟨h.len,h.sl.extK h.vk x hG,h.vk,fun i a l h1 h2=>by obtain ⟨g1,g2,g3⟩:=h.el i a l h1 h2;exact ⟨SlV.extK g1 g2 x hG,g2,g3⟩⟩
theorem LL.nil (K:Nat->Prop) (w:World):LL K w (.slice none 0 0) [] []:=⟨rfl,⟨by simp [flat],.inl ⟨rfl,rfl⟩⟩,fun b o n c h=>(by cases h),fun i h l h1=>(by simp at h1)⟩
theorem LL.mono {K K':Nat->Prop} {w:World} {v:Value} {hs:List Hd} {ls:List (List It)} (h:LL K w v hs ls) (hK:∀ y,K y->K' y):LL K' w v hs ls :=
 ⟨h.len,h.sl,fun b o n c e=>hK _ (h.vk b o n c e),fun i a l h1 h2=>by obtain ⟨g1,g2,g3⟩:=h.el i a l h1 h2;exact ⟨g1,fun b o n c e=>hK _ (g2 b o n c e),g3⟩⟩
theorem LL.push {K:Nat->Prop} {w w':World} {v v':Value} {hs:List Hd} {ls:List (List It)} {h0:Hd} {l0:List It} (h:LL K w v hs ls) (h1:SlI w (hdV h0) l0) (hk:inK K (hdV h0)) (hap:apart2 v (hdV h0)) (a:AppRes w 1 v hs.length 1 (flat Ehd hs) [hdV h0] v' w') :
  LL (fun y=>K y\/(y=w.heap.size/\y<w'.heap.size)) w' v' (hs++[h0]) (ls++[l0])/\Ext (fun y _=>K y) w w':=by
 have X:Ext (fun y _=>K y) w w':=(app_own a).mono fun y o _ ⟨o',n,c,g⟩=>h.vk _ _ _ _ g
 refine ⟨⟨by simp [h.len],?_,fun b o n c e=>?_,fun i x l g1 g2=>?_⟩,X⟩
 ·rw [List.length_append,List.length_singleton,flat_append,flat_one]
  exact a.1
 ·rcases a.2 with ⟨rfl,rfl,e0⟩ | ⟨b0,o0,cap,e0,e1,_⟩ | ⟨cap,e1,_,e2,_⟩
  ·rw [e0] at e;cases e
  ·rw [e1] at e;cases e;exact .inl (h.vk _ _ _ _ e0)
  ·rw [e1] at e;cases e;exact .inr ⟨rfl,by omega⟩
 ·have hl:=h.len
  by_cases hi:i<hs.length
  ·rw [List.getElem?_append_left hi] at g1
   rw [List.getElem?_append_left (by omega)] at g2
   obtain ⟨k1,k2,k3⟩:=h.el i x l g1 g2
   obtain ⟨k4,k5⟩:=app_other a k1 k3
   exact ⟨k4,fun b o n c e=>.inl (k2 b o n c e),k5⟩
  ·have hi':i<(hs++[h0]).length:=(List.getElem?_eq_some_iff.1 g1).1
   rw [List.length_append,List.length_singleton] at hi'
   obtain rfl:i=hs.length:=by omega
   rw [List.getElem?_append_right (Nat.le_refl _),Nat.sub_self] at g1
   rw [List.getElem?_append_right (by omega),hl,Nat.sub_self] at g2
   cases g1;cases g2
   obtain ⟨k4,k5⟩:=app_other a h1 hap
   exact ⟨k4,fun b o n c e=>.inl (hk b o n c e),k5⟩
set_option maxRecDepth 8000 in
theorem same1_any (l:List It) (v1 v2:Value) (w:World) (h1:SlI w v1 l) (h2:SlI w v2 l) (hbig:l.length<=4294967296) :
  CallK Try.prog 103 #[v1,v2] w fun v w'=>v = .bool true/\Ext noF w w':=by
 refine calls_of_W [.tmp 4] Try.func103 rfl Try.ntmps103 Try.results103 (by simp) fun e he=>?_
 have e0:e 0=v1:=he 0 _ rfl
 have e1:e 1=v2:=he 1 _ rfl
 clear he
 refine W_sq fun K hK=>(W_text [true] (by kernel_rfl) ?_);simp only [↓zZ1,↓reduceIte,Nat.reduceEqDiff,rg,ow_103]
 apply hK;clear hK K
 refine W_sq fun K hK=>(W_text [true,true,false,true] (by kernel_rfl) ?_);simp only [↓zZ1,↓reduceIte,Nat.reduceEqDiff,rg,ow_103,e0,e1]
 refine do_call fn_30 (by simp only [zZ2,Nat.reduceEqDiff,↓reduceIte,zZ4]<;>rfl) (eq_i l v1 v2 w h1 h2 hbig) ?_
 rintro _ w1 ⟨rfl,r1⟩
 refine ⟨trivial,?_⟩
 simp only [↓zZ1,↓reduceIte,Nat.reduceEqDiff,rg,ow_103]
 apply hK;clear hK K
 exact W_ret (endQ_1 (by simp only [upd_eq,Nat.reduceEqDiff,↓reduceIte]<;>rfl) ⟨rfl,r1.ext⟩)
theorem fn_same1:isFn Try.prog 103=true:=by kernel_rfl
set_option maxHeartbeats 800000 in
set_option maxRecDepth 8000 in
theorem eqF_any (K1 K2:Nat->Prop) (ls:List (List It)) (hs1 hs2:List Hd) (v1 v2:Value) (w:World) (h1:LL K1 w v1 hs1 ls) (h2:LL K2 w v2 hs2 ls) (hbig:ls.length<=4294967296) (hb:∀ l ∈ ls,l.length<=4294967296) :
  CallK Try.prog 102 #[v1,v2,.func (.func 103) #[] #[]] w fun v w'=>v = .bool true/\Ext noF w w':=by
 obtain ⟨a1,c1,hv1⟩:=h1.sl.shape
 obtain ⟨a2,c2,hv2⟩:=h2.sl.shape
 have l1:=h1.len
 have l2:=h2.len
 rw [l1] at hv1
 rw [l2] at hv2
 refine calls_of_W [.tmp 6] Try.func102 rfl Try.ntmps102 Try.results102 (by simp) fun e he=>?_
 have e0:e 0 = .slice a1 ls.length c1:=by rw [<-hv1];exact he 0 _ rfl
 have e1:e 1 = .slice a2 ls.length c2:=by rw [<-hv2];exact he 1 _ rfl
 have e2:e 2 = .func (.func 103) #[] #[]:=he 2 _ rfl
 clear he
 refine W_sq fun K hK=>(W_text [true] (by kernel_rfl) ?_);simp only [↓zZ1,↓reduceIte,Nat.reduceEqDiff,rg,ow_102]
 apply hK;clear hK K
 have t0:((ls.length:Int) != (ls.length:Int))=false:=by simp
 refine W_seq ?_
 refine W_sq fun K hK=>(W_text [true,true,true,true,true] (by kernel_rfl) ?_);simp only [↓zZ1,↓reduceIte,Nat.reduceEqDiff,rg,ow_102,e0,e1,t0]
 apply hK;clear hK K
 refine W_false (by simp only [zZ2,Nat.reduceEqDiff,↓reduceIte,zZ3]<;>rfl) (W_skip ?_)
 show W _ _ _ _ _ _
 refine W_seq (W_seq ?_)
 refine W_rg fun K hK=>(W_text [true,true,true] (by kernel_rfl) ?_);simp only [↓zZ1,↓reduceIte,Nat.reduceEqDiff,rg,ow_102,e0]
 apply hK;clear hK K
 show W _ _ _ _ _ _
 refine W_block (W_loop (fun mm e w'=>∃ i:Nat,mm=ls.length-i/\i<=ls.length/\Ext noF w w'/\e 0 = .slice a1 ls.length c1/\e 1 = .slice a2 ls.length c2/\e 2 = .func (.func 103) #[] #[]/\e 15 = .slice a1 ls.length c1/\e 16 = .int .i64 ls.length/\e 17 = .int .i64 i)
  ls.length ⟨0,by simp,by simp,Ext.refl _ _,by simp only [upd_eq,Nat.reduceEqDiff,↓reduceIte];exact e0,by simp only [upd_eq,Nat.reduceEqDiff,↓reduceIte];exact e1,by simp only [upd_eq,Nat.reduceEqDiff,↓reduceIte];exact e2,(by first | (simp only [upd_eq,Nat.reduceEqDiff,↓reduceIte];done) | (simp only [upd_eq,Nat.reduceEqDiff,↓reduceIte];first | rfl | exact e0)),(by first | (simp only [upd_eq,Nat.reduceEqDiff,↓reduceIte];done) | (simp only [upd_eq,Nat.reduceEqDiff,↓reduceIte];rfl)),(by first | (simp only [upd_eq,Nat.reduceEqDiff,↓reduceIte];done) | (simp only [upd_eq,Nat.reduceEqDiff,↓reduceIte];rfl))⟩ ?_)
 clear e0 e1 e2 e
 rintro mm e w' ⟨i,rfl,hi,X,e0,e1,e2,e15,e16,e17⟩
 by_cases hlt:i<ls.length
 ·have ht:=lt_tt i ls.length hlt
  refine W_sq fun K hK=>(W_text [true] (by kernel_rfl) ?_);simp only [↓zZ1,↓reduceIte,Nat.reduceEqDiff,rg,ow_102,e16,e17,ht]
  apply hK;clear hK K
  refine W_seq (W_true (by simp only [zZ2,Nat.reduceEqDiff,↓reduceIte,zZ3]<;>rfl) (W_skip ?_))
  show W _ _ _ _ _ _
  obtain ⟨l,hl⟩:∃ x,ls[i]? = some x:=⟨_,List.getElem?_eq_getElem hlt⟩
  obtain ⟨x1,hx1⟩:∃ x,hs1[i]? = some x:=⟨_,List.getElem?_eq_getElem (by omega)⟩
  obtain ⟨x2,hx2⟩:∃ x,hs2[i]? = some x:=⟨_,List.getElem?_eq_getElem (by omega)⟩
  obtain ⟨b1,o1,g1,r1⟩:=h1.sl.at (hv1.trans (by rw [l1])) (by omega:i<hs1.length)
  obtain ⟨b2,o2,g2,r2⟩:=h2.sl.at (hv2.trans (by rw [l2])) (by omega:i<hs2.length)
  subst g1 g2
  have y1:=hdV_at (X.row r1 fun _ _ h=>h) hx1
  have y2:=hdV_at (X.row r2 fun _ _ h=>h) hx2
  obtain ⟨k1,_⟩:=h1.el i x1 l hx1 hl
  obtain ⟨k2,_⟩:=h2.el i x2 l hx2 hl
  refine W_seq (W_block ?_)
  refine W_sq fun K hK=>(W_text [true,true,true,true,true] (by kernel_rfl) ?_);simp only [↓zZ1,↓reduceIte,Nat.reduceEqDiff,rg,ow_102,e15,e17,hlt,y1]
  apply hK;clear hK K
  refine W_sq fun K hK=>(W_text [true,true,true,true,true] (by kernel_rfl) ?_);simp only [↓zZ1,↓reduceIte,Nat.reduceEqDiff,rg,ow_102,e1,e17,hlt,y2]
  apply hK;clear hK K
  refine W_sq fun K hK=>(W_text [true,true,true,false,true] (by kernel_rfl) ?_);simp only [↓zZ1,↓reduceIte,Nat.reduceEqDiff,rg,ow_102,e2]
  refine do_callv rfl fn_same1 rfl (by simp only [evt,upd_eq,Nat.reduceEqDiff,↓reduceIte,maT,maC,maN];exact same1_any l (hdV x1) (hdV x2) w' (SlV.ext0 k1 X) (SlV.ext0 k2 X) (hb l (List.mem_of_getElem? hl))) ?_
  rintro _ w2 ⟨rfl,X2⟩
  refine ⟨trivial,?_⟩
  simp only [↓zZ1,↓reduceIte,Nat.reduceEqDiff,rg,ow_102]
  apply hK;clear hK K
  refine W_false (by simp only [zZ2,Nat.reduceEqDiff,↓reduceIte,zZ3]<;>rfl) (W_skip ?_)
  show W _ _ _ _ _ _
  have q1:=wadd1 i (by omega)
  refine W_rg fun K hK=>(W_text [true,true] (by kernel_rfl) ?_);simp only [↓zZ1,↓reduceIte,Nat.reduceEqDiff,rg,ow_102,e17,q1]
  apply hK;clear hK K
  refine ⟨_,?_,i+1,rfl,hlt,X.tr X2,by simp only [upd_eq,Nat.reduceEqDiff,↓reduceIte];exact e0,by simp only [upd_eq,Nat.reduceEqDiff,↓reduceIte];exact e1,by simp only [upd_eq,Nat.reduceEqDiff,↓reduceIte];exact e2,by simp only [upd_eq,Nat.reduceEqDiff,↓reduceIte];exact e15,by simp only [upd_eq,Nat.reduceEqDiff,↓reduceIte];exact e16,by simp only [upd_eq,Nat.reduceEqDiff,↓reduceIte]⟩
  omega
 ·obtain rfl:i=ls.length:=by omega
  have ht:=lt_ff ls.length ls.length (by omega)
  refine W_sq fun K hK=>(W_text [true] (by kernel_rfl) ?_);simp only [↓zZ1,↓reduceIte,Nat.reduceEqDiff,rg,ow_102,e16,e17,ht]
  apply hK;clear hK K
  refine W_seq (W_false (by simp only [zZ2,Nat.reduceEqDiff,↓reduceIte,zZ3]<;>rfl) (W_exit ?_))
  simp only [andThen_exit,inBlk_exit,andThen_normal,↓reduceIte]
  refine W_sq fun K hK=>(W_text [true] (by kernel_rfl) ?_);simp only [↓zZ1,↓reduceIte,Nat.reduceEqDiff,rg,ow_102]
  apply hK;clear hK K
  exact W_ret (endQ_1 (by simp only [upd_eq,Nat.reduceEqDiff,↓reduceIte]<;>rfl) ⟨rfl,X⟩)
set_option maxRecDepth 8000 in
theorem same_any (K1 K2:Nat->Prop) (ls:List (List It)) (hs1 hs2:List Hd) (v1 v2:Value) (w:World) (h1:LL K1 w v1 hs1 ls) (h2:LL K2 w v2 hs2 ls) (hbig:ls.length<=4294967296) (hb:∀ l ∈ ls,l.length<=4294967296) :
  CallK Try.prog 64 #[v1,v2] w fun v w'=>v = .bool true/\Ext noF w w':=by
 refine calls_of_W [.tmp 4] Try.func64 rfl Try.ntmps64 Try.results64 (by simp) fun e he=>?_
 have e0:e 0=v1:=he 0 _ rfl
 have e1:e 1=v2:=he 1 _ rfl
 clear he
 refine W_sq fun K hK=>(W_text [true] (by kernel_rfl) ?_);simp only [↓zZ1,↓reduceIte,Nat.reduceEqDiff,rg,ow_64]
 apply hK;clear hK K
 refine W_sq fun K hK=>(W_text [true,true,false,true] (by kernel_rfl) ?_);simp only [↓zZ1,↓reduceIte,Nat.reduceEqDiff,rg,ow_64,e0,e1]
 refine do_call fn_102 (vs:=#[v1,v2,.func (.func 103) #[] #[]]) (by simp only [zZ2,Nat.reduceEqDiff,↓reduceIte,zZ4]<;>rfl) (eqF_any K1 K2 ls hs1 hs2 v1 v2 w h1 h2 hbig hb) ?_
 rintro _ w1 ⟨rfl,r1⟩
 refine ⟨trivial,?_⟩
 simp only [↓zZ1,↓reduceIte,Nat.reduceEqDiff,rg,ow_64]
 apply hK;clear hK K
 exact W_ret (endQ_1 (by simp only [upd_eq,Nat.reduceEqDiff,↓reduceIte]<;>rfl) ⟨rfl,r1⟩)
theorem take_snoc {α:Type} {l:List α} {i:Nat} {x:α} (h:l[i]? = some x):l.take (i+1)=l.take i++[x]:=by rw [List.take_add_one,h];rfl
set_option maxHeartbeats 1000000 in
set_option maxRecDepth 8000 in
theorem nodeItems_any (m B:Nat) (iso:Int) (mn mx:Nat) (hmB:m<B) (mu:Bool) :
  ∀ (h b lo pc po:Nat) (xs:List It) (F:Nat->Nat->Prop) (iv:Value) (K:List It) (w:World),Tr E iso mn mx h w lo b xs F->rd w m 0=some (.int .u64 iso)->rd w pc po=some (ptr b)->(∀ y o,F y o->y<B) →
   OutE E B iv K w->K.length+xs.length<=4294967295->B<=w.heap.size->pc<B →
  CallK Try.prog 118 #[ptr m,.pointer (some ⟨pc,po,none⟩),iv,.bool mu] w fun v w'=>OutE E B v (K++xs) w'/\Ext (fun y _=>B<=y) w w':=by
 intro h
 induction h with
 | zero =>
  intro b lo pc po xs F iv K w ht h0 hp hG hS hb1 hB hpc
  obtain ⟨bi,oi,cap,ho,h1,h2,hF⟩:=ht
  have hGo:∀ y o,ownF E b bi oi cap y o->y<B:=fun y o g=>hG y o ((hF y o).2 g)
  obtain ⟨ia,ic,hiv⟩:=hS.sl.shape
  refine calls_of_W [.tmp 8] Try.func118 rfl Try.ntmps118 Try.results118 (by simp) fun e he=>?_
  have e0:e 0=ptr m:=he 0 _ rfl
  have e1:e 1 = .pointer (some ⟨pc,po,none⟩):=he 1 _ rfl
  have e2:e 2=iv:=he 2 _ rfl
  have e3:e 3 = .bool mu:=he 3 _ rfl
  clear he
  refine W_sq fun K hK=>(W_text [true] (by kernel_rfl) ?_);simp only [↓zZ1,↓reduceIte,Nat.reduceEqDiff,rg,ow_118]
  apply hK;clear hK K
  refine W_sq fun K hK=>(W_text [true,true,true,false,true] (by kernel_rfl) ?_);simp only [↓zZ1,↓reduceIte,Nat.reduceEqDiff,rg,ow_118,e0,e1,e3]
  refine do_call fn_96 (by simp only [zZ2,Nat.reduceEqDiff,↓reduceIte,zZ4]<;>rfl) (isoLoad_any m pc po b mu iso w h0 hp ho.h0) ?_
  rintro _ w1 ⟨rfl,r1⟩
  refine ⟨trivial,?_⟩
  simp only [↓zZ1,↓reduceIte,Nat.reduceEqDiff,rg,ow_118]
  apply hK;clear hK K
  have x1:Ext noF w w1:=r1.ext
  have o1:=ho.ext x1 fun _ _ _ h=>h
  have S1:=hS.ext x1
  have s1:=x1.size
  refine W_seq ?_
  refine W_sq fun K hK=>(W_text [true,false] (by kernel_rfl) ?_);simp only [↓zZ1,↓reduceIte,Nat.reduceEqDiff,rg,ow_118]
  refine do_call fn_108 (by simp only [zZ2,Nat.reduceEqDiff,↓reduceIte,zZ4]<;>rfl) (leaf_any b none w1 o1.h3) ?_
  rintro _ w1' ⟨rfl,hw1⟩
  obtain rfl:w1=w1':=hw1.symm
  refine ⟨trivial,?_⟩
  simp only [↓zZ1,↓reduceIte,Nat.reduceEqDiff,rg,ow_118]
  apply hK;clear hK K
  refine W_true (by simp only [zZ2,Nat.reduceEqDiff,↓reduceIte,zZ3]<;>rfl) ?_
  have hb2:=o1.h2
  refine W_sq fun K hK=>(W_text [true,true,true,true,true,false,true] (by kernel_rfl) ?_);simp only [↓zZ1,↓reduceIte,Nat.reduceEqDiff,rg,ow_118,e2,ptr_eq,hb2]
  have hsl:SlV w1 2 (.slice (some ⟨bi,oi,none⟩) xs.length cap) xs.length (flat E xs):=⟨by rw [flat_length];rfl,.inr ⟨bi,oi,cap,rfl,ho.le,o1.row,o1.wi.R (Nat.le_refl _)⟩⟩
  refine do_append (by simp only [zZ2,Nat.reduceEqDiff,↓reduceIte,zZ3]<;>rfl) (by simp only [zZ2,Nat.reduceEqDiff,↓reduceIte,zZ3]<;>rfl) el_it rfl ni_25 S1.sl hsl (by omega) (by decide) (flat_oc E _) fun v2 w2 a2=>⟨trivial,?_⟩
  simp only [↓zZ1,↓reduceIte,Nat.reduceEqDiff,rg,ow_118]
  apply hK;clear hK K
  obtain ⟨q1,q2,q3⟩:=app_since a2 S1.si (by omega)
  refine W_ret ?_
  simp only [andThen_ret]
  refine endQ_1 (by simp only [upd_eq,Nat.reduceEqDiff,↓reduceIte]<;>rfl) ⟨⟨?_,q2⟩,(x1.mono fun _ _ _ h=>h.elim).tr q3⟩
  rw [List.length_append,flat_append]
  exact q1
 | succ h ih =>
  intro b lo pc po xs F iv K w ht h0 hp hG hS hb1 hB hpc
  obtain ⟨bi,oi,cap,bc,ba,oa,capc,ks,cs,ho,hk,h1,h2,hcs,rfl,hT,hA,hF⟩:=ht
  have hGo:∀ y o,ownF E b bi oi cap y o->y<B:=fun y o g=>hG y o ((hF y o).2 (.inl g))
  have hGk:∀ y o,kidF bc ba oa capc y o->y<B:=fun y o g=>hG y o ((hF y o).2 (.inr (.inl g)))
  have hGc:∀ c ∈ cs,∀ y o,c.F y o->y<B:=fun c hc y o g=>hG y o ((hF y o).2 (.inr (.inr ⟨c,hc,g⟩)))
  have hbaB:cs ≠ []->ba<B:=fun hne=>hGk ba oa (.inr ⟨rfl,Nat.le_refl _,by have:=hk.le;rw [List.length_map] at this;have:=List.length_pos_iff.2 hne;omega⟩)
  have hwl:=weave_length (cs.map Kid.xs) ks (by simpa using hcs)
  refine calls_of_W [.tmp 8] Try.func118 rfl Try.ntmps118 Try.results118 (by simp) fun e he=>?_
  have e0:e 0=ptr m:=he 0 _ rfl
  have e1:e 1 = .pointer (some ⟨pc,po,none⟩):=he 1 _ rfl
  have e2:e 2=iv:=he 2 _ rfl
  have e3:e 3 = .bool mu:=he 3 _ rfl
  clear he
  refine W_sq fun K hK=>(W_text [true] (by kernel_rfl) ?_);simp only [↓zZ1,↓reduceIte,Nat.reduceEqDiff,rg,ow_118]
  apply hK;clear hK K
  refine W_sq fun K hK=>(W_text [true,true,true,false,true] (by kernel_rfl) ?_);simp only [↓zZ1,↓reduceIte,Nat.reduceEqDiff,rg,ow_118,e0,e1,e3]
  refine do_call fn_96 (by simp only [zZ2,Nat.reduceEqDiff,↓reduceIte,zZ4]<;>rfl) (isoLoad_any m pc po b mu iso w h0 hp ho.h0) ?_
  rintro _ w1 ⟨rfl,r1⟩
  refine ⟨trivial,?_⟩
  simp only [↓zZ1,↓reduceIte,Nat.reduceEqDiff,rg,ow_118]
  apply hK;clear hK K
  have x1:Ext noF w w1:=r1.ext
  have o1:=ho.ext x1 fun _ _ _ h=>h
  have S1:=hS.ext x1
  refine W_seq ?_
  refine W_sq fun K hK=>(W_text [true,false] (by kernel_rfl) ?_);simp only [↓zZ1,↓reduceIte,Nat.reduceEqDiff,rg,ow_118]
  refine do_call fn_108 (by simp only [zZ2,Nat.reduceEqDiff,↓reduceIte,zZ4]<;>rfl) (leaf_any b (some ⟨bc,0,none⟩) w1 o1.h3) ?_
  rintro _ w1' ⟨rfl,hw1⟩
  obtain rfl:w1=w1':=hw1.symm
  refine ⟨trivial,?_⟩
  simp only [↓zZ1,↓reduceIte,Nat.reduceEqDiff,rg,ow_118]
  apply hK;clear hK K
  refine W_false (by simp only [zZ2,Nat.reduceEqDiff,↓reduceIte,zZ3]<;>rfl) (W_skip ?_)
  show W _ _ _ _ _ _
  refine W_seq (W_seq ?_)
  refine W_rg fun K hK=>(W_text [true] (by kernel_rfl) ?_);simp only [↓zZ1,↓reduceIte,Nat.reduceEqDiff,rg,ow_118]
  apply hK;clear hK K
  refine W_block (W_loop (fun mm e w'=>∃ (i:Nat) (K':List It),mm=ks.length-i/\i<=ks.length/\K++weave (cs.map Kid.xs) ks=K'++weave ((cs.map Kid.xs).drop i) (ks.drop i) ∧
    OutE E B (e 2) K' w'/\Ext (fun y _=>B<=y) w w'/\e 0=ptr m/\e 3 = .bool mu/\e 9=ptr b/\e 10 = .int .i64 i)
   ks.length ⟨0,K,by simp,by simp,by simp,?_,x1.mono fun _ _ _ h=>h.elim,?_,?_,?_,?_⟩ ?_)
  ·simp only [upd_eq,Nat.reduceEqDiff,↓reduceIte];rw [e2];exact S1
  ·simp only [upd_eq,Nat.reduceEqDiff,↓reduceIte];exact e0
  ·simp only [upd_eq,Nat.reduceEqDiff,↓reduceIte];exact e3
  ·simp only [upd_eq,Nat.reduceEqDiff,↓reduceIte]
  ·simp only [upd_eq,Nat.reduceEqDiff,↓reduceIte];rfl
  ·clear e0 e1 e2 e3 e S1 o1
   rintro mm e w' ⟨i,K',rfl,hi,hKe,hkv,X,e0,e3,e9,e10⟩
   have hKl:=congrArg List.length hKe
   simp only [List.length_append] at hKl
   have o':=ho.ext X fun y o g=>by have:=hGo y o g;omega
   have k':=hk.ext X fun y o g=>by have:=hGk y o g;omega
   have hb2:=o'.h2
   have hb3:=o'.h3
   have hc0:=k'.c0
   have sX:=X.size
   have h0':=X.rd h0 (by omega)
   have hci:∀ i,i<cs.length->∃ c,cs[i]? = some c/\rd w' ba (oa+i)=some (ptr c.b):=fun i hi=>by
    refine ⟨cs[i],List.getElem?_eq_getElem hi,k'.row i _ ?_⟩
    rw [List.getElem?_map,List.getElem?_map,List.getElem?_eq_getElem hi];rfl
   rw [List.length_map] at hc0
   have hba:=hbaB (by intro h;rw [h] at hcs;simp at hcs)
   refine W_seq ?_
   by_cases hlt:i<ks.length
   ·have ht:=lt_tt i ks.length hlt
    refine W_sq fun K hK=>(W_text [true,true,true,true,true,true,true] (by kernel_rfl) ?_);simp only [↓zZ1,↓reduceIte,Nat.reduceEqDiff,rg,ow_118,e9,e10,ptr_eq,hb2,ht]
    apply hK;clear hK K
    refine W_true (by simp only [zZ2,Nat.reduceEqDiff,↓reduceIte,zZ3]<;>rfl) (W_skip ?_)
    show W _ _ _ _ _ _
    refine W_seq (W_block ?_)
    obtain ⟨c,hc,hcr⟩:=hci i (by omega)
    have hcm:c ∈ cs:=List.mem_of_getElem? hc
    obtain ⟨x,hx⟩:∃ x,ks[i]? = some x:=⟨_,List.getElem?_eq_getElem hlt⟩
    have hlc:i<cs.length:=by omega
    rw [weave_step (c:=c.xs) (by rw [List.getElem?_map,hc];rfl) hx] at hKe hKl
    simp only [List.length_append,List.length_cons] at hKl
    refine W_sq fun K hK=>(W_text [true,true,true,true,true,true,true,true,true,true,true,false,true] (by kernel_rfl) ?_);simp only [↓zZ1,↓reduceIte,Nat.reduceEqDiff,rg,ow_118,e0,e3,e9,e10,ptr_eq,hb3,hc0,hlc]
    refine do_call fn_118 (by simp only [zZ2,Nat.reduceEqDiff,↓reduceIte,zZ4]<;>rfl) (ih c.b mn ba (oa+i) c.xs c.F (e 2) K' _ ((hT c hcm).ext X fun y o g=>by have:=hGc c hcm y o g;omega) h0' hcr (hGc c hcm) hkv (by omega) (by omega) hba) ?_
    rintro iv2 w2 ⟨H2,X2⟩
    refine ⟨trivial,?_⟩
    simp only [↓zZ1,↓reduceIte,Nat.reduceEqDiff,rg,ow_118]
    apply hK;clear hK K
    have s2:=X2.size
    have o2:=o'.ext X2 fun y o g=>by have:=hGo y o g;omega
    have hb2':=o2.h2
    have hk2:=it_at o2.row hx
    refine W_rg fun K hK=>(W_text [true,true,true,true,true,true,true,true,false,false,true] (by kernel_rfl) ?_);simp only [↓zZ1,↓reduceIte,Nat.reduceEqDiff,rg,ow_118,e9,e10,ptr_eq,hb2',hlt,hk2]
    refine do_bsl rfl (bs_it1 x) fun w3 n3=>⟨trivial,?_⟩
    simp only [↓zZ1,↓reduceIte,Nat.reduceEqDiff,rg,ow_118]
    have H3:=H2.ext n3.ext
    have s3:=n3.size
    have z3:SlV w3 2 (.slice (some ⟨w2.heap.size,0,none⟩) 1 1) 1 (E.cel x):=⟨rfl,.inr ⟨_,0,1,rfl,Nat.le_refl _,n3.row,n3.wok.R (Nat.le_refl _)⟩⟩
    refine do_append (by simp only [zZ2,Nat.reduceEqDiff,↓reduceIte,zZ3]<;>rfl) (by simp only [zZ2,Nat.reduceEqDiff,↓reduceIte,zZ3]<;>rfl) el_it rfl ni_25 H3.sl z3 (by simp;omega) (by decide) (E.one _) fun v4 w4 a4=>⟨trivial,?_⟩
    obtain ⟨H4,X4⟩:=H3.app a4 (by omega)
    simp only [↓zZ1,↓reduceIte,Nat.reduceEqDiff,rg,ow_118]
    apply hK;clear hK K
    have s4:=X4.size
    have X4':Ext (fun y _=>B<=y) w2 w4:=(n3.ext.mono fun _ _ _ h=>h.elim).tr X4
    show W _ _ _ _ _ _
    have q1:=wadd1 i (by omega)
    refine W_rg fun K hK=>(W_text [true,true,true] (by kernel_rfl) ?_);simp only [↓zZ1,↓reduceIte,Nat.reduceEqDiff,rg,ow_118,e10,q1]
    apply hK;clear hK K
    refine ⟨_,?_,i+1,K'++c.xs++[x],rfl,hlt,?_,?_,(X.tr X2).tr X4',?_,?_,?_,?_⟩
    ·omega
    ·rw [hKe];simp
    ·simp only [upd_eq,Nat.reduceEqDiff,↓reduceIte];exact H4
    ·simp only [upd_eq,Nat.reduceEqDiff,↓reduceIte];exact e0
    ·simp only [upd_eq,Nat.reduceEqDiff,↓reduceIte];exact e3
    ·simp only [upd_eq,Nat.reduceEqDiff,↓reduceIte];exact e9
    ·simp only [upd_eq,Nat.reduceEqDiff,↓reduceIte]
   ·obtain rfl:i=ks.length:=by omega
    have ht:=lt_ff ks.length ks.length (by omega)
    refine W_sq fun K hK=>(W_text [true,true,true,true,true,true,true] (by kernel_rfl) ?_);simp only [↓zZ1,↓reduceIte,Nat.reduceEqDiff,rg,ow_118,e9,e10,ptr_eq,hb2,ht]
    apply hK;clear hK K
    refine W_false (by simp only [zZ2,Nat.reduceEqDiff,↓reduceIte,zZ3]<;>rfl) (W_exit ?_)
    simp only [andThen_exit,inBlk_exit,↓reduceIte]
    show W _ _ _ _ _ _
    obtain ⟨c,hc,hcr⟩:=hci ks.length (by omega)
    have hcm:c ∈ cs:=List.mem_of_getElem? hc
    rw [weave_last (c:=c.xs) (by simpa using hcs) (by rw [List.getElem?_map,hc];rfl)] at hKe hKl
    have hlc:cs.length-1<cs.length:=by omega
    have hl1:cs.length-1=ks.length:=by omega
    have q1:=wsub1 cs.length (by omega) (by omega)
    have M1:readsB (some (some [b,bc,ba])) b=true:=by simp [readsB]
    have M2:readsB (some (some [b,bc,ba])) bc=true:=by simp [readsB]
    have M3:readsB (some (some [b,bc,ba])) ba=true:=by simp [readsB]
    refine W_sq fun K hK=>(W_draw (some (some [b,bc,ba])) none [(0,0,0),(0,1,0),(0,2,0),(0,3,0),(0,4,0),(0,5,0),(0,6,0),(0,7,0),(0,8,0),(0,9,0),(0,10,0),(0,11,0),(0,12,0),(0,13,0),(0,14,0),(0,15,0),(0,16,0),(0,17,0),(1,18,0),(0,19,0)] mixed (by kernel_rfl) ?_);simp only [↓zZ1,↓reduceIte,Nat.reduceEqDiff,rg,ow_118,e0,e3,e9,ptr_eq,hb3,hc0,q1,hlc,M1,M2,M3]
    rw [hl1]
    refine do_call fn_118 (by simp only [zZ2,Nat.reduceEqDiff,↓reduceIte,zZ4]<;>rfl) (ih c.b mn ba (oa+ks.length) c.xs c.F (e 2) K' _ ((hT c hcm).ext (X.tr (Ext.dr _ _ _)) fun y o g=>by have:=hGc c hcm y o g;omega) h0' hcr (hGc c hcm) (hkv.ext (Ext.dr _ _ _)) (by omega) (by rw [sz_dr];omega) hba) ?_
    rintro iv2 w2 ⟨H2,X2⟩
    refine ⟨.inr (keeps_on X2 fun y hy=>?_),?_⟩
    ·rw [sz_dr]
     simp only [List.mem_cons,List.not_mem_nil,or_false] at hy
     rcases hy with rfl | rfl | rfl
     ·exact ⟨wok_lt o'.wb,fun o g=>by have:=hGo _ 0 (.inl rfl);omega⟩
     ·exact ⟨wok_lt k'.wc,fun o g=>by have:=hGk _ 0 (.inl rfl);omega⟩
     ·exact ⟨wok_lt k'.wa,fun o g=>by omega⟩
    simp only [↓zZ1,↓reduceIte,Nat.reduceEqDiff,rg,ow_118]
    apply hK;clear hK K
    refine W_ret ?_
    refine endQ_1 (by simp only [upd_eq,Nat.reduceEqDiff,↓reduceIte]<;>rfl) ⟨?_,X.tr X2.od⟩
    rw [hKe]
    exact H2
set_option maxRecDepth 8000 in
theorem len_any (m:Nat) (n:Nat) (w:World) (h:rd w m 3=some (.int .i64 n)):CallK Try.prog 71 #[ptr m] w fun v w'=>v = .int .i64 n/\w=w':=by
 refine calls_of_W [.tmp 2] Try.func71 rfl Try.ntmps71 Try.results71 (by simp) fun e he=>?_
 have e0:e 0=ptr m:=he 0 _ rfl
 clear he
 refine W_sq fun K hK=>(W_text [true] (by kernel_rfl) ?_);simp only [↓zZ1,↓reduceIte,Nat.reduceEqDiff,rg,ow_71]
 apply hK;clear hK K
 refine W_sq fun K hK=>(W_text [true,true,true,true,true] (by kernel_rfl) ?_);simp only [↓zZ1,↓reduceIte,Nat.reduceEqDiff,rg,ow_71,e0,ptr_eq,h]
 apply hK;clear hK K
 exact W_ret (endQ_1 (by simp only [upd_eq,Nat.reduceEqDiff,↓reduceIte]<;>rfl) ⟨rfl,rfl⟩)
set_option maxHeartbeats 400000 in
set_option maxRecDepth 8000 in
theorem items_any (B m d:Nat) (ord:List Int) (iso:Int) (xs:List It) (F:Nat->Nat->Prop) (mu:Bool) (w:World) (hM:TreeAt B ord w m d iso xs F) (hbig:xs.length<=4294967295) :
  CallK Try.prog 77 #[ptr m,.bool mu] w fun v w'=>OutE E w.heap.size v xs w'/\Ext noF w w':=by
 have hml:=hM.mlt
 refine calls_of_W [.tmp 4] Try.func77 rfl Try.ntmps77 Try.results77 (by simp) fun e he=>?_
 have e0:e 0=ptr m:=he 0 _ rfl
 have e1:e 1 = .bool mu:=he 1 _ rfl
 clear he
 refine W_sq fun K hK=>(W_text [true] (by kernel_rfl) ?_);simp only [↓zZ1,↓reduceIte,Nat.reduceEqDiff,rg,ow_77]
 apply hK;clear hK K
 refine W_seq ?_
 refine W_sq fun K hK=>(W_text [true,true,false] (by kernel_rfl) ?_);simp only [↓zZ1,↓reduceIte,Nat.reduceEqDiff,rg,ow_77,e0,e1]
 refine do_call fn_91 (by simp only [zZ2,Nat.reduceEqDiff,↓reduceIte,zZ4]<;>rfl) (lock_any _ _ w) ?_
 rintro _ _ ⟨rfl,rfl⟩
 refine ⟨trivial,?_⟩
 simp only [↓zZ1,↓reduceIte,Nat.reduceEqDiff,rg,ow_77]
 apply hK;clear hK K
 refine W_false (by simp only [zZ2,Nat.reduceEqDiff,↓reduceIte,zZ3]<;>rfl) (W_skip ?_)
 show W _ _ _ _ _ _
 refine W_sq fun K hK=>(W_text [true,false,false,true] (by kernel_rfl) ?_);simp only [↓zZ1,↓reduceIte,Nat.reduceEqDiff,rg,ow_77,e0]
 refine do_call fn_71 (by simp only [zZ2,Nat.reduceEqDiff,↓reduceIte,zZ4]<;>rfl) (len_any m xs.length w hM.cnt) ?_
 rintro _ _ ⟨rfl,rfl⟩
 refine ⟨trivial,?_⟩
 simp only [↓zZ1,↓reduceIte,Nat.reduceEqDiff,rg,ow_77]
 refine do_make (n:=0) (c:=xs.length) (by simp only [zZ2,Nat.reduceEqDiff,↓reduceIte,zZ3]<;>rfl) (by simp only [zZ2,Nat.reduceEqDiff,↓reduceIte,zZ3]<;>rfl) el_it rfl (by omega) (by omega) (by omega) fun w1 l1 hl1 n1=>⟨trivial,?_⟩
 simp only [↓zZ1,↓reduceIte,Nat.reduceEqDiff,rg,ow_77]
 apply hK;clear hK K
 have s1:=n1.size
 have hO:OutE E w.heap.size (.slice (some ⟨w.heap.size,0,none⟩) 0 xs.length) [] w1:=by
  refine ⟨⟨rfl,.inr ⟨_,0,_,rfl,Nat.zero_le _,Row.nil _ _ _,n1.wok.R (by rw [hl1,E_sz];omega)⟩⟩,fun b o n c h=>by cases h;exact Nat.le_refl _⟩
 have hM1:=hM.ext n1.ext
 refine W_seq ?_
 rcases hM1.root with ⟨rfl,hr⟩ | ⟨h,b,hr,ht⟩
 ·refine W_sq fun K hK=>(W_text [true,true,true,true,true] (by kernel_rfl) ?_);simp only [↓zZ1,↓reduceIte,Nat.reduceEqDiff,rg,ow_77,e0,ptr_eq,hr]
  apply hK;clear hK K
  refine W_false (by simp only [zZ2,Nat.reduceEqDiff,↓reduceIte,zZ3]<;>rfl) (W_skip ?_)
  show W _ _ _ _ _ _
  refine W_sq fun K hK=>(W_text [true,true] (by kernel_rfl) ?_);simp only [↓zZ1,↓reduceIte,Nat.reduceEqDiff,rg,ow_77]
  apply hK;clear hK K
  exact W_ret (endQ_1 (by simp only [upd_eq,Nat.reduceEqDiff,↓reduceIte]<;>rfl) ⟨hO,n1.ext⟩)
 ·refine W_sq fun K hK=>(W_text [true,true,true,true,true] (by kernel_rfl) ?_);simp only [↓zZ1,↓reduceIte,Nat.reduceEqDiff,rg,ow_77,e0,ptr_eq,hr]
  apply hK;clear hK K
  refine W_true (by simp only [zZ2,Nat.reduceEqDiff,↓reduceIte,zZ3]<;>rfl) ?_
  refine W_rg fun K hK=>(W_text [true,true,true,true,true,true,false,true] (by kernel_rfl) ?_);simp only [↓zZ1,↓reduceIte,Nat.reduceEqDiff,rg,ow_77,e0,e1,ptr_eq]
  refine do_call fn_118 (by simp only [zZ2,Nat.reduceEqDiff,↓reduceIte,zZ4]<;>rfl) (nodeItems_any m w.heap.size iso (d-1) (2*d-1) hml mu h b 1 m 2 xs F _ [] w1 ht hM1.cfg.iso hr hM.lt hO (by simp;omega) (by omega) hml) ?_
  rintro v2 w2 ⟨hO2,X2⟩
  refine ⟨trivial,?_⟩
  simp only [↓zZ1,↓reduceIte,Nat.reduceEqDiff,rg,ow_77]
  apply hK;clear hK K
  show W _ _ _ _ _ _
  refine W_sq fun K hK=>(W_text [true,true] (by kernel_rfl) ?_);simp only [↓zZ1,↓reduceIte,Nat.reduceEqDiff,rg,ow_77]
  apply hK;clear hK K
  exact W_ret (endQ_1 (by simp only [upd_eq,Nat.reduceEqDiff,↓reduceIte]<;>rfl) ⟨hO2,noF_of n1.ext X2 fun y o hy g=>by omega⟩)
set_option maxRecDepth 8000 in
theorem itemsG_any (B m d:Nat) (ord:List Int) (iso:Int) (xs:List It) (F:Nat->Nat->Prop) (w:World) (hM:TreeAt B ord w m d iso xs F) (hbig:xs.length<=4294967295) :
  CallK Try.prog 46 #[ptr m] w fun v w'=>OutE E w.heap.size v xs w'/\Ext noF w w':=by
 refine calls_of_W [.tmp 2] Try.func46 rfl Try.ntmps46 Try.results46 (by simp) fun e he=>?_
 have e0:e 0=ptr m:=he 0 _ rfl
 clear he
 refine W_sq fun K hK=>(W_text [true] (by kernel_rfl) ?_);simp only [↓zZ1,↓reduceIte,Nat.reduceEqDiff,rg,ow_46]
 apply hK;clear hK K
 refine W_sq fun K hK=>(W_text [true,false,true] (by kernel_rfl) ?_);simp only [↓zZ1,↓reduceIte,Nat.reduceEqDiff,rg,ow_46,e0]
 refine do_call fn_77 (by simp only [zZ2,Nat.reduceEqDiff,↓reduceIte,zZ4]<;>rfl) (items_any B m d ord iso xs F false w hM hbig) ?_
 rintro v1 w1 h1
 refine ⟨trivial,?_⟩
 simp only [↓zZ1,↓reduceIte,Nat.reduceEqDiff,rg,ow_46]
 apply hK;clear hK K
 exact W_ret (endQ_1 (by simp only [upd_eq,Nat.reduceEqDiff,↓reduceIte]<;>rfl) h1)
theorem inI_eq (ord:List Int) (mi:Bool) (mn mx x:It) (h:O.lt (rkI ord x) (rkI ord mn)=false):inI ord mi mn mx x=(O.lt (rkI ord x) (rkI ord mx) || (mi && !O.lt (rkI ord mx) (rkI ord x))):=by
 have h':¬ rkI ord x<rkI ord mn:=fun g=>by
  have:=ltO.2 g
  rw [h] at this;cases this
 unfold inI stopI
 rw [decide_eq_false h']
 cases mi with
 | false=>simp
 | true =>
  by_cases g:rkI ord x<rkI ord mx
  ·have g1:O.lt (rkI ord x) (rkI ord mx)=true:=ltO.2 g
   have g2:O.lt (rkI ord mx) (rkI ord x)=false:=Bool.eq_false_iff.2 fun k=>Int.lt_asymm g (ltO.1 k)
   simp [g1,g2]
  ·have g1:O.lt (rkI ord x) (rkI ord mx)=false:=Bool.eq_false_iff.2 fun k=>g (ltO.1 k)
   simp [g1]
set_option maxHeartbeats 800000 in
set_option maxRecDepth 8000 in
theorem inside_any (os:Value) (ord:List Int) (x low high:It) (mi:Bool) (w:World) (hO:SlInt w os ord) (hOb:ord.length<=2147483647) :
  CallK Try.prog 134 #[os,iV x,iV low,iV high,.bool mi] w fun v w'=>v = .bool (inI ord mi low high x)/\Ext noF w w':=by
 refine calls_of_W [.tmp 10] Try.func134 rfl Try.ntmps134 Try.results134 (by simp) fun e he=>?_
 have e0:e 0=os:=he 0 _ rfl
 have e1:e 1=iV x:=he 1 _ rfl
 have e2:e 2=iV low:=he 2 _ rfl
 have e3:e 3=iV high:=he 3 _ rfl
 have e4:e 4 = .bool mi:=he 4 _ rfl
 clear he
 refine W_sq fun K hK=>(W_text [false,false,false,true] (by kernel_rfl) ?_);simp only [↓zZ1,↓reduceIte,Nat.reduceEqDiff,rg,ow_134]
 refine do_box (v:=iV x) (by simp only [evt];exact e1) fun w1 n1=>⟨trivial,?_⟩
 simp only [↓zZ1,↓reduceIte,Nat.reduceEqDiff,rg,ow_134]
 refine do_box (v:=iV low) (by simp only [evt,upd_eq,Nat.reduceEqDiff,↓reduceIte];exact e2) fun w2 n2=>⟨trivial,?_⟩
 simp only [↓zZ1,↓reduceIte,Nat.reduceEqDiff,rg,ow_134]
 refine do_box (v:=iV high) (by simp only [evt,upd_eq,Nat.reduceEqDiff,↓reduceIte];exact e3) fun w3 n3=>⟨trivial,?_⟩
 simp only [↓zZ1,↓reduceIte,Nat.reduceEqDiff,rg,ow_134]
 apply hK;clear hK K
 have X3:=(n1.ext.tr n2.ext).tr n3.ext
 have q1:rdA w3 w.heap.size 0 2=some (iV x):=((n2.ext.tr n3.ext).row (show Row w1 w.heap.size 0 (Ei.cel x) from n1.row) fun _ _ g=>g).rdA 2 (Nat.le_refl _)
 have q2:rdA w3 w1.heap.size 0 2=some (iV low):=(n3.ext.row (show Row w2 w1.heap.size 0 (Ei.cel low) from n2.row) fun _ _ g=>g).rdA 2 (Nat.le_refl _)
 have q3:rdA w3 w2.heap.size 0 2=some (iV high):=(show Row w3 w2.heap.size 0 (Ei.cel high) from n3.row).rdA 2 (Nat.le_refl _)
 refine W_seq ?_
 refine W_sq fun K hK=>(W_text [true,true,true,false] (by kernel_rfl) ?_);simp only [↓zZ1,↓reduceIte,Nat.reduceEqDiff,rg,ow_134,e0,ptr_eq,q1,q2]
 refine do_call fn_119 (by simp only [zZ2,Nat.reduceEqDiff,↓reduceIte,zZ4]<;>rfl) (before_ord os ord x low w3 (SlV.ext0 hO X3) hOb) ?_
 rintro _ w4 ⟨rfl,x4⟩
 refine ⟨trivial,?_⟩
 simp only [↓zZ1,↓reduceIte,Nat.reduceEqDiff,rg,ow_134]
 apply hK;clear hK K
 cases hb:O.lt (rkI ord x) (rkI ord low) with
 | true =>
  refine W_true (by simp only [zZ2,Nat.reduceEqDiff,↓reduceIte,zZ3]<;>rfl) ?_
  refine W_sq fun K hK=>(W_text [true] (by kernel_rfl) ?_);simp only [↓zZ1,↓reduceIte,Nat.reduceEqDiff,rg,ow_134]
  apply hK;clear hK K
  refine W_ret ?_
  simp only [andThen_ret]
  refine endQ_1 (by simp only [upd_eq,Nat.reduceEqDiff,↓reduceIte]<;>rfl) ⟨?_,X3.tr x4⟩
  have:=ltO.1 hb
  unfold inI
  rw [decide_eq_true this];rfl
 | false =>
  refine W_false (by simp only [zZ2,Nat.reduceEqDiff,↓reduceIte,zZ3]<;>rfl) (W_skip ?_)
  simp only [andThen_normal]
  have X4:=X3.tr x4
  have u1:rdA w4 w.heap.size 0 2=some (iV x):=(x4.row ((n2.ext.tr n3.ext).row (show Row w1 w.heap.size 0 (Ei.cel x) from n1.row) fun _ _ g=>g) fun _ _ g=>g).rdA 2 (Nat.le_refl _)
  have u3:rdA w4 w2.heap.size 0 2=some (iV high):=(x4.row (show Row w3 w2.heap.size 0 (Ei.cel high) from n3.row) fun _ _ g=>g).rdA 2 (Nat.le_refl _)
  refine W_sq fun K hK=>(W_text [true,true,true,false,true,true,true,true,true,true,false,true,true,true,true] (by kernel_rfl) ?_);simp only [↓zZ1,↓reduceIte,Nat.reduceEqDiff,rg,ow_134,e0,e4,ptr_eq,u1,u3]
  refine do_call fn_119 (by simp only [zZ2,Nat.reduceEqDiff,↓reduceIte,zZ4]<;>rfl) (before_ord os ord x high w4 (SlV.ext0 hO X4) hOb) ?_
  rintro _ w5 ⟨rfl,x5⟩
  refine ⟨trivial,?_⟩
  have X5:=X4.tr x5
  have v1:rdA w5 w.heap.size 0 2=some (iV x):=(x5.row (x4.row ((n2.ext.tr n3.ext).row (show Row w1 w.heap.size 0 (Ei.cel x) from n1.row) fun _ _ g=>g) fun _ _ g=>g) fun _ _ g=>g).rdA 2 (Nat.le_refl _)
  have v3:rdA w5 w2.heap.size 0 2=some (iV high):=(x5.row (x4.row (show Row w3 w2.heap.size 0 (Ei.cel high) from n3.row) fun _ _ g=>g) fun _ _ g=>g).rdA 2 (Nat.le_refl _)
  have hin:=inI_eq ord mi low high x hb
  cases hc:O.lt (rkI ord x) (rkI ord high) with
  | true =>
   simp only [↓zZ1,↓reduceIte,Nat.reduceEqDiff,rg,ow_134,e0,e4,ptr_eq,v1,v3]
   apply hK;clear hK K
   exact W_ret (endQ_1 (by simp only [upd_eq,Nat.reduceEqDiff,↓reduceIte]<;>rfl) ⟨by rw [hin,hc];rfl,X5⟩)
  | false =>
   cases mi with
   | false =>
    simp only [↓zZ1,↓reduceIte,Nat.reduceEqDiff,rg,ow_134,e0,e4,ptr_eq,v1,v3]
    apply hK;clear hK K
    exact W_ret (endQ_1 (by simp only [upd_eq,Nat.reduceEqDiff,↓reduceIte]<;>rfl) ⟨by rw [hin,hc];rfl,X5⟩)
   | true =>
    simp only [↓zZ1,↓reduceIte,Nat.reduceEqDiff,rg,ow_134,e0,e4,ptr_eq,v1,v3]
    refine do_call fn_119 (by simp only [zZ2,Nat.reduceEqDiff,↓reduceIte,zZ4]<;>rfl) (before_ord os ord high x w5 (SlV.ext0 hO X5) hOb) ?_
    rintro _ w6 ⟨rfl,x6⟩
    refine ⟨trivial,?_⟩
    simp only [↓zZ1,↓reduceIte,Nat.reduceEqDiff,rg,ow_134]
    apply hK;clear hK K
    exact W_ret (endQ_1 (by simp only [upd_eq,Nat.reduceEqDiff,↓reduceIte]<;>rfl) ⟨by rw [hin,hc];rfl,X5.tr x6⟩)
theorem apart_nil (u:Value):apart2 (.slice none 0 0) u:=fun b o n c o' n' c' h=>by cases h
theorem filter_snoc (p:It->Bool) (l:List It) (x:It):(l++[x]).filter p=l.filter p++(if p x then [x] else []):=by
 rw [List.filter_append,List.filter_cons,List.filter_nil]
set_option maxHeartbeats 1600000 in
set_option maxRecDepth 8000 in
theorem split_any (os lv:Value) (ord:List Int) (l:List It) (low high:It) (mi:Bool) (w:World) (hO:SlInt w os ord) (hOb:ord.length<=2147483647) (hl:SlI w lv l) (hbig:l.length<=4294967294) :
  CallK Try.prog 101 #[os,lv,iV low,iV high,.bool mi] w fun v w'=>∃ v1 v2,v = .tuple #[v1,v2]/\SlI w' v1 (l.filter (inI ord mi low high))/\SlI w' v2 (l.filter fun x=>!inI ord mi low high x)/\since w.heap.size v1/\since w.heap.size v2/\apart2 v1 v2/\Ext noF w w':=by
 obtain ⟨a0,c0,hv0⟩:=SlV.shape hl
 refine calls_of_W [.tmp 10,.tmp 11] Try.func101 rfl Try.ntmps101 Try.results101 (by simp) fun e he=>?_
 have e0:e 0=os:=he 0 _ rfl
 have e1:e 1 = .slice a0 l.length c0:=by rw [<-hv0];exact he 1 _ rfl
 have e2:e 2=iV low:=he 2 _ rfl
 have e3:e 3=iV high:=he 3 _ rfl
 have e4:e 4 = .bool mi:=he 4 _ rfl
 clear he
 refine W_sq fun K hK=>(W_text [false,false,true,true] (by kernel_rfl) ?_);simp only [↓zZ1,↓reduceIte,Nat.reduceEqDiff,rg,ow_101]
 refine do_box (v:=iV low) (by simp only [evt];exact e2) fun w1 n1=>⟨trivial,?_⟩
 simp only [↓zZ1,↓reduceIte,Nat.reduceEqDiff,rg,ow_101]
 refine do_box (v:=iV high) (by simp only [evt,upd_eq,Nat.reduceEqDiff,↓reduceIte];exact e3) fun w2 n2=>⟨trivial,?_⟩
 simp only [↓zZ1,↓reduceIte,Nat.reduceEqDiff,rg,ow_101]
 apply hK;clear hK K
 have s1:=n1.size
 have s2:=n2.size
 have X2:=n1.ext.tr n2.ext
 have p7:Row w2 w.heap.size 0 (Ei.cel low):=n2.ext.row n1.row fun _ _ g=>g
 have p8:Row w2 w1.heap.size 0 (Ei.cel high):=n2.row
 refine W_sq fun K hK=>(W_text [true,true] (by kernel_rfl) ?_);simp only [↓zZ1,↓reduceIte,Nat.reduceEqDiff,rg,ow_101]
 apply hK;clear hK K
 refine W_seq (W_seq ?_)
 refine W_rg fun K hK=>(W_text [true,true,true] (by kernel_rfl) ?_);simp only [↓zZ1,↓reduceIte,Nat.reduceEqDiff,rg,ow_101,e1]
 apply hK;clear hK K
 show W _ _ _ _ _ _
 refine W_block (W_loop (fun mm e w'=>∃ i:Nat,mm=l.length-i/\i<=l.length/\Ext noF w w'/\w2.heap.size<=w'.heap.size/\Row w' w.heap.size 0 (Ei.cel low)/\Row w' w1.heap.size 0 (Ei.cel high)/\e 0=os/\e 4 = .bool mi/\e 7=ptr w.heap.size/\e 8=ptr w1.heap.size/\e 16 = .slice a0 l.length c0/\e 17 = .int .i64 l.length/\e 18 = .int .i64 i ∧
   SlI w' (e 12) ((l.take i).filter (inI ord mi low high))/\SlI w' (e 13) ((l.take i).filter fun x=>!inI ord mi low high x)/\since w2.heap.size (e 12)/\since w2.heap.size (e 13)/\apart2 (e 12) (e 13))
  l.length ⟨0,by simp,by simp,X2,Nat.le_refl _,p7,p8,e0,e4,rfl,rfl,(by first | (simp only [upd_eq,Nat.reduceEqDiff,↓reduceIte];done) | (simp only [upd_eq,Nat.reduceEqDiff,↓reduceIte];first | rfl | exact e1)),(by first | (simp only [upd_eq,Nat.reduceEqDiff,↓reduceIte];done) | (simp only [upd_eq,Nat.reduceEqDiff,↓reduceIte];rfl)),(by first | (simp only [upd_eq,Nat.reduceEqDiff,↓reduceIte];done) | (simp only [upd_eq,Nat.reduceEqDiff,↓reduceIte];rfl)),?_,?_,?_,?_,?_⟩ ?_)
 ·simp only [upd_eq,Nat.reduceEqDiff,↓reduceIte];exact ⟨rfl,.inl ⟨rfl,rfl⟩⟩
 ·simp only [upd_eq,Nat.reduceEqDiff,↓reduceIte];exact ⟨rfl,.inl ⟨rfl,rfl⟩⟩
 ·simp only [upd_eq,Nat.reduceEqDiff,↓reduceIte];exact fun _ _ _ _ h=>(by cases h)
 ·simp only [upd_eq,Nat.reduceEqDiff,↓reduceIte];exact fun _ _ _ _ h=>(by cases h)
 ·simp only [upd_eq,Nat.reduceEqDiff,↓reduceIte];exact apart_nil _
 clear e0 e1 e2 e3 e4 e p7 p8
 rintro mm e w' ⟨i,rfl,hi,X,XS2,p7,p8,e0,e4,e7,e8,e16,e17,e18,g12,g13,c12,c13,hap⟩
 by_cases hlt:i<l.length
 ·have ht:=lt_tt i l.length hlt
  refine W_sq fun K hK=>(W_text [true] (by kernel_rfl) ?_);simp only [↓zZ1,↓reduceIte,Nat.reduceEqDiff,rg,ow_101,e17,e18,ht]
  apply hK;clear hK K
  refine W_seq (W_true (by simp only [zZ2,Nat.reduceEqDiff,↓reduceIte,zZ3]<;>rfl) (W_skip ?_))
  show W _ _ _ _ _ _
  obtain ⟨x,hx⟩:∃ x,l[i]? = some x:=⟨_,List.getElem?_eq_getElem hlt⟩
  obtain ⟨b1,o1,g1,r1⟩:=SlV.at hl hv0 hlt
  subst g1
  have y1:=iV_at (X.row r1 fun _ _ h=>h) hx
  have htk:=take_snoc hx
  refine W_seq (W_block ?_)
  refine W_sq fun K hK=>(W_text [true,true,false,false] (by kernel_rfl) ?_);simp only [↓zZ1,↓reduceIte,Nat.reduceEqDiff,rg,ow_101,e16,e18,hlt,y1]
  refine do_alloc z_item fun w3 n3=>⟨trivial,?_⟩
  simp only [↓zZ1,↓reduceIte,Nat.reduceEqDiff,rg,ow_101]
  refine do_store (v:=iV x) (by simp only [zZ2,Nat.reduceEqDiff,↓reduceIte,zZ3]<;>rfl) (by simp only [zZ2,Nat.reduceEqDiff,↓reduceIte,zZ3]<;>rfl) sz_33 rfl n3.wok (by decide) (Ei.one x) fun w4 x4 r4 s4=>⟨trivial,?_⟩
  simp only [↓zZ1,↓reduceIte,Nat.reduceEqDiff,rg,ow_101]
  apply hK;clear hK K
  have s3:=n3.size
  have Y4:Ext noF w' w4:=n3.ext.trans x4 (fun _ _ g=>g) fun y o hy g=>by have:=g.1;omega
  have XS:=X.size
  have X4:=X.tr Y4
  have z7:rdA w4 w.heap.size 0 2=some (iV low):=(Y4.row p7 fun _ _ g=>g).rdA 2 (Nat.le_refl _)
  have z8:rdA w4 w1.heap.size 0 2=some (iV high):=(Y4.row p8 fun _ _ g=>g).rdA 2 (Nat.le_refl _)
  have rx:Row w4 w'.heap.size 0 (Ei.cel x):=r4
  have zx:=rx.rdA 2 (Nat.le_refl _)
  have zx:rdA w4 w'.heap.size 0 2=some (iV x):=zx
  refine W_sq fun K hK=>(W_text [true,true,true,true,true,false] (by kernel_rfl) ?_);simp only [↓zZ1,↓reduceIte,Nat.reduceEqDiff,rg,ow_101,e0,e4,e7,e8,ptr_eq,z7,z8,zx]
  refine do_call fn_134 (by simp only [zZ2,Nat.reduceEqDiff,↓reduceIte,zZ4]<;>rfl) (inside_any os ord x low high mi w4 (SlV.ext0 hO X4) hOb) ?_
  rintro _ w5 ⟨rfl,x5⟩
  refine ⟨trivial,?_⟩
  simp only [↓zZ1,↓reduceIte,Nat.reduceEqDiff,rg,ow_101]
  apply hK;clear hK K
  have X5:=X4.tr x5
  have Y5:=Y4.tr x5
  have s5:=Y5.size
  have g12:=SlV.ext0 g12 Y5
  have g13:=SlV.ext0 g13 Y5
  have zx5:rdA w5 w'.heap.size 0 2=some (iV x):=(x5.row rx fun _ _ g=>g).rdA 2 (Nat.le_refl _)
  have q1:=wadd1 i (by omega)
  cases hb:inI ord mi low high x with
  | true =>
   refine W_true (by simp only [zZ2,Nat.reduceEqDiff,↓reduceIte,zZ3]<;>rfl) ?_
   have hsb:((l.take i).filter (inI ord mi low high)).length<=i:=Nat.le_trans (List.length_filter_le _ _) (by rw [List.length_take];omega)
   refine W_rg fun K hK=>(W_text [true,true,false,false,true] (by kernel_rfl) ?_);simp only [↓zZ1,↓reduceIte,Nat.reduceEqDiff,rg,ow_101,ptr_eq,zx5]
   refine do_bsl rfl (bs_i1 x) fun w6 n6=>⟨trivial,?_⟩
   simp only [↓zZ1,↓reduceIte,Nat.reduceEqDiff,rg,ow_101]
   have n6:=n6.od
   have s6:=n6.size
   have hx6:SlV w6 2 (.slice (some ⟨w5.heap.size,0,none⟩) 1 1) 1 (Ei.cel x):=⟨rfl,.inr ⟨_,0,1,rfl,Nat.le_refl _,n6.row,n6.wok.R (Nat.le_refl _)⟩⟩
   refine do_append (by simp only [zZ2,Nat.reduceEqDiff,↓reduceIte,zZ3]<;>rfl) (by simp only [zZ2,Nat.reduceEqDiff,↓reduceIte,zZ3]<;>rfl) el_i rfl ni_i (SlV.ext0 g12 n6.ext) hx6 (by omega) (by decide) (Ei.one x) fun v7 w7 a7=>⟨trivial,?_⟩
   simp only [↓zZ1,↓reduceIte,Nat.reduceEqDiff,rg,ow_101]
   apply hK;clear hK K
   obtain ⟨k1,k2,k3⟩:=app_since (B:=w2.heap.size) a7 c12 (by omega)
   obtain ⟨k4,k5⟩:=app_other a7 (SlV.ext0 g13 n6.ext) hap
   have X6:=X5.tr n6.ext
   have X7:Ext noF w w7:=noF_of X6 k3 fun y o hy h=>by omega
   refine W_rg fun K hK=>(W_text [true,true] (by kernel_rfl) ?_);simp only [↓zZ1,↓reduceIte,Nat.reduceEqDiff,rg,ow_101,e18,q1]
   apply hK;clear hK K
   refine ⟨_,?_,i+1,rfl,hlt,X7,(by have:=k3.size;omega),?_,?_,e0,e4,e7,e8,e16,e17,rfl,?_,?_,?_,?_,?_⟩
   ·omega
   ·exact k3.row (n6.ext.row (Y5.row p7 fun _ _ g=>g) fun _ _ g=>g) fun _ _ g=>by omega
   ·exact k3.row (n6.ext.row (Y5.row p8 fun _ _ g=>g) fun _ _ g=>g) fun _ _ g=>by omega
   ·simp only [upd_eq,Nat.reduceEqDiff,↓reduceIte];rw [htk,filter_snoc,hb,if_pos rfl,SlI,List.length_append,List.length_singleton,flat_append,flat_one];exact k1
   ·simp only [upd_eq,Nat.reduceEqDiff,↓reduceIte];rw [htk,filter_snoc,hb];simp only [Bool.not_true,Bool.false_eq_true,↓reduceIte,List.append_nil];exact k4
   ·simp only [upd_eq,Nat.reduceEqDiff,↓reduceIte];exact k2
   ·simp only [upd_eq,Nat.reduceEqDiff,↓reduceIte];exact c13
   ·simp only [upd_eq,Nat.reduceEqDiff,↓reduceIte];exact k5
  | false =>
   refine W_false (by simp only [zZ2,Nat.reduceEqDiff,↓reduceIte,zZ3]<;>rfl) ?_
   have hsb:((l.take i).filter fun x=>!inI ord mi low high x).length<=i:=Nat.le_trans (List.length_filter_le _ _) (by rw [List.length_take];omega)
   refine W_rg fun K hK=>(W_text [true,true,false,false,true] (by kernel_rfl) ?_);simp only [↓zZ1,↓reduceIte,Nat.reduceEqDiff,rg,ow_101,ptr_eq,zx5]
   refine do_bsl rfl (bs_i1 x) fun w6 n6=>⟨trivial,?_⟩
   simp only [↓zZ1,↓reduceIte,Nat.reduceEqDiff,rg,ow_101]
   have n6:=n6.od
   have s6:=n6.size
   have hx6:SlV w6 2 (.slice (some ⟨w5.heap.size,0,none⟩) 1 1) 1 (Ei.cel x):=⟨rfl,.inr ⟨_,0,1,rfl,Nat.le_refl _,n6.row,n6.wok.R (Nat.le_refl _)⟩⟩
   refine do_append (by simp only [zZ2,Nat.reduceEqDiff,↓reduceIte,zZ3]<;>rfl) (by simp only [zZ2,Nat.reduceEqDiff,↓reduceIte,zZ3]<;>rfl) el_i rfl ni_i (SlV.ext0 g13 n6.ext) hx6 (by omega) (by decide) (Ei.one x) fun v7 w7 a7=>⟨trivial,?_⟩
   simp only [↓zZ1,↓reduceIte,Nat.reduceEqDiff,rg,ow_101]
   apply hK;clear hK K
   obtain ⟨k1,k2,k3⟩:=app_since (B:=w2.heap.size) a7 c13 (by omega)
   obtain ⟨k4,k5⟩:=app_other a7 (SlV.ext0 g12 n6.ext) hap.symm
   have X6:=X5.tr n6.ext
   have X7:Ext noF w w7:=noF_of X6 k3 fun y o hy h=>by omega
   refine W_rg fun K hK=>(W_text [true,true] (by kernel_rfl) ?_);simp only [↓zZ1,↓reduceIte,Nat.reduceEqDiff,rg,ow_101,e18,q1]
   apply hK;clear hK K
   refine ⟨_,?_,i+1,rfl,hlt,X7,(by have:=k3.size;omega),?_,?_,e0,e4,e7,e8,e16,e17,rfl,?_,?_,?_,?_,?_⟩
   ·omega
   ·exact k3.row (n6.ext.row (Y5.row p7 fun _ _ g=>g) fun _ _ g=>g) fun _ _ g=>by omega
   ·exact k3.row (n6.ext.row (Y5.row p8 fun _ _ g=>g) fun _ _ g=>g) fun _ _ g=>by omega
   ·simp only [upd_eq,Nat.reduceEqDiff,↓reduceIte];rw [htk,filter_snoc,hb];simp only [Bool.false_eq_true,↓reduceIte,List.append_nil];exact k4
   ·simp only [upd_eq,Nat.reduceEqDiff,↓reduceIte];rw [htk,filter_snoc,hb,if_pos (by rfl),SlI,List.length_append,List.length_singleton,flat_append,flat_one];exact k1
   ·simp only [upd_eq,Nat.reduceEqDiff,↓reduceIte];exact c12
   ·simp only [upd_eq,Nat.reduceEqDiff,↓reduceIte];exact k2
   ·simp only [upd_eq,Nat.reduceEqDiff,↓reduceIte];exact k5.symm
 ·obtain rfl:i=l.length:=by omega
  have ht:=lt_ff l.length l.length (by omega)
  refine W_sq fun K hK=>(W_text [true] (by kernel_rfl) ?_);simp only [↓zZ1,↓reduceIte,Nat.reduceEqDiff,rg,ow_101,e17,e18,ht]
  apply hK;clear hK K
  refine W_seq (W_false (by simp only [zZ2,Nat.reduceEqDiff,↓reduceIte,zZ3]<;>rfl) (W_exit ?_))
  simp only [andThen_exit,inBlk_exit,andThen_normal,↓reduceIte]
  refine W_sq fun K hK=>(W_text [true,true,true,true] (by kernel_rfl) ?_);simp only [↓zZ1,↓reduceIte,Nat.reduceEqDiff,rg,ow_101]
  apply hK;clear hK K
  rw [List.take_length] at g12 g13
  refine W_ret (endQ_2 (by simp only [upd_eq,Nat.reduceEqDiff,↓reduceIte]<;>rfl) (by simp only [upd_eq,Nat.reduceEqDiff,↓reduceIte]<;>rfl) ⟨e 12,e 13,rfl,g12,g13,(fun b o n c h=>by have:=c12 b o n c h;omega),(fun b o n c h=>by have:=c13 b o n c h;omega),hap,X⟩)
def Esp:Enc (It × It) where
 cel s:=[.int .i64 s.1.1,.int .i64 s.1.2,.int .i64 s.2.1,.int .i64 s.2.2]
 sz:=4
 len _:=rfl
 one x v hv:=by simp at hv;rcases hv with rfl | rfl | rfl | rfl<;>rfl
 pos:=by decide
def spV (s:It × It):Value:=.agg #[.int .i64 s.1.1,.int .i64 s.1.2,.int .i64 s.2.1,.int .i64 s.2.2]
abbrev SlSp (w:World) (v:Value) (l:List (It × It)):Prop:=SlV w 4 v l.length (flat Esp l)
theorem spV_at {w:World} {b o:Nat} {l:List (It × It)} (h:Row w b o (flat Esp l)) {i:Nat} {x:It × It} (hi:l[i]? = some x):rdA w b (o+i*4) 4=some (spV x):=(row_at Esp h hi).rdA 4 (by simp [Esp])
def rgV (p nr mi:Bool):Value:=.agg #[.bool p,.bool nr,.bool mi]
def stepR (ord:List Int) (ex mi:Bool) (st:List (List It) × List It) (s:It × It):List (List It) × List It :=
 (st.1++[if ex then st.2.filter (inI ord mi s.1 s.2) else []],st.2.filter fun x=>!inI ord mi s.1 s.2 x)
def runR (ord:List Int) (ex mi:Bool) (X:List It) (ss:List (It × It)):List (List It) × List It:=ss.foldl (stepR ord ex mi) ([],X)
theorem runR_snoc (ord:List Int) (ex mi:Bool) (X:List It) (ss:List (It × It)) (s:It × It):runR ord ex mi X (ss++[s])=stepR ord ex mi (runR ord ex mi X ss) s:=by
 unfold runR;rw [List.foldl_append];rfl
theorem runR_len (ord:List Int) (ex mi:Bool) (X:List It) (ss:List (It × It)):(runR ord ex mi X ss).1.length=ss.length/\(runR ord ex mi X ss).2.length<=X.length/\∀ l ∈ (runR ord ex mi X ss).1,l.length<=X.length:=by
 have h:∀ (ss:List (It × It)) (st:List (List It) × List It),(∀ l ∈ st.1,l.length<=X.length)->st.2.length<=X.length->(ss.foldl (stepR ord ex mi) st).1.length=st.1.length+ss.length/\(ss.foldl (stepR ord ex mi) st).2.length<=X.length/\∀ l ∈ (ss.foldl (stepR ord ex mi) st).1,l.length<=X.length:=by
  intro ss
  induction ss with
  | nil=>intro st h1 h2;exact ⟨rfl,h2,h1⟩
  | cons s ss ih =>
   intro st h1 h2
   have hx:∀ l ∈ (stepR ord ex mi st s).1,l.length<=X.length:=fun l hl=>by
    rcases List.mem_append.1 hl with hl | hl
    ·exact h1 l hl
    ·rw [List.mem_singleton.1 hl]
     split
     ·exact Nat.le_trans (List.length_filter_le _ _) h2
     ·exact Nat.zero_le _
   obtain ⟨g1,g2,g3⟩:=ih (stepR ord ex mi st s) hx (Nat.le_trans (List.length_filter_le _ _) h2)
   refine ⟨?_,g2,g3⟩
   rw [List.foldl_cons,g1]
   simp only [stepR,List.length_append,List.length_cons,List.length_nil]
   omega
 have:=h ss ([],X) (by simp) (Nat.le_refl _)
 simpa [runR] using this
theorem z_span:zK Try.prog 57=some [.int .i64 0,.int .i64 0,.int .i64 0,.int .i64 0]:=by kernel_rfl
theorem el_ll:elK Try.prog 58=some (25,1,24,[.slice none 0 0]):=by kernel_rfl
theorem ni_ll:noInt Try.prog 58=true:=by kernel_rfl
theorem bs_ll (h:Hd):bsV Try.prog 58 1 [(0,hdV h)]=some (25,[hdV h]):=by rcases h with ⟨a,n,c⟩;kernel_rfl
set_option maxHeartbeats 3200000 in
set_option maxRecDepth 8000 in
theorem spec_delr (d:Nat) (ord:List Int) (sv:Value) (nl:Bool) (l:List It) (lv:Value) (ss:List (It × It)) (spv:Value) (p nr mi:Bool) (w:World) (hO:SlInt w sv ord) (hOb:ord.length<=2147483647) (hl:SlI w lv l) (hbig:l.length<=2147483647) (hsp:SlSp w spv ss) (hsb:ss.length<=2147483647) :
  CallK Try.prog 63 #[mkV sv d nl,lv,spv,rgV p nr mi] w fun v w'=>∃ v1 v2 hs,v = .tuple #[v1,v2]/\LL (fun y=>w.heap.size<=y) w' v1 hs (runR ord (p || !nr) (mi && !p) (treeG ord l) ss).1/\SlI w' v2 (runR ord (p || !nr) (mi && !p) (treeG ord l) ss).2/\Ext noF w w':=by
 obtain ⟨a0,c0,hv0⟩:=SlV.shape hsp
 refine calls_of_W [.tmp 8,.tmp 9] Try.func63 rfl Try.ntmps63 Try.results63 (by simp) fun e he=>?_
 have e0:e 0=mkV sv d nl:=he 0 _ rfl
 have e1:e 1=lv:=he 1 _ rfl
 have e2:e 2 = .slice a0 ss.length c0:=by rw [<-hv0];exact he 2 _ rfl
 have e3:e 3=rgV p nr mi:=he 3 _ rfl
 clear he
 have htl:=treeG_len ord l
 refine W_sq fun K hK=>(W_text [false,false,true,true] (by kernel_rfl) ?_);simp only [↓zZ1,↓reduceIte,Nat.reduceEqDiff,rg,ow_63]
 refine do_box (by simp only [evt];exact e0) fun w1 n1=>⟨trivial,?_⟩
 simp only [↓zZ1,↓reduceIte,Nat.reduceEqDiff,rg,ow_63]
 refine do_box (v:=rgV p nr mi) (by simp only [evt,upd_eq,Nat.reduceEqDiff,↓reduceIte];exact e3) fun w2 n2=>⟨trivial,?_⟩
 simp only [↓zZ1,↓reduceIte,Nat.reduceEqDiff,rg,ow_63]
 apply hK;clear hK K
 have s1:=n1.size
 have s2:=n2.size
 have X2:=n1.ext.tr n2.ext
 have P4:Row w2 w.heap.size 0 (mkL sv d nl):=n2.ext.row (show Row w1 w.heap.size 0 (mkL sv d nl) from n1.row) fun _ _ g=>g
 have P7:Row w2 w1.heap.size 0 [.bool p,.bool nr,.bool mi]:=n2.row
 have p4:=mk_at0 P4
 refine W_sq fun K hK=>(W_text [true,true,true,false,true] (by kernel_rfl) ?_);simp only [↓zZ1,↓reduceIte,Nat.reduceEqDiff,rg,ow_63,e1,ptr_eq,p4]
 refine do_call fn_17 (by simp only [zZ2,Nat.reduceEqDiff,↓reduceIte,zZ4]<;>rfl) (stree_ord sv ord l lv w2 (SlV.ext0 hO X2) hOb (SlV.ext0 hl X2) hbig) ?_
 rintro v3 w3 ⟨h3,x3⟩
 refine ⟨trivial,?_⟩
 simp only [↓zZ1,↓reduceIte,Nat.reduceEqDiff,rg,ow_63]
 apply hK;clear hK K
 have s3:=x3.size
 have X3:=X2.tr x3
 refine W_sq fun K hK=>(W_text [true] (by kernel_rfl) ?_);simp only [↓zZ1,↓reduceIte,Nat.reduceEqDiff,rg,ow_63]
 apply hK;clear hK K
 refine W_seq (W_seq ?_)
 refine W_rg fun K hK=>(W_text [true,true,true] (by kernel_rfl) ?_);simp only [↓zZ1,↓reduceIte,Nat.reduceEqDiff,rg,ow_63,e2]
 apply hK;clear hK K
 show W _ _ _ _ _ _
 have hinit:∃ hs,LL (fun y=>w2.heap.size<=y) w3 (.slice none 0 0) hs (runR ord (p || !nr) (mi && !p) (treeG ord l) (ss.take 0)).1:=⟨[],by rw [List.take_zero];exact LL.nil _ _⟩
 refine W_block (W_loop (fun mm e w'=>∃ i:Nat,mm=ss.length-i/\i<=ss.length/\Ext noF w w'/\w2.heap.size<=w'.heap.size/\Row w' w.heap.size 0 (mkL sv d nl)/\Row w' w1.heap.size 0 [.bool p,.bool nr,.bool mi]/\e 4=ptr w.heap.size/\e 7=ptr w1.heap.size/\e 19 = .slice a0 ss.length c0/\e 20 = .int .i64 ss.length/\e 21 = .int .i64 i ∧
   (∃ hs,LL (fun y=>w2.heap.size<=y) w' (e 11) hs (runR ord (p || !nr) (mi && !p) (treeG ord l) (ss.take i)).1)/\SlI w' (e 10) (runR ord (p || !nr) (mi && !p) (treeG ord l) (ss.take i)).2/\apart2 (e 11) (e 10))
  ss.length ⟨0,by simp,by simp,X3,s3,x3.row P4 (fun _ _ g=>g),x3.row P7 (fun _ _ g=>g),rfl,rfl,(by first | (simp only [upd_eq,Nat.reduceEqDiff,↓reduceIte];done) | (simp only [upd_eq,Nat.reduceEqDiff,↓reduceIte];first | rfl | exact e2)),(by first | (simp only [upd_eq,Nat.reduceEqDiff,↓reduceIte];done) | (simp only [upd_eq,Nat.reduceEqDiff,↓reduceIte];rfl)),(by first | (simp only [upd_eq,Nat.reduceEqDiff,↓reduceIte];done) | (simp only [upd_eq,Nat.reduceEqDiff,↓reduceIte];rfl)),(hinit),h3,(by simp only [upd_eq,Nat.reduceEqDiff,↓reduceIte];exact apart_nil _)⟩ ?_)
 clear e0 e1 e2 e3 e P4 P7 p4 hinit
 rintro mm e w' ⟨i,rfl,hi,X,XS,P4,P7,e4,e7,e19,e20,e21,⟨hs,hLL⟩,hIt,hap⟩
 by_cases hlt:i<ss.length
 ·have ht:=lt_tt i ss.length hlt
  refine W_sq fun K hK=>(W_text [true] (by kernel_rfl) ?_);simp only [↓zZ1,↓reduceIte,Nat.reduceEqDiff,rg,ow_63,e20,e21,ht]
  apply hK;clear hK K
  refine W_seq (W_true (by simp only [zZ2,Nat.reduceEqDiff,↓reduceIte,zZ3]<;>rfl) (W_skip ?_))
  show W _ _ _ _ _ _
  obtain ⟨s,hs1⟩:∃ x,ss[i]? = some x:=⟨_,List.getElem?_eq_getElem hlt⟩
  obtain ⟨b1,o1,g1,r1⟩:=SlV.at hsp hv0 hlt
  subst g1
  have y1:=spV_at (X.row r1 fun _ _ h=>h) hs1
  have htk:ss.take (i+1)=ss.take i++[s]:=take_snoc hs1
  obtain ⟨L1,L2,L3⟩:=runR_len ord (p || !nr) (mi && !p) (treeG ord l) (ss.take i)
  have hst:=runR_snoc ord (p || !nr) (mi && !p) (treeG ord l) (ss.take i) s
  generalize runR ord (p || !nr) (mi && !p) (treeG ord l) (ss.take i)=st at hLL hIt L1 L2 L3 hst
  refine W_seq (W_block ?_)
  refine W_sq fun K hK=>(W_text [true,true,false,false] (by kernel_rfl) ?_);simp only [↓zZ1,↓reduceIte,Nat.reduceEqDiff,rg,ow_63,e19,e21,hlt,y1]
  refine do_alloc z_span fun w4 n4=>⟨trivial,?_⟩
  simp only [↓zZ1,↓reduceIte,Nat.reduceEqDiff,rg,ow_63]
  refine do_store (v:=spV s) (by simp only [zZ2,Nat.reduceEqDiff,↓reduceIte,zZ3]<;>rfl) (by simp only [zZ2,Nat.reduceEqDiff,↓reduceIte,zZ3]<;>rfl) sz_57 rfl n4.wok (by decide) (Esp.one s) fun w5 x5 r5 s5=>⟨trivial,?_⟩
  simp only [↓zZ1,↓reduceIte,Nat.reduceEqDiff,rg,ow_63]
  apply hK;clear hK K
  have s4:=n4.size
  have Y5:Ext noF w' w5:=n4.ext.trans x5 (fun _ _ g=>g) fun y o hy g=>by have:=g.1;omega
  have X5:=X.tr Y5
  have rs:Row w5 w'.heap.size 0 ([.int .i64 s.1.1,.int .i64 s.1.2]++[.int .i64 s.2.1,.int .i64 s.2.2]):=r5
  have zl:rdA w5 w'.heap.size 0 2=some (iV s.1):=(Row.append.1 rs).1.rdA 2 (Nat.le_refl _)
  have zh:rdA w5 w'.heap.size 2 2=some (iV s.2):=(Row.append.1 rs).2.rdA 2 (Nat.le_refl _)
  have P4':=Y5.row P4 fun _ _ g=>g
  have P7':=Y5.row P7 fun _ _ g=>g
  have q4:=mk_at0 P4'
  have q70:rd w5 w1.heap.size 0=some (.bool p):=(Row.cons.1 P7').1
  have q72:rd w5 w1.heap.size 2=some (.bool mi):=(Row.cons.1 (Row.cons.1 (Row.cons.1 P7').2).2).1
  have hIt5:=SlV.ext0 hIt Y5
  have hLL5:=hLL.ext Y5 fun _ _ _ g=>g
  refine W_sq fun K hK=>(W_text [true] (by kernel_rfl) ?_);simp only [↓zZ1,↓reduceIte,Nat.reduceEqDiff,rg,ow_63]
  apply hK;clear hK K
  refine W_sqx fun J hJ=>?_
  have hend:∀ (g:Env) (w6:World) (v1 v2:Value),(∀ k,k ∈ [4,7,19,20,21,11]->g k=e k)->g 14=v1->g 10=v2->Ext noF w5 w6->SlI w6 v1 (st.2.filter (inI ord (mi && !p) s.1 s.2))->SlI w6 v2 (st.2.filter fun x=>!inI ord (mi && !p) s.1 s.2 x)->since w5.heap.size v1->since w5.heap.size v2->J g w6:=by
   intro g w6 v1 v2 hg g14 g10 x6 h1 h2 c1 c2
   refine hJ _ _ ?_;clear hJ J
   have h11:g 11=e 11:=hg 11 (by simp)
   have h4:g 4=ptr w.heap.size:=(hg 4 (by simp)).trans e4
   have h7:g 7=ptr w1.heap.size:=(hg 7 (by simp)).trans e7
   have P4'':=x6.row P4' fun _ _ g=>g
   have P7'':=x6.row P7' fun _ _ g=>g
   have q70:rd w6 w1.heap.size 0=some (.bool p):=(Row.cons.1 P7'').1
   have q71:rd w6 w1.heap.size 1=some (.bool nr):=(Row.cons.1 (Row.cons.1 P7'').2).1
   have hLL6:=hLL5.ext x6 fun _ _ _ g=>g
   have s6:=x6.size
   have s5':=Y5.size
   refine W_sqx fun J hJ=>?_
   have hend2:∀ (u:Env) (w7:World) (v0:Value) (l0:List It),(∀ k,k ∈ [4,7,19,20,21,11,10]->u k=g k)->u 14=v0->Ext noF w6 w7->SlI w7 v0 l0->since w5.heap.size v0->l0=(if (p || !nr) then st.2.filter (inI ord (mi && !p) s.1 s.2) else [])->J u w7:=by
    intro u w7 v0 l0 hu u14 x7 h0 c0' hl0
    refine hJ _ _ ?_;clear hJ J
    obtain ⟨hd0,rfl⟩:=hdV_of h0
    have u11:u 11=e 11:=(hu 11 (by simp)).trans h11
    have hLL7:=hLL6.ext x7 fun _ _ _ g=>g
    have s7:=x7.size
    have k0:inK (fun y=>w2.heap.size<=y) (hdV hd0):=fun b o n c h=>by have:=c0' b o n c h;show w2.heap.size<=b;omega
    have a0':∀ v,since w5.heap.size v->apart2 (e 11) v:=fun v hv b o n c o' n' c' k1 k2=>by
     have:=hv _ _ _ _ k2
     have:=SlV.lt hLL.sl k1
     omega
    refine W_rg fun K hK=>(W_text [true,true,false,false,true] (by kernel_rfl) ?_);simp only [↓zZ1,↓reduceIte,Nat.reduceEqDiff,rg,ow_63,u11,u14]
    refine do_bsl rfl (bs_ll hd0) fun w8 n8=>⟨trivial,?_⟩
    simp only [↓zZ1,↓reduceIte,Nat.reduceEqDiff,rg,ow_63]
    have n8:=n8.od
    have s8:=n8.size
    have hx8:SlV w8 1 (.slice (some ⟨w7.heap.size,0,none⟩) 1 1) 1 [hdV hd0]:=⟨rfl,.inr ⟨_,0,1,rfl,Nat.le_refl _,n8.row,n8.wok.R (Nat.le_refl _)⟩⟩
    have hLL8:=hLL7.ext n8.ext fun _ _ _ g=>g
    have hlen:=hLL8.len
    have L1':st.1.length<=i:=by rw [L1,List.length_take];omega
    refine do_append (by simp only [zZ2,Nat.reduceEqDiff,↓reduceIte,zZ3]<;>rfl) (by simp only [zZ2,Nat.reduceEqDiff,↓reduceIte,zZ3]<;>rfl) el_ll rfl ni_ll hLL8.sl hx8 (by omega) (by decide) (Ehd.one hd0) fun v9 w9 a9=>⟨trivial,?_⟩
    simp only [↓zZ1,↓reduceIte,Nat.reduceEqDiff,rg,ow_63]
    apply hK;clear hK K
    obtain ⟨hLL9,x9⟩:=hLL8.push (SlV.ext0 h0 n8.ext) k0 (a0' _ c0') a9
    have h2':=SlV.ext0 (SlV.ext0 h2 x7) n8.ext
    obtain ⟨k2,k3⟩:=app_other a9 h2' (a0' _ c2)
    have s9:=x9.size
    have X8:=((X5.tr x6).tr x7).tr n8.ext
    have X9:Ext noF w w9:=noF_of X8 x9 fun y o hy h=>by omega
    have q1:=wadd1 i (by omega)
    have u21:u 21 = .int .i64 i:=(hu 21 (by simp)).trans ((hg 21 (by simp)).trans e21)
    refine W_rg fun K hK=>(W_text [true,true] (by kernel_rfl) ?_);simp only [↓zZ1,↓reduceIte,Nat.reduceEqDiff,rg,ow_63,u21,q1]
    apply hK;clear hK K
    refine ⟨_,?_,i+1,rfl,hlt,X9,(by omega),?_,?_,((hu 4 (by simp)).trans h4),((hu 7 (by simp)).trans h7),(by simp only [upd_eq,Nat.reduceEqDiff,↓reduceIte];exact (hu 19 (by simp)).trans ((hg 19 (by simp)).trans e19)),(by simp only [upd_eq,Nat.reduceEqDiff,↓reduceIte];exact (hu 20 (by simp)).trans ((hg 20 (by simp)).trans e20)),rfl,⟨hs++[hd0],?_⟩,?_,?_⟩
    ·omega
    ·exact x9.row (n8.ext.row (x7.row P4'' fun _ _ g=>g) fun _ _ g=>g) fun _ _ g=>by omega
    ·exact x9.row (n8.ext.row (x7.row P7'' fun _ _ g=>g) fun _ _ g=>g) fun _ _ g=>by omega
    ·simp only [upd_eq,Nat.reduceEqDiff,↓reduceIte]
     rw [htk,hst]
     show LL _ _ _ _ (st.1++[_])
     rw [<-hl0]
     exact hLL9.mono fun y g=>by rcases g with g | g<;>omega
    ·simp only [upd_eq,Nat.reduceEqDiff,↓reduceIte]
     rw [htk,hst,(hu 10 (by simp)).trans g10]
     exact k2
    ·simp only [upd_eq,Nat.reduceEqDiff,↓reduceIte]
     rw [(hu 10 (by simp)).trans g10]
     exact k3
   cases nr with
   | false =>
    refine W_sq fun K hK=>(W_text [true,true,true,true,true,true,true] (by kernel_rfl) ?_);simp only [↓zZ1,↓reduceIte,Nat.reduceEqDiff,rg,ow_63,h7,ptr_eq,q70,q71]
    apply hK;clear hK K
    refine W_false (by simp only [zZ2,Nat.reduceEqDiff,↓reduceIte,zZ3]<;>rfl) (W_skip ?_)
    refine hend2 _ _ v1 _ (fun k hk=>?_) g14 (Ext.refl _ _) h1 c1 (by simp)
    simp only [List.mem_cons,List.not_mem_nil,or_false] at hk
    rcases hk with rfl | rfl | rfl | rfl | rfl | rfl | rfl<;>simp only [upd_eq,Nat.reduceEqDiff,↓reduceIte]
   | true =>
    cases p with
    | true =>
     refine W_sq fun K hK=>(W_text [true,true,true,true,true,true,true] (by kernel_rfl) ?_);simp only [↓zZ1,↓reduceIte,Nat.reduceEqDiff,rg,ow_63,h7,ptr_eq,q70,q71]
     apply hK;clear hK K
     refine W_false (by simp only [zZ2,Nat.reduceEqDiff,↓reduceIte,zZ3]<;>rfl) (W_skip ?_)
     refine hend2 _ _ v1 _ (fun k hk=>?_) g14 (Ext.refl _ _) h1 c1 (by simp)
     simp only [List.mem_cons,List.not_mem_nil,or_false] at hk
     rcases hk with rfl | rfl | rfl | rfl | rfl | rfl | rfl<;>simp only [upd_eq,Nat.reduceEqDiff,↓reduceIte]
    | false =>
     refine W_sq fun K hK=>(W_text [true,true,true,true,true,true,true] (by kernel_rfl) ?_);simp only [↓zZ1,↓reduceIte,Nat.reduceEqDiff,rg,ow_63,h7,ptr_eq,q70,q71]
     apply hK;clear hK K
     refine W_true (by simp only [zZ2,Nat.reduceEqDiff,↓reduceIte,zZ3]<;>rfl) ?_
     refine W_rg fun K hK=>(W_text [true] (by kernel_rfl) ?_);simp only [↓zZ1,↓reduceIte,Nat.reduceEqDiff,rg,ow_63]
     apply hK;clear hK K
     refine hend2 _ _ (.slice none 0 0) [] (fun k hk=>?_) rfl (Ext.refl _ _) ⟨rfl,.inl ⟨rfl,rfl⟩⟩ (fun _ _ _ _ h=>by cases h) (by simp)
     simp only [List.mem_cons,List.not_mem_nil,or_false] at hk
     rcases hk with rfl | rfl | rfl | rfl | rfl | rfl | rfl<;>simp only [upd_eq,Nat.reduceEqDiff,↓reduceIte]
  clear hJ
  have hIb:st.2.length<=4294967294:=by omega
  cases mi with
  | false =>
   refine W_rg fun K hK=>(W_text [true,true,true,true,true,true,true,true,true,true,true,true,true,true,false,true,true,true,true,true] (by kernel_rfl) ?_);simp only [↓zZ1,↓reduceIte,Nat.reduceEqDiff,rg,ow_63,e4,e7,ptr_eq,q4,q70,q72,zl,zh]
   refine do_call fn_101 (by simp only [zZ2,Nat.reduceEqDiff,↓reduceIte,zZ4]<;>rfl) (split_any sv _ ord st.2 s.1 s.2 false w5 (SlV.ext0 hO X5) hOb hIt5 hIb) ?_
   rintro _ w6 ⟨v1,v2,rfl,h1,h2,c1,c2,_,x6⟩
   refine ⟨trivial,?_⟩
   simp only [↓zZ1,↓reduceIte,Nat.reduceEqDiff,rg,ow_63]
   apply hK;clear hK K
   refine hend _ w6 v1 v2 (fun k hk=>?_) rfl rfl x6 h1 h2 c1 c2
   simp only [List.mem_cons,List.not_mem_nil,or_false] at hk
   rcases hk with rfl | rfl | rfl | rfl | rfl | rfl<;>simp only [upd_eq,Nat.reduceEqDiff,↓reduceIte]
  | true =>
   cases p with
   | false =>
    refine W_rg fun K hK=>(W_text [true,true,true,true,true,true,true,true,true,true,true,true,true,true,false,true,true,true,true,true] (by kernel_rfl) ?_);simp only [↓zZ1,↓reduceIte,Nat.reduceEqDiff,rg,ow_63,e4,e7,ptr_eq,q4,q70,q72,zl,zh]
    refine do_call fn_101 (by simp only [zZ2,Nat.reduceEqDiff,↓reduceIte,zZ4]<;>rfl) (split_any sv _ ord st.2 s.1 s.2 true w5 (SlV.ext0 hO X5) hOb hIt5 hIb) ?_
    rintro _ w6 ⟨v1,v2,rfl,h1,h2,c1,c2,_,x6⟩
    refine ⟨trivial,?_⟩
    simp only [↓zZ1,↓reduceIte,Nat.reduceEqDiff,rg,ow_63]
    apply hK;clear hK K
    refine hend _ w6 v1 v2 (fun k hk=>?_) rfl rfl x6 h1 h2 c1 c2
    simp only [List.mem_cons,List.not_mem_nil,or_false] at hk
    rcases hk with rfl | rfl | rfl | rfl | rfl | rfl<;>simp only [upd_eq,Nat.reduceEqDiff,↓reduceIte]
   | true =>
    refine W_rg fun K hK=>(W_text [true,true,true,true,true,true,true,true,true,true,true,true,true,true,false,true,true,true,true,true] (by kernel_rfl) ?_);simp only [↓zZ1,↓reduceIte,Nat.reduceEqDiff,rg,ow_63,e4,e7,ptr_eq,q4,q70,q72,zl,zh]
    refine do_call fn_101 (by simp only [zZ2,Nat.reduceEqDiff,↓reduceIte,zZ4]<;>rfl) (split_any sv _ ord st.2 s.1 s.2 false w5 (SlV.ext0 hO X5) hOb hIt5 hIb) ?_
    rintro _ w6 ⟨v1,v2,rfl,h1,h2,c1,c2,_,x6⟩
    refine ⟨trivial,?_⟩
    simp only [↓zZ1,↓reduceIte,Nat.reduceEqDiff,rg,ow_63]
    apply hK;clear hK K
    refine hend _ w6 v1 v2 (fun k hk=>?_) rfl rfl x6 h1 h2 c1 c2
    simp only [List.mem_cons,List.not_mem_nil,or_false] at hk
    rcases hk with rfl | rfl | rfl | rfl | rfl | rfl<;>simp only [upd_eq,Nat.reduceEqDiff,↓reduceIte]
 ·obtain rfl:i=ss.length:=by omega
  have ht:=lt_ff ss.length ss.length (by omega)
  refine W_sq fun K hK=>(W_text [true] (by kernel_rfl) ?_);simp only [↓zZ1,↓reduceIte,Nat.reduceEqDiff,rg,ow_63,e20,e21,ht]
  apply hK;clear hK K
  refine W_seq (W_false (by simp only [zZ2,Nat.reduceEqDiff,↓reduceIte,zZ3]<;>rfl) (W_exit ?_))
  simp only [andThen_exit,inBlk_exit,andThen_normal,↓reduceIte]
  refine W_sq fun K hK=>(W_text [true,true,true,true] (by kernel_rfl) ?_);simp only [↓zZ1,↓reduceIte,Nat.reduceEqDiff,rg,ow_63]
  apply hK;clear hK K
  rw [List.take_length] at hLL hIt
  exact W_ret (endQ_2 (by simp only [upd_eq,Nat.reduceEqDiff,↓reduceIte]<;>rfl) (by simp only [upd_eq,Nat.reduceEqDiff,↓reduceIte]<;>rfl) ⟨e 11,e 10,hs,rfl,hLL.mono fun y g=>by omega,hIt,X⟩)
end Go.Proofs.Ytbnnkcofnmipoaa
namespace Go.Proofs.Ytbnnkcofnmipoaa
open Go Go.Proofs Go.ChangeShapes Go.WideShapes Go.ChangeAt Go.RowKit
theorem span_td:∃ f0 f1:Field,Try.prog.underlying 57=some (.struct #[f0,f1])/\f0.offset=0/\f1.offset=2/\Try.prog.cellsOf f0.type=2/\Try.prog.cellsOf f1.type=2 ∧
  f0.type=33/\f1.type=33:=⟨_,_,Try.underlying57,by kernel_rfl,by kernel_rfl,by kernel_rfl,by kernel_rfl,by kernel_rfl,by kernel_rfl⟩
theorem range_td:∃ f0 f1 f2:Field,Try.prog.underlying 63=some (.struct #[f0,f1,f2])/\f0.offset=0/\f1.offset=1/\f2.offset=2/\Try.prog.cellsOf f0.type=1/\Try.prog.cellsOf f1.type=1/\Try.prog.cellsOf f2.type=1 ∧
  Try.prog.underlying f0.type=some .bool/\Try.prog.underlying f1.type=some .bool/\Try.prog.underlying f2.type=some .bool/\Try.prog.cellsOf 63=3:=⟨_,_,_,Try.underlying63,by kernel_rfl,by kernel_rfl,by kernel_rfl,by kernel_rfl,by kernel_rfl,by kernel_rfl,by kernel_rfl,by kernel_rfl,by kernel_rfl,by kernel_rfl⟩
set_option maxRecDepth 100000
section
variable {H:Type} {enc:TypeId × Value->H}
theorem elem_span {w:World}:∀ n cs x,DataW.trod enc Try.prog w 0 (fun _=>true) true n 57 cs=some x->cs.length=Esp.sz->∃ a:It × It,cs=Esp.cel a:=by
 obtain ⟨f0,f1,he,o0,o1,c0,c1,t0,t1⟩:=span_td
 obtain ⟨i0,i1,he',o0',o1',c0',c1',u0',u1'⟩:=item_td
 intro n cs x h hl
 obtain ⟨xs,k,_,_,_,hxl,hf⟩:=DataW.trod_struct he h
 match xs,hxl,cs,hl with
 | [y0,y1],_,[v0,v1,v2,v3],_ =>
  have g0:=hf 0 f0 rfl
  have g1:=hf 1 f1 rfl
  simp [o0,o1,c0,c1] at g0 g1
  rw [t0] at g0
  rw [t1] at g1
  obtain ⟨a,h1⟩:=elem_int2 he' o0' o1' c0' c1' u0' u1' _ _ _ g0 rfl
  obtain ⟨b,h2⟩:=elem_int2 he' o0' o1' c0' c1' u0' u1' _ _ _ g1 rfl
  simp only [List.cons.injEq,and_true] at h1 h2
  exact ⟨(a,b),by rw [h1.1,h1.2,h2.1,h2.2];rfl⟩
theorem open_spans {w:World} {base:Nat} {v:Value} {d:DataW H} {ps:List MemPlace} (hok:Value.okWide Try.prog w .any base 55 v)
  (h:DataW.Trod enc Try.prog w 0 (fun _=>true) true 55 v d ps) (hz:∀ b o,MemPlace.cell b o ∈ ps->w.frozen? ⟨b,o,none⟩=false):∃ l:List (It × It),SlSp w v l:=by
 have hce:Try.prog.cellsOf 57=Esp.sz:=by kernel_rfl
 exact open_arg (enc:=enc) Esp Try.underlying55 hce elem_span hok h hz
theorem open_range {w:World} {base:Nat} {v:Value} {d:DataW H} {ps:List MemPlace} (hok:Value.okWide Try.prog w .any base 63 v)
  (h:DataW.Trod enc Try.prog w 0 (fun _=>true) true 63 v d ps):∃ p nr mi:Bool,v=rgV p nr mi:=by
 obtain ⟨f0,f1,f2,he,o0,o1,o2,c0,c1,c2,u0,u1,u2,hce⟩:=range_td
 unfold Value.okWide at hok
 simp only [he] at hok
 obtain ⟨cs,rfl,hs,ts,hts,-,hrow⟩:=hok
 obtain ⟨fuel,h⟩:=h
 have hlen:cs.toList.length=3:=by rw [hce] at hs;simpa using hs
 obtain ⟨xs,k,_,hx,_,hxl,hf⟩:=DataW.trod_struct he h
 match hc:cs.toList,hlen with
 | [v0,v1,v2],_ =>
  match xs,hxl with
  | [y0,y1,y2],_ =>
   have hcl:(Value.agg cs).cells.toList=[v0,v1,v2]:=hc
   have g0:=hf 0 f0 rfl
   have g1:=hf 1 f1 rfl
   have g2:=hf 2 f2 rfl
   rw [hcl] at g0 g1 g2
   simp [o0,o1,o2,c0,c1,c2] at g0 g1 g2
   obtain ⟨a,h0,_⟩:=DataW.trod_bool u0 g0
   obtain ⟨b,h1,_⟩:=DataW.trod_bool u1 g1
   obtain ⟨c,h2,_⟩:=DataW.trod_bool u2 g2
   simp only [List.cons.injEq,and_true] at h0 h1 h2
   subst h0 h1 h2
   refine ⟨a,b,c,?_⟩
   unfold rgV
   congr 1
   exact Array.ext' hc
end
end Go.Proofs.Ytbnnkcofnmipoaa
namespace Go.Proofs.Ytbnnkcofnmipoaa
open Go Go.Proofs
theorem blk_ok {a:Option Addr} {n c:Nat} (h:okA a n c) {y:Nat} (hy:blk a=some y):∃ oi,a=some ⟨y,oi,none⟩:=by
 rcases h with ⟨rfl,_⟩ | ⟨bi,oi,rfl⟩
 ·cases hy
 ·cases hy;exact ⟨oi,rfl⟩
structure Bet (B m d:Nat) (ord:List Int) (ex:Bool) (lb S0:Nat) (w:World) (st:List (List It) × List It) (v:Value) (F:Nat->Nat->Prop) (a:Option Addr) (n c:Nat) (hs:List Hd) (K:Nat->Prop):Prop where
 t:TreeAt B ord w m d 1 st.2 F
 l:LbAt m F lb w a n c
 ea:ex=false->a=none
 ll:LL K w v hs st.1
 kk:∀ y,K y->y<w.heap.size/\m<y/\y ≠ lb/\blk a ≠ some y/\∀ o,¬ F y o
 sm:S0<=m
 sF:∀ y o,F y o->S0<=y
 sa:∀ y,blk a=some y->S0<=y
theorem Bet.ext {B m d:Nat} {ord:List Int} {ex:Bool} {lb S0:Nat} {w w':World} {st:List (List It) × List It} {v:Value} {F:Nat->Nat->Prop} {a:Option Addr} {n c:Nat} {hs:List Hd} {K:Nat->Prop} (h:Bet B m d ord ex lb S0 w st v F a n c hs K) (x:Ext noF w w'):Bet B m d ord ex lb S0 w' st v F a n c hs K :=
 ⟨h.t.ext x,h.l.ext x fun _ g=>g,h.ea,h.ll.ext x fun _ _ _ g=>g,fun y hy=>by obtain ⟨g1,g2⟩:=h.kk y hy;exact ⟨Nat.lt_of_lt_of_le g1 x.size,g2⟩,h.sm,h.sF,h.sa⟩
theorem Bet.mid {B m d:Nat} {ord:List Int} {ex mi:Bool} {lb S0:Nat} {wz u0 u1 w9 w10:World} {st:List (List It) × List It} {ev:Value} {F:Nat->Nat->Prop} {a:Option Addr} {n c:Nat} {hs:List Hd} {K:Nat->Prop} (h:Bet B m d ord ex lb S0 wz st ev F a n c hs K) (xu:Ext noF wz u0) (s:It × It)
  {F':Nat->Nat->Prop} {a':Option Addr} {n' c':Nat} {lv:Value} {cnt:Int} {v:Value} (R:RgR B m d 1 ord st.2 F s.1 s.2 ex mi lb a wz u0 F' a' n' c' lv cnt v u1) (xb:Nat) (hxb:(wz.heap.size<=xb/\xb<u0.heap.size)\/u1.heap.size<=xb) (x9:Ext (rng xb 0 4) u1 w9)
  (x10:Ext (fun y _=>y=xb\/blk a'=some y) w9 w10):LL K w10 ev hs st.1:=by
 have hml:=h.t.mlt
 have hlb:=wok_lt h.l.wk
 have hlm:=h.l.ml
 have hsm:=h.sm
 have zu:=xu.size
 have z1:=R.x.size
 have z9:=x9.size
 have hxz:wz.heap.size<=xb:=by rcases hxb with g | g<;>omega
 have hKG:∀ y,(∀ o,¬ F y o)->m<y->y ≠ lb->blk a ≠ some y->¬ ((∃ o,F y o)\/y=m\/y=lb\/blk a=some y):=fun y h1 h2 h3 h4 g=>by
  rcases g with ⟨o,g⟩ | g | g | g
  ·exact h1 o g
  ·omega
  ·exact h3 g
  ·exact h4 g
 have hK:∀ y,K y->¬ ((∃ o,F y o)\/y=m\/y=lb\/blk a=some y):=fun y hy=>by
  obtain ⟨g1,g2,g3,g4,g5⟩:=h.kk y hy
  exact hKG y g5 g2 g3 g4
 have hold:∀ y,((∃ o,F y o)\/y=m\/y=lb\/blk a=some y)\/wz.heap.size<=y->¬ K y/\S0<=y:=fun y g=>by
  rcases g with g | g
  ·refine ⟨fun k=>hK y k g,?_⟩
   rcases g with ⟨o,g⟩ | g | g | g
   ·exact h.sF y o g
   ·omega
   ·omega
   ·exact h.sa y g
  ·exact ⟨fun k=>by have:=(h.kk y k).1;omega,by omega⟩
 have hKx:∀ y,K y->y ≠ xb:=fun y hy e=>by have:=(h.kk y hy).1;omega
 have hF':∀ y o,F' y o->y<u1.heap.size/\y ≠ xb/\¬ K y/\S0<=y:=fun y o g=>by
  have g1:=R.t.lt y o g
  obtain ⟨g2,g3⟩:=hold y (R.F y o g)
  refine ⟨g1,fun e=>?_,g2,g3⟩
  rcases hxb with k | k
  ·exact R.fS y o g ⟨by omega,by omega⟩
  ·omega
 have hA:∀ y,blk a'=some y->m<y/\y ≠ lb/\(∀ o,¬ F' y o)/\¬ K y/\S0<=y/\y<u1.heap.size:=fun y e=>by
  obtain ⟨oi,ha⟩:=blk_ok R.l.ha e
  obtain ⟨g1,g2,g3,g4,g5⟩:=R.l.kb y oi ha
  obtain ⟨g6,g7⟩:=hold y (R.k y e)
  exact ⟨g1,g2,g3,g6,g7,(R.kS y e).2⟩
 have hlu:=wok_lt R.l.wk
 have hxl:xb ≠ lb:=by rcases hxb with g | g<;>omega
 exact ((h.ll.ext R.x fun y o hy g=>hK y hy g).ext x9 fun y o hy g=>hKx y hy g.1).ext x10 fun y o hy g=>by
  rcases g with g | g
  ·exact hKx y hy g
  ·exact (hA y g).2.2.2.1 hy
theorem Bet.step {B m d:Nat} {ord:List Int} {ex mi:Bool} {lb S0:Nat} {wz u0 u1 w9 w10 w11 w12:World} {st:List (List It) × List It} {ev:Value} {F:Nat->Nat->Prop} {a:Option Addr} {n c:Nat} {hs:List Hd} {K:Nat->Prop} (h:Bet B m d ord ex lb S0 wz st ev F a n c hs K) (xu:Ext noF wz u0) (s:It × It)
  {F':Nat->Nat->Prop} {a':Option Addr} {n' c':Nat} {lv:Value} {cnt:Int} {v:Value} (R:RgR B m d 1 ord st.2 F s.1 s.2 ex mi lb a wz u0 F' a' n' c' lv cnt v u1) (xb:Nat) (hxb:(wz.heap.size<=xb/\xb<u0.heap.size)\/u1.heap.size<=xb) (x9:Ext (rng xb 0 4) u1 w9)
  {hd0:Hd} {ev':Value} (x10:Ext (fun y _=>y=xb\/blk a'=some y) w9 w10) (h0:SlI w10 (hdV hd0) (if ex then st.2.filter (inI ord mi s.1 s.2) else [])) (c0:since w9.heap.size (hdV hd0)) (x11:Ext noF w10 w11) (ap:AppRes w11 1 ev hs.length 1 (flat Ehd hs) [hdV hd0] ev' w12) :
  (∃ F a n c hs K,Bet B m d ord ex lb S0 w12 (stepR ord ex mi st s) ev' F a n c hs K)/\Ext (fun y _=>S0<=y) wz w12:=by
 have hml:=h.t.mlt
 have hlb:=wok_lt h.l.wk
 have hlm:=h.l.ml
 have hsm:=h.sm
 have zu:=xu.size
 have z1:=R.x.size
 have z9:=x9.size
 have z10:=x10.size
 have z11:=x11.size
 have hxz:wz.heap.size<=xb:=by rcases hxb with g | g<;>omega
 have hKG:∀ y,(∀ o,¬ F y o)->m<y->y ≠ lb->blk a ≠ some y->¬ ((∃ o,F y o)\/y=m\/y=lb\/blk a=some y):=fun y h1 h2 h3 h4 g=>by
  rcases g with ⟨o,g⟩ | g | g | g
  ·exact h1 o g
  ·omega
  ·exact h3 g
  ·exact h4 g
 have hK:∀ y,K y->¬ ((∃ o,F y o)\/y=m\/y=lb\/blk a=some y):=fun y hy=>by
  obtain ⟨g1,g2,g3,g4,g5⟩:=h.kk y hy
  exact hKG y g5 g2 g3 g4
 have hold:∀ y,((∃ o,F y o)\/y=m\/y=lb\/blk a=some y)\/wz.heap.size<=y->¬ K y/\S0<=y:=fun y g=>by
  rcases g with g | g
  ·refine ⟨fun k=>hK y k g,?_⟩
   rcases g with ⟨o,g⟩ | g | g | g
   ·exact h.sF y o g
   ·omega
   ·omega
   ·exact h.sa y g
  ·exact ⟨fun k=>by have:=(h.kk y k).1;omega,by omega⟩
 have hKx:∀ y,K y->y ≠ xb:=fun y hy e=>by have:=(h.kk y hy).1;omega
 have hF':∀ y o,F' y o->y<u1.heap.size/\y ≠ xb/\¬ K y/\S0<=y:=fun y o g=>by
  have g1:=R.t.lt y o g
  obtain ⟨g2,g3⟩:=hold y (R.F y o g)
  refine ⟨g1,fun e=>?_,g2,g3⟩
  rcases hxb with k | k
  ·exact R.fS y o g ⟨by omega,by omega⟩
  ·omega
 have hA:∀ y,blk a'=some y->m<y/\y ≠ lb/\(∀ o,¬ F' y o)/\¬ K y/\S0<=y/\y<u1.heap.size:=fun y e=>by
  obtain ⟨oi,ha⟩:=blk_ok R.l.ha e
  obtain ⟨g1,g2,g3,g4,g5⟩:=R.l.kb y oi ha
  obtain ⟨g6,g7⟩:=hold y (R.k y e)
  exact ⟨g1,g2,g3,g6,g7,(R.kS y e).2⟩
 have hlu:=wok_lt R.l.wk
 have hxl:xb ≠ lb:=by rcases hxb with g | g<;>omega
 have L10:=((h.ll.ext R.x fun y o hy g=>hK y hy g).ext x9 fun y o hy g=>hKx y hy g.1).ext x10 fun y o hy g=>by
  rcases g with g | g
  ·exact hKx y hy g
  ·exact (hA y g).2.2.2.1 hy
 have L11:=(L10.ext x11 fun _ _ _ g=>g).mono (K':=fun y=>K y\/(w9.heap.size<=y/\y<w11.heap.size)) fun y hy=>.inl hy
 have h11:=SlV.ext0 h0 x11
 have hap:apart2 ev (hdV hd0):=fun b o n c o' n' c' k1 k2=>by
  have g1:=c0 _ _ _ _ k2
  have g2:=(h.kk b (h.ll.vk _ _ _ _ k1)).1
  omega
 obtain ⟨L12,x12⟩:=L11.push h11 (fun b o n c e=>.inr ⟨c0 _ _ _ _ e,SlV.lt h11 e⟩) hap ap
 have z12:=x12.size
 have hK1:∀ y,(K y\/(w9.heap.size<=y/\y<w11.heap.size))->m<y/\y ≠ lb/\blk a' ≠ some y/\(∀ o,¬ F' y o)/\S0<=y:=fun y g=>by
  rcases g with g | g
  ·obtain ⟨g1,g2,g3,g4,g5⟩:=h.kk y g
   exact ⟨g2,g3,fun e=>(hA y e).2.2.2.1 g,fun o k=>(hF' y o k).2.2.1 g,by omega⟩
  ·exact ⟨by omega,by omega,fun e=>by have:=(hA y e).2.2.2.2.2;omega,fun o k=>by have:=(hF' y o k).1;omega,by omega⟩
 have t9:=R.t.extG x9 (fun y o hy g=>(hF' y o hy).2.1 g.1) fun y o g=>by have:=g.1;omega
 have t10:=t9.extG x10 (fun y o hy g=>by
  rcases g with g | g
  ·exact (hF' y o hy).2.1 g
  ·exact (hA y g).2.2.1 o hy) fun y o g=>by
  rcases g with g | g
  ·omega
  ·exact (hA y g).1
 have t12:=(t10.ext x11).extG x12 (fun y o hy g=>(hK1 y g).2.2.2.1 o hy) fun y o g=>(hK1 y g).1
 have l12:=(((R.l.ext x9 fun o g=>hxl g.1.symm).ext x10 fun o g=>by
  rcases g with g | g
  ·exact hxl g.symm
  ·exact (hA lb g).2.1 rfl).ext x11 fun _ g=>g).ext x12 fun o g=>(hK1 lb g).2.1 rfl
 refine ⟨⟨F',a',n',c',hs++[hd0],_,t12,l12,R.ea,L12,fun y hy=>?_,hsm,fun y o g=>(hF' y o g).2.2.2,fun y e=>(hA y e).2.2.2.2.1⟩,?_⟩
 ·rcases hy with hy | ⟨hy,hz⟩
  ·obtain ⟨g1,g2,g3,g4,_⟩:=hK1 y hy
   refine ⟨?_,g1,g2,g3,g4⟩
   rcases hy with hy | hy
   ·have:=(h.kk y hy).1;omega
   ·omega
  ·exact ⟨hz,by omega,by omega,fun e=>by have:=(hA y e).2.2.2.2.2;omega,fun o k=>by have:=(hF' y o k).1;omega⟩
 ·refine ((((R.x.mono fun y o _ g=>(hold y (.inl g)).2).tr (x9.mono fun y o _ g=>?_)).tr (x10.mono fun y o _ g=>?_)).tr (x11.mono fun _ _ _ g=>g.elim)).tr (x12.mono fun y o _ g=>(hK1 y g).2.2.2.2)
  ·have:=g.1;omega
  ·rcases g with g | g
   ·omega
   ·exact (hA y g).2.2.2.2.1
set_option maxHeartbeats 3200000 in
set_option maxRecDepth 8000 in
theorem impl_delr (d:Nat) (hd:DOk d) (ord:List Int) (sv:Value) (nl:Bool) (l:List It) (lv:Value) (ss:List (It × It)) (spv:Value) (p nr mi:Bool) (w:World) (hO:SlInt w sv ord) (hOb:ord.length<=2147483647) (hl:SlI w lv l) (hbig:l.length<=2147483647) (hsp:SlSp w spv ss) (hsb:ss.length<=2147483647) :
  CallK Try.prog 34 #[mkV sv d nl,lv,spv,rgV p nr mi] w fun v w'=>∃ v1 v2 K hs,v = .tuple #[v1,v2]/\LL K w' v1 hs (runR ord (p || !nr) (mi && !p) (treeG ord l) ss).1/\SlI w' v2 (runR ord (p || !nr) (mi && !p) (treeG ord l) ss).2/\Ext noF w w':=by
 obtain ⟨a0,c0,hv0⟩:=SlV.shape hsp
 obtain ⟨hd2,hd3⟩:=hd.of
 refine calls_of_W [.tmp 8,.tmp 9] Try.func34 rfl Try.ntmps34 Try.results34 (by simp) fun e he=>?_
 have e0:e 0=mkV sv d nl:=he 0 _ rfl
 have e1:e 1=lv:=he 1 _ rfl
 have e2:e 2 = .slice a0 ss.length c0:=by rw [<-hv0];exact he 2 _ rfl
 have e3:e 3=rgV p nr mi:=he 3 _ rfl
 clear he
 have htl:=treeG_len ord l
 refine W_sq fun K hK=>(W_text [false,false,true,true] (by kernel_rfl) ?_);simp only [↓zZ1,↓reduceIte,Nat.reduceEqDiff,rg,ow_34]
 refine do_box (by simp only [evt];exact e0) fun w1 n1=>⟨trivial,?_⟩
 simp only [↓zZ1,↓reduceIte,Nat.reduceEqDiff,rg,ow_34]
 refine do_box (v:=rgV p nr mi) (by simp only [evt,upd_eq,Nat.reduceEqDiff,↓reduceIte];exact e3) fun w2 n2=>⟨trivial,?_⟩
 simp only [↓zZ1,↓reduceIte,Nat.reduceEqDiff,rg,ow_34]
 apply hK;clear hK K
 have s1:=n1.size
 have s2:=n2.size
 have X2:=n1.ext.tr n2.ext
 have P4:Row w2 w.heap.size 0 (mkL sv d nl):=n2.ext.row (show Row w1 w.heap.size 0 (mkL sv d nl) from n1.row) fun _ _ g=>g
 have P7:Row w2 w1.heap.size 0 [.bool p,.bool nr,.bool mi]:=n2.row
 have rm:=mk_at P4
 refine W_sq fun K hK=>(W_text [true,true,false,true] (by kernel_rfl) ?_);simp only [↓zZ1,↓reduceIte,Nat.reduceEqDiff,rg,ow_34,e1,ptr_eq,rm]
 refine do_call fn_43 (by simp only [zZ2,Nat.reduceEqDiff,↓reduceIte,zZ4]<;>rfl) (growG_any d hd ord sv nl l lv w2 (SlV.ext0 hO X2) hOb (SlV.ext0 hl X2) (by omega)) ?_
 rintro _ w3 ⟨x3,B,m,F0,rfl,hM,hm,hsi⟩
 refine ⟨trivial,?_⟩
 simp only [↓zZ1,↓reduceIte,Nat.reduceEqDiff,rg,ow_34]
 apply hK;clear hK K
 have s3:=x3.size
 have hml:=hM.mlt
 refine W_sq fun K hK=>(W_text [false] (by kernel_rfl) ?_);simp only [↓zZ1,↓reduceIte,Nat.reduceEqDiff,rg,ow_34]
 refine do_alloc z_list fun w4 n4=>⟨trivial,?_⟩
 simp only [↓zZ1,↓reduceIte,Nat.reduceEqDiff,rg,ow_34]
 apply hK;clear hK K
 have s4:=n4.size
 have X4:=(X2.tr x3).tr n4.ext
 have R4:Row w4 w3.heap.size 0 [nilF,.int .i64 0,.int .i64 0,.slice none 0 0]:=n4.row
 have hB0:Bet B m (degOf d) ord (p || !nr) w3.heap.size w2.heap.size w4 (runR ord (p || !nr) (mi && !p) (treeG ord l) (ss.take 0)) (.slice none 0 0) F0 none 0 0 [] (fun _=>False):=by
  rw [List.take_zero]
  exact ⟨hM.ext n4.ext,⟨n4.wok,(Row.cons.1 (Row.cons.1 (Row.cons.1 (Row.cons.1 R4).2).2).2).1,.inl ⟨rfl,rfl,rfl⟩,Nat.le_refl _,hml,fun o g=>Nat.lt_irrefl _ (hM.lt _ _ g),fun bi oi e=>(by cases e)⟩,fun _=>rfl,LL.nil _ _,fun y g=>g.elim,hm,hsi,fun y e=>(by cases e)⟩
 refine W_sq fun K hK=>(W_text [true] (by kernel_rfl) ?_);simp only [↓zZ1,↓reduceIte,Nat.reduceEqDiff,rg,ow_34]
 apply hK;clear hK K
 refine W_seq (W_seq ?_)
 refine W_rg fun K hK=>(W_text [true,true,true] (by kernel_rfl) ?_);simp only [↓zZ1,↓reduceIte,Nat.reduceEqDiff,rg,ow_34,e2]
 apply hK;clear hK K
 show W _ _ _ _ _ _
 refine W_block (W_loop (fun mm e w'=>∃ i:Nat,mm=ss.length-i/\i<=ss.length/\Ext noF w w'/\w2.heap.size<=w'.heap.size/\Row w' w1.heap.size 0 [.bool p,.bool nr,.bool mi]/\e 7=ptr w1.heap.size/\e 10=ptr m/\e 11=ptr w3.heap.size/\e 19 = .slice a0 ss.length c0/\e 20 = .int .i64 ss.length/\e 21 = .int .i64 i ∧
   ∃ F a n c hs K,Bet B m (degOf d) ord (p || !nr) w3.heap.size w2.heap.size w' (runR ord (p || !nr) (mi && !p) (treeG ord l) (ss.take i)) (e 12) F a n c hs K)
  ss.length ⟨0,by simp,by simp,X4,(by omega),(x3.tr n4.ext).row P7 (fun _ _ g=>g),rfl,(by simp only [upd_eq,Nat.reduceEqDiff,↓reduceIte];first | done | rfl),rfl,(by first | (simp only [upd_eq,Nat.reduceEqDiff,↓reduceIte];done) | (simp only [upd_eq,Nat.reduceEqDiff,↓reduceIte];first | rfl | exact e2)),(by first | (simp only [upd_eq,Nat.reduceEqDiff,↓reduceIte];done) | (simp only [upd_eq,Nat.reduceEqDiff,↓reduceIte];rfl)),(by first | (simp only [upd_eq,Nat.reduceEqDiff,↓reduceIte];done) | (simp only [upd_eq,Nat.reduceEqDiff,↓reduceIte];rfl)),F0,none,0,0,[],_,(hB0)⟩ ?_)
 clear e0 e1 e2 e3 e P4 P7 rm hB0
 rintro mm e w' ⟨i,rfl,hi,X,XS,P7,e7,e10,e11,e19,e20,e21,F,a,n,c,hs,K,hBt⟩
 by_cases hlt:i<ss.length
 ·have ht:=lt_tt i ss.length hlt
  refine W_sq fun K hK=>(W_text [true] (by kernel_rfl) ?_);simp only [↓zZ1,↓reduceIte,Nat.reduceEqDiff,rg,ow_34,e20,e21,ht]
  apply hK;clear hK K
  refine W_seq (W_true (by simp only [zZ2,Nat.reduceEqDiff,↓reduceIte,zZ3]<;>rfl) (W_skip ?_))
  show W _ _ _ _ _ _
  obtain ⟨s,hs1⟩:∃ x,ss[i]? = some x:=⟨_,List.getElem?_eq_getElem hlt⟩
  obtain ⟨b1,o1,g1,r1⟩:=SlV.at hsp hv0 hlt
  subst g1
  have y1:=spV_at (X.row r1 fun _ _ h=>h) hs1
  have htk:ss.take (i+1)=ss.take i++[s]:=take_snoc hs1
  obtain ⟨L1,L2,L3⟩:=runR_len ord (p || !nr) (mi && !p) (treeG ord l) (ss.take i)
  have hst:=runR_snoc ord (p || !nr) (mi && !p) (treeG ord l) (ss.take i) s
  generalize runR ord (p || !nr) (mi && !p) (treeG ord l) (ss.take i)=st at hBt L1 L2 L3 hst
  refine W_seq (W_block ?_)
  refine W_sq fun K hK=>(W_text [true,true,false,false] (by kernel_rfl) ?_);simp only [↓zZ1,↓reduceIte,Nat.reduceEqDiff,rg,ow_34,e19,e21,hlt,y1]
  refine do_alloc z_span fun w4 n4=>⟨trivial,?_⟩
  simp only [↓zZ1,↓reduceIte,Nat.reduceEqDiff,rg,ow_34]
  refine do_store (v:=spV s) (by simp only [zZ2,Nat.reduceEqDiff,↓reduceIte,zZ3]<;>rfl) (by simp only [zZ2,Nat.reduceEqDiff,↓reduceIte,zZ3]<;>rfl) sz_57 rfl n4.wok (by decide) (Esp.one s) fun w5 x5 r5 s5=>⟨trivial,?_⟩
  simp only [↓zZ1,↓reduceIte,Nat.reduceEqDiff,rg,ow_34]
  apply hK;clear hK K
  have s4:=n4.size
  have Y5:Ext noF w' w5:=n4.ext.trans x5 (fun _ _ g=>g) fun y o hy g=>by have:=g.1;omega
  have X5:=X.tr Y5
  have rs:Row w5 w'.heap.size 0 ([.int .i64 s.1.1,.int .i64 s.1.2]++[.int .i64 s.2.1,.int .i64 s.2.2]):=r5
  have zl:rdA w5 w'.heap.size 0 2=some (iV s.1):=(Row.append.1 rs).1.rdA 2 (Nat.le_refl _)
  have zh:rdA w5 w'.heap.size 2 2=some (iV s.2):=(Row.append.1 rs).2.rdA 2 (Nat.le_refl _)
  have P7':=Y5.row P7 fun _ _ g=>g
  have zo:rdA w5 w1.heap.size 0 3=some (rgV p nr mi):=P7'.rdA 3 (Nat.le_refl _)
  have hB5:=hBt.ext Y5
  have s5':=Y5.size
  have M1:readsB (some (some [w'.heap.size,w1.heap.size])) w'.heap.size=true:=by simp [readsB]
  have M2:readsB (some (some [w'.heap.size,w1.heap.size])) w1.heap.size=true:=by simp [readsB]
  refine W_sqx fun J hJ=>?_
  have hend:∀ (g:Env) (u0 u1 w9:World) (xb:Nat) (F':Nat->Nat->Prop) (a':Option Addr) (n' c':Nat) (lv:Value) (cnt:Int) (v:Value),(∀ k,k ∈ [7,10,11,12,19,20,21]->g k=e k)->g 15=ptr xb->Ext noF w5 u0->RgR B m (degOf d) 1 ord st.2 F s.1 s.2 (p || !nr) (mi && !p) w3.heap.size a w5 u0 F' a' n' c' lv cnt v u1->((w5.heap.size<=xb/\xb<u0.heap.size)\/u1.heap.size<=xb)->Ext (rng xb 0 4) u1 w9 →
    Row w9 xb 0 [lv,.int .i64 cnt,.int .i64 0,.slice a' (n':Nat) c']->wok w9 xb 4->J g w9:=by
   intro g u0 u1 w9 xb F' a' n' c' lv cnt v hg g15 xu R hxb x9 r9 k9
   refine hJ _ _ ?_;clear hJ J
   have g12:g 12=e 12:=hg 12 (by simp)
   refine W_rg fun K hK=>(W_text [true,false,false,false,true] (by kernel_rfl) ?_);simp only [↓zZ1,↓reduceIte,Nat.reduceEqDiff,rg,ow_34,g12,g15]
   refine do_call fn_62 (vs:=#[ptr xb]) (by simp only [zZ2,Nat.reduceEqDiff,↓reduceIte,zZ4,g15]<;>rfl) (R.s w9 xb (x9.mono fun y o _ g=>.inl g.1) (hxb.imp id .inl) r9 k9) ?_
   rintro v10 w10 ⟨h0,c0',x10⟩
   obtain ⟨hd0,rfl⟩:=hdV_of h0
   refine ⟨trivial,?_⟩
   simp only [↓zZ1,↓reduceIte,Nat.reduceEqDiff,rg,ow_34]
   refine do_bsl rfl (bs_ll hd0) fun w11 n11=>⟨trivial,?_⟩
   simp only [↓zZ1,↓reduceIte,Nat.reduceEqDiff,rg,ow_34]
   have n11:=n11.od
   have x11:=n11.ext
   have hx11:SlV w11 1 (.slice (some ⟨w10.heap.size,0,none⟩) 1 1) 1 [hdV hd0]:=⟨rfl,.inr ⟨_,0,1,rfl,Nat.le_refl _,n11.row,n11.wok.R (Nat.le_refl _)⟩⟩
   have hlen:=hB5.ll.len
   have L1':st.1.length<=i:=by rw [L1,List.length_take];omega
   have hsl:SlV w11 1 (e 12) hs.length (flat Ehd hs):=SlV.ext0 (hB5.mid xu s R xb hxb x9 x10).sl x11
   refine do_append (by simp only [zZ2,Nat.reduceEqDiff,↓reduceIte,zZ3]<;>rfl) (by simp only [zZ2,Nat.reduceEqDiff,↓reduceIte,zZ3]<;>rfl) el_ll rfl ni_ll hsl hx11 (by omega) (by decide) (Ehd.one hd0) fun v12 w12 a12=>⟨trivial,?_⟩
   simp only [↓zZ1,↓reduceIte,Nat.reduceEqDiff,rg,ow_34]
   apply hK;clear hK K
   obtain ⟨⟨F2,a2,n2',c2,hs2,K2,hB2⟩,x12⟩:=hB5.step xu s R xb hxb x9 x10 h0 c0' x11 a12
   have s12:=x12.size
   have X12:Ext noF w w12:=noF_of X5 x12 fun y o hy h=>by omega
   have q1:=wadd1 i (by omega)
   have g21:g 21 = .int .i64 i:=(hg 21 (by simp)).trans e21
   refine W_rg fun K hK=>(W_text [true,true] (by kernel_rfl) ?_);simp only [↓zZ1,↓reduceIte,Nat.reduceEqDiff,rg,ow_34,g21,q1]
   apply hK;clear hK K
   refine ⟨_,?_,i+1,rfl,hlt,X12,(by omega),?_,((hg 7 (by simp)).trans e7),((hg 10 (by simp)).trans e10),((hg 11 (by simp)).trans e11),((hg 19 (by simp)).trans e19),((hg 20 (by simp)).trans e20),rfl,F2,a2,n2',c2,hs2,K2,?_⟩
   ·omega
   ·exact x12.row P7' fun _ _ g=>by omega
   ·simp only [upd_eq,Nat.reduceEqDiff,↓reduceIte]
    rw [htk,hst]
    exact hB2
  clear hJ
  have hIb:st.2.length<=2147483647:=by omega
  refine W_rg fun K hK=>(W_free (some (some [w'.heap.size,w1.heap.size])) (.take 0 (.take 1 (.take 2 (.take 3 (.take 4 (.take 5 (.split 6 (.split 7 (.act 8 (.bar 9 .nil)) 8 (.act 7 (.bar 9 .nil))) 8 (.act 6 (.act 7 (.bar 9 .nil)))))))))) mixed (by kernel_rfl) ?_);simp only [↓zZ1,↓reduceIte,Nat.reduceEqDiff,rg,ow_34,e7,e10,e11,ptr_eq,zl,zh,zo,M1,M2]
  have keep:∀ {x y:World},Ext noF x y->w5.heap.size<=x.heap.size->keeps (some (some [w'.heap.size,w1.heap.size])) x y:=fun x h=>keeps_on x fun y hy=>⟨by
   simp only [List.mem_cons,List.not_mem_nil,or_false] at hy
   omega,fun _ g=>g⟩
  have keepX:∀ {x y:World} {xb:Nat},Ext (rng xb 0 4) x y->w5.heap.size<=xb/\w5.heap.size<=x.heap.size->keeps (some (some [w'.heap.size,w1.heap.size])) x y:=fun x h=>keeps_on x fun y hy=>by
   simp only [List.mem_cons,List.not_mem_nil,or_false] at hy
   exact ⟨by omega,fun o g=>by have:=g.1;omega⟩
  have keepR:∀ {x y:World},Ext (fun y _=>((∃ o,F y o)\/y=m\/y=w3.heap.size\/blk a=some y)\/w5.heap.size<=y) x y->w5.heap.size<=x.heap.size->keeps (some (some [w'.heap.size,w1.heap.size])) x y:=fun x h=>keeps_on x fun y hy=>by
   simp only [List.mem_cons,List.not_mem_nil,or_false] at hy
   refine ⟨by omega,fun o g=>?_⟩
   have hlt:=hBt.t.lt
   have hml':=hBt.t.mlt
   have hlw:=wok_lt hBt.l.wk
   have hsm:=hBt.sm
   rcases g with (⟨o',g⟩ | g | g | g) | g
   ·have:=hlt y o' g;have:=hBt.sF y o' g;omega
   ·omega
   ·omega
   ·obtain ⟨oi,ha⟩:=blk_ok hBt.l.ha g
    have:=wok_lt (hBt.l.kb y oi ha).2.2.2.1
    have:=hBt.sa y g
    omega
   ·omega
  have xd:Ext noF w5 (dr w5 (w5.drawn+1)):=Ext.dr _ _ _
  have zd:(dr w5 (w5.drawn+1)).heap.size=w5.heap.size:=rfl
  refine ⟨?_,?_⟩
  ·refine do_call fn_61 (vs:=#[rgV p nr mi]) (by simp only [zZ2,Nat.reduceEqDiff,↓reduceIte,zZ4]<;>rfl) (ranges_any p nr mi (dr w5 (w5.drawn+1))) ?_
   rintro _ u1 ⟨ov,nr',mi',rfl,xr,hov,hex,hmi⟩
   have zr:=xr.size
   have xu:Ext noF w5 u1:=xd.tr xr
   have zu1:=xu.size
   refine ⟨by first | exact trivial | exact .inr (keep xr (by omega)),?_⟩
   simp only [↓zZ1,↓reduceIte,Nat.reduceEqDiff,rg,ow_34,e10,e11,ptr_eq,zl,zh,zo,M1,M2]
   refine ⟨?_,?_⟩
   ·refine do_call fn_60 (vs:=#[ptr m,itV s.1,itV s.2,oV ov,ptr w3.heap.size]) (by simp only [zZ2,Nat.reduceEqDiff,↓reduceIte,zZ4,e11]<;>rfl) (range_res B m (degOf d) 1 ord hd2 hd3 st.2 F w5 u1 xu hB5.t hIb s.1 s.2 ov nr' mi' hov w3.heap.size n c a hB5.l (p || !nr) (mi && !p) hex (hmi.trans (Bool.and_comm _ _)) hB5.ea) ?_
    rintro _ u2 ⟨F',a',n',c',lv,cnt,R⟩
    obtain rfl:=R.v
    have zy:=R.y.size
    refine ⟨by first | exact trivial | exact .inr (keepR R.y (by omega)),?_⟩
    simp only [↓zZ1,↓reduceIte,Nat.reduceEqDiff,rg,ow_34,e10,e11,ptr_eq,zl,zh,zo,M1,M2]
    refine do_alloc z_list fun u3 n3=>⟨by first | exact trivial | exact .inr (keep n3.ext (by omega)),?_⟩
    have zu3:=n3.size
    simp only [↓zZ1,↓reduceIte,Nat.reduceEqDiff,rg,ow_34,e10,e11,ptr_eq,zl,zh,zo,M1,M2]
    refine do_store (v:=.agg #[lv,.int .i64 cnt,.int .i64 0,.slice a' (n':Nat) c']) (by simp only [zZ2,Nat.reduceEqDiff,↓reduceIte,zZ3]<;>rfl) (by simp only [zZ2,Nat.reduceEqDiff,↓reduceIte,zZ3]<;>rfl) sz_115 rfl n3.wok (by decide) (R.oc) fun w9 x9 r9 s9=>⟨by first | exact trivial | exact .inr (keepX x9 (by omega)),?_⟩
    simp only [↓zZ1,↓reduceIte,Nat.reduceEqDiff,rg,ow_34]
    apply hK;clear hK K
    refine hend _ u1 u2 w9 u2.heap.size F' a' n' c' lv cnt _ (fun k hk=>?_) (by simp only [upd_eq,Nat.reduceEqDiff,↓reduceIte];first | done | rfl) xu R (.inr (Nat.le_refl _)) ((n3.ext.mono fun _ _ _ g=>g.elim).tr x9) r9 (x9.wok n3.wok)
    simp only [List.mem_cons,List.not_mem_nil,or_false] at hk
    rcases hk with rfl | rfl | rfl | rfl | rfl | rfl | rfl<;>simp only [upd_eq,Nat.reduceEqDiff,↓reduceIte]
   ·refine do_alloc z_list fun u2 n2=>⟨by first | exact trivial | exact .inr (keep n2.ext (by omega)),?_⟩
    have zu2:=n2.size
    simp only [↓zZ1,↓reduceIte,Nat.reduceEqDiff,rg,ow_34,e10,e11,ptr_eq,zl,zh,zo,M1,M2]
    have xu2:=xu.tr n2.ext
    refine do_call fn_60 (vs:=#[ptr m,itV s.1,itV s.2,oV ov,ptr w3.heap.size]) (by simp only [zZ2,Nat.reduceEqDiff,↓reduceIte,zZ4,e11]<;>rfl) (range_res B m (degOf d) 1 ord hd2 hd3 st.2 F w5 u2 xu2 hB5.t hIb s.1 s.2 ov nr' mi' (fun ob h=>⟨n2.ext.rd (hov ob h).1 fun g=>g,n2.ext.rd (hov ob h).2 fun g=>g⟩) w3.heap.size n c a hB5.l (p || !nr) (mi && !p) hex (hmi.trans (Bool.and_comm _ _)) hB5.ea) ?_
    rintro _ u3 ⟨F',a',n',c',lv,cnt,R⟩
    obtain rfl:=R.v
    have zy:=R.y.size
    refine ⟨by first | exact trivial | exact .inr (keepR R.y (by omega)),?_⟩
    simp only [↓zZ1,↓reduceIte,Nat.reduceEqDiff,rg,ow_34,e10,e11,ptr_eq,zl,zh,zo,M1,M2]
    refine do_store (v:=.agg #[lv,.int .i64 cnt,.int .i64 0,.slice a' (n':Nat) c']) (by simp only [zZ2,Nat.reduceEqDiff,↓reduceIte,zZ3]<;>rfl) (by simp only [zZ2,Nat.reduceEqDiff,↓reduceIte,zZ3]<;>rfl) sz_115 rfl (R.y.wok n2.wok) (by decide) (R.oc) fun w9 x9 r9 s9=>⟨by first | exact trivial | exact .inr (keepX x9 (by omega)),?_⟩
    simp only [↓zZ1,↓reduceIte,Nat.reduceEqDiff,rg,ow_34]
    apply hK;clear hK K
    refine hend _ u2 u3 w9 u1.heap.size F' a' n' c' lv cnt _ (fun k hk=>?_) (by simp only [upd_eq,Nat.reduceEqDiff,↓reduceIte];first | done | rfl) xu2 R (.inl ⟨by omega,by omega⟩) x9 r9 (x9.wok (R.y.wok n2.wok))
    simp only [List.mem_cons,List.not_mem_nil,or_false] at hk
    rcases hk with rfl | rfl | rfl | rfl | rfl | rfl | rfl<;>simp only [upd_eq,Nat.reduceEqDiff,↓reduceIte]
  ·refine do_alloc z_list fun u1 n1=>⟨by first | exact trivial | exact .inr (keep n1.ext (by omega)),?_⟩
   have zu1:=n1.size
   simp only [↓zZ1,↓reduceIte,Nat.reduceEqDiff,rg,ow_34,e10,e11,ptr_eq,zl,zh,zo,M1,M2]
   have xa:Ext noF w5 u1:=xd.tr n1.ext
   refine do_call fn_61 (vs:=#[rgV p nr mi]) (by simp only [zZ2,Nat.reduceEqDiff,↓reduceIte,zZ4]<;>rfl) (ranges_any p nr mi u1) ?_
   rintro _ u2 ⟨ov,nr',mi',rfl,xr,hov,hex,hmi⟩
   have zr:=xr.size
   have xu2:Ext noF w5 u2:=xa.tr xr
   have zu2:=xu2.size
   refine ⟨by first | exact trivial | exact .inr (keep xr (by omega)),?_⟩
   simp only [↓zZ1,↓reduceIte,Nat.reduceEqDiff,rg,ow_34,e10,e11,ptr_eq,zl,zh,zo,M1,M2]
   refine do_call fn_60 (vs:=#[ptr m,itV s.1,itV s.2,oV ov,ptr w3.heap.size]) (by simp only [zZ2,Nat.reduceEqDiff,↓reduceIte,zZ4,e11]<;>rfl) (range_res B m (degOf d) 1 ord hd2 hd3 st.2 F w5 u2 xu2 hB5.t hIb s.1 s.2 ov nr' mi' hov w3.heap.size n c a hB5.l (p || !nr) (mi && !p) hex (hmi.trans (Bool.and_comm _ _)) hB5.ea) ?_
   rintro _ u3 ⟨F',a',n',c',lv,cnt,R⟩
   obtain rfl:=R.v
   have zy:=R.y.size
   refine ⟨by first | exact trivial | exact .inr (keepR R.y (by omega)),?_⟩
   simp only [↓zZ1,↓reduceIte,Nat.reduceEqDiff,rg,ow_34,e10,e11,ptr_eq,zl,zh,zo,M1,M2]
   refine do_store (v:=.agg #[lv,.int .i64 cnt,.int .i64 0,.slice a' (n':Nat) c']) (by simp only [zZ2,Nat.reduceEqDiff,↓reduceIte,zZ3]<;>rfl) (by simp only [zZ2,Nat.reduceEqDiff,↓reduceIte,zZ3]<;>rfl) sz_115 rfl (R.y.wok (xr.wok n1.wok)) (by decide) (R.oc) fun w9 x9 r9 s9=>⟨by first | exact trivial | exact .inr (keepX x9 (by omega)),?_⟩
   simp only [↓zZ1,↓reduceIte,Nat.reduceEqDiff,rg,ow_34]
   apply hK;clear hK K
   refine hend _ u2 u3 w9 (dr w5 (w5.drawn+1)).heap.size F' a' n' c' lv cnt _ (fun k hk=>?_) (by simp only [upd_eq,Nat.reduceEqDiff,↓reduceIte];first | done | rfl) xu2 R (.inl ⟨Nat.le_refl _,by omega⟩) x9 r9 (x9.wok (R.y.wok (xr.wok n1.wok)))
   simp only [List.mem_cons,List.not_mem_nil,or_false] at hk
   rcases hk with rfl | rfl | rfl | rfl | rfl | rfl | rfl<;>simp only [upd_eq,Nat.reduceEqDiff,↓reduceIte]
 ·obtain rfl:i=ss.length:=by omega
  have ht:=lt_ff ss.length ss.length (by omega)
  refine W_sq fun K hK=>(W_text [true] (by kernel_rfl) ?_);simp only [↓zZ1,↓reduceIte,Nat.reduceEqDiff,rg,ow_34,e20,e21,ht]
  apply hK;clear hK K
  refine W_seq (W_false (by simp only [zZ2,Nat.reduceEqDiff,↓reduceIte,zZ3]<;>rfl) (W_exit ?_))
  simp only [andThen_exit,inBlk_exit,andThen_normal,↓reduceIte]
  rw [List.take_length] at hBt
  obtain ⟨L1,L2,L3⟩:=runR_len ord (p || !nr) (mi && !p) (treeG ord l) ss
  refine W_sq fun K hK=>(W_text [true,true,false,true,true] (by kernel_rfl) ?_);simp only [↓zZ1,↓reduceIte,Nat.reduceEqDiff,rg,ow_34,e10]
  refine do_call fn_46 (by simp only [zZ2,Nat.reduceEqDiff,↓reduceIte,zZ4]<;>rfl) (itemsG_any B m (degOf d) ord 1 _ F w' hBt.t (by omega)) ?_
  rintro v9 w9 ⟨ho,x9⟩
  refine ⟨trivial,?_⟩
  simp only [↓zZ1,↓reduceIte,Nat.reduceEqDiff,rg,ow_34]
  apply hK;clear hK K
  exact W_ret (endQ_2 (by simp only [upd_eq,Nat.reduceEqDiff,↓reduceIte]<;>rfl) (by simp only [upd_eq,Nat.reduceEqDiff,↓reduceIte]<;>rfl) ⟨e 12,v9,K,hs,rfl,hBt.ll.ext x9 fun _ _ _ g=>g,ho.sl,X.tr x9⟩)
theorem bu_sp2 (a b c d:Int):buildV Try.prog 57 [(0,iV (a,b)),(1,iV (c,d))]=some (spV ((a,b),(c,d))):=by kernel_rfl
theorem bu_sp1 (c d:Int):buildV Try.prog 57 [(1,iV (c,d))]=some (spV ((0,0),(c,d))):=by kernel_rfl
theorem bu_rg0:buildV Try.prog 63 []=some (rgV false false false):=by kernel_rfl
def exSp:List (It × It):=[((2,0),(8,0)),((0,0),(9,0))]
theorem bs_exSp:bsV Try.prog 55 2 [(0,spV ((2,0),(8,0))),(1,spV ((0,0),(9,0)))]=some (57,flat Esp exSp):=by kernel_rfl
set_option maxHeartbeats 800000 in
set_option maxRecDepth 8000 in
theorem exSpans_any (w:World):CallK Try.prog 37 #[] w fun v w'=>SlSp w' v exSp/\Ext noF w w':=by
 refine calls_of_W (args:=[]) [.tmp 0] Try.func37 rfl Try.ntmps37 Try.results37 (by simp) fun e he=>?_
 clear he
 refine W_sq fun K hK=>(W_text [true] (by kernel_rfl) ?_);simp only [↓zZ1,↓reduceIte,Nat.reduceEqDiff,rg]
 apply hK;clear hK K
 refine W_sq fun K hK=>(W_text [true,true,true,true,true,false,true] (by kernel_rfl) ?_);simp only [↓zZ1,↓reduceIte,Nat.reduceEqDiff,rg,bu_itemK,bu_sp2,bu_sp1]
 refine do_bsl rfl bs_exSp fun w1 n1=>⟨trivial,?_⟩
 simp only [↓zZ1,↓reduceIte,Nat.reduceEqDiff,rg]
 apply hK;clear hK K
 exact W_ret (endQ_1 (by simp only [upd_eq,Nat.reduceEqDiff,↓reduceIte]<;>rfl) ⟨⟨rfl,.inr ⟨_,0,2,rfl,Nat.le_refl _,n1.row,n1.wok.R (Nat.le_refl _)⟩⟩,n1.ext⟩)
set_option maxHeartbeats 800000 in
set_option maxRecDepth 8000 in
theorem law_delr (d:Nat) (hd:DOk d) (ord:List Int) (sv:Value) (nl:Bool) (l:List It) (lv:Value) (ss:List (It × It)) (spv:Value) (p nr mi:Bool) (w:World) (hO:SlInt w sv ord) (hOb:ord.length<=2147483647) (hl:SlI w lv l) (hbig:l.length<=2147483647) (hsp:SlSp w spv ss) (hsb:ss.length<=2147483647) :
  CallK Try.prog 36 #[mkV sv d nl,lv,spv,rgV p nr mi] w fun v w'=>v = .bool true/\Ext noF w w':=by
 refine calls_of_W [.tmp 8] Try.func36 rfl Try.ntmps36 Try.results36 (by simp) fun e he=>?_
 have e0:e 0=mkV sv d nl:=he 0 _ rfl
 have e1:e 1=lv:=he 1 _ rfl
 have e2:e 2=spv:=he 2 _ rfl
 have e3:e 3=rgV p nr mi:=he 3 _ rfl
 clear he
 have htl:=treeG_len ord l
 obtain ⟨L1,L2,L3⟩:=runR_len ord (p || !nr) (mi && !p) (treeG ord l) ss
 refine W_sq fun K hK=>(W_text [false,false,true] (by kernel_rfl) ?_);simp only [↓zZ1,↓reduceIte,Nat.reduceEqDiff,rg,ow_36]
 refine do_box (by simp only [evt];exact e0) fun w1 n1=>⟨trivial,?_⟩
 simp only [↓zZ1,↓reduceIte,Nat.reduceEqDiff,rg,ow_36]
 refine do_box (v:=rgV p nr mi) (by simp only [evt,upd_eq,Nat.reduceEqDiff,↓reduceIte];exact e3) fun w2 n2=>⟨trivial,?_⟩
 simp only [↓zZ1,↓reduceIte,Nat.reduceEqDiff,rg,ow_36]
 apply hK;clear hK K
 have X2:=n1.ext.tr n2.ext
 have P4:Row w2 w.heap.size 0 (mkL sv d nl):=n2.ext.row (show Row w1 w.heap.size 0 (mkL sv d nl) from n1.row) fun _ _ g=>g
 have P7:Row w2 w1.heap.size 0 [.bool p,.bool nr,.bool mi]:=n2.row
 have q4:=mk_at P4
 have q7:rdA w2 w1.heap.size 0 3=some (rgV p nr mi):=P7.rdA 3 (Nat.le_refl _)
 refine W_sq fun K hK=>(W_text [true,true,true,true,false,true,true,true,true,true] (by kernel_rfl) ?_);simp only [↓zZ1,↓reduceIte,Nat.reduceEqDiff,rg,ow_36,e1,e2,ptr_eq,q4,q7]
 refine do_call fn_34 (by simp only [zZ2,Nat.reduceEqDiff,↓reduceIte,zZ4]<;>rfl) (impl_delr d hd ord sv nl l lv ss spv p nr mi w2 (SlV.ext0 hO X2) hOb (SlV.ext0 hl X2) hbig (SlV.ext0 hsp X2) hsb) ?_
 rintro _ w3 ⟨v1,v2,K1,hs1,rfl,h1,h2,x3⟩
 refine ⟨trivial,?_⟩
 simp only [↓zZ1,↓reduceIte,Nat.reduceEqDiff,rg,ow_36]
 apply hK;clear hK K
 have X3:=X2.tr x3
 have q4:=mk_at (x3.row P4 fun _ _ g=>g)
 have q7:rdA w3 w1.heap.size 0 3=some (rgV p nr mi):=(x3.row P7 fun _ _ g=>g).rdA 3 (Nat.le_refl _)
 refine W_sq fun K hK=>(W_text [true,true,true,true,false,true,true,true,true,true] (by kernel_rfl) ?_);simp only [↓zZ1,↓reduceIte,Nat.reduceEqDiff,rg,ow_36,e1,e2,ptr_eq,q4,q7]
 refine do_call fn_63 (by simp only [zZ2,Nat.reduceEqDiff,↓reduceIte,zZ4]<;>rfl) (spec_delr d ord sv nl l lv ss spv p nr mi w3 (SlV.ext0 hO X3) hOb (SlV.ext0 hl X3) hbig (SlV.ext0 hsp X3) hsb) ?_
 rintro _ w4 ⟨u1,u2,hs2,rfl,k1,k2,x4⟩
 refine ⟨trivial,?_⟩
 simp only [↓zZ1,↓reduceIte,Nat.reduceEqDiff,rg,ow_36]
 apply hK;clear hK K
 have X4:=X3.tr x4
 refine W_sq fun K hK=>(W_text [true,true,false,true,true,true,false,true,true] (by kernel_rfl) ?_);simp only [↓zZ1,↓reduceIte,Nat.reduceEqDiff,rg,ow_36]
 refine do_call fn_64 (by simp only [zZ2,Nat.reduceEqDiff,↓reduceIte,zZ4]<;>rfl) (same_any _ _ _ hs1 hs2 v1 u1 w4 (h1.ext x4 fun _ _ _ g=>g) k1 (by omega) fun l' hl'=>by have:=L3 l' hl';omega) ?_
 rintro _ w5 ⟨rfl,x5⟩
 refine ⟨trivial,?_⟩
 simp only [↓zZ1,↓reduceIte,Nat.reduceEqDiff,rg,ow_36]
 refine do_call fn_30 (by simp only [zZ2,Nat.reduceEqDiff,↓reduceIte,zZ4]<;>rfl) (eq_i _ v2 u2 w5 (SlV.ext0 (SlV.ext0 h2 x4) x5) (SlV.ext0 k2 x5) (by omega)) ?_
 rintro _ w6 ⟨rfl,r6⟩
 refine ⟨trivial,?_⟩
 simp only [↓zZ1,↓reduceIte,Nat.reduceEqDiff,rg,ow_36]
 apply hK;clear hK K
 exact W_ret (endQ_1 (by simp only [upd_eq,Nat.reduceEqDiff,↓reduceIte]<;>rfl) ⟨rfl,(X4.tr x5).tr r6.ext⟩)
set_option maxHeartbeats 800000 in
set_option maxRecDepth 8000 in
theorem top_FnExactGDeleteRangeReuse (ord:List Int) (sv:Value) (d:Int) (nl:Bool) (a0:List It) (v0:Value) (a1:List (It × It)) (v1:Value) (p2 r2 i2:Bool) (w:World) (gs:SlInt w sv ord) (g0:SlI w v0 a0) (g1:SlV w 4 v1 a1.length (flat Esp a1)) :
  CallK Try.prog 8 #[.agg #[sv,.int .i64 d,.bool nl],v0,v1,rgV p2 r2 i2] w fun v w'=>v = .bool true/\Ext noF w w':=by
 obtain ⟨p0,c0,hv0⟩:=SlV.shape g0
 obtain ⟨p1,c1,hv1⟩:=SlV.shape g1
 refine calls_of_W [.tmp 8] Try.func8 rfl Try.ntmps8 Try.results8 (by simp) fun e he=>?_
 have e0:e 0 = .agg #[sv,.int .i64 d,.bool nl]:=he 0 _ rfl
 have e1:e 1=v0:=he 1 _ rfl
 have e2:e 2=v1:=he 2 _ rfl
 have e3:e 3=rgV p2 r2 i2:=he 3 _ rfl
 clear he
 refine W_sq fun K hK=>(W_text [false,false,true] (by kernel_rfl) ?_);simp only [↓zZ1,↓reduceIte,Nat.reduceEqDiff,rg,ow_8]
 refine do_box (by simp only [evt];exact e0) fun w1 n1=>⟨trivial,?_⟩
 simp only [↓zZ1,↓reduceIte,Nat.reduceEqDiff,rg,ow_8]
 refine do_box (by simp only [evt,upd_eq,Nat.reduceEqDiff,↓reduceIte];exact e3) fun w2 n2=>⟨trivial,?_⟩
 simp only [↓zZ1,↓reduceIte,Nat.reduceEqDiff,rg,ow_8]
 have Z2:=n1.ext.tr n2.ext
 apply hK;clear hK K
 have rm:Row w2 w.heap.size 0 [sv,.int .i64 d,.bool nl]:=(n2.ext).row n1.row fun _ _ h=>h
 have ri2:Row w2 w1.heap.size 0 [.bool p2,.bool r2,.bool i2]:=n2.row
 have XB:Ext noF w w2:=Z2
 have rm3:rdA w2 w.heap.size 0 3=some (.agg #[sv,.int .i64 d,.bool nl]):=rm.rdA 3 (Nat.le_refl _)
 refine W_seq ?_
 refine W_sq fun K hK=>(W_text [true,false,true,true,true,true,true,true,true,true,true,true,true] (by kernel_rfl) ?_);simp only [↓zZ1,↓reduceIte,Nat.reduceEqDiff,rg,ow_8,e1,e2,hv0,hv1,rm3]
 refine do_call fn_12 (by simp only [zZ2,Nat.reduceEqDiff,↓reduceIte,zZ4]<;>rfl) (fits1_any sv ord (.int .i64 d) nl w2 (SlV.ext0 gs XB)) ?_
 rintro _ wf ⟨rfl,xf⟩
 refine ⟨trivial,?_⟩
 have XF:=XB.tr xf
 by_cases hbo:ord.length<=2147483647
 case neg =>
  have to:decide (ord.length<=2147483647)=false:=by simp;omega
  simp only [↓zZ1,↓reduceIte,Nat.reduceEqDiff,rg,ow_8,e1,e2,hv0,hv1,to]
  apply hK;clear hK K
  refine W_true (by simp only [zZ2,Nat.reduceEqDiff,↓reduceIte,zZ3]<;>rfl) ?_
  refine W_sq fun K hK=>(W_text [true] (by kernel_rfl) ?_);simp only [↓zZ1,↓reduceIte,Nat.reduceEqDiff,rg,ow_8]
  apply hK;clear hK K
  refine W_ret ?_
  simp only [andThen_ret]
  exact endQ_1 (by simp only [upd_eq,Nat.reduceEqDiff,↓reduceIte]<;>rfl) ⟨rfl,XF⟩
 have to:decide (ord.length<=2147483647)=true:=by simp;omega
 by_cases hb0:a0.length<=2147483647
 case neg =>
  have t0:decide ((2147483647:Int)<(a0.length:Int))=true:=by simp;omega
  simp only [↓zZ1,↓reduceIte,Nat.reduceEqDiff,rg,ow_8,e1,e2,hv0,hv1,to,t0]
  apply hK;clear hK K
  refine W_true (by simp only [zZ2,Nat.reduceEqDiff,↓reduceIte,zZ3]<;>rfl) ?_
  refine W_sq fun K hK=>(W_text [true] (by kernel_rfl) ?_);simp only [↓zZ1,↓reduceIte,Nat.reduceEqDiff,rg,ow_8]
  apply hK;clear hK K
  refine W_ret ?_
  simp only [andThen_ret]
  exact endQ_1 (by simp only [upd_eq,Nat.reduceEqDiff,↓reduceIte]<;>rfl) ⟨rfl,XF⟩
 have t0:decide ((2147483647:Int)<(a0.length:Int))=false:=by simp;omega
 by_cases hb1:a1.length<=2147483647
 case neg =>
  have t1:decide ((2147483647:Int)<(a1.length:Int))=true:=by simp;omega
  simp only [↓zZ1,↓reduceIte,Nat.reduceEqDiff,rg,ow_8,e1,e2,hv0,hv1,to,t0,t1]
  apply hK;clear hK K
  refine W_true (by simp only [zZ2,Nat.reduceEqDiff,↓reduceIte,zZ3]<;>rfl) ?_
  refine W_sq fun K hK=>(W_text [true] (by kernel_rfl) ?_);simp only [↓zZ1,↓reduceIte,Nat.reduceEqDiff,rg,ow_8]
  apply hK;clear hK K
  refine W_ret ?_
  simp only [andThen_ret]
  exact endQ_1 (by simp only [upd_eq,Nat.reduceEqDiff,↓reduceIte]<;>rfl) ⟨rfl,XF⟩
 have t1:decide ((2147483647:Int)<(a1.length:Int))=false:=by simp;omega
 simp only [↓zZ1,↓reduceIte,Nat.reduceEqDiff,rg,ow_8,e1,e2,hv0,hv1,to,t0,t1]
 apply hK;clear hK K
 refine W_false (by simp only [zZ2,Nat.reduceEqDiff,↓reduceIte,zZ3]<;>rfl) (W_skip ?_)
 show W _ _ _ _ _ _
 refine W_sq fun K hK=>(W_text [false,false,false,true,false,true,true,true,false,true,true,true,true,true,true,false,true,true,true] (by kernel_rfl) ?_);simp only [↓zZ1,↓reduceIte,Nat.reduceEqDiff,rg,ow_8,bu_rg0]
 refine do_call fn_19 (by simp only [zZ2,Nat.reduceEqDiff,↓reduceIte,zZ4]<;>rfl) (exMake_any wf) ?_
 rintro _ u0 ⟨rfl,z0⟩
 refine ⟨trivial,?_⟩
 simp only [↓zZ1,↓reduceIte,Nat.reduceEqDiff,rg,ow_8]
 have Y0:=z0
 refine do_call fn_20 (by simp only [zZ2,Nat.reduceEqDiff,↓reduceIte,zZ4]<;>rfl) (exItems_any u0) ?_
 rintro x0 u1 ⟨q0,y1⟩
 refine ⟨trivial,?_⟩
 simp only [↓zZ1,↓reduceIte,Nat.reduceEqDiff,rg,ow_8,bu_rg0]
 have Y1:=Y0.tr y1
 refine do_call fn_37 (by simp only [zZ2,Nat.reduceEqDiff,↓reduceIte,zZ4]<;>rfl) (exSpans_any u1) ?_
 rintro x1 u2 ⟨q1,y2⟩
 refine ⟨trivial,?_⟩
 simp only [↓zZ1,↓reduceIte,Nat.reduceEqDiff,rg,ow_8,bu_rg0]
 have q0:=SlV.ext0 q0 y2
 have Y2:=Y1.tr y2
 refine do_call fn_36 (by simp only [zZ2,Nat.reduceEqDiff,↓reduceIte,zZ4]<;>rfl) (law_delr 2 (.inr (by decide)) [] nilS false exL x0 exSp x1 false false false u2 (nil_int _) (by decide) q0 (by decide) q1 (by decide)) ?_
 rintro _ u3 ⟨rfl,y3⟩
 refine ⟨trivial,?_⟩
 have Y3:=Y2.tr y3
 have XA:=XF.tr Y3
 have rmA:=(xf.tr Y3).row rm fun _ _ h=>h
 have rd1:=(Row.cons.1 (Row.cons.1 rmA).2).1
 have rmA3:rdA u3 w.heap.size 0 3=some (.agg #[sv,.int .i64 d,.bool nl]):=rmA.rdA 3 (Nat.le_refl _)
 rw [Nat.zero_add] at rd1
 simp only [↓zZ1,↓reduceIte,Nat.reduceEqDiff,rg,ow_8,rd1]
 refine do_call fn_23 (by simp only [zZ2,Nat.reduceEqDiff,↓reduceIte,zZ4]<;>rfl) (fits_any d u3) ?_
 rintro _ _ ⟨rfl,rfl⟩
 refine ⟨trivial,?_⟩
 cases hf:(decide (d=0) || (decide (2<=d) && decide (d<=128))) with
 | false =>
  simp only [↓zZ1,↓reduceIte,Nat.reduceEqDiff,rg,ow_8]
  apply hK;clear hK K
  exact W_ret (endQ_1 (by simp only [upd_eq,Nat.reduceEqDiff,↓reduceIte]<;>rfl) ⟨rfl,XA⟩)
 | true =>
  have h2:d=0\/2<=d/\d<=128:=by simp at hf;omega
  obtain ⟨n,rfl⟩:∃ n:Nat,d=n:=⟨d.toNat,by omega⟩
  have im2:rdA u3 w1.heap.size 0 3=some (rgV p2 r2 i2):=((xf.tr Y3).row ri2 fun _ _ h=>h).rdA 3 (Nat.le_refl _)
  simp only [↓zZ1,↓reduceIte,Nat.reduceEqDiff,rg,ow_8,e1,e2,rmA3,im2]
  refine do_call fn_36 (by simp only [zZ2,Nat.reduceEqDiff,↓reduceIte,zZ4]<;>rfl) (law_delr n (show DOk n by unfold DOk;omega) ord sv nl a0 v0 a1 v1 p2 r2 i2 u3 (SlV.ext0 gs XA) hbo (SlV.ext0 g0 XA) hb0 (SlV.ext0 g1 XA) hb1) ?_
  rintro _ u9 ⟨rfl,y9⟩
  refine ⟨trivial,?_⟩
  simp only [↓zZ1,↓reduceIte,Nat.reduceEqDiff,rg,ow_8]
  apply hK;clear hK K
  exact W_ret (endQ_1 (by simp only [upd_eq,Nat.reduceEqDiff,↓reduceIte]<;>rfl) ⟨rfl,XA.tr y9⟩)
end Go.Proofs.Ytbnnkcofnmipoaa
namespace Go.Proofs.Ytbnnkcofnmipoaa
open Go Go.Proofs Go.ChangeShapes Go.WideShapes Go.ChangeAt Go.RowKit
set_option maxRecDepth 100000 in
theorem c_FnExactGDeleteRangeReuse (H:Type) (enc:TypeId × Value->H) (W:World) (base:Nat) (args:Array Value) (ds gs:List (DataW H)) (before:List MemPlace)
  (hval:∀ (j:Nat) t v,Try.f8.params[j]? = some t->args[j]? = some v->Value.okWide Try.prog W .any base t v)
  (hW:DataW.Whole enc Try.prog Try.f8.params.toList Rows.fnExactGDeleteRangeReuseSpec.vars false W args.toList ds gs before) :
  Calls Try.prog 8 args W fun e W'=>∃ v,e = .returned v/\Rows.fnExactGDeleteRangeReuseSpec.post enc Try.prog Try.f8 false true false false W args v W':=by
 have hW':=hW
 obtain ⟨p,q,hA0,hV,rfl,hfz,hnd⟩:=hW
 have hA:DataW.TrodAll enc Try.prog W 0 (fun _=>true) true Try.f8.params.toList args.toList ds p:=hA0
 rw [Try.params8] at hA hval
 obtain ⟨v0,v1,v2,v3,d0,d1,d2,d3,p0,p1,p2,p3,rfl,rfl,rfl,h0,h1,h2,h3⟩:=trodAll_four hA
 obtain ⟨rfl,rfl⟩:=trodVars_none hV
 obtain ⟨s0,a0,n0,r0,rfl,g0⟩:=open_make (hval 0 24 v0 rfl rfl) h0 fun b o h=>hfz b o (by simp [h])
 obtain ⟨a1,g1⟩:=open_items (hval 1 25 v1 rfl rfl) h1 fun b o h=>hfz b o (by simp [h])
 obtain ⟨a2,g2⟩:=open_spans (hval 2 55 v2 rfl rfl) h2 fun b o h=>hfz b o (by simp [h])
 obtain ⟨p3,r3,i3,rfl⟩:=open_range (hval 3 63 v3 rfl rfl) h3
 exact calls_law laidOut (by rw [Try.params8];kernel_rfl) rfl hW' rfl rfl rfl (by kernel_rfl) Try.underlying4 (top_FnExactGDeleteRangeReuse r0 s0 a0 n0 a1 v1 a2 v2 p3 r3 i3 W g0 g1 g2)
set_option maxRecDepth 100000 in
theorem l_FnExactGDeleteRangeReuse (os:Os) (started:os.Started) (H:Type) (enc:TypeId × Value->H) :
  ReturnsInHanded {} Try.checked os 8 .any (Rows.fnExactGDeleteRangeReuseSpec.pre6 enc Try.prog Try.f8 Rows.fnExactGDeleteRangeReuseRow.domain false) (Rows.fnExactGDeleteRangeReuseSpec.post enc Try.prog Try.f8 false true false false):=by
 refine returnsInHanded_of_change (C:=Try.checked) own started (by kernel_rfl) Try.func8
  (ChangeSpec.witness6 (enc:=enc) (C:=Try.checked) false ⟨#[],#[.agg #[.slice none 0 0,.int .i64 0,.bool false],.slice none 0 0,.slice none 0 0,.agg #[.bool false,.bool false,.bool false]],[]⟩ 8 (by kernel_rfl) (by kernel_rfl) (by kernel_rfl) (by kernel_rfl)) ?_
 intro W base args ds gs before hval hW _ _
 exact c_FnExactGDeleteRangeReuse H enc W base args ds gs before hval hW
theorem h_FnExactGDeleteRangeReuse:Rows.FnExactGDeleteRangeReuseSaid :=
 OpenClaim.holds_of_wide 8 Try.f8 rfl rfl rfl rfl rfl rfl rfl ⟨rfl,rfl,rfl,rfl,rfl⟩ rfl rfl rfl rfl rfl (by kernel_rfl) Try.func8 (by kernel_rfl)
  (of_decide_eq_true (by kernel_rfl)) (by unfold Func.isWrapper;first | (rw [if_pos (by decide +kernel)];kernel_rfl) | (rw [if_neg (by decide +kernel)];exact ⟨rfl,rfl⟩))
  (fun os started H enc _=>l_FnExactGDeleteRangeReuse os started H enc)
#print axioms h_FnExactGDeleteRangeReuse
end Go.Proofs.Ytbnnkcofnmipoaa
