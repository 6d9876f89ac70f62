/- Texts in one. No condition. -/
import Derived.Test.YtbnnkcofnmipoaaZ6242fc3b
import Derived.Test.YtbnnkcofnmipoaaZA
import Derived.Test.YtbnnkcofnmipoaaZ5b25d89c
import Derived.Test.YtbnnkcofnmipoaaZ9cc6db3d
set_option linter.unusedVariables false
set_option linter.unusedSimpArgs false
namespace Go.Proofs.Ytbnnkcofnmipoaa
open Go Go.Proofs
section
variable {α:Type} {E:Enc α}
theorem SE.downJ {w w1:World} {hb ho bi oi cap i j:Nat} {ks:List α} (h:SE E w hb ho ks bi oi cap) (hi:i+j<=ks.length)
  (x1:Ext (rng bi (oi+i*E.sz) ((ks.length-(i+j))*E.sz)) w w1) (r1:Row w1 bi (oi+i*E.sz) (flat E (ks.drop (i+j)))) :
  ∃ zs:List α,zs.length=j/\SE E w1 hb ho (ks.take i++ks.drop (i+j)++zs) bi oi cap/\Ext (seF E hb ho bi oi cap) w w1:=by
 refine ⟨ks.drop (ks.length-j),by rw [List.length_drop];omega,?_⟩
 have hne:=h.ne
 have hle:=h.le
 have hcap:=Nat.mul_le_mul_right E.sz hle
 have e2:(ks.length-(i+j))*E.sz=ks.length*E.sz-(i+j)*E.sz:=Nat.sub_mul _ _ _
 have e3:(i+j)*E.sz<=ks.length*E.sz:=Nat.mul_le_mul_right _ hi
 have e4:(i+j)*E.sz=i*E.sz+j*E.sz:=Nat.add_mul _ _ _
 have e5:(ks.length-j)*E.sz=ks.length*E.sz-j*E.sz:=Nat.sub_mul _ _ _
 have hl:(ks.take i++ks.drop (i+j)++ks.drop (ks.length-j)).length=ks.length:=by simp only [List.length_append,List.length_take,List.length_drop];omega
 have X:Ext (seF E hb ho bi oi cap) w w1:=x1.mono fun y o _ g=>.inr (by simp only [rng] at g ⊢;omega)
 refine ⟨⟨by rw [hl];exact x1.rd h.hd (by simp only [rng];omega),?_,X.wok h.wi,by omega,X.wok h.hok,hne⟩,X⟩
 rw [List.append_assoc,flat_append,flat_append]
 have hlt:(flat E (ks.take i)).length=i*E.sz:=by rw [flat_length,List.length_take];congr 1;omega
 have hld:(flat E (ks.drop (i+j))).length=ks.length*E.sz-(i+j)*E.sz:=by rw [flat_length,List.length_drop,Nat.sub_mul]
 refine Row.append.2 ⟨?_,Row.append.2 ⟨?_,?_⟩⟩
 ·have h0:=h.row.take (i*E.sz)
  rw [flat_take] at h0
  refine x1.row h0 fun k hk g=>?_
  rw [hlt] at hk;simp only [rng] at g;omega
 ·rw [hlt];exact r1
 ·rw [hlt,hld]
  have h0:=h.row.drop ((ks.length-j)*E.sz)
  rw [flat_drop] at h0
  have ho:oi+i*E.sz+(ks.length*E.sz-(i+j)*E.sz)=oi+(ks.length-j)*E.sz:=by omega
  rw [ho]
  refine x1.row h0 fun k hk g=>?_
  simp only [rng] at g;omega
theorem SE.cutJ {w w1:World} {hb ho bi oi cap:Nat} {ks zs:List α} (h:SE E w hb ho (ks++zs) bi oi cap) (x1:Ext (rng hb ho 1) w w1) (r1:rd w1 hb ho=some (.slice (some ⟨bi,oi,none⟩) ks.length cap)) :
  SE E w1 hb ho ks bi oi cap/\Ext (seF E hb ho bi oi cap) w w1:=by
 have hne:=h.ne
 have hle:=h.le
 rw [List.length_append] at hle
 have hr:=h.row
 rw [flat_append] at hr
 exact ⟨⟨r1,x1.row (Row.append.1 hr).1 fun j _ g=>by simp only [rng] at g;omega,x1.wok h.wi,by omega,x1.wok h.hok,hne⟩,x1.mono fun y o _ g=>.inl (by simp only [rng] at g;omega)⟩
end
set_option maxHeartbeats 8000000 in
set_option maxRecDepth 8000 in
theorem take_bulk {Q:Post} {e:Env} {w:World} {b5 b m d i j:Nat} {iso cnt:Int} {bi oi cap:Nat} {ks:List It} {ch:Value} (e5:e 5=ptr b5) (e17:e 17=ptr b) (e18:e 18 = .int .i64 i) (e25:e 25 = .int .i64 j) (x5:rd w b5 0=some (ptr m)) (hc:Cfg w m iso d) (on:Own E w b iso cnt bi oi cap ks ch) (hij:i+j<=ks.length) (hjn:i<ks.length) (hbig:ks.length<=2147483648)
  (hob:∀ y o,ownF E b bi oi cap y o->y ≠ b5/\y ≠ m)
  (hK:∀ e' w',(∀ k,k<=25->e' k=e k)->Own E w' b iso cnt bi oi cap (ks.take i++ks.drop (i+j)) ch->Ext (seF E b 2 bi oi cap) w w'->W Try.prog 657 (pc Try.f60 [1,0,1,1,1,1,1,1,1,1,1,1,1,1,1,1,0,0,0,0,1,1,1,1,0,1,0,1,1,1,1,1,1]) Q e' w'):W Try.prog 657 (pc Try.f60 [1,0,1,1,1,1,1,1,1,1,1,1,1,1,1,1,0,0,0,0,1,1,1,1,0,1,0,1,1,1]) Q e w:=by
 refine W_pc rfl ?_
 have q1:=wadd i j (by omega)
 obtain ⟨o1,h1,h1',-,k1⟩:=on.se.from E_sz i (by omega)
 have hle0:=on.le
 have h1':=h1' (by omega)
 subst h1'
 have i1:i<=ks.length:=by omega
 obtain ⟨o2,h2,-,v2,-⟩:=on.se.from E_sz (i+j) hij
 have i2:i+j<=ks.length:=hij
 refine W_sq fun K hK=>(W_draw (some none) (some 14) [(0,0,0),(0,1,0),(0,2,0),(0,3,0),(0,4,0),(0,5,0),(0,6,0),(0,7,0),(0,8,0),(0,9,0),(0,10,0),(0,11,0),(0,12,0),(0,13,0),(1,14,0)] mixed (by kernel_rfl) ?_);simp only [↓zZ1,↓reduceIte,Nat.reduceEqDiff,rg,ow_60,e17,e18,e25,ptr_eq,on.h2,q1,i1,h1,i2,h2]
 refine do_copy (by simp only [zZ2,Nat.reduceEqDiff,↓reduceIte,zZ3]<;>rfl) (by simp only [zZ2,Nat.reduceEqDiff,↓reduceIte,zZ3]<;>rfl) rb_eli (SlV.ext0 v2 (Ext.dr noF w (w.drawn+1))) ((Ext.dr noF w (w.drawn+1)).wok k1) (flat_oc E _) fun w1 x1 r1 s1=>⟨(by first | exact trivial | exact .inl trivial),?_⟩
 simp only [↓zZ1,↓reduceIte,Nat.reduceEqDiff,rg,ow_60,↓rgm]
 apply hK;clear hK K
 have hm:min (ks.length-(i+j)) (ks.length-i)=ks.length-(i+j):=by omega
 rw [hm] at x1 r1
 rw [List.take_of_length_le (by rw [flat_length,List.length_drop,E_sz];omega)] at r1
 obtain ⟨zs,hzl,g1,G1⟩:=on.se.downJ (i:=i) (j:=j) hij (by simp only [E_sz];exact x1.od) (by simp only [E_sz];exact r1)
 have on1:=on.step g1 G1
 obtain ⟨bs,hbs⟩:∃ bs,bs=ks.take i++ks.drop (i+j):=⟨_,rfl⟩
 have hbl:bs.length=ks.length-j:=by rw [hbs,List.length_append,List.length_take,List.length_drop];omega
 rw [<-hbs] at on1 hK
 have hA:(bs++zs).length=ks.length:=by rw [List.length_append];omega
 have h3:=on1.h2
 rw [hA] at h3
 have q2:=wsub ks.length j (by omega) (by omega)
 have hsO:∀ y o,seF E b 2 bi oi cap y o->y ≠ b5/\y ≠ m:=fun y o g=>hob y o (seF_own g)
 refine W_sqx fun J hJ=>?_
 have hend:∀ e2 w2 (ws:List It),(∀ k,k<=25->e2 k=e k)->ws.length=j->Own E w2 b iso cnt bi oi cap (bs++ws) ch->Ext (seF E b 2 bi oi cap) w w2->J e2 w2:=by
  intro e2 w2 ws he hwl on2 G2
  refine hJ _ _ ?_;clear hJ J
  have f17:e2 17=ptr b:=by rw [he 17 (by omega)];exact e17
  have f25:e2 25 = .int .i64 j:=by rw [he 25 (by omega)];exact e25
  have h4:=on2.h2
  have h5:=on2.le
  have hA2:(bs++ws).length=ks.length:=by rw [List.length_append];omega
  rw [hA2] at h4 h5
  have hi3:ks.length-j<=cap:=by omega
  refine W_sq fun K hK=>(W_draw (some none) (some 15) [(0,0,0),(0,1,0),(0,2,0),(0,3,0),(0,4,0),(0,5,0),(0,6,0),(0,7,0),(0,8,0),(0,9,0),(0,10,0),(0,11,0),(0,12,0),(0,13,0),(0,14,0),(1,15,0)] mixed (by kernel_rfl) ?_);simp only [↓zZ1,↓reduceIte,Nat.reduceEqDiff,rg,ow_60,f17,f25,ptr_eq,h4,q2,hi3]
  refine do_store (by simp only [zZ2,Nat.reduceEqDiff,↓reduceIte,zZ3]<;>rfl) (by simp only [zZ2,Nat.reduceEqDiff,↓reduceIte,zZ3]<;>rfl) sz_25 rfl on2.se.hok (by decide) (oc_one rfl rfl) fun w3 x3 r3 s3=>⟨(by first | exact trivial | exact .inl trivial),?_⟩
  simp only [↓zZ1,↓reduceIte,Nat.reduceEqDiff,rg,ow_60,↓rgm]
  apply hK;clear hK K
  obtain ⟨g3,G3⟩:=on2.se.cutJ x3.od (by rw [hbl];exact (Row.cons.1 r3).1)
  refine W_qc (f:=Try.f60) rfl (hK _ _ (fun k hk=>?_) (on2.step g3 G3) (G2.tr G3))
  simp only [upd_apply];repeat rw [if_neg (by omega)]
  exact he k hk
 clear hJ
 refine W_seq ?_
 refine W_rg fun K hK=>(W_text [true,true,true,true,true,true,true,true] (by kernel_rfl) ?_);simp only [↓zZ1,↓reduceIte,Nat.reduceEqDiff,rg,ow_60,e17,e25,ptr_eq,h3,q2]
 apply hK;clear hK K
 simp only [andThen_normal]
 refine W_block (W_loop (fun mm e2 w2=>∃ (t:Nat) (ws:List It),mm=j-t/\t<=j/\(∀ k,k<=25->e2 k=e k)/\e2 26 = .int .i64 (ks.length-j+t:Nat)/\ws.length=j/\Own E w2 b iso cnt bi oi cap (bs++ws) ch/\Ext (seF E b 2 bi oi cap) w w2) j
  ⟨0,zs,by simp,by simp,fun k hk=>by simp only [upd_apply];repeat rw [if_neg (by omega)],by simp only [upd_eq,Nat.reduceEqDiff,↓reduceIte];rfl,hzl,on1,G1⟩ ?_)
 clear on1 h3 x1 r1 g1 G1 hA hzl zs
 rintro mm e2 w2 ⟨t,ws,rfl,ht,he,f26,hwl,on2,G2⟩
 have f5:e2 5=ptr b5:=by rw [he 5 (by omega)];exact e5
 have f17:e2 17=ptr b:=by rw [he 17 (by omega)];exact e17
 have h4:=on2.h2
 have h5:=on2.le
 have hA2:(bs++ws).length=ks.length:=by rw [List.length_append];omega
 rw [hA2] at h4 h5
 refine W_seq ?_
 by_cases hlt:t<j
 ·have t1:=lt_tt (ks.length-j+t) ks.length (by omega)
  refine W_sq fun K hK=>(W_text [true,true,true,true,true,true,true] (by kernel_rfl) ?_);simp only [↓zZ1,↓reduceIte,Nat.reduceEqDiff,rg,ow_60,f17,f26,ptr_eq,h4,t1]
  apply hK;clear hK K
  refine W_true (by simp only [zZ2,Nat.reduceEqDiff,↓reduceIte,zZ3]<;>rfl) (W_skip ?_)
  show W _ _ _ _ _ _
  have hil:ks.length-j+t<ks.length:=by omega
  have x5a:=G2.rd x5 fun g=>(hsO _ _ g).1 rfl
  have z4:=zIt_at (hc.ext G2 fun o _ _ g=>(hsO _ _ g).2 rfl)
  refine W_seq (W_block ?_)
  refine W_rg fun K hK=>(W_draw (some none) (some 10) [(0,0,0),(0,1,0),(0,2,0),(0,3,0),(0,4,0),(0,5,0),(0,6,0),(0,7,0),(0,8,0),(0,9,0),(1,10,0)] mixed (by kernel_rfl) ?_);simp only [↓zZ1,↓reduceIte,Nat.reduceEqDiff,rg,ow_60,f5,f17,f26,ptr_eq,x5a,h4,hil,z4]
  refine do_store (by simp only [zZ2,Nat.reduceEqDiff,↓reduceIte,zZ3]<;>rfl) (by simp only [zZ2,Nat.reduceEqDiff,↓reduceIte,zZ3]<;>rfl) sz_33 (rb_len zIt) on2.se.wi (by rw [E_sz];omega) (rb_oc zIt) fun w3 x3 r3 s3=>⟨(by first | exact trivial | exact .inl trivial),?_⟩
  simp only [↓zZ1,↓reduceIte,Nat.reduceEqDiff,rg,ow_60,↓rgm]
  apply hK;clear hK K
  simp only [inBlk_normal,andThen_normal]
  obtain ⟨g3,G3⟩:=on2.se.set (i:=ks.length-j+t) (x:=zIt) (by rw [hA2];exact hil) (by simp only [E_sz];exact x3.od) (by simp only [E_sz];exact r3)
  rw [List.set_append_right _ _ (by omega)] at g3
  have q3:=wadd1 (ks.length-j+t) (by omega)
  refine W_rg fun K hK=>(W_text [true,true,true] (by kernel_rfl) ?_);simp only [↓zZ1,↓reduceIte,Nat.reduceEqDiff,rg,ow_60,f26,q3]
  apply hK;clear hK K
  refine ⟨_,?_,t+1,_,rfl,hlt,fun k hk=>?_,by simp only [upd_eq,Nat.reduceEqDiff,↓reduceIte];rfl,by rw [List.length_set];exact hwl,on2.step g3 G3,G2.tr G3⟩
  ·omega
  ·simp only [upd_apply];repeat rw [if_neg (by omega)]
   exact he k hk
 ·obtain rfl:t=j:=by omega
  have t1:=lt_ff (ks.length-t+t) ks.length (by omega)
  refine W_sq fun K hK=>(W_text [true,true,true,true,true,true,true] (by kernel_rfl) ?_);simp only [↓zZ1,↓reduceIte,Nat.reduceEqDiff,rg,ow_60,f17,f26,ptr_eq,h4,t1]
  apply hK;clear hK K
  refine W_false (by simp only [zZ2,Nat.reduceEqDiff,↓reduceIte,zZ3]<;>rfl) (W_exit ?_)
  simp only [andThen_exit,inBlk_exit,↓reduceIte]
  refine hend _ _ ws (fun k hk=>?_) hwl on2 G2
  simp only [upd_apply];repeat rw [if_neg (by omega)]
  exact he k hk
end Go.Proofs.Ytbnnkcofnmipoaa
namespace Go.Proofs.Ytbnnkcofnmipoaa
open Go Go.Proofs
variable {c:RgC} {w w':World} {xs:List It} {F:Nat->Nat->Prop} {q:List Qe} {kb:Option Nat} {sg:Qe->List It} {fp:Qe->Nat->Nat->Prop} {R Rt:List It} {sb:Option Nat} {pv:It}
 {H root:Nat} {L:List (Nat × Nat)} {h lo b:Nat} {ys:List It} {Fb:Nat->Nat->Prop} {A C:List It} {sv:Value}
def RgC.DR (c:RgC) (R:List It) (x:It):Prop:=c.ex=true/\x ∈ c.R0/\x ∉ R
theorem RgC.Qs.ld (hq:c.Qs w q kb sg fp R) {x:It} (g:LD Prod.fst sg q x):c.DR R x:=by
 rcases hq.li with ⟨hex,_⟩ | ⟨_,hq0,_⟩
 ·exact ⟨hex,(hq.full hex x).1 g⟩
 ·rw [hq0] at g;obtain ⟨e,he,_⟩:=g;cases he
abbrev RgC.P (c:RgC) (R:List It):It->List It->Prop:=GapQ (c.κ) c.lo (c.DR R)
theorem cut_at {κ:It->Int} {lo:Int} {Lx R Pre Rest:List It} {k:It} (hL:∀ x ∈ Lx,κ x<lo) (hk:lo<=κ k) (h:Lx++R=Pre++k::Rest):∃ A',Pre=Lx++A'/\R=A'++k::Rest:=by
 rcases List.append_eq_append_iff.1 h with ⟨a,h1,h2⟩ | ⟨a,h1,h2⟩
 ·exact ⟨a,h1,h2⟩
 ·cases a with
  | nil=>rw [List.append_nil] at h1;exact ⟨[],by rw [List.append_nil];exact h1.symm,h2.symm⟩
  | cons z a =>
   exfalso
   simp only [List.cons_append,List.cons.injEq] at h2
   have:=hL k (by rw [h1,h2.1];simp)
   omega
theorem split_at {κ:It->Int} {lo:Int} {Lx R Pre Suf:List It} (hL:∀ x ∈ Lx,κ x<lo) (hR:∀ x ∈ R,lo<=κ x) (hP:∀ x ∈ Pre,κ x<lo) (hS:∀ x ∈ Suf,lo<=κ x) (h:Lx++R=Pre++Suf):Pre=Lx/\R=Suf:=by
 rcases List.append_eq_append_iff.1 h with ⟨a,h1,h2⟩ | ⟨a,h1,h2⟩
 ·cases a with
  | nil=>rw [List.append_nil] at h1;exact ⟨h1,h2⟩
  | cons z a =>
   have:=hP z (by rw [h1];simp)
   have:=hR z (by rw [h2];simp)
   omega
 ·cases a with
  | nil=>rw [List.append_nil] at h1;exact ⟨h1.symm,h2.symm⟩
  | cons z a =>
   have:=hL z (by rw [h1];simp)
   have:=hS z (by rw [h2];simp)
   omega
structure RgC.Nd (c:RgC) (w:World) (xs:List It) (F:Nat->Nat->Prop) (q:List Qe) (kb:Option Nat) (sg:Qe->List It) (fp:Qe->Nat->Nat->Prop) (R Rt:List It) (sb:Option Nat) (pv:It) (H root:Nat) (L:List (Nat × Nat)) (h lo b:Nat) (ys:List It) (Fb:Nat->Nat->Prop) (A C:List It) (sv:Value):Prop where
 st:c.St w (c.DR Rt) xs F q kb sg fp R sb pv
 rt:rd w c.m 2=some (ptr root)
 ht:Tp E c.iso (c.d-1) (2*c.d-1) (c.P Rt) H w 1 root xs F
 hw:Wp E c.iso (c.d-1) (2*c.d-1) (c.P Rt) w H 1 root xs F L h lo b ys Fb A C
 stk:SlV w 2 sv L.length (flat Es L)
 svb:∀ b o n cp,sv = .slice (some ⟨b,o,none⟩) n cp->sb=some b
 eq:xs=c.Lx++Rt
theorem RgC.Nd.to {q':List Qe} {kb':Option Nat} {sg':Qe->List It} {fp':Qe->Nat->Nat->Prop} {R':List It} {pv':It} {G:Nat->Nat->Prop} (N:c.Nd w xs F q kb sg fp R Rt sb pv H root L h lo b ys Fb A C sv)
  (st':c.St w' (c.DR Rt) xs F q' kb' sg' fp' R' sb pv') (x:Ext G w w') (hG:∀ y o,G y o->¬ F y o/\y ≠ c.m/\sb ≠ some y):c.Nd w' xs F q' kb' sg' fp' R' Rt sb pv' H root L h lo b ys Fb A C sv :=
 ⟨st',x.rd N.rt fun g=>(hG _ _ g).2.1 rfl,N.ht.ext x fun y o g k=>(hG y o k).1 g,N.hw.ext x fun y o g k=>(hG y o k).1 g,sv_keep N.stk x N.svb fun y o g=>(hG y o g).2.2,N.svb,N.eq⟩
theorem RgC.Nd.ext0 (ok:c.Ok) (N:c.Nd w xs F q kb sg fp R Rt sb pv H root L h lo b ys Fb A C sv) (x:Ext noF w w'):c.Nd w' xs F q kb sg fp R Rt sb pv H root L h lo b ys Fb A C sv:=N.to (N.st.ext0 ok x) x fun _ _ g=>g.elim
theorem RgC.Nd.hint (ok:c.Ok) (N:c.Nd w xs F q kb sg fp R Rt sb pv H root L h lo b ys Fb A C sv) (x:Ext (hF (some c.b14)) w w') (hH:HOk (some c.b14) w'):c.Nd w' xs F q kb sg fp R Rt sb pv H root L h lo b ys Fb A C sv :=
 N.to (N.st.hint ok x hH) x fun y o g=>by
  have e:y=c.b14:=by cases g;rfl
  have h14:=ok.le c.b14 (by simp)
  have:=RgC.St.S0m ok
  refine ⟨fun k=>N.st.apF y o k (.inl (by omega)),by omega,fun k=>?_⟩
  have:=(N.st.sbs y k).1;omega
theorem RgC.Nd.list {q':List Qe} {kb':Option Nat} {sg':Qe->List It} {fp':Qe->Nat->Nat->Prop} {R':List It} (ok:c.Ok) (N:c.Nd w xs F q kb sg fp R Rt sb pv H root L h lo b ys Fb A C sv)
  (st':c.St w' (c.DR Rt) xs F q' kb' sg' fp' R' sb pv) (x:Ext (lbF c.lb kb) w w'):c.Nd w' xs F q' kb' sg' fp' R' Rt sb pv H root L h lo b ys Fb A C sv :=
 N.to st' x fun y o g=>⟨N.st.notF g,by
  rcases g with g | g
  ·have:=ok.mlb;omega
  ·have:=(N.st.kbs y g).1;omega,N.st.notS ok g⟩
theorem RgC.Nd.skip {A' S C':List It} {k:It} (hex:c.ex=false) (N:c.Nd w xs F q kb sg fp (A'++k::(S++C')) Rt sb pv H root L h lo b ys Fb A C sv) (hst:∀ y,y=k\/y ∈ S->stopI c.ord c.mi c.mxi y=false):c.Nd w xs F q kb sg fp (A'++C') Rt sb pv H root L h lo b ys Fb A C sv :=
 ⟨N.st.skip hex hst,N.rt,N.ht,N.hw,N.stk,N.svb,N.eq⟩
theorem RgC.Nd.len (ok:c.Ok) (N:c.Nd w xs F q kb sg fp R Rt sb pv H root L h lo b ys Fb A C sv) (hs:Rt.Sublist c.R0):xs.length<=2147483647:=by
 have h1:=ok.big
 have h2:=hs.length_le
 rw [N.eq]
 rw [List.length_append] at h1 ⊢
 omega
theorem RgC.Nd.nodes (N:c.Nd w xs F q kb sg fp R Rt sb pv H root L h lo b ys Fb A C sv):∀ y,onL L y->(∃ k:Nat,rd w y 1=some (.int .i64 k)/\k<=xs.length/\ys.length<=k/\wok w y 4)/\∀ o,F y o:=fun y hy=>N.hw.cnt N.ht y hy
theorem RgC.Nd.fill {w1 w2 w3:World} {ys':List It} {Fb':Nat->Nat->Prop} {R':List It} {j:Nat} (ok:c.Ok) (N:c.Nd w xs F q kb sg fp R Rt sb pv H root L h lo b ys Fb A C sv) (hl:ys'.length+j=ys.length)
  (x1:Ext (fun y o=>Fb y o/\¬ (o=1/\onL L y)) w w1) (sh:Shift (-(j:Int)) w1 w2 (onL L)) (x3:Ext (rng c.m 3 1) w2 w3) (hcn:rd w3 c.m 3=some (.int .i64 ((xs.length:Int)-j)))
  (t2:Tp E c.iso (c.d-1) (2*c.d-1) (c.P R') h w2 lo b ys' Fb') (hF:∀ y o,Fb' y o->Fb y o) (hA:∀ k ∈ A,c.κ k<c.lo) (hC:∀ k ∈ C,∀ S,c.P Rt k S->c.P R' k S) (eq':A++ys'++C=c.Lx++R') (hsub:(A++ys'++C).Sublist xs) :
  ∃ F',(∀ y o,F' y o->F y o/\(Fb y o->Fb' y o))/\c.Nd w3 (A++ys'++C) F' q kb sg fp R R' sb pv H root L h lo b ys' Fb' A C sv:=by
 have hb:=N.hw.sub
 have hXF:∀ y o,onL L y->F y o:=fun y o g=>(N.nodes y g).2 o
 have x2:Ext (fun y o=>Fb y o\/(o=1/\y ∈ L.map Prod.fst)) w w2:=(x1.mono fun y o _ g=>.inl g.1).tr (sh.ext.mono fun y o _ g=>.inr g)
 have hm:∀ o,¬ F c.m o:=N.st.tr.off
 obtain ⟨F',f1,t3,w3'⟩:=N.hw.fill (P':=c.P R') hl N.ht t2 hF x2 (fun y hy=>by
  obtain ⟨k,k1,k2⟩:=sh.cnt y hy
  obtain ⟨⟨k',g1,_⟩,_⟩:=N.nodes y hy
  have g2:=x1.rd g1 fun g=>g.2 ⟨rfl,hy⟩
  rw [k1] at g2;cases g2
  exact ⟨_,g1,by rw [k2];rfl⟩) (fun k hk S=>.inl (hA k hk)) hC
 have hm3:∀ y o,F' y o->¬ rng c.m 3 1 y o:=fun y o g k=>by have:=(f1 y o g).1;rw [k.1] at this;exact hm _ this
 have x4:Ext (fun y o=>F y o\/(y=c.m/\o=3)) w w3:=(x2.mono fun y o _ g=>(by
  rcases g with g | g
  ·exact .inl (hb y o g)
  ·exact .inl (hXF y o g.2):F y o\/(y=c.m/\o=3))).tr (x3.mono fun y o _ g=>.inr ⟨g.1,by have:=g.2.1;have:=g.2.2;omega⟩)
 have hm2:¬ (F c.m 2\/(c.m=c.m/\2=3)):=fun g=>g.elim (hm 2) fun g=>absurd g.2 (by decide)
 have rt3:=x4.rd N.rt hm2
 have hb14:=ok.le c.b14 (by simp)
 have hmS:=RgC.St.S0m ok
 have hH3:HOk (some c.b14) w3:=N.st.bx.xh.ext x4 fun hb e o g=>by
  cases e
  rcases g with g | g
  ·exact N.st.apF _ _ g (.inl hb14)
  ·omega
 have hlw:∀ y o,F' y o->y<w3.heap.size:=fun y o g=>Nat.lt_of_lt_of_le (N.st.tr.lt y o (f1 y o g).1) x4.size
 have tt:TreeAtP (c.P R') c.B c.ord w3 c.m c.d c.iso (A++ys'++C) F':=by
  refine ⟨N.st.tr.cfg.ext x4 fun o h2 h3 g=>?_,N.st.tr.less.ext x4 (fun y o g=>?_) fun g=>?_,?_,N.st.tr.asc.sublist hsub,.inr ⟨H,root,rt3,t3.ext x3 hm3⟩,fun o g=>hm o (f1 _ _ g).1,hlw,fun y o g=>N.st.tr.above y o (f1 y o g).1⟩
  ·rcases g with g | g
   ·exact hm _ g
   ·exact h3 g.2
  ·rcases g with g | g
   ·exact .inl (Nat.le_of_lt (N.st.tr.above y o g))
   ·exact .inl (by omega)
  ·rcases g with g | g
   ·exact hm _ g
   ·exact absurd g.2 (by decide)
  ·rw [hcn]
   have h1:xs.length=A.length+ys.length+C.length:=by rw [N.hw.at,List.length_append,List.length_append]
   have h2:(A++ys'++C).length=A.length+ys'.length+C.length:=by rw [List.length_append,List.length_append]
   congr 3
   omega
 refine ⟨F',f1,N.st.tree ok x4 (fun y o g=>?_) hH3 tt (fun y o g=>.inl (f1 y o g).1) (fun x hx=>N.st.piv x (hsub.subset hx)),rt3,t3.ext x3 hm3,w3'.ext x3 hm3,sv_keep N.stk x4 N.svb fun y o g e=>?_,N.svb,eq'⟩
 ·rcases g with g | g
  ·exact .inl g
  ·exact .inr (.inl g.1)
 ·rcases g with g | g
  ·exact N.st.apF y o g (.inr (.inr (.inr e)))
  ·have:=(N.st.sbs y e).1
   omega
end Go.Proofs.Ytbnnkcofnmipoaa
namespace Go.Proofs.Ytbnnkcofnmipoaa
open Go Go.Proofs
variable {c:RgC} {w w':World} {xs:List It} {F:Nat->Nat->Prop} {q:List Qe} {kb:Option Nat} {sg:Qe->List It} {fp:Qe->Nat->Nat->Prop} {R Rt:List It} {sb:Option Nat} {pv:It}
 {H root:Nat} {L:List (Nat × Nat)} {h lo b:Nat} {ys:List It} {Fb:Nat->Nat->Prop} {A C:List It} {sv:Value}
structure RgC.Op (c:RgC) (w:World) (R:List It) (h lo b:Nat) (ys:List It) (Fb:Nat->Nat->Prop) (bi oi cap:Nat) (ks:List It) (bc ba oa capc:Nat) (cs:List (Kid It)):Prop where
 ho:Own E w b c.iso ys.length bi oi cap ks (ptr bc)
 n:Inn E c.iso (c.d-1) (2*c.d-1) h w b ys Fb bi oi cap ks bc ba oa capc cs
 h1:lo<=ks.length
 h2:ks.length<=2*c.d-1
 hT:∀ k ∈ cs,Tp E c.iso (c.d-1) (2*c.d-1) (c.P R) h w (c.d-1) k.b k.xs k.F
 hN:NP (c.P R) (cs.map Kid.xs) ks
variable {bi oi cap:Nat} {ks:List It} {bc ba oa capc:Nat} {cs:List (Kid It)} {i:Nat}
theorem RgC.Op.ext {G:Nat->Nat->Prop} (p:c.Op w R h lo b ys Fb bi oi cap ks bc ba oa capc cs) (x:Ext G w w') (hG:∀ y o,Fb y o->¬ G y o):c.Op w' R h lo b ys Fb bi oi cap ks bc ba oa capc cs :=
 ⟨p.ho.ext x fun y o g=>hG y o ((p.n.fp y o).2 (.inl g)),p.n.ext x (fun y o g=>hG y o ((p.n.fp y o).2 (.inr (.inl g)))) fun d hd y o g=>hG y o ((p.n.fp y o).2 (.inr (.inr ⟨d,hd,g⟩))),p.h1,p.h2,
  fun d hd=>(p.hT d hd).ext x fun y o g=>hG y o ((p.n.fp y o).2 (.inr (.inr ⟨d,hd,g⟩))),p.hN⟩
structure RgC.At (c:RgC) (fnd:Bool) (ks:List It) (cs:List (Kid It)) (i:Nat):Prop where
 fr:∀ x ∈ fr (cs.map Kid.xs) ks i,c.κ x<c.lo
 kid:fnd=true->∀ d,cs[i]? = some d->∀ x ∈ d.xs,c.κ x<c.lo
 tl:∀ x ∈ tl (cs.map Kid.xs) ks i,c.lo<=c.κ x
 le:i<=ks.length
 lt:fnd=true->i<ks.length
theorem stop_no {x y:It} (hy:c.κ y<c.κ c.mxi) (h:c.κ x<c.κ y):stopI c.ord c.mi c.mxi x=false:=by
 unfold stopI
 cases c.mi with
 | true=>show O.lt _ _=false;rw [ltOf];exact Int.le_of_lt (Int.lt_trans h hy)
 | false=>show (!O.lt _ _)=false;rw [ltO.2 (Int.lt_trans h hy)];rfl
theorem kF_sub {bc ba oa capc:Nat} {y o:Nat} (n:Inn E c.iso (c.d-1) (2*c.d-1) h w b ys Fb bi oi cap ks bc ba oa capc cs) (g:seF E b 2 bi oi cap y o\/kidF bc ba oa capc y o):Fb y o:=(n.fp y o).2 (g.elim (fun g=>.inl (seF_own g)) fun g=>.inr (.inl g))
set_option maxHeartbeats 1600000 in
theorem RgC.Nd.bulk {w6 w7 w8:World} {fnd:Bool} {k k2:It} {ci d:Kid It} (ok:c.Ok) (N:c.Nd w xs F q kb sg fp R R sb pv H root L (h+1) lo b ys Fb A C sv) (p:c.Op w R h lo b ys Fb bi oi cap ks bc ba oa capc cs) (a:c.At fnd ks cs i)
  (hk:ks[i]? = some k) (hk2:ks[i+1]? = some k2) (hc:cs[i]? = some ci) (hd:cs[i+1]? = some d) (hlo:lo<=ks.length-1) (hA:∀ x ∈ A,c.κ x<c.lo) (hC:∀ x ∈ C,c.lo<=c.κ x) (hmx:c.κ k2<c.κ c.mxi)
  (o6:Own E w6 b c.iso ys.length bi oi cap (ks.eraseIdx i) (ptr bc)) (k6:Kids w6 bc ba oa capc ((cs.map Kid.b).eraseIdx (i+1))) (x6:Ext (fun y o=>seF E b 2 bi oi cap y o\/kidF bc ba oa capc y o) w w6) (sh:Shift (-((d.xs.length+1:Nat):Int)) w6 w7 (onL L)) (x8:Ext (rng c.m 3 1) w7 w8)
  (hcn:rd w8 c.m 3=some (.int .i64 ((xs.length:Int)-(d.xs.length+1:Nat)))) :
  ∃ A' C' xs' F' ys' Fb',R=A'++k::(d.xs++C')/\c.Nd w8 xs' F' q kb sg fp R (A'++C') sb pv H root L (h+1) lo b ys' Fb' A C sv/\c.Op w8 (A'++C') h lo b ys' Fb' bi oi cap (ks.eraseIdx i) bc ba oa capc (cs.eraseIdx (i+1))/\c.At fnd (ks.eraseIdx i) (cs.eraseIdx (i+1)) i ∧
   Ent c.iso (c.d-1) (2*c.d-1) w8 (k,some d.b) d.xs d.F/\(∀ y o,d.F y o->¬ c.Z kb sb y/\¬ F' y o/\c.m<y/\y<w8.heap.size/\(c.G0 y o\/c.w0.heap.size<=y))/\(∀ s ∈ d.xs,∀ e,LD Prod.fst sg q e->¬ (c.κ k<c.κ e/\c.κ e<c.κ s))/\(∀ y,y=k\/y ∈ d.xs->stopI c.ord c.mi c.mxi y=false):=by
 have hlen:(cs.map Kid.xs).length=ks.length+1:=by simpa using p.n.len
 have hil:=(List.getElem?_eq_some_iff.1 hk).1
 have hil2:=(List.getElem?_eq_some_iff.1 hk2).1
 have hdm:=List.mem_of_getElem? hd
 have hys:=p.n.xs hc
 rw [tl_step (Kid.at hd) hk] at hys
 obtain ⟨e2,he2⟩:∃ e2,cs[i+1+1]? = some e2:=⟨_,List.getElem?_eq_getElem (by have:=p.n.len;omega)⟩
 have htl2:tl (cs.map Kid.xs) ks (i+1)=k2::(e2.xs++tl (cs.map Kid.xs) ks (i+1+1)):=tl_step (Kid.at he2) hk2
 have hX:=N.hw.at
 have hasc:xs.Pairwise fun a b=>c.κ a<c.κ b:=N.st.tr.asc.imp fun g=>ltO.1 g
 have hxs:xs=(A++fr (cs.map Kid.xs) ks i++ci.xs)++k::(d.xs++(tl (cs.map Kid.xs) ks (i+1)++C)):=by
  rw [hX];conv=>lhs;rw [hys]
  simp only [List.append_assoc,List.cons_append]
 have hklo:c.lo<=c.κ k:=a.tl k (by rw [tl_step (Kid.at hd) hk];simp)
 obtain ⟨A',hA1,hA2⟩:=cut_at (κ:=c.κ) ok.low hklo (N.eq.symm.trans hxs)
 have hord:=hasc
 rw [hxs] at hord
 obtain ⟨q1,q2,q3⟩:=List.pairwise_append.1 hord
 obtain ⟨q4,q5⟩:=List.pairwise_cons.1 q2
 obtain ⟨q6,q7,q8⟩:=List.pairwise_append.1 q5
 have hkk2:c.κ k<c.κ k2:=q4 k2 (by rw [htl2];simp)
 have hsk2:∀ s ∈ d.xs,c.κ s<c.κ k2:=fun s hs=>q8 s hs k2 (by rw [htl2];simp)
 have hst:∀ y,y=k\/y ∈ d.xs->stopI c.ord c.mi c.mxi y=false:=fun y hy=>stop_no hmx (by
  rcases hy with rfl | hy
  ·exact hkk2
  ·exact hsk2 y hy)
 have hDR:∀ y,c.DR (A'++(tl (cs.map Kid.xs) ks (i+1)++C)) y->c.DR R y\/y=k\/y ∈ d.xs:=fun y hy=>by
  by_cases hm:y ∈ R
  ·right
   rw [hA2] at hm
   rcases List.mem_append.1 hm with g | g
   ·exact (hy.2.2 (by simp [g])).elim
   ·rcases List.mem_cons.1 g with g | g
    ·exact .inl g
    ·rcases List.mem_append.1 g with g | g
     ·exact .inr g
     ·exact (hy.2.2 (List.mem_append_right _ g)).elim
  ·exact .inl ⟨hy.1,hy.2.1,hm⟩
 have hnew:∀ y,y=k\/y ∈ d.xs->(∀ z ∈ ci.xs,c.κ z<c.κ y)/\(∀ z,z ∈ tl (cs.map Kid.xs) ks (i+1)\/z ∈ C->c.κ y<c.κ z):=fun y hy=>by
  refine ⟨fun z hz=>?_,fun z hz=>?_⟩
  ·refine q3 z (by simp [hz]) y ?_
   rcases hy with rfl | hy<;>simp [*]
  ·have hzm:z ∈ tl (cs.map Kid.xs) ks (i+1)++C:=List.mem_append.2 hz
   rcases hy with rfl | hy
   ·exact q4 z (List.mem_append_right _ hzm)
   ·exact q8 y hy z hzm
 have hLb:onL L b:=N.hw.mem
 obtain ⟨k7,hk7,hk7'⟩:=sh.cnt b hLb
 have hbF:∀ y o,Fb y o->F y o:=N.hw.sub
 have hout:=N.hw.out
 have hbi:=p.ho.ne
 have hoF:∀ y o,ownF E b bi oi cap y o->Fb y o:=fun y o g=>(p.n.fp y o).2 (.inl g)
 have hkF:∀ y o,kidF bc ba oa capc y o->Fb y o:=fun y o g=>(p.n.fp y o).2 (.inr (.inl g))
 have hsh:∀ y o,Fb y o->(o=1/\onL L y)->y=b:=fun y o g k=>by
  rcases hout y k.2 with e | e
  ·exact e
  ·exact (e o g).elim
 rw [o6.h1,Option.some.injEq,Value.int.injEq] at hk7
 obtain ⟨-,rfl⟩:=hk7
 have o7:Own E w7 b c.iso ((ys.length:Int)-(d.xs.length+1:Nat)) bi oi cap (ks.eraseIdx i) (ptr bc):=by
  have hno:∀ o,o ≠ 1->¬ (o=1/\onL L b):=fun o h g=>h g.1
  have hle:=o6.le
  refine ⟨sh.ext.rd o6.h0 (hno _ (by decide)),by rw [hk7'];rfl,sh.ext.rd o6.h2 (hno _ (by decide)),sh.ext.rd o6.h3 (hno _ (by decide)),sh.ext.wok o6.wb,sh.ext.row o6.row fun j hj g=>?_,sh.ext.wok o6.wi,hle,hbi⟩
  rw [flat_length] at hj
  have:=Nat.mul_le_mul_right E.sz hle
  exact hbi (hsh _ _ (hoF bi (oi+j) (.inr ⟨rfl,by omega,by omega⟩)) g)
 have k7:Kids w7 bc ba oa capc ((cs.eraseIdx (i+1)).map Kid.b):=by
  rw [map_eraseIdx]
  exact k6.ext sh.ext fun y o g k=>by
   have:=hsh y o (hkF y o g) k
   rw [this] at g
   rcases g with g | g
   ·exact p.n.ap.cb g.symm
   ·exact p.n.ap.ab g.1.symm
 have X67:Ext (fun y o=>(seF E b 2 bi oi cap y o\/kidF bc ba oa capc y o)\/(o=1/\onL L y)) w w7:=(x6.mono fun _ _ _ g=>.inl g).tr (sh.ext.mono fun _ _ _ g=>.inr g)
 obtain ⟨Fb',f1,f2,⟨o8,n8,T8,N8,e1,e2'⟩,td,-,hPk⟩:=p.n.outB (P':=c.P (A'++(tl (cs.map Kid.xs) ks (i+1)++C))) hc hd hk p.hT p.hN o7 rfl k7 X67 (fun z hz y o g k=>by
  have hzF:Fb y o:=(p.n.fp y o).2 (.inr (.inr ⟨z,hz,g⟩))
  rcases k with (k | k) | k
  ·exact p.n.ap.own z hz y o g (seF_own k)
  ·exact p.n.ap.kid z hz y o g k
  ·have:=hsh y o hzF k
   rw [this] at g
   exact p.n.ap.own z hz b o g (.inl rfl)) (fun k' S' hk' hP=>by
  rcases hk' with hk' | ⟨hk',hS'⟩ | hk'
  ·exact .inl (a.fr k' hk')
  ·refine hP.more fun y hy=>(hDR y hy).imp id fun hy=>.inr fun s hs=>?_
   have:=(hnew y hy).1 s (hS' s hs);omega
  ·refine hP.more fun y hy=>(hDR y hy).imp id fun hy=>.inl ?_
   have:=(hnew y hy).2 k' (.inl hk');omega)
 have hel:=List.length_eraseIdx_of_lt hil
 have t7:Tp E c.iso (c.d-1) (2*c.d-1) (c.P (A'++(tl (cs.map Kid.xs) ks (i+1)++C))) (h+1) w7 lo b (fr (cs.map Kid.xs) ks i++ci.xs++tl (cs.map Kid.xs) ks (i+1)) Fb' :=
  ⟨bi,oi,cap,bc,ba,oa,capc,_,_,o8,n8,by omega,by have:=p.h2;omega,T8,N8⟩
 have hx1:Ext (fun y o=>Fb y o/\¬ (o=1/\onL L y)) w w6:=x6.mono fun y o _ g=>⟨kF_sub p.n g,fun k=>by
  have e:=hsh y o (kF_sub p.n g) k
  subst e
  rcases g with g | g
  ·rcases g with g | g
   ·omega
   ·exact hbi g.1.symm
  ·rcases g with g | g
   ·exact p.n.ap.cb g.symm
   ·exact p.n.ap.ab g.1.symm⟩
 have hl:(fr (cs.map Kid.xs) ks i++ci.xs++tl (cs.map Kid.xs) ks (i+1)).length+(d.xs.length+1)=ys.length:=by
  rw [hys];simp only [List.length_append,List.length_cons];omega
 obtain ⟨F',g1,N8'⟩:=N.fill ok hl hx1 sh x8 hcn t7 f1 hA (fun k' hk' S' hP=>hP.more fun y hy=>(hDR y hy).imp id fun hy=>.inl (by have:=(hnew y hy).2 k' (.inr hk');omega)) (by
   rw [show A++(fr (cs.map Kid.xs) ks i++ci.xs++tl (cs.map Kid.xs) ks (i+1))++C=(A++fr (cs.map Kid.xs) ks i++ci.xs)++(tl (cs.map Kid.xs) ks (i+1)++C) by simp only [List.append_assoc],hA1,List.append_assoc])
  (by
   rw [hxs,show A++(fr (cs.map Kid.xs) ks i++ci.xs++tl (cs.map Kid.xs) ks (i+1))++C=(A++fr (cs.map Kid.xs) ks i++ci.xs)++(tl (cs.map Kid.xs) ks (i+1)++C) by simp only [List.append_assoc]]
   exact List.Sublist.append_left ((List.sublist_append_right d.xs _).cons _) _)
 have hF'b:∀ y o,Fb' y o->¬ rng c.m 3 1 y o:=fun y o g k=>by
  have:=hbF y o (f1 y o g)
  rw [k.1] at this
  exact N.st.tr.off _ this
 have hdF:∀ y o,d.F y o->F y o:=fun y o g=>hbF y o ((p.n.fp y o).2 (.inr (.inr ⟨d,hdm,g⟩)))
 refine ⟨A',_,_,F',_,Fb',hA2,N8',(⟨o8,n8,by omega,by have:=p.h2;omega,T8,N8⟩:c.Op w7 _ h lo b _ Fb' bi oi cap _ bc ba oa capc _).ext x8 hF'b,⟨by rw [e1];exact a.fr,fun hf z hz=>?_,by rw [e2'];exact fun x hx=>a.tl x (by rw [tl_step (Kid.at hd) hk];simp [hx]),by omega,fun _=>by omega⟩,
  .inr ⟨d.b,h,rfl,td.tr.ext x8 fun y o g k=>?_⟩,fun y o g=>⟨N.st.apF y o (hdF y o g),fun k=>?_,N.st.tr.above y o (hdF y o g),?_,N.st.old y o (hdF y o g)⟩,fun s hs y hy g=>?_,hst⟩
 ·rw [List.getElem?_eraseIdx,if_pos (by omega)] at hz
  exact a.kid hf z hz
 ·have:=hdF y o g
  rw [k.1] at this
  exact N.st.tr.off _ this
 ·exact f2 y o g ((g1 y o k).2 ((p.n.fp y o).2 (.inr (.inr ⟨d,hdm,g⟩))))
 ·have:=N.st.tr.lt y o (hdF y o g)
  have:=X67.size
  have:=x8.size
  omega
 ·rcases hPk with hh | hh
  ·omega
  ·exact hh s hs y (N.st.qs.ld hy) g
end Go.Proofs.Ytbnnkcofnmipoaa
namespace Go.Proofs.Ytbnnkcofnmipoaa
open Go Go.Proofs
variable {c:RgC} {w w':World} {xs:List It} {F:Nat->Nat->Prop} {q:List Qe} {kb:Option Nat} {sg:Qe->List It} {fp:Qe->Nat->Nat->Prop} {R Rt:List It} {sb:Option Nat} {pv:It}
 {H root:Nat} {L:List (Nat × Nat)} {h lo b:Nat} {ys:List It} {Fb:Nat->Nat->Prop} {A C:List It} {sv:Value}
variable {bi oi cap:Nat} {ks:List It} {bc ba oa capc:Nat} {cs:List (Kid It)} {i:Nat}
structure RgC.Lf (c:RgC) (w:World) (lo b:Nat) (ys:List It) (Fb:Nat->Nat->Prop) (bi oi cap:Nat):Prop where
 ho:Own E w b c.iso ys.length bi oi cap ys (.pointer none)
 h1:lo<=ys.length
 h2:ys.length<=2*c.d-1
 fp:∀ x o,Fb x o ↔ ownF E b bi oi cap x o
theorem RgC.Lf.ext {G:Nat->Nat->Prop} (p:c.Lf w lo b ys Fb bi oi cap) (x:Ext G w w') (hG:∀ y o,Fb y o->¬ G y o):c.Lf w' lo b ys Fb bi oi cap:=⟨p.ho.ext x fun y o g=>hG y o ((p.fp y o).2 g),p.h1,p.h2,p.fp⟩
set_option maxHeartbeats 1600000 in
theorem RgC.Nd.leaf {w6 w7 w8:World} {j:Nat} (ok:c.Ok) (N:c.Nd w xs F q kb sg fp R Rt sb pv H root L 0 lo b ys Fb A C sv) (p:c.Lf w lo b ys Fb bi oi cap) (hij:i+j<=ys.length) (hlo:lo<=ys.length-j) (hRt:Rt=ys.drop i++C) (hA:∀ x ∈ A,c.κ x<c.lo)
  (o6:Own E w6 b c.iso ys.length bi oi cap (ys.take i++ys.drop (i+j)) (.pointer none)) (x6:Ext (seF E b 2 bi oi cap) w w6) (sh:Shift (-(j:Int)) w6 w7 (onL L)) (x8:Ext (rng c.m 3 1) w7 w8) (hcn:rd w8 c.m 3=some (.int .i64 ((xs.length:Int)-j))) :
  ∃ F',c.Nd w8 (A++(ys.take i++ys.drop (i+j))++C) F' q kb sg fp R (ys.drop (i+j)++C) sb pv H root L 0 lo b (ys.take i++ys.drop (i+j)) Fb A C sv/\c.Lf w8 lo b (ys.take i++ys.drop (i+j)) Fb bi oi cap:=by
 have hX:=N.hw.at
 have hasc:xs.Pairwise fun a b=>c.κ a<c.κ b:=N.st.tr.asc.imp fun g=>ltO.1 g
 have hsp:ys.drop i=(ys.drop i).take j++ys.drop (i+j):=by rw [<-List.drop_drop,List.take_append_drop]
 have hys:ys=ys.take i++((ys.drop i).take j++ys.drop (i+j)):=by rw [<-hsp,List.take_append_drop]
 have hLx:A++ys.take i=c.Lx:=by
  have:=hX.symm.trans N.eq
  rw [hRt] at this
  have e:A++ys++C=(A++ys.take i)++(ys.drop i++C):=by
   conv=>lhs;rw [<-List.take_append_drop i ys]
   simp only [List.append_assoc]
  rw [e] at this
  exact List.append_cancel_right this
 have hyl:(ys.take i++ys.drop (i+j)).length=ys.length-j:=by rw [List.length_append,List.length_take,List.length_drop];omega
 have hDR:∀ y,c.DR (ys.drop (i+j)++C) y->c.DR Rt y\/y ∈ ys:=fun y hy=>by
  by_cases hm:y ∈ Rt
  ·rw [hRt] at hm
   rcases List.mem_append.1 hm with g | g
   ·exact .inr (List.mem_of_mem_drop g)
   ·exact (hy.2.2 (List.mem_append_right _ g)).elim
  ·exact .inl ⟨hy.1,hy.2.1,hm⟩
 have hord:=hasc
 rw [hX] at hord
 have hyC:∀ y ∈ ys,∀ z ∈ C,c.κ y<c.κ z:=fun y hy z hz=>(List.pairwise_append.1 hord).2.2 y (List.mem_append_right _ hy) z hz
 have hLb:onL L b:=N.hw.mem
 obtain ⟨k7,hk7,hk7'⟩:=sh.cnt b hLb
 have hout:=N.hw.out
 have hbi:=p.ho.ne
 have hoF:∀ y o,ownF E b bi oi cap y o->Fb y o:=fun y o g=>(p.fp y o).2 g
 have hsh:∀ y o,Fb y o->(o=1/\onL L y)->y=b:=fun y o g k=>by
  rcases hout y k.2 with e | e
  ·exact e
  ·exact (e o g).elim
 rw [o6.h1,Option.some.injEq,Value.int.injEq] at hk7
 obtain ⟨-,rfl⟩:=hk7
 have o7:Own E w7 b c.iso (ys.take i++ys.drop (i+j)).length bi oi cap (ys.take i++ys.drop (i+j)) (.pointer none):=by
  have hno:∀ o,o ≠ 1->¬ (o=1/\onL L b):=fun o h g=>h g.1
  have hle:=o6.le
  refine ⟨sh.ext.rd o6.h0 (hno _ (by decide)),by rw [hk7',hyl];congr 3;omega,sh.ext.rd o6.h2 (hno _ (by decide)),sh.ext.rd o6.h3 (hno _ (by decide)),sh.ext.wok o6.wb,sh.ext.row o6.row fun j' hj' g=>?_,sh.ext.wok o6.wi,hle,hbi⟩
  rw [flat_length] at hj'
  have:=Nat.mul_le_mul_right E.sz hle
  exact hbi (hsh _ _ (hoF bi (oi+j') (.inr ⟨rfl,by omega,by omega⟩)) g)
 have l7:c.Lf w7 lo b (ys.take i++ys.drop (i+j)) Fb bi oi cap:=⟨o7,by omega,by have:=p.h2;omega,p.fp⟩
 have t7:Tp E c.iso (c.d-1) (2*c.d-1) (c.P (ys.drop (i+j)++C)) 0 w7 lo b (ys.take i++ys.drop (i+j)) Fb:=⟨bi,oi,cap,o7,l7.h1,l7.h2,p.fp⟩
 have hx1:Ext (fun y o=>Fb y o/\¬ (o=1/\onL L y)) w w6:=x6.mono fun y o _ g=>⟨hoF y o (seF_own g),fun k=>by
  have e:=hsh y o (hoF y o (seF_own g)) k
  subst e
  rcases g with g | g
  ·omega
  ·exact hbi g.1.symm⟩
 obtain ⟨F',g1,N8'⟩:=N.fill ok (by rw [hyl];omega) hx1 sh x8 hcn t7 (fun _ _ g=>g) hA (fun k' hk' S' hP=>hP.more fun y hy=>(hDR y hy).imp id fun hy=>.inl (by have:=hyC y hy k' hk';omega)) (by
   rw [<-hLx];simp only [List.append_assoc]) (by
   rw [hX]
   refine List.Sublist.append_right (List.Sublist.append_left ?_ _) _
   conv=>rhs;rw [hys]
   exact List.Sublist.append_left (List.sublist_append_right _ _) _)
 exact ⟨F',N8',l7.ext x8 fun y o g k=>by
  have:=N.hw.sub y o g
  rw [k.1] at this
  exact N.st.tr.off _ this⟩
theorem κ_asc {l:List It} (h:Asc O (rkI c.ord) l):l.Pairwise fun a b=>c.κ a<c.κ b:=h.imp fun g=>ltO.1 g
theorem at_find (n:Inn E c.iso (c.d-1) (2*c.d-1) h w b ys Fb bi oi cap ks bc ba oa capc cs) (ha:Asc O (rkI c.ord) ys) (hp:∀ x ∈ ys,c.κ x<c.κ pv ↔ c.κ x<c.lo) :
  c.At (hit O (rkI c.ord) (rkI c.ord pv) ks) ks cs (Go.Proofs.Ytbnnkcofnmipoaa.lb O (rkI c.ord) (rkI c.ord pv) ks):=by
 obtain ⟨i,hi⟩:∃ i,i=Go.Proofs.Ytbnnkcofnmipoaa.lb O (rkI c.ord) (rkI c.ord pv) ks:=⟨_,rfl⟩
 have hle:=lb_le O (rkI c.ord) (rkI c.ord pv) ks
 have hlt0:=lb_take_lt O (rkI c.ord) (q:=rkI c.ord pv) (xs:=ks)
 have hge0:∀ x,ks[Go.Proofs.Ytbnnkcofnmipoaa.lb O (rkI c.ord) (rkI c.ord pv) ks]? = some x->O.lt (rkI c.ord x) (rkI c.ord pv)=false:=fun x hx=>lb_ge O (rkI c.ord) hx
 rw [<-hi] at hle hlt0 hge0 ⊢
 have hlen:(cs.map Kid.xs).length=ks.length+1:=by simpa using n.len
 obtain ⟨ci,hc⟩:=n.kid hle
 have hys:=n.xs hc
 have hord:=κ_asc ha
 obtain ⟨A',hA⟩:=weave_tl i (cs.map Kid.xs) ks hlen hle
 have hAf:=hA.is_fr hlen hle (Kid.at hc)
 subst hAf
 obtain ⟨m1,m2⟩:=n.mem
 have hmf:∀ x ∈ fr (cs.map Kid.xs) ks i,x ∈ ys:=fun x hx=>by rw [hys];simp [hx]
 have hmt:∀ x ∈ tl (cs.map Kid.xs) ks i,x ∈ ys:=fun x hx=>by rw [hys];simp [hx]
 have hmc:∀ x ∈ ci.xs,x ∈ ys:=fun x hx=>by rw [hys];simp [hx]
 rw [hys] at hord
 obtain ⟨p1,p2,p3⟩:=List.pairwise_append.1 hord
 obtain ⟨p4,p5,p6⟩:=List.pairwise_append.1 p1
 refine ⟨fun x hx=>(hp x (hmf x hx)).1 ?_,fun hf d hd x hx=>?_,fun x hx=>?_,hle,fun hf=>?_⟩
 ·rcases hA.left with ⟨e,_⟩ | ⟨A2,k,h0,hk,e⟩
  ·rw [e] at hx;cases hx
  ·have hkl:c.κ k<c.κ pv:=ltO.1 (hlt0 k (List.mem_of_getElem? (i:=i-1) (by rw [List.getElem?_take_of_lt (by omega)];exact hk)))
   rw [e] at hx p4
   rcases List.mem_append.1 hx with g | g
   ·have:=(List.pairwise_append.1 p4).2.2 x g k (by simp)
    omega
   ·have:x=k:=by simpa using g
    rw [this];exact hkl
 ·rw [hc] at hd;cases hd
  obtain ⟨k,hk,hq⟩:=hit_at O (rkI c.ord) hf
  rw [<-hi] at hk
  refine (hp x (hmc x hx)).1 ?_
  rcases hA.right with ⟨_,e⟩ | ⟨k',C',hk',e⟩
  ·have:=(List.getElem?_eq_some_iff.1 hk).1;omega
  ·rw [hk] at hk';cases hk'
   have:=p3 x (List.mem_append_right _ hx) k (by rw [e];simp)
   have hq':c.κ pv=c.κ k:=hq
   omega
 ·rcases hA.right with ⟨e,_⟩ | ⟨k',C',hk',e⟩
  ·rw [e] at hx;cases hx
  ·have hg:c.κ pv<=c.κ k':=ltOf.1 (hge0 k' hk')
   have hxk:c.κ k'<=c.κ x:=by
    rw [e] at hx p2
    rcases List.mem_cons.1 hx with g | g
    ·rw [g];exact Int.le_refl _
    ·exact Int.le_of_lt ((List.pairwise_cons.1 p2).1 x g)
   have:=hp x (hmt x hx)
   omega
 ·obtain ⟨k,hk,_⟩:=hit_at O (rkI c.ord) hf
  rw [<-hi] at hk
  exact (List.getElem?_eq_some_iff.1 hk).1
theorem leaf_find (ha:Asc O (rkI c.ord) ys) (hp:∀ x ∈ ys,c.κ x<c.κ pv ↔ c.κ x<c.lo) :
  (∀ x ∈ ys.take (lb O (rkI c.ord) (rkI c.ord pv) ys),c.κ x<c.lo)/\∀ x ∈ ys.drop (lb O (rkI c.ord) (rkI c.ord pv) ys),c.lo<=c.κ x:=by
 have hlt0:=lb_take_lt O (rkI c.ord) (q:=rkI c.ord pv) (xs:=ys)
 have hord:=κ_asc ha
 refine ⟨fun x hx=>(hp x (List.mem_of_mem_take hx)).1 (ltO.1 (hlt0 x hx)),fun x hx=>?_⟩
 obtain ⟨j,hj⟩:=List.getElem?_of_mem hx
 rw [List.getElem?_drop] at hj
 obtain ⟨j1,j2⟩:=List.getElem?_eq_some_iff.1 hj
 obtain ⟨k,hk⟩:∃ k,ys[lb O (rkI c.ord) (rkI c.ord pv) ys]? = some k:=⟨_,List.getElem?_eq_getElem (by omega)⟩
 have hg:c.κ pv<=c.κ k:=ltOf.1 (lb_ge O (rkI c.ord) hk)
 have hkx:c.κ k<=c.κ x:=by
  obtain ⟨k1,k2⟩:=List.getElem?_eq_some_iff.1 hk
  rcases Nat.eq_zero_or_pos j with h | h
  ·subst h
   rw [Nat.add_zero] at hj;rw [hk] at hj;cases hj;exact Int.le_refl _
  ·have:=List.pairwise_iff_getElem.1 hord _ _ k1 j1 (by omega)
   rw [k2,j2] at this
   exact Int.le_of_lt this
 have:=hp x (List.mem_of_mem_drop hx)
 omega
theorem RgC.St.app {D0:It->Prop} {n:Nat} {fl:List Value} {p:Nat × Nat} {v':Value} {w1:World} (ok:c.Ok) (h:c.St w D0 xs F q kb sg fp R sb pv) (hsv:SlV w 2 sv n fl) (svb:∀ b o n cp,sv = .slice (some ⟨b,o,none⟩) n cp->sb=some b) (a:AppRes w 2 sv n 1 fl (Es.cel p) v' w1) :
  ∃ sb',c.St w1 D0 xs F q kb sg fp R sb' pv/\(∀ b o n cp,v' = .slice (some ⟨b,o,none⟩) n cp->sb'=some b)/\Ext (fun y o=>sb=some y) w w1/\∃ bi oi cp,v' = .slice (some ⟨bi,oi,none⟩) (n+1) cp:=by
 rcases a.2 with ⟨rfl,rfl,h3⟩ | ⟨bi,oi,cap,rfl,rfl,x,_⟩ | ⟨cap,rfl,x,hs,hw⟩
 ·exfalso
  rcases a.1.2 with ⟨_,g⟩ | ⟨b,o,cp,g,_⟩
  ·omega
  ·rw [h3] at g;cases g
 ·have hb:=svb _ _ _ _ rfl
  have X:Ext (fun y o=>sb=some y) w w1:=x.mono fun y o _ g=>by rw [hb,g.1]
  exact ⟨sb,h.ext ok X fun _ _ g=>g,fun b o n' cp e=>by cases e;exact hb,X,_,_,_,rfl⟩
 ·have X:Ext (fun y o=>sb=some y) w w1:=x.mono fun _ _ _ g=>g.elim
  have h1:=h.ext0 ok x
  refine ⟨some w.heap.size,h1.stack fun y e=>?_,fun b o n' cp e=>by cases e;rfl,X,_,_,_,rfl⟩
  cases e
  refine .inr ⟨h.s1,by omega,fun o g=>?_,fun e he o g=>?_,fun e=>?_⟩
  ·exact Nat.lt_irrefl _ (h.tr.lt _ o g)
  ·exact Nat.lt_irrefl _ (h.apq e he _ o g).2.2.2.1
  ·exact Nat.lt_irrefl _ (h.kbs _ e).2.2.2.2
theorem RgC.St.notS1 {D0:It->Prop} (ok:c.Ok) (h:c.St w D0 xs F q kb sg fp R sb pv) {y:Nat} (e:sb=some y):y ≠ c.m/\(∀ o,¬ F y o):=by
 have h1:=(h.sbs y e).1
 have h2:=RgC.St.S0m ok
 have h3:=ok.le c.b5 (by simp)
 exact ⟨by omega,fun o g=>h.apF y o g (.inr (.inr (.inr e)))⟩
theorem RgC.Nd.down {sb':Option Nat} {sv':Value} {ci:Kid It} {w1:World} (ok:c.Ok) (N:c.Nd w xs F q kb sg fp R Rt sb pv H root L (h+1) lo b ys Fb A C sv) (p:c.Op w Rt h lo b ys Fb bi oi cap ks bc ba oa capc cs) (hc:cs[i]? = some ci)
  (x:Ext (fun y o=>sb=some y) w w1) (st':c.St w1 (c.DR Rt) xs F q kb sg fp R sb' pv) (hsv:SlV w1 2 sv' (L.length+1) (flat Es (L++[(ci.b,i)]))) (svb:∀ b o n cp,sv' = .slice (some ⟨b,o,none⟩) n cp->sb'=some b) :
  c.Nd w1 xs F q kb sg fp R Rt sb' pv H root (L++[(ci.b,i)]) h (c.d-1) ci.b ci.xs ci.F (A++fr (cs.map Kid.xs) ks i) (tl (cs.map Kid.xs) ks i++C) sv':=by
 have hF:∀ y o,F y o->¬ (sb=some y):=fun y o g e=>(N.st.notS1 ok e).2 o g
 have hFb:∀ y o,Fb y o->¬ (sb=some y):=fun y o g=>hF y o (N.hw.sub y o g)
 have p1:=p.ext x hFb
 exact ⟨st',x.rd N.rt fun e=>(N.st.notS1 ok e).1 rfl,N.ht.ext x hF,.down (N.hw.ext x hF) p1.ho p1.n p1.h1 p1.h2 p1.hT p1.hN hc,by rw [List.length_append];exact hsv,svb,N.eq⟩
theorem RgC.Nd.up {L0:List (Nat × Nat)} {pp:Nat × Nat} {sv':Value} (N:c.Nd w xs F q kb sg fp R Rt sb pv H root L h lo b ys Fb A C sv) (hL:L=L0++[pp]) (hsv:SlV w 2 sv' L0.length (flat Es L0)) (svb:∀ b o n cp,sv' = .slice (some ⟨b,o,none⟩) n cp->sb=some b) :
  (L0=[]/\xs=ys/\A=[]/\C=[])\/∃ lo' b' bi oi cap bc ba oa capc i xs' ks Fb' cs d A' C',pp=(b,i)/\c.Nd w xs F q kb sg fp R Rt sb pv H root L0 (h+1) lo' b' xs' Fb' A' C' sv'/\c.Op w Rt h lo' b' xs' Fb' bi oi cap ks bc ba oa capc cs/\cs[i]? = some d/\d.xs=ys/\A=A'++fr (cs.map Kid.xs) ks i/\C=tl (cs.map Kid.xs) ks i++C':=by
 rcases N.hw.up hL with ⟨h1,_,h3,h4,h5⟩ | ⟨lo',b',bi,oi,cap,bc,ba,oa,capc,i,xs',ks,Fb',cs,d,A',C',e1,hw',ho,n,h1,h2,hT,hN,hc,hb,hx,eA,eC⟩
 ·exact .inl ⟨h1,h3.symm,h4,h5⟩
 ·exact .inr ⟨lo',b',bi,oi,cap,bc,ba,oa,capc,i,xs',ks,Fb',cs,d,A',C',e1,⟨N.st,N.rt,N.ht,hw',hsv,svb,N.eq⟩,⟨ho,n,h1,h2,hT,hN⟩,hc,hx,eA,eC⟩
theorem RgC.Nd.open (N:c.Nd w xs F q kb sg fp R Rt sb pv H root L h lo b ys Fb A C sv) :
  (h=0/\∃ bi oi cap,c.Lf w lo b ys Fb bi oi cap)\/∃ h' bi oi cap ks bc ba oa capc cs,h=h'+1/\c.Op w Rt h' lo b ys Fb bi oi cap ks bc ba oa capc cs:=by
 have t:=N.hw.tp N.ht
 cases h with
 | zero =>
  obtain ⟨bi,oi,cap,ho,h1,h2,hF⟩:=t
  exact .inl ⟨rfl,bi,oi,cap,ho,h1,h2,hF⟩
 | succ h =>
  obtain ⟨bi,oi,cap,bc,ba,oa,capc,ks,cs,ho,n,h1,h2,hT,hN⟩:=t
  exact .inr ⟨h,bi,oi,cap,ks,bc,ba,oa,capc,cs,rfl,ho,n,h1,h2,hT,hN⟩
end Go.Proofs.Ytbnnkcofnmipoaa
namespace Go.Proofs.Ytbnnkcofnmipoaa
open Go Go.Proofs
variable {c:RgC} {w w':World} {xs:List It} {F:Nat->Nat->Prop} {q:List Qe} {kb:Option Nat} {sg:Qe->List It} {fp:Qe->Nat->Nat->Prop} {R Rt:List It} {sb:Option Nat} {pv:It}
 {H root:Nat} {L:List (Nat × Nat)} {h lo b:Nat} {ys:List It} {Fb:Nat->Nat->Prop} {A C:List It} {sv:Value}
variable {bi oi cap:Nat} {ks:List It} {bc ba oa capc:Nat} {cs:List (Kid It)} {i:Nat}
theorem stk_some {n:Nat} {l:List (Nat × Nat)} (hs:SlV w 2 sv n (flat Es l)) (hn:0<n):∃ b o cp,sv = .slice (some ⟨b,o,none⟩) n cp/\n<=cp/\Row w b o (flat Es l):=by
 rcases hs.2 with ⟨_,g⟩ | ⟨b,o,cp,g,hc,hr,_⟩
 ·omega
 ·exact ⟨b,o,cp,g,hc,hr⟩
theorem RgC.Nd.pos (N:c.Nd w xs F q kb sg fp R Rt sb pv H root L h lo b ys Fb A C sv):0<L.length:=by
 obtain ⟨L0,i,rfl⟩:=N.hw.last
 simp
theorem RgC.Nd.off (ok:c.Ok) (N:c.Nd w xs F q kb sg fp R Rt sb pv H root L h lo b ys Fb A C sv) {y o:Nat} (g:Fb y o):y ≠ c.b5/\y ≠ c.m/\F y o:=by
 have hF:=N.hw.sub y o g
 exact ⟨fun e=>N.st.apF y o hF (.inl (e ▸ ok.le c.b5 (by simp))),fun e=>N.st.tr.off o (e ▸ hF),hF⟩
set_option maxHeartbeats 4000000 in
set_option maxRecDepth 8000 in
theorem bulkP {Q:Post} {e:Env} {fnd:Bool} {k k2:It} {ci d:Kid It} (ok:c.Ok) (hE:c.Ev e sv) (e17:e 17=ptr b) (e18:e 18 = .int .i64 i) (e19:e 19 = .bool fnd) (N:c.Nd w xs F q kb sg fp R R sb pv H root L (h+1) lo b ys Fb A C sv) (p:c.Op w R h lo b ys Fb bi oi cap ks bc ba oa capc cs) (a:c.At fnd ks cs i)
  (hk:ks[i]? = some k) (hk2:ks[i+1]? = some k2) (hc:cs[i]? = some ci) (hd:cs[i+1]? = some d) (hlo:lo<=ks.length-1) (hA:∀ x ∈ A,c.κ x<c.lo) (hC:∀ x ∈ C,c.lo<=c.κ x) (hmx:c.κ k2<c.κ c.mxi)
  (hK:∀ e' w' xs' F' q' kb' sg' fp' R' ys' Fb',(∀ k,k<=19->e' k=e k)->c.Nd w' xs' F' q' kb' sg' fp' R' R' sb pv H root L (h+1) lo b ys' Fb' A C sv->c.Op w' R' h lo b ys' Fb' bi oi cap (ks.eraseIdx i) bc ba oa capc (cs.eraseIdx (i+1))->c.At fnd (ks.eraseIdx i) (cs.eraseIdx (i+1)) i->R'.length<R.length->Q (if fnd then .goto 1 else .exit 1) e' w') :
  W Try.prog 657 (pc Try.f60 [1,0,1,1,1,1,1,1,1,1,1,1,1,1,1,1,0,0,0,0,1,1,0,1,0,0,1,0]) Q e w:=by
 have hxl:=N.len ok N.st.qs.sub
 have hkl:ks.length<=ys.length:=by
  have hwl:=(weave_sub (cs.map Kid.xs) ks (by simpa using p.n.len)).length_le
  rw [<-p.n.eq] at hwl;exact hwl
 have hyx:ys.length<=xs.length:=by rw [N.hw.at];simp only [List.length_append];omega
 have hil:=(List.getElem?_eq_some_iff.1 hk).1
 have hdm:=List.mem_of_getElem? hd
 refine take_box (d:=0) (m:=0) (b5:=0) e17 e18 p.ho hk fun f1 w1 hf1 f20 hrow x1 hs1=>?_
 have N1:=N.ext0 ok x1
 have p1:=p.ext x1 fun _ _ _ g=>g
 have hE1:=hE.keep 19 (by omega) hf1
 refine take_branch (d:=c.d) hE1.e5 ((hf1 17 (by omega)).trans e17) ((hf1 18 (by omega)).trans e18) N1.st.bx.x5 N1.st.tr.cfg p1.ho p1.n.kids hil (by rw [List.length_map];exact p1.n.len) (by rw [List.getElem?_map,hd];rfl) (by omega) (fun y o g=>?_) (fun y o g1 g2=>?_) fun f2 w2 hf2 f21 o2 k2' x2=>?_
 ·have:=N1.off ok ((p1.n.fp y o).2 (.inl g))
  exact ⟨this.1,this.2.1⟩
 ·have a1:=p1.n.ap.cb;have a2:=p1.n.ap.ab;have a3:=p1.n.ap.ic;have a4:=p1.n.ap.ia
  rcases g1 with g1 | g1<;>rcases g2 with g2 | g2
  ·omega
  ·have:=g2.1;omega
  ·have:=g1.1;omega
  ·have:=g1.1;have:=g2.1;omega
 have hout:=N1.hw.out
 have hFbL:∀ y o,Fb y o->onL L y->y=b:=fun y o g k=>(hout y k).resolve_right fun e=>e o g
 have hbi:=p1.ho.ne
 have x2L:∀ y o,(seF E b 2 bi oi cap y o\/kidF bc ba oa capc y o)->¬ (o=1/\onL L y):=fun y o g k=>by
  have e:=hFbL y o (kF_sub p1.n g) k.2
  subst e
  rcases g with g | g
  ·rcases g with g | g
   ·omega
   ·exact hbi g.1.symm
  ·rcases g with g | g
   ·exact p1.n.ap.cb g.symm
   ·exact p1.n.ap.ab g.1.symm
 obtain ⟨b0,o0,cp,hsv,hcp,hsr⟩:=stk_some N1.stk N1.pos
 have hb0:=N1.svb _ _ _ _ hsv
 have hb0F:=(N1.st.notS1 ok hb0).2
 have hdF:∀ y o,d.F y o->Fb y o:=fun y o g=>(p1.n.fp y o).2 (.inr (.inr ⟨d,hdm,g⟩))
 obtain ⟨dbi,doi,dcap,dks,dch,dho,-⟩:=(p1.n.sub d hdm).open
 have hds:=(p1.n.sub d hdm).self
 have hdx:∀ y o,d.F y o->¬ (seF E b 2 bi oi cap y o\/kidF bc ba oa capc y o):=fun y o g k=>by
  rcases k with k | k
  ·exact p1.n.ap.own d hdm y o g (seF_own k)
  ·exact p1.n.ap.kid d hdm y o g k
 have hdc:=x2.rd dho.h1 (hdx _ _ (hds 1))
 have hdL:¬ onL L d.b:=fun g=>by
  have e:=hFbL _ _ (hdF _ _ (hds 0)) g
  have:=p1.n.ap.own d hdm _ _ (hds 0)
  exact this (.inl e)
 have hdl:d.xs.length+1<=ys.length:=by
  rw [p1.n.xs hc,tl_step (Kid.at hd) hk]
  simp only [List.length_append,List.length_cons];omega
 refine W_pc rfl ?_
 refine W_seq ?_
 refine W_qc (f:=Try.f60) (p:=[1,0,1,1,1,1,1,1,1,1,1,1,1,1,1,1,0,0,0,0,1,1,0,1,0,0,1,0,1,1,1,1,1,1,1,1,0]) rfl (cnt_branch (j:=d.xs.length+1) (dn:=d.b) (sb:=b0) (so:=o0) (cap:=cp) (L:=L) (by rw [hf2 16 (by omega),hE1.e16];exact hsv) (x2.row hsr fun i' _ g=>hb0F _ (N1.hw.sub _ _ (kF_sub p1.n g))) ?_ (N1.hw.nodup N1.ht) (fun g=>hb0F 0 ((N1.nodes b0 g).2 0)) (fun y hy=>?_) f21 hdc hdL (by omega) fun f3 w3 hf3 sh=>?_)
 ·have:=N1.hw.len
  have:=N1.ht.tr.height (by have:=ok.hd;omega) (by decide)
  omega
 ·obtain ⟨⟨k',g1,g2,g3,g4⟩,g5⟩:=N1.nodes y hy
  exact ⟨k',x2.rd g1 fun g=>x2L y 1 g ⟨rfl,hy⟩,by omega,by omega,x2.wok g4⟩
 have hf13:∀ k,k<=19->f3 k=f1 k:=fun k hk=>(hf3 k (by omega)).trans (hf2 k (by omega))
 have hE3:=hE1.keep 19 (by omega) hf13
 have f321:f3 21=ptr d.b:=(hf3 21 (by omega)).trans f21
 have f320:f3 20=ptr w.heap.size:=((hf3 20 (by omega)).trans (hf2 20 (by omega))).trans f20
 have X3:Ext (fun y o=>F y o) w1 w3:=(x2.mono fun y o _ g=>N1.hw.sub _ _ (kF_sub p1.n g)).tr (sh.ext.mono fun y o _ g=>(N1.nodes y g.2).2 o)
 have hmF:∀ o,¬ F c.m o:=N1.st.tr.off
 have e5:=hE3.e5
 have x5:=X3.rd N1.st.bx.x5 fun g=>N1.st.apF _ _ g (.inl (ok.le c.b5 (by simp)))
 have cn3:=X3.rd N1.st.tr.cnt (hmF 3)
 have hdc3:=sh.ext.rd hdc fun g=>hdL g.2
 have q1:=wadd1 d.xs.length (by omega)
 have q2:=wsub xs.length (d.xs.length+1) (by omega) (by omega)
 have wkm:wok w3 c.m 11:=X3.wok N1.st.tr.cfg.wok
 simp only [andThen_normal]
 have i1:=on3_0 c.b5 c.m d.b
 have i2:=on3_1 c.b5 c.m d.b
 have i3:=on3_2 c.b5 c.m d.b
 refine W_sq fun K hK=>(W_semi (some (some [c.b5,c.m,d.b])) (.take true 0 (.take false 1 (.take false 2 (.take true 3 (.take false 4 (.take false 5 (.take false 6 (.take true 7 (.take false 8 (.take false 9 (.take false 10 (.take false 11 (.bar 12 .nil))))))))))))) mixed (by kernel_rfl) ?_);simp only [↓rgm,↓zZ1,↓reduceIte,Nat.reduceEqDiff,rg,ow_60,e5,f321,ptr_eq,x5,cn3,hdc3,q1,q2,i1,i2,i3,rB_on]
 refine do_store (by simp only [zZ2,Nat.reduceEqDiff,↓reduceIte,zZ3]<;>rfl) (by simp only [zZ2,Nat.reduceEqDiff,↓reduceIte,zZ3]<;>rfl) sz_3 rfl wkm (by decide) (oc_one rfl rfl) fun w4 x4 r4 s4=>⟨by first | exact trivial | exact .inl trivial | exact .inr trivial,?_⟩
 simp only [↓zZ1,↓reduceIte,Nat.reduceEqDiff,rg,ow_60,↓rgm]
 apply hK;clear hK K
 have x4:Ext (rng c.m 3 1) w3 w4:=by first | exact x4 | exact x4.od
 obtain ⟨A',C',xs',F',ys',Fb',hR,N4,p4,a4,hent,hdd,hgap,hst⟩:=N1.bulk ok p1 a hk hk2 hc hd hlo hA hC hmx o2 k2' x2 sh x4 (by rw [(Row.cons.1 r4).1];congr 3;omega)
 have hrow4:Row w4 w.heap.size 0 (E.cel k):=(X3.row hrow fun i' _ g=>by have:=N.st.tr.lt _ _ g;omega) |> fun g=>x4.row g fun i' _ g=>by have:=g.1;have:=N.st.tr.t.mlt;omega
 have hlt:(A'++C').length<R.length:=by rw [hR];simp only [List.length_append,List.length_cons];omega
 refine W_sqx fun J hJ=>?_
 have hend:∀ f w5 q' kb' sg' fp',(∀ k,k<=19->f k=e k)->c.Nd w5 xs' F' q' kb' sg' fp' (A'++C') (A'++C') sb pv H root L (h+1) lo b ys' Fb' A C sv->c.Op w5 (A'++C') h lo b ys' Fb' bi oi cap (ks.eraseIdx i) bc ba oa capc (cs.eraseIdx (i+1))->J f w5:=by
  intro f w5 q' kb' sg' fp' hf N5 p5
  refine hJ _ _ ?_;clear hJ J
  have f19:f 19 = .bool fnd:=(hf 19 (by omega)).trans e19
  have fin:=hK
  refine W_seq (W_seq ?_)
  refine W_rg fun K hK=>(W_text [true] (by kernel_rfl) ?_);simp only [↓zZ1,↓reduceIte,Nat.reduceEqDiff,rg,ow_60,f19]
  apply hK;clear hK K
  cases fnd with
  | true =>
   refine W_true (by simp only [zZ2,Nat.reduceEqDiff,↓reduceIte,zZ3]<;>rfl) (W_goto ?_)
   simp only [andThen_goto]
   refine hK _ _ _ _ _ _ _ _ _ _ _ (fun k hk=>?_) N5 p5 a4 hlt
   simp only [upd_apply];repeat rw [if_neg (by omega)]
   exact hf k hk
  | false =>
   refine W_false (by simp only [zZ2,Nat.reduceEqDiff,↓reduceIte,zZ3]<;>rfl) (W_skip ?_)
   simp only [andThen_normal]
   refine W_exit ?_
   refine hK _ _ _ _ _ _ _ _ _ _ _ (fun k hk=>?_) N5 p5 a4 hlt
   simp only [upd_apply];repeat rw [if_neg (by omega)]
   exact hf k hk
 clear hJ hK
 have hfe:∀ k,k<=19->f3 k=e k:=fun k hk=>(hf13 k hk).trans (hf1 k hk)
 cases hex:c.ex with
 | false =>
  have e11:=hE3.e11
  rw [hex] at e11
  refine W_sq fun K hK=>(W_text [true] (by kernel_rfl) ?_);simp only [↓zZ1,↓reduceIte,Nat.reduceEqDiff,rg,ow_60,e11]
  apply hK;clear hK K
  refine W_false (by simp only [zZ2,Nat.reduceEqDiff,↓reduceIte,zZ3]<;>rfl) (W_skip ?_)
  rw [hR] at N4
  refine hend _ _ _ _ _ _ (fun k hk=>?_) (N4.skip hex hst) p4
  simp only [upd_apply];repeat rw [if_neg (by omega)]
  exact hfe k hk
 | true =>
  have e11:=hE3.e11
  have e4:=hE3.e4
  rw [hex] at e11
  refine W_sq fun K hK=>(W_text [true] (by kernel_rfl) ?_);simp only [↓zZ1,↓reduceIte,Nat.reduceEqDiff,rg,ow_60,e11]
  apply hK;clear hK K
  refine W_true (by simp only [zZ2,Nat.reduceEqDiff,↓reduceIte,zZ3]<;>rfl) ?_
  have kx:rdA w4 w.heap.size 0 2=some (itV k):=hrow4.rdA 2 (by show 2<=2;omega)
  refine W_rg fun K hK=>(W_text [true,true,true,false] (by kernel_rfl) ?_);simp only [↓zZ1,↓reduceIte,Nat.reduceEqDiff,rg,ow_60,e4,f320,f321,ptr_eq,kx]
  have st4:=N4.st
  rw [hR] at st4
  refine do_call fn_98 (vs:=#[ptr c.lb,itV k,nV (some d.b)]) (by simp only [zZ2,Nat.reduceEqDiff,↓reduceIte,zZ4]<;>rfl) (st4.app_call (e0:=(k,some d.b)) (Fe:=d.F) ok hex hdd hent hgap hst) ?_
  rintro _ w5 ⟨q',kb',sg',fp',st5,x5'⟩
  refine ⟨trivial,?_⟩
  simp only [↓zZ1,↓reduceIte,Nat.reduceEqDiff,rg,ow_60]
  apply hK;clear hK K
  have N5:=N4.list ok st5 x5'
  refine hend _ _ _ _ _ _ (fun k hk=>?_) N5 (p4.ext x5' fun y o g k=>N4.st.notF k (N4.hw.sub y o g))
  simp only [upd_apply];repeat rw [if_neg (by omega)]
  exact hfe k hk
end Go.Proofs.Ytbnnkcofnmipoaa
namespace Go.Proofs.Ytbnnkcofnmipoaa
open Go Go.Proofs
variable {c:RgC} {w w':World} {xs:List It} {F:Nat->Nat->Prop} {q:List Qe} {kb:Option Nat} {sg:Qe->List It} {fp:Qe->Nat->Nat->Prop} {R Rt:List It} {sb:Option Nat} {pv:It} {sv:Value}
theorem RgC.Qs.row (h:c.Qs w q kb sg fp R):∃ lv cnt qs,Row w c.lb 0 [lv,.int .i64 cnt,.int .i64 0,qs]/\oc [lv,.int .i64 cnt,.int .i64 0,qs]/\rd w c.lb 3=some qs:=by
 rcases h.li with ⟨_,cnt,L⟩ | ⟨_,_,L⟩
 ·obtain ⟨lv,l1,l2⟩:=L.le
  obtain ⟨a,cp,l3,l4,_⟩:=L.qa.val
  obtain ⟨c0,s0,rfl,_⟩:=l2.ex
  refine ⟨_,cnt,_,Row.cons.2 ⟨l1,Row.cons.2 ⟨L.cn,Row.cons.2 ⟨L.np,Row.cons.2 ⟨l3,Row.nil _ _ _⟩⟩⟩⟩,fun v hv=>?_,l3⟩
  simp at hv
  rcases hv with rfl | rfl | rfl | rfl<;>rfl
 ·have l3:=L.qa
  refine ⟨_,0,_,Row.cons.2 ⟨L.le,Row.cons.2 ⟨L.cn,Row.cons.2 ⟨L.np,Row.cons.2 ⟨l3,Row.nil _ _ _⟩⟩⟩⟩,fun v hv=>?_,l3⟩
  simp at hv
  rcases hv with rfl | rfl | rfl<;>rfl
def RgC.Fin (c:RgC) (w':World):Prop:=∃ xs F q kb sg fp R sb pv lv cnt qs,c.St w' (c.DR R) xs F q kb sg fp R sb pv/\xs=c.Lx++R/\(∀ x ∈ R,stopI c.ord c.mi c.mxi x=true)/\Row w' c.lb 0 [lv,.int .i64 cnt,.int .i64 0,qs]/\rdA w' c.b10 0 4=some (.agg #[lv,.int .i64 cnt,.int .i64 0,qs])
theorem RgC.St.result {D0:It->Prop} (ok:c.Ok) (h:c.St w D0 xs F q kb sg fp R sb pv) (x:Ext (rng c.b10 0 4) w w'):c.St w' D0 xs F q kb sg fp R sb pv:=by
 have hm:=RgC.St.S0m ok
 have h10:=ok.le c.b10 (by simp)
 have hb:∀ y o,rng c.b10 0 4 y o->y=c.b10:=fun y o g=>g.1
 have hs:=x.size
 have hn:=ok.ne
 simp only [List.nodup_cons,List.mem_cons,List.not_mem_nil,or_false,not_or] at hn
 have hl:∀ y,y ≠ c.b10->∀ o,¬ rng c.b10 0 4 y o:=fun y hy o g=>hy g.1
 refine ⟨h.tr.extG x (fun y o g k=>h.apF y o g ?_) fun y o g=>?_,h.qs.ext x (fun o g=>?_) (fun y o e g=>?_) (fun y o g=>.inl ?_) fun e he y o g k=>(h.apq e he y o g).1 ?_,⟨x.rd h.bx.x5 (hl _ (by omega) _),x.row h.bx.x7 fun i _=>hl _ (by omega) _,x.rd h.bx.x12 (hl _ (by omega) _),h.bx.xh.ext x fun hb' e=>(by cases e;exact hl _ (by omega)),x.row h.bx.x15 fun i _=>hl _ (by omega) _,x.wok h.bx.w15,x.wok h.bx.w10⟩,h.apF,fun e he y o g=>?_,fun y e=>?_,fun y e=>?_,h.piv,?_,base_step h.base x fun y o hy g=>((ok.s0 y o (by have:=hb y o g;omega)).resolve_right (by omega)),h.old,h.kbo⟩
 ·rw [hb y o k];exact .inl h10
 ·rw [hb y o g];omega
 ·have:=hb _ o g;have:=ok.lbS;omega
 ·have:=hb y o g;subst this;exact (h.kbs _ e).2.1 h10
 ·rw [hb y o g];omega
 ·rw [hb y o k];exact .inl h10
 ·obtain ⟨g1,g2,g3,g4,g5⟩:=h.apq e he y o g;exact ⟨g1,g2,g3,by omega,g5⟩
 ·obtain ⟨g1,g2,g3,g4,g5⟩:=h.kbs y e;exact ⟨g1,g2,g3,g4,by omega⟩
 ·obtain ⟨g1,g2⟩:=h.sbs y e;exact ⟨g1,by omega⟩
 ·have:=h.s1;omega
set_option maxHeartbeats 1600000 in
set_option maxRecDepth 8000 in
theorem ret_15 {Q:Post} {e:Env} (ok:c.Ok) (hE:c.Ev e sv) (st:c.St w (c.DR R) xs F q kb sg fp R sb pv) (eq:xs=c.Lx++R) (hs:∀ x ∈ R,stopI c.ord c.mi c.mxi x=true) (hK:∀ e' w',e' 10=ptr c.b10->c.Fin w'->Q .ret e' w'):W Try.prog 657 (pc Try.f60 [1,0,1,1,1,1,1,1,1,1,1,1,1,0,1,0]) Q e w:=by
 refine W_pc rfl ?_
 obtain ⟨lv,cnt,qs,hrow,hoc,-⟩:=st.qs.row
 have kv:rdA w c.lb 0 4=some (.agg #[lv,.int .i64 cnt,.int .i64 0,qs]):=hrow.rdA 4 (by show 4<=4;omega)
 have e4:=hE.e4
 have e10:=hE.e10
 refine W_sq fun K hK=>(W_text [true,true,true,false] (by kernel_rfl) ?_);simp only [↓zZ1,↓reduceIte,Nat.reduceEqDiff,rg,ow_60,e4,ptr_eq,kv]
 refine do_store (v:=.agg #[lv,.int .i64 cnt,.int .i64 0,qs]) (by simp only [evt,upd_eq,Nat.reduceEqDiff,↓reduceIte];exact e10) (by simp only [zZ2,Nat.reduceEqDiff,↓reduceIte,zZ3]<;>rfl) sz_115 rfl st.bx.w10 (by decide) hoc fun w1 x1 r1 s1=>⟨trivial,?_⟩
 simp only [↓zZ1,↓reduceIte,Nat.reduceEqDiff,rg,ow_60]
 apply hK;clear hK K
 refine W_ret (hK _ _ e10 ⟨xs,F,q,kb,sg,fp,R,sb,pv,lv,cnt,qs,st.result ok x1,eq,hs,x1.row hrow fun i _ g=>?_,r1.rdA 4 (by show 4<=4;omega)⟩)
 have:=g.1
 have:=ok.le c.b10 (by simp)
 have:=ok.lbS
 omega
set_option maxHeartbeats 1600000 in
set_option maxRecDepth 8000 in
theorem ret_39 {Q:Post} {e:Env} (ok:c.Ok) (hE:c.Ev e sv) (st:c.St w (c.DR R) xs F q kb sg fp R sb pv) (eq:xs=c.Lx++R) (hs:∀ x ∈ R,stopI c.ord c.mi c.mxi x=true) (hK:∀ e' w',e' 10=ptr c.b10->c.Fin w'->Q .ret e' w'):W Try.prog 657 (pc Try.f60 [1,0,1,1,1,1,1,1,1,1,1,1,1,1,1,1,0,0,0,0,1,1,0,1,0,1,0,1,0,0,1,0]) Q e w:=by
 refine W_pc rfl ?_
 obtain ⟨lv,cnt,qs,hrow,hoc,-⟩:=st.qs.row
 have kv:rdA w c.lb 0 4=some (.agg #[lv,.int .i64 cnt,.int .i64 0,qs]):=hrow.rdA 4 (by show 4<=4;omega)
 have e4:=hE.e4
 have e10:=hE.e10
 refine W_sq fun K hK=>(W_text [true,true,true,false] (by kernel_rfl) ?_);simp only [↓zZ1,↓reduceIte,Nat.reduceEqDiff,rg,ow_60,e4,ptr_eq,kv]
 refine do_store (v:=.agg #[lv,.int .i64 cnt,.int .i64 0,qs]) (by simp only [evt,upd_eq,Nat.reduceEqDiff,↓reduceIte];exact e10) (by simp only [zZ2,Nat.reduceEqDiff,↓reduceIte,zZ3]<;>rfl) sz_115 rfl st.bx.w10 (by decide) hoc fun w1 x1 r1 s1=>⟨trivial,?_⟩
 simp only [↓zZ1,↓reduceIte,Nat.reduceEqDiff,rg,ow_60]
 apply hK;clear hK K
 refine W_ret (hK _ _ e10 ⟨xs,F,q,kb,sg,fp,R,sb,pv,lv,cnt,qs,st.result ok x1,eq,hs,x1.row hrow fun i _ g=>?_,r1.rdA 4 (by show 4<=4;omega)⟩)
 have:=g.1
 have:=ok.le c.b10 (by simp)
 have:=ok.lbS
 omega
set_option maxHeartbeats 1600000 in
set_option maxRecDepth 8000 in
theorem ret_69 {Q:Post} {e:Env} (ok:c.Ok) (hE:c.Ev e sv) (st:c.St w (c.DR R) xs F q kb sg fp R sb pv) (eq:xs=c.Lx++R) (hs:∀ x ∈ R,stopI c.ord c.mi c.mxi x=true) (hK:∀ e' w',e' 10=ptr c.b10->c.Fin w'->Q .ret e' w'):W Try.prog 657 (pc Try.f60 [1,0,1,1,1,1,1,1,1,1,1,1,1,1,1,1,0,0,0,0,1,1,1,1,0,1,0,1,1,1,1,1,1,1,1,1,0]) Q e w:=by
 refine W_pc rfl ?_
 obtain ⟨lv,cnt,qs,hrow,hoc,-⟩:=st.qs.row
 have kv:rdA w c.lb 0 4=some (.agg #[lv,.int .i64 cnt,.int .i64 0,qs]):=hrow.rdA 4 (by show 4<=4;omega)
 have e4:=hE.e4
 have e10:=hE.e10
 refine W_sq fun K hK=>(W_text [true,true,true,false] (by kernel_rfl) ?_);simp only [↓zZ1,↓reduceIte,Nat.reduceEqDiff,rg,ow_60,e4,ptr_eq,kv]
 refine do_store (v:=.agg #[lv,.int .i64 cnt,.int .i64 0,qs]) (by simp only [evt,upd_eq,Nat.reduceEqDiff,↓reduceIte];exact e10) (by simp only [zZ2,Nat.reduceEqDiff,↓reduceIte,zZ3]<;>rfl) sz_115 rfl st.bx.w10 (by decide) hoc fun w1 x1 r1 s1=>⟨trivial,?_⟩
 simp only [↓zZ1,↓reduceIte,Nat.reduceEqDiff,rg,ow_60]
 apply hK;clear hK K
 refine W_ret (hK _ _ e10 ⟨xs,F,q,kb,sg,fp,R,sb,pv,lv,cnt,qs,st.result ok x1,eq,hs,x1.row hrow fun i _ g=>?_,r1.rdA 4 (by show 4<=4;omega)⟩)
 have:=g.1
 have:=ok.le c.b10 (by simp)
 have:=ok.lbS
 omega
set_option maxHeartbeats 1600000 in
set_option maxRecDepth 8000 in
theorem ret_73 {Q:Post} {e:Env} (ok:c.Ok) (hE:c.Ev e sv) (st:c.St w (c.DR R) xs F q kb sg fp R sb pv) (eq:xs=c.Lx++R) (hs:∀ x ∈ R,stopI c.ord c.mi c.mxi x=true) (hK:∀ e' w',e' 10=ptr c.b10->c.Fin w'->Q .ret e' w'):W Try.prog 657 (pc Try.f60 [1,0,1,1,1,1,1,1,1,1,1,1,1,1,1,1,0,0,0,0,1,1,1,1,1,0,0,0,1,0,0,0,1,0]) Q e w:=by
 refine W_pc rfl ?_
 obtain ⟨lv,cnt,qs,hrow,hoc,-⟩:=st.qs.row
 have kv:rdA w c.lb 0 4=some (.agg #[lv,.int .i64 cnt,.int .i64 0,qs]):=hrow.rdA 4 (by show 4<=4;omega)
 have e4:=hE.e4
 have e10:=hE.e10
 refine W_sq fun K hK=>(W_text [true,true,true,false] (by kernel_rfl) ?_);simp only [↓zZ1,↓reduceIte,Nat.reduceEqDiff,rg,ow_60,e4,ptr_eq,kv]
 refine do_store (v:=.agg #[lv,.int .i64 cnt,.int .i64 0,qs]) (by simp only [evt,upd_eq,Nat.reduceEqDiff,↓reduceIte];exact e10) (by simp only [zZ2,Nat.reduceEqDiff,↓reduceIte,zZ3]<;>rfl) sz_115 rfl st.bx.w10 (by decide) hoc fun w1 x1 r1 s1=>⟨trivial,?_⟩
 simp only [↓zZ1,↓reduceIte,Nat.reduceEqDiff,rg,ow_60]
 apply hK;clear hK K
 refine W_ret (hK _ _ e10 ⟨xs,F,q,kb,sg,fp,R,sb,pv,lv,cnt,qs,st.result ok x1,eq,hs,x1.row hrow fun i _ g=>?_,r1.rdA 4 (by show 4<=4;omega)⟩)
 have:=g.1
 have:=ok.le c.b10 (by simp)
 have:=ok.lbS
 omega
set_option maxHeartbeats 1600000 in
set_option maxRecDepth 8000 in
theorem ret_94 {Q:Post} {e:Env} (ok:c.Ok) (hE:c.Ev e sv) (st:c.St w (c.DR R) xs F q kb sg fp R sb pv) (eq:xs=c.Lx++R) (hs:∀ x ∈ R,stopI c.ord c.mi c.mxi x=true) (hK:∀ e' w',e' 10=ptr c.b10->c.Fin w'->Q .ret e' w'):W Try.prog 657 (pc Try.f60 [1,0,1,1,1,1,1,1,1,1,1,1,1,1,1,1,0,0,0,0,1,1,1,1,1,1,0,0,0,1,1,0,1,0]) Q e w:=by
 refine W_pc rfl ?_
 obtain ⟨lv,cnt,qs,hrow,hoc,-⟩:=st.qs.row
 have kv:rdA w c.lb 0 4=some (.agg #[lv,.int .i64 cnt,.int .i64 0,qs]):=hrow.rdA 4 (by show 4<=4;omega)
 have e4:=hE.e4
 have e10:=hE.e10
 refine W_sq fun K hK=>(W_text [true,true,true,false] (by kernel_rfl) ?_);simp only [↓zZ1,↓reduceIte,Nat.reduceEqDiff,rg,ow_60,e4,ptr_eq,kv]
 refine do_store (v:=.agg #[lv,.int .i64 cnt,.int .i64 0,qs]) (by simp only [evt,upd_eq,Nat.reduceEqDiff,↓reduceIte];exact e10) (by simp only [zZ2,Nat.reduceEqDiff,↓reduceIte,zZ3]<;>rfl) sz_115 rfl st.bx.w10 (by decide) hoc fun w1 x1 r1 s1=>⟨trivial,?_⟩
 simp only [↓zZ1,↓reduceIte,Nat.reduceEqDiff,rg,ow_60]
 apply hK;clear hK K
 refine W_ret (hK _ _ e10 ⟨xs,F,q,kb,sg,fp,R,sb,pv,lv,cnt,qs,st.result ok x1,eq,hs,x1.row hrow fun i _ g=>?_,r1.rdA 4 (by show 4<=4;omega)⟩)
 have:=g.1
 have:=ok.le c.b10 (by simp)
 have:=ok.lbS
 omega
theorem del_mid {ord:List Int} {A C:List It} {k:It} (ha:Asc O (rkI ord) (A++k::C)):del O (rkI ord) (rkI ord k) (A++k::C)=A++C:=by
 obtain ⟨f1,f2⟩:=found_mid O (rkI ord) ha
 unfold del
 rw [f2,f1,if_pos rfl,List.eraseIdx_append_of_length_le (Nat.le_refl _),Nat.sub_self]
 rfl
set_option maxHeartbeats 4000000 in
set_option maxRecDepth 8000 in
theorem again_branch {Q:Post} {e:Env} {b bi oi cap i n b0 o0 cp:Nat} {cnt:Int} {ks Rr:List It} {ch:Value} {k:It} (ok:c.Ok) (hE:c.Ev e sv) (e17:e 17=ptr b) (e18:e 18 = .int .i64 i) (st:c.St w (c.DR (k::Rr)) xs F q kb sg fp (k::Rr) sb pv) (eq:xs=c.Lx++k::Rr) (hk:ks[i]? = some k)
  (on:Own E w b c.iso cnt bi oi cap ks ch) (hoF:∀ y o,ownF E b bi oi cap y o->F y o) (hst:stopI c.ord c.mi c.mxi k=false) (hsv:sv = .slice (some ⟨b0,o0,none⟩) n cp) (hb0:sb=some b0) (hwk:wokR w b0 o0 (cp*2))
  (hK:∀ e' w' xs' F' q' kb' sg' fp' pv',c.Ev e' (.slice (some ⟨b0,o0,none⟩) (0:Nat) cp)->c.St w' (c.DR Rr) xs' F' q' kb' sg' fp' Rr sb pv'->xs'=c.Lx++Rr->wokR w' b0 o0 (cp*2)->Q (.goto 0) e' w'):W Try.prog 657 (pc Try.f60 [1,0,1,1,1,1,1,1,1,1,1,1,1,1,1,1,0,0,0,0,1,1,0,1,0,1,0,1,0,1]) Q e w:=by
 refine W_pc rfl ?_
 have hil:=(List.getElem?_eq_some_iff.1 hk).1
 have kv:=it_at on.row hk
 have h2:=on.h2
 have e15:=hE.e15
 have hasc:xs.Pairwise fun a b=>c.κ a<c.κ b:=κ_asc st.tr.asc
 have hord:=hasc
 rw [eq] at hord
 obtain ⟨p1,p2,p3⟩:=List.pairwise_append.1 hord
 obtain ⟨p4,p5⟩:=List.pairwise_cons.1 p2
 have hkR:k ∈ c.R0:=st.qs.sub.subset (by simp)
 have hklo:=ok.high k hkR
 have hRlo:∀ x ∈ Rr,c.κ k<c.κ x:=p4
 have hpiv:∀ x ∈ xs,c.κ x<c.κ k ↔ c.κ x<c.lo:=fun x hx=>by
  rw [eq] at hx
  rcases List.mem_append.1 hx with g | g
  ·have:=p3 x g k (by simp);have:=ok.low x g;omega
  ·rcases List.mem_cons.1 g with g | g
   ·subst g;omega
   ·have:=hRlo x g;omega
 refine W_sq fun K hK=>(W_text [true,true,true,true,true,true,true,false] (by kernel_rfl) ?_);simp only [↓zZ1,↓reduceIte,Nat.reduceEqDiff,rg,ow_60,e15,e17,e18,ptr_eq,h2,hil,kv]
 refine do_store (v:=itV k) (by simp only [evt,upd_eq,Nat.reduceEqDiff,↓reduceIte];first | exact e15 | rfl) (by simp only [zZ2,Nat.reduceEqDiff,↓reduceIte,zZ3]<;>rfl) sz_33 (rb_len k) st.bx.w15 (by decide) (rb_oc k) fun w1 x1 r1 s1=>⟨trivial,?_⟩
 simp only [↓zZ1,↓reduceIte,Nat.reduceEqDiff,rg,ow_60]
 apply hK;clear hK K
 have st1:=st.pivot ok (pv':=k) x1 r1 hpiv
 have hb15:∀ y o,F y o->¬ rng c.b15 0 2 y o:=fun y o g k'=>st.apF y o g (.inl (by rw [k'.1];exact ok.le c.b15 (by simp)))
 have on1:=on.ext x1 fun y o g=>hb15 y o (hoF y o g)
 have kv1:=it_at on1.row hk
 have h21:=on1.h2
 refine W_sqx fun J hJ=>?_
 have hend:∀ f w2 q' kb' sg' fp',(∀ k',k'<=20->f k'=e k')->c.St w2 (c.DR (k::Rr)) xs F q' kb' sg' fp' Rr sb k->Own E w2 b c.iso cnt bi oi cap ks ch->wokR w2 b0 o0 (cp*2)->J f w2:=by
  intro f w2 q' kb' sg' fp' hf st2 on2 hwk2
  refine hJ _ _ ?_;clear hJ J
  have hE2:=hE.keep 20 (by omega) hf
  have e5:=hE2.e5
  have e14:=hE2.e14
  have e16:=hE2.e16
  rw [hsv] at e16
  have f17:f 17=ptr b:=(hf 17 (by omega)).trans e17
  have f18:f 18 = .int .i64 i:=(hf 18 (by omega)).trans e18
  have kv2:=it_at on2.row hk
  have h22:=on2.h2
  have x5:=st2.bx.x5
  have hm:=RgC.St.S0m ok
  have h14:=ok.le c.b14 (by simp)
  have hDR:∀ y,c.DR Rr y->c.DR (k::Rr) y\/y=k:=fun y hy=>by
   by_cases e:y=k
   ·exact .inr e
   ·exact .inl ⟨hy.1,hy.2.1,fun g=>by
     rcases List.mem_cons.1 g with g | g
     ·exact e g
     ·exact hy.2.2 g⟩
  have hle:∀ x ∈ xs,c.κ x<c.lo\/c.κ k<=c.κ x:=fun x hx=>by have:=hpiv x hx;omega
  have tP:TreeAtP (c.P Rr) c.B c.ord w2 c.m c.d c.iso xs F:=st2.tr.imp fun x hx S _ hP=>by
   rcases hle x hx with g | g
   ·exact .inl g
   ·exact hP.more fun y hy=>(hDR y hy).imp id fun hy=>.inl (by rw [hy];exact g)
  have hxl:xs.length<=2147483647:=by
   have h1:=ok.big
   have h2:=st.qs.sub.length_le
   rw [eq];rw [List.length_append] at h1 ⊢;omega
  have hsl0:slcX (some 2) (.slice (some ⟨b0,o0,none⟩) n cp) none (some (.int .i64 0)) none=some (.slice (some ⟨b0,o0,none⟩) (0:Nat) cp):=slcX_hi 2 b0 o0 n cp 0 .i64 (Nat.zero_le _)
  have hnv:hV (some c.b14)=ptr c.b14:=rfl
  refine W_sq fun K hK=>(W_semi (some none) (.take true 0 (.take false 1 (.take false 2 (.take false 3 (.take true 4 (.take false 5 (.take false 6 (.take true 7 (.bar 8 .nil))))))))) mixed (by kernel_rfl) ?_);simp only [↓rgm,↓zZ1,↓reduceIte,Nat.reduceEqDiff,rg,ow_60,e5,e14,f17,f18,ptr_eq,x5,h22,hil,kv2]
  have xd:=Ext.dr noF w2 (w2.drawn+1)
  refine do_call fn_92 (vs:=#[ptr c.m,itV k,hV (some c.b14)]) (by simp only [zZ2,Nat.reduceEqDiff,↓reduceIte,zZ4,e14]<;>rfl) (delHP_any (c.P Rr) GapQ.anti c.B c.m c.d c.iso c.ord k (some c.b14) ok.hd ok.hd' xs F _ (tP.ext xd) (by omega) (st2.bx.xh.ext0 xd) (fun hb e=>by cases e;exact ⟨by omega,fun o g=>st2.apF _ _ g (.inl h14)⟩) (fun y hy hlt S=>?_) (GapQ.cut hklo)) ?_
  ·rcases hle y hy with g | g
   ·exact .inl g
   ·have:c.κ y<c.κ k:=ltO.1 hlt
    omega
  rintro _ w3 ⟨rfl,x3,hH3,F',t3,hF'⟩
  refine ⟨by first | exact trivial | exact .inr trivial,?_⟩
  simp only [↓zZ1,↓reduceIte,Nat.reduceEqDiff,rg,ow_60,↓rgm]
  apply hK;clear hK K
  have x3:Ext (fun y o=>mapF c.m F y o\/hF (some c.b14) y o) w2 w3:=x3.od
  rw [eq] at t3
  rw [del_mid (by rw [<-eq];exact st.tr.asc)] at t3
  have st3:=st2.tree ok (xs':=c.Lx++Rr) (D':=c.DR Rr) x3 (fun y o g=>by
   rcases g with g | g
   ·rcases g with g | g
    ·exact .inl g
    ·exact .inr (.inl g.1)
   ·exact .inr (.inr (by cases g;rfl))) hH3 t3 (fun y o g=>(hF' y o g)) fun x hx=>hpiv x (by
    rw [eq]
    rcases List.mem_append.1 hx with g | g
    ·exact List.mem_append_left _ g
    ·exact List.mem_append_right _ (List.mem_cons_of_mem _ g))
  refine W_sq fun K hK=>(W_text [true,true,true] (by kernel_rfl) ?_);simp only [↓zZ1,↓reduceIte,Nat.reduceEqDiff,rg,ow_60,e16,hsl0]
  apply hK;clear hK K
  refine W_goto (hK _ _ _ _ _ _ _ _ _ ?_ st3 rfl (x3.wokR hwk2))
  exact ⟨by simp only [upd_eq,Nat.reduceEqDiff,↓reduceIte];exact hE2.e4,by simp only [upd_eq,Nat.reduceEqDiff,↓reduceIte];exact hE2.e5,by simp only [upd_eq,Nat.reduceEqDiff,↓reduceIte];exact hE2.e7,by simp only [upd_eq,Nat.reduceEqDiff,↓reduceIte];exact hE2.e10,by simp only [upd_eq,Nat.reduceEqDiff,↓reduceIte];exact hE2.e11,by simp only [upd_eq,Nat.reduceEqDiff,↓reduceIte];exact hE2.e13,by simp only [upd_eq,Nat.reduceEqDiff,↓reduceIte];exact hE2.e14,by simp only [upd_eq,Nat.reduceEqDiff,↓reduceIte];exact hE2.e15,by simp only [upd_eq,Nat.reduceEqDiff,↓reduceIte]⟩
 clear hJ hK
 have wk1:=x1.wokR hwk
 cases hex:c.ex with
 | false =>
  have e11:=hE.e11
  rw [hex] at e11
  refine W_sq fun K hK=>(W_text [true] (by kernel_rfl) ?_);simp only [↓zZ1,↓reduceIte,Nat.reduceEqDiff,rg,ow_60,e11]
  apply hK;clear hK K
  refine W_false (by simp only [zZ2,Nat.reduceEqDiff,↓reduceIte,zZ3]<;>rfl) (W_skip ?_)
  refine hend _ _ _ _ _ _ (fun k' hk'=>?_) (st1.skip (A:=[]) (S:=[]) hex fun y hy=>?_) on1 wk1
  ·simp only [upd_apply];repeat rw [if_neg (by omega)]
  ·rcases hy with rfl | hy
   ·exact hst
   ·cases hy
 | true =>
  have e11:=hE.e11
  have e4:=hE.e4
  rw [hex] at e11
  refine W_sq fun K hK=>(W_text [true] (by kernel_rfl) ?_);simp only [↓zZ1,↓reduceIte,Nat.reduceEqDiff,rg,ow_60,e11]
  apply hK;clear hK K
  refine W_true (by simp only [zZ2,Nat.reduceEqDiff,↓reduceIte,zZ3]<;>rfl) ?_
  refine W_rg fun K hK=>(W_text [true,true,true,true,true,true,true,true,false] (by kernel_rfl) ?_);simp only [↓zZ1,↓reduceIte,Nat.reduceEqDiff,rg,ow_60,e4,e17,e18,ptr_eq,h21,hil,kv1]
  refine do_call fn_98 (vs:=#[ptr c.lb,itV k,nV none]) (by simp only [zZ2,Nat.reduceEqDiff,↓reduceIte,zZ4]<;>rfl) (st1.app_call (A:=[]) (S:=[]) (e0:=(k,none)) (Fe:=noF) ok hex (fun _ _ g=>g.elim) (.inl ⟨rfl,rfl⟩) (fun s hs=>by cases hs) fun y hy=>?_) ?_
  ·rcases hy with rfl | hy
   ·exact hst
   ·cases hy
  rintro _ w2 ⟨q',kb',sg',fp',st2,x2⟩
  refine ⟨trivial,?_⟩
  simp only [↓zZ1,↓reduceIte,Nat.reduceEqDiff,rg,ow_60]
  apply hK;clear hK K
  refine hend _ _ _ _ _ _ (fun k' hk'=>?_) st2 (on1.ext x2 fun y o g k'=>st1.notF k' (hoF y o g)) (x2.wokR wk1)
  simp only [upd_apply];repeat rw [if_neg (by omega)]
set_option maxHeartbeats 4000000 in
set_option maxRecDepth 8000 in
theorem again_leaf {Q:Post} {e:Env} {b bi oi cap i n b0 o0 cp:Nat} {cnt:Int} {ks Rr:List It} {ch:Value} {k:It} (ok:c.Ok) (hE:c.Ev e sv) (e17:e 17=ptr b) (e18:e 18 = .int .i64 i) (st:c.St w (c.DR (k::Rr)) xs F q kb sg fp (k::Rr) sb pv) (eq:xs=c.Lx++k::Rr) (hk:ks[i]? = some k)
  (on:Own E w b c.iso cnt bi oi cap ks ch) (hoF:∀ y o,ownF E b bi oi cap y o->F y o) (hst:stopI c.ord c.mi c.mxi k=false) (hsv:sv = .slice (some ⟨b0,o0,none⟩) n cp) (hb0:sb=some b0) (hwk:wokR w b0 o0 (cp*2))
  (hK:∀ e' w' xs' F' q' kb' sg' fp' pv',c.Ev e' (.slice (some ⟨b0,o0,none⟩) (0:Nat) cp)->c.St w' (c.DR Rr) xs' F' q' kb' sg' fp' Rr sb pv'->xs'=c.Lx++Rr->wokR w' b0 o0 (cp*2)->Q (.goto 0) e' w'):W Try.prog 657 (pc Try.f60 [1,0,1,1,1,1,1,1,1,1,1,1,1,1,1,1,0,0,0,0,1,1,1,1,1,0,0,0,1,0,0,1,1,1]) Q e w:=by
 refine W_pc rfl ?_
 have hil:=(List.getElem?_eq_some_iff.1 hk).1
 have kv:=it_at on.row hk
 have h2:=on.h2
 have e15:=hE.e15
 have hasc:xs.Pairwise fun a b=>c.κ a<c.κ b:=κ_asc st.tr.asc
 have hord:=hasc
 rw [eq] at hord
 obtain ⟨p1,p2,p3⟩:=List.pairwise_append.1 hord
 obtain ⟨p4,p5⟩:=List.pairwise_cons.1 p2
 have hkR:k ∈ c.R0:=st.qs.sub.subset (by simp)
 have hklo:=ok.high k hkR
 have hRlo:∀ x ∈ Rr,c.κ k<c.κ x:=p4
 have hpiv:∀ x ∈ xs,c.κ x<c.κ k ↔ c.κ x<c.lo:=fun x hx=>by
  rw [eq] at hx
  rcases List.mem_append.1 hx with g | g
  ·have:=p3 x g k (by simp);have:=ok.low x g;omega
  ·rcases List.mem_cons.1 g with g | g
   ·subst g;omega
   ·have:=hRlo x g;omega
 refine W_sq fun K hK=>(W_text [true,true,true,true,true,true,true,false] (by kernel_rfl) ?_);simp only [↓zZ1,↓reduceIte,Nat.reduceEqDiff,rg,ow_60,e15,e17,e18,ptr_eq,h2,hil,kv]
 refine do_store (v:=itV k) (by simp only [evt,upd_eq,Nat.reduceEqDiff,↓reduceIte];first | exact e15 | rfl) (by simp only [zZ2,Nat.reduceEqDiff,↓reduceIte,zZ3]<;>rfl) sz_33 (rb_len k) st.bx.w15 (by decide) (rb_oc k) fun w1 x1 r1 s1=>⟨trivial,?_⟩
 simp only [↓zZ1,↓reduceIte,Nat.reduceEqDiff,rg,ow_60]
 apply hK;clear hK K
 have st1:=st.pivot ok (pv':=k) x1 r1 hpiv
 have hb15:∀ y o,F y o->¬ rng c.b15 0 2 y o:=fun y o g k'=>st.apF y o g (.inl (by rw [k'.1];exact ok.le c.b15 (by simp)))
 have on1:=on.ext x1 fun y o g=>hb15 y o (hoF y o g)
 have kv1:=it_at on1.row hk
 have h21:=on1.h2
 refine W_sqx fun J hJ=>?_
 have hend:∀ f w2 q' kb' sg' fp',(∀ k',k'<=20->f k'=e k')->c.St w2 (c.DR (k::Rr)) xs F q' kb' sg' fp' Rr sb k->Own E w2 b c.iso cnt bi oi cap ks ch->wokR w2 b0 o0 (cp*2)->J f w2:=by
  intro f w2 q' kb' sg' fp' hf st2 on2 hwk2
  refine hJ _ _ ?_;clear hJ J
  have hE2:=hE.keep 20 (by omega) hf
  have e5:=hE2.e5
  have e14:=hE2.e14
  have e16:=hE2.e16
  rw [hsv] at e16
  have f17:f 17=ptr b:=(hf 17 (by omega)).trans e17
  have f18:f 18 = .int .i64 i:=(hf 18 (by omega)).trans e18
  have kv2:=it_at on2.row hk
  have h22:=on2.h2
  have x5:=st2.bx.x5
  have hm:=RgC.St.S0m ok
  have h14:=ok.le c.b14 (by simp)
  have hDR:∀ y,c.DR Rr y->c.DR (k::Rr) y\/y=k:=fun y hy=>by
   by_cases e:y=k
   ·exact .inr e
   ·exact .inl ⟨hy.1,hy.2.1,fun g=>by
     rcases List.mem_cons.1 g with g | g
     ·exact e g
     ·exact hy.2.2 g⟩
  have hle:∀ x ∈ xs,c.κ x<c.lo\/c.κ k<=c.κ x:=fun x hx=>by have:=hpiv x hx;omega
  have tP:TreeAtP (c.P Rr) c.B c.ord w2 c.m c.d c.iso xs F:=st2.tr.imp fun x hx S _ hP=>by
   rcases hle x hx with g | g
   ·exact .inl g
   ·exact hP.more fun y hy=>(hDR y hy).imp id fun hy=>.inl (by rw [hy];exact g)
  have hxl:xs.length<=2147483647:=by
   have h1:=ok.big
   have h2:=st.qs.sub.length_le
   rw [eq];rw [List.length_append] at h1 ⊢;omega
  have hsl0:slcX (some 2) (.slice (some ⟨b0,o0,none⟩) n cp) none (some (.int .i64 0)) none=some (.slice (some ⟨b0,o0,none⟩) (0:Nat) cp):=slcX_hi 2 b0 o0 n cp 0 .i64 (Nat.zero_le _)
  have hnv:hV (some c.b14)=ptr c.b14:=rfl
  refine W_sq fun K hK=>(W_semi (some none) (.take true 0 (.take false 1 (.take false 2 (.take false 3 (.take true 4 (.take false 5 (.take false 6 (.take true 7 (.bar 8 .nil))))))))) mixed (by kernel_rfl) ?_);simp only [↓rgm,↓zZ1,↓reduceIte,Nat.reduceEqDiff,rg,ow_60,e5,e14,f17,f18,ptr_eq,x5,h22,hil,kv2]
  have xd:=Ext.dr noF w2 (w2.drawn+1)
  refine do_call fn_92 (vs:=#[ptr c.m,itV k,hV (some c.b14)]) (by simp only [zZ2,Nat.reduceEqDiff,↓reduceIte,zZ4,e14]<;>rfl) (delHP_any (c.P Rr) GapQ.anti c.B c.m c.d c.iso c.ord k (some c.b14) ok.hd ok.hd' xs F _ (tP.ext xd) (by omega) (st2.bx.xh.ext0 xd) (fun hb e=>by cases e;exact ⟨by omega,fun o g=>st2.apF _ _ g (.inl h14)⟩) (fun y hy hlt S=>?_) (GapQ.cut hklo)) ?_
  ·rcases hle y hy with g | g
   ·exact .inl g
   ·have:c.κ y<c.κ k:=ltO.1 hlt
    omega
  rintro _ w3 ⟨rfl,x3,hH3,F',t3,hF'⟩
  refine ⟨by first | exact trivial | exact .inr trivial,?_⟩
  simp only [↓zZ1,↓reduceIte,Nat.reduceEqDiff,rg,ow_60,↓rgm]
  apply hK;clear hK K
  have x3:Ext (fun y o=>mapF c.m F y o\/hF (some c.b14) y o) w2 w3:=x3.od
  rw [eq] at t3
  rw [del_mid (by rw [<-eq];exact st.tr.asc)] at t3
  have st3:=st2.tree ok (xs':=c.Lx++Rr) (D':=c.DR Rr) x3 (fun y o g=>by
   rcases g with g | g
   ·rcases g with g | g
    ·exact .inl g
    ·exact .inr (.inl g.1)
   ·exact .inr (.inr (by cases g;rfl))) hH3 t3 (fun y o g=>(hF' y o g)) fun x hx=>hpiv x (by
    rw [eq]
    rcases List.mem_append.1 hx with g | g
    ·exact List.mem_append_left _ g
    ·exact List.mem_append_right _ (List.mem_cons_of_mem _ g))
  refine W_sq fun K hK=>(W_text [true,true,true] (by kernel_rfl) ?_);simp only [↓zZ1,↓reduceIte,Nat.reduceEqDiff,rg,ow_60,e16,hsl0]
  apply hK;clear hK K
  refine W_goto (hK _ _ _ _ _ _ _ _ _ ?_ st3 rfl (x3.wokR hwk2))
  exact ⟨by simp only [upd_eq,Nat.reduceEqDiff,↓reduceIte];exact hE2.e4,by simp only [upd_eq,Nat.reduceEqDiff,↓reduceIte];exact hE2.e5,by simp only [upd_eq,Nat.reduceEqDiff,↓reduceIte];exact hE2.e7,by simp only [upd_eq,Nat.reduceEqDiff,↓reduceIte];exact hE2.e10,by simp only [upd_eq,Nat.reduceEqDiff,↓reduceIte];exact hE2.e11,by simp only [upd_eq,Nat.reduceEqDiff,↓reduceIte];exact hE2.e13,by simp only [upd_eq,Nat.reduceEqDiff,↓reduceIte];exact hE2.e14,by simp only [upd_eq,Nat.reduceEqDiff,↓reduceIte];exact hE2.e15,by simp only [upd_eq,Nat.reduceEqDiff,↓reduceIte]⟩
 clear hJ hK
 have wk1:=x1.wokR hwk
 cases hex:c.ex with
 | false =>
  have e11:=hE.e11
  rw [hex] at e11
  refine W_sq fun K hK=>(W_text [true] (by kernel_rfl) ?_);simp only [↓zZ1,↓reduceIte,Nat.reduceEqDiff,rg,ow_60,e11]
  apply hK;clear hK K
  refine W_false (by simp only [zZ2,Nat.reduceEqDiff,↓reduceIte,zZ3]<;>rfl) (W_skip ?_)
  refine hend _ _ _ _ _ _ (fun k' hk'=>?_) (st1.skip (A:=[]) (S:=[]) hex fun y hy=>?_) on1 wk1
  ·simp only [upd_apply];repeat rw [if_neg (by omega)]
  ·rcases hy with rfl | hy
   ·exact hst
   ·cases hy
 | true =>
  have e11:=hE.e11
  have e4:=hE.e4
  rw [hex] at e11
  refine W_sq fun K hK=>(W_text [true] (by kernel_rfl) ?_);simp only [↓zZ1,↓reduceIte,Nat.reduceEqDiff,rg,ow_60,e11]
  apply hK;clear hK K
  refine W_true (by simp only [zZ2,Nat.reduceEqDiff,↓reduceIte,zZ3]<;>rfl) ?_
  refine W_rg fun K hK=>(W_text [true,true,true,true,true,true,true,true,false] (by kernel_rfl) ?_);simp only [↓zZ1,↓reduceIte,Nat.reduceEqDiff,rg,ow_60,e4,e17,e18,ptr_eq,h21,hil,kv1]
  refine do_call fn_98 (vs:=#[ptr c.lb,itV k,nV none]) (by simp only [zZ2,Nat.reduceEqDiff,↓reduceIte,zZ4]<;>rfl) (st1.app_call (A:=[]) (S:=[]) (e0:=(k,none)) (Fe:=noF) ok hex (fun _ _ g=>g.elim) (.inl ⟨rfl,rfl⟩) (fun s hs=>by cases hs) fun y hy=>?_) ?_
  ·rcases hy with rfl | hy
   ·exact hst
   ·cases hy
  rintro _ w2 ⟨q',kb',sg',fp',st2,x2⟩
  refine ⟨trivial,?_⟩
  simp only [↓zZ1,↓reduceIte,Nat.reduceEqDiff,rg,ow_60]
  apply hK;clear hK K
  refine hend _ _ _ _ _ _ (fun k' hk'=>?_) st2 (on1.ext x2 fun y o g k'=>st1.notF k' (hoF y o g)) (x2.wokR wk1)
  simp only [upd_apply];repeat rw [if_neg (by omega)]
end Go.Proofs.Ytbnnkcofnmipoaa
namespace Go.Proofs.Ytbnnkcofnmipoaa
open Go Go.Proofs
variable {c:RgC} {w w':World} {xs:List It} {F:Nat->Nat->Prop} {q:List Qe} {kb:Option Nat} {sg:Qe->List It} {fp:Qe->Nat->Nat->Prop} {R Rt:List It} {sb:Option Nat} {pv:It}
 {H root:Nat} {L:List (Nat × Nat)} {h lo b:Nat} {ys:List It} {Fb:Nat->Nat->Prop} {A C:List It} {sv:Value}
variable {bi oi cap:Nat} {ks:List It} {bc ba oa capc:Nat} {cs:List (Kid It)} {i:Nat}
theorem gt_tt (a n:Nat) (h:n<a):decide ((a:Int) > (n:Int))=true:=by simp;omega
theorem gt_ff (a n:Nat) (h:a<=n):decide ((a:Int) > (n:Int))=false:=by simp;omega
set_option maxHeartbeats 8000000 in
set_option maxRecDepth 8000 in
theorem guard20 {Q:Post} {e:Env} (ok:c.Ok) (hE:c.Ev e sv) (e17:e 17=ptr b) (e18:e 18 = .int .i64 i) (N:c.Nd w xs F q kb sg fp R R sb pv H root L h lo b ys Fb A C sv) {ch:Value} {cnt:Int} (on:Own E w b c.iso cnt bi oi cap ks ch) (hpos:0<ks.length) (hbig:ks.length<=2147483648)
  (hT:∀ e' w' k2,(∀ k,k<=19->e' k=e k)->Ext noF w w'->ks[i+1]? = some k2->(c.d-1<ks.length\/(1<ks.length/\L.length=1))->c.κ k2<c.κ c.mxi->W Try.prog 657 (pc Try.f60 [1,0,1,1,1,1,1,1,1,1,1,1,1,1,1,1,0,0,0,0,1,1,0,1,0,0,1,0]) Q e' w')
  (hF:∀ e' w',(∀ k,k<=19->e' k=e k)->Ext noF w w'->Q .normal e' w'):W Try.prog 657 (pc Try.f60 [1,0,1,1,1,1,1,1,1,1,1,1,1,1,1,1,0,0,0,0,1,1,0,1,0,0]) Q e w:=by
 refine W_pc rfl ?_
 obtain ⟨b0,o0,cp,hsv,hcp,hsr⟩:=stk_some N.stk N.pos
 have e5:=hE.e5
 have e7:=hE.e7
 have e16:=hE.e16
 rw [hsv] at e16
 have x5:=N.st.bx.x5
 have h2:=on.h2
 have mn:=N.st.tr.cfg.mn
 have q1:=wsub1 ks.length (by omega) (by omega)
 have xd:=Ext.dr noF w (w.drawn+1)
 by_cases h1:i<ks.length-1
 ·have t1:=lt_tt i (ks.length-1) h1
  obtain ⟨k2,hk2⟩:∃ k2,ks[i+1]? = some k2:=⟨_,List.getElem?_eq_getElem (by omega)⟩
  have hil2:i+1<ks.length:=by omega
  have kv:=it_at on.row hk2
  have q2:=wadd1 i (by omega)
  obtain ⟨lv,hlv,hls,hB⟩:=N.st.tr.less
  have x7:rdA w c.b7 0 2=some (itV c.mxi):=N.st.bx.x7.rdA 2 (by show 2<=2;omega)
  have fin:∀ (t:Bool) f w2,(∀ k,k<=19->f k=e k)->Ext noF w w2->f 146 = .bool t->(t=true->(c.d-1<ks.length\/(1<ks.length/\L.length=1))/\c.κ k2<c.κ c.mxi)->W Try.prog 657 (.cond (.tmp 146) (pc Try.f60 [1,0,1,1,1,1,1,1,1,1,1,1,1,1,1,1,0,0,0,0,1,1,0,1,0,0,1,0]) .skip) Q f w2:=by
   intro t f w2 hf x hft ht
   cases t with
   | true=>exact W_true (by show f 146=_;exact hft) (hT f w2 k2 hf x hk2 (ht rfl).1 (ht rfl).2)
   | false=>exact W_false (by show f 146=_;exact hft) (W_skip (hF f w2 hf x))
  have o1:=on5_0 c.b5 c.m b bi c.b7
  have o2:=on5_1 c.b5 c.m b bi c.b7
  have o3:=on5_2 c.b5 c.m b bi c.b7
  have o4:=on5_3 c.b5 c.m b bi c.b7
  have o5:=on5_4 c.b5 c.m b bi c.b7
  have hkeep:∀ w2,Ext noF (dr w (w.drawn+1)) w2->keeps (some (some [c.b5,c.m,b,bi,c.b7])) (dr w (w.drawn+1)) w2:=fun w2 x2=>keeps_on x2 fun y hy=>by
   simp only [List.mem_cons,List.not_mem_nil,or_false] at hy
   refine ⟨?_,fun _ g=>g⟩
   show y<w.heap.size
   have g1:=rd_lt x5
   have g2:=N.st.tr.t.mlt
   have g3:=wok_lt on.wb
   have g4:=wok_lt on.wi
   have g5:c.b7<w.heap.size:=by
    have:=ok.le c.b7 (by simp)
    have:=N.st.s1
    omega
   rcases hy with rfl | rfl | rfl | rfl | rfl
   ·exact g1
   ·exact g2
   ·exact g3
   ·exact g4
   ·exact g5
  by_cases hg:c.d-1<ks.length
  ·have t2:=gt_tt ks.length (c.d-1) hg
   refine W_sq fun K hK=>(W_semi (some (some [c.b5,c.m,b,bi,c.b7])) (.take false 0 (.take false 1 (.take false 2 (.take false 3 (.take false 4 (.take false 5 (.take false 6 (.take false 7 (.take false 8 (.take false 9 (.take false 10 (.take false 11 (.take false 12 (.take false 13 (.take false 14 (.take false 15 (.take false 16 (.take false 17 (.take false 18 (.take false 19 (.take false 20 (.take false 21 (.take false 22 (.take false 23 (.take false 24 (.take false 25 (.take false 26 (.take false 27 (.take false 28 (.take false 29 (.take false 30 (.take false 31 (.take false 32 (.take false 33 (.take true 34 (.take false 35 (.take false 36 (.take true 37 (.take false 38 (.take false 39 (.take false 40 (.take true 41 (.take false 42 (.take false 43 (.take false 44 (.take true 45 (.take true 46 (.act 47 (.take false 48 .nil))))))))))))))))))))))))))))))))))))))))))))))))) mixed (by kernel_rfl) ?_);simp only [↓rgm,↓zZ1,↓reduceIte,Nat.reduceEqDiff,rg,ow_60,e5,e7,e16,e17,e18,ptr_eq,x5,h2,mn,q1,q2,t1,t2,hil2,kv,hlv,x7,o1,o2,o3,o4,o5,rB_on]
   refine do_callW (by simp only [zZ2,Nat.reduceEqDiff,↓reduceIte,zZ3]<;>rfl) (by simp only [zZ2,Nat.reduceEqDiff,↓reduceIte,zZ4]<;>rfl) (before_any c.B lv c.ord k2 c.mxi _ (hls.ext xd fun _ _ g=>g.elim)) ?_
   rintro _ w2 ⟨rfl,x2⟩
   refine ⟨.inr (hkeep w2 x2),?_⟩
   simp only [↓zZ1,↓reduceIte,Nat.reduceEqDiff,rg,ow_60,↓rgm]
   apply hK;clear hK K
   refine fin _ _ _ (fun k hk=>?_) x2.od (by simp only [upd_eq,Nat.reduceEqDiff,↓reduceIte]<;>rfl) fun ht=>⟨.inl hg,ltO.1 ht⟩
   simp only [upd_apply];repeat rw [if_neg (by omega)]
  ·have t2:=gt_ff ks.length (c.d-1) (by omega)
   have t3:decide ((ks.length:Int) > 1)=true:=by simp;omega
   by_cases hL:L.length=1
   ·have t4:(((L.length:Nat):Int) == 1)=true:=by rw [hL];rfl
    refine W_sq fun K hK=>(W_semi (some (some [c.b5,c.m,b,bi,c.b7])) (.take false 0 (.take false 1 (.take false 2 (.take false 3 (.take false 4 (.take false 5 (.take false 6 (.take false 7 (.take false 8 (.take false 9 (.take false 10 (.take false 11 (.take false 12 (.take false 13 (.take false 14 (.take false 15 (.take false 16 (.take false 17 (.take false 18 (.take false 19 (.take false 20 (.take false 21 (.take false 22 (.take false 23 (.take false 24 (.take false 25 (.take false 26 (.take false 27 (.take false 28 (.take false 29 (.take false 30 (.take false 31 (.take false 32 (.take false 33 (.take true 34 (.take false 35 (.take false 36 (.take true 37 (.take false 38 (.take false 39 (.take false 40 (.take true 41 (.take false 42 (.take false 43 (.take false 44 (.take true 45 (.take true 46 (.act 47 (.take false 48 .nil))))))))))))))))))))))))))))))))))))))))))))))))) mixed (by kernel_rfl) ?_);simp only [↓rgm,↓zZ1,↓reduceIte,Nat.reduceEqDiff,rg,ow_60,e5,e7,e16,e17,e18,ptr_eq,x5,h2,mn,q1,q2,t1,t2,t3,t4,hil2,kv,hlv,x7,o1,o2,o3,o4,o5,rB_on]
    refine do_callW (by simp only [zZ2,Nat.reduceEqDiff,↓reduceIte,zZ3]<;>rfl) (by simp only [zZ2,Nat.reduceEqDiff,↓reduceIte,zZ4]<;>rfl) (before_any c.B lv c.ord k2 c.mxi _ (hls.ext xd fun _ _ g=>g.elim)) ?_
    rintro _ w2 ⟨rfl,x2⟩
    refine ⟨.inr (hkeep w2 x2),?_⟩
    simp only [↓zZ1,↓reduceIte,Nat.reduceEqDiff,rg,ow_60,↓rgm]
    apply hK;clear hK K
    refine fin _ _ _ (fun k hk=>?_) x2.od (by simp only [upd_eq,Nat.reduceEqDiff,↓reduceIte]<;>rfl) fun ht=>⟨.inr ⟨by omega,hL⟩,ltO.1 ht⟩
    simp only [upd_apply];repeat rw [if_neg (by omega)]
   ·have t4:(((L.length:Nat):Int) == 1)=false:=by simp;omega
    refine W_sq fun K hK=>(W_semi (some (some [c.b5,c.m,b,bi,c.b7])) (.take false 0 (.take false 1 (.take false 2 (.take false 3 (.take false 4 (.take false 5 (.take false 6 (.take false 7 (.take false 8 (.take false 9 (.take false 10 (.take false 11 (.take false 12 (.take false 13 (.take false 14 (.take false 15 (.take false 16 (.take false 17 (.take false 18 (.take false 19 (.take false 20 (.take false 21 (.take false 22 (.take false 23 (.take false 24 (.take false 25 (.take false 26 (.take false 27 (.take false 28 (.take false 29 (.take false 30 (.take false 31 (.take false 32 (.take false 33 (.take true 34 (.take false 35 (.take false 36 (.take true 37 (.take false 38 (.take false 39 (.take false 40 (.take true 41 (.take false 42 (.take false 43 (.take false 44 (.take true 45 (.take true 46 (.act 47 (.take false 48 .nil))))))))))))))))))))))))))))))))))))))))))))))))) mixed (by kernel_rfl) ?_);simp only [↓rgm,↓zZ1,↓reduceIte,Nat.reduceEqDiff,rg,ow_60,e5,e7,e16,e17,e18,ptr_eq,x5,h2,mn,q1,q2,t1,t2,t3,t4,o1,o2,o3,o4,o5,rB_on]
    apply hK;clear hK K
    refine W_false (by simp only [zZ2,Nat.reduceEqDiff,↓reduceIte,zZ3]<;>rfl) (W_skip (hF _ _ (fun k hk=>?_) (by first | exact Ext.refl _ _ | exact Ext.dr _ _ _)))
    simp only [upd_apply];repeat rw [if_neg (by omega)]
 ·have t1:=lt_ff i (ks.length-1) (by omega)
  refine W_sq fun K hK=>(W_semi (some none) (.take false 0 (.take false 1 (.take false 2 (.take false 3 (.take false 4 (.take false 5 (.take false 6 (.take false 7 (.take false 8 (.take false 9 (.take false 10 (.take false 11 (.take false 12 (.take false 13 (.take false 14 (.take false 15 (.take false 16 (.take false 17 (.take false 18 (.take false 19 (.take false 20 (.take false 21 (.take false 22 (.take false 23 (.take false 24 (.take false 25 (.take false 26 (.take false 27 (.take false 28 (.take false 29 (.take false 30 (.take false 31 (.take false 32 (.take false 33 (.take true 34 (.take false 35 (.take false 36 (.take true 37 (.take false 38 (.take false 39 (.take false 40 (.take true 41 (.take false 42 (.take false 43 (.take false 44 (.take true 45 (.take true 46 (.act 47 (.take false 48 .nil))))))))))))))))))))))))))))))))))))))))))))))))) mixed (by kernel_rfl) ?_);simp only [↓rgm,↓zZ1,↓reduceIte,Nat.reduceEqDiff,rg,ow_60,e16,e17,e18,ptr_eq,h2,q1,t1]
  apply hK;clear hK K
  refine W_false (by simp only [zZ2,Nat.reduceEqDiff,↓reduceIte,zZ3]<;>rfl) (W_skip (hF _ _ (fun k hk=>?_) (by first | exact Ext.refl _ _ | exact Ext.dr _ _ _)))
  simp only [upd_apply];repeat rw [if_neg (by omega)]
end Go.Proofs.Ytbnnkcofnmipoaa
namespace Go.Proofs.Ytbnnkcofnmipoaa
open Go Go.Proofs
variable {c:RgC} {w w':World} {xs:List It} {F:Nat->Nat->Prop} {q:List Qe} {kb:Option Nat} {sg:Qe->List It} {fp:Qe->Nat->Nat->Prop} {R Rt:List It} {sb:Option Nat} {pv:It}
  {H root:Nat} {L:List (Nat × Nat)} {h lo b:Nat} {ys:List It} {Fb:Nat->Nat->Prop} {A C:List It} {sv:Value}
variable {bi oi cap:Nat} {ks:List It} {bc ba oa capc:Nat} {cs:List (Kid It)} {i:Nat}
theorem bu_s (b i:Nat):buildV Try.prog 161 [(0,ptr b),(1,.int .i64 i)]=some (.agg #[ptr b,.int .i64 i]):=by kernel_rfl
theorem bu_s0 (b:Nat):buildV Try.prog 161 [(0,ptr b),(1,.int .i64 0)]=some (.agg #[ptr b,.int .i64 (0:Nat)]):=by kernel_rfl
theorem bs_s1 (b i:Nat):bsV Try.prog 157 1 [(0,.agg #[ptr b,.int .i64 i])]=some (161,Es.cel (b,i)):=by kernel_rfl
theorem el_s:elK Try.prog 157=some (161,2,16,[.pointer none,.int .i64 0]):=by kernel_rfl
theorem ni_s:noInt Try.prog 157=true:=by kernel_rfl
theorem RgC.Op.klen (p:c.Op w R h lo b ys Fb bi oi cap ks bc ba oa capc cs):ks.length<=ys.length:=by
  have hwl:=(weave_sub (cs.map Kid.xs) ks (by simpa using p.n.len)).length_le
  rw [<-p.n.eq] at hwl;exact hwl
theorem RgC.Nd.ylen (N:c.Nd w xs F q kb sg fp R Rt sb pv H root L h lo b ys Fb A C sv):ys.length<=xs.length:=by rw [N.hw.at];simp only [List.length_append];omega
theorem RgC.Nd.lo1 (ok:c.Ok) (N:c.Nd w xs F q kb sg fp R Rt sb pv H root L h lo b ys Fb A C sv):1<=lo/\(lo=c.d-1\/(lo=1/\L.length=1))/\(L.length=1->lo=1):=by
  have:=ok.hd
  rcases N.hw.top with ⟨h1,h2,h3,h4⟩ | ⟨h1,h2⟩
  · exact ⟨by omega,.inr ⟨h3,by rw [h1];rfl⟩,fun _=>h3⟩
  · exact ⟨by omega,.inl h2,fun g=>by omega⟩
theorem RgC.Ev.stack {e e':Env} {sv':Value} (h:c.Ev e sv) (hk:∀ k,k<=15->e' k=e k) (h16:e' 16=sv'):c.Ev e' sv' :=
  ⟨by rw [hk _ (by omega)];exact h.e4,by rw [hk _ (by omega)];exact h.e5,by rw [hk _ (by omega)];exact h.e7,by rw [hk _ (by omega)];exact h.e10,by rw [hk _ (by omega)];exact h.e11,by rw [hk _ (by omega)];exact h.e13,by rw [hk _ (by omega)];exact h.e14,by rw [hk _ (by omega)];exact h.e15,h16⟩
set_option maxHeartbeats 8000000 in
set_option maxRecDepth 8000 in
theorem nextB {Q:Post} {e:Env} {fnd:Bool} (ok:c.Ok) (hE:c.Ev e sv) (e17:e 17=ptr b) (e18:e 18 = .int .i64 i) (e19:e 19 = .bool fnd) (N:c.Nd w xs F q kb sg fp R R sb pv H root L (h+1) lo b ys Fb A C sv) (p:c.Op w R h lo b ys Fb bi oi cap ks bc ba oa capc cs) (a:c.At fnd ks cs i)
    (hA:∀ x ∈ A,c.κ x<c.lo) (hC:∀ x ∈ C,c.lo<=c.κ x)
    (hB:∀ e' w' xs' F' q' kb' sg' fp' R' ys' Fb' ks' cs',c.Ev e' sv->e' 17=ptr b->e' 18 = .int .i64 i->e' 19 = .bool fnd->c.Nd w' xs' F' q' kb' sg' fp' R' R' sb pv H root L (h+1) lo b ys' Fb' A C sv->c.Op w' R' h lo b ys' Fb' bi oi cap ks' bc ba oa capc cs'->c.At fnd ks' cs' i->R'.length<R.length->Q (if fnd then .goto 1 else .exit 1) e' w')
    (hRet:∀ e' w',e' 10=ptr c.b10->c.Fin w'->Q .ret e' w')
    (hG:∀ e' w' xs' F' q' kb' sg' fp' R' pv' b0 o0 cp,c.Ev e' (.slice (some ⟨b0,o0,none⟩) (0:Nat) cp)->sb=some b0->c.St w' (c.DR R') xs' F' q' kb' sg' fp' R' sb pv'->xs'=c.Lx++R'->wokR w' b0 o0 (cp*2)->R'.length<R.length->Q (.goto 0) e' w')
    (hD:fnd=false->∀ e' w' sb' sv' (ci:Kid It),c.Ev e' sv'->e' 17=ptr ci.b->c.Nd w' xs F q kb sg fp R R sb' pv H root (L++[(ci.b,i)]) h (c.d-1) ci.b ci.xs ci.F (A++fr (cs.map Kid.xs) ks i) (tl (cs.map Kid.xs) ks i++C) sv'->Q (.exit 1) e' w') :
    W Try.prog 657 (pc Try.f60 [1,0,1,1,1,1,1,1,1,1,1,1,1,1,1,1,0,0,0,0,1,1]) Q e w:=by
  have hxl:=N.len ok N.st.qs.sub
  have hyx:=N.ylen
  have hkl:=p.klen
  obtain ⟨hlo1,hlo2,hlo3⟩:=N.lo1 ok
  refine W_pc rfl ?_
  refine W_seq ?_
  refine W_sq fun K hK=>(W_text [true,true,true,true,true] (by kernel_rfl) ?_);simp only [↓zZ1,↓reduceIte,Nat.reduceEqDiff,rg,ow_60,e17,ptr_eq,p.ho.h3]
  apply hK;clear hK K
  refine W_true (by simp only [zZ2,Nat.reduceEqDiff,↓reduceIte,zZ3]<;>rfl) ?_
  refine W_seq ?_
  have hup:∀ (f:Env) (n:Nat),(∀ k,k<=19->f k=e k)->n<=19->f n=e n:=fun f n hf hn=>hf n hn
  refine W_qc (f:=Try.f60) (p:=[1,0,1,1,1,1,1,1,1,1,1,1,1,1,1,1,0,0,0,0,1,1,0,1,0,0]) rfl (guard20 ok (hE.keep 19 (by omega) fun k hk=>by simp only [upd_apply];repeat rw [if_neg (by omega)]) e17 e18 N p.ho (by have:=p.h1;omega) (by omega) (fun f w1 k2 hf x1 hk2 hbk hmx=>?_) fun f w1 hf x1=>?_)
  ·
    have hf:∀ k,k<=19->f k=e k:=fun k hk=>(hf k hk).trans (by simp only [upd_apply];repeat rw [if_neg (by omega)])
    have N1:=N.ext0 ok x1
    have p1:=p.ext x1 fun _ _ _ g=>g
    have hil2:=(List.getElem?_eq_some_iff.1 hk2).1
    obtain ⟨k,hk⟩:∃ k,ks[i]? = some k:=⟨_,List.getElem?_eq_getElem (by omega)⟩
    obtain ⟨ci,hc⟩:=p.n.kid (show i<=ks.length by omega)
    obtain ⟨d,hd⟩:=p.n.kid (show i+1<=ks.length by omega)
    refine bulkP ok (hE.keep 19 (by omega) hf) ((hf 17 (by omega)).trans e17) ((hf 18 (by omega)).trans e18) ((hf 19 (by omega)).trans e19) N1 p1 a hk hk2 hc hd (by
      have hd2:=ok.hd
      rcases hbk with g3 | ⟨g3,g4⟩
      · rcases hlo2 with g | ⟨g,g2⟩<;>omega
      · have:=hlo3 g4;omega) hA hC hmx fun f2 w2 xs' F' q' kb' sg' fp' R' ys' Fb' hf2 N2 p2 a2 hlt=>?_
    have hf3:∀ k,k<=19->f2 k=e k:=fun k hk=>(hf2 k hk).trans (hf k hk)
    have:=hB f2 w2 xs' F' q' kb' sg' fp' R' ys' Fb' _ _ (hE.keep 19 (by omega) hf3) ((hf3 17 (by omega)).trans e17) ((hf3 18 (by omega)).trans e18) ((hf3 19 (by omega)).trans e19) N2 p2 a2 hlt
    cases fnd with
    | true=>exact this
    | false=>exact this
  · have hf:∀ k,k<=19->f k=e k:=fun k hk=>(hf k hk).trans (by simp only [upd_apply];repeat rw [if_neg (by omega)])
    have N1:=N.ext0 ok x1
    have p1:=p.ext x1 fun _ _ _ g=>g
    have hE1:=hE.keep 19 (by omega) hf
    have f17:f 17=ptr b:=(hf 17 (by omega)).trans e17
    have f18:f 18 = .int .i64 i:=(hf 18 (by omega)).trans e18
    have f19:f 19 = .bool fnd:=(hf 19 (by omega)).trans e19
    simp only [andThen_normal]
    clear x1 hup
    refine W_seq ?_
    refine W_sq fun K hK=>(W_text [true] (by kernel_rfl) ?_);simp only [↓zZ1,↓reduceIte,Nat.reduceEqDiff,rg,ow_60,f19]
    apply hK;clear hK K
    cases fnd with
    | true =>
      refine W_true (by simp only [zZ2,Nat.reduceEqDiff,↓reduceIte,zZ3]<;>rfl) ?_
      have hil:=a.lt rfl
      obtain ⟨k,hk⟩:∃ k,ks[i]? = some k:=⟨_,List.getElem?_eq_getElem hil⟩
      obtain ⟨ci,hc⟩:=p.n.kid a.le
      obtain ⟨d,hd⟩:=p.n.kid (show i+1<=ks.length by omega)
      have kv:=it_at p1.ho.row hk
      have h2:=p1.ho.h2
      have e13:=hE1.e13
      have hys:=p.n.xs hc
      rw [tl_step (Kid.at hd) hk] at hys
      have hxs:c.Lx++R=(A++fr (cs.map Kid.xs) ks i++ci.xs)++(k::(d.xs++tl (cs.map Kid.xs) ks (i+1))++C):=by
        rw [<-N.eq,N.hw.at];conv=>lhs;rw [hys]
        simp only [List.append_assoc,List.cons_append]
      have hRlo:∀ x ∈ R,c.lo<=c.κ x:=fun x hx=>ok.high x (N.st.qs.sub.subset hx)
      obtain ⟨-,hReq⟩:=split_at (κ:=c.κ) ok.low hRlo (fun x hx=>by
        rcases List.mem_append.1 hx with g | g
        · rcases List.mem_append.1 g with g | g
          · exact hA x g
          · exact a.fr x g
        · exact a.kid rfl ci hc x g) (fun x hx=>by
        rcases List.mem_append.1 hx with g | g
        · exact a.tl x (by rw [tl_step (Kid.at hd) hk];exact g)
        · exact hC x g) hxs
      rw [List.cons_append] at hReq
      obtain ⟨Rr,hRr⟩:∃ Rr,Rr=d.xs++tl (cs.map Kid.xs) ks (i+1)++C:=⟨_,rfl⟩
      rw [<-hRr] at hReq
      refine W_seq ?_
      refine W_sq fun K hK=>(W_text [true,true,true,true,true,true,true,true,false] (by kernel_rfl) ?_);simp only [↓zZ1,↓reduceIte,Nat.reduceEqDiff,rg,ow_60,e13,f17,f18,ptr_eq,h2,hil,kv]
      refine do_callv (first:=#[]) (captured:=#[ptr c.b12,ptr c.b5,ptr c.b7]) (by simp only [evt,upd_eq,Nat.reduceEqDiff,↓reduceIte];first | exact e13 | rfl) fn_stop rfl (by simp only [evt,upd_eq,Nat.reduceEqDiff,↓reduceIte,maT,maC,maN];exact stop_any c.B c.m c.b12 c.b5 c.b7 c.ord c.mi c.mxi k w1 N1.st.tr.less N1.st.bx.x12 N1.st.bx.x5 N1.st.bx.x7) ?_
      rintro _ w2 ⟨rfl,x2⟩
      refine ⟨trivial,?_⟩
      simp only [↓zZ1,↓reduceIte,Nat.reduceEqDiff,rg,ow_60]
      apply hK;clear hK K
      have N2:=N1.ext0 ok x2
      have p2:=p1.ext x2 fun _ _ _ g=>g
      cases hs:stopI c.ord c.mi c.mxi k with
      | true =>
        refine W_true (by simp only [evt,upd_eq,Nat.reduceEqDiff,↓reduceIte,hs]) ?_
        have hall:∀ x ∈ R,stopI c.ord c.mi c.mxi x=true:=fun x hx=>by
          have hasc:=R_asc ok N.st.qs
          rw [hReq] at hx hasc
          rcases List.mem_cons.1 hx with rfl | g
          · exact hs
          · have hlt:c.κ k<c.κ x:=(List.pairwise_cons.1 hasc).1 x g
            unfold stopI at hs ⊢
            cases hmi:c.mi with
            | true =>
              rw [hmi] at hs
              have hs:O.lt (rkI c.ord c.mxi) (rkI c.ord k)=true:=hs
              show O.lt (rkI c.ord c.mxi) (rkI c.ord x)=true
              exact ltO.2 (Int.lt_trans (ltO.1 hs) hlt)
            | false =>
              rw [hmi] at hs
              have hs:(!O.lt (rkI c.ord k) (rkI c.ord c.mxi))=true:=hs
              show (!O.lt (rkI c.ord x) (rkI c.ord c.mxi))=true
              simp only [Bool.not_eq_true'] at hs ⊢
              exact ltOf.2 (Int.le_trans (ltOf.1 hs) (Int.le_of_lt hlt))
        refine W_qc (f:=Try.f60) (p:=[1,0,1,1,1,1,1,1,1,1,1,1,1,1,1,1,0,0,0,0,1,1,0,1,0,1,0,1,0,0,1,0]) rfl (ret_39 ok (hE1.keep 19 (by omega) fun k hk=>by simp only [upd_apply];repeat rw [if_neg (by omega)]) N2.st N2.eq hall fun e' w' h10 hfin=>?_)
        exact hRet e' w' h10 hfin
      | false =>
        refine W_false (by simp only [evt,upd_eq,Nat.reduceEqDiff,↓reduceIte,hs]) (W_skip ?_)
        simp only [andThen_normal]
        obtain ⟨b0,o0,cp,hsv,hcp,hsr⟩:=stk_some N2.stk N2.pos
        have hwk:wokR w2 b0 o0 (cp*2):=by
          rcases N2.stk.2 with ⟨g,_⟩ | ⟨b1,o1,cp1,g,_,_,hw⟩
          · rw [hsv] at g;cases g
          · rw [hsv] at g;cases g;exact hw
        have st2:=N2.st
        have eq2:=N2.eq
        rw [hReq] at st2 eq2
        refine W_qc (f:=Try.f60) (p:=[1,0,1,1,1,1,1,1,1,1,1,1,1,1,1,1,0,0,0,0,1,1,0,1,0,1,0,1,0,1]) rfl (again_branch ok (hE1.keep 19 (by omega) fun k hk=>by simp only [upd_apply];repeat rw [if_neg (by omega)]) f17 f18 st2 eq2 hk p2.ho (fun y o g=>N2.hw.sub y o ((p2.n.fp y o).2 (.inl g))) hs hsv (N2.svb _ _ _ _ hsv) hwk fun e' w' xs' F' q' kb' sg' fp' pv' hE' st' eq' wk'=>?_)
        exact hG e' w' xs' F' q' kb' sg' fp' Rr pv' b0 o0 cp hE' (N2.svb _ _ _ _ hsv) st' eq' wk' (by rw [hReq];simp)
    | false =>
      refine W_false (by simp only [zZ2,Nat.reduceEqDiff,↓reduceIte,zZ3]<;>rfl) (W_skip ?_)
      simp only [andThen_normal]
      obtain ⟨ci,hc⟩:=p1.n.kid a.le
      have hcl:=(List.getElem?_eq_some_iff.1 hc).1
      have hcm:=List.mem_of_getElem? hc
      have e5:=hE1.e5
      have x5:=N1.st.bx.x5
      have h3:=p1.ho.h3
      have hk0:=p1.n.kids.c0
      rw [List.length_map] at hk0
      have hcr:rd w1 ba (oa+i)=some (ptr ci.b):=p1.n.kids.row i _ (by rw [List.getElem?_map,List.getElem?_map,hc];rfl)
      have tic:=(p1.n.sub ci hcm).iso0
      have hiso:=N1.st.tr.cfg.iso
      refine W_sq fun K hK=>(W_semi (some none) (.take true 0 (.take false 1 (.take false 2 (.take false 3 (.take true 4 (.take false 5 (.take true 6 (.take false 7 (.take false 8 (.bar 9 (.take false 10 .nil))))))))))) mixed (by kernel_rfl) ?_);simp only [↓rgm,↓zZ1,↓reduceIte,Nat.reduceEqDiff,rg,ow_60,e5,f17,f18,ptr_eq,x5,h3,hk0,hcl]
      refine do_call fn_96 (vs:=#[ptr c.m,.pointer (some ⟨ba,oa+i,none⟩),.bool true]) (by simp only [zZ2,Nat.reduceEqDiff,↓reduceIte,zZ4]<;>rfl) (isoLoad_any c.m ba (oa+i) ci.b true c.iso _ hiso hcr tic.1) ?_
      rintro _ w2 ⟨rfl,r2⟩
      refine ⟨by first | exact trivial | exact .inr trivial,?_⟩
      simp only [↓zZ1,↓reduceIte,Nat.reduceEqDiff,rg,ow_60,↓rgm]
      apply hK;clear hK K
      have x2:Ext noF w1 w2:=(Ext.dr noF _ _).tr r2.ext
      have N2:=N1.ext0 ok x2
      have p2:=p1.ext x2 fun _ _ _ g=>g
      have e16:=hE1.e16
      have hb1:=bu_s ci.b i
      refine W_sq fun K hK=>(W_text [true,true,true,true,false,false,true] (by kernel_rfl) ?_);simp only [↓zZ1,↓reduceIte,Nat.reduceEqDiff,rg,ow_60,e16,f18,hb1]
      refine do_bsl rfl (bs_s1 ci.b i) fun w3 n3=>⟨trivial,?_⟩
      simp only [↓zZ1,↓reduceIte,Nat.reduceEqDiff,rg,ow_60]
      have N3:=N2.ext0 ok n3.ext
      have p3:=p2.ext n3.ext fun _ _ _ g=>g
      refine do_append (v:=sv) (by simp only [evt,upd_eq,Nat.reduceEqDiff,↓reduceIte]<;>first | exact e16 | rfl) (by simp only [zZ2,Nat.reduceEqDiff,↓reduceIte,zZ3]<;>rfl) el_s rfl ni_s N3.stk (u:=.slice (some ⟨w2.heap.size,0,none⟩) 1 1) (m:=1) (l':=Es.cel (ci.b,i)) ⟨rfl,.inr ⟨_,0,1,rfl,Nat.le_refl _,n3.row,n3.wok.R (Nat.le_refl _)⟩⟩ (by
        have:=N.hw.len
        have:=N.ht.tr.height (by have:=ok.hd;omega) (by decide)
        omega) (by decide) (Es.one _) fun v4 w4 a4=>⟨trivial,?_⟩
      simp only [↓zZ1,↓reduceIte,Nat.reduceEqDiff,rg,ow_60]
      apply hK;clear hK K
      obtain ⟨sb',st4,svb4,x4,-⟩:=N3.st.app ok N3.stk N3.svb a4
      have hsv4:SlV w4 2 v4 (L.length+1) (flat Es (L++[(ci.b,i)])):=by rw [flat_append,flat_one];exact a4.1
      have N4:=N3.down ok p3 hc x4 st4 hsv4 svb4
      refine W_exit ?_
      refine hD rfl _ _ sb' v4 ci (hE1.stack (fun k hk=>?_) (by simp only [upd_eq,Nat.reduceEqDiff,↓reduceIte]<;>rfl)) (by simp only [upd_eq,Nat.reduceEqDiff,↓reduceIte]<;>rfl) N4
      simp only [upd_apply];repeat rw [if_neg (by omega)]
end Go.Proofs.Ytbnnkcofnmipoaa
namespace Go.Proofs.Ytbnnkcofnmipoaa
open Go Go.Proofs
variable {c:RgC} {w w':World} {xs:List It} {F:Nat->Nat->Prop} {q:List Qe} {kb:Option Nat} {sg:Qe->List It} {fp:Qe->Nat->Nat->Prop} {R Rt:List It} {sb:Option Nat} {pv:It}
 {H root:Nat} {L:List (Nat × Nat)} {h lo b:Nat} {ys:List It} {Fb:Nat->Nat->Prop} {A C:List It} {sv:Value}
variable {bi oi cap:Nat} {ks:List It} {bc ba oa capc:Nat} {cs:List (Kid It)} {i:Nat}
theorem stop_all (ok:c.Ok) {D0:It->Prop} {k:It} {Rr:List It} (st:c.St w D0 xs F q kb sg fp (k::Rr) sb pv) (hs:stopI c.ord c.mi c.mxi k=true):∀ x ∈ k::Rr,stopI c.ord c.mi c.mxi x=true:=fun x hx=>by
 have hasc:=R_asc ok st.qs
 rcases List.mem_cons.1 hx with rfl | g
 ·exact hs
 ·have hlt:c.κ k<c.κ x:=(List.pairwise_cons.1 hasc).1 x g
  unfold stopI at hs ⊢
  cases hmi:c.mi with
  | true =>
   rw [hmi] at hs
   have hs:O.lt (rkI c.ord c.mxi) (rkI c.ord k)=true:=hs
   show O.lt (rkI c.ord c.mxi) (rkI c.ord x)=true
   exact ltO.2 (Int.lt_trans (ltO.1 hs) hlt)
  | false =>
   rw [hmi] at hs
   have hs:(!O.lt (rkI c.ord k) (rkI c.ord c.mxi))=true:=hs
   show (!O.lt (rkI c.ord x) (rkI c.ord c.mxi))=true
   simp only [Bool.not_eq_true'] at hs ⊢
   exact ltOf.2 (Int.le_trans (ltOf.1 hs) (Int.le_of_lt hlt))
set_option maxHeartbeats 4000000 in
set_option maxRecDepth 8000 in
theorem upLoop {Q:Post} {e:Env} (ok:c.Ok) (hE:c.Ev e sv) (N:c.Nd w xs F q kb sg fp R R sb pv H root L h lo b ys Fb A C sv) (hA:∀ x ∈ A,c.κ x<c.lo) (hys:∀ x ∈ ys,c.κ x<c.lo) (hC:∀ x ∈ C,c.lo<=c.κ x)
  (hRet:∀ e' w',e' 10=ptr c.b10->c.Fin w'->Q .ret e' w')
  (hU:∀ e' w' L' h' lo' b' ys' Fb' A' C' sv' bi oi cap ks bc ba oa capc cs i,c.Ev e' sv'->e' 17=ptr b'->e' 18 = .int .i64 (i:Nat)->e' 19 = .bool true->c.Nd w' xs F q kb sg fp R R sb pv H root L' (h'+1) lo' b' ys' Fb' A' C' sv'->c.Op w' R h' lo' b' ys' Fb' bi oi cap ks bc ba oa capc cs->c.At true ks cs i->(∀ x ∈ A',c.κ x<c.lo)->(∀ x ∈ C',c.lo<=c.κ x)->Q (.goto 1) e' w') :
  W Try.prog 657 (pc Try.f60 [1,0,1,1,1,1,1,1,1,1,1,1,1,1,1,1,0,0,0,0,1,1,1,1,1,1]) Q e w:=by
 refine W_pc rfl ?_
 refine W_block (W_loop (fun mm e w=>∃ (L:List (Nat × Nat)) (h lo b:Nat) (ys:List It) (Fb:Nat->Nat->Prop) (A C:List It) (sv:Value),mm=L.length/\c.Ev e sv/\c.Nd w xs F q kb sg fp R R sb pv H root L h lo b ys Fb A C sv/\(∀ x ∈ A,c.κ x<c.lo)/\(∀ x ∈ ys,c.κ x<c.lo)/\∀ x ∈ C,c.lo<=c.κ x) L.length
  ⟨L,h,lo,b,ys,Fb,A,C,sv,rfl,hE,N,hA,hys,hC⟩ ?_)
 clear hE N hA hys hC
 rintro mm e w ⟨L,h,lo,b,ys,Fb,A,C,sv,rfl,hE,N,hA,hys,hC⟩
 obtain ⟨L0,i,rfl⟩:=N.hw.last
 have hLl:(L0++[(b,i)]).length=L0.length+1:=by simp
 obtain ⟨b0,o0,cp,hsv,hcp,hsr⟩:=stk_some N.stk N.pos
 rw [hLl] at hsv hcp
 have hlen:=N.hw.len
 have hht:=N.ht.tr.height (by have:=ok.hd;omega) (by decide)
 have hxl:=N.len ok N.st.qs.sub
 rw [hLl] at hlen
 have e16:=hE.e16
 rw [hsv] at e16
 have q1:=wsub1 (L0.length+1) (by omega) (by omega)
 rw [Nat.add_sub_cancel] at q1
 have hil:L0.length<L0.length+1:=by omega
 have sI:=sI_at hsr (i:=L0.length) (p:=(b,i)) (by simp)
 have hsl:=slcX_hi 2 b0 o0 (L0.length+1) cp L0.length .i64 (by omega)
 refine W_block ?_
 refine W_sq fun K hK=>(W_text [true,true,true,true,true,true,true,true] (by kernel_rfl) ?_);simp only [↓zZ1,↓reduceIte,Nat.reduceEqDiff,rg,ow_60,e16,q1,hil,sI]
 apply hK;clear hK K
 refine W_sq fun K hK=>(W_text [true,true,true,true,true,true] (by kernel_rfl) ?_);simp only [↓zZ1,↓reduceIte,Nat.reduceEqDiff,rg,ow_60,e16,q1,hsl]
 apply hK;clear hK K
 have hsv2:SlV w 2 (.slice (some ⟨b0,o0,none⟩) L0.length cp) L0.length (flat Es L0):=by
  rcases N.stk.2 with ⟨g,_⟩ | ⟨b1,o1,cp1,g,g2,g3,g4⟩
  ·rw [hsv] at g;cases g
  ·rw [hsv] at g
   simp only [Value.slice.injEq,Option.some.injEq,Addr.mk.injEq,and_true] at g
   obtain ⟨⟨rfl,rfl⟩,_,rfl⟩:=g
   refine ⟨flat_length _ _,.inr ⟨b0,o0,cp,rfl,by omega,?_,g4⟩⟩
   rw [flat_append] at g3
   exact (Row.append.1 g3).1
 have hsb:=N.svb _ _ _ _ hsv
 refine W_seq ?_
 rcases N.up rfl hsv2 (fun b1 o1 n1 cp1 g=>by cases g;exact hsb) with ⟨rfl,hx,rfl,rfl⟩ | ⟨lo',b',bi,oi,cap,bc,ba,oa,capc,i',xs',ks,Fb',cs,d,A',C',e1,N',p',hc,hdx,eA,eC⟩
 ·have z0:((([]:List (Nat × Nat)).length:Int) == 0)=true:=rfl
  refine W_sq fun K hK=>(W_text [true,true,true] (by kernel_rfl) ?_);simp only [↓zZ1,↓reduceIte,Nat.reduceEqDiff,rg,ow_60,z0]
  apply hK;clear hK K
  refine W_true (by simp only [zZ2,Nat.reduceEqDiff,↓reduceIte,zZ3]<;>rfl) ?_
  have hR0:R=[]:=by
   obtain ⟨_,g⟩:=split_at (κ:=c.κ) (Pre:=xs) (Suf:=[]) ok.low (fun x hx'=>ok.high x (N.st.qs.sub.subset hx')) (fun x hx'=>hys x (by rw [<-hx];exact hx')) (fun x hx'=>by cases hx') (by rw [List.append_nil];exact N.eq.symm)
   exact g
  refine W_qc (f:=Try.f60) (p:=[1,0,1,1,1,1,1,1,1,1,1,1,1,1,1,1,0,0,0,0,1,1,1,1,1,1,0,0,0,1,1,0,1,0]) rfl (ret_94 ok (hE.stack (fun k hk=>by simp only [upd_apply];repeat rw [if_neg (by omega)]) rfl) N.st N.eq (fun x hx'=>by rw [hR0] at hx';cases hx') fun e' w' h10 hfin=>?_)
  exact hRet e' w' h10 hfin
 ·simp only [Prod.mk.injEq] at e1
  obtain ⟨-,rfl⟩:=e1
  have hL0:=N'.pos
  have z0:((L0.length:Int) == 0)=false:=by rw [beq_eq_false_iff_ne];omega
  refine W_sq fun K hK=>(W_text [true,true,true] (by kernel_rfl) ?_);simp only [↓zZ1,↓reduceIte,Nat.reduceEqDiff,rg,ow_60,z0]
  apply hK;clear hK K
  refine W_false (by simp only [zZ2,Nat.reduceEqDiff,↓reduceIte,zZ3]<;>rfl) (W_skip ?_)
  simp only [andThen_normal]
  obtain ⟨L1,i1,hL1⟩:=N'.hw.last
  have hl1:L0.length-1=L1.length:=by rw [hL1];simp
  have q2:=wsub1 L0.length (by omega) (by omega)
  have hil2:L0.length-1<L0.length:=by omega
  have hsr0:Row w b0 o0 (flat Es L0):=by
   rw [flat_append] at hsr
   exact (Row.append.1 hsr).1
  have sN:=sN_at hsr0 (i:=L0.length-1) (p:=(b',i1)) (by rw [hl1,hL1];simp)
  refine W_sq fun K hK=>(W_text [true,true,true,true,true,true,true,true] (by kernel_rfl) ?_);simp only [↓zZ1,↓reduceIte,Nat.reduceEqDiff,rg,ow_60,q2,hil2,sN]
  apply hK;clear hK K
  have h2:=p'.ho.h2
  have hcl:=(List.getElem?_eq_some_iff.1 hc).1
  have hle:i<=ks.length:=by have:=p'.n.len;omega
  have hlen':(cs.map Kid.xs).length=ks.length+1:=by simpa using p'.n.len
  have hA':∀ x ∈ A',c.κ x<c.lo:=fun x hx=>hA x (by rw [eA];exact List.mem_append_left _ hx)
  have hC':∀ x ∈ C',c.lo<=c.κ x:=fun x hx=>hC x (by rw [eC];exact List.mem_append_right _ hx)
  by_cases hik:i<ks.length
  ·have t1:=lt_tt i ks.length hik
   refine W_sq fun K hK=>(W_text [true,true,true,true,true,true,true] (by kernel_rfl) ?_);simp only [↓zZ1,↓reduceIte,Nat.reduceEqDiff,rg,ow_60,ptr_eq,h2,t1]
   apply hK;clear hK K
   refine W_true (by simp only [zZ2,Nat.reduceEqDiff,↓reduceIte,zZ3]<;>rfl) ?_
   refine W_sq fun K hK=>(W_text [true] (by kernel_rfl) ?_);simp only [↓zZ1,↓reduceIte,Nat.reduceEqDiff,rg,ow_60]
   apply hK;clear hK K
   refine W_goto ?_
   refine hU _ w L0 h lo' b' xs' Fb' A' C' _ bi oi cap ks bc ba oa capc cs i (hE.stack (fun k hk=>by simp only [upd_apply];repeat rw [if_neg (by omega)]) (by simp only [upd_eq,Nat.reduceEqDiff,↓reduceIte]<;>rfl)) rfl (by simp only [upd_eq,Nat.reduceEqDiff,↓reduceIte]<;>rfl) (by simp only [upd_eq,Nat.reduceEqDiff,↓reduceIte]<;>rfl) N' p' ⟨fun x hx=>hA x (by rw [eA];exact List.mem_append_right _ hx),fun _ z hz x hx=>?_,fun x hx=>hC x (by rw [eC];exact List.mem_append_left _ hx),hle,fun _=>hik⟩ hA' hC'
   rw [hc] at hz;cases hz
   exact hys x (by rw [<-hdx];exact hx)
  ·have hik':i=ks.length:=by omega
   have t1:=lt_ff i ks.length (by omega)
   refine W_sq fun K hK=>(W_text [true,true,true,true,true,true,true] (by kernel_rfl) ?_);simp only [↓zZ1,↓reduceIte,Nat.reduceEqDiff,rg,ow_60,ptr_eq,h2,t1]
   apply hK;clear hK K
   refine W_false (by simp only [zZ2,Nat.reduceEqDiff,↓reduceIte,zZ3]<;>rfl) (W_skip ?_)
   simp only [inBlk_normal,andThen_normal]
   refine ⟨L0.length,by omega,L0,h+1,lo',b',xs',Fb',A',C',_,rfl,hE.stack (fun k hk=>by simp only [upd_apply];repeat rw [if_neg (by omega)]) (by simp only [upd_eq,Nat.reduceEqDiff,↓reduceIte]<;>rfl),N',hA',fun x hx=>?_,hC'⟩
   rw [p'.n.xs hc,hik',tl_end,List.append_nil] at hx
   rcases List.mem_append.1 hx with g | g
   ·exact hA x (by rw [eA,hik'];exact List.mem_append_right _ g)
   ·exact hys x (by rw [<-hdx];exact g)
end Go.Proofs.Ytbnnkcofnmipoaa
namespace Go.Proofs.Ytbnnkcofnmipoaa
open Go Go.Proofs
variable {c:RgC} {w w':World} {xs:List It} {F:Nat->Nat->Prop} {q:List Qe} {kb:Option Nat} {sg:Qe->List It} {fp:Qe->Nat->Nat->Prop} {R Rt:List It} {sb:Option Nat} {pv:It}
 {H root:Nat} {L:List (Nat × Nat)} {h lo b:Nat} {ys:List It} {Fb:Nat->Nat->Prop} {A C:List It} {sv:Value}
variable {bi oi cap:Nat} {ks:List It} {bc ba oa capc:Nat} {cs:List (Kid It)} {i:Nat}
theorem RgC.Nd.atLeaf (ok:c.Ok) (N:c.Nd w xs F q kb sg fp R R sb pv H root L 0 lo b ys Fb A C sv) (hA:∀ x ∈ A,c.κ x<c.lo) (h1:∀ x ∈ ys.take i,c.κ x<c.lo) (h2:∀ x ∈ ys.drop i,c.lo<=c.κ x) (hC:∀ x ∈ C,c.lo<=c.κ x):R=ys.drop i++C:=by
 obtain ⟨_,g⟩:=split_at (κ:=c.κ) (Pre:=A++ys.take i) (Suf:=ys.drop i++C) ok.low (fun x hx=>ok.high x (N.st.qs.sub.subset hx)) (fun x hx=>by
  rcases List.mem_append.1 hx with g | g
  ·exact hA x g
  ·exact h1 x g) (fun x hx=>by
  rcases List.mem_append.1 hx with g | g
  ·exact h2 x g
  ·exact hC x g) (by
   rw [<-N.eq,N.hw.at]
   conv=>lhs;rw [<-List.take_append_drop i ys]
   simp only [List.append_assoc])
 exact g
theorem take_new {j:Nat} (h:i+j<=ys.length):(ys.take i++ys.drop (i+j)).take i=ys.take i/\(ys.take i++ys.drop (i+j)).drop i=ys.drop (i+j):=by
 have hl:(ys.take i).length=i:=by rw [List.length_take];omega
 refine ⟨?_,?_⟩
 ·rw [List.take_append_of_le_length (by omega),List.take_take,Nat.min_self]
 ·rw [List.drop_append,List.drop_eq_nil_of_le (by omega),hl,Nat.sub_self,List.nil_append,List.drop_zero]
theorem RgC.Lf.hoF (N:c.Nd w xs F q kb sg fp R Rt sb pv H root L 0 lo b ys Fb A C sv) (l:c.Lf w lo b ys Fb bi oi cap):∀ y o,ownF E b bi oi cap y o->F y o:=fun y o g=>N.hw.sub y o ((l.fp y o).2 g)
theorem RgC.Lf.hob (ok:c.Ok) (N:c.Nd w xs F q kb sg fp R Rt sb pv H root L 0 lo b ys Fb A C sv) (l:c.Lf w lo b ys Fb bi oi cap):∀ y o,ownF E b bi oi cap y o->y ≠ c.b5/\y ≠ c.m:=fun y o g=>by
 have:=N.off ok ((l.fp y o).2 g)
 exact ⟨this.1,this.2.1⟩
theorem leaf_cnt (ok:c.Ok) (N:c.Nd w xs F q kb sg fp R Rt sb pv H root L 0 lo b ys Fb A C sv) (l:c.Lf w lo b ys Fb bi oi cap) (x6:Ext (seF E b 2 bi oi cap) w w') (hxl:xs.length<=2147483647) {b0 o0 cp:Nat} (hsv:sv = .slice (some ⟨b0,o0,none⟩) L.length cp) (hsr:Row w b0 o0 (flat Es L)) :
  Row w' b0 o0 (flat Es L)/\L.length<=2147483648/\(L.map Prod.fst).Nodup/\¬ onL L b0/\(∀ y,onL L y->∃ k:Nat,rd w' y 1=some (.int .i64 k)/\ys.length<=k/\k<=2147483648/\wok w' y 4):=by
 have hb0:=N.svb _ _ _ _ hsv
 have hb0F:=(N.st.notS1 ok hb0).2
 have hoF:=l.hoF N
 refine ⟨x6.row hsr fun i' _ g=>hb0F _ (hoF _ _ (seF_own g)),?_,N.hw.nodup N.ht,fun g=>hb0F 0 ((N.nodes b0 g).2 0),fun y hy=>?_⟩
 ·have:=N.hw.len
  have:=N.ht.tr.height (by have:=ok.hd;omega) (by decide)
  omega
 ·obtain ⟨⟨k',g1,g2,g3,g4⟩,g5⟩:=N.nodes y hy
  refine ⟨k',x6.rd g1 fun g=>?_,g3,by omega,x6.wok g4⟩
  have hyb:y=b:=(N.hw.out y hy).resolve_right fun e=>e 1 ((l.fp y 1).2 (seF_own g))
  rcases g with g | g
  ·exact absurd g.2 (by decide)
  ·exact l.ho.ne (by rw [<-g.1,hyb])
set_option maxHeartbeats 8000000 in
set_option maxRecDepth 8000 in
theorem leafSingles {Q:Post} {e:Env} (ok:c.Ok) (hE:c.Ev e sv) (e17:e 17=ptr b) (e18:e 18 = .int .i64 i) (N:c.Nd w xs F q kb sg fp R R sb pv H root L 0 lo b ys Fb A C sv) (l:c.Lf w lo b ys Fb bi oi cap) (hi:i<=ys.length)
  (hA:∀ x ∈ A,c.κ x<c.lo) (h1:∀ x ∈ ys.take i,c.κ x<c.lo) (h2:∀ x ∈ ys.drop i,c.lo<=c.κ x) (hC:∀ x ∈ C,c.lo<=c.κ x)
  (hRet:∀ e' w',e' 10=ptr c.b10->c.Fin w'->Q .ret e' w')
  (hG:∀ e' w' xs' F' q' kb' sg' fp' R' pv' b0 o0 cp,c.Ev e' (.slice (some ⟨b0,o0,none⟩) (0:Nat) cp)->sb=some b0->c.St w' (c.DR R') xs' F' q' kb' sg' fp' R' sb pv'->xs'=c.Lx++R'->wokR w' b0 o0 (cp*2)->R'.length<R.length->Q (.goto 0) e' w')
  (hK:∀ e' w' xs' F' q' kb' sg' fp' R' ys',c.Ev e' sv->c.Nd w' xs' F' q' kb' sg' fp' R' R' sb pv H root L 0 lo b ys' Fb A C sv->(∀ x ∈ ys',c.κ x<c.lo)->R'.length<=R.length->Q .normal e' w') :
  W Try.prog 657 (pc Try.f60 [1,0,1,1,1,1,1,1,1,1,1,1,1,1,1,1,0,0,0,0,1,1,1,1,1,0]) Q e w:=by
 refine W_pc rfl ?_
 refine W_block (W_loop (fun mm e1 w1=>∃ (xs1:List It) (F1:Nat->Nat->Prop) (q1:List Qe) (kb1:Option Nat) (sg1:Qe->List It) (fp1:Qe->Nat->Nat->Prop) (R1 ys1:List It),mm=ys1.length-i/\(∀ k,k<=17->e1 k=e k)/\e1 18 = .int .i64 i/\c.Nd w1 xs1 F1 q1 kb1 sg1 fp1 R1 R1 sb pv H root L 0 lo b ys1 Fb A C sv/\c.Lf w1 lo b ys1 Fb bi oi cap/\i<=ys1.length/\(∀ x ∈ ys1.take i,c.κ x<c.lo)/\(∀ x ∈ ys1.drop i,c.lo<=c.κ x)/\R1.length<=R.length) (ys.length-i)
  ⟨xs,F,q,kb,sg,fp,R,ys,rfl,fun _ _=>rfl,e18,N,l,hi,h1,h2,Nat.le_refl _⟩ ?_)
 clear N l hi h1 h2
 rintro mm e1 w1 ⟨xs1,F1,q1,kb1,sg1,fp1,R1,ys1,rfl,he,f18,N,l,hi,h1,h2,hRl⟩
 have hE1:c.Ev e1 sv:=hE.keep 17 (by omega) he
 have f17:e1 17=ptr b:=(he 17 (by omega)).trans e17
 have hh2:=l.ho.h2
 have hxl:=N.len ok N.st.qs.sub
 have hyx:=N.ylen
 obtain ⟨hlo1,hlo2,hlo3⟩:=N.lo1 ok
 have hR1:=N.atLeaf ok hA h1 h2 hC
 refine W_seq ?_
 by_cases hlt:i<ys1.length
 ·have t1:=lt_tt i ys1.length hlt
  refine W_sq fun K hK=>(W_text [true,true,true,true,true,true,true] (by kernel_rfl) ?_);simp only [↓zZ1,↓reduceIte,Nat.reduceEqDiff,rg,ow_60,f17,f18,ptr_eq,hh2,t1]
  apply hK;clear hK K
  refine W_true (by simp only [zZ2,Nat.reduceEqDiff,↓reduceIte,zZ3]<;>rfl) (W_skip ?_)
  simp only [andThen_normal]
  obtain ⟨x,hx⟩:∃ x,ys1[i]? = some x:=⟨_,List.getElem?_eq_getElem hlt⟩
  have hd:ys1.drop i=x::ys1.drop (i+1):=by rw [List.drop_eq_getElem_cons hlt,(List.getElem?_eq_some_iff.1 hx).2]
  have hRx:R1=x::(ys1.drop (i+1)++C):=by rw [hR1,hd];rfl
  have kv:=it_at l.ho.row hx
  have e13:=hE1.e13
  refine W_seq (W_block ?_)
  refine W_seq ?_
  refine W_sq fun K hK=>(W_text [true,true,true,true,true,true,true,true,false] (by kernel_rfl) ?_);simp only [↓zZ1,↓reduceIte,Nat.reduceEqDiff,rg,ow_60,e13,f17,f18,ptr_eq,hh2,hlt,kv]
  refine do_callv (first:=#[]) (captured:=#[ptr c.b12,ptr c.b5,ptr c.b7]) (by simp only [evt,upd_eq,Nat.reduceEqDiff,↓reduceIte]<;>first | exact e13 | rfl) fn_stop rfl (by simp only [evt,upd_eq,Nat.reduceEqDiff,↓reduceIte,maT,maC,maN];exact stop_any c.B c.m c.b12 c.b5 c.b7 c.ord c.mi c.mxi x w1 N.st.tr.less N.st.bx.x12 N.st.bx.x5 N.st.bx.x7) ?_
  rintro _ w2 ⟨rfl,x2⟩
  refine ⟨trivial,?_⟩
  simp only [↓zZ1,↓reduceIte,Nat.reduceEqDiff,rg,ow_60]
  apply hK;clear hK K
  have N2:=N.ext0 ok x2
  have l2:=l.ext x2 fun _ _ _ g=>g
  clear kv
  cases hs:stopI c.ord c.mi c.mxi x with
  | true =>
   refine W_true (by simp only [evt,upd_eq,Nat.reduceEqDiff,↓reduceIte,hs]) ?_
   have st2:=N2.st
   rw [hRx] at st2
   refine W_qc (f:=Try.f60) (p:=[1,0,1,1,1,1,1,1,1,1,1,1,1,1,1,1,0,0,0,0,1,1,1,1,1,0,0,0,1,0,0,0,1,0]) rfl (ret_73 ok (hE1.keep 18 (by omega) fun k hk=>by simp only [upd_apply];repeat rw [if_neg (by omega)]) N2.st N2.eq (by rw [hRx];exact stop_all ok st2 hs) fun e' w' h10 hfin=>?_)
   exact hRet e' w' h10 hfin
  | false =>
   refine W_false (by simp only [evt,upd_eq,Nat.reduceEqDiff,↓reduceIte,hs]) (W_skip ?_)
   simp only [andThen_normal]
   have e5:=hE1.e5
   have x5:=N2.st.bx.x5
   have mn:=N2.st.tr.cfg.mn
   have hh3:=l2.ho.h2
   by_cases hg:c.d-1<ys1.length
   ·have t2:=gt_tt ys1.length (c.d-1) hg
    refine W_sq fun K hK=>(W_draw (some none) none [(0,0,0),(0,1,0),(0,2,0),(0,3,0),(0,4,0),(0,5,0),(0,6,0),(0,7,0),(0,8,0),(0,9,0)] mixed (by kernel_rfl) ?_);simp only [↓zZ1,↓reduceIte,Nat.reduceEqDiff,rg,ow_60,e5,f17,ptr_eq,x5,mn,hh3,t2]
    apply hK;clear hK K
    refine W_true (by simp only [zZ2,Nat.reduceEqDiff,↓reduceIte,zZ3]<;>rfl) ?_
    have xd:Ext noF w2 (dr w2 (w2.drawn+1)):=Ext.dr _ _ _
    replace N2:=N2.ext0 ok xd
    replace l2:=l2.ext xd fun _ _ _ g=>g
    clear x2 xd x5 mn hh3
    have hh3:=l2.ho.h2
    generalize dr w2 (w2.drawn+1)=w2 at N2 l2 hh3 ⊢
    refine W_sqx fun J hJ=>?_
    have hend:∀ f w3 q' kb' sg' fp',(∀ k,k<=18->f k=e1 k)->c.Nd w3 xs1 F1 q' kb' sg' fp' (ys1.drop (i+1)++C) R1 sb pv H root L 0 lo b ys1 Fb A C sv->c.Lf w3 lo b ys1 Fb bi oi cap->J f w3:=by
     intro f w3 q' kb' sg' fp' hf N3 l3
     refine hJ _ _ ?_;clear hJ J
     have hE3:=hE1.keep 18 (by omega) hf
     have g17:f 17=ptr b:=(hf 17 (by omega)).trans f17
     have g18:f 18 = .int .i64 i:=(hf 18 (by omega)).trans f18
     refine W_qc (f:=Try.f60) (p:=[1,0,1,1,1,1,1,1,1,1,1,1,1,1,1,1,0,0,0,0,1,1,1,1,1,0,0,0,1,0,0,1,1,0,1]) rfl (take_one (d:=c.d) hE3.e5 g17 g18 N3.st.bx.x5 N3.st.tr.cfg l3.ho hlt (by omega) (l3.hob ok N3) fun f4 w4 hf4 o4 x4=>?_)
     rw [List.eraseIdx_eq_take_drop_succ] at o4
     obtain ⟨b0,o0,cp,hsv,hcp,hsr⟩:=stk_some N3.stk N3.pos
     obtain ⟨c1,c2,c3,c4,c5⟩:=leaf_cnt ok N3 l3 x4 hxl hsv hsr
     refine W_pc rfl ?_
     refine W_seq ?_
     refine W_qc (f:=Try.f60) (p:=[1,0,1,1,1,1,1,1,1,1,1,1,1,1,1,1,0,0,0,0,1,1,1,1,1,0,0,0,1,0,0,1,1,0,1,1,1,1,0]) rfl (cnt_one (j:=1) (sb:=b0) (so:=o0) (cap:=cp) (L:=L) (by rw [hf4 16 (by omega),hE3.e16];exact hsv) c1 c2 c3 c4 (fun y hy=>by
      obtain ⟨k,k1,k2,k3,k4⟩:=c5 y hy
      exact ⟨k,k1,by omega,k3,k4⟩) rfl fun f5 w5 hf5 sh=>?_)
     simp only [andThen_normal]
     have hf50:∀ k,k<=18->f5 k=e1 k:=fun k hk=>((hf5 k (by omega)).trans (hf4 k (by omega))).trans (hf k hk)
     have hE5:=hE1.keep 18 (by omega) hf50
     have X5:Ext (fun y o=>F1 y o) w3 w5:=(x4.mono fun y o _ g=>l3.hoF N3 y o (seF_own g)).tr (sh.ext.mono fun y o _ g=>(N3.nodes y g.2).2 o)
     have e5:=hE5.e5
     have x5:=X5.rd N3.st.bx.x5 fun g=>N3.st.apF _ _ g (.inl (ok.le c.b5 (by simp)))
     have cn:=X5.rd N3.st.tr.cnt (N3.st.tr.off 3)
     have wkm:wok w5 c.m 11:=X5.wok N3.st.tr.cfg.wok
     have q1:=wsub1 xs1.length (by omega) (by omega)
     have g18':f5 18 = .int .i64 i:=(hf50 18 (by omega)).trans f18
     refine W_sq fun K hK=>(W_text [true,true,true,true,true,true,true,false] (by kernel_rfl) ?_);simp only [↓zZ1,↓reduceIte,Nat.reduceEqDiff,rg,ow_60,e5,ptr_eq,x5,cn,q1]
     refine do_store (by simp only [zZ2,Nat.reduceEqDiff,↓reduceIte,zZ3]<;>rfl) (by simp only [zZ2,Nat.reduceEqDiff,↓reduceIte,zZ3]<;>rfl) sz_3 rfl wkm (by decide) (oc_one rfl rfl) fun w6 x6 r6 s6=>⟨trivial,?_⟩
     simp only [↓zZ1,↓reduceIte,Nat.reduceEqDiff,rg,ow_60]
     apply hK;clear hK K
     obtain ⟨F',N6,l6⟩:=N3.leaf ok l3 (i:=i) (j:=1) (by omega) (by have hd2:=ok.hd;rcases hlo2 with g | ⟨g,_⟩<;>omega) hR1 hA o4 x4 sh x6 (by rw [(Row.cons.1 r6).1];congr 3;omega)
     obtain ⟨k1,k2⟩:=take_new (ys:=ys1) (i:=i) (j:=1) (by omega)
     have q2:IntKind.i64.wrap (IntKind.i64.wrap ((i:Int)-1)+1)=(i:Int):=by
      cases i with
      | zero=>rfl
      | succ i =>
       rw [wsub1 (i+1) (by omega) (by omega),Nat.add_sub_cancel]
       exact wadd1 i (by omega)
     refine W_rg fun K hK=>(W_text [true,true,true] (by kernel_rfl) ?_);simp only [↓zZ1,↓reduceIte,Nat.reduceEqDiff,rg,ow_60,g18']
     apply hK;clear hK K
     simp only [inBlk_normal,andThen_normal]
     refine W_rg fun K hK=>(W_text [true,true,true] (by kernel_rfl) ?_);simp only [↓zZ1,↓reduceIte,Nat.reduceEqDiff,rg,ow_60,q2]
     apply hK;clear hK K
     refine ⟨_,?_,_,F',q',kb',sg',fp',_,_,rfl,fun k hk=>?_,by simp only [upd_eq,Nat.reduceEqDiff,↓reduceIte],N6,l6,?_,by rw [k1];exact h1,by rw [k2];exact fun x hx=>h2 x (by rw [hd];exact List.mem_cons_of_mem _ hx),?_⟩
     ·rw [List.length_append,List.length_take,List.length_drop];omega
     ·simp only [upd_apply];repeat rw [if_neg (by omega)]
      exact (hf50 k (by omega)).trans (he k hk)
     ·rw [List.length_append,List.length_take,List.length_drop];omega
     ·have:R1.length=(ys1.drop (i+1)++C).length+1:=by rw [hRx];rfl
      omega
    clear hJ hK hG hRet
    cases hex:c.ex with
    | false =>
     have e11:=hE1.e11
     rw [hex] at e11
     refine W_sq fun K hK=>(W_text [true] (by kernel_rfl) ?_);simp only [↓zZ1,↓reduceIte,Nat.reduceEqDiff,rg,ow_60,e11]
     apply hK;clear hK K
     refine W_false (by simp only [zZ2,Nat.reduceEqDiff,↓reduceIte,zZ3]<;>rfl) (W_skip ?_)
     have N2':=N2
     rw [hRx] at N2'
     have N3:=RgC.Nd.skip (A':=[]) (S:=[]) (C':=ys1.drop (i+1)++C) (k:=x) hex (show c.Nd _ xs1 F1 q1 kb1 sg1 fp1 ([]++x::([]++(ys1.drop (i+1)++C))) (x::(ys1.drop (i+1)++C)) sb pv H root L 0 lo b ys1 Fb A C sv from N2') fun y hy=>by
      rcases hy with rfl | hy
      ·exact hs
      ·cases hy
     rw [<-hRx] at N3
     refine hend _ _ _ _ _ _ (fun k hk=>by simp only [upd_apply];repeat rw [if_neg (by omega)]) N3 l2
    | true =>
     have e11:=hE1.e11
     have e4:=hE1.e4
     rw [hex] at e11
     refine W_sq fun K hK=>(W_text [true] (by kernel_rfl) ?_);simp only [↓zZ1,↓reduceIte,Nat.reduceEqDiff,rg,ow_60,e11]
     apply hK;clear hK K
     refine W_true (by simp only [zZ2,Nat.reduceEqDiff,↓reduceIte,zZ3]<;>rfl) ?_
     have kv2:=it_at l2.ho.row hx
     have st2:=N2.st
     rw [show c.St _ (c.DR R1) xs1 F1 q1 kb1 sg1 fp1 R1 sb pv=c.St _ (c.DR R1) xs1 F1 q1 kb1 sg1 fp1 ([]++x::([]++(ys1.drop (i+1)++C))) sb pv by rw [List.nil_append,List.nil_append,<-hRx]] at st2
     refine W_rg fun K hK=>(W_text [true,true,true,true,true,true,true,true,false] (by kernel_rfl) ?_);simp only [↓zZ1,↓reduceIte,Nat.reduceEqDiff,rg,ow_60,e4,f17,f18,ptr_eq,hh3,hlt,kv2]
     refine do_call fn_98 (vs:=#[ptr c.lb,itV x,nV none]) (by simp only [zZ2,Nat.reduceEqDiff,↓reduceIte,zZ4]<;>rfl) (RgC.St.app_call (A:=[]) (S:=[]) (e0:=(x,none)) (Fe:=noF) ok hex st2 (fun _ _ g=>g.elim) (.inl ⟨rfl,rfl⟩) (fun s hs=>by cases hs) fun y hy=>?_) ?_
     ·rcases hy with rfl | hy
      ·exact hs
      ·cases hy
     rintro _ w3 ⟨q',kb',sg',fp',st3,x3⟩
     refine ⟨trivial,?_⟩
     simp only [↓zZ1,↓reduceIte,Nat.reduceEqDiff,rg,ow_60]
     apply hK;clear hK K
     have N3:=N2.list ok st3 x3
     refine hend _ _ _ _ _ _ (fun k hk=>by simp only [upd_apply];repeat rw [if_neg (by omega)]) N3 (l2.ext x3 fun y o g k=>N2.st.notF k (N2.hw.sub y o g))
   ·have t2:=gt_ff ys1.length (c.d-1) (by omega)
    refine W_sq fun K hK=>(W_draw (some none) none [(0,0,0),(0,1,0),(0,2,0),(0,3,0),(0,4,0),(0,5,0),(0,6,0),(0,7,0),(0,8,0),(0,9,0)] mixed (by kernel_rfl) ?_);simp only [↓zZ1,↓reduceIte,Nat.reduceEqDiff,rg,ow_60,e5,f17,ptr_eq,x5,mn,hh3,t2]
    apply hK;clear hK K
    refine W_false (by simp only [zZ2,Nat.reduceEqDiff,↓reduceIte,zZ3]<;>rfl) ?_
    obtain ⟨b0,o0,cp,hsv,hcp,hsr⟩:=stk_some N2.stk N2.pos
    have hwk:wokR w2 b0 o0 (cp*2):=by
     rcases N2.stk.2 with ⟨g,_⟩ | ⟨b1,o1,cp1,g,_,_,hw⟩
     ·rw [hsv] at g;cases g
     ·rw [hsv] at g;cases g;exact hw
    have N2d:=N2.ext0 ok (Ext.dr noF w2 (w2.drawn+1))
    have st2:=N2d.st
    have eq2:=N2.eq
    rw [hRx] at st2 eq2
    have l2d:=l2.ext (Ext.dr noF w2 (w2.drawn+1)) fun _ _ _ g=>g
    have hwkd:=(Ext.dr noF w2 (w2.drawn+1)).wokR hwk
    refine W_qc (f:=Try.f60) (p:=[1,0,1,1,1,1,1,1,1,1,1,1,1,1,1,1,0,0,0,0,1,1,1,1,1,0,0,0,1,0,0,1,1,1]) rfl (again_leaf ok (hE1.keep 18 (by omega) fun k hk=>by simp only [upd_apply];repeat rw [if_neg (by omega)]) f17 f18 (by first | exact st2 | exact (by have:=N2.st;rw [hRx] at this;exact this)) eq2 hx (by first | exact l2d.ho | exact l2.ho) (l2.hoF N2) hs hsv (N2.svb _ _ _ _ hsv) (by first | exact hwkd | exact hwk) fun e' w' xs' F' q' kb' sg' fp' pv' hE' st' eq' wk'=>?_)
    exact hG e' w' xs' F' q' kb' sg' fp' _ pv' b0 o0 cp hE' (N2.svb _ _ _ _ hsv) st' eq' wk' (by
     have:R1.length=(ys1.drop (i+1)++C).length+1:=by rw [hRx];rfl
     omega)
 ·have t1:=lt_ff i ys1.length (by omega)
  refine W_sq fun K hK=>(W_text [true,true,true,true,true,true,true] (by kernel_rfl) ?_);simp only [↓zZ1,↓reduceIte,Nat.reduceEqDiff,rg,ow_60,f17,f18,ptr_eq,hh2,t1]
  apply hK;clear hK K
  refine W_false (by simp only [zZ2,Nat.reduceEqDiff,↓reduceIte,zZ3]<;>rfl) (W_exit ?_)
  simp only [andThen_exit,inBlk_exit,↓reduceIte]
  refine hK _ _ _ _ _ _ _ _ _ _ (hE1.keep 17 (by omega) fun k hk=>by simp only [upd_apply];repeat rw [if_neg (by omega)]) N (fun x hx=>h1 x ?_) hRl
  rw [List.take_of_length_le (by omega)]
  exact hx
end Go.Proofs.Ytbnnkcofnmipoaa
namespace Go.Proofs.Ytbnnkcofnmipoaa
open Go Go.Proofs
variable {c:RgC} {w w':World} {xs:List It} {F:Nat->Nat->Prop} {q:List Qe} {kb:Option Nat} {sg:Qe->List It} {fp:Qe->Nat->Nat->Prop} {R Rt:List It} {sb:Option Nat} {pv:It}
 {H root:Nat} {L:List (Nat × Nat)} {h lo b:Nat} {ys:List It} {Fb:Nat->Nat->Prop} {A C:List It} {sv:Value}
variable {bi oi cap:Nat} {ks:List It} {bc ba oa capc:Nat} {cs:List (Kid It)} {i:Nat}
set_option maxHeartbeats 8000000 in
set_option maxRecDepth 8000 in
theorem leafBulkP {Q:Post} {e:Env} (ok:c.Ok) (hE:c.Ev e sv) (e17:e 17=ptr b) (e18:e 18 = .int .i64 i) (N:c.Nd w xs F q kb sg fp R R sb pv H root L 0 lo b ys Fb A C sv) (l:c.Lf w lo b ys Fb bi oi cap) (hi:i<=ys.length)
  (hA:∀ x ∈ A,c.κ x<c.lo) (h1:∀ x ∈ ys.take i,c.κ x<c.lo) (h2:∀ x ∈ ys.drop i,c.lo<=c.κ x) (hC:∀ x ∈ C,c.lo<=c.κ x)
  (hRet:∀ e' w',e' 10=ptr c.b10->c.Fin w'->Q .ret e' w')
  (hK:∀ e' w' xs' F' q' kb' sg' fp' R' ys',c.Ev e' sv->e' 17=ptr b->e' 18 = .int .i64 i->c.Nd w' xs' F' q' kb' sg' fp' R' R' sb pv H root L 0 lo b ys' Fb A C sv->c.Lf w' lo b ys' Fb bi oi cap->i<=ys'.length->(∀ x ∈ ys'.take i,c.κ x<c.lo)->(∀ x ∈ ys'.drop i,c.lo<=c.κ x)->R'.length<=R.length->W Try.prog 657 (pc Try.f60 [1,0,1,1,1,1,1,1,1,1,1,1,1,1,1,1,0,0,0,0,1,1,1,1,1]) Q e' w') :
  W Try.prog 657 (pc Try.f60 [1,0,1,1,1,1,1,1,1,1,1,1,1,1,1,1,0,0,0,0,1,1,1]) Q e w:=by
 refine W_pc rfl ?_
 have hh2:=l.ho.h2
 have hxl:=N.len ok N.st.qs.sub
 have hyx:=N.ylen
 obtain ⟨hlo1,hlo2,hlo3⟩:=N.lo1 ok
 have hR1:=N.atLeaf ok hA h1 h2 hC
 have hd2:=ok.hd
 have hd3:=ok.hd'
 have e5:=hE.e5
 have x5:=N.st.bx.x5
 have mn:=N.st.tr.cfg.mn
 have q1:=wsub ys.length i (by omega) (by omega)
 have q2:IntKind.i64.wrap (((ys.length-i:Nat):Int)-((c.d-1:Nat):Int))=((ys.length-i:Nat):Int)-((c.d-1:Nat):Int):=IntWalk.i64_in _ (by omega)
 refine W_sq fun K hK=>(W_semi (some none) (.take false 0 (.take false 1 (.take false 2 (.take true 3 (.take true 4 (.take false 5 (.take false 6 (.take true 7 (.take false 8 (.take false 9 (.take true 10 (.take false 11 (.take false 12 .nil))))))))))))) mixed (by kernel_rfl) ?_);simp only [↓rgm,↓zZ1,↓reduceIte,Nat.reduceEqDiff,rg,ow_60,e5,e17,e18,ptr_eq,x5,mn,hh2,q1,q2]
 apply hK;clear hK K
 obtain ⟨w0,hw0,xw⟩:∃ w0,w0=dr w (w.drawn+1)/\Ext noF w w0:=⟨_,rfl,Ext.dr _ _ _⟩
 try rw [<-hw0]
 replace N:=N.ext0 ok xw
 replace l:=l.ext xw fun _ _ _ g=>g
 have hx0:W=W:=rfl
 refine W_seq ?_
 by_cases hb:c.d-1+1<ys.length-i
 ·obtain ⟨mb,hmb⟩:∃ mb,mb=ys.length-i-(c.d-1):=⟨_,rfl⟩
  have q3:((ys.length-i:Nat):Int)-((c.d-1:Nat):Int)=(mb:Int):=by omega
  have t1:decide ((mb:Int) > 1)=true:=by simp;omega
  simp only [q3]
  refine W_seq ?_
  refine W_rg fun K hK=>(W_text [true,true] (by kernel_rfl) ?_);simp only [↓zZ1,↓reduceIte,Nat.reduceEqDiff,rg,ow_60,t1]
  apply hK;clear hK K
  simp only [andThen_normal]
  refine W_true (by simp only [zZ2,Nat.reduceEqDiff,↓reduceIte,zZ3]<;>rfl) ?_
  refine W_sq fun K hK=>(W_text [true] (by kernel_rfl) ?_);simp only [↓zZ1,↓reduceIte,Nat.reduceEqDiff,rg,ow_60]
  apply hK;clear hK K
  refine W_sq fun K hK=>(W_text [true] (by kernel_rfl) ?_);simp only [↓zZ1,↓reduceIte,Nat.reduceEqDiff,rg,ow_60]
  apply hK;clear hK K
  refine W_seq ?_
  have st1:=N.st
  rw [hR1] at st1
  rw [hR1] at hK
  refine W_qc (f:=Try.f60) (p:=[1,0,1,1,1,1,1,1,1,1,1,1,1,1,1,1,0,0,0,0,1,1,1,1,0,1,0,1,1,0]) rfl (leafLoop (mb:=mb) (C:=C) (ys:=ys) ok (hE.keep 22 (by omega) fun k hk=>by simp only [upd_apply];repeat rw [if_neg (by omega)]) e17 e18 (by simp only [upd_eq,Nat.reduceEqDiff,↓reduceIte]<;>rfl) (by simp only [upd_eq,Nat.reduceEqDiff,↓reduceIte]<;>rfl) rfl st1 N.stk N.svb l.ho (l.hoF N) (by omega) (by omega) fun f w2 j q' kb' sg' fp' stp hf f24 f25 hj hstp hns st2 X2 hsl2=>?_)
  simp only [andThen_normal]
  have hfe:∀ k,k<=22->f k=e k:=fun k hk=>(hf k (by omega)).trans (by simp only [upd_apply];repeat rw [if_neg (by omega)])
  have hE2:=hE.keep 22 (by omega) hfe
  have f17:f 17=ptr b:=(hfe 17 (by omega)).trans e17
  have f18:f 18 = .int .i64 i:=(hfe 18 (by omega)).trans e18
  have hmF:=N.st.tr.off
  have N2:c.Nd w2 xs F q' kb' sg' fp' (ys.drop (i+j)++C) R sb pv H root L 0 lo b ys Fb A C sv:=by
   rw [<-hR1] at st2
   exact N.to st2 X2 fun y o g=>g
  have l2:=l.ext X2 fun y o g k=>k.1 (N.hw.sub y o g)
  have hij:i+j<=ys.length:=by omega
  refine W_qc (f:=Try.f60) (p:=[1,0,1,1,1,1,1,1,1,1,1,1,1,1,1,1,0,0,0,0,1,1,1,1,0,1,0,1,1,1]) rfl (take_bulk (d:=c.d) (j:=j) hE2.e5 f17 f18 f25 N2.st.bx.x5 N2.st.tr.cfg l2.ho hij (by omega) (by omega) (l2.hob ok N2) fun f3 w3 hf3 o3 x3=>?_)
  obtain ⟨b0,o0,cp,hsv,hcp,hsr⟩:=stk_some N2.stk N2.pos
  obtain ⟨c1,c2,c3,c4,c5⟩:=leaf_cnt ok N2 l2 x3 hxl hsv hsr
  refine W_pc rfl ?_
  refine W_seq ?_
  refine W_qc (f:=Try.f60) (p:=[1,0,1,1,1,1,1,1,1,1,1,1,1,1,1,1,0,0,0,0,1,1,1,1,0,1,0,1,1,1,1,1,1,0]) rfl (cnt_leaf (j:=j) (sb:=b0) (so:=o0) (cap:=cp) (L:=L) (by rw [hf3 16 (by omega),hE2.e16];exact hsv) c1 c2 c3 c4 (fun y hy=>by
   obtain ⟨k,k1,k2,k3,k4⟩:=c5 y hy
   exact ⟨k,k1,by omega,k3,k4⟩) ((hf3 25 (by omega)).trans f25) fun f5 w5 hf5 sh=>?_)
  simp only [andThen_normal]
  have hf52:∀ k,k<=25->f5 k=f k:=fun k hk=>(hf5 k (by omega)).trans (hf3 k hk)
  have hf50:∀ k,k<=22->f5 k=e k:=fun k hk=>(hf52 k (by omega)).trans (hfe k hk)
  have hE5:=hE.keep 22 (by omega) hf50
  have X5:Ext (fun y o=>F y o) w2 w5:=(x3.mono fun y o _ g=>l2.hoF N2 y o (seF_own g)).tr (sh.ext.mono fun y o _ g=>(N2.nodes y g.2).2 o)
  have e5:=hE5.e5
  have x5:=X5.rd N2.st.bx.x5 fun g=>N2.st.apF _ _ g (.inl (ok.le c.b5 (by simp)))
  have cn:=X5.rd N2.st.tr.cnt (N2.st.tr.off 3)
  have wkm:wok w5 c.m 11:=X5.wok N2.st.tr.cfg.wok
  have q4:=wsub xs.length j (by omega) (by omega)
  have g25:f5 25 = .int .i64 j:=(hf52 25 (by omega)).trans f25
  have g24:f5 24 = .bool stp:=(hf52 24 (by omega)).trans f24
  refine W_sq fun K hK=>(W_text [true,true,true,true,true,true,true,true,false] (by kernel_rfl) ?_);simp only [↓zZ1,↓reduceIte,Nat.reduceEqDiff,rg,ow_60,e5,g25,ptr_eq,x5,cn,q4]
  refine do_store (by simp only [zZ2,Nat.reduceEqDiff,↓reduceIte,zZ3]<;>rfl) (by simp only [zZ2,Nat.reduceEqDiff,↓reduceIte,zZ3]<;>rfl) sz_3 rfl wkm (by decide) (oc_one rfl rfl) fun w6 x6 r6 s6=>⟨trivial,?_⟩
  simp only [↓zZ1,↓reduceIte,Nat.reduceEqDiff,rg,ow_60]
  apply hK;clear hK K
  obtain ⟨F',N6,l6⟩:=N2.leaf ok l2 (i:=i) (j:=j) hij (by rcases hlo2 with g | ⟨g,_⟩<;>omega) hR1 hA o3 x3 sh x6 (by rw [(Row.cons.1 r6).1];congr 3;omega)
  obtain ⟨k1,k2⟩:=take_new (ys:=ys) (i:=i) (j:=j) hij
  refine W_seq ?_
  refine W_rg fun K hK=>(W_text [true] (by kernel_rfl) ?_);simp only [↓zZ1,↓reduceIte,Nat.reduceEqDiff,rg,ow_60,g24]
  apply hK;clear hK K
  simp only [andThen_normal]
  have hRl:(ys.drop (i+j)++C).length<=(ys.drop i++C).length:=by rw [List.length_append,List.length_append,List.length_drop,List.length_drop];omega
  rcases hstp with ⟨rfl,hjm,hsx⟩ | ⟨rfl,rfl⟩
  ·refine W_true (by simp only [zZ2,Nat.reduceEqDiff,↓reduceIte,zZ3]<;>rfl) ?_
   obtain ⟨x,hx⟩:∃ x,ys[i+j]? = some x:=⟨_,List.getElem?_eq_getElem (by omega)⟩
   have hd:ys.drop (i+j)=x::ys.drop (i+j+1):=by rw [List.drop_eq_getElem_cons (by omega),(List.getElem?_eq_some_iff.1 hx).2]
   have st6:=N6.st
   rw [hd] at st6
   refine W_qc (f:=Try.f60) (p:=[1,0,1,1,1,1,1,1,1,1,1,1,1,1,1,1,0,0,0,0,1,1,1,1,0,1,0,1,1,1,1,1,1,1,1,1,0]) rfl (ret_69 ok (hE5.keep 23 (by omega) (fun k hk=>by simp only [upd_apply];repeat rw [if_neg (by omega)])) N6.st N6.eq (by rw [hd];exact stop_all ok st6 (hsx x hx)) fun e' w' h10 hfin=>?_)
   exact hRet e' w' h10 hfin
  ·refine W_false (by simp only [zZ2,Nat.reduceEqDiff,↓reduceIte,zZ3]<;>rfl) (W_skip ?_)
   refine W_qc (f:=Try.f60) (p:=[1,0,1,1,1,1,1,1,1,1,1,1,1,1,1,1,0,0,0,0,1,1,1,1,1]) rfl (hK _ _ _ F' q' kb' sg' fp' _ _ (hE5.keep 23 (by omega) (fun k hk=>by simp only [upd_apply];repeat rw [if_neg (by omega)])) ((hf50 17 (by omega)).trans e17) ((hf50 18 (by omega)).trans e18) N6 l6 ?_ (by rw [k1];exact h1) (by
    rw [k2];intro x hx;rw [<-List.drop_drop] at hx
    exact h2 x (List.mem_of_mem_drop hx)) hRl)
   rw [List.length_append,List.length_take];omega
 ·have t1:decide (((ys.length-i:Nat):Int)-((c.d-1:Nat):Int) > 1)=false:=by simp;omega
  refine W_seq ?_
  refine W_rg fun K hK=>(W_text [true,true] (by kernel_rfl) ?_);simp only [↓zZ1,↓reduceIte,Nat.reduceEqDiff,rg,ow_60,t1]
  apply hK;clear hK K
  simp only [andThen_normal]
  refine W_false (by simp only [zZ2,Nat.reduceEqDiff,↓reduceIte,zZ3]<;>rfl) (W_skip ?_)
  refine W_qc (f:=Try.f60) (p:=[1,0,1,1,1,1,1,1,1,1,1,1,1,1,1,1,0,0,0,0,1,1,1,1,1]) rfl (hK _ _ _ F q kb sg fp _ _ (hE.keep 22 (by omega) (fun k hk=>by simp only [upd_apply];repeat rw [if_neg (by omega)])) e17 e18 N l hi h1 h2 (Nat.le_refl _))
end Go.Proofs.Ytbnnkcofnmipoaa
namespace Go.Proofs.Ytbnnkcofnmipoaa
open Go
def jump2 (l:Nat) (J:Env->World->Prop) (Q:Post):Post
 | .goto l',e,w=>if l'=l then J e w else Q (.goto l') e w
 | x,e,w=>Q x e w
theorem jump2_same (l:Nat) (J:Env->World->Prop) (Q:Post) (e:Env) (w:World) (h:J e w):jump2 l J Q (.goto l) e w:=by show (if l=l then _ else _);rw [if_pos rfl];exact h
theorem jump2_other (l l':Nat) (hl:l' ≠ l) (J:Env->World->Prop) (Q:Post) (e:Env) (w:World) (h:Q (.goto l') e w):jump2 l J Q (.goto l') e w:=by show (if l'=l then _ else _);rw [if_neg hl];exact h
def labs:Code->List Nat
 | .seq a b=>labs a++labs b
 | .label l=>[l]
 | _=>[]
theorem labs_none:∀ (c:Code) (l:Nat),l ∉ labs c->findLabel c l=none:=by
 intro c
 induction c with
 | seq a b iha ihb =>
  intro l h
  simp only [labs,List.mem_append,not_or] at h
  simp [findLabel,iha l h.1,ihb l h.2]
 | label l' =>
  intro l h
  simp only [labs,List.mem_singleton] at h
  simp [findLabel,Ne.symm h]
 | _=>intros;rfl
section
variable {P:Program} {n:Nat} {Q:Post} {e:Env} {w:World}
theorem W_scope2 {c rest:Code} (l:Nat) (J:Nat->Env->World->Prop) (hf:findLabel c l=some rest) (hl:labs c=[l]) (first:W P n c (jump2 l (fun e w=>∃ k,J k e w) Q) e w)
  (pass:∀ k e w,J k e w->W P n rest (jump2 l (fun e' w'=>∃ k',k'<k/\J k' e' w') Q) e w):W P n (.scope c) Q e w:=by
 intro a ha b k cs
 have hg:gotoIn l (.inScope c::k)=some (.code rest :: .inScope c::k):=by simp [gotoIn,hf]
 have ho:∀ l',l' ≠ l->gotoIn l' (.inScope c::k)=gotoIn l' k:=fun l' h=>by
  simp [gotoIn,labs_none c l' (by rw [hl];simpa using h)]
 have key:∀ m e w,J m e w->∀ a,Fr n e a->∃ x a' w',lift n Q x a' w'/\Arrives P (lone (b.at a (.code rest :: .inScope c::k)) cs w) b k cs x a' w':=by
  intro m
  induction m using Nat.strongRecOn with
  | _ m ih =>
   intro e w hJ a ha
   obtain ⟨x,a1,w1,⟨e1,hf1,hx,hq⟩,harr⟩:=pass m e w hJ a ha b (.inScope c::k) cs
   cases x with
   | normal=>exact ⟨.normal,a1,w1,⟨e1,hf1,hx,hq⟩,Steps.trans harr (.one step_inScope)⟩
   | exit id=>exact ⟨.exit id,a1,w1,⟨e1,hf1,hx,hq⟩,fun k' hk=>harr k' (by simp [exitTo,hk])⟩
   | goto l' =>
    by_cases h:l'=l
    ·subst h
     have hq:∃ k',k'<m/\J k' e1 w1:=by
      have:(if l'=l' then ∃ k',k'<m/\J k' e1 w1 else Q (.goto l') e1 w1):=hq
      rwa [if_pos rfl] at this
     obtain ⟨m',hm',hJ'⟩:=hq
     obtain ⟨x2,a2,w2,hq2,harr2⟩:=ih m' hm' e1 w1 hJ' a1 hf1
     exact ⟨x2,a2,w2,hq2,.of_steps (harr _ hg) harr2⟩
    ·have hq:Q (.goto l') e1 w1:=by
      have:(if l'=l then ∃ k',k'<m/\J k' e1 w1 else Q (.goto l') e1 w1):=hq
      rwa [if_neg h] at this
     exact ⟨.goto l',a1,w1,⟨e1,hf1,hx,hq⟩,fun k' hk=>harr k' (by rw [ho l' h];exact hk)⟩
   | ret=>exact ⟨_,a1,w1,⟨e1,hf1,hx,hq⟩,harr⟩
   | panic ch=>exact ⟨_,a1,w1,⟨e1,hf1,hx,hq⟩,harr⟩
   | outgrown=>exact ⟨_,a1,w1,⟨e1,hf1,hx,hq⟩,harr⟩
 obtain ⟨x,a1,w1,⟨e1,hf1,hx,hq⟩,harr⟩:=first a ha b (.inScope c::k) cs
 cases x with
 | normal=>exact ⟨.normal,a1,w1,⟨e1,hf1,hx,hq⟩,.head step_scope (Steps.trans harr (.one step_inScope))⟩
 | exit id=>exact ⟨.exit id,a1,w1,⟨e1,hf1,hx,hq⟩,fun k' hk=>.head step_scope (harr k' (by simp [exitTo,hk]))⟩
 | goto l' =>
  by_cases h:l'=l
  ·subst h
   have hq:∃ k,J k e1 w1:=by
    have:(if l'=l' then ∃ k,J k e1 w1 else Q (.goto l') e1 w1):=hq
    rwa [if_pos rfl] at this
   obtain ⟨m,hJ⟩:=hq
   obtain ⟨x2,a2,w2,hq2,harr2⟩:=key m e1 w1 hJ a1 hf1
   exact ⟨x2,a2,w2,hq2,.of_steps (.head step_scope (harr _ hg)) harr2⟩
  ·have hq:Q (.goto l') e1 w1:=by
    have:(if l'=l then ∃ k,J k e1 w1 else Q (.goto l') e1 w1):=hq
    rwa [if_neg h] at this
   exact ⟨.goto l',a1,w1,⟨e1,hf1,hx,hq⟩,fun k' hk=>.head step_scope (harr k' (by rw [ho l' h];exact hk))⟩
 | ret=>exact ⟨_,a1,w1,⟨e1,hf1,hx,hq⟩,.of_steps (.one step_scope) harr⟩
 | panic ch=>exact ⟨_,a1,w1,⟨e1,hf1,hx,hq⟩,.of_steps (.one step_scope) harr⟩
 | outgrown=>exact ⟨_,a1,w1,⟨e1,hf1,hx,hq⟩,.of_steps (.one step_scope) harr⟩
end
end Go.Proofs.Ytbnnkcofnmipoaa
namespace Go.Proofs.Ytbnnkcofnmipoaa
open Go Go.Proofs
variable {c:RgC} {w w':World} {xs:List It} {F:Nat->Nat->Prop} {q:List Qe} {kb:Option Nat} {sg:Qe->List It} {fp:Qe->Nat->Nat->Prop} {R Rt:List It} {sb:Option Nat} {pv:It}
 {H root:Nat} {L:List (Nat × Nat)} {h lo b:Nat} {ys:List It} {Fb:Nat->Nat->Prop} {A C:List It} {sv:Value}
variable {bi oi cap:Nat} {ks:List It} {bc ba oa capc:Nat} {cs:List (Kid It)} {i:Nat}
set_option maxHeartbeats 4000000 in
set_option maxRecDepth 8000 in
theorem nextLeaf {Q:Post} {e:Env} (ok:c.Ok) (hE:c.Ev e sv) (e17:e 17=ptr b) (e18:e 18 = .int .i64 i) (N:c.Nd w xs F q kb sg fp R R sb pv H root L 0 lo b ys Fb A C sv) (l:c.Lf w lo b ys Fb bi oi cap) (hi:i<=ys.length)
  (hA:∀ x ∈ A,c.κ x<c.lo) (h1:∀ x ∈ ys.take i,c.κ x<c.lo) (h2:∀ x ∈ ys.drop i,c.lo<=c.κ x) (hC:∀ x ∈ C,c.lo<=c.κ x)
  (hRet:∀ e' w',e' 10=ptr c.b10->c.Fin w'->Q .ret e' w')
  (hG:∀ e' w' xs' F' q' kb' sg' fp' R' pv' b0 o0 cp,c.Ev e' (.slice (some ⟨b0,o0,none⟩) (0:Nat) cp)->sb=some b0->c.St w' (c.DR R') xs' F' q' kb' sg' fp' R' sb pv'->xs'=c.Lx++R'->wokR w' b0 o0 (cp*2)->R'.length<R.length->Q (.goto 0) e' w')
  (hU:∀ e' w' xs' F' q' kb' sg' fp' R' L' h' lo' b' ys' Fb' A' C' sv' bi oi cap ks bc ba oa capc cs i,c.Ev e' sv'->e' 17=ptr b'->e' 18 = .int .i64 (i:Nat)->e' 19 = .bool true->c.Nd w' xs' F' q' kb' sg' fp' R' R' sb pv H root L' (h'+1) lo' b' ys' Fb' A' C' sv'->c.Op w' R' h' lo' b' ys' Fb' bi oi cap ks bc ba oa capc cs->c.At true ks cs i->(∀ x ∈ A',c.κ x<c.lo)->(∀ x ∈ C',c.lo<=c.κ x)->R'.length<=R.length->Q (.goto 1) e' w') :
  W Try.prog 657 (pc Try.f60 [1,0,1,1,1,1,1,1,1,1,1,1,1,1,1,1,0,0,0,0,1,1]) Q e w:=by
 refine W_pc rfl ?_
 refine W_seq ?_
 have h3:=l.ho.h3
 refine W_seq ?_
 refine W_rg fun K hK=>(W_text [true,true,true,true,true] (by kernel_rfl) ?_);simp only [↓zZ1,↓reduceIte,Nat.reduceEqDiff,rg,ow_60,e17,ptr_eq,h3]
 apply hK;clear hK K
 simp only [andThen_normal]
 refine W_false (by simp only [zZ2,Nat.reduceEqDiff,↓reduceIte,zZ3]<;>rfl) (W_skip ?_)
 simp only [andThen_normal]
 refine W_qc (f:=Try.f60) (p:=[1,0,1,1,1,1,1,1,1,1,1,1,1,1,1,1,0,0,0,0,1,1,1]) rfl (leafBulkP ok (hE.keep 19 (by omega) fun k hk=>by simp only [upd_apply];repeat rw [if_neg (by omega)]) e17 e18 N l hi hA h1 h2 hC hRet fun f w1 xs1 F1 q1 kb1 sg1 fp1 R1 ys1 hE1 f17 f18 N1 l1 hi1 h11 h21 hR1=>?_)
 refine W_pc rfl ?_
 refine W_seq ?_
 refine W_qc (f:=Try.f60) (p:=[1,0,1,1,1,1,1,1,1,1,1,1,1,1,1,1,0,0,0,0,1,1,1,1,1,0]) rfl (leafSingles ok hE1 f17 f18 N1 l1 hi1 hA h11 h21 hC hRet (fun e' w' xs' F' q' kb' sg' fp' R' pv' b0 o0 cp g1 g2 g3 g4 g5 g6=>hG e' w' xs' F' q' kb' sg' fp' R' pv' b0 o0 cp g1 g2 g3 g4 g5 (by omega)) fun f2 w2 xs2 F2 q2 kb2 sg2 fp2 R2 ys2 hE2 N2 hys2 hR2=>?_)
 simp only [andThen_normal]
 refine W_qc (f:=Try.f60) (p:=[1,0,1,1,1,1,1,1,1,1,1,1,1,1,1,1,0,0,0,0,1,1,1,1,1,1]) rfl (upLoop ok hE2 N2 hA hys2 hC hRet fun e' w' L' h' lo' b' ys' Fb' A' C' sv' bi oi cap ks bc ba oa capc cs i g1 g2 g3 g4 g5 g6 g7 g8 g9=>?_)
 exact hU e' w' _ _ _ _ _ _ _ L' h' lo' b' ys' Fb' A' C' sv' bi oi cap ks bc ba oa capc cs i g1 g2 g3 g4 g5 g6 g7 g8 g9 (by omega)
set_option maxHeartbeats 4000000 in
set_option maxRecDepth 8000 in
theorem find18 {Q:Post} {e:Env} {ch:Option Addr} {cnt:Int} (ok:c.Ok) (hE:c.Ev e sv) (e17:e 17=ptr b) (N:c.Nd w xs F q kb sg fp R R sb pv H root L h lo b ys Fb A C sv) (on:Own E w b c.iso cnt bi oi cap ks (.pointer ch)) (hpos:0<ks.length) (hbig:ks.length<=2147483648) (ha:Asc O (rkI c.ord) ks)
  (hK:∀ e' w',(∀ k,k<=17->e' k=e k)->e' 18 = .int .i64 (lb O (rkI c.ord) (rkI c.ord pv) ks:Nat)->e' 19 = .bool (hit O (rkI c.ord) (rkI c.ord pv) ks)->Ext (hF (some c.b14)) w w'->HOk (some c.b14) w'->W Try.prog 657 (pc Try.f60 [1,0,1,1,1,1,1,1,1,1,1,1,1,1,1,1,0,0,0,0,1,1]) Q e' w') :
  W Try.prog 657 (pc Try.f60 [1,0,1,1,1,1,1,1,1,1,1,1,1,1,1,1,0,0,0,0]) Q e w:=by
 refine W_pc rfl ?_
 have e5:=hE.e5
 have e14:=hE.e14
 have e15:=hE.e15
 have e16:=hE.e16
 obtain ⟨b0,o0,cp,hsv,hcp,hsr⟩:=stk_some N.stk N.pos
 rw [hsv] at e16
 have x5:=N.st.bx.x5
 have px:rdA w c.b15 0 2=some (itV pv):=N.st.bx.x15.rdA 2 (by show 2<=2;omega)
 have hlen:=N.hw.len
 have hht:=N.ht.tr.height (by have:=ok.hd;omega) (by decide)
 have hxl:=N.len ok N.st.qs.sub
 have hp:=N.pos
 have q1:=wsub1 L.length hp (by omega)
 have hbF:∀ o,F b o:=fun o=>(N.nodes b N.hw.mem).2 o
 have hb14:c.b14 ≠ b:=fun g=>N.st.apF _ 0 (hbF 0) (.inl (by rw [<-g];exact ok.le c.b14 (by simp)))
 refine W_sq fun K hK=>(W_text [true,true,true,true,true,true,false,true,true,true,true,true] (by kernel_rfl) ?_);simp only [↓zZ1,↓reduceIte,Nat.reduceEqDiff,rg,ow_60,e5,e15,e16,e17,ptr_eq,x5,px,q1]
 refine do_call fn_97 (vs:=#[ptr c.m,ptr b,itV pv,hV (some c.b14),.int .i64 ((L.length-1:Nat):Int)]) (by simp only [zZ2,Nat.reduceEqDiff,↓reduceIte,zZ4,e14]<;>rfl) (find_any c.B c.m b bi oi cap c.ord ks pv ch (some c.b14) _ w N.st.tr.less on.h2 on.h3 on.row (wok_lt on.wi) (by omega) hpos ha N.st.bx.xh fun hb e=>by cases e;exact hb14) ?_
 rintro _ w1 ⟨rfl,x1,hH⟩
 refine ⟨trivial,?_⟩
 simp only [↓zZ1,↓reduceIte,Nat.reduceEqDiff,rg,ow_60,srchG]
 apply hK;clear hK K
 refine W_seq (W_label ?_)
 simp only [andThen_normal]
 refine W_qc (f:=Try.f60) (p:=[1,0,1,1,1,1,1,1,1,1,1,1,1,1,1,1,0,0,0,0,1,1]) rfl (hK _ _ (fun k hk=>by simp only [upd_apply];repeat rw [if_neg (by omega)]) (by simp only [upd_eq,Nat.reduceEqDiff,↓reduceIte]<;>rfl) (by simp only [upd_eq,Nat.reduceEqDiff,↓reduceIte]<;>rfl) x1 hH)
theorem RgC.Nd.hle (N:c.Nd w xs F q kb sg fp R Rt sb pv H root L h lo b ys Fb A C sv):h<=H:=by
 have:=N.hw.len
 have:=N.pos
 omega
theorem RgC.Nd.asc (N:c.Nd w xs F q kb sg fp R Rt sb pv H root L h lo b ys Fb A C sv):Asc O (rkI c.ord) ys:=by
 have h1:=N.st.tr.asc
 rw [N.hw.at] at h1
 exact (List.pairwise_append.1 (List.pairwise_append.1 h1).1).2.1
theorem RgC.Nd.pvt (N:c.Nd w xs F q kb sg fp R Rt sb pv H root L h lo b ys Fb A C sv):∀ x ∈ ys,c.κ x<c.κ pv ↔ c.κ x<c.lo:=fun x hx=>N.st.piv x (by rw [N.hw.at];simp [hx])
def RgC.Fnd (c:RgC) (w:World) (H root:Nat) (e:Env) (R:List It):Prop :=
 ∃ xs F q kb sg fp sb pv L h lo b ys Fb A C sv bi oi cap ks bc ba oa capc cs i,c.Ev e sv/\e 17=ptr b/\e 18 = .int .i64 (i:Nat)/\e 19 = .bool true/\c.Nd w xs F q kb sg fp R R sb pv H root L (h+1) lo b ys Fb A C sv/\c.Op w R h lo b ys Fb bi oi cap ks bc ba oa capc cs/\c.At true ks cs i/\(∀ x ∈ A,c.κ x<c.lo)/\∀ x ∈ C,c.lo<=c.κ x
def RgC.Top (c:RgC) (w:World) (e:Env) (R:List It):Prop :=
 ∃ xs F q kb sg fp sb pv b0 o0 cp,c.Ev e (.slice (some ⟨b0,o0,none⟩) (0:Nat) cp)/\sb=some b0/\c.St w (c.DR R) xs F q kb sg fp R sb pv/\xs=c.Lx++R/\wokR w b0 o0 (cp*2)
set_option maxHeartbeats 4000000 in
set_option maxRecDepth 8000 in
theorem loopP {Q:Post} {e:Env} (ok:c.Ok) (hE:c.Ev e sv) (e17:e 17=ptr b) (N:c.Nd w xs F q kb sg fp R R sb pv H root L h lo b ys Fb A C sv) (hA:∀ x ∈ A,c.κ x<c.lo) (hC:∀ x ∈ C,c.lo<=c.κ x)
  (hRet:∀ e' w',e' 10=ptr c.b10->c.Fin w'->Q .ret e' w') (hG:∀ e' w' R',c.Top w' e' R'->R'.length<R.length->Q (.goto 0) e' w') :
  W Try.prog 657 (pc Try.f60 [1,0,1,1,1,1,1,1,1,1,1,1,1,1,1,1]) Q e w:=by
 refine W_pc rfl ?_
 refine W_block (W_loop (fun mm e w=>∃ (xs:List It) (F:Nat->Nat->Prop) (q:List Qe) (kb:Option Nat) (sg:Qe->List It) (fp:Qe->Nat->Nat->Prop) (R':List It) (sb:Option Nat) (pv:It) (L:List (Nat × Nat)) (h lo b:Nat) (ys:List It) (Fb:Nat->Nat->Prop) (A C:List It) (sv:Value),mm=R'.length*(H+1)+h/\R'.length<=R.length/\c.Ev e sv/\e 17=ptr b/\c.Nd w xs F q kb sg fp R' R' sb pv H root L h lo b ys Fb A C sv/\(∀ x ∈ A,c.κ x<c.lo)/\∀ x ∈ C,c.lo<=c.κ x) (R.length*(H+1)+h)
  ⟨xs,F,q,kb,sg,fp,R,sb,pv,L,h,lo,b,ys,Fb,A,C,sv,rfl,Nat.le_refl _,hE,e17,N,hA,hC⟩ ?_)
 clear hE e17 N hA hC
 rintro mm e w ⟨xs,F,q,kb,sg,fp,R',sb,pv,L,h,lo,b,ys,Fb,A,C,sv,rfl,hRl,hE,e17,N,hA,hC⟩
 have hhH:=N.hle
 have hmul:∀ (R2:List It) (h2:Nat),R2.length<R'.length->h2<=H->R2.length*(H+1)+h2<R'.length*(H+1)+h:=fun R2 h2 g1 g2=>by
  have:=Nat.mul_le_mul_right (H+1) (show R2.length+1<=R'.length from g1)
  rw [Nat.add_mul,Nat.one_mul] at this
  omega
 refine W_block ?_
 refine W_scope2 1 (fun k e w=>∃ R2:List It,k=R2.length/\R2.length<=R'.length/\c.Fnd w H root e R2) rfl rfl ?_ ?_
 ·refine W_qc (f:=Try.f60) (p:=[1,0,1,1,1,1,1,1,1,1,1,1,1,1,1,1,0,0,0,0]) rfl ?_
  have hxl:=N.len ok N.st.qs.sub
  have hyx:=N.ylen
  obtain ⟨hlo1,-,-⟩:=N.lo1 ok
  rcases N.open with ⟨rfl,bi,oi,cap,l⟩ | ⟨h',bi,oi,cap,ks,bc,ba,oa,capc,cs,rfl,p⟩
  ·refine find18 ok hE e17 N l.ho (by have:=l.h1;omega) (by omega) N.asc fun f w1 hf f18 f19 x1 hH=>?_
   have N1:=N.hint ok x1 hH
   have h14:=ok.le c.b14 (by simp)
   have l1:=l.ext x1 fun y o g k=>N.st.apF y o (N.hw.sub y o g) (.inl (by cases k;exact h14))
   obtain ⟨g1,g2⟩:=leaf_find N.asc N.pvt
   refine nextLeaf ok (hE.keep 17 (by omega) hf) ((hf 17 (by omega)).trans e17) f18 N1 l1 (lb_le O (rkI c.ord) _ _) hA g1 g2 hC (fun e' w' k1 k2=>?_) (fun e' w' xs' F' q' kb' sg' fp' R2 pv' b0 o0 cp k1 k2 k3 k4 k5 k6=>?_) fun e' w' xs' F' q' kb' sg' fp' R2 L' h2 lo' b' ys' Fb' A' C' sv' bi oi cap ks bc ba oa capc cs i k1 k2 k3 k4 k5 k6 k7 k8 k9 k10=>?_
   ·exact hRet e' w' k1 k2
   ·exact jump2_other 1 0 (by decide) _ _ _ _ (hG e' w' R2 ⟨xs',F',q',kb',sg',fp',sb,pv',b0,o0,cp,k1,k2,k3,k4,k5⟩ (by omega))
   ·exact jump2_same 1 _ _ _ _ ⟨_,R2,rfl,k10,xs',F',q',kb',sg',fp',sb,pv,L',h2,lo',b',ys',Fb',A',C',sv',bi,oi,cap,ks,bc,ba,oa,capc,cs,i,k1,k2,k3,k4,k5,k6,k7,k8,k9⟩
  ·have hkl:=p.klen
   have hak:Asc O (rkI c.ord) ks:=by
    have h1:=N.asc
    rw [p.n.eq] at h1
    exact h1.sublist (weave_sub (cs.map Kid.xs) ks (by simpa using p.n.len))
   refine find18 ok hE e17 N p.ho (by have:=p.h1;omega) (by omega) hak fun f w1 hf f18 f19 x1 hH=>?_
   have N1:=N.hint ok x1 hH
   have h14:=ok.le c.b14 (by simp)
   have p1:=p.ext x1 fun y o g k=>N.st.apF y o (N.hw.sub y o g) (.inl (by cases k;exact h14))
   have a:=at_find p.n N.asc N.pvt
   have hE1:=hE.keep 17 (by omega) hf
   have f17:f 17=ptr b:=(hf 17 (by omega)).trans e17
   generalize hit O (rkI c.ord) (rkI c.ord pv) ks=fnd at f19 a
   generalize Go.Proofs.Ytbnnkcofnmipoaa.lb O (rkI c.ord) (rkI c.ord pv) ks=i at f18 a
   refine nextB ok hE1 f17 f18 f19 N1 p1 a hA hC (fun e' w' xs' F' q' kb' sg' fp' R2 ys' Fb' ks' cs' k1 k2 k3 k4 k5 k6 k7 k8=>?_) (fun e' w' k1 k2=>?_) (fun e' w' xs' F' q' kb' sg' fp' R2 pv' b0 o0 cp k1 k2 k3 k4 k5 k6=>?_) fun hf0 e' w' sb' sv' ci k1 k2 k3=>?_
   ·cases fnd with
    | true=>exact jump2_same 1 _ _ _ _ ⟨_,R2,rfl,by omega,xs',F',q',kb',sg',fp',sb,pv,L,h',lo,b,ys',Fb',A,C,sv,bi,oi,cap,ks',bc,ba,oa,capc,cs',i,k1,k2,k3,k4,k5,k6,k7,hA,hC⟩
    | false=>exact ⟨_,hmul R2 (h'+1) k8 (by omega),xs',F',q',kb',sg',fp',R2,sb,pv,L,h'+1,lo,b,ys',Fb',A,C,sv,rfl,by omega,k1,k2,k5,hA,hC⟩
   ·exact hRet e' w' k1 k2
   ·exact jump2_other 1 0 (by decide) _ _ _ _ (hG e' w' R2 ⟨xs',F',q',kb',sg',fp',sb,pv',b0,o0,cp,k1,k2,k3,k4,k5⟩ (by omega))
   ·refine ⟨_,Nat.lt_of_lt_of_le (Nat.add_lt_add_left (Nat.lt_succ_self h') _) (Nat.le_refl _),xs,F,q,kb,sg,fp,R',sb',pv,_,h',_,ci.b,ci.xs,ci.F,_,_,sv',rfl,hRl,k1,k2,k3,fun x hx=>?_,fun x hx=>?_⟩
    ·rcases List.mem_append.1 hx with g | g
     ·exact hA x g
     ·exact a.fr x g
    ·rcases List.mem_append.1 hx with g | g
     ·exact a.tl x g
     ·exact hC x g
 ·clear hE e17 N hA hC
  rintro k e w ⟨R2,rfl,hR2,xs,F,q,kb,sg,fp,sb,pv,L,h2,lo,b,ys,Fb,A,C,sv,bi,oi,cap,ks,bc,ba,oa,capc,cs,i,hE,e17,e18,e19,N,p,a,hA,hC⟩
  refine W_seq (W_skip ?_)
  simp only [andThen_normal]
  refine W_qc (f:=Try.f60) (p:=[1,0,1,1,1,1,1,1,1,1,1,1,1,1,1,1,0,0,0,0,1,1]) rfl ?_
  refine nextB ok hE e17 e18 e19 N p a hA hC (fun e' w' xs' F' q' kb' sg' fp' R3 ys' Fb' ks' cs' k1 k2 k3 k4 k5 k6 k7 k8=>?_) (fun e' w' k1 k2=>?_) (fun e' w' xs' F' q' kb' sg' fp' R3 pv' b0 o0 cp k1 k2 k3 k4 k5 k6=>?_) fun hf0=>by cases hf0
  ·exact jump2_same 1 _ _ _ _ ⟨_,k8,R3,rfl,by omega,xs',F',q',kb',sg',fp',sb,pv,L,h2,lo,b,ys',Fb',A,C,sv,bi,oi,cap,ks',bc,ba,oa,capc,cs',i,k1,k2,k3,k4,k5,k6,k7,hA,hC⟩
  ·exact hRet e' w' k1 k2
  ·exact jump2_other 1 0 (by decide) _ _ _ _ (hG e' w' R3 ⟨xs',F',q',kb',sg',fp',sb,pv',b0,o0,cp,k1,k2,k3,k4,k5⟩ (by omega))
end Go.Proofs.Ytbnnkcofnmipoaa
namespace Go.Proofs.Ytbnnkcofnmipoaa
open Go Go.Proofs
variable {c:RgC} {w w':World} {xs:List It} {F:Nat->Nat->Prop} {q:List Qe} {kb:Option Nat} {sg:Qe->List It} {fp:Qe->Nat->Nat->Prop} {R Rt:List It} {sb:Option Nat} {pv:It} {sv:Value}
def RgC.TopS (c:RgC) (w:World) (e:Env) (R:List It):Prop :=
 ∃ xs F q kb sg fp sb pv sv,c.Ev e sv/\SlV w 2 sv 0 []/\(∀ b o n cp,sv = .slice (some ⟨b,o,none⟩) n cp->sb=some b)/\c.St w (c.DR R) xs F q kb sg fp R sb pv/\xs=c.Lx++R
theorem RgC.Top.s {e:Env} (h:c.Top w e R):c.TopS w e R:=by
 obtain ⟨xs,F,q,kb,sg,fp,sb,pv,b0,o0,cp,h1,h2,h3,h4,h5⟩:=h
 exact ⟨xs,F,q,kb,sg,fp,sb,pv,_,h1,⟨rfl,.inr ⟨b0,o0,cp,rfl,Nat.zero_le _,Row.nil _ _ _,h5⟩⟩,fun b o n cp e=>by cases e;exact h2,h3,h4⟩
set_option maxHeartbeats 4000000 in
set_option maxRecDepth 8000 in
theorem restartP {Q:Post} {e:Env} (ok:c.Ok) (h:c.TopS w e R) (hRet:∀ e' w',e' 10=ptr c.b10->c.Fin w'->Q .ret e' w') (hG:∀ e' w' R',c.TopS w' e' R'->R'.length<R.length->Q (.goto 0) e' w') :
  W Try.prog 657 (pc Try.f60 [1,0,1,1,1,1,1,1,1,1,1,1,1]) Q e w:=by
 obtain ⟨xs,F,q,kb,sg,fp,sb,pv,sv,hE,hsl,svb,st,eq⟩:=h
 refine W_pc rfl ?_
 have e5:=hE.e5
 have x5:=st.bx.x5
 refine W_seq ?_
 rcases st.tr.root with ⟨hx0,hr⟩ | ⟨H,root,hr,ht⟩
 ·refine W_sq fun K hK=>(W_text [true,true,true,true,true] (by kernel_rfl) ?_);simp only [↓zZ1,↓reduceIte,Nat.reduceEqDiff,rg,ow_60,e5,ptr_eq,x5,hr]
  apply hK;clear hK K
  refine W_true (by simp only [zZ2,Nat.reduceEqDiff,↓reduceIte,zZ3]<;>rfl) ?_
  have hR0:R=[]:=by
   rw [hx0] at eq
   exact (List.append_eq_nil_iff.1 eq.symm).2
  refine W_qc (f:=Try.f60) (p:=[1,0,1,1,1,1,1,1,1,1,1,1,1,0,1,0]) rfl (ret_15 ok (hE.keep 19 (by omega) fun k hk=>by simp only [upd_apply];repeat rw [if_neg (by omega)]) st eq (fun x hx=>by rw [hR0] at hx;cases hx) fun e' w' h10 hfin=>?_)
  exact hRet e' w' h10 hfin
 ·refine W_sq fun K hK=>(W_text [true,true,true,true,true] (by kernel_rfl) ?_);simp only [↓zZ1,↓reduceIte,Nat.reduceEqDiff,rg,ow_60,e5,ptr_eq,x5,hr]
  apply hK;clear hK K
  refine W_false (by simp only [zZ2,Nat.reduceEqDiff,↓reduceIte,zZ3]<;>rfl) (W_skip ?_)
  simp only [andThen_normal]
  have hiso:=st.tr.cfg.iso
  have tic:=ht.tr.iso0
  refine W_sq fun K hK=>(W_semi (some none) (.take true 0 (.take true 1 (.take false 2 (.take false 3 (.bar 4 (.take false 5 .nil)))))) mixed (by kernel_rfl) ?_);simp only [↓rgm,↓zZ1,↓reduceIte,Nat.reduceEqDiff,rg,ow_60,e5,ptr_eq,x5]
  refine do_call fn_96 (vs:=#[ptr c.m,.pointer (some ⟨c.m,2,none⟩),.bool true]) (by simp only [zZ2,Nat.reduceEqDiff,↓reduceIte,zZ4]<;>rfl) (isoLoad_any c.m c.m 2 root true c.iso _ hiso hr tic.1) ?_
  rintro _ w2 ⟨rfl,r2⟩
  refine ⟨by first | exact trivial | exact .inr trivial,?_⟩
  simp only [↓zZ1,↓reduceIte,Nat.reduceEqDiff,rg,ow_60,↓rgm]
  apply hK;clear hK K
  have x2:Ext noF w w2:=(Ext.dr noF _ _).tr r2.ext
  have st2:=st.ext0 ok x2
  have e16:=hE.e16
  have hb1:=bu_s0 root
  refine W_sq fun K hK=>(W_text [true,true,true,false,false,true] (by kernel_rfl) ?_);simp only [↓zZ1,↓reduceIte,Nat.reduceEqDiff,rg,ow_60,e16,hb1]
  refine do_bsl rfl (bs_s1 root 0) fun w3 n3=>⟨trivial,?_⟩
  simp only [↓zZ1,↓reduceIte,Nat.reduceEqDiff,rg,ow_60]
  have st3:=st2.ext0 ok n3.ext
  have hsl3:=(hsl.ext0 x2).ext0 n3.ext
  refine do_append (v:=sv) (by simp only [evt,upd_eq,Nat.reduceEqDiff,↓reduceIte]<;>first | exact e16 | rfl) (by simp only [zZ2,Nat.reduceEqDiff,↓reduceIte,zZ3]<;>rfl) el_s rfl ni_s hsl3 (u:=.slice (some ⟨w2.heap.size,0,none⟩) 1 1) (m:=1) (l':=Es.cel (root,0)) ⟨rfl,.inr ⟨_,0,1,rfl,Nat.le_refl _,n3.row,n3.wok.R (Nat.le_refl _)⟩⟩ (by omega) (by decide) (Es.one _) fun v4 w4 a4=>⟨trivial,?_⟩
  simp only [↓zZ1,↓reduceIte,Nat.reduceEqDiff,rg,ow_60]
  apply hK;clear hK K
  obtain ⟨sb',st4,svb4,x4,-⟩:=st3.app ok hsl3 svb a4
  have hsv4:SlV w4 2 v4 [((root,0):Nat × Nat)].length (flat Es [(root,0)]):=by rw [flat_one];exact a4.1
  have hF:∀ y o,F y o->¬ (sb=some y):=fun y o g e=>(st.notS1 ok e).2 o g
  have X4:Ext (fun y o=>sb=some y) w w4:=((x2.mono fun _ _ _ g=>g.elim).tr (n3.ext.mono fun _ _ _ g=>g.elim)).tr x4
  have N4:c.Nd w4 xs F q kb sg fp R R sb' pv H root [(root,0)] H 1 root xs F [] [] v4 :=
   ⟨st4,X4.rd hr fun e=>(st.notS1 ok e).1 rfl,ht.ext X4 hF,.root,hsv4,svb4,eq⟩
  refine W_qc (f:=Try.f60) (p:=[1,0,1,1,1,1,1,1,1,1,1,1,1,1,1,1]) rfl (loopP ok (hE.stack (fun k hk=>?_) (by simp only [upd_eq,Nat.reduceEqDiff,↓reduceIte]<;>rfl)) (by simp only [upd_eq,Nat.reduceEqDiff,↓reduceIte]<;>rfl) N4 (fun x hx=>by cases hx) (fun x hx=>by cases hx) hRet fun e' w' R' g1 g2=>hG e' w' R' g1.s g2)
  simp only [upd_apply];repeat rw [if_neg (by omega)]
end Go.Proofs.Ytbnnkcofnmipoaa
namespace Go.Proofs.Ytbnnkcofnmipoaa
open Go Go.Proofs
theorem z_hintR:zK Try.prog 109=some [.bool false,.bool false,.bool false,.bool false,.bool false,.bool false,.bool false,.bool false,.int .u8 0,.int .u8 0,.int .u8 0,.int .u8 0,.int .u8 0,.int .u8 0,.int .u8 0,.int .u8 0]:=by kernel_rfl
theorem hint_newR {w w':World} (h:New w w' [.bool false,.bool false,.bool false,.bool false,.bool false,.bool false,.bool false,.bool false,.int .u8 0,.int .u8 0,.int .u8 0,.int .u8 0,.int .u8 0,.int .u8 0,.int .u8 0,.int .u8 0]):HintAt w' w.heap.size:=by
 refine ⟨h.wok,fun i hi=>⟨false,?_⟩,fun i hi=>⟨0,by omega,?_⟩⟩
 ·have:i=0\/i=1\/i=2\/i=3\/i=4\/i=5\/i=6\/i=7:=by omega
  have:=h.row i (.bool false) (by rcases this with rfl | rfl | rfl | rfl | rfl | rfl | rfl | rfl<;>rfl)
  rwa [Nat.zero_add] at this
 ·have:i=0\/i=1\/i=2\/i=3\/i=4\/i=5\/i=6\/i=7:=by omega
  have:=h.row (8+i) (.int .u8 0) (by rcases this with rfl | rfl | rfl | rfl | rfl | rfl | rfl | rfl<;>rfl)
  rwa [Nat.zero_add] at this
theorem z_list:zK Try.prog 115=some [nilF,.int .i64 0,.int .i64 0,.slice none 0 0]:=by kernel_rfl
theorem z_bool:zK Try.prog 4=some [.bool false]:=by kernel_rfl
def oV (ov:Option Nat):Value:=.pointer (ov.map fun b=>⟨b,0,none⟩)
def blk (a:Option Addr):Option Nat:=a.map fun a=>a.block
def rgC (B m d:Nat) (iso:Int) (ord:List Int) (X:List It) (F0:Nat->Nat->Prop) (mn mxx:It) (ex mi:Bool) (lb:Nat) (a:Option Addr) (wz w0:World) (S0 S1 b5 b7 b10 b12 b14 b15:Nat):RgC :=
 ⟨B,m,d,iso,ord,lb,S0,S1,b5,b7,b10,b12,b14,b15,mxx,mi,ex,rkI ord mn,X.filter (fun x=>decide (rkI ord x<rkI ord mn)),X.filter (fun x=>!decide (rkI ord x<rkI ord mn)),w0,fun y _=>((∃ o,F0 y o)\/y=m\/y=lb\/blk a=some y)\/wz.heap.size<=y⟩
def IsC (B m d:Nat) (iso:Int) (ord:List Int) (X:List It) (F0:Nat->Nat->Prop) (mn mxx:It) (ex mi:Bool) (lb:Nat) (a:Option Addr) (wz w0:World) (c:RgC):Prop :=
 c.Ok/\c.S0=wz.heap.size/\w0.heap.size<=c.S1/\∃ S0 S1 b5 b7 b10 b12 b14 b15,c=rgC B m d iso ord X F0 mn mxx ex mi lb a wz w0 S0 S1 b5 b7 b10 b12 b14 b15
theorem filter_split {κ:It->Int} {lo:Int}:∀ {X:List It},X.Pairwise (fun a b=>κ a<κ b)->X.filter (fun x=>decide (κ x<lo))++X.filter (fun x=>!decide (κ x<lo))=X
 | [],_=>rfl
 | x::X,h=>by
  obtain ⟨h1,h2⟩:=List.pairwise_cons.1 h
  by_cases hx:κ x<lo
  ·rw [List.filter_cons_of_pos (by simpa using hx),List.filter_cons_of_neg (by simpa using hx),List.cons_append,filter_split h2]
  ·have e1:X.filter (fun x=>decide (κ x<lo))=[]:=List.filter_eq_nil_iff.2 fun y hy=>by have:=h1 y hy;simp;omega
   have e2:X.filter (fun x=>!decide (κ x<lo))=X:=List.filter_eq_self.2 fun y hy=>by have:=h1 y hy;simp;omega
   rw [List.filter_cons_of_neg (by simpa using hx),List.filter_cons_of_pos (by simpa using hx),e1,e2];rfl
set_option maxHeartbeats 8000000 in
set_option maxRecDepth 8000 in
theorem range_any (B m d:Nat) (iso:Int) (ord:List Int) (hd:2<=d) (hd':d<=128) (X:List It) (F0:Nat->Nat->Prop) (wz w0:World) (xz:Ext noF wz w0) (hM:TreeAt B ord wz m d iso X F0) (hbig:X.length<=2147483647) (mn mxx:It) (ov:Option Nat) (nr mi0:Bool) (hov:∀ ob,ov=some ob->rd w0 ob 0=some (.bool nr)/\rd w0 ob 1=some (.bool mi0))
  (lb n c0:Nat) (a:Option Addr) (hwk:wok wz lb 4) (hq:rd wz lb 3=some (.slice a n c0)) (ha:okA a n c0) (hn:n<=c0) (mlb:m<lb) (hlF:∀ o,¬ F0 lb o) (hkb:∀ bi oi,a=some ⟨bi,oi,none⟩->m<bi/\bi ≠ lb/\(∀ o,¬ F0 bi o)/\wok wz bi (oi+c0*3)/\c0<9223372036854775808) (hexa:(ov.isNone || !nr)=false->a=none) :
  CallK Try.prog 60 #[ptr m,itV mn,itV mxx,oV ov,ptr lb] w0 fun v w'=>∃ c,IsC B m d iso ord X F0 mn mxx (ov.isNone || !nr) (ov.isSome && mi0) lb a wz w0 c/\∃ xs F q kb sg fp R sb pv lv cnt qs,c.St w' (c.DR R) xs F q kb sg fp R sb pv/\xs=c.Lx++R/\(∀ x ∈ R,stopI c.ord c.mi c.mxi x=true)/\Row w' c.lb 0 [lv,.int .i64 cnt,.int .i64 0,qs]/\v = .agg #[lv,.int .i64 cnt,.int .i64 0,qs]:=by
 refine calls_of_W [.cell 10 115] Try.func60 rfl Try.ntmps60 Try.results60 (by simp) fun e he=>?_
 have e0:e 0=ptr m:=he 0 _ rfl
 have e1:e 1=itV mn:=he 1 _ rfl
 have e2:e 2=itV mxx:=he 2 _ rfl
 have e3:e 3=oV ov:=he 3 _ rfl
 have e4:e 4=ptr lb:=he 4 _ rfl
 clear he
 have hlwz:=wok_lt hwk
 have hmwz:=hM.mlt
 have hzs:=xz.size
 have hlw:lb<w0.heap.size:=by omega
 have hmw:m<w0.heap.size:=by omega
 refine W_sq fun K hK=>(W_text [false,false,false,false] (by kernel_rfl) ?_);simp only [↓zZ1,↓reduceIte,Nat.reduceEqDiff,rg,ow_60]
 refine do_box (v:=ptr m) (by simp only [evt];exact e0) fun w1 n1=>⟨trivial,?_⟩
 simp only [↓zZ1,↓reduceIte,Nat.reduceEqDiff,rg,ow_60]
 refine do_box (v:=itV mn) (by simp only [evt,upd_eq,Nat.reduceEqDiff,↓reduceIte];exact e1) fun w2 n2=>⟨trivial,?_⟩
 simp only [↓zZ1,↓reduceIte,Nat.reduceEqDiff,rg,ow_60]
 refine do_box (v:=itV mxx) (by simp only [evt,upd_eq,Nat.reduceEqDiff,↓reduceIte];exact e2) fun w3 n3=>⟨trivial,?_⟩
 simp only [↓zZ1,↓reduceIte,Nat.reduceEqDiff,rg,ow_60]
 refine do_alloc z_list fun w4 n4=>⟨trivial,?_⟩
 simp only [↓zZ1,↓reduceIte,Nat.reduceEqDiff,rg,ow_60]
 apply hK;clear hK K
 have s1:=n1.size
 have s2:=n2.size
 have s3:=n3.size
 have s4:=n4.size
 have X4:Ext noF w0 w4:=((n1.ext.tr n2.ext).tr n3.ext).tr n4.ext
 have r5:rd w4 w0.heap.size 0=some (ptr m):=n4.ext.rd (n3.ext.rd (n2.ext.rd (Row.cons.1 (show Row w1 w0.heap.size 0 [ptr m] from n1.row)).1 fun g=>g) fun g=>g) fun g=>g
 have r6:Row w4 w1.heap.size 0 (E.cel mn):=n4.ext.row (n3.ext.row n2.row fun _ _ g=>g) fun _ _ g=>g
 have r7:Row w4 w2.heap.size 0 (E.cel mxx):=n4.ext.row n3.row fun _ _ g=>g
 have k10:wok w4 w3.heap.size 4:=n4.wok
 have hres:∀ e' w' c,IsC B m d iso ord X F0 mn mxx (ov.isNone || !nr) (ov.isSome && mi0) lb a wz w0 c->e' 10=ptr c.b10->c.Fin w'->endQ Try.prog [.cell 10 115] (fun v w'=>∃ c,IsC B m d iso ord X F0 mn mxx (ov.isNone || !nr) (ov.isSome && mi0) lb a wz w0 c/\∃ xs F q kb sg fp R sb pv lv cnt qs,c.St w' (c.DR R) xs F q kb sg fp R sb pv/\xs=c.Lx++R/\(∀ x ∈ R,stopI c.ord c.mi c.mxi x=true)/\Row w' c.lb 0 [lv,.int .i64 cnt,.int .i64 0,qs]/\v = .agg #[lv,.int .i64 cnt,.int .i64 0,qs]) .ret e' w':=by
  intro e' w' c hc h10 hfin
  obtain ⟨xs,F,q,kb,sg,fp,R,sb,pv,lv,cnt,qs,g1,g2,g3,g4,g5⟩:=hfin
  exact endQ_c (by rw [h10];rfl) ld_115 (by rw [loadV_some];exact g5) ⟨c,hc,xs,F,q,kb,sg,fp,R,sb,pv,lv,cnt,qs,g1,g2,g3,g4,rfl⟩
 refine W_scope2 0 (fun k e w=>∃ c R,IsC B m d iso ord X F0 mn mxx (ov.isNone || !nr) (ov.isSome && mi0) lb a wz w0 c/\k=R.length/\c.TopS w e R) rfl rfl ?_ ?_
 ·refine W_keep [3,4,5,6,7,10] fun f hf=>?_
  have f3:f 3=oV ov:=(hf 3 (by simp)).trans e3
  have f4:f 4=ptr lb:=(hf 4 (by simp)).trans e4
  have f5:f 5=ptr w0.heap.size:=(hf 5 (by simp)).trans rfl
  have f6:f 6=ptr w1.heap.size:=(hf 6 (by simp)).trans rfl
  have f7:f 7=ptr w2.heap.size:=(hf 7 (by simp)).trans rfl
  have f10:f 10=ptr w3.heap.size:=(hf 10 (by simp)).trans rfl
  clear hf e0 e1 e2 e3 e4 e
  refine W_seq ?_
  refine W_sq fun K hK=>(W_text [true,false] (by kernel_rfl) ?_);simp only [↓zZ1,↓reduceIte,Nat.reduceEqDiff,rg,ow_60,f5,ptr_eq,r5]
  refine do_call fn_91 (by simp only [zZ2,Nat.reduceEqDiff,↓reduceIte,zZ4]<;>rfl) (lock_any _ _ w4) ?_
  rintro _ w5 ⟨rfl,hw5⟩
  obtain rfl:w4=w5:=hw5
  refine ⟨trivial,?_⟩
  simp only [↓zZ1,↓reduceIte,Nat.reduceEqDiff,rg,ow_60]
  apply hK;clear hK K
  refine W_false (by simp only [zZ2,Nat.reduceEqDiff,↓reduceIte,zZ3]<;>rfl) (W_skip ?_)
  simp only [andThen_normal]
  have hrest:∀ g w5 (b12:Nat),Ext noF w4 w5->b12=w4.heap.size->w5.heap.size=w4.heap.size+1->rd w5 b12 0=some (.bool (ov.isSome && mi0))->g 4=ptr lb->g 5=ptr w0.heap.size->g 6=ptr w1.heap.size->g 7=ptr w2.heap.size->g 10=ptr w3.heap.size->g 11 = .bool (ov.isNone || !nr)->g 12=ptr b12 →
    W Try.prog 657 (pc Try.f60 [1,0,1,1,1]) (jump2 0 (fun e w=>∃ k,∃ c R,IsC B m d iso ord X F0 mn mxx (ov.isNone || !nr) (ov.isSome && mi0) lb a wz w0 c/\k=R.length/\c.TopS w e R) (endQ Try.prog [.cell 10 115] (fun v w'=>∃ c,IsC B m d iso ord X F0 mn mxx (ov.isNone || !nr) (ov.isSome && mi0) lb a wz w0 c/\∃ xs F q kb sg fp R sb pv lv cnt qs,c.St w' (c.DR R) xs F q kb sg fp R sb pv/\xs=c.Lx++R/\(∀ x ∈ R,stopI c.ord c.mi c.mxi x=true)/\Row w' c.lb 0 [lv,.int .i64 cnt,.int .i64 0,qs]/\v = .agg #[lv,.int .i64 cnt,.int .i64 0,qs]))) g w5:=by
   clear f3 f4 f5 f6 f7 f10 f hov
   intro f w5 b12 x5 hb12 hs5 r12 f4 f5 f6 f7 f10 f11 f12
   have R5:=x5.rd r5 fun g=>g
   have R6:=x5.row r6 fun _ _ g=>g
   have R7:=x5.row r7 fun _ _ g=>g
   have K10:=x5.wok k10
   have X5:=xz.tr (X4.tr x5)
   have hM5:=hM.ext X5
   have hq5:=X5.rd hq fun g=>g
   have hw5:=X5.wok hwk
   generalize hex0:(ov.isNone || !nr)=ex at f11 hres hexa ⊢
   generalize hmi0:(ov.isSome && mi0)=mi at r12 hres ⊢
   refine W_pc rfl ?_
   refine W_seq ?_
   refine W_sq fun K hK=>(W_text [true,true] (by kernel_rfl) ?_);simp only [↓zZ1,↓reduceIte,Nat.reduceEqDiff,rg,ow_60,f4,ptr_eq]
   apply hK;clear hK K
   refine W_false (by simp only [zZ2,Nat.reduceEqDiff,↓reduceIte,zZ3]<;>rfl) (W_skip ?_)
   simp only [andThen_normal]
   refine W_sq fun K hK=>(W_text [true,false] (by kernel_rfl) ?_);simp only [↓zZ1,↓reduceIte,Nat.reduceEqDiff,rg,ow_60,f4]
   refine do_call fn_94 (vs:=#[ptr lb]) (by simp only [zZ2,Nat.reduceEqDiff,↓reduceIte,zZ4]<;>rfl) (lclear_any lb n c0 a w5 hw5 hq5 ha hn) ?_
   rintro _ w6 ⟨x6,l0,l1,l2,l3,s6⟩
   refine ⟨trivial,?_⟩
   simp only [↓zZ1,↓reduceIte,Nat.reduceEqDiff,rg,ow_60]
   apply hK;clear hK K
   have hlb:∀ y,y=lb->y<w0.heap.size:=fun y e=>by omega
   have hno6:∀ y,w0.heap.size<=y->∀ o,¬ (y=lb):=fun y hy o e=>by omega
   have q5:=x6.rd R5 fun e=>by omega
   have q6:=x6.row R6 fun _ _ e=>by omega
   have q7:=x6.row R7 fun _ _ e=>by omega
   have q12:=x6.rd r12 fun e=>by omega
   have Q10:=x6.wok K10
   have hM6:TreeAt B ord w6 m d iso X F0:=hM5.extG x6 (fun y o g k=>hlF o (by rw [<-k];exact g)) fun y o g=>by omega
   have hw6:=x6.wok hw5
   refine W_sq fun K hK=>(W_text [true,true] (by kernel_rfl) ?_);simp only [↓zZ1,↓reduceIte,Nat.reduceEqDiff,rg,ow_60]
   apply hK;clear hK K
   refine W_sqx fun J hJ=>?_
   have hend:∀ g w7,(∀ k,k<=12->g k=f k)->g 13=stopV b12 w0.heap.size w2.heap.size->Ext (rng lb 0 1) w6 w7->w7.heap.size=w6.heap.size->((ex=true/\∃ lv,rd w7 lb 0=some lv/\LessAt B m w7 lv ord)\/(ex=false/\rd w7 lb 0=some nilF))->J g w7:=by
    intro g w7 hg g13 x7 s7 hle
    refine hJ _ _ ?_;clear hJ J
    have g6:g 6=ptr w1.heap.size:=(hg 6 (by omega)).trans f6
    have h5:=x7.rd q5 fun e=>by have:=e.1;omega
    have h6:=x7.row q6 fun _ _ e=>by have:=e.1;omega
    have h7:=x7.row q7 fun _ _ e=>by have:=e.1;omega
    have h12:=x7.rd q12 fun e=>by have:=e.1;omega
    have H10:=x7.wok Q10
    have L1:=x7.rd l1 fun e=>absurd e.2.2 (by decide)
    have L2:=x7.rd l2 fun e=>absurd e.2.2 (by decide)
    have L3:=x7.rd l3 fun e=>absurd e.2.2 (by decide)
    have hM7:TreeAt B ord w7 m d iso X F0:=hM6.extG x7 (fun y o g k=>hlF o (by rw [<-k.1];exact g)) fun y o g=>by have:=g.1;omega
    have hw7:=x7.wok hw6
    refine W_sq fun K hK=>(W_text [false] (by kernel_rfl) ?_);simp only [↓zZ1,↓reduceIte,Nat.reduceEqDiff,rg,ow_60]
    refine do_alloc z_hintR fun w8 n8=>⟨trivial,?_⟩
    simp only [↓zZ1,↓reduceIte,Nat.reduceEqDiff,rg,ow_60]
    apply hK;clear hK K
    have s8:=n8.size
    have hH8:=hint_newR n8
    have kx:rdA w8 w1.heap.size 0 2=some (itV mn):=(n8.ext.row h6 fun _ _ g=>g).rdA 2 (by show 2<=2;omega)
    refine W_sq fun K hK=>(W_text [true,false,false] (by kernel_rfl) ?_);simp only [↓zZ1,↓reduceIte,Nat.reduceEqDiff,rg,ow_60,g6,ptr_eq,kx]
    refine do_alloc z_item fun w9 n9=>⟨trivial,?_⟩
    simp only [↓zZ1,↓reduceIte,Nat.reduceEqDiff,rg,ow_60]
    refine do_store (v:=itV mn) (by simp only [zZ2,Nat.reduceEqDiff,↓reduceIte,zZ3]<;>rfl) (by simp only [zZ2,Nat.reduceEqDiff,↓reduceIte,zZ3]<;>rfl) sz_33 (rb_len mn) n9.wok (by decide) (rb_oc mn) fun wa xa ra sa=>⟨trivial,?_⟩
    simp only [↓zZ1,↓reduceIte,Nat.reduceEqDiff,rg,ow_60]
    apply hK;clear hK K
    have s9:=n9.size
    have xb:Ext noF w7 wa:=(n8.ext.tr n9.ext).trans xa (fun _ _ g=>g) fun y o hy g=>by have:=g.1;omega
    refine W_sq fun K hK=>(W_text [true] (by kernel_rfl) ?_);simp only [↓zZ1,↓reduceIte,Nat.reduceEqDiff,rg,ow_60]
    apply hK;clear hK K
    refine W_seq (W_label ?_)
    simp only [andThen_normal]
    have hasc:X.Pairwise fun a b=>rkI ord a<rkI ord b:=hM.asc.imp fun g=>ltO.1 g
    have hXs:=filter_split (κ:=rkI ord) (lo:=rkI ord mn) hasc
    obtain ⟨c,hc⟩:∃ c,c=rgC B m d iso ord X F0 mn mxx ex mi lb a wz w0 wz.heap.size wa.heap.size w0.heap.size w2.heap.size w3.heap.size b12 w7.heap.size w8.heap.size:=⟨_,rfl⟩
    have hok:c.Ok:=by
     rw [hc]
     refine ⟨hd,hd',mlb,hlwz,fun y hy=>?_,?_,fun x hx=>?_,fun x hx=>?_,?_,?_,(fun y o g=>.inl (.inr g)),fun o=>.inl (.inr (.inl rfl)),fun o=>.inl (.inr (.inr (.inl rfl)))⟩
     ·simp only [rgC,List.mem_cons,List.not_mem_nil,or_false] at hy
      show wz.heap.size<=y/\y<wa.heap.size
      omega
     ·simp only [rgC,List.nodup_cons,List.mem_cons,List.not_mem_nil,or_false,not_or,List.nodup_nil,and_true,not_false_eq_true]
      omega
     ·have:=(List.mem_filter.1 (show x ∈ X.filter (fun x=>decide (rkI ord x<rkI ord mn)) from hx)).2
      exact of_decide_eq_true this
     ·have:=(List.mem_filter.1 (show x ∈ X.filter (fun x=>!decide (rkI ord x<rkI ord mn)) from hx)).2
      simp only [Bool.not_eq_true',decide_eq_false_iff_not] at this
      exact Int.not_lt.1 this
     ·show Asc O (rkI ord) (X.filter _++X.filter _)
      rw [hXs];exact hM.asc
     ·show (X.filter _++X.filter _).length<=_
      rw [hXs];exact hbig
    have hisc:IsC B m d iso ord X F0 mn mxx ex mi lb a wz w0 c:=⟨hok,(by rw [hc];rfl),(by rw [hc];show w0.heap.size<=wa.heap.size;omega),_,_,_,_,_,_,_,_,hc⟩
    have hb5:∀ y,w0.heap.size<=y->y<w7.heap.size->Ext noF w7 wa:=fun _ _ _=>xb
    have hblk:∀ y,blk a=some y->m<y/\y ≠ lb/\(∀ o,¬ F0 y o)/\y<wz.heap.size:=fun y hy=>by
     rcases ha with ⟨rfl,_,_⟩ | ⟨bi,oi,rfl⟩
     ·cases hy
     ·obtain ⟨g1,g2,g3,g4,g5⟩:=hkb bi oi rfl
      cases hy
      exact ⟨g1,g2,g3,wok_lt g4⟩
    have Xz:Ext (fun y o=>y=lb) w0 wa:=((((X4.tr x5).mono fun _ _ _ g=>g.elim).tr x6).tr (x7.mono fun y o _ g=>g.1)).tr (xb.mono fun _ _ _ g=>g.elim)
    have Xa:Ext (fun y o=>y=lb) wz wa:=(((X5.mono fun _ _ _ g=>g.elim).tr x6).tr (x7.mono fun y o _ g=>g.1)).tr (xb.mono fun _ _ _ g=>g.elim)
    have l0a:=xb.rd (x7.rd l1 fun e=>absurd e.2.2 (by decide)) fun g=>g
    have L1a:=xb.rd L1 fun g=>g
    have L2a:=xb.rd L2 fun g=>g
    have L3a:=xb.rd L3 fun g=>g
    have hst:c.St wa (c.DR c.R0) X F0 [] (blk a) (fun _=>[]) (fun _ _ _=>False) c.R0 none mn:=by
     have hwa:=xb.wok hw7
     refine ⟨?_,⟨?_,(by rw [hc];exact hwa),(fun j x y _ hx=>by simp at hx),LQ.nil,(fun e he=>by cases he),(fun hex x=>⟨fun ⟨e,he,_⟩=>(by cases he),fun ⟨g1,g2⟩=>(g2 g1).elim⟩),List.Sublist.refl _,(fun x hx=>.inl hx),(by show 0+_<=_;omega)⟩,?_,(fun y o g=>?_),(fun e he=>by cases he),(fun y hy=>?_),(fun y hy=>by cases hy),(fun x _=>by rw [hc];exact Iff.rfl),(by rw [hc];exact Nat.le_refl _),?_,(fun y o g=>.inl (by rw [hc];exact .inl (.inl ⟨o,g⟩))),(fun y hy=>.inl fun o=>by rw [hc];exact .inl (.inr (.inr (.inr hy))))⟩
     ·rw [hc]
      exact TreeAt.p (hM7.ext xb) fun x _ S _=>.inr fun s _ d hd=>absurd hd.2.1 hd.2.2
     ·rcases hle with ⟨hex,lv,v1,v2⟩ | ⟨hex,v1⟩
      ·refine .inl ⟨by rw [hc];exact hex,0,?_⟩
       rw [hc]
       refine ⟨⟨lv,xb.rd v1 fun g=>g,v2.ext xb fun _ _ g=>g.elim⟩,L1a,L2a,?_,hwa,Nat.le_of_lt mlb,fun y hy=>⟨Nat.le_of_lt (hblk y hy).1,(hblk y hy).2.1⟩⟩
       rcases ha with ⟨rfl,rfl,rfl⟩ | ⟨bi,oi,rfl⟩
       ·exact ⟨rfl,L3a⟩
       ·obtain ⟨g1,g2,g3,g4,g5⟩:=hkb bi oi rfl
        exact ⟨oi,c0,⟨L3a,Row.nil _ _ _,by rw [Eq_sz];exact Xa.wok g4,Nat.zero_le _,hwa,g2⟩,g5⟩
      ·refine .inr ⟨by rw [hc];exact hex,rfl,?_⟩
       rw [hc]
       refine ⟨xb.rd v1 fun g=>g,L1a,L2a,?_⟩
       rcases ha with ⟨rfl,rfl,rfl⟩ | ⟨bi,oi,rfl⟩
       ·exact L3a
       ·exact absurd (hexa hex) (by simp)
     ·rw [hc]
      refine ⟨xb.rd h5 fun g=>g,xb.row h7 fun _ _ g=>g,xb.rd h12 fun g=>g,fun hb e=>?_,ra,xa.wok n9.wok,xb.wok H10⟩
      cases e
      exact (hH8.ext n9.ext fun _ g=>g).ext xa fun o g=>by have:=g.1;omega
     ·rw [hc]
      have hlt:=hM.lt y o g
      rintro (z | z | z | z)
      ·have:wz.heap.size<=y:=z.1
       omega
      ·exact hlF o (by rw [<-(show y=lb from z)];exact g)
      ·exact (hblk y z).2.2.1 o g
      ·cases z
     ·obtain ⟨g1,g2,g3,g4⟩:=hblk y hy
      rw [hc]
      have:=Xa.size
      exact ⟨g1,fun z=>by have:wz.heap.size<=y:=z.1;omega,g2,(by simp),by omega⟩
     ·rw [hc]
      exact Xz.mono fun y o _ g=>.inl (.inr (.inr (.inl g)))
    refine W_qc (f:=Try.f60) (p:=[1,0,1,1,1,1,1,1,1,1,1,1,1]) rfl (restartP hok ⟨X,F0,[],blk a,fun _=>[],fun _ _ _=>False,none,mn,.slice none 0 0,?_,⟨rfl,.inl ⟨rfl,rfl⟩⟩,fun _ _ _ _ g=>(by cases g),hst,by rw [hc];exact hXs.symm⟩ (fun e' w' g1 g2=>?_) fun e' w' R' g1 g2=>?_)
    ·rw [hc]
     exact ⟨by simp only [upd_eq,Nat.reduceEqDiff,↓reduceIte];exact (hg 4 (by omega)).trans f4,by simp only [upd_eq,Nat.reduceEqDiff,↓reduceIte];exact (hg 5 (by omega)).trans f5,by simp only [upd_eq,Nat.reduceEqDiff,↓reduceIte];exact (hg 7 (by omega)).trans f7,by simp only [upd_eq,Nat.reduceEqDiff,↓reduceIte];exact (hg 10 (by omega)).trans f10,by simp only [upd_eq,Nat.reduceEqDiff,↓reduceIte];exact (hg 11 (by omega)).trans f11,by simp only [upd_eq,Nat.reduceEqDiff,↓reduceIte];exact g13,by simp only [upd_eq,Nat.reduceEqDiff,↓reduceIte];rfl,by simp only [upd_eq,Nat.reduceEqDiff,↓reduceIte];rfl,by simp only [upd_eq,Nat.reduceEqDiff,↓reduceIte]⟩
    ·exact hres e' w' c hisc g1 g2
    ·exact jump2_same 0 _ _ _ _ ⟨_,c,R',hisc,rfl,g1⟩
   clear hJ
   have f12':=f12
   obtain ⟨lv,hlv,hls,hB⟩:=hM6.less
   have hstop:stopV b12 w0.heap.size w2.heap.size = .func (.func 95) #[] #[ptr b12,ptr w0.heap.size,ptr w2.heap.size]:=rfl
   have hf13:∀ (u:Env),u 12=ptr b12->u 5=ptr w0.heap.size->u 7=ptr w2.heap.size->True:=fun _ _ _ _=>trivial
   cases hexc:ex with
   | false =>
    rw [hexc] at f11
    refine W_sq fun K hK=>(W_text [true] (by kernel_rfl) ?_);simp only [↓zZ1,↓reduceIte,Nat.reduceEqDiff,rg,ow_60,f11]
    apply hK;clear hK K
    refine W_false (by simp only [zZ2,Nat.reduceEqDiff,↓reduceIte,zZ3]<;>rfl) (W_skip ?_)
    refine hend _ _ (fun k hk=>by simp only [upd_apply];repeat rw [if_neg (by omega)]) ?_ (Ext.refl _ _) rfl (.inr ⟨hexc,l0⟩)
    simp only [upd_eq,Nat.reduceEqDiff,↓reduceIte]
    rw [hstop];simp only [evt,maT,maC,maN,upd_apply,Nat.reduceEqDiff,↓reduceIte,f12,f5,f7]
   | true =>
    rw [hexc] at f11
    refine W_sq fun K hK=>(W_text [true] (by kernel_rfl) ?_);simp only [↓zZ1,↓reduceIte,Nat.reduceEqDiff,rg,ow_60,f11]
    apply hK;clear hK K
    refine W_true (by simp only [zZ2,Nat.reduceEqDiff,↓reduceIte,zZ3]<;>rfl) ?_
    refine W_rg fun K hK=>(W_text [true,true,true,true,true,true,true,false] (by kernel_rfl) ?_);simp only [↓zZ1,↓reduceIte,Nat.reduceEqDiff,rg,ow_60,f4,f5,ptr_eq,q5,hlv]
    obtain ⟨cc,sv0,rfl,hrest'⟩:=hls.ex
    refine do_store (by simp only [zZ2,Nat.reduceEqDiff,↓reduceIte,zZ3]<;>rfl) (by simp only [zZ2,Nat.reduceEqDiff,↓reduceIte,zZ3]<;>rfl) sz_112 rfl hw6 (by decide) (oc_one rfl rfl) fun w7 x7 r7' s7=>⟨trivial,?_⟩
    simp only [↓zZ1,↓reduceIte,Nat.reduceEqDiff,rg,ow_60]
    apply hK;clear hK K
    refine hend _ _ (fun k hk=>by simp only [upd_apply];repeat rw [if_neg (by omega)]) ?_ x7 s7 (.inl ⟨hexc,_,(Row.cons.1 r7').1,hls.ext x7 fun y o g=>.inl (by have:=g.1;omega)⟩)
    simp only [upd_eq,Nat.reduceEqDiff,↓reduceIte]
    rw [hstop];simp only [evt,maT,maC,maN,upd_apply,Nat.reduceEqDiff,↓reduceIte,f12,f5,f7];rfl
  cases ov with
  | none =>
   have g3:f 3 = .pointer none:=f3
   refine W_sq fun K hK=>(W_text [true,true,true,true,true,true,true,true,true,true] (by kernel_rfl) ?_);simp only [↓zZ1,↓reduceIte,Nat.reduceEqDiff,rg,ow_60,g3]
   apply hK;clear hK K
   refine W_sq fun K hK=>(W_text [true,true,true,true,true,true,true,true,false,false] (by kernel_rfl) ?_);simp only [↓zZ1,↓reduceIte,Nat.reduceEqDiff,rg,ow_60,g3]
   refine do_alloc z_bool fun w5 n5=>⟨trivial,?_⟩
   simp only [↓zZ1,↓reduceIte,Nat.reduceEqDiff,rg,ow_60]
   refine do_store (by simp only [zZ2,Nat.reduceEqDiff,↓reduceIte,zZ3]<;>rfl) (by simp only [zZ2,Nat.reduceEqDiff,↓reduceIte,zZ3]<;>rfl) sz_4 rfl n5.wok (by decide) (oc_one rfl rfl) fun w6 x6 r6' s6=>⟨trivial,?_⟩
   simp only [↓zZ1,↓reduceIte,Nat.reduceEqDiff,rg,ow_60]
   apply hK;clear hK K
   refine W_qc (f:=Try.f60) (p:=[1,0,1,1,1]) rfl (hrest _ w6 w4.heap.size (n5.ext.trans x6 (fun _ _ g=>g) fun y o hy g=>by have:=g.1;omega) rfl (by have:=n5.size;omega) (Row.cons.1 r6').1 f4 f5 f6 f7 f10 (by simp only [upd_eq,Nat.reduceEqDiff,↓reduceIte]<;>rfl) (by simp only [upd_eq,Nat.reduceEqDiff,↓reduceIte]<;>rfl))
  | some ob =>
   obtain ⟨o1,o2⟩:=hov ob rfl
   have g3:f 3=ptr ob:=f3
   have o1:=X4.rd o1 fun g=>g
   have o2:=X4.rd o2 fun g=>g
   refine W_sq fun K hK=>(W_text [true,true,true,true,true,true,true,true,true,true] (by kernel_rfl) ?_);simp only [↓zZ1,↓reduceIte,Nat.reduceEqDiff,rg,ow_60,g3,ptr_eq,o1]
   apply hK;clear hK K
   refine W_sq fun K hK=>(W_text [true,true,true,true,true,true,true,true,false,false] (by kernel_rfl) ?_);simp only [↓zZ1,↓reduceIte,Nat.reduceEqDiff,rg,ow_60,g3,ptr_eq,o2]
   refine do_alloc z_bool fun w5 n5=>⟨trivial,?_⟩
   simp only [↓zZ1,↓reduceIte,Nat.reduceEqDiff,rg,ow_60]
   refine do_store (by simp only [zZ2,Nat.reduceEqDiff,↓reduceIte,zZ3]<;>rfl) (by simp only [zZ2,Nat.reduceEqDiff,↓reduceIte,zZ3]<;>rfl) sz_4 rfl n5.wok (by decide) (oc_one rfl rfl) fun w6 x6 r6' s6=>⟨trivial,?_⟩
   simp only [↓zZ1,↓reduceIte,Nat.reduceEqDiff,rg,ow_60]
   apply hK;clear hK K
   refine W_qc (f:=Try.f60) (p:=[1,0,1,1,1]) rfl (hrest _ w6 w4.heap.size (n5.ext.trans x6 (fun _ _ g=>g) fun y o hy g=>by have:=g.1;omega) rfl (by have:=n5.size;omega) (Row.cons.1 r6').1 f4 f5 f6 f7 f10 (by simp only [upd_eq,Nat.reduceEqDiff,↓reduceIte]<;>rfl) (by simp only [upd_eq,Nat.reduceEqDiff,↓reduceIte]<;>rfl))
 ·rintro k e w ⟨c,R,hc,rfl,hT⟩
  refine W_seq (W_skip ?_)
  simp only [andThen_normal]
  refine W_qc (f:=Try.f60) (p:=[1,0,1,1,1,1,1,1,1,1,1,1,1]) rfl (restartP hc.1 hT (fun e' w' g1 g2=>?_) fun e' w' R' g1 g2=>?_)
  ·exact hres e' w' c hc g1 g2
  ·exact jump2_same 0 _ _ _ _ ⟨_,g2,c,R',hc,rfl,g1⟩
theorem z_slT:zK Try.prog 25=some [.slice none 0 0]:=by kernel_rfl
theorem bu_dro (a b:Bool):buildV Try.prog 152 [(0,.bool a),(1,.bool b)]=some (.agg #[.bool a,.bool b]):=by cases a<;>cases b<;>kernel_rfl
theorem ranges_any (p nr mi:Bool) (w:World) :
  CallK Try.prog 61 #[.agg #[.bool p,.bool nr,.bool mi]] w fun v w'=>∃ ov nr' mi',v=oV ov/\Ext noF w w'/\(∀ ob,ov=some ob->rd w' ob 0=some (.bool nr')/\rd w' ob 1=some (.bool mi'))/\(ov.isNone || !nr')=(p || !nr)/\(ov.isSome && mi')=(!p && mi):=by
 refine calls_of_W [.tmp 2] Try.func61 rfl Try.ntmps61 Try.results61 (by simp) fun e he=>?_
 have e0:e 0 = .agg #[.bool p,.bool nr,.bool mi]:=he 0 _ rfl
 clear he
 refine W_sq fun K hK=>(W_text [false,true] (by kernel_rfl) ?_);simp only [↓zZ1,↓reduceIte,Nat.reduceEqDiff,rg,ow_61]
 refine do_box (by simp only [evt];exact e0) fun w1 n1=>⟨trivial,?_⟩
 simp only [↓zZ1,↓reduceIte,Nat.reduceEqDiff,rg,ow_61]
 apply hK;clear hK K
 have R:Row w1 w.heap.size 0 [.bool p,.bool nr,.bool mi]:=n1.row
 have r0:rd w1 w.heap.size 0=some (.bool p):=(Row.cons.1 R).1
 have r1:rd w1 w.heap.size 1=some (.bool nr):=(Row.cons.1 (Row.cons.1 R).2).1
 have r2:rd w1 w.heap.size 2=some (.bool mi):=(Row.cons.1 (Row.cons.1 (Row.cons.1 R).2).2).1
 refine W_seq ?_
 refine W_sq fun K hK=>(W_text [true,true] (by kernel_rfl) ?_);simp only [↓zZ1,↓reduceIte,Nat.reduceEqDiff,rg,ow_61,ptr_eq,r0]
 apply hK;clear hK K
 cases p with
 | true =>
  refine W_true (by simp only [zZ2,Nat.reduceEqDiff,↓reduceIte,zZ3]<;>rfl) ?_
  refine W_sq fun K hK=>(W_text [true] (by kernel_rfl) ?_);simp only [↓zZ1,↓reduceIte,Nat.reduceEqDiff,rg,ow_61]
  apply hK;clear hK K
  refine W_ret ?_
  simp only [andThen_ret]
  exact endQ_1 (by simp only [upd_eq,Nat.reduceEqDiff,↓reduceIte]<;>rfl) ⟨none,false,false,rfl,n1.ext,fun ob h=>(by cases h),rfl,rfl⟩
 | false =>
  refine W_false (by simp only [zZ2,Nat.reduceEqDiff,↓reduceIte,zZ3]<;>rfl) (W_skip ?_)
  simp only [andThen_normal]
  refine W_sq fun K hK=>(W_text [true,true,true,true,true,false,true] (by kernel_rfl) ?_);simp only [↓zZ1,↓reduceIte,Nat.reduceEqDiff,rg,ow_61,ptr_eq,r1,r2,bu_dro]
  refine do_box (v:=.agg #[.bool nr,.bool mi]) (by simp only [evt,maT,maC,maN,upd_apply,Nat.reduceEqDiff,↓reduceIte]) fun w2 n2=>⟨trivial,?_⟩
  simp only [↓zZ1,↓reduceIte,Nat.reduceEqDiff,rg,ow_61]
  apply hK;clear hK K
  have R2:Row w2 w1.heap.size 0 [.bool nr,.bool mi]:=n2.row
  refine W_ret (endQ_1 (by simp only [upd_eq,Nat.reduceEqDiff,↓reduceIte]<;>rfl) ⟨some w1.heap.size,nr,mi,rfl,n1.ext.tr n2.ext,fun ob h=>?_,rfl,rfl⟩)
  cases h
  exact ⟨(Row.cons.1 R2).1,(Row.cons.1 (Row.cons.1 R2).2).1⟩
set_option maxHeartbeats 1600000 in
set_option maxRecDepth 8000 in
theorem scanned_some (B M:Nat) (iso:Int) (mn mx:Nat) (ord:List Int) (xb:Nat) (lv:Value) (q:List Qe) (sg:Qe->List It) (fp:Qe->Nat->Nat->Prop) (bi oi cap:Nat) (w0:World) (S0:SE Eq' w0 xb 3 q bi oi cap) (hcap:cap<9223372036854775808) (hlv:rd w0 xb 0=some lv) (hls:LessAt B M w0 lv ord) (hnp:rd w0 xb 2=some (.int .i64 0))
  (hlM:M<=xb) (hbM:M<=bi) (hwk:wok w0 xb 4) (hbig:q.length<=2147483648) (hh:Heap (leE ord) q) (hent:∀ e ∈ q,Ent iso mn mx w0 e (sg e) (fp e)) (hfp:∀ e ∈ q,∀ y o,fp e y o->y ≠ xb/\y ≠ bi/\y<w0.heap.size) (hlen:(runQ Prod.fst sg q).length<=4294967295) :
  CallK Try.prog 62 #[ptr xb] w0 fun v w'=>∃ ps:List Qe,ps.Perm q/\ps.Pairwise (leE ord)/\SlI w' v (runQ Prod.fst sg ps)/\since w0.heap.size v/\Ext (fun y _=>y=xb\/y=bi) w0 w':=by
 have hxl:=wok_lt hwk
 have hbl:=wok_lt S0.wi
 refine calls_of_W [.tmp 2] Try.func62 rfl Try.ntmps62 Try.results62 (by simp) fun e he=>?_
 have e0:e 0=ptr xb:=he 0 _ rfl
 clear he
 refine W_sq fun K hK=>(W_text [true] (by kernel_rfl) ?_);simp only [↓zZ1,↓reduceIte,Nat.reduceEqDiff,rg,ow_62]
 apply hK;clear hK K
 refine W_sq fun K hK=>(W_text [false] (by kernel_rfl) ?_);simp only [↓zZ1,↓reduceIte,Nat.reduceEqDiff,rg,ow_62]
 refine do_alloc z_slT fun w1 n1=>⟨trivial,?_⟩
 simp only [↓zZ1,↓reduceIte,Nat.reduceEqDiff,rg,ow_62]
 apply hK;clear hK K
 have s1:=n1.size
 refine W_sq fun K hK=>(W_text [true,false,false] (by kernel_rfl) ?_);simp only [↓zZ1,↓reduceIte,Nat.reduceEqDiff,rg,ow_62,e0]
 refine do_call fn_100 (by simp only [zZ2,Nat.reduceEqDiff,↓reduceIte,zZ4]<;>rfl) (taker_mk w0.heap.size 0 w1) ?_
 rintro _ w2 ⟨rfl,x2,p2,q2,s2⟩
 refine ⟨trivial,?_⟩
 simp only [↓zZ1,↓reduceIte,Nat.reduceEqDiff,rg,ow_62]
 have X2:=n1.ext.tr x2
 have r1:rd w2 w0.heap.size 0=some (.slice none 0 0):=x2.rd (Row.cons.1 n1.row).1 fun g=>g
 have hKp:Kept w2.heap.size w0.heap.size [] w2:=⟨⟨.slice none 0 0,r1,⟨rfl,.inl ⟨rfl,rfl⟩⟩,fun _ _ _ _ h=>by cases h⟩,x2.wok n1.wok,by omega,Nat.le_refl _⟩
 refine do_call fn_99 (vs:=#[ptr xb,takeV w1.heap.size (w1.heap.size+1)]) (by simp only [zZ2,Nat.reduceEqDiff,↓reduceIte,zZ4]<;>rfl) (lscan_any B M iso mn mx ord xb lv q sg fp bi oi cap w2 (S0.ext0 X2) hcap (X2.rd hlv fun g=>g) (hls.ext X2 fun _ _ g=>g.elim) (X2.rd hnp fun g=>g) hlM hbM (X2.wok hwk) hbig hh (fun e he=>(hent e he).ext X2 fun _ _ _ g=>g) (fun e he y o g=>⟨(hfp e he y o g).1,(hfp e he y o g).2.1⟩)
  _ #[] #[ptr w1.heap.size,ptr (w1.heap.size+1)] fn_take (outF w2.heap.size w0.heap.size) (ownR w0.heap.size) (TS w0.heap.size w1.heap.size (w1.heap.size+1) w2.heap.size 0) (upTo 0) (fun done x w h hl=>cb_takeR w0.heap.size w1.heap.size (w1.heap.size+1) w2.heap.size 0 (by omega) (by omega) (by omega) (by omega) done x w h hl) (fun done w y o h g=>TS.lt h g) (fun done w w' h x=>⟨h.1.ext x,x.rd h.2.1 fun g=>g,x.rd h.2.2 fun g=>g⟩)
  (fun done w w' h x y o g=>TS.st h x (fun o g=>by rcases g with g | g<;>omega) g) (fun l=>by simp [upTo]) (fun o g=>by rcases g with g | g<;>omega) (fun o g=>by rcases g with g | g<;>omega) (fun e he y o o' g k=>by have:=(hfp e he y o g).2.2;rcases k with k | k<;>omega) (fun y o k=>.inl (by rcases k with k | k<;>omega))
  (fun done w w' h x=>TS.ext h x fun y o g=>by rcases g with g | g<;>omega) ⟨hKp,p2,q2⟩ hlen) ?_
 rintro _ w3 ⟨ps,g1,g2,g3,g4⟩
 refine ⟨trivial,?_⟩
 simp only [↓zZ1,↓reduceIte,Nat.reduceEqDiff,rg,ow_62]
 apply hK;clear hK K
 obtain ⟨sv,v1,v2,v3⟩:=g3.1.var
 refine W_sq fun K hK=>(W_text [true,true] (by kernel_rfl) ?_);simp only [↓zZ1,↓reduceIte,Nat.reduceEqDiff,rg,ow_62,ptr_eq,v1]
 apply hK;clear hK K
 refine W_ret (endQ_1 (by simp only [upd_eq,Nat.reduceEqDiff,↓reduceIte]<;>rfl) ⟨ps,g1,g2,v2,?_,?_⟩)
 ·intro b o n c h
  have:=v3 b o n c h
  omega
 ·refine X2.trans g4 (fun _ _ g=>g.elim) fun y o hy g=>?_
  rcases g with (g | g) | g | g
  ·omega
  ·omega
  ·exact .inl g.1
  ·exact .inr g
set_option maxHeartbeats 1600000 in
set_option maxRecDepth 8000 in
theorem scanned_none (xb n c:Nat) (a:Option Addr) (w0:World) (hxl:xb<w0.heap.size) (hq:rd w0 xb 3=some (.slice a (0:Nat) c)) (hn:rd w0 xb 2=some (.int .i64 0)) (hac:(a=none/\c=0)\/∃ bi oi,a=some ⟨bi,oi,none⟩) :
  CallK Try.prog 62 #[ptr xb] w0 fun v w'=>v = .slice none 0 0/\Ext noF w0 w':=by
 refine calls_of_W [.tmp 2] Try.func62 rfl Try.ntmps62 Try.results62 (by simp) fun e he=>?_
 have e0:e 0=ptr xb:=he 0 _ rfl
 clear he
 refine W_sq fun K hK=>(W_text [true] (by kernel_rfl) ?_);simp only [↓zZ1,↓reduceIte,Nat.reduceEqDiff,rg,ow_62]
 apply hK;clear hK K
 refine W_sq fun K hK=>(W_text [false] (by kernel_rfl) ?_);simp only [↓zZ1,↓reduceIte,Nat.reduceEqDiff,rg,ow_62]
 refine do_alloc z_slT fun w1 n1=>⟨trivial,?_⟩
 simp only [↓zZ1,↓reduceIte,Nat.reduceEqDiff,rg,ow_62]
 apply hK;clear hK K
 have s1:=n1.size
 refine W_sq fun K hK=>(W_text [true,false,false] (by kernel_rfl) ?_);simp only [↓zZ1,↓reduceIte,Nat.reduceEqDiff,rg,ow_62,e0]
 refine do_call fn_100 (by simp only [zZ2,Nat.reduceEqDiff,↓reduceIte,zZ4]<;>rfl) (taker_mk w0.heap.size 0 w1) ?_
 rintro _ w2 ⟨rfl,x2,p2,q2,s2⟩
 refine ⟨trivial,?_⟩
 simp only [↓zZ1,↓reduceIte,Nat.reduceEqDiff,rg,ow_62]
 have X2:=n1.ext.tr x2
 have r1:rd w2 w0.heap.size 0=some (.slice none 0 0):=x2.rd (Row.cons.1 n1.row).1 fun g=>g
 refine do_call fn_99 (vs:=#[ptr xb,takeV w1.heap.size (w1.heap.size+1)]) (by simp only [zZ2,Nat.reduceEqDiff,↓reduceIte,zZ4]<;>rfl) (scan_nil xb c a _ w2 (X2.rd hq fun g=>g) (X2.rd hn fun g=>g) hac) ?_
 rintro _ w3 g4
 refine ⟨trivial,?_⟩
 simp only [↓zZ1,↓reduceIte,Nat.reduceEqDiff,rg,ow_62]
 apply hK;clear hK K
 have v1:=g4.rd r1 fun g=>g
 refine W_sq fun K hK=>(W_text [true,true] (by kernel_rfl) ?_);simp only [↓zZ1,↓reduceIte,Nat.reduceEqDiff,rg,ow_62,ptr_eq,v1]
 apply hK;clear hK K
 exact W_ret (endQ_1 (by simp only [upd_eq,Nat.reduceEqDiff,↓reduceIte]<;>rfl) ⟨rfl,X2.tr g4⟩)
def inI (ord:List Int) (mi:Bool) (mn mx x:It):Bool:=!decide (rkI ord x<rkI ord mn) && !stopI ord mi mx x
variable {c:RgC} {w w':World} {xs:List It} {F:Nat->Nat->Prop} {q:List Qe} {kb:Option Nat} {sg:Qe->List It} {fp:Qe->Nat->Nat->Prop} {R:List It} {sb:Option Nat} {pv:It}
theorem RgC.all (ok:c.Ok):(c.Lx++c.R0).Pairwise fun a b=>c.κ a<c.κ b:=ok.asc.imp fun g=>ltO.1 g
theorem RgC.St.left (ok:c.Ok) (st:c.St w (c.DR R) xs F q kb sg fp R sb pv) (eq:xs=c.Lx++R) (hs:∀ x ∈ R,stopI c.ord c.mi c.mxi x=true):xs=(c.Lx++c.R0).filter (fun x=>decide (c.κ x<c.lo) || stopI c.ord c.mi c.mxi x):=by
 have ha:=RgC.all ok
 have hxs:xs.Sublist (c.Lx++c.R0):=by rw [eq];exact List.Sublist.append_left st.qs.sub _
 refine sorted_eq (κ:=c.κ) (ha.sublist hxs) (ha.sublist List.filter_sublist) fun x=>?_
 rw [eq,List.mem_append,List.mem_filter,List.mem_append,Bool.or_eq_true,decide_eq_true_eq]
 constructor
 ·rintro (h | h)
  ·exact ⟨.inl h,.inl (ok.low x h)⟩
  ·exact ⟨.inr (st.qs.sub.subset h),.inr (hs x h)⟩
 ·rintro ⟨h | h,g⟩
  ·exact .inl h
  ·rcases st.qs.gone x h with k | k
   ·exact .inr k
   ·rcases g with g | g
    ·have:=ok.high x h;omega
    ·rw [k] at g;cases g
theorem RgC.St.goneL (ok:c.Ok) (st:c.St w (c.DR R) xs F q kb sg fp R sb pv) (hs:∀ x ∈ R,stopI c.ord c.mi c.mxi x=true) (hex:c.ex=true) {ps:List Qe} (hp:ps.Perm q) (hps:ps.Pairwise (leE c.ord)):runQ Prod.fst sg ps=c.R0.filter (fun x=>!stopI c.ord c.mi c.mxi x):=by
 have ha:=(List.pairwise_append.1 (RgC.all ok)).2.1
 obtain ⟨h1,h2⟩:=st.qs.lq.run hp (hps.imp fun g=>leE_asc.1 g)
 refine sorted_eq (κ:=c.κ) h1 (ha.sublist List.filter_sublist) fun x=>?_
 rw [h2,st.qs.full hex x,List.mem_filter,Bool.not_eq_true']
 constructor
 ·rintro ⟨g1,g2⟩
  exact ⟨g1,(st.qs.gone x g1).resolve_left g2⟩
 ·rintro ⟨g1,g2⟩
  exact ⟨g1,fun g=>by rw [hs x g] at g2;cases g2⟩
structure LbAt (m:Nat) (F:Nat->Nat->Prop) (lb:Nat) (w:World) (a:Option Addr) (n c0:Nat):Prop where
 wk:wok w lb 4
 hq:rd w lb 3=some (.slice a n c0)
 ha:okA a n c0
 hn:n<=c0
 ml:m<lb
 lF:∀ o,¬ F lb o
 kb:∀ bi oi,a=some ⟨bi,oi,none⟩->m<bi/\bi ≠ lb/\(∀ o,¬ F bi o)/\wok w bi (oi+c0*3)/\c0<9223372036854775808
theorem LbAt.ext {m:Nat} {F G:Nat->Nat->Prop} {lb:Nat} {a:Option Addr} {n c0:Nat} (h:LbAt m F lb w a n c0) (x:Ext G w w') (hG:∀ o,¬ G lb o):LbAt m F lb w' a n c0 :=
 ⟨x.wok h.wk,x.rd h.hq (hG _),h.ha,h.hn,h.ml,h.lF,fun bi oi e=>by obtain ⟨g1,g2,g3,g4,g5⟩:=h.kb bi oi e;exact ⟨g1,g2,g3,x.wok g4,g5⟩⟩
structure RgR (B m d:Nat) (iso:Int) (ord:List Int) (X:List It) (F0:Nat->Nat->Prop) (mn mxx:It) (ex mi:Bool) (lb:Nat) (a:Option Addr) (wz w0:World) (F':Nat->Nat->Prop) (a':Option Addr) (n' c':Nat) (lv:Value) (cnt:Int) (v:Value) (w':World):Prop where
 v:v = .agg #[lv,.int .i64 cnt,.int .i64 0,.slice a' (n':Nat) c']
 x:Ext (fun y _=>(∃ o,F0 y o)\/y=m\/y=lb\/blk a=some y) wz w'
 y:Ext (fun y _=>((∃ o,F0 y o)\/y=m\/y=lb\/blk a=some y)\/wz.heap.size<=y) w0 w'
 t:TreeAt B ord w' m d iso (X.filter fun x=>!inI ord mi mn mxx x) F'
 l:LbAt m F' lb w' a' n' c'
 F:∀ y o,F' y o->((∃ o,F0 y o)\/y=m\/y=lb\/blk a=some y)\/wz.heap.size<=y
 k:∀ y,blk a'=some y->((∃ o,F0 y o)\/y=m\/y=lb\/blk a=some y)\/wz.heap.size<=y
 fS:∀ y o,F' y o->¬ (wz.heap.size<=y/\y<w0.heap.size)
 kS:∀ y,blk a'=some y->¬ (wz.heap.size<=y/\y<w0.heap.size)/\y<w'.heap.size
 ea:ex=false->a'=none
 oc:oc [lv,.int .i64 cnt,.int .i64 0,.slice a' (n':Nat) c']
 s:∀ w2 xb,Ext (fun y _=>y=xb\/y=lb) w' w2->((wz.heap.size<=xb/\xb<w0.heap.size)\/w'.heap.size<=xb\/(m<xb/\xb<wz.heap.size/\(∀ o,¬ F0 xb o)/\xb ≠ lb/\blk a ≠ some xb))->Row w2 xb 0 [lv,.int .i64 cnt,.int .i64 0,.slice a' (n':Nat) c']->wok w2 xb 4 →
  CallK Try.prog 62 #[ptr xb] w2 fun v w3=>SlI w3 v (if ex then X.filter (inI ord mi mn mxx) else [])/\since w2.heap.size v/\Ext (fun y _=>y=xb\/blk a'=some y) w2 w3
theorem oc_list {lv:Value} (h:lv.oneCell'=true) (cnt:Int) (a:Option Addr) (n c:Nat):oc [lv,.int .i64 cnt,.int .i64 0,.slice a (n:Nat) c]:=fun v hv=>by
 simp at hv
 rcases hv with rfl | rfl | rfl | rfl
 ·exact h
 ·rfl
 ·rfl
 ·rfl
set_option maxHeartbeats 1600000 in
theorem range_res (B m d:Nat) (iso:Int) (ord:List Int) (hd:2<=d) (hd':d<=128) (X:List It) (F0:Nat->Nat->Prop) (wz w0:World) (xz:Ext noF wz w0) (hM:TreeAt B ord wz m d iso X F0) (hbig:X.length<=2147483647) (mn mxx:It) (ov:Option Nat) (nr mi0:Bool) (hov:∀ ob,ov=some ob->rd w0 ob 0=some (.bool nr)/\rd w0 ob 1=some (.bool mi0))
  (lb n c0:Nat) (a:Option Addr) (hl:LbAt m F0 lb wz a n c0) (ex mi:Bool) (hex:(ov.isNone || !nr)=ex) (hmi:(ov.isSome && mi0)=mi) (hexa:ex=false->a=none) :
  CallK Try.prog 60 #[ptr m,itV mn,itV mxx,oV ov,ptr lb] w0 fun v w'=>∃ F' a' n' c' lv cnt,RgR B m d iso ord X F0 mn mxx ex mi lb a wz w0 F' a' n' c' lv cnt v w':=by
 refine CallK_mono (range_any B m d iso ord hd hd' X F0 wz w0 xz hM hbig mn mxx ov nr mi0 hov lb n c0 a hl.wk hl.hq hl.ha hl.hn hl.ml hl.lF hl.kb (by rw [hex];exact hexa)) ?_
 rw [hex,hmi]
 rintro v w' ⟨c,⟨ok,eS0,eS1,S0,S1,b5,b7,b10,b12,b14,b15,hc⟩,xs,F,q,kb,sg,fp,R,sb,pv,lv,cnt,qs,st,eq,hs,row,rfl⟩
 have hasc:X.Pairwise fun a b=>rkI ord a<rkI ord b:=hM.asc.imp fun g=>ltO.1 g
 have hX:c.Lx++c.R0=X:=by rw [hc];exact filter_split (κ:=rkI ord) (lo:=rkI ord mn) hasc
 have hR0:c.R0=X.filter (fun x=>!decide (rkI ord x<rkI ord mn)):=by rw [hc];rfl
 have eB:c.B=B:=by rw [hc];rfl
 have em:c.m=m:=by rw [hc];rfl
 have ed:c.d=d:=by rw [hc];rfl
 have ei:c.iso=iso:=by rw [hc];rfl
 have eo:c.ord=ord:=by rw [hc];rfl
 have el:c.lb=lb:=by rw [hc];rfl
 have emi:c.mi=mi:=by rw [hc];rfl
 have eex:c.ex=ex:=by rw [hc];rfl
 have emx:c.mxi=mxx:=by rw [hc];rfl
 have elo:c.lo=rkI ord mn:=by rw [hc];rfl
 have ew:c.w0=w0:=by rw [hc];rfl
 have eG:c.G0=fun y _=>((∃ o,F0 y o)\/y=m\/y=lb\/blk a=some y)\/wz.heap.size<=y:=by rw [hc];rfl
 have hleft:=st.left ok eq hs
 rw [hX,eo,emi,emx,elo] at hleft
 have hfun:(fun x=>decide (rkI ord x<rkI ord mn) || stopI ord mi mxx x)=fun x=>!inI ord mi mn mxx x:=by
  funext x;unfold inI;simp
 rw [show (fun x=>decide (c.κ x<rkI ord mn) || stopI ord mi mxx x)=fun x=>decide (rkI ord x<rkI ord mn) || stopI ord mi mxx x from by funext x;rw [show c.κ x=rkI ord x from by show rkI c.ord x=_;rw [eo]],hfun] at hleft
 have hin:c.R0.filter (fun x=>!stopI c.ord c.mi c.mxi x)=X.filter (inI ord mi mn mxx):=by
  rw [hR0,eo,emi,emx,List.filter_filter]
  congr 1
  funext x;unfold inI;exact Bool.and_comm _ _
 have htr:=TreeAtP.t st.tr
 rw [eB,eo,em,ed,ei,hleft] at htr
 have hby:=st.base
 rw [ew,eG] at hby
 have hzw:=xz.size
 have hbase:Ext (fun y _=>(∃ o,F0 y o)\/y=m\/y=lb\/blk a=some y) wz w':=xz.trans hby (fun _ _ g=>g.elim) fun y o hy g=>g.resolve_right (by omega)
 rw [el] at row
 have r0:=(Row.cons.1 row).1
 have r3:=(Row.cons.1 (Row.cons.1 (Row.cons.1 (Row.cons.1 row).2).2).2).1
 have hwk:=st.qs.wk
 rw [el] at hwk
 have hml:m<lb:=hl.ml
 have hlF:∀ o,¬ F lb o:=fun o g=>st.apF _ _ g (.inr (.inl el.symm))
 have hF:∀ y o,F y o->((∃ o,F0 y o)\/y=m\/y=lb\/blk a=some y)\/wz.heap.size<=y:=fun y o g=>by
  have:=st.old y o g
  rw [eG,ew] at this
  rcases this with (g | g) | g
  ·exact .inl g
  ·exact .inr g
  ·exact .inr (by omega)
 have hfS:∀ y o,F y o->¬ (wz.heap.size<=y/\y<w0.heap.size):=fun y o g k=>st.apF y o g (.inl ⟨by rw [eS0];exact k.1,Nat.lt_of_lt_of_le k.2 eS1⟩)
 rcases st.qs.li with ⟨hexc,cn,L⟩ | ⟨hexc,hq0,L⟩
 ·rw [eex] at hexc
  have hL:=L
  obtain ⟨⟨lv',l1,l2⟩,l3,l4,l5,l6,l7,l8⟩:=L
  rw [el] at l1 l3 l4 l5
  cases l1.symm.trans r0
  have hoc:lv.oneCell'=true:=by
   obtain ⟨c0,s0,rfl,_⟩:=l2.ex
   rfl
  cases kb with
  | none =>
   obtain ⟨q0,q3⟩:=l5
   rw [show (0+1+1+1:Nat)=3 from rfl] at r3
   cases q3.symm.trans r3
   refine ⟨F,none,0,0,lv,cnt,rfl,hbase,hby,htr,⟨hwk,q3,.inl ⟨rfl,rfl,rfl⟩,Nat.le_refl _,hml,hlF,fun bi oi e=>(by cases e)⟩,hF,fun y e=>(by cases e),hfS,fun y e=>(by cases e),fun _=>rfl,oc_list hoc _ _ _ _,fun w2 xb x2 hxb hr hw=>?_⟩
   have hg:=st.goneL ok hs (by rw [eex];exact hexc) (ps:=[]) (by rw [q0]) List.Pairwise.nil
   refine CallK_mono (scanned_none xb 0 0 none w2 (wok_lt hw) (Row.cons.1 (Row.cons.1 (Row.cons.1 (Row.cons.1 hr).2).2).2).1 (Row.cons.1 (Row.cons.1 (Row.cons.1 hr).2).2).1 (.inl ⟨rfl,rfl⟩)) ?_
   rintro _ w3 ⟨rfl,x3⟩
   rw [hexc,if_pos rfl,<-hin,<-hg]
   exact ⟨⟨rfl,.inl ⟨rfl,rfl⟩⟩,fun _ _ _ _ h=>(by cases h),x3.mono fun _ _ _ g=>g.elim⟩
  | some bi =>
   obtain ⟨oi,cap,S,hcap⟩:=l5
   rw [show (0+1+1+1:Nat)=3 from rfl] at r3
   cases S.hd.symm.trans r3
   obtain ⟨k1,k2,k3,k4,k5⟩:=st.kbs bi rfl
   rw [em] at k1;rw [el] at k3
   refine ⟨F,some ⟨bi,oi,none⟩,q.length,cap,lv,cnt,rfl,hbase,hby,htr,⟨hwk,S.hd,.inr ⟨bi,oi,rfl⟩,S.le,hml,hlF,fun bi' oi' e=>?_⟩,hF,fun y e=>?_,hfS,fun y e=>?_,fun h=>(by rw [hexc] at h;cases h),oc_list hoc _ _ _ _,fun w2 xb x2 hxb hr hw=>?_⟩
   ·cases e
    exact ⟨k1,k3,fun o g=>st.apF _ _ g (.inr (.inr (.inl rfl))),S.wi,hcap⟩
   ·cases e
    have:=st.kbo bi rfl
    rw [eG,ew] at this
    rcases this with g | g
    ·exact g 0
    ·exact .inr (Nat.le_trans hzw g)
   ·cases e
    exact ⟨fun k=>k2 ⟨by rw [eS0];exact k.1,Nat.lt_of_lt_of_le k.2 eS1⟩,k5⟩
   have hq4:rd w2 xb 3=some (.slice (some ⟨bi,oi,none⟩) q.length cap):=(Row.cons.1 (Row.cons.1 (Row.cons.1 (Row.cons.1 hr).2).2).2).1
   have hxbi:bi ≠ xb:=fun e=>by
    rcases hxb with g | g | ⟨g,gz,gF,gl,ga⟩
    ·exact k2 ⟨by rw [eS0];omega,by omega⟩
    ·omega
    ·have:=st.kbo bi rfl
     rw [eG,ew] at this
     rcases this with k | k
     ·rcases k 0 with (⟨o',k⟩ | k | k | k) | k
      ·exact gF o' (by rw [<-e];exact k)
      ·omega
      ·omega
      ·exact ga (by rw [<-e];exact k)
      ·omega
     ·omega
   have hxm:m<xb:=by
    have:=hM.mlt
    have:=hbase.size
    rcases hxb with g | g | g<;>omega
   have hxe:∀ e ∈ q,∀ o,¬ fp e xb o:=fun e he o g=>by
    obtain ⟨g1,g2,g3,g4,g5⟩:=st.apq e he xb o g
    rcases hxb with h | h | ⟨gm,gz,gF,gl,ga⟩
    ·exact g1 (.inl ⟨by rw [eS0];omega,by omega⟩)
    ·omega
    ·rw [eG,ew] at g5
     rcases g5 with ((⟨o',k⟩ | k | k | k) | k) | k
     ·exact gF o' k
     ·omega
     ·exact gl k
     ·exact ga k
     ·omega
     ·omega
   have S2:SE Eq' w2 xb 3 q bi oi cap:=⟨hq4,x2.row S.row fun i _ g=>g.elim hxbi k3,x2.wok S.wi,S.le,hw,hxbi⟩
   have hlen:=st.qs.num
   have hb:=ok.big
   rw [List.length_append] at hb
   have hml':=hM.mlt
   refine CallK_mono (scanned_some B m iso (d-1) (2*d-1) ord xb lv q sg fp bi oi cap w2 S2 hcap (Row.cons.1 hr).1 ?_ (Row.cons.1 (Row.cons.1 (Row.cons.1 hr).2).2).1 ?_ (Nat.le_of_lt k1) hw ?_ ?_ (fun e he=>?_) (fun e he y o g=>?_) (by omega)) ?_
   ·rw [eB,em,eo] at l2;exact l2.ext x2 fun y o g=>.inl (by rcases g with g | g<;>omega)
   ·omega
   ·have:=runQ_len (sg:=sg) (q:=q);omega
   ·rw [<-eo];exact st.qs.hp
   ·have:=st.qs.ent e he
    rw [ei,ed] at this
    exact this.ext x2 fun y o g k=>by
     rcases k with k | k
     ·exact hxe e he o (by rw [<-k];exact g)
     ·exact (st.apq e he y o g).1 (.inr (.inl (by rw [el];exact k)))
   ·obtain ⟨g1,g2,g3,g4,g5⟩:=st.apq e he y o g
    have:=x2.size
    exact ⟨fun e'=>hxe e he o (by rw [<-e'];exact g),fun e=>g1 (.inr (.inr (.inl (by rw [e])))),by omega⟩
   rintro v w3 ⟨ps,g1,g2,g3,g4,g5⟩
   have hg:=st.goneL ok hs (by rw [eex];exact hexc) g1 (by rw [eo];exact g2)
   rw [hexc,if_pos rfl,<-hin,<-hg]
   exact ⟨g3,g4,g5.mono fun y o _ g=>g.imp id fun e=>by rw [e];rfl⟩
 ·rw [eex] at hexc
  obtain ⟨l1,l2,l3,l4⟩:=L
  rw [el] at l1 l2 l3 l4
  rw [show (0+1+1+1:Nat)=3 from rfl] at r3
  cases l4.symm.trans r3
  have hoc:lv.oneCell'=true:=by
   cases l1.symm.trans r0
   rfl
  refine ⟨F,none,0,0,lv,cnt,rfl,hbase,hby,htr,⟨hwk,l4,.inl ⟨rfl,rfl,rfl⟩,Nat.le_refl _,hml,hlF,fun bi oi e=>(by cases e)⟩,hF,fun y e=>(by cases e),hfS,fun y e=>(by cases e),fun _=>rfl,oc_list hoc _ _ _ _,fun w2 xb x2 hxb hr hw=>?_⟩
  refine CallK_mono (scanned_none xb 0 0 none w2 (wok_lt hw) (Row.cons.1 (Row.cons.1 (Row.cons.1 (Row.cons.1 hr).2).2).2).1 (Row.cons.1 (Row.cons.1 (Row.cons.1 hr).2).2).1 (.inl ⟨rfl,rfl⟩)) ?_
  rintro _ w3 ⟨rfl,x3⟩
  rw [hexc,if_neg (by decide)]
  exact ⟨⟨rfl,.inl ⟨rfl,rfl⟩⟩,fun _ _ _ _ h=>(by cases h),x3.mono fun _ _ _ g=>g.elim⟩
end Go.Proofs.Ytbnnkcofnmipoaa
namespace Go.Proofs.Ytbnnkcofnmipoaa
open Go Go.Proofs
abbrev Hd:=Option Addr × Nat × Nat
def hdV (h:Hd):Value:=.slice h.1 (h.2.1:Nat) h.2.2
def Ehd:Enc Hd where
 cel h:=[hdV h]
 sz:=1
 len _:=rfl
 one x v hv:=by simp at hv;subst hv;rfl
 pos:=by decide
theorem hdV_of {w:World} {v:Value} {l:List It} (h:SlI w v l):∃ x:Hd,v=hdV x:=by
 obtain ⟨a,c,h⟩:=SlV.shape h
 exact ⟨(a,l.length,c),h⟩
theorem hdV_at {w:World} {b o:Nat} {l:List Hd} (h:Row w b o (flat Ehd l)) {i:Nat} {x:Hd} (hi:l[i]? = some x):rd w b (o+i)=some (hdV x):=by
 have:=row_cell (row_at Ehd h hi) (j:=0) rfl
 rwa [show Ehd.sz=1 from rfl,Nat.mul_one] at this
def inK (K:Nat->Prop) (v:Value):Prop:=∀ b o n c,v = .slice (some ⟨b,o,none⟩) n c->K b
theorem SlV.extK {w w':World} {G:Nat->Nat->Prop} {sz n:Nat} {v:Value} {l:List Value} {K:Nat->Prop} (h:SlV w sz v n l) (hk:inK K v) (x:Ext G w w') (hG:∀ y o,K y->¬ G y o):SlV w' sz v n l :=
 h.ext x fun b o c hv i _ g=>hG b _ (hk _ _ _ _ hv) g
structure LL (K:Nat->Prop) (w:World) (v:Value) (hs:List Hd) (ls:List (List It)):Prop where
 len:hs.length=ls.length
 sl:SlV w 1 v hs.length (flat Ehd hs)
 vk:inK K v
 el:∀ (i:Nat) (h:Hd) (l:List It),hs[i]? = some h->ls[i]? = some l->SlI w (hdV h) l/\inK K (hdV h)/\apart2 v (hdV h)
theorem LL.ext {K:Nat->Prop} {w w':World} {v:Value} {hs:List Hd} {ls:List (List It)} {G:Nat->Nat->Prop} (h:LL K w v hs ls) (x:Ext G w w') (hG:∀ y o,K y->¬ G y o):LL K w' v hs ls :=
 ⟨h.len,h.sl.extK h.vk x hG,h.vk,fun i a l h1 h2=>by obtain ⟨g1,g2,g3⟩:=h.el i a l h1 h2;exact ⟨SlV.extK g1 g2 x hG,g2,g3⟩⟩
theorem LL.nil (K:Nat->Prop) (w:World):LL K w (.slice none 0 0) [] []:=⟨rfl,⟨by simp [flat],.inl ⟨rfl,rfl⟩⟩,fun b o n c h=>(by cases h),fun i h l h1=>(by simp at h1)⟩
theorem LL.mono {K K':Nat->Prop} {w:World} {v:Value} {hs:List Hd} {ls:List (List It)} (h:LL K w v hs ls) (hK:∀ y,K y->K' y):LL K' w v hs ls :=
 ⟨h.len,h.sl,fun b o n c e=>hK _ (h.vk b o n c e),fun i a l h1 h2=>by obtain ⟨g1,g2,g3⟩:=h.el i a l h1 h2;exact ⟨g1,fun b o n c e=>hK _ (g2 b o n c e),g3⟩⟩
theorem LL.push {K:Nat->Prop} {w w':World} {v v':Value} {hs:List Hd} {ls:List (List It)} {h0:Hd} {l0:List It} (h:LL K w v hs ls) (h1:SlI w (hdV h0) l0) (hk:inK K (hdV h0)) (hap:apart2 v (hdV h0)) (a:AppRes w 1 v hs.length 1 (flat Ehd hs) [hdV h0] v' w') :
  LL (fun y=>K y\/(y=w.heap.size/\y<w'.heap.size)) w' v' (hs++[h0]) (ls++[l0])/\Ext (fun y _=>K y) w w':=by
 have X:Ext (fun y _=>K y) w w':=(app_own a).mono fun y o _ ⟨o',n,c,g⟩=>h.vk _ _ _ _ g
 refine ⟨⟨by simp [h.len],?_,fun b o n c e=>?_,fun i x l g1 g2=>?_⟩,X⟩
 ·rw [List.length_append,List.length_singleton,flat_append,flat_one]
  exact a.1
 ·rcases a.2 with ⟨rfl,rfl,e0⟩ | ⟨b0,o0,cap,e0,e1,_⟩ | ⟨cap,e1,_,e2,_⟩
  ·rw [e0] at e;cases e
  ·rw [e1] at e;cases e;exact .inl (h.vk _ _ _ _ e0)
  ·rw [e1] at e;cases e;exact .inr ⟨rfl,by omega⟩
 ·have hl:=h.len
  by_cases hi:i<hs.length
  ·rw [List.getElem?_append_left hi] at g1
   rw [List.getElem?_append_left (by omega)] at g2
   obtain ⟨k1,k2,k3⟩:=h.el i x l g1 g2
   obtain ⟨k4,k5⟩:=app_other a k1 k3
   exact ⟨k4,fun b o n c e=>.inl (k2 b o n c e),k5⟩
  ·have hi':i<(hs++[h0]).length:=(List.getElem?_eq_some_iff.1 g1).1
   rw [List.length_append,List.length_singleton] at hi'
   obtain rfl:i=hs.length:=by omega
   rw [List.getElem?_append_right (Nat.le_refl _),Nat.sub_self] at g1
   rw [List.getElem?_append_right (by omega),hl,Nat.sub_self] at g2
   cases g1;cases g2
   obtain ⟨k4,k5⟩:=app_other a h1 hap
   exact ⟨k4,fun b o n c e=>.inl (hk b o n c e),k5⟩
theorem take_snoc {α:Type} {l:List α} {i:Nat} {x:α} (h:l[i]? = some x):l.take (i+1)=l.take i++[x]:=by rw [List.take_add_one,h];rfl
set_option maxHeartbeats 1000000 in
set_option maxRecDepth 8000 in
theorem nodeItems_any (m B:Nat) (iso:Int) (mn mx:Nat) (hmB:m<B) (mu:Bool) :
  ∀ (h b lo pc po:Nat) (xs:List It) (F:Nat->Nat->Prop) (iv:Value) (K:List It) (w:World),Tr E iso mn mx h w lo b xs F->rd w m 0=some (.int .u64 iso)->rd w pc po=some (ptr b)->(∀ y o,F y o->y<B) →
   OutE E B iv K w->K.length+xs.length<=4294967295->B<=w.heap.size->pc<B →
  CallK Try.prog 118 #[ptr m,.pointer (some ⟨pc,po,none⟩),iv,.bool mu] w fun v w'=>OutE E B v (K++xs) w'/\Ext (fun y _=>B<=y) w w':=by
 intro h
 induction h with
 | zero =>
  intro b lo pc po xs F iv K w ht h0 hp hG hS hb1 hB hpc
  obtain ⟨bi,oi,cap,ho,h1,h2,hF⟩:=ht
  have hGo:∀ y o,ownF E b bi oi cap y o->y<B:=fun y o g=>hG y o ((hF y o).2 g)
  obtain ⟨ia,ic,hiv⟩:=hS.sl.shape
  refine calls_of_W [.tmp 8] Try.func118 rfl Try.ntmps118 Try.results118 (by simp) fun e he=>?_
  have e0:e 0=ptr m:=he 0 _ rfl
  have e1:e 1 = .pointer (some ⟨pc,po,none⟩):=he 1 _ rfl
  have e2:e 2=iv:=he 2 _ rfl
  have e3:e 3 = .bool mu:=he 3 _ rfl
  clear he
  refine W_sq fun K hK=>(W_text [true] (by kernel_rfl) ?_);simp only [↓zZ1,↓reduceIte,Nat.reduceEqDiff,rg,ow_118]
  apply hK;clear hK K
  refine W_sq fun K hK=>(W_text [true,true,true,false,true] (by kernel_rfl) ?_);simp only [↓zZ1,↓reduceIte,Nat.reduceEqDiff,rg,ow_118,e0,e1,e3]
  refine do_call fn_96 (by simp only [zZ2,Nat.reduceEqDiff,↓reduceIte,zZ4]<;>rfl) (isoLoad_any m pc po b mu iso w h0 hp ho.h0) ?_
  rintro _ w1 ⟨rfl,r1⟩
  refine ⟨trivial,?_⟩
  simp only [↓zZ1,↓reduceIte,Nat.reduceEqDiff,rg,ow_118]
  apply hK;clear hK K
  have x1:Ext noF w w1:=r1.ext
  have o1:=ho.ext x1 fun _ _ _ h=>h
  have S1:=hS.ext x1
  have s1:=x1.size
  refine W_seq ?_
  refine W_sq fun K hK=>(W_text [true,false] (by kernel_rfl) ?_);simp only [↓zZ1,↓reduceIte,Nat.reduceEqDiff,rg,ow_118]
  refine do_call fn_108 (by simp only [zZ2,Nat.reduceEqDiff,↓reduceIte,zZ4]<;>rfl) (leaf_any b none w1 o1.h3) ?_
  rintro _ w1' ⟨rfl,hw1⟩
  obtain rfl:w1=w1':=hw1.symm
  refine ⟨trivial,?_⟩
  simp only [↓zZ1,↓reduceIte,Nat.reduceEqDiff,rg,ow_118]
  apply hK;clear hK K
  refine W_true (by simp only [zZ2,Nat.reduceEqDiff,↓reduceIte,zZ3]<;>rfl) ?_
  have hb2:=o1.h2
  refine W_sq fun K hK=>(W_text [true,true,true,true,true,false,true] (by kernel_rfl) ?_);simp only [↓zZ1,↓reduceIte,Nat.reduceEqDiff,rg,ow_118,e2,ptr_eq,hb2]
  have hsl:SlV w1 2 (.slice (some ⟨bi,oi,none⟩) xs.length cap) xs.length (flat E xs):=⟨by rw [flat_length];rfl,.inr ⟨bi,oi,cap,rfl,ho.le,o1.row,o1.wi.R (Nat.le_refl _)⟩⟩
  refine do_append (by simp only [zZ2,Nat.reduceEqDiff,↓reduceIte,zZ3]<;>rfl) (by simp only [zZ2,Nat.reduceEqDiff,↓reduceIte,zZ3]<;>rfl) el_it rfl ni_25 S1.sl hsl (by omega) (by decide) (flat_oc E _) fun v2 w2 a2=>⟨trivial,?_⟩
  simp only [↓zZ1,↓reduceIte,Nat.reduceEqDiff,rg,ow_118]
  apply hK;clear hK K
  obtain ⟨q1,q2,q3⟩:=app_since a2 S1.si (by omega)
  refine W_ret ?_
  simp only [andThen_ret]
  refine endQ_1 (by simp only [upd_eq,Nat.reduceEqDiff,↓reduceIte]<;>rfl) ⟨⟨?_,q2⟩,(x1.mono fun _ _ _ h=>h.elim).tr q3⟩
  rw [List.length_append,flat_append]
  exact q1
 | succ h ih =>
  intro b lo pc po xs F iv K w ht h0 hp hG hS hb1 hB hpc
  obtain ⟨bi,oi,cap,bc,ba,oa,capc,ks,cs,ho,hk,h1,h2,hcs,rfl,hT,hA,hF⟩:=ht
  have hGo:∀ y o,ownF E b bi oi cap y o->y<B:=fun y o g=>hG y o ((hF y o).2 (.inl g))
  have hGk:∀ y o,kidF bc ba oa capc y o->y<B:=fun y o g=>hG y o ((hF y o).2 (.inr (.inl g)))
  have hGc:∀ c ∈ cs,∀ y o,c.F y o->y<B:=fun c hc y o g=>hG y o ((hF y o).2 (.inr (.inr ⟨c,hc,g⟩)))
  have hbaB:cs ≠ []->ba<B:=fun hne=>hGk ba oa (.inr ⟨rfl,Nat.le_refl _,by have:=hk.le;rw [List.length_map] at this;have:=List.length_pos_iff.2 hne;omega⟩)
  have hwl:=weave_length (cs.map Kid.xs) ks (by simpa using hcs)
  refine calls_of_W [.tmp 8] Try.func118 rfl Try.ntmps118 Try.results118 (by simp) fun e he=>?_
  have e0:e 0=ptr m:=he 0 _ rfl
  have e1:e 1 = .pointer (some ⟨pc,po,none⟩):=he 1 _ rfl
  have e2:e 2=iv:=he 2 _ rfl
  have e3:e 3 = .bool mu:=he 3 _ rfl
  clear he
  refine W_sq fun K hK=>(W_text [true] (by kernel_rfl) ?_);simp only [↓zZ1,↓reduceIte,Nat.reduceEqDiff,rg,ow_118]
  apply hK;clear hK K
  refine W_sq fun K hK=>(W_text [true,true,true,false,true] (by kernel_rfl) ?_);simp only [↓zZ1,↓reduceIte,Nat.reduceEqDiff,rg,ow_118,e0,e1,e3]
  refine do_call fn_96 (by simp only [zZ2,Nat.reduceEqDiff,↓reduceIte,zZ4]<;>rfl) (isoLoad_any m pc po b mu iso w h0 hp ho.h0) ?_
  rintro _ w1 ⟨rfl,r1⟩
  refine ⟨trivial,?_⟩
  simp only [↓zZ1,↓reduceIte,Nat.reduceEqDiff,rg,ow_118]
  apply hK;clear hK K
  have x1:Ext noF w w1:=r1.ext
  have o1:=ho.ext x1 fun _ _ _ h=>h
  have S1:=hS.ext x1
  refine W_seq ?_
  refine W_sq fun K hK=>(W_text [true,false] (by kernel_rfl) ?_);simp only [↓zZ1,↓reduceIte,Nat.reduceEqDiff,rg,ow_118]
  refine do_call fn_108 (by simp only [zZ2,Nat.reduceEqDiff,↓reduceIte,zZ4]<;>rfl) (leaf_any b (some ⟨bc,0,none⟩) w1 o1.h3) ?_
  rintro _ w1' ⟨rfl,hw1⟩
  obtain rfl:w1=w1':=hw1.symm
  refine ⟨trivial,?_⟩
  simp only [↓zZ1,↓reduceIte,Nat.reduceEqDiff,rg,ow_118]
  apply hK;clear hK K
  refine W_false (by simp only [zZ2,Nat.reduceEqDiff,↓reduceIte,zZ3]<;>rfl) (W_skip ?_)
  show W _ _ _ _ _ _
  refine W_seq (W_seq ?_)
  refine W_rg fun K hK=>(W_text [true] (by kernel_rfl) ?_);simp only [↓zZ1,↓reduceIte,Nat.reduceEqDiff,rg,ow_118]
  apply hK;clear hK K
  refine W_block (W_loop (fun mm e w'=>∃ (i:Nat) (K':List It),mm=ks.length-i/\i<=ks.length/\K++weave (cs.map Kid.xs) ks=K'++weave ((cs.map Kid.xs).drop i) (ks.drop i) ∧
    OutE E B (e 2) K' w'/\Ext (fun y _=>B<=y) w w'/\e 0=ptr m/\e 3 = .bool mu/\e 9=ptr b/\e 10 = .int .i64 i)
   ks.length ⟨0,K,by simp,by simp,by simp,?_,x1.mono fun _ _ _ h=>h.elim,?_,?_,?_,?_⟩ ?_)
  ·simp only [upd_eq,Nat.reduceEqDiff,↓reduceIte];rw [e2];exact S1
  ·simp only [upd_eq,Nat.reduceEqDiff,↓reduceIte];exact e0
  ·simp only [upd_eq,Nat.reduceEqDiff,↓reduceIte];exact e3
  ·simp only [upd_eq,Nat.reduceEqDiff,↓reduceIte]
  ·simp only [upd_eq,Nat.reduceEqDiff,↓reduceIte];rfl
  ·clear e0 e1 e2 e3 e S1 o1
   rintro mm e w' ⟨i,K',rfl,hi,hKe,hkv,X,e0,e3,e9,e10⟩
   have hKl:=congrArg List.length hKe
   simp only [List.length_append] at hKl
   have o':=ho.ext X fun y o g=>by have:=hGo y o g;omega
   have k':=hk.ext X fun y o g=>by have:=hGk y o g;omega
   have hb2:=o'.h2
   have hb3:=o'.h3
   have hc0:=k'.c0
   have sX:=X.size
   have h0':=X.rd h0 (by omega)
   have hci:∀ i,i<cs.length->∃ c,cs[i]? = some c/\rd w' ba (oa+i)=some (ptr c.b):=fun i hi=>by
    refine ⟨cs[i],List.getElem?_eq_getElem hi,k'.row i _ ?_⟩
    rw [List.getElem?_map,List.getElem?_map,List.getElem?_eq_getElem hi];rfl
   rw [List.length_map] at hc0
   have hba:=hbaB (by intro h;rw [h] at hcs;simp at hcs)
   refine W_seq ?_
   by_cases hlt:i<ks.length
   ·have ht:=lt_tt i ks.length hlt
    refine W_sq fun K hK=>(W_text [true,true,true,true,true,true,true] (by kernel_rfl) ?_);simp only [↓zZ1,↓reduceIte,Nat.reduceEqDiff,rg,ow_118,e9,e10,ptr_eq,hb2,ht]
    apply hK;clear hK K
    refine W_true (by simp only [zZ2,Nat.reduceEqDiff,↓reduceIte,zZ3]<;>rfl) (W_skip ?_)
    show W _ _ _ _ _ _
    refine W_seq (W_block ?_)
    obtain ⟨c,hc,hcr⟩:=hci i (by omega)
    have hcm:c ∈ cs:=List.mem_of_getElem? hc
    obtain ⟨x,hx⟩:∃ x,ks[i]? = some x:=⟨_,List.getElem?_eq_getElem hlt⟩
    have hlc:i<cs.length:=by omega
    rw [weave_step (c:=c.xs) (by rw [List.getElem?_map,hc];rfl) hx] at hKe hKl
    simp only [List.length_append,List.length_cons] at hKl
    refine W_sq fun K hK=>(W_text [true,true,true,true,true,true,true,true,true,true,true,false,true] (by kernel_rfl) ?_);simp only [↓zZ1,↓reduceIte,Nat.reduceEqDiff,rg,ow_118,e0,e3,e9,e10,ptr_eq,hb3,hc0,hlc]
    refine do_call fn_118 (by simp only [zZ2,Nat.reduceEqDiff,↓reduceIte,zZ4]<;>rfl) (ih c.b mn ba (oa+i) c.xs c.F (e 2) K' _ ((hT c hcm).ext X fun y o g=>by have:=hGc c hcm y o g;omega) h0' hcr (hGc c hcm) hkv (by omega) (by omega) hba) ?_
    rintro iv2 w2 ⟨H2,X2⟩
    refine ⟨trivial,?_⟩
    simp only [↓zZ1,↓reduceIte,Nat.reduceEqDiff,rg,ow_118]
    apply hK;clear hK K
    have s2:=X2.size
    have o2:=o'.ext X2 fun y o g=>by have:=hGo y o g;omega
    have hb2':=o2.h2
    have hk2:=it_at o2.row hx
    refine W_rg fun K hK=>(W_text [true,true,true,true,true,true,true,true,false,false,true] (by kernel_rfl) ?_);simp only [↓zZ1,↓reduceIte,Nat.reduceEqDiff,rg,ow_118,e9,e10,ptr_eq,hb2',hlt,hk2]
    refine do_bsl rfl (bs_it1 x) fun w3 n3=>⟨trivial,?_⟩
    simp only [↓zZ1,↓reduceIte,Nat.reduceEqDiff,rg,ow_118]
    have H3:=H2.ext n3.ext
    have s3:=n3.size
    have z3:SlV w3 2 (.slice (some ⟨w2.heap.size,0,none⟩) 1 1) 1 (E.cel x):=⟨rfl,.inr ⟨_,0,1,rfl,Nat.le_refl _,n3.row,n3.wok.R (Nat.le_refl _)⟩⟩
    refine do_append (by simp only [zZ2,Nat.reduceEqDiff,↓reduceIte,zZ3]<;>rfl) (by simp only [zZ2,Nat.reduceEqDiff,↓reduceIte,zZ3]<;>rfl) el_it rfl ni_25 H3.sl z3 (by simp;omega) (by decide) (E.one _) fun v4 w4 a4=>⟨trivial,?_⟩
    obtain ⟨H4,X4⟩:=H3.app a4 (by omega)
    simp only [↓zZ1,↓reduceIte,Nat.reduceEqDiff,rg,ow_118]
    apply hK;clear hK K
    have s4:=X4.size
    have X4':Ext (fun y _=>B<=y) w2 w4:=(n3.ext.mono fun _ _ _ h=>h.elim).tr X4
    show W _ _ _ _ _ _
    have q1:=wadd1 i (by omega)
    refine W_rg fun K hK=>(W_text [true,true,true] (by kernel_rfl) ?_);simp only [↓zZ1,↓reduceIte,Nat.reduceEqDiff,rg,ow_118,e10,q1]
    apply hK;clear hK K
    refine ⟨_,?_,i+1,K'++c.xs++[x],rfl,hlt,?_,?_,(X.tr X2).tr X4',?_,?_,?_,?_⟩
    ·omega
    ·rw [hKe];simp
    ·simp only [upd_eq,Nat.reduceEqDiff,↓reduceIte];exact H4
    ·simp only [upd_eq,Nat.reduceEqDiff,↓reduceIte];exact e0
    ·simp only [upd_eq,Nat.reduceEqDiff,↓reduceIte];exact e3
    ·simp only [upd_eq,Nat.reduceEqDiff,↓reduceIte];exact e9
    ·simp only [upd_eq,Nat.reduceEqDiff,↓reduceIte]
   ·obtain rfl:i=ks.length:=by omega
    have ht:=lt_ff ks.length ks.length (by omega)
    refine W_sq fun K hK=>(W_text [true,true,true,true,true,true,true] (by kernel_rfl) ?_);simp only [↓zZ1,↓reduceIte,Nat.reduceEqDiff,rg,ow_118,e9,e10,ptr_eq,hb2,ht]
    apply hK;clear hK K
    refine W_false (by simp only [zZ2,Nat.reduceEqDiff,↓reduceIte,zZ3]<;>rfl) (W_exit ?_)
    simp only [andThen_exit,inBlk_exit,↓reduceIte]
    show W _ _ _ _ _ _
    obtain ⟨c,hc,hcr⟩:=hci ks.length (by omega)
    have hcm:c ∈ cs:=List.mem_of_getElem? hc
    rw [weave_last (c:=c.xs) (by simpa using hcs) (by rw [List.getElem?_map,hc];rfl)] at hKe hKl
    have hlc:cs.length-1<cs.length:=by omega
    have hl1:cs.length-1=ks.length:=by omega
    have q1:=wsub1 cs.length (by omega) (by omega)
    have M1:readsB (some (some [b,bc,ba])) b=true:=by simp [readsB]
    have M2:readsB (some (some [b,bc,ba])) bc=true:=by simp [readsB]
    have M3:readsB (some (some [b,bc,ba])) ba=true:=by simp [readsB]
    refine W_sq fun K hK=>(W_draw (some (some [b,bc,ba])) none [(0,0,0),(0,1,0),(0,2,0),(0,3,0),(0,4,0),(0,5,0),(0,6,0),(0,7,0),(0,8,0),(0,9,0),(0,10,0),(0,11,0),(0,12,0),(0,13,0),(0,14,0),(0,15,0),(0,16,0),(0,17,0),(1,18,0),(0,19,0)] mixed (by kernel_rfl) ?_);simp only [↓zZ1,↓reduceIte,Nat.reduceEqDiff,rg,ow_118,e0,e3,e9,ptr_eq,hb3,hc0,q1,hlc,M1,M2,M3]
    rw [hl1]
    refine do_call fn_118 (by simp only [zZ2,Nat.reduceEqDiff,↓reduceIte,zZ4]<;>rfl) (ih c.b mn ba (oa+ks.length) c.xs c.F (e 2) K' _ ((hT c hcm).ext (X.tr (Ext.dr _ _ _)) fun y o g=>by have:=hGc c hcm y o g;omega) h0' hcr (hGc c hcm) (hkv.ext (Ext.dr _ _ _)) (by omega) (by rw [sz_dr];omega) hba) ?_
    rintro iv2 w2 ⟨H2,X2⟩
    refine ⟨.inr (keeps_on X2 fun y hy=>?_),?_⟩
    ·rw [sz_dr]
     simp only [List.mem_cons,List.not_mem_nil,or_false] at hy
     rcases hy with rfl | rfl | rfl
     ·exact ⟨wok_lt o'.wb,fun o g=>by have:=hGo _ 0 (.inl rfl);omega⟩
     ·exact ⟨wok_lt k'.wc,fun o g=>by have:=hGk _ 0 (.inl rfl);omega⟩
     ·exact ⟨wok_lt k'.wa,fun o g=>by omega⟩
    simp only [↓zZ1,↓reduceIte,Nat.reduceEqDiff,rg,ow_118]
    apply hK;clear hK K
    refine W_ret ?_
    refine endQ_1 (by simp only [upd_eq,Nat.reduceEqDiff,↓reduceIte]<;>rfl) ⟨?_,X.tr X2.od⟩
    rw [hKe]
    exact H2
set_option maxRecDepth 8000 in
theorem len_any (m:Nat) (n:Nat) (w:World) (h:rd w m 3=some (.int .i64 n)):CallK Try.prog 71 #[ptr m] w fun v w'=>v = .int .i64 n/\w=w':=by
 refine calls_of_W [.tmp 2] Try.func71 rfl Try.ntmps71 Try.results71 (by simp) fun e he=>?_
 have e0:e 0=ptr m:=he 0 _ rfl
 clear he
 refine W_sq fun K hK=>(W_text [true] (by kernel_rfl) ?_);simp only [↓zZ1,↓reduceIte,Nat.reduceEqDiff,rg,ow_71]
 apply hK;clear hK K
 refine W_sq fun K hK=>(W_text [true,true,true,true,true] (by kernel_rfl) ?_);simp only [↓zZ1,↓reduceIte,Nat.reduceEqDiff,rg,ow_71,e0,ptr_eq,h]
 apply hK;clear hK K
 exact W_ret (endQ_1 (by simp only [upd_eq,Nat.reduceEqDiff,↓reduceIte]<;>rfl) ⟨rfl,rfl⟩)
set_option maxHeartbeats 400000 in
set_option maxRecDepth 8000 in
theorem items_any (B m d:Nat) (ord:List Int) (iso:Int) (xs:List It) (F:Nat->Nat->Prop) (mu:Bool) (w:World) (hM:TreeAt B ord w m d iso xs F) (hbig:xs.length<=4294967295) :
  CallK Try.prog 77 #[ptr m,.bool mu] w fun v w'=>OutE E w.heap.size v xs w'/\Ext noF w w':=by
 have hml:=hM.mlt
 refine calls_of_W [.tmp 4] Try.func77 rfl Try.ntmps77 Try.results77 (by simp) fun e he=>?_
 have e0:e 0=ptr m:=he 0 _ rfl
 have e1:e 1 = .bool mu:=he 1 _ rfl
 clear he
 refine W_sq fun K hK=>(W_text [true] (by kernel_rfl) ?_);simp only [↓zZ1,↓reduceIte,Nat.reduceEqDiff,rg,ow_77]
 apply hK;clear hK K
 refine W_seq ?_
 refine W_sq fun K hK=>(W_text [true,true,false] (by kernel_rfl) ?_);simp only [↓zZ1,↓reduceIte,Nat.reduceEqDiff,rg,ow_77,e0,e1]
 refine do_call fn_91 (by simp only [zZ2,Nat.reduceEqDiff,↓reduceIte,zZ4]<;>rfl) (lock_any _ _ w) ?_
 rintro _ _ ⟨rfl,rfl⟩
 refine ⟨trivial,?_⟩
 simp only [↓zZ1,↓reduceIte,Nat.reduceEqDiff,rg,ow_77]
 apply hK;clear hK K
 refine W_false (by simp only [zZ2,Nat.reduceEqDiff,↓reduceIte,zZ3]<;>rfl) (W_skip ?_)
 show W _ _ _ _ _ _
 refine W_sq fun K hK=>(W_text [true,false,false,true] (by kernel_rfl) ?_);simp only [↓zZ1,↓reduceIte,Nat.reduceEqDiff,rg,ow_77,e0]
 refine do_call fn_71 (by simp only [zZ2,Nat.reduceEqDiff,↓reduceIte,zZ4]<;>rfl) (len_any m xs.length w hM.cnt) ?_
 rintro _ _ ⟨rfl,rfl⟩
 refine ⟨trivial,?_⟩
 simp only [↓zZ1,↓reduceIte,Nat.reduceEqDiff,rg,ow_77]
 refine do_make (n:=0) (c:=xs.length) (by simp only [zZ2,Nat.reduceEqDiff,↓reduceIte,zZ3]<;>rfl) (by simp only [zZ2,Nat.reduceEqDiff,↓reduceIte,zZ3]<;>rfl) el_it rfl (by omega) (by omega) (by omega) fun w1 l1 hl1 n1=>⟨trivial,?_⟩
 simp only [↓zZ1,↓reduceIte,Nat.reduceEqDiff,rg,ow_77]
 apply hK;clear hK K
 have s1:=n1.size
 have hO:OutE E w.heap.size (.slice (some ⟨w.heap.size,0,none⟩) 0 xs.length) [] w1:=by
  refine ⟨⟨rfl,.inr ⟨_,0,_,rfl,Nat.zero_le _,Row.nil _ _ _,n1.wok.R (by rw [hl1,E_sz];omega)⟩⟩,fun b o n c h=>by cases h;exact Nat.le_refl _⟩
 have hM1:=hM.ext n1.ext
 refine W_seq ?_
 rcases hM1.root with ⟨rfl,hr⟩ | ⟨h,b,hr,ht⟩
 ·refine W_sq fun K hK=>(W_text [true,true,true,true,true] (by kernel_rfl) ?_);simp only [↓zZ1,↓reduceIte,Nat.reduceEqDiff,rg,ow_77,e0,ptr_eq,hr]
  apply hK;clear hK K
  refine W_false (by simp only [zZ2,Nat.reduceEqDiff,↓reduceIte,zZ3]<;>rfl) (W_skip ?_)
  show W _ _ _ _ _ _
  refine W_sq fun K hK=>(W_text [true,true] (by kernel_rfl) ?_);simp only [↓zZ1,↓reduceIte,Nat.reduceEqDiff,rg,ow_77]
  apply hK;clear hK K
  exact W_ret (endQ_1 (by simp only [upd_eq,Nat.reduceEqDiff,↓reduceIte]<;>rfl) ⟨hO,n1.ext⟩)
 ·refine W_sq fun K hK=>(W_text [true,true,true,true,true] (by kernel_rfl) ?_);simp only [↓zZ1,↓reduceIte,Nat.reduceEqDiff,rg,ow_77,e0,ptr_eq,hr]
  apply hK;clear hK K
  refine W_true (by simp only [zZ2,Nat.reduceEqDiff,↓reduceIte,zZ3]<;>rfl) ?_
  refine W_rg fun K hK=>(W_text [true,true,true,true,true,true,false,true] (by kernel_rfl) ?_);simp only [↓zZ1,↓reduceIte,Nat.reduceEqDiff,rg,ow_77,e0,e1,ptr_eq]
  refine do_call fn_118 (by simp only [zZ2,Nat.reduceEqDiff,↓reduceIte,zZ4]<;>rfl) (nodeItems_any m w.heap.size iso (d-1) (2*d-1) hml mu h b 1 m 2 xs F _ [] w1 ht hM1.cfg.iso hr hM.lt hO (by simp;omega) (by omega) hml) ?_
  rintro v2 w2 ⟨hO2,X2⟩
  refine ⟨trivial,?_⟩
  simp only [↓zZ1,↓reduceIte,Nat.reduceEqDiff,rg,ow_77]
  apply hK;clear hK K
  show W _ _ _ _ _ _
  refine W_sq fun K hK=>(W_text [true,true] (by kernel_rfl) ?_);simp only [↓zZ1,↓reduceIte,Nat.reduceEqDiff,rg,ow_77]
  apply hK;clear hK K
  exact W_ret (endQ_1 (by simp only [upd_eq,Nat.reduceEqDiff,↓reduceIte]<;>rfl) ⟨hO2,noF_of n1.ext X2 fun y o hy g=>by omega⟩)
set_option maxRecDepth 8000 in
theorem itemsG_any (B m d:Nat) (ord:List Int) (iso:Int) (xs:List It) (F:Nat->Nat->Prop) (w:World) (hM:TreeAt B ord w m d iso xs F) (hbig:xs.length<=4294967295) :
  CallK Try.prog 46 #[ptr m] w fun v w'=>OutE E w.heap.size v xs w'/\Ext noF w w':=by
 refine calls_of_W [.tmp 2] Try.func46 rfl Try.ntmps46 Try.results46 (by simp) fun e he=>?_
 have e0:e 0=ptr m:=he 0 _ rfl
 clear he
 refine W_sq fun K hK=>(W_text [true] (by kernel_rfl) ?_);simp only [↓zZ1,↓reduceIte,Nat.reduceEqDiff,rg,ow_46]
 apply hK;clear hK K
 refine W_sq fun K hK=>(W_text [true,false,true] (by kernel_rfl) ?_);simp only [↓zZ1,↓reduceIte,Nat.reduceEqDiff,rg,ow_46,e0]
 refine do_call fn_77 (by simp only [zZ2,Nat.reduceEqDiff,↓reduceIte,zZ4]<;>rfl) (items_any B m d ord iso xs F false w hM hbig) ?_
 rintro v1 w1 h1
 refine ⟨trivial,?_⟩
 simp only [↓zZ1,↓reduceIte,Nat.reduceEqDiff,rg,ow_46]
 apply hK;clear hK K
 exact W_ret (endQ_1 (by simp only [upd_eq,Nat.reduceEqDiff,↓reduceIte]<;>rfl) h1)
def Esp:Enc (It × It) where
 cel s:=[.int .i64 s.1.1,.int .i64 s.1.2,.int .i64 s.2.1,.int .i64 s.2.2]
 sz:=4
 len _:=rfl
 one x v hv:=by simp at hv;rcases hv with rfl | rfl | rfl | rfl<;>rfl
 pos:=by decide
def spV (s:It × It):Value:=.agg #[.int .i64 s.1.1,.int .i64 s.1.2,.int .i64 s.2.1,.int .i64 s.2.2]
abbrev SlSp (w:World) (v:Value) (l:List (It × It)):Prop:=SlV w 4 v l.length (flat Esp l)
theorem spV_at {w:World} {b o:Nat} {l:List (It × It)} (h:Row w b o (flat Esp l)) {i:Nat} {x:It × It} (hi:l[i]? = some x):rdA w b (o+i*4) 4=some (spV x):=(row_at Esp h hi).rdA 4 (by simp [Esp])
def rgV (p nr mi:Bool):Value:=.agg #[.bool p,.bool nr,.bool mi]
def stepR (ord:List Int) (ex mi:Bool) (st:List (List It) × List It) (s:It × It):List (List It) × List It :=
 (st.1++[if ex then st.2.filter (inI ord mi s.1 s.2) else []],st.2.filter fun x=>!inI ord mi s.1 s.2 x)
def runR (ord:List Int) (ex mi:Bool) (X:List It) (ss:List (It × It)):List (List It) × List It:=ss.foldl (stepR ord ex mi) ([],X)
theorem runR_snoc (ord:List Int) (ex mi:Bool) (X:List It) (ss:List (It × It)) (s:It × It):runR ord ex mi X (ss++[s])=stepR ord ex mi (runR ord ex mi X ss) s:=by
 unfold runR;rw [List.foldl_append];rfl
theorem runR_len (ord:List Int) (ex mi:Bool) (X:List It) (ss:List (It × It)):(runR ord ex mi X ss).1.length=ss.length/\(runR ord ex mi X ss).2.length<=X.length/\∀ l ∈ (runR ord ex mi X ss).1,l.length<=X.length:=by
 have h:∀ (ss:List (It × It)) (st:List (List It) × List It),(∀ l ∈ st.1,l.length<=X.length)->st.2.length<=X.length->(ss.foldl (stepR ord ex mi) st).1.length=st.1.length+ss.length/\(ss.foldl (stepR ord ex mi) st).2.length<=X.length/\∀ l ∈ (ss.foldl (stepR ord ex mi) st).1,l.length<=X.length:=by
  intro ss
  induction ss with
  | nil=>intro st h1 h2;exact ⟨rfl,h2,h1⟩
  | cons s ss ih =>
   intro st h1 h2
   have hx:∀ l ∈ (stepR ord ex mi st s).1,l.length<=X.length:=fun l hl=>by
    rcases List.mem_append.1 hl with hl | hl
    ·exact h1 l hl
    ·rw [List.mem_singleton.1 hl]
     split
     ·exact Nat.le_trans (List.length_filter_le _ _) h2
     ·exact Nat.zero_le _
   obtain ⟨g1,g2,g3⟩:=ih (stepR ord ex mi st s) hx (Nat.le_trans (List.length_filter_le _ _) h2)
   refine ⟨?_,g2,g3⟩
   rw [List.foldl_cons,g1]
   simp only [stepR,List.length_append,List.length_cons,List.length_nil]
   omega
 have:=h ss ([],X) (by simp) (Nat.le_refl _)
 simpa [runR] using this
theorem z_span:zK Try.prog 57=some [.int .i64 0,.int .i64 0,.int .i64 0,.int .i64 0]:=by kernel_rfl
theorem el_ll:elK Try.prog 58=some (25,1,24,[.slice none 0 0]):=by kernel_rfl
theorem ni_ll:noInt Try.prog 58=true:=by kernel_rfl
theorem bs_ll (h:Hd):bsV Try.prog 58 1 [(0,hdV h)]=some (25,[hdV h]):=by rcases h with ⟨a,n,c⟩;kernel_rfl
end Go.Proofs.Ytbnnkcofnmipoaa
namespace Go.Proofs.Ytbnnkcofnmipoaa
open Go Go.Proofs Go.ChangeShapes Go.WideShapes Go.ChangeAt Go.RowKit
set_option maxRecDepth 100000
section
variable {H:Type} {enc:TypeId × Value->H}
end
end Go.Proofs.Ytbnnkcofnmipoaa
namespace Go.Proofs.Ytbnnkcofnmipoaa
open Go
section
variable {α R:Type} (O:SOrd R) (κ:α->R)
theorem lt_ne {a b:R} (h:O.lt a b=true):a ≠ b:=fun e=>by
 subst e
 have:=O.asym h
 rw [h] at this;cases this
theorem asc_split {xs:List α} {i:Nat} {k:α} (hk:xs[i]? = some k):xs=xs.take i++k::xs.drop (i+1):=by
 have hlt:=(List.getElem?_eq_some_iff.1 hk).1
 have:=List.take_append_drop i xs
 rw [List.drop_eq_getElem_cons hlt,(List.getElem?_eq_some_iff.1 hk).2] at this
 exact this.symm
theorem hit_of_mem {xs:List α} (ha:Asc O κ xs) {y:α} (hy:y ∈ xs):hit O κ (κ y) xs=true:=by
 obtain ⟨A,C,rfl⟩:=List.append_of_mem hy
 exact (found_mid O κ ha).2
theorem no_hit {xs:List α} (ha:Asc O κ xs) {q:R}:hit O κ q xs=false ↔ ∀ y ∈ xs,κ y ≠ q:=by
 constructor
 ·intro h y hy e
  subst e
  rw [hit_of_mem O κ ha hy] at h;cases h
 ·intro h
  cases hh:hit O κ q xs with
  | false=>rfl
  | true =>
   obtain ⟨k,h1,h2⟩:=hit_at O κ hh
   exact (h k (List.mem_of_getElem? h1) h2.symm).elim
theorem mem_put {xs:List α} (ha:Asc O κ xs) {x y:α}:y ∈ put O κ x xs ↔ y=x\/(y ∈ xs/\κ y ≠ κ x):=by
 cases hh:hit O κ (κ x) xs with
 | true =>
  obtain ⟨k,h1,h2⟩:=hit_at O κ hh
  have hs:=asc_split h1
  generalize xs.take _=A at hs
  generalize xs.drop _=C at hs
  subst hs
  rw [put_found O κ ha h2]
  obtain ⟨_,h3,h4⟩:=(Asc.append O κ).1 ha
  have h5:=(List.pairwise_cons.1 h3).1
  simp only [List.mem_append,List.mem_cons]
  constructor
  ·rintro (h | h | h)
   ·exact .inr ⟨.inl h,by rw [h2];exact lt_ne O (h4 y h k (by simp))⟩
   ·exact .inl h
   ·exact .inr ⟨.inr (.inr h),by rw [h2];exact (lt_ne O (h5 y h)).symm⟩
  ·rintro (h | ⟨h | h | h,hne⟩)
   ·exact .inr (.inl h)
   ·exact .inl h
   ·subst h;exact (hne h2.symm).elim
   ·exact .inr (.inr h)
 | false =>
  have hn:=(no_hit O κ ha).1 hh
  rw [put_leaf O κ hh]
  have hs:=List.take_append_drop (lb O κ (κ x) xs) xs
  generalize xs.take _=A at hs ⊢
  generalize xs.drop _=C at hs ⊢
  subst hs
  simp only [List.mem_append,List.mem_cons]
  constructor
  ·rintro (h | h | h)
   ·exact .inr ⟨.inl h,hn y (by simp [h])⟩
   ·exact .inl h
   ·exact .inr ⟨.inr h,hn y (by simp [h])⟩
  ·rintro (h | ⟨h | h,-⟩)
   ·exact .inr (.inl h)
   ·exact .inl h
   ·exact .inr (.inr h)
def sets (xs l:List α):List α:=l.foldl (fun xs x=>put O κ x xs) xs
theorem sets_snoc (xs l:List α) (x:α):sets O κ xs (l++[x])=put O κ x (sets O κ xs l):=by simp [sets]
theorem sets_asc {xs:List α} (ha:Asc O κ xs) (l:List α):Asc O κ (sets O κ xs l):=by
 induction l generalizing xs with
 | nil=>exact ha
 | cons x l ih=>exact ih (put_asc O κ ha)
theorem snoc_ind {p:List α->Prop} (h0:p []) (h1:∀ l x,p l->p (l++[x])) (l:List α):p l:=by
 have:∀ n (l:List α),l.length=n->p l:=by
  intro n
  induction n with
  | zero=>intro l hl;rw [List.length_eq_zero_iff.1 hl];exact h0
  | succ n ih =>
   intro l hl
   have hne:l ≠ []:=fun e=>by rw [e] at hl;cases hl
   rw [<-List.dropLast_concat_getLast hne]
   exact h1 _ _ (ih _ (by rw [List.length_dropLast];omega))
 exact this _ l rfl
end
end Go.Proofs.Ytbnnkcofnmipoaa
namespace Go.Proofs.Ytbnnkcofnmipoaa
open Go Go.Proofs
theorem bez (b:Nat):∀ a:Nat,∃ u v:Int,u*a+v*b=(Nat.gcd a b:Nat):=by
 induction b using Nat.strongRecOn with
 | ind b ih =>
  intro a
  by_cases h:b=0
  ·subst h;exact ⟨1,0,by simp⟩
  ·obtain ⟨u,v,e⟩:=ih (a % b) (Nat.mod_lt _ (by omega)) b
   refine ⟨v,u-v*(a / b:Nat),?_⟩
   have g:Nat.gcd b (a % b)=Nat.gcd a b:=by rw [Nat.gcd_comm b,<-Nat.gcd_rec b a,Nat.gcd_comm]
   rw [g] at e
   rw [<-e]
   have hd:(a:Int)=b*(a / b:Nat)+(a % b:Nat):=by
    have:=congrArg (Nat.cast:Nat->Int) (Nat.div_add_mod a b)
    simpa only [Int.natCast_add,Int.natCast_mul] using this.symm
   generalize (a / b:Nat)=q at *
   generalize (a % b:Nat)=r at *
   rw [hd]
   grind
theorem stride_onto (n s q:Nat) (hg:Nat.gcd n s=1) (hq:q<n):∃ i,i<n/\i*s % n=q:=by
 obtain ⟨u,v,e⟩:=bez s n
 rw [hg] at e
 have h0:(0:Int)<=((q:Int)*v) % n:=Int.emod_nonneg _ (by omega)
 have h1:((q:Int)*v) % n<n:=Int.emod_lt_of_pos _ (by omega)
 refine ⟨(((q:Int)*v) % n).toNat,by omega,?_⟩
 have hi:((((q:Int)*v) % n).toNat:Int)=((q:Int)*v) % n:=Int.toNat_of_nonneg h0
 have key:(((((q:Int)*v) % n).toNat*s % n:Nat):Int)=q:=by
  rw [Int.natCast_emod,Int.natCast_mul,hi]
  have:(q:Int)*v % n*s=q+n*(-(q*u)-(q*v / n)*s):=by
   have hd:=Int.mul_ediv_add_emod ((q:Int)*v) n
   generalize (q:Int)*v / n=t at *
   generalize (q:Int)*v % n=r at *
   grind
  rw [this,Int.add_mul_emod_self_left,Int.emod_eq_of_lt (by omega) (by omega)]
 omega
theorem tG_asc (ord:List Int) (l:List It):Asc O (rkI ord) (treeG ord l):=sets_asc O (rkI ord) List.Pairwise.nil l
theorem tG_keys (ord:List Int) (l:List It) (q:Rk):q ∈ (treeG ord l).map (rkI ord) ↔ q ∈ l.map (rkI ord):=by
 induction l using snoc_ind with
 | h0=>simp [treeG]
 | h1 l x ih =>
  have e:treeG ord (l++[x])=put O (rkI ord) x (treeG ord l):=sets_snoc O (rkI ord) [] l x
  rw [e]
  simp only [List.mem_map,List.mem_append,List.mem_singleton] at ih ⊢
  constructor
  ·rintro ⟨y,hy,rfl⟩
   rcases (mem_put O (rkI ord) (tG_asc ord l)).1 hy with rfl | ⟨hy,_⟩
   ·exact ⟨y,.inr rfl,rfl⟩
   ·obtain ⟨z,hz,e⟩:=ih.1 ⟨y,hy,rfl⟩
    exact ⟨z,.inl hz,e⟩
  ·rintro ⟨y,hy,rfl⟩
   by_cases hx:rkI ord y=rkI ord x
   ·exact ⟨x,(mem_put O (rkI ord) (tG_asc ord l)).2 (.inl rfl),hx.symm⟩
   ·rcases hy with hy | rfl
    ·obtain ⟨z,hz,e⟩:=ih.2 ⟨y,hy,rfl⟩
     exact ⟨z,(mem_put O (rkI ord) (tG_asc ord l)).2 (.inr ⟨hz,by rw [e];exact hx⟩),e⟩
    ·exact (hx rfl).elim
def strideL (n s j:Nat):List It:=(List.range j).map fun i=>(((i*s % n:Nat):Int),(i:Int))
theorem strideL_succ (n s j:Nat):strideL n s (j+1)=strideL n s j++[(((j*s % n:Nat):Int),(j:Int))]:=by simp [strideL,List.range_succ]
theorem stride_tree (n s:Nat) (hg:Nat.gcd n s=1):(treeG [] (strideL n s n)).map Prod.fst=(List.range n).map fun i:Nat=>(i:Int):=by
 refine sorted_eq (κ:=fun x:Int=>x) ?_ ?_ fun q=>?_
 ·rw [List.pairwise_map]
  exact (tG_asc [] _).imp fun {a b} h=>of_decide_eq_true h
 ·rw [List.pairwise_map]
  exact List.pairwise_lt_range.imp fun {a b} h=>by omega
 ·have h:=tG_keys [] (strideL n s n) q
  have e:∀ l:List It,l.map (rkI [])=l.map Prod.fst:=fun l=>rfl
  rw [e,e] at h
  refine h.trans ?_
  simp only [strideL,List.mem_map,List.mem_range]
  constructor
  ·rintro ⟨_,⟨i,hi,rfl⟩,rfl⟩
   exact ⟨i*s % n,Nat.mod_lt _ (by omega),rfl⟩
  ·rintro ⟨i,hi,rfl⟩
   obtain ⟨j,hj,e⟩:=stride_onto n s i hg hi
   exact ⟨_,⟨j,hj,rfl⟩,by simp [e]⟩
def spL (k j:Nat):List (It × It):=(List.range j).map fun i=>(((((i*k:Nat):Int),0),(((i*k+k:Nat):Int),0)))
theorem spL_succ (k j:Nat):spL k (j+1)=spL k j++[((((j*k:Nat):Int),0),(((j*k+k:Nat):Int),0))]:=by simp [spL,List.range_succ]
theorem spL_len (k j:Nat):(spL k j).length=j:=by simp [spL]
theorem cut_lt (p:It->Bool) (a b:Nat) (hp:∀ x,(a:Int)<=x.1->p x=decide (x.1<b)):∀ (Y:List It) (c:Nat),(∀ i x,Y[i]? = some x->x.1=((c+i:Nat):Int))->a<=c->Y.filter p=Y.take (b-c)/\Y.filter (fun x=>!p x)=Y.drop (b-c)
 | [],c,_,_=>by simp
 | x::Y,c,h,hc=>by
  have hx:x.1=(c:Int):=by have:=h 0 x rfl;simpa using this
  have hpx:=hp x (by omega)
  obtain ⟨h1,h2⟩:=cut_lt p a b hp Y (c+1) (fun i y hy=>by have:=h (i+1) y hy;rw [this];omega) (by omega)
  rw [List.filter_cons,List.filter_cons,h1,h2,hpx]
  by_cases hb:c<b
  ·have hd:decide (x.1<(b:Int))=true:=by simp;omega
   have hs:b-c=(b-(c+1))+1:=by omega
   rw [hd,hs]
   simp
  ·have hd:decide (x.1<(b:Int))=false:=by simp;omega
   have hs:b-c=0:=by omega
   have hs':b-(c+1)=0:=by omega
   rw [hd,hs,hs']
   simp
theorem in_span (a k:Nat) (x:It) (h:(a:Int)<=x.1):inI [] false ((a:Int),0) (((a+k:Nat):Int),0) x=decide (x.1<((a+k:Nat):Int)):=by
 have e1:inI [] false ((a:Int),0) (((a+k:Nat):Int),0) x=(!decide (x.1<(a:Int)) && !(!decide (x.1<((a+k:Nat):Int)))):=rfl
 have e2:decide (x.1<(a:Int))=false:=by simp;omega
 rw [e1,e2];simp
theorem peel (X:List It) (hX:∀ i x,X[i]? = some x->x.1=((i:Nat):Int)) (k j:Nat):(runR [] true false X (spL k j)).1.flatten=X.take (j*k)/\(runR [] true false X (spL k j)).2=X.drop (j*k):=by
 induction j with
 | zero=>simp [spL,runR]
 | succ j ih =>
  obtain ⟨h1,h2⟩:=ih
  rw [spL_succ,runR_snoc]
  have hc:=cut_lt (inI [] false (((j*k:Nat):Int),0) (((j*k+k:Nat):Int),0)) (j*k) (j*k+k) (fun x hx=>in_span (j*k) k x hx) (X.drop (j*k)) (j*k) (fun i x hx=>by rw [List.getElem?_drop] at hx;exact hX _ _ hx) (Nat.le_refl _)
  have hs:j*k+k-j*k=k:=by omega
  rw [hs] at hc
  have hm:(j+1)*k=j*k+k:=Nat.succ_mul j k
  simp only [stepR,h2,↓reduceIte,List.flatten_append,h1,hc.1,hc.2,hm,List.drop_drop]
  exact ⟨by simp [List.take_add],trivial⟩
theorem keys_at {X:List It} {n:Nat} (h:X.map Prod.fst=(List.range n).map fun i:Nat=>(i:Int)):X.length=n/\∀ i x,X[i]? = some x->x.1=((i:Nat):Int):=by
 have hl:X.length=n:=by have:=congrArg List.length h;simpa using this
 refine ⟨hl,fun i x hx=>?_⟩
 have hi:i<n:=by have:=(List.getElem?_eq_some_iff.1 hx).1;omega
 have:=congrArg (·[i]?) h
 simp only [List.getElem?_map,hx,Option.map_some,List.getElem?_range hi] at this
 exact Option.some.inj this
theorem peels (n s k j:Nat) (hg:Nat.gcd n s=1) (hj:n<=j*k):(treeG [] (strideL n s n)).length=n/\(runR [] true false (treeG [] (strideL n s n)) (spL k j)).1.length=j/\(runR [] true false (treeG [] (strideL n s n)) (spL k j)).2=[] ∧
  (runR [] true false (treeG [] (strideL n s n)) (spL k j)).1.flatten.length=n/\∀ i x,(runR [] true false (treeG [] (strideL n s n)) (spL k j)).1.flatten[i]? = some x->x.1=((i:Nat):Int):=by
 obtain ⟨h1,h2⟩:=keys_at (stride_tree n s hg)
 obtain ⟨h3,h4⟩:=peel _ h2 k j
 have h5:=(runR_len [] true false (treeG [] (strideL n s n)) (spL k j)).1
 rw [spL_len] at h5
 have hle:(treeG [] (strideL n s n)).length<=j*k:=by omega
 rw [h3,h4,List.take_of_length_le hle]
 exact ⟨h1,h5,List.drop_of_length_le hle,h1,h2⟩
theorem flat_at {α:Type} {ls:List (List α)} {i j:Nat} {l:List α} {x:α} (h1:ls[i]? = some l) (h2:l[j]? = some x):ls.flatten[(ls.take i).flatten.length+j]? = some x:=by
 have hi:=(List.getElem?_eq_some_iff.1 h1).1
 have hj:=(List.getElem?_eq_some_iff.1 h2).1
 have e:ls.flatten=(ls.take i).flatten++(l++(ls.drop (i+1)).flatten):=by
  have:ls=ls.take i++l::ls.drop (i+1):=by
   rw [<-(List.getElem?_eq_some_iff.1 h1).2,List.getElem_cons_drop,List.take_append_drop]
  have g:=congrArg List.flatten this
  rw [List.flatten_append,List.flatten_cons] at g
  exact g
 rw [e,List.getElem?_append_right (by omega),Nat.add_sub_cancel_left,List.getElem?_append_left hj,h2]
theorem flat_succ {α:Type} {ls:List (List α)} {i:Nat} {l:List α} (h1:ls[i]? = some l):(ls.take (i+1)).flatten.length=(ls.take i).flatten.length+l.length:=by
 rw [List.take_add_one,h1]
 simp
end Go.Proofs.Ytbnnkcofnmipoaa
