/- Texts in one. No condition. -/
import Derived.Test.YtbnnkcofnmipoaaZ9cc6db3d
import Derived.Test.YtbnnkcofnmipoaaZA
import Derived.Test.YtbnnkcofnmipoaaZ5b25d89c
set_option linter.unusedVariables false
set_option linter.unusedSimpArgs false
namespace Go.Proofs.Ytbnnkcofnmipoaa
open Go Go.Proofs
theorem map_erase {α β:Type} (f:α->β) (l:List α) (i:Nat):(l.map f).eraseIdx i=(l.eraseIdx i).map f:=by
 rw [List.eraseIdx_eq_take_drop_succ,List.eraseIdx_eq_take_drop_succ,List.map_append,List.map_take,List.map_drop]
variable {h:Nat} {w:World} {b bc:Nat} {cnt:Int} {ks:List It} {A B:List (Kid It)} {c1 c2:Kid It} {F0 F3:Nat->Nat->Prop} {K0 K3:Nat}
  {F1 F4:Nat->Nat->Prop} {K1 K4:Nat} {k1:List It} {ch1:Value} {p1:List (Option Nat)} {g1:List (Kid It)} {F2 F5:Nat->Nat->Prop} {K2 K5:Nat} {k2:List It} {ch2:Value} {p2:List (Option Nat)} {g2:List (Kid It)}
set_option maxHeartbeats 1000000 in
theorem reb_two (m d i0:Nat) (iso:Int) (hd:2<=d) (hd':d<=128) (hc:Cfg w m iso d) (t:Two E iso (d-1) (2*d-1) h w b bc cnt ks A B c1 c2 F0 F3 K0 K3 F1 F4 K1 K4 k1 ch1 p1 g1 F2 F5 K2 K5 k2 ch2 p2 g2)
  (hm:∀ o,¬ (F0 m o\/F3 m o\/kinF (A++c1::c2::B) m o)) (hlen:(A++c1::c2::B).length=ks.length+1) (hj:(i0=A.length/\A.length<ks.length)\/(i0=ks.length/\A.length+1=ks.length)) (hks:ks.length<=2*d-1)
  (hcnt:cnt=((weave ((A++c1::c2::B).map Kid.xs) ks).length:Nat)) (hbig:(weave ((A++c1::c2::B).map Kid.xs) ks).length<1152921504606846976) (h1:d-2<=k1.length) (h2:d-2<=k2.length) (h1':k1.length<=2*d-1) (h2':k2.length<=2*d-1)
  (hsh:k1.length<d-1\/k2.length<d-1) :
  CallK Try.prog 151 #[ptr m,ptr b,.int .i64 (i0:Nat)] w fun _ w'=>∃ F'',Tr E iso (d-1) (2*d-1) (h+1) w' (ks.length-1) b (weave ((A++c1::c2::B).map Kid.xs) ks) F'' ∧
   Ext (fun y o=>F0 y o\/F3 y o\/kinF (A++c1::c2::B) y o) w w'/\∀ y o,F'' y o->(F0 y o\/F3 y o\/kinF (A++c1::c2::B) y o)\/w.heap.size<=y:=by
 have hAk:A.length<ks.length:=by omega
 obtain ⟨k,hk⟩:∃ k,ks[A.length]? = some k:=⟨_,List.getElem?_eq_getElem hAk⟩
 have s:=t.init
 have hG:∀ o,¬ six F0 F1 F2 F3 F4 F5 m o:=fun o g=>hm o (t.six g)
 have hp:((A++c1::c2::B).map fun g=>some g.b)[A.length]? = some (some c1.b):=by simp
 have hq:((A++c1::c2::B).map fun g=>some g.b)[A.length+1]? = some (some c2.b):=by simp
 have hps:((A++c1::c2::B).map fun g=>some g.b).length=ks.length+1:=by rw [List.length_map];exact hlen
 have hmap:(A++c1::c2::B).map Kid.xs=A.map Kid.xs++c1.xs::c2.xs::B.map Kid.xs:=by simp
 have hk':ks[(A.map Kid.xs).length]? = some k:=by rw [List.length_map];exact hk
 have hx1:c1.xs.length<1152921504606846976/\c2.xs.length<1152921504606846976:=by
  have e1:=weave_mem_length ((A++c1::c2::B).map Kid.xs) ks (by rw [List.length_map];exact hlen) c1.xs (by simp)
  have e2:=weave_mem_length ((A++c1::c2::B).map Kid.xs) ks (by rw [List.length_map];exact hlen) c2.xs (by simp)
  omega
 have hlA:(A++c1::c2::B).length=A.length+B.length+2:=by simp;omega
 have far:∀ {c:Kid It},c ∈ g1++g2->(∀ o,c.F c.b o)->∀ o,¬ six F0 F1 F2 F3 F4 F5 c.b o:=fun hc hs o g=>t.far.2.1 _ hc _ o (hs o) g
 by_cases hlt:k1.length+k2.length<2*d-1
 ·refine CallK_mono (reb_merge m d b c1.b c2.b bc i0 A.length c1.xs.length c2.xs.length iso cnt ks k1 k2 k _ p1 p2 ch1 ch2 w w _ hd hd' hc hG s hj hks hk hps hp hq t.ch h1' h2' (by omega) (by omega) hlt) ?_
  rintro v w' hs
  have X:=hs.x
  obtain ⟨F',K',s'⟩:=hs
  have q:=t.q1.merge (k:=k) t.q2
  have hw:=weave_two (A.map Kid.xs) (B.map Kid.xs) c1.xs c2.xs ks k hk'
  rw [List.length_map] at hw
  have hle:=List.length_eraseIdx_of_lt hAk
  have T:=t.kid s' 1 rfl rfl q (List.Sublist.refl _) (by simp;omega) (by simp;omega) (by omega) (by simp<;>omega)
  have hpe:((A++c1::c2::B).map fun g=>some g.b).eraseIdx (A.length+1)=(A++([Kid.mk c1.b (c1.xs++k::c2.xs) (fun y o=>F' 1 y o\/F' 4 y o\/kinF (g1++g2) y o)]++B)).map fun g=>some g.b:=by
   rw [map_erase,List.eraseIdx_append_of_length_le (by omega)]
   simp
  have hwe:(A++([Kid.mk c1.b (c1.xs++k::c2.xs) (fun y o=>F' 1 y o\/F' 4 y o\/kinF (g1++g2) y o)]++B)).map Kid.xs=A.map Kid.xs++(c1.xs++k::c2.xs)::B.map Kid.xs:=by simp
  obtain ⟨F'',T',hF''⟩:=t.close s' rfl [Kid.mk c1.b (c1.xs++k::c2.xs) (fun y o=>F' 1 y o\/F' 4 y o\/kinF (g1++g2) y o)] (ks':=ks.eraseIdx A.length) (lo:=ks.length-1) rfl (by rw [<-hpe];rfl)
   (by simp only [List.length_append,List.length_cons,List.length_nil];omega) (fun n hn=>by obtain rfl:=List.mem_singleton.1 hn;exact T)
   (fun n hn y o g=>by
    obtain rfl:=List.mem_singleton.1 hn
    rcases g with g | g | g
    ·exact .inl ⟨1,.inl rfl,g⟩
    ·exact .inl ⟨4,by decide,g⟩
    ·exact .inr g) (List.pairwise_singleton _ _) (by omega) (by omega) (by rw [hwe,<-hw,<-hmap];exact hcnt)
  rw [hwe,<-hw,<-hmap] at T'
  exact ⟨F'',T',X.mono fun y o _ g=>t.six g,hF''⟩
 ·have two:∀ {w':World} {F':Nat->Nat->Nat->Prop} {K':Nat->Nat} {P:List Ob} {x:It} {x1' x2' l1 l2:List It} {q1 q2:List (Option Nat)} {gl gr:List (Kid It)} {n1 n2:Int},St w (six F0 F1 F2 F3 F4 F5) w' P F' K' →
    P=[ndO E iso 1 b cnt (ks.set A.length x) (ptr bc),ndO E iso 0 c1.b n1 l1 ch1,ndO E iso 0 c2.b n2 l2 ch2,kdO (ptr bc) ((A++c1::c2::B).map fun g=>some g.b),kdO ch1 q1,kdO ch2 q2] →
    Kin E iso (d-1) (2*d-1) h w ch1 q1 l1 x1' gl->Kin E iso (d-1) (2*d-1) h w ch2 q2 l2 x2' gr->c1.xs++k::c2.xs=x1'++x::x2'->gl++gr=g1++g2->n1=(x1'.length:Nat)->n2=(x2'.length:Nat) →
    d-1<=l1.length->l1.length<=2*d-1->d-1<=l2.length->l2.length<=2*d-1 →
    ∃ F'',Tr E iso (d-1) (2*d-1) (h+1) w' (ks.length-1) b (weave ((A++c1::c2::B).map Kid.xs) ks) F'' ∧
     Ext (fun y o=>F0 y o\/F3 y o\/kinF (A++c1::c2::B) y o) w w'/\∀ y o,F'' y o->(F0 y o\/F3 y o\/kinF (A++c1::c2::B) y o)\/w.heap.size<=y:=by
   intro w' F' K' P x x1' x2' l1 l2 q1 q2 gl gr n1 n2 s' hP Q1 Q2 hxx hgg hn1 hn2 hl1 hl1' hl2 hl2'
   subst hP
   have T1:=t.kid s' 1 rfl rfl Q1 (by rw [<-hgg];exact List.sublist_append_left _ _) hl1 hl1' (by omega) hn1
   have T2:=t.kid s' 2 rfl rfl Q2 (by rw [<-hgg];exact List.sublist_append_right _ _) hl2 hl2' (by omega) hn2
   have hw:=weave_swap (A:=A.map Kid.xs) (B:=B.map Kid.xs) hk' hxx
   rw [List.length_map] at hw
   have hpe:(A++c1::c2::B).map (fun g=>some g.b)=(A++([Kid.mk c1.b x1' (fun y o=>F' 1 y o\/F' 4 y o\/kinF gl y o),Kid.mk c2.b x2' (fun y o=>F' 2 y o\/F' 5 y o\/kinF gr y o)]++B)).map fun g=>some g.b:=by simp
   have hwe:(A++([Kid.mk c1.b x1' (fun y o=>F' 1 y o\/F' 4 y o\/kinF gl y o),Kid.mk c2.b x2' (fun y o=>F' 2 y o\/F' 5 y o\/kinF gr y o)]++B)).map Kid.xs=A.map Kid.xs++x1'::x2'::B.map Kid.xs:=by simp
   obtain ⟨f1,f2,f3,f4⟩:=t.far
   have gF:∀ c ∈ gl++gr,∀ n,n<6->Dj c.F (F' n):=fun c hc n hn y o g k=>by
    rw [hgg] at hc
    rcases s'.s n hn y o k with k | k
    ·exact f2 c hc y o g k
    ·have:y<w.heap.size:=by
      rcases List.mem_append.1 hc with hc | hc
      ·exact t.q1.lt c hc y o g
      ·exact t.q2.lt c hc y o g
     omega
   have hd12:Dj (fun y o=>F' 1 y o\/F' 4 y o\/kinF gl y o) (fun y o=>F' 2 y o\/F' 5 y o\/kinF gr y o):=by
    intro y o g k
    rcases g with g | g | ⟨c,hc,g⟩<;>rcases k with k | k | ⟨e,he,k⟩
    ·exact s'.d 1 2 (by simp) (by simp) (by decide) y o g k
    ·exact s'.d 1 5 (by simp) (by simp) (by decide) y o g k
    ·exact gF e (by simp [he]) 1 (by decide) y o k g
    ·exact s'.d 4 2 (by simp) (by simp) (by decide) y o g k
    ·exact s'.d 4 5 (by simp) (by simp) (by decide) y o g k
    ·exact gF e (by simp [he]) 4 (by decide) y o k g
    ·exact gF c (by simp [hc]) 2 (by decide) y o g k
    ·exact gF c (by simp [hc]) 5 (by decide) y o g k
    ·rw [<-hgg] at f3
     exact (List.pairwise_append.1 f3).2.2 c hc e he y o g k
   have hls:(ks.set A.length x).length=ks.length:=List.length_set
   obtain ⟨F'',T',hF''⟩:=t.close s' rfl [Kid.mk c1.b x1' (fun y o=>F' 1 y o\/F' 4 y o\/kinF gl y o),Kid.mk c2.b x2' (fun y o=>F' 2 y o\/F' 5 y o\/kinF gr y o)] (ks':=ks.set A.length x) (lo:=ks.length-1) rfl (by rw [<-hpe];rfl)
    (by simp only [List.length_append,List.length_cons,List.length_nil];omega)
    (fun n hn=>by
     rcases List.mem_cons.1 hn with rfl | hn
     ·exact T1
     ·obtain rfl:=List.mem_singleton.1 hn;exact T2)
    (fun n hn y o g=>by
     rcases List.mem_cons.1 hn with rfl | hn
     ·rcases g with g | g | ⟨c,hc,g⟩
      ·exact .inl ⟨1,by decide,g⟩
      ·exact .inl ⟨4,by decide,g⟩
      ·exact .inr ⟨c,by rw [<-hgg];simp [hc],g⟩
     ·obtain rfl:=List.mem_singleton.1 hn
      rcases g with g | g | ⟨c,hc,g⟩
      ·exact .inl ⟨2,by decide,g⟩
      ·exact .inl ⟨5,by decide,g⟩
      ·exact .inr ⟨c,by rw [<-hgg];simp [hc],g⟩)
    (List.pairwise_pair.2 hd12) (by omega) (by omega) (by rw [hwe,<-hw,<-hmap];exact hcnt)
   rw [hwe,<-hw,<-hmap] at T'
   exact ⟨F'',T',s'.x.mono fun y o _ g=>t.six g,hF''⟩
  by_cases hgt:k2.length<k1.length
  ·obtain ⟨ls,x,rfl⟩:∃ ls x,k1=ls++[x]:=⟨k1.dropLast,k1.getLast (by intro h;rw [h] at hgt;simp at hgt),(List.dropLast_concat_getLast _).symm⟩
   obtain ⟨cg,x1',x2',gl,gr,Q1,Q2,hxx,hgg,e1,e2,e3,hg⟩:=t.q1.right (k:=k) t.q2
   have hsx:x1'.length+1+x2'.length=c1.xs.length+1+c2.xs.length:=by
    have:=congrArg List.length hxx
    simp only [List.length_append,List.length_cons] at this
    omega
   refine CallK_mono (reb_right m d b c1.b c2.b bc i0 A.length c1.xs.length c2.xs.length iso cnt ks ls k2 k x _ p1 p2 ch1 ch2 w w _ hd hd' hc hG s hj hks hk hps hp hq t.ch h1' h2' (by omega) (by omega) (by omega) hgt cg e3 (by omega) ?_) ?_
   ·rcases hg with hg | ⟨c,p',hp',hcm,hr,hself⟩
    ·exact .inl hg
    ·exact .inr ⟨c.b,p',hp',hr,far (by simp [hcm]) hself⟩
   ·rintro v w' ⟨F',K',s'⟩
    rw [List.length_append,List.length_singleton] at h1 h1' hlt hgt hsh
    exact two s' rfl Q1 Q2 hxx hgg (by rw [e1]) (by rw [e2]) (by omega) (by omega) (by rw [List.length_cons];omega) (by rw [List.length_cons];omega)
  ·obtain ⟨x,rs,rfl⟩:∃ x rs,k2=x::rs:=by
    cases k2 with
    | nil=>rw [List.length_nil] at hgt hlt;omega
    | cons x rs=>exact ⟨x,rs,rfl⟩
   obtain ⟨cg,x1',x2',gl,gr,Q1,Q2,hxx,hgg,e1,e2,e3,hg⟩:=t.q1.left (k:=k) t.q2
   have hsx:x1'.length+1+x2'.length=c1.xs.length+1+c2.xs.length:=by
    have:=congrArg List.length hxx
    simp only [List.length_append,List.length_cons] at this
    omega
   refine CallK_mono (reb_left m d b c1.b c2.b bc i0 A.length c1.xs.length c2.xs.length iso cnt ks k1 rs k x _ p1 p2 ch1 ch2 w w _ hd hd' hc hG s hj hks hk hps hp hq t.ch h1' h2' (by omega) (by omega) (by omega) (by omega) cg e3 (by omega) ?_) ?_
   ·rcases hg with hg | ⟨c,p',hp',hcm,hr,hself⟩
    ·exact .inl hg
    ·exact .inr ⟨c.b,p',hp',hr,far (by simp [hcm]) hself⟩
   ·rintro v w' ⟨F',K',s'⟩
    rw [List.length_cons] at h2 h2' hlt hgt hsh
    exact two s' rfl Q1 Q2 hxx hgg (by rw [e1]) (by rw [e2]) (by rw [List.length_append,List.length_singleton];omega) (by rw [List.length_append,List.length_singleton];omega) (by omega) (by omega)
theorem nd_len {w:World} {z b n cap:Nat} {cnt:Int} {k:List It} {ch:Value} {a:Option Addr} {F:Nat->Nat->Prop} {K:Nat} {iso:Int} (h:(ndO E iso z b cnt k ch).p w F K) (h2:rd w b 2=some (.slice a n cap)):k.length=n:=by
 obtain ⟨_,_,_,ho,_⟩:=h
 have:=ho.h2.symm.trans h2
 simp only [Option.some.injEq,Value.slice.injEq] at this
 exact this.2.1
theorem reb_shr (m d:Nat) (iso:Int) (hd:2<=d) (hd':d<=128) (hc:Cfg w m iso d) {c:Kid It} (s:Shr E iso (d-1) (2*d-1) h w b bc cnt ks A c B F0 F3 K0 K3) (hm:∀ o,¬ (F0 m o\/F3 m o\/kinF (A++c::B) m o))
  (hlen:(A++c::B).length=ks.length+1) (hk0:1<=ks.length) (hks:ks.length<=2*d-1) (hcnt:cnt=((weave ((A++c::B).map Kid.xs) ks).length:Nat)) (hbig:(weave ((A++c::B).map Kid.xs) ks).length<1152921504606846976)
  {a:Option Addr} {n cap:Nat} (hr:rd w c.b 2=some (.slice a n cap)) (hn:n<d-1) :
  CallK Try.prog 151 #[ptr m,ptr b,.int .i64 (A.length:Nat)] w fun _ w'=>∃ F'',Tr E iso (d-1) (2*d-1) (h+1) w' (ks.length-1) b (weave ((A++c::B).map Kid.xs) ks) F'' ∧
   Ext (fun y o=>F0 y o\/F3 y o\/kinF (A++c::B) y o) w w'/\∀ y o,F'' y o->(F0 y o\/F3 y o\/kinF (A++c::B) y o)\/w.heap.size<=y:=by
 obtain ⟨F1,F4,K1,K4,k1,ch1,p1,g1,n1,n4,q1,h1,h1',l1,f1⟩:=s.t.split
 have hk1:=nd_len n1 hr
 have hl:(A++c::B).length=A.length+B.length+1:=by simp;omega
 by_cases hA:A.length<ks.length
 ·cases B with
  | nil=>rw [List.length_nil] at hl;omega
  | cons c2 B =>
   obtain ⟨F2,F5,K2,K5,k2,ch2,p2,g2,n2,n5,q2,h2,h2',l2,f2⟩:=(s.rest c2 (by simp)).split
   have t:Two E iso (d-1) (2*d-1) h w b bc cnt ks A B c c2 F0 F3 K0 K3 F1 F4 K1 K4 k1 ch1 p1 g1 F2 F5 K2 K5 k2 ch2 p2 g2:=⟨s.n0,s.n3,s.l0,n1,n4,l1,f1,q1,n2,n5,l2,f2,q2,fun e he=>s.rest e (by
    rcases List.mem_append.1 he with he | he
    ·simp [he]
    ·simp [he])⟩
   exact reb_two m d A.length iso hd hd' hc t hm hlen (.inl ⟨rfl,hA⟩) hks hcnt hbig (by omega) (by omega) h1' h2' (.inl (by omega))
 ·obtain ⟨A,c0,rfl⟩:∃ A' c0,A=A'++[c0]:=⟨A.dropLast,A.getLast (by intro h;rw [h,List.length_nil] at hA;omega),(List.dropLast_concat_getLast _).symm⟩
  have hB:B=[]:=List.eq_nil_of_length_eq_zero (by omega)
  subst hB
  obtain ⟨F2,F5,K2,K5,k2,ch2,p2,g2,n2,n5,q2,h2,h2',l2,f2⟩:=(s.rest c0 (by simp)).split
  have e:A++[c0]++[c]=A++c0::c::[]:=by simp
  obtain ⟨s1,s2,s3,s4,s5⟩:=s
  rw [List.length_append,List.length_singleton] at hl hA
  rw [e] at s2 s3 hm hlen hcnt hbig ⊢
  have t:Two E iso (d-1) (2*d-1) h w b bc cnt ks A [] c0 c F0 F3 K0 K3 F2 F5 K2 K5 k2 ch2 p2 g2 F1 F4 K1 K4 k1 ch1 p1 g1:=⟨s1,s2,s3,n2,n5,l2,f2,q2,n1,n4,l1,f1,q1,fun e he=>s5 e (by
   simp at he;simp [he])⟩
  have hi:(A++[c0]).length=ks.length:=by
   rw [List.length_append,List.length_singleton]
   simp only [List.length_append,List.length_cons,List.length_nil] at hlen
   omega
  exact reb_two m d (A++[c0]).length iso hd hd' hc t hm hlen (.inr ⟨hi,by rw [<-hi];simp⟩) hks hcnt hbig (by omega) (by omega) h2' h1' (.inr (by omega))
end Go.Proofs.Ytbnnkcofnmipoaa
namespace Go.Proofs.Ytbnnkcofnmipoaa
open Go Go.Proofs
section
variable {α:Type} {E:Enc α} {iso:Int} {mn mx:Nat} {Q:α->List α->Prop}
variable {h:Nat} {w:World} {b bc:Nat} {cnt:Int} {ks:List α} {A B:List (Kid α)} {c1 c2:Kid α} {F0 F3:Nat->Nat->Prop} {K0 K3:Nat}
  {F1 F4:Nat->Nat->Prop} {K1 K4:Nat} {k1:List α} {ch1:Value} {p1:List (Option Nat)} {g1:List (Kid α)} {F2 F5:Nat->Nat->Prop} {K2 K5:Nat} {k2:List α} {ch2:Value} {p2:List (Option Nat)} {g2:List (Kid α)}
theorem Two.kidP (t:Two E iso mn mx h w b bc cnt ks A B c1 c2 F0 F3 K0 K3 F1 F4 K1 K4 k1 ch1 p1 g1 F2 F5 K2 K5 k2 ch2 p2 g2) {w':World} {P:List Ob} {F':Nat->Nat->Nat->Prop} {K':Nat->Nat}
  (s:St w (Go.Proofs.Ytbnnkcofnmipoaa.six F0 F1 F2 F3 F4 F5) w' P F' K') (i:Nat) {cb:Nat} {cnt':Int} {ks' xs':List α} {ch:Value} {ps:List (Option Nat)} {gs:List (Kid α)} (hi:P[i]? = some (ndO E iso 0 cb cnt' ks' ch)) (hj:P[i+3]? = some (kdO ch ps))
  (q:KinP E iso mn mx Q h w ch ps ks' xs' gs) (hs:gs.Sublist (g1++g2)) (h1:mn<=ks'.length) (h2:ks'.length<=mx) (h0:1<=mn) (hc:cnt'=(xs'.length:Nat)) :
  Tp E iso mn mx Q h w' mn cb xs' fun y o=>F' i y o\/F' (i+3) y o\/kinF gs y o:=by
 obtain ⟨-,f2,f3,-⟩:=t.far
 have hil:=(List.getElem?_eq_some_iff.1 hi).1
 have hjl:=(List.getElem?_eq_some_iff.1 hj).1
 have ha:∀ c ∈ gs,∀ n,n<P.length->Dj c.F (F' n):=fun c hc n hn y o g k=>by
  rcases s.s n hn y o k with k | k
  ·exact f2 c (hs.subset hc) y o g k
  ·have:=q.1.lt c hc y o g;omega
 exact Tp.join (s.o i _ hi) (s.o (i+3) _ hj) (q.ext s.x fun c hc=>f2 c (hs.subset hc)) h1 h2 (.inl (by omega)) ⟨s.d i (i+3) hil hjl (by omega),fun c hc=>ha c hc i hil,fun c hc=>ha c hc (i+3) hjl,f3.sublist hs,s.r i hjl⟩ hc
theorem Two.closeP (t:Two E iso mn mx h w b bc cnt ks A B c1 c2 F0 F3 K0 K3 F1 F4 K1 K4 k1 ch1 p1 g1 F2 F5 K2 K5 k2 ch2 p2 g2) {w':World} {P:List Ob} {F':Nat->Nat->Nat->Prop} {K':Nat->Nat}
  (s:St w (Go.Proofs.Ytbnnkcofnmipoaa.six F0 F1 F2 F3 F4 F5) w' P F' K') (hP:P.length=6) (new:List (Kid α)) {ks':List α} {lo:Nat} (h0:P[0]? = some (ndO E iso 1 b cnt ks' (ptr bc))) (h3:P[3]? = some (kdO (ptr bc) ((A++(new++B)).map fun g=>some g.b)))
  (hl:(A++(new++B)).length=ks'.length+1) (hT:∀ n ∈ new,Tp E iso mn mx Q h w' mn n.b n.xs n.F) (hR:∀ c ∈ A++B,Tp E iso mn mx Q h w mn c.b c.xs c.F) (hN:NP Q ((A++(new++B)).map Kid.xs) ks') (hF:∀ n ∈ new,∀ y o,n.F y o->(∃ i,(i=1\/i=2\/i=4\/i=5)/\F' i y o)\/kinF (g1++g2) y o)
  (h2:new.Pairwise fun c d=>Dj c.F d.F) (hlo:lo<=ks'.length) (hmx:ks'.length<=mx) (hc:cnt=((weave ((A++(new++B)).map Kid.xs) ks').length:Nat)) :
  ∃ F'',Tp E iso mn mx Q (h+1) w' lo b (weave ((A++(new++B)).map Kid.xs) ks') F''/\∀ y o,F'' y o->(F0 y o\/F3 y o\/kinF (A++c1::c2::B) y o)\/w.heap.size<=y:=by
 obtain ⟨f1,f2,f3,f4⟩:=t.far
 obtain ⟨-,-,a3⟩:=t.apart
 have hlt:∀ c ∈ A++B,∀ y o,c.F y o->y<w.heap.size:=fun c hc=>(t.rest c hc).lt
 have glt:∀ c ∈ g1++g2,∀ y o,c.F y o->y<w.heap.size:=fun c hc=>by
  rcases List.mem_append.1 hc with hc | hc
  ·exact t.q1.lt c hc
  ·exact t.q2.lt c hc
 have oldF:∀ c ∈ A++B,∀ n,n<6->Dj c.F (F' n):=fun c hc n hn y o g k=>by
  rcases s.s n (by omega) y o k with k | k
  ·exact f1 c hc y o g k
  ·have:=hlt c hc y o g;omega
 have gF:∀ n,n<6->Dj (kinF (g1++g2)) (F' n):=fun n hn y o g k=>by
  obtain ⟨c,hc,g⟩:=g
  rcases s.s n (by omega) y o k with k | k
  ·exact f2 c hc y o g k
  ·have:=glt c hc y o g;omega
 have newF:∀ c ∈ new,∀ n,n=0\/n=3->Dj c.F (F' n):=fun c hc n hn y o g k=>by
  rcases hF c hc y o g with ⟨i,hi,g⟩ | g
  ·exact s.d i n (by omega) (by omega) (by omega) y o g k
  ·exact gF n (by omega) y o g k
 have oldN:∀ a ∈ A++B,∀ c ∈ new,Dj a.F c.F:=fun a ha c hc y o g k=>by
  rcases hF c hc y o k with ⟨i,hi,k⟩ | ⟨e,he,k⟩
  ·exact oldF a ha i (by omega) y o g k
  ·exact f4 a ha e he y o g k
 have hmem:∀ c ∈ A++(new++B),c ∈ A++B\/c ∈ new:=fun c hc=>by
  rcases List.mem_append.1 hc with h | h
  ·exact .inl (by simp [h])
  ·rcases List.mem_append.1 h with h | h
   ·exact .inr h
   ·exact .inl (by simp [h])
 obtain ⟨p1,p2,p3⟩:=List.pairwise_append.1 a3
 refine ⟨_,Tp.join (s.o 0 _ h0) (s.o 3 _ h3) ⟨.inr ⟨h,rfl,⟨bc,rfl⟩,rfl,hl,rfl,fun c hc=>?_⟩,fun c hc h' hh=>?_,hN⟩ hlo hmx (.inr (Nat.le_refl _)) ⟨s.d 0 3 (by omega) (by omega) (by decide),fun c hc=>?_,fun c hc=>?_,?_,s.r 0 (by omega)⟩ hc,fun y o g=>?_⟩
 ·rcases hmem c hc with h | h
  ·exact (t.rest c h).ext s.x (f1 c h)
  ·exact (hT c h).tr
 ·obtain rfl:h=h':=by omega
  rcases hmem c hc with h | h
  ·exact (hR c h).ext s.x (f1 c h)
  ·exact hT c h
 ·rcases hmem c hc with h | h
  ·exact oldF c h 0 (by decide)
  ·exact newF c h 0 (.inl rfl)
 ·rcases hmem c hc with h | h
  ·exact oldF c h 3 (by decide)
  ·exact newF c h 3 (.inr rfl)
 ·refine List.pairwise_append.2 ⟨p1,List.pairwise_append.2 ⟨h2,p2,fun c hc d hd=>(oldN d (by simp [hd]) c hc).symm⟩,fun c hc d hd=>?_⟩
  rcases List.mem_append.1 hd with hd | hd
  ·exact oldN c (by simp [hc]) d hd
  ·exact p3 c hc d hd
 ·have six_sub:∀ y o,Go.Proofs.Ytbnnkcofnmipoaa.six F0 F1 F2 F3 F4 F5 y o->F0 y o\/F3 y o\/kinF (A++c1::c2::B) y o:=fun y o g=>by
   rcases g with g | g | g | g | g | g
   ·exact .inl g
   ·exact .inr (.inr ⟨c1,by simp,(t.f1 y o).2 (.inl g)⟩)
   ·exact .inr (.inr ⟨c2,by simp,(t.f2 y o).2 (.inl g)⟩)
   ·exact .inr (.inl g)
   ·exact .inr (.inr ⟨c1,by simp,(t.f1 y o).2 (.inr (.inl g))⟩)
   ·exact .inr (.inr ⟨c2,by simp,(t.f2 y o).2 (.inr (.inl g))⟩)
  have put:∀ n,n<6->F' n y o->(F0 y o\/F3 y o\/kinF (A++c1::c2::B) y o)\/w.heap.size<=y:=fun n hn g=>(s.s n (by omega) y o g).imp (six_sub y o) id
  rcases g with g | g | ⟨c,hc,g⟩
  ·exact put 0 (by decide) g
  ·exact put 3 (by decide) g
  ·rcases hmem c hc with hm | hm
   ·refine .inl (.inr (.inr ⟨c,?_,g⟩))
    rcases List.mem_append.1 hm with h | h
    ·simp [h]
    ·simp [h]
   ·rcases hF c hm y o g with ⟨i,hi,g⟩ | ⟨e,he,g⟩
    ·exact put i (by omega) g
    ·rcases List.mem_append.1 he with he | he
     ·exact .inl (.inr (.inr ⟨c1,by simp,(t.f1 y o).2 (.inr (.inr ⟨e,he,g⟩))⟩))
     ·exact .inl (.inr (.inr ⟨c2,by simp,(t.f2 y o).2 (.inr (.inr ⟨e,he,g⟩))⟩))
end
section
variable {h:Nat} {w:World} {b bc:Nat} {cnt:Int} {ks:List It} {A B:List (Kid It)} {c1 c2:Kid It} {F0 F3:Nat->Nat->Prop} {K0 K3:Nat}
  {F1 F4:Nat->Nat->Prop} {K1 K4:Nat} {k1:List It} {ch1:Value} {p1:List (Option Nat)} {g1:List (Kid It)} {F2 F5:Nat->Nat->Prop} {K2 K5:Nat} {k2:List It} {ch2:Value} {p2:List (Option Nat)} {g2:List (Kid It)}
variable {Q:It->List It->Prop}
set_option maxHeartbeats 1000000 in
theorem reb_twoP (m d i0:Nat) (iso:Int) (hd:2<=d) (hd':d<=128) (hc:Cfg w m iso d) (t:Two E iso (d-1) (2*d-1) h w b bc cnt ks A B c1 c2 F0 F3 K0 K3 F1 F4 K1 K4 k1 ch1 p1 g1 F2 F5 K2 K5 k2 ch2 p2 g2)
  (hm:∀ o,¬ (F0 m o\/F3 m o\/kinF (A++c1::c2::B) m o)) (hlen:(A++c1::c2::B).length=ks.length+1) (hj:(i0=A.length/\A.length<ks.length)\/(i0=ks.length/\A.length+1=ks.length)) (hks:ks.length<=2*d-1)
  (hcnt:cnt=((weave ((A++c1::c2::B).map Kid.xs) ks).length:Nat)) (hbig:(weave ((A++c1::c2::B).map Kid.xs) ks).length<1152921504606846976) (h1:d-2<=k1.length) (h2:d-2<=k2.length) (h1':k1.length<=2*d-1) (h2':k2.length<=2*d-1)
  (hsh:k1.length<d-1\/k2.length<d-1) (hA:Anti Q) (K1P:KinP E iso (d-1) (2*d-1) Q h w ch1 p1 k1 c1.xs g1) (K2P:KinP E iso (d-1) (2*d-1) Q h w ch2 p2 k2 c2.xs g2) (hR:∀ c ∈ A++B,Tp E iso (d-1) (2*d-1) Q h w (d-1) c.b c.xs c.F)
  (hN:NP Q ((A++c1::c2::B).map Kid.xs) ks) (hV:∀ k,0<A.length->ks[A.length-1]? = some k->∀ S,(∀ s ∈ S,s ∈ c1.xs\/ks[A.length]? = some s\/s ∈ c2.xs)->Q k S) (hVx:k2.length<d-1->∀ x ∈ c1.xs,∀ S,(∀ s ∈ S,s ∈ c1.xs\/ks[A.length]? = some s\/s ∈ c2.xs)->Q x S) (hL:k1.length<d-1->∀ l x r,c2.xs=l++x::r->Q x r) :
  CallK Try.prog 151 #[ptr m,ptr b,.int .i64 (i0:Nat)] w fun _ w'=>∃ F'',Tp E iso (d-1) (2*d-1) Q (h+1) w' (ks.length-1) b (weave ((A++c1::c2::B).map Kid.xs) ks) F'' ∧
   Ext (fun y o=>F0 y o\/F3 y o\/kinF (A++c1::c2::B) y o) w w'/\∀ y o,F'' y o->(F0 y o\/F3 y o\/kinF (A++c1::c2::B) y o)\/w.heap.size<=y:=by
 have hAk:A.length<ks.length:=by omega
 obtain ⟨k,hk⟩:∃ k,ks[A.length]? = some k:=⟨_,List.getElem?_eq_getElem hAk⟩
 have s:=t.init
 have hmap0:(A++c1::c2::B).map Kid.xs=A.map Kid.xs++c1.xs::c2.xs::B.map Kid.xs:=by simp
 have hkP:Q k c2.xs:=hN A.length k c2.xs hk (by simp)
 rw [hmap0] at hN
 have hlmA:(A.map Kid.xs).length=A.length:=List.length_map ..
 have hG:∀ o,¬ six F0 F1 F2 F3 F4 F5 m o:=fun o g=>hm o (t.six g)
 have hp:((A++c1::c2::B).map fun g=>some g.b)[A.length]? = some (some c1.b):=by simp
 have hq:((A++c1::c2::B).map fun g=>some g.b)[A.length+1]? = some (some c2.b):=by simp
 have hps:((A++c1::c2::B).map fun g=>some g.b).length=ks.length+1:=by rw [List.length_map];exact hlen
 have hmap:(A++c1::c2::B).map Kid.xs=A.map Kid.xs++c1.xs::c2.xs::B.map Kid.xs:=by simp
 have hk':ks[(A.map Kid.xs).length]? = some k:=by rw [List.length_map];exact hk
 have hx1:c1.xs.length<1152921504606846976/\c2.xs.length<1152921504606846976:=by
  have e1:=weave_mem_length ((A++c1::c2::B).map Kid.xs) ks (by rw [List.length_map];exact hlen) c1.xs (by simp)
  have e2:=weave_mem_length ((A++c1::c2::B).map Kid.xs) ks (by rw [List.length_map];exact hlen) c2.xs (by simp)
  omega
 have hlA:(A++c1::c2::B).length=A.length+B.length+2:=by simp;omega
 have far:∀ {c:Kid It},c ∈ g1++g2->(∀ o,c.F c.b o)->∀ o,¬ six F0 F1 F2 F3 F4 F5 c.b o:=fun hc hs o g=>t.far.2.1 _ hc _ o (hs o) g
 by_cases hlt:k1.length+k2.length<2*d-1
 ·refine CallK_mono (reb_merge m d b c1.b c2.b bc i0 A.length c1.xs.length c2.xs.length iso cnt ks k1 k2 k _ p1 p2 ch1 ch2 w w _ hd hd' hc hG s hj hks hk hps hp hq t.ch h1' h2' (by omega) (by omega) hlt) ?_
  rintro v w' hs
  have X:=hs.x
  obtain ⟨F',K',s'⟩:=hs
  have q:=K1P.merge hA (k:=k) K2P hkP
  have hw:=weave_two (A.map Kid.xs) (B.map Kid.xs) c1.xs c2.xs ks k hk'
  rw [List.length_map] at hw
  have hle:=List.length_eraseIdx_of_lt hAk
  have T:=t.kidP s' 1 rfl rfl q (List.Sublist.refl _) (by simp;omega) (by simp;omega) (by omega) (by simp<;>omega)
  have hpe:((A++c1::c2::B).map fun g=>some g.b).eraseIdx (A.length+1)=(A++([Kid.mk c1.b (c1.xs++k::c2.xs) (fun y o=>F' 1 y o\/F' 4 y o\/kinF (g1++g2) y o)]++B)).map fun g=>some g.b:=by
   rw [map_erase,List.eraseIdx_append_of_length_le (by omega)]
   simp
  have hwe:(A++([Kid.mk c1.b (c1.xs++k::c2.xs) (fun y o=>F' 1 y o\/F' 4 y o\/kinF (g1++g2) y o)]++B)).map Kid.xs=A.map Kid.xs++(c1.xs++k::c2.xs)::B.map Kid.xs:=by simp
  obtain ⟨F'',T',hF''⟩:=t.closeP s' rfl [Kid.mk c1.b (c1.xs++k::c2.xs) (fun y o=>F' 1 y o\/F' 4 y o\/kinF (g1++g2) y o)] (ks':=ks.eraseIdx A.length) (lo:=ks.length-1) rfl (by rw [<-hpe];rfl)
   (by simp only [List.length_append,List.length_cons,List.length_nil];omega) (fun n hn=>by obtain rfl:=List.mem_singleton.1 hn;exact T) hR (by
    rw [hwe,<-hlmA]
    refine hN.merge fun k' h0 hk'=>hV k' (by rwa [List.length_map] at h0) (by rwa [List.length_map] at hk') _ fun s hs=>?_
    rcases List.mem_append.1 hs with hs | hs
    ·exact .inl hs
    ·rcases List.mem_cons.1 hs with rfl | hs
     ·exact .inr (.inl hk)
     ·exact .inr (.inr hs))
   (fun n hn y o g=>by
    obtain rfl:=List.mem_singleton.1 hn
    rcases g with g | g | g
    ·exact .inl ⟨1,.inl rfl,g⟩
    ·exact .inl ⟨4,by decide,g⟩
    ·exact .inr g) (List.pairwise_singleton _ _) (by omega) (by omega) (by rw [hwe,<-hw,<-hmap];exact hcnt)
  rw [hwe,<-hw,<-hmap] at T'
  exact ⟨F'',T',X.mono fun y o _ g=>t.six g,hF''⟩
 ·have two:∀ {w':World} {F':Nat->Nat->Nat->Prop} {K':Nat->Nat} {P:List Ob} {x:It} {x1' x2' l1 l2:List It} {q1 q2:List (Option Nat)} {gl gr:List (Kid It)} {n1 n2:Int},St w (six F0 F1 F2 F3 F4 F5) w' P F' K' →
    P=[ndO E iso 1 b cnt (ks.set A.length x) (ptr bc),ndO E iso 0 c1.b n1 l1 ch1,ndO E iso 0 c2.b n2 l2 ch2,kdO (ptr bc) ((A++c1::c2::B).map fun g=>some g.b),kdO ch1 q1,kdO ch2 q2] →
    KinP E iso (d-1) (2*d-1) Q h w ch1 q1 l1 x1' gl->KinP E iso (d-1) (2*d-1) Q h w ch2 q2 l2 x2' gr->Q x x2'->c1.xs++k::c2.xs=x1'++x::x2'->gl++gr=g1++g2->n1=(x1'.length:Nat)->n2=(x2'.length:Nat) →
    d-1<=l1.length->l1.length<=2*d-1->d-1<=l2.length->l2.length<=2*d-1 →
    ∃ F'',Tp E iso (d-1) (2*d-1) Q (h+1) w' (ks.length-1) b (weave ((A++c1::c2::B).map Kid.xs) ks) F'' ∧
     Ext (fun y o=>F0 y o\/F3 y o\/kinF (A++c1::c2::B) y o) w w'/\∀ y o,F'' y o->(F0 y o\/F3 y o\/kinF (A++c1::c2::B) y o)\/w.heap.size<=y:=by
   intro w' F' K' P x x1' x2' l1 l2 q1 q2 gl gr n1 n2 s' hP Q1 Q2 hQx hxx hgg hn1 hn2 hl1 hl1' hl2 hl2'
   subst hP
   have T1:=t.kidP s' 1 rfl rfl Q1 (by rw [<-hgg];exact List.sublist_append_left _ _) hl1 hl1' (by omega) hn1
   have T2:=t.kidP s' 2 rfl rfl Q2 (by rw [<-hgg];exact List.sublist_append_right _ _) hl2 hl2' (by omega) hn2
   have hmem:∀ s ∈ x1'++x::x2',s ∈ c1.xs\/ks[A.length]? = some s\/s ∈ c2.xs:=fun s hs=>by
    rw [<-hxx] at hs
    rcases List.mem_append.1 hs with hs | hs
    ·exact .inl hs
    ·rcases List.mem_cons.1 hs with rfl | hs
     ·exact .inr (.inl hk)
     ·exact .inr (.inr hs)
   have hw:=weave_swap (A:=A.map Kid.xs) (B:=B.map Kid.xs) hk' hxx
   rw [List.length_map] at hw
   have hpe:(A++c1::c2::B).map (fun g=>some g.b)=(A++([Kid.mk c1.b x1' (fun y o=>F' 1 y o\/F' 4 y o\/kinF gl y o),Kid.mk c2.b x2' (fun y o=>F' 2 y o\/F' 5 y o\/kinF gr y o)]++B)).map fun g=>some g.b:=by simp
   have hwe:(A++([Kid.mk c1.b x1' (fun y o=>F' 1 y o\/F' 4 y o\/kinF gl y o),Kid.mk c2.b x2' (fun y o=>F' 2 y o\/F' 5 y o\/kinF gr y o)]++B)).map Kid.xs=A.map Kid.xs++x1'::x2'::B.map Kid.xs:=by simp
   obtain ⟨f1,f2,f3,f4⟩:=t.far
   have gF:∀ c ∈ gl++gr,∀ n,n<6->Dj c.F (F' n):=fun c hc n hn y o g k=>by
    rw [hgg] at hc
    rcases s'.s n hn y o k with k | k
    ·exact f2 c hc y o g k
    ·have:y<w.heap.size:=by
      rcases List.mem_append.1 hc with hc | hc
      ·exact t.q1.lt c hc y o g
      ·exact t.q2.lt c hc y o g
     omega
   have hd12:Dj (fun y o=>F' 1 y o\/F' 4 y o\/kinF gl y o) (fun y o=>F' 2 y o\/F' 5 y o\/kinF gr y o):=by
    intro y o g k
    rcases g with g | g | ⟨c,hc,g⟩<;>rcases k with k | k | ⟨e,he,k⟩
    ·exact s'.d 1 2 (by simp) (by simp) (by decide) y o g k
    ·exact s'.d 1 5 (by simp) (by simp) (by decide) y o g k
    ·exact gF e (by simp [he]) 1 (by decide) y o k g
    ·exact s'.d 4 2 (by simp) (by simp) (by decide) y o g k
    ·exact s'.d 4 5 (by simp) (by simp) (by decide) y o g k
    ·exact gF e (by simp [he]) 4 (by decide) y o k g
    ·exact gF c (by simp [hc]) 2 (by decide) y o g k
    ·exact gF c (by simp [hc]) 5 (by decide) y o g k
    ·rw [<-hgg] at f3
     exact (List.pairwise_append.1 f3).2.2 c hc e he y o g k
   have hls:(ks.set A.length x).length=ks.length:=List.length_set
   obtain ⟨F'',T',hF''⟩:=t.closeP s' rfl [Kid.mk c1.b x1' (fun y o=>F' 1 y o\/F' 4 y o\/kinF gl y o),Kid.mk c2.b x2' (fun y o=>F' 2 y o\/F' 5 y o\/kinF gr y o)] (ks':=ks.set A.length x) (lo:=ks.length-1) rfl (by rw [<-hpe];rfl)
    (by simp only [List.length_append,List.length_cons,List.length_nil];omega)
    (fun n hn=>by
     rcases List.mem_cons.1 hn with rfl | hn
     ·exact T1
     ·obtain rfl:=List.mem_singleton.1 hn;exact T2) hR (by
     rw [hwe,<-hlmA]
     refine hN.swap (fun k' h0 hk''=>hV k' (by rwa [List.length_map] at h0) (by rwa [List.length_map] at hk'') _ fun s hs=>hmem s (by simp [hs])) hQx)
    (fun n hn y o g=>by
     rcases List.mem_cons.1 hn with rfl | hn
     ·rcases g with g | g | ⟨c,hc,g⟩
      ·exact .inl ⟨1,by decide,g⟩
      ·exact .inl ⟨4,by decide,g⟩
      ·exact .inr ⟨c,by rw [<-hgg];simp [hc],g⟩
     ·obtain rfl:=List.mem_singleton.1 hn
      rcases g with g | g | ⟨c,hc,g⟩
      ·exact .inl ⟨2,by decide,g⟩
      ·exact .inl ⟨5,by decide,g⟩
      ·exact .inr ⟨c,by rw [<-hgg];simp [hc],g⟩)
    (List.pairwise_pair.2 hd12) (by omega) (by omega) (by rw [hwe,<-hw,<-hmap];exact hcnt)
   rw [hwe,<-hw,<-hmap] at T'
   exact ⟨F'',T',s'.x.mono fun y o _ g=>t.six g,hF''⟩
  by_cases hgt:k2.length<k1.length
  ·obtain ⟨ls,x,rfl⟩:∃ ls x,k1=ls++[x]:=⟨k1.dropLast,k1.getLast (by intro h;rw [h] at hgt;simp at hgt),(List.dropLast_concat_getLast _).symm⟩
   obtain ⟨cg,x1',x2',gl,gr,Q1,Q2,hxx,hgg,-,hxm,e1,e2,e3,hg⟩:=K1P.right hA (k:=k) K2P hkP
   have hsx:x1'.length+1+x2'.length=c1.xs.length+1+c2.xs.length:=by
    have:=congrArg List.length hxx
    simp only [List.length_append,List.length_cons] at this
    omega
   refine CallK_mono (reb_right m d b c1.b c2.b bc i0 A.length c1.xs.length c2.xs.length iso cnt ks ls k2 k x _ p1 p2 ch1 ch2 w w _ hd hd' hc hG s hj hks hk hps hp hq t.ch h1' h2' (by omega) (by omega) (by omega) hgt cg e3 (by omega) ?_) ?_
   ·rcases hg with hg | ⟨c,p',hp',hcm,hr,hself⟩
    ·exact .inl hg
    ·exact .inr ⟨c.b,p',hp',hr,far (by simp [hcm]) hself⟩
   ·rintro v w' ⟨F',K',s'⟩
    rw [List.length_append,List.length_singleton] at h1 h1' hlt hgt hsh
    exact two s' rfl Q1 Q2 (hVx (by omega) x hxm _ fun s hs=>by
     have:s ∈ c1.xs++k::c2.xs:=by rw [hxx];simp [hs]
     rcases List.mem_append.1 this with hs | hs
     ·exact .inl hs
     ·rcases List.mem_cons.1 hs with rfl | hs
      ·exact .inr (.inl hk)
      ·exact .inr (.inr hs)) hxx hgg (by rw [e1]) (by rw [e2]) (by omega) (by omega) (by rw [List.length_cons];omega) (by rw [List.length_cons];omega)
  ·obtain ⟨x,rs,rfl⟩:∃ x rs,k2=x::rs:=by
    cases k2 with
    | nil=>rw [List.length_nil] at hgt hlt;omega
    | cons x rs=>exact ⟨x,rs,rfl⟩
   obtain ⟨cg,x1',x2',gl,gr,Q1,Q2,hxx,hgg,⟨l,hl⟩,e1,e2,e3,hg⟩:=K1P.left hA (k:=k) K2P hkP
   have hsx:x1'.length+1+x2'.length=c1.xs.length+1+c2.xs.length:=by
    have:=congrArg List.length hxx
    simp only [List.length_append,List.length_cons] at this
    omega
   refine CallK_mono (reb_left m d b c1.b c2.b bc i0 A.length c1.xs.length c2.xs.length iso cnt ks k1 rs k x _ p1 p2 ch1 ch2 w w _ hd hd' hc hG s hj hks hk hps hp hq t.ch h1' h2' (by omega) (by omega) (by omega) (by omega) cg e3 (by omega) ?_) ?_
   ·rcases hg with hg | ⟨c,p',hp',hcm,hr,hself⟩
    ·exact .inl hg
    ·exact .inr ⟨c.b,p',hp',hr,far (by simp [hcm]) hself⟩
   ·rintro v w' ⟨F',K',s'⟩
    rw [List.length_cons] at h2 h2' hlt hgt hsh
    exact two s' rfl Q1 Q2 (hL (by omega) l x x2' hl) hxx hgg (by rw [e1]) (by rw [e2]) (by rw [List.length_append,List.length_singleton];omega) (by rw [List.length_append,List.length_singleton];omega) (by omega) (by omega)
set_option maxHeartbeats 1000000 in
theorem reb_shrP (m d:Nat) (iso:Int) (hd:2<=d) (hd':d<=128) (hc:Cfg w m iso d) {c:Kid It} (s:Shr E iso (d-1) (2*d-1) h w b bc cnt ks A c B F0 F3 K0 K3) (hm:∀ o,¬ (F0 m o\/F3 m o\/kinF (A++c::B) m o))
  (hlen:(A++c::B).length=ks.length+1) (hk0:1<=ks.length) (hks:ks.length<=2*d-1) (hcnt:cnt=((weave ((A++c::B).map Kid.xs) ks).length:Nat)) (hbig:(weave ((A++c::B).map Kid.xs) ks).length<1152921504606846976)
  {a:Option Addr} {n cap:Nat} (hr:rd w c.b 2=some (.slice a n cap)) (hn:n<d-1) (hQ:Anti Q) (sT:Tp E iso (d-1) (2*d-1) Q h w (d-1-1) c.b c.xs c.F) (sR:∀ a ∈ A++B,Tp E iso (d-1) (2*d-1) Q h w (d-1) a.b a.xs a.F) (hN:NP Q ((A++c::B).map Kid.xs) ks)
  (hV:∀ k,0<A.length->ks[A.length-1]? = some k->∀ S,Q k S) (hVA:∀ a ∈ A,∀ x ∈ a.xs,∀ S,Q x S) (hV2:∀ k,1<A.length->ks[A.length-2]? = some k->∀ S,Q k S) (hL:∀ c2 B',B=c2::B'->∀ l x r,c2.xs=l++x::r->Q x r) :
  CallK Try.prog 151 #[ptr m,ptr b,.int .i64 (A.length:Nat)] w fun _ w'=>∃ F'',Tp E iso (d-1) (2*d-1) Q (h+1) w' (ks.length-1) b (weave ((A++c::B).map Kid.xs) ks) F'' ∧
   Ext (fun y o=>F0 y o\/F3 y o\/kinF (A++c::B) y o) w w'/\∀ y o,F'' y o->(F0 y o\/F3 y o\/kinF (A++c::B) y o)\/w.heap.size<=y:=by
 obtain ⟨F1,F4,K1,K4,k1,ch1,p1,g1,n1,n4,q1,h1,h1',l1,f1⟩:=sT.split
 have hk1:=nd_len n1 hr
 have hl:(A++c::B).length=A.length+B.length+1:=by simp;omega
 by_cases hA:A.length<ks.length
 ·cases B with
  | nil=>rw [List.length_nil] at hl;omega
  | cons c2 B =>
   obtain ⟨F2,F5,K2,K5,k2,ch2,p2,g2,n2,n5,q2,h2,h2',l2,f2⟩:=(sR c2 (by simp)).split
   have t:Two E iso (d-1) (2*d-1) h w b bc cnt ks A B c c2 F0 F3 K0 K3 F1 F4 K1 K4 k1 ch1 p1 g1 F2 F5 K2 K5 k2 ch2 p2 g2:=⟨s.n0,s.n3,s.l0,n1,n4,l1,f1,q1.1,n2,n5,l2,f2,q2.1,fun e he=>s.rest e (by
    rcases List.mem_append.1 he with he | he
    ·simp [he]
    ·simp [he])⟩
   exact reb_twoP m d A.length iso hd hd' hc t hm hlen (.inl ⟨rfl,hA⟩) hks hcnt hbig (by omega) (by omega) h1' h2' (.inl (by omega)) hQ q1 q2 (fun e he=>sR e (by
    rcases List.mem_append.1 he with he | he
    ·simp [he]
    ·simp [he])) hN (fun k h0 hk S _=>hV k h0 hk S) (fun h=>by omega) fun _=>hL c2 B rfl
 ·obtain ⟨A,c0,rfl⟩:∃ A' c0,A=A'++[c0]:=⟨A.dropLast,A.getLast (by intro h;rw [h,List.length_nil] at hA;omega),(List.dropLast_concat_getLast _).symm⟩
  have hB:B=[]:=List.eq_nil_of_length_eq_zero (by omega)
  subst hB
  obtain ⟨F2,F5,K2,K5,k2,ch2,p2,g2,n2,n5,q2,h2,h2',l2,f2⟩:=(sR c0 (by simp)).split
  have e:A++[c0]++[c]=A++c0::c::[]:=by simp
  obtain ⟨s1,s2,s3,s4,s5⟩:=s
  rw [List.length_append,List.length_singleton] at hl hA
  rw [e] at s2 s3 hm hlen hcnt hbig hN ⊢
  have t:Two E iso (d-1) (2*d-1) h w b bc cnt ks A [] c0 c F0 F3 K0 K3 F2 F5 K2 K5 k2 ch2 p2 g2 F1 F4 K1 K4 k1 ch1 p1 g1:=⟨s1,s2,s3,n2,n5,l2,f2,q2.1,n1,n4,l1,f1,q1.1,fun e he=>s5 e (by
   simp at he;simp [he])⟩
  have hi:(A++[c0]).length=ks.length:=by
   rw [List.length_append,List.length_singleton]
   simp only [List.length_append,List.length_cons,List.length_nil] at hlen
   omega
  exact reb_twoP m d (A++[c0]).length iso hd hd' hc t hm hlen (.inr ⟨hi,by rw [<-hi];simp⟩) hks hcnt hbig (by omega) (by omega) h2' h1' (.inr (by omega)) hQ q2 q1 (fun e he=>sR e (by
   simp at he;simp [he])) hN (fun k h0 hk S _=>hV2 k (by simp;omega) (by simpa using hk) S) (fun _ x hx S _=>hVA c0 (by simp) x hx S) fun h=>by omega
end
end Go.Proofs.Ytbnnkcofnmipoaa
namespace Go.Proofs.Ytbnnkcofnmipoaa
open Go
section
variable {α R:Type} (O:SOrd R) (κ:α->R)
def delR (mx:Bool) (q:R) (xs:List α):Option (α × List α) :=
 if mx=true then xs.getLast?.map fun y=>(y,xs.dropLast) else (at? O κ q xs).map fun y=>(y,del O κ q xs)
variable {O κ}
theorem delR_max {q:R} {A m:List α} (hm:m ≠ []):delR O κ true q (A++m)=(delR O κ true q m).map fun p=>(p.1,A++p.2):=by
 simp only [delR,↓reduceIte]
 obtain ⟨l,x,rfl⟩:∃ l x,m=l++[x]:=⟨m.dropLast,m.getLast hm,(List.dropLast_concat_getLast hm).symm⟩
 rw [<-List.append_assoc,List.getLast?_concat,List.getLast?_concat,List.dropLast_concat,List.dropLast_concat]
 rfl
theorem delR_last {q:R} {l:List α} {x:α}:delR O κ true q (l++[x])=some (x,l):=by
 simp only [delR,↓reduceIte,List.getLast?_concat,List.dropLast_concat,Option.map_some]
theorem delR_key {A C:List α} {k:α} (ha:Asc O κ (A++k::C)):delR O κ false (κ k) (A++k::C)=some (k,A++C):=by
 obtain ⟨h1,h2⟩:=found_mid O κ ha
 have h3:(A++k::C)[A.length]? = some k:=by simp
 simp only [delR,at?,del,h2,h1,↓reduceIte,h3,Option.map_some,Bool.false_eq_true]
 rw [List.eraseIdx_append_of_length_le (Nat.le_refl _)]
 simp
theorem delR_leaf {q:R} {xs:List α} {k:α} (hh:hit O κ q xs=true) (hk:xs[lb O κ q xs]? = some k):delR O κ false q xs=some (k,xs.eraseIdx (lb O κ q xs)):=by
 simp only [delR,at?,del,hh,↓reduceIte,hk,Option.map_some,Bool.false_eq_true]
theorem delR_miss {q:R} {xs:List α} (hh:hit O κ q xs=false):delR O κ false q xs=none:=by
 simp only [delR,at?,hh,↓reduceIte,Option.map_none,Bool.false_eq_true]
theorem delR_mid {q:R} {a m c:List α} (ha:∀ x ∈ a,O.lt (κ x) q=true) (hc:∀ x ∈ c.head?,O.lt q (κ x)=true):delR O κ false q (a++m++c)=(delR O κ false q m).map fun p=>(p.1,a++p.2++c):=by
 cases hh:hit O κ q m with
 | false=>rw [delR_miss hh,delR_miss (by rw [hit_mid O κ ha hc];exact hh)];rfl
 | true =>
  obtain ⟨k,hk,_⟩:=hit_at O κ hh
  have hl:=lb_mid O κ (q:=q) (a:=a) (m:=m) (c:=c) ha fun x hx=>O.asym (hc x hx)
  have hi:=(List.getElem?_eq_some_iff.1 hk).1
  rw [delR_leaf hh hk,delR_leaf (k:=k) (by rw [hit_mid O κ ha hc];exact hh) (by
   rw [hl,List.append_assoc,List.getElem?_append_right (by omega),Nat.add_sub_cancel_left,List.getElem?_append_left hi];exact hk),hl]
  simp only [Option.map_some,List.append_assoc]
  rw [List.eraseIdx_append_of_length_le (by omega),Nat.add_sub_cancel_left,List.eraseIdx_append_of_lt_length hi]
theorem delR_len {mx:Bool} {q:R} {xs ys:List α} {y:α} (h:delR O κ mx q xs=some (y,ys)):ys.length+1=xs.length:=by
 cases mx with
 | true =>
  rcases List.eq_nil_or_concat xs with rfl | ⟨l,x,rfl⟩
  ·simp [delR] at h
  ·rw [List.concat_eq_append,delR_last] at h
   cases h
   simp
 | false =>
  cases hh:hit O κ q xs with
  | false=>rw [delR_miss hh] at h;cases h
  | true =>
   obtain ⟨k,hk,_⟩:=hit_at O κ hh
   have hi:=(List.getElem?_eq_some_iff.1 hk).1
   rw [delR_leaf hh hk] at h
   cases h
   rw [List.length_eraseIdx_of_lt hi];omega
theorem delR_asc {mx:Bool} {q:R} {xs ys:List α} {y:α} (ha:Asc O κ xs) (h:delR O κ mx q xs=some (y,ys)):Asc O κ ys:=by
 cases mx with
 | true =>
  rcases List.eq_nil_or_concat xs with rfl | ⟨l,x,rfl⟩
  ·simp [delR] at h
  ·rw [List.concat_eq_append,delR_last] at h
   rw [List.concat_eq_append] at ha
   cases h
   exact ((Asc.append O κ).1 ha).1
 | false =>
  cases hh:hit O κ q xs with
  | false=>rw [delR_miss hh] at h;cases h
  | true =>
   obtain ⟨k,hk,_⟩:=hit_at O κ hh
   rw [delR_leaf hh hk] at h
   cases h
   exact ha.sublist (List.eraseIdx_sublist _ _)
theorem weave_end:∀ (L:List (List α)) (ks:List α),L.length=ks.length->∃ A,∀ c,weave (L++[c]) ks=A++c
 | [],[],_=>⟨[],fun _=>rfl⟩
 | [],_::_,h=>by simp at h
 | _::_,[],h=>by simp at h
 | a::L,k::ks,h=>by
  obtain ⟨A,hA⟩:=weave_end L ks (by simpa using h)
  exact ⟨a++k::A,fun c=>by rw [List.cons_append,weave_cons,hA];simp⟩
theorem weave_ahead {L B:List (List α)} {ks:List α} {k:α} (hk:ks[L.length]? = some k):∃ A C,∀ c y,weave (L++c::B) (ks.set L.length y)=A++c++y::C:=by
 have hi:=(List.getElem?_eq_some_iff.1 hk).1
 obtain ⟨A,hA⟩:=weave_end L (ks.take L.length) (by rw [List.length_take];omega)
 refine ⟨A,weave B (ks.drop (L.length+1)),fun c y=>?_⟩
 rw [List.set_eq_take_append_cons_drop,if_pos hi,<-hA c]
 have:=weave_cat (L++[c]) B (ks.take L.length) (ks.drop (L.length+1)) y (by rw [List.length_append,List.length_take,List.length_singleton];omega)
 rw [List.append_assoc] at this
 exact this
end
end Go.Proofs.Ytbnnkcofnmipoaa
namespace Go.Proofs.Ytbnnkcofnmipoaa
open Go Go.Proofs
def DelQ (ord:List Int) (d:Nat) (iso:Int) (h lo b:Nat) (xs:List It) (mx:Bool) (x:It) (hp:Option Nat) (F:Nat->Nat->Prop) (w:World) (v:Value) (w':World):Prop :=
 Ext (fun y o=>F y o\/hF hp y o) w w'/\HOk hp w'/\∃ F':Nat->Nat->Prop,(∀ y o,F' y o->F y o\/w.heap.size<=y) ∧
  ((delR O (rkI ord) mx (rkI ord x) xs=none/\v = .tuple #[itV zIt,.bool false]/\Tr E iso (d-1) (2*d-1) h w' lo b xs F') ∨
   ∃ y ys,delR O (rkI ord) mx (rkI ord x) xs=some (y,ys)/\v = .tuple #[itV y,.bool true]/\Tr E iso (d-1) (2*d-1) h w' (lo-1) b ys F')
theorem dz_it:zK Try.prog 33=some (E.cel zIt):=by kernel_rfl
theorem dsrch (ord:List Int) (ks:List It) (x:It):srchG ord ks x = .tuple #[.int .i64 (lb O (rkI ord) (rkI ord x) ks:Nat),.bool (hit O (rkI ord) (rkI ord x) ks)]:=id (Eq.trans rfl rfl)
theorem dropL {α:Type} {l:List α} (h:0<l.length):l.eraseIdx (l.length-1)=l.dropLast:=by
 rw [List.eraseIdx_eq_take_drop_succ,List.drop_eq_nil_of_le (by omega),List.append_nil,List.dropLast_eq_take]
set_option maxHeartbeats 8000000 in
set_option maxRecDepth 8000 in
theorem del_any (B m d:Nat) (iso:Int) (ord:List Int) (hd:2<=d) (hd':d<=128):∀ (h lo b:Nat) (xs:List It) (F:Nat->Nat->Prop) (w:World) (pc po:Nat) (mx:Bool) (x:It) (hp:Option Nat) (dep:Nat),Cfg w m iso d->Ls B m w ord →
  (∀ y o,F y o->m<y)->dep+h<1152921504606846976->1<=lo->Tr E iso (d-1) (2*d-1) h w lo b xs F->Asc O (rkI ord) xs->xs.length<1152921504606846976->rd w pc po=some (ptr b)->HOk hp w->(∀ hb,hp=some hb->m<hb/\∀ o,¬ F hb o) →
  CallK Try.prog 126 #[ptr m,.pointer (some ⟨pc,po,none⟩),.bool mx,itV x,hV hp,.int .i64 dep] w (DelQ ord d iso h lo b xs mx x hp F w):=by
 intro h
 induction h using Nat.strongRecOn with
 | _ h ihh =>
 intro lo b xs F w pc po mx x hp dep hc hL hBF hdep hlo ht ha hbig hpp hH hHF
 obtain ⟨bi,oi,cap,ks,ch,ho,hl1,hl2,hoF,hin⟩:=ht.open
 have hbl:=wok_lt ho.wb
 have hbil:=wok_lt ho.wi
 have hml:=wok_lt hc.wok
 have hcap:=ho.le
 have hm:∀ o,¬ F m o:=fun o g=>by have:=hBF m o g;omega
 have hFh:∀ y o,F y o->¬ hF hp y o:=fun y o g k=>(hHF y k).2 o g
 have hHl:∀ y o,hF hp y o->y<w.heap.size:=fun y o g=>wok_lt (hH y g).wok
 have hmh:∀ o,¬ hF hp m o:=fun o g=>by have:=(hHF m g).1;omega
 have hak:Asc O (rkI ord) ks:=by
  rcases hin with ⟨_,_,hx,_⟩ | ⟨_,_,_,_,_,cs,_,_,n⟩
  ·rw [<-hx];exact ha
  ·refine List.Pairwise.sublist ?_ ha
   rw [n.eq];exact weave_sub _ _ (by simpa using n.len)
 have hkb:ks.length<4611686018427387904:=Nat.lt_of_le_of_lt hl2 (by clear hin hoF hFh;omega)
 have hch:∃ cc,ch = .pointer cc:=by
  rcases hin with ⟨_,h,_⟩ | ⟨_,bc,_,_,_,_,_,h,_⟩
  ·exact ⟨_,h⟩
  ·exact ⟨_,h⟩
 obtain ⟨cc,hcc⟩:=hch
 refine calls_of_W [.cell 12 33,.tmp 13] Try.func126 rfl Try.ntmps126 Try.results126 (by simp) fun e he=>?_
 have e0:e 0=ptr m:=he 0 _ rfl
 have e1:e 1 = .pointer (some ⟨pc,po,none⟩):=he 1 _ rfl
 have e2:e 2 = .bool mx:=he 2 _ rfl
 have e3:e 3=itV x:=he 3 _ rfl
 have e4:e 4=hV hp:=he 4 _ rfl
 have e5:e 5 = .int .i64 dep:=he 5 _ rfl
 clear he
 refine W_sq fun K hK=>(W_text [false,false,true] (by kernel_rfl) ?_);simp only [↓zZ1,↓reduceIte,Nat.reduceEqDiff,rg,ow_126]
 refine do_box (by simp only [evt];exact e3) fun w1 n1=>⟨trivial,?_⟩
 simp only [↓zZ1,↓reduceIte,Nat.reduceEqDiff,rg,ow_126]
 refine do_alloc dz_it fun w2 n2=>⟨trivial,?_⟩
 simp only [↓zZ1,↓reduceIte,Nat.reduceEqDiff,rg,ow_126]
 apply hK;clear hK K
 have X2:Ext noF w w2:=n1.ext.tr n2.ext
 have rk2:Row w2 w.heap.size 0 (E.cel x):=n2.ext.row n1.row fun _ _ g=>g
 have s1:=n1.size
 have s2:=n2.size
 obtain ⟨r0,hr0⟩:∃ r0,r0=w1.heap.size:=⟨_,rfl⟩
 have wr2:wok w2 r0 2:=by rw [hr0];exact n2.wok
 have hr0':r0=w.heap.size+1:=by omega
 rw [<-hr0]
 clear hr0
 have p2:=X2.rd hpp fun g=>g
 have i2:=X2.rd hc.iso fun g=>g
 have b2:=X2.rd ho.h0 fun g=>g
 refine W_sq fun K hK=>(W_text [true,true,false,true] (by kernel_rfl) ?_);simp only [↓zZ1,↓reduceIte,Nat.reduceEqDiff,rg,ow_126,e0,e1]
 refine do_call fn_96 (by simp only [zZ2,Nat.reduceEqDiff,↓reduceIte,zZ4]<;>rfl) (isoLoad_any m pc po b true iso w2 i2 p2 b2) ?_
 rintro _ w3 ⟨rfl,r3⟩
 refine ⟨trivial,?_⟩
 simp only [↓zZ1,↓reduceIte,Nat.reduceEqDiff,rg,ow_126]
 apply hK;clear hK K
 have x3:Ext noF w2 w3:=r3.ext
 have X3:Ext noF w w3:=X2.tr x3
 have rk3:=x3.row rk2 fun _ _ g=>g
 have wr3:=x3.wok wr2
 have s3:=x3.size
 have hs3:w.heap.size+2<=w3.heap.size:=by omega
 clear n1 n2 X2 rk2 wr2 s1 x3 r3 p2 i2 b2
 refine W_sq fun K hK=>(W_text [true] (by kernel_rfl) ?_);simp only [↓zZ1,↓reduceIte,Nat.reduceEqDiff,rg,ow_126]
 apply hK;clear hK K
 refine W_sq fun K hK=>(W_text [true] (by kernel_rfl) ?_);simp only [↓zZ1,↓reduceIte,Nat.reduceEqDiff,rg,ow_126]
 apply hK;clear hK K
 refine W_sqx fun J hJ=>?_
 have hend:∀ (e:Env) (w3:World) (fnd:Bool) (i:Nat),((mx=true/\fnd=true/\i=ks.length-1)\/(mx=false/\i=lb O (rkI ord) (rkI ord x) ks/\fnd=hit O (rkI ord) (rkI ord x) ks))->Ext (hF hp) w w3->HOk hp w3->Row w3 w.heap.size 0 (E.cel x)->wok w3 r0 2->w.heap.size+2<=w3.heap.size →
   e 0=ptr m->e 2 = .bool mx->e 4=hV hp->e 5 = .int .i64 dep->e 9=ptr w.heap.size->e 12=ptr r0->e 14=ptr b->e 15 = .int .i64 i->e 16 = .bool fnd->J e w3:=by
  clear e0 e1 e2 e3 e4 e5 X3 rk3 wr3 s2 s3 hs3
  clear e w3
  intro e w3 fnd i hfi X3 hH3 rk3 wr3 s3 e0 e2 e4 e5 e9 e12 e14 e15 e16
  refine hJ _ _ ?_;clear hJ J
  have o3:=ho.ext X3 fun y o g=>hFh y o (hoF y o g)
  have c3:=hc.ext X3 fun o _ _=>hmh o
  refine W_seq ?_
  rcases (id hin:_\/_) with ⟨rfl,hcn,hxk,hFo⟩ | ⟨h',bc,ba,oa,capc,cs,rfl,hcn,n⟩
  ·have hxk:=hxk.symm
   subst hxk
   rw [hcn] at o3
   refine W_sq fun K hK=>(W_text [true,false] (by kernel_rfl) ?_);simp only [↓zZ1,↓reduceIte,Nat.reduceEqDiff,rg,ow_126,e14]
   refine do_call fn_108 (by simp only [zZ2,Nat.reduceEqDiff,↓reduceIte,zZ4]<;>rfl) (leaf_any b none w3 o3.h3) ?_
   rintro _ w4 ⟨rfl,hw4⟩
   obtain rfl:w3=w4:=hw4.symm
   refine ⟨trivial,?_⟩
   simp only [↓zZ1,↓reduceIte,Nat.reduceEqDiff,rg,ow_126]
   apply hK;clear hK K
   refine W_true (by simp only [zZ2,Nat.reduceEqDiff,↓reduceIte,zZ3]<;>rfl) (W_seq ?_)
   refine W_sq fun K hK=>(W_text [true] (by kernel_rfl) ?_);simp only [↓zZ1,↓reduceIte,Nat.reduceEqDiff,rg,ow_126,e16]
   apply hK;clear hK K
   cases fnd with
   | false =>
    refine W_false (by simp only [zZ2,Nat.reduceEqDiff,↓reduceIte,zZ3]<;>rfl) (W_skip ?_)
    show W _ _ _ _ _ _
    have z3:=zIt_at c3
    refine W_sq fun K hK=>(W_text [true,true,true,true,false,true] (by kernel_rfl) ?_);simp only [↓zZ1,↓reduceIte,Nat.reduceEqDiff,rg,ow_126,e0,ptr_eq,z3]
    refine do_store (by simp only [zZ2,Nat.reduceEqDiff,↓reduceIte];exact e12) (by simp only [zZ2,Nat.reduceEqDiff,↓reduceIte,zZ3]<;>rfl) sz_33 (rb_len zIt) wr3 (by decide) (rb_oc zIt) fun w5 x5 r5 s5=>⟨trivial,?_⟩
    simp only [↓zZ1,↓reduceIte,Nat.reduceEqDiff,rg,ow_126]
    apply hK;clear hK K
    obtain ⟨hmx,hi,hh⟩:mx=false/\i=lb O (rkI ord) (rkI ord x) ks/\false=hit O (rkI ord) (rkI ord x) ks:=by
     rcases hfi with ⟨_,h,_⟩ | h
     ·cases h
     ·exact h
    subst hmx
    have X5:Ext (hF hp) w w5:=X3.trans x5 (fun _ _ g=>g) fun y o hy g=>by simp only [rng] at g;omega
    refine W_ret (endQ_ct e12 (by simp only [upd_eq,Nat.reduceEqDiff,↓reduceIte]<;>rfl) ld_33 (iX_at (show Row w5 r0 0 (E.cel zIt) from r5)) ⟨X5.mono fun _ _ _ g=>.inr g,hH3.ext x5 (fun hb hh o g=>?_),F,fun _ _ g=>.inl g,.inl ⟨delR_miss hh.symm,rfl,ht.ext X5 hFh⟩⟩)
    have:=hHl hb 0 hh
    simp only [rng] at g;omega
   | true =>
    refine W_true (by simp only [zZ2,Nat.reduceEqDiff,↓reduceIte,zZ3]<;>rfl) ?_
    have hi:i<ks.length:=by
     rcases hfi with ⟨_,_,h⟩ | ⟨_,h,hh⟩
     ·omega
     ·obtain ⟨k,hk,_⟩:=hit_at O (rkI ord) hh.symm
      rw [h];exact (List.getElem?_eq_some_iff.1 hk).1
    obtain ⟨k,hk⟩:∃ k,ks[i]? = some k:=⟨_,List.getElem?_eq_getElem hi⟩
    have hdel:delR O (rkI ord) mx (rkI ord x) ks=some (k,ks.eraseIdx i):=by
     rcases hfi with ⟨rfl,_,h⟩ | ⟨rfl,h,hh⟩
     ·have:ks=ks.dropLast++[k]:=by
       conv=>lhs;rw [<-List.dropLast_concat_getLast (l:=ks) (by intro h;rw [h] at hi;simp at hi)]
       congr 2
       rw [List.getLast_eq_getElem]
       subst h
       exact (List.getElem?_eq_some_iff.1 hk).2
      rw [h,dropL (by omega)]
      conv=>lhs;rw [this]
      exact delR_last
     ·rw [h] at hk ⊢
      exact delR_leaf hh.symm hk
    have hkv:=it_at o3.row hk
    refine W_sq fun K hK=>(W_text [true,true,true,true,true,true,true,false,false] (by kernel_rfl) ?_);simp only [↓zZ1,↓reduceIte,Nat.reduceEqDiff,rg,ow_126,e14,e15,ptr_eq,o3.h2,hi,hkv]
    refine do_alloc dz_it fun w4 n4=>⟨trivial,?_⟩
    simp only [↓zZ1,↓reduceIte,Nat.reduceEqDiff,rg,ow_126]
    refine do_store (by simp only [zZ2,Nat.reduceEqDiff,↓reduceIte,zZ3]<;>rfl) (by simp only [zZ2,Nat.reduceEqDiff,↓reduceIte,zZ3]<;>rfl) sz_33 (rb_len k) n4.wok (by decide) (rb_oc k) fun w5 x5 r5 s5=>⟨trivial,?_⟩
    simp only [↓zZ1,↓reduceIte,Nat.reduceEqDiff,rg,ow_126]
    apply hK;clear hK K
    have s4:=n4.size
    have X5:Ext noF w3 w5:=noF_of n4.ext x5 fun y o hy g=>by simp only [rng] at g;omega
    obtain ⟨q,hq⟩:∃ q,q=w3.heap.size:=⟨_,rfl⟩
    rw [<-hq] at r5 ⊢
    have rq5:Row w5 q 0 (E.cel k):=r5
    have o5:=o3.ext X5 fun _ _ _ g=>g
    have hqo:∀ o,¬ ownF E b bi oi cap q o:=fun o g=>by have:=ho.lt g;omega
    have hro:∀ o,¬ ownF E b bi oi cap r0 o:=fun o g=>by have:=ho.lt g;omega
    have hmo:∀ o,¬ ownF E b bi oi cap m o:=fun o g=>hm o (hoF _ _ g)
    have q1:=wadd1 i (by omega)
    have i1:i<=ks.length:=by omega
    have i2:i+1<=ks.length:=by omega
    obtain ⟨o1,h1,h1',-,k1⟩:=o5.se.from E_sz i i1
    obtain rfl:=h1' (by omega)
    obtain ⟨o2,h2,-,v2,-⟩:=o5.se.from E_sz (i+1) i2
    refine W_sq fun K hK=>(W_draw (some none) (some 13) [(0,0,0),(0,1,0),(0,2,0),(0,3,0),(0,4,0),(0,5,0),(0,6,0),(0,7,0),(0,8,0),(0,9,0),(0,10,0),(0,11,0),(0,12,0),(1,13,0)] mixed (by kernel_rfl) ?_);simp only [↓zZ1,↓reduceIte,Nat.reduceEqDiff,rg,ow_126,e14,e15,ptr_eq,o5.h2,q1,i1,i2,h1,h2]
    refine do_copy (by simp only [zZ2,Nat.reduceEqDiff,↓reduceIte,zZ3]<;>rfl) (by simp only [zZ2,Nat.reduceEqDiff,↓reduceIte,zZ3]<;>rfl) rb_eli (SlV.ext0 v2 (Ext.dr noF w5 (w5.drawn+1))) ((Ext.dr noF w5 (w5.drawn+1)).wok k1) (flat_oc E _) fun w6 x6 r6 s6=>⟨(by first | exact trivial | exact .inl trivial),?_⟩
    simp only [↓zZ1,↓reduceIte,Nat.reduceEqDiff,rg,ow_126]
    apply hK;clear hK K
    have hmn:min (ks.length-(i+1)) (ks.length-i)=ks.length-1-i:=by omega
    rw [hmn] at x6 r6
    rw [List.take_of_length_le (by rw [flat_length,List.length_drop,E_sz];omega)] at r6
    obtain ⟨z,g1,g2⟩:=o5.se.down (i:=i) hi x6.od r6
    have o6:=o5.step g1 g2
    have X6:Ext (ownF E b bi oi cap) w3 w6:=X5.trans g2 (fun _ _ g=>g.elim) fun _ _ _ g=>seF_own g
    have le:=List.length_eraseIdx_of_lt hi
    have hA:(ks.eraseIdx i++[z]).length=ks.length:=by rw [List.length_append,List.length_singleton];omega
    have h26:=o6.h2
    have h46:=o6.le
    rw [hA] at h26 h46
    have q2:=wsub1 ks.length (by omega) (by omega)
    have i3:ks.length-1<ks.length:=by omega
    have z6:=zIt_at (c3.ext X6 fun o _ _=>hmo o)
    refine W_sq fun K hK=>(W_draw (some none) (some 15) [(0,0,0),(0,1,0),(0,2,0),(0,3,0),(0,4,0),(0,5,0),(0,6,0),(0,7,0),(0,8,0),(0,9,0),(0,10,0),(0,11,0),(0,12,0),(0,13,0),(0,14,0),(1,15,0)] mixed (by kernel_rfl) ?_);simp only [↓zZ1,↓reduceIte,Nat.reduceEqDiff,rg,ow_126,e0,e14,ptr_eq,h26,q2,i3,z6]
    refine do_store (by simp only [zZ2,Nat.reduceEqDiff,↓reduceIte,zZ3]<;>rfl) (by simp only [zZ2,Nat.reduceEqDiff,↓reduceIte,zZ3]<;>rfl) sz_33 (rb_len zIt) o6.wi (by rw [E_sz];omega) (rb_oc zIt) fun w7 x7 r7 s7=>⟨(by first | exact trivial | exact .inl trivial),?_⟩
    simp only [↓zZ1,↓reduceIte,Nat.reduceEqDiff,rg,ow_126]
    apply hK;clear hK K
    obtain ⟨g3,g4⟩:=o6.se.set (i:=ks.length-1) (x:=zIt) (by rw [hA];omega) x7.od r7
    rw [show (ks.eraseIdx i++[z]).set (ks.length-1) zIt=ks.eraseIdx i++[zIt] by rw [show ks.length-1=(ks.eraseIdx i).length by omega];exact set_last] at g3
    have o7:=o6.step g3 g4
    have X7:Ext (ownF E b bi oi cap) w3 w7:=X6.tr (g4.mono fun _ _ _ g=>seF_own g)
    have hA':(ks.eraseIdx i++[zIt]).length=ks.length:=by rw [List.length_append,List.length_singleton];omega
    have h27:=o7.h2
    rw [hA'] at h27
    have i4:ks.length-1<=cap:=by omega
    refine W_sq fun K hK=>(W_draw (some none) (some 14) [(0,0,0),(0,1,0),(0,2,0),(0,3,0),(0,4,0),(0,5,0),(0,6,0),(0,7,0),(0,8,0),(0,9,0),(0,10,0),(0,11,0),(0,12,0),(0,13,0),(1,14,0)] mixed (by kernel_rfl) ?_);simp only [↓zZ1,↓reduceIte,Nat.reduceEqDiff,rg,ow_126,e14,ptr_eq,h27,q2,i4]
    refine do_store (by simp only [zZ2,Nat.reduceEqDiff,↓reduceIte,zZ3]<;>rfl) (by simp only [zZ2,Nat.reduceEqDiff,↓reduceIte,zZ3]<;>rfl) sz_25 rfl o7.wb (by decide) (oc_one rfl rfl) fun w8 x8 r8 s8=>⟨(by first | exact trivial | exact .inl trivial),?_⟩
    simp only [↓zZ1,↓reduceIte,Nat.reduceEqDiff,rg,ow_126]
    apply hK;clear hK K
    obtain ⟨g5,g6⟩:=o7.se.cut x8.od (by rw [le];exact (Row.cons.1 r8).1)
    have o8:=o7.step g5 g6
    have X8:Ext (ownF E b bi oi cap) w3 w8:=X7.tr (g6.mono fun _ _ _ g=>seF_own g)
    refine W_sq fun K hK=>(W_text [true,true,true,true,true,true,true,false] (by kernel_rfl) ?_);simp only [↓zZ1,↓reduceIte,Nat.reduceEqDiff,rg,ow_126,e14,ptr_eq,o8.h1,q2]
    refine do_store (by simp only [zZ2,Nat.reduceEqDiff,↓reduceIte,zZ3]<;>rfl) (by simp only [zZ2,Nat.reduceEqDiff,↓reduceIte,zZ3]<;>rfl) sz_3 rfl o8.wb (by decide) (oc_one rfl rfl) fun w9 x9 r9 s9=>⟨trivial,?_⟩
    simp only [↓zZ1,↓reduceIte,Nat.reduceEqDiff,rg,ow_126]
    apply hK;clear hK K
    have o9:=o8.cnt' x9 (Row.cons.1 r9).1
    have X9:Ext (ownF E b bi oi cap) w3 w9:=X8.tr (x9.mono fun _ _ _ g=>.inl g.1)
    have sz9:=X9.size
    have Y9:Ext (ownF E b bi oi cap) w5 w9:=(((g2.mono fun _ _ _ g=>seF_own g).tr (g4.mono fun _ _ _ g=>seF_own g)).tr (g6.mono fun _ _ _ g=>seF_own g)).tr (x9.mono fun _ _ _ g=>.inl g.1)
    have kq9:=iX_at (Y9.row rq5 fun j _=>hqo _)
    refine W_sq fun K hK=>(W_text [true,false,true] (by kernel_rfl) ?_);simp only [↓zZ1,↓reduceIte,Nat.reduceEqDiff,rg,ow_126,kq9]
    refine do_store (by simp only [zZ2,Nat.reduceEqDiff,↓reduceIte];exact e12) (by simp only [zZ2,Nat.reduceEqDiff,↓reduceIte,zZ3]<;>rfl) sz_33 (rb_len k) (X9.wok wr3) (by decide) (rb_oc k) fun w10 x10 r10 s10=>⟨trivial,?_⟩
    simp only [↓zZ1,↓reduceIte,Nat.reduceEqDiff,rg,ow_126]
    apply hK;clear hK K
    have X10:Ext (fun y o=>F y o\/hF hp y o) w w10:=(X3.trans X9 (fun _ _ g=>.inr g) fun y o _ g=>.inl (hoF y o g)).trans x10 (fun _ _ g=>g) fun y o hy g=>by simp only [rng] at g;omega
    have H10:HOk hp w10:=(hH3.ext X9 fun hb hh o g=>(hHF hb hh).2 o (hoF _ _ g)).ext x10 fun hb hh o g=>by
     have:=hHl hb 0 hh
     simp only [rng] at g;omega
    refine W_ret (endQ_ct e12 (by simp only [upd_eq,Nat.reduceEqDiff,↓reduceIte]<;>rfl) ld_33 (iX_at (show Row w10 r0 0 (E.cel k) from r10)) ⟨X10,H10,F,fun _ _ g=>.inl g,.inr ⟨k,ks.eraseIdx i,hdel,rfl,bi,oi,cap,?_,by omega,by omega,hFo⟩⟩)
    have o10:=o9.ext x10 fun y o g h=>by
     simp only [rng] at h
     exact hro o (by rw [<-h.1];exact g)
    rw [le]
    exact o10
  ·rw [hcn] at o3
   have hkF:∀ y o,kidF bc ba oa capc y o->F y o:=fun y o g=>(n.fp y o).2 (.inr (.inl g))
   have hcF:∀ c ∈ cs,∀ y o,c.F y o->F y o:=fun c hc y o g=>(n.fp y o).2 (.inr (.inr ⟨c,hc,g⟩))
   have n3:=n.ext X3 (fun y o g=>hFh y o (hkF y o g)) fun c hc y o g=>hFh y o (hcF c hc y o g)
   refine W_sq fun K hK=>(W_text [true,false] (by kernel_rfl) ?_);simp only [↓zZ1,↓reduceIte,Nat.reduceEqDiff,rg,ow_126,e14]
   refine do_call fn_108 (by simp only [zZ2,Nat.reduceEqDiff,↓reduceIte,zZ4]<;>rfl) (leaf_any b (some ⟨bc,0,none⟩) w3 o3.h3) ?_
   rintro _ w4 ⟨rfl,hw4⟩
   obtain rfl:w3=w4:=hw4.symm
   refine ⟨trivial,?_⟩
   simp only [↓zZ1,↓reduceIte,Nat.reduceEqDiff,rg,ow_126]
   apply hK;clear hK K
   refine W_false (by simp only [zZ2,Nat.reduceEqDiff,↓reduceIte,zZ3]<;>rfl) (W_skip ?_)
   show W _ _ _ _ _ _
   refine W_sq fun K hK=>(W_text [false] (by kernel_rfl) ?_);simp only [↓zZ1,↓reduceIte,Nat.reduceEqDiff,rg,ow_126]
   refine do_alloc dz_it fun w4 n4=>⟨trivial,?_⟩
   simp only [↓zZ1,↓reduceIte,Nat.reduceEqDiff,rg,ow_126]
   apply hK;clear hK K
   refine W_sq fun K hK=>(W_text [true] (by kernel_rfl) ?_);simp only [↓zZ1,↓reduceIte,Nat.reduceEqDiff,rg,ow_126]
   apply hK;clear hK K
   obtain ⟨q,hq⟩:∃ q,q=w3.heap.size:=⟨_,rfl⟩
   have wq4:wok w4 q 2:=by rw [hq];exact n4.wok
   have s4:=n4.size
   have x4:Ext noF w3 w4:=n4.ext
   rw [<-hq]
   have X4:Ext (hF hp) w w4:=X3.trans x4 (fun _ _ g=>g) fun _ _ _ g=>g.elim
   have H4:=hH3.ext0 x4
   have rk4:=x4.row rk3 fun _ _ g=>g
   have wr4:=x4.wok wr3
   have hs4:w.heap.size+3<=w4.heap.size:=by omega
   have hqs:w.heap.size+2<=q/\q<w4.heap.size:=by omega
   have o4:=o3.ext x4 fun _ _ _ g=>g
   have nn:=n3.ext x4 (fun _ _ _ g=>g) fun _ _ _ _ _ g=>g
   have hrq:r0 ≠ q:=by omega
   clear n3 o3 c3 X3 hH3 rk3 wr3 s3 n4 x4 s4 hq
   refine W_sqx fun J hJ=>?_
   have hyes:∀ (e:Env) (w5:World) (y:It) (A Bq:List (Kid It)) (c:Kid It) (ks' ys:List It) (F0 F3:Nat->Nat->Prop) (K0 K3:Nat),Shr E iso (d-1) (2*d-1) h' w5 b bc (xs.length:Nat) ks' A c Bq F0 F3 K0 K3->ks'.length=ks.length->(A++c::Bq).length=ks'.length+1 →
     ys=weave ((A++c::Bq).map Kid.xs) ks'->delR O (rkI ord) mx (rkI ord x) xs=some (y,ys)->Ext (fun y o=>F y o\/hF hp y o) w w5->HOk hp w5->(∀ y o,(F0 y o\/F3 y o\/kinF (A++c::Bq) y o)->F y o\/w.heap.size<=y)->Row w5 q 0 (E.cel y)->wok w5 r0 2 →
     (∀ o,¬ (F0 q o\/F3 q o\/kinF (A++c::Bq) q o))->(∀ o,¬ (F0 r0 o\/F3 r0 o\/kinF (A++c::Bq) r0 o)) →
     e 0=ptr m->e 12=ptr r0->e 14=ptr b->e 15 = .int .i64 (A.length:Nat)->e 18=ptr q->e 19 = .bool true->J e w5:=by
    clear e0 e2 e4 e5 e9 e12 e14 e15 e16 X4 H4 rk4 wr4 wq4 o4 nn
    clear e
    intro e w5 y A Bq c ks' ys F0 F3 K0 K3 sh hkl hlen hys hdel X5 H5 hFs rq5 wr5 hqF hrF e0 e12 e14 e15 e18 e19
    refine hJ _ _ ?_;clear hJ J
    have hyl:=delR_len hdel
    refine W_seq ?_
    refine W_sq fun K hK=>(W_text [true,true] (by kernel_rfl) ?_);simp only [↓zZ1,↓reduceIte,Nat.reduceEqDiff,rg,ow_126,e19]
    apply hK;clear hK K
    refine W_false (by simp only [zZ2,Nat.reduceEqDiff,↓reduceIte,zZ3]<;>rfl) (W_skip ?_)
    show W _ _ _ _ _ _
    obtain ⟨bi',oi',cap',o5,hz,hK,hF0⟩:=sh.n0
    have q1:=wsub1 xs.length (by omega) (by omega)
    refine W_sq fun K hK=>(W_text [true,true,true,true,true,true,true,false] (by kernel_rfl) ?_);simp only [↓zZ1,↓reduceIte,Nat.reduceEqDiff,rg,ow_126,e14,ptr_eq,o5.h1,q1]
    refine do_store (by simp only [zZ2,Nat.reduceEqDiff,↓reduceIte,zZ3]<;>rfl) (by simp only [zZ2,Nat.reduceEqDiff,↓reduceIte,zZ3]<;>rfl) sz_3 rfl o5.wb (by decide) (oc_one rfl rfl) fun w6 x6 r6 s6=>⟨trivial,?_⟩
    simp only [↓zZ1,↓reduceIte,Nat.reduceEqDiff,rg,ow_126]
    apply hK;clear hK K
    have hb0:∀ y o,rng b 1 1 y o->F0 y o:=fun y o g=>(hF0 y o).2 (.inl g.1)
    have x6':Ext F0 w5 w6:=x6.mono fun y o _ g=>hb0 y o g
    have sh6:Shr E iso (d-1) (2*d-1) h' w6 b bc (ys.length:Nat) ks' A c Bq F0 F3 K0 K3:=⟨⟨bi',oi',cap',by rw [show ys.length=xs.length-1 by omega];exact o5.cnt' x6 (Row.cons.1 r6).1,hz,hK,hF0⟩,
     (kdO _ _).loc sh.n3 x6' sh.l0.d.symm,sh.l0,sh.t.ext x6' (sh.l0.g1 c (by simp)),fun a ha=>(sh.rest a ha).ext x6' (sh.l0.g1 a (by
      rcases List.mem_append.1 ha with ha | ha
      ·simp [ha]
      ·simp [ha]))⟩
    have X6:Ext (fun y o=>F y o\/hF hp y o) w w6:=X5.trans x6' (fun _ _ g=>g) fun y o hy g=>by
     rcases hFs y o (.inl g) with h | h
     ·exact .inl h
     ·omega
    have H6:HOk hp w6:=H5.ext x6' fun hb hh o g=>by
     rcases hFs hb o (.inl g) with h | h
     ·exact (hHF hb hh).2 o h
     ·have:=hHl hb 0 hh;omega
    have rq6:=x6'.row rq5 fun j _ g=>hqF _ (.inl g)
    have wr6:=x6'.wok wr5
    clear sh o5 X5 H5 rq5 wr5 x6 r6 s6 x6' hb0 q1 hz hK hF0
    have hmF:∀ o,¬ (F0 m o\/F3 m o\/kinF (A++c::Bq) m o):=fun o g=>by
     rcases hFs m o g with h | h
     ·exact hm o h
     ·omega
    have c6:=hc.ext X6 fun o _ _ g=>g.elim (hm o) (hmh o)
    refine W_sqx fun J hJ=>?_
    have hfin:∀ (e:Env) (w7:World) (F'':Nat->Nat->Prop),Tr E iso (d-1) (2*d-1) (h'+1) w7 (lo-1) b ys F''->Ext (fun y o=>F0 y o\/F3 y o\/kinF (A++c::Bq) y o) w6 w7->(∀ y o,F'' y o->(F0 y o\/F3 y o\/kinF (A++c::Bq) y o)\/w6.heap.size<=y) →
      e 12=ptr r0->e 18=ptr q->J e w7:=by
     clear e0 e12 e14 e15 e18 e19
     clear e
     intro e w7 F'' T7 x7 hF'' e12 e18
     refine hJ _ _ ?_;clear hJ J
     have rq7:=x7.row rq6 fun j _ g=>hqF _ g
     have kq7:=iX_at rq7
     have s6:=X6.size
     have s7:=x7.size
     refine W_sq fun K hK=>(W_text [true,false,true] (by kernel_rfl) ?_);simp only [↓zZ1,↓reduceIte,Nat.reduceEqDiff,rg,ow_126,e18,ptr_eq,kq7]
     refine do_store (by simp only [zZ2,Nat.reduceEqDiff,↓reduceIte];exact e12) (by simp only [zZ2,Nat.reduceEqDiff,↓reduceIte,zZ3]<;>rfl) sz_33 (rb_len y) (x7.wok wr6) (by decide) (rb_oc y) fun w8 x8 r8 s8=>⟨trivial,?_⟩
     simp only [↓zZ1,↓reduceIte,Nat.reduceEqDiff,rg,ow_126]
     apply hK;clear hK K
     have hold:∀ y o,(F0 y o\/F3 y o\/kinF (A++c::Bq) y o)->y<w.heap.size->F y o:=fun y o g hy=>(hFs y o g).resolve_right (by omega)
     refine W_ret (endQ_ct e12 (by simp only [upd_eq,Nat.reduceEqDiff,↓reduceIte]<;>rfl) ld_33 (iX_at (show Row w8 r0 0 (E.cel y) from r8)) ⟨(X6.trans x7 (fun _ _ g=>g) fun y o hy g=>.inl (hold y o g hy)).trans x8 (fun _ _ g=>g) fun y o hy g=>by simp only [rng] at g;omega,
      (H6.ext x7 fun hb hh o g=>?_).ext x8 fun hb hh o g=>?_,F'',fun y o g=>?_,.inr ⟨y,ys,hdel,rfl,T7.ext x8 fun y o g k=>?_⟩⟩)
     ·have:=hHl hb 0 hh
      exact (hHF hb hh).2 o (hold hb o g this)
     ·have:=hHl hb 0 hh
      simp only [rng] at g;omega
     ·rcases hF'' y o g with g | g
      ·exact hFs y o g
      ·exact .inr (by omega)
     ·simp only [rng] at k
      rcases hF'' y o g with g | g
      ·exact hrF o (by rw [<-k.1];exact g)
      ·have:=wok_lt wr6
       omega
    obtain ⟨a,nk,capn,hkn,hk1,hk2,hraise⟩:=sh6.t.keys
    obtain ⟨bi',oi',cap',o6,hz,hK,hF0⟩:=sh6.n0
    rcases sh6.n3 with ⟨h,_⟩ | ⟨bc',ba',oa',capc',hbc,k6,_,_⟩
    ·cases h
    obtain rfl:bc=bc':=by simpa [ptr] using hbc
    have hil:A.length<((A++c::Bq).map fun g=>some g.b).length:=by simp
    have hcp:=k6.ptr_at (j:=A.length) (p:=c.b) (by simp)
    by_cases hsh:nk<d-1
    ·have hb:decide ((nk:Int)<((d-1:Nat):Int))=true:=by simp only [decide_eq_true_eq];omega
     refine W_sq fun K hK=>(W_draw (some none) none [(0,0,0),(0,1,0),(0,2,0),(0,3,0),(0,4,0),(0,5,0),(0,6,0),(0,7,0),(0,8,0),(0,9,0),(0,10,0),(0,11,0),(0,12,0),(0,13,0),(0,14,0),(0,15,0),(0,16,0),(0,17,0)] mixed (by kernel_rfl) ?_);simp only [↓zZ1,↓reduceIte,Nat.reduceEqDiff,rg,ow_126,e0,e14,e15,ptr_eq,o6.h3,k6.hd,hil,hcp,hkn,c6.mn,hb]
     apply hK;clear hK K
     refine W_true (by simp only [zZ2,Nat.reduceEqDiff,↓reduceIte,zZ3]<;>rfl) ?_
     have D:=Ext.dr noF w6 (w6.drawn+1)
     refine W_rg fun K hK=>(W_text [true,true,true,false] (by kernel_rfl) ?_);simp only [↓zZ1,↓reduceIte,Nat.reduceEqDiff,rg,ow_126,e0,e14,e15]
     refine do_call fn_151 (by simp only [zZ2,Nat.reduceEqDiff,↓reduceIte,zZ4]<;>rfl) (reb_shr m d iso hd hd' (c6.ext D fun _ _ _ g=>g) (sh6.ext0 D) hmF hlen (by omega) (by omega) (by rw [hys]) (by rw [<-hys];omega) (D.rd hkn fun g=>g) hsh) ?_
     rintro _ w7 ⟨F'',T7,x7,hF''⟩
     refine ⟨trivial,?_⟩
     simp only [↓zZ1,↓reduceIte,Nat.reduceEqDiff,rg,ow_126]
     apply hK;clear hK K
     rw [<-hys] at T7
     exact hfin _ _ F'' (T7.mono (by omega)) x7.od hF'' e12 e18
    ·have hb:decide ((nk:Int)<((d-1:Nat):Int))=false:=by simp only [decide_eq_false_iff_not];omega
     refine W_sq fun K hK=>(W_draw (some none) none [(0,0,0),(0,1,0),(0,2,0),(0,3,0),(0,4,0),(0,5,0),(0,6,0),(0,7,0),(0,8,0),(0,9,0),(0,10,0),(0,11,0),(0,12,0),(0,13,0),(0,14,0),(0,15,0),(0,16,0),(0,17,0)] mixed (by kernel_rfl) ?_);simp only [↓zZ1,↓reduceIte,Nat.reduceEqDiff,rg,ow_126,e0,e14,e15,ptr_eq,o6.h3,k6.hd,hil,hcp,hkn,c6.mn,hb]
     apply hK;clear hK K
     refine W_false (by simp only [zZ2,Nat.reduceEqDiff,↓reduceIte,zZ3]<;>rfl) (W_skip ?_)
     have T6:=sh6.fine (lo:=lo-1) hlen (hraise (d-1) (by omega)) (by omega) (by omega) (by rw [hys])
     rw [<-hys] at T6
     exact hfin _ _ _ (T6.ext (Ext.dr noF _ _) fun _ _ _ g=>g) ((Ext.dr noF _ _).mono fun _ _ _ g=>g.elim) (fun y o g=>.inl g) e12 e18
   have hlt:∀ y o,F y o->y<w.heap.size:=ht.lt
   have hno:∀ (e:Env) (w5:World) (F':Nat->Nat->Prop),delR O (rkI ord) mx (rkI ord x) xs=none->Tr E iso (d-1) (2*d-1) (h'+1) w5 lo b xs F'->(∀ y o,F' y o->F y o\/w.heap.size<=y)->(∀ o,¬ F' r0 o)->Ext (fun y o=>F y o\/hF hp y o) w w5->HOk hp w5->wok w5 r0 2 →
     e 0=ptr m->e 12=ptr r0->e 19 = .bool false->J e w5:=by
    clear e0 e2 e4 e5 e9 e12 e14 e15 e16 X4 H4 rk4 wr4 wq4 o4 nn hyes
    clear e
    intro e w5 F' hdel T5 hF' hFr X5 H5 wr5 e0 e12 e19
    refine hJ _ _ ?_;clear hJ J
    refine W_seq ?_
    refine W_sq fun K hK=>(W_text [true,true] (by kernel_rfl) ?_);simp only [↓zZ1,↓reduceIte,Nat.reduceEqDiff,rg,ow_126,e19]
    apply hK;clear hK K
    refine W_true (by simp only [zZ2,Nat.reduceEqDiff,↓reduceIte,zZ3]<;>rfl) ?_
    have z5:=zIt_at (hc.ext X5 fun o _ _ g=>g.elim (hm o) (hmh o))
    refine W_sq fun K hK=>(W_text [true,true,true,true,false,true] (by kernel_rfl) ?_);simp only [↓zZ1,↓reduceIte,Nat.reduceEqDiff,rg,ow_126,e0,ptr_eq,z5]
    refine do_store (by simp only [zZ2,Nat.reduceEqDiff,↓reduceIte];exact e12) (by simp only [zZ2,Nat.reduceEqDiff,↓reduceIte,zZ3]<;>rfl) sz_33 (rb_len zIt) wr5 (by decide) (rb_oc zIt) fun w6 x6 r6 s6=>⟨trivial,?_⟩
    simp only [↓zZ1,↓reduceIte,Nat.reduceEqDiff,rg,ow_126]
    apply hK;clear hK K
    refine W_ret (endQ_ct e12 (by simp only [upd_eq,Nat.reduceEqDiff,↓reduceIte]<;>rfl) ld_33 (iX_at (show Row w6 r0 0 (E.cel zIt) from r6)) ⟨X5.trans x6 (fun _ _ g=>g) fun y o hy g=>by simp only [rng] at g;omega,
     H5.ext x6 fun hb hh o g=>?_,F',hF',.inl ⟨hdel,rfl,T5.ext x6 fun y o g k=>?_⟩⟩)
    ·have:=hHl hb 0 hh
     simp only [rng] at g;omega
    ·simp only [rng] at k
     exact hFr o (by rw [<-k.1];exact g)
   have hpost:∀ (e:Env) (w5 w6:World) (i:Nat) (c:Kid It) (F':Nat->Nat->Prop) (y:It) (zs:List It) (dl:Bool),cs[i]? = some c->Ext (fun y o=>c.F y o\/hF hp y o) w4 w5->HOk hp w5->(∀ y o,F' y o->c.F y o\/w4.heap.size<=y)->Ext (rng q 0 2) w5 w6->Row w6 q 0 (E.cel y) →
     ((dl=true/\Tr E iso (d-1) (2*d-1) h' w5 (d-1-1) c.b zs F'/\delR O (rkI ord) mx (rkI ord x) xs=some (y,weave ((cs.map Kid.xs).set i zs) ks))\/(dl=false/\zs=c.xs/\Tr E iso (d-1) (2*d-1) h' w5 (d-1) c.b c.xs F'/\delR O (rkI ord) mx (rkI ord x) xs=none)) →
     e 0=ptr m->e 12=ptr r0->e 14=ptr b->e 15 = .int .i64 (i:Nat)->e 18=ptr q->e 19 = .bool dl->J e w6:=by
    clear e0 e2 e4 e5 e9 e12 e14 e15 e16
    clear e
    intro e w5 w6 i c F' y zs dl hcs x5 H5 hF' x6 r6 hres e0 e12 e14 e15 e18 e19
    have hcm:=List.mem_of_getElem? hcs
    have hcl:∀ y o,c.F y o->y<w.heap.size:=fun y o g=>hlt y o (hcF c hcm y o g)
    have x46:Ext (fun y o=>(c.F y o\/hF hp y o)\/y=q) w4 w6:=x5.trans x6 (fun _ _ g=>.inl g) fun y o _ g=>.inr g.1
    have hG:∀ y o,F y o->((c.F y o\/hF hp y o)\/y=q)->c.F y o:=fun y o g k=>by
     rcases k with (k | k) | k
     ·exact k
     ·exact (hFh y o g k).elim
     ·have:=hlt y o g;omega
    have hF'q:∀ o,¬ F' q o:=fun o g=>by
     rcases hF' q o g with g | g
     ·have:=hcl q o g;omega
     ·omega
    have T6:∀ {lo':Nat} {zs':List It},Tr E iso (d-1) (2*d-1) h' w5 lo' c.b zs' F'->Tr E iso (d-1) (2*d-1) h' w6 lo' c.b zs' F':=fun T=>T.ext x6 fun y o g k=>hF'q o (by rw [<-k.1];exact g)
    have X6:Ext (fun y o=>F y o\/hF hp y o) w w6:=X4.trans x46 (fun _ _ g=>.inr g) fun y o hy g=>by
     rcases g with (g | g) | g
     ·exact .inl (hcF c hcm y o g)
     ·exact .inr g
     ·omega
    have H6:HOk hp w6:=H5.ext x6 fun hb hh o g=>by
     have:=hHl hb 0 hh
     simp only [rng] at g;omega
    have wr6:wok w6 r0 2:=x46.wok wr4
    obtain ⟨l1,l2⟩:=shr_len (d:=(⟨c.b,zs,F'⟩:Kid It)) hcs
    have hfp:∀ y o,(ownF E b bi oi cap y o\/kidF bc ba oa capc y o\/kinF (cs.take i++(⟨c.b,zs,F'⟩:Kid It)::cs.drop (i+1)) y o)->F y o\/w4.heap.size<=y:=fun y o g=>nn.shr_fp hcs hF' y o g
    have hfp':∀ y o,(ownF E b bi oi cap y o\/kidF bc ba oa capc y o\/kinF (cs.take i++(⟨c.b,zs,F'⟩:Kid It)::cs.drop (i+1)) y o)->F y o\/w.heap.size<=y:=fun y o g=>(hfp y o g).imp id fun g=>by omega
    have hfq:∀ (r:Nat) (o:Nat),w.heap.size<=r->r<w4.heap.size->¬ (ownF E b bi oi cap r o\/kidF bc ba oa capc r o\/kinF (cs.take i++(⟨c.b,zs,F'⟩:Kid It)::cs.drop (i+1)) r o):=fun r o h1 h2 g=>by
     rcases hfp r o g with g | g
     ·have:=hlt r o g;omega
     ·omega
    rcases hres with ⟨rfl,T5,hdel⟩ | ⟨rfl,rfl,T5,hdel⟩
    ·have sh:=nn.shr o4 (by omega) hcs x46 hG (T6 T5) hF'
     exact hyes e w6 y (cs.take i) (cs.drop (i+1)) ⟨c.b,zs,F'⟩ ks _ _ _ _ _ sh rfl (by rw [l1];exact n.len) rfl (by rw [shr_xs hcs];exact hdel) X6 H6 hfp' r6 wr6 (fun o g=>hfq q o (by omega) (by omega) g) (fun o g=>hfq r0 o (by omega) (by omega) g) e0 e12 e14 (by rw [l2];exact e15) e18 e19
    ·have sh:=nn.shr o4 (by omega) hcs x46 hG ((T6 T5).mono (by omega)) hF'
     have hset:(cs.map Kid.xs).set i c.xs=cs.map Kid.xs:=by
      obtain ⟨g1,g2⟩:=List.getElem?_eq_some_iff.1 (show (cs.map Kid.xs)[i]? = some c.xs by rw [List.getElem?_map,hcs];rfl)
      rw [<-g2];exact List.set_getElem_self g1
     have hxe:weave ((cs.take i++⟨c.b,c.xs,F'⟩::cs.drop (i+1)).map Kid.xs) ks=xs:=by rw [shr_xs hcs,hset];exact n.eq.symm
     have T:=sh.fine (lo:=lo) (by rw [l1];exact n.len) (T6 T5) hl1 hl2 (by rw [hxe])
     rw [hxe] at T
     exact hno e w6 _ hdel T hfp' (fun o g=>hfq r0 o (by omega) (by omega) g) X6 H6 wr6 e0 e12 e19
   have hcell:∀ {i:Nat} {c:Kid It},cs[i]? = some c->rd w4 ba (oa+i)=some (ptr c.b):=fun hcs=>nn.kids.se.ptr_at (by simp [hcs])
   have hk0:=nn.kids.c0
   have hkx:=iX_at rk4
   have hlenc:∀ {i:Nat} {c:Kid It},cs[i]? = some c->c.xs.length<=xs.length:=fun hcs=>by
    rw [n.eq];exact weave_mem_length _ _ (by simpa using n.len) _ (List.mem_map_of_mem (List.mem_of_getElem? hcs))
   have hL4:Ls B m w4 ord:=hL.ext X4 (fun y o g=>by have:=(hHF y g).1;exact .inl (by omega)) (hmh 6)
   have c4:=hc.ext X4 fun o _ _=>hmh o
   have z4:=zIt_at c4
   have hcnl:=n.len
   have hll:(cs.map Kid.b).length=cs.length:=List.length_map _
   have D:=Ext.dr noF w4 (w4.drawn+1)
   refine W_sq fun K hK=>(W_text [true] (by kernel_rfl) ?_);simp only [↓zZ1,↓reduceIte,Nat.reduceEqDiff,rg,ow_126,e16]
   apply hK;clear hK K
   cases fnd with
   | false =>
    refine W_false (by simp only [zZ2,Nat.reduceEqDiff,↓reduceIte,zZ3]<;>rfl) ?_
    obtain ⟨rfl,hi,hh⟩:mx=false/\i=lb O (rkI ord) (rkI ord x) ks/\false=hit O (rkI ord) (rkI ord x) ks:=by
     rcases hfi with ⟨_,h,_⟩ | h
     ·cases h
     ·exact h
    have hik:i<=ks.length:=by rw [hi];exact lb_le O (rkI ord) _ _
    obtain ⟨c,hcs⟩:∃ c,cs[i]? = some c:=⟨_,List.getElem?_eq_getElem (by omega)⟩
    have hcm:=List.mem_of_getElem? hcs
    have hce:=hcell hcs
    have hil:i<(cs.map Kid.b).length:=by omega
    obtain ⟨A,C,hw⟩:=weave_at i (cs.map Kid.xs) ks (by simpa using n.len) hik
    have hcx:(cs.map Kid.xs)[i]? = some c.xs:=by rw [List.getElem?_map,hcs];rfl
    have hxs:xs=A++c.xs++C:=n.eq.trans (hw.eq hcx)
    have hac:Asc O (rkI ord) c.xs:=by
     rw [hxs] at ha
     exact ((Asc.append O (rkI ord)).1 ((Asc.append O (rkI ord)).1 ha).1).2.1
    obtain ⟨hA,hC⟩:=hw.mid O (rkI ord) hcx (n.eq ▸ ha) hi.symm hh.symm
    have hdm:=delR_mid (O:=O) (κ:=rkI ord) (m:=c.xs) hA hC
    rw [<-hxs] at hdm
    have q1:=wadd1 dep (by omega)
    have hle:=hlenc hcs
    refine W_rg fun K hK=>(W_semi (some none) (.take false 0 (.take false 1 (.take false 2 (.take false 3 (.take true 4 (.take false 5 (.take true 6 (.take false 7 (.take false 8 (.take false 9 (.take true 10 (.take false 11 (.take false 12 (.take false 13 (.bar 14 (.take false 15 (.take false 16 (.take false 17 (.bar 18 (.take false 19 .nil)))))))))))))))))))) mixed (by kernel_rfl) ?_);simp only [↓rgm,↓zZ1,↓reduceIte,Nat.reduceEqDiff,rg,ow_126,e0,e2,e4,e5,e9,e14,e15,ptr_eq,o4.h3,hk0,hil,hce,hkx,q1]
    refine do_call fn_126 (by simp only [zZ2,Nat.reduceEqDiff,↓reduceIte,zZ4]<;>rfl) (ihh h' (by omega) (d-1) c.b c.xs c.F _ ba (oa+i) false x hp (dep+1) (c4.ext D fun _ _ _ g=>g) (hL4.ext0 D) (fun y o g=>hBF y o (hcF c hcm y o g)) (by omega) (by omega) ((nn.sub c hcm).ext D fun _ _ _ g=>g) hac (by omega) (D.rd hce fun g=>g) (H4.ext0 D) fun hb hh=>⟨(hHF hb hh).1,fun o g=>(hHF hb hh).2 o (hcF c hcm hb o g)⟩) ?_
    rintro _ w5 ⟨X5,H5,F',hF',hres⟩
    have x45:=X5.od
    rcases hres with ⟨hd0,rfl,T5⟩ | ⟨y,yl,hd1,rfl,T5⟩
    ·refine ⟨trivial,?_⟩
     simp only [↓zZ1,↓reduceIte,Nat.reduceEqDiff,rg,ow_126,↓rgm]
     refine do_store (by simp only [zZ2,Nat.reduceEqDiff,↓reduceIte,zZ3]<;>rfl) (by simp only [zZ2,Nat.reduceEqDiff,↓reduceIte,zZ3]<;>rfl) sz_33 (rb_len zIt) (x45.wok wq4) (by decide) (rb_oc zIt) fun w6 x6 r6 s6=>⟨trivial,?_⟩
     simp only [↓zZ1,↓reduceIte,Nat.reduceEqDiff,rg,ow_126,↓rgm]
     apply hK;clear hK K
     exact hpost _ w5 w6 i c F' zIt c.xs false hcs x45 H5 hF' x6 r6 (.inr ⟨rfl,rfl,T5,by rw [hdm,hd0];rfl⟩) e0 e12 e14 e15 (by simp only [upd_eq,Nat.reduceEqDiff,↓reduceIte]<;>rfl) (by simp only [upd_eq,Nat.reduceEqDiff,↓reduceIte]<;>rfl)
    ·refine ⟨trivial,?_⟩
     simp only [↓zZ1,↓reduceIte,Nat.reduceEqDiff,rg,ow_126,↓rgm]
     refine do_store (by simp only [zZ2,Nat.reduceEqDiff,↓reduceIte,zZ3]<;>rfl) (by simp only [zZ2,Nat.reduceEqDiff,↓reduceIte,zZ3]<;>rfl) sz_33 (rb_len y) (x45.wok wq4) (by decide) (rb_oc y) fun w6 x6 r6 s6=>⟨trivial,?_⟩
     simp only [↓zZ1,↓reduceIte,Nat.reduceEqDiff,rg,ow_126,↓rgm]
     apply hK;clear hK K
     exact hpost _ w5 w6 i c F' y yl true hcs x45 H5 hF' x6 r6 (.inl ⟨rfl,T5,by rw [hdm,hd1,hw.set];rfl⟩) e0 e12 e14 e15 (by simp only [upd_eq,Nat.reduceEqDiff,↓reduceIte]<;>rfl) (by simp only [upd_eq,Nat.reduceEqDiff,↓reduceIte]<;>rfl)
   | true =>
    refine W_true (by simp only [zZ2,Nat.reduceEqDiff,↓reduceIte,zZ3]<;>rfl) ?_
    have hpos:∀ {i:Nat} {c:Kid It},cs[i]? = some c->c.xs ≠ []:=fun hcs hnil=>by
     obtain ⟨bi1,oi1,cap1,ks1,ch1,ho1,hl11,hl12,hoF1,hin1⟩:=(n.sub _ (List.mem_of_getElem? hcs)).open
     rcases hin1 with ⟨_,_,hx,_⟩ | ⟨_,_,_,_,_,cs1,_,_,n1⟩
     ·rw [hnil] at hx;rw [<-hx] at hl11;simp at hl11;omega
     ·have:=(weave_sub (cs1.map Kid.xs) ks1 (by rw [List.length_map];exact n1.len)).length_le
      rw [<-n1.eq,hnil] at this
      simp at this;rw [this] at hl11;simp at hl11;omega
    cases mx with
    | true =>
     refine W_sq fun K hK=>(W_text [true] (by kernel_rfl) ?_);simp only [↓zZ1,↓reduceIte,Nat.reduceEqDiff,rg,ow_126,e2]
     apply hK;clear hK K
     refine W_true (by simp only [zZ2,Nat.reduceEqDiff,↓reduceIte,zZ3]<;>rfl) ?_
     have hi:i=ks.length-1:=by
      rcases hfi with ⟨_,_,h⟩ | ⟨h,_⟩
      ·exact h
      ·cases h
     have q1:=wadd1 i (by omega)
     refine W_sq fun K hK=>(W_text [true,true,true] (by kernel_rfl) ?_);simp only [↓zZ1,↓reduceIte,Nat.reduceEqDiff,rg,ow_126,e15,q1]
     apply hK;clear hK K
     have hik:i+1=ks.length:=by omega
     obtain ⟨c,hcs⟩:∃ c,cs[i+1]? = some c:=⟨_,List.getElem?_eq_getElem (by omega)⟩
     have hcm:=List.mem_of_getElem? hcs
     have hce:=hcell hcs
     have hil:i+1<(cs.map Kid.b).length:=by omega
     have hle:=hlenc hcs
     have hne:=hpos hcs
     have hsp:cs.map Kid.xs=(cs.take (i+1)).map Kid.xs++[c.xs]:=by
      have h3:=List.getElem?_eq_some_iff.1 hcs
      have:=List.take_append_drop (i+1) cs
      rw [List.drop_eq_getElem_cons h3.1,h3.2,List.drop_eq_nil_of_le (by omega)] at this
      conv=>lhs;rw [<-this]
      simp
     have hLl:((cs.take (i+1)).map Kid.xs).length=ks.length:=by rw [List.length_map,List.length_take];omega
     obtain ⟨A,hA⟩:=weave_end ((cs.take (i+1)).map Kid.xs) ks hLl
     have hxs:xs=A++c.xs:=by rw [n.eq,hsp,hA]
     have hac:Asc O (rkI ord) c.xs:=by
      rw [hxs] at ha
      exact ((Asc.append O (rkI ord)).1 ha).2.1
     have hdm:=delR_max (O:=O) (κ:=rkI ord) (q:=rkI ord x) (A:=A) hne
     rw [<-hxs] at hdm
     refine W_rg fun K hK=>(W_semi (some none) (.take false 0 (.take false 1 (.take false 2 (.take false 3 (.take true 4 (.take false 5 (.take true 6 (.take false 7 (.take false 8 (.take false 9 (.take false 10 (.take false 11 (.take true 12 (.bar 13 (.take false 14 (.take false 15 (.take false 16 (.bar 17 (.take false 18 .nil))))))))))))))))))) mixed (by kernel_rfl) ?_);simp only [↓rgm,↓zZ1,↓reduceIte,Nat.reduceEqDiff,rg,ow_126,e0,e14,ptr_eq,o4.h3,hk0,hil,hce,z4]
     refine do_call fn_126 (by simp only [zZ2,Nat.reduceEqDiff,↓reduceIte,zZ4]<;>rfl) (ihh h' (by omega) (d-1) c.b c.xs c.F _ ba (oa+(i+1)) true zIt none 0 (c4.ext D fun _ _ _ g=>g) (hL4.ext0 D) (fun y o g=>hBF y o (hcF c hcm y o g)) (by omega) (by omega) ((nn.sub c hcm).ext D fun _ _ _ g=>g) hac (by omega) (D.rd hce fun g=>g) (HOk.none _) fun hb hh=>by cases hh) ?_
     rintro _ w5 ⟨X5,_,F',hF',hres⟩
     have x45:Ext (fun y o=>c.F y o\/hF hp y o) w4 w5:=X5.od.mono fun y o _ g=>g.elim .inl fun g=>by cases g
     rcases hres with ⟨hd0,rfl,T5⟩ | ⟨y,yl,hd1,rfl,T5⟩
     ·exfalso
      have:=delR_last (O:=O) (κ:=rkI ord) (q:=rkI ord zIt) (l:=c.xs.dropLast) (x:=c.xs.getLast hne)
      rw [List.dropLast_concat_getLast,hd0] at this
      cases this
     ·refine ⟨trivial,?_⟩
      simp only [↓zZ1,↓reduceIte,Nat.reduceEqDiff,rg,ow_126,↓rgm]
      refine do_store (by simp only [zZ2,Nat.reduceEqDiff,↓reduceIte,zZ3]<;>rfl) (by simp only [zZ2,Nat.reduceEqDiff,↓reduceIte,zZ3]<;>rfl) sz_33 (rb_len y) (x45.wok wq4) (by decide) (rb_oc y) fun w6 x6 r6 s6=>⟨trivial,?_⟩
      simp only [↓zZ1,↓reduceIte,Nat.reduceEqDiff,rg,ow_126,↓rgm]
      apply hK;clear hK K
      have H5:HOk hp w5:=H4.ext X5.od fun hb hh o g=>by
       rcases g with g | g
       ·exact (hHF hb hh).2 o (hcF c hcm hb o g)
       ·cases g
      refine hpost _ w5 w6 (i+1) c F' y yl true hcs x45 H5 hF' x6 r6 (.inl ⟨rfl,T5,?_⟩) e0 e12 e14 (by simp only [upd_eq,Nat.reduceEqDiff,↓reduceIte]<;>rfl) (by simp only [upd_eq,Nat.reduceEqDiff,↓reduceIte]<;>rfl) (by simp only [upd_eq,Nat.reduceEqDiff,↓reduceIte]<;>rfl)
      have hset:(cs.map Kid.xs).set (i+1) yl=(cs.take (i+1)).map Kid.xs++[yl]:=by
       have:=set_last (A:=(cs.take (i+1)).map Kid.xs) (z:=c.xs) (x:=yl)
       rw [hLl,<-hik] at this
       rw [hsp]
       exact this
      rw [hset,hA,hdm]
      rw [show delR O (rkI ord) true (rkI ord x) c.xs=delR O (rkI ord) true (rkI ord zIt) c.xs from rfl,hd1]
      rfl
    | false =>
     refine W_sq fun K hK=>(W_text [true] (by kernel_rfl) ?_);simp only [↓zZ1,↓reduceIte,Nat.reduceEqDiff,rg,ow_126,e2]
     apply hK;clear hK K
     refine W_false (by simp only [zZ2,Nat.reduceEqDiff,↓reduceIte,zZ3]<;>rfl) ?_
     obtain ⟨hi,hh⟩:i=lb O (rkI ord) (rkI ord x) ks/\true=hit O (rkI ord) (rkI ord x) ks:=by
      rcases hfi with ⟨h,_⟩ | ⟨_,h⟩
      ·cases h
      ·exact h
     obtain ⟨kk,hk1,hk2⟩:=hit_at O (rkI ord) hh.symm
     rw [<-hi] at hk1
     have hik:=(List.getElem?_eq_some_iff.1 hk1).1
     obtain ⟨c,hcs⟩:∃ c,cs[i]? = some c:=⟨_,List.getElem?_eq_getElem (by omega)⟩
     have hcm:=List.mem_of_getElem? hcs
     have hil:i<(cs.map Kid.b).length:=by omega
     have hle:=hlenc hcs
     have hne:=hpos hcs
     have hkv:=it_at o4.row hk1
     have hsp:cs.map Kid.xs=(cs.take i).map Kid.xs++c.xs::(cs.drop (i+1)).map Kid.xs:=by
      have h3:=List.getElem?_eq_some_iff.1 hcs
      have:=List.take_append_drop i cs
      rw [List.drop_eq_getElem_cons h3.1,h3.2] at this
      conv=>lhs;rw [<-this]
      simp
     have hLl:((cs.take i).map Kid.xs).length=i:=by rw [List.length_map,List.length_take];omega
     obtain ⟨A,C,hA⟩:=weave_ahead (L:=(cs.take i).map Kid.xs) (B:=(cs.drop (i+1)).map Kid.xs) (ks:=ks) (k:=kk) (by rw [hLl];exact hk1)
     rw [hLl] at hA
     have hxs:xs=A++c.xs++kk::C:=by
      rw [n.eq,hsp,<-hA c.xs kk]
      obtain ⟨g1,g2⟩:=List.getElem?_eq_some_iff.1 hk1
      rw [<-g2,List.set_getElem_self g1]
     have hac:Asc O (rkI ord) c.xs:=by
      rw [hxs] at ha
      exact ((Asc.append O (rkI ord)).1 ((Asc.append O (rkI ord)).1 ha).1).2.1
     have hdk:delR O (rkI ord) false (rkI ord x) xs=some (kk,A++c.xs++C):=by
      rw [hk2,hxs]
      exact delR_key (by rw [<-hxs];exact ha)
     refine W_sq fun K hK=>(W_text [true,true,true,true,true,true,true,false] (by kernel_rfl) ?_);simp only [↓zZ1,↓reduceIte,Nat.reduceEqDiff,rg,ow_126,e14,e15,ptr_eq,o4.h2,hik,hkv]
     refine do_store (by simp only [zZ2,Nat.reduceEqDiff,↓reduceIte,zZ3]<;>rfl) (by simp only [zZ2,Nat.reduceEqDiff,↓reduceIte,zZ3]<;>rfl) sz_33 (rb_len kk) wq4 (by decide) (rb_oc kk) fun w5 x5 r5 s5=>⟨trivial,?_⟩
     simp only [↓zZ1,↓reduceIte,Nat.reduceEqDiff,rg,ow_126]
     apply hK;clear hK K
     have hqn:∀ y o,F y o->¬ rng q 0 2 y o:=fun y o g k=>by have:=hlt y o g;have:=k.1;omega
     have o5:=o4.ext x5 fun y o g=>hqn y o (hoF y o g)
     have n5:=nn.ext x5 (fun y o g=>hqn y o (hkF y o g)) fun a ha y o g=>hqn y o (hcF a ha y o g)
     have hmq:∀ o,¬ rng q 0 2 m o:=fun o k=>by have:=k.1;omega
     have c5:=c4.ext x5 fun o _ _=>hmq o
     have hL5:Ls B m w5 ord:=hL4.ext x5 (fun y o g=>.inl (by have:=g.1;omega)) (hmq 6)
     have z5:=zIt_at c5
     have hce5:=n5.kids.se.ptr_at (j:=i) (p:=c.b) (by simp [hcs])
     have hk5:=n5.kids.c0
     have X5:Ext (fun y o=>F y o\/hF hp y o) w w5:=(X4.mono fun _ _ _ g=>.inr g).trans x5 (fun _ _ g=>g) fun y o hy g=>by have:=g.1;omega
     have H5:HOk hp w5:=H4.ext x5 fun hb hh o g=>by
      have:=hHl hb 0 hh
      have:=g.1;omega
     have wr5:=x5.wok wr4
     have rq5:Row w5 q 0 (E.cel kk):=r5
     have hq5:q<w5.heap.size:=by have:=x5.size;omega
     have L0:=on3_0 b bc m
     have L1:=on3_1 b bc m
     have L2:=on3_2 b bc m
     have hbcl:=wok_lt n5.kids.wc
     have hb5:b<w5.heap.size/\m<w5.heap.size:=⟨by omega,by omega⟩
     have hcb:∀ o,¬ c.F b o:=fun o g=>n.ap.own c hcm b o g (.inl rfl)
     have hcbc:∀ o,¬ c.F bc o:=fun o g=>n.ap.kid c hcm bc o g (.inl rfl)
     have hcmF:∀ o,¬ c.F m o:=fun o g=>hm o (hcF c hcm m o g)
     have D5:=Ext.dr noF w5 (w5.drawn+1)
     have kin3:∀ {G:Nat->Nat->Prop} {u v:World},Ext G u v->(∀ x ∈ [b,bc,m],x<u.heap.size/\∀ o,¬ G x o)->keeps (some (some [b,bc,m])) u v:=fun x h=>keeps_on x h
     clear D hk0 hkx c4 z4 hL4 X4 H4 rk4 wr4 o4 x5 r5 hpost hno
     refine W_sq fun K hK=>(W_free (some (some [b,bc,m])) (.take 0 (.take 1 (.take 2 (.take 3 (.take 4 (.take 5 (.take 6 (.take 7 (.take 8 (.take 9 (.take 10 (.take 11 (.take 12 (.split 13 (.take 14 (.take 15 (.take 16 (.act 17 (.act 18 (.take 19 .nil)))))) 17 (.act 13 (.take 14 (.take 15 (.take 16 (.act 18 (.take 19 .nil)))))))))))))))))))) mixed (by kernel_rfl) ?_);simp only [↓zZ1,↓reduceIte,Nat.reduceEqDiff,rg,ow_126,e0,e14,e15,ptr_eq,o5.h3,hk5,hil,hce5,z5,L0,L1,L2,rB_on]
     have hjoin:∀ (e:Env) (w8:World) (t:Nat) (y:It) (yl:List It) (F':Nat->Nat->Prop),delR O (rkI ord) true (rkI ord zIt) c.xs=some (y,yl)->Tr E iso (d-1) (2*d-1) h' w8 (d-1-1) c.b yl F'->(∀ y o,F' y o->c.F y o\/w5.heap.size<=y)->Ext c.F w5 w8->Row w8 t 0 (E.cel y) →
       e 0=ptr m->e 12=ptr r0->e 14=ptr b->e 15 = .int .i64 (i:Nat)->e 18=ptr q->e 20=ptr t->K e w8:=by
      clear e0 e2 e4 e5 e9 e12 e14 e15 e16
      clear e
      intro e w8 t y yl F' hdl T8 hF' x58 rt8 e0 e12 e14 e15 e18 e20
      apply hK;clear hK K
      refine W_sq fun K hK=>(W_text [true] (by kernel_rfl) ?_);simp only [↓zZ1,↓reduceIte,Nat.reduceEqDiff,rg,ow_126]
      apply hK;clear hK K
      have hown:∀ y o,ownF E b bi oi cap y o->¬ c.F y o:=fun y o g k=>n.ap.own c hcm y o k g
      have o8:=o5.ext x58 hown
      have ky:=iX_at rt8
      refine W_rg fun K hK=>(W_draw (some none) (some 7) [(0,0,0),(0,1,0),(0,2,0),(0,3,0),(0,4,0),(0,5,0),(0,6,0),(1,7,0)] mixed (by kernel_rfl) ?_);simp only [↓zZ1,↓reduceIte,Nat.reduceEqDiff,rg,ow_126,e14,e15,e20,ptr_eq,o8.h2,hik,ky]
      refine do_store (by simp only [zZ2,Nat.reduceEqDiff,↓reduceIte,zZ3]<;>rfl) (by simp only [zZ2,Nat.reduceEqDiff,↓reduceIte,zZ3]<;>rfl) sz_33 (rb_len y) o8.wi (by rw [E_sz];omega) (rb_oc y) fun w9 x9 r9 s9=>⟨(by first | exact trivial | exact .inl trivial),?_⟩
      simp only [↓zZ1,↓reduceIte,Nat.reduceEqDiff,rg,ow_126]
      apply hK;clear hK K
      have o9:=o8.set hik x9.od r9
      have x9':Ext (ownF E b bi oi cap) w8 w9:=x9.od.mono fun y o _ g=>.inr (by simp only [rng] at g ⊢;rw [E_sz];omega)
      obtain ⟨l1,l2⟩:=shr_len (d:=(⟨c.b,yl,F'⟩:Kid It)) hcs
      have sh:=n5.shr o5 (by omega) hcs x58 (fun _ _ _ g=>g) T8 hF'
      have hfp:∀ y o,(ownF E b bi oi cap y o\/kidF bc ba oa capc y o\/kinF (cs.take i++(⟨c.b,yl,F'⟩:Kid It)::cs.drop (i+1)) y o)->F y o\/w5.heap.size<=y:=fun y o g=>n5.shr_fp hcs hF' y o g
      have s5':=X5.size
      have sh9:Shr E iso (d-1) (2*d-1) h' w9 b bc (xs.length:Nat) (ks.set i y) (cs.take i) ⟨c.b,yl,F'⟩ (cs.drop (i+1)) (ownF E b bi oi cap) (kidF bc ba oa capc) bi ba :=
       ⟨⟨bi,oi,cap,o9,by omega,rfl,fun _ _=>Iff.rfl⟩,(kdO _ _).loc sh.n3 x9' sh.l0.d.symm,sh.l0,sh.t.ext x9' (sh.l0.g1 _ (by simp)),fun a ha=>(sh.rest a ha).ext x9' (sh.l0.g1 a (by
        rcases List.mem_append.1 ha with ha | ha
        ·simp [ha]
        ·simp [ha]))⟩
      have X9:Ext (fun y o=>F y o\/hF hp y o) w w9:=(X5.trans x58 (fun _ _ g=>g) fun y o _ g=>.inl (hcF c hcm y o g)).trans x9' (fun _ _ g=>g) fun y o _ g=>.inl (hoF y o g)
      have H9:HOk hp w9:=(H5.ext x58 fun hb hh o g=>(hHF hb hh).2 o (hcF c hcm hb o g)).ext x9' fun hb hh o g=>(hHF hb hh).2 o (hoF hb o g)
      have hcq:∀ o,¬ c.F q o:=fun o g=>by have:=hlt q o (hcF c hcm q o g);omega
      have hoq:∀ o,¬ ownF E b bi oi cap q o:=fun o g=>by have:=hlt q o (hoF q o g);omega
      have rq9:=x9'.row (x58.row rq5 fun j _=>hcq _) fun j _=>hoq _
      have wr9:=x9'.wok (x58.wok wr5)
      have hcxs:c.xs=yl++[y]:=by
       have:=delR_last (O:=O) (κ:=rkI ord) (q:=rkI ord zIt) (l:=c.xs.dropLast) (x:=c.xs.getLast hne)
       rw [List.dropLast_concat_getLast,hdl] at this
       simp only [Option.some.injEq,Prod.mk.injEq] at this
       rw [this.1,this.2,List.dropLast_concat_getLast]
      refine hyes _ w9 kk (cs.take i) (cs.drop (i+1)) ⟨c.b,yl,F'⟩ (ks.set i y) (A++c.xs++C) _ _ _ _ sh9 List.length_set (by rw [l1,List.length_set];exact n.len) ?_ hdk X9 H9 (fun y o g=>(hfp y o g).imp id fun g=>by omega) rq9 wr9 (fun o g=>?_) (fun o g=>?_)
       e0 e12 e14 (by simp only [upd_eq,Nat.reduceEqDiff,↓reduceIte];rw [l2];exact e15) e18 (by simp only [upd_eq,Nat.reduceEqDiff,↓reduceIte]<;>rfl)
      ·rw [List.map_append,List.map_cons,hA,hcxs];simp
      ·rcases hfp q o g with g | g
       ·have:=hlt q o g;omega
       ·omega
      ·rcases hfp r0 o g with g | g
       ·have:=hlt r0 o g;omega
       ·omega
     have hx3:∀ x ∈ [b,bc,m],x<w5.heap.size/\∀ o,¬ (c.F x o\/hF none x o):=fun x hx=>by
      simp only [List.mem_cons,List.not_mem_nil,or_false] at hx
      rcases hx with rfl | rfl | rfl
      ·exact ⟨hb5.1,fun o g=>g.elim (hcb o) fun g=>by cases g⟩
      ·exact ⟨hbcl,fun o g=>g.elim (hcbc o) fun g=>by cases g⟩
      ·exact ⟨hb5.2,fun o g=>g.elim (hcmF o) fun g=>by cases g⟩
     have hx3l:∀ x ∈ [b,bc,m],x<w5.heap.size:=fun x hx=>(hx3 x hx).1
     have hcl:∀ y o,c.F y o->y<w5.heap.size:=fun y o g=>by have:=hlt y o (hcF c hcm y o g);omega
     have nohit:∀ {P:Prop},delR O (rkI ord) true (rkI ord zIt) c.xs=none->P:=fun hd0=>by
      have:=delR_last (O:=O) (κ:=rkI ord) (q:=rkI ord zIt) (l:=c.xs.dropLast) (x:=c.xs.getLast hne)
      rw [List.dropLast_concat_getLast,hd0] at this
      cases this
     refine ⟨?_,?_⟩
     ·refine do_call fn_126 (by simp only [zZ2,Nat.reduceEqDiff,↓reduceIte,zZ4]<;>rfl) (ihh h' (by omega) (d-1) c.b c.xs c.F _ ba (oa+i) true zIt none 0 (c5.ext D5 fun _ _ _ g=>g) (hL5.ext0 D5) (fun y o g=>hBF y o (hcF c hcm y o g)) (by omega) (by omega) ((n5.sub c hcm).ext D5 fun _ _ _ g=>g) hac (by omega) (D5.rd hce5 fun g=>g) (HOk.none _) fun hb hh=>by cases hh) ?_
      rintro _ w6 ⟨X6,_,F',hF',hres⟩
      rcases hres with ⟨hd0,_⟩ | ⟨y,yl,hd1,rfl,T6⟩
      ·exact nohit hd0
      ·have x56:Ext c.F w5 w6:=X6.od.mono fun y o _ g=>g.elim id fun g=>by cases g
       have s56:=x56.size
       refine ⟨.inr (kin3 X6 hx3),?_⟩
       simp only [↓zZ1,↓reduceIte,Nat.reduceEqDiff,rg,ow_126]
       refine do_alloc dz_it fun w7 n7=>⟨.inr (n7.keep _ fun x hx=>by have:=hx3l x hx;omega),?_⟩
       simp only [↓zZ1,↓reduceIte,Nat.reduceEqDiff,rg,ow_126]
       have s7:=n7.size
       refine do_store (by simp only [zZ2,Nat.reduceEqDiff,↓reduceIte,zZ3]<;>rfl) (by simp only [zZ2,Nat.reduceEqDiff,↓reduceIte,zZ3]<;>rfl) sz_33 (rb_len y) n7.wok (by decide) (rb_oc y) fun w8 x8 r8 s8=>⟨.inr (kin3 x8 fun x hx=>⟨by have:=hx3l x hx;omega,fun o g=>by have:=hx3l x hx;have:=g.1;omega⟩),?_⟩
       simp only [↓zZ1,↓reduceIte,Nat.reduceEqDiff,rg,ow_126]
       refine hjoin _ w8 w6.heap.size y yl F' hd1 ((T6.ext n7.ext fun _ _ _ g=>g).ext x8 fun y o g k=>?_) hF' ((x56.trans n7.ext (fun _ _ g=>g) fun _ _ _ g=>g.elim).trans x8 (fun _ _ g=>g) fun y o hy g=>?_) r8
        e0 e12 e14 e15 (by simp only [upd_eq,Nat.reduceEqDiff,↓reduceIte]<;>rfl) (by simp only [upd_eq,Nat.reduceEqDiff,↓reduceIte]<;>rfl)
       ·have:=T6.lt y o g;have:=k.1;omega
       ·have:=g.1;omega
     ·refine do_alloc dz_it fun w6 n6=>⟨.inr (n6.keep _ hx3l),?_⟩
      simp only [↓zZ1,↓reduceIte,Nat.reduceEqDiff,rg,ow_126]
      have n6':=n6.od
      have s6:=n6'.size
      refine do_call fn_126 (by simp only [zZ2,Nat.reduceEqDiff,↓reduceIte,zZ4]<;>rfl) (ihh h' (by omega) (d-1) c.b c.xs c.F w6 ba (oa+i) true zIt none 0 (c5.ext n6'.ext fun _ _ _ g=>g) (hL5.ext0 n6'.ext) (fun y o g=>hBF y o (hcF c hcm y o g)) (by omega) (by omega) ((n5.sub c hcm).ext n6'.ext fun _ _ _ g=>g) hac (by omega) (n6'.ext.rd hce5 fun g=>g) (HOk.none _) fun hb hh=>by cases hh) ?_
      rintro _ w7 ⟨X7,_,F',hF',hres⟩
      rcases hres with ⟨hd0,_⟩ | ⟨y,yl,hd1,rfl,T7⟩
      ·exact nohit hd0
      ·have x67:Ext c.F w6 w7:=X7.mono fun y o _ g=>g.elim id fun g=>by cases g
       have x57:Ext c.F w5 w7:=n6'.ext.trans x67 (fun _ _ g=>g.elim) fun _ _ _ g=>g
       refine ⟨.inr (kin3 X7 fun x hx=>⟨by have:=hx3l x hx;omega,(hx3 x hx).2⟩),?_⟩
       simp only [↓zZ1,↓reduceIte,Nat.reduceEqDiff,rg,ow_126]
       have s67:=x67.size
       refine do_store (by simp only [zZ2,Nat.reduceEqDiff,↓reduceIte,zZ3]<;>rfl) (by simp only [zZ2,Nat.reduceEqDiff,↓reduceIte,zZ3]<;>rfl) sz_33 (rb_len y) (x67.wok n6.wok) (by decide) (rb_oc y) fun w8 x8 r8 s8=>⟨.inr (kin3 x8 fun x hx=>⟨by have:=hx3l x hx;omega,fun o g=>by have:=hx3l x hx;have:=g.1;rw [sz_dr] at this;omega⟩),?_⟩
       simp only [↓zZ1,↓reduceIte,Nat.reduceEqDiff,rg,ow_126]
       refine hjoin _ w8 w5.heap.size y yl F' hd1 (T7.ext x8 fun y o g k=>?_) (fun y o g=>(hF' y o g).imp id fun g=>by omega) (x57.trans x8 (fun _ _ g=>g) fun y o hy g=>?_) r8
        e0 e12 e14 e15 (by simp only [upd_eq,Nat.reduceEqDiff,↓reduceIte]<;>rfl) (by simp only [upd_eq,Nat.reduceEqDiff,↓reduceIte]<;>rfl)
       ·have h1:y=w5.heap.size:=k.1
        rcases hF' y o g with g | g
        ·have:=hcl y o g;omega
        ·omega
       ·have h1:y=w5.heap.size:=g.1
        omega
 have o3:=ho.ext X3 fun _ _ _ g=>g
 refine W_sq fun K hK=>(W_text [true] (by kernel_rfl) ?_);simp only [↓zZ1,↓reduceIte,Nat.reduceEqDiff,rg,ow_126,e2]
 apply hK;clear hK K
 cases mx with
 | true =>
  refine W_true (by simp only [zZ2,Nat.reduceEqDiff,↓reduceIte,zZ3]<;>rfl) ?_
  have q1:=wsub1 ks.length (by omega) (by omega)
  refine W_rg fun K hK=>(W_text [true,true,true,true,true,true,true,true] (by kernel_rfl) ?_);simp only [↓zZ1,↓reduceIte,Nat.reduceEqDiff,rg,ow_126,ptr_eq,o3.h2,q1]
  apply hK;clear hK K
  exact hend _ _ true (ks.length-1) (.inl ⟨rfl,rfl,rfl⟩) (X3.mono fun _ _ _ g=>g.elim) (hH.ext0 X3) rk3 wr3 (by omega) e0 e2 e4 e5 (by simp only [upd_eq,Nat.reduceEqDiff,↓reduceIte]<;>rfl) (by simp only [upd_eq,Nat.reduceEqDiff,↓reduceIte]<;>rfl) (by simp only [upd_eq,Nat.reduceEqDiff,↓reduceIte]<;>rfl) (by simp only [upd_eq,Nat.reduceEqDiff,↓reduceIte]<;>rfl) (by simp only [upd_eq,Nat.reduceEqDiff,↓reduceIte]<;>rfl)
 | false =>
  refine W_false (by simp only [zZ2,Nat.reduceEqDiff,↓reduceIte,zZ3]<;>rfl) ?_
  have hkx:=iX_at rk3
  have h33:=o3.h3
  rw [hcc] at h33
  refine W_rg fun K hK=>(W_text [true,true,true,true,true,false,true,true,true,true,true] (by kernel_rfl) ?_);simp only [↓zZ1,↓reduceIte,Nat.reduceEqDiff,rg,ow_126,e0,e4,e5,hkx]
  refine do_call fn_97 (by simp only [zZ2,Nat.reduceEqDiff,↓reduceIte,zZ4]<;>rfl) (find_any B m b bi oi cap ord ks x cc hp dep w3 (hL.ext0 X3) o3.h2 h33 o3.row (by omega) hkb (by omega) hak (hH.ext0 X3) fun hb hh hbb=>(hHF hb hh).2 0 (hbb ▸ ht.self 0)) ?_
  rintro _ w4 ⟨rfl,X4,H4⟩
  refine ⟨trivial,?_⟩
  simp only [↓zZ1,↓reduceIte,Nat.reduceEqDiff,rg,ow_126,dsrch]
  apply hK;clear hK K
  have s4:=X4.size
  refine hend _ _ _ _ (.inr ⟨rfl,rfl,rfl⟩) (X3.trans X4 (fun _ _ g=>g.elim) fun _ _ _ g=>g) H4 (X4.row rk3 fun j _ g=>?_) (X4.wok wr3) (by omega) e0 e2 e4 e5 (by simp only [upd_eq,Nat.reduceEqDiff,↓reduceIte]<;>rfl) (by simp only [upd_eq,Nat.reduceEqDiff,↓reduceIte]<;>rfl) (by simp only [upd_eq,Nat.reduceEqDiff,↓reduceIte]<;>rfl) (by simp only [upd_eq,Nat.reduceEqDiff,↓reduceIte]<;>rfl) (by simp only [upd_eq,Nat.reduceEqDiff,↓reduceIte]<;>rfl)
  have:=hHl _ _ g
  omega
def DelQP (Q:It->List It->Prop) (ord:List Int) (d:Nat) (iso:Int) (h lo b:Nat) (xs:List It) (mx:Bool) (x:It) (hp:Option Nat) (F:Nat->Nat->Prop) (w:World) (v:Value) (w':World):Prop :=
 Ext (fun y o=>F y o\/hF hp y o) w w'/\HOk hp w'/\∃ F':Nat->Nat->Prop,(∀ y o,F' y o->F y o\/w.heap.size<=y) ∧
  ((delR O (rkI ord) mx (rkI ord x) xs=none/\v = .tuple #[itV zIt,.bool false]/\Tp E iso (d-1) (2*d-1) Q h w' lo b xs F') ∨
   ∃ y ys,delR O (rkI ord) mx (rkI ord x) xs=some (y,ys)/\v = .tuple #[itV y,.bool true]/\Tp E iso (d-1) (2*d-1) Q h w' (lo-1) b ys F')
theorem Shr.fineP {Q:It->List It->Prop} {E:Enc It} {iso:Int} {mn mx h:Nat} {w:World} {b bc:Nat} {cnt:Int} {ks:List It} {A B:List (Kid It)} {c:Kid It} {F0 F3:Nat->Nat->Prop} {K0 K3 lo:Nat} (s:Shr E iso mn mx h w b bc cnt ks A c B F0 F3 K0 K3) (hl:(A++c::B).length=ks.length+1)
  (hc:Tp E iso mn mx Q h w mn c.b c.xs c.F) (sR:∀ a ∈ A++B,Tp E iso mn mx Q h w mn a.b a.xs a.F) (hN:NP Q ((A++c::B).map Kid.xs) ks) (hlo:lo<=ks.length) (hmx:ks.length<=mx) (hcnt:cnt=((weave ((A++c::B).map Kid.xs) ks).length:Nat)) :
  Tp E iso mn mx Q (h+1) w lo b (weave ((A++c::B).map Kid.xs) ks) fun y o=>F0 y o\/F3 y o\/kinF (A++c::B) y o:=by
 have key:∀ a ∈ A++c::B,Tp E iso mn mx Q h w mn a.b a.xs a.F:=fun a ha=>by
  rcases List.mem_append.1 ha with ha | ha
  ·exact sR a (by simp [ha])
  ·rcases List.mem_cons.1 ha with rfl | ha
   ·exact hc
   ·exact sR a (by simp [ha])
 exact Tp.join s.n0 s.n3 ⟨.inr ⟨h,rfl,⟨bc,rfl⟩,rfl,hl,rfl,fun a ha=>(key a ha).tr⟩,fun a ha h' hh=>(by cases hh;exact key a ha),hN⟩ hlo hmx (.inr (Nat.le_refl _)) s.l0 hcnt
theorem Inn.others {h:Nat} {w:World} {E:Enc It} {iso:Int} {mn mx b:Nat} {xs:List It} {F:Nat->Nat->Prop} {bi oi cap:Nat} {ks:List It} {bc ba oa capc:Nat} {cs:List (Kid It)}
  (n:Inn E iso mn mx h w b xs F bi oi cap ks bc ba oa capc cs) {i:Nat} {c:Kid It} (hc:cs[i]? = some c):∀ a ∈ cs.take i++cs.drop (i+1),a ∈ cs/\Dj a.F c.F:=fun a ha=>by
 have hcs:cs=cs.take i++c::cs.drop (i+1):=by
  have h3:=List.getElem?_eq_some_iff.1 hc
  have:=List.take_append_drop i cs
  rw [List.drop_eq_getElem_cons h3.1,h3.2] at this
  exact this.symm
 have h2:=n.ap.two
 rw [hcs] at h2
 obtain ⟨p1,p2,p3⟩:=List.pairwise_append.1 h2
 obtain ⟨p4,p5⟩:=List.pairwise_cons.1 p2
 rcases List.mem_append.1 ha with ha | ha
 ·exact ⟨List.mem_of_mem_take ha,p3 a ha c (by simp)⟩
 ·exact ⟨List.mem_of_mem_drop ha,fun y o g k=>p4 a ha y o k g⟩
set_option maxHeartbeats 8000000 in
set_option maxRecDepth 8000 in
theorem delP_any (Q:It->List It->Prop) (hQ:Anti Q) (B m d:Nat) (iso:Int) (ord:List Int) (hd:2<=d) (hd':d<=128):∀ (h lo b:Nat) (xs:List It) (F:Nat->Nat->Prop) (w:World) (pc po:Nat) (mx:Bool) (x:It) (hp:Option Nat) (dep:Nat),Cfg w m iso d->Ls B m w ord →
  (∀ y o,F y o->m<y)->dep+h<1152921504606846976->1<=lo->Tp E iso (d-1) (2*d-1) Q h w lo b xs F->Asc O (rkI ord) xs->xs.length<1152921504606846976->rd w pc po=some (ptr b)->HOk hp w->(∀ hb,hp=some hb->m<hb/\∀ o,¬ F hb o)->mx=false->(∀ y ∈ xs,O.lt (rkI ord y) (rkI ord x)=true->∀ S,Q y S) →
  (∀ k S l y r,O.lt (rkI ord k) (rkI ord x)=false->O.lt (rkI ord k) (rkI ord y)=true->S=l++y::r->Q k S->Q y r) →
  CallK Try.prog 126 #[ptr m,.pointer (some ⟨pc,po,none⟩),.bool mx,itV x,hV hp,.int .i64 dep] w (DelQP Q ord d iso h lo b xs mx x hp F w):=by
 intro h
 induction h using Nat.strongRecOn with
 | _ h ihh =>
 intro lo b xs F w pc po mx x hp dep hc hL hBF hdep hlo htP ha hbig hpp hH hHF hmx hVd hLq
 have ht:=htP.tr
 obtain ⟨bi,oi,cap,ks,ch,ho,hl1,hl2,hoF,hin⟩:=htP.open
 have hbl:=wok_lt ho.wb
 have hbil:=wok_lt ho.wi
 have hml:=wok_lt hc.wok
 have hcap:=ho.le
 have hm:∀ o,¬ F m o:=fun o g=>by have:=hBF m o g;omega
 have hFh:∀ y o,F y o->¬ hF hp y o:=fun y o g k=>(hHF y k).2 o g
 have hHl:∀ y o,hF hp y o->y<w.heap.size:=fun y o g=>wok_lt (hH y g).wok
 have hmh:∀ o,¬ hF hp m o:=fun o g=>by have:=(hHF m g).1;omega
 have hak:Asc O (rkI ord) ks:=by
  rcases hin with ⟨_,_,hx,_⟩ | ⟨_,_,_,_,_,cs,_,_,n,_⟩
  ·rw [<-hx];exact ha
  ·refine List.Pairwise.sublist ?_ ha
   rw [n.eq];exact weave_sub _ _ (by simpa using n.len)
 have hkb:ks.length<4611686018427387904:=Nat.lt_of_le_of_lt hl2 (by clear hin hoF hFh;omega)
 have hch:∃ cc,ch = .pointer cc:=by
  rcases hin with ⟨_,h,_⟩ | ⟨_,bc,_,_,_,_,_,h,_⟩
  ·exact ⟨_,h⟩
  ·exact ⟨_,h⟩
 obtain ⟨cc,hcc⟩:=hch
 refine calls_of_W [.cell 12 33,.tmp 13] Try.func126 rfl Try.ntmps126 Try.results126 (by simp) fun e he=>?_
 have e0:e 0=ptr m:=he 0 _ rfl
 have e1:e 1 = .pointer (some ⟨pc,po,none⟩):=he 1 _ rfl
 have e2:e 2 = .bool mx:=he 2 _ rfl
 have e3:e 3=itV x:=he 3 _ rfl
 have e4:e 4=hV hp:=he 4 _ rfl
 have e5:e 5 = .int .i64 dep:=he 5 _ rfl
 clear he
 refine W_sq fun K hK=>(W_text [false,false,true] (by kernel_rfl) ?_);simp only [↓zZ1,↓reduceIte,Nat.reduceEqDiff,rg,ow_126]
 refine do_box (by simp only [evt];exact e3) fun w1 n1=>⟨trivial,?_⟩
 simp only [↓zZ1,↓reduceIte,Nat.reduceEqDiff,rg,ow_126]
 refine do_alloc dz_it fun w2 n2=>⟨trivial,?_⟩
 simp only [↓zZ1,↓reduceIte,Nat.reduceEqDiff,rg,ow_126]
 apply hK;clear hK K
 have X2:Ext noF w w2:=n1.ext.tr n2.ext
 have rk2:Row w2 w.heap.size 0 (E.cel x):=n2.ext.row n1.row fun _ _ g=>g
 have s1:=n1.size
 have s2:=n2.size
 obtain ⟨r0,hr0⟩:∃ r0,r0=w1.heap.size:=⟨_,rfl⟩
 have wr2:wok w2 r0 2:=by rw [hr0];exact n2.wok
 have hr0':r0=w.heap.size+1:=by omega
 rw [<-hr0]
 clear hr0
 have p2:=X2.rd hpp fun g=>g
 have i2:=X2.rd hc.iso fun g=>g
 have b2:=X2.rd ho.h0 fun g=>g
 refine W_sq fun K hK=>(W_text [true,true,false,true] (by kernel_rfl) ?_);simp only [↓zZ1,↓reduceIte,Nat.reduceEqDiff,rg,ow_126,e0,e1]
 refine do_call fn_96 (by simp only [zZ2,Nat.reduceEqDiff,↓reduceIte,zZ4]<;>rfl) (isoLoad_any m pc po b true iso w2 i2 p2 b2) ?_
 rintro _ w3 ⟨rfl,r3⟩
 refine ⟨trivial,?_⟩
 simp only [↓zZ1,↓reduceIte,Nat.reduceEqDiff,rg,ow_126]
 apply hK;clear hK K
 have x3:Ext noF w2 w3:=r3.ext
 have X3:Ext noF w w3:=X2.tr x3
 have rk3:=x3.row rk2 fun _ _ g=>g
 have wr3:=x3.wok wr2
 have s3:=x3.size
 have hs3:w.heap.size+2<=w3.heap.size:=by omega
 clear n1 n2 X2 rk2 wr2 s1 x3 r3 p2 i2 b2
 refine W_sq fun K hK=>(W_text [true] (by kernel_rfl) ?_);simp only [↓zZ1,↓reduceIte,Nat.reduceEqDiff,rg,ow_126]
 apply hK;clear hK K
 refine W_sq fun K hK=>(W_text [true] (by kernel_rfl) ?_);simp only [↓zZ1,↓reduceIte,Nat.reduceEqDiff,rg,ow_126]
 apply hK;clear hK K
 refine W_sqx fun J hJ=>?_
 have hend:∀ (e:Env) (w3:World) (fnd:Bool) (i:Nat),((mx=true/\fnd=true/\i=ks.length-1)\/(mx=false/\i=lb O (rkI ord) (rkI ord x) ks/\fnd=hit O (rkI ord) (rkI ord x) ks))->Ext (hF hp) w w3->HOk hp w3->Row w3 w.heap.size 0 (E.cel x)->wok w3 r0 2->w.heap.size+2<=w3.heap.size →
   e 0=ptr m->e 2 = .bool mx->e 4=hV hp->e 5 = .int .i64 dep->e 9=ptr w.heap.size->e 12=ptr r0->e 14=ptr b->e 15 = .int .i64 i->e 16 = .bool fnd->J e w3:=by
  clear e0 e1 e2 e3 e4 e5 X3 rk3 wr3 s2 s3 hs3
  clear e w3
  intro e w3 fnd i hfi X3 hH3 rk3 wr3 s3 e0 e2 e4 e5 e9 e12 e14 e15 e16
  refine hJ _ _ ?_;clear hJ J
  have o3:=ho.ext X3 fun y o g=>hFh y o (hoF y o g)
  have c3:=hc.ext X3 fun o _ _=>hmh o
  refine W_seq ?_
  rcases (id hin:_\/_) with ⟨rfl,hcn,hxk,hFo⟩ | ⟨h',bc,ba,oa,capc,cs,rfl,hcn,n,nT,nN⟩
  ·have hxk:=hxk.symm
   subst hxk
   rw [hcn] at o3
   refine W_sq fun K hK=>(W_text [true,false] (by kernel_rfl) ?_);simp only [↓zZ1,↓reduceIte,Nat.reduceEqDiff,rg,ow_126,e14]
   refine do_call fn_108 (by simp only [zZ2,Nat.reduceEqDiff,↓reduceIte,zZ4]<;>rfl) (leaf_any b none w3 o3.h3) ?_
   rintro _ w4 ⟨rfl,hw4⟩
   obtain rfl:w3=w4:=hw4.symm
   refine ⟨trivial,?_⟩
   simp only [↓zZ1,↓reduceIte,Nat.reduceEqDiff,rg,ow_126]
   apply hK;clear hK K
   refine W_true (by simp only [zZ2,Nat.reduceEqDiff,↓reduceIte,zZ3]<;>rfl) (W_seq ?_)
   refine W_sq fun K hK=>(W_text [true] (by kernel_rfl) ?_);simp only [↓zZ1,↓reduceIte,Nat.reduceEqDiff,rg,ow_126,e16]
   apply hK;clear hK K
   cases fnd with
   | false =>
    refine W_false (by simp only [zZ2,Nat.reduceEqDiff,↓reduceIte,zZ3]<;>rfl) (W_skip ?_)
    show W _ _ _ _ _ _
    have z3:=zIt_at c3
    refine W_sq fun K hK=>(W_text [true,true,true,true,false,true] (by kernel_rfl) ?_);simp only [↓zZ1,↓reduceIte,Nat.reduceEqDiff,rg,ow_126,e0,ptr_eq,z3]
    refine do_store (by simp only [zZ2,Nat.reduceEqDiff,↓reduceIte];exact e12) (by simp only [zZ2,Nat.reduceEqDiff,↓reduceIte,zZ3]<;>rfl) sz_33 (rb_len zIt) wr3 (by decide) (rb_oc zIt) fun w5 x5 r5 s5=>⟨trivial,?_⟩
    simp only [↓zZ1,↓reduceIte,Nat.reduceEqDiff,rg,ow_126]
    apply hK;clear hK K
    obtain ⟨hmx,hi,hh⟩:mx=false/\i=lb O (rkI ord) (rkI ord x) ks/\false=hit O (rkI ord) (rkI ord x) ks:=by
     rcases hfi with ⟨_,h,_⟩ | h
     ·cases h
     ·exact h
    subst hmx
    have X5:Ext (hF hp) w w5:=X3.trans x5 (fun _ _ g=>g) fun y o hy g=>by simp only [rng] at g;omega
    refine W_ret (endQ_ct e12 (by simp only [upd_eq,Nat.reduceEqDiff,↓reduceIte]<;>rfl) ld_33 (iX_at (show Row w5 r0 0 (E.cel zIt) from r5)) ⟨X5.mono fun _ _ _ g=>.inr g,hH3.ext x5 (fun hb hh o g=>?_),F,fun _ _ g=>.inl g,.inl ⟨delR_miss hh.symm,rfl,htP.ext X5 hFh⟩⟩)
    have:=hHl hb 0 hh
    simp only [rng] at g;omega
   | true =>
    refine W_true (by simp only [zZ2,Nat.reduceEqDiff,↓reduceIte,zZ3]<;>rfl) ?_
    have hi:i<ks.length:=by
     rcases hfi with ⟨_,_,h⟩ | ⟨_,h,hh⟩
     ·omega
     ·obtain ⟨k,hk,_⟩:=hit_at O (rkI ord) hh.symm
      rw [h];exact (List.getElem?_eq_some_iff.1 hk).1
    obtain ⟨k,hk⟩:∃ k,ks[i]? = some k:=⟨_,List.getElem?_eq_getElem hi⟩
    have hdel:delR O (rkI ord) mx (rkI ord x) ks=some (k,ks.eraseIdx i):=by
     rcases hfi with ⟨rfl,_,h⟩ | ⟨rfl,h,hh⟩
     ·have:ks=ks.dropLast++[k]:=by
       conv=>lhs;rw [<-List.dropLast_concat_getLast (l:=ks) (by intro h;rw [h] at hi;simp at hi)]
       congr 2
       rw [List.getLast_eq_getElem]
       subst h
       exact (List.getElem?_eq_some_iff.1 hk).2
      rw [h,dropL (by omega)]
      conv=>lhs;rw [this]
      exact delR_last
     ·rw [h] at hk ⊢
      exact delR_leaf hh.symm hk
    have hkv:=it_at o3.row hk
    refine W_sq fun K hK=>(W_text [true,true,true,true,true,true,true,false,false] (by kernel_rfl) ?_);simp only [↓zZ1,↓reduceIte,Nat.reduceEqDiff,rg,ow_126,e14,e15,ptr_eq,o3.h2,hi,hkv]
    refine do_alloc dz_it fun w4 n4=>⟨trivial,?_⟩
    simp only [↓zZ1,↓reduceIte,Nat.reduceEqDiff,rg,ow_126]
    refine do_store (by simp only [zZ2,Nat.reduceEqDiff,↓reduceIte,zZ3]<;>rfl) (by simp only [zZ2,Nat.reduceEqDiff,↓reduceIte,zZ3]<;>rfl) sz_33 (rb_len k) n4.wok (by decide) (rb_oc k) fun w5 x5 r5 s5=>⟨trivial,?_⟩
    simp only [↓zZ1,↓reduceIte,Nat.reduceEqDiff,rg,ow_126]
    apply hK;clear hK K
    have s4:=n4.size
    have X5:Ext noF w3 w5:=noF_of n4.ext x5 fun y o hy g=>by simp only [rng] at g;omega
    obtain ⟨q,hq⟩:∃ q,q=w3.heap.size:=⟨_,rfl⟩
    rw [<-hq] at r5 ⊢
    have rq5:Row w5 q 0 (E.cel k):=r5
    have o5:=o3.ext X5 fun _ _ _ g=>g
    have hqo:∀ o,¬ ownF E b bi oi cap q o:=fun o g=>by have:=ho.lt g;omega
    have hro:∀ o,¬ ownF E b bi oi cap r0 o:=fun o g=>by have:=ho.lt g;omega
    have hmo:∀ o,¬ ownF E b bi oi cap m o:=fun o g=>hm o (hoF _ _ g)
    have q1:=wadd1 i (by omega)
    have i1:i<=ks.length:=by omega
    have i2:i+1<=ks.length:=by omega
    obtain ⟨o1,h1,h1',-,k1⟩:=o5.se.from E_sz i i1
    obtain rfl:=h1' (by omega)
    obtain ⟨o2,h2,-,v2,-⟩:=o5.se.from E_sz (i+1) i2
    refine W_sq fun K hK=>(W_draw (some none) (some 13) [(0,0,0),(0,1,0),(0,2,0),(0,3,0),(0,4,0),(0,5,0),(0,6,0),(0,7,0),(0,8,0),(0,9,0),(0,10,0),(0,11,0),(0,12,0),(1,13,0)] mixed (by kernel_rfl) ?_);simp only [↓zZ1,↓reduceIte,Nat.reduceEqDiff,rg,ow_126,e14,e15,ptr_eq,o5.h2,q1,i1,i2,h1,h2]
    refine do_copy (by simp only [zZ2,Nat.reduceEqDiff,↓reduceIte,zZ3]<;>rfl) (by simp only [zZ2,Nat.reduceEqDiff,↓reduceIte,zZ3]<;>rfl) rb_eli (SlV.ext0 v2 (Ext.dr noF w5 (w5.drawn+1))) ((Ext.dr noF w5 (w5.drawn+1)).wok k1) (flat_oc E _) fun w6 x6 r6 s6=>⟨(by first | exact trivial | exact .inl trivial),?_⟩
    simp only [↓zZ1,↓reduceIte,Nat.reduceEqDiff,rg,ow_126]
    apply hK;clear hK K
    have hmn:min (ks.length-(i+1)) (ks.length-i)=ks.length-1-i:=by omega
    rw [hmn] at x6 r6
    rw [List.take_of_length_le (by rw [flat_length,List.length_drop,E_sz];omega)] at r6
    obtain ⟨z,g1,g2⟩:=o5.se.down (i:=i) hi x6.od r6
    have o6:=o5.step g1 g2
    have X6:Ext (ownF E b bi oi cap) w3 w6:=X5.trans g2 (fun _ _ g=>g.elim) fun _ _ _ g=>seF_own g
    have le:=List.length_eraseIdx_of_lt hi
    have hA:(ks.eraseIdx i++[z]).length=ks.length:=by rw [List.length_append,List.length_singleton];omega
    have h26:=o6.h2
    have h46:=o6.le
    rw [hA] at h26 h46
    have q2:=wsub1 ks.length (by omega) (by omega)
    have i3:ks.length-1<ks.length:=by omega
    have z6:=zIt_at (c3.ext X6 fun o _ _=>hmo o)
    refine W_sq fun K hK=>(W_draw (some none) (some 15) [(0,0,0),(0,1,0),(0,2,0),(0,3,0),(0,4,0),(0,5,0),(0,6,0),(0,7,0),(0,8,0),(0,9,0),(0,10,0),(0,11,0),(0,12,0),(0,13,0),(0,14,0),(1,15,0)] mixed (by kernel_rfl) ?_);simp only [↓zZ1,↓reduceIte,Nat.reduceEqDiff,rg,ow_126,e0,e14,ptr_eq,h26,q2,i3,z6]
    refine do_store (by simp only [zZ2,Nat.reduceEqDiff,↓reduceIte,zZ3]<;>rfl) (by simp only [zZ2,Nat.reduceEqDiff,↓reduceIte,zZ3]<;>rfl) sz_33 (rb_len zIt) o6.wi (by rw [E_sz];omega) (rb_oc zIt) fun w7 x7 r7 s7=>⟨(by first | exact trivial | exact .inl trivial),?_⟩
    simp only [↓zZ1,↓reduceIte,Nat.reduceEqDiff,rg,ow_126]
    apply hK;clear hK K
    obtain ⟨g3,g4⟩:=o6.se.set (i:=ks.length-1) (x:=zIt) (by rw [hA];omega) x7.od r7
    rw [show (ks.eraseIdx i++[z]).set (ks.length-1) zIt=ks.eraseIdx i++[zIt] by rw [show ks.length-1=(ks.eraseIdx i).length by omega];exact set_last] at g3
    have o7:=o6.step g3 g4
    have X7:Ext (ownF E b bi oi cap) w3 w7:=X6.tr (g4.mono fun _ _ _ g=>seF_own g)
    have hA':(ks.eraseIdx i++[zIt]).length=ks.length:=by rw [List.length_append,List.length_singleton];omega
    have h27:=o7.h2
    rw [hA'] at h27
    have i4:ks.length-1<=cap:=by omega
    refine W_sq fun K hK=>(W_draw (some none) (some 14) [(0,0,0),(0,1,0),(0,2,0),(0,3,0),(0,4,0),(0,5,0),(0,6,0),(0,7,0),(0,8,0),(0,9,0),(0,10,0),(0,11,0),(0,12,0),(0,13,0),(1,14,0)] mixed (by kernel_rfl) ?_);simp only [↓zZ1,↓reduceIte,Nat.reduceEqDiff,rg,ow_126,e14,ptr_eq,h27,q2,i4]
    refine do_store (by simp only [zZ2,Nat.reduceEqDiff,↓reduceIte,zZ3]<;>rfl) (by simp only [zZ2,Nat.reduceEqDiff,↓reduceIte,zZ3]<;>rfl) sz_25 rfl o7.wb (by decide) (oc_one rfl rfl) fun w8 x8 r8 s8=>⟨(by first | exact trivial | exact .inl trivial),?_⟩
    simp only [↓zZ1,↓reduceIte,Nat.reduceEqDiff,rg,ow_126]
    apply hK;clear hK K
    obtain ⟨g5,g6⟩:=o7.se.cut x8.od (by rw [le];exact (Row.cons.1 r8).1)
    have o8:=o7.step g5 g6
    have X8:Ext (ownF E b bi oi cap) w3 w8:=X7.tr (g6.mono fun _ _ _ g=>seF_own g)
    refine W_sq fun K hK=>(W_text [true,true,true,true,true,true,true,false] (by kernel_rfl) ?_);simp only [↓zZ1,↓reduceIte,Nat.reduceEqDiff,rg,ow_126,e14,ptr_eq,o8.h1,q2]
    refine do_store (by simp only [zZ2,Nat.reduceEqDiff,↓reduceIte,zZ3]<;>rfl) (by simp only [zZ2,Nat.reduceEqDiff,↓reduceIte,zZ3]<;>rfl) sz_3 rfl o8.wb (by decide) (oc_one rfl rfl) fun w9 x9 r9 s9=>⟨trivial,?_⟩
    simp only [↓zZ1,↓reduceIte,Nat.reduceEqDiff,rg,ow_126]
    apply hK;clear hK K
    have o9:=o8.cnt' x9 (Row.cons.1 r9).1
    have X9:Ext (ownF E b bi oi cap) w3 w9:=X8.tr (x9.mono fun _ _ _ g=>.inl g.1)
    have sz9:=X9.size
    have Y9:Ext (ownF E b bi oi cap) w5 w9:=(((g2.mono fun _ _ _ g=>seF_own g).tr (g4.mono fun _ _ _ g=>seF_own g)).tr (g6.mono fun _ _ _ g=>seF_own g)).tr (x9.mono fun _ _ _ g=>.inl g.1)
    have kq9:=iX_at (Y9.row rq5 fun j _=>hqo _)
    refine W_sq fun K hK=>(W_text [true,false,true] (by kernel_rfl) ?_);simp only [↓zZ1,↓reduceIte,Nat.reduceEqDiff,rg,ow_126,kq9]
    refine do_store (by simp only [zZ2,Nat.reduceEqDiff,↓reduceIte];exact e12) (by simp only [zZ2,Nat.reduceEqDiff,↓reduceIte,zZ3]<;>rfl) sz_33 (rb_len k) (X9.wok wr3) (by decide) (rb_oc k) fun w10 x10 r10 s10=>⟨trivial,?_⟩
    simp only [↓zZ1,↓reduceIte,Nat.reduceEqDiff,rg,ow_126]
    apply hK;clear hK K
    have X10:Ext (fun y o=>F y o\/hF hp y o) w w10:=(X3.trans X9 (fun _ _ g=>.inr g) fun y o _ g=>.inl (hoF y o g)).trans x10 (fun _ _ g=>g) fun y o hy g=>by simp only [rng] at g;omega
    have H10:HOk hp w10:=(hH3.ext X9 fun hb hh o g=>(hHF hb hh).2 o (hoF _ _ g)).ext x10 fun hb hh o g=>by
     have:=hHl hb 0 hh
     simp only [rng] at g;omega
    refine W_ret (endQ_ct e12 (by simp only [upd_eq,Nat.reduceEqDiff,↓reduceIte]<;>rfl) ld_33 (iX_at (show Row w10 r0 0 (E.cel k) from r10)) ⟨X10,H10,F,fun _ _ g=>.inl g,.inr ⟨k,ks.eraseIdx i,hdel,rfl,bi,oi,cap,?_,by omega,by omega,hFo⟩⟩)
    have o10:=o9.ext x10 fun y o g h=>by
     simp only [rng] at h
     exact hro o (by rw [<-h.1];exact g)
    rw [le]
    exact o10
  ·rw [hcn] at o3
   have hkF:∀ y o,kidF bc ba oa capc y o->F y o:=fun y o g=>(n.fp y o).2 (.inr (.inl g))
   have hcF:∀ c ∈ cs,∀ y o,c.F y o->F y o:=fun c hc y o g=>(n.fp y o).2 (.inr (.inr ⟨c,hc,g⟩))
   have nM:=n.mem
   have hj1:∀ j k,j<lb O (rkI ord) (rkI ord x) ks->ks[j]? = some k->O.lt (rkI ord k) (rkI ord x)=true:=fun j k hj hk=>by
    refine lb_take_lt O (rkI ord) (xs:=ks) k ?_
    rw [List.mem_iff_getElem?]
    exact ⟨j,by rw [List.getElem?_take,if_pos hj];exact hk⟩
   have hnext:∀ (j:Nat) (k:It) (c2:Kid It),ks[j]? = some k->cs[j+1]? = some c2->∀ y ∈ c2.xs,O.lt (rkI ord k) (rkI ord y)=true:=fun j k c2 hk hc2 y hy=>by
    obtain ⟨c0,hc0⟩:∃ c0,cs[j]? = some c0:=⟨_,List.getElem?_eq_getElem (by have:=(List.getElem?_eq_some_iff.1 hc2).1;omega)⟩
    have hx:=n.xs hc0
    rw [tl_step (Kid.at hc2) hk] at hx
    rw [hx] at ha
    have h1:=((Asc.append O (rkI ord)).1 ha).2.1
    exact (List.pairwise_cons.1 h1).1 y (by simp [hy])
   have hprev:∀ (j:Nat) (k:It) (a:Kid It),ks[j]? = some k->cs[j]? = some a->∀ y ∈ a.xs,O.lt (rkI ord y) (rkI ord k)=true:=fun j k a hk ha2 y hy=>by
    obtain ⟨c2,hc2⟩:∃ c2,cs[j+1]? = some c2:=⟨_,List.getElem?_eq_getElem (by have:=(List.getElem?_eq_some_iff.1 hk).1;have:=n.len;omega)⟩
    have hx:=n.xs ha2
    rw [tl_step (Kid.at hc2) hk] at hx
    rw [hx] at ha
    exact ((Asc.append O (rkI ord)).1 ha).2.2 y (by simp [hy]) k (by simp)
   have hj2:∀ a ∈ cs.take (lb O (rkI ord) (rkI ord x) ks),∀ y ∈ a.xs,O.lt (rkI ord y) (rkI ord x)=true:=fun a ha2 y hy=>by
    obtain ⟨j,hj⟩:=List.mem_iff_getElem?.1 ha2
    rw [List.getElem?_take] at hj
    split at hj
    ·rename_i hlt
     have hle:=lb_le O (rkI ord) (rkI ord x) ks
     obtain ⟨k,hk⟩:∃ k,ks[j]? = some k:=⟨_,List.getElem?_eq_getElem (by omega)⟩
     exact O.tr _ _ _ (hprev j k a hk hj y hy) (hj1 j k hlt hk)
    ·cases hj
   have hcond:∀ (i:Nat) (ks':List It),i=lb O (rkI ord) (rkI ord x) ks->(∀ j,j<i->ks'[j]? = ks[j]?) →
     (∀ k,0<(cs.take i).length->ks'[(cs.take i).length-1]? = some k->∀ S,Q k S)/\(∀ a ∈ cs.take i,∀ y ∈ a.xs,∀ S,Q y S)/\(∀ k,1<(cs.take i).length->ks'[(cs.take i).length-2]? = some k->∀ S,Q k S) ∧
     ∀ c2 B',cs.drop (i+1)=c2::B'->∀ l y r,c2.xs=l++y::r->Q y r:=fun i ks' hi hks=>by
    have hle:=lb_le O (rkI ord) (rkI ord x) ks
    have hti:(cs.take i).length=i:=by rw [List.length_take];have:=n.len;omega
    rw [hti]
    refine ⟨fun k h0 hk S=>?_,fun a ha2 y hy S=>?_,fun k h0 hk S=>?_,fun c2 B' hd l y r hs=>?_⟩
    ·rw [hks _ (by omega)] at hk
     exact hVd k (nM.1 k (List.mem_of_getElem? hk)) (hj1 _ k (by omega) hk) S
    ·rw [hi] at ha2
     exact hVd y (nM.2 a (List.mem_of_mem_take ha2) y hy) (hj2 a ha2 y hy) S
    ·rw [hks _ (by omega)] at hk
     exact hVd k (nM.1 k (List.mem_of_getElem? hk)) (hj1 _ k (by omega) hk) S
    ·have hc2:cs[i+1]? = some c2:=by
      have:=congrArg (fun l=>l[0]?) hd
      simpa using this
     obtain ⟨k,hk⟩:∃ k,ks[i]? = some k:=⟨_,List.getElem?_eq_getElem (by have:=(List.getElem?_eq_some_iff.1 hc2).1;have:=n.len;omega)⟩
     have hnlt:O.lt (rkI ord k) (rkI ord x)=false:=by rw [hi] at hk;exact lb_ge O (rkI ord) hk
     exact hLq k c2.xs l y r hnlt (hnext i k c2 hk hc2 y (by rw [hs];simp)) hs (nN i k c2.xs hk (Kid.at hc2))
   have n3:=n.ext X3 (fun y o g=>hFh y o (hkF y o g)) fun c hc y o g=>hFh y o (hcF c hc y o g)
   refine W_sq fun K hK=>(W_text [true,false] (by kernel_rfl) ?_);simp only [↓zZ1,↓reduceIte,Nat.reduceEqDiff,rg,ow_126,e14]
   refine do_call fn_108 (by simp only [zZ2,Nat.reduceEqDiff,↓reduceIte,zZ4]<;>rfl) (leaf_any b (some ⟨bc,0,none⟩) w3 o3.h3) ?_
   rintro _ w4 ⟨rfl,hw4⟩
   obtain rfl:w3=w4:=hw4.symm
   refine ⟨trivial,?_⟩
   simp only [↓zZ1,↓reduceIte,Nat.reduceEqDiff,rg,ow_126]
   apply hK;clear hK K
   refine W_false (by simp only [zZ2,Nat.reduceEqDiff,↓reduceIte,zZ3]<;>rfl) (W_skip ?_)
   show W _ _ _ _ _ _
   refine W_sq fun K hK=>(W_text [false] (by kernel_rfl) ?_);simp only [↓zZ1,↓reduceIte,Nat.reduceEqDiff,rg,ow_126]
   refine do_alloc dz_it fun w4 n4=>⟨trivial,?_⟩
   simp only [↓zZ1,↓reduceIte,Nat.reduceEqDiff,rg,ow_126]
   apply hK;clear hK K
   refine W_sq fun K hK=>(W_text [true] (by kernel_rfl) ?_);simp only [↓zZ1,↓reduceIte,Nat.reduceEqDiff,rg,ow_126]
   apply hK;clear hK K
   obtain ⟨q,hq⟩:∃ q,q=w3.heap.size:=⟨_,rfl⟩
   have wq4:wok w4 q 2:=by rw [hq];exact n4.wok
   have s4:=n4.size
   have x4:Ext noF w3 w4:=n4.ext
   rw [<-hq]
   have X4:Ext (hF hp) w w4:=X3.trans x4 (fun _ _ g=>g) fun _ _ _ g=>g.elim
   have H4:=hH3.ext0 x4
   have rk4:=x4.row rk3 fun _ _ g=>g
   have wr4:=x4.wok wr3
   have hs4:w.heap.size+3<=w4.heap.size:=by omega
   have hqs:w.heap.size+2<=q/\q<w4.heap.size:=by omega
   have o4:=o3.ext x4 fun _ _ _ g=>g
   have nn:=n3.ext x4 (fun _ _ _ g=>g) fun _ _ _ _ _ g=>g
   have nT4:∀ a ∈ cs,Tp E iso (d-1) (2*d-1) Q h' w4 (d-1) a.b a.xs a.F:=fun a ha=>(nT a ha).ext X4 fun y o g=>hFh y o (hcF a ha y o g)
   have hrq:r0 ≠ q:=by omega
   clear n3 o3 c3 X3 hH3 rk3 wr3 s3 n4 x4 s4 hq
   refine W_sqx fun J hJ=>?_
   have hyes:∀ (e:Env) (w5:World) (y:It) (A Bq:List (Kid It)) (c:Kid It) (ks' ys:List It) (F0 F3:Nat->Nat->Prop) (K0 K3:Nat),Shr E iso (d-1) (2*d-1) h' w5 b bc (xs.length:Nat) ks' A c Bq F0 F3 K0 K3->ks'.length=ks.length->(A++c::Bq).length=ks'.length+1->Tp E iso (d-1) (2*d-1) Q h' w5 (d-1-1) c.b c.xs c.F->(∀ a ∈ A++Bq,Tp E iso (d-1) (2*d-1) Q h' w5 (d-1) a.b a.xs a.F)->NP Q ((A++c::Bq).map Kid.xs) ks' →
     ((∀ k,0<A.length->ks'[A.length-1]? = some k->∀ S,Q k S)/\(∀ a ∈ A,∀ y ∈ a.xs,∀ S,Q y S)/\(∀ k,1<A.length->ks'[A.length-2]? = some k->∀ S,Q k S)/\∀ c2 B',Bq=c2::B'->∀ l y r,c2.xs=l++y::r->Q y r) →
     ys=weave ((A++c::Bq).map Kid.xs) ks'->delR O (rkI ord) mx (rkI ord x) xs=some (y,ys)->Ext (fun y o=>F y o\/hF hp y o) w w5->HOk hp w5->(∀ y o,(F0 y o\/F3 y o\/kinF (A++c::Bq) y o)->F y o\/w.heap.size<=y)->Row w5 q 0 (E.cel y)->wok w5 r0 2 →
     (∀ o,¬ (F0 q o\/F3 q o\/kinF (A++c::Bq) q o))->(∀ o,¬ (F0 r0 o\/F3 r0 o\/kinF (A++c::Bq) r0 o)) →
     e 0=ptr m->e 12=ptr r0->e 14=ptr b->e 15 = .int .i64 (A.length:Nat)->e 18=ptr q->e 19 = .bool true->J e w5:=by
    clear e0 e2 e4 e5 e9 e12 e14 e15 e16 X4 H4 rk4 wr4 wq4 o4 nn
    clear e
    intro e w5 y A Bq c ks' ys F0 F3 K0 K3 sh hkl hlen sT sR sN sC hys hdel X5 H5 hFs rq5 wr5 hqF hrF e0 e12 e14 e15 e18 e19
    refine hJ _ _ ?_;clear hJ J
    have hyl:=delR_len hdel
    refine W_seq ?_
    refine W_sq fun K hK=>(W_text [true,true] (by kernel_rfl) ?_);simp only [↓zZ1,↓reduceIte,Nat.reduceEqDiff,rg,ow_126,e19]
    apply hK;clear hK K
    refine W_false (by simp only [zZ2,Nat.reduceEqDiff,↓reduceIte,zZ3]<;>rfl) (W_skip ?_)
    show W _ _ _ _ _ _
    obtain ⟨bi',oi',cap',o5,hz,hK,hF0⟩:=sh.n0
    have q1:=wsub1 xs.length (by omega) (by omega)
    refine W_sq fun K hK=>(W_text [true,true,true,true,true,true,true,false] (by kernel_rfl) ?_);simp only [↓zZ1,↓reduceIte,Nat.reduceEqDiff,rg,ow_126,e14,ptr_eq,o5.h1,q1]
    refine do_store (by simp only [zZ2,Nat.reduceEqDiff,↓reduceIte,zZ3]<;>rfl) (by simp only [zZ2,Nat.reduceEqDiff,↓reduceIte,zZ3]<;>rfl) sz_3 rfl o5.wb (by decide) (oc_one rfl rfl) fun w6 x6 r6 s6=>⟨trivial,?_⟩
    simp only [↓zZ1,↓reduceIte,Nat.reduceEqDiff,rg,ow_126]
    apply hK;clear hK K
    have hb0:∀ y o,rng b 1 1 y o->F0 y o:=fun y o g=>(hF0 y o).2 (.inl g.1)
    have x6':Ext F0 w5 w6:=x6.mono fun y o _ g=>hb0 y o g
    have sh6:Shr E iso (d-1) (2*d-1) h' w6 b bc (ys.length:Nat) ks' A c Bq F0 F3 K0 K3:=⟨⟨bi',oi',cap',by rw [show ys.length=xs.length-1 by omega];exact o5.cnt' x6 (Row.cons.1 r6).1,hz,hK,hF0⟩,
     (kdO _ _).loc sh.n3 x6' sh.l0.d.symm,sh.l0,sh.t.ext x6' (sh.l0.g1 c (by simp)),fun a ha=>(sh.rest a ha).ext x6' (sh.l0.g1 a (by
      rcases List.mem_append.1 ha with ha | ha
      ·simp [ha]
      ·simp [ha]))⟩
    have sT6:=sT.ext x6' (sh.l0.g1 c (by simp))
    have sR6:∀ a ∈ A++Bq,Tp E iso (d-1) (2*d-1) Q h' w6 (d-1) a.b a.xs a.F:=fun a ha=>(sR a ha).ext x6' (sh.l0.g1 a (by
     rcases List.mem_append.1 ha with ha | ha
     ·simp [ha]
     ·simp [ha]))
    have X6:Ext (fun y o=>F y o\/hF hp y o) w w6:=X5.trans x6' (fun _ _ g=>g) fun y o hy g=>by
     rcases hFs y o (.inl g) with h | h
     ·exact .inl h
     ·omega
    have H6:HOk hp w6:=H5.ext x6' fun hb hh o g=>by
     rcases hFs hb o (.inl g) with h | h
     ·exact (hHF hb hh).2 o h
     ·have:=hHl hb 0 hh;omega
    have rq6:=x6'.row rq5 fun j _ g=>hqF _ (.inl g)
    have wr6:=x6'.wok wr5
    clear sh o5 X5 H5 rq5 wr5 x6 r6 s6 x6' hb0 q1 hz hK hF0
    have hmF:∀ o,¬ (F0 m o\/F3 m o\/kinF (A++c::Bq) m o):=fun o g=>by
     rcases hFs m o g with h | h
     ·exact hm o h
     ·omega
    have c6:=hc.ext X6 fun o _ _ g=>g.elim (hm o) (hmh o)
    refine W_sqx fun J hJ=>?_
    have hfin:∀ (e:Env) (w7:World) (F'':Nat->Nat->Prop),Tp E iso (d-1) (2*d-1) Q (h'+1) w7 (lo-1) b ys F''->Ext (fun y o=>F0 y o\/F3 y o\/kinF (A++c::Bq) y o) w6 w7->(∀ y o,F'' y o->(F0 y o\/F3 y o\/kinF (A++c::Bq) y o)\/w6.heap.size<=y) →
      e 12=ptr r0->e 18=ptr q->J e w7:=by
     clear e0 e12 e14 e15 e18 e19
     clear e
     intro e w7 F'' T7 x7 hF'' e12 e18
     refine hJ _ _ ?_;clear hJ J
     have rq7:=x7.row rq6 fun j _ g=>hqF _ g
     have kq7:=iX_at rq7
     have s6:=X6.size
     have s7:=x7.size
     refine W_sq fun K hK=>(W_text [true,false,true] (by kernel_rfl) ?_);simp only [↓zZ1,↓reduceIte,Nat.reduceEqDiff,rg,ow_126,e18,ptr_eq,kq7]
     refine do_store (by simp only [zZ2,Nat.reduceEqDiff,↓reduceIte];exact e12) (by simp only [zZ2,Nat.reduceEqDiff,↓reduceIte,zZ3]<;>rfl) sz_33 (rb_len y) (x7.wok wr6) (by decide) (rb_oc y) fun w8 x8 r8 s8=>⟨trivial,?_⟩
     simp only [↓zZ1,↓reduceIte,Nat.reduceEqDiff,rg,ow_126]
     apply hK;clear hK K
     have hold:∀ y o,(F0 y o\/F3 y o\/kinF (A++c::Bq) y o)->y<w.heap.size->F y o:=fun y o g hy=>(hFs y o g).resolve_right (by omega)
     refine W_ret (endQ_ct e12 (by simp only [upd_eq,Nat.reduceEqDiff,↓reduceIte]<;>rfl) ld_33 (iX_at (show Row w8 r0 0 (E.cel y) from r8)) ⟨(X6.trans x7 (fun _ _ g=>g) fun y o hy g=>.inl (hold y o g hy)).trans x8 (fun _ _ g=>g) fun y o hy g=>by simp only [rng] at g;omega,
      (H6.ext x7 fun hb hh o g=>?_).ext x8 fun hb hh o g=>?_,F'',fun y o g=>?_,.inr ⟨y,ys,hdel,rfl,T7.ext x8 fun y o g k=>?_⟩⟩)
     ·have:=hHl hb 0 hh
      exact (hHF hb hh).2 o (hold hb o g this)
     ·have:=hHl hb 0 hh
      simp only [rng] at g;omega
     ·rcases hF'' y o g with g | g
      ·exact hFs y o g
      ·exact .inr (by omega)
     ·simp only [rng] at k
      rcases hF'' y o g with g | g
      ·exact hrF o (by rw [<-k.1];exact g)
      ·have:=wok_lt wr6
       omega
    obtain ⟨a,nk,capn,hkn,hk1,hk2,hraise⟩:=sT6.keys
    obtain ⟨bi',oi',cap',o6,hz,hK,hF0⟩:=sh6.n0
    rcases sh6.n3 with ⟨h,_⟩ | ⟨bc',ba',oa',capc',hbc,k6,_,_⟩
    ·cases h
    obtain rfl:bc=bc':=by simpa [ptr] using hbc
    have hil:A.length<((A++c::Bq).map fun g=>some g.b).length:=by simp
    have hcp:=k6.ptr_at (j:=A.length) (p:=c.b) (by simp)
    by_cases hsh:nk<d-1
    ·have hb:decide ((nk:Int)<((d-1:Nat):Int))=true:=by simp only [decide_eq_true_eq];omega
     refine W_sq fun K hK=>(W_draw (some none) none [(0,0,0),(0,1,0),(0,2,0),(0,3,0),(0,4,0),(0,5,0),(0,6,0),(0,7,0),(0,8,0),(0,9,0),(0,10,0),(0,11,0),(0,12,0),(0,13,0),(0,14,0),(0,15,0),(0,16,0),(0,17,0)] mixed (by kernel_rfl) ?_);simp only [↓zZ1,↓reduceIte,Nat.reduceEqDiff,rg,ow_126,e0,e14,e15,ptr_eq,o6.h3,k6.hd,hil,hcp,hkn,c6.mn,hb]
     apply hK;clear hK K
     refine W_true (by simp only [zZ2,Nat.reduceEqDiff,↓reduceIte,zZ3]<;>rfl) ?_
     have D:=Ext.dr noF w6 (w6.drawn+1)
     refine W_rg fun K hK=>(W_text [true,true,true,false] (by kernel_rfl) ?_);simp only [↓zZ1,↓reduceIte,Nat.reduceEqDiff,rg,ow_126,e0,e14,e15]
     refine do_call fn_151 (by simp only [zZ2,Nat.reduceEqDiff,↓reduceIte,zZ4]<;>rfl) (reb_shrP m d iso hd hd' (c6.ext D fun _ _ _ g=>g) (sh6.ext0 D) hmF hlen (by omega) (by omega) (by rw [hys]) (by rw [<-hys];omega) (D.rd hkn fun g=>g) hsh hQ (sT6.ext D fun _ _ _ g=>g) (fun a ha=>(sR6 a ha).ext D fun _ _ _ g=>g) sN sC.1 sC.2.1 sC.2.2.1 sC.2.2.2) ?_
     rintro _ w7 ⟨F'',T7,x7,hF''⟩
     refine ⟨trivial,?_⟩
     simp only [↓zZ1,↓reduceIte,Nat.reduceEqDiff,rg,ow_126]
     apply hK;clear hK K
     rw [<-hys] at T7
     exact hfin _ _ F'' (T7.mono (by omega)) x7.od hF'' e12 e18
    ·have hb:decide ((nk:Int)<((d-1:Nat):Int))=false:=by simp only [decide_eq_false_iff_not];omega
     refine W_sq fun K hK=>(W_draw (some none) none [(0,0,0),(0,1,0),(0,2,0),(0,3,0),(0,4,0),(0,5,0),(0,6,0),(0,7,0),(0,8,0),(0,9,0),(0,10,0),(0,11,0),(0,12,0),(0,13,0),(0,14,0),(0,15,0),(0,16,0),(0,17,0)] mixed (by kernel_rfl) ?_);simp only [↓zZ1,↓reduceIte,Nat.reduceEqDiff,rg,ow_126,e0,e14,e15,ptr_eq,o6.h3,k6.hd,hil,hcp,hkn,c6.mn,hb]
     apply hK;clear hK K
     refine W_false (by simp only [zZ2,Nat.reduceEqDiff,↓reduceIte,zZ3]<;>rfl) (W_skip ?_)
     have T6:=sh6.fineP (lo:=lo-1) hlen (hraise (d-1) (by omega)) sR6 sN (by omega) (by omega) (by rw [hys])
     rw [<-hys] at T6
     exact hfin _ _ _ (T6.ext (Ext.dr noF _ _) fun _ _ _ g=>g) ((Ext.dr noF _ _).mono fun _ _ _ g=>g.elim) (fun y o g=>.inl g) e12 e18
   have hlt:∀ y o,F y o->y<w.heap.size:=ht.lt
   have hno:∀ (e:Env) (w5:World) (F':Nat->Nat->Prop),delR O (rkI ord) mx (rkI ord x) xs=none->Tp E iso (d-1) (2*d-1) Q (h'+1) w5 lo b xs F'->(∀ y o,F' y o->F y o\/w.heap.size<=y)->(∀ o,¬ F' r0 o)->Ext (fun y o=>F y o\/hF hp y o) w w5->HOk hp w5->wok w5 r0 2 →
     e 0=ptr m->e 12=ptr r0->e 19 = .bool false->J e w5:=by
    clear e0 e2 e4 e5 e9 e12 e14 e15 e16 X4 H4 rk4 wr4 wq4 o4 nn hyes
    clear e
    intro e w5 F' hdel T5 hF' hFr X5 H5 wr5 e0 e12 e19
    refine hJ _ _ ?_;clear hJ J
    refine W_seq ?_
    refine W_sq fun K hK=>(W_text [true,true] (by kernel_rfl) ?_);simp only [↓zZ1,↓reduceIte,Nat.reduceEqDiff,rg,ow_126,e19]
    apply hK;clear hK K
    refine W_true (by simp only [zZ2,Nat.reduceEqDiff,↓reduceIte,zZ3]<;>rfl) ?_
    have z5:=zIt_at (hc.ext X5 fun o _ _ g=>g.elim (hm o) (hmh o))
    refine W_sq fun K hK=>(W_text [true,true,true,true,false,true] (by kernel_rfl) ?_);simp only [↓zZ1,↓reduceIte,Nat.reduceEqDiff,rg,ow_126,e0,ptr_eq,z5]
    refine do_store (by simp only [zZ2,Nat.reduceEqDiff,↓reduceIte];exact e12) (by simp only [zZ2,Nat.reduceEqDiff,↓reduceIte,zZ3]<;>rfl) sz_33 (rb_len zIt) wr5 (by decide) (rb_oc zIt) fun w6 x6 r6 s6=>⟨trivial,?_⟩
    simp only [↓zZ1,↓reduceIte,Nat.reduceEqDiff,rg,ow_126]
    apply hK;clear hK K
    refine W_ret (endQ_ct e12 (by simp only [upd_eq,Nat.reduceEqDiff,↓reduceIte]<;>rfl) ld_33 (iX_at (show Row w6 r0 0 (E.cel zIt) from r6)) ⟨X5.trans x6 (fun _ _ g=>g) fun y o hy g=>by simp only [rng] at g;omega,
     H5.ext x6 fun hb hh o g=>?_,F',hF',.inl ⟨hdel,rfl,T5.ext x6 fun y o g k=>?_⟩⟩)
    ·have:=hHl hb 0 hh
     simp only [rng] at g;omega
    ·simp only [rng] at k
     exact hFr o (by rw [<-k.1];exact g)
   have hpost:∀ (e:Env) (w5 w6:World) (i:Nat) (c:Kid It) (F':Nat->Nat->Prop) (y:It) (zs:List It) (dl:Bool),i=lb O (rkI ord) (rkI ord x) ks->cs[i]? = some c->Ext (fun y o=>c.F y o\/hF hp y o) w4 w5->HOk hp w5->(∀ y o,F' y o->c.F y o\/w4.heap.size<=y)->Ext (rng q 0 2) w5 w6->Row w6 q 0 (E.cel y) →
     ((dl=true/\Tp E iso (d-1) (2*d-1) Q h' w5 (d-1-1) c.b zs F'/\delR O (rkI ord) mx (rkI ord x) xs=some (y,weave ((cs.map Kid.xs).set i zs) ks))\/(dl=false/\zs=c.xs/\Tp E iso (d-1) (2*d-1) Q h' w5 (d-1) c.b c.xs F'/\delR O (rkI ord) mx (rkI ord x) xs=none)) →
     e 0=ptr m->e 12=ptr r0->e 14=ptr b->e 15 = .int .i64 (i:Nat)->e 18=ptr q->e 19 = .bool dl->J e w6:=by
    clear e0 e2 e4 e5 e9 e12 e14 e15 e16
    clear e
    intro e w5 w6 i c F' y zs dl hilb hcs x5 H5 hF' x6 r6 hres e0 e12 e14 e15 e18 e19
    have hcm:=List.mem_of_getElem? hcs
    have hcl:∀ y o,c.F y o->y<w.heap.size:=fun y o g=>hlt y o (hcF c hcm y o g)
    have x46:Ext (fun y o=>(c.F y o\/hF hp y o)\/y=q) w4 w6:=x5.trans x6 (fun _ _ g=>.inl g) fun y o _ g=>.inr g.1
    have hG:∀ y o,F y o->((c.F y o\/hF hp y o)\/y=q)->c.F y o:=fun y o g k=>by
     rcases k with (k | k) | k
     ·exact k
     ·exact (hFh y o g k).elim
     ·have:=hlt y o g;omega
    have hF'q:∀ o,¬ F' q o:=fun o g=>by
     rcases hF' q o g with g | g
     ·have:=hcl q o g;omega
     ·omega
    have T6:∀ {lo':Nat} {zs':List It},Tp E iso (d-1) (2*d-1) Q h' w5 lo' c.b zs' F'->Tp E iso (d-1) (2*d-1) Q h' w6 lo' c.b zs' F':=fun T=>T.ext x6 fun y o g k=>hF'q o (by rw [<-k.1];exact g)
    have X6:Ext (fun y o=>F y o\/hF hp y o) w w6:=X4.trans x46 (fun _ _ g=>.inr g) fun y o hy g=>by
     rcases g with (g | g) | g
     ·exact .inl (hcF c hcm y o g)
     ·exact .inr g
     ·omega
    have H6:HOk hp w6:=H5.ext x6 fun hb hh o g=>by
     have:=hHl hb 0 hh
     simp only [rng] at g;omega
    have wr6:wok w6 r0 2:=x46.wok wr4
    obtain ⟨l1,l2⟩:=shr_len (d:=(⟨c.b,zs,F'⟩:Kid It)) hcs
    have hfp:∀ y o,(ownF E b bi oi cap y o\/kidF bc ba oa capc y o\/kinF (cs.take i++(⟨c.b,zs,F'⟩:Kid It)::cs.drop (i+1)) y o)->F y o\/w4.heap.size<=y:=fun y o g=>nn.shr_fp hcs hF' y o g
    have hfp':∀ y o,(ownF E b bi oi cap y o\/kidF bc ba oa capc y o\/kinF (cs.take i++(⟨c.b,zs,F'⟩:Kid It)::cs.drop (i+1)) y o)->F y o\/w.heap.size<=y:=fun y o g=>(hfp y o g).imp id fun g=>by omega
    have hfq:∀ (r:Nat) (o:Nat),w.heap.size<=r->r<w4.heap.size->¬ (ownF E b bi oi cap r o\/kidF bc ba oa capc r o\/kinF (cs.take i++(⟨c.b,zs,F'⟩:Kid It)::cs.drop (i+1)) r o):=fun r o h1 h2 g=>by
     rcases hfp r o g with g | g
     ·have:=hlt r o g;omega
     ·omega
    have sR:∀ a ∈ cs.take i++cs.drop (i+1),Tp E iso (d-1) (2*d-1) Q h' w6 (d-1) a.b a.xs a.F:=fun a ha=>by
     obtain ⟨h1,h2⟩:=n.others hcs a ha
     exact (nT4 a h1).ext x46 fun y o g k=>h2 y o g (hG y o (hcF a h1 y o g) k)
    have sN:NP Q ((cs.take i++(⟨c.b,zs,F'⟩:Kid It)::cs.drop (i+1)).map Kid.xs) ks:=by
     rw [shr_xs hcs]
     exact nN.set fun k h0 hk=>hVd k (nM.1 k (List.mem_of_getElem? hk)) (hj1 _ k (by omega) hk) _
    rcases hres with ⟨rfl,T5,hdel⟩ | ⟨rfl,rfl,T5,hdel⟩
    ·have sh:=nn.shr o4 (by omega) hcs x46 hG (T6 T5).tr hF'
     exact hyes e w6 y (cs.take i) (cs.drop (i+1)) ⟨c.b,zs,F'⟩ ks _ _ _ _ _ sh rfl (by rw [l1];exact n.len) (T6 T5) sR sN (hcond i ks hilb fun _ _=>rfl) rfl (by rw [shr_xs hcs];exact hdel) X6 H6 hfp' r6 wr6 (fun o g=>hfq q o (by omega) (by omega) g) (fun o g=>hfq r0 o (by omega) (by omega) g) e0 e12 e14 (by rw [l2];exact e15) e18 e19
    ·have sh:=nn.shr o4 (by omega) hcs x46 hG ((T6 T5).mono (by omega)).tr hF'
     have hset:(cs.map Kid.xs).set i c.xs=cs.map Kid.xs:=by
      obtain ⟨g1,g2⟩:=List.getElem?_eq_some_iff.1 (show (cs.map Kid.xs)[i]? = some c.xs by rw [List.getElem?_map,hcs];rfl)
      rw [<-g2];exact List.set_getElem_self g1
     have hxe:weave ((cs.take i++⟨c.b,c.xs,F'⟩::cs.drop (i+1)).map Kid.xs) ks=xs:=by rw [shr_xs hcs,hset];exact n.eq.symm
     have T:=sh.fineP (lo:=lo) (by rw [l1];exact n.len) (T6 T5) sR sN hl1 hl2 (by rw [hxe])
     rw [hxe] at T
     exact hno e w6 _ hdel T hfp' (fun o g=>hfq r0 o (by omega) (by omega) g) X6 H6 wr6 e0 e12 e19
   have hcell:∀ {i:Nat} {c:Kid It},cs[i]? = some c->rd w4 ba (oa+i)=some (ptr c.b):=fun hcs=>nn.kids.se.ptr_at (by simp [hcs])
   have hk0:=nn.kids.c0
   have hkx:=iX_at rk4
   have hlenc:∀ {i:Nat} {c:Kid It},cs[i]? = some c->c.xs.length<=xs.length:=fun hcs=>by
    rw [n.eq];exact weave_mem_length _ _ (by simpa using n.len) _ (List.mem_map_of_mem (List.mem_of_getElem? hcs))
   have hL4:Ls B m w4 ord:=hL.ext X4 (fun y o g=>by have:=(hHF y g).1;exact .inl (by omega)) (hmh 6)
   have c4:=hc.ext X4 fun o _ _=>hmh o
   have z4:=zIt_at c4
   have hcnl:=n.len
   have hll:(cs.map Kid.b).length=cs.length:=List.length_map _
   have D:=Ext.dr noF w4 (w4.drawn+1)
   refine W_sq fun K hK=>(W_text [true] (by kernel_rfl) ?_);simp only [↓zZ1,↓reduceIte,Nat.reduceEqDiff,rg,ow_126,e16]
   apply hK;clear hK K
   cases fnd with
   | false =>
    refine W_false (by simp only [zZ2,Nat.reduceEqDiff,↓reduceIte,zZ3]<;>rfl) ?_
    obtain ⟨rfl,hi,hh⟩:mx=false/\i=lb O (rkI ord) (rkI ord x) ks/\false=hit O (rkI ord) (rkI ord x) ks:=by
     rcases hfi with ⟨_,h,_⟩ | h
     ·cases h
     ·exact h
    have hik:i<=ks.length:=by rw [hi];exact lb_le O (rkI ord) _ _
    obtain ⟨c,hcs⟩:∃ c,cs[i]? = some c:=⟨_,List.getElem?_eq_getElem (by omega)⟩
    have hcm:=List.mem_of_getElem? hcs
    have hce:=hcell hcs
    have hil:i<(cs.map Kid.b).length:=by omega
    obtain ⟨A,C,hw⟩:=weave_at i (cs.map Kid.xs) ks (by simpa using n.len) hik
    have hcx:(cs.map Kid.xs)[i]? = some c.xs:=by rw [List.getElem?_map,hcs];rfl
    have hxs:xs=A++c.xs++C:=n.eq.trans (hw.eq hcx)
    have hac:Asc O (rkI ord) c.xs:=by
     rw [hxs] at ha
     exact ((Asc.append O (rkI ord)).1 ((Asc.append O (rkI ord)).1 ha).1).2.1
    obtain ⟨hA,hC⟩:=hw.mid O (rkI ord) hcx (n.eq ▸ ha) hi.symm hh.symm
    have hdm:=delR_mid (O:=O) (κ:=rkI ord) (m:=c.xs) hA hC
    rw [<-hxs] at hdm
    have q1:=wadd1 dep (by omega)
    have hle:=hlenc hcs
    refine W_rg fun K hK=>(W_semi (some none) (.take false 0 (.take false 1 (.take false 2 (.take false 3 (.take true 4 (.take false 5 (.take true 6 (.take false 7 (.take false 8 (.take false 9 (.take true 10 (.take false 11 (.take false 12 (.take false 13 (.bar 14 (.take false 15 (.take false 16 (.take false 17 (.bar 18 (.take false 19 .nil)))))))))))))))))))) mixed (by kernel_rfl) ?_);simp only [↓rgm,↓zZ1,↓reduceIte,Nat.reduceEqDiff,rg,ow_126,e0,e2,e4,e5,e9,e14,e15,ptr_eq,o4.h3,hk0,hil,hce,hkx,q1]
    refine do_call fn_126 (by simp only [zZ2,Nat.reduceEqDiff,↓reduceIte,zZ4]<;>rfl) (ihh h' (by omega) (d-1) c.b c.xs c.F _ ba (oa+i) false x hp (dep+1) (c4.ext D fun _ _ _ g=>g) (hL4.ext0 D) (fun y o g=>hBF y o (hcF c hcm y o g)) (by omega) (by omega) ((nT4 c hcm).ext D fun _ _ _ g=>g) hac (by omega) (D.rd hce fun g=>g) (H4.ext0 D) (fun hb hh=>⟨(hHF hb hh).1,fun o g=>(hHF hb hh).2 o (hcF c hcm hb o g)⟩) rfl (fun y hy=>hVd y (nM.2 c hcm y hy)) hLq) ?_
    rintro _ w5 ⟨X5,H5,F',hF',hres⟩
    have x45:=X5.od
    rcases hres with ⟨hd0,rfl,T5⟩ | ⟨y,yl,hd1,rfl,T5⟩
    ·refine ⟨trivial,?_⟩
     simp only [↓zZ1,↓reduceIte,Nat.reduceEqDiff,rg,ow_126,↓rgm]
     refine do_store (by simp only [zZ2,Nat.reduceEqDiff,↓reduceIte,zZ3]<;>rfl) (by simp only [zZ2,Nat.reduceEqDiff,↓reduceIte,zZ3]<;>rfl) sz_33 (rb_len zIt) (x45.wok wq4) (by decide) (rb_oc zIt) fun w6 x6 r6 s6=>⟨trivial,?_⟩
     simp only [↓zZ1,↓reduceIte,Nat.reduceEqDiff,rg,ow_126,↓rgm]
     apply hK;clear hK K
     exact hpost _ w5 w6 i c F' zIt c.xs false hi hcs x45 H5 hF' x6 r6 (.inr ⟨rfl,rfl,T5,by rw [hdm,hd0];rfl⟩) e0 e12 e14 e15 (by simp only [upd_eq,Nat.reduceEqDiff,↓reduceIte]<;>rfl) (by simp only [upd_eq,Nat.reduceEqDiff,↓reduceIte]<;>rfl)
    ·refine ⟨trivial,?_⟩
     simp only [↓zZ1,↓reduceIte,Nat.reduceEqDiff,rg,ow_126,↓rgm]
     refine do_store (by simp only [zZ2,Nat.reduceEqDiff,↓reduceIte,zZ3]<;>rfl) (by simp only [zZ2,Nat.reduceEqDiff,↓reduceIte,zZ3]<;>rfl) sz_33 (rb_len y) (x45.wok wq4) (by decide) (rb_oc y) fun w6 x6 r6 s6=>⟨trivial,?_⟩
     simp only [↓zZ1,↓reduceIte,Nat.reduceEqDiff,rg,ow_126,↓rgm]
     apply hK;clear hK K
     exact hpost _ w5 w6 i c F' y yl true hi hcs x45 H5 hF' x6 r6 (.inl ⟨rfl,T5,by rw [hdm,hd1,hw.set];rfl⟩) e0 e12 e14 e15 (by simp only [upd_eq,Nat.reduceEqDiff,↓reduceIte]<;>rfl) (by simp only [upd_eq,Nat.reduceEqDiff,↓reduceIte]<;>rfl)
   | true =>
    refine W_true (by simp only [zZ2,Nat.reduceEqDiff,↓reduceIte,zZ3]<;>rfl) ?_
    have hpos:∀ {i:Nat} {c:Kid It},cs[i]? = some c->c.xs ≠ []:=fun hcs hnil=>by
     obtain ⟨bi1,oi1,cap1,ks1,ch1,ho1,hl11,hl12,hoF1,hin1⟩:=(n.sub _ (List.mem_of_getElem? hcs)).open
     rcases hin1 with ⟨_,_,hx,_⟩ | ⟨_,_,_,_,_,cs1,_,_,n1⟩
     ·rw [hnil] at hx;rw [<-hx] at hl11;simp at hl11;omega
     ·have:=(weave_sub (cs1.map Kid.xs) ks1 (by rw [List.length_map];exact n1.len)).length_le
      rw [<-n1.eq,hnil] at this
      simp at this;rw [this] at hl11;simp at hl11;omega
    cases mx with
    | true=>cases hmx
    | false =>
     refine W_sq fun K hK=>(W_text [true] (by kernel_rfl) ?_);simp only [↓zZ1,↓reduceIte,Nat.reduceEqDiff,rg,ow_126,e2]
     apply hK;clear hK K
     refine W_false (by simp only [zZ2,Nat.reduceEqDiff,↓reduceIte,zZ3]<;>rfl) ?_
     obtain ⟨hi,hh⟩:i=lb O (rkI ord) (rkI ord x) ks/\true=hit O (rkI ord) (rkI ord x) ks:=by
      rcases hfi with ⟨h,_⟩ | ⟨_,h⟩
      ·cases h
      ·exact h
     obtain ⟨kk,hk1,hk2⟩:=hit_at O (rkI ord) hh.symm
     rw [<-hi] at hk1
     have hik:=(List.getElem?_eq_some_iff.1 hk1).1
     obtain ⟨c,hcs⟩:∃ c,cs[i]? = some c:=⟨_,List.getElem?_eq_getElem (by omega)⟩
     have hcm:=List.mem_of_getElem? hcs
     have hil:i<(cs.map Kid.b).length:=by omega
     have hle:=hlenc hcs
     have hne:=hpos hcs
     have hkv:=it_at o4.row hk1
     have hsp:cs.map Kid.xs=(cs.take i).map Kid.xs++c.xs::(cs.drop (i+1)).map Kid.xs:=by
      have h3:=List.getElem?_eq_some_iff.1 hcs
      have:=List.take_append_drop i cs
      rw [List.drop_eq_getElem_cons h3.1,h3.2] at this
      conv=>lhs;rw [<-this]
      simp
     have hLl:((cs.take i).map Kid.xs).length=i:=by rw [List.length_map,List.length_take];omega
     obtain ⟨A,C,hA⟩:=weave_ahead (L:=(cs.take i).map Kid.xs) (B:=(cs.drop (i+1)).map Kid.xs) (ks:=ks) (k:=kk) (by rw [hLl];exact hk1)
     rw [hLl] at hA
     have hxs:xs=A++c.xs++kk::C:=by
      rw [n.eq,hsp,<-hA c.xs kk]
      obtain ⟨g1,g2⟩:=List.getElem?_eq_some_iff.1 hk1
      rw [<-g2,List.set_getElem_self g1]
     have hac:Asc O (rkI ord) c.xs:=by
      rw [hxs] at ha
      exact ((Asc.append O (rkI ord)).1 ((Asc.append O (rkI ord)).1 ha).1).2.1
     have hdk:delR O (rkI ord) false (rkI ord x) xs=some (kk,A++c.xs++C):=by
      rw [hk2,hxs]
      exact delR_key (by rw [<-hxs];exact ha)
     refine W_sq fun K hK=>(W_text [true,true,true,true,true,true,true,false] (by kernel_rfl) ?_);simp only [↓zZ1,↓reduceIte,Nat.reduceEqDiff,rg,ow_126,e14,e15,ptr_eq,o4.h2,hik,hkv]
     refine do_store (by simp only [zZ2,Nat.reduceEqDiff,↓reduceIte,zZ3]<;>rfl) (by simp only [zZ2,Nat.reduceEqDiff,↓reduceIte,zZ3]<;>rfl) sz_33 (rb_len kk) wq4 (by decide) (rb_oc kk) fun w5 x5 r5 s5=>⟨trivial,?_⟩
     simp only [↓zZ1,↓reduceIte,Nat.reduceEqDiff,rg,ow_126]
     apply hK;clear hK K
     have hqn:∀ y o,F y o->¬ rng q 0 2 y o:=fun y o g k=>by have:=hlt y o g;have:=k.1;omega
     have o5:=o4.ext x5 fun y o g=>hqn y o (hoF y o g)
     have n5:=nn.ext x5 (fun y o g=>hqn y o (hkF y o g)) fun a ha y o g=>hqn y o (hcF a ha y o g)
     have nT5:∀ a ∈ cs,Tp E iso (d-1) (2*d-1) Q h' w5 (d-1) a.b a.xs a.F:=fun a ha=>(nT4 a ha).ext x5 fun y o g=>hqn y o (hcF a ha y o g)
     have hmq:∀ o,¬ rng q 0 2 m o:=fun o k=>by have:=k.1;omega
     have c5:=c4.ext x5 fun o _ _=>hmq o
     have hL5:Ls B m w5 ord:=hL4.ext x5 (fun y o g=>.inl (by have:=g.1;omega)) (hmq 6)
     have z5:=zIt_at c5
     have hce5:=n5.kids.se.ptr_at (j:=i) (p:=c.b) (by simp [hcs])
     have hk5:=n5.kids.c0
     have X5:Ext (fun y o=>F y o\/hF hp y o) w w5:=(X4.mono fun _ _ _ g=>.inr g).trans x5 (fun _ _ g=>g) fun y o hy g=>by have:=g.1;omega
     have H5:HOk hp w5:=H4.ext x5 fun hb hh o g=>by
      have:=hHl hb 0 hh
      have:=g.1;omega
     have wr5:=x5.wok wr4
     have rq5:Row w5 q 0 (E.cel kk):=r5
     have hq5:q<w5.heap.size:=by have:=x5.size;omega
     have L0:=on3_0 b bc m
     have L1:=on3_1 b bc m
     have L2:=on3_2 b bc m
     have hbcl:=wok_lt n5.kids.wc
     have hb5:b<w5.heap.size/\m<w5.heap.size:=⟨by omega,by omega⟩
     have hcb:∀ o,¬ c.F b o:=fun o g=>n.ap.own c hcm b o g (.inl rfl)
     have hcbc:∀ o,¬ c.F bc o:=fun o g=>n.ap.kid c hcm bc o g (.inl rfl)
     have hcmF:∀ o,¬ c.F m o:=fun o g=>hm o (hcF c hcm m o g)
     have D5:=Ext.dr noF w5 (w5.drawn+1)
     have kin3:∀ {G:Nat->Nat->Prop} {u v:World},Ext G u v->(∀ x ∈ [b,bc,m],x<u.heap.size/\∀ o,¬ G x o)->keeps (some (some [b,bc,m])) u v:=fun x h=>keeps_on x h
     clear D hk0 hkx c4 z4 hL4 X4 H4 rk4 wr4 o4 x5 r5 hpost hno
     refine W_sq fun K hK=>(W_free (some (some [b,bc,m])) (.take 0 (.take 1 (.take 2 (.take 3 (.take 4 (.take 5 (.take 6 (.take 7 (.take 8 (.take 9 (.take 10 (.take 11 (.take 12 (.split 13 (.take 14 (.take 15 (.take 16 (.act 17 (.act 18 (.take 19 .nil)))))) 17 (.act 13 (.take 14 (.take 15 (.take 16 (.act 18 (.take 19 .nil)))))))))))))))))))) mixed (by kernel_rfl) ?_);simp only [↓zZ1,↓reduceIte,Nat.reduceEqDiff,rg,ow_126,e0,e14,e15,ptr_eq,o5.h3,hk5,hil,hce5,z5,L0,L1,L2,rB_on]
     have hjoin:∀ (e:Env) (w8:World) (t:Nat) (y:It) (yl:List It) (F':Nat->Nat->Prop),delR O (rkI ord) true (rkI ord zIt) c.xs=some (y,yl)->Tr E iso (d-1) (2*d-1) h' w8 (d-1-1) c.b yl F'->(∀ y o,F' y o->c.F y o\/w5.heap.size<=y)->Ext c.F w5 w8->Row w8 t 0 (E.cel y) →
       e 0=ptr m->e 12=ptr r0->e 14=ptr b->e 15 = .int .i64 (i:Nat)->e 18=ptr q->e 20=ptr t->K e w8:=by
      clear e0 e2 e4 e5 e9 e12 e14 e15 e16
      clear e
      intro e w8 t y yl F' hdl T8 hF' x58 rt8 e0 e12 e14 e15 e18 e20
      apply hK;clear hK K
      refine W_sq fun K hK=>(W_text [true] (by kernel_rfl) ?_);simp only [↓zZ1,↓reduceIte,Nat.reduceEqDiff,rg,ow_126]
      apply hK;clear hK K
      have hown:∀ y o,ownF E b bi oi cap y o->¬ c.F y o:=fun y o g k=>n.ap.own c hcm y o k g
      have o8:=o5.ext x58 hown
      have ky:=iX_at rt8
      refine W_rg fun K hK=>(W_draw (some none) (some 7) [(0,0,0),(0,1,0),(0,2,0),(0,3,0),(0,4,0),(0,5,0),(0,6,0),(1,7,0)] mixed (by kernel_rfl) ?_);simp only [↓zZ1,↓reduceIte,Nat.reduceEqDiff,rg,ow_126,e14,e15,e20,ptr_eq,o8.h2,hik,ky]
      refine do_store (by simp only [zZ2,Nat.reduceEqDiff,↓reduceIte,zZ3]<;>rfl) (by simp only [zZ2,Nat.reduceEqDiff,↓reduceIte,zZ3]<;>rfl) sz_33 (rb_len y) o8.wi (by rw [E_sz];omega) (rb_oc y) fun w9 x9 r9 s9=>⟨(by first | exact trivial | exact .inl trivial),?_⟩
      simp only [↓zZ1,↓reduceIte,Nat.reduceEqDiff,rg,ow_126]
      apply hK;clear hK K
      have o9:=o8.set hik x9.od r9
      have x9':Ext (ownF E b bi oi cap) w8 w9:=x9.od.mono fun y o _ g=>.inr (by simp only [rng] at g ⊢;rw [E_sz];omega)
      obtain ⟨l1,l2⟩:=shr_len (d:=(⟨c.b,yl,F'⟩:Kid It)) hcs
      have sh:=n5.shr o5 (by omega) hcs x58 (fun _ _ _ g=>g) T8 hF'
      have hfp:∀ y o,(ownF E b bi oi cap y o\/kidF bc ba oa capc y o\/kinF (cs.take i++(⟨c.b,yl,F'⟩:Kid It)::cs.drop (i+1)) y o)->F y o\/w5.heap.size<=y:=fun y o g=>n5.shr_fp hcs hF' y o g
      have s5':=X5.size
      have sh9:Shr E iso (d-1) (2*d-1) h' w9 b bc (xs.length:Nat) (ks.set i y) (cs.take i) ⟨c.b,yl,F'⟩ (cs.drop (i+1)) (ownF E b bi oi cap) (kidF bc ba oa capc) bi ba :=
       ⟨⟨bi,oi,cap,o9,by omega,rfl,fun _ _=>Iff.rfl⟩,(kdO _ _).loc sh.n3 x9' sh.l0.d.symm,sh.l0,sh.t.ext x9' (sh.l0.g1 _ (by simp)),fun a ha=>(sh.rest a ha).ext x9' (sh.l0.g1 a (by
        rcases List.mem_append.1 ha with ha | ha
        ·simp [ha]
        ·simp [ha]))⟩
      have X9:Ext (fun y o=>F y o\/hF hp y o) w w9:=(X5.trans x58 (fun _ _ g=>g) fun y o _ g=>.inl (hcF c hcm y o g)).trans x9' (fun _ _ g=>g) fun y o _ g=>.inl (hoF y o g)
      have H9:HOk hp w9:=(H5.ext x58 fun hb hh o g=>(hHF hb hh).2 o (hcF c hcm hb o g)).ext x9' fun hb hh o g=>(hHF hb hh).2 o (hoF hb o g)
      have hcq:∀ o,¬ c.F q o:=fun o g=>by have:=hlt q o (hcF c hcm q o g);omega
      have hoq:∀ o,¬ ownF E b bi oi cap q o:=fun o g=>by have:=hlt q o (hoF q o g);omega
      have rq9:=x9'.row (x58.row rq5 fun j _=>hcq _) fun j _=>hoq _
      have wr9:=x9'.wok (x58.wok wr5)
      have hcxs:c.xs=yl++[y]:=by
       have:=delR_last (O:=O) (κ:=rkI ord) (q:=rkI ord zIt) (l:=c.xs.dropLast) (x:=c.xs.getLast hne)
       rw [List.dropLast_concat_getLast,hdl] at this
       simp only [Option.some.injEq,Prod.mk.injEq] at this
       rw [this.1,this.2,List.dropLast_concat_getLast]
      have hcv:∀ z ∈ c.xs,O.lt (rkI ord z) (rkI ord x)=true:=fun z hz=>by rw [hk2];exact hprev i kk c hk1 hcs z hz
      have hym:y ∈ c.xs:=by rw [hcxs];simp
      have sT9:Tp E iso (d-1) (2*d-1) Q h' w9 (d-1-1) c.b yl F':=Tp.of sh9.t fun z hz S _=>hVd z (nM.2 c hcm z (by rw [hcxs];simp [hz])) (hcv z (by rw [hcxs];simp [hz])) S
      have sR9:∀ a ∈ cs.take i++cs.drop (i+1),Tp E iso (d-1) (2*d-1) Q h' w9 (d-1) a.b a.xs a.F:=fun a ha=>by
       obtain ⟨h1,h2⟩:=n.others hcs a ha
       exact ((nT5 a h1).ext x58 h2).ext x9' (sh.l0.g1 a (by
        rcases List.mem_append.1 ha with ha | ha
        ·simp [ha]
        ·simp [ha]))
      have sN9:NP Q ((cs.take i++(⟨c.b,yl,F'⟩:Kid It)::cs.drop (i+1)).map Kid.xs) (ks.set i y):=by
       rw [shr_xs hcs]
       refine NP.setk (nN.set fun k h0 hk=>hVd k (nM.1 k (List.mem_of_getElem? hk)) (hj1 _ k (by omega) hk) _) fun dd _=>hVd y (nM.2 c hcm y hym) (hcv y hym) _
      refine hyes _ w9 kk (cs.take i) (cs.drop (i+1)) ⟨c.b,yl,F'⟩ (ks.set i y) (A++c.xs++C) _ _ _ _ sh9 List.length_set (by rw [l1,List.length_set];exact n.len) sT9 sR9 sN9 (hcond i _ hi fun j hj=>by rw [List.getElem?_set,if_neg (by omega)]) ?_ hdk X9 H9 (fun y o g=>(hfp y o g).imp id fun g=>by omega) rq9 wr9 (fun o g=>?_) (fun o g=>?_)
       e0 e12 e14 (by simp only [upd_eq,Nat.reduceEqDiff,↓reduceIte];rw [l2];exact e15) e18 (by simp only [upd_eq,Nat.reduceEqDiff,↓reduceIte]<;>rfl)
      ·rw [List.map_append,List.map_cons,hA,hcxs];simp
      ·rcases hfp q o g with g | g
       ·have:=hlt q o g;omega
       ·omega
      ·rcases hfp r0 o g with g | g
       ·have:=hlt r0 o g;omega
       ·omega
     have hx3:∀ x ∈ [b,bc,m],x<w5.heap.size/\∀ o,¬ (c.F x o\/hF none x o):=fun x hx=>by
      simp only [List.mem_cons,List.not_mem_nil,or_false] at hx
      rcases hx with rfl | rfl | rfl
      ·exact ⟨hb5.1,fun o g=>g.elim (hcb o) fun g=>by cases g⟩
      ·exact ⟨hbcl,fun o g=>g.elim (hcbc o) fun g=>by cases g⟩
      ·exact ⟨hb5.2,fun o g=>g.elim (hcmF o) fun g=>by cases g⟩
     have hx3l:∀ x ∈ [b,bc,m],x<w5.heap.size:=fun x hx=>(hx3 x hx).1
     have hcl:∀ y o,c.F y o->y<w5.heap.size:=fun y o g=>by have:=hlt y o (hcF c hcm y o g);omega
     have nohit:∀ {P:Prop},delR O (rkI ord) true (rkI ord zIt) c.xs=none->P:=fun hd0=>by
      have:=delR_last (O:=O) (κ:=rkI ord) (q:=rkI ord zIt) (l:=c.xs.dropLast) (x:=c.xs.getLast hne)
      rw [List.dropLast_concat_getLast,hd0] at this
      cases this
     refine ⟨?_,?_⟩
     ·refine do_call fn_126 (by simp only [zZ2,Nat.reduceEqDiff,↓reduceIte,zZ4]<;>rfl) (del_any B m d iso ord hd hd' h' (d-1) c.b c.xs c.F _ ba (oa+i) true zIt none 0 (c5.ext D5 fun _ _ _ g=>g) (hL5.ext0 D5) (fun y o g=>hBF y o (hcF c hcm y o g)) (by omega) (by omega) ((n5.sub c hcm).ext D5 fun _ _ _ g=>g) hac (by omega) (D5.rd hce5 fun g=>g) (HOk.none _) fun hb hh=>by cases hh) ?_
      rintro _ w6 ⟨X6,_,F',hF',hres⟩
      rcases hres with ⟨hd0,_⟩ | ⟨y,yl,hd1,rfl,T6⟩
      ·exact nohit hd0
      ·have x56:Ext c.F w5 w6:=X6.od.mono fun y o _ g=>g.elim id fun g=>by cases g
       have s56:=x56.size
       refine ⟨.inr (kin3 X6 hx3),?_⟩
       simp only [↓zZ1,↓reduceIte,Nat.reduceEqDiff,rg,ow_126]
       refine do_alloc dz_it fun w7 n7=>⟨.inr (n7.keep _ fun x hx=>by have:=hx3l x hx;omega),?_⟩
       simp only [↓zZ1,↓reduceIte,Nat.reduceEqDiff,rg,ow_126]
       have s7:=n7.size
       refine do_store (by simp only [zZ2,Nat.reduceEqDiff,↓reduceIte,zZ3]<;>rfl) (by simp only [zZ2,Nat.reduceEqDiff,↓reduceIte,zZ3]<;>rfl) sz_33 (rb_len y) n7.wok (by decide) (rb_oc y) fun w8 x8 r8 s8=>⟨.inr (kin3 x8 fun x hx=>⟨by have:=hx3l x hx;omega,fun o g=>by have:=hx3l x hx;have:=g.1;omega⟩),?_⟩
       simp only [↓zZ1,↓reduceIte,Nat.reduceEqDiff,rg,ow_126]
       refine hjoin _ w8 w6.heap.size y yl F' hd1 ((T6.ext n7.ext fun _ _ _ g=>g).ext x8 fun y o g k=>?_) hF' ((x56.trans n7.ext (fun _ _ g=>g) fun _ _ _ g=>g.elim).trans x8 (fun _ _ g=>g) fun y o hy g=>?_) r8
        e0 e12 e14 e15 (by simp only [upd_eq,Nat.reduceEqDiff,↓reduceIte]<;>rfl) (by simp only [upd_eq,Nat.reduceEqDiff,↓reduceIte]<;>rfl)
       ·have:=T6.lt y o g;have:=k.1;omega
       ·have:=g.1;omega
     ·refine do_alloc dz_it fun w6 n6=>⟨.inr (n6.keep _ hx3l),?_⟩
      simp only [↓zZ1,↓reduceIte,Nat.reduceEqDiff,rg,ow_126]
      have n6':=n6.od
      have s6:=n6'.size
      refine do_call fn_126 (by simp only [zZ2,Nat.reduceEqDiff,↓reduceIte,zZ4]<;>rfl) (del_any B m d iso ord hd hd' h' (d-1) c.b c.xs c.F w6 ba (oa+i) true zIt none 0 (c5.ext n6'.ext fun _ _ _ g=>g) (hL5.ext0 n6'.ext) (fun y o g=>hBF y o (hcF c hcm y o g)) (by omega) (by omega) ((n5.sub c hcm).ext n6'.ext fun _ _ _ g=>g) hac (by omega) (n6'.ext.rd hce5 fun g=>g) (HOk.none _) fun hb hh=>by cases hh) ?_
      rintro _ w7 ⟨X7,_,F',hF',hres⟩
      rcases hres with ⟨hd0,_⟩ | ⟨y,yl,hd1,rfl,T7⟩
      ·exact nohit hd0
      ·have x67:Ext c.F w6 w7:=X7.mono fun y o _ g=>g.elim id fun g=>by cases g
       have x57:Ext c.F w5 w7:=n6'.ext.trans x67 (fun _ _ g=>g.elim) fun _ _ _ g=>g
       refine ⟨.inr (kin3 X7 fun x hx=>⟨by have:=hx3l x hx;omega,(hx3 x hx).2⟩),?_⟩
       simp only [↓zZ1,↓reduceIte,Nat.reduceEqDiff,rg,ow_126]
       have s67:=x67.size
       refine do_store (by simp only [zZ2,Nat.reduceEqDiff,↓reduceIte,zZ3]<;>rfl) (by simp only [zZ2,Nat.reduceEqDiff,↓reduceIte,zZ3]<;>rfl) sz_33 (rb_len y) (x67.wok n6.wok) (by decide) (rb_oc y) fun w8 x8 r8 s8=>⟨.inr (kin3 x8 fun x hx=>⟨by have:=hx3l x hx;omega,fun o g=>by have:=hx3l x hx;have:=g.1;rw [sz_dr] at this;omega⟩),?_⟩
       simp only [↓zZ1,↓reduceIte,Nat.reduceEqDiff,rg,ow_126]
       refine hjoin _ w8 w5.heap.size y yl F' hd1 (T7.ext x8 fun y o g k=>?_) (fun y o g=>(hF' y o g).imp id fun g=>by omega) (x57.trans x8 (fun _ _ g=>g) fun y o hy g=>?_) r8
        e0 e12 e14 e15 (by simp only [upd_eq,Nat.reduceEqDiff,↓reduceIte]<;>rfl) (by simp only [upd_eq,Nat.reduceEqDiff,↓reduceIte]<;>rfl)
       ·have h1:y=w5.heap.size:=k.1
        rcases hF' y o g with g | g
        ·have:=hcl y o g;omega
        ·omega
       ·have h1:y=w5.heap.size:=g.1
        omega
 have o3:=ho.ext X3 fun _ _ _ g=>g
 refine W_sq fun K hK=>(W_text [true] (by kernel_rfl) ?_);simp only [↓zZ1,↓reduceIte,Nat.reduceEqDiff,rg,ow_126,e2]
 apply hK;clear hK K
 cases mx with
 | true =>
  refine W_true (by simp only [zZ2,Nat.reduceEqDiff,↓reduceIte,zZ3]<;>rfl) ?_
  have q1:=wsub1 ks.length (by omega) (by omega)
  refine W_rg fun K hK=>(W_text [true,true,true,true,true,true,true,true] (by kernel_rfl) ?_);simp only [↓zZ1,↓reduceIte,Nat.reduceEqDiff,rg,ow_126,ptr_eq,o3.h2,q1]
  apply hK;clear hK K
  exact hend _ _ true (ks.length-1) (.inl ⟨rfl,rfl,rfl⟩) (X3.mono fun _ _ _ g=>g.elim) (hH.ext0 X3) rk3 wr3 (by omega) e0 e2 e4 e5 (by simp only [upd_eq,Nat.reduceEqDiff,↓reduceIte]<;>rfl) (by simp only [upd_eq,Nat.reduceEqDiff,↓reduceIte]<;>rfl) (by simp only [upd_eq,Nat.reduceEqDiff,↓reduceIte]<;>rfl) (by simp only [upd_eq,Nat.reduceEqDiff,↓reduceIte]<;>rfl) (by simp only [upd_eq,Nat.reduceEqDiff,↓reduceIte]<;>rfl)
 | false =>
  refine W_false (by simp only [zZ2,Nat.reduceEqDiff,↓reduceIte,zZ3]<;>rfl) ?_
  have hkx:=iX_at rk3
  have h33:=o3.h3
  rw [hcc] at h33
  refine W_rg fun K hK=>(W_text [true,true,true,true,true,false,true,true,true,true,true] (by kernel_rfl) ?_);simp only [↓zZ1,↓reduceIte,Nat.reduceEqDiff,rg,ow_126,e0,e4,e5,hkx]
  refine do_call fn_97 (by simp only [zZ2,Nat.reduceEqDiff,↓reduceIte,zZ4]<;>rfl) (find_any B m b bi oi cap ord ks x cc hp dep w3 (hL.ext0 X3) o3.h2 h33 o3.row (by omega) hkb (by omega) hak (hH.ext0 X3) fun hb hh hbb=>(hHF hb hh).2 0 (hbb ▸ ht.self 0)) ?_
  rintro _ w4 ⟨rfl,X4,H4⟩
  refine ⟨trivial,?_⟩
  simp only [↓zZ1,↓reduceIte,Nat.reduceEqDiff,rg,ow_126,dsrch]
  apply hK;clear hK K
  have s4:=X4.size
  refine hend _ _ _ _ (.inr ⟨rfl,rfl,rfl⟩) (X3.trans X4 (fun _ _ g=>g.elim) fun _ _ _ g=>g) H4 (X4.row rk3 fun j _ g=>?_) (X4.wok wr3) (by omega) e0 e2 e4 e5 (by simp only [upd_eq,Nat.reduceEqDiff,↓reduceIte]<;>rfl) (by simp only [upd_eq,Nat.reduceEqDiff,↓reduceIte]<;>rfl) (by simp only [upd_eq,Nat.reduceEqDiff,↓reduceIte]<;>rfl) (by simp only [upd_eq,Nat.reduceEqDiff,↓reduceIte]<;>rfl) (by simp only [upd_eq,Nat.reduceEqDiff,↓reduceIte]<;>rfl)
  have:=hHl _ _ g
  omega
theorem delR_out {ord:List Int} {x:It} {xs:List It}:(delR O (rkI ord) false (rkI ord x) xs=none->at? O (rkI ord) (rkI ord x) xs=none/\hit O (rkI ord) (rkI ord x) xs=false/\del O (rkI ord) (rkI ord x) xs=xs) ∧
  (∀ {y ys},delR O (rkI ord) false (rkI ord x) xs=some (y,ys)->at? O (rkI ord) (rkI ord x) xs=some y/\hit O (rkI ord) (rkI ord x) xs=true/\del O (rkI ord) (rkI ord x) xs=ys):=by
 cases hh:hit O (rkI ord) (rkI ord x) xs with
 | false =>
  refine ⟨fun _=>⟨by simp [at?,hh],rfl,by simp [del,hh]⟩,fun {y ys} h=>?_⟩
  rw [delR_miss hh] at h;cases h
 | true =>
  obtain ⟨k,hk,_⟩:=hit_at O (rkI ord) hh
  refine ⟨fun h=>?_,fun {y ys} h=>?_⟩
  ·rw [delR_leaf hh hk] at h;cases h
  ·rw [delR_leaf hh hk] at h
   cases h
   exact ⟨by simp [at?,hh,hk],rfl,by simp [del,hh]⟩
structure TreeAtP (Q:It->List It->Prop) (B:Nat) (ord:List Int) (w:World) (m d:Nat) (iso:Int) (xs:List It) (F:Nat->Nat->Prop):Prop where
 cfg:Cfg w m iso d
 less:Ls B m w ord
 cnt:rd w m 3=some (.int .i64 xs.length)
 asc:Asc O (rkI ord) xs
 root:(xs=[]/\rd w m 2=some (.pointer none))\/∃ h b,rd w m 2=some (ptr b)/\Tp E iso (d-1) (2*d-1) Q h w 1 b xs F
 off:∀ o,¬ F m o
 lt:∀ y o,F y o->y<w.heap.size
 above:∀ y o,F y o->m<y
theorem TreeAtP.t {Q:It->List It->Prop} {B:Nat} {ord:List Int} {w:World} {m d:Nat} {iso:Int} {xs:List It} {F:Nat->Nat->Prop} (h:TreeAtP Q B ord w m d iso xs F):TreeAt B ord w m d iso xs F :=
 ⟨h.cfg,h.less,h.cnt,h.asc,h.root.imp id fun ⟨h',b,h1,h2⟩=>⟨h',b,h1,h2.tr⟩,h.off,h.lt,h.above⟩
theorem TreeAtP.extG {Q:It->List It->Prop} {B:Nat} {ord:List Int} {w w':World} {G:Nat->Nat->Prop} {m d:Nat} {iso:Int} {xs:List It} {F:Nat->Nat->Prop} (h:TreeAtP Q B ord w m d iso xs F) (x:Ext G w w') (hF:∀ y o,F y o->¬ G y o) (hm:∀ y o,G y o->m<y):TreeAtP Q B ord w' m d iso xs F:=by
 have t:=h.t.extG x hF hm
 exact ⟨t.cfg,t.less,t.cnt,t.asc,h.root.imp (fun ⟨h1,h2⟩=>⟨h1,x.rd h2 fun g=>Nat.lt_irrefl _ (hm _ _ g)⟩) fun ⟨h',b,h1,h2⟩=>⟨h',b,x.rd h1 fun g=>Nat.lt_irrefl _ (hm _ _ g),h2.ext x hF⟩,t.off,t.lt,t.above⟩
theorem TreeAtP.ext {Q:It->List It->Prop} {B:Nat} {ord:List Int} {w w':World} {m d:Nat} {iso:Int} {xs:List It} {F:Nat->Nat->Prop} (h:TreeAtP Q B ord w m d iso xs F) (x:Ext noF w w'):TreeAtP Q B ord w' m d iso xs F :=
 h.extG x (fun _ _ _ g=>g) fun _ _ g=>g.elim
theorem TreeAt.p {Q:It->List It->Prop} {B:Nat} {ord:List Int} {w:World} {m d:Nat} {iso:Int} {xs:List It} {F:Nat->Nat->Prop} (h:TreeAt B ord w m d iso xs F) (hx:∀ x ∈ xs,∀ S,(∀ s ∈ S,s ∈ xs)->Q x S):TreeAtP Q B ord w m d iso xs F :=
 ⟨h.cfg,h.less,h.cnt,h.asc,h.root.imp id fun ⟨h',b,h1,h2⟩=>⟨h',b,h1,Tp.of h2 hx⟩,h.off,h.lt,h.above⟩
theorem TreeAtP.imp {P Q:It->List It->Prop} {B:Nat} {ord:List Int} {w:World} {m d:Nat} {iso:Int} {xs:List It} {F:Nat->Nat->Prop} (h:TreeAtP P B ord w m d iso xs F) (hx:∀ x ∈ xs,∀ S,(∀ s ∈ S,s ∈ xs)->P x S->Q x S):TreeAtP Q B ord w m d iso xs F :=
 ⟨h.cfg,h.less,h.cnt,h.asc,h.root.imp id fun ⟨h',b,h1,h2⟩=>⟨h',b,h1,Tp.imp h2 hx⟩,h.off,h.lt,h.above⟩
set_option maxHeartbeats 4000000 in
set_option maxRecDepth 8000 in
theorem delHP_any (Q:It->List It->Prop) (hQ:Anti Q) (B m d:Nat) (iso:Int) (ord:List Int) (x:It) (hp:Option Nat) (hd:2<=d) (hd':d<=128) (xs:List It) (F:Nat->Nat->Prop) (w:World) (hM:TreeAtP Q B ord w m d iso xs F) (hbig:xs.length<1152921504606846976) (hH:HOk hp w) (hHF:∀ hb,hp=some hb->m<hb/\∀ o,¬ F hb o)
  (hVd:∀ y ∈ xs,O.lt (rkI ord y) (rkI ord x)=true->∀ S,Q y S) (hLq:∀ k S l y r,O.lt (rkI ord k) (rkI ord x)=false->O.lt (rkI ord k) (rkI ord y)=true->S=l++y::r->Q k S->Q y r) :
  CallK Try.prog 92 #[ptr m,itV x,hV hp] w fun v w'=>v = .tuple #[itV ((at? O (rkI ord) (rkI ord x) xs).getD zIt),.bool (hit O (rkI ord) (rkI ord x) xs)]/\Ext (fun y o=>mapF m F y o\/hF hp y o) w w'/\HOk hp w' ∧
   ∃ F',TreeAtP Q B ord w' m d iso (del O (rkI ord) (rkI ord x) xs) F'/\∀ y o,F' y o->F y o\/w.heap.size<=y:=by
 have hml:=hM.t.mlt
 have hHl:∀ y o,hF hp y o->y<w.heap.size:=fun y o g=>wok_lt (hH y g).wok
 have hmh:∀ o,¬ hF hp m o:=fun o g=>by have:=(hHF m g).1;omega
 refine calls_of_W [.cell 6 33,.tmp 7] Try.func92 rfl Try.ntmps92 Try.results92 (by simp) fun e he=>?_
 have e0:e 0=ptr m:=he 0 _ rfl
 have e1:e 1=itV x:=he 1 _ rfl
 have e2:e 2=hV hp:=he 2 _ rfl
 clear he
 refine W_sq fun K hK=>(W_text [false,false,true] (by kernel_rfl) ?_);simp only [↓zZ1,↓reduceIte,Nat.reduceEqDiff,rg,ow_92]
 refine do_box (by simp only [evt];exact e1) fun w1 n1=>⟨trivial,?_⟩
 simp only [↓zZ1,↓reduceIte,Nat.reduceEqDiff,rg,ow_92]
 refine do_alloc dz_it fun w2 n2=>⟨trivial,?_⟩
 simp only [↓zZ1,↓reduceIte,Nat.reduceEqDiff,rg,ow_92]
 apply hK;clear hK K
 have s1:=n1.size
 have s2:=n2.size
 have X2:Ext noF w w2:=n1.ext.tr n2.ext
 have rk2:Row w2 w.heap.size 0 (E.cel x):=n2.ext.row n1.row fun _ _ h=>h
 obtain ⟨r0,hr0⟩:∃ r0,r0=w1.heap.size:=⟨_,rfl⟩
 have wr2:wok w2 r0 2:=by rw [hr0];exact n2.wok
 have hr0':r0=w.heap.size+1:=by omega
 have hs2:w2.heap.size=w.heap.size+2:=by omega
 rw [<-hr0]
 clear hr0 n1 n2 s1 s2
 have hM2:=hM.ext X2
 refine W_seq ?_
 rcases hM2.root with ⟨hxs,hr2⟩ | ⟨h,b,hr2,ht⟩
 ·refine W_sq fun K hK=>(W_text [true,true,true,true,true] (by kernel_rfl) ?_);simp only [↓zZ1,↓reduceIte,Nat.reduceEqDiff,rg,ow_92,e0,ptr_eq,hr2]
  apply hK;clear hK K
  refine W_true (by simp only [zZ2,Nat.reduceEqDiff,↓reduceIte,zZ3]<;>rfl) ?_
  have z2:=zIt_at hM2.cfg
  refine W_sq fun K hK=>(W_text [true,true,true,true,false,true] (by kernel_rfl) ?_);simp only [↓zZ1,↓reduceIte,Nat.reduceEqDiff,rg,ow_92,e0,ptr_eq,z2]
  refine do_store (by simp only [zZ2,Nat.reduceEqDiff,↓reduceIte,zZ3]<;>rfl) (by simp only [zZ2,Nat.reduceEqDiff,↓reduceIte,zZ3]<;>rfl) sz_33 (rb_len zIt) wr2 (by decide) (rb_oc zIt) fun w3 x3 r3 s3=>⟨trivial,?_⟩
  simp only [↓zZ1,↓reduceIte,Nat.reduceEqDiff,rg,ow_92]
  apply hK;clear hK K
  subst hxs
  have X3:Ext noF w w3:=noF_of X2 x3 fun y o hy g=>by have:=g.1;omega
  refine W_ret ?_
  simp only [andThen_ret]
  exact endQ_ct (by simp only [upd_eq,Nat.reduceEqDiff,↓reduceIte]<;>rfl) (by simp only [upd_eq,Nat.reduceEqDiff,↓reduceIte]<;>rfl) ld_33 (iX_at (show Row w3 r0 0 (E.cel zIt) from r3)) ⟨rfl,X3.mono fun _ _ _ g=>g.elim,hH.ext0 X3,F,hM.ext X3,fun _ _ g=>.inl g⟩
 ·refine W_sq fun K hK=>(W_text [true,true,true,true,true] (by kernel_rfl) ?_);simp only [↓zZ1,↓reduceIte,Nat.reduceEqDiff,rg,ow_92,e0,ptr_eq,hr2]
  apply hK;clear hK K
  refine W_false (by simp only [zZ2,Nat.reduceEqDiff,↓reduceIte,zZ3]<;>rfl) (W_skip ?_)
  show W _ _ _ _ _ _
  have hm:∀ o,¬ F m o:=hM.off
  have hh:=ht.tr.height (by omega) (by omega)
  have H2:=hH.ext0 X2
  have kx:=iX_at rk2
  have L0:=on1_0 w.heap.size
  have hkF:∀ o,¬ (F w.heap.size o\/hF hp w.heap.size o):=fun o g=>by
   rcases g with g | g
   ·have:=hM.lt _ _ g;omega
   ·have:=hHl _ _ g;omega
  have D:=Ext.dr noF w2 (w2.drawn+1)
  refine W_sq fun K hK=>(W_free (some (some [w.heap.size])) (.take 0 (.take 1 (.take 2 (.take 3 (.take 4 (.take 5 (.split 6 (.take 7 (.take 8 (.take 9 (.act 10 (.act 11 (.take 12 .nil)))))) 10 (.act 6 (.take 7 (.take 8 (.take 9 (.act 11 (.take 12 .nil))))))))))))) mixed (by kernel_rfl) ?_);simp only [↓zZ1,↓reduceIte,Nat.reduceEqDiff,rg,ow_92,e0,e2,ptr_eq,kx,L0,rB_on]
  have hjoin:∀ (e:Env) (w4:World) (t:Nat) (y:It) (dl:Bool) (F':Nat->Nat->Prop),((dl=false/\delR O (rkI ord) false (rkI ord x) xs=none/\Tp E iso (d-1) (2*d-1) Q h w4 1 b xs F')\/(dl=true/\∃ ys,delR O (rkI ord) false (rkI ord x) xs=some (y,ys)/\Tp E iso (d-1) (2*d-1) Q h w4 0 b ys F')) →
    Ext (fun y o=>F y o\/hF hp y o) w2 w4->HOk hp w4->(∀ y o,F' y o->F y o\/w2.heap.size<=y)->Row w4 t 0 (E.cel y)->w2.heap.size<=t->t<w4.heap.size->e 0=ptr m->e 6=ptr r0->e 8=ptr t->e 9 = .bool dl->K e w4:=by
   clear e0 e1 e2
   clear e
   intro e w4 t y dl F' hres X4 H4 hF' rt4 ht1 ht2 e0 e6 e8 e9
   apply hK;clear hK K
   have XX4:Ext (fun y o=>F y o\/hF hp y o) w w4:=X2.trans X4 (fun _ _ g=>g.elim) fun _ _ _ g=>g
   have hmo:∀ o,¬ (F m o\/hF hp m o):=fun o g=>g.elim (hm o) (hmh o)
   have c4:=hM2.cfg.ext X4 fun o _ _=>hmo o
   have wr4:=X4.wok wr2
   have hFm:∀ y o,F' y o->m<y:=fun y o g=>by
    rcases hF' y o g with g | g
    ·exact hM.above y o g
    ·omega
   have hFr:∀ o,¬ F' r0 o:=fun o g=>by
    rcases hF' r0 o g with g | g
    ·have:=hM.lt _ _ g;omega
    ·omega
   refine W_seq ?_
   rcases hres with ⟨rfl,hdl,T4⟩ | ⟨rfl,ys,hdl,T4⟩
   ·refine W_sq fun K hK=>(W_text [true,true] (by kernel_rfl) ?_);simp only [↓zZ1,↓reduceIte,Nat.reduceEqDiff,rg,ow_92,e9]
    apply hK;clear hK K
    refine W_true (by simp only [zZ2,Nat.reduceEqDiff,↓reduceIte,zZ3]<;>rfl) ?_
    have z4:=zIt_at c4
    refine W_sq fun K hK=>(W_text [true,true,true,true,false,true] (by kernel_rfl) ?_);simp only [↓zZ1,↓reduceIte,Nat.reduceEqDiff,rg,ow_92,e0,ptr_eq,z4]
    refine do_store (by simp only [zZ2,Nat.reduceEqDiff,↓reduceIte];exact e6) (by simp only [zZ2,Nat.reduceEqDiff,↓reduceIte,zZ3]<;>rfl) sz_33 (rb_len zIt) wr4 (by decide) (rb_oc zIt) fun w5 x5 r5 s5=>⟨trivial,?_⟩
    simp only [↓zZ1,↓reduceIte,Nat.reduceEqDiff,rg,ow_92]
    apply hK;clear hK K
    obtain ⟨h1,h2,h3⟩:=delR_out.1 hdl
    have XX5:Ext (fun y o=>F y o\/hF hp y o) w w5:=XX4.trans x5 (fun _ _ g=>g) fun y o hy g=>by have:=g.1;omega
    refine W_ret ?_
    simp only [andThen_ret]
    refine endQ_ct e6 (by simp only [upd_eq,Nat.reduceEqDiff,↓reduceIte]<;>rfl) ld_33 (iX_at (show Row w5 r0 0 (E.cel zIt) from r5)) ⟨by rw [h1,h2];rfl,XX5.mono fun y o _ g=>g.imp .inl id,H4.ext x5 fun hb hh o g=>by have:=hHl hb 0 hh;have:=g.1;omega,F',?_,fun y o g=>(hF' y o g).imp id fun g=>by omega⟩
    rw [h3]
    have T5:=T4.ext x5 fun y o g k=>hFr o (by rw [<-k.1];exact g)
    exact ⟨hM.cfg.ext XX5 fun o _ _=>hmo o,hM.less.ext XX5 (fun y o g=>.inl (by rcases g with g | g;have:=hM.above y o g;omega;have:=(hHF y g).1;omega)) (hmo 6),XX5.rd hM.cnt (hmo 3),hM.asc,.inr ⟨h,b,x5.rd (X4.rd hr2 (hmo 2)) (fun g=>by have:=g.1;omega),T5⟩,fun o g=>by have:=hFm m o g;omega,T5.lt,hFm⟩
   ·refine W_sq fun K hK=>(W_text [true,true] (by kernel_rfl) ?_);simp only [↓zZ1,↓reduceIte,Nat.reduceEqDiff,rg,ow_92,e9]
    apply hK;clear hK K
    refine W_false (by simp only [zZ2,Nat.reduceEqDiff,↓reduceIte,zZ3]<;>rfl) (W_skip ?_)
    show W _ _ _ _ _ _
    obtain ⟨h1,h2,h3⟩:=delR_out.2 hdl
    have hyl:=delR_len hdl
    have hya:=delR_asc hM.asc hdl
    have hml4:m<w4.heap.size:=by have:=X4.size;omega
    have rm4:rd w4 m 2=some (ptr b):=X4.rd hr2 (hmo 2)
    have rc4:rd w4 m 3=some (.int .i64 (xs.length:Nat)):=X4.rd hM2.cnt (hmo 3)
    obtain ⟨a,nk,capn,hkn,-,-,hraise⟩:=T4.keys
    have hbF:=T4.tr.self
    have htF:∀ o,¬ rng m 2 1 t o:=fun o g=>by have:=g.1;omega
    refine W_sqx fun J hJ=>?_
    have hfin:∀ (e:Env) (w5:World) (F5:Nat->Nat->Prop),(ys=[]\/∃ h5 b5,rd w5 m 2=some (ptr b5)/\Tp E iso (d-1) (2*d-1) Q h5 w5 1 b5 ys F5)->(∀ y o,F5 y o->F' y o)->Ext (rng m 2 1) w4 w5->e 0=ptr m->e 6=ptr r0->e 8=ptr t->J e w5:=by
     clear e0 e6 e8 e9
     clear e
     intro e w5 F5 hroot hF5 x5 e0 e6 e8
     refine hJ _ _ ?_;clear hJ J
     have rc5:=x5.rd rc4 fun g=>by have:=g.2;omega
     have wm5:=x5.wok c4.wok
     have q1:=wsub1 xs.length (by omega) (by omega)
     refine W_sq fun K hK=>(W_text [true,true,true,true,true,true,true,false] (by kernel_rfl) ?_);simp only [↓zZ1,↓reduceIte,Nat.reduceEqDiff,rg,ow_92,e0,ptr_eq,rc5,q1]
     refine do_store (by simp only [zZ2,Nat.reduceEqDiff,↓reduceIte,zZ3]<;>rfl) (by simp only [zZ2,Nat.reduceEqDiff,↓reduceIte,zZ3]<;>rfl) sz_3 rfl wm5 (by decide) (oc_one rfl rfl) fun w6 x6 r6 s6=>⟨trivial,?_⟩
     simp only [↓zZ1,↓reduceIte,Nat.reduceEqDiff,rg,ow_92]
     apply hK;clear hK K
     have rc6:rd w6 m 3=some (.int .i64 (xs.length-1:Nat)):=(Row.cons.1 r6).1
     have G46:Ext (fun y o=>y=m/\(o=2\/o=3)) w4 w6:=x5.trans x6 (fun y o g=>⟨g.1,by have:=g.2;omega⟩) fun y o _ g=>⟨g.1,by have:=g.2;omega⟩
     refine W_sqx fun J hJ=>?_
     have hret:∀ (e:Env) (w7:World) (F7:Nat->Nat->Prop),((ys=[]/\rd w7 m 2=some (.pointer none))\/∃ h5 b5,rd w7 m 2=some (ptr b5)/\Tp E iso (d-1) (2*d-1) Q h5 w7 1 b5 ys F7)->(∀ y o,F7 y o->F' y o)->rd w7 m 3=some (.int .i64 (ys.length:Nat))->Ext (fun y o=>y=m/\(o=2\/o=3)) w4 w7->(∀ y o,F7 y o->y<w7.heap.size)->e 6=ptr r0->e 8=ptr t->J e w7:=by
      clear e0 e6 e8
      clear e
      intro e w7 F7 hroot hF7 rc7 x7 hlt7 e6 e8
      refine hJ _ _ ?_;clear hJ J
      have ky:=iX_at (x7.row rt4 fun j _ g=>by have:=g.1;omega)
      refine W_sq fun K hK=>(W_text [true,false,true] (by kernel_rfl) ?_);simp only [↓zZ1,↓reduceIte,Nat.reduceEqDiff,rg,ow_92,e8,ptr_eq,ky]
      refine do_store (by simp only [zZ2,Nat.reduceEqDiff,↓reduceIte];exact e6) (by simp only [zZ2,Nat.reduceEqDiff,↓reduceIte,zZ3]<;>rfl) sz_33 (rb_len y) (x7.wok wr4) (by decide) (rb_oc y) fun w8 x8 r8 s8=>⟨trivial,?_⟩
      simp only [↓zZ1,↓reduceIte,Nat.reduceEqDiff,rg,ow_92]
      apply hK;clear hK K
      have XX7:Ext (fun y o=>mapF m F y o\/hF hp y o) w w7:=(XX4.mono fun y o _ g=>g.imp .inl id).trans x7 (fun _ _ g=>g) fun y o _ g=>.inl (.inr g)
      have hne:∀ o,o ≠ 2->o ≠ 3->¬ (mapF m F m o\/hF hp m o):=fun o h2 h3 g=>by
       rcases g with (g | g) | g
       ·exact hm o g
       ·have:=g.2;omega
       ·exact hmh o g
      have hM7:TreeAtP Q B ord w7 m d iso ys F7:=⟨hM.cfg.ext XX7 hne,hM.less.ext XX7 (fun y o g=>.inl (by
       rcases g with (g | g) | g
       ·have:=hM.above y o g;omega
       ·have:=g.1;omega
       ·have:=(hHF y g).1;omega)) (hne 6 (by decide) (by decide)),rc7,hya,hroot,fun o g=>by have:=hFm m o (hF7 _ _ g);omega,hlt7,fun y o g=>hFm y o (hF7 y o g)⟩
      refine W_ret ?_
      refine endQ_ct e6 (by simp only [upd_eq,Nat.reduceEqDiff,↓reduceIte]<;>rfl) ld_33 (iX_at (show Row w8 r0 0 (E.cel y) from r8)) ⟨by rw [h1,h2];rfl,XX7.trans x8 (fun _ _ g=>g) fun y o hy g=>by have:=g.1;omega,?_,F7,?_,fun y o g=>(hF' y o (hF7 y o g)).imp id fun g=>by omega⟩
      ·refine (H4.ext x7 fun hb hh o g=>?_).ext x8 fun hb hh o g=>?_
       ·have:=(hHF hb hh).1
        have:=g.1;omega
       ·have:=hHl hb 0 hh
        have:=g.1;omega
      ·rw [h3]
       exact hM7.extG x8 (fun y o g k=>hFr o (by rw [<-k.1];exact hF7 y o g)) fun y o g=>by have:=g.1;omega
     by_cases hy0:ys=[]
     ·have hb:(((xs.length-1:Nat):Int) == 0)=true:=by rw [hy0] at hyl;simp at hyl ⊢;omega
      refine W_sq fun K hK=>(W_text [true,true,true,true,true] (by kernel_rfl) ?_);simp only [↓zZ1,↓reduceIte,Nat.reduceEqDiff,rg,ow_92,e0,ptr_eq,rc6,hb]
      apply hK;clear hK K
      refine W_true (by simp only [zZ2,Nat.reduceEqDiff,↓reduceIte,zZ3]<;>rfl) ?_
      refine W_rg fun K hK=>(W_text [true,true,true,false] (by kernel_rfl) ?_);simp only [↓zZ1,↓reduceIte,Nat.reduceEqDiff,rg,ow_92,e0,ptr_eq]
      refine do_store (v:=.pointer none) (by simp only [zZ2,Nat.reduceEqDiff,↓reduceIte,zZ3]<;>rfl) (by simp only [zZ2,Nat.reduceEqDiff,↓reduceIte,zZ3]<;>rfl) sz_96 rfl (x6.wok wm5) (by decide) (oc_one rfl rfl) fun w7 x7 r7 s7=>⟨trivial,?_⟩
      simp only [↓zZ1,↓reduceIte,Nat.reduceEqDiff,rg,ow_92]
      apply hK;clear hK K
      exact hret _ w7 noF (.inl ⟨hy0,(Row.cons.1 r7).1⟩) (fun _ _ g=>g.elim) (by rw [show ys.length=xs.length-1 by omega];exact x7.rd rc6 fun g=>by have:=g.2;omega) (G46.trans x7 (fun _ _ g=>g) fun y o _ g=>⟨g.1,by have:=g.2;omega⟩) (fun _ _ g=>g.elim) e6 e8
     ·have hb:(((xs.length-1:Nat):Int) == 0)=false:=by
       have:ys.length ≠ 0:=fun h=>hy0 (List.eq_nil_of_length_eq_zero h)
       simp;omega
      refine W_sq fun K hK=>(W_text [true,true,true,true,true] (by kernel_rfl) ?_);simp only [↓zZ1,↓reduceIte,Nat.reduceEqDiff,rg,ow_92,e0,ptr_eq,rc6,hb]
      apply hK;clear hK K
      refine W_false (by simp only [zZ2,Nat.reduceEqDiff,↓reduceIte,zZ3]<;>rfl) (W_skip ?_)
      obtain ⟨h5,b5,hr5,T5⟩:=hroot.resolve_left hy0
      have T6:=T5.ext x6 fun y o g k=>by have:=hFm y o (hF5 y o g);have:=k.1;omega
      exact hret _ w6 F5 (.inr ⟨h5,b5,x6.rd hr5 fun g=>by have:=g.2;omega,T6⟩) hF5 (by rw [show ys.length=xs.length-1 by omega];exact rc6) G46 T6.lt e6 e8
    by_cases hn0:nk=0
    ·subst hn0
     have hb:(((0:Nat):Int) == 0)=true:=rfl
     rcases T4.open with ⟨bi,oi,cap,ks,ch,ho,-,-,hoF,hin⟩
     have hks:ks=[]:=by
      have:=ho.h2.symm.trans hkn
      simp only [Option.some.injEq,Value.slice.injEq] at this
      exact List.eq_nil_of_length_eq_zero this.2.1
     rcases hin with ⟨_,hcn,hx,_⟩ | ⟨h',bc,ba,oa,capc,cs,rfl,hcn,n,nT,nN⟩
     ·rw [hcn] at ho
      refine W_sq fun K hK=>(W_text [true,true,true,true,true,true,true,true,true,true,true,true,true,true,false,true,true] (by kernel_rfl) ?_);simp only [↓zZ1,↓reduceIte,Nat.reduceEqDiff,rg,ow_92,e0,ptr_eq,rm4,hkn,hb]
      refine do_call fn_108 (by simp only [zZ2,Nat.reduceEqDiff,↓reduceIte,zZ4]<;>rfl) (leaf_any b none w4 ho.h3) ?_
      rintro _ w5 ⟨rfl,hw5⟩
      obtain rfl:w4=w5:=hw5.symm
      refine ⟨trivial,?_⟩
      simp only [↓zZ1,↓reduceIte,Nat.reduceEqDiff,rg,ow_92]
      apply hK;clear hK K
      refine W_false (by simp only [zZ2,Nat.reduceEqDiff,↓reduceIte,zZ3]<;>rfl) (W_skip ?_)
      exact hfin _ w4 F' (.inl (hx.trans hks)) (fun _ _ g=>g) (Ext.refl _ _) e0 e6 e8
     ·rw [hcn] at ho
      refine W_sq fun K hK=>(W_text [true,true,true,true,true,true,true,true,true,true,true,true,true,true,false,true,true] (by kernel_rfl) ?_);simp only [↓zZ1,↓reduceIte,Nat.reduceEqDiff,rg,ow_92,e0,ptr_eq,rm4,hkn,hb]
      refine do_call fn_108 (by simp only [zZ2,Nat.reduceEqDiff,↓reduceIte,zZ4]<;>rfl) (leaf_any b (some ⟨bc,0,none⟩) w4 ho.h3) ?_
      rintro _ w5 ⟨rfl,hw5⟩
      obtain rfl:w4=w5:=hw5.symm
      refine ⟨trivial,?_⟩
      simp only [↓zZ1,↓reduceIte,Nat.reduceEqDiff,rg,ow_92]
      apply hK;clear hK K
      refine W_true (by simp only [zZ2,Nat.reduceEqDiff,↓reduceIte,zZ3]<;>rfl) ?_
      have hl1:cs.length=1:=by rw [n.len,hks];rfl
      obtain ⟨c,rfl⟩:=List.length_eq_one_iff.1 hl1
      have hk0:rd w4 bc 0=some (.slice (some ⟨ba,oa,none⟩) 1 capc):=n.kids.c0
      have i0:=ix0 1 ba oa 1 (by decide)
      have hce:=n.kids.se.ptr_at (j:=0) (p:=c.b) rfl
      rw [Nat.add_zero] at hce
      have hyc:ys=c.xs:=by rw [n.eq,hks];rfl
      have hcF:∀ y o,c.F y o->F' y o:=fun y o g=>(n.fp y o).2 (.inr (.inr ⟨c,by simp,g⟩))
      refine W_rg fun K hK=>(W_text [true,true,true,true,true,true,true,true,true,true,true,true,true,true,false] (by kernel_rfl) ?_);simp only [↓zZ1,↓reduceIte,Nat.reduceEqDiff,rg,ow_92,e0,ptr_eq,rm4,ho.h3,hk0,i0,hce]
      refine do_store (v:=ptr c.b) (by simp only [zZ2,Nat.reduceEqDiff,↓reduceIte,zZ3]<;>rfl) (by simp only [zZ2,Nat.reduceEqDiff,↓reduceIte,zZ3]<;>rfl) sz_96 rfl c4.wok (by decide) (oc_one rfl rfl) fun w5 x5 r5 s5=>⟨trivial,?_⟩
      simp only [↓zZ1,↓reduceIte,Nat.reduceEqDiff,rg,ow_92]
      apply hK;clear hK K
      refine hfin _ w5 c.F (.inr ⟨h',c.b,(Row.cons.1 r5).1,?_⟩) hcF x5 e0 e6 e8
      rw [hyc]
      exact ((nT c (by simp)).mono (by omega)).ext x5 fun y o g k=>by have:=hFm y o (hcF y o g);have:=k.1;omega
    ·have hb:((nk:Int) == 0)=false:=by simp;omega
     refine W_sq fun K hK=>(W_text [true,true,true,true,true,true,true,true,true,true,true,true,true,true,false,true,true] (by kernel_rfl) ?_);simp only [↓zZ1,↓reduceIte,Nat.reduceEqDiff,rg,ow_92,e0,ptr_eq,rm4,hkn,hb]
     apply hK;clear hK K
     refine W_false (by simp only [zZ2,Nat.reduceEqDiff,↓reduceIte,zZ3]<;>rfl) (W_skip ?_)
     exact hfin _ w4 F' (.inr ⟨h,b,rm4,hraise 1 (by omega)⟩) (fun _ _ g=>g) (Ext.refl _ _) e0 e6 e8
  refine ⟨?_,?_⟩
  ·refine do_call fn_126 (by simp only [zZ2,Nat.reduceEqDiff,↓reduceIte,zZ4]<;>rfl) (delP_any Q hQ B m d iso ord hd hd' h 1 b xs F _ m 2 false x hp 0 (hM2.cfg.ext D fun _ _ _ g=>g) (hM2.less.ext0 D) hM2.above (by omega) (by omega) (ht.ext D fun _ _ _ g=>g) hM2.asc hbig (D.rd hr2 fun g=>g) (H2.ext0 D) hHF rfl hVd hLq) ?_
   rintro _ w3 ⟨X3,H3,F',hF',hres⟩
   have s3:=X3.size
   have s3':w2.heap.size<=w3.heap.size:=s3
   rcases hres with ⟨hd0,rfl,T3⟩ | ⟨y,ys,hd1,rfl,T3⟩
   ·refine ⟨.inr (keeps_on X3 fun a ha=>by obtain rfl:=List.mem_singleton.1 ha;exact ⟨by rw [sz_dr];omega,hkF⟩),?_⟩
    simp only [↓zZ1,↓reduceIte,Nat.reduceEqDiff,rg,ow_92]
    refine do_alloc dz_it fun w4 n4=>⟨.inr (n4.keep _ (lt1 (by omega))),?_⟩
    simp only [↓zZ1,↓reduceIte,Nat.reduceEqDiff,rg,ow_92]
    have s4:=n4.size
    refine do_store (by simp only [zZ2,Nat.reduceEqDiff,↓reduceIte,zZ3]<;>rfl) (by simp only [zZ2,Nat.reduceEqDiff,↓reduceIte,zZ3]<;>rfl) sz_33 (rb_len zIt) n4.wok (by decide) (rb_oc zIt) fun w5 x5 r5 s5=>⟨.inr (keeps_on x5 fun a ha=>by obtain rfl:=List.mem_singleton.1 ha;exact ⟨by omega,fun o g=>by have:=g.1;omega⟩),?_⟩
    simp only [↓zZ1,↓reduceIte,Nat.reduceEqDiff,rg,ow_92]
    have X35:Ext noF w3 w5:=noF_of n4.ext x5 fun y o hy g=>by have:=g.1;omega
    exact hjoin _ w5 w3.heap.size zIt false F' (.inl ⟨rfl,hd0,T3.ext X35 fun _ _ _ g=>g⟩) (X3.od.trans X35 (fun _ _ g=>g) fun _ _ _ g=>g.elim) (H3.ext0 X35) hF' r5 s3' (by omega) e0 (by simp only [upd_eq,Nat.reduceEqDiff,↓reduceIte]<;>rfl) (by simp only [upd_eq,Nat.reduceEqDiff,↓reduceIte]<;>rfl) (by simp only [upd_eq,Nat.reduceEqDiff,↓reduceIte]<;>rfl)
   ·refine ⟨.inr (keeps_on X3 fun a ha=>by obtain rfl:=List.mem_singleton.1 ha;exact ⟨by rw [sz_dr];omega,hkF⟩),?_⟩
    simp only [↓zZ1,↓reduceIte,Nat.reduceEqDiff,rg,ow_92]
    refine do_alloc dz_it fun w4 n4=>⟨.inr (n4.keep _ (lt1 (by omega))),?_⟩
    simp only [↓zZ1,↓reduceIte,Nat.reduceEqDiff,rg,ow_92]
    have s4:=n4.size
    refine do_store (by simp only [zZ2,Nat.reduceEqDiff,↓reduceIte,zZ3]<;>rfl) (by simp only [zZ2,Nat.reduceEqDiff,↓reduceIte,zZ3]<;>rfl) sz_33 (rb_len y) n4.wok (by decide) (rb_oc y) fun w5 x5 r5 s5=>⟨.inr (keeps_on x5 fun a ha=>by obtain rfl:=List.mem_singleton.1 ha;exact ⟨by omega,fun o g=>by have:=g.1;omega⟩),?_⟩
    simp only [↓zZ1,↓reduceIte,Nat.reduceEqDiff,rg,ow_92]
    have X35:Ext noF w3 w5:=noF_of n4.ext x5 fun y o hy g=>by have:=g.1;omega
    exact hjoin _ w5 w3.heap.size y true F' (.inr ⟨rfl,ys,hd1,T3.ext X35 fun _ _ _ g=>g⟩) (X3.od.trans X35 (fun _ _ g=>g) fun _ _ _ g=>g.elim) (H3.ext0 X35) hF' r5 s3' (by omega) e0 (by simp only [upd_eq,Nat.reduceEqDiff,↓reduceIte]<;>rfl) (by simp only [upd_eq,Nat.reduceEqDiff,↓reduceIte]<;>rfl) (by simp only [upd_eq,Nat.reduceEqDiff,↓reduceIte]<;>rfl)
  ·refine do_alloc dz_it fun w3 n3=>⟨.inr (n3.keep _ (lt1 (by rw [sz_dr];omega))),?_⟩
   simp only [↓zZ1,↓reduceIte,Nat.reduceEqDiff,rg,ow_92]
   have n3':=n3.od
   have x3:=n3'.ext
   have s3:=n3'.size
   refine do_call fn_126 (by simp only [zZ2,Nat.reduceEqDiff,↓reduceIte,zZ4]<;>rfl) (delP_any Q hQ B m d iso ord hd hd' h 1 b xs F w3 m 2 false x hp 0 (hM2.cfg.ext x3 fun _ _ _ g=>g) (hM2.less.ext0 x3) hM2.above (by omega) (by omega) (ht.ext x3 fun _ _ _ g=>g) hM2.asc hbig (x3.rd hr2 fun g=>g) (H2.ext0 x3) hHF rfl hVd hLq) ?_
   rintro _ w4 ⟨X4,H4,F',hF',hres⟩
   have s4:=X4.size
   have X24:Ext (fun y o=>F y o\/hF hp y o) w2 w4:=x3.trans X4 (fun _ _ g=>g.elim) fun _ _ _ g=>g
   have hF'':∀ y o,F' y o->F y o\/w2.heap.size<=y:=fun y o g=>(hF' y o g).imp id fun g=>by omega
   have hF't:∀ o,¬ F' w2.heap.size o:=fun o g=>by
    rcases hF' _ o g with g | g
    ·have:=hM2.lt _ _ g;omega
    ·omega
   have hHt:∀ hb,hp=some hb->hb<w2.heap.size:=fun hb hh=>by have:=hHl hb 0 hh;omega
   rcases hres with ⟨hd0,rfl,T4⟩ | ⟨y,ys,hd1,rfl,T4⟩
   ·refine ⟨.inr (keeps_on X4 fun a ha=>by obtain rfl:=List.mem_singleton.1 ha;exact ⟨by omega,hkF⟩),?_⟩
    simp only [↓zZ1,↓reduceIte,Nat.reduceEqDiff,rg,ow_92]
    refine do_store (by simp only [zZ2,Nat.reduceEqDiff,↓reduceIte,zZ3]<;>rfl) (by simp only [zZ2,Nat.reduceEqDiff,↓reduceIte,zZ3]<;>rfl) sz_33 (rb_len zIt) (X4.wok n3.wok) (by decide) (rb_oc zIt) fun w5 x5 r5 s5=>⟨.inr (keeps_on x5 fun a ha=>by obtain rfl:=List.mem_singleton.1 ha;exact ⟨by omega,fun o g=>by have:=g.1;rw [sz_dr] at this;omega⟩),?_⟩
    simp only [↓zZ1,↓reduceIte,Nat.reduceEqDiff,rg,ow_92]
    exact hjoin _ w5 w2.heap.size zIt false F' (.inl ⟨rfl,hd0,T4.ext x5 fun y o g k=>hF't o (by rw [<-show y=w2.heap.size from k.1];exact g)⟩) (X24.trans x5 (fun _ _ g=>g) fun y o hy g=>by have:y=w2.heap.size:=g.1;omega) (H4.ext x5 fun hb hh o g=>by have:=hHt hb hh;have:hb=w2.heap.size:=g.1;omega) hF'' r5 (Nat.le_refl _) (by omega) e0 (by simp only [upd_eq,Nat.reduceEqDiff,↓reduceIte]<;>rfl) (by simp only [upd_eq,Nat.reduceEqDiff,↓reduceIte]<;>rfl) (by simp only [upd_eq,Nat.reduceEqDiff,↓reduceIte]<;>rfl)
   ·refine ⟨.inr (keeps_on X4 fun a ha=>by obtain rfl:=List.mem_singleton.1 ha;exact ⟨by omega,hkF⟩),?_⟩
    simp only [↓zZ1,↓reduceIte,Nat.reduceEqDiff,rg,ow_92]
    refine do_store (by simp only [zZ2,Nat.reduceEqDiff,↓reduceIte,zZ3]<;>rfl) (by simp only [zZ2,Nat.reduceEqDiff,↓reduceIte,zZ3]<;>rfl) sz_33 (rb_len y) (X4.wok n3.wok) (by decide) (rb_oc y) fun w5 x5 r5 s5=>⟨.inr (keeps_on x5 fun a ha=>by obtain rfl:=List.mem_singleton.1 ha;exact ⟨by omega,fun o g=>by have:=g.1;rw [sz_dr] at this;omega⟩),?_⟩
    simp only [↓zZ1,↓reduceIte,Nat.reduceEqDiff,rg,ow_92]
    exact hjoin _ w5 w2.heap.size y true F' (.inr ⟨rfl,ys,hd1,T4.ext x5 fun y o g k=>hF't o (by rw [<-show y=w2.heap.size from k.1];exact g)⟩) (X24.trans x5 (fun _ _ g=>g) fun y o hy g=>by have:y=w2.heap.size:=g.1;omega) (H4.ext x5 fun hb hh o g=>by have:=hHt hb hh;have:hb=w2.heap.size:=g.1;omega) hF'' r5 (Nat.le_refl _) (by omega) e0 (by simp only [upd_eq,Nat.reduceEqDiff,↓reduceIte]<;>rfl) (by simp only [upd_eq,Nat.reduceEqDiff,↓reduceIte]<;>rfl) (by simp only [upd_eq,Nat.reduceEqDiff,↓reduceIte]<;>rfl)
def okA (a:Option Addr) (n c:Nat):Prop:=(a=none/\n=0/\c=0)\/∃ bi oi,a=some ⟨bi,oi,none⟩
def nilF:Value:=.nilFunc
set_option maxHeartbeats 1600000 in
set_option maxRecDepth 8000 in
theorem lclear_any (lb n c:Nat) (a:Option Addr) (w:World) (hw:wok w lb 4) (hq:rd w lb 3=some (.slice a n c)) (ha:okA a n c) (hn:n<=c) :
  CallK Try.prog 94 #[ptr lb] w fun _ w'=>Ext (fun y _=>y=lb) w w'/\rd w' lb 0=some nilF/\rd w' lb 1=some (.int .i64 0)/\rd w' lb 2=some (.int .i64 0)/\rd w' lb 3=some (.slice a (0:Nat) c)/\w'.heap.size=w.heap.size:=by
 refine calls_of_W [] Try.func94 rfl Try.ntmps94 Try.results94 (by simp) fun e he=>?_
 have h0:e 0=ptr lb:=he 0 _ rfl
 clear he
 refine W_sq fun K hK=>(W_text [true,true,true,false] (by kernel_rfl) ?_);simp only [↓zZ1,↓reduceIte,Nat.reduceEqDiff,rg,ow_94,h0,ptr_eq]
 refine do_store (by simp only [zZ2,Nat.reduceEqDiff,↓reduceIte,zZ3]<;>rfl) (by simp only [zZ2,Nat.reduceEqDiff,↓reduceIte,zZ3]<;>rfl) sz_112 rfl hw (by decide) (oc_one rfl rfl) fun w1 x1 r1 s1=>⟨trivial,?_⟩
 simp only [↓zZ1,↓reduceIte,Nat.reduceEqDiff,rg,ow_94]
 apply hK;clear hK K
 have hq1:=x1.rd hq fun g=>absurd g.2.2 (by decide)
 have hsl:slcX (some 3) (.slice a n c) none (some (.int .i64 0)) none=some (.slice a (0:Nat) c):=by
  rcases ha with ⟨rfl,rfl,rfl⟩ | ⟨bi,oi,rfl⟩
  ·exact slcX_nil 3 0 .i64 rfl
  ·exact slcX_hi 3 bi oi n c 0 .i64 (Nat.zero_le _)
 refine W_sq fun K hK=>(W_text [true,true,true,true,true,true,true,true,false] (by kernel_rfl) ?_);simp only [↓zZ1,↓reduceIte,Nat.reduceEqDiff,rg,ow_94,h0,ptr_eq,hq1,hsl]
 refine do_store (by simp only [zZ2,Nat.reduceEqDiff,↓reduceIte,zZ3]<;>rfl) (by simp only [zZ2,Nat.reduceEqDiff,↓reduceIte,zZ3]<;>rfl) sz_113 rfl (x1.wok hw) (by decide) (oc_one rfl rfl) fun w2 x2 r2 s2=>⟨trivial,?_⟩
 simp only [↓zZ1,↓reduceIte,Nat.reduceEqDiff,rg,ow_94]
 apply hK;clear hK K
 refine W_sq fun K hK=>(W_text [true,true,true,false] (by kernel_rfl) ?_);simp only [↓zZ1,↓reduceIte,Nat.reduceEqDiff,rg,ow_94,h0,ptr_eq]
 refine do_store (by simp only [zZ2,Nat.reduceEqDiff,↓reduceIte,zZ3]<;>rfl) (by simp only [zZ2,Nat.reduceEqDiff,↓reduceIte,zZ3]<;>rfl) sz_3 rfl (x2.wok (x1.wok hw)) (by decide) (oc_one rfl rfl) fun w3 x3 r3 s3=>⟨trivial,?_⟩
 simp only [↓zZ1,↓reduceIte,Nat.reduceEqDiff,rg,ow_94]
 apply hK;clear hK K
 refine W_rg fun K hK=>(W_text [true,true,true,false] (by kernel_rfl) ?_);simp only [↓zZ1,↓reduceIte,Nat.reduceEqDiff,rg,ow_94,h0,ptr_eq]
 refine do_store (by simp only [zZ2,Nat.reduceEqDiff,↓reduceIte,zZ3]<;>rfl) (by simp only [zZ2,Nat.reduceEqDiff,↓reduceIte,zZ3]<;>rfl) sz_3 rfl (x3.wok (x2.wok (x1.wok hw))) (by decide) (oc_one rfl rfl) fun w4 x4 r4 s4=>⟨trivial,?_⟩
 simp only [↓zZ1,↓reduceIte,Nat.reduceEqDiff,rg,ow_94]
 apply hK;clear hK K
 have g1:rd w1 lb 0=some nilF:=(Row.cons.1 r1).1
 have g2:rd w2 lb 3=some (.slice a (0:Nat) c):=(Row.cons.1 r2).1
 have g3:rd w3 lb 1=some (.int .i64 0):=(Row.cons.1 r3).1
 have g4:rd w4 lb 2=some (.int .i64 0):=(Row.cons.1 r4).1
 refine endQ_0n ⟨(((x1.mono fun y o _ g=>g.1).tr (x2.mono fun y o _ g=>g.1)).tr (x3.mono fun y o _ g=>g.1)).tr (x4.mono fun y o _ g=>g.1),?_,?_,g4,?_,by omega⟩
 ·exact x4.rd (x3.rd (x2.rd g1 fun g=>absurd g.2.1 (by decide)) fun g=>absurd g.2.1 (by decide)) fun g=>absurd g.2.1 (by decide)
 ·exact x4.rd g3 fun g=>absurd g.2.1 (by decide)
 ·exact x4.rd (x3.rd g2 fun g=>absurd g.2.2 (by decide)) fun g=>absurd g.2.2 (by decide)
def stopV (b12 b5 b7:Nat):Value:=.func (.func 95) #[] #[ptr b12,ptr b5,ptr b7]
theorem fn_stop:isFn Try.prog 95=true:=by kernel_rfl
def stopI (ord:List Int) (mi:Bool) (mxi x:It):Bool:=if mi then O.lt (rkI ord mxi) (rkI ord x) else !O.lt (rkI ord x) (rkI ord mxi)
set_option maxHeartbeats 1600000 in
set_option maxRecDepth 8000 in
theorem stop_any (B m b12 b5 b7:Nat) (ord:List Int) (mi:Bool) (mxi x:It) (w:World) (hL:Ls B m w ord) (h12:rd w b12 0=some (.bool mi)) (h5:rd w b5 0=some (ptr m)) (h7:Row w b7 0 (E.cel mxi)) :
  CallK Try.prog 95 #[itV x,ptr b12,ptr b5,ptr b7] w fun v w'=>v = .bool (stopI ord mi mxi x)/\Ext noF w w':=by
 obtain ⟨lv,hlv,hls,hB⟩:=hL
 refine calls_of_W [.tmp 5] Try.func95 rfl Try.ntmps95 Try.results95 (by simp) fun e he=>?_
 have e0:e 0=itV x:=he 0 _ rfl
 have e1:e 1=ptr b12:=he 1 _ rfl
 have e2:e 2=ptr b5:=he 2 _ rfl
 have e3:e 3=ptr b7:=he 3 _ rfl
 clear he
 refine W_sq fun K hK=>(W_text [false,true] (by kernel_rfl) ?_);simp only [↓zZ1,↓reduceIte,Nat.reduceEqDiff,rg,ow_95]
 refine do_box (by simp only [evt];exact e0) fun w1 n1=>⟨trivial,?_⟩
 simp only [↓zZ1,↓reduceIte,Nat.reduceEqDiff,rg,ow_95]
 apply hK;clear hK K
 have bx:rdA w1 w.heap.size 0 2=some (itV x):=n1.row.rdA 2 (by show 2<=2;omega)
 have k12:=n1.ext.rd h12 fun g=>g
 have k5:=n1.ext.rd h5 fun g=>g
 have k7:rdA w1 b7 0 2=some (itV mxi):=(n1.ext.row h7 fun _ _ g=>g).rdA 2 (by show 2<=2;omega)
 have klv:=n1.ext.rd hlv fun g=>g
 have kls:=hls.ext n1.ext fun _ _ g=>g.elim
 refine W_seq ?_
 refine W_sq fun K hK=>(W_text [true] (by kernel_rfl) ?_);simp only [↓zZ1,↓reduceIte,Nat.reduceEqDiff,rg,ow_95,e1,ptr_eq,k12]
 apply hK;clear hK K
 cases mi with
 | true =>
  refine W_true (by simp only [zZ2,Nat.reduceEqDiff,↓reduceIte,zZ3]<;>rfl) ?_
  refine W_sq fun K hK=>(W_semi (some none) (.take true 0 (.take false 1 (.take false 2 (.take true 3 (.take true 4 (.take true 5 (.bar 6 (.take false 7 .nil)))))))) mixed (by kernel_rfl) ?_);simp only [↓rgm,↓zZ1,↓reduceIte,Nat.reduceEqDiff,rg,ow_95,e2,e3,ptr_eq,k5,klv,bx,k7]
  refine do_callW (by simp only [zZ2,Nat.reduceEqDiff,↓reduceIte,zZ3]<;>rfl) (by simp only [zZ2,Nat.reduceEqDiff,↓reduceIte,zZ4]<;>rfl) (before_any B lv ord mxi x _ (kls.ext (Ext.dr noF _ _) fun _ _ g=>g.elim)) ?_
  rintro _ w2 ⟨rfl,x2⟩
  refine ⟨by first | exact trivial | exact .inr trivial,?_⟩
  simp only [↓zZ1,↓reduceIte,Nat.reduceEqDiff,rg,ow_95,↓rgm]
  apply hK;clear hK K
  refine W_ret ?_
  simp only [andThen_ret]
  exact endQ_1 (by simp only [upd_eq,Nat.reduceEqDiff,↓reduceIte]<;>rfl) ⟨rfl,n1.ext.tr x2.od⟩
 | false =>
  refine W_false (by simp only [zZ2,Nat.reduceEqDiff,↓reduceIte,zZ3]<;>rfl) (W_skip ?_)
  show W _ _ _ _ _ _
  refine W_sq fun K hK=>(W_semi (some none) (.take true 0 (.take false 1 (.take false 2 (.take true 3 (.take true 4 (.take true 5 (.bar 6 (.take false 7 (.take false 8 .nil))))))))) mixed (by kernel_rfl) ?_);simp only [↓rgm,↓zZ1,↓reduceIte,Nat.reduceEqDiff,rg,ow_95,e2,e3,ptr_eq,k5,klv,bx,k7]
  refine do_callW (by simp only [zZ2,Nat.reduceEqDiff,↓reduceIte,zZ3]<;>rfl) (by simp only [zZ2,Nat.reduceEqDiff,↓reduceIte,zZ4]<;>rfl) (before_any B lv ord x mxi _ (kls.ext (Ext.dr noF _ _) fun _ _ g=>g.elim)) ?_
  rintro _ w2 ⟨rfl,x2⟩
  refine ⟨by first | exact trivial | exact .inr trivial,?_⟩
  simp only [↓zZ1,↓reduceIte,Nat.reduceEqDiff,rg,ow_95,↓rgm]
  apply hK;clear hK K
  refine W_ret ?_
  exact endQ_1 (by simp only [upd_eq,Nat.reduceEqDiff,↓reduceIte]<;>rfl) ⟨rfl,n1.ext.tr x2.od⟩
end Go.Proofs.Ytbnnkcofnmipoaa
namespace Go.Proofs.Ytbnnkcofnmipoaa
open Go
def atO:List Nat->Code->Option Code
 | [],c=>some c
 | 0::p,.seq a _=>atO p a
 | _::p,.seq _ b=>atO p b
 | 0::p,.cond _ a _=>atO p a
 | _::p,.cond _ _ b=>atO p b
 | _::p,.scope c=>atO p c
 | _::p,.block _ c=>atO p c
 | _::p,.loop c=>atO p c
 | _,_=>none
def atF (f:Func) (p:List Nat):Option Code :=
 match f.body with
 | some c=>atO p c
 | none=>none
def pc (f:Func) (p:List Nat):Code:=(atF f p).getD .skip
theorem W_pc {P:Program} {n:Nat} {f:Func} {p:List Nat} {c:Code} {Q:Post} {e:Env} {w:World} (hp:atF f p=some c) (h:W P n c Q e w):W P n (pc f p) Q e w:=by
 unfold pc;rw [hp];exact h
theorem W_qc {P:Program} {n:Nat} {f:Func} {p:List Nat} {c:Code} {Q:Post} {e:Env} {w:World} (hp:atF f p=some c) (h:W P n (pc f p) Q e w):W P n c Q e w:=by
 unfold pc at h;rw [hp] at h;exact h
end Go.Proofs.Ytbnnkcofnmipoaa
namespace Go.Proofs.Ytbnnkcofnmipoaa
open Go Go.Proofs
theorem ltO {a b:Int}:O.lt a b=true ↔ a<b:=by show decide _=true ↔ _;simp
theorem ltOf {a b:Int}:O.lt a b=false ↔ b<=a:=by show decide _=false ↔ _;simp
structure RgC where
 (B m d:Nat) (iso:Int) (ord:List Int) (lb S0 S1 b5 b7 b10 b12 b14 b15:Nat) (mxi:It) (mi ex:Bool) (lo:Int) (Lx R0:List It) (w0:World) (G0:Nat->Nat->Prop)
abbrev RgC.κ (c:RgC):It->Int:=rkI c.ord
structure RgC.Ok (c:RgC):Prop where
 hd:2<=c.d
 hd':c.d<=128
 mlb:c.m<c.lb
 lbS:c.lb<c.S0
 le:∀ y ∈ [c.b5,c.b7,c.b10,c.b12,c.b14,c.b15],c.S0<=y/\y<c.S1
 ne:[c.b5,c.b7,c.b10,c.b12,c.b14,c.b15].Nodup
 low:∀ x ∈ c.Lx,c.κ x<c.lo
 high:∀ x ∈ c.R0,c.lo<=c.κ x
 asc:Asc O (c.κ) (c.Lx++c.R0)
 big:(c.Lx++c.R0).length<=2147483647
 s0:∀ y o,c.S0<=y->c.G0 y o\/c.w0.heap.size<=y
 gm:∀ o,c.G0 c.m o
 gl:∀ o,c.G0 c.lb o
variable {c:RgC}
def RgC.Z (c:RgC) (kb sb:Option Nat) (y:Nat):Prop:=(c.S0<=y/\y<c.S1)\/y=c.lb\/kb=some y\/sb=some y
structure RgC.Bx (c:RgC) (w:World) (pv:It):Prop where
 x5:rd w c.b5 0=some (ptr c.m)
 x7:Row w c.b7 0 (E.cel c.mxi)
 x12:rd w c.b12 0=some (.bool c.mi)
 xh:HOk (some c.b14) w
 x15:Row w c.b15 0 (E.cel pv)
 w15:wok w c.b15 2
 w10:wok w c.b10 4
theorem RgC.Bx.ext {w w':World} {G:Nat->Nat->Prop} {pv:It} (ok:c.Ok) (h:c.Bx w pv) (x:Ext G w w') (hG:∀ y o,G y o->¬ (c.S0<=y/\y<c.S1)):c.Bx w' pv:=by
 have hl:∀ y ∈ [c.b5,c.b7,c.b10,c.b12,c.b14,c.b15],∀ o,¬ G y o:=fun y hy o g=>hG y o g (ok.le y hy)
 exact ⟨x.rd h.x5 (hl _ (by simp) _),x.row h.x7 fun i _=>hl _ (by simp) _,x.rd h.x12 (hl _ (by simp) _),h.xh.ext x fun hb e=>by cases e;exact hl _ (by simp),x.row h.x15 fun i _=>hl _ (by simp) _,x.wok h.w15,x.wok h.w10⟩
theorem RgC.Bx.hint {w w':World} {G:Nat->Nat->Prop} {pv:It} (ok:c.Ok) (h:c.Bx w pv) (x:Ext G w w') (hG:∀ y o,G y o->y=c.b14\/¬ (c.S0<=y/\y<c.S1)) (hH:HOk (some c.b14) w'):c.Bx w' pv:=by
 have hn:=ok.ne
 simp only [List.nodup_cons,List.mem_cons,List.not_mem_nil,or_false,not_or] at hn
 have hl:∀ y ∈ [c.b5,c.b7,c.b10,c.b12,c.b15],∀ o,¬ G y o:=fun y hy o g=>by
  have hle:c.S0<=y/\y<c.S1:=ok.le y (by simp only [List.mem_cons,List.not_mem_nil,or_false] at hy ⊢;omega)
  rcases hG y o g with k | k
  ·simp only [List.mem_cons,List.not_mem_nil,or_false] at hy;omega
  ·exact k hle
 exact ⟨x.rd h.x5 (hl _ (by simp) _),x.row h.x7 fun i _=>hl _ (by simp) _,x.rd h.x12 (hl _ (by simp) _),hH,x.row h.x15 fun i _=>hl _ (by simp) _,x.wok h.w15,x.wok h.w10⟩
theorem RgC.Bx.piv {w w':World} {pv pv':It} (ok:c.Ok) (h:c.Bx w pv) (x:Ext (rng c.b15 0 2) w w') (r:Row w' c.b15 0 (E.cel pv')):c.Bx w' pv':=by
 have hn:=ok.ne
 simp only [List.nodup_cons,List.mem_cons,List.not_mem_nil,or_false,not_or] at hn
 have hl:∀ y,y ≠ c.b15->∀ o,¬ rng c.b15 0 2 y o:=fun y hy o g=>hy g.1
 exact ⟨x.rd h.x5 (hl _ (by omega) _),x.row h.x7 fun i _=>hl _ (by omega) _,x.rd h.x12 (hl _ (by omega) _),h.xh.ext x fun hb e=>by cases e;exact hl _ (by omega),r,x.wok h.w15,x.wok h.w10⟩
structure LiN (lb:Nat) (w:World):Prop where
 le:rd w lb 0=some nilF
 cn:rd w lb 1=some (.int .i64 0)
 np:rd w lb 2=some (.int .i64 0)
 qa:rd w lb 3=some (.slice none 0 0)
structure RgC.Qs (c:RgC) (w:World) (q:List Qe) (kb:Option Nat) (sg:Qe->List It) (fp:Qe->Nat->Nat->Prop) (R:List It):Prop where
 li:(c.ex=true/\∃ cnt,LiS c.B c.m c.ord c.lb cnt 0 q kb w)\/(c.ex=false/\q=[]/\LiN c.lb w)
 wk:wok w c.lb 4
 hp:Heap (leE c.ord) q
 lq:LQ (c.κ) Prod.fst sg q R
 ent:∀ e ∈ q,Ent c.iso (c.d-1) (2*c.d-1) w e (sg e) (fp e)
 full:c.ex=true->∀ x,LD Prod.fst sg q x ↔ x ∈ c.R0/\x ∉ R
 sub:R.Sublist c.R0
 gone:∀ x ∈ c.R0,x ∈ R\/stopI c.ord c.mi c.mxi x=false
 num:(runQ Prod.fst sg q).length+R.length<=c.R0.length
theorem RgC.Qs.ext {w w':World} {G:Nat->Nat->Prop} {q:List Qe} {kb:Option Nat} {sg:Qe->List It} {fp:Qe->Nat->Nat->Prop} {R:List It} (h:c.Qs w q kb sg fp R) (x:Ext G w w') (h1:∀ o,¬ G c.lb o) (h2:∀ y o,kb=some y->¬ G y o) (h3:∀ y o,G y o->c.m<=y\/y<c.B)
  (h4:∀ e ∈ q,∀ y o,fp e y o->¬ G y o):c.Qs w' q kb sg fp R :=
 ⟨h.li.imp (fun ⟨g,cnt,k⟩=>⟨g,cnt,k.ext x h1 h2 h3⟩) fun ⟨g1,g2,k⟩=>⟨g1,g2,x.rd k.le (h1 _),x.rd k.cn (h1 _),x.rd k.np (h1 _),x.rd k.qa (h1 _)⟩,
  x.wok h.wk,h.hp,h.lq,fun e he=>(h.ent e he).ext x (h4 e he),h.full,h.sub,h.gone,h.num⟩
theorem runQ_len {sg:Qe->List It} {q:List Qe}:q.length<=(runQ Prod.fst sg q).length:=by
 induction q with
 | nil=>simp
 | cons e q ih =>
  show _<=((Prod.fst e::sg e)++runQ Prod.fst sg q).length
  rw [List.length_append,List.length_cons,List.length_cons];omega
theorem RgC.Qs.qlen (ok:c.Ok) {w:World} {q:List Qe} {kb:Option Nat} {sg:Qe->List It} {fp:Qe->Nat->Nat->Prop} {R:List It} (h:c.Qs w q kb sg fp R):q.length+R.length<=2147483647:=by
 have h1:=h.num
 have h2:=runQ_len (sg:=sg) (q:=q)
 have h3:=ok.big
 rw [List.length_append] at h3
 omega
theorem R_asc (ok:c.Ok) {w:World} {q:List Qe} {kb:Option Nat} {sg:Qe->List It} {fp:Qe->Nat->Nat->Prop} {R:List It} (h:c.Qs w q kb sg fp R):R.Pairwise fun a b=>c.κ a<c.κ b:=by
 have h1:=(List.pairwise_append.1 ok.asc).2.1
 exact (h1.sublist h.sub).imp fun g=>ltO.1 g
def fpW (fp:Qe->Nat->Nat->Prop) (e0:Qe) (F:Nat->Nat->Prop):Qe->Nat->Nat->Prop:=fun e=>if e=e0 then F else fp e
theorem runQ_same {sg sg':Qe->List It} {q:List Qe} (h:∀ e ∈ q,sg' e=sg e):runQ Prod.fst sg' q=runQ Prod.fst sg q:=by
 unfold runQ
 induction q with
 | nil=>rfl
 | cons e q ih=>rw [List.flatMap_cons,List.flatMap_cons,ih fun e he=>h e (by simp [he]),h e (by simp)]
theorem RgC.Qs.push (ok:c.Ok) {w w':World} {q q':List Qe} {kb kb':Option Nat} {sg:Qe->List It} {fp:Qe->Nat->Nat->Prop} {A S C:List It} {e0:Qe} {cnt:Int} {Fe:Nat->Nat->Prop} (hex:c.ex=true) (h:c.Qs w q kb sg fp (A++e0.1::(S++C)))
  (hp:q'.Perm (e0::q)) (hh:Heap (leE c.ord) q') (L':LiS c.B c.m c.ord c.lb cnt 0 q' kb' w') (x:Ext (lbF c.lb kb) w w') (hfp:∀ e ∈ q,∀ y o,fp e y o->y ≠ c.lb/\kb ≠ some y) (hFe:∀ y o,Fe y o->y ≠ c.lb/\kb ≠ some y)
  (hent:Ent c.iso (c.d-1) (2*c.d-1) w e0 S Fe) (hgap:∀ s ∈ S,∀ d,LD Prod.fst sg q d->¬ (c.κ e0.1<c.κ d/\c.κ d<c.κ s)) (hst:∀ y,y=e0.1\/y ∈ S->stopI c.ord c.mi c.mxi y=false) :
  c.Qs w' q' kb' (sgW sg e0 S) (fpW fp e0 Fe) (A++C):=by
 have hR:=R_asc ok h
 have h0:=h.lq.out (e0:=e0) (by simp)
 have hs:=sgW_same (sg:=sg) (S:=S) h0
 have he0:sgW sg e0 S e0=S:=by unfold sgW;rw [if_pos rfl]
 have hf0:fpW fp e0 Fe e0=Fe:=by unfold fpW;rw [if_pos rfl]
 have hfs:∀ e ∈ q,fpW fp e0 Fe e=fp e:=fun e he=>by
  unfold fpW
  split
  ·rename_i g;subst g;exact (h0 he).elim
  ·rfl
 have hx:∀ {F:Nat->Nat->Prop},(∀ y o,F y o->y ≠ c.lb/\kb ≠ some y)->∀ y o,F y o->¬ lbF c.lb kb y o:=fun hF y o g k=>by
  rcases k with k | k
  ·exact (hF y o g).1 k
  ·exact (hF y o g).2 k
 have hsubl:(A++C).Sublist (A++e0.1::(S++C)):=List.Sublist.append_left ((List.sublist_append_right S C).cons _) A
 refine ⟨.inl ⟨hex,cnt,L'⟩,L'.wok,hh,(h.lq.push hR fun s hs e he=>hgap s hs _ ⟨e,he,.inl rfl⟩).perm hp,fun e he=>?_,fun _ x=>?_,hsubl.trans h.sub,fun y hy=>?_,?_⟩
 ·rcases List.mem_cons.1 (hp.mem_iff.1 he) with rfl | hq
  ·rw [he0,hf0];exact hent.ext x (hx hFe)
  ·rw [hs e hq,hfs e hq];exact (h.ent e hq).ext x (hx (hfp e hq))
 ·rw [LD.perm hp,LD.push h0,h.full hex]
  have hnd:(A++e0.1::(S++C)).Nodup:=hR.imp fun {a b} g e=>by subst e;exact absurd g (Int.lt_irrefl _)
  constructor
  ·rintro (g | g)
   ·have hm:x ∈ A++e0.1::(S++C):=by rcases g with rfl | g<;>simp [*]
    refine ⟨h.sub.subset hm,fun k=>?_⟩
    obtain ⟨n1,n2,n3⟩:=List.nodup_append.1 hnd
    rcases List.mem_append.1 k with k | k
    ·exact n3 x k x (by rcases g with rfl | g<;>simp [*]) rfl
    ·obtain ⟨n4,n5⟩:=List.nodup_cons.1 n2
     rcases g with rfl | g
     ·exact n4 (by simp [k])
     ·exact (List.nodup_append.1 n5).2.2 x g x k rfl
   ·exact ⟨g.1,fun k=>g.2 (hsubl.subset k)⟩
  ·rintro ⟨g1,g2⟩
   by_cases hm:x ∈ A++e0.1::(S++C)
   ·left
    rcases List.mem_append.1 hm with k | k
    ·exact (g2 (by simp [k])).elim
    ·rcases List.mem_cons.1 k with k | k
     ·exact .inl k
     ·rcases List.mem_append.1 k with k | k
      ·exact .inr k
      ·exact (g2 (by simp [k])).elim
   ·exact .inr ⟨g1,hm⟩
 ·rcases h.gone y hy with g | g
  ·rcases List.mem_append.1 g with k | k
   ·exact .inl (by simp [k])
   ·rcases List.mem_cons.1 k with k | k
    ·exact .inr (hst y (.inl k))
    ·rcases List.mem_append.1 k with k | k
     ·exact .inr (hst y (.inr k))
     ·exact .inl (by simp [k])
  ·exact .inr g
 ·have h1:=(hp.flatMap_right fun e=>Prod.fst e::sgW sg e0 S e).length_eq
  have h2:((e0::q).flatMap fun e=>Prod.fst e::sgW sg e0 S e).length=1+S.length+(runQ Prod.fst sg q).length:=by
   rw [List.flatMap_cons,he0,List.length_append,List.length_cons]
   have:(q.flatMap fun e=>Prod.fst e::sgW sg e0 S e)=runQ Prod.fst sg q:=runQ_same hs
   rw [this];omega
  have h3:=h.num
  simp only [List.length_append,List.length_cons] at h3 ⊢
  unfold runQ at h1 h2 ⊢
  unfold runQ at h3
  omega
theorem RgC.Qs.skip {w:World} {q:List Qe} {kb:Option Nat} {sg:Qe->List It} {fp:Qe->Nat->Nat->Prop} {A S C:List It} {k:It} (hex:c.ex=false) (h:c.Qs w q kb sg fp (A++k::(S++C))) (hst:∀ y,y=k\/y ∈ S->stopI c.ord c.mi c.mxi y=false):c.Qs w q kb sg fp (A++C):=by
 have hsubl:(A++C).Sublist (A++k::(S++C)):=List.Sublist.append_left ((List.sublist_append_right S C).cons _) A
 refine ⟨h.li,h.wk,h.hp,h.lq.less hsubl.subset,h.ent,fun g=>(by rw [hex] at g;cases g),hsubl.trans h.sub,fun y hy=>?_,by have:=h.num;have:=hsubl.length_le;omega⟩
 rcases h.gone y hy with g | g
 ·rcases List.mem_append.1 g with k | k
  ·exact .inl (by simp [k])
  ·rcases List.mem_cons.1 k with k | k
   ·exact .inr (hst y (.inl k))
   ·rcases List.mem_append.1 k with k | k
    ·exact .inr (hst y (.inr k))
    ·exact .inl (by simp [k])
 ·exact .inr g
structure RgC.St (c:RgC) (w:World) (D0:It->Prop) (xs:List It) (F:Nat->Nat->Prop) (q:List Qe) (kb:Option Nat) (sg:Qe->List It) (fp:Qe->Nat->Nat->Prop) (R:List It) (sb:Option Nat) (pv:It):Prop where
 tr:TreeAtP (GapQ (c.κ) c.lo D0) c.B c.ord w c.m c.d c.iso xs F
 qs:c.Qs w q kb sg fp R
 bx:c.Bx w pv
 apF:∀ y o,F y o->¬ c.Z kb sb y
 apq:∀ e ∈ q,∀ y o,fp e y o->¬ c.Z kb sb y/\¬ F y o/\c.m<y/\y<w.heap.size/\(c.G0 y o\/c.w0.heap.size<=y)
 kbs:∀ y,kb=some y->c.m<y/\¬ (c.S0<=y/\y<c.S1)/\y ≠ c.lb/\sb ≠ some y/\y<w.heap.size
 sbs:∀ y,sb=some y->c.S1<=y/\y<w.heap.size
 piv:∀ x ∈ xs,c.κ x<c.κ pv ↔ c.κ x<c.lo
 s1:c.S1<=w.heap.size
 base:Ext c.G0 c.w0 w
 old:∀ y o,F y o->c.G0 y o\/c.w0.heap.size<=y
 kbo:∀ y,kb=some y->(∀ o,c.G0 y o)\/c.w0.heap.size<=y
variable {w w':World} {D0:It->Prop} {xs:List It} {F:Nat->Nat->Prop} {q:List Qe} {kb:Option Nat} {sg:Qe->List It} {fp:Qe->Nat->Nat->Prop} {R:List It} {sb:Option Nat} {pv:It}
theorem RgC.St.S0m (ok:c.Ok):c.m<c.S0:=by have:=ok.mlb;have:=ok.lbS;omega
theorem base_step {G:Nat->Nat->Prop} (h:Ext c.G0 c.w0 w) (x:Ext G w w') (hG:∀ y o,y<c.w0.heap.size->G y o->c.G0 y o):Ext c.G0 c.w0 w':=h.trans x (fun _ _ g=>g) hG
theorem RgC.St.ext {G:Nat->Nat->Prop} (ok:c.Ok) (h:c.St w D0 xs F q kb sg fp R sb pv) (x:Ext G w w') (hG:∀ y o,G y o->sb=some y):c.St w' D0 xs F q kb sg fp R sb pv:=by
 have hm:=RgC.St.S0m ok
 have h1:∀ y o,G y o->¬ F y o:=fun y o g k=>h.apF y o k (.inr (.inr (.inr (hG y o g))))
 have h2:∀ y o,G y o->c.S1<=y:=fun y o g=>(h.sbs y (hG y o g)).1
 have hS:c.S0<c.S1:=by have:=ok.le c.b5 (by simp);omega
 have hs:=x.size
 refine ⟨h.tr.extG x (fun y o g k=>h1 y o k g) fun y o g=>?_,h.qs.ext x (fun o g=>?_) (fun y o e g=>(h.kbs y e).2.2.2.1 (hG y o g)) (fun y o g=>.inl ?_) fun e he y o g k=>(h.apq e he y o g).1 (.inr (.inr (.inr (hG y o k)))),h.bx.ext ok x fun y o g k=>?_,h.apF,fun e he y o g=>?_,fun y e=>?_,fun y e=>?_,h.piv,?_,base_step h.base x fun y o hy g=>((ok.s0 y o (by have:=h2 y o g;omega)).resolve_right (by omega)),h.old,h.kbo⟩
 ·have:=h2 y o g;omega
 ·have:=h2 _ o g;have:=ok.lbS;omega
 ·have:=h2 y o g;omega
 ·have:=h2 y o g;omega
 ·obtain ⟨g1,g2,g3,g4,g5⟩:=h.apq e he y o g;exact ⟨g1,g2,g3,by omega,g5⟩
 ·obtain ⟨g1,g2,g3,g4,g5⟩:=h.kbs y e;exact ⟨g1,g2,g3,g4,by omega⟩
 ·obtain ⟨g1,g2⟩:=h.sbs y e;exact ⟨g1,by omega⟩
 ·have:=h.s1;omega
theorem RgC.St.ext0 (ok:c.Ok) (h:c.St w D0 xs F q kb sg fp R sb pv) (x:Ext noF w w'):c.St w' D0 xs F q kb sg fp R sb pv:=h.ext ok x fun _ _ g=>g.elim
theorem RgC.St.hint (ok:c.Ok) (h:c.St w D0 xs F q kb sg fp R sb pv) (x:Ext (hF (some c.b14)) w w') (hH:HOk (some c.b14) w'):c.St w' D0 xs F q kb sg fp R sb pv:=by
 have hm:=RgC.St.S0m ok
 have h14:=ok.le c.b14 (by simp)
 have hb:∀ y o,hF (some c.b14) y o->y=c.b14:=fun y o g=>by cases g;rfl
 have hs:=x.size
 refine ⟨h.tr.extG x (fun y o g k=>h.apF y o g ?_) fun y o g=>?_,h.qs.ext x (fun o g=>?_) (fun y o e g=>?_) (fun y o g=>.inl ?_) fun e he y o g k=>(h.apq e he y o g).1 ?_,h.bx.hint ok x (fun y o g=>.inl (hb y o g)) hH,h.apF,fun e he y o g=>?_,fun y e=>?_,fun y e=>?_,h.piv,?_,base_step h.base x fun y o hy g=>((ok.s0 y o (by have:=hb y o g;omega)).resolve_right (by omega)),h.old,h.kbo⟩
 ·rw [hb y o k];exact .inl h14
 ·rw [hb y o g];omega
 ·have:=hb _ o g;have:=ok.lbS;omega
 ·have:=hb y o g;subst this;exact (h.kbs _ e).2.1 h14
 ·rw [hb y o g];omega
 ·rw [hb y o k];exact .inl h14
 ·obtain ⟨g1,g2,g3,g4,g5⟩:=h.apq e he y o g;exact ⟨g1,g2,g3,by omega,g5⟩
 ·obtain ⟨g1,g2,g3,g4,g5⟩:=h.kbs y e;exact ⟨g1,g2,g3,g4,by omega⟩
 ·obtain ⟨g1,g2⟩:=h.sbs y e;exact ⟨g1,by omega⟩
 ·have:=h.s1;omega
theorem RgC.St.pivot {pv':It} (ok:c.Ok) (h:c.St w D0 xs F q kb sg fp R sb pv) (x:Ext (rng c.b15 0 2) w w') (r:Row w' c.b15 0 (E.cel pv')) (hp:∀ x ∈ xs,c.κ x<c.κ pv' ↔ c.κ x<c.lo):c.St w' D0 xs F q kb sg fp R sb pv':=by
 have hm:=RgC.St.S0m ok
 have h15:=ok.le c.b15 (by simp)
 have hb:∀ y o,rng c.b15 0 2 y o->y=c.b15:=fun y o g=>g.1
 have hs:=x.size
 refine ⟨h.tr.extG x (fun y o g k=>h.apF y o g ?_) fun y o g=>?_,h.qs.ext x (fun o g=>?_) (fun y o e g=>?_) (fun y o g=>.inl ?_) fun e he y o g k=>(h.apq e he y o g).1 ?_,h.bx.piv ok x r,h.apF,fun e he y o g=>?_,fun y e=>?_,fun y e=>?_,hp,?_,base_step h.base x fun y o hy g=>((ok.s0 y o (by have:=hb y o g;omega)).resolve_right (by omega)),h.old,h.kbo⟩
 ·rw [hb y o k];exact .inl h15
 ·rw [hb y o g];omega
 ·have:=hb _ o g;have:=ok.lbS;omega
 ·have:=hb y o g;subst this;exact (h.kbs _ e).2.1 h15
 ·rw [hb y o g];omega
 ·rw [hb y o k];exact .inl h15
 ·obtain ⟨g1,g2,g3,g4,g5⟩:=h.apq e he y o g;exact ⟨g1,g2,g3,by omega,g5⟩
 ·obtain ⟨g1,g2,g3,g4,g5⟩:=h.kbs y e;exact ⟨g1,g2,g3,g4,by omega⟩
 ·obtain ⟨g1,g2⟩:=h.sbs y e;exact ⟨g1,by omega⟩
 ·have:=h.s1;omega
theorem RgC.St.tree {G F':Nat->Nat->Prop} {D':It->Prop} {xs':List It} (ok:c.Ok) (h:c.St w D0 xs F q kb sg fp R sb pv) (x:Ext G w w') (hG:∀ y o,G y o->F y o\/y=c.m\/y=c.b14) (hH:HOk (some c.b14) w')
  (t:TreeAtP (GapQ (c.κ) c.lo D') c.B c.ord w' c.m c.d c.iso xs' F') (hF':∀ y o,F' y o->F y o\/w.heap.size<=y) (hp:∀ x ∈ xs',c.κ x<c.κ pv ↔ c.κ x<c.lo):c.St w' D' xs' F' q kb sg fp R sb pv:=by
 have hm:=RgC.St.S0m ok
 have h14:=ok.le c.b14 (by simp)
 have hs:=x.size
 have hs1:=h.s1
 have hml:=ok.mlb
 have hlS:=ok.lbS
 have hZ:∀ y,c.m<y->c.Z kb sb y->y ≠ c.b14->∀ o,¬ G y o:=fun y hy hz h14 o g=>by
  rcases hG y o g with k | k | k
  ·exact h.apF y o k hz
  ·omega
  ·exact h14 k
 refine ⟨t,h.qs.ext x (hZ _ hml (.inr (.inl rfl)) (by omega)) (fun y o e=>hZ y (h.kbs y e).1 (.inr (.inr (.inl e))) (fun g=>(h.kbs y e).2.1 (by omega)) o) (fun y o g=>.inl ?_) fun e he y o g k=>?_,h.bx.hint ok x (fun y o g=>?_) hH,fun y o g=>?_,fun e he y o g=>?_,fun y e=>?_,fun y e=>?_,hp,by omega,base_step h.base x fun y o hy g=>?_,fun y o g=>?_,h.kbo⟩
 ·rcases hG y o g with k | k | k
  ·exact Nat.le_of_lt (h.tr.above y o k)
  ·omega
  ·omega
 ·obtain ⟨g1,g2,g3,g4,g5⟩:=h.apq e he y o g
  rcases hG y o k with k | k | k
  ·exact g2 k
  ·omega
  ·rw [k] at g1;exact g1 (.inl h14)
 ·rcases hG y o g with k | k | k
  ·exact .inr fun hh=>h.apF y o k (.inl hh)
  ·exact .inr (by omega)
  ·exact .inl k
 ·rcases hF' y o g with k | k
  ·exact h.apF y o k
  ·rintro (z | z | z | z)
   ·omega
   ·omega
   ·have:=(h.kbs y z).2.2.2.2;omega
   ·have:=(h.sbs y z).2;omega
 ·obtain ⟨g1,g2,g3,g4,g5⟩:=h.apq e he y o g
  refine ⟨g1,fun k=>?_,g3,by omega,g5⟩
  rcases hF' y o k with k | k
  ·exact g2 k
  ·omega
 ·obtain ⟨g1,g2,g3,g4,g5⟩:=h.kbs y e;exact ⟨g1,g2,g3,g4,by omega⟩
 ·obtain ⟨g1,g2⟩:=h.sbs y e;exact ⟨g1,by omega⟩
 ·rcases hG y o g with k | k | k
  ·exact (h.old y o k).resolve_right (by omega)
  ·rw [k];exact ok.gm o
  ·exact (ok.s0 y o (by omega)).resolve_right (by omega)
 ·rcases hF' y o g with k | k
  ·exact h.old y o k
  ·exact .inr (Nat.le_trans h.base.size k)
theorem RgC.St.push {q':List Qe} {kb':Option Nat} {A S C:List It} {e0:Qe} {cnt:Int} {Fe:Nat->Nat->Prop} (ok:c.Ok) (hex:c.ex=true) (h:c.St w D0 xs F q kb sg fp (A++e0.1::(S++C)) sb pv)
  (hp:q'.Perm (e0::q)) (hh:Heap (leE c.ord) q') (L':LiS c.B c.m c.ord c.lb cnt 0 q' kb' w') (x:Ext (lbF c.lb kb) w w') (hk:∀ y,kb'=some y->kb=some y\/w.heap.size<=y)
  (hFe:∀ y o,Fe y o->¬ c.Z kb sb y/\¬ F y o/\c.m<y/\y<w.heap.size/\(c.G0 y o\/c.w0.heap.size<=y)) (hent:Ent c.iso (c.d-1) (2*c.d-1) w e0 S Fe) (hgap:∀ s ∈ S,∀ d,LD Prod.fst sg q d->¬ (c.κ e0.1<c.κ d/\c.κ d<c.κ s))
  (hst:∀ y,y=e0.1\/y ∈ S->stopI c.ord c.mi c.mxi y=false):c.St w' D0 xs F q' kb' (sgW sg e0 S) (fpW fp e0 Fe) (A++C) sb pv:=by
 have hm:=RgC.St.S0m ok
 have hs:=x.size
 have hs1:=h.s1
 have hml:=ok.mlb
 have hlS:=ok.lbS
 have hlw:=wok_lt h.qs.wk
 have hb5:=ok.le c.b5 (by simp)
 have hl:∀ y o,lbF c.lb kb y o->c.Z kb sb y/\c.m<y/\¬ (c.S0<=y/\y<c.S1):=fun y o g=>by
  rcases g with g | g
  ·exact ⟨.inr (.inl g),by omega,by omega⟩
  ·exact ⟨.inr (.inr (.inl g)),(h.kbs y g).1,(h.kbs y g).2.1⟩
 have hZ':∀ y,y<w.heap.size->¬ c.Z kb sb y->¬ c.Z kb' sb y:=fun y hy hz=>by
  rintro (z | z | z | z)
  ·exact hz (.inl z)
  ·exact hz (.inr (.inl z))
  ·rcases hk y z with g | g
   ·exact hz (.inr (.inr (.inl g)))
   ·omega
  ·exact hz (.inr (.inr (.inr z)))
 have h0:=h.qs.lq.out (e0:=e0) (by simp)
 refine ⟨h.tr.extG x (fun y o g k=>h.apF y o g (hl y o k).1) fun y o g=>(hl y o g).2.1,h.qs.push ok hex hp hh L' x (fun e he y o g=>?_) (fun y o g=>?_) hent hgap hst,h.bx.ext ok x fun y o g=>(hl y o g).2.2,fun y o g=>hZ' y (h.tr.lt y o g) (h.apF y o g),fun e he y o g=>?_,fun y e=>?_,fun y e=>?_,h.piv,by omega,base_step h.base x fun y o hy g=>?_,h.old,fun y e=>?_⟩
 ·have:=(h.apq e he y o g).1
  exact ⟨fun k=>this (.inr (.inl k)),fun k=>this (.inr (.inr (.inl k)))⟩
 ·have:=(hFe y o g).1
  exact ⟨fun k=>this (.inr (.inl k)),fun k=>this (.inr (.inr (.inl k)))⟩
 ·rcases List.mem_cons.1 (hp.mem_iff.1 he) with rfl | hq
  ·unfold fpW at g
   rw [if_pos rfl] at g
   obtain ⟨g1,g2,g3,g4,g5⟩:=hFe y o g
   exact ⟨hZ' y g4 g1,g2,g3,by omega,g5⟩
  ·unfold fpW at g
   rw [if_neg (fun k=>h0 (by rw [<-k];exact hq))] at g
   obtain ⟨g1,g2,g3,g4,g5⟩:=h.apq e hq y o g
   exact ⟨hZ' y g4 g1,g2,g3,by omega,g5⟩
 ·rcases hk y e with g | g
  ·obtain ⟨g1,g2,g3,g4,g5⟩:=h.kbs y g;exact ⟨g1,g2,g3,g4,by omega⟩
  ·refine ⟨by omega,by omega,by omega,fun k=>?_,L'.qa.lt e⟩
   have:=(h.sbs y k).2;omega
 ·obtain ⟨g1,g2⟩:=h.sbs y e;exact ⟨g1,by omega⟩
 ·rcases g with g | g
  ·rw [g];exact ok.gl o
  ·rcases h.kbo y g with k | k
   ·exact k o
   ·omega
 ·rcases hk y e with g | g
  ·exact h.kbo y g
  ·exact .inr (Nat.le_trans h.base.size g)
theorem RgC.St.skip {A S C:List It} {k:It} (hex:c.ex=false) (h:c.St w D0 xs F q kb sg fp (A++k::(S++C)) sb pv) (hst:∀ y,y=k\/y ∈ S->stopI c.ord c.mi c.mxi y=false):c.St w D0 xs F q kb sg fp (A++C) sb pv :=
 ⟨h.tr,h.qs.skip hex hst,h.bx,h.apF,h.apq,h.kbs,h.sbs,h.piv,h.s1,h.base,h.old,h.kbo⟩
theorem RgC.St.stack {sb':Option Nat} (h:c.St w D0 xs F q kb sg fp R sb pv) (hs:∀ y,sb'=some y->sb=some y\/(c.S1<=y/\y<w.heap.size/\(∀ o,¬ F y o)/\(∀ e ∈ q,∀ o,¬ fp e y o)/\kb ≠ some y)):c.St w D0 xs F q kb sg fp R sb' pv:=by
 refine ⟨h.tr,h.qs,h.bx,fun y o g=>?_,fun e he y o g=>?_,fun y e=>?_,fun y e=>?_,h.piv,h.s1,h.base,h.old,h.kbo⟩
 ·rintro (z | z | z | z)
  ·exact h.apF y o g (.inl z)
  ·exact h.apF y o g (.inr (.inl z))
  ·exact h.apF y o g (.inr (.inr (.inl z)))
  ·rcases hs y z with k | k
   ·exact h.apF y o g (.inr (.inr (.inr k)))
   ·exact k.2.2.1 o g
 ·obtain ⟨g1,g2,g3,g4,g5⟩:=h.apq e he y o g
  refine ⟨?_,g2,g3,g4,g5⟩
  rintro (z | z | z | z)
  ·exact g1 (.inl z)
  ·exact g1 (.inr (.inl z))
  ·exact g1 (.inr (.inr (.inl z)))
  ·rcases hs y z with k | k
   ·exact g1 (.inr (.inr (.inr k)))
   ·exact k.2.2.2.1 e he o g
 ·obtain ⟨g1,g2,g3,g4,g5⟩:=h.kbs y e
  refine ⟨g1,g2,g3,fun k=>?_,g5⟩
  rcases hs y k with k | k
  ·exact g4 k
  ·exact k.2.2.2.2 e
 ·rcases hs y e with k | k
  ·exact h.sbs y k
  ·exact ⟨k.1,k.2.1⟩
end Go.Proofs.Ytbnnkcofnmipoaa
namespace Go.Proofs.Ytbnnkcofnmipoaa
open Go Go.Proofs
def Es:Enc (Nat × Nat) where
 cel p:=[ptr p.1,.int .i64 p.2]
 sz:=2
 len _:=rfl
 one p v hv:=by simp at hv;rcases hv with rfl | rfl<;>rfl
 pos:=by decide
theorem sN_at {w:World} {b o:Nat} {l:List (Nat × Nat)} (h:Row w b o (flat Es l)) {i:Nat} {p:Nat × Nat} (hi:l[i]? = some p):rd w b (o+i*2)=some (ptr p.1):=by
 have:=(Row.cons.1 (show Row w b (o+i*2) [ptr p.1,.int .i64 p.2] from row_at Es h hi)).1
 exact this
theorem sI_at {w:World} {b o:Nat} {l:List (Nat × Nat)} (h:Row w b o (flat Es l)) {i:Nat} {p:Nat × Nat} (hi:l[i]? = some p):rd w b (o+i*2+1)=some (.int .i64 p.2):=by
 have:=(Row.cons.1 (Row.cons.1 (show Row w b (o+i*2) [ptr p.1,.int .i64 p.2] from row_at Es h hi)).2).1
 exact this
def onL (L:List (Nat × Nat)) (y:Nat):Prop:=y ∈ L.map Prod.fst
theorem onL_step {L:List (Nat × Nat)} {i:Nat} {p:Nat × Nat} (hp:L[i]? = some p) (y:Nat):onL (L.take (i+1)) y ↔ onL (L.take i) y\/y=p.1:=by
 unfold onL
 rw [List.take_add_one,hp]
 simp
theorem onL_new {L:List (Nat × Nat)} (hn:(L.map Prod.fst).Nodup) {i:Nat} {p:Nat × Nat} (hp:L[i]? = some p):¬ onL (L.take i) p.1:=fun g=>by
 unfold onL at g
 rw [List.map_take] at g
 obtain ⟨j,hj⟩:=List.getElem?_of_mem g
 have hjl:=(List.getElem?_eq_some_iff.1 hj).1
 rw [List.length_take] at hjl
 rw [List.getElem?_take_of_lt (by omega)] at hj
 have h2:(L.map Prod.fst)[i]? = some p.1:=by rw [List.getElem?_map,hp];rfl
 obtain ⟨a1,a2⟩:=List.getElem?_eq_some_iff.1 hj
 obtain ⟨b1,b2⟩:=List.getElem?_eq_some_iff.1 h2
 exact List.pairwise_iff_getElem.1 hn j i a1 b1 (by omega) (by rw [a2,b2])
theorem wsubI (c j:Nat) (h:j<=c) (hc:c<9223372036854775808):IntKind.i64.wrap ((c:Int)-(j:Int))=(c:Int)+(-(j:Int)):=by rw [wsub c j h hc];omega
set_option maxHeartbeats 1600000 in
set_option maxRecDepth 8000 in
theorem cnt_branch {Q:Post} {e:Env} {w:World} {L:List (Nat × Nat)} {sb so cap j:Nat} {dn:Nat} (h5:e 16 = .slice (some ⟨sb,so,none⟩) L.length cap) (hr:Row w sb so (flat Es L)) (hL:L.length<=2147483648) (hn:(L.map Prod.fst).Nodup) (hsb:¬ onL L sb)
  (hc:∀ y,onL L y->∃ k:Nat,rd w y 1=some (.int .i64 k)/\j<=k/\k<=2147483648/\wok w y 4) (h21:e 21=ptr dn) (hd:rd w dn 1=some (.int .i64 (j-1:Nat))) (hdn:¬ onL L dn) (hj:1<=j)
  (hK:∀ e' w',(∀ k,k<=21->e' k=e k)->Shift (-(j:Int)) w w' (onL L)->Q .normal e' w'):W Try.prog 657 (pc Try.f60 [1,0,1,1,1,1,1,1,1,1,1,1,1,1,1,1,0,0,0,0,1,1,0,1,0,0,1,0,1,1,1,1,1,1,1,1,0]) Q e w:=by
 refine W_pc rfl ?_
 refine W_seq ?_
 refine W_rg fun K hK=>(W_text [true] (by kernel_rfl) ?_);simp only [↓zZ1,↓reduceIte,Nat.reduceEqDiff,rg,ow_60]
 apply hK;clear hK K
 simp only [andThen_normal]
 refine W_block (W_loop (fun mm e1 w1=>∃ i:Nat,mm=L.length-i/\i<=L.length/\(∀ k,k<=21->e1 k=e k)/\e1 22 = .int .i64 i/\Shift (-(j:Int)) w w1 (onL (L.take i))) L.length
  ⟨0,by simp,by simp,fun k hk=>by simp only [upd_apply];repeat rw [if_neg (by omega)],by simp only [upd_eq,Nat.reduceEqDiff,↓reduceIte];rfl,(Shift.nil _ w).congr fun y=>by simp [onL]⟩ ?_)
 rintro mm e1 w1 ⟨i,rfl,hi,he,e22,sh⟩
 have e16:e1 16 = .slice (some ⟨sb,so,none⟩) L.length cap:=by rw [he 16 (by omega)];exact h5
 refine W_seq ?_
 by_cases hlt:i<L.length
 ·have t1:=lt_tt i L.length hlt
  refine W_sq fun K hK=>(W_text [true,true,true,true] (by kernel_rfl) ?_);simp only [↓zZ1,↓reduceIte,Nat.reduceEqDiff,rg,ow_60,e16,e22,t1]
  apply hK;clear hK K
  refine W_true (by simp only [zZ2,Nat.reduceEqDiff,↓reduceIte,zZ3]<;>rfl) (W_skip ?_)
  show W _ _ _ _ _ _
  obtain ⟨p,hp⟩:∃ p,L[i]? = some p:=⟨_,List.getElem?_eq_getElem hlt⟩
  have hpm:onL L p.1:=List.mem_map_of_mem (List.mem_of_getElem? hp)
  obtain ⟨k,k1,k2,k3,k4⟩:=hc p.1 hpm
  have hnew:=onL_new hn hp
  have hsub:∀ y,onL (L.take i) y->onL L y:=fun y hy=>by
   unfold onL at hy ⊢
   rw [List.map_take] at hy
   exact List.mem_of_mem_take hy
  have k1':=sh.ext.rd k1 fun g=>hnew g.2
  have hr1:=sh.ext.row hr fun j' _ g=>hsb (hsub _ g.2)
  have s1:=sN_at hr1 hp
  have q1:=wsubI k j k2 (by omega)
  have q2:=wadd1 i (by omega)
  have e21:e1 21=ptr dn:=by rw [he 21 (by omega)];exact h21
  have hd1:=sh.ext.rd hd fun g=>hdn (hsub _ g.2)
  have q3:IntKind.i64.wrap (((j-1:Nat):Int)+1)=(j:Int):=by rw [wadd1 (j-1) (by omega)];omega
  have o1:=on3_0 sb p.1 dn
  have o2:=on3_1 sb p.1 dn
  have o3:=on3_2 sb p.1 dn
  refine W_seq (W_block ?_)
  refine W_rg fun K hK=>(W_semi (some (some [sb,p.1,dn])) (.take false 0 (.take false 1 (.take false 2 (.take false 3 (.take true 4 (.take false 5 (.take false 6 (.take true 7 (.take false 8 (.take false 9 (.take false 10 (.take true 11 (.take false 12 (.take false 13 (.take false 14 (.take false 15 (.bar 16 .nil))))))))))))))))) mixed (by kernel_rfl) ?_);simp only [↓rgm,↓zZ1,↓reduceIte,Nat.reduceEqDiff,rg,ow_60,e16,e21,e22,ptr_eq,hlt,s1,k1',hd1,q3,q1,o1,o2,o3,rB_on]
  refine do_store (by simp only [zZ2,Nat.reduceEqDiff,↓reduceIte,zZ3]<;>rfl) (by simp only [zZ2,Nat.reduceEqDiff,↓reduceIte,zZ3]<;>rfl) sz_3 rfl (sh.ext.wok k4) (by decide) (oc_one rfl rfl) fun w2 x2 r2 s2=>⟨by first | exact trivial | exact .inl trivial | exact .inr trivial,?_⟩
  simp only [↓zZ1,↓reduceIte,Nat.reduceEqDiff,rg,ow_60,↓rgm]
  apply hK;clear hK K
  simp only [inBlk_normal,andThen_normal]
  have x2:Ext (rng p.1 1 1) w1 w2:=by first | exact x2 | exact x2.od
  have sh2:=(sh.add hnew k1 x2 (Row.cons.1 r2).1).congr (onL_step hp)
  refine W_rg fun K hK=>(W_text [true,true,true] (by kernel_rfl) ?_);simp only [↓zZ1,↓reduceIte,Nat.reduceEqDiff,rg,ow_60,e22,q2]
  apply hK;clear hK K
  refine ⟨_,?_,i+1,rfl,hlt,fun k hk=>?_,by simp only [upd_eq,Nat.reduceEqDiff,↓reduceIte],sh2⟩
  ·omega
  ·simp only [upd_apply];repeat rw [if_neg (by omega)]
   exact he k hk
 ·obtain rfl:i=L.length:=by omega
  have t1:=lt_ff L.length L.length (Nat.le_refl _)
  refine W_sq fun K hK=>(W_text [true,true,true,true] (by kernel_rfl) ?_);simp only [↓zZ1,↓reduceIte,Nat.reduceEqDiff,rg,ow_60,e16,e22,t1]
  apply hK;clear hK K
  refine W_false (by simp only [zZ2,Nat.reduceEqDiff,↓reduceIte,zZ3]<;>rfl) (W_exit ?_)
  simp only [andThen_exit,inBlk_exit,↓reduceIte]
  refine hK _ _ (fun k hk=>?_) (sh.congr fun y=>by rw [List.take_length])
  simp only [upd_apply];repeat rw [if_neg (by omega)]
  exact he k hk
set_option maxHeartbeats 1600000 in
set_option maxRecDepth 8000 in
theorem cnt_leaf {Q:Post} {e:Env} {w:World} {L:List (Nat × Nat)} {sb so cap j:Nat} (h5:e 16 = .slice (some ⟨sb,so,none⟩) L.length cap) (hr:Row w sb so (flat Es L)) (hL:L.length<=2147483648) (hn:(L.map Prod.fst).Nodup) (hsb:¬ onL L sb)
  (hc:∀ y,onL L y->∃ k:Nat,rd w y 1=some (.int .i64 k)/\j<=k/\k<=2147483648/\wok w y 4) (h25:e 25 = .int .i64 j)
  (hK:∀ e' w',(∀ k,k<=26->e' k=e k)->Shift (-(j:Int)) w w' (onL L)->Q .normal e' w'):W Try.prog 657 (pc Try.f60 [1,0,1,1,1,1,1,1,1,1,1,1,1,1,1,1,0,0,0,0,1,1,1,1,0,1,0,1,1,1,1,1,1,0]) Q e w:=by
 refine W_pc rfl ?_
 refine W_seq ?_
 refine W_rg fun K hK=>(W_text [true] (by kernel_rfl) ?_);simp only [↓zZ1,↓reduceIte,Nat.reduceEqDiff,rg,ow_60]
 apply hK;clear hK K
 simp only [andThen_normal]
 refine W_block (W_loop (fun mm e1 w1=>∃ i:Nat,mm=L.length-i/\i<=L.length/\(∀ k,k<=26->e1 k=e k)/\e1 27 = .int .i64 i/\Shift (-(j:Int)) w w1 (onL (L.take i))) L.length
  ⟨0,by simp,by simp,fun k hk=>by simp only [upd_apply];repeat rw [if_neg (by omega)],by simp only [upd_eq,Nat.reduceEqDiff,↓reduceIte];rfl,(Shift.nil _ w).congr fun y=>by simp [onL]⟩ ?_)
 rintro mm e1 w1 ⟨i,rfl,hi,he,e22,sh⟩
 have e16:e1 16 = .slice (some ⟨sb,so,none⟩) L.length cap:=by rw [he 16 (by omega)];exact h5
 refine W_seq ?_
 by_cases hlt:i<L.length
 ·have t1:=lt_tt i L.length hlt
  refine W_sq fun K hK=>(W_text [true,true,true,true] (by kernel_rfl) ?_);simp only [↓zZ1,↓reduceIte,Nat.reduceEqDiff,rg,ow_60,e16,e22,t1]
  apply hK;clear hK K
  refine W_true (by simp only [zZ2,Nat.reduceEqDiff,↓reduceIte,zZ3]<;>rfl) (W_skip ?_)
  show W _ _ _ _ _ _
  obtain ⟨p,hp⟩:∃ p,L[i]? = some p:=⟨_,List.getElem?_eq_getElem hlt⟩
  have hpm:onL L p.1:=List.mem_map_of_mem (List.mem_of_getElem? hp)
  obtain ⟨k,k1,k2,k3,k4⟩:=hc p.1 hpm
  have hnew:=onL_new hn hp
  have hsub:∀ y,onL (L.take i) y->onL L y:=fun y hy=>by
   unfold onL at hy ⊢
   rw [List.map_take] at hy
   exact List.mem_of_mem_take hy
  have k1':=sh.ext.rd k1 fun g=>hnew g.2
  have hr1:=sh.ext.row hr fun j' _ g=>hsb (hsub _ g.2)
  have s1:=sN_at hr1 hp
  have q1:=wsubI k j k2 (by omega)
  have q2:=wadd1 i (by omega)
  have e25:e1 25 = .int .i64 j:=by rw [he 25 (by omega)];exact h25
  refine W_seq (W_block ?_)
  refine W_rg fun K hK=>(W_text [true,true,true,true,true,true,true,true,true,true,true,true,false] (by kernel_rfl) ?_);simp only [↓zZ1,↓reduceIte,Nat.reduceEqDiff,rg,ow_60,e16,e25,e22,ptr_eq,hlt,s1,k1',q1]
  refine do_store (by simp only [zZ2,Nat.reduceEqDiff,↓reduceIte,zZ3]<;>rfl) (by simp only [zZ2,Nat.reduceEqDiff,↓reduceIte,zZ3]<;>rfl) sz_3 rfl (sh.ext.wok k4) (by decide) (oc_one rfl rfl) fun w2 x2 r2 s2=>⟨by first | exact trivial | exact .inl trivial | exact .inr trivial,?_⟩
  simp only [↓zZ1,↓reduceIte,Nat.reduceEqDiff,rg,ow_60,↓rgm]
  apply hK;clear hK K
  simp only [inBlk_normal,andThen_normal]
  have x2:Ext (rng p.1 1 1) w1 w2:=by first | exact x2 | exact x2.od
  have sh2:=(sh.add hnew k1 x2 (Row.cons.1 r2).1).congr (onL_step hp)
  refine W_rg fun K hK=>(W_text [true,true,true] (by kernel_rfl) ?_);simp only [↓zZ1,↓reduceIte,Nat.reduceEqDiff,rg,ow_60,e22,q2]
  apply hK;clear hK K
  refine ⟨_,?_,i+1,rfl,hlt,fun k hk=>?_,by simp only [upd_eq,Nat.reduceEqDiff,↓reduceIte],sh2⟩
  ·omega
  ·simp only [upd_apply];repeat rw [if_neg (by omega)]
   exact he k hk
 ·obtain rfl:i=L.length:=by omega
  have t1:=lt_ff L.length L.length (Nat.le_refl _)
  refine W_sq fun K hK=>(W_text [true,true,true,true] (by kernel_rfl) ?_);simp only [↓zZ1,↓reduceIte,Nat.reduceEqDiff,rg,ow_60,e16,e22,t1]
  apply hK;clear hK K
  refine W_false (by simp only [zZ2,Nat.reduceEqDiff,↓reduceIte,zZ3]<;>rfl) (W_exit ?_)
  simp only [andThen_exit,inBlk_exit,↓reduceIte]
  refine hK _ _ (fun k hk=>?_) (sh.congr fun y=>by rw [List.take_length])
  simp only [upd_apply];repeat rw [if_neg (by omega)]
  exact he k hk
set_option maxHeartbeats 1600000 in
set_option maxRecDepth 8000 in
theorem cnt_one {Q:Post} {e:Env} {w:World} {L:List (Nat × Nat)} {sb so cap j:Nat} (h5:e 16 = .slice (some ⟨sb,so,none⟩) L.length cap) (hr:Row w sb so (flat Es L)) (hL:L.length<=2147483648) (hn:(L.map Prod.fst).Nodup) (hsb:¬ onL L sb)
  (hc:∀ y,onL L y->∃ k:Nat,rd w y 1=some (.int .i64 k)/\j<=k/\k<=2147483648/\wok w y 4) (hj:j=1)
  (hK:∀ e' w',(∀ k,k<=27->e' k=e k)->Shift (-(j:Int)) w w' (onL L)->Q .normal e' w'):W Try.prog 657 (pc Try.f60 [1,0,1,1,1,1,1,1,1,1,1,1,1,1,1,1,0,0,0,0,1,1,1,1,1,0,0,0,1,0,0,1,1,0,1,1,1,1,0]) Q e w:=by
 refine W_pc rfl ?_
 refine W_seq ?_
 refine W_rg fun K hK=>(W_text [true] (by kernel_rfl) ?_);simp only [↓zZ1,↓reduceIte,Nat.reduceEqDiff,rg,ow_60]
 apply hK;clear hK K
 simp only [andThen_normal]
 refine W_block (W_loop (fun mm e1 w1=>∃ i:Nat,mm=L.length-i/\i<=L.length/\(∀ k,k<=27->e1 k=e k)/\e1 28 = .int .i64 i/\Shift (-(j:Int)) w w1 (onL (L.take i))) L.length
  ⟨0,by simp,by simp,fun k hk=>by simp only [upd_apply];repeat rw [if_neg (by omega)],by simp only [upd_eq,Nat.reduceEqDiff,↓reduceIte];rfl,(Shift.nil _ w).congr fun y=>by simp [onL]⟩ ?_)
 rintro mm e1 w1 ⟨i,rfl,hi,he,e22,sh⟩
 have e16:e1 16 = .slice (some ⟨sb,so,none⟩) L.length cap:=by rw [he 16 (by omega)];exact h5
 refine W_seq ?_
 by_cases hlt:i<L.length
 ·have t1:=lt_tt i L.length hlt
  refine W_sq fun K hK=>(W_text [true,true,true,true] (by kernel_rfl) ?_);simp only [↓zZ1,↓reduceIte,Nat.reduceEqDiff,rg,ow_60,e16,e22,t1]
  apply hK;clear hK K
  refine W_true (by simp only [zZ2,Nat.reduceEqDiff,↓reduceIte,zZ3]<;>rfl) (W_skip ?_)
  show W _ _ _ _ _ _
  obtain ⟨p,hp⟩:∃ p,L[i]? = some p:=⟨_,List.getElem?_eq_getElem hlt⟩
  have hpm:onL L p.1:=List.mem_map_of_mem (List.mem_of_getElem? hp)
  obtain ⟨k,k1,k2,k3,k4⟩:=hc p.1 hpm
  have hnew:=onL_new hn hp
  have hsub:∀ y,onL (L.take i) y->onL L y:=fun y hy=>by
   unfold onL at hy ⊢
   rw [List.map_take] at hy
   exact List.mem_of_mem_take hy
  have k1':=sh.ext.rd k1 fun g=>hnew g.2
  have hr1:=sh.ext.row hr fun j' _ g=>hsb (hsub _ g.2)
  have s1:=sN_at hr1 hp
  have q1:=wsubI k j k2 (by omega)
  have q2:=wadd1 i (by omega)
  subst hj
  have q1:IntKind.i64.wrap ((k:Int)-1)=(k:Int)+(-((1:Nat):Int)):=wsubI k 1 k2 (by omega)
  refine W_seq (W_block ?_)
  refine W_rg fun K hK=>(W_text [true,true,true,true,true,true,true,true,true,true,true,false] (by kernel_rfl) ?_);simp only [↓zZ1,↓reduceIte,Nat.reduceEqDiff,rg,ow_60,e16,e22,ptr_eq,hlt,s1,k1',q1]
  refine do_store (by simp only [zZ2,Nat.reduceEqDiff,↓reduceIte,zZ3]<;>rfl) (by simp only [zZ2,Nat.reduceEqDiff,↓reduceIte,zZ3]<;>rfl) sz_3 rfl (sh.ext.wok k4) (by decide) (oc_one rfl rfl) fun w2 x2 r2 s2=>⟨by first | exact trivial | exact .inl trivial | exact .inr trivial,?_⟩
  simp only [↓zZ1,↓reduceIte,Nat.reduceEqDiff,rg,ow_60,↓rgm]
  apply hK;clear hK K
  simp only [inBlk_normal,andThen_normal]
  have x2:Ext (rng p.1 1 1) w1 w2:=by first | exact x2 | exact x2.od
  have sh2:=(sh.add hnew k1 x2 (Row.cons.1 r2).1).congr (onL_step hp)
  refine W_rg fun K hK=>(W_text [true,true,true] (by kernel_rfl) ?_);simp only [↓zZ1,↓reduceIte,Nat.reduceEqDiff,rg,ow_60,e22,q2]
  apply hK;clear hK K
  refine ⟨_,?_,i+1,rfl,hlt,fun k hk=>?_,by simp only [upd_eq,Nat.reduceEqDiff,↓reduceIte],sh2⟩
  ·omega
  ·simp only [upd_apply];repeat rw [if_neg (by omega)]
   exact he k hk
 ·obtain rfl:i=L.length:=by omega
  have t1:=lt_ff L.length L.length (Nat.le_refl _)
  refine W_sq fun K hK=>(W_text [true,true,true,true] (by kernel_rfl) ?_);simp only [↓zZ1,↓reduceIte,Nat.reduceEqDiff,rg,ow_60,e16,e22,t1]
  apply hK;clear hK K
  refine W_false (by simp only [zZ2,Nat.reduceEqDiff,↓reduceIte,zZ3]<;>rfl) (W_exit ?_)
  simp only [andThen_exit,inBlk_exit,↓reduceIte]
  refine hK _ _ (fun k hk=>?_) (sh.congr fun y=>by rw [List.take_length])
  simp only [upd_apply];repeat rw [if_neg (by omega)]
  exact he k hk
set_option maxHeartbeats 4000000 in
set_option maxRecDepth 8000 in
theorem take_one {Q:Post} {e:Env} {w:World} {b5 b m d i:Nat} {iso cnt:Int} {bi oi cap:Nat} {ks:List It} {ch:Value} (e5:e 5=ptr b5) (e17:e 17=ptr b) (e18:e 18 = .int .i64 i) (x5:rd w b5 0=some (ptr m)) (hc:Cfg w m iso d) (on:Own E w b iso cnt bi oi cap ks ch) (hjn:i<ks.length) (hbig:ks.length<=2147483648)
  (hob:∀ y o,ownF E b bi oi cap y o->y ≠ b5/\y ≠ m)
  (hK:∀ e' w',(∀ k,k<=27->e' k=e k)->Own E w' b iso cnt bi oi cap (ks.eraseIdx i) ch->Ext (seF E b 2 bi oi cap) w w'->W Try.prog 657 (pc Try.f60 [1,0,1,1,1,1,1,1,1,1,1,1,1,1,1,1,0,0,0,0,1,1,1,1,1,0,0,0,1,0,0,1,1,0,1,1,1,1]) Q e' w'):W Try.prog 657 (pc Try.f60 [1,0,1,1,1,1,1,1,1,1,1,1,1,1,1,1,0,0,0,0,1,1,1,1,1,0,0,0,1,0,0,1,1,0,1]) Q e w:=by
 refine W_pc rfl ?_
 have q1:=wadd1 i (by omega)
 have hil:i<ks.length:=hjn
 obtain ⟨o1,h1,h1',-,k1⟩:=on.se.from E_sz i (by omega)
 have hle0:=on.le
 have h1':=h1' (by omega)
 subst h1'
 have i1:i<=ks.length:=by omega
 obtain ⟨o2,h2,-,v2,-⟩:=on.se.from E_sz (i+1) (by omega)
 have i2:i+1<=ks.length:=by omega
 refine W_sq fun K hK=>(W_draw (some none) (some 13) [(0,0,0),(0,1,0),(0,2,0),(0,3,0),(0,4,0),(0,5,0),(0,6,0),(0,7,0),(0,8,0),(0,9,0),(0,10,0),(0,11,0),(0,12,0),(1,13,0)] mixed (by kernel_rfl) ?_);simp only [↓zZ1,↓reduceIte,Nat.reduceEqDiff,rg,ow_60,e17,e18,ptr_eq,on.h2,q1,i1,h1,i2,h2]
 refine do_copy (by simp only [zZ2,Nat.reduceEqDiff,↓reduceIte,zZ3]<;>rfl) (by simp only [zZ2,Nat.reduceEqDiff,↓reduceIte,zZ3]<;>rfl) rb_eli (SlV.ext0 v2 (Ext.dr noF w (w.drawn+1))) ((Ext.dr noF w (w.drawn+1)).wok k1) (flat_oc E _) fun w1 x1 r1 s1=>⟨(by first | exact trivial | exact .inl trivial),?_⟩
 simp only [↓zZ1,↓reduceIte,Nat.reduceEqDiff,rg,ow_60,↓rgm]
 apply hK;clear hK K
 have hm:min (ks.length-(i+1)) (ks.length-i)=ks.length-1-i:=by omega
 rw [hm] at x1 r1
 rw [List.take_of_length_le (by rw [flat_length,List.length_drop,E_sz];omega)] at r1
 obtain ⟨z,g1,G1⟩:=on.se.down (i:=i) hil (by simp only [E_sz];exact x1.od) (by simp only [E_sz];exact r1)
 have on1:=on.step g1 G1
 have hl:=List.length_eraseIdx_of_lt hjn
 have hA:(ks.eraseIdx i++[z]).length=ks.length:=by rw [List.length_append,List.length_singleton];omega
 have h2:=on1.h2
 rw [hA] at h2
 have q2:=wsub1 ks.length (by omega) (by omega)
 have hi:ks.length-1<ks.length:=by omega
 have hsO:∀ y o,seF E b 2 bi oi cap y o->y ≠ b5/\y ≠ m:=fun y o g=>hob y o (seF_own g)
 have x5a:=G1.rd x5 fun g=>(hsO _ _ g).1 rfl
 have z4:=zIt_at (hc.ext G1 fun o _ _ g=>(hsO _ _ g).2 rfl)
 refine W_sq fun K hK=>(W_draw (some none) (some 15) [(0,0,0),(0,1,0),(0,2,0),(0,3,0),(0,4,0),(0,5,0),(0,6,0),(0,7,0),(0,8,0),(0,9,0),(0,10,0),(0,11,0),(0,12,0),(0,13,0),(0,14,0),(1,15,0)] mixed (by kernel_rfl) ?_);simp only [↓zZ1,↓reduceIte,Nat.reduceEqDiff,rg,ow_60,e5,e17,e18,ptr_eq,x5a,h2,q2,hi,z4]
 refine do_store (by simp only [zZ2,Nat.reduceEqDiff,↓reduceIte,zZ3]<;>rfl) (by simp only [zZ2,Nat.reduceEqDiff,↓reduceIte,zZ3]<;>rfl) sz_33 (rb_len zIt) on1.se.wi (by have:=on1.se.le;rw [E_sz];rw [hA] at this;omega) (rb_oc zIt) fun w2 x2 r2 s2=>⟨(by first | exact trivial | exact .inl trivial),?_⟩
 simp only [↓zZ1,↓reduceIte,Nat.reduceEqDiff,rg,ow_60,↓rgm]
 apply hK;clear hK K
 obtain ⟨g2,G2⟩:=on1.se.set (i:=ks.length-1) (x:=zIt) (by rw [hA];omega) (by simp only [E_sz];exact x2.od) (by simp only [E_sz];exact r2)
 have hs:(ks.eraseIdx i++[z]).set (ks.length-1) zIt=ks.eraseIdx i++[zIt]:=by rw [show ks.length-1=(ks.eraseIdx i).length by omega];exact set_last
 rw [hs] at g2
 have on2:=on1.step g2 G2
 have hA2:(ks.eraseIdx i++[zIt]).length=ks.length:=by rw [List.length_append,List.length_singleton];omega
 have h3:=on2.h2
 have h4:=on2.le
 rw [hA2] at h3 h4
 have hi3:ks.length-1<=cap:=by omega
 refine W_sq fun K hK=>(W_draw (some none) (some 14) [(0,0,0),(0,1,0),(0,2,0),(0,3,0),(0,4,0),(0,5,0),(0,6,0),(0,7,0),(0,8,0),(0,9,0),(0,10,0),(0,11,0),(0,12,0),(0,13,0),(1,14,0)] mixed (by kernel_rfl) ?_);simp only [↓zZ1,↓reduceIte,Nat.reduceEqDiff,rg,ow_60,e17,e18,ptr_eq,h3,q2,hi3]
 refine do_store (by simp only [zZ2,Nat.reduceEqDiff,↓reduceIte,zZ3]<;>rfl) (by simp only [zZ2,Nat.reduceEqDiff,↓reduceIte,zZ3]<;>rfl) sz_25 rfl on2.se.hok (by decide) (oc_one rfl rfl) fun w3 x3 r3 s3=>⟨(by first | exact trivial | exact .inl trivial),?_⟩
 simp only [↓zZ1,↓reduceIte,Nat.reduceEqDiff,rg,ow_60,↓rgm]
 apply hK;clear hK K
 obtain ⟨g3,G3⟩:=on2.se.cut x3.od (by rw [show (ks.eraseIdx i).length=ks.length-1 by omega];exact (Row.cons.1 r3).1)
 have on3:=on2.step g3 G3
 have G123:Ext (seF E b 2 bi oi cap) w w3:=(G1.tr G2).tr G3
 refine W_qc (f:=Try.f60) rfl (hK _ _ (fun k hk=>?_) on3 G123)
 simp only [upd_apply];repeat rw [if_neg (by omega)]
set_option maxHeartbeats 8000000 in
set_option maxRecDepth 8000 in
theorem take_branch {Q:Post} {e:Env} {w:World} {b5 b m d i:Nat} {iso cnt:Int} {bi oi cap:Nat} {ks:List It} {bc ba oa capc d1:Nat} {ps:List Nat} (e5:e 5=ptr b5) (e17:e 17=ptr b) (e18:e 18 = .int .i64 i) (x5:rd w b5 0=some (ptr m)) (hc:Cfg w m iso d) (on:Own E w b iso cnt bi oi cap ks (ptr bc)) (hkd:Kids w bc ba oa capc ps) (hjn:i<ks.length) (hps:ps.length=ks.length+1) (hd1:ps[i+1]? = some d1) (hbig:ks.length<=2147483648)
  (hob:∀ y o,ownF E b bi oi cap y o->y ≠ b5/\y ≠ m) (hdis:∀ y o,ownF E b bi oi cap y o->¬ kidF bc ba oa capc y o)
  (hK:∀ e' w',(∀ k,k<=20->e' k=e k)->e' 21=ptr d1->Own E w' b iso cnt bi oi cap (ks.eraseIdx i) (ptr bc)->Kids w' bc ba oa capc (ps.eraseIdx (i+1))->Ext (fun y o=>seF E b 2 bi oi cap y o\/kidF bc ba oa capc y o) w w'->W Try.prog 657 (pc Try.f60 [1,0,1,1,1,1,1,1,1,1,1,1,1,1,1,1,0,0,0,0,1,1,0,1,0,0,1,0,1,1,1,1,1,1,1,1]) Q e' w'):W Try.prog 657 (pc Try.f60 [1,0,1,1,1,1,1,1,1,1,1,1,1,1,1,1,0,0,0,0,1,1,0,1,0,0,1,0,1]) Q e w:=by
 refine W_pc rfl ?_
 have q1:=wadd1 i (by omega)
 have hil:i<ks.length:=hjn
 obtain ⟨o1,h1,h1',-,k1⟩:=on.se.from E_sz i (by omega)
 have hle0:=on.le
 have h1':=h1' (by omega)
 subst h1'
 have i1:i<=ks.length:=by omega
 obtain ⟨o2,h2,-,v2,-⟩:=on.se.from E_sz (i+1) (by omega)
 have i2:i+1<=ks.length:=by omega
 refine W_sq fun K hK=>(W_draw (some none) (some 13) [(0,0,0),(0,1,0),(0,2,0),(0,3,0),(0,4,0),(0,5,0),(0,6,0),(0,7,0),(0,8,0),(0,9,0),(0,10,0),(0,11,0),(0,12,0),(1,13,0)] mixed (by kernel_rfl) ?_);simp only [↓zZ1,↓reduceIte,Nat.reduceEqDiff,rg,ow_60,e17,e18,ptr_eq,on.h2,q1,i1,h1,i2,h2]
 refine do_copy (by simp only [zZ2,Nat.reduceEqDiff,↓reduceIte,zZ3]<;>rfl) (by simp only [zZ2,Nat.reduceEqDiff,↓reduceIte,zZ3]<;>rfl) rb_eli (SlV.ext0 v2 (Ext.dr noF w (w.drawn+1))) ((Ext.dr noF w (w.drawn+1)).wok k1) (flat_oc E _) fun w1 x1 r1 s1=>⟨(by first | exact trivial | exact .inl trivial),?_⟩
 simp only [↓zZ1,↓reduceIte,Nat.reduceEqDiff,rg,ow_60,↓rgm]
 apply hK;clear hK K
 have hm:min (ks.length-(i+1)) (ks.length-i)=ks.length-1-i:=by omega
 rw [hm] at x1 r1
 rw [List.take_of_length_le (by rw [flat_length,List.length_drop,E_sz];omega)] at r1
 obtain ⟨z,g1,G1⟩:=on.se.down (i:=i) hil (by simp only [E_sz];exact x1.od) (by simp only [E_sz];exact r1)
 have on1:=on.step g1 G1
 have hl:=List.length_eraseIdx_of_lt hjn
 have hA:(ks.eraseIdx i++[z]).length=ks.length:=by rw [List.length_append,List.length_singleton];omega
 have h2:=on1.h2
 rw [hA] at h2
 have q2:=wsub1 ks.length (by omega) (by omega)
 have hi:ks.length-1<ks.length:=by omega
 have hsO:∀ y o,seF E b 2 bi oi cap y o->y ≠ b5/\y ≠ m:=fun y o g=>hob y o (seF_own g)
 have x5a:=G1.rd x5 fun g=>(hsO _ _ g).1 rfl
 have z4:=zIt_at (hc.ext G1 fun o _ _ g=>(hsO _ _ g).2 rfl)
 refine W_sq fun K hK=>(W_draw (some none) (some 15) [(0,0,0),(0,1,0),(0,2,0),(0,3,0),(0,4,0),(0,5,0),(0,6,0),(0,7,0),(0,8,0),(0,9,0),(0,10,0),(0,11,0),(0,12,0),(0,13,0),(0,14,0),(1,15,0)] mixed (by kernel_rfl) ?_);simp only [↓zZ1,↓reduceIte,Nat.reduceEqDiff,rg,ow_60,e5,e17,e18,ptr_eq,x5a,h2,q2,hi,z4]
 refine do_store (by simp only [zZ2,Nat.reduceEqDiff,↓reduceIte,zZ3]<;>rfl) (by simp only [zZ2,Nat.reduceEqDiff,↓reduceIte,zZ3]<;>rfl) sz_33 (rb_len zIt) on1.se.wi (by have:=on1.se.le;rw [E_sz];rw [hA] at this;omega) (rb_oc zIt) fun w2 x2 r2 s2=>⟨(by first | exact trivial | exact .inl trivial),?_⟩
 simp only [↓zZ1,↓reduceIte,Nat.reduceEqDiff,rg,ow_60,↓rgm]
 apply hK;clear hK K
 obtain ⟨g2,G2⟩:=on1.se.set (i:=ks.length-1) (x:=zIt) (by rw [hA];omega) (by simp only [E_sz];exact x2.od) (by simp only [E_sz];exact r2)
 have hs:(ks.eraseIdx i++[z]).set (ks.length-1) zIt=ks.eraseIdx i++[zIt]:=by rw [show ks.length-1=(ks.eraseIdx i).length by omega];exact set_last
 rw [hs] at g2
 have on2:=on1.step g2 G2
 have hA2:(ks.eraseIdx i++[zIt]).length=ks.length:=by rw [List.length_append,List.length_singleton];omega
 have h3:=on2.h2
 have h4:=on2.le
 rw [hA2] at h3 h4
 have hi3:ks.length-1<=cap:=by omega
 refine W_sq fun K hK=>(W_draw (some none) (some 14) [(0,0,0),(0,1,0),(0,2,0),(0,3,0),(0,4,0),(0,5,0),(0,6,0),(0,7,0),(0,8,0),(0,9,0),(0,10,0),(0,11,0),(0,12,0),(0,13,0),(1,14,0)] mixed (by kernel_rfl) ?_);simp only [↓zZ1,↓reduceIte,Nat.reduceEqDiff,rg,ow_60,e17,e18,ptr_eq,h3,q2,hi3]
 refine do_store (by simp only [zZ2,Nat.reduceEqDiff,↓reduceIte,zZ3]<;>rfl) (by simp only [zZ2,Nat.reduceEqDiff,↓reduceIte,zZ3]<;>rfl) sz_25 rfl on2.se.hok (by decide) (oc_one rfl rfl) fun w3 x3 r3 s3=>⟨(by first | exact trivial | exact .inl trivial),?_⟩
 simp only [↓zZ1,↓reduceIte,Nat.reduceEqDiff,rg,ow_60,↓rgm]
 apply hK;clear hK K
 obtain ⟨g3,G3⟩:=on2.se.cut x3.od (by rw [show (ks.eraseIdx i).length=ks.length-1 by omega];exact (Row.cons.1 r3).1)
 have on3:=on2.step g3 G3
 have G123:Ext (seF E b 2 bi oi cap) w w3:=(G1.tr G2).tr G3
 have ox:=(hkd.ext G123 fun y o g k=>hdis y o (seF_own k) g).se
 have hd3:rd w3 ba (oa+(i+1))=some (ptr d1):=ox.ptr_at (by rw [List.getElem?_map,hd1];rfl)
 have hil3:i+1<ps.length:=by omega
 have oxd0:=ox.hd
 rw [List.length_map] at oxd0
 refine W_sq fun K hK=>(W_text [true,true,true,true,true,true,true,true,true,true,true] (by kernel_rfl) ?_);simp only [↓zZ1,↓reduceIte,Nat.reduceEqDiff,rg,ow_60,e17,e18,ptr_eq,on3.h3,oxd0,q1,hil3,hd3]
 apply hK;clear hK K
 have hjp:i+1<ps.length:=by omega
 have hpl:(ps.map some).length=ps.length:=List.length_map _
 have q4:IntKind.i64.wrap ((i:Int)+2)=((i+1+1:Nat):Int):=wadd i 2 (by omega)
 have ox0:=ox.le
 have oxd:=ox.hd
 rw [hpl] at ox0 oxd
 obtain ⟨p1,f1,f1',-,m1⟩:=ox.from Eo_sz (i+1) (by omega)
 have f1':=f1' (by omega)
 simp only [Nat.mul_one] at f1'
 subst f1'
 rw [hpl] at f1 m1
 have j1:i+1<=ps.length:=by omega
 obtain ⟨p2,f2,-,v3,-⟩:=ox.from Eo_sz (i+1+1) (by omega)
 rw [hpl] at f2 v3
 have j2:i+1+1<=ps.length:=by omega
 refine W_sq fun K hK=>(W_draw (some none) (some 18) [(0,0,0),(0,1,0),(0,2,0),(0,3,0),(0,4,0),(0,5,0),(0,6,0),(0,7,0),(0,8,0),(0,9,0),(0,10,0),(0,11,0),(0,12,0),(0,13,0),(0,14,0),(0,15,0),(0,16,0),(0,17,0),(1,18,0)] mixed (by kernel_rfl) ?_);simp only [↓zZ1,↓reduceIte,Nat.reduceEqDiff,rg,ow_60,e17,e18,ptr_eq,on3.h3,oxd,q1,q4,j1,f1,j2,f2]
 refine do_copy (by simp only [zZ2,Nat.reduceEqDiff,↓reduceIte,zZ3]<;>rfl) (by simp only [zZ2,Nat.reduceEqDiff,↓reduceIte,zZ3]<;>rfl) rb_elk (SlV.ext0 v3 (Ext.dr noF w3 (w3.drawn+1))) ((Ext.dr noF w3 (w3.drawn+1)).wok m1) (flat_oc Eo _) fun w4 x4 r4 s4=>⟨(by first | exact trivial | exact .inl trivial),?_⟩
 simp only [↓zZ1,↓reduceIte,Nat.reduceEqDiff,rg,ow_60,↓rgm]
 apply hK;clear hK K
 have hm4:min (ps.length-(i+1+1)) (ps.length-(i+1))=ps.length-1-(i+1):=by omega
 rw [hm4] at x4 r4
 rw [List.take_of_length_le (by rw [flat_length,List.length_drop,hpl,Eo_sz];omega)] at r4
 obtain ⟨z5,g4,G4⟩:=ox.down (i:=i+1) (by omega) (by rw [hpl];simpa only [Eo_sz,Nat.mul_one] using x4.od) (by simpa only [Eo_sz,Nat.mul_one] using r4)
 have hl5:((ps.map some).eraseIdx (i+1)).length=ps.length-1:=by rw [List.length_eraseIdx_of_lt (by omega),hpl]
 have hA5:((ps.map some).eraseIdx (i+1)++[z5]).length=ps.length:=by rw [List.length_append,List.length_singleton];omega
 have f3:=g4.hd
 rw [hA5] at f3
 have q5:=wsub1 ps.length (by omega) (by omega)
 have hi5:ps.length-1<ps.length:=by omega
 have hsK:∀ y o,seF Eo bc 0 ba oa capc y o->¬ ownF E b bi oi cap y o:=fun y o g k=>hdis y o k (seF_kid g)
 have on4:=on3.ext G4 fun y o g k=>hsK y o k g
 refine W_sq fun K hK=>(W_draw (some none) (some 15) [(0,0,0),(0,1,0),(0,2,0),(0,3,0),(0,4,0),(0,5,0),(0,6,0),(0,7,0),(0,8,0),(0,9,0),(0,10,0),(0,11,0),(0,12,0),(0,13,0),(0,14,0),(1,15,0)] mixed (by kernel_rfl) ?_);simp only [↓zZ1,↓reduceIte,Nat.reduceEqDiff,rg,ow_60,e17,e18,ptr_eq,on4.h3,f3,q5,hi5]
 refine do_store (by simp only [zZ2,Nat.reduceEqDiff,↓reduceIte,zZ3]<;>rfl) (by simp only [zZ2,Nat.reduceEqDiff,↓reduceIte,zZ3]<;>rfl) sz_96 rfl g4.wi (by have:=g4.le;rw [Eo_sz];rw [hA5] at this;omega) (oc_one rfl rfl) fun w5 x5' r5 s5=>⟨(by first | exact trivial | exact .inl trivial),?_⟩
 simp only [↓zZ1,↓reduceIte,Nat.reduceEqDiff,rg,ow_60,↓rgm]
 apply hK;clear hK K
 obtain ⟨g5,G5⟩:=g4.set (i:=ps.length-1) (x:=none) (by rw [hA5];omega) (by rw [Eo_sz,Nat.mul_one];exact x5'.od) (by rw [Eo_sz,Nat.mul_one];exact r5)
 have hs5:((ps.map some).eraseIdx (i+1)++[z5]).set (ps.length-1) none=(ps.map some).eraseIdx (i+1)++[none]:=by rw [<-hl5];exact set_last
 rw [hs5] at g5
 have on5:=on4.ext G5 fun y o g k=>hsK y o k g
 have hA6:((ps.map some).eraseIdx (i+1)++[none]).length=ps.length:=by rw [List.length_append,List.length_singleton];omega
 have f4:=g5.hd
 have f5:=g5.le
 rw [hA6] at f4 f5
 have hi6:ps.length-1<=capc:=by omega
 refine W_sq fun K hK=>(W_draw (some none) (some 20) [(0,0,0),(0,1,0),(0,2,0),(0,3,0),(0,4,0),(0,5,0),(0,6,0),(0,7,0),(0,8,0),(0,9,0),(0,10,0),(0,11,0),(0,12,0),(0,13,0),(0,14,0),(0,15,0),(0,16,0),(0,17,0),(0,18,0),(0,19,0),(1,20,0)] mixed (by kernel_rfl) ?_);simp only [↓zZ1,↓reduceIte,Nat.reduceEqDiff,rg,ow_60,e17,e18,ptr_eq,on5.h3,f4,q5,hi6]
 refine do_store (by simp only [zZ2,Nat.reduceEqDiff,↓reduceIte,zZ3]<;>rfl) (by simp only [zZ2,Nat.reduceEqDiff,↓reduceIte,zZ3]<;>rfl) sz_166 rfl g5.hok (by decide) (oc_one rfl rfl) fun w6 x6 r6 s6=>⟨(by first | exact trivial | exact .inl trivial),?_⟩
 simp only [↓zZ1,↓reduceIte,Nat.reduceEqDiff,rg,ow_60,↓rgm]
 apply hK;clear hK K
 obtain ⟨g6,G6⟩:=g5.cut x6.od (by rw [hl5];exact (Row.cons.1 r6).1)
 have on6:=on5.ext G6 fun y o g k=>hsK y o k g
 have G456:Ext (seF Eo bc 0 ba oa capc) w3 w6:=(G4.tr G5).tr G6
 have hpe:(ps.map some).eraseIdx (i+1)=(ps.eraseIdx (i+1)).map some:=(map_eraseIdx some ps (i+1)).symm
 rw [hpe] at g6
 refine W_qc (f:=Try.f60) rfl (hK _ _ (fun k hk=>?_) rfl on6 g6.kids ((G123.mono fun y o _ g=>.inl g).tr (G456.mono fun y o _ g=>.inr (seF_kid g))))
 simp only [upd_apply];repeat rw [if_neg (by omega)]
set_option maxHeartbeats 1600000 in
set_option maxRecDepth 8000 in
theorem take_box {Q:Post} {e:Env} {w:World} {b5 b m d i:Nat} {iso cnt:Int} {bi oi cap:Nat} {ks:List It} {k1:It} {ch:Value} (e17:e 17=ptr b) (e18:e 18 = .int .i64 i) (on:Own E w b iso cnt bi oi cap ks ch) (hk1:ks[i]? = some k1)
  (hK:∀ e' w',(∀ k,k<=19->e' k=e k)->e' 20=ptr w.heap.size->Row w' w.heap.size 0 (E.cel k1)->Ext noF w w'->w.heap.size<w'.heap.size->W Try.prog 657 (pc Try.f60 [1,0,1,1,1,1,1,1,1,1,1,1,1,1,1,1,0,0,0,0,1,1,0,1,0,0,1,0,1]) Q e' w'):W Try.prog 657 (pc Try.f60 [1,0,1,1,1,1,1,1,1,1,1,1,1,1,1,1,0,0,0,0,1,1,0,1,0,0,1,0]) Q e w:=by
 refine W_pc rfl ?_
 have hil0:i<ks.length:=(List.getElem?_eq_some_iff.1 hk1).1
 have kv:=it_at on.row hk1
 refine W_sq fun K hK=>(W_text [true,true,true,true,true,true,true,false,false] (by kernel_rfl) ?_);simp only [↓zZ1,↓reduceIte,Nat.reduceEqDiff,rg,ow_60,e17,e18,ptr_eq,on.h2,hil0,kv]
 refine do_alloc z_item fun wa na=>⟨trivial,?_⟩
 simp only [↓zZ1,↓reduceIte,Nat.reduceEqDiff,rg,ow_60]
 refine do_store (v:=itV k1) (by simp only [zZ2,Nat.reduceEqDiff,↓reduceIte,zZ3]<;>rfl) (by simp only [zZ2,Nat.reduceEqDiff,↓reduceIte,zZ3]<;>rfl) sz_33 (rb_len k1) na.wok (by decide) (rb_oc k1) fun wb xb rb sb=>⟨trivial,?_⟩
 simp only [↓zZ1,↓reduceIte,Nat.reduceEqDiff,rg,ow_60]
 apply hK;clear hK K
 have xab:Ext noF w wb:=na.ext.trans xb (fun _ _ g=>g) fun y o hy g=>(by have:=g.1;omega:noF y o)
 have sna:=na.size
 refine W_qc (f:=Try.f60) rfl (hK _ _ (fun k hk=>?_) rfl rb xab (by have:=xb.size;omega))
 simp only [upd_apply];repeat rw [if_neg (by omega)]
variable {c:RgC} {w w':World} {D0:It->Prop} {xs:List It} {F:Nat->Nat->Prop} {q:List Qe} {kb:Option Nat} {sg:Qe->List It} {fp:Qe->Nat->Nat->Prop} {R:List It} {sb:Option Nat} {pv:It}
structure RgC.Ev (c:RgC) (e:Env) (sv:Value):Prop where
 e4:e 4=ptr c.lb
 e5:e 5=ptr c.b5
 e7:e 7=ptr c.b7
 e10:e 10=ptr c.b10
 e11:e 11 = .bool c.ex
 e13:e 13=stopV c.b12 c.b5 c.b7
 e14:e 14=ptr c.b14
 e15:e 15=ptr c.b15
 e16:e 16=sv
theorem RgC.Ev.keep {e e':Env} {sv:Value} (h:c.Ev e sv) (n:Nat) (hn:16<=n) (hk:∀ k,k<=n->e' k=e k):c.Ev e' sv :=
 ⟨by rw [hk _ (by omega)];exact h.e4,by rw [hk _ (by omega)];exact h.e5,by rw [hk _ (by omega)];exact h.e7,by rw [hk _ (by omega)];exact h.e10,by rw [hk _ (by omega)];exact h.e11,by rw [hk _ (by omega)];exact h.e13,by rw [hk _ (by omega)];exact h.e14,by rw [hk _ (by omega)];exact h.e15,by rw [hk _ (by omega)];exact h.e16⟩
theorem RgC.St.notF (h:c.St w D0 xs F q kb sg fp R sb pv) {y o:Nat} (g:lbF c.lb kb y o):¬ F y o:=fun k=>h.apF y o k (g.elim (fun g=>.inr (.inl g)) fun g=>.inr (.inr (.inl g)))
theorem RgC.St.notS (ok:c.Ok) (h:c.St w D0 xs F q kb sg fp R sb pv) {y o:Nat} (g:lbF c.lb kb y o):sb ≠ some y:=fun k=>by
 rcases g with g | g
 ·have:=(h.sbs y k).1
  have:=ok.lbS
  have:=ok.le c.b5 (by simp)
  omega
 ·exact (h.kbs y g).2.2.2.1 k
theorem RgC.St.notAll (ok:c.Ok) (h:c.St w D0 xs F q kb sg fp R sb pv) {y o:Nat} (g:lbF c.lb kb y o):¬ F y o/\y ≠ c.m/\sb ≠ some y :=
 ⟨h.notF g,by
  rcases g with g | g
  ·have:=ok.mlb;omega
  ·have:=(h.kbs y g).1;omega,h.notS ok g⟩
theorem RgC.St.app_call {A S C:List It} {e0:Qe} {Fe:Nat->Nat->Prop} (ok:c.Ok) (hex:c.ex=true) (h:c.St w D0 xs F q kb sg fp (A++e0.1::(S++C)) sb pv)
  (hFe:∀ y o,Fe y o->¬ c.Z kb sb y/\¬ F y o/\c.m<y/\y<w.heap.size/\(c.G0 y o\/c.w0.heap.size<=y)) (hent:Ent c.iso (c.d-1) (2*c.d-1) w e0 S Fe) (hgap:∀ s ∈ S,∀ d,LD Prod.fst sg q d->¬ (c.κ e0.1<c.κ d/\c.κ d<c.κ s))
  (hst:∀ y,y=e0.1\/y ∈ S->stopI c.ord c.mi c.mxi y=false) :
  CallK Try.prog 98 #[ptr c.lb,itV e0.1,nV e0.2] w fun _ w'=>∃ q' kb' sg' fp',c.St w' D0 xs F q' kb' sg' fp' (A++C) sb pv/\Ext (lbF c.lb kb) w w':=by
 have hq:=h.qs.qlen ok
 obtain ⟨cnt,hL⟩:∃ cnt,LiS c.B c.m c.ord c.lb cnt 0 q kb w:=by
  rcases h.qs.li with ⟨_,cnt,g⟩ | ⟨g,_⟩
  ·exact ⟨cnt,g⟩
  ·rw [hex] at g;cases g
 refine CallK_mono (lapp_any c.B c.m c.ord c.lb cnt 0 q kb e0.1 e0.2 w hL (by omega) h.qs.hp fun b hb=>?_) ?_
 ·rcases hent with ⟨g,_⟩ | ⟨b',h',g,htr⟩
  ·rw [g] at hb;cases hb
  ·rw [g] at hb;cases hb
   obtain ⟨bi,oi,cap,ks,ch,ho,_⟩:=htr.open
   exact ⟨fun k=>(hFe _ _ (htr.self 0)).1 (.inr (.inl k)),_,ho.h1⟩
 ·rintro _ w' ⟨cnt',q',kb',hp,hh,L',x,hk⟩
  exact ⟨q',kb',_,_,h.push ok hex (e0:=e0) hp hh L' x hk hFe hent hgap hst,x⟩
theorem sv_keep {sv:Value} {n:Nat} {l:List Value} {G:Nat->Nat->Prop} (h:SlV w 2 sv n l) (x:Ext G w w') (hb:∀ b o n cp,sv = .slice (some ⟨b,o,none⟩) n cp->sb=some b) (hG:∀ y o,G y o->sb ≠ some y):SlV w' 2 sv n l :=
 h.ext x fun b o cp hv i _ g=>hG _ _ g (hb _ _ _ _ hv)
set_option maxHeartbeats 4000000 in
set_option maxRecDepth 8000 in
theorem leafLoop {Q:Post} {e:Env} {b i mb n:Nat} {iso cnt:Int} {bi oi cap:Nat} {ys C:List It} {ch sv:Value} {fl:List Value} (ok:c.Ok) (hE:c.Ev e sv) (e17:e 17=ptr b) (e18:e 18 = .int .i64 i) (e23:e 23 = .int .i64 mb) (e24:e 24 = .bool false) (e25:e 25 = .int .i64 (0:Nat))
  (st:c.St w D0 xs F q kb sg fp (ys.drop i++C) sb pv) (hsl:SlV w 2 sv n fl) (svb:∀ b o n cp,sv = .slice (some ⟨b,o,none⟩) n cp->sb=some b) (on:Own E w b iso cnt bi oi cap ys ch) (hbF:∀ y o,ownF E b bi oi cap y o->F y o) (hmb:i+mb<=ys.length) (hbig:ys.length<=2147483648)
  (hK:∀ e' w' j q' kb' sg' fp' stp,(∀ k,k<=23->e' k=e k)->e' 24 = .bool stp->e' 25 = .int .i64 (j:Nat)->j<=mb->((stp=true/\j<mb/\∀ x,ys[i+j]? = some x->stopI c.ord c.mi c.mxi x=true)\/(stp=false/\j=mb))->(∀ t x,t<j->ys[i+t]? = some x->stopI c.ord c.mi c.mxi x=false) →
   c.St w' D0 xs F q' kb' sg' fp' (ys.drop (i+j)++C) sb pv->Ext (fun y o=>¬ F y o/\y ≠ c.m/\sb ≠ some y) w w'->SlV w' 2 sv n fl->Q .normal e' w'):W Try.prog 657 (pc Try.f60 [1,0,1,1,1,1,1,1,1,1,1,1,1,1,1,1,0,0,0,0,1,1,1,1,0,1,0,1,1,0]) Q e w:=by
 refine W_pc rfl ?_
 refine W_block (W_loop (fun mm e1 w1=>∃ (j:Nat) (q1:List Qe) (kb1:Option Nat) (sg1:Qe->List It) (fp1:Qe->Nat->Nat->Prop),mm=mb-j/\j<=mb/\(∀ k,k<=23->e1 k=e k)/\e1 24 = .bool false/\e1 25 = .int .i64 j/\(∀ t x,t<j->ys[i+t]? = some x->stopI c.ord c.mi c.mxi x=false) ∧
   c.St w1 D0 xs F q1 kb1 sg1 fp1 (ys.drop (i+j)++C) sb pv/\Ext (fun y o=>¬ F y o/\y ≠ c.m/\sb ≠ some y) w w1/\SlV w1 2 sv n fl) mb
  ⟨0,q,kb,sg,fp,by simp,by simp,fun _ _=>rfl,e24,e25,fun t x h=>by omega,st,Ext.refl _ _,hsl⟩ ?_)
 rintro mm e1 w1 ⟨j,q1,kb1,sg1,fp1,rfl,hj,he,f24,f25,hns,st1,X,hsl1⟩
 have hE1:=hE.keep 23 (by omega) he
 have f17:e1 17=ptr b:=by rw [he 17 (by omega)];exact e17
 have f18:e1 18 = .int .i64 i:=by rw [he 18 (by omega)];exact e18
 have f23:e1 23 = .int .i64 mb:=by rw [he 23 (by omega)];exact e23
 refine W_seq ?_
 by_cases hlt:j<mb
 ·have t1:=lt_tt j mb hlt
  refine W_sq fun K hK=>(W_text [true,true,true] (by kernel_rfl) ?_);simp only [↓zZ1,↓reduceIte,Nat.reduceEqDiff,rg,ow_60,f23,f25,t1]
  apply hK;clear hK K
  refine W_true (by simp only [zZ2,Nat.reduceEqDiff,↓reduceIte,zZ3]<;>rfl) (W_skip ?_)
  show W _ _ _ _ _ _
  have on1:=on.ext X fun y o g k=>k.1 (hbF y o g)
  have hil:i+j<ys.length:=by omega
  obtain ⟨x,hx⟩:∃ x,ys[i+j]? = some x:=⟨_,List.getElem?_eq_getElem hil⟩
  have kv:=it_at on1.row hx
  have q1':=wadd i j (by omega)
  have hd:ys.drop (i+j)=x::ys.drop (i+(j+1)):=by rw [List.drop_eq_getElem_cons hil,(List.getElem?_eq_some_iff.1 hx).2];rfl
  refine W_seq (W_block ?_)
  have h2:=on1.h2
  have e13:=hE1.e13
  refine W_sq fun K hK=>(W_text [true,true,true,true,true,true,true,true,true,true,false,true] (by kernel_rfl) ?_);simp only [↓zZ1,↓reduceIte,Nat.reduceEqDiff,rg,ow_60,e13,f17,f18,f25,ptr_eq,h2,q1',hil,kv]
  refine do_callv (first:=#[]) (captured:=#[ptr c.b12,ptr c.b5,ptr c.b7]) (by simp only [evt,upd_eq,Nat.reduceEqDiff,↓reduceIte];first | exact e13 | rfl) fn_stop rfl (by simp only [evt,upd_eq,Nat.reduceEqDiff,↓reduceIte,maT,maC,maN];exact stop_any c.B c.m c.b12 c.b5 c.b7 c.ord c.mi c.mxi x w1 st1.tr.less st1.bx.x12 st1.bx.x5 st1.bx.x7) ?_
  rintro _ w2 ⟨rfl,x2⟩
  refine ⟨trivial,?_⟩
  simp only [↓zZ1,↓reduceIte,Nat.reduceEqDiff,rg,ow_60]
  apply hK;clear hK K
  have st2:=st1.ext0 ok x2
  have hsl2:=hsl1.ext0 x2
  have X2:Ext (fun y o=>¬ F y o/\y ≠ c.m/\sb ≠ some y) w w2:=X.tr (x2.mono fun _ _ _ g=>g.elim)
  have on2:=on.ext X2 fun y o g k=>k.1 (hbF y o g)
  have k2:=it_at on2.row hx
  have h3:=on2.h2
  refine W_seq ?_
  refine W_sq fun K hK=>(W_text [true] (by kernel_rfl) ?_);simp only [↓zZ1,↓reduceIte,Nat.reduceEqDiff,rg,ow_60]
  apply hK;clear hK K
  cases hs:stopI c.ord c.mi c.mxi x with
  | true =>
   refine W_true (by simp only [zZ2,Nat.reduceEqDiff,↓reduceIte,zZ3]<;>rfl) (W_exit ?_)
   simp only [andThen_exit,inBlk_exit,Nat.reduceEqDiff,↓reduceIte]
   refine hK _ _ j q1 kb1 sg1 fp1 true (fun k hk=>?_) rfl f25 hj (.inl ⟨rfl,hlt,fun y hy=>by rw [hx] at hy;cases hy;exact hs⟩) hns st2 X2 hsl2
   simp only [upd_apply];repeat rw [if_neg (by omega)]
   exact he k hk
  | false =>
   refine W_false (by simp only [zZ2,Nat.reduceEqDiff,↓reduceIte,zZ3]<;>rfl) (W_skip ?_)
   show W _ _ _ _ _ _
   have hns':∀ t y,t<j+1->ys[i+t]? = some y->stopI c.ord c.mi c.mxi y=false:=fun t y ht hy=>by
    rcases Nat.lt_or_ge t j with h | h
    ·exact hns t y h hy
    ·obtain rfl:t=j:=by omega
     rw [hx] at hy;cases hy;exact hs
   have q2:=wadd1 j (by omega)
   rw [hd] at st2
   cases hex:c.ex with
   | false =>
    have e11:=hE1.e11
    rw [hex] at e11
    refine W_sq fun K hK=>(W_text [true] (by kernel_rfl) ?_);simp only [↓zZ1,↓reduceIte,Nat.reduceEqDiff,rg,ow_60,e11]
    apply hK;clear hK K
    refine W_false (by simp only [zZ2,Nat.reduceEqDiff,↓reduceIte,zZ3]<;>rfl) (W_skip ?_)
    simp only [inBlk_normal,andThen_normal]
    show W _ _ _ _ _ _
    refine W_rg fun K hK=>(W_text [true,true,true] (by kernel_rfl) ?_);simp only [↓zZ1,↓reduceIte,Nat.reduceEqDiff,rg,ow_60,f25,q2]
    apply hK;clear hK K
    refine ⟨_,?_,j+1,q1,kb1,sg1,fp1,rfl,hlt,fun k hk=>?_,by simp only [upd_eq,Nat.reduceEqDiff,↓reduceIte],by simp only [upd_eq,Nat.reduceEqDiff,↓reduceIte],hns',st2.skip (A:=[]) (S:=[]) hex fun y hy=>?_,X2,hsl2⟩
    ·omega
    ·simp only [upd_apply];repeat rw [if_neg (by omega)]
     exact he k hk
    ·rcases hy with rfl | hy
     ·exact hs
     ·cases hy
   | true =>
    have e11:=hE1.e11
    have e4:=hE1.e4
    rw [hex] at e11
    refine W_sq fun K hK=>(W_text [true] (by kernel_rfl) ?_);simp only [↓zZ1,↓reduceIte,Nat.reduceEqDiff,rg,ow_60,e11]
    apply hK;clear hK K
    refine W_true (by simp only [zZ2,Nat.reduceEqDiff,↓reduceIte,zZ3]<;>rfl) ?_
    have hnv:nV none = .pointer none:=rfl
    refine W_rg fun K hK=>(W_text [true,true,true,true,true,true,true,true,true,true,false] (by kernel_rfl) ?_);simp only [↓zZ1,↓reduceIte,Nat.reduceEqDiff,rg,ow_60,e4,f17,f18,f25,ptr_eq,h3,q1',hil,k2]
    refine do_call fn_98 (vs:=#[ptr c.lb,itV x,nV none]) (by simp only [zZ2,Nat.reduceEqDiff,↓reduceIte,zZ4]<;>rfl) (st2.app_call (A:=[]) (S:=[]) (e0:=(x,none)) (Fe:=noF) ok hex (fun _ _ g=>g.elim) (.inl ⟨rfl,rfl⟩) (fun s hs=>by cases hs) fun y hy=>?_) ?_
    ·rcases hy with rfl | hy
     ·exact hs
     ·cases hy
    rintro _ w3 ⟨q2',kb2,sg2,fp2,st3,x3⟩
    refine ⟨trivial,?_⟩
    simp only [↓zZ1,↓reduceIte,Nat.reduceEqDiff,rg,ow_60]
    apply hK;clear hK K
    simp only [inBlk_normal,andThen_normal]
    show W _ _ _ _ _ _
    refine W_rg fun K hK=>(W_text [true,true,true] (by kernel_rfl) ?_);simp only [↓zZ1,↓reduceIte,Nat.reduceEqDiff,rg,ow_60,f25,q2]
    apply hK;clear hK K
    refine ⟨_,?_,j+1,q2',kb2,sg2,fp2,rfl,hlt,fun k hk=>?_,by simp only [upd_eq,Nat.reduceEqDiff,↓reduceIte],by simp only [upd_eq,Nat.reduceEqDiff,↓reduceIte],hns',st3,X2.tr (x3.mono fun y o _ g=>st2.notAll ok g),sv_keep hsl2 x3 svb fun y o g=>st2.notS ok g⟩
    ·omega
    ·simp only [upd_apply];repeat rw [if_neg (by omega)]
     exact he k hk
 ·obtain rfl:j=mb:=by omega
  have t1:=lt_ff j j (Nat.le_refl _)
  refine W_sq fun K hK=>(W_text [true,true,true] (by kernel_rfl) ?_);simp only [↓zZ1,↓reduceIte,Nat.reduceEqDiff,rg,ow_60,f23,f25,t1]
  apply hK;clear hK K
  refine W_false (by simp only [zZ2,Nat.reduceEqDiff,↓reduceIte,zZ3]<;>rfl) (W_exit ?_)
  simp only [andThen_exit,inBlk_exit,↓reduceIte]
  refine hK _ _ j q1 kb1 sg1 fp1 false (fun k hk=>?_) f24 f25 hj (.inr ⟨rfl,rfl⟩) hns st1 X hsl1
  simp only [upd_apply];repeat rw [if_neg (by omega)]
  exact he k hk
end Go.Proofs.Ytbnnkcofnmipoaa
