/- Texts in one. No condition. -/
import Derived.Orders
import Derived.Tactics
import Derived.Laws.Sem
import Derived.Stop.Asserts
import Derived.Laws.World
import Derived.Laws.StructEq
import Derived.WalkSpells
import Derived.Laws.Append
import Derived.IntWalk
import Derived.WalkKit
import Derived.ProofKit
import Derived.OpenShut
import Derived.JoinedOf
import Derived.Carry
import Derived.ChangeSame
import Derived.Deep.SlicePairs
import Derived.ScopeJumps
set_option linter.unusedVariables false
set_option linter.unusedSimpArgs false
namespace Go.Proofs.Ytbnnkcofnmipoaa
open Go
abbrev Env:=Nat->Value
def upd (e:Env) (d:Nat) (v:Value):Env:=fun t=>if t=d then v else e t
def updO (e:Env):Option Nat->Value->Env
 | none,_=>e
 | some d,v=>upd e d v
def ev (e:Env):Operand->Value
 | .tmp t=>e t
 | .const v=>v
 | .global g=>.pointer (some ⟨g,0,none⟩)
 | .func f=>.func (.func f) #[] #[]
theorem upd_apply (e:Env) (d:Nat) (v:Value) (t:Nat):upd e d v t=if t=d then v else e t:=rfl
structure Fr (n:Nat) (e:Env) (a:Act):Prop where
 defers:a.defers=[]
 size:a.tmps.size=n
 get:∀ t,a.tmps.getD t undef=e t
theorem Fr.eval {n:Nat} {e:Env} {a:Act} (h:Fr n e a):a.eval=ev e:=by
 funext x;cases x with
 | tmp t=>exact h.get t
 | _=>rfl
theorem Fr.put {n:Nat} {e:Env} {a:Act} (h:Fr n e a) {d:Option Nat} (hd:∀ t,d=some t->t<n) (v:Value):Fr n (updO e d v) (a.put d v):=by
 cases d with
 | none=>exact h
 | some d =>
  have hdn:=hd d rfl
  refine ⟨h.defers,by simp [Act.put,h.size],fun t=>?_⟩
  have hs:d<a.tmps.size:=by rw [h.size];exact hdn
  show (a.tmps.setIfInBounds d v).getD t undef=if t=d then v else e t
  by_cases ht:t=d
  ·subst ht;simp [hs]
  ·rw [if_neg ht,<-h.get t]
   simp [Array.getElem?_setIfInBounds_ne (Ne.symm ht)]
abbrev Post:=Exit->Env->World->Prop
def okX:Exit->Prop
 | .panic _=>False
 | .outgrown=>False
 | _=>True
def lift (n:Nat) (Q:Post):Exit->Act->World->Prop:=fun x a w=>∃ e,Fr n e a/\okX x/\Q x e w
def W (P:Program) (n:Nat) (c:Code) (Q:Post) (e:Env) (w:World):Prop:=∀ a,Fr n e a->c.wp P (lift n Q) a w
def andThen (K:Env->World->Prop) (Q:Post):Post
 | .normal,e,w=>K e w
 | x,e,w=>Q x e w
def inBlk (id:Nat) (Q:Post):Post
 | .exit i,e,w=>if i=id then Q .normal e w else Q (.exit i) e w
 | x,e,w=>Q x e w
theorem andThen_normal (K:Env->World->Prop) (Q:Post) (e:Env) (w:World):andThen K Q .normal e w=K e w:=rfl
theorem andThen_ret (K:Env->World->Prop) (Q:Post) (e:Env) (w:World):andThen K Q .ret e w=Q .ret e w:=rfl
theorem andThen_exit (K:Env->World->Prop) (Q:Post) (i:Nat) (e:Env) (w:World):andThen K Q (.exit i) e w=Q (.exit i) e w:=rfl
theorem andThen_goto (K:Env->World->Prop) (Q:Post) (i:Nat) (e:Env) (w:World):andThen K Q (.goto i) e w=Q (.goto i) e w:=rfl
theorem inBlk_ret (id:Nat) (Q:Post) (e:Env) (w:World):inBlk id Q .ret e w=Q .ret e w:=rfl
theorem inBlk_exit (id i:Nat) (Q:Post) (e:Env) (w:World):inBlk id Q (.exit i) e w=if i=id then Q .normal e w else Q (.exit i) e w:=rfl
section
variable {P:Program} {n:Nat} {Q:Post} {e:Env} {w:World}
theorem W.mono {c:Code} {Q':Post} (h:W P n c Q e w) (hq:∀ x e w,Q x e w->Q' x e w):W P n c Q' e w :=
 fun a ha=>wp_mono (h a ha) fun _ _ _ ⟨e',h1,hx,h2⟩=>⟨e',h1,hx,hq _ _ _ h2⟩
theorem W_seq {x y:Code} (h:W P n x (andThen (W P n y Q) Q) e w):W P n (.seq x y) Q e w:=fun a ha =>
 wp_seq (wp_mono (h a ha) fun ex a' w' ⟨e',h1,hx,h2⟩=>by
  cases ex with
  | normal=>exact h2 a' h1
  | _=>exact ⟨e',h1,hx,h2⟩)
theorem W_skip (h:Q .normal e w):W P n .skip Q e w:=fun _ ha=>wp_skip ⟨e,ha,trivial,h⟩
theorem W_label {l:Nat} (h:Q .normal e w):W P n (.label l) Q e w:=fun _ ha=>wp_label ⟨e,ha,trivial,h⟩
theorem W_exit {id:Nat} (h:Q (.exit id) e w):W P n (.exit id) Q e w:=fun _ ha=>wp_exit ⟨e,ha,trivial,h⟩
theorem W_goto {l:Nat} (h:Q (.goto l) e w):W P n (.goto l) Q e w:=fun _ ha=>wp_goto ⟨e,ha,trivial,h⟩
theorem W_ret (h:Q .ret e w):W P n .ret Q e w:=fun _ ha=>wp_ret ⟨e,ha,trivial,h⟩
theorem W_cond {c:Operand} {x y:Code} {t:Bool} (hc:ev e c = .bool t) (h:W P n (if t then x else y) Q e w):W P n (.cond c x y) Q e w :=
 fun a ha=>wp_cond (by rw [ha.eval];exact hc) (h a ha)
theorem W_true {c:Operand} {x y:Code} (hc:ev e c = .bool true) (h:W P n x Q e w):W P n (.cond c x y) Q e w:=W_cond hc h
theorem W_false {c:Operand} {x y:Code} (hc:ev e c = .bool false) (h:W P n y Q e w):W P n (.cond c x y) Q e w:=W_cond hc h
theorem W_block {id:Nat} {c:Code} (h:W P n c (inBlk id Q) e w):W P n (.block id c) Q e w:=fun a ha =>
 wp_block (wp_mono (h a ha) fun ex a' w' ⟨e',h1,hx,h2⟩=>by
  cases ex with
  | exit i =>
   show if i=id then lift n Q .normal a' w' else lift n Q (.exit i) a' w'
   have h2':if i=id then Q .normal e' w' else Q (.exit i) e' w':=h2
   split
   ·rename_i hi;rw [if_pos hi] at h2';exact ⟨e',h1,trivial,h2'⟩
   ·rename_i hi;rw [if_neg hi] at h2';exact ⟨e',h1,trivial,h2'⟩
  | _=>exact ⟨e',h1,hx,h2⟩)
theorem W_loop {c:Code} (I:Nat->Env->World->Prop) (m:Nat) (h0:I m e w)
  (round:∀ k e w,I k e w->W P n c (andThen (fun e' w'=>∃ k',k'<k/\I k' e' w') Q) e w):W P n (.loop c) Q e w:=by
 intro a ha b k cs
 have key:∀ m e w,I m e w->∀ a,Fr n e a →
   ∃ ex a' w',lift n Q ex a' w'/\Arrives P (lone (b.at a (.code c :: .inLoop c::k)) cs w) b k cs ex a' w':=by
  intro m
  induction m using Nat.strongRecOn with
  | _ m ih =>
   intro e w hI a ha
   obtain ⟨ex,a1,w1,⟨e1,hf1,hx,hq⟩,harr⟩:=round m e w hI a ha b (.inLoop c::k) cs
   cases ex with
   | normal =>
    obtain ⟨k',hk',hI'⟩:=hq
    obtain ⟨e2,a2,w2,hq2,harr2⟩:=ih k' hk' e1 w1 hI' a1 hf1
    exact ⟨e2,a2,w2,hq2,.of_steps (Steps.trans harr (.one step_inLoop)) harr2⟩
   | exit id=>exact ⟨_,a1,w1,⟨e1,hf1,hx,hq⟩,.pass (x:=.inLoop c) rfl (fun _ _=>.inl (by simp)) harr⟩
   | goto l=>exact ⟨_,a1,w1,⟨e1,hf1,hx,hq⟩,.pass (x:=.inLoop c) rfl (fun _ _=>.inl (by simp)) harr⟩
   | ret=>exact ⟨_,a1,w1,⟨e1,hf1,hx,hq⟩,.pass (x:=.inLoop c) rfl (fun _ _=>.inl (by simp)) harr⟩
   | panic ch=>exact ⟨_,a1,w1,⟨e1,hf1,hx,hq⟩,.pass (x:=.inLoop c) rfl (fun _ _=>.inl (by simp)) harr⟩
   | outgrown=>exact ⟨_,a1,w1,⟨e1,hf1,hx,hq⟩,.pass (x:=.inLoop c) rfl (fun _ _=>.inl (by simp)) harr⟩
 obtain ⟨ex,a',w',hq,harr⟩:=key m e w h0 a ha
 exact ⟨ex,a',w',hq,.of_steps (.one step_loop) harr⟩
def nrm (K:Env->World->Prop):Post
 | .normal,e,w=>K e w
 | _,_,_=>False
theorem nrm_normal (K:Env->World->Prop) (e:Env) (w:World):nrm K .normal e w=K e w:=id (Eq.trans rfl rfl)
theorem W_sq {x y:Code} (h:∀ K:Env->World->Prop,(∀ e w,W P n y Q e w->K e w)->W P n x (nrm K) e w):W P n (.seq x y) Q e w :=
 W_seq ((h _ fun _ _ h=>h).mono fun ex _ _ hh=>by cases ex<;>first | exact hh | exact hh.elim)
theorem W_rg {x:Code} (h:∀ K:Env->World->Prop,(∀ e w,Q .normal e w->K e w)->W P n x (nrm K) e w):W P n x Q e w :=
 (h _ fun _ _ h=>h).mono fun ex _ _ hh=>by cases ex<;>first | exact hh | exact hh.elim
end
end Go.Proofs.Ytbnnkcofnmipoaa
namespace Go.Proofs.Ytbnnkcofnmipoaa
open Go
def fOff (P:Program) (T f:Nat):Option Nat :=
 match P.underlying T with
 | some (.struct fs)=>match fs[f]? with
  | some fd=>match P.info? fd.type with
   | some i=>if i.size=0 then none else some fd.offset
   | none=>none
  | none=>none
 | _=>none
def bocAll (P:Program):Bool:=(List.range P.types.size).all fun T=>(List.range (P.cellsOf T)).all fun k=>(byteOfCell P P.depth T k).isSome
def tyOk (P:Program) (w:World) (b:Nat):Bool:=match w.heap[b]? with
 | some (.cells _ T _)=>decide (T<P.types.size)
 | _=>false
def fZero (P:Program) (T f:Nat):Bool :=
 match P.underlying T with
 | some (.struct fs)=>match fs[f]? with
  | some fd=>match P.info? fd.type with
   | some i=>i.size == 0 && fd.offset == 0 && fd.byteOffset == 0 && bocAll P
   | none=>false
  | none=>false
 | _=>false
def ldK (P:Program) (T:Nat):Option (Option Nat) :=
 match P.underlying T with
 | some (.struct _)=>(P.info? T).map fun i=>some i.size
 | some (.array _ _)=>(P.info? T).map fun i=>some i.size
 | some _=>some none
 | none=>none
def slK (P:Program) (T:Nat):Option Nat :=
 match P.underlying T with
 | some (.slice E)=>(P.info? E).map fun i=>i.size
 | _=>none
def arK (P:Program) (T:Nat):Option (Nat × Nat) :=
 match P.underlying T with
 | some (.array n E)=>(P.info? E).map fun i=>(n,i.size)
 | _=>none
def ptK (P:Program) (T:Nat):Bool :=
 match P.underlying T with
 | some (.pointer _)=>true
 | _=>false
def cvK (P:Program) (S T:Nat):Option IntKind :=
 match P.underlying S,P.underlying T with
 | some _,some (.int k)=>some k
 | _,_=>none
def coK (P:Program) (T:Nat):Bool :=
 match P.underlying T with
 | some (.interface _)=>false
 | some _=>true
 | none=>false
def fldK (P:Program) (T f:Nat):Option (Nat × Option Nat) :=
 match P.underlying T with
 | some (.struct fs)=>match fs[f]? with
  | some fd=>(ldK P fd.type).map fun k=>(fd.offset,k)
  | none=>none
 | _=>none
def cellsFrom (w:World) (a:Addr) (i:Nat):Nat->Option (List Value)
 | 0=>some []
 | n+1=>match w.cell? (a.add i) with
  | some v=>(cellsFrom w a (i+1) n).map (v :: ·)
  | none=>none
def loadV (w:World) (a:Addr):Option Nat->Option Value
 | none=>w.cell? a
 | some n=>(cellsFrom w a 0 n).map fun l=>.agg l.toArray
theorem cell?_of_heap {w w':World} {a:Addr} (h:w'.heap[a.block]? = w.heap[a.block]?):w'.cell? a=w.cell? a:=by
 simp only [World.cell?,h]
theorem add_block (a:Addr) (i:Nat):(a.add i).block=a.block:=by unfold Addr.add;split<;>rfl
theorem cellsFrom_of_heap {w w':World} {a:Addr} (h:w'.heap[a.block]? = w.heap[a.block]?):∀ n i,cellsFrom w' a i n=cellsFrom w a i n
 | 0,_=>rfl
 | n+1,i=>by
  simp only [cellsFrom,cellsFrom_of_heap h n (i+1)]
  rw [cell?_of_heap (a:=a.add i) (w:=w) (w':=w') (by rw [add_block];exact h)]
theorem loadV_of_heap {w w':World} {a:Addr} (h:w'.heap[a.block]? = w.heap[a.block]?) (k:Option Nat):loadV w' a k=loadV w a k:=by
 cases k with
 | none=>exact cell?_of_heap h
 | some n=>simp only [loadV,cellsFrom_of_heap h]
theorem run_loadCellsFrom (P:Program) (w:World) (a:Addr):∀ (n i:Nat) (acc:Array Value) (l:List Value),cellsFrom w a i n=some l →
  (loadCellsFrom a i n acc).run P w = .ok (acc++l.toArray) w
 | 0,i,acc,l,h=>by simp [cellsFrom] at h;subst h;simp [loadCellsFrom]
 | n+1,i,acc,l,h=>by
  simp only [cellsFrom] at h
  cases hc:w.cell? (a.add i) with
  | none=>simp [hc] at h
  | some v =>
   simp only [hc] at h
   cases hr:cellsFrom w a (i+1) n with
   | none=>simp [hr] at h
   | some r =>
    simp [hr] at h
    subst h
    simp only [loadCellsFrom,Sem.run_bind,run_load,hc,Result.andThen_ok,run_loadCellsFrom P w a n (i+1) (acc.push v) r hr]
    simp
theorem run_loadCells {P:Program} {w:World} {a:Addr} {n:Nat} {l:List Value} (h:cellsFrom w a 0 n=some l):(loadCells a n).run P w = .ok l.toArray w:=by
 simp [loadCells,run_loadCellsFrom P w a n 0 #[] l h]
theorem run_loadVar {P:Program} {w:World} {a:Addr} {T:Nat} {k:Option Nat} {v:Value} (hk:ldK P T=some k) (h:loadV w a k=some v) :
  (loadVar T a).run P w = .ok v w:=by
 unfold ldK at hk
 cases hu:P.underlying T with
 | none=>simp [hu] at hk
 | some d =>
  cases hi:P.info? T with
  | none=>simp [Program.underlying,hi] at hu
  | some i =>
   cases k with
   | none =>
    have hd:isAgg T=(do match ← underlying T with | .struct _ | .array _ _=>pure true | _=>pure false):=rfl
    cases d<;>simp [hu,hi] at hk<;>simp only [loadV] at h<;>simp [loadVar,isAgg,underlying,hu,h]
   | some n =>
    simp only [loadV,Option.map_eq_some_iff] at h
    obtain ⟨l,hl,rfl⟩:=h
    cases d<;>simp [hu,hi] at hk<;>subst hk<;>simp [loadVar,isAgg,underlying,hu,sizeOf,typeInfo,hi,run_loadCells hl]
abbrev Hold:=Option (Option (List Nat))
def readsB:Hold->Nat->Bool
 | some (some L),b=>L.contains b
 | _,_=>true
def keeps:Hold->World->World->Prop
 | none,w,w'=>w'=w
 | some none,w,w'=>w'.heap=w.heap
 | some (some L),w,w'=>∀ b ∈ L,w'.heap[b]? = w.heap[b]?
theorem keeps_reads {H:Hold} {w w':World} (h:keeps H w w') {b:Nat} (hb:readsB H b=true):w'.heap[b]? = w.heap[b]?:=by
 match H,h,hb with
 | none,h,_=>rw [show w'=w from h]
 | some none,h,_=>rw [show w'.heap=w.heap from h]
 | some (some L),h,hb=>exact h b (by simpa [readsB] using hb)
theorem keeps_refl (H:Hold) (w:World):keeps H w w:=by
 match H with
 | none=>rfl
 | some none=>rfl
 | some (some _)=>exact fun _ _=>rfl
def prtV (P:Program) (t:Nat) (cs:Array Value) (o:Nat):Option Value :=
 match P.underlying t with
 | some (.struct _)=>(P.info? t).map fun i=>.agg (cs.extract o (o+i.size))
 | some (.array _ _)=>(P.info? t).map fun i=>.agg (cs.extract o (o+i.size))
 | some _=>cs[o]?
 | none=>none
def eqFs (P:Program) (rec:Nat->Value->Value->Option Bool) (xs ys:Array Value):List Field->Option Bool
 | []=>some true
 | f::fs=>if f.name = "_" then eqFs P rec xs ys fs else
  match prtV P f.type xs f.offset,prtV P f.type ys f.offset with
  | some a,some b=>match rec f.type a b,eqFs P rec xs ys fs with
   | some r,some q=>some (r && q)
   | _,_=>none
  | _,_=>none
def eqV (P:Program):Nat->Nat->Value->Value->Option Bool
 | 0,_,_,_=>none
 | d+1,t,x,y=>match P.underlying t,x,y with
  | some .bool,.bool a,.bool b=>some (a == b)
  | some (.int _),.int k a,.int k' b=>if k=k' then some (a == b) else none
  | some .string,.string a,.string b=>some (a.toList == b.toList)
  | some (.struct fs),.agg xs,.agg ys=>if P.stoodInHeld t=true then none else eqFs P (eqV P d) xs ys fs.toList
  | some (.slice _),.slice a _ _,.slice none 0 0=>some a.isNone
  | some (.interface _),.nilIface,.nilIface=>some true
  | some (.interface _),.iface _ _,.nilIface=>some false
  | some (.func ..),.nilFunc,.nilFunc=>some true
  | some (.func ..),.func ..,.nilFunc=>some false
  | _,_,_=>none
def eqG (P:Program) (op:BinOp) (T:Nat) (x y:Value):Option Value :=
 match op with
 | .eql=>(eqV P 10000 T x y).map .bool
 | .neq=>(eqV P 10000 T x y).map fun r=>.bool (!r)
 | _=>none
def emI (P:Program) (T:Nat):Bool :=
 match P.underlying T with
 | some (.interface ms)=>ms.isEmpty
 | _=>false
def binV (P:Program) (op:BinOp) (T:Nat):Value->Value->Option Value
 | .int k a,.int k' b =>
  if k=k' then match op with
   | .add=>some (.int k (k.wrap (a+b)))
   | .sub=>some (.int k (k.wrap (a-b)))
   | .mul=>some (.int k (k.wrap (a*b)))
   | .quo=>if b=0 then none else some (.int k (k.wrap (a.tdiv b)))
   | .rem=>if b=0 then none else some (.int k (a.tmod b))
   | .eql=>some (.bool (a == b))
   | .neq=>some (.bool (a != b))
   | .lss=>some (.bool (decide (a<b)))
   | .leq=>some (.bool (decide (a<=b)))
   | .gtr=>some (.bool (decide (a > b)))
   | .geq=>some (.bool (decide (a ≥ b)))
   | .shr=>if b<0 then none else some (.int k (a.fdiv (2 ^ min b.toNat k.bits)))
   | _=>none
  else none
 | .string a,.string b=>match op with
   | .eql=>some (.bool (a.toList == b.toList))
   | .neq=>some (.bool (!(a.toList == b.toList)))
   | .lss=>some (.bool (Op.bytesLess a.toList b.toList))
   | .gtr=>some (.bool (!(Op.bytesLess a.toList b.toList || a.toList == b.toList)))
   | .leq=>some (.bool (Op.bytesLess a.toList b.toList || a.toList == b.toList))
   | _=>none
 | .pointer a,.pointer none=>if ptK P T=true then match op with
   | .eql=>some (.bool a.isNone)
   | .neq=>some (.bool (!a.isNone))
   | _=>none
  else none
 | .bool a,.bool b=>eqG P op T (.bool a) (.bool b)
 | .agg a,.agg b=>if P.eqGuardType P.depth T=true then none else eqG P op T (.agg a) (.agg b)
 | .slice a n c,.slice none 0 0=>eqG P op T (.slice a n c) (.slice none 0 0)
 | .iface t v,.nilIface=>eqG P op T (.iface t v) .nilIface
 | .func f a b,.nilFunc=>eqG P op T (.func f a b) .nilFunc
 | .nilFunc,.nilFunc=>eqG P op T .nilFunc .nilFunc
 | .nilIface,.nilIface=>if emI P T=true then eqG P op T .nilIface .nilIface else none
 | _,_=>none
def boundV (x:Value) (y:Nat):Option Nat :=
 match x with
 | .int _ i=>if 0<=i/\i<=y then some i.toNat else none
 | _=>none
def optV (x:Option Value) (d y:Nat):Option Nat :=
 match x with
 | some v=>boundV v y
 | none=>some d
def slAV (P:Program) (T:Nat) (a:Addr) (lo hi mx:Option Value):Option Value :=
 match arK P T with
 | some (n,_)=>match lo,hi,mx with
  | none,some v,none=>match boundV v n with
   | some h=>some (.slice (some a) h n)
   | none=>none
  | _,_,_=>none
 | none=>none
def sliceV (P:Program) (T:Nat) (x:Value) (lo hi mx:Option Value):Option Value :=
 match x with
 | .pointer (some a)=>slAV P T a lo hi mx
 | _=>match x,slK P T with
  | .slice a len cap,some sz =>
   match optV mx cap cap with
   | none=>none
   | some m=>match (if mx.isSome && hi.isNone then none else optV hi len m) with
    | none=>none
    | some h=>match optV lo 0 h with
     | none=>none
     | some l=>some (.slice (if m=l then a else a.map (·.add (l*sz))) (h-l) (m-l))
  | _,_=>none
def idxV (P:Program) (T:Nat) (x i:Value):Option Value :=
 match x,i with
 | .slice (some a) len _,.int _ i=>match slK P T with
  | some sz=>if 0<=i/\i<len then some (.pointer (some (a.add (i.toNat*sz)))) else none
  | none=>none
 | .pointer (some a),.int _ i=>match arK P T with
  | some (n,sz)=>if 0<=i/\i<n then some (.pointer (some (a.add (i.toNat*sz)))) else none
  | none=>none
 | _,_=>none
def ixV (P:Program) (T:Nat) (x i:Value):Option Value :=
 match x,i with
 | .string s,.int _ i=>if P.underlying T matches some .string then (match (if 0<=i then s[i.toNat]? else none) with
  | some b=>some (.int .u8 b.toNat)
  | none=>none) else none
 | _,_=>none
def partV (cs:Array Value) (o:Nat):Option Nat->Option Value
 | none=>cs[o]?
 | some n=>some (.agg (cs.extract o (o+n)))
def fldV (P:Program) (T:Nat) (x:Value) (f:Nat):Option Value :=
 match x,fldK P T f with
 | .agg cs,some (o,k)=>partV cs o k
 | _,_=>none
def buildV (P:Program) (T:Nat) (parts:List (Nat × Value)):Option Value :=
 match (P.info? T).bind (·.zero),P.underlying T with
 | some z,some (.struct fs) =>
  if fs.all fun f=>(P.info? f.type).isSome then
   (Instr.fill (fun i=>(fs[i]?).map fun f=>(f.offset,P.cellsOf f.type)) z.cells parts).map .agg
  else none
 | _,_=>none
def lenV (P:Program) (T:Nat):Value->Option Value
 | .slice _ n _=>if (slK P T).isSome then some (.int .i64 n) else none
 | .string s=>if P.underlying T matches some .string then some (.int .i64 s.size) else none
 | _=>none
def capV (P:Program) (T:Nat):Value->Option Value
 | .slice _ _ n=>if (slK P T).isSome then some (.int .i64 n) else none
 | _=>none
def laK (P:Program) (t T:Nat):Option Value :=
 match P.underlying T with
 | some (.interface want)=>if (P.info? t).map (fun i=>(lacking want i.methods).isEmpty)=some false then (P.info? T).bind (·.zero) else none
 | _=>none
def nzK (P:Program) (T:Nat):Option Value :=
 match P.underlying T with
 | some (.interface _)=>(P.info? T).bind (·.zero)
 | _=>none
def tasV (P:Program) (x:Value) (T:Nat) (ok:Bool):Option Value :=
 match x with
 | .nilIface=>if ok=true then (nzK P T).map fun z=>.tuple #[z,.bool false] else none
 | .iface t v=>if coK P T=true/\t=T then some (if ok then .tuple #[v,.bool true] else v) else if ok=true then (laK P t T).map fun z=>.tuple #[z,.bool false] else none
 | _=>none
def pickG (c a b:Value):Option Value :=
 match c with
 | .bool t=>some (if t then a else b)
 | _=>none
def ldG (P:Program) (H:Hold) (w:World) (T:Nat) (x:Value):Option Value :=
 match x,ldK P T with
 | .pointer (some a),some k=>if readsB H a.block=true then loadV w a k else none
 | _,_=>none
def nilG (x:Value):Option Value :=
 match x with
 | .pointer (some a)=>some (.pointer (some a))
 | .func (.func f) a b=>some (.func (.func f) a b)
 | _=>none
def notG (x:Value):Option Value :=
 match x with
 | .bool b=>some (.bool (!b))
 | _=>none
def cvG (k:Option IntKind) (x:Value):Option Value :=
 match x,k with
 | .int _ n,some k=>some (.int k (k.wrap n))
 | _,_=>none
def foG (o:Option Nat) (x:Value):Option Value :=
 match x,o with
 | .pointer (some a),some o=>some (.pointer (some (a.add o)))
 | _,_=>none
def fzG (P:Program) (H:Hold) (w:World) (z:Bool) (x:Value):Option Value :=
 match z,x with
 | true,.pointer (some ⟨b,o,none⟩)=>if readsB H b=true then (if tyOk P w b=true then some (.pointer (some ⟨b,o,none⟩)) else none) else none
 | _,_=>none
def foZ (P:Program) (H:Hold) (w:World) (k:Option Nat) (T f:Nat) (x:Value):Option Value :=
 match k with
 | some o=>foG (some o) x
 | none=>fzG P H w (fZero P T f) x
def exG (x:Value) (i:Nat):Option Value :=
 match x with
 | .tuple vs=>vs[i]?
 | _=>none
def tkOp (P:Program) (H:Hold) (e:Env) (w:World):Op->Option Value
 | .move x=>some (ev e x)
 | .assign x=>some (ev e x)
 | .pick c a b=>pickG (ev e c) (ev e a) (ev e b)
 | .load T x=>ldG P H w T (ev e x)
 | .nilCheck x=>nilG (ev e x)
 | .binOp op T x y _=>binV P op T (ev e x) (ev e y)
 | .unOp .not _ x=>notG (ev e x)
 | .convert src dst x=>cvG (cvK P src dst) (ev e x)
 | .makeFunc fn first captured=>some (.func fn (first.map (ev e)) (captured.map (ev e)))
 | .slice T x lo hi mx=>sliceV P T (ev e x) (lo.map (ev e)) (hi.map (ev e)) (mx.map (ev e))
 | .fieldAddr T x f=>foZ P H w (fOff P T f) T f (ev e x)
 | .field T x f=>fldV P T (ev e x) f
 | .indexAddr T x i=>idxV P T (ev e x) (ev e i)
 | .index T x i=>ixV P T (ev e x) (ev e i)
 | .build T parts=>buildV P T (parts.toList.map fun p=>(p.1,ev e p.2))
 | .extract x i=>exG (ev e x) i
 | .makeInterface T x=>if coK P T=true then some (.iface T (ev e x)) else none
 | .typeAssert x _ T ok=>tasV P (ev e x) T ok
 | .call ⟨.builtin .len,#[x],#[T]⟩=>lenV P T (ev e x)
 | .call ⟨.builtin .cap,#[x],#[T]⟩=>capV P T (ev e x)
 | _=>none
section
variable (P:Program) (H:Hold) (e:Env) (w:World)
theorem tk_move (x:Operand):tkOp P H e w (.move x)=some (ev e x):=id (Eq.trans rfl rfl)
theorem tk_assign (x:Operand):tkOp P H e w (.assign x)=some (ev e x):=id (Eq.trans rfl rfl)
theorem tk_pick (c a b:Operand):tkOp P H e w (.pick c a b)=pickG (ev e c) (ev e a) (ev e b):=id (Eq.trans rfl rfl)
theorem tk_load (T:Nat) (x:Operand):tkOp P H e w (.load T x)=ldG P H w T (ev e x):=id (Eq.trans rfl rfl)
theorem tk_nil (x:Operand):tkOp P H e w (.nilCheck x)=nilG (ev e x):=id (Eq.trans rfl rfl)
theorem tk_bin (op:BinOp) (T U:Nat) (x y:Operand):tkOp P H e w (.binOp op T x y U)=binV P op T (ev e x) (ev e y):=id (Eq.trans rfl rfl)
theorem tk_not (T:Nat) (x:Operand):tkOp P H e w (.unOp .not T x)=notG (ev e x):=id (Eq.trans rfl rfl)
theorem tk_conv (S T:Nat) (x:Operand):tkOp P H e w (.convert S T x)=cvG (cvK P S T) (ev e x):=id (Eq.trans rfl rfl)
theorem tk_mkf (fn:Fn) (a b:Array Operand):tkOp P H e w (.makeFunc fn a b)=some (.func fn (a.map (ev e)) (b.map (ev e))):=id (Eq.trans rfl rfl)
theorem tk_slice (T:Nat) (x:Operand) (lo hi mx:Option Operand):tkOp P H e w (.slice T x lo hi mx)=sliceV P T (ev e x) (lo.map (ev e)) (hi.map (ev e)) (mx.map (ev e)):=id (Eq.trans rfl rfl)
theorem tk_fo (T f:Nat) (x:Operand):tkOp P H e w (.fieldAddr T x f)=foZ P H w (fOff P T f) T f (ev e x):=id (Eq.trans rfl rfl)
theorem tk_fld (T f:Nat) (x:Operand):tkOp P H e w (.field T x f)=fldV P T (ev e x) f:=id (Eq.trans rfl rfl)
theorem tk_idx (T:Nat) (x i:Operand):tkOp P H e w (.indexAddr T x i)=idxV P T (ev e x) (ev e i):=id (Eq.trans rfl rfl)
theorem tk_build (T:Nat) (parts:List (Nat × Operand)):tkOp P H e w (.build T parts.toArray)=buildV P T (parts.map fun p=>(p.1,ev e p.2)):=id (Eq.trans rfl rfl)
theorem tk_ext (x:Operand) (i:Nat):tkOp P H e w (.extract x i)=exG (ev e x) i:=id (Eq.trans rfl rfl)
theorem tk_tas (T U:Nat) (x:Operand) (ok:Bool):tkOp P H e w (.typeAssert x U T ok)=tasV P (ev e x) T ok:=id (Eq.trans rfl rfl)
theorem tk_len (T:Nat) (x:Operand):tkOp P H e w (.call ⟨.builtin .len,#[x],#[T]⟩)=lenV P T (ev e x):=id (Eq.trans rfl rfl)
theorem tk_cap (T:Nat) (x:Operand):tkOp P H e w (.call ⟨.builtin .cap,#[x],#[T]⟩)=capV P T (ev e x):=id (Eq.trans rfl rfl)
end
section
variable {P:Program} {H:Hold} {e:Env} {w w':World}
theorem run_underlying' {T:Nat} {d:TypeDesc} (h:P.underlying T=some d) (w:World):(underlying T).run P w = .ok d w:=by simp [underlying,h]
theorem guard_int (op:BinOp) (T:Nat) (x y:Operand) (k k':IntKind) (a b:Int) (s:Sem Value) (w:World) :
  (do eqGuard op T x y (.int k a) (.int k' b);s:Sem Value).run P w=s.run P w:=by cases op<;>simp [eqGuard]
theorem guard_string (op:BinOp) (T:Nat) (x y:Operand) (a b:ByteArray) (s:Sem Value) (w:World) :
  (do eqGuard op T x y (.string a) (.string b);s:Sem Value).run P w=s.run P w:=by cases op<;>simp [eqGuard]
theorem guard_pointer (op:BinOp) (T:Nat) (x y:Operand) (a b:Option Addr) (s:Sem Value) (w:World) :
  (do eqGuard op T x y (.pointer a) (.pointer b);s:Sem Value).run P w=s.run P w:=by cases op<;>simp [eqGuard]
theorem run_binV_int {op:BinOp} {T:Nat} {k k':IntKind} {a b:Int} {v:Value} (h:binV P op T (.int k a) (.int k' b)=some v) (w:World) :
  (binOp op T (.int k a) (.int k' b)).run P w = .ok v w:=by
 simp only [binV] at h
 split at h
 ·rename_i hk
  subst hk
  cases op
  case add=>simp at h;subst h;simp [binOp,Op.intArith]
  case sub=>simp at h;subst h;simp [binOp,Op.intArith]
  case mul=>simp at h;subst h;simp [binOp,Op.intArith]
  case quo=>simp at h;obtain ⟨hb,rfl⟩:=h;simp [binOp,Op.intDiv,hb]
  case rem=>simp at h;obtain ⟨hb,rfl⟩:=h;simp [binOp,Op.intDiv,hb]
  case eql=>simp at h;subst h;simp [binOp,Op.intCmp]
  case neq=>simp at h;subst h;simp [binOp,Op.intCmp]
  case lss=>simp at h;subst h;simp [binOp,Op.intCmp]
  case leq=>simp at h;subst h;simp [binOp,Op.intCmp]
  case gtr=>simp at h;subst h;simp [binOp,Op.intCmp]
  case geq=>simp at h;subst h;simp [binOp,Op.intCmp]
  case shr=>simp at h;obtain ⟨hb,rfl⟩:=h;(have hb':¬ b<0:=by omega);simp [binOp,Op.shift,hb']
  all_goals simp at h
 ·simp at h
theorem run_binV_string {op:BinOp} {T:Nat} {a b:ByteArray} {v:Value} (h:binV P op T (.string a) (.string b)=some v) (w:World) :
  (binOp op T (.string a) (.string b)).run P w = .ok v w:=by
 simp only [binV] at h
 cases op
 case eql=>simp at h;subst h;simp [binOp,Op.stringOp]
 case neq=>simp at h;subst h;simp [binOp,Op.stringOp]
 case lss=>simp at h;subst h;simp [binOp,Op.stringOp]
 case gtr=>simp at h;subst h;simp [binOp,Op.stringOp]
 case leq=>simp at h;subst h;simp [binOp,Op.stringOp]
 all_goals simp at h
theorem run_equalIn_nil (d:Nat) {T E:Nat} (hu:P.underlying T=some (.pointer E)) (a:Option Addr) (w:World):(Op.equalIn (d+1) T (.pointer a) (.pointer none)).run P w = .ok a.isNone w:=by
 cases a<;>simp only [Op.equalIn,Sem.run_bind,run_underlying' hu,Result.andThen_ok]<;>rfl
theorem run_equal_nil {T E:Nat} (hu:P.underlying T=some (.pointer E)) (a:Option Addr) (w:World):(Op.equal T (.pointer a) (.pointer none)).run P w = .ok a.isNone w :=
 run_equalIn_nil 9999 hu a w
theorem binOp_eql_ptr (T:Nat) (a:Option Addr):binOp .eql T (.pointer a) (.pointer none)=(do pure (.bool (← Op.equal T (.pointer a) (.pointer none)))):=by cases a<;>rfl
theorem binOp_neq_ptr (T:Nat) (a:Option Addr):binOp .neq T (.pointer a) (.pointer none)=(do pure (.bool (!(← Op.equal T (.pointer a) (.pointer none))))):=by cases a<;>rfl
theorem run_binV_pointer {op:BinOp} {T:Nat} {a b:Option Addr} {v:Value} (h:binV P op T (.pointer a) (.pointer b)=some v) (w:World) :
  (binOp op T (.pointer a) (.pointer b)).run P w = .ok v w:=by
 cases b with
 | some b=>simp [binV] at h
 | none =>
  simp only [binV,ptK] at h
  cases hu:P.underlying T with
  | none=>simp [hu] at h
  | some d =>
   cases d with
   | pointer E =>
    simp [hu] at h
    cases op
    case eql=>simp at h;subst h;simp [binOp_eql_ptr,run_equal_nil hu]
    case neq=>simp at h;subst h;simp [binOp_neq_ptr,run_equal_nil hu]
    all_goals simp at h
   | _=>simp [hu] at h
theorem run_prtV {t o:Nat} {cs:Array Value} {v:Value} (h:prtV P t cs o=some v) (w:World):(part t cs o).run P w = .ok v w:=by
 unfold prtV at h
 cases hu:P.underlying t with
 | none=>simp [hu] at h
 | some d =>
  have hs:∀ i,P.info? t=some i->(sizeOf t).run P w = .ok i.size w:=fun i hi=>by simp [sizeOf,typeInfo,hi]
  cases d with
  | struct fs =>
   simp only [hu,Option.map_eq_some_iff] at h
   obtain ⟨i,hi,rfl⟩:=h
   simp [part,isAgg,run_underlying' hu,hs i hi]
  | array n E =>
   simp only [hu,Option.map_eq_some_iff] at h
   obtain ⟨i,hi,rfl⟩:=h
   simp [part,isAgg,run_underlying' hu,hs i hi]
  | _=>simp only [hu] at h;simp [part,isAgg,run_underlying' hu,h]
theorem run_eqFs {d:Nat} (ih:∀ (t:Nat) (x y:Value) (r:Bool),eqV P d t x y=some r->∀ w,(Op.equalIn d t x y).run P w = .ok r w) (xs ys:Array Value) :
  ∀ (fs:List Field) (r:Bool),eqFs P (eqV P d) xs ys fs=some r->∀ w,(Op.eqFields d xs ys fs).run P w = .ok r w
 | [],r,h,w=>by simp [eqFs] at h;subst h;simp [Op.eqFields]
 | f::fs,r,h,w=>by
  unfold eqFs at h
  unfold Op.eqFields
  by_cases hn:f.name = "_"
  ·simp only [hn,if_true] at h
   simp only [hn,ne_eq,not_true_eq_false,if_false]
   exact run_eqFs ih xs ys fs r h w
  ·simp only [hn,if_false] at h
   simp only [hn,ne_eq,not_false_eq_true,if_true]
   split at h
   ·rename_i a b ha hb
    split at h
    ·rename_i q s hq hs
     simp only [Option.some.injEq] at h
     subst h
     simp only [Sem.run_bind,run_prtV ha,run_prtV hb,ih _ _ _ _ hq,Result.andThen_ok]
     cases q with
     | false=>simp
     | true=>simp [run_eqFs ih xs ys fs s hs w]
    ·cases h
   ·cases h
theorem run_eqV:∀ (d t:Nat) (x y:Value) (r:Bool),eqV P d t x y=some r->∀ w,(Op.equalIn d t x y).run P w = .ok r w
 | 0,_,_,_,_,h,_=>by simp [eqV] at h
 | d+1,t,x,y,r,h,w=>by
  unfold eqV at h
  split at h
  ·rename_i a b hu;simp at h;subst h;exact run_equalIn_bool w d t _ _ hu
  ·rename_i k' k a k2 b hu
   split at h
   ·rename_i hk;subst hk;simp at h;subst h;exact run_equalIn_int w d t _ _ _ _ hu
   ·cases h
  ·rename_i a b hu;simp at h;subst h;exact run_equalIn_string w d t _ _ hu
  ·rename_i fs xs ys hu
   split at h
   ·cases h
   ·rename_i hst
    have hf:P.fieldsOf t=fs:=by simp [Program.fieldsOf,hu]
    rw [run_equalIn_struct w d t xs ys (by rw [hf];exact hu) (by simpa using hst),hf]
    exact run_eqFs (fun t x y r h w=>run_eqV d t x y r h w) xs ys _ r h w
  ·rename_i E a n c hu
   simp at h;subst h
   cases a<;>simp only [Op.equalIn,Sem.run_bind,run_underlying' hu,Result.andThen_ok]<;>rfl
  ·rename_i ms hu;simp at h;subst h;simp only [Op.equalIn,Sem.run_bind,run_underlying' hu,Result.andThen_ok];rfl
  ·rename_i ms u v hu;simp at h;subst h;simp only [Op.equalIn,Sem.run_bind,run_underlying' hu,Result.andThen_ok];rfl
  ·rename_i hu;simp at h;subst h;simp only [Op.equalIn,Sem.run_bind,run_underlying' hu,Result.andThen_ok];rfl
  ·rename_i hu;simp at h;subst h;simp only [Op.equalIn,Sem.run_bind,run_underlying' hu,Result.andThen_ok];rfl
  ·cases h
theorem run_eqG {op:BinOp} {T:Nat} {x y:Value} {v:Value} (he:binOp .eql T x y=(do pure (.bool (← Op.equal T x y)))) (hn:binOp .neq T x y=(do pure (.bool (!(← Op.equal T x y)))))
  (h:eqG P op T x y=some v) (w:World):(binOp op T x y).run P w = .ok v w:=by
 unfold eqG at h
 cases op
 case eql =>
  simp only [Option.map_eq_some_iff] at h
  obtain ⟨r,hr,rfl⟩:=h
  rw [he]
  simp [Op.equal,Op.maxDepth,run_eqV 10000 T x y r hr w]
 case neq =>
  simp only [Option.map_eq_some_iff] at h
  obtain ⟨r,hr,rfl⟩:=h
  rw [hn]
  simp [Op.equal,Op.maxDepth,run_eqV 10000 T x y r hr w]
 all_goals simp at h
theorem run_binV {op:BinOp} {T:Nat} {x y:Operand} {v:Value} (h:binV P op T (ev e x) (ev e y)=some v) (w:World) :
  (do eqGuard op T x y (ev e x) (ev e y);binOp op T (ev e x) (ev e y):Sem Value).run P w = .ok v w:=by
 generalize ev e x=a at h ⊢
 generalize ev e y=b at h ⊢
 cases a with
 | int k a=>cases b with
  | int k' b=>rw [guard_int];exact run_binV_int h w
  | _=>simp [binV] at h
 | string a=>cases b with
  | string b=>rw [guard_string];exact run_binV_string h w
  | _=>simp [binV] at h
 | pointer a=>cases b with
  | pointer b=>rw [guard_pointer];exact run_binV_pointer h w
  | _=>simp [binV] at h
 | bool a=>cases b with
  | bool b =>
   have hg:(eqGuard op T x y (.bool a) (.bool b)).run P w = .ok () w:=by cases op<;>simp [eqGuard]
   simp only [Sem.run_bind,hg,Result.andThen_ok]
   exact run_eqG rfl rfl h w
  | _=>simp [binV] at h
 | agg a=>cases b with
  | agg b =>
   simp only [binV] at h
   split at h
   ·cases h
   ·rename_i hm
    simp only [Sem.run_bind,run_eqGuard_agg w op T x y a b (by simpa using hm),Result.andThen_ok]
    exact run_eqG rfl rfl h w
  | _=>simp [binV] at h
 | slice a n c=>cases b with
  | slice a2 n2 c2 =>
   obtain ⟨rfl,rfl,rfl⟩:a2=none/\n2=0/\c2=0:=by
    cases a2 with
    | some _=>simp [binV] at h
    | none =>
     cases n2 with
     | succ _=>simp [binV] at h
     | zero =>
      cases c2 with
      | succ _=>simp [binV] at h
      | zero=>exact ⟨rfl,rfl,rfl⟩
   have hg:(eqGuard op T x y (.slice a n c) (.slice none 0 0)).run P w = .ok () w:=by cases op<;>simp [eqGuard]
   simp only [Sem.run_bind,hg,Result.andThen_ok]
   exact run_eqG rfl rfl h w
  | _=>simp [binV] at h
 | iface t u=>cases b with
  | nilIface =>
   have hg:(eqGuard op T x y (.iface t u) .nilIface).run P w = .ok () w:=by cases op<;>simp [eqGuard]
   simp only [Sem.run_bind,hg,Result.andThen_ok]
   exact run_eqG rfl rfl h w
  | _=>simp [binV] at h
 | func f c d=>cases b with
  | nilFunc =>
   have hg:(eqGuard op T x y (.func f c d) .nilFunc).run P w = .ok () w:=by cases op<;>simp [eqGuard]
   simp only [Sem.run_bind,hg,Result.andThen_ok]
   exact run_eqG rfl rfl h w
  | _=>simp [binV] at h
 | nilFunc=>cases b with
  | nilFunc =>
   have hg:(eqGuard op T x y .nilFunc .nilFunc).run P w = .ok () w:=by cases op<;>simp [eqGuard]
   simp only [Sem.run_bind,hg,Result.andThen_ok]
   exact run_eqG rfl rfl h w
  | _=>simp [binV] at h
 | nilIface=>cases b with
  | nilIface =>
   simp only [binV] at h
   split at h
   ·rename_i he
    have hgi:(Op.eqGuardIn Op.maxDepth T .nilIface .nilIface).run P w = .ok false w:=by
     have key:∀ d,(Op.eqGuardIn (d+1) T .nilIface .nilIface).run P w = .ok false w:=fun d=>by
      unfold emI at he
      cases hu:P.underlying T with
      | none=>simp [hu] at he
      | some u =>
       cases u with
       | interface ms =>
        simp only [hu] at he
        simp [Op.eqGuardIn,run_underlying' hu,he]
       | _=>simp [hu] at he
     have hd:Op.maxDepth=(Op.maxDepth-1)+1:=by decide
     rw [hd];exact key _
    have hg:(eqGuard op T x y .nilIface .nilIface).run P w = .ok () w:=by cases op<;>simp [eqGuard,hgi]
    simp only [Sem.run_bind,hg,Result.andThen_ok]
    exact run_eqG rfl rfl h w
   ·cases h
  | _=>simp [binV] at h
 | _=>simp [binV] at h
theorem run_boundV {x:Value} {y n:Nat} {c:BoundsCode} (h:boundV x y=some n) (w:World):(Instr.sliceBound x y c).run P w = .ok n w:=by
 unfold boundV at h
 cases x with
 | int k i =>
  simp only at h
  split at h
  ·rename_i hc
   simp at h;subst h
   simp [Instr.sliceBound,asIntOf,hc]
  ·simp at h
 | _=>simp at h
theorem run_sliceV {T:Nat} {x:Value} {lo hi mx:Option Value} {v:Value} (h:sliceV P T x lo hi mx=some v) (w:World) :
  (Instr.sliceAt T x lo hi mx).run P w = .ok v w:=by
 unfold sliceV at h
 cases x with
 | slice a len cap =>
  simp only [slK] at h
  cases hu:P.underlying T with
  | none=>simp [hu] at h
  | some d =>
   cases d with
   | slice E =>
    cases hi':P.info? E with
    | none=>simp [hu,hi'] at h
    | some i =>
     simp only [hu,hi',Option.map_some] at h
     split at h
     ·simp at h
     ·rename_i m hm
      split at h
      ·simp at h
      ·rename_i hh hhi
       split at h
       ·simp at h
       ·rename_i l hl
        simp at h
        subst h
        have hb:(Instr.sliceBounds true len cap lo hi mx).run P w = .ok (l,hh,m) w:=by
         cases mx with
         | none =>
          simp [optV] at hm;subst hm
          simp at hhi
          cases hi with
          | none =>
           simp [optV] at hhi;subst hhi
           cases lo with
           | none=>simp [optV] at hl;subst hl;simp [Instr.sliceBounds]
           | some lo=>simp only [optV] at hl;simp [Instr.sliceBounds,run_boundV hl]
          | some hi =>
           simp only [optV] at hhi
           cases lo with
           | none=>simp [optV] at hl;subst hl;simp [Instr.sliceBounds,run_boundV hhi]
           | some lo=>simp only [optV] at hl;simp [Instr.sliceBounds,run_boundV hl,run_boundV hhi]
         | some mx =>
          simp only [optV] at hm
          cases hi with
          | none=>simp at hhi
          | some hi =>
           simp [optV] at hhi
           cases lo with
           | none=>simp [optV] at hl;subst hl;simp [Instr.sliceBounds,run_boundV hm,run_boundV hhi]
           | some lo=>simp only [optV] at hl;simp [Instr.sliceBounds,run_boundV hm,run_boundV hl,run_boundV hhi]
        simp [Instr.sliceAt,Instr.slice,run_underlying' hu,hb,sizeOf,typeInfo,hi']
   | _=>simp [hu] at h
 | pointer a =>
  cases a with
  | none=>simp at h
  | some a =>
   simp only [slAV,arK] at h
   cases hu:P.underlying T with
   | none=>simp [hu] at h
   | some d =>
    cases d with
    | array n E =>
     cases hi':P.info? E with
     | none=>simp [hu,hi'] at h
     | some i =>
      simp only [hu,hi',Option.map_some] at h
      cases lo with
      | some lo=>simp at h
      | none =>
      cases hi with
      | none=>simp at h
      | some hi =>
      cases mx with
      | some mx=>simp at h
      | none =>
       simp only at h
       split at h
       ·rename_i hh hb
        simp at h;subst h
        have h0:a.add 0=a:=by cases a;rfl
        simp [Instr.sliceAt,Instr.sureAddr,Instr.sliceBounds,run_boundV hb,h0,run_underlying' hu,sizeOf,typeInfo,hi']
       ·simp at h
    | _=>simp [hu] at h
 | _=>simp at h
theorem run_idxV {T:Nat} {x i:Value} {v:Value} (h:idxV P T x i=some v) (w:World):(Instr.indexAt T x i).run P w = .ok v w:=by
 unfold idxV at h
 cases x with
 | slice a len cap =>
  cases a with
  | none=>simp at h
  | some a =>
   cases i with
   | int k i =>
    simp only [slK] at h
    cases hu:P.underlying T with
    | none=>simp [hu] at h
    | some d =>
     cases d with
     | slice E =>
      cases hi':P.info? E with
      | none=>simp [hu,hi'] at h
      | some inf =>
       simp only [hu,hi',Option.map_some] at h
       split at h
       ·rename_i hc
        simp at h;subst h
        simp [Instr.indexAt,asIntOf,run_underlying' hu,hc,sizeOf,typeInfo,hi']
       ·simp at h
     | _=>simp [hu] at h
   | _=>simp at h
 | pointer a =>
  cases a with
  | none=>simp at h
  | some a =>
   cases i with
   | int k i =>
    simp only [arK] at h
    cases hu:P.underlying T with
    | none=>simp [hu] at h
    | some d =>
     cases d with
     | array n E =>
      cases hi':P.info? E with
      | none=>simp [hu,hi'] at h
      | some inf =>
       simp only [hu,hi',Option.map_some] at h
       split at h
       ·rename_i hc
        simp at h;subst h
        simp [Instr.indexAt,Instr.sureAddr,asIntOf,run_underlying' hu,hc,sizeOf,typeInfo,hi']
       ·simp at h
     | _=>simp [hu] at h
   | _=>simp at h
 | _=>cases i<;>simp at h
theorem run_part {T:Nat} {k:Option Nat} {cs:Array Value} {o:Nat} {v:Value} (hk:ldK P T=some k)
  (h:partV cs o k=some v) (w:World):(part T cs o).run P w = .ok v w:=by
 unfold ldK at hk
 cases hu:P.underlying T with
 | none=>simp [hu] at hk
 | some d =>
  cases hi:P.info? T with
  | none=>simp [Program.underlying,hi] at hu
  | some i =>
   cases k with
   | none=>cases d<;>simp [hu,hi] at hk<;>simp only [partV] at h<;>simp [part,isAgg,underlying,hu,h]
   | some n =>
    simp [partV] at h;subst h
    cases d<;>simp [hu,hi] at hk<;>subst hk<;>simp [part,isAgg,underlying,hu,sizeOf,typeInfo,hi]
theorem run_ixV {T:Nat} {x i:Value} {v:Value} (h:ixV P T x i=some v) (w:World):(Instr.index T x i).run P w = .ok v w:=by
 unfold ixV at h
 cases x with
 | string s =>
  cases i with
  | int k i =>
   cases hu:P.underlying T with
   | none=>simp [hu] at h
   | some d =>
    cases d with
    | string =>
     simp only [hu,if_true] at h
     cases hb:(if 0<=i then s[i.toNat]? else none) with
     | none=>simp [hb] at h
     | some b =>
      simp only [hb,Option.some.injEq] at h
      subst h
      simp [Instr.index,asIntOf,run_underlying' hu,hb]
    | _=>simp [hu] at h
  | _=>simp at h
 | _=>simp at h
theorem run_fldV {T f:Nat} {x v:Value} (h:fldV P T x f=some v) (w:World):(Instr.field T x f).run P w = .ok v w:=by
 unfold fldV at h
 cases x with
 | agg cs =>
  cases hf:fldK P T f with
  | none=>simp [hf] at h
  | some p =>
   obtain ⟨o,k⟩:=p
   unfold fldK at hf
   cases hu:P.underlying T with
   | none=>simp [hu] at hf
   | some d =>
    cases d with
    | struct fs =>
     simp only [hu] at hf
     cases hfd:fs[f]? with
     | none=>simp [hfd] at hf
     | some fd =>
      simp [hfd] at hf
      obtain ⟨hk',rfl⟩:=hf
      have h':partV cs fd.offset k=some v:=by simpa [fldK,hu,hfd,hk'] using h
      simp [Instr.field,run_underlying' hu,hfd,asAgg,run_part hk' h']
    | _=>simp [hu] at hf
 | _=>simp at h
theorem run_lenV {T:Nat} {x v:Value} {ty:Nat} (h:lenV P T x=some v) (w:World):(Builtin.len_ #[T] ty #[x]).run P w = .ok v w:=by
 unfold lenV at h
 cases x with
 | slice a n c =>
  simp only [slK] at h
  cases hu:P.underlying T with
  | none=>simp [hu] at h
  | some d =>
   cases d with
   | slice E=>simp [hu] at h;obtain ⟨_,rfl⟩:=h;simp [Builtin.len_,run_underlying' hu,goInt]
   | _=>simp [hu] at h
 | string s =>
  cases hu:P.underlying T with
  | none=>simp [hu] at h
  | some d =>
   cases d with
   | string=>simp [hu] at h;subst h;simp [Builtin.len_,run_underlying' hu,goInt]
   | _=>simp [hu] at h
 | _=>simp at h
theorem run_capV {T:Nat} {x v:Value} {ty:Nat} (h:capV P T x=some v) (w:World):(Builtin.cap_ #[T] ty #[x]).run P w = .ok v w:=by
 unfold capV at h
 cases x with
 | slice a n c =>
  simp only [slK] at h
  cases hu:P.underlying T with
  | none=>simp [hu] at h
  | some d =>
   cases d with
   | slice E=>simp [hu] at h;obtain ⟨_,rfl⟩:=h;simp [Builtin.cap_,run_underlying' hu,goInt]
   | _=>simp [hu] at h
 | _=>simp at h
theorem run_tasV {x v:Value} {xT T:Nat} {ok:Bool} (h:tasV P x T ok=some v) (w:World):(Instr.typeAssert x xT T ok).run P w = .ok v w:=by
 unfold tasV at h
 cases x with
 | iface t y =>
  simp only at h
  split at h
  ·rename_i hc
   simp only [coK] at hc
   cases hu:P.underlying T with
   | none=>simp [hu] at hc
   | some d =>
    cases d<;>simp [hu] at hc<;>simp at h<;>subst h<;>subst hc<;>simp [Instr.typeAssert,run_underlying' hu]<;>rfl
  ·split at h
   ·rename_i hok
    subst hok
    unfold laK at h
    cases hu:P.underlying T with
    | none=>simp [hu] at h
    | some d =>
     cases d with
     | interface want =>
      simp only [hu] at h
      split at h
      ·rename_i hl
       simp only [Option.map_eq_some_iff] at h
       obtain ⟨z,hz,rfl⟩:=h
       refine run_typeAssert_lacksB hu hl ?_ y xT w
       cases hi:P.info? T with
       | none=>simp [hi] at hz
       | some i=>simp [hi] at hz;simp [hz]
      ·simp at h
     | _=>simp [hu] at h
   ·simp at h
 | nilIface =>
  simp only at h
  split at h
  ·rename_i hok
   subst hok
   unfold nzK at h
   cases hu:P.underlying T with
   | none=>simp [hu] at h
   | some d =>
    cases d with
    | interface want =>
     simp only [hu,Option.map_eq_some_iff] at h
     obtain ⟨z,hz,rfl⟩:=h
     cases hi:P.info? T with
     | none=>simp [hi] at hz
     | some i =>
      simp [hi] at hz
      simp [Instr.typeAssert,run_underlying' hu,zeroValue,typeInfo,hi,hz]
    | _=>simp [hu] at h
  ·simp at h
 | _=>simp at h
theorem run_sizeOf {T:Nat} {i:TypeInfo} (hi:P.info? T=some i) (w:World):(sizeOf T).run P w = .ok i.size w:=by simp [sizeOf,typeInfo,hi]
theorem run_places {fs:List Field} (h:∀ f ∈ fs,(P.info? f.type).isSome=true) (w:World) :
  (fs.mapM (m:=Sem) fun f=>Prod.mk f.offset <$> sizeOf f.type).run P w = .ok (fs.map fun f=>(f.offset,P.cellsOf f.type)) w:=by
 induction fs with
 | nil=>simp
 | cons f fs ih =>
  have h1:=h f (by simp)
  obtain ⟨i,hi⟩:=Option.isSome_iff_exists.1 h1
  have ih':=ih fun g hg=>h g (by simp [hg])
  have hc:P.cellsOf f.type=i.size:=by simp [Program.cellsOf,hi]
  simp only [List.mapM_cons,Sem.run_bind,Sem.run_map,run_sizeOf hi,ih',Result.andThen_ok,Sem.run_pure,List.map_cons,hc]
theorem run_buildV {T:Nat} {parts:Array (Nat × Value)} {v:Value} (h:buildV P T parts.toList=some v) (w:World):(Instr.build T parts).run P w = .ok v w:=by
 unfold buildV at h
 cases hi:P.info? T with
 | none=>simp [hi] at h
 | some i =>
  cases hz:i.zero with
  | none=>simp [hi,hz] at h
  | some z =>
   cases hu:P.underlying T with
   | none=>simp [hi,hz,hu] at h
   | some d =>
    cases d with
    | struct fs =>
     simp [hi,hz,hu] at h
     obtain ⟨hall,cs,hcs,rfl⟩:=h
     have hp:=run_places (P:=P) (fs:=fs.toList) (fun f hf=>by
      obtain ⟨j,hj,rfl⟩:=List.mem_iff_getElem.1 hf
      exact hall j (by simpa using hj)) w
     have hpa:(fs.mapM (m:=Sem) fun f=>Prod.mk f.offset <$> sizeOf f.type).run P w = .ok ((fs.toList.map fun f=>(f.offset,P.cellsOf f.type)).toArray) w:=by
      rw [Array.mapM_eq_mapM_toList,Sem.run_map,hp];rfl
     simp [Instr.build,zeroValue,typeInfo,hi,hz,run_underlying' hu,hpa,hcs]
    | _=>simp [hi,hz,hu] at h
theorem boc_some (h:bocAll P=true) {T k:Nat} (hT:T<P.types.size) (hk:k<P.cellsOf T):∃ n,byteOfCell P P.depth T k=some n:=by
 simp only [bocAll,List.all_eq_true,List.mem_range] at h
 exact Option.isSome_iff_exists.1 (h T hT k hk)
theorem run_byteOf0 {w':World} {b o:Nat} (h:bocAll P=true) (hc:tyOk P w' b=true):∃ n,(byteOf ⟨b,o,none⟩).run P w' = .ok n w':=by
 have hs:∃ T n,w'.shape? b=some (T,n)/\T<P.types.size:=by
  simp only [tyOk] at hc
  split at hc
  ·rename_i c T f hb;exact ⟨T,c.size,by simp [World.shape?,hb],by simpa using hc⟩
  ·cases hc
 obtain ⟨T,n,hs,hT⟩:=hs
 by_cases h0:P.cellsOf T=0
 ·exact ⟨0,by simp [byteOf,noView,viewAt,hs,h0]⟩
 ·obtain ⟨m,hm⟩:=boc_some (P:=P) h hT (k:=o % P.cellsOf T) (Nat.mod_lt _ (by omega))
  exact ⟨o / P.cellsOf T*P.bytesOf T+m,by simp [byteOf,noView,viewAt,hs,h0,hm]⟩
theorem run_partAt0 {w':World} {b o:Nat} (h:bocAll P=true) (hc:tyOk P w' b=true):(partAt ⟨b,o,none⟩ 0 0).run P w' = .ok ⟨b,o,none⟩ w':=by
 obtain ⟨n,hn⟩:=run_byteOf0 (o:=o) h hc
 simp [partAt,hn]
theorem tk_sound {o:Oper} {v:Value} (h:tkOp P H e w o.op=some v) (hk:∀ b,readsB H b=true->w'.heap[b]? = w.heap[b]?) :
  (execOp (ev e) o).run P w' = .ok (.value v) w':=by
 obtain ⟨dst,op,type,pos,after,guard⟩:=o
 cases op with
 | move x=>simp [tkOp] at h;subst h;simp [execOp]
 | assign x=>simp [tkOp] at h;subst h;simp [execOp]
 | pick c a b =>
  simp only [tkOp,pickG] at h
  cases hc:ev e c with
  | bool t=>simp [hc] at h;subst h;simp [execOp,hc,asBool]
  | _=>simp [hc] at h
 | load T x =>
  simp only [tkOp,ldG] at h
  cases hx:ev e x with
  | pointer a =>
   cases a with
   | none=>simp [hx] at h
   | some a =>
    cases hl:ldK P T with
    | none=>simp [hx,hl] at h
    | some k =>
     simp [hx,hl] at h
     obtain ⟨hr,hv⟩:=h
     rw [<-loadV_of_heap (hk _ hr)] at hv
     simp [execOp,hx,Instr.loadAt,Instr.sureAddr,run_loadVar hl hv]
  | _=>simp [hx] at h
 | nilCheck x =>
  simp only [tkOp,nilG] at h
  cases hx:ev e x with
  | pointer a=>cases a with
   | none=>simp [hx] at h
   | some a=>simp [hx] at h;subst h;simp [execOp,hx]
  | func f a b=>cases f with
   | func f=>simp [hx] at h;subst h;simp [execOp,hx]
   | _=>simp [hx] at h
  | _=>simp [hx] at h
 | binOp op T x y yT =>
  simp only [tkOp] at h
  have:=run_binV (x:=x) (y:=y) h w'
  simp only [execOp,Sem.run_bind] at this ⊢
  rw [this];rfl
 | unOp op T x =>
  cases op with
  | not =>
   simp only [tkOp,notG] at h
   cases hx:ev e x with
   | bool b=>simp [hx] at h;subst h;simp [execOp,hx,Op.unary]
   | _=>simp [hx] at h
  | _=>simp [tkOp] at h
 | convert src dst' x =>
  simp only [tkOp,cvG] at h
  cases hx:ev e x with
  | int k n =>
   simp only [hx,cvK] at h
   cases hs:P.underlying src with
   | none=>simp [hs] at h
   | some ds =>
    cases hu:P.underlying dst' with
    | none=>simp [hu] at h
    | some d =>
     cases d with
     | int kd=>simp [hs,hu] at h;subst h;simp [execOp,hx,convert,underlying,hu,hs,Conv.intToInt]
     | _=>simp [hs,hu] at h
  | _=>simp [hx] at h
 | makeFunc fn first captured=>simp [tkOp] at h;subst h;simp [execOp,Instr.makeFunc]
 | slice T x lo hi mx=>simp only [tkOp] at h;simp [execOp,run_sliceV h]
 | fieldAddr T x f =>
  simp only [tkOp,foZ] at h
  cases hu:P.underlying T with
  | none=>simp [fOff,hu,fZero,fzG] at h
  | some d =>
   cases d with
   | struct fs =>
    cases hf:fs[f]? with
    | none=>simp [fOff,hu,hf,fZero,fzG] at h
    | some fd =>
     cases hi:P.info? fd.type with
     | none=>simp [fOff,hu,hf,hi,fZero,fzG] at h
     | some i =>
      by_cases hz:i.size=0
      ·simp only [fOff,hu,hf,hi,hz,fZero,if_true] at h
       cases hx:ev e x with
       | pointer a =>
        cases a with
        | none=>simp [hx,fzG] at h
        | some a =>
         obtain ⟨b,o,sp⟩:=a
         cases sp with
         | some sp=>simp [hx,fzG] at h
         | none =>
          by_cases hc:(0 == 0 && fd.offset == 0 && fd.byteOffset == 0 && bocAll P)=true
          ·rw [hc] at h
           simp only [hx,fzG] at h
           by_cases hr:readsB H b=true
           ·rw [if_pos hr] at h
            by_cases hty:tyOk P w b=true
            ·rw [if_pos hty,Option.some.injEq] at h
             subst h
             simp only [beq_self_eq_true,Bool.true_and,Bool.and_eq_true,beq_iff_eq] at hc
             obtain ⟨⟨h1,h2⟩,h3⟩:=hc
             have hty':tyOk P w' b=true:=by simp only [tyOk] at hty ⊢;rw [hk b hr];exact hty
             simp [execOp,Instr.fieldAt,run_underlying' hu,hf,Instr.sureAddr,hx,fieldPlace,sizeOf,typeInfo,hi,hz,h1,h2,run_partAt0 h3 hty']
            ·rw [if_neg hty] at h;cases h
           ·rw [if_neg hr] at h;cases h
          ·rw [Bool.not_eq_true] at hc;rw [hc] at h;simp [fzG] at h
       | _=>simp [hx,fzG] at h
      ·simp only [fOff,hu,hf,hi,hz,if_false,foG] at h
       cases hx:ev e x with
       | pointer a =>
        cases a with
        | none=>simp [hx] at h
        | some a =>
         simp [hx] at h;subst h
         simp [execOp,hx,Instr.fieldAt,run_underlying' hu,hf,Instr.sureAddr,fieldPlace,sizeOf,typeInfo,hi,hz]
       | _=>simp [hx] at h
   | _=>simp [fOff,hu,fZero,fzG] at h
 | field T x f=>simp only [tkOp] at h;simp [execOp,run_fldV h]
 | indexAddr T x i=>simp only [tkOp] at h;simp [execOp,run_idxV h]
 | index T x i=>simp only [tkOp] at h;simp [execOp,run_ixV h]
 | build T parts =>
  simp only [tkOp] at h
  have:(parts.map fun (i,x)=>(i,ev e x)).toList=parts.toList.map fun p=>(p.1,ev e p.2):=by simp
  rw [<-this] at h
  simp [execOp,run_buildV h]
 | extract x i =>
  simp only [tkOp,exG] at h
  cases hx:ev e x with
  | tuple vs=>simp only [hx] at h;simp [execOp,hx,Instr.extract,h]
  | _=>simp [hx] at h
 | makeInterface T x =>
  simp only [tkOp,coK] at h
  cases hu:P.underlying T with
  | none=>simp [hu] at h
  | some d=>cases d<;>simp [hu] at h<;>subst h<;>simp [execOp,Instr.makeInterface,run_underlying' hu]
 | typeAssert x xT T ok=>simp only [tkOp] at h;simp [execOp,run_tasV h]
 | call c =>
  obtain ⟨callee,⟨args⟩,⟨tys⟩⟩:=c
  match callee,args,tys,h with
  | .builtin .len,[x],[T],h =>
   have h':lenV P T (ev e x)=some v:=h
   simp [execOp,resolve,invoke,builtin,run_lenV h']
  | .builtin .cap,[x],[T],h =>
   have h':capV P T (ev e x)=some v:=h
   simp [execOp,resolve,invoke,builtin,run_capV h']
 | _=>simp [tkOp] at h
end
end Go.Proofs.Ytbnnkcofnmipoaa
namespace Go.Proofs.Ytbnnkcofnmipoaa
open Go
section
variable {P:Program} {ops:Array Oper} {Q:Exit->Act->World->Prop} {S:World->Prop}
def Gives (P:Program) (ops:Array Oper) (S:World->Prop) (o:Oper) (v:Value) (a:Act):Prop :=
 (Region.wanted o (yielded ops a.tmps)=true/\∀ w,S w->(execOp a.eval o).run P w = .ok (.value v) w) ∨
 (Region.wanted o (yielded ops a.tmps)=false/\v=undef)
theorem Gives.wpOp {i:Nat} {o:Oper} {v:Value} {a:Act} (hi:ops[i]? = some o) (hy:Gives P ops S o v a)
  {K:Act->World->Prop} {w:World} (hS:S w) (h:K (a.put o.dst v) w):wpOp P ops Q i K a w:=by
 unfold Go.wpOp
 simp only [hi]
 rcases hy with ⟨hw,hv⟩ | ⟨hw,rfl⟩
 ·rw [if_pos hw];refine .inl ?_;unfold Oper.wp;rw [hv w hS];exact h
 ·rw [if_neg (by simp [hw])];exact h
theorem Gives.same {o:Oper} {v:Value} {a a':Act} (hy:Gives P ops S o v a) (he:execOp a'.eval o=execOp a.eval o)
  (hw:Region.wanted o (yielded ops a'.tmps)=Region.wanted o (yielded ops a.tmps)):Gives P ops S o v a':=by
 unfold Gives at *
 rw [he,hw];exact hy
theorem wpOp_before {j:Nat} {oi oj:Oper} {v:Value} (hj:ops[j]? = some oj) (hap:oi.apart ops oj=true)
  (hsi:∀ cs b,oi.op ≠ .select cs b) (hsj:∀ cs b,oj.op ≠ .select cs b)
  (hQ:∀ c a w,¬ Q (.panic c) a w) {K:Act->World->Prop} {a:Act} {w:World}
  (hy:Gives P ops S oi v a) (h:wpOp P ops Q j K (a.put oi.dst v) w) :
  wpOp P ops Q j (fun a' w'=>Gives P ops S oi v a'/\K (a'.put oi.dst v) w') a w:=by
 obtain ⟨h1,h2,h3⟩:=Oper.apart_spec hap
 have keep:∀ u,Gives P ops S oi v (a.put oj.dst u):=fun u =>
  hy.same (execOp_put oi hsi a oj.dst u h3) (wanted_put oi a oj.dst u h3)
 have keepD:∀ d u,Gives P ops S oi v (({ a with defers:=d::a.defers }:Act).put oj.dst u):=fun d u =>
  (hy.same (a':={ a with defers:=d::a.defers }) rfl rfl).same (execOp_put oi hsi _ oj.dst u h3) (wanted_put oi _ oj.dst u h3)
 unfold wpOp at *
 simp only [hj] at *
 rw [wanted_put oj a oi.dst v h1] at h
 by_cases hw:Region.wanted oj (yielded ops a.tmps)=true
 ·rw [if_pos hw] at h ⊢
  rcases h with h | ⟨hasks,hlets⟩
  ·refine .inl ?_
   unfold Oper.wp at *
   rw [execOp_put oj hsj a oi.dst v h1] at h
   cases hr:(execOp a.eval oj).run P w with
   | ok n w' =>
    rw [hr] at h
    cases n with
    | value u=>exact ⟨keep u,by have h':K ((a.put oi.dst v).put oj.dst u) w':=h;rw [<-Act.put_comm a v u h2];exact h'⟩
    | skip=>exact ⟨keep undef,by have h':K ((a.put oi.dst v).put oj.dst undef) w':=h;rw [<-Act.put_comm a v undef h2];exact h'⟩
    | defer d =>
     have h':K (({ a.put oi.dst v with defers:=d::(a.put oi.dst v).defers }:Act).put oj.dst undef) w':=h
     refine ⟨keepD d undef,?_⟩
     rw [<-Act.put_comm _ v undef h2,<-Act.put_defers]
     exact h'
    | enter f args =>
     refine Calls.mono h fun e w'' he=>?_
     cases e with
     | returned u=>exact ⟨keep u,by have h':K ((a.put oi.dst v).put oj.dst u) w'':=he;rw [<-Act.put_comm a v u h2];exact h'⟩
     | panicked c=>exact (hQ _ _ _ he).elim
     | outgrown=>exact he
    | row r args=>exact Rows.mono h fun u w'' he=>⟨keep u,by have h':K ((a.put oi.dst v).put oj.dst u) w'':=he;rw [<-Act.put_comm a v u h2];exact h'⟩
    | _=>exact h
   | halt x w' =>
    rw [hr] at h
    cases x with
    | panic u=>exact (hQ _ _ _ h).elim
    | _=>exact h
  ·exact .inr ⟨by unfold Oper.asks at *;rw [execOp_put oj hsj a oi.dst v h1] at hasks;exact hasks,hlets⟩
 ·rw [if_neg hw] at h ⊢
  exact ⟨keep undef,by rw [<-Act.put_comm a v undef h2];exact h⟩
def wpS (P:Program) (ops:Array Oper) (Q:Exit->Act->World->Prop) (S:World->Prop) (sink:Option Nat):Nat->Array Bool->Act->World->Prop
 | 0,listed,a,w=>Region.ready .any ops listed=[]/\Q .normal a w
 | fuel+1,listed,a,w =>
  (Region.ready .any ops listed=[]->Q .normal a w) ∧
  ∀ i ∈ Region.ready .any ops listed,wpOp P ops Q i (fun a' w'=>(sink=some i\/S w')/\wpS P ops Q S sink fuel (listed.setIfInBounds i true) a' w') a w
theorem wpAny_of_wpS {sink:Option Nat}:∀ (fuel:Nat) (listed:Array Bool) (a:Act) (w:World),wpS P ops Q S sink fuel listed a w->wpAny P .any ops Q fuel listed a w
 | 0,_,_,_,h=>h
 | fuel+1,_,_,_,h=>⟨h.1,fun i hi=>wpOp_mono (fun a' w' h'=>wpAny_of_wpS fuel _ a' w' h'.2) (h.2 i hi)⟩
def ClosedUp (ops:Array Oper) (listed:Array Bool):Prop :=
 listed.size=ops.size/\∀ j oj,ops[j]? = some oj->listed.getD j false=true->∀ e ∈ oj.after,Region.binds .any e=true->listed.getD e.on false=true
theorem getD_tf {listed:Array Bool} {i:Nat} (h:listed.getD i true=false):listed.getD i false=false:=by
 rcases Nat.lt_or_ge i listed.size with h' | h'
 ·simp [h'] at h ⊢;exact h
 ·simp [Array.getElem?_eq_none h'] at h
theorem ClosedUp.set {listed:Array Bool} {i:Nat} (h:ClosedUp ops listed) (hi:i ∈ Region.ready .any ops listed):ClosedUp ops (listed.setIfInBounds i true):=by
 obtain ⟨_,oi,hoi,hall⟩:=mem_ready.1 hi
 refine ⟨by simp [h.1],fun j oj hj hl e he hb=>?_⟩
 by_cases hij:i=j
 ·subst hij
  obtain rfl:oj=oi:=Option.some.inj (hj.symm.trans hoi)
  exact getD_set_true (hall e he hb)
 ·rw [getD_set_ne false hij] at hl
  exact getD_set_true (h.2 j oj hj hl e he hb)
def sinkOk (ops:Array Oper) (f:Nat):Bool :=
 decide (f<ops.size) && (List.range ops.size).all fun i=>i == f || (List.range ops.size).any fun j=>decide (i<j) && decide (j<=f) &&
  match ops[j]? with
  | some oj=>oj.after.any fun e=>Region.binds .any e && e.on == i
  | none=>false
theorem sink_waits {f:Nat} (hs:sinkOk ops f=true) {listed:Array Bool} (hc:ClosedUp ops listed) :
  ∀ d i,f-i=d->i<ops.size->i ≠ f->listed.getD i true=false->f ∉ Region.ready .any ops listed:=by
 simp only [sinkOk,Bool.and_eq_true,decide_eq_true_eq,List.all_eq_true,List.mem_range,Bool.or_eq_true,beq_iff_eq] at hs
 obtain ⟨hf,hs⟩:=hs
 intro d
 induction d using Nat.strongRecOn with
 | _ d ih =>
  intro i hd hi hne hun hr
  obtain ⟨j,hjm,hj⟩:=List.any_eq_true.1 ((hs i hi).resolve_left hne)
  simp only [Bool.and_eq_true,decide_eq_true_eq] at hj
  obtain ⟨⟨hij,hjf⟩,hw⟩:=hj
  have hjs:j<ops.size:=List.mem_range.1 hjm
  cases hoj:ops[j]? with
  | none=>simp [hoj] at hw
  | some oj =>
   simp only [hoj] at hw
   obtain ⟨e,he,hb⟩:=Array.any_eq_true'.1 hw
   simp only [Bool.and_eq_true,beq_iff_eq] at hb
   by_cases hjf':j=f
   ·subst hjf'
    obtain ⟨_,of,hof,hall⟩:=mem_ready.1 hr
    obtain rfl:of=oj:=Option.some.inj (hof.symm.trans hoj)
    have:=hall e he hb.1
    rw [hb.2,getD_tf hun] at this
    cases this
   ·cases hl:listed.getD j false with
    | true =>
     have:=hc.2 j oj hoj hl e he hb.1
     rw [hb.2,getD_tf hun] at this
     cases this
    | false =>
     have hl':listed.getD j true=false:=by
      have:j<listed.size:=by rw [hc.1];exact hjs
      simp [this] at hl ⊢;exact hl
     exact ih (f-j) (by omega) j rfl hjs hjf' hl' hr
theorem wpS_first {sink:Option Nat} (hsink:∀ f,sink=some f->sinkOk ops f=true) {i:Nat} (hne:sink ≠ some i) {oi:Oper} {v:Value} (hi:ops[i]? = some oi)
  (hsel:∀ (j:Nat) (o:Oper) cs b,ops[j]? = some o->o.op ≠ .select cs b) (hQ:∀ c a w,¬ Q (.panic c) a w) :
  ∀ (fuel:Nat) (listed:Array Bool) (a:Act) (w:World),ClosedUp ops listed →
   (∀ j oj,ops[j]? = some oj->j ≠ i->listed.getD j true=false->(∀ e ∈ oj.after,Region.binds .any e=true->e.on ≠ i)->oi.apart ops oj=true) →
   i ∈ Region.ready .any ops listed->Gives P ops S oi v a->S w →
   wpS P ops Q S sink fuel (listed.setIfInBounds i true) (a.put oi.dst v) w->wpS P ops Q S sink (fuel+1) listed a w:=by
 intro fuel
 induction fuel with
 | zero =>
  intro listed a w _ _ hr hy hS H
  refine ⟨fun h=>(by rw [h] at hr;cases hr),fun j hj=>?_⟩
  by_cases hji:j=i
  ·subst hji;exact hy.wpOp hi hS ⟨.inr hS,H⟩
  ·have:=ready_mono hj hji
   rw [H.1] at this
   cases this
 | succ fuel ih =>
  intro listed a w hc hfree hr hy hS H
  refine ⟨fun h=>(by rw [h] at hr;cases hr),fun j hj=>?_⟩
  by_cases hji:j=i
  ·subst hji;exact hy.wpOp hi hS ⟨.inr hS,H⟩
  ·have h1:=H.2 j (ready_mono hj hji)
   obtain ⟨hjun,oj,hoj,hall⟩:=mem_ready.1 hj
   have hiun:=(mem_ready.1 hr).1
   have his:i<ops.size:=(Array.getElem?_eq_some_iff.1 hi).1
   have hjs:sink ≠ some j:=fun hsj=>sink_waits (hsink j hsj) hc _ i rfl his (fun e=>hne (e ▸ hsj)) hiun hj
   have hnot:∀ e ∈ oj.after,Region.binds .any e=true->e.on ≠ i:=fun e he hb heq=>by
    have h1:=hall e he hb
    rw [heq,getD_tf hiun] at h1
    cases h1
   have h2:=wpOp_before hoj (hfree j oj hoj hji hjun hnot) (fun cs b=>hsel i oi cs b hi) (fun cs b=>hsel j oj cs b hoj) hQ hy h1
   refine wpOp_mono (fun a' w' h3=>?_) h2
   have hS':S w':=h3.2.1.resolve_left hjs
   refine ⟨.inr hS',ih (listed.setIfInBounds j true) a' w' (hc.set hj) (fun k ok hk hki hun hno=>?_) (ready_mono hr (Ne.symm hji)) h3.1 hS' ?_⟩
   ·refine hfree k ok hk hki ?_ hno
    by_cases hjk:j=k
    ·subst hjk;exact hjun
    ·rw [getD_set_ne true hjk] at hun;exact hun
   ·rw [Array.setIfInBounds_comm _ _ hji]
    exact h3.2.2
end
abbrev PlanL:=List (Nat × Nat × Nat)
def planOk (ops:Array Oper) (sink:Option Nat):PlanL->Array Bool->Bool
 | [],listed=>(Region.ready .any ops listed).isEmpty
 | (0,i,_)::r,listed=>(Region.ready .any ops listed).contains i && Region.free .any ops listed i && (sink != some i) && planOk ops sink r (listed.setIfInBounds i true)
 | (1,i,_)::r,listed=>decide (Region.ready .any ops listed=[i]) && planOk ops sink r (listed.setIfInBounds i true)
 | (_+2,i,j)::r,listed=>decide (Region.ready .any ops listed=[i,j]) && decide (Region.ready .any ops (listed.setIfInBounds i true)=[j]) &&
   decide (Region.ready .any ops (listed.setIfInBounds j true)=[i]) && (sink != some i) && (sink != some j) && (i != j) && planOk ops sink r ((listed.setIfInBounds i true).setIfInBounds j true)
def planN:PlanL->Nat
 | []=>0
 | (0,_,_)::r=>planN r+1
 | (1,_,_)::r=>planN r+1
 | (_+2,_,_)::r=>planN r+1+1
def dstsOk (n:Nat) (ops:Array Oper):Bool:=ops.all fun o=>match o.dst with | some d=>decide (d<n) | none=>true
def regOk (n:Nat) (ops:Array Oper) (sink:Option Nat) (pl:PlanL):Bool :=
 Region.noSelect ops && dstsOk n ops && (match sink with | some f=>sinkOk ops f | none=>true) && decide (planN pl=ops.size) && planOk ops sink pl (Array.replicate ops.size false)
def bindO (o:Option Value) (k:Value->Prop):Prop:=∃ v,o=some v/\k v
theorem bindO_some (v:Value) (k:Value->Prop):bindO (some v) k=k v:=by simp [bindO]
theorem bindO_congr {o o':Option Value} {k:Value->Prop} (h:o=o'):bindO o k=bindO o' k:=by rw [h]
def DoOp (P:Program) (e:Env) (w:World) (o:Oper) (K:Value->World->Prop):Prop :=
 match (execOp (ev e) o).run P w with
 | .ok (.value v) w'=>K v w'
 | .ok .skip w'=>K undef w'
 | .ok (.enter f args) w'=>Calls P f args w' fun x w''=>∃ v,x = .returned v/\K v w''
 | _=>False
def wantedE (ops:Array Oper) (e:Env) (g:Option (Nat × Bool)):Prop :=
 match g with
 | none=>True
 | some (j,want)=>∃ t,(ops[j]?).bind (·.dst)=some t/\e t = .bool want
def unwantedE (ops:Array Oper) (e:Env) (g:Option (Nat × Bool)):Prop :=
 match g with
 | none=>False
 | some (j,want)=>∃ t v,(ops[j]?).bind (·.dst)=some t/\e t=v/\v ≠ .bool want
def dstV (ops:Array Oper) (e:Env) (j:Nat):Option Value:=((ops[j]?).bind (·.dst)).map e
def guardV (v:Option Value) (want:Bool) (yes no:Prop):Prop :=
 match v with
 | some (.bool b)=>if b=want then yes else no
 | some _=>no
 | none=>False
def guardE (ops:Array Oper) (e:Env) (g:Option (Nat × Bool)) (yes no:Prop):Prop :=
 match g with
 | none=>yes
 | some (j,want)=>guardV (dstV ops e j) want yes no
theorem guardE_cases {ops:Array Oper} {e:Env} {g:Option (Nat × Bool)} {yes no:Prop} (h:guardE ops e g yes no):(wantedE ops e g/\yes)\/(unwantedE ops e g/\no):=by
 cases g with
 | none=>exact .inl ⟨trivial,h⟩
 | some p =>
  obtain ⟨j,want⟩:=p
  have h':guardV (dstV ops e j) want yes no:=h
  cases ht:(ops[j]?).bind (·.dst) with
  | none=>simp [dstV,ht,guardV] at h'
  | some t =>
   simp only [dstV,ht,Option.map_some,guardV] at h'
   cases hv:e t with
   | bool b =>
    simp only [hv] at h'
    by_cases hb:b=want
    ·rw [if_pos hb] at h';exact .inl ⟨⟨t,ht,by rw [hv,hb]⟩,h'⟩
    ·rw [if_neg hb] at h';exact .inr ⟨⟨t,_,ht,hv,fun hh=>hb (by cases hh;rfl)⟩,h'⟩
   | _=>simp only [hv] at h';exact .inr ⟨⟨t,_,ht,hv,by simp⟩,h'⟩
def withOp (ops:Array Oper) (i:Nat) (k:Oper->Prop):Prop:=∃ o,ops[i]? = some o/\k o
def TakeO (P:Program) (ops:Array Oper) (H:Hold) (K:Env->World->Prop) (e:Env) (w:World) (o:Oper):Prop :=
 guardE ops e o.guard (bindO (tkOp P H e w o.op) fun v=>K (updO e o.dst v) w) (K (updO e o.dst undef) w)
def DoO (P:Program) (ops:Array Oper) (C:World->World->Prop) (K:Env->World->Prop) (e:Env) (w:World) (o:Oper):Prop :=
 guardE ops e o.guard (DoOp P e w o fun v w'=>C w w'/\K (updO e o.dst v) w') (K (updO e o.dst undef) w)
def DoAt (P:Program) (ops:Array Oper) (H:Hold) (sink:Option Nat) (i:Nat) (K:Env->World->Prop) (e:Env) (w:World):Prop :=
 withOp ops i (DoO P ops (fun w w'=>sink=some i\/keeps H w w') K e w)
def WPlan (P:Program) (ops:Array Oper) (H:Hold) (sink:Option Nat) (Q:Post):PlanL->Env->World->Prop
 | [],e,w=>Q .normal e w
 | (0,i,_)::r,e,w=>withOp ops i (TakeO P ops H (WPlan P ops H sink Q r) e w)
 | (1,i,_)::r,e,w=>DoAt P ops H sink i (WPlan P ops H sink Q r) e w
 | (_+2,i,j)::r,e,w=>DoAt P ops H sink i (DoAt P ops H sink j (WPlan P ops H sink Q r)) e w/\DoAt P ops H sink j (DoAt P ops H sink i (WPlan P ops H sink Q r)) e w
section
variable {P:Program} {ops:Array Oper} {n:Nat} {Q:Post}
theorem lift_panic (c:List PanicEntry) (a:Act) (w:World):¬ lift n Q (.panic c) a w:=fun ⟨_,_,h,_⟩=>h
theorem wanted_of {e:Env} {a:Act} (ha:Fr n e a) {o:Oper} (hd:dstsOk n ops=true) (h:wantedE ops e o.guard):Region.wanted o (yielded ops a.tmps)=true:=by
 unfold Region.wanted
 cases hg:o.guard with
 | none=>rfl
 | some p =>
  obtain ⟨j,want⟩:=p
  rw [hg] at h
  obtain ⟨t,ht,he⟩:=h
  have hlt:t<a.tmps.size:=by
   cases hoj:ops[j]? with
   | none=>simp [hoj] at ht
   | some oj =>
    simp [hoj] at ht
    have:=Array.all_eq_true_iff_forall_mem.1 hd oj (Array.mem_of_getElem? hoj)
    simp [ht] at this
    rw [ha.size];exact this
  have hv:a.tmps[t]? = some (.bool want):=by
   have:=ha.get t
   simp [hlt] at this
   rw [Array.getElem?_eq_getElem hlt,this,he]
  simp [yielded,ht,hv]
theorem unwanted_of {e:Env} {a:Act} (ha:Fr n e a) {o:Oper} (hd:dstsOk n ops=true) (h:unwantedE ops e o.guard):Region.wanted o (yielded ops a.tmps)=false:=by
 unfold Region.wanted
 cases hg:o.guard with
 | none=>rw [hg] at h;exact h.elim
 | some p =>
  obtain ⟨j,want⟩:=p
  rw [hg] at h
  obtain ⟨t,v,ht,he,hne⟩:=h
  have hlt:t<a.tmps.size:=by
   cases hoj:ops[j]? with
   | none=>simp [hoj] at ht
   | some oj =>
    simp [hoj] at ht
    have:=Array.all_eq_true_iff_forall_mem.1 hd oj (Array.mem_of_getElem? hoj)
    simp [ht] at this
    rw [ha.size];exact this
  have hv:a.tmps[t]? = some v:=by
   have:=ha.get t
   simp [hlt] at this
   rw [Array.getElem?_eq_getElem hlt,this,he]
  simp only [yielded,ht,Option.bind_some,hv]
  cases v with
  | bool b=>simp;intro hb;exact hne (by rw [hb])
  | _=>rfl
theorem dst_lt (hd:dstsOk n ops=true) {i:Nat} {o:Oper} (ho:ops[i]? = some o):∀ t,o.dst=some t->t<n:=fun t ht=>by
 have:=Array.all_eq_true_iff_forall_mem.1 hd o (Array.mem_of_getElem? ho)
 simpa [ht] using this
theorem wpOp_of_do {e:Env} {a:Act} (ha:Fr n e a) (hd:dstsOk n ops=true) {i:Nat} {o:Oper} (ho:ops[i]? = some o) {w:World} {K:Value->World->Prop} {K':Act->World->Prop}
  (hw:Region.wanted o (yielded ops a.tmps)=true) (h:DoOp P e w o K) (hK:∀ v w',K v w'->K' (a.put o.dst v) w'):wpOp P ops (lift n Q) i K' a w:=by
 unfold wpOp
 simp only [ho]
 rw [if_pos hw]
 refine .inl ?_
 unfold Oper.wp
 rw [ha.eval]
 unfold DoOp at h
 cases hr:(execOp (ev e) o).run P w with
 | ok nx w' =>
  rw [hr] at h
  cases nx with
  | value v=>exact hK _ _ h
  | skip=>exact hK _ _ h
  | enter f args=>exact Calls.mono h fun x w'' ⟨v,hx,hv⟩=>by subst hx;exact hK _ _ hv
  | _=>exact h.elim
 | halt x w'=>rw [hr] at h;exact h.elim
theorem plan_last {sink:Option Nat} (hs:∀ f,sink=some f->sinkOk ops f=true) {listed:Array Bool} (hc:ClosedUp ops listed) {j:Nat} (hr:j ∈ Region.ready .any ops listed)
  {r:PlanL} (hok:planOk ops sink r (listed.setIfInBounds j true)=true) (hsj:sink=some j):r=[]:=by
 have hs':=hs j hsj
 cases r with
 | nil=>rfl
 | cons p r =>
  exfalso
  obtain ⟨b,k,k2⟩:=p
  have hkr:k ∈ Region.ready .any ops (listed.setIfInBounds j true):=by
   match b,hok with
   | 0,hok=>simp only [planOk,Bool.and_eq_true] at hok;simpa using hok.1.1.1
   | 1,hok=>simp only [planOk,Bool.and_eq_true,decide_eq_true_eq] at hok;rw [hok.1];simp
   | b+2,hok=>simp only [planOk,Bool.and_eq_true,decide_eq_true_eq] at hok;rw [hok.1.1.1.1.1.1];simp
  obtain ⟨hkun,ok,hok',_⟩:=mem_ready.1 hkr
  have hks:k<ops.size:=(Array.getElem?_eq_some_iff.1 hok').1
  have hkj:j ≠ k:=fun e=>by
   subst e
   have:j<listed.size:=by rw [hc.1];exact hks
   simp [this] at hkun
  rw [getD_set_ne true hkj] at hkun
  exact sink_waits hs' hc _ k rfl hks (Ne.symm hkj) hkun hr
theorem wpOp_of_doAt {H:Hold} {sink:Option Nat} {e:Env} {a:Act} (ha:Fr n e a) (hd:dstsOk n ops=true) {i:Nat} {w:World} {K:Env->World->Prop} {K':Act->World->Prop}
  (h:DoAt P ops H sink i K e w) (hK:∀ e' a' w',Fr n e' a'->(sink=some i\/keeps H w w')->K e' w'->K' a' w'):wpOp P ops (lift n Q) i K' a w:=by
 obtain ⟨o,ho,h⟩:=h
 rcases guardE_cases h with ⟨hw,hdo⟩ | ⟨hw,hrest⟩
 ·exact wpOp_of_do ha hd ho (wanted_of ha hd hw) hdo fun v w' ⟨hkk,hrest⟩=>hK _ _ _ (ha.put (dst_lt hd ho) v) hkk hrest
 ·unfold wpOp
  simp only [ho]
  rw [if_neg (by simp [unwanted_of ha hd hw])]
  exact hK _ _ _ (ha.put (dst_lt hd ho) undef) (.inr (keeps_refl _ _)) hrest
theorem wpS_of_plan {H:Hold} {sink:Option Nat} {w0:World} (hsel:Region.noSelect ops=true) (hd:dstsOk n ops=true) (hs:∀ f,sink=some f->sinkOk ops f=true)
  (hH:∀ a b c,keeps H a b->keeps H b c->keeps H a c) :
  ∀ (pl:PlanL) (listed:Array Bool) (e:Env) (a:Act) (w:World),Fr n e a->ClosedUp ops listed->planOk ops sink pl listed=true->(keeps H w0 w\/pl=[]) →
   WPlan P ops H sink Q pl e w->wpS P ops (lift n Q) (fun w'=>keeps H w0 w') sink (planN pl) listed a w
 | [],listed,e,a,w,ha,_,hok,_,h=>⟨by simpa [planOk] using hok,e,ha,trivial,h⟩
 | (0,i,x)::r,listed,e,a,w,ha,hc,hok,hk,h=>by
  obtain ⟨o,ho,h⟩:=h
  simp only [planOk,Bool.and_eq_true,bne_iff_ne,ne_eq] at hok
  obtain ⟨⟨⟨hr,hf⟩,hne⟩,hok⟩:=hok
  have hr':i ∈ Region.ready .any ops listed:=by simpa using hr
  have hk':keeps H w0 w:=hk.resolve_right (by simp)
  have go:∀ v,Gives P ops (fun w'=>keeps H w0 w') o v a->WPlan P ops H sink Q r (updO e o.dst v) w →
    wpS P ops (lift n Q) (fun w'=>keeps H w0 w') sink (planN r+1) listed a w:=fun v hg hw =>
   wpS_first hs hne ho (Region.noSelect_spec hsel) lift_panic (planN r) listed a w hc (Region.free_spec ho hf) hr' hg hk'
    (wpS_of_plan hsel hd hs hH r _ _ _ _ (ha.put (dst_lt hd ho) v) (hc.set hr') hok (.inl hk') hw)
  rcases guardE_cases h with ⟨hw,v,hv,hrest⟩ | ⟨hw,hrest⟩
  ·refine go v (.inl ⟨wanted_of ha hd hw,fun w' hk2=>?_⟩) hrest
   rw [ha.eval]
   exact tk_sound hv fun b hb=>(keeps_reads hk2 hb).trans (keeps_reads hk' hb).symm
  ·exact go undef (.inr ⟨unwanted_of ha hd hw,rfl⟩) hrest
 | (1,i,x)::r,listed,e,a,w,ha,hc,hok,hk,h=>by
  simp only [planOk,Bool.and_eq_true,decide_eq_true_eq] at hok
  obtain ⟨hr,hok⟩:=hok
  have hr':i ∈ Region.ready .any ops listed:=by rw [hr];simp
  have hk':keeps H w0 w:=hk.resolve_right (by simp)
  refine ⟨fun h0=>(by rw [h0] at hr;cases hr),fun j hj=>?_⟩
  obtain rfl:j=i:=by rw [hr] at hj;simpa using hj
  refine wpOp_of_doAt ha hd h fun e' a' w' ha' hkk hrest=>⟨hkk.imp id (hH _ _ _ hk'),?_⟩
  exact wpS_of_plan hsel hd hs hH r _ _ _ _ ha' (hc.set hr') hok (hkk.elim (fun h=>.inr (plan_last hs hc hr' hok h)) fun h=>.inl (hH _ _ _ hk' h)) hrest
 | (b+2,i,j)::r,listed,e,a,w,ha,hc,hok,hk,h=>by
  simp only [planOk,Bool.and_eq_true,decide_eq_true_eq,bne_iff_ne,ne_eq] at hok
  obtain ⟨⟨⟨⟨⟨⟨hr,hri⟩,hrj⟩,hsi⟩,hsj⟩,hij⟩,hok⟩:=hok
  have hk':keeps H w0 w:=hk.resolve_right (by simp)
  have key:∀ (i j:Nat),i ∈ Region.ready .any ops listed->Region.ready .any ops (listed.setIfInBounds i true)=[j]->sink ≠ some i->sink ≠ some j →
    planOk ops sink r ((listed.setIfInBounds i true).setIfInBounds j true)=true->DoAt P ops H sink i (DoAt P ops H sink j (WPlan P ops H sink Q r)) e w →
    wpOp P ops (lift n Q) i (fun a' w'=>(sink=some i\/keeps H w0 w')/\wpS P ops (lift n Q) (fun w'=>keeps H w0 w') sink (planN r+1) (listed.setIfInBounds i true) a' w') a w:=by
   intro i j hi hj hsi hsj hok h
   refine wpOp_of_doAt ha hd h fun e1 a1 w1 ha1 hk1 h1=>?_
   have hk1':=hH _ _ _ hk' (hk1.resolve_left hsi)
   refine ⟨.inr hk1',fun h0=>(by rw [h0] at hj;cases hj),fun k hkr=>?_⟩
   obtain rfl:k=j:=by rw [hj] at hkr;simpa using hkr
   refine wpOp_of_doAt ha1 hd h1 fun e2 a2 w2 ha2 hk2 h2=>?_
   have hk2':=hH _ _ _ hk1' (hk2.resolve_left hsj)
   exact ⟨.inr hk2',wpS_of_plan hsel hd hs hH r _ _ _ _ ha2 ((hc.set hi).set hkr) hok (.inl hk2') h2⟩
  have hmi:i ∈ Region.ready .any ops listed:=by rw [hr];simp
  have hmj:j ∈ Region.ready .any ops listed:=by rw [hr];simp
  refine ⟨fun h0=>(by rw [h0] at hr;cases hr),fun k hkr=>?_⟩
  rw [hr] at hkr
  rcases List.mem_cons.1 hkr with rfl | hkr
  ·exact key k j hmi hri hsi hsj hok h.1
  ·obtain rfl:k=j:=by simpa using hkr
   exact key k i hmj hrj hsj hsi (by rw [Array.setIfInBounds_comm _ _ (Ne.symm hij)];exact hok) h.2
theorem keeps_trans (H:Hold) (a b c:World) (h1:keeps H a b) (h2:keeps H b c):keeps H a c:=by
 match H,h1,h2 with
 | none,h1,h2=>exact Eq.trans (show c=b from h2) (show b=a from h1)
 | some none,h1,h2=>exact Eq.trans (show c.heap=b.heap from h2) (show b.heap=a.heap from h1)
 | some (some _),h1,h2=>exact fun x hx=>(h2 x hx).trans (h1 x hx)
theorem W_draw (H:Hold) (sink:Option Nat) (pl:PlanL) {id:Nat} {e:Env} {w:World} (hm:P.follows .mixedOrders=true)
  (hok:regOk n ops sink pl=true) (h:WPlan P ops H sink Q pl e w.drew):W P n (.region id ops true) Q e w:=by
 intro a ha
 simp only [regOk,Bool.and_eq_true,decide_eq_true_eq] at hok
 obtain ⟨⟨⟨⟨hsel,hd⟩,hs⟩,hlen⟩,hok⟩:=hok
 refine wp_region_any hm ?_
 have hc:ClosedUp ops (Array.replicate ops.size false):=⟨by simp,fun j oj _ hl=>by
  rcases Nat.lt_or_ge j ops.size with h | h
  ·simp [h] at hl
  ·simp [h] at hl⟩
 have:=wpS_of_plan (w0:=w.drew) hsel hd (fun f hf=>by subst hf;exact hs) (keeps_trans H) pl _ e a w.drew ha hc hok (.inl (keeps_refl _ _)) h
 rw [hlen] at this
 exact wpAny_of_wpS _ _ _ _ this
def WText (P:Program) (ops:Array Oper) (Q:Post):List Bool->List Oper->Env->World->Prop
 | _,[],e,w=>Q .normal e w
 | true::bs,o::r,e,w=>TakeO P ops none (WText P ops Q bs r) e w o
 | false::bs,o::r,e,w=>DoO P ops (fun _ _=>True) (WText P ops Q bs r) e w o
 | [],_::_,_,_=>False
theorem wpList_of_text (hd:dstsOk n ops=true):∀ (l:List Oper) (bs:List Bool) (e:Env) (a:Act) (w:World),(∀ o ∈ l,o ∈ ops)->Fr n e a->WText P ops Q bs l e w->wpList P ops (lift n Q) l a w
 | [],bs,e,a,w,_,ha,h=>by
  have h':Q .normal e w:=by cases bs with
   | nil=>exact h
   | cons b bs=>cases b<;>exact h
  exact ⟨e,ha,trivial,h'⟩
 | o::r,[],e,a,w,_,_,h=>h.elim
 | o::r,b::bs,e,a,w,hl,ha,h=>by
  obtain ⟨i,hi,rfl⟩:=Array.mem_iff_getElem.1 (hl o (by simp))
  have ho:ops[i]? = some ops[i]:=Array.getElem?_eq_getElem hi
  have ih:=fun e a w=>wpList_of_text hd r bs e a w (fun o ho=>hl o (by simp [ho]))
  have unw:unwantedE ops e ops[i].guard->WText P ops Q bs r (updO e ops[i].dst undef) w->wpList P ops (lift n Q) (ops[i]::r) a w:=fun hw hrest=>by
   unfold wpList
   rw [if_neg (by simp [unwanted_of ha hd hw])]
   exact ih _ _ _ (ha.put (dst_lt hd ho) undef) hrest
  cases b with
  | true =>
   rcases guardE_cases h with ⟨hw,v,hv,hrest⟩ | ⟨hw,hrest⟩
   ·unfold wpList
    rw [if_pos (wanted_of ha hd hw)]
    refine .inl ?_
    unfold Oper.wp
    rw [ha.eval,tk_sound hv fun _ _=>rfl]
    exact ih _ _ _ (ha.put (dst_lt hd ho) v) hrest
   ·exact unw hw hrest
  | false =>
   rcases guardE_cases h with ⟨hw,hdo⟩ | ⟨hw,hrest⟩
   ·have hk:=wpOp_of_do (Q:=Q) (K':=wpList P ops (lift n Q) r) ha hd ho (wanted_of ha hd hw) hdo fun v w' hrest=>ih _ _ _ (ha.put (dst_lt hd ho) v) hrest.2
    unfold wpOp at hk
    simp only [ho] at hk
    unfold wpList
    exact hk
   ·exact unw hw hrest
theorem W_text (bs:List Bool) {id:Nat} {l:List Oper} {e:Env} {w:World} (hd:dstsOk n l.toArray=true) (h:WText P l.toArray Q bs l e w):W P n (.region id l.toArray false) Q e w :=
 fun a ha=>wp_region_list (by simpa using wpList_of_text (ops:=l.toArray) hd l bs e a w (fun o ho=>by simpa using ho) ha h)
end
section
variable {P:Program} {ops:Array Oper} {H:Hold} {sink:Option Nat} {Q:Post} {e:Env} {w:World}
theorem withOp_zero (o:Oper) (l:List Oper) (k:Oper->Prop):withOp (o::l).toArray 0 k=k o:=by simp [withOp]
theorem withOp_succ (o:Oper) (l:List Oper) (i:Nat) (k:Oper->Prop):withOp (o::l).toArray (i+1) k=withOp l.toArray i k:=by simp [withOp]
theorem guardV_congr {v v':Option Value} {want:Bool} {yes no:Prop} (h:v=v'):guardV v want yes no=guardV v' want yes no:=by rw [h]
theorem guardV_tt (yes no:Prop):guardV (some (.bool true)) true yes no=yes:=id (Eq.trans rfl rfl)
theorem guardV_ff (yes no:Prop):guardV (some (.bool false)) false yes no=yes:=id (Eq.trans rfl rfl)
theorem guardV_tf (yes no:Prop):guardV (some (.bool true)) false yes no=no:=id (Eq.trans rfl rfl)
theorem guardV_ft (yes no:Prop):guardV (some (.bool false)) true yes no=no:=id (Eq.trans rfl rfl)
theorem guardV_undef (want:Bool) (yes no:Prop):guardV (some undef) want yes no=no:=id (Eq.trans rfl rfl)
theorem dstV_zero (o:Oper) (l:List Oper):dstV (o::l).toArray e 0=o.dst.map e:=by simp [dstV]
theorem dstV_succ (o:Oper) (l:List Oper) (j:Nat):dstV (o::l).toArray e (j+1)=dstV l.toArray e j:=by simp [dstV]
theorem WPlan_nil:WPlan P ops H sink Q [] e w=Q .normal e w:=id (Eq.trans rfl rfl)
theorem WPlan_take (i x:Nat) (r:PlanL):WPlan P ops H sink Q ((0,i,x)::r) e w=withOp ops i (TakeO P ops H (WPlan P ops H sink Q r) e w):=id (Eq.trans rfl rfl)
theorem take_none {K:Env->World->Prop} (d:Option Nat) (op:Op) (ty:Nat) (pos:String) (af:Array Edge) :
  TakeO P ops H K e w ⟨d,op,ty,pos,af,none⟩=bindO (tkOp P H e w op) fun v=>K (updO e d v) w:=id (Eq.trans rfl rfl)
theorem take_some {K:Env->World->Prop} (d:Option Nat) (op:Op) (ty:Nat) (pos:String) (af:Array Edge) (j:Nat) (want:Bool) :
  TakeO P ops H K e w ⟨d,op,ty,pos,af,some (j,want)⟩=guardV (dstV ops e j) want (bindO (tkOp P H e w op) fun v=>K (updO e d v) w) (K (updO e d undef) w):=id (Eq.trans rfl rfl)
theorem do_some {C:World->World->Prop} {K:Env->World->Prop} (d:Option Nat) (op:Op) (ty:Nat) (pos:String) (af:Array Edge) (j:Nat) (want:Bool) :
  DoO P ops C K e w ⟨d,op,ty,pos,af,some (j,want)⟩=guardV (dstV ops e j) want (DoO P ops C K e w ⟨d,op,ty,pos,af,none⟩) (K (updO e d undef) w):=id (Eq.trans rfl rfl)
theorem WPlan_do (i x:Nat) (r:PlanL):WPlan P ops H sink Q ((1,i,x)::r) e w=DoAt P ops H sink i (WPlan P ops H sink Q r) e w:=id (Eq.trans rfl rfl)
theorem WPlan_fork (i j:Nat) (r:PlanL):WPlan P ops H sink Q ((2,i,j)::r) e w =
  (DoAt P ops H sink i (DoAt P ops H sink j (WPlan P ops H sink Q r)) e w/\DoAt P ops H sink j (DoAt P ops H sink i (WPlan P ops H sink Q r)) e w):=id (Eq.trans rfl rfl)
theorem DoAt_eq (i:Nat) (K:Env->World->Prop):DoAt P ops H sink i K e w=withOp ops i (DoO P ops (fun w w'=>sink=some i\/keeps H w w') K e w):=id (Eq.trans rfl rfl)
theorem DoO_intro {C:World->World->Prop} {K:Env->World->Prop} {d:Option Nat} {op:Op} {ty:Nat} {pos:String} {af:Array Edge} (h:DoOp P e w ⟨d,op,ty,pos,af,none⟩ fun v w'=>C w w'/\K (updO e d v) w') :
  DoO P ops C K e w ⟨d,op,ty,pos,af,none⟩:=h
theorem WText_nil (bs:List Bool):WText P ops Q bs [] e w=Q .normal e w:=by cases bs with
 | nil=>rfl
 | cons b bs=>cases b<;>rfl
theorem WText_take (bs:List Bool) (o:Oper) (r:List Oper):WText P ops Q (true::bs) (o::r) e w=TakeO P ops none (WText P ops Q bs r) e w o:=id (Eq.trans rfl rfl)
theorem WText_do (bs:List Bool) (o:Oper) (r:List Oper):WText P ops Q (false::bs) (o::r) e w=DoO P ops (fun _ _=>True) (WText P ops Q bs r) e w o:=id (Eq.trans rfl rfl)
end
attribute [congr] guardV_congr bindO_congr
def waitsOn (ops:Array Oper) (j i:Nat):Bool :=
 match ops[j]? with
 | some oj=>oj.after.any fun e=>Region.binds .any e && e.on == i
 | none=>false
def barOk (ops:Array Oper) (f:Nat):Bool :=
 decide (f<ops.size) && (List.range ops.size).all fun i=>i == f ||
  (decide (i<f) && (List.range ops.size).any fun j=>decide (i<j) && decide (j<=f) && waitsOn ops j i) ||
  (decide (f<i) && (List.range ops.size).any fun j=>decide (f<=j) && decide (j<i) && waitsOn ops i j)
theorem waitsOn_spec {ops:Array Oper} {j i:Nat} (h:waitsOn ops j i=true):∃ oj,ops[j]? = some oj/\∃ e ∈ oj.after,Region.binds .any e=true/\e.on=i:=by
 unfold waitsOn at h
 cases hoj:ops[j]? with
 | none=>simp [hoj] at h
 | some oj =>
  simp only [hoj] at h
  obtain ⟨e,he,hb⟩:=Array.any_eq_true'.1 h
  simp only [Bool.and_eq_true,beq_iff_eq] at hb
  exact ⟨oj,rfl,e,he,hb⟩
theorem bar_spec {ops:Array Oper} {f:Nat} (h:barOk ops f=true) {i:Nat} (hi:i<ops.size) (hne:i ≠ f) :
  (i<f/\∃ j,i<j/\j<=f/\waitsOn ops j i=true)\/(f<i/\∃ j,f<=j/\j<i/\waitsOn ops i j=true):=by
 simp only [barOk,Bool.and_eq_true,decide_eq_true_eq,List.all_eq_true,List.mem_range,Bool.or_eq_true,beq_iff_eq] at h
 rcases h.2 i hi with (h1 | ⟨h1,h2⟩) | ⟨h1,h2⟩
 ·exact (hne h1).elim
 ·obtain ⟨j,_,hj⟩:=List.any_eq_true.1 h2
  simp only [Bool.and_eq_true,decide_eq_true_eq] at hj
  exact .inl ⟨h1,j,hj.1.1,hj.1.2,hj.2⟩
 ·obtain ⟨j,_,hj⟩:=List.any_eq_true.1 h2
  simp only [Bool.and_eq_true,decide_eq_true_eq] at hj
  exact .inr ⟨h1,j,hj.1.1,hj.1.2,hj.2⟩
theorem waits_listed {ops:Array Oper} {listed:Array Bool} (hc:ClosedUp ops listed) {i j:Nat} (hi:i ∈ Region.ready .any ops listed\/listed.getD i false=true) (h:waitsOn ops i j=true):listed.getD j false=true:=by
 obtain ⟨oi,hoi,e,he,hb,rfl⟩:=waitsOn_spec h
 rcases hi with hi | hi
 ·obtain ⟨_,o,ho,hall⟩:=mem_ready.1 hi
  obtain rfl:o=oi:=Option.some.inj (ho.symm.trans hoi)
  exact hall e he hb
 ·exact hc.2 i oi hoi hi e he hb
theorem listed_unready {ops:Array Oper} {listed:Array Bool} {f:Nat} (h:listed.getD f false=true):f ∉ Region.ready .any ops listed:=fun hr=>by
 have:=getD_tf (mem_ready.1 hr).1
 rw [h] at this;cases this
theorem bar_ahead {ops:Array Oper} {f:Nat} (hb:barOk ops f=true) {listed:Array Bool} (hc:ClosedUp ops listed) :
  ∀ d i,f-i=d->i<ops.size->i<f->listed.getD i false=false->f ∉ Region.ready .any ops listed:=by
 intro d
 induction d using Nat.strongRecOn with
 | _ d ih =>
  intro i hd hi hlt hun hr
  rcases bar_spec hb hi (Nat.ne_of_lt hlt) with ⟨_,j,h1,h2,h3⟩ | ⟨h1,_⟩
  ·by_cases hjf:j=f
   ·subst hjf
    have:=waits_listed hc (.inl hr) h3
    rw [hun] at this;cases this
   ·cases hl:listed.getD j false with
    | true =>
     have:=waits_listed hc (.inr hl) h3
     rw [hun] at this;cases this
    | false =>
     have hjs:j<ops.size:=by obtain ⟨oj,hoj,_⟩:=waitsOn_spec h3;exact (Array.getElem?_eq_some_iff.1 hoj).1
     exact ih (f-j) (by omega) j rfl hjs (by omega) hl hr
  ·omega
theorem bar_behind {ops:Array Oper} {f:Nat} (hb:barOk ops f=true) {listed:Array Bool} (hc:ClosedUp ops listed) :
  ∀ i,i<ops.size->f<i->(i ∈ Region.ready .any ops listed\/listed.getD i false=true)->listed.getD f false=true:=by
 intro i
 induction i using Nat.strongRecOn with
 | _ i ih =>
  intro hi hlt hr
  rcases bar_spec hb hi (Nat.ne_of_gt hlt) with ⟨h1,_⟩ | ⟨_,j,h1,h2,h3⟩
  ·omega
  ·have hl:=waits_listed hc hr h3
   by_cases hjf:j=f
   ·subst hjf;exact hl
   ·exact ih j h2 (by omega) (by omega) (.inr hl)
section
variable {P:Program} {ops:Array Oper} {Q:Exit->Act->World->Prop} {R:World->World->Prop}
def wpX (P:Program) (ops:Array Oper) (Q:Exit->Act->World->Prop) (R:World->World->Prop):Nat->Array Bool->World->Act->World->Prop
 | 0,listed,_,a,w=>Region.ready .any ops listed=[]/\Q .normal a w
 | fuel+1,listed,w0,a,w =>
  (Region.ready .any ops listed=[]->Q .normal a w) ∧
  ∀ i ∈ Region.ready .any ops listed,wpOp P ops Q i (fun a' w'=>(barOk ops i=true/\wpX P ops Q R fuel (listed.setIfInBounds i true) w' a' w')\/(R w0 w'/\wpX P ops Q R fuel (listed.setIfInBounds i true) w0 a' w')) a w
theorem wpAny_of_wpX:∀ (fuel:Nat) (listed:Array Bool) (w0:World) (a:Act) (w:World),wpX P ops Q R fuel listed w0 a w->wpAny P .any ops Q fuel listed a w
 | 0,_,_,_,_,h=>h
 | fuel+1,_,_,_,_,h=>⟨h.1,fun i hi=>wpOp_mono (fun a' w' h'=>h'.elim (fun h=>wpAny_of_wpX fuel _ _ a' w' h.2) fun h=>wpAny_of_wpX fuel _ _ a' w' h.2) (h.2 i hi)⟩
theorem wpX_first {w0:World} {i:Nat} {oi:Oper} {v:Value} (hi:ops[i]? = some oi)
  (hsel:∀ (j:Nat) (o:Oper) cs b,ops[j]? = some o->o.op ≠ .select cs b) (hQ:∀ c a w,¬ Q (.panic c) a w) :
  ∀ (fuel:Nat) (listed:Array Bool) (a:Act) (w:World),ClosedUp ops listed →
   (∀ j oj,ops[j]? = some oj->j ≠ i->listed.getD j true=false->(∀ e ∈ oj.after,Region.binds .any e=true->e.on ≠ i)->oi.apart ops oj=true) →
   i ∈ Region.ready .any ops listed->Gives P ops (R w0) oi v a->R w0 w →
   wpX P ops Q R fuel (listed.setIfInBounds i true) w0 (a.put oi.dst v) w->wpX P ops Q R (fuel+1) listed w0 a w:=by
 intro fuel
 induction fuel with
 | zero =>
  intro listed a w _ _ hr hy hS H
  refine ⟨fun h=>(by rw [h] at hr;cases hr),fun j hj=>?_⟩
  by_cases hji:j=i
  ·subst hji;exact hy.wpOp hi hS (.inr ⟨hS,H⟩)
  ·have:=ready_mono hj hji
   rw [H.1] at this
   cases this
 | succ fuel ih =>
  intro listed a w hc hfree hr hy hS H
  refine ⟨fun h=>(by rw [h] at hr;cases hr),fun j hj=>?_⟩
  by_cases hji:j=i
  ·subst hji;exact hy.wpOp hi hS (.inr ⟨hS,H⟩)
  ·have h1:=H.2 j (ready_mono hj hji)
   obtain ⟨hjun,oj,hoj,hall⟩:=mem_ready.1 hj
   have hiun:=(mem_ready.1 hr).1
   have his:i<ops.size:=(Array.getElem?_eq_some_iff.1 hi).1
   have hnot:∀ e ∈ oj.after,Region.binds .any e=true->e.on ≠ i:=fun e he hb heq=>by
    have h1:=hall e he hb
    rw [heq,getD_tf hiun] at h1
    cases h1
   have h2:=wpOp_before hoj (hfree j oj hoj hji hjun hnot) (fun cs b=>hsel i oi cs b hi) (fun cs b=>hsel j oj cs b hoj) hQ hy h1
   refine wpOp_mono (fun a' w' h3=>?_) h2
   rcases h3.2 with ⟨hb,_⟩ | ⟨hS',hrest⟩
   ·exfalso
    rcases Nat.lt_or_ge i j with hij | hij
    ·exact bar_ahead hb hc _ i rfl his hij (getD_tf hiun) hj
    ·exact listed_unready (bar_behind hb hc i his (by omega) (.inl hr)) hj
   ·refine .inr ⟨hS',ih (listed.setIfInBounds j true) a' w' (hc.set hj) (fun k ok hk hki hun hno=>?_) (ready_mono hr (Ne.symm hji)) h3.1 hS' ?_⟩
    ·refine hfree k ok hk hki ?_ hno
     by_cases hjk:j=k
     ·subst hjk;exact hjun
     ·rw [getD_set_ne true hjk] at hun;exact hun
    ·rw [Array.setIfInBounds_comm _ _ hji]
     exact hrest
end
inductive PT where
 | nil
 | take (i:Nat) (r:PT)
 | act (i:Nat) (r:PT)
 | bar (i:Nat) (r:PT)
 | split (i:Nat) (r:PT) (j:Nat) (s:PT)
def ptOk (ops:Array Oper):PT->Array Bool->Bool
 | .nil,listed=>(Region.ready .any ops listed).isEmpty
 | .take i r,listed=>(Region.ready .any ops listed).contains i && Region.free .any ops listed i && ptOk ops r (listed.setIfInBounds i true)
 | .act i r,listed=>decide (Region.ready .any ops listed=[i]) && ptOk ops r (listed.setIfInBounds i true)
 | .bar i r,listed=>decide (Region.ready .any ops listed=[i]) && barOk ops i && ptOk ops r (listed.setIfInBounds i true)
 | .split i r j s,listed=>decide (Region.ready .any ops listed=[i,j]) && ptOk ops r (listed.setIfInBounds i true) && ptOk ops s (listed.setIfInBounds j true)
def ptN:PT->Nat->Bool
 | .nil,n=>n == 0
 | .take _ r,n=>n != 0 && ptN r (n-1)
 | .act _ r,n=>n != 0 && ptN r (n-1)
 | .bar _ r,n=>n != 0 && ptN r (n-1)
 | .split _ r _ s,n=>n != 0 && ptN r (n-1) && ptN s (n-1)
def regOkF (n:Nat) (ops:Array Oper) (pl:PT):Bool :=
 Region.noSelect ops && dstsOk n ops && ptN pl ops.size && ptOk ops pl (Array.replicate ops.size false)
def DoB (P:Program) (ops:Array Oper) (i:Nat) (K:Env->World->Prop) (e:Env) (w:World):Prop :=
 withOp ops i (DoO P ops (fun _ _=>True) K e w)
def WPT (P:Program) (ops:Array Oper) (H:Hold) (Q:Post):PT->Env->World->Prop
 | .nil,e,w=>Q .normal e w
 | .take i r,e,w=>withOp ops i (TakeO P ops H (WPT P ops H Q r) e w)
 | .act i r,e,w=>DoAt P ops H none i (WPT P ops H Q r) e w
 | .bar i r,e,w=>DoB P ops i (WPT P ops H Q r) e w
 | .split i r j s,e,w=>DoAt P ops H none i (WPT P ops H Q r) e w/\DoAt P ops H none j (WPT P ops H Q s) e w
section
variable {P:Program} {ops:Array Oper} {n:Nat} {Q:Post}
theorem wpOp_of_doB {e:Env} {a:Act} (ha:Fr n e a) (hd:dstsOk n ops=true) {i:Nat} {w:World} {K:Env->World->Prop} {K':Act->World->Prop}
  (h:DoB P ops i K e w) (hK:∀ e' a' w',Fr n e' a'->K e' w'->K' a' w'):wpOp P ops (lift n Q) i K' a w:=by
 obtain ⟨o,ho,h⟩:=h
 rcases guardE_cases h with ⟨hw,hdo⟩ | ⟨hw,hrest⟩
 ·exact wpOp_of_do ha hd ho (wanted_of ha hd hw) hdo fun v w' ⟨_,hrest⟩=>hK _ _ _ (ha.put (dst_lt hd ho) v) hrest
 ·unfold wpOp
  simp only [ho]
  rw [if_neg (by simp [unwanted_of ha hd hw])]
  exact hK _ _ _ (ha.put (dst_lt hd ho) undef) hrest
theorem wpX_of_plan {H:Hold} (hsel:Region.noSelect ops=true) (hd:dstsOk n ops=true) (hH:∀ a b c,keeps H a b->keeps H b c->keeps H a c) :
  ∀ (pl:PT) (k:Nat) (listed:Array Bool) (w0:World) (e:Env) (a:Act) (w:World),ptN pl k=true->Fr n e a->ClosedUp ops listed->ptOk ops pl listed=true->keeps H w0 w →
   WPT P ops H Q pl e w->wpX P ops (lift n Q) (keeps H) k listed w0 a w
 | .nil,k,listed,w0,e,a,w,hn,ha,_,hok,_,h=>by
  obtain rfl:k=0:=by simpa [ptN] using hn
  exact ⟨by simpa [ptOk] using hok,e,ha,trivial,h⟩
 | .take i r,0,listed,w0,e,a,w,hn,ha,hc,hok,hk,h=>by simp [ptN] at hn
 | .act i r,0,listed,w0,e,a,w,hn,ha,hc,hok,hk,h=>by simp [ptN] at hn
 | .bar i r,0,listed,w0,e,a,w,hn,ha,hc,hok,hk,h=>by simp [ptN] at hn
 | .split i r j s,0,listed,w0,e,a,w,hn,ha,hc,hok,hk,h=>by simp [ptN] at hn
 | .take i r,k+1,listed,w0,e,a,w,hn,ha,hc,hok,hk,h=>by
  obtain ⟨o,ho,h⟩:=h
  have hn':ptN r k=true:=by simpa [ptN] using hn
  simp only [ptOk,Bool.and_eq_true] at hok
  obtain ⟨⟨hr,hf⟩,hok⟩:=hok
  have hr':i ∈ Region.ready .any ops listed:=by simpa using hr
  have go:∀ v,Gives P ops (keeps H w0) o v a->WPT P ops H Q r (updO e o.dst v) w →
    wpX P ops (lift n Q) (keeps H) (k+1) listed w0 a w:=fun v hg hw =>
   wpX_first ho (Region.noSelect_spec hsel) lift_panic k listed a w hc (Region.free_spec ho hf) hr' hg hk
    (wpX_of_plan hsel hd hH r k _ _ _ _ _ hn' (ha.put (dst_lt hd ho) v) (hc.set hr') hok hk hw)
  rcases guardE_cases h with ⟨hw,v,hv,hrest⟩ | ⟨hw,hrest⟩
  ·refine go v (.inl ⟨wanted_of ha hd hw,fun w' hk2=>?_⟩) hrest
   rw [ha.eval]
   exact tk_sound hv fun b hb=>(keeps_reads hk2 hb).trans (keeps_reads hk hb).symm
  ·exact go undef (.inr ⟨unwanted_of ha hd hw,rfl⟩) hrest
 | .act i r,k+1,listed,w0,e,a,w,hn,ha,hc,hok,hk,h=>by
  have hn':ptN r k=true:=by simpa [ptN] using hn
  simp only [ptOk,Bool.and_eq_true,decide_eq_true_eq] at hok
  obtain ⟨hr,hok⟩:=hok
  have hr':i ∈ Region.ready .any ops listed:=by rw [hr];simp
  refine ⟨fun h0=>(by rw [h0] at hr;cases hr),fun j hj=>?_⟩
  obtain rfl:j=i:=by rw [hr] at hj;simpa using hj
  refine wpOp_of_doAt ha hd h fun e' a' w' ha' hkk hrest=>?_
  have hk1:=hH _ _ _ hk (hkk.resolve_left (by simp))
  exact .inr ⟨hk1,wpX_of_plan hsel hd hH r k _ _ _ _ _ hn' ha' (hc.set hr') hok hk1 hrest⟩
 | .bar i r,k+1,listed,w0,e,a,w,hn,ha,hc,hok,hk,h=>by
  have hn':ptN r k=true:=by simpa [ptN] using hn
  simp only [ptOk,Bool.and_eq_true,decide_eq_true_eq] at hok
  obtain ⟨⟨hr,hb⟩,hok⟩:=hok
  have hr':i ∈ Region.ready .any ops listed:=by rw [hr];simp
  refine ⟨fun h0=>(by rw [h0] at hr;cases hr),fun j hj=>?_⟩
  obtain rfl:j=i:=by rw [hr] at hj;simpa using hj
  refine wpOp_of_doB ha hd h fun e' a' w' ha' hrest=>.inl ⟨hb,?_⟩
  exact wpX_of_plan hsel hd hH r k _ _ _ _ _ hn' ha' (hc.set hr') hok (keeps_refl _ _) hrest
 | .split i r j s,k+1,listed,w0,e,a,w,hn,ha,hc,hok,hk,h=>by
  have hn':ptN r k=true/\ptN s k=true:=by simpa [ptN] using hn
  simp only [ptOk,Bool.and_eq_true,decide_eq_true_eq] at hok
  obtain ⟨⟨hr,hok1⟩,hok2⟩:=hok
  have hi':i ∈ Region.ready .any ops listed:=by rw [hr];simp
  have hj':j ∈ Region.ready .any ops listed:=by rw [hr];simp
  refine ⟨fun h0=>(by rw [h0] at hr;cases hr),fun m hm=>?_⟩
  rw [hr] at hm
  rcases List.mem_cons.1 hm with rfl | hm
  ·refine wpOp_of_doAt ha hd h.1 fun e' a' w' ha' hkk hrest=>?_
   have hk1:=hH _ _ _ hk (hkk.resolve_left (by simp))
   exact .inr ⟨hk1,wpX_of_plan hsel hd hH r k _ _ _ _ _ hn'.1 ha' (hc.set hi') hok1 hk1 hrest⟩
  ·obtain rfl:m=j:=by simpa using hm
   refine wpOp_of_doAt ha hd h.2 fun e' a' w' ha' hkk hrest=>?_
   have hk1:=hH _ _ _ hk (hkk.resolve_left (by simp))
   exact .inr ⟨hk1,wpX_of_plan hsel hd hH s k _ _ _ _ _ hn'.2 ha' (hc.set hj') hok2 hk1 hrest⟩
theorem W_free (H:Hold) (pl:PT) {id:Nat} {e:Env} {w:World} (hm:P.follows .mixedOrders=true)
  (hok:regOkF n ops pl=true) (h:WPT P ops H Q pl e w.drew):W P n (.region id ops true) Q e w:=by
 intro a ha
 simp only [regOkF,Bool.and_eq_true] at hok
 obtain ⟨⟨⟨hsel,hd⟩,hlen⟩,hok⟩:=hok
 refine wp_region_any hm ?_
 have hc:ClosedUp ops (Array.replicate ops.size false):=⟨by simp,fun j oj _ hl=>by
  rcases Nat.lt_or_ge j ops.size with h | h
  ·simp [h] at hl
  ·simp [h] at hl⟩
 exact wpAny_of_wpX _ _ _ _ _ (wpX_of_plan hsel hd (keeps_trans H) pl _ _ w.drew e a w.drew hlen ha hc hok (keeps_refl _ _) h)
end
theorem rgf :
  (∀ {P:Program} {ops:Array Oper} {H:Hold} {Q:Post} {e:Env} {w:World},WPT P ops H Q .nil e w=Q Exit.normal e w) ∧
  (∀ {P:Program} {ops:Array Oper} {H:Hold} {Q:Post} {e:Env} {w:World} (i:Nat) (r:PT),WPT P ops H Q (.take i r) e w=withOp ops i (TakeO P ops H (WPT P ops H Q r) e w)) ∧
  (∀ {P:Program} {ops:Array Oper} {H:Hold} {Q:Post} {e:Env} {w:World} (i:Nat) (r:PT),WPT P ops H Q (.act i r) e w=DoAt P ops H none i (WPT P ops H Q r) e w) ∧
  (∀ {P:Program} {ops:Array Oper} {H:Hold} {Q:Post} {e:Env} {w:World} (i:Nat) (r:PT),WPT P ops H Q (.bar i r) e w=DoB P ops i (WPT P ops H Q r) e w) ∧
  (∀ {P:Program} {ops:Array Oper} {H:Hold} {Q:Post} {e:Env} {w:World} (i j:Nat) (r s:PT),WPT P ops H Q (.split i r j s) e w=(DoAt P ops H none i (WPT P ops H Q r) e w/\DoAt P ops H none j (WPT P ops H Q s) e w)) ∧
  (∀ {P:Program} {ops:Array Oper} {e:Env} {w:World} (i:Nat) (K:Env->World->Prop),DoB P ops i K e w=withOp ops i (DoO P ops (fun _ _=>True) K e w)) :=
 ⟨id (Eq.trans rfl rfl),fun _ _=>id (Eq.trans rfl rfl),fun _ _=>id (Eq.trans rfl rfl),fun _ _=>id (Eq.trans rfl rfl),fun _ _ _ _=>id (Eq.trans rfl rfl),fun _ _=>id (Eq.trans rfl rfl)⟩
end Go.Proofs.Ytbnnkcofnmipoaa
namespace Go.Proofs.Ytbnnkcofnmipoaa
open Go
def resOne (P:Program) (e:Env) (w:World):ResultVar->Option Value
 | .tmp t=>some (e t)
 | .cell a T=>match e a,ldK P T with
  | .pointer (some a),some k=>loadV w a k
  | _,_=>none
def resAll (P:Program) (e:Env) (w:World):List ResultVar->Option (List Value)
 | []=>some []
 | r::rs=>match resOne P e w r,resAll P e w rs with
  | some v,some vs=>some (v::vs)
  | _,_=>none
def resVal:List Value->Value
 | [v]=>v
 | vs=>.tuple vs.toArray
def endQ (P:Program) (rs:List ResultVar) (R:Value->World->Prop):Post
 | .normal,e,w=>bindO ((resAll P e w rs).map resVal) fun v=>R v w
 | .ret,e,w=>bindO ((resAll P e w rs).map resVal) fun v=>R v w
 | _,_,_=>False
def Ret (R:Value->World->Prop):Ending->World->Prop:=fun x w=>∃ v,x = .returned v/\R v w
section
variable {P:Program} {n:Nat} {e:Env} {w:World} {R:Value->World->Prop}
def resSem (tmps:Array Value):ResultVar->Sem Value
 | .tmp t=>pure (tmps.getD t undef)
 | .cell a t=>do loadVar t (← asAddr (tmps.getD a undef))
theorem results_eq (fn:Func) (tmps:Array Value):results fn tmps=(fn.results.mapM (resSem tmps)).bind fun vs=>Sem.pure (if h:vs.size=1 then vs[0] else .tuple vs):=by
 unfold results
 have:(fun x:ResultVar=>match x with
  | .tmp t=>(pure (tmps.getD t undef):Sem Value)
  | .cell a t=>do loadVar t (← asAddr (tmps.getD a undef)))=resSem tmps:=by funext x;cases x<;>rfl
 rw [<-this];rfl
theorem run_resOne {a:Act} (ha:Fr n e a) {r:ResultVar} {v:Value} (h1:resOne P e w r=some v):(resSem a.tmps r).run P w = .ok v w:=by
 cases r with
 | tmp t=>simp only [resOne,Option.some.injEq] at h1;rw [<-h1,<-ha.get t];rfl
 | cell c T =>
  simp only [resOne] at h1
  cases hc:e c with
  | pointer p =>
   cases p with
   | none=>simp [hc] at h1
   | some p =>
    cases hl:ldK P T with
    | none=>simp [hc,hl] at h1
    | some k =>
     simp only [hc,hl] at h1
     simp only [resSem,Sem.run_bind,ha.get c,hc,asAddr,Sem.run_pure,Result.andThen_ok,run_loadVar hl h1]
  | _=>simp [hc] at h1
theorem run_resAll {a:Act} (ha:Fr n e a):∀ (rs:List ResultVar) (vs:List Value),resAll P e w rs=some vs →
  (rs.mapM (resSem a.tmps)).run P w = .ok vs w
 | [],vs,h=>by simp [resAll] at h;subst h;simp
 | r::rs,vs,h=>by
  simp only [resAll] at h
  cases h1:resOne P e w r with
  | none=>simp [h1] at h
  | some v =>
   cases h2:resAll P e w rs with
   | none=>simp [h1,h2] at h
   | some vs' =>
    simp [h1,h2] at h;subst h
    simp only [List.mapM_cons,Sem.run_bind,run_resOne ha h1,run_resAll ha rs vs' h2,Result.andThen_ok,Sem.run_pure]
theorem run_results {fn:Func} {rs:List ResultVar} (hr:fn.results=rs.toArray) {a:Act} (ha:Fr n e a) {vs:List Value} (h:resAll P e w rs=some vs) :
  (results fn a.tmps).run P w = .ok (resVal vs) w:=by
 have h2:(rs.toArray.mapM (resSem a.tmps)).run P w = .ok vs.toArray w:=by
  rw [Array.mapM_eq_mapM_toList,Sem.run_map,run_resAll ha rs vs h];rfl
 rw [results_eq,hr,Sem.run_bind',h2]
 match vs with
 | []=>rfl
 | [v]=>rfl
 | a::b::l =>
  simp only [Result.andThen_ok,Sem.run_pure']
  rw [dif_neg (by simp)]
  rfl
theorem calls_of_W {f:FuncId} {fn:Func} {c:Code} (rs:List ResultVar) {args:List Value} (hf:P.funcs[f]? = some fn) (hb:fn.body=some c) (hn:fn.ntmps=n)
  (hr:fn.results=rs.toArray) (hlen:args.length<=n)
  (h:∀ e:Env,(∀ i v,args[i]? = some v->e i=v)->W P n c (endQ P rs R) e w):Calls P f args.toArray w (Ret R):=by
 refine calls_of_wp hf hb ?_
 rw [hn]
 let a:Act:={ tmps:=args.toArray++Array.replicate (n-args.toArray.size) undef,defers:=[] }
 let e:Env:=fun t=>a.tmps.getD t undef
 have ha:Fr n e a:=⟨rfl,by simp [a];omega,fun _=>rfl⟩
 have:=h e (fun i v hi=>by
  have hlt:i<args.length:=(List.getElem?_eq_some_iff.1 hi).1
  have hv:args[i]=v:=by rw [List.getElem?_eq_getElem hlt] at hi;exact Option.some.inj hi
  show a.tmps.getD i undef=v
  have h1:i<a.tmps.size:=by simp [a];omega
  simp only [Array.getD,h1,dite_true]
  show (args.toArray++_)[i]=v
  rw [Array.getElem_append_left (by simpa using hlt)]
  simpa using hv) a ha
 refine wp_mono this fun ex a' w' ⟨e',hf',hx,hq⟩=>?_
 cases ex with
 | normal =>
  obtain ⟨v,hv,hR⟩:=hq
  simp only [Option.map_eq_some_iff] at hv
  obtain ⟨vs,hvs,rfl⟩:=hv
  exact ⟨hf'.defers,_,run_results hr hf' hvs,_,rfl,hR⟩
 | ret =>
  obtain ⟨v,hv,hR⟩:=hq
  simp only [Option.map_eq_some_iff] at hv
  obtain ⟨vs,hvs,rfl⟩:=hv
  exact ⟨hf'.defers,_,run_results hr hf' hvs,_,rfl,hR⟩
 | _=>exact hq.elim
theorem endQ_0 (h:R (.tuple #[]) w):endQ P [] R .ret e w:=⟨.tuple #[],rfl,h⟩
theorem endQ_0n (h:R (.tuple #[]) w):endQ P [] R .normal e w:=⟨.tuple #[],rfl,h⟩
theorem endQ_1 {t:Nat} {v:Value} (ht:e t=v) (h:R v w):endQ P [.tmp t] R .ret e w:=⟨v,by simp [resAll,resOne,ht,resVal],h⟩
theorem endQ_2 {t u:Nat} {v x:Value} (ht:e t=v) (hu:e u=x) (h:R (.tuple #[v,x]) w):endQ P [.tmp t,.tmp u] R .ret e w :=
 ⟨.tuple #[v,x],by simp [resAll,resOne,ht,hu,resVal],h⟩
theorem endQ_c {a T:Nat} {k:Option Nat} {ad:Addr} {v:Value} (ha:e a = .pointer (some ad)) (hl:ldK P T=some k) (hv:loadV w ad k=some v) (h:R v w) :
  endQ P [.cell a T] R .ret e w:=⟨v,by simp [resAll,resOne,ha,hl,hv,resVal],h⟩
theorem endQ_tc {t a T:Nat} {k:Option Nat} {ad:Addr} {x v:Value} (ht:e t=x) (ha:e a = .pointer (some ad)) (hl:ldK P T=some k) (hv:loadV w ad k=some v) (h:R (.tuple #[x,v]) w) :
  endQ P [.tmp t,.cell a T] R .ret e w:=⟨.tuple #[x,v],by simp [resAll,resOne,ht,ha,hl,hv,resVal],h⟩
theorem endQ_ct {t a T:Nat} {k:Option Nat} {ad:Addr} {x v:Value} (ha:e a = .pointer (some ad)) (ht:e t=x) (hl:ldK P T=some k) (hv:loadV w ad k=some v) (h:R (.tuple #[v,x]) w) :
  endQ P [.cell a T,.tmp t] R .ret e w:=⟨.tuple #[v,x],by simp [resAll,resOne,ht,ha,hl,hv,resVal],h⟩
theorem endQ_ctt {t u a T:Nat} {k:Option Nat} {ad:Addr} {x y v:Value} (ha:e a = .pointer (some ad)) (ht:e t=x) (hu:e u=y) (hl:ldK P T=some k) (hv:loadV w ad k=some v) (h:R (.tuple #[v,x,y]) w) :
  endQ P [.cell a T,.tmp t,.tmp u] R .ret e w:=⟨.tuple #[v,x,y],by simp [resAll,resOne,ht,hu,ha,hl,hv,resVal],h⟩
def isFn (P:Program) (f:Nat):Bool :=
 match P.funcs[f]? with
 | some fn=>!(fn.name == "runtime.NumGoroutine") && fn.body.isSome
 | none=>false
theorem run_callFunc {f:Nat} (h:isFn P f=true) (args:Array Value) (w:World):(callFunc f args).run P w = .ok (.enter f args) w:=by
 unfold isFn at h
 cases hf:P.funcs[f]? with
 | none=>simp [hf] at h
 | some fn =>
  simp only [hf,Bool.and_eq_true,Bool.not_eq_true'] at h
  have h2:fn.body.isNone=false:=by cases hb:fn.body with
   | none=>rw [hb] at h;cases h.2
   | some c=>rfl
  unfold callFunc
  simp only [Sem.run_bind,run_program,Result.andThen_ok,hf,h.1,h2,Bool.false_eq_true,if_false,Sem.run_pure]
def CallK (P:Program) (f:Nat) (args:Array Value) (w:World) (K:Value->World->Prop):Prop:=Calls P f args w (Ret K)
theorem CallK_mono {f:Nat} {args:Array Value} {K K':Value->World->Prop} (h:CallK P f args w K) (hk:∀ v w',K v w'->K' v w'):CallK P f args w K' :=
 Calls.mono h fun _ _ ⟨v,hx,hv⟩=>⟨v,hx,hk _ _ hv⟩
theorem DoOp_callf {d:Option Nat} {f:Nat} {args:Array Operand} {tys:Array Nat} {ty:Nat} {pos:String} {af:Array Edge} {g:Option (Nat × Bool)} {K:Value->World->Prop} (hf:isFn P f=true) :
  DoOp P e w ⟨d,.call ⟨.value (.func f),args,tys⟩,ty,pos,af,g⟩ K=CallK P f (args.map (ev e)) w K:=by
 simp [DoOp,execOp,resolve,Deferred.ofValue,ev,invoke,run_callFunc hf,CallK]
 rfl
def CallV (P:Program) (x:Value) (args:Array Value) (w:World) (K:Value->World->Prop):Prop :=
 match x with
 | .func (.func f) first captured=>isFn P f=true/\CallK P f (first++args++captured) w K
 | _=>False
theorem DoOp_callv {d:Option Nat} {t:Nat} {args:Array Operand} {tys:Array Nat} {ty:Nat} {pos:String} {af:Array Edge} {g:Option (Nat × Bool)} {K:Value->World->Prop}
  (h:CallV P (e t) (args.map (ev e)) w K):DoOp P e w ⟨d,.call ⟨.value (.tmp t),args,tys⟩,ty,pos,af,g⟩ K:=by
 unfold CallV at h
 cases he:e t with
 | func fn first captured =>
  rw [he] at h
  cases fn with
  | func f =>
   obtain ⟨hf,h⟩:=h
   simp [DoOp,execOp,resolve,Deferred.ofValue,ev,he,invoke,run_callFunc hf]
   rw [<-Array.append_assoc];exact h
  | _=>exact h.elim
 | _=>rw [he] at h;exact h.elim
end
end Go.Proofs.Ytbnnkcofnmipoaa
namespace Go.Proofs.Ytbnnkcofnmipoaa
open Go
def rd (w:World) (b o:Nat):Option Value:=w.cell? ⟨b,o,none⟩
def rdA (w:World) (b o n:Nat):Option Value:=(cellsFrom w ⟨b,o,none⟩ 0 n).map fun l=>.agg l.toArray
def tyN:Nat:=249
def wok (w:World) (b n:Nat):Prop:=∃ arr T,w.heap[b]? = some (.cells arr T (0,0))/\n<=arr.size/\T<tyN
def wokR (w:World) (b o k:Nat):Prop:=∃ arr T fr,w.heap[b]? = some (.cells arr T fr)/\(k=0\/o+k<=arr.size)/\∀ j,o<=j->j<o+k->¬ (fr.1<=j/\j<fr.2)
def Row (w:World) (b o:Nat) (l:List Value):Prop:=∀ i v,l[i]? = some v->rd w b (o+i)=some v
def oc (l:List Value):Prop:=∀ v ∈ l,v.oneCell'=true
theorem add_mk (b o n:Nat):Addr.add ⟨b,o,none⟩ n=⟨b,o+n,none⟩:=by
 unfold Addr.add;split
 ·rename_i h;subst h;rfl
 ·rfl
theorem loadV_some (w:World) (b o n:Nat):loadV w ⟨b,o,none⟩ (some n)=rdA w b o n:=rfl
theorem rd_drew (w:World) (b o:Nat):rd w.drew b o=rd w b o:=id (Eq.trans rfl rfl)
theorem cellsFrom_drew (w:World) (a:Addr):∀ n i,cellsFrom w.drew a i n=cellsFrom w a i n:=fun n i=>cellsFrom_of_heap (w:=w) (w':=w.drew) rfl n i
theorem rdA_drew (w:World) (b o n:Nat):rdA w.drew b o n=rdA w b o n:=by simp only [rdA,cellsFrom_drew]
theorem Row.cellsFrom {w:World} {b o:Nat} {l:List Value} (h:Row w b o l):∀ n i,i+n<=l.length->cellsFrom w ⟨b,o,none⟩ i n=some ((l.drop i).take n)
 | 0,i,_=>by simp [Go.Proofs.Ytbnnkcofnmipoaa.cellsFrom]
 | n+1,i,hi=>by
  have hlt:i<l.length:=by omega
  have h1:w.cell? (Addr.add ⟨b,o,none⟩ i)=some l[i]:=by rw [add_mk];exact h i _ (List.getElem?_eq_getElem hlt)
  simp only [Go.Proofs.Ytbnnkcofnmipoaa.cellsFrom,h1,Row.cellsFrom h n (i+1) (by omega),Option.map_some]
  congr 1
  rw [List.drop_eq_getElem_cons hlt,List.take_succ_cons]
theorem Row.rdA {w:World} {b o:Nat} {l:List Value} (h:Row w b o l) (n:Nat) (hn:n<=l.length):rdA w b o n=some (.agg (l.take n).toArray):=by
 simp [Go.Proofs.Ytbnnkcofnmipoaa.rdA,h.cellsFrom n 0 (by omega)]
theorem Row.nil (w:World) (b o:Nat):Row w b o []:=fun i v h=>by simp at h
theorem Row.cons {w:World} {b o:Nat} {v:Value} {l:List Value}:Row w b o (v::l) ↔ rd w b o=some v/\Row w b (o+1) l:=by
 constructor
 ·intro h
  refine ⟨h 0 v rfl,fun i u hu=>?_⟩
  have:=h (i+1) u (by simpa using hu)
  rwa [show o+(i+1)=o+1+i by omega] at this
 ·rintro ⟨h0,h⟩ i u hu
  cases i with
  | zero=>simp at hu;subst hu;exact h0
  | succ i=>have:=h i u (by simpa using hu);rwa [show o+(i+1)=o+1+i by omega]
theorem Row.append {w:World} {b o:Nat} {l m:List Value}:Row w b o (l++m) ↔ Row w b o l/\Row w b (o+l.length) m:=by
 induction l generalizing o with
 | nil=>simp [Row.nil]
 | cons v l ih=>simp only [List.cons_append,Row.cons,ih,List.length_cons,and_assoc];rw [show o+1+l.length=o+(l.length+1) by omega]
theorem Row.take {w:World} {b o:Nat} {l:List Value} (h:Row w b o l) (n:Nat):Row w b o (l.take n):=fun i v hi=>by
 rw [List.getElem?_take] at hi;split at hi
 ·exact h i v hi
 ·cases hi
theorem Row.drop {w:World} {b o:Nat} {l:List Value} (h:Row w b o l) (n:Nat):Row w b (o+n) (l.drop n):=fun i v hi=>by
 rw [List.getElem?_drop] at hi
 have:=h (n+i) v hi
 rwa [show o+(n+i)=o+n+i by omega] at this
theorem Row.of_eq {w:World} {b o o':Nat} {l l':List Value} (h:Row w b o l) (ho:o=o') (hl:l=l'):Row w b o' l':=ho ▸ hl ▸ h
structure Ext (F:Nat->Nat->Prop) (w w':World):Prop where
 os:w'.os=w.os
 output:w'.output=w.output
 tape:w'.tape=w.tape
 size:w.heap.size<=w'.heap.size
 cells:∀ (b:Nat) arr T fr,w.heap[b]? = some (.cells arr T fr)->∃ arr',w'.heap[b]? = some (.cells arr' T fr)/\arr'.size=arr.size/\∀ o,¬ F b o->arr'[o]? = arr[o]?
 other:∀ (b:Nat) x,w.heap[b]? = some x->(∀ arr T fr,x ≠ Obj.cells arr T fr)->w'.heap[b]? = some x
def noF:Nat->Nat->Prop:=fun _ _=>False
def rng (b o n:Nat):Nat->Nat->Prop:=fun b' o'=>b'=b/\o<=o'/\o'<o+n
def fromB (B:Nat):Nat->Nat->Prop:=fun b _=>B<=b
theorem Ext.refl (F:Nat->Nat->Prop) (w:World):Ext F w w:=⟨rfl,rfl,rfl,Nat.le_refl _,fun _ arr _ _ h=>⟨arr,h,rfl,fun _ _=>rfl⟩,fun _ _ h _=>h⟩
theorem Ext.of_heap {F:Nat->Nat->Prop} {w w':World} (h1:w'.os=w.os) (h2:w'.output=w.output) (h3:w'.tape=w.tape) (h:w'.heap=w.heap):Ext F w w' :=
 ⟨h1,h2,h3,by rw [h];exact Nat.le_refl _,fun _ arr _ _ hb=>⟨arr,by rw [h];exact hb,rfl,fun _ _=>rfl⟩,fun _ _ hb _=>by rw [h];exact hb⟩
theorem Ext.drew (F:Nat->Nat->Prop) (w:World):Ext F w w.drew:=Ext.of_heap rfl rfl rfl rfl
theorem lt_of_some {w:World} {b:Nat} {x:Obj} (h:w.heap[b]? = some x):b<w.heap.size:=(Array.getElem?_eq_some_iff.1 h).1
theorem Ext.trans {F G H:Nat->Nat->Prop} {a b c:World} (h:Ext F a b) (k:Ext G b c) (hF:∀ x o,F x o->H x o) (hG:∀ x o,x<a.heap.size->G x o->H x o):Ext H a c :=
 ⟨k.os.trans h.os,k.output.trans h.output,k.tape.trans h.tape,Nat.le_trans h.size k.size,fun x arr T fr hx=>by
  obtain ⟨a1,h1,s1,c1⟩:=h.cells x arr T fr hx
  obtain ⟨a2,h2,s2,c2⟩:=k.cells x a1 T fr h1
  exact ⟨a2,h2,s2.trans s1,fun o ho=>(c2 o fun hg=>ho (hG x o (lt_of_some hx) hg)).trans (c1 o fun hf=>ho (hF x o hf))⟩,
  fun x y hx hn=>k.other x y (h.other x y hx hn) hn⟩
theorem Ext.mono {F G:Nat->Nat->Prop} {a b:World} (h:Ext F a b) (hFG:∀ x o,x<a.heap.size->F x o->G x o):Ext G a b :=
 ⟨h.os,h.output,h.tape,h.size,fun x arr T fr hx=>by
  obtain ⟨a1,h1,s1,c1⟩:=h.cells x arr T fr hx
  exact ⟨a1,h1,s1,fun o ho=>c1 o fun hf=>ho (hFG x o (lt_of_some hx) hf)⟩,h.other⟩
theorem Ext.tr {F:Nat->Nat->Prop} {a b c:World} (h:Ext F a b) (k:Ext F b c):Ext F a c:=h.trans k (fun _ _ h=>h) fun _ _ _ h=>h
theorem rd_some {w:World} {b o:Nat} {v:Value} (h:rd w b o=some v):∃ arr T fr,w.heap[b]? = some (.cells arr T fr)/\arr[o]? = some v:=by
 unfold rd World.cell? at h
 split at h
 ·rename_i c e f hb;simp at h;exact ⟨c,e,f,hb,h⟩
 ·cases h
theorem rd_of {w:World} {b o:Nat} {arr:Array Value} {T:Nat} {fr:Nat × Nat} (h:w.heap[b]? = some (.cells arr T fr)):rd w b o=arr[o]?:=by
 simp [rd,World.cell?,h]
theorem rd_lt {w:World} {b o:Nat} {v:Value} (h:rd w b o=some v):b<w.heap.size:=by
 obtain ⟨_,_,_,hb,_⟩:=rd_some h;exact lt_of_some hb
theorem Ext.rd {F:Nat->Nat->Prop} {w w':World} (h:Ext F w w') {b o:Nat} {v:Value} (hv:rd w b o=some v) (hF:¬ F b o):rd w' b o=some v:=by
 obtain ⟨arr,T,fr,hb,ho⟩:=rd_some hv
 obtain ⟨arr',hb',_,hc⟩:=h.cells b arr T fr hb
 rw [rd_of hb',hc o hF,ho]
theorem Ext.row {F:Nat->Nat->Prop} {w w':World} (h:Ext F w w') {b o:Nat} {l:List Value} (hr:Row w b o l) (hF:∀ i,i<l.length->¬ F b (o+i)):Row w' b o l :=
 fun i v hi=>h.rd (hr i v hi) (hF i (List.getElem?_eq_some_iff.1 hi).1)
theorem Ext.wok {F:Nat->Nat->Prop} {w w':World} (h:Ext F w w') {b n:Nat} (hw:wok w b n):wok w' b n:=by
 obtain ⟨arr,T,hb,hn,hT⟩:=hw
 obtain ⟨arr',hb',hs,_⟩:=h.cells b arr T _ hb
 exact ⟨arr',T,hb',by omega,hT⟩
theorem wok_lt {w:World} {b n:Nat} (h:wok w b n):b<w.heap.size:=by obtain ⟨_,_,hb,_⟩:=h;exact lt_of_some hb
theorem wok.mono {w:World} {b n m:Nat} (h:wok w b n) (hm:m<=n):wok w b m:=by obtain ⟨a,T,hb,hn,hT⟩:=h;exact ⟨a,T,hb,by omega,hT⟩
theorem wok.R {w:World} {b n o k:Nat} (h:wok w b n) (hk:o+k<=n):wokR w b o k:=by
 obtain ⟨arr,T,hb,hn⟩:=h
 exact ⟨arr,T,(0,0),hb,by omega,fun j _ _ h=>by simp at h⟩
theorem Ext.wokR {F:Nat->Nat->Prop} {w w':World} (h:Ext F w w') {b o k:Nat} (hw:wokR w b o k):wokR w' b o k:=by
 obtain ⟨arr,T,fr,hb,hn,hf⟩:=hw
 obtain ⟨arr',hb',hs,_⟩:=h.cells b arr T _ hb
 exact ⟨arr',T,fr,hb',by omega,hf⟩
theorem wokR_lt {w:World} {b o k:Nat} (h:wokR w b o k):b<w.heap.size:=by obtain ⟨_,_,_,hb,_⟩:=h;exact lt_of_some hb
theorem Ext.block {F:Nat->Nat->Prop} {w w':World} (h:Ext F w w') {b:Nat} (hb:b<w.heap.size) (hF:∀ o,¬ F b o):w'.heap[b]? = w.heap[b]?:=by
 have hx:w.heap[b]? = some w.heap[b]:=Array.getElem?_eq_getElem hb
 by_cases hc:∃ arr T fr,w.heap[b] = .cells arr T fr
 ·obtain ⟨arr,T,fr,he⟩:=hc
  rw [he] at hx
  obtain ⟨arr',hb',hs,hcs⟩:=h.cells b arr T fr hx
  have:arr'=arr:=Array.ext_getElem? fun i=>hcs i (hF i)
  rw [hb',hx,this]
 ·rw [hx];exact h.other b _ hx fun arr T fr he=>hc ⟨arr,T,fr,he⟩
def dr (w:World) (n:Nat):World:={ w with drawn:=n }
theorem drew_dr (w:World):w.drew=dr w (w.drawn+1):=id (Eq.trans rfl rfl)
theorem dr_drew (w:World) (n:Nat):(dr w n).drew=dr w (n+1):=id (Eq.trans rfl rfl)
theorem dr_dr (w:World) (n m:Nat):dr (dr w n) m=dr w m:=id (Eq.trans rfl rfl)
theorem rd_dr (w:World) (n b o:Nat):rd (dr w n) b o=rd w b o:=id (Eq.trans rfl rfl)
theorem rdA_dr (w:World) (n b o k:Nat):rdA (dr w n) b o k=rdA w b o k:=by
 simp only [rdA,cellsFrom_of_heap (w:=w) (w':=dr w n) rfl]
theorem Ext.dr (F:Nat->Nat->Prop) (w:World) (n:Nat):Ext F w (dr w n):=Ext.of_heap rfl rfl rfl rfl
def RO (w w':World):Prop:=∃ n,w'=Go.Proofs.Ytbnnkcofnmipoaa.dr w n
theorem RO.dr (w:World) (n:Nat):RO w (Go.Proofs.Ytbnnkcofnmipoaa.dr w n):=⟨n,rfl⟩
theorem RO.tr {a b c:World} (h:RO a b) (k:RO b c):RO a c:=by obtain ⟨n,rfl⟩:=h;obtain ⟨m,rfl⟩:=k;exact ⟨m,rfl⟩
theorem RO.ext {F:Nat->Nat->Prop} {a b:World} (h:RO a b):Ext F a b:=by obtain ⟨n,rfl⟩:=h;exact Ext.dr F a n
def putL (arr:Array Value) (o:Nat):List Value->Array Value
 | []=>arr
 | v::r=>putL (arr.setIfInBounds o v) (o+1) r
theorem putL_size:∀ (l:List Value) (arr:Array Value) (o:Nat),(putL arr o l).size=arr.size
 | [],_,_=>rfl
 | v::r,arr,o=>by simp [putL,putL_size r]
theorem putL_out:∀ (l:List Value) (arr:Array Value) (o i:Nat),¬ (o<=i/\i<o+l.length)->(putL arr o l)[i]? = arr[i]?
 | [],_,_,_,_=>rfl
 | v::r,arr,o,i,h=>by
  simp only [List.length_cons] at h
  rw [putL,putL_out r _ _ _ (by omega),Array.getElem?_setIfInBounds_ne (by omega)]
theorem putL_in:∀ (l:List Value) (arr:Array Value) (o i:Nat),o+l.length<=arr.size->i<l.length->(putL arr o l)[o+i]? = l[i]?
 | v::r,arr,o,0,h,_=>by
  simp only [List.length_cons] at h
  rw [putL,Nat.add_zero,putL_out r _ _ _ (by omega)]
  have:o<arr.size:=by omega
  simp [this]
 | v::r,arr,o,i+1,h,hi=>by
  simp only [List.length_cons] at h hi
  have:=putL_in r (arr.setIfInBounds o v) (o+1) i (by simp;omega) (by omega)
  rw [show o+(i+1)=o+1+i by omega,putL,this]
  simp
def putW (w:World) (b o:Nat) (l:List Value):World :=
 { w with heap:=w.heap.modify b fun | .cells c T f=>.cells (putL c o l) T f | x=>x }
theorem putW_heap {w:World} {b o:Nat} {l:List Value} {arr:Array Value} {T:Nat} {fr:Nat × Nat} (h:w.heap[b]? = some (.cells arr T fr)) (b':Nat) :
  (putW w b o l).heap[b']? = if b'=b then some (.cells (putL arr o l) T fr) else w.heap[b']?:=by
 simp only [putW,Array.getElem?_modify]
 by_cases hb:b=b'
 ·subst hb;simp [h]
 ·rw [if_neg hb,if_neg (Ne.symm hb)]
theorem putW_extR {w:World} {b o k p:Nat} {l:List Value} (h:wokR w b o k):Ext (rng b p l.length) w (putW w b p l):=by
 obtain ⟨arr,T,fr0,hb,_⟩:=h
 refine ⟨rfl,rfl,rfl,by simp [putW],fun x a1 T1 fr hx=>?_,fun x y hx hn=>?_⟩
 ·rw [putW_heap hb]
  by_cases hxb:x=b
  ·subst hxb
   rw [hb] at hx
   simp only [Option.some.injEq,Obj.cells.injEq] at hx
   obtain ⟨rfl,rfl,rfl⟩:=hx
   rw [if_pos rfl]
   exact ⟨_,rfl,putL_size _ _ _,fun i hi=>putL_out _ _ _ _ fun hh=>hi ⟨rfl,hh⟩⟩
  ·rw [if_neg hxb];exact ⟨a1,hx,rfl,fun _ _=>rfl⟩
 ·rw [putW_heap hb]
  by_cases hxb:x=b
  ·subst hxb;rw [hb] at hx;cases hx;exact (hn _ _ _ rfl).elim
  ·rw [if_neg hxb];exact hx
theorem putW_ext {w:World} {b n o:Nat} {l:List Value} (h:wok w b n):Ext (rng b o l.length) w (putW w b o l):=putW_extR (h.R (o:=0) (k:=n) (by omega))
theorem putW_rowR {w:World} {b o k p:Nat} {l:List Value} (h:wokR w b o k) (ho:o<=p) (hn:p+l.length<=o+k):Row (putW w b p l) b p l:=by
 obtain ⟨arr,T,fr,hb,hs,_⟩:=h
 intro i v hi
 have hlt:=(List.getElem?_eq_some_iff.1 hi).1
 have h1:(putW w b p l).heap[b]? = some (.cells (putL arr p l) T fr):=by rw [putW_heap hb,if_pos rfl]
 rw [rd_of h1,putL_in _ _ _ _ (by omega) hlt,hi]
theorem putW_row {w:World} {b n o:Nat} {l:List Value} (h:wok w b n) (hn:o+l.length<=n):Row (putW w b o l) b o l:=putW_rowR (h.R (o:=0) (k:=n) (by omega)) (by omega) (by omega)
theorem modify_same {w:World} {b:Nat} {f:Obj->Obj} (h:∀ x,w.heap[b]? = some x->f x=x):w.heap.modify b f=w.heap:=by
 apply Array.ext_getElem?
 intro i
 rw [Array.getElem?_modify]
 split
 ·rename_i hb;subst hb
  cases hx:w.heap[b]? with
  | none=>rfl
  | some x=>simp [h x hx]
 ·rfl
theorem run_storeCellsR {P:Program}:∀ (l:List Value) (w:World) (b lo k o i:Nat),wokR w b lo k->lo<=o+i->o+i+l.length<=lo+k->oc l →
  (storeCells ⟨b,o,none⟩ l i).run P w = .ok () (putW w b (o+i) l)
 | [],w,b,lo,k,o,i,_,_,_,_=>by
  have:putW w b (o+i) []=w:=by
   have hm:w.heap.modify b (fun | .cells c T f=>.cells (putL c (o+i) []) T f | x=>x)=w.heap:=modify_same fun x _=>by cases x<;>rfl
   show ({ w with heap:=_ }:World)=w
   rw [hm]
  rw [this];simp [storeCells]
 | v::r,w,b,lo,k,o,i,hw,hlo,hn,ho=>by
  simp only [List.length_cons] at hn
  have hwc:=hw
  obtain ⟨arr,T,fr,hb,hs,hfr⟩:=hw
  have hv:v.oneCell'=true:=ho v (by simp)
  have hc:w.cell? (Addr.add ⟨b,o,none⟩ i)=some arr[o+i]:=by
   rw [add_mk];exact (rd_of hb).trans (Array.getElem?_eq_getElem (by omega))
  have hf:w.frozen? (Addr.add ⟨b,o,none⟩ i)=false:=by
   rw [add_mk]
   have:=hfr (o+i) hlo (by omega)
   simp only [World.frozen?,hb]
   cases fr with
   | mk x y=>simp at this ⊢;exact this
  have hset:w.setCell (Addr.add ⟨b,o,none⟩ i) v=putW w b (o+i) [v]:=by
   rw [add_mk]
   simp only [World.setCell,putW,putL]
   rfl
  have hw':wokR (putW w b (o+i) [v]) b lo k:=(putW_extR hwc).wokR hwc
  have ih:=run_storeCellsR (P:=P) r (putW w b (o+i) [v]) b lo k o (i+1) hw' (by omega) (by omega) fun u hu=>ho u (by simp [hu])
  have hcomp:putW (putW w b (o+i) [v]) b (o+(i+1)) r=putW w b (o+i) (v::r):=by
   simp only [putW]
   congr 1
   apply Array.ext_getElem?
   intro k
   simp only [Array.getElem?_modify]
   by_cases hk:b=k
   ·subst hk;simp [hb,putL,show o+(i+1)=o+i+1 by omega]
   ·simp [hk]
  simp only [storeCells,Sem.run_bind,run_store P w _ v .plain hv,hc,hf,Bool.false_eq_true,if_false,Result.andThen_ok,hset,ih,hcomp]
theorem run_storeCells {P:Program} (l:List Value) (w:World) (b n o i:Nat) (h:wok w b n) (hn:o+i+l.length<=n) (ho:oc l) :
  (storeCells ⟨b,o,none⟩ l i).run P w = .ok () (putW w b (o+i) l):=run_storeCellsR l w b 0 n o i (h.R (by omega)) (by omega) (by omega) ho
theorem alloc_heap (w:World) (x:Obj) (b:Nat):(w.alloc x).heap[b]? = if b=w.heap.size then some x else w.heap[b]?:=by
 simp only [World.alloc,Array.getElem?_push]
theorem alloc_ext (w:World) (x:Obj):Ext noF w (w.alloc x):=by
 refine ⟨rfl,rfl,rfl,by rw [World.size_alloc];omega,fun b arr T fr hb=>⟨arr,?_,rfl,fun _ _=>rfl⟩,fun b y hb _=>?_⟩
 ·rw [alloc_heap,if_neg (Nat.ne_of_lt (lt_of_some hb))];exact hb
 ·rw [alloc_heap,if_neg (Nat.ne_of_lt (lt_of_some hb))];exact hb
theorem alloc_row (w:World) (l:List Value) (T:Nat):Row (w.alloc (.cells l.toArray T)) w.heap.size 0 l:=fun i v hi=>by
 have h1:(w.alloc (.cells l.toArray T)).heap[w.heap.size]? = some (.cells l.toArray T (0,0)):=by rw [alloc_heap,if_pos rfl]
 rw [rd_of h1,Nat.zero_add];simpa using hi
theorem alloc_wok (w:World) (l:List Value) (T:Nat) (hT:T<tyN):wok (w.alloc (.cells l.toArray T)) w.heap.size l.length :=
 ⟨l.toArray,T,by rw [alloc_heap,if_pos rfl],by simp,hT⟩
structure New (w w':World) (l:List Value):Prop where
 ext:Ext noF w w'
 size:w'.heap.size=w.heap.size+1
 row:Row w' w.heap.size 0 l
 wok:wok w' w.heap.size l.length
theorem new_alloc (w:World) (l:List Value) (T:Nat) (hT:T<tyN):New w (w.alloc (.cells l.toArray T)) l:=⟨alloc_ext _ _,World.size_alloc _ _,alloc_row _ _ _,alloc_wok _ _ _ hT⟩
theorem ty_dr (P:Program) (w:World) (n b:Nat):tyOk P (dr w n) b=tyOk P w b:=id (Eq.trans rfl rfl)
def szK (P:Program) (T:Nat):Option Nat:=(P.info? T).map fun i=>i.size
def zK (P:Program) (T:Nat):Option (List Value):=((P.info? T).bind fun i=>i.zero).map fun z=>z.cells.toList
def elK (P:Program) (T:Nat):Option (Nat × Nat × Nat × List Value) :=
 match P.underlying T with
 | some (.slice E)=>match P.info? E with
  | some i=>i.zero.map fun z=>(E,i.size,i.bytes,z.cells.toList)
  | none=>none
 | _=>none
section
variable {P:Program} {e:Env} {w:World} {K:Value->World->Prop}
variable {d:Option Nat} {ty:Nat} {pos:String} {af:Array Edge} {g:Option (Nat × Bool)}
def RunK (P:Program) (s:Sem Value) (w:World) (K:Value->World->Prop):Prop:=∃ v w',s.run P w = .ok v w'/\K v w'
def StoreK (P:Program) (T:Nat) (x v:Value) (w:World) (K:Value->World->Prop):Prop:=∃ w',(Instr.storeAt T x v).run P w = .ok () w'/\K undef w'
def AllocK (P:Program) (T:Nat) (w:World) (K:Value->World->Prop):Prop:=RunK P (Instr.alloc T true (.tuple #[])) w K
def BoxK (P:Program) (T:Nat) (v:Value) (w:World) (K:Value->World->Prop):Prop:=RunK P (Instr.box T v) w K
def BSlK (P:Program) (T n:Nat) (parts:List (Nat × Value)) (w:World) (K:Value->World->Prop):Prop:=RunK P (Instr.buildSlice T n parts.toArray) w K
def AppK (P:Program) (T U:Nat) (s x:Value) (w:World) (K:Value->World->Prop):Prop:=∀ ty,RunK P (Builtin.append_ #[T,U] ty #[s,x]) w K
def CpyK (P:Program) (T U:Nat) (s x:Value) (w:World) (K:Value->World->Prop):Prop:=∀ ty,RunK P (Builtin.copy_ #[T,U] ty #[s,x]) w K
def MkSK (P:Program) (T:Nat) (l c:Value) (w:World) (K:Value->World->Prop):Prop:=RunK P (Instr.makeSlice T l c) w K
theorem DoOp_store {T:Nat} {x y:Operand} (h:StoreK P T (ev e x) (ev e y) w K):DoOp P e w ⟨d,.store T x y,ty,pos,af,g⟩ K:=by
 obtain ⟨w',hr,hk⟩:=h
 simp [DoOp,execOp,hr];exact hk
theorem DoOp_alloc {T:Nat} (h:AllocK P T w K):DoOp P e w ⟨d,.alloc T,ty,pos,af,g⟩ K:=by
 obtain ⟨v,w',hr,hk⟩:=h
 simp [DoOp,execOp,hr];exact hk
theorem DoOp_box {T:Nat} {x:Operand} (h:BoxK P T (ev e x) w K):DoOp P e w ⟨d,.box T x,ty,pos,af,g⟩ K:=by
 obtain ⟨v,w',hr,hk⟩:=h
 simp [DoOp,execOp,hr];exact hk
theorem DoOp_bsl {T n:Nat} {parts:List (Nat × Operand)} (h:BSlK P T n (parts.map fun p=>(p.1,ev e p.2)) w K):DoOp P e w ⟨d,.buildSlice T n parts.toArray,ty,pos,af,g⟩ K:=by
 obtain ⟨v,w',hr,hk⟩:=h
 have:(parts.toArray.map fun (i,x)=>(i,ev e x))=(parts.map fun p=>(p.1,ev e p.2)).toArray:=by simp
 simp only [DoOp,execOp]
 rw [this]
 simp [hr];exact hk
theorem DoOp_append {T U:Nat} {x y:Operand} (h:AppK P T U (ev e x) (ev e y) w K):DoOp P e w ⟨d,.call ⟨.builtin .append,#[x,y],#[T,U]⟩,ty,pos,af,g⟩ K:=by
 obtain ⟨v,w',hr,hk⟩:=h ty
 simp [DoOp,execOp,resolve,invoke,builtin,hr];exact hk
theorem DoOp_copy {T U:Nat} {x y:Operand} (h:CpyK P T U (ev e x) (ev e y) w K):DoOp P e w ⟨d,.call ⟨.builtin .copy,#[x,y],#[T,U]⟩,ty,pos,af,g⟩ K:=by
 obtain ⟨v,w',hr,hk⟩:=h ty
 simp [DoOp,execOp,resolve,invoke,builtin,hr];exact hk
theorem DoOp_make {T:Nat} {x y:Operand} (h:MkSK P T (ev e x) (ev e y) w K):DoOp P e w ⟨d,.makeSlice T x y,ty,pos,af,g⟩ K:=by
 obtain ⟨v,w',hr,hk⟩:=h
 simp [DoOp,execOp,hr];exact hk
theorem StoreK_intro {T k b o n:Nat} {v:Value} (hT:szK P T=some k) (hk:v.cells.toList.length=k) (hw:wok w b n) (hn:o+k<=n) (hoc:oc v.cells.toList)
  (hK:∀ w',Ext (rng b o k) w w'->Row w' b o v.cells.toList->w'.heap.size=w.heap.size->K undef w'):StoreK P T (.pointer (some ⟨b,o,none⟩)) v w K:=by
 unfold szK at hT
 cases hi:P.info? T with
 | none=>simp [hi] at hT
 | some i =>
  simp [hi] at hT
  have hsz:v.cells.size=i.size:=by rw [hT,<-hk];simp
  have hr:=run_storeCells (P:=P) v.cells.toList w b n o 0 hw (by omega) hoc
  rw [Nat.add_zero] at hr
  refine ⟨putW w b o v.cells.toList,?_,hK _ (hk ▸ putW_ext hw) (putW_row hw (by omega)) (by simp [putW])⟩
  simp only [Instr.storeAt,Instr.sureAddr,storeVar,Sem.run_bind,Sem.run_pure,Result.andThen_ok,run_sizeOf hi,hsz,ne_eq,not_true_eq_false,if_false]
  exact hr
theorem AllocK_intro {T:Nat} {z:List Value} (hz:zK P T=some z) (hT:T<tyN) (hK:∀ w',New w w' z->K (.pointer (some ⟨w.heap.size,0,none⟩)) w'):AllocK P T w K:=by
 unfold zK at hz
 cases hi:P.info? T with
 | none=>simp [hi] at hz
 | some i =>
  cases hzz:i.zero with
  | none=>simp [hi,hzz] at hz
  | some v =>
   simp [hi,hzz] at hz
   refine ⟨_,w.alloc (.cells z.toArray T),?_,hK _ (new_alloc _ _ _ hT)⟩
   subst hz
   simp [Instr.alloc,zeroValue,typeInfo,hi,hzz,newVar,newRow]
theorem BoxK_intro {T:Nat} {v:Value} (hT:T<tyN) (hK:∀ w',New w w' v.cells.toList->K (.pointer (some ⟨w.heap.size,0,none⟩)) w'):BoxK P T v w K:=by
 refine ⟨_,w.alloc (.cells v.cells.toList.toArray T),?_,hK _ (new_alloc _ _ _ hT)⟩
 simp [Instr.box,newVar,newRow]
def bsV (P:Program) (T n:Nat) (parts:List (Nat × Value)):Option (Nat × List Value) :=
 match elK P T with
 | some (E,sz,_,z) =>
  if n*sz<=16777216 then
   (Instr.fill (fun i=>some (i*sz,sz)) ((Array.range (n*sz)).map (fun j=>(if n*sz=0 then #[] else z.toArray)[j % (if n*sz=0 then #[] else z.toArray).size]!)) parts).map fun c=>(E,c.toList)
  else none
 | none=>none
theorem BSlK_intro {T n E:Nat} {parts:List (Nat × Value)} {l:List Value} (h:bsV P T n parts=some (E,l)) (hT:E<tyN)
  (hK:∀ w',New w w' l->K (.slice (some ⟨w.heap.size,0,none⟩) n n) w'):BSlK P T n parts w K:=by
 unfold bsV elK at h
 cases hu:P.underlying T with
 | none=>simp [hu] at h
 | some td =>
  cases td with
  | slice E' =>
   cases hi:P.info? E' with
   | none=>simp [hu,hi] at h
   | some i =>
    cases hz:i.zero with
    | none=>simp [hu,hi,hz] at h
    | some z =>
     simp only [hu,hi,hz,Option.map_some] at h
     split at h
     ·rename_i hle
      simp only [Option.map_eq_some_iff,Prod.mk.injEq] at h
      obtain ⟨c,hc,rfl,rfl⟩:=h
      have hle':¬ n*i.size > 2 ^ 24:=by omega
      refine ⟨_,w.alloc (.cells c E'),?_,hK _ (by simpa using new_alloc w c.toList E' hT)⟩
      by_cases h0:n*i.size=0
      ·simp [h0] at hc
       simp [Instr.buildSlice,run_underlying' hu,run_sizeOf hi,h0,hc,newRow]
      ·simp only [if_neg h0] at hc
       have hzv:(zeroValue E').run P w = .ok z w:=by simp [zeroValue,typeInfo,hi,hz]
       simp [Instr.buildSlice,run_underlying' hu,run_sizeOf hi,h0,hle',hzv,newRow]
       simp at hc
       rw [hc]
       simp
     ·simp at h
  | _=>simp [hu] at h
def SlV (w:World) (sz:Nat) (v:Value) (n:Nat) (l:List Value):Prop :=
 l.length=n*sz/\((v = .slice none 0 0/\n=0)\/∃ b o cap,v = .slice (some ⟨b,o,none⟩) n cap/\n<=cap/\Row w b o l/\wokR w b o (cap*sz))
theorem SlV.len {sz:Nat} {v:Value} {n:Nat} {l:List Value} (h:SlV w sz v n l):Builtin.lenOf v=Sem.pure n:=by
 rcases h.2 with ⟨rfl,rfl⟩ | ⟨b,o,cap,rfl,_⟩<;>rfl
theorem SlV.first {sz:Nat} {v:Value} {n:Nat} {l:List Value} (h:SlV w sz v n l) (k:Nat) (hk:k<=n):(Builtin.firstCells sz k v).run P w = .ok (l.take (k*sz)).toArray w:=by
 rcases h.2 with ⟨rfl,rfl⟩ | ⟨b,o,cap,rfl,_,hr,_⟩
 ·have:k=0:=by omega
  subst this;simp [Builtin.firstCells]
 ·have hle:k*sz<=l.length:=by rw [h.1];exact Nat.mul_le_mul_right _ hk
  have:=hr.cellsFrom (k*sz) 0 (by omega)
  simp only [Builtin.firstCells]
  rw [run_loadCells this];simp
theorem SlV.ext {F:Nat->Nat->Prop} {w':World} {sz:Nat} {v:Value} {n:Nat} {l:List Value} (h:SlV w sz v n l) (hx:Ext F w w')
  (hF:∀ b o cap,v = .slice (some ⟨b,o,none⟩) n cap->∀ i,i<l.length->¬ F b (o+i)):SlV w' sz v n l:=by
 refine ⟨h.1,?_⟩
 rcases h.2 with h | ⟨b,o,cap,hv,hc,hr,hw⟩
 ·exact .inl h
 ·exact .inr ⟨b,o,cap,hv,hc,hx.row hr (hF b o cap hv),hx.wokR hw⟩
theorem SlV.ext0 {w':World} {sz:Nat} {v:Value} {n:Nat} {l:List Value} (h:SlV w sz v n l) (hx:Ext noF w w'):SlV w' sz v n l:=h.ext hx fun _ _ _ _ _ _ hf=>hf
theorem nextcap_le {need c:Nat} (h:c<need):Builtin.nextslicecap need c<=2*need+256:=by
 unfold Builtin.nextslicecap
 split
 ·omega
 ·split
  ·omega
  ·simp only [Builtin.growBy]
   repeat' split
   all_goals omega
def AppRes (w:World) (sz:Nat) (v:Value) (n m:Nat) (l l':List Value) (v':Value) (w':World):Prop :=
 SlV w' sz v' (n+m) (l++l') ∧
 ((v'=v/\w'=w/\v = .slice none 0 0) ∨
  (∃ b o cap,v = .slice (some ⟨b,o,none⟩) n cap/\v' = .slice (some ⟨b,o,none⟩) (n+m) cap/\Ext (rng b (o+n*sz) (m*sz)) w w'/\w'.heap.size=w.heap.size/\n+m<=cap) ∨
  (∃ cap,v' = .slice (some ⟨w.heap.size,0,none⟩) (n+m) cap/\Ext noF w w'/\w'.heap.size=w.heap.size+1/\wok w' w.heap.size (cap*sz)))
def noInt (P:Program) (U:Nat):Bool :=
 match P.underlying U with
 | some (.slice _)=>true
 | _=>false
theorem AppK_intro {T U E sz by_:Nat} {z:List Value} {v x:Value} {n m:Nat} {l l':List Value} (hel:elK P T=some (E,sz,by_,z)) (hT:E<tyN) (hz:z.length=sz) (hU:noInt P U=true)
  (hv:SlV w sz v n l) (hx:SlV w sz x m l') (hbig:n+m<=4294967296) (hby:by_<=64) (hoc:oc l')
  (hK:∀ v' w',AppRes w sz v n m l l' v' w'->K v' w'):AppK P T U v x w K:=by
 intro ty
 unfold elK at hel
 cases hu:P.underlying T with
 | none=>simp [hu] at hel
 | some td =>
  cases td with
  | slice E' =>
   cases hi:P.info? E' with
   | none=>simp [hu,hi] at hel
   | some i =>
    cases hzz:i.zero with
    | none=>simp [hu,hi,hzz] at hel
    | some zv =>
     simp only [hu,hi,hzz,Option.map_some,Option.some.injEq,Prod.mk.injEq] at hel
     obtain ⟨rfl,rfl,rfl,rfl⟩:=hel
     unfold noInt at hU
     cases hud':P.underlying U with
     | none=>simp [hud'] at hU
     | some ud =>
      obtain ⟨eU,rfl⟩:∃ eU,ud = .slice eU:=by cases ud<;>simp [hud'] at hU;exact ⟨_,rfl⟩
      have hud:=hud'
      have hnew:=hx.first (P:=P) m (Nat.le_refl _)
      have hold:=hv.first (P:=P) n (Nat.le_refl _)
      rw [<-hx.1,List.take_length] at hnew
      rw [<-hv.1,List.take_length] at hold
      have hlen:=hx.len
      by_cases hroom:∃ b o cap,v = .slice (some ⟨b,o,none⟩) n cap/\n+m<=cap
      ·obtain ⟨b,o,cap,rfl,hle⟩:=hroom
       obtain ⟨hr,hw⟩:Row w b o l/\wokR w b o (cap*i.size):=by
        rcases hv.2 with ⟨h,_⟩ | ⟨b',o',cap',h,_,hr,hw⟩
        ·cases h
        ·cases h;exact ⟨hr,hw⟩
       have hfit:o+n*i.size+l'.length<=o+cap*i.size:=by
        rw [hx.1,Nat.add_assoc,<-Nat.add_mul];exact Nat.add_le_add_left (Nat.mul_le_mul_right _ hle) _
       have hst:=run_storeCellsR (P:=P) l' w b _ _ (o+n*i.size) 0 hw (by omega) hfit hoc
       rw [Nat.add_zero] at hst
       have hx1:Ext (rng b (o+n*i.size) l'.length) w (putW w b (o+n*i.size) l'):=putW_extR hw
       refine ⟨.slice (some ⟨b,o,none⟩) (n+m) cap,putW w b (o+n*i.size) l',?_,hK _ _ ⟨⟨?_,.inr ⟨b,o,cap,rfl,hle,?_,hx1.wokR hw⟩⟩,.inr (.inl ⟨b,o,cap,rfl,rfl,hx.1 ▸ hx1,by simp [putW],hle⟩)⟩⟩
       ·simp [Builtin.append_,run_underlying' hu,run_underlying' hud,run_sizeOf hi,hlen,hle,hnew,add_mk,hst]
       ·simp [hv.1,hx.1,Nat.add_mul]
       ·refine Row.append.2 ⟨hx1.row hr fun k hk hf=>?_,?_⟩
        ·have:=hf.2.1;rw [hv.1] at hk;omega
        ·rw [hv.1];exact putW_rowR hw (by omega) hfit
      ·by_cases hnil:v = .slice none 0 0/\m=0
       ·obtain ⟨rfl,rfl⟩:=hnil
        have hn:n=0:=by
         rcases hv.2 with ⟨_,h⟩ | ⟨b',o',cap',h,_⟩
         ·exact h
         ·cases h
        subst hn
        have hl':l'=[]:=List.eq_nil_of_length_eq_zero (by rw [hx.1];simp)
        have hl:l=[]:=List.eq_nil_of_length_eq_zero (by rw [hv.1];simp)
        subst hl hl'
        refine ⟨.slice none 0 0,w,?_,hK _ _ ⟨⟨by simp,.inl ⟨rfl,rfl⟩⟩,.inl ⟨rfl,rfl,rfl⟩⟩⟩
        simp [Builtin.append_,run_underlying' hu,run_underlying' hud,run_sizeOf hi,hlen,hnew]
       ·obtain ⟨base,cap,rfl,hgr⟩:∃ base cap,v = .slice base n cap/\cap<n+m:=by
         rcases hv.2 with ⟨h,h2⟩ | ⟨b',o',cap',h,hc,_⟩
         ·refine ⟨none,0,by rw [h,h2],?_⟩
          have:m ≠ 0:=fun hm=>hnil ⟨h,hm⟩
          omega
         ·refine ⟨_,cap',h,?_⟩
          exact Nat.lt_of_not_le fun hle=>hroom ⟨b',o',cap',h,hle⟩
        have h1:=nextcap_le hgr
        have h2:Builtin.nextslicecap (n+m) cap*i.bytes<=281474976710656:=by
         calc Builtin.nextslicecap (n+m) cap*i.bytes<=(2*(n+m)+256)*64:=Nat.mul_le_mul h1 hby
          _<=281474976710656:=by omega
        (have h2':¬ 281474976710656<Builtin.nextslicecap (n+m) cap*i.bytes:=by omega);(have h3:¬ (9223372036854775807<((n:Int)+(m:Int))):=by omega);(have h4:¬ (n+m<=cap):=by omega);let q:=Question.appendCap (n+m) cap E'
        have hq:q.forced=false:=rfl
        let c:=q.cut (w.tape w.drawn q)
        have hc:n+m<=c:=by show n+m<=(n+m)+_ % _;omega
        let cells:Array Value:=l.toArray++l'.toArray++Builtin.zeroCells zv.cells (c-(n+m))
        have hcs:cells.toList.length=c*i.size:=by
         have hz':zv.cells.size=i.size:=by simpa using hz
         simp only [cells,Array.toList_append,List.length_append,List.toList_toArray,hv.1,hx.1,Array.length_toList,Builtin.zeroCells,Array.size_map,Array.size_range,hz']
         rw [<-Nat.add_mul,<-Nat.add_mul];congr 1;omega
        have hnw:=new_alloc w.drew cells.toList E' hT
        rw [Array.toArray_toList] at hnw
        refine ⟨.slice (some ⟨w.heap.size,0,none⟩) (n+m) c,w.drew.alloc (.cells cells E'),?_,hK _ _ ⟨⟨?_,.inr ⟨_,0,c,rfl,hc,?_,?_⟩⟩,.inr (.inr ⟨c,rfl,(Ext.drew noF w).tr hnw.ext,hnw.size,by have:=hnw.wok;rwa [hcs] at this⟩)⟩⟩
        ·have hold':(Builtin.firstCells i.size n (.slice base n cap)).run P w.drew = .ok l.toArray w.drew:=by
          have:=(show SlV w.drew i.size (.slice base n cap) n l from hv.ext0 (Ext.drew _ _)).first (P:=P) n (Nat.le_refl _)
          rwa [<-hv.1,List.take_length] at this
         have hnew':(Builtin.firstCells i.size m x).run P w.drew = .ok l'.toArray w.drew:=by
          have:=(show SlV w.drew i.size x m l' from hx.ext0 (Ext.drew _ _)).first (P:=P) m (Nat.le_refl _)
          rwa [<-hx.1,List.take_length] at this
         have hdr:({ w with drawn:=w.drawn+1 }:World)=w.drew:=rfl
         have hzv:∀ w,(zeroValue E').run P w = .ok zv w:=fun w=>by simp [zeroValue,typeInfo,hi,hzz]
         simp [Builtin.append_,run_underlying' hu,run_underlying' hud,run_sizeOf hi,hlen,h4,h3,h2',typeInfo,hi,hq,hdr,hold',hnew',hzv,newRow,q,c,cells]
        ·simp [hv.1,hx.1,Nat.add_mul]
        ·have:Row (w.drew.alloc (.cells cells E')) w.heap.size 0 cells.toList:=hnw.row
         have e1:cells.toList=(l++l')++(Builtin.zeroCells zv.cells (c-(n+m))).toList:=by simp [cells]
         rw [e1] at this
         exact (Row.append.1 this).1
        ·have:=hnw.wok
         rw [hcs] at this
         exact this.R (by omega)
  | _=>simp [hu] at hel
theorem CpyK_intro {T U E sz by_:Nat} {z:List Value} {b o dl dc n:Nat} {x:Value} {l:List Value} (hel:elK P T=some (E,sz,by_,z))
  (hx:SlV w sz x n l) (hw:wok w b (o+dl*sz)) (hoc:oc l)
  (hK:∀ w',Ext (rng b o (min n dl*sz)) w w'->Row w' b o (l.take (min n dl*sz))->w'.heap.size=w.heap.size->K (.int .i64 (min n dl:Nat)) w') :
  CpyK P T U (.slice (some ⟨b,o,none⟩) dl dc) x w K:=by
 intro ty
 unfold elK at hel
 cases hu:P.underlying T with
 | none=>simp [hu] at hel
 | some td =>
  cases td with
  | slice E' =>
   cases hi:P.info? E' with
   | none=>simp [hu,hi] at hel
   | some i =>
    cases hzz:i.zero with
    | none=>simp [hu,hi,hzz] at hel
    | some zv =>
     simp only [hu,hi,hzz,Option.map_some,Option.some.injEq,Prod.mk.injEq] at hel
     obtain ⟨rfl,rfl,rfl,rfl⟩:=hel
     have hf:=hx.first (P:=P) (min n dl) (Nat.min_le_left _ _)
     have hlen:(l.take (min n dl*i.size)).length=min n dl*i.size:=by
      rw [List.length_take,hx.1];exact Nat.min_eq_left (Nat.mul_le_mul_right _ (Nat.min_le_left _ _))
     have hfit:o+(min n dl*i.size)<=o+dl*i.size:=Nat.add_le_add_left (Nat.mul_le_mul_right _ (Nat.min_le_right _ _)) _
     have hst:=run_storeCells (P:=P) (l.take (min n dl*i.size)) w b _ o 0 hw (by rw [hlen];omega) fun u hu=>hoc u (List.mem_of_mem_take hu)
     rw [Nat.add_zero] at hst
     refine ⟨_,putW w b o (l.take (min n dl*i.size)),?_,hK _ (by have:=putW_ext (o:=o) (l:=l.take (min n dl*i.size)) hw;rwa [hlen] at this) (putW_row hw (by rw [hlen];omega)) (by simp [putW])⟩
     have hlx:=hx.len
     have hm:Nat.min n dl=min n dl:=rfl
     simp [Builtin.copy_,run_underlying' hu,hlx,run_sizeOf hi,hf,hst,goInt,hm]
  | _=>simp [hu] at hel
theorem MkSK_intro {T E sz by_:Nat} {z:List Value} {n c:Nat} (hel:elK P T=some (E,sz,by_,z)) (hT:E<tyN) (hz:z.length=sz) (hle:n<=c) (hc:c*by_<=281474976710656) (hc':c<9223372036854775808)
  (hK:∀ w' l,l.length=c*sz->New w w' l->K (.slice (some ⟨w.heap.size,0,none⟩) n c) w') :
  MkSK P T (.int .i64 n) (.int .i64 c) w K:=by
 unfold elK at hel
 cases hu:P.underlying T with
 | none=>simp [hu] at hel
 | some td =>
  cases td with
  | slice E' =>
   cases hi:P.info? E' with
   | none=>simp [hu,hi] at hel
   | some i =>
    cases hzz:i.zero with
    | none=>simp [hu,hi,hzz] at hel
    | some zv =>
     simp only [hu,hi,hzz,Option.map_some,Option.some.injEq,Prod.mk.injEq] at hel
     obtain ⟨rfl,rfl,rfl,rfl⟩:=hel
     have wr:∀ k:Nat,k<9223372036854775808->IntKind.i64.wrap (k:Int)=k:=fun k hk=>by
      exact IntWalk.i64_in _ (by omega)
     have hwn:IntKind.i64.wrap (n:Int)=n:=wr n (by omega)
     have hwc:IntKind.i64.wrap (c:Int)=c:=wr c hc'
     have h1:¬ (281474976710656<(i.bytes:Int)*(c:Int)):=by
      have:((i.bytes*c:Nat):Int)<=281474976710656:=by rw [Nat.mul_comm];omega
      rw [Int.natCast_mul] at this;omega
     have h2:¬ ((n:Int)<0):=by omega
     have h2':¬ ((c:Int)<0):=by omega
     have h3:¬ ((c:Int)<(n:Int)):=by omega
     let cells:List Value:=(((Array.range (c*i.size)).map fun j=>(if c*i.size=0 then #[] else zv.cells)[j % (if c*i.size=0 then #[] else zv.cells).size]!)).toList
     refine ⟨_,w.alloc (.cells cells.toArray E'),?_,hK _ cells (by simp [cells]) (new_alloc _ _ _ hT)⟩
     by_cases h0:c*i.size=0
     ·simp [Instr.makeSlice,run_underlying' hu,asInt,asIntOf,typeInfo,hi,hwn,hwc,h1,h2,h2',h3,run_sizeOf hi,h0,newRow,cells]
      congr 2
      apply Array.ext'
      simp
     ·have hzv:∀ w,(zeroValue E').run P w = .ok zv w:=fun w=>by simp [zeroValue,typeInfo,hi,hzz]
      simp [Instr.makeSlice,run_underlying' hu,asInt,asIntOf,typeInfo,hi,hwn,hwc,h1,h2,h2',h3,run_sizeOf hi,h0,newRow,cells,hzv]
      congr 2
      apply Array.ext'
      simp
  | _=>simp [hu] at hel
variable {ops:Array Oper} {C:World->World->Prop} {KE:Env->World->Prop}
theorem do_store {T k b o n:Nat} {x y:Operand} {v:Value} (hx:ev e x = .pointer (some ⟨b,o,none⟩)) (hy:ev e y=v) (hT:szK P T=some k) (hk:v.cells.toList.length=k) (hw:wok w b n) (hn:o+k<=n)
  (hoc:oc v.cells.toList) (hK:∀ w',Ext (rng b o k) w w'->Row w' b o v.cells.toList->w'.heap.size=w.heap.size->C w w'/\KE (updO e d undef) w') :
  DoO P ops C KE e w ⟨d,.store T x y,ty,pos,af,none⟩ :=
 DoO_intro (DoOp_store (by rw [hx,hy];exact StoreK_intro hT hk hw hn hoc hK))
theorem do_alloc {T:Nat} {z:List Value} (hz:zK P T=some z) (hK:∀ w',New w w' z->C w w'/\KE (updO e d (.pointer (some ⟨w.heap.size,0,none⟩))) w') (hT:T<tyN:=by decide) :
  DoO P ops C KE e w ⟨d,.alloc T,ty,pos,af,none⟩:=DoO_intro (DoOp_alloc (AllocK_intro hz hT hK))
theorem do_box {T:Nat} {x:Operand} {v:Value} (hx:ev e x=v) (hK:∀ w',New w w' v.cells.toList->C w w'/\KE (updO e d (.pointer (some ⟨w.heap.size,0,none⟩))) w') (hT:T<tyN:=by decide) :
  DoO P ops C KE e w ⟨d,.box T x,ty,pos,af,none⟩:=DoO_intro (DoOp_box (by rw [hx];exact BoxK_intro hT hK))
theorem do_bsl {T n E:Nat} {parts:List (Nat × Operand)} {pv:List (Nat × Value)} {l:List Value} (hp:parts.map (fun p=>(p.1,ev e p.2))=pv) (h:bsV P T n pv=some (E,l))
  (hK:∀ w',New w w' l->C w w'/\KE (updO e d (.slice (some ⟨w.heap.size,0,none⟩) n n)) w') (hT:E<tyN:=by decide) :
  DoO P ops C KE e w ⟨d,.buildSlice T n parts.toArray,ty,pos,af,none⟩:=DoO_intro (DoOp_bsl (by rw [hp];exact BSlK_intro h hT hK))
theorem do_append {T U E sz by_:Nat} {z:List Value} {x y:Operand} {v u:Value} {n m:Nat} {l l':List Value} (hx:ev e x=v) (hy:ev e y=u) (hel:elK P T=some (E,sz,by_,z)) (hz:z.length=sz)
  (hU:noInt P U=true) (hv:SlV w sz v n l) (hu:SlV w sz u m l') (hbig:n+m<=4294967296) (hby:by_<=64) (hoc:oc l')
  (hK:∀ v' w',AppRes w sz v n m l l' v' w'->C w w'/\KE (updO e d v') w') (hT:E<tyN:=by decide):DoO P ops C KE e w ⟨d,.call ⟨.builtin .append,#[x,y],#[T,U]⟩,ty,pos,af,none⟩ :=
 DoO_intro (DoOp_append (by rw [hx,hy];exact AppK_intro hel hT hz hU hv hu hbig hby hoc hK))
theorem do_copy {T U E sz by_:Nat} {z:List Value} {x y:Operand} {b o dl dc n:Nat} {u:Value} {l:List Value} (hx:ev e x = .slice (some ⟨b,o,none⟩) dl dc) (hy:ev e y=u) (hel:elK P T=some (E,sz,by_,z))
  (hu:SlV w sz u n l) (hw:wok w b (o+dl*sz)) (hoc:oc l)
  (hK:∀ w',Ext (rng b o (min n dl*sz)) w w'->Row w' b o (l.take (min n dl*sz))->w'.heap.size=w.heap.size->C w w'/\KE (updO e d (.int .i64 (min n dl:Nat))) w') :
  DoO P ops C KE e w ⟨d,.call ⟨.builtin .copy,#[x,y],#[T,U]⟩,ty,pos,af,none⟩:=DoO_intro (DoOp_copy (by rw [hx,hy];exact CpyK_intro hel hu hw hoc hK))
theorem do_make {T E sz by_:Nat} {z:List Value} {x y:Operand} {n c:Nat} (hx:ev e x = .int .i64 n) (hy:ev e y = .int .i64 c) (hel:elK P T=some (E,sz,by_,z)) (hz:z.length=sz) (hle:n<=c)
  (hc:c*by_<=281474976710656) (hc':c<9223372036854775808)
  (hK:∀ w' l,l.length=c*sz->New w w' l->C w w'/\KE (updO e d (.slice (some ⟨w.heap.size,0,none⟩) n c)) w') (hT:E<tyN:=by decide) :
  DoO P ops C KE e w ⟨d,.makeSlice T x y,ty,pos,af,none⟩:=DoO_intro (DoOp_make (by rw [hx,hy];exact MkSK_intro hel hT hz hle hc hc' hK))
theorem do_call {f:Nat} {args:Array Operand} {tys:Array Nat} {vs:Array Value} {R:Value->World->Prop} (hf:isFn P f=true) (ha:args.map (ev e)=vs) (hc:CallK P f vs w R)
  (hK:∀ v w',R v w'->C w w'/\KE (updO e d v) w'):DoO P ops C KE e w ⟨d,.call ⟨.value (.func f),args,tys⟩,ty,pos,af,none⟩ :=
 DoO_intro (by rw [DoOp_callf hf,ha];exact CallK_mono hc hK)
theorem do_callv {t f:Nat} {args:Array Operand} {tys:Array Nat} {first captured vs:Array Value} {R:Value->World->Prop} (ht:e t = .func (.func f) first captured) (hf:isFn P f=true)
  (ha:first++args.map (ev e)++captured=vs) (hc:CallK P f vs w R) (hK:∀ v w',R v w'->C w w'/\KE (updO e d v) w') :
  DoO P ops C KE e w ⟨d,.call ⟨.value (.tmp t),args,tys⟩,ty,pos,af,none⟩ :=
 DoO_intro (DoOp_callv (by rw [ht];exact ⟨hf,by rw [ha];exact CallK_mono hc hK⟩))
end
theorem keeps_on {F:Nat->Nat->Prop} {w w':World} {L:List Nat} (h:Ext F w w') (hL:∀ b ∈ L,b<w.heap.size/\∀ o,¬ F b o):keeps (some (some L)) w w' :=
 fun b hb=>h.block (hL b hb).1 (hL b hb).2
theorem keeps_ro {w w':World} (h:RO w w'):keeps (some none) w w':=by obtain ⟨n,rfl⟩:=h;rfl
end Go.Proofs.Ytbnnkcofnmipoaa
namespace Go.Proofs.Ytbnnkcofnmipoaa
open Go
theorem upd_eq (e:Env) (d:Nat) (v:Value) (t:Nat):upd e d v t=if t=d then v else e t:=id (Eq.trans rfl rfl)
theorem evt (e:Env) (t:Nat):ev e (.tmp t)=e t:=id (Eq.trans rfl rfl)
theorem evc (e:Env) (v:Value):ev e (.const v)=v:=id (Eq.trans rfl rfl)
theorem evg (e:Env) (g:Nat):ev e (.global g) = .pointer (some ⟨g,0,none⟩):=id (Eq.trans rfl rfl)
theorem evf (e:Env) (f:Nat):ev e (.func f) = .func (.func f) #[] #[]:=id (Eq.trans rfl rfl)
theorem updN (e:Env) (v:Value):updO e none v=e:=id (Eq.trans rfl rfl)
theorem updS (e:Env) (d:Nat) (v:Value):updO e (some d) v=upd e d v:=id (Eq.trans rfl rfl)
theorem pick_t (a b:Value):pickG (.bool true) a b=some a:=id (Eq.trans rfl rfl)
theorem pick_f (a b:Value):pickG (.bool false) a b=some b:=id (Eq.trans rfl rfl)
theorem nil_p (a:Addr):nilG (.pointer (some a))=some (.pointer (some a)):=id (Eq.trans rfl rfl)
theorem nil_f (f:Nat) (a b:Array Value):nilG (.func (.func f) a b)=some (.func (.func f) a b):=id (Eq.trans rfl rfl)
theorem not_b (b:Bool):notG (.bool b)=some (.bool (!b)):=id (Eq.trans rfl rfl)
theorem cv_i (k k':IntKind) (n:Int):cvG (some k) (.int k' n)=some (.int k (k.wrap n)):=id (Eq.trans rfl rfl)
theorem fo_p (o:Nat) (a:Addr):foG (some o) (.pointer (some a))=some (.pointer (some (a.add o))):=id (Eq.trans rfl rfl)
theorem foZ_s (P:Program) (H:Hold) (w:World) (o T f:Nat) (x:Value):foZ P H w (some o) T f x=foG (some o) x:=id (Eq.trans rfl rfl)
theorem foZ_n (P:Program) (H:Hold) (w:World) (T f:Nat) (x:Value):foZ P H w none T f x=fzG P H w (fZero P T f) x:=id (Eq.trans rfl rfl)
def fzX (r t:Bool) (b o:Nat):Option Value:=if r=true then (if t=true then some (.pointer (some ⟨b,o,none⟩)) else none) else none
theorem fz_p (P:Program) (H:Hold) (w:World) (b o:Nat):fzG P H w true (.pointer (some ⟨b,o,none⟩))=fzX (readsB H b) (tyOk P w b) b o:=id (Eq.trans rfl rfl)
theorem fzX_t (b o:Nat):fzX true true b o=some (.pointer (some ⟨b,o,none⟩)):=id (Eq.trans rfl rfl)
theorem rdA_0 (w:World) (b o:Nat):rdA w b o 0=some (.agg #[]):=id (Eq.trans rfl rfl)
theorem ntT:(!true)=false:=id (Eq.trans rfl rfl)
theorem ntF:(!false)=true:=id (Eq.trans rfl rfl)
theorem isnS {α:Type} (a:α):(some a).isNone=false:=id (Eq.trans rfl rfl)
theorem isnN {α:Type}:(none:Option α).isNone=true:=id (Eq.trans rfl rfl)
theorem issS {α:Type} (a:α):(some a).isSome=true:=id (Eq.trans rfl rfl)
theorem omS {α β:Type} (f:α->β) (a:α):Option.map f (some a)=some (f a):=id (Eq.trans rfl rfl)
theorem omN {α β:Type} (f:α->β):Option.map f none=none:=id (Eq.trans rfl rfl)
theorem geZ {α:Type} (a:α) (l:List α):(a::l)[0]? = some a:=id (Eq.trans rfl rfl)
theorem geS {α:Type} (a:α) (l:List α) (i:Nat):(a::l)[i+1]? = l[i]?:=id (Eq.trans rfl rfl)
theorem maT {α β:Type} (f:α->β) (l:List α):l.toArray.map f=(l.map f).toArray:=by simp
theorem maC {α β:Type} (f:α->β) (a:α) (l:List α):(a::l).map f=f a::l.map f:=id (Eq.trans rfl rfl)
theorem maN {α β:Type} (f:α->β):([]:List α).map f=[]:=id (Eq.trans rfl rfl)
theorem nm1 (a:Nat):a*1=a:=Nat.mul_one a
theorem zZ2:(∀ (e:Env) (t:Nat),ev e (.tmp t)=e t)/\(∀ (e:Env) (v:Value),ev e (.const v)=v)/\(∀ (e:Env) (d:Nat) (v:Value) (t:Nat),upd e d v t=if t=d then v else e t):=⟨evt,evc,upd_eq⟩
theorem zZ3:((!true)=false)/\((!false)=true):=⟨ntT,ntF⟩
theorem zZ4:(∀ {α β:Type} (f:α->β) (l:List α),l.toArray.map f=(l.map f).toArray)/\(∀ {α β:Type} (f:α->β) (a:α) (l:List α),(a::l).map f=f a::l.map f)/\(∀ {α β:Type} (f:α->β),([]:List α).map f=[])/\(∀ {α:Type},(none:Option α).isNone=true)/\(∀ {α:Type} (a:α),(some a).isNone=false):=⟨maT,maC,maN,isnN,isnS⟩
theorem sz_dr (w:World) (n:Nat):(dr w n).heap.size=w.heap.size:=id (Eq.trans rfl rfl)
theorem naZ (a:Nat):a+0=a:=id (Eq.trans rfl rfl)
theorem ex_t (l:List Value) (i:Nat):exG (.tuple l.toArray) i=l[i]?:=by simp [exG]
section
variable (P:Program) (H:Hold) (w:World)
def rdX (r:Bool) (v:Option Value):Option Value:=if r=true then v else none
theorem rdX_t (v:Option Value):rdX true v=v:=id (Eq.trans rfl rfl)
theorem tas_no (t T:Nat) (v z:Value) (h1:coK P T=false) (h2:laK P t T=some z):tasV P (.iface t v) T true=some (.tuple #[z,.bool false]):=by simp [tasV,h1,h2]
def mkX (b:Bool) (T:Nat) (v:Value):Option Value:=if b=true then some (.iface T v) else none
theorem mk_i (T:Nat) (x:Operand) (e:Env):tkOp P H e w (.makeInterface T x)=mkX (coK P T) T (ev e x):=id (Eq.trans rfl rfl)
theorem mkX_t (T:Nat) (v:Value):mkX true T v=some (.iface T v):=id (Eq.trans rfl rfl)
def ldX (H:Hold) (w:World) (k:Option (Option Nat)) (a:Addr):Option Value :=
 match k with
 | some k=>rdX (readsB H a.block) (loadV w a k)
 | none=>none
theorem ld_p (T:Nat) (a:Addr):ldG P H w T (.pointer (some a))=ldX H w (ldK P T) a:=by
 simp only [ldG,ldX,rdX]<;>cases ldK P T<;>rfl
theorem ldX_1 (b o:Nat):ldX H w (some none) ⟨b,o,none⟩=rdX (readsB H b) (rd w b o):=id (Eq.trans rfl rfl)
theorem ldX_n (n b o:Nat):ldX H w (some (some n)) ⟨b,o,none⟩=rdX (readsB H b) (rdA w b o n):=id (Eq.trans rfl rfl)
theorem rB_any (b:Nat):readsB none b=true:=id (Eq.trans rfl rfl)
theorem rB_all (b:Nat):readsB (some none) b=true:=id (Eq.trans rfl rfl)
theorem rB_on (L:List Nat) (b:Nat):readsB (some (some L)) b=L.contains b:=id (Eq.trans rfl rfl)
theorem bv_add (T:Nat) (k:IntKind) (a b:Int):binV P .add T (.int k a) (.int k b)=some (.int k (k.wrap (a+b))):=by simp [binV]
theorem bv_sub (T:Nat) (k:IntKind) (a b:Int):binV P .sub T (.int k a) (.int k b)=some (.int k (k.wrap (a-b))):=by simp [binV]
theorem bv_mul (T:Nat) (k:IntKind) (a b:Int):binV P .mul T (.int k a) (.int k b)=some (.int k (k.wrap (a*b))):=by simp [binV]
theorem bv_half (T:Nat) (a:Int):binV P .quo T (.int .i64 a) (.int .i64 2)=some (.int .i64 (IntKind.i64.wrap (a.tdiv 2))):=by simp [binV]
theorem bv_rem (T:Nat) (a b:Int) (h:(b=0)=False):binV P .rem T (.int .i64 a) (.int .i64 b)=some (.int .i64 (a.tmod b)):=by simp [binV,h]
theorem bv_lss (T:Nat) (k:IntKind) (a b:Int):binV P .lss T (.int k a) (.int k b)=some (.bool (decide (a<b))):=by simp [binV]
theorem bv_leq (T:Nat) (k:IntKind) (a b:Int):binV P .leq T (.int k a) (.int k b)=some (.bool (decide (a<=b))):=by simp [binV]
theorem bv_gtr (T:Nat) (k:IntKind) (a b:Int):binV P .gtr T (.int k a) (.int k b)=some (.bool (decide (b<a))):=by simp [binV]
theorem bv_geq (T:Nat) (k:IntKind) (a b:Int):binV P .geq T (.int k a) (.int k b)=some (.bool (decide (b<=a))):=by simp [binV]
theorem bv_eql (T:Nat) (k:IntKind) (a b:Int):binV P .eql T (.int k a) (.int k b)=some (.bool (a == b)):=by simp [binV]
theorem bv_neq (T:Nat) (k:IntKind) (a b:Int):binV P .neq T (.int k a) (.int k b)=some (.bool (a != b)):=by simp [binV]
def ptX (r b:Bool):Option Value:=if r=true then some (.bool b) else none
theorem ptX_t (b:Bool):ptX true b=some (.bool b):=id (Eq.trans rfl rfl)
theorem bv_peq (T:Nat) (a:Option Addr):binV P .eql T (.pointer a) (.pointer none)=ptX (ptK P T) a.isNone:=id (Eq.trans rfl rfl)
theorem bv_pne (T:Nat) (a:Option Addr):binV P .neq T (.pointer a) (.pointer none)=ptX (ptK P T) (!a.isNone):=id (Eq.trans rfl rfl)
def lenX (k:Option Nat) (n:Nat):Option Value:=if k.isSome then some (.int .i64 n) else none
theorem lenX_s (k n:Nat):lenX (some k) n=some (.int .i64 n):=id (Eq.trans rfl rfl)
theorem len_sl (T:Nat) (a:Option Addr) (n c:Nat):lenV P T (.slice a n c)=lenX (slK P T) n:=id (Eq.trans rfl rfl)
theorem cap_sl (T:Nat) (a:Option Addr) (n c:Nat):capV P T (.slice a n c)=lenX (slK P T) c:=id (Eq.trans rfl rfl)
def idxX (k:Option Nat) (a:Addr) (n:Nat) (i:Int):Option Value :=
 match k with
 | some sz=>if 0<=i/\i<n then some (.pointer (some (a.add (i.toNat*sz)))) else none
 | none=>none
theorem idx_sl (T:Nat) (a:Addr) (n c:Nat) (k:IntKind) (i:Int):idxV P T (.slice (some a) n c) (.int k i)=idxX (slK P T) a n i:=by
 simp only [idxV,idxX]<;>cases slK P T<;>rfl
theorem idxX_s (sz b o n i:Nat) (h:i<n):idxX (some sz) ⟨b,o,none⟩ n (i:Int)=some (.pointer (some ⟨b,o+i*sz,none⟩)):=by
 simp only [idxX]
 rw [if_pos (by omega)]
 simp [add_mk]
def idxA (k:Option (Nat × Nat)) (a:Addr) (i:Int):Option Value :=
 match k with
 | some (n,sz)=>if 0<=i/\i<n then some (.pointer (some (a.add (i.toNat*sz)))) else none
 | none=>none
theorem idx_ar (T:Nat) (a:Addr) (k:IntKind) (i:Int):idxV P T (.pointer (some a)) (.int k i)=idxA (arK P T) a i:=by
 simp only [idxV,idxA]<;>cases arK P T<;>rfl
theorem idxA_s (sz b o n i:Nat) (h:i<n):idxA (some (n,sz)) ⟨b,o,none⟩ (i:Int)=some (.pointer (some ⟨b,o+i*sz,none⟩)):=by
 simp only [idxA]
 rw [if_pos (by omega)]
 simp [add_mk]
def slFrom (b o sz l n c:Nat):Value:=.slice (some (if c=l then ⟨b,o,none⟩ else ⟨b,o+l*sz,none⟩)) (n-l) (c-l)
def slcX (k:Option Nat) (x:Value) (lo hi mx:Option Value):Option Value :=
 match x,k with
 | .slice a len cap,some sz =>
  match optV mx cap cap with
  | none=>none
  | some m=>match (if mx.isSome && hi.isNone then none else optV hi len m) with
   | none=>none
   | some h=>match optV lo 0 h with
    | none=>none
    | some l=>some (.slice (if m=l then a else a.map (·.add (l*sz))) (h-l) (m-l))
 | _,_=>none
theorem slc_sl (T:Nat) (a:Option Addr) (n c:Nat) (lo hi mx:Option Value):sliceV P T (.slice a n c) lo hi mx=slcX (slK P T) (.slice a n c) lo hi mx:=id (Eq.trans rfl rfl)
theorem bound_n (l y:Nat) (k:IntKind) (h:l<=y):boundV (.int k (l:Int)) y=some l:=by
 simp only [boundV];rw [if_pos (by omega)];simp
theorem slcX_lo (sz b o n c l:Nat) (k:IntKind) (h:l<=n):slcX (some sz) (.slice (some ⟨b,o,none⟩) n c) (some (.int k (l:Int))) none none=some (slFrom b o sz l n c):=by
 simp only [slcX,optV,bound_n l n k h,slFrom,Option.isSome_none,Bool.false_and,Bool.false_eq_true,if_false]
 by_cases hc:c=l
 ·simp [hc]
 ·simp [hc,add_mk]
theorem slcX_hi (sz b o n c m:Nat) (k:IntKind) (h:m<=c):slcX (some sz) (.slice (some ⟨b,o,none⟩) n c) none (some (.int k (m:Int))) none=some (.slice (some ⟨b,o,none⟩) m c):=by
 simp only [slcX,optV,bound_n m c k h,Option.isSome_none,Bool.false_and,Bool.false_eq_true,if_false]
 by_cases hc:c=0
 ·simp [hc]
 ·simp [hc,add_mk]
theorem slcX_hm (sz b o n c m:Nat) (k k':IntKind) (h:m<=c):slcX (some sz) (.slice (some ⟨b,o,none⟩) n c) none (some (.int k (m:Int))) (some (.int k' (m:Int)))=some (.slice (some ⟨b,o,none⟩) m m):=by
 simp only [slcX,optV,bound_n m c k' h,bound_n m m k (Nat.le_refl _),Option.isSome_some,Option.isNone_some,Bool.and_false,Bool.false_eq_true,if_false]
 by_cases hc:m=0
 ·simp [hc]
 ·simp [hc,add_mk]
theorem slcX_all (sz b o n c:Nat):slcX (some sz) (.slice (some ⟨b,o,none⟩) n c) none none none=some (.slice (some ⟨b,o,none⟩) n c):=by
 simp only [slcX,optV,Option.isSome_none,Bool.false_and,Bool.false_eq_true,if_false]
 by_cases hc:c=0
 ·simp [hc]
 ·simp [hc,add_mk]
theorem slcX_nil (sz m:Nat) (k:IntKind) (h:m=0):slcX (some sz) (.slice none 0 0) none (some (.int k (m:Int))) none=some (.slice none 0 0):=by
 subst h;simp [slcX,optV,boundV]
end
theorem rgd :
  (∀ {P:Program} {ops:Array Oper} {H:Hold} {sink:Option Nat} {Q:Post} {e:Env} {w:World},WPlan P ops H sink Q [] e w=Q Exit.normal e w) ∧
  (∀ {P:Program} {ops:Array Oper} {H:Hold} {sink:Option Nat} {Q:Post} {e:Env} {w:World} (i x:Nat) (r:PlanL),WPlan P ops H sink Q ((0,i,x)::r) e w=withOp ops i (TakeO P ops H (WPlan P ops H sink Q r) e w)) ∧
  (∀ {P:Program} {ops:Array Oper} {H:Hold} {sink:Option Nat} {Q:Post} {e:Env} {w:World} (i x:Nat) (r:PlanL),WPlan P ops H sink Q ((1,i,x)::r) e w=DoAt P ops H sink i (WPlan P ops H sink Q r) e w) ∧
  (∀ {P:Program} {ops:Array Oper} {H:Hold} {sink:Option Nat} {Q:Post} {e:Env} {w:World} (i j:Nat) (r:PlanL),WPlan P ops H sink Q ((2,i,j)::r) e w=(DoAt P ops H sink i (DoAt P ops H sink j (WPlan P ops H sink Q r)) e w/\DoAt P ops H sink j (DoAt P ops H sink i (WPlan P ops H sink Q r)) e w)) ∧
  (∀ {P:Program} {ops:Array Oper} {H:Hold} {sink:Option Nat} {e:Env} {w:World} (i:Nat) (K:Env->World->Prop),DoAt P ops H sink i K e w=withOp ops i (DoO P ops (fun (w w':World)=>sink=some i\/keeps H w w') K e w)) ∧
  (∀ {P:Program} {ops:Array Oper} {Q:Post} {e:Env} {w:World} (bs:List Bool),WText P ops Q bs [] e w=Q Exit.normal e w) ∧
  (∀ {P:Program} {ops:Array Oper} {Q:Post} {e:Env} {w:World} (bs:List Bool) (o:Oper) (r:List Oper),WText P ops Q (true::bs) (o::r) e w=TakeO P ops none (WText P ops Q bs r) e w o) ∧
  (∀ {P:Program} {ops:Array Oper} {Q:Post} {e:Env} {w:World} (bs:List Bool) (o:Oper) (r:List Oper),WText P ops Q (false::bs) (o::r) e w=DoO P ops (fun (x x_1:World)=>True) (WText P ops Q bs r) e w o) ∧
  (∀ (o:Oper) (l:List Oper) (k:Oper->Prop),withOp (o::l).toArray 0 k=k o) ∧
  (∀ (o:Oper) (l:List Oper) (i:Nat) (k:Oper->Prop),withOp (o::l).toArray (i+1) k=withOp l.toArray i k) ∧
  (∀ {P:Program} {ops:Array Oper} {H:Hold} {e:Env} {w:World} {K:Env->World->Prop} (d:Option Nat) (op:Op) (ty:Nat) (pos:String) (af:Array Edge),TakeO P ops H K e w (Oper.mk d op ty pos af none)=bindO (tkOp P H e w op) fun (v:Value)=>K (updO e d v) w) ∧
  (∀ {P:Program} {ops:Array Oper} {H:Hold} {e:Env} {w:World} {K:Env->World->Prop} (d:Option Nat) (op:Op) (ty:Nat) (pos:String) (af:Array Edge) (j:Nat) (want:Bool),TakeO P ops H K e w (Oper.mk d op ty pos af (some (j,want)))=guardV (dstV ops e j) want (bindO (tkOp P H e w op) fun (v:Value)=>K (updO e d v) w) (K (updO e d undef) w)) ∧
  (∀ {P:Program} {ops:Array Oper} {e:Env} {w:World} {C:World->World->Prop} {K:Env->World->Prop} (d:Option Nat) (op:Op) (ty:Nat) (pos:String) (af:Array Edge) (j:Nat) (want:Bool),DoO P ops C K e w (Oper.mk d op ty pos af (some (j,want)))=guardV (dstV ops e j) want (DoO P ops C K e w (Oper.mk d op ty pos af none)) (K (updO e d undef) w)) ∧
  (∀ (e:Env) (v:Value),updO e none v=e) ∧
  (∀ (e:Env) (d:Nat) (v:Value),updO e (some d) v=upd e d v) ∧
  (∀ (K:Env->World->Prop) (e:Env) (w:World),nrm K Exit.normal e w=K e w) :=
 ⟨@WPlan_nil,@WPlan_take,@WPlan_do,@WPlan_fork,@DoAt_eq,@WText_nil,@WText_take,@WText_do,@withOp_zero,@withOp_succ,@take_none,@take_some,@do_some,@updN,@updS,@nrm_normal⟩
theorem zZ1:(∀ {α:Type} (l:List α),l.toArray.toList=l)/\type_of% @rgd/\type_of% @rgf:=⟨fun _=>rfl,@rgd,@rgf⟩
theorem rg :
  (∀ (yes no:Prop),guardV (some (Value.bool true)) true yes no=yes) ∧
  (∀ (yes no:Prop),guardV (some (Value.bool false)) false yes no=yes) ∧
  (∀ (yes no:Prop),guardV (some (Value.bool true)) false yes no=no) ∧
  (∀ (yes no:Prop),guardV (some (Value.bool false)) true yes no=no) ∧
  (∀ (want:Bool) (yes no:Prop),guardV (some undef) want yes no=no) ∧
  (∀ {e:Env} (o:Oper) (l:List Oper),dstV (o::l).toArray e 0=Option.map e o.dst) ∧
  (∀ {e:Env} (o:Oper) (l:List Oper) (j:Nat),dstV (o::l).toArray e (j+1)=dstV l.toArray e j) ∧
  (∀ {α β:Type} (f:α->β) (a:α),Option.map f (some a)=some (f a)) ∧
  (∀ {α β:Type} (f:α->β),Option.map f none=none) ∧
  (∀ (v:Value) (k:Value->Prop),bindO (some v) k=k v) ∧
  (∀ (P:Program) (H:Hold) (e:Env) (w:World) (x:Operand),tkOp P H e w (Op.move x)=some (ev e x)) ∧
  (∀ (P:Program) (H:Hold) (e:Env) (w:World) (x:Operand),tkOp P H e w (Op.assign x)=some (ev e x)) ∧
  (∀ (P:Program) (H:Hold) (e:Env) (w:World) (c a b:Operand),tkOp P H e w (Op.pick c a b)=pickG (ev e c) (ev e a) (ev e b)) ∧
  (∀ (P:Program) (H:Hold) (e:Env) (w:World) (T:Nat) (x:Operand),tkOp P H e w (Op.load T x)=ldG P H w T (ev e x)) ∧
  (∀ (P:Program) (H:Hold) (e:Env) (w:World) (x:Operand),tkOp P H e w (Op.nilCheck x)=nilG (ev e x)) ∧
  (∀ (P:Program) (H:Hold) (e:Env) (w:World) (op:BinOp) (T U:Nat) (x y:Operand),tkOp P H e w (Op.binOp op T x y U)=binV P op T (ev e x) (ev e y)) ∧
  (∀ (P:Program) (H:Hold) (e:Env) (w:World) (T:Nat) (x:Operand),tkOp P H e w (Op.unOp UnOp.not T x)=notG (ev e x)) ∧
  (∀ (P:Program) (H:Hold) (e:Env) (w:World) (S T:Nat) (x:Operand),tkOp P H e w (Op.convert S T x)=cvG (cvK P S T) (ev e x)) ∧
  (∀ (P:Program) (H:Hold) (e:Env) (w:World) (fn:Fn) (a b:Array Operand),tkOp P H e w (Op.makeFunc fn a b)=some (Value.func fn (Array.map (ev e) a) (Array.map (ev e) b))) ∧
  (∀ (P:Program) (H:Hold) (e:Env) (w:World) (T:Nat) (x:Operand) (lo hi mx:Option Operand),tkOp P H e w (Op.slice T x lo hi mx)=sliceV P T (ev e x) (Option.map (ev e) lo) (Option.map (ev e) hi) (Option.map (ev e) mx)) ∧
  (∀ (P:Program) (H:Hold) (e:Env) (w:World) (T f:Nat) (x:Operand),tkOp P H e w (Op.fieldAddr T x f)=foZ P H w (fOff P T f) T f (ev e x)) ∧
  (∀ (P:Program) (H:Hold) (w:World) (o T f:Nat) (x:Value),foZ P H w (some o) T f x=foG (some o) x) ∧
  (∀ (P:Program) (H:Hold) (w:World) (T f:Nat) (x:Value),foZ P H w none T f x=fzG P H w (fZero P T f) x) ∧
  (∀ (P:Program) (H:Hold) (w:World) (b o:Nat),fzG P H w true (.pointer (some (Addr.mk b o none)))=fzX (readsB H b) (tyOk P w b) b o) ∧
  (∀ (b o:Nat),fzX true true b o=some (.pointer (some (Addr.mk b o none)))) ∧
  (∀ (w:World) (b o:Nat),rdA w b o 0=some (.agg #[])) ∧
  (∀ (P:Program) (H:Hold) (e:Env) (w:World) (T f:Nat) (x:Operand),tkOp P H e w (Op.field T x f)=fldV P T (ev e x) f) ∧
  (∀ (P:Program) (H:Hold) (e:Env) (w:World) (T:Nat) (x i:Operand),tkOp P H e w (Op.indexAddr T x i)=idxV P T (ev e x) (ev e i)) ∧
  (∀ (P:Program) (H:Hold) (e:Env) (w:World) (T:Nat) (parts:List (Nat × Operand)),tkOp P H e w (Op.build T parts.toArray)=buildV P T (List.map (fun (p:Nat × Operand)=>(p.fst,ev e p.snd)) parts)) ∧
  (∀ (P:Program) (H:Hold) (e:Env) (w:World) (x:Operand) (i:Nat),tkOp P H e w (Op.extract x i)=exG (ev e x) i) ∧
  (∀ (P:Program) (H:Hold) (w:World) (T:Nat) (x:Operand) (e:Env),tkOp P H e w (Op.makeInterface T x)=mkX (coK P T) T (ev e x)) ∧
  (∀ (T:Nat) (v:Value),mkX true T v=some (Value.iface T v)) ∧
  (∀ (P:Program) (H:Hold) (e:Env) (w:World) (T U:Nat) (x:Operand) (ok:Bool),tkOp P H e w (Op.typeAssert x U T ok)=tasV P (ev e x) T ok) ∧
  (∀ (P:Program) (H:Hold) (e:Env) (w:World) (T:Nat) (x:Operand),tkOp P H e w (Op.call (Call.mk (Callee.builtin Builtin.len) #[x] #[T]))=lenV P T (ev e x)) ∧
  (∀ (P:Program) (H:Hold) (e:Env) (w:World) (T:Nat) (x:Operand),tkOp P H e w (Op.call (Call.mk (Callee.builtin Builtin.cap) #[x] #[T]))=capV P T (ev e x)) ∧
  (∀ (a b:Value),pickG (Value.bool true) a b=some a) ∧
  (∀ (a b:Value),pickG (Value.bool false) a b=some b) ∧
  (∀ (a:Addr),nilG (Value.pointer (some a))=some (Value.pointer (some a))) ∧
  (∀ (f:Nat) (a b:Array Value),nilG (Value.func (Fn.func f) a b)=some (Value.func (Fn.func f) a b)) ∧
  (∀ (b:Bool),notG (Value.bool b)=some (Value.bool !b)) ∧
  (∀ (k k':IntKind) (n:Int),cvG (some k) (Value.int k' n)=some (Value.int k (k.wrap n))) ∧
  (∀ (o:Nat) (a:Addr),foG (some o) (Value.pointer (some a))=some (Value.pointer (some (a.add o)))) ∧
  (∀ (l:List Value) (i:Nat),exG (Value.tuple l.toArray) i=l[i]?) ∧
  (∀ (v:Option Value),rdX true v=v) ∧
  (∀ (P:Program) (H:Hold) (w:World) (T:Nat) (a:Addr),ldG P H w T (Value.pointer (some a))=ldX H w (ldK P T) a) ∧
  (∀ (H:Hold) (w:World) (b o:Nat),ldX H w (some none) (Addr.mk b o none)=rdX (readsB H b) (rd w b o)) ∧
  (∀ (H:Hold) (w:World) (n b o:Nat),ldX H w (some (some n)) (Addr.mk b o none)=rdX (readsB H b) (rdA w b o n)) ∧
  (∀ (b:Nat),readsB none b=true) ∧
  (∀ (b:Nat),readsB (some none) b=true) ∧
  (∀ (P:Program) (T:Nat) (k:IntKind) (a b:Int),binV P BinOp.add T (Value.int k a) (Value.int k b)=some (Value.int k (k.wrap (a+b)))) ∧
  (∀ (P:Program) (T:Nat) (k:IntKind) (a b:Int),binV P BinOp.sub T (Value.int k a) (Value.int k b)=some (Value.int k (k.wrap (a-b)))) ∧
  (∀ (P:Program) (T:Nat) (a:Int),binV P BinOp.quo T (Value.int IntKind.i64 a) (Value.int IntKind.i64 2)=some (Value.int IntKind.i64 (IntKind.i64.wrap (a.tdiv 2)))) ∧
  (∀ (P:Program) (T:Nat) (k:IntKind) (a b:Int),binV P BinOp.lss T (Value.int k a) (Value.int k b)=some (Value.bool (decide (a<b)))) ∧
  (∀ (P:Program) (T:Nat) (k:IntKind) (a b:Int),binV P BinOp.leq T (Value.int k a) (Value.int k b)=some (Value.bool (decide (a<=b)))) ∧
  (∀ (P:Program) (T:Nat) (k:IntKind) (a b:Int),binV P BinOp.gtr T (Value.int k a) (Value.int k b)=some (Value.bool (decide (b<a)))) ∧
  (∀ (P:Program) (T:Nat) (k:IntKind) (a b:Int),binV P BinOp.geq T (Value.int k a) (Value.int k b)=some (Value.bool (decide (b<=a)))) ∧
  (∀ (P:Program) (T:Nat) (k:IntKind) (a b:Int),binV P BinOp.eql T (Value.int k a) (Value.int k b)=some (Value.bool (a == b))) ∧
  (∀ (P:Program) (T:Nat) (k:IntKind) (a b:Int),binV P BinOp.neq T (Value.int k a) (Value.int k b)=some (Value.bool (a != b))) ∧
  (∀ (b:Bool),ptX true b=some (Value.bool b)) ∧
  (∀ (P:Program) (T:Nat) (a:Option Addr),binV P BinOp.eql T (Value.pointer a) (Value.pointer none)=ptX (ptK P T) a.isNone) ∧
  (∀ (P:Program) (T:Nat) (a:Option Addr),binV P BinOp.neq T (Value.pointer a) (Value.pointer none)=ptX (ptK P T) !a.isNone) ∧
  (∀ (k n:Nat),lenX (some k) n=some (Value.int IntKind.i64 ↑n)) ∧
  (∀ (P:Program) (T:Nat) (a:Option Addr) (n c:Nat),lenV P T (Value.slice a n c)=lenX (slK P T) n) ∧
  (∀ (P:Program) (T:Nat) (a:Option Addr) (n c:Nat),capV P T (Value.slice a n c)=lenX (slK P T) c) ∧
  (∀ (P:Program) (T:Nat) (a:Addr) (n c:Nat) (k:IntKind) (i:Int),idxV P T (Value.slice (some a) n c) (Value.int k i)=idxX (slK P T) a n i) ∧
  (∀ (sz b o n i:Nat),i<n->idxX (some sz) (Addr.mk b o none) n ↑i=some (Value.pointer (some (Addr.mk b (o+i*sz) none)))) ∧
  (∀ (P:Program) (T:Nat) (a:Option Addr) (n c:Nat) (lo hi mx:Option Value),sliceV P T (Value.slice a n c) lo hi mx=slcX (slK P T) (Value.slice a n c) lo hi mx) ∧
  (∀ (sz b o n c l:Nat) (k:IntKind),l<=n->slcX (some sz) (Value.slice (some (Addr.mk b o none)) n c) (some (Value.int k ↑l)) none none=some (slFrom b o sz l n c)) ∧
  (∀ (sz b o n c m:Nat) (k:IntKind),m<=c->slcX (some sz) (Value.slice (some (Addr.mk b o none)) n c) none (some (Value.int k ↑m)) none=some (Value.slice (some (Addr.mk b o none)) m c)) ∧
  (∀ (sz b o n c m:Nat) (k k':IntKind),m<=c->slcX (some sz) (Value.slice (some (Addr.mk b o none)) n c) none (some (Value.int k ↑m)) (some (Value.int k' ↑m))=some (Value.slice (some (Addr.mk b o none)) m m)) ∧
  (∀ (sz b o n c:Nat),slcX (some sz) (Value.slice (some (Addr.mk b o none)) n c) none none none=some (Value.slice (some (Addr.mk b o none)) n c)) ∧
  (∀ (e:Env) (t:Nat),ev e (Operand.tmp t)=e t) ∧
  (∀ (e:Env) (v:Value),ev e (Operand.const v)=v) ∧
  (∀ (e:Env) (g:Nat),ev e (Operand.global g)=Value.pointer (some (Addr.mk g 0 none))) ∧
  (∀ (e:Env) (f:Nat),ev e (Operand.func f)=Value.func (Fn.func f) #[] #[]) ∧
  (∀ (e:Env) (d:Nat) (v:Value) (t:Nat),upd e d v t=if t=d then v else e t) ∧
  (∀ (b o n:Nat),(Addr.mk b o none).add n=Addr.mk b (o+n) none) ∧
  (∀ (w:World) (b o:Nat),rd w.drew b o=rd w b o) ∧
  (∀ (w:World) (b o n:Nat),rdA w.drew b o n=rdA w b o n) ∧
  (∀ (w:World) (n b o:Nat),rd (dr w n) b o=rd w b o) ∧
  (∀ (w:World) (n b o k:Nat),rdA (dr w n) b o k=rdA w b o k) ∧
  (∀ (w:World),w.drew=dr w (w.drawn+1)) ∧
  (∀ (w:World) (n:Nat),(dr w n).drew=dr w (n+1)) ∧
  (∀ (w:World) (n m:Nat),dr (dr w n) m=dr w m) ∧
  (∀ {α β:Type} (f:α->β) (l:List α),Array.map f l.toArray=(List.map f l).toArray) ∧
  (∀ {α β:Type} (f:α->β) (a:α) (l:List α),List.map f (a::l)=f a::List.map f l) ∧
  (∀ {α β:Type} (f:α->β),List.map f []=[]) ∧
  (∀ {α:Type} (a:α) (l:List α),(a::l)[0]? = some a) ∧
  (∀ {α:Type} (a:α) (l:List α) (i:Nat),(a::l)[i+1]? = l[i]?) ∧
  (∀ (n:Nat),0+n=n) ∧
  (∀ (a:Nat),a+0=a) ∧
  (∀ (a:Nat),a*1=a) ∧
  (∀ (w:World) (n:Nat),(dr w n).heap.size=w.heap.size) ∧
  (∀ (P:Program) (w:World) (n b:Nat),tyOk P (dr w n) b=tyOk P w b) ∧
  ((!true)=false) ∧
  ((!false)=true) ∧
  (∀ {α:Type} (a:α),(some a).isNone=false) ∧
  (∀ {α:Type},(none:Option α).isNone=true) ∧
  (∀ {α:Type} (a:α),(some a).isSome=true) :=
 ⟨@guardV_tt,@guardV_ff,@guardV_tf,@guardV_ft,@guardV_undef,@dstV_zero,@dstV_succ,@omS,@omN,@bindO_some,@tk_move,@tk_assign,@tk_pick,@tk_load,@tk_nil,@tk_bin,@tk_not,@tk_conv,@tk_mkf,@tk_slice,@tk_fo,@foZ_s,@foZ_n,@fz_p,@fzX_t,@rdA_0,@tk_fld,@tk_idx,@tk_build,@tk_ext,@mk_i,@mkX_t,@tk_tas,@tk_len,@tk_cap,@pick_t,@pick_f,@nil_p,@nil_f,@not_b,@cv_i,@fo_p,@ex_t,@rdX_t,@ld_p,@ldX_1,@ldX_n,@rB_any,@rB_all,@bv_add,@bv_sub,@bv_half,@bv_lss,@bv_leq,@bv_gtr,@bv_geq,@bv_eql,@bv_neq,@ptX_t,@bv_peq,@bv_pne,@lenX_s,@len_sl,@cap_sl,@idx_sl,@idxX_s,@slc_sl,@slcX_lo,@slcX_hi,@slcX_hm,@slcX_all,@evt,@evc,@evg,@evf,@upd_eq,@add_mk,@rd_drew,@rdA_drew,@rd_dr,@rdA_dr,@drew_dr,@dr_drew,@dr_dr,@maT,@maC,@maN,@geZ,@geS,@Nat.zero_add,@naZ,@nm1,@sz_dr,@ty_dr,@ntT,@ntF,@isnS,@isnN,@issS⟩
end Go.Proofs.Ytbnnkcofnmipoaa
namespace Go.Proofs.Ytbnnkcofnmipoaa
structure SOrd (R:Type) where
 lt:R->R->Bool
 irr:∀ a,lt a a=false
 tr:∀ a b c,lt a b=true->lt b c=true->lt a c=true
 tot:∀ a b,lt a b=false->lt b a=false->a=b
theorem SOrd.asym {R:Type} (O:SOrd R) {a b:R} (h:O.lt a b=true):O.lt b a=false:=by
 cases hb:O.lt b a with
 | false=>rfl
 | true=>have:=O.tr a b a h hb;rw [O.irr] at this;cases this
def intOrd:SOrd Int where
 lt a b:=decide (a<b)
 irr a:=by simp
 tr a b c h1 h2:=by simp at *;omega
 tot a b h1 h2:=by simp at *;omega
section
variable {α R:Type} (O:SOrd R) (κ:α->R)
def Asc (xs:List α):Prop:=xs.Pairwise fun a b=>O.lt (κ a) (κ b)=true
def lb (q:R):List α->Nat
 | []=>0
 | x::xs=>if O.lt (κ x) q=true then lb q xs+1 else 0
def hit (q:R) (xs:List α):Bool :=
 match xs[lb O κ q xs]? with
 | some x=>!O.lt q (κ x)
 | none=>false
def put (x:α) (xs:List α):List α:=xs.take (lb O κ (κ x) xs)++x::xs.drop (lb O κ (κ x) xs+if hit O κ (κ x) xs then 1 else 0)
def at? (q:R) (xs:List α):Option α:=if hit O κ q xs then xs[lb O κ q xs]? else none
def del (q:R) (xs:List α):List α:=if hit O κ q xs then xs.eraseIdx (lb O κ q xs) else xs
theorem lb_le (q:R):∀ xs:List α,lb O κ q xs<=xs.length
 | []=>Nat.le_refl _
 | x::xs=>by simp only [lb];split<;>simp;exact lb_le q xs
theorem lb_append_of_lt {q:R}:∀ {xs:List α} (ys:List α),(∀ x ∈ xs,O.lt (κ x) q=true)->lb O κ q (xs++ys)=xs.length+lb O κ q ys
 | [],ys,_=>by simp
 | x::xs,ys,h=>by
  simp only [List.cons_append,lb,h x (by simp),if_true,List.length_cons]
  rw [lb_append_of_lt ys fun y hy=>h y (by simp [hy])];omega
theorem lb_append_of_ge {q:R}:∀ {xs:List α} (ys:List α),(∀ y ∈ ys.head?,O.lt (κ y) q=false)->lb O κ q (xs++ys)=lb O κ q xs
 | [],[],_=>rfl
 | [],y::ys,h=>by simp [lb,h y (by simp)]
 | x::xs,ys,h=>by simp only [List.cons_append,lb];rw [lb_append_of_ge ys h]
theorem lb_eq {q:R} {xs:List α} {i:Nat} (hlt:∀ x ∈ xs.take i,O.lt (κ x) q=true) (hge:∀ x,xs[i]? = some x->O.lt (κ x) q=false) (hi:i<=xs.length):lb O κ q xs=i:=by
 have h:=lb_append_of_lt O κ (q:=q) (xs:=xs.take i) (xs.drop i) hlt
 rw [List.take_append_drop] at h
 rw [h]
 have:lb O κ q (xs.drop i)=0:=by
  cases hd:xs.drop i with
  | nil=>rfl
  | cons y ys =>
   have:xs[i]? = some y:=by
    have:=congrArg (fun l:List α=>l[0]?) hd
    simpa using this
   simp [lb,hge y this]
 rw [this,List.length_take];omega
theorem lb_take_lt {q:R}:∀ {xs:List α},∀ x ∈ xs.take (lb O κ q xs),O.lt (κ x) q=true
 | [],x,h=>by simp at h
 | y::ys,x,h=>by
  simp only [lb] at h
  split at h
  ·rename_i hy
   rw [List.take_succ_cons] at h
   rcases List.mem_cons.1 h with rfl | h
   ·exact hy
   ·exact lb_take_lt x h
  ·simp at h
theorem lb_ge {q:R}:∀ {xs:List α} {x:α},xs[lb O κ q xs]? = some x->O.lt (κ x) q=false
 | [],x,h=>by simp at h
 | y::ys,x,h=>by
  simp only [lb] at h
  split at h
  ·rename_i hy
   exact lb_ge (by simpa using h)
  ·rename_i hy
   simp at h;subst h
   simpa using hy
theorem Asc.append {xs ys:List α}:Asc O κ (xs++ys) ↔ Asc O κ xs/\Asc O κ ys/\∀ x ∈ xs,∀ y ∈ ys,O.lt (κ x) (κ y)=true:=by
 unfold Asc;exact List.pairwise_append
theorem Asc.drop_gt {xs:List α} (h:Asc O κ xs) {q:R}:∀ x ∈ xs.drop (lb O κ q xs),O.lt (κ x) q=false:=by
 intro x hx
 cases hd:xs.drop (lb O κ q xs) with
 | nil=>rw [hd] at hx;cases hx
 | cons y ys =>
  have h0:xs[lb O κ q xs]? = some y:=by
   have:=congrArg (fun l:List α=>l[0]?) hd
   simpa using this
  have hy:=lb_ge O κ h0
  rw [hd] at hx
  rcases List.mem_cons.1 hx with rfl | hx
  ·exact hy
  ·have ha:Asc O κ (xs.drop (lb O κ q xs)):=List.Pairwise.sublist (List.drop_sublist _ _) h
   rw [hd] at ha
   have hlt:=(List.pairwise_cons.1 ha).1 x hx
   cases hq:O.lt (κ x) q with
   | false=>rfl
   | true=>have:=O.tr _ _ _ hlt hq;rw [hy] at this;cases this
theorem lb_mid {q:R} {a m c:List α} (ha:∀ x ∈ a,O.lt (κ x) q=true) (hc:∀ x ∈ c.head?,O.lt (κ x) q=false):lb O κ q (a++m++c)=a.length+lb O κ q m:=by
 rw [lb_append_of_ge O κ c hc,lb_append_of_lt O κ m ha]
theorem hit_mid {q:R} {a m c:List α} (ha:∀ x ∈ a,O.lt (κ x) q=true) (hc:∀ x ∈ c.head?,O.lt q (κ x)=true):hit O κ q (a++m++c)=hit O κ q m:=by
 have hc':∀ x ∈ c.head?,O.lt (κ x) q=false:=fun x hx=>O.asym (hc x hx)
 unfold hit
 rw [lb_mid O κ ha hc',List.append_assoc,List.getElem?_append_right (by omega),Nat.add_sub_cancel_left]
 by_cases hlt:lb O κ q m<m.length
 ·rw [List.getElem?_append_left hlt]
 ·have:lb O κ q m=m.length:=by have:=lb_le O κ q m;omega
  rw [List.getElem?_append_right (by omega),this]
  simp only [Nat.sub_self,List.getElem?_eq_none (Nat.le_refl _)]
  cases c with
  | nil=>rfl
  | cons y ys=>simp [hc y (by simp)]
theorem put_mid {x:α} {a m c:List α} (ha:∀ y ∈ a,O.lt (κ y) (κ x)=true) (hc:∀ y ∈ c.head?,O.lt (κ x) (κ y)=true):put O κ x (a++m++c)=a++put O κ x m++c:=by
 have hc':∀ y ∈ c.head?,O.lt (κ y) (κ x)=false:=fun y hy=>O.asym (hc y hy)
 have hl:=lb_le O κ (κ x) m
 unfold put
 rw [hit_mid O κ ha hc,lb_mid O κ ha hc']
 have h1:(a++m++c).take (a.length+lb O κ (κ x) m)=a++m.take (lb O κ (κ x) m):=by
  rw [List.append_assoc,List.take_append,List.take_of_length_le (by omega),Nat.add_sub_cancel_left,List.take_append_of_le_length hl]
 have hle:lb O κ (κ x) m+(if hit O κ (κ x) m then 1 else 0)<=m.length:=by
  split
  ·rename_i hh
   unfold hit at hh
   cases hg:m[lb O κ (κ x) m]? with
   | none=>rw [hg] at hh;cases hh
   | some y=>have:=(List.getElem?_eq_some_iff.1 hg).1;omega
  ·omega
 have h2:(a++m++c).drop (a.length+lb O κ (κ x) m+if hit O κ (κ x) m then 1 else 0)=m.drop (lb O κ (κ x) m+if hit O κ (κ x) m then 1 else 0)++c:=by
  rw [List.append_assoc,Nat.add_assoc,List.drop_append,List.drop_eq_nil_of_le (by omega),Nat.add_sub_cancel_left,List.nil_append,List.drop_append_of_le_length hle]
 rw [h1,h2]
 simp
theorem put_asc {x:α} {xs:List α} (h:Asc O κ xs):Asc O κ (put O κ x xs):=by
 unfold put
 have hd:=h.drop_gt O κ (q:=κ x)
 have ht:=lb_take_lt O κ (q:=κ x) (xs:=xs)
 have hgt:∀ y ∈ xs.drop (lb O κ (κ x) xs+if hit O κ (κ x) xs then 1 else 0),O.lt (κ x) (κ y)=true:=by
  intro y hy
  have hy':y ∈ xs.drop (lb O κ (κ x) xs):=by
   split at hy
   ·rw [<-List.drop_drop] at hy;exact List.mem_of_mem_drop hy
   ·simpa using hy
  have h1:=hd y hy'
  cases hxy:O.lt (κ x) (κ y) with
  | true=>rfl
  | false =>
   exfalso
   have he:=O.tot _ _ h1 hxy
   cases hdr:xs.drop (lb O κ (κ x) xs) with
   | nil=>rw [hdr] at hy';cases hy'
   | cons z zs =>
    have h0:xs[lb O κ (κ x) xs]? = some z:=by
     have:=congrArg (fun l:List α=>l[0]?) hdr
     simpa using this
    have ha:Asc O κ (z::zs):=hdr ▸ List.Pairwise.sublist (List.drop_sublist _ _) h
    by_cases hh:hit O κ (κ x) xs=true
    ·rw [if_pos hh,<-List.drop_drop,hdr] at hy
     have hy2:y ∈ zs:=by simpa using hy
     have hzy:=(List.pairwise_cons.1 ha).1 y hy2
     have hz:=lb_ge O κ h0
     have hzx:O.lt (κ x) (κ z)=false:=by unfold hit at hh;rw [h0] at hh;simpa using hh
     rw [<-O.tot _ _ hz hzx] at he
     rw [he] at hzy;rw [O.irr] at hzy;cases hzy
    ·rw [hdr] at hy'
     have hzx:O.lt (κ x) (κ z)=true:=by
      unfold hit at hh;rw [h0] at hh;simpa using hh
     rcases List.mem_cons.1 hy' with rfl | hy2
     ·rw [hxy] at hzx;cases hzx
     ·have:=O.tr _ _ _ hzx ((List.pairwise_cons.1 ha).1 y hy2);rw [hxy] at this;cases this
 refine (Asc.append O κ).2 ⟨List.Pairwise.sublist (List.take_sublist _ _) h,List.pairwise_cons.2 ⟨hgt,List.Pairwise.sublist (List.drop_sublist _ _) h⟩,fun a ha b hb=>?_⟩
 rcases List.mem_cons.1 hb with rfl | hb
 ·exact ht a ha
 ·exact O.tr _ _ _ (ht a ha) (hgt b hb)
theorem put_length (x:α) (xs:List α):(put O κ x xs).length=xs.length+if hit O κ (κ x) xs then 0 else 1:=by
 have hl:=lb_le O κ (κ x) xs
 unfold put
 by_cases hh:hit O κ (κ x) xs=true
 ·have:lb O κ (κ x) xs<xs.length:=by
   unfold hit at hh
   cases hg:xs[lb O κ (κ x) xs]? with
   | none=>rw [hg] at hh;cases hh
   | some y=>exact (List.getElem?_eq_some_iff.1 hg).1
  simp [hh];omega
 ·simp [hh];omega
end
end Go.Proofs.Ytbnnkcofnmipoaa
namespace Go.Proofs.Ytbnnkcofnmipoaa
open Go
theorem wadd (a b:Nat) (h:a+b<9223372036854775808):IntKind.i64.wrap ((a:Int)+(b:Int))=((a+b:Nat):Int):=by rw [IntWalk.i64_in _ (by omega)];omega
theorem wadd1 (a:Nat) (h:a+1<9223372036854775808):IntKind.i64.wrap ((a:Int)+1)=((a+1:Nat):Int):=by rw [IntWalk.i64_in _ (by omega)];omega
theorem wsub (a b:Nat) (h:b<=a) (ha:a<9223372036854775808):IntKind.i64.wrap ((a:Int)-(b:Int))=((a-b:Nat):Int):=by rw [IntWalk.i64_in _ (by omega)];omega
theorem wsub1 (a:Nat) (h:1<=a) (ha:a<9223372036854775808):IntKind.i64.wrap ((a:Int)-1)=((a-1:Nat):Int):=by rw [IntWalk.i64_in _ (by omega)];omega
theorem wdiv2 (a:Nat) (ha:a<9223372036854775808):IntKind.i64.wrap ((a:Int).tdiv 2)=((a / 2:Nat):Int):=by
 rw [IntWalk.i64_quo _ _ (by omega)];omega
theorem lt_tt (i n:Nat) (h:i<n):decide ((i:Int)<(n:Int))=true:=by simp;omega
theorem lt_ff (i n:Nat) (h:n<=i):decide ((i:Int)<(n:Int))=false:=by simp;omega
structure Enc (α:Type) where
 cel:α->List Value
 sz:Nat
 len:∀ a,(cel a).length=sz
 one:∀ a,oc (cel a)
 pos:0<sz
section
variable {α:Type} (E:Enc α)
def flat (xs:List α):List Value:=xs.flatMap E.cel
theorem flat_cons (x:α) (xs:List α):flat E (x::xs)=E.cel x++flat E xs:=by simp [flat]
theorem flat_append (xs ys:List α):flat E (xs++ys)=flat E xs++flat E ys:=by simp [flat]
theorem flat_one (x:α):flat E [x]=E.cel x:=by simp [flat]
theorem flat_length (xs:List α):(flat E xs).length=xs.length*E.sz:=by
 induction xs with
 | nil=>simp [flat]
 | cons x xs ih=>rw [flat_cons,List.length_append,ih,E.len,List.length_cons,Nat.add_mul];omega
theorem flat_oc (xs:List α):oc (flat E xs):=fun v hv=>by
 simp only [flat,List.mem_flatMap] at hv
 obtain ⟨x,_,hx⟩:=hv
 exact E.one x v hx
theorem flat_take (xs:List α) (n:Nat):(flat E xs).take (n*E.sz)=flat E (xs.take n):=by
 induction xs generalizing n with
 | nil=>simp [flat]
 | cons x xs ih =>
  cases n with
  | zero=>simp [flat]
  | succ n =>
   rw [flat_cons,List.take_succ_cons,flat_cons,List.take_append,E.len,Nat.add_mul,Nat.one_mul,List.take_of_length_le (by rw [E.len];omega),Nat.add_sub_cancel,ih]
theorem flat_drop (xs:List α) (n:Nat):(flat E xs).drop (n*E.sz)=flat E (xs.drop n):=by
 induction xs generalizing n with
 | nil=>simp [flat]
 | cons x xs ih =>
  cases n with
  | zero=>simp
  | succ n =>
   rw [flat_cons,List.drop_succ_cons,List.drop_append,E.len,Nat.add_mul,Nat.one_mul,List.drop_eq_nil_of_le (by rw [E.len];omega),Nat.add_sub_cancel,ih,List.nil_append]
theorem row_at {w:World} {b o:Nat} {xs:List α} (h:Row w b o (flat E xs)) {i:Nat} {x:α} (hi:xs[i]? = some x):Row w b (o+i*E.sz) (E.cel x):=by
 have h1:=h.drop (i*E.sz)
 rw [flat_drop] at h1
 have hlt:=(List.getElem?_eq_some_iff.1 hi).1
 have hd:xs.drop i=x::xs.drop (i+1):=by
  rw [List.drop_eq_getElem_cons hlt];congr 1
  exact (List.getElem?_eq_some_iff.1 hi).2
 rw [hd,flat_cons] at h1
 exact (Row.append.1 h1).1
theorem row_cell {w:World} {b o:Nat} {l:List Value} (h:Row w b o l) {j:Nat} {v:Value} (hj:l[j]? = some v):rd w b (o+j)=some v:=h j v hj
def ptr (b:Nat):Value:=.pointer (some ⟨b,0,none⟩)
theorem ptr_eq (b:Nat):ptr b = .pointer (some ⟨b,0,none⟩):=id (Eq.trans rfl rfl)
structure Own (w:World) (b:Nat) (iso cnt:Int) (bi oi cap:Nat) (ks:List α) (ch:Value):Prop where
 h0:rd w b 0=some (.int .u64 iso)
 h1:rd w b 1=some (.int .i64 cnt)
 h2:rd w b 2=some (.slice (some ⟨bi,oi,none⟩) ks.length cap)
 h3:rd w b 3=some ch
 wb:wok w b 4
 row:Row w bi oi (flat E ks)
 wi:wok w bi (oi+cap*E.sz)
 le:ks.length<=cap
 ne:bi ≠ b
structure Kids (w:World) (bc ba oa capc:Nat) (ps:List Nat):Prop where
 c0:rd w bc 0=some (.slice (some ⟨ba,oa,none⟩) ps.length capc)
 wc:wok w bc 1
 row:Row w ba oa (ps.map ptr)
 wa:wok w ba (oa+capc)
 le:ps.length<=capc
 ne:ba ≠ bc
def ownF (b bi oi cap:Nat):Nat->Nat->Prop:=fun x o=>x=b\/rng bi oi (cap*E.sz) x o
def kidF (bc ba oa capc:Nat):Nat->Nat->Prop:=fun x o=>x=bc\/rng ba oa capc x o
inductive Sh (α:Type) where
 | nd:List α->List (Sh α)->Sh α
structure FS (α:Type) where
 f:Nat->Nat->Prop
 s:Sh α
instance {α:Type}:CoeFun (FS α) fun _=>Nat->Nat->Prop:=⟨FS.f⟩
structure Fp {α:Type} (F:FS α) (g:Nat->Nat->Prop) (s:Sh α):Prop where
 p:∀ x o,F x o ↔ g x o
 e:F.s=s
instance {α:Type} {F:FS α} {g:Nat->Nat->Prop} {s:Sh α}:CoeFun (Fp F g s) fun _=>∀ x o,F x o ↔ g x o:=⟨Fp.p⟩
structure Kid (α:Type) where
 b:Nat
 xs:List α
 F:FS α
def weave:List (List α)->List α->List α
 | [],_=>[]
 | x::_,[]=>x
 | x::xs,k::ks=>x++k::weave xs ks
structure Apart (b bi oi cap bc ba oa capc:Nat) (cs:List (Kid α)):Prop where
 cb:bc ≠ b
 ab:ba ≠ b
 ic:bi ≠ bc
 ia:bi ≠ ba
 own:∀ c ∈ cs,∀ x o,c.F x o->¬ ownF E b bi oi cap x o
 kid:∀ c ∈ cs,∀ x o,c.F x o->¬ kidF bc ba oa capc x o
 two:cs.Pairwise fun c d=>∀ x o,c.F x o->¬ d.F x o
variable (iso:Int) (mn mx:Nat)
def Tr:Nat->World->Nat->Nat->List α->FS α->Prop
 | 0,w,lo,b,xs,F=>∃ bi oi cap,Own E w b iso xs.length bi oi cap xs (.pointer none)/\lo<=xs.length/\xs.length<=mx/\Fp F (ownF E b bi oi cap) (.nd xs [])
 | h+1,w,lo,b,xs,F=>∃ bi oi cap bc ba oa capc ks,∃ cs:List (Kid α),Own E w b iso xs.length bi oi cap ks (ptr bc)/\Kids w bc ba oa capc (cs.map Kid.b) ∧
   lo<=ks.length/\ks.length<=mx/\cs.length=ks.length+1/\xs=weave (cs.map Kid.xs) ks/\(∀ c ∈ cs,Tr h w mn c.b c.xs c.F)/\Apart E b bi oi cap bc ba oa capc cs ∧
   Fp F (fun x o=>ownF E b bi oi cap x o\/kidF bc ba oa capc x o\/∃ c ∈ cs,c.F x o) (.nd ks (cs.map fun c=>c.F.s))
end
section
variable {α:Type} {E:Enc α} {iso:Int} {mn mx:Nat}
theorem Own.ext {w w':World} {G:Nat->Nat->Prop} {b:Nat} {cnt:Int} {bi oi cap:Nat} {ks:List α} {ch:Value} (h:Own E w b iso cnt bi oi cap ks ch) (hx:Ext G w w')
  (hG:∀ x o,ownF E b bi oi cap x o->¬ G x o):Own E w' b iso cnt bi oi cap ks ch :=
 ⟨hx.rd h.h0 (hG _ _ (.inl rfl)),hx.rd h.h1 (hG _ _ (.inl rfl)),hx.rd h.h2 (hG _ _ (.inl rfl)),hx.rd h.h3 (hG _ _ (.inl rfl)),hx.wok h.wb,
  hx.row h.row fun i hi=>hG _ _ (.inr ⟨rfl,by omega,by rw [flat_length] at hi;have:=Nat.mul_le_mul_right E.sz h.le;omega⟩),hx.wok h.wi,h.le,h.ne⟩
theorem Kids.ext {w w':World} {G:Nat->Nat->Prop} {bc ba oa capc:Nat} {ps:List Nat} (h:Kids w bc ba oa capc ps) (hx:Ext G w w')
  (hG:∀ x o,kidF bc ba oa capc x o->¬ G x o):Kids w' bc ba oa capc ps :=
 ⟨hx.rd h.c0 (hG _ _ (.inl rfl)),hx.wok h.wc,hx.row h.row fun i hi=>hG _ _ (.inr ⟨rfl,by omega,by rw [List.length_map] at hi;have:=h.le;omega⟩),hx.wok h.wa,h.le,h.ne⟩
theorem Tr.ext {w w':World} {G:Nat->Nat->Prop} (hx:Ext G w w'):∀ {h lo b:Nat} {xs:List α} {F:FS α},Tr E iso mn mx h w lo b xs F->(∀ x o,F x o->¬ G x o)->Tr E iso mn mx h w' lo b xs F
 | 0,_,_,_,_,⟨bi,oi,cap,hO,h1,h2,hF⟩,hG=>⟨bi,oi,cap,hO.ext hx fun x o ho=>hG x o ((hF x o).2 ho),h1,h2,hF⟩
 | _+1,_,_,_,_,⟨bi,oi,cap,bc,ba,oa,capc,ks,cs,hO,hK,h1,h2,h3,h4,hT,hA,hF⟩,hG =>
  ⟨bi,oi,cap,bc,ba,oa,capc,ks,cs,hO.ext hx fun x o ho=>hG x o ((hF x o).2 (.inl ho)),hK.ext hx fun x o ho=>hG x o ((hF x o).2 (.inr (.inl ho))),h1,h2,h3,h4,
   fun c hc=>(hT c hc).ext hx fun x o ho=>hG x o ((hF x o).2 (.inr (.inr ⟨c,hc,ho⟩))),hA,hF⟩
theorem Own.lt {w:World} {b:Nat} {cnt:Int} {bi oi cap:Nat} {ks:List α} {ch:Value} (h:Own E w b iso cnt bi oi cap ks ch) {x o:Nat} (ho:ownF E b bi oi cap x o):x<w.heap.size:=by
 rcases ho with rfl | ⟨rfl,_⟩
 ·exact wok_lt h.wb
 ·exact wok_lt h.wi
theorem Kids.lt {w:World} {bc ba oa capc:Nat} {ps:List Nat} (h:Kids w bc ba oa capc ps) {x o:Nat} (ho:kidF bc ba oa capc x o):x<w.heap.size:=by
 rcases ho with rfl | ⟨rfl,_⟩
 ·exact wok_lt h.wc
 ·exact wok_lt h.wa
theorem Tr.lt {w:World}:∀ {h lo b:Nat} {xs:List α} {F:FS α},Tr E iso mn mx h w lo b xs F->∀ x o,F x o->x<w.heap.size
 | 0,_,_,_,_,⟨bi,oi,cap,hO,_,_,hF⟩,x,o,ho=>hO.lt ((hF x o).1 ho)
 | _+1,_,_,_,_,⟨bi,oi,cap,bc,ba,oa,capc,ks,cs,hO,hK,_,_,_,_,hT,_,hF⟩,x,o,ho=>by
  rcases (hF x o).1 ho with h | h | ⟨c,hc,h⟩
  ·exact hO.lt h
  ·exact hK.lt h
  ·exact (hT c hc).lt x o h
theorem Tr.self {w:World}:∀ {h lo b:Nat} {xs:List α} {F:FS α},Tr E iso mn mx h w lo b xs F->∀ o,F b o
 | 0,_,_,_,_,⟨_,_,_,_,_,_,hF⟩,o=>(hF _ o).2 (.inl rfl)
 | _+1,_,_,_,_,⟨_,_,_,_,_,_,_,_,_,_,_,_,_,_,_,_,_,hF⟩,o=>(hF _ o).2 (.inl (.inl rfl))
theorem Tr.mono {w:World}:∀ {h lo lo' b:Nat} {xs:List α} {F:FS α},Tr E iso mn mx h w lo b xs F->lo'<=lo->Tr E iso mn mx h w lo' b xs F
 | 0,_,_,_,_,_,⟨bi,oi,cap,hO,h1,h2,hF⟩,hl=>⟨bi,oi,cap,hO,Nat.le_trans hl h1,h2,hF⟩
 | _+1,_,_,_,_,_,⟨bi,oi,cap,bc,ba,oa,capc,ks,cs,hO,hK,h1,h2,h3⟩,hl=>⟨bi,oi,cap,bc,ba,oa,capc,ks,cs,hO,hK,Nat.le_trans hl h1,h2,h3⟩
variable {R:Type} (O:SOrd R) (κ:α->R)
theorem found_at {ks:List α} (ha:Asc O κ ks) {q:R} {u:Nat} (hu:u<=ks.length) (h1:∀ i x,i<u->ks[i]? = some x->O.lt q (κ x)=false) (h2:∀ x,ks[u]? = some x->O.lt q (κ x)=true)
  {x:α} (h0:0<u) (hx:ks[u-1]? = some x) (ht:O.lt (κ x) q=false):lb O κ q ks=u-1/\hit O κ q ks=true:=by
 have he:=O.tot _ _ ht (h1 _ _ (by omega) hx)
 have hl:lb O κ q ks=u-1:=by
  refine lb_eq O κ (fun y hy=>?_) (fun y hy=>by rw [hx] at hy;cases hy;exact ht) (by omega)
  have hlt:=(List.getElem?_eq_some_iff.1 hx).1
  have hd:ks.drop (u-1)=x::ks.drop (u-1+1):=by
   rw [List.drop_eq_getElem_cons hlt];congr 1
   exact (List.getElem?_eq_some_iff.1 hx).2
  rw [<-he]
  rw [<-List.take_append_drop (u-1) ks,hd] at ha
  exact ((Asc.append O κ).1 ha).2.2 y hy x (by simp)
 refine ⟨hl,?_⟩
 unfold hit
 rw [hl,hx]
 simp [h1 _ _ (by omega) hx]
theorem missed_at {ks:List α} (ha:Asc O κ ks) {q:R} {u:Nat} (hu:u<=ks.length) (h2:∀ x,ks[u]? = some x->O.lt q (κ x)=true)
  (ht:∀ x,0<u->ks[u-1]? = some x->O.lt (κ x) q=true):lb O κ q ks=u/\hit O κ q ks=false:=by
 have hl:lb O κ q ks=u:=by
  refine lb_eq O κ (fun y hy=>?_) (fun y hy=>O.asym (h2 y hy)) hu
  by_cases h0:u=0
  ·subst h0;simp at hy
  ·obtain ⟨x,hx⟩:∃ x,ks[u-1]? = some x:=⟨_,List.getElem?_eq_getElem (by omega)⟩
   have hlt:=(List.getElem?_eq_some_iff.1 hx).1
   have ht':=ht x (by omega) hx
   have hsp:ks.take u=ks.take (u-1)++[x]:=by
    have:=List.take_succ_eq_append_getElem hlt
    rw [show u-1+1=u by omega] at this
    rw [this,(List.getElem?_eq_some_iff.1 hx).2]
   rw [hsp] at hy
   rcases List.mem_append.1 hy with hy | hy
   ·have ha':Asc O κ (ks.take u):=List.Pairwise.sublist (List.take_sublist _ _) ha
    rw [hsp] at ha'
    exact O.tr _ _ _ (((Asc.append O κ).1 ha').2.2 y hy x (by simp)) ht'
   ·have:y=x:=by simpa using hy
    rw [this];exact ht'
 refine ⟨hl,?_⟩
 unfold hit
 rw [hl]
 cases hx:ks[u]? with
 | none=>rfl
 | some x=>simp [h2 x hx]
end
end Go.Proofs.Ytbnnkcofnmipoaa
namespace Go.Proofs.Ytbnnkcofnmipoaa
section
variable {α:Type}
theorem weave_cons (c:List α) (cs:List (List α)) (k:α) (ks:List α):weave (c::cs) (k::ks)=c++k::weave cs ks:=rfl
structure WAt (cs:List (List α)) (ks:List α) (i:Nat) (A C:List α):Prop where
 set:∀ c',weave (cs.set i c') ks=A++c'++C
 two:∀ cl md cr,weave (cs.take i++cl::cr::cs.drop (i+1)) (ks.take i++md::ks.drop i)=A++(cl++md::cr)++C
 left:A=[]/\i=0\/∃ A' k,0<i/\ks[i-1]? = some k/\A=A'++[k]
 right:C=[]/\i=ks.length\/∃ k C',ks[i]? = some k/\C=k::C'
theorem weave_at:∀ (i:Nat) (cs:List (List α)) (ks:List α),cs.length=ks.length+1->i<=ks.length->∃ A C,WAt cs ks i A C
 | 0,[],ks,h,_=>by simp at h
 | 0,c::cs,[],h,_=>by
  have:cs=[]:=List.eq_nil_of_length_eq_zero (by simpa using h)
  subst this
  exact ⟨[],[],fun c'=>by simp [weave],fun cl md cr=>by simp [weave],.inl ⟨rfl,rfl⟩,.inl ⟨rfl,rfl⟩⟩
 | 0,c::cs,k::ks,h,_=>⟨[],k::weave cs ks,fun c'=>by simp [weave],fun cl md cr=>by simp [weave],.inl ⟨rfl,rfl⟩,.inr ⟨k,_,rfl,rfl⟩⟩
 | i+1,[],ks,h,_=>by simp at h
 | i+1,c::cs,[],_,hi=>by simp at hi
 | i+1,c::cs,k::ks,h,hi=>by
  obtain ⟨A,C,hw⟩:=weave_at i cs ks (by simpa using h) (by simpa using hi)
  refine ⟨c++k::A,C,fun c'=>?_,fun cl md cr=>?_,.inr ?_,?_⟩
  ·rw [List.set_cons_succ,weave_cons,hw.set];simp
  ·rw [List.take_succ_cons,List.take_succ_cons,List.drop_succ_cons,List.drop_succ_cons,List.cons_append,List.cons_append,weave_cons,hw.two];simp
  ·rcases hw.left with ⟨rfl,rfl⟩ | ⟨A',k',h0,hk,rfl⟩
   ·exact ⟨c,k,by omega,rfl,rfl⟩
   ·refine ⟨c++k::A',k',by omega,?_,by simp⟩
    rw [show i+1-1=(i-1)+1 by omega];simpa using hk
  ·rcases hw.right with ⟨rfl,rfl⟩ | ⟨k',C',hk,rfl⟩
   ·exact .inl ⟨rfl,rfl⟩
   ·exact .inr ⟨k',C',by simpa using hk,rfl⟩
theorem WAt.eq {cs:List (List α)} {ks:List α} {i:Nat} {A C:List α} (h:WAt cs ks i A C) {c:List α} (hc:cs[i]? = some c):weave cs ks=A++c++C:=by
 have:=h.set c
 have hset:cs.set i c=cs:=by
  obtain ⟨h1,h2⟩:=List.getElem?_eq_some_iff.1 hc
  rw [<-h2];exact List.set_getElem_self h1
 rwa [hset] at this
theorem weave_key:∀ (i:Nat) (cs:List (List α)) (ks:List α) (k:α),cs.length=ks.length+1->ks[i]? = some k->∃ A C,∀ k',weave cs (ks.set i k')=A++k'::C
 | _,cs,[],k,_,hk=>by simp at hk
 | _,[],_::_,k,h,_=>by simp at h
 | 0,c::cs,k0::ks,k,h,_=>⟨c,weave cs ks,fun k'=>rfl⟩
 | i+1,c::cs,k0::ks,k,h,hk=>by
  obtain ⟨A,C,hw⟩:=weave_key i cs ks k (by simpa using h) (by simpa using hk)
  exact ⟨c++k0::A,C,fun k'=>by rw [List.set_cons_succ,weave_cons,hw];simp⟩
theorem weave_sub:∀ (cs:List (List α)) (ks:List α),cs.length=ks.length+1->ks.Sublist (weave cs ks)
 | cs,[],_=>List.nil_sublist _
 | [],_::_,h=>by simp at h
 | c::cs,k::ks,h=>by
  rw [weave_cons]
  exact ((weave_sub cs ks (by simpa using h)).cons_cons k).trans (List.sublist_append_right _ _)
theorem weave_length:∀ (cs:List (List α)) (ks:List α),cs.length=ks.length+1->(weave cs ks).length=ks.length+(cs.map List.length).sum
 | [c],[],_=>by simp [weave]
 | [],_,h=>by simp at h
 | c::d::cs,[],h=>by simp at h
 | c::cs,k::ks,h=>by
  rw [weave_cons,List.length_append,List.length_cons,weave_length cs ks (by simpa using h)];simp;omega
variable {R:Type} (O:SOrd R) (κ:α->R)
theorem asc_left {A:List α} {k:α} (h:Asc O κ (A++[k])) {q:R} (hk:O.lt (κ k) q=true):∀ y ∈ A++[k],O.lt (κ y) q=true:=by
 intro y hy
 rcases List.mem_append.1 hy with hy | hy
 ·exact O.tr _ _ _ (((Asc.append O κ).1 h).2.2 y hy k (by simp)) hk
 ·have:y=k:=by simpa using hy
  rw [this];exact hk
theorem WAt.mid {cs:List (List α)} {ks:List α} {i:Nat} {A C:List α} (h:WAt cs ks i A C) {c:List α} (hc:cs[i]? = some c) (ha:Asc O κ (weave cs ks)) {q:R} (hl:lb O κ q ks=i) (hh:hit O κ q ks=false) :
  (∀ y ∈ A,O.lt (κ y) q=true)/\(∀ y ∈ C.head?,O.lt q (κ y)=true):=by
 rw [h.eq hc] at ha
 constructor
 ·rcases h.left with ⟨rfl,_⟩ | ⟨A',k,h0,hk,rfl⟩
  ·intro y hy;simp at hy
  ·refine asc_left O κ ((Asc.append O κ).1 ((Asc.append O κ).1 ha).1).1 ?_
   refine lb_take_lt O κ (xs:=ks) k ?_
   rw [hl]
   exact List.mem_iff_getElem?.2 ⟨i-1,by rw [List.getElem?_take,if_pos (by omega),hk]⟩
 ·rcases h.right with ⟨rfl,_⟩ | ⟨k,C',hk,rfl⟩
  ·intro y hy;simp at hy
  ·intro y hy
   simp at hy;subst hy
   unfold hit at hh
   rw [hl,hk] at hh
   simpa using hh
theorem found_mid {A C:List α} {k:α} (ha:Asc O κ (A++k::C)):lb O κ (κ k) (A++k::C)=A.length/\hit O κ (κ k) (A++k::C)=true:=by
 have h1:lb O κ (κ k) (A++k::C)=A.length:=by
  rw [lb_append_of_lt O κ _ fun y hy=>((Asc.append O κ).1 ha).2.2 y hy k (by simp)]
  simp [lb,O.irr]
 refine ⟨h1,?_⟩
 unfold hit
 rw [h1]
 simp [O.irr]
theorem put_found {A C:List α} {k x:α} (ha:Asc O κ (A++k::C)) (hx:κ x=κ k):put O κ x (A++k::C)=A++x::C:=by
 obtain ⟨h1,h2⟩:=found_mid O κ ha
 unfold put
 rw [hx,h1,h2]
 simp
theorem at_found {A C:List α} {k x:α} (ha:Asc O κ (A++k::C)) (hx:κ x=κ k):at? O κ (κ x) (A++k::C)=some k:=by
 obtain ⟨h1,h2⟩:=found_mid O κ ha
 unfold at?
 rw [hx,h1,h2]
 simp
theorem hit_at {q:R} {ks:List α} (h:hit O κ q ks=true):∃ k,ks[lb O κ q ks]? = some k/\q=κ k:=by
 unfold hit at h
 cases hk:ks[lb O κ q ks]? with
 | none=>rw [hk] at h;cases h
 | some k =>
  rw [hk] at h
  exact ⟨k,rfl,O.tot _ _ (by simpa using h) (lb_ge O κ hk)⟩
theorem at_mid {q:R} {a m c:List α} (ha:∀ x ∈ a,O.lt (κ x) q=true) (hc:∀ x ∈ c.head?,O.lt q (κ x)=true):at? O κ q (a++m++c)=at? O κ q m:=by
 have hc':∀ x ∈ c.head?,O.lt (κ x) q=false:=fun x hx=>O.asym (hc x hx)
 unfold at?
 rw [hit_mid O κ ha hc,lb_mid O κ ha hc']
 split
 ·rename_i hh
  obtain ⟨k,hk,_⟩:=hit_at O κ hh
  have hlt:=(List.getElem?_eq_some_iff.1 hk).1
  rw [List.append_assoc,List.getElem?_append_right (by omega),Nat.add_sub_cancel_left,List.getElem?_append_left hlt]
 ·rfl
theorem put_leaf {x:α} {ks:List α} (hh:hit O κ (κ x) ks=false):put O κ x ks=ks.take (lb O κ (κ x) ks)++x::ks.drop (lb O κ (κ x) ks):=by
 unfold put;rw [hh];simp
end
end Go.Proofs.Ytbnnkcofnmipoaa
namespace Go.Proofs.Ytbnnkcofnmipoaa
open Go
theorem app_out {w w':World} {sz n cap b o:Nat} {l l':List Value} {v':Value} (h:AppRes w sz (.slice (some ⟨b,o,none⟩) n cap) n 1 l l' v' w') (hw0:wok w b (o+cap*sz)) :
  ∃ b' o' cap',v' = .slice (some ⟨b',o',none⟩) (n+1) cap'/\n+1<=cap'/\Row w' b' o' (l++l')/\wok w' b' (o'+cap'*sz)/\Ext (fun y p=>rng b (o+n*sz) sz y p/\n+1<=cap) w w' ∧
   (b'=b/\o'=o/\cap'=cap\/b'=w.heap.size):=by
 obtain ⟨hs,hc⟩:=h
 rcases hc with ⟨_,_,h3⟩ | ⟨b0,o0,cap0,h1,h2,h3,h4,h5⟩ | ⟨cap',h1,h2,h3,h4⟩
 ·cases h3
 ·simp only [Value.slice.injEq,Option.some.injEq,Addr.mk.injEq,true_and,and_true] at h1
  obtain ⟨⟨rfl,rfl⟩,rfl⟩:=h1
  subst h2
  rcases hs.2 with ⟨h,_⟩ | ⟨b1,o1,c1,h1,hle,hr,hw⟩
  ·cases h
  ·simp only [Value.slice.injEq,Option.some.injEq,Addr.mk.injEq,true_and,and_true] at h1
   obtain ⟨⟨rfl,rfl⟩,rfl⟩:=h1
   exact ⟨_,_,_,rfl,hle,hr,h3.wok hw0,by rw [Nat.one_mul] at h3;exact h3.mono fun _ _ _ g=>⟨g,h5⟩,.inl ⟨rfl,rfl,rfl⟩⟩
 ·subst h1
  rcases hs.2 with ⟨h,_⟩ | ⟨b1,o1,c1,h1,hle,hr,hw⟩
  ·cases h
  ·simp only [Value.slice.injEq,Option.some.injEq,Addr.mk.injEq,true_and,and_true] at h1
   obtain ⟨⟨rfl,rfl⟩,rfl⟩:=h1
   exact ⟨_,_,_,rfl,hle,hr,by rw [Nat.zero_add];exact h4,h2.mono fun _ _ _ h=>h.elim,.inr rfl⟩
theorem slFrom_sl (b o sz l n c:Nat):∃ o',slFrom b o sz l n c = .slice (some ⟨b,o',none⟩) (n-l) (c-l)/\(c ≠ l->o'=o+l*sz)/\(c=l->o'=o):=by
 by_cases h:c=l
 ·exact ⟨o,by simp [slFrom,h],fun hn=>(hn h).elim,fun _=>rfl⟩
 ·exact ⟨o+l*sz,by simp [slFrom,h],fun _=>rfl,fun hn=>(h hn).elim⟩
theorem ins_row {w w1 w2 w3:World} {b o o1 sz n i:Nat} {L zc xc:List Value} (hL:L.length=n*sz) (hi:i<=n) (hr:Row w b o (L++zc)) (hx:xc.length=sz)
  (x1:Ext (rng b o1 ((n-i)*sz)) w w1) (r1:Row w1 b o1 (((L++zc).drop (i*sz)).take ((n-i)*sz))) (ho:i<n->o1=o+(i+1)*sz)
  (x2:Ext (rng b (o+i*sz) sz) w1 w2) (r2:Row w2 b (o+i*sz) xc) (x3:Ext noF w2 w3):Row w3 b o (L.take (i*sz)++(xc++L.drop (i*sz))):=by
 have hmul:i*sz<=n*sz:=Nat.mul_le_mul_right _ hi
 have hsub:(n-i)*sz=n*sz-i*sz:=Nat.sub_mul _ _ _
 have hp:(i+1)*sz=i*sz+sz:=by rw [Nat.add_mul,Nat.one_mul]
 have hlt:(L.take (i*sz)).length=i*sz:=by rw [List.length_take];omega
 refine x3.row ?_ fun _ _ h=>h
 refine Row.append.2 ⟨?_,Row.append.2 ⟨by rw [hlt];exact r2,?_⟩⟩
 ·have h0:Row w b o (L.take (i*sz)):=by
   have:=hr.take (i*sz)
   rwa [List.take_append_of_le_length (by omega)] at this
  refine x2.row (x1.row h0 fun j hj h=>?_) fun j hj h=>?_
  ·rw [hlt] at hj
   simp only [rng] at h
   by_cases hin:i<n
   ·have:=ho hin;omega
   ·have:n-i=0:=by omega
    rw [this] at h;omega
  ·rw [hlt] at hj;simp only [rng] at h;omega
 ·rw [hlt,hx]
  by_cases hin:i<n
  ·have e1:((L++zc).drop (i*sz)).take ((n-i)*sz)=L.drop (i*sz):=by
    rw [List.drop_append_of_le_length (by omega),List.take_append_of_le_length (by rw [List.length_drop];omega),List.take_of_length_le (by rw [List.length_drop];omega)]
   rw [e1,ho hin,hp,<-Nat.add_assoc] at r1
   exact x2.row r1 fun j hj h=>by simp only [rng] at h;omega
  ·have:L.drop (i*sz)=[]:=List.drop_eq_nil_of_le (by (have:i=n:=by omega);subst this;omega)
   rw [this];exact Row.nil _ _ _
theorem ins_row1 {w w1 w2 w3:World} {b o o1 sz n i:Nat} {L zc xc:List Value} (hL:L.length=n*sz) (hi:i<n) (hr:Row w b o (L++zc)) (hx:xc.length=sz)
  (x1:Ext (rng b o1 ((n-i)*sz)) w w1) (r1:Row w1 b o1 (((L++zc).drop (i*sz)).take ((n-i)*sz))) (ho:o1=o+(i+1)*sz)
  (x2:Ext (rng b (o+(i+1)*sz) sz) w1 w2) (r2:Row w2 b (o+(i+1)*sz) xc) (x3:Ext noF w2 w3):Row w3 b o (L.take ((i+1)*sz)++(xc++L.drop ((i+1)*sz))):=by
 have hmul:(i+1)*sz<=n*sz:=Nat.mul_le_mul_right _ hi
 have hsub:(n-i)*sz=n*sz-i*sz:=Nat.sub_mul _ _ _
 have hp:(i+1)*sz=i*sz+sz:=by rw [Nat.add_mul,Nat.one_mul]
 have hlt:(L.take ((i+1)*sz)).length=(i+1)*sz:=by rw [List.length_take];omega
 refine x3.row ?_ fun _ _ h=>h
 refine Row.append.2 ⟨?_,Row.append.2 ⟨by rw [hlt];exact r2,?_⟩⟩
 ·have h0:Row w b o (L.take ((i+1)*sz)):=by
   have:=hr.take ((i+1)*sz)
   rwa [List.take_append_of_le_length (by omega)] at this
  refine x2.row (x1.row h0 fun j hj h=>?_) fun j hj h=>?_
  ·rw [hlt] at hj;simp only [rng] at h;omega
  ·rw [hlt] at hj;simp only [rng] at h;omega
 ·rw [hlt,hx]
  have e1:((L++zc).drop (i*sz)).take ((n-i)*sz)=L.drop (i*sz):=by
   rw [List.drop_append_of_le_length (by omega),List.take_append_of_le_length (by rw [List.length_drop];omega),List.take_of_length_le (by rw [List.length_drop];omega)]
  rw [e1,ho] at r1
  have h1:=r1.drop sz
  rw [List.drop_drop,<-hp] at h1
  exact x2.row h1 fun j hj h=>by simp only [rng] at h;omega
variable {α:Type} {E:Enc α} {iso:Int} {mn mx:Nat}
structure Inn (E:Enc α) (iso:Int) (mn mx h:Nat) (w:World) (b:Nat) (xs:List α) (F:FS α) (bi oi cap:Nat) (ks:List α) (bc ba oa capc:Nat) (cs:List (Kid α)):Prop where
 kids:Kids w bc ba oa capc (cs.map Kid.b)
 len:cs.length=ks.length+1
 eq:xs=weave (cs.map Kid.xs) ks
 sub:∀ c ∈ cs,Tr E iso mn mx h w mn c.b c.xs c.F
 ap:Apart E b bi oi cap bc ba oa capc cs
 fp:Fp F (fun x o=>ownF E b bi oi cap x o\/kidF bc ba oa capc x o\/∃ c ∈ cs,c.F x o) (.nd ks (cs.map fun c=>c.F.s))
theorem Tr.open {h:Nat} {w:World} {lo b:Nat} {xs:List α} {F:FS α} (ht:Tr E iso mn mx h w lo b xs F) :
  ∃ bi oi cap ks ch,Own E w b iso xs.length bi oi cap ks ch/\lo<=ks.length/\ks.length<=mx/\(∀ x o,ownF E b bi oi cap x o->F x o) ∧
   ((h=0/\ch = .pointer none/\xs=ks/\Fp F (ownF E b bi oi cap) (.nd xs [])) ∨
    (∃ h' bc ba oa capc cs,h=h'+1/\ch=ptr bc/\Inn E iso mn mx h' w b xs F bi oi cap ks bc ba oa capc cs)):=by
 cases h with
 | zero =>
  obtain ⟨bi,oi,cap,ho,h1,h2,hF⟩:=ht
  exact ⟨bi,oi,cap,xs,_,ho,h1,h2,fun x o g=>(hF x o).2 g,.inl ⟨rfl,rfl,rfl,hF⟩⟩
 | succ h =>
  obtain ⟨bi,oi,cap,bc,ba,oa,capc,ks,cs,ho,hk,h1,h2,hcs,hxs,hT,hA,hF⟩:=ht
  exact ⟨bi,oi,cap,ks,_,ho,h1,h2,fun x o g=>(hF x o).2 (.inl g),.inr ⟨h,bc,ba,oa,capc,cs,rfl,rfl,hk,hcs,hxs,hT,hA,hF⟩⟩
theorem Inn.tr {h:Nat} {w:World} {lo b:Nat} {xs:List α} {F:FS α} {bi oi cap:Nat} {ks:List α} {bc ba oa capc:Nat} {cs:List (Kid α)}
  (n:Inn E iso mn mx h w b xs F bi oi cap ks bc ba oa capc cs) (ho:Own E w b iso xs.length bi oi cap ks (ptr bc)) (h1:lo<=ks.length) (h2:ks.length<=mx):Tr E iso mn mx (h+1) w lo b xs F :=
 ⟨bi,oi,cap,bc,ba,oa,capc,ks,cs,ho,n.kids,h1,h2,n.len,n.eq,n.sub,n.ap,n.fp⟩
theorem Inn.ext {h:Nat} {w w':World} {G:Nat->Nat->Prop} {b:Nat} {xs:List α} {F:FS α} {bi oi cap:Nat} {ks:List α} {bc ba oa capc:Nat} {cs:List (Kid α)}
  (n:Inn E iso mn mx h w b xs F bi oi cap ks bc ba oa capc cs) (hx:Ext G w w') (h1:∀ x o,kidF bc ba oa capc x o->¬ G x o) (h2:∀ c ∈ cs,∀ x o,c.F x o->¬ G x o) :
  Inn E iso mn mx h w' b xs F bi oi cap ks bc ba oa capc cs :=
 ⟨n.kids.ext hx h1,n.len,n.eq,fun c hc=>(n.sub c hc).ext hx (h2 c hc),n.ap,n.fp⟩
theorem row_set {w w':World} {b o i:Nat} {ks:List α} {x:α} (hr:Row w b o (flat E ks)) (hi:i<ks.length) (X:Ext (rng b (o+i*E.sz) E.sz) w w') (r:Row w' b (o+i*E.sz) (E.cel x)) :
  Row w' b o (flat E (ks.set i x)):=by
 rw [List.set_eq_take_append_cons_drop,if_pos hi,flat_append,flat_cons]
 have hl:(flat E (ks.take i)).length=i*E.sz:=by rw [flat_length,List.length_take];congr 1;omega
 refine Row.append.2 ⟨?_,Row.append.2 ⟨by rw [hl];exact r,?_⟩⟩
 ·rw [<-flat_take]
  exact X.row (hr.take _) fun j hj h=>by
   rw [flat_take,hl] at hj;simp only [rng] at h;omega
 ·rw [hl,E.len,<-flat_drop]
  have h1:=hr.drop ((i+1)*E.sz)
  rw [Nat.add_mul,Nat.one_mul,<-Nat.add_assoc] at h1
  rw [Nat.add_mul,Nat.one_mul]
  exact X.row h1 fun j hj h=>by simp only [rng] at h;omega
theorem Own.set {w w':World} {b:Nat} {cnt:Int} {bi oi cap:Nat} {ks:List α} {ch:Value} (ho:Own E w b iso cnt bi oi cap ks ch) {i:Nat} {x:α} (hi:i<ks.length)
  (X:Ext (rng bi (oi+i*E.sz) E.sz) w w') (r:Row w' bi (oi+i*E.sz) (E.cel x)):Own E w' b iso cnt bi oi cap (ks.set i x) ch:=by
 have hne:=ho.ne
 refine ⟨X.rd ho.h0 ?_,X.rd ho.h1 ?_,?_,X.rd ho.h3 ?_,X.wok ho.wb,row_set ho.row hi X r,X.wok ho.wi,by rw [List.length_set];exact ho.le,hne⟩
 ·simp only [rng];omega
 ·simp only [rng];omega
 ·rw [List.length_set];exact X.rd ho.h2 (by simp only [rng];omega)
 ·simp only [rng];omega
theorem Apart.swap {b bi oi cap bc ba oa capc:Nat} {cs new:List (Kid α)} {c:Kid α} {i B:Nat} (h:Apart E b bi oi cap bc ba oa capc cs) (hc:cs[i]? = some c) (hn:∀ n ∈ new,∀ y o,n.F y o->c.F y o\/B<=y)
  (ht:new.Pairwise fun c d=>∀ x o,c.F x o->¬ d.F x o) (hlt:∀ c ∈ cs,∀ y o,c.F y o->y<B) (hb:b<B) (hbi:bi<B) (hbc:bc<B) (hba:ba<B) :
  Apart E b bi oi cap bc ba oa capc (cs.take i++(new++cs.drop (i+1))):=by
 have hcm:=List.mem_of_getElem? hc
 have hmem:∀ d ∈ cs.take i++(new++cs.drop (i+1)),d ∈ cs\/d ∈ new:=fun d hd=>by
  rcases List.mem_append.1 hd with hd | hd
  ·exact .inl (List.mem_of_mem_take hd)
  ·rcases List.mem_append.1 hd with hd | hd
   ·exact .inr hd
   ·exact .inl (List.mem_of_mem_drop hd)
 have hsp:cs=cs.take i++c::cs.drop (i+1):=by
  have h3:=List.getElem?_eq_some_iff.1 hc
  have:=List.take_append_drop i cs
  rw [List.drop_eq_getElem_cons h3.1,h3.2] at this
  exact this.symm
 have h2:=h.two
 rw [hsp] at h2
 obtain ⟨p1,p2,p3⟩:=List.pairwise_append.1 h2
 obtain ⟨p4,p5⟩:=List.pairwise_cons.1 p2
 refine ⟨h.cb,h.ab,h.ic,h.ia,fun d hd y o g k=>?_,fun d hd y o g k=>?_,?_⟩
 ·rcases hmem d hd with hd | hd
  ·exact h.own d hd y o g k
  ·rcases hn d hd y o g with g | g
   ·exact h.own c hcm y o g k
   ·rcases k with rfl | ⟨rfl,_⟩<;>omega
 ·rcases hmem d hd with hd | hd
  ·exact h.kid d hd y o g k
  ·rcases hn d hd y o g with g | g
   ·exact h.kid c hcm y o g k
   ·rcases k with rfl | ⟨rfl,_⟩<;>omega
 ·refine List.pairwise_append.2 ⟨p1,List.pairwise_append.2 ⟨ht,p5,fun n hnm d hd y o g k=>?_⟩,fun d hd e he y o g k=>?_⟩
  ·rcases hn n hnm y o g with g | g
   ·exact p4 d hd y o g k
   ·have:=hlt d (List.mem_of_mem_drop hd) y o k;omega
  ·rcases List.mem_append.1 he with he | he
   ·rcases hn e he y o k with k | k
    ·exact p3 d hd c (by simp) y o g k
    ·have:=hlt d (List.mem_of_mem_take hd) y o g;omega
   ·exact p3 d hd e (by simp [he]) y o g k
theorem Apart.own' {b bi oi cap bc ba oa capc bi' oi' cap':Nat} {cs:List (Kid α)} (h:Apart E b bi oi cap bc ba oa capc cs) (h1:bi' ≠ bc) (h2:bi' ≠ ba) (h3:∀ c ∈ cs,∀ y o,c.F y o->y ≠ bi') :
  Apart E b bi' oi' cap' bc ba oa capc cs :=
 ⟨h.cb,h.ab,h1,h2,fun c hc y o g k=>by
  rcases k with k | ⟨k,_⟩
  ·exact h.own c hc y o g (.inl k)
  ·exact h3 c hc y o g k,h.kid,h.two⟩
theorem Apart.kid' {b bi oi cap bc ba oa capc ba' oa' capc':Nat} {cs:List (Kid α)} (h:Apart E b bi oi cap bc ba oa capc cs) (h1:ba' ≠ b) (h2:bi ≠ ba') (h3:∀ c ∈ cs,∀ y o,c.F y o->y ≠ ba') :
  Apart E b bi oi cap bc ba' oa' capc' cs :=
 ⟨h.cb,h1,h.ic,h2,h.own,fun c hc y o g k=>by
  rcases k with k | ⟨k,_⟩
  ·exact h.kid c hc y o g (.inl k)
  ·exact h3 c hc y o g k,h.two⟩
theorem Inn.child {h:Nat} {w w':World} {b:Nat} {xs:List α} {F:FS α} {bi oi cap:Nat} {ks:List α} {bc ba oa capc:Nat} {cs:List (Kid α)}
  (n:Inn E iso mn mx h w b xs F bi oi cap ks bc ba oa capc cs) {i:Nat} {c c':Kid α} (hc:cs[i]? = some c) (hx:Ext c.F w w') (hb:c'.b=c.b) (ht:Tr E iso mn mx h w' mn c'.b c'.xs c'.F)
  (hF:∀ y o,c'.F y o->c.F y o\/w.heap.size<=y) (hbl:b<w.heap.size) (hbil:bi<w.heap.size) :
  Inn E iso mn mx h w' b (weave ((cs.map Kid.xs).set i c'.xs) ks) ⟨fun x o=>ownF E b bi oi cap x o\/kidF bc ba oa capc x o\/∃ c ∈ cs.set i c',c.F x o,.nd ks ((cs.set i c').map fun c=>c.F.s)⟩ bi oi cap ks bc ba oa capc (cs.set i c'):=by
 have hcm:=List.mem_of_getElem? hc
 have hi:=(List.getElem?_eq_some_iff.1 hc).1
 have hset:cs.set i c'=cs.take i++([c']++cs.drop (i+1)):=by rw [List.set_eq_take_append_cons_drop,if_pos hi];rfl
 have hsp:cs=cs.take i++c::cs.drop (i+1):=by
  have h3:=List.getElem?_eq_some_iff.1 hc
  have:=List.take_append_drop i cs
  rw [List.drop_eq_getElem_cons h3.1,h3.2] at this
  exact this.symm
 have h2:=n.ap.two
 rw [hsp] at h2
 obtain ⟨p1,p2,p3⟩:=List.pairwise_append.1 h2
 obtain ⟨p4,p5⟩:=List.pairwise_cons.1 p2
 refine ⟨?_,by rw [List.length_set];exact n.len,by rw [List.map_set],?_,?_,⟨fun _ _=>Iff.rfl,rfl⟩⟩
 ·have hm:(cs.set i c').map Kid.b=cs.map Kid.b:=by
   rw [List.map_set,hb]
   have:(cs.map Kid.b)[i]? = some c.b:=by rw [List.getElem?_map,hc];rfl
   obtain ⟨g1,g2⟩:=List.getElem?_eq_some_iff.1 this
   rw [<-g2];exact List.set_getElem_self g1
  rw [hm]
  exact n.kids.ext hx fun y o g k=>n.ap.kid c hcm y o k g
 ·intro d hd
  rw [hset] at hd
  rcases List.mem_append.1 hd with hd | hd
  ·exact (n.sub d (List.mem_of_mem_take hd)).ext hx fun y o g k=>p3 d hd c (by simp) y o g k
  ·rcases List.mem_append.1 hd with hd | hd
   ·have:d=c':=by simpa using hd
    rw [this];exact ht
   ·exact (n.sub d (List.mem_of_mem_drop hd)).ext hx fun y o g k=>p4 d hd y o k g
 ·rw [hset]
  exact n.ap.swap hc (fun d hd=>by
   have:d=c':=by simpa using hd
   rw [this];exact hF) (List.pairwise_singleton _ _) (fun d hd y o g=>(n.sub d hd).lt y o g) hbl hbil (wok_lt n.kids.wc) (wok_lt n.kids.wa)
end Go.Proofs.Ytbnnkcofnmipoaa
namespace Go.Proofs.Ytbnnkcofnmipoaa
open Go
theorem SlV.shape {w:World} {sz n:Nat} {v:Value} {l:List Value} (h:SlV w sz v n l):∃ a c,v = .slice a n c:=by
 rcases h.2 with ⟨rfl,h0⟩ | ⟨b,o,cap,rfl,_⟩
 ·exact ⟨none,0,by rw [h0]⟩
 ·exact ⟨_,_,rfl⟩
theorem SlV.at {w:World} {sz n i:Nat} {v:Value} {l:List Value} (h:SlV w sz v n l) {a:Option Addr} {c:Nat} (hv:v = .slice a n c) (hi:i<n):∃ b o,a=some ⟨b,o,none⟩/\Row w b o l:=by
 rcases h.2 with ⟨_,h⟩ | ⟨b,o,cap,h1,_,hr,_⟩
 ·omega
 ·rw [h1] at hv;cases hv;exact ⟨b,o,rfl,hr⟩
def since (B:Nat) (v:Value):Prop:=∀ b o n c,v = .slice (some ⟨b,o,none⟩) n c->B<=b
theorem app_since {w w':World} {sz n m B:Nat} {v v':Value} {l l':List Value} (h:AppRes w sz v n m l l' v' w') (hv:since B v) (hB:B<=w.heap.size) :
  SlV w' sz v' (n+m) (l++l')/\since B v'/\Ext (fun y _=>B<=y) w w':=by
 obtain ⟨hs,hc⟩:=h
 refine ⟨hs,?_⟩
 rcases hc with ⟨rfl,rfl,h3⟩ | ⟨b0,o0,cap0,rfl,rfl,h3,h4,h5⟩ | ⟨cap',rfl,h2,h3⟩
 ·exact ⟨hv,Ext.refl _ _⟩
 ·have hb:=hv _ _ _ _ rfl
  refine ⟨fun b o n c h=>?_,h3.mono fun y o _ g=>by simp only [rng] at g;omega⟩
  simp only [Value.slice.injEq,Option.some.injEq,Addr.mk.injEq] at h
  omega
 ·refine ⟨fun b o n c h=>?_,h2.mono fun y o _ g=>g.elim⟩
  simp only [Value.slice.injEq,Option.some.injEq,Addr.mk.injEq] at h
  omega
theorem SlV.lt {w:World} {sz n n' b o c:Nat} {v:Value} {l:List Value} (h:SlV w sz v n l) (hv:v = .slice (some ⟨b,o,none⟩) n' c):b<w.heap.size:=by
 rcases h.2 with ⟨h,_⟩ | ⟨b',o',cap',h1,_,_,hw⟩
 ·rw [h] at hv;cases hv
 ·rw [h1] at hv;cases hv;exact wokR_lt hw
structure OutE {α:Type} (E:Enc α) (B:Nat) (v:Value) (l:List α) (w:World):Prop where
 sl:SlV w E.sz v l.length (flat E l)
 si:since B v
theorem OutE.ext {α:Type} {E:Enc α} {B:Nat} {v:Value} {l:List α} {w w':World} (h:OutE E B v l w) (x:Ext noF w w'):OutE E B v l w':=⟨h.sl.ext0 x,h.si⟩
theorem OutE.app {α:Type} {E:Enc α} {B:Nat} {v v':Value} {l:List α} {x:α} {w w':World} (h:OutE E B v l w) (a:AppRes w E.sz v l.length 1 (flat E l) (E.cel x) v' w') (hB:B<=w.heap.size):OutE E B v' (l++[x]) w'/\Ext (fun y _=>B<=y) w w':=by
 obtain ⟨h1,h2,h3⟩:=app_since a h.si hB
 refine ⟨⟨?_,h2⟩,h3⟩
 rw [List.length_append,List.length_singleton,flat_append,flat_one]
 exact h1
def apart2 (v u:Value):Prop:=∀ b o n c o' n' c',v = .slice (some ⟨b,o,none⟩) n c->u ≠ .slice (some ⟨b,o',none⟩) n' c'
theorem W_sqx {P:Program} {n:Nat} {x y:Code} {Q:Post} {e:Env} {w:World} (h:∀ K:Env->World->Prop,(∀ e w,W P n y Q e w->K e w)->W P n x (andThen K Q) e w):W P n (.seq x y) Q e w:=W_seq (h _ fun _ _ h=>h)
end Go.Proofs.Ytbnnkcofnmipoaa
namespace Go.Proofs.Ytbnnkcofnmipoaa
open Go Go.ChangeShapes Go.WideShapes Go.ChangeAt Go.RowKit
theorem below_of_ext {w w':World} (h:Ext noF w w'):Below w.heap.size w w':=⟨h.os,h.tape,h.output,h.size,fun _ hk=>h.block hk fun _ f=>f⟩
section
variable {H:Type} {enc:TypeId × Value->H} {P:Program}
theorem trodAll_stays (hl:laidOutB P=true) {W W':World} (hb:Below W.heap.size W W') {sp:Nat->Bool}:∀ (ts:List TypeId) (vs:List Value) (ds:List (DataW H)) (ps:List MemPlace),
  ts.all (fun t=>P.readableRec t && decide (t<P.types.size))=true->DataW.TrodAll enc P W 0 (fun _=>true) true ts vs ds ps->(∀ x ∈ ps,x.block<W.heap.size)->(∀ x ∈ ps,sp x.block=true) →
  DataW.TrodAll enc P W' 0 sp true ts vs ds ps
 | [],[],[],_,_,h,_,_=>h
 | t::ts,v::vs,d::ds,ps,ht,⟨p,q,h1,h2,he⟩,hlt,hs=>by
  subst he
  simp only [List.all_cons,Bool.and_eq_true,decide_eq_true_eq] at ht
  exact ⟨p,q,WideElems.Trod_stays hl ht.1.1 ht.1.2 h1 (fun x hx=>hb.same (hlt x (by simp [hx]))) (fun x hx=>hs x (by simp [hx])),
   trodAll_stays hl hb ts vs ds q ht.2 h2 (fun x hx=>hlt x (by simp [hx])) (fun x hx=>hs x (by simp [hx])),rfl⟩
 | [],_::_,_,_,_,h,_,_=>h.elim
 | [],[],_::_,_,_,h,_,_=>h.elim
 | _::_,[],_,_,_,h,_,_=>h.elim
 | _::_,_::_,[],_,_,h,_,_=>h.elim
theorem post_law {f:Func} {s:ChangeSpec} {apart fresh handsOn again:Bool} {W W':World} {args:Array Value} {ds gs:List (DataW H)} {before:List MemPlace} {T:TypeId}
  (hl:laidOutB P=true) (hts:f.params.toList.all (fun t=>P.readableRec t && decide (t<P.types.size))=true) (hsv:s.vars=[])
  (hW:DataW.Whole enc P f.params.toList s.vars apart W args.toList ds gs before)
  (hr:(s.fn H (ds++gs)).results=[.lit (.bool true)]) (ha:(s.fn H (ds++gs)).args=ds) (hv:(s.fn H (ds++gs)).vars=[])
  (hx:Ext noF W W') (hrt:f.resultTypes = #[T]) (hT:P.underlying T=some .bool) :
  s.post enc P f apart fresh handsOn again W args (.bool true) W':=by
 have hb:=below_of_ext hx
 have hlt:∀ p ∈ before,p.block<W.heap.size:=fun p hp=>hW.lt p hp
 have hold:∀ p ∈ before,(fun b=>decide (b<W.heap.size)) p.block=true:=fun p hp=>by simpa using hlt p hp
 obtain ⟨p,q,hA,hV,hpq,hz,hn⟩:=id hW
 rw [hsv] at hV
 obtain ⟨rfl,rfl⟩:=trodVars_none hV
 rw [List.append_nil] at hpq
 subst hpq
 have hres:∀ (b:Nat) (sp:Nat->Bool) (hd:Bool),DataW.TrodAll enc P W' b sp hd f.resultTypes.toList ((Value.bool true).resultList f.resultTypes.size) (s.fn H (ds++[])).results []:=fun b sp hd=>by
  rw [hr,hrt];exact trodAll_mk1 (shut_bool hT true)
 have hargs:∀ sp:Nat->Bool,(∀ x ∈ before,sp x.block=true)->DataW.TrodAll enc P W' 0 sp true f.params.toList args.toList (s.fn H (ds++[])).args before:=fun sp hs=>by
  rw [ha];exact trodAll_stays hl hb _ _ _ _ hts hA hlt hs
 have hvars:∀ sp:Nat->Bool,DataW.TrodVars enc P W' sp s.vars (s.fn H (ds++[])).vars []:=fun sp=>by
  rw [hv,hsv];rfl
 refine ⟨ds,[],before,[],before,[],hW,hres _ _ _,hargs _ hold,hvars _,World.keptBut_mono (fun x hx=>⟨hx,?_⟩) (hb.frame (· ∈ before)),fun _=>?_⟩
 ·exact Or.inr (Or.inl hx)
 ·refine ⟨ok_one hrt rfl (okWide_bool_mk hT _),_,_,([]++before)++[],⟨[]++before,[],trodAll_append (hargs _ (fun _ _=>rfl)) (hres _ _ _),hvars _,rfl,?_,?_⟩,?_⟩
  ·intro b off hp
   have hin:MemPlace.cell b off ∈ before:=by simpa using hp
   rw [hb.frozen (hlt _ hin)]
   exact hz b off hin
  ·intro ha
   simpa using hn ha
  ·intro x hx _
   simpa using hx
theorem calls_law {f:Nat} {fn:Func} {s:ChangeSpec} {apart fresh handsOn again:Bool} {W:World} {args:Array Value} {ds gs:List (DataW H)} {before:List MemPlace} {T:TypeId}
  (hl:laidOutB P=true) (hts:fn.params.toList.all (fun t=>P.readableRec t && decide (t<P.types.size))=true) (hsv:s.vars=[])
  (hW:DataW.Whole enc P fn.params.toList s.vars apart W args.toList ds gs before)
  (hr:(s.fn H (ds++gs)).results=[.lit (.bool true)]) (ha:(s.fn H (ds++gs)).args=ds) (hv:(s.fn H (ds++gs)).vars=[])
  (hrt:fn.resultTypes = #[T]) (hT:P.underlying T=some .bool) (hc:CallK P f args W fun v w'=>v = .bool true/\Ext noF W w') :
  Calls P f args W fun e W'=>∃ v,e = .returned v/\s.post enc P fn apart fresh handsOn again W args v W' :=
 Calls.mono hc fun _ _ ⟨_,he,hv',hx⟩=>⟨_,he,hv' ▸ post_law hl hts hsv hW hr ha hv hx hrt hT⟩
theorem row_flat {α:Type} {E:Enc α} {w:World} {b:Nat}:∀ (l:List α) (o:Nat),(∀ i x,l[i]? = some x->Row w b (o+i*E.sz) (E.cel x))->Row w b o (flat E l)
 | [],o,_=>Row.nil _ _ _
 | x::l,o,h=>by
  rw [flat_cons]
  refine Row.append.2 ⟨by simpa using h 0 x rfl,?_⟩
  rw [E.len]
  exact row_flat l _ fun i y hi=>by
   have:=h (i+1) y (by simpa using hi)
   rwa [Nat.add_mul,Nat.one_mul,Nat.add_comm (i*E.sz),<-Nat.add_assoc] at this
theorem pick_list {α:Type} {p:Nat->α->Prop}:∀ n:Nat,(∀ i,i<n->∃ x,p i x)->∃ l:List α,l.length=n/\∀ i x,l[i]? = some x->p i x
 | 0,_=>⟨[],rfl,fun _ _ h=>by simp at h⟩
 | n+1,h=>by
  obtain ⟨l,hl,hp⟩:=pick_list n fun i hi=>h i (by omega)
  obtain ⟨x,hx⟩:=h n (by omega)
  refine ⟨l++[x],by simp [hl],fun i y hy=>?_⟩
  rcases Nat.lt_or_ge i n with g | g
  ·rw [List.getElem?_append_left (by omega)] at hy;exact hp i y hy
  ·rw [List.getElem?_append_right (by omega)] at hy
   have hlt:=(List.getElem?_eq_some_iff.1 hy).1
   simp at hlt
   obtain rfl:i=n:=by omega
   simp [hl] at hy
   subst hy;exact hx
open Go.Deep in
theorem open_enc {α:Type} (E:Enc α) {w:World} {t e:TypeId} {base fuel:Nat} {v:Value} {d:DataW H} {ps:List MemPlace} (ht:P.underlying t=some (.slice e)) (hce:P.cellsOf e=E.sz)
  (helem:∀ n cs x,DataW.trod enc P w 0 (fun _=>true) true n e cs=some x->cs.length=E.sz->∃ a:α,cs=E.cel a)
  (hok:Cell.ok P w .any base t v) (h:DataW.trod enc P w 0 (fun _=>true) true fuel t [v]=some (d,ps)) (hz:∀ b o,MemPlace.cell b o ∈ ps->w.frozen? ⟨b,o,none⟩=false) :
  ∃ l:List α,SlV w E.sz v l.length (flat E l):=by
 rcases open_slice ht h with ⟨h1,h2⟩ | ⟨a,len,cap,m,n,D,Pl,h1,_,hlc,hcm,hm,hx,hall⟩
 ·simp only [List.cons.injEq,and_true] at h1
  subst h1
  exact ⟨[],by simp [flat],.inl ⟨rfl,rfl⟩⟩
 ·simp only [List.cons.injEq,and_true] at h1
  subst h1
  simp only [if_true] at hm
  subst hm
  rw [hce] at hall hx
  simp only [Prod.mk.injEq] at hx
  obtain ⟨-,hps⟩:=hx
  simp only [Cell.ok,ht] at hok
  obtain ⟨_,_,_,hsp,row,cells,hshape,_⟩:=hok
  obtain ⟨b,o,sp⟩:=a
  simp only at hsp hshape
  subst hsp
  obtain ⟨c,fr,hb⟩:∃ c fr,w.heap[b]? = some (.cells c row fr):=by
   unfold World.shape? at hshape
   split at hshape
   ·rename_i c e f hb
    simp only [Option.some.injEq,Prod.mk.injEq] at hshape
    obtain ⟨rfl,_⟩:=hshape
    exact ⟨c,f,hb⟩
   ·cases hshape
  obtain ⟨l,hl,hp⟩:=pick_list (p:=fun i (x:α)=>Row w b (o+i*E.sz) (E.cel x)) m fun i hi=>by
   obtain ⟨cs,hc,htr⟩:=hall i hi
   obtain ⟨_,hlen,hcell⟩:=World.cells?_some hc
   obtain ⟨x,rfl⟩:=helem _ _ _ htr hlen
   refine ⟨x,fun j v hj=>?_⟩
   have hlt:=(List.getElem?_eq_some_iff.1 hj).1
   have:=hcell j (by omega)
   rw [add_mk,add_mk,hj] at this
   exact this
  have hRow:Row w b o (flat E l):=row_flat l o hp
  have hfl:(flat E l).length=m*E.sz:=by rw [flat_length,hl]
  have hle:len*E.sz<=m*E.sz:=Nat.mul_le_mul_right _ hlc
  refine ⟨l.take len,?_⟩
  have hll:(l.take len).length=len:=by rw [List.length_take];omega
  rw [hll]
  refine ⟨by rw [flat_length,hll],.inr ⟨b,o,m,rfl,hlc,by rw [<-flat_take];exact hRow.take _,c,row,fr,hb,?_,fun j h1 h2 h3=>?_⟩⟩
  ·rcases Nat.eq_zero_or_pos (m*E.sz) with h0 | h0
   ·exact .inl h0
   ·right
    have h1:(flat E l)[m*E.sz-1]? = some (flat E l)[m*E.sz-1]:=List.getElem?_eq_getElem (by omega)
    have:=hRow _ _ h1
    rw [rd_of hb] at this
    have:=(Array.getElem?_eq_some_iff.1 this).1
    omega
  ·have hin:MemPlace.cell b j ∈ ps:=by
    rw [hps]
    refine List.mem_append_left _ ?_
    simp only [MemPlace.row,List.mem_map,List.mem_range]
    exact ⟨j-o,by omega,by congr 1;omega⟩
   have:=hz b j hin
   simp [World.frozen?,hb] at this
   have:=this h3.1
   omega
theorem open_arg {α:Type} (E:Enc α) {w:World} {t e:TypeId} {base:Nat} {v:Value} {d:DataW H} {ps:List MemPlace} (ht:P.underlying t=some (.slice e)) (hce:P.cellsOf e=E.sz)
  (helem:∀ n cs x,DataW.trod enc P w 0 (fun _=>true) true n e cs=some x->cs.length=E.sz->∃ a:α,cs=E.cel a)
  (hok:Value.okWide P w .any base t v) (h:DataW.Trod enc P w 0 (fun _=>true) true t v d ps) (hz:∀ b o,MemPlace.cell b o ∈ ps->w.frozen? ⟨b,o,none⟩=false) :
  ∃ l:List α,SlV w E.sz v l.length (flat E l):=by
 have hc:Cell.ok P w .any base t v:=by
  unfold Value.okWide at hok
  simp only [ht] at hok
  unfold Cell.okWide at hok
  simp only [ht] at hok
  exact hok
 have hv:v.cells.toList=[v]:=by
  unfold Cell.ok at hc
  simp only [ht] at hc
  cases v<;>first | rfl | exact hc.elim
 obtain ⟨fuel,h⟩:=h
 rw [hv] at h
 exact open_enc E ht hce helem hc h hz
theorem elem_int {w:World} {e:TypeId} (he:P.underlying e=some (.int .i64)):∀ n cs x,DataW.trod enc P w 0 (fun _=>true) true n e cs=some x->cs.length=1->∃ a:Int,cs=[.int .i64 a]:=by
 intro n cs x h hl
 obtain ⟨a,h1,_,_⟩:=DataW.trod_int he h
 exact ⟨a,h1⟩
theorem elem_int2 {w:World} {e:TypeId} {f0 f1:Field} (he:P.underlying e=some (.struct #[f0,f1])) (o0:f0.offset=0) (o1:f1.offset=1) (c0:P.cellsOf f0.type=1) (c1:P.cellsOf f1.type=1)
  (u0:P.underlying f0.type=some (.int .i64)) (u1:P.underlying f1.type=some (.int .i64)) :
  ∀ n cs x,DataW.trod enc P w 0 (fun _=>true) true n e cs=some x->cs.length=2->∃ a:Int × Int,cs=[.int .i64 a.1,.int .i64 a.2]:=by
 intro n cs x h hl
 obtain ⟨xs,k,_,_,_,hxl,hf⟩:=DataW.trod_struct he h
 match xs,hxl,cs,hl with
 | [y0,y1],_,[v0,v1],_ =>
  have g0:=hf 0 f0 rfl
  have g1:=hf 1 f1 rfl
  simp [o0,o1,c0,c1] at g0 g1
  obtain ⟨a,h1,_,_⟩:=DataW.trod_int u0 g0
  obtain ⟨b,h2,_,_⟩:=DataW.trod_int u1 g1
  simp only [List.cons.injEq,and_true] at h1 h2
  exact ⟨(a,b),by rw [h1,h2]⟩
end
end Go.Proofs.Ytbnnkcofnmipoaa
namespace Go.Proofs.Ytbnnkcofnmipoaa
open Go
section
variable {α:Type} (go:List α->Bool)
def hand:List α->List α->List α × Bool
 | done,[]=>(done,true)
 | done,x::xs=>if go (done++[x])=true then hand (done++[x]) xs else (done++[x],false)
def upTo (n:Int) (l:List α):Bool:=decide (n<1) || decide ((l.length:Int)<n)
def firstN (n:Int) (xs:List α):List α:=if n<1\/(xs.length:Int)<n then xs else xs.take n.toNat
theorem weave_step {cs:List (List α)} {ks:List α} {i:Nat} {c:List α} {k:α} (hc:cs[i]? = some c) (hk:ks[i]? = some k):weave (cs.drop i) (ks.drop i)=c++k::weave (cs.drop (i+1)) (ks.drop (i+1)):=by
 have h1:cs.drop i=c::cs.drop (i+1):=by
  rw [List.drop_eq_getElem_cons (List.getElem?_eq_some_iff.1 hc).1,(List.getElem?_eq_some_iff.1 hc).2]
 have h2:ks.drop i=k::ks.drop (i+1):=by
  rw [List.drop_eq_getElem_cons (List.getElem?_eq_some_iff.1 hk).1,(List.getElem?_eq_some_iff.1 hk).2]
 rw [h1,h2,weave]
theorem weave_last {cs:List (List α)} {ks:List α} {c:List α} (hl:cs.length=ks.length+1) (hc:cs[ks.length]? = some c):weave (cs.drop ks.length) (ks.drop ks.length)=c:=by
 have h1:cs.drop ks.length=[c]:=by
  rw [List.drop_eq_getElem_cons (List.getElem?_eq_some_iff.1 hc).1,(List.getElem?_eq_some_iff.1 hc).2,List.drop_eq_nil_of_le (by omega)]
 rw [h1,List.drop_eq_nil_of_le (Nat.le_refl _),weave]
theorem weave_mem_length:∀ (cs:List (List α)) (ks:List α),cs.length=ks.length+1->∀ c ∈ cs,c.length<=(weave cs ks).length
 | [],_,h,_,_=>by simp at h
 | [c],[],_,d,hd=>by simp at hd;subst hd;exact Nat.le_refl _
 | c::e::cs,k::ks,h,d,hd=>by
  rw [weave_cons,List.length_append,List.length_cons]
  rcases List.mem_cons.1 hd with rfl | hd
  ·omega
  ·have:=weave_mem_length (e::cs) ks (by simpa using h) d hd;omega
 | [_],_::_,h,_,_=>by simp at h
 | _::_::_,[],h,_,_=>by simp at h
end
end Go.Proofs.Ytbnnkcofnmipoaa
namespace Go.Proofs.Ytbnnkcofnmipoaa
open Go
def jump (l:Nat) (J:Env->World->Prop) (Q:Post):Post
 | .goto l',e,w=>l'=l/\J e w
 | x,e,w=>Q x e w
theorem jump_ret (l:Nat) (J:Env->World->Prop) (Q:Post) (e:Env) (w:World):jump l J Q .ret e w=Q .ret e w:=id (Eq.trans rfl rfl)
theorem jump_goto (l l':Nat) (J:Env->World->Prop) (Q:Post) (e:Env) (w:World):jump l J Q (.goto l') e w=(l'=l/\J e w):=id (Eq.trans rfl rfl)
section
variable {P:Program} {n:Nat} {Q:Post} {e:Env} {w:World}
theorem W_scope {c rest:Code} (l:Nat) (J:Nat->Env->World->Prop) (hf:findLabel c l=some rest) (first:W P n c (jump l (fun e w=>∃ k,J k e w) Q) e w)
  (pass:∀ k e w,J k e w->W P n rest (jump l (fun e' w'=>∃ k',k'<k/\J k' e' w') Q) e w):W P n (.scope c) Q e w:=by
 intro a ha b k cs
 have hg:gotoIn l (.inScope c::k)=some (.code rest :: .inScope c::k):=by simp [gotoIn,hf]
 have key:∀ m e w,J m e w->∀ a,Fr n e a->∃ x a' w',lift n Q x a' w'/\Arrives P (lone (b.at a (.code rest :: .inScope c::k)) cs w) b k cs x a' w':=by
  intro m
  induction m using Nat.strongRecOn with
  | _ m ih =>
   intro e w hJ a ha
   obtain ⟨x,a1,w1,⟨e1,hf1,hx,hq⟩,harr⟩:=pass m e w hJ a ha b (.inScope c::k) cs
   cases x with
   | normal=>exact ⟨.normal,a1,w1,⟨e1,hf1,hx,hq⟩,Steps.trans harr (.one step_inScope)⟩
   | exit id=>exact ⟨.exit id,a1,w1,⟨e1,hf1,hx,hq⟩,fun k' hk=>harr k' (by simp [exitTo,hk])⟩
   | goto l' =>
    obtain ⟨rfl,m',hm',hJ'⟩:=hq
    obtain ⟨x2,a2,w2,hq2,harr2⟩:=ih m' hm' e1 w1 hJ' a1 hf1
    exact ⟨x2,a2,w2,hq2,.of_steps (harr _ hg) harr2⟩
   | ret=>exact ⟨_,a1,w1,⟨e1,hf1,hx,hq⟩,harr⟩
   | panic ch=>exact ⟨_,a1,w1,⟨e1,hf1,hx,hq⟩,harr⟩
   | outgrown=>exact ⟨_,a1,w1,⟨e1,hf1,hx,hq⟩,harr⟩
 obtain ⟨x,a1,w1,⟨e1,hf1,hx,hq⟩,harr⟩:=first a ha b (.inScope c::k) cs
 cases x with
 | normal=>exact ⟨.normal,a1,w1,⟨e1,hf1,hx,hq⟩,.head step_scope (Steps.trans harr (.one step_inScope))⟩
 | exit id=>exact ⟨.exit id,a1,w1,⟨e1,hf1,hx,hq⟩,fun k' hk=>.head step_scope (harr k' (by simp [exitTo,hk]))⟩
 | goto l' =>
  obtain ⟨rfl,m,hJ⟩:=hq
  obtain ⟨x2,a2,w2,hq2,harr2⟩:=key m e1 w1 hJ a1 hf1
  exact ⟨x2,a2,w2,hq2,.of_steps (.head step_scope (harr _ hg)) harr2⟩
 | ret=>exact ⟨_,a1,w1,⟨e1,hf1,hx,hq⟩,.of_steps (.one step_scope) harr⟩
 | panic ch=>exact ⟨_,a1,w1,⟨e1,hf1,hx,hq⟩,.of_steps (.one step_scope) harr⟩
 | outgrown=>exact ⟨_,a1,w1,⟨e1,hf1,hx,hq⟩,.of_steps (.one step_scope) harr⟩
theorem W_fwd {c rest:Code} (l:Nat) (J:Env->World->Prop) (hf:findLabel c l=some (.seq .skip rest)) (pass:∀ e w,J e w->W P n rest (jump l (fun _ _=>False) Q) e w)
  (first:(∀ e w,J e w->W P n rest (jump l J Q) e w)->W P n c (jump l J Q) e w):W P n (.scope c) Q e w:=by
 have up:∀ {K K':Env->World->Prop} {c:Code} {e:Env} {w:World},(∀ e w,K e w->K' e w)->W P n c (jump l K Q) e w->W P n c (jump l K' Q) e w:=fun hK h=>h.mono fun x e w hq=>by
  cases x with
  | goto l'=>exact ⟨hq.1,hK _ _ hq.2⟩
  | _=>exact hq
 refine W_scope l (fun _=>J) hf (up (fun e w h=>⟨0,h⟩) (first fun e w h=>up (fun _ _ h=>h.elim) (pass e w h))) fun k e w h=>?_
 exact W_seq (W_skip (up (fun _ _ h=>h.elim) (pass e w h)))
end
end Go.Proofs.Ytbnnkcofnmipoaa
