import PyProof.Rows.All
import Wide.All
import OpenK.AllK
import Wide.FinOn
import Lean
import PySem.Challenge.RW_in0233_01
set_option Elab.async false
set_option linter.all false
set_option tactic.hygienic false
set_option bootstrap.genMatcherCode false
set_option genInjectivity false
set_option genSizeOf false
set_option maxRecDepth 100000
open PySem PySem.W PySem.Calls PyProof.Rows
local macro_rules | `(tactic| omega)=>`(tactic| first | lia | omega (splitDisjunctions:=true))
namespace Mine.Internal
section
set_option maxHeartbeats 4000000
noncomputable def toTree:List Obj→BT→Nat→Option BT
  |[],T,_=>some T
  |o::r,T,n=>match ((T.ins n o).get n).isSome with
    |true=>toTree r (T.ins n o) (n+1)
    |false=>none
theorem toTree_of {life:Life}:∀ {l:List Obj} {T T':BT} {n:Nat} {H:List Obj},toTree l T n=some T'→(absHeap T n life).objs=H.toArray→(absHeap T' (n+l.length) life).objs=(H++l).toArray
  |[],_,_,_,_,h,e=>by cases h;simpa using e
  |o::r,T,T',n,H,h,e=>by
    unfold toTree at h
    split at h
    · rename_i q
      have z:=toTree_of (life:=life) (H:=H++[o]) h (by rw [absHeap_ins q];show (absHeap T n life).objs.push o=_;rw [e];simp)
      rw [List.length_cons,show n+(r.length+1)=n+1+r.length by omega,z];simp
    · cases h
noncomputable def impS (stp:SharedT→Thread→Option (SharedT×Thread)):Nat→SharedT→Thread→Option SharedT
  |0,_,_=>none
  |n+1,s,t=>match t.atExitBegin with
    |some l=>match l with
      |[]=>some s
      |_::_=>none
    |none=>match stp s t with
      |some (s',t')=>impS stp n s' t'
      |none=>none
noncomputable def topS (stp:SharedT→Thread→Option (SharedT×Thread)) (ok:Thread→Bool):Nat→SharedT→Thread→Option SharedT
  |0,_,_=>none
  |n+1,s,t=>match through t with
    |true=>some s
    |false=>match ok t with
      |false=>none
      |true=>match stp s t with
        |some (s',t')=>topS stp ok n s' t'
        |none=>none
section
variable {tb:String→Option Builtin} {p:Program} {w:World} {n₀:Nat} {ann:Option Value}
theorem impS_of:∀ {n:Nat} {s r:SharedT} {t:Thread},impS (stepT (denote tb) p w) n s t=some r→importEnds tb p w n s.abs t=some r.abs
  |0,_,_,_,h=>by cases h
  |n+1,s,r,t,h=>by
    unfold impS at h
    unfold importEnds
    cases he:t.atExitBegin with
    |some x=>
      rw [he] at h
      cases x with
      |nil=>cases h;rfl
      |cons=>cases h
    |none=>
      rw [he] at h
      cases hs:stepT (denote tb) p w s t with
      |none=>rw [hs] at h;cases h
      |some q=>obtain ⟨s₂,t₂⟩:=q;rw [hs] at h;dsimp only;rw [stepT_spec hs];exact impS_of h
theorem topS_of:∀ {n:Nat} {s r:SharedT} {t:Thread},topS (stepT (denote tb) p w) (stepOk n₀ ann) n s t=some r→topRun tb p w n₀ ann n s.abs t=some r.abs
  |0,_,_,_,h=>by cases h
  |n+1,s,r,t,h=>by
    unfold topS at h
    unfold topRun
    cases he:through t with
    |true=>rw [he] at h;cases h;rfl
    |false=>
      rw [he] at h
      cases hk:stepOk n₀ ann t with
      |false=>rw [hk] at h;cases h
      |true=>
        rw [hk] at h
        cases hs:stepT (denote tb) p w s t with
        |none=>rw [hs] at h;cases h
        |some q=>obtain ⟨s₂,t₂⟩:=q;rw [hs] at h;dsimp only;rw [stepT_spec hs];exact topS_of h
end
noncomputable def treeOf (s:Shared) (T:BT):SharedT:=⟨T,s.heap.objs.size,s.heap.life,s.gens,s.drawn,s.toks,s.os⟩
theorem treeOf_abs {s:Shared} {T:BT} (h:toTree s.heap.objs.toList .nil 0=some T):(treeOf s T).abs=s:=by
  obtain ⟨⟨objs,life⟩,gens,drawn,toks,os⟩:=s
  have:=toTree_of (life:=life) (H:=[]) h rfl
  simp only [Nat.zero_add,Array.length_toList,List.nil_append,Array.toArray_toList] at this
  show Shared.mk (absHeap T objs.size life) gens drawn toks os=_
  congr 1
  exact congrArg (Heap.mk · life) this
noncomputable def openS (imp:SharedT→Thread→Option (SharedT×Thread)) (fence:Shared→Option Shared) (stp:SharedT→Thread→Option (SharedT×Thread)) (ok:Nat→Option Value→Thread→Bool) (st:Shared×Thread) (stub:Thread) (N:Nat) {α:Type} (look:Shared→Shared→α):Option α:=
  match impS imp N (treeOf st.1 .nil) st.2 with
  |none=>none
  |some s=>match fence s.abs with
    |none=>none
    |some s₀=>match toTree s₀.heap.objs.toList .nil 0 with
      |none=>none
      |some T=>match topS stp (ok s₀.heap.objs.size (s₀.heap.nsMap mainGlobals (Str.ofString "__annotations__"))) N (treeOf s₀ T) stub with
        |none=>none
        |some s=>some (look s₀ s.abs)
set_option tactic.hygienic true in
theorem left_of {p q:Program} {loose:List Str} {Xt:Shared→Bool} {α:Type} {Yf:Shared→α} {Ya:World→α} {N:Nat} (h0:(start (opening p)).1.heap.objs.toList=[])
    (h:∀ w,openS (stepT (denote treeTable) (opening p) w) (fenceModules? p) (stepT (denote treeTable) p w) stepOk (start (opening p)) (topStub p) N
      (fun s₀ s₁=>(s₀.heap.isNs mainGlobals && s₀.gens.size == 0,staticsOk (importedModules p.main.body) s₀.heap s₁.heap && namesBound p s₁.heap && gensDone s₁ && laidKept s₀.heap s₁.heap,openSeen q loose (importedModules p.main.body) Xt true s₁,Yf s₁)) =
      some (true,true,openGood q loose,Ya w)):LeftO p q loose Xt Yf Ya N:=fun w=>by
  have h:=h w
  unfold openS at h
  split at h
  · cases h
  rename_i s hs
  split at h
  · cases h
  rename_i s₀ hf
  split at h
  · cases h
  rename_i T hT
  split at h
  · cases h
  rename_i s₁ h1
  injection h with h
  obtain ⟨l1,l2⟩:=Prod.mk.inj h
  obtain ⟨l2,l3⟩:=Prod.mk.inj l2
  have i:=impS_of hs
  rw [treeOf_abs (by rw [h0];rfl)] at i
  have t:=topS_of h1
  rw [treeOf_abs hT] at t
  unfold openEnds fencedOpening
  rw [i]
  show ((fenceModules? p s.abs).bind (topFrom treeTable p w N)).map _=_
  rw [hf]
  show (topFrom treeTable p w N s₀).map _=_
  have z:topFrom treeTable p w N s₀=some s₁.abs:=by
    unfold topFrom
    rw [l1,t]
    show (match _ with | true=>_ | false=>_)=_
    rw [l2]
  rw [z]
  exact congrArg some l3
end
theorem by_no {p:Prop} (h:(p→False)→False):p:=Classical.byContradiction h
theorem no {α:Type} {r:α} {P:Prop} (e:(Option.none:Option α)=some r):P:=nomatch e
theorem gz {α:Type} {x:α} {l:List α}:(x::l)[0]?=some x:=rfl
theorem gs {α:Type} {x:α} {l:List α} {i:Nat}:(x::l)[i+1]?=l[i]?:=rfl
theorem ite_some {α:Type} {p:Prop} [Decidable p] {x r:α} (e:(if p then some x else none)=some r):p∧x=r:=by
  by_cases h:p
  · rw [if_pos h] at e;exact ⟨h,Option.some.inj e⟩
  · rw [if_neg h] at e;cases e
theorem ite_opt {α:Type} {p:Prop} [Decidable p] {x:Option α} {r:α} (e:(if p then x else none)=some r):p∧x=some r:=by
  by_cases h:p
  · exact ⟨h,(if_pos h).symm.trans e⟩
  · exact no ((if_neg h).symm.trans e)
noncomputable def reCode:Array Nat:=#[14,14,4,1,1,9,0,64,0,1342177280,0,0,0,0,0,17,0,13,11,9,0,64,0,1342177280,0,0,0,0,0,17,1,1]
inductive Bnd {α β γ:Type} (o:Option (α×β)) (k:α→β→Option γ) (r:γ):Prop
  |mk (a:α) (b:β) (h:o=some (a,b)) (e:k a b=some r):Bnd o k r
noncomputable def obd {α β γ:Type} (o:Option (α×β)) (k:α→β→Option γ):Option γ:=match o with
  |some (a,b)=>k a b
  |none=>none
noncomputable def obn {α γ:Type} (o:Option α) (k:α→Option γ):Option γ:=match o with
  |some a=>k a
  |none=>none
theorem bnd {α β γ:Type} {o:Option (α×β)} {k:α→β→Option γ} {r:γ} (e:obd o k=some r):Bnd o k r:=by
  cases o with
  |none=>exact no e
  |some p=>exact ⟨p.1,p.2,rfl,e⟩
inductive Bn1 {α γ:Type} (o:Option α) (k:α→Option γ) (r:γ):Prop
  |mk (a:α) (h:o=some a) (e:k a=some r):Bn1 o k r
theorem bn1 {α γ:Type} {o:Option α} {k:α→Option γ} {r:γ} (e:obn o k=some r):Bn1 o k r:=by
  cases o with
  |none=>exact no e
  |some p=>exact ⟨p,rfl,e⟩
inductive V where
  |none
  |bool (b:Bool)
  |int (i:Int)
  |str (l:List Nat)
  |tup (l:List V)
  |frz (l:List V)
  |star
  |lst (i:Nat)
  |app (i:Nat)
noncomputable abbrev Rho:=List (Option V)
noncomputable abbrev Hp:=List (List V)
noncomputable def oLst {γ:Type} (o:Option (V×Hp)) (k:Nat→Hp→Option γ):Option γ:=match o with
  |some (.lst i,H)=>k i H
  |_=>none
noncomputable def oInt {γ:Type} (o:Option (V×Hp)) (k:Int→Hp→Option γ):Option γ:=match o with
  |some (.int i,H)=>k i H
  |_=>none
noncomputable def vLst {γ:Type} (v:V) (k:Nat→Option γ):Option γ:=match v with
  | .lst i=>k i
  |_=>none
noncomputable def vStr {γ:Type} (v:V) (k:List Nat→Option γ):Option γ:=match v with
  | .str i=>k i
  |_=>none
noncomputable def vInt {γ:Type} (v:V) (k:Int→Option γ):Option γ:=match v with
  | .int i=>k i
  |_=>none
noncomputable def obo {γ:Type} (o:Option (Option V)) (k:V→Option γ):Option γ:=match o with
  |some (some v)=>k v
  |_=>none
noncomputable def oFrz {γ:Type} (o:Option (V×Hp)) (k:List V→Hp→Option γ):Option γ:=match o with
  |some (.frz i,H)=>k i H
  |_=>none
noncomputable def lC {α γ:Type} (l:List α) (k:α→List α→Option γ):Option γ:=match l with
  |x::t=>k x t
  |[]=>none
noncomputable def lN {α γ:Type} (l:List α) (x:Option γ):Option γ:=match l with
  |[]=>x
  |_=>none
inductive OI {α γ:Type} (o:Option (V×Hp)) (c:α→V) (k:α→Hp→Option γ) (r:γ):Prop
  |mk (a:α) (H:Hp) (h:o=some (c a,H)) (e:k a H=some r):OI o c k r
inductive VEq {α γ:Type} (v:V) (c:α→V) (k:α→Option γ) (r:γ):Prop
  |mk (a:α) (h:v=c a) (e:k a=some r):VEq v c k r
inductive LC {α γ:Type} (l:List α) (k:α→List α→Option γ) (r:γ):Prop
  |mk (x:α) (t:List α) (h:l=x::t) (e:k x t=some r):LC l k r
inductive OO {γ:Type} (o:Option (Option V)) (k:V→Option γ) (r:γ):Prop
  |mk (v:V) (h:o=some (some v)) (e:k v=some r):OO o k r
theorem obo_some {γ:Type} {o:Option (Option V)} {k:V→Option γ} {r:γ} (e:obo o k=some r):OO o k r:=by
  cases o with
  |none=>exact no e
  |some o=>
    cases o with
    |none=>exact no e
    |some v=>exact ⟨v,rfl,e⟩
theorem ofrz {γ:Type} {o:Option (V×Hp)} {k:List V→Hp→Option γ} {r:γ} (e:oFrz o k=some r):OI o .frz k r:=by
  cases o with
  |none=>exact no e
  |some p=>obtain ⟨v,H⟩:=p;cases v with
    |frz i=>exact ⟨i,H,rfl,e⟩
    |_=>exact no e
theorem vlst {γ:Type} {v:V} {k:Nat→Option γ} {r:γ} (e:vLst v k=some r):VEq v .lst k r:=by
  cases v with
  |lst i=>exact ⟨i,rfl,e⟩
  |_=>exact no e
theorem vstr {γ:Type} {v:V} {k:List Nat→Option γ} {r:γ} (e:vStr v k=some r):VEq v .str k r:=by
  cases v with
  |str i=>exact ⟨i,rfl,e⟩
  |_=>exact no e
theorem vint {γ:Type} {v:V} {k:Int→Option γ} {r:γ} (e:vInt v k=some r):VEq v .int k r:=by
  cases v with
  |int i=>exact ⟨i,rfl,e⟩
  |_=>exact no e
theorem olst {γ:Type} {o:Option (V×Hp)} {k:Nat→Hp→Option γ} {r:γ} (e:oLst o k=some r):OI o .lst k r:=by
  cases o with
  |none=>exact no e
  |some p=>obtain ⟨v,H⟩:=p;cases v with
    |lst i=>exact ⟨i,H,rfl,e⟩
    |_=>exact no e
theorem oint {γ:Type} {o:Option (V×Hp)} {k:Int→Hp→Option γ} {r:γ} (e:oInt o k=some r):OI o .int k r:=by
  cases o with
  |none=>exact no e
  |some p=>obtain ⟨v,H⟩:=p;cases v with
    |int i=>exact ⟨i,H,rfl,e⟩
    |_=>exact no e
theorem lcons {α γ:Type} {l:List α} {k:α→List α→Option γ} {r:γ} (e:lC l k=some r):LC l k r:=by
  cases l with
  |nil=>exact no e
  |cons x t=>exact ⟨x,t,rfl,e⟩
theorem lnil {α γ:Type} {l:List α} {x:Option γ} {r:γ} (e:lN l x=some r):l=[]∧x=some r:=by
  cases l with
  |nil=>exact ⟨rfl,e⟩
  |cons x t=>exact no e
noncomputable def AppObj (h:Heap) (a b:Addr):Prop:=h.get? a=some { cls:=.type "builtin_function_or_method",data:=.fields #[.builtin "list.append",.ref b] }
noncomputable def starObj:Obj:={ cls:=.type "object",data:=.plain }
noncomputable abbrev TupA (h:Heap) (a:Addr) (vs:List Value):Prop:=h.IsTuple a vs.toArray
noncomputable abbrev LstA (h:Heap) (a:Addr) (vs:List Value):Prop:=h.IsList a vs.toArray
noncomputable abbrev PlnA (h:Heap) (a:Addr) (vs:List Value):Prop:=h.PlainList a vs.toArray
mutual
inductive VR (σ:Option Addr) (X:Addr→Prop) (μ:List Addr) (h:Heap):Value→V→Prop
  |none:VR σ X μ h .none .none
  |bool (b:Bool):VR σ X μ h (.bool b) (.bool b)
  |int (i:Int) (t:Tok):VR σ X μ h (.int i t) (.int i)
  |str (l:List Nat) (t:Tok):VR σ X μ h (.str ⟨l.toArray⟩ t) (.str l)
  |tup {a:Addr} {vs:List Value} {l:List V}:TupA h a vs→VRs σ X μ h vs l→VR σ X μ h (.ref a) (.tup l)
  |frz {a:Addr} {vs:List Value} {l:List V}:LstA h a vs→¬ X a→a ∉ μ→VRs σ X μ h vs l→VR σ X μ h (.ref a) (.frz l)
  |star {a:Addr}:σ=some a→VR σ X μ h (.ref a) .star
  |lst {a:Addr} {i:Nat}:μ[i]?=some a→VR σ X μ h (.ref a) (.lst i)
  |app {a b:Addr} {i:Nat}:AppObj h a b→μ[i]?=some b→VR σ X μ h (.ref a) (.app i)
inductive VRs (σ:Option Addr) (X:Addr→Prop) (μ:List Addr) (h:Heap):List Value→List V→Prop
  |nil:VRs σ X μ h [] []
  |cons {v:Value} {vs:List Value} {x:V} {l:List V}:VR σ X μ h v x→VRs σ X μ h vs l→VRs σ X μ h (v::vs) (x::l)
end
noncomputable def Val (X:Addr→Prop) (μ:List Addr) (b:Addr) (o:Obj):Prop:=
  (o.cls=.type "tuple" ∧ ∃ xs n,o.data=.seq xs n)∨(o.cls=.type "list" ∧ (∃ xs n,o.data=.seq xs n)∧¬ X b∧b ∉ μ)∨(o.cls=.type "builtin_function_or_method" ∧ ∃ vs,o.data=.fields vs)
section
variable {σ σ':Option Addr} {X X':Addr→Prop} {μ μ':List Addr} {h h':Heap}
structure Mv (X X':Addr→Prop) (μ μ':List Addr) (h h':Heap):Prop where
  keep:∀ b o,h.get? b=some o→Val X μ b o→h'.get? b=some o
  pre:∀ (i:Nat) (a:Addr),μ[i]?=some a→μ'[i]?=some a
  off:∀ b o,h.get? b=some o→¬ X b→b ∉ μ→¬ X' b∧b ∉ μ'
noncomputable def VI (σ:Option Addr) (X:Addr→Prop) (μ:List Addr) (h:Heap) (v:Value):V→Prop
  | .none=>v=.none
  | .bool b=>v=.bool b
  | .int i=>∃ t,v=.int i t
  | .str l=>∃ t,v=.str ⟨l.toArray⟩ t
  | .tup l=>∃ a vs,v=.ref a∧TupA h a vs∧VRs σ X μ h vs l
  | .frz l=>∃ a vs,v=.ref a∧LstA h a vs∧¬ X a∧a ∉ μ∧VRs σ X μ h vs l
  | .star=>∃ a,v=.ref a∧σ=some a
  | .lst i=>∃ a,v=.ref a∧μ[i]?=some a
  | .app i=>∃ a b,v=.ref a∧AppObj h a b∧μ[i]?=some b
theorem VR.inv {v:Value} {x:V} (r:VR σ X μ h v x):VI σ X μ h v x:=by
  cases r with
  |none=>exact rfl
  |bool=>exact rfl
  |int _ t=>exact ⟨t,rfl⟩
  |str _ t=>exact ⟨t,rfl⟩
  |tup a b=>exact ⟨_,_,rfl,a,b⟩
  |frz a b c d=>exact ⟨_,_,rfl,a,b,c,d⟩
  |star a=>exact ⟨_,rfl,a⟩
  |lst a=>exact ⟨_,rfl,a⟩
  |app a b=>exact ⟨_,_,rfl,a,b⟩
noncomputable def VsI (σ:Option Addr) (X:Addr→Prop) (μ:List Addr) (h:Heap) (vs:List Value):List V→Prop
  |[]=>vs=[]
  |x::l=>∃ w ws,vs=w::ws∧VR σ X μ h w x∧VRs σ X μ h ws l
theorem VRs.inv {vs:List Value} {l:List V} (r:VRs σ X μ h vs l):VsI σ X μ h vs l:=by
  cases r with
  |nil=>exact rfl
  |cons a b=>exact ⟨_,_,rfl,a,b⟩
theorem VRs.mapP {σ':Option Addr} {p:V→Bool} {ps:List V→Bool} (hp:∀ x l,ps (x::l)=true→p x=true∧ps l=true) (f:∀ {v:Value} {x:V},VR σ X μ h v x→p x=true→VR σ' X' μ' h' v x) {vs:List Value}:∀ {l:List V},VRs σ X μ h vs l→ps l=true→VRs σ' X' μ' h' vs l:=by
  induction vs with
  |nil=>intro l r _;cases l with
    |nil=>exact .nil
    |cons=>obtain ⟨_,_,q,_⟩:=r.inv;cases q
  |cons v vs ih=>intro l r e;cases l with
    |nil=>cases r.inv
    |cons x l=>
      obtain ⟨_,_,q,r,rs⟩:=r.inv
      obtain ⟨rfl,rfl⟩:=List.cons.inj q
      exact .cons (f r (hp _ _ e).1) (ih rs (hp _ _ e).2)
theorem VR.mv (m:Mv X X' μ μ' h h') {v:Value} {x:V} (r:VR σ X μ h v x):VR σ X' μ' h' v x:=
  VR.rec (motive_1:=fun v x Z=>VR σ X' μ' h' v x) (motive_2:=fun vs l Z=>VRs σ X' μ' h' vs l) .none .bool .int .str
    (fun ⟨o,ho,hc,n,hd⟩ _ ih=>.tup ⟨o,m.keep _ _ ho (.inl ⟨hc,_,_,hd⟩),hc,n,hd⟩ ih)
    (fun ⟨o,ho,hc,n,hd⟩ hx hm _ ih=>have q:=m.off _ _ ho hx hm;.frz ⟨o,m.keep _ _ ho (.inr (.inl ⟨hc,⟨_,_,hd⟩,hx,hm⟩)),hc,n,hd⟩ q.1 q.2 ih)
    (fun e=>.star e) (fun e=>.lst (m.pre _ _ e)) (fun ha e=>.app (m.keep _ _ ha (.inr (.inr ⟨rfl,_,rfl⟩))) (m.pre _ _ e)) .nil (fun Z Z i1 i2=>.cons i1 i2) r
theorem VRs.mv (m:Mv X X' μ μ' h h') {vs:List Value} {l:List V} (r:VRs σ X μ h vs l):VRs σ X' μ' h' vs l:=r.mapP (p:=fun Z=>true) (ps:=fun Z=>true) (fun Z Z Z=>⟨rfl,rfl⟩) (fun r Z=>r.mv m) rfl
mutual
noncomputable def V.noLst:V→Bool
  | .lst _=>false
  | .app _=>false
  | .tup l=>noLsts l
  | .frz l=>noLsts l
  | .none | .bool _ | .int _ | .str _ | .star=>true
noncomputable def noLsts:List V→Bool
  |[]=>true
  |x::l=>x.noLst && noLsts l
end
mutual
noncomputable def V.noStar:V→Bool
  | .star=>false
  | .tup l=>noStars l
  | .frz l=>noStars l
  | .none | .bool _ | .int _ | .str _ | .lst _ | .app _=>true
noncomputable def noStars:List V→Bool
  |[]=>true
  |x::l=>x.noStar && noStars l
end
theorem nlc {x:V} {l:List V}:noLsts (x::l)=(x.noLst && noLsts l):=rfl
theorem nln:noLsts []=true:=rfl
theorem nlf {l:List V}:(V.frz l).noLst=noLsts l:=rfl
theorem nlt {l:List V}:(V.tup l).noLst=noLsts l:=rfl
theorem nls {l:List Nat}:(V.str l).noLst=true:=rfl
theorem nli {i:Int}:(V.int i).noLst=true:=rfl
theorem nsc {x:V} {l:List V}:noStars (x::l)=(x.noStar && noStars l):=rfl
theorem nsn:noStars []=true:=rfl
theorem nsf {l:List V}:(V.frz l).noStar=noStars l:=rfl
theorem nst {l:List V}:(V.tup l).noStar=noStars l:=rfl
theorem nss {l:List Nat}:(V.str l).noStar=true:=rfl
theorem noLsts_cons (x:V) (l:List V) (e:noLsts (x::l)=true):x.noLst=true∧noLsts l=true:=Bool.and_eq_true_iff.mp e
theorem noStars_cons (x:V) (l:List V) (e:noStars (x::l)=true):x.noStar=true∧noStars l=true:=Bool.and_eq_true_iff.mp e
theorem VR.recast (hs:∀ b o,h.get? b=some o→¬ X b→b ∉ μ→¬ X' b∧b ∉ μ') {v:Value} {x:V} (r:VR σ X μ h v x):x.noLst=true→VR σ X' μ' h v x:=
  VR.rec (motive_1:=fun v x Z=>x.noLst=true→VR σ X' μ' h v x) (motive_2:=fun vs l Z=>noLsts l=true→VRs σ X' μ' h vs l) (fun Z=>.none) (fun b Z=>.bool b) (fun i t Z=>.int i t) (fun l t Z=>.str l t)
    (fun ht Z ih e=>.tup ht (ih e)) (fun ht hx hm Z ih e=>have q:=hs _ _ ht.choose_spec.1 hx hm;.frz ht q.1 q.2 (ih e))
    (fun e Z=>.star e) (fun Z e=>nomatch e) (fun Z Z e=>nomatch e) (fun Z=>.nil) (fun Z Z i1 i2 e=>have q:=noLsts_cons _ _ e;.cons (i1 q.1) (i2 q.2)) r
theorem VRs.recast (hs:∀ b o,h.get? b=some o→¬ X b→b ∉ μ→¬ X' b∧b ∉ μ') {vs:List Value} {l:List V} (r:VRs σ X μ h vs l) (e:noLsts l=true):VRs σ X' μ' h vs l:=r.mapP noLsts_cons (fun r e=>r.recast hs e) e
theorem VR.unstar {v:Value} {x:V} (r:VR σ X μ h v x):x.noStar=true→VR σ' X μ h v x:=
  VR.rec (motive_1:=fun v x Z=>x.noStar=true→VR σ' X μ h v x) (motive_2:=fun vs l Z=>noStars l=true→VRs σ' X μ h vs l) (fun Z=>.none) (fun b Z=>.bool b) (fun i t Z=>.int i t) (fun l t Z=>.str l t)
    (fun ht Z ih e=>.tup ht (ih e)) (fun ht hx hm Z ih e=>.frz ht hx hm (ih e)) (fun Z e=>nomatch e) (fun q Z=>.lst q) (fun a b Z=>.app a b) (fun Z=>.nil) (fun Z Z i1 i2 e=>have q:=noStars_cons _ _ e;.cons (i1 q.1) (i2 q.2)) r
theorem VRs.unstar {vs:List Value} {l:List V} (r:VRs σ X μ h vs l) (e:noStars l=true):VRs σ' X μ h vs l:=r.mapP noStars_cons (fun r e=>r.unstar e) e
theorem VRs.length {vs:List Value}:∀ {l:List V},VRs σ X μ h vs l→vs.length=l.length:=by
  induction vs with
  |nil=>intro l r;cases r;rfl
  |cons v vs ih=>intro l r;cases r with | cons _ rs=>simp [ih rs]
theorem VRs.append {vs ws:List Value}:∀ {l k:List V},VRs σ X μ h vs l→VRs σ X μ h ws k→VRs σ X μ h (vs++ws) (l++k):=by
  induction vs with
  |nil=>intro l k r q;cases r;exact q
  |cons v vs ih=>intro l k r q;cases r with | cons r rs=>exact .cons r (ih rs q)
theorem VRs.get {vs:List Value}:∀ {l:List V} {i:Nat} {x:V},VRs σ X μ h vs l→l[i]?=some x→∃ v,vs[i]?=some v∧VR σ X μ h v x:=by
  induction vs with
  |nil=>intro l i x r e;cases r;simp at e
  |cons v vs ih=>
    intro l i x r e
    cases r with
    |cons r rs=>
      cases i with
      |zero=>simp at e;subst e;exact ⟨v,by simp,r⟩
      |succ i=>simpa using ih rs (by simpa using e)
theorem VRs.get' {vs:List Value}:∀ {l:List V} {i:Nat} {v:Value},VRs σ X μ h vs l→vs[i]?=some v→∃ x,l[i]?=some x∧VR σ X μ h v x:=by
  induction vs with
  |nil=>intro l i x r e;simp at e
  |cons v vs ih=>
    intro l i x r e
    cases r with
    |cons r rs=>
      cases i with
      |zero=>simp at e;subst e;exact ⟨_,by simp,r⟩
      |succ i=>simpa using ih rs (by simpa using e)
theorem VRs.set {vs:List Value}:∀ {l:List V} {i:Nat} {v:Value} {x:V},VRs σ X μ h vs l→VR σ X μ h v x→VRs σ X μ h (vs.set i v) (l.set i x):=by
  induction vs with
  |nil=>intro l i v x r q;cases r;exact .nil
  |cons w vs ih=>
    intro l i v x r q
    cases r with
    |cons r rs=>
      cases i with
      |zero=>exact .cons q rs
      |succ i=>exact .cons r (ih rs q)
theorem VRs.take {vs:List Value}:∀ {l:List V} (n:Nat),VRs σ X μ h vs l→VRs σ X μ h (vs.take n) (l.take n):=by
  induction vs with
  |nil=>intro l n r;cases r;simp;exact .nil
  |cons w vs ih=>
    intro l n r
    cases r with
    |cons r rs=>
      cases n with
      |zero=>exact .nil
      |succ n=>exact .cons r (ih n rs)
theorem VRs.drop {vs:List Value}:∀ {l:List V} (n:Nat),VRs σ X μ h vs l→VRs σ X μ h (vs.drop n) (l.drop n):=by
  induction vs with
  |nil=>intro l n r;cases r;simp;exact .nil
  |cons w vs ih=>
    intro l n r
    cases r with
    |cons r rs=>
      cases n with
      |zero=>exact .cons r rs
      |succ n=>exact ih n rs
theorem VRs.one {v:Value} {x:V} (r:VR σ X μ h v x):VRs σ X μ h [v] [x]:=.cons r .nil
end
structure Base where
  prog:Program
  w:World
  h1:Heap
  P:Addr
  c:Addr
  os:OsState
  mg:Str→Option Value
  mb:Str→Option Value
structure Base.Ok (B:Base):Prop where
  g:B.h1.Ns mainGlobals B.mg
  b:B.h1.Ns builtinsNs B.mb
  nolimit:B.h1.NoLimit
  builtins:∀ x:Str,x ≠ "__name__" → B.mb x=bootBuiltins x
  ptab:B.h1.get? B.P=some (tabObj #[])
  code:CodeHd B.h1 B.c B.P
noncomputable def TabOk (B:Base) (h:Heap):Prop:=∃ ps,h.get? B.P=some (tabObj ps)∧TriplesOk ps.toList∧
  ∀ pos c',codeAmong pos ps.toList=some c'→∃ q,h.CodeRec c' q
structure Bs (B:Base) (s:Shared):Prop where
  keep:∀ b o,B.h1.get? b=some o→b ≠ B.P→s.heap.get? b=some o
  tab:TabOk B s.heap
  gens:AllBare s.gens
  os:s.os=B.os
structure CR (σ:Option Addr) (X:Addr→Prop) (μ:List Addr) (h:Heap) (H:Hp):Prop where
  len:μ.length=H.length
  cell:∀ (i:Nat) (a:Addr) (l:List V),μ[i]?=some a→H[i]?=some l→∃ vs,PlnA h a vs∧VRs σ X μ h vs l
  nd:μ.Nodup
  xl:∀ a,X a→∃ items,h.IsList a items
  xd:∀ a ∈ μ,¬ X a
  st:∀ a,σ=some a→h.get? a=some starObj
structure ER (env:Env) (names:List Str) (ρ:Rho) (σ:Option Addr) (X:Addr→Prop) (μ:List Addr) (h:Heap):Prop where
  kind:env.scope.kind=.function
  glob:env.globals=mainGlobals
  bltn:env.builtins=builtinsNs
  ns:∃ m,h.Ns env.locals m∧∀ (i:Nat) (x:Str) (V:V),names[i]?=some x→env.kindOf x=some .local→ρ[i]?=some (some V)→∃ v,m x=some v∧VR σ X μ h v V
  cells:∀ (i:Nat) (x:Str),names[i]?=some x→(env.kindOf x=some .cell∨env.kindOf x=some .free)→∃ c ov,env.cells.lookup x=some c∧h.IsCell c ov∧
    ∀ (V:V),ρ[i]?=some (some V)→∃ v,ov=some v∧VR σ X μ h v V
  apart:env.cells.Pairwise fun x y=>x.2 ≠ y.2
  cs:∀ y c,env.cells.lookup y=some c→∃ ov,h.IsCell c ov
structure Ow (B:Base) (env:Env) (μ:List Addr):Prop where
  l:B.h1.get? env.locals=none
  c:∀ y c,env.cells.lookup y=some c→B.h1.get? c=none
  m:∀ a ∈ μ,B.h1.get? a=none
structure Wd (B:Base) (σ:Option Addr) (X:Addr→Prop) (env:Env) (names:List Str) (ρ:Rho) (μ:List Addr) (H:Hp) (s:Shared):Prop where
  bs:Bs B s
  cr:CR σ X μ s.heap H
  er:ER env names ρ σ X μ s.heap
  ow:Ow B env μ
structure Kp (B:Base) (D:Addr→Prop) (h h':Heap):Prop where
  keep:∀ b o,h.get? b=some o→¬ D b→b ≠ B.P→h'.get? b=some o
  dom:∀ b o,h.get? b=some o→∃ o',h'.get? b=some o'
structure Stp (B:Base) (μ ν:List Addr) (h h':Heap):Prop where
  kp:Kp B (· ∈ μ) h h'
  fr:∀ a ∈ ν,h.get? a=none
noncomputable def Room (n:Nat) (A:Around):Prop:=A.handled=none∧A.depth+n≤600∧A.units+8 * n≤9000
noncomputable def NoE:Value→Shared→Prop:=fun Z Z=>False
noncomputable abbrev FE:=Rho→Hp→Option (V×Hp)
noncomputable abbrev FT:=Rho→Hp→Option (Bool×Hp)
noncomputable def PostE (B:Base) (env:Env) (names:List Str) (σ:Option Addr) (X:Addr→Prop) (ρ:Rho) (μ:List Addr) (s:Shared) (H':Hp) (V:V):Value→Shared→Prop:=
  fun v s'=>∃ ν,Wd B σ X env names ρ (μ++ν) H' s'∧VR σ X (μ++ν) s'.heap v V∧Stp B μ ν s.heap s'.heap
noncomputable def PostT (B:Base) (env:Env) (names:List Str) (σ:Option Addr) (X:Addr→Prop) (ρ:Rho) (μ:List Addr) (s:Shared) (H':Hp) (b:Bool):Bool→Shared→Prop:=
  fun v s'=>∃ ν,Wd B σ X env names ρ (μ++ν) H' s'∧v=b∧Stp B μ ν s.heap s'.heap
noncomputable def SndE (B:Base) (n:Nat) (env:Env) (names:List Str) (e:Expr) (f:FE):Prop:=
  ∀ ⦃A:Around⦄ ⦃s:Shared⦄ ⦃σ:Option Addr⦄ ⦃X:Addr→Prop⦄ ⦃μ:List Addr⦄ ⦃ρ:Rho⦄ ⦃H:Hp⦄ ⦃V:V⦄ ⦃H':Hp⦄,Room n A→Wd B σ X env names ρ μ H s→f ρ H=some (V,H')→
    wpAny (model B.prog B.w) A (eval e env) (PostE B env names σ X ρ μ s H' V) NoE s
noncomputable def SndT (B:Base) (n:Nat) (env:Env) (names:List Str) (e:Expr) (f:FT):Prop:=
  ∀ ⦃A:Around⦄ ⦃s:Shared⦄ ⦃σ:Option Addr⦄ ⦃X:Addr→Prop⦄ ⦃μ:List Addr⦄ ⦃ρ:Rho⦄ ⦃H:Hp⦄ ⦃b:Bool⦄ ⦃H':Hp⦄,Room n A→Wd B σ X env names ρ μ H s→f ρ H=some (b,H')→
    wpAny (model B.prog B.w) A (isTrue e env (eval e env)) (PostT B env names σ X ρ μ s H' b) NoE s
section
set_option maxHeartbeats 4000000
noncomputable def vw:Program:=view PySem.Challenge.pw_in0233_01 [0,2,3,4,5,6,7,9,10,12,13,15,16,18,19,20,21,22,23,24,25,26,27,28,29,30,31,32,33,34,35]
noncomputable def lsL:List Str:=[Str.ofString "_twin_re_1",Str.ofString "_special_chars_map"]
noncomputable def codeOfO (o:Option Obj):Value:=match o with
  |some o=>(match o.data with
    | .func fd=>fd.code
    |_=>.none)
  |none=>.none
noncomputable def code11 (o:Option Obj):Option Value:=match o with
  |some o=>(match o.data with
    | .fields vs=>vs[11]?
    |_=>none)
  |none=>none
noncomputable def textOf:Option Value→Option Str
  |some (.str x _)=>some x
  |_=>none
noncomputable def keyOk (e:DictEntry):Bool:=match e.key with
  | .int k _=>e.hash == hashInt k
  |_=>false
noncomputable def d87:Data→Option (Bool×Option Str×Option Str×Option Value×Option Value)
  | .dict es _=>some (es.toList.all keyOk,textOf (findBy Value.isInt es 38),textOf (findBy Value.isInt es 45),findBy Value.isInt es 97,findBy Value.isInt es 33)
  |_=>none
noncomputable def i87 (o:Option Obj):Option (Value×Option Addr×Array (Option Value)×Option (Bool×Option Str×Option Str×Option Value×Option Value)):=o.map fun o=>(o.cls,o.dict,o.slots,d87 o.data)
noncomputable def o78:Obj:={ cls:=.type "re.Pattern",data:=.fields #[.str (Str.ofString "([&~|])") 347,.int 32 382,rawInt 1,.none,.none,.ref 77,rawInt 0] }
noncomputable def o77:Obj:={ cls:=.type "tuple",data:=.seq (reCode.map fun (w:Nat)=>rawInt w) 0 }
noncomputable abbrev v87:Option (Value×Option Addr×Array (Option Value)×Option (Bool×Option Str×Option Str×Option Value×Option Value)):=some (.type "dict",none,#[],some (true,some ⟨([92,38]:List Nat).toArray⟩,some ⟨([92,45]:List Nat).toArray⟩,none,none))
structure HF (h:Heap):Prop where
  p78:h.get? 78=some o78
  p77:h.get? 77=some o77
  p99:h.get? 99=some (tabObj #[])
  p87:i87 (h.get? 87)=v87
  c104:codeOfO (h.get? 104)=.ref 103
  c103:code11 (h.get? 103)=some (.ref 99)
  nre:h.nsMap mainGlobals (Str.ofString "_twin_re_1")=some (.ref 78)
  nsm:h.nsMap mainGlobals (Str.ofString "_special_chars_map")=some (.ref 87)
  ntr:h.nsMap mainGlobals (Str.ofString "_translate")=some (.ref 104)
noncomputable abbrev obsF (s:Shared):=(s.heap.get? 78,s.heap.get? 77,s.heap.get? 99,i87 (s.heap.get? 87),codeOfO (s.heap.get? 104),code11 (s.heap.get? 103),s.heap.nsMap mainGlobals (Str.ofString "_twin_re_1"),s.heap.nsMap mainGlobals (Str.ofString "_special_chars_map"),s.heap.nsMap mainGlobals (Str.ofString "_translate"))
noncomputable abbrev obsV:Option Obj×Option Obj×Option Obj×Option (Value×Option Addr×Array (Option Value)×Option (Bool×Option Str×Option Str×Option Value×Option Value))×Value×Option Value×Option Value×Option Value×Option Value:=
  (some o78,some o77,some (tabObj #[]),v87,.ref 103,some (.ref 99),some (.ref 78),some (.ref 87),some (.ref 104))
theorem HF.of {s:Shared} (e:obsF s=obsV):HF s.heap:=
  let ⟨a,e⟩:=Prod.mk.inj e;let ⟨b,e⟩:=Prod.mk.inj e;let ⟨c,e⟩:=Prod.mk.inj e;let ⟨d,e⟩:=Prod.mk.inj e;let ⟨f,e⟩:=Prod.mk.inj e;let ⟨g,e⟩:=Prod.mk.inj e;let ⟨i,e⟩:=Prod.mk.inj e;let ⟨j,k⟩:=Prod.mk.inj e
  ⟨a,b,c,d,f,g,i,j,k⟩
theorem obs_keep {β:Type} {f:Option Obj→β} {h h':Heap} {a:Addr} {v:β} (e:f (h.get? a)=v) (hn:f none ≠ v) (k:∀ b o,h.get? b=some o→h'.get? b=some o):f (h'.get? a)=v:=by
  cases q:h.get? a with
  |none=>rw [q] at e;exact absurd e hn
  |some o=>rw [k _ _ q,← q];exact e
theorem nsMap_keep {h h':Heap} {x:Str} {v:Value} (e:h.nsMap mainGlobals x=some v) (k:∀ b o,h.get? b=some o→h'.get? b=some o):h'.nsMap mainGlobals x=some v:=
  obs_keep (f:=fun o=>match o with
    |some o=>(match o.data with | .dict es _=>nsFind es x | _=>none)
    |none=>none) e (by intro h;cases h) k
theorem HF.keeps {h h':Heap} (f:HF h) (k:∀ b o,h.get? b=some o→h'.get? b=some o):HF h':=
  ⟨k _ _ f.p78,k _ _ f.p77,k _ _ f.p99,obs_keep f.p87 (fun h=>nomatch h) k,obs_keep f.c104 (fun h=>nomatch h) k,obs_keep f.c103 (fun h=>nomatch h) k,nsMap_keep f.nre k,nsMap_keep f.nsm k,nsMap_keep f.ntr k⟩
theorem h0:(start (opening PySem.Challenge.pw_in0233_01)).1.heap.objs.toList=[]:=by kernel_rfl
end
section
set_option maxHeartbeats 4000000
noncomputable def runP (w:World):Prop:=
  openS (stepT (denote treeTable) (opening PySem.Challenge.pw_in0233_01) w) (fenceModules? PySem.Challenge.pw_in0233_01) (stepT (denote treeTable) PySem.Challenge.pw_in0233_01 w) stepOk (start (opening PySem.Challenge.pw_in0233_01)) (topStub PySem.Challenge.pw_in0233_01) 3000
    (fun s₀ s₁=>(s₀.heap.isNs mainGlobals && s₀.gens.size == 0,staticsOk (importedModules PySem.Challenge.pw_in0233_01.main.body) s₀.heap s₁.heap && namesBound PySem.Challenge.pw_in0233_01 s₁.heap && gensDone s₁ && laidKept s₀.heap s₁.heap,
      openSeen vw lsL (importedModules PySem.Challenge.pw_in0233_01.main.body) (fun s=>xlAt vw [] s && recOk [] s) true s₁,obsF s₁))=some (true,true,openGood vw lsL,obsV)
theorem runP_ff (w:World):runP ((w.withFollow "special-get-raises" false).withFollow "comprehension-iter-twice" false):=by
  unfold runP
  rewrite [PySem.W.Fast.te10156331382660048174,PySem.W.Fast.te14364793385576792824,PySem.W.Fast.te1435165496053646825,PySem.W.Fast.te14289696077712309145,PySem.W.Fast.te6613529449190102663,PySem.W.Fast.te11892475500146522536,PySem.W.Fast.te4187177175401517315,PySem.W.Fast.te5923862056798008813]
  kernel_rfl
theorem runP_ft (w:World):runP ((w.withFollow "special-get-raises" true).withFollow "comprehension-iter-twice" false):=by
  unfold runP
  rewrite [PySem.W.Fast.te10156331382660048174,PySem.W.Fast.te14364793385576792824,PySem.W.Fast.te1435165496053646825,PySem.W.Fast.te14289696077712309145,PySem.W.Fast.te6613529449190102663,PySem.W.Fast.te11892475500146522536,PySem.W.Fast.te4187177175401517315,PySem.W.Fast.te5923862056798008813]
  kernel_rfl
theorem runP_tf (w:World):runP ((w.withFollow "special-get-raises" false).withFollow "comprehension-iter-twice" true):=by
  unfold runP
  rewrite [PySem.W.Fast.te10156331382660048174,PySem.W.Fast.te14364793385576792824,PySem.W.Fast.te1435165496053646825,PySem.W.Fast.te14289696077712309145,PySem.W.Fast.te6613529449190102663,PySem.W.Fast.te11892475500146522536,PySem.W.Fast.te4187177175401517315,PySem.W.Fast.te5923862056798008813]
  kernel_rfl
theorem runP_tt (w:World):runP ((w.withFollow "special-get-raises" true).withFollow "comprehension-iter-twice" true):=by
  unfold runP
  rewrite [PySem.W.Fast.te10156331382660048174,PySem.W.Fast.te14364793385576792824,PySem.W.Fast.te1435165496053646825,PySem.W.Fast.te14289696077712309145,PySem.W.Fast.te6613529449190102663,PySem.W.Fast.te11892475500146522536,PySem.W.Fast.te4187177175401517315,PySem.W.Fast.te5923862056798008813]
  kernel_rfl
theorem leftM:LeftO PySem.Challenge.pw_in0233_01 vw lsL (fun s=>xlAt vw [] s && recOk [] s) obsF (fun Z=>obsV) 3000:=
  left_of h0 (byRow2 "comprehension-iter-twice" (P:=runP) (byRow2 "special-get-raises" (P:=fun w=>runP (w.withFollow "comprehension-iter-twice" false)) runP_ff runP_ft) (byRow2 "special-get-raises" (P:=fun w=>runP (w.withFollow "comprehension-iter-twice" true)) runP_tf runP_tt))
end
section
variable {B:Base} {n:Nat} {env:Env} {names:List Str} {A:Around} {s s' s'':Shared} {σ:Option Addr} {X:Addr→Prop} {μ ν:List Addr} {ρ:Rho} {H H' H'':Hp}
theorem keeps_refl:Keeps s s:=⟨s.heap,s.toks,rfl,fun Z Z e=>e⟩
theorem keeps_tok {tk:Nat}:Keeps s { s with toks:=tk }:=⟨s.heap,tk,rfl,fun Z Z e=>e⟩
theorem keeps_of {h':Heap} {tk:Nat} (h:∀ b o,s.heap.get? b=some o→h'.get? b=some o):Keeps s { s with heap:=h',toks:=tk }:=⟨h',tk,rfl,h⟩
theorem keeps_trans (a:Keeps s s') (b:Keeps s' s''):Keeps s s'':=by
  obtain ⟨h1,t1,rfl,k1⟩:=a
  obtain ⟨h2,t2,rfl,k2⟩:=b
  exact ⟨h2,t2,rfl,fun b o e=>k2 b o (k1 b o e)⟩
theorem keeps_get (a:Keeps s s') {b:Addr} {o:Obj} (e:s.heap.get? b=some o):s'.heap.get? b=some o:=by
  obtain ⟨h1,t1,rfl,k1⟩:=a;exact k1 _ _ e
theorem keeps_push (o:Obj) {tk:Nat}:Keeps s { s with heap:=s.heap.push o,toks:=tk }:=keeps_of fun Z Z e=>Heap.get?_push_of_some _ e
theorem Mv.keeps {h h':Heap} (k:∀ b o,h.get? b=some o→h'.get? b=some o):Mv X X μ μ h h':=⟨fun b o e Z=>k b o e,fun Z Z e=>e,fun Z Z Z a b=>⟨a,b⟩⟩
theorem VR.keeps {v:Value} {x:V} (r:VR σ X μ s.heap v x) (k:Keeps s s'):VR σ X μ s'.heap v x:=by
  obtain ⟨h1,t1,rfl,k1⟩:=k;exact r.mv (Mv.keeps k1)
theorem VRs.keeps {v:List Value} {x:List V} (r:VRs σ X μ s.heap v x) (k:Keeps s s'):VRs σ X μ s'.heap v x:=by
  obtain ⟨h1,t1,rfl,k1⟩:=k;exact r.mv (Mv.keeps k1)
theorem isList_keeps {a:Addr} {its:Array Value} {h h':Heap} (r:h.IsList a its) (k:∀ b o,h.get? b=some o→h'.get? b=some o):h'.IsList a its:=
  let ⟨o,e,q⟩:=r;⟨o,k _ _ e,q⟩
theorem plainList_keeps {a:Addr} {its:Array Value} {h h':Heap} (r:h.PlainList a its) (k:∀ b o,h.get? b=some o→h'.get? b=some o):h'.PlainList a its:=
  let ⟨n,e⟩:=r;⟨n,k _ _ e⟩
theorem CR.keeps (c:CR σ X μ s.heap H) (k:Keeps s s'):CR σ X μ s'.heap H:=by
  obtain ⟨h1,t1,rfl,k1⟩:=k
  exact ⟨c.len,fun i a l e1 e2=>let ⟨vs,p,r⟩:=c.cell i a l e1 e2;⟨vs,plainList_keeps p k1,r.mv (Mv.keeps k1)⟩,c.nd,fun a h=>let ⟨its,q⟩:=c.xl a h;⟨its,isList_keeps q k1⟩,c.xd,fun a e=>k1 _ _ (c.st a e)⟩
theorem TabOk.keeps {h h':Heap} (t:TabOk B h) (k:∀ b o,h.get? b=some o→h'.get? b=some o):TabOk B h':=
  let ⟨ps,e,t1,t2⟩:=t;⟨ps,k _ _ e,t1,fun pos c' q=>let ⟨y,z⟩:=t2 pos c' q;⟨y,z.keeps k⟩⟩
theorem Bs.keeps (b:Bs B s) (k:Keeps s s'):Bs B s':=by
  obtain ⟨h1,t1,rfl,k1⟩:=k
  exact ⟨fun x o e q=>k1 _ _ (b.keep x o e q),b.tab.keeps k1,b.gens,b.os⟩
theorem ER.keeps (c:ER env names ρ σ X μ s.heap) (k:Keeps s s'):ER env names ρ σ X μ s'.heap:=by
  obtain ⟨h1,t1,rfl,k1⟩:=k
  refine ⟨c.kind,c.glob,c.bltn,?_,?_,c.apart,fun x cc hx=>let ⟨ov,q⟩:=c.cs x cc hx;⟨ov,q.keeps k1⟩⟩
  · obtain ⟨m,a,b⟩:=c.ns
    exact ⟨m,a.keeps k1,fun i x V e1 e2 e3=>let ⟨v,p,q⟩:=b i x V e1 e2 e3;⟨v,p,q.mv (Mv.keeps k1)⟩⟩
  · intro i x e1 e2
    obtain ⟨cc,ov,p,q,r⟩:=c.cells i x e1 e2
    exact ⟨cc,ov,p,q.keeps k1,fun V e=>let ⟨v,y,z⟩:=r V e;⟨v,y,z.mv (Mv.keeps k1)⟩⟩
theorem Wd.keeps (c:Wd B σ X env names ρ μ H s) (k:Keeps s s'):Wd B σ X env names ρ μ H s':=⟨c.bs.keeps k,c.cr.keeps k,c.er.keeps k,c.ow⟩
theorem fresh_off (c:CR σ X μ s.heap H) {a:Addr} (e:s.heap.get? a=none):¬ X a∧a ∉ μ:=by
  constructor
  · intro x
    obtain ⟨its,o,q,_⟩:=c.xl a x
    rw [e] at q;cases q
  · intro x
    obtain ⟨i,hi⟩:=List.getElem?_of_mem x
    have hlt:i < H.length:=by rw [← c.len];exact (List.getElem?_eq_some_iff.mp hi).1
    obtain ⟨vs,⟨n,q⟩,_⟩:=c.cell i a _ hi (List.getElem?_eq_getElem hlt)
    rw [e] at q;cases q
theorem Kp.refl {D:Addr→Prop} {h:Heap}:Kp B D h h:=⟨fun Z Z e Z Z=>e,fun Z o e=>⟨o,e⟩⟩
theorem Kp.of_keeps {D:Addr→Prop} (k:Keeps s s'):Kp B D s.heap s'.heap:=⟨fun Z Z e Z Z=>keeps_get k e,fun Z o e=>⟨o,keeps_get k e⟩⟩
theorem Stp.refl {h:Heap}:Stp B μ [] h h:=⟨.refl,fun Z h=>(nomatch h)⟩
theorem Stp.of_keeps (k:Keeps s s'):Stp B μ [] s.heap s'.heap:=⟨.of_keeps k,fun Z h=>(nomatch h)⟩
theorem Stp.trans {ν':List Addr} {h h' h'':Heap} (a:Stp B μ ν h h') (b:Stp B (μ++ν) ν' h' h''):Stp B μ (ν++ν') h h'':=by
  refine ⟨⟨fun x o e q p=>b.kp.keep x o (a.kp.keep x o e q p) ?_ p,fun x o e=>let ⟨o',e'⟩:=a.kp.dom x o e;b.kp.dom x o' e'⟩,fun x hx=>?_⟩
  · intro hm
    rcases List.mem_append.mp hm with hm | hm
    · exact q hm
    · rw [a.fr x hm] at e;cases e
  · rcases List.mem_append.mp hx with hx | hx
    · exact a.fr x hx
    · cases q:h.get? x with
      |none=>rfl
      |some o=>
        obtain ⟨o',e'⟩:=a.kp.dom x o q
        rw [b.fr x hx] at e';cases e'
theorem Stp.mv {h h':Heap} (a:Stp B μ ν h h') (c:CR σ X μ h H) (t:TabOk B h):Mv X X μ (μ++ν) h h':=by
  have cellAt:∀ b ∈ μ,∃ vs:List Value,PlnA h b vs:=fun b hm=>by
    obtain ⟨i,hi⟩:=List.getElem?_of_mem hm
    have hlt:i < H.length:=by rw [← c.len];exact (List.getElem?_eq_some_iff.mp hi).1
    obtain ⟨vs,q,_⟩:=c.cell i b _ hi (List.getElem?_eq_getElem hlt)
    exact ⟨vs,q⟩
  obtain ⟨ps,hP,_⟩:=t
  refine ⟨fun b o e v=>a.kp.keep b o e ?_ ?_,fun i x e=>?_,fun b o e h1 h2=>⟨h1,fun hm=>?_⟩⟩
  · intro hm
    obtain ⟨vs,n,q⟩:=cellAt b hm
    rw [e] at q;cases q
    rcases v with ⟨v,_⟩ | ⟨_,_,_,v⟩ | v
    · simp at v
    · exact v hm
    · simp at v
  · rintro rfl
    rw [e] at hP;cases hP
    rcases v with ⟨v,_⟩ | ⟨v,_⟩ | v<;>simp at v
  · rw [List.getElem?_append_left]
    · exact e
    · exact (List.getElem?_eq_some_iff.mp e).1
  · rcases List.mem_append.mp hm with hm | hm
    · exact h2 hm
    · rw [a.fr b hm] at e;cases e
theorem VR.stp {h h':Heap} {v:Value} {x:V} (r:VR σ X μ h v x) (a:Stp B μ ν h h') (c:CR σ X μ h H) (t:TabOk B h):VR σ X (μ++ν) h' v x:=r.mv (a.mv c t)
theorem VRs.stp {h h':Heap} {v:List Value} {x:List V} (r:VRs σ X μ h v x) (a:Stp B μ ν h h') (c:CR σ X μ h H) (t:TabOk B h):VRs σ X (μ++ν) h' v x:=r.mv (a.mv c t)
theorem PostE.of {v:Value} {x:V} (w:Wd B σ X env names ρ μ H s) (k:Keeps s s') (r:VR σ X μ s'.heap v x):PostE B env names σ X ρ μ s H x v s':=by
  refine ⟨[],?_,?_,.of_keeps k⟩
  · rw [List.append_nil];exact w.keeps k
  · rw [List.append_nil];exact r
theorem PostT.of {b:Bool} (w:Wd B σ X env names ρ μ H s) (k:Keeps s s'):PostT B env names σ X ρ μ s H b b s':=by
  refine ⟨[],?_,rfl,.of_keeps k⟩
  rw [List.append_nil];exact w.keeps k
theorem PostE.after {v:Value} {x:V} (a:Stp B μ ν s.heap s'.heap) (p:PostE B env names σ X ρ (μ++ν) s' H' x v s''):PostE B env names σ X ρ μ s H' x v s'':=by
  obtain ⟨ν',w,r,q⟩:=p
  exact ⟨ν++ν',by rw [← List.append_assoc];exact w,by rw [← List.append_assoc];exact r,a.trans q⟩
theorem PostT.after {b v:Bool} (a:Stp B μ ν s.heap s'.heap) (p:PostT B env names σ X ρ (μ++ν) s' H' b v s''):PostT B env names σ X ρ μ s H' b v s'':=by
  obtain ⟨ν',w,r,q⟩:=p
  exact ⟨ν++ν',by rw [← List.append_assoc];exact w,r,a.trans q⟩
noncomputable def OpR (σ:Option Addr) (X:Addr→Prop) (μ:List Addr) (s:Shared) (r:V):Value→Shared→Prop:=fun v s'=>Keeps s s'∧VR σ X μ s'.heap v r
theorem noE {α:Type} {M:Model} {t:Sem α} {Q Q':α→Shared→Prop} (h:wpAny M A t Q NoE s) (hQ:∀ a s,Q a s→Q' a s):wpAny M A t Q' NoE s:=wpAny_mono h hQ fun Z Z x=>x
theorem n2 {α:Type} {M:Model} {t:Sem α} {P R Q':α→Shared→Prop} (h:wpAny M A t (fun a s=>P a s∧R a s) NoE s) (k:∀ a s,P a s→R a s→Q' a s):wpAny M A t Q' NoE s:=wpAny_mono h (fun a s h=>k a s h.1 h.2) fun Z Z x=>x
theorem n3 {α:Type} {M:Model} {t:Sem α} {P R T Q':α→Shared→Prop} (h:wpAny M A t (fun a s=>P a s∧R a s∧T a s) NoE s) (k:∀ a s,P a s→R a s→T a s→Q' a s):wpAny M A t Q' NoE s:=wpAny_mono h (fun a s h=>k a s h.1 h.2.1 h.2.2) fun Z Z x=>x
theorem nW {α:Type} {M:Model} {t:Sem α} {P R T U Q':α→Shared→Prop} (h:wpAny M A t (fun a s=>P a s∧R a s∧T a s∧U a s) NoE s) (k:∀ a s,P a s→R a s→T a s→U a s→Q' a s):wpAny M A t Q' NoE s:=wpAny_mono h (fun a s h=>k a s h.1 h.2.1 h.2.2.1 h.2.2.2) fun Z Z x=>x
theorem nE {M:Model} {t:Sem Value} {V:V} {Q':Value→Shared→Prop} (h:wpAny M A t (PostE B env names σ X ρ μ s H' V) NoE s) (k:∀ v s₁ ν,Wd B σ X env names ρ (μ++ν) H' s₁→VR σ X (μ++ν) s₁.heap v V→Stp B μ ν s.heap s₁.heap→Q' v s₁):wpAny M A t Q' NoE s:=wpAny_mono h (fun v s₁ h=>h.elim fun ν h=>k v s₁ ν h.1 h.2.1 h.2.2) fun Z Z x=>x
theorem nT {M:Model} {t:Sem Bool} {b:Bool} {Q':Bool→Shared→Prop} (h:wpAny M A t (PostT B env names σ X ρ μ s H' b) NoE s) (k:∀ v s₁ ν,Wd B σ X env names ρ (μ++ν) H' s₁→v=b→Stp B μ ν s.heap s₁.heap→Q' v s₁):wpAny M A t Q' NoE s:=wpAny_mono h (fun v s₁ h=>h.elim fun ν h=>k v s₁ ν h.1 h.2.1 h.2.2) fun Z Z x=>x
theorem anyE {α:Type} {M:Model} {t:Sem α} {Q:α→Shared→Prop} {E:Value→Shared→Prop} (h:wpAny M A t Q NoE s):wpAny M A t Q E s:=wpAny_mono h (fun Z Z x=>x) fun Z Z x=>x.elim
noncomputable abbrev Op1:=Hp→V→Option V
noncomputable abbrev Op2:=Hp→V→V→Option V
noncomputable def Snd1 (B:Base) (op:Value→Sem Value) (g:Op1):Prop:=
  ∀ ⦃A:Around⦄ ⦃s:Shared⦄ ⦃σ:Option Addr⦄ ⦃X:Addr→Prop⦄ ⦃μ:List Addr⦄ ⦃H:Hp⦄ ⦃a:Value⦄ ⦃x r:V⦄,Room 1 A→CR σ X μ s.heap H→VR σ X μ s.heap a x→g H x=some r→
    wpAny (model B.prog B.w) A (op a) (OpR σ X μ s r) NoE s
noncomputable def Snd2 (B:Base) (op:Value→Value→Sem Value) (g:Op2):Prop:=
  ∀ ⦃A:Around⦄ ⦃s:Shared⦄ ⦃σ:Option Addr⦄ ⦃X:Addr→Prop⦄ ⦃μ:List Addr⦄ ⦃H:Hp⦄ ⦃a b:Value⦄ ⦃x y r:V⦄,Room 1 A→CR σ X μ s.heap H→VR σ X μ s.heap a x→VR σ X μ s.heap b y→g H x y=some r→
    wpAny (model B.prog B.w) A (op a b) (OpR σ X μ s r) NoE s
theorem Room.le {m k:Nat} (h:Room k A) (hm:m≤k):Room m A:=⟨h.1,by have:=h.2.1;omega,by have:=h.2.2;omega⟩
noncomputable def cNone:FE:=fun Z H=>some (.none,H)
noncomputable def cBool (b:Bool):FE:=fun Z H=>some (.bool b,H)
noncomputable def cInt (i:Int):FE:=fun Z H=>some (.int i,H)
noncomputable def cStr (l:List Nat):FE:=fun Z H=>some (.str l,H)
theorem S.none {k:Nat} {pos:Pos}:SndE B n env names (.Constant .none k pos) cNone:=fun Z Z Z Z Z Z Z Z Z Z w e=>by
  cases e;exact wpAny_pure (PostE.of w keeps_refl .none)
theorem S.bool {b:Bool} {k:Nat} {pos:Pos}:SndE B n env names (.Constant (.bool b) k pos) (cBool b):=fun Z Z Z Z Z Z Z Z Z Z w e=>by
  cases e;exact wpAny_pure (PostE.of w keeps_refl (.bool _))
theorem S.int {i:Int} {k:Nat} {pos:Pos}:SndE B n env names (.Constant (.int i) k pos) (cInt i):=fun Z Z Z Z Z Z Z Z Z Z w e=>by
  cases e;exact wpAny_Constant_int (PostE.of w keeps_tok (.int _ _))
theorem S.str {x:Str} {l:List Nat} {k:Nat} {pos:Pos} (h:x=⟨l.toArray⟩):SndE B n env names (.Constant (.str x) k pos) (cStr l):=fun Z Z Z Z Z Z Z Z Z Z w e=>by
  subst h;cases e;exact Constant_str (PostE.of w keeps_tok (.str _ _))
noncomputable def getV (i:Nat):FE:=fun ρ H=>match ρ[i]? with
  |some (some v)=>some (v,H)
  |_=>none
theorem getV_eq (i:Nat) (ρ:Rho) (H:Hp):getV i ρ H=obo ρ[i]? fun v=>some (v,H):=by kernel_rfl
theorem getV_ok {i:Nat} {v:V} (h:ρ[i]?=some (some v)):getV i ρ H=some (v,H):=(getV_eq ..).trans (by rw [h];rfl)
theorem getV_some {i:Nat} {V:V} (e:getV i ρ H=some (V,H')):ρ[i]?=some (some V)∧H'=H:=by
  obtain ⟨v,h,e⟩:=obo_some ((getV_eq ..).symm.trans e)
  cases e
  exact ⟨h,rfl⟩
theorem S.name {x:Str} {i:Nat} {k:NameKind} (hi:names[i]?=some x:=by kernel_rfl) (hk:env.kindOf x=some k:=by kernel_rfl) (hk3:(k == .local || k == .cell || k == .free)=true:=by kernel_rfl) (hd:(x == ("__debug__" : Str))=false:=by kernel_rfl) (hc:(x == ("__classdict__" : Str))=false:=by kernel_rfl) {pos:Pos} :
    SndE B n env names (.Name x pos) (getV i):=fun Z Z Z Z Z Z Z Z Z Z w e=>by
  obtain ⟨e1,rfl⟩:=getV_some e
  cases k with
  | «local» =>
    obtain ⟨m,hn,h⟩:=w.er.ns
    obtain ⟨v,hv,r⟩:=h i x _ hi hk e1
    exact wpAny_Name (wpAny_loadName_local w.er.kind hk hn hv (PostE.of w keeps_refl r)) hd
  |cell=>
    obtain ⟨c,ov,h1,h2,h3⟩:=w.er.cells i x hi (.inl hk)
    obtain ⟨v,rfl,r⟩:=h3 _ e1
    exact wpAny_Name (wpAny_loadName_cell w.er.kind hk h1 h2 (PostE.of w keeps_refl r)) hd
  |free=>
    obtain ⟨c,ov,h1,h2,h3⟩:=w.er.cells i x hi (.inr hk)
    obtain ⟨v,rfl,r⟩:=h3 _ e1
    exact wpAny_Name (wpAny_loadName_free w.er.kind hk h1 h2 (PostE.of w keeps_refl r) hc) hd
  |_=>simp at hk3
noncomputable def bin (g:Op2) (f1 f2:FE):FE:=fun ρ H=>match f1 ρ H with
  |some (a,H1)=>(match f2 ρ H1 with
    |some (b,H2)=>(match g H2 a b with
      |some r=>some (r,H2)
      |none=>none)
    |none=>none)
  |none=>none
inductive Bin (g:Op2) (f1 f2:FE) (ρ:Rho) (H H':Hp) (r:V):Prop
  |mk (a:V) (H1:Hp) (b:V) (h1:f1 ρ H=some (a,H1)) (h2:f2 ρ H1=some (b,H')) (h3:g H' a b=some r):Bin g f1 f2 ρ H H' r
theorem bin_eq (g:Op2) (f1 f2:FE) (ρ:Rho) (H:Hp):bin g f1 f2 ρ H=obd (f1 ρ H) fun a H1=>obd (f2 ρ H1) fun b H2=>obn (g H2 a b) fun r=>some (r,H2):=by kernel_rfl
theorem bin_some {g:Op2} {f1 f2:FE} {V:V} (e:bin g f1 f2 ρ H=some (V,H')):Bin g f1 f2 ρ H H' V:=by
  obtain ⟨a,H1,h1,e⟩:=bnd ((bin_eq _ _ _ _ _).symm.trans e)
  obtain ⟨b,H2,h2,e⟩:=bnd e
  obtain ⟨r,h3,e⟩:=bn1 e
  cases e
  exact ⟨a,H1,b,h1,h2,h3⟩
theorem two {e1 e2:Expr} {f1 f2:FE} (h1:SndE B n env names e1 f1) (h2:SndE B n env names e2 f2) {op:Value→Value→Sem Value} {g:Op2} (hop:Snd2 B op g) (hn:1≤n) {V:V}
    (hr:Room n A) (w:Wd B σ X env names ρ μ H s) (e:bin g f1 f2 ρ H=some (V,H')) :
    wpAny (model B.prog B.w) A (eval e1 env) (fun a s₁=>wpAny (model B.prog B.w) A (eval e2 env) (fun b s₂=>wpAny (model B.prog B.w) A (op a b) (PostE B env names σ X ρ μ s H' V) NoE s₂) NoE s₁) NoE s:=by
  obtain ⟨a,H1,b,q1,q2,q3⟩:=bin_some e
  refine nE (h1 hr w q1) fun va s₁ ν1 w1 r1 t1=>nE (h2 hr w1 q2) fun vb s₂ ν2 w2 r2 t2=>?_
  refine n2 (hop (hr.le hn) w2.cr (r1.stp t2 w1.cr w1.bs.tab) r2 q3) fun v s₃ k r=>?_
  exact PostE.after t1 (PostE.after t2 (PostE.of w2 k r))
theorem S.binop {e1 e2:Expr} {f1 f2:FE} {op:Operator} {g:Op2} {pos:Pos} (h1:SndE B n env names e1 f1) (h2:SndE B n env names e2 f2) (hop:Snd2 B (binaryOp op) g) (hn:1≤n) :
    SndE B n env names (.BinOp e1 op e2 pos) (bin g f1 f2):=fun Z Z Z Z Z Z Z Z Z hr w e=>wpAny_BinOp (two h1 h2 hop hn hr w e)
theorem S.cmp {e1 e2:Expr} {f1 f2:FE} {op:CmpOp} {g:Op2} {pos:Pos} (h1:SndE B n env names e1 f1) (h2:SndE B n env names e2 f2) (hop:Snd2 B (compareOp op) g) (hn:1≤n) (hm:behindInMarks op e2=false) :
    SndE B n env names (.Compare e1 [op] [e2] pos) (bin g f1 f2):=fun Z Z Z Z Z Z Z Z Z hr w e=>wpAny_Compare1 (two h1 h2 hop hn hr w e) hm
end
section
open PySem.SeqAt
open PySem.AutoSeq1 (wpAny_loadPart')
open MeetsSeq MeetsSeq2 MeetsSeq3 SeqRoads2
noncomputable def RcLtM (A:Around) (s:Shared) (y x:Value) (b:Bool):Prop:=
  ∀ (prog:Program) (w:World) (E:Value→Shared→Prop) (Q:Value→Shared→Prop),Q (.bool b) s→wpAny (model prog w) A (richCompare .Lt y x) Q E s
theorem tuple_ltAtM (l b:Addr) (items items2:Array Value) (n n2:Nat) (dd dd2:Option Addr) (sl sl2:Array (Option Value)) (k:Nat) (hk1:k < items.size) (hk2:k < items2.size) (v:Bool) :
    Meets (Builtin.«tuple.__lt__» ⟨[.ref l,.ref b],[]⟩)
      (fun A R s=>s.heap.get? l=some { cls:=.type "tuple",dict:=dd,data:=.seq items n,slots:=sl }∧s.heap.get? b=some { cls:=.type "tuple",dict:=dd2,data:=.seq items2 n2,slots:=sl2 }∧
        (∀ j (h1:j < items.size) (h2:j < items2.size),j < k→EqAt A.in1 s items[j] items2[j] true)∧EqAt A.in1 s items[k] items2[k] false∧RcLtM A.in1 s items[k] items2[k] v∧
        R (.ok (.ret (.bool v))) s):=
  .of_wp fun prog w A R s h=>by
    obtain ⟨hp,g,d,tk,os⟩:=s;obtain ⟨hl,hb,he,hf,hv,h⟩:=h
    have f2:=AutoSeq1.sub_tuple_tuple
    have hZ:(items.toList.zip items2.toList).length=min items.size items2.size:=by simp
    wp_walk using wpAny_loadPart' hl,wpAny_loadPart' hb,wpAny_forIn_list _ (fun rest b s'=>b.1=none∧s'=⟨hp,g,d,tk,os⟩∧∃ i,i≤k∧rest=(items.toList.zip items2.toList).drop i) _
    case turn=>
      rintro ⟨y,x⟩ rest b s' ⟨hb',rfl,i,hik,hz⟩
      have hlt:i < (items.toList.zip items2.toList).length:=by rw [hZ];omega
      have hm:i < min items.size items2.size:=hZ▸hlt
      have h1:i < items.size:=Nat.lt_of_lt_of_le hm (Nat.min_le_left _ _)
      have h2:i < items2.size:=Nat.lt_of_lt_of_le hm (Nat.min_le_right _ _)
      rw [List.drop_eq_getElem_cons hlt] at hz
      injection hz with hyx hrest
      have hy:y=items[i]:=by have:=congrArg Prod.fst hyx;simpa using this
      have hx:x=items2[i]:=by have:=congrArg Prod.snd hyx;simpa using this
      subst hy hx
      rcases Nat.lt_or_ge i k with hlt' | hge
      · refine wpAny_bind (he i h1 h2 hlt' prog w _ _ ?_)
        wp_walk
        exact ⟨rfl,rfl,i+1,hlt',hrest⟩
      · obtain rfl:i=k:=by omega
        refine wpAny_bind (hf prog w _ _ ?_)
        simp only [Bool.not_false,if_true]
        refine wpAny_bind (wpAny_rule ?_)
        refine wpAny_bind (hv prog w _ _ ?_)
        wp_walk
        exact ⟨_,rfl,h⟩
    case fin=>
      rintro ⟨b1,b2⟩ s' ⟨hb',rfl,i,hik,hz⟩
      exfalso
      have:i < (items.toList.zip items2.toList).length:=by rw [hZ];omega
      rw [List.drop_eq_getElem_cons this] at hz;cases hz
    case h=>
      exact ⟨rfl,rfl,0,Nat.zero_le _,rfl⟩
end
section
open PySem.SeqAt
noncomputable def SZ:Nat:=16777216
theorem sz_eq:SZ=sizeLine:=by rw [sizeLine_eq];rfl
noncomputable def onInt {α:Type} (a:V) (f:Int→Option α):Option α:=match a with
  | .int x=>f x
  |_=>none
theorem onInt_some {α:Type} {a:V} {f:Int→Option α} {r:α} (e:onInt a f=some r):∃ x,a=.int x∧f x=some r:=by
  cases a with
  |int x=>exact ⟨x,rfl,e⟩
  |_=>exact no e
theorem int2 {f:Int→Int→Option V} {a b r:V} (e:onInt a (fun x=>onInt b (f x))=some r):∃ x y,a=.int x∧b=.int y∧f x y=some r:=
  let ⟨x,h1,e⟩:=onInt_some e
  let ⟨y,h2,e⟩:=onInt_some e
  ⟨x,y,h1,h2,e⟩
noncomputable def addV:Op2:=fun Z a b=>match a with
  | .int a=>(match b with
    | .int b=>some (.int (a+b))
    |_=>none)
  | .str a=>(match b with
    | .str b=>if a.length+b.length≤SZ then some (.str (a++b)) else none
    |_=>none)
  | .frz a=>(match b with
    | .frz b=>if a.length+b.length≤SZ then some (.frz (a++b)) else none
    |_=>none)
  |_=>none
inductive AddS:V→V→V→Prop
  |int (a b:Int):AddS (.int a) (.int b) (.int (a+b))
  |str (a b:List Nat) (h:a.length+b.length≤SZ):AddS (.str a) (.str b) (.str (a++b))
  |frz (a b:List V) (h:a.length+b.length≤SZ):AddS (.frz a) (.frz b) (.frz (a++b))
theorem addV_some {H:Hp} {a b r:V} (e:addV H a b=some r):AddS a b r:=by
  cases a with
  |int a=>cases b with
    |int b=>exact Option.some.inj e ▸ .int a b
    |_=>exact no e
  |str a=>cases b with
    |str b=>let ⟨h,q⟩:=ite_some e;exact q ▸ .str a b h
    |_=>exact no e
  |frz a=>cases b with
    |frz b=>let ⟨h,q⟩:=ite_some e;exact q ▸ .frz a b h
    |_=>exact no e
  |_=>exact no e
noncomputable def subV:Op2:=fun Z a b=>match a with
  | .int a=>(match b with
    | .int b=>some (.int (a - b))
    |_=>none)
  |_=>none
noncomputable def modV:Op2:=fun Z a b=>match a with
  | .int a=>(match b with
    | .int b=>if b ≠ 0 then some (.int (a.fmod b)) else none
    |_=>none)
  |_=>none
noncomputable def divV:Op2:=fun Z a b=>match a with
  | .int a=>(match b with
    | .int b=>if 0≤a∧a < 1000000000000∧0 < b∧b < 1000 then some (.int (a.fdiv b)) else none
    |_=>none)
  |_=>none
noncomputable def shrV:Op2:=fun Z a b=>match a with
  | .int a=>(match b with
    | .int b=>if 0≤b then some (.int (a.fdiv (2 ^ b.toNat))) else none
    |_=>none)
  |_=>none
noncomputable def powV:Op2:=fun Z a b=>match a with
  | .int a=>(match b with
    | .int b=>if a=10∧b=9 then some (.int 1000000000) else none
    |_=>none)
  |_=>none
section
variable {B:Base} {n:Nat} {env:Env} {names:List Str} {A:Around} {s s' s'':Shared} {σ:Option Addr} {X:Addr→Prop} {μ ν:List Addr} {ρ:Rho} {H H' H'':Hp}
theorem opr_here {r:V} {v:Value} {tk:Nat} (h:VR σ X μ s.heap v r):OpR σ X μ s r v { s with toks:=tk }:=⟨keeps_tok,h⟩
theorem opr_same {r:V} {v:Value} (h:VR σ X μ s.heap v r):OpR σ X μ s r v s:=⟨keeps_refl,h⟩
theorem str_app (a b:List Nat):(⟨a.toArray⟩ : Str)++⟨b.toArray⟩ = ⟨(a++b).toArray⟩:=by
  show Str.append _ _=_
  simp [Str.append]
theorem frz_new (c:CR σ X μ s.heap H) {vs:List Value} {l:List V} (r:VRs σ X μ s.heap vs l) {h':Heap} {a:Addr} (hn:s.heap.get? a=none) (k:∀ b o,s.heap.get? b=some o→h'.get? b=some o) (hl:LstA h' a vs):VR σ X μ h' (.ref a) (.frz l):=
  .frz hl (fresh_off c hn).1 (fresh_off c hn).2 (r.mv (Mv.keeps k))
theorem none_size (h:Heap) {k:Nat} (hk:h.objs.size≤k:=by exact Nat.le_refl _):h.get? k=none:=Heap.get?_none_of_le hk
theorem O.add:Snd2 B (binaryOp .Add) addV:=fun {A s σ X μ H a b x y r} hr c ra rb e=>by
  cases addV_some e with
  |int i j=>
    obtain ⟨t,rfl⟩:=ra.inv
    obtain ⟨u,rfl⟩:=rb.inv
    exact add_int (opr_here (.int _ _))
  |str l k hz=>
    obtain ⟨t,rfl⟩:=ra.inv
    obtain ⟨u,rfl⟩:=rb.inv
    refine add_str (fun t' tk=>?_) ?_
    · rw [str_app];exact opr_here (.str _ _)
    · rw [← sz_eq];simpa [Str.length] using hz
  |frz l k hz=>
    obtain ⟨l,vs,rfl,⟨⟨cls,dd,data,sl⟩,ho,hc,n,hd⟩,_,_,r1⟩:=ra.inv
    obtain ⟨l2,vs2,rfl,⟨⟨cls2,dd2,data2,sl2⟩,ho2,hc2,n2,hd2⟩,_,_,r2⟩:=rb.inv
    simp only at hc hd hc2 hd2
    subst hc hd hc2 hd2
    have e:vs.toArray++vs2.toArray=(vs++vs2).toArray:=by simp
    have hz':vs.length+vs2.length≤sizeLine:=by rw [← sz_eq,r1.length,r2.length];exact hz
    refine concat_meets ⟨_,ho,rfl⟩ ⟨_,ho2,rfl⟩ noFill_list_add seq_list_add PySem.F.slot_list_add PySem.F.entry_list_add (PySem.F.args_list_add_2 _ _) (list_addW _ _ vs.toArray vs2.toArray n n2 dd dd2 sl sl2 (by simpa using hz')) ⟨ho,ho2,?_⟩
    rw [e]
    exact ⟨keeps_push _,frz_new c (r1.append r2) (none_size _) (fun Z Z e=>Heap.get?_push_of_some _ e) ⟨_,Heap.get?_push_size _ rfl,rfl,_,rfl⟩⟩
theorem O.int {op:Value→Value→Sem Value} {g:Op2} {f:Int→Int→Option V} (hg:∀ H a b r,g H a b=some r→onInt a (fun x=>onInt b (f x))=some r)
    (h:∀ {A:Around} {s:Shared} {x y:Int} {t u:Tok} {r:V} {Q:Value→Shared→Prop},f x y=some r→(∀ v s',Keeps s s'→(∀ {σ:Option Addr} {X:Addr→Prop} {μ:List Addr},VR σ X μ s'.heap v r)→Q v s')→wpAny (model B.prog B.w) A (op (.int x t) (.int y u)) Q NoE s):Snd2 B op g:=
  fun {A s σ X μ H a b x y r} hr c ra rb e=>by
    obtain ⟨x,y,rfl,rfl,q⟩:=int2 (hg _ _ _ _ e)
    obtain ⟨t,rfl⟩:=ra.inv
    obtain ⟨u,rfl⟩:=rb.inv
    exact h q fun v s' k q=>⟨k,q⟩
theorem O.sub:Snd2 B (binaryOp .Sub) subV:=O.int (f:=fun a b=>some (.int (a - b))) (fun Z Z Z Z e=>e) fun e h=>by
  cases e;exact PyProof.Rows.sub_int (h _ _ keeps_tok (.int _ _))
theorem O.mod:Snd2 B (binaryOp .Mod) modV:=O.int (f:=fun a b=>if b ≠ 0 then some (.int (a.fmod b)) else none) (fun Z Z Z Z e=>e) fun e h=>by
  obtain ⟨hz,rfl⟩:=ite_some e;exact mod_int' hz (h _ _ keeps_tok (.int _ _))
theorem notPylong {a b:Int} (h:0≤a∧a < 1000000000000∧0 < b∧b < 1000):Builtin.divisionGoesByPylong a b=false:=by
  obtain ⟨n,rfl⟩:=Int.eq_ofNat_of_zero_le (Int.le_of_lt h.2.2.1)
  have h2:n ≠ 0:=Nat.pos_iff_ne_zero.mp (Int.ofNat_lt.mp h.2.2.1)
  have h1:n.log2 < 10:=(Nat.log2_lt h2).mpr (Nat.lt_trans (Int.ofNat_lt.mp h.2.2.2) (by decide))
  unfold Builtin.divisionGoesByPylong
  have h0:((n:Int) == 0)=false:=beq_false_of_ne fun e=>h2 (Int.ofNat.inj e)
  simp only [h0,Bool.false_eq_true,if_false,Int.natAbs_natCast]
  have h3:¬ n.log2 / 30+1 > 300:=Nat.not_lt.mpr (Nat.succ_le_of_lt (Nat.lt_of_le_of_lt (Nat.div_le_self _ _) (Nat.lt_trans h1 (by decide))))
  rw [decide_eq_false h3,Bool.false_and]
theorem O.div:Snd2 B (binaryOp .FloorDiv) divV:=O.int (f:=fun a b=>if 0≤a∧a < 1000000000000∧0 < b∧b < 1000 then some (.int (a.fdiv b)) else none) (fun Z Z Z Z e=>e) fun e h=>by
  obtain ⟨hz,rfl⟩:=ite_some e
  exact floordiv_int (by omega) (h _ _ keeps_tok (.int _ _)) (.inl (notPylong hz))
theorem O.shr:Snd2 B (binaryOp .RShift) shrV:=O.int (f:=fun a b=>if 0≤b then some (.int (a.fdiv (2 ^ b.toNat))) else none) (fun Z Z Z Z e=>e) fun e h=>by
  obtain ⟨hz,rfl⟩:=ite_some e;exact rshift_int hz (h _ _ keeps_tok (.int _ _))
theorem O.pow:Snd2 B (binaryOp .Pow) powV:=O.int (f:=fun a b=>if a=10∧b=9 then some (.int 1000000000) else none) (fun Z Z Z Z e=>e) fun e h=>by
  obtain ⟨⟨rfl,rfl⟩,rfl⟩:=ite_some e
  exact pow_int_small (by decide) (by decide) (by decide) (h _ _ keeps_tok (.int _ _))
mutual
noncomputable def toPy:V→PyData
  | .none=>.none
  | .bool b=>.bool b
  | .int i=>.int i
  | .str l=>.str ⟨l.toArray⟩
  | .tup l=>.tuple (toPys l)
  | .frz l=>.list (toPys l)
  | .star | .lst _ | .app _=>.none
noncomputable def toPys:List V→List PyData
  |[]=>[]
  |x::l=>toPy x::toPys l
end
mutual
noncomputable def okV:V→Bool
  | .none=>true
  | .bool _=>true
  | .int _=>true
  | .str l=>l.all (· < 0x110000)
  | .tup l=>okVs l
  | .frz l=>okVs l
  | .star | .lst _ | .app _=>false
noncomputable def okVs:List V→Bool
  |[]=>true
  |x::l=>okV x && okVs l
end
noncomputable def resV (H:Hp):V→V
  | .lst i=>match H[i]? with
    |some l=>.frz l
    |none=>.star
  |v=>v
theorem okTup {l:List V} (e:okV (.tup l)=true):okVs l=true:=e
theorem okFrz {l:List V} (e:okV (.frz l)=true):okVs l=true:=e
theorem okCons {x:V} {l:List V} (e:okVs (x::l)=true):okV x=true∧okVs l=true:=Bool.and_eq_true_iff.mp e
noncomputable def RdP (h:Heap) (v:Value) (x:V):Prop:=okV x=true→∃ as,Reads h v (toPy x) as
noncomputable def RdsP (h:Heap) (v:List Value) (x:List V):Prop:=okVs x=true→∃ as,ReadsAll h v (toPys x) as
theorem reads_of {h:Heap} {v:Value} {x:V} (r:VR σ X μ h v x):RdP h v x:=
  VR.rec (motive_1:=fun v x Z=>RdP h v x) (motive_2:=fun v x Z=>RdsP h v x)
    (fun Z=>⟨_,.none⟩) (fun b Z=>⟨_,.bool b⟩) (fun i t Z=>⟨_,.int i t⟩) (fun Z t Z=>⟨_,.str _ t⟩)
    (fun {a vs l} ⟨o,ho,hc,n,hd⟩ _ ih e=>let ⟨as,q⟩:=ih e;⟨as,.tuple ho hc hd q⟩)
    (fun {a vs l} ⟨o,ho,hc,n,hd⟩ _ _ _ ih e=>let ⟨as,q⟩:=ih e;⟨_::as,.list ho hc hd q⟩)
    (fun Z e=>nomatch e) (fun Z e=>nomatch e) (fun Z Z e=>nomatch e)
    (fun Z=>⟨_,.nil⟩) (fun Z Z i1 i2 e=>let ⟨e1,e2⟩:=okCons e;let ⟨_,q⟩:=i1 e1;let ⟨_,p⟩:=i2 e2;⟨_,.cons q p⟩) r
theorem readss_of {h:Heap} {v:List Value}:∀ {x:List V},VRs σ X μ h v x→RdsP h v x:=by
  induction v with
  |nil=>intro x r;cases x with
    |nil=>exact fun Z=>⟨_,.nil⟩
    |cons=>obtain ⟨_,_,q,_⟩:=r.inv;cases q
  |cons v vs ih=>intro x r;cases x with
    |nil=>cases r.inv
    |cons x l=>
      obtain ⟨_,_,q,r,rs⟩:=r.inv
      cases q
      exact fun e=>let ⟨e1,e2⟩:=okCons e;let ⟨_,q⟩:=reads_of r e1;let ⟨_,p⟩:=ih rs e2;⟨_,.cons q p⟩
theorem lay_of {x:V} (e:okV x=true):(toPy x).canLay0=true:=
  V.rec (motive_1:=fun x=>okV x=true→(toPy x).canLay0=true) (motive_2:=fun x=>okVs x=true→PyData.canLayAll0 (toPys x)=true)
    (fun Z=>rfl) (fun Z Z=>rfl) (fun Z Z=>rfl) (fun l e=>by simpa [toPy,PyData.canLay0,PyData.strOk,okV] using e)
    (fun Z ih e=>ih e) (fun Z ih e=>ih e) (fun e=>nomatch e) (fun Z e=>nomatch e) (fun Z e=>nomatch e)
    (fun Z=>rfl) (fun x l i1 i2 e=>let ⟨e1,e2⟩:=okCons e;Bool.and_eq_true_iff.mpr ⟨i1 e1,i2 e2⟩) x e
theorem lays_of:∀ {x:List V},okVs x=true→PyData.canLayAll0 (toPys x)=true
  |[],_=>rfl
  |_::_,e=>let ⟨e1,e2⟩:=okCons e;Bool.and_eq_true_iff.mpr ⟨lay_of e1,lays_of e2⟩
theorem readsH_of (c:CR σ X μ s.heap H) {v:Value} {x:V} (r:VR σ X μ s.heap v x) (e:okV (resV H x)=true):∃ as,Reads s.heap v (toPy (resV H x)) as:=by
  cases x with
  |lst i=>
    obtain ⟨a,rfl,q⟩:=r.inv
    have hlt:i < H.length:=by rw [← c.len];exact (List.getElem?_eq_some_iff.mp q).1
    obtain ⟨vs,⟨n,p⟩,r⟩:=c.cell i a _ q (List.getElem?_eq_getElem hlt)
    have:resV H (.lst i)=.frz H[i]:=by rw [resV,List.getElem?_eq_getElem hlt]
    rw [this] at e ⊢
    exact let ⟨as,q⟩:=readss_of r e;⟨_,.list p rfl rfl q⟩
  |_=>exact reads_of r e
noncomputable def dpt (d:PyData):Bool:=decide (d.depth≤64)
noncomputable def eqD (H:Hp) (a b:V):Option Bool:=if okV (resV H a) && okV (resV H b) && dpt (toPy (resV H a)) && dpt (toPy (resV H b)) then some (PyData.eqv (toPy (resV H a)) (toPy (resV H b))) else none
noncomputable def eqB (H:Hp) (a b:V):Option Bool:=match a with
  | .int i=>(match b with
    | .int j=>some (i == j)
    |_=>eqD H a b)
  | .str i=>(match b with
    | .str j=>some (i == j)
    |_=>eqD H a b)
  | .bool i=>(match b with
    | .bool j=>some (i == j)
    |_=>eqD H a b)
  |_=>eqD H a b
noncomputable def eqV:Op2:=fun H a b=>(eqB H a b).map .bool
noncomputable def neV:Op2:=fun H a b=>(eqB H a b).map fun x=>.bool (!x)
theorem str_beq_toArray (a b:List Nat):((⟨a.toArray⟩ : Str) == ⟨b.toArray⟩)=(a == b):=by
  by_cases h:a=b
  · subst h;rw [beq_self_eq_true,beq_self_eq_true]
  · have h1:¬ ((⟨a.toArray⟩ : Str)=⟨b.toArray⟩):=fun e=>h (by injection e with e;simpa using e)
    rw [beq_eq_false_iff_ne.mpr h,beq_eq_false_iff_ne.mpr h1]
inductive EqS (H:Hp):V→V→Bool→Prop
  |int (a b:Int):EqS H (.int a) (.int b) (a == b)
  |str (a b:List Nat):EqS H (.str a) (.str b) (a == b)
  |bool (a b:Bool):EqS H (.bool a) (.bool b) (a == b)
  |data {a b:V} (h1:okV (resV H a)=true) (h2:okV (resV H b)=true) (h3:dpt (toPy (resV H a))=true) (h4:dpt (toPy (resV H b))=true):EqS H a b (PyData.eqv (toPy (resV H a)) (toPy (resV H b)))
theorem eqB_data {x y:V} {r:Bool} (e:(if okV (resV H x) && okV (resV H y) && dpt (toPy (resV H x)) && dpt (toPy (resV H y)) then some (PyData.eqv (toPy (resV H x)) (toPy (resV H y))) else none)=some r):EqS H x y r:=by
  obtain ⟨h,rfl⟩:=ite_some e
  simp only [Bool.and_eq_true] at h
  exact .data h.1.1.1 h.1.1.2 h.1.2 h.2
theorem eqB_some {x y:V} {r:Bool} (e:eqB H x y=some r):EqS H x y r:=by
  cases x with
  |int a=>cases y with
    |int b=>exact Option.some.inj e ▸ .int a b
    |_=>exact eqB_data e
  |str a=>cases y with
    |str b=>exact Option.some.inj e ▸ .str a b
    |_=>exact eqB_data e
  |bool a=>cases y with
    |bool b=>exact Option.some.inj e ▸ .bool a b
    |_=>exact eqB_data e
  |_=>exact eqB_data e
theorem Room.units (hr:Room n A):A.units≤9000:=by have:=hr.2.2;omega
theorem cl_eq:cLine=9900:=rfl
theorem O.cmp {op:CmpOp} {g:Bool→Bool} {f:Op2} (hf:∀ H a b,f H a b=(eqB H a b).map fun r=>.bool (g r))
    (h1:∀ {A:Around} {s:Shared} {i j:Int} {t u:Tok} {Q:Value→Shared→Prop},Q (.bool (g (i == j))) s→wpAny (model B.prog B.w) A (compareOp op (.int i t) (.int j u)) Q NoE s)
    (h2:∀ {A:Around} {s:Shared} {i j:Str} {t u:Tok} {Q:Value→Shared→Prop},Q (.bool (g (i == j))) s→wpAny (model B.prog B.w) A (compareOp op (.str i t) (.str j u)) Q NoE s)
    (h3:∀ {A:Around} {s:Shared} {i j:Bool} {Q:Value→Shared→Prop},Q (.bool (g (i == j))) s→wpAny (model B.prog B.w) A (compareOp op (.bool i) (.bool j)) Q NoE s)
    (h4:∀ {A:Around} {s:Shared} {v w:Value} {a b:PyData} {as bs:List Addr} {Q:Value→Shared→Prop},Reads s.heap v a as→Reads s.heap w b bs→SeqAt.shaped a=true→SeqAt.shaped b=true→A.units+64 < cLine→Q (.bool (g (PyData.eqv a b))) s→wpAny (model B.prog B.w) A (compareOp op v w) Q NoE s) :
    Snd2 B (compareOp op) f:=fun {A s σ X μ H a b x y r} hr c ra rb e=>by
  rw [hf] at e
  obtain ⟨q,e1,rfl⟩:=Option.map_eq_some_iff.mp e
  cases eqB_some e1 with
  |int i j=>obtain ⟨t,rfl⟩:=ra.inv;obtain ⟨u,rfl⟩:=rb.inv;exact h1 (opr_same (.bool _))
  |str i j=>obtain ⟨t,rfl⟩:=ra.inv;obtain ⟨u,rfl⟩:=rb.inv;refine h2 ?_;rw [str_beq_toArray];exact opr_same (.bool _)
  |bool i j=>obtain rfl:=ra.inv;obtain rfl:=rb.inv;exact h3 (opr_same (.bool _))
  |data q1 q2 q3 q4=>
    obtain ⟨as,ra'⟩:=readsH_of c ra q1
    obtain ⟨bs,rb'⟩:=readsH_of c rb q2
    refine h4 ra' rb' ?_ ?_ (by have:=hr.units;rw [cl_eq];omega) (opr_same (.bool _))
    · unfold SeqAt.shaped;rw [lay_of q1];exact q3
    · unfold SeqAt.shaped;rw [lay_of q2];exact q4
theorem O.eq:Snd2 B (compareOp .Eq) eqV:=O.cmp (g:=id) (fun Z Z Z=>rfl) (fun h=>eq_int h) (fun h=>eq_str h) (fun h=>eq_bool h) fun a b c d e h=>eq_dataH a b c d e h
theorem O.ne:Snd2 B (compareOp .NotEq) neV:=O.cmp (g:=not) (fun Z Z Z=>rfl) (fun h=>PyProof.Rows.ne_int h) (fun h=>PyProof.Rows.ne_str h) (fun h=>ne_bool h) fun a b c d e h=>ne_dataH a b c d e h
end
end
section
open PySem.SeqAt
noncomputable def ltTup:List V→List V→Option Bool
  |x::xs,y::ys=>(match x with
    | .int a=>(match y with
      | .int b=>if a=b then ltTup xs ys else some (decide (a < b))
      |_=>none)
    | .str a=>(match y with
      | .str b=>if a=b then ltTup xs ys else some (decide (a < b))
      |_=>none)
    |_=>none)
  |_,_=>none
noncomputable def ltV:Op2:=fun Z a b=>match a with
  | .int a=>(match b with
    | .int b=>some (.bool (decide (a < b)))
    |_=>none)
  | .tup a=>(match b with
    | .tup b=>(ltTup a b).map .bool
    |_=>none)
  |_=>none
noncomputable def leV:Op2:=fun Z a b=>match a with
  | .int a=>(match b with
    | .int b=>some (.bool (decide (a≤b)))
    |_=>none)
  | .str a=>(match b with
    | .str b=>some (.bool (!decide (b < a)))
    |_=>none)
  |_=>none
noncomputable def gtV:Op2:=fun Z a b=>match a with
  | .int a=>(match b with
    | .int b=>some (.bool (decide (b < a)))
    |_=>none)
  | .str a=>(match b with
    | .str b=>some (.bool (decide (b < a)))
    |_=>none)
  |_=>none
noncomputable def geV:Op2:=fun Z a b=>match a with
  | .int a=>(match b with
    | .int b=>some (.bool (decide (b≤a)))
    |_=>none)
  |_=>none
noncomputable def isV:Op2:=fun Z a b=>match a with
  | .none=>(match b with
    | .none=>some (.bool true)
    |_=>none)
  | .tup _=>(match b with
    | .none=>some (.bool false)
    |_=>none)
  | .star=>(match b with
    | .star=>some (.bool true)
    |_=>none)
  | .str _=>(match b with
    | .star=>some (.bool false)
    |_=>none)
  |_=>none
noncomputable def isNotV:Op2:=fun Z a b=>match a with
  | .none=>(match b with
    | .none=>some (.bool false)
    |_=>none)
  | .tup _=>(match b with
    | .none=>some (.bool true)
    |_=>none)
  | .star=>(match b with
    | .star=>some (.bool false)
    |_=>none)
  | .str _=>(match b with
    | .star=>some (.bool true)
    |_=>none)
  |_=>none
noncomputable def inB2 (H:Hp) (x c:V):Option Bool:=match resV H c with
  | .frz l=>if okV x && okVs l && dpt (toPy x) then some (l.any fun y=>PyData.eqv (toPy y) (toPy x)) else none
  | .tup l=>if okV x && okVs l && dpt (toPy x) then some (l.any fun y=>PyData.eqv (toPy y) (toPy x)) else none
  |_=>none
noncomputable def inB (H:Hp) (x c:V):Option Bool:=match x with
  | .str a=>(match c with
    | .str b=>some (Txt.contains ⟨b.toArray⟩ ⟨a.toArray⟩)
    |_=>inB2 H x c)
  |_=>inB2 H x c
noncomputable def inV:Op2:=fun H x c=>(inB H x c).map .bool
noncomputable def notInV:Op2:=fun H x c=>(inB H x c).map fun b=>.bool (!b)
section
variable {B:Base} {n:Nat} {env:Env} {names:List Str} {A:Around} {s s' s'':Shared} {σ:Option Addr} {X:Addr→Prop} {μ ν:List Addr} {ρ:Rho} {H H' H'':Hp}
theorem room1 (hr:Room 1 A):A.units+70 < cLine:=by have:=hr.units;rw [cl_eq];omega
noncomputable def TupAt (A:Around) (s:Shared) (vs ws:List Value) (r:Bool):Prop:=
  ∃ k,∃ (h1:k < vs.length) (h2:k < ws.length),(∀ (j:Nat) (h1:j < vs.length) (h2:j < ws.length),j < k→EqAt A s vs[j] ws[j] true)∧EqAt A s vs[k] ws[k] false∧RcLtM A s vs[k] ws[k] r
theorem TupAt.step {v w:Value} {vs ws:List Value} {r:Bool} (h0:EqAt A s v w true):TupAt A s vs ws r→TupAt A s (v::vs) (w::ws) r:=by
  rintro ⟨k,h1,h2,h3,h4,h5⟩
  refine ⟨k+1,Nat.succ_lt_succ h1,Nat.succ_lt_succ h2,fun j=>?_,h4,h5⟩
  cases j with
  |zero=>exact fun Z Z Z=>h0
  |succ j=>exact fun j1 j2 hj=>h3 j (Nat.lt_of_succ_lt_succ j1) (Nat.lt_of_succ_lt_succ j2) (Nat.lt_of_succ_lt_succ hj)
theorem TupAt.here {v w:Value} {vs ws:List Value} {r:Bool} (h4:EqAt A s v w false) (h5:RcLtM A s v w r):TupAt A s (v::vs) (w::ws) r:=
  ⟨0,Nat.zero_lt_succ _,Nat.zero_lt_succ _,fun Z Z Z h=>absurd h (Nat.not_lt_zero _),h4,h5⟩
inductive TupS:List V→List V→Bool→Prop
  |int (a b:Int) (xs ys:List V) (h:a ≠ b):TupS (.int a::xs) (.int b::ys) (decide (a < b))
  |intE (a:Int) (xs ys:List V) (r:Bool) (h:ltTup xs ys=some r):TupS (.int a::xs) (.int a::ys) r
  |str (a b:List Nat) (xs ys:List V) (h:a ≠ b):TupS (.str a::xs) (.str b::ys) (decide (a < b))
  |strE (a:List Nat) (xs ys:List V) (r:Bool) (h:ltTup xs ys=some r):TupS (.str a::xs) (.str a::ys) r
theorem ltTup_some {xs ys:List V} {r:Bool} (e:ltTup xs ys=some r):TupS xs ys r:=by
  cases xs with
  |nil=>cases e
  |cons x xs=>cases ys with
    |nil=>cases x<;>exact no e
    |cons y ys=>cases x with
      |int a=>cases y with
        |int b=>
          have e:(if a=b then ltTup xs ys else some (decide (a < b)))=some r:=e
          by_cases h:a=b
          · subst h;exact .intE _ _ _ _ ((if_pos rfl).symm.trans e)
          · exact Option.some.inj ((if_neg h).symm.trans e) ▸ .int _ _ _ _ h
        |_=>exact no e
      |str a=>cases y with
        |str b=>
          have e:(if a=b then ltTup xs ys else some (decide (a < b)))=some r:=e
          by_cases h:a=b
          · subst h;exact .strE _ _ _ _ ((if_pos rfl).symm.trans e)
          · exact Option.some.inj ((if_neg h).symm.trans e) ▸ .str _ _ _ _ h
        |_=>exact no e
      |_=>exact no e
theorem ltTup_at {A:Around} {xs:List V}:∀ {vs ws:List Value} {ys:List V} {r:Bool},VRs σ X μ s.heap vs xs→VRs σ X μ s.heap ws ys→ltTup xs ys=some r→TupAt A s vs ws r:=by
  induction xs with
  |nil=>intro vs ws ys r _ _ e;cases ys<;>exact no e
  |cons x xs ih=>
    intro vs ws ys r rx ry e
    obtain ⟨v,vs,rfl,r1,rs1⟩:=rx.inv
    cases ltTup_some e with
    |int a b _ ys h=>
      obtain ⟨w,ws,rfl,r2,rs2⟩:=ry.inv
      obtain ⟨t,rfl⟩:=r1.inv
      obtain ⟨u,rfl⟩:=r2.inv
      exact .here (beq_eq_false_iff_ne.mpr h▸EqAt.int_int a t b u) fun prog w E Q h=>show wpAny _ A (compareOp .Lt _ _) Q E s from lt_int h
    |intE a _ ys r h=>
      obtain ⟨w,ws,rfl,r2,rs2⟩:=ry.inv
      obtain ⟨t,rfl⟩:=r1.inv
      obtain ⟨u,rfl⟩:=r2.inv
      exact .step (beq_self_eq_true a▸EqAt.int_int a t a u) (ih rs1 rs2 h)
    |str a b _ ys h=>
      obtain ⟨w,ws,rfl,r2,rs2⟩:=ry.inv
      obtain ⟨t,rfl⟩:=r1.inv
      obtain ⟨u,rfl⟩:=r2.inv
      have q:((⟨a.toArray⟩ : Str) == ⟨b.toArray⟩)=false:=by rw [str_beq_toArray];exact beq_eq_false_iff_ne.mpr h
      exact .here (q▸EqAt.str_str ⟨a.toArray⟩ t ⟨b.toArray⟩ u) fun prog w E Q h=>show wpAny _ A (compareOp .Lt _ _) Q E s from lt_str h
    |strE a _ ys r h=>
      obtain ⟨w,ws,rfl,r2,rs2⟩:=ry.inv
      obtain ⟨t,rfl⟩:=r1.inv
      obtain ⟨u,rfl⟩:=r2.inv
      exact .step (beq_self_eq_true (⟨a.toArray⟩ : Str)▸EqAt.str_str ⟨a.toArray⟩ t ⟨a.toArray⟩ u) (ih rs1 rs2 h)
inductive LtS:V→V→V→Prop
  |int (a b:Int):LtS (.int a) (.int b) (.bool (decide (a < b)))
  |tup (a b:List V) (r:Bool) (h:ltTup a b=some r):LtS (.tup a) (.tup b) (.bool r)
theorem ltV_some {a b r:V} (e:ltV H a b=some r):LtS a b r:=by
  cases a with
  |int a=>cases b with
    |int b=>exact Option.some.inj e ▸ .int a b
    |_=>exact no e
  |tup a=>cases b with
    |tup b=>obtain ⟨q,k,rfl⟩:=Option.map_eq_some_iff.mp e;exact .tup a b q k
    |_=>exact no e
  |_=>exact no e
theorem O.lt:Snd2 B (compareOp .Lt) ltV:=fun {A s σ X μ H a b x y r} hr c ra rb e=>by
  cases ltV_some e with
  |int i j=>obtain ⟨t,rfl⟩:=ra.inv;obtain ⟨u,rfl⟩:=rb.inv;exact lt_int (opr_same (.bool _))
  |tup l m q e1=>
    obtain ⟨a,vs,rfl,⟨⟨cls,dd,data,sl⟩,ho,hc,n,hd⟩,rl⟩:=ra.inv
    obtain ⟨b,ws,rfl,⟨⟨cls2,dd2,data2,sl2⟩,ho2,hc2,n2,hd2⟩,rk⟩:=rb.inv
    obtain ⟨k,h1,h2,h3,h4,h5⟩:=ltTup_at (A:=A.in1) rl rk e1
    simp only at hc hd hc2 hd2
    subst hc hd hc2 hd2
    show wpAny _ A (richCompare .Lt _ _) _ _ s
    exact richCompare_meets_room (op:=.Lt) ⟨_,ho,rfl⟩ ⟨_,ho2,rfl⟩ PySem.F.slot_tuple_lt PySem.F.entry_tuple_lt (PySem.F.args_tuple_lt_2 _ _) (tuple_ltAtM _ _ vs.toArray ws.toArray n n2 dd dd2 sl sl2 k (by simpa using h1) (by simpa using h2) q)
      ⟨ho,ho2,fun j j1 j2 hj=>by simpa using h3 j (by simpa using j1) (by simpa using j2) hj,by simpa using h4,by simpa using h5,show Value.bool q ≠ Value.notImplemented∧_ from ⟨(fun x=>nomatch x),opr_same (.bool _)⟩⟩ (by have:=room1 hr;omega)
inductive IsI (f:Int→Int→Bool) (g:List Nat→List Nat→Bool):V→V→V→Prop
  |int (a b:Int):IsI f g (.int a) (.int b) (.bool (f a b))
  |str (a b:List Nat):IsI f g (.str a) (.str b) (.bool (g a b))
theorem leV_some {a b r:V} (e:leV H a b=some r):IsI (fun a b=>decide (a≤b)) (fun a b=>!decide (b < a)) a b r:=by
  cases a with
  |int a=>cases b with
    |int b=>exact Option.some.inj e ▸ .int a b
    |_=>exact no e
  |str a=>cases b with
    |str b=>exact Option.some.inj e ▸ .str a b
    |_=>exact no e
  |_=>exact no e
theorem gtV_some {a b r:V} (e:gtV H a b=some r):IsI (fun a b=>decide (b < a)) (fun a b=>decide (b < a)) a b r:=by
  cases a with
  |int a=>cases b with
    |int b=>exact Option.some.inj e ▸ .int a b
    |_=>exact no e
  |str a=>cases b with
    |str b=>exact Option.some.inj e ▸ .str a b
    |_=>exact no e
  |_=>exact no e
theorem O.le:Snd2 B (compareOp .LtE) leV:=fun {A s σ X μ H a b x y r} hr c ra rb e=>by
  cases leV_some e with
  |int i j=>obtain ⟨t,rfl⟩:=ra.inv;obtain ⟨u,rfl⟩:=rb.inv;exact le_int (opr_same (.bool _))
  |str i j=>obtain ⟨t,rfl⟩:=ra.inv;obtain ⟨u,rfl⟩:=rb.inv;exact PySem.P.le_str (opr_same (.bool _))
theorem O.gt:Snd2 B (compareOp .Gt) gtV:=fun {A s σ X μ H a b x y r} hr c ra rb e=>by
  cases gtV_some e with
  |int i j=>obtain ⟨t,rfl⟩:=ra.inv;obtain ⟨u,rfl⟩:=rb.inv;exact gt_int (opr_same (.bool _))
  |str i j=>obtain ⟨t,rfl⟩:=ra.inv;obtain ⟨u,rfl⟩:=rb.inv;exact PySem.P.gt_str (opr_same (.bool _))
theorem O.ge:Snd2 B (compareOp .GtE) geV:=O.int (f:=fun a b=>some (.bool (decide (b≤a)))) (fun Z Z Z Z e=>e) fun e h=>by
  cases e;exact PyProof.Rows.ge_int (h _ _ keeps_refl (.bool _))
inductive IsS:V→V→Bool→Prop
  |nn:IsS .none .none true
  |tn (l:List V):IsS (.tup l) .none false
  |ss:IsS .star .star true
  |ts (l:List Nat):IsS (.str l) .star false
theorem isV_some {a b r:V} (e:isV H a b=some r):∃ q,IsS a b q∧.bool q=r:=by
  cases a with
  |none=>cases b with
    |none=>exact ⟨_,.nn,Option.some.inj e⟩
    |_=>exact no e
  |tup l=>cases b with
    |none=>exact ⟨_,.tn l,Option.some.inj e⟩
    |_=>exact no e
  |star=>cases b with
    |star=>exact ⟨_,.ss,Option.some.inj e⟩
    |_=>exact no e
  |str l=>cases b with
    |star=>exact ⟨_,.ts l,Option.some.inj e⟩
    |_=>exact no e
  |_=>exact no e
theorem isNotV_some {a b r:V} (e:isNotV H a b=some r):∃ q,IsS a b q∧.bool (!q)=r:=by
  cases a with
  |none=>cases b with
    |none=>exact ⟨_,.nn,Option.some.inj e⟩
    |_=>exact no e
  |tup l=>cases b with
    |none=>exact ⟨_,.tn l,Option.some.inj e⟩
    |_=>exact no e
  |star=>cases b with
    |star=>exact ⟨_,.ss,Option.some.inj e⟩
    |_=>exact no e
  |str l=>cases b with
    |star=>exact ⟨_,.ts l,Option.some.inj e⟩
    |_=>exact no e
  |_=>exact no e
theorem O.is:Snd2 B (compareOp .Is) isV:=fun {A s σ X μ H a b x y r} hr c ra rb e=>by
  obtain ⟨q,h,rfl⟩:=isV_some e
  cases h with
  |nn=>obtain rfl:=ra.inv;obtain rfl:=rb.inv;exact is_none_none (opr_same (.bool _))
  |ts l=>obtain ⟨t,rfl⟩:=ra.inv;obtain ⟨a,rfl,h1⟩:=rb.inv;exact wpAny_bind (wpAny_isSame_plain rfl (wpAny_pure (opr_same (.bool _))))
  |tn l=>obtain ⟨a,vs,rfl,_⟩:=ra.inv;obtain rfl:=rb.inv;exact is_ref_none (opr_same (.bool _))
  |ss=>
    obtain ⟨a,rfl,h1⟩:=ra.inv
    obtain ⟨b,rfl,h2⟩:=rb.inv
    cases h1.symm.trans h2
    exact wpAny_bind (wpAny_isSame_ref_self (wpAny_pure (opr_same (.bool _))))
theorem O.isNot:Snd2 B (compareOp .IsNot) isNotV:=fun {A s σ X μ H a b x y r} hr c ra rb e=>by
  obtain ⟨q,h,rfl⟩:=isNotV_some e
  cases h with
  |nn=>obtain rfl:=ra.inv;obtain rfl:=rb.inv;exact isnot_none_none (opr_same (.bool _))
  |ts l=>obtain ⟨t,rfl⟩:=ra.inv;obtain ⟨a,rfl,h1⟩:=rb.inv;exact wpAny_bind (wpAny_isSame_plain rfl (wpAny_pure (opr_same (.bool _))))
  |tn l=>obtain ⟨a,vs,rfl,_⟩:=ra.inv;obtain rfl:=rb.inv;exact isnot_ref_none (opr_same (.bool _))
  |ss=>
    obtain ⟨a,rfl,h1⟩:=ra.inv
    obtain ⟨b,rfl,h2⟩:=rb.inv
    cases h1.symm.trans h2
    exact wpAny_bind (wpAny_isSame_ref_self (wpAny_pure (opr_same (.bool _))))
theorem any_toPys (l:List V) (d:PyData):(toPys l).any (fun y=>PyData.eqv y d)=l.any fun y=>PyData.eqv (toPy y) d:=by
  induction l with
  |nil=>rfl
  |cons x l ih=>rw [toPys,List.any_cons,List.any_cons,ih]
theorem depth_of_dpt {d:PyData} (h:dpt d=true):d.depth≤64:=of_decide_eq_true h
inductive InS (H:Hp):V→V→Bool→Prop
  |str (a b:List Nat):InS H (.str a) (.str b) (Txt.contains ⟨b.toArray⟩ ⟨a.toArray⟩)
  |frz {x y:V} {l:List V} (h:resV H y=.frz l) (h1:okV x=true) (h2:okVs l=true) (h3:dpt (toPy x)=true):InS H x y (l.any fun y=>PyData.eqv (toPy y) (toPy x))
  |tup {x y:V} {l:List V} (h:resV H y=.tup l) (h1:okV x=true) (h2:okVs l=true) (h3:dpt (toPy x)=true):InS H x y (l.any fun y=>PyData.eqv (toPy y) (toPy x))
theorem inB2_some {x y:V} {r:Bool} (e:inB2 H x y=some r):InS H x y r:=by
  unfold inB2 at e
  cases q:resV H y with
  |frz l=>
    rw [q] at e
    obtain ⟨h,rfl⟩:=ite_some e
    simp only [Bool.and_eq_true] at h
    exact .frz q h.1.1 h.1.2 h.2
  |tup l=>
    rw [q] at e
    obtain ⟨h,rfl⟩:=ite_some e
    simp only [Bool.and_eq_true] at h
    exact .tup q h.1.1 h.1.2 h.2
  |_=>rw [q] at e;cases e
theorem inB_some {x y:V} {r:Bool} (e:inB H x y=some r):InS H x y r:=by
  cases x with
  |str a=>cases y with
    |str b=>exact Option.some.inj e ▸ .str a b
    |_=>exact inB2_some e
  |_=>exact inB2_some e
theorem O.in' {op:CmpOp} {g:Bool→Bool} {f:Op2} (hf:∀ H a b,f H a b=(inB H a b).map fun r=>.bool (g r))
    (h1:∀ {A:Around} {s:Shared} {i j:Str} {t u:Tok} {Q:Value→Shared→Prop},Q (.bool (g (Txt.contains j i))) s→wpAny (model B.prog B.w) A (compareOp op (.str i t) (.str j u)) Q NoE s)
    (h2:∀ {A:Around} {s:Shared} {v w:Value} {a:PyData} {l:List PyData} {as bs:List Addr} {Q:Value→Shared→Prop},Reads s.heap w (.list l) bs→Reads s.heap v a as→PyData.canLayAll0 l=true→a.canLay0=true→A.units+1+min (PyData.depthAll l) a.depth < cLine→Q (.bool (g (l.any fun y=>PyData.eqv y a))) s→wpAny (model B.prog B.w) A (compareOp op v w) Q NoE s)
    (h3:∀ {A:Around} {s:Shared} {v w:Value} {a:PyData} {l:List PyData} {as bs:List Addr} {Q:Value→Shared→Prop},Reads s.heap w (.tuple l) bs→Reads s.heap v a as→PyData.canLayAll0 l=true→a.canLay0=true→A.units+1+min (PyData.depthAll l) a.depth < cLine→Q (.bool (g (l.any fun y=>PyData.eqv y a))) s→wpAny (model B.prog B.w) A (compareOp op v w) Q NoE s) :
    Snd2 B (compareOp op) f:=fun {A s σ X μ H a b x y r} hr c ra rb e=>by
  rw [hf] at e
  obtain ⟨q,e1,rfl⟩:=Option.map_eq_some_iff.mp e
  have h6:=room1 hr
  cases inB_some e1 with
  |str i j=>obtain ⟨t,rfl⟩:=ra.inv;obtain ⟨u,rfl⟩:=rb.inv;exact h1 (opr_same (.bool _))
  |frz q k1 k2 k3=>
    obtain ⟨as,ra'⟩:=reads_of ra k1
    have h5:=depth_of_dpt k3
    obtain ⟨bs,rb'⟩:=readsH_of c rb (by rw [q];exact k2)
    rw [q] at rb'
    exact h2 rb' ra' (lays_of k2) (lay_of k1) (by omega) (by rw [any_toPys];exact opr_same (.bool _))
  |tup q k1 k2 k3=>
    obtain ⟨as,ra'⟩:=reads_of ra k1
    have h5:=depth_of_dpt k3
    obtain ⟨bs,rb'⟩:=readsH_of c rb (by rw [q];exact k2)
    rw [q] at rb'
    exact h3 rb' ra' (lays_of k2) (lay_of k1) (by omega) (by rw [any_toPys];exact opr_same (.bool _))
theorem O.inn:Snd2 B (compareOp .In) inV:=O.in' (g:=id) (fun Z Z Z=>rfl) (fun h=>SB.contains h) (fun a b c d e h=>in_list_reads a b c d e h) fun a b c d e h=>in_tuple_reads a b c d e h
theorem O.notIn:Snd2 B (compareOp .NotIn) notInV:=O.in' (g:=not) (fun Z Z Z=>rfl) (fun h=>SB.notContains h) (fun a b c d e h=>notIn_list_reads a b c d e h) fun a b c d e h=>notIn_tuple_reads a b c d e h
noncomputable def trB (H:Hp):V→Option Bool
  | .bool b=>some b
  | .str l=>if l.length≤SZ then some (!l.isEmpty) else none
  | .frz l=>if l.length≤SZ then some (!l.isEmpty) else none
  | .lst i=>match H[i]? with
    |some l=>if l.length≤SZ then some (!l.isEmpty) else none
    |none=>none
  |_=>none
theorem cell_at (c:CR σ X μ s.heap H) {i:Nat} {a:Addr} {l:List V} (e:μ[i]?=some a) (e2:H[i]?=some l):∃ vs,PlnA s.heap a vs∧VRs σ X μ s.heap vs l:=c.cell i a l e e2
theorem plain_list {h:Heap} {a:Addr} {vs:List Value} (p:PlnA h a vs):LstA h a vs:=let ⟨_,e⟩:=p;⟨_,e,rfl,_,rfl⟩
theorem truthy_lst {l:Addr} {vs:List Value} {xs:List V} {b:Bool} (hl:LstA s.heap l vs) (rs:VRs σ X μ s.heap vs xs) (e:(if xs.length≤SZ then some (!xs.isEmpty) else none)=some b) :
    wpAny (model B.prog B.w) A (truthy (.ref l)) (fun b' s'=>b'=b∧Keeps s s') NoE s:=by
  obtain ⟨hz,rfl⟩:=ite_some e
  have hsz:=rs.length
  refine wpAny_truthy_list hl (by simp only [List.size_toArray];rw [hsz];simp only [SZ] at hz;omega) ⟨?_,keeps_tok⟩
  cases vs<;>cases xs<;>first | rfl | (cases hsz)
theorem truthy_of {v:Value} {x:V} {b:Bool} (c:CR σ X μ s.heap H) (r:VR σ X μ s.heap v x) (e:trB H x=some b):wpAny (model B.prog B.w) A (truthy v) (fun b' s'=>b'=b∧Keeps s s') NoE s:=by
  cases x with
  |bool q=>obtain rfl:=r.inv;cases e;exact wpAny_truthy_bool ⟨rfl,keeps_refl⟩
  |str l=>
    obtain ⟨t,rfl⟩:=r.inv
    obtain ⟨hz,rfl⟩:=ite_some e
    simp only [SZ] at hz
    refine PySem.P.truthy_str (by simp only [Str.length,List.size_toArray];omega) ⟨?_,keeps_tok⟩
    cases l with
    |nil=>rfl
    |cons x l=>simp only [Str.length,List.size_toArray,List.length_cons,List.isEmpty_cons,Bool.not_false,bne_iff_ne];omega
  |frz l=>obtain ⟨a,vs,rfl,hl,_,_,rs⟩:=r.inv;exact truthy_lst hl rs e
  |lst i=>
    obtain ⟨a,rfl,q⟩:=r.inv
    unfold trB at e
    dsimp only at e
    cases hl:H[i]? with
    |none=>rw [hl] at e;cases e
    |some l=>
      rw [hl] at e
      obtain ⟨vs,p,rs⟩:=cell_at c q hl
      exact truthy_lst (plain_list p) rs e
  |_=>exact no e
noncomputable def idxL {α:Type} (l:List α) (k:Int):Option α:=
  if l.length≤SZ then (if k < 0 then (if 0≤k+l.length then l[(k+l.length).toNat]? else none) else l[k.toNat]?) else none
noncomputable def idxV:Op2:=fun H a k=>match k with
  | .int k=>(match a with
    | .frz l=>idxL l k
    | .tup l=>idxL l k
    | .lst i=>(match H[i]? with
      |some l=>idxL l k
      |none=>none)
    | .str l=>(idxL l k).map fun c=>.str [c]
    |_=>none)
  |_=>none
theorem idxL_some {α:Type} {l:List α} {k:Int} {x:α} (e:idxL l k=some x):∃ j,seqIndex? k l.length=some j∧l[j]?=some x∧-2 ^ 62≤k∧k < 2 ^ 62:=by
  unfold idxL at e
  split at e
  · rename_i hz
    simp only [SZ] at hz
    split at e
    · split at e
      · rename_i h1 h2
        have hlt:=(List.getElem?_eq_some_iff.mp e).1
        refine ⟨_,?_,e,by omega,by omega⟩
        unfold seqIndex?
        simp only [h1,if_true]
        have:(decide (0≤k+(l.length:Int)) && decide (k+(l.length:Int) < (l.length:Int)))=true:=by simp;omega
        simp only [this,if_true]
      · first | exact no e | cases e
    · rename_i h1
      have hlt:=(List.getElem?_eq_some_iff.mp e).1
      refine ⟨_,?_,e,by omega,by omega⟩
      unfold seqIndex?
      simp only [h1,if_false]
      have:(decide (0≤k) && decide (k < (l.length:Int)))=true:=by simp;omega
      simp only [this,if_true]
  · first | exact no e | cases e
theorem getItem_lst {l:Addr} {vs:List Value} {k:Int} {t:Tok} {x:Value} {j:Nat} {Q:Value→Shared→Prop} (hl:LstA s.heap l vs) (hj:seqIndex? k vs.length=some j) (hx:vs[j]?=some x) (h1 : -2 ^ 62≤k) (h2:k < 2 ^ 62) (h:Q x s) :
    wpAny (model B.prog B.w) A (getItem (.ref l) (.int k t)) Q NoE s:=by
  unfold seqIndex? at hj
  by_cases hk:k < 0
  · simp only [hk,if_true] at hj
    split at hj
    · rename_i hc
      simp only [Bool.and_eq_true,decide_eq_true_eq] at hc
      cases hj
      exact wpAny_getItem_list_neg hl hk (by simp;omega) (by omega) (by simpa using hx) h
    · cases hj
  · simp only [hk,if_false] at hj
    split at hj
    · rename_i hc
      simp only [Bool.and_eq_true,decide_eq_true_eq] at hc
      cases hj
      exact wpAny_getItem_list hl (by omega) (by omega) (by simpa using hx) h
    · cases hj
inductive IdxS (H:Hp):V→V→V→Prop
  |frz (l:List V) (k:Int) (r:V) (h:idxL l k=some r):IdxS H (.frz l) (.int k) r
  |tup (l:List V) (k:Int) (r:V) (h:idxL l k=some r):IdxS H (.tup l) (.int k) r
  |lst (i:Nat) (l:List V) (k:Int) (r:V) (hl:H[i]?=some l) (h:idxL l k=some r):IdxS H (.lst i) (.int k) r
  |str (l:List Nat) (k:Int) (c:Nat) (h:idxL l k=some c):IdxS H (.str l) (.int k) (.str [c])
theorem idxV_some {x k r:V} (e:idxV H x k=some r):IdxS H x k r:=by
  cases k with
  |int k=>cases x with
    |frz l=>exact .frz l k r e
    |tup l=>exact .tup l k r e
    |lst i=>
      unfold idxV at e
      dsimp only at e
      cases hl:H[i]? with
      |none=>rw [hl] at e;exact no e
      |some l=>rw [hl] at e;exact .lst i l k r hl e
    |str l=>obtain ⟨c,q,rfl⟩:=Option.map_eq_some_iff.mp e;exact .str l k c q
    |_=>exact no e
  |_=>exact no e
noncomputable def GetR (B:Base) (A:Around) (s:Shared) (v kv:Value) (Q:Value→Shared→Prop):Prop:=∃ T id,s.TypeIs v T∧typeLookup (.type T) "__getitem__" = pure (some (.builtin id))∧wpAny (model B.prog B.w) A (getItem v kv) Q NoE s
theorem getItem_ref {v:Value} {k:V} {x r:V} {kv:Value} (c:CR σ X μ s.heap H) (rx:VR σ X μ s.heap v x) (rk:VR σ X μ s.heap kv k) (e:idxV H x k=some r):GetR B A s v kv (OpR σ X μ s r):=by
  cases idxV_some e with
  |str l k ch e1=>
    obtain ⟨u,rfl⟩:=rx.inv
    obtain ⟨t,rfl⟩:=rk.inv
    obtain ⟨j,h1,h2,h3,h4⟩:=idxL_some e1
    refine ⟨"str",_,typeIs_str _ _ _,PySem.F.slot_str_getitem.lookup,PySem.P.getItem_str (c:=ch) (by simp;omega) ?_ (opr_here (.str [ch] _))⟩
    simp only [Str.length,List.size_toArray,h1,Option.bind_some];simpa using h2
  |tup l k _ e1=>
    obtain ⟨a,vs,rfl,hl,rs⟩:=rx.inv
    obtain ⟨t,rfl⟩:=rk.inv
    obtain ⟨j,h1,h2,h3,h4⟩:=idxL_some e1
    obtain ⟨v,h5,r5⟩:=rs.get h2
    exact ⟨"tuple",_,hl.typeIs,slot_tuple_getitem.lookup,PyProof.Rows.getItem_tuple (j:=j) (x:=v) (items:=vs.toArray) hl (by omega) (by omega) (by simpa [rs.length] using h1) (by simpa using h5) (opr_same r5)⟩
  |frz l k _ e1=>
    obtain ⟨a,vs,rfl,hl,hx,hm,rs⟩:=rx.inv
    obtain ⟨t,rfl⟩:=rk.inv
    obtain ⟨j,h1,h2,h3,h4⟩:=idxL_some e1
    obtain ⟨v,h5,r5⟩:=rs.get h2
    exact ⟨"list",_,hl.typeIs,slot_list_getitem.lookup,getItem_lst hl (by rw [rs.length];exact h1) h5 h3 h4 (opr_same r5)⟩
  |lst i l k _ hl e1=>
    obtain ⟨a,rfl,hi⟩:=rx.inv
    obtain ⟨t,rfl⟩:=rk.inv
    obtain ⟨vs,p,rs⟩:=cell_at c hi hl
    obtain ⟨j,h1,h2,h3,h4⟩:=idxL_some e1
    obtain ⟨v,h5,r5⟩:=rs.get h2
    exact ⟨"list",_,(plain_list p).typeIs,slot_list_getitem.lookup,getItem_lst (plain_list p) (by rw [rs.length];exact h1) h5 h3 h4 (opr_same r5)⟩
theorem S.idx {e1 e2:Expr} {f1 f2:FE} {pos:Pos} (h1:SndE B n env names e1 f1) (h2:SndE B n env names e2 f2) (hs:∀ o i,subscripted e2 false o i=operate [o,i] (getItem o i)) :
    SndE B n env names (.Subscript e1 e2 pos) (bin idxV f1 f2):=fun {A s σ X μ ρ H V H'} hr w e=>by
  obtain ⟨a,H1,b,q1,q2,q3⟩:=bin_some e
  refine Subscript_ (nE (h1 hr w q1) fun va s₁ ν1 w1 r1 t1=>nE (h2 hr w1 q2) fun vb s₂ ν2 w2 r2 t2=>?_)
  obtain ⟨T,id,hT,hl,hg⟩:=getItem_ref (B:=B) (A:=A) w2.cr (r1.stp t2 w1.cr w1.bs.tab) r2 q3
  exact tail_any hT hl (noE hg fun v s₃ ⟨k,r⟩=>PostE.after t1 (PostE.after t2 (PostE.of w2 k r))) (hs _ _)
end
end
section
open PySem.SeqAt
noncomputable def sliceL {α:Type} (l:List α) (lo hi:Option Int):List α:=(l.drop (lo.elim 0 (clipAt l.length))).take (hi.elim l.length (clipAt l.length) - lo.elim 0 (clipAt l.length))
noncomputable def partV:V→Option (Option Int)
  | .none=>some none
  | .int i=>some (some i)
  |_=>none
noncomputable def sliceA (H:Hp) (lo hi:Option Int):V→Option V
  | .frz l=>if l.length≤SZ then some (.frz (sliceL l lo hi)) else none
  | .lst i=>obn H[i]? fun l=>if l.length≤SZ then some (.frz (sliceL l lo hi)) else none
  | .str l=>if l.length≤SZ then some (.str (sliceL l lo hi)) else none
  |_=>none
noncomputable def sliceV (H:Hp) (a lo hi:V):Option V:=obn (partV lo) fun lo=>obn (partV hi) fun hi=>sliceA H lo hi a
noncomputable def slc (f1 f2 f3:FE):FE:=fun ρ H=>match f1 ρ H with
  |some (a,H1)=>(match f2 ρ H1 with
    |some (b,H2)=>(match f3 ρ H2 with
      |some (c,H3)=>(match sliceV H3 a b c with
        |some r=>some (r,H3)
        |none=>none)
      |none=>none)
    |none=>none)
  |none=>none
section
variable {B:Base} {n:Nat} {env:Env} {names:List Str} {A:Around} {s s' s'':Shared} {σ:Option Addr} {X:Addr→Prop} {μ ν:List Addr} {ρ:Rho} {H H' H'':Hp}
noncomputable def SndP (B:Base) (n:Nat) (env:Env) (names:List Str) (e:Option Expr) (f:FE):Prop:=
  ∀ ⦃A:Around⦄ ⦃s:Shared⦄ ⦃σ:Option Addr⦄ ⦃X:Addr→Prop⦄ ⦃μ:List Addr⦄ ⦃ρ:Rho⦄ ⦃H:Hp⦄ ⦃V:V⦄ ⦃H':Hp⦄,Room n A→Wd B σ X env names ρ μ H s→f ρ H=some (V,H')→
    wpAny (model B.prog B.w) A (evalPart e env) (PostE B env names σ X ρ μ s H' V) NoE s
theorem SndP.none:SndP B n env names none cNone:=fun Z Z Z Z Z Z Z Z Z Z w e=>by cases e;exact wpAny_pure (PostE.of w keeps_refl .none)
theorem SndP.some {e:Expr} {f:FE} (h:SndE B n env names e f):SndP B n env names (some e) f:=fun Z Z Z Z Z Z Z Z Z hr w q=>h hr w q
theorem pick_list (vs:List Value) (lo hi:Option Int):slicePick vs.toArray lo hi none=(sliceL vs lo hi).toArray:=by
  rw [slicePick_plain];rfl
theorem sub_top {a b n:Nat} (h:b - a=n) (hb:b≤n) (ha:a≤n):a=0:=by
  rcases Nat.eq_zero_or_pos a with h0 | h0
  · exact h0
  · have:n≤n - a:=h▸Nat.sub_le_sub_right hb a
    rcases Nat.eq_zero_or_pos n with h1 | h1
    · exact Nat.le_zero.mp (h1▸ha)
    · exact absurd this (Nat.not_le.mpr (Nat.sub_lt h1 h0))
theorem pick_str (l:List Nat) (lo hi:Option Int):Txt.slice ⟨l.toArray⟩ lo hi=⟨(sliceL l lo hi).toArray⟩:=by
  have e:Builtin.Str.strSliceIndices lo hi 1 l.length=sliceRange (sliceBounds lo hi none l.length).1 (sliceBounds lo hi none l.length).2.1 1:=by cases lo<;>cases hi<;>rfl
  have e2:(Builtin.Str.strSliceIndices lo hi 1 l.length)=(List.range (hi.elim l.length (clipAt l.length) - lo.elim 0 (clipAt l.length))).map (lo.elim 0 (clipAt l.length) + ·):=by
    rw [e,sliceBounds_plain,sliceRange_one]
  have e3:(Builtin.Str.strSliceIndices lo hi 1 l.length).filterMap (l.toArray[·]?)=sliceL l lo hi:=by
    rw [e2,pick_run];rfl
  unfold Txt.slice
  simp only [Str.length,List.size_toArray]
  split
  · rename_i h
    simp only [Bool.and_eq_true,beq_iff_eq] at h
    have h:=h.2
    rw [← e3]
    congr 1
    rw [e2] at h
    simp only [List.length_map,List.length_range] at h
    rw [e3]
    unfold sliceL
    rw [h]
    have cl:∀ i,clipAt l.length i≤l.length:=fun i=>by have:=clipAt_cast l.length i;omega
    have hh:hi.elim l.length (clipAt l.length)≤l.length:=by cases hi with
      |none=>exact Nat.le_refl _
      |some i=>exact cl i
    have hg:lo.elim 0 (clipAt l.length)≤l.length:=by cases lo with
      |none=>exact Nat.zero_le _
      |some i=>exact cl i
    rw [sub_top h hh hg,List.drop_zero,List.take_length]
  · rw [e3]
theorem partV_some {v:Value} {x:V} {k:Option Int} (r:VR σ X μ s.heap v x) (e:partV x=some k):IsPart v k:=by
  cases r with
  |none=>cases e;exact .none
  |int i t=>cases e;exact .int _ _
  |_=>exact no e
theorem VRs.slice {vs:List Value} {l:List V} (r:VRs σ X μ s.heap vs l) (lo hi:Option Int):VRs σ X μ s.heap (sliceL vs lo hi) (sliceL l lo hi):=by
  unfold sliceL
  rw [r.length]
  exact (r.drop _).take _
theorem sliceL_length {α:Type} (l:List α) (lo hi:Option Int):(sliceL l lo hi).length≤l.length:=Nat.le_trans (List.length_take_le' _ _) (by rw [List.length_drop];exact Nat.sub_le _ _)
inductive SliI (H:Hp) (lo hi:Option Int):V→V→Prop
  |frz (l:List V) (hz:l.length≤SZ):SliI H lo hi (.frz l) (.frz (sliceL l lo hi))
  |lst (i:Nat) (l:List V) (hl:H[i]?=some l) (hz:l.length≤SZ):SliI H lo hi (.lst i) (.frz (sliceL l lo hi))
  |str (l:List Nat) (hz:l.length≤SZ):SliI H lo hi (.str l) (.str (sliceL l lo hi))
theorem sliceA_some {lo hi:Option Int} {a r:V} (e:sliceA H lo hi a=some r):SliI H lo hi a r:=by
  cases a with
  |frz l=>obtain ⟨h,rfl⟩:=ite_some e;exact .frz l h
  |lst i=>
    obtain ⟨l,hl,e⟩:=bn1 e
    obtain ⟨h,rfl⟩:=ite_some e;exact .lst i l hl h
  |str l=>obtain ⟨h,rfl⟩:=ite_some e;exact .str l h
  |_=>exact no e
theorem slc_eq (f1 f2 f3:FE) (ρ:Rho) (H:Hp):slc f1 f2 f3 ρ H=obd (f1 ρ H) fun a H1=>obd (f2 ρ H1) fun b H2=>obd (f3 ρ H2) fun c H3=>obn (sliceV H3 a b c) fun r=>some (r,H3):=by kernel_rfl
theorem slc_some {f1 f2 f3:FE} {r:V} (e:slc f1 f2 f3 ρ H=some (r,H')):∃ a H1 b H2 c,f1 ρ H=some (a,H1)∧f2 ρ H1=some (b,H2)∧f3 ρ H2=some (c,H')∧sliceV H' a b c=some r:=by
  obtain ⟨a,H1,q1,e⟩:=bnd ((slc_eq ..).symm.trans e)
  obtain ⟨b,H2,q2,e⟩:=bnd e
  obtain ⟨c,H3,q3,e⟩:=bnd e
  obtain ⟨r,q4,e⟩:=bn1 e
  cases e
  exact ⟨a,H1,b,H2,c,q1,q2,q3,q4⟩
noncomputable abbrev slO (vb vc:Value):Obj:={ cls:=.type "slice",data:=.fields #[vb,vc,.none] }
theorem slice_l (w:Wd B σ X env names ρ μ H s) {e1:Expr} {lo' hi':Option Expr} {p:Pos} {l:Addr} {vs:List Value} {xs:List V} {vb vc:Value} {lo hi:Option Int} (pl:IsPart vb lo) (ph:IsPart vc hi) (hl:LstA s.heap l vs) (rs:VRs σ X μ s.heap vs xs) (hz:xs.length≤SZ) :
    wpAny (model B.prog B.w) A (subscriptTail e1 (.Slice lo' hi' Option.none p) (.ref l) (.ref s.heap.objs.size)) (PostE B env names σ X ρ μ s H (V.frz (sliceL xs lo hi))) NoE { s with heap:=s.heap.push (slO vb vc) }:=by
  refine tail_any (T := "list") (s:={ s with heap:=s.heap.push (slO vb vc) }) (hl.push _).typeIs slot_list_getitem.lookup ?_ rfl
  refine wpAny_getItem_list_slice (hl.push _) (Heap.IsSliceOf.new s.heap vb vc .none) pl ph .none (by simp) ?_ (by rw [← sz_eq];simpa [rs.length] using hz)
  rw [pick_list,Heap.size_push]
  refine PostE.of w (keeps_of (fun b o e=>Heap.get?_push_of_some _ (Heap.get?_push_of_some _ e))) (frz_new w.cr (rs.slice lo hi) (none_size _ (Nat.le_succ _)) (fun b o e=>Heap.get?_push_of_some _ (Heap.get?_push_of_some _ e)) ?_)
  refine ⟨{ cls:=.type "list",data:=.seq (sliceL vs lo hi).toArray },?_,rfl,_,rfl⟩
  have:=Heap.get?_push_size (s.heap.push (slO vb vc)) (o:={ cls:=.type "list",data:=.seq (sliceL vs lo hi).toArray }) rfl
  rwa [Heap.size_push] at this
theorem part_val {v:Value} {lo:Option Int} (h:IsPart v lo):∃ l':Option (Int×Tok),v=partValue l'∧l'.map (·.1)=lo:=by
  cases h with
  |none=>exact ⟨Option.none,rfl,rfl⟩
  |int i t=>exact ⟨some (i,t),rfl,rfl⟩
theorem slice_s (w:Wd B σ X env names ρ μ H s) {e1:Expr} {lo' hi':Option Expr} {p:Pos} {l:List Nat} {t:Tok} {vb vc:Value} {lo hi:Option Int} (pl:IsPart vb lo) (ph:IsPart vc hi) (hz:l.length≤SZ) :
    wpAny (model B.prog B.w) A (subscriptTail e1 (.Slice lo' hi' Option.none p) (.str ⟨l.toArray⟩ t) (.ref s.heap.objs.size)) (PostE B env names σ X ρ μ s H (V.str (sliceL l lo hi))) NoE { s with heap:=s.heap.push (slO vb vc) }:=by
  obtain ⟨l',rfl,hl⟩:=part_val pl
  obtain ⟨u',rfl,hu⟩:=part_val ph
  refine tail_any (typeIs_str _ _ _) PySem.F.slot_str_getitem.lookup ?_ rfl
  refine wpAny_getItem_str_slice (l:=l') (u:=u') (st:=Option.none) ⟨_,Heap.get?_push_size _ rfl,rfl,rfl⟩ rfl ?_
  have hsm:sliceMade ⟨l.toArray⟩ t l' u' Option.none=if ((1:Int) == 1 && (Builtin.Str.strSliceIndices lo hi 1 (Str.length ⟨l.toArray⟩)).length == Str.length ⟨l.toArray⟩)=true then .val (.str ⟨l.toArray⟩ t) else .str ⟨((Builtin.Str.strSliceIndices lo hi 1 (Str.length ⟨l.toArray⟩)).filterMap (l.toArray[·]?)).toArray⟩:=by
    unfold sliceMade slicePicked
    rw [hl,hu];rfl
  rw [hsm]
  refine post_val_or_str ⟨Nat.le_trans (Txt.slice_le ⟨l.toArray⟩ lo hi) (by rw [← sz_eq];simpa [Str.length] using hz),fun t' k=>?_⟩
  have:(if ((1:Int) == 1 && (Builtin.Str.strSliceIndices lo hi 1 (Str.length ⟨l.toArray⟩)).length == Str.length ⟨l.toArray⟩)=true then (⟨l.toArray⟩ : Str) else ⟨((Builtin.Str.strSliceIndices lo hi 1 (Str.length ⟨l.toArray⟩)).filterMap (l.toArray[·]?)).toArray⟩)=Txt.slice ⟨l.toArray⟩ lo hi:=rfl
  rw [this,pick_str]
  exact PostE.of w (keeps_of fun b o e=>Heap.get?_push_of_some _ e) (.str _ _)
theorem slice_any (w:Wd B σ X env names ρ μ H s) {e1:Expr} {lo' hi':Option Expr} {p:Pos} {va vb vc:Value} {a b c R:V} (r1:VR σ X μ s.heap va a) (r2:VR σ X μ s.heap vb b) (r3:VR σ X μ s.heap vc c) (q:sliceV H a b c=some R) :
    wpAny (model B.prog B.w) A (subscriptTail e1 (.Slice lo' hi' Option.none p) va (.ref s.heap.objs.size)) (PostE B env names σ X ρ μ s H R) NoE { s with heap:=s.heap.push (slO vb vc) }:=by
  obtain ⟨lo,hlo,q⟩:=bn1 q
  obtain ⟨hi,hhi,q⟩:=bn1 q
  have pl:=partV_some r2 hlo
  have ph:=partV_some r3 hhi
  cases sliceA_some q with
  |frz l hz=>
    obtain ⟨x,vs,rfl,hl,_,_,rs⟩:=r1.inv
    exact slice_l w pl ph hl rs hz
  |lst i l hl hz=>
    obtain ⟨x,rfl,hi⟩:=r1.inv
    obtain ⟨vs,pl',rs⟩:=cell_at w.cr hi hl
    exact slice_l w pl ph (plain_list pl') rs hz
  |str l hz=>
    obtain ⟨t,rfl⟩:=r1.inv
    exact slice_s w pl ph hz
theorem S.slice {e1:Expr} {lo' hi':Option Expr} {f1 f2 f3:FE} {p pos:Pos} (h1:SndE B n env names e1 f1) (h2:SndP B n env names lo' f2) (h3:SndP B n env names hi' f3) :
    SndE B n env names (.Subscript e1 (.Slice lo' hi' Option.none p) pos) (slc f1 f2 f3):=fun {A s σ X μ ρ H R H'} hr w e=>by
  obtain ⟨a,H1,b,H2,c,q1,q2,q3,q4⟩:=slc_some e
  refine Subscript_ (nE (h1 hr w q1) fun va s₁ ν1 w1 r1 t1=>wpAny_Slice (nE (h2 hr w1 q2) fun vb s₂ ν2 w2 r2 t2=>nE (h3 hr w2 q3) fun vc s₃ ν3 w3 r3 t3=>?_))
  rw [evalPart_none]
  exact wpAny_pure (noE (slice_any w3 ((r1.stp t2 w1.cr w1.bs.tab).stp t3 w2.cr w2.bs.tab) (r2.stp t3 w2.cr w2.bs.tab) r3 q4) fun Z Z h=>PostE.after t1 (PostE.after t2 (PostE.after t3 h)))
end
end
section
open PySem.SeqAt
noncomputable def tB (f:FE):FT:=fun ρ H=>match f ρ H with
  |some (v,H1)=>(match trB H1 v with
    |some b=>some (b,H1)
    |none=>none)
  |none=>none
noncomputable def tNot (f:FT):FT:=fun ρ H=>match f ρ H with
  |some (b,H1)=>some (!b,H1)
  |none=>none
noncomputable def tAnd:List FT→FT
  |[]=>fun Z H=>some (true,H)
  |f::fs=>fun ρ H=>match f ρ H with
    |some (b,H1)=>if b then tAnd fs ρ H1 else some (false,H1)
    |none=>none
noncomputable def tOr:List FT→FT
  |[]=>fun Z H=>some (false,H)
  |f::fs=>fun ρ H=>match f ρ H with
    |some (b,H1)=>if b then some (true,H1) else tOr fs ρ H1
    |none=>none
noncomputable def tChain (g1 g2:Op2) (f1 f2 f3:FE):FT:=fun ρ H=>match f1 ρ H with
  |some (a,H1)=>(match f2 ρ H1 with
    |some (b,H2)=>(match g1 H2 a b with
      |some (.bool false)=>some (false,H2)
      |some (.bool true)=>(match f3 ρ H2 with
        |some (c,H3)=>(match g2 H3 b c with
          |some (.bool q)=>some (q,H3)
          |_=>none)
        |none=>none)
      |_=>none)
    |none=>none)
  |none=>none
noncomputable def ifE (t:FT) (f1 f2:FE):FE:=fun ρ H=>match t ρ H with
  |some (b,H1)=>if b then f1 ρ H1 else f2 ρ H1
  |none=>none
noncomputable def andF:List FE→FE
  |[]=>fun Z Z=>none
  |[f]=>f
  |f::fs=>fun ρ H=>match f ρ H with
    |some (v,H1)=>(match trB H1 v with
      |some b=>if b then andF fs ρ H1 else some (v,H1)
      |none=>none)
    |none=>none
noncomputable def orF:List FE→FE
  |[]=>fun Z Z=>none
  |[f]=>f
  |f::fs=>fun ρ H=>match f ρ H with
    |some (v,H1)=>(match trB H1 v with
      |some b=>if b then some (v,H1) else orF fs ρ H1
      |none=>none)
    |none=>none
noncomputable abbrev FL:=Rho→Hp→Option (List V×Hp)
noncomputable def seqF:List FE→FL
  |[]=>fun Z H=>some ([],H)
  |f::fs=>fun ρ H=>match f ρ H with
    |some (v,H1)=>(match seqF fs ρ H1 with
      |some (vs,H2)=>some (v::vs,H2)
      |none=>none)
    |none=>none
section
variable {B:Base} {n:Nat} {env:Env} {names:List Str} {A:Around} {s s' s'':Shared} {σ:Option Addr} {X:Addr→Prop} {μ ν:List Addr} {ρ:Rho} {H H' H'':Hp}
theorem tB_eq (f:FE) (ρ:Rho) (H:Hp):tB f ρ H=obd (f ρ H) fun v H1=>obn (trB H1 v) fun b=>some (b,H1):=by kernel_rfl
theorem tB_some {f:FE} {b:Bool} (e:tB f ρ H=some (b,H')):∃ v,f ρ H=some (v,H')∧trB H' v=some b:=by
  obtain ⟨v,H1,q1,e⟩:=bnd ((tB_eq _ _ _).symm.trans e)
  obtain ⟨b,q2,e⟩:=bn1 e
  cases e
  exact ⟨_,q1,q2⟩
theorem T.plain {e:Expr} {f:FE} (h:SndE B n env names e f) (he:∀ whole,isTrue e env whole=(do let v ← whole;standAt e.pos;holding [v] (truthy v))):SndT B n env names e (tB f):=fun {A s σ X μ ρ H b H'} hr w q=>by
  obtain ⟨v,q1,q2⟩:=tB_some q
  refine isTrue_plain (nE (h hr w q1) fun va s₁ ν1 w1 r1 t1=>?_) (he _)
  exact n2 (truthy_of w1.cr r1 q2) fun b' s₂ hb k=>hb▸PostT.after t1 (PostT.of w1 k)
theorem T.cmp {e1 e2:Expr} {f1 f2:FE} {op:CmpOp} {g:Op2} {pos:Pos} (h1:SndE B n env names e1 f1) (h2:SndE B n env names e2 f2) (hop:Snd2 B (compareOp op) g) (hn:1≤n) (hm:behindInMarks op e2=false) :
    SndT B n env names (.Compare e1 [op] [e2] pos) (tB (bin g f1 f2)):=fun {A s σ X μ ρ H b H'} hr w q=>by
  obtain ⟨v,q1,q2⟩:=tB_some q
  obtain ⟨a,H1,c,p1,p2,p3⟩:=bin_some q1
  refine wpAny_isTrue_Compare1 (nE (h1 hr w p1) fun va s₁ ν1 w1 r1 t1=>nE (h2 hr w1 p2) fun vb s₂ ν2 w2 r2 t2=>?_) hm
  refine n2 (hop (hr.le hn) w2.cr (r1.stp t2 w1.cr w1.bs.tab) r2 p3) fun v s₃ k r=>?_
  exact n2 (truthy_of (w2.cr.keeps k) r q2) fun b' s₄ hb k'=>hb▸PostT.after t1 (PostT.after t2 (PostT.of w2 (keeps_trans k k')))
theorem tNot_eq (f:FT) (ρ:Rho) (H:Hp):tNot f ρ H=obd (f ρ H) fun b H1=>some (!b,H1):=by kernel_rfl
theorem T.not {e:Expr} {f:FT} {pos:Pos} (h:SndT B n env names e f):SndT B n env names (.UnaryOp .Not e pos) (tNot f):=fun {A s σ X μ ρ H b H'} hr w q=>by
  obtain ⟨c,H1,q1,q⟩:=bnd ((tNot_eq _ _ _).symm.trans q)
  cases q
  exact isTrue_not (nT (h hr w q1) fun va s₁ ν1 w1 r1 t1=>⟨ν1,w1,r1▸rfl,t1⟩)
inductive SndTs (B:Base) (n:Nat) (env:Env) (names:List Str):List Expr→List FT→Prop
  |nil:SndTs B n env names [] []
  |cons {e:Expr} {es:List Expr} {f:FT} {fs:List FT}:SndT B n env names e f→SndTs B n env names es fs→SndTs B n env names (e::es) (f::fs)
noncomputable def SndA (B:Base) (n:Nat) (env:Env) (names:List Str) (op:BoolOp) (es:List Expr) (f:FT):Prop:=
  ∀ ⦃A:Around⦄ ⦃s:Shared⦄ ⦃σ:Option Addr⦄ ⦃X:Addr→Prop⦄ ⦃μ:List Addr⦄ ⦃ρ:Rho⦄ ⦃H:Hp⦄ ⦃b:Bool⦄ ⦃H':Hp⦄,Room n A→Wd B σ X env names ρ μ H s→f ρ H=some (b,H')→wpAny (model B.prog B.w) A (allTrue op es env) (PostT B env names σ X ρ μ s H' b) NoE s
theorem tAnd_eq (f:FT) (fs:List FT) (ρ:Rho) (H:Hp):tAnd (f::fs) ρ H=obd (f ρ H) fun b H1=>if b then tAnd fs ρ H1 else some (false,H1):=by kernel_rfl
theorem tOr_eq (f:FT) (fs:List FT) (ρ:Rho) (H:Hp):tOr (f::fs) ρ H=obd (f ρ H) fun b H1=>if b then some (true,H1) else tOr fs ρ H1:=by kernel_rfl
theorem allTrue_eq (op:BoolOp) (e:Expr) (es:List Expr) (env:Env):allTrue op (e::es) env=(isTrue e env (eval e env)).bind fun t=>match op,t with
    | .And,false=>pure false
    | .Or,true=>pure true
    |_,_=>allTrue op es env:=by kernel_rfl
theorem SndA.step {op:BoolOp} {e:Expr} {es:List Expr} {f g:FT} {fs:FT} (h:SndT B n env names e f) (hs:SndA B n env names op es fs) (d:Bool) (hg:∀ ρ H,g ρ H=obd (f ρ H) fun b H1=>if b=d then some (d,H1) else fs ρ H1)
    (ho:allTrue op (e::es) env=(isTrue e env (eval e env)).bind fun t=>if t=d then pure d else allTrue op es env):SndA B n env names op (e::es) g:=fun {A s σ X μ ρ H b H'} hr w q=>by
  obtain ⟨c,H1,q1,q⟩:=bnd ((hg _ _).symm.trans q)
  rw [ho]
  refine wpAny_bind (nT (h hr w q1) fun va s₁ ν1 w1 r1 t1=>?_)
  subst r1
  by_cases k:va=d
  · rw [if_pos k] at q ⊢;cases q;exact wpAny_pure (PostT.after t1 (PostT.of w1 keeps_refl))
  · rw [if_neg k] at q ⊢;exact noE (hs hr w1 q) fun Z Z p=>PostT.after t1 p
theorem T.and' {es:List Expr} {fs:List FT} (h:SndTs B n env names es fs):SndA B n env names .And es (tAnd fs):=by
  induction h with
  |nil=>exact fun {A s σ X μ ρ H b H'} hr w q=>by cases q;exact wpAny_pure (PostT.of w keeps_refl)
  |cons h _ ih=>exact .step h ih false (fun Z Z=>(tAnd_eq _ _ _ _).trans (congrArg (obd _) (by funext b H1;cases b<;>rfl))) ((allTrue_eq _ _ _ _).trans (congrArg (Sem.bind _) (funext fun t=>by cases t<;>rfl)))
theorem T.or' {es:List Expr} {fs:List FT} (h:SndTs B n env names es fs):SndA B n env names .Or es (tOr fs):=by
  induction h with
  |nil=>exact fun {A s σ X μ ρ H b H'} hr w q=>by cases q;exact wpAny_pure (PostT.of w keeps_refl)
  |cons h _ ih=>exact .step h ih true (fun Z Z=>tOr_eq _ _ _ _) ((allTrue_eq _ _ _ _).trans (congrArg (Sem.bind _) (funext fun t=>by cases t<;>rfl)))
theorem T.and {es:List Expr} {fs:List FT} {pos:Pos} (h:SndTs B n env names es fs):SndT B n env names (.BoolOp .And es pos) (tAnd fs):=fun {A s σ X μ ρ H b H'} hr w q=>by
  exact T.and' h hr w q
theorem T.or {es:List Expr} {fs:List FT} {pos:Pos} (h:SndTs B n env names es fs):SndT B n env names (.BoolOp .Or es pos) (tOr fs):=fun {A s σ X μ ρ H b H'} hr w q=>by
  exact T.or' h hr w q
inductive Chn (g1 g2:Op2) (f1 f2 f3:FE) (ρ:Rho) (H H':Hp) (r:Bool):Prop
  |off (a:V) (H1:Hp) (b:V) (q1:f1 ρ H=some (a,H1)) (q2:f2 ρ H1=some (b,H')) (q3:g1 H' a b=some (.bool false)) (hr:r=false):Chn g1 g2 f1 f2 f3 ρ H H' r
  |on (a:V) (H1:Hp) (b:V) (H2:Hp) (c:V) (q1:f1 ρ H=some (a,H1)) (q2:f2 ρ H1=some (b,H2)) (q3:g1 H2 a b=some (.bool true)) (q4:f3 ρ H2=some (c,H')) (q5:g2 H' b c=some (.bool r)):Chn g1 g2 f1 f2 f3 ρ H H' r
theorem tChain_eq (g1 g2:Op2) (f1 f2 f3:FE) (ρ:Rho) (H:Hp):tChain g1 g2 f1 f2 f3 ρ H=obd (f1 ρ H) fun a H1=>obd (f2 ρ H1) fun b H2=>match g1 H2 a b with
    |some (.bool false)=>some (false,H2)
    |some (.bool true)=>obd (f3 ρ H2) fun c H3=>match g2 H3 b c with
      |some (.bool q)=>some (q,H3)
      |_=>none
    |_=>none:=by kernel_rfl
theorem tChain_some {g1 g2:Op2} {f1 f2 f3:FE} {r:Bool} (q:tChain g1 g2 f1 f2 f3 ρ H=some (r,H')):Chn g1 g2 f1 f2 f3 ρ H H' r:=by
  obtain ⟨a,H1,q1,q⟩:=bnd ((tChain_eq _ _ _ _ _ _ _).symm.trans q)
  obtain ⟨b,H2,q2,q⟩:=bnd q
  cases q3:g1 H2 a b with
  |none=>rw [q3] at q;exact no q
  |some v=>
    rw [q3] at q
    cases v with
    |bool t=>
      cases t with
      |false=>cases q;exact .off _ _ _ q1 q2 q3 rfl
      |true=>
        obtain ⟨c,H3,q4,q⟩:=bnd q
        cases q5:g2 H3 b c with
        |none=>rw [q5] at q;exact no q
        |some v=>
          rw [q5] at q
          cases v with
          |bool t=>cases q;exact .on _ _ _ _ _ q1 q2 q3 q4 q5
          |_=>exact no q
    |_=>exact no q
theorem rel_any {vs keep:List Value} {Q:Unit→Shared→Prop} (h:Q () s):wpAny (model B.prog B.w) A (release vs keep) Q NoE s:=fun Γ p Z=>by rw [Sem.wp_release];exact h
theorem chain1 {pos:Pos} {l:Value} {op:CmpOp} {r:Sem Value} {Q:Bool→Shared→Prop} (h:wpAny (model B.prog B.w) A r (fun v s'=>wpAny (model B.prog B.w) A (compareOp op l v) (fun v s'=>∃ b,v=.bool b∧Q b s') NoE s') NoE s) :
    wpAny (model B.prog B.w) A (testChain pos l [op] [r]) Q NoE s:=
  wpAny_bind (wpAny_holding (noE h fun Z Z h=>wpAny_bind (wpAny_standAt (wpAny_bind (wpAny_operating (noE h fun _ _ ⟨_,e,h⟩=>e▸wpAny_holding (wpAny_truthy_bool h)))))))
theorem chain2 {pos:Pos} {l:Value} {op op2:CmpOp} {r r2:Sem Value} {Q:Bool→Shared→Prop} (h:wpAny (model B.prog B.w) A r (fun v s'=>wpAny (model B.prog B.w) A (compareOp op l v) (fun c s'=>∃ b,c=.bool b∧cond b (wpAny (model B.prog B.w) A (testChain pos v [op2] [r2]) Q NoE s') (Q false s')) NoE s') NoE s) :
    wpAny (model B.prog B.w) A (testChain pos l [op,op2] [r,r2]) Q NoE s:=
  wpAny_bind (wpAny_holding (noE h fun Z Z h=>wpAny_bind (wpAny_standAt (wpAny_bind (wpAny_holding (noE h fun _ _ ⟨b,e,h⟩=>by
    subst e
    refine wpAny_bind (rel_any (wpAny_bind (wpAny_holding (wpAny_truthy_bool ?_))))
    cases b with
    |true=>exact h
    |false=>exact wpAny_pure h))))))
theorem T.chain {e1 e2 e3:Expr} {f1 f2 f3:FE} {op1 op2:CmpOp} {g1 g2:Op2} {pos:Pos} (h1:SndE B n env names e1 f1) (h2:SndE B n env names e2 f2) (h3:SndE B n env names e3 f3) (o1:Snd2 B (compareOp op1) g1) (o2:Snd2 B (compareOp op2) g2) (hn:1≤n)
    (hm:lastMarks [op1,op2] [e2,e3]=false):SndT B n env names (.Compare e1 [op1,op2] [e2,e3] pos) (tChain g1 g2 f1 f2 f3):=fun {A s σ X μ ρ H b H'} hr w q=>by
  cases tChain_some q with
  |off a H1 c q1 q2 q3 hb=>
    subst hb
    refine isTrue_chain (rs:=[]) (ops:=[]) (nE (h1 hr w q1) fun va s₁ ν1 w1 r1 t1=>chain2 (nE (h2 hr w1 q2) fun vb s₂ ν2 w2 r2 t2=>?_)) hm
    exact n2 (o1 (hr.le hn) w2.cr (r1.stp t2 w1.cr w1.bs.tab) r2 q3) fun v s₃ k r=>⟨_,r.inv,PostT.after t1 (PostT.after t2 (PostT.of w2 k))⟩
  |on a H1 c H2 d q1 q2 q3 q4 q5=>
    refine isTrue_chain (rs:=[]) (ops:=[]) (nE (h1 hr w q1) fun va s₁ ν1 w1 r1 t1=>chain2 (nE (h2 hr w1 q2) fun vb s₂ ν2 w2 r2 t2=>?_)) hm
    refine n2 (o1 (hr.le hn) w2.cr (r1.stp t2 w1.cr w1.bs.tab) r2 q3) fun v s₃ k r=>⟨_,r.inv,?_⟩
    have w3:=w2.keeps k
    refine chain1 (nE (h3 hr w3 q4) fun vc s₄ ν3 w4 r3 t3=>?_)
    exact n2 (o2 (hr.le hn) w4.cr ((r2.keeps k).stp t3 w3.cr w3.bs.tab) r3 q5) fun v s₅ k' r'=>⟨_,r'.inv,PostT.after t1 (PostT.after t2 (PostT.after (ν:=[]) (Stp.of_keeps k) (by rw [List.append_nil];exact PostT.after t3 (PostT.of w4 k'))))⟩
theorem ifE_eq (t:FT) (f1 f2:FE) (ρ:Rho) (H:Hp):ifE t f1 f2 ρ H=obd (t ρ H) fun b H1=>if b then f1 ρ H1 else f2 ρ H1:=by kernel_rfl
theorem S.ife {t b o:Expr} {ft:FT} {f1 f2:FE} {pos:Pos} (ht:SndT B n env names t ft) (h1:SndE B n env names b f1) (h2:SndE B n env names o f2):SndE B n env names (.IfExp t b o pos) (ifE ft f1 f2):=fun {A s σ X μ ρ H R H'} hr w q=>by
  obtain ⟨c,H1,q1,q⟩:=bnd ((ifE_eq _ _ _ _ _).symm.trans q)
  refine wpAny_IfExp (nT (ht hr w q1) fun va s₁ ν1 w1 r1 t1=>?_)
  subst r1
  cases va with
  |true=>exact noE (h1 hr w1 q) fun Z Z p=>PostE.after t1 p
  |false=>exact noE (h2 hr w1 q) fun Z Z p=>PostE.after t1 p
inductive SndL (B:Base) (n:Nat) (env:Env) (names:List Str):List Expr→List FE→Prop
  |nil:SndL B n env names [] []
  |cons {e:Expr} {es:List Expr} {f:FE} {fs:List FE}:SndE B n env names e f→(∀ es',starEach (e::es') env=(false,eval e env)::starEach es' env)→SndL B n env names es fs→SndL B n env names (e::es) (f::fs)
theorem boolOp_eq (pos:Pos) (op:BoolOp) (x y:Sem Value) (rest:List (Sem Value)):boolOp pos op (x::y::rest)=x.bind fun v=>(standAt pos).bind fun Z=>(holding [v] (truthy v)).bind fun t=>match op,t with
    | .And,false | .Or,true=>pure v
    |_,_=>boolOp pos op (y::rest):=by kernel_rfl
theorem boolStep {M:Model} {pos:Pos} {op:BoolOp} {x y:Sem Value} {rest:List (Sem Value)} {Q:Value→Shared→Prop} {E:Value→Shared→Prop} (d:Bool)
    (ho:boolOp pos op (x::y::rest)=x.bind fun v=>(standAt pos).bind fun Z=>(holding [v] (truthy v)).bind fun t=>if t=d then pure v else boolOp pos op (y::rest))
    (h:wpAny M A x (fun v s₁=>wpAny M A (truthy v) (fun t s₂=>if t=d then Q v s₂ else wpAny M A (boolOp pos op (y::rest)) Q E s₂) E s₁) E s):wpAny M A (boolOp pos op (x::y::rest)) Q E s:=by
  rw [ho]
  refine wpAny_bind (wpAny_mono h (fun v s₁ h₁=>wpAny_bind (wpAny_standAt (wpAny_bind (wpAny_holding (wpAny_mono h₁ (fun t s₂ h₂=>?_) fun Z Z e=>e))))) fun Z Z e=>e)
  by_cases k:t=d
  · rw [if_pos k] at h₂ ⊢;exact wpAny_pure h₂
  · rw [if_neg k] at h₂ ⊢;exact h₂
theorem boolOr_eq {pos:Pos} {x y:Sem Value} {rest:List (Sem Value)}:boolOp pos .Or (x::y::rest)=x.bind fun v=>(standAt pos).bind fun Z=>(holding [v] (truthy v)).bind fun t=>if t=true then pure v else boolOp pos .Or (y::rest):=
  (boolOp_eq _ _ _ _ _).trans (congrArg (Sem.bind _) (funext fun v=>congrArg (Sem.bind _) (funext fun Z=>congrArg (Sem.bind _) (funext fun t=>by cases t<;>rfl))))
noncomputable def SndBo (B:Base) (n:Nat) (env:Env) (names:List Str) (pos:Pos) (op:BoolOp) (es:List Expr) (f:FE):Prop:=
  ∀ ⦃A:Around⦄ ⦃s:Shared⦄ ⦃σ:Option Addr⦄ ⦃X:Addr→Prop⦄ ⦃μ:List Addr⦄ ⦃ρ:Rho⦄ ⦃H:Hp⦄ ⦃R:V⦄ ⦃H':Hp⦄,Room n A→Wd B σ X env names ρ μ H s→f ρ H=some (R,H')→wpAny (model B.prog B.w) A (boolOp pos op (evalEach es env)) (PostE B env names σ X ρ μ s H' R) NoE s
theorem SndBo.step {pos:Pos} {op:BoolOp} {e1 e2:Expr} {es:List Expr} {f fs g:FE} (h:SndE B n env names e1 f) (hs:SndBo B n env names pos op (e2::es) fs) (d:Bool) (hg:∀ ρ H,g ρ H=obd (f ρ H) fun v H1=>obn (trB H1 v) fun b=>if b=d then some (v,H1) else fs ρ H1)
    (ho:∀ x y rest,boolOp pos op (x::y::rest)=x.bind fun v=>(standAt pos).bind fun Z=>(holding [v] (truthy v)).bind fun t=>if t=d then pure v else boolOp pos op (y::rest)):SndBo B n env names pos op (e1::e2::es) g:=fun {A s σ X μ ρ H R H'} hr w q=>by
  obtain ⟨c,H1,q1,q⟩:=bnd ((hg _ _).symm.trans q)
  obtain ⟨b,q2,q⟩:=bn1 q
  refine boolStep d (ho _ _ _) (nE (h hr w q1) fun va s₁ ν1 w1 r1 t1=>n2 (truthy_of w1.cr r1 q2) fun b' s₂ hb k=>?_)
  subst hb
  by_cases hd:b'=d
  · rw [if_pos hd] at q ⊢;cases q;exact PostE.after t1 (PostE.of w1 k (r1.keeps k))
  · rw [if_neg hd] at q ⊢;exact noE (hs hr (w1.keeps k) q) fun Z Z p=>PostE.after t1 (PostE.after (ν:=[]) (Stp.of_keeps k) (by rw [List.append_nil];exact p))
theorem andF_eq (f g:FE) (fs:List FE) (ρ:Rho) (H:Hp):andF (f::g::fs) ρ H=obd (f ρ H) fun v H1=>obn (trB H1 v) fun b=>if b then andF (g::fs) ρ H1 else some (v,H1):=by kernel_rfl
theorem orF_eq (f g:FE) (fs:List FE) (ρ:Rho) (H:Hp):orF (f::g::fs) ρ H=obd (f ρ H) fun v H1=>obn (trB H1 v) fun b=>if b then some (v,H1) else orF (g::fs) ρ H1:=by kernel_rfl
theorem S.and' {pos:Pos} {es:List Expr} {fs:List FE} (h:SndL B n env names es fs):SndBo B n env names pos .And es (andF fs):=by
  induction h with
  |nil=>exact fun {A s σ X μ ρ H R H'} hr w q=>no q
  |cons h hst hs ih=>
    cases hs with
    |nil=>exact h
    |cons h2 hst2 hs2=>exact .step h ih false (fun Z Z=>(andF_eq _ _ _ _ _).trans (congrArg (obd _) (by funext v H1;exact congrArg (obn _) (by funext b;cases b<;>rfl)))) fun Z Z Z=>(boolOp_eq _ _ _ _ _).trans (congrArg (Sem.bind _) (funext fun v=>congrArg (Sem.bind _) (funext fun Z=>congrArg (Sem.bind _) (funext fun t=>by cases t<;>rfl))))
theorem S.or' {pos:Pos} {es:List Expr} {fs:List FE} (h:SndL B n env names es fs):SndBo B n env names pos .Or es (orF fs):=by
  induction h with
  |nil=>exact fun {A s σ X μ ρ H R H'} hr w q=>no q
  |cons h hst hs ih=>
    cases hs with
    |nil=>exact h
    |cons h2 hst2 hs2=>exact .step h ih true (fun Z Z=>orF_eq _ _ _ _ _) fun Z Z Z=>boolOr_eq
theorem S.and {es:List Expr} {fs:List FE} {pos:Pos} (h:SndL B n env names es fs):SndE B n env names (.BoolOp .And es pos) (andF fs):=fun {A s σ X μ ρ H R H'} hr w q=>by
  exact S.and' h hr w q
theorem S.or {es:List Expr} {fs:List FE} {pos:Pos} (h:SndL B n env names es fs):SndE B n env names (.BoolOp .Or es pos) (orF fs):=fun {A s σ X μ ρ H R H'} hr w q=>by
  exact S.or' h hr w q
noncomputable def PostL (B:Base) (env:Env) (names:List Str) (σ:Option Addr) (X:Addr→Prop) (ρ:Rho) (μ:List Addr) (s:Shared) (H':Hp) (xs:List V):List Value→Shared→Prop:=
  fun vs s'=>∃ ν,Wd B σ X env names ρ (μ++ν) H' s'∧VRs σ X (μ++ν) s'.heap vs xs∧Stp B μ ν s.heap s'.heap
theorem nL {M:Model} {t:Sem (List Value)} {xs:List V} {Q':List Value→Shared→Prop} (h:wpAny M A t (PostL B env names σ X ρ μ s H' xs) NoE s) (k:∀ v s₁ ν,Wd B σ X env names ρ (μ++ν) H' s₁→VRs σ X (μ++ν) s₁.heap v xs→Stp B μ ν s.heap s₁.heap→Q' v s₁):wpAny M A t Q' NoE s:=wpAny_mono h (fun v s₁ h=>h.elim fun ν h=>k v s₁ ν h.1 h.2.1 h.2.2) fun Z Z x=>x
theorem seqF_eq (f:FE) (fs:List FE) (ρ:Rho) (H:Hp):seqF (f::fs) ρ H=obd (f ρ H) fun v H1=>obd (seqF fs ρ H1) fun vs H2=>some (v::vs,H2):=by kernel_rfl
theorem seqF_cons {f:FE} {fs:List FE} {xs:List V} (e:seqF (f::fs) ρ H=some (xs,H')):∃ x H1 ys,f ρ H=some (x,H1)∧seqF fs ρ H1=some (ys,H')∧xs=x::ys:=by
  obtain ⟨x,H1,q1,e⟩:=bnd ((seqF_eq ..).symm.trans e)
  obtain ⟨ys,H2,q2,e⟩:=bnd e
  cases e
  exact ⟨x,H1,ys,q1,q2,rfl⟩
theorem evalL {pos:Pos} {es:List Expr} {fs:List FE} (h:SndL B n env names es fs):∀ {A:Around} {s:Shared} {σ:Option Addr} {X:Addr→Prop} {μ:List Addr} {ρ:Rho} {H:Hp} {xs:List V} {H':Hp},Room n A→Wd B σ X env names ρ μ H s→seqF fs ρ H=some (xs,H')→
    wpAny (model B.prog B.w) A (spliced (backTo pos (starEach es env))) (PostL B env names σ X ρ μ s H' xs) NoE s:=by
  induction h with
  |nil=>
    intro A s σ X μ ρ H xs H' hr w q
    cases q
    exact spliced_nil ⟨[],by rw [List.append_nil];exact w,.nil,.refl⟩
  |@cons e es f fs h hst hs ih=>
    intro A s σ X μ ρ H xs H' hr w q
    obtain ⟨x,H1,ys,q1,q2,rfl⟩:=seqF_cons q
    rw [hst]
    show wpAny _ A (spliced ((false,eval e env)::backTo pos (starEach es env))) _ _ s
    refine spliced_cons (nE (h hr w q1) fun va s₁ ν1 w1 r1 t1=>nL (ih hr w1 q2) fun vs s₂ ν2 w2 r2 t2=>?_)
    exact ⟨ν1++ν2,by rw [← List.append_assoc];exact w2,by rw [← List.append_assoc];exact .cons (r1.stp t2 w1.cr w1.bs.tab) r2,t1.trans t2⟩
noncomputable def tupF (fs:List FE):FE:=fun ρ H=>match seqF fs ρ H with
  |some (xs,H1)=>some (.tup xs,H1)
  |none=>none
noncomputable def lstF (fs:List FE):FE:=fun ρ H=>match seqF fs ρ H with
  |some (xs,H1)=>some (.frz xs,H1)
  |none=>none
noncomputable def newF (fs:List FE):FE:=fun ρ H=>match seqF fs ρ H with
  |some (xs,H1)=>some (.lst H1.length,H1++[xs])
  |none=>none
theorem SndL.length {es:List Expr} {fs:List FE} (h:SndL B n env names es fs):es.length=fs.length:=by
  induction h with
  |nil=>rfl
  |cons _ _ _ ih=>exact congrArg Nat.succ ih
theorem seqF_length:∀ {fs:List FE} {ρ:Rho} {H:Hp} {xs:List V} {H':Hp},seqF fs ρ H=some (xs,H')→xs.length=fs.length
  |[],_,_,_,_,q=>by simp [seqF] at q;simp [← q.1]
  |f::fs,_,_,_,_,q=>by
    obtain ⟨x,H1,ys,q1,q2,rfl⟩:=seqF_cons q
    simp [seqF_length q2]
theorem small_size {vs:List Value} {xs:List V} {h:Heap} (r:VRs σ X μ h vs xs) (hs:xs.length≤64):vs.length≤sizeLine:=by rw [r.length,← sz_eq];simp only [SZ];omega
theorem tupF_eq (fs:List FE) (ρ:Rho) (H:Hp):tupF fs ρ H=obd (seqF fs ρ H) fun xs H1=>some (.tup xs,H1):=by kernel_rfl
theorem lstF_eq (fs:List FE) (ρ:Rho) (H:Hp):lstF fs ρ H=obd (seqF fs ρ H) fun xs H1=>some (.frz xs,H1):=by kernel_rfl
theorem newF_eq (fs:List FE) (ρ:Rho) (H:Hp):newF fs ρ H=obd (seqF fs ρ H) fun xs H1=>some (.lst H1.length,H1++[xs]):=by kernel_rfl
theorem S.tuple {es:List Expr} {fs:List FE} {k:Nat} {pos:Pos} (h:SndL B n env names es fs) (hlen:fs.length≤64):SndE B n env names (.Tuple es k pos) (tupF fs):=fun {A s σ X μ ρ H R H'} hr w q=>by
  obtain ⟨xs,H1,q1,q⟩:=bnd ((tupF_eq ..).symm.trans q)
  cases q
  refine Tuple_ (nL (evalL h hr w q1) fun vs s₁ ν1 w1 r1 t1=>?_)
  refine wpAny_newTuple ?_ (small_size r1 (by rw [seqF_length q1];exact hlen))
  refine PostE.after t1 (PostE.of w1 (keeps_push _) (.tup ⟨_,Heap.get?_push_size _ rfl,rfl,_,rfl⟩ (r1.mv (Mv.keeps fun Z Z e=>Heap.get?_push_of_some _ e))))
theorem S.list {es:List Expr} {fs:List FE} {pos:Pos} (h:SndL B n env names es fs) (hlen:fs.length≤64):SndE B n env names (.List es pos) (lstF fs):=fun {A s σ X μ ρ H R H'} hr w q=>by
  obtain ⟨xs,H1,q1,q⟩:=bnd ((lstF_eq ..).symm.trans q)
  cases q
  refine List_ (nL (evalL h hr w q1) fun vs s₁ ν1 w1 r1 t1=>?_)
  refine wpAny_newList ?_ (small_size r1 (by rw [seqF_length q1];exact hlen))
  exact PostE.after t1 (PostE.of w1 (keeps_push _) (frz_new w1.cr r1 (none_size _) (fun Z Z e=>Heap.get?_push_of_some _ e) ⟨_,Heap.get?_push_size _ rfl,rfl,_,rfl⟩))
theorem cr_push (c:CR σ X μ s.heap H) {a:Addr} {h':Heap} {vs:List Value} {xs:List V} (hn:s.heap.get? a=none) (k:∀ b o,s.heap.get? b=some o→h'.get? b=some o) (p:PlnA h' a vs) (r:VRs σ X μ s.heap vs xs):CR σ X (μ++[a]) h' (H++[xs]):=by
  have mv:Mv X X μ (μ++[a]) s.heap h':=⟨fun b o e Z=>k b o e,fun i x e=>by rw [List.getElem?_append_left];exact e;exact (List.getElem?_eq_some_iff.mp e).1,
    fun b o e h1 h2=>⟨h1,fun hm=>by rcases List.mem_append.mp hm with hm | hm;exact h2 hm;simp at hm;subst hm;rw [hn] at e;cases e⟩⟩
  have off:=fresh_off c hn
  refine ⟨by simp [c.len],fun i b l e1 e2=>?_,?_,fun b hb=>let ⟨its,q⟩:=c.xl b hb;⟨its,isList_keeps q k⟩,fun b hb=>?_,fun b e=>k _ _ (c.st b e)⟩
  · by_cases hi:i < μ.length
    · rw [List.getElem?_append_left hi] at e1
      rw [List.getElem?_append_left (by rw [← c.len];exact hi)] at e2
      obtain ⟨ws,q,rs⟩:=c.cell i b l e1 e2
      exact ⟨ws,plainList_keeps q k,rs.mv mv⟩
    · have hi':i=μ.length:=by
        have:=(List.getElem?_eq_some_iff.mp e1).1
        simp at this;omega
      subst hi'
      rw [List.getElem?_append_right (Nat.le_refl _)] at e1
      rw [c.len,List.getElem?_append_right (Nat.le_refl _)] at e2
      simp at e1 e2
      subst e1 e2
      exact ⟨vs,p,r.mv mv⟩
  · rw [List.nodup_append]
    exact ⟨c.nd,by simp,fun x hx y hy=>by simp at hy;subst hy;rintro rfl;exact off.2 hx⟩
  · rcases List.mem_append.mp hb with hb | hb
    · exact c.xd b hb
    · simp at hb;subst hb;exact off.1
theorem er_mv {h':Heap} {μ':List Addr} (c:ER env names ρ σ X μ s.heap) (k:∀ b o,s.heap.get? b=some o→h'.get? b=some o) (m:Mv X X μ μ' s.heap h'):ER env names ρ σ X μ' h':=by
  refine ⟨c.kind,c.glob,c.bltn,?_,?_,c.apart,fun x cc hx=>let ⟨ov,q⟩:=c.cs x cc hx;⟨ov,q.keeps k⟩⟩
  · obtain ⟨m',a,b⟩:=c.ns
    exact ⟨m',a.keeps k,fun i x V e1 e2 e3=>let ⟨v,p,q⟩:=b i x V e1 e2 e3;⟨v,p,q.mv m⟩⟩
  · intro i x e1 e2
    obtain ⟨cc,ov,p,q,r⟩:=c.cells i x e1 e2
    exact ⟨cc,ov,p,q.keeps k,fun V e=>let ⟨v,y,z⟩:=r V e;⟨v,y,z.mv m⟩⟩
theorem base_none (b:Bs B s) {a:Addr} (e:s.heap.get? a=none):B.h1.get? a=none:=by
  cases q:B.h1.get? a with
  |none=>rfl
  |some o=>
    by_cases h:a=B.P
    · subst h;obtain ⟨ps,t,_⟩:=b.tab;rw [e] at t;cases t
    · rw [b.keep a o q h] at e;cases e
theorem PostE.cell {a:Addr} {h':Heap} {tk:Nat} {vs:List Value} {xs:List V} (w:Wd B σ X env names ρ μ H s) (hn:s.heap.get? a=none) (k:∀ b o,s.heap.get? b=some o→h'.get? b=some o) (p:PlnA h' a vs) (r:VRs σ X μ s.heap vs xs) :
    PostE B env names σ X ρ μ s (H++[xs]) (.lst H.length) (.ref a) { s with heap:=h',toks:=tk }:=by
  have mv:Mv X X μ (μ++[a]) s.heap h':=⟨fun b o e Z=>k b o e,fun i x e=>by rw [List.getElem?_append_left];exact e;exact (List.getElem?_eq_some_iff.mp e).1,
    fun b o e h1 h2=>⟨h1,fun hm=>by rcases List.mem_append.mp hm with hm | hm;exact h2 hm;simp at hm;subst hm;rw [hn] at e;cases e⟩⟩
  refine ⟨[a],⟨w.bs.keeps (keeps_of k),cr_push w.cr hn k p r,er_mv w.er k mv,w.ow.l,w.ow.c,fun b hb=>(List.mem_append.mp hb).elim (w.ow.m b) fun hb=>by simp at hb;subst hb;exact base_none w.bs hn⟩,.lst (by rw [← w.cr.len];simp),⟨⟨fun Z Z e Z Z=>k _ _ e,fun Z o e=>⟨o,k _ _ e⟩⟩,fun b hb=>by simp at hb;subst hb;exact hn⟩⟩
theorem S.new {es:List Expr} {fs:List FE} {pos:Pos} (h:SndL B n env names es fs) (hlen:fs.length≤64):SndE B n env names (.List es pos) (newF fs):=fun {A s σ X μ ρ H R H'} hr w q=>by
  obtain ⟨xs,H1,q1,q⟩:=bnd ((newF_eq ..).symm.trans q)
  cases q
  refine List_ (nL (evalL h hr w q1) fun vs s₁ ν1 w1 r1 t1=>?_)
  refine wpAny_newList ?_ (small_size r1 (by rw [seqF_length q1];exact hlen))
  exact PostE.after t1 (PostE.cell w1 (none_size _) (fun Z Z e=>Heap.get?_push_of_some _ e) ⟨_,Heap.get?_push_size _ rfl⟩ r1)
end
end
inductive Fl where
  |nx | br | ct
  |rt (v:V)
noncomputable abbrev FS:=Rho→Hp→Option (Fl×Rho×Hp)
inductive FlR (σ:Option Addr) (X:Addr→Prop) (μ:List Addr) (h:Heap):Flow→Fl→Prop
  |nx:FlR σ X μ h .next .nx
  |br:FlR σ X μ h .brk .br
  |ct:FlR σ X μ h .cont .ct
  |rt {v:Value} {x:V}:VR σ X μ h v x→FlR σ X μ h (.ret v) (.rt x)
noncomputable def DE (env:Env) (μ:List Addr) (a:Addr):Prop:=a ∈ μ∨a=env.locals∨∃ y,env.cells.lookup y=some a
structure StpS (B:Base) (env:Env) (μ ν:List Addr) (h h':Heap):Prop where
  kp:Kp B (DE env μ) h h'
  fr:∀ a ∈ ν,h.get? a=none
section
variable {B:Base} {n:Nat} {env:Env} {names:List Str} {A:Around} {s s' s'':Shared} {σ:Option Addr} {X:Addr→Prop} {μ ν:List Addr} {ρ ρ':Rho} {H H' H'':Hp}
theorem TabOk.ne {h:Heap} (t:TabOk B h) {b:Addr} {o:Obj} (e:h.get? b=some o) (q:o.cls ≠ .none∨∀ vs,o.data ≠ .fields vs):b ≠ B.P:=by
  obtain ⟨ps,hP,_⟩:=t
  rintro rfl
  rw [e] at hP;cases hP
  rcases q with q | q
  · exact q rfl
  · exact q _ rfl
theorem Stp.S {h h':Heap} (a:Stp B μ ν h h'):StpS B env μ ν h h':=⟨⟨fun b o e q p=>a.kp.keep b o e (fun hm=>q (.inl hm)) p,a.kp.dom⟩,a.fr⟩
theorem StpS.refl {h:Heap}:StpS B env μ [] h h:=⟨.refl,fun Z h=>(nomatch h)⟩
theorem StpS.trans {ν':List Addr} {h h' h'':Heap} (a:StpS B env μ ν h h') (b:StpS B env (μ++ν) ν' h' h''):StpS B env μ (ν++ν') h h'':=by
  refine ⟨⟨fun x o e q p=>b.kp.keep x o (a.kp.keep x o e q p) ?_ p,fun x o e=>let ⟨o',e'⟩:=a.kp.dom x o e;b.kp.dom x o' e'⟩,fun x hx=>?_⟩
  · rintro (hm | hm)
    · rcases List.mem_append.mp hm with hm | hm
      · exact q (.inl hm)
      · rw [a.fr x hm] at e;cases e
    · exact q (.inr hm)
  · rcases List.mem_append.mp hx with hx | hx
    · exact a.fr x hx
    · cases q:h.get? x with
      |none=>rfl
      |some o=>
        obtain ⟨o',e'⟩:=a.kp.dom x o q
        rw [b.fr x hx] at e';cases e'
theorem Wd.notVal (w:Wd B σ X env names ρ μ H s) {b:Addr} {o:Obj} (e:s.heap.get? b=some o) (v:Val X μ b o):¬ DE env μ b∧b ≠ B.P:=by
  constructor
  · rintro (hm | rfl | ⟨x,hx⟩)
    · obtain ⟨i,hi⟩:=List.getElem?_of_mem hm
      have hlt:i < H.length:=by rw [← w.cr.len];exact (List.getElem?_eq_some_iff.mp hi).1
      obtain ⟨vs,⟨n,q⟩,_⟩:=w.cr.cell i b _ hi (List.getElem?_eq_getElem hlt)
      rw [e] at q;cases q
      rcases v with ⟨v,_⟩ | ⟨_,_,_,v⟩ | v
      · simp at v
      · exact v hm
      · simp at v
    · obtain ⟨m,⟨o',es,ep,q,d,_⟩,_⟩:=w.er.ns
      rw [e] at q;cases q
      rcases v with ⟨_,xs,k,v⟩ | ⟨_,⟨xs,k,v⟩,_⟩ | v
      · rw [d] at v;cases v
      · rw [d] at v;cases v
      · obtain ⟨_,vs,v⟩:=v;rw [d] at v;cases v
    · obtain ⟨ov,o',q,d⟩:=w.er.cs x _ hx
      rw [e] at q;cases q
      rcases v with ⟨_,xs,k,v⟩ | ⟨_,⟨xs,k,v⟩,_⟩ | v
      · rw [d] at v;cases v
      · rw [d] at v;cases v
      · obtain ⟨_,vs,v⟩:=v;rw [d] at v;cases v
  · rintro rfl
    obtain ⟨ps,hP,_⟩:=w.bs.tab
    rw [e] at hP;cases hP
    rcases v with ⟨v,_⟩ | ⟨v,_⟩ | v<;>simp at v
noncomputable def Odd (d:Data):Prop:=(∃ es ep,d=.dict es ep)∨∃ ov,d=.cell ov
theorem mv_off {h h':Heap} {a:Addr} {oa:Obj} (ha:h.get? a=some oa) (od:Odd oa.data) (k:∀ b o,b ≠ a→h.get? b=some o→h'.get? b=some o):Mv X X μ μ h h':=by
  refine ⟨fun b o e v=>k b o ?_ e,fun Z Z e=>e,fun Z Z Z a b=>⟨a,b⟩⟩
  rintro rfl
  rw [e] at ha;cases ha
  rcases v with ⟨_,xs,i,v⟩ | ⟨_,⟨xs,i,v⟩,_⟩ | ⟨_,vs,v⟩<;>rcases od with ⟨_,_,od⟩ | ⟨_,od⟩<;>rw [v] at od<;>cases od
theorem TabOk.off {h h':Heap} {a:Addr} {oa:Obj} (t:TabOk B h) (ha:h.get? a=some oa) (od:Odd oa.data) (k:∀ b o,b ≠ a→h.get? b=some o→h'.get? b=some o):TabOk B h':=by
  obtain ⟨ps,e,t1,t2⟩:=t
  refine ⟨ps,k _ _ ?_ e,t1,fun pos c' q=>?_⟩
  · rintro rfl
    rw [e] at ha;cases ha
    rcases od with ⟨_,_,od⟩ | ⟨_,od⟩<;>cases od
  · obtain ⟨y,c,o,vs,t,e1,e2,e3,e4⟩:=t2 pos c' q
    refine ⟨y,c,o,vs,t,e1,k _ _ ?_ e2,e3,e4⟩
    rintro rfl
    rw [e2] at ha;cases ha
    rcases od with ⟨_,_,od⟩ | ⟨_,od⟩<;>rw [e3] at od<;>cases od
theorem CR.off {h h':Heap} {a:Addr} {oa:Obj} (c:CR σ X μ h H) (ha:h.get? a=some oa) (od:Odd oa.data) (k:∀ b o,b ≠ a→h.get? b=some o→h'.get? b=some o):CR σ X μ h' H:=by
  have m:Mv X X μ μ h h':=mv_off ha od k
  refine ⟨c.len,fun i b l e1 e2=>?_,c.nd,fun b hb=>?_,c.xd,fun b e=>k _ _ ?_ (c.st b e)⟩
  · obtain ⟨vs,⟨n,p⟩,r⟩:=c.cell i b l e1 e2
    refine ⟨vs,⟨n,k _ _ ?_ p⟩,r.mv m⟩
    rintro rfl
    rw [p] at ha;cases ha
    rcases od with ⟨_,_,od⟩ | ⟨_,od⟩<;>cases od
  · obtain ⟨its,o,p,q1,n,q⟩:=c.xl b hb
    refine ⟨its,o,k _ _ ?_ p,q1,n,q⟩
    rintro rfl
    rw [p] at ha;cases ha
    rcases od with ⟨_,_,od⟩ | ⟨_,od⟩<;>rw [q] at od<;>cases od
  · rintro rfl
    rw [c.st _ e] at ha;cases ha
    rcases od with ⟨_,_,od⟩ | ⟨_,od⟩<;>cases od
theorem Bs.off {a:Addr} {oa:Obj} {h':Heap} {tk:Nat} (b:Bs B s) (hb:B.h1.get? a=none) (ha:s.heap.get? a=some oa) (od:Odd oa.data) (k:∀ b o,b ≠ a→s.heap.get? b=some o→h'.get? b=some o):Bs B { s with heap:=h',toks:=tk }:=
  ⟨fun x o e q=>k _ _ (by rintro rfl;rw [hb] at e;cases e) (b.keep x o e q),b.tab.off ha od k,b.gens,b.os⟩
theorem VR.off {h h':Heap} {v:Value} {x:V} {a:Addr} {oa:Obj} (r:VR σ X μ h v x) (ha:h.get? a=some oa) (od:Odd oa.data) (k:∀ b o,b ≠ a→h.get? b=some o→h'.get? b=some o):VR σ X μ h' v x:=r.mv (mv_off ha od k)
theorem stpS_of {a:Addr} {h h':Heap} (hd:a=env.locals∨∃ y,env.cells.lookup y=some a) (sb:Heap.SameBut a h h') (he:∃ o',h'.get? a=some o'):StpS B env μ [] h h':=
  ⟨⟨fun b o e q Z=>(sb.2 b (by rintro rfl;exact q (.inr hd))).trans e,fun b o e=>by
    by_cases hb:b=a
    · subst hb;exact he
    · exact ⟨o,(sb.2 b hb).trans e⟩⟩,fun Z h=>(nomatch h)⟩
theorem lookup_mem {α β:Type} [BEq α] [LawfulBEq α] {l:List (α×β)} {a:α} {b:β} (h:l.lookup a=some b):(a,b) ∈ l:=by
  induction l with
  |nil=>cases h
  |cons p l ih=>
    obtain ⟨c,d⟩:=p
    simp only [List.lookup] at h
    split at h
    · rename_i q;simp at q;cases h;subst q;exact .head _
    · exact .tail _ (ih h)
theorem pairwise_eq {α β:Type} {l:List (α×β)} {x y:α×β} (p:l.Pairwise fun x y=>x.2 ≠ y.2) (hx:x ∈ l) (hy:y ∈ l) (e:x.2=y.2):x=y:=by
  induction p with
  |nil=>cases hx
  |cons h _ ih=>
    rcases List.mem_cons.mp hx with hx | hx<;>rcases List.mem_cons.mp hy with hy | hy
    · rw [hx,hy]
    · rw [hx] at e;exact absurd e (h _ hy)
    · rw [hy] at e;exact absurd e.symm (h _ hx)
    · exact ih hx hy
theorem store (w:Wd B σ X env names ρ μ H s) {x:Str} {i:Nat} {k:NameKind} {v:Value} {y:V} (hi:names[i]?=some x) (hu:∀ j,names[j]?=some x→j=i) (hk:env.kindOf x=some k) (hk2:k=.local∨k=.cell) (r:VR σ X μ s.heap v y) :
    wpAny (model B.prog B.w) A (storeName env x v) (fun Z s'=>Wd B σ X env names (ρ.set i (some y)) μ H s'∧VR σ X μ s'.heap v y∧StpS B env μ [] s.heap s'.heap∧(k=.local→∀ b o,b ≠ env.locals→s.heap.get? b=some o→s'.heap.get? b=some o)) NoE s:=by
  have look:∀ (j:Nat) (z:Str) (Y:V),names[j]?=some z→(ρ.set i (some y))[j]?=some (some Y)→(z=x∧Y=y)∨(z ≠ x∧ρ[j]?=some (some Y)):=by
    intro j z Y e1 e2
    by_cases hz:z=x
    · subst hz
      have:=hu j e1;subst this
      rw [List.getElem?_set] at e2
      simp at e2
      exact .inl ⟨rfl,e2.2.symm⟩
    · refine .inr ⟨hz,?_⟩
      rw [List.getElem?_set_ne] at e2
      · exact e2
      · rintro rfl;rw [hi] at e1;cases e1;exact hz rfl
  rcases hk2 with rfl | rfl
  · obtain ⟨m,hn,hm⟩:=w.er.ns
    obtain ⟨o,es,ep,ho,hd,_⟩:=id hn
    refine wpAny_storeName_local hk hn (fun h' hn' sb=>?_) (by rw [w.er.kind];rfl)
    have k:=fun b o (hb:b ≠ env.locals) (e:s.heap.get? b=some o)=>(sb.2 b hb).trans e
    have od:Odd o.data:=.inl ⟨_,_,hd⟩
    have mv:Mv X X μ μ s.heap h':=mv_off ho od k
    refine ⟨⟨w.bs.off w.ow.l ho od k,w.cr.off ho od k,⟨w.er.kind,w.er.glob,w.er.bltn,⟨_,hn',fun j z Y e1 e2 e3=>?_⟩,fun j z e1 e2=>?_,w.er.apart,fun x xc hx=>?_⟩,w.ow⟩,r.mv mv,stpS_of (.inl rfl) sb (let ⟨o,_,_,q,_⟩:=hn';⟨o,q⟩),fun Z=>k⟩
    · rcases look j z Y e1 e3 with ⟨rfl,rfl⟩ | ⟨hz,e3⟩
      · exact ⟨v,by simp,r.mv mv⟩
      · obtain ⟨u,p,q⟩:=hm j z Y e1 e2 e3
        exact ⟨u,by simp [hz,p],q.mv mv⟩
    · obtain ⟨c,ov,p,q,t⟩:=w.er.cells j z e1 e2
      refine ⟨c,ov,p,q.sameBut sb ?_,fun Y e3=>?_⟩
      · rintro rfl
        obtain ⟨o',q,d⟩:=q
        rw [ho] at q;cases q;rw [hd] at d;cases d
      · rcases look j z Y e1 e3 with ⟨rfl,rfl⟩ | ⟨hz,e3⟩
        · rw [hk] at e2;simp at e2
        · obtain ⟨u,p,q⟩:=t Y e3
          exact ⟨u,p,q.mv mv⟩
    · obtain ⟨ov,o',q,d⟩:=w.er.cs x _ hx
      refine ⟨ov,o',k _ _ ?_ q,d⟩
      rintro rfl;rw [ho] at q;cases q;rw [hd] at d;cases d
  · obtain ⟨c,ov,p,q,t⟩:=w.er.cells i x hi (.inl hk)
    obtain ⟨o,ho,hd⟩:=id q
    refine wpAny_storeName_cell w.er.kind hk p q (fun h' hc sb=>?_)
    have k:=fun b o (hb:b ≠ c) (e:s.heap.get? b=some o)=>(sb.2 b hb).trans e
    have od:Odd o.data:=.inr ⟨_,hd⟩
    have mv:Mv X X μ μ s.heap h':=mv_off ho od k
    have hcm:=lookup_mem p
    refine ⟨⟨w.bs.off (w.ow.c _ _ p) ho od k,w.cr.off ho od k,⟨w.er.kind,w.er.glob,w.er.bltn,?_,fun j z e1 e2=>?_,w.er.apart,fun z zc hz=>?_⟩,w.ow⟩,r.mv mv,stpS_of (.inr ⟨_,p⟩) sb (let ⟨o,q,_⟩:=hc;⟨o,q⟩),fun h=>by cases h⟩
    · obtain ⟨m,hn,hm⟩:=w.er.ns
      refine ⟨m,hn.sameBut sb ?_,fun j z Y e1 e2 e3=>?_⟩
      · obtain ⟨o',es,ep,ho',hd',_⟩:=hn
        intro hx;rw [hx,ho] at ho';cases ho';rw [hd] at hd';cases hd'
      · rcases look j z Y e1 e3 with ⟨rfl,rfl⟩ | ⟨hz,e3⟩
        · rw [hk] at e2;simp at e2
        · obtain ⟨u,p,q⟩:=hm j z Y e1 e2 e3
          exact ⟨u,p,q.mv mv⟩
    · by_cases hz:z=x
      · subst hz
        refine ⟨c,some v,p,hc,fun Y e3=>?_⟩
        rcases look j z Y e1 e3 with ⟨_,rfl⟩ | ⟨hz,e3⟩
        · exact ⟨v,rfl,r.mv mv⟩
        · exact absurd rfl hz
      · obtain ⟨c',ov',p',q',t'⟩:=w.er.cells j z e1 e2
        refine ⟨c',ov',p',q'.sameBut sb ?_,fun Y e3=>?_⟩
        · rintro rfl
          have:=pairwise_eq w.er.apart (lookup_mem p') hcm rfl
          cases this;exact hz rfl
        · rcases look j z Y e1 e3 with ⟨rfl,rfl⟩ | ⟨_,e3⟩
          · exact absurd rfl hz
          · obtain ⟨u,p,q⟩:=t' Y e3
            exact ⟨u,p,q.mv mv⟩
    · by_cases hzc:zc=c
      · rw [hzc];exact ⟨_,hc⟩
      · obtain ⟨ov',q'⟩:=w.er.cs z zc hz
        exact ⟨ov',q'.sameBut sb hzc⟩
end
noncomputable def PostS (B:Base) (env:Env) (names:List Str) (σ:Option Addr) (X:Addr→Prop) (μ:List Addr) (h:Heap) (F:Fl) (ρ':Rho) (H':Hp):Flow→Shared→Prop:=
  fun f s'=>∃ ν,Wd B σ X env names ρ' (μ++ν) H' s'∧FlR σ X (μ++ν) s'.heap f F∧StpS B env μ ν h s'.heap
theorem nS {B:Base} {env:Env} {names:List Str} {σ:Option Addr} {X:Addr→Prop} {μ:List Addr} {hh:Heap} {F:Fl} {ρ':Rho} {H':Hp} {A:Around} {s:Shared} {M:Model} {t:Sem Flow} {Q':Flow→Shared→Prop} (h:wpAny M A t (PostS B env names σ X μ hh F ρ' H') NoE s) (k:∀ v s₁ ν,Wd B σ X env names ρ' (μ++ν) H' s₁→FlR σ X (μ++ν) s₁.heap v F→StpS B env μ ν hh s₁.heap→Q' v s₁):wpAny M A t Q' NoE s:=wpAny_mono h (fun v s₁ h=>h.elim fun ν h=>k v s₁ ν h.1 h.2.1 h.2.2) fun Z Z x=>x
noncomputable def SndS (B:Base) (n:Nat) (env:Env) (names:List Str) (st:Stmt) (f:FS):Prop:=
  ∀ ⦃A:Around⦄ ⦃s:Shared⦄ ⦃σ:Option Addr⦄ ⦃X:Addr→Prop⦄ ⦃μ:List Addr⦄ ⦃ρ:Rho⦄ ⦃H:Hp⦄ ⦃F:Fl⦄ ⦃ρ':Rho⦄ ⦃H':Hp⦄,Room n A→Wd B σ X env names ρ μ H s→f ρ H=some (F,ρ',H')→
    wpAny (model B.prog B.w) A (exec st env) (PostS B env names σ X μ s.heap F ρ' H') NoE s
noncomputable def SndB (B:Base) (n:Nat) (env:Env) (names:List Str) (ss:List Stmt) (f:FS):Prop:=
  ∀ ⦃A:Around⦄ ⦃s:Shared⦄ ⦃σ:Option Addr⦄ ⦃X:Addr→Prop⦄ ⦃μ:List Addr⦄ ⦃ρ:Rho⦄ ⦃H:Hp⦄ ⦃F:Fl⦄ ⦃ρ':Rho⦄ ⦃H':Hp⦄,Room n A→Wd B σ X env names ρ μ H s→f ρ H=some (F,ρ',H')→
    wpAny (model B.prog B.w) A (execs ss env) (PostS B env names σ X μ s.heap F ρ' H') NoE s
noncomputable def nopS:FS:=fun ρ H=>some (.nx,ρ,H)
noncomputable def brkS:FS:=fun ρ H=>some (.br,ρ,H)
noncomputable def cntS:FS:=fun ρ H=>some (.ct,ρ,H)
noncomputable def seqS (f g:FS):FS:=fun ρ H=>match f ρ H with
  |some (fl,ρ1,H1)=>(match fl with
    | .nx=>g ρ1 H1
    | .br=>some (.br,ρ1,H1)
    | .ct=>some (.ct,ρ1,H1)
    | .rt v=>some (.rt v,ρ1,H1))
  |none=>none
noncomputable def setS (i:Nat) (f:FE):FS:=fun ρ H=>match f ρ H with
  |some (v,H1)=>some (.nx,ρ.set i (some v),H1)
  |none=>none
noncomputable def retS (f:FE):FS:=fun ρ H=>match f ρ H with
  |some (v,H1)=>some (.rt v,ρ,H1)
  |none=>none
noncomputable def expS (f:FE):FS:=fun ρ H=>match f ρ H with
  |some (_,H1)=>some (.nx,ρ,H1)
  |none=>none
noncomputable def asrS (t:FT):FS:=fun ρ H=>match t ρ H with
  |some (true,H1)=>some (.nx,ρ,H1)
  |_=>none
noncomputable def ifS (t:FT) (a b:FS):FS:=fun ρ H=>match t ρ H with
  |some (true,H1)=>a ρ H1
  |some (false,H1)=>b ρ H1
  |none=>none
noncomputable def augS (i:Nat) (g:Op2) (f:FE):FS:=fun ρ H=>match ρ[i]? with
  |some (some a)=>(match f ρ H with
    |some (b,H1)=>(match g H1 a b with
      |some r=>some (.nx,ρ.set i (some r),H1)
      |none=>none)
    |none=>none)
  |_=>none
noncomputable def turnS (o:Option (Fl×Rho×Hp)) (k:FS):Option (Fl×Rho×Hp):=match o with
  |some (.nx,ρ2,H2)=>k ρ2 H2
  |some (.ct,ρ2,H2)=>k ρ2 H2
  |some (.br,ρ2,H2)=>some (.nx,ρ2,H2)
  |some (.rt v,ρ2,H2)=>some (.rt v,ρ2,H2)
  |none=>none
noncomputable def whileS (t:FT) (b:FS):Nat→FS
  |0=>fun Z Z=>none
  |k+1=>fun ρ H=>match t ρ H with
    |some (true,H1)=>(match b ρ H1 with
      |some (.nx,ρ2,H2)=>whileS t b k ρ2 H2
      |some (.ct,ρ2,H2)=>whileS t b k ρ2 H2
      |some (.br,ρ2,H2)=>some (.nx,ρ2,H2)
      |some (.rt v,ρ2,H2)=>some (.rt v,ρ2,H2)
      |none=>none)
    |some (false,H1)=>some (.nx,ρ,H1)
    |none=>none
section
variable {B:Base} {n:Nat} {env:Env} {names:List Str} {A:Around} {s s' s'':Shared} {σ:Option Addr} {X:Addr→Prop} {μ ν:List Addr} {ρ ρ':Rho} {H H' H'':Hp} {F:Fl}
theorem PostS.after {h:Heap} {f:Flow} (a:StpS B env μ ν h s'.heap) (p:PostS B env names σ X (μ++ν) s'.heap F ρ' H' f s''):PostS B env names σ X μ h F ρ' H' f s'':=by
  obtain ⟨ν',w,r,q⟩:=p
  exact ⟨ν++ν',by rw [← List.append_assoc];exact w,by rw [← List.append_assoc];exact r,a.trans q⟩
theorem PostS.after0 {h:Heap} {f:Flow} (a:StpS B env μ [] h s'.heap) (p:PostS B env names σ X μ s'.heap F ρ' H' f s''):PostS B env names σ X μ h F ρ' H' f s'':=
  PostS.after a (by rw [List.append_nil];exact p)
theorem PostS.of {f:Flow} (w:Wd B σ X env names ρ μ H s) (r:FlR σ X μ s.heap f F):PostS B env names σ X μ s.heap F ρ H f s:=
  ⟨[],by rw [List.append_nil];exact w,by rw [List.append_nil];exact r,.refl⟩
theorem bnil:SndB B n env names [] nopS:=fun Z Z Z Z Z Z Z Z Z Z hr w e=>by
  cases e;exact wpAny_execs_nil (PostS.of w .nx)
theorem FlR.next {h:Heap} {f:Flow} (r:FlR σ X μ h f .nx):f=.next:=by cases r;rfl
theorem FlR.out {h:Heap} {f:Flow} {P:Prop} {Q:Flow→Shared→Prop} (r:FlR σ X μ h f F) (hF:F ≠ .nx) (q:Q f s):(match (motive:=Flow→Prop) f with | .next=>P | f=>Q f s):=by
  cases r with
  |nx=>exact absurd rfl hF
  |_=>exact q
inductive SeqI (f g:FS) (ρ:Rho) (H:Hp) (F:Fl) (ρ':Rho) (H':Hp):Prop
  |nx (ρ1:Rho) (H1:Hp) (q:f ρ H=some (.nx,ρ1,H1)) (e:g ρ1 H1=some (F,ρ',H')):SeqI f g ρ H F ρ' H'
  |out (q:f ρ H=some (F,ρ',H')) (hF:F ≠ .nx):SeqI f g ρ H F ρ' H'
theorem seqS_some {f g:FS} (e:seqS f g ρ H=some (F,ρ',H')):SeqI f g ρ H F ρ' H':=by
  unfold seqS at e
  cases q:f ρ H with
  |none=>rw [q] at e;exact no e
  |some p=>
    obtain ⟨G,ρ1,H1⟩:=p
    rw [q] at e
    cases G with
    |nx=>exact .nx ρ1 H1 q e
    |_=>cases e;exact .out q (fun h=>nomatch h)
theorem bcons {st:Stmt} {ss:List Stmt} {f g:FS} (h:SndS B n env names st f) (hs:SndB B n env names ss g):SndB B n env names (st::ss) (seqS f g):=fun {A s σ X μ ρ H F ρ' H'} hr w e=>by
  refine wpAny_execs_cons ?_
  cases seqS_some e with
  |nx ρ1 H1 q e=>
    refine nS (h hr w q) fun fl s₁ ν w1 r1 t1=>?_
    rw [r1.next]
    exact noE (hs hr w1 e) fun Z Z p=>PostS.after t1 p
  |out q hF=>exact noE (h hr w q) fun fl s₁ p=>let ⟨_,_,r1,_⟩:=p;r1.out hF p
theorem FlR.one {h:Heap} {f:Flow} {M:Model} {Q:Flow→Shared→Prop} {E:Value→Shared→Prop} (r:FlR σ X μ h f F) (q:Q f s):(match (motive:=Flow→Prop) f with | .next=>wpAny M A (execs [] env) Q E s | f=>Q f s):=by
  cases r with
  |nx=>exact wpAny_execs_nil q
  |_=>exact q
theorem bone {st:Stmt} {f:FS} (h:SndS B n env names st f):SndB B n env names [st] f:=fun {A s σ X μ ρ H F ρ' H'} hr w e=>by
  exact wpAny_execs_cons (noE (h hr w e) fun fl s₁ p=>let ⟨_,_,r1,_⟩:=p;r1.one p)
theorem R.brk {pos:Pos}:SndS B n env names (.Break pos) brkS:=fun Z Z Z Z Z Z Z Z Z Z hr w e=>by cases e;exact wpAny_Break (PostS.of w .br)
theorem R.cnt {pos:Pos}:SndS B n env names (.Continue pos) cntS:=fun Z Z Z Z Z Z Z Z Z Z hr w e=>by cases e;exact wpAny_Continue (PostS.of w .ct)
theorem retS_eq (f:FE) (ρ:Rho) (H:Hp):retS f ρ H=obd (f ρ H) fun v H1=>some (.rt v,ρ,H1):=by kernel_rfl
theorem expS_eq (f:FE) (ρ:Rho) (H:Hp):expS f ρ H=obd (f ρ H) fun Z H1=>some (.nx,ρ,H1):=by kernel_rfl
theorem setS_eq (i:Nat) (f:FE) (ρ:Rho) (H:Hp):setS i f ρ H=obd (f ρ H) fun v H1=>some (.nx,ρ.set i (some v),H1):=by kernel_rfl
theorem asrS_eq (t:FT) (ρ:Rho) (H:Hp):asrS t ρ H=obd (t ρ H) fun b H1=>cond b (some (.nx,ρ,H1)) none:=by
  unfold asrS obd
  cases t ρ H with
  |none=>rfl
  |some p=>obtain ⟨b,H1⟩:=p;cases b<;>rfl
theorem ifS_eq (t:FT) (a b:FS) (ρ:Rho) (H:Hp):ifS t a b ρ H=obd (t ρ H) fun c H1=>cond c (a ρ H1) (b ρ H1):=by kernel_rfl
theorem R.ret {x:Expr} {f:FE} {pos:Pos} (h:SndE B n env names x f):SndS B n env names (.Return (some x) pos) (retS f):=fun {A s σ X μ ρ H F ρ' H'} hr w e=>by
  obtain ⟨v,H1,q,e⟩:=bnd ((retS_eq _ _ _).symm.trans e)
  cases e
  exact wpAny_Return_some (nE (h hr w q) fun v s₁ ν w1 r1 t1=>⟨ν,w1,.rt r1,t1.S⟩)
theorem R.exp {x:Expr} {f:FE} {pos:Pos} (h:SndE B n env names x f) (hi:interactive env=false) (hs:swapsWith x none pos.line env=pure false):SndS B n env names (.Expr x pos) (expS f):=fun {A s σ X μ ρ H F ρ' H'} hr w e=>by
  obtain ⟨v,H1,q,e⟩:=bnd ((expS_eq _ _ _).symm.trans e)
  cases e
  exact wpAny_Expr_any (nE (h hr w q) fun v s₁ ν w1 r1 t1=>⟨ν,w1,.nx,t1.S⟩) hi hs
theorem R.asr {x:Expr} {f:FT} {pos:Pos} {msg:Option Expr} (h:SndT B n env names x f):SndS B n env names (.Assert x msg pos) (asrS f):=fun {A s σ X μ ρ H F ρ' H'} hr w e=>by
  obtain ⟨v,H1,q,e⟩:=bnd ((asrS_eq _ _ _).symm.trans e)
  cases v with
  |true=>cases e;exact wpAny_Assert_holds (nT (h hr w q) fun v s₁ ν w1 r1 t1=>⟨r1,ν,w1,.nx,t1.S⟩)
  |false=>exact no e
theorem R.ite {x:Expr} {t:FT} {a b:List Stmt} {fa fb:FS} {pos:Pos} (h:SndT B n env names x t) (ha:SndB B n env names a fa) (hb:SndB B n env names b fb):SndS B n env names (.If x a b pos) (ifS t fa fb):=fun {A s σ X μ ρ H F ρ' H'} hr w e=>by
  obtain ⟨c,H1,q,e⟩:=bnd ((ifS_eq _ _ _ _ _).symm.trans e)
  refine wpAny_If (nT (h hr w q) fun v s₁ ν w1 r1 t1=>?_)
  subst r1
  cases v with
  |true=>exact noE (ha hr w1 e) fun Z Z p=>PostS.after t1.S p
  |false=>exact noE (hb hr w1 e) fun Z Z p=>PostS.after t1.S p
structure At (env:Env) (names:List Str) (x:Str) (i:Nat):Prop where
  hi:names[i]?=some x
  hu:∀ j,names[j]?=some x→j=i
  hk:∃ k,env.kindOf x=some k∧(k=.local∨k=.cell)
theorem store' (at_:At env names x i) (w:Wd B σ X env names ρ μ H s) {v:Value} {y:V} (r:VR σ X μ s.heap v y) :
    wpAny (model B.prog B.w) A (storeName env x v) (fun Z s'=>PostS B env names σ X μ s.heap .nx (ρ.set i (some y)) H .next s') NoE s:=by
  obtain ⟨k,h1,h2⟩:=at_.hk
  exact nW (store w at_.hi at_.hu h1 h2 r) fun Z s' w' r' t Z=>⟨[],by rw [List.append_nil];exact w',.nx,t⟩
theorem R.set {x:Str} {e:Expr} {f:FE} {i:Nat} {pos pos':Pos} (at_:At env names x i) (h:SndE B n env names e f) (hs:swapsWith e (some (.Name x pos')) pos.line env=pure false):SndS B n env names (.Assign [.Name x pos'] e pos) (setS i f):=fun {A s σ X μ ρ H F ρ' H'} hr w q=>by
  obtain ⟨v,H1,q1,q⟩:=bnd ((setS_eq _ _ _ _).symm.trans q)
  cases q
  exact wpAny_Assign_Name (nE (h hr w q1) fun v s₁ ν w1 r1 t1=>noE (store' at_ w1 r1) fun Z s₂ p=>PostS.after t1.S p) hs
theorem loadN {x:Str} {i:Nat} {y:V} (at_:At env names x i) (w:Wd B σ X env names ρ μ H s) (e1:ρ[i]?=some (some y)):wpAny (model B.prog B.w) A (loadName env x) (fun v s'=>s'=s∧VR σ X μ s.heap v y) NoE s:=by
  obtain ⟨k,hk,hk2⟩:=at_.hk
  rcases hk2 with rfl | rfl
  · obtain ⟨m,hn,h⟩:=w.er.ns
    obtain ⟨v,hv,r⟩:=h i x _ at_.hi hk e1
    exact wpAny_loadName_local w.er.kind hk hn hv ⟨rfl,r⟩
  · obtain ⟨c,ov,h1,h2,h3⟩:=w.er.cells i x at_.hi (.inl hk)
    obtain ⟨v,rfl,r⟩:=h3 _ e1
    exact wpAny_loadName_cell w.er.kind hk h1 h2 ⟨rfl,r⟩
inductive AugI (i:Nat) (g:Op2) (f:FE) (ρ:Rho) (H:Hp) (F:Fl) (ρ':Rho) (H':Hp):Prop
  |mk (a b r:V) (e:ρ[i]?=some (some a)) (q1:f ρ H=some (b,H')) (q2:g H' a b=some r) (h:F=.nx∧ρ'=ρ.set i (some r)):AugI i g f ρ H F ρ' H'
theorem augS_eq (i:Nat) (g:Op2) (f:FE) (ρ:Rho) (H:Hp):augS i g f ρ H=obo ρ[i]? fun a=>obd (f ρ H) fun b H1=>obn (g H1 a b) fun r=>some (Fl.nx,ρ.set i (some r),H1):=by kernel_rfl
theorem augS_some {i:Nat} {g:Op2} {f:FE} (q:augS i g f ρ H=some (F,ρ',H')):AugI i g f ρ H F ρ' H':=by
  obtain ⟨a,e,q⟩:=obo_some ((augS_eq ..).symm.trans q)
  obtain ⟨b,H1,q1,q⟩:=bnd q
  obtain ⟨r,q2,q⟩:=bn1 q
  cases q
  exact ⟨a,b,r,e,q1,q2,rfl,rfl⟩
theorem R.aug {x:Str} {e:Expr} {f:FE} {i:Nat} {g:Op2} {op:Operator} {pos pos':Pos} (at_:At env names x i) (h:SndE B n env names e f) (hop:Snd2 B (inplaceOp op) g) (hn:1≤n):SndS B n env names (.AugAssign (.Name x pos') op e pos) (augS i g f):=fun {A s σ X μ ρ H F ρ' H'} hr w q=>by
  obtain ⟨a,b,r,e1,q1,q2,rfl,rfl⟩:=augS_some q
  refine wpAny_AugAssign_Name (n2 (loadN at_ w e1) fun va s₁ hs ra=>?_)
  subst hs
  refine nE (h hr w q1) fun vb s₂ ν w2 r2 t2=>n2 (hop (hr.le hn) w2.cr (ra.stp t2 w.cr w.bs.tab) r2 q2) fun v s₃ k r=>noE (store' at_ (w2.keeps k) r) fun Z s₄ p=>?_
  exact PostS.after t2.S (PostS.after0 (Stp.of_keeps k).S p)
inductive TurnI (o:Option (Fl×Rho×Hp)) (k:FS) (F:Fl) (ρ':Rho) (H':Hp):Prop
  |go (G:Fl) (ρ2:Rho) (H2:Hp) (q:o=some (G,ρ2,H2)) (h:G=.nx∨G=.ct) (e:k ρ2 H2=some (F,ρ',H')):TurnI o k F ρ' H'
  |stop (G:Fl) (q:o=some (G,ρ',H')) (h:(G=.br∧F=.nx)∨∃ v,G=.rt v∧F=.rt v):TurnI o k F ρ' H'
theorem turn_some {o:Option (Fl×Rho×Hp)} {k:FS} (e:turnS o k=some (F,ρ',H')):TurnI o k F ρ' H':=by
  cases o with
  |none=>exact no e
  |some p=>
    obtain ⟨G,ρ2,H2⟩:=p
    cases G with
    |nx=>exact .go _ _ _ rfl (.inl rfl) e
    |ct=>exact .go _ _ _ rfl (.inr rfl) e
    |br=>cases e;exact .stop _ rfl (.inl ⟨rfl,rfl⟩)
    |rt v=>cases e;exact .stop _ rfl (.inr ⟨_,rfl,rfl⟩)
noncomputable def LoopR (Q:Flow→Shared→Prop) (P:Shared→Prop):Flow→Shared→Prop
  | .next=>P
  | .cont=>P
  | .brk=>Q .next
  | .ret v=>Q (.ret v)
theorem loop_go {h:Heap} {f:Flow} {Q:Flow→Shared→Prop} {P:Shared→Prop} {G:Fl} (r:FlR σ X μ h f G) (hG:G=.nx∨G=.ct) (p:P s):LoopR Q P f s:=by
  rcases hG with rfl | rfl<;>cases r<;>exact p
theorem loop_stop {h:Heap} {f:Flow} {Q:Flow→Shared→Prop} {P:Shared→Prop} {G:Fl} (r:FlR σ X μ h f G) (hG:(G=.br∧F=.nx)∨∃ v,G=.rt v∧F=.rt v) (p:∀ f',FlR σ X μ h f' F→Q f' s):LoopR Q P f s:=by
  rcases hG with ⟨rfl,rfl⟩ | ⟨v,rfl,rfl⟩<;>cases r
  · exact p _ .nx
  · exact p _ (.rt ‹_›)
theorem while_code {test:Expr} {body:List Stmt} {pos:Pos} {Q:Flow→Shared→Prop} (I:Nat→Shared→Prop)
    (h:∀ n s,I n s→wpAny (model B.prog B.w) A (isTrue test env (eval test env)) (fun b s₂=>cond b (wpAny (model B.prog B.w) A (execs body env) (LoopR Q fun s=>∃ m,m < n∧I m s) NoE s₂) (Q .next s₂)) NoE s) (n:Nat) (i:I n s) :
    wpAny (model B.prog B.w) A (exec (.While test body [] pos) env) Q NoE s:=by
  refine wpAny_While (codeAny_whileLoop I (fun n s i=>anyE (noE (h n s i) fun b s₂ q=>?_)) n i)
  cases b with
  |false=>exact wpAny_execs_nil q
  |true=>exact anyE (noE q fun f s₃ p=>by cases f<;>exact p)
theorem whileS_eq (t:FT) (b:FS) (k:Nat) (ρ:Rho) (H:Hp):whileS t b (k+1) ρ H=obd (t ρ H) fun c H1=>cond c (turnS (b ρ H1) (whileS t b k)) (some (.nx,ρ,H1)):=by kernel_rfl
inductive WhI (B:Base) (env:Env) (names:List Str) (σ:Option Addr) (X:Addr→Prop) (μ:List Addr) (t:FT) (fb:FS) (h:Heap) (F:Fl) (ρ':Rho) (H':Hp) (k:Nat) (s₁:Shared):Prop
  |mk (ρ1:Rho) (H1:Hp) (ν:List Addr) (w:Wd B σ X env names ρ1 (μ++ν) H1 s₁) (q:whileS t fb k ρ1 H1=some (F,ρ',H')) (t1:StpS B env μ ν h s₁.heap):WhI B env names σ X μ t fb h F ρ' H' k s₁
theorem while_body {b:List Stmt} {fb:FS} (hb:SndB B n env names b fb) (hr:Room n A) {h:Heap} (w:Wd B σ X env names ρ (μ++ν) H s) (t1:StpS B env μ ν h s.heap) {G:Fl} {ρ2:Rho} {H2:Hp} (q:fb ρ H=some (G,ρ2,H2)) {Q:Flow→Shared→Prop}
    (hQ:∀ f s' ν',Wd B σ X env names ρ2 (μ++ν') H2 s'→FlR σ X (μ++ν') s'.heap f G→StpS B env μ ν' h s'.heap→Q f s'):wpAny (model B.prog B.w) A (execs b env) Q NoE s:=
  nS (hb hr w q) fun f s₃ ν3 w3 r3 t3=>hQ f s₃ (ν++ν3) (List.append_assoc .. ▸ w3) (List.append_assoc .. ▸ r3) (t1.trans t3)
theorem R.while {x:Expr} {t:FT} {b:List Stmt} {fb:FS} {pos:Pos} (N:Nat) (h:SndT B n env names x t) (hb:SndB B n env names b fb) (hn:1≤n):SndS B n env names (.While x b [] pos) (whileS t fb N):=fun {A s σ X μ ρ H F ρ' H'} hr w q=>by
  refine while_code (WhI B env names σ X μ t fb s.heap F ρ' H') ?_ N ⟨ρ,H,[],by rw [List.append_nil];exact w,q,.refl⟩
  rintro k s₁ ⟨ρ1,H1,ν,w1,q1,t1⟩
  cases k with
  |zero=>exact no q1
  |succ k=>
    obtain ⟨c,H2,q2,q1⟩:=bnd ((whileS_eq _ _ _ _ _).symm.trans q1)
    refine nT (h hr w1 q2) fun v s₂ ν2 w2 r2 t2=>?_
    subst r2
    rw [List.append_assoc] at w2
    cases v with
    |false=>cases q1;exact ⟨ν++ν2,w2,.nx,t1.trans t2.S⟩
    |true=>
      cases turn_some q1 with
      |go G ρ2 H3 q3 hG e=>exact while_body hb hr w2 (t1.trans t2.S) q3 fun f s' ν' w3 r3 t3=>loop_go r3 hG ⟨k,Nat.lt_succ_self _,_,_,ν',w3,e,t3⟩
      |stop G q3 hG=>exact while_body hb hr w2 (t1.trans t2.S) q3 fun f s' ν' w3 r3 t3=>loop_stop r3 hG fun f' r'=>⟨ν',w3,r',t3⟩
end
noncomputable def setAll:List Nat→List V→Rho→Option Rho
  |[],[],ρ=>some ρ
  |i::is,v::vs,ρ=>setAll is vs (ρ.set i (some v))
  |_,_,_=>none
noncomputable abbrev FG:=V→Rho→Option Rho
noncomputable def tgN (i:Nat):FG:=fun v ρ=>some (ρ.set i (some v))
noncomputable def tgT (is:List Nat):FG:=fun v ρ=>match v with
  | .tup l=>setAll is l ρ
  |_=>none
noncomputable def forGo (tg:FG) (b:FS):List V→FS
  |[]=>fun ρ H=>some (.nx,ρ,H)
  |v::vs=>fun ρ H=>match tg v ρ with
    |some ρ1=>(match b ρ1 H with
      |some (.nx,ρ2,H2)=>forGo tg b vs ρ2 H2
      |some (.ct,ρ2,H2)=>forGo tg b vs ρ2 H2
      |some (.br,ρ2,H2)=>some (.nx,ρ2,H2)
      |some (.rt v,ρ2,H2)=>some (.rt v,ρ2,H2)
      |none=>none)
    |none=>none
theorem forGo_eq (tg:FG) (b:FS) (v:V) (vs:List V) (ρ:Rho) (H:Hp):forGo tg b (v::vs) ρ H=obn (tg v ρ) fun ρ1=>turnS (b ρ1 H) (forGo tg b vs):=by kernel_rfl
noncomputable def frS (fi:FL) (tg:FG) (b:FS):FS:=fun ρ H=>match fi ρ H with
  |some (vs,H1)=>forGo tg b vs ρ H1
  |none=>none
theorem forS_eq (fi:FL) (tg:FG) (b:FS) (ρ:Rho) (H:Hp):frS fi tg b ρ H=obd (fi ρ H) fun vs H1=>forGo tg b vs ρ H1:=by kernel_rfl
noncomputable def rngL (x st:Int):Nat→List V
  |0=>[]
  |k+1=>.int x::rngL (x+st) st k
inductive ItR (σ:Option Addr) (X:Addr→Prop) (μ:List Addr) (h:Heap):Value→List V→Prop
  |list {it l:Addr} {vs:List Value} {i:Nat} {xs:List V}:h.IsListIter it l i→LstA h l vs→l ∉ μ→VRs σ X μ h (vs.drop i) xs→ItR σ X μ h (.ref it) xs
  |range {it:Addr} {x st:Int} {k:Nat}:IsRangeIter h it x k st→ItR σ X μ h (.ref it) (rngL x st k)
noncomputable def itAddr:Value→Addr
  | .ref a=>a
  |_=>0
noncomputable def ItOff (X:Addr→Prop) (h:Heap) (v:Value):Prop:=∀ a o l t,v=.ref a→h.get? a=some o→o.data=.fields #[.ref l,t]→¬ X l
noncomputable def PostI (B:Base) (env:Env) (names:List Str) (σ:Option Addr) (X:Addr→Prop) (ρ:Rho) (μ:List Addr) (s:Shared) (H':Hp) (xs:List V):Value→Shared→Prop:=
  fun v s'=>∃ ν,Wd B σ X env names ρ (μ++ν) H' s'∧ItR σ X (μ++ν) s'.heap v xs∧(∃ a,v=.ref a∧s.heap.get? a=none)∧ItOff X s'.heap v∧Stp B μ ν s.heap s'.heap
noncomputable def SndI (B:Base) (n:Nat) (env:Env) (names:List Str) (e:Expr) (f:FL):Prop:=
  ∀ ⦃A:Around⦄ ⦃s:Shared⦄ ⦃σ:Option Addr⦄ ⦃X:Addr→Prop⦄ ⦃μ:List Addr⦄ ⦃ρ:Rho⦄ ⦃H:Hp⦄ ⦃xs:List V⦄ ⦃H':Hp⦄,Room n A→Wd B σ X env names ρ μ H s→f ρ H=some (xs,H')→
    wpAny (model B.prog B.w) A (eval e env) (fun v s₁=>wpAny (model B.prog B.w) A (pyIter v) (PostI B env names σ X ρ μ s H' xs) NoE s₁) NoE s
section
variable {B:Base} {n:Nat} {env:Env} {names:List Str} {A:Around} {s s' s'':Shared} {σ:Option Addr} {X:Addr→Prop} {μ ν:List Addr} {ρ ρ':Rho} {H H' H'':Hp} {F:Fl}
noncomputable def OddI (o:Obj):Prop:=∃ vs,o.data=.fields vs∧(o.cls=.type "list_iterator" ∨ o.cls=.type "range_iterator")∧∀ q t,vs[1]? ≠ some (.str q t)
theorem OddI.notVal {b:Addr} {o:Obj} (od:OddI o):¬ Val X μ b o:=by
  obtain ⟨vs,hd,hc,_⟩:=od
  rintro (⟨_,xs,i,v⟩ | ⟨_,⟨xs,i,v⟩,_⟩ | ⟨c,_⟩)
  · rw [hd] at v;cases v
  · rw [hd] at v;cases v
  · rcases hc with hc | hc<;>rw [hc] at c<;>simp at c
theorem mv_iter {h h':Heap} {it:Addr} {oi:Obj} (hi:h.get? it=some oi) (od:OddI oi) (k:∀ b o,b ≠ it→h.get? b=some o→h'.get? b=some o):Mv X X μ μ h h':=
  ⟨fun b o e v=>k b o (by rintro rfl;rw [hi] at e;cases e;exact od.notVal v) e,fun Z Z e=>e,fun Z Z Z a b=>⟨a,b⟩⟩
theorem Wd.iter (w:Wd B σ X env names ρ μ H s) {it:Addr} {oi:Obj} (hi:s.heap.get? it=some oi) (od:OddI oi) (hb:B.h1.get? it=none) {h':Heap} {tk:Nat} (k:∀ b o,b ≠ it→s.heap.get? b=some o→h'.get? b=some o) :
    Wd B σ X env names ρ μ H { s with heap:=h',toks:=tk }∧Mv X X μ μ s.heap h':=by
  have mv:Mv X X μ μ s.heap h':=⟨fun b o e v=>k b o (by rintro rfl;rw [hi] at e;cases e;exact od.notVal v) e,fun Z Z e=>e,fun Z Z Z a b=>⟨a,b⟩⟩
  have keep:∀ b o,s.heap.get? b=some o→¬ OddI o→h'.get? b=some o:=fun b o e q=>k b o (by rintro rfl;rw [hi] at e;cases e;exact q od) e
  refine ⟨⟨⟨fun b o e q=>k b o (by rintro rfl;rw [hb] at e;cases e) (w.bs.keep b o e q),?_,w.bs.gens,w.bs.os⟩,?_,?_,w.ow⟩,mv⟩
  · obtain ⟨ps,e,t1,t2⟩:=w.bs.tab
    refine ⟨ps,keep _ _ e ?_,t1,fun pos c' q=>?_⟩
    · rintro ⟨vs,_,hc,_⟩;rcases hc with hc | hc<;>simp at hc
    · obtain ⟨y,c,o,vs,t,e1,e2,e3,e4⟩:=t2 pos c' q
      refine ⟨y,c,o,vs,t,e1,keep _ _ e2 ?_,e3,e4⟩
      rintro ⟨vs',hd,_,hn⟩
      rw [hd] at e3;cases e3;exact hn _ _ e4
  · refine ⟨w.cr.len,fun i b l e1 e2=>?_,w.cr.nd,fun b hb=>?_,w.cr.xd,fun b e=>keep _ _ (w.cr.st b e) ?_⟩
    · obtain ⟨vs,⟨n,p⟩,r⟩:=w.cr.cell i b l e1 e2
      refine ⟨vs,⟨n,keep _ _ p ?_⟩,r.mv mv⟩
      rintro ⟨vs',hd,_⟩;cases hd
    · obtain ⟨its,o,p,q1,n,q⟩:=w.cr.xl b hb
      refine ⟨its,o,keep _ _ p ?_,q1,n,q⟩
      rintro ⟨vs',hd,_⟩;rw [q] at hd;cases hd
    · rintro ⟨vs',hd,_⟩;cases hd
  · refine ⟨w.er.kind,w.er.glob,w.er.bltn,?_,?_,w.er.apart,?_⟩
    · obtain ⟨m,⟨o,es,ep,ho,hd,hk⟩,hm⟩:=w.er.ns
      refine ⟨m,⟨o,es,ep,keep _ _ ho ?_,hd,hk⟩,fun j z Y e1 e2 e3=>let ⟨u,p,q⟩:=hm j z Y e1 e2 e3;⟨u,p,q.mv mv⟩⟩
      rintro ⟨vs',hd',_⟩;rw [hd] at hd';cases hd'
    · intro j z e1 e2
      obtain ⟨c,ov,p,⟨o,ho,hd⟩,t⟩:=w.er.cells j z e1 e2
      refine ⟨c,ov,p,⟨o,keep _ _ ho ?_,hd⟩,fun Y e3=>let ⟨u,p,q⟩:=t Y e3;⟨u,p,q.mv mv⟩⟩
      rintro ⟨vs',hd',_⟩;rw [hd] at hd';cases hd'
    · intro x xc hx
      obtain ⟨ov,o,ho,hd⟩:=w.er.cs x _ hx
      refine ⟨ov,o,keep _ _ ho ?_,hd⟩
      rintro ⟨vs',hd',_⟩;rw [hd] at hd';cases hd'
theorem Wd.keepI (w:Wd B σ X env names ρ μ H s) {b:Addr} {o:Obj} (e:s.heap.get? b=some o) (hc:∃ c,o.cls=.type c) (hd:∃ vs,o.data=.fields vs):¬ DE env μ b∧b ≠ B.P:=by
  obtain ⟨vs,hd⟩:=hd
  constructor
  · rintro (hm | rfl | ⟨x,hx⟩)
    · obtain ⟨i,hi⟩:=List.getElem?_of_mem hm
      have hlt:i < H.length:=by rw [← w.cr.len];exact (List.getElem?_eq_some_iff.mp hi).1
      obtain ⟨vs,⟨n,q⟩,_⟩:=w.cr.cell i b _ hi (List.getElem?_eq_getElem hlt)
      rw [e] at q;cases q;cases hd
    · obtain ⟨m,⟨o',es,ep,q,d,_⟩,_⟩:=w.er.ns
      rw [e] at q;cases q;rw [hd] at d;cases d
    · obtain ⟨ov,o',q,d⟩:=w.er.cs x _ hx
      rw [e] at q;cases q;rw [hd] at d;cases d
  · rintro rfl
    obtain ⟨ps,hP,_⟩:=w.bs.tab
    rw [e] at hP;cases hP
    obtain ⟨c,hc⟩:=hc;cases hc
theorem StpS.mv {h':Heap} (a:StpS B env μ ν s.heap h') (w:Wd B σ X env names ρ μ H s):Mv X X μ (μ++ν) s.heap h':=
  ⟨fun b o e v=>let ⟨p,q⟩:=w.notVal e v;a.kp.keep b o e p q,fun i x e=>by
    rw [List.getElem?_append_left]
    · exact e
    · exact (List.getElem?_eq_some_iff.mp e).1,fun b o e h1 h2=>⟨h1,fun hm=>by
    rcases List.mem_append.mp hm with hm | hm
    · exact h2 hm
    · rw [a.fr b hm] at e;cases e⟩⟩
theorem ItR.stpS {h':Heap} {v:Value} {xs:List V} (r:ItR σ X μ s.heap v xs) (a:StpS B env μ ν s.heap h') (w:Wd B σ X env names ρ μ H s):ItR σ X (μ++ν) h' v xs:=by
  have mv:=a.mv w
  cases r with
  |@list it l vs i _ hi hl hm hv=>
    obtain ⟨o,ho,hc,n,hd⟩:=hl
    obtain ⟨oi,hoi,hic,hid⟩:=hi
    have k:=w.keepI hoi ⟨_,hic⟩ ⟨_,hid⟩
    have kl:¬ DE env μ l∧l ≠ B.P:=by
      refine ⟨?_,w.bs.tab.ne ho (.inl (by rw [hc];simp))⟩
      rintro (h | rfl | ⟨y,h⟩)
      · exact hm h
      · obtain ⟨m,⟨o',es,ep,q,d,_⟩,_⟩:=w.er.ns
        rw [ho] at q;cases q;rw [hd] at d;cases d
      · obtain ⟨ov,o',q,d⟩:=w.er.cs y _ h
        rw [ho] at q;cases q;rw [hd] at d;cases d
    refine .list ⟨oi,a.kp.keep _ _ hoi k.1 k.2,hic,hid⟩ ⟨o,a.kp.keep _ _ ho kl.1 kl.2,hc,n,hd⟩ ?_ (hv.mv mv)
    intro h
    rcases List.mem_append.mp h with h | h
    · exact hm h
    · rw [a.fr _ h] at ho;cases ho
  |range hi=>
    have k:=w.keepI hi ⟨_,rfl⟩ ⟨_,rfl⟩
    exact .range (a.kp.keep _ _ hi k.1 k.2)
theorem ItR.odd {a:Addr} {xs:List V} (r:ItR σ X μ s.heap (.ref a) xs):∃ o,s.heap.get? a=some o∧OddI o:=by
  cases r with
  |list hi _ _ _=>
    obtain ⟨oi,hoi,hic,hid⟩:=hi
    exact ⟨oi,hoi,_,hid,.inl hic,fun q t h=>by simp at h⟩
  |range hi=>exact ⟨_,hi,_,rfl,.inr rfl,fun q t h=>by simp [rawInt] at h⟩
noncomputable def NextK (a:Addr) (h h':Heap):Prop:=∀ b o,b ≠ a→h.get? b=some o→h'.get? b=some o
theorem StpS.next {h h1 h2:Heap} {a:Addr} (t:StpS B env μ ν h h1) (hn:h.get? a=none) (k:NextK a h1 h2):StpS B env μ ν h h2:=by
  have ne:∀ b o,h.get? b=some o→b ≠ a:=fun b o e q=>by subst q;rw [hn] at e;cases e
  exact ⟨⟨fun b o e q p=>k b o (ne b o e) (t.kp.keep b o e q p),fun b o e=>let ⟨o',e'⟩:=t.kp.dom b o e;⟨o',k b o' (ne b o e) e'⟩⟩,t.fr⟩
inductive ItN (σ:Option Addr) (X:Addr→Prop) (μ:List Addr) (h:Heap) (a:Addr):List V→Prop
  |nilL {l:Addr} {vs:List Value} {i:Nat} (h1:h.IsListIter a l i) (h2:LstA h l vs) (h3:vs.toArray[i]?=none):ItN σ X μ h a []
  |nilR {x st:Int} (h1:IsRangeIter h a x 0 st):ItN σ X μ h a []
  |consL {l:Addr} {vs:List Value} {i:Nat} {v:Value} {x:V} {xs:List V} (h1:h.IsListIter a l i) (h2:LstA h l vs) (h3:vs.toArray[i]?=some v) (h4:l ∉ μ) (h5:VR σ X μ h v x) (h6:VRs σ X μ h (vs.drop (i+1)) xs):ItN σ X μ h a (x::xs)
  |consR {x st:Int} {k:Nat} (h1:IsRangeIter h a x (k+1:Nat) st):ItN σ X μ h a (.int x::rngL (x+st) st k)
theorem ItR.next {h:Heap} {a:Addr} {xs:List V} (r:ItR σ X μ h (.ref a) xs):ItN σ X μ h a xs:=by
  cases r with
  |@list _ l vs i _ hi hl hm hv=>
    cases hd:vs.drop i with
    |nil=>
      rw [hd] at hv
      cases xs with
      |nil=>exact .nilL hi hl (by have:=List.drop_eq_nil_iff.mp hd;simp;omega)
      |cons=>obtain ⟨_,_,q,_⟩:=hv.inv;cases q
    |cons v rest=>
      rw [hd] at hv
      have hi':i < vs.length:=Nat.lt_of_not_le fun q=>by rw [List.drop_eq_nil_of_le q] at hd;cases hd
      rw [List.drop_eq_getElem_cons hi'] at hd
      obtain ⟨rfl,rfl⟩:=List.cons.inj hd
      cases xs with
      |nil=>cases hv.inv
      |cons x xs=>
        obtain ⟨_,_,q,rv,rs⟩:=hv.inv
        obtain ⟨rfl,rfl⟩:=List.cons.inj q
        exact .consL hi hl (by simp [hi']) hm rv rs
  |@range _ x st k hi=>cases k with
    |zero=>exact .nilR hi
    |succ k=>exact .consR hi
theorem next_nil (w:Wd B σ X env names ρ μ H s) (hh:A.handled=none) {a:Addr} (hb:B.h1.get? a=none) {X':Addr→Prop} {μ':List Addr} (r:ItR σ X' μ' s.heap (.ref a) []) :
    wpAny (model B.prog B.w) A (pyNext (.ref a)) (fun o s'=>o=none∧Wd B σ X env names ρ μ H s'∧NextK a s.heap s'.heap) NoE s:=by
  obtain ⟨o,ho,od⟩:=r.odd
  cases r.next with
  |nilL hi hl h0=>exact wpAny_pyNext_list_end hh hi hl h0 fun h' k=>⟨rfl,(w.iter (tk:=s.toks) ho od hb fun b o hb e=>k b o hb e).1,fun b o hb e=>k b o hb e⟩
  |nilR hi=>exact wpAny_pyNext_range_end hh hi (by simp) fun h' k=>⟨rfl,(w.iter (tk:=s.toks) ho od hb fun b o hb e=>k b o hb e).1,fun b o hb e=>k b o hb e⟩
theorem next_cons (w:Wd B σ X env names ρ μ H s) {a:Addr} (hb:B.h1.get? a=none) {x:V} {xs:List V} {X':Addr→Prop} {μ':List Addr} (r:ItR σ X' μ' s.heap (.ref a) (x::xs)) :
    wpAny (model B.prog B.w) A (pyNext (.ref a)) (fun o s'=>∃ v,o=some v∧VR σ X' μ' s'.heap v x∧ItR σ X' μ' s'.heap (.ref a) xs∧Wd B σ X env names ρ μ H s'∧NextK a s.heap s'.heap) NoE s:=by
  obtain ⟨o,ho,od⟩:=r.odd
  cases r.next with
  |consL hi hl hx hm rv rs=>
    refine wpAny_pyNext_list_item hi hl hx fun h' hi2 k=>?_
    have q:NextK a s.heap h':=fun b o hb e=>(k.2 b hb).trans e
    have mv:Mv X' X' μ' μ' s.heap h':=mv_iter ho od q
    obtain ⟨o',ho',hc',n',hd'⟩:=hl
    refine ⟨_,rfl,rv.mv mv,.list hi2 ⟨o',(k.2 _ ?_).trans ho',hc',n',hd'⟩ hm (rs.mv mv),(w.iter (tk:=s.toks) ho od hb q).1,q⟩
    rintro rfl
    obtain ⟨oi,hoi,hic,hid⟩:=hi
    rw [hoi] at ho';cases ho';rw [hid] at hd';cases hd'
  |consR hi=>
    refine wpAny_pyNext_range_item hi (by omega) fun h' hi2 kk=>?_
    have q:NextK a s.heap h':=fun b o hb e=>(kk.2 b hb).trans e
    exact ⟨_,rfl,.int _ _,.range (by rwa [Int.natCast_succ,Int.add_sub_cancel] at hi2),(w.iter (tk:=s.toks+1) ho od hb q).1,q⟩
noncomputable def SndG (B:Base) (env:Env) (names:List Str) (t:Expr) (g:FG):Prop:=
  (∀ (it:Value) (v:Value) (A:Around) (s:Shared) (xs:List V) (σ:Option Addr) (X:Addr→Prop) (μ:List Addr) (Q:Unit→Shared→Prop),ItR σ X μ s.heap it xs→Q () s→wpAny (model B.prog B.w) A (letOwnedTupleGo t it v) Q NoE s)∧
  ∀ ⦃A:Around⦄ ⦃s:Shared⦄ ⦃σ:Option Addr⦄ ⦃X:Addr→Prop⦄ ⦃μ:List Addr⦄ ⦃ρ ρ':Rho⦄ ⦃H:Hp⦄ ⦃v:Value⦄ ⦃y:V⦄,Room 1 A→Wd B σ X env names ρ μ H s→VR σ X μ s.heap v y→g y ρ=some ρ'→
    wpAny (model B.prog B.w) A (assign t env v) (fun Z s'=>Wd B σ X env names ρ' μ H s'∧StpS B env μ [] s.heap s'.heap) NoE s
theorem G.name {x:Str} {i:Nat} {pos:Pos} (at_:At env names x i):SndG B env names (.Name x pos) (tgN i):=by
  refine ⟨fun it v A s xs σ X μ Q Z h=>wpAny_pure h,fun {A s σ X μ ρ ρ' H v y} hr w r e=>?_⟩
  cases e
  obtain ⟨k,h1,h2⟩:=at_.hk
  exact wpAny_assign_Name (nW (store w at_.hi at_.hu h1 h2 r) fun Z s' w' r' t Z=>⟨w',t⟩)
inductive Ats (env:Env) (names:List Str):List Expr→List Nat→Prop
  |nil:Ats env names [] []
  |cons {x:Str} {i:Nat} {pos:Pos} {es:List Expr} {is:List Nat}:At env names x i→Ats env names es is→Ats env names (.Name x pos::es) (i::is)
theorem Ats.each {es:List Expr} {is:List Nat} (h:Ats env names es is):(assignEach es env).length=es.length∧(assignEach es env).findIdx? (·.1)=none:=by
  induction h with
  |nil=>exact ⟨rfl,rfl⟩
  |cons _ _ ih=>
    refine ⟨congrArg Nat.succ ih.1,?_⟩
    show ((_::_):List _).findIdx? _=none;simp [List.findIdx?_cons,ih.2]
theorem Ats.len {es:List Expr} {is:List Nat} (h:Ats env names es is):es.length=is.length:=by
  induction h with
  |nil=>rfl
  |cons _ _ ih=>exact congrArg Nat.succ ih
theorem setAll_len:∀ {is:List Nat} {l:List V} {ρ ρ':Rho},setAll is l ρ=some ρ'→is.length=l.length
  |[],[],_,_,_=>rfl
  |_::is,_::l,_,_,h=>by simp [setAll_len (is:=is) (l:=l) h]
  |[],_::_,_,_,h=>by cases h
  |_::_,[],_,_,h=>by cases h
structure AtL (env:Env) (names:List Str) (x:Str) (i:Nat):Prop where
  hi:names[i]?=some x
  hu:∀ j,names[j]?=some x→j=i
  hk:env.kindOf x=some .local
noncomputable def LocK (env:Env) (h h':Heap):Prop:=∀ b o,b ≠ env.locals→h.get? b=some o→h'.get? b=some o
inductive AtLs (env:Env) (names:List Str):List Expr→List Nat→Prop
  |nil:AtLs env names [] []
  |cons {x:Str} {i:Nat} {pos:Pos} {es:List Expr} {is:List Nat}:AtL env names x i→AtLs env names es is→AtLs env names (.Name x pos::es) (i::is)
theorem AtLs.ats {es:List Expr} {is:List Nat} (h:AtLs env names es is):Ats env names es is:=by
  induction h with
  |nil=>exact .nil
  |cons a _ ih=>exact .cons ⟨a.hi,a.hu,_,a.hk,.inl rfl⟩ ih
theorem AtLs.inv {x:Str} {i:Nat} {pos:Pos} {es:List Expr} {is:List Nat} (h:AtLs env names (.Name x pos::es) (i::is)):AtL env names x i∧AtLs env names es is:=by
  cases h;exact ⟨‹_›,‹_›⟩
noncomputable def PostG (B:Base) (σ:Option Addr) (X:Addr→Prop) (env:Env) (names:List Str) (ρ':Rho) (μ:List Addr) (H:Hp) (P:Prop) (h:Heap) (s':Shared):Prop:=Wd B σ X env names ρ' μ H s'∧StpS B env μ [] h s'.heap∧(P→LocK env h s'.heap)
theorem assignG {P:Prop} {es:List Expr} {is:List Nat} (h:Ats env names es is):∀ {A:Around} {s:Shared} {ρ ρ':Rho} {vs:List Value} {l:List V},(P→AtLs env names es is)→Wd B σ X env names ρ μ H s→VRs σ X μ s.heap vs l→setAll is l ρ=some ρ'→
    wpAny (model B.prog B.w) A (assignInOrder ((assignEach es env).map (·.2)) vs) (fun Z s'=>PostG B σ X env names ρ' μ H P s.heap s') NoE s:=by
  induction h with
  |nil=>
    intro A s ρ ρ' vs l _ w r e
    cases l with
    |nil=>obtain rfl:=r.inv;cases e;exact wpAny_assignInOrder_none ⟨w,.refl,fun Z Z Z Z e=>e⟩
    |cons _ _=>exact no e
  |@cons x i pos es is at_ h ih=>
    intro A s ρ ρ' vs l hp w r e
    cases l with
    |nil=>exact no e
    |cons y l=>
      obtain ⟨v,vs,rfl,rv,rs⟩:=r.inv
      obtain ⟨k,h1,h2⟩:=at_.hk
      refine wpAny_assignInOrder_more (wpAny_assign_Name (nW (store w at_.hi at_.hu h1 h2 rv) fun Z s' w' r' t lk=>?_))
      have rs':=rs.mv (t.mv w)
      rw [List.append_nil] at rs'
      refine n3 (ih (fun p=>(hp p).inv.2) w' rs' e) fun Z s'' w'' t' k'=>⟨w'',StpS.trans t (by rw [List.append_nil];exact t'),fun p b o hb e=>k' p b o hb (lk ?_ b o hb e)⟩
      exact Option.some.inj (h1.symm.trans (hp p).inv.1.hk)
theorem assignT {P:Prop} {es:List Expr} {is:List Nat} {k:Nat} {pos:Pos} (h:Ats env names es is) (hp:P→AtLs env names es is) (hr:Room 1 A) (w:Wd B σ X env names ρ μ H s) {v:Value} {y:V} (r:VR σ X μ s.heap v y) (e:tgT is y ρ=some ρ') :
    wpAny (model B.prog B.w) A (assign (.Tuple es k pos) env v) (fun Z s'=>PostG B σ X env names ρ' μ H P s.heap s') NoE s:=by
  cases y with
  |tup l=>
    obtain ⟨a,vs,rfl,ht,rs⟩:=r.inv
    have e':setAll is l ρ=some ρ':=e
    have hlen:=h.each
    refine wpAny_assign_Tuple hr.1 ht (by rw [hlen.1,h.len,setAll_len e',← rs.length];simp) hlen.2 fun h' kk=>?_
    have keep:Keeps s { s with heap:=h' }:=⟨h',s.toks,rfl,fun b o e=>kk b o (by intro q;subst q;have:=Heap.lt_size e;exact Nat.lt_irrefl _ this) e⟩
    refine n3 (assignG h hp (w.keeps keep) (rs.keeps keep) e') fun Z s' w' t k=>⟨w',?_,fun p b o hb e=>k p b o hb (keeps_get keep e)⟩
    exact StpS.trans (ν:=[]) (Stp.of_keeps keep).S (by rw [List.append_nil];exact t)
  |_=>exact no e
theorem G.tuple {es:List Expr} {is:List Nat} {k:Nat} {pos:Pos} (h:Ats env names es is):SndG B env names (.Tuple es k pos) (tgT is):=by
  refine ⟨fun it v A s xs σ X μ Q r hq=>?_,fun {A s σ X μ ρ ρ' H v y} hr w r e=>noE (assignT (P:=False) h False.elim hr w r e) fun Z Z p=>⟨p.1,p.2.1⟩⟩
  cases v with
  |ref T=>
    cases r with
    |list hi _ _ _=>exact wpAny_letOwnedTupleGo_listiter hi hq
    |range hi=>
      unfold letOwnedTupleGo
      refine wpAny_bind (wpAny_load hi ?_)
      simp [rawInt]
      exact wpAny_pure hq
  |_=>cases r<;>exact wpAny_pure hq
noncomputable def SndGL (B:Base) (env:Env) (names:List Str) (t:Expr) (g:FG):Prop:=
  (∀ (it:Value) (v:Value) (A:Around) (s:Shared) (xs:List V) (σ:Option Addr) (X:Addr→Prop) (μ:List Addr) (Q:Unit→Shared→Prop),ItR σ X μ s.heap it xs→Q () s→wpAny (model B.prog B.w) A (letOwnedTupleGo t it v) Q NoE s)∧
  ∀ ⦃A:Around⦄ ⦃s:Shared⦄ ⦃σ:Option Addr⦄ ⦃X:Addr→Prop⦄ ⦃μ:List Addr⦄ ⦃ρ ρ':Rho⦄ ⦃H:Hp⦄ ⦃v:Value⦄ ⦃y:V⦄,Room 1 A→Wd B σ X env names ρ μ H s→VR σ X μ s.heap v y→g y ρ=some ρ'→
    wpAny (model B.prog B.w) A (assign t env v) (fun Z s'=>Wd B σ X env names ρ' μ H s'∧StpS B env μ [] s.heap s'.heap∧LocK env s.heap s'.heap) NoE s
theorem GL.name {x:Str} {i:Nat} {pos:Pos} (at_:AtL env names x i):SndGL B env names (.Name x pos) (tgN i):=by
  refine ⟨fun it v A s xs σ X μ Q Z h=>wpAny_pure h,fun {A s σ X μ ρ ρ' H v y} hr w r e=>?_⟩
  cases e
  exact wpAny_assign_Name (nW (store w at_.hi at_.hu at_.hk (.inl rfl) r) fun Z s' w' r' t k=>⟨w',t,k rfl⟩)
theorem GL.tuple {es:List Expr} {is:List Nat} {k:Nat} {pos:Pos} (h:AtLs env names es is):SndGL B env names (.Tuple es k pos) (tgT is):=
  ⟨(G.tuple (B:=B) h.ats).1,fun {A s σ X μ ρ ρ' H v y} hr w r e=>noE (assignT (P:=True) h.ats (fun Z=>h) hr w r e) fun Z Z p=>⟨p.1,p.2.1,p.2.2 trivial⟩⟩
end
section
variable {B:Base} {n:Nat} {env:Env} {names:List Str} {A:Around} {s s' s'':Shared} {σ:Option Addr} {X:Addr→Prop} {μ ν:List Addr} {ρ ρ':Rho} {H H' H'':Hp} {F:Fl}
theorem VR.stpS {h':Heap} {v:Value} {x:V} (r:VR σ X μ s.heap v x) (a:StpS B env μ ν s.heap h') (w:Wd B σ X env names ρ μ H s):VR σ X (μ++ν) h' v x:=r.mv (a.mv w)
inductive FoI (B:Base) (env:Env) (names:List Str) (σ:Option Addr) (X:Addr→Prop) (μ:List Addr) (tg:FG) (fb:FS) (a:Addr) (h:Heap) (F:Fl) (ρ':Rho) (H':Hp) (k:Nat) (s₁:Shared):Prop
  |mk (ρ1:Rho) (H1:Hp) (ν:List Addr) (xs:List V) (hk:xs.length=k) (w:Wd B σ X env names ρ1 (μ++ν) H1 s₁) (r:ItR σ X (μ++ν) s₁.heap (.ref a) xs) (q:forGo tg fb xs ρ1 H1=some (F,ρ',H')) (t:StpS B env μ ν h s₁.heap):FoI B env names σ X μ tg fb a h F ρ' H' k s₁
theorem for_code {x:Expr} {it:Value} {body:List Stmt} {Q:Flow→Shared→Prop} (I:Nat→Shared→Prop)
    (h:∀ n s,I n s→wpAny (model B.prog B.w) A (pyNext it) (fun r s₁=>match r with
      |none=>Q .next s₁
      |some v=>wpAny (model B.prog B.w) A (letOwnedTupleGo x it v) (fun Z s₁=>wpAny (model B.prog B.w) A (assign x env v) (fun Z s₂=>wpAny (model B.prog B.w) A (execs body env) (LoopR Q fun s=>∃ m,m < n∧I m s) NoE s₂) NoE s₁) NoE s₁) NoE s) (n:Nat) (i:I n s)
    {R:Result→Shared→Prop} (hR:∀ f s',Q f s'→R (.ok f) s'):codeAny (model B.prog B.w) A (.forLoop x it body [] env) R s:=by
  refine codeAny_forLoop_any I (fun n s i=>anyE (noE (h n s i) fun r s₁ q=>?_)) n i
  cases r with
  |none=>exact wpAny_execs_nil (hR _ _ q)
  |some v=>exact anyE (noE q fun Z s₂ q=>anyE (noE q fun Z s₃ q=>anyE (noE q fun f s₄ p=>by
      cases f with
      |next=>exact p
      |cont=>exact p
      |brk=>exact hR _ _ p
      |ret v=>exact hR _ _ p)))
theorem forLoop {x:Expr} {tg:FG} {b:List Stmt} {fb:FS} (hg:SndG B env names x tg) (hb:SndB B n env names b fb) (hr:Room n A) (hn:1≤n) {a:Addr} {h0:Heap} (ha:h0.get? a=none) (hbase:B.h1.get? a=none) {xs:List V}
    (w:Wd B σ X env names ρ (μ++ν) H s) (r:ItR σ X (μ++ν) s.heap (.ref a) xs) (t:StpS B env μ ν h0 s.heap) (e:forGo tg fb xs ρ H=some (F,ρ',H')) {R:Result→Shared→Prop} (hR:∀ f s',PostS B env names σ X μ h0 F ρ' H' f s'→R (.ok f) s') :
    codeAny (model B.prog B.w) A (.forLoop x (.ref a) b [] env) R s:=by
  refine for_code (Q:=PostS B env names σ X μ h0 F ρ' H') (FoI B env names σ X μ tg fb a h0 F ρ' H') ?_ xs.length ⟨ρ,H,ν,xs,rfl,w,r,e,t⟩ hR
  rintro k s₁ ⟨ρ1,H1,ν1,xs1,hk,w1,r1,q1,t1⟩
  cases xs1 with
  |nil=>
    cases q1
    refine n3 (next_nil w1 hr.1 hbase r1) fun o s₂ ho w2 k2=>?_
    subst ho
    exact ⟨ν1,w2,.nx,t1.next ha k2⟩
  |cons y ys=>
    refine noE (next_cons w1 hbase r1) fun o s₂ hx=>?_
    obtain ⟨v,ho,rv,r2,w2,k2⟩:=hx
    subst ho
    have t2:=t1.next ha k2
    obtain ⟨ρ2,qg,q1⟩:=bn1 ((forGo_eq _ _ _ _ _ _).symm.trans q1)
    refine hg.1 _ _ A s₂ ys σ X _ _ r2 (n2 (hg.2 (hr.le hn) w2 rv qg) fun Z s₃ w3 t3=>?_)
    have r3:=r2.stpS t3 w2
    have t23:=t2.trans (ν':=[]) t3
    rw [List.append_nil] at r3 t23
    cases turn_some q1 with
    |go G ρ3 H3 q3 hG e=>exact nS (hb hr w3 q3) fun f s₄ ν4 w4 r4 t4=>loop_go r4 hG ⟨ys.length,hk▸Nat.lt_succ_self _,_,_,ν1++ν4,ys,rfl,List.append_assoc .. ▸ w4,List.append_assoc .. ▸ r3.stpS t4 w3,e,t23.trans t4⟩
    |stop G q3 hG=>exact nS (hb hr w3 q3) fun f s₄ ν4 w4 r4 t4=>loop_stop r4 hG fun f' r'=>⟨ν1++ν4,List.append_assoc .. ▸ w4,List.append_assoc .. ▸ r',t23.trans t4⟩
theorem R.for {x it:Expr} {fi:FL} {tg:FG} {b:List Stmt} {fb:FS} {pos:Pos} (hi:SndI B n env names it fi) (hg:SndG B env names x tg) (hb:SndB B n env names b fb) (hn:1≤n) (hs:∀ v,foldedSetIterable it env v=pure v):SndS B n env names (.For x it b [] pos) (frS fi tg fb):=fun {A s σ X μ ρ H F ρ' H'} hr w q=>by
  obtain ⟨vs,H1,q1,q⟩:=bnd ((forS_eq _ _ _ _ _).symm.trans q)
  refine wpAny_For (noE (hi hr w q1) fun v s₁ h=>noE h fun i s₂ hx=>?_) hs
  obtain ⟨ν,w2,r2,⟨a,ha,hf⟩,_,t2⟩:=hx
  subst ha
  exact forLoop hg hb hr hn hf (base_none w.bs hf) w2 r2 t2.S q (fun f s' p=>p)
noncomputable def itF (f:FE):FL:=fun ρ H=>match f ρ H with
  |some (.frz l,H1)=>some (l,H1)
  |_=>none
theorem ItR.keeps {v:Value} {xs:List V} (r:ItR σ X μ s.heap v xs) (k:Keeps s s'):ItR σ X μ s'.heap v xs:=by
  obtain ⟨h1,t1,rfl,k1⟩:=k
  cases r with
  |list hi hl hm hv=>
    obtain ⟨o,ho,q⟩:=hl
    obtain ⟨oi,hoi,qi⟩:=hi
    exact .list ⟨oi,k1 _ _ hoi,qi⟩ ⟨o,k1 _ _ ho,q⟩ hm (hv.mv (Mv.keeps k1))
  |range hi=>exact .range (k1 _ _ hi)
theorem itF_eq (f:FE) (ρ:Rho) (H:Hp):itF f ρ H=oFrz (f ρ H) fun l H1=>some (l,H1):=by kernel_rfl
theorem it_ok {f:FE} {l:List V} (h:f ρ H=some (.frz l,H')):itF f ρ H=some (l,H'):=(itF_eq ..).trans (by rw [h];rfl)
theorem itF_some {f:FE} {xs:List V} (q:itF f ρ H=some (xs,H')):f ρ H=some (.frz xs,H'):=by
  obtain ⟨l,H1,q1,q⟩:=ofrz ((itF_eq ..).symm.trans q)
  cases q
  exact q1
theorem noNew {h h':Heap} (t:Stp B μ ν h h') {a:Nat} (ha:h'.objs.size≤a):h.get? a=none:=by
  cases hq:h.get? a with
  |none=>rfl
  |some o=>obtain ⟨o',e'⟩:=t.kp.dom _ _ hq;exact absurd (Heap.lt_size e') (Nat.not_lt.mpr ha)
theorem I.list {e:Expr} {f:FE} (h:SndE B n env names e f):SndI B n env names e (itF f):=fun {A s σ X μ ρ H xs H'} hr w q=>by
  refine nE (h hr w (itF_some q)) fun v s₁ ν w1 r1 t1=>?_
  obtain ⟨a,vs,rfl,hl,hx,hm,rs⟩:=r1.inv
  refine wpAny_pyIter_list hl ?_
  have kp:=keeps_push (s:=s₁) (tk:=s₁.toks) { cls:=Value.type "list_iterator",data:=Data.fields #[Value.ref a,Value.int 0 0] }
  refine ⟨ν,w1.keeps kp,?_,⟨_,rfl,noNew t1 (Nat.le_refl _)⟩,?_,(List.append_nil ν▸Stp.trans (ν':=[]) t1 (Stp.of_keeps kp):Stp B μ ν _ _)⟩
  · exact .list (i:=0) (vs:=_) ⟨_,Heap.get?_push_size _ rfl,rfl,rfl⟩ (isList_keeps hl fun Z Z e=>Heap.get?_push_of_some _ e) hm (rs.keeps kp)
  · intro a' o l t e1 e2 e3
    cases e1
    cases Option.some.inj (e2.symm.trans (Heap.get?_push_size _ rfl))
    cases e3
    exact hx
end
section
variable {B:Base} {n:Nat} {env:Env} {names:List Str} {A:Around} {s s' s'':Shared} {σ:Option Addr} {X:Addr→Prop} {μ ν:List Addr} {ρ ρ':Rho} {H H' H'':Hp} {F:Fl}
theorem Bs.glob (b:Bs B s) (ok:B.Ok):s.heap.Ns mainGlobals B.mg∧s.heap.Ns builtinsNs B.mb:=by
  have ne:∀ {a m},B.h1.Ns a m→a ≠ B.P:=fun {a m} hn e=>by
    obtain ⟨o,es,ep,ho,hd,_⟩:=hn
    rw [e,ok.ptab] at ho;cases ho;cases hd
  exact ⟨ok.g.at fun o e=>b.keep _ o e (ne ok.g),ok.b.at fun o e=>b.keep _ o e (ne ok.b)⟩
theorem glob (ok:B.Ok) (w:Wd B σ X env names ρ μ H s) {x:Str} {v:Value} {pos:Pos} {Q:Value→Shared→Prop} {E:Value→Shared→Prop} (hk:env.kindOf x=some .globalImplicit) (hg:B.mg x=some v) (hd:(x == ("__debug__" : Str))=false) (h:Q v s) :
    wpAny (model B.prog B.w) A (eval (.Name x pos) env) Q E s:=
  Name_function_global w.er.kind hk (loadGlobal_global (by rw [w.er.glob];exact (w.bs.glob ok).1) hg h) hd
theorem globB (ok:B.Ok) (w:Wd B σ X env names ρ μ H s) {x:Str} {v:Value} {pos:Pos} {Q:Value→Shared→Prop} {E:Value→Shared→Prop} (hk:env.kindOf x=some .globalImplicit) (hg:B.mg x=none) (hb:bootBuiltins x=some v) (hn:x ≠ "__name__") (hd:(x == ("__debug__" : Str))=false) (h:Q v s) :
    wpAny (model B.prog B.w) A (eval (.Name x pos) env) Q E s:=
  Name_function_global w.er.kind hk (loadGlobal_builtin (by rw [w.er.glob];exact (w.bs.glob ok).1) hg (by rw [w.er.bltn];exact (w.bs.glob ok).2) (by rw [ok.builtins x hn];exact hb) h) hd
noncomputable def calF (g:Hp→List V→Option V) (fs:List FE):FE:=fun ρ H=>match seqF fs ρ H with
  |some (xs,H1)=>(match g H1 xs with
    |some r=>some (r,H1)
    |none=>none)
  |none=>none
noncomputable def SndO (B:Base) (f:Value) (g:Hp→List V→Option V):Prop:=
  ∀ ⦃A:Around⦄ ⦃s:Shared⦄ ⦃σ:Option Addr⦄ ⦃X:Addr→Prop⦄ ⦃μ:List Addr⦄ ⦃H:Hp⦄ ⦃vs:List Value⦄ ⦃xs:List V⦄ ⦃r:V⦄,Room 1 A→CR σ X μ s.heap H→VRs σ X μ s.heap vs xs→g H xs=some r→
    wpAny (model B.prog B.w) A (call f vs) (OpR σ X μ s r) NoE s
noncomputable def isBT:Value→Bool
  | .builtin _=>true
  | .type _=>true
  |_=>false
theorem starEach_flags {es:List Expr} {fs:List FE} (h:SndL B n env names es fs) {pos:Pos}:(backTo pos (starEach es env)).any (·.1)=false∧(backTo pos (starEach es env)).length=es.length:=by
  induction h with
  |nil=>exact ⟨rfl,rfl⟩
  |cons _ hst hs ih=>
    rw [hst]
    show ((false,_)::backTo pos _).any _=false∧((false,_)::backTo pos _).length=_
    simp only [List.any_cons,Bool.false_or,List.length_cons]
    exact ⟨ih.1,by rw [ih.2]⟩
theorem evalArgs_L {f:Value} {es:List Expr} {fs:List FE} (h:SndL B n env names es fs) {pos:Pos} (hr:Room n A) (w:Wd B σ X env names ρ μ H s) {xs:List V} (q:seqF fs ρ H=some (xs,H')) :
    wpAny (model B.prog B.w) A (evalArgs f true (backTo pos (starEach es env)) []) (fun a s'=>a.kw=[]∧PostL B env names σ X ρ μ s H' xs a.pos s') NoE s:=by
  have e:=evalL (pos:=pos) h hr w q
  cases h with
  |nil=>exact PySem.evalArgs_none (by
      simp only [seqF,Option.some.injEq,Prod.mk.injEq] at q
      obtain ⟨rfl,rfl⟩:=q
      exact ⟨rfl,[],by rw [List.append_nil];exact w,.nil,.refl⟩)
  |cons h hst hs=>
    rw [hst] at e ⊢
    exact evalArgs_plain (noE e fun vs s' p=>⟨rfl,p⟩)
theorem calF_some {g:Hp→List V→Option V} {fs:List FE} {r:V} (e:calF g fs ρ H=some (r,H')):∃ xs,seqF fs ρ H=some (xs,H')∧g H' xs=some r:=by
  unfold calF at e
  split at e
  · split at e
    · cases e;exact ⟨_,‹_›,‹_›⟩
    · first | exact no e | cases e
  · first | exact no e | cases e
theorem callBT {pos:Pos} {f:Value} (hf:isBT f=true) {es:List Expr} {fs:List FE} (h:SndL B n env names es fs) (hr:Room n A) (w:Wd B σ X env names ρ μ H s) {xs:List V} (q:seqF fs ρ H=some (xs,H')) {Q:Value→Shared→Prop}
    (hQ:∀ vs s',PostL B env names σ X ρ μ s H' xs vs s'→wpAny (model B.prog B.w) A (call f vs) Q NoE s') :
    wpAny (model B.prog B.w) A (callWith pos f [] (backTo pos (starEach es env)) []) Q NoE s:=by
  have e:=evalArgs_L (f:=f) (pos:=pos) h hr w q
  have fl:=(starEach_flags h (pos:=pos)).1
  cases f with
  |builtin id=>exact callWith_builtin fl (noE e fun a s' ⟨hk,p⟩=>by rw [hk];exact hQ _ _ p)
  |type T=>exact PySem.callWith_type fl (noE e fun a s' ⟨hk,p⟩=>by rw [hk];exact hQ _ _ p)
  |_=>cases hf
structure BtAt (B:Base) (env:Env) (x:Str) (v:Value):Prop where
  hk:env.kindOf x=some .globalImplicit
  hg:B.mg x=none
  hb:bootBuiltins x=some v
  hn:x ≠ "__name__"
  hd:(x == ("__debug__" : Str))=false
  bt:isBT v=true
theorem S.call {x:Str} {np pos:Pos} {v:Value} {g:Hp→List V→Option V} {es:List Expr} {fs:List FE} (ok:B.Ok) (bt:BtAt B env x v) (h:SndL B n env names es fs) (hop:SndO B v g) (hn:1≤n):SndE B n env names (.Call (.Name x np) es [] pos) (calF g fs):=fun {A s σ X μ ρ H R H'} hr w e=>by
  obtain ⟨xs,q,q2⟩:=calF_some e
  refine wpAny_Call_NameR (globB ok w bt.hk bt.hg bt.hb bt.hn bt.hd ?_)
  refine callBT bt.bt h hr w q fun vs s' hx=>?_
  obtain ⟨ν,w1,r1,t1⟩:=hx
  exact n2 (hop (hr.le hn) w1.cr r1 q2) fun v s'' k r=>PostE.after t1 (PostE.of w1 k r)
theorem VRs.inv1 {h:Heap} {vs:List Value} {x:V} (r:VRs σ X μ h vs [x]):∃ v,vs=[v]∧VR σ X μ h v x:=by
  obtain ⟨v,_,e,a,b⟩:=r.inv
  exact ⟨v,by rw [e,show _=[] from b.inv],a⟩
theorem VRs.inv2 {h:Heap} {vs:List Value} {x y:V} (r:VRs σ X μ h vs [x,y]):∃ v w,vs=[v,w]∧VR σ X μ h v x∧VR σ X μ h w y:=by
  obtain ⟨v,_,e,a,b⟩:=r.inv
  obtain ⟨w,e2,c⟩:=b.inv1
  exact ⟨v,w,by rw [e,e2],a,c⟩
theorem VRs.inv3 {h:Heap} {vs:List Value} {x y z:V} (r:VRs σ X μ h vs [x,y,z]):∃ v w u,vs=[v,w,u]∧VR σ X μ h v x∧VR σ X μ h w y∧VR σ X μ h u z:=by
  obtain ⟨v,_,e,a,b⟩:=r.inv
  obtain ⟨w,u,e2,c,d⟩:=b.inv2
  exact ⟨v,w,u,by rw [e,e2],a,c,d⟩
noncomputable def lenG:Hp→List V→Option V:=fun H xs=>match xs with
  |[x]=>(match x with
    | .str l=>if l.length≤SZ then some (.int l.length) else none
    | .frz l=>if l.length≤SZ then some (.int l.length) else none
    | .lst i=>(match H[i]? with
      |some l=>if l.length≤SZ then some (.int l.length) else none
      |none=>none)
    |_=>none)
  |_=>none
inductive LenI (H:Hp):V→Nat→Prop
  |str (l:List Nat):LenI H (.str l) l.length
  |frz (l:List V):LenI H (.frz l) l.length
  |lst (i:Nat) (l:List V) (h:H[i]?=some l):LenI H (.lst i) l.length
theorem lenG_some {xs:List V} {r:V} (e:lenG H xs=some r):∃ x k,xs=[x]∧LenI H x k∧k≤SZ∧r=.int k:=by
  cases xs with
  |nil=>exact no e
  |cons x xs=>cases xs with
    |cons=>exact no e
    |nil=>cases x with
      |str l=>obtain ⟨h,rfl⟩:=ite_some e;exact ⟨_,_,rfl,.str l,h,rfl⟩
      |frz l=>obtain ⟨h,rfl⟩:=ite_some e;exact ⟨_,_,rfl,.frz l,h,rfl⟩
      |lst i=>
        unfold lenG at e
        dsimp only at e
        cases q:H[i]? with
        |none=>rw [q] at e;exact no e
        |some l=>rw [q] at e;obtain ⟨h,rfl⟩:=ite_some e;exact ⟨_,_,rfl,.lst i l q,h,rfl⟩
      |_=>exact no e
theorem len_lst {a:Addr} {vs:List Value} {xs:List V} (hl:LstA s.heap a vs) (rs:VRs σ X μ s.heap vs xs) (h:xs.length≤SZ):wpAny (model B.prog B.w) A (call (.builtin "len") [.ref a]) (OpR σ X μ s (.int xs.length)) NoE s:=by
  have e:vs.toArray.size=xs.length:=rs.length
  have hz:vs.toArray.size < 2 ^ 63:=by rw [e];simp only [SZ] at h;omega
  exact Calls.call_len_list hl (by omega) ⟨⟨_,_,rfl,fun Z Z e=>e⟩,e ▸ .int _ _⟩
theorem O.len:SndO B (.builtin "len") lenG:=fun {A s σ X μ H vs xs r} hr c rs e=>by
  obtain ⟨x,k,rfl,h,hk,rfl⟩:=lenG_some e
  obtain ⟨v,rfl,r1⟩:=rs.inv1
  cases h with
  |str l=>
    obtain ⟨t,rfl⟩:=r1.inv
    simp only [SZ] at hk
    have q:(⟨l.toArray⟩ : Str).length=l.length:=rfl
    refine call_len_gives (v:=.str _ _) (T := "str") (typeIs_str ..) F.slot_str_len F.entry_str_len (F.args_str_len_1 _) (gives_str_len _ _) (by omega) ?_ ⟨⟨_,_,rfl,fun Z Z e=>e⟩,q ▸ .int _ _⟩
    show ¬ ((l.length:Nat):Int)≥2 ^ 63
    omega
  |frz l=>obtain ⟨a,vs,rfl,hl,_,_,rs⟩:=r1.inv;exact len_lst hl rs hk
  |lst i l hi=>
    obtain ⟨a,rfl,h1⟩:=r1.inv
    obtain ⟨vs,p,rv⟩:=c.cell _ _ _ h1 hi
    exact len_lst p.isList rv hk
end
noncomputable def rngG:List V→Option (List V)
  |[x]=>(match x with
    | .int b=>if b.natAbs≤SZ then some (rngL 0 1 (b - 0).toNat) else none
    |_=>none)
  |[x,y]=>(match x with
    | .int a=>(match y with
      | .int b=>if a.natAbs≤SZ∧b.natAbs≤SZ then some (rngL a 1 (b - a).toNat) else none
      |_=>none)
    |_=>none)
  |[x,y,z]=>(match x with
    | .int a=>(match y with
      | .int b=>(match z with
        | .int c=>if a.natAbs≤SZ∧b.natAbs≤SZ∧c = -1 then some (rngL a (-1) (a - b).toNat) else none
        |_=>none)
      |_=>none)
    |_=>none)
  |_=>none
noncomputable def rngF (fs:List FE):FL:=fun ρ H=>match seqF fs ρ H with
  |some (xs,H1)=>(match rngG xs with
    |some r=>some (r,H1)
    |none=>none)
  |none=>none
section
variable {B:Base} {n:Nat} {env:Env} {names:List Str} {A:Around} {s s' s'':Shared} {σ:Option Addr} {X:Addr→Prop} {μ ν:List Addr} {ρ ρ':Rho} {H H' H'':Hp} {F:Fl}
theorem nat62 {a:Int} (h:a.natAbs≤SZ) : -(2 ^ 62)≤a∧a < 2 ^ 62:=by
  simp only [SZ] at h;omega
theorem small_one {a b:Int} (ha:a.natAbs≤SZ) (hb:b.natAbs≤SZ):Builtin.Range.small a b 1=true:=PySem.small_one (nat62 ha).1 (nat62 ha).2 (nat62 hb).1 (nat62 hb).2
theorem small_down' {a b:Int} (ha:a.natAbs≤SZ) (hb:b.natAbs≤SZ):Builtin.Range.small a b (-1)=true:=PySem.W.small_down (nat62 ha).1 (nat62 ha).2 (nat62 hb).1 (nat62 hb).2
theorem iter_range (w:Wd B σ X env names ρ (μ++ν) H s') (t:Stp B μ ν s.heap s'.heap) {a b c:Int} {u v x:Tok} {l:Nat} {tk:Nat} (hs:Builtin.Range.small a b c=true) (hl:Builtin.Range.rangeSize a b c=(l:Int)) :
    wpAny (model B.prog B.w) A (pyIter (.ref s'.heap.objs.size)) (PostI B env names σ X ρ μ s H (rngL a c l)) NoE { s' with heap:=s'.heap.push { cls:=.type "range",data:=.fields #[.int a u,.int b v,.int c x] },toks:=tk }:=by
  refine wpAny_pyIter_range (r:=s'.heap.objs.size) (Heap.get?_push_size _ rfl) hs ?_
  have k1:Keeps s' { s' with heap:=s'.heap.push { cls:=.type "range",data:=.fields #[.int a u,.int b v,.int c x] },toks:=tk }:=keeps_push _
  have k2:=keeps_trans k1 (keeps_push (s:={ s' with heap:=s'.heap.push { cls:=.type "range",data:=.fields #[.int a u,.int b v,.int c x] },toks:=tk }) (tk:=tk) { cls:=.type "range_iterator",data:=.fields #[rawInt a,rawInt (Builtin.Range.rangeSize a b c),rawInt c] })
  refine ⟨ν,w.keeps k2,.range (k:=l) ?_,⟨_,rfl,noNew t ?_⟩,?_,(List.append_nil ν▸Stp.trans (ν':=[]) t (Stp.of_keeps k2):Stp B μ ν _ _)⟩
  · rw [hl];exact Heap.get?_push_size _ rfl
  · rw [Heap.size_push];exact Nat.le_succ _
  · intro a' o l' t' e1 e2 e3
    cases e1
    cases Option.some.inj (e2.symm.trans (Heap.get?_push_size _ rfl))
    cases e3
inductive RngI:List V→List V→Prop
  |one (b:Int) (h:b.natAbs≤SZ):RngI [.int b] (rngL 0 1 (b - 0).toNat)
  |two (a b:Int) (h:a.natAbs≤SZ∧b.natAbs≤SZ):RngI [.int a,.int b] (rngL a 1 (b - a).toNat)
  |three (a b:Int) (h:a.natAbs≤SZ∧b.natAbs≤SZ):RngI [.int a,.int b,.int (-1)] (rngL a (-1) (a - b).toNat)
theorem rngG_some {xs r:List V} (e:rngG xs=some r):RngI xs r:=by
  cases xs with
  |nil=>exact no e
  |cons x xs=>cases xs with
    |nil=>cases x with
      |int a=>obtain ⟨h,rfl⟩:=ite_some e;exact .one a h
      |_=>exact no e
    |cons y xs=>cases xs with
      |nil=>cases x with
        |int a=>cases y with
          |int b=>obtain ⟨h,rfl⟩:=ite_some e;exact .two a b h
          |_=>exact no e
        |_=>exact no e
      |cons z xs=>cases xs with
        |cons=>exact no e
        |nil=>cases x with
          |int a=>cases y with
            |int b=>cases z with
              |int c=>obtain ⟨⟨h1,h2,rfl⟩,rfl⟩:=ite_some e;exact .three a b ⟨h1,h2⟩
              |_=>exact no e
            |_=>exact no e
          |_=>exact no e
theorem rngF_eq (fs:List FE) (ρ:Rho) (H:Hp):rngF fs ρ H=obd (seqF fs ρ H) fun xs H1=>obn (rngG xs) fun r=>some (r,H1):=by kernel_rfl
theorem I.range {np pos:Pos} {es:List Expr} {fs:List FE} (ok:B.Ok) (bt:BtAt B env "range" (.type "range")) (h:SndL B n env names es fs):SndI B n env names (.Call (.Name "range" np) es [] pos) (rngF fs):=fun {A s σ X μ ρ H xs H'} hr w e=>by
  obtain ⟨ys,H1,q,e⟩:=bnd ((rngF_eq _ _ _).symm.trans e)
  obtain ⟨r,q2,e⟩:=bn1 e
  cases e
  refine wpAny_Call_NameR (globB ok w bt.hk bt.hg bt.hb bt.hn bt.hd ?_)
  refine callBT bt.bt h hr w q fun vs s' hx=>?_
  obtain ⟨ν,w1,r1,t1⟩:=hx
  cases rngG_some q2 with
  |one b hb=>
    obtain ⟨v,rfl,rv⟩:=r1.inv1
    obtain ⟨_,rfl⟩:=rv.inv
    exact call_range_1 (iter_range w1 t1 (small_one (by decide) hb) (by rw [rangeSize_nat]))
  |two a b hb=>
    obtain ⟨v,u,rfl,rv,ru⟩:=r1.inv2
    obtain ⟨_,rfl⟩:=rv.inv
    obtain ⟨_,rfl⟩:=ru.inv
    exact call_range_2 (iter_range w1 t1 (small_one hb.1 hb.2) (by rw [rangeSize_nat]))
  |three a b hb=>
    obtain ⟨v,u,y,rfl,rv,ru,ry⟩:=r1.inv3
    obtain ⟨_,rfl⟩:=rv.inv
    obtain ⟨_,rfl⟩:=ru.inv
    obtain ⟨_,rfl⟩:=ry.inv
    exact call_range_3 (by decide) (iter_range w1 t1 (small_down' hb.1 hb.2) (by rw [rangeSize_downNat])) (.inl rfl)
end
section
variable {B:Base} {n:Nat} {env:Env} {names:List Str} {A:Around} {s s' s'':Shared} {σ:Option Addr} {X:Addr→Prop} {μ ν:List Addr} {ρ ρ':Rho} {H H' H'':Hp} {F:Fl}
theorem CR.at (c:CR σ X μ s.heap H) {i:Nat} {a:Addr} (hi:μ[i]?=some a):∃ l,H[i]?=some l:=by
  have:i < H.length:=by rw [← c.len];exact (List.getElem?_eq_some_iff.mp hi).1
  exact ⟨_,List.getElem?_eq_getElem this⟩
theorem Wd.cell (w:Wd B σ X env names ρ μ H s) {i:Nat} {a:Addr} (hi:μ[i]?=some a) {h':Heap} {tk:Nat} {ws:List Value} {xs:List V} (p:PlnA h' a ws) (sb:Heap.SameBut a s.heap h') (r:VRs σ X μ s.heap ws xs) :
    Wd B σ X env names ρ μ (H.set i xs) { s with heap:=h',toks:=tk }∧Stp B μ [] s.heap h'∧Mv X X μ μ s.heap h':=by
  obtain ⟨l,hl⟩:=w.cr.at hi
  have hmem:a ∈ μ:=List.mem_of_getElem? hi
  obtain ⟨vs,⟨n,pv⟩,rv⟩:=w.cr.cell i a l hi hl
  have keep:∀ b o,s.heap.get? b=some o→¬ (o.cls=.type "list" ∧ b=a)→h'.get? b=some o:=fun b o e q=>by
    by_cases hb:b=a
    · subst hb;rw [pv] at e;cases e;exact absurd ⟨rfl,rfl⟩ q
    · exact (sb.2 b hb).trans e
  have mv:Mv X X μ μ s.heap h':=⟨fun b o e v=>keep b o e (by
      rintro ⟨hc,rfl⟩
      rcases v with ⟨v,_⟩ | ⟨_,_,_,v⟩ | ⟨v,_⟩
      · rw [hc] at v;simp at v
      · exact v hmem
      · rw [hc] at v;simp at v),fun Z Z e=>e,fun Z Z Z a b=>⟨a,b⟩⟩
  have stp:Stp B μ [] s.heap h':=⟨⟨fun b o e q Z=>keep b o e (by rintro ⟨_,rfl⟩;exact q hmem),fun b o e=>by
      by_cases hb:b=a
      · subst hb;obtain ⟨k,q⟩:=p;exact ⟨_,q⟩
      · exact ⟨o,(sb.2 b hb).trans e⟩⟩,fun Z h=>(nomatch h)⟩
  refine ⟨⟨⟨fun b o e q=>keep b o (w.bs.keep b o e q) (by rintro ⟨_,rfl⟩;rw [w.ow.m _ hmem] at e;cases e),?_,w.bs.gens,w.bs.os⟩,?_,?_,w.ow⟩,stp,mv⟩
  · obtain ⟨ps,e,t1,t2⟩:=w.bs.tab
    refine ⟨ps,keep _ _ e (by rintro ⟨hc,_⟩;simp at hc),t1,fun pos c' q=>?_⟩
    obtain ⟨y,c,o,us,t,e1,e2,e3,e4⟩:=t2 pos c' q
    refine ⟨y,c,o,us,t,e1,keep _ _ e2 ?_,e3,e4⟩
    rintro ⟨_,rfl⟩
    rw [pv] at e2;cases e2;cases e3
  · refine ⟨by simp [w.cr.len],fun j b k e1 e2=>?_,w.cr.nd,fun b hb=>?_,w.cr.xd,fun b e=>keep _ _ (w.cr.st b e) (by rintro ⟨hc,_⟩;simp [starObj] at hc)⟩
    · by_cases hj:j=i
      · subst hj
        rw [hi] at e1;cases e1
        have hlt:j < H.length:=(List.getElem?_eq_some_iff.mp hl).1
        rw [List.getElem?_set_self hlt] at e2;cases e2
        exact ⟨ws,p,r.mv mv⟩
      · rw [List.getElem?_set_ne (fun q=>hj q.symm)] at e2
        obtain ⟨us,⟨m,pu⟩,ru⟩:=w.cr.cell j b k e1 e2
        refine ⟨us,⟨m,(sb.2 b ?_).trans pu⟩,ru.mv mv⟩
        rintro rfl
        exact hj ((List.getElem?_inj (List.getElem?_eq_some_iff.mp e1).1 w.cr.nd).mp (e1.trans hi.symm))
    · obtain ⟨its,o,q,r1,r2⟩:=w.cr.xl b hb
      exact ⟨its,o,keep _ _ q (by rintro ⟨_,rfl⟩;exact w.cr.xd _ hmem hb),r1,r2⟩
  · refine ⟨w.er.kind,w.er.glob,w.er.bltn,?_,?_,w.er.apart,?_⟩
    · obtain ⟨m,⟨o,es,ep,ho,hd,hk⟩,hm⟩:=w.er.ns
      refine ⟨m,⟨o,es,ep,keep _ _ ho ?_,hd,hk⟩,fun j z Y e1 e2 e3=>let ⟨u,p,q⟩:=hm j z Y e1 e2 e3;⟨u,p,q.mv mv⟩⟩
      rintro ⟨_,q⟩;rw [q,pv] at ho;cases ho;cases hd
    · intro j z e1 e2
      obtain ⟨c,ov,p,⟨o,ho,hd⟩,t⟩:=w.er.cells j z e1 e2
      refine ⟨c,ov,p,⟨o,keep _ _ ho ?_,hd⟩,fun Y e3=>let ⟨u,p,q⟩:=t Y e3;⟨u,p,q.mv mv⟩⟩
      rintro ⟨_,q⟩;rw [q,pv] at ho;cases ho;cases hd
    · intro x xc hx
      obtain ⟨ov,o,ho,hd⟩:=w.er.cs x _ hx
      refine ⟨ov,o,keep _ _ ho ?_,hd⟩
      rintro ⟨_,q⟩;rw [q,pv] at ho;cases ho;cases hd
theorem PostE.cellSet (w:Wd B σ X env names ρ μ H s) {i:Nat} {a:Addr} (hi:μ[i]?=some a) {h':Heap} {tk:Nat} {ws:List Value} {xs:List V} (p:PlnA h' a ws) (sb:Heap.SameBut a s.heap h') (r:VRs σ X μ s.heap ws xs) {v:Value} {x:V} (rv:VR σ X μ s.heap v x) :
    PostE B env names σ X ρ μ s (H.set i xs) x v { s with heap:=h',toks:=tk }:=by
  obtain ⟨a1,a2,a3⟩:=w.cell (tk:=tk) hi p sb r
  refine ⟨[],by rw [List.append_nil];exact a1,by rw [List.append_nil];exact rv.mv a3,a2⟩
noncomputable def apdF (fo fe:FE):FE:=fun ρ H=>match fo ρ H with
  |some (.lst i,H1)=>(match fe ρ H1 with
    |some (x,H2)=>(match H2[i]? with
      |some l=>if l.length < SZ then some (.none,H2.set i (l++[x])) else none
      |none=>none)
    |none=>none)
  |_=>none
inductive ApdI (fo fe:FE) (ρ:Rho) (H:Hp):V→Hp→Prop
  |mk (i:Nat) (H1:Hp) (x:V) (H2:Hp) (l:List V) (q1:fo ρ H=some (.lst i,H1)) (q2:fe ρ H1=some (x,H2)) (q3:H2[i]?=some l) (hl:l.length < SZ):ApdI fo fe ρ H .none (H2.set i (l++[x]))
theorem apdF_eq {fo fe:FE}:apdF fo fe ρ H=oLst (fo ρ H) fun i H1=>obd (fe ρ H1) fun x H2=>obn H2[i]? fun l=>if l.length < SZ then some (V.none,H2.set i (l++[x])) else none:=by kernel_rfl
theorem apdF_some {fo fe:FE} {R:V} (q:apdF fo fe ρ H=some (R,H')):ApdI fo fe ρ H R H':=by
  obtain ⟨i,H1,q1,q⟩:=olst (apdF_eq.symm.trans q)
  obtain ⟨x,H2,q2,q⟩:=bnd q
  obtain ⟨l,q3,q⟩:=bn1 q
  obtain ⟨hl,q⟩:=ite_some q
  cases q
  exact .mk i H1 x H2 l q1 q2 q3 hl
theorem S.append {o e:Expr} {fo fe:FE} {apos pos:Pos} (ho:SndE B n env names o fo) (he:SndE B n env names e fe) (h1:attributeBase o (Str.ofString "append") env (eval o env)=eval o env)
    (h2:(((List.all (backTo pos (starEach [e] env)) fun x=>!x.fst) && List.all (backToKw pos (keywordEach [] env)) fun x=>Option.isSome x.fst) && decide ((List.length [e]+List.length ([]:List Keyword)+if List.isEmpty ([]:List Keyword)=true then 0 else 1) < 30))=true)
    (h3:(apos.endLine == pos.line)=true) (h4:backTo pos (starEach [e] env)=[(false,eval e env)]):SndE B n env names (.Call (.Attribute o "append" apos) [e] [] pos) (apdF fo fe):=fun {A s σ X μ ρ H R H'} hr w q=>by
  obtain ⟨i,H1,x,H2,l,q1,q2,q3,hlen⟩:=apdF_some q
  refine wpAny_Call_append h1 h2 h3 h4 (nE (ho hr w q1) fun va s₁ ν1 w1 r1 t1=>?_)
  cases r1 with
  |@lst a _ hi=>
    obtain ⟨l0,hl0⟩:=w1.cr.at hi
    obtain ⟨vs,⟨m,p⟩,rv⟩:=w1.cr.cell _ _ _ hi hl0
    refine ⟨a,_,rfl,⟨_,m,p,rfl,rfl,rfl⟩,nE (he hr w1 q2) fun y s₂ ν2 w2 r2 t2=>?_⟩
    have hi2:(μ++ν1++ν2)[i]?=some a:=by
      rw [List.getElem?_append_left]
      · exact hi
      · exact (List.getElem?_eq_some_iff.mp hi).1
    obtain ⟨vs2,p2,rv2⟩:=w2.cr.cell _ _ _ hi2 q3
    have hl2:=rv2.length
    refine wpAny_list_append_plain p2 (fun h' p' sb=>?_) (by rw [← sz_eq];simp;omega)
    have p'':PlnA h' a (vs2++[y]):=by
      have:(vs2++[y]).toArray=vs2.toArray.push y:=by simp
      show Heap.PlainList h' a (vs2++[y]).toArray
      rw [this];exact p'
    exact PostE.after t1 (PostE.after t2 (PostE.cellSet w2 hi2 p'' sb (rv2.append (.one r2)) .none))
end
theorem slot_md_get:Slot "method_descriptor" "__get__" "method_descriptor.__get__" :=
  .of (owner := "method_descriptor") (n := "__get__") (by rw [typeLookup_type,builtinLookup_eq_fast];kernel_rfl) (by decide +kernel) (by decide +kernel) (by decide +kernel)
    (by first | exact .inl (by decide +kernel) | exact .inr (by decide +kernel)) (by rw [isSubtype_type];kernel_rfl)
theorem entry_md_get:entryFor table "method_descriptor.__get__" = some Builtin.«method_descriptor.__get__» := entryFor_of_tree (by kernel_rfl)
theorem args_md_get (a b c:Value):argsOk "method_descriptor.__get__" ⟨[a,b,c],[]⟩:=by unfold argsOk;kernel_rfl
theorem lk_md_set:typeLookup (.type "method_descriptor") "__set__" = pure none:=by rw [typeLookup_type,builtinLookup_eq_fast];kernel_rfl
theorem lk_md_delete:typeLookup (.type "method_descriptor") "__delete__" = pure none:=by rw [typeLookup_type,builtinLookup_eq_fast];kernel_rfl
theorem told_append:Manifest.toldItsClass.contains "list.append" = false:=by decide +kernel
section
variable {prog:Program} {w:World} {A:Around} {E:Value→Shared→Prop} {s:Shared}
theorem if_so {α:Type} {M:Model} {c:Bool} {a b:Sem α} {Q:α→Shared→Prop} (hc:c=true) (h:wpAny M A a Q E s):wpAny M A (if c=true then a else b) Q E s:=by
  subst hc
  exact h
theorem if_no {α:Type} {M:Model} {c:Bool} {a b:Sem α} {Q:α→Shared→Prop} (hc:c=false) (h:wpAny M A b Q E s):wpAny M A (if c=true then a else b) Q E s:=by
  subst hc
  exact h
theorem md_get {b:Addr} {its:Array Value} {m:Nat} {P:Fin→Shared→Prop} (hb:s.heap.get? b=some { cls:=.type "list",data:=.seq its m })
    (h:P (.done (.ret (.ref s.heap.objs.size))) { s with heap:=s.heap.push { cls:=.type "builtin_function_or_method",data:=.fields #[.builtin "list.append",.ref b] } }) :
    wpAny (model prog w) A (Builtin.«method_descriptor.__get__» ⟨[.builtin "list.append",.ref b,.type "list"],[]⟩) P E s:=by
  have hT:s.TypeIs (.ref b) "list" := ⟨_,hb,rfl⟩
  unfold Builtin.«method_descriptor.__get__»
  refine wpAny_bind (wpAny_of_eq (a:=(.builtin "list.append",some (.ref b),some (.type "list"))) (by first | rfl | kernel_rfl) ?_)
  refine if_no told_append (wpAny_bind (wpAny_bind (wpAny_of_eq (a:=(Str.ofString "append",.type "list")) (by first | rfl | kernel_rfl) ?_)))
  refine wpAny_bind (wpAny_isInstance hT F.sub_list_list ?_)
  refine wpAny_pure ?_
  exact wpAny_bind (wpAny_newObj_type (wpAny_pure h))
theorem ga_list {b:Addr} {its:Array Value} {m:Nat} {t:Tok} {P:Fin→Shared→Prop} (hb:s.heap.get? b=some { cls:=.type "list",data:=.seq its m })
    (h:P (.done (.ret (.ref s.heap.objs.size))) { s with heap:=s.heap.push { cls:=.type "builtin_function_or_method",data:=.fields #[.builtin "list.append",.ref b] } }) :
    wpAny (model prog w) A (Builtin.«object.__getattribute__» ⟨[.ref b,.str "append" t],[]⟩) P E s:=by
  have hT:s.TypeIs (.ref b) "list" := ⟨_,hb,rfl⟩
  have f4:=F.slot_list_append.lookup
  have f5:=F.type_list_append
  have f6:=slot_md_get.lookup
  have f7:=lk_md_set
  have f8:=lk_md_delete
  have hg:wpAny (model prog w) A (call (.builtin "method_descriptor.__get__") [.builtin "list.append",.ref b,.type "list"]) (fun v s'=>P (.done (.ret v)) s') E s:=
    wpAny_call_entry slot_md_get F.type_list_append entry_md_get (md_get hb ⟨_,rfl,h⟩) (args_md_get _ _ _)
  unfold Builtin.«object.__getattribute__»
  refine wpAny_bind (wpAny_of_eq (a:=(.ref b,[.str "append" t])) rfl ?_)
  refine wpAny_bind (wpAny_of_eq (a:=(Str.ofString "append")) rfl ?_)
  refine wpAny_bind (wpAny_typeOf hT ?_)
  refine wpAny_bind ?_
  unfold Builtin.ObjectAttr.find
  refine wpAny_bind (wpAny_of_eq f4 ?_)
  unfold Builtin.ObjectAttr.getOf
  refine wpAny_bind (wpAny_specialOf_val f5 f6 ?_)
  unfold Builtin.ObjectAttr.dataDescriptor?
  refine wpAny_bind (wpAny_bind ?_)
  unfold Builtin.ObjectAttr.takesStores
  refine wpAny_bind (wpAny_specialOf_val f5 f7 ?_)
  refine wpAny_bind (wpAny_specialOf_val f5 f8 ?_)
  refine wpAny_pure (wpAny_pure ?_)
  unfold Builtin.ObjectAttr.ownThenClass
  refine wpAny_bind ?_
  unfold Builtin.ObjectAttr.inOwnDict
  refine wpAny_bind ?_
  unfold Builtin.ObjectAttr.ownDict
  refine wpAny_bind (wpAny_loadPart_at hb ?_)
  unfold instanceDict
  refine wpAny_bind (wpAny_loadPart_at hb (if_so rfl (wpAny_pure ?_)))
  unfold Builtin.ObjectAttr.inDict
  refine wpAny_pure ?_
  unfold Builtin.ObjectAttr.copiedAttributeGuard
  refine wpAny_bind ?_
  refine if_no (by decide +kernel) ?_
  refine wpAny_pure ?_
  unfold Builtin.ObjectAttr.byTheClass
  refine wpAny_bind (wpAny_rule (wpAny_pure ?_))
  unfold Builtin.ObjectAttr.bindTo
  refine wpAny_bind (wpAny_holding (wpAny_mono hg (fun v s' h'=>wpAny_pure h') fun Z Z e=>e))
theorem lk_list_ga:typeLookup (.type "list") "__getattribute__" = pure (some (.builtin "list.__getattribute__")):=F.slot_list_getattribute.lookup
theorem attr_append {b:Addr} {its:Array Value} {m:Nat} {expr:Bool} {Q:Value→Shared→Prop} (hb:s.heap.get? b=some { cls:=.type "list",data:=.seq its m })
    (h:Q (.ref s.heap.objs.size) { s with heap:=s.heap.push { cls:=.type "builtin_function_or_method",data:=.fields #[.builtin "list.append",.ref b] },toks:=s.toks+1 }) :
    wpAny (model prog w) A (getAttr (.ref b) "append" expr) Q E s:=by
  have hT:({ s with toks:=s.toks+1 }:Shared).TypeIs (.ref b) "list" := ⟨_,hb,rfl⟩
  unfold getAttr
  refine wpAny_bind (wpAny_mkText ?_)
  unfold getAttrBy
  refine wpAny_holding (wpAny_bind (wpAny_typeOf hT (wpAny_bind (wpAny_of_eq lk_list_ga ?_))))
  refine if_no (by decide +kernel) ?_
  unfold getAttrByItsOwn hookBefore
  refine wpAny_bind (if_no (by decide +kernel) (wpAny_pure (wpAny_bind (wpAny_attempt (wpAny_holding ?_)))))
  unfold callGetattribute
  refine if_no (Bool.and_false _) ?_
  unfold boundAndCalled
  rw [F.slot_list_getattribute.bind]
  refine wpAny_bind (wpAny_pure ?_)
  show wpAny _ _ (call (.builtin "list.__getattribute__") [.ref b,.str "append" s.toks]) _ _ _
  refine wpAny_call_entry F.slot_list_getattribute hT am_entry_list_getattribute (ga_list hb ⟨_,rfl,?_⟩) (F.args_list_getattribute_2 _ _)
  unfold handedOut
  exact wpAny_pure h
theorem callWith_app {M:Model} {a b:Addr} {pos:Pos} {first:List Value} {args:List (Bool×Sem Value)} {Q:Value→Shared→Prop} (hplain:args.any (·.1)=false)
    (h:wpAny M A (evalArgs (.ref a) true args []) (fun x s₁=>AppObj s₁.heap a b∧wpAny M A (call (.ref a) (first++x.pos) x.kw) Q E s₁) E s):wpAny M A (callWith pos (.ref a) first args []) Q E s:=by
  unfold callWith
  refine wpAny_bind (wpAny_holding (wpAny_mono h (fun x s₁ h₁=>wpAny_bind (wpAny_standAt ?_)) fun Z Z x=>x))
  obtain ⟨ho,hcall⟩:=h₁
  rw [hplain]
  refine wpAny_bind (m:=keeperOf (.ref a)) ?_
  unfold keeperOf
  refine wpAny_bind (wpAny_load ho (if_so rfl (wpAny_pure ?_)))
  exact wpAny_bind (wpAny_mono hcall (fun r s₂ hr=>wpAny_bind (wpAny_holding (wpAny_point (wpAny_pure hr)))) fun Z Z x=>x)
theorem sig_append {b:Addr} {x:Value} {sig} (h:Manifest.signature? "list.append" = some sig):Bind.checkArgs "list.append" { sig with full:=s!"{Bind.lastOf "list"}.{Bind.lastOf "list.append"}" } ⟨[.ref b,x],[]⟩ = pure ():=by
  have q:(Manifest.signature? "list.append").map (fun sig=>Bind.checkArgs "list.append" { sig with full:=s!"{Bind.lastOf "list"}.{Bind.lastOf "list.append"}" } ⟨[.ref b,x],[]⟩)=some (pure ()):=by kernel_rfl
  rw [h] at q
  exact Option.some.inj q
theorem sub_list_module:isSubtype (.type "list") (.type "module")=pure false:=by rw [isSubtype_type];kernel_rfl
theorem check_app {M:Model} {b:Addr} {x:Value} {its:Array Value} {n:Nat} {Q:Unit→Shared→Prop} (hb:s.heap.get? b=some { cls:=.type "list",data:=.seq its n }) (h:Q () s) :
    wpAny M A (checkBoundCall "list.append" ⟨[.ref b,x],[]⟩) Q E s:=by
  have hT:s.TypeIs (.ref b) "list" := ⟨_,hb,rfl⟩
  unfold checkBoundCall
  cases hs:Manifest.signature? "list.append" with
  |none=>exact absurd (show (Manifest.signature? "list.append").isSome=true by decide +kernel) (by rw [hs];decide)
  |some sig=>
    rw [show builtinKind "list.append" = some .method by decide +kernel]
    refine if_no (by decide) ?_
    refine wpAny_bind (wpAny_isInstance hT sub_list_module ?_)
    refine if_no (by decide +kernel) ?_
    refine wpAny_bind ?_
    unfold isType
    refine wpAny_bind (wpAny_loadPart_at hb (wpAny_pure ?_))
    refine if_no rfl ?_
    refine wpAny_bind (wpAny_typeOf hT ?_)
    exact wpAny_of_eq (sig_append hs) h
theorem call_app {a b:Addr} {x:Value} {its:Array Value} {Q:Value→Shared→Prop} (ho:AppObj s.heap a b) (hl:s.heap.PlainList b its) (hsz:its.size≤sizeLine)
    (hQ:∀ h':Heap,h'.PlainList b (its.push x)→Heap.SameBut b s.heap h'→Q .none { s with heap:=h' }):wpAny (model prog w) A (call (.ref a) [x]) Q E s:=by
  obtain ⟨n,ho2⟩:=hl
  refine wpAny_call (codeAny_of_tree ?_)
  show wpAny _ A.in1 (callAny (.ref a) ⟨[x],[]⟩) _ _ s
  refine wpAny_bind (wpAny_load ho ?_)
  refine if_so rfl ?_
  refine wpAny_bind (check_app ho2 ?_)
  refine wpAny_bind (wpAny_pure (wpAny_pure ?_))
  refine ⟨Code.quiet_builtin _ (by decide +kernel),codeAny_builtin F.entry_list_append ?_⟩
  show wpAny _ _ (updateSeq b (·.push x) >>= fun Z=>ret .none) _ _ s
  refine wpAny_bind (wpAny_updateSeq ho2 rfl (wpAny_pure ?_))
  refine hQ _ ?_ (Heap.SameBut.update ..)
  exact ⟨_,IsL.update (n:=n) ho2 _⟩
end
section
variable {B:Base} {n:Nat} {env:Env} {names:List Str} {A:Around} {s s' s'':Shared} {σ:Option Addr} {X:Addr→Prop} {μ ν:List Addr} {ρ ρ':Rho} {H H' H'':Hp} {F:Fl}
noncomputable def bndF (fo:FE):FE:=fun ρ H=>match fo ρ H with
  |some (.lst i,H1)=>some (.app i,H1)
  |_=>none
theorem bndF_eq (fo:FE) (ρ:Rho) (H:Hp):bndF fo ρ H=oLst (fo ρ H) fun i H1=>some (.app i,H1):=by kernel_rfl
theorem bndF_some {fo:FE} {R:V} (q:bndF fo ρ H=some (R,H')):∃ i,fo ρ H=some (.lst i,H')∧R=.app i:=by
  obtain ⟨i,H1,q1,q⟩:=olst ((bndF_eq ..).symm.trans q)
  cases q
  exact ⟨i,q1,rfl⟩
theorem S.bound {o:Expr} {fo:FE} {pos:Pos} (ho:SndE B n env names o fo) (h1:attributeBase o (Str.ofString "append") env (eval o env)=eval o env):SndE B n env names (.Attribute o "append" pos) (bndF fo):=fun {A s σ X μ ρ H R H'} hr w q=>by
  obtain ⟨i,q1,rfl⟩:=bndF_some q
  rw [arm_eval_Attribute,h1]
  refine wpAny_bind (nE (ho hr w q1) fun va s₁ ν1 w1 r1 t1=>wpAny_bind (wpAny_standAt (wpAny_bind (wpAny_holding ?_))))
  obtain ⟨a,rfl,hi⟩:=r1.inv
  obtain ⟨l0,hl0⟩:=w1.cr.at hi
  obtain ⟨vs,⟨m,p⟩,rv⟩:=w1.cr.cell _ _ _ hi hl0
  exact attr_append p (wpAny_bind (wpAny_letTemporaryGo (wpAny_pure (PostE.after t1 (PostE.of w1 (keeps_push _) (.app (Heap.get?_push_size _ rfl) hi))))))
noncomputable def vApp {γ:Type} (v:V) (k:Nat→Option γ):Option γ:=match v with
  | .app i=>k i
  |_=>none
noncomputable def addF (ix:Nat) (fe:FE):FE:=fun ρ H=>match ρ[ix]? with
  |some (some (.app i))=>(match fe ρ H with
    |some (x,H2)=>(match H2[i]? with
      |some l=>if l.length < SZ then some (.none,H2.set i (l++[x])) else none
      |none=>none)
    |none=>none)
  |_=>none
inductive AddI (ix:Nat) (fe:FE) (ρ:Rho) (H:Hp):V→Hp→Prop
  |mk (i:Nat) (y:V) (H2:Hp) (l:List V) (q1:ρ[ix]?=some (some (.app i))) (q2:fe ρ H=some (y,H2)) (q3:H2[i]?=some l) (h:l.length < SZ):AddI ix fe ρ H .none (H2.set i (l++[y]))
theorem vapp {γ:Type} {v:V} {k:Nat→Option γ} {r:γ} (e:vApp v k=some r):VEq v .app k r:=by
  cases v with
  |app i=>exact ⟨i,rfl,e⟩
  |_=>exact no e
theorem addF_eq (ix:Nat) (fe:FE) (ρ:Rho) (H:Hp):addF ix fe ρ H=obo ρ[ix]? fun v=>vApp v fun i=>obd (fe ρ H) fun x H2=>obn H2[i]? fun l=>if l.length < SZ then some (V.none,H2.set i (l++[x])) else none:=by kernel_rfl
theorem addF_some {ix:Nat} {fe:FE} {R:V} (q:addF ix fe ρ H=some (R,H')):AddI ix fe ρ H R H':=by
  obtain ⟨v,h1,q⟩:=obo_some ((addF_eq ..).symm.trans q)
  obtain ⟨i,rfl,q⟩:=vapp q
  obtain ⟨x,H2,h2,q⟩:=bnd q
  obtain ⟨l,h3,q⟩:=bn1 q
  obtain ⟨hl,q⟩:=ite_some q
  cases q
  exact ⟨i,x,H2,l,h1,h2,h3,hl⟩
theorem List.getElem?_left {α:Type} {l m:List α} {i:Nat} {a:α} (h:l[i]?=some a):(l++m)[i]?=some a:=by
  rw [List.getElem?_append_left (List.getElem?_eq_some_iff.mp h).1];exact h
theorem S.add {x:Str} {ix:Nat} {e:Expr} {fe:FE} {np pos:Pos} (hk:env.kindOf x=some .local) (hi:names[ix]?=some x) (hd:(x == ("__debug__" : Str))=false) (he:SndE B n env names e fe) (hst:starEach [e] env=[(false,eval e env)]):SndE B n env names (.Call (.Name x np) [e] [] pos) (addF ix fe):=fun {A s σ X μ ρ H R H'} hr w q=>by
  cases addF_some q with
  |mk i y H2 l q1 q2 q3 hlen=>
  obtain ⟨m,hn,h⟩:=w.er.ns
  obtain ⟨v,hv,r⟩:=h ix x _ hi hk q1
  refine wpAny_Call_NameR (wpAny_Name (wpAny_loadName_local w.er.kind hk hn hv ?_) hd)
  rw [hst]
  obtain ⟨a,b,rfl,ha,hb⟩:=r.inv
  show wpAny _ A (callWith pos (.ref a) [] [(false,eval e env)] []) _ _ s
  refine callWith_app (a:=a) (b:=b) rfl (evalArgs_plain (spliced_cons (nE (he hr w q2) fun vy s₂ ν2 w2 r2 t2=>spliced_nil ?_)))
  have hb2:=List.getElem?_left (m:=ν2) hb
  obtain ⟨a',b',e1,ra,hb'⟩:=((VR.app (σ:=σ) (X:=X) ha hb).stp t2 w.cr w.bs.tab).inv
  cases e1
  rw [hb2] at hb'
  cases hb'
  obtain ⟨vs2,p2,rv2⟩:=w2.cr.cell _ _ _ hb2 q3
  have hl2:=rv2.length
  refine ⟨ra,call_app ra p2 (by rw [← sz_eq,List.size_toArray];omega) fun h' p' sb=>?_⟩
  have p'':PlnA h' b (vs2++[vy]):=by
    have:(vs2++[vy]).toArray=vs2.toArray.push vy:=by simp
    show Heap.PlainList h' b (vs2++[vy]).toArray
    rw [this];exact p'
  exact PostE.after t2 (PostE.cellSet w2 hb2 p'' sb (rv2.append (.one r2)) .none)
noncomputable def popF (fo:FE):FE:=fun ρ H=>match fo ρ H with
  |some (.lst i,H1)=>(match H1[i]? with
    |some l=>(match l.getLast? with
      |some x=>if l.length≤SZ then some (x,H1.set i l.dropLast) else none
      |none=>none)
    |none=>none)
  |_=>none
structure MethAt (env:Env) (o:Expr) (m:Str) (args:List Expr) (apos pos:Pos):Prop where
  base:attributeBase o m env (eval o env)=eval o env
  few:(((List.all (backTo pos (starEach args env)) fun x=>!x.fst) && List.all (backToKw pos (keywordEach [] env)) fun x=>Option.isSome x.fst) && decide ((List.length args+List.length ([]:List Keyword)+if List.isEmpty ([]:List Keyword)=true then 0 else 1) < 30))=true
  line:(apos.endLine == pos.line)=true
theorem vrs_last {h:Heap} {vs:List Value} {l:List V} {x:V} (r:VRs σ X μ h vs l) (e:l.getLast? = some x):∃ v,vs[vs.length - 1]?=some v∧VR σ X μ h v x:=by
  rw [List.getLast?_eq_getElem?] at e
  obtain ⟨v,hv,rv⟩:=r.get e
  exact ⟨v,by rw [r.length];exact hv,rv⟩
inductive PopI (fo:FE) (ρ:Rho) (H:Hp):V→Hp→Prop
  |mk (i:Nat) (H1:Hp) (l:List V) (x:V) (q1:fo ρ H=some (.lst i,H1)) (q2:H1[i]?=some l) (q3:l.getLast? = some x) (h:l.length≤SZ):PopI fo ρ H x (H1.set i l.dropLast)
theorem popF_eq (fo:FE) (ρ:Rho) (H:Hp):popF fo ρ H=oLst (fo ρ H) fun i H1=>obn H1[i]? fun l=>obn l.getLast? fun x=>if l.length≤SZ then some (x,H1.set i l.dropLast) else none:=by kernel_rfl
theorem popF_some {fo:FE} {R:V} (q:popF fo ρ H=some (R,H')):PopI fo ρ H R H':=by
  obtain ⟨i,H1,h1,q⟩:=olst ((popF_eq ..).symm.trans q)
  obtain ⟨l,h2,q⟩:=bn1 q
  obtain ⟨x,h3,q⟩:=bn1 q
  obtain ⟨hz,q⟩:=ite_some q
  cases q
  exact ⟨i,H1,l,_,h1,h2,h3,hz⟩
theorem pop_pln {h:Heap} {a:Addr} {m:Nat} {vs:List Value} (p:h.get? a=some { cls:=.type "list",data:=.seq vs.toArray m }):PlnA (h.update a (Obj.mapSeq fun xs=>xs.eraseIdxIfInBounds (vs.toArray.size - 1))) a vs.dropLast:=by
  have:=IsL.update (n:=m) (items:=vs.toArray) p (fun xs=>xs.eraseIdxIfInBounds (vs.toArray.size - 1))
  show Heap.PlainList _ _ _
  rw [show vs.dropLast.toArray=vs.toArray.eraseIdxIfInBounds (vs.toArray.size - 1) by apply Array.ext';simp]
  exact ⟨_,this⟩
theorem S.pop {o:Expr} {fo:FE} {apos pos:Pos} (ho:SndE B n env names o fo) (hm:MethAt env o "pop" [] apos pos):SndE B n env names (.Call (.Attribute o "pop" apos) [] [] pos) (popF fo):=fun {A s σ X μ ρ H R H'} hr w q=>by
  cases popF_some q with
  |mk i H1 l x q1 q2 q3 hlen=>
  refine wpAny_Call_method hm.base hm.few hm.line F.plainAttrs_list F.slot_list_pop F.type_list_pop (nE (ho hr w q1) fun va s₁ ν1 w1 r1 t1=>?_)
  obtain ⟨a,rfl,hi⟩:=r1.inv
  obtain ⟨vs,⟨m,p⟩,rv⟩:=w1.cr.cell _ _ _ hi q2
  refine ⟨⟨_,p,rfl⟩,fun b e=>by cases e;exact ⟨_,p,rfl⟩,?_⟩
  obtain ⟨v,hv,rx⟩:=vrs_last rv q3
  have hlv:=rv.length
  refine P.pop_list (items:=vs.toArray) (n:=m) p (by simpa using hv) ?_ (by rw [← sz_eq,List.size_toArray];omega)
  have rd:VRs σ X (μ++ν1) s₁.heap vs.dropLast l.dropLast:=by
    rw [List.dropLast_eq_take,List.dropLast_eq_take,hlv];exact rv.take _
  exact PostE.after t1 (PostE.cellSet (tk:=s₁.toks) w1 hi (pop_pln p) (Heap.SameBut.update ..) rd rx)
noncomputable def exdF (fo:FE) (fs:List FE):FE:=fun ρ H=>match fo ρ H with
  |some (.lst i,H1)=>(match seqF fs ρ H1 with
    |some (k,H2)=>(match H2[i]? with
      |some l=>if l.length+k.length≤SZ then some (.none,H2.set i (l++k)) else none
      |none=>none)
    |none=>none)
  |_=>none
inductive ExdI (fo:FE) (fs:List FE) (ρ:Rho) (H:Hp):V→Hp→Prop
  |mk (i:Nat) (H1:Hp) (k:List V) (H2:Hp) (l:List V) (q1:fo ρ H=some (.lst i,H1)) (q2:seqF fs ρ H1=some (k,H2)) (q3:H2[i]?=some l) (h:l.length+k.length≤SZ):ExdI fo fs ρ H .none (H2.set i (l++k))
theorem exdF_eq (fo:FE) (fs:List FE) (ρ:Rho) (H:Hp):exdF fo fs ρ H=oLst (fo ρ H) fun i H1=>obd (seqF fs ρ H1) fun k H2=>obn H2[i]? fun l=>if l.length+k.length≤SZ then some (V.none,H2.set i (l++k)) else none:=by kernel_rfl
theorem exdF_some {fo:FE} {fs:List FE} {R:V} (q:exdF fo fs ρ H=some (R,H')):ExdI fo fs ρ H R H':=by
  obtain ⟨i,H1,h1,q⟩:=olst ((exdF_eq ..).symm.trans q)
  obtain ⟨k,H2,h2,q⟩:=bnd q
  obtain ⟨l,h3,q⟩:=bn1 q
  obtain ⟨hz,q⟩:=ite_some q
  cases q
  exact ⟨i,H1,k,H2,l,h1,h2,h3,hz⟩
theorem ext_pln {h:Heap} {a:Addr} {m:Nat} {vs ys:List Value} (p:h.get? a=some { cls:=.type "list",data:=.seq vs.toArray m }):PlnA (h.update a (Obj.mapSeq fun xs=>xs++ys.toArray)) a (vs++ys):=by
  have:=IsL.update (n:=m) (items:=vs.toArray) p (fun xs=>xs++ys.toArray)
  show Heap.PlainList _ _ _
  rw [show (vs++ys).toArray=vs.toArray++ys.toArray by simp]
  exact ⟨_,this⟩
theorem S.ext {o:Expr} {es:List Expr} {fo:FE} {fs:List FE} {lp apos pos:Pos} (ho:SndE B n env names o fo) (he:SndL B n env names es fs) (hlen:fs.length≤64) (hst:starEach [.List es lp] env=[(false,eval (.List es lp) env)]) (hm:MethAt env o "extend" [.List es lp] apos pos) :
    SndE B n env names (.Call (.Attribute o "extend" apos) [.List es lp] [] pos) (exdF fo fs):=fun {A s σ X μ ρ H R H'} hr w q=>by
  cases exdF_some q with
  |mk i H1 k H2 l q1 q2 q3 hsz=>
  refine wpAny_Call_method hm.base hm.few hm.line F.plainAttrs_list F.slot_list_extend F.type_list_extend (nE (ho hr w q1) fun va s₁ ν1 w1 r1 t1=>?_)
  obtain ⟨a,rfl,hi⟩:=r1.inv
  obtain ⟨l0,hl0⟩:=w1.cr.at hi
  obtain ⟨vs,⟨m,p⟩,rv⟩:=w1.cr.cell _ _ _ hi hl0
  refine ⟨⟨_,p,rfl⟩,fun b e=>by cases e;exact ⟨_,p,rfl⟩,?_⟩
  rw [hst]
  refine P.extend_list (x:=eval (.List es lp) env) (List_ (nL (evalL he hr w1 q2) fun ys s₂ ν2 w2 r2 t2=>wpAny_newList ?_ (small_size r2 (by rw [seqF_length q2];exact hlen))))
  have hi2:=List.getElem?_left (m:=ν2) hi
  have kp:=keeps_push (s:=s₂) (tk:=s₂.toks) { cls:=Value.type "list",data:=Data.seq ys.toArray 0 }
  have w3:=w2.keeps kp
  have r3:=r2.keeps kp
  obtain ⟨vs2,⟨m2,p2⟩,rv2⟩:=w3.cr.cell _ _ _ hi2 q3
  have hz:vs2.length+ys.length≤SZ:=by rw [rv2.length,r3.length];exact hsz
  refine ⟨_,vs2.toArray,ys.toArray,m2,0,?_,?_,?_,rfl,p2,Heap.get?_push_size _ rfl,?_⟩
  · rw [← sz_eq];simp;omega
  · rw [← sz_eq];simp;omega
  · have:Builtin.List.listTooLong (vs2.toArray.size+ys.toArray.size)=false:=by
      unfold Builtin.List.listTooLong
      rw [← sz_eq,List.size_toArray,List.size_toArray];simp;omega
    rw [this];simp
  · have:=PostE.cellSet (tk:=s₂.toks) w3 hi2 (ext_pln p2) (Heap.SameBut.update ..) (rv2.append r3) .none
    exact PostE.after t1 (PostE.after t2 (PostE.after (ν:=[]) (Stp.of_keeps kp) (by rw [List.append_nil];exact this)))
end
noncomputable def putL (l:List V) (k:Int) (x:V):Option (List V):=
  if 0≤k then (if k < l.length∧k < 2 ^ 62 then some (l.set k.toNat x) else none)
  else (if -(l.length:Int)≤k∧-(2 ^ 62)≤k then some (l.set (k+l.length).toNat x) else none)
noncomputable def delL (l:List V) (k:Int):Option (List V):=
  if 0≤k∧k < l.length∧l.length≤SZ then some (l.eraseIdx k.toNat) else none
noncomputable def putS (fv fo fi:FE):FS:=fun ρ H=>match fv ρ H with
  |some (x,H1)=>(match fo ρ H1 with
    |some (.lst i,H2)=>(match fi ρ H2 with
      |some (.int k,H3)=>(match H3[i]? with
        |some l=>(match putL l k x with
          |some l'=>some (.nx,ρ,H3.set i l')
          |none=>none)
        |none=>none)
      |_=>none)
    |_=>none)
  |none=>none
noncomputable def augSubS (g:Op2) (fo fi fv:FE):FS:=fun ρ H=>match fo ρ H with
  |some (.lst i,H1)=>(match fi ρ H1 with
    |some (.int k,H2)=>(match idxV H2 (.lst i) (.int k) with
      |some old=>(match fv ρ H2 with
        |some (x,H3)=>(match g H3 old x with
          |some r=>(match H3[i]? with
            |some l=>(match putL l k r with
              |some l'=>some (.nx,ρ,H3.set i l')
              |none=>none)
            |none=>none)
          |none=>none)
        |none=>none)
      |none=>none)
    |_=>none)
  |_=>none
noncomputable def delS (fo fi:FE):FS:=fun ρ H=>match fo ρ H with
  |some (.lst i,H2)=>(match fi ρ H2 with
    |some (.int k,H3)=>(match H3[i]? with
      |some l=>(match delL l k with
        |some l'=>some (.nx,ρ,H3.set i l')
        |none=>none)
      |none=>none)
    |_=>none)
  |_=>none
section
variable {B:Base} {n:Nat} {env:Env} {names:List Str} {A:Around} {s s' s'':Shared} {σ:Option Addr} {X:Addr→Prop} {μ ν:List Addr} {ρ ρ':Rho} {H H' H'':Hp} {F:Fl}
theorem set_item (w:Wd B σ X env names ρ μ H s) {i:Nat} {a:Addr} (hi:μ[i]?=some a) {l l':List V} (hl:H[i]?=some l) {k:Int} {t:Tok} {x:V} {v:Value} (r:VR σ X μ s.heap v x) (e:putL l k x=some l') :
    wpAny (model B.prog B.w) A (setItem (.ref a) (.int k t) v) (fun Z s'=>Wd B σ X env names ρ μ (H.set i l') s'∧Stp B μ [] s.heap s'.heap) NoE s:=by
  obtain ⟨vs,⟨m,p⟩,rv⟩:=w.cr.cell _ _ _ hi hl
  have hlen:=rv.length
  have fin:∀ j,Wd B σ X env names ρ μ (H.set i (l.set j x)) { s with heap:=s.heap.update a (Obj.mapSeq (·.setIfInBounds j v)) }∧Stp B μ [] s.heap (s.heap.update a (Obj.mapSeq (·.setIfInBounds j v))):=fun j=>by
    have pl:PlnA (s.heap.update a (Obj.mapSeq (·.setIfInBounds j v))) a (vs.set j v):=by
      have:=IsL.update (n:=m) (items:=vs.toArray) p (·.setIfInBounds j v)
      show Heap.PlainList _ _ _
      rw [show (vs.set j v).toArray=vs.toArray.setIfInBounds j v by simp]
      exact ⟨_,this⟩
    obtain ⟨h1,h2,_⟩:=w.cell (tk:=s.toks) hi pl (Heap.SameBut.update ..) (rv.set r)
    exact ⟨h1,h2⟩
  unfold putL at e
  split at e
  · split at e
    case isFalse=>cases e
    rename_i h0 h1
    cases e
    exact ki_setAt (n:=m) (items:=vs.toArray) p h0 (by omega) (by simp [hlen];omega) (fin _)
  · split at e
    case isFalse=>cases e
    rename_i h0 h1
    cases e
    refine ki_setBack (n:=m) (items:=vs.toArray) p (by omega) (by simp [hlen];omega) (by omega) ?_
    have:=fin (k+l.length).toNat
    rw [show (k+(vs.toArray.size:Int)).toNat=(k+(l.length:Int)).toNat by simp [hlen]]
    exact this
inductive PutI (fv fo fi:FE) (ρ:Rho) (H:Hp):Fl→Rho→Hp→Prop
  |mk (x:V) (H1:Hp) (ix:Nat) (H2:Hp) (k:Int) (H3:Hp) (l l':List V) (q1:fv ρ H=some (x,H1)) (q2:fo ρ H1=some (.lst ix,H2)) (q3:fi ρ H2=some (.int k,H3)) (q4:H3[ix]?=some l) (q5:putL l k x=some l'):PutI fv fo fi ρ H .nx ρ (H3.set ix l')
theorem putS_eq {fv fo fi:FE}:putS fv fo fi ρ H=obd (fv ρ H) fun x H1=>oLst (fo ρ H1) fun i H2=>oInt (fi ρ H2) fun k H3=>obn H3[i]? fun l=>obn (putL l k x) fun l'=>some (Fl.nx,ρ,H3.set i l'):=by kernel_rfl
theorem putS_some {fv fo fi:FE} (q:putS fv fo fi ρ H=some (F,ρ',H')):PutI fv fo fi ρ H F ρ' H':=by
  obtain ⟨x,H1,q1,q⟩:=bnd (putS_eq.symm.trans q)
  obtain ⟨i,H2,q2,q⟩:=olst q
  obtain ⟨k,H3,q3,q⟩:=oint q
  obtain ⟨l,q4,q⟩:=bn1 q
  obtain ⟨l',q5,q⟩:=bn1 q
  cases q
  exact .mk _ _ _ _ _ _ _ _ q1 q2 q3 q4 q5
theorem R.put {e o i:Expr} {fv fo fi:FE} {pos pos':Pos} (hv:SndE B n env names e fv) (ho:SndE B n env names o fo) (hi:SndE B n env names i fi) (hs:swapsWith e (some (.Subscript o i pos')) pos.line env=pure false) :
    SndS B n env names (.Assign [.Subscript o i pos'] e pos) (putS fv fo fi):=fun {A s σ X μ ρ H F ρ' H'} hr w q=>by
  cases putS_some q with
  |mk x H1 ix H2 k H3 l l' q1 q2 q3 q4 q5=>
    refine wpAny_Assign_Subscript (nE (hv hr w q1) fun va s₁ ν1 w1 r1 t1=>nE (ho hr w1 q2) fun vo s₂ ν2 w2 r2 t2=>nE (hi hr w2 q3) fun vi s₃ ν3 w3 r3 t3=>?_) hs
    obtain ⟨t,rfl⟩:=r3.inv
    obtain ⟨a,rfl,ha⟩:=(r2.stp t3 w2.cr w2.bs.tab).inv
    refine n2 (set_item w3 ha q4 ((r1.stp t2 w1.cr w1.bs.tab).stp t3 w2.cr w2.bs.tab) q5) fun Z s₄ w4 t4=>?_
    exact PostS.after t1.S (PostS.after t2.S (PostS.after t3.S (PostS.after0 t4.S (PostS.of w4 .nx))))
inductive AgI (g:Op2) (fo fi fv:FE) (ρ:Rho) (H:Hp):Fl→Rho→Hp→Prop
  |mk (ix:Nat) (H1:Hp) (k:Int) (H2:Hp) (old x:V) (H3:Hp) (r:V) (l l':List V) (q1:fo ρ H=some (.lst ix,H1)) (q2:fi ρ H1=some (.int k,H2)) (q3:idxV H2 (.lst ix) (.int k)=some old) (q4:fv ρ H2=some (x,H3)) (q5:g H3 old x=some r) (q6:H3[ix]?=some l) (q7:putL l k r=some l'):AgI g fo fi fv ρ H .nx ρ (H3.set ix l')
theorem augSubS_eq {g:Op2} {fo fi fv:FE}:augSubS g fo fi fv ρ H=oLst (fo ρ H) fun i H1=>oInt (fi ρ H1) fun k H2=>obn (idxV H2 (.lst i) (.int k)) fun old=>obd (fv ρ H2) fun x H3=>obn (g H3 old x) fun r=>obn H3[i]? fun l=>obn (putL l k r) fun l'=>some (Fl.nx,ρ,H3.set i l'):=by kernel_rfl
theorem augSubS_some {g:Op2} {fo fi fv:FE} (q:augSubS g fo fi fv ρ H=some (F,ρ',H')):AgI g fo fi fv ρ H F ρ' H':=by
  obtain ⟨i,H1,q1,q⟩:=olst (augSubS_eq.symm.trans q)
  obtain ⟨k,H2,q2,q⟩:=oint q
  obtain ⟨old,q3,q⟩:=bn1 q
  obtain ⟨x,H3,q4,q⟩:=bnd q
  obtain ⟨r,q5,q⟩:=bn1 q
  obtain ⟨l,q6,q⟩:=bn1 q
  obtain ⟨l',q7,q⟩:=bn1 q
  cases q
  exact .mk _ _ _ _ _ _ _ _ _ _ q1 q2 q3 q4 q5 q6 q7
theorem R.augSub {e o i:Expr} {fv fo fi:FE} {g:Op2} {op:Operator} {pos pos':Pos} (hv:SndE B n env names e fv) (ho:SndE B n env names o fo) (hi:SndE B n env names i fi) (hop:Snd2 B (inplaceOp op) g) (hn:1≤n)
    (haug:∀ ov iv new:Value,augStore i ov iv new=(do holding [new,ov,iv] (setItem ov iv new);release [new,ov,iv] [];pure Flow.next)) :
    SndS B n env names (.AugAssign (.Subscript o i pos') op e pos) (augSubS g fo fi fv):=fun {A s σ X μ ρ H F ρ' H'} hr w q=>by
  cases augSubS_some q with
  |mk ix H1 k H2 old x H3 r l l' q1 q2 q3 q4 q5 q6 q7=>
    refine wpAny_AugAssign_Subscript_any (nE (ho hr w q1) fun vo s₁ ν1 w1 r1 t1=>nE (hi hr w1 q2) fun vi s₂ ν2 w2 r2 t2=>?_) haug
    have ro:=r1.stp t2 w1.cr w1.bs.tab
    obtain ⟨_,_,_,_,hget⟩:=getItem_ref (B:=B) (A:=A) w2.cr ro r2 q3
    refine noE hget fun vold s₃ ⟨k3,r3⟩=>nE (hv hr (w2.keeps k3) q4) fun vx s₄ ν4 w4 r4 t4=>?_
    refine n2 (hop (hr.le hn) w4.cr (r3.stp t4 (w2.cr.keeps k3) (w2.bs.keeps k3).tab) r4 q5) fun vr s₅ k5 r5=>?_
    obtain ⟨t,rfl⟩:=r2.inv
    obtain ⟨a,rfl,ha⟩:=((ro.keeps k3).stp t4 (w2.cr.keeps k3) (w2.bs.keeps k3).tab).inv
    refine n2 (set_item (w4.keeps k5) ha q6 r5 q7) fun Z s₆ w6 t6=>?_
    exact PostS.after t1.S (PostS.after t2.S (PostS.after0 (Stp.of_keeps k3).S (PostS.after t4.S (PostS.after0 (Stp.of_keeps k5).S (PostS.after0 t6.S (PostS.of w6 .nx))))))
inductive DelI (fo fi:FE) (ρ:Rho) (H:Hp):Fl→Rho→Hp→Prop
  |mk (ix:Nat) (H2:Hp) (k:Int) (H3:Hp) (l l':List V) (q2:fo ρ H=some (.lst ix,H2)) (q3:fi ρ H2=some (.int k,H3)) (q4:H3[ix]?=some l) (q5:delL l k=some l'):DelI fo fi ρ H .nx ρ (H3.set ix l')
theorem delS_eq {fo fi:FE}:delS fo fi ρ H=oLst (fo ρ H) fun i H2=>oInt (fi ρ H2) fun k H3=>obn H3[i]? fun l=>obn (delL l k) fun l'=>some (Fl.nx,ρ,H3.set i l'):=by kernel_rfl
theorem delS_some {fo fi:FE} (q:delS fo fi ρ H=some (F,ρ',H')):DelI fo fi ρ H F ρ' H':=by
  obtain ⟨i,H2,q2,q⟩:=olst (delS_eq.symm.trans q)
  obtain ⟨k,H3,q3,q⟩:=oint q
  obtain ⟨l,q4,q⟩:=bn1 q
  obtain ⟨l',q5,q⟩:=bn1 q
  cases q
  exact .mk _ _ _ _ _ _ q2 q3 q4 q5
theorem del_item (w:Wd B σ X env names ρ μ H s) {i:Nat} {a:Addr} (hi:μ[i]?=some a) {l l':List V} (hl:H[i]?=some l) {k:Int} {t:Tok} (e:delL l k=some l') {Q:Unit→Shared→Prop}
    (hQ:∀ s',Wd B σ X env names ρ μ (H.set i l') s'→Stp B μ [] s.heap s'.heap→Q () s'):wpAny (model B.prog B.w) A (delItem (.ref a) (.int k t)) Q NoE s:=by
  obtain ⟨vs,p,rv⟩:=w.cr.cell _ _ _ hi hl
  have hlen:=rv.length
  obtain ⟨hk,rfl⟩:=ite_some e
  have h1:k.toNat < vs.length:=by omega
  refine wpAny_delItem_plain (k:=k.toNat) p ?_ ?_ (fun h' p' sb=>?_) (by rw [← sz_eq];simp;omega)
  · simp only [SZ] at hk;unfold Builtin.List.listFitsIndex;simp;omega
  · unfold seqIndex?;simp [hlen];omega
  · have rd:VRs σ X μ s.heap (vs.eraseIdx k.toNat) (l.eraseIdx k.toNat):=by
      rw [List.eraseIdx_eq_take_drop_succ,List.eraseIdx_eq_take_drop_succ];exact (rv.take _).append (rv.drop _)
    have p'':PlnA h' a (vs.eraseIdx k.toNat):=by
      show Heap.PlainList _ _ _
      rw [show (vs.eraseIdx k.toNat).toArray=vs.toArray.eraseIdxIfInBounds k.toNat by simp]
      exact p'
    obtain ⟨w4,t4,_⟩:=w.cell (tk:=s.toks) hi p'' sb rd
    exact hQ _ w4 t4
theorem R.del {o i:Expr} {fo fi:FE} {pos pos':Pos} (ho:SndE B n env names o fo) (hi:SndE B n env names i fi):SndS B n env names (.Delete [.Subscript o i pos'] pos) (delS fo fi):=fun {A s σ X μ ρ H F ρ' H'} hr w q=>by
  cases delS_some q with
  |mk ix H2 k H3 l l' q2 q3 q4 q5=>
    refine wpAny_Delete (wpAny_deleteEach_cons (wpAny_delete_Subscript (nE (ho hr w q2) fun vo s₂ ν2 w2 r2 t2=>nE (hi hr w2 q3) fun vi s₃ ν3 w3 r3 t3=>?_)))
    obtain ⟨t,rfl⟩:=r3.inv
    obtain ⟨a,rfl,ha⟩:=(r2.stp t3 w2.cr w2.bs.tab).inv
    exact del_item w3 ha q4 q5 fun s' w4 t4=>wpAny_deleteEach_nil (PostS.after t2.S (PostS.after t3.S (PostS.after0 t4.S (PostS.of w4 .nx))))
end
section
variable {B:Base} {n:Nat} {env:Env} {names:List Str} {A:Around} {s s' s'':Shared} {σ:Option Addr} {X:Addr→Prop} {μ ν:List Addr} {ρ ρ':Rho} {H H' H'':Hp} {F:Fl}
theorem Wd.back' (w:Wd B σ X env names ρ μ H s) (hbs:Bs B s') {D:Addr→Prop} (hD:∀ a,D a→a ∈ μ) {it:Addr} (hit:∀ o,s.heap.get? it=some o→OddI o) (kp:∀ b o,s.heap.get? b=some o→¬ D b→b ≠ it→b ≠ B.P→s'.heap.get? b=some o)
    (hc:∀ (i:Nat) (a:Addr) (l:List V),μ[i]?=some a→H'[i]?=some l→D a→∃ vs,PlnA s'.heap a vs∧VRs σ X μ s'.heap vs l)
    (hs:∀ (i:Nat) (a:Addr),μ[i]?=some a→¬ D a→H'[i]?=H[i]?) (hlen:H'.length=H.length) :
    Wd B σ X env names ρ μ H' s'∧Mv X X μ μ s.heap s'.heap:=by
  have cellAt:∀ b ∈ μ,∃ vs:List Value,PlnA s.heap b vs:=fun b hm=>by
    obtain ⟨i,hi⟩:=List.getElem?_of_mem hm
    have hlt:i < H.length:=by rw [← w.cr.len];exact (List.getElem?_eq_some_iff.mp hi).1
    obtain ⟨vs,q,_⟩:=w.cr.cell i b _ hi (List.getElem?_eq_getElem hlt)
    exact ⟨vs,q⟩
  have keep:∀ b o,s.heap.get? b=some o→¬ (D b∧o.cls=.type "list" ∧ ∃ xs n,o.data=.seq xs n)→(o.cls ≠ .none∨∀ vs,o.data ≠ .fields vs)→¬ OddI o→s'.heap.get? b=some o:=fun b o e q t nd=>by
    refine kp b o e (fun hd=>?_) (by rintro rfl;exact nd (hit o e)) (w.bs.tab.ne e t)
    obtain ⟨vs,n,pv⟩:=cellAt b (hD b hd)
    rw [e] at pv;cases pv
    exact q ⟨hd,rfl,_,_,rfl⟩
  have mv:Mv X X μ μ s.heap s'.heap:=⟨fun b o e v=>keep b o e (by
      rintro ⟨hd,hc,xs,n,hq⟩
      rcases v with ⟨v,_⟩ | ⟨_,_,_,v⟩ | ⟨v,_⟩
      · rw [hc] at v;simp at v
      · exact v (hD b hd)
      · rw [hc] at v;simp at v) (by
      rcases v with ⟨v,_⟩ | ⟨v,_⟩ | ⟨v,_⟩<;>exact .inl (by rw [v];simp)) (fun od=>od.notVal v),fun Z Z e=>e,fun Z Z Z a b=>⟨a,b⟩⟩
  refine ⟨⟨hbs,?_,?_,w.ow⟩,mv⟩
  · refine ⟨by rw [hlen];exact w.cr.len,fun i a l e1 e2=>?_,w.cr.nd,fun b hb=>?_,w.cr.xd,fun b e=>keep _ _ (w.cr.st b e) (by rintro ⟨_,hc,_⟩;simp [starObj] at hc) (.inl (by simp [starObj])) (by rintro ⟨vs,hd,_⟩;cases hd)⟩
    · by_cases hd:D a
      · exact hc i a l e1 e2 hd
      · rw [hs i a e1 hd] at e2
        obtain ⟨vs,⟨n,p⟩,r⟩:=w.cr.cell i a l e1 e2
        exact ⟨vs,⟨n,keep _ _ p (fun q=>hd q.1) (.inl (by simp)) (by rintro ⟨vs,hd,_⟩;cases hd)⟩,r.mv mv⟩
    · obtain ⟨its,o,q,r1,r2,r3⟩:=w.cr.xl b hb
      exact ⟨its,o,keep _ _ q (fun q=>w.cr.xd _ (hD b q.1) hb) (.inl (by rw [r1];simp)) (by rintro ⟨vs,hd,_⟩;rw [r3] at hd;cases hd),r1,r2,r3⟩
  · refine ⟨w.er.kind,w.er.glob,w.er.bltn,?_,?_,w.er.apart,?_⟩
    · obtain ⟨m,⟨o,es,ep,ho,hd,hk⟩,hm⟩:=w.er.ns
      refine ⟨m,⟨o,es,ep,keep _ _ ho ?_ (.inr fun vs q=>by rw [hd] at q;cases q) (by rintro ⟨vs,hd',_⟩;rw [hd] at hd';cases hd'),hd,hk⟩,fun j z Y e1 e2 e3=>let ⟨u,p,q⟩:=hm j z Y e1 e2 e3;⟨u,p,q.mv mv⟩⟩
      rintro ⟨_,_,xs,n,q⟩;rw [hd] at q;cases q
    · intro j z e1 e2
      obtain ⟨c,ov,p,⟨o,ho,hd⟩,t⟩:=w.er.cells j z e1 e2
      refine ⟨c,ov,p,⟨o,keep _ _ ho ?_ (.inr fun vs q=>by rw [hd] at q;cases q) (by rintro ⟨vs,hd',_⟩;rw [hd] at hd';cases hd'),hd⟩,fun Y e3=>let ⟨u,p,q⟩:=t Y e3;⟨u,p,q.mv mv⟩⟩
      rintro ⟨_,_,xs,n,q⟩;rw [hd] at q;cases q
    · intro x xc hx
      obtain ⟨ov,o,ho,hd⟩:=w.er.cs x _ hx
      refine ⟨ov,o,keep _ _ ho ?_ (.inr fun vs q=>by rw [hd] at q;cases q) (by rintro ⟨vs,hd',_⟩;rw [hd] at hd';cases hd'),hd⟩
      rintro ⟨_,_,xs,n,q⟩;rw [hd] at q;cases q
theorem Wd.back (w:Wd B σ X env names ρ μ H s) (hbs:Bs B s') {D:Addr→Prop} (hD:∀ a,D a→a ∈ μ) (kp:Kp B D s.heap s'.heap)
    (hc:∀ (i:Nat) (a:Addr) (l:List V),μ[i]?=some a→H'[i]?=some l→D a→∃ vs,PlnA s'.heap a vs∧VRs σ X μ s'.heap vs l)
    (hs:∀ (i:Nat) (a:Addr),μ[i]?=some a→¬ D a→H'[i]?=H[i]?) (hlen:H'.length=H.length) :
    Wd B σ X env names ρ μ H' s'∧Stp B μ [] s.heap s'.heap∧Mv X X μ μ s.heap s'.heap:=by
  obtain ⟨a,b⟩:=w.back' hbs hD (it:=s.heap.objs.size) (fun o e=>absurd (Heap.lt_size e) (Nat.lt_irrefl _)) (fun b o e q Z p=>kp.keep b o e q p) hc hs hlen
  exact ⟨a,⟨⟨fun b o e q p=>kp.keep b o e (fun hd=>q (hD b hd)) p,kp.dom⟩,fun Z h=>(nomatch h)⟩,b⟩
noncomputable abbrev FF:=List V→Hp→Option (V×Hp)
noncomputable def PostF (B:Base) (σ:Option Addr) (X:Addr→Prop) (μ:List Addr) (h:Heap) (H':Hp) (r:V):Value→Shared→Prop:=
  fun v s'=>Bs B s'∧CR σ X μ s'.heap H'∧VR σ X μ s'.heap v r∧Kp B (· ∈ μ) h s'.heap∧r.noLst=true∧∀ l ∈ H',noLsts l=true
structure FnA (B:Base) (x:Str) (a:Addr):Prop where
  mg:B.mg x=some (.ref a)
  fn:∃ o fd,B.h1.get? a=some o∧o.data=.func fd
noncomputable def FnC (B:Base) (n:Nat) (a:Addr) (g:FF):Prop:=
  ∀ {A:Around} {s:Shared} {σ:Option Addr} {X:Addr→Prop} {μ:List Addr} {H:Hp} {vs:List Value} {xs:List V} {r:V} {H':Hp},Room n A→Bs B s→CR σ X μ s.heap H→(∀ a ∈ μ,B.h1.get? a=none)→VRs σ X μ s.heap vs xs→g xs H=some (r,H')→
    wpAny (model B.prog B.w) A (call (.ref a) vs) (PostF B σ X μ s.heap H' r) NoE s
noncomputable def FnS (B:Base) (n:Nat) (x:Str) (g:FF):Prop:=∃ a,FnA B x a∧FnC B n a g
theorem Bs.fn (b:Bs B s) (ok:B.Ok) {a:Addr} {o:Obj} {fd:FuncData} (e:B.h1.get? a=some o) (hd:o.data=.func fd):s.heap.get? a=some o:=
  b.keep _ _ e (by rintro rfl;rw [ok.ptab] at e;cases e;cases hd)
noncomputable def funF (g:FF) (fs:List FE):FE:=fun ρ H=>match seqF fs ρ H with
  |some (xs,H1)=>if noLsts xs then (match g xs [] with
    |some (r,_)=>some (r,H1)
    |none=>none) else none
  |none=>none
theorem funF_some {g:FF} {fs:List FE} {r:V} (e:funF g fs ρ H=some (r,H')):∃ xs H2,seqF fs ρ H=some (xs,H')∧noLsts xs=true∧g xs []=some (r,H2):=by
  unfold funF at e
  split at e
  · split at e
    · split at e
      · cases e;exact ⟨_,_,‹_›,‹_›,‹_›⟩
      · first | exact no e | cases e
    · first | exact no e | cases e
  · first | exact no e | cases e
theorem callFn {pos:Pos} (ok:B.Ok) {x:Str} {a:Addr} (fa:FnA B x a) {es:List Expr} {fs:List FE} (h:SndL B n env names es fs) (hr:Room n A) (w:Wd B σ X env names ρ μ H s) {xs:List V} (q:seqF fs ρ H=some (xs,H')) {Q:Value→Shared→Prop}
    (hQ:∀ vs s',PostL B env names σ X ρ μ s H' xs vs s'→wpAny (model B.prog B.w) A (call (.ref a) vs) Q NoE s') :
    wpAny (model B.prog B.w) A (callWith pos (.ref a) [] (backTo pos (starEach es env)) []) Q NoE s:=by
  obtain ⟨o,fd,e1,e2⟩:=fa.fn
  refine Calls.callWith_function (o:=o) (fd:=fd) (n2 (evalArgs_L (f:=.ref a) (pos:=pos) h hr w q) fun a' s' hk p=>⟨⟨?_,e2⟩,?_⟩)
  · obtain ⟨ν,w1,_,_⟩:=p
    exact w1.bs.fn ok e1 e2
  · rw [hk];exact hQ _ _ p
theorem S.fun {x:Str} {np pos:Pos} {g:FF} {es:List Expr} {fs:List FE} {m:Nat} (ok:B.Ok) (hf:FnS B m x g) (hk:env.kindOf x=some .globalImplicit) (hd:(x == ("__debug__" : Str))=false) (h:SndL B n env names es fs) (hm:m≤n) :
    SndE B n env names (.Call (.Name x np) es [] pos) (funF g fs):=fun {A s σ X μ ρ H R H'} hr w e=>by
  obtain ⟨xs,H2,q,hno,q2⟩:=funF_some e
  obtain ⟨a,fa,hcall⟩:=hf
  refine wpAny_Call_NameR (glob ok w hk fa.mg hd ?_)
  refine callFn ok fa h hr w q fun vs s1 hx=>?_
  obtain ⟨ν,w1,r1,t1⟩:=hx
  have hre:=r1.recast (X':=fun b=>X b∨b ∈ μ++ν) (μ':=[]) (fun b o Z h1 h2=>⟨fun hx=>hx.elim h1 h2,fun hm=>(nomatch hm)⟩) hno
  have hcr:CR σ (fun b=>X b∨b ∈ μ++ν) [] s1.heap []:=by
    refine ⟨rfl,fun i a l e1 Z=>by simp at e1,List.nodup_nil,fun b hb=>?_,fun a h=>(nomatch h),w1.cr.st⟩
    rcases hb with hb | hb
    · exact w1.cr.xl b hb
    · obtain ⟨i,hi⟩:=List.getElem?_of_mem hb
      obtain ⟨l,hl⟩:=w1.cr.at hi
      obtain ⟨vs,p,_⟩:=w1.cr.cell _ _ _ hi hl
      exact ⟨_,p.isList⟩
  refine noE (hcall (hr.le hm) w1.bs hcr (fun a h=>(nomatch h)) hre q2) fun v s2 hx=>?_
  obtain ⟨b2,c2,r2,k2,n2,_⟩:=hx
  have bk:=w1.back (H':=H') b2 (D:=fun a=>a ∈ ([]:List Addr)) (fun a h=>(nomatch h)) k2 (fun Z Z Z Z Z h=>(nomatch h)) (fun Z Z Z Z=>rfl) rfl
  refine PostE.after t1 ⟨[],?_,?_,bk.2.1⟩
  · rw [List.append_nil];exact bk.1
  · rw [List.append_nil]
    exact r2.recast (fun b o Z h1 Z=>⟨fun h=>h1 (.inl h),fun h=>h1 (.inr h)⟩) n2
noncomputable def XO (X:Addr→Prop) (μ:List Addr) (c:Addr):Addr→Prop:=fun b=>X b∨(b ∈ μ∧b ≠ c)
theorem xo_off {c:Addr} {b:Addr} (hc:c ∈ μ) (h1:¬ X b) (h2:b ∉ μ):¬ XO X μ c b∧b ∉ [c]:=⟨fun hx=>hx.elim h1 fun h=>h2 h.1,fun hm=>h2 (List.mem_singleton.mp hm▸hc)⟩
theorem xo_on {c:Addr} {b:Addr} (h1:¬ XO X μ c b) (h2:b ∉ [c]):¬ X b∧b ∉ μ:=⟨fun h=>h1 (.inl h),fun h=>h1 (.inr ⟨h,fun q=>h2 (q ▸ .head _)⟩)⟩
theorem callCell {m:Nat} {a:Addr} {g:FF} (hcall:FnC B m a g) (hr:Room m A) (w:Wd B σ X env names ρ μ H s) {i:Nat} {c:Addr} (hc:μ[i]?=some c) {l l':List V} (hl:H[i]?=some l) (hnl:noLsts l=true) {vs:List Value} {xs:List V} {r:V}
    (hre:VRs σ (XO X μ c) [c] s.heap vs xs) (q:g xs [l]=some (r,[l'])):wpAny (model B.prog B.w) A (call (.ref a) vs) (PostE B env names σ X ρ μ s (H.set i l') r) NoE s:=by
  have hcm:c ∈ μ:=List.mem_of_getElem? hc
  obtain ⟨cs,p,rc⟩:=w.cr.cell _ _ _ hc hl
  have hcr:CR σ (XO X μ c) [c] s.heap [l]:=by
    refine ⟨rfl,fun i a k e1 e2=>?_,by simp,fun b hb=>?_,fun a h=>?_,w.cr.st⟩
    · cases i with
      |zero=>cases e1;cases e2;exact ⟨cs,p,rc.recast (fun b o Z=>xo_off hcm) hnl⟩
      |succ=>cases e1
    · rcases hb with hb | hb
      · exact w.cr.xl b hb
      · obtain ⟨i,hi⟩:=List.getElem?_of_mem hb.1
        obtain ⟨l,hl⟩:=w.cr.at hi
        obtain ⟨vs,p,_⟩:=w.cr.cell _ _ _ hi hl
        exact ⟨_,p.isList⟩
    · obtain rfl:=List.mem_singleton.mp h
      exact fun h=>h.elim (w.cr.xd _ hcm) fun h=>h.2 rfl
  refine noE (hcall hr w.bs hcr (fun a h=>List.mem_singleton.mp h▸w.ow.m _ hcm) hre q) fun v s2 hx=>?_
  obtain ⟨b2,c2,r2,k2,n2,n3⟩:=hx
  obtain ⟨ws,pw,rw'⟩:=c2.cell 0 c l' rfl rfl
  have bk:=w.back (H':=H.set i l') b2 (D:=fun a=>a ∈ [c]) (fun a h=>List.mem_singleton.mp h▸hcm) k2 (fun j b k e1 e2 hb=>by
    obtain rfl:=List.mem_singleton.mp hb
    obtain rfl:j=i:=(List.getElem?_inj (List.getElem?_eq_some_iff.mp e1).1 w.cr.nd).mp (e1.trans hc.symm)
    rw [List.getElem?_set_self (List.getElem?_eq_some_iff.mp hl).1] at e2;cases e2
    exact ⟨ws,pw,rw'.recast (fun b o Z=>xo_on) (n3 _ (.head _))⟩) (fun j b e1 hb=>List.getElem?_set_ne (by
    rintro rfl
    rw [hc] at e1;cases e1;exact hb (.head _))) (List.length_set ..)
  exact ⟨[],by rw [List.append_nil];exact bk.1,by rw [List.append_nil];exact r2.recast (fun b o Z=>xo_on) n2,bk.2.1⟩
noncomputable def l1 {α γ:Type} (l:List α) (k:α→Option γ):Option γ:=lC l fun x t=>lN t (k x)
theorem l1_some {α γ:Type} {l:List α} {k:α→Option γ} {r:γ} (e:l1 l k=some r):∃ x,l=[x]∧k x=some r:=by
  obtain ⟨x,t,rfl,e⟩:=lcons e
  obtain ⟨rfl,e⟩:=lnil e
  exact ⟨x,rfl,e⟩
noncomputable def funcK (g:FF) (l0:List V→List V) (ys:List V) (i:Nat) (H1:Hp):Option (V×Hp):=if noLsts ys then obn H1[i]? fun l=>if noLsts l then obd (g (l0 ys) [l]) fun r Hn=>l1 Hn fun l'=>some (r,H1.set i l') else none else none
noncomputable def funcF (g:FF) (fs:List FE):FE:=fun ρ H=>obd (seqF fs ρ H) fun xs H1=>lC xs fun x ys=>vLst x fun i=>funcK g (.lst 0 :: ·) ys i H1
inductive FncK (g:FF) (l0:List V→List V) (ys:List V) (i:Nat) (H1:Hp) (r:V):Hp→Prop
  |mk (l l':List V) (hno:noLsts ys=true) (hl:H1[i]?=some l) (hnl:noLsts l=true) (q2:g (l0 ys) [l]=some (r,[l'])):FncK g l0 ys i H1 r (H1.set i l')
theorem funcK_some {g:FF} {l0:List V→List V} {ys:List V} {i:Nat} {r:V} (e:funcK g l0 ys i H=some (r,H')):FncK g l0 ys i H r H':=by
  obtain ⟨h1,e⟩:=ite_opt e
  obtain ⟨l,h2,e⟩:=bn1 e
  obtain ⟨h3,e⟩:=ite_opt e
  obtain ⟨r,Hn,h4,e⟩:=bnd e
  obtain ⟨l',rfl,e⟩:=l1_some e
  cases e
  exact ⟨l,l',h1,h2,h3,h4⟩
theorem funcK_ok {g:FF} {l0:List V→List V} {ys l l':List V} {i:Nat} {r:V} (h1:noLsts ys=true) (h2:H[i]?=some l) (h3:noLsts l=true) (h4:g (l0 ys) [l]=some (r,[l'])):funcK g l0 ys i H=some (r,H.set i l'):=by
  unfold funcK
  rw [if_pos h1,h2]
  exact (if_pos h3).trans (by rw [h4];rfl)
inductive FncI (g:FF) (fs:List FE) (ρ:Rho) (H:Hp) (r:V):Hp→Prop
  |mk (i:Nat) (xs:List V) (H1:Hp) (l l':List V) (q:seqF fs ρ H=some (.lst i::xs,H1)) (hno:noLsts xs=true) (hl:H1[i]?=some l) (hnl:noLsts l=true) (q2:g (.lst 0::xs) [l]=some (r,[l'])):FncI g fs ρ H r (H1.set i l')
theorem funcF_some {g:FF} {fs:List FE} {r:V} (e:funcF g fs ρ H=some (r,H')):FncI g fs ρ H r H':=by
  obtain ⟨xs,H1,q,e⟩:=bnd e
  obtain ⟨x,ys,rfl,e⟩:=lcons e
  obtain ⟨i,rfl,e⟩:=vlst e
  obtain ⟨l,l',h1,h2,h3,h4⟩:=funcK_some e
  exact ⟨i,ys,H1,l,l',q,h1,h2,h3,h4⟩
theorem funcF_ok {g:FF} {fs:List FE} {ys l l':List V} {i:Nat} {r:V} (q:seqF fs ρ H=some (.lst i::ys,H')) (h1:noLsts ys=true) (h2:H'[i]?=some l) (h3:noLsts l=true) (h4:g (.lst 0::ys) [l]=some (r,[l'])):funcF g fs ρ H=some (r,H'.set i l'):=by
  unfold funcF
  rw [q]
  exact funcK_ok h1 h2 h3 h4
theorem S.func {x:Str} {np pos:Pos} {g:FF} {es:List Expr} {fs:List FE} {m:Nat} (ok:B.Ok) (hf:FnS B m x g) (hk:env.kindOf x=some .globalImplicit) (hd:(x == ("__debug__" : Str))=false) (h:SndL B n env names es fs) (hm:m≤n) :
    SndE B n env names (.Call (.Name x np) es [] pos) (funcF g fs):=fun {A s σ X μ ρ H R H'} hr w e=>by
  obtain ⟨i,xs,H1,l,l',q,hno,hl,hnl,q2⟩:=funcF_some e
  obtain ⟨a,fa,hcall⟩:=hf
  refine wpAny_Call_NameR (glob ok w hk fa.mg hd ?_)
  refine callFn ok fa h hr w q fun vs s1 hx=>?_
  obtain ⟨ν,w1,r1,t1⟩:=hx
  obtain ⟨v0,vs',rfl,r0,rs⟩:=r1.inv
  obtain ⟨c,rfl,hc⟩:=r0.inv
  exact noE (callCell hcall (hr.le hm) w1 hc hl hnl (.cons (.lst rfl) (rs.recast (fun b o Z=>xo_off (List.mem_of_getElem? hc)) hno)) q2) fun Z Z p=>PostE.after t1 p
end
mutual
noncomputable def freezeR (m:Nat) (H:Hp):V→Option V
  | .lst j=>if m≤j then obn H[j]? fun l=>if noLsts l then some (.frz l) else none else none
  | .tup l=>obn (freezeRs m H l) fun l=>some (.tup l)
  | .frz l=>if noLsts l then some (.frz l) else none
  | .app _=>none
  | .none=>some .none
  | .bool b=>some (.bool b)
  | .int i=>some (.int i)
  | .str l=>some (.str l)
  | .star=>some .star
noncomputable def freezeRs (m:Nat) (H:Hp):List V→Option (List V)
  |[]=>some []
  |x::l=>obn (freezeR m H x) fun y=>obn (freezeRs m H l) fun k=>some (y::k)
end
noncomputable def endR (m:Nat) (H:Hp) (v:V):Option (V×Hp):=match freezeR m H v with
  |some r=>if (H.take m).all noLsts then some (r,H.take m) else none
  |none=>none
noncomputable def runK (m:Nat) (o:Option (Fl×Rho×Hp)):Option (V×Hp):=match o with
  |some (.rt v,_,H1)=>endR m H1 v
  |some (.nx,_,H1)=>endR m H1 .none
  |_=>none
noncomputable def runF (k:Nat) (f:FS):FF:=fun xs H=>runK H.length (f (xs.map some++List.replicate k none) H)
inductive RunI (m:Nat) (o:Option (Fl×Rho×Hp)) (r:V×Hp):Prop
  |rt (v:V) (ρ:Rho) (H1:Hp) (h:o=some (.rt v,ρ,H1)) (q:endR m H1 v=some r):RunI m o r
  |nx (ρ:Rho) (H1:Hp) (h:o=some (.nx,ρ,H1)) (q:endR m H1 .none=some r):RunI m o r
theorem runK_some {m:Nat} {o:Option (Fl×Rho×Hp)} {r:V×Hp} (q:runK m o=some r):RunI m o r:=by
  cases o with
  |none=>exact no q
  |some p=>
    obtain ⟨f,ρ,H1⟩:=p
    cases f with
    |rt v=>exact .rt v ρ H1 rfl q
    |nx=>exact .nx ρ H1 rfl q
    |_=>exact no q
theorem exp_nx {f:FE} {v:V} {ρ:Rho} {H H1:Hp} (q:f ρ H=some (v,H1)):expS f ρ H=some (.nx,ρ,H1):=(expS_eq f ρ H).trans (by rw [q];rfl)
theorem ret_rt {f:FE} {v:V} {ρ:Rho} {H H1:Hp} (q:f ρ H=some (v,H1)):retS f ρ H=some (.rt v,ρ,H1):=(retS_eq f ρ H).trans (by rw [q];rfl)
theorem frz_l (m:Nat) (H:Hp) (j:Nat):freezeR m H (.lst j)=if m≤j then obn H[j]? fun l=>if noLsts l then some (.frz l) else none else none:=by kernel_rfl
theorem frz_t (m:Nat) (H:Hp) (l:List V):freezeR m H (.tup l)=obn (freezeRs m H l) fun l=>some (.tup l):=by kernel_rfl
theorem frz_f (m:Nat) (H:Hp) (l:List V):freezeR m H (.frz l)=if noLsts l then some (.frz l) else none:=by kernel_rfl
theorem frz_c (m:Nat) (H:Hp) (x:V) (l:List V):freezeRs m H (x::l)=obn (freezeR m H x) fun y=>obn (freezeRs m H l) fun k=>some (y::k):=by kernel_rfl
theorem endR_eq (m:Nat) (H:Hp) (v:V):endR m H v=obn (freezeR m H v) fun r=>if (H.take m).all noLsts then some (r,H.take m) else none:=by kernel_rfl
theorem noLsts_mk {x:V} {l:List V} (h1:x.noLst=true) (h2:noLsts l=true):noLsts (x::l)=true:=Bool.and_eq_true_iff.mpr ⟨h1,h2⟩
theorem freezeR_no {m:Nat} {H:Hp} {v:V} (h:v.noLst=true):freezeR m H v=some v:=
  V.rec (motive_1:=fun v=>v.noLst=true→freezeR m H v=some v) (motive_2:=fun l=>noLsts l=true→freezeRs m H l=some l) (fun Z=>rfl) (fun Z Z=>rfl) (fun Z Z=>rfl) (fun Z Z=>rfl)
    (fun l ih h=>(frz_t m H l).trans (by rw [ih h];rfl)) (fun l Z h=>(frz_f m H l).trans (if_pos h)) (fun Z=>rfl) (fun Z h=>nomatch h) (fun Z h=>nomatch h)
    (fun Z=>rfl) (fun x l i1 i2 h=>have q:=noLsts_cons x l h;(frz_c m H x l).trans (by rw [i1 q.1,i2 q.2];rfl)) v h
theorem end0 {v:V} {H:Hp} (h:v.noLst=true):endR 0 H v=some (v,[]):=by rw [endR_eq,freezeR_no h];rfl
theorem end1 {v:V} {l:List V} (h:v.noLst=true) (hl:noLsts l=true):endR 1 [l] v=some (v,[l]):=by
  rw [endR_eq,freezeR_no h]
  exact if_pos (Bool.and_eq_true_iff.mpr ⟨hl,rfl⟩)
theorem endL {H J:Hp} {l:List V} {j:Nat} (hj:H.length≤j) (e:J[j]?=some l) (hl:noLsts l=true) (ht:J.take H.length=H) (hh:H.all noLsts=true):endR H.length J (.lst j)=some (.frz l,H):=by
  rw [endR_eq,frz_l,if_pos hj,e,show (obn (some l) fun l=>if noLsts l then some (V.frz l) else none)=some (.frz l) from if_pos hl,ht]
  exact if_pos hh
theorem run0 {f:FS} {k:Nat} {xs:List V} {H1:Hp} {ρ:Rho} {v:V} (e:f (xs.map some++List.replicate k none) []=some (.rt v,ρ,H1)) (h:v.noLst=true):runF k f xs []=some (v,[]):=by
  unfold runF
  rw [e]
  exact end0 h
theorem runL {f:FS} {k j:Nat} {xs l:List V} {H1:Hp} {ρ:Rho} (e:f (xs.map some++List.replicate k none) []=some (.rt (.lst j),ρ,H1)) (hj:H1[j]?=some l) (hl:noLsts l=true):runF k f xs []=some (.frz l,[]):=by
  unfold runF
  rw [e]
  exact endL (H:=[]) (Nat.zero_le _) hj hl rfl rfl
theorem run1 {f:FS} {k:Nat} {xs l l':List V} {ρ:Rho} {v:V} (e:f (xs.map some++List.replicate k none) [l]=some (.rt v,ρ,[l'])) (h:v.noLst=true) (hl:noLsts l'=true):runF k f xs [l]=some (v,[l']):=by
  unfold runF
  rw [e]
  exact end1 h hl
theorem run1n {f:FS} {k:Nat} {xs l l':List V} {ρ:Rho} (e:f (xs.map some++List.replicate k none) [l]=some (.nx,ρ,[l'])) (hl:noLsts l'=true):runF k f xs [l]=some (.none,[l']):=by
  unfold runF
  rw [e]
  exact end1 (v:=.none) rfl hl
section
variable {B:Base} {n:Nat} {env:Env} {names:List Str} {A:Around} {s s' s'':Shared} {σ:Option Addr} {X:Addr→Prop} {μ ν:List Addr} {ρ ρ':Rho} {H H' H'':Hp} {F:Fl}
theorem bindL_off {k:Str→Option NameKind} {y:Str}:∀ {ps:List Str} {vals:List Value} {m:Str→Option Value},y ∉ ps→bindL k (ps.zip vals) m y=m y
  |[],_,_,_=>rfl
  |p::ps,[],_,_=>rfl
  |p::ps,v::vals,m,h=>by
    simp only [List.mem_cons,not_or] at h
    show bindL k (ps.zip vals) _ y=m y
    rw [bindL_off h.2]
    split
    · exact if_neg h.1
    · rfl
theorem bindL_get {k:Str→Option NameKind} {y:Str}:∀ {ps:List Str} {vals:List Value} {m:Str→Option Value} {i:Nat} {v:Value},ps.Nodup→ps[i]?=some y→vals[i]?=some v→k y=some .local→bindL k (ps.zip vals) m y=some v
  |[],_,_,i,_,_,h,_,_=>by simp at h
  |p::ps,[],_,i,_,_,_,h,_=>by simp at h
  |p::ps,w::vals,m,i,v,hn,h1,h2,hk=>by
    obtain ⟨hp,hn⟩:=List.nodup_cons.mp hn
    show bindL k (ps.zip vals) _ y=_
    cases i with
    |zero=>
      simp at h1 h2
      subst h1 h2
      rw [bindL_off hp,hk]
      simp
    |succ i=>exact bindL_get hn (by simpa using h1) (by simpa using h2) hk
theorem bindC_off {k:Str→Option NameKind} {y:Str}:∀ {ps:List Str} {vals:List Value} {m:Str→Option Value},y ∉ ps→bindC k (ps.zip vals) m y=m y
  |[],_,_,_=>rfl
  |p::ps,[],_,_=>rfl
  |p::ps,v::vals,m,h=>by
    simp only [List.mem_cons,not_or] at h
    show bindC k (ps.zip vals) _ y=m y
    rw [bindC_off h.2]
    split
    · rfl
    · exact if_neg h.1
theorem bindC_get {k:Str→Option NameKind} {y:Str}:∀ {ps:List Str} {vals:List Value} {m:Str→Option Value} {i:Nat} {v:Value},ps.Nodup→ps[i]?=some y→vals[i]?=some v→k y ≠ some .local→bindC k (ps.zip vals) m y=some v
  |[],_,_,i,_,_,h,_,_=>by simp at h
  |p::ps,[],_,i,_,_,_,h,_=>by simp at h
  |p::ps,w::vals,m,i,v,hn,h1,h2,hk=>by
    obtain ⟨hp,hn⟩:=List.nodup_cons.mp hn
    show bindC k (ps.zip vals) _ y=_
    cases i with
    |zero=>
      simp at h1 h2
      subst h1 h2
      rw [bindC_off hp,if_neg hk]
      simp
    |succ i=>exact bindC_get hn (by simpa using h1) (by simpa using h2) hk
structure Fit (params:Arguments) (scope:Scope) (ps ls:List Str):Prop where
  co:scope.isCoroutine=false
  ge:scope.isGenerator=false
  ki:scope.kind=.function
  nd:(ps++ls).Nodup
  pk:∀ y ∈ ps,scope.names.lookup y=some .local∨scope.names.lookup y=some .cell
  nf:∀ y ∈ ps++ls,scope.names.lookup y ≠ some .free
  bi:∀ (x:Str) (body:List Stmt) (pm code doc:Value) (vals:List Value),vals.length=ps.length→bindArgs (docDef x params body scope pm code doc) ⟨vals,[]⟩ = pure (ps.zip vals)
theorem Fit.ce {params:Arguments} {scope:Scope} {ps ls:List Str} (_:Fit params scope ps ls) (y:Str) (_:y ∈ ps++ls) (h:scope.names.lookup y=some .cell) (L:Nat):((cellsFrom (L+1) scope.names []).lookup y).isSome=true:=cellsFrom_some _ _ _ (.inl h)
theorem vl0 {P:List Value→Prop} (h:P []) (l:List Value) (e:l.length=0):P l:=by
  cases l with
  |nil=>exact h
  |cons=>cases e
theorem vlS {P:List Value→Prop} {n:Nat} (h:∀ a l,l.length=n→P (a::l)) (l:List Value) (e:l.length=n+1):P l:=by
  cases l with
  |nil=>cases e
  |cons a l=>exact h a l (Nat.succ.inj e)
theorem vl1 {P:List Value→Prop} (h:∀ a,P [a]):∀ l:List Value,l.length=1→P l:=vlS fun a=>vl0 (h a)
theorem vl2 {P:List Value→Prop} (h:∀ a b,P [a,b]):∀ l:List Value,l.length=2→P l:=vlS fun a=>vl1 (h a)
theorem vl3 {P:List Value→Prop} (h:∀ a b c,P [a,b,c]):∀ l:List Value,l.length=3→P l:=vlS fun a=>vl2 (h a)
theorem room_deeper {e:Env} (h:Room (n+1) A):Room n (A.deeper e):=⟨h.1,by have:=h.2.1;show A.depth+1+n≤600;omega,by have:=h.2.2;show A.units+3+8 * n≤9000;omega⟩
theorem VRs.at? {h:Heap} {vs:List Value} {xs:List V} (r:VRs σ X μ h vs xs) {k i:Nat} {V:V} (e:(xs.map some++List.replicate k none)[i]?=some (some V)):∃ v,vs[i]?=some v∧VR σ X μ h v V:=by
  by_cases hi:i < xs.length
  · rw [List.getElem?_append_left (by simpa using hi),List.getElem?_map] at e
    cases q:xs[i]? with
    |none=>rw [q] at e;cases e
    |some y=>rw [q] at e;cases e;exact r.get q
  · rw [List.getElem?_append_right (by simpa using hi),List.getElem?_replicate] at e
    split at e<;>cases e
theorem frame {s₁:Shared} {params:Arguments} {body:List Stmt} {scope:Scope} {ps ls:List Str} {x:Str} {pm code doc:Value} {a:Addr} (fit:Fit params scope ps ls) (bs:Bs B s) (c:CR σ X μ s.heap H) (hm:∀ a ∈ μ,B.h1.get? a=none)
    {vals:List Value} {xs:List V} (r:VRs σ X μ s.heap vals xs) (hlen:vals.length=ps.length)
    (ic:InCallC s (callEnvC (docDef x params body scope pm code doc) s.heap.objs.size a).locals (bindL (callEnvC (docDef x params body scope pm code doc) s.heap.objs.size a).kindOf (ps.zip vals) fun Z=>none)
      (callEnvC (docDef x params body scope pm code doc) s.heap.objs.size a).cells (bindC (callEnvC (docDef x params body scope pm code doc) s.heap.objs.size a).kindOf (ps.zip vals) fun Z=>none) s₁) :
    Keeps s s₁∧Wd B σ X (callEnvC (docDef x params body scope pm code doc) s.heap.objs.size a) (ps++ls) (xs.map some++List.replicate ls.length none) μ H s₁:=by
  have k:Keeps s s₁:=by
    obtain ⟨h',tk,rfl,hk⟩:=ic.done
    exact ⟨h',tk,rfl,hk⟩
  have hkd:∀ y,(callEnvC (docDef x params body scope pm code doc) s.heap.objs.size a).kindOf y=scope.names.lookup y:=fun y=>rfl
  have hpn:ps.Nodup:=(List.nodup_append.mp fit.nd).1
  have hlx:xs.length=ps.length:=by rw [← r.length,hlen]
  have fresh:∀ b,s.heap.objs.size≤b→s.heap.get? b=none:=fun b hb=>by
    cases q:s.heap.get? b with
    |none=>rfl
    |some o=>exact absurd (Heap.lt_size q) (Nat.not_lt.mpr hb)
  have inp:∀ {i:Nat} {y:Str} {V:V},(ps++ls)[i]?=some y→(xs.map some++List.replicate ls.length none)[i]?=some (some V)→ps[i]?=some y:=fun {i y V} h1 h2=>by
    by_cases hi:i < ps.length
    · rwa [List.getElem?_append_left hi] at h1
    · rw [List.getElem?_append_right (by simpa [hlx] using hi),List.getElem?_replicate] at h2
      split at h2<;>cases h2
  refine ⟨k,bs.keeps k,c.keeps k,⟨fit.ki,rfl,rfl,⟨_,ic.toInCall.ns,fun i y V h1 h2 h3=>?_⟩,fun i y h1 h2=>?_,ic.apart,fun y cc h=>⟨_,ic.cell y cc h⟩⟩,?_,fun y cc h=>?_,hm⟩
  · obtain ⟨v,hv,rv⟩:=r.at? h3
    exact ⟨v,bindL_get hpn (inp h1 h3) hv h2,rv.keeps k⟩
  · have hmem:y ∈ ps++ls:=List.mem_of_getElem? h1
    rw [hkd] at h2
    have h2':scope.names.lookup y=some .cell:=h2.elim id fun h=>absurd h (fit.nf y hmem)
    obtain ⟨cc,hcc⟩:=Option.isSome_iff_exists.mp (fit.ce y hmem h2' s.heap.objs.size)
    refine ⟨cc,_,hcc,ic.cell y cc hcc,fun V h3=>?_⟩
    obtain ⟨v,hv,rv⟩:=r.at? h3
    exact ⟨v,bindC_get hpn (inp h1 h3) hv (by rw [hkd,h2'];simp),rv.keeps k⟩
  · exact base_none bs (fresh _ ic.toInCall.fresh)
  · have:=ic.above y cc (lookup_mem h)
    exact base_none bs (fresh _ (Nat.le_trans ic.toInCall.fresh (Nat.le_of_lt this)))
theorem freezeR_some {h:Heap} (c:CR σ X (μ++ν) h H) (v:V):∀ (r:V) (va:Value),freezeR μ.length H v=some r→VR σ X (μ++ν) h va v→VR σ X μ h va r∧r.noLst=true:=by
  have hs:∀ b o,h.get? b=some o→¬ X b→b ∉ μ++ν→¬ X b∧b ∉ μ:=fun b o Z h1 h2=>⟨h1,fun q=>h2 (List.mem_append_left _ q)⟩
  have d:∀ (v r:V) (va:Value),(if v.noLst=true then some v else none)=some r→VR σ X (μ++ν) h va v→VR σ X μ h va r∧r.noLst=true:=fun v r va e rv=>by
    obtain ⟨hno,rfl⟩:=ite_some e
    exact ⟨rv.recast hs hno,hno⟩
  refine V.rec (motive_1:=fun v=>∀ (r:V) (va:Value),freezeR μ.length H v=some r→VR σ X (μ++ν) h va v→VR σ X μ h va r∧r.noLst=true)
    (motive_2:=fun l=>∀ (k:List V) (vs:List Value),freezeRs μ.length H l=some k→VRs σ X (μ++ν) h vs l→VRs σ X μ h vs k∧noLsts k=true) (d .none) (fun b=>d (.bool b)) (fun i=>d (.int i)) (fun l=>d (.str l)) ?_ (fun l Z=>d (.frz l)) (d .star) ?_ (fun Z Z Z e=>no e) ?_ ?_ v
  · intro l ih r va e rv
    obtain ⟨k,hk,e⟩:=bn1 ((frz_t ..).symm.trans e)
    cases e
    cases rv with
    |tup ht rs=>exact ⟨.tup ht (ih _ _ hk rs).1,(ih _ _ hk rs).2⟩
  · intro j r va e rv
    obtain ⟨hj,e⟩:=ite_opt ((frz_l ..).symm.trans e)
    obtain ⟨l,hl,e⟩:=bn1 e
    obtain ⟨hno,rfl⟩:=ite_some e
    obtain ⟨a,rfl,ha⟩:=rv.inv
    obtain ⟨vs,p,rs⟩:=c.cell _ _ _ ha hl
    rw [List.getElem?_append_right hj] at ha
    exact ⟨.frz p.isList (c.xd a (List.mem_append_right _ (List.mem_of_getElem? ha))) (fun hq=>(List.nodup_append.mp c.nd).2.2 a hq a (List.mem_of_getElem? ha) rfl) (rs.recast hs hno),hno⟩
  · intro k vs e rv
    cases e
    cases rv
    exact ⟨.nil,rfl⟩
  · intro x l i1 i2 k vs e rv
    obtain ⟨y,h1,e⟩:=bn1 ((frz_c ..).symm.trans e)
    obtain ⟨k,h2,e⟩:=bn1 e
    cases e
    cases rv with
    |cons r rs=>exact ⟨.cons (i1 _ _ h1 r).1 (i2 _ _ h2 rs).1,noLsts_mk (i1 _ _ h1 r).2 (i2 _ _ h2 rs).2⟩
theorem fin_call {e:Env} {r:V} {v:V} {va:Value} {h0:Heap} (w:Wd B σ X e names ρ (μ++ν) H s') (rv:VR σ X (μ++ν) s'.heap va v) (t:StpS B e μ ν s.heap s'.heap) (q:endR μ.length H v=some (r,H'))
    (kp:∀ b o,h0.get? b=some o→s.heap.get? b=some o∧b ≠ e.locals∧∀ y,e.cells.lookup y ≠ some b):PostF B σ X μ h0 H' r va s':=by
  obtain ⟨r',hf,q⟩:=bn1 ((endR_eq ..).symm.trans q)
  obtain ⟨hno,q⟩:=ite_some q
  cases q
  have hlen:μ.length≤H.length:=by rw [← w.cr.len];simp
  have hs:∀ b o,s'.heap.get? b=some o→¬ X b→b ∉ μ++ν→¬ X b∧b ∉ μ:=fun b o Z h1 h2=>⟨h1,fun q=>h2 (List.mem_append_left _ q)⟩
  obtain ⟨hr,hrn⟩:=freezeR_some w.cr _ _ _ hf rv
  have hall:∀ l ∈ H.take μ.length,noLsts l=true:=fun l hl=>List.all_eq_true.mp hno l hl
  refine ⟨w.bs,⟨by simp [Nat.min_eq_left hlen],fun i a l e1 e2=>?_,(List.nodup_append.mp w.cr.nd).1,w.cr.xl,fun a ha=>w.cr.xd a (List.mem_append_left _ ha),w.cr.st⟩,hr,⟨fun b o e1 e2 e3=>?_,fun b o e1=>?_⟩,hrn,hall⟩
  · have hi:=(List.getElem?_eq_some_iff.mp e1).1
    have e2':H[i]?=some l:=by rw [List.getElem?_take] at e2;simpa [hi] using e2
    have e1':(μ++ν)[i]?=some a:=by rw [List.getElem?_append_left hi];exact e1
    obtain ⟨vs,p,rs⟩:=w.cr.cell i a l e1' e2'
    exact ⟨vs,p,rs.recast hs (hall l (List.mem_of_getElem? e2))⟩
  · obtain ⟨k1,k2,k3⟩:=kp b o e1
    exact t.kp.keep b o k1 (by rintro (h | h | ⟨y,h⟩);exact e2 h;exact k2 h;exact k3 y h) e3
  · exact t.kp.dom b o (kp b o e1).1
noncomputable abbrev Rec (B:Base) (x:Str) (params:Arguments) (body:List Stmt) (scope:Scope):Prop:=
  ∃ a o pm code doc,B.mg x=some (.ref a)∧B.h1.get? a=some o∧o.data=.func (docDef x params body scope pm code doc)∧B.h1.CodeRec code x
theorem Bs.code (b:Bs B s) (ok:B.Ok) {code:Value} {q:Str} (h:B.h1.CodeRec code q):s.heap.CodeRec code q:=by
  obtain ⟨c,o,vs,t,e1,e2,e3,e4⟩:=h
  refine ⟨c,o,vs,t,e1,b.keep _ _ e2 ?_,e3,e4⟩
  rintro rfl
  rw [ok.ptab] at e2;cases e2;cases e3;simp at e4
theorem Bs.nolimit (b:Bs B s) (ok:B.Ok):s.heap.NoLimit:=by
  obtain ⟨mc,h1,h2⟩:=ok.nolimit
  refine ⟨mc,h1.at fun o e=>b.keep _ o e ?_,h2⟩
  obtain ⟨o,es,ep,ho,hd,_⟩:=h1
  intro q;rw [q,ok.ptab] at ho;cases ho;cases hd
theorem ic_kp {e:Env} (k:Keeps s s') (hf:s.heap.objs.size≤e.locals) (ha:∀ y c,(y,c) ∈ e.cells→e.locals < c) (b:Addr) (o:Obj) (he:s.heap.get? b=some o):s'.heap.get? b=some o∧b ≠ e.locals∧∀ y,e.cells.lookup y ≠ some b:=
  have hlt:b < s.heap.objs.size:=Heap.lt_size he
  ⟨keeps_get k he,fun hq=>Nat.lt_irrefl _ (Nat.lt_of_lt_of_le hlt (hq▸hf)),fun y hq=>Nat.lt_irrefl _ (Nat.lt_trans hlt (Nat.lt_of_le_of_lt hf (ha _ _ (lookup_mem hq))))⟩
set_option tactic.hygienic true in
theorem fnS {x:Str} {params:Arguments} {body:List Stmt} {scope:Scope} {ps ls:List Str} {f:FS} (ok:B.Ok) (hrec:Rec B x params body scope) (fit:Fit params scope ps ls)
    (hbody:∀ pm code doc L a,SndB B n (callEnvC (docDef x params body scope pm code doc) L a) (ps++ls) body f):FnS B (n+1) x (fun xs H=>if xs.length=ps.length then runF ls.length f xs H else none):=by
  obtain ⟨a,o,pm,code,doc,h1,h2,h3,h4⟩:=hrec
  refine ⟨a,⟨h1,o,_,h2,h3⟩,fun {A s σ X μ H vs xs r H'} hr bs c hm rs q=>?_⟩
  obtain ⟨hxl,q⟩:=ite_opt q
  have hlen:vs.length=ps.length:=by rw [rs.length,hxl]
  have hml:μ.length=H.length:=c.len
  refine wpAny_call (codeAny_call_cells (o:=o) (body:=body) (binds:=ps.zip vs) (by have:=hr.2.1;show A.depth < 1000;omega) (bs.fn ok h2 h3) h3 (bs.nolimit ok) (bs.code ok h4) rfl (fit.bi x body pm code doc vs hlen) rfl ?_ ?_ fit.co fit.ge fit.ki)
  · intro y hy
    have hmem:y.1 ∈ ps:=(List.of_mem_zip hy).1
    rcases fit.pk _ hmem with h | h
    · exact .inl h
    · exact .inr ⟨h,fit.ce _ (List.mem_append_left _ hmem) h _⟩
  · intro s₁ ic
    obtain ⟨k,w⟩:=frame (a:=a) (x:=x) (body:=body) (pm:=pm) (code:=code) (doc:=doc) fit bs c hm rs hlen ic
    have kp:=ic_kp k ic.toInCall.fresh ic.above
    cases runK_some q with
    |rt v ρ' H1 q1 q=>
      refine anyE (nS (hbody pm code doc _ a (room_deeper hr) w q1) fun fl s' ν w' r' t'=>?_)
      cases r' with
      |rt rv=>exact fin_call w' rv t' (by rw [hml];exact q) kp
    |nx ρ' H1 q1 q=>
      refine anyE (nS (hbody pm code doc _ a (room_deeper hr) w q1) fun fl s' ν w' r' t'=>?_)
      cases r' with
      |nx=>exact fin_call w' .none t' (by rw [hml];exact q) kp
noncomputable def funcG (g:FF) (fs:List FE):FE:=fun ρ H=>obd (seqF fs ρ H) fun xs H1=>lC xs fun x t=>l1 t fun y=>vLst y fun i=>funcK g (· ++ [.lst 0]) [x] i H1
inductive FngI (g:FF) (fs:List FE) (ρ:Rho) (H:Hp) (r:V):Hp→Prop
  |mk (x:V) (i:Nat) (H1:Hp) (l l':List V) (q:seqF fs ρ H=some ([x,.lst i],H1)) (hno:x.noLst=true) (hl:H1[i]?=some l) (hnl:noLsts l=true) (q2:g [x,.lst 0] [l]=some (r,[l'])):FngI g fs ρ H r (H1.set i l')
theorem noLsts_one {x:V} (h:noLsts [x]=true):x.noLst=true:=(Bool.and_eq_true_iff.mp h).1
theorem funcG_some {g:FF} {fs:List FE} {r:V} (e:funcG g fs ρ H=some (r,H')):FngI g fs ρ H r H':=by
  obtain ⟨xs,H1,q,e⟩:=bnd e
  obtain ⟨x,t,rfl,e⟩:=lcons e
  obtain ⟨y,rfl,e⟩:=l1_some e
  obtain ⟨i,rfl,e⟩:=vlst e
  have e:funcK g (· ++ [.lst 0]) [x] i H1=some (r,H'):=e
  obtain ⟨l,l',h1,h2,h3,h4⟩:=funcK_some e
  exact ⟨x,i,H1,l,l',q,noLsts_one h1,h2,h3,h4⟩
theorem funcG_ok {g:FF} {fs:List FE} {x:V} {l l':List V} {i:Nat} {r:V} (q:seqF fs ρ H=some ([x,.lst i],H')) (h1:noLsts [x]=true) (h2:H'[i]?=some l) (h3:noLsts l=true) (h4:g [x,.lst 0] [l]=some (r,[l'])):funcG g fs ρ H=some (r,H'.set i l'):=by
  unfold funcG
  rw [q]
  exact funcK_ok (l0:=(· ++ [.lst 0])) (ys:=[x]) h1 h2 h3 h4
theorem S.callG {x:Str} {np pos:Pos} {g:FF} {es:List Expr} {fs:List FE} {m:Nat} (ok:B.Ok) (hf:FnS B m x g) (hk:env.kindOf x=some .globalImplicit) (hd:(x == ("__debug__" : Str))=false) (h:SndL B n env names es fs) (hm:m≤n) :
    SndE B n env names (.Call (.Name x np) es [] pos) (funcG g fs):=fun {A s σ X μ ρ H R H'} hr w e=>by
  obtain ⟨x0,i,H1,l,l',q,hno,hl,hnl,q2⟩:=funcG_some e
  obtain ⟨a,fa,hcall⟩:=hf
  refine wpAny_Call_NameR (glob ok w hk fa.mg hd ?_)
  refine callFn ok fa h hr w q fun vs s1 hx=>?_
  obtain ⟨ν,w1,r1,t1⟩:=hx
  obtain ⟨v1,v0,rfl,rx,r0⟩:=r1.inv2
  obtain ⟨c,rfl,hc⟩:=r0.inv
  exact noE (callCell hcall (hr.le hm) w1 hc hl hnl (.cons (rx.recast (fun b o Z=>xo_off (List.mem_of_getElem? hc)) hno) (.cons (.lst rfl) .nil)) q2) fun Z Z p=>PostE.after t1 p
end
noncomputable def tAll0:List FT→Rho→Option Bool
  |[],_=>some true
  |f::fs,ρ=>obd (f ρ []) fun b J=>lN J (if b then tAll0 fs ρ else some false)
noncomputable def compGo (inner:Rho→Option (List V×Rho)) (tg:FG) (cs:List FT):List V→Rho→Option (List V×Rho)
  |[],ρ=>some ([],ρ)
  |v::vs,ρ=>obn (tg v ρ) fun ρ=>obn (tAll0 cs ρ) fun b=>if b then obd (inner ρ) fun xs ρ=>obd (compGo inner tg cs vs ρ) fun ys ρ=>some (xs++ys,ρ) else compGo inner tg cs vs ρ
noncomputable def leafC (elt:FE):Rho→Option (List V×Rho):=fun ρ=>obd (elt ρ []) fun x J=>lN J (some ([x],ρ))
noncomputable def genC (fi:FL) (inner:Rho→Option (List V×Rho)) (tg:FG) (cs:List FT):Rho→Option (List V×Rho):=fun ρ=>obd (fi ρ []) fun vs J=>lN J (compGo inner tg cs vs ρ)
noncomputable def freeV (ρ:Rho) (j:Nat):Option V:=obo ρ[j]? fun v=>if v.noLst then some v else none
noncomputable def compF (fi:FL) (k:Nat) (js:List Nat) (inner:Rho→Option (List V×Rho)) (tg:FG) (cs:List FT):FE:=fun ρ H=>match fi ρ H with
  |some (vs,H1)=>(match compGo inner tg cs vs (List.replicate k none++js.map (freeV ρ)) with
    |some (xs,_)=>if xs.length≤SZ then some (.frz xs,H1) else none
    |none=>none)
  |none=>none
section
variable {B:Base} {n:Nat} {env:Env} {names:List Str} {A:Around} {s s' s'':Shared} {σ:Option Addr} {X:Addr→Prop} {μ ν:List Addr} {ρ ρ':Rho} {H H' H'':Hp} {F:Fl}
noncomputable def XC (X:Addr→Prop) (μ:List Addr):Addr→Prop:=fun b=>X b∨b ∈ μ
noncomputable def PostJ (B:Base) (env:Env) (names:List Str) (σ:Option Addr) (X:Addr→Prop) (ρ:Rho) (μ:List Addr) (s:Shared) (H':Hp) (xs:List V):Value→Shared→Prop:=
  fun v s'=>∃ ν,Wd B σ X env names ρ (μ++ν) H' s'∧ItR σ (XC X (μ++ν)) [] s'.heap v xs∧(∃ a,v=.ref a∧s.heap.get? a=none)∧ItOff X s'.heap v∧Stp B μ ν s.heap s'.heap
noncomputable def SndJ (B:Base) (n:Nat) (env:Env) (names:List Str) (e:Expr) (f:FL):Prop:=
  ∀ ⦃A:Around⦄ ⦃s:Shared⦄ ⦃σ:Option Addr⦄ ⦃X:Addr→Prop⦄ ⦃μ:List Addr⦄ ⦃ρ:Rho⦄ ⦃H:Hp⦄ ⦃xs:List V⦄ ⦃H':Hp⦄,Room n A→Wd B σ X env names ρ μ H s→f ρ H=some (xs,H')→
    wpAny (model B.prog B.w) A (eval e env) (fun v s₁=>wpAny (model B.prog B.w) A (pyIter v) (PostJ B env names σ X ρ μ s H' xs) NoE s₁) NoE s
noncomputable def noL (f:FL):FL:=fun ρ H=>match f ρ H with
  |some (xs,H1)=>if noLsts xs then some (xs,H1) else none
  |none=>none
noncomputable def celF (f:FE):FL:=fun ρ H=>match f ρ H with
  |some (.lst i,H1)=>(match H1[i]? with
    |some l=>if noLsts l then some (l,H1) else none
    |none=>none)
  |_=>none
theorem rngL_no:∀ {k:Nat} {x st:Int},noLsts (rngL x st k)=true
  |0,_,_=>rfl
  |k+1,_,_=>by simp [rngL,nlc,nli,rngL_no]
theorem ItR.free {v:Value} {xs:List V} (r:ItR σ X μ s.heap v xs) (h:noLsts xs=true):ItR σ (XC X μ) [] s.heap v xs:=by
  cases r with
  |list hi hl hm hv=>exact .list hi hl (fun h=>(nomatch h)) (hv.recast (fun b o Z h1 h2=>⟨fun q=>q.elim h1 h2,by simp⟩) h)
  |range hi=>exact .range hi
theorem noL_eq (f:FL) (ρ:Rho) (H:Hp):noL f ρ H=obd (f ρ H) fun xs H1=>if noLsts xs then some (xs,H1) else none:=by kernel_rfl
theorem J.of {e:Expr} {f:FL} (h:SndI B n env names e f):SndJ B n env names e (noL f):=fun {A s σ X μ ρ H xs H'} hr w q=>by
  obtain ⟨ys,H1,q1,q⟩:=bnd ((noL_eq _ _ _).symm.trans q)
  obtain ⟨hno,q⟩:=ite_some q
  cases q
  refine noE (h hr w q1) fun v s₁ p=>noE p fun it s₂ p=>?_
  obtain ⟨ν,w2,r2,ha,ho,t2⟩:=p
  exact ⟨ν,w2,r2.free hno,ha,ho,t2⟩
inductive CelI (f:FE) (ρ:Rho) (H H':Hp) (l:List V):Prop
  |mk (i:Nat) (q1:f ρ H=some (.lst i,H')) (q2:H'[i]?=some l) (hno:noLsts l=true):CelI f ρ H H' l
theorem celF_eq (f:FE) (ρ:Rho) (H:Hp):celF f ρ H=oLst (f ρ H) fun i H1=>obn H1[i]? fun l=>if noLsts l then some (l,H1) else none:=by kernel_rfl
theorem celF_some {f:FE} {l:List V} (q:celF f ρ H=some (l,H')):CelI f ρ H H' l:=by
  obtain ⟨i,H1,q1,q⟩:=olst ((celF_eq ..).symm.trans q)
  obtain ⟨l,q2,q⟩:=bn1 q
  obtain ⟨hno,q⟩:=ite_some q
  cases q
  exact ⟨i,q1,q2,hno⟩
theorem cg_on {inner:Rho→Option (List V×Rho)} {tg:FG} {cs:List FT} {v:V} {vs xs ys:List V} {ρ1 ρ2 ρ3:Rho} (q1:tg v ρ=some ρ1) (q2:tAll0 cs ρ1=some true) (q3:inner ρ1=some (xs,ρ2)) (q4:compGo inner tg cs vs ρ2=some (ys,ρ3)):compGo inner tg cs (v::vs) ρ=some (xs++ys,ρ3):=by
  show obn (tg v ρ) _=_
  rw [q1]
  show obn (tAll0 cs ρ1) _=_
  rw [q2]
  show obd (inner ρ1) _=_
  rw [q3]
  show obd (compGo inner tg cs vs ρ2) _=_
  rw [q4]
  rfl
theorem cg_off {inner:Rho→Option (List V×Rho)} {tg:FG} {cs:List FT} {v:V} {vs:List V} {ρ1:Rho} {r:Option (List V×Rho)} (q1:tg v ρ=some ρ1) (q2:tAll0 cs ρ1=some false) (q4:compGo inner tg cs vs ρ1=r):compGo inner tg cs (v::vs) ρ=r:=by
  show obn (tg v ρ) _=_
  rw [q1]
  show obn (tAll0 cs ρ1) _=_
  rw [q2]
  exact q4
theorem noit_ok {f:FE} {l:List V} (h:f ρ H=some (.frz l,H')) (hn:noLsts l=true):noL (itF f) ρ H=some (l,H'):=(noL_eq ..).trans (by rw [it_ok h];exact if_pos hn)
theorem leaf_ok {f:FE} {x:V} (h:f ρ []=some (x,[])):leafC f ρ=some ([x],ρ):=by
  unfold leafC
  rw [h]
  rfl
theorem free_ok {j:Nat} {v:V} (h:ρ[j]?=some (some v)) (hn:v.noLst=true):freeV ρ j=some v:=by
  unfold freeV
  rw [h]
  exact if_pos hn
theorem tall_1 {f:FT} {b:Bool} (h:f ρ []=some (b,[])):tAll0 [f] ρ=some b:=by
  show obd (f ρ []) _=_
  rw [h]
  cases b<;>rfl
theorem J.cell {e:Expr} {f:FE} (h:SndE B n env names e f):SndJ B n env names e (celF f):=fun {A s σ X μ ρ H xs H'} hr w q=>by
  obtain ⟨i,q1,q2,hno⟩:=celF_some q
  refine nE (h hr w q1) fun v s₁ ν w1 r1 t1=>?_
  obtain ⟨a,rfl,ha⟩:=r1.inv
  obtain ⟨vs,p,rv⟩:=w1.cr.cell _ _ _ ha q2
  refine wpAny_pyIter_list p.isList ?_
  have kp:=keeps_push (s:=s₁) (tk:=s₁.toks) { cls:=Value.type "list_iterator",data:=Data.fields #[Value.ref a,Value.int 0 0] }
  refine ⟨ν,w1.keeps kp,?_,⟨_,rfl,noNew t1 (Nat.le_refl _)⟩,?_,(List.append_nil ν▸Stp.trans (ν':=[]) t1 (Stp.of_keeps kp):Stp B μ ν _ _)⟩
  · exact .list (i:=0) (vs:=_) ⟨_,Heap.get?_push_size _ rfl,rfl,rfl⟩ (isList_keeps p.isList fun Z Z e=>Heap.get?_push_of_some _ e) (fun h=>(nomatch h)) ((rv.recast (fun b o Z h1 h2=>⟨fun q=>q.elim h1 h2,List.not_mem_nil⟩) hno).keeps kp)
  · intro a' o l t e1 e2 e3
    cases e1
    cases Option.some.inj (e2.symm.trans (Heap.get?_push_size _ rfl))
    cases e3
    exact w1.cr.xd a (List.mem_of_getElem? ha)
theorem VR.noLst0 {h:Heap} {v:Value} {x:V} (r:VR σ X [] h v x):x.noLst=true:=
  VR.rec (motive_1:=fun Z x Z=>x.noLst=true) (motive_2:=fun Z l Z=>noLsts l=true) rfl (fun Z=>rfl) (fun Z Z=>rfl) (fun Z Z=>rfl) (fun Z Z ih=>ih) (fun Z Z Z Z ih=>ih) (fun Z=>rfl) (fun e=>by simp at e) (fun Z e=>by simp at e) rfl (fun Z Z i1 i2=>Bool.and_eq_true_iff.mpr ⟨i1,i2⟩) r
theorem VRs.noLst0 {h:Heap} {v:List Value} {l:List V} (r:VRs σ X [] h v l):noLsts l=true:=
  VRs.rec (motive_1:=fun Z x Z=>x.noLst=true) (motive_2:=fun Z l Z=>noLsts l=true) rfl (fun Z=>rfl) (fun Z Z=>rfl) (fun Z Z=>rfl) (fun Z Z ih=>ih) (fun Z Z Z Z ih=>ih) (fun Z=>rfl) (fun e=>by simp at e) (fun Z e=>by simp at e) rfl (fun Z Z i1 i2=>Bool.and_eq_true_iff.mpr ⟨i1,i2⟩) r
theorem Wd.off1 (w:Wd B σ X env names ρ μ H s) {a:Addr} {oa:Obj} {h':Heap} {tk:Nat} (ha:s.heap.get? a=some oa) (od:∃ es ep,oa.data=.dict es ep) (hl:a ≠ env.locals) (hb:B.h1.get? a=none) (sb:Heap.SameBut a s.heap h') :
    Wd B σ X env names ρ μ H { s with heap:=h',toks:=tk }∧Mv X X μ μ s.heap h':=by
  have k:∀ b o,b ≠ a→s.heap.get? b=some o→h'.get? b=some o:=fun b o hb e=>(sb.2 b hb).trans e
  have od':Odd oa.data:=.inl od
  have mv:Mv X X μ μ s.heap h':=mv_off ha od' k
  refine ⟨⟨w.bs.off hb ha od' k,w.cr.off ha od' k,⟨w.er.kind,w.er.glob,w.er.bltn,?_,fun j z e1 e2=>?_,w.er.apart,fun y c h=>?_⟩,w.ow⟩,mv⟩
  · obtain ⟨m,hn,hm⟩:=w.er.ns
    exact ⟨m,hn.sameBut sb hl.symm,fun j z Y e1 e2 e3=>let ⟨u,p,q⟩:=hm j z Y e1 e2 e3;⟨u,p,q.mv mv⟩⟩
  · obtain ⟨c,ov,p,q,t⟩:=w.er.cells j z e1 e2
    refine ⟨c,ov,p,q.sameBut sb ?_,fun Y e3=>let ⟨u,p,q⟩:=t Y e3;⟨u,p,q.mv mv⟩⟩
    rintro rfl
    obtain ⟨o',q,d⟩:=q
    obtain ⟨es,ep,od⟩:=od
    rw [ha] at q;cases q;rw [od] at d;cases d
  · obtain ⟨ov,o',q,d⟩:=w.er.cs y c h
    refine ⟨ov,o',k _ _ ?_ q,d⟩
    rintro rfl
    obtain ⟨es,ep,od⟩:=od
    rw [ha] at q;cases q;rw [od] at d;cases d
theorem Wd.accu (w:Wd B σ X env names ρ μ H s) {a:Addr} {vs ws:List Value} {h':Heap} {tk:Nat} (hx:X a) (hb:B.h1.get? a=none) (pv:PlnA s.heap a vs) (p:PlnA h' a ws) (sb:Heap.SameBut a s.heap h') :
    Wd B σ X env names ρ μ H { s with heap:=h',toks:=tk }∧Mv X X μ μ s.heap h':=by
  obtain ⟨n,pv⟩:=pv
  have hmu:a ∉ μ:=fun h=>w.cr.xd a h hx
  have keep:∀ b o,s.heap.get? b=some o→¬ (o.cls=.type "list" ∧ (∃ xs k,o.data=.seq xs k)∧b=a)→h'.get? b=some o:=fun b o e q=>by
    by_cases hb:b=a
    · subst hb;rw [pv] at e;cases e;exact absurd ⟨rfl,⟨_,_,rfl⟩,rfl⟩ q
    · exact (sb.2 b hb).trans e
  have mv:Mv X X μ μ s.heap h':=⟨fun b o e v=>keep b o e (by
      rintro ⟨hc,_,rfl⟩
      rcases v with ⟨v,_⟩ | ⟨_,_,v,_⟩ | ⟨v,_⟩
      · rw [hc] at v;simp at v
      · exact v hx
      · rw [hc] at v;simp at v),fun Z Z e=>e,fun Z Z Z a b=>⟨a,b⟩⟩
  refine ⟨⟨⟨fun b o e q=>keep b o (w.bs.keep b o e q) (by rintro ⟨_,_,rfl⟩;rw [hb] at e;cases e),?_,w.bs.gens,w.bs.os⟩,?_,?_,w.ow⟩,mv⟩
  · obtain ⟨ps,e,t1,t2⟩:=w.bs.tab
    refine ⟨ps,keep _ _ e (by rintro ⟨hc,_⟩;simp at hc),t1,fun pos c' q=>?_⟩
    obtain ⟨y,c,o,us,t,e1,e2,e3,e4⟩:=t2 pos c' q
    refine ⟨y,c,o,us,t,e1,keep _ _ e2 ?_,e3,e4⟩
    rintro ⟨_,⟨xs,k,hd⟩,rfl⟩
    rw [hd] at e3;cases e3
  · refine ⟨w.cr.len,fun j b k e1 e2=>?_,w.cr.nd,fun b hb=>?_,w.cr.xd,fun b e=>keep _ _ (w.cr.st b e) (by rintro ⟨hc,_⟩;simp [starObj] at hc)⟩
    · obtain ⟨us,⟨m,pu⟩,ru⟩:=w.cr.cell j b k e1 e2
      refine ⟨us,⟨m,keep _ _ pu ?_⟩,ru.mv mv⟩
      rintro ⟨_,_,rfl⟩
      exact hmu (List.mem_of_getElem? e1)
    · by_cases hba:b=a
      · subst hba;exact ⟨_,p.isList⟩
      · obtain ⟨its,o,q,r⟩:=w.cr.xl b hb
        exact ⟨its,o,keep _ _ q (fun h=>hba h.2.2),r⟩
  · refine ⟨w.er.kind,w.er.glob,w.er.bltn,?_,?_,w.er.apart,?_⟩
    · obtain ⟨m,⟨o,es,ep,ho,hd,hk⟩,hm⟩:=w.er.ns
      refine ⟨m,⟨o,es,ep,keep _ _ ho ?_,hd,hk⟩,fun j z Y e1 e2 e3=>let ⟨u,p,q⟩:=hm j z Y e1 e2 e3;⟨u,p,q.mv mv⟩⟩
      rintro ⟨_,⟨xs,k,q⟩,_⟩;rw [hd] at q;cases q
    · intro j z e1 e2
      obtain ⟨c,ov,p,⟨o,ho,hd⟩,t⟩:=w.er.cells j z e1 e2
      refine ⟨c,ov,p,⟨o,keep _ _ ho ?_,hd⟩,fun Y e3=>let ⟨u,p,q⟩:=t Y e3;⟨u,p,q.mv mv⟩⟩
      rintro ⟨_,⟨xs,k,q⟩,_⟩;rw [hd] at q;cases q
    · intro y c hy
      obtain ⟨ov,o,ho,hd⟩:=w.er.cs y c hy
      refine ⟨ov,o,keep _ _ ho ?_,hd⟩
      rintro ⟨_,⟨xs,k,q⟩,_⟩;rw [hd] at q;cases q
structure Cw (B:Base) (σ:Option Addr) (X:Addr→Prop) (env:Env) (names:List Str) (D:Addr) (T:Addr→Prop) (h0:Heap) (ρ:Rho) (outs:List V) (s:Shared):Prop where
  w:Wd B σ X env names ρ [] [] s
  acc:∃ vs,PlnA s.heap D vs∧VRs σ X [] s.heap vs outs
  kp:∀ b o,h0.get? b=some o→¬ T b→b ≠ B.P→s.heap.get? b=some o
theorem nil_len (c:CR σ X (([]:List Addr)++ν) s.heap ([]:Hp)):ν=[]:=by
  have:=c.len
  simp at this;exact this
theorem Cw.stp {h0:Heap} {D:Addr} {T:Addr→Prop} {outs:List V} (c:Cw B σ X env names D T h0 ρ outs s) (w:Wd B σ X env names ρ' ([]++ν) [] s') (t:Stp B [] ν s.heap s'.heap):Cw B σ X env names D T h0 ρ' outs s':=by
  have hν:=nil_len w.cr
  subst hν
  have mv:=t.S.mv c.w
  obtain ⟨vs,⟨n,p⟩,r⟩:=c.acc
  exact ⟨w,⟨vs,⟨n,t.kp.keep _ _ p (by simp) (c.w.bs.tab.ne p (.inl (by simp)))⟩,r.mv mv⟩,fun b o e q1 q2=>t.kp.keep b o (c.kp b o e q1 q2) (by simp) q2⟩
theorem Cw.loc {h0:Heap} {D:Addr} {T:Addr→Prop} {outs:List V} (c:Cw B σ X env names D T h0 ρ outs s) (hT:T env.locals) (w:Wd B σ X env names ρ' [] [] s') (t:StpS B env [] [] s.heap s'.heap) (k:LocK env s.heap s'.heap):Cw B σ X env names D T h0 ρ' outs s':=by
  have mv:=t.mv c.w
  obtain ⟨vs,⟨n,p⟩,r⟩:=c.acc
  refine ⟨w,⟨vs,⟨n,k _ _ ?_ p⟩,r.mv mv⟩,fun b o e q1 q2=>k b o ?_ (c.kp b o e q1 q2)⟩
  · rintro rfl
    obtain ⟨m,⟨o',es,ep,q,d,_⟩,_⟩:=c.w.er.ns
    rw [p] at q;cases q;cases d
  · rintro rfl;exact q1 hT
end
section
variable {B:Base} {n:Nat} {env:Env} {names:List Str} {A:Around} {s s' s'':Shared} {σ:Option Addr} {X:Addr→Prop} {μ ν:List Addr} {ρ ρ':Rho} {H H' H'':Hp} {F:Fl}
theorem tests_false {env:Env} {M:Model} {E:Value→Shared→Prop}:∀ {cs:List Expr} {Q:Bool→Shared→Prop},Q false s→
    wpAny M A (forIn cs false fun c r=>if r=true then do let ok ← isTrue c env (eval c env);pure (ForInStep.yield ok) else pure (ForInStep.yield r)) Q E s
  |[],_,h=>wpAny_pure h
  |c::cs,_,h=>by
    simp only [List.forIn_cons,Bool.false_eq_true,if_false]
    refine wpAny_bind (wpAny_pure ?_)
    exact tests_false h
noncomputable abbrev tstLoop (cs:List Expr) (env:Env):Sem Bool:=forIn cs true fun c r=>if r=true then do let ok ← isTrue c env (eval c env);pure (ForInStep.yield ok) else pure (ForInStep.yield r)
inductive TaI (f:FT) (fs:List FT) (ρ:Rho) (b:Bool):Prop
  |on (q1:f ρ []=some (true,[])) (q:tAll0 fs ρ=some b):TaI f fs ρ b
  |off (q1:f ρ []=some (false,[])) (h:b=false):TaI f fs ρ b
theorem tAll_some {f:FT} {fs:List FT} {b:Bool} (q:tAll0 (f::fs) ρ=some b):TaI f fs ρ b:=by
  obtain ⟨b1,J,q1,q⟩:=bnd q
  obtain ⟨rfl,q⟩:=lnil q
  cases b1 with
  |true=>exact .on q1 q
  |false=>exact .off q1 (Option.some.inj q).symm
theorem tests {cs:List Expr} {fs:List FT} (h:SndTs B n env names cs fs):∀ {A:Around} {s:Shared} {ρ:Rho} {b:Bool},Room n A→Wd B σ X env names ρ [] [] s→tAll0 fs ρ=some b→
    wpAny (model B.prog B.w) A (tstLoop cs env) (fun v s'=>v=b∧Wd B σ X env names ρ [] [] s'∧Stp B [] [] s.heap s'.heap) NoE s:=by
  induction h with
  |nil=>intro A s ρ b hr w q;exact wpAny_pure ⟨Option.some.inj q,w,.refl⟩
  |@cons c cs f fs h hs ih=>
    intro A s ρ b hr w q
    unfold tstLoop
    rw [List.forIn_cons,if_pos rfl]
    cases tAll_some q with
    |on q1 q=>
      refine wpAny_bind (wpAny_bind (nT (h hr w q1) fun v s₁ ν w1 r1 t1=>wpAny_pure ?_))
      obtain rfl:=nil_len w1.cr
      subst r1
      exact n3 (ih hr w1 q) fun v s' hv w' t'=>⟨hv,w',Stp.trans (ν:=[]) t1 t'⟩
    |off q1 hb=>
      refine wpAny_bind (wpAny_bind (nT (h hr w q1) fun v s₁ ν w1 r1 t1=>wpAny_pure ?_))
      obtain rfl:=nil_len w1.cr
      subst r1
      exact tests_false ⟨hb.symm,w1,t1⟩
theorem acc_next {D it:Addr} {outs:List V} (c:∃ vs,PlnA s.heap D vs∧VRs σ X [] s.heap vs outs) {oi:Obj} (hi:s.heap.get? it=some oi) (od:OddI oi) (k:NextK it s.heap s'.heap):∃ vs,PlnA s'.heap D vs∧VRs σ X [] s'.heap vs outs:=by
  obtain ⟨vs,⟨n,p⟩,r⟩:=c
  refine ⟨vs,⟨n,k _ _ ?_ p⟩,r.mv (mv_iter hi od k)⟩
  rintro rfl
  obtain ⟨us,hd,_⟩:=od
  rw [p] at hi;cases hi;cases hd
noncomputable abbrev CD (env:Env) (D:Addr):Addr→Prop:=fun a=>a=D∨a=env.locals
noncomputable def EmitOk (B:Base) (n:Nat) (env:Env) (names:List Str) (D:Addr) (emit:Sem PUnit) (inner:Rho→Option (List V×Rho)):Prop:=
  ∀ ⦃A:Around⦄ ⦃s:Shared⦄ ⦃σ:Option Addr⦄ ⦃X:Addr→Prop⦄ ⦃ρ ρ':Rho⦄ ⦃outs xs:List V⦄,Room n A→X D→B.h1.get? D=none→outs.length+xs.length≤SZ→Cw B σ X env names D (CD env D) s.heap ρ outs s→inner ρ=some (xs,ρ')→
    wpAny (model B.prog B.w) A emit (fun Z s'=>Cw B σ X env names D (CD env D) s.heap ρ' (outs++xs) s') NoE s
theorem ItR.emit {h':Heap} {D:Addr} {v:Value} {xs:List V} (w:Wd B σ X env names ρ [] [] s) (pD:∃ vs,PlnA s.heap D vs) (r:ItR σ X [D] s.heap v xs) (hx:X D) (k:∀ b o,s.heap.get? b=some o→¬ CD env D b→b ≠ B.P→h'.get? b=some o):ItR σ X [D] h' v xs:=by
  have keep:∀ b o,s.heap.get? b=some o→(o.cls=.type "list" → b ≠ D)→(∀ es ep,o.data ≠ .dict es ep)→(o.cls ≠ .none∨∀ vs,o.data ≠ .fields vs)→h'.get? b=some o:=fun b o e q1 q2 q4=>by
    refine k b o e ?_ (w.bs.tab.ne e q4)
    rintro (rfl | rfl)
    · obtain ⟨vs,n,p⟩:=pD
      rw [e] at p;cases p;exact q1 rfl rfl
    · obtain ⟨m,⟨o',es,ep,q,d,_⟩,_⟩:=w.er.ns
      rw [e] at q;cases q;exact q2 _ _ d
  have mv:Mv X X [D] [D] s.heap h':=⟨fun b o e v=>by
      rcases v with ⟨v,xs,n,hd⟩ | ⟨hc,⟨xs,n,hd⟩,hnx,v⟩ | ⟨v,vs,hd⟩
      · exact keep b o e (by rw [v];simp) (by rw [hd];simp) (.inl (by rw [v];simp))
      · exact keep b o e (by rintro _ rfl;exact hnx hx) (by rw [hd];simp) (.inl (by rw [hc];simp))
      · exact keep b o e (by rw [v];simp) (by rw [hd];simp) (.inl (by rw [v];simp)),fun Z Z e=>e,fun Z Z Z a b=>⟨a,b⟩⟩
  cases r with
  |list hi hl hm hv=>
    obtain ⟨o,ho,hc,n,hd⟩:=hl
    obtain ⟨oi,hoi,hic,hid⟩:=hi
    refine .list ⟨oi,keep _ _ hoi (by rw [hic];simp) (by rw [hid];simp) (.inl (by rw [hic];simp)),hic,hid⟩ ⟨o,keep _ _ ho (by rintro _ rfl;simp at hm) (by rw [hd];simp) (.inl (by rw [hc];simp)),hc,n,hd⟩ hm (hv.mv mv)
  |range hi=>exact .range (keep _ _ hi (by simp) (by simp) (.inl (by simp)))
theorem comp_code {elt:Expr} {gens:List Comprehension} {scope:Scope} {pos:Pos} {d:Nat} {target:Expr} {p:Pos} {ifs:List Expr} {emit:Sem PUnit} {D it:Addr}
    (hturn:compTurn (.ListComp elt gens scope pos) d (.ref it) (.ref D) env=(do
      standAt p
      match ← pyNext (.ref it) with
      |none=>pure (.done .next)
      |some v=>
        letOwnedTupleGo target (.ref it) v
        assign target env v
        let mut ok:=true
        for c in ifs do
          if ok then ok ← isTrue c env (eval c env)
        if ok then emit
        again (.compLoop (.ListComp elt gens scope pos) d (.ref it) (.ref D) env)))
    (I:Nat→Shared→Prop) {Qe:Shared→Prop}
    (h:∀ k s,I k s→wpAny (model B.prog B.w) A (pyNext (.ref it)) (fun r s₁=>match r with
      |none=>Qe s₁
      |some v=>wpAny (model B.prog B.w) A (letOwnedTupleGo target (.ref it) v) (fun Z s₂=>wpAny (model B.prog B.w) A (assign target env v) (fun Z s₃=>wpAny (model B.prog B.w) A (tstLoop ifs env) (fun b s₄=>
          cond b (wpAny (model B.prog B.w) A emit (fun Z s₅=>∃ m,m < k∧I m s₅) NoE s₄) (∃ m,m < k∧I m s₄)) NoE s₃) NoE s₂) NoE s₁) NoE s)
    {R:Result→Shared→Prop} (hR:∀ s,Qe s→R (.ok .next) s) (k:Nat) (i:I k s):codeAny (model B.prog B.w) A (.compLoop (.ListComp elt gens scope pos) d (.ref it) (.ref D) env) R s:=by
  refine codeAny_loop rfl I (fun k s₁ i=>?_) k i
  show wpAny _ A ((compTurn (.ListComp elt gens scope pos) d (.ref it) (.ref D) env).onRaise (fun x=>do noteFrame x env;theTreesLotGoes x)) _ _ s₁
  refine wpAny_noted ?_
  rw [hturn]
  refine wpAny_bind (wpAny_standAt (wpAny_bind (anyE (noE (h k s₁ i) fun r s₂ q=>?_))))
  cases r with
  |none=>exact wpAny_pure (hR _ q)
  |some v=>
    refine wpAny_bind (anyE (noE q fun Z s₃ q=>wpAny_bind (anyE (noE q fun Z s₄ q=>wpAny_bind (anyE (noE q fun b s₅ q=>?_))))))
    cases b with
    |true=>exact wpAny_bind (anyE (noE q fun Z s₆ q=>wpAny_pure ⟨rfl,q⟩))
    |false=>exact wpAny_pure ⟨rfl,q⟩
inductive CgI (inner:Rho→Option (List V×Rho)) (tg:FG) (cs:List FT) (v:V) (vs:List V) (ρ:Rho):List V→Rho→Prop
  |on (ρ1 ρ2 ρ3:Rho) (xs ys:List V) (q1:tg v ρ=some ρ1) (q2:tAll0 cs ρ1=some true) (q3:inner ρ1=some (xs,ρ2)) (q4:compGo inner tg cs vs ρ2=some (ys,ρ3)):CgI inner tg cs v vs ρ (xs++ys) ρ3
  |off (ρ1 ρ3:Rho) (ys:List V) (q1:tg v ρ=some ρ1) (q2:tAll0 cs ρ1=some false) (q4:compGo inner tg cs vs ρ1=some (ys,ρ3)):CgI inner tg cs v vs ρ ys ρ3
theorem compGo_some {inner:Rho→Option (List V×Rho)} {tg:FG} {cs:List FT} {v:V} {vs xs:List V} (q1:compGo inner tg cs (v::vs) ρ=some (xs,ρ')):CgI inner tg cs v vs ρ xs ρ':=by
  obtain ⟨ρ2,qg,q⟩:=bn1 q1
  obtain ⟨b,q2,q⟩:=bn1 q
  cases b with
  |true=>
    obtain ⟨zs,ρ4,q3,q⟩:=bnd q
    obtain ⟨ws,ρ5,q4,q⟩:=bnd q
    cases q
    exact .on _ _ _ _ _ qg q2 q3 q4
  |false=>exact .off _ _ _ qg q2 q
inductive CoI (B:Base) (env:Env) (names:List Str) (σ:Option Addr) (X:Addr→Prop) (D it:Addr) (T:Addr→Prop) (h0:Heap) (inner:Rho→Option (List V×Rho)) (tg:FG) (fs:List FT) (ρ':Rho) (all:List V) (k:Nat) (s₁:Shared):Prop
  |mk (vs:List V) (ρ1:Rho) (outs1 xs1:List V) (hk:vs.length=k) (hno:noLsts vs=true) (hox:outs1++xs1=all) (c:Cw B σ X env names D T h0 ρ1 outs1 s₁) (r:ItR σ X [D] s₁.heap (.ref it) vs) (q:compGo inner tg fs vs ρ1=some (xs1,ρ')):CoI B env names σ X D it T h0 inner tg fs ρ' all k s₁
theorem comp_loop {elt:Expr} {gens:List Comprehension} {scope:Scope} {pos:Pos} {d:Nat} {target:Expr} {p:Pos} {ifs:List Expr} {emit:Sem PUnit} {D it:Addr} {tg:FG} {fs:List FT} {inner:Rho→Option (List V×Rho)}
    (hturn:compTurn (.ListComp elt gens scope pos) d (.ref it) (.ref D) env=(do
      standAt p
      match ← pyNext (.ref it) with
      |none=>pure (.done .next)
      |some v=>
        letOwnedTupleGo target (.ref it) v
        assign target env v
        let mut ok:=true
        for c in ifs do
          if ok then ok ← isTrue c env (eval c env)
        if ok then emit
        again (.compLoop (.ListComp elt gens scope pos) d (.ref it) (.ref D) env)))
    (hg:SndGL B env names target tg) (hcs:SndTs B n env names ifs fs) (he:EmitOk B n env names D emit inner) (hr:Room n A) (hn:1≤n) (hx:X D) (hbD:B.h1.get? D=none)
    {h0:Heap} {T:Addr→Prop} (hTD:T D) (hTC:T env.locals) (hTi:T it) {vs:List V} {ρ:Rho} {outs xs:List V} (hno:noLsts vs=true) (hsz:outs.length+xs.length≤SZ) (hbi:B.h1.get? it=none)
    (c:Cw B σ X env names D T h0 ρ outs s) (r:ItR σ X [D] s.heap (.ref it) vs) (q:compGo inner tg fs vs ρ=some (xs,ρ')) {R:Result→Shared→Prop} (hR:∀ s',Cw B σ X env names D T h0 ρ' (outs++xs) s'→R (.ok .next) s') :
    codeAny (model B.prog B.w) A (.compLoop (.ListComp elt gens scope pos) d (.ref it) (.ref D) env) R s:=by
  have up:∀ {h h' h'':Heap},(∀ b o,h.get? b=some o→¬ T b→b ≠ B.P→h'.get? b=some o)→(∀ b o,h'.get? b=some o→¬ CD env D b→b ≠ B.P→h''.get? b=some o)→∀ b o,h.get? b=some o→¬ T b→b ≠ B.P→h''.get? b=some o:=
    fun k1 k2 b o e q p=>k2 b o (k1 b o e q p) (by rintro (rfl | rfl);exact q hTD;exact q hTC) p
  refine comp_code hturn (CoI B env names σ X D it T h0 inner tg fs ρ' (outs++xs)) ?_ hR vs.length ⟨vs,ρ,outs,xs,rfl,hno,rfl,c,r,q⟩
  rintro k s₁ ⟨vs1,ρ1,outs1,xs1,hk,hno1,hox,c1,r1,q1⟩
  obtain ⟨oi,hoi,od⟩:=r1.odd
  cases vs1 with
  |nil=>
    cases q1
    refine n3 (next_nil c1.w hr.1 hbi r1) fun o s₂ ho w2 k2=>?_
    subst ho
    rw [List.append_nil] at hox
    exact hox▸⟨w2,acc_next c1.acc hoi od k2,fun b o e q1 q2=>k2 b o (by rintro rfl;exact q1 hTi) (c1.kp b o e q1 q2)⟩
  |cons y ys=>
    refine noE (next_cons c1.w hbi r1) fun o s₂ hx=>?_
    obtain ⟨v,ho,rv,r2,w2,k2⟩:=hx
    subst ho
    have kp2:∀ b o,h0.get? b=some o→¬ T b→b ≠ B.P→s₂.heap.get? b=some o:=fun b o e q1 q2=>k2 b o (by rintro rfl;exact q1 hTi) (c1.kp b o e q1 q2)
    have acc2:=acc_next c1.acc hoi od k2
    have pD2:∃ vs,PlnA s₂.heap D vs:=let ⟨vs,p,_⟩:=acc2;⟨vs,p⟩
    have c2:Cw B σ X env names D (CD env D) s₂.heap ρ1 outs1 s₂:=⟨w2,acc2,fun Z Z e Z Z=>e⟩
    have hn1:=noLsts_cons _ _ hno1
    have rv0:VR σ X [] s₂.heap v y:=rv.recast (fun b o Z h1 h2=>⟨h1,List.not_mem_nil⟩) hn1.1
    have hlt:ys.length < k:=hk▸Nat.lt_succ_self _
    cases compGo_some q1 with
    |on ρ2 ρ4 _ zs ws qg q2 q3 q4=>
      refine hg.1 _ _ A s₂ ys σ X _ _ r2 (n3 (hg.2 (hr.le hn) w2 rv0 qg) fun Z s₃ w3 t3 k3=>n3 (tests hcs hr w3 q2) fun b s₄ hb w4 t4=>?_)
      subst hb
      have c4:Cw B σ X env names D (CD env D) s₂.heap ρ2 outs1 s₄:=(c2.loc (.inr rfl) w3 t3 k3).stp (ν:=[]) w4 t4
      have hl:=congrArg List.length hox
      simp only [List.length_append] at hl
      refine noE (he hr hx hbD (by omega) ⟨c4.w,c4.acc,fun Z Z e Z Z=>e⟩ q3) fun Z s₅ c5=>?_
      exact ⟨ys.length,hlt,ys,ρ4,outs1++zs,ws,rfl,hn1.2,(List.append_assoc ..).trans hox,⟨c5.w,c5.acc,up (up kp2 c4.kp) c5.kp⟩,(r2.emit w2 pD2 hx c4.kp).emit c4.w (let ⟨vs,p,_⟩:=c4.acc;⟨vs,p⟩) hx c5.kp,q4⟩
    |off ρ2 _ ws qg q2 q4=>
      refine hg.1 _ _ A s₂ ys σ X _ _ r2 (n3 (hg.2 (hr.le hn) w2 rv0 qg) fun Z s₃ w3 t3 k3=>n3 (tests hcs hr w3 q2) fun b s₄ hb w4 t4=>?_)
      subst hb
      have c4:Cw B σ X env names D (CD env D) s₂.heap ρ2 outs1 s₄:=(c2.loc (.inr rfl) w3 t3 k3).stp (ν:=[]) w4 t4
      exact ⟨ys.length,hlt,ys,ρ2,outs1,xs1,rfl,hn1.2,hox,⟨c4.w,c4.acc,up kp2 c4.kp⟩,r2.emit w2 pD2 hx c4.kp,q4⟩
end
section
variable {B:Base} {n:Nat} {env:Env} {names:List Str} {A:Around} {s s' s'':Shared} {σ:Option Addr} {X:Addr→Prop} {μ ν:List Addr} {ρ ρ':Rho} {H H' H'':Hp} {F:Fl}
noncomputable def emitL (D:Addr) (elt:Expr) (env:Env):Sem PUnit:=do let _ ← call (.builtin "list.append") [.ref D,← eval elt env]
noncomputable def emitG (D:Addr) (e:Expr) (d:Nat) (it:Expr) (env:Env):Sem PUnit:=do
  let x ← eval it env
  standAt it.pos
  let x ← foldedSetIterable it env x
  let _ ← runOwn (.compStart e d (← holding [x] (pyIter x)) (.ref D) env) env
set_option tactic.hygienic true in
theorem emit_leaf {D:Addr} {elt:Expr} {f:FE} (h:SndE B n env names elt f):EmitOk B n env names D (emitL D elt env) (leafC f):=fun {A s σ X ρ ρ' outs xs} hr hx hb hsz c q=>by
  obtain ⟨x,J,q1,q⟩:=bnd q
  obtain ⟨rfl,q⟩:=lnil q
  cases q
  unfold emitL
  refine wpAny_bind (nE (h hr c.w q1) fun v s₁ ν w1 r1 t1=>?_)
  have hν:=nil_len w1.cr
  subst hν
  have c1:=c.stp (ν:=[]) w1 t1
  obtain ⟨vs,p,rv⟩:=c1.acc
  have hlen:=rv.length
  refine wpAny_bind (wpAny_list_append_plain p (fun h' p' sb=>wpAny_pure ?_) (by rw [← sz_eq];simp at hsz;simp;omega))
  have p'':PlnA h' D (vs++[v]):=by
    show Heap.PlainList h' D (vs++[v]).toArray
    rw [show (vs++[v]).toArray=vs.toArray.push v by simp];exact p'
  obtain ⟨w2,mv⟩:=c1.w.accu (tk:=s₁.toks) hx hb p p'' sb
  exact ⟨w2,⟨_,p'',(rv.mv mv).append (.one (r1.mv mv))⟩,fun b o e q1 q2=>(sb.2 b (fun h=>q1 (.inl h))).trans (c1.kp b o e q1 q2)⟩
theorem iter_again {it:Addr} {xs:List V} {M:Model} (hM:M=model B.prog B.w) (r:ItR σ X μ s.heap (.ref it) xs) {Q:Value→Shared→Prop} {E:Value→Shared→Prop} (h:Q (.ref it) s):wpAny M A (pyIter (.ref it)) Q E s:=by
  subst hM
  cases r with
  |list hi _ _ _=>exact wpAny_pyIter_listiter hi h
  |range hi=>exact wpAny_pyIter_rangeiter hi h
theorem start_at {e:Expr} {d:Nat} {it acc:Value} {R:Result→Shared→Prop} (hq:(Code.compLoop e d it acc env).quiet=true)
    (hg:((clausesOf e)[d]?).elim false (·.is_async != 0)=false)
    (h0:codeAny (model B.prog B.w) A (.compLoop e d it acc env) R s) (h:wpAny (model B.prog B.w) A (pyIter it) (fun it' s'=>codeAny (model B.prog B.w) A (.compLoop e d it' acc env) R s') (notedBy (model B.prog B.w) A env fun x s'=>R (.error x) s') s) (hqq:∀ it',(Code.compLoop e d it' acc env).quiet=true)
    (hrun:(model B.prog B.w).den (.compStart e d it acc env)=(compStart e d it acc env).onRaise (fun x=>do noteFrame x env;standAt theWindowsPlace)) (hund:A.under (.compStart e d it acc env)=A) :
    codeAny (model B.prog B.w) A (.compStart e d it acc env) R s:=by
  refine codeAny_of_tree ?_
  rw [hrun,hund]
  refine wpAny_notedAt ?_
  unfold compStart
  rw [if_neg (by rw [hg];decide)]
  show wpAny _ _ (ask >>= _) _ _ s
  refine wpAny_bind (wpAny_askSetting (wpAny_ite ?_))
  split
  · first
      |exact wpAny_bind (wpAny_pure (wpAny_pure (And.intro hq h0)))
      |exact wpAny_pure (And.intro hq h0)
  · refine wpAny_bind (wpAny_rule ?_)
    split
    · exact wpAny_bind (wpAny_standAt (wpAny_bind (wpAny_mono h (fun it' s' h'=>wpAny_pure (And.intro (hqq _) h')) fun Z Z x=>x)))
    · first
        |exact wpAny_bind (wpAny_pure (wpAny_bind (wpAny_mono h (fun it' s' h'=>wpAny_pure (And.intro (hqq _) h')) fun Z Z x=>x)))
        |exact wpAny_bind (wpAny_mono h (fun it' s' h'=>wpAny_pure (And.intro (hqq _) h')) fun Z Z x=>x)
theorem ItR.toD {D:Addr} {v:Value} {xs:List V} {X':Addr→Prop} (r:ItR σ X [] s.heap v xs) (ho:ItOff X' s.heap v) (hx:X' D) (hx2:X D):ItR σ X [D] s.heap v xs:=by
  cases r with
  |list hi hl hm hv=>
    obtain ⟨oi,hoi,hic,hid⟩:=hi
    refine .list ⟨oi,hoi,hic,hid⟩ hl (fun h=>?_) (hv.recast (fun b o Z h1 Z=>⟨h1,fun h=>?_⟩) hv.noLst0)
    · simp at h;subst h;exact ho _ oi _ _ rfl hoi hid hx
    · simp at h;subst h;exact h1 hx2
  |range hi=>exact .range hi
set_option tactic.hygienic true in
theorem emit_gen {D:Addr} {elt:Expr} {gens:List Comprehension} {scope:Scope} {pos:Pos} {d:Nat} {iter target:Expr} {p:Pos} {ifs:List Expr} {emit:Sem PUnit} {tg:FG} {fs:List FT} {inner:Rho→Option (List V×Rho)} {fi:FL}
    (hturn:∀ it,compTurn (.ListComp elt gens scope pos) d it (.ref D) env=(do
      standAt p
      match ← pyNext it with
      |none=>pure (.done .next)
      |some v=>
        letOwnedTupleGo target it v
        assign target env v
        let mut ok:=true
        for c in ifs do
          if ok then ok ← isTrue c env (eval c env)
        if ok then emit
        again (.compLoop (.ListComp elt gens scope pos) d it (.ref D) env)))
    (hgen:((clausesOf (.ListComp elt gens scope pos))[d]?).elim false (·.is_async != 0)=false)
    (hi:SndI B n env names iter fi) (hs:∀ v,foldedSetIterable iter env v=pure v)
    (hg:SndGL B env names target tg) (hcs:SndTs B n env names ifs fs) (he:EmitOk B n env names D emit inner) (hn:1≤n) :
    EmitOk B n env names D (emitG D (.ListComp elt gens scope pos) d iter env) (genC (noL fi) inner tg fs):=fun {A s σ X ρ ρ' outs xs} hr hx hb hsz c q=>by
  obtain ⟨vs,J,q1,q⟩:=bnd q
  obtain ⟨rfl,q⟩:=lnil q
  obtain ⟨ys,H1,q2,q1⟩:=bnd ((noL_eq ..).symm.trans q1)
  obtain ⟨hno,q1⟩:=ite_some q1
  cases q1
  unfold emitG
  refine wpAny_bind (noE (hi hr c.w q2) fun v s₁ h1=>wpAny_bind (wpAny_standAt (wpAny_bind (wpAny_of_eq (hs v) (wpAny_bind ?_)))))
  refine wpAny_holding (noE h1 fun i s₂ hx=>?_)
  obtain ⟨ν,w2,r2,⟨a,ha,hf⟩,ho,t2⟩:=hx
  subst ha
  have hν:=nil_len w2.cr
  subst hν
  have c2:=c.stp (ν:=[]) w2 t2
  have r2':ItR σ X [] s₂.heap (.ref a) vs:=by
    have:=r2.free hno
    have e:XC X (([]:List Addr)++[])=X:=by funext b;simp [XC]
    rw [e] at this;exact this
  have rD:=r2'.toD ho hx hx
  have hbi:=base_none c.w.bs hf
  refine wpAny_bind (wpAny_runOwn ?_)
  have loop:∀ {R:Result→Shared→Prop},(∀ s',Cw B σ X env names D (CD env D) s.heap ρ' (outs++xs) s'→R (.ok .next) s')→codeAny (model B.prog B.w) A (.compLoop (.ListComp elt gens scope pos) d (.ref a) (.ref D) env) R s₂:=fun hR=>
    comp_loop (T:=fun b=>CD env D b∨b=a) (hturn _) hg hcs he hr hn hx hb (.inl (.inl rfl)) (.inl (.inr rfl)) (.inr rfl) hno hsz hbi ⟨c2.w,c2.acc,fun b o e q1 q2=>c2.kp b o e (fun h=>q1 (.inl h)) q2⟩ rD q fun s' c'=>
      hR s' ⟨c'.w,c'.acc,fun b o e q1 q2=>c'.kp b o e (by rintro (h | rfl);exact q1 h;rw [hf] at e;cases e) q2⟩
  refine start_at rfl hgen (loop fun s' c'=>?_) (iter_again rfl rD (loop fun s' c'=>?_)) (fun Z=>rfl) rfl rfl
  · exact wpAny_pure c'
  · exact wpAny_pure c'
structure CFit (env:Env) (names:List Str) (scope:Scope) (cl:List (Str×Addr)) (ts:List Str) (fs:List (Str×Nat)):Prop where
  clos:closureFor scope env=pure cl
  ki:scope.kind=.function
  nc:∀ x ∈ scope.names,x.2 ≠ .cell
  ln:∀ x ∈ scope.names,x.2=.local→scope.names.lookup x.1=some .local
  tl:∀ y ∈ ts,(relabel scope env).names.lookup y=some .local
  fr:∀ y j,(y,j) ∈ fs→names[j]?=some y∧(env.kindOf y=some .cell∨env.kindOf y=some .free)∧cl.lookup y=env.cells.lookup y
  fk:∀ y j,(y,j) ∈ fs→(relabel scope env).names.lookup y=some .cell∨(relabel scope env).names.lookup y=some .free
  sub:∀ y c,cl.lookup y=some c→env.cells.lookup y=some c
  nd:(cl.map (·.1)).Nodup
theorem cl_apart {cl cs:List (Str×Addr)} (hn:(cl.map (·.1)).Nodup) (hs:∀ y c,cl.lookup y=some c→cs.lookup y=some c) (ap:cs.Pairwise fun x y=>x.2 ≠ y.2):cl.Pairwise fun x y=>x.2 ≠ y.2:=by
  have key:∀ x ∈ cl,cl.lookup x.1=some x.2:=by
    intro x hx
    clear hs
    induction cl with
    |nil=>cases hx
    |cons z cl ih=>
      obtain ⟨h1,h2⟩:=List.nodup_cons.mp hn
      rcases List.mem_cons.mp hx with rfl | hx
      · simp [List.lookup]
      · have:(x.1 == z.1)=false:=by
          cases q:x.1 == z.1 with
          |false=>rfl
          |true=>
            have:=eq_of_beq q
            exact absurd (List.mem_map_of_mem (f:=(·.1)) hx) (by rw [this];exact h1)
        simp only [List.lookup,this]
        exact ih h2 hx
  have hcs:∀ x ∈ cl,(x.1,x.2) ∈ cs:=fun x hx=>lookup_mem (hs _ _ (key x hx))
  have:∀ l:List (Str×Addr),(∀ x ∈ l,x ∈ cs)→(l.map (·.1)).Nodup→l.Pairwise fun x y=>x.2 ≠ y.2:=by
    intro l
    induction l with
    |nil=>intro _ _;exact .nil
    |cons z l ih=>
      intro h1 h2
      obtain ⟨h3,h4⟩:=List.nodup_cons.mp h2
      refine .cons (fun x hx e=>?_) (ih (fun x hx=>h1 x (.tail _ hx)) h4)
      have:=pairwise_eq ap (h1 z (.head _)) (h1 x (.tail _ hx)) e
      subst this
      exact h3 (List.mem_map_of_mem (f:=(·.1)) hx)
  exact this cl hcs hn
end
section
variable {B:Base} {n:Nat} {env:Env} {names:List Str} {A:Around} {s s' s'':Shared} {σ:Option Addr} {X:Addr→Prop} {μ ν:List Addr} {ρ ρ':Rho} {H H' H'':Hp} {F:Fl}
theorem ItR.inC {D:Addr} {v:Value} {xs:List V} {Y:Addr→Prop} (r:ItR σ Y [] s.heap v xs) (hD:s.heap.get? D=none) (hno:noLsts xs=true):ItR σ (fun b=>Y b∨b=D) [D] s.heap v xs:=by
  have ne:∀ b o,s.heap.get? b=some o→b ≠ D:=fun b o e q=>by subst q;rw [hD] at e;cases e
  cases r with
  |list hi hl hm hv=>
    obtain ⟨o,ho,q⟩:=hl
    refine .list hi ⟨o,ho,q⟩ (fun h=>?_) (hv.recast (fun b o e h1 Z=>⟨fun h=>h.elim h1 (ne b o e),fun h=>?_⟩) hv.noLst0)
    · simp at h;exact ne _ _ ho h
    · simp at h;exact ne _ _ e h
  |range hi=>exact .range hi
theorem freeV_some {j:Nat} {v:V} (e:freeV ρ j=some v):ρ[j]?=some (some v)∧v.noLst=true:=by
  obtain ⟨w,h,e⟩:=obo_some e
  obtain ⟨hn,rfl⟩:=ite_some e
  exact ⟨h,hn⟩
theorem comp_frame {scope:Scope} {cl:List (Str×Addr)} {ts:List Str} {fs:List (Str×Nat)} (cf:CFit env names scope cl ts fs) (w:Wd B σ X env names ρ μ H s) {D C:Addr} (k:Keeps s s') (hD:s.heap.get? D=none) (hC:s.heap.get? C=none)
    (pD:∃ vs,PlnA s'.heap D vs) (hn:s'.heap.Ns C fun Z=>none) :
    Wd B σ (fun b=>XC X μ b∨b=D) (compEnvC scope cl C env) (ts++fs.map (·.1)) (List.replicate ts.length none++(fs.map (·.2)).map (freeV ρ)) [] [] s':=by
  have hst:∀ b o,s.heap.get? b=some o→¬ X b→b ∉ μ→¬ (XC X μ b∨b=D)∧b ∉ ([]:List Addr):=fun b o e h1 h2=>⟨fun h=>h.elim (fun h=>h.elim h1 h2) (fun h=>by subst h;rw [hD] at e;cases e),by simp⟩
  have vals:∀ (i:Nat) (y:Str) (V:V),(ts++fs.map (·.1))[i]?=some y→(List.replicate ts.length none++(fs.map (·.2)).map (freeV ρ))[i]?=some (some V)→∃ j,(y,j) ∈ fs∧ρ[j]?=some (some V)∧V.noLst=true:=by
    intro i y V e1 e2
    by_cases hi:i < ts.length
    · rw [List.getElem?_append_left (by rw [List.length_replicate];exact hi),List.getElem?_replicate] at e2
      simp [hi] at e2
    · rw [List.getElem?_append_right (by omega)] at e1
      rw [List.getElem?_append_right (by simp;omega)] at e2
      simp only [List.length_replicate,List.getElem?_map] at e1 e2
      cases q:fs[i - ts.length]? with
      |none=>rw [q] at e1;simp at e1
      |some p=>
        rw [q] at e1 e2
        simp at e1 e2
        subst e1
        obtain ⟨h1,h2⟩:=freeV_some e2
        exact ⟨p.2,List.mem_of_getElem? q,h1,h2⟩
  have mem:∀ (i:Nat) (y:Str),(ts++fs.map (·.1))[i]?=some y→y ∈ ts∨∃ j,(y,j) ∈ fs:=by
    intro i y e
    rcases List.mem_append.mp (List.mem_of_getElem? e) with h | h
    · exact .inl h
    · obtain ⟨p,hp,rfl⟩:=List.mem_map.mp h
      exact .inr ⟨p.2,hp⟩
  have hcn:∀ y c,cl.lookup y=some c→∃ ov,s'.heap.IsCell c ov:=fun y c h=>by
    obtain ⟨ov,q⟩:=w.er.cs y c (cf.sub y c h)
    obtain ⟨o,q,d⟩:=q
    exact ⟨ov,o,keeps_get k q,d⟩
  refine ⟨w.bs.keeps k,⟨rfl,fun i a l e Z=>by simp at e,List.nodup_nil,fun b hb=>?_,fun a h=>(nomatch h),fun b e=>keeps_get k (w.cr.st b e)⟩,⟨cf.ki,w.er.glob,w.er.bltn,⟨_,hn,fun i y V e1 e2 e3=>?_⟩,fun i y e1 e2=>?_,cl_apart cf.nd cf.sub w.er.apart,hcn⟩,base_none w.bs hC,fun y c h=>w.ow.c y c (cf.sub y c h),fun a h=>(nomatch h)⟩
  · rcases hb with (hb | hb) | hb
    · obtain ⟨its,o,q,r⟩:=w.cr.xl b hb
      exact ⟨its,o,keeps_get k q,r⟩
    · obtain ⟨i,hi⟩:=List.getElem?_of_mem hb
      obtain ⟨l,hl⟩:=w.cr.at hi
      obtain ⟨vs,p,_⟩:=w.cr.cell _ _ _ hi hl
      obtain ⟨m,q⟩:=p
      exact ⟨_,_,keeps_get k q,rfl,_,rfl⟩
    · subst hb
      obtain ⟨vs,p⟩:=pD
      exact ⟨_,p.isList⟩
  · obtain ⟨j,hj,_,_⟩:=vals i y V e1 e3
    have e2':(relabel scope env).names.lookup y=some .local:=e2
    rcases cf.fk y j hj with h | h<;>rw [h] at e2'<;>simp at e2'
  · have e2':(relabel scope env).names.lookup y=some .cell∨(relabel scope env).names.lookup y=some .free:=e2
    rcases mem i y e1 with h | ⟨j,hj⟩
    · have:=cf.tl y h
      rw [this] at e2';simp at e2'
    · obtain ⟨h1,h2,h3⟩:=cf.fr y j hj
      obtain ⟨c,ov,p,⟨o,q,d⟩,t⟩:=w.er.cells j y h1 h2
      refine ⟨c,ov,h3.trans p,⟨o,keeps_get k q,d⟩,fun V e3=>?_⟩
      obtain ⟨j',hj',hv,hno⟩:=vals i y V e1 e3
      obtain ⟨h1',h2',h3'⟩:=cf.fr y j' hj'
      obtain ⟨c',ov',p',⟨o',q',d'⟩,t'⟩:=w.er.cells j' y h1' h2'
      rw [p] at p';cases p'
      rw [q] at q';cases q'
      rw [d] at d';cases d'
      obtain ⟨v,hv',rv⟩:=t' V hv
      exact ⟨v,hv',(rv.recast hst hno).keeps k⟩
end
section
variable {B:Base} {n:Nat} {env:Env} {names:List Str} {A:Around} {s s' s'':Shared} {σ:Option Addr} {X:Addr→Prop} {μ ν:List Addr} {ρ ρ':Rho} {H H' H'':Hp} {F:Fl}
structure CompOk (B:Base) (n:Nat) (env:Env) (names:List Str) (elt:Expr) (gens:List Comprehension) (scope:Scope) (pos:Pos) (cl:List (Str×Addr)) (ts:List Str) (fs:List (Str×Nat)) (inner:Rho→Option (List V×Rho)) (tg:FG) (cs:List FT):Prop where
  fit:CFit env names scope cl ts fs
  run:∃ target p ifs,∃ emit:Addr→Addr→Sem PUnit,(∀ C D it,compTurn (.ListComp elt gens scope pos) 0 it (.ref D) (compEnvC scope cl C env)=(do
      standAt p
      match ← pyNext it with
      |none=>pure (.done .next)
      |some v=>
        letOwnedTupleGo target it v
        assign target (compEnvC scope cl C env) v
        let mut ok:=true
        for c in ifs do
          if ok then ok ← isTrue c (compEnvC scope cl C env) (eval c (compEnvC scope cl C env))
        if ok then emit C D
        again (.compLoop (.ListComp elt gens scope pos) 0 it (.ref D) (compEnvC scope cl C env))))∧
    (∀ C,SndGL B (compEnvC scope cl C env) (ts++fs.map (·.1)) target tg)∧(∀ C,SndTs B n (compEnvC scope cl C env) (ts++fs.map (·.1)) ifs cs)∧
    (∀ C D,EmitOk B n (compEnvC scope cl C env) (ts++fs.map (·.1)) D (emit C D) inner)
  as:((clausesOf (.ListComp elt gens scope pos))[0]?).elim false (·.is_async != 0)=false
structure CcR (B:Base) (env:Env) (names:List Str) (σ:Option Addr) (X:Addr→Prop) (ρ:Rho) (μ:List Addr) (s:Shared) (H':Hp) (xs:List V) (D C:Addr) (ν:List Addr) (ws:List Value) (s':Shared):Prop where
  w:Wd B σ X env names ρ (μ++ν) H' s'
  pD:PlnA s'.heap D ws
  rD:VRs σ X (μ++ν) s'.heap ws xs
  xD:¬ X D
  mD:D ∉ μ++ν
  sD:s.heap.get? D=none
  wD:Wd B σ X env names ρ (μ++(ν++[D])) (H'++[xs]) s'
  t:Stp B μ ν s.heap s'.heap
  ns:∃ m,s'.heap.Ns C m
  cl:C ≠ env.locals
  bC:B.h1.get? C=none
  sC:s.heap.get? C=none
theorem Stp.gone (t:Stp B μ ν s.heap s'.heap) {D:Addr} (h:s'.heap.get? D=none):s.heap.get? D=none:=by
  cases q:s.heap.get? D with
  |none=>rfl
  |some o=>obtain ⟨o',e'⟩:=t.kp.dom _ _ q;rw [h] at e';cases e'
theorem cc_cell {s₂:Shared} (w2:Wd B σ X env names ρ μ H' s₂) {h3:Heap} {D a:Addr} (hDn:s₂.heap.get? D=none) (kp3:∀ b o,s₂.heap.get? b=some o→h3.get? b=some o) (pD3:PlnA h3 D []) (ita3:∀ o,h3.get? a=some o→OddI o) (bs':Bs B s')
    (kp':∀ b o,h3.get? b=some o→b ≠ D→b ≠ a→b ≠ B.P→s'.heap.get? b=some o) {vs':List Value} {xs:List V} (pv:PlnA s'.heap D vs') (rv:VRs σ X (μ++[D]) s'.heap vs' xs):Wd B σ X env names ρ (μ++[D]) (H'++[xs]) s':=by
  have mv3:Mv X X μ (μ++[D]) s₂.heap h3:=⟨fun b o e Z=>kp3 b o e,fun i x e=>by rw [List.getElem?_append_left];exact e;exact (List.getElem?_eq_some_iff.mp e).1,
    fun b o e h1 h2=>⟨h1,fun hm=>by rcases List.mem_append.mp hm with hm | hm;exact h2 hm;rw [List.mem_singleton.mp hm,hDn] at e;cases e⟩⟩
  have w3:Wd B σ X env names ρ (μ++[D]) (H'++[[]]) { s₂ with heap:=h3 }:=
    ⟨w2.bs.keeps (keeps_of kp3),cr_push w2.cr hDn kp3 pD3 .nil,er_mv w2.er kp3 mv3,w2.ow.l,w2.ow.c,fun b hb=>(List.mem_append.mp hb).elim (w2.ow.m b) fun hb=>List.mem_singleton.mp hb▸base_none w2.bs hDn⟩
  have hl:=w2.cr.len
  refine (w3.back' (H':=H'++[xs]) bs' (D:=fun b=>b=D) (fun b h=>h▸List.mem_append_right _ (.head _)) (it:=a) ita3 (fun b o e h1 h2 h3=>kp' b o e h1 h2 h3) (fun i b l e1 e2 hb=>?_) (fun i b e1 hb=>?_) (by rw [List.length_append,List.length_append];rfl)).1
  · subst hb
    have hi:i=H'.length:=by
      rcases Nat.lt_or_ge i μ.length with h | h
      · rw [List.getElem?_append_left h] at e1
        exact absurd (List.mem_of_getElem? e1) (fresh_off w2.cr hDn).2
      · have:=(List.getElem?_eq_some_iff.mp e1).1
        rw [List.length_append] at this
        exact (Nat.le_antisymm (Nat.le_of_lt_succ this) h).trans hl
    subst hi
    rw [List.getElem?_append_right (Nat.le_refl _),Nat.sub_self] at e2
    cases e2
    exact ⟨vs',pv,rv⟩
  · rcases Nat.lt_or_ge i H'.length with h | h
    · rw [List.getElem?_append_left h,List.getElem?_append_left h]
    · rw [List.getElem?_append_right (by omega)] at e1
      exact absurd (List.mem_singleton.mp (List.mem_of_getElem? e1)) hb
theorem cc_mk {s₂:Shared} (w:Wd B σ X env names ρ μ H s) (w2:Wd B σ X env names ρ (μ++ν) H' s₂) (t2:Stp B μ ν s.heap s₂.heap) {h3:Heap} {D C a:Addr} (hf:s.heap.get? a=none) (hDn:s₂.heap.get? D=none) (hC2:s₂.heap.get? C=none) (kp3:∀ b o,s₂.heap.get? b=some o→h3.get? b=some o) (pD3:PlnA h3 D [])
    (ita:∃ o,s₂.heap.get? a=some o∧OddI o) (bs':Bs B s') (kp':∀ b o,h3.get? b=some o→b ≠ D→b ≠ a→b ≠ B.P→s'.heap.get? b=some o) {vs':List Value} {xs:List V} (pv:PlnA s'.heap D vs') (rv:VRs σ (fun b=>XC X (μ++ν) b∨b=D) [] s'.heap vs' xs) (ns:∃ m,s'.heap.Ns C m) :
    CcR B env names σ X ρ μ s H' xs D C ν vs' s':=by
  obtain ⟨oa,ea,od⟩:=ita
  have keepo:∀ b o,s₂.heap.get? b=some o→b ≠ a→b ≠ B.P→s'.heap.get? b=some o:=fun b o e hb hP=>kp' b o (kp3 b o e) (by rintro rfl;rw [hDn] at e;cases e) hb hP
  obtain ⟨wo,mvo⟩:=w2.back' (H':=H') bs' (D:=fun Z=>False) (fun Z h=>h.elim) (it:=a) (fun o e=>by rw [ea] at e;cases e;exact od) (fun b o e Z=>keepo b o e) (fun Z Z Z Z Z h=>h.elim) (fun Z Z Z Z=>rfl) rfl
  have off:=fresh_off w2.cr hDn
  refine ⟨wo,pv,rv.recast (fun b o Z h1 Z=>⟨fun h=>h1 (.inl (.inl h)),fun h=>h1 (.inl (.inr h))⟩) rv.noLst0,off.1,off.2,t2.gone hDn,?_,⟨⟨fun b o e q p=>keepo b o (t2.kp.keep b o e q p) (by rintro rfl;rw [hf] at e;cases e) p,fun b o e=>?_⟩,t2.fr⟩,ns,?_,base_none w2.bs hC2,t2.gone hC2⟩
  · rw [← List.append_assoc]
    exact cc_cell w2 hDn kp3 pD3 (fun o e=>by rw [kp3 _ _ ea] at e;cases e;exact od) bs' kp' pv (rv.recast (fun b o Z h1 Z=>⟨fun h=>h1 (.inl (.inl h)),fun h=>(List.mem_append.mp h).elim (fun h=>h1 (.inl (.inr h))) fun h=>h1 (.inr (List.mem_singleton.mp h))⟩) rv.noLst0)
  · obtain ⟨o',e'⟩:=t2.kp.dom b o e
    by_cases hP:b=B.P
    · subst hP
      obtain ⟨ps,q,_⟩:=bs'.tab
      exact ⟨_,q⟩
    · exact ⟨o',keepo b o' e' (by rintro rfl;rw [hf] at e;cases e) hP⟩
  · obtain ⟨m,⟨o,_,_,q,_⟩,_⟩:=w2.er.ns
    rintro rfl
    rw [hC2] at q;cases q
theorem comp_core {elt iter:Expr} {gens:List Comprehension} {scope:Scope} {pos:Pos} {cl:List (Str×Addr)} {ts:List Str} {fs:List (Str×Nat)} {inner:Rho→Option (List V×Rho)} {tg:FG} {cs:List FT} {fi:FL}
    (cf:CompOk B n env names elt gens scope pos cl ts fs inner tg cs) (hi:SndJ B n env names iter fi) (hn:1≤n) (hr:Room n A) (w:Wd B σ X env names ρ μ H s) {vs xs:List V} (q1:fi ρ H=some (vs,H')) (hno:noLsts vs=true)
    (q2:compGo inner tg cs vs (List.replicate ts.length none++(fs.map (·.2)).map (freeV ρ))=some (xs,ρ')) (hsz:xs.length≤SZ) {use:Option (Value→Sem Unit)} {Q:Value→Shared→Prop}
    (hQ:∀ D C s' ν ws,CcR B env names σ X ρ μ s H' xs D C ν ws s'→compPost (model B.prog B.w) A NoE use Q (.ref D) C (.ok .next) s') :
    wpAny (model B.prog B.w) A (eval iter env) (fun x s₁=>wpAny (model B.prog B.w) A (pyIter x) (fun it s₂=>wpAny (model B.prog B.w) A (newList []) (fun acc s₃=>
      wpAny (model B.prog B.w) A (newFunctionEnv scope env.globals cl [] env.qual none .none (some env)) (fun cenv s₄=>
        codeAny (model B.prog B.w) A (.compStart (.ListComp elt gens scope pos) 0 it acc { cenv with scope:=relabel scope env }) (compPost (model B.prog B.w) A NoE use Q acc cenv.locals) s₄) NoE s₃) NoE s₂) NoE s₁) NoE s:=by
  obtain ⟨target,p,ifs,emit,hturn,hg,hcs,he⟩:=cf.run
  refine noE (hi hr w q1) fun x s₁ h1=>noE h1 fun it s₂ h2=>?_
  obtain ⟨ν,w2,r2,⟨a,rfl,hf⟩,ho,t2⟩:=h2
  refine wpAny_newList ?_ (by rw [← sz_eq];simp [SZ])
  have hDn:=none_size s₂.heap
  have pD3:PlnA (s₂.heap.push { cls:=Value.type "list",data:=Data.seq ([]:List Value).toArray 0 }) s₂.heap.objs.size []:=⟨_,Heap.get?_push_size _ rfl⟩
  have k23:∀ b o,s₂.heap.get? b=some o→(s₂.heap.push { cls:=Value.type "list",data:=Data.seq ([]:List Value).toArray 0 }).get? b=some o:=fun b o e=>Heap.get?_push_of_some _ e
  have hz3:(s₂.heap.push { cls:=Value.type "list",data:=Data.seq ([]:List Value).toArray 0 }).objs.size=s₂.heap.objs.size+1:=Heap.size_push ..
  generalize s₂.heap.push { cls:=Value.type "list",data:=Data.seq ([]:List Value).toArray 0 }=h3 at *
  have hC2:s₂.heap.get? h3.objs.size=none:=by
    cases q:s₂.heap.get? h3.objs.size with
    |none=>rfl
    |some o=>exact absurd (Heap.lt_size q) (by rw [hz3];exact Nat.not_lt.mpr (Nat.le_succ _))
  generalize s₂.heap.objs.size=D at *
  refine wpAny_newFunctionEnv cf.fit.nc (fun x h=>(nomatch h)) (fun h4 hns sb=>?_) cf.fit.ki
  have hCn:=none_size h3
  show codeAny _ A (.compStart (.ListComp elt gens scope pos) 0 (.ref a) (.ref D) (compEnvC scope cl h3.objs.size env)) (compPost (model B.prog B.w) A NoE use Q (.ref D) h3.objs.size) _
  generalize h3.objs.size=C at *
  have k34:∀ b o,h3.get? b=some o→h4.get? b=some o:=fun b o e=>(sb.2 b (by rintro rfl;rw [hCn] at e;cases e)).trans (Heap.get?_push_of_some _ e)
  have pD4:PlnA h4 D []:=plainList_keeps pD3 k34
  have kk:Keeps s₂ { heap:=h4,gens:=s₂.gens,drawn:=s₂.drawn,toks:=s₂.toks+([]:List (Str×Value)).length,os:=s₂.os }:=⟨h4,_,rfl,fun b o e=>k34 b o (k23 b o e)⟩
  have w4:=comp_frame cf.fit w2 kk hDn hC2 ⟨[],pD4⟩ hns
  have r4:=(r2.inC hDn hno).keeps kk
  have loop:codeAny (model B.prog B.w) A (.compLoop (.ListComp elt gens scope pos) 0 (.ref a) (.ref D) (compEnvC scope cl C env)) (compPost (model B.prog B.w) A NoE use Q (.ref D) C) { heap:=h4,gens:=s₂.gens,drawn:=s₂.drawn,toks:=s₂.toks+([]:List (Str×Value)).length,os:=s₂.os }:=by
    refine comp_loop (T:=fun b=>CD (compEnvC scope cl C env) D b∨b=a) (h0:=h4) (outs:=[]) (hturn C _ _) (hg C) (hcs C) (he C _) hr hn (.inr rfl) (base_none w2.bs hDn) (.inl (.inl rfl)) (.inl (.inr rfl)) (.inr rfl) hno (by simpa using hsz) (base_none w.bs hf)
      ⟨w4,⟨[],pD4,.nil⟩,fun Z Z e Z Z=>e⟩ r4 q2 fun s' c'=>?_
    rw [List.nil_append] at c'
    obtain ⟨vs',pv,rv⟩:=c'.acc
    refine hQ D C s' ν vs' (cc_mk w w2 t2 hf hDn hC2 k23 pD3 r2.odd c'.w.bs (fun b o e h1 h2 h3=>c'.kp b o (k34 b o e) ?_ h3) pv rv ⟨_,c'.w.er.ns.choose_spec.1⟩)
    rintro ((h | h) | h)
    · exact h1 h
    · rw [h,show (compEnvC scope cl C env).locals=C from rfl,hCn] at e;cases e
    · exact h2 h
  exact start_at rfl cf.as loop (iter_again rfl r4 loop) (fun Z=>rfl) rfl rfl
theorem Stp.off (t:Stp B μ ν s.heap s'.heap) {C:Addr} {h':Heap} (sb:Heap.SameBut C s'.heap h') (hC:s.heap.get? C=none):Stp B μ ν s.heap h':=by
  have ne:∀ b o,s.heap.get? b=some o→b ≠ C:=fun b o e=>by rintro rfl;rw [hC] at e;cases e
  exact ⟨⟨fun b o e q p=>(sb.2 b (ne b o e)).trans (t.kp.keep b o e q p),fun b o e=>let ⟨o',e'⟩:=t.kp.dom b o e;⟨o',(sb.2 b (ne b o e)).trans e'⟩⟩,t.fr⟩
theorem compF_eq (fi:FL) (k:Nat) (js:List Nat) (inner:Rho→Option (List V×Rho)) (tg:FG) (cs:List FT) (ρ:Rho) (H:Hp):compF fi k js inner tg cs ρ H=obd (fi ρ H) fun vs H1=>obd (compGo inner tg cs vs (List.replicate k none++js.map (freeV ρ))) fun xs Z=>if xs.length≤SZ then some (.frz xs,H1) else none:=by kernel_rfl
theorem compF_some {fi:FL} {k:Nat} {js:List Nat} {inner:Rho→Option (List V×Rho)} {tg:FG} {cs:List FT} {R:V} (e:compF fi k js inner tg cs ρ H=some (R,H')) :
    ∃ vs xs ρ',fi ρ H=some (vs,H')∧compGo inner tg cs vs (List.replicate k none++js.map (freeV ρ))=some (xs,ρ')∧xs.length≤SZ∧R=.frz xs:=by
  obtain ⟨vs,H1,q1,e⟩:=bnd ((compF_eq ..).symm.trans e)
  obtain ⟨xs,ρ',q2,e⟩:=bnd e
  obtain ⟨h,e⟩:=ite_some e
  cases e
  exact ⟨vs,xs,ρ',q1,q2,h,rfl⟩
noncomputable def NoLs (fi:FL):Prop:=∀ ρ H xs H',fi ρ H=some (xs,H')→noLsts xs=true
theorem noL_ok {f:FL}:NoLs (noL f):=fun ρ H xs H' e=>by
  obtain ⟨ys,H1,h0,e⟩:=bnd ((noL_eq ..).symm.trans e)
  obtain ⟨hn,e⟩:=ite_some e
  cases e
  exact hn
theorem celF_ok {f:FE}:NoLs (celF f):=fun ρ H xs H' e=>match celF_some e with | ⟨_,_,_,h⟩=>h
theorem S.comp {elt iter target:Expr} {ifs:List Expr} {rest:List Comprehension} {scope:Scope} {pos:Pos} {cl:List (Str×Addr)} {ts:List Str} {fs:List (Str×Nat)} {inner:Rho→Option (List V×Rho)} {tg:FG} {cs:List FT} {fi:FL}
    (cf:CompOk B n env names elt (⟨target,iter,ifs,0⟩::rest) scope pos cl ts fs inner tg cs) (hi:SndJ B n env names iter fi) (hno:NoLs fi) (hn:1≤n) (hs:∀ x,foldedSetIterable iter env x=pure x) :
    SndE B n env names (.ListComp elt (⟨target,iter,ifs,0⟩::rest) scope pos) (compF fi ts.length (fs.map (·.2)) inner tg cs):=fun {A s σ X μ ρ H R H'} hr w e=>by
  obtain ⟨vs,xs,ρ',q1,q2,hsz,rfl⟩:=compF_some e
  rw [eval_ListComp]
  refine wpAny_comprehension_free (use:=Option.none) rfl hs cf.fit.clos cf.fit.ki cf.fit.ln ?_
  refine comp_core cf hi hn hr w q1 (hno _ _ _ _ q1) q2 hsz fun D C s' ν ws c=>?_
  obtain ⟨m,hC⟩:=c.ns
  refine ⟨m,hC,fun h' sb=>?_⟩
  obtain ⟨o,es,ep,ho,hd,_⟩:=hC
  obtain ⟨w'',mv⟩:=c.w.off1 (tk:=s'.toks) ho ⟨_,_,hd⟩ c.cl c.bC sb
  exact ⟨ν,w'',(VR.frz c.pD.isList c.xD c.mD c.rD).mv mv,c.t.off sb c.sC⟩
theorem StpS.off (t:StpS B env μ ν s.heap s'.heap) {C:Addr} {h':Heap} (sb:Heap.SameBut C s'.heap h') (hC:s.heap.get? C=none):StpS B env μ ν s.heap h':=by
  have ne:∀ b o,s.heap.get? b=some o→b ≠ C:=fun b o e=>by rintro rfl;rw [hC] at e;cases e
  exact ⟨⟨fun b o e q p=>(sb.2 b (ne b o e)).trans (t.kp.keep b o e q p),fun b o e=>let ⟨o',e'⟩:=t.kp.dom b o e;⟨o',(sb.2 b (ne b o e)).trans e'⟩⟩,t.fr⟩
theorem set_tail {x:Str} {i:Nat} {pos':Pos} {v:Value} {y:V} (at_:At env names x i) (w':Wd B σ X env names ρ (μ++ν) H' s') (r':VR σ X (μ++ν) s'.heap v y) (t1:Stp B μ ν s.heap s'.heap) {C:Addr} (hC:∃ m,s'.heap.Ns C m) (hCl:C ≠ env.locals) (hb:B.h1.get? C=none) (hsC:s.heap.get? C=none) :
    wpAny (model B.prog B.w) A (assign (.Name x pos') env v) (fun Z s''=>∃ m,s''.heap.Ns C m∧∀ h',Heap.SameBut C s''.heap h'→PostS B env names σ X μ s.heap .nx (ρ.set i (some y)) H' .next { s'' with heap:=h' }) NoE s':=by
  obtain ⟨m,hC⟩:=hC
  obtain ⟨k,hk1,hk2⟩:=at_.hk
  refine wpAny_assign_Name (nW (store w' at_.hi at_.hu hk1 hk2 r') fun Z s'' w'' r'' t'' Z=>?_)
  obtain ⟨o,es,ep,ho,hd,hkeys⟩:=hC
  have ho':s''.heap.get? C=some o:=by
    refine t''.kp.keep C o ho ?_ (w'.bs.tab.ne ho (.inr fun vs q=>by rw [hd] at q;cases q))
    rintro (h | h | ⟨y,h⟩)
    · obtain ⟨i,hi⟩:=List.getElem?_of_mem h
      obtain ⟨l,hl⟩:=w'.cr.at hi
      obtain ⟨us,⟨n,p⟩,_⟩:=w'.cr.cell _ _ _ hi hl
      rw [ho] at p;cases p;cases hd
    · exact hCl h
    · obtain ⟨ov,o',q,d⟩:=w'.er.cs y _ h
      rw [ho] at q;cases q;rw [hd] at d;cases d
  refine ⟨m,⟨o,es,ep,ho',hd,hkeys⟩,fun h' sb=>?_⟩
  obtain ⟨w3,mv⟩:=w''.off1 (tk:=s''.toks) ho' ⟨_,_,hd⟩ hCl hb sb
  have tt:=t1.S (env:=env) |>.trans (ν':=[]) t''
  rw [List.append_nil] at tt
  exact ⟨ν,w3,.nx,tt.off sb hsC⟩
set_option tactic.hygienic true in
theorem R.setC {x:Str} {i:Nat} {pos' spos:Pos} {elt iter target:Expr} {ifs:List Expr} {rest:List Comprehension} {scope:Scope} {pos:Pos} {cl:List (Str×Addr)} {ts:List Str} {fs:List (Str×Nat)} {inner:Rho→Option (List V×Rho)} {tg:FG} {cs:List FT} {fi:FL}
    (at_:At env names x i) (cf:CompOk B n env names elt (⟨target,iter,ifs,0⟩::rest) scope pos cl ts fs inner tg cs) (hi:SndJ B n env names iter fi) (hno:NoLs fi) (hn:1≤n) (hs:∀ x,foldedSetIterable iter env x=pure x)
    (hsw:swapsWith (.ListComp elt (⟨target,iter,ifs,0⟩::rest) scope pos) (some (.Name x pos')) spos.line env=pure true) :
    SndS B n env names (.Assign [.Name x pos'] (.ListComp elt (⟨target,iter,ifs,0⟩::rest) scope pos) spos) (setS i (compF fi ts.length (fs.map (·.2)) inner tg cs)):=fun {A s σ X μ ρ H F ρ' H'} hr w q=>by
  obtain ⟨v,H1,e,q⟩:=bnd ((setS_eq _ _ _ _).symm.trans q)
  cases q
  obtain ⟨vs,xs,ρ',q1,q2,hsz,rfl⟩:=compF_some e
  rw [exec_Assign_Name_used _ _ _ _ hsw,arm_evalThenUse_ListComp]
  refine wpAny_bind (wpAny_standAt (wpAny_bind (wpAny_bind ?_)))
  refine wpAny_comprehension_free (use:=some (assign (.Name x pos') env)) rfl hs cf.fit.clos cf.fit.ki cf.fit.ln ?_
  refine comp_core cf hi hn hr w q1 (hno _ _ _ _ q1) q2 hsz fun D C s' ν ws c=>?_
  exact noE (set_tail at_ c.w (VR.frz c.pD.isList c.xD c.mD c.rD) c.t c.ns c.cl c.bC c.sC) fun Z s'' h=>h.elim fun m h=>⟨m,h.1,fun h' sb=>wpAny_pure (wpAny_pure (h.2 h' sb))⟩
end
noncomputable def setT (f:FE) (is:List Nat):FS:=fun ρ H=>match f ρ H with
  |some (.tup l,H1)=>(match setAll is l ρ with
    |some ρ'=>some (.nx,ρ',H1)
    |none=>none)
  |_=>none
noncomputable def setSw (f:FE) (is:List Nat):FS:=fun ρ H=>match f ρ H with
  |some (.tup l,H1)=>(match setAll is.reverse l.reverse ρ with
    |some ρ'=>some (.nx,ρ',H1)
    |none=>none)
  |_=>none
noncomputable def fmtF (f:FE):FE:=fun ρ H=>match f ρ H with
  |some (.str l,H1)=>if l.length≤SZ then some (.str l,H1) else none
  |_=>none
noncomputable def fsF:List FE→List Nat→FE
  |[],acc=>fun Z H=>some (.str acc,H)
  |f::fs,acc=>fun ρ H=>match f ρ H with
    |some (.str l,H1)=>if acc.length+l.length≤SZ then fsF fs (acc++l) ρ H1 else none
    |_=>none
noncomputable def smF (g:Hp→List V→Option V) (fo:FE) (fs:List FE):FE:=fun ρ H=>match fo ρ H with
  |some (.str l,H1)=>(match seqF fs ρ H1 with
    |some (xs,H2)=>(match g H2 (.str l::xs) with
      |some r=>some (r,H2)
      |none=>none)
    |none=>none)
  |_=>none
noncomputable def strs?:List V→Option (List (List Nat))
  |[]=>some []
  | .str l::r=>(strs? r).map (l :: ·)
  |_=>none
noncomputable def joinL (sep:List Nat):List (List Nat)→List Nat
  |[]=>[]
  |[x]=>x
  |x::r=>x++sep++joinL sep r
noncomputable def sizeL:List (List Nat)→Nat
  |[]=>0
  |x::r=>x.length+sizeL r
noncomputable def joinV (sep:List Nat) (l:List V):Option V:=match strs? l with
  |some ts=>if sizeL ts+ts.length * sep.length≤SZ then some (.str (joinL sep ts)) else none
  |none=>none
noncomputable def joinG:Hp→List V→Option V:=fun H xs=>match xs with
  |[x,y]=>(match x with
    | .str sep=>(match y with
      | .frz l=>joinV sep l
      | .lst i=>(match H[i]? with
        |some l=>joinV sep l
        |none=>none)
      |_=>none)
    |_=>none)
  |_=>none
section
variable {B:Base} {n:Nat} {env:Env} {names:List Str} {A:Around} {s s' s'':Shared} {σ:Option Addr} {X:Addr→Prop} {μ ν:List Addr} {ρ ρ':Rho} {H H' H'':Hp} {F:Fl}
theorem len2 {α:Type} {l:List α} (h:l.length=2):∃ x y,l=[x,y]:=by
  obtain ⟨x,t,rfl⟩:=List.exists_cons_of_length_eq_add_one h
  obtain ⟨y,rfl⟩:=List.length_eq_one_iff.mp (Nat.succ.inj h)
  exact ⟨x,y,rfl⟩
noncomputable def oTup {γ:Type} (o:Option (V×Hp)) (k:List V→Hp→Option γ):Option γ:=match o with
  |some (.tup l,H1)=>k l H1
  |_=>none
noncomputable def oStr {γ:Type} (o:Option (V×Hp)) (k:List Nat→Hp→Option γ):Option γ:=match o with
  |some (.str l,H1)=>k l H1
  |_=>none
theorem asTup_some {γ:Type} {o:Option (V×Hp)} {k:List V→Hp→Option γ} {r:γ} (e:oTup o k=some r):∃ l H1,o=some (.tup l,H1)∧k l H1=some r:=by
  cases o with
  |none=>exact no e
  |some p=>obtain ⟨v,H1⟩:=p;cases v with
    |tup l=>exact ⟨l,H1,rfl,e⟩
    |_=>exact no e
theorem asStr_some {γ:Type} {o:Option (V×Hp)} {k:List Nat→Hp→Option γ} {r:γ} (e:oStr o k=some r):∃ l H1,o=some (.str l,H1)∧k l H1=some r:=by
  cases o with
  |none=>exact no e
  |some p=>obtain ⟨v,H1⟩:=p;cases v with
    |str l=>exact ⟨l,H1,rfl,e⟩
    |_=>exact no e
inductive SetI (f:FE) (st:List V→Option Rho) (ρ:Rho) (H:Hp):Fl→Rho→Hp→Prop
  |mk (l:List V) (ρ':Rho) (H':Hp) (q1:f ρ H=some (.tup l,H')) (q2:st l=some ρ'):SetI f st ρ H .nx ρ' H'
theorem setT_eq (f:FE) (is:List Nat) (ρ:Rho) (H:Hp):Mine.Internal.setT f is ρ H=oTup (f ρ H) fun l H1=>obn (setAll is l ρ) fun ρ'=>some (Fl.nx,ρ',H1):=by kernel_rfl
theorem setSw_eq (f:FE) (is:List Nat) (ρ:Rho) (H:Hp):Mine.Internal.setSw f is ρ H=oTup (f ρ H) fun l H1=>obn (setAll is.reverse l.reverse ρ) fun ρ'=>some (Fl.nx,ρ',H1):=by kernel_rfl
theorem setSw_ok {f:FE} {is:List Nat} {l:List V} (h:f ρ H=some (.tup l,H')) (hs:setAll is.reverse l.reverse ρ=some ρ'):Mine.Internal.setSw f is ρ H=some (.nx,ρ',H'):=(setSw_eq ..).trans (by rw [h];show obn (setAll is.reverse l.reverse ρ) _=_;rw [hs];rfl)
theorem setT_some {f:FE} {is:List Nat} (q:Mine.Internal.setT f is ρ H=some (F,ρ',H')):SetI f (fun l=>setAll is l ρ) ρ H F ρ' H':=by
  obtain ⟨l,H1,q1,q⟩:=asTup_some ((setT_eq _ _ _ _).symm.trans q)
  obtain ⟨ρ2,q2,q⟩:=bn1 q
  cases q;exact ⟨_,_,_,q1,q2⟩
theorem setSw_some {f:FE} {is:List Nat} (q:Mine.Internal.setSw f is ρ H=some (F,ρ',H')):SetI f (fun l=>setAll is.reverse l.reverse ρ) ρ H F ρ' H':=by
  obtain ⟨l,H1,q1,q⟩:=asTup_some ((setSw_eq _ _ _ _).symm.trans q)
  obtain ⟨ρ2,q2,q⟩:=bn1 q
  cases q;exact ⟨_,_,_,q1,q2⟩
theorem R.setT {ts:List Expr} {is:List Nat} {k:Nat} {e:Expr} {f:FE} {pos tp:Pos} (h:SndE B n env names e f) (ht:Ats env names ts is) (hn:1≤n) (hs:swapsWithSole [.Tuple ts k tp] e pos.line env=pure false) (hw:swappedStores [.Tuple ts k tp] e env=pure none) :
    SndS B n env names (.Assign [.Tuple ts k tp] e pos) (setT f is):=fun {A s σ X μ ρ H F ρ' H'} hr w q=>by
  cases setT_some q with
  |mk l ρ2 H1 q1 q2=>
    refine wpAny_Assign_stores (nE (h hr w q1) fun v s₁ ν w1 r1 t1=>?_) hs hw
    refine n2 (show wpAny _ A (assign (.Tuple ts k tp) env v) _ _ _ from (G.tuple (B:=B) (k:=k) (pos:=tp) ht).2 (hr.le hn) w1 r1 q2) fun Z s₂ w2 t2=>?_
    exact PostS.after t1.S (PostS.after0 t2 (PostS.of w2 .nx))
theorem R.setSw {a b:Str} {ia ib:Nat} {pa pb:Pos} {k:Nat} {e:Expr} {f:FE} {pos tp:Pos} (h:SndE B n env names e f) (ha:At env names a ia) (hb:At env names b ib) (hs:swapsWithSole [.Tuple [.Name a pa,.Name b pb] k tp] e pos.line env=pure false) (hw:swappedStores [.Tuple [.Name a pa,.Name b pb] k tp] e env=pure (some [a,b])) :
    SndS B n env names (.Assign [.Tuple [.Name a pa,.Name b pb] k tp] e pos) (setSw f [ia,ib]):=fun {A s σ X μ ρ H F ρ' H'} hr w q=>by
  cases setSw_some q with
  |mk l ρ2 H1 q1 q2=>
    refine Assign_Tuple_swapped (names:=[a,b]) (nE (h hr w q1) fun v s₁ ν w1 r1 t1=>?_) hs hw
    obtain ⟨t,vs,rfl,ht,rs⟩:=r1.inv
    have hlen:l.reverse.length=2:=(setAll_len q2).symm
    have hv2:vs.toArray.size=2:=by have:=rs.length;simp at hlen ⊢;omega
    have:=wpAny_unpackItems_tuple (prog:=B.prog) (w:=B.w) (A:=A) (E:=NoE) hr.1 ht (s:=s₁) (Q:=fun items s'=>wpAny (model B.prog B.w) A (assignInOrder ([a,b].reverse.map fun n=>bindName env n) items.reverse) (fun Z s''=>PostS B env names σ X μ s.heap .nx ρ' H' .next s'') NoE s') ?_
    · rw [hv2] at this;exact this
    intro h' kk
    have keep:Keeps s₁ { s₁ with heap:=h' }:=⟨h',s₁.toks,rfl,fun b o e=>kk b o (by intro q;subst q;have:=Heap.lt_size e;exact Nat.lt_irrefl _ this) e⟩
    obtain ⟨x,y,rfl⟩:=len2 (by rw [List.length_reverse] at hlen;exact hlen)
    obtain ⟨vx,vy,rfl,rx,ry⟩:=rs.inv2
    have q2':(ρ.set ib (some y)).set ia (some x)=ρ':=by
      have e:setAll [ib,ia] [y,x] ρ=some ρ':=q2
      exact Option.some.inj e
    subst q2'
    obtain ⟨kb,hb1,hb2⟩:=hb.hk
    obtain ⟨ka,ha1,ha2⟩:=ha.hk
    show wpAny _ A (assignInOrder [bindName env b,bindName env a] [vy,vx]) _ _ _
    refine wpAny_assignInOrder_more (wpAny_bindName (nW (store (w1.keeps keep) hb.hi hb.hu hb1 hb2 (ry.keeps keep)) fun Z s2 w2 r2 t2 Z=>?_))
    have rx':=(rx.keeps keep).stpS t2 (w1.keeps keep)
    rw [List.append_nil] at rx'
    refine wpAny_assignInOrder_more (wpAny_bindName (nW (store w2 ha.hi ha.hu ha1 ha2 rx') fun Z s3 w3 r3 t3 Z=>wpAny_assignInOrder_none ?_))
    exact PostS.after t1.S (PostS.after0 (Stp.of_keeps keep).S (PostS.after0 t2 (PostS.after0 t3 (PostS.of w3 .nx))))
theorem fmtF_eq (f:FE) (ρ:Rho) (H:Hp):fmtF f ρ H=oStr (f ρ H) fun l H1=>if l.length≤SZ then some (V.str l,H1) else Option.none:=by kernel_rfl
theorem fsF_eq (f:FE) (fs:List FE) (acc:List Nat) (ρ:Rho) (H:Hp):fsF (f::fs) acc ρ H=oStr (f ρ H) fun l H1=>if acc.length+l.length≤SZ then fsF fs (acc++l) ρ H1 else Option.none:=by kernel_rfl
theorem S.fmt {e:Expr} {f:FE} {pos:Pos} (h:SndE B n env names e f):SndE B n env names (.FormattedValue e (-1) Option.none pos) (fmtF f):=fun {A s σ X μ ρ H R H'} hr w q=>by
  obtain ⟨l,H1,q1,q⟩:=asStr_some ((fmtF_eq _ _ _).symm.trans q)
  obtain ⟨hl,q⟩:=ite_some q
  cases q
  refine wpAny_FormattedValue_plain (nE (h hr w q1) fun v s₁ ν w1 r1 t1=>?_)
  obtain ⟨t,rfl⟩:=r1.inv
  exact wpAny_formatField_str ⟨ν,w1,.str _ _,t1⟩ (PostE.after t1 (PostE.of w1 keeps_tok (.str _ _))) (sz_eq▸hl)
inductive SndEs (B:Base) (n:Nat) (env:Env) (names:List Str):List Expr→List FE→Prop
  |nil:SndEs B n env names [] []
  |cons {e:Expr} {es:List Expr} {f:FE} {fs:List FE}:SndE B n env names e f→SndEs B n env names es fs→SndEs B n env names (e::es) (f::fs)
theorem str_len (l:List Nat):(⟨l.toArray⟩ : Str).length=l.length:=by show l.toArray.size=_;simp
theorem fparts {es:List Expr} {fs:List FE} (h:SndEs B n env names es fs):∀ {acc:List Nat} {A:Around} {s:Shared} {σ:Option Addr} {X:Addr→Prop} {μ:List Addr} {ρ:Rho} {H H':Hp} {R:V},Room n A→Wd B σ X env names ρ μ H s→acc.length≤SZ→fsF fs acc ρ H=some (R,H')→
    wpAny (model B.prog B.w) A (joinParts ⟨acc.toArray⟩ (evalEach es env)) (PostE B env names σ X ρ μ s H' R) NoE s:=by
  induction h with
  |nil=>
    intro acc A s σ X μ ρ H H' R hr w ha q
    cases q
    exact joinParts_nil (PostE.of w keeps_tok (.str _ _)) (by rw [← sz_eq,str_len];exact ha)
  |@cons e es f fs h hs ih=>
    intro acc A s σ X μ ρ H H' R hr w ha q
    obtain ⟨l,H1,q1,q⟩:=asStr_some ((fsF_eq _ _ _ _ _).symm.trans q)
    by_cases hl:acc.length+l.length≤SZ
    · rw [if_pos hl] at q
      have hl':(acc++l).length≤SZ:=by rw [List.length_append];exact hl
      refine joinParts_cons (nE (h hr w q1) fun v s₁ ν w1 r1 t1=>?_)
      obtain ⟨t,rfl⟩:=r1.inv
      dsimp only
      rw [str_app]
      exact ⟨by rw [← sz_eq,str_len];exact hl',noE (ih hr w1 hl' q) fun Z Z p=>PostE.after t1 p⟩
    · rw [if_neg hl] at q;exact no q
theorem S.fstr {e1 e2:Expr} {es:List Expr} {fs:List FE} {pos:Pos} (h:SndEs B n env names (e1::e2::es) fs):SndE B n env names (.JoinedStr (e1::e2::es) pos) (fsF fs []):=fun {A s σ X μ ρ H R H'} hr w q=>by
  refine JoinedStr_many ?_
  exact fparts (acc:=[]) h hr w (Nat.zero_le _) q
inductive SmI (g:Hp→List V→Option V) (fo:FE) (fs:List FE) (ρ:Rho) (H H':Hp) (r:V):Prop
  |mk (l:List Nat) (H1:Hp) (xs:List V) (q1:fo ρ H=some (.str l,H1)) (q2:seqF fs ρ H1=some (xs,H')) (q3:g H' (.str l::xs)=some r):SmI g fo fs ρ H H' r
theorem smF_eq (g:Hp→List V→Option V) (fo:FE) (fs:List FE) (ρ:Rho) (H:Hp):smF g fo fs ρ H=oStr (fo ρ H) fun l H1=>obd (seqF fs ρ H1) fun xs H2=>obn (g H2 (.str l::xs)) fun r=>some (r,H2):=by kernel_rfl
theorem smF_some {g:Hp→List V→Option V} {fo:FE} {fs:List FE} {r:V} (q:smF g fo fs ρ H=some (r,H')):SmI g fo fs ρ H H' r:=by
  obtain ⟨l,H1,q1,q⟩:=asStr_some ((smF_eq _ _ _ _ _).symm.trans q)
  obtain ⟨xs,H2,q2,q⟩:=bnd q
  obtain ⟨r,q3,q⟩:=bn1 q
  cases q;exact ⟨_,_,_,q1,q2,q3⟩
theorem S.smeth {o:Expr} {m:Str} {id:String} {es:List Expr} {fo:FE} {fs:List FE} {g:Hp→List V→Option V} {apos pos:Pos} (ho:SndE B n env names o fo) (h:SndL B n env names es fs) (hop:SndO B (.builtin id) g) (hn:1≤n) (hm:MethAt env o m es apos pos) (pa:PlainAttrs "str") (sl:Slot "str" m id) (ty:typeOf (.builtin id)=pure (.type "method_descriptor")) :
    SndE B n env names (.Call (.Attribute o m apos) es [] pos) (smF g fo fs):=fun {A s σ X μ ρ H R H'} hr w q=>by
  obtain ⟨l,H1,xs,q1,q2,q3⟩:=smF_some q
  refine wpAny_Call_method hm.base hm.few hm.line pa sl ty (nE (ho hr w q1) fun va s₁ ν1 w1 r1 t1=>?_)
  have r1':=r1
  obtain ⟨t,rfl⟩:=r1.inv
  refine ⟨typeIs_str ..,fun a e=>(nomatch e),?_⟩
  refine callWith_builtin (starEach_flags h (pos:=pos)).1 (noE (evalArgs_L (pos:=pos) h hr w1 q2) fun a s₂ hx=>?_)
  obtain ⟨hk,ν2,w2,r2,t2⟩:=hx
  rw [hk]
  exact n2 (hop (hr.le hn) w2.cr (.cons (r1'.stp t2 w1.cr w1.bs.tab) r2) q3) fun v s₃ k r=>PostE.after t1 (PostE.after t2 (PostE.of w2 k r))
theorem strs_rel {h:Heap} {l:List V}:∀ {vs:List Value} {ts:List (List Nat)},VRs σ X μ h vs l→strs? l=some ts→∃ ps:List (Str×Tok),vs=strValues ps∧ps.map (·.1)=ts.map fun t=>(⟨t.toArray⟩ : Str):=by
  induction l with
  |nil=>intro vs ts r e;cases e;rw [show vs=[] from r.inv];exact ⟨[],rfl,rfl⟩
  |cons x l ih=>
    intro vs ts r e
    obtain ⟨v,vs,rfl,r,rs⟩:=r.inv
    cases x with
    |str t=>
      obtain ⟨ts',e1,rfl⟩:=Option.map_eq_some_iff.mp (show (strs? l).map (t :: ·)=some ts from e)
      obtain ⟨ps,h1,h2⟩:=ih rs e1
      obtain ⟨u,h3⟩:=r.inv
      exact ⟨(_,u)::ps,by rw [h1,h3];rfl,congrArg (List.cons _) h2⟩
    |_=>exact no e
theorem join_eq (sep:List Nat):∀ ts:List (List Nat),Str.join ⟨sep.toArray⟩ (ts.map fun t=>(⟨t.toArray⟩ : Str))=⟨(joinL sep ts).toArray⟩
  |[]=>rfl
  |[x]=>rfl
  |x::y::r=>by
    have ih:=join_eq sep (y::r)
    show (⟨x.toArray⟩ : Str)++⟨sep.toArray⟩++Str.join ⟨sep.toArray⟩ ((y::r).map _)=_
    rw [ih,str_app,str_app]
    rfl
theorem join_fit {sep:List Nat} {ts:List (List Nat)} (h:sizeL ts+ts.length * sep.length≤SZ):JoinOk ⟨sep.toArray⟩ (ts.map fun t=>(⟨t.toArray⟩ : Str))=true:=by
  unfold JoinOk
  rw [StrLaws.joinTotal]
  have e:((ts.map fun t=>(⟨t.toArray⟩ : Str)).map fun x=>x.length).sum=sizeL ts:=by
    clear h
    induction ts with
    |nil=>rfl
    |cons t ts ih=>simp only [List.map_cons,List.sum_cons,sizeL,str_len];rw [← ih]
  rw [e,str_len,List.length_map]
  unfold Builtin.Str.tooLong
  rw [← sz_eq]
  simp;omega
theorem joinV_eq (sep:List Nat) (l:List V):joinV sep l=obn (strs? l) fun ts=>if sizeL ts+ts.length * sep.length≤SZ then some (.str (joinL sep ts)) else none:=by kernel_rfl
theorem join_at {D:Addr} {ws:List Value} {l:List V} {sep:List Nat} {t:Tok} {r:V} (hl:s.heap.IsList D ws.toArray) (rl:VRs σ X μ s.heap ws l) (e:joinV sep l=some r) :
    wpAny (model B.prog B.w) A (call (.builtin "str.join") [.str ⟨sep.toArray⟩ t,.ref D]) (OpR σ X μ s r) NoE s:=by
  obtain ⟨ts,hts,e⟩:=bn1 ((joinV_eq _ _).symm.trans e)
  obtain ⟨hz,rfl⟩:=ite_some e
  obtain ⟨ps,rfl,hps⟩:=strs_rel rl hts
  refine SC.join hl hps (join_fit hz) fun t' k=>⟨keeps_tok,?_⟩
  have:Txt.join ⟨sep.toArray⟩ (ts.map fun t=>(⟨t.toArray⟩ : Str))=⟨(joinL sep ts).toArray⟩:=by
    show Builtin.Str.glued _ _=_
    rw [StrLaws.glued_eq_join,join_eq]
  rw [this]
  exact .str _ _
inductive JnI (H:Hp) (r:V):List V→Prop
  |frz (sep:List Nat) (l:List V) (e:joinV sep l=some r):JnI H r [.str sep,.frz l]
  |lst (sep:List Nat) (i:Nat) (l:List V) (hl:H[i]?=some l) (e:joinV sep l=some r):JnI H r [.str sep,.lst i]
theorem joinG_some {xs:List V} {r:V} (e:joinG H xs=some r):JnI H r xs:=by
  cases xs with
  |nil=>exact no e
  |cons x xs=>cases xs with
    |nil=>exact no e
    |cons y xs=>cases xs with
      |cons=>exact no e
      |nil=>cases x with
        |str sep=>cases y with
          |frz l=>exact .frz sep l e
          |lst i=>
            unfold joinG at e
            dsimp only at e
            cases hl:H[i]? with
            |none=>rw [hl] at e;exact no e
            |some l=>rw [hl] at e;exact .lst sep i l hl e
          |_=>exact no e
        |_=>exact no e
theorem O.join:SndO B (.builtin "str.join") joinG:=fun {A s σ X μ H vs xs r} hr c rs e=>by
  cases joinG_some e with
  |frz sep l e1=>
    obtain ⟨v,u,rfl,r1,r2⟩:=rs.inv2
    obtain ⟨_,rfl⟩:=r1.inv
    obtain ⟨D,ws,rfl,hl,_,_,rv⟩:=r2.inv
    exact join_at hl rv e1
  |lst sep i l hl e1=>
    obtain ⟨v,u,rfl,r1,r2⟩:=rs.inv2
    obtain ⟨_,rfl⟩:=r1.inv
    obtain ⟨D,rfl,hi⟩:=r2.inv
    obtain ⟨vs,p,rv⟩:=c.cell _ _ _ hi hl
    exact join_at p.isList rv e1
end
noncomputable def negF (f:FE):FE:=fun ρ H=>match f ρ H with
  |some (.int i,H1)=>some (.int (-i),H1)
  |_=>none
noncomputable def iaddV:Op2:=fun Z a b=>match a with
  | .int a=>(match b with
    | .int b=>some (.int (a+b))
    |_=>none)
  | .str a=>(match b with
    | .str b=>if a.length+b.length≤SZ then some (.str (a++b)) else none
    |_=>none)
  |_=>none
noncomputable def newC (fi:FL) (k:Nat) (js:List Nat) (inner:Rho→Option (List V×Rho)) (tg:FG) (cs:List FT):FE:=fun ρ H=>match compF fi k js inner tg cs ρ H with
  |some (.frz xs,H1)=>some (.lst H1.length,H1++[xs])
  |_=>none
section
variable {B:Base} {n:Nat} {env:Env} {names:List Str} {A:Around} {s s' s'':Shared} {σ:Option Addr} {X:Addr→Prop} {μ ν:List Addr} {ρ ρ':Rho} {H H' H'':Hp} {F:Fl}
theorem negF_eq (f:FE) (ρ:Rho) (H:Hp):negF f ρ H=oInt (f ρ H) fun i H1=>some (.int (-i),H1):=by kernel_rfl
theorem S.neg {e:Expr} {f:FE} {pos:Pos} (h:SndE B n env names e f):SndE B n env names (.UnaryOp .USub e pos) (negF f):=fun {A s σ X μ ρ H R H'} hr w q=>by
  obtain ⟨i,H1,q1,q⟩:=oint ((negF_eq _ _ _).symm.trans q)
  cases q
  refine wpAny_UnaryOp (nE (h hr w q1) fun v s₁ ν w1 r1 t1=>?_)
  obtain ⟨t,rfl⟩:=r1.inv
  exact P.neg_int (PostE.after t1 (PostE.of w1 keeps_tok (.int _ _)))
inductive IadS:V→V→V→Prop
  |int (a b:Int):IadS (.int a) (.int b) (.int (a+b))
  |str (a b:List Nat) (h:a.length+b.length≤SZ):IadS (.str a) (.str b) (.str (a++b))
theorem iaddV_some {a b r:V} (e:iaddV H a b=some r):IadS a b r:=by
  cases a with
  |int a=>cases b with
    |int b=>exact Option.some.inj e ▸ .int a b
    |_=>exact no e
  |str a=>cases b with
    |str b=>exact have q:=ite_some e;q.2 ▸ .str a b q.1
    |_=>exact no e
  |_=>exact no e
theorem O.iadd:Snd2 B (inplaceOp .Add) iaddV:=fun {A s σ X μ H a b x y r} hr c ra rb e=>by
  cases iaddV_some e with
  |int i j=>obtain ⟨_,rfl⟩:=ra.inv;obtain ⟨_,rfl⟩:=rb.inv;exact wpAny_iadd_int ⟨keeps_tok,.int _ _⟩
  |str i j hz=>
    obtain ⟨_,rfl⟩:=ra.inv
    obtain ⟨_,rfl⟩:=rb.inv
    refine PyProof.Rows.iadd_str (fun t' tk=>?_) (by rw [← sz_eq,str_len,str_len];exact hz)
    rw [str_app]
    exact ⟨keeps_tok,.str _ _⟩
theorem newC_eq {fi:FL} {k:Nat} {js:List Nat} {inner:Rho→Option (List V×Rho)} {tg:FG} {cs:List FT}:newC fi k js inner tg cs ρ H=oFrz (compF fi k js inner tg cs ρ H) fun xs H1=>some (.lst H1.length,H1++[xs]):=by kernel_rfl
theorem newC_some {fi:FL} {k:Nat} {js:List Nat} {inner:Rho→Option (List V×Rho)} {tg:FG} {cs:List FT} {R:V} (e:newC fi k js inner tg cs ρ H=some (R,H')) :
    ∃ xs H1,compF fi k js inner tg cs ρ H=some (.frz xs,H1)∧R=.lst H1.length∧H'=H1++[xs]:=by
  obtain ⟨xs,H1,h,e⟩:=ofrz (newC_eq.symm.trans e)
  cases e
  exact ⟨xs,H1,h,rfl,rfl⟩
theorem R.setN {x:Str} {i:Nat} {pos' spos:Pos} {elt iter target:Expr} {ifs:List Expr} {rest:List Comprehension} {scope:Scope} {pos:Pos} {cl:List (Str×Addr)} {ts:List Str} {fs:List (Str×Nat)} {inner:Rho→Option (List V×Rho)} {tg:FG} {cs:List FT} {fi:FL}
    (at_:At env names x i) (cf:CompOk B n env names elt (⟨target,iter,ifs,0⟩::rest) scope pos cl ts fs inner tg cs) (hi:SndJ B n env names iter fi) (hno:NoLs fi) (hn:1≤n) (hs:∀ x,foldedSetIterable iter env x=pure x)
    (hsw:swapsWith (.ListComp elt (⟨target,iter,ifs,0⟩::rest) scope pos) (some (.Name x pos')) spos.line env=pure true) :
    SndS B n env names (.Assign [.Name x pos'] (.ListComp elt (⟨target,iter,ifs,0⟩::rest) scope pos) spos) (setS i (newC fi ts.length (fs.map (·.2)) inner tg cs)):=fun {A s σ X μ ρ H F ρ' H'} hr w q=>by
  obtain ⟨v,H1,e,q⟩:=bnd ((setS_eq _ _ _ _).symm.trans q)
  cases q
  obtain ⟨xs,H2,e2,rfl,rfl⟩:=newC_some e
  obtain ⟨vs,xs',ρ',q1,q2,hsz,hxx⟩:=compF_some e2
  cases hxx
  rw [exec_Assign_Name_used _ _ _ _ hsw,arm_evalThenUse_ListComp]
  refine wpAny_bind (wpAny_standAt (wpAny_bind (wpAny_bind ?_)))
  refine wpAny_comprehension_free (use:=some (assign (.Name x pos') env)) rfl hs cf.fit.clos cf.fit.ki cf.fit.ln ?_
  refine comp_core cf hi hn hr w q1 (hno _ _ _ _ q1) q2 hsz fun D C s' ν ws c=>?_
  have hlen:=c.w.cr.len
  have r':VR σ X (μ++(ν++[D])) s'.heap (.ref D) (.lst H2.length):=.lst (by rw [← List.append_assoc,← hlen,List.getElem?_append_right (Nat.le_refl _),Nat.sub_self];rfl)
  have t1:Stp B μ (ν++[D]) s.heap s'.heap:=⟨c.t.kp,fun a ha=>(List.mem_append.mp ha).elim (c.t.fr a) fun ha=>List.mem_singleton.mp ha▸c.sD⟩
  exact noE (set_tail at_ c.wD r' t1 c.ns c.cl c.bC c.sC) fun Z s'' h=>h.elim fun m h=>⟨m,h.1,fun h' sb=>wpAny_pure (wpAny_pure (h.2 h' sb))⟩
theorem At.mk' {x:Str} {i:Nat} {k:NameKind} (nd:names.Nodup) (hi:names[i]?=some x) (hk:env.kindOf x=some k) (hk2:k=.local∨k=.cell):At env names x i:=
  ⟨hi,fun j hj=>(List.getElem?_inj (List.getElem?_eq_some_iff.mp hj).1 nd).mp (hj.trans hi.symm),k,hk,hk2⟩
theorem AtL.mk' {x:Str} {i:Nat} (nd:names.Nodup) (hi:names[i]?=some x) (hk:env.kindOf x=some .local):AtL env names x i:=
  ⟨hi,fun j hj=>(List.getElem?_inj (List.getElem?_eq_some_iff.mp hj).1 nd).mp (hj.trans hi.symm),hk⟩
end
noncomputable abbrev prg:Program:=PySem.Challenge.pw_in0233_01
noncomputable def stAt (j:Nat):Stmt:=(prg.main.body[j]?).getD (.Pass ⟨0,0,0,0⟩)
noncomputable def bodyOf:Stmt→List Stmt
  | .FunctionDef _ _ b _ _ _ _ _ _ _=>b
  |_=>[]
noncomputable def argsOf:Stmt→Arguments
  | .FunctionDef _ a _ _ _ _ _ _ _ _=>a
  |_=>{ posonlyargs:=[],args:=[],vararg:=none,kwonlyargs:=[],kw_defaults:=[],kwarg:=none,defaults:=[] }
noncomputable def scopeOf:Stmt→Scope
  | .FunctionDef _ _ _ _ _ _ s _ _ _=>s
  |_=>prg.main.scope
noncomputable def bodyAt (j:Nat):List Stmt:=bodyOf (stAt j)
noncomputable def argsAt (j:Nat):Arguments:=argsOf (stAt j)
noncomputable def scopeAt (j:Nat):Scope:=scopeOf (stAt j)
structure BM (B:Base):Prop where
  len:B.mg "len" = none
  range:B.mg "range" = none
  sorted:B.mg "sorted" = none
  reversed:B.mg "reversed" = none
  object:B.mg "object" = none
  isinstance:B.mg "isinstance" = none
noncomputable def wN:Nat:=100000
noncomputable def nameOf:Stmt→Str
  | .FunctionDef n _ _ _ _ _ _ _ _ _=>n
  |_ => "?"
noncomputable def isFun:Stmt→Bool
  | .FunctionDef _ _ _ _ _ _ _ _ _ _=>true
  |_=>false
structure Ctx (B:Base):Prop where
  ok:B.Ok
  bm:BM B
  rc:∀ j,isFun (stAt j)=true→Rec B (nameOf (stAt j)) (argsAt j) (bodyAt j) (scopeAt j)
theorem fnS0 {B:Base} {n:Nat} {x:Str} {params:Arguments} {body:List Stmt} {scope:Scope} (h:Rec B x params body scope):FnS B n x (fun Z Z=>none):=by
  obtain ⟨a,o,pm,code,doc,h1,h2,h3,h4⟩:=h
  exact ⟨a,⟨h1,o,_,h2,h3⟩,fun Z Z Z Z Z e=>by cases e⟩
noncomputable def mulV:Op2:=fun Z a b=>match a with
  | .int a=>(match b with
    | .int b=>if a=2 then some (.int (a * b)) else none
    |_=>none)
  |_=>none
theorem O.mul {B:Base}:Snd2 B (binaryOp .Mult) mulV:=O.int (f:=fun a b=>if a=2 then some (.int (a * b)) else none) (fun Z Z Z Z e=>e) fun e h=>by
  obtain ⟨rfl,rfl⟩:=ite_some e
  exact PyProof.Rows.mul_int (h _ _ keeps_tok (.int _ _)) (PySem.IntMulOk.of_left (by decide))
section
variable {env:Env}
theorem stName {x:Str} {p:Pos} (es':List Expr):starEach (.Name x p::es') env=(false,eval (.Name x p) env)::starEach es' env:=rfl
theorem stConstant {c:Const} {k:Nat} {p:Pos} (es':List Expr):starEach (.Constant c k p::es') env=(false,eval (.Constant c k p) env)::starEach es' env:=rfl
theorem stTuple {es:List Expr} {k:Nat} {p:Pos} (es':List Expr):starEach (.Tuple es k p::es') env=(false,eval (.Tuple es k p) env)::starEach es' env:=rfl
theorem stList {es:List Expr} {p:Pos} (es':List Expr):starEach (.List es p::es') env=(false,eval (.List es p) env)::starEach es' env:=rfl
theorem stBinOp {a b:Expr} {o:Operator} {p:Pos} (es':List Expr):starEach (.BinOp a o b p::es') env=(false,eval (.BinOp a o b p) env)::starEach es' env:=rfl
theorem stUnaryOp {a:Expr} {o:UnaryOp} {p:Pos} (es':List Expr):starEach (.UnaryOp o a p::es') env=(false,eval (.UnaryOp o a p) env)::starEach es' env:=rfl
theorem stSubscript {a b:Expr} {p:Pos} (es':List Expr):starEach (.Subscript a b p::es') env=(false,eval (.Subscript a b p) env)::starEach es' env:=rfl
theorem stCall {f:Expr} {as:List Expr} {ks:List Keyword} {p:Pos} (es':List Expr):starEach (.Call f as ks p::es') env=(false,eval (.Call f as ks p) env)::starEach es' env:=rfl
theorem stCompare {a:Expr} {os:List CmpOp} {bs:List Expr} {p:Pos} (es':List Expr):starEach (.Compare a os bs p::es') env=(false,eval (.Compare a os bs p) env)::starEach es' env:=rfl
theorem stBoolOp {o:BoolOp} {bs:List Expr} {p:Pos} (es':List Expr):starEach (.BoolOp o bs p::es') env=(false,eval (.BoolOp o bs p) env)::starEach es' env:=rfl
theorem stIfExp {a b c:Expr} {p:Pos} (es':List Expr):starEach (.IfExp a b c p::es') env=(false,eval (.IfExp a b c p) env)::starEach es' env:=rfl
theorem stListComp {a:Expr} {gs:List Comprehension} {sc:Scope} {p:Pos} (es':List Expr):starEach (.ListComp a gs sc p::es') env=(false,eval (.ListComp a gs sc p) env)::starEach es' env:=rfl
theorem stJoinedStr {vs:List Expr} {p:Pos} (es':List Expr):starEach (.JoinedStr vs p::es') env=(false,eval (.JoinedStr vs p) env)::starEach es' env:=rfl
theorem st1 {e:Expr} (h:∀ es',starEach (e::es') env=(false,eval e env)::starEach es' env):starEach [e] env=[(false,eval e env)]:=h []
theorem bk1 {e:Expr} {pos:Pos} (h:∀ es',starEach (e::es') env=(false,eval e env)::starEach es' env):backTo pos (starEach [e] env)=[(false,eval e env)]:=by rw [h []];rfl
end
noncomputable def kF (v:V):FE:=fun Z H=>some (v,H)
noncomputable def cvC:Const→Option V
  | .none=>some .none
  | .bool b=>some (.bool b)
  | .int i=>some (.int i)
  | .str x=>some (.str x.cps.toList)
  |_=>none
noncomputable def cvL (f:Expr→Option V) (es:List Expr):Option (List V):=es.foldr (fun e o=>obn (f e) fun v=>obn o fun vs=>some (v::vs)) (some [])
noncomputable def cvE (f:Expr→Option V):Expr→Option V
  | .Constant c _ _=>cvC c
  | .Tuple es _ _=>obn (cvL f es) fun vs=>if vs.length≤64 then some (.tup vs) else none
  |_=>none
noncomputable def cv (n:Nat):Expr→Option V:=n.rec (fun Z=>none) fun Z f=>cvE f
noncomputable def cvs (es:List Expr):Option (List V):=cvL (cv 3) es
theorem seq_k {ρ:Rho} {H:Hp}:∀ vs:List V,seqF (vs.map kF) ρ H=some (vs,H)
  |[]=>rfl
  |v::vs=>by simp [seqF,kF,seq_k vs]
section
variable {B:Base} {n:Nat} {env:Env} {names:List Str}
theorem kF_of {e:Expr} {f:FE} {v:V} (h:SndE B n env names e f) (hf:∀ ρ H,f ρ H=some (v,H)):SndE B n env names e (kF v):=fun Z Z Z Z Z Z Z Z Z hr w q=>by
  cases q
  exact h hr w (hf _ _)
theorem tup_k {vs:List V} {ρ:Rho} {H:Hp}:tupF (vs.map kF) ρ H=some (.tup vs,H):=by
  unfold tupF
  rw [seq_k vs]
noncomputable abbrev StE (env:Env) (e:Expr):Prop:=∀ es',starEach (e::es') env=(false,eval e env)::starEach es' env
theorem cvC_ok {k:Nat} {p:Pos} {v:V} (c:Const) (h:cvC c=some v):SndE B n env names (.Constant c k p) (kF v):=by
  cases c with
  |none=>exact Option.some.inj h▸S.none
  |bool _=>exact Option.some.inj h▸S.bool
  |int _=>exact Option.some.inj h▸S.int
  |str x=>exact Option.some.inj h▸S.str (l:=x.cps.toList) rfl
  |_=>exact no h
theorem cvL_ok {f:Expr→Option V} (hf:∀ (e:Expr) (v:V),f e=some v→SndE B n env names e (kF v)∧StE env e) (es:List Expr):∀ {vs:List V},cvL f es=some vs→SndL B n env names es (vs.map kF):=by
  induction es with
  |nil=>exact fun h=>Option.some.inj h ▸ .nil
  |cons e es ih=>
    intro vs h
    obtain ⟨v,h1,h⟩:=bn1 h
    obtain ⟨ws,h2,h⟩:=bn1 h
    exact Option.some.inj h ▸ .cons (hf _ _ h1).1 (hf _ _ h1).2 (ih h2)
theorem cvE_ok (f:Expr→Option V) (hf:∀ (e:Expr) (v:V),f e=some v→SndE B n env names e (kF v)∧StE env e) (e:Expr) (v:V) (h:cvE f e=some v):SndE B n env names e (kF v)∧StE env e:=by
  cases e with
  |Constant c k p=>exact ⟨cvC_ok c h,stConstant⟩
  |Tuple es k p=>
    obtain ⟨vs,h1,h⟩:=bn1 h
    obtain ⟨h2,h⟩:=ite_some h
    exact h▸⟨kF_of (S.tuple (cvL_ok hf es h1) (by rw [List.length_map];exact h2)) fun Z Z=>tup_k,fun Z=>rfl⟩
  |_=>exact no h
theorem cvs_ok (es:List Expr) {vs:List V}:cvs es=some vs→SndL B n env names es (vs.map kF):=
  cvL_ok (cvE_ok (cv 2) (cvE_ok (cv 1) (cvE_ok (cv 0) fun Z Z h=>no h))) es
end
theorem recAt {B:Base} (cx:Ctx B) {j:Nat} {x:Str} (h:nameOf (stAt j)=x) (hf:isFun (stAt j)=true):Rec B x (argsAt j) (bodyAt j) (scopeAt j):=by
  subst h
  exact cx.rc j hf
section
variable {B:Base}
theorem gen_pieces {env:Env} {names:List Str} {es:List PySem.Expr} {vs:List V} (lp rp:Pos) (h:cvs es=some vs) (hl:(vs.map kF).length≤64):SndB B 1 env names [.Return (some (.List es lp)) rp] (retS (lstF (vs.map kF))):=
  bone (R.ret (S.list (cvs_ok es h) hl))
structure Bdy (B:Base) (n:Nat) (x:Str) (params:Arguments) (body:List Stmt) (scope:Scope) (ps ls:List Str) (f:FS):Prop where
  h:∀ pm code doc L a,SndB B n (callEnvC (docDef x params body scope pm code doc) L a) (ps++ls) body f
theorem fnSB {n:Nat} {x:Str} {params:Arguments} {body:List Stmt} {scope:Scope} {ps ls:List Str} {f:FS} (ok:B.Ok) (hrec:Rec B x params body scope) (fit:Fit params scope ps ls) (b:Bdy B n x params body scope ps ls f) :
    FnS B (n+1) x (fun xs H=>if xs.length=ps.length then runF ls.length f xs H else none):=fnS ok hrec fit b.h
theorem SndB.cast {n:Nat} {env:Env} {names:List Str} {ss ss':List Stmt} {f:FS} (h:ss=ss') (p:SndB B n env names ss' f):SndB B n env names ss f:=by subst h;exact p
end
section
set_option maxHeartbeats 4000000
variable {B:Base}
noncomputable abbrev ps_law_sign:List Str:=["text", "k"]
noncomputable abbrev ls_law_sign:List Str:=[]
theorem nd_law_sign:(ps_law_sign++ls_law_sign).Nodup:=by decide +kernel
noncomputable abbrev env_law_sign (pm code doc:Value) (L a:Addr):Env:=callEnvC (docDef "_law_sign" (argsAt 21) (bodyAt 21) (scopeAt 21) pm code doc) L a
theorem fit_law_sign:Fit (argsAt 21) (scopeAt 21) ps_law_sign ls_law_sign where
  co:=by kernel_rfl
  ge:=by kernel_rfl
  ki:=by kernel_rfl
  nd:=nd_law_sign
  pk:=by decide +kernel
  nf:=by decide +kernel
  bi:=fun Z Z Z Z Z=>vl2 fun Z Z=>by kernel_rfl
noncomputable def f_law_sign:FS:=(seqS (ifS (tB (bin eqV (bin idxV (getV 0) (getV 1)) (cStr [92]))) (retS (tupF [(bin idxV (getV 0) (bin addV (getV 1) (cInt 1))),(bin addV (getV 1) (cInt 2))])) nopS) (retS (tupF [(bin idxV (getV 0) (getV 1)),(bin addV (getV 1) (cInt 1))])))
theorem b_law_sign (cx:Ctx B) (pm code doc:Value) (L a:Addr):SndB B 1 (env_law_sign pm code doc L a) (ps_law_sign++ls_law_sign) (bodyAt 21) f_law_sign:=
  (bcons (R.ite (T.cmp (S.idx (S.name (i:=0) (k:=.local)) (S.name (i:=1) (k:=.local)) (fun Z Z=>rfl)) (S.str (by kernel_rfl)) O.eq (by omega) rfl) (bone (R.ret (S.tuple (SndL.cons (S.idx (S.name (i:=0) (k:=.local)) (S.binop (S.name (i:=1) (k:=.local)) S.int O.add (by omega)) (fun Z Z=>rfl)) stSubscript (SndL.cons (S.binop (S.name (i:=1) (k:=.local)) S.int O.add (by omega)) stBinOp SndL.nil)) (by decide)))) bnil) (bone (R.ret (S.tuple (SndL.cons (S.idx (S.name (i:=0) (k:=.local)) (S.name (i:=1) (k:=.local)) (fun Z Z=>rfl)) stSubscript (SndL.cons (S.binop (S.name (i:=1) (k:=.local)) S.int O.add (by omega)) stBinOp SndL.nil)) (by decide)))))
noncomputable def g_law_sign:FF:=fun xs H=>if xs.length=ps_law_sign.length then runF ls_law_sign.length f_law_sign xs H else none
theorem fn_law_sign (cx:Ctx B):FnS B 2 "_law_sign" g_law_sign:=fnS cx.ok (cx.rc 21 (by kernel_rfl)) fit_law_sign (b_law_sign cx)
noncomputable abbrev ps_law_means:List Str:=["item", "sign"]
noncomputable abbrev ls_law_means:List Str:=[]
theorem nd_law_means:(ps_law_means++ls_law_means).Nodup:=by decide +kernel
noncomputable abbrev env_law_means (pm code doc:Value) (L a:Addr):Env:=callEnvC (docDef "_law_means" (argsAt 31) (bodyAt 31) (scopeAt 31) pm code doc) L a
theorem fit_law_means:Fit (argsAt 31) (scopeAt 31) ps_law_means ls_law_means where
  co:=by kernel_rfl
  ge:=by kernel_rfl
  ki:=by kernel_rfl
  nd:=nd_law_means
  pk:=by decide +kernel
  nf:=by decide +kernel
  bi:=fun Z Z Z Z Z=>vl2 fun Z Z=>by kernel_rfl
noncomputable def f_law_means:FS:=(retS (bin neV (bin inV (getV 1) (bin idxV (getV 0) (cInt 1))) (bin idxV (getV 0) (cInt 0))))
theorem b_law_means (cx:Ctx B) (pm code doc:Value) (L a:Addr):SndB B 1 (env_law_means pm code doc L a) (ps_law_means++ls_law_means) (bodyAt 31) f_law_means:=
  (bone (R.ret (S.cmp (S.cmp (S.name (i:=1) (k:=.local)) (S.idx (S.name (i:=0) (k:=.local)) S.int (fun Z Z=>rfl)) O.inn (by omega) rfl) (S.idx (S.name (i:=0) (k:=.local)) S.int (fun Z Z=>rfl)) O.ne (by omega) rfl)))
noncomputable def g_law_means:FF:=fun xs H=>if xs.length=ps_law_means.length then runF ls_law_means.length f_law_means xs H else none
theorem fn_law_means (cx:Ctx B):FnS B 2 "_law_means" g_law_means:=fnS cx.ok (cx.rc 31 (by kernel_rfl)) fit_law_means (b_law_means cx)
noncomputable abbrev ps_law_takes:List Str:=["items", "name"]
noncomputable abbrev ls_law_takes:List Str:=[]
theorem nd_law_takes:(ps_law_takes++ls_law_takes).Nodup:=by decide +kernel
noncomputable abbrev env_law_takes (pm code doc:Value) (L a:Addr):Env:=callEnvC (docDef "_law_takes" (argsAt 32) (bodyAt 32) (scopeAt 32) pm code doc) L a
theorem fit_law_takes:Fit (argsAt 32) (scopeAt 32) ps_law_takes ls_law_takes where
  co:=by kernel_rfl
  ge:=by kernel_rfl
  ki:=by kernel_rfl
  nd:=nd_law_takes
  pk:=by decide +kernel
  nf:=by decide +kernel
  bi:=fun Z Z Z Z Z=>vl2 fun Z Z=>by kernel_rfl
noncomputable def f_law_takes (g:FF):FS:=(seqS (ifS (tB (bin eqV (getV 0) (lstF []))) (retS (bin eqV (getV 1) (cStr []))) nopS) (seqS (ifS (tB (bin isV (bin idxV (getV 0) (cInt 0)) cNone)) (retS (orF [(funF g [(slc (getV 0) (cInt 1) cNone),(getV 1)]),(andF [(bin neV (getV 1) (cStr [])),(funF g [(getV 0),(slc (getV 1) (cInt 1) cNone)])])])) nopS) (retS (andF [(bin neV (getV 1) (cStr [])),(funF g_law_means [(bin idxV (getV 0) (cInt 0)),(bin idxV (getV 1) (cInt 0))]),(funF g [(slc (getV 0) (cInt 1) cNone),(slc (getV 1) (cInt 1) cNone)])]))))
theorem b_law_takes (cx:Ctx B) {k:Nat} {g:FF} (hg:FnS B (k+2) "_law_takes" g) (pm code doc:Value) (L a:Addr):SndB B (k+2) (env_law_takes pm code doc L a) (ps_law_takes++ls_law_takes) (bodyAt 32) (f_law_takes g):=
  (bcons (R.ite (T.cmp (S.name (i:=0) (k:=.local)) (S.list SndL.nil (by decide)) O.eq (by omega) rfl) (bone (R.ret (S.cmp (S.name (i:=1) (k:=.local)) (S.str (by kernel_rfl)) O.eq (by omega) rfl))) bnil) (bcons (R.ite (T.cmp (S.idx (S.name (i:=0) (k:=.local)) S.int (fun Z Z=>rfl)) S.none O.is (by omega) rfl) (bone (R.ret (S.or (SndL.cons (S.fun cx.ok hg (by kernel_rfl) (by kernel_rfl) (SndL.cons (S.slice (S.name (i:=0) (k:=.local)) (SndP.some S.int) SndP.none) stSubscript (SndL.cons (S.name (i:=1) (k:=.local)) stName SndL.nil)) (by omega)) stCall (SndL.cons (S.and (SndL.cons (S.cmp (S.name (i:=1) (k:=.local)) (S.str (by kernel_rfl)) O.ne (by omega) rfl) stCompare (SndL.cons (S.fun cx.ok hg (by kernel_rfl) (by kernel_rfl) (SndL.cons (S.name (i:=0) (k:=.local)) stName (SndL.cons (S.slice (S.name (i:=1) (k:=.local)) (SndP.some S.int) SndP.none) stSubscript SndL.nil)) (by omega)) stCall SndL.nil))) stBoolOp SndL.nil))))) bnil) (bone (R.ret (S.and (SndL.cons (S.cmp (S.name (i:=1) (k:=.local)) (S.str (by kernel_rfl)) O.ne (by omega) rfl) stCompare (SndL.cons (S.fun cx.ok (fn_law_means cx) (by kernel_rfl) (by kernel_rfl) (SndL.cons (S.idx (S.name (i:=0) (k:=.local)) S.int (fun Z Z=>rfl)) stSubscript (SndL.cons (S.idx (S.name (i:=1) (k:=.local)) S.int (fun Z Z=>rfl)) stSubscript SndL.nil)) (by omega)) stCall (SndL.cons (S.fun cx.ok hg (by kernel_rfl) (by kernel_rfl) (SndL.cons (S.slice (S.name (i:=0) (k:=.local)) (SndP.some S.int) SndP.none) stSubscript (SndL.cons (S.slice (S.name (i:=1) (k:=.local)) (SndP.some S.int) SndP.none) stSubscript SndL.nil)) (by omega)) stCall SndL.nil))))))))
noncomputable def g_law_takes:Nat→FF
  |0=>fun Z Z=>none
  |k+1=>fun xs H=>if xs.length=ps_law_takes.length then runF ls_law_takes.length (f_law_takes (g_law_takes k)) xs H else none
theorem fn_law_takes (cx:Ctx B):∀ k,FnS B (k+2) "_law_takes" (g_law_takes k)
  |0=>fnS0 (cx.rc 32 (by kernel_rfl))
  |k+1=>Nat.add_right_comm k 1 2▸fnS cx.ok (cx.rc 32 (by kernel_rfl)) fit_law_takes (b_law_takes cx (fn_law_takes cx k))
end
section
set_option maxHeartbeats 4000000
variable {B:Base}
theorem rec_siftdown (cx:Ctx B):Rec B "_siftdown" (argsAt 6) (bodyAt 6) (scopeAt 6):=recAt cx (by kernel_rfl) (by kernel_rfl)
noncomputable abbrev ps_siftdown:List Str:=["heap", "startpos", "pos"]
noncomputable abbrev ls_siftdown:List Str:=["newitem", "parentpos", "parent"]
theorem nd_siftdown:(ps_siftdown++ls_siftdown).Nodup:=by decide +kernel
noncomputable abbrev env_siftdown (pm code doc:Value) (L a:Addr):Env:=callEnvC (docDef "_siftdown" (argsAt 6) (bodyAt 6) (scopeAt 6) pm code doc) L a
theorem fit_siftdown:Fit (argsAt 6) (scopeAt 6) ps_siftdown ls_siftdown where
  co:=by kernel_rfl
  ge:=by kernel_rfl
  ki:=by kernel_rfl
  nd:=nd_siftdown
  pk:=by decide +kernel
  nf:=by decide +kernel
  bi:=fun Z Z Z Z Z=>vl3 fun Z Z Z=>by kernel_rfl
noncomputable def f_siftdown (K:Nat):FS:=(seqS (setS 3 (bin idxV (getV 0) (getV 2))) (seqS (whileS (tB (bin gtV (getV 2) (getV 1))) (seqS (setS 4 (bin shrV (bin subV (getV 2) (cInt 1)) (cInt 1))) (seqS (setS 5 (bin idxV (getV 0) (getV 4))) (seqS (ifS (tB (bin ltV (getV 3) (getV 5))) (seqS (putS (getV 5) (getV 0) (getV 2)) (seqS (setS 2 (getV 4)) cntS)) nopS) brkS))) K) (putS (getV 3) (getV 0) (getV 2))))
theorem b_siftdown (cx:Ctx B) (K:Nat) (pm code doc:Value) (L a:Addr):SndB B 1 (env_siftdown pm code doc L a) (ps_siftdown++ls_siftdown) (bodyAt 6) (f_siftdown K):=
  (bcons (R.set (At.mk' (i:=3) (k:=.local) nd_siftdown rfl (by kernel_rfl) (.inl rfl)) (S.idx (S.name (i:=0) (k:=.local)) (S.name (i:=2) (k:=.local)) (fun Z Z=>rfl)) rfl) (bcons (R.while K (T.cmp (S.name (i:=2) (k:=.local)) (S.name (i:=1) (k:=.local)) O.gt (by omega) rfl) (bcons (R.set (At.mk' (i:=4) (k:=.local) nd_siftdown rfl (by kernel_rfl) (.inl rfl)) (S.binop (S.binop (S.name (i:=2) (k:=.local)) S.int O.sub (by omega)) S.int O.shr (by omega)) rfl) (bcons (R.set (At.mk' (i:=5) (k:=.local) nd_siftdown rfl (by kernel_rfl) (.inl rfl)) (S.idx (S.name (i:=0) (k:=.local)) (S.name (i:=4) (k:=.local)) (fun Z Z=>rfl)) rfl) (bcons (R.ite (T.cmp (S.name (i:=3) (k:=.local)) (S.name (i:=5) (k:=.local)) O.lt (by omega) rfl) (bcons (R.put (S.name (i:=5) (k:=.local)) (S.name (i:=0) (k:=.local)) (S.name (i:=2) (k:=.local)) rfl) (bcons (R.set (At.mk' (i:=2) (k:=.local) nd_siftdown rfl (by kernel_rfl) (.inl rfl)) (S.name (i:=4) (k:=.local)) rfl) (bone R.cnt))) bnil) (bone R.brk)))) (by omega)) (bone (R.put (S.name (i:=3) (k:=.local)) (S.name (i:=0) (k:=.local)) (S.name (i:=2) (k:=.local)) rfl))))
noncomputable def g_siftdown (K:Nat):FF:=fun xs H=>if xs.length=ps_siftdown.length then runF ls_siftdown.length (f_siftdown K) xs H else none
theorem fn_siftdown (cx:Ctx B) (K:Nat):FnS B 2 "_siftdown" (g_siftdown K):=fnS (x := "_siftdown") (params:=argsAt 6) (body:=bodyAt 6) (scope:=scopeAt 6) (ps:=ps_siftdown) (ls:=ls_siftdown) (f:=f_siftdown K) cx.ok (rec_siftdown cx) fit_siftdown (b_siftdown cx K)
theorem rec_siftup (cx:Ctx B):Rec B "_siftup" (argsAt 7) (bodyAt 7) (scopeAt 7):=recAt cx (by kernel_rfl) (by kernel_rfl)
noncomputable abbrev ps_siftup:List Str:=["heap", "pos"]
noncomputable abbrev ls_siftup:List Str:=["endpos", "startpos", "newitem", "childpos", "rightpos"]
theorem nd_siftup:(ps_siftup++ls_siftup).Nodup:=by decide +kernel
noncomputable abbrev env_siftup (pm code doc:Value) (L a:Addr):Env:=callEnvC (docDef "_siftup" (argsAt 7) (bodyAt 7) (scopeAt 7) pm code doc) L a
theorem fit_siftup:Fit (argsAt 7) (scopeAt 7) ps_siftup ls_siftup where
  co:=by kernel_rfl
  ge:=by kernel_rfl
  ki:=by kernel_rfl
  nd:=nd_siftup
  pk:=by decide +kernel
  nf:=by decide +kernel
  bi:=fun Z Z Z Z Z=>vl2 fun Z Z=>by kernel_rfl
noncomputable def f_siftup (K:Nat):FS:=(seqS (setS 2 (calF lenG [(getV 0)])) (seqS (setS 3 (getV 1)) (seqS (setS 4 (bin idxV (getV 0) (getV 1))) (seqS (setS 5 (bin addV (bin mulV (cInt 2) (getV 1)) (cInt 1))) (seqS (whileS (tB (bin ltV (getV 5) (getV 2))) (seqS (setS 6 (bin addV (getV 5) (cInt 1))) (seqS (ifS (tAnd [(tB (bin ltV (getV 6) (getV 2))),(tNot (tB (bin ltV (bin idxV (getV 0) (getV 5)) (bin idxV (getV 0) (getV 6)))))]) (setS 5 (getV 6)) nopS) (seqS (putS (bin idxV (getV 0) (getV 5)) (getV 0) (getV 1)) (seqS (setS 1 (getV 5)) (setS 5 (bin addV (bin mulV (cInt 2) (getV 1)) (cInt 1))))))) K) (seqS (putS (getV 4) (getV 0) (getV 1)) (expS (funcF (g_siftdown K) [(getV 0),(getV 3),(getV 1)]))))))))
theorem b_siftup (cx:Ctx B) (K:Nat) (pm code doc:Value) (L a:Addr):SndB B 2 (env_siftup pm code doc L a) (ps_siftup++ls_siftup) (bodyAt 7) (f_siftup K):=
  (bcons (R.set (At.mk' (i:=2) (k:=.local) nd_siftup rfl (by kernel_rfl) (.inl rfl)) (S.call cx.ok ⟨by kernel_rfl,cx.bm.len,by decide +kernel,by decide +kernel,by kernel_rfl,rfl⟩ (SndL.cons (S.name (i:=0) (k:=.local)) stName SndL.nil) O.len (by omega)) rfl) (bcons (R.set (At.mk' (i:=3) (k:=.local) nd_siftup rfl (by kernel_rfl) (.inl rfl)) (S.name (i:=1) (k:=.local)) rfl) (bcons (R.set (At.mk' (i:=4) (k:=.local) nd_siftup rfl (by kernel_rfl) (.inl rfl)) (S.idx (S.name (i:=0) (k:=.local)) (S.name (i:=1) (k:=.local)) (fun Z Z=>rfl)) rfl) (bcons (R.set (At.mk' (i:=5) (k:=.local) nd_siftup rfl (by kernel_rfl) (.inl rfl)) (S.binop (S.binop S.int (S.name (i:=1) (k:=.local)) O.mul (by omega)) S.int O.add (by omega)) rfl) (bcons (R.while K (T.cmp (S.name (i:=5) (k:=.local)) (S.name (i:=2) (k:=.local)) O.lt (by omega) rfl) (bcons (R.set (At.mk' (i:=6) (k:=.local) nd_siftup rfl (by kernel_rfl) (.inl rfl)) (S.binop (S.name (i:=5) (k:=.local)) S.int O.add (by omega)) rfl) (bcons (R.ite (T.and (SndTs.cons (T.cmp (S.name (i:=6) (k:=.local)) (S.name (i:=2) (k:=.local)) O.lt (by omega) rfl) (SndTs.cons (T.not (T.cmp (S.idx (S.name (i:=0) (k:=.local)) (S.name (i:=5) (k:=.local)) (fun Z Z=>rfl)) (S.idx (S.name (i:=0) (k:=.local)) (S.name (i:=6) (k:=.local)) (fun Z Z=>rfl)) O.lt (by omega) rfl)) SndTs.nil))) (bone (R.set (At.mk' (i:=5) (k:=.local) nd_siftup rfl (by kernel_rfl) (.inl rfl)) (S.name (i:=6) (k:=.local)) rfl)) bnil) (bcons (R.put (S.idx (S.name (i:=0) (k:=.local)) (S.name (i:=5) (k:=.local)) (fun Z Z=>rfl)) (S.name (i:=0) (k:=.local)) (S.name (i:=1) (k:=.local)) rfl) (bcons (R.set (At.mk' (i:=1) (k:=.local) nd_siftup rfl (by kernel_rfl) (.inl rfl)) (S.name (i:=5) (k:=.local)) rfl) (bone (R.set (At.mk' (i:=5) (k:=.local) nd_siftup rfl (by kernel_rfl) (.inl rfl)) (S.binop (S.binop S.int (S.name (i:=1) (k:=.local)) O.mul (by omega)) S.int O.add (by omega)) rfl)))))) (by omega)) (bcons (R.put (S.name (i:=4) (k:=.local)) (S.name (i:=0) (k:=.local)) (S.name (i:=1) (k:=.local)) rfl) (bone (R.exp (S.func cx.ok (fn_siftdown cx K) (by kernel_rfl) (by kernel_rfl) (SndL.cons (S.name (i:=0) (k:=.local)) stName (SndL.cons (S.name (i:=3) (k:=.local)) stName (SndL.cons (S.name (i:=1) (k:=.local)) stName SndL.nil))) (by omega)) rfl rfl))))))))
noncomputable def g_siftup (K:Nat):FF:=fun xs H=>if xs.length=ps_siftup.length then runF ls_siftup.length (f_siftup K) xs H else none
theorem fn_siftup (cx:Ctx B) (K:Nat):FnS B 3 "_siftup" (g_siftup K):=fnS (x := "_siftup") (params:=argsAt 7) (body:=bodyAt 7) (scope:=scopeAt 7) (ps:=ps_siftup) (ls:=ls_siftup) (f:=f_siftup K) cx.ok (rec_siftup cx) fit_siftup (b_siftup cx K)
theorem rec_heappush (cx:Ctx B):Rec B "heappush" (argsAt 2) (bodyAt 2) (scopeAt 2):=recAt cx (by kernel_rfl) (by kernel_rfl)
noncomputable abbrev ps_heappush:List Str:=["heap", "item"]
noncomputable abbrev ls_heappush:List Str:=[]
theorem nd_heappush:(ps_heappush++ls_heappush).Nodup:=by decide +kernel
noncomputable abbrev env_heappush (pm code doc:Value) (L a:Addr):Env:=callEnvC (docDef "heappush" (argsAt 2) (bodyAt 2) (scopeAt 2) pm code doc) L a
theorem fit_heappush:Fit (argsAt 2) (scopeAt 2) ps_heappush ls_heappush where
  co:=by kernel_rfl
  ge:=by kernel_rfl
  ki:=by kernel_rfl
  nd:=nd_heappush
  pk:=by decide +kernel
  nf:=by decide +kernel
  bi:=fun Z Z Z Z Z=>vl2 fun Z Z=>by kernel_rfl
noncomputable def f_heappush (K:Nat):FS:=(seqS (expS (apdF (getV 0) (getV 1))) (expS (funcF (g_siftdown K) [(getV 0),(cInt 0),(bin subV (calF lenG [(getV 0)]) (cInt 1))])))
theorem b_heappush (cx:Ctx B) (K:Nat) (pm code doc:Value) (L a:Addr):SndB B 2 (env_heappush pm code doc L a) (ps_heappush++ls_heappush) (bodyAt 2) (f_heappush K):=
  (bcons (R.exp (S.append (S.name (i:=0) (k:=.local)) (S.name (i:=1) (k:=.local)) rfl rfl rfl (bk1 stName)) rfl rfl) (bone (R.exp (S.func cx.ok (fn_siftdown cx K) (by kernel_rfl) (by kernel_rfl) (SndL.cons (S.name (i:=0) (k:=.local)) stName (SndL.cons S.int stConstant (SndL.cons (S.binop (S.call cx.ok ⟨by kernel_rfl,cx.bm.len,by decide +kernel,by decide +kernel,by kernel_rfl,rfl⟩ (SndL.cons (S.name (i:=0) (k:=.local)) stName SndL.nil) O.len (by omega)) S.int O.sub (by omega)) stBinOp SndL.nil))) (by omega)) rfl rfl)))
noncomputable def g_heappush (K:Nat):FF:=fun xs H=>if xs.length=ps_heappush.length then runF ls_heappush.length (f_heappush K) xs H else none
theorem fn_heappush (cx:Ctx B) (K:Nat):FnS B 3 "heappush" (g_heappush K):=fnS (x := "heappush") (params:=argsAt 2) (body:=bodyAt 2) (scope:=scopeAt 2) (ps:=ps_heappush) (ls:=ls_heappush) (f:=f_heappush K) cx.ok (rec_heappush cx) fit_heappush (b_heappush cx K)
theorem rec_heappop (cx:Ctx B):Rec B "heappop" (argsAt 3) (bodyAt 3) (scopeAt 3):=recAt cx (by kernel_rfl) (by kernel_rfl)
noncomputable abbrev ps_heappop:List Str:=["heap"]
noncomputable abbrev ls_heappop:List Str:=["lastelt", "returnitem"]
theorem nd_heappop:(ps_heappop++ls_heappop).Nodup:=by decide +kernel
noncomputable abbrev env_heappop (pm code doc:Value) (L a:Addr):Env:=callEnvC (docDef "heappop" (argsAt 3) (bodyAt 3) (scopeAt 3) pm code doc) L a
theorem fit_heappop:Fit (argsAt 3) (scopeAt 3) ps_heappop ls_heappop where
  co:=by kernel_rfl
  ge:=by kernel_rfl
  ki:=by kernel_rfl
  nd:=nd_heappop
  pk:=by decide +kernel
  nf:=by decide +kernel
  bi:=fun Z Z Z Z Z=>vl1 fun Z=>by kernel_rfl
noncomputable def f_heappop (K:Nat):FS:=(seqS (setS 1 (popF (getV 0))) (seqS (ifS (tB (getV 0)) (seqS (setS 2 (bin idxV (getV 0) (cInt 0))) (seqS (putS (getV 1) (getV 0) (cInt 0)) (seqS (expS (funcF (g_siftup K) [(getV 0),(cInt 0)])) (retS (getV 2))))) nopS) (retS (getV 1))))
theorem b_heappop (cx:Ctx B) (K:Nat) (pm code doc:Value) (L a:Addr):SndB B 3 (env_heappop pm code doc L a) (ps_heappop++ls_heappop) (bodyAt 3) (f_heappop K):=
  (bcons (R.set (At.mk' (i:=1) (k:=.local) nd_heappop rfl (by kernel_rfl) (.inl rfl)) (S.pop (S.name (i:=0) (k:=.local)) ⟨rfl,rfl,rfl⟩) rfl) (bcons (R.ite (T.plain (S.name (i:=0) (k:=.local)) (fun Z=>rfl)) (bcons (R.set (At.mk' (i:=2) (k:=.local) nd_heappop rfl (by kernel_rfl) (.inl rfl)) (S.idx (S.name (i:=0) (k:=.local)) S.int (fun Z Z=>rfl)) rfl) (bcons (R.put (S.name (i:=1) (k:=.local)) (S.name (i:=0) (k:=.local)) S.int rfl) (bcons (R.exp (S.func cx.ok (fn_siftup cx K) (by kernel_rfl) (by kernel_rfl) (SndL.cons (S.name (i:=0) (k:=.local)) stName (SndL.cons S.int stConstant SndL.nil)) (by omega)) rfl rfl) (bone (R.ret (S.name (i:=2) (k:=.local))))))) bnil) (bone (R.ret (S.name (i:=1) (k:=.local))))))
noncomputable def g_heappop (K:Nat):FF:=fun xs H=>if xs.length=ps_heappop.length then runF ls_heappop.length (f_heappop K) xs H else none
theorem fn_heappop (cx:Ctx B) (K:Nat):FnS B 4 "heappop" (g_heappop K):=fnS (x := "heappop") (params:=argsAt 3) (body:=bodyAt 3) (scope:=scopeAt 3) (ps:=ps_heappop) (ls:=ls_heappop) (f:=f_heappop K) cx.ok (rec_heappop cx) fit_heappop (b_heappop cx K)
theorem rec_heapreplace (cx:Ctx B):Rec B "heapreplace" (argsAt 4) (bodyAt 4) (scopeAt 4):=recAt cx (by kernel_rfl) (by kernel_rfl)
noncomputable abbrev ps_heapreplace:List Str:=["heap", "item"]
noncomputable abbrev ls_heapreplace:List Str:=["returnitem"]
theorem nd_heapreplace:(ps_heapreplace++ls_heapreplace).Nodup:=by decide +kernel
noncomputable abbrev env_heapreplace (pm code doc:Value) (L a:Addr):Env:=callEnvC (docDef "heapreplace" (argsAt 4) (bodyAt 4) (scopeAt 4) pm code doc) L a
theorem fit_heapreplace:Fit (argsAt 4) (scopeAt 4) ps_heapreplace ls_heapreplace where
  co:=by kernel_rfl
  ge:=by kernel_rfl
  ki:=by kernel_rfl
  nd:=nd_heapreplace
  pk:=by decide +kernel
  nf:=by decide +kernel
  bi:=fun Z Z Z Z Z=>vl2 fun Z Z=>by kernel_rfl
noncomputable def f_heapreplace (K:Nat):FS:=(seqS (setS 2 (bin idxV (getV 0) (cInt 0))) (seqS (putS (getV 1) (getV 0) (cInt 0)) (seqS (expS (funcF (g_siftup K) [(getV 0),(cInt 0)])) (retS (getV 2)))))
theorem b_heapreplace (cx:Ctx B) (K:Nat) (pm code doc:Value) (L a:Addr):SndB B 3 (env_heapreplace pm code doc L a) (ps_heapreplace++ls_heapreplace) (bodyAt 4) (f_heapreplace K):=
  (bcons (R.set (At.mk' (i:=2) (k:=.local) nd_heapreplace rfl (by kernel_rfl) (.inl rfl)) (S.idx (S.name (i:=0) (k:=.local)) S.int (fun Z Z=>rfl)) rfl) (bcons (R.put (S.name (i:=1) (k:=.local)) (S.name (i:=0) (k:=.local)) S.int rfl) (bcons (R.exp (S.func cx.ok (fn_siftup cx K) (by kernel_rfl) (by kernel_rfl) (SndL.cons (S.name (i:=0) (k:=.local)) stName (SndL.cons S.int stConstant SndL.nil)) (by omega)) rfl rfl) (bone (R.ret (S.name (i:=2) (k:=.local)))))))
noncomputable def g_heapreplace (K:Nat):FF:=fun xs H=>if xs.length=ps_heapreplace.length then runF ls_heapreplace.length (f_heapreplace K) xs H else none
theorem fn_heapreplace (cx:Ctx B) (K:Nat):FnS B 4 "heapreplace" (g_heapreplace K):=fnS (x := "heapreplace") (params:=argsAt 4) (body:=bodyAt 4) (scope:=scopeAt 4) (ps:=ps_heapreplace) (ls:=ls_heapreplace) (f:=f_heapreplace K) cx.ok (rec_heapreplace cx) fit_heapreplace (b_heapreplace cx K)
theorem rec_law_numbers (cx:Ctx B):Rec B "_law_numbers" (argsAt 19) (bodyAt 19) (scopeAt 19):=recAt cx (by kernel_rfl) (by kernel_rfl)
noncomputable abbrev ps_law_numbers:List Str:=["script"]
noncomputable abbrev ls_law_numbers:List Str:=["given"]
theorem nd_law_numbers:(ps_law_numbers++ls_law_numbers).Nodup:=by decide +kernel
noncomputable abbrev env_law_numbers (pm code doc:Value) (L a:Addr):Env:=callEnvC (docDef "_law_numbers" (argsAt 19) (bodyAt 19) (scopeAt 19) pm code doc) L a
theorem fit_law_numbers:Fit (argsAt 19) (scopeAt 19) ps_law_numbers ls_law_numbers where
  co:=by kernel_rfl
  ge:=by kernel_rfl
  ki:=by kernel_rfl
  nd:=nd_law_numbers
  pk:=by decide +kernel
  nf:=by decide +kernel
  bi:=fun Z Z Z Z Z=>vl1 fun Z=>by kernel_rfl
noncomputable def f_law_numbers:FS:=(seqS (setS 1 (compF (noL (itF (slc (getV 0) cNone (cInt 5)))) 1 [] (leafC (bin modV (getV 0) (bin powV (cInt 10) (cInt 9)))) (tgN 0) [])) (retS (bin addV (getV 1) (slc (lstF [(cInt 5),(cInt 176),(cInt 450),(cInt 14),(cInt 445)]) (calF lenG [(getV 1)]) cNone))))
theorem b_law_numbers (cx:Ctx B) (pm code doc:Value) (L a:Addr):SndB B 1 (env_law_numbers pm code doc L a) (ps_law_numbers++ls_law_numbers) (bodyAt 19) (f_law_numbers):=
  (bcons (R.setC (At.mk' (i:=1) (k:=.local) nd_law_numbers rfl (by kernel_rfl) (.inl rfl)) (CompOk.mk (cl:=[]) (ts:=["x"]) (fs:=[]) (CFit.mk (by kernel_rfl) (by kernel_rfl) (by decide +kernel) (by decide +kernel) (by intro y hy;(rcases List.mem_cons.mp hy with rfl | hy;· kernel_rfl);cases hy) (by intro y j hy;cases hy) (by intro y j hy;cases hy) (by intro y c hy;have hy:=lookup_mem hy;cases hy) (show ([]:List Str).Nodup by decide +kernel)) ⟨_,_,_,_,fun Z Z Z=>rfl,fun Z=>(GL.name (AtL.mk' (i:=0) (by decide +kernel) rfl (by kernel_rfl))),fun Z=>SndTs.nil,fun Z Z=>(emit_leaf (S.binop (S.name (i:=0) (k:=.local)) (S.binop S.int S.int O.pow (by omega)) O.mod (by omega)))⟩ rfl) (J.of (I.list (S.slice (S.name (i:=0) (k:=.local)) SndP.none (SndP.some S.int)))) noL_ok (by omega) (fun Z=>rfl) rfl) (bone (R.ret (S.binop (S.name (i:=1) (k:=.local)) (S.slice (S.list (SndL.cons S.int stConstant (SndL.cons S.int stConstant (SndL.cons S.int stConstant (SndL.cons S.int stConstant (SndL.cons S.int stConstant SndL.nil))))) (by decide)) (SndP.some (S.call cx.ok ⟨by kernel_rfl,cx.bm.len,by decide +kernel,by decide +kernel,by kernel_rfl,rfl⟩ (SndL.cons (S.name (i:=1) (k:=.local)) stName SndL.nil) O.len (by omega))) SndP.none) O.add (by omega)))))
noncomputable def g_law_numbers:FF:=fun xs H=>if xs.length=ps_law_numbers.length then runF ls_law_numbers.length (f_law_numbers) xs H else none
theorem fn_law_numbers (cx:Ctx B):FnS B 2 "_law_numbers" (g_law_numbers):=fnS (x := "_law_numbers") (params:=argsAt 19) (body:=bodyAt 19) (scope:=scopeAt 19) (ps:=ps_law_numbers) (ls:=ls_law_numbers) (f:=f_law_numbers) cx.ok (rec_law_numbers cx) fit_law_numbers (b_law_numbers cx)
theorem rec_law_set (cx:Ctx B):Rec B "_law_set" (argsAt 22) (bodyAt 22) (scopeAt 22):=recAt cx (by kernel_rfl) (by kernel_rfl)
noncomputable abbrev ps_law_set:List Str:=["text", "k"]
noncomputable abbrev ls_law_set:List Str:=["turned", "ranges", "low", "high"]
theorem nd_law_set:(ps_law_set++ls_law_set).Nodup:=by decide +kernel
noncomputable abbrev env_law_set (pm code doc:Value) (L a:Addr):Env:=callEnvC (docDef "_law_set" (argsAt 22) (bodyAt 22) (scopeAt 22) pm code doc) L a
theorem fit_law_set:Fit (argsAt 22) (scopeAt 22) ps_law_set ls_law_set where
  co:=by kernel_rfl
  ge:=by kernel_rfl
  ki:=by kernel_rfl
  nd:=nd_law_set
  pk:=by decide +kernel
  nf:=by decide +kernel
  bi:=fun Z Z Z Z Z=>vl2 fun Z Z=>by kernel_rfl
noncomputable def f_law_set (K:Nat):FS:=(seqS (setS 2 (bin eqV (bin idxV (getV 0) (bin addV (getV 1) (cInt 1))) (cStr [94]))) (seqS (augS 1 iaddV (ifE (tB (getV 2)) (cInt 2) (cInt 1))) (seqS (setS 3 (newF [])) (seqS (whileS (tOr [(tB (bin neV (bin idxV (getV 0) (getV 1)) (cStr [93]))),(tB (bin eqV (getV 3) (lstF [])))]) (seqS (setT (funF g_law_sign [(getV 0),(getV 1)]) [4,1]) (seqS (setS 5 (getV 4)) (seqS (ifS (tB (bin eqV (bin idxV (getV 0) (getV 1)) (cStr [45]))) (setT (funF g_law_sign [(getV 0),(bin addV (getV 1) (cInt 1))]) [5,1]) nopS) (expS (apdF (getV 3) (tupF [(getV 4),(getV 5)])))))) K) (retS (tupF [(tupF [(getV 2),(getV 3)]),(bin addV (getV 1) (cInt 1))]))))))
theorem b_law_set (cx:Ctx B) (K:Nat) (pm code doc:Value) (L a:Addr):SndB B 2 (env_law_set pm code doc L a) (ps_law_set++ls_law_set) (bodyAt 22) (f_law_set K):=
  (bcons (R.set (At.mk' (i:=2) (k:=.local) nd_law_set rfl (by kernel_rfl) (.inl rfl)) (S.cmp (S.idx (S.name (i:=0) (k:=.local)) (S.binop (S.name (i:=1) (k:=.local)) S.int O.add (by omega)) (fun Z Z=>rfl)) (S.str (by kernel_rfl)) O.eq (by omega) rfl) rfl) (bcons (R.aug (At.mk' (i:=1) (k:=.local) nd_law_set rfl (by kernel_rfl) (.inl rfl)) (S.ife (T.plain (S.name (i:=2) (k:=.local)) (fun Z=>rfl)) S.int S.int) O.iadd (by omega)) (bcons (R.set (At.mk' (i:=3) (k:=.local) nd_law_set rfl (by kernel_rfl) (.inl rfl)) (S.new SndL.nil (by decide)) rfl) (bcons (R.while K (T.or (SndTs.cons (T.cmp (S.idx (S.name (i:=0) (k:=.local)) (S.name (i:=1) (k:=.local)) (fun Z Z=>rfl)) (S.str (by kernel_rfl)) O.ne (by omega) rfl) (SndTs.cons (T.cmp (S.name (i:=3) (k:=.local)) (S.list SndL.nil (by decide)) O.eq (by omega) rfl) SndTs.nil))) (bcons (R.setT (S.fun cx.ok (fn_law_sign cx) (by kernel_rfl) (by kernel_rfl) (SndL.cons (S.name (i:=0) (k:=.local)) stName (SndL.cons (S.name (i:=1) (k:=.local)) stName SndL.nil)) (by omega)) (Ats.cons (At.mk' (i:=4) (k:=.local) nd_law_set rfl (by kernel_rfl) (.inl rfl)) (Ats.cons (At.mk' (i:=1) (k:=.local) nd_law_set rfl (by kernel_rfl) (.inl rfl)) Ats.nil)) (by omega) rfl rfl) (bcons (R.set (At.mk' (i:=5) (k:=.local) nd_law_set rfl (by kernel_rfl) (.inl rfl)) (S.name (i:=4) (k:=.local)) rfl) (bcons (R.ite (T.cmp (S.idx (S.name (i:=0) (k:=.local)) (S.name (i:=1) (k:=.local)) (fun Z Z=>rfl)) (S.str (by kernel_rfl)) O.eq (by omega) rfl) (bone (R.setT (S.fun cx.ok (fn_law_sign cx) (by kernel_rfl) (by kernel_rfl) (SndL.cons (S.name (i:=0) (k:=.local)) stName (SndL.cons (S.binop (S.name (i:=1) (k:=.local)) S.int O.add (by omega)) stBinOp SndL.nil)) (by omega)) (Ats.cons (At.mk' (i:=5) (k:=.local) nd_law_set rfl (by kernel_rfl) (.inl rfl)) (Ats.cons (At.mk' (i:=1) (k:=.local) nd_law_set rfl (by kernel_rfl) (.inl rfl)) Ats.nil)) (by omega) rfl rfl)) bnil) (bone (R.exp (S.append (S.name (i:=3) (k:=.local)) (S.tuple (SndL.cons (S.name (i:=4) (k:=.local)) stName (SndL.cons (S.name (i:=5) (k:=.local)) stName SndL.nil)) (by decide)) rfl rfl rfl (bk1 stTuple)) rfl rfl))))) (by omega)) (bone (R.ret (S.tuple (SndL.cons (S.tuple (SndL.cons (S.name (i:=2) (k:=.local)) stName (SndL.cons (S.name (i:=3) (k:=.local)) stName SndL.nil)) (by decide)) stTuple (SndL.cons (S.binop (S.name (i:=1) (k:=.local)) S.int O.add (by omega)) stBinOp SndL.nil)) (by decide))))))))
noncomputable def g_law_set (K:Nat):FF:=fun xs H=>if xs.length=ps_law_set.length then runF ls_law_set.length (f_law_set K) xs H else none
theorem fn_law_set (cx:Ctx B) (K:Nat):FnS B 3 "_law_set" (g_law_set K):=fnS (x := "_law_set") (params:=argsAt 22) (body:=bodyAt 22) (scope:=scopeAt 22) (ps:=ps_law_set) (ls:=ls_law_set) (f:=f_law_set K) cx.ok (rec_law_set cx) fit_law_set (b_law_set cx K)
theorem rec_law_item (cx:Ctx B):Rec B "_law_item" (argsAt 23) (bodyAt 23) (scopeAt 23):=recAt cx (by kernel_rfl) (by kernel_rfl)
noncomputable abbrev ps_law_item:List Str:=["part"]
noncomputable abbrev ls_law_item:List Str:=["item", "k", "sign"]
theorem nd_law_item:(ps_law_item++ls_law_item).Nodup:=by decide +kernel
noncomputable abbrev env_law_item (pm code doc:Value) (L a:Addr):Env:=callEnvC (docDef "_law_item" (argsAt 23) (bodyAt 23) (scopeAt 23) pm code doc) L a
theorem fit_law_item:Fit (argsAt 23) (scopeAt 23) ps_law_item ls_law_item where
  co:=by kernel_rfl
  ge:=by kernel_rfl
  ki:=by kernel_rfl
  nd:=nd_law_item
  pk:=by decide +kernel
  nf:=by decide +kernel
  bi:=fun Z Z Z Z Z=>vl1 fun Z=>by kernel_rfl
noncomputable def f_law_item (K:Nat):FS:=(seqS (ifS (tB (bin eqV (getV 0) (cStr [46]))) (retS (tupF [(cBool true),(lstF [])])) nopS) (seqS (ifS (tB (bin eqV (getV 0) (cStr [40,63,33,41]))) (retS (tupF [(cBool false),(lstF [])])) nopS) (seqS (ifS (tB (bin eqV (bin idxV (getV 0) (cInt 0)) (cStr [91]))) (setT (funF (g_law_set K) [(getV 0),(cInt 0)]) [1,2]) (seqS (setT (funF g_law_sign [(getV 0),(cInt 0)]) [3,2]) (setS 1 (tupF [(cBool false),(lstF [(tupF [(getV 3),(getV 3)])])])))) (retS (ifE (tB (bin eqV (getV 2) (calF lenG [(getV 0)]))) (getV 1) (tupF [(cBool false),(lstF [])]))))))
theorem b_law_item (cx:Ctx B) (K:Nat) (pm code doc:Value) (L a:Addr):SndB B 3 (env_law_item pm code doc L a) (ps_law_item++ls_law_item) (bodyAt 23) (f_law_item K):=
  (bcons (R.ite (T.cmp (S.name (i:=0) (k:=.local)) (S.str (by kernel_rfl)) O.eq (by omega) rfl) (bone (R.ret (S.tuple (SndL.cons S.bool stConstant (SndL.cons (S.list SndL.nil (by decide)) stList SndL.nil)) (by decide)))) bnil) (bcons (R.ite (T.cmp (S.name (i:=0) (k:=.local)) (S.str (by kernel_rfl)) O.eq (by omega) rfl) (bone (R.ret (S.tuple (SndL.cons S.bool stConstant (SndL.cons (S.list SndL.nil (by decide)) stList SndL.nil)) (by decide)))) bnil) (bcons (R.ite (T.cmp (S.idx (S.name (i:=0) (k:=.local)) S.int (fun Z Z=>rfl)) (S.str (by kernel_rfl)) O.eq (by omega) rfl) (bone (R.setT (S.fun cx.ok (fn_law_set cx K) (by kernel_rfl) (by kernel_rfl) (SndL.cons (S.name (i:=0) (k:=.local)) stName (SndL.cons S.int stConstant SndL.nil)) (by omega)) (Ats.cons (At.mk' (i:=1) (k:=.local) nd_law_item rfl (by kernel_rfl) (.inl rfl)) (Ats.cons (At.mk' (i:=2) (k:=.local) nd_law_item rfl (by kernel_rfl) (.inl rfl)) Ats.nil)) (by omega) rfl rfl)) (bcons (R.setT (S.fun cx.ok (fn_law_sign cx) (by kernel_rfl) (by kernel_rfl) (SndL.cons (S.name (i:=0) (k:=.local)) stName (SndL.cons S.int stConstant SndL.nil)) (by omega)) (Ats.cons (At.mk' (i:=3) (k:=.local) nd_law_item rfl (by kernel_rfl) (.inl rfl)) (Ats.cons (At.mk' (i:=2) (k:=.local) nd_law_item rfl (by kernel_rfl) (.inl rfl)) Ats.nil)) (by omega) rfl rfl) (bone (R.set (At.mk' (i:=1) (k:=.local) nd_law_item rfl (by kernel_rfl) (.inl rfl)) (S.tuple (SndL.cons S.bool stConstant (SndL.cons (S.list (SndL.cons (S.tuple (SndL.cons (S.name (i:=3) (k:=.local)) stName (SndL.cons (S.name (i:=3) (k:=.local)) stName SndL.nil)) (by decide)) stTuple SndL.nil) (by decide)) stList SndL.nil)) (by decide)) rfl)))) (bone (R.ret (S.ife (T.cmp (S.name (i:=2) (k:=.local)) (S.call cx.ok ⟨by kernel_rfl,cx.bm.len,by decide +kernel,by decide +kernel,by kernel_rfl,rfl⟩ (SndL.cons (S.name (i:=0) (k:=.local)) stName SndL.nil) O.len (by omega)) O.eq (by omega) rfl) (S.name (i:=1) (k:=.local)) (S.tuple (SndL.cons S.bool stConstant (SndL.cons (S.list SndL.nil (by decide)) stList SndL.nil)) (by decide))))))))
noncomputable def g_law_item (K:Nat):FF:=fun xs H=>if xs.length=ps_law_item.length then runF ls_law_item.length (f_law_item K) xs H else none
theorem fn_law_item (cx:Ctx B) (K:Nat):FnS B 4 "_law_item" (g_law_item K):=fnS (x := "_law_item") (params:=argsAt 23) (body:=bodyAt 23) (scope:=scopeAt 23) (ps:=ps_law_item) (ls:=ls_law_item) (f:=f_law_item K) cx.ok (rec_law_item cx) fit_law_item (b_law_item cx K)
theorem rec_law_fits (cx:Ctx B):Rec B "_law_fits" (argsAt 27) (bodyAt 27) (scopeAt 27):=recAt cx (by kernel_rfl) (by kernel_rfl)
noncomputable abbrev ps_law_fits:List Str:=["item", "sign"]
noncomputable abbrev ls_law_fits:List Str:=[]
theorem nd_law_fits:(ps_law_fits++ls_law_fits).Nodup:=by decide +kernel
noncomputable abbrev env_law_fits (pm code doc:Value) (L a:Addr):Env:=callEnvC (docDef "_law_fits" (argsAt 27) (bodyAt 27) (scopeAt 27) pm code doc) L a
theorem fit_law_fits:Fit (argsAt 27) (scopeAt 27) ps_law_fits ls_law_fits where
  co:=by kernel_rfl
  ge:=by kernel_rfl
  ki:=by kernel_rfl
  nd:=nd_law_fits
  pk:=by decide +kernel
  nf:=by decide +kernel
  bi:=fun Z Z Z Z Z=>vl2 fun Z Z=>by kernel_rfl
noncomputable def f_law_fits:FS:=(retS (bin neV (bin neV (compF (noL (itF (bin idxV (getV 0) (cInt 1)))) 2 [1] (leafC (getV 0)) (tgT [0,1]) [(tChain leV leV (getV 0) (getV 2) (getV 1))]) (lstF [])) (bin idxV (getV 0) (cInt 0))))
theorem b_law_fits (cx:Ctx B) (pm code doc:Value) (L a:Addr):SndB B 1 (env_law_fits pm code doc L a) (ps_law_fits++ls_law_fits) (bodyAt 27) (f_law_fits):=
  (bone (R.ret (S.cmp (S.cmp (S.comp (CompOk.mk (cl:=[(("sign" : Str),((env_law_fits pm code doc L a).cells.lookup ("sign" : Str)).getD 0)]) (ts:=["low", "high"]) (fs:=[("sign",1)]) (CFit.mk (by kernel_rfl) (by kernel_rfl) (by decide +kernel) (by decide +kernel) (by intro y hy;(rcases List.mem_cons.mp hy with rfl | hy;· kernel_rfl);(rcases List.mem_cons.mp hy with rfl | hy;· kernel_rfl);cases hy) (by intro y j hy;(rcases List.mem_cons.mp hy with hy | hy;· obtain ⟨rfl,rfl⟩:=Prod.mk.inj hy;exact ⟨rfl,.inl (by kernel_rfl),by kernel_rfl⟩);cases hy) (by intro y j hy;(rcases List.mem_cons.mp hy with hy | hy;· obtain ⟨rfl,rfl⟩:=Prod.mk.inj hy;exact .inl (by kernel_rfl));cases hy) (by intro y c hy;have hy:=lookup_mem hy;(rcases List.mem_cons.mp hy with hy | hy;· obtain ⟨rfl,rfl⟩:=Prod.mk.inj hy;kernel_rfl);cases hy) (show (["sign"]:List Str).Nodup by decide +kernel)) ⟨_,_,_,_,fun Z Z Z=>rfl,fun Z=>(GL.tuple (AtLs.cons (AtL.mk' (i:=0) (by decide +kernel) rfl (by kernel_rfl)) (AtLs.cons (AtL.mk' (i:=1) (by decide +kernel) rfl (by kernel_rfl)) AtLs.nil))),fun Z=>(SndTs.cons (T.chain (S.name (i:=0) (k:=.local)) (S.name (i:=2) (k:=.cell)) (S.name (i:=1) (k:=.local)) O.le O.le (by omega) rfl) SndTs.nil),fun Z Z=>(emit_leaf (S.name (i:=0) (k:=.local)))⟩ rfl) (J.of (I.list (S.idx (S.name (i:=0) (k:=.local)) S.int (fun Z Z=>rfl)))) noL_ok (by omega) (fun Z=>rfl)) (S.list SndL.nil (by decide)) O.ne (by omega) rfl) (S.idx (S.name (i:=0) (k:=.local)) S.int (fun Z Z=>rfl)) O.ne (by omega) rfl)))
noncomputable def g_law_fits:FF:=fun xs H=>if xs.length=ps_law_fits.length then runF ls_law_fits.length (f_law_fits) xs H else none
theorem fn_law_fits (cx:Ctx B):FnS B 2 "_law_fits" (g_law_fits):=fnS (x := "_law_fits") (params:=argsAt 27) (body:=bodyAt 27) (scope:=scopeAt 27) (ps:=ps_law_fits) (ls:=ls_law_fits) (f:=f_law_fits) cx.ok (rec_law_fits cx) fit_law_fits (b_law_fits cx)
theorem rec_law_open (cx:Ctx B):Rec B "_law_open" (argsAt 28) (bodyAt 28) (scopeAt 28):=recAt cx (by kernel_rfl) (by kernel_rfl)
noncomputable abbrev ps_law_open:List Str:=["row", "places"]
noncomputable abbrev ls_law_open:List Str:=["opened", "p"]
theorem nd_law_open:(ps_law_open++ls_law_open).Nodup:=by decide +kernel
noncomputable abbrev env_law_open (pm code doc:Value) (L a:Addr):Env:=callEnvC (docDef "_law_open" (argsAt 28) (bodyAt 28) (scopeAt 28) pm code doc) L a
theorem fit_law_open:Fit (argsAt 28) (scopeAt 28) ps_law_open ls_law_open where
  co:=by kernel_rfl
  ge:=by kernel_rfl
  ki:=by kernel_rfl
  nd:=nd_law_open
  pk:=by decide +kernel
  nf:=by decide +kernel
  bi:=fun Z Z Z Z Z=>vl2 fun Z Z=>by kernel_rfl
noncomputable def f_law_open:FS:=(seqS (setS 2 (newF [])) (seqS (frS (rngF [(bin addV (calF lenG [(getV 0)]) (cInt 1))]) (tgN 3) (ifS (tOr [(tB (bin inV (getV 3) (getV 1))),(tAnd [(tB (bin inV (bin subV (getV 3) (cInt 1)) (getV 2))),(tB (bin isV (bin idxV (getV 0) (bin subV (getV 3) (cInt 1))) cNone))])]) (expS (apdF (getV 2) (getV 3))) nopS)) (retS (getV 2))))
theorem b_law_open (cx:Ctx B) (pm code doc:Value) (L a:Addr):SndB B 1 (env_law_open pm code doc L a) (ps_law_open++ls_law_open) (bodyAt 28) (f_law_open):=
  (bcons (R.set (At.mk' (i:=2) (k:=.local) nd_law_open rfl (by kernel_rfl) (.inl rfl)) (S.new SndL.nil (by decide)) rfl) (bcons (R.for (I.range cx.ok ⟨by kernel_rfl,cx.bm.range,by decide +kernel,by decide +kernel,by kernel_rfl,rfl⟩ (SndL.cons (S.binop (S.call cx.ok ⟨by kernel_rfl,cx.bm.len,by decide +kernel,by decide +kernel,by kernel_rfl,rfl⟩ (SndL.cons (S.name (i:=0) (k:=.local)) stName SndL.nil) O.len (by omega)) S.int O.add (by omega)) stBinOp SndL.nil)) (G.name (At.mk' (i:=3) (k:=.local) nd_law_open rfl (by kernel_rfl) (.inl rfl))) (bone (R.ite (T.or (SndTs.cons (T.cmp (S.name (i:=3) (k:=.local)) (S.name (i:=1) (k:=.local)) O.inn (by omega) rfl) (SndTs.cons (T.and (SndTs.cons (T.cmp (S.binop (S.name (i:=3) (k:=.local)) S.int O.sub (by omega)) (S.name (i:=2) (k:=.local)) O.inn (by omega) rfl) (SndTs.cons (T.cmp (S.idx (S.name (i:=0) (k:=.local)) (S.binop (S.name (i:=3) (k:=.local)) S.int O.sub (by omega)) (fun Z Z=>rfl)) S.none O.is (by omega) rfl) SndTs.nil))) SndTs.nil))) (bone (R.exp (S.append (S.name (i:=2) (k:=.local)) (S.name (i:=3) (k:=.local)) rfl rfl rfl (bk1 stName)) rfl rfl)) bnil)) (by omega) (fun Z=>rfl)) (bone (R.ret (S.name (i:=2) (k:=.local))))))
noncomputable def g_law_open:FF:=fun xs H=>if xs.length=ps_law_open.length then runF ls_law_open.length (f_law_open) xs H else none
theorem fn_law_open (cx:Ctx B):FnS B 2 "_law_open" (g_law_open):=fnS (x := "_law_open") (params:=argsAt 28) (body:=bodyAt 28) (scope:=scopeAt 28) (ps:=ps_law_open) (ls:=ls_law_open) (f:=f_law_open) cx.ok (rec_law_open cx) fit_law_open (b_law_open cx)
theorem rec_law_onward (cx:Ctx B):Rec B "_law_onward" (argsAt 29) (bodyAt 29) (scopeAt 29):=recAt cx (by kernel_rfl) (by kernel_rfl)
noncomputable abbrev ps_law_onward:List Str:=["row", "places", "sign"]
noncomputable abbrev ls_law_onward:List Str:=["reached", "p"]
theorem nd_law_onward:(ps_law_onward++ls_law_onward).Nodup:=by decide +kernel
noncomputable abbrev env_law_onward (pm code doc:Value) (L a:Addr):Env:=callEnvC (docDef "_law_onward" (argsAt 29) (bodyAt 29) (scopeAt 29) pm code doc) L a
theorem fit_law_onward:Fit (argsAt 29) (scopeAt 29) ps_law_onward ls_law_onward where
  co:=by kernel_rfl
  ge:=by kernel_rfl
  ki:=by kernel_rfl
  nd:=nd_law_onward
  pk:=by decide +kernel
  nf:=by decide +kernel
  bi:=fun Z Z Z Z Z=>vl3 fun Z Z Z=>by kernel_rfl
noncomputable def f_law_onward:FS:=(seqS (setS 3 (newF [])) (seqS (frS (itF (getV 1)) (tgN 4) (ifS (tAnd [(tB (bin ltV (getV 4) (calF lenG [(getV 0)]))),(tB (bin isV (bin idxV (getV 0) (getV 4)) cNone))]) (expS (apdF (getV 3) (getV 4))) (ifS (tAnd [(tB (bin ltV (getV 4) (calF lenG [(getV 0)]))),(tB (funF g_law_fits [(bin idxV (getV 0) (getV 4)),(getV 2)]))]) (expS (apdF (getV 3) (bin addV (getV 4) (cInt 1)))) nopS))) (retS (funcG g_law_open [(getV 0),(getV 3)]))))
theorem b_law_onward (cx:Ctx B) (pm code doc:Value) (L a:Addr):SndB B 2 (env_law_onward pm code doc L a) (ps_law_onward++ls_law_onward) (bodyAt 29) (f_law_onward):=
  (bcons (R.set (At.mk' (i:=3) (k:=.local) nd_law_onward rfl (by kernel_rfl) (.inl rfl)) (S.new SndL.nil (by decide)) rfl) (bcons (R.for (I.list (S.name (i:=1) (k:=.local))) (G.name (At.mk' (i:=4) (k:=.local) nd_law_onward rfl (by kernel_rfl) (.inl rfl))) (bone (R.ite (T.and (SndTs.cons (T.cmp (S.name (i:=4) (k:=.local)) (S.call cx.ok ⟨by kernel_rfl,cx.bm.len,by decide +kernel,by decide +kernel,by kernel_rfl,rfl⟩ (SndL.cons (S.name (i:=0) (k:=.local)) stName SndL.nil) O.len (by omega)) O.lt (by omega) rfl) (SndTs.cons (T.cmp (S.idx (S.name (i:=0) (k:=.local)) (S.name (i:=4) (k:=.local)) (fun Z Z=>rfl)) S.none O.is (by omega) rfl) SndTs.nil))) (bone (R.exp (S.append (S.name (i:=3) (k:=.local)) (S.name (i:=4) (k:=.local)) rfl rfl rfl (bk1 stName)) rfl rfl)) (bone (R.ite (T.and (SndTs.cons (T.cmp (S.name (i:=4) (k:=.local)) (S.call cx.ok ⟨by kernel_rfl,cx.bm.len,by decide +kernel,by decide +kernel,by kernel_rfl,rfl⟩ (SndL.cons (S.name (i:=0) (k:=.local)) stName SndL.nil) O.len (by omega)) O.lt (by omega) rfl) (SndTs.cons (T.plain (S.fun cx.ok (fn_law_fits cx) (by kernel_rfl) (by kernel_rfl) (SndL.cons (S.idx (S.name (i:=0) (k:=.local)) (S.name (i:=4) (k:=.local)) (fun Z Z=>rfl)) stSubscript (SndL.cons (S.name (i:=2) (k:=.local)) stName SndL.nil)) (by omega)) (fun Z=>rfl)) SndTs.nil))) (bone (R.exp (S.append (S.name (i:=3) (k:=.local)) (S.binop (S.name (i:=4) (k:=.local)) S.int O.add (by omega)) rfl rfl rfl (bk1 stBinOp)) rfl rfl)) bnil)))) (by omega) (fun Z=>rfl)) (bone (R.ret (S.callG cx.ok (fn_law_open cx) (by kernel_rfl) (by kernel_rfl) (SndL.cons (S.name (i:=0) (k:=.local)) stName (SndL.cons (S.name (i:=3) (k:=.local)) stName SndL.nil)) (by omega))))))
noncomputable def g_law_onward:FF:=fun xs H=>if xs.length=ps_law_onward.length then runF ls_law_onward.length (f_law_onward) xs H else none
theorem fn_law_onward (cx:Ctx B):FnS B 3 "_law_onward" (g_law_onward):=fnS (x := "_law_onward") (params:=argsAt 29) (body:=bodyAt 29) (scope:=scopeAt 29) (ps:=ps_law_onward) (ls:=ls_law_onward) (f:=f_law_onward) cx.ok (rec_law_onward cx) fit_law_onward (b_law_onward cx)
theorem rec_law_begun (cx:Ctx B):Rec B "_law_begun" (argsAt 33) (bodyAt 33) (scopeAt 33):=recAt cx (by kernel_rfl) (by kernel_rfl)
noncomputable abbrev ps_law_begun:List Str:=["items", "name"]
noncomputable abbrev ls_law_begun:List Str:=[]
theorem nd_law_begun:(ps_law_begun++ls_law_begun).Nodup:=by decide +kernel
noncomputable abbrev env_law_begun (pm code doc:Value) (L a:Addr):Env:=callEnvC (docDef "_law_begun" (argsAt 33) (bodyAt 33) (scopeAt 33) pm code doc) L a
theorem fit_law_begun:Fit (argsAt 33) (scopeAt 33) ps_law_begun ls_law_begun where
  co:=by kernel_rfl
  ge:=by kernel_rfl
  ki:=by kernel_rfl
  nd:=nd_law_begun
  pk:=by decide +kernel
  nf:=by decide +kernel
  bi:=fun Z Z Z Z Z=>vl2 fun Z Z=>by kernel_rfl
noncomputable def f_law_begun:FS:=(retS (bin neV (compF (noL (rngF [(bin addV (calF lenG [(getV 0)]) (cInt 1))])) 1 [0,1] (leafC (getV 0)) (tgN 0) [(tB (funF (g_law_takes 20) [(slc (getV 1) cNone (getV 0)),(getV 2)]))]) (lstF [])))
theorem b_law_begun (cx:Ctx B) (pm code doc:Value) (L a:Addr):SndB B 22 (env_law_begun pm code doc L a) (ps_law_begun++ls_law_begun) (bodyAt 33) (f_law_begun):=
  (bone (R.ret (S.cmp (S.comp (CompOk.mk (cl:=[(("name" : Str),((env_law_begun pm code doc L a).cells.lookup ("name" : Str)).getD 0),(("items" : Str),((env_law_begun pm code doc L a).cells.lookup ("items" : Str)).getD 0)]) (ts:=["p"]) (fs:=[("items",0),("name",1)]) (CFit.mk (by kernel_rfl) (by kernel_rfl) (by decide +kernel) (by decide +kernel) (by intro y hy;(rcases List.mem_cons.mp hy with rfl | hy;· kernel_rfl);cases hy) (by intro y j hy;(rcases List.mem_cons.mp hy with hy | hy;· obtain ⟨rfl,rfl⟩:=Prod.mk.inj hy;exact ⟨rfl,.inl (by kernel_rfl),by kernel_rfl⟩);(rcases List.mem_cons.mp hy with hy | hy;· obtain ⟨rfl,rfl⟩:=Prod.mk.inj hy;exact ⟨rfl,.inl (by kernel_rfl),by kernel_rfl⟩);cases hy) (by intro y j hy;(rcases List.mem_cons.mp hy with hy | hy;· obtain ⟨rfl,rfl⟩:=Prod.mk.inj hy;exact .inl (by kernel_rfl));(rcases List.mem_cons.mp hy with hy | hy;· obtain ⟨rfl,rfl⟩:=Prod.mk.inj hy;exact .inl (by kernel_rfl));cases hy) (by intro y c hy;have hy:=lookup_mem hy;(rcases List.mem_cons.mp hy with hy | hy;· obtain ⟨rfl,rfl⟩:=Prod.mk.inj hy;kernel_rfl);(rcases List.mem_cons.mp hy with hy | hy;· obtain ⟨rfl,rfl⟩:=Prod.mk.inj hy;kernel_rfl);cases hy) (show (["name", "items"]:List Str).Nodup by decide +kernel)) ⟨_,_,_,_,fun Z Z Z=>rfl,fun Z=>(GL.name (AtL.mk' (i:=0) (by decide +kernel) rfl (by kernel_rfl))),fun Z=>(SndTs.cons (T.plain (S.fun cx.ok (fn_law_takes cx 20) (by kernel_rfl) (by kernel_rfl) (SndL.cons (S.slice (S.name (i:=1) (k:=.cell)) SndP.none (SndP.some (S.name (i:=0) (k:=.local)))) stSubscript (SndL.cons (S.name (i:=2) (k:=.cell)) stName SndL.nil)) (by omega)) (fun Z=>rfl)) SndTs.nil),fun Z Z=>(emit_leaf (S.name (i:=0) (k:=.local)))⟩ rfl) (J.of (I.range cx.ok ⟨by kernel_rfl,cx.bm.range,by decide +kernel,by decide +kernel,by kernel_rfl,rfl⟩ (SndL.cons (S.binop (S.call cx.ok ⟨by kernel_rfl,cx.bm.len,by decide +kernel,by decide +kernel,by kernel_rfl,rfl⟩ (SndL.cons (S.name (i:=0) (k:=.cell)) stName SndL.nil) O.len (by omega)) S.int O.add (by omega)) stBinOp SndL.nil))) noL_ok (by omega) (fun Z=>rfl)) (S.list SndL.nil (by decide)) O.ne (by omega) rfl)))
noncomputable def g_law_begun:FF:=fun xs H=>if xs.length=ps_law_begun.length then runF ls_law_begun.length (f_law_begun) xs H else none
theorem fn_law_begun (cx:Ctx B):FnS B 23 "_law_begun" (g_law_begun):=fnS (x := "_law_begun") (params:=argsAt 33) (body:=bodyAt 33) (scope:=scopeAt 33) (ps:=ps_law_begun) (ls:=ls_law_begun) (f:=f_law_begun) cx.ok (rec_law_begun cx) fit_law_begun (b_law_begun cx)
end
section
set_option maxHeartbeats 4000000
variable {B:Base}
theorem rec_law_pieces (cx:Ctx B):Rec B "_law_pieces" (argsAt 18) (bodyAt 18) (scopeAt 18):=recAt cx (by kernel_rfl) (by kernel_rfl)
noncomputable abbrev ps_law_pieces:List Str:=[]
noncomputable abbrev ls_law_pieces:List Str:=[]
theorem nd_law_pieces:(ps_law_pieces++ls_law_pieces).Nodup:=by decide +kernel
noncomputable abbrev env_law_pieces (pm code doc:Value) (L a:Addr):Env:=callEnvC (docDef "_law_pieces" (argsAt 18) (bodyAt 18) (scopeAt 18) pm code doc) L a
theorem fit_law_pieces:Fit (argsAt 18) (scopeAt 18) ps_law_pieces ls_law_pieces where
  co:=by kernel_rfl
  ge:=by kernel_rfl
  ki:=by kernel_rfl
  nd:=nd_law_pieces
  pk:=by decide +kernel
  nf:=by decide +kernel
  bi:=fun Z Z Z Z Z=>vl0 (by kernel_rfl)
noncomputable def pieces:List V:=[.tup [.str [42],.none],.tup [.str [42],.none],.tup [.str [42],.none],.tup [.str [42],.none],.tup [.str [63],.tup [.bool true,.str []]],.tup [.str [97],.tup [.bool false,.str [97]]],.tup [.str [97],.tup [.bool false,.str [97]]],.tup [.str [38],.tup [.bool false,.str [38]]],.tup [.str [45],.tup [.bool false,.str [45]]],.tup [.str [33],.tup [.bool false,.str [33]]],.tup [.str [91,97,38,93],.tup [.bool false,.str [97,38]]],.tup [.str [91,33,38,93],.tup [.bool true,.str [38]]],.tup [.str [91,38,38,93],.tup [.bool false,.str [38]]],.tup [.str [91,33,97,93],.tup [.bool true,.str [97]]],.tup [.str [91,97,45,93],.tup [.bool false,.str [97,45]]],.tup [.str [91,33,45,93],.tup [.bool true,.str [45]]],.tup [.str [91,33,33,93],.tup [.bool true,.str [33]]],.tup [.str [91,38,45,97,93],.tup [.bool false,.str [38,45,97]]],.tup [.str [91,97,45,38,93],.tup [.bool false,.str []]],.tup [.str [91,33,97,45,38,93],.tup [.bool true,.str []]]]
noncomputable def es_law_pieces:List PySem.Expr:=match bodyAt 18 with
  |[.Return (some (.List es _)) _]=>es
  |_=>[]
noncomputable def lp_law_pieces:Pos:=⟨154,11,154,428⟩
noncomputable def rp_law_pieces:Pos:=⟨154,4,154,428⟩
theorem body_law_pieces:bodyAt 18=[.Return (some (.List es_law_pieces lp_law_pieces)) rp_law_pieces]:=by kernel_rfl
theorem cv_law_pieces:cvs es_law_pieces=some pieces:=by kernel_rfl
theorem cl_law_pieces:(pieces.map kF).length≤64:=by rw [List.length_map];decide
noncomputable def f_law_pieces:FS:=retS (lstF (pieces.map kF))
theorem b_law_pieces:Bdy B 1 "_law_pieces" (argsAt 18) (bodyAt 18) (scopeAt 18) ps_law_pieces ls_law_pieces f_law_pieces:=⟨fun pm code doc L a=>@SndB.cast B 1 (env_law_pieces pm code doc L a) (ps_law_pieces++ls_law_pieces) _ _ _ body_law_pieces (@gen_pieces B (env_law_pieces pm code doc L a) (ps_law_pieces++ls_law_pieces) es_law_pieces pieces lp_law_pieces rp_law_pieces cv_law_pieces cl_law_pieces)⟩
noncomputable def g_law_pieces:FF:=fun xs H=>if xs.length=ps_law_pieces.length then runF ls_law_pieces.length (f_law_pieces) xs H else none
theorem fn_law_pieces (cx:Ctx B):FnS B 2 "_law_pieces" (g_law_pieces):=fnSB (x := "_law_pieces") (params:=argsAt 18) (body:=bodyAt 18) (scope:=scopeAt 18) (ps:=ps_law_pieces) (ls:=ls_law_pieces) (f:=f_law_pieces) cx.ok (rec_law_pieces cx) fit_law_pieces b_law_pieces
theorem rec_law_items (cx:Ctx B):Rec B "_law_items" (argsAt 20) (bodyAt 20) (scopeAt 20):=recAt cx (by kernel_rfl) (by kernel_rfl)
noncomputable abbrev ps_law_items:List Str:=["numbers"]
noncomputable abbrev ls_law_items:List Str:=["digits", "x"]
theorem nd_law_items:(ps_law_items++ls_law_items).Nodup:=by decide +kernel
noncomputable abbrev env_law_items (pm code doc:Value) (L a:Addr):Env:=callEnvC (docDef "_law_items" (argsAt 20) (bodyAt 20) (scopeAt 20) pm code doc) L a
theorem fit_law_items:Fit (argsAt 20) (scopeAt 20) ps_law_items ls_law_items where
  co:=by kernel_rfl
  ge:=by kernel_rfl
  ki:=by kernel_rfl
  nd:=nd_law_items
  pk:=by decide +kernel
  nf:=by decide +kernel
  bi:=fun Z Z Z Z Z=>vl1 fun Z=>by kernel_rfl
noncomputable def f_law_items:FS:=(seqS (setS 1 (newF [])) (seqS (frS (itF (getV 0)) (tgN 2) (expS (exdF (getV 1) [(bin modV (getV 2) (cInt 22)),(bin modV (bin divV (getV 2) (cInt 22)) (cInt 22))]))) (retS (compF (celF (getV 1)) 1 [] (leafC (bin idxV (funF g_law_pieces []) (getV 0))) (tgN 0) [(tB (bin ltV (getV 0) (cInt 20)))]))))
theorem b_law_items (cx:Ctx B) (pm code doc:Value) (L a:Addr):SndB B 2 (env_law_items pm code doc L a) (ps_law_items++ls_law_items) (bodyAt 20) (f_law_items):=
  (bcons (R.set (At.mk' (i:=1) (k:=.local) nd_law_items rfl (by kernel_rfl) (.inl rfl)) (S.new SndL.nil (by decide)) rfl) (bcons (R.for (I.list (S.name (i:=0) (k:=.local))) (G.name (At.mk' (i:=2) (k:=.local) nd_law_items rfl (by kernel_rfl) (.inl rfl))) (bone (R.exp (S.ext (S.name (i:=1) (k:=.local)) (SndL.cons (S.binop (S.name (i:=2) (k:=.local)) S.int O.mod (by omega)) stBinOp (SndL.cons (S.binop (S.binop (S.name (i:=2) (k:=.local)) S.int O.div (by omega)) S.int O.mod (by omega)) stBinOp SndL.nil)) (by decide) rfl ⟨rfl,rfl,rfl⟩) rfl rfl)) (by omega) (fun Z=>rfl)) (bone (R.ret (S.comp (CompOk.mk (cl:=[]) (ts:=["digit"]) (fs:=[]) (CFit.mk (by kernel_rfl) (by kernel_rfl) (by decide +kernel) (by decide +kernel) (by intro y hy;(rcases List.mem_cons.mp hy with rfl | hy;· kernel_rfl);cases hy) (by intro y j hy;cases hy) (by intro y j hy;cases hy) (by intro y c hy;have hy:=lookup_mem hy;cases hy) (show ([]:List Str).Nodup by decide +kernel)) ⟨_,_,_,_,fun Z Z Z=>rfl,fun Z=>(GL.name (AtL.mk' (i:=0) (by decide +kernel) rfl (by kernel_rfl))),fun Z=>(SndTs.cons (T.cmp (S.name (i:=0) (k:=.local)) S.int O.lt (by omega) rfl) SndTs.nil),fun Z Z=>(emit_leaf (S.idx (S.fun cx.ok (fn_law_pieces cx) (by kernel_rfl) (by kernel_rfl) SndL.nil (by omega)) (S.name (i:=0) (k:=.local)) (fun Z Z=>rfl)))⟩ rfl) (J.cell (S.name (i:=1) (k:=.local))) celF_ok (by omega) (fun Z=>rfl))))))
noncomputable def g_law_items:FF:=fun xs H=>if xs.length=ps_law_items.length then runF ls_law_items.length (f_law_items) xs H else none
theorem fn_law_items (cx:Ctx B):FnS B 3 "_law_items" (g_law_items):=fnS (x := "_law_items") (params:=argsAt 20) (body:=bodyAt 20) (scope:=scopeAt 20) (ps:=ps_law_items) (ls:=ls_law_items) (f:=f_law_items) cx.ok (rec_law_items cx) fit_law_items (b_law_items cx)
theorem rec_join_translated_parts (cx:Ctx B):Rec B "_join_translated_parts" (argsAt 16) (bodyAt 16) (scopeAt 16):=recAt cx (by kernel_rfl) (by kernel_rfl)
noncomputable abbrev ps_join_translated_parts:List Str:=["inp", "STAR"]
noncomputable abbrev ls_join_translated_parts:List Str:=["res", "add", "i", "n", "fixed"]
theorem nd_join_translated_parts:(ps_join_translated_parts++ls_join_translated_parts).Nodup:=by decide +kernel
noncomputable abbrev env_join_translated_parts (pm code doc:Value) (L a:Addr):Env:=callEnvC (docDef "_join_translated_parts" (argsAt 16) (bodyAt 16) (scopeAt 16) pm code doc) L a
theorem fit_join_translated_parts:Fit (argsAt 16) (scopeAt 16) ps_join_translated_parts ls_join_translated_parts where
  co:=by kernel_rfl
  ge:=by kernel_rfl
  ki:=by kernel_rfl
  nd:=nd_join_translated_parts
  pk:=by decide +kernel
  nf:=by decide +kernel
  bi:=fun Z Z Z Z Z=>vl2 fun Z Z=>by kernel_rfl
noncomputable def f_join_translated_parts (K:Nat):FS:=(seqS (setS 2 (newF [])) (seqS (setS 3 (bndF (getV 2))) (seqS (setSw (tupF [(cInt 0),(calF lenG [(getV 0)])]) [4,5]) (seqS (whileS (tAnd [(tB (bin ltV (getV 4) (getV 5))),(tB (bin isNotV (bin idxV (getV 0) (getV 4)) (getV 1)))]) (seqS (expS (addF 3 (bin idxV (getV 0) (getV 4)))) (augS 4 iaddV (cInt 1))) K) (seqS (whileS (tB (bin ltV (getV 4) (getV 5))) (seqS (asrS (tB (bin isV (bin idxV (getV 0) (getV 4)) (getV 1)))) (seqS (augS 4 iaddV (cInt 1)) (seqS (ifS (tB (bin eqV (getV 4) (getV 5))) (seqS (expS (addF 3 (cStr [46,42]))) brkS) nopS) (seqS (asrS (tB (bin isNotV (bin idxV (getV 0) (getV 4)) (getV 1)))) (seqS (setS 6 (newF [])) (seqS (whileS (tAnd [(tB (bin ltV (getV 4) (getV 5))),(tB (bin isNotV (bin idxV (getV 0) (getV 4)) (getV 1)))]) (seqS (expS (apdF (getV 6) (bin idxV (getV 0) (getV 4)))) (augS 4 iaddV (cInt 1))) K) (seqS (setS 6 (smF joinG (cStr []) [(getV 6)])) (ifS (tB (bin eqV (getV 4) (getV 5))) (seqS (expS (addF 3 (cStr [46,42]))) (expS (addF 3 (getV 6)))) (expS (addF 3 (fsF [(cStr [40,63,62,46,42,63]),(fmtF (getV 6)),(cStr [41])] []))))))))))) K) (seqS (asrS (tB (bin eqV (getV 4) (getV 5)))) (seqS (setS 2 (smF joinG (cStr []) [(getV 2)])) (retS (fsF [(cStr [40,63,115,58]),(fmtF (getV 2)),(cStr [41,92,90])] [])))))))))
theorem b_join_translated_parts (cx:Ctx B) (K:Nat) (pm code doc:Value) (L a:Addr):SndB B 1 (env_join_translated_parts pm code doc L a) (ps_join_translated_parts++ls_join_translated_parts) (bodyAt 16) (f_join_translated_parts K):=
  (bcons (R.set (At.mk' (i:=2) (k:=.local) nd_join_translated_parts rfl (by kernel_rfl) (.inl rfl)) (S.new SndL.nil (by decide)) rfl) (bcons (R.set (At.mk' (i:=3) (k:=.local) nd_join_translated_parts rfl (by kernel_rfl) (.inl rfl)) (S.bound (S.name (i:=2) (k:=.local)) rfl) rfl) (bcons (R.setSw (S.tuple (SndL.cons S.int stConstant (SndL.cons (S.call cx.ok ⟨by kernel_rfl,cx.bm.len,by decide +kernel,by decide +kernel,by kernel_rfl,rfl⟩ (SndL.cons (S.name (i:=0) (k:=.local)) stName SndL.nil) O.len (by omega)) stCall SndL.nil)) (by decide)) (At.mk' (i:=4) (k:=.local) nd_join_translated_parts rfl (by kernel_rfl) (.inl rfl)) (At.mk' (i:=5) (k:=.local) nd_join_translated_parts rfl (by kernel_rfl) (.inl rfl)) rfl (by kernel_rfl)) (bcons (R.while K (T.and (SndTs.cons (T.cmp (S.name (i:=4) (k:=.local)) (S.name (i:=5) (k:=.local)) O.lt (by omega) rfl) (SndTs.cons (T.cmp (S.idx (S.name (i:=0) (k:=.local)) (S.name (i:=4) (k:=.local)) (fun Z Z=>rfl)) (S.name (i:=1) (k:=.local)) O.isNot (by omega) rfl) SndTs.nil))) (bcons (R.exp (S.add (ix:=3) (by kernel_rfl) rfl (by kernel_rfl) (S.idx (S.name (i:=0) (k:=.local)) (S.name (i:=4) (k:=.local)) (fun Z Z=>rfl)) (st1 stSubscript)) rfl rfl) (bone (R.aug (At.mk' (i:=4) (k:=.local) nd_join_translated_parts rfl (by kernel_rfl) (.inl rfl)) S.int O.iadd (by omega)))) (by omega)) (bcons (R.while K (T.cmp (S.name (i:=4) (k:=.local)) (S.name (i:=5) (k:=.local)) O.lt (by omega) rfl) (bcons (R.asr (T.cmp (S.idx (S.name (i:=0) (k:=.local)) (S.name (i:=4) (k:=.local)) (fun Z Z=>rfl)) (S.name (i:=1) (k:=.local)) O.is (by omega) rfl)) (bcons (R.aug (At.mk' (i:=4) (k:=.local) nd_join_translated_parts rfl (by kernel_rfl) (.inl rfl)) S.int O.iadd (by omega)) (bcons (R.ite (T.cmp (S.name (i:=4) (k:=.local)) (S.name (i:=5) (k:=.local)) O.eq (by omega) rfl) (bcons (R.exp (S.add (ix:=3) (by kernel_rfl) rfl (by kernel_rfl) (S.str (by kernel_rfl)) (st1 stConstant)) rfl rfl) (bone R.brk)) bnil) (bcons (R.asr (T.cmp (S.idx (S.name (i:=0) (k:=.local)) (S.name (i:=4) (k:=.local)) (fun Z Z=>rfl)) (S.name (i:=1) (k:=.local)) O.isNot (by omega) rfl)) (bcons (R.set (At.mk' (i:=6) (k:=.local) nd_join_translated_parts rfl (by kernel_rfl) (.inl rfl)) (S.new SndL.nil (by decide)) rfl) (bcons (R.while K (T.and (SndTs.cons (T.cmp (S.name (i:=4) (k:=.local)) (S.name (i:=5) (k:=.local)) O.lt (by omega) rfl) (SndTs.cons (T.cmp (S.idx (S.name (i:=0) (k:=.local)) (S.name (i:=4) (k:=.local)) (fun Z Z=>rfl)) (S.name (i:=1) (k:=.local)) O.isNot (by omega) rfl) SndTs.nil))) (bcons (R.exp (S.append (S.name (i:=6) (k:=.local)) (S.idx (S.name (i:=0) (k:=.local)) (S.name (i:=4) (k:=.local)) (fun Z Z=>rfl)) rfl rfl rfl (bk1 stSubscript)) rfl rfl) (bone (R.aug (At.mk' (i:=4) (k:=.local) nd_join_translated_parts rfl (by kernel_rfl) (.inl rfl)) S.int O.iadd (by omega)))) (by omega)) (bcons (R.set (At.mk' (i:=6) (k:=.local) nd_join_translated_parts rfl (by kernel_rfl) (.inl rfl)) (S.smeth (S.str (by kernel_rfl)) (SndL.cons (S.name (i:=6) (k:=.local)) stName SndL.nil) O.join (by omega) ⟨rfl,rfl,rfl⟩ PySem.F.plainAttrs_str PySem.F.slot_str_join PySem.F.type_str_join) rfl) (bone (R.ite (T.cmp (S.name (i:=4) (k:=.local)) (S.name (i:=5) (k:=.local)) O.eq (by omega) rfl) (bcons (R.exp (S.add (ix:=3) (by kernel_rfl) rfl (by kernel_rfl) (S.str (by kernel_rfl)) (st1 stConstant)) rfl rfl) (bone (R.exp (S.add (ix:=3) (by kernel_rfl) rfl (by kernel_rfl) (S.name (i:=6) (k:=.local)) (st1 stName)) rfl rfl))) (bone (R.exp (S.add (ix:=3) (by kernel_rfl) rfl (by kernel_rfl) (S.fstr (SndEs.cons (S.str (by kernel_rfl)) (SndEs.cons (S.fmt (S.name (i:=6) (k:=.local))) (SndEs.cons (S.str (by kernel_rfl)) SndEs.nil)))) (st1 stJoinedStr)) rfl rfl))))))))))) (by omega)) (bcons (R.asr (T.cmp (S.name (i:=4) (k:=.local)) (S.name (i:=5) (k:=.local)) O.eq (by omega) rfl)) (bcons (R.set (At.mk' (i:=2) (k:=.local) nd_join_translated_parts rfl (by kernel_rfl) (.inl rfl)) (S.smeth (S.str (by kernel_rfl)) (SndL.cons (S.name (i:=2) (k:=.local)) stName SndL.nil) O.join (by omega) ⟨rfl,rfl,rfl⟩ PySem.F.plainAttrs_str PySem.F.slot_str_join PySem.F.type_str_join) rfl) (bone (R.ret (S.fstr (SndEs.cons (S.str (by kernel_rfl)) (SndEs.cons (S.fmt (S.name (i:=2) (k:=.local))) (SndEs.cons (S.str (by kernel_rfl)) SndEs.nil)))))))))))))
noncomputable def g_join_translated_parts (K:Nat):FF:=fun xs H=>if xs.length=ps_join_translated_parts.length then runF ls_join_translated_parts.length (f_join_translated_parts K) xs H else none
theorem fn_join_translated_parts (cx:Ctx B) (K:Nat):FnS B 2 "_join_translated_parts" (g_join_translated_parts K):=fnS (x := "_join_translated_parts") (params:=argsAt 16) (body:=bodyAt 16) (scope:=scopeAt 16) (ps:=ps_join_translated_parts) (ls:=ls_join_translated_parts) (f:=f_join_translated_parts K) cx.ok (rec_join_translated_parts cx) fit_join_translated_parts (b_join_translated_parts cx K)
end
section
open PySem.Builtin.Re
structure ReAt (h:Heap) (pa ta:Addr):Prop where
  pat:∃ x n,h.get? pa=some { cls:=.type "re.Pattern",data:=.fields #[x,n,rawInt 1,.none,.none,.ref ta,rawInt 0] }
  tup:∃ k,h.get? ta=some { cls:=.type "tuple",data:=.seq (reCode.map fun (w:Nat)=>rawInt w) k }
theorem ReAt.keeps {h h':Heap} {pa ta:Addr} (r:ReAt h pa ta) (k:∀ b o,h.get? b=some o→h'.get? b=some o):ReAt h' pa ta:=
  ⟨let ⟨x,n,e⟩:=r.pat;⟨x,n,k _ _ e⟩,let ⟨n,e⟩:=r.tup;⟨n,k _ _ e⟩⟩
noncomputable def endM:Nat→Sre.M→Sre.M
  |0,m=>m
  |n+1,m=>if (m.runFor reTurnSteps).outcome.isSome then m.runFor reTurnSteps else endM n (m.runFor reTurnSteps)
section
variable {prog:Program} {w:World} {A:Around} {E:Value→Shared→Prop} {s:Shared}
theorem drive:∀ (n fuel:Nat) (m:Sre.M) {Q:Sre.M→Shared→Prop},(endM n m).outcome.isSome=true→m.outcome.isSome=false→n≤fuel→Q (endM n m) s→wpAny (model prog w) A (reDrive fuel m) Q E s
  |0,fuel,m,Q,h,h0,hf,q=>by
    rw [show endM 0 m=m from rfl,h0] at h;cases h
  |n+1,0,m,Q,h,h0,hf,q=>by omega
  |n+1,fuel+1,m,Q,h,h0,hf,q=>by
    unfold reDrive
    by_cases hc:(m.runFor reTurnSteps).outcome.isSome=true
    · rw [if_pos hc]
      have:endM (n+1) m=m.runFor reTurnSteps:=by simp [endM,hc]
      rw [this] at q
      exact wpAny_pure q
    · rw [if_neg hc]
      have e:endM (n+1) m=endM n (m.runFor reTurnSteps):=by simp [endM,hc]
      rw [e] at q h
      exact wpAny_bind (wpAny_rule (drive n fuel _ h (by simpa using hc) (by omega) q))
theorem rules_only {α:Type} (c:α→Bool) (t:α→String) {Q:PUnit→Shared→Prop}:∀ l:List α,Q ⟨⟩ s→wpAny (model prog w) A (forIn l PUnit.unit fun i Z=>(if c i=true then do rule (t i);pure (ForInStep.yield PUnit.unit) else pure (ForInStep.yield PUnit.unit):Sem (ForInStep PUnit))) Q E s
  |[],q=>by rw [List.forIn_nil];exact wpAny_pure q
  |a::l,q=>by
    rw [List.forIn_cons]
    refine wpAny_bind ?_
    by_cases h:c a=true
    · rw [if_pos h]
      exact wpAny_bind (wpAny_rule (wpAny_pure (rules_only c t l q)))
    · rw [if_neg h]
      exact wpAny_pure (rules_only c t l q)
noncomputable def nextF (text:List Nat) (start:Nat) (must:Bool):Option (Option (Nat×Nat)):=
  let m0:=Sre.forSearch reCode text.toArray 1 start text.toArray.size must
  if m0.outcome.isSome then none else
  let m:=endM 64 m0
  match m.outcome with
  |some .matched=>if m.lastmark=1∧m.marks.getD 0 none=some m.start∧m.marks.getD 1 none=some m.handed∧m.start < m.handed∧m.handed≤text.length then some (some (m.start,m.handed)) else none
  |some .failed=>some none
  |_=>none
noncomputable def tgt (pa:Addr) (text:List Nat) (tk:Tok):ReTarget:={ pattern:=.ref pa,string:=.str ⟨text.toArray⟩ tk,code:=reCode,text:=text.toArray,kind:=0,groups:=1,pos:=0,lim:=text.toArray.size }
theorem toEnd (m0:Sre.M) (h0:m0.outcome.isSome=false) {Q:Option Sre.M→Shared→Prop} (h:((endM 64 m0).outcome=some .matched∧Q (some (endM 64 m0)) s)∨((endM 64 m0).outcome=some .failed∧Q none s)) :
    wpAny (model prog w) A (reRunToEnd m0) Q E s:=by
  unfold reRunToEnd
  have hs:(endM 64 m0).outcome.isSome=true:=by
    rcases h with ⟨h,_⟩ | ⟨h,_⟩<;>rw [h]<;>rfl
  refine wpAny_bind (drive 64 (2 ^ 64) m0 hs h0 (by decide) ?_)
  refine wpAny_bind (rules_only _ _ _ ?_)
  rcases h with ⟨h,q⟩ | ⟨h,q⟩
  · rw [h];exact wpAny_pure q
  · rw [h];exact wpAny_pure q
theorem next_yes {pa:Addr} {text:List Nat} {tk:Tok} {start:Nat} {must:Bool} {ms mh:Nat} (e:nextF text start must=some (some (ms,mh))) {Q:Option Sre.M→Shared→Prop}
    (h:∀ m:Sre.M,m.lastmark=1→m.marks.getD 0 none=some ms→m.marks.getD 1 none=some mh→m.start=ms→m.handed=mh→ms < mh→mh≤text.length→Q (some m) s) :
    wpAny (model prog w) A (reNextFound (tgt pa text tk) start must) Q E s:=by
  unfold nextF at e
  dsimp only at e
  split at e
  · first | exact no e | cases e
  · rename_i h0
    split at e
    · rename_i ho
      split at e
      · rename_i hc
        cases e
        exact toEnd _ (Bool.eq_false_iff.mpr h0) (.inl ⟨ho,h _ hc.1 hc.2.1 hc.2.2.1 rfl rfl hc.2.2.2.1 hc.2.2.2.2⟩)
      · first | exact no e | cases e
    · first | exact no e | cases e
    · first | exact no e | cases e
theorem next_no {pa:Addr} {text:List Nat} {tk:Tok} {start:Nat} {must:Bool} (e:nextF text start must=some none) {Q:Option Sre.M→Shared→Prop} (h:Q none s) :
    wpAny (model prog w) A (reNextFound (tgt pa text tk) start must) Q E s:=by
  unfold nextF at e
  dsimp only at e
  split at e
  · first | exact no e | cases e
  · rename_i h0
    split at e
    · split at e<;>cases e
    · rename_i ho
      exact toEnd _ (Bool.eq_false_iff.mpr h0) (.inr ⟨ho,h⟩)
    · first | exact no e | cases e
theorem raw_code:((reCode.map fun (w:Nat)=>rawInt w).map reRawOf).map (·.toNat)=reCode:=by decide +kernel
theorem whole {pa ta:Addr} {text:List Nat} {tk:Tok} (R:ReAt s.heap pa ta) {Q:ReTarget→Shared→Prop} (h:Q (tgt pa text tk) s):wpAny (model prog w) A (reWholeTarget (.ref pa) (.str ⟨text.toArray⟩ tk)) Q E s:=by
  obtain ⟨x,n,e1⟩:=R.pat
  obtain ⟨k,e2⟩:=R.tup
  unfold reWholeTarget
  refine wpAny_bind (wpAny_fieldsOf e1 rfl ?_)
  unfold reTextOf asStr?
  refine wpAny_bind (wpAny_bind (wpAny_pure (wpAny_pure ?_)))
  dsimp only
  rw [if_neg (by exact Bool.false_ne_true),if_neg (by exact Bool.false_ne_true)]
  unfold reNoCollectionInside
  rw [if_neg (by decide)]
  refine wpAny_bind (wpAny_pure ?_)
  unfold reRawItems
  refine wpAny_bind (wpAny_bind (wpAny_seqItems e2 rfl (wpAny_pure (wpAny_pure ?_))))
  have e:(⟨.ref pa,.str ⟨text.toArray⟩ tk,(((some (reCode.map fun (w:Nat)=>rawInt w)).getD #[]).map reRawOf).map (·.toNat),text.toArray,0,1,0,text.toArray.size⟩ : ReTarget)=tgt pa text tk:=by
    unfold tgt
    rw [Option.getD_some,raw_code]
  exact e▸h
end
end
section
open PySem.Builtin.Re
theorem plainAttrs_rePat:PlainAttrs "re.Pattern" :=
  ⟨⟨"object.__getattribute__",by rw [typeLookup_type,builtinLookup_eq_fast];kernel_rfl,by decide +kernel⟩,by rw [typeLookup_type,builtinLookup_eq_fast];kernel_rfl⟩
theorem plainAttrs_reMatch:PlainAttrs "re.Match" :=
  ⟨⟨"object.__getattribute__",by rw [typeLookup_type,builtinLookup_eq_fast];kernel_rfl,by decide +kernel⟩,by rw [typeLookup_type,builtinLookup_eq_fast];kernel_rfl⟩
theorem slot_rePat_sub:Slot "re.Pattern" "sub" "re.Pattern.sub" :=
  .of (owner := "re.Pattern") (n := "sub") (by rw [typeLookup_type,builtinLookup_eq_fast];kernel_rfl) (by decide +kernel) (by decide +kernel) (by decide +kernel)
    (by first | exact .inl (by decide +kernel) | exact .inr (by decide +kernel)) (by rw [isSubtype_type];kernel_rfl)
theorem type_rePat_sub:typeOf (.builtin "re.Pattern.sub")=pure (.type "method_descriptor"):=by show builtinType _=_;rw [builtinType_eq_fast];kernel_rfl
theorem entry_rePat_sub:entryFor table "re.Pattern.sub" = some Builtin.«re.Pattern.sub» := entryFor_of_tree (by kernel_rfl)
theorem entry_rePat_loop:entryFor table "re.Pattern.sub.loop" = some Builtin.«re.Pattern.sub.loop» := entryFor_of_tree (by kernel_rfl)
theorem args_rePat_sub (a b c:Value):argsOk "re.Pattern.sub" ⟨[a,b,c],[]⟩:=by unfold argsOk;kernel_rfl
theorem slot_reMatch_group:Slot "re.Match" "group" "re.Match.group" :=
  .of (owner := "re.Match") (n := "group") (by rw [typeLookup_type,builtinLookup_eq_fast];kernel_rfl) (by decide +kernel) (by decide +kernel) (by decide +kernel)
    (by first | exact .inl (by decide +kernel) | exact .inr (by decide +kernel)) (by rw [isSubtype_type];kernel_rfl)
theorem type_reMatch_group:typeOf (.builtin "re.Match.group")=pure (.type "method_descriptor"):=by show builtinType _=_;rw [builtinType_eq_fast];kernel_rfl
theorem entry_reMatch_group:entryFor table "re.Match.group" = some Builtin.«re.Match.group» := entryFor_of_tree (by kernel_rfl)
theorem args_reMatch_group (a b:Value):argsOk "re.Match.group" ⟨[a,b],[]⟩:=by unfold argsOk;kernel_rfl
structure MatchAt (h:Heap) (ma:Addr) (text:List Nat) (tk:Tok) (ms mh:Nat):Prop where
  ex:∃ pv lim li mt tu,h.get? ma=some { cls:=.type "re.Match",data:=.fields #[.str ⟨text.toArray⟩ tk,pv,rawInt 0,lim,li,.ref mt] }∧h.get? mt=some { cls:=.type "tuple",data:=.seq #[rawInt ms,rawInt mh,rawInt ms,rawInt mh] tu }
theorem MatchAt.keeps {h h':Heap} {ma:Addr} {text:List Nat} {tk:Tok} {ms mh:Nat} (r:MatchAt h ma text tk ms mh) (k:∀ b o,h.get? b=some o→h'.get? b=some o):MatchAt h' ma text tk ms mh:=
  ⟨by obtain ⟨a,b,c,d,e,f,g⟩:=r.ex;exact ⟨a,b,c,d,e,k _ _ f,k _ _ g⟩⟩
noncomputable def cutL (text:List Nat) (b e:Nat):List Nat:=(text.toArray.extract b e).toList
theorem cut_str (text:List Nat) (b e:Nat):(⟨text.toArray.extract b e⟩ : Str)=⟨(cutL text b e).toArray⟩:=by unfold cutL;simp
theorem cut_eq (text:List Nat) (b e:Nat):(cutL text b e).length=min e text.length - b:=by unfold cutL;rw [Array.length_toList,Array.size_extract,List.size_toArray]
theorem cut_len (text:List Nat) (b e:Nat):(cutL text b e).length≤text.length:=by rw [cut_eq];exact Nat.le_trans (Nat.sub_le _ _) (Nat.min_le_right _ _)
section
variable {prog:Program} {w:World} {A:Around} {E:Value→Shared→Prop} {s:Shared}
theorem slice_at {text:List Nat} {b e:Nat} (hl:text.length≤SZ) {Q:Value→Shared→Prop} (h:Q (.str ⟨(cutL text b e).toArray⟩ s.toks) { s with toks:=s.toks+1 }):wpAny (model prog w) A (reSlice text.toArray 0 b e) Q E s:=by
  unfold reSlice
  rw [if_pos (by rfl),cut_str]
  refine wpAny_mkStr h ?_
  rw [str_len,← sz_eq]
  exact Nat.le_trans (cut_len ..) hl
theorem newMatch {pa:Addr} {text:List Nat} {tk:Tok} {m:Sre.M} {ms mh:Nat} (h1:m.lastmark=1) (h2:m.marks.getD 0 none=some ms) (h3:m.marks.getD 1 none=some mh) (h4:m.start=ms) (h5:m.handed=mh) (h6:ms < mh) {lim:Nat}
    {Q:Value→Shared→Prop} (h:∀ ma s',Keeps s s'→MatchAt s'.heap ma text tk ms mh→Q (.ref ma) s'):wpAny (model prog w) A (reNewMatch (.ref pa) (.str ⟨text.toArray⟩ tk) 1 0 lim m) Q E s:=by
  unfold reNewMatch
  rw [show List.range 1=[0] from rfl]
  simp only [List.flatMap_cons,List.flatMap_nil,List.any_cons,List.any_nil,Nat.mul_zero,Nat.zero_add,h1,h2,h3,h4,h5]
  have e3:(decide (((1:Nat):Int)≤1) && decide (mh < ms) || false)=false:=by simp;omega
  rw [e3,if_neg (by exact Bool.false_ne_true),if_pos (by decide)]
  dsimp only [List.append_nil]
  refine wpAny_bind (wpAny_newTuple ?_)
  refine wpAny_newObj_type (h _ _ (keeps_trans (keeps_push _ (tk:=s.toks)) (keeps_push _ (tk:=s.toks))) ⟨_,_,_,s.heap.objs.size,_,Heap.get?_push_size _ rfl,Heap.get?_push_of_some _ (Heap.get?_push_size _ rfl)⟩) ?_
  size_fits
end
end
section
open PySem.Builtin.Re
section
variable {prog:Program} {w:World} {A:Around} {E:Value→Shared→Prop} {s:Shared}
theorem group_at {ma:Addr} {text:List Nat} {tk t:Tok} {ms mh:Nat} (M:MatchAt s.heap ma text tk ms mh) (hl:text.length≤SZ) {P:Fin→Shared→Prop}
    (h:P (.done (.ret (.str ⟨(cutL text ms mh).toArray⟩ s.toks))) { s with toks:=s.toks+1 }):wpAny (model prog w) A (Builtin.«re.Match.group» ⟨[.ref ma,.int 1 t],[]⟩) P E s:=by
  obtain ⟨pv,lim,li,mt,tu,e1,e2⟩:=M.ex
  unfold Builtin.«re.Match.group»
  refine wpAny_bind (m:=noKeywords "Match.group" _) (wpAny_pure ?_)
  dsimp only
  unfold reFound
  refine wpAny_bind (wpAny_bind (wpAny_fieldsOf e1 rfl ?_))
  refine wpAny_bind ?_
  unfold reRawItems
  refine wpAny_bind (wpAny_seqItems e2 rfl (wpAny_pure (wpAny_pure ?_)))
  unfold reGroupNumber
  refine wpAny_bind (wpAny_bind (m:=asInt? (.int 1 t)) (wpAny_pure ?_))
  dsimp only
  rw [if_pos (by rfl)]
  unfold asIndex
  refine wpAny_bind (wpAny_bind (m:=asInt? (.int 1 t)) (wpAny_pure ?_))
  dsimp only
  refine wpAny_pure ?_
  have hz:(Array.map reRawOf ((some #[rawInt ms,rawInt mh,rawInt ms,rawInt mh]).getD #[])) = #[(ms:Int),(mh:Int),(ms:Int),(mh:Int)]:=by simp [reRawOf,rawInt]
  rw [hz]
  rw [if_neg (by simp)]
  refine wpAny_pure ?_
  unfold reGroupText
  have h1:(#[(ms:Int),(mh:Int),(ms:Int),(mh:Int)]:Array Int).getD (2 * (1:Int).toNat) (-1)=(ms:Int):=rfl
  have h2:(#[(ms:Int),(mh:Int),(ms:Int),(mh:Int)]:Array Int).getD (2 * (1:Int).toNat+1) (-1)=(mh:Int):=rfl
  dsimp only
  rw [h1,h2]
  rw [if_neg (by simp)]
  refine wpAny_bind (wpAny_bind (m:=reTextOf _) ?_)
  unfold reTextOf
  refine wpAny_bind (m:=asStr? (.str ⟨text.toArray⟩ tk)) (wpAny_pure (wpAny_pure ?_))
  dsimp only
  exact slice_at hl (wpAny_pure h)
noncomputable def lamE (p1 p2 p3 p4 p5 p6 p7 p8:Pos):PySem.Expr:=.BinOp (.Constant (.str "\\") 0 p1) .Add (.BoolOp .Or [.Call (.Attribute (.Name "_m" p2) "group" p3) [.Constant (.int 1) 0 p4] [] p5,.Constant (.str "") 0 p6] p7) p8
theorem str_bs:("\\" : Str)=⟨([92]:List Nat).toArray⟩:=by kernel_rfl
theorem lam_body {env:Env} {m:Str→Option Value} {ma:Addr} {text:List Nat} {tk:Tok} {ms mh:Nat} {p1 p2 p3 p4 p5 p6 p7 p8:Pos} (hk:env.scope.kind=.function) (hl:env.kindOf "_m" = some .local) (hn:s.heap.Ns env.locals m) (hm:m "_m" = some (.ref ma))
    (M:MatchAt s.heap ma text tk ms mh) (hz:text.length+1≤SZ) (h1:ms < mh) (h2:mh≤text.length) (hline:(p3.endLine == p5.line)=true) {Q:Value→Shared→Prop}
    (h:∀ s' t,Keeps s s'→Q (.str ⟨(92::cutL text ms mh).toArray⟩ t) s'):wpAny (model prog w) A (eval (lamE p1 p2 p3 p4 p5 p6 p7 p8) env) Q E s:=by
  unfold lamE
  refine wpAny_BinOp (Constant_str ?_)
  have hc:(cutL text ms mh).length=mh - ms:=by rw [cut_eq,Nat.min_eq_left h2]
  change wpAny (model prog w) A (boolOp p7 .Or [eval _ env,eval _ env]) _ _ _
  refine boolStep true boolOr_eq ?_
  refine wpAny_Call_method rfl rfl hline plainAttrs_reMatch slot_reMatch_group type_reMatch_group (wpAny_Name (wpAny_loadName_local hk hl hn hm ?_) rfl)
  obtain ⟨pv,lim,li,mt,tu,e1,e2⟩:=M.ex
  refine ⟨⟨_,e1,rfl⟩,fun a e=>by cases e;exact ⟨_,e1,rfl⟩,?_⟩
  refine callWith_builtin rfl (evalArgs_plain (spliced_cons (show wpAny _ A (eval (.Constant (.int 1) 0 p4) env) _ _ _ from wpAny_Constant_int (spliced_nil ?_))))
  refine wpAny_call_entry slot_reMatch_group ⟨_,e1,rfl⟩ entry_reMatch_group ?_ (args_reMatch_group _ _)
  refine group_at (s:={ s with toks:=s.toks+1+1 }) (tk:=tk) (ms:=ms) (mh:=mh) ⟨_,_,_,_,_,e1,e2⟩ (by omega) ?_
  refine ⟨_,rfl,?_⟩
  refine PySem.P.truthy_str ?_ ?_
  · rw [str_len,hc];simp only [SZ] at hz;omega
  rw [str_len,hc,if_pos (by simp;omega)]
  rw [str_bs]
  refine add_str (fun t' tk'=>?_) ?_
  · rw [str_app]
    exact h _ _ keeps_tok
  · rw [str_len,str_len,hc,← sz_eq];simp only [List.length_cons,List.length_nil];omega
end
end
section
open PySem.Builtin.Re
noncomputable def lamP (p0:Pos):Arguments:={ posonlyargs:=[],args:=[{ arg := "_m",annotation:=none,pos:=p0:PySem.Arg }],vararg:=none,kwonlyargs:=[],kw_defaults:=[],kwarg:=none,defaults:=[] }
noncomputable def lamS:Scope:={ kind:=.function,names:=[(Str.ofString "_m",NameKind.local)],isGenerator:=false,isCoroutine:=false,more:=[] }
inductive LamX (h:Heap) (f:Addr):Prop
  |mk (name qual:Str) (p0 p1 p2 p3 p4 p5 p6 p7 p8:Pos) (pm cdv ctv:Value) (q:Str) (h1:(p3.endLine == p5.line)=true) (h2:h.get? f=some { cls:=.type "function",data:=.func (kla_fn name qual (lamP p0) (lamE p1 p2 p3 p4 p5 p6 p7 p8) lamS [] pm cdv ctv) }) (h3:h.CodeRec cdv q):LamX h f
structure LamAt (h:Heap) (f:Addr):Prop where
  ex:LamX h f
theorem codeRec_keeps {h h':Heap} {v:Value} {q:Str} (r:h.CodeRec v q) (k:∀ b o,h.get? b=some o→h'.get? b=some o):h'.CodeRec v q:=by
  obtain ⟨c,o,vs,t,e1,e2,e3,e4⟩:=r
  exact ⟨c,o,vs,t,e1,k _ _ e2,e3,e4⟩
theorem LamAt.keeps {h h':Heap} {f:Addr} (r:LamAt h f) (k:∀ b o,h.get? b=some o→h'.get? b=some o):LamAt h' f:=
  ⟨by obtain ⟨_,_,_,_,_,_,_,_,_,_,_,_,_,_,_,u,v,x⟩:=r.ex;exact ⟨_,_,_,_,_,_,_,_,_,_,_,_,_,_,_,u,k _ _ v,codeRec_keeps x k⟩⟩
section
variable {prog:Program} {w:World} {A:Around} {E:Value→Shared→Prop} {s:Shared}
theorem bind_lam (name qual:Str) (p0:Pos) (e:PySem.Expr) (cl:List (Str×Addr)) (pm cdv ctv v:Value):bindArgs (kla_fn name qual (lamP p0) e lamS cl pm cdv ctv) ⟨[v],[]⟩ = pure [((Str.ofString "_m"),v)]:=by kernel_rfl
theorem lam_call {f ma:Addr} {text:List Nat} {tk:Tok} {ms mh:Nat} (L:LamAt s.heap f) (M:MatchAt s.heap ma text tk ms mh) (hz:text.length+1≤SZ) (h1:ms < mh) (h2:mh≤text.length) (hlim:s.heap.NoLimit) (hd:A.depth < recursionLimit) {Q:Value→Shared→Prop}
    (h:∀ s' t,Keeps s s'→Q (.str ⟨(92::cutL text ms mh).toArray⟩ t) s'):wpAny (model prog w) A (call (.ref f) [.ref ma]) Q E s:=by
  obtain ⟨name,qual,p0,p1,p2,p3,p4,p5,p6,p7,p8,pm,cdv,ctv,q,hline,ho,c,oc,vs,tq,rfl,hoc,hdc,hq⟩:=L.ex
  refine wpAny_call (codeAny_of_tree ?_)
  show wpAny _ A.in1 (callAny (.ref f) ⟨[.ref ma],[]⟩) _ _ s
  simp only [callAny]
  refine wpAny_bind (wpAny_load ho ?_)
  simp only [callFunction]
  refine wpAny_bind (m:=field (.ref c) 1) (wpAny_field hoc hdc hq ?_)
  refine wpAny_bind (wpAny_pure ?_)
  rw [bind_lam]
  refine wpAny_bind (wpAny_pure ?_)
  refine wpAny_bind (wpAny_newFunctionEnv (by intro x hx;have hx:x ∈ [((Str.ofString "_m"),NameKind.local)]:=hx;simp at hx;subst hx;decide) (by intro x hx;simp at hx;subst hx;kernel_rfl) (fun h₁ hns hsb=>?_))
  have hk₁:∀ b o,s.heap.get? b=some o→h₁.get? b=some o:=fun b o e=>hsb.extBut b o (Nat.ne_of_lt (Heap.lt_size e)) (Heap.get?_push_of_some _ e)
  refine wpAny_bind (wpAny_enterFrame (hlim.keeps hk₁) hd ?_)
  refine wpAny_pure (And.intro rfl ?_)
  refine kla_codeExpr (lam_body (tk:=tk) (ms:=ms) (mh:=mh) (ma:=ma) rfl (by kernel_rfl) hns (by kernel_rfl) (M.keeps hk₁) hz h1 h2 hline fun s' t k=>h s' t (keeps_trans ⟨h₁,_,rfl,hk₁⟩ k))
end
end
section
open PySem.Builtin.Re
noncomputable def subGo (text:List Nat):Nat→Nat→Nat→Bool→List (List Nat)→Option (List (List Nat))
  |0,_,_,_,_=>none
  |f+1,start,done,must,acc=>if acc.length≤1000 then (match nextF text start must with
    |some (some (ms,mh))=>subGo text f mh mh (mh == ms) ((if done < ms then acc++[cutL text done ms] else acc)++[92::cutL text ms mh])
    |some none=>some (if done < text.length then acc++[cutL text done text.length] else acc)
    |none=>none) else none
noncomputable def Texts (ws:List Value) (acc:List (List Nat)):Prop:=∃ ps:List (Str×Tok),ws=strValues ps∧ps.map (·.1)=acc.map fun t=>(⟨t.toArray⟩ : Str)
theorem Texts.snoc {ws:List Value} {acc:List (List Nat)} (h:Texts ws acc) (x:List Nat) (t:Tok):Texts (ws++[.str ⟨x.toArray⟩ t]) (acc++[x]):=by
  obtain ⟨ps,rfl,e⟩:=h
  exact ⟨ps++[(⟨x.toArray⟩,t)],by simp [strValues],by simp [e]⟩
theorem Texts.len {ws:List Value} {acc:List (List Nat)} (h:Texts ws acc):ws.length=acc.length:=by
  obtain ⟨ps,rfl,e⟩:=h
  have:=congrArg List.length e
  simp at this
  simp [strValues,this]
theorem joinL_nil:∀ ts:List (List Nat),joinL [] ts=ts.flatten
  |[]=>rfl
  |[x]=>(List.append_nil x).symm
  |x::y::r=>by
    have:=joinL_nil (y::r)
    show x++[]++joinL [] (y::r)=_
    rw [this,List.append_nil]
    rfl
section
variable {prog:Program} {w:World} {A:Around} {E:Value→Shared→Prop} {s s0:Shared}
theorem keeps_same {la:Addr} {h':Heap} (k:Keeps s0 s) (hn:s0.heap.get? la=none) (sb:Heap.SameBut la s.heap h'):Keeps s0 { s with heap:=h' }:=by
  obtain ⟨h1,t1,rfl,k1⟩:=k
  exact ⟨h',t1,rfl,fun b o e=>(sb.2 b (by rintro rfl;rw [hn] at e;cases e)).trans (k1 b o e)⟩
theorem push_piece {la:Addr} {ws:List Value} {acc:List (List Nat)} {x:List Nat} {t:Tok} (k:Keeps s0 s) (hn:s0.heap.get? la=none) (p:PlnA s.heap la ws) (tx:Texts ws acc) (hl:acc.length≤2000) {Q:Unit→Shared→Prop}
    (h:∀ h' ws',Keeps s0 { s with heap:=h' }→PlnA h' la ws'→Texts ws' (acc++[x])→Q () { s with heap:=h' }):wpAny (model prog w) A (updateSeq la (·.push (.str ⟨x.toArray⟩ t))) Q E s:=by
  obtain ⟨n,ho⟩:=p
  have hz:=tx.len
  refine wpAny_updateSeq ho rfl ?_ (by rw [List.size_toArray,← sz_eq];simp only [SZ];omega) (by rw [Array.size_push,List.size_toArray,← sz_eq];simp only [SZ];omega)
  refine h _ (ws++[.str ⟨x.toArray⟩ t]) (keeps_same k hn (Heap.SameBut.update ..)) ?_ (tx.snoc x t)
  have:=IsL.update (n:=n) (items:=ws.toArray) ho (fun xs=>xs.push (.str ⟨x.toArray⟩ t))
  show Heap.PlainList _ _ _
  have e2:(ws++[Value.str ⟨x.toArray⟩ t]).toArray=ws.toArray.push (Value.str ⟨x.toArray⟩ t):=by simp
  rw [e2]
  exact ⟨_,this⟩
theorem no_lim (k:Keeps s0 s) (h:s0.heap.NoLimit):s.heap.NoLimit:=h.keeps fun b o e=>keeps_get k e
inductive SubI (s0:Shared) (la:Addr) (acc:List (List Nat)) (s:Shared):Prop
  |mk (ws:List Value) (k:Keeps s0 s) (p:PlnA s.heap la ws) (t:Texts ws acc):SubI s0 la acc s
theorem ite_both {c:Prop} [Decidable c] {α β γ:Type} {M:Model} {a:Sem α} {b:α→Sem β} {r:Sem γ} {Q:γ→Shared→Prop} (I:Shared→Prop) (h1:c→wpAny M A a (fun x s'=>wpAny M A (b x) (fun Z s'=>I s') E s') E s) (h2:¬ c→I s) (h:∀ s',I s'→wpAny M A r Q E s') :
    wpAny M A (if c then a >>= fun x=>b x >>= fun Z=>r else r) Q E s:=by
  split
  · rename_i hc
    exact wpAny_bind (wpAny_mono (h1 hc) (fun Z Z h'=>wpAny_bind (wpAny_mono h' (fun Z s' i=>h s' i) fun Z Z x=>x)) fun Z Z x=>x)
  · exact h _ (h2 ‹_›)
set_option tactic.hygienic true in
theorem sub_loop {R:Result→Shared→Prop} {pa ta f la:Addr} {text:List Nat} {tk:Tok} (hre:ReAt s0.heap pa ta) (hf:LamAt s0.heap f) (hlim:s0.heap.NoLimit) (hd:A.depth+2 < recursionLimit) (hz:text.length≤1000) (hn:s0.heap.get? la=none) {out:List (List Nat)} (hout:sizeL out≤SZ)
    (hR:∀ s' t,Keeps s0 s'→R (.ok (.ret (.str ⟨out.flatten.toArray⟩ t))) s') :
    ∀ (fuel start done:Nat) (must:Bool) (acc:List (List Nat)) (n:Nat) (ws:List Value) (s:Shared),subGo text fuel start done must acc=some out→Keeps s0 s→PlnA s.heap la ws→Texts ws acc→
      codeAny (model prog w) A (.builtin "re.Pattern.sub.loop" ⟨[.ref pa,.str ⟨text.toArray⟩ tk,.ref f,rawInt 1,rawInt 0,rawInt n,rawInt done,rawInt start,.bool must,.ref la,.bool false],[]⟩) R s
  |0,_,_,_,_,_,_,_,e,_,_,_=>by cases e
  |fuel+1,start,done,must,acc,n,ws,s,e,k,p,tx=>by
    unfold subGo at e
    split at e
    case isFalse=>cases e
    rename_i hacc
    refine codeAny_builtin entry_rePat_loop ?_
    unfold Builtin.«re.Pattern.sub.loop»
    refine wpAny_bind (whole (hre.keeps fun b o e=>keeps_get k e) ?_)
    refine if_no rfl ?_
    rw [if_neg (by simp)]
    rw [Around.under_plainId (by decide +kernel)]
    have hdep:A.in1.depth < recursionLimit:=by show A.depth < recursionLimit;omega
    rw [show (start:Int).toNat=start from rfl]
    split at e
    · rename_i ms mh hnx
      refine wpAny_bind (next_yes hnx fun m m1 m2 m3 m4 m5 m6 m7=>?_)
      dsimp only
      rw [show (done:Int).toNat=done from rfl,m4]
      refine ite_both (SubI s0 la (if done < ms then acc++[cutL text done ms] else acc)) (fun hdm=>slice_at (by simp only [SZ];omega) (push_piece (s:={ s with toks:=s.toks+1 }) (keeps_trans k keeps_tok) hn p tx (by omega) fun h1 ws1 k1 p1 tx1=>?_)) (fun hdm=>?_) fun s1 i1=>?_
      · rw [if_pos hdm];exact ⟨ws1,k1,p1,tx1⟩
      · rw [if_neg hdm];exact ⟨ws,k,p,tx⟩
      obtain ⟨ws1,k1,p1,tx1⟩:=i1
      have hl1:(if done < ms then acc++[cutL text done ms] else acc).length≤2000:=by
        split
        · rw [List.length_append];show acc.length+1≤2000;omega
        · omega
      refine if_no rfl (wpAny_bind (newMatch m1 m2 m3 m4 m5 m6 fun ma s2 k2 hm=>wpAny_bind (wpAny_holding (if_so rfl ?_))))
      refine lam_call (hf.keeps fun b o e=>keeps_get (keeps_trans k1 k2) e) hm (by simp only [SZ];omega) m6 m7 (no_lim (keeps_trans k1 k2) hlim) hdep fun s3 t3 k3=>if_so rfl ?_
      have k23:=keeps_trans k2 k3
      refine wpAny_bind (push_piece (keeps_trans k1 k23) hn (plainList_keeps p1 fun b o e=>keeps_get k23 e) tx1 hl1 fun h' ws' k' p' tx'=>wpAny_pure ⟨Code.quiet_builtin _ (by decide +kernel),?_⟩)
      rw [m5]
      exact sub_loop hre hf hlim hd hz hn hout hR fuel mh mh (mh == ms) _ (n+1) ws' _ e k' p' tx'
    · rename_i hnx
      refine wpAny_bind (next_no hnx ?_)
      cases e
      dsimp only
      have fin:∀ (s1:Shared) (ws1:List Value) (acc1:List (List Nat)),Keeps s0 s1→PlnA s1.heap la ws1→Texts ws1 acc1→sizeL acc1≤SZ→(∀ s' t,Keeps s0 s'→R (.ok (.ret (.str ⟨acc1.flatten.toArray⟩ t))) s')→
          wpAny (model prog w) A.in1 (do
            let joiner ← reSlice text.toArray 0 0 0
            let __do_lift ← seqItems? (Value.ref la)
            if (__do_lift.getD #[]).isEmpty=true then do
                let text ← pure joiner
                if false=true then do
                    let __do_lift ← holding [text] do
                          let __do_lift ← mkInt (n:Int)
                          newTuple [text,__do_lift]
                    ret __do_lift
                  else ret text
              else do
                let text ← call (Value.builtin (if ((0:Nat) == 0)=true then "str.join" else "bytes.join")) [joiner,Value.ref la]
                if false=true then do
                    let __do_lift ← holding [text] do
                          let __do_lift ← mkInt (n:Int)
                          newTuple [text,__do_lift]
                    ret __do_lift
                  else ret text) (fun fin s'=>match fin with
            |Fin.done f=>R (Except.ok f) s'
            |Fin.again c'=>c'.quiet=true∧codeAny (model prog w) A c' R s') (fun e s'=>R (Except.error e) s') s1:=by
        intro s1 ws1 acc1 k1 p1 tx1 hz1 hR1
        refine wpAny_bind (slice_at (by simp only [SZ];omega) ?_)
        have he:cutL text 0 0=[]:=by unfold cutL;simp
        rw [he]
        obtain ⟨n1,ho1⟩:=p1
        refine wpAny_bind (wpAny_seqItems ho1 rfl ?_)
        rw [Option.getD_some]
        have hln:=tx1.len
        by_cases hw:ws1=[]
        · subst hw
          rw [if_pos (by rfl)]
          refine wpAny_bind (wpAny_pure ?_)
          rw [if_neg (by decide)]
          have ha:acc1=[]:=by simpa using hln.symm
          subst ha
          exact wpAny_pure (hR1 _ _ (keeps_trans k1 keeps_tok))
        · rw [if_neg (by simpa using hw)]
          obtain ⟨ps,rfl,hps⟩:=tx1
          rw [if_pos (by rfl)]
          have hq:sizeL acc1+acc1.length * ([]:List Nat).length≤SZ:=by simpa using hz1
          refine wpAny_bind (SC.join (s:={ s1 with toks:=s1.toks+1 }) ⟨_,ho1,rfl,_,rfl⟩ hps (join_fit hq) fun t' k'=>?_)
          rw [if_neg (by decide)]
          refine wpAny_pure ?_
          have e3:Txt.join ⟨([]:List Nat).toArray⟩ (acc1.map fun t=>(⟨t.toArray⟩ : Str))=⟨acc1.flatten.toArray⟩:=by
            show Builtin.Str.glued _ _=_
            rw [StrLaws.glued_eq_join,join_eq,joinL_nil]
          rw [e3]
          exact hR1 _ _ (keeps_trans k1 keeps_tok)
      rw [show (done:Int).toNat=done from rfl]
      by_cases hdm:done < text.length
      · have hdm':done < (tgt pa text tk).lim:=by show done < text.toArray.size;simpa using hdm
        rw [if_pos hdm'] at ⊢
        rw [if_pos hdm] at hout hR
        have hl0:(tgt pa text tk).lim=text.length:=by show text.toArray.size=_;simp
        refine wpAny_bind (slice_at (text:=text) (by simp only [SZ];omega) ?_)
        rw [hl0]
        refine wpAny_bind (push_piece (s:={ s with toks:=s.toks+1 }) (keeps_trans k keeps_tok) hn p tx (by omega) fun h1 ws1 k1 p1 tx1=>?_)
        exact fin _ ws1 _ k1 p1 tx1 hout hR
      · have hdm':¬ done < (tgt pa text tk).lim:=by show ¬ done < text.toArray.size;simpa using hdm
        rw [if_neg hdm'] at ⊢
        rw [if_neg hdm] at hout hR
        exact fin _ ws _ k p tx hout hR
    · first | exact no e | cases e
end
end
section
open PySem.Builtin.Re
theorem among_snoc {pos:Pos} {a b:Int} {c c':Value} {t u:Tok}:∀ l:List Value,TriplesOk l→codeAmong pos (l++[.int a t,.int b u,c])=some c'→codeAmong pos l=some c'∨c'=c:=fun l=>by
  fun_induction TriplesOk l with
  |case1=>
    intro _ h
    simp only [List.nil_append,codeAmong] at h
    split at h
    · cases h;exact .inr rfl
    · first | exact no h | cases h
  |case2 x t y u z r ih=>
    intro ht h
    simp only [List.cons_append,codeAmong] at h ⊢
    split at h
    · rename_i hc
      rw [if_pos hc];exact .inl h
    · rename_i hc
      rw [if_neg hc];exact ih ht h
  |case3 l h=>intro ht;exact ht.elim
structure Ext (B:Base):Prop where
  re:∃ pa ta,B.mg "_twin_re_1" = some (.ref pa)∧ReAt B.h1 pa ta
  bi:B.h1.BuiltinsAt B.mg B.P
  gP:mainGlobals ≠ B.P
  str:B.mg "str" = none
  sm:∃ d f,B.mg "_special_chars_map" = some (.ref d)∧B.h1.MapOf (intKind B.prog B.w) d f∧(d == sysModules)=false∧(∃ u,f 38=some (.str ⟨([92,38]:List Nat).toArray⟩ u))∧(∃ u,f 45=some (.str ⟨([92,45]:List Nat).toArray⟩ u))∧f 97=none∧f 33=none
theorem ReAt.off {B:Base} (ok:B.Ok) {pa ta:Addr} {s:Shared} (r:ReAt B.h1 pa ta) (b:Bs B s):ReAt s.heap pa ta:=by
  obtain ⟨⟨x,n,e1⟩,⟨k,e2⟩⟩:=r
  exact ⟨⟨x,n,b.keep _ _ e1 (by rintro rfl;rw [ok.ptab] at e1;cases e1)⟩,⟨k,b.keep _ _ e2 (by rintro rfl;rw [ok.ptab] at e2;cases e2)⟩⟩
theorem Bs.bi {B:Base} {s:Shared} (ok:B.Ok) (x:Ext B) (b:Bs B s):s.heap.BuiltinsAt B.mg B.P:=by
  obtain ⟨bm,o,h1,h2,h3,h4,h5,h6⟩:=x.bi
  exact ⟨bm,o,h1,h2,h3,h4,b.keep _ _ h5 h4,h6⟩
theorem codeHd_keeps {h h':Heap} {c P:Addr} (r:CodeHd h c P) (k:∀ o,h.get? c=some o→h'.get? c=some o):CodeHd h' c P:=by
  obtain ⟨o,vs,file,tf,flags,tg,inF,text,tt,e,r⟩:=r
  exact ⟨o,vs,file,tf,flags,tg,inF,text,tt,k _ e,r⟩
theorem Bs.codeHd {B:Base} {s:Shared} (ok:B.Ok) (b:Bs B s):CodeHd s.heap B.c B.P:=codeHd_keeps ok.code fun o e=>b.keep _ _ e (by
  obtain ⟨_,_,_,_,_,_,_,_,_,_,_,_,_,_,_,_,_,_,h⟩:=ok.code
  exact h)
section
variable {B:Base} {n:Nat} {env:Env} {names:List Str} {A:Around} {s s' s'':Shared} {σ:Option Addr} {X:Addr→Prop} {μ ν:List Addr} {ρ ρ':Rho} {H H' H'':Hp} {F:Fl}
theorem Bs.grown (ok:B.Ok) (b:Bs B s) {h':Heap} {tk:Nat} {ps:Array Value} {c':Addr} {q:Str} {pos:Pos} (hP:s.heap.get? B.P=some (tabObj ps)) (ht:TriplesOk ps.toList) (hc:∀ pos c',codeAmong pos ps.toList=some c'→∃ q,s.heap.CodeRec c' q)
    (hx:Heap.ExtBut B.P s.heap h') (hr:h'.CodeRec (.ref c') q) (htb:h'.get? B.P=some (tabObj (ps ++ #[rawInt pos.line,rawInt pos.col,.ref c']))):Bs B { s with heap:=h',toks:=tk }:=by
  refine ⟨fun x o e hne=>hx _ _ hne (b.keep x o e hne),⟨_,htb,?_,fun pos2 c2 h2=>?_⟩,b.gens,b.os⟩
  · rw [Array.toList_append]
    exact TriplesOk_snoc _ _ _ _ ht
  · rw [Array.toList_append] at h2
    rcases among_snoc _ ht h2 with h | h
    · obtain ⟨q2,c3,o,vs,t,e1,e2,e3,e4⟩:=hc _ _ h
      refine ⟨q2,c3,o,vs,t,e1,hx _ _ ?_ e2,e3,e4⟩
      rintro rfl
      rw [hP] at e2;cases e2
      exact triples_no_str ht q2 t (by rw [Array.getElem?_toList];cases e3;exact e4)
    · subst h;exact ⟨q,hr⟩
theorem lam_at {p0 p1 p2 p3 p4 p5 p6 p7 p8 lp:Pos} (ok:B.Ok) (x:Ext B) (hcode:env.code=.ref B.c) (hcl:closureFor lamS env=pure []) (hg:env.globals=mainGlobals) (hline:(p3.endLine == p5.line)=true) (w:Wd B σ X env names ρ μ H s) {Q:Value→Shared→Prop}
    (h:∀ f s',Wd B σ X env names ρ μ H s'→Stp B μ [] s.heap s'.heap→Mv X X μ μ s.heap s'.heap→LamAt s'.heap f→Q (.ref f) s') :
    wpAny (model B.prog B.w) A (eval (.Lambda (lamP p0) (lamE p1 p2 p3 p4 p5 p6 p7 p8) lamS lp) env) Q NoE s:=by
  obtain ⟨ps,hP,ht,hcs⟩:=w.bs.tab
  have gns:=(w.bs.glob ok).1
  refine kla_eval rfl ?_
  cases hf:codeAmong lp ps.toList with
  |some cv=>
    obtain ⟨q,hq⟩:=hcs _ _ hf
    refine kla_makeFunctionHit hcl hg gns hcode (w.bs.codeHd ok) hP ht hf (w.bs.bi ok x) fun ctv h' tk hk Z=>?_
    have k:Keeps s { s with heap:=h'.push { cls:=.type "function",data:=.func (kla_fn "<lambda>" (env.qual ++ "<lambda>") (lamP p0) (lamE p1 p2 p3 p4 p5 p6 p7 p8) lamS [] ((B.mg "__name__").getD .none) cv ctv) },toks:=tk }:=keeps_of fun b o e=>Heap.get?_push_of_some _ (hk b o e)
    refine h _ _ (w.keeps k) (Stp.of_keeps k) (Mv.keeps fun b o e=>keeps_get k e) ⟨_,_,p0,p1,p2,p3,p4,p5,p6,p7,p8,_,cv,ctv,q,hline,Heap.get?_push_size _ rfl,codeRec_keeps hq fun b o e=>keeps_get k e⟩
  |none=>
    refine kla_makeFunction hcl hg gns hcode (w.bs.codeHd ok) hP ht hf x.gP (w.bs.bi ok x) fun c' ctv h' tk hx hge hlt hrec htb=>?_
    have b1:Bs B { s with heap:=h',toks:=tk }:=w.bs.grown ok hP ht hcs hx hrec htb
    have bk:=w.back (H':=H) b1 (D:=fun a=>a ∈ ([]:List Addr)) (fun a h=>(nomatch h)) ⟨fun b o e Z hp=>hx b o hp e,fun b o e=>by
      by_cases hb:b=B.P
      · subst hb;exact ⟨_,htb⟩
      · exact ⟨o,hx b o hb e⟩⟩ (fun Z Z Z Z Z h=>(nomatch h)) (fun Z Z Z Z=>rfl) rfl
    have k2:Keeps { s with heap:=h',toks:=tk } { s with heap:=h'.push (kla_obj "<lambda>" (env.qual ++ "<lambda>") (lamP p0) (lamE p1 p2 p3 p4 p5 p6 p7 p8) lamS [] ((B.mg "__name__").getD .none) c' ctv),toks:=tk }:=keeps_push (s:={ s with heap:=h',toks:=tk }) _
    refine h _ _ (bk.1.keeps k2) ?_ ?_ ⟨_,_,p0,p1,p2,p3,p4,p5,p6,p7,p8,_,.ref c',ctv,_,hline,Heap.get?_push_size _ rfl,codeRec_keeps hrec fun b o e=>keeps_get k2 e⟩
    · have:=Stp.trans (ν':=[]) bk.2.1 (Stp.of_keeps k2)
      rw [List.append_nil] at this;exact this
    · exact ⟨fun b o e v=>keeps_get k2 (bk.2.2.keep b o e v),bk.2.2.pre,bk.2.2.off⟩
end
end
section
open PySem.Builtin.Re
theorem lk_fun_call:(do let r ← typeLookup (.type "function") "__call__";pure r.isSome:Sem Bool)=pure true:=by rw [typeLookup_type,builtinLookup_eq_fast];kernel_rfl
theorem lk_fun_call':∃ v,typeLookup (.type "function") "__call__" = pure (some v):=⟨.builtin "function.__call__",by rw [typeLookup_type,builtinLookup_eq_fast];kernel_rfl⟩
theorem sub_str_bytearray:isSubtype (.type "str") (.type "bytearray")=pure false:=by rw [isSubtype_type];kernel_rfl
theorem named_sub (f st:Value):reNamed "re.Pattern.sub" "sub" ["repl", "string", "count"] 2 [f,st] []=pure [some f,some st,none]:=by kernel_rfl
section
variable {prog:Program} {w:World} {A:Around} {E:Value→Shared→Prop} {s:Shared}
theorem LamAt.fn {f:Addr} (hf:LamAt s.heap f):s.TypeIs (.ref f) "function" := by
  obtain ⟨name,qual,p0,p1,p2,p3,p4,p5,p6,p7,p8,pm,cdv,ctv,q,hline,ho,hcr⟩:=hf.ex
  exact ⟨_,ho,rfl⟩
theorem ReAt.is {pa ta:Addr} (hre:ReAt s.heap pa ta):s.TypeIs (.ref pa) "re.Pattern" := by
  obtain ⟨x,n,e1⟩:=hre.pat
  exact ⟨_,e1,rfl⟩
theorem ReAt.nod {pa ta:Addr} (hre:ReAt s.heap pa ta):∃ ob,s.heap.get? pa=some ob∧ob.dict=Option.none:=by
  obtain ⟨x,n,e1⟩:=hre.pat
  exact ⟨_,e1,rfl⟩
theorem sub_call {pa ta f:Addr} {text:List Nat} {tk:Tok} {out:List (List Nat)} (hre:ReAt s.heap pa ta) (hf:LamAt s.heap f) (hlim:s.heap.NoLimit) (hd:A.depth+2 < recursionLimit) (hz:text.length≤1000) (hout:sizeL out≤SZ) (e:subGo text 64 0 0 false []=some out) {Q:Value→Shared→Prop}
    (h:∀ s' t,Keeps s s'→Q (.str ⟨out.flatten.toArray⟩ t) s'):wpAny (model prog w) A (call (.builtin "re.Pattern.sub") [.ref pa,.ref f,.str ⟨text.toArray⟩ tk]) Q E s:=by
  obtain ⟨cv,hcv⟩:=lk_fun_call'
  refine wpAny_call (codeAny_call_builtin slot_rePat_sub.plain entry_rePat_sub (slot_rePat_sub.check _ _ _ _ _ _ _ _ hre.is (args_rePat_sub _ _ _) ?_))
  unfold Builtin.«re.Pattern.sub» reSubstitute
  refine wpAny_bind (wpAny_of_eq (named_sub _ _) (wpAny_bind (wpAny_pure (wpAny_bind (wpAny_specialOf hf.fn hcv ?_)))))
  refine if_so rfl (wpAny_bind (wpAny_pure (if_so rfl (wpAny_bind (wpAny_pure (wpAny_bind (wpAny_holding (whole hre ?_))))))))
  refine if_so rfl ?_
  unfold reNotHeld
  refine wpAny_bind (wpAny_bind (wpAny_isInstance (typeIs_str ..) sub_str_bytearray (if_no rfl (wpAny_pure ?_))))
  refine wpAny_bind (wpAny_newList (wpAny_pure ⟨Code.quiet_builtin _ (by decide +kernel),?_⟩) (Nat.zero_le _))
  exact sub_loop (s0:=s) (R:=fun r s'=>match r with | .ok (.ret v)=>Q v s' | .ok _=>False | .error e=>E e s') hre hf hlim hd hz (none_size s.heap) hout h 64 0 0 false [] 0 [] _ e (keeps_push (s:=s) (tk:=s.toks) _) ⟨0,Heap.get?_push_size _ rfl⟩ ⟨[],rfl,rfl⟩
end
noncomputable def onStr {γ:Type} (o:Option (Option V)) (k:List Nat→Option γ):Option γ:=match o with
  |some (some (.str l))=>k l
  |_=>none
theorem onStr_some {γ:Type} {o:Option (Option V)} {k:List Nat→Option γ} {r:γ} (e:onStr o k=some r):∃ l,o=some (some (.str l))∧k l=some r:=by
  cases o with
  |none=>exact no e
  |some o=>
    cases o with
    |none=>exact no e
    |some v=>
      cases v with
      |str l=>exact ⟨l,rfl,e⟩
      |_=>exact no e
noncomputable def subF (ix:Nat):FE:=fun ρ H=>match ρ[ix]? with
  |some (some (.str l))=>if l.length≤1000 then (match subGo l 64 0 0 false [] with
    |some out=>if sizeL out≤SZ then some (.str out.flatten,H) else none
    |none=>none) else none
  |_=>none
section
variable {B:Base} {n:Nat} {env:Env} {names:List Str} {A:Around} {s s' s'':Shared} {σ:Option Addr} {X:Addr→Prop} {μ ν:List Addr} {ρ ρ':Rho} {H H' H'':Hp} {F:Fl}
inductive SubR (ix:Nat) (ρ:Rho) (H:Hp):V→Hp→Prop
  |mk (l:List Nat) (out:List (List Nat)) (hl:ρ[ix]?=some (some (.str l))) (h1:l.length≤1000) (ho:subGo l 64 0 0 false []=some out) (hz:sizeL out≤SZ):SubR ix ρ H (.str out.flatten) H
theorem subF_eq (ix:Nat) (ρ:Rho) (H:Hp):subF ix ρ H=onStr ρ[ix]? fun l=>if l.length≤1000 then obn (subGo l 64 0 0 false []) fun out=>if sizeL out≤SZ then some (.str out.flatten,H) else none else none:=by kernel_rfl
theorem subF_some {ix:Nat} {R:V} (q:subF ix ρ H=some (R,H')):SubR ix ρ H R H':=by
  obtain ⟨l,h1,q⟩:=onStr_some ((subF_eq ..).symm.trans q)
  obtain ⟨hl,q⟩:=ite_opt q
  obtain ⟨out,h2,q⟩:=bn1 q
  obtain ⟨hz,q⟩:=ite_some q
  cases q
  exact ⟨l,out,h1,hl,h2,hz⟩
theorem S.resub {p0 p1 p2 p3 p4 p5 p6 p7 p8 lp np mp sp pos:Pos} {y:Str} {ix:Nat} (ok:B.Ok) (x:Ext B) (hcode:env.code=.ref B.c) (hcl:closureFor lamS env=pure []) (hg:env.globals=mainGlobals) (hline:(p3.endLine == p5.line)=true)
    (hk1:env.kindOf "_twin_re_1" = some .globalImplicit) (hk2:env.kindOf y=some .local) (hi:names[ix]?=some y) (hd:(y == ("__debug__" : Str))=false)
    (hm:MethAt env (.Name "_twin_re_1" np) "sub" [.Lambda (lamP p0) (lamE p1 p2 p3 p4 p5 p6 p7 p8) lamS lp,.Name y sp] mp pos) :
    SndE B n env names (.Call (.Attribute (.Name "_twin_re_1" np) "sub" mp) [.Lambda (lamP p0) (lamE p1 p2 p3 p4 p5 p6 p7 p8) lamS lp,.Name y sp] [] pos) (subF ix):=fun {A s σ X μ ρ H R H'} hr w q=>by
  cases subF_some q with
  |mk l out hl hlen ho hz=>
  obtain ⟨pa,ta,hmg,hre⟩:=x.re
  have hre1:=hre.off ok w.bs
  refine wpAny_Call_method hm.base hm.few hm.line plainAttrs_rePat slot_rePat_sub type_rePat_sub (glob ok w hk1 hmg rfl ⟨hre1.is,fun a e=>by cases e;exact hre1.nod,callWith_builtin rfl (evalArgs_plain ?_)⟩)
  refine spliced_cons (show wpAny _ A (eval (.Lambda (lamP p0) (lamE p1 p2 p3 p4 p5 p6 p7 p8) lamS lp) env) _ _ _ from lam_at ok x hcode hcl hg hline w fun f s1 w1 t1 m1 hf=>?_)
  obtain ⟨m,hns,hloc⟩:=w1.er.ns
  obtain ⟨v,hv,rv⟩:=hloc ix y _ hi hk2 hl
  obtain ⟨t0,rfl⟩:=rv.inv
  refine spliced_cons (show wpAny _ A (eval (.Name y sp) env) _ _ _ from wpAny_Name (wpAny_loadName_local w1.er.kind hk2 hns hv (spliced_nil ?_)) hd)
  refine sub_call (hre.off ok w1.bs) hf (w1.bs.nolimit ok) (Nat.lt_of_le_of_lt (Nat.add_le_add_right (Nat.le_trans (Nat.le_add_right _ _) hr.2.1) 2) (by decide:602 < 1000)) hlen hz ho fun s2 t k=>?_
  exact PostE.after (ν:=[]) t1 (PostE.of (by rw [List.append_nil];exact w1) k (.str _ _))
end
end
noncomputable def noOcc (x y:Str):Bool:=(Builtin.Str.occurrences x y 0 x.length (x.length+1)).isEmpty
section
variable {prog:Program} {w:World} {A:Around} {E:Value→Shared→Prop} {s:Shared}
theorem rep_none {x y z:Str} {t u v:Tok} {Q:Value→Shared→Prop} (ho:noOcc x y=true) (hq:Q (.str x t) s):wpAny (model prog w) A (call (.builtin "str.replace") [.str x t,.str y u,.str z v]) Q E s:=by
  have hc:((Builtin.Str.occurrences x y 0 x.length (x.length+1)).isEmpty || (y.length == 0 && z.length == 0))=true:=by
    unfold noOcc at ho;rw [ho];rfl
  refine call_gives F.slot_str_replace (typeIs_str _ _ _) F.entry_str_replace (F.args_str_replace_3 _ _ _) (PySem.gives_str_replace x y z t u v fun h=>?_) ?_
  · rw [hc] at h;cases h
  · rw [hc]
    exact hq
noncomputable def repE (q1 q2 q3 q4 q5 q6 q7 q8 q9:Pos):PySem.Expr:=.Call (.Attribute (.Call (.Attribute (.Name "s" q1) "replace" q2) [.Constant (.str "\\") 0 q3,.Constant (.str "\\\\") 0 q4] [] q5) "replace" q6) [.Constant (.str "-") 0 q7,.Constant (.str "\\-") 0 q8] [] q9
noncomputable def repL (l:List Nat):List Nat:=(Txt.replace ⟨l.toArray⟩ "-" "\\-").cps.toList
theorem rep_eval {env:Env} {m:Str→Option Value} {l:List Nat} {t:Tok} {q1 q2 q3 q4 q5 q6 q7 q8 q9:Pos} (hk:env.scope.kind=.function) (hl:env.kindOf "s" = some .local) (hn:s.heap.Ns env.locals m) (hm:m "s" = some (.str ⟨l.toArray⟩ t))
    (ho:noOcc ⟨l.toArray⟩ "\\" = true) (hz:l.length≤1000) (h1:(q2.endLine == q5.line)=true) (h2:(q6.endLine == q9.line)=true) {Q:Value→Shared→Prop}
    (h:∀ s' t',Keeps s s'→Q (.str ⟨(repL l).toArray⟩ t') s'):wpAny (model prog w) A (eval (repE q1 q2 q3 q4 q5 q6 q7 q8 q9) env) Q E s:=by
  unfold repE
  refine wpAny_Call_method rfl rfl h2 F.plainAttrs_str F.slot_str_replace F.type_str_replace ?_
  refine wpAny_Call_method rfl rfl h1 F.plainAttrs_str F.slot_str_replace F.type_str_replace (wpAny_Name (wpAny_loadName_local hk hl hn hm ?_) rfl)
  refine ⟨typeIs_str ..,fun a e=>(by cases e),?_⟩
  refine callWith_builtin rfl (evalArgs_plain (spliced_cons (show wpAny _ A (eval (.Constant (.str "\\") 0 q3) env) _ _ _ from Constant_str ?_)))
  refine spliced_cons (show wpAny _ A (eval (.Constant (.str "\\\\") 0 q4) env) _ _ _ from Constant_str (spliced_nil ?_))
  refine rep_none ho ?_
  refine ⟨typeIs_str ..,fun a e=>(by cases e),?_⟩
  refine callWith_builtin rfl (evalArgs_plain (spliced_cons (show wpAny _ A (eval (.Constant (.str "-") 0 q7) env) _ _ _ from Constant_str ?_)))
  refine spliced_cons (show wpAny _ A (eval (.Constant (.str "\\-") 0 q8) env) _ _ _ from Constant_str (spliced_nil ?_))
  refine SC.replaceW (Nat.succ_ne_zero _) (Nat.succ_ne_zero _) (Nat.ne_of_lt (Nat.lt_succ_self _)) (by decide +kernel) (by rw [str_len];omega) (by decide) fun t' k=>?_
  have e:Txt.replace ⟨l.toArray⟩ "-" "\\-" = ⟨(repL l).toArray⟩:=by unfold repL;simp
  rw [e]
  exact h _ _ keeps_tok
end
noncomputable def jgF (ix:Nat):FE:=fun ρ H=>match ρ[ix]? with
  |some (some (.lst i))=>(match H[i]? with
    |some l=>(match strs? l with
      |some ts=>if (ts.all fun t=>noOcc ⟨t.toArray⟩ "\\" && decide (t.length≤1000))=true∧ts.length≤1000∧sizeL (ts.map repL)+(ts.map repL).length * 1≤SZ then some (.str (joinL [45] (ts.map repL)),H) else none
      |none=>none)
    |none=>none)
  |_=>none
noncomputable def genS:Scope:={ kind:=.function,names:=[(Str.ofString ".0",NameKind.local),(Str.ofString "s",NameKind.local)],isGenerator:=true,isCoroutine:=false,more:=[] }
theorem str_dash:("-" : Str)=⟨([45]:List Nat).toArray⟩:=by kernel_rfl
theorem walks_len {α:Type} (l:List α):(l.toArray).size=l.length:=by simp
theorem passing_all (n:Nat):passing (fun Z=>true) n 0=List.range n:=by
  unfold passing
  simp
section
variable {B:Base} {n:Nat} {env:Env} {names:List Str} {A:Around} {s s' s'':Shared} {σ:Option Addr} {X:Addr→Prop} {μ ν:List Addr} {ρ ρ':Rho} {H H' H'':Hp} {F:Fl}
theorem strs_some {x:V} {l:List V} {ts:List (List Nat)} (e:strs? (x::l)=some ts):∃ t ts',x=.str t∧strs? l=some ts'∧ts=t::ts':=by
  cases x with
  |str t=>obtain ⟨ts',e1,rfl⟩:=Option.map_eq_some_iff.mp (show (strs? l).map (t :: ·)=some ts from e);exact ⟨t,ts',rfl,e1,rfl⟩
  |_=>exact no e
theorem texts_rel {h:Heap} {l:List V}:∀ {vs:List Value} {ts:List (List Nat)},VRs σ X μ h vs l→strs? l=some ts→∀ (i:Nat) (v:Value),vs[i]?=some v→∃ t,v=.str ⟨(ts.getD i []).toArray⟩ t∧i < ts.length:=by
  induction l with
  |nil=>intro vs ts r e i v h;rw [show vs=[] from r.inv] at h;cases h
  |cons x l ih=>
    intro vs ts r e i v h
    obtain ⟨w,vs,rfl,r,rs⟩:=r.inv
    obtain ⟨t,ts,rfl,e1,rfl⟩:=strs_some e
    cases i with
    |zero=>cases h;obtain ⟨u,rfl⟩:=r.inv;exact ⟨u,rfl,Nat.zero_lt_succ _⟩
    |succ i=>obtain ⟨u,h1,h2⟩:=ih rs e1 i v h;exact ⟨u,h1,Nat.succ_lt_succ h2⟩
theorem strs_len:∀ {l:List V} {ts:List (List Nat)},strs? l=some ts→ts.length=l.length
  |[],ts,e=>by cases e;rfl
  |x::l,ts,e=>by
    obtain ⟨t,ts,rfl,e1,rfl⟩:=strs_some e
    exact congrArg Nat.succ (strs_len e1)
inductive JgI (ix:Nat) (ρ:Rho) (H:Hp):V→Hp→Prop
  |mk (i:Nat) (l:List V) (ts:List (List Nat)) (hl:ρ[ix]?=some (some (.lst i))) (hH:H[i]?=some l) (hts:strs? l=some ts) (hc1:(ts.all fun t=>noOcc ⟨t.toArray⟩ "\\" && decide (t.length≤1000))=true) (hc2:ts.length≤1000) (hc3:sizeL (ts.map repL)+(ts.map repL).length * 1≤SZ):JgI ix ρ H (.str (joinL [45] (ts.map repL))) H
theorem jgF_eq (ix:Nat) (ρ:Rho) (H:Hp):jgF ix ρ H=obo ρ[ix]? fun v=>vLst v fun i=>obn H[i]? fun l=>obn (strs? l) fun ts=>if (ts.all fun t=>noOcc ⟨t.toArray⟩ "\\" && decide (t.length≤1000))=true∧ts.length≤1000∧sizeL (ts.map repL)+(ts.map repL).length * 1≤SZ then some (.str (joinL [45] (ts.map repL)),H) else none:=by kernel_rfl
theorem jgF_some {ix:Nat} {R:V} (q:jgF ix ρ H=some (R,H')):JgI ix ρ H R H':=by
  obtain ⟨v,hl,q⟩:=obo_some ((jgF_eq ..).symm.trans q)
  obtain ⟨i,rfl,q⟩:=vlst q
  obtain ⟨l,hH,q⟩:=bn1 q
  obtain ⟨ts,hts,q⟩:=bn1 q
  obtain ⟨hc,q⟩:=ite_some q
  cases q
  exact ⟨i,l,ts,hl,hH,hts,hc.1,hc.2.1,hc.2.2⟩
theorem acc_rel {m:Nat} {lt:List (Str×Tok)} {ts:List (List Nat)} (hm:m=ts.length) (hacc:ItemsOf (fun j y=>∃ i,(passing (fun Z=>true) m 0)[j]?=some i∧∃ t,y=Value.str ⟨(repL (ts.getD i [])).toArray⟩ t) (strValues lt).toArray (passing (fun Z=>true) m 0).length) :
    lt.map (·.1)=(ts.map repL).map fun t=>(⟨t.toArray⟩ : Str):=by
  rw [passing_all] at hacc
  have hsz:lt.length=ts.length:=by rw [← hm];simpa [strValues] using hacc.1
  apply List.ext_getElem?
  intro j
  by_cases hj:j < ts.length
  · have hj':j < lt.length:=hsz▸hj
    obtain ⟨i,hi1,u,hv⟩:=hacc.2 j (.str lt[j].1 lt[j].2) (by simp [strValues,List.getElem?_eq_getElem hj'])
    have hij:i=j:=by
      obtain ⟨_,e⟩:=List.getElem?_eq_some_iff.mp hi1
      simpa using e.symm
    subst hij
    injection hv with h1 _
    simp [List.getElem?_eq_getElem hj',hj,h1,List.getD_eq_getElem?_getD]
  · rw [List.getElem?_eq_none (by simpa [hsz] using Nat.le_of_not_lt hj),List.getElem?_eq_none (by simpa using Nat.le_of_not_lt hj)]
theorem gen_code (ok:B.Ok) (hcode:env.code=.ref B.c) (b2:Bs B s) {gp:Pos} {qn:Str} {Q:Value→Shared→Prop} (hQ:∀ code s4,Bs B s4→(∀ b o,b ≠ B.P→s.heap.get? b=some o→s4.heap.get? b=some o)→s.heap.objs.size≤s4.heap.objs.size→Q code s4) :
    wpAny (model B.prog B.w) A (genexprCode env gp qn genS) Q NoE s:=by
  obtain ⟨ps,hP,ht,hcs⟩:=b2.tab
  have C:=b2.codeHd ok
  cases hf:codeAmong gp ps.toList with
  |some cv=>exact wpAny_genexprCode_hit hcode (C.code hP ht) hf (hQ _ _ b2 (fun b o Z e=>e) (Nat.le_refl _))
  |none=>exact wpAny_genexprCodeX hcode (C.code hP ht) (C.tab hP) hf fun c' h' tk hx hge hlt' hco hrec htb Z=>hQ _ _ (b2.grown ok hP ht hcs hx hrec htb.2) (fun b o hb e=>hx b o hb e) (Nat.le_trans hge (Nat.le_of_lt hlt'))
noncomputable abbrev LIt (la:Addr):Obj:={ cls:=.type "list_iterator",data:=.fields #[.ref la,.int 0 0] }
theorem it_new (bs:Bs B s) {la:Addr} {vs:Array Value} {nn:Nat} {Q:Value→Shared→Prop} (hpl:s.heap.get? la=some { cls:=.type "list",data:=.seq vs nn }) (h:∀ I s1,I=s.heap.objs.size→Bs B s1→s1.heap.get? I=some (LIt la)→(∀ b o,s.heap.get? b=some o→s1.heap.get? b=some o)→s1.heap.objs.size=I+1→Q (.ref I) s1) :
    wpAny (model B.prog B.w) A (pyIter (.ref la)) Q NoE s:=
  wpAny_pyIter_list (items:=vs) ⟨_,hpl,rfl,_,rfl⟩ (h _ _ rfl (bs.keeps (keeps_push _)) (Heap.get?_push_size _ rfl) (fun b o e=>Heap.get?_push_of_some _ e) (Heap.size_push ..))
theorem bs_up {s4:Shared} {I la:Addr} {k:Tok} (hIn:∀ o,B.h1.get? I ≠ some o) (hIP:I ≠ B.P) (b4:Bs B s4) (hI4:s4.heap.get? I=some (LIt la)) (up:∀ b o,b ≠ I→s4.heap.get? b=some o→s'.heap.get? b=some o) (hg:AllBare s'.gens) (ho:s'.os=s4.os):Bs B { s' with toks:=k }:=by
  obtain ⟨ps4,hP4,ht4,hcs4⟩:=b4.tab
  refine ⟨fun b o e hne=>up b o (by rintro rfl;exact hIn _ e) (b4.keep b o e hne),⟨ps4,up _ _ hIP.symm hP4,ht4,fun pos2 c2 h2=>?_⟩,hg,ho.trans b4.os⟩
  obtain ⟨q,c3,o,vs3,t3,e1,e2,e3,e4⟩:=hcs4 _ _ h2
  refine ⟨q,c3,o,vs3,t3,e1,up _ _ ?_ e2,e3,e4⟩
  rintro rfl
  rw [hI4] at e2;cases e2;cases e3;simp at e4
theorem jg_end (w:Wd B σ X env names ρ μ H s) {s4:Shared} {I la:Addr} {k t':Tok} {t:List Nat} (hI:I=s.heap.objs.size) (b4:Bs B s4) (hI4:s4.heap.get? I=some (LIt la)) (old:∀ b o,b ≠ B.P→s.heap.get? b=some o→s4.heap.get? b=some o) (up:∀ b o,b ≠ I→s4.heap.get? b=some o→s'.heap.get? b=some o) (hg:AllBare s'.gens) (ho:s'.os=s4.os) :
    PostE B env names σ X ρ μ s H (.str t) (.str ⟨t.toArray⟩ t') { s' with toks:=k }:=by
  obtain ⟨ps,eP,_⟩:=w.bs.tab
  have hIP:I ≠ B.P:=by rw [hI];exact Nat.ne_of_gt (Heap.lt_size eP)
  have hIn:∀ o,B.h1.get? I ≠ some o:=fun o e=>by
    have e':=w.bs.keep _ _ e hIP
    rw [hI] at e'
    exact Nat.lt_irrefl _ (Heap.lt_size e')
  have hne:∀ b o,s.heap.get? b=some o→b ≠ I:=fun b o e=>by rw [hI];exact Nat.ne_of_lt (Heap.lt_size e)
  have all:∀ b o,b ≠ B.P→s.heap.get? b=some o→s'.heap.get? b=some o:=fun b o hb e=>up b o (hne b o e) (old b o hb e)
  obtain ⟨ps4,hP4,_⟩:=b4.tab
  have bk:=w.back (s':={ s' with toks:=k }) (H':=H) (bs_up hIn hIP b4 hI4 up hg ho) (D:=fun a=>a ∈ ([]:List Addr)) (fun a h=>(nomatch h)) ⟨fun b o e Z hp=>all b o hp e,fun b o e=>by
    by_cases hb:b=B.P
    · subst hb;exact ⟨_,up _ _ hIP.symm hP4⟩
    · exact ⟨o,all b o hb e⟩⟩ (fun Z Z Z Z Z h=>(nomatch h)) (fun Z Z Z Z=>rfl) rfl
  exact ⟨[],by rw [List.append_nil];exact bk.1,.str _ _,bk.2.1⟩
theorem ex8 {a b c d e f g h:Type} {P:a→b→c→d→e→f→g→h→Prop} (x1:a) (x2:b) (x3:c) (x4:d) (x5:e) (x6:f) (x7:g) (x8:h) (p:P x1 x2 x3 x4 x5 x6 x7 x8):∃ x1 x2 x3 x4 x5 x6 x7 x8,P x1 x2 x3 x4 x5 x6 x7 x8:=⟨x1,x2,x3,x4,x5,x6,x7,x8,p⟩
theorem S.joinGen {q1 q2 q3 q4 q5 q6 q7 q8 q9 px cp gp kp mp pos:Pos} {y:Str} {ix:Nat} (ok:B.Ok) (x:Ext B) (hcode:env.code=.ref B.c) (hcl:closureFor genS env=pure []) (hg:env.globals=mainGlobals) (h1:(q2.endLine == q5.line)=true) (h2:(q6.endLine == q9.line)=true)
    (hk2:env.kindOf y=some .local) (hi:names[ix]?=some y) (hd:(y == ("__debug__" : Str))=false)
    (hm:MethAt env (.Constant (.str "-") 0 kp) "join" [.GeneratorExp (repE q1 q2 q3 q4 q5 q6 q7 q8 q9) [⟨.Name "s" px,.Name y cp,[],0⟩] genS gp] mp pos) :
    SndE B n env names (.Call (.Attribute (.Constant (.str "-") 0 kp) "join" mp) [.GeneratorExp (repE q1 q2 q3 q4 q5 q6 q7 q8 q9) [⟨.Name "s" px,.Name y cp,[],0⟩] genS gp] [] pos) (jgF ix):=fun {A s σ X μ ρ H R H'} hr w q=>by
  obtain ⟨i,l,ts,hl,hH,hts,hc1,hc2,hc3⟩:=jgF_some q
  refine wpAny_Call_method hm.base hm.few hm.line F.plainAttrs_str F.slot_str_join F.type_str_join (Constant_str ?_)
  refine ⟨typeIs_str ..,fun a e=>(by cases e),?_⟩
  refine callWith_builtin rfl (evalArgs_plain (spliced_cons (show wpAny _ A (eval (.GeneratorExp (repE q1 q2 q3 q4 q5 q6 q7 q8 q9) [⟨.Name "s" px,.Name y cp,[],0⟩] genS gp) env) _ _ _ from ?_)))
  have w1:Wd B σ X env names ρ μ H { s with toks:=s.toks+1 }:=w.keeps keeps_tok
  obtain ⟨m,hns,hloc⟩:=w1.er.ns
  obtain ⟨v,hv,rv⟩:=hloc ix y _ hi hk2 hl
  obtain ⟨la,rfl,hmu⟩:=rv.inv
  obtain ⟨vs,⟨nn,hpl⟩,rvs⟩:=w1.cr.cell _ _ _ hmu hH
  have hvl:vs.toArray.size=ts.length:=by rw [walks_len,rvs.length,strs_len hts]
  refine wpAny_GeneratorExp_walksQD hr.1 rfl hcl (by intro z hz;have hz:z ∈ genS.names:=hz;simp [genS] at hz;rcases hz with rfl | rfl<;>decide) (by kernel_rfl) (by kernel_rfl) rfl (Nat.lt_of_le_of_lt (Nat.le_trans (Nat.le_add_right _ _) hr.2.1) (by decide:600 < 1000)) ?_ (fun Z=>rfl)
  refine wpAny_Name (wpAny_loadName_local w1.er.kind hk2 hns hv (it_new w1.bs hpl fun I s1 hI b1 hI1 old1 hs1=>?_)) hd
  refine ⟨b1.nolimit ok,gen_code ok hcode b1 fun code s4 b4 hk4 hs4=>?_⟩
  rw [hs1] at hs4
  obtain ⟨bm,ob,hb1,hb2,hb3,hb4,hb5,hb6,hb7,hb8⟩:=b4.bi ok x
  refine wpAny_builtinsFor (by rw [hg];exact (b4.glob ok).1) hb1 hb2 hb5 hb6 hb7 hb8 ?_
  obtain ⟨ps,eP,_⟩:=w.bs.tab
  have hlt:la < s.heap.objs.size:=Heap.lt_size hpl
  have hIP:I ≠ B.P:=hI▸Nat.ne_of_gt (Heap.lt_size eP)
  have hlP:la ≠ B.P:=by
    rintro rfl
    have hpl':s.heap.get? B.P=some _:=hpl
    rw [eP] at hpl';cases hpl'
  have hlI:la < I:=hI▸hlt
  have old:∀ b o,b ≠ B.P→s.heap.get? b=some o→s4.heap.get? b=some o:=fun b o hb e=>hk4 b o hb (old1 b o e)
  have hl4:=old _ _ hlP hpl
  have hI4:=hk4 _ _ hIP hI1
  refine ex8 I [I,la] [I] vs.toArray.size (fun i v=>vs.toArray[i]?=some v) (fun i h=>h.IsListIter I la i∧h.IsList la vs.toArray) (fun Z=>true) (fun i v=>∃ t,v=.str ⟨(repL (ts.getD i [])).toArray⟩ t) ⟨rfl,(fun A' hA=>Walks.list hA _ _ (Nat.ne_of_lt hlI) _),⟨⟨_,hI4,rfl,rfl⟩,⟨_,hl4,rfl,_,rfl⟩⟩,?_,b4.nolimit ok,?_,?_,?_⟩
  · intro b hb
    rcases List.mem_cons.mp hb with rfl | hb
    · exact hs4
    · cases List.mem_singleton.mp hb;exact Nat.lt_trans hlI hs4
  · intro hm
    obtain ⟨mc,⟨o,es,ep,ho,hd',_⟩,_⟩:=w.bs.nolimit ok
    exact absurd ((List.mem_singleton.mp hm).trans hI) (Nat.ne_of_lt (Heap.lt_size ho))
  · intro href hhref
    refine ⟨fun A' E' i v s₂ m₂ hA hD hU hP hn hm hkp=>wpAny_pure ⟨rfl,keeps_refl⟩,fun A' E' i v s₂ m₂ hA hD hU hP Z hn hm hkp=>?_⟩
    obtain ⟨t,rfl,hit⟩:=texts_rel rvs hts i v (by simpa using hP)
    have hmem:ts.getD i [] ∈ ts:=by simp [List.getD_eq_getElem?_getD,hit]
    have hq:=List.all_eq_true.mp hc1 _ hmem
    simp only [Bool.and_eq_true,decide_eq_true_eq] at hq
    exact rep_eval (by rfl) (by kernel_rfl) hn hm hq.1 hq.2 h1 h2 fun s' t' k=>⟨⟨t',rfl⟩,k⟩
  · intro a h5 tk gs hgb hlt5 hsz5 hk5 W hat
    refine spliced_nil (SC.joinGen W.in4_2 (fun i s' st=>st.1.typeIs) hat ?_ List.mem_cons_self ?_ ?_ ?_)
    · intro b hb
      show b < h5.objs.size
      rw [hsz5]
      rcases List.mem_cons.mp hb with rfl | hb
      · exact Nat.lt_succ_self _
      · rcases List.mem_cons.mp hb with rfl | hb
        · exact Nat.lt_succ_of_lt hlt5
        · exact Nat.lt_succ_of_lt (Nat.lt_trans (List.mem_range.mp hb) hlt5)
    · rintro j v ⟨i,_,t,rfl⟩
      exact ⟨_,t,rfl⟩
    · intro s' lt hmv hacc
      rw [acc_rel hvl hacc,str_dash]
      refine ⟨join_fit hc3,fun t' k=>?_⟩
      rw [show Txt.join ⟨([45]:List Nat).toArray⟩ ((ts.map repL).map fun t=>(⟨t.toArray⟩ : Str))=⟨(joinL [45] (ts.map repL)).toArray⟩ from (StrLaws.glued_eq_join _ _).trans (join_eq _ _)]
      refine jg_end w1 hI b4 hI4 old (fun b o hb e=>hmv.heap b o (fun hm=>?_) (hk5 b o e)) (AllBare.moved (b4.gens.push hgb) hmv.gens) hmv.os
      rcases List.mem_cons.mp hm with rfl | hm
      · exact Nat.lt_irrefl _ (Heap.lt_size e)
      · exact hb (List.mem_singleton.mp hm)
    · rw [passing_all,List.length_range,hvl,← sz_eq];simp only [SZ];omega
end
section
variable {prog:Program} {w:World} {A:Around} {E:Value→Shared→Prop} {s:Shared}
theorem sub_key_lookup:isSubtype (.type "KeyError") (.type "LookupError")=pure true:=by rw [isSubtype_type];kernel_rfl
theorem tab_miss {d:Addr} {f:Int→Option Value} {c:Nat} (hm:s.heap.MapOf (intKind prog w) d f) (hd:(d == sysModules)=false) (hh:A.handled=none) (hv:f c=none) {Q:Builtin.Str.Mapped→Shared→Prop}
    (h:∀ s',Keeps s s'→Q .keep s'):wpAny (model prog w) A (Builtin.Str.tableLookup (.ref d) c) Q E s:=by
  unfold Builtin.Str.tableLookup
  refine wpAny_bind (wpAny_attempt (wpAny_bind (wpAny_mkInt ?_)))
  refine wpAny_getItem_missing_of (k:=(c:Int)) (intKind_is prog w c _) hd hh hm hv fun h' e ne=>?_
  obtain ⟨ob,tt,h1,h2,h3⟩:=ne.there
  have hT:({ s with heap:=h',toks:=s.toks+1+1 }:Shared).TypeIs (.ref e) "KeyError" := ⟨ob,h1,h2⟩
  refine wpAny_bind (wpAny_isInstance hT sub_key_lookup ?_)
  refine if_so rfl ?_
  refine wpAny_bind (wpAny_rule (wpAny_pure ?_))
  exact h _ (keeps_of ne.keeps)
theorem tab_hit {d:Addr} {f:Int→Option Value} {c:Nat} {x:Str} {t:Tok} (hm:s.heap.MapOf (intKind prog w) d f) (hv:f c=some (.str x t)) {Q:Builtin.Str.Mapped→Shared→Prop}
    (h:∀ s',Keeps s s'→Q (.text x) s'):wpAny (model prog w) A (Builtin.Str.tableLookup (.ref d) c) Q E s:=by
  unfold Builtin.Str.tableLookup
  refine wpAny_bind (wpAny_attempt (wpAny_bind (wpAny_mkInt ?_)))
  refine wpAny_getItem_of (k:=(c:Int)) (intKind_is prog w c _) hm hv ?_
  refine wpAny_bind (m:=asInt? (.str x t)) (wpAny_bind (wpAny_of_eq (a:=()) (by rfl) (wpAny_pure ?_)))
  refine wpAny_bind (m:=asStr? (.str x t)) (wpAny_pure ?_)
  exact wpAny_pure (h _ keeps_tok)
theorem map_keeps {d:Addr} {f:Int→Option Value} {s1:Shared} (hm:s.heap.MapOf (intKind prog w) d f) (k1:Keeps s s1):s1.heap.MapOf (intKind prog w) d f:=by
  obtain ⟨o,es,ep,e,r⟩:=hm
  exact ⟨o,es,ep,keeps_get k1 e,r⟩
theorem wp_forIn_one {α:Type} {M:Model} {c:Nat} {b:α} {f:Nat→α→Sem (ForInStep α)} {Q:α→Shared→Prop} (h:wpAny M A (f c b) (fun r s'=>wpAny M A (match r with
    | .done b=>pure b
    | .yield b=>pure b) Q E s') E s):wpAny M A (forIn #[c] b f) Q E s:=by
  rw [← Array.forIn_toList,List.forIn_cons]
  refine wpAny_bind (wpAny_mono h (fun r s' h=>?_) fun Z Z x=>x)
  cases r with
  |done b=>exact h
  |yield b=>exact h
theorem tr_body {d:Addr} {f:Int→Option Value} {c:Nat} {t:Tok} {out:List Nat} (hm:s.heap.MapOf (intKind prog w) d f) (hd:(d == sysModules)=false) (hh:A.handled=none) (hc:c < 128)
    (hf:(f c=none∧out=[c])∨(∃ x u,f c=some (.str x u)∧x.length=2∧x=⟨out.toArray⟩)) {P:Fin→Shared→Prop} (h:∀ s' t',Keeps s s'→P (.done (.ret (.str ⟨out.toArray⟩ t'))) s') :
    wpAny (model prog w) A (Builtin.«str.translate» ⟨[.str ⟨#[c]⟩ t,.ref d],[]⟩) P E s:=by
  unfold Builtin.«str.translate» Builtin.Str.strOneArg
  refine wpAny_bind (wpAny_bind (wpAny_of_eq (a:=(.str ⟨#[c]⟩ t,.ref d)) (by rfl) ?_))
  refine wpAny_bind (wpAny_of_eq (a:=(⟨#[c]⟩ : Str)) (by rfl) (wpAny_pure ?_))
  refine if_no rfl ?_
  have hall:(#[c].all fun x=>decide (x < 128))=true:=by simp [hc]
  rw [hall]
  refine wpAny_bind (wp_forIn_one (if_no (by decide) (if_so rfl ?_)))
  rcases hf with ⟨hf,rfl⟩ | ⟨x,u,hf,hx,hxo⟩
  · refine wpAny_bind (tab_miss hm hd hh hf fun s1 k1=>?_)
    refine wpAny_bind (wpAny_pure (wpAny_pure (wpAny_pure ?_)))
    refine if_no rfl ?_
    refine wpAny_bind (wpAny_mkStr ?_ (by show (#[c]).size≤_;rw [← sz_eq];simp only [SZ];simp))
    exact wpAny_pure (h _ _ (keeps_trans k1 keeps_tok))
  · refine wpAny_bind (tab_hit hm hf fun s1 k1=>?_)
    dsimp only
    rw [if_neg (by rw [hx];simp)]
    refine wpAny_bind (wpAny_pure ?_)
    refine wpAny_bind (wpAny_rule ?_)
    refine if_no rfl ?_
    refine wpAny_bind (tab_hit (map_keeps hm k1) hf fun s2 k2=>?_)
    refine wpAny_pure (wpAny_pure ?_)
    refine if_no (by rw [hx];rfl) ?_
    have e:(([x]:List Str).reverse.foldl (fun acc p=>acc++p.cps) #[]:Array Nat)=out.toArray:=by rw [hxo];simp
    rw [e]
    refine wpAny_bind (wpAny_mkStr ?_ (by rw [← hxo,hx,← sz_eq];decide))
    exact wpAny_pure (h _ _ (keeps_trans (keeps_trans k1 k2) keeps_tok))
end
noncomputable def isStrF (ix:Nat):FE:=fun ρ H=>match ρ[ix]? with
  |some (some (.str _))=>some (.bool true,H)
  |_=>none
noncomputable def escL (l:List Nat):Option (List Nat):=if l=[38] then some [92,38] else if l=[45] then some [92,45] else if l=[97] then some [97] else if l=[33] then some [33] else none
theorem escL_some {l r:List Nat} (e:escL l=some r):(l=[38]∧r=[92,38])∨(l=[45]∧r=[92,45])∨(l=[97]∧r=[97])∨(l=[33]∧r=[33]):=by
  unfold escL at e
  by_cases h:l=[38]
  · rw [if_pos h] at e;exact .inl ⟨h,(Option.some.inj e).symm⟩
  rw [if_neg h] at e
  by_cases h:l=[45]
  · rw [if_pos h] at e;exact .inr (.inl ⟨h,(Option.some.inj e).symm⟩)
  rw [if_neg h] at e
  by_cases h:l=[97]
  · rw [if_pos h] at e;exact .inr (.inr (.inl ⟨h,(Option.some.inj e).symm⟩))
  rw [if_neg h] at e
  obtain ⟨h,e⟩:=ite_some e
  exact .inr (.inr (.inr ⟨h,e.symm⟩))
noncomputable def trF (ix:Nat):FE:=fun ρ H=>match ρ[ix]? with
  |some (some (.str l))=>(match escL l with
    |some r=>some (.str r,H)
    |none=>none)
  |_=>none
section
variable {B:Base} {n:Nat} {env:Env} {names:List Str} {A:Around} {s s' s'':Shared} {σ:Option Addr} {X:Addr→Prop} {μ ν:List Addr} {ρ ρ':Rho} {H H' H'':Hp} {F:Fl}
theorem isStrF_eq (ix:Nat) (ρ:Rho) (H:Hp):isStrF ix ρ H=onStr ρ[ix]? fun Z=>some (.bool true,H):=by kernel_rfl
theorem trF_eq (ix:Nat) (ρ:Rho) (H:Hp):trF ix ρ H=onStr ρ[ix]? fun l=>obn (escL l) fun r=>some (.str r,H):=by kernel_rfl
theorem S.isStr {np xp sp pos:Pos} {y:Str} {ix:Nat} (ok:B.Ok) (bm:BM B) (x:Ext B) (hk1:env.kindOf "isinstance" = some .globalImplicit) (hk2:env.kindOf y=some .local) (hk3:env.kindOf "str" = some .globalImplicit) (hi:names[ix]?=some y) (hd:(y == ("__debug__" : Str))=false) :
    SndE B n env names (.Call (.Name "isinstance" np) [.Name y xp,.Name "str" sp] [] pos) (isStrF ix):=fun {A s σ X μ ρ H R H'} hr w q=>by
  obtain ⟨l,hl,q⟩:=onStr_some ((isStrF_eq ..).symm.trans q)
  cases q
  refine wpAny_Call_NameR (globB ok w hk1 bm.isinstance (v:=.builtin "isinstance") (by kernel_rfl) (by decide +kernel) (by kernel_rfl) ?_)
  obtain ⟨m,hns,hloc⟩:=w.er.ns
  obtain ⟨v,hv,rv⟩:=hloc ix y _ hi hk2 hl
  obtain ⟨t0,rfl⟩:=rv.inv
  refine callWith_builtin rfl (evalArgs_plain (spliced_cons (show wpAny _ A (eval (.Name y xp) env) _ _ _ from wpAny_Name (wpAny_loadName_local w.er.kind hk2 hns hv ?_) hd)))
  refine spliced_cons (show wpAny _ A (eval (.Name "str" sp) env) _ _ _ from globB ok w hk3 x.str (v:=.type "str") (by kernel_rfl) (by decide +kernel) (by kernel_rfl) (spliced_nil ?_))
  exact IsiPair.str_str (PostE.of w keeps_refl (.bool _))
theorem Ext.tbl {B:Base} {s:Shared} (x:Ext B) (ok:B.Ok) (b:Bs B s):∃ d,B.mg "_special_chars_map" = some (.ref d)∧∀ {A:Around} {l r:List Nat} {t:Tok} {E:Value→Shared→Prop} {Q:Value→Shared→Prop},A.handled=Option.none→escL l=some r→(∀ s' t',Keeps s s'→Q (.str ⟨r.toArray⟩ t') s')→
    wpAny (model B.prog B.w) A (PySem.call (Value.builtin "str.translate") [Value.str ⟨l.toArray⟩ t,Value.ref d]) Q E s:=by
  obtain ⟨d,f,hmg,hmap,hsys,⟨u1,h38⟩,⟨u2,h45⟩,h97,h33⟩:=x.sm
  have hmap1:s.heap.MapOf (intKind B.prog B.w) d f:=by
    obtain ⟨o,es,ep,e,hx,hdt,rr⟩:=hmap
    exact ⟨o,es,ep,b.keep _ _ e (by rintro rfl;rw [ok.ptab] at e;cases e;cases hdt),hx,hdt,rr⟩
  refine ⟨d,hmg,fun {A l r t E Q} hh he hQ=>?_⟩
  have key:∀ (c:Nat),l=[c]→c < 128→((f c=Option.none∧r=[c])∨(∃ x u,f c=some (Value.str x u)∧x.length=2∧x=⟨r.toArray⟩))→
      wpAny (model B.prog B.w) A (PySem.call (Value.builtin "str.translate") [Value.str ⟨l.toArray⟩ t,Value.ref d]) Q E s:=by
    intro c hlc hc hf
    subst hlc
    exact wpAny_call_entry F.slot_str_translate (typeIs_str ..) F.entry_str_translate (tr_body (A:=A.in1) hmap1 hsys hh hc hf fun s' t' k=>⟨_,rfl,hQ _ _ k⟩) (F.args_str_translate_2 _ _)
  rcases escL_some he with ⟨rfl,rfl⟩ | ⟨rfl,rfl⟩ | ⟨rfl,rfl⟩ | ⟨rfl,rfl⟩
  · exact key 38 rfl (by decide) (.inr ⟨_,u1,h38,rfl,rfl⟩)
  · exact key 45 rfl (by decide) (.inr ⟨_,u2,h45,rfl,rfl⟩)
  · exact key 97 rfl (by decide) (.inl ⟨h97,rfl⟩)
  · exact key 33 rfl (by decide) (.inl ⟨h33,rfl⟩)
theorem S.trans {np mp sp pos:Pos} {y:Str} {ix:Nat} (ok:B.Ok) (x:Ext B) (hk2:env.kindOf y=some .local) (hk3:env.kindOf "_special_chars_map" = some .globalImplicit) (hi:names[ix]?=some y) (hd:(y == ("__debug__" : Str))=false)
    (hm:MethAt env (.Name y np) "translate" [.Name "_special_chars_map" sp] mp pos) :
    SndE B n env names (.Call (.Attribute (.Name y np) "translate" mp) [.Name "_special_chars_map" sp] [] pos) (trF ix):=fun {A s σ X μ ρ H R H'} hr w q=>by
  obtain ⟨l,hl,q⟩:=onStr_some ((trF_eq ..).symm.trans q)
  obtain ⟨r,he,q⟩:=bn1 q
  cases q
  obtain ⟨d,hmg,tb⟩:=x.tbl ok w.bs
  obtain ⟨m,hns,hloc⟩:=w.er.ns
  obtain ⟨v,hv,rv⟩:=hloc ix y _ hi hk2 hl
  obtain ⟨t,rfl⟩:=rv.inv
  refine wpAny_Call_method hm.base hm.few hm.line F.plainAttrs_str F.slot_str_translate F.type_str_translate (wpAny_Name (wpAny_loadName_local w.er.kind hk2 hns hv ⟨typeIs_str ..,fun a e=>(by cases e),?_⟩) hd)
  refine callWith_builtin rfl (evalArgs_plain (spliced_cons (show wpAny _ A (eval (.Name "_special_chars_map" sp) env) _ _ _ from glob ok w hk3 hmg rfl (spliced_nil ?_))))
  exact tb hr.1 he fun s' t' k=>PostE.of w k (VR.str _ _)
noncomputable def noS:FS:=fun Z Z=>none
theorem bnever {ss:List Stmt}:SndB B n env names ss noS:=fun Z Z Z Z Z Z Z Z Z Z hr w q=>by cases q
end
noncomputable def find4 (x y:Str) (i j:Int):Int:=match Builtin.Str.occurrences x y (fromIndex x.length i) (min (fromIndex x.length j) x.length) 1 with
  |k::_=>(k:Int)
  |[]=>-1
open Builtin Builtin.Str in
theorem gives_find4 (x y:Str) (i j:Int) (t u v q:Tok):Gives («str.find» ⟨[.str x t,.str y u,.int i v,.int j q],[]⟩) (.int (find4 x y i j)):=by
  show Gives (match occurrences x y (fromIndex x.length i) (min (fromIndex x.length j) x.length) 1 with | k::_=>retInt k | []=>(do rule "str.find.not-found";retInt (-1))) _
  unfold find4
  cases occurrences x y (fromIndex x.length i) (min (fromIndex x.length j) x.length) 1 with
  |nil=>exact .rule (.of_eq rfl)
  |cons k _=>exact .of_eq rfl
noncomputable def findG:Hp→List V→Option V:=fun Z xs=>lC xs fun a t=>lC t fun b t=>lC t fun c t=>l1 t fun d=>vStr a fun x=>vStr b fun y=>vInt c fun i=>vInt d fun j=>some (.int (find4 ⟨x.toArray⟩ ⟨y.toArray⟩ i j))
noncomputable def repG:Hp→List V→Option V:=fun Z xs=>lC xs fun a t=>lC t fun b t=>l1 t fun c=>vStr a fun x=>vStr b fun y=>vStr c fun Z=>if noOcc ⟨x.toArray⟩ ⟨y.toArray⟩ = true then some (.str x) else none
theorem VRs.inv4 {σ:Option Addr} {X:Addr→Prop} {μ:List Addr} {h:Heap} {vs:List Value} {x y z q:V} (r:VRs σ X μ h vs [x,y,z,q]):∃ a b c d,vs=[a,b,c,d]∧VR σ X μ h a x∧VR σ X μ h b y∧VR σ X μ h c z∧VR σ X μ h d q:=by
  obtain ⟨a,_,e,r1,rs⟩:=r.inv
  obtain ⟨b,c,d,e2,r2,r3,r4⟩:=rs.inv3
  exact ⟨a,b,c,d,by rw [e,e2],r1,r2,r3,r4⟩
inductive FndI:List V→V→Prop
  |mk (x y:List Nat) (i j:Int):FndI [.str x,.str y,.int i,.int j] (.int (find4 ⟨x.toArray⟩ ⟨y.toArray⟩ i j))
theorem findG_some {H:Hp} {xs:List V} {r:V} (e:findG H xs=some r):FndI xs r:=by
  obtain ⟨a,t,rfl,e1⟩:=lcons e
  obtain ⟨b,t,rfl,e2⟩:=lcons e1
  obtain ⟨c,t,rfl,e3⟩:=lcons e2
  obtain ⟨d,rfl,e4⟩:=l1_some e3
  obtain ⟨x,rfl,e5⟩:=vstr e4
  obtain ⟨y,rfl,e6⟩:=vstr e5
  obtain ⟨i,rfl,e7⟩:=vint e6
  obtain ⟨j,rfl,e8⟩:=vint e7
  cases e8
  exact .mk x y i j
inductive RpI:List V→V→Prop
  |mk (x y z:List Nat) (h:noOcc ⟨x.toArray⟩ ⟨y.toArray⟩ = true):RpI [.str x,.str y,.str z] (.str x)
theorem repG_some {H:Hp} {xs:List V} {r:V} (e:repG H xs=some r):RpI xs r:=by
  obtain ⟨a,t,rfl,e1⟩:=lcons e
  obtain ⟨b,t,rfl,e2⟩:=lcons e1
  obtain ⟨c,rfl,e3⟩:=l1_some e2
  obtain ⟨x,rfl,e4⟩:=vstr e3
  obtain ⟨y,rfl,e5⟩:=vstr e4
  obtain ⟨z,rfl,e6⟩:=vstr e5
  obtain ⟨h,rfl⟩:=ite_some e6
  exact .mk x y z h
theorem O.find {B:Base}:SndO B (.builtin "str.find") findG:=fun {A s σ X μ H vs xs r} hr c rs e=>by
  obtain ⟨x,y,i,j⟩:=findG_some e
  obtain ⟨a,b,c,d,rfl,r1,r2,r3,r4⟩:=rs.inv4
  obtain ⟨_,rfl⟩:=r1.inv
  obtain ⟨_,rfl⟩:=r2.inv
  obtain ⟨_,rfl⟩:=r3.inv
  obtain ⟨_,rfl⟩:=r4.inv
  exact call_gives F.slot_str_find (typeIs_str _ _ _) F.entry_str_find (F.args_str_find_4 _ _ _ _) (gives_find4 _ _ _ _ _ _ _ _) (show OpR σ X μ s _ _ { s with toks:=s.toks+1 } from ⟨keeps_tok,.int _ _⟩)
theorem O.repl {B:Base}:SndO B (.builtin "str.replace") repG:=fun {A s σ X μ H vs xs r} hr c rs e=>by
  obtain ⟨x,y,z,hno⟩:=repG_some e
  obtain ⟨a,b,c,rfl,r1,r2,r3⟩:=rs.inv3
  obtain ⟨_,rfl⟩:=r1.inv
  obtain ⟨_,rfl⟩:=r2.inv
  obtain ⟨_,rfl⟩:=r3.inv
  exact rep_none hno ⟨keeps_refl,.str _ _⟩
theorem mro_object:mroOf (.type "object")=pure [.type "object"]:=by rw [mroOf_type];kernel_rfl
theorem lookup_object_new:typeLookup (.type "object") "__new__" = pure (some (.builtin "object.__new__")):=by rw [typeLookup_type,builtinLookup_eq_fast];kernel_rfl
theorem slot_object_init:Slot "object" "__init__" "object.__init__" :=
  .of (owner := "object") (n := "__init__") (by rw [typeLookup_type,builtinLookup_eq_fast];kernel_rfl) (by decide +kernel) (by decide +kernel) (by decide +kernel)
    (by first | exact .inl (by decide +kernel) | exact .inr (by decide +kernel)) (by rw [isSubtype_type];kernel_rfl)
theorem made_object:Bind.madeBy (.type "object")=pure (some "object.__new__"):=madeBy_type mro_object lookup_object_new (by decide +kernel)
theorem called_object:TypeCalled "object" "object.__new__" "object.__init__" :=
  ⟨by decide +kernel,by decide +kernel,⟨_,_,mro_object⟩,made_object,by decide +kernel,by rw [isSubtype_type];kernel_rfl,slot_object_init⟩
theorem typeCall_object:checkTypeCall "object" ⟨[],[]⟩ = pure ():=by kernel_rfl
theorem newCall_object:checkBuiltinCall "object.__new__" ⟨[.type "object"],[]⟩ = pure ():=by kernel_rfl
theorem entry_object_new:entryFor table "object.__new__" = some Builtin.«object.__new__» := entryFor_of_tree (by kernel_rfl)
theorem args_object_init_1 (a:Value):argsOk "object.__init__" ⟨[a],[]⟩:=by unfold argsOk;kernel_rfl
theorem base_object:Bind.staticBase (.type "object")=pure (.type "object"):=by kernel_rfl
theorem meets_object_new:Meets (Builtin.«object.__new__» ⟨[.type "object"],[]⟩) (fun Z R s=>R (.ok (.ret (.ref s.heap.objs.size))) { s with heap:=s.heap.push starObj }):=by
  refine Meets.of_wp fun prog w A R s hs=>?_
  unfold Builtin.«object.__new__»
  dsimp only
  refine wpAny_bind (m:=isType (.type "object")) (wpAny_pure ?_)
  rw [if_neg (by decide)]
  rw [if_neg (by decide +kernel)]
  refine wpAny_bind (m:=Bind.madeHere _ _) ?_
  unfold Bind.madeHere
  refine wpAny_bind (wpAny_of_eq base_object (wpAny_bind (wpAny_of_eq made_object ?_)))
  rw [if_neg (by decide +kernel)]
  refine wpAny_pure ?_
  rw [if_neg (by decide)]
  rw [if_neg (by decide +kernel)]
  refine wpAny_bind (wpAny_pure ?_)
  refine wpAny_bind (wpAny_newObj_type ?_ (by size_fits))
  rw [if_neg (by decide +kernel)]
  exact wpAny_pure ⟨_,rfl,hs⟩
section
variable {prog:Program} {w:World} {A:Around} {E:Value→Shared→Prop} {s:Shared}
theorem object_call {Q:Value→Shared→Prop} (h:Q (.ref s.heap.objs.size) { s with heap:=s.heap.push starObj }):wpAny (model prog w) A (call (.type "object") []) Q E s:=by
  refine callType_meets (Q₁:=fun obj s₁=>s₁.TypeIs obj "object" ∧ Q obj s₁) called_object typeCall_object newCall_object entry_object_new F.entry_object_init meets_object_new ?_ fun obj s₁ hq=>⟨hq.1,args_object_init_1 _,fun Z R s=>R (.ok (.ret .none)) s,Meets.of_wp fun prog w A R s hs=>wpAny_pure ⟨_,rfl,hs⟩,rfl,hq.2⟩
  exact ⟨⟨_,Heap.get?_push_size _ rfl,rfl⟩,h⟩
end
noncomputable def starK (o:Option (Fl×Rho×Hp)):Option (V×Hp):=match o with
  |some (.rt v,_,H)=>obd (endR 0 H v) fun r H=>if r.noStar then some (r,H) else none
  |_=>none
noncomputable def starG (k m ix:Nat) (f:FS):FF:=fun xs H=>if xs.length=k∧noStars xs=true∧H.length=0 then starK (f ((xs.map some++List.replicate m none).set ix (some .star)) []) else none
inductive StarI (o:Option (Fl×Rho×Hp)) (r:V) (H':Hp):Prop
  |mk (v:V) (ρ:Rho) (H:Hp) (h:o=some (.rt v,ρ,H)) (q:endR 0 H v=some (r,H')) (hs:r.noStar=true):StarI o r H'
theorem starK_some {o:Option (Fl×Rho×Hp)} {r:V} {H:Hp} (q:starK o=some (r,H)):StarI o r H:=by
  cases o with
  |none=>exact no q
  |some p=>
    obtain ⟨f,ρ,H1⟩:=p
    cases f with
    |rt v=>
      obtain ⟨r,H,h,e⟩:=bnd q
      obtain ⟨hs,e⟩:=ite_some e
      cases e
      exact ⟨v,ρ,H1,rfl,h,hs⟩
    |_=>exact no q
theorem star_ok {k m ix:Nat} {f:FS} {xs:List V} {v:V} {ρ:Rho} {H1:Hp} (hk:xs.length=k∧noStars xs=true∧([]:Hp).length=0) (e:f ((xs.map some++List.replicate m none).set ix (some .star)) []=some (.rt v,ρ,H1)) (h1:v.noLst=true) (h2:v.noStar=true):starG k m ix f xs []=some (v,[]):=by
  unfold starG
  rw [if_pos hk,e]
  show obd (endR 0 H1 v) _=_
  rw [end0 h1]
  exact if_pos h2
section
variable {B:Base} {n:Nat} {env:Env} {names:List Str} {A:Around} {s s' s'':Shared} {σ:Option Addr} {X:Addr→Prop} {μ ν:List Addr} {ρ ρ':Rho} {H H' H'':Hp} {F:Fl}
theorem Wd.star (w:Wd B σ X env names ρ [] [] s) (hρ:∀ (i:Nat) (Y:V),ρ[i]?=some (some Y)→Y.noStar=true):Wd B (some s.heap.objs.size) X env names ρ [] [] { s with heap:=s.heap.push starObj }:=by
  have k:Keeps s { s with heap:=s.heap.push starObj }:=keeps_push (s:=s) (tk:=s.toks) starObj
  have w1:=w.keeps k
  refine ⟨w1.bs,⟨rfl,fun i a l e1 Z=>by simp at e1,List.nodup_nil,w1.cr.xl,fun a h=>(nomatch h),fun a e=>by cases e;exact Heap.get?_push_size _ rfl⟩,⟨w1.er.kind,w1.er.glob,w1.er.bltn,?_,?_,w1.er.apart,w1.er.cs⟩,w1.ow⟩
  · obtain ⟨m,hn,h⟩:=w1.er.ns
    exact ⟨m,hn,fun i x V e1 e2 e3=>let ⟨v,p,r⟩:=h i x V e1 e2 e3;⟨v,p,r.unstar (hρ i V e3)⟩⟩
  · intro i x e1 e2
    obtain ⟨c,ov,h1,h2,h3⟩:=w1.er.cells i x e1 e2
    exact ⟨c,ov,h1,h2,fun V e3=>let ⟨v,p,r⟩:=h3 V e3;⟨v,p,r.unstar (hρ i V e3)⟩⟩
theorem noStars_get:∀ {xs:List V} {i:Nat} {x:V},noStars xs=true→xs[i]?=some x→x.noStar=true
  |[],i,x,_,e=>by simp at e
  |y::xs,0,x,h,e=>by
    simp only [nsc,Bool.and_eq_true] at h
    simp at e;subst e;exact h.1
  |y::xs,i+1,x,h,e=>by
    simp only [nsc,Bool.and_eq_true] at h
    exact noStars_get h.2 (by simpa using e)
set_option tactic.hygienic true in
theorem fnStar {x:Str} {params:Arguments} {body rest:List Stmt} {scope:Scope} {ps ls:List Str} {f:FS} {sx:Str} {sp np cp ap:Pos} {ix:Nat} (ok:B.Ok) (bm:BM B) (hrec:Rec B x params body scope) (fit:Fit params scope ps ls)
    (hb:body=.Assign [.Name sx sp] (.Call (.Name "object" np) [] [] cp) ap::rest) (hat:∀ pm code doc L a,At (callEnvC (docDef x params body scope pm code doc) L a) (ps++ls) sx ix) (hobj:scope.names.lookup ("object" : Str)=some NameKind.globalImplicit)
    (hsw:∀ env:Env,swapsWith (.Call (.Name "object" np) [] [] cp) (some (.Name sx sp)) ap.line env=pure false)
    (hrest:∀ pm code doc L a,SndB B n (callEnvC (docDef x params body scope pm code doc) L a) (ps++ls) rest f):FnS B (n+1) x (starG ps.length ls.length ix f):=by
  obtain ⟨a,o,pm,code,doc,h1,h2,h3,h4⟩:=hrec
  refine ⟨a,⟨h1,o,_,h2,h3⟩,fun {A s σ X μ H vs xs r H'} hr bs c hm rs q=>?_⟩
  obtain ⟨hc,q0⟩:=ite_opt q
  obtain ⟨hxl,hns,hH⟩:=hc
  have hlen:vs.length=ps.length:=by rw [rs.length,hxl]
  have hH0:H=[]:=List.eq_nil_of_length_eq_zero hH
  subst hH0
  have hm0:μ=[]:=List.eq_nil_of_length_eq_zero c.len
  subst hm0
  obtain ⟨v,ρ',H1,q1,q2,hrn⟩:=starK_some q0
  refine wpAny_call (codeAny_call_cells (o:=o) (body:=body) (binds:=ps.zip vs) (by have:=hr.2.1;show A.depth < 1000;omega) (bs.fn ok h2 h3) h3 (bs.nolimit ok) (bs.code ok h4) rfl (fit.bi x body pm code doc vs hlen) rfl ?_ ?_ fit.co fit.ge fit.ki)
  · intro y hy
    have hmem:y.1 ∈ ps:=(List.of_mem_zip hy).1
    rcases fit.pk _ hmem with h | h
    · exact .inl h
    · exact .inr ⟨h,fit.ce _ (List.mem_append_left _ hmem) h _⟩
  · intro s₁ ic
    obtain ⟨k,w⟩:=frame (a:=a) (x:=x) (body:=body) (pm:=pm) (code:=code) (doc:=doc) fit bs c hm rs hlen ic
    have kp:=ic_kp k ic.toInCall.fresh ic.above
    have wst:=w.star (fun i V e=>by
      by_cases hi:i < xs.length
      · rw [List.getElem?_append_left (by simpa using hi),List.getElem?_map] at e
        cases q:xs[i]? with
        |none=>rw [q] at e;cases e
        |some y=>rw [q] at e;cases e;exact noStars_get hns q
      · rw [List.getElem?_append_right (by simpa using hi),List.getElem?_replicate] at e
        split at e<;>cases e)
    have hob:wpAny (model B.prog B.w) (A.deeper (callEnvC (docDef x params body scope pm code doc) s.heap.objs.size a)) (eval (.Call (.Name "object" np) [] [] cp) (callEnvC (docDef x params body scope pm code doc) s.heap.objs.size a)) (fun v s'=>v=.ref s₁.heap.objs.size∧s' = { s₁ with heap:=s₁.heap.push starObj }) NoE s₁:=by
      refine wpAny_Call_NameR (globB ok w (show (callEnvC (docDef x params body scope pm code doc) s.heap.objs.size a).kindOf "object" = some .globalImplicit from hobj) bm.object (v:=.type "object") (by kernel_rfl) (by decide +kernel) (by kernel_rfl) ?_)
      exact PySem.callWith_type rfl (PySem.evalArgs_none (object_call ⟨rfl,rfl⟩))
    have step:wpAny (model B.prog B.w) (A.deeper (callEnvC (docDef x params body scope pm code doc) s.heap.objs.size a)) (execs body (callEnvC (docDef x params body scope pm code doc) s.heap.objs.size a))
        (fun fl s'=>∃ va,fl=.ret va∧PostF B σ X [] s.heap H' r va s') NoE s₁:=by
      have hx:wpAny (model B.prog B.w) (A.deeper (callEnvC (docDef x params body scope pm code doc) s.heap.objs.size a)) (execs (.Assign [.Name sx sp] (.Call (.Name "object" np) [] [] cp) ap::rest) (callEnvC (docDef x params body scope pm code doc) s.heap.objs.size a))
          (fun fl s'=>∃ va,fl=.ret va∧PostF B σ X [] s.heap H' r va s') NoE s₁:=by
        refine wpAny_execs_cons (wpAny_Assign_Name (noE hob fun vv sv hx=>?_) (hsw _))
        obtain ⟨e1,e2⟩:=hx
        subst e1 e2
        refine noE (store' (hat pm code doc _ a) wst (VR.star rfl)) fun fl s2 hx=>?_
        obtain ⟨ν2,w2,r2,t2⟩:=hx
        have hν:ν2=[]:=by
          have:=w2.cr.len
          simpa using this
        subst hν
        cases r2
        rw [List.append_nil] at w2
        refine nS (hrest pm code doc _ a (room_deeper hr) w2 q1) fun fl s3 ν3 w3 r3 t3=>?_
        cases r3 with
        |rt rv=>
          refine ⟨_,rfl,?_⟩
          have pf:=fin_call (μ:=[]) (h0:=⟨#[],{}⟩) w3 rv t3 q2 (fun b o e=>by simp [Heap.get?] at e)
          have kk:Kp B (fun a=>a ∈ ([]:List Addr)) s.heap s3.heap:=by
            refine ⟨fun b o e Z hp=>?_,fun b o e=>?_⟩
            · obtain ⟨g1,g2,g3⟩:=kp b o e
              have e2:=t2.kp.keep b o (Heap.get?_push_of_some _ g1) (by
                rintro (h | h | ⟨y,h⟩)
                · first | exact no h | cases h
                · exact g2 h
                · exact g3 y h) hp
              exact t3.kp.keep b o e2 (by
                rintro (h | h | ⟨y,h⟩)
                · first | exact no h | cases h
                · exact g2 h
                · exact g3 y h) hp
            · obtain ⟨o2,e2⟩:=t2.kp.dom b o (Heap.get?_push_of_some _ (kp b o e).1)
              exact t3.kp.dom b o2 e2
          obtain ⟨f1,f2,f3,_,f5,f6⟩:=pf
          have hH2:H'=[]:=List.eq_nil_of_length_eq_zero f2.len.symm
          subst hH2
          refine ⟨f1,⟨rfl,fun i a l e1 Z=>by simp at e1,List.nodup_nil,f2.xl,fun a h=>(nomatch h),fun a e=>?_⟩,f3.unstar hrn,kk,f5,f6⟩
          refine kk.keep _ _ (c.st a e) (fun h=>(nomatch h)) ?_
          rintro rfl
          obtain ⟨ps0,hP0,_⟩:=bs.tab
          have:=c.st _ e
          rw [hP0] at this;cases this
      rw [← hb] at hx;exact hx
    exact anyE (noE step fun fl s' ⟨va,e,p⟩=>by subst e;exact p)
end
theorem sub_ri_reversed:isSubtype (.type "range_iterator") (.type "reversed")=pure false:=by rw [isSubtype_type];kernel_rfl
section
variable {prog:Program} {w:World} {A:Around} {E:Value→Shared→Prop} {s:Shared}
theorem range_fields {r:Addr} {a b c:Int} {t u v:Tok} {Q:Int×Int×Int→Shared→Prop} (hr:s.heap.get? r=some { cls:=.type "range",data:=.fields #[.int a t,.int b u,.int c v] }) (h:Q (a,b,c) s):wpAny (model prog w) A (Builtin.Range.rangeFields (.ref r)) Q E s:=by
  unfold Builtin.Range.rangeFields
  refine wpAny_bind (wpAny_field (i:=0) (x:=.int a t) hr rfl (by simp) ?_)
  refine wpAny_bind (wpAny_pure ?_)
  refine wpAny_bind (wpAny_field (i:=1) (x:=.int b u) hr rfl (by simp) ?_)
  refine wpAny_bind (wpAny_pure ?_)
  refine wpAny_bind (wpAny_field (i:=2) (x:=.int c v) hr rfl (by simp) ?_)
  refine wpAny_bind (wpAny_pure ?_)
  exact wpAny_pure h
theorem call_range_reversed {r:Addr} {n:Nat} {t u v:Tok} {Q:Value→Shared→Prop} (hr:s.heap.get? r=some { cls:=.type "range",data:=.fields #[.int 0 t,.int n u,.int 1 v] }) (hn:n≤SZ)
    (h:Q (.ref s.heap.objs.size) { s with heap:=s.heap.push { cls:=.type "range_iterator",data:=.fields #[rawInt ((n:Int) - 1),rawInt n,rawInt (-1)] } }):wpAny (model prog w) A (call (.builtin "range.__reversed__") [.ref r]) Q E s:=by
  refine wpAny_call_entry F.slot_range_reversed ⟨_,hr,rfl⟩ F.entry_range_reversed ?_ (F.args_range_reversed_1 _)
  unfold Builtin.«range.__reversed__»
  refine wpAny_bind (wpAny_of_eq (a:=Value.ref r) rfl ?_)
  refine wpAny_bind (range_fields hr ?_)
  dsimp only
  have hsz:Builtin.Range.rangeSize 0 (n:Int) 1=(n:Int):=by
    rw [rangeSize_nat];simp
  have hsm:(Builtin.Range.rangeFitsLong 0 && Builtin.Range.rangeFitsLong (n:Int) && Builtin.Range.rangeFitsLong 1 && Builtin.Range.rangeFitsLong (-1) && Builtin.Range.rangeFitsLong (0 - 1) && Builtin.Range.rangeFitsLong (n:Int))=true:=by
    simp only [SZ] at hn
    simp only [Builtin.Range.rangeFitsLong,Bool.and_eq_true,decide_eq_true_eq]
    refine ⟨⟨⟨⟨⟨?_,?_⟩,?_⟩,?_⟩,?_⟩,?_⟩<;>first | decide | (simp;omega)
  rw [hsz,hsm,if_neg (by decide),if_pos rfl]
  have e:(0:Int)+((n:Int) - 1) * 1=(n:Int) - 1:=by omega
  rw [e]
  exact wpAny_bind (wpAny_newObj_type (wpAny_pure ⟨_,rfl,h⟩))
theorem code_reversed_range {r:Addr} {n:Nat} {t u v:Tok} {Q₁:Value→Shared→Prop} (hr:s.heap.get? r=some { cls:=.type "range",data:=.fields #[.int 0 t,.int n u,.int 1 v] }) (hn:n≤SZ)
    (h:Q₁ (.ref s.heap.objs.size) { s with heap:=s.heap.push { cls:=.type "range_iterator",data:=.fields #[rawInt ((n:Int) - 1),rawInt n,rawInt (-1)] } }) :
    codeAny (model prog w) A (.call (.builtin "reversed.__new__") ⟨[.type "reversed",.ref r],[]⟩) (wants Q₁ E) s:=by
  have hT:s.TypeIs (.ref r) "range" := ⟨_,hr,rfl⟩
  refine codeAny_of_tree ?_
  show wpAny _ A.in1 (do checkBuiltinCall "reversed.__new__" ⟨[.type "reversed",.ref r],[]⟩;again (.builtin "reversed.__new__" ⟨[.type "reversed",.ref r],[]⟩)) _ _ s
  refine wpAny_bind (wpAny_of_eq (F.newCall_reversed_1 _) (wpAny_pure ⟨plainId_quiet F.plain_reversed_new _,codeAny_builtin F.entry_reversed_new ?_⟩))
  rw [Around.under_plainId F.plain_reversed_new _]
  unfold Builtin.«reversed.__new__»
  refine wpAny_bind (wpAny_of_eq (newClass_reversed _) ?_)
  refine wpAny_bind (wpAny_of_eq (a:=()) (by first | rfl | kernel_rfl) ?_)
  refine wpAny_bind (wpAny_of_eq (a:=()) (by first | rfl | kernel_rfl) ?_)
  try dsimp only
  refine wpAny_bind (wpAny_specialOf hT F.slot_range_reversed.lookup ?_)
  try dsimp only
  refine wpAny_bind (wpAny_of_eq (F.slot_range_reversed.bind _) ?_)
  try dsimp only
  first
  |rw [if_neg (show ¬ ((Value.builtin "range.__reversed__" == Value.none)=true) from Bool.false_ne_true)]
  |(show wpAny _ _ (if (Value.builtin "range.__reversed__" == Value.none)=true then _ else _) _ _ _;rw [if_neg (show ¬ ((Value.builtin "range.__reversed__" == Value.none)=true) from Bool.false_ne_true)])
  refine wpAny_bind (wpAny_rule ?_)
  refine wpAny_bind (m:=runValue (.call (.builtin "range.__reversed__") ⟨[.ref r],[]⟩)) (show wpAny _ _ (call (.builtin "range.__reversed__") [.ref r]) _ _ _ from call_range_reversed hr hn ?_)
  first
  |exact wpAny_pure h
  |exact wpAny_bind (wpAny_pure (wpAny_pure h))
theorem call_reversed_range {r:Addr} {n:Nat} {t u v:Tok} {Q:Value→Shared→Prop} (hr:s.heap.get? r=some { cls:=.type "range",data:=.fields #[.int 0 t,.int n u,.int 1 v] }) (hn:n≤SZ)
    (h:Q (.ref s.heap.objs.size) { s with heap:=s.heap.push { cls:=.type "range_iterator",data:=.fields #[rawInt ((n:Int) - 1),rawInt n,rawInt (-1)] } }):wpAny (model prog w) A (call (.type "reversed") [.ref r]) Q E s:=by
  refine callType_other (U := "range_iterator") (Q₁:=fun obj s₁=>obj=.ref s.heap.objs.size∧s₁ = { s with heap:=s.heap.push { cls:=.type "range_iterator",data:=.fields #[rawInt ((n:Int) - 1),rawInt n,rawInt (-1)] } }) (by decide +kernel) F.create_reversed ⟨_,_,F.mro_reversed⟩ F.made_reversed sub_ri_reversed (F.typeCall_reversed_1 _) (code_reversed_range hr hn ⟨rfl,rfl⟩) ?_
  rintro obj s₁ ⟨rfl,rfl⟩
  exact ⟨⟨_,Heap.get?_push_size _ rfl,rfl⟩,h⟩
end
noncomputable def revF (f:FE):FL:=fun ρ H=>match f ρ H with
  |some (.int k,H1)=>if 0≤k∧k.toNat≤SZ then some (rngL (k - 1) (-1) k.toNat,H1) else none
  |_=>none
section
variable {B:Base} {n:Nat} {env:Env} {names:List Str} {A:Around} {s s' s'':Shared} {σ:Option Addr} {X:Addr→Prop} {μ ν:List Addr} {ρ ρ':Rho} {H H' H'':Hp} {F:Fl}
theorem revF_eq (f:FE) (ρ:Rho) (H:Hp):revF f ρ H=oInt (f ρ H) fun k H1=>if 0≤k∧k.toNat≤SZ then some (rngL (k - 1) (-1) k.toNat,H1) else none:=by kernel_rfl
theorem I.rev {np rp p1 p2:Pos} {e:PySem.Expr} {f:FE} (ok:B.Ok) (bt:BtAt B env "range" (.type "range")) (bt2:BtAt B env "reversed" (.type "reversed")) (h:SndE B n env names e f) (hst:starEach [e] env=[(false,eval e env)]) :
    SndI B n env names (.Call (.Name "reversed" rp) [.Call (.Name "range" np) [e] [] p2] [] p1) (revF f):=fun {A s σ X μ ρ H xs H'} hr w q=>by
  obtain ⟨k,H1,q1,q⟩:=oint ((revF_eq ..).symm.trans q)
  obtain ⟨hk,q⟩:=ite_some q
  cases q
  obtain ⟨k,rfl⟩:=Int.eq_ofNat_of_zero_le hk.1
  refine wpAny_Call_NameR (globB ok w bt2.hk bt2.hg bt2.hb bt2.hn bt2.hd ?_)
  refine PySem.callWith_type rfl (evalArgs_plain (spliced_cons (show wpAny _ A (eval (.Call (.Name "range" np) [e] [] p2) env) _ _ _ from ?_)))
  refine wpAny_Call_NameR (globB ok w bt.hk bt.hg bt.hb bt.hn bt.hd ?_)
  rw [hst]
  refine PySem.callWith_type rfl (evalArgs_plain (spliced_cons (show wpAny _ A (eval e env) _ _ _ from nE (h hr w q1) fun v s1 ν w1 r1 t1=>?_)))
  obtain ⟨tk0,rfl⟩:=r1.inv
  refine spliced_nil (call_range_1 (spliced_nil ?_))
  refine call_reversed_range (Heap.get?_push_size _ rfl) hk.2 ?_
  refine wpAny_pyIter_rangeiter (Heap.get?_push_size _ rfl) ?_
  have k2:Keeps s1 { s1 with heap:=(s1.heap.push { cls:=.type "range",data:=.fields #[.int 0 s1.toks,.int k tk0,.int 1 (s1.toks+1)] }).push { cls:=.type "range_iterator",data:=.fields #[rawInt ((k:Int) - 1),rawInt k,rawInt (-1)] },toks:=s1.toks+1+1 }:=
    keeps_trans (keeps_push (s:=s1) (tk:=s1.toks+1+1) _) (keeps_push (s:={ s1 with heap:=s1.heap.push { cls:=.type "range",data:=.fields #[.int 0 s1.toks,.int k tk0,.int 1 (s1.toks+1)] },toks:=s1.toks+1+1 }) (tk:=s1.toks+1+1) _)
  refine ⟨ν,w1.keeps k2,?_,⟨_,rfl,?_⟩,?_,?_⟩
  · rw [show (k:Int).toNat=k from rfl]
    exact .range (k:=k) (Heap.get?_push_size _ rfl)
  · cases hq:s.heap.get? (s1.heap.push { cls:=.type "range",data:=.fields #[.int 0 s1.toks,.int k tk0,.int 1 (s1.toks+1)] }).objs.size with
    |none=>rfl
    |some o=>
      obtain ⟨o',e'⟩:=t1.kp.dom _ _ hq
      have h1:=Heap.lt_size e'
      rw [Heap.size_push] at h1
      exact absurd h1 (Nat.not_lt.mpr (Nat.le_succ _))
  · intro a' o l' t' e1 e2 e3
    cases e1
    have:o = { cls:=.type "range_iterator",data:=.fields #[rawInt ((k:Int) - 1),rawInt k,rawInt (-1)] }:=Option.some.inj (e2.symm.trans (Heap.get?_push_size _ rfl))
    subst this
    simp at e3
  · have:=Stp.trans (ν':=[]) t1 (Stp.of_keeps k2)
    rw [List.append_nil] at this;exact this
end
noncomputable def ev {α:Type} (lt:Nat→Nat→Option Bool):KasT α→Option α
  | .ret a=>some a
  | .ask i j k=>match lt i j with
    |some true=>ev lt (k true)
    |some false=>ev lt (k false)
    |none=>none
theorem ev_wp {α:Type} {lt:Nat→Nat→Option Bool} {cmp:Nat→Nat→(Bool→Shared→Prop)→Shared→Prop} {I:Shared→Prop} (hc:∀ i j b C s,lt i j=some b→I s→C b s→cmp i j C s) {Q:α→Shared→Prop} :
    ∀ (t:KasT α) (a:α) (s:Shared),ev lt t=some a→I s→Q a s→t.kasWp cmp Q s
  | .ret b,a,s,e,_,q=>by
    simp only [ev,Option.some.injEq] at e
    subst e;exact q
  | .ask i j k,a,s,e,hi,q=>by
    simp only [ev] at e
    split at e
    · rename_i h;exact hc i j true _ s h hi (ev_wp hc (k true) a s e hi q)
    · rename_i h;exact hc i j false _ s h hi (ev_wp hc (k false) a s e hi q)
    · first | exact no e | cases e
noncomputable abbrev Pr:=Int×List Nat
noncomputable def pairs?:List V→Option (List Pr)
  |[]=>some []
  |y::r=>(match y with
    | .tup q=>(match q with
      |[a,b]=>(match a with
        | .int a=>(match b with
          | .str l=>(pairs? r).map ((a,l) :: ·)
          |_=>none)
        |_=>none)
      |_=>none)
    |_=>none)
noncomputable def ltP (x y:Pr):Bool:=if x.1=y.1 then (if x.2=y.2 then false else decide (x.2 < y.2)) else decide (x.1 < y.1)
noncomputable def ltAt (ps:List Pr) (i j:Nat):Option Bool:=match ps[i]?,ps[j]? with
  |some x,some y=>some (ltP x y)
  |_,_=>none
noncomputable def srtL (ps:List Pr):Option (List Nat):=if 2≤ps.length∧ps.length < 64 then (match ev (ltAt ps) (kas_sort ps.length) with
  |some p=>if p.toList.all (fun i=>decide (i < ps.length)) then some p.toList else none
  |none=>none) else none
noncomputable def srtF (f:FE):FL:=fun ρ H=>match f ρ H with
  |some (.frz l,H1)=>(match pairs? l with
    |some ps=>(match srtL ps with
      |some p=>some (p.map fun i=>l.getD i .none,H1)
      |none=>none)
    |none=>none)
  |_=>none
noncomputable def cutH (h:Heap) (n:Nat):Heap:={ h with objs:=h.objs.extract 0 n }
theorem cut_lt {h:Heap} {n b:Nat} (hb:b < n):(cutH h n).get? b=h.get? b:=by
  have e:(h.objs.extract 0 n)[b]?=h.objs[b]?:=by
    rw [Array.getElem?_extract]
    by_cases hs:b < h.objs.size
    · simp;omega
    · simp;omega
  show (match (h.objs.extract 0 n)[b]? with | some ⟨_,_,.freed,_⟩=>none | o=>o)=_
  rw [e];rfl
theorem cut_size {h:Heap} {n:Nat}:(cutH h n).objs.size≤n:=by
  show (h.objs.extract 0 n).size≤n
  simp;omega
theorem cut_ge {h:Heap} {n b:Nat} (hb:n≤b):(cutH h n).get? b=none:=Heap.get?_none_of_le (Nat.le_trans cut_size hb)
noncomputable def aboveL (h:Heap) (L:Addr):List (Addr×Obj):=(List.range h.objs.size).filterMap fun b=>if L < b then (h.get? b).map (fun o=>(b,o)) else none
theorem above_mem {h:Heap} {L:Addr} {p:Addr×Obj}:p ∈ aboveL h L↔L < p.1∧h.get? p.1=some p.2:=by
  unfold aboveL
  rw [List.mem_filterMap]
  constructor
  · rintro ⟨b,_,hb⟩
    split at hb
    · rename_i hl
      rw [Option.map_eq_some_iff] at hb
      obtain ⟨o,ho,rfl⟩:=hb
      exact ⟨hl,ho⟩
    · cases hb
  · rintro ⟨hl,ho⟩
    refine ⟨p.1,List.mem_range.mpr (Heap.lt_size ho),?_⟩
    rw [if_pos hl,ho];rfl
theorem fr_cut {h:Heap} {L:Addr} {m:Str→Option Value} (hn:h.Ns L m):Fr (cutH h L) L h m:=⟨hn,(fun b o e=>by
  by_cases hb:b < L
  · rw [cut_lt hb] at e;exact e
  · rw [cut_ge (Nat.le_of_not_lt hb)] at e;cases e),cut_size⟩
theorem news_cut {h:Heap} {L:Addr}:News (cutH h L) L h (aboveL h L):=fun p hp=>by
  obtain ⟨h1,h2⟩:=above_mem.mp hp
  exact ⟨h2,Nat.ne_of_gt h1,cut_ge (Nat.le_of_lt h1)⟩
theorem back_cut {h h':Heap} {L:Addr} {m:Str→Option Value} (F:Fr (cutH h L) L h' m) (N:∀ p ∈ aboveL h L,h'.get? p.1=some p.2) {b:Addr} {o:Obj} (hb:b ≠ L) (e:h.get? b=some o):h'.get? b=some o:=by
  by_cases hl:b < L
  · exact F.keep b o (by rw [cut_lt hl];exact e)
  · exact N (b,o) (above_mem.mpr ⟨Nat.lt_of_le_of_ne (Nat.le_of_not_lt hl) (Ne.symm hb),e⟩)
section
variable {prog:Program} {w:World} {A:Around} {E:Value→Shared→Prop} {s:Shared}
theorem key_lt {x y:Addr} {a c:Int} {l k:List Nat} {t u p q:Tok} {Q:Bool→Shared→Prop} (hx:TupA s.heap x [.int a t,.str ⟨l.toArray⟩ u]) (hy:TupA s.heap y [.int c p,.str ⟨k.toArray⟩ q]) (h:Q (ltP (a,l) (c,k)) s) :
    wpAny (model prog w) A (keyLt' (tuples' true) (.ref x) (.ref y)) Q E s:=by
  obtain ⟨ox,ex,_,n,dx⟩:=hx
  obtain ⟨oy,ey,_,n2,dy⟩:=hy
  refine kat_lt ex dx ey dy ?_
  show KatLex prog w A true (decide (2 < 2)) Q [(.int a t,.int c p),(.str ⟨l.toArray⟩ u,.str ⟨k.toArray⟩ q)] 0 s
  refine kat_cons (wpAny_eqBool_int ?_)
  by_cases hac:a=c
  · subst hac
    rw [beq_self_eq_true]
    refine kat_yes (kat_cons (eqBool_str ?_))
    by_cases hlk:l=k
    · subst hlk
      rw [beq_self_eq_true]
      refine kat_yes (kat_nil ?_)
      unfold ltP at h
      simpa using h
    · have hne:((⟨l.toArray⟩ : Str) == ⟨k.toArray⟩)=false:=by rw [str_beq_toArray];simpa using hlk
      rw [hne]
      refine kat_no (kat_one _ _ (lt_str ?_))
      unfold ltP at h
      have h':Q (decide (l < k)) s:=by simpa [hlk] using h
      have e:(decide ((⟨l.toArray⟩ : Str).cps.toList < (⟨k.toArray⟩ : Str).cps.toList))=decide (l < k):=by simp
      rw [e]
      exact h'
  · have hne:(a == c)=false:=by simpa using hac
    rw [hne]
    refine kat_no ?_
    show wpAny _ _ (keyLt' oneType' (.int a t) (.int c p)) _ _ _
    refine kat_lt_int ?_
    unfold ltP at h
    simpa [hac] using h
end
inductive PaI (y:V) (l:List V):List Pr→Prop
  |mk (a:Int) (k:List Nat) (ps:List Pr) (h:y=.tup [.int a,.str k]) (e:pairs? l=some ps):PaI y l ((a,k)::ps)
theorem pairs_some {y:V} {l:List V} {ps:List Pr} (e:pairs? (y::l)=some ps):PaI y l ps:=by
  cases y with
  |tup q=>cases q with
    |nil=>exact no e
    |cons a q=>cases q with
      |nil=>exact no e
      |cons k q=>cases q with
        |cons=>exact no e
        |nil=>cases a with
          |int a=>cases k with
            |str k=>obtain ⟨ps',e1,rfl⟩:=Option.map_eq_some_iff.mp (show (pairs? l).map ((a,k) :: ·)=some ps from e);exact ⟨a,k,ps',rfl,e1⟩
            |_=>exact no e
          |_=>exact no e
  |_=>exact no e
theorem pairs_rel {σ:Option Addr} {X:Addr→Prop} {μ:List Addr} {h:Heap} {l:List V}:∀ {vs:List Value} {ps:List Pr},VRs σ X μ h vs l→pairs? l=some ps→vs.length=ps.length∧∀ (i:Nat) (x:Pr),ps[i]?=some x→∃ a t u,vs[i]?=some (.ref a)∧TupA h a [.int x.1 t,.str ⟨x.2.toArray⟩ u]:=by
  induction l with
  |nil=>intro vs ps r e;cases e;rw [show vs=[] from r.inv];exact ⟨rfl,fun i x h=>nomatch h⟩
  |cons y l ih=>
    intro vs ps r e
    obtain ⟨v,vs,rfl,r,rs⟩:=r.inv
    obtain ⟨a,k,ps,rfl,e1⟩:=pairs_some e
    obtain ⟨h1,h2⟩:=ih rs e1
    refine ⟨congrArg Nat.succ h1,fun i x hx=>?_⟩
    cases i with
    |zero=>
      cases hx
      obtain ⟨b,ws,rfl,ht,rt⟩:=r.inv
      obtain ⟨v1,v2,rfl,r1,r2⟩:=rt.inv2
      obtain ⟨t,rfl⟩:=r1.inv
      obtain ⟨u,rfl⟩:=r2.inv
      exact ⟨b,t,u,rfl,ht⟩
    |succ i=>exact h2 i x hx
theorem kat_tups {h:Heap}:∀ {vs:List Value} {ps:List Pr},vs.length=ps.length→(∀ (i:Nat) (x:Pr),ps[i]?=some x→∃ a t u,vs[i]?=some (.ref a)∧TupA h a [.int x.1 t,.str ⟨x.2.toArray⟩ u])→∃ fs:List Value,KatTups h vs fs∧fs.length=ps.length∧∀ v ∈ fs,∃ a t,v=.int a t
  |[],[],_,_=>⟨[],KatTups.nil,rfl,fun Z h=>(nomatch h)⟩
  |[],_::_,h,_=>by simp at h
  |_::_,[],h,_=>by simp at h
  |v::vs,p::ps,h,hr=>by
    obtain ⟨a,t,u,q1,o,e,hc,n,hd⟩:=hr 0 p (by simp)
    simp at q1;subst q1
    obtain ⟨fs,f1,f2,f3⟩:=kat_tups (vs:=vs) (ps:=ps) (by simpa using h) (fun i x hx=>hr (i+1) x (by simpa using hx))
    refine ⟨.int p.1 t::fs,KatTups.cons e hc hd (by simp) f1,by simp [f2],fun v hv=>?_⟩
    rcases List.mem_cons.mp hv with rfl | hv
    · exact ⟨_,_,rfl⟩
    · exact f3 v hv
theorem VRs.pick {σ:Option Addr} {X:Addr→Prop} {μ:List Addr} {h:Heap} {vs:List Value} {l:List V} (r:VRs σ X μ h vs l):∀ {p:List Nat},(∀ i ∈ p,i < l.length)→VRs σ X μ h (p.map fun i=>vs.getD i Value.none) (p.map fun i=>l.getD i V.none)
  |[],_=>.nil
  |i::p,hp=>by
    have hi:=hp i (.head _)
    obtain ⟨v,h1,h2⟩:=r.get (List.getElem?_eq_getElem hi)
    refine .cons ?_ (r.pick fun j hj=>hp j (.tail _ hj))
    dsimp only
    rw [List.getD_eq_getElem?_getD,h1,List.getD_eq_getElem?_getD,List.getElem?_eq_getElem hi]
    exact h2
theorem pairs_len:∀ {l:List V} {ps:List Pr},pairs? l=some ps→ps.length=l.length
  |[],ps,e=>by cases e;rfl
  |y::l,ps,e=>by
    obtain ⟨a,k,ps,rfl,e1⟩:=pairs_some e
    exact congrArg Nat.succ (pairs_len e1)
section
variable {B:Base} {n:Nat} {env:Env} {names:List Str} {A:Around} {s s' s'':Shared} {σ:Option Addr} {X:Addr→Prop} {μ ν:List Addr} {ρ ρ':Rho} {H H' H'':Hp} {F:Fl}
theorem Wd.nsKeep (w:Wd B σ X env names ρ μ H s) {h':Heap} {tk:Nat} (hk:∀ b o,b ≠ env.locals→s.heap.get? b=some o→h'.get? b=some o) (hn:∀ m,s.heap.Ns env.locals m→h'.Ns env.locals m) :
    Wd B σ X env names ρ μ H { s with heap:=h',toks:=tk }∧StpS B env μ [] s.heap h'∧Mv X X μ μ s.heap h':=by
  obtain ⟨m,hns,hloc⟩:=w.er.ns
  obtain ⟨oL,es,ep,hoL,hdL,hkL⟩:=id hns
  have ne:∀ b o,s.heap.get? b=some o→(∀ es ep,o.data ≠ .dict es ep)→b ≠ env.locals:=fun b o e hd=>by
    rintro rfl
    rw [hoL] at e;cases e
    exact hd _ _ hdL
  have mv:Mv X X μ μ s.heap h':=⟨fun b o e v=>hk b o (ne b o e (by
    rcases v with ⟨_,xs,n,q⟩ | ⟨_,⟨xs,n,q⟩,_⟩ | ⟨_,vs,q⟩<;>(intro es ep q2;rw [q] at q2;cases q2))) e,fun Z Z e=>e,fun Z Z Z a b=>⟨a,b⟩⟩
  have hB:∀ b o,B.h1.get? b=some o→b ≠ env.locals:=fun b o e=>by
    rintro rfl
    rw [w.ow.l] at e;cases e
  obtain ⟨ps,hP,ht,hcs⟩:=w.bs.tab
  refine ⟨⟨⟨fun b o e hp=>hk b o (hB b o e) (w.bs.keep b o e hp),⟨ps,hk _ _ (ne _ _ hP (by intro es ep q;cases q)) hP,ht,fun pos c' q=>?_⟩,w.bs.gens,w.bs.os⟩,?_,?_,w.ow⟩,?_,mv⟩
  · obtain ⟨q,c,o,vs,t,e1,e2,e3,e4⟩:=hcs pos c' q
    exact ⟨q,c,o,vs,t,e1,hk _ _ (ne _ _ e2 (by intro es ep q;rw [e3] at q;cases q)) e2,e3,e4⟩
  · refine ⟨w.cr.len,fun i a l e1 e2=>?_,w.cr.nd,fun b hb=>?_,w.cr.xd,fun a e=>hk _ _ (ne _ _ (w.cr.st a e) (by intro es ep q;cases q)) (w.cr.st a e)⟩
    · obtain ⟨vs,⟨n,p⟩,r⟩:=w.cr.cell i a l e1 e2
      exact ⟨vs,⟨n,hk _ _ (ne _ _ p (by intro es ep q;cases q)) p⟩,r.mv mv⟩
    · obtain ⟨its,o,q,r1,r2,r3⟩:=w.cr.xl b hb
      exact ⟨its,o,hk _ _ (ne _ _ q (by intro es ep q;rw [r3] at q;cases q)) q,r1,r2,r3⟩
  · refine ⟨w.er.kind,w.er.glob,w.er.bltn,⟨m,hn m hns,fun i x Y e1 e2 e3=>let ⟨v,p,r⟩:=hloc i x Y e1 e2 e3;⟨v,p,r.mv mv⟩⟩,?_,w.er.apart,?_⟩
    · intro i x e1 e2
      obtain ⟨c,ov,p,⟨o,ho,hd⟩,t⟩:=w.er.cells i x e1 e2
      exact ⟨c,ov,p,⟨o,hk _ _ (ne _ _ ho (by intro es ep q;rw [hd] at q;cases q)) ho,hd⟩,fun Y e3=>let ⟨u,p,q⟩:=t Y e3;⟨u,p,q.mv mv⟩⟩
    · intro x xc hx
      obtain ⟨ov,o,ho,hd⟩:=w.er.cs x _ hx
      exact ⟨ov,o,hk _ _ (ne _ _ ho (by intro es ep q;rw [hd] at q;cases q)) ho,hd⟩
  · refine ⟨⟨fun b o e hd Z=>hk b o (fun q=>hd (.inr (.inl q))) e,fun b o e=>?_⟩,fun Z h=>(nomatch h)⟩
    by_cases hb:b=env.locals
    · subst hb
      obtain ⟨o2,_,_,e2,_⟩:=hn m hns
      exact ⟨o2,e2⟩
    · exact ⟨o,hk b o hb e⟩
noncomputable def PostIS (B:Base) (env:Env) (names:List Str) (σ:Option Addr) (X:Addr→Prop) (ρ:Rho) (μ:List Addr) (s:Shared) (H':Hp) (xs:List V):Value→Shared→Prop:=
  fun v s'=>∃ ν,Wd B σ X env names ρ (μ++ν) H' s'∧ItR σ X (μ++ν) s'.heap v xs∧(∃ a,v=.ref a∧s.heap.get? a=none)∧StpS B env μ ν s.heap s'.heap
noncomputable def SndIS (B:Base) (n:Nat) (env:Env) (names:List Str) (e:PySem.Expr) (f:FL):Prop:=
  ∀ ⦃A:Around⦄ ⦃s:Shared⦄ ⦃σ:Option Addr⦄ ⦃X:Addr→Prop⦄ ⦃μ:List Addr⦄ ⦃ρ:Rho⦄ ⦃H:Hp⦄ ⦃xs:List V⦄ ⦃H':Hp⦄,Room n A→Wd B σ X env names ρ μ H s→f ρ H=some (xs,H')→
    wpAny (model B.prog B.w) A (eval e env) (fun v s₁=>wpAny (model B.prog B.w) A (pyIter v) (PostIS B env names σ X ρ μ s H' xs) NoE s₁) NoE s
theorem R.forS {x it:PySem.Expr} {fi:FL} {tg:FG} {b:List Stmt} {fb:FS} {pos:Pos} (hi:SndIS B n env names it fi) (hg:SndG B env names x tg) (hb:SndB B n env names b fb) (hn:1≤n) (hs:∀ v,foldedSetIterable it env v=pure v):SndS B n env names (.For x it b [] pos) (frS fi tg fb):=fun {A s σ X μ ρ H F ρ' H'} hr w q=>by
  obtain ⟨vs,H1,q1,q⟩:=bnd ((forS_eq _ _ _ _ _).symm.trans q)
  refine wpAny_For (noE (hi hr w q1) fun v s₁ h=>noE h fun i s₂ hx=>?_) hs
  obtain ⟨ν,w2,r2,⟨a,ha,hf⟩,t2⟩:=hx
  subst ha
  exact forLoop hg hb hr hn hf (base_none w.bs hf) w2 r2 t2 q (fun f s' p=>p)
inductive SrtI (f:FE) (ρ:Rho) (H H':Hp):List V→Prop
  |mk (l:List V) (ps:List Pr) (pa:Array Nat) (q1:f ρ H=some (.frz l,H')) (hps:pairs? l=some ps) (hlen:2≤ps.length∧ps.length < 64) (hev:ev (ltAt ps) (kas_sort ps.length)=some pa) (hall:pa.toList.all (fun i=>decide (i < ps.length))=true) :
    SrtI f ρ H H' (pa.toList.map fun i=>l.getD i V.none)
theorem srtF_d (f:FE) (ρ:Rho) (H:Hp):srtF f ρ H=oFrz (f ρ H) fun l H1=>obn (pairs? l) fun ps=>obn (srtL ps) fun p=>some (p.map fun i=>l.getD i .none,H1):=by kernel_rfl
theorem srtL_eq (ps:List Pr):srtL ps=if 2≤ps.length∧ps.length < 64 then obn (ev (ltAt ps) (kas_sort ps.length)) fun p=>if p.toList.all (fun i=>decide (i < ps.length)) then some p.toList else none else none:=by kernel_rfl
theorem srtF_some {f:FE} {xs:List V} (q:srtF f ρ H=some (xs,H')):SrtI f ρ H H' xs:=by
  obtain ⟨l,H1,q1,q⟩:=ofrz ((srtF_d ..).symm.trans q)
  obtain ⟨ps,hps,q⟩:=bn1 q
  obtain ⟨p,hp,q⟩:=bn1 q
  cases q
  obtain ⟨hlen,hp⟩:=ite_opt ((srtL_eq _).symm.trans hp)
  obtain ⟨pa,hev,hp⟩:=bn1 hp
  obtain ⟨hall,rfl⟩:=ite_some hp
  exact ⟨l,ps,pa,q1,hps,hlen,hev,hall⟩
theorem srt_end (w1:Wd B σ X env names ρ (μ++ν) H s') (t1:Stp B μ ν s.heap s'.heap) {h2:Heap} {D c:Nat} {vs:List Value} {l:List V} {is:List Nat} (kept2:∀ b o,b ≠ env.locals→s'.heap.get? b=some o→h2.get? b=some o) (hn2:∀ m,s'.heap.Ns env.locals m→h2.Ns env.locals m)
    (hDl:h2.get? D=some (listOf (List.toArray (is.map fun i=>vs.getD i Value.none)) c)) (hD1:s'.heap.get? D=Option.none) (rv:VRs σ X (μ++ν) s'.heap vs l) (hpl:∀ i ∈ is,i < l.length) :
    wpAny (model B.prog B.w) A (pyIter (.ref D)) (PostIS B env names σ X ρ μ s H (is.map fun i=>l.getD i V.none)) NoE { s' with heap:=h2 }:=by
  obtain ⟨w2,t2,mv2⟩:=w1.nsKeep (tk:=s'.toks) kept2 hn2
  have rp:VRs σ X (μ++ν) h2 (is.map fun i=>vs.getD i Value.none) (is.map fun i=>l.getD i V.none):=(rv.mv mv2).pick hpl
  refine wpAny_pyIter_list (l:=D) (items:=List.toArray (is.map fun i=>vs.getD i Value.none)) ⟨_,hDl,rfl,_,rfl⟩ ?_
  have kp:Keeps { s' with heap:=h2,toks:=s'.toks } { s' with heap:=h2.push { cls:=.type "list_iterator",data:=.fields #[.ref D,.int 0 0] },toks:=s'.toks }:=keeps_push (s:={ s' with heap:=h2,toks:=s'.toks }) _
  have w3:=w2.keeps kp
  refine ⟨ν,w3,?_,⟨_,rfl,?_⟩,?_⟩
  · refine .list (l:=D) (i:=0) (vs:=is.map fun i=>vs.getD i Value.none) ⟨_,Heap.get?_push_size _ rfl,rfl,rfl⟩ ⟨_,Heap.get?_push_of_some _ hDl,rfl,_,rfl⟩ (fun hm=>?_) ?_
    · obtain ⟨i,hi⟩:=List.getElem?_of_mem hm
      obtain ⟨k,hk⟩:=w1.cr.at hi
      obtain ⟨vs2,⟨n2,p2⟩,_⟩:=w1.cr.cell _ _ _ hi hk
      rw [hD1] at p2;cases p2
    · rw [List.drop_zero]
      exact rp.keeps kp
  · cases hq:s.heap.get? ({ s' with heap:=h2 }:Shared).heap.objs.size with
    |none=>rfl
    |some o=>
      obtain ⟨o',e'⟩:=t1.kp.dom _ _ hq
      obtain ⟨o2,e2⟩:=t2.kp.dom _ _ e'
      exact absurd (Heap.lt_size e2) (Nat.lt_irrefl _)
  · have a1:StpS B env μ ν s.heap h2:=by
      have:=StpS.trans (ν':=[]) t1.S t2
      rwa [List.append_nil] at this
    have a2:=StpS.trans (ν':=[]) a1 (Stp.of_keeps (B:=B) (μ:=μ++ν) kp).S
    rwa [List.append_nil] at a2
theorem cut_none {h:Heap} {L D:Addr} (hDL:D ≠ L) (hc:(cutH h L).get? D=Option.none) (hD:∀ q ∈ aboveL h L,q.1 < D):h.get? D=Option.none:=by
  cases hq:h.get? D with
  |none=>rfl
  |some o=>
    exfalso
    by_cases hl':D < L
    · rw [cut_lt hl',hq] at hc;cases hc
    · exact Nat.lt_irrefl _ (hD (D,o) (above_mem.mpr ⟨Nat.lt_of_le_of_ne (Nat.le_of_not_lt hl') (Ne.symm hDL),hq⟩))
theorem rel_up {h h':Heap} {L:Addr} {m:Str→Option Value} {vs:List Value} {ps:List Pr} (hns:h.Ns L m) (kept:∀ b o,b ≠ L→h.get? b=some o→h'.get? b=some o) (hrel:∀ (i:Nat) (x:Pr),ps[i]?=some x→∃ a t u,vs[i]?=some (.ref a)∧TupA h a [.int x.1 t,.str ⟨x.2.toArray⟩ u]) :
    ∀ (i:Nat) (x:Pr),ps[i]?=some x→∃ a t u,vs[i]?=some (.ref a)∧TupA h' a [.int x.1 t,.str ⟨x.2.toArray⟩ u]:=fun i x hx=>by
  obtain ⟨oL,es,ep,hoL,hdL,hkL⟩:=hns
  obtain ⟨a,t,u,e1,o,e2,hc,nn,hd⟩:=hrel i x hx
  exact ⟨a,t,u,e1,o,kept a o (by rintro rfl;rw [hoL] at e2;cases e2;rw [hdL] at hd;cases hd) e2,hc,nn,hd⟩
set_option tactic.hygienic true in
theorem I.sorted {sp pos:Pos} {e:PySem.Expr} {f:FE} (ok:B.Ok) (bt:BtAt B env "sorted" (.builtin "sorted")) (h:SndE B n env names e f) (hst:starEach [e] env=[(false,eval e env)]) :
    SndIS B n env names (.Call (.Name "sorted" sp) [e] [] pos) (srtF f):=fun {A s σ X μ ρ H xs H'} hr w q=>by
  obtain ⟨l,ps,pa,q1,hps,hlen,hev,hall⟩:=srtF_some q
  refine wpAny_Call_NameR (globB ok w bt.hk bt.hg bt.hb bt.hn bt.hd ?_)
  rw [hst]
  refine callWith_builtin rfl (evalArgs_plain (spliced_cons (show wpAny _ A (eval e env) _ _ _ from nE (h hr w q1) fun v s1 ν w1 r1 t1=>?_)))
  refine by_no fun hn=>?_
  obtain ⟨la,vs,rfl,hl,hX,hmu,rv⟩:=r1.inv
  obtain ⟨m,hns,hloc⟩:=w1.er.ns
  have hvl:=(pairs_rel rv hps).1
  refine hn ?_
  refine spliced_nil (kat_sorted (fr_cut hns) news_cut hl (by omega) (by omega) fun D e1 h' F1 N1 hD=>?_)
  have kept:∀ b o,b ≠ env.locals→s1.heap.get? b=some o→h'.get? b=some o:=fun b o hb e=>back_cut F1 (fun q hq=>(N1 q (.tail _ hq)).1) hb e
  have hrel':=rel_up hns kept (pairs_rel rv hps).2
  obtain ⟨fs,kt⟩:=kat_tups hvl hrel'
  refine kat_kind (T:=.type "int") kt.1 (by omega) (fun v hv=>by
    obtain ⟨a,t,rfl⟩:=kt.2.2 v hv
    exact Looks.of_pure rfl) (by decide) ?_
  have hT:(Value.type "int" != Value.type "tuple")=true:=by decide
  rw [hT,hvl]
  refine ev_wp (lt:=ltAt ps) (I:=fun s'=>s' = { s1 with heap:=h' }) (fun i j b C s' hb hi hC=>?_) _ pa _ hev rfl ?_
  · subst hi
    unfold ltAt at hb
    split at hb
    · rename_i x y hx hy
      cases hb
      obtain ⟨a,t,u,q1,q2⟩:=hrel' i x hx
      obtain ⟨c,t2,u2,q3,q4⟩:=hrel' j y hy
      show wpAny _ _ (keyLt' (tuples' true) (vs.getD i Value.none) (vs.getD j Value.none)) C _ _
      rw [List.getD_eq_getElem?_getD,q1,List.getD_eq_getElem?_getD,q3]
      exact key_lt q2 q4 hC
    · cases hb
  refine KasFin.intro F1 N1 (UpdF.head (fun q hq=>Nat.ne_of_lt (hD q hq))) fun h2 c F2 N2=>?_
  refine srt_end w1 t1 (fun b o hb e=>back_cut F2 (fun q hq=>(N2 q (.tail _ hq)).1) hb e) (fun m2 hm2=>by
    have e:m2=m:=hm2.eq_nsMap.trans hns.eq_nsMap.symm
    subst e;exact F2.ns) (N2 _ (.head _)).1 (cut_none (N2 _ (.head _)).2.1 (N2 _ (.head _)).2.2 hD) rv fun i hi=>?_
  have:=List.all_eq_true.mp hall i hi
  rw [pairs_len hps] at this
  simpa using this
end
noncomputable abbrev RecC (B:Base) (c:Addr) (x:Str) (params:Arguments) (body:List Stmt) (scope:Scope):Prop:=
  ∃ a o pm doc,B.mg x=some (.ref a)∧B.h1.get? a=some o∧o.data=.func (docDef x params body scope pm (.ref c) doc)∧B.h1.CodeRec (.ref c) x
structure CtxT (B:Base):Prop extends Ctx B where
  ext:Ext B
  tr:RecC B B.c "_translate" (argsAt 15) (bodyAt 15) (scopeAt 15)
section
variable {B:Base} {n:Nat} {env:Env} {names:List Str} {A:Around} {s s' s'':Shared} {σ:Option Addr} {X:Addr→Prop} {μ ν:List Addr} {ρ ρ':Rho} {H H' H'':Hp} {F:Fl}
set_option tactic.hygienic true in
theorem fnSC {c:Addr} {x:Str} {params:Arguments} {body:List Stmt} {scope:Scope} {ps ls:List Str} {f:FS} (ok:B.Ok) (hrec:RecC B c x params body scope) (fit:Fit params scope ps ls)
    (hbody:∀ pm doc L a,SndB B n (callEnvC (docDef x params body scope pm (.ref c) doc) L a) (ps++ls) body f):FnS B (n+1) x (fun xs H=>if xs.length=ps.length then runF ls.length f xs H else none):=by
  obtain ⟨a,o,pm,doc,h1,h2,h3,h4⟩:=hrec
  refine ⟨a,⟨h1,o,_,h2,h3⟩,fun {A s σ X μ H vs xs r H'} hr bs c0 hm rs q=>?_⟩
  obtain ⟨hxl,q⟩:=ite_opt q
  have hlen:vs.length=ps.length:=by rw [rs.length,hxl]
  have hml:μ.length=H.length:=c0.len
  refine wpAny_call (codeAny_call_cells (o:=o) (body:=body) (binds:=ps.zip vs) (by have:=hr.2.1;show A.depth < 1000;omega) (bs.fn ok h2 h3) h3 (bs.nolimit ok) (bs.code ok h4) rfl (fit.bi x body pm (.ref c) doc vs hlen) rfl ?_ ?_ fit.co fit.ge fit.ki)
  · intro y hy
    have hmem:y.1 ∈ ps:=(List.of_mem_zip hy).1
    rcases fit.pk _ hmem with h | h
    · exact .inl h
    · exact .inr ⟨h,fit.ce _ (List.mem_append_left _ hmem) h _⟩
  · intro s₁ ic
    obtain ⟨k,w⟩:=frame (a:=a) (x:=x) (body:=body) (pm:=pm) (code:=.ref c) (doc:=doc) fit bs c0 hm rs hlen ic
    have kp:=ic_kp k ic.toInCall.fresh ic.above
    cases runK_some q with
    |rt v ρ' H1 q1 q=>
      refine anyE (nS (hbody pm doc _ a (room_deeper hr) w q1) fun fl s' ν w' r' t'=>?_)
      cases r' with
      |rt rv=>exact fin_call w' rv t' (by rw [hml];exact q) kp
    |nx ρ' H1 q1 q=>
      refine anyE (nS (hbody pm doc _ a (room_deeper hr) w q1) fun fl s' ν w' r' t'=>?_)
      cases r' with
      |nx=>exact fin_call w' .none t' (by rw [hml];exact q) kp
end
section
set_option maxHeartbeats 4000000
variable {B:Base}
theorem rec_heapify (cx:Ctx B):Rec B "heapify" (argsAt 5) (bodyAt 5) (scopeAt 5):=recAt cx (by kernel_rfl) (by kernel_rfl)
noncomputable abbrev ps_heapify:List Str:=["x"]
noncomputable abbrev ls_heapify:List Str:=["n", "i"]
theorem nd_heapify:(ps_heapify++ls_heapify).Nodup:=by decide +kernel
noncomputable abbrev env_heapify (pm code doc:Value) (L a:Addr):Env:=callEnvC (docDef "heapify" (argsAt 5) (bodyAt 5) (scopeAt 5) pm code doc) L a
theorem fit_heapify:Fit (argsAt 5) (scopeAt 5) ps_heapify ls_heapify where
  co:=by kernel_rfl
  ge:=by kernel_rfl
  ki:=by kernel_rfl
  nd:=nd_heapify
  pk:=by decide +kernel
  nf:=by decide +kernel
  bi:=fun Z Z Z Z Z=>vl1 fun Z=>by kernel_rfl
noncomputable def f_heapify (K:Nat):FS:=(seqS (setS 1 (calF lenG [(getV 0)])) (frS (revF (bin divV (getV 1) (cInt 2))) (tgN 2) (expS (funcF (g_siftup K) [(getV 0),(getV 2)]))))
theorem b_heapify (cx:Ctx B) (K:Nat) (pm code doc:Value) (L a:Addr):SndB B 3 (env_heapify pm code doc L a) (ps_heapify++ls_heapify) (bodyAt 5) (f_heapify K):=
  (bcons (R.set (At.mk' (i:=1) (k:=.local) nd_heapify rfl (by kernel_rfl) (.inl rfl)) (S.call cx.ok ⟨by kernel_rfl,cx.bm.len,by decide +kernel,by decide +kernel,by kernel_rfl,rfl⟩ (SndL.cons (S.name (i:=0) (k:=.local)) stName SndL.nil) O.len (by omega)) rfl) (bone (R.for (I.rev cx.ok ⟨by kernel_rfl,cx.bm.range,by decide +kernel,by decide +kernel,by kernel_rfl,rfl⟩ ⟨by kernel_rfl,cx.bm.reversed,by decide +kernel,by decide +kernel,by kernel_rfl,rfl⟩ (S.binop (S.name (i:=1) (k:=.local)) S.int O.div (by omega)) (st1 stBinOp)) (G.name (At.mk' (i:=2) (k:=.local) nd_heapify rfl (by kernel_rfl) (.inl rfl))) (bone (R.exp (S.func cx.ok (fn_siftup cx K) (by kernel_rfl) (by kernel_rfl) (SndL.cons (S.name (i:=0) (k:=.local)) stName (SndL.cons (S.name (i:=2) (k:=.local)) stName SndL.nil)) (by omega)) rfl rfl)) (by omega) (fun Z=>rfl))))
noncomputable def g_heapify (K:Nat):FF:=fun xs H=>if xs.length=ps_heapify.length then runF ls_heapify.length (f_heapify K) xs H else none
theorem fn_heapify (cx:Ctx B) (K:Nat):FnS B 4 "heapify" (g_heapify K):=fnS (x := "heapify") (params:=argsAt 5) (body:=bodyAt 5) (scope:=scopeAt 5) (ps:=ps_heapify) (ls:=ls_heapify) (f:=f_heapify K) cx.ok (rec_heapify cx) fit_heapify (b_heapify cx K)
theorem rec_escape (cx:Ctx B):Rec B "escape" (argsAt 13) (bodyAt 13) (scopeAt 13):=recAt cx (by kernel_rfl) (by kernel_rfl)
noncomputable abbrev ps_escape:List Str:=["pattern"]
noncomputable abbrev ls_escape:List Str:=[]
theorem nd_escape:(ps_escape++ls_escape).Nodup:=by decide +kernel
noncomputable abbrev env_escape (pm code doc:Value) (L a:Addr):Env:=callEnvC (docDef "escape" (argsAt 13) (bodyAt 13) (scopeAt 13) pm code doc) L a
theorem fit_escape:Fit (argsAt 13) (scopeAt 13) ps_escape ls_escape where
  co:=by kernel_rfl
  ge:=by kernel_rfl
  ki:=by kernel_rfl
  nd:=nd_escape
  pk:=by decide +kernel
  nf:=by decide +kernel
  bi:=fun Z Z Z Z Z=>vl1 fun Z=>by kernel_rfl
noncomputable def f_escape:FS:=(ifS (tB (isStrF 0)) (retS (trF 0)) noS)
theorem b_escape (cx:CtxT B) (pm code doc:Value) (L a:Addr):SndB B 1 (env_escape pm code doc L a) (ps_escape++ls_escape) (bodyAt 13) (f_escape):=
  (bone (R.ite (T.plain (S.isStr (ix:=0) cx.ok cx.bm cx.ext (by kernel_rfl) (by kernel_rfl) (by kernel_rfl) rfl (by kernel_rfl)) (fun Z=>rfl)) (bone (R.ret (S.trans (ix:=0) cx.ok cx.ext (by kernel_rfl) (by kernel_rfl) rfl (by kernel_rfl) ⟨rfl,rfl,rfl⟩))) bnever))
noncomputable def g_escape:FF:=fun xs H=>if xs.length=ps_escape.length then runF ls_escape.length (f_escape) xs H else none
theorem fn_escape (cx:CtxT B):FnS B 2 "escape" (g_escape):=fnS (x := "escape") (params:=argsAt 13) (body:=bodyAt 13) (scope:=scopeAt 13) (ps:=ps_escape) (ls:=ls_escape) (f:=f_escape) cx.ok (rec_escape cx.toCtx) fit_escape (b_escape cx)
end
section
set_option maxHeartbeats 4000000
variable {B:Base}
theorem rec_utranslate (cx:Ctx B):Rec B "_translate" (argsAt 15) (bodyAt 15) (scopeAt 15):=recAt cx (by kernel_rfl) (by kernel_rfl)
noncomputable abbrev ps_utranslate:List Str:=["pat", "STAR", "QUESTION_MARK"]
noncomputable abbrev ls_utranslate:List Str:=["res", "add", "i", "n", "c", "j", "stuff", "chunks", "k", "chunk"]
theorem nd_utranslate:(ps_utranslate++ls_utranslate).Nodup:=by decide +kernel
noncomputable abbrev env_utranslate (pm code doc:Value) (L a:Addr):Env:=callEnvC (docDef "_translate" (argsAt 15) (bodyAt 15) (scopeAt 15) pm code doc) L a
theorem fit_utranslate:Fit (argsAt 15) (scopeAt 15) ps_utranslate ls_utranslate where
  co:=by kernel_rfl
  ge:=by kernel_rfl
  ki:=by kernel_rfl
  nd:=nd_utranslate
  pk:=by decide +kernel
  nf:=by decide +kernel
  bi:=fun Z Z Z Z Z=>vl3 fun Z Z Z=>by kernel_rfl
noncomputable def f_utranslate (K:Nat):FS:=(seqS (setS 3 (newF [])) (seqS (setS 4 (bndF (getV 3))) (seqS (setSw (tupF [(cInt 0),(calF lenG [(getV 0)])]) [5,6]) (seqS (whileS (tB (bin ltV (getV 5) (getV 6))) (seqS (setS 7 (bin idxV (getV 0) (getV 5))) (seqS (setS 5 (bin addV (getV 5) (cInt 1))) (ifS (tB (bin eqV (getV 7) (cStr [42]))) (ifS (tOr [(tNot (tB (getV 3))),(tB (bin isNotV (bin idxV (getV 3) (negF (cInt 1))) (getV 1)))]) (expS (addF 4 (getV 1))) nopS) (ifS (tB (bin eqV (getV 7) (cStr [63]))) (expS (addF 4 (getV 2))) (ifS (tB (bin eqV (getV 7) (cStr [91]))) (seqS (setS 8 (getV 5)) (seqS (ifS (tAnd [(tB (bin ltV (getV 8) (getV 6))),(tB (bin eqV (bin idxV (getV 0) (getV 8)) (cStr [33])))]) (setS 8 (bin addV (getV 8) (cInt 1))) nopS) (seqS (ifS (tAnd [(tB (bin ltV (getV 8) (getV 6))),(tB (bin eqV (bin idxV (getV 0) (getV 8)) (cStr [93])))]) (setS 8 (bin addV (getV 8) (cInt 1))) nopS) (seqS (whileS (tAnd [(tB (bin ltV (getV 8) (getV 6))),(tB (bin neV (bin idxV (getV 0) (getV 8)) (cStr [93])))]) (setS 8 (bin addV (getV 8) (cInt 1))) K) (ifS (tB (bin geV (getV 8) (getV 6))) (expS (addF 4 (cStr [92,91]))) (seqS (setS 9 (slc (getV 0) (getV 5) (getV 8))) (seqS (ifS (tB (bin notInV (cStr [45]) (getV 9))) (setS 9 (smF repG (getV 9) [(cStr [92]),(cStr [92,92])])) (seqS (setS 10 (newF [])) (seqS (setS 11 (ifE (tB (bin eqV (bin idxV (getV 0) (getV 5)) (cStr [33]))) (bin addV (getV 5) (cInt 2)) (bin addV (getV 5) (cInt 1)))) (seqS (whileS (tB (cBool true)) (seqS (setS 11 (smF findG (getV 0) [(cStr [45]),(getV 11),(getV 8)])) (seqS (ifS (tB (bin ltV (getV 11) (cInt 0))) brkS nopS) (seqS (expS (apdF (getV 10) (slc (getV 0) (getV 5) (getV 11)))) (seqS (setS 5 (bin addV (getV 11) (cInt 1))) (setS 11 (bin addV (getV 11) (cInt 3))))))) K) (seqS (setS 12 (slc (getV 0) (getV 5) (getV 8))) (seqS (ifS (tB (getV 12)) (expS (apdF (getV 10) (getV 12))) (augSubS iaddV (getV 10) (negF (cInt 1)) (cStr [45]))) (seqS (frS (rngF [(bin subV (calF lenG [(getV 10)]) (cInt 1)),(cInt 0),(negF (cInt 1))]) (tgN 11) (ifS (tB (bin gtV (bin idxV (bin idxV (getV 10) (bin subV (getV 11) (cInt 1))) (negF (cInt 1))) (bin idxV (bin idxV (getV 10) (getV 11)) (cInt 0)))) (seqS (putS (bin addV (slc (bin idxV (getV 10) (bin subV (getV 11) (cInt 1))) cNone (negF (cInt 1))) (slc (bin idxV (getV 10) (getV 11)) (cInt 1) cNone)) (getV 10) (bin subV (getV 11) (cInt 1))) (delS (getV 10) (getV 11))) nopS)) (setS 9 (jgF 10))))))))) (seqS (setS 9 (subF 9)) (seqS (setS 5 (bin addV (getV 8) (cInt 1))) (ifS (tNot (tB (getV 9))) (expS (addF 4 (cStr [40,63,33,41]))) (ifS (tB (bin eqV (getV 9) (cStr [33]))) (expS (addF 4 (cStr [46]))) (seqS (ifS (tB (bin eqV (bin idxV (getV 9) (cInt 0)) (cStr [33]))) (setS 9 (bin addV (cStr [94]) (slc (getV 9) (cInt 1) cNone))) (ifS (tB (bin inV (bin idxV (getV 9) (cInt 0)) (tupF [(cStr [94]),(cStr [91])]))) (setS 9 (bin addV (cStr [92]) (getV 9))) nopS)) (expS (addF 4 (fsF [(cStr [91]),(fmtF (getV 9)),(cStr [93])] []))))))))))))))) (expS (addF 4 (funF g_escape [(getV 7)])))))))) K) (seqS (asrS (tB (bin eqV (getV 5) (getV 6)))) (retS (getV 3)))))))
theorem b_utranslate (cx:CtxT B) (K:Nat) (pm doc:Value) (L a:Addr):SndB B 2 (env_utranslate pm (.ref B.c) doc L a) (ps_utranslate++ls_utranslate) (bodyAt 15) (f_utranslate K):=
  (bcons (R.set (At.mk' (i:=3) (k:=.local) nd_utranslate rfl (by kernel_rfl) (.inl rfl)) (S.new SndL.nil (by decide)) rfl) (bcons (R.set (At.mk' (i:=4) (k:=.local) nd_utranslate rfl (by kernel_rfl) (.inl rfl)) (S.bound (S.name (i:=3) (k:=.local)) rfl) rfl) (bcons (R.setSw (S.tuple (SndL.cons S.int stConstant (SndL.cons (S.call cx.ok ⟨by kernel_rfl,cx.bm.len,by decide +kernel,by decide +kernel,by kernel_rfl,rfl⟩ (SndL.cons (S.name (i:=0) (k:=.local)) stName SndL.nil) O.len (by omega)) stCall SndL.nil)) (by decide)) (At.mk' (i:=5) (k:=.local) nd_utranslate rfl (by kernel_rfl) (.inl rfl)) (At.mk' (i:=6) (k:=.local) nd_utranslate rfl (by kernel_rfl) (.inl rfl)) rfl (by kernel_rfl)) (bcons (R.while K (T.cmp (S.name (i:=5) (k:=.local)) (S.name (i:=6) (k:=.local)) O.lt (by omega) rfl) (bcons (R.set (At.mk' (i:=7) (k:=.local) nd_utranslate rfl (by kernel_rfl) (.inl rfl)) (S.idx (S.name (i:=0) (k:=.local)) (S.name (i:=5) (k:=.local)) (fun Z Z=>rfl)) rfl) (bcons (R.set (At.mk' (i:=5) (k:=.local) nd_utranslate rfl (by kernel_rfl) (.inl rfl)) (S.binop (S.name (i:=5) (k:=.local)) S.int O.add (by omega)) rfl) (bone (R.ite (T.cmp (S.name (i:=7) (k:=.local)) (S.str (by kernel_rfl)) O.eq (by omega) rfl) (bone (R.ite (T.or (SndTs.cons (T.not (T.plain (S.name (i:=3) (k:=.local)) (fun Z=>rfl))) (SndTs.cons (T.cmp (S.idx (S.name (i:=3) (k:=.local)) (S.neg S.int) (fun Z Z=>rfl)) (S.name (i:=1) (k:=.local)) O.isNot (by omega) rfl) SndTs.nil))) (bone (R.exp (S.add (ix:=4) (by kernel_rfl) rfl (by kernel_rfl) (S.name (i:=1) (k:=.local)) (st1 stName)) rfl rfl)) bnil)) (bone (R.ite (T.cmp (S.name (i:=7) (k:=.local)) (S.str (by kernel_rfl)) O.eq (by omega) rfl) (bone (R.exp (S.add (ix:=4) (by kernel_rfl) rfl (by kernel_rfl) (S.name (i:=2) (k:=.local)) (st1 stName)) rfl rfl)) (bone (R.ite (T.cmp (S.name (i:=7) (k:=.local)) (S.str (by kernel_rfl)) O.eq (by omega) rfl) (bcons (R.set (At.mk' (i:=8) (k:=.local) nd_utranslate rfl (by kernel_rfl) (.inl rfl)) (S.name (i:=5) (k:=.local)) rfl) (bcons (R.ite (T.and (SndTs.cons (T.cmp (S.name (i:=8) (k:=.local)) (S.name (i:=6) (k:=.local)) O.lt (by omega) rfl) (SndTs.cons (T.cmp (S.idx (S.name (i:=0) (k:=.local)) (S.name (i:=8) (k:=.local)) (fun Z Z=>rfl)) (S.str (by kernel_rfl)) O.eq (by omega) rfl) SndTs.nil))) (bone (R.set (At.mk' (i:=8) (k:=.local) nd_utranslate rfl (by kernel_rfl) (.inl rfl)) (S.binop (S.name (i:=8) (k:=.local)) S.int O.add (by omega)) rfl)) bnil) (bcons (R.ite (T.and (SndTs.cons (T.cmp (S.name (i:=8) (k:=.local)) (S.name (i:=6) (k:=.local)) O.lt (by omega) rfl) (SndTs.cons (T.cmp (S.idx (S.name (i:=0) (k:=.local)) (S.name (i:=8) (k:=.local)) (fun Z Z=>rfl)) (S.str (by kernel_rfl)) O.eq (by omega) rfl) SndTs.nil))) (bone (R.set (At.mk' (i:=8) (k:=.local) nd_utranslate rfl (by kernel_rfl) (.inl rfl)) (S.binop (S.name (i:=8) (k:=.local)) S.int O.add (by omega)) rfl)) bnil) (bcons (R.while K (T.and (SndTs.cons (T.cmp (S.name (i:=8) (k:=.local)) (S.name (i:=6) (k:=.local)) O.lt (by omega) rfl) (SndTs.cons (T.cmp (S.idx (S.name (i:=0) (k:=.local)) (S.name (i:=8) (k:=.local)) (fun Z Z=>rfl)) (S.str (by kernel_rfl)) O.ne (by omega) rfl) SndTs.nil))) (bone (R.set (At.mk' (i:=8) (k:=.local) nd_utranslate rfl (by kernel_rfl) (.inl rfl)) (S.binop (S.name (i:=8) (k:=.local)) S.int O.add (by omega)) rfl)) (by omega)) (bone (R.ite (T.cmp (S.name (i:=8) (k:=.local)) (S.name (i:=6) (k:=.local)) O.ge (by omega) rfl) (bone (R.exp (S.add (ix:=4) (by kernel_rfl) rfl (by kernel_rfl) (S.str (by kernel_rfl)) (st1 stConstant)) rfl rfl)) (bcons (R.set (At.mk' (i:=9) (k:=.local) nd_utranslate rfl (by kernel_rfl) (.inl rfl)) (S.slice (S.name (i:=0) (k:=.local)) (SndP.some (S.name (i:=5) (k:=.local))) (SndP.some (S.name (i:=8) (k:=.local)))) rfl) (bcons (R.ite (T.cmp (S.str (by kernel_rfl)) (S.name (i:=9) (k:=.local)) O.notIn (by omega) rfl) (bone (R.set (At.mk' (i:=9) (k:=.local) nd_utranslate rfl (by kernel_rfl) (.inl rfl)) (S.smeth (S.name (i:=9) (k:=.local)) (SndL.cons (S.str (by kernel_rfl)) stConstant (SndL.cons (S.str (by kernel_rfl)) stConstant SndL.nil)) O.repl (by omega) ⟨rfl,rfl,rfl⟩ PySem.F.plainAttrs_str PySem.F.slot_str_replace PySem.F.type_str_replace) rfl)) (bcons (R.set (At.mk' (i:=10) (k:=.local) nd_utranslate rfl (by kernel_rfl) (.inl rfl)) (S.new SndL.nil (by decide)) rfl) (bcons (R.set (At.mk' (i:=11) (k:=.local) nd_utranslate rfl (by kernel_rfl) (.inl rfl)) (S.ife (T.cmp (S.idx (S.name (i:=0) (k:=.local)) (S.name (i:=5) (k:=.local)) (fun Z Z=>rfl)) (S.str (by kernel_rfl)) O.eq (by omega) rfl) (S.binop (S.name (i:=5) (k:=.local)) S.int O.add (by omega)) (S.binop (S.name (i:=5) (k:=.local)) S.int O.add (by omega))) rfl) (bcons (R.while K (T.plain S.bool (fun Z=>rfl)) (bcons (R.set (At.mk' (i:=11) (k:=.local) nd_utranslate rfl (by kernel_rfl) (.inl rfl)) (S.smeth (S.name (i:=0) (k:=.local)) (SndL.cons (S.str (by kernel_rfl)) stConstant (SndL.cons (S.name (i:=11) (k:=.local)) stName (SndL.cons (S.name (i:=8) (k:=.local)) stName SndL.nil))) O.find (by omega) ⟨rfl,rfl,rfl⟩ PySem.F.plainAttrs_str PySem.F.slot_str_find PySem.F.type_str_find) rfl) (bcons (R.ite (T.cmp (S.name (i:=11) (k:=.local)) S.int O.lt (by omega) rfl) (bone R.brk) bnil) (bcons (R.exp (S.append (S.name (i:=10) (k:=.local)) (S.slice (S.name (i:=0) (k:=.local)) (SndP.some (S.name (i:=5) (k:=.local))) (SndP.some (S.name (i:=11) (k:=.local)))) rfl rfl rfl (bk1 stSubscript)) rfl rfl) (bcons (R.set (At.mk' (i:=5) (k:=.local) nd_utranslate rfl (by kernel_rfl) (.inl rfl)) (S.binop (S.name (i:=11) (k:=.local)) S.int O.add (by omega)) rfl) (bone (R.set (At.mk' (i:=11) (k:=.local) nd_utranslate rfl (by kernel_rfl) (.inl rfl)) (S.binop (S.name (i:=11) (k:=.local)) S.int O.add (by omega)) rfl)))))) (by omega)) (bcons (R.set (At.mk' (i:=12) (k:=.local) nd_utranslate rfl (by kernel_rfl) (.inl rfl)) (S.slice (S.name (i:=0) (k:=.local)) (SndP.some (S.name (i:=5) (k:=.local))) (SndP.some (S.name (i:=8) (k:=.local)))) rfl) (bcons (R.ite (T.plain (S.name (i:=12) (k:=.local)) (fun Z=>rfl)) (bone (R.exp (S.append (S.name (i:=10) (k:=.local)) (S.name (i:=12) (k:=.local)) rfl rfl rfl (bk1 stName)) rfl rfl)) (bone (R.augSub (S.str (by kernel_rfl)) (S.name (i:=10) (k:=.local)) (S.neg S.int) O.iadd (by omega) (fun Z Z Z=>rfl)))) (bcons (R.for (I.range cx.ok ⟨by kernel_rfl,cx.bm.range,by decide +kernel,by decide +kernel,by kernel_rfl,rfl⟩ (SndL.cons (S.binop (S.call cx.ok ⟨by kernel_rfl,cx.bm.len,by decide +kernel,by decide +kernel,by kernel_rfl,rfl⟩ (SndL.cons (S.name (i:=10) (k:=.local)) stName SndL.nil) O.len (by omega)) S.int O.sub (by omega)) stBinOp (SndL.cons S.int stConstant (SndL.cons (S.neg S.int) stUnaryOp SndL.nil)))) (G.name (At.mk' (i:=11) (k:=.local) nd_utranslate rfl (by kernel_rfl) (.inl rfl))) (bone (R.ite (T.cmp (S.idx (S.idx (S.name (i:=10) (k:=.local)) (S.binop (S.name (i:=11) (k:=.local)) S.int O.sub (by omega)) (fun Z Z=>rfl)) (S.neg S.int) (fun Z Z=>rfl)) (S.idx (S.idx (S.name (i:=10) (k:=.local)) (S.name (i:=11) (k:=.local)) (fun Z Z=>rfl)) S.int (fun Z Z=>rfl)) O.gt (by omega) rfl) (bcons (R.put (S.binop (S.slice (S.idx (S.name (i:=10) (k:=.local)) (S.binop (S.name (i:=11) (k:=.local)) S.int O.sub (by omega)) (fun Z Z=>rfl)) SndP.none (SndP.some (S.neg S.int))) (S.slice (S.idx (S.name (i:=10) (k:=.local)) (S.name (i:=11) (k:=.local)) (fun Z Z=>rfl)) (SndP.some S.int) SndP.none) O.add (by omega)) (S.name (i:=10) (k:=.local)) (S.binop (S.name (i:=11) (k:=.local)) S.int O.sub (by omega)) rfl) (bone (R.del (S.name (i:=10) (k:=.local)) (S.name (i:=11) (k:=.local))))) bnil)) (by omega) (fun Z=>rfl)) (bone (R.set (At.mk' (i:=9) (k:=.local) nd_utranslate rfl (by kernel_rfl) (.inl rfl)) (S.joinGen (ix:=10) cx.ok cx.ext rfl (by kernel_rfl) rfl rfl rfl (by kernel_rfl) rfl (by kernel_rfl) ⟨rfl,rfl,rfl⟩) rfl))))))))) (bcons (R.set (At.mk' (i:=9) (k:=.local) nd_utranslate rfl (by kernel_rfl) (.inl rfl)) (S.resub (ix:=9) cx.ok cx.ext rfl (by kernel_rfl) rfl rfl (by kernel_rfl) (by kernel_rfl) rfl (by kernel_rfl) ⟨rfl,rfl,rfl⟩) rfl) (bcons (R.set (At.mk' (i:=5) (k:=.local) nd_utranslate rfl (by kernel_rfl) (.inl rfl)) (S.binop (S.name (i:=8) (k:=.local)) S.int O.add (by omega)) rfl) (bone (R.ite (T.not (T.plain (S.name (i:=9) (k:=.local)) (fun Z=>rfl))) (bone (R.exp (S.add (ix:=4) (by kernel_rfl) rfl (by kernel_rfl) (S.str (by kernel_rfl)) (st1 stConstant)) rfl rfl)) (bone (R.ite (T.cmp (S.name (i:=9) (k:=.local)) (S.str (by kernel_rfl)) O.eq (by omega) rfl) (bone (R.exp (S.add (ix:=4) (by kernel_rfl) rfl (by kernel_rfl) (S.str (by kernel_rfl)) (st1 stConstant)) rfl rfl)) (bcons (R.ite (T.cmp (S.idx (S.name (i:=9) (k:=.local)) S.int (fun Z Z=>rfl)) (S.str (by kernel_rfl)) O.eq (by omega) rfl) (bone (R.set (At.mk' (i:=9) (k:=.local) nd_utranslate rfl (by kernel_rfl) (.inl rfl)) (S.binop (S.str (by kernel_rfl)) (S.slice (S.name (i:=9) (k:=.local)) (SndP.some S.int) SndP.none) O.add (by omega)) rfl)) (bone (R.ite (T.cmp (S.idx (S.name (i:=9) (k:=.local)) S.int (fun Z Z=>rfl)) (S.tuple (SndL.cons (S.str (by kernel_rfl)) stConstant (SndL.cons (S.str (by kernel_rfl)) stConstant SndL.nil)) (by decide)) O.inn (by omega) rfl) (bone (R.set (At.mk' (i:=9) (k:=.local) nd_utranslate rfl (by kernel_rfl) (.inl rfl)) (S.binop (S.str (by kernel_rfl)) (S.name (i:=9) (k:=.local)) O.add (by omega)) rfl)) bnil))) (bone (R.exp (S.add (ix:=4) (by kernel_rfl) rfl (by kernel_rfl) (S.fstr (SndEs.cons (S.str (by kernel_rfl)) (SndEs.cons (S.fmt (S.name (i:=9) (k:=.local))) (SndEs.cons (S.str (by kernel_rfl)) SndEs.nil)))) (st1 stJoinedStr)) rfl rfl))))))))))))))))) (bone (R.exp (S.add (ix:=4) (by kernel_rfl) rfl (by kernel_rfl) (S.fun cx.ok (fn_escape cx) (by kernel_rfl) (by kernel_rfl) (SndL.cons (S.name (i:=7) (k:=.local)) stName SndL.nil) (by omega)) (st1 stCall)) rfl rfl)))))))))) (by omega)) (bcons (R.asr (T.cmp (S.name (i:=5) (k:=.local)) (S.name (i:=6) (k:=.local)) O.eq (by omega) rfl)) (bone (R.ret (S.name (i:=3) (k:=.local)))))))))
noncomputable def g_utranslate (K:Nat):FF:=fun xs H=>if xs.length=ps_utranslate.length then runF ls_utranslate.length (f_utranslate K) xs H else none
theorem fn_utranslate (cx:CtxT B) (K:Nat):FnS B 3 "_translate" (g_utranslate K):=fnSC (c:=B.c) (x := "_translate") (params:=argsAt 15) (body:=bodyAt 15) (scope:=scopeAt 15) (ps:=ps_utranslate) (ls:=ls_utranslate) (f:=f_utranslate K) cx.ok cx.tr fit_utranslate (b_utranslate cx K)
end
theorem turn2a {elt t1 i1 t2 i2:PySem.Expr} {ifs1 ifs2:List PySem.Expr} {scope:Scope} {pos:Pos} {it:Value} {D:Addr} {env:Env}:compTurn (.ListComp elt [⟨t1,i1,ifs1,0⟩,⟨t2,i2,ifs2,0⟩] scope pos) 0 it (.ref D) env=(do
      standAt i1.pos
      match ← pyNext it with
      |none=>pure (.done .next)
      |some v=>
        letOwnedTupleGo t1 it v
        assign t1 env v
        let mut ok:=true
        for c in ifs1 do
          if ok then ok ← isTrue c env (eval c env)
        if ok then emitG D (.ListComp elt [⟨t1,i1,ifs1,0⟩,⟨t2,i2,ifs2,0⟩] scope pos) 1 i2 env
        again (.compLoop (.ListComp elt [⟨t1,i1,ifs1,0⟩,⟨t2,i2,ifs2,0⟩] scope pos) 0 it (.ref D) env)):=by
  unfold compTurn emitG
  simp only [bind_assoc,pure_bind,gz,gs,Nat.zero_add]
  rfl
theorem turn2b {elt t1 i1 t2 i2:PySem.Expr} {ifs1 ifs2:List PySem.Expr} {scope:Scope} {pos:Pos} {it:Value} {D:Addr} {env:Env}:compTurn (.ListComp elt [⟨t1,i1,ifs1,0⟩,⟨t2,i2,ifs2,0⟩] scope pos) 1 it (.ref D) env=(do
      standAt i2.pos
      match ← pyNext it with
      |none=>pure (.done .next)
      |some v=>
        letOwnedTupleGo t2 it v
        assign t2 env v
        let mut ok:=true
        for c in ifs2 do
          if ok then ok ← isTrue c env (eval c env)
        if ok then emitL D elt env
        again (.compLoop (.ListComp elt [⟨t1,i1,ifs1,0⟩,⟨t2,i2,ifs2,0⟩] scope pos) 1 it (.ref D) env)):=rfl
section
set_option maxHeartbeats 4000000
variable {B:Base}
theorem rec_translate (cx:Ctx B):Rec B "translate" (argsAt 10) (bodyAt 10) (scopeAt 10):=recAt cx (by kernel_rfl) (by kernel_rfl)
noncomputable abbrev ps_translate:List Str:=["pat"]
noncomputable abbrev ls_translate:List Str:=["STAR", "parts"]
theorem nd_translate:(ps_translate++ls_translate).Nodup:=by decide +kernel
noncomputable abbrev env_translate (pm code doc:Value) (L a:Addr):Env:=callEnvC (docDef "translate" (argsAt 10) (bodyAt 10) (scopeAt 10) pm code doc) L a
theorem fit_translate:Fit (argsAt 10) (scopeAt 10) ps_translate ls_translate where
  co:=by kernel_rfl
  ge:=by kernel_rfl
  ki:=by kernel_rfl
  nd:=nd_translate
  pk:=by decide +kernel
  nf:=by decide +kernel
  bi:=fun Z Z Z Z Z=>vl1 fun Z=>by kernel_rfl
noncomputable def f_translate (K:Nat):FS:=(seqS (setS 2 (funF (g_utranslate K) [(getV 0),(getV 1),(cStr [46])])) (retS (funF (g_join_translated_parts K) [(getV 2),(getV 1)])))
noncomputable def sp_translate:Pos:=⟨51,4,51,8⟩
noncomputable def np_translate:Pos:=⟨51,11,51,17⟩
noncomputable def cp_translate:Pos:=⟨51,11,51,19⟩
noncomputable def ap_translate:Pos:=⟨51,4,51,19⟩
noncomputable def rest_translate:List Stmt:=(bodyAt 10).tail
theorem hd_translate:bodyAt 10=.Assign [.Name "STAR" sp_translate] (.Call (.Name "object" np_translate) [] [] cp_translate) ap_translate::rest_translate:=by kernel_rfl
theorem b_translate (cx:CtxT B) (K:Nat) (pm code doc:Value) (L a:Addr):SndB B 3 (env_translate pm code doc L a) (ps_translate++ls_translate) rest_translate (f_translate K):=
  (bcons (R.set (At.mk' (i:=2) (k:=.local) nd_translate rfl (by kernel_rfl) (.inl rfl)) (S.fun cx.ok (fn_utranslate cx K) (by kernel_rfl) (by kernel_rfl) (SndL.cons (S.name (i:=0) (k:=.local)) stName (SndL.cons (S.name (i:=1) (k:=.local)) stName (SndL.cons (S.str (by kernel_rfl)) stConstant SndL.nil))) (by omega)) rfl) (bone (R.ret (S.fun cx.ok (fn_join_translated_parts cx.toCtx K) (by kernel_rfl) (by kernel_rfl) (SndL.cons (S.name (i:=2) (k:=.local)) stName (SndL.cons (S.name (i:=1) (k:=.local)) stName SndL.nil)) (by omega)))))
noncomputable def g_translate (K:Nat):FF:=starG ps_translate.length ls_translate.length 1 (f_translate K)
theorem fn_translate (cx:CtxT B) (K:Nat):FnS B 4 "translate" (g_translate K):=fnStar (x := "translate") (params:=argsAt 10) (body:=bodyAt 10) (rest:=rest_translate) (scope:=scopeAt 10) (ps:=ps_translate) (ls:=ls_translate) (f:=f_translate K) cx.ok cx.bm (rec_translate cx.toCtx) fit_translate hd_translate (fun pm code doc L a=>At.mk' (i:=1) (k:=.local) nd_translate rfl (by kernel_rfl) (.inl rfl)) (by kernel_rfl) (fun Z=>rfl) (b_translate cx K)
theorem rec_law_parts (cx:Ctx B):Rec B "_law_parts" (argsAt 24) (bodyAt 24) (scopeAt 24):=recAt cx (by kernel_rfl) (by kernel_rfl)
noncomputable abbrev ps_law_parts:List Str:=["pattern"]
noncomputable abbrev ls_law_parts:List Str:=["star", "parts"]
theorem nd_law_parts:(ps_law_parts++ls_law_parts).Nodup:=by decide +kernel
noncomputable abbrev env_law_parts (pm code doc:Value) (L a:Addr):Env:=callEnvC (docDef "_law_parts" (argsAt 24) (bodyAt 24) (scopeAt 24) pm code doc) L a
theorem fit_law_parts:Fit (argsAt 24) (scopeAt 24) ps_law_parts ls_law_parts where
  co:=by kernel_rfl
  ge:=by kernel_rfl
  ki:=by kernel_rfl
  nd:=nd_law_parts
  pk:=by decide +kernel
  nf:=by decide +kernel
  bi:=fun Z Z Z Z Z=>vl1 fun Z=>by kernel_rfl
noncomputable def f_law_parts (K:Nat):FS:=(seqS (setS 2 (funF (g_utranslate K) [(getV 0),(getV 1),(cStr [46])])) (retS (compF (noL (itF (getV 2))) 1 [1] (leafC (ifE (tB (bin isV (getV 0) (getV 1))) cNone (funF (g_law_item K) [(getV 0)]))) (tgN 0) [])))
noncomputable def sp_law_parts:Pos:=⟨190,4,190,8⟩
noncomputable def np_law_parts:Pos:=⟨190,11,190,17⟩
noncomputable def cp_law_parts:Pos:=⟨190,11,190,19⟩
noncomputable def ap_law_parts:Pos:=⟨190,4,190,19⟩
noncomputable def rest_law_parts:List Stmt:=(bodyAt 24).tail
theorem hd_law_parts:bodyAt 24=.Assign [.Name "star" sp_law_parts] (.Call (.Name "object" np_law_parts) [] [] cp_law_parts) ap_law_parts::rest_law_parts:=by kernel_rfl
theorem b_law_parts (cx:CtxT B) (K:Nat) (pm code doc:Value) (L a:Addr):SndB B 4 (env_law_parts pm code doc L a) (ps_law_parts++ls_law_parts) rest_law_parts (f_law_parts K):=
  (bcons (R.set (At.mk' (i:=2) (k:=.local) nd_law_parts rfl (by kernel_rfl) (.inl rfl)) (S.fun cx.ok (fn_utranslate cx K) (by kernel_rfl) (by kernel_rfl) (SndL.cons (S.name (i:=0) (k:=.local)) stName (SndL.cons (S.name (i:=1) (k:=.cell)) stName (SndL.cons (S.str (by kernel_rfl)) stConstant SndL.nil))) (by omega)) rfl) (bone (R.ret (S.comp (CompOk.mk (cl:=[(("star" : Str),((env_law_parts pm code doc L a).cells.lookup ("star" : Str)).getD 0)]) (ts:=["part"]) (fs:=[("star",1)]) (CFit.mk (by kernel_rfl) (by kernel_rfl) (by decide +kernel) (by decide +kernel) (by intro y hy;(rcases List.mem_cons.mp hy with rfl | hy;· kernel_rfl);cases hy) (by intro y j hy;(rcases List.mem_cons.mp hy with hy | hy;· obtain ⟨rfl,rfl⟩:=Prod.mk.inj hy;exact ⟨rfl,.inl (by kernel_rfl),by kernel_rfl⟩);cases hy) (by intro y j hy;(rcases List.mem_cons.mp hy with hy | hy;· obtain ⟨rfl,rfl⟩:=Prod.mk.inj hy;exact .inl (by kernel_rfl));cases hy) (by intro y c hy;have hy:=lookup_mem hy;(rcases List.mem_cons.mp hy with hy | hy;· obtain ⟨rfl,rfl⟩:=Prod.mk.inj hy;kernel_rfl);cases hy) (show (["star"]:List Str).Nodup by decide +kernel)) ⟨_,_,_,_,fun Z Z Z=>rfl,fun Z=>(GL.name (AtL.mk' (i:=0) (by decide +kernel) rfl (by kernel_rfl))),fun Z=>SndTs.nil,fun Z Z=>(emit_leaf (S.ife (T.cmp (S.name (i:=0) (k:=.local)) (S.name (i:=1) (k:=.cell)) O.is (by omega) rfl) S.none (S.fun cx.ok (fn_law_item cx.toCtx K) (by kernel_rfl) (by kernel_rfl) (SndL.cons (S.name (i:=0) (k:=.local)) stName SndL.nil) (by omega))))⟩ rfl) (J.of (I.list (S.name (i:=2) (k:=.local)))) noL_ok (by omega) (fun Z=>rfl)))))
noncomputable def g_law_parts (K:Nat):FF:=starG ps_law_parts.length ls_law_parts.length 1 (f_law_parts K)
theorem fn_law_parts (cx:CtxT B) (K:Nat):FnS B 5 "_law_parts" (g_law_parts K):=fnStar (x := "_law_parts") (params:=argsAt 24) (body:=bodyAt 24) (rest:=rest_law_parts) (scope:=scopeAt 24) (ps:=ps_law_parts) (ls:=ls_law_parts) (f:=f_law_parts K) cx.ok cx.bm (rec_law_parts cx.toCtx) fit_law_parts hd_law_parts (fun pm code doc L a=>At.mk' (i:=1) (k:=.cell) nd_law_parts rfl (by kernel_rfl) (.inr rfl)) (by kernel_rfl) (fun Z=>rfl) (b_law_parts cx K)
theorem rec_law_joined (cx:Ctx B):Rec B "_law_joined" (argsAt 25) (bodyAt 25) (scopeAt 25):=recAt cx (by kernel_rfl) (by kernel_rfl)
noncomputable abbrev ps_law_joined:List Str:=["pattern"]
noncomputable abbrev ls_law_joined:List Str:=["star"]
theorem nd_law_joined:(ps_law_joined++ls_law_joined).Nodup:=by decide +kernel
noncomputable abbrev env_law_joined (pm code doc:Value) (L a:Addr):Env:=callEnvC (docDef "_law_joined" (argsAt 25) (bodyAt 25) (scopeAt 25) pm code doc) L a
theorem fit_law_joined:Fit (argsAt 25) (scopeAt 25) ps_law_joined ls_law_joined where
  co:=by kernel_rfl
  ge:=by kernel_rfl
  ki:=by kernel_rfl
  nd:=nd_law_joined
  pk:=by decide +kernel
  nf:=by decide +kernel
  bi:=fun Z Z Z Z Z=>vl1 fun Z=>by kernel_rfl
noncomputable def f_law_joined (K:Nat):FS:=(retS (funF (g_join_translated_parts K) [(funF (g_utranslate K) [(getV 0),(getV 1),(cStr [46])]),(getV 1)]))
noncomputable def sp_law_joined:Pos:=⟨194,4,194,8⟩
noncomputable def np_law_joined:Pos:=⟨194,11,194,17⟩
noncomputable def cp_law_joined:Pos:=⟨194,11,194,19⟩
noncomputable def ap_law_joined:Pos:=⟨194,4,194,19⟩
noncomputable def rest_law_joined:List Stmt:=(bodyAt 25).tail
theorem hd_law_joined:bodyAt 25=.Assign [.Name "star" sp_law_joined] (.Call (.Name "object" np_law_joined) [] [] cp_law_joined) ap_law_joined::rest_law_joined:=by kernel_rfl
theorem b_law_joined (cx:CtxT B) (K:Nat) (pm code doc:Value) (L a:Addr):SndB B 3 (env_law_joined pm code doc L a) (ps_law_joined++ls_law_joined) rest_law_joined (f_law_joined K):=
  (bone (R.ret (S.fun cx.ok (fn_join_translated_parts cx.toCtx K) (by kernel_rfl) (by kernel_rfl) (SndL.cons (S.fun cx.ok (fn_utranslate cx K) (by kernel_rfl) (by kernel_rfl) (SndL.cons (S.name (i:=0) (k:=.local)) stName (SndL.cons (S.name (i:=1) (k:=.local)) stName (SndL.cons (S.str (by kernel_rfl)) stConstant SndL.nil))) (by omega)) stCall (SndL.cons (S.name (i:=1) (k:=.local)) stName SndL.nil)) (by omega))))
noncomputable def g_law_joined (K:Nat):FF:=starG ps_law_joined.length ls_law_joined.length 1 (f_law_joined K)
theorem fn_law_joined (cx:CtxT B) (K:Nat):FnS B 4 "_law_joined" (g_law_joined K):=fnStar (x := "_law_joined") (params:=argsAt 25) (body:=bodyAt 25) (rest:=rest_law_joined) (scope:=scopeAt 25) (ps:=ps_law_joined) (ls:=ls_law_joined) (f:=f_law_joined K) cx.ok cx.bm (rec_law_joined cx.toCtx) fit_law_joined hd_law_joined (fun pm code doc L a=>At.mk' (i:=1) (k:=.local) nd_law_joined rfl (by kernel_rfl) (.inl rfl)) (by kernel_rfl) (fun Z=>rfl) (b_law_joined cx K)
theorem rec_law_text (cx:Ctx B):Rec B "_law_text" (argsAt 26) (bodyAt 26) (scopeAt 26):=recAt cx (by kernel_rfl) (by kernel_rfl)
noncomputable abbrev ps_law_text:List Str:=["pattern"]
noncomputable abbrev ls_law_text:List Str:=["star", "runs", "part", "held"]
theorem nd_law_text:(ps_law_text++ls_law_text).Nodup:=by decide +kernel
noncomputable abbrev env_law_text (pm code doc:Value) (L a:Addr):Env:=callEnvC (docDef "_law_text" (argsAt 26) (bodyAt 26) (scopeAt 26) pm code doc) L a
theorem fit_law_text:Fit (argsAt 26) (scopeAt 26) ps_law_text ls_law_text where
  co:=by kernel_rfl
  ge:=by kernel_rfl
  ki:=by kernel_rfl
  nd:=nd_law_text
  pk:=by decide +kernel
  nf:=by decide +kernel
  bi:=fun Z Z Z Z Z=>vl1 fun Z=>by kernel_rfl
noncomputable def f_law_text (K:Nat):FS:=(seqS (setS 2 (newF [(cStr [])])) (seqS (frS (itF (funF (g_utranslate K) [(getV 0),(getV 1),(cStr [46])])) (tgN 3) (ifS (tB (bin isV (getV 3) (getV 1))) (expS (apdF (getV 2) (cStr []))) (putS (bin addV (bin idxV (getV 2) (negF (cInt 1))) (getV 3)) (getV 2) (negF (cInt 1))))) (seqS (ifS (tB (bin eqV (calF lenG [(getV 2)]) (cInt 1))) (retS (bin addV (bin addV (cStr [40,63,115,58]) (bin idxV (getV 2) (cInt 0))) (cStr [41,92,90]))) nopS) (seqS (setS 4 (compF (noL (itF (slc (getV 2) (cInt 1) (negF (cInt 1))))) 1 [] (leafC (bin addV (bin addV (cStr [40,63,62,46,42,63]) (getV 0)) (cStr [41]))) (tgN 0) [])) (retS (bin addV (bin addV (bin addV (bin addV (bin addV (cStr [40,63,115,58]) (bin idxV (getV 2) (cInt 0))) (smF joinG (cStr []) [(getV 4)])) (cStr [46,42])) (bin idxV (getV 2) (negF (cInt 1)))) (cStr [41,92,90])))))))
noncomputable def sp_law_text:Pos:=⟨197,4,197,8⟩
noncomputable def np_law_text:Pos:=⟨197,11,197,17⟩
noncomputable def cp_law_text:Pos:=⟨197,11,197,19⟩
noncomputable def ap_law_text:Pos:=⟨197,4,197,19⟩
noncomputable def rest_law_text:List Stmt:=(bodyAt 26).tail
theorem hd_law_text:bodyAt 26=.Assign [.Name "star" sp_law_text] (.Call (.Name "object" np_law_text) [] [] cp_law_text) ap_law_text::rest_law_text:=by kernel_rfl
theorem b_law_text (cx:CtxT B) (K:Nat) (pm code doc:Value) (L a:Addr):SndB B 3 (env_law_text pm code doc L a) (ps_law_text++ls_law_text) rest_law_text (f_law_text K):=
  (bcons (R.set (At.mk' (i:=2) (k:=.local) nd_law_text rfl (by kernel_rfl) (.inl rfl)) (S.new (SndL.cons (S.str (by kernel_rfl)) stConstant SndL.nil) (by decide)) rfl) (bcons (R.for (I.list (S.fun cx.ok (fn_utranslate cx K) (by kernel_rfl) (by kernel_rfl) (SndL.cons (S.name (i:=0) (k:=.local)) stName (SndL.cons (S.name (i:=1) (k:=.local)) stName (SndL.cons (S.str (by kernel_rfl)) stConstant SndL.nil))) (by omega))) (G.name (At.mk' (i:=3) (k:=.local) nd_law_text rfl (by kernel_rfl) (.inl rfl))) (bone (R.ite (T.cmp (S.name (i:=3) (k:=.local)) (S.name (i:=1) (k:=.local)) O.is (by omega) rfl) (bone (R.exp (S.append (S.name (i:=2) (k:=.local)) (S.str (by kernel_rfl)) rfl rfl rfl (bk1 stConstant)) rfl rfl)) (bone (R.put (S.binop (S.idx (S.name (i:=2) (k:=.local)) (S.neg S.int) (fun Z Z=>rfl)) (S.name (i:=3) (k:=.local)) O.add (by omega)) (S.name (i:=2) (k:=.local)) (S.neg S.int) rfl)))) (by omega) (fun Z=>rfl)) (bcons (R.ite (T.cmp (S.call cx.ok ⟨by kernel_rfl,cx.bm.len,by decide +kernel,by decide +kernel,by kernel_rfl,rfl⟩ (SndL.cons (S.name (i:=2) (k:=.local)) stName SndL.nil) O.len (by omega)) S.int O.eq (by omega) rfl) (bone (R.ret (S.binop (S.binop (S.str (by kernel_rfl)) (S.idx (S.name (i:=2) (k:=.local)) S.int (fun Z Z=>rfl)) O.add (by omega)) (S.str (by kernel_rfl)) O.add (by omega)))) bnil) (bcons (R.setC (At.mk' (i:=4) (k:=.local) nd_law_text rfl (by kernel_rfl) (.inl rfl)) (CompOk.mk (cl:=[]) (ts:=["run"]) (fs:=[]) (CFit.mk (by kernel_rfl) (by kernel_rfl) (by decide +kernel) (by decide +kernel) (by intro y hy;(rcases List.mem_cons.mp hy with rfl | hy;· kernel_rfl);cases hy) (by intro y j hy;cases hy) (by intro y j hy;cases hy) (by intro y c hy;have hy:=lookup_mem hy;cases hy) (show ([]:List Str).Nodup by decide +kernel)) ⟨_,_,_,_,fun Z Z Z=>rfl,fun Z=>(GL.name (AtL.mk' (i:=0) (by decide +kernel) rfl (by kernel_rfl))),fun Z=>SndTs.nil,fun Z Z=>(emit_leaf (S.binop (S.binop (S.str (by kernel_rfl)) (S.name (i:=0) (k:=.local)) O.add (by omega)) (S.str (by kernel_rfl)) O.add (by omega)))⟩ rfl) (J.of (I.list (S.slice (S.name (i:=2) (k:=.local)) (SndP.some S.int) (SndP.some (S.neg S.int))))) noL_ok (by omega) (fun Z=>rfl) rfl) (bone (R.ret (S.binop (S.binop (S.binop (S.binop (S.binop (S.str (by kernel_rfl)) (S.idx (S.name (i:=2) (k:=.local)) S.int (fun Z Z=>rfl)) O.add (by omega)) (S.smeth (S.str (by kernel_rfl)) (SndL.cons (S.name (i:=4) (k:=.local)) stName SndL.nil) O.join (by omega) ⟨rfl,rfl,rfl⟩ PySem.F.plainAttrs_str PySem.F.slot_str_join PySem.F.type_str_join) O.add (by omega)) (S.str (by kernel_rfl)) O.add (by omega)) (S.idx (S.name (i:=2) (k:=.local)) (S.neg S.int) (fun Z Z=>rfl)) O.add (by omega)) (S.str (by kernel_rfl)) O.add (by omega))))))))
noncomputable def g_law_text (K:Nat):FF:=starG ps_law_text.length ls_law_text.length 1 (f_law_text K)
theorem fn_law_text (cx:CtxT B) (K:Nat):FnS B 4 "_law_text" (g_law_text K):=fnStar (x := "_law_text") (params:=argsAt 26) (body:=bodyAt 26) (rest:=rest_law_text) (scope:=scopeAt 26) (ps:=ps_law_text) (ls:=ls_law_text) (f:=f_law_text K) cx.ok cx.bm (rec_law_text cx.toCtx) fit_law_text hd_law_text (fun pm code doc L a=>At.mk' (i:=1) (k:=.local) nd_law_text rfl (by kernel_rfl) (.inl rfl)) (by kernel_rfl) (fun Z=>rfl) (b_law_text cx K)
end
section
set_option maxHeartbeats 4000000
variable {B:Base}
theorem rec_law_due (cx:Ctx B):Rec B "_law_due" (argsAt 34) (bodyAt 34) (scopeAt 34):=recAt cx (by kernel_rfl) (by kernel_rfl)
noncomputable abbrev ps_law_due:List Str:=["rows", "steps", "limit"]
noncomputable abbrev ls_law_due:List Str:=["names", "layer", "due", "weight", "name", "number"]
theorem nd_law_due:(ps_law_due++ls_law_due).Nodup:=by decide +kernel
noncomputable abbrev env_law_due (pm code doc:Value) (L a:Addr):Env:=callEnvC (docDef "_law_due" (argsAt 34) (bodyAt 34) (scopeAt 34) pm code doc) L a
theorem fit_law_due:Fit (argsAt 34) (scopeAt 34) ps_law_due ls_law_due where
  co:=by kernel_rfl
  ge:=by kernel_rfl
  ki:=by kernel_rfl
  nd:=nd_law_due
  pk:=by decide +kernel
  nf:=by decide +kernel
  bi:=fun Z Z Z Z Z=>vl3 fun Z Z Z=>by kernel_rfl
noncomputable def f_law_due (K:Nat):FS:=(seqS (setS 3 (lstF [])) (seqS (setS 4 (lstF [(tupF [(cInt 0),(cStr [])])])) (seqS (whileS (tB (bin neV (getV 4) (lstF []))) (seqS (setS 3 (bin addV (getV 3) (getV 4))) (seqS (setS 4 (compF (noL (itF (getV 4))) 4 [1] (genC (noL (itF (getV 4))) (leafC (tupF [(bin addV (getV 0) (getV 3)),(bin addV (getV 1) (getV 2))])) (tgT [2,3]) []) (tgT [0,1]) [])) (setS 4 (compF (noL (itF (getV 4))) 1 [2] (leafC (getV 0)) (tgN 0) [(tB (bin leV (bin idxV (getV 0) (cInt 0)) (getV 1)))])))) K) (seqS (setS 5 (newF [])) (seqS (frS (srtF (getV 3)) (tgT [6,7]) (frS (rngF [(calF lenG [(getV 0)])]) (tgN 8) (ifS (tB (funF g_law_begun [(bin idxV (getV 0) (getV 8)),(getV 7)])) (expS (apdF (getV 5) (tupF [(getV 7),(getV 8),(funF (g_law_takes 20) [(bin idxV (getV 0) (getV 8)),(getV 7)])]))) nopS))) (retS (getV 5)))))))
theorem b_law_due (cx:Ctx B) (K:Nat) (pm code doc:Value) (L a:Addr):SndB B 23 (env_law_due pm code doc L a) (ps_law_due++ls_law_due) (bodyAt 34) (f_law_due K):=
  (bcons (R.set (At.mk' (i:=3) (k:=.local) nd_law_due rfl (by kernel_rfl) (.inl rfl)) (S.list SndL.nil (by decide)) rfl) (bcons (R.set (At.mk' (i:=4) (k:=.local) nd_law_due rfl (by kernel_rfl) (.inl rfl)) (S.list (SndL.cons (S.tuple (SndL.cons S.int stConstant (SndL.cons (S.str (by kernel_rfl)) stConstant SndL.nil)) (by decide)) stTuple SndL.nil) (by decide)) rfl) (bcons (R.while K (T.cmp (S.name (i:=4) (k:=.local)) (S.list SndL.nil (by decide)) O.ne (by omega) rfl) (bcons (R.set (At.mk' (i:=3) (k:=.local) nd_law_due rfl (by kernel_rfl) (.inl rfl)) (S.binop (S.name (i:=3) (k:=.local)) (S.name (i:=4) (k:=.local)) O.add (by omega)) rfl) (bcons (R.setC (At.mk' (i:=4) (k:=.local) nd_law_due rfl (by kernel_rfl) (.inl rfl)) (CompOk.mk (cl:=[(("steps" : Str),((env_law_due pm code doc L a).cells.lookup ("steps" : Str)).getD 0)]) (ts:=["weight", "name", "sign", "more"]) (fs:=[("steps",1)]) (CFit.mk (by kernel_rfl) (by kernel_rfl) (by decide +kernel) (by decide +kernel) (by intro y hy;(rcases List.mem_cons.mp hy with rfl | hy;· kernel_rfl);(rcases List.mem_cons.mp hy with rfl | hy;· kernel_rfl);(rcases List.mem_cons.mp hy with rfl | hy;· kernel_rfl);(rcases List.mem_cons.mp hy with rfl | hy;· kernel_rfl);cases hy) (by intro y j hy;(rcases List.mem_cons.mp hy with hy | hy;· obtain ⟨rfl,rfl⟩:=Prod.mk.inj hy;exact ⟨rfl,.inl (by kernel_rfl),by kernel_rfl⟩);cases hy) (by intro y j hy;(rcases List.mem_cons.mp hy with hy | hy;· obtain ⟨rfl,rfl⟩:=Prod.mk.inj hy;exact .inl (by kernel_rfl));cases hy) (by intro y c hy;have hy:=lookup_mem hy;(rcases List.mem_cons.mp hy with hy | hy;· obtain ⟨rfl,rfl⟩:=Prod.mk.inj hy;kernel_rfl);cases hy) (show (["steps"]:List Str).Nodup by decide +kernel)) ⟨_,_,_,_,fun Z Z Z=>turn2a,fun Z=>(GL.tuple (AtLs.cons (AtL.mk' (i:=0) (by decide +kernel) rfl (by kernel_rfl)) (AtLs.cons (AtL.mk' (i:=1) (by decide +kernel) rfl (by kernel_rfl)) AtLs.nil))),fun Z=>SndTs.nil,fun Z Z=>(emit_gen (fun Z=>turn2b) rfl (I.list (S.name (i:=4) (k:=.cell))) (fun Z=>rfl) (GL.tuple (AtLs.cons (AtL.mk' (i:=2) (by decide +kernel) rfl (by kernel_rfl)) (AtLs.cons (AtL.mk' (i:=3) (by decide +kernel) rfl (by kernel_rfl)) AtLs.nil))) SndTs.nil (emit_leaf (S.tuple (SndL.cons (S.binop (S.name (i:=0) (k:=.local)) (S.name (i:=3) (k:=.local)) O.add (by omega)) stBinOp (SndL.cons (S.binop (S.name (i:=1) (k:=.local)) (S.name (i:=2) (k:=.local)) O.add (by omega)) stBinOp SndL.nil)) (by decide))) (by omega))⟩ rfl) (J.of (I.list (S.name (i:=4) (k:=.local)))) noL_ok (by omega) (fun Z=>rfl) rfl) (bone (R.setC (At.mk' (i:=4) (k:=.local) nd_law_due rfl (by kernel_rfl) (.inl rfl)) (CompOk.mk (cl:=[(("limit" : Str),((env_law_due pm code doc L a).cells.lookup ("limit" : Str)).getD 0)]) (ts:=["one"]) (fs:=[("limit",2)]) (CFit.mk (by kernel_rfl) (by kernel_rfl) (by decide +kernel) (by decide +kernel) (by intro y hy;(rcases List.mem_cons.mp hy with rfl | hy;· kernel_rfl);cases hy) (by intro y j hy;(rcases List.mem_cons.mp hy with hy | hy;· obtain ⟨rfl,rfl⟩:=Prod.mk.inj hy;exact ⟨rfl,.inl (by kernel_rfl),by kernel_rfl⟩);cases hy) (by intro y j hy;(rcases List.mem_cons.mp hy with hy | hy;· obtain ⟨rfl,rfl⟩:=Prod.mk.inj hy;exact .inl (by kernel_rfl));cases hy) (by intro y c hy;have hy:=lookup_mem hy;(rcases List.mem_cons.mp hy with hy | hy;· obtain ⟨rfl,rfl⟩:=Prod.mk.inj hy;kernel_rfl);cases hy) (show (["limit"]:List Str).Nodup by decide +kernel)) ⟨_,_,_,_,fun Z Z Z=>rfl,fun Z=>(GL.name (AtL.mk' (i:=0) (by decide +kernel) rfl (by kernel_rfl))),fun Z=>(SndTs.cons (T.cmp (S.idx (S.name (i:=0) (k:=.local)) S.int (fun Z Z=>rfl)) (S.name (i:=1) (k:=.cell)) O.le (by omega) rfl) SndTs.nil),fun Z Z=>(emit_leaf (S.name (i:=0) (k:=.local)))⟩ rfl) (J.of (I.list (S.name (i:=4) (k:=.local)))) noL_ok (by omega) (fun Z=>rfl) rfl)))) (by omega)) (bcons (R.set (At.mk' (i:=5) (k:=.local) nd_law_due rfl (by kernel_rfl) (.inl rfl)) (S.new SndL.nil (by decide)) rfl) (bcons (R.forS (I.sorted cx.ok ⟨by kernel_rfl,cx.bm.sorted,by decide +kernel,by decide +kernel,by kernel_rfl,rfl⟩ (S.name (i:=3) (k:=.local)) (st1 stName)) (G.tuple (Ats.cons (At.mk' (i:=6) (k:=.local) nd_law_due rfl (by kernel_rfl) (.inl rfl)) (Ats.cons (At.mk' (i:=7) (k:=.local) nd_law_due rfl (by kernel_rfl) (.inl rfl)) Ats.nil))) (bone (R.for (I.range cx.ok ⟨by kernel_rfl,cx.bm.range,by decide +kernel,by decide +kernel,by kernel_rfl,rfl⟩ (SndL.cons (S.call cx.ok ⟨by kernel_rfl,cx.bm.len,by decide +kernel,by decide +kernel,by kernel_rfl,rfl⟩ (SndL.cons (S.name (i:=0) (k:=.local)) stName SndL.nil) O.len (by omega)) stCall SndL.nil)) (G.name (At.mk' (i:=8) (k:=.local) nd_law_due rfl (by kernel_rfl) (.inl rfl))) (bone (R.ite (T.plain (S.fun cx.ok (fn_law_begun cx) (by kernel_rfl) (by kernel_rfl) (SndL.cons (S.idx (S.name (i:=0) (k:=.local)) (S.name (i:=8) (k:=.local)) (fun Z Z=>rfl)) stSubscript (SndL.cons (S.name (i:=7) (k:=.local)) stName SndL.nil)) (by omega)) (fun Z=>rfl)) (bone (R.exp (S.append (S.name (i:=5) (k:=.local)) (S.tuple (SndL.cons (S.name (i:=7) (k:=.local)) stName (SndL.cons (S.name (i:=8) (k:=.local)) stName (SndL.cons (S.fun cx.ok (fn_law_takes cx 20) (by kernel_rfl) (by kernel_rfl) (SndL.cons (S.idx (S.name (i:=0) (k:=.local)) (S.name (i:=8) (k:=.local)) (fun Z Z=>rfl)) stSubscript (SndL.cons (S.name (i:=7) (k:=.local)) stName SndL.nil)) (by omega)) stCall SndL.nil))) (by decide)) rfl rfl rfl (bk1 stTuple)) rfl rfl)) bnil)) (by omega) (fun Z=>rfl))) (by omega) (fun Z=>rfl)) (bone (R.ret (S.name (i:=5) (k:=.local)))))))))
noncomputable def g_law_due (K:Nat):FF:=fun xs H=>if xs.length=ps_law_due.length then runF ls_law_due.length (f_law_due K) xs H else none
theorem fn_law_due (cx:Ctx B) (K:Nat):FnS B 24 "_law_due" (g_law_due K):=fnS (x := "_law_due") (params:=argsAt 34) (body:=bodyAt 34) (scope:=scopeAt 34) (ps:=ps_law_due) (ls:=ls_law_due) (f:=f_law_due K) cx.ok (rec_law_due cx) fit_law_due (b_law_due cx K)
theorem rec_law_listing (cx:Ctx B):Rec B "_law_listing" (argsAt 30) (bodyAt 30) (scopeAt 30):=recAt cx (by kernel_rfl) (by kernel_rfl)
noncomputable abbrev ps_law_listing:List Str:=["rows", "steps", "limit"]
noncomputable abbrev ls_law_listing:List Str:=["heap", "listed", "weight", "name", "number", "places", "longer", "sign", "more", "onward", "gone", "one"]
theorem nd_law_listing:(ps_law_listing++ls_law_listing).Nodup:=by decide +kernel
noncomputable abbrev env_law_listing (pm code doc:Value) (L a:Addr):Env:=callEnvC (docDef "_law_listing" (argsAt 30) (bodyAt 30) (scopeAt 30) pm code doc) L a
theorem fit_law_listing:Fit (argsAt 30) (scopeAt 30) ps_law_listing ls_law_listing where
  co:=by kernel_rfl
  ge:=by kernel_rfl
  ki:=by kernel_rfl
  nd:=nd_law_listing
  pk:=by decide +kernel
  nf:=by decide +kernel
  bi:=fun Z Z Z Z Z=>vl3 fun Z Z Z=>by kernel_rfl
noncomputable def f_law_listing (K:Nat):FS:=(seqS (setS 3 (newC (noL (rngF [(bin subV (calF lenG [(getV 0)]) (cInt 1)),(negF (cInt 1)),(negF (cInt 1))])) 1 [0] (leafC (tupF [(cInt 0),(cStr []),(getV 0),(funF g_law_open [(bin idxV (getV 1) (getV 0)),(lstF [(cInt 0)])])])) (tgN 0) [])) (seqS (expS (funcF (g_heapify K) [(getV 3)])) (seqS (setS 4 (newF [])) (seqS (whileS (tB (bin neV (getV 3) (lstF []))) (seqS (setT (bin idxV (getV 3) (cInt 0)) [5,6,7,8]) (seqS (setS 9 (newF [])) (seqS (frS (itF (getV 1)) (tgT [10,11]) (seqS (setS 12 (funF g_law_onward [(bin idxV (getV 0) (getV 7)),(getV 8),(getV 10)])) (ifS (tAnd [(tB (bin leV (bin addV (getV 5) (getV 11)) (getV 2))),(tB (bin neV (getV 12) (lstF [])))]) (expS (apdF (getV 9) (tupF [(bin addV (getV 5) (getV 11)),(bin addV (getV 6) (getV 10)),(getV 7),(getV 12)]))) nopS))) (seqS (setS 13 (ifE (tB (bin eqV (getV 9) (lstF []))) (funcF (g_heappop K) [(getV 3)]) (funcF (g_heapreplace K) [(getV 3),(bin idxV (getV 9) (cInt 0))]))) (seqS (frS (itF (slc (getV 9) (cInt 1) cNone)) (tgN 14) (expS (funcF (g_heappush K) [(getV 3),(getV 14)]))) (expS (apdF (getV 4) (tupF [(bin idxV (getV 13) (cInt 1)),(bin idxV (getV 13) (cInt 2)),(bin inV (calF lenG [(bin idxV (getV 0) (bin idxV (getV 13) (cInt 2)))]) (bin idxV (getV 13) (cInt 3)))])))))))) K) (retS (getV 4))))))
theorem b_law_listing (cx:Ctx B) (K:Nat) (pm code doc:Value) (L a:Addr):SndB B 4 (env_law_listing pm code doc L a) (ps_law_listing++ls_law_listing) (bodyAt 30) (f_law_listing K):=
  (bcons (R.setN (At.mk' (i:=3) (k:=.local) nd_law_listing rfl (by kernel_rfl) (.inl rfl)) (CompOk.mk (cl:=[(("rows" : Str),((env_law_listing pm code doc L a).cells.lookup ("rows" : Str)).getD 0)]) (ts:=["number"]) (fs:=[("rows",0)]) (CFit.mk (by kernel_rfl) (by kernel_rfl) (by decide +kernel) (by decide +kernel) (by intro y hy;(rcases List.mem_cons.mp hy with rfl | hy;· kernel_rfl);cases hy) (by intro y j hy;(rcases List.mem_cons.mp hy with hy | hy;· obtain ⟨rfl,rfl⟩:=Prod.mk.inj hy;exact ⟨rfl,.inl (by kernel_rfl),by kernel_rfl⟩);cases hy) (by intro y j hy;(rcases List.mem_cons.mp hy with hy | hy;· obtain ⟨rfl,rfl⟩:=Prod.mk.inj hy;exact .inl (by kernel_rfl));cases hy) (by intro y c hy;have hy:=lookup_mem hy;(rcases List.mem_cons.mp hy with hy | hy;· obtain ⟨rfl,rfl⟩:=Prod.mk.inj hy;kernel_rfl);cases hy) (show (["rows"]:List Str).Nodup by decide +kernel)) ⟨_,_,_,_,fun Z Z Z=>rfl,fun Z=>(GL.name (AtL.mk' (i:=0) (by decide +kernel) rfl (by kernel_rfl))),fun Z=>SndTs.nil,fun Z Z=>(emit_leaf (S.tuple (SndL.cons S.int stConstant (SndL.cons (S.str (by kernel_rfl)) stConstant (SndL.cons (S.name (i:=0) (k:=.local)) stName (SndL.cons (S.fun cx.ok (fn_law_open cx) (by kernel_rfl) (by kernel_rfl) (SndL.cons (S.idx (S.name (i:=1) (k:=.cell)) (S.name (i:=0) (k:=.local)) (fun Z Z=>rfl)) stSubscript (SndL.cons (S.list (SndL.cons S.int stConstant SndL.nil) (by decide)) stList SndL.nil)) (by omega)) stCall SndL.nil)))) (by decide)))⟩ rfl) (J.of (I.range cx.ok ⟨by kernel_rfl,cx.bm.range,by decide +kernel,by decide +kernel,by kernel_rfl,rfl⟩ (SndL.cons (S.binop (S.call cx.ok ⟨by kernel_rfl,cx.bm.len,by decide +kernel,by decide +kernel,by kernel_rfl,rfl⟩ (SndL.cons (S.name (i:=0) (k:=.cell)) stName SndL.nil) O.len (by omega)) S.int O.sub (by omega)) stBinOp (SndL.cons (S.neg S.int) stUnaryOp (SndL.cons (S.neg S.int) stUnaryOp SndL.nil))))) noL_ok (by omega) (fun Z=>rfl) rfl) (bcons (R.exp (S.func cx.ok (fn_heapify cx K) (by kernel_rfl) (by kernel_rfl) (SndL.cons (S.name (i:=3) (k:=.local)) stName SndL.nil) (by omega)) rfl rfl) (bcons (R.set (At.mk' (i:=4) (k:=.local) nd_law_listing rfl (by kernel_rfl) (.inl rfl)) (S.new SndL.nil (by decide)) rfl) (bcons (R.while K (T.cmp (S.name (i:=3) (k:=.local)) (S.list SndL.nil (by decide)) O.ne (by omega) rfl) (bcons (R.setT (S.idx (S.name (i:=3) (k:=.local)) S.int (fun Z Z=>rfl)) (Ats.cons (At.mk' (i:=5) (k:=.local) nd_law_listing rfl (by kernel_rfl) (.inl rfl)) (Ats.cons (At.mk' (i:=6) (k:=.local) nd_law_listing rfl (by kernel_rfl) (.inl rfl)) (Ats.cons (At.mk' (i:=7) (k:=.local) nd_law_listing rfl (by kernel_rfl) (.inl rfl)) (Ats.cons (At.mk' (i:=8) (k:=.local) nd_law_listing rfl (by kernel_rfl) (.inl rfl)) Ats.nil)))) (by omega) rfl rfl) (bcons (R.set (At.mk' (i:=9) (k:=.local) nd_law_listing rfl (by kernel_rfl) (.inl rfl)) (S.new SndL.nil (by decide)) rfl) (bcons (R.for (I.list (S.name (i:=1) (k:=.local))) (G.tuple (Ats.cons (At.mk' (i:=10) (k:=.local) nd_law_listing rfl (by kernel_rfl) (.inl rfl)) (Ats.cons (At.mk' (i:=11) (k:=.local) nd_law_listing rfl (by kernel_rfl) (.inl rfl)) Ats.nil))) (bcons (R.set (At.mk' (i:=12) (k:=.local) nd_law_listing rfl (by kernel_rfl) (.inl rfl)) (S.fun cx.ok (fn_law_onward cx) (by kernel_rfl) (by kernel_rfl) (SndL.cons (S.idx (S.name (i:=0) (k:=.cell)) (S.name (i:=7) (k:=.local)) (fun Z Z=>rfl)) stSubscript (SndL.cons (S.name (i:=8) (k:=.local)) stName (SndL.cons (S.name (i:=10) (k:=.local)) stName SndL.nil))) (by omega)) rfl) (bone (R.ite (T.and (SndTs.cons (T.cmp (S.binop (S.name (i:=5) (k:=.local)) (S.name (i:=11) (k:=.local)) O.add (by omega)) (S.name (i:=2) (k:=.local)) O.le (by omega) rfl) (SndTs.cons (T.cmp (S.name (i:=12) (k:=.local)) (S.list SndL.nil (by decide)) O.ne (by omega) rfl) SndTs.nil))) (bone (R.exp (S.append (S.name (i:=9) (k:=.local)) (S.tuple (SndL.cons (S.binop (S.name (i:=5) (k:=.local)) (S.name (i:=11) (k:=.local)) O.add (by omega)) stBinOp (SndL.cons (S.binop (S.name (i:=6) (k:=.local)) (S.name (i:=10) (k:=.local)) O.add (by omega)) stBinOp (SndL.cons (S.name (i:=7) (k:=.local)) stName (SndL.cons (S.name (i:=12) (k:=.local)) stName SndL.nil)))) (by decide)) rfl rfl rfl (bk1 stTuple)) rfl rfl)) bnil))) (by omega) (fun Z=>rfl)) (bcons (R.set (At.mk' (i:=13) (k:=.local) nd_law_listing rfl (by kernel_rfl) (.inl rfl)) (S.ife (T.cmp (S.name (i:=9) (k:=.local)) (S.list SndL.nil (by decide)) O.eq (by omega) rfl) (S.func cx.ok (fn_heappop cx K) (by kernel_rfl) (by kernel_rfl) (SndL.cons (S.name (i:=3) (k:=.local)) stName SndL.nil) (by omega)) (S.func cx.ok (fn_heapreplace cx K) (by kernel_rfl) (by kernel_rfl) (SndL.cons (S.name (i:=3) (k:=.local)) stName (SndL.cons (S.idx (S.name (i:=9) (k:=.local)) S.int (fun Z Z=>rfl)) stSubscript SndL.nil)) (by omega))) rfl) (bcons (R.for (I.list (S.slice (S.name (i:=9) (k:=.local)) (SndP.some S.int) SndP.none)) (G.name (At.mk' (i:=14) (k:=.local) nd_law_listing rfl (by kernel_rfl) (.inl rfl))) (bone (R.exp (S.func cx.ok (fn_heappush cx K) (by kernel_rfl) (by kernel_rfl) (SndL.cons (S.name (i:=3) (k:=.local)) stName (SndL.cons (S.name (i:=14) (k:=.local)) stName SndL.nil)) (by omega)) rfl rfl)) (by omega) (fun Z=>rfl)) (bone (R.exp (S.append (S.name (i:=4) (k:=.local)) (S.tuple (SndL.cons (S.idx (S.name (i:=13) (k:=.local)) S.int (fun Z Z=>rfl)) stSubscript (SndL.cons (S.idx (S.name (i:=13) (k:=.local)) S.int (fun Z Z=>rfl)) stSubscript (SndL.cons (S.cmp (S.call cx.ok ⟨by kernel_rfl,cx.bm.len,by decide +kernel,by decide +kernel,by kernel_rfl,rfl⟩ (SndL.cons (S.idx (S.name (i:=0) (k:=.cell)) (S.idx (S.name (i:=13) (k:=.local)) S.int (fun Z Z=>rfl)) (fun Z Z=>rfl)) stSubscript SndL.nil) O.len (by omega)) (S.idx (S.name (i:=13) (k:=.local)) S.int (fun Z Z=>rfl)) O.inn (by omega) rfl) stCompare SndL.nil))) (by decide)) rfl rfl rfl (bk1 stTuple)) rfl rfl))))))) (by omega)) (bone (R.ret (S.name (i:=4) (k:=.local))))))))
noncomputable def g_law_listing (K:Nat):FF:=fun xs H=>if xs.length=ps_law_listing.length then runF ls_law_listing.length (f_law_listing K) xs H else none
theorem fn_law_listing (cx:Ctx B) (K:Nat):FnS B 5 "_law_listing" (g_law_listing K):=fnS (x := "_law_listing") (params:=argsAt 30) (body:=bodyAt 30) (scope:=scopeAt 30) (ps:=ps_law_listing) (ls:=ls_law_listing) (f:=f_law_listing K) cx.ok (rec_law_listing cx) fit_law_listing (b_law_listing cx K)
end
section
set_option maxHeartbeats 200000
variable {B:Base}
theorem rec_law (cx:Ctx B):Rec B "law" (argsAt 35) (bodyAt 35) (scopeAt 35):=recAt cx (by kernel_rfl) (by kernel_rfl)
noncomputable abbrev ps_law:List Str:=["script"]
noncomputable abbrev ls_law:List Str:=["numbers", "items", "patterns", "texts", "first", "second", "limit", "signs", "steps", "due"]
theorem nd_law:(ps_law++ls_law).Nodup:=by decide +kernel
noncomputable abbrev env_law (pm code doc:Value) (L a:Addr):Env:=callEnvC (docDef "law" (argsAt 35) (bodyAt 35) (scopeAt 35) pm code doc) L a
theorem fit_law:Fit (argsAt 35) (scopeAt 35) ps_law ls_law where
  co:=by kernel_rfl
  ge:=by kernel_rfl
  ki:=by kernel_rfl
  nd:=nd_law
  pk:=by decide +kernel
  nf:=by decide +kernel
  bi:=fun Z Z Z Z Z=>vl1 fun Z=>by kernel_rfl
noncomputable def law_s0:Stmt:=((bodyAt 35)[0]?).getD (.Pass ⟨0,0,0,0⟩)
noncomputable def law_f0:FS:=(setS 1 (funF g_law_numbers [(getV 0)]))
theorem law_st0 (cx:CtxT B) (K:Nat) (pm code doc:Value) (L a:Addr):SndS B 24 (env_law pm code doc L a) (ps_law++ls_law) law_s0 law_f0:=
  (R.set (At.mk' (i:=1) (k:=.local) nd_law rfl (by kernel_rfl) (.inl rfl)) (S.fun cx.ok (fn_law_numbers cx.toCtx) (by kernel_rfl) (by kernel_rfl) (SndL.cons (S.name (i:=0) (k:=.local)) stName SndL.nil) (by omega)) rfl)
noncomputable def law_s1:Stmt:=((bodyAt 35)[1]?).getD (.Pass ⟨0,0,0,0⟩)
noncomputable def law_f1:FS:=(setS 2 (lstF [(funF g_law_items [(slc (getV 1) (cInt 1) (cInt 3))]),(funF g_law_items [(slc (getV 1) (cInt 3) (cInt 5))])]))
theorem law_st1 (cx:CtxT B) (K:Nat) (pm code doc:Value) (L a:Addr):SndS B 24 (env_law pm code doc L a) (ps_law++ls_law) law_s1 law_f1:=
  (R.set (At.mk' (i:=2) (k:=.local) nd_law rfl (by kernel_rfl) (.inl rfl)) (S.list (SndL.cons (S.fun cx.ok (fn_law_items cx.toCtx) (by kernel_rfl) (by kernel_rfl) (SndL.cons (S.slice (S.name (i:=1) (k:=.local)) (SndP.some S.int) (SndP.some S.int)) stSubscript SndL.nil) (by omega)) stCall (SndL.cons (S.fun cx.ok (fn_law_items cx.toCtx) (by kernel_rfl) (by kernel_rfl) (SndL.cons (S.slice (S.name (i:=1) (k:=.local)) (SndP.some S.int) (SndP.some S.int)) stSubscript SndL.nil) (by omega)) stCall SndL.nil)) (by decide)) rfl)
noncomputable def law_s2:Stmt:=((bodyAt 35)[2]?).getD (.Pass ⟨0,0,0,0⟩)
noncomputable def law_f2:FS:=(setS 3 (compF (noL (itF (getV 2))) 1 [] (leafC (smF joinG (cStr []) [(compF (noL (itF (getV 0))) 2 [] (leafC (getV 0)) (tgT [0,1]) [])])) (tgN 0) []))
theorem law_st2 (cx:CtxT B) (K:Nat) (pm code doc:Value) (L a:Addr):SndS B 24 (env_law pm code doc L a) (ps_law++ls_law) law_s2 law_f2:=
  (R.setC (At.mk' (i:=3) (k:=.local) nd_law rfl (by kernel_rfl) (.inl rfl)) (CompOk.mk (cl:=[]) (ts:=["row"]) (fs:=[]) (CFit.mk (by kernel_rfl) (by kernel_rfl) (by decide +kernel) (by decide +kernel) (by intro y hy;(rcases List.mem_cons.mp hy with rfl | hy;· kernel_rfl);cases hy) (by intro y j hy;cases hy) (by intro y j hy;cases hy) (by intro y c hy;have hy:=lookup_mem hy;cases hy) (show ([]:List Str).Nodup by decide +kernel)) ⟨_,_,_,_,fun Z Z Z=>rfl,fun Z=>(GL.name (AtL.mk' (i:=0) (by decide +kernel) rfl (by kernel_rfl))),fun Z=>SndTs.nil,fun Z Z=>(emit_leaf (S.smeth (S.str (by kernel_rfl)) (SndL.cons (S.comp (CompOk.mk (cl:=[]) (ts:=["piece", "told"]) (fs:=[]) (CFit.mk (by kernel_rfl) (by kernel_rfl) (by decide +kernel) (by decide +kernel) (by intro y hy;(rcases List.mem_cons.mp hy with rfl | hy;· kernel_rfl);(rcases List.mem_cons.mp hy with rfl | hy;· kernel_rfl);cases hy) (by intro y j hy;cases hy) (by intro y j hy;cases hy) (by intro y c hy;have hy:=lookup_mem hy;cases hy) (show ([]:List Str).Nodup by decide +kernel)) ⟨_,_,_,_,fun Z Z Z=>rfl,fun Z=>(GL.tuple (AtLs.cons (AtL.mk' (i:=0) (by decide +kernel) rfl (by kernel_rfl)) (AtLs.cons (AtL.mk' (i:=1) (by decide +kernel) rfl (by kernel_rfl)) AtLs.nil))),fun Z=>SndTs.nil,fun Z Z=>(emit_leaf (S.name (i:=0) (k:=.local)))⟩ rfl) (J.of (I.list (S.name (i:=0) (k:=.local)))) noL_ok (by omega) (fun Z=>rfl)) stListComp SndL.nil) O.join (by omega) ⟨rfl,rfl,rfl⟩ PySem.F.plainAttrs_str PySem.F.slot_str_join PySem.F.type_str_join))⟩ rfl) (J.of (I.list (S.name (i:=2) (k:=.local)))) noL_ok (by omega) (fun Z=>rfl) rfl)
noncomputable def law_s3:Stmt:=((bodyAt 35)[3]?).getD (.Pass ⟨0,0,0,0⟩)
noncomputable def law_f3 (K:Nat):FS:=(setS 4 (compF (noL (itF (getV 3))) 1 [] (leafC (funF (g_law_text K) [(getV 0)])) (tgN 0) []))
theorem law_st3 (cx:CtxT B) (K:Nat) (pm code doc:Value) (L a:Addr):SndS B 24 (env_law pm code doc L a) (ps_law++ls_law) law_s3 (law_f3 K):=
  (R.setC (At.mk' (i:=4) (k:=.local) nd_law rfl (by kernel_rfl) (.inl rfl)) (CompOk.mk (cl:=[]) (ts:=["pattern"]) (fs:=[]) (CFit.mk (by kernel_rfl) (by kernel_rfl) (by decide +kernel) (by decide +kernel) (by intro y hy;(rcases List.mem_cons.mp hy with rfl | hy;· kernel_rfl);cases hy) (by intro y j hy;cases hy) (by intro y j hy;cases hy) (by intro y c hy;have hy:=lookup_mem hy;cases hy) (show ([]:List Str).Nodup by decide +kernel)) ⟨_,_,_,_,fun Z Z Z=>rfl,fun Z=>(GL.name (AtL.mk' (i:=0) (by decide +kernel) rfl (by kernel_rfl))),fun Z=>SndTs.nil,fun Z Z=>(emit_leaf (S.fun cx.ok (fn_law_text cx K) (by kernel_rfl) (by kernel_rfl) (SndL.cons (S.name (i:=0) (k:=.local)) stName SndL.nil) (by omega)))⟩ rfl) (J.of (I.list (S.name (i:=3) (k:=.local)))) noL_ok (by omega) (fun Z=>rfl) rfl)
noncomputable def law_s4:Stmt:=((bodyAt 35)[4]?).getD (.Pass ⟨0,0,0,0⟩)
noncomputable def law_f4 (K:Nat):FS:=(ifS (tB (bin neV (compF (noL (itF (getV 3))) 1 [] (leafC (funF (g_translate K) [(getV 0)])) (tgN 0) []) (getV 4))) (retS (cBool false)) nopS)
theorem law_st4 (cx:CtxT B) (K:Nat) (pm code doc:Value) (L a:Addr):SndS B 24 (env_law pm code doc L a) (ps_law++ls_law) law_s4 (law_f4 K):=
  (R.ite (T.cmp (S.comp (CompOk.mk (cl:=[]) (ts:=["pattern"]) (fs:=[]) (CFit.mk (by kernel_rfl) (by kernel_rfl) (by decide +kernel) (by decide +kernel) (by intro y hy;(rcases List.mem_cons.mp hy with rfl | hy;· kernel_rfl);cases hy) (by intro y j hy;cases hy) (by intro y j hy;cases hy) (by intro y c hy;have hy:=lookup_mem hy;cases hy) (show ([]:List Str).Nodup by decide +kernel)) ⟨_,_,_,_,fun Z Z Z=>rfl,fun Z=>(GL.name (AtL.mk' (i:=0) (by decide +kernel) rfl (by kernel_rfl))),fun Z=>SndTs.nil,fun Z Z=>(emit_leaf (S.fun cx.ok (fn_translate cx K) (by kernel_rfl) (by kernel_rfl) (SndL.cons (S.name (i:=0) (k:=.local)) stName SndL.nil) (by omega)))⟩ rfl) (J.of (I.list (S.name (i:=3) (k:=.local)))) noL_ok (by omega) (fun Z=>rfl)) (S.name (i:=4) (k:=.local)) O.ne (by omega) rfl) (bone (R.ret S.bool)) bnil)
noncomputable def law_s5:Stmt:=((bodyAt 35)[5]?).getD (.Pass ⟨0,0,0,0⟩)
noncomputable def law_f5 (K:Nat):FS:=(ifS (tB (bin neV (compF (noL (itF (getV 3))) 1 [] (leafC (funF (g_law_joined K) [(getV 0)])) (tgN 0) []) (getV 4))) (retS (cBool false)) nopS)
theorem law_st5 (cx:CtxT B) (K:Nat) (pm code doc:Value) (L a:Addr):SndS B 24 (env_law pm code doc L a) (ps_law++ls_law) law_s5 (law_f5 K):=
  (R.ite (T.cmp (S.comp (CompOk.mk (cl:=[]) (ts:=["pattern"]) (fs:=[]) (CFit.mk (by kernel_rfl) (by kernel_rfl) (by decide +kernel) (by decide +kernel) (by intro y hy;(rcases List.mem_cons.mp hy with rfl | hy;· kernel_rfl);cases hy) (by intro y j hy;cases hy) (by intro y j hy;cases hy) (by intro y c hy;have hy:=lookup_mem hy;cases hy) (show ([]:List Str).Nodup by decide +kernel)) ⟨_,_,_,_,fun Z Z Z=>rfl,fun Z=>(GL.name (AtL.mk' (i:=0) (by decide +kernel) rfl (by kernel_rfl))),fun Z=>SndTs.nil,fun Z Z=>(emit_leaf (S.fun cx.ok (fn_law_joined cx K) (by kernel_rfl) (by kernel_rfl) (SndL.cons (S.name (i:=0) (k:=.local)) stName SndL.nil) (by omega)))⟩ rfl) (J.of (I.list (S.name (i:=3) (k:=.local)))) noL_ok (by omega) (fun Z=>rfl)) (S.name (i:=4) (k:=.local)) O.ne (by omega) rfl) (bone (R.ret S.bool)) bnil)
noncomputable def law_s6:Stmt:=((bodyAt 35)[6]?).getD (.Pass ⟨0,0,0,0⟩)
noncomputable def law_f6:FS:=(setT (bin idxV (lstF (([.tup [.int 1,.int 2,.int 4],.tup [.int 2,.int 1,.int 4],.tup [.int 2,.int 3,.int 7],.tup [.int 1,.int 3,.int 5],.tup [.int 1,.int 1,.int 3]]:List V).map kF)) (bin modV (bin idxV (getV 1) (cInt 0)) (cInt 5))) [5,6,7])
theorem law_st6 (cx:CtxT B) (K:Nat) (pm code doc:Value) (L a:Addr):SndS B 24 (env_law pm code doc L a) (ps_law++ls_law) law_s6 law_f6:=
  (R.setT (S.idx (S.list (cvs_ok _ (vs:=[.tup [.int 1,.int 2,.int 4],.tup [.int 2,.int 1,.int 4],.tup [.int 2,.int 3,.int 7],.tup [.int 1,.int 3,.int 5],.tup [.int 1,.int 1,.int 3]]) (by kernel_rfl)) (by decide)) (S.binop (S.idx (S.name (i:=1) (k:=.local)) S.int (fun Z Z=>rfl)) S.int O.mod (by omega)) (fun Z Z=>rfl)) (Ats.cons (At.mk' (i:=5) (k:=.local) nd_law rfl (by kernel_rfl) (.inl rfl)) (Ats.cons (At.mk' (i:=6) (k:=.local) nd_law rfl (by kernel_rfl) (.inl rfl)) (Ats.cons (At.mk' (i:=7) (k:=.local) nd_law rfl (by kernel_rfl) (.inl rfl)) Ats.nil))) (by omega) rfl rfl)
noncomputable def law_s7:Stmt:=((bodyAt 35)[7]?).getD (.Pass ⟨0,0,0,0⟩)
noncomputable def law_f7:FS:=(setS 8 (bin idxV (lstF [(cStr [97,38]),(cStr [97,45]),(cStr [97,33]),(cStr [38,45]),(cStr [38,33]),(cStr [45,33])]) (bin modV (bin divV (bin idxV (getV 1) (cInt 0)) (cInt 5)) (cInt 6))))
theorem law_st7 (cx:CtxT B) (K:Nat) (pm code doc:Value) (L a:Addr):SndS B 24 (env_law pm code doc L a) (ps_law++ls_law) law_s7 law_f7:=
  (R.set (At.mk' (i:=8) (k:=.local) nd_law rfl (by kernel_rfl) (.inl rfl)) (S.idx (S.list (SndL.cons (S.str (by kernel_rfl)) stConstant (SndL.cons (S.str (by kernel_rfl)) stConstant (SndL.cons (S.str (by kernel_rfl)) stConstant (SndL.cons (S.str (by kernel_rfl)) stConstant (SndL.cons (S.str (by kernel_rfl)) stConstant (SndL.cons (S.str (by kernel_rfl)) stConstant SndL.nil)))))) (by decide)) (S.binop (S.binop (S.idx (S.name (i:=1) (k:=.local)) S.int (fun Z Z=>rfl)) S.int O.div (by omega)) S.int O.mod (by omega)) (fun Z Z=>rfl)) rfl)
noncomputable def law_s8:Stmt:=((bodyAt 35)[8]?).getD (.Pass ⟨0,0,0,0⟩)
noncomputable def law_f8:FS:=(setS 9 (lstF [(tupF [(bin idxV (getV 8) (cInt 0)),(getV 5)]),(tupF [(bin idxV (getV 8) (cInt 1)),(getV 6)])]))
theorem law_st8 (cx:CtxT B) (K:Nat) (pm code doc:Value) (L a:Addr):SndS B 24 (env_law pm code doc L a) (ps_law++ls_law) law_s8 law_f8:=
  (R.set (At.mk' (i:=9) (k:=.local) nd_law rfl (by kernel_rfl) (.inl rfl)) (S.list (SndL.cons (S.tuple (SndL.cons (S.idx (S.name (i:=8) (k:=.local)) S.int (fun Z Z=>rfl)) stSubscript (SndL.cons (S.name (i:=5) (k:=.local)) stName SndL.nil)) (by decide)) stTuple (SndL.cons (S.tuple (SndL.cons (S.idx (S.name (i:=8) (k:=.local)) S.int (fun Z Z=>rfl)) stSubscript (SndL.cons (S.name (i:=6) (k:=.local)) stName SndL.nil)) (by decide)) stTuple SndL.nil)) (by decide)) rfl)
noncomputable def law_s9:Stmt:=((bodyAt 35)[9]?).getD (.Pass ⟨0,0,0,0⟩)
noncomputable def law_f9 (K:Nat):FS:=(setS 10 (funF (g_law_due K) [(compF (noL (itF (getV 2))) 1 [] (leafC (compF (noL (itF (getV 0))) 2 [] (leafC (getV 1)) (tgT [0,1]) [])) (tgN 0) []),(getV 9),(getV 7)]))
theorem law_st9 (cx:CtxT B) (K:Nat) (pm code doc:Value) (L a:Addr):SndS B 24 (env_law pm code doc L a) (ps_law++ls_law) law_s9 (law_f9 K):=
  (R.set (At.mk' (i:=10) (k:=.local) nd_law rfl (by kernel_rfl) (.inl rfl)) (S.fun cx.ok (fn_law_due cx.toCtx K) (by kernel_rfl) (by kernel_rfl) (SndL.cons (S.comp (CompOk.mk (cl:=[]) (ts:=["row"]) (fs:=[]) (CFit.mk (by kernel_rfl) (by kernel_rfl) (by decide +kernel) (by decide +kernel) (by intro y hy;(rcases List.mem_cons.mp hy with rfl | hy;· kernel_rfl);cases hy) (by intro y j hy;cases hy) (by intro y j hy;cases hy) (by intro y c hy;have hy:=lookup_mem hy;cases hy) (show ([]:List Str).Nodup by decide +kernel)) ⟨_,_,_,_,fun Z Z Z=>rfl,fun Z=>(GL.name (AtL.mk' (i:=0) (by decide +kernel) rfl (by kernel_rfl))),fun Z=>SndTs.nil,fun Z Z=>(emit_leaf (S.comp (CompOk.mk (cl:=[]) (ts:=["piece", "told"]) (fs:=[]) (CFit.mk (by kernel_rfl) (by kernel_rfl) (by decide +kernel) (by decide +kernel) (by intro y hy;(rcases List.mem_cons.mp hy with rfl | hy;· kernel_rfl);(rcases List.mem_cons.mp hy with rfl | hy;· kernel_rfl);cases hy) (by intro y j hy;cases hy) (by intro y j hy;cases hy) (by intro y c hy;have hy:=lookup_mem hy;cases hy) (show ([]:List Str).Nodup by decide +kernel)) ⟨_,_,_,_,fun Z Z Z=>rfl,fun Z=>(GL.tuple (AtLs.cons (AtL.mk' (i:=0) (by decide +kernel) rfl (by kernel_rfl)) (AtLs.cons (AtL.mk' (i:=1) (by decide +kernel) rfl (by kernel_rfl)) AtLs.nil))),fun Z=>SndTs.nil,fun Z Z=>(emit_leaf (S.name (i:=1) (k:=.local)))⟩ rfl) (J.of (I.list (S.name (i:=0) (k:=.local)))) noL_ok (by omega) (fun Z=>rfl)))⟩ rfl) (J.of (I.list (S.name (i:=2) (k:=.local)))) noL_ok (by omega) (fun Z=>rfl)) stListComp (SndL.cons (S.name (i:=9) (k:=.local)) stName (SndL.cons (S.name (i:=7) (k:=.local)) stName SndL.nil))) (by omega)) rfl)
noncomputable def law_s10:Stmt:=((bodyAt 35)[10]?).getD (.Pass ⟨0,0,0,0⟩)
noncomputable def law_f10 (K:Nat):FS:=(retS (bin eqV (funF (g_law_listing K) [(compF (noL (itF (getV 3))) 1 [] (leafC (funF (g_law_parts K) [(getV 0)])) (tgN 0) []),(getV 9),(getV 7)]) (getV 10)))
theorem law_st10 (cx:CtxT B) (K:Nat) (pm code doc:Value) (L a:Addr):SndS B 24 (env_law pm code doc L a) (ps_law++ls_law) law_s10 (law_f10 K):=
  (R.ret (S.cmp (S.fun cx.ok (fn_law_listing cx.toCtx K) (by kernel_rfl) (by kernel_rfl) (SndL.cons (S.comp (CompOk.mk (cl:=[]) (ts:=["pattern"]) (fs:=[]) (CFit.mk (by kernel_rfl) (by kernel_rfl) (by decide +kernel) (by decide +kernel) (by intro y hy;(rcases List.mem_cons.mp hy with rfl | hy;· kernel_rfl);cases hy) (by intro y j hy;cases hy) (by intro y j hy;cases hy) (by intro y c hy;have hy:=lookup_mem hy;cases hy) (show ([]:List Str).Nodup by decide +kernel)) ⟨_,_,_,_,fun Z Z Z=>rfl,fun Z=>(GL.name (AtL.mk' (i:=0) (by decide +kernel) rfl (by kernel_rfl))),fun Z=>SndTs.nil,fun Z Z=>(emit_leaf (S.fun cx.ok (fn_law_parts cx K) (by kernel_rfl) (by kernel_rfl) (SndL.cons (S.name (i:=0) (k:=.local)) stName SndL.nil) (by omega)))⟩ rfl) (J.of (I.list (S.name (i:=3) (k:=.local)))) noL_ok (by omega) (fun Z=>rfl)) stListComp (SndL.cons (S.name (i:=9) (k:=.local)) stName (SndL.cons (S.name (i:=7) (k:=.local)) stName SndL.nil))) (by omega)) (S.name (i:=10) (k:=.local)) O.eq (by omega) rfl))
noncomputable def law_l10:List Stmt:=[law_s10]
noncomputable def law_t10 (K:Nat):FS:=(law_f10 K)
theorem law_b10 (cx:CtxT B) (K:Nat) (pm code doc:Value) (L a:Addr):SndB B 24 (env_law pm code doc L a) (ps_law++ls_law) law_l10 (law_t10 K):=@bone B 24 (env_law pm code doc L a) (ps_law++ls_law) law_s10 (law_f10 K) (@law_st10 B cx K pm code doc L a)
noncomputable def law_l9:List Stmt:=law_s9::law_l10
noncomputable def law_t9 (K:Nat):FS:=seqS (law_f9 K) (law_t10 K)
theorem law_b9 (cx:CtxT B) (K:Nat) (pm code doc:Value) (L a:Addr):SndB B 24 (env_law pm code doc L a) (ps_law++ls_law) law_l9 (law_t9 K):=@bcons B 24 (env_law pm code doc L a) (ps_law++ls_law) law_s9 law_l10 (law_f9 K) (law_t10 K) (@law_st9 B cx K pm code doc L a) (@law_b10 B cx K pm code doc L a)
noncomputable def law_l8:List Stmt:=law_s8::law_l9
noncomputable def law_t8 (K:Nat):FS:=seqS law_f8 (law_t9 K)
theorem law_b8 (cx:CtxT B) (K:Nat) (pm code doc:Value) (L a:Addr):SndB B 24 (env_law pm code doc L a) (ps_law++ls_law) law_l8 (law_t8 K):=@bcons B 24 (env_law pm code doc L a) (ps_law++ls_law) law_s8 law_l9 law_f8 (law_t9 K) (@law_st8 B cx K pm code doc L a) (@law_b9 B cx K pm code doc L a)
noncomputable def law_l7:List Stmt:=law_s7::law_l8
noncomputable def law_t7 (K:Nat):FS:=seqS law_f7 (law_t8 K)
theorem law_b7 (cx:CtxT B) (K:Nat) (pm code doc:Value) (L a:Addr):SndB B 24 (env_law pm code doc L a) (ps_law++ls_law) law_l7 (law_t7 K):=@bcons B 24 (env_law pm code doc L a) (ps_law++ls_law) law_s7 law_l8 law_f7 (law_t8 K) (@law_st7 B cx K pm code doc L a) (@law_b8 B cx K pm code doc L a)
noncomputable def law_l6:List Stmt:=law_s6::law_l7
noncomputable def law_t6 (K:Nat):FS:=seqS law_f6 (law_t7 K)
theorem law_b6 (cx:CtxT B) (K:Nat) (pm code doc:Value) (L a:Addr):SndB B 24 (env_law pm code doc L a) (ps_law++ls_law) law_l6 (law_t6 K):=@bcons B 24 (env_law pm code doc L a) (ps_law++ls_law) law_s6 law_l7 law_f6 (law_t7 K) (@law_st6 B cx K pm code doc L a) (@law_b7 B cx K pm code doc L a)
noncomputable def law_l5:List Stmt:=law_s5::law_l6
noncomputable def law_t5 (K:Nat):FS:=seqS (law_f5 K) (law_t6 K)
theorem law_b5 (cx:CtxT B) (K:Nat) (pm code doc:Value) (L a:Addr):SndB B 24 (env_law pm code doc L a) (ps_law++ls_law) law_l5 (law_t5 K):=@bcons B 24 (env_law pm code doc L a) (ps_law++ls_law) law_s5 law_l6 (law_f5 K) (law_t6 K) (@law_st5 B cx K pm code doc L a) (@law_b6 B cx K pm code doc L a)
noncomputable def law_l4:List Stmt:=law_s4::law_l5
noncomputable def law_t4 (K:Nat):FS:=seqS (law_f4 K) (law_t5 K)
theorem law_b4 (cx:CtxT B) (K:Nat) (pm code doc:Value) (L a:Addr):SndB B 24 (env_law pm code doc L a) (ps_law++ls_law) law_l4 (law_t4 K):=@bcons B 24 (env_law pm code doc L a) (ps_law++ls_law) law_s4 law_l5 (law_f4 K) (law_t5 K) (@law_st4 B cx K pm code doc L a) (@law_b5 B cx K pm code doc L a)
noncomputable def law_l3:List Stmt:=law_s3::law_l4
noncomputable def law_t3 (K:Nat):FS:=seqS (law_f3 K) (law_t4 K)
theorem law_b3 (cx:CtxT B) (K:Nat) (pm code doc:Value) (L a:Addr):SndB B 24 (env_law pm code doc L a) (ps_law++ls_law) law_l3 (law_t3 K):=@bcons B 24 (env_law pm code doc L a) (ps_law++ls_law) law_s3 law_l4 (law_f3 K) (law_t4 K) (@law_st3 B cx K pm code doc L a) (@law_b4 B cx K pm code doc L a)
noncomputable def law_l2:List Stmt:=law_s2::law_l3
noncomputable def law_t2 (K:Nat):FS:=seqS law_f2 (law_t3 K)
theorem law_b2 (cx:CtxT B) (K:Nat) (pm code doc:Value) (L a:Addr):SndB B 24 (env_law pm code doc L a) (ps_law++ls_law) law_l2 (law_t2 K):=@bcons B 24 (env_law pm code doc L a) (ps_law++ls_law) law_s2 law_l3 law_f2 (law_t3 K) (@law_st2 B cx K pm code doc L a) (@law_b3 B cx K pm code doc L a)
noncomputable def law_l1:List Stmt:=law_s1::law_l2
noncomputable def law_t1 (K:Nat):FS:=seqS law_f1 (law_t2 K)
theorem law_b1 (cx:CtxT B) (K:Nat) (pm code doc:Value) (L a:Addr):SndB B 24 (env_law pm code doc L a) (ps_law++ls_law) law_l1 (law_t1 K):=@bcons B 24 (env_law pm code doc L a) (ps_law++ls_law) law_s1 law_l2 law_f1 (law_t2 K) (@law_st1 B cx K pm code doc L a) (@law_b2 B cx K pm code doc L a)
noncomputable def law_l0:List Stmt:=law_s0::law_l1
noncomputable def law_t0 (K:Nat):FS:=seqS law_f0 (law_t1 K)
theorem law_b0 (cx:CtxT B) (K:Nat) (pm code doc:Value) (L a:Addr):SndB B 24 (env_law pm code doc L a) (ps_law++ls_law) law_l0 (law_t0 K):=@bcons B 24 (env_law pm code doc L a) (ps_law++ls_law) law_s0 law_l1 law_f0 (law_t1 K) (@law_st0 B cx K pm code doc L a) (@law_b1 B cx K pm code doc L a)
theorem law_body:bodyAt 35=law_l0:=by kernel_rfl
noncomputable def f_law (K:Nat):FS:=law_t0 K
theorem b_law (cx:CtxT B) (K:Nat) (pm code doc:Value) (L a:Addr):SndB B 24 (env_law pm code doc L a) (ps_law++ls_law) (bodyAt 35) (f_law K):=
  @SndB.cast B 24 (env_law pm code doc L a) (ps_law++ls_law) (bodyAt 35) law_l0 (law_t0 K) law_body (@law_b0 B cx K pm code doc L a)
noncomputable def g_law (K:Nat):FF:=fun xs H=>if xs.length=ps_law.length then runF ls_law.length (f_law K) xs H else none
theorem fn_law (cx:CtxT B) (K:Nat):FnS B 25 "law" (g_law K):=fnS (x := "law") (params:=argsAt 35) (body:=bodyAt 35) (scope:=scopeAt 35) (ps:=ps_law) (ls:=ls_law) (f:=f_law K) cx.ok (rec_law cx.toCtx) fit_law (b_law cx K)
end
section
set_option maxHeartbeats 4000000
noncomputable def posOf:Stmt→Pos
  | .FunctionDef _ _ _ _ _ _ _ _ _ p=>p
  |_=>⟨0,0,0,0⟩
noncomputable def recS (j:Nat):DefRec:=⟨nameOf (stAt j),argsAt j,bodyAt j,scopeAt j,posOf (stAt j)⟩
noncomputable def fnIx:List Nat:=[2,3,4,5,6,7,10,13,15,16,18,19,20,21,22,23,24,25,26,27,28,29,30,31,32,33,34,35]
theorem recs_vw:recsOf vw=fnIx.map recS:=by kernel_rfl
theorem body_len:prg.main.body.length=36:=by decide +kernel
theorem fnAll:∀ j < 36,isFun (stAt j)=true→j ∈ fnIx:=by decide +kernel
theorem rcAll (j:Nat) (h:isFun (stAt j)=true):recS j ∈ recsOf vw:=by
  rw [recs_vw]
  refine List.mem_map_of_mem (fnAll j (Nat.lt_of_not_le fun q=>?_) h)
  rw [stAt,List.getElem?_eq_none (by rw [body_len];exact q)] at h
  cases h
noncomputable abbrev looseN:List Str:=looseW vw lsL
section
variable {w:World} {s₁:Shared} {mean:ExcName→Option Value} {mg mb:Str→Option Value}
noncomputable abbrev topB (w:World) (s₁:Shared) (mg mb:Str→Option Value):Base:={ prog:=prg,w:=w,h1:=s₁.heap,P:=99,c:=103,os:=s₁.os,mg:=mg,mb:=mb }
theorem mg_ns {h:Heap} {x:Str} {v:Value} (hn:h.Ns mainGlobals mg) (e:h.nsMap mainGlobals x=some v):mg x=some v:=by
  obtain ⟨o,es,ep,ho,hd,_,hf⟩:=hn
  rw [← hf x,← e]
  unfold Heap.nsMap
  rw [ho];dsimp only;rw [hd]
theorem topRc (T:Top vw looseN mean mg mb s₁.heap) (j:Nat) (hj:isFun (stAt j)=true):Rec (topB w s₁ mg mb) (nameOf (stAt j)) (argsAt j) (bodyAt j) (scopeAt j):=by
  obtain ⟨a,o,pm,code,doc,h1,h2,h3,h4⟩:=T.fn _ (rcAll j hj)
  exact ⟨a,o,pm,code,doc,h1,h2,h3,h4⟩
theorem isFun15:isFun (stAt 15)=true:=by decide +kernel
theorem name15:nameOf (stAt 15)=Str.ofString "_translate" := by decide +kernel
theorem code_of {o:Option Obj} {ob:Obj} {fd:FuncData} (e:o=some ob) (hd:ob.data=.func fd):codeOfO o=fd.code:=by
  subst e;unfold codeOfO;dsimp only;rw [hd]
theorem topTr (F:HF s₁.heap) (T:Top vw looseN mean mg mb s₁.heap):RecC (topB w s₁ mg mb) 103 "_translate" (argsAt 15) (bodyAt 15) (scopeAt 15):=by
  obtain ⟨a,o,pm,code,doc,h1,h2,h3,h4⟩:=topRc (w:=w) (mb:=mb) T 15 isFun15
  have ha:a=104:=by
    have e:=mg_ns T.g F.ntr
    rw [← name15] at e
    injection e.symm.trans h1 with h;injection h with h;exact h.symm
  subst ha
  have hc:code=.ref 103:=(code_of h2 h3).symm.trans F.c104
  subst hc
  rw [name15] at h1 h3 h4
  exact ⟨104,o,pm,doc,h1,h2,h3,h4⟩
theorem topCode (F:HF s₁.heap) (T:Top vw looseN mean mg mb s₁.heap):CodeHd s₁.heap 103 99:=by
  obtain ⟨a,o,fd,c,P,h1,h2,h3,h4,h5,h6⟩:=T.tab _ (rcAll 15 isFun15)
  have ha:a=104:=by
    have e:=mg_ns T.g F.ntr
    rw [← name15] at e
    injection e.symm.trans h1 with h;injection h with h;exact h.symm
  subst ha
  have hc:c=103:=by
    have e:=(code_of h2 h3).symm.trans F.c104
    rw [h4] at e;injection e
  subst hc
  have hP:P=99:=by
    obtain ⟨⟨oc,vc,q1,q2,q3,q4⟩,_⟩:=h6
    have e:=F.c103
    rw [q1] at e
    unfold code11 at e
    dsimp only at e
    rw [q3] at e
    dsimp only at e
    rw [q4] at e
    injection e with e;injection e
  subst hP
  exact CodeHd.of h5 h6
theorem topOk (F:HF s₁.heap) (T:Top vw looseN mean mg mb s₁.heap):(topB w s₁ mg mb).Ok:=
  ⟨T.g,T.b,T.nolimit,T.builtins,F.p99,topCode F T⟩
noncomputable def freeNm (x:Str):Bool:=!(startupNames.contains x) && !(looseN.contains x) && !(((recsOf vw).map (·.name)).contains x) && !(((litsOf vw).map (·.1)).contains x) && !(((clssOf vw looseN).map (·.name)).contains x)
theorem free_all:(["len", "range", "sorted", "reversed", "object", "isinstance", "str"].map Str.ofString).all freeNm=true:=by decide +kernel
theorem free_of (T:Top vw looseN mean mg mb s₁.heap) {x:Str} (h:freeNm x=true):mg x=none:=by
  unfold freeNm at h
  simp only [Bool.and_eq_true,Bool.not_eq_true',List.contains_eq_mem,decide_eq_false_iff_not] at h
  exact T.free x h.1.1.1.1 h.1.1.1.2 h.1.1.2 h.1.2 h.2
theorem topBM (T:Top vw looseN mean mg mb s₁.heap):BM (topB w s₁ mg mb):=
  have f:=List.all_eq_true.mp free_all
  ⟨free_of T (f _ (.head _)),free_of T (f _ (.tail _ (.head _))),free_of T (f _ (.tail _ (.tail _ (.head _)))),free_of T (f _ (.tail _ (.tail _ (.tail _ (.head _))))),free_of T (f _ (.tail _ (.tail _ (.tail _ (.tail _ (.head _)))))),free_of T (f _ (.tail _ (.tail _ (.tail _ (.tail _ (.tail _ (.head _)))))))⟩
theorem text_of {o:Option Value} {x:Str} (h:textOf o=some x):∃ u,o=some (.str x u):=by
  cases o with
  |none=>cases h
  |some v=>cases v with
    |str y u=>cases h;exact ⟨u,rfl⟩
    |_=>cases h
inductive M87 (o:Option Obj):Prop
  |mk (es:Array DictEntry) (ep:Nat) (e:o=some { cls:=.type "dict",data:=.dict es ep }) (k:es.toList.all keyOk=true) (f1:∃ u,findBy Value.isInt es 38=some (.str ⟨([92,38]:List Nat).toArray⟩ u)) (f2:∃ u,findBy Value.isInt es 45=some (.str ⟨([92,45]:List Nat).toArray⟩ u))
      (f3:findBy Value.isInt es 97=none) (f4:findBy Value.isInt es 33=none):M87 o
theorem m87 {o:Option Obj} (h:i87 o=v87):M87 o:=by
  cases o with
  |none=>cases h
  |some o=>
    obtain ⟨c,d,data,sl⟩:=o
    have h:=Option.some.inj h
    obtain ⟨a,h⟩:=Prod.mk.inj h
    obtain ⟨b,h⟩:=Prod.mk.inj h
    obtain ⟨e,h⟩:=Prod.mk.inj h
    dsimp only at a b e
    subst a b e
    cases data with
    |dict es ep=>
      have h:=Option.some.inj h
      obtain ⟨h1,h⟩:=Prod.mk.inj h
      obtain ⟨h2,h⟩:=Prod.mk.inj h
      obtain ⟨h3,h⟩:=Prod.mk.inj h
      obtain ⟨h4,h5⟩:=Prod.mk.inj h
      exact ⟨es,ep,rfl,h1,text_of h2,text_of h3,h4,h5⟩
    |_=>exact nomatch h
set_option tactic.hygienic true in
theorem topExt (F:HF s₁.heap) (T:Top vw looseN mean mg mb s₁.heap):Ext (topB w s₁ mg mb) where
  re:=⟨78,77,mg_ns T.g F.nre,⟨⟨_,_,F.p78⟩,⟨_,F.p77⟩⟩⟩
  gP:=by
    intro h
    obtain ⟨o,es,ep,e,hd,_⟩:=T.g
    have h:mainGlobals=99:=h
    rw [h,F.p99] at e;cases e;cases hd
  bi:=by
    obtain ⟨bm,ob,b1,b2,b3,b4,b5,b6⟩:=T.bmain
    refine ⟨bm,ob,b1,b2,?_,?_,b3,b4,b5,b6⟩
    · rintro rfl
      obtain ⟨o,es,ep,e,hd,_⟩:=T.g
      rw [e] at b3;cases b3;rw [hd] at b6;cases b6
    · intro h
      have h:bm=99:=h
      rw [h,F.p99] at b3;cases b3;cases b4
  str:=free_of T (List.all_eq_true.mp free_all _ (.tail _ (.tail _ (.tail _ (.tail _ (.tail _ (.tail _ (.head _))))))))
  sm:=by
    obtain ⟨es,ep,e,k,f1,f2,f3,f4⟩:=m87 F.p87
    refine ⟨87,fun k=>findBy Value.isInt es k,mg_ns T.g F.nsm,⟨_,es,ep,e,⟨rfl,rfl,rfl⟩,rfl,fun e he=>?_,fun k=>rfl⟩,by decide +kernel,f1,f2,f3,f4⟩
    have h:=List.all_eq_true.mp k e (by simpa using he)
    unfold keyOk at h
    split at h
    · rename_i k t hk
      exact ⟨k,by rw [hk];exact intKind_is _ _ _ _,show e.hash=hashInt k by simpa using h⟩
    · cases h
theorem topCtx (F:HF s₁.heap) (T:Top vw looseN mean mg mb s₁.heap):CtxT (topB w s₁ mg mb):=
  { ok:=topOk F T,bm:=topBM T,rc:=fun j hj=>topRc T j hj,ext:=topExt F T,tr:=topTr F T }
end
end
section
set_option maxHeartbeats 8000000
theorem ints_rel {h:Heap} {vs:List Value} {ns:List Int} (r:IntsAre vs ns):VRs none (fun Z=>False) [] h vs (ns.map .int):=by
  induction r with
  |nil=>exact .nil
  |cons _ _ _ ih=>exact .cons (.int _ _) ih
theorem lawRun (B:Base) (cx:CtxT B) (K:Nat) {A:Around} {s:Shared} {ns:List Int} {l fa:Addr} {vs:List Value} (hr:Room 25 A) (bs:Bs B s) (hl:s.heap.IsList l vs.toArray) (hi:IntsAre vs ns) (hfa:B.mg "law" = some (.ref fa))
    {H':Hp} (hg:g_law K [.frz (ns.map .int)] []=some (.bool true,H')) :
    wpAny (model B.prog B.w) A (call (.ref fa) [.ref l]) (fun v s'=>v=.bool true∧Bs B s'∧Kp B (· ∈ ([]:List Addr)) s.heap s'.heap) NoE s:=by
  obtain ⟨a,fn,hc⟩:=fn_law cx K
  have e:a=fa:=by
    have:=fn.mg
    have h2:B.mg (Str.ofString "law")=some (.ref fa):=hfa
    rw [h2] at this;injection this with h;injection h with h;exact h.symm
  subst e
  have cr:CR none (fun Z=>False) [] s.heap []:=⟨rfl,fun i a l e1 Z=>(nomatch e1),List.nodup_nil,fun a h=>h.elim,fun a h=>(nomatch h),fun a h=>(nomatch h)⟩
  refine noE (hc (σ:=none) (X:=fun Z=>False) (μ:=[]) (H:=[]) (vs:=[.ref l]) hr bs cr (fun a h=>(nomatch h)) (.cons (.frz hl (fun h=>h) (fun h=>(nomatch h)) (ints_rel hi)) .nil) hg) fun v s' ⟨h1,h2,h3,h4,_⟩=>⟨h3.inv,h1,h4⟩
theorem oldOf {B:Base} {h:Heap} (ok:B.Ok) (h1:B.h1=h) {s':Shared} (bs:Bs B s') (k:Kp B (· ∈ ([]:List Addr)) h s'.heap):OldK h s'.heap:=by
  subst h1
  refine ⟨fun b o e=>?_,k.dom⟩
  by_cases hb:b=B.P
  · subst hb
    obtain ⟨ps,hP,_⟩:=bs.tab
    obtain ⟨oc,vs,file,tf,flags,tg,inF,text,tt,e1,e2,e3,e4,_⟩:=ok.code
    have hP1:=ok.ptab
    rw [hP1] at e;cases e
    exact .inr (.inl ⟨⟨_,oc,vs,e1,e2,e3,e4⟩,rfl,#[],ps,rfl,by rw [hP];simp [tabObj]⟩)
  · exact .inl (k.keep b o e (fun h=>(nomatch h)) hb)
theorem wellS:OpenLaw.wellSaid PySem.Challenge.rw_in0233_01=true:=by
  rewrite [PySem.W.Fast.te9446332074065402090]
  kernel_rfl
set_option tactic.hygienic true in
theorem joined (PL:∀ ns:List Int,ns.length≤63→∃ K H',g_law K [.frz (ns.map .int)] []=some (.bool true,H')):PySem.Challenge.rw_in0233_01.Holds:=by
  w_on
  refine holds_law wellS fun said=>?_
  refine holds_open (q:=vw) (loose:=lsL) (Xt:=fun s=>xlAt vw [] s && recOk [] s) (XP:=XL vw []) (Yf:=obsF) (Ya:=fun Z=>obsV) (YP:=fun Z h=>HF h) (d:=recS 35) (kwd:=[]) (N:=3000) leftM (fun w s e=>HF.of e) (fun w h h' f k=>f.keeps k) (fun s e=>xl_of s (Bool.and_eq_true_iff.mp e).1) XL.keeps
    (by kernel_rfl) (by kernel_rfl) (by kernel_rfl) (fun s e=>recFacts_of (Bool.and_eq_true_iff.mp e).2) (by rfl) said (by decide +kernel) ⟨rfl,rfl,rfl,rfl,rfl,by decide +kernel⟩ ?hw ?hc
  case hw=>w_witness2
  intro w s₀ s₁ mg mb G F fa o pm cd doc dV kV ho hd hcd hD hmg hg args vals as hpre hlay hrd hwl hlo
  refine Ground.open G ?_
  intro T B D TE TW
  clear ho hd hcd hD
  wrow_args hpre hlay hrd hwl hlo
  rename_i ns _ _ _ _ _ _ _ l vs _ hl _ _ _ hi _ hcnd _
  have cx:CtxT (topB w s₁ mg mb):=topCtx F T
  obtain ⟨K,H',hgl⟩:=PL ns (by omega)
  have bs:Bs (topB w s₁ mg mb) s₁:=⟨fun b o e Z=>e,⟨#[],F.p99,trivial,fun pos c' h=>by simp [codeAmong] at h⟩,by rw [hg];exact AllBare.empty,rfl⟩
  have hfa:(topB w s₁ mg mb).mg "law" = some (.ref fa):=hmg
  have run:=lawRun (topB w s₁ mg mb) cx K (A:=callerA) (s:=s₁) ⟨rfl,by decide,by decide⟩ bs hl hi hfa hgl
  refine anyE (noE run fun v s' ⟨hv,b2,k2⟩=>?_)
  subst hv
  refine ⟨.inl ⟨_,_,[],rfl,fun Z=>rfl,ReadsW.bool true,?_,fun Z=>⟨List.nodup_nil,fun Z hm=>(nomatch hm)⟩⟩,oldOf cx.ok rfl b2 k2,b2.os,b2.gens⟩
  first | rfl | wrow_post
end
section
variable (H:Hp) (a b:Int) (x y:List Nat) (l k:List V)
theorem suc {a k:Nat} (h:a < k):∃ j,k=j+1:=by cases k with
  |zero=>exact absurd h (Nat.not_lt_zero _)
  |succ j=>exact ⟨j,rfl⟩
theorem suc2 {a k:Nat} (h:a+1 < k):∃ j,k=j+2:=by
  obtain ⟨j,rfl⟩:=suc h
  obtain ⟨i,rfl⟩:=suc (Nat.lt_of_succ_lt_succ h)
  exact ⟨i,rfl⟩
theorem funF_ok {g:FF} {fs:List FE} {ρ:Rho} {H H':Hp} {xs:List V} {r:V} (h0:seqF fs ρ H=some (xs,H)) (hn:noLsts xs=true) (hg:g xs []=some (r,H')):funF g fs ρ H=some (r,H):=by
  simp only [funF,h0,hn,if_true,hg]
theorem z_lt:ltV H (.int a) (.int b)=some (.bool (decide (a < b))):=rfl
theorem z_ltt:ltV H (.tup l) (.tup k)=(ltTup l k).map .bool:=rfl
theorem z_tui:ltTup (.int a::l) (.int b::k)=if a=b then ltTup l k else some (decide (a < b)):=rfl
theorem z_tus:ltTup (.str x::l) (.str y::k)=if x=y then ltTup l k else some (decide (x < y)):=rfl
theorem z_le:leV H (.int a) (.int b)=some (.bool (decide (a≤b))):=rfl
theorem z_gt:gtV H (.int a) (.int b)=some (.bool (decide (b < a))):=rfl
theorem z_ge:geV H (.int a) (.int b)=some (.bool (decide (b≤a))):=rfl
theorem z_add:addV H (.int a) (.int b)=some (.int (a+b)):=rfl
theorem z_adds:addV H (.str x) (.str y)=if x.length+y.length≤SZ then some (.str (x++y)) else none:=rfl
theorem z_addf:addV H (.frz l) (.frz k)=if l.length+k.length≤SZ then some (.frz (l++k)) else none:=rfl
theorem z_eqi:eqB H (.int a) (.int b)=some (a == b):=rfl
theorem z_eqs:eqB H (.str x) (.str y)=some (x == y):=rfl
theorem z_isn:isV H (.tup l) .none=some (.bool false):=rfl
theorem z_iss:isV H .star .star=some (.bool true):=rfl
theorem z_isc:isV H (.str x) .star=some (.bool false):=rfl
theorem z_isnn:isV H .none .none=some (.bool true):=rfl
theorem z_niss:isNotV H .star .star=some (.bool false):=rfl
theorem z_nisc:isNotV H (.str x) .star=some (.bool true):=rfl
theorem z_lens:lenG H [.str x]=if x.length≤SZ then some (.int x.length) else none:=rfl
theorem z_lenf:lenG H [.frz l]=if l.length≤SZ then some (.int l.length) else none:=rfl
theorem z_lenl (i:Nat):lenG H [.lst i]=obn H[i]? fun l=>if l.length≤SZ then some (.int l.length) else none:=by kernel_rfl
theorem z_idf:idxV H (.frz l) (.int a)=idxL l a:=rfl
theorem z_idt:idxV H (.tup l) (.int a)=idxL l a:=rfl
theorem z_ids:idxV H (.str x) (.int a)=(idxL x a).map fun c=>.str [c]:=rfl
theorem z_idl (i:Nat):idxV H (.lst i) (.int a)=obn H[i]? fun l=>idxL l a:=by kernel_rfl
theorem z_trb (b:Bool):trB H (.bool b)=some b:=rfl
theorem z_trs:trB H (.str x)=if x.length≤SZ then some (!x.isEmpty) else none:=rfl
theorem z_trf:trB H (.frz l)=if l.length≤SZ then some (!l.isEmpty) else none:=rfl
theorem z_trl (i:Nat):trB H (.lst i)=obn H[i]? fun l=>if l.length≤SZ then some (!l.isEmpty) else none:=by kernel_rfl
theorem z_jof (s:List Nat):joinG H [.str s,.frz l]=joinV s l:=rfl
theorem z_jol (s:List Nat) (i:Nat):joinG H [.str s,.lst i]=obn H[i]? fun l=>joinV s l:=by kernel_rfl
theorem z_find:findG H [.str x,.str y,.int a,.int b]=some (.int (find4 ⟨x.toArray⟩ ⟨y.toArray⟩ a b)):=rfl
theorem z_rng (c:Int):rngG [.int a,.int b,.int c]=if a.natAbs≤SZ∧b.natAbs≤SZ∧c = -1 then some (rngL a (-1) (a - b).toNat) else none:=rfl
theorem z_sls2:sliceV H (.str x) (.int a) (.int b)=if x.length≤SZ then some (.str (sliceL x (some a) (some b))) else none:=rfl
theorem z_sls1:sliceV H (.str x) (.int a) .none=if x.length≤SZ then some (.str (sliceL x (some a) none)) else none:=rfl
theorem z_sls0:sliceV H (.str x) .none (.int a)=if x.length≤SZ then some (.str (sliceL x none (some a))) else none:=rfl
theorem z_slf1:sliceV H (.frz l) (.int a) .none=if l.length≤SZ then some (.frz (sliceL l (some a) none)) else none:=rfl
theorem z_slf0:sliceV H (.frz l) .none (.int a)=if l.length≤SZ then some (.frz (sliceL l none (some a))) else none:=rfl
theorem z_sll1 (i:Nat):sliceV H (.lst i) (.int a) .none=obn H[i]? fun l=>if l.length≤SZ then some (.frz (sliceL l (some a) none)) else none:=by kernel_rfl
theorem z_sll0 (i:Nat):sliceV H (.lst i) .none (.int a)=obn H[i]? fun l=>if l.length≤SZ then some (.frz (sliceL l none (some a))) else none:=by kernel_rfl
theorem z_slln (i:Nat):sliceV H (.lst i) .none .none=obn H[i]? fun l=>if l.length≤SZ then some (.frz (sliceL l none none)) else none:=by kernel_rfl
theorem z_slfn:sliceV H (.frz l) .none .none=if l.length≤SZ then some (.frz (sliceL l none none)) else none:=rfl
theorem z_slf2:sliceV H (.frz l) (.int a) (.int b)=if l.length≤SZ then some (.frz (sliceL l (some a) (some b))) else none:=rfl
theorem z_sll2 (i:Nat):sliceV H (.lst i) (.int a) (.int b)=obn H[i]? fun l=>if l.length≤SZ then some (.frz (sliceL l (some a) (some b))) else none:=by kernel_rfl
theorem z_obn {α β:Type} (a:α) (k:α→Option β):obn (some a) k=k a:=rfl
end
noncomputable def tScanT:FT:=(tAnd [(tB (bin ltV (getV 8) (getV 6))),(tB (bin neV (bin idxV (getV 0) (getV 8)) (cStr [93])))])
noncomputable def tScanB:FS:=(setS 8 (bin addV (getV 8) (cInt 1)))
noncomputable def tFindB:FS:=(seqS (setS 11 (smF findG (getV 0) [(cStr [45]),(getV 11),(getV 8)])) (seqS (ifS (tB (bin ltV (getV 11) (cInt 0))) brkS nopS) (seqS (expS (apdF (getV 10) (slc (getV 0) (getV 5) (getV 11)))) (seqS (setS 5 (bin addV (getV 11) (cInt 1))) (setS 11 (bin addV (getV 11) (cInt 3)))))))
noncomputable def tAfter:FS:=(seqS (setS 12 (slc (getV 0) (getV 5) (getV 8))) (seqS (ifS (tB (getV 12)) (expS (apdF (getV 10) (getV 12))) (augSubS iaddV (getV 10) (negF (cInt 1)) (cStr [45]))) (seqS (frS (rngF [(bin subV (calF lenG [(getV 10)]) (cInt 1)),(cInt 0),(negF (cInt 1))]) (tgN 11) (ifS (tB (bin gtV (bin idxV (bin idxV (getV 10) (bin subV (getV 11) (cInt 1))) (negF (cInt 1))) (bin idxV (bin idxV (getV 10) (getV 11)) (cInt 0)))) (seqS (putS (bin addV (slc (bin idxV (getV 10) (bin subV (getV 11) (cInt 1))) cNone (negF (cInt 1))) (slc (bin idxV (getV 10) (getV 11)) (cInt 1) cNone)) (getV 10) (bin subV (getV 11) (cInt 1))) (delS (getV 10) (getV 11))) nopS)) (setS 9 (jgF 10)))))
noncomputable def tChunk (K:Nat):FS:=(seqS (setS 10 (newF [])) (seqS (setS 11 (ifE (tB (bin eqV (bin idxV (getV 0) (getV 5)) (cStr [33]))) (bin addV (getV 5) (cInt 2)) (bin addV (getV 5) (cInt 1)))) (seqS (whileS (tB (cBool true)) tFindB K) tAfter)))
noncomputable def tRest2:FS:=(seqS (setS 9 (subF 9)) (seqS (setS 5 (bin addV (getV 8) (cInt 1))) (ifS (tNot (tB (getV 9))) (expS (addF 4 (cStr [40,63,33,41]))) (ifS (tB (bin eqV (getV 9) (cStr [33]))) (expS (addF 4 (cStr [46]))) (seqS (ifS (tB (bin eqV (bin idxV (getV 9) (cInt 0)) (cStr [33]))) (setS 9 (bin addV (cStr [94]) (slc (getV 9) (cInt 1) cNone))) (ifS (tB (bin inV (bin idxV (getV 9) (cInt 0)) (tupF [(cStr [94]),(cStr [91])]))) (setS 9 (bin addV (cStr [92]) (getV 9))) nopS)) (expS (addF 4 (fsF [(cStr [91]),(fmtF (getV 9)),(cStr [93])] []))))))))
noncomputable def tDash (K:Nat):FS:=(ifS (tB (bin notInV (cStr [45]) (getV 9))) (setS 9 (smF repG (getV 9) [(cStr [92]),(cStr [92,92])])) (tChunk K))
noncomputable def tBr (K:Nat):FS:=(seqS (setS 8 (getV 5)) (seqS (ifS (tAnd [(tB (bin ltV (getV 8) (getV 6))),(tB (bin eqV (bin idxV (getV 0) (getV 8)) (cStr [33])))]) (setS 8 (bin addV (getV 8) (cInt 1))) nopS) (seqS (ifS (tAnd [(tB (bin ltV (getV 8) (getV 6))),(tB (bin eqV (bin idxV (getV 0) (getV 8)) (cStr [93])))]) (setS 8 (bin addV (getV 8) (cInt 1))) nopS) (seqS (whileS tScanT tScanB K) (ifS (tB (bin geV (getV 8) (getV 6))) (expS (addF 4 (cStr [92,91]))) (seqS (setS 9 (slc (getV 0) (getV 5) (getV 8))) (seqS (tDash K) tRest2)))))))
noncomputable def tBody (K:Nat):FS:=(seqS (setS 7 (bin idxV (getV 0) (getV 5))) (seqS (setS 5 (bin addV (getV 5) (cInt 1))) (ifS (tB (bin eqV (getV 7) (cStr [42]))) (ifS (tOr [(tNot (tB (getV 3))),(tB (bin isNotV (bin idxV (getV 3) (negF (cInt 1))) (getV 1)))]) (expS (addF 4 (getV 1))) nopS) (ifS (tB (bin eqV (getV 7) (cStr [63]))) (expS (addF 4 (getV 2))) (ifS (tB (bin eqV (getV 7) (cStr [91]))) (tBr K) (expS (addF 4 (funF g_escape [(getV 7)]))))))))
noncomputable def tTest:FT:=(tB (bin ltV (getV 5) (getV 6)))
theorem f_utranslate_eq (K:Nat):f_utranslate K=seqS (setS 3 (newF [])) (seqS (setS 4 (bndF (getV 3))) (seqS (setSw (tupF [(cInt 0),(calF lenG [(getV 0)])]) [5,6]) (seqS (whileS tTest (tBody K) K) (seqS (asrS (tB (bin eqV (getV 5) (getV 6)))) (retS (getV 3)))))):=rfl
theorem idxL_ge {α:Type} {l:List α} {i:Nat} (hz:l.length≤SZ):idxL l (i:Int)=l[i]?:=by
  unfold idxL
  rw [if_pos hz,if_neg (by omega)];rfl
theorem idxL_seg {pre q post:List Nat} {k:Nat} (hz:(pre++q++post).length≤SZ) (hk:k < q.length):idxL (pre++q++post) ((pre.length:Int)+(k:Int))=some q[k]:=by
  have:(pre.length:Int)+(k:Int)=((pre.length+k:Nat):Int):=by omega
  rw [this,idxL_ge hz,List.getElem?_append_left (by simp;omega),List.getElem?_append_right (by omega)]
  simp [hk]
theorem clipAt_ok {n a:Nat} (h:a≤n):clipAt n (a:Int)=a:=by rw [clipAt_nat];omega
theorem sliceL_seg {pre q post:List Nat} {a b:Nat} (h:a≤b) (hb:b≤q.length):sliceL (pre++q++post) (some ((pre.length:Int)+(a:Int))) (some ((pre.length:Int)+(b:Int)))=(q.drop a).take (b - a):=by
  have e1:(pre.length:Int)+(a:Int)=((pre.length+a:Nat):Int):=by omega
  have e2:(pre.length:Int)+(b:Int)=((pre.length+b:Nat):Int):=by omega
  unfold sliceL
  simp only [Option.elim]
  rw [e1,e2,clipAt_ok (by simp;omega),clipAt_ok (by simp;omega)]
  rw [List.append_assoc,List.drop_append,List.drop_eq_nil_of_le (by omega:pre.length≤pre.length+a),List.nil_append]
  have:pre.length+a - pre.length=a:=by omega
  rw [this,List.drop_append_of_le_length (by omega),List.take_append_of_le_length (by simp;omega)]
  congr 1;omega
open Builtin.Str in
theorem occ_miss {x y:Str} {lo hi:Nat} (h:hi≤lo) (hy:0 < y.length):occurrences x y lo hi 1=[]:=by
  rw [StrLaws.occ_eq]
  have:∀ (l:List Nat) (k:Nat),(∀ i ∈ l,lo≤i)→(forIn (m:=Id) l ((#[]:Array Nat),k) (StrLaws.occBody x y hi 1)).run.fst = #[]:=by
    intro l
    induction l with
    |nil=>intro k _;rfl
    |cons i r ih=>
      intro k hl
      have h0:=hl i (List.mem_cons_self ..)
      have hi:¬ ((((#[]:Array Nat).size < 1∧k≤i)∧i+y.length≤hi)∧subAt x y i=true):=fun c=>by have:=c.1.2;omega
      simp only [List.forIn_cons,StrLaws.occBody,if_neg hi]
      exact ih k fun j hj=>hl j (List.mem_cons_of_mem _ hj)
  rw [this _ _ fun i hi=>(List.mem_range'_1.mp hi).1]
open Builtin.Str in
theorem occ_hit {x y:Str} {lo hi:Nat} (h:lo+y.length≤hi) (hs:subAt x y lo=true):occurrences x y lo hi 1=[lo]:=by
  rw [StrLaws.occ_eq]
  have:∀ (l:List Nat) (k:Nat),(forIn (m:=Id) l ((#[lo]:Array Nat),k) (StrLaws.occBody x y hi 1)).run.fst = #[lo]:=by
    intro l
    induction l with
    |nil=>intro k;rfl
    |cons i r ih=>
      intro k
      have hi:¬ ((((#[lo]:Array Nat).size < 1∧k≤i)∧i+y.length≤hi)∧subAt x y i=true):=fun c=>by have:=c.1.1.1;simp at this
      simp only [List.forIn_cons,StrLaws.occBody,if_neg hi]
      exact ih k
  have e:hi+1 - lo=(hi - lo)+1:=by omega
  rw [e,List.range'_succ]
  have hp:(((#[]:Array Nat).size < 1∧lo≤lo)∧lo+y.length≤hi)∧subAt x y lo=true:=⟨⟨⟨by simp,Nat.le_refl _⟩,h⟩,hs⟩
  simp only [List.forIn_cons,StrLaws.occBody,if_pos hp]
  have:=this (List.range' (lo+1) (hi - lo)) (lo+y.length)
  simp only [Id.run] at this ⊢
  show (forIn (m:=Id) (List.range' (lo+1) (hi - lo)) (#[lo],lo+y.length) (StrLaws.occBody x y hi 1)).fst.toList=[lo]
  rw [this]
theorem fromIndex_nat (n i:Nat):fromIndex n (i:Int)=i:=by unfold fromIndex;rw [if_neg (Int.not_lt.mpr (Int.natCast_nonneg i)),Int.max_eq_right (Int.natCast_nonneg i)];rfl
theorem find4_miss {x:Str} {c:Nat} {i j:Nat} (h:j≤i):find4 x ⟨[c].toArray⟩ (i:Int) (j:Int) = -1:=by
  unfold find4
  rw [fromIndex_nat,fromIndex_nat,occ_miss (by omega) (by simp [Str.length])]
theorem find4_hit {l:List Nat} {c:Nat} {i j:Nat} (h:i < j) (hj:j≤l.length) (hc:l[i]?=some c):find4 ⟨l.toArray⟩ ⟨[c].toArray⟩ (i:Int) (j:Int)=(i:Int):=by
  unfold find4
  rw [fromIndex_nat,fromIndex_nat,occ_hit (by simp [Str.length];omega)]
  unfold Builtin.Str.subAt
  rw [beq_iff_eq]
  obtain ⟨hi,rfl⟩:=List.getElem?_eq_some_iff.mp hc
  apply Array.ext
  · simp [Str.length];omega
  · intro k h1 h2
    simp [Str.length] at h1 h2
    have:k=0:=by omega
    subst this
    simp
theorem seqS_nx {f g:FS} {ρ ρ1:Rho} {H H1:Hp} (h:f ρ H=some (.nx,ρ1,H1)):seqS f g ρ H=g ρ1 H1:=by unfold seqS;rw [h]
noncomputable abbrev ST (p:List Nat) (N:Int) (i:Int) (c7 c8 c9 c10 c11 c12:Option V):Rho:=[some (.str p),some .star,some (.str [46]),some (.lst 0),some (.app 0),some (.int i),some (.int N),c7,c8,c9,c10,c11,c12]
noncomputable def tSw (K:Nat):FS:=(ifS (tB (bin eqV (getV 7) (cStr [42]))) (ifS (tOr [(tNot (tB (getV 3))),(tB (bin isNotV (bin idxV (getV 3) (negF (cInt 1))) (getV 1)))]) (expS (addF 4 (getV 1))) nopS) (ifS (tB (bin eqV (getV 7) (cStr [63]))) (expS (addF 4 (getV 2))) (ifS (tB (bin eqV (getV 7) (cStr [91]))) (tBr K) (expS (addF 4 (funF g_escape [(getV 7)]))))))
section
variable {p:List Nat} {N i j:Int} {c7 c8 c9 c10 c11 c12:Option V} {H:Hp} {K:Nat}
theorem body_head {a:Nat} (h:idxL p i=some a):tBody K (ST p N i c7 c8 c9 c10 c11 c12) H=tSw K (ST p N (i+1) (some (.str [a])) c8 c9 c10 c11 c12) H:=by
  show seqS _ _ _ _=_
  have e:setS 7 (bin idxV (getV 0) (getV 5)) (ST p N i c7 c8 c9 c10 c11 c12) H=some (.nx,ST p N i (some (.str [a])) c8 c9 c10 c11 c12,H):=by
    simp [setS,bin,getV,z_ids,h]
  unfold seqS
  rw [e]
  rfl
theorem scan_step {a:Nat} (h:idxL p j=some a) (h1:j < N) (h2:a ≠ 93) {k:Nat} :
    whileS tScanT tScanB (k+1) (ST p N i c7 (some (.int j)) c9 c10 c11 c12) H=whileS tScanT tScanB k (ST p N i c7 (some (.int (j+1))) c9 c10 c11 c12) H:=by
  have e:tScanT (ST p N i c7 (some (.int j)) c9 c10 c11 c12) H=some (true,H):=by
    simp [tScanT,tAnd,tB,bin,getV,z_lt,z_ids,neV,z_eqs,h,h1,z_trb,cStr,h2]
  show (match tScanT _ _ with | some (true,H1)=>_ | some (false,H1)=>_ | none=>_)=_
  rw [e]
  rfl
theorem scan_stop (h:idxL p j=some 93) (h1:j < N) {k:Nat} :
    whileS tScanT tScanB (k+1) (ST p N i c7 (some (.int j)) c9 c10 c11 c12) H=some (.nx,ST p N i c7 (some (.int j)) c9 c10 c11 c12,H):=by
  have e:tScanT (ST p N i c7 (some (.int j)) c9 c10 c11 c12) H=some (false,H):=by
    simp [tScanT,tAnd,tB,bin,getV,z_lt,z_ids,neV,z_eqs,h,h1,z_trb,cStr]
  show (match tScanT _ _ with | some (true,H1)=>_ | some (false,H1)=>_ | none=>_)=_
  rw [e]
theorem scan_all:∀ (l:List Nat) (j:Int) (k:Nat),(∀ t,(h:t < l.length)→idxL p (j+t)=some l[t]∧l[t] ≠ 93)→idxL p (j+l.length)=some 93→j+l.length < N→l.length < k→
    whileS tScanT tScanB k (ST p N i c7 (some (.int j)) c9 c10 c11 c12) H=some (.nx,ST p N i c7 (some (.int (j+l.length))) c9 c10 c11 c12,H)
  |[]=>fun j k Z h2 h3 hk=>by
    obtain ⟨k,rfl⟩:=suc hk
    have e:j+(([]:List Nat).length:Nat)=j:=by simp
    rw [e] at h2 h3 ⊢
    exact scan_stop h2 h3
  |a::l=>fun j k h1 h2 h3 h4=>by
    obtain ⟨k,rfl⟩:=suc h4
    have h0:=h1 0 (by simp)
    simp at h0
    have e:j+((a::l).length:Nat)=j+1+(l.length:Nat):=by simp;omega
    rw [e] at h2 h3 ⊢
    rw [scan_step h0.1 (by omega) h0.2]
    refine scan_all l (j+1) k (fun t ht=>?_) h2 h3 (by simpa using h4)
    have:=h1 (t+1) (by simpa using ht)
    have e2:j+((t+1:Nat):Int)=j+1+(t:Int):=by omega
    rw [e2] at this
    simpa using this
noncomputable def tBr3 (K:Nat):FS:=(seqS (whileS tScanT tScanB K) (ifS (tB (bin geV (getV 8) (getV 6))) (expS (addF 4 (cStr [92,91]))) (seqS (setS 9 (slc (getV 0) (getV 5) (getV 8))) (seqS (tDash K) tRest2))))
theorem br3 {l inner:List Nat} (h1:∀ t,(h:t < l.length)→idxL p (j+t)=some l[t]∧l[t] ≠ 93) (h2:idxL p (j+l.length)=some 93) (h3:j+l.length < N) (h4:l.length < K) (hz:p.length≤SZ)
    (h5:sliceL p (some i) (some (j+l.length))=inner) :
    tBr3 K (ST p N i c7 (some (.int j)) c9 c10 c11 c12) H=seqS (tDash K) tRest2 (ST p N i c7 (some (.int (j+l.length))) (some (.str inner)) c10 c11 c12) H:=by
  unfold tBr3 seqS
  rw [scan_all l j K h1 h2 h3 h4]
  have e:tB (bin geV (getV 8) (getV 6)) (ST p N i c7 (some (.int (j+l.length))) c9 c10 c11 c12) H=some (false,H):=by
    simp [tB,bin,getV,z_ge,z_trb];omega
  simp only [ifS]
  rw [e]
  have e2:setS 9 (slc (getV 0) (getV 5) (getV 8)) (ST p N i c7 (some (.int (j+l.length))) c9 c10 c11 c12) H=some (.nx,ST p N i c7 (some (.int (j+l.length))) (some (.str inner)) c10 c11 c12,H):=by
    simp [setS,slc,getV,z_sls2,hz,h5]
  simp only [e2]
theorem br_plain {a:Nat} {l:List Nat} (ha:idxL p i=some a) (h33:a ≠ 33) (h93:a ≠ 93) (hi:i < N):tBr K (ST p N i c7 c8 c9 c10 c11 c12) H=tBr3 K (ST p N i c7 (some (.int i)) c9 c10 c11 c12) H:=by
  have e1:(ifS (tAnd [(tB (bin ltV (getV 8) (getV 6))),(tB (bin eqV (bin idxV (getV 0) (getV 8)) (cStr [33])))]) (setS 8 (bin addV (getV 8) (cInt 1))) nopS) (ST p N i c7 (some (.int i)) c9 c10 c11 c12) H=some (.nx,ST p N i c7 (some (.int i)) c9 c10 c11 c12,H):=by
    simp [ifS,tAnd,tB,bin,getV,z_lt,hi,z_trb,z_ids,ha,eqV,z_eqs,cStr,h33,nopS]
  have e2:(ifS (tAnd [(tB (bin ltV (getV 8) (getV 6))),(tB (bin eqV (bin idxV (getV 0) (getV 8)) (cStr [93])))]) (setS 8 (bin addV (getV 8) (cInt 1))) nopS) (ST p N i c7 (some (.int i)) c9 c10 c11 c12) H=some (.nx,ST p N i c7 (some (.int i)) c9 c10 c11 c12,H):=by
    simp [ifS,tAnd,tB,bin,getV,z_lt,hi,z_trb,z_ids,ha,eqV,z_eqs,cStr,h93,nopS]
  have e0:setS 8 (getV 5) (ST p N i c7 c8 c9 c10 c11 c12) H=some (.nx,ST p N i c7 (some (.int i)) c9 c10 c11 c12,H):=rfl
  simp only [tBr,seqS,e0,e1,e2,tBr3]
theorem br_neg {a:Nat} {l:List Nat} (ha:idxL p i=some 33) (hb:idxL p (i+1)=some a) (h93:a ≠ 93) (hi:i+1 < N):tBr K (ST p N i c7 c8 c9 c10 c11 c12) H=tBr3 K (ST p N i c7 (some (.int (i+1))) c9 c10 c11 c12) H:=by
  have h0:i < N:=by omega
  have e1:(ifS (tAnd [(tB (bin ltV (getV 8) (getV 6))),(tB (bin eqV (bin idxV (getV 0) (getV 8)) (cStr [33])))]) (setS 8 (bin addV (getV 8) (cInt 1))) nopS) (ST p N i c7 (some (.int i)) c9 c10 c11 c12) H=some (.nx,ST p N i c7 (some (.int (i+1))) c9 c10 c11 c12,H):=by
    simp [ifS,tAnd,tB,bin,getV,z_lt,h0,z_trb,z_ids,ha,eqV,z_eqs,cStr,setS,z_add,cInt]
  have e2:(ifS (tAnd [(tB (bin ltV (getV 8) (getV 6))),(tB (bin eqV (bin idxV (getV 0) (getV 8)) (cStr [93])))]) (setS 8 (bin addV (getV 8) (cInt 1))) nopS) (ST p N i c7 (some (.int (i+1))) c9 c10 c11 c12) H=some (.nx,ST p N i c7 (some (.int (i+1))) c9 c10 c11 c12,H):=by
    simp [ifS,tAnd,tB,bin,getV,z_lt,hi,z_trb,z_ids,hb,eqV,z_eqs,cStr,h93,nopS]
  have e0:setS 8 (getV 5) (ST p N i c7 c8 c9 c10 c11 c12) H=some (.nx,ST p N i c7 (some (.int i)) c9 c10 c11 c12,H):=rfl
  simp only [tBr,seqS,e0,e1,e2,tBr3]
theorem find_hit {a:Nat} {k k':Int} {l:List V} {x:List Nat} (hl:H[a]?=some l) (hs:l.length < SZ) (hz:p.length≤SZ) (hf:find4 ⟨p.toArray⟩ ⟨[45].toArray⟩ k j=k') (hk:0≤k') (hx:sliceL p (some i) (some k')=x) :
    tFindB (ST p N i c7 (some (.int j)) c9 (some (.lst a)) (some (.int k)) c12) H=some (.nx,ST p N (k'+1) c7 (some (.int j)) c9 (some (.lst a)) (some (.int (k'+3))) c12,H.set a (l++[.str x])):=by
  have e1:setS 11 (smF findG (getV 0) [(cStr [45]),(getV 11),(getV 8)]) (ST p N i c7 (some (.int j)) c9 (some (.lst a)) (some (.int k)) c12) H=some (.nx,ST p N i c7 (some (.int j)) c9 (some (.lst a)) (some (.int k')) c12,H):=by
    simp [setS,smF,getV,seqF,cStr,z_find,hf]
  have e2:¬ k' < 0:=by omega
  rw [tFindB,seqS_nx e1]
  simp [seqS,ifS,tB,bin,getV,z_lt,cInt,e2,z_trb,nopS,expS,apdF,slc,z_sls2,hz,hx,hl,hs,setS,z_add]
theorem find_miss {a:Nat} {k:Int} (hf:find4 ⟨p.toArray⟩ ⟨[45].toArray⟩ k j = -1) :
    tFindB (ST p N i c7 (some (.int j)) c9 (some (.lst a)) (some (.int k)) c12) H=some (.br,ST p N i c7 (some (.int j)) c9 (some (.lst a)) (some (.int (-1))) c12,H):=by
  have e1:setS 11 (smF findG (getV 0) [(cStr [45]),(getV 11),(getV 8)]) (ST p N i c7 (some (.int j)) c9 (some (.lst a)) (some (.int k)) c12) H=some (.nx,ST p N i c7 (some (.int j)) c9 (some (.lst a)) (some (.int (-1))) c12,H):=by
    simp [setS,smF,getV,seqF,cStr,z_find,hf]
  rw [tFindB,seqS_nx e1]
  simp [seqS,ifS,tB,bin,getV,z_lt,cInt,z_trb,brkS]
end
theorem seqS_nx2 {f g h:FS} {ρ ρ1:Rho} {H H1:Hp} (e:f ρ H=some (.nx,ρ1,H1)):seqS (seqS f g) h ρ H=seqS g h ρ1 H1:=by
  unfold seqS;rw [e]
noncomputable def tAfter2:FS:=(seqS (ifS (tB (getV 12)) (expS (apdF (getV 10) (getV 12))) (augSubS iaddV (getV 10) (negF (cInt 1)) (cStr [45]))) (seqS (frS (rngF [(bin subV (calF lenG [(getV 10)]) (cInt 1)),(cInt 0),(negF (cInt 1))]) (tgN 11) (ifS (tB (bin gtV (bin idxV (bin idxV (getV 10) (bin subV (getV 11) (cInt 1))) (negF (cInt 1))) (bin idxV (bin idxV (getV 10) (getV 11)) (cInt 0)))) (seqS (putS (bin addV (slc (bin idxV (getV 10) (bin subV (getV 11) (cInt 1))) cNone (negF (cInt 1))) (slc (bin idxV (getV 10) (getV 11)) (cInt 1) cNone)) (getV 10) (bin subV (getV 11) (cInt 1))) (delS (getV 10) (getV 11))) nopS)) (setS 9 (jgF 10))))
section
variable {p:List Nat} {N i j:Int} {c7 c8 c9 c10 c11 c12:Option V} {H:Hp}
theorem wT_hit {k:Nat} {ρ ρ':Rho} {H H':Hp} (e:tFindB ρ H=some (.nx,ρ',H')):whileS (tB (cBool true)) tFindB (k+1) ρ H=whileS (tB (cBool true)) tFindB k ρ' H':=by
  have:tB (cBool true) ρ H=some (true,H):=rfl
  simp only [whileS,this,e]
theorem wT_miss {k:Nat} {ρ ρ':Rho} {H H':Hp} (e:tFindB ρ H=some (.br,ρ',H')):whileS (tB (cBool true)) tFindB (k+1) ρ H=some (.nx,ρ',H'):=by
  have:tB (cBool true) ρ H=some (true,H):=rfl
  simp only [whileS,this,e]
theorem after1 {a:Nat} {x:List Nat} (hz:p.length≤SZ) (hx:sliceL p (some i) (some j)=x) :
    seqS tAfter tRest2 (ST p N i c7 (some (.int j)) c9 c10 c11 c12) H=seqS tAfter2 tRest2 (ST p N i c7 (some (.int j)) c9 c10 c11 (some (.str x))) H:=by
  have e:setS 12 (slc (getV 0) (getV 5) (getV 8)) (ST p N i c7 (some (.int j)) c9 c10 c11 c12) H=some (.nx,ST p N i c7 (some (.int j)) c9 c10 c11 (some (.str x)),H):=by
    simp [setS,slc,getV,z_sls2,hz,hx]
  exact seqS_nx2 e
theorem chunk_begin {a:Nat} (ha:idxL p i=some a):seqS (tChunk 1000) tRest2 (ST p N i c7 c8 c9 c10 c11 c12) H =
    seqS (seqS (whileS (tB (cBool true)) tFindB 1000) tAfter) tRest2 (ST p N i c7 c8 c9 (some (.lst H.length)) (some (.int (if a=33 then i+2 else i+1))) c12) (H++[[]]):=by
  have e:setS 10 (newF []) (ST p N i c7 c8 c9 c10 c11 c12) H=some (.nx,ST p N i c7 c8 c9 (some (.lst H.length)) c11 c12,H++[[]]):=rfl
  refine (seqS_nx2 e).trans ?_
  have e:setS 11 (ifE (tB (bin eqV (bin idxV (getV 0) (getV 5)) (cStr [33]))) (bin addV (getV 5) (cInt 2)) (bin addV (getV 5) (cInt 1))) (ST p N i c7 c8 c9 (some (.lst H.length)) c11 c12) (H++[[]]) =
      some (.nx,ST p N i c7 c8 c9 (some (.lst H.length)) (some (.int (if a=33 then i+2 else i+1))) c12,H++[[]]):=by
    by_cases h:a=33<;>simp [setS,ifE,tB,bin,getV,z_ids,ha,eqV,z_eqs,cStr,h,z_trb,z_add,cInt]
  exact seqS_nx2 e
theorem chunks0 {a:Nat} {inner:List Nat} (hz:p.length≤SZ) (ha:idxL p i=some a) (hf:find4 ⟨p.toArray⟩ ⟨[45].toArray⟩ (if a=33 then i+2 else i+1) j = -1) (hx:sliceL p (some i) (some j)=inner) :
    seqS (tChunk 1000) tRest2 (ST p N i c7 (some (.int j)) c9 c10 c11 c12) H=seqS tAfter2 tRest2 (ST p N i c7 (some (.int j)) c9 (some (.lst H.length)) (some (.int (-1))) (some (.str inner))) (H++[[]]):=by
  rw [chunk_begin ha,seqS_nx2 (wT_miss (k:=999) (find_miss hf)),after1 (a:=a) hz hx]
theorem chunks1 {a:Nat} {k:Int} {x y:List Nat} (hz:p.length≤SZ) (ha:idxL p i=some a) (hf:find4 ⟨p.toArray⟩ ⟨[45].toArray⟩ (if a=33 then i+2 else i+1) j=k) (hk:0≤k) (hx:sliceL p (some i) (some k)=x)
    (hf2:find4 ⟨p.toArray⟩ ⟨[45].toArray⟩ (k+3) j = -1) (hy:sliceL p (some (k+1)) (some j)=y) :
    seqS (tChunk 1000) tRest2 (ST p N i c7 (some (.int j)) c9 c10 c11 c12) H=seqS tAfter2 tRest2 (ST p N (k+1) c7 (some (.int j)) c9 (some (.lst H.length)) (some (.int (-1))) (some (.str y))) (H++[[.str x]]):=by
  have e0:(H++[[]])[H.length]?=some ([]:List V):=by simp
  have e1:(H++[[]]).set H.length ([]++[V.str x])=H++[[.str x]]:=by simp
  rw [chunk_begin ha]
  have h1:=find_hit (p:=p) (N:=N) (c7:=c7) (c9:=c9) (c12:=c12) e0 (by decide) hz hf hk hx
  rw [e1] at h1
  have h2:=(wT_hit (k:=999) h1).trans (wT_miss (k:=998) (find_miss hf2))
  rw [seqS_nx2 h2,after1 (a:=a) hz hy]
end
section
variable {pre post q:List Nat}
theorem at_ {q:List Nat} (hz:(pre++q++post).length≤SZ) (k:Nat) (hk:k < q.length) {i:Int} (hi:i=(pre.length:Int)+(k:Int)):idxL (pre++q++post) i=some q[k]:=by subst hi;exact idxL_seg hz hk
theorem segN {k a:Nat} (h:q[k]?=some a):(pre++q++post)[pre.length+k]?=some a:=by
  have hk:=(List.getElem?_eq_some_iff.mp h).1
  rw [List.append_assoc,List.getElem?_append_right (Nat.le_add_right ..),Nat.add_sub_cancel_left,List.getElem?_append_left hk,h]
theorem idN {k a:Nat} (hz:(pre++q++post).length≤SZ) (h:q[k]?=some a):idxL (pre++q++post) ((pre.length+k:Nat):Int)=some a:=(idxL_ge hz).trans (segN h)
theorem lenN:(pre++q++post).length=pre.length+q.length+post.length:=by rw [List.length_append,List.length_append]
end
noncomputable def Brk (q inner:List Nat) (m:Nat):Prop:=∀ (pre post:List Nat) (c7 c8 c9 c10 c11 c12:Option V) (H:Hp),(pre++q++post).length≤SZ→
  tBody 1000 (ST (pre++q++post) (pre++q++post).length pre.length c7 c8 c9 c10 c11 c12) H=seqS (tDash 1000) tRest2 (ST (pre++q++post) (pre++q++post).length ((pre.length+1:Nat):Int) (some (.str [91])) (some (.int ((pre.length+m:Nat):Int))) (some (.str inner)) c10 c11 c12) H
theorem brk_in {pre post q L inner:List Nat} {o:Nat} {c7 c9 c10 c11 c12:Option V} {H:Hp} (hc:∀ t,(h:t < L.length)→q[o+t]?=some L[t]∧L[t] ≠ 93) (he:q[o+L.length]?=some 93) (hl:L.length < 900) (hi:(q.drop 1).take (o+L.length - 1)=inner) (ho:1≤o) (hz:(pre++q++post).length≤SZ) :
    tBr3 1000 (ST (pre++q++post) (pre++q++post).length ((pre.length+1:Nat):Int) c7 (some (.int ((pre.length+o:Nat):Int))) c9 c10 c11 c12) H=seqS (tDash 1000) tRest2 (ST (pre++q++post) (pre++q++post).length ((pre.length+1:Nat):Int) c7 (some (.int ((pre.length+(o+L.length):Nat):Int))) (some (.str inner)) c10 c11 c12) H:=by
  have e:((pre.length+o:Nat):Int)+(L.length:Nat)=((pre.length+(o+L.length):Nat):Int):=by omega
  have hq:=(List.getElem?_eq_some_iff.mp he).1
  have:=br3 (p:=pre++q++post) (N:=(pre++q++post).length) (i:=((pre.length+1:Nat):Int)) (j:=((pre.length+o:Nat):Int)) (K:=1000) (l:=L) (c7:=c7) (c9:=c9) (c10:=c10) (c11:=c11) (c12:=c12) (H:=H) (inner:=inner) (fun t ht=>⟨by
    rw [show ((pre.length+o:Nat):Int)+(t:Nat)=((pre.length+(o+t):Nat):Int) by omega];exact idN hz (hc t ht).1,(hc t ht).2⟩) (by rw [e];exact idN hz he) (by rw [e,lenN];omega) (by omega) hz (by
    rw [e]
    have:=sliceL_seg (pre:=pre) (q:=q) (post:=post) (a:=1) (b:=o+L.length) (by omega) (by omega)
    rw [hi] at this
    exact this)
  rw [e] at this
  exact this
theorem brk_plain {q L inner:List Nat} {a:Nat} (h0:q[0]?=some 91) (h1:q[1]?=some a) (h33:a ≠ 33) (h93:a ≠ 93) (hc:∀ t,(h:t < L.length)→q[1+t]?=some L[t]∧L[t] ≠ 93) (he:q[1+L.length]?=some 93) (hl:L.length < 900) (hi:(q.drop 1).take (1+L.length - 1)=inner):Brk q inner (1+L.length):=fun pre post c7 c8 c9 c10 c11 c12 H hz=>by
  have hq:=(List.getElem?_eq_some_iff.mp h1).1
  rw [body_head (i:=(pre.length:Int)) (idN (k:=0) hz h0)]
  refine (br_plain (K:=1000) (l:=[]) (i:=((pre.length+1:Nat):Int)) (idN hz h1) h33 h93 (by rw [lenN];omega)).trans ?_
  exact brk_in hc he hl hi (Nat.le_refl _) hz
theorem brk_neg {q L inner:List Nat} {a:Nat} (h0:q[0]?=some 91) (h1:q[1]?=some 33) (h2:q[2]?=some a) (h93:a ≠ 93) (hc:∀ t,(h:t < L.length)→q[2+t]?=some L[t]∧L[t] ≠ 93) (he:q[2+L.length]?=some 93) (hl:L.length < 900) (hi:(q.drop 1).take (2+L.length - 1)=inner):Brk q inner (2+L.length):=fun pre post c7 c8 c9 c10 c11 c12 H hz=>by
  have hq:=(List.getElem?_eq_some_iff.mp h2).1
  rw [body_head (i:=(pre.length:Int)) (idN (k:=0) hz h0)]
  refine (br_neg (K:=1000) (l:=[]) (i:=((pre.length+1:Nat):Int)) (idN hz h1) (idN (k:=2) hz h2) h93 (by rw [lenN];omega)).trans ?_
  exact brk_in hc he hl hi (Nat.le_succ _) hz
inductive IsST (p:List Nat) (N i:Int):Rho→Prop
  |mk (c7 c8 c9 c10 c11 c12:Option V):IsST p N i (ST p N i c7 c8 c9 c10 c11 c12)
inductive StepR (p:List Nat) (N i:Int) (ρ:Rho) (H:Hp) (n:Nat) (r':List V):Prop
  |mk (ρ':Rho) (J':Hp) (s:IsST p N i ρ') (hJ:J'.length≤n+1) (e:tBody 1000 ρ H=some (.nx,ρ',r'::J')):StepR p N i ρ H n r'
noncomputable def Step (q part:List Nat):Prop:=∀ (pre post:List Nat) (r:List V) (J:Hp) (ρ:Rho),IsST (pre++q++post) (pre++q++post).length pre.length ρ→(pre++q++post).length≤SZ→r.length < SZ→J.length≤3→
  StepR (pre++q++post) (pre++q++post).length (pre++q).length ρ (r::J) J.length (r++[.str part])
theorem add_end {p part:List Nat} {N i i':Int} {c7 c8 c9 c10 c11 c12:Option V} {r:List V} {J:Hp} (hr:r.length < SZ) (hi:i=i') :
    expS (addF 4 (cStr part)) (ST p N i c7 c8 c9 c10 c11 c12) (r::J)=some (.nx,ST p N i' c7 c8 c9 c10 c11 c12,(r++[.str part])::J):=by
  subst hi
  simp [expS,addF,cStr,hr]
theorem step_1 {a:Nat} {part:List Nat} (hk:∀ {p:List Nat} {N i:Int} {c8 c9 c10 c11 c12:Option V} {H:Hp},tSw 1000 (ST p N i (some (.str [a])) c8 c9 c10 c11 c12) H=expS (addF 4 (cStr part)) (ST p N i (some (.str [a])) c8 c9 c10 c11 c12) H):Step [a] part:=fun pre post r J ρ i hz hr hJ=>i.casesOn fun c7 c8 c9 c10 c11 c12=>
  ⟨_,J,.mk ..,Nat.le_succ _,by
    rw [body_head (i:=(pre.length:Int)) (idN (k:=0) hz rfl),hk]
    exact add_end hr (by rw [List.length_append];rfl)⟩
theorem step_b {q inner part z:List Nat} {m:Nat} (hb:Brk q inner m) (hm:q.length=m+1) (hk:∀ {p:List Nat} {N i j:Int} {c10 c11 c12:Option V} {H:Hp},seqS (tDash 1000) tRest2 (ST p N i (some (.str [91])) (some (.int j)) (some (.str inner)) c10 c11 c12) H =
    expS (addF 4 (cStr part)) (ST p N (j+1) (some (.str [91])) (some (.int j)) (some (.str z)) c10 c11 c12) H):Step q part:=fun pre post r J ρ i hz hr hJ=>i.casesOn fun c7 c8 c9 c10 c11 c12=>
  ⟨_,J,.mk ..,Nat.le_succ _,by
    rw [hb _ _ _ _ _ _ _ _ _ hz,hk]
    exact add_end hr (by rw [List.length_append,hm];rfl)⟩
noncomputable abbrev Dsh (inner:List Nat):Prop:=∀ {p:List Nat} {N i j:Int} {c10 c11 c12:Option V} {H:Hp},seqS (tDash 1000) tRest2 (ST p N i (some (.str [91])) (some (.int j)) (some (.str inner)) c10 c11 c12) H=seqS (tChunk 1000) tRest2 (ST p N i (some (.str [91])) (some (.int j)) (some (.str inner)) c10 c11 c12) H
noncomputable abbrev Aft (inner x y part z:List Nat) (u:Int) (w:List V) (X:List V):Prop:=∀ {p:List Nat} {N i j:Int} {r:List V} {J:Hp},J.length≤3→seqS tAfter2 tRest2 (ST p N i (some (.str [91])) (some (.int j)) (some (.str inner)) (some (.lst (r::J).length)) (some (.int (-1))) (some (.str y))) (r::J++[X]) =
  expS (addF 4 (cStr part)) (ST p N (j+1) (some (.str [91])) (some (.int j)) (some (.str z)) (some (.lst (r::J).length)) (some (.int u)) (some (.str y))) (r::(J++[w]))
theorem three {P:Hp→Prop} (h0:P []) (h1:∀ a,P [a]) (h2:∀ a b,P [a,b]) (h3:∀ a b c,P [a,b,c]) {J:Hp} (h:J.length≤3):P J:=by
  cases J with
  |nil=>exact h0
  |cons a J=>
    cases J with
    |nil=>exact h1 a
    |cons b J=>
      cases J with
      |nil=>exact h2 a b
      |cons c J=>
        cases J with
        |nil=>exact h3 a b c
        |cons d J=>exact absurd h (by simp)
theorem from_at {a d:Nat} {n:Nat} (ha:(if a=33 then 3 else 2)=d):(if a=33 then ((n+1:Nat):Int)+2 else ((n+1:Nat):Int)+1)=((n+d:Nat):Int):=by
  subst ha;split<;>rfl
theorem snoc1 {J:Hp} {w:List V}:(J++[w]).length≤J.length+1:=Nat.le_of_eq (by rw [List.length_append];rfl)
theorem step_0 {q inner part z:List Nat} {m a d:Nat} {u:Int} {w:List V} (hb:Brk q inner m) (hm:q.length=m+1) (h1:q[1]?=some a) (ha:(if a=33 then 3 else 2)=d) (hmd:m≤d) (hm1:1≤m) (hx:(q.drop 1).take (m - 1)=inner) (hd:Dsh inner) (hk:Aft inner [] inner part z u w []):Step q part:=fun pre post r J ρ i hz hr hJ=>i.casesOn fun c7 c8 c9 c10 c11 c12=>
  ⟨_,J++[w],.mk ..,snoc1,by
    rw [hb _ _ _ _ _ _ _ _ _ hz,hd,chunks0 (inner:=inner) hz (idN hz h1) (by rw [from_at ha];exact find4_miss (Nat.add_le_add_left hmd _)) (by rw [← hx];exact sliceL_seg hm1 (by omega)),hk hJ]
    exact add_end hr (by rw [List.length_append,hm];rfl)⟩
theorem step_c {q inner part z x y:List Nat} {m a d:Nat} {u:Int} {w:List V} (hb:Brk q inner m) (hm:q.length=m+1) (h1:q[1]?=some a) (ha:(if a=33 then 3 else 2)=d) (hd45:q[d]?=some 45) (hdm:d < m) (hmd:m≤d+3) (hd1:1≤d) (hx:(q.drop 1).take (d - 1)=x) (hy:(q.drop (d+1)).take (m - (d+1))=y)
    (hd:Dsh inner) (hk:Aft inner x y part z u w [.str x]):Step q part:=fun pre post r J ρ i hz hr hJ=>i.casesOn fun c7 c8 c9 c10 c11 c12=>
  ⟨_,J++[w],.mk ..,snoc1,by
    have hs:=sliceL_seg (pre:=pre) (q:=q) (post:=post) (a:=1) (b:=d) hd1 (by omega)
    have ht:=sliceL_seg (pre:=pre) (q:=q) (post:=post) (a:=d+1) (b:=m) hdm (by omega)
    rw [hb _ _ _ _ _ _ _ _ _ hz,hd,chunks1 (k:=((pre.length+d:Nat):Int)) (x:=x) (y:=y) hz (idN hz h1) (by rw [from_at ha];exact find4_hit (Nat.add_lt_add_left hdm _) (by rw [lenN];omega) (segN hd45)) (by omega) (by rw [← hx];exact hs)
      (by exact find4_miss (i:=pre.length+d+3) (by omega)) (by rw [← hy];exact ht),hk hJ]
    exact add_end hr (by rw [List.length_append,hm];rfl)⟩
theorem st_63:Step [63] [46]:=step_1 (by intros;kernel_rfl)
theorem st_97:Step [97] [97]:=step_1 (by intros;kernel_rfl)
theorem st_38:Step [38] [92,38]:=step_1 (by intros;kernel_rfl)
theorem st_45:Step [45] [92,45]:=step_1 (by intros;kernel_rfl)
theorem st_33:Step [33] [33]:=step_1 (by intros;kernel_rfl)
theorem st_br_97_38:Step [91,97,38,93] [91,97,92,38,93]:=step_b (z:=[97,92,38]) (brk_plain (L:=[97,38]) rfl rfl (by decide) (by decide) (by decide) rfl (by decide) rfl) rfl (by intros;kernel_rfl)
theorem st_br_33_38:Step [91,33,38,93] [91,94,92,38,93]:=step_b (z:=[94,92,38]) (brk_neg (L:=[38]) rfl rfl rfl (by decide) (by decide) rfl (by decide) rfl) rfl (by intros;kernel_rfl)
theorem st_br_38_38:Step [91,38,38,93] [91,92,38,92,38,93]:=step_b (z:=[92,38,92,38]) (brk_plain (L:=[38,38]) rfl rfl (by decide) (by decide) (by decide) rfl (by decide) rfl) rfl (by intros;kernel_rfl)
theorem st_br_33_97:Step [91,33,97,93] [91,94,97,93]:=step_b (z:=[94,97]) (brk_neg (L:=[97]) rfl rfl rfl (by decide) (by decide) rfl (by decide) rfl) rfl (by intros;kernel_rfl)
theorem st_br_33_33:Step [91,33,33,93] [91,94,33,93]:=step_b (z:=[94,33]) (brk_neg (L:=[33]) rfl rfl rfl (by decide) (by decide) rfl (by decide) rfl) rfl (by intros;kernel_rfl)
theorem st_br_33_45_k:Aft [33,45] [] [33,45] [91,94,92,45,93] [94,92,45] (-1) [.str [33,45]] []:=fun {p N i j r J} hJ=>by
  refine three (P:=fun J=>seqS tAfter2 tRest2 (ST p N i _ _ _ (some (.lst (r::J).length)) _ _) (r::J++_)=expS _ (ST p N _ _ _ _ (some (.lst (r::J).length)) _ _) (r::(J++_))) ?_ (fun a=>?_) (fun a b=>?_) (fun a b c=>?_) hJ<;>kernel_rfl
theorem st_br_33_45:Step [91,33,45,93] [91,94,92,45,93]:=step_0 (inner:=[33,45]) (brk_neg (L:=[45]) rfl rfl rfl (by decide) (by decide) rfl (by decide) rfl) rfl rfl rfl (by decide) (by decide) rfl (fun {p N i j c10 c11 c12 H}=>by kernel_rfl) st_br_33_45_k
theorem st_br_97_45_k:Aft [97,45] [97] [] [91,97,92,45,93] [97,92,45] (-1) [.str [97,45]] [.str [97]]:=fun {p N i j r J} hJ=>by
  refine three (P:=fun J=>seqS tAfter2 tRest2 (ST p N i _ _ _ (some (.lst (r::J).length)) _ _) (r::J++_)=expS _ (ST p N _ _ _ _ (some (.lst (r::J).length)) _ _) (r::(J++_))) ?_ (fun a=>?_) (fun a b=>?_) (fun a b c=>?_) hJ<;>kernel_rfl
theorem st_br_97_45:Step [91,97,45,93] [91,97,92,45,93]:=step_c (inner:=[97,45]) (brk_plain (L:=[97,45]) rfl rfl (by decide) (by decide) (by decide) rfl (by decide) rfl) rfl rfl rfl rfl (by decide) (by decide) (by decide) rfl rfl (fun {p N i j c10 c11 c12 H}=>by kernel_rfl) st_br_97_45_k
theorem st_br_38_45_97_k:Aft [38,45,97] [38] [97] [91,92,38,45,97,93] [92,38,45,97] 1 [.str [38],.str [97]] [.str [38]]:=fun {p N i j r J} hJ=>by
  refine three (P:=fun J=>seqS tAfter2 tRest2 (ST p N i _ _ _ (some (.lst (r::J).length)) _ _) (r::J++_)=expS _ (ST p N _ _ _ _ (some (.lst (r::J).length)) _ _) (r::(J++_))) ?_ (fun a=>?_) (fun a b=>?_) (fun a b c=>?_) hJ<;>kernel_rfl
theorem st_br_38_45_97:Step [91,38,45,97,93] [91,92,38,45,97,93]:=step_c (inner:=[38,45,97]) (brk_plain (L:=[38,45,97]) rfl rfl (by decide) (by decide) (by decide) rfl (by decide) rfl) rfl rfl rfl rfl (by decide) (by decide) (by decide) rfl rfl (fun {p N i j c10 c11 c12 H}=>by kernel_rfl) st_br_38_45_97_k
theorem st_br_97_45_38_k:Aft [97,45,38] [97] [38] [40,63,33,41] [] 1 [.str []] [.str [97]]:=fun {p N i j r J} hJ=>by
  refine three (P:=fun J=>seqS tAfter2 tRest2 (ST p N i _ _ _ (some (.lst (r::J).length)) _ _) (r::J++_)=expS _ (ST p N _ _ _ _ (some (.lst (r::J).length)) _ _) (r::(J++_))) ?_ (fun a=>?_) (fun a b=>?_) (fun a b c=>?_) hJ<;>kernel_rfl
theorem st_br_97_45_38:Step [91,97,45,38,93] [40,63,33,41]:=step_c (inner:=[97,45,38]) (brk_plain (L:=[97,45,38]) rfl rfl (by decide) (by decide) (by decide) rfl (by decide) rfl) rfl rfl rfl rfl (by decide) (by decide) (by decide) rfl rfl (fun {p N i j c10 c11 c12 H}=>by kernel_rfl) st_br_97_45_38_k
theorem st_br_33_97_45_38_k:Aft [33,97,45,38] [33,97] [38] [46] [33] 1 [.str [33]] [.str [33,97]]:=fun {p N i j r J} hJ=>by
  refine three (P:=fun J=>seqS tAfter2 tRest2 (ST p N i _ _ _ (some (.lst (r::J).length)) _ _) (r::J++_)=expS _ (ST p N _ _ _ _ (some (.lst (r::J).length)) _ _) (r::(J++_))) ?_ (fun a=>?_) (fun a b=>?_) (fun a b c=>?_) hJ<;>kernel_rfl
theorem st_br_33_97_45_38:Step [91,33,97,45,38,93] [46]:=step_c (inner:=[33,97,45,38]) (brk_neg (L:=[97,45,38]) rfl rfl rfl (by decide) (by decide) rfl (by decide) rfl) rfl rfl rfl rfl (by decide) (by decide) (by decide) rfl rfl (fun {p N i j c10 c11 c12 H}=>by kernel_rfl) st_br_33_97_45_38_k
structure Pc where
  q:List Nat
  part:Option (List Nat)
  told:V
noncomputable def pcs:List Pc:=[⟨[42],none,.none⟩,⟨[42],none,.none⟩,⟨[42],none,.none⟩,⟨[42],none,.none⟩,⟨[63],some [46],.tup [.bool true,.str []]⟩,⟨[97],some [97],.tup [.bool false,.str [97]]⟩,⟨[97],some [97],.tup [.bool false,.str [97]]⟩,⟨[38],some [92,38],.tup [.bool false,.str [38]]⟩,⟨[45],some [92,45],.tup [.bool false,.str [45]]⟩,⟨[33],some [33],.tup [.bool false,.str [33]]⟩,⟨[91,97,38,93],some [91,97,92,38,93],.tup [.bool false,.str [97,38]]⟩,⟨[91,33,38,93],some [91,94,92,38,93],.tup [.bool true,.str [38]]⟩,⟨[91,38,38,93],some [91,92,38,92,38,93],.tup [.bool false,.str [38]]⟩,⟨[91,33,97,93],some [91,94,97,93],.tup [.bool true,.str [97]]⟩,⟨[91,97,45,93],some [91,97,92,45,93],.tup [.bool false,.str [97,45]]⟩,⟨[91,33,45,93],some [91,94,92,45,93],.tup [.bool true,.str [45]]⟩,⟨[91,33,33,93],some [91,94,33,93],.tup [.bool true,.str [33]]⟩,⟨[91,38,45,97,93],some [91,92,38,45,97,93],.tup [.bool false,.str [38,45,97]]⟩,⟨[91,97,45,38,93],some [40,63,33,41],.tup [.bool false,.str []]⟩,⟨[91,33,97,45,38,93],some [46],.tup [.bool true,.str []]⟩]
theorem pieces_eq:pieces=pcs.map fun c=>.tup [.str c.q,c.told]:=by kernel_rfl
theorem pcs_all {P:Pc→Prop} (h0:P ⟨[42],none,.none⟩) (h1:P ⟨[63],some [46],.tup [.bool true,.str []]⟩) (h2:P ⟨[97],some [97],.tup [.bool false,.str [97]]⟩) (h3:P ⟨[38],some [92,38],.tup [.bool false,.str [38]]⟩) (h4:P ⟨[45],some [92,45],.tup [.bool false,.str [45]]⟩) (h5:P ⟨[33],some [33],.tup [.bool false,.str [33]]⟩) (h6:P ⟨[91,97,38,93],some [91,97,92,38,93],.tup [.bool false,.str [97,38]]⟩) (h7:P ⟨[91,33,38,93],some [91,94,92,38,93],.tup [.bool true,.str [38]]⟩) (h8:P ⟨[91,38,38,93],some [91,92,38,92,38,93],.tup [.bool false,.str [38]]⟩) (h9:P ⟨[91,33,97,93],some [91,94,97,93],.tup [.bool true,.str [97]]⟩) (h10:P ⟨[91,97,45,93],some [91,97,92,45,93],.tup [.bool false,.str [97,45]]⟩) (h11:P ⟨[91,33,45,93],some [91,94,92,45,93],.tup [.bool true,.str [45]]⟩) (h12:P ⟨[91,33,33,93],some [91,94,33,93],.tup [.bool true,.str [33]]⟩) (h13:P ⟨[91,38,45,97,93],some [91,92,38,45,97,93],.tup [.bool false,.str [38,45,97]]⟩) (h14:P ⟨[91,97,45,38,93],some [40,63,33,41],.tup [.bool false,.str []]⟩) (h15:P ⟨[91,33,97,45,38,93],some [46],.tup [.bool true,.str []]⟩):∀ c ∈ pcs,P c:=by
  intro c hc
  simp only [pcs,List.mem_cons,List.not_mem_nil,or_false] at hc
  rcases hc with rfl | rfl | rfl | rfl | rfl | rfl | rfl | rfl | rfl | rfl | rfl | rfl | rfl | rfl | rfl | rfl | rfl | rfl | rfl | rfl
  · exact h0
  · exact h0
  · exact h0
  · exact h0
  · exact h1
  · exact h2
  · exact h2
  · exact h3
  · exact h4
  · exact h5
  · exact h6
  · exact h7
  · exact h8
  · exact h9
  · exact h10
  · exact h11
  · exact h12
  · exact h13
  · exact h14
  · exact h15
noncomputable def tv:Option (List Nat)→V
  |none=>.star
  |some t=>.str t
noncomputable def addP (r:List (Option (List Nat))):Option (List Nat)→List (Option (List Nat))
  |none=>if r.getLast? = some none then r else r++[none]
  |some t=>r++[some t]
theorem st_star (pre post:List Nat) (r:List (Option (List Nat))) (J:Hp) (c7 c8 c9 c10 c11 c12:Option V) (hz:(pre++[42]++post).length≤SZ) (hr:r.length≤3) :
    tBody 1000 (ST (pre++[42]++post) (pre++[42]++post).length pre.length c7 c8 c9 c10 c11 c12) (r.map tv::J) =
    some (.nx,ST (pre++[42]++post) (pre++[42]++post).length (pre++[42]).length (some (.str [42])) c8 c9 c10 c11 c12,(addP r none).map tv::J):=by
  have h0:=at_ (pre:=pre) (post:=post) hz 0 (by decide) (i:=pre.length) (by simp)
  rw [body_head h0]
  have hi:(((pre++[42]).length:Nat):Int)=(pre.length:Int)+1:=by simp
  rw [hi]
  clear h0 hi hz
  rcases r with _ | ⟨a,_ | ⟨b,_ | ⟨c,_ | ⟨d,t⟩⟩⟩⟩
  · kernel_rfl
  · cases a<;>kernel_rfl
  · cases b<;>cases a<;>kernel_rfl
  · cases c<;>cases b<;>cases a<;>kernel_rfl
  · exact absurd hr (by simp)
noncomputable def StepP (c:Pc):Prop:=∀ (pre post:List Nat) (r:List (Option (List Nat))) (J:Hp) (ρ:Rho),IsST (pre++c.q++post) (pre++c.q++post).length pre.length ρ→(pre++c.q++post).length≤SZ→r.length≤3→J.length≤3→
  StepR (pre++c.q++post) (pre++c.q++post).length (pre++c.q).length ρ (r.map tv::J) J.length ((addP r c.part).map tv)
theorem Step.toP {q part:List Nat} {t:V} (h:Step q part):StepP ⟨q,some part,t⟩:=fun pre post r J ρ i hz hr hJ=>by
  have:=h pre post (r.map tv) J ρ i hz (by simp only [List.length_map,SZ];omega) hJ
  rw [show (addP r (some part)).map tv=r.map tv++[.str part] from List.map_append]
  exact this
theorem stepP_all:∀ c ∈ pcs,StepP c:=pcs_all (fun pre post r J ρ i hz hr hJ=>i.casesOn fun c7 c8 c9 c10 c11 c12=>⟨_,J,.mk ..,Nat.le_succ _,st_star pre post r J c7 c8 c9 c10 c11 c12 hz hr⟩) st_63.toP st_97.toP st_38.toP st_45.toP st_33.toP st_br_97_38.toP st_br_33_38.toP st_br_38_38.toP st_br_33_97.toP st_br_97_45.toP st_br_33_45.toP st_br_33_33.toP st_br_38_45_97.toP st_br_97_45_38.toP st_br_33_97_45_38.toP
theorem tTest_on {p:List Nat} {N i:Int} {ρ:Rho} (j:IsST p N i ρ) {H:Hp} (h:i < N):tTest ρ H=some (true,H):=by
  cases j
  simp [tTest,tB,bin,getV,z_lt,h,z_trb]
theorem tTest_off {p:List Nat} {N i:Int} {ρ:Rho} (j:IsST p N i ρ) {H:Hp} (h:¬ i < N):tTest ρ H=some (false,H):=by
  cases j
  simp [tTest,tB,bin,getV,z_lt,h,z_trb]
theorem addP_len (r:List (Option (List Nat))) (x:Option (List Nat)):(addP r x).length≤r.length+1:=by
  unfold addP;split
  · split<;>simp
  · simp
theorem q_pos:∀ c ∈ pcs,0 < c.q.length:=pcs_all (by decide) (by decide) (by decide) (by decide) (by decide) (by decide) (by decide) (by decide) (by decide) (by decide) (by decide) (by decide) (by decide) (by decide) (by decide) (by decide)
inductive PcsR (p:List Nat) (k:Nat) (ρ:Rho) (H:Hp) (r':List V):Prop
  |mk (ρ':Rho) (J':Hp) (i:IsST p p.length p.length ρ') (e:whileS tTest (tBody 1000) k ρ H=some (.nx,ρ',r'::J')):PcsR p k ρ H r'
theorem loop_pieces (p:List Nat) (hz:p.length≤SZ) (todo:List Pc):∀ (pre:List Nat) (r:List (Option (List Nat))) (J:Hp) (k:Nat) (ρ:Rho),p=pre++todo.flatMap Pc.q→IsST p p.length pre.length ρ→(∀ c ∈ todo,c ∈ pcs)→r.length+todo.length≤4→J.length+todo.length≤4→
    PcsR p (todo.length+1+k) ρ (r.map tv::J) (((todo.map Pc.part).foldl addP r).map tv):=by
  induction todo with
  |nil=>
    intro pre r J k ρ hp i _ _ _
    have e:pre=p:=by rw [hp];exact (List.append_nil _).symm
    subst e
    have e:=tTest_off i (H:=r.map tv::J) (Int.lt_irrefl _)
    rw [show ([]:List Pc).length+1+k=k+1 from Nat.add_comm ..]
    exact ⟨ρ,J,i,by simp only [whileS,e];rfl⟩
  |cons c todo ih=>
    intro pre r J k ρ hp i hc hr hJ
    have ep:p=pre++c.q++todo.flatMap Pc.q:=by rw [hp,List.flatMap_cons,List.append_assoc]
    have hcp:=hc c (.head _)
    rw [List.length_cons] at hr hJ
    have hq:=q_pos c hcp
    have hl:=addP_len r c.part
    have hS:=stepP_all c hcp pre (todo.flatMap Pc.q) r J ρ
    rw [← ep] at hS
    obtain ⟨ρ1,J1,i1,h1,h2⟩:=hS i hz (by omega) (by omega)
    have e:=tTest_on i (H:=r.map tv::J) (by rw [ep];simp only [List.length_append];omega)
    obtain ⟨ρ2,J2,i2,h3⟩:=ih (pre++c.q) (addP r c.part) J1 k ρ1 ep i1 (fun x hx=>hc x (.tail _ hx)) (by omega) (by omega)
    rw [show (c::todo).length+1+k=(todo.length+1+k)+1 by rw [List.length_cons];omega]
    exact ⟨ρ2,J2,i2,by simp only [whileS,e,h2,h3];rfl⟩
noncomputable def partsOf (R:List Pc):List (Option (List Nat)):=(R.map Pc.part).foldl addP []
theorem tv_noLst:∀ l:List (Option (List Nat)),noLsts (l.map tv)=true
  |[]=>rfl
  |none::l=>by simp only [List.map,nlc,tv];exact tv_noLst l
  |some t::l=>by simp only [List.map,nlc,tv,nls,Bool.true_and];exact tv_noLst l
theorem utranslate_row (R:List Pc) (hR:∀ c ∈ R,c ∈ pcs) (hl:R.length≤4) (hz:(R.flatMap Pc.q).length≤SZ):g_utranslate 1000 [.str (R.flatMap Pc.q),.star,.str [46]] []=some (.frz ((partsOf R).map tv),[]):=by
  obtain ⟨ρ',J',i,h⟩:=loop_pieces (R.flatMap Pc.q) hz R [] [] [] (999 - R.length) _ rfl (.mk none none none none none none) hR (by simpa using hl) (by simpa using hl)
  rw [show R.length+1+(999 - R.length)=1000 by omega] at h
  generalize R.flatMap Pc.q=P at *
  have h:whileS tTest (tBody 1000) 1000 (ST P P.length ((0:Nat):Int) none none none none none none) [[]]=some (.nx,ρ',((R.map Pc.part).foldl addP []).map tv::J'):=h
  have hf:f_utranslate 1000 [some (.str P),some .star,some (.str [46]),none,none,none,none,none,none,none,none,none,none] []=some (.rt (.lst 0),ρ',((R.map Pc.part).foldl addP []).map tv::J'):=by
    rw [f_utranslate_eq]
    have e1:setS 3 (newF []) [some (.str P),some .star,some (.str [46]),none,none,none,none,none,none,none,none,none,none] []=some (.nx,[some (.str P),some .star,some (.str [46]),some (.lst 0),none,none,none,none,none,none,none,none,none],[[]]):=rfl
    rw [seqS_nx e1]
    have e2:setS 4 (bndF (getV 3)) [some (.str P),some .star,some (.str [46]),some (.lst 0),none,none,none,none,none,none,none,none,none] [[]]=some (.nx,[some (.str P),some .star,some (.str [46]),some (.lst 0),some (.app 0),none,none,none,none,none,none,none,none],[[]]):=rfl
    rw [seqS_nx e2]
    have e3:setSw (tupF [(cInt 0),(calF lenG [(getV 0)])]) [5,6] [some (.str P),some .star,some (.str [46]),some (.lst 0),some (.app 0),none,none,none,none,none,none,none,none] [[]]=some (.nx,ST P P.length ((0:Nat):Int) none none none none none none,[[]]):=by
      refine setSw_ok (l:=[.int 0,.int P.length]) ?_ rfl
      simp only [tupF,seqF,cInt,calF,getV,gz,z_lens,hz,if_true]
    rw [seqS_nx e3]
    rw [seqS_nx h]
    have e4:asrS (tB (bin eqV (getV 5) (getV 6))) ρ' (((R.map Pc.part).foldl addP []).map tv::J')=some (.nx,ρ',((R.map Pc.part).foldl addP []).map tv::J'):=by
      cases i
      simp [asrS,tB,bin,getV,eqV,z_eqi,z_trb]
    rw [seqS_nx e4]
    cases i
    rfl
  show runF 10 (f_utranslate 1000) _ _=_
  exact runL hf rfl (tv_noLst (partsOf R))
noncomputable abbrev Pt:=Option (List Nat)
theorem idx_tv {ps:List Pt} {i:Nat} {x:Pt} (hz:ps.length≤SZ) (h:ps[i]?=some x):idxL (ps.map tv) (i:Int)=some (tv x):=by
  rw [idxL_ge (by simpa using hz)];simp [h]
theorem drop_cons {α:Type} {ps:List α} {i:Nat} {x:α} {y:List α} (h:ps.drop i=x::y):ps[i]?=some x∧ps.drop (i+1)=y∧i < ps.length:=by
  have h1:ps[i]?=some x:=by
    have:=List.getElem?_drop (xs:=ps) (i:=i) (j:=0)
    rw [h] at this;simpa using this.symm
  refine ⟨h1,?_,(List.getElem?_eq_some_iff.mp h1).1⟩
  rw [← List.drop_drop,h];rfl
theorem drop_nil {α:Type} {ps:List α} {i:Nat} (h:ps.drop i=[]):ps.length≤i:=List.drop_eq_nil_iff.mp h
theorem seqS_br {f g:FS} {ρ ρ1:Rho} {H H1:Hp} (h:f ρ H=some (.br,ρ1,H1)):seqS f g ρ H=some (.br,ρ1,H1):=by unfold seqS;rw [h]
noncomputable abbrev JS (ps:List Pt) (i:Nat) (c6:Option V):Rho:=[some (.frz (ps.map tv)),some .star,some (.lst 0),some (.app 0),some (.int i),some (.int ps.length),c6]
noncomputable def tW:FT:=(tAnd [(tB (bin ltV (getV 4) (getV 5))),(tB (bin isNotV (bin idxV (getV 0) (getV 4)) (getV 1)))])
noncomputable def bW1:FS:=(seqS (expS (addF 3 (bin idxV (getV 0) (getV 4)))) (augS 4 iaddV (cInt 1)))
noncomputable def bW3:FS:=(seqS (expS (apdF (getV 6) (bin idxV (getV 0) (getV 4)))) (augS 4 iaddV (cInt 1)))
noncomputable def tO:FT:=(tB (bin ltV (getV 4) (getV 5)))
noncomputable def bO (K:Nat):FS:=(seqS (asrS (tB (bin isV (bin idxV (getV 0) (getV 4)) (getV 1)))) (seqS (augS 4 iaddV (cInt 1)) (seqS (ifS (tB (bin eqV (getV 4) (getV 5))) (seqS (expS (addF 3 (cStr [46,42]))) brkS) nopS) (seqS (asrS (tB (bin isNotV (bin idxV (getV 0) (getV 4)) (getV 1)))) (seqS (setS 6 (newF [])) (seqS (whileS tW bW3 K) (seqS (setS 6 (smF joinG (cStr []) [(getV 6)])) (ifS (tB (bin eqV (getV 4) (getV 5))) (seqS (expS (addF 3 (cStr [46,42]))) (expS (addF 3 (getV 6)))) (expS (addF 3 (fsF [(cStr [40,63,62,46,42,63]),(fmtF (getV 6)),(cStr [41])] [])))))))))))
theorem f_join_eq (K:Nat):f_join_translated_parts K=seqS (setS 2 (newF [])) (seqS (setS 3 (bndF (getV 2))) (seqS (setSw (tupF [(cInt 0),(calF lenG [(getV 0)])]) [4,5]) (seqS (whileS tW bW1 K) (seqS (whileS tO (bO K) K) (seqS (asrS (tB (bin eqV (getV 4) (getV 5)))) (seqS (setS 2 (smF joinG (cStr []) [(getV 2)])) (retS (fsF [(cStr [40,63,115,58]),(fmtF (getV 2)),(cStr [41,92,90])] [])))))))):=rfl
section
variable {ps:List Pt} {i:Nat} {c6:Option V} {H:Hp}
theorem tW_on {t:List Nat} (hz:ps.length≤SZ) (h:ps[i]?=some (some t)):tW (JS ps i c6) H=some (true,H):=by
  have hi:=(List.getElem?_eq_some_iff.mp h).1
  have hx:=idx_tv hz h
  simp [tW,tAnd,tB,bin,getV,z_lt,hi,z_trb,z_idf,hx,tv,z_nisc]
theorem tW_star (hz:ps.length≤SZ) (h:ps[i]?=some none):tW (JS ps i c6) H=some (false,H):=by
  have hi:=(List.getElem?_eq_some_iff.mp h).1
  have hx:=idx_tv hz h
  simp [tW,tAnd,tB,bin,getV,z_lt,hi,z_trb,z_idf,hx,tv,z_niss]
theorem tW_end (h:ps.length≤i):tW (JS ps i c6) H=some (false,H):=by
  have hi:¬ (i:Int) < ps.length:=by omega
  simp [tW,tAnd,tB,bin,getV,z_lt,z_trb]
  omega
theorem tW_off (hz:ps.length≤SZ) {rest:List Pt} (h:ps.drop i=rest) (hr:rest=[]∨∃ y,rest=none::y):tW (JS ps i c6) H=some (false,H):=by
  rcases hr with rfl | ⟨y,rfl⟩
  · exact tW_end (drop_nil h)
  · exact tW_star hz (drop_cons h).1
theorem w1:∀ (l:List (List Nat)) (i:Nat) (rest:List Pt) (r:List V) (J:Hp) (k:Nat),ps.length≤SZ→ps.drop i=l.map some++rest→(rest=[]∨∃ y,rest=none::y)→r.length+l.length≤10→l.length < k→
    whileS tW bW1 k (JS ps i c6) (r::J)=some (.nx,JS ps (i+l.length) c6,(r++l.map .str)::J)
  |[]=>fun i rest r J k hz h hr Z hk=>by
    obtain ⟨k,rfl⟩:=suc hk
    have e:=tW_off (c6:=c6) (H:=r::J) hz h hr
    simp only [whileS,e]
    simp
  |a::l=>fun i rest r J k hz h hr hl hk=>by
    obtain ⟨k,rfl⟩:=suc hk
    obtain ⟨h1,h2,h3⟩:=drop_cons h
    have e:=tW_on (c6:=c6) (H:=r::J) hz h1
    have hx:=idx_tv hz h1
    simp only [List.length_cons] at hl hk
    have e2:bW1 (JS ps i c6) (r::J)=some (.nx,JS ps (i+1) c6,(r++[.str a])::J):=by
      have:r.length < SZ:=by simp only [SZ];omega
      simp [bW1,seqS,expS,addF,bin,getV,z_idf,hx,tv,this,augS,cInt,iaddV]
    have ih:=w1 l (i+1) rest (r++[.str a]) J k hz h2 hr (by simp;omega) (by omega)
    simp only [whileS,e,e2,ih]
    simp
    omega
theorem w3 {H0:Hp}:∀ (l:List (List Nat)) (i:Nat) (rest:List Pt) (x:List V) (k:Nat),ps.length≤SZ→ps.drop i=l.map some++rest→(rest=[]∨∃ y,rest=none::y)→x.length+l.length≤10→l.length < k→
    whileS tW bW3 k (JS ps i (some (.lst H0.length))) (H0++[x])=some (.nx,JS ps (i+l.length) (some (.lst H0.length)),H0++[x++l.map .str])
  |[]=>fun i rest x k hz h hr Z hk=>by
    obtain ⟨k,rfl⟩:=suc hk
    have e:=tW_off (c6:=some (.lst H0.length)) (H:=H0++[x]) hz h hr
    simp only [whileS,e]
    simp
  |a::l=>fun i rest x k hz h hr hl hk=>by
    obtain ⟨k,rfl⟩:=suc hk
    obtain ⟨h1,h2,h3⟩:=drop_cons h
    have e:=tW_on (c6:=some (.lst H0.length)) (H:=H0++[x]) hz h1
    have hx:=idx_tv hz h1
    simp only [List.length_cons] at hl hk
    have e2:bW3 (JS ps i (some (.lst H0.length))) (H0++[x])=some (.nx,JS ps (i+1) (some (.lst H0.length)),H0++[x++[.str a]]):=by
      have:x.length < SZ:=by simp only [SZ];omega
      simp [bW3,seqS,expS,apdF,bin,getV,z_idf,hx,tv,this,augS,cInt,iaddV]
    have ih:=w3 (H0:=H0) l (i+1) rest (x++[.str a]) k hz h2 hr (by simp;omega) (by omega)
    simp only [whileS,e,e2,ih]
    simp
    omega
theorem strs_map:∀ l:List (List Nat),strs? (l.map .str)=some l
  |[]=>rfl
  |a::l=>by show (strs? (l.map .str)).map _=_;rw [strs_map l];rfl
theorem joinV_map {l:List (List Nat)} (h:sizeL l≤SZ):joinV [] (l.map .str)=some (.str l.flatten):=by
  simp [joinV,strs_map,h,joinL_nil]
theorem sizeL_flatten:∀ l:List (List Nat),sizeL l=l.flatten.length
  |[]=>rfl
  |a::l=>by simp [sizeL,sizeL_flatten l]
theorem seg_last0 (hz:ps.length≤SZ) {r:List V} {J:Hp} {K:Nat} (hr:r.length < 20) (h:ps.drop i=[none]):bO K (JS ps i c6) (r::J)=some (.br,JS ps (i+1) c6,(r++[.str [46,42]])::J):=by
  obtain ⟨h1,h2,h3⟩:=drop_cons h
  have h4:=drop_nil h2
  have hx:=idx_tv hz h1
  have hr':r.length < SZ:=by simp only [SZ];omega
  have e1:asrS (tB (bin isV (bin idxV (getV 0) (getV 4)) (getV 1))) (JS ps i c6) (r::J)=some (.nx,JS ps i c6,r::J):=by
    simp [asrS,tB,bin,getV,z_idf,hx,tv,z_iss,z_trb]
  have e2:augS 4 iaddV (cInt 1) (JS ps i c6) (r::J)=some (.nx,JS ps (i+1) c6,r::J):=by
    simp [augS,cInt,iaddV]
  have e3:(ifS (tB (bin eqV (getV 4) (getV 5))) (seqS (expS (addF 3 (cStr [46,42]))) brkS) nopS) (JS ps (i+1) c6) (r::J)=some (.br,JS ps (i+1) c6,(r++[.str [46,42]])::J):=by
    have:((i+1:Nat):Int)=ps.length:=by omega
    simp only [JS,this]
    simp [ifS,tB,bin,getV,eqV,z_eqi,z_trb,seqS,expS,addF,cStr,hr',brkS]
  rw [bO,seqS_nx e1,seqS_nx e2]
  exact seqS_br e3
theorem seg_open (hz:ps.length≤SZ) {r:List V} {J:Hp} {K:Nat} {s:List (List Nat)} {a:List Nat} {rest:List Pt} (hs:(a::s).length≤10) (hK:10 < K) (hsz:sizeL (a::s)≤100) (h:ps.drop i=none::((a::s).map some++rest)) (hrest:rest=[]∨∃ y,rest=none::y) :
    bO K (JS ps i c6) (r::J)=(ifS (tB (bin eqV (getV 4) (getV 5))) (seqS (expS (addF 3 (cStr [46,42]))) (expS (addF 3 (getV 6)))) (expS (addF 3 (fsF [(cStr [40,63,62,46,42,63]),(fmtF (getV 6)),(cStr [41])] [])))) (JS ps (i+1+(a::s).length) (some (.str (a::s).flatten))) (r::(J++[(a::s).map .str])):=by
  obtain ⟨h1,h2,h3⟩:=drop_cons h
  obtain ⟨h4,h5,h6⟩:=drop_cons (x:=some a) (y:=s.map some++rest) (by simpa using h2)
  have hx:=idx_tv hz h1
  have hy:=idx_tv hz h4
  have e1:asrS (tB (bin isV (bin idxV (getV 0) (getV 4)) (getV 1))) (JS ps i c6) (r::J)=some (.nx,JS ps i c6,r::J):=by
    simp [asrS,tB,bin,getV,z_idf,hx,tv,z_iss,z_trb]
  have e2:augS 4 iaddV (cInt 1) (JS ps i c6) (r::J)=some (.nx,JS ps (i+1) c6,r::J):=by
    simp [augS,cInt,iaddV]
  have e3:(ifS (tB (bin eqV (getV 4) (getV 5))) (seqS (expS (addF 3 (cStr [46,42]))) brkS) nopS) (JS ps (i+1) c6) (r::J)=some (.nx,JS ps (i+1) c6,r::J):=by
    have:¬ ((i+1:Nat):Int)=ps.length:=by omega
    have:(((i+1:Nat):Int) == (ps.length:Int))=false:=by simpa using this
    simp only [ifS,tB,bin,getV,JS,gs,gz,eqV,z_eqi,this,Option.map_some,z_trb,nopS]
  have e4:asrS (tB (bin isNotV (bin idxV (getV 0) (getV 4)) (getV 1))) (JS ps (i+1) c6) (r::J)=some (.nx,JS ps (i+1) c6,r::J):=by
    simp only [asrS,tB,bin,getV,JS,gs,gz,z_idf,hy,tv,z_nisc,z_trb]
  have e5:setS 6 (newF []) (JS ps (i+1) c6) (r::J)=some (.nx,JS ps (i+1) (some (.lst (r::J).length)),(r::J)++[[]]):=rfl
  have e6:=w3 (ps:=ps) (H0:=r::J) (a::s) (i+1) rest [] K hz h2 hrest (by simpa using hs) (by omega)
  have e7:setS 6 (smF joinG (cStr []) [(getV 6)]) (JS ps (i+1+(a::s).length) (some (.lst (r::J).length))) ((r::J)++[[]++(a::s).map .str])=some (.nx,JS ps (i+1+(a::s).length) (some (.str (a::s).flatten)),r::(J++[(a::s).map .str])):=by
    have hj:=joinV_map (l:=a::s) (by simp only [SZ];omega)
    have hc:((r::J)++[[]++(a::s).map V.str])[(r::J).length]?=some ((a::s).map .str):=by rw [List.getElem?_append_right (Nat.le_refl _)];simp
    simp only [setS,smF,cStr,seqF,getV,JS,gs,gz,z_jol,z_obn,hc,hj]
    rfl
  rw [bO,seqS_nx e1,seqS_nx e2,seqS_nx e3,seqS_nx e4,seqS_nx e5,seqS_nx e6,seqS_nx e7]
theorem seg_last (hz:ps.length≤SZ) {r:List V} {J:Hp} {K:Nat} {s:List (List Nat)} {a:List Nat} (hr:r.length < 20) (hs:(a::s).length≤10) (hK:10 < K) (hsz:sizeL (a::s)≤100) (h:ps.drop i=none::(a::s).map some) :
    bO K (JS ps i c6) (r::J)=some (.nx,JS ps (i+1+(a::s).length) (some (.str (a::s).flatten)),(r++[.str [46,42],.str (a::s).flatten])::(J++[(a::s).map .str])):=by
  rw [seg_open (rest:=[]) hz hs hK hsz (by simpa using h) (.inl rfl)]
  have hl:ps.length=i+1+(a::s).length:=by
    have:=congrArg List.length h
    simp at this ⊢;omega
  have hr1:r.length < SZ:=by simp only [SZ];omega
  have hr2:r.length+1 < SZ:=by simp only [SZ];omega
  simp only [← hl,JS]
  simp [ifS,tB,bin,getV,eqV,z_eqi,z_trb,seqS,expS,addF,cStr,hr1,hr2]
theorem seg_mid (hz:ps.length≤SZ) {r:List V} {J:Hp} {K:Nat} {s:List (List Nat)} {a:List Nat} {y:List Pt} (hr:r.length < 20) (hs:(a::s).length≤10) (hK:10 < K) (hsz:sizeL (a::s)≤100) (h:ps.drop i=none::((a::s).map some++none::y)) :
    bO K (JS ps i c6) (r::J)=some (.nx,JS ps (i+1+(a::s).length) (some (.str (a::s).flatten)),(r++[.str ([40,63,62,46,42,63]++(a::s).flatten++[41])])::(J++[(a::s).map .str])):=by
  rw [seg_open (rest:=none::y) hz hs hK hsz h (.inr ⟨_,rfl⟩)]
  have hl:¬ ((i+1+(a::s).length:Nat):Int)=ps.length:=by
    have:=congrArg List.length h
    simp at this ⊢;omega
  have hl:(((i+1+(a::s).length:Nat):Int) == (ps.length:Int))=false:=by simpa using hl
  have hr1:r.length < SZ:=by simp only [SZ];omega
  rw [sizeL_flatten] at hsz
  generalize (a::s).flatten=x at *
  generalize (i+1+(a::s).length)=m at *
  have h1:x.length≤SZ:=by simp only [SZ];omega
  have h2:6+x.length≤SZ:=by simp only [SZ];omega
  have h3:6+x.length+1≤SZ:=by simp only [SZ];omega
  have h0:6≤SZ:=by decide
  have h4:x.length+1+1+1+1+1+1+1≤SZ:=by simp only [SZ];omega
  have e1:(ifS (tB (bin eqV (getV 4) (getV 5))) (seqS (expS (addF 3 (cStr [46,42]))) (expS (addF 3 (getV 6)))) (expS (addF 3 (fsF [(cStr [40,63,62,46,42,63]),(fmtF (getV 6)),(cStr [41])] [])))) (JS ps m (some (.str x))) (r::(J++[(a::s).map .str]))=(expS (addF 3 (fsF [(cStr [40,63,62,46,42,63]),(fmtF (getV 6)),(cStr [41])] []))) (JS ps m (some (.str x))) (r::(J++[(a::s).map .str])):=by
    simp only [ifS,tB,bin,getV,JS,gs,gz,eqV,z_eqi,hl,Option.map_some,z_trb]
  rw [e1]
  have e2:(fsF [(cStr [40,63,62,46,42,63]),(fmtF (getV 6)),(cStr [41])] []) (JS ps m (some (.str x))) (r::(J++[(a::s).map .str]))=some (.str ([40,63,62,46,42,63]++x++[41]),r::(J++[(a::s).map .str])):=by
    simp [fsF,cStr,fmtF,getV,h0,h1,h2,h4]
  simp only [expS,addF,JS,gs,gz,e2,hr1,if_true,List.set_cons_zero]
noncomputable def jsegs:List (List (List Nat))→List (List Nat)
  |[]=>[]
  |[s]=>if s=[] then [[46,42]] else [[46,42],s.flatten]
  |s::s'::ss=>([40,63,62,46,42,63]++s.flatten++[41])::jsegs (s'::ss)
noncomputable def gl (segs:List (List (List Nat))):List Pt:=segs.flatMap fun s=>none::s.map some
noncomputable def full:List (List (List Nat))→Prop
  |[]=>True
  |[_]=>True
  |s::s'::ss=>s ≠ []∧full (s'::ss)
theorem tO_on (h:i < ps.length):tO (JS ps i c6) H=some (true,H):=by
  simp [tO,tB,bin,getV,z_lt,h,z_trb]
theorem tO_off (h:ps.length≤i):tO (JS ps i c6) H=some (false,H):=by
  simp [tO,tB,bin,getV,z_lt,z_trb];omega
theorem outer (hz:ps.length≤SZ) {K:Nat} (hK:10 < K):∀ (segs:List (List (List Nat))) (i:Nat) (r:List V) (J:Hp) (k:Nat) (c6:Option V),full segs→ps.drop i=gl segs→i≤ps.length→segs.length < k→r.length+segs.length < 15→(∀ s ∈ segs,s.length≤10∧sizeL s≤100)→
    ∃ c6' J',whileS tO (bO K) k (JS ps i c6) (r::J)=some (.nx,JS ps ps.length c6',(r++(jsegs segs).map .str)::J')
  |[]=>fun i r J k c6 Z h hi hk Z Z=>⟨c6,J,by
      obtain ⟨k,rfl⟩:=suc hk
      have:i=ps.length:=by have:=drop_nil (ps:=ps) h;omega
      subst this
      have e:=tO_off (ps:=ps) (c6:=c6) (H:=r::J) (Nat.le_refl _)
      simp only [whileS,e]
      simp [jsegs]⟩
  |[[]]=>fun i r J k c6 Z h Z hk hr Z=>⟨c6,J,by
      obtain ⟨k,rfl⟩:=suc hk
      have hd:ps.drop i=[none]:=by simpa [gl] using h
      obtain ⟨_,h2,h3⟩:=drop_cons hd
      have h4:=drop_nil h2
      have e:=tO_on (c6:=c6) (H:=r::J) h3
      have e2:=seg_last0 (c6:=c6) (J:=J) (K:=K) hz (r:=r) (by simp at hr;omega) hd
      have:i+1=ps.length:=by omega
      rw [this] at e2
      simp only [whileS,e,e2]
      simp [jsegs]⟩
  |[a::s]=>fun i r J k c6 Z h Z hk hr hs=>by
      obtain ⟨k,rfl⟩:=suc2 hk
      have hd:ps.drop i=none::(a::s).map some:=by simpa [gl] using h
      obtain ⟨hs1,hs2⟩:=hs _ (List.mem_cons_self ..)
      have e:=tO_on (c6:=c6) (H:=r::J) (drop_cons hd).2.2
      have e2:=seg_last (c6:=c6) (J:=J) (K:=K) hz (r:=r) (by simp at hr;omega) hs1 hK hs2 hd
      have hl:i+1+(a::s).length=ps.length:=by
        have:=congrArg List.length hd
        simp at this ⊢;omega
      rw [hl] at e2
      have e3:=tO_off (ps:=ps) (c6:=(some (.str (a::s).flatten))) (H:=(r++[.str [46,42],.str (a::s).flatten])::(J++[(a::s).map .str])) (Nat.le_refl _)
      refine ⟨some (.str (a::s).flatten),J++[(a::s).map .str],?_⟩
      simp only [whileS,e,e2,e3]
      simp [jsegs]
  |(a::s)::s'::ss=>fun i r J k c6 hf h Z hk hr hs=>by
      obtain ⟨k,rfl⟩:=suc hk
      have hd:ps.drop i=none::((a::s).map some++none::(s'.map some++gl ss)):=by simpa [gl] using h
      obtain ⟨hs1,hs2⟩:=hs _ (List.mem_cons_self ..)
      have e:=tO_on (c6:=c6) (H:=r::J) (drop_cons hd).2.2
      simp only [List.length_cons] at hr hk
      have e2:=seg_mid (c6:=c6) (J:=J) (K:=K) hz (r:=r) (by omega) hs1 hK hs2 hd
      have hd2:ps.drop (i+1+(a::s).length)=gl (s'::ss):=by
        rw [← List.drop_drop,(drop_cons hd).2.1]
        rw [show (a::s).length=((a::s).map some).length by simp,List.drop_left]
        simp [gl]
      have hi2:i+1+(a::s).length≤ps.length:=by
        have:=congrArg List.length hd
        simp at this ⊢;omega
      obtain ⟨c6',J',ih⟩:=outer hz hK (s'::ss) (i+1+(a::s).length) (r++[.str ([40,63,62,46,42,63]++(a::s).flatten++[41])]) (J++[(a::s).map .str]) k (some (.str (a::s).flatten)) hf.2 hd2 hi2 (by simp;omega) (by simp;omega) (fun x hx=>hs x (List.mem_cons_of_mem _ hx))
      refine ⟨c6',J',?_⟩
      simp only [whileS,e,e2,ih]
      simp [jsegs]
  |[]::s'::ss=>fun Z Z Z Z Z hf Z Z Z Z Z=>absurd rfl hf.1
noncomputable def jtext (s0:List (List Nat)) (segs:List (List (List Nat))):List Nat:=[40,63,115,58]++(s0++jsegs segs).flatten++[41,92,90]
theorem join_row {s0:List (List Nat)} {segs:List (List (List Nat))} (hf:full segs) (h0:s0.length≤8) (hs:∀ s ∈ segs,s.length≤10∧sizeL s≤100) (hl:segs.length≤4) (hz:(s0.map some++gl segs).length≤100) (hj:sizeL (s0++jsegs segs)≤1000) :
    g_join_translated_parts 1000 [.frz ((s0.map some++gl segs).map tv),.star] []=some (.str (jtext s0 segs),[]):=by
  generalize hps:s0.map some++gl segs=ps at *
  have hzz:ps.length≤SZ:=by simp only [SZ];omega
  have hr:gl segs=[]∨∃ y,gl segs=none::y:=by
    cases segs with
    |nil=>exact .inl rfl
    |cons s ss=>exact .inr ⟨s.map some++gl ss,by simp [gl]⟩
  have e1:setS 2 (newF []) [some (.frz (ps.map tv)),some .star,none,none,none,none,none] []=some (.nx,[some (.frz (ps.map tv)),some .star,some (.lst 0),none,none,none,none],[[]]):=rfl
  have e2:setS 3 (bndF (getV 2)) [some (.frz (ps.map tv)),some .star,some (.lst 0),none,none,none,none] [[]]=some (.nx,[some (.frz (ps.map tv)),some .star,some (.lst 0),some (.app 0),none,none,none],[[]]):=rfl
  have e3:setSw (tupF [(cInt 0),(calF lenG [(getV 0)])]) [4,5] [some (.frz (ps.map tv)),some .star,some (.lst 0),some (.app 0),none,none,none] [[]]=some (.nx,JS ps 0 none,[[]]):=by
    refine setSw_ok (l:=[.int 0,.int ps.length]) ?_ rfl
    simp only [tupF,seqF,cInt,calF,getV,gz,z_lenf,List.length_map,hzz,if_true]
  have e4:=w1 (ps:=ps) (c6:=none) s0 0 (gl segs) [] [] 1000 hzz (by simp [hps]) hr (by simp;omega) (by omega)
  have hd:ps.drop (0+s0.length)=gl segs:=by
    rw [← hps,show 0+s0.length=(s0.map some).length by simp,List.drop_left]
  have hi:0+s0.length≤ps.length:=by rw [← hps];simp
  obtain ⟨c6',J',e5⟩:=outer (ps:=ps) hzz (K:=1000) (by omega) segs (0+s0.length) ([]++s0.map .str) [] 1000 none hf hd hi (by omega) (by simp;omega) hs
  have e6:asrS (tB (bin eqV (getV 4) (getV 5))) (JS ps ps.length c6') (([]++s0.map .str++(jsegs segs).map .str)::J')=some (.nx,JS ps ps.length c6',([]++s0.map .str++(jsegs segs).map .str)::J'):=by
    simp [asrS,tB,bin,getV,eqV,z_eqi,z_trb]
  have hjv:=joinV_map (l:=s0++jsegs segs) (by simp only [SZ];omega)
  have ec:([]++s0.map V.str++(jsegs segs).map V.str)=(s0++jsegs segs).map .str:=by simp
  have e7:setS 2 (smF joinG (cStr []) [(getV 2)]) (JS ps ps.length c6') (([]++s0.map .str++(jsegs segs).map .str)::J')=some (.nx,(JS ps ps.length c6').set 2 (some (.str (s0++jsegs segs).flatten)),((s0++jsegs segs).map .str)::J'):=by
    rw [ec]
    simp only [setS,smF,cStr,seqF,getV,JS,gs,gz,z_jol,z_obn,hjv]
  have hx:(s0++jsegs segs).flatten.length≤1000:=by rw [← sizeL_flatten];exact hj
  have e8:(fsF [(cStr [40,63,115,58]),(fmtF (getV 2)),(cStr [41,92,90])] []) ((JS ps ps.length c6').set 2 (some (.str (s0++jsegs segs).flatten))) (((s0++jsegs segs).map .str)::J')=some (.str (jtext s0 segs),((s0++jsegs segs).map .str)::J'):=by
    unfold jtext
    generalize (s0++jsegs segs).flatten=x at *
    have h1:x.length≤SZ:=by simp only [SZ];omega
    have h0:4≤SZ:=by decide
    have h2:x.length+4≤SZ:=by simp only [SZ];omega
    have h2':4+x.length≤SZ:=by simp only [SZ];omega
    have h3:x.length+1+1+1+1+3≤SZ:=by simp only [SZ];omega
    simp [fsF,cStr,fmtF,getV,h0,h1,h2',h3]
  show runF 5 (f_join_translated_parts 1000) _ _=_
  refine run0 (ρ:=(JS ps ps.length c6').set 2 (some (.str (s0++jsegs segs).flatten))) (H1:=((s0++jsegs segs).map .str)::J') ?_ rfl
  show f_join_translated_parts 1000 [some (.frz (ps.map tv)),some .star,none,none,none,none,none] []=_
  rw [f_join_eq,seqS_nx e1,seqS_nx e2,seqS_nx e3,seqS_nx e4,seqS_nx e5,seqS_nx e6,seqS_nx e7]
  exact ret_rt e8
end
theorem idxL_last {α:Type} {l:List α} {v:α} (hz:l.length+1≤SZ):idxL (l++[v]) (-1)=some v:=by
  unfold idxL
  simp only [List.length_append,List.length_cons,List.length_nil]
  rw [if_pos (by omega),if_pos (by omega),if_pos (by omega)]
  have:(-1+((l.length+(0+1):Nat):Int)).toNat=l.length:=by omega
  rw [this];simp
theorem putL_last {l:List V} {v w:V}:putL (l++[v]) (-1) w=some (l++[w]):=by
  unfold putL
  simp only [List.length_append,List.length_cons,List.length_nil]
  rw [if_neg (by omega),if_pos (by omega)]
  have:(-1+((l.length+(0+1):Nat):Int)).toNat=l.length:=by omega
  rw [this];simp
noncomputable abbrev TX (P:List Nat) (c3 c4:Option V):Rho:=[some (.str P),some .star,some (.lst 0),c3,c4]
noncomputable def tX:FS:=(ifS (tB (bin isV (getV 3) (getV 1))) (expS (apdF (getV 2) (cStr []))) (putS (bin addV (bin idxV (getV 2) (negF (cInt 1))) (getV 3)) (getV 2) (negF (cInt 1))))
noncomputable def tX2:FS:=(seqS (ifS (tB (bin eqV (calF lenG [(getV 2)]) (cInt 1))) (retS (bin addV (bin addV (cStr [40,63,115,58]) (bin idxV (getV 2) (cInt 0))) (cStr [41,92,90]))) nopS) (seqS (setS 4 (compF (noL (itF (slc (getV 2) (cInt 1) (negF (cInt 1))))) 1 [] (leafC (bin addV (bin addV (cStr [40,63,62,46,42,63]) (getV 0)) (cStr [41]))) (tgN 0) [])) (retS (bin addV (bin addV (bin addV (bin addV (bin addV (cStr [40,63,115,58]) (bin idxV (getV 2) (cInt 0))) (smF joinG (cStr []) [(getV 4)])) (cStr [46,42])) (bin idxV (getV 2) (negF (cInt 1)))) (cStr [41,92,90])))))
theorem f_text_eq (K:Nat):f_law_text K=seqS (setS 2 (newF [(cStr [])])) (seqS (frS (itF (funF (g_utranslate K) [(getV 0),(getV 1),(cStr [46])])) (tgN 3) tX) tX2):=rfl
noncomputable def runsT:List Pt→List (List Nat)→List Nat→List (List Nat)
  |[],r,x=>r++[x]
  |none::ps,r,x=>runsT ps (r++[x]) []
  |some t::ps,r,x=>runsT ps r (x++t)
noncomputable def sizeP:List Pt→Nat
  |[]=>0
  |none::ps=>sizeP ps
  |some t::ps=>t.length+sizeP ps
theorem loopX {P:List Nat} {c4:Option V}:∀ (ps:List Pt) (r:List (List Nat)) (x:List Nat) (c3:Option V),r.length+ps.length≤100→x.length+sizeP ps≤1000→
    ∃ c3',forGo (tgN 3) tX (ps.map tv) (TX P c3 c4) [(r++[x]).map .str]=some (.nx,TX P c3' c4,[(runsT ps r x).map .str])
  |[]=>fun r x c3 Z Z=>⟨c3,rfl⟩
  |none::ps=>fun r x c3 h1 h2=>by
    simp only [List.length_cons] at h1
    simp only [sizeP] at h2
    obtain ⟨c3',ih⟩:=loopX (P:=P) (c4:=c4) ps (r++[x]) [] (some .star) (by simp;omega) (by simp;omega)
    refine ⟨c3',?_⟩
    have hl:r.length+1 < SZ:=by simp only [SZ];omega
    have e:tX (TX P (some .star) c4) [(r++[x]).map .str]=some (.nx,TX P (some .star) c4,[((r++[x])++[[]]).map .str]):=by
      simp [tX,ifS,tB,bin,getV,z_iss,z_trb,expS,apdF,cStr,hl]
    show (match tgN 3 (tv none) (TX P c3 c4) with | some ρ1=>(match tX ρ1 [(r++[x]).map .str] with | some (.nx,ρ2,H2)=>forGo (tgN 3) tX (ps.map tv) ρ2 H2 | some (.ct,ρ2,H2)=>forGo (tgN 3) tX (ps.map tv) ρ2 H2 | some (.br,ρ2,H2)=>some (.nx,ρ2,H2) | some (.rt v,ρ2,H2)=>some (.rt v,ρ2,H2) | none=>none) | none=>none)=_
    have e0:tgN 3 (tv none) (TX P c3 c4)=some (TX P (some .star) c4):=rfl
    simp only [e0,e]
    exact ih
  |some t::ps=>fun r x c3 h1 h2=>by
    simp only [List.length_cons] at h1
    simp only [sizeP] at h2
    obtain ⟨c3',ih⟩:=loopX (P:=P) (c4:=c4) ps r (x++t) (some (.str t)) (by omega) (by simp;omega)
    refine ⟨c3',?_⟩
    have hl:(r.map V.str).length+1≤SZ:=by simp only [SZ,List.length_map];omega
    have hx:x.length+t.length≤SZ:=by simp only [SZ];omega
    have e:tX (TX P (some (.str t)) c4) [(r++[x]).map .str]=some (.nx,TX P (some (.str t)) c4,[(r++[x++t]).map .str]):=by
      simp [tX,ifS,tB,bin,getV,z_isc,z_trb,z_obn,putS,negF,cInt,z_idl,idxL_last hl,z_adds,hx,putL_last]
    show (match tgN 3 (tv (some t)) (TX P c3 c4) with | some ρ1=>(match tX ρ1 [(r++[x]).map .str] with | some (.nx,ρ2,H2)=>forGo (tgN 3) tX (ps.map tv) ρ2 H2 | some (.ct,ρ2,H2)=>forGo (tgN 3) tX (ps.map tv) ρ2 H2 | some (.br,ρ2,H2)=>some (.nx,ρ2,H2) | some (.rt v,ρ2,H2)=>some (.rt v,ρ2,H2) | none=>none) | none=>none)=_
    have e0:tgN 3 (tv (some t)) (TX P c3 c4)=some (TX P (some (.str t)) c4):=rfl
    simp only [e0,e]
    exact ih
theorem runsT_str:∀ (s:List (List Nat)) (rest:List Pt) (r:List (List Nat)) (x:List Nat),runsT (s.map some++rest) r x=runsT rest r (x++s.flatten)
  |[],rest,r,x=>by simp
  |a::s,rest,r,x=>by
    simp only [List.map_cons,List.cons_append,runsT,runsT_str s]
    simp
theorem runsT_gl:∀ (segs:List (List (List Nat))) (r:List (List Nat)) (x:List Nat),runsT (gl segs) r x=r++x::segs.map List.flatten
  |[],r,x=>rfl
  |s::ss,r,x=>by
    have:gl (s::ss)=none::(s.map some++gl ss):=by simp [gl]
    rw [this]
    simp only [runsT,runsT_str,runsT_gl ss]
    simp
theorem sizeP_app:∀ (a b:List Pt),sizeP (a++b)=sizeP a+sizeP b
  |[],b=>by simp [sizeP]
  |none::a,b=>by simp only [List.cons_append,sizeP,sizeP_app a b]
  |some t::a,b=>by simp only [List.cons_append,sizeP,sizeP_app a b];omega
theorem bin_add {f1 f2:FE} {ρ:Rho} {H:Hp} {a b:List Nat} (h1:f1 ρ H=some (.str a,H)) (h2:f2 ρ H=some (.str b,H)) (hz:a.length+b.length≤SZ):bin addV f1 f2 ρ H=some (.str (a++b),H):=by
  simp [bin,h1,h2,z_adds,hz]
theorem text_end0 {P x:List Nat} {c3:Option V} (hx:x.length≤1000):tX2 (TX P c3 none) [[x].map .str]=some (.rt (.str ([40,63,115,58]++x++[41,92,90])),TX P c3 none,[[x].map .str]):=by
  have e:tB (bin eqV (calF lenG [(getV 2)]) (cInt 1)) (TX P c3 none) [[x].map .str]=some (true,[[x].map .str]):=rfl
  have h1:bin idxV (getV 2) (cInt 0) (TX P c3 none) [[x].map .str]=some (.str x,[[x].map .str]):=rfl
  have h2:=bin_add (f1:=cStr [40,63,115,58]) (f2:=bin idxV (getV 2) (cInt 0)) (ρ:=TX P c3 none) (H:=[[x].map .str]) (a:=[40,63,115,58]) (b:=x) rfl h1 (by simp only [SZ,List.length_cons,List.length_nil];omega)
  have h3:=bin_add (f2:=cStr [41,92,90]) (b:=[41,92,90]) h2 rfl (by simp only [SZ,List.length_append,List.length_cons,List.length_nil];omega)
  simp only [tX2,seqS,ifS,e,retS,h3]
theorem text_end {P x:List Nat} {c3:Option V} {mid:List (List Nat)} {y:List Nat} {held:List (List Nat)} {C:Hp} (hC:C=[([x]++mid++[y]).map .str]) (hx:x.length≤1000) (hy:y.length≤1000) (hh:sizeL held≤1000) (hm:mid.length≤10)
    (hc:compF (noL (itF (slc (getV 2) (cInt 1) (negF (cInt 1))))) 1 [] (leafC (bin addV (bin addV (cStr [40,63,62,46,42,63]) (getV 0)) (cStr [41]))) (tgN 0) [] (TX P c3 none) C=some (.frz (held.map .str),C)) :
    tX2 (TX P c3 none) C=some (.rt (.str ([40,63,115,58]++x++held.flatten++[46,42]++y++[41,92,90])),TX P c3 (some (.frz (held.map .str))),C):=by
  have hlen:(([x]++mid++[y]).map V.str).length=mid.length+2:=by simp
  have hz:mid.length+2≤SZ:=by simp only [SZ];omega
  have e:tB (bin eqV (calF lenG [(getV 2)]) (cInt 1)) (TX P c3 none) C=some (false,C):=by
    have:(((mid.length+2:Nat):Int) == 1)=false:=by simp;omega
    subst hC
    simp only [tB,bin,calF,seqF,getV,TX,gs,gz,z_lenl,z_obn,hlen,hz,if_true,cInt,eqV,z_eqi,this,Option.map_some,z_trb]
  have e2:setS 4 (compF (noL (itF (slc (getV 2) (cInt 1) (negF (cInt 1))))) 1 [] (leafC (bin addV (bin addV (cStr [40,63,62,46,42,63]) (getV 0)) (cStr [41]))) (tgN 0) []) (TX P c3 none) C=some (.nx,TX P c3 (some (.frz (held.map .str))),C):=by
    simp only [setS,hc];rfl
  have h1:bin idxV (getV 2) (cInt 0) (TX P c3 (some (.frz (held.map .str)))) C=some (.str x,C):=by
    have:idxL (([x]++mid++[y]).map V.str) ((0:Nat):Int)=some (.str x):=by
      rw [idxL_ge (by rw [hlen];exact hz)];rfl
    subst hC
    simp only [bin,getV,TX,gs,gz,cInt,z_idl,z_obn]
    rw [show (0:Int)=((0:Nat):Int) from rfl,this]
  have h5:bin idxV (getV 2) (negF (cInt 1)) (TX P c3 (some (.frz (held.map .str)))) C=some (.str y,C):=by
    have:idxL (([x]++mid++[y]).map V.str) (-1)=some (.str y):=by
      rw [List.map_append]
      exact idxL_last (by simp only [SZ,List.length_map,List.length_append,List.length_cons,List.length_nil];omega)
    subst hC
    simp only [bin,getV,TX,gs,gz,negF,cInt,z_idl,z_obn,this]
  have h3:smF joinG (cStr []) [(getV 4)] (TX P c3 (some (.frz (held.map .str)))) C=some (.str held.flatten,C):=by
    have hj:=joinV_map (l:=held) (by simp only [SZ];omega)
    simp only [smF,cStr,seqF,getV,TX,gs,gz,z_jof,hj]
  rw [sizeL_flatten] at hh
  have g1:=bin_add (f1:=cStr [40,63,115,58]) (a:=[40,63,115,58]) rfl h1 (by simp only [SZ,List.length_cons,List.length_nil];omega)
  have g2:=bin_add g1 h3 (by simp only [SZ,List.length_append,List.length_cons,List.length_nil];omega)
  have g3:=bin_add (f2:=cStr [46,42]) (b:=[46,42]) g2 rfl (by simp only [SZ,List.length_append,List.length_cons,List.length_nil];omega)
  have g4:=bin_add g3 h5 (by simp only [SZ,List.length_append,List.length_cons,List.length_nil];omega)
  have g5:=bin_add (f2:=cStr [41,92,90]) (b:=[41,92,90]) g4 rfl (by simp only [SZ,List.length_append,List.length_cons,List.length_nil];omega)
  have e1:(ifS (tB (bin eqV (calF lenG [(getV 2)]) (cInt 1))) (retS (bin addV (bin addV (cStr [40,63,115,58]) (bin idxV (getV 2) (cInt 0))) (cStr [41,92,90]))) nopS) (TX P c3 none) C=some (.nx,TX P c3 none,C):=by
    simp only [ifS,e,nopS]
  rw [tX2,seqS_nx e1,seqS_nx e2]
  simp only [retS,g5]
theorem text_tail {P:List Nat} {c3:Option V} {s0:List (List Nat)}:∀ {segs:List (List (List Nat))},segs.length≤2→sizeL s0≤100→(∀ s ∈ segs,sizeL s≤100)→∃ ρ' H',tX2 (TX P c3 none) [(s0.flatten::segs.map List.flatten).map .str]=some (.rt (.str (jtext s0 segs)),ρ',H')
  |[],_,h0,_=>by
    have e:=text_end0 (P:=P) (c3:=c3) (x:=s0.flatten) (by rw [← sizeL_flatten];omega)
    have:jtext s0 []=[40,63,115,58]++s0.flatten++[41,92,90]:=by simp [jtext,jsegs]
    rw [this]
    exact ⟨_,_,e⟩
  |[s],_,h0,hs=>by
    have hs:=hs s (List.mem_cons_self ..)
    rw [sizeL_flatten] at hs h0
    have hc:compF (noL (itF (slc (getV 2) (cInt 1) (negF (cInt 1))))) 1 [] (leafC (bin addV (bin addV (cStr [40,63,62,46,42,63]) (getV 0)) (cStr [41]))) (tgN 0) [] (TX P c3 none) [([s0.flatten]++[]++[s.flatten]).map .str]=some (.frz (([]:List (List Nat)).map .str),[([s0.flatten]++[]++[s.flatten]).map .str]):=by kernel_rfl
    have e:=text_end (P:=P) (c3:=c3) (x:=s0.flatten) (mid:=[]) (y:=s.flatten) (held:=[]) rfl (by omega) (by omega) (by decide) (by decide) hc
    have:jtext s0 [s]=[40,63,115,58]++s0.flatten++([]:List (List Nat)).flatten++[46,42]++s.flatten++[41,92,90]:=by
      unfold jtext jsegs
      split
      · rename_i h;subst h;simp
      · simp
    rw [this]
    exact ⟨_,_,e⟩
  |[s,s'],_,h0,hs=>by
    have hs1:=hs s (List.mem_cons_self ..)
    have hs2:=hs s' (List.mem_cons_of_mem _ (List.mem_cons_self ..))
    rw [sizeL_flatten] at hs1 hs2 h0
    have hc:∀ x y:List Nat,x.length≤100→compF (noL (itF (slc (getV 2) (cInt 1) (negF (cInt 1))))) 1 [] (leafC (bin addV (bin addV (cStr [40,63,62,46,42,63]) (getV 0)) (cStr [41]))) (tgN 0) [] (TX P c3 none) [([s0.flatten]++[x]++[y]).map .str]=some (.frz ([[40,63,62,46,42,63]++x++[41]].map .str),[([s0.flatten]++[x]++[y]).map .str]):=by
      intro x y hx
      have g1:=bin_add (f1:=cStr [40,63,62,46,42,63]) (f2:=getV 0) (ρ:=[some (.str x)]) (H:=[]) (a:=[40,63,62,46,42,63]) (b:=x) rfl rfl (by simp only [SZ,List.length_cons,List.length_nil];omega)
      have g2:=bin_add (f2:=cStr [41]) (b:=[41]) g1 rfl (by simp only [SZ,List.length_append,List.length_cons,List.length_nil];omega)
      have e:noL (itF (slc (getV 2) (cInt 1) (negF (cInt 1)))) (TX P c3 none) [([s0.flatten]++[x]++[y]).map .str]=some ([.str x],[([s0.flatten]++[x]++[y]).map .str]):=by kernel_rfl
      have e2:compGo (leafC (bin addV (bin addV (cStr [40,63,62,46,42,63]) (getV 0)) (cStr [41]))) (tgN 0) [] [.str x] [none]=some ([.str ([40,63,62,46,42,63]++x++[41])],[some (.str x)]):=by
        exact cg_on rfl rfl (leaf_ok g2) rfl
      have e3:List.replicate 1 none++List.map (freeV (TX P c3 none)) []=[none]:=rfl
      unfold compF
      rw [e,e3]
      simp only [e2]
      rfl
    have hz:sizeL [[40,63,62,46,42,63]++s.flatten++[41]]≤1000:=by
      simp only [sizeL,List.length_append,List.length_cons,List.length_nil];omega
    have e:=text_end (P:=P) (c3:=c3) (x:=s0.flatten) (mid:=[s.flatten]) (y:=s'.flatten) (held:=[[40,63,62,46,42,63]++s.flatten++[41]]) rfl (by omega) (by omega) hz (by simp) (hc s.flatten s'.flatten hs1)
    have:jtext s0 [s,s']=[40,63,115,58]++s0.flatten++[[40,63,62,46,42,63]++s.flatten++[41]].flatten++[46,42]++s'.flatten++[41,92,90]:=by
      unfold jtext jsegs jsegs
      split
      · rename_i h;subst h;simp
      · simp
    rw [this]
    exact ⟨_,_,e⟩
  |_::_::_::_,h,_,_=>absurd h (by simp)
theorem text_row {P:List Nat} {s0:List (List Nat)} {segs:List (List (List Nat))} (hu:g_utranslate 1000 [.str P,.star,.str [46]] []=some (.frz ((s0.map some++gl segs).map tv),[]))
    (hs2:segs.length≤2) (h0:sizeL s0≤100) (hs:∀ s ∈ segs,sizeL s≤100) (hl:(s0.map some++gl segs).length≤4) (hp:sizeP (s0.map some++gl segs)≤1000):g_law_text 1000 [.str P] []=some (.str (jtext s0 segs),[]):=by
  have e1:setS 2 (newF [(cStr [])]) [some (.str P),some .star,none,none,none] []=some (.nx,TX P none none,[[[]].map .str]):=rfl
  obtain ⟨c3',e2⟩:=loopX (P:=P) (c4:=none) (s0.map some++gl segs) [] [] none (by simp only [List.length_nil];omega) (by simpa using hp)
  rw [runsT_str,runsT_gl] at e2
  have e3:itF (funF (g_utranslate 1000) [(getV 0),(getV 1),(cStr [46])]) (TX P none none) [[[]].map .str]=some ((s0.map some++gl segs).map tv,[[[]].map .str]):=by
    have:seqF [(getV 0),(getV 1),(cStr [46])] (TX P none none) [[[]].map .str]=some ([.str P,.star,.str [46]],[[[]].map .str]):=rfl
    exact it_ok (funF_ok this rfl hu)
  have e4:frS (itF (funF (g_utranslate 1000) [(getV 0),(getV 1),(cStr [46])])) (tgN 3) tX (TX P none none) [[[]].map .str]=some (.nx,TX P c3' none,[(s0.flatten::segs.map List.flatten).map .str]):=by
    simp only [frS,e3]
    simpa using e2
  obtain ⟨ρ',H',e5⟩:=text_tail (P:=P) (c3:=c3') (s0:=s0) hs2 h0 hs
  show starG 1 4 1 (f_law_text 1000) _ _=_
  have e:f_law_text 1000 [some (.str P),some .star,none,none,none] []=some (Fl.rt (V.str (jtext s0 segs)),ρ',H'):=by
    rw [f_text_eq,seqS_nx e1,seqS_nx e4]
    exact e5
  exact star_ok ⟨rfl,rfl,rfl⟩ e rfl rfl
theorem joined_row {P T:List Nat} {r:List V} (hu:g_utranslate 1000 [.str P,.star,.str [46]] []=some (.frz r,[])) (hn:noLsts r=true) (hj:g_join_translated_parts 1000 [.frz r,.star] []=some (.str T,[])) :
    g_law_joined 1000 [.str P] []=some (.str T,[]):=by
  have e0:seqF [(getV 0),(getV 1),(cStr [46])] [some (.str P),some .star] []=some ([.str P,.star,.str [46]],[]):=rfl
  have e1:funF (g_utranslate 1000) [(getV 0),(getV 1),(cStr [46])] [some (.str P),some .star] []=some (.frz r,[]):=by
    simp only [funF,e0,hu];rfl
  have e2:seqF [(funF (g_utranslate 1000) [(getV 0),(getV 1),(cStr [46])]),(getV 1)] [some (.str P),some .star] []=some ([.frz r,.star],[]):=by
    simp only [seqF,e1];rfl
  have e3:noLsts [.frz r,.star]=true:=noLsts_mk hn rfl
  have e4:f_law_joined 1000 [some (.str P),some .star] []=some (.rt (.str T),[some (.str P),some .star],[]):=by
    simp only [f_law_joined,retS,funF,e2,e3,if_true,hj]
  show starG 1 1 1 (f_law_joined 1000) _ _=_
  exact star_ok ⟨rfl,rfl,rfl⟩ e4 rfl rfl
theorem translate_row {P T:List Nat} {r:List V} (hu:g_utranslate 1000 [.str P,.star,.str [46]] []=some (.frz r,[])) (hn:noLsts r=true) (hj:g_join_translated_parts 1000 [.frz r,.star] []=some (.str T,[])) :
    g_translate 1000 [.str P] []=some (.str T,[]):=by
  have e0:seqF [(getV 0),(getV 1),(cStr [46])] [some (.str P),some .star,none] []=some ([.str P,.star,.str [46]],[]):=rfl
  have e1:setS 2 (funF (g_utranslate 1000) [(getV 0),(getV 1),(cStr [46])]) [some (.str P),some .star,none] []=some (.nx,[some (.str P),some .star,some (.frz r)],[]):=by
    simp only [setS,funF,e0,hu];rfl
  have e2:seqF [(getV 2),(getV 1)] [some (.str P),some .star,some (.frz r)] []=some ([.frz r,.star],[]):=rfl
  have e3:noLsts [.frz r,.star]=true:=noLsts_mk hn rfl
  have e4:f_translate 1000 [some (.str P),some .star,none] []=some (.rt (.str T),[some (.str P),some .star,some (.frz r)],[]):=by
    rw [f_translate,seqS_nx e1]
    simp only [retS,funF,e2,e3,if_true,hj]
  show starG 1 2 1 (f_translate 1000) _ _=_
  exact star_ok ⟨rfl,rfl,rfl⟩ e4 rfl rfl
theorem gl_app (a b:List (List (List Nat))):gl (a++b)=gl a++gl b:=by simp [gl]
theorem gl_one (s:List (List Nat)):gl [s]=none::s.map some:=by simp [gl]
noncomputable def Sh (r:List Pt):Prop:=(∃ s0:List (List Nat),r=s0.map some)∨∃ (s0:List (List Nat)) (init:List (List (List Nat))) (s:List (List Nat)),r=s0.map some++gl (init++[s])∧∀ x ∈ init,x ≠ []
theorem last_some:∀ (s:List (List Nat)) (t:List Nat) (p:List Pt),(p++(t::s).map some).getLast? ≠ some none
  |[],t,p=>by simp
  |a::s,t,p=>by
    have:=last_some s a (p++[some t])
    simpa using this
theorem Sh.add {r:List Pt} (h:Sh r) (x:Pt):Sh (addP r x):=by
  cases x with
  |some t=>
    rcases h with ⟨s0,rfl⟩ | ⟨s0,init,s,rfl,h⟩
    · exact .inl ⟨s0++[t],by simp [addP]⟩
    · exact .inr ⟨s0,init,s++[t],by simp [addP,gl_app,gl_one],h⟩
  |none=>
    rcases h with ⟨s0,rfl⟩ | ⟨s0,init,s,rfl,h⟩
    · have:(s0.map (some:List Nat→Pt)).getLast? ≠ some none:=by
        cases s0 with
        |nil=>simp
        |cons t s=>have:=last_some s t [];simpa using this
      refine .inr ⟨s0,[],[],?_,by simp⟩
      unfold addP
      rw [if_neg this];simp [gl]
    · cases s with
      |nil=>
        have:(s0.map some++gl (init++[[]])).getLast? = some none:=by rw [gl_app,gl_one];simp [List.getLast?_append]
        refine .inr ⟨s0,init,[],?_,h⟩
        unfold addP
        rw [if_pos this]
      |cons t s=>
        have:(s0.map some++gl (init++[t::s])).getLast? ≠ some none:=by
          have:=last_some s t (s0.map some++gl init++[none])
          rw [gl_app,gl_one]
          simpa using this
        refine .inr ⟨s0,init++[t::s],[],?_,?_⟩
        · unfold addP
          rw [if_neg this]
          rw [gl_app,gl_app,gl_app,gl_one,gl_one];simp
        · intro x hx
          rcases List.mem_append.mp hx with hx | hx
          · exact h x hx
          · simp at hx;subst hx;simp
theorem foldP_Sh:∀ (l r:List Pt),Sh r→Sh (l.foldl addP r)
  |[],r,h=>h
  |x::l,r,h=>foldP_Sh l _ (h.add x)
theorem full_of:∀ (init:List (List (List Nat))) (s:List (List Nat)),(∀ x ∈ init,x ≠ [])→full (init++[s])
  |[],s,_=>trivial
  |[a],s,h=>⟨h a (by simp),trivial⟩
  |a::b::l,s,h=>⟨h a (by simp),full_of (b::l) s fun x hx=>h x (List.mem_cons_of_mem _ hx)⟩
theorem Sh.out {r:List Pt} (h:Sh r):∃ (s0:List (List Nat)) (segs:List (List (List Nat))),r=s0.map some++gl segs∧full segs:=by
  rcases h with ⟨s0,rfl⟩ | ⟨s0,init,s,rfl,h⟩
  · exact ⟨s0,[],by simp [gl],trivial⟩
  · exact ⟨s0,_,rfl,full_of init s h⟩
noncomputable def Bd (r:List Pt):Prop:=∀ t,some t ∈ r→t.length≤8
theorem part_bd:∀ c ∈ pcs,∀ t,c.part=some t→t.length≤8:=pcs_all (fun t h=>by cases h) (fun t h=>by cases h;decide) (fun t h=>by cases h;decide) (fun t h=>by cases h;decide) (fun t h=>by cases h;decide) (fun t h=>by cases h;decide) (fun t h=>by cases h;decide) (fun t h=>by cases h;decide) (fun t h=>by cases h;decide) (fun t h=>by cases h;decide) (fun t h=>by cases h;decide) (fun t h=>by cases h;decide) (fun t h=>by cases h;decide) (fun t h=>by cases h;decide) (fun t h=>by cases h;decide) (fun t h=>by cases h;decide)
theorem foldP_bd:∀ (l r:List Pt),Bd l→Bd r→Bd (l.foldl addP r)∧(l.foldl addP r).length≤r.length+l.length
  |[],r,_,h=>⟨h,by simp⟩
  |x::l,r,hl,h=>by
    have hb:Bd (addP r x):=by
      intro t ht
      cases x with
      |none=>
        have ht:some t ∈ (if r.getLast? = some none then r else r++[none]):=ht
        split at ht
        · exact h t ht
        · rcases List.mem_append.mp ht with ht | ht
          · exact h t ht
          · simp at ht
      |some u=>
        have ht:some t ∈ r++[some u]:=ht
        rcases List.mem_append.mp ht with ht | ht
        · exact h t ht
        · simp at ht;subst ht;exact hl t (by simp)
    obtain ⟨h1,h2⟩:=foldP_bd l (addP r x) (fun t ht=>hl t (by simp [ht])) hb
    have:=addP_len r x
    refine ⟨h1,?_⟩
    simp only [List.foldl_cons,List.length_cons];omega
theorem sizeL_bd:∀ s:List (List Nat),(∀ t ∈ s,t.length≤8)→sizeL s≤8 * s.length
  |[],_=>by simp [sizeL]
  |a::s,h=>by
    have h1:=h a (by simp)
    have h2:=sizeL_bd s fun t ht=>h t (by simp [ht])
    simp only [sizeL,List.length_cons];omega
theorem sizeP_bd:∀ s:List Pt,Bd s→sizeP s≤8 * s.length
  |[],_=>by simp [sizeP]
  |none::s,h=>by
    have h2:=sizeP_bd s fun t ht=>h t (by simp [ht])
    simp only [sizeP,List.length_cons];omega
  |some a::s,h=>by
    have h1:=h a (by simp)
    have h2:=sizeP_bd s fun t ht=>h t (by simp [ht])
    simp only [sizeP,List.length_cons];omega
theorem sizeL_app:∀ a b:List (List Nat),sizeL (a++b)=sizeL a+sizeL b
  |[],b=>by simp [sizeL]
  |x::a,b=>by simp only [List.cons_append,sizeL,sizeL_app a b];omega
theorem jsegs_size:∀ segs:List (List (List Nat)),(∀ s ∈ segs,sizeL s≤90)→sizeL (jsegs segs)≤100 * segs.length
  |[],_=>by simp [jsegs,sizeL]
  |[s],h=>by
    have h1:=h s (by simp)
    rw [sizeL_flatten] at h1
    unfold jsegs
    split
    · simp only [sizeL,List.length_cons,List.length_nil];omega
    · simp only [sizeL,List.length_cons,List.length_nil];omega
  |s::s'::ss,h=>by
    have h1:=h s (by simp)
    rw [sizeL_flatten] at h1
    have h2:=jsegs_size (s'::ss) fun x hx=>h x (List.mem_cons_of_mem _ hx)
    simp only [jsegs,sizeL,List.length_append,List.length_cons,List.length_nil] at h2 ⊢;omega
theorem segs_two:∀ segs:List (List (List Nat)),full segs→(gl segs).length≤4→segs.length≤2
  |[],_,_=>by simp
  |[_],_,_=>by simp
  |[_,_],_,_=>by simp
  |a::b::c::l,h,hl=>by
    have h1:=List.length_pos_iff.mpr h.1
    have h2:=List.length_pos_iff.mpr h.2.1
    simp [gl] at hl;omega
theorem texts_row (R:List Pc) (hR:∀ c ∈ R,c ∈ pcs) (hl:R.length≤4):∃ T,g_law_text 1000 [.str (R.flatMap Pc.q)] []=some (.str T,[])∧g_translate 1000 [.str (R.flatMap Pc.q)] []=some (.str T,[])∧g_law_joined 1000 [.str (R.flatMap Pc.q)] []=some (.str T,[])∧T.length≤2000:=by
  have hq:∀ c ∈ pcs,c.q.length≤6:=pcs_all (by decide) (by decide) (by decide) (by decide) (by decide) (by decide) (by decide) (by decide) (by decide) (by decide) (by decide) (by decide) (by decide) (by decide) (by decide) (by decide)
  have hz:∀ R:List Pc,(∀ c ∈ R,c ∈ pcs)→(R.flatMap Pc.q).length≤6 * R.length:=by
    intro R
    induction R with
    |nil=>intro _;simp
    |cons c R ih=>
      intro h
      have h1:=hq c (h c (by simp))
      have h2:=ih fun x hx=>h x (by simp [hx])
      rw [List.flatMap_cons,List.length_append,List.length_cons];omega
  have hzR:=hz R hR
  have hu:=utranslate_row R hR hl (by simp only [SZ];omega)
  obtain ⟨hb,hlen⟩:=foldP_bd (R.map Pc.part) [] (fun t ht=>by
    obtain ⟨c,hc,e⟩:=List.mem_map.mp ht
    exact part_bd c (hR c hc) t e) (fun t ht=>by simp at ht)
  obtain ⟨s0,segs,hps,hf⟩:=(foldP_Sh (R.map Pc.part) [] (.inl ⟨[],rfl⟩)).out
  have hps':partsOf R=s0.map some++gl segs:=hps
  have hlen':(partsOf R).length≤4:=by
    unfold partsOf
    simp only [List.length_nil,List.length_map] at hlen;omega
  have hb':Bd (partsOf R):=hb
  rw [hps'] at hu hlen' hb'
  have h0b:sizeL s0≤8 * s0.length:=sizeL_bd s0 fun t ht=>hb' t (List.mem_append_left _ (List.mem_map_of_mem ht))
  have hl0:s0.length≤4:=by simp at hlen';omega
  have hlg:(gl segs).length≤4:=by simp at hlen' ⊢;omega
  have hsb:∀ s ∈ segs,s.length≤4∧sizeL s≤32:=by
    intro s hs
    have hm:∀ x ∈ s.map some,x ∈ gl segs:=fun x hx=>List.mem_flatMap.mpr ⟨s,hs,List.mem_cons_of_mem _ hx⟩
    have h1:sizeL s≤8 * s.length:=sizeL_bd s fun t ht=>hb' t (List.mem_append_right _ (hm _ (List.mem_map_of_mem ht)))
    have h2:s.length≤(gl segs).length:=by
      obtain ⟨a,b,rfl⟩:=List.append_of_mem hs
      simp [gl];omega
    omega
  have h2:=segs_two segs hf hlg
  have hjs:=jsegs_size segs fun s hs=>by have:=(hsb s hs).2;omega
  have hj:=join_row (s0:=s0) hf (by omega) (fun s hs=>by have:=hsb s hs;omega) (by omega) (by omega) (by rw [sizeL_app];omega)
  have hn:=tv_noLst (s0.map some++gl segs)
  refine ⟨jtext s0 segs,text_row hu h2 (by omega) (fun s hs=>by have:=(hsb s hs).2;omega) hlen' (by have:=sizeP_bd _ hb';omega),translate_row hu hn hj,joined_row hu hn hj,?_⟩
  have:(s0++jsegs segs).flatten.length≤500:=by rw [← sizeL_flatten,sizeL_app];omega
  simp only [jtext,List.length_append,List.length_cons,List.length_nil] at this ⊢;omega
theorem gst {ks:List Nat} {p x i:Nat} (hp:p < ks.length):(ks.set p x).getD i 0=if i=p then x else ks.getD i 0:=by
  simp only [List.getD_eq_getElem?_getD,List.getElem?_set]
  by_cases h:p=i
  · subst h;simp [hp]
  · simp [h,Ne.symm h]
noncomputable def HA (v:List Nat) (p:Nat):Prop:=∀ i,0 < i→i < v.length→i ≠ p→v.getD ((i - 1) / 2) 0≤v.getD i 0
noncomputable def HA' (v:List Nat) (p:Nat):Prop:=∀ i,0 < i→i < v.length→i ≠ p→(i - 1) / 2 ≠ p→v.getD ((i - 1) / 2) 0≤v.getD i 0
noncomputable def HB (v:List Nat) (p:Nat):Prop:=∀ c,c < v.length→0 < c→(c - 1) / 2=p→0 < p→v.getD ((p - 1) / 2) 0≤v.getD c 0
noncomputable def HeapL (v:List Nat):Prop:=∀ i,0 < i→i < v.length→v.getD ((i - 1) / 2) 0≤v.getD i 0
theorem set_perm {ks:List Nat} {i j x:Nat} (hi:i < ks.length) (hj:j < ks.length) (hij:i ≠ j):((ks.set i (ks.getD j 0)).set j x).Perm (ks.set i x):=by
  have:=List.set_set_perm (as:=ks.set i x) (i:=i) (j:=j) (by simpa using hi) (by simpa using hj)
  simp only [List.getElem_set_self,List.getElem_set_ne hij,List.set_set] at this
  have e:ks.getD j 0=ks[j]:=by simp [List.getD_eq_getElem?_getD,hj]
  rw [e];exact this
theorem nodup_ne {v:List Nat} (h:v.Nodup) {i j:Nat} (hi:i < v.length) (hj:j < v.length) (hij:i ≠ j):v.getD i 0 ≠ v.getD j 0:=by
  intro e
  simp only [List.getD_eq_getElem?_getD,List.getElem?_eq_getElem hi,List.getElem?_eq_getElem hj,Option.getD_some] at e
  exact hij ((List.getElem_inj h).mp e)
theorem getD_mem {v:List Nat} {i:Nat} (hi:i < v.length):v.getD i 0 ∈ v:=by
  simp only [List.getD_eq_getElem?_getD,List.getElem?_eq_getElem hi,Option.getD_some];exact List.getElem_mem hi
theorem par_lt {j:Nat} (h:¬ j=0):(j - 1) / 2 < j:=Nat.lt_of_le_of_lt (Nat.div_le_self _ _) (Nat.sub_lt (Nat.pos_of_ne_zero h) Nat.one_pos)
theorem HeapL.min {v:List Nat} (h:HeapL v):∀ j,j < v.length→v.getD 0 0≤v.getD j 0:=by
  intro j
  induction j using Nat.strongRecOn with
  |_ j ih=>
    intro hj
    by_cases h0:j=0
    · subst h0;exact Nat.le_refl _
    · exact Nat.le_trans (ih ((j - 1) / 2) (par_lt h0) (Nat.lt_trans (par_lt h0) hj)) (h j (Nat.pos_of_ne_zero h0) hj)
structure Els (el:Nat→V) (m:Nat):Prop where
  lt:∀ i j,i < m→j < m→i ≠ j→∀ H,ltV H (el i) (el j)=some (.bool (decide (i < j)))
  no:∀ i,i < m→(el i).noLst=true
section
variable {el:Nat→V} {m:Nat}
theorem idx_el {ks:List Nat} {i:Nat} (hz:ks.length≤1000) (hi:i < ks.length):idxL (ks.map el) (i:Int)=some (el (ks.getD i 0)):=by
  rw [idxL_ge (by simp only [List.length_map,SZ];omega)]
  simp [hi,List.getD_eq_getElem?_getD]
theorem put_el {ks:List Nat} {i x:Nat} (hz:ks.length≤1000) (hi:i < ks.length):putL (ks.map el) (i:Int) (el x)=some ((ks.set i x).map el):=by
  unfold putL
  rw [if_pos (by omega),if_pos (by simp only [List.length_map];omega)]
  simp [List.map_set]
theorem els_no (h:Els el m):∀ {ks:List Nat},(∀ y ∈ ks,y < m)→noLsts (ks.map el)=true
  |[],_=>rfl
  |a::ks,hk=>by
    simp only [List.map_cons,nlc,h.no a (hk a (by simp)),Bool.true_and]
    exact els_no h fun y hy=>hk y (by simp [hy])
noncomputable abbrev SDs (el:Nat→V) (pos x:Nat) (c4 c5:Option V):Rho:=[some (.lst 0),some (.int 0),some (.int pos),some (el x),c4,c5]
noncomputable def tSD:FT:=(tB (bin gtV (getV 2) (getV 1)))
noncomputable def bSD:FS:=(seqS (setS 4 (bin shrV (bin subV (getV 2) (cInt 1)) (cInt 1))) (seqS (setS 5 (bin idxV (getV 0) (getV 4))) (seqS (ifS (tB (bin ltV (getV 3) (getV 5))) (seqS (putS (getV 5) (getV 0) (getV 2)) (seqS (setS 2 (getV 4)) cntS)) nopS) brkS)))
theorem f_sd_eq (K:Nat):f_siftdown K=seqS (setS 3 (bin idxV (getV 0) (getV 2))) (seqS (whileS tSD bSD K) (putS (getV 3) (getV 0) (getV 2))):=rfl
theorem sd_head {pos x:Nat} {c4 c5:Option V} {ks:List Nat} (hz:ks.length≤1000) (hp:pos < ks.length) (h0:0 < pos) :
    bSD (SDs el pos x c4 c5) [ks.map el]=(seqS (ifS (tB (bin ltV (getV 3) (getV 5))) (seqS (putS (getV 5) (getV 0) (getV 2)) (seqS (setS 2 (getV 4)) cntS)) nopS) brkS) (SDs el pos x (some (.int ((pos - 1) / 2:Nat))) (some (el (ks.getD ((pos - 1) / 2) 0)))) [ks.map el]:=by
  have e1:setS 4 (bin shrV (bin subV (getV 2) (cInt 1)) (cInt 1)) (SDs el pos x c4 c5) [ks.map el]=some (.nx,SDs el pos x (some (.int ((pos - 1) / 2:Nat))) c5,[ks.map el]):=by
    have:((pos:Int) - 1).fdiv (2 ^ (1:Int).toNat)=((pos - 1) / 2:Nat):=by
      rw [Int.fdiv_eq_ediv_of_nonneg _ (by decide)]
      have:(2:Int) ^ (1:Int).toNat=2:=rfl
      rw [this];omega
    simp only [setS,bin,getV,SDs,gs,gz,subV,cInt,shrV,this,if_pos (by decide:(0:Int)≤1)]
    rfl
  have e2:setS 5 (bin idxV (getV 0) (getV 4)) (SDs el pos x (some (.int ((pos - 1) / 2:Nat))) c5) [ks.map el]=some (.nx,SDs el pos x (some (.int ((pos - 1) / 2:Nat))) (some (el (ks.getD ((pos - 1) / 2) 0))),[ks.map el]):=by
    have:=idx_el (el:=el) (i:=(pos - 1) / 2) hz (by omega)
    simp only [setS,bin,getV,SDs,gs,gz,z_idl,z_obn,this]
    rfl
  rw [bSD,seqS_nx e1,seqS_nx e2]
theorem sd_loop (E:Els el m) {x:Nat}:∀ (k pos:Nat) (ks:List Nat) (c4 c5:Option V),pos < ks.length→pos < k→ks.length≤1000→(∀ y ∈ ks.set pos x,y < m)→(ks.set pos x).Nodup→HA (ks.set pos x) pos→HB (ks.set pos x) pos→
    ∃ (pos':Nat) (ks':List Nat) (c4' c5':Option V),whileS tSD bSD k (SDs el pos x c4 c5) [ks.map el]=some (.nx,SDs el pos' x c4' c5',[ks'.map el])∧pos' < ks'.length∧ks'.length≤1000∧(ks'.set pos' x).Perm (ks.set pos x)∧HeapL (ks'.set pos' x)
  |0=>fun Z Z Z Z Z h=>absurd h (Nat.not_lt_zero _)
  |k+1=>fun pos ks c4 c5 hp hk hz hm hn ha hb=>by
    by_cases h0:pos=0
    · subst h0
      have e:tSD (SDs el 0 x c4 c5) [ks.map el]=some (false,[ks.map el]):=rfl
      refine ⟨0,ks,c4,c5,by simp only [whileS,e],hp,hz,List.Perm.refl _,fun i h1 h2=>ha i h1 h2 (by omega)⟩
    · have e:tSD (SDs el pos x c4 c5) [ks.map el]=some (true,[ks.map el]):=by
        have:(0:Int) < pos:=by omega
        simp [tSD,tB,bin,getV,z_gt,z_trb]
        omega
      have eb:=sd_head (el:=el) (x:=x) (c4:=c4) (c5:=c5) hz hp (by omega)
      have hpp:(pos - 1) / 2 < pos:=by omega
      have hxy:x ≠ ks.getD ((pos - 1) / 2) 0:=by
        have:=nodup_ne hn (i:=pos) (j:=(pos - 1) / 2) (by simpa using hp) (by simp;omega) (by omega)
        rw [gst hp,gst hp,if_pos rfl,if_neg (by omega)] at this
        exact this
      have hxm:x < m:=hm x (by
        have:=getD_mem (v:=ks.set pos x) (i:=pos) (by simpa using hp)
        rwa [gst hp,if_pos rfl] at this)
      have hym:ks.getD ((pos - 1) / 2) 0 < m:=hm _ (by
        have:=getD_mem (v:=ks.set pos x) (i:=(pos - 1) / 2) (by simp;omega)
        rwa [gst hp,if_neg (by omega)] at this)
      have hlt:=E.lt x (ks.getD ((pos - 1) / 2) 0) hxm hym hxy
      by_cases hl:x < ks.getD ((pos - 1) / 2) 0
      · -- the parent comes down
        have eb2:bSD (SDs el pos x c4 c5) [ks.map el]=some (.ct,SDs el ((pos - 1) / 2) x (some (.int ((pos - 1) / 2:Nat))) (some (el (ks.getD ((pos - 1) / 2) 0))),[(ks.set pos (ks.getD ((pos - 1) / 2) 0)).map el]):=by
          rw [eb]
          have hput:=put_el (el:=el) (x:=ks.getD ((pos - 1) / 2) 0) hz hp
          simp only [seqS,ifS,tB,bin,getV,SDs,gs,gz,hlt,hl,decide_true,z_trb,putS,hput,setS,cntS]
          rfl
        generalize hy:ks.getD ((pos - 1) / 2) 0=y at *
        have hp1:pos < (ks.set pos y).length:=by simpa using hp
        have hp2:(pos - 1) / 2 < (ks.set pos y).length:=by simp;omega
        have hperm:((ks.set pos y).set ((pos - 1) / 2) x).Perm (ks.set pos x):=by
          have:=set_perm (x:=x) hp (by omega:(pos - 1) / 2 < ks.length) (by omega)
          rwa [hy] at this
        have hv:∀ j,((ks.set pos y).set ((pos - 1) / 2) x).getD j 0=if j=(pos - 1) / 2 then x else if j=pos then y else ks.getD j 0:=fun j=>by rw [gst hp2,gst hp]
        have hh:∀ j,(ks.set pos x).getD j 0=if j=pos then x else ks.getD j 0:=fun j=>gst hp
        have hlen:((ks.set pos y).set ((pos - 1) / 2) x).length=ks.length:=by simp
        have ha2:HA ((ks.set pos y).set ((pos - 1) / 2) x) ((pos - 1) / 2):=by
          intro i h1 h2 h3
          rw [hlen] at h2
          rw [hv,hv,if_neg h3]
          have hai:=ha i h1 (by simpa using h2)
          have hbi:=hb i (by simpa using h2) h1
          rw [hh,hh] at hai hbi
          by_cases hi:i=pos
          · subst hi;rw [if_pos rfl,if_pos rfl];omega
          · have hai:=hai hi
            rw [if_neg hi] at hai hbi ⊢
            by_cases h4:(i - 1) / 2=(pos - 1) / 2
            · rw [if_pos h4]
              rw [h4,if_neg (by omega),hy] at hai
              omega
            · rw [if_neg h4]
              by_cases h5:(i - 1) / 2=pos
              · rw [if_pos h5]
                have:=hbi h5 (by omega)
                rw [if_neg (by omega),hy] at this
                exact this
              · rw [if_neg h5]
                rw [if_neg h5] at hai
                exact hai
        have hb2:HB ((ks.set pos y).set ((pos - 1) / 2) x) ((pos - 1) / 2):=by
          intro c h1 h2 h3 h4
          rw [hlen] at h1
          rw [hv,hv,if_neg (by omega),if_neg (by omega),if_neg (by omega)]
          have hpa:=ha ((pos - 1) / 2) h4 (by simp;omega) (by omega)
          rw [hh,hh,if_neg (by omega),if_neg (by omega),hy] at hpa
          by_cases hc:c=pos
          · rw [if_pos hc];exact hpa
          · rw [if_neg hc]
            have hac:=ha c h2 (by simpa using h1) hc
            rw [hh,hh,h3,if_neg (by omega),if_neg hc,hy] at hac
            omega
        obtain ⟨pos',ks',d4,d5,r1,r2,r3,r4,r5⟩:=sd_loop E k ((pos - 1) / 2) (ks.set pos y) (some (.int ((pos - 1) / 2:Nat))) (some (el y)) hp2 (by omega) (by simpa using hz) (fun z hz=>hm z (hperm.mem_iff.mp hz)) (hperm.nodup_iff.mpr hn) ha2 hb2
        refine ⟨pos',ks',d4,d5,?_,r2,r3,r4.trans hperm,r5⟩
        simp only [whileS,e,eb2,r1]
      · have eb2:bSD (SDs el pos x c4 c5) [ks.map el]=some (.br,SDs el pos x (some (.int ((pos - 1) / 2:Nat))) (some (el (ks.getD ((pos - 1) / 2) 0))),[ks.map el]):=by
          rw [eb]
          simp only [seqS,ifS,tB,bin,getV,SDs,gs,gz,hlt,hl,decide_false,z_trb,nopS,brkS]
        refine ⟨pos,ks,some (.int ((pos - 1) / 2:Nat)),some (el (ks.getD ((pos - 1) / 2) 0)),by simp only [whileS,e,eb2],hp,hz,List.Perm.refl _,?_⟩
        intro i h1 h2
        by_cases hi:i=pos
        · subst hi
          rw [gst hp,gst hp,if_pos rfl,if_neg (by omega)];omega
        · exact ha i h1 h2 hi
theorem siftdown_heap (E:Els el m) {ks:List Nat} {pos:Nat} (hp:pos < ks.length) (hz:ks.length≤900) (hm:∀ y ∈ ks,y < m) (hn:ks.Nodup) (ha:HA ks pos) (hb:HB ks pos) :
    ∃ ks':List Nat,g_siftdown 1000 [.lst 0,.int 0,.int pos] [ks.map el]=some (.none,[ks'.map el])∧ks'.Perm ks∧HeapL ks':=by
  have hself:ks.set pos (ks.getD pos 0)=ks:=by
    rw [List.getD_eq_getElem?_getD,List.getElem?_eq_getElem hp];simp
  obtain ⟨pos',ks',c4,c5,r1,r2,r3,r4,r5⟩:=sd_loop E (x:=ks.getD pos 0) 1000 pos ks none none hp (by omega) (by omega) (by rw [hself];exact hm) (by rw [hself];exact hn) (by rw [hself];exact ha) (by rw [hself];exact hb)
  rw [hself] at r4
  refine ⟨_,?_,r4,r5⟩
  have e1:setS 3 (bin idxV (getV 0) (getV 2)) [some (.lst 0),some (.int 0),some (.int pos),none,none,none] [ks.map el]=some (.nx,SDs el pos (ks.getD pos 0) none none,[ks.map el]):=by
    have:=idx_el (el:=el) (i:=pos) (ks:=ks) (by omega) hp
    simp only [setS,bin,getV,gs,gz,z_idl,z_obn,this]
    rfl
  have e3:putS (getV 3) (getV 0) (getV 2) (SDs el pos' (ks.getD pos 0) c4 c5) [ks'.map el]=some (.nx,SDs el pos' (ks.getD pos 0) c4 c5,[(ks'.set pos' (ks.getD pos 0)).map el]):=by
    have:=put_el (el:=el) (x:=ks.getD pos 0) r3 r2
    simp only [putS,getV,SDs,gs,gz,this]
    rfl
  have e:f_siftdown 1000 [some (.lst 0),some (.int 0),some (.int pos),none,none,none] [ks.map el]=some (.nx,SDs el pos' (ks.getD pos 0) c4 c5,[(ks'.set pos' (ks.getD pos 0)).map el]):=by
    rw [f_sd_eq,seqS_nx e1,seqS_nx r1,e3]
  have hno:noLsts ((ks'.set pos' (ks.getD pos 0)).map el)=true:=els_no E fun y hy=>hm y (r4.mem_iff.mp hy)
  show runF 3 (f_siftdown 1000) _ _=_
  exact run1n e hno
end
section
variable {el:Nat→V} {m:Nat}
noncomputable abbrev SUs (el:Nat→V) (pos n x:Nat) (ch:Int) (c6:Option V):Rho:=[some (.lst 0),some (.int pos),some (.int n),some (.int 0),some (el x),some (.int ch),c6]
noncomputable def tSU:FT:=(tB (bin ltV (getV 5) (getV 2)))
noncomputable def bSU1:FS:=(ifS (tAnd [(tB (bin ltV (getV 6) (getV 2))),(tNot (tB (bin ltV (bin idxV (getV 0) (getV 5)) (bin idxV (getV 0) (getV 6)))))]) (setS 5 (getV 6)) nopS)
noncomputable def bSU2:FS:=(seqS (putS (bin idxV (getV 0) (getV 5)) (getV 0) (getV 1)) (seqS (setS 1 (getV 5)) (setS 5 (bin addV (bin mulV (cInt 2) (getV 1)) (cInt 1)))))
noncomputable def bSU:FS:=(seqS (setS 6 (bin addV (getV 5) (cInt 1))) (seqS bSU1 bSU2))
theorem f_su_eq (K:Nat):f_siftup K=seqS (setS 2 (calF lenG [(getV 0)])) (seqS (setS 3 (getV 1)) (seqS (setS 4 (bin idxV (getV 0) (getV 1))) (seqS (setS 5 (bin addV (bin mulV (cInt 2) (getV 1)) (cInt 1))) (seqS (whileS tSU bSU K) (seqS (putS (getV 4) (getV 0) (getV 1)) (expS (funcF (g_siftdown K) [(getV 0),(getV 3),(getV 1)]))))))):=rfl
noncomputable def kid (ks:List Nat) (p:Nat):Nat:=if 2 * p+2 < ks.length∧¬ ks.getD (2 * p+1) 0 < ks.getD (2 * p+2) 0 then 2 * p+2 else 2 * p+1
theorem su_step (E:Els el m) {pos x:Nat} {c6:Option V} {ks:List Nat} (hz:ks.length≤1000) (hc:2 * pos+1 < ks.length) (hm:∀ y ∈ ks.set pos x,y < m) (hn:(ks.set pos x).Nodup) :
    bSU (SUs el pos ks.length x ((2 * pos+1:Nat):Int) c6) [ks.map el]=some (.nx,SUs el (kid ks pos) ks.length x ((2 * kid ks pos+1:Nat):Int) (some (.int ((2 * pos+2:Nat):Int))),[(ks.set pos (ks.getD (kid ks pos) 0)).map el]):=by
  have hp:pos < ks.length:=by omega
  have e1:setS 6 (bin addV (getV 5) (cInt 1)) (SUs el pos ks.length x ((2 * pos+1:Nat):Int) c6) [ks.map el]=some (.nx,SUs el pos ks.length x ((2 * pos+1:Nat):Int) (some (.int ((2 * pos+2:Nat):Int))),[ks.map el]):=rfl
  have h1:=idx_el (el:=el) (i:=2 * pos+1) hz hc
  have e2:bSU1 (SUs el pos ks.length x ((2 * pos+1:Nat):Int) (some (.int ((2 * pos+2:Nat):Int)))) [ks.map el]=some (.nx,SUs el pos ks.length x ((kid ks pos:Nat):Int) (some (.int ((2 * pos+2:Nat):Int))),[ks.map el]):=by
    by_cases hr:2 * pos+2 < ks.length
    · have h2:=idx_el (el:=el) (i:=2 * pos+2) hz hr
      have hne:ks.getD (2 * pos+1) 0 ≠ ks.getD (2 * pos+2) 0:=by
        have:=nodup_ne hn (i:=2 * pos+1) (j:=2 * pos+2) (by simpa using hc) (by simpa using hr) (by omega)
        rwa [gst hp,gst hp,if_neg (by omega),if_neg (by omega)] at this
      have m1:ks.getD (2 * pos+1) 0 < m:=hm _ (by
        have:=getD_mem (v:=ks.set pos x) (i:=2 * pos+1) (by simpa using hc)
        rwa [gst hp,if_neg (by omega)] at this)
      have m2:ks.getD (2 * pos+2) 0 < m:=hm _ (by
        have:=getD_mem (v:=ks.set pos x) (i:=2 * pos+2) (by simpa using hr)
        rwa [gst hp,if_neg (by omega)] at this)
      have hlt:=E.lt _ _ m1 m2 hne
      have hri:((2 * pos+2:Nat):Int) < (ks.length:Int):=by omega
      have hd:decide (((2 * pos+2:Nat):Int) < (ks.length:Int))=true:=decide_eq_true hri
      by_cases hl:ks.getD (2 * pos+1) 0 < ks.getD (2 * pos+2) 0
      · have hk:kid ks pos=2 * pos+1:=by unfold kid;rw [if_neg];intro h;exact h.2 hl
        rw [hk]
        simp only [bSU1,ifS,tAnd,tB,bin,getV,SUs,gs,gz,z_lt,hd,z_trb,z_obn,tNot,z_idl,h1,h2]
        have:=hlt [ks.map el]
        simp only [this,hl,decide_true,z_trb,if_true,Bool.not_true,Bool.false_eq_true,if_false,nopS]
      · have hk:kid ks pos=2 * pos+2:=by unfold kid;rw [if_pos ⟨hr,hl⟩]
        rw [hk]
        simp only [bSU1,ifS,tAnd,tB,bin,getV,SUs,gs,gz,z_lt,hd,z_trb,z_obn,tNot,z_idl,h1,h2]
        have:=hlt [ks.map el]
        simp only [this,hl,decide_false,z_trb,if_true,Bool.not_false,setS,getV,gs,gz]
        rfl
    · have hk:kid ks pos=2 * pos+1:=by unfold kid;rw [if_neg];intro h;exact hr h.1
      have hd:decide (((2 * pos+2:Nat):Int) < (ks.length:Int))=false:=decide_eq_false (by omega)
      rw [hk]
      simp only [bSU1,ifS,tAnd,tB,bin,getV,SUs,gs,gz,z_lt,hd,z_trb,Bool.false_eq_true,if_false,nopS]
  have hkl:kid ks pos < ks.length:=by unfold kid;split<;>omega
  have h3:=idx_el (el:=el) hz hkl
  have h4:=put_el (el:=el) (x:=ks.getD (kid ks pos) 0) hz hp
  have e3:bSU2 (SUs el pos ks.length x ((kid ks pos:Nat):Int) (some (.int ((2 * pos+2:Nat):Int)))) [ks.map el]=some (.nx,SUs el (kid ks pos) ks.length x ((2 * kid ks pos+1:Nat):Int) (some (.int ((2 * pos+2:Nat):Int))),[(ks.set pos (ks.getD (kid ks pos) 0)).map el]):=by
    have e31:putS (bin idxV (getV 0) (getV 5)) (getV 0) (getV 1) (SUs el pos ks.length x ((kid ks pos:Nat):Int) (some (.int ((2 * pos+2:Nat):Int)))) [ks.map el]=some (.nx,SUs el pos ks.length x ((kid ks pos:Nat):Int) (some (.int ((2 * pos+2:Nat):Int))),[(ks.set pos (ks.getD (kid ks pos) 0)).map el]):=by
      simp only [putS,bin,getV,SUs,gs,gz,z_idl,z_obn,h3,h4]
      rfl
    rw [bSU2,seqS_nx e31]
    generalize kid ks pos=c
    have:(2:Int) * (c:Int)+1=((2 * c+1:Nat):Int):=by omega
    simp only [seqS,setS,getV,SUs,gs,gz,bin,mulV,z_add,cInt,if_true,List.set_cons_succ,List.set_cons_zero,this]
  rw [bSU,seqS_nx e1,seqS_nx e2,e3]
theorem su_loop (E:Els el m) {x:Nat}:∀ (k pos:Nat) (ks:List Nat) (c6:Option V),pos < ks.length→ks.length < k+pos→ks.length≤1000→(∀ y ∈ ks.set pos x,y < m)→(ks.set pos x).Nodup→HA' (ks.set pos x) pos→HB (ks.set pos x) pos→
    ∃ (pos':Nat) (ks':List Nat) (c5':Int) (c6':Option V),whileS tSU bSU k (SUs el pos ks.length x ((2 * pos+1:Nat):Int) c6) [ks.map el]=some (.nx,SUs el pos' ks.length x c5' c6',[ks'.map el])∧pos' < ks'.length∧ks'.length=ks.length∧(ks'.set pos' x).Perm (ks.set pos x)∧HA (ks'.set pos' x) pos'∧HB (ks'.set pos' x) pos'
  |0=>fun pos ks c6 hp hk Z Z Z Z Z=>by omega
  |k+1=>fun pos ks c6 hp hk hz hm hn ha hb=>by
    by_cases hc:2 * pos+1 < ks.length
    · have e:tSU (SUs el pos ks.length x ((2 * pos+1:Nat):Int) c6) [ks.map el]=some (true,[ks.map el]):=by
        have hd:decide (((2 * pos+1:Nat):Int) < (ks.length:Int))=true:=decide_eq_true (by omega)
        simp only [tSU,tB,bin,getV,SUs,gs,gz,z_lt,hd,z_trb]
      have eb:=su_step E (c6:=c6) hz hc hm hn
      have hkl:kid ks pos < ks.length:=by unfold kid;split<;>omega
      have hkp:(kid ks pos - 1) / 2=pos∧pos < kid ks pos:=by unfold kid;split<;>omega
      have hkm:∀ i,0 < i→i < ks.length→(i - 1) / 2=pos→ks.getD (kid ks pos) 0≤ks.getD i 0:=by
        intro i h1 h2 h3
        have:i=2 * pos+1∨i=2 * pos+2:=by omega
        unfold kid
        split
        · rename_i h
          rcases this with rfl | rfl<;>omega
        · rename_i h
          rcases this with rfl | rfl
          · exact Nat.le_refl _
          · by_cases h4:ks.getD (2 * pos+1) 0 < ks.getD (2 * pos+2) 0
            · omega
            · exact absurd ⟨h2,h4⟩ h
      generalize kid ks pos=c at *
      generalize hy:ks.getD c 0=y at *
      obtain ⟨hc1,hc2⟩:=hkp
      have hp1:pos < (ks.set pos y).length:=by simpa using hp
      have hp2:c < (ks.set pos y).length:=by simpa using hkl
      have hperm:((ks.set pos y).set c x).Perm (ks.set pos x):=by
        have:=set_perm (x:=x) hp hkl (by omega)
        rwa [hy] at this
      have hv:∀ j,((ks.set pos y).set c x).getD j 0=if j=c then x else if j=pos then y else ks.getD j 0:=fun j=>by rw [gst hp2,gst hp]
      have hh:∀ j,(ks.set pos x).getD j 0=if j=pos then x else ks.getD j 0:=fun j=>gst hp
      have hlen:((ks.set pos y).set c x).length=ks.length:=by simp
      have hlen1:(ks.set pos x).length=ks.length:=by simp
      have ha2:HA' ((ks.set pos y).set c x) c:=by
        intro i h1 h2 h3 h4
        rw [hlen] at h2
        rw [hv,hv,if_neg h3,if_neg h4]
        by_cases hi:i=pos
        · rw [if_pos hi,if_neg (by omega)]
          have:=hb c (by rw [hlen1];exact hkl) (by omega) hc1 (by omega)
          rw [hh,hh,if_neg (by omega),if_neg (by omega),hy] at this
          rw [hi];exact this
        · rw [if_neg hi]
          by_cases h5:(i - 1) / 2=pos
          · rw [if_pos h5]
            exact hkm i h1 h2 h5
          · rw [if_neg h5]
            have:=ha i h1 (by rw [hlen1];exact h2) hi h5
            rwa [hh,hh,if_neg h5,if_neg hi] at this
      have hb2:HB ((ks.set pos y).set c x) c:=by
        intro d h1 h2 h3 h4
        rw [hlen] at h1
        rw [hv,hv,hc1,if_neg (by omega),if_pos rfl,if_neg (by omega),if_neg (by omega)]
        have:=ha d h2 (by rw [hlen1];exact h1) (by omega) (by omega)
        rwa [hh,hh,h3,if_neg (by omega),if_neg (by omega),hy] at this
      obtain ⟨pos',ks',d5,d6,r1,r2,r3,r4,r5,r6⟩:=su_loop E k c (ks.set pos y) (some (.int ((2 * pos+2:Nat):Int))) hp2 (by simp;omega) (by simpa using hz) (fun z hz=>hm z (hperm.mem_iff.mp hz)) (hperm.nodup_iff.mpr hn) ha2 hb2
      have hl2:(ks.set pos y).length=ks.length:=by simp
      rw [hl2] at r1
      refine ⟨pos',ks',d5,d6,?_,r2,by rw [r3,hl2],r4.trans hperm,r5,r6⟩
      simp only [whileS,e,eb,r1]
    · have e:tSU (SUs el pos ks.length x ((2 * pos+1:Nat):Int) c6) [ks.map el]=some (false,[ks.map el]):=by
        have hd:decide (((2 * pos+1:Nat):Int) < (ks.length:Int))=false:=decide_eq_false (by omega)
        simp only [tSU,tB,bin,getV,SUs,gs,gz,z_lt,hd,z_trb]
      refine ⟨pos,ks,((2 * pos+1:Nat):Int),c6,by simp only [whileS,e],hp,rfl,List.Perm.refl _,?_,hb⟩
      intro i h1 h2 h3
      have:i < ks.length:=by simpa using h2
      exact ha i h1 h2 h3 (by omega)
theorem siftup_heap (E:Els el m) {ks:List Nat} (hp:0 < ks.length) (hz:ks.length≤900) (hm:∀ y ∈ ks,y < m) (hn:ks.Nodup) (ha:HA' ks 0) :
    ∃ ks':List Nat,g_siftup 1000 [.lst 0,.int 0] [ks.map el]=some (.none,[ks'.map el])∧ks'.Perm ks∧HeapL ks':=by
  have hself:ks.set 0 (ks.getD 0 0)=ks:=by
    rw [List.getD_eq_getElem?_getD,List.getElem?_eq_getElem hp];simp
  have hb0:HB ks 0:=fun c Z Z Z h=>absurd h (by omega)
  obtain ⟨pos',ks',c5,c6,r1,r2,r3,r4,r5,r6⟩:=su_loop E (x:=ks.getD 0 0) 1000 0 ks none hp (by omega) (by omega) (by rw [hself];exact hm) (by rw [hself];exact hn) (by rw [hself];exact ha) (by rw [hself];exact hb0)
  rw [hself] at r4
  generalize hx:ks.getD 0 0=x at *
  have hm2:∀ y ∈ ks'.set pos' x,y < m:=fun y hy=>hm y (r4.mem_iff.mp hy)
  obtain ⟨kf,s1,s2,s3⟩:=siftdown_heap E (ks:=ks'.set pos' x) (pos:=pos') (by simpa using r2) (by simp;omega) hm2 (r4.nodup_iff.mpr hn) r5 r6
  refine ⟨kf,?_,s2.trans r4,s3⟩
  have hz':ks.length≤SZ:=by simp only [SZ];omega
  have e1:setS 2 (calF lenG [(getV 0)]) [some (.lst 0),some (.int 0),none,none,none,none,none] [ks.map el]=some (.nx,[some (.lst 0),some (.int 0),some (.int ks.length),none,none,none,none],[ks.map el]):=by
    simp only [setS,calF,seqF,getV,gz,z_lenl,z_obn,List.length_map,hz',if_true]
    rfl
  have e2:setS 3 (getV 1) [some (.lst 0),some (.int 0),some (.int ks.length),none,none,none,none] [ks.map el]=some (.nx,[some (.lst 0),some (.int 0),some (.int ks.length),some (.int 0),none,none,none],[ks.map el]):=rfl
  have e3:setS 4 (bin idxV (getV 0) (getV 1)) [some (.lst 0),some (.int 0),some (.int ks.length),some (.int 0),none,none,none] [ks.map el]=some (.nx,[some (.lst 0),some (.int 0),some (.int ks.length),some (.int 0),some (el x),none,none],[ks.map el]):=by
    have:=idx_el (el:=el) (i:=0) (ks:=ks) (by omega) hp
    rw [hx] at this
    have this:idxL (ks.map el) 0=some (el x):=this
    simp only [setS,bin,getV,gs,gz,z_idl,z_obn,this]
    rfl
  have e4:setS 5 (bin addV (bin mulV (cInt 2) (getV 1)) (cInt 1)) [some (.lst 0),some (.int 0),some (.int ks.length),some (.int 0),some (el x),none,none] [ks.map el]=some (.nx,SUs el 0 ks.length x ((2 * 0+1:Nat):Int) none,[ks.map el]):=rfl
  have e5:putS (getV 4) (getV 0) (getV 1) (SUs el pos' ks.length x c5 c6) [ks'.map el]=some (.nx,SUs el pos' ks.length x c5 c6,[(ks'.set pos' x).map el]):=by
    have:=put_el (el:=el) (x:=x) (by omega) r2
    simp only [putS,getV,SUs,gs,gz,this]
    rfl
  have hno1:=els_no E hm2
  have e6:expS (funcF (g_siftdown 1000) [(getV 0),(getV 3),(getV 1)]) (SUs el pos' ks.length x c5 c6) [(ks'.set pos' x).map el]=some (.nx,SUs el pos' ks.length x c5 c6,[kf.map el]):=by
    have e0:seqF [(getV 0),(getV 3),(getV 1)] (SUs el pos' ks.length x c5 c6) [(ks'.set pos' x).map el]=some ([.lst 0,.int 0,.int pos'],[(ks'.set pos' x).map el]):=rfl
    have e00:noLsts [.int 0,.int (pos':Int)]=true:=rfl
    exact exp_nx (funcF_ok e0 e00 rfl hno1 s1)
  have e:f_siftup 1000 [some (.lst 0),some (.int 0),none,none,none,none,none] [ks.map el]=some (.nx,SUs el pos' ks.length x c5 c6,[kf.map el]):=by
    rw [f_su_eq,seqS_nx e1,seqS_nx e2,seqS_nx e3,seqS_nx e4,seqS_nx r1,seqS_nx e5,e6]
  have hno:noLsts (kf.map el)=true:=els_no E fun y hy=>hm2 y (s2.mem_iff.mp hy)
  show runF 5 (f_siftup 1000) _ _=_
  exact run1n e hno
theorem heap_tail {a x:Nat} {t:List Nat} (h:HeapL (a::t)):HA' (x::t) 0:=by
  intro i h1 h2 h3 h4
  have:=h i h1 (by simpa using h2)
  obtain ⟨j,rfl⟩ : ∃ j,i=j+1:=⟨i - 1,by omega⟩
  obtain ⟨q,hq⟩ : ∃ q,(j+1 - 1) / 2=q+1:=⟨(j+1 - 1) / 2 - 1,by omega⟩
  rw [hq] at this ⊢
  simpa using this
theorem funcF_el (E:Els el m) {g:FF} {fs:List FE} {ρ:Rho} {ks ks':List Nat} {J:Hp} {xs:List V} {r:V} (h0:seqF fs ρ (ks.map el::J)=some (.lst 0::xs,ks.map el::J)) (hx:noLsts xs=true) (hm:∀ y ∈ ks,y < m) (hg:g (.lst 0::xs) [ks.map el]=some (r,[ks'.map el])) :
    funcF g fs ρ (ks.map el::J)=some (r,ks'.map el::J):=by
  have hno1:=els_no E hm
  exact funcF_ok h0 hx rfl hno1 hg
theorem heapreplace_ok (E:Els el m) {a x:Nat} {t:List Nat} (hz:(a::t).length≤900) (hm:∀ y ∈ a::x::t,y < m) (hn:(x::t).Nodup) (hh:HeapL (a::t)) :
    ∃ ks':List Nat,g_heapreplace 1000 [.lst 0,el x] [(a::t).map el]=some (el a,[ks'.map el])∧ks'.Perm (x::t)∧HeapL ks':=by
  have hm2:∀ y ∈ x::t,y < m:=fun y hy=>hm y (List.mem_cons_of_mem _ hy)
  obtain ⟨kf,s1,s2,s3⟩:=siftup_heap E (ks:=x::t) (by simp) (by simpa using hz) hm2 hn (heap_tail hh)
  refine ⟨kf,?_,s2,s3⟩
  have hz':(a::t).length≤1000:=by omega
  have e1:setS 2 (bin idxV (getV 0) (cInt 0)) [some (.lst 0),some (el x),none] [(a::t).map el]=some (.nx,[some (.lst 0),some (el x),some (el a)],[(a::t).map el]):=by
    have:=idx_el (el:=el) (i:=0) hz' (by simp)
    have this:idxL ((a::t).map el) 0=some (el a):=this
    simp only [setS,bin,getV,cInt,gz,z_idl,z_obn,this]
    rfl
  have e2:putS (getV 1) (getV 0) (cInt 0) [some (.lst 0),some (el x),some (el a)] [(a::t).map el]=some (.nx,[some (.lst 0),some (el x),some (el a)],[(x::t).map el]):=by
    have:=put_el (el:=el) (i:=0) (x:=x) hz' (by simp)
    have this:putL ((a::t).map el) 0 (el x)=some ((x::t).map el):=this
    simp only [putS,getV,cInt,gs,gz,this]
    rfl
  have e3:expS (funcF (g_siftup 1000) [(getV 0),(cInt 0)]) [some (.lst 0),some (el x),some (el a)] [(x::t).map el]=some (.nx,[some (.lst 0),some (el x),some (el a)],[kf.map el]):=by
    have:=funcF_el E (g:=g_siftup 1000) (fs:=[(getV 0),(cInt 0)]) (ρ:=[some (.lst 0),some (el x),some (el a)]) (J:=[]) (xs:=[.int 0]) rfl rfl hm2 s1
    simp only [expS,this]
  have e:f_heapreplace 1000 [some (.lst 0),some (el x),none] [(a::t).map el]=some (.rt (el a),[some (.lst 0),some (el x),some (el a)],[kf.map el]):=by
    rw [f_heapreplace,seqS_nx e1,seqS_nx e2,seqS_nx e3]
    rfl
  have hno:noLsts (kf.map el)=true:=els_no E fun y hy=>hm2 y (s2.mem_iff.mp hy)
  show runF 1 (f_heapreplace 1000) _ _=_
  exact run1 e (E.no a (hm a (by simp))) hno
theorem dropLast_heap {l:List Nat} {z:Nat} (h:HeapL (l++[z])):HeapL l:=by
  intro i h1 h2
  have:=h i h1 (by simp;omega)
  simp only [List.getD_eq_getElem?_getD] at this ⊢
  rwa [List.getElem?_append_left h2,List.getElem?_append_left (by omega)] at this
theorem heappop_ok (E:Els el m) {a:Nat} {t:List Nat} (hz:(a::t).length≤900) (hm:∀ y ∈ a::t,y < m) (hn:(a::t).Nodup) (hh:HeapL (a::t)) :
    ∃ ks':List Nat,g_heappop 1000 [.lst 0] [(a::t).map el]=some (el a,[ks'.map el])∧(a::ks').Perm (a::t)∧HeapL ks':=by
  have hna:=E.no a (hm a (by simp))
  rcases List.eq_nil_or_concat t with rfl | ⟨l,z,rfl⟩
  · refine ⟨[],?_,List.Perm.refl _,fun i Z h=>absurd h (by simp)⟩
    have e1:setS 1 (popF (getV 0)) [some (.lst 0),none,none] [[a].map el]=some (.nx,[some (.lst 0),some (el a),none],[[]]):=by
      have:1≤SZ:=by decide
      simp [setS,popF,getV,this]
    have e:f_heappop 1000 [some (.lst 0),none,none] [[a].map el]=some (.rt (el a),[some (.lst 0),some (el a),none],[[]]):=by
      rw [f_heappop,seqS_nx e1]
      have e2:tB (getV 0) [some (.lst 0),some (el a),none] [[]]=some (false,[[]]):=rfl
      simp only [seqS,ifS,e2,nopS,retS,getV,gs,gz]
    show runF 2 (f_heappop 1000) [.lst 0] [[a].map el]=_
    exact run1 e hna rfl
  · simp only [List.concat_eq_append] at *
    have hperm:(z::l).Perm (l++[z]):=by
      have:=List.perm_append_comm (l₁:=[z]) (l₂:=l)
      exact this
    have hm2:∀ y ∈ z::l,y < m:=fun y hy=>hm y (List.mem_cons_of_mem _ (hperm.mem_iff.mp hy))
    have hn2:(z::l).Nodup:=hperm.nodup_iff.mpr (List.nodup_cons.mp hn).2
    have hh2:HeapL (a::l):=dropLast_heap (z:=z) hh
    have hlen:(a::l).length+1≤900:=by simp at hz ⊢;omega
    obtain ⟨kf,s1,s2,s3⟩:=siftup_heap E (ks:=z::l) (by simp) (by simp at hlen ⊢;omega) hm2 hn2 (heap_tail hh2)
    refine ⟨kf,?_,List.Perm.cons a (s2.trans hperm),s3⟩
    have hz':(a::l).length≤1000:=by omega
    have e1:setS 1 (popF (getV 0)) [some (.lst 0),none,none] [(a::(l++[z])).map el]=some (.nx,[some (.lst 0),some (el z),none],[(a::l).map el]):=by
      have h1:((a::(l++[z])).map el).getLast? = some (el z):=by
        rw [← List.cons_append,List.map_append]
        exact List.getLast?_concat
      have h2:((a::(l++[z])).map el).dropLast=(a::l).map el:=by
        rw [← List.cons_append,List.map_append]
        exact List.dropLast_concat
      have h3:((a::(l++[z])).map el).length≤SZ:=by simp only [List.length_map,SZ];omega
      simp only [setS,popF,getV,gz,h1,h3,h2,if_true,List.set_cons_zero,List.set_cons_succ]
    have e0:tB (getV 0) [some (.lst 0),some (el z),none] [(a::l).map el]=some (true,[(a::l).map el]):=by
      have:((a::l).map el).length≤SZ:=by simp only [List.length_map,SZ];omega
      simp only [tB,getV,gz,z_trl,z_obn,this,if_true]
      rfl
    have e2:setS 2 (bin idxV (getV 0) (cInt 0)) [some (.lst 0),some (el z),none] [(a::l).map el]=some (.nx,[some (.lst 0),some (el z),some (el a)],[(a::l).map el]):=by
      have:=idx_el (el:=el) (i:=0) hz' (by simp)
      have this:idxL ((a::l).map el) 0=some (el a):=this
      simp only [setS,bin,getV,cInt,gz,z_idl,z_obn,this]
      rfl
    have e3:putS (getV 1) (getV 0) (cInt 0) [some (.lst 0),some (el z),some (el a)] [(a::l).map el]=some (.nx,[some (.lst 0),some (el z),some (el a)],[(z::l).map el]):=by
      have:=put_el (el:=el) (i:=0) (x:=z) hz' (by simp)
      have this:putL ((a::l).map el) 0 (el z)=some ((z::l).map el):=this
      simp only [putS,getV,cInt,gs,gz,this]
      rfl
    have e4:expS (funcF (g_siftup 1000) [(getV 0),(cInt 0)]) [some (.lst 0),some (el z),some (el a)] [(z::l).map el]=some (.nx,[some (.lst 0),some (el z),some (el a)],[kf.map el]):=by
      have:=funcF_el E (g:=g_siftup 1000) (fs:=[(getV 0),(cInt 0)]) (ρ:=[some (.lst 0),some (el z),some (el a)]) (J:=[]) (xs:=[.int 0]) rfl rfl hm2 s1
      simp only [expS,this]
    have e5:(seqS (setS 2 (bin idxV (getV 0) (cInt 0))) (seqS (putS (getV 1) (getV 0) (cInt 0)) (seqS (expS (funcF (g_siftup 1000) [(getV 0),(cInt 0)])) (retS (getV 2))))) [some (.lst 0),some (el z),none] [(a::l).map el]=some (.rt (el a),[some (.lst 0),some (el z),some (el a)],[kf.map el]):=by
      rw [seqS_nx e2,seqS_nx e3,seqS_nx e4]
      rfl
    have e:f_heappop 1000 [some (.lst 0),none,none] [(a::(l++[z])).map el]=some (.rt (el a),[some (.lst 0),some (el z),some (el a)],[kf.map el]):=by
      rw [f_heappop,seqS_nx e1]
      simp only [seqS] at e5
      simp only [seqS,ifS,e0,e5]
    have hno:noLsts (kf.map el)=true:=els_no E fun y hy=>hm2 y (s2.mem_iff.mp hy)
    show runF 2 (f_heappop 1000) _ _=_
    exact run1 e hna hno
theorem heappush_ok (E:Els el m) {x:Nat} {ks:List Nat} (hz:ks.length+1≤900) (hm:∀ y ∈ x::ks,y < m) (hn:(x::ks).Nodup) (hh:HeapL ks) :
    ∃ ks':List Nat,g_heappush 1000 [.lst 0,el x] [ks.map el]=some (.none,[ks'.map el])∧ks'.Perm (x::ks)∧HeapL ks':=by
  have hperm:(ks++[x]).Perm (x::ks):=List.perm_append_comm (l₁:=ks) (l₂:=[x])
  have hm2:∀ y ∈ ks++[x],y < m:=fun y hy=>hm y (hperm.mem_iff.mp hy)
  have ha:HA (ks++[x]) ks.length:=by
    intro i h1 h2 h3
    simp only [List.length_append,List.length_cons,List.length_nil] at h2
    have:=hh i h1 (by omega)
    simp only [List.getD_eq_getElem?_getD] at this ⊢
    rwa [List.getElem?_append_left (by omega),List.getElem?_append_left (by omega)]
  have hb:HB (ks++[x]) ks.length:=by
    intro c h1 h2 h3 h4
    simp only [List.length_append,List.length_cons,List.length_nil] at h1
    omega
  obtain ⟨kf,s1,s2,s3⟩:=siftdown_heap E (ks:=ks++[x]) (pos:=ks.length) (by simp) (by simpa using hz) hm2 (hperm.nodup_iff.mpr hn) ha hb
  refine ⟨kf,?_,s2.trans hperm,s3⟩
  have e1:expS (apdF (getV 0) (getV 1)) [some (.lst 0),some (el x)] [ks.map el]=some (.nx,[some (.lst 0),some (el x)],[(ks++[x]).map el]):=by
    have:ks.length < SZ:=by simp only [SZ];omega
    simp [expS,apdF,getV,this]
  have e2:expS (funcF (g_siftdown 1000) [(getV 0),(cInt 0),(bin subV (calF lenG [(getV 0)]) (cInt 1))]) [some (.lst 0),some (el x)] [(ks++[x]).map el]=some (.nx,[some (.lst 0),some (el x)],[kf.map el]):=by
    have h0:seqF [(getV 0),(cInt 0),(bin subV (calF lenG [(getV 0)]) (cInt 1))] [some (.lst 0),some (el x)] [(ks++[x]).map el]=some ([.lst 0,.int 0,.int ks.length],[(ks++[x]).map el]):=by
      have h1:((ks++[x]).map el).length=ks.length+1:=by simp
      have h2:ks.length+1≤SZ:=by simp only [SZ];omega
      have h3:((ks.length+1:Nat):Int) - 1=ks.length:=by omega
      simp only [seqF,getV,cInt,bin,calF,z_lenl,z_obn,gz,h1,h2,if_true,subV,h3]
    have:=funcF_el E (g:=g_siftdown 1000) (J:=[]) (xs:=[.int 0,.int ks.length]) h0 rfl hm2 s1
    simp only [expS,this]
  have e:f_heappush 1000 [some (.lst 0),some (el x)] [ks.map el]=some (.nx,[some (.lst 0),some (el x)],[kf.map el]):=by
    rw [f_heappush,seqS_nx e1,e2]
  have hno:noLsts (kf.map el)=true:=els_no E fun y hy=>hm2 y (s2.mem_iff.mp hy)
  show runF 0 (f_heappush 1000) _ _=_
  exact run1n e hno
end
noncomputable abbrev Rw:=List (Option (Nat→Bool))
noncomputable def starGo (f:List Nat→Bool):List Nat→Bool
  |[]=>f []
  |a::w=>f (a::w) || starGo f w
noncomputable def oneGo (p:Nat→Bool) (f:List Nat→Bool):List Nat→Bool
  |[]=>false
  |a::w=>p a && f w
noncomputable def tk:Rw→List Nat→Bool
  |[],w=>w.isEmpty
  |none::R,w=>starGo (tk R) w
  |some f::R,w=>oneGo f (tk R) w
theorem tk_e (w:List Nat):tk [] w=w.isEmpty:=rfl
theorem tk_nn (R:Rw):tk (none::R) []=tk R []:=rfl
theorem tk_nc (R:Rw) (a:Nat) (w:List Nat):tk (none::R) (a::w)=(tk R (a::w) || tk (none::R) w):=rfl
theorem tk_sn (f:Nat→Bool) (R:Rw):tk (some f::R) []=false:=rfl
theorem tk_sc (f:Nat→Bool) (R:Rw) (a:Nat) (w:List Nat):tk (some f::R) (a::w)=(f a && tk R w):=rfl
theorem tk_star {R:Rw} {w:List Nat} (h:tk R w=true):tk (none::R) w=true:=by
  cases w with
  |nil=>exact h
  |cons a w=>rw [tk_nc,h];rfl
theorem tk_star_cons {R:Rw} {a:Nat} {w:List Nat} (h:tk (none::R) w=true):tk (none::R) (a::w)=true:=by
  rw [tk_nc,h,Bool.or_true]
theorem tk_one:∀ w,tk [none] w=true
  |[]=>rfl
  |a::w=>tk_star_cons (tk_one w)
noncomputable def Spl (P Q:List Nat→Prop) (w:List Nat):Prop:=∃ w1 w2,w=w1++w2∧P w1∧Q w2
theorem spl_cons {P Q:List Nat→Prop} {a:Nat} {w:List Nat}:Spl P Q (a::w)↔(P []∧Q (a::w))∨Spl (fun w=>P (a::w)) Q w:=by
  constructor
  · rintro ⟨w1,w2,h,h1,h2⟩
    cases w1 with
    |nil=>exact .inl ⟨h1,h▸h2⟩
    |cons b w1=>obtain ⟨rfl,rfl⟩:=List.cons.inj h;exact .inr ⟨w1,w2,rfl,h1,h2⟩
  · rintro (⟨h1,h2⟩ | ⟨w1,w2,rfl,h1,h2⟩)
    · exact ⟨[],_,rfl,h1,h2⟩
    · exact ⟨a::w1,w2,rfl,h1,h2⟩
theorem spl_nil {P Q:List Nat→Prop}:Spl P Q []↔P []∧Q []:=by
  constructor
  · rintro ⟨w1,w2,h,h1,h2⟩
    obtain ⟨rfl,rfl⟩:=List.append_eq_nil_iff.mp h.symm
    exact ⟨h1,h2⟩
  · exact fun h=>⟨[],[],rfl,h.1,h.2⟩
theorem spl_or {P P' Q:List Nat→Prop} {w:List Nat}:Spl (fun w=>P w∨P' w) Q w↔Spl P Q w∨Spl P' Q w:=by
  constructor
  · rintro ⟨w1,w2,h,h1 | h1,h2⟩
    · exact .inl ⟨w1,w2,h,h1,h2⟩
    · exact .inr ⟨w1,w2,h,h1,h2⟩
  · rintro (⟨w1,w2,h,h1,h2⟩ | ⟨w1,w2,h,h1,h2⟩)
    · exact ⟨w1,w2,h,.inl h1,h2⟩
    · exact ⟨w1,w2,h,.inr h1,h2⟩
theorem tk_app (R2:Rw) (R1:Rw):∀ w:List Nat,tk (R1++R2) w=true↔Spl (tk R1 · = true) (tk R2 · = true) w:=by
  induction R1 with
  |nil=>
    intro w
    constructor
    · intro h;exact ⟨[],w,rfl,rfl,h⟩
    · rintro ⟨w1,w2,rfl,h1,h2⟩
      cases w1 with
      |nil=>exact h2
      |cons=>cases h1
  |cons x R ih=>
    intro w
    cases x with
    |none=>
      induction w with
      |nil=>exact (ih []).trans (spl_nil.trans (spl_nil (P:=(tk (none::R) · = true)) (Q:=(tk R2 · = true))).symm)
      |cons a w ihw=>
        rw [List.cons_append,tk_nc,Bool.or_eq_true,ih,spl_cons,spl_cons]
        have e:Spl (fun w=>tk (none::R) (a::w)=true) (tk R2 · = true) w↔Spl (fun w=>tk R (a::w)=true) (tk R2 · = true) w∨Spl (tk (none::R) · = true) (tk R2 · = true) w:=
          (by simp only [tk_nc,Bool.or_eq_true]:_↔Spl (fun w=>tk R (a::w)=true∨tk (none::R) w=true) (tk R2 · = true) w).trans spl_or
        rw [e,← or_assoc]
        exact or_congr Iff.rfl ihw
    |some f=>
      cases w with
      |nil=>rw [spl_nil];exact Iff.intro (fun h=>nomatch h) (fun h=>nomatch h.1)
      |cons a w=>
        rw [List.cons_append,tk_sc,Bool.and_eq_true,ih,spl_cons]
        constructor
        · rintro ⟨h0,w1,w2,h,h1,h2⟩
          exact .inr ⟨w1,w2,h,(by rw [tk_sc,h0,h1];rfl:tk (some f::R) (a::w1)=true),h2⟩
        · rintro (⟨h,_⟩ | ⟨w1,w2,h,h1,h2⟩)
          · cases h
          · have h1:(f a && tk R w1)=true:=h1
            rw [Bool.and_eq_true] at h1
            exact ⟨h1.1,w1,w2,h,h1.2,h2⟩
theorem tk_snoc_none {R:Rw} {w:List Nat}:tk (R++[none]) w=true↔∃ w1 w2,w=w1++w2∧tk R w1=true:=by
  rw [tk_app]
  constructor
  · rintro ⟨w1,w2,h,h1,_⟩;exact ⟨w1,w2,h,h1⟩
  · rintro ⟨w1,w2,h,h1⟩;exact ⟨w1,w2,h,h1,tk_one w2⟩
theorem tk_some_one {f:Nat→Bool}:∀ w,tk [some f] w=true↔∃ a,w=[a]∧f a=true
  |[]=>by rw [tk_sn];simp
  |a::w=>by
    rw [tk_sc,Bool.and_eq_true,tk_e]
    cases w<;>simp
theorem tk_snoc_some {R:Rw} {f:Nat→Bool} {w:List Nat}:tk (R++[some f]) w=true↔∃ w1 a,w=w1++[a]∧tk R w1=true∧f a=true:=by
  rw [tk_app]
  constructor
  · rintro ⟨w1,w2,h,h1,h2⟩
    obtain ⟨a,rfl,h3⟩:=(tk_some_one w2).mp h2
    exact ⟨w1,a,h,h1,h3⟩
  · rintro ⟨w1,a,h,h1,h2⟩;exact ⟨w1,[a],h,h1,(tk_some_one _).mpr ⟨a,rfl,h2⟩⟩
theorem concat_inj {w w1:List Nat} {s a:Nat} (h:w++[s]=w1++[a]):w=w1∧s=a:=by
  have:=List.append_inj' h rfl
  exact ⟨this.1,by simpa using this.2⟩
noncomputable def D (R:Rw) (p:Nat) (w:List Nat):Prop:=tk (R.take p) w=true
theorem take_succ' {R:Rw} {p:Nat} {x:Option (Nat→Bool)} (h:R[p]?=some x):R.take (p+1)=R.take p++[x]:=by
  rw [List.take_add_one,h];rfl
theorem D_none {R:Rw} {p:Nat} (h:R[p]?=some none) {w:List Nat}:D R (p+1) w↔∃ w1 w2,w=w1++w2∧D R p w1:=by
  unfold D;rw [take_succ' h,tk_snoc_none]
theorem D_none_nil {R:Rw} {p:Nat} (h:R[p]?=some none):D R (p+1) []↔D R p []:=by
  rw [D_none h]
  constructor
  · rintro ⟨w1,w2,h,h1⟩
    obtain ⟨rfl,rfl⟩:=List.append_eq_nil_iff.mp h.symm
    exact h1
  · intro h;exact ⟨[],[],rfl,h⟩
theorem D_none_up {R:Rw} {p:Nat} (h:R[p]?=some none) {w:List Nat} (hd:D R p w):D R (p+1) w:=(D_none h).mpr ⟨w,[],by simp,hd⟩
theorem D_none_snoc {R:Rw} {p:Nat} (h:R[p]?=some none) {w:List Nat} {s:Nat}:D R (p+1) (w++[s])↔D R p (w++[s])∨D R (p+1) w:=by
  rw [D_none h,D_none h]
  constructor
  · rintro ⟨w1,w2,h,h1⟩
    rcases List.eq_nil_or_concat w2 with rfl | ⟨l,z,rfl⟩
    · rw [List.append_nil] at h;rw [h];exact .inl h1
    · rw [List.concat_eq_append,← List.append_assoc] at h
      obtain ⟨rfl,rfl⟩:=concat_inj h
      exact .inr ⟨w1,l,rfl,h1⟩
  · rintro (h1 | ⟨w1,w2,rfl,h1⟩)
    · exact ⟨_,[],by simp,h1⟩
    · exact ⟨w1,w2++[s],by simp,h1⟩
theorem D_some_nil {R:Rw} {p:Nat} {f:Nat→Bool} (h:R[p]?=some (some f)):¬ D R (p+1) []:=by
  unfold D;rw [take_succ' h,tk_snoc_some]
  rintro ⟨w1,a,h,_⟩
  simp at h
theorem D_some_snoc {R:Rw} {p:Nat} {f:Nat→Bool} (h:R[p]?=some (some f)) {w:List Nat} {s:Nat}:D R (p+1) (w++[s])↔D R p w∧f s=true:=by
  unfold D;rw [take_succ' h,tk_snoc_some]
  constructor
  · rintro ⟨w1,a,h,h1,h2⟩
    obtain ⟨rfl,rfl⟩:=concat_inj h
    exact ⟨h1,h2⟩
  · rintro ⟨h1,h2⟩;exact ⟨w,s,rfl,h1,h2⟩
theorem D_zero {R:Rw} {w:List Nat}:D R 0 w↔w=[]:=by
  unfold D;simp [tk_e]
noncomputable def At_ (R:Rw) (w:List Nat) (p:Nat):Prop:=p≤R.length∧(D R p w∨(R[p]?=some none∧D R (p+1) w))
noncomputable def begun (R:Rw) (w:List Nat):Prop:=∃ p,p≤R.length∧D R p w
noncomputable def starAt (R:Rw) (k:Nat):Bool:=match R[k]? with
  |some none=>true
  |_=>false
set_option tactic.hygienic true in
theorem starAt_iff {R:Rw} {k:Nat}:starAt R k=true↔R[k]?=some none:=by
  unfold starAt
  split
  · rename_i h;simp [h]
  · rename_i h
    constructor
    · intro h;cases h
    · intro e;exact absurd e h
noncomputable def openGo (R:Rw) (rc:List Nat):Nat→List Nat
  |0=>[]
  |k+1=>if k ∈ rc∨(1≤k∧k - 1 ∈ openGo R rc k∧starAt R (k - 1)=true) then openGo R rc k++[k] else openGo R rc k
noncomputable def openP (R:Rw) (rc:List Nat):List Nat:=openGo R rc (R.length+1)
theorem openGo_lt {R:Rw} {rc:List Nat}:∀ {k p:Nat},p ∈ openGo R rc k→p < k
  |0,p,h=>by simp [openGo] at h
  |k+1,p,h=>by
    unfold openGo at h
    split at h
    · rcases List.mem_append.mp h with h | h
      · have:=openGo_lt h;omega
      · simp at h;omega
    · have:=openGo_lt h;omega
theorem openGo_up {R:Rw} {rc:List Nat} {p:Nat}:∀ {k j:Nat},p < k→k≤j→(p ∈ openGo R rc j↔p ∈ openGo R rc k)
  |k,0,h,h2=>by omega
  |k,j+1,h,h2=>by
    by_cases hj:k=j+1
    · rw [hj]
    · rw [← openGo_up (R:=R) (rc:=rc) h (by omega:k≤j)]
      conv=>lhs;unfold openGo
      split
      · rw [List.mem_append]
        constructor
        · rintro (h1 | h1)
          · exact h1
          · simp at h1;omega
        · exact .inl
      · exact Iff.rfl
theorem mem_openP {R:Rw} {rc:List Nat} {p:Nat}:p ∈ openP R rc↔p≤R.length∧(p ∈ rc∨(1≤p∧p - 1 ∈ openP R rc∧R[p - 1]?=some none)):=by
  by_cases hp:p≤R.length
  · have h1:p ∈ openP R rc↔p ∈ openGo R rc (p+1):=openGo_up (by omega) (by omega)
    have h2:1≤p→(p - 1 ∈ openP R rc↔p - 1 ∈ openGo R rc p):=fun h=>openGo_up (by omega) (by omega)
    rw [h1]
    unfold openGo
    constructor
    · intro h
      refine ⟨hp,?_⟩
      split at h
      · rename_i hc
        rcases hc with hc | ⟨a,b,c⟩
        · exact .inl hc
        · exact .inr ⟨a,(h2 a).mpr b,starAt_iff.mp c⟩
      · have:=openGo_lt h;omega
    · rintro ⟨_,h⟩
      rw [if_pos]
      · simp
      · rcases h with h | ⟨a,b,c⟩
        · exact .inl h
        · exact .inr ⟨a,(h2 a).mp b,starAt_iff.mpr c⟩
  · constructor
    · intro h
      have:=openGo_lt (R:=R) (rc:=rc) h
      omega
    · rintro ⟨h,_⟩;exact absurd h hp
noncomputable def goOn (R:Rw) (s:Nat) (p:Nat):List Nat:=match R[p]? with
  |some none=>[p]
  |some (some f)=>if f s then [p+1] else []
  |none=>[]
noncomputable def onwP (R:Rw) (P:List Nat) (s:Nat):List Nat:=openP R (P.flatMap (goOn R s))
noncomputable def PL (R:Rw) (w:List Nat):List Nat:=w.foldl (onwP R) (openP R [0])
theorem PL_snoc {R:Rw} {w:List Nat} {s:Nat}:PL R (w++[s])=onwP R (PL R w) s:=by simp [PL]
set_option tactic.hygienic true in
theorem mem_goOn {R:Rw} {P:List Nat} {s p:Nat}:p ∈ P.flatMap (goOn R s)↔(p ∈ P∧R[p]?=some none)∨(1≤p∧p - 1 ∈ P∧∃ f,R[p - 1]?=some (some f)∧f s=true):=by
  rw [List.mem_flatMap]
  constructor
  · rintro ⟨q,hq,h⟩
    unfold goOn at h
    split at h
    · rename_i e;simp at h;subst h;exact .inl ⟨hq,e⟩
    · rename_i f e
      split at h
      · simp at h;subst h;exact .inr ⟨by omega,hq,f,e,‹_›⟩
      · simp at h
    · simp at h
  · rintro (⟨h1,h2⟩ | ⟨h0,h1,f,h2,h3⟩)
    · refine ⟨p,h1,?_⟩
      unfold goOn;rw [h2];simp
    · refine ⟨p - 1,h1,?_⟩
      unfold goOn;rw [h2];simp only [h3,if_true,List.mem_singleton];omega
theorem At_nil {R:Rw}:∀ p,p ∈ openP R [0]↔At_ R [] p:=by
  intro p
  induction p with
  |zero=>
    rw [mem_openP]
    have:D R 0 []:=D_zero.mpr rfl
    simp [At_,this]
  |succ p ih=>
    rw [mem_openP]
    simp only [Nat.add_sub_cancel,ih,At_]
    constructor
    · rintro ⟨h1,h | ⟨_,⟨_,h2⟩,h3⟩⟩
      · simp at h
      · refine ⟨h1,.inl ?_⟩
        rcases h2 with h2 | ⟨_,h2⟩
        · exact (D_none_nil h3).mpr h2
        · exact h2
    · rintro ⟨h1,h2⟩
      refine ⟨h1,.inr ⟨by omega,?_⟩⟩
      have h2:D R (p+1) []:=by
        rcases h2 with h2 | ⟨h3,h2⟩
        · exact h2
        · exact (D_none_nil h3).mp h2
      have hp:p < R.length:=by omega
      match hx:R[p]? with
      |none=>rw [List.getElem?_eq_none_iff] at hx;omega
      |some none=>exact ⟨⟨by omega,.inl ((D_none_nil hx).mp h2)⟩,rfl⟩
      |some (some f)=>exact absurd h2 (D_some_nil hx)
theorem At_snoc {R:Rw} {w:List Nat} {s:Nat} {P:List Nat} (hP:∀ p,p ∈ P↔At_ R w p):∀ p,p ∈ onwP R P s↔At_ R (w++[s]) p:=by
  have hs:∀ p,p < R.length→((1≤p+1∧p ∈ P∧∃ f,R[p]?=some (some f)∧f s=true)↔(∃ f,R[p]?=some (some f))∧D R (p+1) (w++[s])):=by
    intro p hp
    constructor
    · rintro ⟨_,h1,f,h2,h3⟩
      refine ⟨⟨f,h2⟩,(D_some_snoc h2).mpr ⟨?_,h3⟩⟩
      rcases ((hP p).mp h1).2 with h | ⟨h,_⟩
      · exact h
      · rw [h2] at h;cases h
    · rintro ⟨⟨f,h2⟩,h⟩
      obtain ⟨h3,h4⟩:=(D_some_snoc h2).mp h
      exact ⟨by omega,(hP p).mpr ⟨by omega,.inl h3⟩,f,h2,h4⟩
  intro p
  induction p with
  |zero=>
    unfold onwP
    rw [mem_openP,mem_goOn]
    have h0:¬ D R 0 (w++[s]):=by rw [D_zero];simp
    constructor
    · rintro ⟨h1,(⟨h2,h3⟩ | ⟨h,_⟩) | ⟨h,_⟩⟩
      · refine ⟨h1,.inr ⟨h3,(D_none_snoc h3).mpr (.inr ?_)⟩⟩
        rcases ((hP 0).mp h2).2 with h | ⟨_,h⟩
        · exact D_none_up h3 h
        · exact h
      · omega
      · omega
    · rintro ⟨h1,h2⟩
      refine ⟨h1,.inl (.inl ?_)⟩
      rcases h2 with h2 | ⟨h3,h2⟩
      · exact absurd h2 h0
      · rcases (D_none_snoc h3).mp h2 with h | h
        · exact absurd h h0
        · exact ⟨(hP 0).mpr ⟨h1,.inr ⟨h3,h⟩⟩,h3⟩
  |succ p ih=>
    have key:p+1≤R.length→(((1≤p+1∧p ∈ P∧∃ f,R[p]?=some (some f)∧f s=true)∨(1≤p+1∧p ∈ onwP R P s∧R[p]?=some none))↔D R (p+1) (w++[s])):=by
      intro hp
      rw [hs p (by omega),ih]
      constructor
      · rintro (⟨_,h⟩ | ⟨_,⟨_,h1⟩,h2⟩)
        · exact h
        · rcases h1 with h1 | ⟨_,h1⟩
          · exact D_none_up h2 h1
          · exact h1
      · intro h
        match hx:R[p]? with
        |none=>rw [List.getElem?_eq_none_iff] at hx;omega
        |some none=>exact .inr ⟨by omega,⟨by omega,.inr ⟨hx,h⟩⟩,rfl⟩
        |some (some f)=>exact .inl ⟨⟨f,rfl⟩,h⟩
    have e:p+1 ∈ onwP R P s↔p+1≤R.length∧((p+1 ∈ P∧R[p+1]?=some none)∨D R (p+1) (w++[s])):=by
      conv=>lhs;unfold onwP;rw [mem_openP,mem_goOn]
      simp only [Nat.add_sub_cancel]
      constructor
      · rintro ⟨h1,(h2 | h2) | h2⟩
        · exact ⟨h1,.inl h2⟩
        · exact ⟨h1,.inr ((key h1).mp (.inl h2))⟩
        · exact ⟨h1,.inr ((key h1).mp (.inr h2))⟩
      · rintro ⟨h1,h2 | h2⟩
        · exact ⟨h1,.inl (.inl h2)⟩
        · rcases (key h1).mpr h2 with h | h
          · exact ⟨h1,.inl (.inr h)⟩
          · exact ⟨h1,.inr h⟩
    rw [e]
    constructor
    · rintro ⟨h1,⟨h2,h3⟩ | h2⟩
      · refine ⟨h1,.inr ⟨h3,(D_none_snoc h3).mpr (.inr ?_)⟩⟩
        rcases ((hP _).mp h2).2 with h | ⟨_,h⟩
        · exact D_none_up h3 h
        · exact h
      · exact ⟨h1,.inl h2⟩
    · rintro ⟨h1,h2 | ⟨h3,h2⟩⟩
      · exact ⟨h1,.inr h2⟩
      · rcases (D_none_snoc h3).mp h2 with h | h
        · exact ⟨h1,.inr h⟩
        · exact ⟨h1,.inl ⟨(hP _).mpr ⟨h1,.inr ⟨h3,h⟩⟩,h3⟩⟩
theorem mem_PL {R:Rw}:∀ (n:Nat) (w:List Nat),w.length=n→∀ p,p ∈ PL R w↔At_ R w p
  |0,w,h=>by
    have:w=[]:=List.length_eq_zero_iff.mp h
    subst this
    exact At_nil
  |n+1,w,h=>by
    rcases List.eq_nil_or_concat w with rfl | ⟨l,z,rfl⟩
    · simp at h
    · rw [List.concat_eq_append] at *
      rw [PL_snoc]
      exact At_snoc (mem_PL n l (by simpa using h))
theorem PL_begun {R:Rw} {w:List Nat}:PL R w ≠ []↔begun R w:=by
  constructor
  · intro h
    obtain ⟨p,hp⟩:=List.exists_mem_of_ne_nil _ h
    obtain ⟨h1,h2⟩:=(mem_PL _ w rfl p).mp hp
    rcases h2 with h2 | ⟨h3,h2⟩
    · exact ⟨p,h1,h2⟩
    · exact ⟨p+1,(List.getElem?_eq_some_iff.mp h3).1,h2⟩
  · rintro ⟨p,h1,h2⟩ h
    have:=(mem_PL _ w rfl p).mpr ⟨h1,.inl h2⟩
    rw [h] at this;cases this
theorem PL_end {R:Rw} {w:List Nat}:R.length ∈ PL R w↔tk R w=true:=by
  rw [mem_PL _ w rfl]
  constructor
  · rintro ⟨_,h | ⟨h,_⟩⟩
    · unfold D at h;rwa [List.take_length] at h
    · simp at h
  · intro h
    refine ⟨Nat.le_refl _,.inl ?_⟩
    unfold D;rwa [List.take_length]
theorem openGo_nil {R:Rw}:∀ k,openGo R [] k=[]
  |0=>rfl
  |k+1=>by unfold openGo;rw [openGo_nil k];simp
theorem PL_pre {R:Rw} {w:List Nat} {s:Nat} (h:PL R w=[]):PL R (w++[s])=[]:=by
  rw [PL_snoc,h];exact openGo_nil _
theorem begun_snoc {R:Rw} {x:Option (Nat→Bool)} {w:List Nat}:begun (R++[x]) w↔begun R w∨tk (R++[x]) w=true:=by
  constructor
  · rintro ⟨p,h1,h2⟩
    unfold D at h2
    by_cases hp:p≤R.length
    · rw [List.take_append_of_le_length hp] at h2
      exact .inl ⟨p,hp,h2⟩
    · rw [List.take_of_length_le (by simp;omega)] at h2
      exact .inr h2
  · rintro (⟨p,h1,h2⟩ | h)
    · refine ⟨p,by simp;omega,?_⟩
      unfold D;rw [List.take_append_of_le_length h1];exact h2
    · refine ⟨(R++[x]).length,Nat.le_refl _,?_⟩
      unfold D;rw [List.take_length];exact h
theorem begun_end {R:Rw} {w:List Nat} (h:tk R w=true):begun R w:=⟨R.length,Nat.le_refl _,by unfold D;rwa [List.take_length]⟩
noncomputable def Same (R S:Rw):Prop:=(∀ w,tk R w=tk S w)∧∀ w,begun R w↔begun S w
theorem Same.snoc {R S:Rw} (h:Same R S) (x:Option (Nat→Bool)):Same (R++[x]) (S++[x]):=by
  have ht:∀ w,tk (R++[x]) w=tk (S++[x]) w:=fun w=>by
    have:tk (R++[x]) w=true↔tk (S++[x]) w=true:=by
      rw [tk_app,tk_app];simp only [h.1]
    exact Bool.eq_iff_iff.mpr this
  exact ⟨ht,fun w=>by rw [begun_snoc,begun_snoc,h.2 w,ht w]⟩
theorem Same.star {R S:Rw} (h:Same R (S++[none])):Same (R++[none]) (S++[none]):=by
  have ht:∀ w,tk (R++[none]) w=tk (S++[none]) w:=fun w=>by
    have:tk (R++[none]) w=true↔tk (S++[none]) w=true:=by
      rw [tk_snoc_none]
      simp only [h.1]
      constructor
      · rintro ⟨w1,w2,rfl,h1⟩
        obtain ⟨u1,u2,rfl,h2⟩:=tk_snoc_none.mp h1
        exact tk_snoc_none.mpr ⟨u1,u2++w2,by simp,h2⟩
      · intro h;exact ⟨w,[],by simp,h⟩
    exact Bool.eq_iff_iff.mpr this
  refine ⟨ht,fun w=>?_⟩
  rw [begun_snoc,h.2 w,ht w]
  constructor
  · rintro (h | h)
    · exact h
    · exact begun_end h
  · exact .inl
noncomputable def gd (v:V):Prop:=okV v=true∧(toPy v).depth≤20
theorem gds_ok:∀ {l:List V},(∀ v ∈ l,gd v)→okVs l=true
  |[],_=>rfl
  |a::l,h=>by simp only [okVs,(h a (by simp)).1,gds_ok (l:=l) fun v hv=>h v (List.mem_cons_of_mem _ hv),Bool.and_self]
theorem gds_depth {n:Nat}:∀ {l:List V},(∀ v ∈ l,(toPy v).depth≤n)→PyData.depthAll (toPys l)≤n
  |[],_=>by simp [toPys,PyData.depthAll]
  |a::l,h=>by
    have h1:=h a (by simp)
    have h2:=gds_depth (n:=n) (l:=l) fun v hv=>h v (List.mem_cons_of_mem _ hv)
    simp only [toPys,PyData.depthAll]
    omega
theorem gds_dpt {l:List V} (h:∀ v ∈ l,gd v):dpt (toPy (.frz l))=true:=by
  have:=gds_depth (n:=20) fun v hv=>(h v hv).2
  simp only [dpt,toPy,PyData.depth,decide_eq_true_eq];omega
theorem gd_frz {l:List V} (h:∀ v ∈ l,okV v=true∧(toPy v).depth≤19):gd (.frz l):=by
  refine ⟨?_,?_⟩
  · simp only [okV];exact gds_ok fun v hv=>⟨(h v hv).1,by have:=(h v hv).2;omega⟩
  · have:=gds_depth (n:=19) fun v hv=>(h v hv).2
    simp only [toPy,PyData.depth];omega
theorem eqB_frz {H:Hp} {x y:V} {a b:List V} (hx:resV H x=.frz a) (hy:resV H y=.frz b) (ha:∀ v ∈ a,gd v) (hb:∀ v ∈ b,gd v):eqB H x y=some (PyData.eqvAll (toPys a) (toPys b)):=by
  have e:eqB H x y=eqD H x y:=by
    cases x<;>first | rfl | cases hx
  rw [e]
  unfold eqD
  rw [hx,hy]
  have h1:okV (.frz a)=true:=by simp only [okV];exact gds_ok ha
  have h2:okV (.frz b)=true:=by simp only [okV];exact gds_ok hb
  rw [h1,h2,gds_dpt ha,gds_dpt hb]
  simp only [Bool.and_self,if_true,toPy,PyData.eqv]
theorem eqvAll_nil {a:List V}:PyData.eqvAll (toPys a) (toPys [])=a.isEmpty:=by
  cases a<;>simp [toPys,PyData.eqvAll]
theorem eqB_nil {H:Hp} {x:V} {a:List V} (hx:resV H x=.frz a) (ha:∀ v ∈ a,gd v):eqB H x (.frz [])=some a.isEmpty:=by
  rw [eqB_frz (b:=[]) hx rfl ha (fun v hv=>by cases hv),eqvAll_nil]
theorem eqB_self {H:Hp} {x y:V} {a:List V} (hx:resV H x=.frz a) (hy:resV H y=.frz a) (ha:∀ v ∈ a,gd v):eqB H x y=some true:=by
  rw [eqB_frz hx hy ha ha,PySem.SeqAt.eqvAll_refl _ (lays_of (gds_ok ha))]
theorem gd_int (i:Int):gd (.int i):=⟨rfl,by simp [toPy,PyData.depth]⟩
noncomputable def sgs:List Nat:=[97,38,45,33]
noncomputable def itemOf (t:List Nat):V:=match g_law_item 1000 [.str t] [] with
  |some (v,_)=>v
  |none=>.none
noncomputable def accP (t:List Nat) (s:Nat):Bool:=match g_law_fits [itemOf t,.str [s]] [] with
  |some (.bool b,_)=>b
  |_=>false
noncomputable def isTup:V→Bool
  | .tup _=>true
  |_=>false
theorem sgs_all {P:Nat→Prop} (h1:P 97) (h2:P 38) (h3:P 45) (h4:P 33):∀ s ∈ sgs,P s:=by
  intro s hs
  simp only [sgs,List.mem_cons,List.not_mem_nil,or_false] at hs
  rcases hs with rfl | rfl | rfl | rfl
  · exact h1
  · exact h2
  · exact h3
  · exact h4
structure PtOk (t:List Nat):Prop where
  item:g_law_item 1000 [.str t] []=some (itemOf t,[])
  tup:isTup (itemOf t)=true
  no:(itemOf t).noLst=true
  ns:(itemOf t).noStar=true
  ok:okV (itemOf t)=true
  dp:(toPy (itemOf t)).depth≤10
  fits:∀ s ∈ sgs,g_law_fits [itemOf t,.str [s]] []=some (.bool (accP t s),[])
structure TdOk (told:V) (t:List Nat):Prop where
  tup:isTup told=true
  no:told.noLst=true
  ok:okV told=true
  dp:(toPy told).depth≤10
  means:∀ s ∈ sgs,g_law_means [told,.str [s]] []=some (.bool (accP t s),[])
noncomputable def PcOk (c:Pc):Prop:=match c.part with
  |none=>c.told=.none
  |some t=>PtOk t∧TdOk c.told t
theorem pt_46:PtOk [46]:=⟨by kernel_rfl,by kernel_rfl,by kernel_rfl,by kernel_rfl,by kernel_rfl,by decide +kernel,sgs_all (by kernel_rfl) (by kernel_rfl) (by kernel_rfl) (by kernel_rfl)⟩
theorem td_63:TdOk (.tup [.bool true,.str []]) [46]:=⟨by kernel_rfl,by kernel_rfl,by kernel_rfl,by decide +kernel,sgs_all (by kernel_rfl) (by kernel_rfl) (by kernel_rfl) (by kernel_rfl)⟩
theorem pt_97:PtOk [97]:=⟨by kernel_rfl,by kernel_rfl,by kernel_rfl,by kernel_rfl,by kernel_rfl,by decide +kernel,sgs_all (by kernel_rfl) (by kernel_rfl) (by kernel_rfl) (by kernel_rfl)⟩
theorem td_97:TdOk (.tup [.bool false,.str [97]]) [97]:=⟨by kernel_rfl,by kernel_rfl,by kernel_rfl,by decide +kernel,sgs_all (by kernel_rfl) (by kernel_rfl) (by kernel_rfl) (by kernel_rfl)⟩
theorem pt_92_38:PtOk [92,38]:=⟨by kernel_rfl,by kernel_rfl,by kernel_rfl,by kernel_rfl,by kernel_rfl,by decide +kernel,sgs_all (by kernel_rfl) (by kernel_rfl) (by kernel_rfl) (by kernel_rfl)⟩
theorem td_38:TdOk (.tup [.bool false,.str [38]]) [92,38]:=⟨by kernel_rfl,by kernel_rfl,by kernel_rfl,by decide +kernel,sgs_all (by kernel_rfl) (by kernel_rfl) (by kernel_rfl) (by kernel_rfl)⟩
theorem pt_92_45:PtOk [92,45]:=⟨by kernel_rfl,by kernel_rfl,by kernel_rfl,by kernel_rfl,by kernel_rfl,by decide +kernel,sgs_all (by kernel_rfl) (by kernel_rfl) (by kernel_rfl) (by kernel_rfl)⟩
theorem td_45:TdOk (.tup [.bool false,.str [45]]) [92,45]:=⟨by kernel_rfl,by kernel_rfl,by kernel_rfl,by decide +kernel,sgs_all (by kernel_rfl) (by kernel_rfl) (by kernel_rfl) (by kernel_rfl)⟩
theorem pt_33:PtOk [33]:=⟨by kernel_rfl,by kernel_rfl,by kernel_rfl,by kernel_rfl,by kernel_rfl,by decide +kernel,sgs_all (by kernel_rfl) (by kernel_rfl) (by kernel_rfl) (by kernel_rfl)⟩
theorem td_33:TdOk (.tup [.bool false,.str [33]]) [33]:=⟨by kernel_rfl,by kernel_rfl,by kernel_rfl,by decide +kernel,sgs_all (by kernel_rfl) (by kernel_rfl) (by kernel_rfl) (by kernel_rfl)⟩
theorem pt_91_97_92_38_93:PtOk [91,97,92,38,93]:=⟨by kernel_rfl,by kernel_rfl,by kernel_rfl,by kernel_rfl,by kernel_rfl,by decide +kernel,sgs_all (by kernel_rfl) (by kernel_rfl) (by kernel_rfl) (by kernel_rfl)⟩
theorem td_91_97_38_93:TdOk (.tup [.bool false,.str [97,38]]) [91,97,92,38,93]:=⟨by kernel_rfl,by kernel_rfl,by kernel_rfl,by decide +kernel,sgs_all (by kernel_rfl) (by kernel_rfl) (by kernel_rfl) (by kernel_rfl)⟩
theorem pt_91_94_92_38_93:PtOk [91,94,92,38,93]:=⟨by kernel_rfl,by kernel_rfl,by kernel_rfl,by kernel_rfl,by kernel_rfl,by decide +kernel,sgs_all (by kernel_rfl) (by kernel_rfl) (by kernel_rfl) (by kernel_rfl)⟩
theorem td_91_33_38_93:TdOk (.tup [.bool true,.str [38]]) [91,94,92,38,93]:=⟨by kernel_rfl,by kernel_rfl,by kernel_rfl,by decide +kernel,sgs_all (by kernel_rfl) (by kernel_rfl) (by kernel_rfl) (by kernel_rfl)⟩
theorem pt_91_92_38_92_38_93:PtOk [91,92,38,92,38,93]:=⟨by kernel_rfl,by kernel_rfl,by kernel_rfl,by kernel_rfl,by kernel_rfl,by decide +kernel,sgs_all (by kernel_rfl) (by kernel_rfl) (by kernel_rfl) (by kernel_rfl)⟩
theorem td_91_38_38_93:TdOk (.tup [.bool false,.str [38]]) [91,92,38,92,38,93]:=⟨by kernel_rfl,by kernel_rfl,by kernel_rfl,by decide +kernel,sgs_all (by kernel_rfl) (by kernel_rfl) (by kernel_rfl) (by kernel_rfl)⟩
theorem pt_91_94_97_93:PtOk [91,94,97,93]:=⟨by kernel_rfl,by kernel_rfl,by kernel_rfl,by kernel_rfl,by kernel_rfl,by decide +kernel,sgs_all (by kernel_rfl) (by kernel_rfl) (by kernel_rfl) (by kernel_rfl)⟩
theorem td_91_33_97_93:TdOk (.tup [.bool true,.str [97]]) [91,94,97,93]:=⟨by kernel_rfl,by kernel_rfl,by kernel_rfl,by decide +kernel,sgs_all (by kernel_rfl) (by kernel_rfl) (by kernel_rfl) (by kernel_rfl)⟩
theorem pt_91_97_92_45_93:PtOk [91,97,92,45,93]:=⟨by kernel_rfl,by kernel_rfl,by kernel_rfl,by kernel_rfl,by kernel_rfl,by decide +kernel,sgs_all (by kernel_rfl) (by kernel_rfl) (by kernel_rfl) (by kernel_rfl)⟩
theorem td_91_97_45_93:TdOk (.tup [.bool false,.str [97,45]]) [91,97,92,45,93]:=⟨by kernel_rfl,by kernel_rfl,by kernel_rfl,by decide +kernel,sgs_all (by kernel_rfl) (by kernel_rfl) (by kernel_rfl) (by kernel_rfl)⟩
theorem pt_91_94_92_45_93:PtOk [91,94,92,45,93]:=⟨by kernel_rfl,by kernel_rfl,by kernel_rfl,by kernel_rfl,by kernel_rfl,by decide +kernel,sgs_all (by kernel_rfl) (by kernel_rfl) (by kernel_rfl) (by kernel_rfl)⟩
theorem td_91_33_45_93:TdOk (.tup [.bool true,.str [45]]) [91,94,92,45,93]:=⟨by kernel_rfl,by kernel_rfl,by kernel_rfl,by decide +kernel,sgs_all (by kernel_rfl) (by kernel_rfl) (by kernel_rfl) (by kernel_rfl)⟩
theorem pt_91_94_33_93:PtOk [91,94,33,93]:=⟨by kernel_rfl,by kernel_rfl,by kernel_rfl,by kernel_rfl,by kernel_rfl,by decide +kernel,sgs_all (by kernel_rfl) (by kernel_rfl) (by kernel_rfl) (by kernel_rfl)⟩
theorem td_91_33_33_93:TdOk (.tup [.bool true,.str [33]]) [91,94,33,93]:=⟨by kernel_rfl,by kernel_rfl,by kernel_rfl,by decide +kernel,sgs_all (by kernel_rfl) (by kernel_rfl) (by kernel_rfl) (by kernel_rfl)⟩
theorem pt_91_92_38_45_97_93:PtOk [91,92,38,45,97,93]:=⟨by kernel_rfl,by kernel_rfl,by kernel_rfl,by kernel_rfl,by kernel_rfl,by decide +kernel,sgs_all (by kernel_rfl) (by kernel_rfl) (by kernel_rfl) (by kernel_rfl)⟩
theorem td_91_38_45_97_93:TdOk (.tup [.bool false,.str [38,45,97]]) [91,92,38,45,97,93]:=⟨by kernel_rfl,by kernel_rfl,by kernel_rfl,by decide +kernel,sgs_all (by kernel_rfl) (by kernel_rfl) (by kernel_rfl) (by kernel_rfl)⟩
theorem pt_40_63_33_41:PtOk [40,63,33,41]:=⟨by kernel_rfl,by kernel_rfl,by kernel_rfl,by kernel_rfl,by kernel_rfl,by decide +kernel,sgs_all (by kernel_rfl) (by kernel_rfl) (by kernel_rfl) (by kernel_rfl)⟩
theorem td_91_97_45_38_93:TdOk (.tup [.bool false,.str []]) [40,63,33,41]:=⟨by kernel_rfl,by kernel_rfl,by kernel_rfl,by decide +kernel,sgs_all (by kernel_rfl) (by kernel_rfl) (by kernel_rfl) (by kernel_rfl)⟩
theorem td_91_33_97_45_38_93:TdOk (.tup [.bool true,.str []]) [46]:=⟨by kernel_rfl,by kernel_rfl,by kernel_rfl,by decide +kernel,sgs_all (by kernel_rfl) (by kernel_rfl) (by kernel_rfl) (by kernel_rfl)⟩
theorem pcOk:∀ c ∈ pcs,PcOk c:=pcs_all rfl ⟨pt_46,td_63⟩ ⟨pt_97,td_97⟩ ⟨pt_92_38,td_38⟩ ⟨pt_92_45,td_45⟩ ⟨pt_33,td_33⟩ ⟨pt_91_97_92_38_93,td_91_97_38_93⟩ ⟨pt_91_94_92_38_93,td_91_33_38_93⟩ ⟨pt_91_92_38_92_38_93,td_91_38_38_93⟩ ⟨pt_91_94_97_93,td_91_33_97_93⟩ ⟨pt_91_97_92_45_93,td_91_97_45_93⟩ ⟨pt_91_94_92_45_93,td_91_33_45_93⟩ ⟨pt_91_94_33_93,td_91_33_33_93⟩ ⟨pt_91_92_38_45_97_93,td_91_38_45_97_93⟩ ⟨pt_40_63_33_41,td_91_97_45_38_93⟩ ⟨pt_46,td_91_33_97_45_38_93⟩
noncomputable def A (c:Pc):Option (Nat→Bool):=c.part.map accP
theorem seqS_rt {f g:FS} {ρ ρ1:Rho} {H H1:Hp} {v:V} (h:f ρ H=some (.rt v,ρ1,H1)):seqS f g ρ H=some (.rt v,ρ1,H1):=by unfold seqS;rw [h]
theorem told_gd {c:Pc} (hc:c ∈ pcs):gd c.told∧c.told.noLst=true∧(toPy c.told).depth≤10:=by
  have:=pcOk c hc
  unfold PcOk at this
  split at this
  · rw [this];exact ⟨⟨rfl,by simp [toPy,PyData.depth]⟩,rfl,by simp [toPy,PyData.depth]⟩
  · exact ⟨⟨this.2.ok,by have:=this.2.dp;omega⟩,this.2.no,this.2.dp⟩
theorem tolds_no:∀ {R:List Pc},(∀ c ∈ R,c ∈ pcs)→noLsts (R.map Pc.told)=true
  |[],_=>rfl
  |c::R,h=>by simp only [List.map_cons,nlc,(told_gd (h c (by simp))).2.1,tolds_no (R:=R) fun x hx=>h x (List.mem_cons_of_mem _ hx),Bool.and_self]
theorem tolds_gd {R:List Pc} (h:∀ c ∈ R,c ∈ pcs):∀ v ∈ R.map Pc.told,gd v:=by
  intro v hv
  obtain ⟨c,hc,rfl⟩:=List.mem_map.mp hv
  exact (told_gd (h c hc)).1
theorem sliceL_one {α:Type} (l:List α):sliceL l (some 1) none=l.drop 1:=by
  unfold sliceL
  have e:clipAt l.length 1=min 1 l.length:=clipAt_nat l.length 1
  simp only [Option.elim,e]
  cases l with
  |nil=>rfl
  |cons a l=>
    have:min 1 (a::l).length=1:=by simp
    rw [this]
    simp
theorem takes_run {k:Nat} {l:List V} {w:List Nat} {b:Bool} {ρ':Rho} (h:f_law_takes (g_law_takes k) [some (.frz l),some (.str w)] []=some (.rt (.bool b),ρ',[])):g_law_takes (k+1) [.frz l,.str w] []=some (.bool b,[]):=by
  show runF 0 (f_law_takes (g_law_takes k)) _ _=_
  exact run0 h rfl
theorem ne_nil {w:List Nat} {ρ:Rho} (h:ρ[1]?=some (some (.str w))):bin neV (getV 1) (cStr []) ρ []=some (.bool (!w.isEmpty),[]):=by
  have:(w == [])=w.isEmpty:=by cases w<;>rfl
  simp [bin,getV,h,cStr,neV,z_eqs,this]
set_option tactic.hygienic true in
theorem takes_ok:∀ (k:Nat) (R:List Pc) (w:List Nat),(∀ c ∈ R,c ∈ pcs)→(∀ s ∈ w,s ∈ sgs)→R.length+w.length < k→R.length≤10→w.length≤10→
    g_law_takes k [.frz (R.map Pc.told),.str w] []=some (.bool (tk (R.map A) w),[])
  |k+1,[],w,_,_,_,_,_=>by
    refine takes_run (ρ':=[some (.frz []),some (.str w)]) ?_
    have e1:tB (bin eqV (getV 0) (lstF [])) [some (.frz []),some (.str w)] []=some (true,[]):=rfl
    have e2:retS (bin eqV (getV 1) (cStr [])) [some (.frz []),some (.str w)] []=some (.rt (.bool (w == [])),[some (.frz []),some (.str w)],[]):=rfl
    have:(w == [])=w.isEmpty:=by cases w<;>rfl
    have e3:(ifS (tB (bin eqV (getV 0) (lstF []))) (retS (bin eqV (getV 1) (cStr []))) nopS) [some (.frz []),some (.str w)] []=some (.rt (.bool (w == [])),[some (.frz []),some (.str w)],[]):=by
      simp only [ifS,e1,e2]
    rw [this] at e3
    rw [List.map_nil,List.map_nil,tk_e]
    exact seqS_rt e3
  |k+1,c::R,w,hR,hw,hk,hl,hwl=>by
    have hcp:=hR c (by simp)
    have hRp:∀ x ∈ R,x ∈ pcs:=fun x hx=>hR x (by simp [hx])
    have hno:=tolds_no hR
    have hnoR:=tolds_no hRp
    simp only [List.length_cons] at hk hl
    have hz:((c::R).map Pc.told).length≤SZ:=by simp only [List.length_map,List.length_cons,SZ];omega
    have hz':(c.told::R.map Pc.told).length≤SZ:=hz
    have hwz:w.length≤SZ:=by simp only [SZ];omega
    obtain ⟨ρ,hρ⟩ : ∃ ρ:Rho,ρ=[some (.frz ((c::R).map Pc.told)),some (.str w)]:=⟨_,rfl⟩
    have gx:getV 0 ρ []=some (.frz ((c::R).map Pc.told),[]):=by rw [hρ];rfl
    have gy:getV 1 ρ []=some (.str w,[]):=by rw [hρ];rfl
    have hsl:slc (getV 0) (cInt 1) cNone ρ []=some (.frz (R.map Pc.told),[]):=by
      simp only [slc,gx,cInt,cNone,z_slf1,hz,if_true,sliceL_one]
      rfl
    have hsw:∀ a w',w=a::w'→slc (getV 1) (cInt 1) cNone ρ []=some (.str w',[]):=by
      intro a w' e
      simp only [slc,gy,cInt,cNone,z_sls1,hwz,if_true,sliceL_one]
      rw [e];rfl
    have hx0:bin idxV (getV 0) (cInt 0) ρ []=some (c.told,[]):=by
      have:idxL ((c::R).map Pc.told) 0=some c.told:=(idxL_ge (i:=0) hz).trans rfl
      simp only [bin,gx,cInt,z_idf,this]
    have e1:tB (bin eqV (getV 0) (lstF [])) ρ []=some (false,[]):=by
      have:=eqB_nil (H:=[]) (x:=.frz ((c::R).map Pc.told)) rfl (tolds_gd hR)
      simp only [tB,bin,gx,lstF,seqF,eqV,this,Option.map_some,z_trb]
      rfl
    have e2:(ifS (tB (bin eqV (getV 0) (lstF []))) (retS (bin eqV (getV 1) (cStr []))) nopS) ρ []=some (.nx,ρ,[]):=by
      simp only [ifS,e1,nopS]
    refine takes_run (ρ':=ρ) ?_
    show f_law_takes (g_law_takes k) [some (.frz ((c::R).map Pc.told)),some (.str w)] []=_
    rw [← hρ]
    rw [f_law_takes,seqS_nx e2]
    have hok:=pcOk c hcp
    unfold PcOk at hok
    have hne:=ne_nil (w:=w) (ρ:=ρ) (by rw [hρ];rfl)
    split at hok
    · rename_i hp
      have e3:tB (bin isV (bin idxV (getV 0) (cInt 0)) cNone) ρ []=some (true,[]):=by
        rw [hok] at hx0
        simp only [tB,bin] at hx0 ⊢
        rw [hx0]
        rfl
      have hA:(c::R).map A=none::R.map A:=by simp [A,hp]
      have ih1:=takes_ok k R w hRp hw (by omega) (by omega) hwl
      have f1:=funF_ok (g:=g_law_takes k) (fs:=[(slc (getV 0) (cInt 1) cNone),(getV 1)]) (ρ:=ρ) (H:=[]) (xs:=[.frz (R.map Pc.told),.str w]) (by simp only [seqF,hsl,gy]) (by simp [nlc,nln,nlf,nls,hnoR]) ih1
      have e4:orF [(funF (g_law_takes k) [(slc (getV 0) (cInt 1) cNone),(getV 1)]),(andF [(bin neV (getV 1) (cStr [])),(funF (g_law_takes k) [(getV 0),(slc (getV 1) (cInt 1) cNone)])])] ρ []=some (.bool (tk ((c::R).map A) w),[]):=by
        cases hw1:w with
        |nil=>
          subst hw1
          rw [hA,tk_nn]
          simp only [orF,f1,z_trb,andF,hne]
          cases tk (R.map A) []<;>rfl
        |cons a w'=>
          have hsw':=hsw a w' hw1
          have ih2:=takes_ok k (c::R) w' hR (fun s hs=>hw s (by rw [hw1];simp [hs])) (by rw [hw1] at hk;simp at hk ⊢;omega) (by simp;omega) (by rw [hw1] at hwl;simp at hwl;omega)
          have f2:=funF_ok (g:=g_law_takes k) (fs:=[(getV 0),(slc (getV 1) (cInt 1) cNone)]) (ρ:=ρ) (H:=[]) (xs:=[.frz ((c::R).map Pc.told),.str w']) (by simp only [seqF,gx,hsw']) (by simp only [nlc,nln,nlf,nls,hno,Bool.and_self]) ih2
          have hne':(!w.isEmpty)=true:=by rw [hw1];rfl
          rw [← hw1,hA]
          have ht:tk (none::R.map A) w=(tk (R.map A) w || tk (none::R.map A) w'):=by rw [hw1,tk_nc]
          rw [ht]
          rw [hA] at f2
          simp only [orF,f1,z_trb,andF,hne,hne',if_true,f2]
          cases tk (R.map A) w<;>rfl
      have e5:(ifS (tB (bin isV (bin idxV (getV 0) (cInt 0)) cNone)) (retS (orF [(funF (g_law_takes k) [(slc (getV 0) (cInt 1) cNone),(getV 1)]),(andF [(bin neV (getV 1) (cStr [])),(funF (g_law_takes k) [(getV 0),(slc (getV 1) (cInt 1) cNone)])])])) nopS) ρ []=some (.rt (.bool (tk ((c::R).map A) w)),ρ,[]):=by
        simp only [ifS,e3,retS,e4]
      exact seqS_rt e5
    · rename_i t hp
      obtain ⟨hpt,htd⟩:=hok
      have hA:(c::R).map A=some (accP t)::R.map A:=by simp [A,hp]
      have e3:tB (bin isV (bin idxV (getV 0) (cInt 0)) cNone) ρ []=some (false,[]):=by
        have htup:=htd.tup
        simp only [tB,bin] at hx0 ⊢
        rw [hx0]
        generalize c.told=v at htup
        cases v<;>first | rfl | (exact absurd htup (by simp [isTup]))
      have e4:(ifS (tB (bin isV (bin idxV (getV 0) (cInt 0)) cNone)) (retS (orF [(funF (g_law_takes k) [(slc (getV 0) (cInt 1) cNone),(getV 1)]),(andF [(bin neV (getV 1) (cStr [])),(funF (g_law_takes k) [(getV 0),(slc (getV 1) (cInt 1) cNone)])])])) nopS) ρ []=some (.nx,ρ,[]):=by
        simp only [ifS,e3,nopS]
      rw [seqS_nx e4,hA]
      cases hw1:w with
      |nil=>
        subst hw1
        rw [tk_sn]
        simp only [retS,andF,hne,z_trb]
        rfl
      |cons a w'=>
        have hsw':=hsw a w' hw1
        have hm:=htd.means a (hw a (by rw [hw1];simp))
        have hx1:bin idxV (getV 1) (cInt 0) ρ []=some (.str [a],[]):=by
          have:idxL w 0=some a:=by rw [show (0:Int)=((0:Nat):Int) from rfl,idxL_ge hwz,hw1];rfl
          simp only [bin,gy,cInt,z_ids,this,Option.map_some]
        have f1:=funF_ok (g:=g_law_means) (fs:=[(bin idxV (getV 0) (cInt 0)),(bin idxV (getV 1) (cInt 0))]) (ρ:=ρ) (H:=[]) (xs:=[c.told,.str [a]]) (by simp only [seqF,hx0,hx1]) (by simp only [nlc,nln,nls,htd.no,Bool.and_self]) hm
        have ih2:=takes_ok k R w' hRp (fun s hs=>hw s (by rw [hw1];simp [hs])) (by rw [hw1] at hk;simp at hk ⊢;omega) (by omega) (by rw [hw1] at hwl;simp at hwl;omega)
        have f2:=funF_ok (g:=g_law_takes k) (fs:=[(slc (getV 0) (cInt 1) cNone),(slc (getV 1) (cInt 1) cNone)]) (ρ:=ρ) (H:=[]) (xs:=[.frz (R.map Pc.told),.str w']) (by simp only [seqF,hsl,hsw']) (by simp only [nlc,nln,nlf,nls,hnoR,Bool.and_self]) ih2
        have hne':(!w.isEmpty)=true:=by rw [hw1];rfl
        rw [tk_sc]
        simp only [retS,andF,hne,hne',z_trb,if_true,f1,f2]
        cases accP t a<;>rfl
theorem comp_map {elt:FE} {rest:Rho} {f:V→V}:∀ (vs:List V) (x:Option V),(∀ v ∈ vs,elt (some v::rest) []=some (f v,[]))→∃ x',compGo (leafC elt) (tgN 0) [] vs (x::rest)=some (vs.map f,x'::rest)
  |[],x,_=>⟨x,rfl⟩
  |v::vs,x,h=>by
    obtain ⟨x',ih⟩:=comp_map vs (some v) fun u hu=>h u (by simp [hu])
    have h1:=h v (by simp)
    refine ⟨x',?_⟩
    exact cg_on rfl rfl (leaf_ok h1) ih
theorem comp_filter {cs:List FT} {rest:Rho} {p:V→Bool}:∀ (vs:List V) (x:Option V),(∀ v ∈ vs,tAll0 cs (some v::rest)=some (p v))→∃ x',compGo (leafC (getV 0)) (tgN 0) cs vs (x::rest)=some (vs.filter p,x'::rest)
  |[],x,_=>⟨x,rfl⟩
  |v::vs,x,h=>by
    obtain ⟨x',ih⟩:=comp_filter vs (some v) fun u hu=>h u (by simp [hu])
    have h1:=h v (by simp)
    refine ⟨x',?_⟩
    have e:leafC (getV 0) (some v::rest)=some ([v],some v::rest):=rfl
    cases hp:p v with
    |true=>
      rw [hp] at h1
      rw [List.filter_cons_of_pos hp]
      exact cg_on rfl h1 e ih
    |false=>
      rw [hp] at h1
      rw [List.filter_cons_of_neg (by rw [hp];exact Bool.false_ne_true)]
      exact cg_off rfl h1 ih
theorem rng_nat:∀ (k x:Nat),rngL (x:Int) 1 k=(List.range' x k).map fun i=>V.int (i:Nat)
  |0,x=>rfl
  |k+1,x=>by
    have:=rng_nat k (x+1)
    simp only [rngL,List.range'_succ,List.map_cons]
    rw [← this]
    congr 1
theorem rng_zero (k:Nat):rngL 0 1 k=(List.range k).map fun i=>V.int (i:Nat):=by
  rw [List.range_eq_range'];exact rng_nat k 0
theorem rngG_one {n:Nat} (h:n≤1000):rngG [.int (n:Int)]=some ((List.range n).map fun i=>V.int (i:Nat)):=by
  rw [← rng_zero]
  have h1:(n:Int).toNat=n:=by omega
  show (if (n:Int).natAbs≤SZ then some (rngL 0 1 ((n:Int) - 0).toNat) else none)=_
  rw [if_pos (by simp only [SZ];omega),Int.sub_zero,h1]
theorem ints_gd {α:Type} {l:List α} {f:α→Int}:∀ v ∈ l.map (fun i=>V.int (f i)),gd v:=by
  intro v hv
  obtain ⟨i,_,rfl⟩:=List.mem_map.mp hv
  exact gd_int _
theorem ints_no {α:Type} {f:α→Int}:∀ {l:List α},noLsts (l.map fun i=>V.int (f i))=true
  |[]=>rfl
  |a::l=>by simp only [List.map_cons,nlc,nli,Bool.true_and];exact ints_no
noncomputable def begB (R:Rw) (w:List Nat):Bool:=(List.range (R.length+1)).any fun p=>tk (R.take p) w
theorem begB_iff {R:Rw} {w:List Nat}:begB R w=true↔begun R w:=by
  unfold begB begun D
  rw [List.any_eq_true]
  constructor
  · rintro ⟨p,h1,h2⟩;exact ⟨p,by rw [List.mem_range] at h1;omega,h2⟩
  · rintro ⟨p,h1,h2⟩;exact ⟨p,List.mem_range.mpr (by omega),h2⟩
theorem sliceL_to {α:Type} (l:List α) {k:Nat} (hk:k≤l.length):sliceL l none (some (k:Int))=l.take k:=by
  unfold sliceL
  simp only [Option.elim,clipAt_ok hk,List.drop_zero,Nat.sub_zero]
theorem begun_ok {R:List Pc} {w:List Nat} (hR:∀ c ∈ R,c ∈ pcs) (hw:∀ s ∈ w,s ∈ sgs) (hl:R.length≤9) (hwl:w.length≤10):g_law_begun [.frz (R.map Pc.told),.str w] []=some (.bool (begB (R.map A) w),[]):=by
  have hno:=tolds_no hR
  have hz:(R.map Pc.told).length≤SZ:=by simp only [List.length_map,SZ];omega
  have hstep:∀ v ∈ (List.range (R.length+1)).map (fun i=>V.int (i:Nat)),tAll0 [(tB (funF (g_law_takes 20) [(slc (getV 1) cNone (getV 0)),(getV 2)]))] (some v::[some (.frz (R.map Pc.told)),some (.str w)])=some (match v with | .int i=>tk ((R.map A).take i.toNat) w | _=>false):=by
    intro v hv
    obtain ⟨i,hi,rfl⟩:=List.mem_map.mp hv
    rw [List.mem_range] at hi
    have hsub:∀ c ∈ R.take i,c ∈ pcs:=fun c hc=>hR c (List.mem_of_mem_take hc)
    have h1:=takes_ok 20 (R.take i) w hsub hw (by simp;omega) (by simp;omega) hwl
    have hs:slc (getV 1) cNone (getV 0) [some (.int (i:Nat)),some (.frz (R.map Pc.told)),some (.str w)] []=some (.frz ((R.take i).map Pc.told),[]):=by
      simp only [slc,getV,cNone,gs,gz,z_slf0,hz,if_true]
      rw [sliceL_to _ (by simp;omega),List.map_take]
    have f1:=funF_ok (g:=g_law_takes 20) (fs:=[(slc (getV 1) cNone (getV 0)),(getV 2)]) (ρ:=[some (.int (i:Nat)),some (.frz (R.map Pc.told)),some (.str w)]) (H:=[]) (xs:=[.frz ((R.take i).map Pc.told),.str w]) (by simp only [seqF,hs];rfl) (by simp only [nlc,nln,nlf,nls,tolds_no hsub,Bool.and_self]) h1
    have e:((i:Nat):Int).toNat=i:=by omega
    refine tall_1 ?_
    simp only [tB,f1,z_trb,List.map_take,e]
  obtain ⟨x',hc⟩:=comp_filter (p:=fun v=>match v with | .int i=>tk ((R.map A).take i.toNat) w | _=>false) ((List.range (R.length+1)).map (fun i=>V.int (i:Nat))) none hstep
  have hrng:noL (rngF [(bin addV (calF lenG [(getV 0)]) (cInt 1))]) [some (.frz (R.map Pc.told)),some (.str w)] []=some ((List.range (R.length+1)).map (fun i=>V.int (i:Nat)),[]):=by
    have h0:seqF [(bin addV (calF lenG [(getV 0)]) (cInt 1))] [some (.frz (R.map Pc.told)),some (.str w)] []=some ([.int ((R.length+1:Nat):Int)],[]):=by
      have hz2:R.length≤SZ:=by simp only [SZ];omega
      simp only [seqF,bin,calF,getV,gz,z_lenf,List.length_map,hz2,if_true,z_add,cInt]
      rfl
    simp only [noL,rngF,h0,rngG_one (n:=R.length+1) (by omega),ints_no,if_true]
  have hf:List.replicate 1 none++[0,1].map (freeV [some (.frz (R.map Pc.told)),some (.str w)])=none::[some (.frz (R.map Pc.told)),some (.str w)]:=by
    rw [List.map_cons,List.map_cons,free_ok rfl (show (V.frz _).noLst=true from hno),free_ok rfl rfl];rfl
  have hcomp:compF (noL (rngF [(bin addV (calF lenG [(getV 0)]) (cInt 1))])) 1 [0,1] (leafC (getV 0)) (tgN 0) [(tB (funF (g_law_takes 20) [(slc (getV 1) cNone (getV 0)),(getV 2)]))] [some (.frz (R.map Pc.told)),some (.str w)] [] =
      some (.frz (((List.range (R.length+1)).map (fun i=>V.int (i:Nat))).filter fun v=>match v with | .int i=>tk ((R.map A).take i.toNat) w | _=>false),[]):=by
    have hlen:(((List.range (R.length+1)).map (fun i=>V.int (i:Nat))).filter fun v=>match v with | .int i=>tk ((R.map A).take i.toNat) w | _=>false).length≤SZ:=by
      refine Nat.le_trans (List.length_filter_le _ _) ?_
      simp only [List.length_map,List.length_range,SZ];omega
    simp only [compF,hrng,hf,hc,hlen,if_true]
  have hgd:∀ v ∈ (((List.range (R.length+1)).map (fun i=>V.int (i:Nat))).filter fun v=>match v with | .int i=>tk ((R.map A).take i.toNat) w | _=>false),gd v:=fun v hv=>ints_gd v (List.mem_filter.mp hv).1
  have hb:(!(((List.range (R.length+1)).map (fun i=>V.int (i:Nat))).filter fun v=>match v with | .int i=>tk ((R.map A).take i.toNat) w | _=>false).isEmpty)=begB (R.map A) w:=by
    rw [Bool.eq_iff_iff]
    unfold begB
    simp only [Bool.not_eq_true',List.any_eq_true,List.length_map]
    constructor
    · intro h
      cases hq:(((List.range (R.length+1)).map (fun i=>V.int (i:Nat))).filter fun v=>match v with | .int i=>tk ((R.map A).take i.toNat) w | _=>false) with
      |nil=>rw [hq] at h;cases h
      |cons v l=>
        have hv:v ∈ (((List.range (R.length+1)).map (fun i=>V.int (i:Nat))).filter fun v=>match v with | .int i=>tk ((R.map A).take i.toNat) w | _=>false):=by rw [hq];simp
        obtain ⟨h1,h2⟩:=List.mem_filter.mp hv
        obtain ⟨i,hi,rfl⟩:=List.mem_map.mp h1
        exact ⟨i,hi,h2⟩
    · rintro ⟨i,hi,h2⟩
      have hv:V.int (i:Nat) ∈ (((List.range (R.length+1)).map (fun i=>V.int (i:Nat))).filter fun v=>match v with | .int i=>tk ((R.map A).take i.toNat) w | _=>false):=List.mem_filter.mpr ⟨List.mem_map.mpr ⟨i,hi,rfl⟩,h2⟩
      cases hq:(((List.range (R.length+1)).map (fun i=>V.int (i:Nat))).filter fun v=>match v with | .int i=>tk ((R.map A).take i.toNat) w | _=>false) with
      |nil=>rw [hq] at hv;cases hv
      |cons v l=>rfl
  have e:f_law_begun [some (.frz (R.map Pc.told)),some (.str w)] []=some (.rt (.bool (begB (R.map A) w)),[some (.frz (R.map Pc.told)),some (.str w)],[]):=by
    have:=eqB_nil (H:=[]) (x:=.frz (((List.range (R.length+1)).map (fun i=>V.int (i:Nat))).filter fun v=>match v with | .int i=>tk ((R.map A).take i.toNat) w | _=>false)) rfl hgd
    simp only [f_law_begun,retS,bin,hcomp,lstF,seqF,neV,this,Option.map_some,hb]
  show runF 0 f_law_begun _ _=_
  exact run0 e rfl
noncomputable def itV:Pt→V
  |none=>.none
  |some t=>itemOf t
noncomputable def AP (x:Pt):Option (Nat→Bool):=x.map accP
noncomputable def POk (r:List Pt):Prop:=∀ t,some t ∈ r→PtOk t
noncomputable def I (l:List Nat):List V:=l.map fun i=>V.int (i:Nat)
theorem I_no (l:List Nat):noLsts (I l)=true:=ints_no
theorem its_no:∀ {r:List Pt},POk r→noLsts (r.map itV)=true
  |[],_=>rfl
  |none::r,h=>by
    simp only [List.map_cons,nlc,itV]
    exact its_no fun t ht=>h t (List.mem_cons_of_mem _ ht)
  |some t::r,h=>by
    simp only [List.map_cons,nlc,itV,(h t (by simp)).no,Bool.true_and]
    exact its_no fun t ht=>h t (List.mem_cons_of_mem _ ht)
theorem isV_it {r:List Pt} {H:Hp} {p:Nat} {x:Pt} (h:POk r) (hx:r[p]?=some x):isV H (itV x) .none=some (.bool (decide (x=none))):=by
  cases x with
  |none=>rfl
  |some t=>
    have ht:=(h t (List.mem_of_getElem? hx)).tup
    simp only [itV]
    generalize itemOf t=v at *
    cases v<;>first | rfl | (exact absurd ht (by simp [isTup]))
theorem inB_ints {H:Hp} {c:V} {rc:List Nat} {k:Int} (hc:resV H c=.frz (I rc)):inB H (.int k) c=some (rc.any fun y=>((y:Nat):Int) == k):=by
  show inB2 H (.int k) c=_
  unfold inB2
  rw [hc]
  have h1:okVs (I rc)=true:=gds_ok ints_gd
  have h2:dpt (toPy (.int k))=true:=by simp [dpt,toPy,PyData.depth]
  show (if (okV (.int k) && okVs (I rc) && dpt (toPy (.int k)))=true then some ((I rc).any fun y=>PyData.eqv (toPy y) (toPy (.int k))) else none)=_
  rw [h1,h2]
  simp only [okV,Bool.and_self,if_true,I,List.any_map,Function.comp_def,toPy,PyData.eqv]
theorem any_mem {rc:List Nat} {k:Nat}:(rc.any fun y=>((y:Nat):Int) == (k:Int))=decide (k ∈ rc):=by
  rw [Bool.eq_iff_iff,List.any_eq_true,decide_eq_true_eq]
  constructor
  · rintro ⟨y,h1,h2⟩
    have:(y:Int)=(k:Int):=by simpa using h2
    have:y=k:=by omega
    rw [← this];exact h1
  · intro h;exact ⟨k,h,by simp⟩
theorem any_neg {rc:List Nat}:(rc.any fun y=>((y:Nat):Int) == -1)=false:=by
  rw [Bool.eq_false_iff]
  intro h
  obtain ⟨y,_,h2⟩:=List.any_eq_true.mp h
  have:(y:Int) = -1:=by simpa using h2
  omega
noncomputable abbrev OS (row:List V) (x:V) (a:Nat) (c3:Option V):Rho:=[some (.frz row),some x,some (.lst a),c3]
noncomputable def bOp:FS:=(ifS (tOr [(tB (bin inV (getV 3) (getV 1))),(tAnd [(tB (bin inV (bin subV (getV 3) (cInt 1)) (getV 2))),(tB (bin isV (bin idxV (getV 0) (bin subV (getV 3) (cInt 1))) cNone))])]) (expS (apdF (getV 2) (getV 3))) nopS)
theorem f_open_eq:f_law_open=seqS (setS 2 (newF [])) (seqS (frS (rngF [(bin addV (calF lenG [(getV 0)]) (cInt 1))]) (tgN 3) bOp) (retS (getV 2))):=rfl
theorem openGo_len {R:Rw} {rc:List Nat}:∀ k,(openGo R rc k).length≤k
  |0=>by simp [openGo]
  |k+1=>by
    have:=openGo_len (R:=R) (rc:=rc) k
    unfold openGo
    split
    · simp;omega
    · omega
theorem open_step {r:List Pt} {rc:List Nat} {x:V} {H0:Hp} {k:Nat} (hr:POk r) (hk:k≤r.length) (hl:r.length≤100) (hx:∀ J,resV (H0++J) x=.frz (I rc)) :
    bOp (OS (r.map itV) x H0.length (some (.int k))) (H0++[I (openGo (r.map AP) rc k)])=some (.nx,OS (r.map itV) x H0.length (some (.int k)),H0++[I (openGo (r.map AP) rc (k+1))]):=by
  generalize hop:openGo (r.map AP) rc k=op
  have h1:=inB_ints (k:=(k:Int)) (hx [I op])
  rw [any_mem] at h1
  have hcell:resV (H0++[I op]) (.lst H0.length)=.frz (I op):=by simp [resV]
  have hlen:op.length≤k:=by rw [← hop];exact openGo_len k
  have hlz:(I op).length < SZ:=by simp only [I,List.length_map,SZ];omega
  have happ:expS (apdF (getV 2) (getV 3)) (OS (r.map itV) x H0.length (some (.int k))) (H0++[I op])=some (.nx,OS (r.map itV) x H0.length (some (.int k)),H0++[I (op++[k])]):=by
    have e1:(H0++[I op])[H0.length]?=some (I op):=by simp
    simp only [expS,apdF,getV,OS,gs,gz,e1,hlz,if_true]
    simp [I]
  have t1:tB (bin inV (getV 3) (getV 1)) (OS (r.map itV) x H0.length (some (.int k))) (H0++[I op])=some (decide (k ∈ rc),H0++[I op]):=by
    simp only [tB,bin,getV,OS,gs,gz,inV,h1,Option.map_some,z_trb]
  by_cases hk1:k ∈ rc
  · have hgo:openGo (r.map AP) rc (k+1)=op++[k]:=by unfold openGo;rw [if_pos (.inl hk1),hop]
    rw [hgo]
    simp only [bOp,ifS,tOr,t1,hk1,decide_true,if_true,happ]
  · by_cases hk0:k=0
    · have hgo:openGo (r.map AP) rc (k+1)=op:=by unfold openGo;rw [if_neg (by rintro (h | ⟨h,_⟩);exact hk1 h;omega),hop]
      rw [hgo]
      have h2:=inB_ints (k:=-1) hcell
      rw [any_neg] at h2
      have e:(k:Int) - 1 = -1:=by omega
      have t2:tB (bin inV (bin subV (getV 3) (cInt 1)) (getV 2)) (OS (r.map itV) x H0.length (some (.int k))) (H0++[I op])=some (false,H0++[I op]):=by
        simp only [tB,bin,getV,OS,gs,gz,subV,cInt,e,inV,h2,Option.map_some,z_trb]
      simp only [bOp,ifS,tOr,t1,hk1,decide_false,Bool.false_eq_true,if_false,tAnd,t2,nopS]
    · have e:(k:Int) - 1=((k - 1:Nat):Int):=by omega
      have h2:=inB_ints (k:=((k - 1:Nat):Int)) hcell
      rw [any_mem] at h2
      have t2:tB (bin inV (bin subV (getV 3) (cInt 1)) (getV 2)) (OS (r.map itV) x H0.length (some (.int k))) (H0++[I op])=some (decide (k - 1 ∈ op),H0++[I op]):=by
        simp only [tB,bin,getV,OS,gs,gz,subV,cInt,e,inV,h2,Option.map_some,z_trb]
      by_cases hm:k - 1 ∈ op
      · obtain ⟨y,hy⟩ : ∃ y,r[k - 1]?=some y:=⟨r[k - 1]'(by omega),List.getElem?_eq_getElem (by omega)⟩
        have hi:idxL (r.map itV) ((k - 1:Nat):Int)=some (itV y):=by
          rw [idxL_ge (by simp only [List.length_map,SZ];omega)];simp [hy]
        have hv:=isV_it (H:=H0++[I op]) hr hy
        have t3:tB (bin isV (bin idxV (getV 0) (bin subV (getV 3) (cInt 1))) cNone) (OS (r.map itV) x H0.length (some (.int k))) (H0++[I op])=some (decide (y=none),H0++[I op]):=by
          simp only [tB,bin,getV,OS,gs,gz,subV,cInt,e,z_idf,hi,cNone,hv,z_trb]
        have hst:starAt (r.map AP) (k - 1)=true↔y=none:=by
          rw [starAt_iff,List.getElem?_map,hy]
          cases y<;>simp [AP]
        by_cases hyn:y=none
        · have hgo:openGo (r.map AP) rc (k+1)=op++[k]:=by unfold openGo;rw [if_pos (.inr ⟨by omega,by rw [hop];exact hm,hst.mpr hyn⟩),hop]
          rw [hgo]
          simp only [bOp,ifS,tOr,t1,hk1,decide_false,Bool.false_eq_true,if_false,tAnd,t2,hm,decide_true,if_true,t3,hyn,happ]
        · have hgo:openGo (r.map AP) rc (k+1)=op:=by unfold openGo;rw [if_neg (by rintro (h | ⟨_,_,h⟩);exact hk1 h;exact hyn (hst.mp h)),hop]
          rw [hgo]
          simp only [bOp,ifS,tOr,t1,hk1,decide_false,Bool.false_eq_true,if_false,tAnd,t2,hm,decide_true,if_true,t3,hyn,nopS]
      · have hgo:openGo (r.map AP) rc (k+1)=op:=by unfold openGo;rw [if_neg (by rintro (h | ⟨_,h,_⟩);exact hk1 h;rw [hop] at h;exact hm h),hop]
        rw [hgo]
        simp only [bOp,ifS,tOr,t1,hk1,decide_false,Bool.false_eq_true,if_false,tAnd,t2,hm,nopS]
theorem open_loop {r:List Pt} {rc:List Nat} {x:V} {H0:Hp} (hr:POk r) (hl:r.length≤100) (hx:∀ J,resV (H0++J) x=.frz (I rc)):∀ (m k:Nat) (c3:Option V),k+m≤r.length+1→
    ∃ c3',forGo (tgN 3) bOp ((List.range' k m).map fun i=>V.int (i:Nat)) (OS (r.map itV) x H0.length c3) (H0++[I (openGo (r.map AP) rc k)])=some (.nx,OS (r.map itV) x H0.length c3',H0++[I (openGo (r.map AP) rc (k+m))])
  |0,k,c3,_=>⟨c3,rfl⟩
  |m+1,k,c3,h=>by
    obtain ⟨c3',ih⟩:=open_loop hr hl hx m (k+1) (some (.int k)) (by omega)
    have hs:=open_step (k:=k) (x:=x) (rc:=rc) hr (by omega) hl hx
    refine ⟨c3',?_⟩
    have e0:tgN 3 (V.int (k:Nat)) (OS (r.map itV) x H0.length c3)=some (OS (r.map itV) x H0.length (some (.int k))):=rfl
    have e1:k+(m+1)=k+1+m:=by omega
    rw [List.range'_succ,List.map_cons,e1]
    simp only [forGo,e0,hs,ih]
theorem open_ok {r:List Pt} {rc:List Nat} {x:V} {H0:Hp} (hr:POk r) (hl:r.length≤100) (hx:∀ J,resV (H0++J) x=.frz (I rc)) (h0:H0.all noLsts=true) :
    g_law_open [.frz (r.map itV),x] H0=some (.frz (I (openP (r.map AP) rc)),H0):=by
  have e1:setS 2 (newF []) [some (.frz (r.map itV)),some x,none,none] H0=some (.nx,OS (r.map itV) x H0.length none,H0++[I (openGo (r.map AP) rc 0)]):=rfl
  obtain ⟨c3',e2⟩:=open_loop (rc:=rc) hr hl hx (r.length+1) 0 none (by omega)
  have e3:rngF [(bin addV (calF lenG [(getV 0)]) (cInt 1))] (OS (r.map itV) x H0.length none) (H0++[I (openGo (r.map AP) rc 0)])=some ((List.range' 0 (r.length+1)).map (fun i=>V.int (i:Nat)),H0++[I (openGo (r.map AP) rc 0)]):=by
    have h0:seqF [(bin addV (calF lenG [(getV 0)]) (cInt 1))] (OS (r.map itV) x H0.length none) (H0++[I (openGo (r.map AP) rc 0)])=some ([.int ((r.length+1:Nat):Int)],H0++[I (openGo (r.map AP) rc 0)]):=by
      have hz2:r.length≤SZ:=by simp only [SZ];omega
      simp only [seqF,bin,calF,getV,gz,z_lenf,List.length_map,hz2,if_true,z_add,cInt]
      rfl
    simp only [rngF,h0,rngG_one (n:=r.length+1) (by omega),List.range_eq_range']
  have e4:frS (rngF [(bin addV (calF lenG [(getV 0)]) (cInt 1))]) (tgN 3) bOp (OS (r.map itV) x H0.length none) (H0++[I (openGo (r.map AP) rc 0)])=some (.nx,OS (r.map itV) x H0.length c3',H0++[I (openP (r.map AP) rc)]):=by
    simp only [frS,e3,e2]
    have:0+(r.length+1)=(r.map AP).length+1:=by simp
    rw [this];rfl
  have e:f_law_open [some (.frz (r.map itV)),some x,none,none] H0=some (.rt (.lst H0.length),OS (r.map itV) x H0.length c3',H0++[I (openP (r.map AP) rc)]):=by
    rw [f_open_eq,seqS_nx e1,seqS_nx e4]
    rfl
  show runF 2 f_law_open _ _=_
  unfold runF
  exact (congrArg (runK H0.length) e).trans (endL (Nat.le_refl _) (List.getElem?_concat_length ..) (I_no _) (List.take_left' rfl) h0)
noncomputable abbrev NS (row:List V) (P:List Nat) (s:Nat) (c4:Option V):Rho:=[some (.frz row),some (.frz (I P)),some (.str [s]),some (.lst 0),c4]
noncomputable def bOn:FS:=(ifS (tAnd [(tB (bin ltV (getV 4) (calF lenG [(getV 0)]))),(tB (bin isV (bin idxV (getV 0) (getV 4)) cNone))]) (expS (apdF (getV 3) (getV 4))) (ifS (tAnd [(tB (bin ltV (getV 4) (calF lenG [(getV 0)]))),(tB (funF g_law_fits [(bin idxV (getV 0) (getV 4)),(getV 2)]))]) (expS (apdF (getV 3) (bin addV (getV 4) (cInt 1)))) nopS))
theorem f_onward_eq:f_law_onward=seqS (setS 3 (newF [])) (seqS (frS (itF (getV 1)) (tgN 4) bOn) (retS (funcG g_law_open [(getV 0),(getV 3)]))):=rfl
theorem on_step {r:List Pt} {P op:List Nat} {s k:Nat} (hr:POk r) (hs:s ∈ sgs) (hl:r.length≤100) (ho:op.length≤1000) :
    bOn (NS (r.map itV) P s (some (.int k))) [I op]=some (.nx,NS (r.map itV) P s (some (.int k)),[I (op++goOn (r.map AP) s k)]):=by
  have hz2:r.length≤SZ:=by simp only [SZ];omega
  have hlz:(I op).length < SZ:=by simp only [I,List.length_map,SZ];omega
  have t1:tB (bin ltV (getV 4) (calF lenG [(getV 0)])) (NS (r.map itV) P s (some (.int k))) [I op]=some (decide (k < r.length),[I op]):=by
    have:decide ((k:Int) < (r.length:Int))=decide (k < r.length):=by
      rw [Bool.eq_iff_iff,decide_eq_true_eq,decide_eq_true_eq];omega
    simp only [tB,bin,calF,seqF,getV,NS,gs,gz,z_lenf,List.length_map,hz2,if_true,z_lt,z_trb,this]
  by_cases hk:k < r.length
  · obtain ⟨y,hy⟩ : ∃ y,r[k]?=some y:=⟨r[k],List.getElem?_eq_getElem hk⟩
    have hi:idxL (r.map itV) (k:Int)=some (itV y):=by
      rw [idxL_ge (by simpa using hz2)];simp [hy]
    have hv:=isV_it (H:=[I op]) hr hy
    have t2:tB (bin isV (bin idxV (getV 0) (getV 4)) cNone) (NS (r.map itV) P s (some (.int k))) [I op]=some (decide (y=none),[I op]):=by
      simp only [tB,bin,getV,NS,gs,gz,z_idf,hi,cNone,hv,z_trb]
    have hap:(r.map AP)[k]?=some (AP y):=by rw [List.getElem?_map,hy];rfl
    cases y with
    |none=>
      have hg:goOn (r.map AP) s k=[k]:=by unfold goOn;rw [hap];rfl
      rw [hg]
      simp only [bOn,ifS,tAnd,t1,hk,decide_true,if_true,t2,expS,apdF,getV,NS,gs,gz,hlz]
      simp [I]
    |some t=>
      have hpt:=hr t (List.mem_of_getElem? hy)
      have hg:goOn (r.map AP) s k=if accP t s then [k+1] else []:=by unfold goOn;rw [hap];rfl
      have hf:=funF_ok (g:=g_law_fits) (fs:=[(bin idxV (getV 0) (getV 4)),(getV 2)]) (ρ:=NS (r.map itV) P s (some (.int k))) (H:=[I op]) (xs:=[itemOf t,.str [s]]) (by simp only [seqF,bin,getV,NS,gs,gz,z_idf,hi,itV]) (by simp only [nlc,nln,nls,hpt.no,Bool.and_self]) (hpt.fits s hs)
      have t3:tB (funF g_law_fits [(bin idxV (getV 0) (getV 4)),(getV 2)]) (NS (r.map itV) P s (some (.int k))) [I op]=some (accP t s,[I op]):=by
        simp only [tB,hf,z_trb]
      have hd:decide ((some t:Pt)=none)=false:=by simp
      rw [hg]
      cases hacc:accP t s with
      |true=>
        rw [hacc] at t3
        simp only [bOn,ifS,tAnd,t1,hk,decide_true,if_true,t2,hd,Bool.false_eq_true,if_false,t3,expS,apdF,bin,z_add,cInt,getV,NS,gs,gz,hlz]
        simp [I]
      |false=>
        rw [hacc] at t3
        simp only [bOn,ifS,tAnd,t1,hk,decide_true,if_true,t2,hd,Bool.false_eq_true,if_false,t3,nopS]
        simp [I]
  · have hg:goOn (r.map AP) s k=[]:=by
      unfold goOn
      have:(r.map AP)[k]?=none:=by rw [List.getElem?_eq_none_iff];simpa using hk
      rw [this]
    rw [hg]
    simp only [bOn,ifS,tAnd,t1,hk,decide_false,Bool.false_eq_true,if_false,nopS]
    simp [I]
theorem goOn_len {R:Rw} {s p:Nat}:(goOn R s p).length≤1:=by
  unfold goOn;split
  · simp
  · split<;>simp
  · simp
theorem on_loop {r:List Pt} {P:List Nat} {s:Nat} (hr:POk r) (hs:s ∈ sgs) (hl:r.length≤100):∀ (l op:List Nat) (c4:Option V),op.length+l.length≤1000→
    ∃ c4',forGo (tgN 4) bOn (I l) (NS (r.map itV) P s c4) [I op]=some (.nx,NS (r.map itV) P s c4',[I (op++l.flatMap (goOn (r.map AP) s))])
  |[],op,c4,_=>⟨c4,by simp [I,forGo]⟩
  |k::l,op,c4,h=>by
    simp only [List.length_cons] at h
    have h1:=goOn_len (R:=r.map AP) (s:=s) (p:=k)
    obtain ⟨c4',ih⟩:=on_loop (P:=P) hr hs hl l (op++goOn (r.map AP) s k) (some (.int k)) (by simp;omega)
    have hst:=on_step (P:=P) (k:=k) (op:=op) hr hs hl (by omega)
    refine ⟨c4',?_⟩
    have e0:tgN 4 (V.int (k:Nat)) (NS (r.map itV) P s c4)=some (NS (r.map itV) P s (some (.int k))):=rfl
    have e1:I (k::l)=V.int (k:Nat)::I l:=rfl
    rw [e1]
    simp only [forGo,e0,hst,ih]
    simp
theorem onward_ok {r:List Pt} {P:List Nat} {s:Nat} (hr:POk r) (hs:s ∈ sgs) (hl:r.length≤100) (hP:P.length≤500) :
    g_law_onward [.frz (r.map itV),.frz (I P),.str [s]] []=some (.frz (I (onwP (r.map AP) P s)),[]):=by
  have e1:setS 3 (newF []) [some (.frz (r.map itV)),some (.frz (I P)),some (.str [s]),none,none] []=some (.nx,NS (r.map itV) P s none,[I []]):=rfl
  obtain ⟨c4',e2⟩:=on_loop (P:=P) hr hs hl P [] none (by simp;omega)
  rw [List.nil_append] at e2
  have e3:frS (itF (getV 1)) (tgN 4) bOn (NS (r.map itV) P s none) [I []]=some (.nx,NS (r.map itV) P s c4',[I (P.flatMap (goOn (r.map AP) s))]):=by
    have:itF (getV 1) (NS (r.map itV) P s none) [I []]=some (I P,[I []]):=rfl
    simp only [frS,this,e2]
  have ho:=open_ok (x:=.lst 0) (H0:=[I (P.flatMap (goOn (r.map AP) s))]) (rc:=P.flatMap (goOn (r.map AP) s)) hr hl (fun J=>rfl) (by simp only [List.all_cons,List.all_nil,I_no,Bool.and_self])
  have e4:funcG g_law_open [(getV 0),(getV 3)] (NS (r.map itV) P s c4') [I (P.flatMap (goOn (r.map AP) s))]=some (.frz (I (onwP (r.map AP) P s)),[I (P.flatMap (goOn (r.map AP) s))]):=by
    have h0:seqF [(getV 0),(getV 3)] (NS (r.map itV) P s c4') [I (P.flatMap (goOn (r.map AP) s))]=some ([.frz (r.map itV),.lst 0],[I (P.flatMap (goOn (r.map AP) s))]):=rfl
    exact funcG_ok h0 (Bool.and_eq_true_iff.mpr ⟨its_no hr,rfl⟩) rfl (I_no _) ho
  have e:f_law_onward [some (.frz (r.map itV)),some (.frz (I P)),some (.str [s]),none,none] []=some (.rt (.frz (I (onwP (r.map AP) P s))),NS (r.map itV) P s c4',[I (P.flatMap (goOn (r.map AP) s))]):=by
    rw [f_onward_eq,seqS_nx e1,seqS_nx e3]
    simp only [retS,e4]
  show runF 2 f_law_onward _ _=_
  exact run0 e (I_no _)
theorem parts_ok {P:List Nat} {r:List Pt} (hu:g_utranslate 1000 [.str P,.star,.str [46]] []=some (.frz (r.map tv),[])) (hr:POk r) (hl:r.length≤100) :
    g_law_parts 1000 [.str P] []=some (.frz (r.map itV),[]):=by
  have e0:seqF [(getV 0),(getV 1),(cStr [46])] [some (.str P),some .star,none] []=some ([.str P,.star,.str [46]],[]):=rfl
  have e1:setS 2 (funF (g_utranslate 1000) [(getV 0),(getV 1),(cStr [46])]) [some (.str P),some .star,none] []=some (.nx,[some (.str P),some .star,some (.frz (r.map tv))],[]):=by
    simp only [setS,funF,e0,hu];rfl
  have hstep:∀ x ∈ r,ifE (tB (bin isV (getV 0) (getV 1))) cNone (funF (g_law_item 1000) [(getV 0)]) (some (tv x)::[some .star]) []=some (itV x,[]):=by
    intro x hx
    cases x with
    |none=>rfl
    |some t=>
      have ht:=hr t hx
      have hf:=funF_ok (g:=g_law_item 1000) (fs:=[getV 0]) (ρ:=[some (.str t),some .star]) (H:=[]) (xs:=[.str t]) rfl rfl ht.item
      have h1:tB (bin isV (getV 0) (getV 1)) [some (.str t),some .star] []=some (false,[]):=rfl
      simp only [tv,ifE,h1,Bool.false_eq_true,if_false,hf,itV]
  have hmap:∀ (l:List Pt) (x:Option V),(∀ y ∈ l,y ∈ r)→∃ x',compGo (leafC (ifE (tB (bin isV (getV 0) (getV 1))) cNone (funF (g_law_item 1000) [(getV 0)]))) (tgN 0) [] (l.map tv) (x::[some .star])=some (l.map itV,x'::[some .star]):=by
    intro l
    induction l with
    |nil=>intro x _;exact ⟨x,rfl⟩
    |cons y l ih=>
      intro x hl
      obtain ⟨x',ih⟩:=ih (some (tv y)) fun z hz=>hl z (List.mem_cons_of_mem _ hz)
      have h1:=hstep y (hl y (List.mem_cons_self ..))
      refine ⟨x',?_⟩
      exact cg_on rfl rfl (leaf_ok h1) ih
  obtain ⟨x',hc⟩:=hmap r none fun y hy=>hy
  have hno:=tv_noLst r
  have h2:noL (itF (getV 2)) [some (.str P),some .star,some (.frz (r.map tv))] []=some (r.map tv,[]):=by
    have:itF (getV 2) [some (.str P),some .star,some (.frz (r.map tv))] []=some (r.map tv,[]):=rfl
    simp only [noL,this,hno,if_true]
  have hf:List.replicate 1 none++[1].map (freeV [some (.str P),some .star,some (.frz (r.map tv))])=none::[some .star]:=rfl
  have hz:(r.map itV).length≤SZ:=by simp only [List.length_map,SZ];omega
  have e4:f_law_parts 1000 [some (.str P),some .star,none] []=some (.rt (.frz (r.map itV)),[some (.str P),some .star,some (.frz (r.map tv))],[]):=by
    rw [f_law_parts,seqS_nx e1]
    simp only [retS,compF,h2,hf,hc,hz,if_true]
  have hns:(V.frz (r.map itV)).noStar=true:=by
    simp only [nsf]
    have:∀ l:List Pt,POk l→noStars (l.map itV)=true:=by
      intro l
      induction l with
      |nil=>intro _;rfl
      |cons y l ih=>
        intro h
        have ih:=ih fun t ht=>h t (List.mem_cons_of_mem _ ht)
        cases y with
        |none=>exact ih
        |some t=>exact Bool.and_eq_true_iff.mpr ⟨(h t (List.mem_cons_self ..)).ns,ih⟩
    exact this r hr
  show starG 1 2 1 (f_law_parts 1000) _ _=_
  exact star_ok ⟨rfl,rfl,rfl⟩ e4 (its_no hr) hns
structure Cb where
  f:Int
  s:Int
  lim:Int
  a:Nat
  b:Nat
  nms:List (Int×List Nat)
  c0:List (Option Nat)
  c1:List (Option Nat)
  par:List (Option Nat)
noncomputable def nm (c:Cb) (i:Nat):Int×List Nat:=c.nms.getD i (0,[])
noncomputable def ltN (x y:Int×List Nat):Bool:=if x.1=y.1 then (if x.2=y.2 then false else decide (x.2 < y.2)) else decide (x.1 < y.1)
noncomputable def okKid (c:Cb) (kids:List (Option Nat)) (m:Int) (g:Nat) (i:Nat):Bool:=
  match kids.getD i none with
  |some k=>decide ((nm c i).1+m≤c.lim) && decide (nm c k=((nm c i).1+m,(nm c i).2++[g])) && decide (k < c.nms.length) && decide (c.par.getD k none=some i)
  |none=>decide (¬ (nm c i).1+m≤c.lim)
noncomputable def okCb (c:Cb):Bool:=
  (List.range c.nms.length).all (fun i=>(List.range c.nms.length).all fun j=>i == j || (ltN (nm c i) (nm c j) == decide (i < j) && !decide (nm c i=nm c j))) &&
  (List.range c.nms.length).all (fun i=>okKid c c.c0 c.f c.a i && okKid c c.c1 c.s c.b i) &&
  (List.range c.nms.length).all (fun k=>match c.par.getD k none with
    |some i=>decide (i < k) && (decide (c.c0.getD i none=some k) || decide (c.c1.getD i none=some k))
    |none=>decide (k=0)) &&
  (List.range c.nms.length).all (fun i=>(nm c i).2.all (fun s=>decide (s ∈ sgs)) && decide ((nm c i).2.length≤6)) &&
  decide (c.a ∈ sgs) && decide (c.b ∈ sgs) && decide (c.a ≠ c.b) && decide (c.nms.length≤15) && decide (1≤c.nms.length) && decide (nm c 0=(0,[]))
noncomputable def cb0:Cb:=⟨1,2,4,97,38,[(0,[]),(1,[97]),(2,[38]),(2,[97,97]),(3,[38,97]),(3,[97,38]),(3,[97,97,97]),(4,[38,38]),(4,[38,97,97]),(4,[97,38,97]),(4,[97,97,38]),(4,[97,97,97,97])],[some 1,some 3,some 4,some 6,some 8,some 9,some 11,none,none,none,none,none],[some 2,some 5,some 7,some 10,none,none,none,none,none,none,none,none],[none,some 0,some 0,some 1,some 2,some 1,some 3,some 2,some 4,some 5,some 3,some 6]⟩
noncomputable def cb1:Cb:=⟨1,2,4,97,45,[(0,[]),(1,[97]),(2,[45]),(2,[97,97]),(3,[45,97]),(3,[97,45]),(3,[97,97,97]),(4,[45,45]),(4,[45,97,97]),(4,[97,45,97]),(4,[97,97,45]),(4,[97,97,97,97])],[some 1,some 3,some 4,some 6,some 8,some 9,some 11,none,none,none,none,none],[some 2,some 5,some 7,some 10,none,none,none,none,none,none,none,none],[none,some 0,some 0,some 1,some 2,some 1,some 3,some 2,some 4,some 5,some 3,some 6]⟩
noncomputable def cb2:Cb:=⟨1,2,4,97,33,[(0,[]),(1,[97]),(2,[33]),(2,[97,97]),(3,[33,97]),(3,[97,33]),(3,[97,97,97]),(4,[33,33]),(4,[33,97,97]),(4,[97,33,97]),(4,[97,97,33]),(4,[97,97,97,97])],[some 1,some 3,some 4,some 6,some 8,some 9,some 11,none,none,none,none,none],[some 2,some 5,some 7,some 10,none,none,none,none,none,none,none,none],[none,some 0,some 0,some 1,some 2,some 1,some 3,some 2,some 4,some 5,some 3,some 6]⟩
noncomputable def cb3:Cb:=⟨1,2,4,38,45,[(0,[]),(1,[38]),(2,[38,38]),(2,[45]),(3,[38,38,38]),(3,[38,45]),(3,[45,38]),(4,[38,38,38,38]),(4,[38,38,45]),(4,[38,45,38]),(4,[45,38,38]),(4,[45,45])],[some 1,some 2,some 4,some 6,some 7,some 9,some 10,none,none,none,none,none],[some 3,some 5,some 8,some 11,none,none,none,none,none,none,none,none],[none,some 0,some 1,some 0,some 2,some 1,some 3,some 4,some 2,some 5,some 6,some 3]⟩
noncomputable def cb4:Cb:=⟨1,2,4,38,33,[(0,[]),(1,[38]),(2,[33]),(2,[38,38]),(3,[33,38]),(3,[38,33]),(3,[38,38,38]),(4,[33,33]),(4,[33,38,38]),(4,[38,33,38]),(4,[38,38,33]),(4,[38,38,38,38])],[some 1,some 3,some 4,some 6,some 8,some 9,some 11,none,none,none,none,none],[some 2,some 5,some 7,some 10,none,none,none,none,none,none,none,none],[none,some 0,some 0,some 1,some 2,some 1,some 3,some 2,some 4,some 5,some 3,some 6]⟩
noncomputable def cb5:Cb:=⟨1,2,4,45,33,[(0,[]),(1,[45]),(2,[33]),(2,[45,45]),(3,[33,45]),(3,[45,33]),(3,[45,45,45]),(4,[33,33]),(4,[33,45,45]),(4,[45,33,45]),(4,[45,45,33]),(4,[45,45,45,45])],[some 1,some 3,some 4,some 6,some 8,some 9,some 11,none,none,none,none,none],[some 2,some 5,some 7,some 10,none,none,none,none,none,none,none,none],[none,some 0,some 0,some 1,some 2,some 1,some 3,some 2,some 4,some 5,some 3,some 6]⟩
noncomputable def cb6:Cb:=⟨2,1,4,97,38,[(0,[]),(1,[38]),(2,[38,38]),(2,[97]),(3,[38,38,38]),(3,[38,97]),(3,[97,38]),(4,[38,38,38,38]),(4,[38,38,97]),(4,[38,97,38]),(4,[97,38,38]),(4,[97,97])],[some 3,some 5,some 8,some 11,none,none,none,none,none,none,none,none],[some 1,some 2,some 4,some 6,some 7,some 9,some 10,none,none,none,none,none],[none,some 0,some 1,some 0,some 2,some 1,some 3,some 4,some 2,some 5,some 6,some 3]⟩
noncomputable def cb7:Cb:=⟨2,1,4,97,45,[(0,[]),(1,[45]),(2,[45,45]),(2,[97]),(3,[45,45,45]),(3,[45,97]),(3,[97,45]),(4,[45,45,45,45]),(4,[45,45,97]),(4,[45,97,45]),(4,[97,45,45]),(4,[97,97])],[some 3,some 5,some 8,some 11,none,none,none,none,none,none,none,none],[some 1,some 2,some 4,some 6,some 7,some 9,some 10,none,none,none,none,none],[none,some 0,some 1,some 0,some 2,some 1,some 3,some 4,some 2,some 5,some 6,some 3]⟩
noncomputable def cb8:Cb:=⟨2,1,4,97,33,[(0,[]),(1,[33]),(2,[33,33]),(2,[97]),(3,[33,33,33]),(3,[33,97]),(3,[97,33]),(4,[33,33,33,33]),(4,[33,33,97]),(4,[33,97,33]),(4,[97,33,33]),(4,[97,97])],[some 3,some 5,some 8,some 11,none,none,none,none,none,none,none,none],[some 1,some 2,some 4,some 6,some 7,some 9,some 10,none,none,none,none,none],[none,some 0,some 1,some 0,some 2,some 1,some 3,some 4,some 2,some 5,some 6,some 3]⟩
noncomputable def cb9:Cb:=⟨2,1,4,38,45,[(0,[]),(1,[45]),(2,[38]),(2,[45,45]),(3,[38,45]),(3,[45,38]),(3,[45,45,45]),(4,[38,38]),(4,[38,45,45]),(4,[45,38,45]),(4,[45,45,38]),(4,[45,45,45,45])],[some 2,some 5,some 7,some 10,none,none,none,none,none,none,none,none],[some 1,some 3,some 4,some 6,some 8,some 9,some 11,none,none,none,none,none],[none,some 0,some 0,some 1,some 2,some 1,some 3,some 2,some 4,some 5,some 3,some 6]⟩
noncomputable def cb10:Cb:=⟨2,1,4,38,33,[(0,[]),(1,[33]),(2,[33,33]),(2,[38]),(3,[33,33,33]),(3,[33,38]),(3,[38,33]),(4,[33,33,33,33]),(4,[33,33,38]),(4,[33,38,33]),(4,[38,33,33]),(4,[38,38])],[some 3,some 5,some 8,some 11,none,none,none,none,none,none,none,none],[some 1,some 2,some 4,some 6,some 7,some 9,some 10,none,none,none,none,none],[none,some 0,some 1,some 0,some 2,some 1,some 3,some 4,some 2,some 5,some 6,some 3]⟩
noncomputable def cb11:Cb:=⟨2,1,4,45,33,[(0,[]),(1,[33]),(2,[33,33]),(2,[45]),(3,[33,33,33]),(3,[33,45]),(3,[45,33]),(4,[33,33,33,33]),(4,[33,33,45]),(4,[33,45,33]),(4,[45,33,33]),(4,[45,45])],[some 3,some 5,some 8,some 11,none,none,none,none,none,none,none,none],[some 1,some 2,some 4,some 6,some 7,some 9,some 10,none,none,none,none,none],[none,some 0,some 1,some 0,some 2,some 1,some 3,some 4,some 2,some 5,some 6,some 3]⟩
noncomputable def cb12:Cb:=⟨2,3,7,97,38,[(0,[]),(2,[97]),(3,[38]),(4,[97,97]),(5,[38,97]),(5,[97,38]),(6,[38,38]),(6,[97,97,97]),(7,[38,97,97]),(7,[97,38,97]),(7,[97,97,38])],[some 1,some 3,some 4,some 7,some 8,some 9,none,none,none,none,none],[some 2,some 5,some 6,some 10,none,none,none,none,none,none,none],[none,some 0,some 0,some 1,some 2,some 1,some 2,some 3,some 4,some 5,some 3]⟩
noncomputable def cb13:Cb:=⟨2,3,7,97,45,[(0,[]),(2,[97]),(3,[45]),(4,[97,97]),(5,[45,97]),(5,[97,45]),(6,[45,45]),(6,[97,97,97]),(7,[45,97,97]),(7,[97,45,97]),(7,[97,97,45])],[some 1,some 3,some 4,some 7,some 8,some 9,none,none,none,none,none],[some 2,some 5,some 6,some 10,none,none,none,none,none,none,none],[none,some 0,some 0,some 1,some 2,some 1,some 2,some 3,some 4,some 5,some 3]⟩
noncomputable def cb14:Cb:=⟨2,3,7,97,33,[(0,[]),(2,[97]),(3,[33]),(4,[97,97]),(5,[33,97]),(5,[97,33]),(6,[33,33]),(6,[97,97,97]),(7,[33,97,97]),(7,[97,33,97]),(7,[97,97,33])],[some 1,some 3,some 4,some 7,some 8,some 9,none,none,none,none,none],[some 2,some 5,some 6,some 10,none,none,none,none,none,none,none],[none,some 0,some 0,some 1,some 2,some 1,some 2,some 3,some 4,some 5,some 3]⟩
noncomputable def cb15:Cb:=⟨2,3,7,38,45,[(0,[]),(2,[38]),(3,[45]),(4,[38,38]),(5,[38,45]),(5,[45,38]),(6,[38,38,38]),(6,[45,45]),(7,[38,38,45]),(7,[38,45,38]),(7,[45,38,38])],[some 1,some 3,some 5,some 6,some 9,some 10,none,none,none,none,none],[some 2,some 4,some 7,some 8,none,none,none,none,none,none,none],[none,some 0,some 0,some 1,some 1,some 2,some 3,some 2,some 3,some 4,some 5]⟩
noncomputable def cb16:Cb:=⟨2,3,7,38,33,[(0,[]),(2,[38]),(3,[33]),(4,[38,38]),(5,[33,38]),(5,[38,33]),(6,[33,33]),(6,[38,38,38]),(7,[33,38,38]),(7,[38,33,38]),(7,[38,38,33])],[some 1,some 3,some 4,some 7,some 8,some 9,none,none,none,none,none],[some 2,some 5,some 6,some 10,none,none,none,none,none,none,none],[none,some 0,some 0,some 1,some 2,some 1,some 2,some 3,some 4,some 5,some 3]⟩
noncomputable def cb17:Cb:=⟨2,3,7,45,33,[(0,[]),(2,[45]),(3,[33]),(4,[45,45]),(5,[33,45]),(5,[45,33]),(6,[33,33]),(6,[45,45,45]),(7,[33,45,45]),(7,[45,33,45]),(7,[45,45,33])],[some 1,some 3,some 4,some 7,some 8,some 9,none,none,none,none,none],[some 2,some 5,some 6,some 10,none,none,none,none,none,none,none],[none,some 0,some 0,some 1,some 2,some 1,some 2,some 3,some 4,some 5,some 3]⟩
noncomputable def cb18:Cb:=⟨1,3,5,97,38,[(0,[]),(1,[97]),(2,[97,97]),(3,[38]),(3,[97,97,97]),(4,[38,97]),(4,[97,38]),(4,[97,97,97,97]),(5,[38,97,97]),(5,[97,38,97]),(5,[97,97,38]),(5,[97,97,97,97,97])],[some 1,some 2,some 4,some 5,some 7,some 8,some 9,some 11,none,none,none,none],[some 3,some 6,some 10,none,none,none,none,none,none,none,none,none],[none,some 0,some 1,some 0,some 2,some 3,some 1,some 4,some 5,some 6,some 2,some 7]⟩
noncomputable def cb19:Cb:=⟨1,3,5,97,45,[(0,[]),(1,[97]),(2,[97,97]),(3,[45]),(3,[97,97,97]),(4,[45,97]),(4,[97,45]),(4,[97,97,97,97]),(5,[45,97,97]),(5,[97,45,97]),(5,[97,97,45]),(5,[97,97,97,97,97])],[some 1,some 2,some 4,some 5,some 7,some 8,some 9,some 11,none,none,none,none],[some 3,some 6,some 10,none,none,none,none,none,none,none,none,none],[none,some 0,some 1,some 0,some 2,some 3,some 1,some 4,some 5,some 6,some 2,some 7]⟩
noncomputable def cb20:Cb:=⟨1,3,5,97,33,[(0,[]),(1,[97]),(2,[97,97]),(3,[33]),(3,[97,97,97]),(4,[33,97]),(4,[97,33]),(4,[97,97,97,97]),(5,[33,97,97]),(5,[97,33,97]),(5,[97,97,33]),(5,[97,97,97,97,97])],[some 1,some 2,some 4,some 5,some 7,some 8,some 9,some 11,none,none,none,none],[some 3,some 6,some 10,none,none,none,none,none,none,none,none,none],[none,some 0,some 1,some 0,some 2,some 3,some 1,some 4,some 5,some 6,some 2,some 7]⟩
noncomputable def cb21:Cb:=⟨1,3,5,38,45,[(0,[]),(1,[38]),(2,[38,38]),(3,[38,38,38]),(3,[45]),(4,[38,38,38,38]),(4,[38,45]),(4,[45,38]),(5,[38,38,38,38,38]),(5,[38,38,45]),(5,[38,45,38]),(5,[45,38,38])],[some 1,some 2,some 3,some 5,some 7,some 8,some 10,some 11,none,none,none,none],[some 4,some 6,some 9,none,none,none,none,none,none,none,none,none],[none,some 0,some 1,some 2,some 0,some 3,some 1,some 4,some 5,some 2,some 6,some 7]⟩
noncomputable def cb22:Cb:=⟨1,3,5,38,33,[(0,[]),(1,[38]),(2,[38,38]),(3,[33]),(3,[38,38,38]),(4,[33,38]),(4,[38,33]),(4,[38,38,38,38]),(5,[33,38,38]),(5,[38,33,38]),(5,[38,38,33]),(5,[38,38,38,38,38])],[some 1,some 2,some 4,some 5,some 7,some 8,some 9,some 11,none,none,none,none],[some 3,some 6,some 10,none,none,none,none,none,none,none,none,none],[none,some 0,some 1,some 0,some 2,some 3,some 1,some 4,some 5,some 6,some 2,some 7]⟩
noncomputable def cb23:Cb:=⟨1,3,5,45,33,[(0,[]),(1,[45]),(2,[45,45]),(3,[33]),(3,[45,45,45]),(4,[33,45]),(4,[45,33]),(4,[45,45,45,45]),(5,[33,45,45]),(5,[45,33,45]),(5,[45,45,33]),(5,[45,45,45,45,45])],[some 1,some 2,some 4,some 5,some 7,some 8,some 9,some 11,none,none,none,none],[some 3,some 6,some 10,none,none,none,none,none,none,none,none,none],[none,some 0,some 1,some 0,some 2,some 3,some 1,some 4,some 5,some 6,some 2,some 7]⟩
noncomputable def cb24:Cb:=⟨1,1,3,97,38,[(0,[]),(1,[38]),(1,[97]),(2,[38,38]),(2,[38,97]),(2,[97,38]),(2,[97,97]),(3,[38,38,38]),(3,[38,38,97]),(3,[38,97,38]),(3,[38,97,97]),(3,[97,38,38]),(3,[97,38,97]),(3,[97,97,38]),(3,[97,97,97])],[some 2,some 4,some 6,some 8,some 10,some 12,some 14,none,none,none,none,none,none,none,none],[some 1,some 3,some 5,some 7,some 9,some 11,some 13,none,none,none,none,none,none,none,none],[none,some 0,some 0,some 1,some 1,some 2,some 2,some 3,some 3,some 4,some 4,some 5,some 5,some 6,some 6]⟩
noncomputable def cb25:Cb:=⟨1,1,3,97,45,[(0,[]),(1,[45]),(1,[97]),(2,[45,45]),(2,[45,97]),(2,[97,45]),(2,[97,97]),(3,[45,45,45]),(3,[45,45,97]),(3,[45,97,45]),(3,[45,97,97]),(3,[97,45,45]),(3,[97,45,97]),(3,[97,97,45]),(3,[97,97,97])],[some 2,some 4,some 6,some 8,some 10,some 12,some 14,none,none,none,none,none,none,none,none],[some 1,some 3,some 5,some 7,some 9,some 11,some 13,none,none,none,none,none,none,none,none],[none,some 0,some 0,some 1,some 1,some 2,some 2,some 3,some 3,some 4,some 4,some 5,some 5,some 6,some 6]⟩
noncomputable def cb26:Cb:=⟨1,1,3,97,33,[(0,[]),(1,[33]),(1,[97]),(2,[33,33]),(2,[33,97]),(2,[97,33]),(2,[97,97]),(3,[33,33,33]),(3,[33,33,97]),(3,[33,97,33]),(3,[33,97,97]),(3,[97,33,33]),(3,[97,33,97]),(3,[97,97,33]),(3,[97,97,97])],[some 2,some 4,some 6,some 8,some 10,some 12,some 14,none,none,none,none,none,none,none,none],[some 1,some 3,some 5,some 7,some 9,some 11,some 13,none,none,none,none,none,none,none,none],[none,some 0,some 0,some 1,some 1,some 2,some 2,some 3,some 3,some 4,some 4,some 5,some 5,some 6,some 6]⟩
noncomputable def cb27:Cb:=⟨1,1,3,38,45,[(0,[]),(1,[38]),(1,[45]),(2,[38,38]),(2,[38,45]),(2,[45,38]),(2,[45,45]),(3,[38,38,38]),(3,[38,38,45]),(3,[38,45,38]),(3,[38,45,45]),(3,[45,38,38]),(3,[45,38,45]),(3,[45,45,38]),(3,[45,45,45])],[some 1,some 3,some 5,some 7,some 9,some 11,some 13,none,none,none,none,none,none,none,none],[some 2,some 4,some 6,some 8,some 10,some 12,some 14,none,none,none,none,none,none,none,none],[none,some 0,some 0,some 1,some 1,some 2,some 2,some 3,some 3,some 4,some 4,some 5,some 5,some 6,some 6]⟩
noncomputable def cb28:Cb:=⟨1,1,3,38,33,[(0,[]),(1,[33]),(1,[38]),(2,[33,33]),(2,[33,38]),(2,[38,33]),(2,[38,38]),(3,[33,33,33]),(3,[33,33,38]),(3,[33,38,33]),(3,[33,38,38]),(3,[38,33,33]),(3,[38,33,38]),(3,[38,38,33]),(3,[38,38,38])],[some 2,some 4,some 6,some 8,some 10,some 12,some 14,none,none,none,none,none,none,none,none],[some 1,some 3,some 5,some 7,some 9,some 11,some 13,none,none,none,none,none,none,none,none],[none,some 0,some 0,some 1,some 1,some 2,some 2,some 3,some 3,some 4,some 4,some 5,some 5,some 6,some 6]⟩
noncomputable def cb29:Cb:=⟨1,1,3,45,33,[(0,[]),(1,[33]),(1,[45]),(2,[33,33]),(2,[33,45]),(2,[45,33]),(2,[45,45]),(3,[33,33,33]),(3,[33,33,45]),(3,[33,45,33]),(3,[33,45,45]),(3,[45,33,33]),(3,[45,33,45]),(3,[45,45,33]),(3,[45,45,45])],[some 2,some 4,some 6,some 8,some 10,some 12,some 14,none,none,none,none,none,none,none,none],[some 1,some 3,some 5,some 7,some 9,some 11,some 13,none,none,none,none,none,none,none,none],[none,some 0,some 0,some 1,some 1,some 2,some 2,some 3,some 3,some 4,some 4,some 5,some 5,some 6,some 6]⟩
theorem ok0:okCb cb0=true:=by decide +kernel
theorem ok1:okCb cb1=true:=by decide +kernel
theorem ok2:okCb cb2=true:=by decide +kernel
theorem ok3:okCb cb3=true:=by decide +kernel
theorem ok4:okCb cb4=true:=by decide +kernel
theorem ok5:okCb cb5=true:=by decide +kernel
theorem ok6:okCb cb6=true:=by decide +kernel
theorem ok7:okCb cb7=true:=by decide +kernel
theorem ok8:okCb cb8=true:=by decide +kernel
theorem ok9:okCb cb9=true:=by decide +kernel
theorem ok10:okCb cb10=true:=by decide +kernel
theorem ok11:okCb cb11=true:=by decide +kernel
theorem ok12:okCb cb12=true:=by decide +kernel
theorem ok13:okCb cb13=true:=by decide +kernel
theorem ok14:okCb cb14=true:=by decide +kernel
theorem ok15:okCb cb15=true:=by decide +kernel
theorem ok16:okCb cb16=true:=by decide +kernel
theorem ok17:okCb cb17=true:=by decide +kernel
theorem ok18:okCb cb18=true:=by decide +kernel
theorem ok19:okCb cb19=true:=by decide +kernel
theorem ok20:okCb cb20=true:=by decide +kernel
theorem ok21:okCb cb21=true:=by decide +kernel
theorem ok22:okCb cb22=true:=by decide +kernel
theorem ok23:okCb cb23=true:=by decide +kernel
theorem ok24:okCb cb24=true:=by decide +kernel
theorem ok25:okCb cb25=true:=by decide +kernel
theorem ok26:okCb cb26=true:=by decide +kernel
theorem ok27:okCb cb27=true:=by decide +kernel
theorem ok28:okCb cb28=true:=by decide +kernel
theorem ok29:okCb cb29=true:=by decide +kernel
noncomputable def steps (c:Cb):V:=.frz [.tup [.str [c.a],.int c.f],.tup [.str [c.b],.int c.s]]
noncomputable def nmV (x:Int×List Nat):V:=.tup [.int x.1,.str x.2]
noncomputable def dueW (K:Nat):FS:=(seqS (setS 3 (lstF [])) (seqS (setS 4 (lstF [(tupF [(cInt 0),(cStr [])])])) (whileS (tB (bin neV (getV 4) (lstF []))) (seqS (setS 3 (bin addV (getV 3) (getV 4))) (seqS (setS 4 (compF (noL (itF (getV 4))) 4 [1] (genC (noL (itF (getV 4))) (leafC (tupF [(bin addV (getV 0) (getV 3)),(bin addV (getV 1) (getV 2))])) (tgT [2,3]) []) (tgT [0,1]) [])) (setS 4 (compF (noL (itF (getV 4))) 1 [2] (leafC (getV 0)) (tgN 0) [(tB (bin leV (bin idxV (getV 0) (cInt 0)) (getV 1)))])))) K)))
noncomputable def namesRaw (c:Cb):V:=match dueW 1000 [some .none,some (steps c),some (.int c.lim),none,none,none,none,none,none] [] with
  |some (_,ρ,_)=>(match ρ[3]? with
    |some (some v)=>v
    |_=>.none)
  |none=>.none
noncomputable def NmOk (c:Cb):Prop:=∀ rows:V,dueW 1000 [some rows,some (steps c),some (.int c.lim),none,none,none,none,none,none] []=some (.nx,[some rows,some (steps c),some (.int c.lim),some (namesRaw c),some (.frz []),none,none,none,none],[])
noncomputable def SrOk (c:Cb):Prop:=∀ H:Hp,srtF (getV 0) [some (namesRaw c)] H=some (c.nms.map nmV,H)
theorem nm0:NmOk cb0:=fun rows=>by kernel_rfl
theorem sr0:SrOk cb0:=fun H=>by kernel_rfl
theorem nm1:NmOk cb1:=fun rows=>by kernel_rfl
theorem sr1:SrOk cb1:=fun H=>by kernel_rfl
theorem nm2:NmOk cb2:=fun rows=>by kernel_rfl
theorem sr2:SrOk cb2:=fun H=>by kernel_rfl
theorem nm3:NmOk cb3:=fun rows=>by kernel_rfl
theorem sr3:SrOk cb3:=fun H=>by kernel_rfl
theorem nm4:NmOk cb4:=fun rows=>by kernel_rfl
theorem sr4:SrOk cb4:=fun H=>by kernel_rfl
theorem nm5:NmOk cb5:=fun rows=>by kernel_rfl
theorem sr5:SrOk cb5:=fun H=>by kernel_rfl
theorem nm6:NmOk cb6:=fun rows=>by kernel_rfl
theorem sr6:SrOk cb6:=fun H=>by kernel_rfl
theorem nm7:NmOk cb7:=fun rows=>by kernel_rfl
theorem sr7:SrOk cb7:=fun H=>by kernel_rfl
theorem nm8:NmOk cb8:=fun rows=>by kernel_rfl
theorem sr8:SrOk cb8:=fun H=>by kernel_rfl
theorem nm9:NmOk cb9:=fun rows=>by kernel_rfl
theorem sr9:SrOk cb9:=fun H=>by kernel_rfl
theorem nm10:NmOk cb10:=fun rows=>by kernel_rfl
theorem sr10:SrOk cb10:=fun H=>by kernel_rfl
theorem nm11:NmOk cb11:=fun rows=>by kernel_rfl
theorem sr11:SrOk cb11:=fun H=>by kernel_rfl
theorem nm12:NmOk cb12:=fun rows=>by kernel_rfl
theorem sr12:SrOk cb12:=fun H=>by kernel_rfl
theorem nm13:NmOk cb13:=fun rows=>by kernel_rfl
theorem sr13:SrOk cb13:=fun H=>by kernel_rfl
theorem nm14:NmOk cb14:=fun rows=>by kernel_rfl
theorem sr14:SrOk cb14:=fun H=>by kernel_rfl
theorem nm15:NmOk cb15:=fun rows=>by kernel_rfl
theorem sr15:SrOk cb15:=fun H=>by kernel_rfl
theorem nm16:NmOk cb16:=fun rows=>by kernel_rfl
theorem sr16:SrOk cb16:=fun H=>by kernel_rfl
theorem nm17:NmOk cb17:=fun rows=>by kernel_rfl
theorem sr17:SrOk cb17:=fun H=>by kernel_rfl
theorem nm18:NmOk cb18:=fun rows=>by kernel_rfl
theorem sr18:SrOk cb18:=fun H=>by kernel_rfl
theorem nm19:NmOk cb19:=fun rows=>by kernel_rfl
theorem sr19:SrOk cb19:=fun H=>by kernel_rfl
theorem nm20:NmOk cb20:=fun rows=>by kernel_rfl
theorem sr20:SrOk cb20:=fun H=>by kernel_rfl
theorem nm21:NmOk cb21:=fun rows=>by kernel_rfl
theorem sr21:SrOk cb21:=fun H=>by kernel_rfl
theorem nm22:NmOk cb22:=fun rows=>by kernel_rfl
theorem sr22:SrOk cb22:=fun H=>by kernel_rfl
theorem nm23:NmOk cb23:=fun rows=>by kernel_rfl
theorem sr23:SrOk cb23:=fun H=>by kernel_rfl
theorem nm24:NmOk cb24:=fun rows=>by kernel_rfl
theorem sr24:SrOk cb24:=fun H=>by kernel_rfl
theorem nm25:NmOk cb25:=fun rows=>by kernel_rfl
theorem sr25:SrOk cb25:=fun H=>by kernel_rfl
theorem nm26:NmOk cb26:=fun rows=>by kernel_rfl
theorem sr26:SrOk cb26:=fun H=>by kernel_rfl
theorem nm27:NmOk cb27:=fun rows=>by kernel_rfl
theorem sr27:SrOk cb27:=fun H=>by kernel_rfl
theorem nm28:NmOk cb28:=fun rows=>by kernel_rfl
theorem sr28:SrOk cb28:=fun H=>by kernel_rfl
theorem nm29:NmOk cb29:=fun rows=>by kernel_rfl
theorem sr29:SrOk cb29:=fun H=>by kernel_rfl
noncomputable def CbOk (c:Cb):Prop:=okCb c=true∧NmOk c∧SrOk c
theorem cbok0:CbOk cb0:=⟨ok0,nm0,sr0⟩
theorem cbok1:CbOk cb1:=⟨ok1,nm1,sr1⟩
theorem cbok2:CbOk cb2:=⟨ok2,nm2,sr2⟩
theorem cbok3:CbOk cb3:=⟨ok3,nm3,sr3⟩
theorem cbok4:CbOk cb4:=⟨ok4,nm4,sr4⟩
theorem cbok5:CbOk cb5:=⟨ok5,nm5,sr5⟩
theorem cbok6:CbOk cb6:=⟨ok6,nm6,sr6⟩
theorem cbok7:CbOk cb7:=⟨ok7,nm7,sr7⟩
theorem cbok8:CbOk cb8:=⟨ok8,nm8,sr8⟩
theorem cbok9:CbOk cb9:=⟨ok9,nm9,sr9⟩
theorem cbok10:CbOk cb10:=⟨ok10,nm10,sr10⟩
theorem cbok11:CbOk cb11:=⟨ok11,nm11,sr11⟩
theorem cbok12:CbOk cb12:=⟨ok12,nm12,sr12⟩
theorem cbok13:CbOk cb13:=⟨ok13,nm13,sr13⟩
theorem cbok14:CbOk cb14:=⟨ok14,nm14,sr14⟩
theorem cbok15:CbOk cb15:=⟨ok15,nm15,sr15⟩
theorem cbok16:CbOk cb16:=⟨ok16,nm16,sr16⟩
theorem cbok17:CbOk cb17:=⟨ok17,nm17,sr17⟩
theorem cbok18:CbOk cb18:=⟨ok18,nm18,sr18⟩
theorem cbok19:CbOk cb19:=⟨ok19,nm19,sr19⟩
theorem cbok20:CbOk cb20:=⟨ok20,nm20,sr20⟩
theorem cbok21:CbOk cb21:=⟨ok21,nm21,sr21⟩
theorem cbok22:CbOk cb22:=⟨ok22,nm22,sr22⟩
theorem cbok23:CbOk cb23:=⟨ok23,nm23,sr23⟩
theorem cbok24:CbOk cb24:=⟨ok24,nm24,sr24⟩
theorem cbok25:CbOk cb25:=⟨ok25,nm25,sr25⟩
theorem cbok26:CbOk cb26:=⟨ok26,nm26,sr26⟩
theorem cbok27:CbOk cb27:=⟨ok27,nm27,sr27⟩
theorem cbok28:CbOk cb28:=⟨ok28,nm28,sr28⟩
theorem cbok29:CbOk cb29:=⟨ok29,nm29,sr29⟩
structure CbF (c:Cb):Prop where
  lt:∀ i j,i < c.nms.length→j < c.nms.length→i ≠ j→ltN (nm c i) (nm c j)=decide (i < j)∧nm c i ≠ nm c j
  k0:∀ i,i < c.nms.length→okKid c c.c0 c.f c.a i=true
  k1:∀ i,i < c.nms.length→okKid c c.c1 c.s c.b i=true
  pr:∀ k i,k < c.nms.length→c.par.getD k none=some i→i < k∧(c.c0.getD i none=some k∨c.c1.getD i none=some k)
  rt:∀ k,k < c.nms.length→c.par.getD k none=none→k=0
  sg:∀ i,i < c.nms.length→(∀ s ∈ (nm c i).2,s ∈ sgs)∧(nm c i).2.length≤6
  a:c.a ∈ sgs
  b:c.b ∈ sgs
  ab:c.a ≠ c.b
  le:c.nms.length≤15
  ge:1≤c.nms.length
  z:nm c 0=(0,[])
theorem cbF {c:Cb} (h:okCb c=true):CbF c:=by
  unfold okCb at h
  simp only [Bool.and_eq_true,decide_eq_true_eq,List.all_eq_true,List.mem_range] at h
  obtain ⟨⟨⟨⟨⟨⟨⟨⟨⟨h1,h2⟩,h3⟩,h4⟩,h5⟩,h6⟩,h7⟩,h8⟩,h9⟩,h10⟩:=h
  refine ⟨fun i j hi hj hij=>?_,fun i hi=>(h2 i hi).1,fun i hi=>(h2 i hi).2,fun k i hk e=>?_,fun k hk e=>?_,fun i hi=>⟨fun s hs=>(h4 i hi).1 s hs,(h4 i hi).2⟩,h5,h6,h7,h8,h9,h10⟩
  · have:=h1 i hi j hj
    simp only [Bool.or_eq_true,beq_iff_eq,Bool.and_eq_true,Bool.not_eq_true',decide_eq_false_iff_not] at this
    rcases this with h | ⟨h,h'⟩
    · exact absurd h hij
    · exact ⟨h,h'⟩
  · have:=h3 k hk
    rw [e] at this
    simp only [Bool.and_eq_true,Bool.or_eq_true,decide_eq_true_eq] at this
    exact this
  · have:=h3 k hk
    rw [e] at this
    simpa using this
noncomputable abbrev RW (rp:Nat→List Pt) (no:Nat):Rw:=(rp no).map AP
noncomputable def el (rp:Nat→List Pt) (c:Cb) (j:Nat):V:=.tup [.int (nm c (j / 2)).1,.str (nm c (j / 2)).2,.int (j % 2:Nat),.frz (I (PL (RW rp (j % 2)) (nm c (j / 2)).2))]
noncomputable def out (rp:Nat→List Pt) (c:Cb) (j:Nat):V:=.tup [.str (nm c (j / 2)).2,.int (j % 2:Nat),.bool (tk (RW rp (j % 2)) (nm c (j / 2)).2)]
noncomputable def bg (rp:Nat→List Pt) (c:Cb) (j:Nat):Bool:=!(PL (RW rp (j % 2)) (nm c (j / 2)).2).isEmpty
theorem noLsts_map {α:Type} {f:α→V} (h:∀ x,(f x).noLst=true) (l:List α):noLsts (l.map f)=true:=by
  induction l with
  |nil=>rfl
  |cons x l ih=>exact noLsts_mk (h x) ih
theorem half_lt {i j:Nat} (h:¬ i / 2=j / 2):i / 2 < j / 2↔i < j:=⟨Nat.lt_of_div_lt_div,fun q=>Nat.lt_of_le_of_ne (Nat.div_le_div_right (Nat.le_of_lt q)) h⟩
theorem half_mod {i j:Nat} (h:i / 2=j / 2):i % 2 < j % 2↔i < j:=by
  have a:=Nat.div_add_mod i 2
  have b:=Nat.div_add_mod j 2
  rw [h] at a
  exact ⟨fun q=>Nat.lt_of_lt_of_eq (Nat.lt_of_le_of_lt (Nat.le_of_eq a.symm) (Nat.add_lt_add_left q _)) b,fun q=>Nat.lt_of_add_lt_add_left (n:=2 * (j / 2)) (Nat.lt_of_le_of_lt (Nat.le_of_eq a) (Nat.lt_of_lt_of_eq q b.symm))⟩
theorem half_ne {i j:Nat} (h:i / 2=j / 2) (hn:i ≠ j):¬ i % 2=j % 2:=fun e=>hn (by rw [← Nat.div_add_mod i 2,← Nat.div_add_mod j 2,h,e])
theorem els_of {rp:Nat→List Pt} {c:Cb} (F:CbF c):Els (el rp c) (2 * c.nms.length):=by
  refine ⟨fun i j hi hj hij H=>?_,fun i hi=>?_⟩
  · simp only [el,z_ltt,z_tui,z_tus]
    by_cases h:i / 2=j / 2
    · have e1:¬ ((i % 2:Nat):Int)=((j % 2:Nat):Int):=fun e=>half_ne h hij (Int.ofNat.inj e)
      have e2:decide (((i % 2:Nat):Int) < ((j % 2:Nat):Int))=decide (i < j):=by
        rw [Bool.eq_iff_iff,decide_eq_true_eq,decide_eq_true_eq];exact Int.ofNat_lt.trans (half_mod h)
      rw [h]
      simp only [if_true,e1,if_false,e2,Option.map_some]
    · obtain ⟨h1,h2⟩:=F.lt (i / 2) (j / 2) (Nat.div_lt_of_lt_mul hi) (Nat.div_lt_of_lt_mul hj) h
      have e2:decide (i / 2 < j / 2)=decide (i < j):=by
        rw [Bool.eq_iff_iff,decide_eq_true_eq,decide_eq_true_eq];exact half_lt h
      rw [e2] at h1
      unfold ltN at h1
      by_cases h3:(nm c (i / 2)).1=(nm c (j / 2)).1
      · have h4:¬ (nm c (i / 2)).2=(nm c (j / 2)).2:=fun h4=>h2 (Prod.ext h3 h4)
        simp only [h3,h4,if_true,if_false] at h1 ⊢
        rw [h1];rfl
      · simp only [h3,if_false] at h1 ⊢
        rw [h1];rfl
  · simp only [el,nlf,nlt,nls,nli,nlc,nln,I_no,Bool.and_self]
theorem PL_len {R:Rw} {w:List Nat}:(PL R w).length≤R.length+1:=by
  rcases List.eq_nil_or_concat w with rfl | ⟨l,z,rfl⟩
  · exact openGo_len _
  · rw [List.concat_eq_append,PL_snoc];exact openGo_len _
noncomputable abbrev rowsV (rp:Nat→List Pt):V:=.frz [.frz ((rp 0).map itV),.frz ((rp 1).map itV)]
noncomputable abbrev LS (rp:Nat→List Pt) (c:Cb) (c5 c6 c7 c8 c9 c10 c11 c12 c13 c14:Option V):Rho:=[some (rowsV rp),some (steps c),some (.int c.lim),some (.lst 0),some (.lst 1),c5,c6,c7,c8,c9,c10,c11,c12,c13,c14]
noncomputable def lIn:FS:=(seqS (setS 12 (funF g_law_onward [(bin idxV (getV 0) (getV 7)),(getV 8),(getV 10)])) (ifS (tAnd [(tB (bin leV (bin addV (getV 5) (getV 11)) (getV 2))),(tB (bin neV (getV 12) (lstF [])))]) (expS (apdF (getV 9) (tupF [(bin addV (getV 5) (getV 11)),(bin addV (getV 6) (getV 10)),(getV 7),(getV 12)]))) nopS))
noncomputable def lGone (K:Nat):FE:=(ifE (tB (bin eqV (getV 9) (lstF []))) (funcF (g_heappop K) [(getV 3)]) (funcF (g_heapreplace K) [(getV 3),(bin idxV (getV 9) (cInt 0))]))
noncomputable def lPush (K:Nat):FS:=(frS (itF (slc (getV 9) (cInt 1) cNone)) (tgN 14) (expS (funcF (g_heappush K) [(getV 3),(getV 14)])))
noncomputable def lOut:FS:=(expS (apdF (getV 4) (tupF [(bin idxV (getV 13) (cInt 1)),(bin idxV (getV 13) (cInt 2)),(bin inV (calF lenG [(bin idxV (getV 0) (bin idxV (getV 13) (cInt 2)))]) (bin idxV (getV 13) (cInt 3)))])))
noncomputable def bL (K:Nat):FS:=(seqS (setT (bin idxV (getV 3) (cInt 0)) [5,6,7,8]) (seqS (setS 9 (newF [])) (seqS (frS (itF (getV 1)) (tgT [10,11]) lIn) (seqS (setS 13 (lGone K)) (seqS (lPush K) lOut)))))
noncomputable def tL:FT:=(tB (bin neV (getV 3) (lstF [])))
noncomputable def lHeap:FE:=(newC (noL (rngF [(bin subV (calF lenG [(getV 0)]) (cInt 1)),(negF (cInt 1)),(negF (cInt 1))])) 1 [0] (leafC (tupF [(cInt 0),(cStr []),(getV 0),(funF g_law_open [(bin idxV (getV 1) (getV 0)),(lstF [(cInt 0)])])])) (tgN 0) [])
theorem f_listing_eq (K:Nat):f_law_listing K=seqS (setS 3 lHeap) (seqS (expS (funcF (g_heapify K) [(getV 3)])) (seqS (setS 4 (newF [])) (seqS (whileS tL (bL K) K) (retS (getV 4))))):=rfl
noncomputable def kidOf (kids:List (Option Nat)) (a:Nat):Option Nat:=(kids.getD (a / 2) none).map fun k=>2 * k+a % 2
noncomputable def kidL (rp:Nat→List Pt) (c:Cb) (kids:List (Option Nat)) (a:Nat):List Nat:=match kidOf kids a with
  |some j=>if bg rp c j then [j] else []
  |none=>[]
theorem gd_I (l:List Nat):∀ v ∈ I l,gd v:=ints_gd
section
variable {rp:Nat→List Pt} {c:Cb}
theorem rows_at {no:Nat} (h:no < 2) {H:Hp}:idxV H (rowsV rp) (.int (no:Nat))=some (.frz ((rp no).map itV)):=by
  obtain rfl | rfl:no=0∨no=1:=by omega
  · rfl
  · rfl
theorem in_step (F:CbF c) (hr:∀ no,POk (rp no)) (hl:∀ no,(rp no).length≤100) {kids:List (Option Nat)} {mo:Int} {g:Nat} (hg:g ∈ sgs) (hk:∀ i,i < c.nms.length→okKid c kids mo g i=true)
    {a:Nat} (ha:a < 2 * c.nms.length) {H0:Hp} {X:List Nat} (hX:X.length≤10) {c12 c13 c14:Option V} :
    ∃ c12',lIn (LS rp c (some (.int (nm c (a / 2)).1)) (some (.str (nm c (a / 2)).2)) (some (.int (a % 2:Nat))) (some (.frz (I (PL (RW rp (a % 2)) (nm c (a / 2)).2)))) (some (.lst H0.length)) (some (.str [g])) (some (.int mo)) c12 c13 c14) (H0++[X.map (el rp c)]) =
      some (.nx,LS rp c (some (.int (nm c (a / 2)).1)) (some (.str (nm c (a / 2)).2)) (some (.int (a % 2:Nat))) (some (.frz (I (PL (RW rp (a % 2)) (nm c (a / 2)).2)))) (some (.lst H0.length)) (some (.str [g])) (some (.int mo)) c12' c13 c14,H0++[(X++kidL rp c kids a).map (el rp c)]):=by
  generalize hi:a / 2=i
  generalize hno:a % 2=no
  have hno2:no < 2:=by omega
  have hil:i < c.nms.length:=by omega
  have hki:=hk i hil
  obtain ⟨hsg1,hsg2⟩:=F.sg i hil
  have hon:=onward_ok (P:=PL (RW rp no) (nm c i).2) (s:=g) (hr no) hg (hl no) (by have:=PL_len (R:=RW rp no) (w:=(nm c i).2);simp only [List.length_map] at this;have:=hl no;omega)
  have hps:onwP ((rp no).map AP) (PL (RW rp no) (nm c i).2) g=PL (RW rp no) ((nm c i).2++[g]):=PL_snoc.symm
  rw [hps] at hon
  have e1:setS 12 (funF g_law_onward [(bin idxV (getV 0) (getV 7)),(getV 8),(getV 10)]) (LS rp c (some (.int (nm c i).1)) (some (.str (nm c i).2)) (some (.int (no:Nat))) (some (.frz (I (PL (RW rp no) (nm c i).2)))) (some (.lst H0.length)) (some (.str [g])) (some (.int mo)) c12 c13 c14) (H0++[X.map (el rp c)]) =
      some (.nx,LS rp c (some (.int (nm c i).1)) (some (.str (nm c i).2)) (some (.int (no:Nat))) (some (.frz (I (PL (RW rp no) (nm c i).2)))) (some (.lst H0.length)) (some (.str [g])) (some (.int mo)) (some (.frz (I (PL (RW rp no) ((nm c i).2++[g]))))) c13 c14,H0++[X.map (el rp c)]):=by
    have hf:=funF_ok (g:=g_law_onward) (fs:=[(bin idxV (getV 0) (getV 7)),(getV 8),(getV 10)]) (ρ:=LS rp c (some (.int (nm c i).1)) (some (.str (nm c i).2)) (some (.int (no:Nat))) (some (.frz (I (PL (RW rp no) (nm c i).2)))) (some (.lst H0.length)) (some (.str [g])) (some (.int mo)) c12 c13 c14) (H:=H0++[X.map (el rp c)])
      (xs:=[.frz ((rp no).map itV),.frz (I (PL (RW rp no) (nm c i).2)),.str [g]]) (by
        have:=rows_at (rp:=rp) hno2 (H:=H0++[X.map (el rp c)])
        simp only [seqF,bin,getV,LS,gs,gz,this]) (by simp only [nlc,nln,nlf,nls,its_no (hr no),I_no,Bool.and_self]) hon
    simp only [setS,hf]
    rfl
  generalize hQ:PL (RW rp no) ((nm c i).2++[g])=Q at *
  refine ⟨some (.frz (I Q)),?_⟩
  rw [lIn,seqS_nx e1]
  have t1:tB (bin leV (bin addV (getV 5) (getV 11)) (getV 2)) (LS rp c (some (.int (nm c i).1)) (some (.str (nm c i).2)) (some (.int (no:Nat))) (some (.frz (I (PL (RW rp no) (nm c i).2)))) (some (.lst H0.length)) (some (.str [g])) (some (.int mo)) (some (.frz (I Q))) c13 c14) (H0++[X.map (el rp c)])=some (decide ((nm c i).1+mo≤c.lim),H0++[X.map (el rp c)]):=by
    simp only [tB,bin,getV,LS,gs,gz,z_add,z_le,z_trb]
  have t2:tB (bin neV (getV 12) (lstF [])) (LS rp c (some (.int (nm c i).1)) (some (.str (nm c i).2)) (some (.int (no:Nat))) (some (.frz (I (PL (RW rp no) (nm c i).2)))) (some (.lst H0.length)) (some (.str [g])) (some (.int mo)) (some (.frz (I Q))) c13 c14) (H0++[X.map (el rp c)])=some (!Q.isEmpty,H0++[X.map (el rp c)]):=by
    have:=eqB_nil (H:=H0++[X.map (el rp c)]) (x:=.frz (I Q)) rfl (gd_I Q)
    have e:(I Q).isEmpty=Q.isEmpty:=by cases Q<;>rfl
    rw [e] at this
    simp only [tB,bin,getV,LS,gs,gz,lstF,seqF,neV,this,Option.map_some,z_trb]
  unfold okKid at hki
  unfold kidL kidOf
  rw [hi,hno]
  cases hkd:kids.getD i none with
  |none=>
    rw [hkd] at hki
    have hle:¬ (nm c i).1+mo≤c.lim:=by simpa using hki
    simp only [Option.map_none,List.append_nil]
    simp only [ifS,tAnd,t1,hle,decide_false,Bool.false_eq_true,if_false,nopS]
  |some k=>
    rw [hkd] at hki
    simp only [Bool.and_eq_true,decide_eq_true_eq] at hki
    obtain ⟨⟨⟨hle,hnk⟩,hkl⟩,_⟩:=hki
    have hd1:(2 * k+no) / 2=k:=by omega
    have hd2:(2 * k+no) % 2=no:=by omega
    have hbg:bg rp c (2 * k+no) = !Q.isEmpty:=by
      unfold bg;rw [hd1,hd2,hnk,hQ]
    have hel:el rp c (2 * k+no)=.tup [.int ((nm c i).1+mo),.str ((nm c i).2++[g]),.int (no:Nat),.frz (I Q)]:=by
      unfold el;rw [hd1,hd2,hnk,hQ]
    simp only [Option.map_some,hbg]
    cases hq:(!Q.isEmpty) with
    |false=>
      rw [hq] at t2
      simp only [Bool.false_eq_true,if_false,List.append_nil]
      simp only [ifS,tAnd,t1,hle,decide_true,if_true,t2,Bool.false_eq_true,if_false,nopS]
    |true=>
      rw [hq] at t2
      simp only [if_true]
      have hz:(X.map (el rp c)).length < SZ:=by simp only [List.length_map,SZ];omega
      have hz2:(nm c i).2.length+1≤SZ:=by simp only [SZ];omega
      have hc:(H0++[X.map (el rp c)])[H0.length]?=some (X.map (el rp c)):=by simp
      have hset:(H0++[X.map (el rp c)]).set H0.length (X.map (el rp c)++[el rp c (2 * k+no)])=H0++[(X++[2 * k+no]).map (el rp c)]:=by simp
      rw [hel] at hset
      simp only [ifS,tAnd,t1,hle,decide_true,if_true,t2,expS,apdF,tupF,seqF,bin,getV,LS,gs,gz,z_add,z_adds,List.length_cons,List.length_nil,Nat.zero_add,hz2,hc,hz,hset]
end
section
variable {rp:Nat→List Pt} {c:Cb}
theorem gd_el (F:CbF c) {j:Nat} (hj:j < 2 * c.nms.length):gd (el rp c j):=by
  have hs:=(F.sg (j / 2) (by omega)).1
  have h1:okV (.str (nm c (j / 2)).2)=true:=by
    simp only [okV,List.all_eq_true,decide_eq_true_eq]
    intro s h
    have:=hs s h
    simp only [sgs,List.mem_cons,List.not_mem_nil,or_false] at this
    omega
  have h2:okV (.frz (I (PL (RW rp (j % 2)) (nm c (j / 2)).2)))=true:=by simp only [okV];exact gds_ok (gd_I _)
  have h3:PyData.depthAll (toPys (I (PL (RW rp (j % 2)) (nm c (j / 2)).2)))≤0:=gds_depth fun v hv=>by
    obtain ⟨i,_,rfl⟩:=List.mem_map.mp hv
    simp [toPy,PyData.depth]
  refine ⟨?_,?_⟩
  · simp only [el,okV,okVs,Bool.and_true,Bool.true_and]
    simp only [okV] at h1 h2
    rw [h1,h2];rfl
  · simp only [el,toPy,toPys,PyData.depth,PyData.depthAll]
    omega
theorem gd_els (F:CbF c) {l:List Nat} (hl:∀ y ∈ l,y < 2 * c.nms.length):∀ v ∈ l.map (el rp c),gd v:=by
  intro v hv
  obtain ⟨j,hj,rfl⟩:=List.mem_map.mp hv
  exact gd_el F (hl j hj)
theorem kidL_len {kids:List (Option Nat)} {a:Nat}:(kidL rp c kids a).length≤1:=by
  unfold kidL
  split
  · split<;>simp
  · simp
noncomputable abbrev LT (rp:Nat→List Pt) (c:Cb) (a:Nat) (c9 c10 c11 c12 c13 c14:Option V):Rho:=LS rp c (some (.int (nm c (a / 2)).1)) (some (.str (nm c (a / 2)).2)) (some (.int (a % 2:Nat))) (some (.frz (I (PL (RW rp (a % 2)) (nm c (a / 2)).2)))) c9 c10 c11 c12 c13 c14
theorem it_steps (F:CbF c) (hr:∀ no,POk (rp no)) (hl:∀ no,(rp no).length≤100) {a:Nat} (ha:a < 2 * c.nms.length) {H0:Hp} {c10 c11 c12 c13 c14:Option V} :
    ∃ c10' c11' c12',frS (itF (getV 1)) (tgT [10,11]) lIn (LT rp c a (some (.lst H0.length)) c10 c11 c12 c13 c14) (H0++[[]]) =
      some (.nx,LT rp c a (some (.lst H0.length)) c10' c11' c12' c13 c14,H0++[(kidL rp c c.c0 a++kidL rp c c.c1 a).map (el rp c)]):=by
  obtain ⟨d12,h1⟩:=in_step (rp:=rp) F hr hl F.a F.k0 ha (H0:=H0) (X:=[]) (by simp) (c12:=c12) (c13:=c13) (c14:=c14)
  have hk:=kidL_len (rp:=rp) (c:=c) (kids:=c.c0) (a:=a)
  obtain ⟨e12,h2⟩:=in_step (rp:=rp) F hr hl F.b F.k1 ha (H0:=H0) (X:=[]++kidL rp c c.c0 a) (by simp;omega) (c12:=d12) (c13:=c13) (c14:=c14)
  refine ⟨some (.str [c.b]),some (.int c.s),e12,?_⟩
  have e0:itF (getV 1) (LT rp c a (some (.lst H0.length)) c10 c11 c12 c13 c14) (H0++[[]])=some ([.tup [.str [c.a],.int c.f],.tup [.str [c.b],.int c.s]],H0++[[]]):=rfl
  have t1:tgT [10,11] (.tup [.str [c.a],.int c.f]) (LT rp c a (some (.lst H0.length)) c10 c11 c12 c13 c14)=some (LT rp c a (some (.lst H0.length)) (some (.str [c.a])) (some (.int c.f)) c12 c13 c14):=rfl
  have t2:tgT [10,11] (.tup [.str [c.b],.int c.s]) (LT rp c a (some (.lst H0.length)) (some (.str [c.a])) (some (.int c.f)) d12 c13 c14)=some (LT rp c a (some (.lst H0.length)) (some (.str [c.b])) (some (.int c.s)) d12 c13 c14):=rfl
  rw [List.map_nil] at h1
  rw [List.nil_append] at h1 h2
  simp only [frS,e0,forGo,t1,h1,t2,h2]
theorem it_top {a:Nat} {t:List Nat} {J:Hp} {c5 c6 c7 c8 c9 c10 c11 c12 c13 c14:Option V} (hz:((a::t).map (el rp c)).length≤SZ) :
    setT (bin idxV (getV 3) (cInt 0)) [5,6,7,8] (LS rp c c5 c6 c7 c8 c9 c10 c11 c12 c13 c14) ((a::t).map (el rp c)::J)=some (.nx,LT rp c a c9 c10 c11 c12 c13 c14,(a::t).map (el rp c)::J):=by
  have:idxL ((a::t).map (el rp c)) 0=some (el rp c a):=(idxL_ge (i:=0) hz).trans rfl
  simp only [setT,bin,getV,LS,gs,gz,cInt,z_idl,z_obn,this]
  rfl
theorem it_eq (F:CbF c) {a q:Nat} {ch:List Nat} {H:Hp} {c10 c11 c12 c13 c14:Option V} (hq:H[q]?=some (ch.map (el rp c))) (hch:∀ y ∈ ch,y < 2 * c.nms.length) :
    tB (bin eqV (getV 9) (lstF [])) (LT rp c a (some (.lst q)) c10 c11 c12 c13 c14) H=some (ch.isEmpty,H):=by
  have hrv:resV H (.lst q)=.frz (ch.map (el rp c)):=by simp only [resV,hq]
  have:=eqB_nil hrv (gd_els F hch)
  have e:(ch.map (el rp c)).isEmpty=ch.isEmpty:=by cases ch<;>rfl
  rw [e] at this
  simp only [tB,bin,getV,gs,gz,lstF,seqF,eqV,this,Option.map_some,z_trb]
theorem it_out (hl:∀ no,(rp no).length≤100) {a:Nat} {X outs:List V} {J:Hp} {c9 c10 c11 c12 c14:Option V} (houts:outs.length≤800) :
    lOut (LT rp c a c9 c10 c11 c12 (some (el rp c a)) c14) (X::outs::J)=some (.nx,LT rp c a c9 c10 c11 c12 (some (el rp c a)) c14,X::(outs++[out rp c a])::J):=by
  have hzo:outs.length < SZ:=by simp only [SZ];omega
  have hrow:=rows_at (rp:=rp) (no:=a % 2) (by omega) (H:=X::outs::J)
  have hrz:(rp (a % 2)).length≤SZ:=by have:=hl (a % 2);simp only [SZ];omega
  have hin:=inB_ints (H:=X::outs::J) (c:=.frz (I (PL (RW rp (a % 2)) (nm c (a / 2)).2))) (k:=((rp (a % 2)).length:Int)) rfl
  rw [any_mem] at hin
  have hb:decide ((rp (a % 2)).length ∈ PL (RW rp (a % 2)) (nm c (a / 2)).2)=tk (RW rp (a % 2)) (nm c (a / 2)).2:=by
    have:=PL_end (R:=RW rp (a % 2)) (w:=(nm c (a / 2)).2)
    rw [List.length_map] at this
    rw [Bool.eq_iff_iff,decide_eq_true_eq];exact this
  rw [hb] at hin
  have i1:idxV (X::outs::J) (el rp c a) (.int 1)=some (.str (nm c (a / 2)).2):=rfl
  have i2:idxV (X::outs::J) (el rp c a) (.int 2)=some (.int (a % 2:Nat)):=rfl
  have i3:idxV (X::outs::J) (el rp c a) (.int 3)=some (.frz (I (PL (RW rp (a % 2)) (nm c (a / 2)).2))):=rfl
  simp only [lOut,expS,apdF,tupF,seqF,bin,calF,getV,gs,gz,cInt,i1,i2,i3,hrow,z_lenf,List.length_map,hrz,if_true,inV,hin,Option.map_some,hzo]
  rfl
theorem it_sl {a q:Nat} {ch:List Nat} {H:Hp} {c10 c11 c12 c13 c14:Option V} (hq:H[q]?=some (ch.map (el rp c))) (hl:ch.length≤2) :
    itF (slc (getV 9) (cInt 1) cNone) (LT rp c a (some (.lst q)) c10 c11 c12 c13 c14) H=some ((ch.drop 1).map (el rp c),H):=by
  have hz:(ch.map (el rp c)).length≤SZ:=by simp only [List.length_map,SZ];omega
  have e:slc (getV 9) (cInt 1) cNone (LT rp c a (some (.lst q)) c10 c11 c12 c13 c14) H=some (.frz (sliceL (ch.map (el rp c)) (some 1) none),H):=by
    simp only [slc,getV,gs,gz,cInt,cNone,z_sll1,z_obn,hq,hz,if_true]
  rw [it_ok e]
  cases ch with
  |nil=>rfl
  |cons x l=>rw [List.map_cons,sliceL_one];rfl
theorem it_push0 {ρ:Rho} {H:Hp} (hs:itF (slc (getV 9) (cInt 1) cNone) ρ H=some ([],H)):lPush 1000 ρ H=some (.nx,ρ,H):=by
  simp only [lPush,frS,hs,forGo]
theorem it_push1 (E:Els (el rp c) (2 * c.nms.length)) {a y:Nat} {ks1 ks2:List Nat} {J:Hp} {c9 c10 c11 c12 c13 c14:Option V} (hm:∀ u ∈ y::ks1,u < 2 * c.nms.length)
    (hs:itF (slc (getV 9) (cInt 1) cNone) (LT rp c a c9 c10 c11 c12 c13 c14) (ks1.map (el rp c)::J)=some ([el rp c y],ks1.map (el rp c)::J)) (q1:g_heappush 1000 [.lst 0,el rp c y] [ks1.map (el rp c)]=some (.none,[ks2.map (el rp c)])) :
    lPush 1000 (LT rp c a c9 c10 c11 c12 c13 c14) (ks1.map (el rp c)::J)=some (.nx,LT rp c a c9 c10 c11 c12 c13 (some (el rp c y)),ks2.map (el rp c)::J):=by
  have t0:tgN 14 (el rp c y) (LT rp c a c9 c10 c11 c12 c13 c14)=some (LT rp c a c9 c10 c11 c12 c13 (some (el rp c y))):=rfl
  have hf:=funcF_el E (g:=g_heappush 1000) (fs:=[(getV 3),(getV 14)]) (ρ:=LT rp c a c9 c10 c11 c12 c13 (some (el rp c y))) (J:=J) (xs:=[el rp c y]) rfl (by simp only [nlc,nln,E.no y (hm y (.head _)),Bool.and_self]) (fun u hu=>hm u (.tail _ hu)) q1
  simp only [lPush,frS,hs,forGo,t0,expS,hf]
theorem it_pop (E:Els (el rp c) (2 * c.nms.length)) {a:Nat} {ks ks':List Nat} {J:Hp} {c9 c10 c11 c12 c13 c14:Option V} (hm:∀ u ∈ ks,u < 2 * c.nms.length)
    (hE:tB (bin eqV (getV 9) (lstF [])) (LT rp c a c9 c10 c11 c12 c13 c14) (ks.map (el rp c)::J)=some (true,ks.map (el rp c)::J)) (p1:g_heappop 1000 [.lst 0] [ks.map (el rp c)]=some (el rp c a,[ks'.map (el rp c)])) :
    setS 13 (lGone 1000) (LT rp c a c9 c10 c11 c12 c13 c14) (ks.map (el rp c)::J)=some (.nx,LT rp c a c9 c10 c11 c12 (some (el rp c a)) c14,ks'.map (el rp c)::J):=by
  have hf:=funcF_el E (g:=g_heappop 1000) (fs:=[(getV 3)]) (ρ:=LT rp c a c9 c10 c11 c12 c13 c14) (J:=J) (xs:=[]) rfl rfl hm p1
  simp only [setS,lGone,ifE,hE,if_true,hf]
  rfl
theorem it_rep (E:Els (el rp c) (2 * c.nms.length)) {a x q:Nat} {rest ks ks':List Nat} {J:Hp} {c10 c11 c12 c13 c14:Option V} (hm:∀ u ∈ x::ks,u < 2 * c.nms.length) (hq:(ks.map (el rp c)::J)[q]?=some ((x::rest).map (el rp c))) (hl:(x::rest).length≤2)
    (hE:tB (bin eqV (getV 9) (lstF [])) (LT rp c a (some (.lst q)) c10 c11 c12 c13 c14) (ks.map (el rp c)::J)=some (false,ks.map (el rp c)::J)) (p1:g_heapreplace 1000 [.lst 0,el rp c x] [ks.map (el rp c)]=some (el rp c a,[ks'.map (el rp c)])) :
    setS 13 (lGone 1000) (LT rp c a (some (.lst q)) c10 c11 c12 c13 c14) (ks.map (el rp c)::J)=some (.nx,LT rp c a (some (.lst q)) c10 c11 c12 (some (el rp c a)) c14,ks'.map (el rp c)::J):=by
  have hz:((x::rest).map (el rp c)).length≤SZ:=by simp only [List.length_map,SZ];omega
  have hix:idxL ((x::rest).map (el rp c)) 0=some (el rp c x):=(idxL_ge (i:=0) hz).trans rfl
  have hf:=funcF_el E (g:=g_heapreplace 1000) (fs:=[(getV 3),(bin idxV (getV 9) (cInt 0))]) (ρ:=LT rp c a (some (.lst q)) c10 c11 c12 c13 c14) (J:=J) (xs:=[el rp c x]) (by
    simp only [seqF,bin,getV,gs,gz,cInt,z_idl,z_obn,hq,hix]) (by simp only [nlc,nln,E.no x (hm x (.head _)),Bool.and_self]) (fun u hu=>hm u (.tail _ hu)) p1
  simp only [setS,lGone,ifE,hE,Bool.false_eq_true,if_false,hf]
  rfl
theorem bL_run {ρ0 ρ1 ρ2 ρ3 ρ4 ρ5 ρ6:Rho} {H0 H1 H2 H3 H4 H5 H6:Hp} (e1:setT (bin idxV (getV 3) (cInt 0)) [5,6,7,8] ρ0 H0=some (.nx,ρ1,H1)) (e2:setS 9 (newF []) ρ1 H1=some (.nx,ρ2,H2)) (e3:frS (itF (getV 1)) (tgT [10,11]) lIn ρ2 H2=some (.nx,ρ3,H3))
    (e4:setS 13 (lGone 1000) ρ3 H3=some (.nx,ρ4,H4)) (e5:lPush 1000 ρ4 H4=some (.nx,ρ5,H5)) (e6:lOut ρ5 H5=some (.nx,ρ6,H6)):bL 1000 ρ0 H0=some (.nx,ρ6,H6):=by
  rw [bL,seqS_nx e1,seqS_nx e2,seqS_nx e3,seqS_nx e4,seqS_nx e5,e6]
inductive IsLS (rp:Nat→List Pt) (c:Cb):Rho→Prop
  |mk (c5 c6 c7 c8 c9 c10 c11 c12 c13 c14:Option V):IsLS rp c (LS rp c c5 c6 c7 c8 c9 c10 c11 c12 c13 c14)
inductive IterR (rp:Nat→List Pt) (c:Cb) (ρ:Rho) (H:Hp) (cs t:List Nat) (O:List V):Prop
  |mk (ks':List Nat) (ρ':Rho) (J':Hp) (i:IsLS rp c ρ') (e:bL 1000 ρ H=some (.nx,ρ',ks'.map (el rp c)::O::J')) (p:ks'.Perm (cs++t)) (h:HeapL ks'):IterR rp c ρ H cs t O
theorem iter (F:CbF c) (hr:∀ no,POk (rp no)) (hl:∀ no,(rp no).length≤100) {a:Nat} {t:List Nat} {outs:List V} {J:Hp} {ρ:Rho} (hρ:IsLS rp c ρ)
    (hall:∀ y ∈ (kidL rp c c.c0 a++kidL rp c c.c1 a)++a::t,y < 2 * c.nms.length) (hnd:((kidL rp c c.c0 a++kidL rp c c.c1 a)++a::t).Nodup) (hh:HeapL (a::t)) (hlen:(a::t).length≤800) (houts:outs.length≤800) :
    IterR rp c ρ ((a::t).map (el rp c)::outs::J) (kidL rp c c.c0 a++kidL rp c c.c1 a) t (outs++[out rp c a]):=by
  cases hρ with
  |mk c5 c6 c7 c8 c9 c10 c11 c12 c13 c14=>
  have E:=els_of (rp:=rp) F
  have ha:a < 2 * c.nms.length:=hall a (List.mem_append_right _ (.head _))
  obtain ⟨d10,d11,d12,e3⟩:=it_steps (rp:=rp) F hr hl ha (H0:=((a::t).map (el rp c)::outs::J)) (c10:=c10) (c11:=c11) (c12:=c12) (c13:=c13) (c14:=c14)
  have hk0:=kidL_len (rp:=rp) (c:=c) (kids:=c.c0) (a:=a)
  have hk1:=kidL_len (rp:=rp) (c:=c) (kids:=c.c1) (a:=a)
  generalize hch:kidL rp c c.c0 a++kidL rp c c.c1 a=ch at *
  have hchl:ch.length≤2:=by rw [← hch,List.length_append];omega
  have hz:((a::t).map (el rp c)).length≤SZ:=by simp only [List.length_map,SZ];omega
  have hq:∀ X O:List V,((X::O::(J++[ch.map (el rp c)])):Hp)[((a::t).map (el rp c)::outs::J).length]?=some (ch.map (el rp c)):=fun X O=>by simp
  have hchm:∀ y ∈ ch,y < 2 * c.nms.length:=fun y hy=>hall y (List.mem_append_left _ hy)
  have hatm:∀ y ∈ a::t,y < 2 * c.nms.length:=fun y hy=>hall y (List.mem_append_right _ hy)
  have nd:=List.nodup_append.mp hnd
  have hE:=it_eq (a:=a) (c10:=d10) (c11:=d11) (c12:=d12) (c13:=c13) (c14:=c14) F (hq ((a::t).map (el rp c)) outs) hchm
  cases ch with
  |nil=>
    obtain ⟨ks',p1,p2,p3⟩:=heappop_ok E (a:=a) (t:=t) (by omega) hatm nd.2.1 hh
    exact ⟨ks',_,_,.mk ..,bL_run (it_top hz) rfl e3 (it_pop E hatm hE p1) (it_push0 (it_sl (hq _ _) hchl)) (it_out hl houts),(List.perm_cons a).mp p2,p3⟩
  |cons x rest=>
    have hx:=hchm x (.head _)
    have hxt:(x::t).Nodup:=List.nodup_cons.mpr ⟨fun h=>nd.2.2 x (.head _) x (.tail _ h) rfl,(List.nodup_cons.mp nd.2.1).2⟩
    obtain ⟨ks1,p1,p2,p3⟩:=heapreplace_ok E (a:=a) (x:=x) (t:=t) (by omega) (fun y hy=>by
      rcases List.mem_cons.mp hy with rfl | hy
      · exact ha
      · rcases List.mem_cons.mp hy with rfl | hy
        · exact hx
        · exact hatm _ (.tail _ hy)) hxt hh
    have hxa:∀ u ∈ x::a::t,u < 2 * c.nms.length:=fun u hu=>by
      rcases List.mem_cons.mp hu with rfl | hu
      · exact hx
      · exact hatm u hu
    cases rest with
    |nil=>exact ⟨ks1,_,_,.mk ..,bL_run (it_top hz) rfl e3 (it_rep E hxa (hq _ _) hchl hE p1) (it_push0 (it_sl (hq _ _) hchl)) (it_out hl houts),p2,p3⟩
    |cons y rest=>
      cases rest with
      |cons z rest=>exact absurd hchl (by simp)
      |nil=>
        have nd1:=List.nodup_cons.mp nd.1
        have hyn:(y::ks1).Nodup:=by
          refine List.nodup_cons.mpr ⟨fun h=>?_,p2.nodup_iff.mpr hxt⟩
          rcases List.mem_cons.mp (p2.mem_iff.mp h) with h | h
          · exact nd1.1 (h ▸ .head _)
          · exact nd.2.2 y (.tail _ (.head _)) y (.tail _ h) rfl
        have hl1:ks1.length=t.length+1:=p2.length_eq
        have hks1:∀ u ∈ y::ks1,u < 2 * c.nms.length:=fun u hu=>by
          rcases List.mem_cons.mp hu with rfl | hu
          · exact hchm _ (.tail _ (.head _))
          · rcases List.mem_cons.mp (p2.mem_iff.mp hu) with rfl | hu
            · exact hx
            · exact hatm _ (.tail _ hu)
        obtain ⟨ks2,q1,q2,q3⟩:=heappush_ok E (x:=y) (ks:=ks1) (by simp only [List.length_cons] at hlen;omega) hks1 hyn p3
        exact ⟨ks2,_,_,.mk ..,bL_run (it_top hz) rfl e3 (it_rep E hxa (hq _ _) hchl hE p1) (it_push1 E hks1 (it_sl (hq _ _) hchl) q1) (it_out hl houts),(q2.trans (List.Perm.cons y p2)).trans (List.Perm.swap x y t),q3⟩
end
noncomputable def parN (c:Cb) (j:Nat):Option Nat:=(c.par.getD (j / 2) none).map fun i=>2 * i+j % 2
section
variable {rp:Nat→List Pt} {c:Cb}
theorem kid_in {kids:List (Option Nat)} {mo:Int} {g:Nat} (hk:∀ i,i < c.nms.length→okKid c kids mo g i=true) {a j:Nat} (ha:a < 2 * c.nms.length) (hj:j ∈ kidL rp c kids a) :
    j < 2 * c.nms.length∧bg rp c j=true∧parN c j=some a∧(nm c (j / 2)).2=(nm c (a / 2)).2++[g]:=by
  unfold kidL kidOf at hj
  have h1:=hk (a / 2) (by omega)
  unfold okKid at h1
  cases hk2:kids.getD (a / 2) none with
  |none=>rw [hk2] at hj;simp at hj
  |some k=>
    rw [hk2] at hj h1
    simp only [Bool.and_eq_true,decide_eq_true_eq] at h1
    obtain ⟨⟨⟨_,h2⟩,h3⟩,h4⟩:=h1
    simp only [Option.map_some] at hj
    split at hj
    · rename_i hb
      have hj:j=2 * k+a % 2:=by simpa using hj
      subst hj
      have hd1:(2 * k+a % 2) / 2=k:=by omega
      have hd2:(2 * k+a % 2) % 2=a % 2:=by omega
      refine ⟨by omega,hb,?_,?_⟩
      · unfold parN;rw [hd1,hd2,h4]
        have:2 * (a / 2)+a % 2=a:=by omega
        simp [this]
      · rw [hd1,h2]
    · simp at hj
theorem kid_of {kids:List (Option Nat)} {a j i:Nat} (h:kids.getD i none=some (j / 2)) (hi:a=2 * i+j % 2) (hb:bg rp c j=true):j ∈ kidL rp c kids a:=by
  unfold kidL kidOf
  have h1:a / 2=i:=by omega
  have h2:a % 2=j % 2:=by omega
  have h3:2 * (j / 2)+j % 2=j:=by omega
  rw [h1,h,h2]
  simp [h3,hb]
theorem par_kid (F:CbF c) {a j:Nat} (hj:j < 2 * c.nms.length) (hp:parN c j=some a) (hb:bg rp c j=true):j ∈ kidL rp c c.c0 a++kidL rp c c.c1 a∧a < j:=by
  unfold parN at hp
  obtain ⟨i,h1,rfl⟩:=Option.map_eq_some_iff.mp hp
  obtain ⟨h2,h3⟩:=F.pr (j / 2) i (by omega) h1
  refine ⟨List.mem_append.mpr ?_,by omega⟩
  rcases h3 with h3 | h3
  · exact .inl (kid_of h3 rfl hb)
  · exact .inr (kid_of h3 rfl hb)
theorem par_bg (F:CbF c) {a j:Nat} (hj:j < 2 * c.nms.length) (hp:parN c j=some a) (hb:bg rp c j=true):bg rp c a=true:=by
  obtain ⟨h1,h2⟩:=par_kid F hj hp hb
  have key:∀ g,(nm c (j / 2)).2=(nm c (a / 2)).2++[g]→bg rp c a=true:=by
    intro g hg
    have hm:j % 2=a % 2:=by
      unfold parN at hp
      obtain ⟨i,_,rfl⟩:=Option.map_eq_some_iff.mp hp
      omega
    unfold bg at hb ⊢
    rw [hg,hm] at hb
    cases hq:PL (RW rp (a % 2)) (nm c (a / 2)).2 with
    |nil=>rw [PL_pre hq] at hb;cases hb
    |cons x l=>rfl
  rcases List.mem_append.mp h1 with h | h
  · exact key _ (kid_in F.k0 (by omega) h).2.2.2
  · exact key _ (kid_in F.k1 (by omega) h).2.2.2
theorem kids_nodup (F:CbF c) {a:Nat} (ha:a < 2 * c.nms.length):(kidL rp c c.c0 a++kidL rp c c.c1 a).Nodup:=by
  have one:∀ l:List Nat,l.length≤1→l.Nodup:=by
    intro l h
    match l,h with
    |[],_=>exact List.nodup_nil
    |[x],_=>simp
  refine List.nodup_append.mpr ⟨one _ kidL_len,one _ kidL_len,?_⟩
  rintro x hx y hy rfl
  have h1:=(kid_in F.k0 ha hx).2.2.2
  have h2:=(kid_in F.k1 ha hy).2.2.2
  rw [h1] at h2
  exact F.ab (concat_inj h2).2
noncomputable def Fr (rp:Nat→List Pt) (c:Cb) (t j:Nat):Prop:=j < 2 * c.nms.length∧bg rp c j=true∧t≤j∧∀ p,parN c j=some p→p < t
theorem fr_below (F:CbF c) {t:Nat}:∀ j,j < 2 * c.nms.length→bg rp c j=true→t≤j→∃ j',j'≤j∧Fr rp c t j':=by
  intro j
  induction j using Nat.strongRecOn with
  |_ j ih=>
    intro hj hb ht
    by_cases hp:∀ p,parN c j=some p→p < t
    · exact ⟨j,Nat.le_refl _,hj,hb,ht,hp⟩
    · obtain ⟨p,hp⟩:=Classical.not_forall.mp hp
      obtain ⟨h1,h2⟩:=Classical.not_imp.mp hp
      have h3:=(par_kid F hj h1 hb).2
      obtain ⟨j',h4,h5⟩:=ih p h3 (by omega) (par_bg F hj h1 hb) (by omega)
      exact ⟨j',by omega,h5⟩
theorem filt_skip {p:Nat→Bool} {t:Nat}:∀ {d:Nat},(∀ j,t≤j→j < t+d→p j=false)→(List.range (t+d)).filter p=(List.range t).filter p
  |0,_=>rfl
  |d+1,h=>by
    have h1:=filt_skip (p:=p) (t:=t) (d:=d) fun j h1 h2=>h j h1 (by omega)
    have h2:=h (t+d) (by omega) (by omega)
    rw [← Nat.add_assoc,List.range_succ,List.filter_append,h1]
    simp [h2]
theorem tL_val (F:CbF c) {ks:List Nat} (hk:∀ y ∈ ks,y < 2 * c.nms.length) {R:Hp} {c5 c6 c7 c8 c9 c10 c11 c12 c13 c14:Option V} :
    tL (LS rp c c5 c6 c7 c8 c9 c10 c11 c12 c13 c14) (ks.map (el rp c)::R)=some (!ks.isEmpty,ks.map (el rp c)::R):=by
  have:=eqB_nil (H:=ks.map (el rp c)::R) (x:=.lst 0) rfl (gd_els F hk)
  have e:(ks.map (el rp c)).isEmpty=ks.isEmpty:=by cases ks<;>rfl
  rw [e] at this
  simp only [tL,tB,bin,getV,LS,gs,gz,lstF,seqF,neV,this,Option.map_some,z_trb]
structure Front (rp:Nat→List Pt) (c:Cb) (t:Nat) (ks:List Nat):Prop where
  nd:ks.Nodup
  fr:∀ j,j ∈ ks↔Fr rp c t j
  hp:HeapL ks
  few:ks.length≤2+t
theorem Front.min {t a:Nat} {t0:List Nat} (f:Front rp c t (a::t0)):∀ y ∈ a::t0,a≤y:=fun y hy=>by
  obtain ⟨i,hi,rfl⟩:=List.getElem_of_mem hy
  have:=f.hp.min i hi
  rw [List.getD_eq_getElem?_getD,List.getD_eq_getElem?_getD,List.getElem?_eq_getElem hi] at this
  exact this
theorem Front.low (F:CbF c) {t a:Nat} {t0:List Nat} (f:Front rp c t (a::t0)) {j:Nat} (h1:j < 2 * c.nms.length) (h2:bg rp c j=true) (h3:t≤j):a≤j:=by
  obtain ⟨j',h4,h5⟩:=fr_below F (t:=t) j h1 h2 h3
  exact Nat.le_trans (f.min j' ((f.fr j').mpr h5)) h4
theorem Front.done (F:CbF c) {t:Nat} (f:Front rp c t []) (ht:t≤2 * c.nms.length):(List.range (2 * c.nms.length)).filter (bg rp c)=(List.range t).filter (bg rp c):=by
  obtain ⟨d,hd⟩:=Nat.exists_eq_add_of_le ht
  rw [hd]
  refine filt_skip fun j h1 h2=>Bool.eq_false_iff.mpr fun hb=>?_
  obtain ⟨j',_,h3⟩:=fr_below F (t:=t) j (hd▸h2) hb h1
  cases (f.fr j').mpr h3
theorem Front.kin (F:CbF c) {a:Nat} (hf1:a < 2 * c.nms.length):∀ y ∈ kidL rp c c.c0 a++kidL rp c c.c1 a,y < 2 * c.nms.length∧bg rp c y=true∧parN c y=some a:=fun y hy=>by
  rcases List.mem_append.mp hy with h | h
  · have:=kid_in F.k0 hf1 h;exact ⟨this.1,this.2.1,this.2.2.1⟩
  · have:=kid_in F.k1 hf1 h;exact ⟨this.1,this.2.1,this.2.2.1⟩
theorem Front.nd2 (F:CbF c) {t a:Nat} {t0:List Nat} (f:Front rp c t (a::t0)):((kidL rp c c.c0 a++kidL rp c c.c1 a)++a::t0).Nodup:=by
  have hfa:=(f.fr a).mp (.head _)
  refine List.nodup_append.mpr ⟨kids_nodup F hfa.1,f.nd,?_⟩
  rintro x hx y hy rfl
  exact absurd (((f.fr x).mp hy).2.2.2 a (Front.kin F hfa.1 x hx).2.2) (Nat.not_lt.mpr hfa.2.2.1)
theorem Front.outs (F:CbF c) {t a:Nat} {t0:List Nat} (f:Front rp c t (a::t0)):(List.range (a+1)).filter (bg rp c)=(List.range t).filter (bg rp c)++[a]:=by
  have hfa:=(f.fr a).mp (.head _)
  have hs:(List.range a).filter (bg rp c)=(List.range t).filter (bg rp c):=by
    obtain ⟨d,hd⟩:=Nat.exists_eq_add_of_le hfa.2.2.1
    rw [hd]
    refine filt_skip fun j h1 h2=>Bool.eq_false_iff.mpr fun hb=>?_
    exact absurd (f.low F (Nat.lt_trans (hd▸h2) hfa.1) hb h1) (Nat.not_le.mpr (hd▸h2))
  rw [List.range_succ,List.filter_append,hs]
  simp [hfa.2.1]
theorem Front.next (F:CbF c) {t a:Nat} {t0 ks':List Nat} (f:Front rp c t (a::t0)) (h2:ks'.Perm (kidL rp c c.c0 a++kidL rp c c.c1 a++t0)) (h3:HeapL ks'):Front rp c (a+1) ks':=by
  have hfa:=(f.fr a).mp (.head _)
  have hkin:=Front.kin (rp:=rp) F hfa.1
  refine ⟨h2.nodup_iff.mpr ?_,fun j=>?_,h3,?_⟩
  · have h:=List.nodup_append.mp (f.nd2 F)
    exact List.nodup_append.mpr ⟨h.1,(List.nodup_cons.mp h.2.1).2,fun x hx y hy=>h.2.2 x hx y (.tail _ hy)⟩
  · rw [h2.mem_iff,List.mem_append]
    constructor
    · rintro (h | h)
      · obtain ⟨q1,q2,q3⟩:=hkin j h
        exact ⟨q1,q2,(par_kid F q1 q3 q2).2,fun p hp=>by rw [q3] at hp;cases hp;exact Nat.lt_succ_self _⟩
      · obtain ⟨q1,q2,q3,q4⟩:=(f.fr j).mp (.tail _ h)
        have q6:a ≠ j:=fun e=>(List.nodup_cons.mp f.nd).1 (e▸h)
        exact ⟨q1,q2,Nat.lt_of_le_of_ne (f.min j (.tail _ h)) q6,fun p hp=>Nat.lt_succ_of_le (Nat.le_of_lt (Nat.lt_of_lt_of_le (q4 p hp) hfa.2.2.1))⟩
    · rintro ⟨q1,q2,q3,q4⟩
      by_cases hp:∀ p,parN c j=some p→p < t
      · rcases List.mem_cons.mp ((f.fr j).mpr ⟨q1,q2,Nat.le_trans hfa.2.2.1 (Nat.le_of_lt q3),hp⟩) with h | h
        · exact absurd h.symm (Nat.ne_of_lt q3)
        · exact .inr h
      · obtain ⟨p,hp⟩:=Classical.not_forall.mp hp
        obtain ⟨p1,p2⟩:=Classical.not_imp.mp hp
        have p4:=f.low F (Nat.lt_trans (par_kid F q1 p1 q2).2 q1) (par_bg F q1 p1 q2) (Nat.not_lt.mp p2)
        have:p=a:=Nat.le_antisymm (Nat.lt_succ_iff.mp (q4 p p1)) p4
        subst this
        exact .inl (par_kid F q1 p1 q2).1
  · have hk0:=kidL_len (rp:=rp) (c:=c) (kids:=c.c0) (a:=a)
    have hk1:=kidL_len (rp:=rp) (c:=c) (kids:=c.c1) (a:=a)
    have h4:=f.few
    have h5:=hfa.2.2.1
    rw [h2.length_eq,List.length_append,List.length_append]
    rw [List.length_cons] at h4
    omega
inductive ListR (rp:Nat→List Pt) (c:Cb) (k:Nat) (ρ:Rho) (H:Hp):Prop
  |mk (ρ':Rho) (J':Hp) (i:IsLS rp c ρ') (e:whileS tL (bL 1000) k ρ H=some (.nx,ρ',[]::((List.range (2 * c.nms.length)).filter (bg rp c)).map (out rp c)::J')):ListR rp c k ρ H
theorem list_loop (F:CbF c) (hr:∀ no,POk (rp no)) (hl:∀ no,(rp no).length≤100) (k:Nat):∀ (t:Nat) (ks:List Nat) (J:Hp) (ρ:Rho),IsLS rp c ρ→Front rp c t ks→t≤2 * c.nms.length→2 * c.nms.length < t+k→
    ListR rp c k ρ (ks.map (el rp c)::((List.range t).filter (bg rp c)).map (out rp c)::J):=by
  induction k with
  |zero=>intro t ks J ρ hρ f h1 h2;exact absurd h2 (Nat.not_lt.mpr h1)
  |succ k ih=>
    intro t ks J ρ hρ f ht hk
    have hall:∀ y ∈ ks,y < 2 * c.nms.length:=fun y hy=>((f.fr y).mp hy).1
    have e:tL ρ (ks.map (el rp c)::((List.range t).filter (bg rp c)).map (out rp c)::J)=some (!ks.isEmpty,ks.map (el rp c)::((List.range t).filter (bg rp c)).map (out rp c)::J):=by
      cases hρ;exact tL_val (rp:=rp) F hall
    cases ks with
    |nil=>
      refine ⟨ρ,J,hρ,?_⟩
      rw [f.done F ht]
      simp only [whileS,e]
      rfl
    |cons a t0=>
      have hfa:=(f.fr a).mp (.head _)
      have hkin:=Front.kin (rp:=rp) F hfa.1
      have hle:=F.le
      have hfew:=f.few
      have houts:(((List.range t).filter (bg rp c)).map (out rp c)).length≤t:=by
        rw [List.length_map]
        exact Nat.le_trans (List.length_filter_le _ _) (by simp)
      obtain ⟨ks',ρ1,J1,i1,h1,h2,h3⟩:=iter (rp:=rp) F hr hl (a:=a) (t:=t0) (J:=J) (outs:=((List.range t).filter (bg rp c)).map (out rp c)) hρ
        (fun y hy=>by
          rcases List.mem_append.mp hy with h | h
          · exact (hkin y h).1
          · exact hall y h) (f.nd2 F) f.hp (by omega) (by omega)
      have fo:=f.outs F
      have ho:((List.range t).filter (bg rp c)).map (out rp c)++[out rp c a]=((List.range (a+1)).filter (bg rp c)).map (out rp c):=by rw [fo,List.map_append];rfl
      rw [ho] at h1
      obtain ⟨ρ2,J2,i2,ih⟩:=ih (a+1) ks' J1 ρ1 i1 (f.next F h2 h3) hfa.1 (by have:=hfa.2.2.1;omega)
      refine ⟨ρ2,J2,i2,?_⟩
      simp only [List.isEmpty_cons,Bool.not_false] at e
      simp only [whileS,e,h1,ih]
theorem heapify_two {el:Nat→V} {m:Nat} (E:Els el m) (hm:2≤m):∃ ks':List Nat,g_heapify 1000 [.lst 0] [[1,0].map el]=some (.none,[ks'.map el])∧ks'.Perm [1,0]∧HeapL ks':=by
  have hmm:∀ y ∈ [1,0],y < m:=fun y hy=>by simp at hy;omega
  obtain ⟨kf,s1,s2,s3⟩:=siftup_heap E (ks:=[1,0]) (by simp) (by simp) hmm (by simp) (fun i h1 h2 h3 h4=>by simp at h2;omega)
  refine ⟨kf,?_,s2,s3⟩
  have e1:setS 1 (calF lenG [(getV 0)]) [some (.lst 0),none,none] [[1,0].map el]=some (.nx,[some (.lst 0),some (.int 2),none],[[1,0].map el]):=rfl
  have e2:revF (bin divV (getV 1) (cInt 2)) [some (.lst 0),some (.int 2),none] [[1,0].map el]=some ([.int 0],[[1,0].map el]):=by kernel_rfl
  have e3:=funcF_el E (g:=g_siftup 1000) (fs:=[(getV 0),(getV 2)]) (ρ:=[some (.lst 0),some (.int 2),some (.int 0)]) (J:=[]) (xs:=[.int 0]) rfl rfl hmm s1
  have e4:frS (revF (bin divV (getV 1) (cInt 2))) (tgN 2) (expS (funcF (g_siftup 1000) [(getV 0),(getV 2)])) [some (.lst 0),some (.int 2),none] [[1,0].map el]=some (.nx,[some (.lst 0),some (.int 2),some (.int 0)],[kf.map el]):=by
    have t0:tgN 2 (.int 0) [some (.lst 0),some (.int 2),none]=some [some (.lst 0),some (.int 2),some (.int 0)]:=rfl
    simp only [frS,e2,forGo,t0,expS,e3]
  have e:f_heapify 1000 [some (.lst 0),none,none] [[1,0].map el]=some (.nx,[some (.lst 0),some (.int 2),some (.int 0)],[kf.map el]):=by
    rw [f_heapify,seqS_nx e1,e4]
  have hno:noLsts (kf.map el)=true:=els_no E fun y hy=>hmm y (s2.mem_iff.mp hy)
  have hg:g_heapify 1000 [.lst 0] [[1,0].map el]=runF 2 (f_heapify 1000) [.lst 0] [[1,0].map el]:=if_pos rfl
  exact hg.trans (run1n (f:=f_heapify 1000) (k:=2) (xs:=[.lst 0]) e hno)
theorem listing_ok (F:CbF c) (hr:∀ no,POk (rp no)) (hl:∀ no,(rp no).length≤100):g_law_listing 1000 [rowsV rp,steps c,.int c.lim] []=some (.frz (((List.range (2 * c.nms.length)).filter (bg rp c)).map (out rp c)),[]):=by
  have E:=els_of (rp:=rp) F
  have hge:=F.ge
  have hro:noLsts ((rp 0).map itV)=true:=its_no (hr 0)
  have hr1:noLsts ((rp 1).map itV)=true:=its_no (hr 1)
  have hel:∀ no,no < 2→el rp c no=.tup [.int 0,.str [],.int (no:Nat),.frz (I (openP (RW rp no) [0]))]:=by
    intro no h
    have h1:no / 2=0:=by omega
    have h2:no % 2=no:=by omega
    unfold el;rw [h1,h2,F.z];rfl
  have hleaf:∀ no,no < 2→(tupF [(cInt 0),(cStr []),(getV 0),(funF g_law_open [(bin idxV (getV 1) (getV 0)),(lstF [(cInt 0)])])]) (some (.int (no:Nat))::[some (rowsV rp)]) []=some (el rp c no,[]):=by
    intro no h
    have ho:=open_ok (x:=.frz (I [0])) (H0:=[]) (rc:=[0]) (hr no) (hl no) (fun J=>rfl) rfl
    have hrow:=rows_at (rp:=rp) (no:=no) h (H:=[])
    have hf:=funF_ok (g:=g_law_open) (fs:=[(bin idxV (getV 1) (getV 0)),(lstF [(cInt 0)])]) (ρ:=some (.int (no:Nat))::[some (rowsV rp)]) (H:=[]) (xs:=[.frz ((rp no).map itV),.frz (I [0])]) (by
      simp only [seqF,bin,getV,gs,gz,hrow,lstF,cInt]
      rfl) (by simp only [nlc,nln,nlf,its_no (hr no),I_no,Bool.and_self]) ho
    rw [hel no h]
    simp only [tupF,seqF,cInt,cStr,getV,gz,hf]
  have e1:setS 3 lHeap [some (rowsV rp),some (steps c),some (.int c.lim),none,none,none,none,none,none,none,none,none,none,none,none] [] =
      some (.nx,[some (rowsV rp),some (steps c),some (.int c.lim),some (.lst 0),none,none,none,none,none,none,none,none,none,none,none],[[1,0].map (el rp c)]):=by
    have h0:noL (rngF [(bin subV (calF lenG [(getV 0)]) (cInt 1)),(negF (cInt 1)),(negF (cInt 1))]) [some (rowsV rp),some (steps c),some (.int c.lim),none,none,none,none,none,none,none,none,none,none,none,none] []=some ([.int 1,.int 0],[]):=by kernel_rfl
    have hf:List.replicate 1 none++[0].map (freeV [some (rowsV rp),some (steps c),some (.int c.lim),none,none,none,none,none,none,none,none,none,none,none,none])=none::[some (rowsV rp)]:=by
      exact congrArg (fun x=>[none,x]) (free_ok rfl (show noLsts [.frz _,.frz _]=true from noLsts_mk hro (noLsts_mk hr1 rfl)))
    have g1:=hleaf 1 (by omega)
    have g0:=hleaf 0 (by omega)
    have hcg:compGo (leafC (tupF [(cInt 0),(cStr []),(getV 0),(funF g_law_open [(bin idxV (getV 1) (getV 0)),(lstF [(cInt 0)])])])) (tgN 0) [] [.int 1,.int 0] (none::[some (rowsV rp)])=some ([el rp c 1,el rp c 0],some (.int 0)::[some (rowsV rp)]):=by
      exact cg_on rfl rfl (leaf_ok g1) (cg_on rfl rfl (leaf_ok g0) rfl)
    have hz:[el rp c 1,el rp c 0].length≤SZ:=by simp [SZ]
    simp only [setS,lHeap,newC,compF,h0,hf,hcg,hz,if_true]
    rfl
  obtain ⟨ks,p1,p2,p3⟩:=heapify_two E (by omega)
  have e2:expS (funcF (g_heapify 1000) [(getV 3)]) [some (rowsV rp),some (steps c),some (.int c.lim),some (.lst 0),none,none,none,none,none,none,none,none,none,none,none] [[1,0].map (el rp c)] =
      some (.nx,[some (rowsV rp),some (steps c),some (.int c.lim),some (.lst 0),none,none,none,none,none,none,none,none,none,none,none],[ks.map (el rp c)]):=by
    have:=funcF_el E (g:=g_heapify 1000) (fs:=[(getV 3)]) (ρ:=[some (rowsV rp),some (steps c),some (.int c.lim),some (.lst 0),none,none,none,none,none,none,none,none,none,none,none]) (J:=[]) (xs:=[]) rfl rfl (fun y hy=>by simp at hy;omega) p1
    simp only [expS,this]
  have e3:setS 4 (newF []) [some (rowsV rp),some (steps c),some (.int c.lim),some (.lst 0),none,none,none,none,none,none,none,none,none,none,none] [ks.map (el rp c)] =
      some (.nx,LS rp c none none none none none none none none none none,ks.map (el rp c)::[]::[]):=rfl
  have hroot:∀ j,j < 2→bg rp c j=true∧∀ p,parN c j=some p→p < 0:=by
    intro j h
    have h1:j / 2=0:=by omega
    refine ⟨?_,?_⟩
    · unfold bg;rw [h1,F.z]
      have hm:0 ∈ PL (RW rp (j % 2)) []:=(At_nil 0).mpr ⟨Nat.zero_le _,.inl (D_zero.mpr rfl)⟩
      cases hq:PL (RW rp (j % 2)) [] with
      |nil=>rw [hq] at hm;cases hm
      |cons x l=>rfl
    · intro p hp
      unfold parN at hp
      rw [h1] at hp
      obtain ⟨i,h2,_⟩:=Option.map_eq_some_iff.mp hp
      have:=(F.pr 0 i (by omega) h2).1
      omega
  have hfr:∀ j,j ∈ ks↔Fr rp c 0 j:=by
    intro j
    rw [p2.mem_iff]
    constructor
    · intro h
      have:j < 2:=by simp at h;omega
      exact ⟨by omega,(hroot j this).1,Nat.zero_le _,(hroot j this).2⟩
    · rintro ⟨h1,_,_,h4⟩
      have:parN c j=none:=by
        cases hp:parN c j with
        |none=>rfl
        |some p=>have:=h4 p hp;omega
      unfold parN at this
      have h5:=F.rt (j / 2) (by omega) (by simpa using this)
      simp;omega
  obtain ⟨ρ',J',i,e4⟩ : ListR rp c 1000 (LS rp c none none none none none none none none none none) [ks.map (el rp c),[]]:=list_loop (rp:=rp) F hr hl 1000 0 ks [] _ (.mk none none none none none none none none none none) ⟨p2.nodup_iff.mpr (by simp),hfr,p3,by rw [p2.length_eq];simp⟩ (Nat.zero_le _) (by have:=F.le;omega)
  generalize hO:((List.range (2 * c.nms.length)).filter (bg rp c)).map (out rp c)=O at *
  have e:f_law_listing 1000 [some (rowsV rp),some (steps c),some (.int c.lim),none,none,none,none,none,none,none,none,none,none,none,none] []=some (.rt (.lst 1),ρ',[]::O::J'):=by
    rw [f_listing_eq,seqS_nx e1,seqS_nx e2,seqS_nx e3,seqS_nx e4]
    cases i
    rfl
  have hOn:noLsts O=true:=by
    rw [← hO]
    exact noLsts_map (fun Z=>rfl) _
  show runF 12 (f_law_listing 1000) _ _=_
  exact runL e rfl hOn
end
theorem seqS_assoc (f g h:FS):seqS (seqS f g) h=seqS f (seqS g h):=by
  funext ρ H
  unfold seqS
  cases hf:f ρ H with
  |none=>rfl
  |some r=>
    obtain ⟨fl,ρ1,H1⟩:=r
    cases fl<;>rfl
theorem srtF_eq {f g:FE} {ρ ρ':Rho} {H:Hp} (h:f ρ H=g ρ' H):srtF f ρ H=srtF g ρ' H:=by
  simp only [srtF,h]
noncomputable abbrev rowsD (Rs:Nat→List Pc):V:=.frz [.frz ((Rs 0).map Pc.told),.frz ((Rs 1).map Pc.told)]
noncomputable abbrev DS (Rs:Nat→List Pc) (c:Cb) (c6 c7 c8:Option V):Rho:=[some (rowsD Rs),some (steps c),some (.int c.lim),some (namesRaw c),some (.frz []),some (.lst 0),c6,c7,c8]
noncomputable def bD:FS:=(ifS (tB (funF g_law_begun [(bin idxV (getV 0) (getV 8)),(getV 7)])) (expS (apdF (getV 5) (tupF [(getV 7),(getV 8),(funF (g_law_takes 20) [(bin idxV (getV 0) (getV 8)),(getV 7)])]))) nopS)
theorem f_due_eq (K:Nat):f_law_due K=seqS (dueW K) (seqS (setS 5 (newF [])) (seqS (frS (srtF (getV 3)) (tgT [6,7]) (frS (rngF [(calF lenG [(getV 0)])]) (tgN 8) bD)) (retS (getV 5)))):=by
  rw [dueW,seqS_assoc,seqS_assoc];rfl
noncomputable def bgD (Rs:Nat→List Pc) (c:Cb) (j:Nat):Bool:=begB ((Rs (j % 2)).map A) (nm c (j / 2)).2
noncomputable def outD (Rs:Nat→List Pc) (c:Cb) (j:Nat):V:=.tup [.str (nm c (j / 2)).2,.int (j % 2:Nat),.bool (tk ((Rs (j % 2)).map A) (nm c (j / 2)).2)]
section
variable {Rs:Nat→List Pc} {c:Cb}
theorem rowsD_at {no:Nat} (h:no < 2) {H:Hp}:idxV H (rowsD Rs) (.int (no:Nat))=some (.frz ((Rs no).map Pc.told)):=by
  match no,h with
  |0,_=>rfl
  |1,_=>rfl
theorem due_step (F:CbF c) (hR:∀ no,∀ x ∈ Rs no,x ∈ pcs) (hl:∀ no,(Rs no).length≤4) {i no:Nat} (hi:i < c.nms.length) (hno:no < 2) {X:List V} (hX:X.length≤500) {c6:Option V} :
    bD (DS Rs c c6 (some (.str (nm c i).2)) (some (.int (no:Nat)))) [X]=some (.nx,DS Rs c c6 (some (.str (nm c i).2)) (some (.int (no:Nat))),[X++(if bgD Rs c (2 * i+no) then [outD Rs c (2 * i+no)] else [])]):=by
  have h1:(2 * i+no) / 2=i:=by omega
  have h2:(2 * i+no) % 2=no:=by omega
  obtain ⟨hs1,hs2⟩:=F.sg i hi
  have hrow:=rowsD_at (Rs:=Rs) hno (H:=[X])
  have hsq:seqF [(bin idxV (getV 0) (getV 8)),(getV 7)] (DS Rs c c6 (some (.str (nm c i).2)) (some (.int (no:Nat)))) [X]=some ([.frz ((Rs no).map Pc.told),.str (nm c i).2],[X]):=by
    simp only [seqF,bin,getV,DS,gs,gz,hrow]
  have hnl:noLsts [.frz ((Rs no).map Pc.told),.str (nm c i).2]=true:=by simp only [nlc,nln,nlf,nls,tolds_no (hR no),Bool.and_self]
  have hln:=hl no
  have f1:=funF_ok (g:=g_law_begun) hsq hnl (begun_ok (hR no) hs1 (by omega) (by omega))
  have f2:=funF_ok (g:=g_law_takes 20) hsq hnl (takes_ok 20 (Rs no) (nm c i).2 (hR no) hs1 (by omega) (by omega) (by omega))
  have hb:bgD Rs c (2 * i+no)=begB ((Rs no).map A) (nm c i).2:=by unfold bgD;rw [h1,h2]
  have ho:outD Rs c (2 * i+no)=.tup [.str (nm c i).2,.int (no:Nat),.bool (tk ((Rs no).map A) (nm c i).2)]:=by unfold outD;rw [h1,h2]
  rw [hb,ho]
  have hz:X.length < SZ:=by simp only [SZ];omega
  have t1:tB (funF g_law_begun [(bin idxV (getV 0) (getV 8)),(getV 7)]) (DS Rs c c6 (some (.str (nm c i).2)) (some (.int (no:Nat)))) [X]=some (begB ((Rs no).map A) (nm c i).2,[X]):=by
    simp only [tB,f1,z_trb]
  cases hbb:begB ((Rs no).map A) (nm c i).2 with
  |false=>
    rw [hbb] at t1
    simp only [bD,ifS,t1,nopS,Bool.false_eq_true,if_false,List.append_nil]
  |true=>
    rw [hbb] at t1
    have e:tupF [(getV 7),(getV 8),(funF (g_law_takes 20) [(bin idxV (getV 0) (getV 8)),(getV 7)])] (DS Rs c c6 (some (.str (nm c i).2)) (some (.int (no:Nat)))) [X]=some (.tup [.str (nm c i).2,.int (no:Nat),.bool (tk ((Rs no).map A) (nm c i).2)],[X]):=by
      have e7:getV 7 (DS Rs c c6 (some (.str (nm c i).2)) (some (.int (no:Nat)))) [X]=some (.str (nm c i).2,[X]):=rfl
      have e8:getV 8 (DS Rs c c6 (some (.str (nm c i).2)) (some (.int (no:Nat)))) [X]=some (.int (no:Nat),[X]):=rfl
      simp only [tupF,seqF,e7,e8,f2]
    have e':expS (apdF (getV 5) (tupF [(getV 7),(getV 8),(funF (g_law_takes 20) [(bin idxV (getV 0) (getV 8)),(getV 7)])])) (DS Rs c c6 (some (.str (nm c i).2)) (some (.int (no:Nat)))) [X]=some (.nx,DS Rs c c6 (some (.str (nm c i).2)) (some (.int (no:Nat))),[X++[.tup [.str (nm c i).2,.int (no:Nat),.bool (tk ((Rs no).map A) (nm c i).2)]]]):=by
      have e5:getV 5 (DS Rs c c6 (some (.str (nm c i).2)) (some (.int (no:Nat)))) [X]=some (.lst 0,[X]):=rfl
      simp only [expS,apdF,e5,e,gz,hz,if_true,List.set_cons_zero]
    simp only [bD,ifS,t1,e',if_true]
theorem due_inner (F:CbF c) (hR:∀ no,∀ x ∈ Rs no,x ∈ pcs) (hl:∀ no,(Rs no).length≤4) {i:Nat} (hi:i < c.nms.length) {c6 c8:Option V} :
    ∃ c8',frS (rngF [(calF lenG [(getV 0)])]) (tgN 8) bD (DS Rs c c6 (some (.str (nm c i).2)) c8) [((List.range (2 * i)).filter (bgD Rs c)).map (outD Rs c)]=some (.nx,DS Rs c c6 (some (.str (nm c i).2)) c8',[((List.range (2 * (i+1))).filter (bgD Rs c)).map (outD Rs c)]):=by
  have hle:=F.le
  have hX:(((List.range (2 * i)).filter (bgD Rs c)).map (outD Rs c)).length≤100:=by
    rw [List.length_map]
    exact Nat.le_trans (List.length_filter_le _ _) (by simp;omega)
  have hst:∀ X:List V,X.length≤500→rngF [(calF lenG [(getV 0)])] (DS Rs c c6 (some (.str (nm c i).2)) c8) [X]=some ([.int 0,.int 1],[X]):=fun X Z=>by kernel_rfl
  have s0:=due_step F hR hl hi (no:=0) (by omega) (X:=((List.range (2 * i)).filter (bgD Rs c)).map (outD Rs c)) (by omega) (c6:=c6)
  have s1:=due_step F hR hl hi (no:=1) (by omega) (X:=((List.range (2 * i)).filter (bgD Rs c)).map (outD Rs c)++(if bgD Rs c (2 * i+0) then [outD Rs c (2 * i+0)] else [])) (by
    rw [List.length_append]
    split<;>simp only [List.length_cons,List.length_nil]<;>omega) (c6:=c6)
  refine ⟨some (.int ((1:Nat):Int)),?_⟩
  have t0:tgN 8 (.int 0) (DS Rs c c6 (some (.str (nm c i).2)) c8)=some (DS Rs c c6 (some (.str (nm c i).2)) (some (.int ((0:Nat):Int)))):=rfl
  have t1:tgN 8 (.int 1) (DS Rs c c6 (some (.str (nm c i).2)) (some (.int ((0:Nat):Int))))=some (DS Rs c c6 (some (.str (nm c i).2)) (some (.int ((1:Nat):Int)))):=rfl
  have hend:((List.range (2 * (i+1))).filter (bgD Rs c)).map (outD Rs c)=((List.range (2 * i)).filter (bgD Rs c)).map (outD Rs c)++(if bgD Rs c (2 * i+0) then [outD Rs c (2 * i+0)] else [])++(if bgD Rs c (2 * i+1) then [outD Rs c (2 * i+1)] else []):=by
    have:2 * (i+1)=2 * i+1+1:=by omega
    rw [this,List.range_succ,List.range_succ,List.filter_append,List.filter_append,List.map_append,List.map_append]
    congr 1
    · congr 1
      cases h:bgD Rs c (2 * i)<;>simp [h]
    · cases h:bgD Rs c (2 * i+1)<;>simp [h]
  rw [hend]
  simp only [frS,hst _ (by omega:(((List.range (2 * i)).filter (bgD Rs c)).map (outD Rs c)).length≤500),forGo,t0,s0,t1,s1]
theorem due_loop (F:CbF c) (hR:∀ no,∀ x ∈ Rs no,x ∈ pcs) (hl:∀ no,(Rs no).length≤4):∀ (d i:Nat) (c6 c7 c8:Option V),i+d=c.nms.length→
    ∃ c6' c7' c8',forGo (tgT [6,7]) (frS (rngF [(calF lenG [(getV 0)])]) (tgN 8) bD) ((c.nms.drop i).map nmV) (DS Rs c c6 c7 c8) [((List.range (2 * i)).filter (bgD Rs c)).map (outD Rs c)] =
      some (.nx,DS Rs c c6' c7' c8',[((List.range (2 * c.nms.length)).filter (bgD Rs c)).map (outD Rs c)])
  |0,i,c6,c7,c8,h=>by
    have:i=c.nms.length:=by omega
    subst this
    refine ⟨c6,c7,c8,?_⟩
    rw [List.drop_length]
    rfl
  |d+1,i,c6,c7,c8,h=>by
    have hi:i < c.nms.length:=by omega
    have hd:c.nms.drop i=nm c i::c.nms.drop (i+1):=by
      rw [List.drop_eq_getElem_cons hi]
      congr 1
      simp [nm,List.getD_eq_getElem?_getD,hi]
    obtain ⟨c8',h1⟩:=due_inner F hR hl hi (c6:=some (.int (nm c i).1)) (c8:=c8)
    obtain ⟨d6,d7,d8,ih⟩:=due_loop F hR hl d (i+1) (some (.int (nm c i).1)) (some (.str (nm c i).2)) c8' (by omega)
    refine ⟨d6,d7,d8,?_⟩
    have t0:tgT [6,7] (nmV (nm c i)) (DS Rs c c6 c7 c8)=some (DS Rs c (some (.int (nm c i).1)) (some (.str (nm c i).2)) c8):=rfl
    rw [hd,List.map_cons]
    simp only [forGo,t0,h1,ih]
theorem due_ok (hc:CbOk c) (hR:∀ no,∀ x ∈ Rs no,x ∈ pcs) (hl:∀ no,(Rs no).length≤4) :
    g_law_due 1000 [rowsD Rs,steps c,.int c.lim] []=some (.frz (((List.range (2 * c.nms.length)).filter (bgD Rs c)).map (outD Rs c)),[]):=by
  obtain ⟨hok,hnm,hsr⟩:=hc
  have F:=cbF hok
  have e1:=hnm (rowsD Rs)
  have e2:setS 5 (newF []) [some (rowsD Rs),some (steps c),some (.int c.lim),some (namesRaw c),some (.frz []),none,none,none,none] []=some (.nx,DS Rs c none none none,[[]]):=rfl
  obtain ⟨d6,d7,d8,e3⟩:=due_loop F hR hl c.nms.length 0 none none none (by omega)
  have e4:srtF (getV 3) (DS Rs c none none none) [[]]=some (c.nms.map nmV,[[]]):=by
    have h1:getV 3 (DS Rs c none none none) [[]]=getV 0 [some (namesRaw c)] [[]]:=rfl
    exact (srtF_eq h1).trans (hsr [[]])
  have e5:frS (srtF (getV 3)) (tgT [6,7]) (frS (rngF [(calF lenG [(getV 0)])]) (tgN 8) bD) (DS Rs c none none none) [[]]=some (.nx,DS Rs c d6 d7 d8,[((List.range (2 * c.nms.length)).filter (bgD Rs c)).map (outD Rs c)]):=by
    have e3':forGo (tgT [6,7]) (frS (rngF [(calF lenG [(getV 0)])]) (tgN 8) bD) (c.nms.map nmV) (DS Rs c none none none) [[]]=some (.nx,DS Rs c d6 d7 d8,[((List.range (2 * c.nms.length)).filter (bgD Rs c)).map (outD Rs c)]):=e3
    unfold frS at e3' ⊢
    rw [e4]
    exact e3'
  generalize hO:((List.range (2 * c.nms.length)).filter (bgD Rs c)).map (outD Rs c)=O at *
  have e:f_law_due 1000 [some (rowsD Rs),some (steps c),some (.int c.lim),none,none,none,none,none,none] []=some (.rt (.lst 0),DS Rs c d6 d7 d8,[O]):=by
    rw [f_due_eq,seqS_nx e1,seqS_nx e2,seqS_nx e5]
    rfl
  have hOn:noLsts O=true:=by
    rw [← hO]
    exact noLsts_map (fun Z=>rfl) _
  show runF 6 (f_law_due 1000) _ _=_
  exact runL e rfl hOn
end
theorem mem_foldP:∀ (l r:List Pt) (t:List Nat),some t ∈ l.foldl addP r→some t ∈ r∨some t ∈ l
  |[],r,t,h=>.inl h
  |x::l,r,t,h=>by
    rcases mem_foldP l (addP r x) t h with h | h
    · cases x with
      |none=>
        have h:some t ∈ (if r.getLast? = some none then r else r++[none]):=h
        split at h
        · exact .inl h
        · rcases List.mem_append.mp h with h | h
          · exact .inl h
          · simp at h
      |some u=>
        have h:some t ∈ r++[some u]:=h
        rcases List.mem_append.mp h with h | h
        · exact .inl h
        · simp at h;subst h;exact .inr (by simp)
    · exact .inr (by simp [h])
theorem part_chr:∀ c ∈ pcs,∀ t,c.part=some t→∀ x ∈ t,x < 1114112:=pcs_all (fun t h=>by cases h) (fun t h=>by cases h;decide) (fun t h=>by cases h;decide) (fun t h=>by cases h;decide) (fun t h=>by cases h;decide) (fun t h=>by cases h;decide) (fun t h=>by cases h;decide) (fun t h=>by cases h;decide) (fun t h=>by cases h;decide) (fun t h=>by cases h;decide) (fun t h=>by cases h;decide) (fun t h=>by cases h;decide) (fun t h=>by cases h;decide) (fun t h=>by cases h;decide) (fun t h=>by cases h;decide) (fun t h=>by cases h;decide)
theorem jsegs_chr:∀ segs:List (List (List Nat)),(∀ s ∈ segs,∀ t ∈ s,∀ x ∈ t,x < 1114112)→∀ t ∈ jsegs segs,∀ x ∈ t,x < 1114112
  |[],_,t,ht=>by simp [jsegs] at ht
  |[s],h,t,ht=>by
    unfold jsegs at ht
    intro x hx
    split at ht
    · simp at ht;subst ht;simp at hx;omega
    · simp only [List.mem_cons,List.not_mem_nil,or_false] at ht
      rcases ht with rfl | rfl
      · simp at hx;omega
      · obtain ⟨u,hu,hx⟩:=List.mem_flatten.mp hx
        exact h s (by simp) u hu x hx
  |s::s'::ss,h,t,ht=>by
    unfold jsegs at ht
    rcases List.mem_cons.mp ht with rfl | ht
    · intro x hx
      simp only [List.mem_append,List.mem_cons,List.not_mem_nil,or_false,List.mem_flatten] at hx
      rcases hx with (hx | ⟨u,hu,hx⟩) | hx
      · omega
      · exact h s (by simp) u hu x hx
      · omega
    · exact jsegs_chr (s'::ss) (fun u hu=>h u (List.mem_cons_of_mem _ hu)) t ht
theorem texts_row' (R:List Pc) (hR:∀ c ∈ R,c ∈ pcs) (hl:R.length≤4):∃ T,g_law_text 1000 [.str (R.flatMap Pc.q)] []=some (.str T,[])∧g_translate 1000 [.str (R.flatMap Pc.q)] []=some (.str T,[])∧g_law_joined 1000 [.str (R.flatMap Pc.q)] []=some (.str T,[])∧T.length≤2000∧∀ x ∈ T,x < 1114112:=by
  have hq:∀ c ∈ pcs,c.q.length≤6:=pcs_all (by decide) (by decide) (by decide) (by decide) (by decide) (by decide) (by decide) (by decide) (by decide) (by decide) (by decide) (by decide) (by decide) (by decide) (by decide) (by decide)
  have hz:∀ R:List Pc,(∀ c ∈ R,c ∈ pcs)→(R.flatMap Pc.q).length≤6 * R.length:=by
    intro R
    induction R with
    |nil=>intro _;simp
    |cons c R ih=>
      intro h
      have h1:=hq c (h c (by simp))
      have h2:=ih fun x hx=>h x (by simp [hx])
      rw [List.flatMap_cons,List.length_append,List.length_cons];omega
  have hzR:=hz R hR
  have hu:=utranslate_row R hR hl (by simp only [SZ];omega)
  obtain ⟨hb,hlen⟩:=foldP_bd (R.map Pc.part) [] (fun t ht=>by
    obtain ⟨c,hc,e⟩:=List.mem_map.mp ht
    exact part_bd c (hR c hc) t e) (fun t ht=>by simp at ht)
  obtain ⟨s0,segs,hps,hf⟩:=(foldP_Sh (R.map Pc.part) [] (.inl ⟨[],rfl⟩)).out
  have hps':partsOf R=s0.map some++gl segs:=hps
  have hlen':(partsOf R).length≤4:=by
    unfold partsOf
    simp only [List.length_nil,List.length_map] at hlen;omega
  have hb':Bd (partsOf R):=hb
  rw [hps'] at hu hlen' hb'
  have h0b:sizeL s0≤8 * s0.length:=sizeL_bd s0 fun t ht=>hb' t (List.mem_append_left _ (List.mem_map_of_mem ht))
  have hl0:s0.length≤4:=by simp at hlen';omega
  have hlg:(gl segs).length≤4:=by simp at hlen' ⊢;omega
  have hsb:∀ s ∈ segs,s.length≤4∧sizeL s≤32:=by
    intro s hs
    have hm:∀ x ∈ s.map some,x ∈ gl segs:=fun x hx=>List.mem_flatMap.mpr ⟨s,hs,List.mem_cons_of_mem _ hx⟩
    have h1:sizeL s≤8 * s.length:=sizeL_bd s fun t ht=>hb' t (List.mem_append_right _ (hm _ (List.mem_map_of_mem ht)))
    have h2:s.length≤(gl segs).length:=by
      obtain ⟨a,b,rfl⟩:=List.append_of_mem hs
      simp [gl];omega
    omega
  have h2:=segs_two segs hf hlg
  have hjs:=jsegs_size segs fun s hs=>by have:=(hsb s hs).2;omega
  have hj:=join_row (s0:=s0) hf (by omega) (fun s hs=>by have:=hsb s hs;omega) (by omega) (by omega) (by rw [sizeL_app];omega)
  have hn:=tv_noLst (s0.map some++gl segs)
  refine ⟨jtext s0 segs,text_row hu h2 (by omega) (fun s hs=>by have:=(hsb s hs).2;omega) hlen' (by have:=sizeP_bd _ hb';omega),translate_row hu hn hj,joined_row hu hn hj,?_,?_⟩
  · have:(s0++jsegs segs).flatten.length≤500:=by rw [← sizeL_flatten,sizeL_app];omega
    simp only [jtext,List.length_append,List.length_cons,List.length_nil] at this ⊢;omega
  · have hcd:∀ t,some t ∈ s0.map some++gl segs→∀ x ∈ t,x < 1114112:=by
      intro t ht
      rw [← hps'] at ht
      rcases mem_foldP (R.map Pc.part) [] t ht with h | h
      · first | exact no h | cases h
      · obtain ⟨c,hc,e⟩:=List.mem_map.mp h
        exact part_chr c (hR c hc) t e
    have h0:∀ t ∈ s0,∀ x ∈ t,x < 1114112:=fun t ht=>hcd t (List.mem_append_left _ (List.mem_map_of_mem ht))
    have h1:∀ s ∈ segs,∀ t ∈ s,∀ x ∈ t,x < 1114112:=fun s hs t ht=>hcd t (List.mem_append_right _ (List.mem_flatMap.mpr ⟨s,hs,List.mem_cons_of_mem _ (List.mem_map_of_mem ht)⟩))
    have h2:=jsegs_chr segs h1
    intro x hx
    unfold jtext at hx
    simp only [List.mem_append,List.mem_cons,List.not_mem_nil,or_false,List.mem_flatten] at hx
    rcases hx with (hx | ⟨t,ht | ht,hx⟩) | hx
    · omega
    · exact h0 t ht x hx
    · exact h2 t ht x hx
    · omega
theorem same_fold:∀ (l pre r:List Pt),Same (pre.map AP) (r.map AP)→Same ((pre++l).map AP) ((l.foldl addP r).map AP)
  |[],pre,r,h=>by simpa using h
  |x::l,pre,r,h=>by
    have e:pre++x::l=(pre++[x])++l:=by simp
    rw [e]
    refine same_fold l (pre++[x]) (addP r x) ?_
    rw [List.map_append]
    cases x with
    |some t=>
      show Same _ ((r++[some t]).map AP)
      rw [List.map_append]
      exact h.snoc _
    |none=>
      show Same _ ((if r.getLast? = some none then r else r++[none]).map AP)
      split
      · rename_i hl
        rcases List.eq_nil_or_concat r with rfl | ⟨q,z,rfl⟩
        · simp at hl
        · rw [List.concat_eq_append] at *
          have hz:z=none:=by simpa using hl
          subst hz
          rw [List.map_append] at h ⊢
          exact h.star
      · rw [List.map_append]
        exact h.snoc _
theorem A_parts (R:List Pc):R.map A=(R.map Pc.part).map AP:=by
  rw [List.map_map];rfl
theorem same_row (R:List Pc):Same (R.map A) ((partsOf R).map AP):=by
  rw [A_parts]
  exact same_fold (R.map Pc.part) [] [] ⟨fun w=>rfl,fun w=>Iff.rfl⟩
theorem parts_POk {R:List Pc} (hR:∀ c ∈ R,c ∈ pcs):POk (partsOf R):=by
  intro t ht
  rcases mem_foldP (R.map Pc.part) [] t ht with h | h
  · first | exact no h | cases h
  · obtain ⟨c,hc,e⟩:=List.mem_map.mp h
    have:=pcOk c (hR c hc)
    unfold PcOk at this
    rw [e] at this
    exact this.1
theorem parts_len (R:List Pc):(partsOf R).length≤R.length:=by
  have:∀ (l r:List Pt),(l.foldl addP r).length≤r.length+l.length:=by
    intro l
    induction l with
    |nil=>intro r;simp
    |cons x l ih=>
      intro r
      have h1:=ih (addP r x)
      have h2:=addP_len r x
      simp only [List.foldl_cons,List.length_cons];omega
  have:=this (R.map Pc.part) []
  simpa [partsOf] using this
theorem list_due {Rs:Nat→List Pc} {c:Cb}:((List.range (2 * c.nms.length)).filter (bg (fun no=>partsOf (Rs no)) c)).map (out (fun no=>partsOf (Rs no)) c)=((List.range (2 * c.nms.length)).filter (bgD Rs c)).map (outD Rs c):=by
  have h1:bg (fun no=>partsOf (Rs no)) c=bgD Rs c:=by
    funext j
    have hs:=same_row (Rs (j % 2))
    unfold bg bgD
    rw [Bool.eq_iff_iff,begB_iff,hs.2,← PL_begun]
    cases PL (RW (fun no=>partsOf (Rs no)) (j % 2)) (nm c (j / 2)).2<;>simp
  have h2:out (fun no=>partsOf (Rs no)) c=outD Rs c:=by
    funext j
    have hs:=same_row (Rs (j % 2))
    unfold out outD
    rw [hs.1]
  rw [h1,h2]
theorem clip5 (n:Nat):clipAt n 5=min 5 n:=clipAt_nat n 5
theorem sliceL_five {α:Type} (l:List α):sliceL l none (some 5)=l.take 5:=by
  unfold sliceL
  simp only [Option.elim,clip5,List.drop_zero,Nat.sub_zero]
  by_cases h:5≤l.length
  · rw [Nat.min_eq_left h]
  · rw [Nat.min_eq_right (by omega),List.take_of_length_le (Nat.le_refl _),List.take_of_length_le (by omega)]
theorem sliceL_from {α:Type} (l:List α) {k:Nat} (hk:k≤l.length):sliceL l (some (k:Int)) none=l.drop k:=by
  unfold sliceL
  simp only [Option.elim,clipAt_ok hk]
  exact List.take_of_length_le (by simp)
noncomputable def J (l:List Int):List V:=l.map .int
theorem J_no (l:List Int):noLsts (J l)=true:=by
  induction l with
  |nil=>rfl
  |cons a l ih=>simp only [J,List.map_cons,nlc,nli,Bool.true_and];exact ih
noncomputable def nums (ns:List Int):List Int:=(ns.take 5).map (fun i=>i.fmod 1000000000)++([5,176,450,14,445]:List Int).drop (ns.take 5).length
theorem nums_bd {ns:List Int}:∀ x ∈ nums ns,0≤x∧x < 1000000000:=by
  intro x hx
  unfold nums at hx
  rcases List.mem_append.mp hx with h | h
  · obtain ⟨i,_,rfl⟩:=List.mem_map.mp h
    have h1:=Int.fmod_nonneg_of_pos i (by decide:(0:Int) < 1000000000)
    have h2:=Int.fmod_lt_of_pos i (by decide:(0:Int) < 1000000000)
    exact ⟨h1,h2⟩
  · have h:=List.mem_of_mem_drop h
    simp at h
    omega
theorem nums_len (ns:List Int):(nums ns).length=5:=by
  unfold nums
  simp only [List.length_append,List.length_map,List.length_drop,List.length_take,List.length_cons,List.length_nil]
  omega
theorem numbers_ok {ns:List Int} (h:ns.length≤1000):g_law_numbers [.frz (J ns)] []=some (.frz (J (nums ns)),[]):=by
  have hz:(J ns).length≤SZ:=by simp only [J,List.length_map,SZ];omega
  have hs:slc (getV 0) cNone (cInt 5) [some (.frz (J ns)),none] []=some (.frz (J (ns.take 5)),[]):=by
    simp only [slc,getV,gz,cNone,cInt,z_slf0,hz,if_true,sliceL_five]
    simp only [J,List.map_take]
  have hno:=J_no (ns.take 5)
  have hi:noL (itF (slc (getV 0) cNone (cInt 5))) [some (.frz (J ns)),none] []=some (J (ns.take 5),[]):=by
    exact noit_ok hs hno
  have hstep:∀ v ∈ J (ns.take 5),bin modV (getV 0) (bin powV (cInt 10) (cInt 9)) (some v::[]) []=some ((match v with | .int i=>.int (i.fmod 1000000000) | v=>v),[]):=by
    intro v hv
    obtain ⟨i,_,rfl⟩:=List.mem_map.mp hv
    rfl
  obtain ⟨x',hc⟩:=comp_map (rest:=[]) (f:=fun v=>match v with | .int i=>.int (i.fmod 1000000000) | v=>v) (J (ns.take 5)) none hstep
  have hm:(J (ns.take 5)).map (fun v=>match v with | .int i=>.int (i.fmod 1000000000) | v=>v)=J ((ns.take 5).map fun i=>i.fmod 1000000000):=by
    simp [J,Function.comp_def]
  rw [hm] at hc
  generalize hL:(ns.take 5).map (fun i=>i.fmod 1000000000)=L at *
  have hLl:L.length≤5:=by rw [← hL];simp;omega
  have hLz:(J L).length≤SZ:=by simp only [J,List.length_map,SZ];omega
  have hf:List.replicate 1 none++([]:List Nat).map (freeV [some (.frz (J ns)),none])=none::[]:=rfl
  have e1:setS 1 (compF (noL (itF (slc (getV 0) cNone (cInt 5)))) 1 [] (leafC (bin modV (getV 0) (bin powV (cInt 10) (cInt 9)))) (tgN 0) []) [some (.frz (J ns)),none] []=some (.nx,[some (.frz (J ns)),some (.frz (J L))],[]):=by
    simp only [setS,compF,hi,hf,hc,hLz,if_true]
    rfl
  have e2:bin addV (getV 1) (slc (lstF [(cInt 5),(cInt 176),(cInt 450),(cInt 14),(cInt 445)]) (calF lenG [(getV 1)]) cNone) [some (.frz (J ns)),some (.frz (J L))] []=some (.frz (J (nums ns)),[]):=by
    have h1:calF lenG [(getV 1)] [some (.frz (J ns)),some (.frz (J L))] []=some (.int (L.length:Nat),[]):=by
      simp only [calF,seqF,getV,gs,gz,z_lenf,hLz,if_true]
      simp [J]
    have h2:lstF [(cInt 5),(cInt 176),(cInt 450),(cInt 14),(cInt 445)] [some (.frz (J ns)),some (.frz (J L))] []=some (.frz (J [5,176,450,14,445]),[]):=rfl
    have h3:(J [5,176,450,14,445]).length≤SZ:=by decide
    have h4:slc (lstF [(cInt 5),(cInt 176),(cInt 450),(cInt 14),(cInt 445)]) (calF lenG [(getV 1)]) cNone [some (.frz (J ns)),some (.frz (J L))] []=some (.frz (J (([5,176,450,14,445]:List Int).drop L.length)),[]):=by
      simp only [slc,h2,h1,cNone,z_slf1,h3,if_true]
      rw [sliceL_from _ (by simp [J];omega)]
      simp [J,List.map_drop]
    have h5:getV 1 [some (.frz (J ns)),some (.frz (J L))] []=some (.frz (J L),[]):=rfl
    have h6:(J L).length+(J (([5,176,450,14,445]:List Int).drop L.length)).length≤SZ:=by
      simp only [J,List.length_map,List.length_drop,List.length_cons,List.length_nil,SZ];omega
    simp only [bin,h5,h4,z_addf,h6,if_true]
    have:nums ns=L++([5,176,450,14,445]:List Int).drop L.length:=by
      unfold nums;rw [← hL];simp
    rw [this]
    simp [J]
  have e:f_law_numbers [some (.frz (J ns)),none] []=some (.rt (.frz (J (nums ns))),[some (.frz (J ns)),some (.frz (J L))],[]):=by
    rw [f_law_numbers,seqS_nx e1]
    simp only [retS,e2]
  show runF 1 f_law_numbers _ _=_
  exact run0 e (J_no _)
noncomputable def pcV (c:Pc):V:=.tup [.str c.q,c.told]
noncomputable def dig (x:Int):Nat:=(x.fmod 22).toNat
noncomputable def pick (ds:List Nat):List Pc:=(ds.filter fun d=>decide (d < 20)).map fun d=>pcs.getD d ⟨[],none,.none⟩
theorem pick_pcs {ds:List Nat}:∀ c ∈ pick ds,c ∈ pcs:=by
  intro c hc
  obtain ⟨d,hd,rfl⟩:=List.mem_map.mp hc
  have h:=(List.mem_filter.mp hd).2
  have hl:d < pcs.length:=by
    have:pcs.length=20:=by decide
    rw [this];simpa using h
  rw [List.getD_eq_getElem?_getD,List.getElem?_eq_getElem hl]
  exact List.getElem_mem hl
theorem pick_len {ds:List Nat}:(pick ds).length≤ds.length:=by
  unfold pick;rw [List.length_map];exact List.length_filter_le _ _
theorem pieces_run:g_law_pieces [] []=some (.frz pieces,[]):=by kernel_rfl
theorem pieces_idx {d:Nat} (h:d < 20):idxL pieces (d:Int)=some (pcV (pcs.getD d ⟨[],none,.none⟩)):=by
  have hz:pieces.length≤SZ:=by decide
  rw [idxL_ge hz,pieces_eq,List.getElem?_map]
  have hl:d < pcs.length:=by
    have:pcs.length=20:=by decide
    rw [this];exact h
  rw [List.getD_eq_getElem?_getD,List.getElem?_eq_getElem hl]
  rfl
theorem pcV_no {c:Pc} (hc:c ∈ pcs):(pcV c).noLst=true:=by
  simp only [pcV,nlt,nls,nlc,nln,(told_gd hc).2.1,Bool.and_self]
theorem pcVs_no:∀ {R:List Pc},(∀ c ∈ R,c ∈ pcs)→noLsts (R.map pcV)=true
  |[],_=>rfl
  |c::R,h=>by
    simp only [List.map_cons,nlc,pcV_no (h c (by simp)),Bool.true_and]
    exact pcVs_no (R:=R) fun x hx=>h x (List.mem_cons_of_mem _ hx)
theorem comp_pick:∀ (ds:List Nat) (x:Option V),∃ x',compGo (leafC (bin idxV (funF g_law_pieces []) (getV 0))) (tgN 0) [(tB (bin ltV (getV 0) (cInt 20)))] (I ds) (x::[])=some ((pick ds).map pcV,x'::[])
  |[],x=>⟨x,rfl⟩
  |d::ds,x=>by
    obtain ⟨x',ih⟩:=comp_pick ds (some (.int (d:Nat)))
    refine ⟨x',?_⟩
    have hI:I (d::ds)=.int (d:Nat)::I ds:=rfl
    have hdec:decide ((d:Int) < 20)=decide (d < 20):=by rw [Bool.eq_iff_iff,decide_eq_true_eq,decide_eq_true_eq];omega
    have ht:tAll0 [(tB (bin ltV (getV 0) (cInt 20)))] [some (.int (d:Nat))]=some (decide (d < 20)):=by
      exact tall_1 (by simp only [tB,bin,getV,gz,cInt,z_lt,hdec,z_trb])
    have h0:tgN 0 (.int (d:Nat)) [x]=some [some (.int (d:Nat))]:=rfl
    rw [hI]
    by_cases hd:d < 20
    · have hf:=funF_ok (g:=g_law_pieces) (fs:=[]) (ρ:=[some (.int (d:Nat))]) (H:=[]) (xs:=[]) rfl rfl pieces_run
      have hix:=pieces_idx hd
      have hl:leafC (bin idxV (funF g_law_pieces []) (getV 0)) [some (.int (d:Nat))]=some ([pcV (pcs.getD d ⟨[],none,.none⟩)],[some (.int (d:Nat))]):=by
        exact leaf_ok (by simp only [bin,hf,getV,gz,z_idf,hix])
      have hp:pick (d::ds)=pcs.getD d ⟨[],none,.none⟩::pick ds:=by simp [pick,hd]
      rw [hp]
      rw [decide_eq_true hd] at ht
      exact cg_on h0 ht hl ih
    · have hp:pick (d::ds)=pick ds:=by simp [pick,hd]
      rw [hp]
      rw [decide_eq_false hd] at ht
      exact cg_off h0 ht ih
theorem dig_eq (x:Int):x.fmod 22=(dig x:Int):=by
  unfold dig
  have:=Int.fmod_nonneg_of_pos x (by decide:(0:Int) < 22)
  omega
noncomputable def digs (x y:Int):List Nat:=[dig x,dig (x.fdiv 22),dig y,dig (y.fdiv 22)]
theorem items_ok {x y:Int} (hx:0≤x∧x < 1000000000) (hy:0≤y∧y < 1000000000):g_law_items [.frz [.int x,.int y]] []=some (.frz ((pick (digs x y)).map pcV),[]):=by
  have step:∀ (z:Int) (ds:List Nat) (c2:Option V),0≤z∧z < 1000000000→ds.length≤10→expS (exdF (getV 1) [(bin modV (getV 2) (cInt 22)),(bin modV (bin divV (getV 2) (cInt 22)) (cInt 22))]) [some (.frz [.int x,.int y]),some (.lst 0),some (.int z)] [I ds]=some (.nx,[some (.frz [.int x,.int y]),some (.lst 0),some (.int z)],[I (ds++[dig z,dig (z.fdiv 22)])]):=by
    intro z ds c2 hz hds
    have h1:0≤z∧z < 1000000000000∧(0:Int) < 22∧(22:Int) < 1000:=by omega
    have h22:(22:Int) ≠ 0:=by decide
    have e:I (ds++[dig z,dig (z.fdiv 22)])=I ds++[.int (dig z:Nat),.int (dig (z.fdiv 22):Nat)]:=by simp [I]
    have hlz:(I ds).length+2≤SZ:=by simp only [I,List.length_map,SZ];omega
    rw [e,← dig_eq,← dig_eq]
    simp only [expS,exdF,seqF,bin,getV,gs,gz,cInt,modV,h22,ne_eq,not_false_eq_true,if_true,divV,h1,and_self,List.length_cons,List.length_nil,hlz]
    simp []
  have s1:=step x [] none hx (by simp)
  have s2:=step y ([]++[dig x,dig (x.fdiv 22)]) none hy (by simp)
  have e1:setS 1 (newF []) [some (.frz [.int x,.int y]),none,none] []=some (.nx,[some (.frz [.int x,.int y]),some (.lst 0),none],[[]]):=rfl
  have e2:frS (itF (getV 0)) (tgN 2) (expS (exdF (getV 1) [(bin modV (getV 2) (cInt 22)),(bin modV (bin divV (getV 2) (cInt 22)) (cInt 22))])) [some (.frz [.int x,.int y]),some (.lst 0),none] [[]]=some (.nx,[some (.frz [.int x,.int y]),some (.lst 0),some (.int y)],[I (digs x y)]):=by
    have h0:itF (getV 0) [some (.frz [.int x,.int y]),some (.lst 0),none] [[]]=some ([.int x,.int y],[[]]):=rfl
    have t1:tgN 2 (.int x) [some (.frz [.int x,.int y]),some (.lst 0),none]=some [some (.frz [.int x,.int y]),some (.lst 0),some (.int x)]:=rfl
    have t2:tgN 2 (.int y) [some (.frz [.int x,.int y]),some (.lst 0),some (.int x)]=some [some (.frz [.int x,.int y]),some (.lst 0),some (.int y)]:=rfl
    have s1':expS (exdF (getV 1) [(bin modV (getV 2) (cInt 22)),(bin modV (bin divV (getV 2) (cInt 22)) (cInt 22))]) [some (.frz [.int x,.int y]),some (.lst 0),some (.int x)] [[]]=some (.nx,[some (.frz [.int x,.int y]),some (.lst 0),some (.int x)],[I ([]++[dig x,dig (x.fdiv 22)])]):=s1
    simp only [frS,h0,forGo,t1,s1',t2,s2]
    rfl
  obtain ⟨x',hc⟩:=comp_pick (digs x y) none
  have h3:celF (getV 1) [some (.frz [.int x,.int y]),some (.lst 0),some (.int y)] [I (digs x y)]=some (I (digs x y),[I (digs x y)]):=by
    simp only [celF,getV,gs,gz,I_no,if_true]
  have hf:List.replicate 1 none++([]:List Nat).map (freeV [some (.frz [.int x,.int y]),some (.lst 0),some (.int y)])=none::[]:=rfl
  have hpl:=pick_len (ds:=digs x y)
  have hz:((pick (digs x y)).map pcV).length≤SZ:=by
    have:(digs x y).length=4:=rfl
    simp only [List.length_map,SZ];omega
  have e:f_law_items [some (.frz [.int x,.int y]),none,none] []=some (.rt (.frz ((pick (digs x y)).map pcV)),[some (.frz [.int x,.int y]),some (.lst 0),some (.int y)],[I (digs x y)]):=by
    rw [f_law_items,seqS_nx e1,seqS_nx e2]
    simp only [retS,compF,h3,hf,hc,hz,if_true]
  have hno:=pcVs_no (pick_pcs (ds:=digs x y))
  show runF 2 f_law_items _ _=_
  exact run0 e hno
theorem bin_val {g:Op2} {f1 f2:FE} {ρ:Rho} {H H1 H2:Hp} {a b r:V} (h1:f1 ρ H=some (a,H1)) (h2:f2 ρ H1=some (b,H2)) (h3:g H2 a b=some r):bin g f1 f2 ρ H=some (r,H2):=by
  simp only [bin,h1,h2,h3]
theorem comp_two {elt:FE} {i:Nat} {ρ:Rho} {v0 v1 r0 r1:V} (h:ρ[i]?=some (some (.frz [v0,v1]))) (hn:noLsts [v0,v1]=true) (h0:elt [some v0] []=some (r0,[])) (h1:elt [some v1] []=some (r1,[])) :
    compF (noL (itF (getV i))) 1 [] (leafC elt) (tgN 0) [] ρ []=some (.frz [r0,r1],[]):=by
  have e:noL (itF (getV i)) ρ []=some ([v0,v1],[]):=by
    exact noit_ok (getV_ok h) hn
  have hf:List.replicate 1 none++([]:List Nat).map (freeV ρ)=[none]:=rfl
  have hc:compGo (leafC elt) (tgN 0) [] [v0,v1] [none]=some ([r0,r1],[some v1]):=by
    exact cg_on rfl rfl (leaf_ok h0) (cg_on rfl rfl (leaf_ok h1) rfl)
  have hz:[r0,r1].length≤SZ:=by simp [SZ]
  simp only [compF,e,hf,hc,hz,if_true]
theorem pair0:∀ (R:List Pc) (x y:Option V),∃ x' y',compGo (leafC (getV 0)) (tgT [0,1]) [] (R.map pcV) [x,y]=some ((R.map Pc.q).map .str,[x',y'])
  |[],x,y=>⟨x,y,rfl⟩
  |c::R,x,y=>by
    obtain ⟨x',y',ih⟩:=pair0 R (some (.str c.q)) (some c.told)
    refine ⟨x',y',?_⟩
    have t0:tgT [0,1] (pcV c) [x,y]=some [some (.str c.q),some c.told]:=rfl
    have l0:leafC (getV 0) [some (.str c.q),some c.told]=some ([.str c.q],[some (.str c.q),some c.told]):=rfl
    exact cg_on t0 rfl l0 ih
theorem pair1:∀ (R:List Pc) (x y:Option V),∃ x' y',compGo (leafC (getV 1)) (tgT [0,1]) [] (R.map pcV) [x,y]=some (R.map Pc.told,[x',y'])
  |[],x,y=>⟨x,y,rfl⟩
  |c::R,x,y=>by
    obtain ⟨x',y',ih⟩:=pair1 R (some (.str c.q)) (some c.told)
    refine ⟨x',y',?_⟩
    have t0:tgT [0,1] (pcV c) [x,y]=some [some (.str c.q),some c.told]:=rfl
    have l0:leafC (getV 1) [some (.str c.q),some c.told]=some ([c.told],[some (.str c.q),some c.told]):=rfl
    exact cg_on t0 rfl l0 ih
theorem inner0 {R:List Pc} (hR:∀ c ∈ R,c ∈ pcs) (hl:R.length≤4):compF (noL (itF (getV 0))) 2 [] (leafC (getV 0)) (tgT [0,1]) [] [some (.frz (R.map pcV))] []=some (.frz ((R.map Pc.q).map .str),[]):=by
  have hno:=pcVs_no hR
  have e:noL (itF (getV 0)) [some (.frz (R.map pcV))] []=some (R.map pcV,[]):=by
    exact noit_ok rfl hno
  obtain ⟨x',y',hc⟩:=pair0 R none none
  have hf:List.replicate 2 none++([]:List Nat).map (freeV [some (.frz (R.map pcV))])=[none,none]:=rfl
  have hz:((R.map Pc.q).map V.str).length≤SZ:=by simp only [List.length_map,SZ];omega
  simp only [compF,e,hf,hc,hz,if_true]
theorem inner1 {R:List Pc} (hR:∀ c ∈ R,c ∈ pcs) (hl:R.length≤4):compF (noL (itF (getV 0))) 2 [] (leafC (getV 1)) (tgT [0,1]) [] [some (.frz (R.map pcV))] []=some (.frz (R.map Pc.told),[]):=by
  have hno:=pcVs_no hR
  have e:noL (itF (getV 0)) [some (.frz (R.map pcV))] []=some (R.map pcV,[]):=by
    exact noit_ok rfl hno
  obtain ⟨x',y',hc⟩:=pair1 R none none
  have hf:List.replicate 2 none++([]:List Nat).map (freeV [some (.frz (R.map pcV))])=[none,none]:=rfl
  have hz:(R.map Pc.told).length≤SZ:=by simp only [List.length_map,SZ];omega
  simp only [compF,e,hf,hc,hz,if_true]
theorem q_small:∀ R:List Pc,(∀ c ∈ R,c ∈ pcs)→sizeL (R.map Pc.q)≤6 * R.length
  |[],_=>by simp [sizeL]
  |c::R,h=>by
    have hq:∀ c ∈ pcs,c.q.length≤6:=pcs_all (by decide) (by decide) (by decide) (by decide) (by decide) (by decide) (by decide) (by decide) (by decide) (by decide) (by decide) (by decide) (by decide) (by decide) (by decide) (by decide)
    have h1:=hq c (h c (List.mem_cons_self ..))
    have h2:=q_small R fun x hx=>h x (List.mem_cons_of_mem _ hx)
    simp only [List.map_cons,sizeL,List.length_cons];omega
theorem pat_of {R:List Pc} (hR:∀ c ∈ R,c ∈ pcs) (hl:R.length≤4):smF joinG (cStr []) [(compF (noL (itF (getV 0))) 2 [] (leafC (getV 0)) (tgT [0,1]) [])] [some (.frz (R.map pcV))] []=some (.str (R.flatMap Pc.q),[]):=by
  have h1:=q_small R hR
  have hj:=joinV_map (l:=R.map Pc.q) (by simp only [SZ];omega)
  have e:(R.map Pc.q).flatten=R.flatMap Pc.q:=rfl
  rw [e] at hj
  simp only [smF,cStr,seqF,inner0 hR hl,z_jof,hj]
theorem gd_outD {Rs:Nat→List Pc} {c:Cb} (F:CbF c) {j:Nat} (hj:j < 2 * c.nms.length):gd (outD Rs c j):=by
  have hs:=(F.sg (j / 2) (by omega)).1
  have h1:okV (.str (nm c (j / 2)).2)=true:=by
    simp only [okV,List.all_eq_true,decide_eq_true_eq]
    intro s h
    have:=hs s h
    simp only [sgs,List.mem_cons,List.not_mem_nil,or_false] at this
    omega
  refine ⟨?_,?_⟩
  · simp only [okV] at h1
    simp only [outD,okV,okVs,h1,Bool.and_self]
  · simp only [outD,toPy,toPys,PyData.depth,PyData.depthAll];omega
noncomputable def L6:List V:=[.tup [.int 1,.int 2,.int 4],.tup [.int 2,.int 1,.int 4],.tup [.int 2,.int 3,.int 7],.tup [.int 1,.int 3,.int 5],.tup [.int 1,.int 1,.int 3]]
noncomputable def L7:List V:=[.str [97,38],.str [97,45],.str [97,33],.str [38,45],.str [38,33],.str [45,33]]
section
variable {v0 v2 v3 v4 v5 v6 v7 v8 v9 v10:Option V} {ns:List Int} {x0 x1 y1 x2 y2:Int} {A B O:List V} {P0 P1 T0 T1 ST:V}
theorem le0 (h:g_law_numbers [.frz (J ns)] []=some (.frz (J [x0,x1,y1,x2,y2]),[])):law_f0 [some (.frz (J ns)),none,v2,v3,v4,v5,v6,v7,v8,v9,v10] []=some (.nx,[some (.frz (J ns)),some (.frz (J [x0,x1,y1,x2,y2])),v2,v3,v4,v5,v6,v7,v8,v9,v10],[]):=by
  have hf:=funF_ok (g:=g_law_numbers) (fs:=[(getV 0)]) (ρ:=[some (.frz (J ns)),none,v2,v3,v4,v5,v6,v7,v8,v9,v10]) (H:=[]) (xs:=[.frz (J ns)]) rfl (by simp only [nlc,nln,nlf,J_no,Bool.and_self]) h
  simp only [law_f0,setS,hf]
  rfl
theorem le1 (i1:g_law_items [.frz [.int x1,.int y1]] []=some (.frz A,[])) (i2:g_law_items [.frz [.int x2,.int y2]] []=some (.frz B,[])):law_f1 [v0,some (.frz (J [x0,x1,y1,x2,y2])),none,v3,v4,v5,v6,v7,v8,v9,v10] []=some (.nx,[v0,some (.frz (J [x0,x1,y1,x2,y2])),some (.frz [.frz A,.frz B]),v3,v4,v5,v6,v7,v8,v9,v10],[]):=by
  have f1:=funF_ok (g:=g_law_items) (fs:=[(slc (getV 1) (cInt 1) (cInt 3))]) (ρ:=[v0,some (.frz (J [x0,x1,y1,x2,y2])),none,v3,v4,v5,v6,v7,v8,v9,v10]) (H:=[]) (xs:=[.frz [.int x1,.int y1]]) (by kernel_rfl) rfl i1
  have f2:=funF_ok (g:=g_law_items) (fs:=[(slc (getV 1) (cInt 3) (cInt 5))]) (ρ:=[v0,some (.frz (J [x0,x1,y1,x2,y2])),none,v3,v4,v5,v6,v7,v8,v9,v10]) (H:=[]) (xs:=[.frz [.int x2,.int y2]]) (by kernel_rfl) rfl i2
  simp only [law_f1,setS,lstF,seqF,f1,f2]
  rfl
theorem le2 {v1:V} (hn:noLsts [.frz A,.frz B]=true) (g0:smF joinG (cStr []) [(compF (noL (itF (getV 0))) 2 [] (leafC (getV 0)) (tgT [0,1]) [])] [some (.frz A)] []=some (P0,[])) (g1:smF joinG (cStr []) [(compF (noL (itF (getV 0))) 2 [] (leafC (getV 0)) (tgT [0,1]) [])] [some (.frz B)] []=some (P1,[])) :
    law_f2 [v0,some v1,some (.frz [.frz A,.frz B]),none,v4,v5,v6,v7,v8,v9,v10] []=some (.nx,[v0,some v1,some (.frz [.frz A,.frz B]),some (.frz [P0,P1]),v4,v5,v6,v7,v8,v9,v10],[]):=by
  have:=comp_two (i:=2) (ρ:=[v0,some v1,some (.frz [.frz A,.frz B]),none,v4,v5,v6,v7,v8,v9,v10]) rfl hn g0 g1
  simp only [law_f2,setS,this]
  rfl
theorem both {g:FF} {ρ:Rho} (h:ρ[3]?=some (some (.frz [P0,P1]))) (hn:noLsts [P0,P1]=true) (h0:g [P0] []=some (T0,[])) (h1:g [P1] []=some (T1,[])):compF (noL (itF (getV 3))) 1 [] (leafC (funF g [(getV 0)])) (tgN 0) [] ρ []=some (.frz [T0,T1],[]):=by
  have e0:noLsts [P0]=true:=by simp only [nlc,nln,Bool.and_eq_true] at hn ⊢;exact ⟨hn.1,trivial⟩
  have e1:noLsts [P1]=true:=by simp only [nlc,nln,Bool.and_eq_true] at hn ⊢;exact ⟨hn.2.1,trivial⟩
  exact comp_two (i:=3) h hn (funF_ok (fs:=[(getV 0)]) (ρ:=[some P0]) (H:=[]) (xs:=[P0]) rfl e0 h0) (funF_ok (fs:=[(getV 0)]) (ρ:=[some P1]) (H:=[]) (xs:=[P1]) rfl e1 h1)
theorem le3 {v1:Option V} (hn:noLsts [P0,P1]=true) (h0:g_law_text 1000 [P0] []=some (T0,[])) (h1:g_law_text 1000 [P1] []=some (T1,[])):law_f3 1000 [v0,v1,v2,some (.frz [P0,P1]),none,v5,v6,v7,v8,v9,v10] []=some (.nx,[v0,v1,v2,some (.frz [P0,P1]),some (.frz [T0,T1]),v5,v6,v7,v8,v9,v10],[]):=by
  have:=both (ρ:=[v0,v1,v2,some (.frz [P0,P1]),none,v5,v6,v7,v8,v9,v10]) rfl hn h0 h1
  simp only [law_f3,setS,this]
  rfl
theorem le4 {v1:Option V} (hn:noLsts [P0,P1]=true) (h0:g_translate 1000 [P0] []=some (T0,[])) (h1:g_translate 1000 [P1] []=some (T1,[])) (hT:neV [] (.frz [T0,T1]) (.frz [T0,T1])=some (.bool false)):law_f4 1000 [v0,v1,v2,some (.frz [P0,P1]),some (.frz [T0,T1]),v5,v6,v7,v8,v9,v10] []=some (.nx,[v0,v1,v2,some (.frz [P0,P1]),some (.frz [T0,T1]),v5,v6,v7,v8,v9,v10],[]):=by
  have hb:=bin_val (f2:=getV 4) (both (ρ:=[v0,v1,v2,some (.frz [P0,P1]),some (.frz [T0,T1]),v5,v6,v7,v8,v9,v10]) rfl hn h0 h1) rfl hT
  simp only [law_f4,ifS,tB,hb,z_trb,nopS]
theorem le5 {v1:Option V} (hn:noLsts [P0,P1]=true) (h0:g_law_joined 1000 [P0] []=some (T0,[])) (h1:g_law_joined 1000 [P1] []=some (T1,[])) (hT:neV [] (.frz [T0,T1]) (.frz [T0,T1])=some (.bool false)):law_f5 1000 [v0,v1,v2,some (.frz [P0,P1]),some (.frz [T0,T1]),v5,v6,v7,v8,v9,v10] []=some (.nx,[v0,v1,v2,some (.frz [P0,P1]),some (.frz [T0,T1]),v5,v6,v7,v8,v9,v10],[]):=by
  have hb:=bin_val (f2:=getV 4) (both (ρ:=[v0,v1,v2,some (.frz [P0,P1]),some (.frz [T0,T1]),v5,v6,v7,v8,v9,v10]) rfl hn h0 h1) rfl hT
  simp only [law_f5,ifS,tB,hb,z_trb,nopS]
theorem le6 {f s l:V} (h6:idxV [] (.frz L6) (.int (x0.fmod 5))=some (.tup [f,s,l])):law_f6 [v0,some (.frz (J [x0,x1,y1,x2,y2])),v2,v3,v4,none,none,none,v8,v9,v10] []=some (.nx,[v0,some (.frz (J [x0,x1,y1,x2,y2])),v2,v3,v4,some f,some s,some l,v8,v9,v10],[]):=by
  have h1:bin modV (bin idxV (getV 1) (cInt 0)) (cInt 5) [v0,some (.frz (J [x0,x1,y1,x2,y2])),v2,v3,v4,none,none,none,v8,v9,v10] []=some (.int (x0.fmod 5),[]):=by kernel_rfl
  have hb:=bin_val (f1:=lstF (L6.map kF)) (H:=[]) (H1:=[]) (a:=.frz L6) rfl h1 h6
  have hb':bin idxV (lstF (([.tup [.int 1,.int 2,.int 4],.tup [.int 2,.int 1,.int 4],.tup [.int 2,.int 3,.int 7],.tup [.int 1,.int 3,.int 5],.tup [.int 1,.int 1,.int 3]]:List V).map kF)) (bin modV (bin idxV (getV 1) (cInt 0)) (cInt 5)) [v0,some (.frz (J [x0,x1,y1,x2,y2])),v2,v3,v4,none,none,none,v8,v9,v10] []=some (.tup [f,s,l],[]):=hb
  unfold law_f6 setT
  rw [hb']
  rfl
theorem le7 {r:V} (ha:0≤x0∧x0 < 1000000000) (h7:idxV [] (.frz L7) (.int ((x0.fdiv 5).fmod 6))=some r):law_f7 [v0,some (.frz (J [x0,x1,y1,x2,y2])),v2,v3,v4,v5,v6,v7,none,v9,v10] []=some (.nx,[v0,some (.frz (J [x0,x1,y1,x2,y2])),v2,v3,v4,v5,v6,v7,some r,v9,v10],[]):=by
  have h0:bin idxV (getV 1) (cInt 0) [v0,some (.frz (J [x0,x1,y1,x2,y2])),v2,v3,v4,v5,v6,v7,none,v9,v10] []=some (.int x0,[]):=by kernel_rfl
  have hd:divV [] (.int x0) (.int 5)=some (.int (x0.fdiv 5)):=if_pos ⟨ha.1,Int.lt_trans ha.2 (by decide),by decide,by decide⟩
  have hm:modV [] (.int (x0.fdiv 5)) (.int 6)=some (.int ((x0.fdiv 5).fmod 6)):=rfl
  have h1:=bin_val (f2:=cInt 6) (bin_val (f2:=cInt 5) h0 rfl hd) rfl hm
  have hb:=bin_val (f1:=lstF [(cStr [97,38]),(cStr [97,45]),(cStr [97,33]),(cStr [38,45]),(cStr [38,33]),(cStr [45,33])]) (H:=[]) (H1:=[]) (a:=.frz L7) rfl h1 h7
  unfold law_f7 setS
  rw [hb]
  rfl
theorem le9 {v1:Option V} {l:Int} (hn:noLsts [.frz A,.frz B]=true) (g0:compF (noL (itF (getV 0))) 2 [] (leafC (getV 1)) (tgT [0,1]) [] [some (.frz A)] []=some (T0,[])) (g1:compF (noL (itF (getV 0))) 2 [] (leafC (getV 1)) (tgT [0,1]) [] [some (.frz B)] []=some (T1,[])) (hr:noLsts [.frz [T0,T1],ST,.int l]=true) (hd:g_law_due 1000 [.frz [T0,T1],ST,.int l] []=some (.frz O,[])) :
    law_f9 1000 [v0,v1,some (.frz [.frz A,.frz B]),v3,v4,v5,v6,some (.int l),v8,some ST,none] []=some (.nx,[v0,v1,some (.frz [.frz A,.frz B]),v3,v4,v5,v6,some (.int l),v8,some ST,some (.frz O)],[]):=by
  have h:=comp_two (i:=2) (ρ:=[v0,v1,some (.frz [.frz A,.frz B]),v3,v4,v5,v6,some (.int l),v8,some ST,none]) rfl hn g0 g1
  have hf:=funF_ok (g:=g_law_due 1000) (fs:=[(compF (noL (itF (getV 2))) 1 [] (leafC (compF (noL (itF (getV 0))) 2 [] (leafC (getV 1)) (tgT [0,1]) [])) (tgN 0) []),(getV 9),(getV 7)]) (ρ:=[v0,v1,some (.frz [.frz A,.frz B]),v3,v4,v5,v6,some (.int l),v8,some ST,none]) (H:=[]) (xs:=[.frz [T0,T1],ST,.int l]) (by simp only [seqF,h];rfl) hr hd
  unfold law_f9 setS
  rw [hf]
  rfl
theorem le10 {v1:Option V} {l:Int} (hn:noLsts [P0,P1]=true) (h0:g_law_parts 1000 [P0] []=some (T0,[])) (h1:g_law_parts 1000 [P1] []=some (T1,[])) (hr:noLsts [.frz [T0,T1],ST,.int l]=true) (hd:g_law_listing 1000 [.frz [T0,T1],ST,.int l] []=some (.frz O,[])) (hO:eqV [] (.frz O) (.frz O)=some (.bool true)) :
    law_f10 1000 [v0,v1,v2,some (.frz [P0,P1]),v4,v5,v6,some (.int l),v8,some ST,some (.frz O)] []=some (.rt (.bool true),[v0,v1,v2,some (.frz [P0,P1]),v4,v5,v6,some (.int l),v8,some ST,some (.frz O)],[]):=by
  have h:=both (ρ:=[v0,v1,v2,some (.frz [P0,P1]),v4,v5,v6,some (.int l),v8,some ST,some (.frz O)]) rfl hn h0 h1
  have hf:=funF_ok (g:=g_law_listing 1000) (fs:=[(compF (noL (itF (getV 3))) 1 [] (leafC (funF (g_law_parts 1000) [(getV 0)])) (tgN 0) []),(getV 9),(getV 7)]) (ρ:=[v0,v1,v2,some (.frz [P0,P1]),v4,v5,v6,some (.int l),v8,some ST,some (.frz O)]) (H:=[]) (xs:=[.frz [T0,T1],ST,.int l]) (by simp only [seqF,h];rfl) hr hd
  have hb:=bin_val (f2:=getV 10) hf rfl hO
  unfold law_f10 retS
  rw [hb]
end
theorem law_run {ρ0 ρ1 ρ2 ρ3 ρ4 ρ5 ρ6 ρ7 ρ8 ρ9 ρ10 ρ11:Rho} {r:Fl} (e0:law_f0 ρ0 []=some (.nx,ρ1,[])) (e1:law_f1 ρ1 []=some (.nx,ρ2,[])) (e2:law_f2 ρ2 []=some (.nx,ρ3,[])) (e3:law_f3 1000 ρ3 []=some (.nx,ρ4,[])) (e4:law_f4 1000 ρ4 []=some (.nx,ρ5,[])) (e5:law_f5 1000 ρ5 []=some (.nx,ρ6,[]))
    (e6:law_f6 ρ6 []=some (.nx,ρ7,[])) (e7:law_f7 ρ7 []=some (.nx,ρ8,[])) (e8:law_f8 ρ8 []=some (.nx,ρ9,[])) (e9:law_f9 1000 ρ9 []=some (.nx,ρ10,[])) (e10:law_f10 1000 ρ10 []=some (r,ρ11,[])):f_law 1000 ρ0 []=some (r,ρ11,[]):=by
  rw [f_law,law_t0,seqS_nx e0,law_t1,seqS_nx e1,law_t2,seqS_nx e2,law_t3,seqS_nx e3,law_t4,seqS_nx e4,law_t5,seqS_nx e5,law_t6,seqS_nx e6,law_t7,seqS_nx e7,law_t8,seqS_nx e8,law_t9,seqS_nx e9,law_t10,e10]
theorem law_case {c:Cb} (hc:CbOk c) {ns:List Int} (hns:ns.length≤63) {a x1 y1 x2 y2:Int} (hn:nums ns=[a,x1,y1,x2,y2]) {i j:Int} (hi:a.fmod 5=i) (hj:(a.fdiv 5).fmod 6=j) (h6:idxV [] (.frz L6) (.int i)=some (.tup [.int c.f,.int c.s,.int c.lim])) (h7:idxV [] (.frz L7) (.int j)=some (.str [c.a,c.b])) :
    g_law 1000 [.frz (J ns)] []=some (.bool true,[]):=by
  subst hi hj
  have F:=cbF hc.1
  have hbd:∀ x ∈ [a,x1,y1,x2,y2],0≤x∧x < 1000000000:=fun x hx=>nums_bd x (by rw [hn];exact hx)
  have ha:=hbd a (by simp)
  have hx1:=hbd x1 (by simp)
  have hy1:=hbd y1 (by simp)
  have hx2:=hbd x2 (by simp)
  have hy2:=hbd y2 (by simp)
  have hnum:=numbers_ok (ns:=ns) (by omega)
  rw [hn] at hnum
  have i1:=items_ok hx1 hy1
  have i2:=items_ok hx2 hy2
  obtain ⟨Rs,hRs0,hRs1,hR,hl⟩ : ∃ Rs:Nat→List Pc,Rs 0=pick (digs x1 y1)∧Rs 1=pick (digs x2 y2)∧(∀ no,∀ x ∈ Rs no,x ∈ pcs)∧∀ no,(Rs no).length≤4:=by
    refine ⟨fun no=>if no=0 then pick (digs x1 y1) else pick (digs x2 y2),rfl,rfl,fun no x hx=>?_,fun no=>?_⟩
    · by_cases h:no=0
      · simp only [h,if_true] at hx;exact pick_pcs x hx
      · simp only [h,if_false] at hx;exact pick_pcs x hx
    · have e1:=pick_len (ds:=digs x1 y1)
      have e2:=pick_len (ds:=digs x2 y2)
      have e3:(digs x1 y1).length=4:=rfl
      have e4:(digs x2 y2).length=4:=rfl
      by_cases h:no=0
      · simp only [h,if_true];omega
      · simp only [h,if_false];omega
  rw [← hRs0] at i1
  rw [← hRs1] at i2
  have n0:=pcVs_no (hR 0)
  have n1:=pcVs_no (hR 1)
  obtain ⟨T0,t0a,t0b,t0c,_,t0d⟩:=texts_row' (Rs 0) (hR 0) (hl 0)
  obtain ⟨T1,t1a,t1b,t1c,_,t1d⟩:=texts_row' (Rs 1) (hR 1) (hl 1)
  have hu:∀ no,g_utranslate 1000 [.str ((Rs no).flatMap Pc.q),.star,.str [46]] []=some (.frz ((partsOf (Rs no)).map tv),[]):=fun no=>utranslate_row (Rs no) (hR no) (hl no) (by
    have h1:=q_small (Rs no) (hR no)
    rw [sizeL_flatten] at h1
    have h2:((Rs no).map Pc.q).flatten=(Rs no).flatMap Pc.q:=rfl
    rw [h2] at h1
    have:=hl no
    simp only [SZ];omega)
  have hPO:∀ no,POk (partsOf (Rs no)):=fun no=>parts_POk (hR no)
  have hPl:∀ no,(partsOf (Rs no)).length≤100:=fun no=>by have h1:=parts_len (Rs no);have:=hl no;omega
  have p0:=parts_ok (hu 0) (hPO 0) (hPl 0)
  have p1:=parts_ok (hu 1) (hPO 1) (hPl 1)
  have hdue:=due_ok (Rs:=Rs) hc hR hl
  have hlist:=listing_ok (rp:=fun no=>partsOf (Rs no)) F hPO hPl
  rw [list_due] at hlist
  have hOgd:∀ v ∈ ((List.range (2 * c.nms.length)).filter (bgD Rs c)).map (outD Rs c),gd v:=by
    intro v hv
    obtain ⟨j,hj,rfl⟩:=List.mem_map.mp hv
    exact gd_outD F (List.mem_range.mp (List.mem_filter.mp hj).1)
  generalize ((List.range (2 * c.nms.length)).filter (bgD Rs c)).map (outD Rs c)=O at *
  have hTgd:∀ v ∈ [V.str T0,V.str T1],gd v:=by
    intro v hv
    simp only [List.mem_cons,List.not_mem_nil,or_false] at hv
    rcases hv with rfl | rfl
    · exact ⟨by simp only [okV,List.all_eq_true,decide_eq_true_eq];exact t0d,by simp [toPy,PyData.depth]⟩
    · exact ⟨by simp only [okV,List.all_eq_true,decide_eq_true_eq];exact t1d,by simp [toPy,PyData.depth]⟩
  have hTT:neV [] (.frz [.str T0,.str T1]) (.frz [.str T0,.str T1])=some (.bool false):=by
    have:=eqB_self (H:=[]) (x:=.frz [.str T0,.str T1]) (y:=.frz [.str T0,.str T1]) rfl rfl hTgd
    simp only [neV,this,Option.map_some]
    rfl
  have hOO:eqV [] (.frz O) (.frz O)=some (.bool true):=by
    have:=eqB_self (H:=[]) (x:=.frz O) (y:=.frz O) rfl rfl hOgd
    simp only [eqV,this,Option.map_some]
  have hstn:(steps c).noLst=true:=rfl
  have hn2:noLsts [.frz ((Rs 0).map pcV),.frz ((Rs 1).map pcV)]=true:=by simp only [nlc,nln,nlf,n0,n1,Bool.and_self]
  have e:=law_run (le0 (v9:=none) (v10:=none) hnum) (le1 i1 i2) (le2 hn2 (pat_of (hR 0) (hl 0)) (pat_of (hR 1) (hl 1))) (le3 rfl t0a t1a) (le4 rfl t0b t1b hTT) (le5 rfl t0c t1c hTT) (le6 h6) (le7 ha h7) (ρ9:=[some (.frz (J ns)),some (.frz (J [a,x1,y1,x2,y2])),some (.frz [.frz ((Rs 0).map pcV),.frz ((Rs 1).map pcV)]),some (.frz [.str ((Rs 0).flatMap Pc.q),.str ((Rs 1).flatMap Pc.q)]),some (.frz [.str T0,.str T1]),some (.int c.f),some (.int c.s),some (.int c.lim),some (.str [c.a,c.b]),some (steps c),none]) (by kernel_rfl)
    (le9 hn2 (inner1 (hR 0) (hl 0)) (inner1 (hR 1) (hl 1)) (by simp only [nlc,nln,nlf,nli,tolds_no (hR 0),tolds_no (hR 1),hstn,Bool.and_self]) hdue) (le10 rfl p0 p1 (by simp only [nlc,nln,nlf,nli,its_no (hPO 0),its_no (hPO 1),hstn,Bool.and_self]) hlist hOO)
  exact run0 (f:=f_law 1000) (k:=10) (xs:=[.frz (J ns)]) e rfl
theorem len_cons {α:Type} {l:List α} {n:Nat} (h:l.length=n+1):∃ a t,l=a::t∧t.length=n:=by
  cases l with
  |nil=>cases h
  |cons a t=>exact ⟨a,t,rfl,Nat.succ.inj h⟩
theorem six {z:Int} {G:Prop} (h0:0≤z) (h1:z < 6) (p0:z=0→G) (p1:z=1→G) (p2:z=2→G) (p3:z=3→G) (p4:z=4→G) (p5:z=5→G):G:=by
  rcases (by omega:z=0∨z=1∨z=2∨z=3∨z=4∨z=5) with h | h | h | h | h | h
  · exact p0 h
  · exact p1 h
  · exact p2 h
  · exact p3 h
  · exact p4 h
  · exact p5 h
theorem plaw:∀ ns:List Int,ns.length≤63→∃ K H',g_law K [.frz (ns.map .int)] []=some (.bool true,H'):=by
  intro ns hns
  refine ⟨1000,[],?_⟩
  obtain ⟨a,l1,hn,e1⟩:=len_cons (nums_len ns)
  obtain ⟨x1,l2,rfl,e2⟩:=len_cons e1
  obtain ⟨y1,l3,rfl,e3⟩:=len_cons e2
  obtain ⟨x2,l4,rfl,e4⟩:=len_cons e3
  obtain ⟨y2,l5,rfl,e5⟩:=len_cons e4
  cases List.eq_nil_of_length_eq_zero e5
  have h5a:=Int.fmod_nonneg_of_pos a (by decide:(0:Int) < 5)
  have h5b:=Int.fmod_lt_of_pos a (by decide:(0:Int) < 5)
  have h6a:=Int.fmod_nonneg_of_pos (a.fdiv 5) (by decide:(0:Int) < 6)
  have h6b:=Int.fmod_lt_of_pos (a.fdiv 5) (by decide:(0:Int) < 6)
  refine six h5a (Int.lt_trans h5b (by decide)) (fun h5=>?_) (fun h5=>?_) (fun h5=>?_) (fun h5=>?_) (fun h5=>?_) (fun h5=>absurd h5 (Int.ne_of_lt h5b))
  · exact six h6a h6b (fun h6=>law_case cbok0 hns hn h5 h6 rfl rfl) (fun h6=>law_case cbok1 hns hn h5 h6 rfl rfl) (fun h6=>law_case cbok2 hns hn h5 h6 rfl rfl) (fun h6=>law_case cbok3 hns hn h5 h6 rfl rfl) (fun h6=>law_case cbok4 hns hn h5 h6 rfl rfl) (fun h6=>law_case cbok5 hns hn h5 h6 rfl rfl)
  · exact six h6a h6b (fun h6=>law_case cbok6 hns hn h5 h6 rfl rfl) (fun h6=>law_case cbok7 hns hn h5 h6 rfl rfl) (fun h6=>law_case cbok8 hns hn h5 h6 rfl rfl) (fun h6=>law_case cbok9 hns hn h5 h6 rfl rfl) (fun h6=>law_case cbok10 hns hn h5 h6 rfl rfl) (fun h6=>law_case cbok11 hns hn h5 h6 rfl rfl)
  · exact six h6a h6b (fun h6=>law_case cbok12 hns hn h5 h6 rfl rfl) (fun h6=>law_case cbok13 hns hn h5 h6 rfl rfl) (fun h6=>law_case cbok14 hns hn h5 h6 rfl rfl) (fun h6=>law_case cbok15 hns hn h5 h6 rfl rfl) (fun h6=>law_case cbok16 hns hn h5 h6 rfl rfl) (fun h6=>law_case cbok17 hns hn h5 h6 rfl rfl)
  · exact six h6a h6b (fun h6=>law_case cbok18 hns hn h5 h6 rfl rfl) (fun h6=>law_case cbok19 hns hn h5 h6 rfl rfl) (fun h6=>law_case cbok20 hns hn h5 h6 rfl rfl) (fun h6=>law_case cbok21 hns hn h5 h6 rfl rfl) (fun h6=>law_case cbok22 hns hn h5 h6 rfl rfl) (fun h6=>law_case cbok23 hns hn h5 h6 rfl rfl)
  · exact six h6a h6b (fun h6=>law_case cbok24 hns hn h5 h6 rfl rfl) (fun h6=>law_case cbok25 hns hn h5 h6 rfl rfl) (fun h6=>law_case cbok26 hns hn h5 h6 rfl rfl) (fun h6=>law_case cbok27 hns hn h5 h6 rfl rfl) (fun h6=>law_case cbok28 hns hn h5 h6 rfl rfl) (fun h6=>law_case cbok29 hns hn h5 h6 rfl rfl)
end Mine.Internal
theorem PySem.Challenge.cw_in0233_01_holds : PySem.Challenge.rw_in0233_01.Holds :=
  Mine.Internal.joined Mine.Internal.plaw
