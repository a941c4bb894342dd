import PyProof.Rows.All
import Wide.All
import OpenK.AllK
import Wide.FinOn
import Lean
import PySem.Challenge.RW_to0060_01
open PySem PyProof.Rows PySem.W
set_option Elab.async false
set_option maxRecDepth 100000
set_option maxHeartbeats 8000000
set_option linter.all false
set_option tactic.hygienic false
set_option genInjectivity false
set_option genSizeOf false
set_option genSizeOfSpec false
noncomputable section
namespace Mine
local macro_rules
  | `(tactic| omega) => `(tactic| with_reducible first
    | assumption
    | exact Nat.zero_le _
    | exact Nat.le_of_lt (by assumption)
    | (refine Nat.lt_of_le_of_lt (by assumption) ?_; show (OfNat.ofNat _ : Nat) < OfNat.ofNat _; decide)
    | (refine Nat.lt_of_lt_of_le (by assumption) ?_; show (OfNat.ofNat _ : Nat) ≤ OfNat.ofNat _; decide)
    | (refine Nat.le_trans (by assumption) ?_; show (OfNat.ofNat _ : Nat) ≤ OfNat.ofNat _; decide)
    | (refine Nat.le_trans ?_ (by assumption); show (OfNat.ofNat _ : Nat) ≤ OfNat.ofNat _; decide)
    | (refine (Nat.sub_add_cancel (Nat.le_trans ?_ (by assumption))).symm; show (OfNat.ofNat _ : Nat) ≤ OfNat.ofNat _; decide)
    | exact Int.natCast_nonneg _
    | exact Nat.le_add_left _ _
    | exact Nat.le_add_right _ _)
section
open PySem.Spec
noncomputable def codish (o:Obj):Prop:=∃ fs,∃ (q:Str),∃ t,o.data=.fields fs∧fs[1]?=some (.str q t)∧q≠""
noncomputable def seqish (o:Obj):Prop:=(∃ its n,o.data=.seq its n)∨(∃ fs,o.data=.fields fs∧o.cls=.type "range")∨codish o∨∃ fd,o.data=.func fd
theorem codish.seq {o:Obj} (h:codish o):seqish o:=.inr (.inr (.inl h))
theorem seqish.not_dict {o:Obj} {es ep} (h:o.data=.dict es ep):¬ seqish o:=by
  rintro (⟨_,_,e⟩ | ⟨_,e,_⟩ | ⟨_,_,_,e,_⟩ | ⟨_,e⟩) <;> rw [h] at e <;> cases e
theorem seqish.not_cell {o:Obj} {v} (h:o.data=.cell v):¬ seqish o:=by
  rintro (⟨_,_,e⟩ | ⟨_,e,_⟩ | ⟨_,_,_,e,_⟩ | ⟨_,e⟩) <;> rw [h] at e <;> cases e
theorem seqish.not_fields {o:Obj} {fs} {c:String} (h:o.data=.fields fs) (hc:o.cls=.type c) (hne:c≠"range") (hne2:∀ q t,fs[1]?≠some (.str q t):=by simp [rawInt]):¬ seqish o:=by
  rintro (⟨_,_,e⟩ | ⟨_,_,e⟩ | ⟨_,_,_,e,e2,_⟩ | ⟨_,e⟩)
  · rw [h] at e; cases e
  · rw [hc] at e; exact hne (by cases e; rfl)
  · rw [h] at e; cases e; exact hne2 _ _ e2
  · rw [h] at e; cases e
inductive V where
  | none
  | bool (b:Bool)
  | int (i:Int)
  | flt (x:UInt64)
  | flk (x:UInt64) (t:Tok)
  | str (s:Str)
  | tup (vs:List V)
  | list (vs:List V)
  | rng (a b:Int)
  | mach
deriving Inhabited
mutual
noncomputable def VRel (μ:Addr) (h:Heap):V→Value→Prop
  | .none,r=>r=.none
  | .bool b,r=>r=.bool b
  | .int i,r=>∃ t,r=.int i t
  | .flt x,r=>∃ t,t≠0∧r=.float x t
  | .flk x t,r=>t≠0∧r=.float x t
  | .str x,r=>∃ t,r=.str x t
  | .tup vs,r=>∃ a rs,r=.ref a∧h.IsTuple a (List.toArray rs)∧VRels μ h vs rs
  | .list vs,r=>∃ a rs,r=.ref a∧h.PlainList a (List.toArray rs)∧VRels μ h vs rs
  | .rng a b,r=>∃ x t u v,r=.ref x∧IsRange h x a b 1 t u v
  | .mach,r=>r=.ref μ
noncomputable def VRels (μ:Addr) (h:Heap):List V→List Value→Prop
  | [],rs=>rs=[]
  | v :: vs,rs=>∃ r rt,rs=r :: rt∧VRel μ h v r∧VRels μ h vs rt
end
mutual
theorem VRel.keeps {μ:Addr} {h h':Heap} (hk:∀ b o,h.get? b=some o→h'.get? b=some o):∀ (v:V) (r:Value),VRel μ h v r→VRel μ h' v r
  | .none,_,x=>by unfold VRel at *; exact x
  | .bool _,_,x=>by unfold VRel at *; exact x
  | .int _,_,x=>by unfold VRel at *; exact x
  | .flt _,_,x=>by unfold VRel at *; exact x
  | .flk _ _,_,x=>by unfold VRel at *; exact x
  | .str _,_,x=>by unfold VRel at *; exact x
  | .mach,_,x=>by unfold VRel at *; exact x
  | .rng a b,_,x=>by
    unfold VRel at *
    obtain ⟨y,t,u,v,hy67_1⟩:=x
    have e:=hy67_1.1
    have z:=hy67_1.2
    clear hy67_1
    exact ⟨y,t,u,v,e,hk _ _ z⟩
  | .tup vs,_,x=>by
    unfold VRel at *
    obtain ⟨a,rs,hy71_1⟩:=x
    have e:=hy71_1.1
    have hx71_0:=hy71_1.2.1
    have y:=hy71_1.2.2
    clear hy71_1
    obtain ⟨o,ho,q⟩:=hx71_0
    exact ⟨a,rs,e,⟨o,hk a o ho,q⟩,VRels.keeps hk vs rs y⟩
  | .list vs,_,x=>by
    unfold VRel at *
    obtain ⟨a,rs,hy75_1⟩:=x
    have e:=hy75_1.1
    have hx75_0:=hy75_1.2.1
    have y:=hy75_1.2.2
    clear hy75_1
    obtain ⟨n,ho⟩:=hx75_0
    exact ⟨a,rs,e,⟨n,hk a _ ho⟩,VRels.keeps hk vs rs y⟩
theorem VRels.keeps {μ:Addr} {h h':Heap} (hk:∀ b o,h.get? b=some o→h'.get? b=some o):∀ (vs:List V) (rs:List Value),VRels μ h vs rs→VRels μ h' vs rs
  | [],_,x=>by unfold VRels at *; exact x
  | v :: vs,_,x=>by
    unfold VRels at *
    obtain ⟨r,rt,hy81_1⟩:=x
    have e:=hy81_1.1
    have y:=hy81_1.2.1
    have z:=hy81_1.2.2
    clear hy81_1
    exact ⟨r,rt,e,VRel.keeps hk v r y,VRels.keeps hk vs rt z⟩
end
theorem VRels.length {μ:Addr} {h:Heap}:∀ {vs:List V} {rs:List Value},VRels μ h vs rs→rs.length=vs.length
  | [],_,x=>by unfold VRels at x; subst x; rfl
  | v :: vs,_,x=>by
    unfold VRels at x
    obtain ⟨r,rt,hy89_1⟩:=x
    have hx89_0:=hy89_1.1
    have y:=hy89_1.2.1
    have z:=hy89_1.2.2
    clear hy89_1
    subst hx89_0
    simp [VRels.length z]
theorem VRels.get {μ:Addr} {h:Heap}:∀ {vs:List V} {rs:List Value},VRels μ h vs rs→∀ {i:Nat} {v:V},vs[i]?=some v→∃ r,rs[i]?=some r∧VRel μ h v r
  | [],_,x,i,v,e=>by simp at e
  | v :: vs,_,x,i,u,e=>by
    unfold VRels at x
    obtain ⟨r,rt,hy95_1⟩:=x
    have hx95_0:=hy95_1.1
    have y:=hy95_1.2.1
    have z:=hy95_1.2.2
    clear hy95_1
    subst hx95_0
    cases i with
    | zero=>simp at e; subst e; exact ⟨r,rfl,y⟩
    | succ i=>simp at e; simpa using VRels.get z e
theorem VRels.get' {μ:Addr} {h:Heap}:∀ {vs:List V} {rs:List Value},VRels μ h vs rs→∀ {i:Nat} {r:Value},rs[i]?=some r→∃ v,vs[i]?=some v∧VRel μ h v r:=by
  intro vs rs x i r e
  have hl:=x.length
  have hi:i < vs.length:=by rw [← hl]; exact (List.getElem?_eq_some_iff.mp e).1
  obtain ⟨r',hy103_1⟩:=x.get (i:=i) (v:=vs[i]) (by simp [hi])
  have e':=hy103_1.1
  have y:=hy103_1.2
  clear hy103_1
  rw [e] at e'; cases e'
  exact ⟨vs[i],by simp [hi],y⟩
theorem VRels.nil {μ:Addr} {h:Heap}:VRels μ h [] []:=by unfold VRels; rfl
theorem VRels.cons {μ:Addr} {h:Heap} {v:V} {vs:List V} {r:Value} {rs:List Value} (x:VRel μ h v r) (y:VRels μ h vs rs):VRels μ h (v :: vs) (r :: rs):=by
  unfold VRels; exact ⟨r,rs,rfl,x,y⟩
theorem VRels.append {μ:Addr} {h:Heap}:∀ {vs:List V} {rs:List Value} {vs':List V} {rs':List Value},VRels μ h vs rs→VRels μ h vs' rs'→VRels μ h (vs++vs') (rs++rs')
  | [],_,_,_,x,y=>by unfold VRels at x; subst x; exact y
  | v :: vs,_,_,_,x,y=>by
    unfold VRels at x
    obtain ⟨r,rt,hy113_1⟩:=x
    have hx113_0:=hy113_1.1
    have y':=hy113_1.2.1
    have z:=hy113_1.2.2
    clear hy113_1
    subst hx113_0
    exact .cons y' (VRels.append z y)
noncomputable def strsOf:List V→Option (List Str)
  | []=>some []
  | .str x :: r=>(strsOf r).map (x :: ·)
  | _ :: _=>none
noncomputable def intsOf:List V→Option (List Int)
  | []=>some []
  | .int x :: r=>(intsOf r).map (x :: ·)
  | _ :: _=>none
noncomputable def shortL (n:Nat):Bool:=Nat.blt n 4096
noncomputable def small (a:Int):Bool:=Nat.blt a.natAbs (2 ^ 62)
theorem noneE {α:Type} {v:α} {p:Prop} (h:none=some v):p:=by cases h
theorem ite_some {α:Type} {c:Prop} [Decidable c] {x v:α} (h:(if c then some x else none)=some v):c∧x=v:=by
  by_cases q:c
  · rw [if_pos q] at h; exact ⟨q,Option.some.inj h⟩
  · rw [if_neg q] at h; exact noneE h
theorem ite_none {α:Type} {c:Prop} [Decidable c] {x v:α} (h:(if c then none else some x)=some v):¬ c∧x=v:=by
  by_cases q:c
  · rw [if_pos q] at h; exact noneE h
  · rw [if_neg q] at h; exact ⟨q,Option.some.inj h⟩
noncomputable def binII (op:Operator) (a b:Int):Option V:=match op with
  | .Add=>some (.int (a+b))
  | .Sub=>some (.int (a - b))
  | .Mult=>if small a then some (.int (a * b)) else none
  | .FloorDiv=>if b≠0∧small a=true∧b.natAbs < 1073741824 then some (.int (a.fdiv b)) else none
  | .Mod=>if b≠0 then some (.int (a.fmod b)) else none
  | .Pow=>if 0≤b∧b < 64∧small a=true then some (.int (a ^ b.toNat)) else none
  | .BitAnd=>some (.int (Builtin.bitAnd a b))
  | .Div=>if b=0∨Float64.isInf (Float64.ofFrac (decide (a < 0) != decide (b < 0)) a.natAbs b.natAbs)=true then none
      else some (.flt (Float64.ofFrac (decide (a < 0) != decide (b < 0)) a.natAbs b.natAbs))
  | _=>none
noncomputable def binFF (op:Operator) (a b:UInt64):Option V:=match op with
  | .Add=>some (.flt (Float64.add a b))
  | .Sub=>some (.flt (Float64.sub a b))
  | .Mod=>if Float64.isZero b=true then none else some (.flt (Float64.divmod a b).snd)
  | .Div=>if Float64.isZero b=true then none else some (.flt (Float64.div a b))
  | _=>none
noncomputable def binV (op:Operator) (a b:V):Option V:=match a with
  | .int a=>(match b with
    | .int b=>binII op a b
    | .flt b=>(match op with
      | .Mult=>if small a then some (.flt (Float64.mul (Float64.ofInt a) b)) else none
      | _=>none)
    | _=>none)
  | .str a=>(match b with
    | .str b=>(match op with
      | .Add=>if shortL a.length && shortL b.length then some (.str (a++b)) else none
      | _=>none)
    | _=>none)
  | .list a=>(match b with
    | .list b=>(match op with
      | .Add=>if shortL a.length && shortL b.length then some (.list (a++b)) else none
      | _=>none)
    | _=>none)
  | .flt a=>(match b with
    | .flt b=>binFF op a b
    | _=>none)
  | _=>none
noncomputable def eqL (a b:List V):Option Bool:=match strsOf a,strsOf b with
  | some x,some y=>if x.all PyData.strOk && y.all PyData.strOk then some (decide (x=y)) else none
  | _,_=>match intsOf a,intsOf b with
    | some x,some y=>some (decide (x=y))
    | _,_=>none
noncomputable def eqV (a b:V):Option Bool:=match a with
  | .int a=>(match b with
    | .int b=>some (a == b)
    | _=>none)
  | .str a=>(match b with
    | .str b=>some (a == b)
    | _=>none)
  | .flt a=>(match b with
    | .flt b=>some (Float64.cmp a b == some Ordering.eq)
    | .int b=>some (Float64.cmpInt a b == some Ordering.eq)
    | _=>none)
  | .list a=>(match b with
    | .list b=>eqL a b
    | _=>none)
  | _=>none
noncomputable def cmpV (op:CmpOp) (a b:V):Option Bool:=match op with
  | .Eq=>eqV a b
  | .NotEq=>(eqV a b).map (!·)
  | .LtE=>(match a with
    | .flt a=>(match b with
      | .flt b=>some (Float64.cmp a b == some Ordering.lt || Float64.cmp a b == some Ordering.eq)
      | _=>none)
    | _=>none)
  | .In=>(match a with
    | .str a=>(match b with
      | .list b=>(strsOf b).map fun x=>x.contains a
      | _=>none)
    | _=>none)
  | _=>none
noncomputable def itemsV:V→Option (List V)
  | .list xs=>if shortL xs.length then some xs else none
  | .tup xs=>if shortL xs.length then some xs else none
  | .rng a b=>if small a && small b && shortL (b - a).toNat then some ((List.range (b - a).toNat).map fun (i:Nat)=>V.int (a+(i:Int))) else none
  | .str x=>if shortL x.length then some (x.cps.toList.map fun c=>.str ⟨#[c]⟩) else none
  | _=>none
noncomputable def V.flat:V→Bool
  | .tup _ | .list _ | .rng _ _ | .mach=>false
  | _=>true
end
set_option exponentiation.threshold 2000
theorem intBits_small {a:Int} (h:small a=true):Builtin.Int.intBits a≤64:=by
  unfold small at h
  have h1:a.natAbs < 2 ^ 62:=Nat.le_of_ble_eq_true h
  exact intBits_le_64 (by omega) (by omega)
theorem shortL_le {a b:Nat} (h:(shortL a && shortL b)=true):a+b≤sizeLine:=by
  simp only [Bool.and_eq_true] at h
  have h1:a < 4096:=Nat.le_of_ble_eq_true h.1
  have h2:b < 4096:=Nat.le_of_ble_eq_true h.2
  rw [sizeLine_eq]; omega
section
variable {prog:Program} {w:World} {A:Around} {E:Value→Shared→Prop} {s:Shared} {μ:Addr}
theorem kRefl (s:Shared):Keeps s s:=⟨s.heap,s.toks,rfl,fun _ _ e=>e⟩
theorem kTok (s:Shared) (t:Nat):Keeps s { s with toks:=t }:=⟨s.heap,t,rfl,fun _ _ e=>e⟩
theorem kPush (s:Shared) (o:Obj):Keeps s { s with heap:=s.heap.push o }:=⟨_,s.toks,rfl,fun _ _ e=>Heap.get?_push_of_some _ e⟩
theorem kTrans {s s' s'':Shared} (x:Keeps s s') (y:Keeps s' s''):Keeps s s'':=by
  obtain ⟨h,t,hy25_1⟩:=x
  have hx25_0:=hy25_1.1
  have k:=hy25_1.2
  clear hy25_1
  subst hx25_0
  obtain ⟨h',t',hy26_1⟩:=y
  have hx26_0:=hy26_1.1
  have k':=hy26_1.2
  clear hy26_1
  subst hx26_0
  exact ⟨h',t',rfl,fun b o e=>k' b o (k b o e)⟩
theorem kGet {s s':Shared} (x:Keeps s s'):∀ b o,s.heap.get? b=some o→s'.heap.get? b=some o:=by
  obtain ⟨h,t,rfl,k⟩:=x; exact k
theorem VRel.kept {v:V} {r:Value} {s s':Shared} (x:VRel μ s.heap v r) (k:Keeps s s'):VRel μ s'.heap v r:=VRel.keeps (kGet k) v r x
theorem VRels.kept {vs:List V} {rs:List Value} {s s':Shared} (x:VRels μ s.heap vs rs) (k:Keeps s s'):VRels μ s'.heap vs rs:=VRels.keeps (kGet k) vs rs x
theorem VRel.i {h:Heap} (i:Int) (t:Tok):VRel μ h (.int i) (.int i t):=by unfold VRel; exact ⟨t,rfl⟩
theorem VRel.f {h:Heap} (i:UInt64) {t:Tok} (ht:1≤t):VRel μ h (.flt i) (.float i t):=by unfold VRel; exact ⟨t,Nat.ne_of_gt ht,rfl⟩
theorem VRel.t {h:Heap} (i:Str) (t:Tok):VRel μ h (.str i) (.str i t):=by unfold VRel; exact ⟨t,rfl⟩
theorem VRel.b {h:Heap} (b:Bool):VRel μ h (.bool b) (.bool b):=by unfold VRel; rfl
theorem list_push {vs:List V} {rs:List Value} (x:VRels μ s.heap vs rs) :
    VRel μ (s.heap.push { cls:=.type "list",data:=.seq rs.toArray }) (.list vs) (.ref s.heap.objs.size):=by
  unfold VRel
  exact ⟨_,rs,rfl,⟨_,Heap.get?_push_size _ rfl⟩,VRels.keeps (fun _ _ e=>Heap.get?_push_of_some _ e) _ _ x⟩
theorem tup_push {vs:List V} {rs:List Value} (x:VRels μ s.heap vs rs) :
    VRel μ (s.heap.push { cls:=.type "tuple",data:=.seq rs.toArray }) (.tup vs) (.ref s.heap.objs.size):=by
  unfold VRel
  exact ⟨_,rs,rfl,⟨_,Heap.get?_push_size _ rfl,rfl,_,rfl⟩,VRels.keeps (fun _ _ e=>Heap.get?_push_of_some _ e) _ _ x⟩
theorem add_listV {vs ws:List V} {ra rb:Value} (xa:VRel μ s.heap (.list vs) ra) (xb:VRel μ s.heap (.list ws) rb) (hsz:vs.length+ws.length≤sizeLine) :
    wpAny (model prog w) A (binaryOp .Add ra rb) (fun r s'=>VRel μ s'.heap (.list (vs++ws)) r∧Keeps s s') E s:=by
  unfold VRel at xa xb
  obtain ⟨l,ra,hy50_1⟩:=xa
  have hx50_0:=hy50_1.1
  have hx50_1:=hy50_1.2.1
  have ya:=hy50_1.2.2
  clear hy50_1
  subst hx50_0
  obtain ⟨n,ho⟩:=hx50_1
  obtain ⟨b,rb,hy51_1⟩:=xb
  have hx51_0:=hy51_1.1
  have hx51_1:=hy51_1.2.1
  have yb:=hy51_1.2.2
  clear hy51_1
  subst hx51_0
  obtain ⟨n2,ho2⟩:=hx51_1
  have e:ra.toArray++rb.toArray=(ra++rb).toArray:=by simp
  refine concat_meets ⟨_,ho,rfl⟩ ⟨_,ho2,rfl⟩ noFill_list_add seq_list_add PySem.F.slot_list_add PySem.F.entry_list_add (PySem.F.args_list_add_2 _ _) (list_addW l b ra.toArray rb.toArray n n2 none none #[] #[] (by simpa [ya.length,yb.length] using hsz)) ⟨ho,ho2,?_⟩
  rw [e]
  exact ⟨list_push (ya.append yb),kPush s _⟩
theorem binII_sound {op:Operator} {a b:Int} {ta tb:Tok} {v:V} (hv:binII op a b=some v) (ht:1≤s.toks) :
    wpAny (model prog w) A (binaryOp op (.int a ta) (.int b tb)) (fun r s'=>VRel μ s'.heap v r∧Keeps s s') E s:=by
  cases op with
  | Add=>cases hv; exact add_int ⟨.i _ _,kTok _ _⟩
  | Sub=>cases hv; exact sub_int ⟨.i _ _,kTok _ _⟩
  | Mult =>
    have hz63:=ite_some hv
    have hs:=hz63.1
    have hx63_0:=hz63.2
    clear hz63
    subst hx63_0
    exact mul_int ⟨.i _ _,kTok _ _⟩ (.of_left (intBits_small hs))
  | FloorDiv =>
    have hz66:=ite_some hv
    have hb:=hz66.1
    have hx66_0:=hz66.2
    clear hz66
    subst hx66_0
    exact floordiv_int hb.1 ⟨.i _ _,kTok _ _⟩ (.inl (PyProof.noPylong_small hb.2.2))
  | Mod =>
    have hz69:=ite_some hv
    have hb:=hz69.1
    have hx69_0:=hz69.2
    clear hz69
    subst hx69_0
    exact AutoIntOps.mod_1 (by simpa using hb) ⟨.i _ _,kTok _ _⟩
  | Pow =>
    have hz72:=ite_some hv
    have hb:=hz72.1
    have hx72_0:=hz72.2
    clear hz72
    subst hx72_0
    refine pow_int hb.1 ?_ ⟨.i _ _,kTok _ _⟩
    exact Int.le_trans (Int.mul_le_mul (Int.ofNat_le.mpr (intBits_small hb.2.2)) (Int.le_of_lt hb.2.1) hb.1 (by decide)) (by decide)
  | BitAnd=>cases hv; exact and_int ⟨.i _ _,kTok _ _⟩
  | Div =>
    have hz77:=ite_none hv
    have hb:=hz77.1
    have hx77_0:=hz77.2
    clear hz77
    subst hx77_0
    exact AutoIntOps.truediv_2 (by simpa using fun h=>hb (.inl h)) (fun h=>hb (.inr h)) ⟨.f _ ht,kTok _ _⟩
  | _=>exact noneE hv
theorem binFF_sound {op:Operator} {a b:UInt64} {ta tb:Tok} {v:V} (hv:binFF op a b=some v) (ht:1≤s.toks) :
    wpAny (model prog w) A (binaryOp op (.float a ta) (.float b tb)) (fun r s'=>VRel μ s'.heap v r∧Keeps s s') E s:=by
  cases op with
  | Add=>cases hv; exact add_float ⟨.f _ ht,kTok _ _⟩
  | Sub=>cases hv; exact sub_float ⟨.f _ ht,kTok _ _⟩
  | Mod =>
    have hz86:=ite_none hv
    have hb:=hz86.1
    have hx86_0:=hz86.2
    clear hz86
    subst hx86_0
    exact AutoFloatOps.mod_1 hb ⟨.f _ ht,kTok _ _⟩
  | Div =>
    have hz89:=ite_none hv
    have hb:=hz89.1
    have hx89_0:=hz89.2
    clear hz89
    subst hx89_0
    exact AutoFloatOps.truediv_1 hb ⟨.f _ ht,kTok _ _⟩
  | _=>exact noneE hv
theorem binV_sound {op:Operator} {a b v:V} {ra rb:Value} (hv:binV op a b=some v) (xa:VRel μ s.heap a ra) (xb:VRel μ s.heap b rb) (ht:1≤s.toks) :
    wpAny (model prog w) A (binaryOp op ra rb) (fun r s'=>VRel μ s'.heap v r∧Keeps s s') E s:=by
  cases a with
  | int a =>
    unfold VRel at xa
    obtain ⟨ta,rfl⟩:=xa
    cases b with
    | int b =>
      unfold VRel at xb
      obtain ⟨tb,rfl⟩:=xb
      unfold binV at hv
      exact binII_sound hv ht
    | flt b =>
      unfold VRel at xb
      obtain ⟨tb,hy106_1⟩:=xb
      have hx106_0:=hy106_1.2
      clear hy106_1
      subst hx106_0
      cases op with
      | Mult =>
        have hz109:=ite_some hv
        have hs:=hz109.1
        have hx109_0:=hz109.2
        clear hz109
        subst hx109_0
        exact mul_if_fits (Nat.lt_trans (Nat.le_of_ble_eq_true hs:_ < 2 ^ 62) (by decide)) ⟨.f _ ht,kTok _ _⟩
      | _=>exact noneE hv
    | _=>exact noneE hv
  | str a =>
    cases b with
    | str b =>
      unfold VRel at xa xb
      obtain ⟨ta,rfl⟩:=xa
      obtain ⟨tb,rfl⟩:=xb
      cases op with
      | Add =>
        have hz121:=ite_some hv
        have hs:=hz121.1
        have hx121_0:=hz121.2
        clear hz121
        subst hx121_0
        exact add_str (fun t' tk=>⟨.t _ _,kTok _ _⟩) (shortL_le hs)
      | _=>exact noneE hv
    | _=>exact noneE hv
  | list a =>
    cases b with
    | list b =>
      cases op with
      | Add =>
        have hz130:=ite_some hv
        have hs:=hz130.1
        have hx130_0:=hz130.2
        clear hz130
        subst hx130_0
        exact add_listV xa xb (shortL_le hs)
      | _=>exact noneE hv
    | _=>exact noneE hv
  | flt a =>
    cases b with
    | flt b =>
      unfold VRel at xa xb
      obtain ⟨ta,hy138_1⟩:=xa
      have hx138_0:=hy138_1.2
      clear hy138_1
      subst hx138_0
      obtain ⟨tb,hy139_1⟩:=xb
      have hx139_0:=hy139_1.2
      clear hy139_1
      subst hx139_0
      unfold binV at hv
      exact binFF_sound hv ht
    | _=>exact noneE hv
  | _=>exact noneE hv
end
section
open PySem.Spec
set_option tactic.hygienic true
section
variable {prog:Program} {w:World} {A:Around} {E:Value→Shared→Prop} {s:Shared} {μ:Addr}
theorem any_contains {α:Type} [BEq α] [LawfulBEq α] (a:α):∀ l:List α,(l.any (· == a))=l.contains a
  | []=>rfl
  | b :: r=>by rw [List.any_cons,List.contains_cons,any_contains a r,BEq.comm]
theorem ints_are:∀ {vs:List V} {is:List Int} {rs:List Value},intsOf vs=some is→VRels μ s.heap vs rs→IntsAre rs is
  | [],_,_,h,x=>by unfold VRels at x; subst x; cases h; exact .nil
  | v :: vs,is,_,h,x=>by
    unfold VRels at x
    obtain ⟨r,rt,hy16_1⟩:=x
    have hx16_0:=hy16_1.1
    have y:=hy16_1.2.1
    have z:=hy16_1.2.2
    clear hy16_1
    subst hx16_0
    cases v <;> (try (cases h; done))
    rename_i i
    unfold VRel at y
    obtain ⟨t,rfl⟩:=y
    simp only [intsOf,Option.map_eq_some_iff] at h
    obtain ⟨js,hy22_1⟩:=h
    have h1:=hy22_1.1
    have hx22_0:=hy22_1.2
    clear hy22_1
    subst hx22_0
    exact .cons i t (ints_are h1 z)
theorem strs_are:∀ {vs:List V} {is:List Str} {rs:List Value},strsOf vs=some is→VRels μ s.heap vs rs→StrsAre rs is
  | [],_,_,h,x=>by unfold VRels at x; subst x; cases h; exact .nil
  | v :: vs,is,_,h,x=>by
    unfold VRels at x
    obtain ⟨r,rt,hy28_1⟩:=x
    have hx28_0:=hy28_1.1
    have y:=hy28_1.2.1
    have z:=hy28_1.2.2
    clear hy28_1
    subst hx28_0
    cases v <;> (try (cases h; done))
    rename_i i
    unfold VRel at y
    obtain ⟨t,rfl⟩:=y
    simp only [strsOf,Option.map_eq_some_iff] at h
    obtain ⟨js,hy34_1⟩:=h
    have h1:=hy34_1.1
    have hx34_0:=hy34_1.2
    clear hy34_1
    subst hx34_0
    exact .cons i t (strs_are h1 z)
theorem strs_carried:∀ {vs:List Value} {ns:List Str},StrsAre vs ns→CarriedAll vs (ns.map PyData.str)
  | _,_,.nil=>.nil
  | _,_,.cons _ t r=>.cons (.str _ t) (strs_carried r)
theorem canLayS:∀ ns:List Str,ns.all PyData.strOk=true→PyData.canLayAll0 (ns.map PyData.str)=true
  | [],_=>rfl
  | _ :: r,h=>by
    simp only [List.all_cons,Bool.and_eq_true] at h
    simp [PyData.canLayAll0,PyData.canLay0,canLayS r h.2,h.1]
theorem depthS:∀ ns:List Str,PyData.depthAll (ns.map PyData.str)=0
  | []=>rfl
  | _ :: r=>by simp [PyData.depthAll,PyData.depth,depthS r]
theorem shapedS (ns:List Str) (h:ns.all PyData.strOk=true):SeqAt.shaped (.list (ns.map PyData.str))=true:=by
  simp [SeqAt.shaped,PyData.canLay0,PyData.depth,canLayS ns h,depthS]
theorem sameAllS:∀ ns ms:List Str,PySem.Spec.sameAll (ns.map PyData.str) (ms.map PyData.str)=decide (ns=ms)
  | [],[]=>by simp [PySem.Spec.sameAll]
  | [],_ :: _=>by simp [PySem.Spec.sameAll]
  | _ :: _,[]=>by simp [PySem.Spec.sameAll]
  | a :: r,b :: t=>by
    simp only [List.map_cons,PySem.Spec.sameAll,PySem.Spec.same,sameAllS r t]
    by_cases h:a=b <;> by_cases h':r=t <;> simp [h,h']
theorem sameS (ns ms:List Str):PySem.Spec.same (.list (ns.map PyData.str)) (.list (ms.map PyData.str))=decide (ns=ms):=by
  simp only [PySem.Spec.same]; exact sameAllS ns ms
section
variable {a b:Addr} {xs ys:List Value} {ns ms:List Str} {Q:Value→Shared→Prop}
theorem eq_strs (ha:s.heap.IsList a xs.toArray) (hb:s.heap.IsList b ys.toArray) (hi:StrsAre xs ns) (hj:StrsAre ys ms) (hu:A.units+64 < cLine) (hn:ns.all PyData.strOk=true) (hm:ms.all PyData.strOk=true) (h:Q (.bool (decide (ns=ms))) s) :
    wpAny (model prog w) A (compareOp .Eq (.ref a) (.ref b)) Q E s :=
  eq_dataH_same (reads_newData ha (strs_carried hi)) (reads_newData hb (strs_carried hj)) (shapedS _ hn) (shapedS _ hm) hu (SeqAt.noMix_of_shape (.list .str) rfl _ _ (list_map_has fun _=>rfl) (list_map_has fun _=>rfl)) (by rw [sameS]; exact h)
theorem ne_strs (ha:s.heap.IsList a xs.toArray) (hb:s.heap.IsList b ys.toArray) (hi:StrsAre xs ns) (hj:StrsAre ys ms) (hu:A.units+64 < cLine) (hn:ns.all PyData.strOk=true) (hm:ms.all PyData.strOk=true) (h:Q (.bool (!decide (ns=ms))) s) :
    wpAny (model prog w) A (compareOp .NotEq (.ref a) (.ref b)) Q E s :=
  ne_dataH_same (reads_newData ha (strs_carried hi)) (reads_newData hb (strs_carried hj)) (shapedS _ hn) (shapedS _ hm) hu (SeqAt.noMix_of_shape (.list .str) rfl _ _ (list_map_has fun _=>rfl) (list_map_has fun _=>rfl)) (by rw [sameS]; exact h)
end
theorem eqL_sound {a b:List V} {v:Bool} {ra rb:Value} (hv:eqL a b=some v) (xa:VRel μ s.heap (.list a) ra) (xb:VRel μ s.heap (.list b) rb) (hu:A.units+64 < cLine) :
    wpAny (model prog w) A (compareOp .Eq ra rb) (fun r s'=>r=.bool v∧s'=s) E s:=by
  unfold VRel at xa xb
  obtain ⟨l,ra,hy71_1⟩:=xa
  have hx71_0:=hy71_1.1
  have hx71_1:=hy71_1.2.1
  have ya:=hy71_1.2.2
  clear hy71_1
  subst hx71_0
  obtain ⟨n,ho⟩:=hx71_1
  obtain ⟨b,rb,hy72_1⟩:=xb
  have hx72_0:=hy72_1.1
  have hx72_1:=hy72_1.2.1
  have yb:=hy72_1.2.2
  clear hy72_1
  subst hx72_0
  obtain ⟨n2,ho2⟩:=hx72_1
  unfold eqL at hv
  split at hv
  · rename_i h1 h2
    have hz76:=ite_some hv
    have hs:=hz76.1
    have hx76_0:=hz76.2
    clear hz76
    subst hx76_0
    have hs:=Bool.and_eq_true_iff.mp hs
    exact eq_strs ⟨_,ho,rfl,n,rfl⟩ ⟨_,ho2,rfl,n2,rfl⟩ (strs_are h1 ya) (strs_are h2 yb) hu hs.1 hs.2 ⟨rfl,rfl⟩
  · split at hv
    · rename_i h1 h2
      cases hv
      exact ke_eq_ints ⟨_,ho,rfl,n,rfl⟩ ⟨_,ho2,rfl,n2,rfl⟩ (ints_are h1 ya) (ints_are h2 yb) hu ⟨rfl,rfl⟩
    · exact noneE hv
theorem eqV_sound {a b:V} {v:Bool} {ra rb:Value} (hv:eqV a b=some v) (xa:VRel μ s.heap a ra) (xb:VRel μ s.heap b rb) (hu:A.units+64 < cLine) :
    wpAny (model prog w) A (compareOp .Eq ra rb) (fun r s'=>r=.bool v∧s'=s) E s:=by
  cases a with
  | int a =>
    cases b with
    | int b =>
      unfold VRel at xa xb
      obtain ⟨ta,rfl⟩:=xa
      obtain ⟨tb,rfl⟩:=xb
      cases hv; exact eq_int ⟨rfl,rfl⟩
    | _=>exact noneE hv
  | str a =>
    cases b with
    | str b =>
      unfold VRel at xa xb
      obtain ⟨ta,rfl⟩:=xa
      obtain ⟨tb,rfl⟩:=xb
      cases hv; exact eq_str ⟨rfl,rfl⟩
    | _=>exact noneE hv
  | flt a =>
    unfold VRel at xa
    obtain ⟨ta,hy105_1⟩:=xa
    have hx105_0:=hy105_1.2
    clear hy105_1
    subst hx105_0
    cases b with
    | flt b =>
      unfold VRel at xb
      obtain ⟨tb,hy109_1⟩:=xb
      have hx109_0:=hy109_1.2
      clear hy109_1
      subst hx109_0
      cases hv; exact AutoFloatOps.eq_0 ⟨rfl,rfl⟩
    | int b =>
      unfold VRel at xb
      obtain ⟨tb,rfl⟩:=xb
      cases hv; exact eq_fi ⟨rfl,rfl⟩
    | _=>exact noneE hv
  | list a =>
    cases b with
    | list b=>exact eqL_sound hv xa xb hu
    | _=>exact noneE hv
  | _=>exact noneE hv
theorem neL_sound {a b:List V} {v:Bool} {ra rb:Value} (hv:eqL a b=some v) (xa:VRel μ s.heap (.list a) ra) (xb:VRel μ s.heap (.list b) rb) (hu:A.units+64 < cLine) :
    wpAny (model prog w) A (compareOp .NotEq ra rb) (fun r s'=>r=.bool (!v)∧s'=s) E s:=by
  unfold VRel at xa xb
  obtain ⟨l,ra,hy124_1⟩:=xa
  have hx124_0:=hy124_1.1
  have hx124_1:=hy124_1.2.1
  have ya:=hy124_1.2.2
  clear hy124_1
  subst hx124_0
  obtain ⟨n,ho⟩:=hx124_1
  obtain ⟨b,rb,hy125_1⟩:=xb
  have hx125_0:=hy125_1.1
  have hx125_1:=hy125_1.2.1
  have yb:=hy125_1.2.2
  clear hy125_1
  subst hx125_0
  obtain ⟨n2,ho2⟩:=hx125_1
  unfold eqL at hv
  split at hv
  · rename_i h1 h2
    have hz129:=ite_some hv
    have hs:=hz129.1
    have hx129_0:=hz129.2
    clear hz129
    subst hx129_0
    have hs:=Bool.and_eq_true_iff.mp hs
    exact ne_strs ⟨_,ho,rfl,n,rfl⟩ ⟨_,ho2,rfl,n2,rfl⟩ (strs_are h1 ya) (strs_are h2 yb) hu hs.1 hs.2 ⟨rfl,rfl⟩
  · split at hv
    · rename_i h1 h2
      cases hv
      exact ke_ne_ints ⟨_,ho,rfl,n,rfl⟩ ⟨_,ho2,rfl,n2,rfl⟩ (ints_are h1 ya) (ints_are h2 yb) hu ⟨rfl,rfl⟩
    · exact noneE hv
theorem neV_sound {a b:V} {v:Bool} {ra rb:Value} (hv:eqV a b=some v) (xa:VRel μ s.heap a ra) (xb:VRel μ s.heap b rb) (hu:A.units+64 < cLine) :
    wpAny (model prog w) A (compareOp .NotEq ra rb) (fun r s'=>r=.bool (!v)∧s'=s) E s:=by
  cases a with
  | int a =>
    cases b with
    | int b =>
      unfold VRel at xa xb
      obtain ⟨ta,rfl⟩:=xa
      obtain ⟨tb,rfl⟩:=xb
      cases hv; exact ne_int ⟨rfl,rfl⟩
    | _=>exact noneE hv
  | str a =>
    cases b with
    | str b =>
      unfold VRel at xa xb
      obtain ⟨ta,rfl⟩:=xa
      obtain ⟨tb,rfl⟩:=xb
      cases hv; exact ne_str ⟨rfl,rfl⟩
    | _=>exact noneE hv
  | flt a =>
    unfold VRel at xa
    obtain ⟨ta,hy158_1⟩:=xa
    have hx158_0:=hy158_1.2
    clear hy158_1
    subst hx158_0
    cases b with
    | flt b =>
      unfold VRel at xb
      obtain ⟨tb,hy162_1⟩:=xb
      have hx162_0:=hy162_1.2
      clear hy162_1
      subst hx162_0
      cases hv; exact AutoFloatOps.ne_0 ⟨rfl,rfl⟩
    | int b =>
      unfold VRel at xb
      obtain ⟨tb,rfl⟩:=xb
      cases hv; exact ne_fi ⟨rfl,rfl⟩
    | _=>exact noneE hv
  | list a =>
    cases b with
    | list b=>exact neL_sound hv xa xb hu
    | _=>exact noneE hv
  | _=>exact noneE hv
theorem cmpV_sound {op:CmpOp} {a b:V} {v:Bool} {ra rb:Value} (hv:cmpV op a b=some v) (xa:VRel μ s.heap a ra) (xb:VRel μ s.heap b rb) (hu:A.units+64 < cLine) :
    wpAny (model prog w) A (compareOp op ra rb) (fun r s'=>r=.bool v∧s'=s) E s:=by
  cases op with
  | Eq=>exact eqV_sound hv xa xb hu
  | NotEq =>
    obtain ⟨v',hy179_1⟩:=Option.map_eq_some_iff.mp hv
    have h1:=hy179_1.1
    have hx179_0:=hy179_1.2
    clear hy179_1
    subst hx179_0
    exact neV_sound h1 xa xb hu
  | LtE =>
    cases a with
    | flt a =>
      cases b with
      | flt b =>
        unfold VRel at xa xb
        obtain ⟨ta,hy187_1⟩:=xa
        have hx187_0:=hy187_1.2
        clear hy187_1
        subst hx187_0
        obtain ⟨tb,hy188_1⟩:=xb
        have hx188_0:=hy188_1.2
        clear hy188_1
        subst hx188_0
        cases hv
        exact AutoFloatOps.le_0 ⟨rfl,rfl⟩
      | _=>exact noneE hv
    | _=>exact noneE hv
  | In =>
    cases a with
    | str a =>
      cases b with
      | list b =>
        obtain ⟨x,hy198_1⟩:=Option.map_eq_some_iff.mp hv
        have h1:=hy198_1.1
        have hx198_0:=hy198_1.2
        clear hy198_1
        subst hx198_0
        unfold VRel at xa xb
        obtain ⟨ta,rfl⟩:=xa
        obtain ⟨b,rb,hy201_1⟩:=xb
        have hx201_0:=hy201_1.1
        have hx201_1:=hy201_1.2.1
        have yb:=hy201_1.2.2
        clear hy201_1
        subst hx201_0
        obtain ⟨n2,ho2⟩:=hx201_1
        exact in_list_strs ⟨_,ho2,rfl,n2,rfl⟩ (strs_are h1 yb) ⟨congrArg _ (any_contains _ _),rfl⟩
      | _=>exact noneE hv
    | _=>exact noneE hv
  | _=>exact noneE hv
end
end
section
set_option tactic.hygienic true
section
variable {prog:Program} {w:World} {A:Around} {E:Value→Shared→Prop} {s:Shared} {μ:Addr}
structure Iter (prog:Program) (w:World) (A:Around) (μ:Addr) (h₀:Heap) (xs:List V) (lst:Bool) (r it:Value) (s₂:Shared) (I:Addr) (fp:List Addr) (P:Nat→Value→Prop) (St:Nat→Heap→Prop):Prop where
  is:it=.ref I
  walks:Walks prog w A I fp [I] xs.length P St
  start:St 0 s₂.heap
  low:∀ b∈fp,b < s₂.heap.objs.size
  new:h₀.objs.size≤I
  item:∀ i v,P i v→∃ x,xs[i]?=some x∧VRel μ h₀ x v
  short:xs.length < 4096
  kind:(lst=true∨∃ i,V.int i∈xs)→∀ i h,St i h→∃ o,h.get? I=some o∧¬ seqish o
  src:∀ b∈fp,b=I∨r=.ref b
  go:lst=true→∀ (i:Nat) (s:Shared) (target:Expr) (v:Value) (Q:Unit→Shared→Prop) (E:Value→Shared→Prop),St i s.heap→Q () s→wpAny (model prog w) A (letOwnedTupleGo target it v) Q E s
noncomputable def V.isList:V→Bool
  | .list _=>true
  | _=>false
theorem go_list {I l:Addr} {i:Nat} {target:Expr} {v:Value} {Q:Unit→Shared→Prop} (hi:s.heap.IsListIter I l i) (h:Q () s):wpAny (model prog w) A (letOwnedTupleGo target (.ref I) v) Q E s:=by
  obtain ⟨o,hy25_1⟩:=hi
  have ho:=hy25_1.1
  have hc:=hy25_1.2.1
  have hd:=hy25_1.2.2
  clear hy25_1
  unfold letOwnedTupleGo
  split
  all_goals (first
    | exact wpAny_pure h
    | (split
       · rename_i hp
         cases hp
         refine wpAny_bind (wpAny_load ho ?_)
         rw [hc,hd]
         exact wpAny_ite (by rw [if_neg (by simp)]; exact wpAny_pure h)
       · exact wpAny_pure h))
theorem iterV_sound {v:V} {r:Value} {xs:List V} (hv:itemsV v=some xs) (x:VRel μ s.heap v r) (hh:A.handled=none) :
    wpAny (model prog w) A (pyIter r) (fun it s₂=>Keeps s s₂∧∃ I fp P St,Iter prog w A μ s.heap xs v.isList r it s₂ I fp P St) E s:=by
  unfold itemsV at hv
  split at hv
  · rename_i vs
    split at hv
    · rename_i hs
      cases hv
      unfold VRel at x
      obtain ⟨l,rs,hy47_1⟩:=x
      have hx47_0:=hy47_1.1
      have hx47_1:=hy47_1.2.1
      have y:=hy47_1.2.2
      clear hy47_1
      subst hx47_0
      obtain ⟨n,ho⟩:=hx47_1
      have hl:s.heap.IsList l rs.toArray:=⟨_,ho,rfl,n,rfl⟩
      have hlt:l < s.heap.objs.size:=Heap.lt_size ho
      have W:=Walks.list (prog:=prog) (w:=w) hh s.heap.objs.size l (Nat.ne_of_lt hlt) rs.toArray
      rw [show rs.toArray.size=xs.length by rw [List.size_toArray,y.length]] at W
      refine wpAny_pyIter_list hl ?_
      refine ⟨kPush s _,_,_,_,_,rfl,W,?_,?_,Nat.le_refl _,?_,Nat.le_of_ble_eq_true hs,fun _ i h st=>let ⟨⟨o,ho,hc,hd⟩,_⟩:=st; ⟨o,ho,seqish.not_fields hd hc (by decide)⟩,?_,fun _ i s target v Q E st h=>go_list st.1 h⟩
      · exact ⟨⟨_,Heap.get?_push_size _ rfl,rfl,rfl⟩,hl.push _⟩
      · intro b hb
        rw [Heap.size_push]
        simp only [List.mem_cons,List.not_mem_nil,or_false] at hb
        rcases hb with rfl | rfl
        · exact Nat.lt_succ_self _
        · exact Nat.lt_succ_of_lt hlt
      · intro i v hP
        exact y.get' (i:=i) (by simpa using hP)
      · intro b hb
        simp only [List.mem_cons,List.not_mem_nil,or_false] at hb
        rcases hb with rfl | rfl
        · exact .inl rfl
        · exact .inr rfl
    · cases hv
  · rename_i vs
    split at hv
    · rename_i hs
      cases hv
      unfold VRel at x
      obtain ⟨l,rs,hy74_1⟩:=x
      have hx74_0:=hy74_1.1
      have hl:=hy74_1.2.1
      have y:=hy74_1.2.2
      clear hy74_1
      subst hx74_0
      have hlt:l < s.heap.objs.size:=Heap.lt_size hl.choose_spec.1
      have W:=Walks.tuple (prog:=prog) (w:=w) hh s.heap.objs.size l (Nat.ne_of_lt hlt) rs.toArray
      rw [show rs.toArray.size=xs.length by rw [List.size_toArray,y.length]] at W
      refine wpAny_pyIter_tuple hl ?_
      refine ⟨kPush s _,_,_,_,_,rfl,W,?_,?_,Nat.le_refl _,?_,Nat.le_of_ble_eq_true hs,fun _ i h st=>let ⟨⟨o,ho,hc,hd⟩,_⟩:=st; ⟨o,ho,seqish.not_fields hd hc (by decide)⟩,?_,fun q=>nomatch q⟩
      · exact ⟨⟨_,Heap.get?_push_size _ rfl,rfl,rfl⟩,hl.push _⟩
      · intro b hb
        rw [Heap.size_push]
        simp only [List.mem_cons,List.not_mem_nil,or_false] at hb
        rcases hb with rfl | rfl
        · exact Nat.lt_succ_self _
        · exact Nat.lt_succ_of_lt hlt
      · intro i v hP
        exact y.get' (i:=i) (by simpa using hP)
      · intro b hb
        simp only [List.mem_cons,List.not_mem_nil,or_false] at hb
        rcases hb with rfl | rfl
        · exact .inl rfl
        · exact .inr rfl
    · cases hv
  · rename_i a b
    split at hv
    · rename_i hs
      cases hv
      simp only [Bool.and_eq_true] at hs
      have hz100:=hs
      clear hs
      have hx100_0:=hz100.1
      have hs:=hz100.2
      clear hz100
      obtain ⟨ha,hb⟩:=hx100_0
      have ha':a.natAbs < 2 ^ 62:=Nat.le_of_ble_eq_true ha
      have hb':b.natAbs < 2 ^ 62:=Nat.le_of_ble_eq_true hb
      unfold VRel at x
      obtain ⟨l,t,u,v,hy104_1⟩:=x
      have hx104_0:=hy104_1.1
      have hr:=hy104_1.2
      clear hy104_1
      subst hx104_0
      have W:=Walks.range (prog:=prog) (w:=w) hh s.heap.objs.size a 1 (b - a).toNat
      have hsz:Builtin.Range.rangeSize a b 1=((b - a).toNat:Int):=by rw [rangeSize_one]; split <;> omega
      have hlen:((List.range (b - a).toNat).map fun (i:Nat)=>V.int (a+(i:Int))).length=(b - a).toNat:=by simp
      have W':Walks prog w A s.heap.objs.size [s.heap.objs.size] [s.heap.objs.size] ((List.range (b - a).toNat).map fun (i:Nat)=>V.int (a+(i:Int))).length
          (fun i v=>i < (b - a).toNat∧∃ t,v=.int (a+(i:Nat) * 1) t) (fun i h=>IsRangeIter h s.heap.objs.size (a+(i:Nat) * 1) (((b - a).toNat:Int) - (i:Nat)) 1):=by
        rw [hlen]
        exact ⟨W.sub,W.frame,fun i s Q E hi st hQ=>W.item i s Q E hi st fun v h' tk hP=>hQ v h' tk ⟨hi,hP⟩,W.done,W.self⟩
      refine wpAny_pyIter_range hr (small_one (by omega) (by omega) (by omega) (by omega)) ?_
      refine ⟨kPush s _,_,_,_,_,rfl,W',?_,?_,Nat.le_refl _,?_,?_,(fun _ i h st=>⟨_,st,seqish.not_fields rfl rfl (by decide)⟩),(fun b hb=>.inl (by simpa using hb)),fun q=>nomatch q⟩
      · have e1:(a+((0:Nat):Int) * 1)=a:=by simp
        have e2:(((b - a).toNat:Int) - ((0:Nat):Int))=Builtin.Range.rangeSize a b 1:=by rw [hsz]; simp
        show IsRangeIter _ _ (a+((0:Nat):Int) * 1) (((b - a).toNat:Int) - ((0:Nat):Int)) 1
        rw [e1,e2]
        exact Heap.get?_push_size _ rfl
      · intro b hb
        rw [Heap.size_push]
        simp only [List.mem_cons,List.not_mem_nil,or_false] at hb
        subst hb
        exact Nat.lt_succ_self _
      · rintro i v ⟨hi,t,rfl⟩
        refine ⟨_,by simp [hi]; rfl,?_⟩
        rw [Int.mul_one]
        exact VRel.i _ _
      · rw [hlen]; exact Nat.le_of_ble_eq_true hs
    · cases hv
  · rename_i y
    split at hv
    · rename_i hs
      cases hv
      unfold VRel at x
      obtain ⟨t,rfl⟩:=x
      refine wpAny_pyIter_str fun o St W h0=>?_
      have W':=W A hh
      rw [show y.cps.size=(y.cps.toList.map fun c=>V.str ⟨#[c]⟩).length by simp] at W'
      refine ⟨kPush s _,_,_,_,_,rfl,W',h0,?_,Nat.le_refl _,?_,?_,(fun q=>by simp [V.isList] at q),(fun b hb=>.inl (by simpa using hb)),fun q=>nomatch q⟩
      · intro b hb
        rw [Heap.size_push]
        simp only [List.mem_cons,List.not_mem_nil,or_false] at hb
        subst hb
        exact Nat.lt_succ_self _
      · rintro i v ⟨c,u,hc,rfl⟩
        exact ⟨_,by simp [hc],VRel.t _ _⟩
      · have h1:y.length < 4096:=Nat.le_of_ble_eq_true hs
        simp only [List.length_map,Array.length_toList]; exact h1
    · cases hv
  · cases hv
end
end
theorem runs_size {M:Model} {Γ:Ctx} {p:Pos} {t:Sem Fin} {fs:List Frame} {s s':Shared} {e:End} (h:Runs M Γ p t fs s e s'):s.heap.objs.size≤s'.heap.objs.size:=by
  induction h <;> (try simp only [Shared.setGen,Heap.size_push,Heap.size_update] at *) <;> omega
theorem wakes_size {M:Model} {Γ:Ctx} {p:Pos} {g:Nat} {r:Resume} {s s':Shared} {res:GenResult} (h:Wakes M Γ p g r s res s'):s.heap.objs.size≤s'.heap.objs.size:=by
  unfold Wakes at h
  split at h
  · exact h.elim
  · split at h
    · obtain ⟨e₁,s₁,hy14_1⟩:=h
      have hr:=hy14_1.1
      have hx14_0:=hy14_1.2.2.2
      clear hy14_1
      subst hx14_0
      exact (runs_size hr:(s.setGen g .running).heap.objs.size≤s₁.heap.objs.size)
    all_goals (rw [h.2]; exact Nat.le_refl _)
  · obtain ⟨e₁,s₁,hy17_1⟩:=h
    have hr:=hy17_1.1
    have hx17_0:=hy17_1.2.2.2
    clear hy17_1
    subst hx17_0
    exact (runs_size hr:(s.setGen g .running).heap.objs.size≤s₁.heap.objs.size)
  all_goals (rw [h.2]; exact Nat.le_refl _)
theorem wp_size {α:Type} (M:Model) (Γ:Ctx) (n:Nat) (t:Sem α):∀ (Q:α→Pos→Shared→Prop) (E:Value→Pos→Shared→Prop) (p:Pos) (s:Shared),n≤s.heap.objs.size→Sem.wp M Γ t Q E p s →
    Sem.wp M Γ t (fun a p' s'=>n≤s'.heap.objs.size∧Q a p' s') (fun e p' s'=>n≤s'.heap.objs.size∧E e p' s') p s:=by
  induction t with
  | pure a=>intro Q E p s hn h; exact ⟨hn,h⟩
  | raise e=>intro Q E p s hn h; exact ⟨hn,h⟩
  | update a _ f k ih=>intro Q E p s hn h; exact ⟨h.1,ih () Q E p _ (by show n≤(s.heap.update a f).objs.size; rw [Heap.size_update]; exact hn) h.2⟩
  | alloc o k ih=>intro Q E p s hn h; exact ih _ Q E p _ (by show n≤(s.heap.push o).objs.size; rw [Heap.size_push]; exact Nat.le_succ_of_le hn) h
  | load a _ k ih=>intro Q E p s hn h; obtain ⟨o,ho,h⟩:=h; exact ⟨o,ho,ih o Q E p s hn h⟩
  | choose src m k ih=>intro Q E p s hn h; exact ⟨h.1,ih _ Q E p _ hn h.2⟩
  | call c hd _ _ k ih=>intro Q E p s hn h; obtain ⟨r,s',hr,h⟩:=h; exact ⟨r,s',hr,ih r Q E p s' (Nat.le_trans hn (runs_size hr)) h⟩
  | genState g k ih=>intro Q E p s hn h; obtain ⟨st,hs,h⟩:=h; exact ⟨st,hs,ih _ Q E p s hn h⟩
  | resume g r _ k ih=>intro Q E p s hn h; obtain ⟨res,s',hw,h⟩:=h; exact ⟨res,s',hw,ih res Q E p s' (Nat.le_trans hn (wakes_size hw)) h⟩
  | unsupported _=>intro Q E p s _ h; exact h
  | finish _=>intro Q E p s _ h; exact h
  | register _ _=>intro Q E p s _ h; exact h
  | yield _ _ _ _=>intro Q E p s _ h; exact h
  | fork _ _=>intro Q E p s _ h; exact h
  | await _ _ _ _ _=>intro Q E p s _ h; exact h
  | rule _ k ih=>intro Q E p s hn h; exact ih () Q E p s hn h
  | «at» p' k ih=>intro Q E p s hn h; exact ih () Q E p' s hn h
  | loadIfAlive a k ih=>intro Q E p s hn h; exact ih _ Q E p s hn h
  | point _ k ih=>intro Q E p s hn h; exact ih () Q E p s hn h
  | fresh k ih=>intro Q E p s hn h; exact ih _ Q E p _ hn h
  | ask k ih=>intro Q E p s hn h; exact ih _ Q E p s hn h
  | os q _ k ih=>intro Q E p s hn h; exact ih _ Q E p _ hn h
  | handled own k ih=>intro Q E p s hn h; exact ih _ Q E p s hn h
  | newGen c k ih=>intro Q E p s hn h; exact ih _ Q E p _ hn h
  | stack k ih=>intro Q E p s hn h; exact ih _ Q E p s hn h
  | thread k ih=>intro Q E p s hn h; exact ih _ Q E p s hn h
theorem wpAny_grow0 {α:Type} {M:Model} {A:Around} {s:Shared} {t:Sem α} {Q Q':α→Shared→Prop} {E:Value→Shared→Prop} (h:wpAny M A t Q E s)
    (f:∀ a s',s.toks≤s'.toks→s.heap.objs.size≤s'.heap.objs.size→Q a s'→Q' a s'):wpAny M A t Q' E s:=by
  have h2:wpAny M A t (fun a s'=>s.heap.objs.size≤s'.heap.objs.size∧Q a s') E s:=fun Γ p hΓ =>
    Sem.wp_mono M Γ t (fun _ _ _ x=>x) (fun _ _ _ x=>x.2) _ _ (wp_size M Γ _ t _ _ p s (Nat.le_refl _) (h Γ p hΓ))
  exact wpAny_with_toks (Nat.le_refl _) (wpAny_mono h2 (fun a s' x k=>f a s' k x.1 x.2) fun _ _ x _=>x)
theorem wpAny_grow {α:Type} {M:Model} {A:Around} {s:Shared} {t:Sem α} {Q Q':α→Shared→Prop} {E:Value→Shared→Prop} (ht:1≤s.toks) (h:wpAny M A t Q E s)
    (f:∀ a s',1≤s'.toks→s.heap.objs.size≤s'.heap.objs.size→Q a s'→Q' a s'):wpAny M A t Q' E s:=wpAny_grow0 h fun a s' k=>f a s' (Nat.le_trans ht k)
section
set_option tactic.hygienic true
noncomputable def compGoS {G:Type} (p:G→V→Option Bool) (f:G→V→Option (V × G)):G→List V→Option (List V × G)
  | g,[]=>some ([],g)
  | g,v :: r=>match p g v with
    | none=>none
    | some false=>compGoS p f g r
    | some true=>match f g v with
      | none=>none
      | some (y,g')=>match compGoS p f g' r with
        | none=>none
        | some (ys,g'')=>some (y :: ys,g'')
theorem compGoS_snoc {G:Type} {p:G→V→Option Bool} {f:G→V→Option (V × G)}:∀ {xs:List V} {g:G} {x:V} {zs ys:List V} {g':G},
    compGoS p f g (xs++x :: zs)=some (ys,g')→∃ ys₀ g₀,compGoS p f g xs=some (ys₀,g₀) ∧
      ((p g₀ x=some false∧compGoS p f g (xs++[x])=some (ys₀,g₀))∨(p g₀ x=some true∧∃ y g₁,f g₀ x=some (y,g₁)∧compGoS p f g (xs++[x])=some (ys₀++[y],g₁)))
  | [],g,x,zs,ys,g',h=>by
    refine ⟨[],g,rfl,?_⟩
    rw [List.nil_append] at h ⊢
    unfold compGoS at h ⊢
    cases hp:p g x with
    | none=>rw [hp] at h; cases h
    | some b =>
      rw [hp] at h
      cases b with
      | false=>exact .inl ⟨rfl,rfl⟩
      | true =>
        simp only at h ⊢
        cases hf:f g x with
        | none=>rw [hf] at h; cases h
        | some q =>
          obtain ⟨y,g₁⟩:=q
          exact .inr ⟨trivial,y,g₁,rfl,rfl⟩
  | v :: xs,g,x,zs,ys,g',h=>by
    rw [List.cons_append] at h ⊢
    unfold compGoS at h ⊢
    cases hp:p g v with
    | none=>rw [hp] at h; cases h
    | some b =>
      rw [hp] at h
      cases b with
      | false=>exact compGoS_snoc h
      | true =>
        simp only at h ⊢
        cases hf:f g v with
        | none=>rw [hf] at h; cases h
        | some q =>
          obtain ⟨y,g₁⟩:=q
          rw [hf] at h
          simp only at h ⊢
          cases hr:compGoS p f g₁ (xs++x :: zs) with
          | none=>rw [hr] at h; cases h
          | some q =>
            obtain ⟨ys₁,g₂⟩:=q
            obtain ⟨ys₀,g₀,hy60_1⟩:=compGoS_snoc hr
            have e:=hy60_1.1
            have c:=hy60_1.2
            clear hy60_1
            refine ⟨y :: ys₀,g₀,by rw [e],?_⟩
            rcases c with ⟨c1,c2⟩ | ⟨c1,y',g₃,c2,c3⟩
            · exact .inl ⟨c1,by rw [c2]⟩
            · exact .inr ⟨c1,y',g₃,c2,by rw [c3]; rfl⟩
section
variable {prog:Program} {w:World} {A:Around} {E:Value→Shared→Prop} {s:Shared} {μ:Addr}
noncomputable def TE (prog:Program) (w:World) (A:Around) (R:Result→Shared→Prop) (env:Env):Value→Shared→Prop:=notedBy (model prog w) A env fun e s'=>R (.error e) s'
noncomputable def T4 (prog:Program) (w:World) (A:Around) (R:Result→Shared→Prop) (env:Env) (acc:Value) (P:Shared→Prop):Value→Shared→Prop:=fun x s₄=>wpAny (model prog w) A (call (.builtin "list.append") [acc,x]) (fun _ s₅=>P s₅) (TE prog w A R env) s₄
noncomputable def T3 (prog:Program) (w:World) (A:Around) (R:Result→Shared→Prop) (env:Env) (acc:Value) (elt:Expr) (P:Shared→Prop):Bool→Shared→Prop
  | true,s₃=>wpAny (model prog w) A (eval elt env) (T4 prog w A R env acc P) (TE prog w A R env) s₃
  | false,s₃=>P s₃
noncomputable def T2 (prog:Program) (w:World) (A:Around) (R:Result→Shared→Prop) (env:Env) (acc:Value) (elt:Expr) (ifs:List Expr) (P:Shared→Prop):Unit→Shared→Prop:=fun _ s₂=>wpAny (model prog w) A (forIn ifs true fun c r=>if r=true then do let ok ← isTrue c env (eval c env); pure (ForInStep.yield ok) else pure (ForInStep.yield r)) (T3 prog w A R env acc elt P) (TE prog w A R env) s₂
noncomputable def T1 (prog:Program) (w:World) (A:Around) (R:Result→Shared→Prop) (env:Env) (acc:Value) (elt target:Expr) (ifs:List Expr) (P:Shared→Prop) (v:Value):Unit→Shared→Prop:=fun _ s₁=>wpAny (model prog w) A (assign target env v) (T2 prog w A R env acc elt ifs P) (TE prog w A R env) s₁
noncomputable def T0 (prog:Program) (w:World) (A:Around) (R:Result→Shared→Prop) (env:Env) (it acc:Value) (elt target:Expr) (ifs:List Expr) (P:Shared→Prop):Option Value→Shared→Prop
  | none,s₁=>R (.ok .next) s₁
  | some v,s₁=>wpAny (model prog w) A (letOwnedTupleGo target it v) (T1 prog w A R env acc elt target ifs P v) (TE prog w A R env) s₁
theorem codeAny_compLoop_go {elt target iter:Expr} {ifs:List Expr} {scope:Scope} {pos:Pos} {it acc:Value} {env:Env} {R:Result→Shared→Prop} (I:Nat→Shared→Prop)
    (turn:∀ n s (P:Shared→Prop),(∀ m s',m < n→I m s'→P s')→I n s→wpAny (model prog w) A (pyNext it) (T0 prog w A R env it acc elt target ifs P) (TE prog w A R env) s)
    (n:Nat) (h:I n s) :
    codeAny (model prog w) A (.compLoop (.ListComp elt [⟨target,iter,ifs,0⟩] scope pos) 0 it acc env) R s:=by
  refine codeAny_loop rfl I (fun n s hI=>?_) n h
  show wpAny _ A ((compTurn (.ListComp elt [⟨target,iter,ifs,0⟩] scope pos) 0 it acc env).onRaise (fun x=>do noteFrame x env; theTreesLotGoes x)) _ _ s
  refine wpAny_noted ?_
  rw [compTurn_list]
  refine wpAny_bind (wpAny_standAt (wpAny_bind (wpAny_mono (turn n s (fun s'=>∃ m,m < n∧I m s') (fun m s' h1 h2=>⟨m,h1,h2⟩) hI) (fun r s₁ h₁=>?_) fun _ _ h'=>h')))
  cases r with
  | none=>exact wpAny_pure h₁
  | some v =>
    refine wpAny_bind (wpAny_mono h₁ (fun _ s₁' h₁'=>?_) fun _ _ h'=>h')
    refine wpAny_bind (wpAny_mono h₁' (fun _ s₂ h₂=>wpAny_bind (wpAny_mono h₂ (fun ok s₃ h₃=>?_) fun _ _ h'=>h')) fun _ _ h'=>h')
    cases ok with
    | false=>exact wpAny_pure ⟨rfl,h₃⟩
    | true =>
      exact wpAny_bind (wpAny_bind (wpAny_mono h₃ (fun x s₄ h₄=>wpAny_bind (wpAny_mono h₄ (fun _ s₅ h₅=>wpAny_pure (wpAny_pure ⟨rfl,h₅⟩)) fun _ _ h'=>h')) fun _ _ h'=>h'))
theorem wpAny_mono_toks {α:Type} {M:Model} {t:Sem α} {Q Q':α→Shared→Prop} {s:Shared} {E:Value→Shared→Prop} (hn:1≤s.toks) (h:wpAny M A t Q E s) (f:∀ a s',1≤s'.toks→Q a s'→Q' a s'):wpAny M A t Q' E s :=
  wpAny_with_toks hn (wpAny_mono h (fun a s' x k=>f a s' k x) fun _ _ x _=>x)
theorem ne_low {b c n:Nat} (hb:n≤b) (hc:c < n):b≠c:=by omega
noncomputable def EltOk (μ:Addr) (N:Nat) (h:Heap) (v:V) (y:Value):Prop:=∀ h',(∀ b o,seqish o→N≤b→h.get? b=some o→h'.get? b=some o)→VRel μ h' v y
noncomputable def EltsOk (μ:Addr) (N:Nat) (h:Heap) (vs:List V) (ys:List Value):Prop:=∀ h',(∀ b o,seqish o→N≤b→h.get? b=some o→h'.get? b=some o)→VRels μ h' vs ys
theorem EltsOk.later {N:Nat} {h h':Heap} {vs:List V} {ys:List Value} (x:EltsOk μ N h vs ys) (k:∀ b o,N≤b→h.get? b=some o→h'.get? b=some o):EltsOk μ N h' vs ys :=
  fun h'' k'=>x h'' fun b o hs hb e=>k' b o hs hb (k b o hb e)
noncomputable def CompBody (G:Type) (prog:Program) (w:World) (A:Around) (μ:Addr) (h₀:Heap) (s:Shared) (I D:Addr) (X:Addr→Prop) (J:G→Heap→Prop) (p:G→V→Option Bool) (f:G→V→Option (V × G))
    (target elt:Expr) (ifs:List Expr) (cenv:Env) (xs:List V):Prop :=
  ∀ (g:G) (x:V) (v:Value) (s₂:Shared) (E':Value→Shared→Prop),x∈xs→VRel μ h₀ x v→(∃ h tk,s₂={ s with heap:=h,toks:=tk })→(∀ b o,¬ X b→b≠cenv.locals→b≠I→b≠D→s.heap.get? b=some o→s₂.heap.get? b=some o) →
    J g s₂.heap→(∃ m,s₂.heap.Ns cenv.locals m)→s.heap.objs.size≤s₂.heap.objs.size→1≤s₂.toks →
    wpAny (model prog w) A (assign target cenv v) (fun _ s₃=>(∃ h tk,s₃={ s₂ with heap:=h,toks:=tk }∧Heap.ExtBut cenv.locals s₂.heap h∧∃ m,h.Ns cenv.locals m) ∧
      wpAny (model prog w) A (forIn ifs true fun c r=>if r=true then do let ok ← isTrue c cenv (eval c cenv); pure (ForInStep.yield ok) else pure (ForInStep.yield r))
        (fun ok s₄=>Keeps s₃ s₄∧(∀ b,p g x=some b→ok=b)∧(ok=true→∀ y g',f g x=some (y,g')→wpAny (model prog w) A (eval elt cenv)
          (fun ry s₅=>(∃ h tk,s₅={ s₄ with heap:=h,toks:=tk }∧∀ b o,¬ X b→s₄.heap.get? b=some o→h.get? b=some o)∧J g' s₅.heap∧EltOk μ s.heap.objs.size s₅.heap y ry) E' s₄)) E' s₃) E' s₂
structure CInv {G:Type} (s:Shared) (μ C I D:Addr) (X:Addr→Prop) (J:G→Heap→Prop) (St:Nat→Heap→Prop) (p:G→V→Option Bool) (f:G→V→Option (V × G)) (g₀:G) (xs:List V) (h':Heap) (m':Str→Option Value) (rs:List Value) (i:Nat) (zs:List V) (g:G):Prop where
  st:St i h'
  acc:h'.PlainList D (List.toArray rs)
  ns:h'.Ns C m'
  z:EltsOk μ s.heap.objs.size h' zs rs
  hi:i≤xs.length
  go:compGoS p f g₀ (xs.take i)=some (zs,g)
  j:J g h'
  len:rs.length≤i
  k:∀ b o,¬ X b→b≠C→b≠I→b≠D→s.heap.get? b=some o→h'.get? b=some o
theorem compLoop_my {G:Type} {elt target iter:Expr} {ifs:List Expr} {scope:Scope} {pos:Pos} {cenv:Env} {R:Result→Shared→Prop} {xs:List V} {lst:Bool} {h₀:Heap} {I D:Addr} {fp:List Addr} {P:Nat→Value→Prop} {St:Nat→Heap→Prop}
    {X:Addr→Prop} {J:G→Heap→Prop} {p:G→V→Option Bool} {f:G→V→Option (V × G)} {g₀ g₁:G} {ys:List V}
    (W:Walks prog w A I fp [I] xs.length P St) (item:∀ i v,P i v→∃ x,xs[i]?=some x∧VRel μ h₀ x v) (short:xs.length < 4096)
    (go:(∃ nm q,target=.Name nm q)∨∀ (i:Nat) (s:Shared) (v:Value) (Q:Unit→Shared→Prop) (E:Value→Shared→Prop),St i s.heap→Q () s→wpAny (model prog w) A (letOwnedTupleGo target (.ref I) v) Q E s)
    (hgo:compGoS p f g₀ xs=some (ys,g₁))
    (hDC:D≠cenv.locals) (hDf:D ∉ fp) (hCf:cenv.locals ∉ fp) (hIX:¬ X I) (hDX:¬ X D) (hCX:¬ X cenv.locals) (hfX:∀ b∈fp,¬ X b) (hD:D < s.heap.objs.size) (hC:cenv.locals < s.heap.objs.size) (hC':s.heap.objs.size≤cenv.locals+1) (hI:I < s.heap.objs.size) (hX:∀ b,X b→b < s.heap.objs.size)
    (ht:1≤s.toks) (hst:St 0 s.heap) (hacc:s.heap.PlainList D #[]) (hn:∃ m,s.heap.Ns cenv.locals m) (hJ:J g₀ s.heap)
    (stable:∀ g h h',J g h→(∀ b o,b≠cenv.locals→b≠I→b≠D→h.get? b=some o→h'.get? b=some o)→((lst=true∨∃ i,V.int i∈xs)→∀ b o,codish o→h.get? b=some o→h'.get? b=some o)→J g h')
    (kindI:(lst=true∨∃ i,V.int i∈xs)→∀ i h,St i h→∃ o,h.get? I=some o∧¬ seqish o)
    (body:CompBody G prog w A μ h₀ s I D X J p f target elt ifs cenv xs)
    (hR:∀ h' tk m rs,1≤tk→h'.Ns cenv.locals m→h'.PlainList D (List.toArray rs)→EltsOk μ s.heap.objs.size h' ys rs→J g₁ h'→(∀ b o,¬ X b→b≠cenv.locals→b≠I→b≠D→s.heap.get? b=some o→h'.get? b=some o)→R (.ok .next) { s with heap:=h',toks:=tk }) :
    codeAny (model prog w) A (.compLoop (.ListComp elt [⟨target,iter,ifs,0⟩] scope pos) 0 (.ref I) (.ref D) cenv) R s:=by
  have hIf:I∈fp:=W.sub I (by simp)
  have hIC:I≠cenv.locals:=fun e=>hCf (e ▸ hIf)
  have hID:I≠D:=fun e=>hDf (e ▸ hIf)
  have notI:∀ b,b≠I→b ∉ [I]:=fun b hb hm=>hb (by simpa using hm)
  refine codeAny_compLoop_go
    (fun k s'=>∃ h' tk m' rs i zs g,s'={ s with heap:=h',toks:=tk }∧1≤tk∧k=xs.length+1 - i∧CInv s μ cenv.locals I D X J St p f g₀ xs h' m' rs i zs g) ?_ (xs.length+1) ?_
  · rintro k s' Pn hPn ⟨H,tk,m',rs,i,zs,g,rfl,htk,rfl,V⟩
    have hst':=V.st
    have hacc':=V.acc
    have hn':=V.ns
    have hz:=V.z
    have hi:=V.hi
    have hgi:=V.go
    have hJ':=V.j
    have hrs:=V.len
    have hk:=V.k
    clear V
    by_cases hlt:i < xs.length
    · refine wpAny_with_toks (n:=1) htk (W.item i _ _ _ hlt hst' fun v h₁ tk₁ hP hst₁ hk₁ htk₁=>?_)
      obtain ⟨x,hy170_1⟩:=item i v hP
      have hx:=hy170_1.1
      have hxv:=hy170_1.2
      clear hy170_1
      have hxm:x∈xs:=List.mem_of_getElem? hx
      have J₁:J g h₁:=stable g H h₁ hJ' (fun b o h1 h2 h3 e=>hk₁ b o (notI b h2) e) fun hkd b o hc e=>hk₁ b o (notI b fun q=>by obtain ⟨o',e',n⟩:=kindI hkd _ _ hst'; rw [q,e'] at e; cases e; exact n hc.seq) e
      have n₁:h₁.Ns cenv.locals m':=hn'.at' fun o e=>hk₁ _ o (notI _ (Ne.symm hIC)) e
      have hsz₁:s.heap.objs.size≤h₁.objs.size:=Nat.le_trans hC' n₁.lt
      have acc₁:h₁.PlainList D (List.toArray rs):=hacc'.at fun o e=>hk₁ _ o (notI _ (Ne.symm hID)) e
      have z₁:EltsOk μ s.heap.objs.size h₁ zs rs:=hz.later fun b o hb e=>hk₁ b o (notI b (ne_low hb hI)) e
      have k₁:∀ b o,¬ X b→b≠cenv.locals→b≠I→b≠D→s.heap.get? b=some o→h₁.get? b=some o:=fun b o h0 h1 h2 h3 e=>hk₁ b o (notI b h2) (hk b o h0 h1 h2 h3 e)
      have hsplit:xs=xs.take i++x :: xs.drop (i+1):=by
        obtain ⟨hl,he⟩:=List.getElem?_eq_some_iff.mp hx
        rw [← he,← List.drop_eq_getElem_cons hl,List.take_append_drop]
      have htake:xs.take (i+1)=xs.take i++[x]:=by rw [List.take_add_one,hx]; rfl
      rw [hsplit] at hgo
      obtain ⟨ys₀,g',hy184_1⟩:=compGoS_snoc hgo
      have e0:=hy184_1.1
      have c:=hy184_1.2
      clear hy184_1
      rw [hgi] at e0
      cases e0
      have q:wpAny (model prog w) A (letOwnedTupleGo target (.ref I) v) (fun _ s₁'=>s₁'={ s with heap:=h₁,toks:=tk₁ }) (TE prog w A R cenv) { s with heap:=h₁,toks:=tk₁ }:=by
        rcases go with ⟨nm',q,rfl⟩ | go
        · exact wpAny_pure rfl
        · exact go (i+1) _ v _ _ hst₁ rfl
      refine wpAny_mono q (fun _ s₁' e=>?_) fun _ _ y=>y
      subst e
      · refine wpAny_mono_toks htk₁ (body g x v _ _ hxm hxv ⟨_,_,rfl⟩ k₁ J₁ ⟨_,n₁⟩ hsz₁ htk₁) (fun _ s₃ htk₃ h₃=>?_)
        have hz194:=h₃
        clear h₃
        have hx194_0:=hz194.1
        have h₃':=hz194.2
        clear hz194
        obtain ⟨h₃,tk₃,rfl,hs₃,m₃,n₃⟩:=hx194_0
        refine wpAny_mono_toks htk₃ h₃' (fun ok s₄ htk₄ h₄=>?_)
        have hz196:=h₄
        clear h₄
        have hx196_0:=hz196.1
        have hok:=hz196.2.1
        have helt:=hz196.2.2
        clear hz196
        obtain ⟨h₄,tk₄,rfl,k₄⟩:=hx196_0
        have st₄:St (i+1) h₄:=W.frame _ _ _ hst₁ fun b hb o e=>k₄ b o (hs₃ b o (fun q=>hCf (q ▸ hb)) e)
        have acc₄:h₄.PlainList D (List.toArray rs):=acc₁.at fun o e=>k₄ D o (hs₃ D o hDC e)
        have z₄:EltsOk μ s.heap.objs.size h₄ zs rs:=z₁.later fun b o hb e=>k₄ b o (hs₃ b o (ne_low hb hC) e)
        have J₄:J g h₄:=stable g h₁ h₄ J₁ (fun b o h1 h2 h3 e=>k₄ b o (hs₃ b o h1 e)) fun _ b o hc e=>k₄ b o (hs₃ b o (fun q=>by obtain ⟨o',es,ep,e',d,_⟩:=n₁; rw [q,e'] at e; cases e; exact seqish.not_dict d hc.seq) e)
        have kk₄:∀ b o,¬ X b→b≠cenv.locals→b≠I→b≠D→s.heap.get? b=some o→h₄.get? b=some o:=fun b o h0 h1 h2 h3 e=>k₄ b o (hs₃ b o h1 (k₁ b o h0 h1 h2 h3 e))
        rcases c with ⟨c1,c2⟩ | ⟨c1,y,g₂,c2,c3⟩
        · obtain rfl:=hok false c1
          exact hPn (xs.length+1 - (i+1)) _ (by omega) ⟨h₄,tk₄,m₃,rs,i+1,zs,g,rfl,htk₄,rfl,⟨st₄,acc₄,n₃.keeps k₄,z₄,hlt,by rw [htake]; exact c2,J₄,Nat.le_succ_of_le hrs,kk₄⟩⟩
        · obtain rfl:=hok true c1
          show wpAny _ _ (eval elt cenv) _ _ _
          refine wpAny_mono_toks htk₄ (helt rfl y g₂ c2) (fun ry s₅ htk₅ h₅=>?_)
          have hz209:=h₅
          clear h₅
          have hx209_0:=hz209.1
          have J₅:=hz209.2.1
          have y₅:=hz209.2.2
          clear hz209
          obtain ⟨h₅,tk₅,rfl,k₅⟩:=hx209_0
          have acc₅:h₅.PlainList D (List.toArray rs):=acc₄.at fun o e=>k₅ D o hDX e
          refine wpAny_list_append_plain (hsz:=by rw [List.size_toArray,sizeLine_eq]; omega) acc₅ fun h₆ hl₆ hs₆=>?_
          · refine hPn (xs.length+1 - (i+1)) _ (by omega) ⟨h₆,tk₅,m₃,rs++[ry],i+1,zs++[y],g₂,rfl,htk₅,rfl,⟨?_,by simpa using hl₆,?_,?_,hlt,by rw [htake]; exact c3,?_,by rw [List.length_append]; exact Nat.succ_le_succ hrs,?_⟩⟩
            · exact W.frame _ _ _ st₄ fun b hb o e=>hs₆.extBut b o (fun q=>hDf (q ▸ hb)) (k₅ b o (hfX b hb) e)
            · exact ((n₃.keeps k₄).at' fun o e=>k₅ _ o hCX e).sameBut hs₆ (Ne.symm hDC)
            · intro h'' k''
              have a1:=z₄ h'' fun b o hs hb e=>k'' b o hs hb (hs₆.extBut b o (ne_low hb hD) (k₅ b o (fun q=>ne_low hb (hX b q) rfl) e))
              have a2:=y₅ h'' fun b o hs hb e=>k'' b o hs hb (hs₆.extBut b o (ne_low hb hD) e)
              exact a1.append (.cons a2 .nil)
            · exact stable g₂ h₅ h₆ J₅ (fun b o h1 h2 h3 e=>hs₆.extBut b o h3 e) fun _ b o hc e=>hs₆.extBut b o (fun q=>by obtain ⟨n,e'⟩:=acc₅; rw [q,e'] at e; cases e; obtain ⟨_,_,_,e,_⟩:=hc; cases e) e
            · exact fun b o h0 h1 h2 h3 e=>hs₆.extBut b o h3 (k₅ b o h0 (kk₄ b o h0 h1 h2 h3 e))
    · have hin:i=xs.length:=by omega
      subst hin
      rw [List.take_length] at hgi
      rw [hgo] at hgi
      cases hgi
      refine wpAny_with_toks (n:=1) htk (W.done _ _ _ hst' fun h₁ tk₁ hk₁ htk₁=>?_)
      exact hR h₁ tk₁ m' rs htk₁ (hn'.at' fun o e=>hk₁ _ o (notI _ (Ne.symm hIC)) e) (hacc'.at fun o e=>hk₁ _ o (notI _ (Ne.symm hID)) e) (hz.later fun b o hb e=>hk₁ b o (notI b (ne_low hb hI)) e)
        (stable _ H h₁ hJ' (fun b o h1 h2 h3 e=>hk₁ b o (notI b h2) e) fun hkd b o hc e=>hk₁ b o (notI b fun q=>by obtain ⟨o',e',n⟩:=kindI hkd _ _ hst'; rw [q,e'] at e; cases e; exact n hc.seq) e) fun b o h0 h1 h2 h3 e=>hk₁ b o (notI b h2) (hk b o h0 h1 h2 h3 e)
  · obtain ⟨m,hn⟩:=hn
    exact ⟨s.heap,s.toks,m,[],0,[],g₀,rfl,ht,rfl,⟨hst,hacc,hn,fun _ _=>.nil,Nat.zero_le _,rfl,hJ,Nat.zero_le _,fun _ _ _ _ _ _ e=>e⟩⟩
end
end
section
variable {prog:Program} {w:World} {A:Around} {E:Value→Shared→Prop} {s:Shared} {μ:Addr} {env:Env}
theorem comp_block_my {G:Type} {elt target iter:Expr} {ifs:List Expr} {scope:Scope} {cl:List (Str × Addr)} {pos:Pos} {xs:List V} {lst:Bool} {h₀:Heap} {r it:Value} {s₂:Shared} {I:Addr} {fp:List Addr} {P:Nat→Value→Prop} {St:Nat→Heap→Prop}
    {X:Addr→Prop} {J:G→Heap→Prop} {p:G→V→Option Bool} {f:G→V→Option (V × G)} {g₀ g₁:G} {ys:List V} {RR:Value→Addr→Result→Shared→Prop}
    (It:Iter prog w A μ h₀ xs lst r it s₂ I fp P St)
    (go:(∃ nm q,target=.Name nm q)∨lst=true)
    (hgo:compGoS p f g₀ xs=some (ys,g₁)) (ht:1≤s₂.toks)
    (hcell:∀ y∈scope.names,y.2≠.cell) (hkind:scope.kind=.function)
    (hX:∀ b,X b→b < s₂.heap.objs.size) (hfX:∀ b∈fp,¬ X b) (hJ:J g₀ s₂.heap)
    (stable:∀ g h h',J g h→(∀ b o,b < s₂.heap.objs.size→b≠I→h.get? b=some o→h'.get? b=some o)→((lst=true∨∃ i,V.int i∈xs)→∀ b o,codish o→h.get? b=some o→h'.get? b=some o)→J g h')
    (body:∀ C D s₃,s₂.heap.objs.size≤C→s₂.heap.objs.size≤D→C < s₃.heap.objs.size→D < s₃.heap.objs.size→Keeps s₂ s₃→CompBody G prog w A μ h₀ s₃ I D X J p f target elt ifs (compEnvC scope cl C env) xs)
    (hRR:∀ D C h' tk m' rs,1≤tk→s₂.heap.objs.size≤D→s₂.heap.objs.size≤C→D≠C→h'.Ns C m'→h'.PlainList D (List.toArray rs)→(∃ N,C < N∧EltsOk μ N h' ys rs)→J g₁ h'→(∀ b o,¬ X b→b≠I→s₂.heap.get? b=some o→h'.get? b=some o) →
      RR (.ref D) C (.ok .next) { s₂ with heap:=h',toks:=tk }) :
    wpAny (model prog w) A (newList []) (fun acc s₃=>wpAny (model prog w) A (newFunctionEnv scope env.globals cl [] env.qual none .none (some env)) (fun cenv s₄ =>
      codeAny (model prog w) A (.compStart (.ListComp elt [⟨target,iter,ifs,0⟩] scope pos) 0 it acc { cenv with scope:=relabel scope env }) (RR acc cenv.locals) s₄) E s₃) E s₂:=by
  obtain ⟨rfl,W,hst,hfp,hnewI,item,short,kind,_,hgoL⟩:=It
  have hIlt:I < s₂.heap.objs.size:=hfp I (W.sub I (by simp))
  refine wpAny_newObj_type (wpAny_newFunctionEnv hcell (by intro y hy; simp at hy) (fun h₁ hns₁ hsb₁=>?_) hkind)
  dsimp only at hns₁ hsb₁ ⊢
  generalize hH2:s₂.heap.push { cls:=.type "list",dict:=none,data:=.seq ([]:List Value).toArray }=H2 at hns₁ hsb₁ ⊢
  have hC:H2.objs.size=s₂.heap.objs.size+1:=by rw [← hH2,Heap.size_push]
  have hDC:s₂.heap.objs.size≠H2.objs.size:=by rw [hC]; exact Nat.ne_of_lt (Nat.lt_succ_self _)
  have hCle:s₂.heap.objs.size≤H2.objs.size:=by rw [hC]; exact Nat.le_succ _
  have below:∀ b,b < s₂.heap.objs.size→b≠H2.objs.size∧b≠s₂.heap.objs.size:=fun b hb=>⟨by rw [hC]; exact Nat.ne_of_lt (Nat.lt_succ_of_lt hb),Nat.ne_of_lt hb⟩
  have hDf:s₂.heap.objs.size ∉ fp:=fun hm=>Nat.lt_irrefl _ (hfp _ hm)
  have hCf:H2.objs.size ∉ fp:=fun hm=>by have:=hfp _ hm; rw [hC] at this; exact Nat.lt_irrefl _ (Nat.lt_of_succ_lt this)
  have old:∀ b o,s₂.heap.get? b=some o→h₁.get? b=some o:=fun b o e=>hsb₁.extBut b o (below b (Heap.lt_size e)).1 (Heap.get?_push_of_some _ (hH2 ▸ Heap.get?_push_of_some _ e))
  have hacc:h₁.PlainList s₂.heap.objs.size #[]:=⟨_,hsb₁.extBut _ _ hDC (Heap.get?_push_of_some _ (hH2 ▸ Heap.get?_push_size _ rfl))⟩
  have hst₁:St 0 h₁:=W.frame _ _ _ hst fun b _ o e=>old b o e
  have hsz₁:h₁.objs.size=H2.objs.size+1:=by rw [hsb₁.1,Heap.size_push]
  have hup:s₂.heap.objs.size≤h₁.objs.size:=by rw [hsz₁,hC]; omega
  have loop:∀ s₃:Shared,s₃={ s₂ with heap:=h₁,toks:=s₂.toks+([]:List (Str × Value)).length } →
      codeAny (model prog w) A (.compLoop (.ListComp elt [⟨target,iter,ifs,0⟩] scope pos) 0 (.ref I) (.ref s₂.heap.objs.size) (compEnvC scope cl H2.objs.size env))
        (RR (.ref s₂.heap.objs.size) H2.objs.size) s₃:=by
    rintro s₃ rfl
    refine compLoop_my (lst:=lst) (cenv:=compEnvC scope cl H2.objs.size env) (X:=X) (J:=J) (g₀:=g₀) (g₁:=g₁) (ys:=ys) W item short ?_ hgo hDC hDf hCf (fun q=>hfX I (W.sub I (by simp)) q) (fun q=>Nat.lt_irrefl _ (hX _ q)) (fun q=>Nat.lt_irrefl _ (Nat.lt_of_le_of_lt hCle (hX _ q))) hfX
      (by show _ < h₁.objs.size; rw [hsz₁,hC]; omega) (by show _ < h₁.objs.size; rw [hsz₁]; exact Nat.lt_succ_self _) (by show h₁.objs.size≤_; rw [hsz₁]; exact Nat.le_refl _) (Nat.lt_of_lt_of_le hIlt hup) (fun b q=>Nat.lt_of_lt_of_le (hX b q) hup)
      (Nat.le_trans ht (Nat.le_add_right _ _)) hst₁ hacc ⟨_,hns₁⟩ (stable _ _ _ hJ (fun b o _ _ e=>old b o e) fun _ b o _ e=>old b o e) (fun g h h' j k kc=>stable g h h' j (fun b o hb hbI e=>k b o (below b hb).1 hbI (below b hb).2 e) kc) kind
      (body _ _ _ hCle (Nat.le_refl _) (by show _ < h₁.objs.size; rw [hsz₁]; exact Nat.lt_succ_self _) (by show _ < h₁.objs.size; rw [hsz₁,hC]; omega) ⟨h₁,_,rfl,old⟩) ?_
    · rcases go with q | q
      · exact .inl q
      · exact .inr fun i s v Q E st h=>hgoL q i s target v Q E st h
    · intro h' tk m rs ht' hn hl hz hj hk
      exact hRR _ _ h' tk m rs ht' (Nat.le_refl _) hCle hDC hn hl ⟨h₁.objs.size,(by rw [hsz₁]; exact Nat.lt_succ_self _),hz⟩ hj fun b o h0 hbI e=>hk b o h0 (below b (Heap.lt_size e)).1 hbI (below b (Heap.lt_size e)).2 (old b o e)
  exact codeAny_compStart_list (loop _ rfl) (W.self 0 _ _ _ hst₁ (loop _ rfl))
theorem listComp_my {G:Type} {elt target iter:Expr} {ifs:List Expr} {scope:Scope} {cl:List (Str × Addr)} {pos ipos:Pos} {xs:List V} {src:V}
    {X Y:Addr→Prop} {J:G→Heap→Prop} {p:G→V→Option Bool} {f:G→V→Option (V × G)} {g₀ g₁:G} {ys:List V} {Q:Value→Shared→Prop} {use:Option (Value→Sem Unit)}
    (hh:A.handled=none) (ht:1≤s.toks) (hsrc:itemsV src=some xs) (go:(∃ nm q,target=.Name nm q)∨src.isList=true)
    (hgo:compGoS p f g₀ xs=some (ys,g₁)) (hclos:closureFor scope env=pure cl)
    (hcell:∀ y∈scope.names,y.2≠.cell) (hkind:scope.kind=.function) (hnames:∀ y∈scope.names,y.2=.local→scope.names.lookup y.1=some .local)
    (hiter:wpAny (model prog w) A (eval iter env) (fun r s₁=>VRel μ s₁.heap src r∧Keeps s s₁∧∀ a,r=.ref a→¬ X a) E s)
    (hXY:∀ b,X b→Y b) (low:∀ g h,J g h→∀ b,Y b→b < h.objs.size) (hJ:J g₀ s.heap)
    (stable:∀ g h h',J g h→(∀ b o,Y b→h.get? b=some o→h'.get? b=some o)→((src.isList=true∨∃ i,V.int i∈xs)→∀ b o,codish o→h.get? b=some o→h'.get? b=some o)→J g h')
    (body:∀ s₁ C I D s₃,Keeps s s₁→Keeps s₁ s₃→s₁.heap.objs.size≤C→s₁.heap.objs.size≤I→s₁.heap.objs.size≤D→C < s₃.heap.objs.size→D < s₃.heap.objs.size→CompBody G prog w A μ s₁.heap s₃ I D X J p f target elt ifs (compEnvC scope cl C env) xs)
    (hQ:∀ s₁ D C h' tk m' rs,1≤tk→s.heap.objs.size≤s₁.heap.objs.size→Keeps s s₁→s₁.heap.objs.size≤D→s₁.heap.objs.size≤C→D≠C→h'.Ns C m'→h'.PlainList D (List.toArray rs)→(∃ N,C < N∧EltsOk μ N h' ys rs)→J g₁ h'→(∀ b o,¬ X b→s₁.heap.get? b=some o→h'.get? b=some o) →
      compPost (model prog w) A E use Q (.ref D) C (.ok .next) { s₁ with heap:=h',toks:=tk })
    (hs:∀ x,foldedSetIterable iter env x=pure x) :
    wpAny (model prog w) A (comprehension (.ListComp elt [⟨target,iter,ifs,0⟩] scope pos) scope env ipos (newList []) false (eval iter env) use) Q E s:=by
  refine wpAny_comprehension_free (use:=use) rfl hs hclos hkind hnames (wpAny_grow ht hiter (fun xv s₁ ht₁ hz₁ h₁=>?_))
  have hv:=h₁.1
  have k₁:=h₁.2.1
  have hvX:=h₁.2.2
  try clear h₁
  have J₁:J g₀ s₁.heap:=stable _ _ _ hJ (fun b o _ e=>kGet k₁ b o e) fun _ b o _ e=>kGet k₁ b o e
  have l₁:=low _ _ J₁
  refine wpAny_mono_toks ht₁ (iterV_sound hsrc hv hh) (fun it s₂ ht₂ h₂=>?_)
  have k₂:=h₂.1
  have hw70_1:=h₂.2
  try clear h₂
  obtain ⟨I,fp,P,St,It⟩:=hw70_1
  have J₂:J g₀ s₂.heap:=stable _ _ _ J₁ (fun b o _ e=>kGet k₂ b o e) fun _ b o _ e=>kGet k₂ b o e
  have l₂:=low _ _ J₂
  have hI:s₁.heap.objs.size≤I:=It.new
  have hIY:∀ b,Y b→b≠I:=fun b q=>Nat.ne_of_lt (Nat.lt_of_lt_of_le (l₁ b q) hI)
  have hIlt:I < s₂.heap.objs.size:=It.low I (It.walks.sub I (by simp))
  have hup:s₁.heap.objs.size≤s₂.heap.objs.size:=Nat.le_of_lt (Nat.lt_of_le_of_lt hI hIlt)
  obtain ⟨h₂,t₂,hy77_1⟩:=id k₂
  have hx77_0:=hy77_1.1
  have k₂':=hy77_1.2
  clear hy77_1
  subst hx77_0
  refine comp_block_my (X:=X) (J:=J) (RR:=fun acc C=>compPost (model prog w) A E use Q acc C) It go hgo ht₂ hcell hkind (fun b q=>l₂ b (hXY b q)) (fun b hb q=>?_) J₂ (fun g h h' j k kc=>stable g h h' j (fun b o q e=>k b o (l₂ b q) (hIY b q) e) kc)
    (fun C D s₃ hC hD hC' hD' k₃=>body s₁ C I D s₃ k₁ (kTrans k₂ k₃) (Nat.le_trans hup hC) hI (Nat.le_trans hup hD) hC' hD') fun D C h' tk m' rs ht' hD hC hDC hn hl hz hj hk=>?_
  · rcases It.src b hb with rfl | e
    · exact hIY b (hXY b q) rfl
    · exact hvX b e q
  · exact hQ s₁ D C h' tk m' rs ht' hz₁ k₁ (Nat.le_trans hup hD) (Nat.le_trans hup hC) hDC hn hl hz hj fun b o h0 e=>hk b o h0 (Nat.ne_of_lt (Nat.lt_of_lt_of_le (Heap.lt_size e) hI)) (k₂' b o e)
end
noncomputable def gtV (a b:V):Option Bool:=match a with
  | .int a=>(match b with
    | .int b=>some (decide (a > b))
    | _=>none)
  | .flt a=>(match b with
    | .flt b=>some (Float64.cmp a b == some Ordering.gt)
    | _=>none)
  | _=>none
noncomputable def int2:List V→Option (Int × Int)
  | [.int a,.int b]=>some (a,b)
  | _=>none
noncomputable def ltV (a b:V):Option Bool:=match a with
  | .int a=>(match b with
    | .int b=>some (decide (a < b))
    | _=>none)
  | .flt a=>(match b with
    | .flt b=>some (Float64.cmp a b == some Ordering.lt)
    | _=>none)
  | .tup a=>(match b with
    | .tup b=>(match int2 a with
      | some p=>(int2 b).map fun q=>if p.1=q.1 then decide (p.2 < q.2) else decide (p.1 < q.1)
      | none=>none)
    | _=>none)
  | _=>none
noncomputable def bestV (better:V→V→Option Bool):V→List V→Option V
  | b,[]=>some b
  | b,v :: r=>match better v b with
    | none=>none
    | some true=>bestV better v r
    | some false=>bestV better b r
section
variable {prog:Program} {w:World} {A:Around} {E:Value→Shared→Prop} {s:Shared} {μ:Addr}
theorem gtV_sound {a b:V} {v:Bool} {ra rb:Value} (hv:gtV a b=some v) (xa:VRel μ s.heap a ra) (xb:VRel μ s.heap b rb) (_hu:A.units < cLine) :
    wpAny (model prog w) A (compareOp .Gt ra rb) (fun r s'=>r=.bool v∧s'=s) E s:=by
  cases a with
  | int a =>
    cases b with
    | int b =>
      unfold VRel at xa xb
      obtain ⟨ta,rfl⟩:=xa
      obtain ⟨tb,rfl⟩:=xb
      cases hv; exact gt_int ⟨rfl,rfl⟩
    | _=>exact noneE hv
  | flt a =>
    cases b with
    | flt b =>
      unfold VRel at xa xb
      obtain ⟨ta,hy55_1⟩:=xa
      have hx55_0:=hy55_1.2
      clear hy55_1
      subst hx55_0
      obtain ⟨tb,hy56_1⟩:=xb
      have hx56_0:=hy56_1.2
      clear hy56_1
      subst hx56_0
      cases hv; exact AutoFloatOps.gt_0 ⟨rfl,rfl⟩
    | _=>exact noneE hv
  | _=>exact noneE hv
theorem tuple_lt_gen {x y:Addr} {p q p' q':Value} {e1 e2 r:Bool} {Q:Value→Shared→Prop} (hx:s.heap.IsTuple x #[p,q]) (hy:s.heap.IsTuple y #[p',q'])
    (h1:∀ (Q:Bool→Shared→Prop) (E:Value→Shared→Prop),Q e1 s→wpAny (model prog w) A.in1 (eqBool p p') Q E s)
    (h2:e1=true→∀ (Q:Bool→Shared→Prop) (E:Value→Shared→Prop),Q e2 s→wpAny (model prog w) A.in1 (eqBool q q') Q E s)
    (h3:e1=false→∀ (Q:Value→Shared→Prop) (E:Value→Shared→Prop),Q (.bool r) s→wpAny (model prog w) A.in1 (richCompare .Lt p p') Q E s)
    (h4:e1=true→e2=false→∀ (Q:Value→Shared→Prop) (E:Value→Shared→Prop),Q (.bool r) s→wpAny (model prog w) A.in1 (richCompare .Lt q q') Q E s)
    (h5:e1=true→e2=true→r=false) (hu:A.units < cLine) (h:Q (.bool r) s):wpAny (model prog w) A (compareOp .Lt (.ref x) (.ref y)) Q E s:=by
  have hTx:s.TypeIs (.ref x) "tuple":=let ⟨o,ho,hc,_⟩:=hx; ⟨o,ho,hc⟩
  have hTy:s.TypeIs (.ref y) "tuple":=let ⟨o,ho,hc,_⟩:=hy; ⟨o,ho,hc⟩
  obtain ⟨ox,hy69_1⟩:=hx
  have hox:=hy69_1.1
  have hw69_2:=hy69_1.2.2
  clear hy69_1
  obtain ⟨nx,hdx⟩:=hw69_2
  obtain ⟨oy,hy70_1⟩:=hy
  have hoy:=hy70_1.1
  have hw70_2:=hy70_1.2.2
  clear hy70_1
  obtain ⟨ny,hdy⟩:=hw70_2
  refine (show wpAny (model prog w) A (richCompare .Lt (.ref x) (.ref y)) Q E s from ?_)
  refine wpAny_richCompare_same_or hTx hTy PySem.F.slot_tuple_lt (wpAny_call_entry PySem.F.slot_tuple_lt hTx PySem.F.entry_tuple_lt ?_ (PySem.F.args_tuple_lt_2 _ _)) (.inr hu)
  show wpAny _ _ (isInstance (.ref y) (.type "tuple") >>= _) _ _ s
  refine wpAny_bind (wpAny_isInstance hTy isSubtype_tuple_tuple ?_)
  simp only [Bool.not_true,Bool.false_eq_true,if_false]
  refine wpAny_bind (wpAny_tupleItemsOf hox hdx ?_)
  refine wpAny_bind (wpAny_tupleItemsOf hoy hdy ?_)
  show wpAny _ _ (forIn [(p,p'),(q,q')] _ _ >>= _) _ _ s
  rw [List.forIn_cons]
  refine wpAny_bind (wpAny_bind (wpAny_bind (h1 _ _ ?_)))
  cases e1 with
  | false =>
    simp only [Bool.not_false,if_true]
    exact wpAny_bind (wpAny_rule (wpAny_bind (h3 rfl _ _ (wpAny_bind (wpAny_pure (wpAny_pure (wpAny_pure (wpAny_pure ⟨_,rfl,(fun e=>nomatch e),h⟩))))))))
  | true =>
    simp only [Bool.not_true,Bool.false_eq_true,if_false]
    refine wpAny_pure ?_
    show wpAny _ _ (forIn [(q,q')] (none,()) _) _ _ s
    rw [List.forIn_cons]
    refine wpAny_bind (wpAny_bind (h2 rfl _ _ ?_))
    cases e2 with
    | false =>
      simp only [Bool.not_false,if_true]
      exact wpAny_bind (wpAny_rule (wpAny_bind (h4 rfl rfl _ _ (wpAny_bind (wpAny_pure (wpAny_pure (wpAny_pure (wpAny_pure ⟨_,rfl,(fun e=>nomatch e),h⟩))))))))
    | true =>
      simp only [Bool.not_true,Bool.false_eq_true,if_false]
      refine wpAny_pure ?_
      show wpAny _ _ (forIn [] (none,()) _) _ _ s
      rw [List.forIn_nil]
      obtain rfl:=h5 rfl rfl
      exact wpAny_pure (wpAny_pure ⟨_,rfl,(fun e=>nomatch e),h⟩)
theorem tuple_lt_pair {x y:Addr} {a b c d:Int} {ta tb tc td:Tok} {Q:Value→Shared→Prop} (hx:s.heap.IsTuple x #[.int a ta,.int b tb]) (hy:s.heap.IsTuple y #[.int c tc,.int d td]) (hu:A.units < cLine)
    (h:Q (.bool (if a=c then decide (b < d) else decide (a < c))) s):wpAny (model prog w) A (compareOp .Lt (.ref x) (.ref y)) Q E s:=by
  refine tuple_lt_gen (e1:=a == c) (e2:=b == d) hx hy (fun Q E h=>wpAny_eqBool_int h) (fun _ Q E h=>wpAny_eqBool_int h)
    (fun e Q E h=>(show wpAny _ _ (compareOp .Lt (.int a ta) (.int c tc)) _ _ _ from lt_int (by rw [if_neg (by simpa using e)] at h; exact h)))
    (fun e e' Q E h=>(show wpAny _ _ (compareOp .Lt (.int b tb) (.int d td)) _ _ _ from lt_int (by rw [if_pos (by simpa using e)] at h; exact h))) (fun e e'=>?_) hu h
  have e1:a=c:=by simpa using e
  have e2:b=d:=by simpa using e'
  subst e1 e2
  simp
theorem int2_sound {h:Heap} {a:List V} {p:Int × Int} {ra:Value} (hp:int2 a=some p) (xa:VRel μ h (.tup a) ra):∃ x t u,ra=.ref x∧h.IsTuple x #[.int p.1 t,.int p.2 u]:=by
  unfold int2 at hp
  split at hp
  · cases hp
    simp only [VRel,VRels] at xa
    obtain ⟨x,rx,hy118_1⟩:=xa
    have hx118_0:=hy118_1.1
    have hx:=hy118_1.2.1
    have hw118_2:=hy118_1.2.2
    clear hy118_1
    subst hx118_0
    obtain ⟨r1,rt1,hy118_2⟩:=hw118_2
    have hx118_0:=hy118_2.1
    have hx118_1:=hy118_2.2.1
    have hw118_3:=hy118_2.2.2
    clear hy118_2
    subst hx118_0
    obtain ⟨t1,rfl⟩:=hx118_1
    obtain ⟨r2,rt2,hy118_3⟩:=hw118_3
    have hx118_0:=hy118_3.1
    have hx118_1:=hy118_3.2.1
    have hx118_2:=hy118_3.2.2
    clear hy118_3
    subst hx118_0
    obtain ⟨t2,rfl⟩:=hx118_1
    subst hx118_2
    exact ⟨x,t1,t2,rfl,hx⟩
  · exact noneE hp
theorem ltV_sound {a b:V} {v:Bool} {ra rb:Value} (hv:ltV a b=some v) (xa:VRel μ s.heap a ra) (xb:VRel μ s.heap b rb) (hu:A.units < cLine) :
    wpAny (model prog w) A (compareOp .Lt ra rb) (fun r s'=>r=.bool v∧s'=s) E s:=by
  cases a with
  | int a =>
    cases b with
    | int b =>
      unfold VRel at xa xb
      obtain ⟨ta,rfl⟩:=xa
      obtain ⟨tb,rfl⟩:=xb
      cases hv; exact lt_int ⟨rfl,rfl⟩
    | _=>exact noneE hv
  | flt a =>
    cases b with
    | flt b =>
      unfold VRel at xa xb
      obtain ⟨ta,hy136_1⟩:=xa
      have hx136_0:=hy136_1.2
      clear hy136_1
      subst hx136_0
      obtain ⟨tb,hy137_1⟩:=xb
      have hx137_0:=hy137_1.2
      clear hy137_1
      subst hx137_0
      cases hv; exact AutoFloatOps.lt_0 ⟨rfl,rfl⟩
    | _=>exact noneE hv
  | tup a =>
    cases b with
    | tup b =>
      have hv':(match int2 a with
        | some p=>(int2 b).map fun q=>if p.1=q.1 then decide (p.2 < q.2) else decide (p.1 < q.1)
        | none=>none)=some v:=hv
      cases h1:int2 a with
      | none=>rw [h1] at hv'; exact noneE hv'
      | some p =>
        rw [h1] at hv'
        obtain ⟨q,hy150_1⟩:=Option.map_eq_some_iff.mp hv'
        have h2:=hy150_1.1
        have hx150_0:=hy150_1.2
        clear hy150_1
        subst hx150_0
        obtain ⟨x,_,_,hy151_1⟩:=int2_sound h1 xa
        have hx151_0:=hy151_1.1
        have hx:=hy151_1.2
        clear hy151_1
        subst hx151_0
        obtain ⟨y,_,_,hy152_1⟩:=int2_sound h2 xb
        have hx152_0:=hy152_1.1
        have hy:=hy152_1.2
        clear hy152_1
        subst hx152_0
        exact tuple_lt_pair hx hy hu ⟨rfl,rfl⟩
    | _=>exact noneE hv
  | _=>exact noneE hv
noncomputable def flk2:List V→Option ((UInt64 × Tok) × Int)
  | [.flk a t,.int b]=>some ((a,t),b)
  | _=>none
noncomputable def ltK (a b:V):Option Bool:=match a with
  | .tup a=>(match b with
    | .tup b=>(match flk2 a with
      | some p=>(match flk2 b with
        | some q=>if p.1.2=q.1.2∨(p.1.1=q.1.1∧Float64.cmp p.1.1 q.1.1≠some Ordering.eq) then none else some (if Float64.cmp p.1.1 q.1.1=some Ordering.eq then decide (p.2 < q.2) else Float64.cmp p.1.1 q.1.1 == some Ordering.lt)
        | none=>none)
      | none=>none)
    | _=>none)
  | _=>none
theorem flk2_sound {h:Heap} {a:List V} {p:(UInt64 × Tok) × Int} {ra:Value} (hp:flk2 a=some p) (xa:VRel μ h (.tup a) ra):∃ x t,ra=.ref x∧p.1.2≠0∧h.IsTuple x #[.float p.1.1 p.1.2,.int p.2 t]:=by
  unfold flk2 at hp
  split at hp
  · cases hp
    simp only [VRel,VRels] at xa
    obtain ⟨x,rx,hy175_1⟩:=xa
    have hx175_0:=hy175_1.1
    have hx:=hy175_1.2.1
    have hw175_2:=hy175_1.2.2
    clear hy175_1
    subst hx175_0
    obtain ⟨r1,rt1,hy175_2⟩:=hw175_2
    have hx175_0:=hy175_2.1
    have hx175_1:=hy175_2.2.1
    have hw175_3:=hy175_2.2.2
    clear hy175_2
    subst hx175_0
    obtain ⟨ht,rfl⟩:=hx175_1
    obtain ⟨r2,rt2,hy175_3⟩:=hw175_3
    have hx175_0:=hy175_3.1
    have hx175_1:=hy175_3.2.1
    have hx175_2:=hy175_3.2.2
    clear hy175_3
    subst hx175_0
    obtain ⟨t2,rfl⟩:=hx175_1
    subst hx175_2
    exact ⟨x,t2,rfl,ht,hx⟩
  · exact noneE hp
theorem eqBool_flt {a c:UInt64} {t u:Tok} {Q:Bool→Shared→Prop} (ht:t≠0) (hu:u≠0) (htu:t≠u) (hac:a=c→Float64.cmp a c=some Ordering.eq) (hb:NoneBooked s.heap) (h:Q (Float64.cmp a c == some Ordering.eq) s) :
    wpAny (model prog w) A (eqBool (.float a t) (.float c u)) Q E s:=by
  unfold eqBool
  show wpAny _ _ (if (Value.float a t == Value.float c u)=true then _ else _) Q E s
  rw [if_neg (fun hab=>htu (by have:=eq_of_beq hab; injection this))]
  have fin:wpAny (model prog w) A (do let r ← richCompare .Eq (.float a t) (.float c u); truthOfDropped r) Q E s:=wpAny_bind (show wpAny _ _ (compareOp .Eq (.float a t) (.float c u)) _ _ _ from AutoFloatOps.eq_0 (wpAny_truthy_bool h))
  have t0:(t == 0 || u == 0)=false:=by rw [beq_eq_false_iff_ne.mpr ht,beq_eq_false_iff_ne.mpr hu]; rfl
  have tu:(t == u)=false:=beq_eq_false_iff_ne.mpr htu
  show wpAny _ _ (isSame (.float a t) (.float c u) >>= _) _ _ s
  refine wpAny_bind ?_
  show wpAny _ _ (isSame.created (a == c && !Float64.isNaN a) t u) _ _ s
  unfold isSame.created
  rw [t0,tu]
  simp only [Bool.false_eq_true,if_false]
  cases he:(a == c && !Float64.isNaN a) with
  | false =>
    simp only [Bool.not_false,if_true]
    exact wpAny_pure fin
  | true =>
    have hac':a=c:=eq_of_beq (Bool.and_eq_true_iff.mp he).1
    have h1:(Float64.cmp a c == some Ordering.eq)=true:=by rw [hac hac']; rfl
    simp only [Bool.not_true,Bool.false_eq_true,if_false]
    refine wpAny_bind (wpAny_sharingNotTold_none hb ?_)
    simp only [Bool.false_eq_true,if_false]
    refine wpAny_bind (wpAny_sharingNotTold_none hb ?_)
    simp only [Bool.false_eq_true,if_false]
    refine wpAny_bind (wpAny_rule (wpAny_bind (wpAny_askSetting ?_)))
    refine wpAny_pure ?_
    split
    · exact wpAny_pure (h1 ▸ h)
    · exact fin
theorem ltK_sound {a b:V} {v:Bool} {ra rb:Value} (hv:ltK a b=some v) (xa:VRel μ s.heap a ra) (xb:VRel μ s.heap b rb) (hb:NoneBooked s.heap) (hu:A.units < cLine) :
    wpAny (model prog w) A (compareOp .Lt ra rb) (fun r s'=>r=.bool v∧s'=s) E s:=by
  cases a with
  | tup a =>
    cases b with
    | tup b =>
      have hv':(match flk2 a with
        | some p=>(match flk2 b with
          | some q=>if p.1.2=q.1.2∨(p.1.1=q.1.1∧Float64.cmp p.1.1 q.1.1≠some Ordering.eq) then none else some (if Float64.cmp p.1.1 q.1.1=some Ordering.eq then decide (p.2 < q.2) else Float64.cmp p.1.1 q.1.1 == some Ordering.lt)
          | none=>none)
        | none=>none)=some v:=hv
      cases h1:flk2 a with
      | none=>rw [h1] at hv'; exact noneE hv'
      | some p =>
        cases h2:flk2 b with
        | none=>rw [h1,h2] at hv'; exact noneE hv'
        | some q =>
          rw [h1,h2] at hv'
          have hz227:=ite_none hv'
          have hne:=hz227.1
          have hx227_0:=hz227.2
          clear hz227
          subst hx227_0
          obtain ⟨x,t2,hy228_1⟩:=flk2_sound h1 xa
          have hx228_0:=hy228_1.1
          have ht:=hy228_1.2.1
          have hx:=hy228_1.2.2
          clear hy228_1
          subst hx228_0
          obtain ⟨y,u2,hy229_1⟩:=flk2_sound h2 xb
          have hx229_0:=hy229_1.1
          have hu0:=hy229_1.2.1
          have hy:=hy229_1.2.2
          clear hy229_1
          subst hx229_0
          obtain ⟨⟨a,t⟩,b⟩:=p
          obtain ⟨⟨c,u⟩,d⟩:=q
          have htu:t≠u:=fun e=>hne (.inl e)
          have hac:a=c→Float64.cmp a c=some Ordering.eq:=fun e=>Classical.byContradiction fun q=>hne (.inr ⟨e,q⟩)
          refine tuple_lt_gen (e1:=Float64.cmp a c == some Ordering.eq) (e2:=b == d) hx hy (fun Q E h=>eqBool_flt ht hu0 htu hac hb h) (fun _ Q E h=>wpAny_eqBool_int h)
            (fun e Q E h=>(show wpAny _ _ (compareOp .Lt (.float a t) (.float c u)) _ _ _ from AutoFloatOps.lt_0 (by rw [if_neg (by simpa using e)] at h; exact h)))
            (fun e e' Q E h=>(show wpAny _ _ (compareOp .Lt (.int b t2) (.int d u2)) _ _ _ from lt_int (by rw [if_pos (by simpa using e)] at h; exact h))) (fun e e'=>?_) hu ⟨rfl,rfl⟩
          have e1:Float64.cmp a c=some Ordering.eq:=by simpa using e
          have e2:b=d:=by simpa using e'
          subst e2
          show (if Float64.cmp a c=some Ordering.eq then decide (b < b) else _)=false
          rw [if_pos e1]; simp
    | _=>exact noneE hv
  | _=>exact noneE hv
section
variable {R:Result→Shared→Prop} {xs:List V} {h₀:Heap} {I:Addr} {fp:List Addr} {P:Nat→Value→Prop} {St:Nat→Heap→Prop}
theorem maxLoop (W:Walks prog w A.in1 I fp [I] xs.length P St) (item:∀ i v,P i v→∃ x,xs[i]?=some x∧VRel μ h₀ x v) (hu:A.units+64 < cLine) (S:Addr) (hSf:S ∉ fp) (hI:h₀.objs.size≤I) (hS0:h₀.objs.size≤S) {y:V} :
    ∀ (k j:Nat) (s:Shared) (vb:Value) (xb:V) (c:Nat),xs.length - j=k→j≤xs.length→St j s.heap→VRel μ h₀ xb vb→(∀ b o,h₀.get? b=some o→s.heap.get? b=some o)→bestV gtV xb (xs.drop j)=some y →
    s.heap.get? S=some { cls:=.type "list",dict:=none,data:=.seq #[vb,vb] c,slots:=#[] } →
    (∀ v h' tk,VRel μ h₀ y v→(∀ b o,b≠I→b≠S→s.heap.get? b=some o→h'.get? b=some o)→R (.ok (.ret v)) { s with heap:=h',toks:=tk }) →
    codeAny (model prog w) A (.builtin "max.loop" ⟨[.ref I,.none,.ref S],[]⟩) R s:=by
  have hSw:S ∉ [I]:=fun h=>hSf (W.sub _ h)
  have hname:(toString "max"++toString ".loop":String)="max.loop":=by decide
  have nI:∀ b,b≠I→b ∉ [I]:=fun b hb hm=>hb (by simpa using hm)
  intro k
  induction k with
  | zero =>
    intro j s vb xb c hk hj hst hPb hkeep hbest hS hR
    have hin:j=xs.length:=by omega
    subst hin
    rw [List.drop_length] at hbest
    cases hbest
    refine codeAny_builtin F.entry_max_loop ?_
    rw [Around.under_plainId F.plain_max_loop _]
    show wpAny _ A.in1 (seqItems? (.ref S) >>= _) _ _ s
    refine wpAny_bind (wpAny_seqItems hS rfl ?_)
    show wpAny _ A.in1 (tryCatch (pyNext (.ref I)) _ >>= _) _ _ s
    refine wpAny_bind (wpAny_tryCatch (W.done s _ _ hst fun h' tk hk'=>?_))
    have hS':=hk' S _ hSw hS
    show wpAny _ A.in1 (updateSeq S (fun _=>#[]) >>= _) _ _ _
    refine wpAny_bind ?_
    refine wpAny_updateSeq hS' rfl (wpAny_bind (wpAny_letGo (wpAny_pure ?_)))
    exact hR vb _ tk hPb fun b o hbI hbS e=>(Heap.get?_update_other _ _ (Ne.symm hbS)).trans (hk' b o (nI b hbI) e)
  | succ k ih =>
    intro j s vb xb c hk hj hst hPb hkeep hbest hS hR
    have hlt:j < xs.length:=by omega
    refine codeAny_builtin F.entry_max_loop ?_
    rw [Around.under_plainId F.plain_max_loop _]
    show wpAny _ A.in1 (seqItems? (.ref S) >>= _) _ _ s
    refine wpAny_bind (wpAny_seqItems hS rfl ?_)
    show wpAny _ A.in1 (tryCatch (pyNext (.ref I)) _ >>= _) _ _ s
    refine wpAny_bind (wpAny_tryCatch (W.item j s _ _ hlt hst fun v h' tk hP hst' hk'=>?_))
    have hS':=hk' S _ hSw hS
    obtain ⟨x,hy285_1⟩:=item j v hP
    have hx:=hy285_1.1
    have hxv:=hy285_1.2
    clear hy285_1
    have hkeep':∀ b o,h₀.get? b=some o→h'.get? b=some o:=fun b o e=>hk' b o (nI b (Nat.ne_of_lt (Nat.lt_of_lt_of_le (Heap.lt_size e) hI))) (hkeep b o e)
    have hd:xs.drop j=x :: xs.drop (j+1):=by
      obtain ⟨hl,he⟩:=List.getElem?_eq_some_iff.mp hx
      rw [← he,← List.drop_eq_getElem_cons hl]
    rw [hd] at hbest
    unfold bestV at hbest
    cases hg:gtV x xb with
    | none=>rw [hg] at hbest; cases hbest
    | some t =>
      rw [hg] at hbest
      show wpAny _ A.in1 (tryCatch (holding [v,v] (richCompare .Gt v vb >>= _)) _ >>= _) _ _ _
      refine wpAny_bind (wpAny_tryCatch (wpAny_holding (wpAny_bind ?_)))
      have hc:=gtV_sound (prog:=prog) (w:=w) (A:=A.in1) (E:=fun e s'=>False) (s:={ s with heap:=h',toks:=tk }) hg (VRel.keeps hkeep' _ _ hxv) (VRel.keeps hkeep' _ _ hPb) (by show A.units+1 < cLine; omega)
      refine wpAny_mono (show wpAny _ A.in1 (richCompare .Gt v vb) _ _ _ from hc) (fun r s' hr=>?_) fun _ _ q=>q.elim
      have hx300_0:=hr.1
      have hx300_1:=hr.2
      try clear hr
      subst hx300_0
      subst hx300_1
      refine wpAny_bind (wpAny_holding (wpAny_truthy_bool ?_))
      refine wpAny_bind (wpAny_letGo (wpAny_pure ?_))
      cases t with
      | true =>
        simp only [if_true]
        refine wpAny_bind ?_
        refine wpAny_updateSeq hS' rfl (wpAny_bind (wpAny_letGo ?_))
        rw [hname]
        refine wpAny_pure ⟨plainId_quiet F.plain_max_loop _,ih (j+1) _ v x _ (by omega) hlt (W.frame _ _ _ hst' fun b hbf o e=>?_) hxv (fun b o e=>?_) hbest (Heap.get?_update_self _ hS' rfl)
          fun v' h'' tk'' hP' hk''=>?_⟩
        · exact (Heap.get?_update_other _ _ (fun h:S=b=>hSf (by rw [h]; exact hbf))).trans e
        · exact (Heap.get?_update_other _ _ (fun h:S=b=>by subst h; exact absurd (Heap.lt_size e) (Nat.not_lt.mpr hS0))).trans (hkeep' b o e)
        · exact hR v' h'' tk'' hP' fun b o hbw hbS e=>hk'' b o hbw hbS ((Heap.get?_update_other _ _ (Ne.symm hbS)).trans (hk' b o (nI b hbw) e))
      | false =>
        simp only [Bool.false_eq_true,if_false]
        refine wpAny_bind (wpAny_letGo ?_)
        rw [hname]
        refine wpAny_pure ⟨plainId_quiet F.plain_max_loop _,ih (j+1) _ vb xb c (by omega) hlt hst' hPb hkeep' hbest hS' fun v' h'' tk'' hP' hk''=>?_⟩
        exact hR v' h'' tk'' hP' fun b o hbw hbS e=>hk'' b o hbw hbS (hk' b o (nI b hbw) e)
theorem maxFirst (W:Walks prog w A.in1 I fp [I] xs.length P St) (item:∀ i v,P i v→∃ x,xs[i]?=some x∧VRel μ h₀ x v) (hu:A.units+64 < cLine) (S:Addr) (hSf:S ∉ fp) (hI:h₀.objs.size≤I) (hS0:h₀.objs.size≤S) {y x₀:V} {r₀:List V} {s:Shared} {c:Nat}
    (hx₀:xs=x₀ :: r₀) (hst:St 0 s.heap) (hkeep:∀ b o,h₀.get? b=some o→s.heap.get? b=some o) (hbest:bestV gtV x₀ r₀=some y)
    (hS:s.heap.get? S=some { cls:=.type "list",dict:=none,data:=.seq #[] c,slots:=#[] })
    (hR:∀ v h' tk,VRel μ h₀ y v→(∀ b o,b≠I→b≠S→s.heap.get? b=some o→h'.get? b=some o)→R (.ok (.ret v)) { s with heap:=h',toks:=tk }) :
    codeAny (model prog w) A (.builtin "max.loop" ⟨[.ref I,.none,.ref S],[]⟩) R s:=by
  have hSw:S ∉ [I]:=fun h=>hSf (W.sub _ h)
  have hname:(toString "max"++toString ".loop":String)="max.loop":=by decide
  have nI:∀ b,b≠I→b ∉ [I]:=fun b hb hm=>hb (by simpa using hm)
  have hlt:0 < xs.length:=by rw [hx₀]; exact Nat.succ_pos _
  refine codeAny_builtin F.entry_max_loop ?_
  rw [Around.under_plainId F.plain_max_loop _]
  show wpAny _ A.in1 (seqItems? (.ref S) >>= _) _ _ s
  refine wpAny_bind (wpAny_seqItems hS rfl ?_)
  show wpAny _ A.in1 (tryCatch (pyNext (.ref I)) _ >>= _) _ _ s
  refine wpAny_bind (wpAny_tryCatch (W.item 0 s _ _ hlt hst fun v h' tk hP hst' hk'=>?_))
  have hS':=hk' S _ hSw hS
  obtain ⟨x,hy337_1⟩:=item 0 v hP
  have hx:=hy337_1.1
  have hxv:=hy337_1.2
  clear hy337_1
  have hkeep':∀ b o,h₀.get? b=some o→h'.get? b=some o:=fun b o e=>hk' b o (nI b (Nat.ne_of_lt (Nat.lt_of_lt_of_le (Heap.lt_size e) hI))) (hkeep b o e)
  have hxx:x=x₀:=by rw [hx₀] at hx; simpa using hx.symm
  subst hxx
  show wpAny _ A.in1 (updateSeq S (fun _=>#[v,v]) >>= _) _ _ _
  refine wpAny_bind ?_
  refine wpAny_updateSeq hS' rfl ?_
  rw [hname]
  refine wpAny_pure ⟨plainId_quiet F.plain_max_loop _,maxLoop W item hu S hSf hI hS0 _ 1 _ v x _ rfl hlt (W.frame _ _ _ hst' fun b hbf o e=>?_) hxv (fun b o e=>?_) (by rw [hx₀]; exact hbest) (Heap.get?_update_self _ hS' rfl) fun v' h'' tk'' hP' hk''=>?_⟩
  · exact (Heap.get?_update_other _ _ (fun h:S=b=>hSf (by rw [h]; exact hbf))).trans e
  · exact (Heap.get?_update_other _ _ (fun h:S=b=>by subst h; exact absurd (Heap.lt_size e) (Nat.not_lt.mpr hS0))).trans (hkeep' b o e)
  · exact hR v' h'' tk'' hP' fun b o hbw hbS e=>hk'' b o hbw hbS ((Heap.get?_update_other _ _ (Ne.symm hbS)).trans (hk' b o (nI b hbw) e))
end
theorem max_one {v y x₀:V} {r:Value} {r₀:List V} (x:VRel μ s.heap v r) (hv:itemsV v=some (x₀ :: r₀)) (hbest:bestV gtV x₀ r₀=some y) (hh:A.handled=none) (hu:A.units+64 < cLine) :
    wpAny (model prog w) A (call (.builtin "max") [r]) (fun r s'=>VRel μ s'.heap y r∧Keeps s s') E s:=by
  have hname:(toString "max"++toString ".loop":String)="max.loop":=by decide
  refine call_function_tree F.kind_max F.plain_max F.entry_max (F.args_max1 _) ?_
  show wpAny _ A.in1 (Builtin.Builtins.bindParams "max" ["key","default"] 0 ⟨[],[]⟩ >>= _) _ _ s
  refine wpAny_bind (wpAny_of_eq (show Builtin.Builtins.bindParams "max" ["key","default"] 0 ⟨[],[]⟩=pure [none,none] from rfl) ?_)
  refine wpAny_bind (wpAny_pure ?_)
  refine wpAny_bind (wpAny_mono (iterV_sound (A:=A.in1) hv x hh) (fun it s₂ h₂=>?_) fun _ _ e=>e)
  have hz359:=h₂
  clear h₂
  have hx359_0:=hz359.1
  have hw359_1:=hz359.2
  clear hz359
  obtain ⟨h₂,t₂,rfl,k₂⟩:=hx359_0
  obtain ⟨I,fp,P,St,rfl,W,hst,hfp,hI,item,short,_,_⟩:=hw359_1
  have hIlt:I < h₂.objs.size:=hfp I (W.sub I (by simp))
  refine wpAny_bind (wpAny_newObj_type ?_)
  have hSf:h₂.objs.size ∉ fp:=fun hm=>Nat.lt_irrefl _ (hfp _ hm)
  rw [hname]
  refine wpAny_pure ⟨plainId_quiet F.plain_max_loop _,maxFirst W item hu h₂.objs.size hSf hI (Nat.le_trans hI (Nat.le_of_lt hIlt)) rfl (W.frame _ _ _ hst fun b _ o e=>Heap.get?_push_of_some _ e) (fun b o e=>Heap.get?_push_of_some _ (k₂ b o e)) hbest (Heap.get?_push_size _ rfl) fun v h' tk hP hk=>?_⟩
  have kk:∀ b o,s.heap.get? b=some o→h'.get? b=some o:=fun b o e=>hk b o (Nat.ne_of_lt (Nat.lt_of_lt_of_le (Heap.lt_size e) hI)) (Nat.ne_of_lt (Heap.lt_size (k₂ b o e))) (Heap.get?_push_of_some _ (k₂ b o e))
  exact ⟨VRel.keeps kk _ _ hP,h',tk,rfl,kk⟩
theorem max_2 {a b y:V} {ra rb:Value} (xa:VRel μ s.heap a ra) (xb:VRel μ s.heap b rb) (hbest:bestV gtV a [b]=some y) (hh:A.handled=none) (hu:A.units+64 < cLine) :
    wpAny (model prog w) A (call (.builtin "max") [ra,rb]) (fun r s'=>VRel μ s'.heap y r∧Keeps s s') E s:=by
  have hname:(toString "max"++toString ".loop":String)="max.loop":=by decide
  refine call_function_tree F.kind_max F.plain_max F.entry_max (F.args_max2 _ _) ?_
  show wpAny _ A.in1 (Builtin.Builtins.bindParams "max" ["key","default"] 0 ⟨[],[]⟩ >>= _) _ _ s
  refine wpAny_bind (wpAny_of_eq (show Builtin.Builtins.bindParams "max" ["key","default"] 0 ⟨[],[]⟩=pure [none,none] from rfl) ?_)
  show wpAny _ A.in1 (newTuple [ra,rb] >>= _) _ _ s
  refine wpAny_bind (wpAny_newObj_type ?_)
  have xt:VRel μ (s.heap.push { cls:=.type "tuple",data:=.seq #[ra,rb] }) (.tup [a,b]) (.ref s.heap.objs.size):=tup_push (rs:=[ra,rb]) (.cons xa (.cons xb .nil))
  refine wpAny_bind (wpAny_mono (iterV_sound (A:=A.in1) (s:={ s with heap:=s.heap.push { cls:=.type "tuple",data:=.seq #[ra,rb] } }) (xs:=[a,b]) rfl xt hh) (fun it s₂ h₂=>?_) fun _ _ e=>e)
  have hz378:=h₂
  clear h₂
  have hx378_0:=hz378.1
  have hw378_1:=hz378.2
  clear hz378
  obtain ⟨h₂,t₂,rfl,k₂⟩:=hx378_0
  obtain ⟨I,fp,P,St,rfl,W,hst,hfp,hI,item,short,_,_⟩:=hw378_1
  have hIlt:I < h₂.objs.size:=hfp I (W.sub I (by simp))
  refine wpAny_bind (wpAny_newObj_type ?_)
  have hSf:h₂.objs.size ∉ fp:=fun hm=>Nat.lt_irrefl _ (hfp _ hm)
  rw [hname]
  refine wpAny_pure ⟨plainId_quiet F.plain_max_loop _,maxFirst W item hu h₂.objs.size hSf hI (Nat.le_trans hI (Nat.le_of_lt hIlt)) rfl (W.frame _ _ _ hst fun b _ o e=>Heap.get?_push_of_some _ e) (fun b o e=>Heap.get?_push_of_some _ (k₂ b o e)) hbest (Heap.get?_push_size _ rfl) fun v h' tk hP hk=>?_⟩
  have kk:∀ b o,(s.heap.push { cls:=.type "tuple",data:=.seq #[ra,rb] }).get? b=some o→h'.get? b=some o:=fun b o e=>hk b o (Nat.ne_of_lt (Nat.lt_of_lt_of_le (Heap.lt_size e) hI)) (Nat.ne_of_lt (Heap.lt_size (k₂ b o e))) (Heap.get?_push_of_some _ (k₂ b o e))
  exact ⟨VRel.keeps kk _ _ hP,h',tk,rfl,fun b o e=>kk b o (Heap.get?_push_of_some _ e)⟩
theorem max_3 {a b c y:V} {ra rb rc:Value} (xa:VRel μ s.heap a ra) (xb:VRel μ s.heap b rb) (xc:VRel μ s.heap c rc) (hbest:bestV gtV a [b,c]=some y) (hh:A.handled=none) (hu:A.units+64 < cLine) :
    wpAny (model prog w) A (call (.builtin "max") [ra,rb,rc]) (fun r s'=>VRel μ s'.heap y r∧Keeps s s') E s:=by
  have hname:(toString "max"++toString ".loop":String)="max.loop":=by decide
  refine call_function_tree F.kind_max F.plain_max F.entry_max (F.args_max3 _ _ _) ?_
  show wpAny _ A.in1 (Builtin.Builtins.bindParams "max" ["key","default"] 0 ⟨[],[]⟩ >>= _) _ _ s
  refine wpAny_bind (wpAny_of_eq (show Builtin.Builtins.bindParams "max" ["key","default"] 0 ⟨[],[]⟩=pure [none,none] from rfl) ?_)
  show wpAny _ A.in1 (newTuple [ra,rb,rc] >>= _) _ _ s
  refine wpAny_bind (wpAny_newObj_type ?_)
  have xt:VRel μ (s.heap.push { cls:=.type "tuple",data:=.seq #[ra,rb,rc] }) (.tup [a,b,c]) (.ref s.heap.objs.size):=tup_push (rs:=[ra,rb,rc]) (.cons xa (.cons xb (.cons xc .nil)))
  refine wpAny_bind (wpAny_mono (iterV_sound (A:=A.in1) (s:={ s with heap:=s.heap.push { cls:=.type "tuple",data:=.seq #[ra,rb,rc] } }) (xs:=[a,b,c]) rfl xt hh) (fun it s₂ h₂=>?_) fun _ _ e=>e)
  have hz397:=h₂
  clear h₂
  have hx397_0:=hz397.1
  have hw397_1:=hz397.2
  clear hz397
  obtain ⟨h₂,t₂,rfl,k₂⟩:=hx397_0
  obtain ⟨I,fp,P,St,rfl,W,hst,hfp,hI,item,short,_,_⟩:=hw397_1
  have hIlt:I < h₂.objs.size:=hfp I (W.sub I (by simp))
  refine wpAny_bind (wpAny_newObj_type ?_)
  have hSf:h₂.objs.size ∉ fp:=fun hm=>Nat.lt_irrefl _ (hfp _ hm)
  rw [hname]
  refine wpAny_pure ⟨plainId_quiet F.plain_max_loop _,maxFirst W item hu h₂.objs.size hSf hI (Nat.le_trans hI (Nat.le_of_lt hIlt)) rfl (W.frame _ _ _ hst fun b _ o e=>Heap.get?_push_of_some _ e) (fun b o e=>Heap.get?_push_of_some _ (k₂ b o e)) hbest (Heap.get?_push_size _ rfl) fun v h' tk hP hk=>?_⟩
  have kk:∀ b o,(s.heap.push { cls:=.type "tuple",data:=.seq #[ra,rb,rc] }).get? b=some o→h'.get? b=some o:=fun b o e=>hk b o (Nat.ne_of_lt (Nat.lt_of_lt_of_le (Heap.lt_size e) hI)) (Nat.ne_of_lt (Heap.lt_size (k₂ b o e))) (Heap.get?_push_of_some _ (k₂ b o e))
  exact ⟨VRel.keeps kk _ _ hP,h',tk,rfl,fun b o e=>kk b o (Heap.get?_push_of_some _ e)⟩
section
variable {R:Result→Shared→Prop} {xs:List V} {h₀:Heap} {I:Addr} {fp:List Addr} {P:Nat→Value→Prop} {St:Nat→Heap→Prop}
theorem minLoop (W:Walks prog w A.in1 I fp [I] xs.length P St) (item:∀ i v,P i v→∃ x,xs[i]?=some x∧VRel μ h₀ x v) (hu:A.units+64 < cLine) (S:Addr) (hSf:S ∉ fp) (hI:h₀.objs.size≤I) (hS0:h₀.objs.size≤S) {y:V} {lt:V→V→Option Bool} (hsnd:∀ {a b:V} {v:Bool} {ra rb:Value} (s':Shared) (E:Value→Shared→Prop),lt a b=some v→VRel μ s'.heap a ra→VRel μ s'.heap b rb→(∀ b o,h₀.get? b=some o→s'.heap.get? b=some o)→wpAny (model prog w) A.in1 (compareOp .Lt ra rb) (fun r s''=>r=.bool v∧s''=s') E s') :
    ∀ (k j:Nat) (s:Shared) (vb:Value) (xb:V) (c:Nat),xs.length - j=k→j≤xs.length→St j s.heap→VRel μ h₀ xb vb→(∀ b o,h₀.get? b=some o→s.heap.get? b=some o)→bestV lt xb (xs.drop j)=some y →
    s.heap.get? S=some { cls:=.type "list",dict:=none,data:=.seq #[vb,vb] c,slots:=#[] } →
    (∀ v h' tk,VRel μ h₀ y v→(∀ b o,b≠I→b≠S→s.heap.get? b=some o→h'.get? b=some o)→R (.ok (.ret v)) { s with heap:=h',toks:=tk }) →
    codeAny (model prog w) A (.builtin "min.loop" ⟨[.ref I,.none,.ref S],[]⟩) R s:=by
  have hSw:S ∉ [I]:=fun h=>hSf (W.sub _ h)
  have hname:(toString "min"++toString ".loop":String)="min.loop":=by decide
  have nI:∀ b,b≠I→b ∉ [I]:=fun b hb hm=>hb (by simpa using hm)
  intro k
  induction k with
  | zero =>
    intro j s vb xb c hk hj hst hPb hkeep hbest hS hR
    have hin:j=xs.length:=by omega
    subst hin
    rw [List.drop_length] at hbest
    cases hbest
    refine codeAny_builtin F.entry_min_loop ?_
    rw [Around.under_plainId F.plain_min_loop _]
    show wpAny _ A.in1 (seqItems? (.ref S) >>= _) _ _ s
    refine wpAny_bind (wpAny_seqItems hS rfl ?_)
    show wpAny _ A.in1 (tryCatch (pyNext (.ref I)) _ >>= _) _ _ s
    refine wpAny_bind (wpAny_tryCatch (W.done s _ _ hst fun h' tk hk'=>?_))
    have hS':=hk' S _ hSw hS
    show wpAny _ A.in1 (updateSeq S (fun _=>#[]) >>= _) _ _ _
    refine wpAny_bind ?_
    refine wpAny_updateSeq hS' rfl (wpAny_bind (wpAny_letGo (wpAny_pure ?_)))
    exact hR vb _ tk hPb fun b o hbI hbS e=>(Heap.get?_update_other _ _ (Ne.symm hbS)).trans (hk' b o (nI b hbI) e)
  | succ k ih =>
    intro j s vb xb c hk hj hst hPb hkeep hbest hS hR
    have hlt:j < xs.length:=by omega
    refine codeAny_builtin F.entry_min_loop ?_
    rw [Around.under_plainId F.plain_min_loop _]
    show wpAny _ A.in1 (seqItems? (.ref S) >>= _) _ _ s
    refine wpAny_bind (wpAny_seqItems hS rfl ?_)
    show wpAny _ A.in1 (tryCatch (pyNext (.ref I)) _ >>= _) _ _ s
    refine wpAny_bind (wpAny_tryCatch (W.item j s _ _ hlt hst fun v h' tk hP hst' hk'=>?_))
    have hS':=hk' S _ hSw hS
    obtain ⟨x,hy445_1⟩:=item j v hP
    have hx:=hy445_1.1
    have hxv:=hy445_1.2
    clear hy445_1
    have hkeep':∀ b o,h₀.get? b=some o→h'.get? b=some o:=fun b o e=>hk' b o (nI b (Nat.ne_of_lt (Nat.lt_of_lt_of_le (Heap.lt_size e) hI))) (hkeep b o e)
    have hd:xs.drop j=x :: xs.drop (j+1):=by
      obtain ⟨hl,he⟩:=List.getElem?_eq_some_iff.mp hx
      rw [← he,← List.drop_eq_getElem_cons hl]
    rw [hd] at hbest
    unfold bestV at hbest
    cases hg:lt x xb with
    | none=>rw [hg] at hbest; cases hbest
    | some t =>
      rw [hg] at hbest
      show wpAny _ A.in1 (tryCatch (holding [v,v] (richCompare .Lt v vb >>= _)) _ >>= _) _ _ _
      refine wpAny_bind (wpAny_tryCatch (wpAny_holding (wpAny_bind ?_)))
      have hc:=hsnd { s with heap:=h',toks:=tk } (fun e s'=>False) hg (VRel.keeps hkeep' _ _ hxv) (VRel.keeps hkeep' _ _ hPb) hkeep'
      refine wpAny_mono (show wpAny _ A.in1 (richCompare .Lt v vb) _ _ _ from hc) (fun r s' hr=>?_) fun _ _ q=>q.elim
      have hx460_0:=hr.1
      have hx460_1:=hr.2
      try clear hr
      subst hx460_0
      subst hx460_1
      refine wpAny_bind (wpAny_holding (wpAny_truthy_bool ?_))
      refine wpAny_bind (wpAny_letGo (wpAny_pure ?_))
      cases t with
      | true =>
        simp only [if_true]
        refine wpAny_bind ?_
        refine wpAny_updateSeq hS' rfl (wpAny_bind (wpAny_letGo ?_))
        rw [hname]
        refine wpAny_pure ⟨plainId_quiet F.plain_min_loop _,ih (j+1) _ v x _ (by omega) hlt (W.frame _ _ _ hst' fun b hbf o e=>?_) hxv (fun b o e=>?_) hbest (Heap.get?_update_self _ hS' rfl)
          fun v' h'' tk'' hP' hk''=>?_⟩
        · exact (Heap.get?_update_other _ _ (fun h:S=b=>hSf (by rw [h]; exact hbf))).trans e
        · exact (Heap.get?_update_other _ _ (fun h:S=b=>by subst h; exact absurd (Heap.lt_size e) (Nat.not_lt.mpr hS0))).trans (hkeep' b o e)
        · exact hR v' h'' tk'' hP' fun b o hbw hbS e=>hk'' b o hbw hbS ((Heap.get?_update_other _ _ (Ne.symm hbS)).trans (hk' b o (nI b hbw) e))
      | false =>
        simp only [Bool.false_eq_true,if_false]
        refine wpAny_bind (wpAny_letGo ?_)
        rw [hname]
        refine wpAny_pure ⟨plainId_quiet F.plain_min_loop _,ih (j+1) _ vb xb c (by omega) hlt hst' hPb hkeep' hbest hS' fun v' h'' tk'' hP' hk''=>?_⟩
        exact hR v' h'' tk'' hP' fun b o hbw hbS e=>hk'' b o hbw hbS (hk' b o (nI b hbw) e)
theorem minFirst (W:Walks prog w A.in1 I fp [I] xs.length P St) (item:∀ i v,P i v→∃ x,xs[i]?=some x∧VRel μ h₀ x v) (hu:A.units+64 < cLine) (S:Addr) (hSf:S ∉ fp) (hI:h₀.objs.size≤I) (hS0:h₀.objs.size≤S) {y x₀:V} {r₀:List V} {s:Shared} {c:Nat} {lt:V→V→Option Bool} (hsnd:∀ {a b:V} {v:Bool} {ra rb:Value} (s':Shared) (E:Value→Shared→Prop),lt a b=some v→VRel μ s'.heap a ra→VRel μ s'.heap b rb→(∀ b o,h₀.get? b=some o→s'.heap.get? b=some o)→wpAny (model prog w) A.in1 (compareOp .Lt ra rb) (fun r s''=>r=.bool v∧s''=s') E s')
    (hx₀:xs=x₀ :: r₀) (hst:St 0 s.heap) (hkeep:∀ b o,h₀.get? b=some o→s.heap.get? b=some o) (hbest:bestV lt x₀ r₀=some y)
    (hS:s.heap.get? S=some { cls:=.type "list",dict:=none,data:=.seq #[] c,slots:=#[] })
    (hR:∀ v h' tk,VRel μ h₀ y v→(∀ b o,b≠I→b≠S→s.heap.get? b=some o→h'.get? b=some o)→R (.ok (.ret v)) { s with heap:=h',toks:=tk }) :
    codeAny (model prog w) A (.builtin "min.loop" ⟨[.ref I,.none,.ref S],[]⟩) R s:=by
  have hSw:S ∉ [I]:=fun h=>hSf (W.sub _ h)
  have hname:(toString "min"++toString ".loop":String)="min.loop":=by decide
  have nI:∀ b,b≠I→b ∉ [I]:=fun b hb hm=>hb (by simpa using hm)
  have hlt:0 < xs.length:=by rw [hx₀]; exact Nat.succ_pos _
  refine codeAny_builtin F.entry_min_loop ?_
  rw [Around.under_plainId F.plain_min_loop _]
  show wpAny _ A.in1 (seqItems? (.ref S) >>= _) _ _ s
  refine wpAny_bind (wpAny_seqItems hS rfl ?_)
  show wpAny _ A.in1 (tryCatch (pyNext (.ref I)) _ >>= _) _ _ s
  refine wpAny_bind (wpAny_tryCatch (W.item 0 s _ _ hlt hst fun v h' tk hP hst' hk'=>?_))
  have hS':=hk' S _ hSw hS
  obtain ⟨x,hy497_1⟩:=item 0 v hP
  have hx:=hy497_1.1
  have hxv:=hy497_1.2
  clear hy497_1
  have hkeep':∀ b o,h₀.get? b=some o→h'.get? b=some o:=fun b o e=>hk' b o (nI b (Nat.ne_of_lt (Nat.lt_of_lt_of_le (Heap.lt_size e) hI))) (hkeep b o e)
  have hxx:x=x₀:=by rw [hx₀] at hx; simpa using hx.symm
  subst hxx
  show wpAny _ A.in1 (updateSeq S (fun _=>#[v,v]) >>= _) _ _ _
  refine wpAny_bind ?_
  refine wpAny_updateSeq hS' rfl ?_
  rw [hname]
  refine wpAny_pure ⟨plainId_quiet F.plain_min_loop _,minLoop W item hu S hSf hI hS0 hsnd _ 1 _ v x _ rfl hlt (W.frame _ _ _ hst' fun b hbf o e=>?_) hxv (fun b o e=>?_) (by rw [hx₀]; exact hbest) (Heap.get?_update_self _ hS' rfl) fun v' h'' tk'' hP' hk''=>?_⟩
  · exact (Heap.get?_update_other _ _ (fun h:S=b=>hSf (by rw [h]; exact hbf))).trans e
  · exact (Heap.get?_update_other _ _ (fun h:S=b=>by subst h; exact absurd (Heap.lt_size e) (Nat.not_lt.mpr hS0))).trans (hkeep' b o e)
  · exact hR v' h'' tk'' hP' fun b o hbw hbS e=>hk'' b o hbw hbS ((Heap.get?_update_other _ _ (Ne.symm hbS)).trans (hk' b o (nI b hbw) e))
end
theorem min_oneG {lt:V→V→Option Bool} {v y x₀:V} {r:Value} {r₀:List V} (x:VRel μ s.heap v r) (hv:itemsV v=some (x₀ :: r₀)) (hbest:bestV lt x₀ r₀=some y) (hh:A.handled=none) (hu:A.units+64 < cLine)
    (hsnd:∀ {a b:V} {v:Bool} {ra rb:Value} (s':Shared) (E:Value→Shared→Prop),lt a b=some v→VRel μ s'.heap a ra→VRel μ s'.heap b rb→(∀ b o,s.heap.get? b=some o→s'.heap.get? b=some o)→wpAny (model prog w) A.in1 (compareOp .Lt ra rb) (fun r s''=>r=.bool v∧s''=s') E s') :
    wpAny (model prog w) A (call (.builtin "min") [r]) (fun r s'=>VRel μ s'.heap y r∧Keeps s s') E s:=by
  have hname:(toString "min"++toString ".loop":String)="min.loop":=by decide
  refine call_function_tree F.kind_min F.plain_min F.entry_min (F.args_min1 _) ?_
  show wpAny _ A.in1 (Builtin.Builtins.bindParams "min" ["key","default"] 0 ⟨[],[]⟩ >>= _) _ _ s
  refine wpAny_bind (wpAny_of_eq (show Builtin.Builtins.bindParams "min" ["key","default"] 0 ⟨[],[]⟩=pure [none,none] from rfl) ?_)
  refine wpAny_bind (wpAny_pure ?_)
  refine wpAny_bind (wpAny_mono (iterV_sound (A:=A.in1) hv x hh) (fun it s₂ h₂=>?_) fun _ _ e=>e)
  have hz520:=h₂
  clear h₂
  have hx520_0:=hz520.1
  have hw520_1:=hz520.2
  clear hz520
  obtain ⟨h₂,t₂,rfl,k₂⟩:=hx520_0
  obtain ⟨I,fp,P,St,rfl,W,hst,hfp,hI,item,short,_,_⟩:=hw520_1
  have hIlt:I < h₂.objs.size:=hfp I (W.sub I (by simp))
  refine wpAny_bind (wpAny_newObj_type ?_)
  have hSf:h₂.objs.size ∉ fp:=fun hm=>Nat.lt_irrefl _ (hfp _ hm)
  rw [hname]
  refine wpAny_pure ⟨plainId_quiet F.plain_min_loop _,minFirst W item hu h₂.objs.size hSf hI (Nat.le_trans hI (Nat.le_of_lt hIlt)) hsnd rfl (W.frame _ _ _ hst fun b _ o e=>Heap.get?_push_of_some _ e) (fun b o e=>Heap.get?_push_of_some _ (k₂ b o e)) hbest (Heap.get?_push_size _ rfl) fun v h' tk hP hk=>?_⟩
  have kk:∀ b o,s.heap.get? b=some o→h'.get? b=some o:=fun b o e=>hk b o (Nat.ne_of_lt (Nat.lt_of_lt_of_le (Heap.lt_size e) hI)) (Nat.ne_of_lt (Heap.lt_size (k₂ b o e))) (Heap.get?_push_of_some _ (k₂ b o e))
  exact ⟨VRel.keeps kk _ _ hP,h',tk,rfl,kk⟩
theorem min_one {v y x₀:V} {r:Value} {r₀:List V} (x:VRel μ s.heap v r) (hv:itemsV v=some (x₀ :: r₀)) (hbest:bestV ltV x₀ r₀=some y) (hh:A.handled=none) (hu:A.units+64 < cLine) :
    wpAny (model prog w) A (call (.builtin "min") [r]) (fun r s'=>VRel μ s'.heap y r∧Keeps s s') E s :=
  min_oneG x hv hbest hh hu fun s' E hv xa xb _=>ltV_sound hv xa xb (by show A.units+1 < cLine; omega)
theorem min_k {v y x₀:V} {r:Value} {r₀:List V} (x:VRel μ s.heap v r) (hv:itemsV v=some (x₀ :: r₀)) (hbest:bestV ltK x₀ r₀=some y) (hb:NoneBooked s.heap) (hh:A.handled=none) (hu:A.units+64 < cLine) :
    wpAny (model prog w) A (call (.builtin "min") [r]) (fun r s'=>VRel μ s'.heap y r∧Keeps s s') E s :=
  min_oneG x hv hbest hh hu fun s' E hv xa xb k=>ltK_sound hv xa xb (let ⟨mc,⟨o,es,ep,e,z⟩,n⟩:=hb; ⟨mc,⟨o,es,ep,k _ _ e,z⟩,n⟩) (by show A.units+1 < cLine; omega)
theorem min_3 {a b c y:V} {ra rb rc:Value} (xa:VRel μ s.heap a ra) (xb:VRel μ s.heap b rb) (xc:VRel μ s.heap c rc) (hbest:bestV ltV a [b,c]=some y) (hh:A.handled=none) (hu:A.units+64 < cLine) :
    wpAny (model prog w) A (call (.builtin "min") [ra,rb,rc]) (fun r s'=>VRel μ s'.heap y r∧Keeps s s') E s:=by
  have hname:(toString "min"++toString ".loop":String)="min.loop":=by decide
  refine call_function_tree F.kind_min F.plain_min F.entry_min (F.args_min3 _ _ _) ?_
  show wpAny _ A.in1 (Builtin.Builtins.bindParams "min" ["key","default"] 0 ⟨[],[]⟩ >>= _) _ _ s
  refine wpAny_bind (wpAny_of_eq (show Builtin.Builtins.bindParams "min" ["key","default"] 0 ⟨[],[]⟩=pure [none,none] from rfl) ?_)
  show wpAny _ A.in1 (newTuple [ra,rb,rc] >>= _) _ _ s
  refine wpAny_bind (wpAny_newObj_type ?_)
  have xt:VRel μ (s.heap.push { cls:=.type "tuple",data:=.seq #[ra,rb,rc] }) (.tup [a,b,c]) (.ref s.heap.objs.size):=tup_push (rs:=[ra,rb,rc]) (.cons xa (.cons xb (.cons xc .nil)))
  refine wpAny_bind (wpAny_mono (iterV_sound (A:=A.in1) (s:={ s with heap:=s.heap.push { cls:=.type "tuple",data:=.seq #[ra,rb,rc] } }) (xs:=[a,b,c]) rfl xt hh) (fun it s₂ h₂=>?_) fun _ _ e=>e)
  have hz566:=h₂
  clear h₂
  have hx566_0:=hz566.1
  have hw566_1:=hz566.2
  clear hz566
  obtain ⟨h₂,t₂,rfl,k₂⟩:=hx566_0
  obtain ⟨I,fp,P,St,rfl,W,hst,hfp,hI,item,short,_,_⟩:=hw566_1
  have hIlt:I < h₂.objs.size:=hfp I (W.sub I (by simp))
  refine wpAny_bind (wpAny_newObj_type ?_)
  have hSf:h₂.objs.size ∉ fp:=fun hm=>Nat.lt_irrefl _ (hfp _ hm)
  rw [hname]
  refine wpAny_pure ⟨plainId_quiet F.plain_min_loop _,minFirst W item hu h₂.objs.size hSf hI (Nat.le_trans hI (Nat.le_of_lt hIlt)) (fun s' E hv xa xb _=>ltV_sound hv xa xb (by show A.units+1 < cLine; omega)) rfl (W.frame _ _ _ hst fun b _ o e=>Heap.get?_push_of_some _ e) (fun b o e=>Heap.get?_push_of_some _ (k₂ b o e)) hbest (Heap.get?_push_size _ rfl) fun v h' tk hP hk=>?_⟩
  have kk:∀ b o,(s.heap.push { cls:=.type "tuple",data:=.seq #[ra,rb,rc] }).get? b=some o→h'.get? b=some o:=fun b o e=>hk b o (Nat.ne_of_lt (Nat.lt_of_lt_of_le (Heap.lt_size e) hI)) (Nat.ne_of_lt (Heap.lt_size (k₂ b o e))) (Heap.get?_push_of_some _ (k₂ b o e))
  exact ⟨VRel.keeps kk _ _ hP,h',tk,rfl,fun b o e=>kk b o (Heap.get?_push_of_some _ e)⟩
end
section
set_option tactic.hygienic true
theorem lenS {n:Nat} {P:List Value→Prop} (h:∀ a r,r.length=n→P (a :: r)) (rs:List Value) (e:rs.length=n+1):P rs:=by
  cases rs with
  | nil=>exact absurd e.symm (Nat.succ_ne_zero n)
  | cons a r=>exact h a r (Nat.succ.inj e)
theorem len0 {P:List Value→Prop} (h:P []) (rs:List Value) (e:rs.length=0):P rs:=List.length_eq_zero_iff.mp e ▸ h
theorem len1 {P:List Value→Prop} (h:∀ a,P [a]):∀ rs:List Value,rs.length=1→P rs:=lenS fun a=>len0 (h a)
theorem len2 {P:List Value→Prop} (h:∀ a b,P [a,b]):∀ rs:List Value,rs.length=2→P rs:=lenS fun a=>len1 (P:=fun r=>P (a :: r)) (h a)
theorem len3 {P:List Value→Prop} (h:∀ a b c,P [a,b,c]):∀ rs:List Value,rs.length=3→P rs:=lenS fun a=>len2 (P:=fun r=>P (a :: r)) (h a)
theorem len4 {P:List Value→Prop} (h:∀ a b c d,P [a,b,c,d]):∀ rs:List Value,rs.length=4→P rs:=lenS fun a=>len3 (P:=fun r=>P (a :: r)) (h a)
structure Cx where
  prog:Program
  w:World
  A:Around
  μ:Addr
  env:Env
  gl:Str→Option Value
  P:Shared→Prop
  toks:∀ s,P s→1≤s.toks
  keep:∀ s s',P s→Keeps s s'→1≤s'.toks→P s'
  hh:A.handled=none
  hu:A.units+64 < cLine
  hk:env.scope.kind=.function
  glob:∀ s,P s→∀ x v,gl x=some v→∀ (Q:Value→Shared→Prop) (E:Value→Shared→Prop),Q v s→wpAny (model prog w) A (loadGlobal env x) Q E s
noncomputable abbrev Cx.M (c:Cx):Model:=model c.prog c.w
noncomputable def K1 (s s':Shared):Prop:=Keeps s s'∧1≤s'.toks∧s.heap.objs.size≤s'.heap.objs.size
theorem K1.trans {s s' s'':Shared} (x:K1 s s') (y:K1 s' s''):K1 s s'':=⟨kTrans x.1 y.1,y.2.1,Nat.le_trans x.2.2 y.2.2⟩
theorem K1.push {s:Shared} {o:Obj} (h:1≤s.toks):K1 s { s with heap:=s.heap.push o }:=⟨kPush s o,h,by rw [Heap.size_push]; exact Nat.le_succ _⟩
theorem Cx.go (c:Cx) {s s':Shared} (h:c.P s) (k:K1 s s'):c.P s':=c.keep _ _ h k.1 k.2.1
theorem Cx.refl (c:Cx) {s:Shared} (h:c.P s):K1 s s:=⟨kRefl s,c.toks _ h,Nat.le_refl _⟩
noncomputable def VarAt (env:Env) (h:Heap) (x:Str) (r:Value):Prop :=
  (env.kindOf x=some .local∧∃ m,h.Ns env.locals m∧m x=some r) ∨
  ((env.kindOf x=some .cell∨(env.kindOf x=some .free∧(x == ("__classdict__":Str))=false))∧∃ a,env.cells.lookup x=some a∧h.IsCell a (some r))
noncomputable def Cx.Var (c:Cx) (x:Str) (v:V):Prop:=∀ s,c.P s→∃ r,VarAt c.env s.heap x r∧VRel c.μ s.heap v r
noncomputable def Does (c:Cx) (e:Expr) (v:V):Prop:=∀ (s:Shared) (E:Value→Shared→Prop),c.P s→wpAny c.M c.A (eval e c.env) (fun r s'=>VRel c.μ s'.heap v r∧K1 s s') E s
noncomputable def Tests (c:Cx) (e:Expr) (b:Bool):Prop:=∀ (s:Shared) (E:Value→Shared→Prop),c.P s→wpAny c.M c.A (isTrue e c.env (eval e c.env)) (fun r s'=>r=b∧K1 s s') E s
section
variable {c:Cx}
theorem run_of {α:Type} {t:Sem α} {R:α→Shared→Prop} {s:Shared} {E:Value→Shared→Prop} (hs:c.P s) (h:wpAny c.M c.A t (fun r s'=>R r s'∧Keeps s s') E s) :
    wpAny c.M c.A t (fun r s'=>R r s'∧K1 s s') E s :=
  wpAny_grow (c.toks _ hs) h fun _ _ t z x=>⟨x.1,x.2,t,z⟩
theorem run_on {α:Type} {t:Sem α} {R K:α→Shared→Prop} {s:Shared} {E:Value→Shared→Prop} (hs:c.P s)
    (h:wpAny c.M c.A t (fun r s'=>R r s'∧K1 s s') E s) (g:∀ r s',R r s'→c.P s'→K1 s s'→K r s'):wpAny c.M c.A t K E s :=
  wpAny_mono h (fun r s' x=>g r s' x.1 (c.go hs x.2) x.2) fun _ _ x=>x
theorem Does.of {e:Expr} {v:V} (h:∀ (s:Shared) (E:Value→Shared→Prop),c.P s→wpAny c.M c.A (eval e c.env) (fun r s'=>VRel c.μ s'.heap v r∧Keeps s s') E s):Does c e v :=
  fun s E hs=>run_of hs (h s E hs)
theorem K1.post {s s₁:Shared} {v:V} {t:Sem Value} {E:Value→Shared→Prop} (k:K1 s s₁) (h:wpAny c.M c.A t (fun r s'=>VRel c.μ s'.heap v r∧K1 s₁ s') E s₁) :
    wpAny c.M c.A t (fun r s'=>VRel c.μ s'.heap v r∧K1 s s') E s₁:=wpAny_mono h (fun _ _ x=>⟨x.1,k.trans x.2⟩) fun _ _ x=>x
theorem Does.int {i:Int} {k:Nat} {pos:Pos}:Does c (.Constant (.int i) k pos) (.int i):=  .of fun _ _ _=>wpAny_Constant_int ⟨.i _ _,kTok _ _⟩
theorem Does.str {i:Str} {k:Nat} {pos:Pos}:Does c (.Constant (.str i) k pos) (.str i):=  .of fun _ _ _=>wpAny_Constant_str ⟨.t _ _,kTok _ _⟩
theorem Does.nm {x:Str} {pos:Pos} {v:V} (h:c.Var x v) (hd:(x == ("__debug__":Str))=false:=by decide):Does c (.Name x pos) v:=.of fun s E hs=>by
  obtain ⟨r,hy64_1⟩:=h s hs
  have hv:=hy64_1.1
  have hr:=hy64_1.2
  clear hy64_1
  refine wpAny_Name ?_ hd
  rcases hv with ⟨hl,m,hn,hm⟩ | ⟨hl | ⟨hl,hx⟩,a,ha,hc⟩
  · exact wpAny_loadName_local c.hk hl hn hm ⟨hr,kRefl _⟩
  · exact wpAny_loadName_cell c.hk hl ha hc ⟨hr,kRefl _⟩
  · exact wpAny_loadName_free c.hk hl ha hc ⟨hr,kRefl _⟩ hx
theorem glob_name {x:Str} {pos:Pos} {v:Value} {s:Shared} {Q:Value→Shared→Prop} {E:Value→Shared→Prop} (hs:c.P s) (hx:c.env.kindOf x=some .globalImplicit) (hv:c.gl x=some v) (h:Q v s)
    (hd:(x == ("__debug__":Str))=false:=by decide):wpAny c.M c.A (eval (.Name x pos) c.env) Q E s :=
  Calls.Name_function_global c.hk hx (c.glob s hs x v hv Q E h) hd
theorem Does.bin {op:Operator} {a b:Expr} {pos:Pos} {va vb v:V} (ha:Does c a va) (hb:Does c b vb) (hv:binV op va vb=some v):Does c (.BinOp a op b pos) v:=fun s E hs=>by
  refine wpAny_BinOp (run_on hs (ha s _ hs) fun ra s₁ xa h₁ k₁=>run_on h₁ (hb s₁ _ h₁) fun rb s₂ xb h₂ k₂=>?_)
  exact K1.post (k₁.trans k₂) (run_of h₂ (binV_sound hv (xa.kept k₂.1) xb (c.toks _ h₂)))
theorem Does.neg {a:Expr} {pos:Pos} {i:Int} (ha:Does c a (.int i)):Does c (.UnaryOp .USub a pos) (.int (-i)):=fun s E hs=>by
  refine wpAny_UnaryOp (run_on hs (ha s _ hs) fun ra s₁ xa h₁ k₁=>?_)
  unfold VRel at xa
  obtain ⟨t,rfl⟩:=xa
  exact K1.post k₁ (run_of h₁ (PyProof.Rows.neg_int ⟨.i _ _,kTok _ _⟩))
theorem Tests.cmp {op:CmpOp} {a b:Expr} {pos:Pos} {va vb:V} {t:Bool} (ha:Does c a va) (hb:Does c b vb) (hv:cmpV op va vb=some t) (hm:behindInMarks op b=false:=by with_unfolding_all rfl):Tests c (.Compare a [op] [b] pos) t:=fun s E hs=>by
  refine wpAny_isTrue_Compare1 (run_on hs (ha s _ hs) fun ra s₁ xa h₁ k₁=>run_on h₁ (hb s₁ _ h₁) fun rb s₂ xb h₂ k₂=>?_) hm
  refine wpAny_mono (cmpV_sound hv (xa.kept k₂.1) xb c.hu) (fun r s₃ h₃=>?_) fun _ _ x=>x
  have hx85_0:=h₃.1
  have hx85_1:=h₃.2
  try clear h₃
  subst hx85_0
  subst hx85_1
  exact wpAny_truthy_bool ⟨rfl,k₁.trans k₂⟩
theorem Tests.not {e:Expr} {pos:Pos} {b:Bool} (h:Tests c e b):Tests c (.UnaryOp .Not e pos) (!b):=fun s E hs =>
  isTrue_not (wpAny_mono (h s E hs) (fun r s' x=>⟨by rw [x.1],x.2⟩) fun _ _ x=>x)
theorem Tests.and {a b:Expr} {pos:Pos} {x:Bool} {y:Bool} (ha:Tests c a x) (hb:x=true→Tests c b y):Tests c (.BoolOp .And [a,b] pos) (x && y):=fun s E hs=>by
  refine wpAny_isTrue_BoolOp (wpAny_allTrue_And_cons (wpAny_mono (ha s E hs) (fun r s₁ h₁=>?_) fun _ _ x=>x))
  have hx91_0:=h₁.1
  have k₁:=h₁.2
  try clear h₁
  subst hx91_0
  cases r with
  | false=>exact ⟨rfl,k₁⟩
  | true =>
    refine wpAny_allTrue_And_cons (wpAny_mono (hb rfl s₁ E (c.go hs k₁)) (fun r s₂ h₂=>?_) fun _ _ x=>x)
    have hx96_0:=h₂.1
    have k₂:=h₂.2
    try clear h₂
    subst hx96_0
    cases r with
    | false=>exact ⟨rfl,k₁.trans k₂⟩
    | true=>exact wpAny_allTrue_And_nil ⟨rfl,k₁.trans k₂⟩
theorem Tests.or {a b:Expr} {pos:Pos} {x:Bool} {y:Bool} (ha:Tests c a x) (hb:x=false→Tests c b y):Tests c (.BoolOp .Or [a,b] pos) (x || y):=fun s E hs=>by
  refine wpAny_isTrue_BoolOp (wpAny_allTrue_Or_cons (wpAny_mono (ha s E hs) (fun r s₁ h₁=>?_) fun _ _ x=>x))
  have hx102_0:=h₁.1
  have k₁:=h₁.2
  try clear h₁
  subst hx102_0
  cases r with
  | true=>exact ⟨rfl,k₁⟩
  | false =>
    refine wpAny_allTrue_Or_cons (wpAny_mono (hb rfl s₁ E (c.go hs k₁)) (fun r s₂ h₂=>?_) fun _ _ x=>x)
    have hx107_0:=h₂.1
    have k₂:=h₂.2
    try clear h₂
    subst hx107_0
    cases r with
    | true=>exact ⟨rfl,k₁.trans k₂⟩
    | false=>exact wpAny_allTrue_Or_nil ⟨rfl,k₁.trans k₂⟩
theorem Tests.or3 {a b d:Expr} {pos:Pos} {x y z:Bool} (ha:Tests c a x) (hb:x=false→Tests c b y) (hd:x=false→y=false→Tests c d z):Tests c (.BoolOp .Or [a,b,d] pos) (x || (y || z)):=fun s E hs=>by
  refine wpAny_isTrue_BoolOp (wpAny_allTrue_Or_cons (wpAny_mono (ha s E hs) (fun r s₁ h₁=>?_) fun _ _ x=>x))
  have hx113_0:=h₁.1
  have k₁:=h₁.2
  try clear h₁
  subst hx113_0
  cases r with
  | true=>exact ⟨rfl,k₁⟩
  | false =>
    refine wpAny_allTrue_Or_cons (wpAny_mono (hb rfl s₁ E (c.go hs k₁)) (fun r s₂ h₂=>?_) fun _ _ x=>x)
    have hx118_0:=h₂.1
    have k₂:=h₂.2
    try clear h₂
    subst hx118_0
    cases r with
    | true=>exact ⟨rfl,k₁.trans k₂⟩
    | false =>
      refine wpAny_allTrue_Or_cons (wpAny_mono (hd rfl rfl s₂ E (c.go hs (k₁.trans k₂))) (fun r s₃ h₃=>?_) fun _ _ x=>x)
      have hx123_0:=h₃.1
      have k₃:=h₃.2
      try clear h₃
      subst hx123_0
      cases r with
      | true=>exact ⟨rfl,(k₁.trans k₂).trans k₃⟩
      | false=>exact wpAny_allTrue_Or_nil ⟨rfl,(k₁.trans k₂).trans k₃⟩
noncomputable def truthV:V→Option Bool
  | .bool b=>some b
  | .int i=>some (i != 0)
  | .str x=>if shortL x.length then some ((x.length:Int) != 0) else none
  | .list xs=>if shortL xs.length then some (!xs.isEmpty) else none
  | _=>none
theorem truthV_sound {v:V} {b:Bool} {r:Value} {s:Shared} {E:Value→Shared→Prop} {μ:Addr} {prog:Program} {w:World} {A:Around} (hv:truthV v=some b) (x:VRel μ s.heap v r):wpAny (model prog w) A (truthy r) (fun y s'=>y=b∧Keeps s s') E s:=by
  unfold truthV at hv
  split at hv
  · cases hv; unfold VRel at x; subst x; exact wpAny_truthy_bool ⟨rfl,kRefl _⟩
  · cases hv; unfold VRel at x; obtain ⟨t,rfl⟩:=x; exact PyProof.Rows.truthy_int ⟨rfl,kRefl _⟩
  · split at hv
    · rename_i hs
      cases hv; unfold VRel at x; obtain ⟨t,rfl⟩:=x
      have h1:_ < 4096:=Nat.le_of_ble_eq_true hs
      exact P.truthy_str (by omega) ⟨rfl,kTok _ _⟩
    · cases hv
  · split at hv
    · rename_i xs hs
      cases hv; unfold VRel at x; obtain ⟨a,rs,rfl,⟨n,ho⟩,y⟩:=x
      have h1:xs.length < 4096:=Nat.le_of_ble_eq_true hs
      refine wpAny_truthy_list ⟨_,ho,rfl,n,rfl⟩ (by rw [List.size_toArray,y.length]; omega) ⟨?_,kTok _ _⟩
      have:=y.length
      cases rs <;> cases xs <;> simp_all
    · cases hv
  · cases hv
theorem Tests.val {e:Expr} {v:V} {b:Bool} (h:Does c e v) (hv:truthV v=some b) (he:isTrue e c.env (eval e c.env)=(do let v ← eval e c.env; standAt e.pos; holding [v] (truthy v)):=by rfl):Tests c e b:=fun s E hs=>by
  refine wpAny_isTrue_value (run_on hs (h s _ hs) fun r s₁ x h₁ k₁=>?_) he
  exact wpAny_mono (run_of h₁ (truthV_sound hv x)) (fun _ _ y=>⟨y.1,k₁.trans y.2⟩) fun _ _ y=>y
theorem Does.ife {t a b:Expr} {pos:Pos} {x:Bool} {v:V} (ht:Tests c t x) (ha:x=true→Does c a v) (hb:x=false→Does c b v):Does c (.IfExp t a b pos) v:=fun s E hs=>by
  refine wpAny_IfExp (wpAny_mono (ht s E hs) (fun r s₁ h₁=>?_) fun _ _ x=>x)
  have hx159_0:=h₁.1
  have k₁:=h₁.2
  try clear h₁
  subst hx159_0
  cases r with
  | true=>exact K1.post k₁ (ha rfl s₁ E (c.go hs k₁))
  | false=>exact K1.post k₁ (hb rfl s₁ E (c.go hs k₁))
noncomputable def DoesL (c:Cx) (es:List Expr) (vs:List V):Prop:=∀ (pos:Pos) (s:Shared) (E:Value→Shared→Prop),c.P s →
  wpAny c.M c.A (spliced (backTo pos (starEach es c.env))) (fun rs s'=>VRels c.μ s'.heap vs rs∧K1 s s') E s
theorem DoesL.nil:DoesL c [] []:=fun _ _ _ hs=>Calls.spliced_nil ⟨.nil,c.refl hs⟩
theorem DoesL.cons {e:Expr} {es:List Expr} {v:V} {vs:List V} (h:Does c e v) (hr:DoesL c es vs) (he:starEach (e :: es) c.env=(false,eval e c.env) :: starEach es c.env:=by rfl):DoesL c (e :: es) (v :: vs):=fun pos s E hs=>by
  refine wpAny_items_cons (run_on hs (h s _ hs) fun r s₁ x h₁ k₁=>?_) he
  exact wpAny_mono (hr pos s₁ E h₁) (fun rs s₂ y=>⟨.cons (x.kept y.2.1) y.1,k₁.trans y.2⟩) fun _ _ y=>y
theorem shortL_fits {n:Nat} (h:shortL n=true):n≤sizeLine:=by have:n < 4096:=Nat.le_of_ble_eq_true h; rw [sizeLine_eq]; omega
theorem Does.tup {es:List Expr} {k:Nat} {pos:Pos} {vs:List V} (h:DoesL c es vs) (hl:shortL vs.length=true:=by rfl):Does c (.Tuple es k pos) (.tup vs):=fun s E hs=>by
  refine wpAny_Tuple (wpAny_mono (h pos s E hs) (fun rs s₁ x=>⟨by rw [x.1.length]; exact shortL_fits hl,tup_push x.1,x.2.trans (K1.push x.2.2.1)⟩) fun _ _ x=>x)
theorem Does.list {es:List Expr} {pos:Pos} {vs:List V} (h:DoesL c es vs) (hl:shortL vs.length=true:=by rfl):Does c (.List es pos) (.list vs):=fun s E hs=>by
  refine wpAny_List (wpAny_mono (h pos s E hs) (fun rs s₁ x=>⟨by rw [x.1.length]; exact shortL_fits hl,list_push x.1,x.2.trans (K1.push x.2.2.1)⟩) fun _ _ x=>x)
end
end
section
variable {c:Cx}
noncomputable def Gives1 (c:Cx) (f:Value) (vs:List V) (v:V):Prop:=∀ (s:Shared) (E:Value→Shared→Prop) (rs:List Value),c.P s→VRels c.μ s.heap vs rs →
  wpAny c.M c.A (call f rs) (fun r s'=>VRel c.μ s'.heap v r∧K1 s s') E s
theorem Gives1.of {f:Value} {vs:List V} {v:V} (h:∀ (s:Shared) (E:Value→Shared→Prop) (rs:List Value),c.P s→VRels c.μ s.heap vs rs →
  wpAny c.M c.A (call f rs) (fun r s'=>VRel c.μ s'.heap v r∧Keeps s s') E s):Gives1 c f vs v:=fun s E rs hs x=>run_of hs (h s E rs hs x)
theorem VRels.inv1 {μ:Addr} {h:Heap} {a:V} {rs:List Value} (x:VRels μ h [a] rs):∃ r,rs=[r]∧VRel μ h a r:=by
  unfold VRels at x; obtain ⟨r,rt,rfl,y,z⟩:=x; unfold VRels at z; subst z; exact ⟨r,rfl,y⟩
theorem VRels.inv2 {μ:Addr} {h:Heap} {a b:V} {rs:List Value} (x:VRels μ h [a,b] rs):∃ r r',rs=[r,r']∧VRel μ h a r∧VRel μ h b r':=by
  unfold VRels at x; obtain ⟨r,rt,rfl,y,z⟩:=x; obtain ⟨r',rfl,y'⟩:=VRels.inv1 z; exact ⟨r,r',rfl,y,y'⟩
theorem VRels.inv3 {μ:Addr} {h:Heap} {a b d:V} {rs:List Value} (x:VRels μ h [a,b,d] rs):∃ r r' r'',rs=[r,r',r'']∧VRel μ h a r∧VRel μ h b r'∧VRel μ h d r'':=by
  unfold VRels at x; obtain ⟨r,rt,rfl,y,z⟩:=x; obtain ⟨r',r'',rfl,y',y''⟩:=VRels.inv2 z; exact ⟨r,r',r'',rfl,y,y',y''⟩
theorem args_any {f:Value} {e:Expr} {es:List Expr} {env:Env} {pos:Pos} {M:Model} {A:Around} {E:Value→Shared→Prop} {s:Shared} {Q:Args→Shared→Prop}
    (h:wpAny M A (spliced (backTo pos (starEach (e :: es) env))) (fun vs s'=>Q ⟨vs,[]⟩ s') E s) (he:starEach (e :: es) env=(false,eval e env) :: starEach es env) :
    wpAny M A (evalArgs f true (backTo pos (starEach (e :: es) env)) []) Q E s:=by
  rw [he] at h ⊢
  exact Calls.evalArgs_plain h
theorem Does.callB {x:Str} {np pos:Pos} {e:Expr} {es:List Expr} {vs:List V} {v:V} {id:String} (hx:c.env.kindOf x=some .globalImplicit) (hv:c.gl x=some (.builtin id)) (ha:DoesL c (e :: es) vs)
    (g:Gives1 c (.builtin id) vs v) (he:starEach (e :: es) c.env=(false,eval e c.env) :: starEach es c.env:=by rfl) (hp:(backTo pos (starEach (e :: es) c.env)).any (·.1)=false:=by rfl) (hd:(x == ("__debug__":Str))=false:=by decide) :
    Does c (.Call (.Name x np) (e :: es) [] pos) v:=fun s E hs=>by
  refine wpAny_Call_NameR (glob_name hs hx hv ?_ hd)
  refine Calls.callWith_builtin hp (args_any (run_on hs (ha pos s E hs) fun rs s₁ y h₁ k₁=>?_) he)
  exact K1.post k₁ (g s₁ E rs h₁ y)
theorem Does.callF {x:Str} {np pos:Pos} {e:Expr} {es:List Expr} {vs:List V} {v:V} {a:Addr} {o:Obj} {fd:FuncData} (hx:c.env.kindOf x=some .globalImplicit) (hv:c.gl x=some (.ref a)) (ha:DoesL c (e :: es) vs)
    (ho:∀ s,c.P s→s.heap.get? a=some o) (hfd:o.data=.func fd)
    (g:Gives1 c (.ref a) vs v) (he:starEach (e :: es) c.env=(false,eval e c.env) :: starEach es c.env:=by rfl) (hd:(x == ("__debug__":Str))=false:=by decide) :
    Does c (.Call (.Name x np) (e :: es) [] pos) v:=fun s E hs=>by
  refine wpAny_Call_NameR (glob_name hs hx hv ?_ hd)
  refine Calls.callWith_function (o:=o) (fd:=fd) (args_any (run_on hs (ha pos s E hs) fun rs s₁ y h₁ k₁=>?_) he)
  exact ⟨⟨ho _ h₁,hfd⟩,K1.post k₁ (g s₁ E rs h₁ y)⟩
theorem Does.meth {o e:Expr} {es:List Expr} {name:Str} {apos pos:Pos} {vo:V} {vs:List V} {v:V} {T id:String} (ho:Does c o vo) (ha:DoesL c (e :: es) vs) (pa:PlainAttrs T) (sl:Slot T name id) (ty:typeOf (.builtin id)=pure (.type "method_descriptor"))
    (hT:∀ (s:Shared) r,VRel c.μ s.heap vo r→s.TypeIs r T∧(∀ a,r=.ref a→∃ ob,s.heap.get? a=some ob∧ob.dict=none)) (g:Gives1 c (.builtin id) (vo :: vs) v)
    (hbase:attributeBase o name c.env (eval o c.env)=eval o c.env:=by rfl)
    (hfew:((backTo pos (starEach (e :: es) c.env)).all (fun x=>!x.1) && (backToKw pos (keywordEach [] c.env)).all (fun x=>x.1.isSome)
      && decide ((e :: es).length+([]:List Keyword).length+(if ([]:List Keyword).isEmpty then 0 else 1) < 30))=true:=by rfl)
    (hline:(apos.endLine == pos.line)=true:=by rfl) (he:starEach (e :: es) c.env=(false,eval e c.env) :: starEach es c.env:=by rfl) (hp:(backTo pos (starEach (e :: es) c.env)).any (·.1)=false:=by rfl) :
    Does c (.Call (.Attribute o name apos) (e :: es) [] pos) v:=fun s E hs=>by
  refine wpAny_Call_method_lateS hbase hfew hline (run_on hs (ho s E hs) fun r s₁ x h₁ k₁=>?_)
  have hz54:=hT s₁ r x
  have t1:=hz54.1
  have t2:=hz54.2
  clear hz54
  refine ⟨T,id,pa,sl,ty,t1,t2,Calls.callWith_builtin hp (args_any (run_on h₁ (ha pos s₁ E h₁) fun rs s₂ y h₂ k₂=>?_) he)⟩
  exact K1.post (k₁.trans k₂) (g s₂ E (r :: rs) h₂ (.cons (x.kept k₂.1) y))
theorem strT {μ:Addr} {x:Str} (s:Shared) (r:Value) (h:VRel μ s.heap (.str x) r):s.TypeIs r "str"∧(∀ a,r=.ref a→∃ ob,s.heap.get? a=some ob∧ob.dict=none):=by
  unfold VRel at h; obtain ⟨t,rfl⟩:=h; exact ⟨typeIs_str _ _ _,fun a e=>nomatch e⟩
theorem listT {μ:Addr} {x:List V} (s:Shared) (r:Value) (h:VRel μ s.heap (.list x) r):s.TypeIs r "list"∧(∀ a,r=.ref a→∃ ob,s.heap.get? a=some ob∧ob.dict=none):=by
  unfold VRel at h; obtain ⟨a,rs,rfl,⟨n,ho⟩,_⟩:=h
  exact ⟨⟨_,ho,rfl⟩,fun a' e=>by cases e; exact ⟨_,ho,rfl⟩⟩
theorem Does.startswith {o e:Expr} {apos pos:Pos} {x y:Str} (ho:Does c o (.str x)) (ha:Does c e (.str y))
    (hbase:attributeBase o (Str.ofString "startswith") c.env (eval o c.env)=eval o c.env:=by rfl)
    (hfew:((backTo pos (starEach [e] c.env)).all (fun x=>!x.1) && (backToKw pos (keywordEach [] c.env)).all (fun x=>x.1.isSome)
      && decide ([e].length+([]:List Keyword).length+(if ([]:List Keyword).isEmpty then 0 else 1) < 30))=true:=by rfl)
    (hline:(apos.endLine == pos.line)=true:=by rfl) (he:starEach [e] c.env=[(false,eval e c.env)]:=by rfl) (hp:(backTo pos (starEach [e] c.env)).any (·.1)=false:=by rfl) :
    Does c (.Call (.Attribute o (Str.ofString "startswith") apos) [e] [] pos) (.bool (Txt.startswith x y)) :=
  .meth ho (.cons ha .nil he) F.plainAttrs_str F.slot_str_startswith F.type_str_startswith strT (.of fun s E rs hs h=>by
    obtain ⟨r,r',hy71_1⟩:=h.inv2
    have hx71_0:=hy71_1.1
    have h1:=hy71_1.2.1
    have h2:=hy71_1.2.2
    clear hy71_1
    subst hx71_0
    unfold VRel at h1 h2
    obtain ⟨t,rfl⟩:=h1; obtain ⟨u,rfl⟩:=h2
    exact SC.startswith ⟨.b _,kRefl _⟩) hbase hfew hline he hp
theorem Gives1.len {vs:List V} (hl:shortL vs.length=true):Gives1 c (.builtin "len") [.list vs] (.int vs.length):=.of fun s E rs hs h₀=>by
  obtain ⟨r,hy77_1⟩:=h₀.inv1
  have hx77_0:=hy77_1.1
  have h:=hy77_1.2
  clear hy77_1
  subst hx77_0
  unfold VRel at h
  obtain ⟨a,rs,hy79_1⟩:=h
  have hx79_0:=hy79_1.1
  have hp:=hy79_1.2.1
  have y:=hy79_1.2.2
  clear hy79_1
  subst hx79_0
  have h1:vs.length < 4096:=Nat.le_of_ble_eq_true hl
  refine Calls.call_len_list hp.isList (by rw [List.size_toArray,y.length]; omega) ?_
  rw [List.size_toArray,y.length]
  exact ⟨.i _ _,kTok _ _⟩
theorem Gives1.lenS {x:Str} (hl:shortL x.length=true):Gives1 c (.builtin "len") [.str x] (.int x.length):=.of fun s E rs hs h₀=>by
  obtain ⟨r,hy85_1⟩:=h₀.inv1
  have hx85_0:=hy85_1.1
  have h:=hy85_1.2
  clear hy85_1
  subst hx85_0
  unfold VRel at h
  obtain ⟨t,rfl⟩:=h
  have h1:x.length < 4096:=Nat.le_of_ble_eq_true hl
  exact P.len_str (by omega) ⟨.i _ _,kTok _ _⟩
theorem Gives1.max1 {v y x₀:V} {r₀:List V} (hv:itemsV v=some (x₀ :: r₀)) (hbest:bestV gtV x₀ r₀=some y):Gives1 c (.builtin "max") [v] y:=.of fun s E rs hs h₀=>by
  obtain ⟨r,hy91_1⟩:=h₀.inv1
  have hx91_0:=hy91_1.1
  have h:=hy91_1.2
  clear hy91_1
  subst hx91_0
  exact max_one h hv hbest c.hh c.hu
theorem Gives1.max2 {a b y:V} (hbest:bestV gtV a [b]=some y):Gives1 c (.builtin "max") [a,b] y:=.of fun s E rs hs h₀=>by
  obtain ⟨r,r',hy94_1⟩:=h₀.inv2
  have hx94_0:=hy94_1.1
  have h:=hy94_1.2.1
  have h':=hy94_1.2.2
  clear hy94_1
  subst hx94_0
  exact max_2 h h' hbest c.hh c.hu
theorem Gives1.max3 {a b d y:V} (hbest:bestV gtV a [b,d]=some y):Gives1 c (.builtin "max") [a,b,d] y:=.of fun s E rs hs h₀=>by
  obtain ⟨r,r',r'',hy97_1⟩:=h₀.inv3
  have hx97_0:=hy97_1.1
  have h:=hy97_1.2.1
  have h':=hy97_1.2.2.1
  have h'':=hy97_1.2.2.2
  clear hy97_1
  subst hx97_0
  exact max_3 h h' h'' hbest c.hh c.hu
theorem Gives1.min1 {v y x₀:V} {r₀:List V} (hv:itemsV v=some (x₀ :: r₀)) (hbest:bestV ltV x₀ r₀=some y):Gives1 c (.builtin "min") [v] y:=.of fun s E rs hs h₀=>by
  obtain ⟨r,hy100_1⟩:=h₀.inv1
  have hx100_0:=hy100_1.1
  have h:=hy100_1.2
  clear hy100_1
  subst hx100_0
  exact min_one h hv hbest c.hh c.hu
theorem Gives1.min3 {a b d y:V} (hbest:bestV ltV a [b,d]=some y):Gives1 c (.builtin "min") [a,b,d] y:=.of fun s E rs hs h₀=>by
  obtain ⟨r,r',r'',hy103_1⟩:=h₀.inv3
  have hx103_0:=hy103_1.1
  have h:=hy103_1.2.1
  have h':=hy103_1.2.2.1
  have h'':=hy103_1.2.2.2
  clear hy103_1
  subst hx103_0
  exact min_3 h h' h'' hbest c.hh c.hu
theorem Does.idx {a i:Expr} {pos:Pos} {vs:List V} {k:Int} {v:V} (ha:Does c a (.list vs)) (hi:Does c i (.int k)) (h0:0≤k) (hk:vs[k.toNat]?=some v) (hl:shortL vs.length=true)
    (hs:∀ o i',subscripted i false o i'=operate [o,i'] (getItem o i'):=by intro _ _; rfl):Does c (.Subscript a i pos) v:=fun s E hs'=>by
  refine Subscript_ (run_on hs' (ha s E hs') fun ra s₁ xa h₁ k₁=>run_on h₁ (hi s₁ E h₁) fun ri s₂ xi h₂ k₂=>?_)
  replace xa:=xa.kept k₂.1
  unfold VRel at xa xi
  obtain ⟨l,rs,hy126_1⟩:=xa
  have hx126_0:=hy126_1.1
  have hp:=hy126_1.2.1
  have y:=hy126_1.2.2
  clear hy126_1
  subst hx126_0
  obtain ⟨t,rfl⟩:=xi
  obtain ⟨r,hy128_1⟩:=y.get hk
  have hr:=hy128_1.1
  have z:=hy128_1.2
  clear hy128_1
  have h1:vs.length < 4096:=Nat.le_of_ble_eq_true hl
  have h2:k.toNat < vs.length:=(List.getElem?_eq_some_iff.mp hk).1
  refine tail_any hp.isList.typeIs slot_list_getitem.lookup (wpAny_getItem_list hp.isList h0 (by omega) (by simpa using hr) ?_) (hs _ _)
  exact ⟨z,k₁.trans k₂⟩
theorem Does.idxT {a i:Expr} {pos:Pos} {vs:List V} {k:Int} {v:V} (ha:Does c a (.tup vs)) (hi:Does c i (.int k)) (h0:0≤k) (hk:vs[k.toNat]?=some v) (hl:shortL vs.length=true)
    (hs:∀ o i',subscripted i false o i'=operate [o,i'] (getItem o i'):=by intro _ _; rfl):Does c (.Subscript a i pos) v:=fun s E hs'=>by
  refine Subscript_ (run_on hs' (ha s E hs') fun ra s₁ xa h₁ k₁=>run_on h₁ (hi s₁ E h₁) fun ri s₂ xi h₂ k₂=>?_)
  replace xa:=xa.kept k₂.1
  unfold VRel at xa xi
  obtain ⟨l,rs,hy138_1⟩:=xa
  have hx138_0:=hy138_1.1
  have hp:=hy138_1.2.1
  have y:=hy138_1.2.2
  clear hy138_1
  subst hx138_0
  obtain ⟨t,rfl⟩:=xi
  obtain ⟨r,hy140_1⟩:=y.get hk
  have hr:=hy140_1.1
  have z:=hy140_1.2
  clear hy140_1
  have h1:vs.length < 4096:=Nat.le_of_ble_eq_true hl
  have h2:k.toNat < vs.length:=(List.getElem?_eq_some_iff.mp hk).1
  have hsq:seqIndex? k rs.toArray.size=some k.toNat:=by
    rw [List.size_toArray,y.length]
    unfold seqIndex?
    have e1:¬ k < 0:=by omega
    have e2:(0≤k∧k < (vs.length:Int)):=by omega
    simp [e1,e2]
  have hp':IsTup s₂.heap l rs.toArray:=hp
  refine tail_any hp'.typeIs slot_tuple_getitem.lookup (getItem_tuple hp' (by omega) (by omega) hsq (by simpa using hr) ?_) (hs _ _)
  exact ⟨z,k₁.trans k₂⟩
end
theorem lookup_relabel_global {env:Env}:∀ {names:List (Str × NameKind)} {x:Str},names.lookup x=some .globalImplicit →
    (names.map fun (n,k)=>if (k == NameKind.free && env.scope.kind == .function && env.kindOf n == some .cell) then (n,NameKind.cell) else (n,k)).lookup x=some .globalImplicit
  | [],_,h=>by simp at h
  | (n,k) :: r,x,h=>by
    have ih:=@lookup_relabel_global env r x
    show List.lookup x ((if (k == NameKind.free && env.scope.kind == .function && env.kindOf n == some .cell)=true then (n,NameKind.cell) else (n,k)) :: _)=_
    cases hx:x == n with
    | true =>
      simp only [List.lookup_cons,hx] at h
      cases h
      simp [List.lookup_cons,hx]
    | false =>
      simp only [List.lookup_cons,hx] at h
      split <;> simp only [List.lookup_cons,hx] <;> exact ih h
theorem lookup_relabel_free {env:Env} (hk:env.scope.kind=.function):∀ {names:List (Str × NameKind)} {x:Str},names.lookup x=some .free →
    (names.map fun (n,k)=>if (k == NameKind.free && env.scope.kind == .function && env.kindOf n == some .cell) then (n,NameKind.cell) else (n,k)).lookup x=some (if env.kindOf x=some .cell then .cell else .free)
  | [],_,h=>by simp at h
  | (n,k) :: r,x,h=>by
    have ih:=@lookup_relabel_free env hk r x
    show List.lookup x ((if (k == NameKind.free && env.scope.kind == .function && env.kindOf n == some .cell)=true then (n,NameKind.cell) else (n,k)) :: _)=_
    cases hx:x == n with
    | true =>
      simp only [List.lookup_cons,hx] at h
      cases h
      obtain rfl:=eq_of_beq hx
      by_cases hc:env.kindOf x=some .cell
      · simp [hc,hk]
      · simp [hc,hk]
    | false =>
      simp only [List.lookup_cons,hx] at h
      split <;> simp only [List.lookup_cons,hx] <;> exact ih h
theorem wpAny_closure {M:Model} {A:Around} {E:Value→Shared→Prop} {s:Shared} {env:Env} {scope:Scope} (h:∀ y∈scope.names,y.2=.free→(env.cells.lookup y.1).isSome=true) :
    ∃ cl,closureFor scope env=pure cl∧∀ y,scope.names.lookup y=some .free→cl.lookup y=env.cells.lookup y:=by
  have key:∀ (names:List (Str × NameKind)) (acc:List (Str × Addr)),(∀ y∈names,y.2=.free→(env.cells.lookup y.1).isSome=true)→(∀ y a,(y,a)∈acc→env.cells.lookup y=some a) →
      ∃ cl,(forIn names acc (fun (x:Str × NameKind) (cs:List (Str × Addr))=>if x.2 == .free then (do let a ← cellOf env x.1; pure (ForInStep.yield ((x.1,a) :: cs)):Sem _) else pure (ForInStep.yield cs)):Sem (List (Str × Addr)))=pure cl ∧
        (∀ y a,(y,a)∈cl→env.cells.lookup y=some a)∧(∀ y∈acc,y∈cl)∧∀ y∈names,y.2=.free→∃ a,(y.1,a)∈cl:=by
    intro names
    induction names with
    | nil=>intro acc _ ha; exact ⟨acc,rfl,ha,fun _ m=>m,fun _ m=>(nomatch m)⟩
    | cons x r ih =>
      intro acc hn ha
      rw [List.forIn_cons]
      cases hx:x.2 == NameKind.free with
      | true =>
        have hf:x.2=.free:=eq_of_beq hx
        obtain ⟨a,hc⟩:=Option.isSome_iff_exists.mp (hn x List.mem_cons_self hf)
        have ec:cellOf env x.1=pure a:=by unfold cellOf; rw [hc]
        obtain ⟨cl,e,h1,h2,h3⟩:=ih ((x.1,a) :: acc) (fun y hy=>hn y (List.mem_cons_of_mem _ hy)) (fun y b m=>by
          rcases List.mem_cons.mp m with q | q
          · cases q; exact hc
          · exact ha y b q)
        refine ⟨cl,?_,h1,fun y m=>h2 y (List.mem_cons_of_mem _ m),fun y m hy=>?_⟩
        · simp only [ec,if_true,pure_bind]; exact e
        · rcases List.mem_cons.mp m with rfl | m
          · exact ⟨a,h2 _ List.mem_cons_self⟩
          · exact h3 y m hy
      | false =>
        obtain ⟨cl,hy63_1⟩:=ih acc (fun y hy=>hn y (List.mem_cons_of_mem _ hy)) ha
        have e:=hy63_1.1
        have h1:=hy63_1.2.1
        have h2:=hy63_1.2.2.1
        have h3:=hy63_1.2.2.2
        clear hy63_1
        refine ⟨cl,?_,h1,h2,fun y m hy=>?_⟩
        · simp only [Bool.false_eq_true,if_false,pure_bind]; exact e
        · rcases List.mem_cons.mp m with rfl | m
          · rw [hy] at hx; exact absurd hx (by decide)
          · exact h3 y m hy
  obtain ⟨cl,hy69_1⟩:=key scope.names [] h (fun _ _ m=>(nomatch m))
  have e:=hy69_1.1
  have h1:=hy69_1.2.1
  have h3:=hy69_1.2.2.2
  clear hy69_1
  refine ⟨cl,?_,fun y hy=>?_⟩
  · simp only [closureFor,bind_pure]
    exact e
  · obtain ⟨a,m⟩:=h3 (y,.free) (mem_of_lookup hy) rfl
    have:∃ b,cl.lookup y=some b:=by
      cases hl:cl.lookup y with
      | some b=>exact ⟨b,rfl⟩
      | none=>have q:=(List.lookup_eq_none_iff.mp hl) _ m; simp at q
    obtain ⟨b,hb⟩:=this
    rw [hb,h1 y b (mem_of_lookup hb)]
section
variable {c:Cx}
noncomputable def DoesF (c:Cx) (e:Expr) (v:V):Prop:=∀ (s:Shared) (E:Value→Shared→Prop),c.P s →
  wpAny c.M c.A (eval e c.env) (fun r s'=>(VRel c.μ s'.heap v r∧EltOk c.μ s.heap.objs.size s'.heap v r)∧K1 s s') E s
theorem DoesF.does {e:Expr} {v:V} (h:DoesF c e v):Does c e v:=fun s E hs=>wpAny_mono (h s E hs) (fun _ _ x=>⟨x.1.1,x.2⟩) fun _ _ x=>x
theorem VRel.flat {v:V} (hf:v.flat=true) {μ:Addr} {h h':Heap} {r:Value} (x:VRel μ h v r):VRel μ h' v r:=by
  cases v <;> first | (unfold VRel at *; exact x) | cases hf
theorem VRels.flat {μ:Addr} {h h':Heap}:∀ {vs:List V} {rs:List Value},vs.all V.flat=true→VRels μ h vs rs→VRels μ h' vs rs
  | [],_,_,x=>by unfold VRels at *; exact x
  | v :: vs,_,hf,x=>by
    unfold VRels at *
    simp only [List.all_cons,Bool.and_eq_true] at hf
    obtain ⟨r,rt,hy94_1⟩:=x
    have hx94_0:=hy94_1.1
    have y:=hy94_1.2.1
    have z:=hy94_1.2.2
    clear hy94_1
    subst hx94_0
    exact ⟨r,rt,rfl,y.flat hf.1,VRels.flat hf.2 z⟩
theorem Does.flat {e:Expr} {v:V} (h:Does c e v) (hf:v.flat=true:=by rfl):DoesF c e v:=fun s E hs=>wpAny_mono (h s E hs) (fun _ _ x=>⟨⟨x.1,fun _ _=>x.1.flat hf⟩,x.2⟩) fun _ _ x=>x
theorem DoesF.tup {es:List Expr} {k:Nat} {pos:Pos} {vs:List V} (h:DoesL c es vs) (hf:vs.all V.flat=true:=by rfl) (hl:shortL vs.length=true:=by rfl):DoesF c (.Tuple es k pos) (.tup vs):=fun s E hs=>by
  refine wpAny_Tuple (wpAny_mono (h pos s E hs) (fun rs s₁ x=>⟨by rw [x.1.length]; exact shortL_fits hl,⟨tup_push x.1,fun h' k'=>?_⟩,x.2.trans (K1.push x.2.2.1)⟩) fun _ _ x=>x)
  unfold VRel
  exact ⟨_,rs,rfl,⟨_,k' _ _ (.inl ⟨_,_,rfl⟩) x.2.2.2 (Heap.get?_push_size _ rfl),rfl,_,rfl⟩,x.1.flat hf⟩
theorem DoesF.list {es:List Expr} {pos:Pos} {vs:List V} (h:DoesL c es vs) (hf:vs.all V.flat=true:=by rfl) (hl:shortL vs.length=true:=by rfl):DoesF c (.List es pos) (.list vs):=fun s E hs=>by
  refine wpAny_List (wpAny_mono (h pos s E hs) (fun rs s₁ x=>⟨by rw [x.1.length]; exact shortL_fits hl,⟨list_push x.1,fun h' k'=>?_⟩,x.2.trans (K1.push x.2.2.1)⟩) fun _ _ x=>x)
  unfold VRel
  exact ⟨_,rs,rfl,⟨_,k' _ _ (.inl ⟨_,_,rfl⟩) x.2.2.2 (Heap.get?_push_size _ rfl)⟩,x.1.flat hf⟩
noncomputable def Cx.comp (c:Cx) (scope:Scope) (cl:List (Str × Addr)) (C:Addr) (bs:List (Str × V)) (hk:scope.kind=.function):Cx :=
  { c with
    env:=compEnvC scope cl C c.env
    P:=fun s=>c.P s∧∃ m,s.heap.Ns C m∧∀ x v,(x,v)∈bs→∃ r,m x=some r∧VRel c.μ s.heap v r
    toks:=fun s h=>c.toks s h.1
    keep:=fun s s' h k t=>⟨c.keep s s' h.1 k t,let ⟨m,hn,hb⟩:=h.2; ⟨m,hn.keeps (kGet k),fun x v hm=>let ⟨r,e,y⟩:=hb x v hm; ⟨r,e,y.kept k⟩⟩⟩
    hk:=hk
    glob:=fun s h x v hv Q E q=>c.glob s h.1 x v hv Q E q }
noncomputable def Closes (c:Cx) (scope:Scope) (cl:List (Str × Addr)):Prop:=∀ y,scope.names.lookup y=some .free→cl.lookup y=c.env.cells.lookup y
theorem Cx.own {scope:Scope} {cl:List (Str × Addr)} {C:Addr} {bs:List (Str × V)} {hk:scope.kind=.function} {x:Str} {v:V} (hb:(x,v)∈bs) (hl:scope.names.lookup x=some .local):(c.comp scope cl C bs hk).Var x v :=
  fun s hs=>by
    have hw120_1:=hs.2
    try clear hs
    obtain ⟨m,hy120_1⟩:=hw120_1
    have hn:=hy120_1.1
    have hm:=hy120_1.2
    clear hy120_1
    obtain ⟨r,hy121_1⟩:=hm x v hb
    have e:=hy121_1.1
    have y:=hy121_1.2
    clear hy121_1
    exact ⟨r,.inl ⟨lookup_relabel_local hl,m,hn,e⟩,y⟩
theorem Cx.out {scope:Scope} {cl:List (Str × Addr)} {C:Addr} {bs:List (Str × V)} {hk:scope.kind=.function} {y:Str} {v:V} (hy:c.Var y v) (hcl:Closes c scope cl) (hl:scope.names.lookup y=some .free) (hno:c.env.kindOf y≠some .local) :
    (c.comp scope cl C bs hk).Var y v:=fun s hs=>by
  obtain ⟨r,hy125_1⟩:=hy s hs.1
  have hv:=hy125_1.1
  have x:=hy125_1.2
  clear hy125_1
  refine ⟨r,?_,x⟩
  have e:=lookup_relabel_free (env:=c.env) c.hk hl
  rcases hv with ⟨hl',_⟩ | ⟨hl',a,ha,hc⟩
  · exact absurd hl' hno
  · refine .inr ⟨?_,a,(hcl y hl).trans ha,hc⟩
    rcases hl' with hl' | ⟨hl',hn⟩
    · rw [if_pos hl'] at e; exact .inl e
    · rw [if_neg (by rw [hl']; decide)] at e; exact .inr ⟨e,hn⟩
theorem Cx.glb {scope:Scope} {cl:List (Str × Addr)} {C:Addr} {bs:List (Str × V)} {hk:scope.kind=.function} {x:Str} (hl:scope.names.lookup x=some .globalImplicit):(c.comp scope cl C bs hk).env.kindOf x=some .globalImplicit:=lookup_relabel_global hl
end
section
variable {c:Cx}
noncomputable def IfsOk (c:Cx) (ifs:List Expr) (b:Bool):Prop:=match ifs with
  | []=>b=true
  | [t]=>Tests c t b
  | _=>False
noncomputable def Binds (c:Cx) (scope:Scope) (target:Expr) (v:V) (bs:List (Str × V)):Prop :=
  ∀ (cl:List (Str × Addr)) (C:Addr) (s:Shared) (E:Value→Shared→Prop) (r:Value),VRel c.μ s.heap v r→(∃ m,s.heap.Ns C m) →
    wpAny c.M c.A (assign target (compEnvC scope cl C c.env) r) (fun _ s'=>∃ h tk,s'={ s with heap:=h,toks:=tk }∧Heap.ExtBut C s.heap h∧∃ m,h.Ns C m∧∀ x v,(x,v)∈bs→∃ r,m x=some r∧VRel c.μ h v r) E s
theorem Binds.name {scope:Scope} {x:Str} {p:Pos} {v:V} (hl:scope.names.lookup x=some .local) (hk:scope.kind=.function) (hf:v.flat=true):Binds c scope (.Name x p) v [(x,v)]:=by
  intro cl C s E r hr hm
  obtain ⟨m,hn⟩:=hm
  refine wpAny_assign_Name (wpAny_storeName_local (env:=compEnvC scope cl C c.env) (lookup_relabel_local hl) hn (fun h' hn' hs'=>?_) (by show (scope.kind == .class || (scope.kind == .module && _))=false; rw [hk]; rfl))
  refine ⟨h',_,rfl,hs'.extBut,_,hn',fun y u hm=>?_⟩
  simp only [List.mem_cons,Prod.mk.injEq,List.not_mem_nil,or_false] at hm
  have hx20_0:=hm.1
  have hx20_1:=hm.2
  try clear hm
  subst hx20_0
  subst hx20_1
  exact ⟨r,by simp,hr.flat hf⟩
theorem Binds.pair {scope:Scope} {x y:Str} {p q:Pos} {k:Nat} {tp:Pos} {a b:V} (hx:scope.names.lookup x=some .local) (hy:scope.names.lookup y=some .local) (hk:scope.kind=.function) (ha:a.flat=true) (hb:b.flat=true) (hne:x≠y) :
    Binds c scope (.Tuple [.Name x p,.Name y q] k tp) (.tup [a,b]) [(x,a),(y,b)]:=by
  intro cl C s E r hr hm
  obtain ⟨m,hn⟩:=hm
  unfold VRel at hr
  obtain ⟨t,rs,hy27_1⟩:=hr
  have hx27_0:=hy27_1.1
  have ht:=hy27_1.2.1
  have hrs:=hy27_1.2.2
  clear hy27_1
  subst hx27_0
  obtain ⟨ra,rb,hy28_1⟩:=hrs.inv2
  have hx28_0:=hy28_1.1
  have xa:=hy28_1.2.1
  have xb:=hy28_1.2.2
  clear hy28_1
  subst hx28_0
  refine wpAny_assign_Tuple c.hh ht rfl rfl fun h₁ he=>?_
  have hlt:C≠s.heap.objs.size:=Nat.ne_of_lt hn.lt
  have hn₁:h₁.Ns C m:=hn.extBut he hlt
  show wpAny c.M c.A (assignInOrder [assign (.Name x p) (compEnvC scope cl C c.env),assign (.Name y q) (compEnvC scope cl C c.env)] [ra,rb]) _ E _
  refine wpAny_assignInOrder_more (wpAny_assign_Name (wpAny_storeName_local (env:=compEnvC scope cl C c.env) (lookup_relabel_local hx) hn₁ (fun h₂ hn₂ hs₂=>?_) (by show (scope.kind == .class || (scope.kind == .module && _))=false; rw [hk]; rfl)))
  refine wpAny_assignInOrder_more (wpAny_assign_Name (wpAny_storeName_local (env:=compEnvC scope cl C c.env) (lookup_relabel_local hy) hn₂ (fun h₃ hn₃ hs₃=>?_) (by show (scope.kind == .class || (scope.kind == .module && _))=false; rw [hk]; rfl)))
  refine wpAny_assignInOrder_none ⟨h₃,_,rfl,fun d o hd e=>hs₃.extBut d o hd (hs₂.extBut d o hd (he d o (Nat.ne_of_lt (Heap.lt_size e)) e)),_,hn₃,fun z u hm=>?_⟩
  simp only [List.mem_cons,Prod.mk.injEq,List.not_mem_nil,or_false] at hm
  rcases hm with ⟨rfl,rfl⟩ | ⟨rfl,rfl⟩
  · exact ⟨ra,by simp [hne],xa.flat ha⟩
  · exact ⟨rb,by simp,xb.flat hb⟩
theorem compGoS_pure {pz:V→Bool} {fz:V→V}:∀ xs:List V,compGoS (G:=Unit) (fun _ v=>some (pz v)) (fun _ v=>some (fz v,())) () xs=some ((xs.filter pz).map fz,())
  | []=>rfl
  | v :: r=>by
    unfold compGoS
    cases hp:pz v with
    | false=>simp only; rw [compGoS_pure r,List.filter_cons_of_neg (by simp [hp])]
    | true=>simp only; rw [compGoS_pure r,List.filter_cons_of_pos hp]; rfl
theorem comp_core {elt target iter:Expr} {ifs:List Expr} {scope:Scope} {pos ipos:Pos} {src:V} {xs:List V} {pz:V→Bool} {fz:V→V} {bs:V→List (Str × V)} {use:Option (Value→Sem Unit)} {Q:Value→Shared→Prop} {E:Value→Shared→Prop} {s:Shared}
    (hi:Does c iter src) (hsrc:itemsV src=some xs) (hgo:(∃ nm q,target=.Name nm q)∨src.isList=true)
    (hcell:∀ y∈scope.names,y.2≠.cell) (hk:scope.kind=.function) (hnames:∀ y∈scope.names,y.2=.local→scope.names.lookup y.1=some .local)
    (hfree:∀ y∈scope.names,y.2=.free→(c.env.cells.lookup y.1).isSome=true)
    (hb:∀ v∈xs,Binds c scope target v (bs v))
    (htest:∀ v∈xs,∀ cl C,Closes c scope cl→IfsOk (c.comp scope cl C (bs v) hk) ifs (pz v))
    (helt:∀ v∈xs,pz v=true→∀ cl C,Closes c scope cl→DoesF (c.comp scope cl C (bs v) hk) elt (fz v))
    (hs:c.P s) (hfold:∀ x,foldedSetIterable iter c.env x=pure x)
    (hQ:∀ D C s',K1 s s'→(∃ m,s'.heap.Ns C m)→D≠C→s.heap.objs.size≤D→s.heap.objs.size≤C →
      (∀ h'',Heap.ExtBut C s'.heap h''→VRel c.μ h'' (.list ((xs.filter pz).map fz)) (.ref D)∧EltOk c.μ s.heap.objs.size h'' (.list ((xs.filter pz).map fz)) (.ref D))→compPost c.M c.A E use Q (.ref D) C (.ok .next) s') :
    wpAny c.M c.A (comprehension (.ListComp elt [⟨target,iter,ifs,0⟩] scope pos) scope c.env ipos (newList []) false (eval iter c.env) use) Q E s:=by
  obtain ⟨cl,hy60_1⟩:=wpAny_closure (M:=c.M) (A:=c.A) (E:=E) (s:=s) hfree
  have hclos:=hy60_1.1
  have hcl:=hy60_1.2
  clear hy60_1
  refine listComp_my (G:=Unit) (X:=fun _=>False) (Y:=fun _=>False) (J:=fun _ _=>True) (g₀:=()) (g₁:=()) c.hh (c.toks _ hs) hsrc hgo (compGoS_pure (pz:=pz) (fz:=fz) xs) hclos hcell hk hnames
    (wpAny_mono (hi s E hs) (fun r s₁ x=>⟨x.1,x.2.1,fun _ _ q=>q⟩) fun _ _ x=>x) (fun _ q=>q) (fun _ _ _ _ q=>q.elim) trivial (fun _ _ _ _ _ _=>trivial) ?_ ?_ hfold
  · intro s₁ C I D s₃ k₀ k₁ hC hI hD hC' hD' g x v s₂ E' hx hv hs₂ hkeep _ hn hz ht
    have low:∀ b o,s₁.heap.get? b=some o→s₂.heap.get? b=some o:=fun b o e =>
      hkeep b o (fun q=>q) (Nat.ne_of_lt (Nat.lt_of_lt_of_le (Heap.lt_size e) hC)) (Nat.ne_of_lt (Nat.lt_of_lt_of_le (Heap.lt_size e) hI)) (Nat.ne_of_lt (Nat.lt_of_lt_of_le (Heap.lt_size e) hD)) (kGet k₁ b o e)
    have kk:Keeps s s₂:=by
      obtain ⟨h₂,tk,rfl⟩:=hs₂
      obtain ⟨ha,ta,hy68_1⟩:=k₀
      have hx68_0:=hy68_1.1
      have ka:=hy68_1.2
      clear hy68_1
      subst hx68_0
      obtain ⟨hb',tb,hy69_1⟩:=k₁
      have hx69_0:=hy69_1.1
      have kb:=hy69_1.2
      clear hy69_1
      subst hx69_0
      exact ⟨h₂,tk,rfl,fun b o e=>low b o (ka b o e)⟩
    have hvC:∀ b o,s.heap.get? b=some o→b≠C:=fun b o e=>Nat.ne_of_lt (Nat.lt_of_lt_of_le (Heap.lt_size (kGet k₀ b o e)) hC)
    refine wpAny_grow ht (hb x hx cl C s₂ E' v (VRel.keeps low _ _ hv) hn) fun _ s₃' ht₃ hz₃ h₃=>?_
    obtain ⟨h₃',tk₃,hy73_1⟩:=h₃
    have hx73_0:=hy73_1.1
    have he₃:=hy73_1.2.1
    have hw73_2:=hy73_1.2.2
    clear hy73_1
    subst hx73_0
    obtain ⟨m,hy73_2⟩:=hw73_2
    have hm:=hy73_2.1
    have hbs:=hy73_2.2
    clear hy73_2
    refine ⟨⟨_,_,rfl,he₃,m,hm⟩,?_⟩
    have hP:(c.comp scope cl C (bs x) hk).P { s₂ with heap:=h₃',toks:=tk₃ }:=by
      refine ⟨c.keep _ _ hs ?_ ht₃,m,hm,hbs⟩
      obtain ⟨h₂,tk,hy77_1⟩:=kk
      have hx77_0:=hy77_1.1
      have ke:=hy77_1.2
      clear hy77_1
      subst hx77_0
      exact ⟨h₃',tk₃,rfl,fun b o e=>he₃ b o (hvC b o e) (ke b o e)⟩
    have elt:∀ (s₄:Shared),K1 { s₂ with heap:=h₃',toks:=tk₃ } s₄→pz x=true→wpAny c.M c.A (eval elt (compEnvC scope cl C c.env)) (fun ry s₅ =>
        (∃ h tk,s₅={ s₄ with heap:=h,toks:=tk }∧∀ b o,¬ False→s₄.heap.get? b=some o→h.get? b=some o)∧True∧EltOk c.μ s₃.heap.objs.size s₅.heap (fz x) ry) E' s₄:=fun s₄ k₄ hp =>
      wpAny_mono (helt x hx hp cl C hcl s₄ E' (Cx.go _ hP k₄)) (fun ry s₅ q=>by
        have hz82:=q
        clear q
        have hx82_0:=hz82.1
        have k₅:=hz82.2.1
        clear hz82
        obtain ⟨_,q⟩:=hx82_0
        obtain ⟨h₅,tk₅,hy83_1⟩:=k₅
        have hx83_0:=hy83_1.1
        have ke:=hy83_1.2
        clear hy83_1
        subst hx83_0
        exact ⟨⟨h₅,tk₅,rfl,fun b o _ e=>ke b o e⟩,trivial,fun h' k'=>q h' fun b o hs hb e=>k' b o hs (Nat.le_trans (Nat.le_trans hz hz₃) (Nat.le_trans k₄.2.2 hb)) e⟩) fun _ _ q=>q
    have ht:=htest x hx cl C hcl
    match ifs,ht with
    | [],ht =>
      rw [List.forIn_nil]
      have ht:pz x=true:=ht
      refine wpAny_pure ⟨kRefl _,fun b e=>?_,fun _ y g' e=>?_⟩
      · cases e; exact ht.symm
      · cases e; exact elt _ (Cx.refl _ hP) ht
    | [t],ht =>
      rw [List.forIn_cons]
      refine wpAny_bind ?_
      simp only [if_true]
      refine wpAny_bind (wpAny_mono (ht _ E' hP) (fun ok s₄ q=>wpAny_pure ?_) fun _ _ q=>q)
      have hx98_0:=q.1
      have k₄:=q.2
      try clear q
      subst hx98_0
      show wpAny _ _ (forIn [] _ _) _ _ _
      rw [List.forIn_nil]
      refine wpAny_pure ⟨k₄.1,fun b e=>?_,fun e y g' e'=>?_⟩
      · cases e; rfl
      · cases e'; exact elt _ k₄ e
  · intro s₁ D C h' tk m' rs ht hz k₁ hD hC hDC hn hl he _ hkeep
    have hz105:=he
    clear he
    obtain ⟨N,hy105_1⟩:=hz105
    have hN:=hy105_1.1
    have he:=hy105_1.2
    clear hy105_1
    have hz106:=k₁
    clear k₁
    obtain ⟨h₁,t₁,hy106_1⟩:=hz106
    have hx106_0:=hy106_1.1
    have k₁:=hy106_1.2
    clear hy106_1
    subst hx106_0
    obtain ⟨n,hD'⟩:=hl
    refine hQ D C _ ⟨⟨h',tk,rfl,fun b o e=>hkeep b o (fun q=>q) (k₁ b o e)⟩,ht,?_⟩ ⟨m',hn⟩ hDC (Nat.le_trans hz hD) (Nat.le_trans hz hC) fun h'' k''=>?_
    · exact Nat.le_of_lt (Nat.lt_of_le_of_lt (Nat.le_trans hz hD) (Heap.lt_size hD'))
    · have e2:EltOk c.μ s.heap.objs.size h'' (.list ((xs.filter pz).map fz)) (.ref D):=fun h₃ k₃=>by
        unfold VRel
        exact ⟨D,rs,rfl,⟨n,k₃ _ _ (.inl ⟨_,_,rfl⟩) (Nat.le_trans hz hD) (k'' _ _ hDC hD')⟩,he h₃ fun b o hs hb e=>k₃ b o hs (Nat.le_trans (Nat.le_trans hz hC) (Nat.le_trans (Nat.le_of_lt hN) hb)) (k'' b o (Nat.ne_of_gt (Nat.lt_of_lt_of_le hN hb)) e)⟩
      exact ⟨e2 h'' fun _ _ _ _ e=>e,e2⟩
end
section
variable {c:Cx}
theorem DoesF.comp {elt target iter:Expr} {ifs:List Expr} {scope:Scope} {pos:Pos} {src:V} {xs:List V} {pz:V→Bool} {fz:V→V} {bs:V→List (Str × V)}
    (hi:Does c iter src) (hsrc:itemsV src=some xs) (hgo:(∃ nm q,target=.Name nm q)∨src.isList=true)
    (hcell:∀ y∈scope.names,y.2≠.cell) (hnames:∀ y∈scope.names,y.2=.local→scope.names.lookup y.1=some .local)
    (hfree:∀ y∈scope.names,y.2=.free→(c.env.cells.lookup y.1).isSome=true)
    (hb:∀ v∈xs,Binds c scope target v (bs v))
    (htest:∀ v∈xs,∀ cl C hk,Closes c scope cl→IfsOk (c.comp scope cl C (bs v) hk) ifs (pz v))
    (helt:∀ v∈xs,pz v=true→∀ cl C hk,Closes c scope cl→DoesF (c.comp scope cl C (bs v) hk) elt (fz v)) (hk:scope.kind=.function:=by rfl)
    (hfold:∀ x,foldedSetIterable iter c.env x=pure x:=by intro _; rfl) :
    DoesF c (.ListComp elt [⟨target,iter,ifs,0⟩] scope pos) (.list ((xs.filter pz).map fz)):=fun s E hs=>by
  rw [eval_ListComp]
  refine comp_core (use:=none) hi hsrc hgo hcell hk hnames hfree hb (fun v hv cl C=>htest v hv cl C hk) (fun v hv hp cl C=>helt v hv hp cl C hk) hs hfold fun D C s' k hn hDC hD hC he=>?_
  obtain ⟨m,hn⟩:=hn
  refine ⟨m,hn,fun h' hs'=>⟨he h' hs'.extBut,?_⟩⟩
  have hx19_0:=k.1
  have ht:=k.2.1
  have hz:=k.2.2
  try clear k
  obtain ⟨h₁,t,rfl,ke⟩:=hx19_0
  exact ⟨⟨h',t,rfl,fun b o e=>hs'.extBut b o (Nat.ne_of_lt (Nat.lt_of_lt_of_le (Heap.lt_size e) hC)) (ke b o e)⟩,ht,by rw [show ({ s with heap:=h',toks:=t }:Shared).heap.objs.size=h₁.objs.size from hs'.1]; exact hz⟩
noncomputable def tiny (a:Int):Bool:=Nat.blt a.natAbs (2 ^ 32)
theorem tiny_lt {a:Int} (h:tiny a=true):-(2 ^ 32) < a∧a < 2 ^ 32:=by
  have:a.natAbs < 2 ^ 32:=Nat.le_of_ble_eq_true h
  omega
theorem preSum_take (is:List Int):∀ j,j≤is.length→preSum (fun j=>is.getD j 0) j=(is.take j).sum
  | 0,_=>by simp [preSum]
  | j+1,h=>by
    unfold preSum
    rw [preSum_take is j (by omega),List.take_add_one,List.sum_append]
    have e:is[j]?=some is[j]:=by simp
    simp [e,List.getD_eq_getElem?_getD]
theorem sum_small:∀ (is:List Int),(∀ i∈is,tiny i=true)→-(2 ^ 32 * (is.length:Int))≤is.sum∧is.sum≤2 ^ 32 * (is.length:Int)
  | [],_=>by simp
  | i :: r,h=>by
    have h1:=tiny_lt (h i List.mem_cons_self)
    have h2:=sum_small r fun j hj=>h j (List.mem_cons_of_mem _ hj)
    rw [List.sum_cons,List.length_cons]
    omega
theorem Gives1.sum {is:List Int} (hl:shortL is.length=true) (ht:∀ i∈is,tiny i=true):Gives1 c (.builtin "sum") [.list (is.map .int)] (.int is.sum):=.of fun s E rs hs h₀=>by
  obtain ⟨r,hy48_1⟩:=h₀.inv1
  have hx48_0:=hy48_1.1
  have h:=hy48_1.2
  clear hy48_1
  subst hx48_0
  have h1:is.length < 4096:=Nat.le_of_ble_eq_true hl
  refine call_sum_walk (wpAny_mono (iterV_sound (xs:=is.map .int) (v:=.list (is.map .int)) (by unfold itemsV; simp [hl]) h c.hh) (fun it s₂ x=>?_) fun _ _ x=>x)
  have k₂:=x.1
  have hw51_1:=x.2
  try clear x
  obtain ⟨I,fp,P,St,It⟩:=hw51_1
  refine ⟨I,fp,[I],is.length,P,St,fun j=>is.getD j 0,It.is,by simpa using It.walks,It.start,It.low,fun i v hv=>?_,fun j hj=>?_,fun h' tk t' hk=>?_⟩
  · obtain ⟨x,hy53_1⟩:=It.item i v hv
    have hx:=hy53_1.1
    have y:=hy53_1.2
    clear hy53_1
    rw [List.getElem?_map] at hx
    obtain ⟨j,hy55_1⟩:=Option.map_eq_some_iff.mp hx
    have hj:=hy55_1.1
    have hx55_0:=hy55_1.2
    clear hy55_1
    subst hx55_0
    unfold VRel at y
    obtain ⟨t,rfl⟩:=y
    exact ⟨t,by simp [List.getD_eq_getElem?_getD,hj]⟩
  · have e1:is[j]?=some is[j]:=by simp [hj]
    have e2:=tiny_lt (ht is[j] (List.getElem_mem hj))
    refine ⟨?_,?_⟩
    · simp only [List.getD_eq_getElem?_getD,e1,Option.getD_some]
      unfold InLong; omega
    · rw [preSum_take is (j+1) hj]
      have:=sum_small (is.take (j+1)) fun i hi=>ht i (List.mem_of_mem_take hi)
      have hlen:(is.take (j+1)).length≤4096:=by rw [List.length_take]; omega
      unfold InLong; omega
  · rw [preSum_take is is.length (Nat.le_refl _),List.take_length]
    obtain ⟨h₂,t₂,hy69_1⟩:=k₂
    have hx69_0:=hy69_1.1
    have ke:=hy69_1.2
    clear hy69_1
    subst hx69_0
    exact ⟨.i _ _,⟨h',tk,rfl,fun b o e=>hk b o (fun q=>by
      simp only [List.mem_cons,List.not_mem_nil,or_false] at q
      exact absurd (Heap.lt_size e) (Nat.not_lt.mpr (q ▸ It.new))) (ke b o e)⟩⟩
theorem VRels.take {μ:Addr} {h:Heap} (k:Nat) {vs:List V} {rs:List Value} (x:VRels μ h vs rs):VRels μ h (vs.take k) (rs.take k):=by
  induction k generalizing vs rs with
  | zero=>exact .nil
  | succ k ih =>
    cases vs with
    | nil=>unfold VRels at x; subst x; exact .nil
    | cons v vs=>unfold VRels at x; obtain ⟨r,rt,rfl,y,z⟩:=x; exact .cons y (ih z)
theorem VRels.drop {μ:Addr} {h:Heap} (k:Nat) {vs:List V} {rs:List Value} (x:VRels μ h vs rs):VRels μ h (vs.drop k) (rs.drop k):=by
  induction k generalizing vs rs with
  | zero=>exact x
  | succ k ih =>
    cases vs with
    | nil=>unfold VRels at x; subst x; exact .nil
    | cons v vs=>unfold VRels at x; obtain ⟨r,rt,rfl,y,z⟩:=x; exact ih z
theorem K1.push2 {s:Shared} {o o':Obj} (h:1≤s.toks):K1 s { s with heap:=(s.heap.push o).push o' }:=(K1.push (o:=o) h).trans (K1.push (o:=o') h)
theorem DoesF.upto {a n:Expr} {p pos:Pos} {vs:List V} {k:Nat} (ha:Does c a (.list vs)) (hn:Does c n (.int (k:Int))) (hl:shortL vs.length=true) (hf:vs.all V.flat=true) (ht:∀ o r,letTemporaryGo a o r=pure ():=by intro _ _; rfl):DoesF c (.Subscript a (.Slice none (some n) none p) pos) (.list (vs.take k)):=fun s E hs=>by
  refine wpAny_Subscript_list_slice (run_on hs (ha s E hs) fun ra s₁ xa h₁ k₁=>?_) ht
  rw [evalPart_none,evalPart_some]
  refine wpAny_pure (run_on h₁ (hn s₁ E h₁) fun rn s₂ xn h₂ k₂=>?_)
  replace xa:=xa.kept k₂.1
  unfold VRel at xa xn
  obtain ⟨l,rs,hy108_1⟩:=xa
  have hx108_0:=hy108_1.1
  have hp:=hy108_1.2.1
  have y:=hy108_1.2.2
  clear hy108_1
  subst hx108_0
  obtain ⟨t,rfl⟩:=xn
  refine ⟨l,rs.toArray,none,some k,rfl,hp.isList,by rw [List.size_toArray,y.length]; exact shortL_fits hl,.none,.int _ _,?_⟩
  rw [slicePick_upto']
  have kk:=(k₁.trans k₂).trans (K1.push2 (o:={ cls:=.type "slice",data:=.fields #[Value.none,.int (k:Int) t,.none] }) (o':={ cls:=.type "list",data:=.seq (rs.take k).toArray }) (c.toks _ h₂))
  have q:=list_push (s:={ s₂ with heap:=s₂.heap.push { cls:=.type "slice",data:=.fields #[Value.none,.int (k:Int) t,.none] } }) (VRels.keeps (fun _ _ e=>Heap.get?_push_of_some _ e) _ _ (y.take k))
  have e1:(s₂.heap.push { cls:=.type "slice",data:=.fields #[Value.none,.int (k:Int) t,.none] }).objs.size=s₂.heap.objs.size+1:=Heap.size_push ..
  have hfl:(vs.take k).all V.flat=true:=List.all_eq_true.mpr fun v hv=>List.all_eq_true.mp hf v (List.mem_of_mem_take hv)
  refine ⟨⟨by simpa using q,fun h' k'=>?_⟩,by simpa using kk⟩
  unfold VRel
  refine ⟨_,rs.take k,rfl,⟨_,k' _ _ (.inl ⟨_,_,rfl⟩) ?_ (by rw [← e1]; exact Heap.get?_push_size _ rfl)⟩,(y.take k).flat hfl⟩
  exact Nat.le_succ_of_le (k₁.trans k₂).2.2
theorem Does.from {a n:Expr} {p pos:Pos} {vs:List V} {k:Nat} (ha:Does c a (.list vs)) (hn:Does c n (.int (k:Int))) (hl:shortL vs.length=true) (ht:∀ o r,letTemporaryGo a o r=pure ():=by intro _ _; rfl):Does c (.Subscript a (.Slice (some n) none none p) pos) (.list (vs.drop k)):=fun s E hs=>by
  refine wpAny_Subscript_list_slice (run_on hs (ha s E hs) fun ra s₁ xa h₁ k₁=>?_) ht
  rw [evalPart_none,evalPart_some]
  refine run_on h₁ (hn s₁ E h₁) fun rn s₂ xn h₂ k₂=>wpAny_pure ?_
  replace xa:=xa.kept k₂.1
  unfold VRel at xa xn
  obtain ⟨l,rs,hy126_1⟩:=xa
  have hx126_0:=hy126_1.1
  have hp:=hy126_1.2.1
  have y:=hy126_1.2.2
  clear hy126_1
  subst hx126_0
  obtain ⟨t,rfl⟩:=xn
  refine ⟨l,rs.toArray,some k,none,rfl,hp.isList,by rw [List.size_toArray,y.length]; exact shortL_fits hl,.int _ _,.none,?_⟩
  rw [slicePick_from']
  refine ⟨?_,(k₁.trans k₂).trans (K1.push2 (c.toks _ h₂))⟩
  have q:=list_push (s:={ s₂ with heap:=s₂.heap.push { cls:=.type "slice",data:=.fields #[.int (k:Int) t,Value.none,.none] } }) (VRels.keeps (fun _ _ e=>Heap.get?_push_of_some _ e) _ _ (y.drop k))
  simpa using q
theorem sEq_of {a b:Str} (h:a.cps.toList=b.cps.toList):a=b:=by
  cases a; cases b; simp only [Str.mk.injEq]; exact Array.toList_inj.mp h
theorem strs_of {μ:Addr} {h:Heap}:∀ {xs:List Str} {rs:List Value},VRels μ h (xs.map V.str) rs→∃ l:List (Str × Tok),rs=strValues l∧l.map (·.1)=xs
  | [],rs,x=>by unfold VRels at x; subst x; exact ⟨[],rfl,rfl⟩
  | s :: xs,rs,x=>by
    rw [List.map_cons] at x; unfold VRels at x
    obtain ⟨r,rt,hy140_1⟩:=x
    have hx140_0:=hy140_1.1
    have y:=hy140_1.2.1
    have z:=hy140_1.2.2
    clear hy140_1
    subst hx140_0
    unfold VRel at y
    obtain ⟨t,rfl⟩:=y
    obtain ⟨l,hy143_1⟩:=strs_of z
    have hx143_0:=hy143_1.1
    have hx143_1:=hy143_1.2
    clear hy143_1
    subst hx143_0
    subst hx143_1
    exact ⟨(s,t) :: l,rfl,rfl⟩
theorem of_strs {μ:Addr} {h:Heap}:∀ {l:List (Str × Tok)},VRels μ h ((l.map (·.1)).map V.str) (strValues l)
  | []=>.nil
  | (s,t) :: l=>.cons (.t s t) of_strs
theorem Gives1.join {sep:Str} {xs:List Str} (hok:JoinOk sep xs=true):Gives1 c (.builtin "str.join") [.str sep,.list (xs.map .str)] (.str (Txt.join sep xs)):=.of fun s E rs hs h₀=>by
  obtain ⟨r,r',hy149_1⟩:=h₀.inv2
  have hx149_0:=hy149_1.1
  have h:=hy149_1.2.1
  have h':=hy149_1.2.2
  clear hy149_1
  subst hx149_0
  unfold VRel at h h'
  obtain ⟨t,rfl⟩:=h
  obtain ⟨a,rs,hy152_1⟩:=h'
  have hx152_0:=hy152_1.1
  have hp:=hy152_1.2.1
  have y:=hy152_1.2.2
  clear hy152_1
  subst hx152_0
  obtain ⟨l,hy153_1⟩:=strs_of y
  have hx153_0:=hy153_1.1
  have hl:=hy153_1.2
  clear hy153_1
  subst hx153_0
  exact SC.join hp.isList hl hok fun t' k=>⟨.t _ _,kTok _ _⟩
theorem Gives1.index {xs:List Str} {x:Str} (hl:shortL xs.length=true) (hx:x∈xs):Gives1 c (.builtin "list.index") [.list (xs.map .str),.str x] (.int (xs.idxOf x)):=.of fun s E rs hs h₀=>by
  obtain ⟨r,r',hy156_1⟩:=h₀.inv2
  have hx156_0:=hy156_1.1
  have h:=hy156_1.2.1
  have h':=hy156_1.2.2
  clear hy156_1
  subst hx156_0
  unfold VRel at h h'
  obtain ⟨a,rs,hy158_1⟩:=h
  have hx158_0:=hy158_1.1
  have hx158_1:=hy158_1.2.1
  have y:=hy158_1.2.2
  clear hy158_1
  subst hx158_0
  obtain ⟨n,ho⟩:=hx158_1
  obtain ⟨t,rfl⟩:=h'
  obtain ⟨l,hy160_1⟩:=strs_of y
  have hx160_0:=hy160_1.1
  have hx160_1:=hy160_1.2
  clear hy160_1
  subst hx160_0
  subst hx160_1
  have h1:(l.map (·.1)).length < 4096:=Nat.le_of_ble_eq_true hl
  have hj:=List.idxOf_lt_length_of_mem hx
  have hj':(l.map (·.1)).idxOf x < (strValues l).toArray.size:=by simpa [strValues] using hj
  refine call_meets F.slot_list_index ⟨_,ho,rfl⟩ F.entry_list_index (F.args_list_index_2 _ _) (MeetsSeq.list_index a (strValues l).toArray n (.str x t) (fun v=>match v with | .str y _=>y.cps.toList == x.cps.toList | _=>false) ?_ _ hj' (by omega) ?_ ?_) ⟨ho,.i _ _,kTok _ _⟩
  · intro y hy
    obtain ⟨p,_,rfl⟩:∃ p∈l,Value.str p.1 p.2=y:=by simpa [strValues] using hy
    exact SeqRoads2.EqGives.str _ _ _ _
  · have e:(strValues l).toArray[(l.map (·.1)).idxOf x]'hj'=.str x (l[(l.map (·.1)).idxOf x]'(by simpa using hj)).2:=by
      have e1:=List.getElem_idxOf hj
      simp only [List.getElem_map] at e1
      simp only [strValues,List.getElem_toArray,List.getElem_map,e1]
    rw [e]
    simp
  · intro m hm hlt
    have hm':m < l.length:=by simpa [strValues] using hm
    have e1:(l[m].1 == x)=false:=by
      have:=List.not_of_lt_findIdx (p:=fun y=>y == x) (xs:=l.map (fun q=>q.1)) (i:=m) (by unfold List.idxOf at hlt; exact hlt)
      simpa using this
    have e:(strValues l).toArray[m]'hm=.str l[m].1 l[m].2:=by simp [strValues]
    rw [e]
    simp only
    cases hq:(l[m].1.cps.toList == x.cps.toList) with
    | false=>rfl
    | true=>rw [sEq_of (eq_of_beq hq)] at e1; simp at e1
end
mutual
theorem VRel.seq {μ:Addr} {h h':Heap} (hk:∀ b o,seqish o→h.get? b=some o→h'.get? b=some o):∀ (v:V) (r:Value),VRel μ h v r→VRel μ h' v r
  | .none,_,x=>by unfold VRel at *; exact x
  | .bool _,_,x=>by unfold VRel at *; exact x
  | .int _,_,x=>by unfold VRel at *; exact x
  | .flt _,_,x=>by unfold VRel at *; exact x
  | .flk _ _,_,x=>by unfold VRel at *; exact x
  | .str _,_,x=>by unfold VRel at *; exact x
  | .mach,_,x=>by unfold VRel at *; exact x
  | .rng a b,_,x=>by
    unfold VRel at *
    obtain ⟨y,t,u,v,hy16_1⟩:=x
    have e:=hy16_1.1
    have z:=hy16_1.2
    clear hy16_1
    exact ⟨y,t,u,v,e,hk _ _ (.inr (.inl ⟨_,rfl,rfl⟩)) z⟩
  | .tup vs,_,x=>by
    unfold VRel at *
    obtain ⟨a,rs,hy20_1⟩:=x
    have e:=hy20_1.1
    have hx20_0:=hy20_1.2.1
    have y:=hy20_1.2.2
    clear hy20_1
    obtain ⟨o,ho,hc,q⟩:=hx20_0
    exact ⟨a,rs,e,⟨o,hk a o (.inl ⟨_,q⟩) ho,hc,q⟩,VRels.seq hk vs rs y⟩
  | .list vs,_,x=>by
    unfold VRel at *
    obtain ⟨a,rs,hy24_1⟩:=x
    have e:=hy24_1.1
    have hx24_0:=hy24_1.2.1
    have y:=hy24_1.2.2
    clear hy24_1
    obtain ⟨n,ho⟩:=hx24_0
    exact ⟨a,rs,e,⟨n,hk a _ (.inl ⟨_,_,rfl⟩) ho⟩,VRels.seq hk vs rs y⟩
theorem VRels.seq {μ:Addr} {h h':Heap} (hk:∀ b o,seqish o→h.get? b=some o→h'.get? b=some o):∀ (vs:List V) (rs:List Value),VRels μ h vs rs→VRels μ h' vs rs
  | [],_,x=>by unfold VRels at *; exact x
  | v :: vs,_,x=>by
    unfold VRels at *
    obtain ⟨r,rt,hy30_1⟩:=x
    have e:=hy30_1.1
    have y:=hy30_1.2.1
    have z:=hy30_1.2.2
    clear hy30_1
    exact ⟨r,rt,e,VRel.seq hk v r y,VRels.seq hk vs rt z⟩
end
noncomputable def VX (W:Addr→Prop) (μ:Addr) (h:Heap) (v:V) (r:Value):Prop:=∀ h',(∀ b o,seqish o→¬ W b→h.get? b=some o→h'.get? b=some o)→VRel μ h' v r
noncomputable def VXs (W:Addr→Prop) (μ:Addr) (h:Heap) (vs:List V) (rs:List Value):Prop:=∀ h',(∀ b o,seqish o→¬ W b→h.get? b=some o→h'.get? b=some o)→VRels μ h' vs rs
theorem VX.rel {W:Addr→Prop} {μ:Addr} {h:Heap} {v:V} {r:Value} (x:VX W μ h v r):VRel μ h v r:=x h fun _ _ _ _ e=>e
theorem VXs.rel {W:Addr→Prop} {μ:Addr} {h:Heap} {v:List V} {r:List Value} (x:VXs W μ h v r):VRels μ h v r:=x h fun _ _ _ _ e=>e
theorem VX.grow {W W':Addr→Prop} {μ:Addr} {h h':Heap} {v:V} {r:Value} (x:VX W μ h v r) (k:∀ b o,¬ W b→h.get? b=some o→¬ W' b∧h'.get? b=some o):VX W' μ h' v r :=
  fun h₂ k₂=>x h₂ fun b o hs hb e=>k₂ b o hs (k b o hb e).1 (k b o hb e).2
theorem VXs.grow {W W':Addr→Prop} {μ:Addr} {h h':Heap} {v:List V} {r:List Value} (x:VXs W μ h v r) (k:∀ b o,¬ W b→h.get? b=some o→¬ W' b∧h'.get? b=some o):VXs W' μ h' v r :=
  fun h₂ k₂=>x h₂ fun b o hs hb e=>k₂ b o hs (k b o hb e).1 (k b o hb e).2
theorem VX.of_rel {W:Addr→Prop} {μ:Addr} {h:Heap} {v:V} {r:Value} (x:VRel μ h v r) (hk:∀ b o,W b→h.get? b=some o→¬ seqish o):VX W μ h v r :=
  fun _ k=>x.seq (fun b o hs e=>k b o hs (fun q=>hk b o q e hs) e) v r
theorem VXs.snoc {W:Addr→Prop} {μ:Addr} {h:Heap} {vs:List V} {rs:List Value} {v:V} {r:Value} (x:VXs W μ h vs rs) (y:VX W μ h v r):VXs W μ h (vs++[v]) (rs++[r]) :=
  fun h₂ k₂=>(x h₂ k₂).append (.cons (y h₂ k₂) .nil)
theorem VX.of_flat {W:Addr→Prop} {μ:Addr} {h:Heap} {v:V} {r:Value} (x:VRel μ h v r) (hf:v.flat=true):VX W μ h v r:=fun _ _=>x.flat hf
theorem EltOk.vx {W:Addr→Prop} {μ:Addr} {N:Nat} {h:Heap} {v:V} {r:Value} (x:EltOk μ N h v r) (hW:∀ b,W b→b < N):VX W μ h v r :=
  fun h₂ k₂=>x h₂ fun b o hs hb e=>k₂ b o hs (fun q=>Nat.lt_irrefl _ (Nat.lt_of_lt_of_le (hW b q) hb)) e
inductive Slot where
  | non
  | val (v:V)
  | own (vs:List V)
  | adr (Φ:Value→Heap→Prop)
structure Fx where
  prog:Program
  w:World
  A:Around
  μ:Addr
  env:Env
  gl:Str→Option Value
  S0:Shared
  ks:List Str
  Γ:Type
  G:Γ→Heap→Prop
  Wg:Addr→Prop
  gS:∀ b,Wg b→S0.heap.get? b=none
  nodup:ks.Nodup
  own:List (Str × Addr)
  hown:∀ n,env.kindOf n=some .cell→own.lookup n=env.cells.lookup n
  kinds:∀ x∈ks,env.kindOf x=some .local∨(env.kindOf x=some .cell∧(own.lookup x).isSome=true)
  Gok:∀ g h h',G g h→(∀ b o,Wg b∨codish o→h.get? b=some o→h'.get? b=some o)→G g h'
  hh:A.handled=none
  hu:A.units+64 < cLine
  hk:env.scope.kind=.function
  glob:∀ s:Shared,(∀ b o,S0.heap.get? b=some o→s.heap.get? b=some o)→∀ x v,gl x=some v→∀ (Q:Value→Shared→Prop) (E:Value→Shared→Prop),Q v s→wpAny (model prog w) A (loadGlobal env x) Q E s
noncomputable abbrev Fx.M (F:Fx):Model:=model F.prog F.w
noncomputable def At (env:Env) (m cm:Str→Option Value) (x:Str) (r:Value):Prop:=(env.kindOf x=some .local∧m x=some r)∨(env.kindOf x=some .cell∧(env.cells.lookup x).isSome=true∧cm x=some r)
noncomputable def SlotOk (F:Fx) (W:Addr→Prop) (m cm:Str→Option Value) (a:Addr) (h:Heap) (x:Str):Slot→Prop
  | .non=>True
  | .val v=>∃ r,At F.env m cm x r∧VX W F.μ h v r
  | .adr Φ=>∃ r,At F.env m cm x r∧∀ h',(∀ b o,seqish o→¬ W b→h.get? b=some o→h'.get? b=some o)→Φ r h'
  | .own vs=>At F.env m cm x (.ref a)∧W a∧(¬ F.Wg a∧F.S0.heap.objs.size≤a)∧∃ rs,h.PlainList a (List.toArray rs)∧VXs W F.μ h vs rs
structure FrP (F:Fx) (ρ:List Slot) (g:F.Γ) (W:Addr→Prop) (m cm:Str→Option Value) (α:Nat→Addr) (s:Shared):Prop where
  ic:InCallC F.S0 F.env.locals m F.own cm s
  tk:1≤s.toks
  wL:W F.env.locals
  wC:∀ n c,F.own.lookup n=some c→W c
  live:∀ b,W b→∃ o,s.heap.get? b=some o
  gW:∀ b,F.Wg b→W b∧b≠F.env.locals∧∀ n c,F.own.lookup n=some c→b≠c
  gh:F.G g s.heap
  slot:∀ (i:Nat) x sl,F.ks[i]?=some x→ρ[i]?=some sl→SlotOk F W m cm (α i) s.heap x sl
  inj:∀ (i j:Nat) x y vs us,F.ks[i]?=some x→F.ks[j]?=some y→ρ[i]?=some (.own vs)→ρ[j]?=some (.own us)→α i=α j→i=j
noncomputable def Fr1 (F:Fx) (ρ:List Slot) (g:F.Γ) (W:Addr→Prop) (s:Shared):Prop:=∃ m cm α,FrP F ρ g W m cm α s
theorem SlotOk.grow {F:Fx} {W W':Addr→Prop} {m cm m' cm':Str→Option Value} {a a':Addr} {h h':Heap} {x:Str} {sl:Slot} (y:SlotOk F W m cm a h x sl)
    (hm:∀ r,At F.env m cm x r→At F.env m' cm' x r) (hW:∀ b,W b→W' b) (k:∀ b o,¬ W b→h.get? b=some o→¬ W' b∧h'.get? b=some o)
    (ho:∀ vs,sl=.own vs→a'=a∧∀ o,h.get? a=some o→h'.get? a=some o):SlotOk F W' m' cm' a' h' x sl:=by
  cases sl with
  | non=>trivial
  | val v=>obtain ⟨r,h1,h2⟩:=y; exact ⟨r,hm r h1,h2.grow k⟩
  | adr Φ=>obtain ⟨r,y1,y2⟩:=y; exact ⟨r,hm r y1,fun h₂ k₂=>y2 h₂ fun b o hs hb e=>k₂ b o hs (k b o hb e).1 (k b o hb e).2⟩
  | own vs =>
    have hz111:=ho vs rfl
    have hx111_0:=hz111.1
    have h2:=hz111.2
    clear hz111
    subst hx111_0
    have h3:=y.1
    have h4:=y.2.1
    have h5:=y.2.2.1
    have hw112_1:=y.2.2.2
    try clear y
    obtain ⟨rs,hy112_1⟩:=hw112_1
    have h6:=hy112_1.1
    have h7:=hy112_1.2
    clear hy112_1
    exact ⟨hm _ h3,hW _ h4,h5,rs,h6.at h2,h7.grow k⟩
section
variable {F:Fx} {ρ:List Slot} {g:F.Γ} {W:Addr→Prop} {m cm:Str→Option Value} {α:Nat→Addr} {s:Shared}
theorem FrP.keeps {s':Shared} (x:FrP F ρ g W m cm α s) (k:Keeps s s') (t:1≤s'.toks):FrP F ρ g W m cm α s':=by
  obtain ⟨h,tk,hy119_1⟩:=k
  have hx119_0:=hy119_1.1
  have ke:=hy119_1.2
  clear hy119_1
  subst hx119_0
  exact ⟨x.ic.kept ke,t,x.wL,x.wC,fun b hb=>let ⟨o,ho⟩:=x.live b hb; ⟨o,ke b o ho⟩,x.gW,F.Gok _ _ _ x.gh fun b o _ e=>ke b o e,
    fun i y sl hy hs=>(x.slot i y sl hy hs).grow (fun _ q=>q) (fun _ q=>q) (fun b o hb e=>⟨hb,ke b o e⟩) fun _ _=>⟨rfl,fun o e=>ke _ o e⟩,x.inj⟩
theorem FrP.lt (x:FrP F ρ g W m cm α s):∀ b,W b→b < s.heap.objs.size:=fun b hb=>let ⟨_,ho⟩:=x.live b hb; Heap.lt_size ho
noncomputable def Fx.cx (F:Fx) (ρ:List Slot) (g:F.Γ) (W:Addr→Prop):Cx where
  prog:=F.prog
  w:=F.w
  A:=F.A
  μ:=F.μ
  env:=F.env
  gl:=F.gl
  P:=Fr1 F ρ g W
  toks:=fun _ ⟨_,_,_,x⟩=>x.tk
  keep:=fun _ _ ⟨m,cm,α,x⟩ k t=>⟨m,cm,α,x.keeps k t⟩
  hh:=F.hh
  hu:=F.hu
  hk:=F.hk
  glob:=fun s ⟨_,_,_,x⟩=>F.glob s x.ic.toInCall.keep
theorem At.var {env:Env} {x:Str} {r:Value} {S0:Shared} {own:List (Str × Addr)} (hown:∀ n,env.kindOf n=some .cell→own.lookup n=env.cells.lookup n) (ic:InCallC S0 env.locals m own cm s) (h:At env m cm x r):VarAt env s.heap x r:=by
  rcases h with ⟨h1,h2⟩ | ⟨h1,h2,h3⟩
  · exact .inl ⟨h1,m,ic.toInCall.ns,h2⟩
  · obtain ⟨c,hc⟩:=Option.isSome_iff_exists.mp h2
    exact .inr ⟨.inl h1,c,hc,h3 ▸ ic.cell x c ((hown x h1).trans hc)⟩
theorem Fx.var {i:Nat} {x:Str} {v:V} (hx:F.ks[i]?=some x) (hv:ρ[i]?=some (.val v)):(F.cx ρ g W).Var x v:=fun s ⟨m,cm,α,y⟩=>by
  obtain ⟨r,hy146_1⟩:=y.slot i x _ hx hv
  have h1:=hy146_1.1
  have h2:=hy146_1.2
  clear hy146_1
  exact ⟨r,h1.var F.hown y.ic,h2.rel⟩
theorem Fx.varO {i:Nat} {x:Str} {vs:List V} (hx:F.ks[i]?=some x) (hv:ρ[i]?=some (.own vs)):(F.cx ρ g W).Var x (.list vs):=fun s ⟨m,cm,α,y⟩=>by
  have hz149:=y.slot i x _ hx hv
  have h1:=hz149.1
  have hw149_1:=hz149.2.2.2
  clear hz149
  obtain ⟨rs,hy149_1⟩:=hw149_1
  have h2:=hy149_1.1
  have h3:=hy149_1.2
  clear hy149_1
  refine ⟨_,h1.var F.hown y.ic,?_⟩
  show VRel F.μ s.heap _ _
  unfold VRel
  exact ⟨_,rs,rfl,h2,h3.rel⟩
structure Mv (s s':Shared) (W W':Addr→Prop):Prop where
  kept:∀ b o,¬ W b→s.heap.get? b=some o→s'.heap.get? b=some o
  size:s.heap.objs.size≤s'.heap.objs.size
  more:∀ b,W' b→W b∨s.heap.objs.size≤b
theorem Mv.refl:Mv s s W W:=⟨fun _ _ _ e=>e,Nat.le_refl _,fun _ q=>.inl q⟩
theorem Mv.of {s':Shared} (k:K1 s s'):Mv s s' W W:=⟨fun b o _ e=>kGet k.1 b o e,k.2.2,fun _ q=>.inl q⟩
theorem Mv.trans {s' s'':Shared} {W' W'':Addr→Prop} (x:Mv s s' W W') (y:Mv s' s'' W' W''):Mv s s'' W W'' where
  kept:=fun b o hb e=>y.kept b o (fun q=>(x.more b q).elim hb fun z=>Nat.lt_irrefl _ (Nat.lt_of_lt_of_le (Heap.lt_size e) z)) (x.kept b o hb e)
  size:=Nat.le_trans x.size y.size
  more:=fun b q=>(y.more b q).elim (fun q=>x.more b q) fun z=>.inr (Nat.le_trans x.size z)
theorem store_any {env:Env} {S0:Shared} {x:Str} {r:Value} {M:Model} {A:Around} {E:Value→Shared→Prop} {Q:Unit→Shared→Prop} {own:List (Str × Addr)} (hown:∀ n,env.kindOf n=some .cell→own.lookup n=env.cells.lookup n) (ic:InCallC S0 env.locals m own cm s) (hk:env.scope.kind=.function)
    (hx:env.kindOf x=some .local∨(env.kindOf x=some .cell∧(own.lookup x).isSome=true))
    (h:∀ d h' tk m' cm',(d=env.locals∨∃ n,own.lookup n=some d)→Heap.SameBut d s.heap h'→s.toks≤tk→(∃ o,h'.get? d=some o∧((∃ es n,o.data=.dict es n)∨∃ v,o.data=.cell v))→InCallC S0 env.locals m' own cm' { s with heap:=h',toks:=tk } →
      At env m' cm' x r→(∀ y u,y≠x→At env m cm y u→At env m' cm' y u)→Q () { s with heap:=h',toks:=tk }):wpAny M A (storeName env x r) Q E s:=by
  have hin:=ic.toInCall
  obtain ⟨⟨h₀,t₀,hsame⟩,hns,hkeep,hfresh⟩:=id hin
  rcases hx with hl | ⟨hl,hc⟩
  · refine wpAny_storeName_local hl hns (fun h' hn' hs'=>?_) (by rw [hk]; rfl)
    refine h env.locals h' _ _ cm (.inl rfl) hs' (Nat.le_succ _) (let ⟨o,es,ep,e,d,_⟩:=hn'; ⟨o,e,.inl ⟨es,ep,d⟩⟩) ⟨⟨⟨h',_,by rw [hsame]⟩,hn',fun b o e=>?_,hfresh⟩,fun k c hc=>?_,ic.apart,ic.above⟩ (.inl ⟨hl,by simp⟩) fun y u hy q=>?_
    · exact hs'.extBut b o (Nat.ne_of_lt (Nat.lt_of_lt_of_le (Heap.lt_size e) hfresh)) (hkeep b o e)
    · exact (ic.cell k c hc).sameBut hs' (Nat.ne_of_gt (ic.above k c (mem_of_lookup hc)))
    · rcases q with ⟨q1,q2⟩ | q
      · exact .inl ⟨q1,by simp [hy,q2]⟩
      · exact .inr q
  · obtain ⟨c,hc'⟩:=Option.isSome_iff_exists.mp hc
    have hLc:=ic.above x c (mem_of_lookup hc')
    refine wpAny_storeName_cell hk hl ((hown x hl).symm.trans hc') (ic.cell x c hc') fun h' hn' hs'=>?_
    refine h c h' s.toks m (fun y=>if y=x then some r else cm y) (.inr ⟨x,hc'⟩) hs' (Nat.le_refl _) (let ⟨o,e,d⟩:=hn'; ⟨o,e,.inr ⟨_,d⟩⟩) ⟨⟨⟨h',s.toks,by rw [hsame]⟩,hns.sameBut hs' (Nat.ne_of_lt hLc),fun b o e=>?_,hfresh⟩,fun k d hd=>?_,ic.apart,ic.above⟩ (.inr ⟨hl,(hown x hl) ▸ hc,by simp⟩) fun y u hy q=>?_
    · exact hs'.extBut b o (Nat.ne_of_lt (Nat.lt_trans (Nat.lt_of_lt_of_le (Heap.lt_size e) hfresh) hLc)) (hkeep b o e)
    · by_cases hkn:k=x
      · subst hkn
        rw [hc'] at hd; cases hd
        simpa using hn'
      · rw [if_neg hkn]
        exact (ic.cell k d hd).sameBut hs' fun e=>hkn (name_of_addr ic.apart (mem_of_lookup hd) (e ▸ mem_of_lookup hc'))
    · rcases q with q | ⟨q1,q2,q3⟩
      · exact .inl q
      · exact .inr ⟨q1,q2,by simp [hy,q3]⟩
end
section
variable {F:Fx} {ρ:List Slot} {g:F.Γ} {W:Addr→Prop} {m cm:Str→Option Value} {α:Nat→Addr} {s:Shared}
theorem Fx.ne (F:Fx) {i j:Nat} {x y:Str} (hx:F.ks[i]?=some x) (hy:F.ks[j]?=some y) (h:j≠i):y≠x:=by
  rintro rfl
  obtain ⟨hi,_⟩:=List.getElem?_eq_some_iff.mp hx
  exact h (((List.getElem?_inj hi F.nodup).mp (hx.trans hy.symm)).symm)
theorem Fx.mem (F:Fx) {i:Nat} {x:Str} (hx:F.ks[i]?=some x):x∈F.ks:=List.mem_of_getElem? hx
theorem FrP.apart {d a:Addr} {rs:List Value} (x:FrP F ρ g W m cm α s) (hd:d=F.env.locals∨∃ n,F.own.lookup n=some d) (hl:s.heap.PlainList a rs.toArray):a≠d:=by
  rintro rfl
  obtain ⟨n,ho⟩:=hl
  rcases hd with rfl | ⟨k,hk⟩
  · obtain ⟨o,es,ep,hy18_1⟩:=x.ic.toInCall.ns
    have e:=hy18_1.1
    have dd:=hy18_1.2.1
    clear hy18_1
    rw [ho] at e; cases e; cases dd
  · obtain ⟨o,hy20_1⟩:=x.ic.cell k a hk
    have e:=hy20_1.1
    have dd:=hy20_1.2
    clear hy20_1
    rw [ho] at e; cases e; cases dd
theorem FrP.dW {d:Addr} (x:FrP F ρ g W m cm α s) (hd:d=F.env.locals∨∃ n,F.own.lookup n=some d):W d:=by
  rcases hd with rfl | ⟨k,hk⟩
  · exact x.wL
  · exact x.wC k d hk
theorem FrP.dG {d:Addr} (x:FrP F ρ g W m cm α s) (hd:d=F.env.locals∨∃ n,F.own.lookup n=some d):¬ F.Wg d:=by
  intro q
  have hz28:=x.gW d q
  have h1:=hz28.2.1
  have h2:=hz28.2.2
  clear hz28
  rcases hd with rfl | ⟨k,hk⟩
  · exact h1 rfl
  · exact h2 k d hk rfl
theorem FrP.notSeq0 {d:Addr} {o:Obj} (x:FrP F ρ g W m cm α s) (hd:d=F.env.locals∨∃ n,F.own.lookup n=some d) (e:s.heap.get? d=some o):¬ seqish o:=by
  rcases hd with rfl | ⟨k,hk⟩
  · obtain ⟨o',es,ep,hy35_1⟩:=x.ic.toInCall.ns
    have e':=hy35_1.1
    have dd:=hy35_1.2.1
    clear hy35_1
    rw [e] at e'; cases e'; exact seqish.not_dict dd
  · obtain ⟨o',hy37_1⟩:=x.ic.cell k d hk
    have e':=hy37_1.1
    have dd:=hy37_1.2
    clear hy37_1
    rw [e] at e'; cases e'; exact seqish.not_cell dd
theorem not_cod {rs:Array Value} {n:Nat} {c:Value}:¬ codish { cls:=c,data:=.seq rs n }:=fun h=>let ⟨_,_,_,e,_⟩:=h; nomatch e
theorem FrP.more {s':Shared} {a:Addr} (x:FrP F ρ g W m cm α s) (k:K1 s s') (ha:s.heap.objs.size≤a) (hl:∃ o,s'.heap.get? a=some o):FrP F ρ g (fun b=>W b∨b=a) m cm α s':=by
  have hx41_0:=k.1
  have ht:=k.2.1
  have hz:=k.2.2
  try clear k
  obtain ⟨h,tk,rfl,ke⟩:=hx41_0
  refine ⟨x.ic.kept ke,ht,.inl x.wL,fun n c hc=>.inl (x.wC n c hc),fun b hb=>?_,fun b hb=>let ⟨p,q⟩:=x.gW b hb; ⟨.inl p,q⟩,F.Gok _ _ _ x.gh fun b o _ e=>ke b o e,
    fun i y sl hy hs=>(x.slot i y sl hy hs).grow (fun _ q=>q) (fun _ q=>.inl q) (fun b o hb e=>⟨fun q=>?_,ke b o e⟩) fun _ _=>⟨rfl,fun o e=>ke _ o e⟩,x.inj⟩
  · rcases hb with hb | rfl
    · obtain ⟨o,ho⟩:=x.live b hb; exact ⟨o,ke b o ho⟩
    · exact hl
  · rcases q with q | rfl
    · exact hb q
    · exact Nat.lt_irrefl _ (Nat.lt_of_lt_of_le (Heap.lt_size e) ha)
theorem FrP.storeG {i:Nat} {x:Str} {r:Value} {sl:Slot} {a:Addr} {E:Value→Shared→Prop} (fr:FrP F ρ g W m cm α s) (hx:F.ks[i]?=some x)
    (hnew:∀ m' cm' h',At F.env m' cm' x r→(∀ b o,¬ W b→s.heap.get? b=some o→h'.get? b=some o)→(∀ b rs,s.heap.PlainList b (List.toArray rs)→h'.PlainList b (List.toArray rs))→SlotOk F W m' cm' a h' x sl)
    (hinj:∀ vs,sl=.own vs→∀ j y us,j≠i→F.ks[j]?=some y→ρ[j]?=some (.own us)→α j≠a) :
    wpAny F.M F.A (storeName F.env x r) (fun _ s'=>Fr1 F (ρ.set i sl) g W s'∧Mv s s' W W) E s:=by
  refine store_any F.hown fr.ic F.hk (F.kinds x (F.mem hx)) fun d h' tk m' cm' hd hs' ht hdo ic' hat hoth=>?_
  have keep:∀ b o,b≠d→s.heap.get? b=some o→h'.get? b=some o:=hs'.extBut
  have keepW:∀ b o,¬ W b→s.heap.get? b=some o→h'.get? b=some o:=fun b o hb e=>keep b o (fun q=>hb (q ▸ fr.dW hd)) e
  have keepL:∀ b rs,s.heap.PlainList b (List.toArray rs)→h'.PlainList b (List.toArray rs):=fun b rs q=>q.at fun o e=>keep b o (fr.apart hd q) e
  have slEq:∀ j vs,j=i→(ρ.set i sl)[j]?=some (.own vs)→sl=.own vs:=by
    rintro j vs rfl hj
    by_cases hlt:j < ρ.length
    · rw [List.getElem?_set_self hlt] at hj; cases hj; rfl
    · rw [List.getElem?_eq_none (by simpa using hlt)] at hj; cases hj
  refine ⟨⟨m',cm',fun j=>if j=i then a else α j,ic',Nat.le_trans fr.tk ht,fr.wL,fr.wC,fun b hb=>?_,fr.gW,F.Gok _ _ _ fr.gh fun b o hb e=>keep b o (fun q=>hb.elim (fun hb=>fr.dG hd (q ▸ hb)) fun hb=>fr.notSeq0 hd (q ▸ e) hb.seq) e,fun j y sl' hy hs=>?_,fun j k y z vs us hy hz hj hk e=>?_⟩,keepW,Nat.le_of_eq hs'.1.symm,fun _ q=>.inl q⟩
  · by_cases hbd:b=d
    · subst hbd; obtain ⟨o,ho,_⟩:=hdo; exact ⟨o,ho⟩
    · obtain ⟨o,ho⟩:=fr.live b hb; exact ⟨o,keep b o hbd ho⟩
  · by_cases hji:j=i
    · subst hji
      rw [hx] at hy; cases hy
      by_cases hlt:j < ρ.length
      · rw [List.getElem?_set_self hlt] at hs; cases hs
        simp only [if_true]
        exact hnew m' cm' h' hat keepW keepL
      · rw [List.getElem?_eq_none (by simpa using hlt)] at hs; cases hs
    · rw [List.getElem?_set_ne (Ne.symm hji)] at hs
      simp only [if_neg hji]
      have old:=fr.slot j y sl' hy hs
      have hyx:=F.ne hx hy hji
      cases sl' with
      | non=>trivial
      | val v=>obtain ⟨u,h1,h2⟩:=old; exact ⟨u,hoth y u hyx h1,h2.grow fun b o hb e=>⟨hb,keepW b o hb e⟩⟩
      | adr Φ=>obtain ⟨u,h1,h2⟩:=old; exact ⟨u,hoth y u hyx h1,fun h₂ k₂=>h2 h₂ fun b o hs hb e=>k₂ b o hs hb (keepW b o hb e)⟩
      | own vs=>obtain ⟨h1,h2,h3,rs,h4,h5⟩:=old; exact ⟨hoth y _ hyx h1,h2,h3,rs,keepL _ _ h4,h5.grow fun b o hb e=>⟨hb,keepW b o hb e⟩⟩
  · by_cases hji:j=i <;> by_cases hki:k=i
    · rw [hji,hki]
    · have h1:=slEq j vs hji hj
      rw [List.getElem?_set_ne (Ne.symm hki)] at hk
      simp only [if_pos hji,if_neg hki] at e
      exact absurd e.symm (hinj vs h1 k z us hki hz hk)
    · have h1:=slEq k us hki hk
      rw [List.getElem?_set_ne (Ne.symm hji)] at hj
      simp only [if_pos hki,if_neg hji] at e
      exact absurd e (hinj us h1 j y vs hji hy hj)
    · rw [List.getElem?_set_ne (Ne.symm hji)] at hj
      rw [List.getElem?_set_ne (Ne.symm hki)] at hk
      simp only [if_neg hji,if_neg hki] at e
      exact fr.inj j k y z vs us hy hz hj hk e
theorem Fr1.store {i:Nat} {x:Str} {r:Value} {v:V} {E:Value→Shared→Prop} (fr:Fr1 F ρ g W s) (hx:F.ks[i]?=some x) (hv:VX W F.μ s.heap v r) :
    wpAny F.M F.A (storeName F.env x r) (fun _ s'=>Fr1 F (ρ.set i (.val v)) g W s'∧Mv s s' W W) E s:=by
  obtain ⟨m,cm,α,fr⟩:=fr
  exact fr.storeG (sl:=.val v) (a:=0) hx (fun m' cm' h' h1 h2 h3=>⟨r,h1,hv.grow fun b o hb e=>⟨hb,h2 b o hb e⟩⟩) (fun _ e=>nomatch e)
theorem Fr1.storeOwn {s':Shared} {i:Nat} {x:Str} {a:Addr} {rs:List Value} {vs:List V} {E:Value→Shared→Prop} (fr:Fr1 F ρ g W s) (k:K1 s s') (ha:s.heap.objs.size≤a) (hx:F.ks[i]?=some x) (hl:s'.heap.PlainList a rs.toArray)
    (hv:∀ h',VRels F.μ h' vs rs) :
    wpAny F.M F.A (storeName F.env x (.ref a)) (fun _ s''=>∃ W',Fr1 F (ρ.set i (.own vs)) g W' s''∧Mv s s'' W W') E s':=by
  obtain ⟨m,cm,α,fr⟩:=fr
  have fr':=fr.more k ha (let ⟨n,e⟩:=hl; ⟨_,e⟩)
  have hnW:¬ W a:=fun q=>Nat.lt_irrefl _ (Nat.lt_of_lt_of_le (fr.lt a q) ha)
  refine wpAny_mono (fr'.storeG (sl:=.own vs) (a:=a) hx (fun m' cm' h' h1 h2 h3=>⟨h1,.inr rfl,⟨fun q=>hnW (fr.gW a q).1,Nat.le_trans fr.ic.toInCall.fresh (Nat.le_trans (Nat.le_of_lt fr.ic.toInCall.ns.lt) ha)⟩,rs,h3 a rs hl,fun h₂ _=>hv h₂⟩) (fun us _ j y ws _ hy hj e=>?_)) (fun _ s'' q=>⟨_,q.1,?_⟩) fun _ _ q=>q
  · exact hnW (e ▸ (fr.slot j y _ hy hj).2.1)
  · have q2:=q.2
    exact ⟨fun b o hb e=>q2.kept b o (fun z=>z.elim hb fun z=>Nat.lt_irrefl _ (Nat.lt_of_lt_of_le (Heap.lt_size e) (z ▸ ha))) (kGet k.1 b o e),Nat.le_trans k.2.2 q2.size,fun b z=>z.elim .inl fun z=>.inr (z ▸ ha)⟩
end
noncomputable def Runs (F:Fx) (ss:List Stmt) (ρ:List Slot) (g:F.Γ) (ρ':List Slot) (g':F.Γ):Prop:=∀ (W:Addr→Prop) (s:Shared) (E:Value→Shared→Prop),Fr1 F ρ g W s →
  wpAny F.M F.A (execs ss F.env) (fun f s'=>f=.next∧∃ W',Fr1 F ρ' g' W' s'∧Mv s s' W W') E s
noncomputable def Run1 (F:Fx) (st:Stmt) (ρ:List Slot) (g:F.Γ) (ρ':List Slot) (g':F.Γ):Prop:=∀ (W:Addr→Prop) (s:Shared) (E:Value→Shared→Prop),Fr1 F ρ g W s →
  wpAny F.M F.A (exec st F.env) (fun f s'=>f=.next∧∃ W',Fr1 F ρ' g' W' s'∧Mv s s' W W') E s
structure RetOk (F:Fx) (v:V) (R:Heap→Prop) (W:Addr→Prop) (s:Shared) (r:Value) (s':Shared):Prop where
  val:VX F.Wg F.μ s'.heap v r
  same:∃ h tk,s'={ s with heap:=h,toks:=tk }
  tk:1≤s'.toks
  size:s.heap.objs.size≤s'.heap.objs.size
  kept:∀ b o,¬ W b→s.heap.get? b=some o→s'.heap.get? b=some o
  left:R s'.heap
noncomputable def Rets (F:Fx) (ss:List Stmt) (ρ:List Slot) (g:F.Γ) (v:V) (R:Heap→Prop):Prop:=∀ (W:Addr→Prop) (s:Shared) (E:Value→Shared→Prop),Fr1 F ρ g W s →
  wpAny F.M F.A (execs ss F.env) (fun f s'=>∃ r,f=.ret r∧RetOk F v R W s r s') E s
noncomputable abbrev DoesW (F:Fx) (ρ:List Slot) (g:F.Γ) (e:Expr) (v:V):Prop:=∀ W,Does (F.cx ρ g W) e v
noncomputable abbrev DoesFW (F:Fx) (ρ:List Slot) (g:F.Γ) (e:Expr) (v:V):Prop:=∀ W,DoesF (F.cx ρ g W) e v
section
variable {F:Fx} {ρ ρ₁ ρ₂ ρ':List Slot} {g g₁ g':F.Γ}
theorem Fr1.keeps {W:Addr→Prop} {s s':Shared} (x:Fr1 F ρ g W s) (k:K1 s s'):Fr1 F ρ g W s':=let ⟨m,cm,α,y⟩:=x; ⟨m,cm,α,y.keeps k.1 k.2.1⟩
theorem Fr1.lt {W:Addr→Prop} {s:Shared} (x:Fr1 F ρ g W s):∀ b,W b→b < s.heap.objs.size:=let ⟨_,_,_,y⟩:=x; y.lt
theorem Runs.nil:Runs F [] ρ g ρ g:=fun W _ _ h=>wpAny_execs_nil ⟨rfl,W,h,.refl⟩
theorem Runs.cons {st:Stmt} {ss:List Stmt} (h:Run1 F st ρ g ρ₁ g₁) (hs:Runs F ss ρ₁ g₁ ρ' g'):Runs F (st :: ss) ρ g ρ' g':=fun W s E fr =>
  wpAny_execs_cons (wpAny_mono (h W s E fr) (fun f s₁ x=>by
    have hx31_0:=x.1
    have hw31_1:=x.2
    try clear x
    subst hx31_0
    obtain ⟨W₁,hy31_1⟩:=hw31_1
    have fr₁:=hy31_1.1
    have mv:=hy31_1.2
    clear hy31_1
    exact wpAny_mono (hs W₁ s₁ E fr₁) (fun f s₂ y=>let ⟨e,W₂,fr₂,mv₂⟩:=y; ⟨e,W₂,fr₂,mv.trans mv₂⟩) fun _ _ y=>y) fun _ _ y=>y)
theorem Fr1.same {W W':Addr→Prop} {s s':Shared} (x:Fr1 F ρ g W s) (y:Fr1 F ρ' g' W' s'):∃ h tk,s'={ s with heap:=h,toks:=tk }:=by
  obtain ⟨_,_,_,x⟩:=x
  obtain ⟨_,_,_,y⟩:=y
  obtain ⟨h,t,e⟩:=x.ic.toInCall.same
  obtain ⟨h',t',e'⟩:=y.ic.toInCall.same
  exact ⟨h',t',by rw [e',e]⟩
theorem RetOk.after {v:V} {R:Heap→Prop} {W W':Addr→Prop} {s s₁ s':Shared} {r:Value} (x:RetOk F v R W' s₁ r s') (hs:∃ h tk,s₁={ s with heap:=h,toks:=tk }) (mv:Mv s s₁ W W'):RetOk F v R W s r s' :=
  ⟨x.val,by obtain ⟨h,t,rfl⟩:=hs; obtain ⟨h',t',e⟩:=x.same; exact ⟨h',t',e⟩,x.tk,Nat.le_trans mv.size x.size,
    fun b o hb e=>x.kept b o (fun q=>(mv.more b q).elim hb fun z=>Nat.lt_irrefl _ (Nat.lt_of_lt_of_le (Heap.lt_size e) z)) (mv.kept b o hb e),x.left⟩
theorem Rets.cons {st:Stmt} {ss:List Stmt} {v:V} {R:Heap→Prop} (h:Run1 F st ρ g ρ₁ g₁) (hs:Rets F ss ρ₁ g₁ v R):Rets F (st :: ss) ρ g v R:=fun W s E fr =>
  wpAny_execs_cons (wpAny_mono (h W s E fr) (fun f s₁ x=>by
    have hx44_0:=x.1
    have hw44_1:=x.2
    try clear x
    subst hx44_0
    obtain ⟨W₁,hy44_1⟩:=hw44_1
    have fr₁:=hy44_1.1
    have mv:=hy44_1.2
    clear hy44_1
    exact wpAny_mono (hs W₁ s₁ E fr₁) (fun f s₂ y=>let ⟨r,e,z⟩:=y; ⟨r,e,z.after (fr.same fr₁) mv⟩) fun _ _ y=>y) fun _ _ y=>y)
theorem Rets.ret {e:Expr} {pos:Pos} {rest:List Stmt} {v:V} {R:Heap→Prop} (h:DoesW F ρ g e v) (hG:∀ b,¬ F.Wg b) (hR:∀ h,R h):Rets F (.Return (some e) pos :: rest) ρ g v R:=fun W s E fr =>
  wpAny_execs_cons (wpAny_Return_some (wpAny_mono (h W s E fr) (fun r s' x=>⟨r,rfl,.of_rel x.1 fun b _ q=>(hG b q).elim,by obtain ⟨⟨h,t,e,_⟩,_⟩:=x.2; exact ⟨h,t,e⟩,x.2.2.1,x.2.2.2,fun b o _ e=>kGet x.2.1 b o e,hR _⟩) fun _ _ x=>x))
theorem Rets.retVar {i:Nat} {x:Str} {px pos:Pos} {rest:List Stmt} {v:V} (hx:F.ks[i]?=some x) (hi:ρ[i]?=some (.val v)) (hd:(x == ("__debug__":Str))=false:=by decide):Rets F (.Return (some (.Name x px)) pos :: rest) ρ g v (F.G g):=fun W s E fr=>by
  obtain ⟨m,cm,α,fr⟩:=fr
  obtain ⟨r,hy50_1⟩:=fr.slot i x _ hx hi
  have hat:=hy50_1.1
  have hr:=hy50_1.2
  clear hy50_1
  refine wpAny_execs_cons (wpAny_Return_some (wpAny_Name ?_ hd))
  have fin:∃ r',Flow.ret r=Flow.ret r'∧RetOk F v (F.G g) W s r' s:=⟨r,rfl,fun h' k=>hr h' fun b o hs hb e=>k b o hs (fun q=>hb (fr.gW b q).1) e,⟨s.heap,s.toks,rfl⟩,fr.tk,Nat.le_refl _,fun _ _ _ e=>e,fr.gh⟩
  rcases hat.var F.hown fr.ic with ⟨hl,m,hn,hm⟩ | ⟨hl | ⟨hl,hx'⟩,a,ha,hc⟩
  · exact wpAny_loadName_local F.hk hl hn hm fin
  · exact wpAny_loadName_cell F.hk hl ha hc fin
  · exact wpAny_loadName_free F.hk hl ha hc fin hx'
theorem FrP.weaken {W:Addr→Prop} {m cm:Str→Option Value} {α:Nat→Addr} {s:Shared} (x:FrP F ρ g W m cm α s) (h:∀ (i:Nat) sl,ρ'[i]?=some sl→sl=.non∨ρ[i]?=some sl):FrP F ρ' g W m cm α s :=
  ⟨x.ic,x.tk,x.wL,x.wC,x.live,x.gW,x.gh,fun i y sl hy hs=>by
    rcases h i sl hs with rfl | e
    · trivial
    · exact x.slot i y sl hy e,fun i j y z vs us hy hz hi hj e=>by
    rcases h i _ hi with q | q
    · cases q
    rcases h j _ hj with q' | q'
    · cases q'
    exact x.inj i j y z vs us hy hz q q' e⟩
theorem Run1.asgF {x:Str} {i:Nat} {px pos:Pos} {e:Expr} {v:V} (h:DoesFW F ρ g e v) (hx:F.ks[i]?=some x)
    (hs:swapsWith e (some (.Name x px)) pos.line F.env=pure false:=by rfl):Run1 F (.Assign [.Name x px] e pos) ρ g (ρ.set i (.val v)) g:=fun W s E fr=>by
  refine wpAny_Assign_Name (wpAny_mono (h W s E fr) (fun r s₁ q=>?_) fun _ _ q=>q) hs
  exact wpAny_mono ((fr.keeps q.2).store hx (q.1.2.vx fr.lt)) (fun _ s₂ z=>⟨rfl,W,z.1,(Mv.of q.2).trans z.2⟩) fun _ _ q=>q
theorem Run1.asg {x:Str} {i:Nat} {px pos:Pos} {e:Expr} {v:V} (h:DoesW F ρ g e v) (hf:v.flat=true) (hx:F.ks[i]?=some x)
    (hs:swapsWith e (some (.Name x px)) pos.line F.env=pure false:=by rfl):Run1 F (.Assign [.Name x px] e pos) ρ g (ρ.set i (.val v)) g:=.asgF (fun W=>(h W).flat hf) hx hs
theorem Run1.asgO {x:Str} {i:Nat} {px pos:Pos} {es:List Expr} {p:Pos} {vs:List V} (h:∀ W,DoesL (F.cx ρ g W) es vs) (hf:vs.all V.flat=true) (hl:shortL vs.length=true) (hx:F.ks[i]?=some x)
    (hs:swapsWith (.List es p) (some (.Name x px)) pos.line F.env=pure false:=by rfl):Run1 F (.Assign [.Name x px] (.List es p) pos) ρ g (ρ.set i (.own vs)) g:=fun W s E fr=>by
  refine wpAny_Assign_Name (wpAny_List (wpAny_mono (h W p s E fr) (fun rs s₁ q=>⟨by rw [q.1.length]; exact shortL_fits hl,?_⟩) fun _ _ q=>q)) hs
  have k:=q.2.trans (K1.push (o:={ cls:=.type "list",data:=.seq rs.toArray }) q.2.2.1)
  exact wpAny_mono (fr.storeOwn k q.2.2.2 hx ⟨_,Heap.get?_push_size _ rfl⟩ (fun h'=>q.1.flat hf)) (fun _ s₂ z=>let ⟨W',z1,z2⟩:=z; ⟨rfl,W',z1,z2⟩) fun _ _ q=>q
end
section
variable {F:Fx} {ρ ρ₁ ρ₂ ρ':List Slot} {g g₁ g':F.Γ} {W:Addr→Prop} {m cm:Str→Option Value} {α:Nat→Addr} {s:Shared}
theorem FrP.wrote {i:Nat} {x:Str} {vs vs':List V} {rs':List Value} {h':Heap} (fr:FrP F ρ g W m cm α s) (hx:F.ks[i]?=some x) (hi:ρ[i]?=some (.own vs)) (hs':Heap.SameBut (α i) s.heap h')
    (hl:h'.PlainList (α i) rs'.toArray) (hv:VXs W F.μ s.heap vs' rs'):FrP F (ρ.set i (.own vs')) g W m cm α { s with heap:=h' }:=by
  have hz10:=fr.slot i x _ hx hi
  have hat:=hz10.1
  have hWa:=hz10.2.1
  have hx10_0:=hz10.2.2.1
  have hw10_1:=hz10.2.2.2
  clear hz10
  obtain ⟨hg,hS⟩:=hx10_0
  obtain ⟨rs,hy10_1⟩:=hw10_1
  have hpl:=hy10_1.1
  have hvs:=hy10_1.2
  clear hy10_1
  have keep:∀ b o,b≠α i→s.heap.get? b=some o→h'.get? b=some o:=hs'.extBut
  have keepW:∀ b o,¬ W b→s.heap.get? b=some o→h'.get? b=some o:=fun b o hb e=>keep b o (fun q=>hb (q ▸ hWa)) e
  obtain ⟨h₀,t₀,hsame⟩:=fr.ic.toInCall.same
  have hlt:i < ρ.length:=(List.getElem?_eq_some_iff.mp hi).1
  refine ⟨⟨⟨⟨h',s.toks,by rw [hsame]⟩,fr.ic.toInCall.ns.sameBut hs' (Ne.symm (fr.apart (.inl rfl) hpl)),fun b o e=>keep b o (Nat.ne_of_lt (Nat.lt_of_lt_of_le (Heap.lt_size e) hS)) (fr.ic.toInCall.keep b o e),fr.ic.toInCall.fresh⟩,
      fun n c hc=>(fr.ic.cell n c hc).sameBut hs' (Ne.symm (fr.apart (.inr ⟨n,hc⟩) hpl)),fr.ic.apart,fr.ic.above⟩,fr.tk,fr.wL,fr.wC,fun b hb=>?_,fr.gW,F.Gok _ _ _ fr.gh fun b o hb e=>keep b o (fun q=>hb.elim (fun hb=>hg (q ▸ hb)) fun hb=>by obtain ⟨n,e2⟩:=hpl; rw [q,e2] at e; cases e; exact not_cod hb) e,fun j y sl hy hs=>?_,fun j k y z us ws hy hz hj hk e=>?_⟩
  · by_cases hba:b=α i
    · subst hba; obtain ⟨n,e⟩:=hl; exact ⟨_,e⟩
    · obtain ⟨o,ho⟩:=fr.live b hb; exact ⟨o,keep b o hba ho⟩
  · by_cases hji:j=i
    · subst hji
      rw [hx] at hy; cases hy
      rw [List.getElem?_set_self hlt] at hs; cases hs
      exact ⟨hat,hWa,⟨hg,hS⟩,rs',hl,hv.grow fun b o hb e=>⟨hb,keepW b o hb e⟩⟩
    · rw [List.getElem?_set_ne (Ne.symm hji)] at hs
      refine (fr.slot j y sl hy hs).grow (fun _ q=>q) (fun _ q=>q) (fun b o hb e=>⟨hb,keepW b o hb e⟩) fun us hus=>⟨rfl,fun o e=>keep _ o (fun q=>hji ?_) e⟩
      subst hus
      exact fr.inj j i y x us vs hy hx hs hi q
  · have conv:∀ (j:Nat) (us:List V),(ρ.set i (.own vs'))[j]?=some (Slot.own us)→∃ us',ρ[j]?=some (Slot.own us'):=fun j us hj=>by
      by_cases hji:j=i
      · subst hji; exact ⟨vs,hi⟩
      · rw [List.getElem?_set_ne (Ne.symm hji)] at hj; exact ⟨us,hj⟩
    obtain ⟨us',h1⟩:=conv j us hj
    obtain ⟨ws',h2⟩:=conv k ws hk
    exact fr.inj j k y z us' ws' hy hz h1 h2 e
theorem FrP.wroteMv {i:Nat} {x:Str} {vs:List V} {h':Heap} (fr:FrP F ρ g W m cm α s) (hx:F.ks[i]?=some x) (hi:ρ[i]?=some (.own vs)) (hs':Heap.SameBut (α i) s.heap h'):Mv s { s with heap:=h' } W W:=by
  have hz37:=fr.slot i x _ hx hi
  have hWa:=hz37.2.1
  clear hz37
  exact ⟨fun b o hb e=>hs'.extBut b o (fun q=>hb (q ▸ hWa)) e,Nat.le_of_eq hs'.1.symm,fun _ q=>.inl q⟩
theorem FrP.name {i:Nat} {x:Str} {vs:List V} {pos:Pos} {E:Value→Shared→Prop} {Q:Value→Shared→Prop} (fr:FrP F ρ g W m cm α s) (hx:F.ks[i]?=some x) (hi:ρ[i]?=some (.own vs)) (h:Q (.ref (α i)) s)
    (hd:(x == ("__debug__":Str))=false:=by decide):wpAny F.M F.A (eval (.Name x pos) F.env) Q E s:=by
  have hz42:=fr.slot i x _ hx hi
  have hat:=hz42.1
  clear hz42
  refine wpAny_Name ?_ hd
  rcases hat.var F.hown fr.ic with ⟨hl,m',hn,hm⟩ | ⟨hl | ⟨hl,hx'⟩,a,ha,hc⟩
  · exact wpAny_loadName_local F.hk hl hn hm h
  · exact wpAny_loadName_cell F.hk hl ha hc h
  · exact wpAny_loadName_free F.hk hl ha hc h hx'
theorem interactive_fn {env:Env} (h:env.scope.kind=.function):interactive env=false:=by unfold interactive; rw [h]; rfl
theorem Run1.append {x:Str} {i:Nat} {px apos cpos pos:Pos} {e:Expr} {vs:List V} {v:V} (h:DoesFW F ρ g e v) (hx:F.ks[i]?=some x) (hi:ρ[i]?=some (.own vs)) (hl:shortL vs.length=true)
    (hsw:swapsWith (.Call (.Attribute (.Name x px) (Str.ofString "append") apos) [e] [] cpos) none pos.line F.env=pure false:=by rfl)
    (hbase:attributeBase (.Name x px) (Str.ofString "append") F.env (eval (.Name x px) F.env)=eval (.Name x px) F.env:=by rfl)
    (hfew:((backTo cpos (starEach [e] F.env)).all (fun x=>!x.1) && (backToKw cpos (keywordEach [] F.env)).all (fun x=>x.1.isSome)
      && decide (([e]:List Expr).length+([]:List Keyword).length+(if ([]:List Keyword).isEmpty then 0 else 1) < 30))=true:=by rfl)
    (hline:(apos.endLine == cpos.line)=true:=by rfl) (htr:backTo cpos (starEach [e] F.env)=[(false,eval e F.env)]:=by rfl) (hd:(x == ("__debug__":Str))=false:=by decide) :
    Run1 F (.Expr (.Call (.Attribute (.Name x px) (Str.ofString "append") apos) [e] [] cpos) pos) ρ g (ρ.set i (.own (vs++[v]))) g:=fun W s E fr=>by
  refine wpAny_Expr ?_ (interactive_fn F.hk) hsw
  obtain ⟨m,cm,α,fr⟩:=fr
  refine wpAny_Call_append hbase hfew hline htr (fr.name hx hi ?_ hd)
  have hz61:=fr.slot i x _ hx hi
  have hWa:=hz61.2.1
  have hw61_1:=hz61.2.2.2
  clear hz61
  obtain ⟨rs,hy61_1⟩:=hw61_1
  have hx61_0:=hy61_1.1
  have hvs:=hy61_1.2
  clear hy61_1
  obtain ⟨n,hpl⟩:=hx61_0
  refine ⟨_,rs.toArray,rfl,⟨_,n,hpl,rfl,rfl,rfl⟩,wpAny_mono (h W s E ⟨m,cm,α,fr⟩) (fun r s₁ q=>?_) fun _ _ q=>q⟩
  have hx63_0:=q.1
  have k:=q.2
  try clear q
  obtain ⟨hr,hn⟩:=hx63_0
  have fr₁:=fr.keeps k.1 k.2.1
  have h1:vs.length < 4096:=Nat.le_of_ble_eq_true hl
  refine wpAny_list_append_plain (l:=α i) (items:=rs.toArray) ⟨n,kGet k.1 _ _ hpl⟩ (fun h' hl' hs'=>?_) (by rw [List.size_toArray,hvs.rel.length,sizeLine_eq]; omega)
  have hvx:VX W F.μ s₁.heap v r:=hn.vx fr.lt
  have hvs₁:VXs W F.μ s₁.heap vs rs:=hvs.grow fun b o hb e=>⟨hb,kGet k.1 _ _ e⟩
  exact ⟨rfl,W,⟨m,cm,α,fr₁.wrote hx hi hs' (by simpa using hl') (hvs₁.snoc hvx)⟩,(Mv.of k).trans (fr₁.wroteMv hx hi hs')⟩
theorem Fr1.freeze {i:Nat} {x:Str} {vs:List V} (fr:Fr1 F ρ g W s) (hx:F.ks[i]?=some x) (hi:ρ[i]?=some (.own vs)):∃ W',Fr1 F (ρ.set i (.val (.list vs))) g W' s∧Mv s s W W':=by
  obtain ⟨m,cm,α,fr⟩:=fr
  have hz74:=fr.slot i x _ hx hi
  have hat:=hz74.1
  have hWa:=hz74.2.1
  have hx74_0:=hz74.2.2.1
  have hw74_1:=hz74.2.2.2
  clear hz74
  obtain ⟨hg,hS⟩:=hx74_0
  obtain ⟨rs,hy74_1⟩:=hw74_1
  have hpl:=hy74_1.1
  have hvs:=hy74_1.2
  clear hy74_1
  have hlt:i < ρ.length:=(List.getElem?_eq_some_iff.mp hi).1
  refine ⟨fun b=>W b∧b≠α i,⟨m,cm,α,fr.ic,fr.tk,⟨fr.wL,Ne.symm (fr.apart (.inl rfl) hpl)⟩,fun n c hc=>⟨fr.wC n c hc,Ne.symm (fr.apart (.inr ⟨n,hc⟩) hpl)⟩,fun b hb=>fr.live b hb.1,fun b hb=>⟨⟨(fr.gW b hb).1,fun q=>hg (q ▸ hb)⟩,(fr.gW b hb).2⟩,fr.gh,fun j y sl hy hs=>?_,fun j k y z us ws hy hz hj hk e=>?_⟩,fun _ _ _ e=>e,Nat.le_refl _,fun b q=>.inl q.1⟩
  · have anti:∀ v r,VX W F.μ s.heap v r→VX (fun b=>W b∧b≠α i) F.μ s.heap v r:=fun v r q h' k=>q h' fun b o hs hb e=>k b o hs (fun z=>hb z.1) e
    have antis:∀ v r,VXs W F.μ s.heap v r→VXs (fun b=>W b∧b≠α i) F.μ s.heap v r:=fun v r q h' k=>q h' fun b o hs hb e=>k b o hs (fun z=>hb z.1) e
    by_cases hji:j=i
    · subst hji
      rw [hx] at hy; cases hy
      rw [List.getElem?_set_self hlt] at hs; cases hs
      refine ⟨_,hat,fun h' k=>?_⟩
      unfold VRel
      obtain ⟨n,ho⟩:=hpl
      exact ⟨_,rs,rfl,⟨n,k _ _ (.inl ⟨_,_,rfl⟩) (fun z=>z.2 rfl) ho⟩,hvs h' fun b o hs hb e=>k b o hs (fun z=>hb z.1) e⟩
    · rw [List.getElem?_set_ne (Ne.symm hji)] at hs
      have old:=fr.slot j y sl hy hs
      cases sl with
      | non=>trivial
      | val v=>obtain ⟨r,h1,h2⟩:=old; exact ⟨r,h1,anti v r h2⟩
      | adr Φ=>obtain ⟨r,h1,h2⟩:=old; exact ⟨r,h1,fun h₂ k₂=>h2 h₂ fun b o hs hb e=>k₂ b o hs (fun z=>hb z.1) e⟩
      | own us=>obtain ⟨h1,h2,h3,rs',h4,h5⟩:=old; exact ⟨h1,⟨h2,fun q=>hji (fr.inj j i y x us vs hy hx hs hi q)⟩,h3,rs',h4,antis us rs' h5⟩
  · by_cases hji:j=i
    · subst hji; rw [List.getElem?_set_self hlt] at hj; cases hj
    by_cases hki:k=i
    · subst hki; rw [List.getElem?_set_self hlt] at hk; cases hk
    rw [List.getElem?_set_ne (Ne.symm hji)] at hj
    rw [List.getElem?_set_ne (Ne.symm hki)] at hk
    exact fr.inj j k y z us ws hy hz hj hk e
theorem Runs.freeze {ss:List Stmt} {i:Nat} {x:Str} {vs:List V} (hx:F.ks[i]?=some x) (hi:ρ[i]?=some (.own vs)) (h:Runs F ss (ρ.set i (.val (.list vs))) g ρ' g'):Runs F ss ρ g ρ' g':=fun W s E fr=>by
  obtain ⟨W₁,hy102_1⟩:=fr.freeze hx hi
  have fr₁:=hy102_1.1
  have mv:=hy102_1.2
  clear hy102_1
  exact wpAny_mono (h W₁ s E fr₁) (fun f s₂ y=>let ⟨e,W₂,fr₂,mv₂⟩:=y; ⟨e,W₂,fr₂,mv.trans mv₂⟩) fun _ _ y=>y
theorem Rets.freeze {ss:List Stmt} {i:Nat} {x:Str} {vs:List V} {v:V} {R:Heap→Prop} (hx:F.ks[i]?=some x) (hi:ρ[i]?=some (.own vs)) (h:Rets F ss (ρ.set i (.val (.list vs))) g v R):Rets F ss ρ g v R:=fun W s E fr=>by
  obtain ⟨W₁,hy105_1⟩:=fr.freeze hx hi
  have fr₁:=hy105_1.1
  have mv:=hy105_1.2
  clear hy105_1
  exact wpAny_mono (h W₁ s E fr₁) (fun f s₂ y=>let ⟨r,e,z⟩:=y; ⟨r,e,z.after (fr.same fr₁) mv⟩) fun _ _ y=>y
end
section
variable {F:Fx} {ρ ρ₁ ρ₂ ρ':List Slot} {g g₁ g':F.Γ} {W:Addr→Prop} {m cm:Str→Option Value} {α:Nat→Addr} {s:Shared}
noncomputable def iopV (op:Operator) (a b:V):Option V:=match op with
  | .Add=>(match a with
    | .int a=>(match b with
      | .int b=>some (.int (a+b))
      | _=>none)
    | .str a=>(match b with
      | .str b=>if shortL a.length && shortL b.length then some (.str (a++b)) else none
      | _=>none)
    | _=>none)
  | .Sub=>(match a with
    | .int a=>(match b with
      | .int b=>some (.int (a - b))
      | _=>none)
    | _=>none)
  | _=>none
theorem iopV_sound {op:Operator} {a b v:V} {ra rb:Value} {prog:Program} {w:World} {A:Around} {E:Value→Shared→Prop} {μ:Addr} (hv:iopV op a b=some v) (xa:VRel μ s.heap a ra) (xb:VRel μ s.heap b rb) :
    wpAny (model prog w) A (inplaceOp op ra rb) (fun r s'=>(VRel μ s'.heap v r∧v.flat=true)∧Keeps s s') E s:=by
  cases op with
  | Add =>
    cases a with
    | int a =>
      cases b with
      | int b =>
        unfold VRel at xa xb
        obtain ⟨t,rfl⟩:=xa
        obtain ⟨u,rfl⟩:=xb
        cases hv
        exact AutoIntOps.iadd_0 ⟨⟨.i _ _,rfl⟩,kTok _ _⟩
      | _=>exact noneE hv
    | str a =>
      cases b with
      | str b =>
        have hz40:=ite_some hv
        have hs:=hz40.1
        have hx40_0:=hz40.2
        clear hz40
        subst hx40_0
        unfold VRel at xa xb
        obtain ⟨t,rfl⟩:=xa
        obtain ⟨u,rfl⟩:=xb
        exact SB.iadd (fun t' k=>⟨⟨.t _ _,rfl⟩,kTok _ _⟩) (shortL_le hs)
      | _=>exact noneE hv
    | _=>exact noneE hv
  | Sub =>
    cases a with
    | int a =>
      cases b with
      | int b =>
        unfold VRel at xa xb
        obtain ⟨t,rfl⟩:=xa
        obtain ⟨u,rfl⟩:=xb
        cases hv
        exact AutoIntOps.isub_0 ⟨⟨.i _ _,rfl⟩,kTok _ _⟩
      | _=>exact noneE hv
    | _=>exact noneE hv
  | _=>exact noneE hv
theorem VarAt.load {env:Env} {x:Str} {r:Value} {M:Model} {A:Around} {E:Value→Shared→Prop} {Q:Value→Shared→Prop} (hv:VarAt env s.heap x r) (hk:env.scope.kind=.function) (h:Q r s):wpAny M A (loadName env x) Q E s:=by
  rcases hv with ⟨hl,m,hn,hm⟩ | ⟨hl | ⟨hl,hx⟩,a,ha,hc⟩
  · exact wpAny_loadName_local hk hl hn hm h
  · exact wpAny_loadName_cell hk hl ha hc h
  · exact wpAny_loadName_free hk hl ha hc h hx
theorem Run1.aug {x:Str} {i:Nat} {px pos:Pos} {op:Operator} {e:Expr} {u v w:V} (h:DoesW F ρ g e v) (hx:F.ks[i]?=some x) (hi:ρ[i]?=some (.val u)) (hop:iopV op u v=some w) :
    Run1 F (.AugAssign (.Name x px) op e pos) ρ g (ρ.set i (.val w)) g:=fun W s E fr=>by
  obtain ⟨r,hy69_1⟩:=Fx.var (W:=W) hx hi s fr
  have hat:=hy69_1.1
  have hr:=hy69_1.2
  clear hy69_1
  refine wpAny_AugAssign_Name (hat.load F.hk (wpAny_mono (h W s E fr) (fun rv s₁ q=>?_) fun _ _ q=>q))
  refine wpAny_mono (run_of (c:=F.cx ρ g W) (fr.keeps q.2) (iopV_sound hop (hr.kept q.2.1) q.1)) (fun r' s₂ z=>?_) fun _ _ q=>q
  have k:=q.2.trans z.2
  exact wpAny_mono ((fr.keeps k).store hx (.of_flat z.1.1 z.1.2)) (fun _ s₃ y=>⟨rfl,W,y.1,(Mv.of k).trans y.2⟩) fun _ _ q=>q
theorem Run1.iff {t:Expr} {a b:List Stmt} {pos:Pos} {x:Bool} (ht:∀ W,Tests (F.cx ρ g W) t x) (ha:x=true→Runs F a ρ g ρ' g') (hb:x=false→Runs F b ρ g ρ' g'):Run1 F (.If t a b pos) ρ g ρ' g':=fun W s E fr=>by
  refine wpAny_If (wpAny_mono (ht W s E fr) (fun r s₁ q=>?_) fun _ _ q=>q)
  have hx77_0:=q.1
  have k:=q.2
  try clear q
  subst hx77_0
  cases r with
  | true=>exact wpAny_mono (ha rfl W s₁ E (fr.keeps k)) (fun f s₂ y=>let ⟨e,W₂,fr₂,mv₂⟩:=y; ⟨e,W₂,fr₂,(Mv.of k).trans mv₂⟩) fun _ _ y=>y
  | false=>exact wpAny_mono (hb rfl W s₁ E (fr.keeps k)) (fun f s₂ y=>let ⟨e,W₂,fr₂,mv₂⟩:=y; ⟨e,W₂,fr₂,(Mv.of k).trans mv₂⟩) fun _ _ y=>y
theorem Run1.skip {t:Expr} {a:List Stmt} {pos:Pos} (ht:∀ W,Tests (F.cx ρ g W) t false):Run1 F (.If t a [] pos) ρ g ρ g:=.iff ht (fun e=>nomatch e) fun _=>.nil
theorem Run1.of {st:Stmt} (h:∀ (W:Addr→Prop) (s:Shared) (E:Value→Shared→Prop),Fr1 F ρ g W s →
    wpAny F.M F.A (exec st F.env) (fun f s'=>f=.next∧∃ W',Fr1 F ρ' g' W' s'∧(∀ b o,¬ W b→s.heap.get? b=some o→s'.heap.get? b=some o)∧∀ b,W' b→W b∨s.heap.objs.size≤b) E s):Run1 F st ρ g ρ' g':=fun W s E fr =>
  wpAny_grow (let ⟨_,_,_,x⟩:=fr; x.tk) (h W s E fr) fun f s' _ hz x=>let ⟨e,W',fr',k,mo⟩:=x; ⟨e,W',fr',k,hz,mo⟩
theorem Run1.asg2 {x y:Str} {i j:Nat} {px py tp pos:Pos} {k:Nat} {e:Expr} {a b:V} (h:DoesW F ρ g e (.tup [a,b])) (hx:F.ks[i]?=some x) (hy:F.ks[j]?=some y) (ha:a.flat=true) (hb:b.flat=true)
    (hs:swapsWithSole [.Tuple [.Name x px,.Name y py] k tp] e pos.line F.env=pure false:=by rfl) (hw:swappedStores [.Tuple [.Name x px,.Name y py] k tp] e F.env=pure none:=by rfl) :
    Run1 F (.Assign [.Tuple [.Name x px,.Name y py] k tp] e pos) ρ g ((ρ.set i (.val a)).set j (.val b)) g:=.of fun W s E fr=>by
  refine Assign_Tuple (wpAny_mono (h W s E fr) (fun rv s₁ q=>?_) fun _ _ q=>q) hs hw
  have hr:=q.1
  have k₁:=q.2
  try clear q
  have fr₁:=fr.keeps k₁
  unfold VRel at hr
  obtain ⟨t,rs,hy95_1⟩:=hr
  have hx95_0:=hy95_1.1
  have ht:=hy95_1.2.1
  have hrs:=hy95_1.2.2
  clear hy95_1
  subst hx95_0
  obtain ⟨ra,rb,hy96_1⟩:=hrs.inv2
  have hx96_0:=hy96_1.1
  have xa:=hy96_1.2.1
  have xb:=hy96_1.2.2
  clear hy96_1
  subst hx96_0
  refine wpAny_assign_Tuple F.hh ht rfl rfl fun h₁ he=>?_
  have ke:∀ b o,s₁.heap.get? b=some o→h₁.get? b=some o:=fun b o e=>he b o (Nat.ne_of_lt (Heap.lt_size e)) e
  have fr₂:Fr1 F ρ g W { s₁ with heap:=h₁ }:=let ⟨m,cm,α,z⟩:=fr₁; ⟨m,cm,α,z.keeps ⟨h₁,s₁.toks,rfl,ke⟩ z.tk⟩
  show wpAny F.M F.A (assignInOrder [assign (.Name x px) F.env,assign (.Name y py) F.env] [ra,rb]) _ E _
  refine wpAny_assignInOrder_more (wpAny_assign_Name (wpAny_mono (fr₂.store hx (.of_flat (xa.flat ha) ha)) (fun _ s₃ z=>?_) fun _ _ q=>q))
  refine wpAny_assignInOrder_more (wpAny_assign_Name (wpAny_mono (z.1.store hy (.of_flat (xb.flat hb) hb)) (fun _ s₄ z'=>?_) fun _ _ q=>q))
  exact wpAny_assignInOrder_none ⟨rfl,W,z'.1,fun b o hb e=>z'.2.kept b o hb (z.2.kept b o hb (ke b o (kGet k₁.1 b o e))),fun b q=>.inl q⟩
theorem setItem_plain {prog:Program} {w:World} {A:Around} {E:Value→Shared→Prop} {l:Addr} {rs:List Value} {k:Int} {t:Tok} {v:Value} {Q:Unit→Shared→Prop} (hl:s.heap.PlainList l rs.toArray) (h0:0≤k) (hk:k < rs.length) (hfit:rs.length < 4096)
    (hQ:∀ h',h'.PlainList l (rs.set k.toNat v).toArray→Heap.SameBut l s.heap h'→Q () { s with heap:=h' }):wpAny (model prog w) A (setItem (.ref l) (.int k t) v) Q E s:=by
  have hl':=hl.isList
  have hf:Builtin.List.listFitsIndex k=true:=fitsIndex_of h0 (by omega)
  obtain ⟨n,ho⟩:=hl
  clear hfit
  unfold setItem
  try with_reducible refine wpAny_holding ?_
  first | refine wpAny_bind (wpAny_pure ?_) | skip
  refine wpAny_bind (wpAny_sequenceKey hl'.typeIs (by decide) ?_)
  refine wpAny_bind (wpAny_callSpecial?_slot (name:=Str.ofString "__setitem__") hl'.typeIs slot_list_setitem (wpAny_call_entry slot_list_setitem hl'.typeIs entry_list_setitem ?_ (args_list_setitem _ _ _)))
  show wpAny _ _ (Builtin.List.listSubscript? (.int k t) >>= _) _ _ s
  refine wpAny_bind (wpAny_listSubscript_int hf ?_)
  clear hf
  obtain ⟨j,rfl⟩:=Int.eq_ofNat_of_zero_le h0
  have hj:j < rs.length:=by omega
  have hx':rs.toArray[j]?=some rs[j]:=by simp [hj]
  show wpAny _ _ ((seqItemAt l j >>= fun r=>pure (r.map (j,·))) >>= _) _ _ s
  refine wpAny_bind (wpAny_bind (wpAny_seqItemAt ho rfl (wpAny_pure ?_)))
  rw [hx']
  show wpAny _ _ (setSeqItemAt l j v >>= _) _ _ s
  have hpl:Obj.mapSeq (·.setIfInBounds j v) { cls:=.type "list",data:=.seq rs.toArray n }={ cls:=.type "list",data:=.seq (rs.set j v).toArray n }:=by
    simp [Obj.mapSeq]
  have hfin:(s.heap.update l (Obj.mapSeq (·.setIfInBounds j v))).PlainList l (rs.set j v).toArray:=⟨n,by rw [Heap.get?_update_self _ ho (by rw [hpl]; rfl),hpl]⟩
  refine wpAny_bind (wpAny_setSeqItemAt ho rfl ?_)
  first
    | exact wpAny_bind (wpAny_pure (wpAny_pure ⟨.none,rfl,wpAny_pure (hQ _ hfin (Heap.SameBut.update ..))⟩))
    | exact wpAny_pure ⟨.none,rfl,wpAny_pure (hQ _ hfin (Heap.SameBut.update ..))⟩
theorem Run1.augIdx {x:Str} {i:Nat} {px tp pos:Pos} {op:Operator} {ie e:Expr} {vs:List V} {k:Int} {u v w:V} (hie:DoesW F ρ g ie (.int k)) (h:DoesW F ρ g e v) (hx:F.ks[i]?=some x) (hi:ρ[i]?=some (.own vs)) (h0:0≤k) (hk:vs[k.toNat]?=some u) (hop:iopV op u v=some w) (hl:shortL vs.length=true)
    (haug:∀ ov iv new,augStore ie ov iv new=(do holding [new,ov,iv] (setItem ov iv new); release [new,ov,iv] []; pure .next):=by intros; rfl) (hd:(x == ("__debug__":Str))=false:=by decide) :
    Run1 F (.AugAssign (.Subscript (.Name x px) ie tp) op e pos) ρ g (ρ.set i (.own (vs.set k.toNat w))) g:=fun W s E fr=>by
  obtain ⟨m,cm,α,fr⟩:=fr
  have hz139:=fr.slot i x _ hx hi
  have hWa:=hz139.2.1
  have hw139_1:=hz139.2.2.2
  clear hz139
  obtain ⟨rs,hy139_1⟩:=hw139_1
  have hpl:=hy139_1.1
  have hvs:=hy139_1.2
  clear hy139_1
  have h1:vs.length < 4096:=Nat.le_of_ble_eq_true hl
  have h2:k.toNat < vs.length:=(List.getElem?_eq_some_iff.mp hk).1
  refine wpAny_AugAssign_SubscriptAny (fr.name hx hi (wpAny_mono (hie W s E ⟨m,cm,α,fr⟩) (fun ri s₁ q=>?_) fun _ _ q=>q) hd) haug
  have hri:=q.1
  have k₁:=q.2
  try clear q
  unfold VRel at hri
  obtain ⟨t,rfl⟩:=hri
  have fr₁:=fr.keeps k₁.1 k₁.2.1
  have pl₁:s₁.heap.PlainList (α i) rs.toArray:=hpl.at fun o e=>kGet k₁.1 _ o e
  obtain ⟨ru,hy148_1⟩:=(hvs.rel.kept k₁.1).get hk
  have hru:=hy148_1.1
  have xu:=hy148_1.2
  clear hy148_1
  have hlen:=hvs.rel.length
  refine wpAny_getItem_list pl₁.isList h0 (by omega) (by simpa using hru) (wpAny_mono (h W s₁ E ⟨m,cm,α,fr₁⟩) (fun rv s₂ q=>?_) fun _ _ q=>q)
  refine wpAny_mono (run_of (c:=F.cx ρ g W) (s:=s₂) ⟨m,cm,α,fr₁.keeps q.2.1 q.2.2.1⟩ (iopV_sound hop (xu.kept q.2.1) q.1)) (fun r' s₃ z=>?_) fun _ _ q=>q
  have k₃:=(k₁.trans q.2).trans z.2
  have fr₃:=fr.keeps k₃.1 k₃.2.1
  have pl₃:s₃.heap.PlainList (α i) rs.toArray:=hpl.at fun o e=>kGet k₃.1 _ o e
  refine setItem_plain pl₃ h0 (by omega) (by omega) fun h' hl' hs'=>?_
  have hflat:=z.1.2
  have hset:∀ {vs:List V} {rs:List Value} {n:Nat} {h:Heap},VRels F.μ h vs rs→VRels F.μ h (vs.set n w) (rs.set n r'):=by
    intro vs
    induction vs with
    | nil=>intro rs n h x; unfold VRels at x; subst x; exact .nil
    | cons v vs ih =>
      intro rs n h x
      unfold VRels at x
      obtain ⟨r,rt,hy164_1⟩:=x
      have hx164_0:=hy164_1.1
      have y:=hy164_1.2.1
      have z':=hy164_1.2.2
      clear hy164_1
      subst hx164_0
      cases n with
      | zero=>exact .cons (z.1.1.flat hflat) z'
      | succ n=>exact .cons y (ih z')
  have hvx:VXs W F.μ s₃.heap (vs.set k.toNat w) (rs.set k.toNat r'):=fun h₂ k₂=>hset ((hvs.grow fun b o hb e=>⟨hb,kGet k₃.1 b o e⟩) h₂ k₂)
  exact ⟨rfl,W,⟨m,cm,α,fr₃.wrote hx hi hs' hl' hvx⟩,(Mv.of k₃).trans (fr₃.wroteMv hx hi hs')⟩
end
theorem wpAny_hide {α:Type} {M:Model} {A:Around} {s:Shared} {t:Sem α} {Q:α→Shared→Prop} {E:Value→Shared→Prop}
    (h:∀ (Q':α→Shared→Prop) (E':Value→Shared→Prop),(∀ a s',Q a s'→Q' a s')→wpAny M A t Q' E' s):wpAny M A t Q E s:=h Q E fun _ _ q=>q
theorem loopL {prog:Program} {w:World} {A:Around} {s:Shared} {R:Result→Shared→Prop} {target:Expr} {it:Value} {body:List Stmt} {env:Env} (I:Nat→Shared→Prop) (n:Nat) (h:I n s)
    (turn:∀ n s (K Z:Flow→Shared→Prop) (E:Value→Shared→Prop),I n s→(∀ m s',m < n→I m s'→K .next s')→(∀ s',R (.ok .next) s'→Z .next s')→(∀ v s',R (.ok (.ret v)) s'→K (.ret v) s') →
      wpAny (model prog w) A (pyNext it) (fun r s₁=>match r with
        | none=>Z .next s₁
        | some v=>wpAny (model prog w) A (letOwnedTupleGo target it v) (fun _ s₁'=>wpAny (model prog w) A (assign target env v) (fun _ s₂=>wpAny (model prog w) A (execs body env) K E s₂) E s₁') E s₁) E s) :
    codeAny (model prog w) A (.forLoop target it body [] env) R s:=by
  refine codeAny_forLoop_any I (fun n s hI=>?_) n h
  refine wpAny_mono (turn n s (fun f s₃=>match f with | .next | .cont=>∃ m,m < n∧I m s₃ | .brk=>R (.ok .next) s₃ | .ret v=>R (.ok (.ret v)) s₃) (fun f s₃=>R (.ok f) s₃) (notedBy (model prog w) A env fun e s'=>R (.error e) s') hI (fun m s' hm q=>⟨m,hm,q⟩) (fun _ q=>q) fun _ _ q=>q) (fun r s₁ q=>?_) fun _ _ q=>q
  cases r with
  | none=>exact wpAny_execs_nil q
  | some v=>exact q
theorem consK {M:Model} {A:Around} {s:Shared} {env:Env} {st:Stmt} {rest:List Stmt} {Q:Flow→Shared→Prop} {E:Value→Shared→Prop}
    (h:∀ K:Flow→Shared→Prop,(∀ s',wpAny M A (execs rest env) Q E s'→K .next s')→(∀ v s',Q (.ret v) s'→K (.ret v) s')→wpAny M A (exec st env) K E s):wpAny M A (execs (st :: rest) env) Q E s :=
  wpAny_execs_cons (h _ (fun _ q=>q) fun _ _ q=>q)
theorem forS {prog:Program} {w:World} {A:Around} {s:Shared} {Q:Flow→Shared→Prop} {E:Value→Shared→Prop} {target iter:Expr} {itv:Value} {body rest:List Stmt} {pos:Pos} {env:Env} (J:Nat→Shared→Prop) (n:Nat)
    (h:wpAny (model prog w) A (eval iter env) (fun x s₁=>wpAny (model prog w) A (pyIter x) (fun it s₂=>it=itv∧J n s₂) E s₁) E s)
    (turn:∀ n s (K:Flow→Shared→Prop) (Z:Shared→Prop) (E':Value→Shared→Prop),J n s→(∀ m s',m < n→J m s'→K .next s')→(∀ v s',Q (.ret v) s'→K (.ret v) s')→(∀ s',wpAny (model prog w) A (execs rest env) Q E s'→Z s') →
      wpAny (model prog w) A (pyNext itv) (fun r s₁=>match r with
        | none=>Z s₁
        | some v=>wpAny (model prog w) A (letOwnedTupleGo target itv v) (fun _ s₁'=>wpAny (model prog w) A (assign target env v) (fun _ s₂=>wpAny (model prog w) A (execs body env) K E' s₂) E' s₁') E' s₁) E' s)
    (hs:∀ x,foldedSetIterable iter env x=pure x:=by intro _; rfl):wpAny (model prog w) A (execs (.For target iter body [] pos :: rest) env) Q E s:=by
  refine wpAny_execs_cons (wpAny_For (wpAny_mono h (fun x s₁ q'=>wpAny_mono q' (fun it s₂ q=>?_) fun _ _ q=>q) fun _ _ q=>q) hs)
  cases q.1
  exact loopL J n q.2 fun n s K Z E' hJ hK hZ hR=>turn n s K (Z .next) E' hJ hK hR hZ
section
variable {F:Fx} {ρ ρ':List Slot} {g g':F.Γ} {W:Addr→Prop} {m cm:Str→Option Value} {α:Nat→Addr} {s:Shared}
theorem Run1.andThen {st:Stmt} {rest:List Stmt} {Q:Flow→Shared→Prop} {E:Value→Shared→Prop} (r:Run1 F st ρ g ρ' g') (fr:Fr1 F ρ g W s) (h:∀ W' s',Fr1 F ρ' g' W' s'→Mv s s' W W'→wpAny F.M F.A (execs rest F.env) Q E s'):wpAny F.M F.A (execs (st :: rest) F.env) Q E s :=
  wpAny_execs_cons (wpAny_mono (r W s E fr) (fun f s' q=>by
    obtain ⟨rfl,W',fr',mv⟩:=q
    exact h W' s' fr' mv) fun _ _ q=>q)
theorem FrP.touch {T:Addr→Prop} {h':Heap} {tk:Nat} (x:FrP F ρ g W m cm α s) (hT:∀ b,T b→¬ W b∧F.S0.heap.objs.size≤b∧∀ o,s.heap.get? b=some o→¬ seqish o)
    (k:∀ b o,¬ T b→s.heap.get? b=some o→h'.get? b=some o) (ht:1≤tk):FrP F ρ g W m cm α { s with heap:=h',toks:=tk }:=by
  have kW:∀ b o,W b→s.heap.get? b=some o→h'.get? b=some o:=fun b o hb e=>k b o (fun q=>(hT b q).1 hb) e
  have kS:∀ b o,seqish o→s.heap.get? b=some o→h'.get? b=some o:=fun b o hs e=>k b o (fun q=>(hT b q).2.2 o e hs) e
  obtain ⟨h₀,t₀,hsame⟩:=x.ic.toInCall.same
  have hL:=x.ic.toInCall.ns
  refine ⟨⟨⟨⟨h',tk,by rw [hsame]⟩,hL.at' fun o e=>kW _ o x.wL e,fun b o e=>k b o (fun q=>Nat.lt_irrefl _ (Nat.lt_of_lt_of_le (Heap.lt_size e) (hT b q).2.1)) (x.ic.toInCall.keep b o e),x.ic.toInCall.fresh⟩,
      fun n c hc=>let ⟨o,ho,hd⟩:=x.ic.cell n c hc; ⟨o,kW c o (x.wC n c hc) ho,hd⟩,x.ic.apart,x.ic.above⟩,ht,x.wL,x.wC,fun b hb=>let ⟨o,ho⟩:=x.live b hb; ⟨o,kW b o hb ho⟩,x.gW,F.Gok _ _ _ x.gh fun b o hb e=>hb.elim (fun hb=>kW b o (x.gW b hb).1 e) fun hb=>kS b o hb.seq e,fun i y sl hy hs=>?_,x.inj⟩
  have old:=x.slot i y sl hy hs
  cases sl with
  | non=>trivial
  | val v=>obtain ⟨r,h1,h2⟩:=old; exact ⟨r,h1,fun h₂ k₂=>h2 h₂ fun b o hq hb e=>k₂ b o hq hb (kS b o hq e)⟩
  | adr Φ=>obtain ⟨r,h1,h2⟩:=old; exact ⟨r,h1,fun h₂ k₂=>h2 h₂ fun b o hq hb e=>k₂ b o hq hb (kS b o hq e)⟩
  | own vs=>obtain ⟨h1,h2,h3,rs,h4,h5⟩:=old; exact ⟨h1,h2,h3,rs,h4.at fun o e=>kW _ o h2 e,fun h₂ k₂=>h5 h₂ fun b o hq hb e=>k₂ b o hq hb (kS b o hq e)⟩
theorem VRel.at {μ:Addr} {h:Heap} {v:V} {a:Addr} (x:VRel μ h v (.ref a)) (hm:v≠.mach):∃ o,h.get? a=some o∧seqish o:=by
  cases v with
  | none=>unfold VRel at x; cases x
  | bool=>unfold VRel at x; cases x
  | int=>unfold VRel at x; obtain ⟨t,e⟩:=x; cases e
  | flt=>unfold VRel at x; obtain ⟨t,_,e⟩:=x; cases e
  | flk=>unfold VRel at x; cases x.2
  | str=>unfold VRel at x; obtain ⟨t,e⟩:=x; cases e
  | mach=>exact absurd rfl hm
  | tup vs=>unfold VRel at x; obtain ⟨b,rs,e,⟨o,ho,hc,q⟩,_⟩:=x; cases e; exact ⟨o,ho,.inl ⟨_,q⟩⟩
  | list vs=>unfold VRel at x; obtain ⟨b,rs,e,⟨n,ho⟩,_⟩:=x; cases e; exact ⟨_,ho,.inl ⟨_,_,rfl⟩⟩
  | rng p q=>unfold VRel at x; obtain ⟨b,t,u,z,e,ho⟩:=x; cases e; exact ⟨_,ho,.inr (.inl ⟨_,rfl,rfl⟩)⟩
theorem VX.avoid {μ:Addr} {h:Heap} {v:V} {a:Addr} (x:VX W μ h v (.ref a)) (hm:v≠.mach):¬ W a:=fun hw=>by
  obtain ⟨o,hy35_1⟩:=x.rel.at hm
  have ho:=hy35_1.1
  clear hy35_1
  have hg:(h.update a (fun _=>{ cls:=.type "int",data:=.cell none })).get? a=some { cls:=.type "int",data:=.cell none }:=Heap.get?_update_self _ ho rfl
  have q:=x (h.update a (fun _=>{ cls:=.type "int",data:=.cell none })) fun b o _ hb e=>(Heap.get?_update_other _ _ (fun z:a=b=>hb (z ▸ hw))).trans e
  obtain ⟨o',hy38_1⟩:=q.at hm
  have ho':=hy38_1.1
  have hq:=hy38_1.2
  clear hy38_1
  rw [hg] at ho'; cases ho'
  exact seqish.not_cell rfl hq
noncomputable def DoesA (F:Fx) (ρ:List Slot) (g:F.Γ) (e:Expr) (v:V):Prop:=∀ (W:Addr→Prop) (s:Shared) (E:Value→Shared→Prop),Fr1 F ρ g W s →
  wpAny F.M F.A (eval e F.env) (fun r s'=>(VRel F.μ s'.heap v r∧∀ a,r=.ref a→¬ W a)∧K1 s s') E s
theorem DoesA.new {e:Expr} {v:V} (h:DoesFW F ρ g e v) (hm:v≠.mach):DoesA F ρ g e v:=fun W s E fr =>
  wpAny_mono (h W s E fr) (fun r s' q=>⟨⟨q.1.1,fun a e=>by subst e; exact (q.1.2.vx fr.lt).avoid hm⟩,q.2⟩) fun _ _ q=>q
theorem DoesA.var {i:Nat} {x:Str} {pos:Pos} {v:V} (hx:F.ks[i]?=some x) (hi:ρ[i]?=some (.val v)) (hm:v≠.mach) (hd:(x == ("__debug__":Str))=false:=by decide):DoesA F ρ g (.Name x pos) v:=fun W s E fr=>by
  obtain ⟨m,cm,α,fr⟩:=fr
  obtain ⟨r,hy49_1⟩:=fr.slot i x _ hx hi
  have hat:=hy49_1.1
  have hr:=hy49_1.2
  clear hy49_1
  exact wpAny_Name ((hat.var F.hown fr.ic).load F.hk ⟨⟨hr.rel,fun a e=>by subst e; exact hr.avoid hm⟩,kRefl _,fr.tk,Nat.le_refl _⟩) hd
noncomputable def Walked (F:Fx) (ρ:List Slot) (g:F.Γ) (iter:Expr) (xs:List V):Prop:=∀ (W:Addr→Prop) (s:Shared) (E:Value→Shared→Prop),Fr1 F ρ g W s →
  wpAny F.M F.A (eval iter F.env) (fun r s₁=>wpAny F.M F.A (pyIter r) (fun it s₂=>K1 s s₂∧∃ I fp P St,it=.ref I∧Walks F.prog F.w F.A I fp [I] xs.length P St∧St 0 s₂.heap∧(∀ b∈fp,¬ W b∧∃ o,s₂.heap.get? b=some o)∧s.heap.objs.size≤I ∧
    (∀ i v,P i v→∃ x,xs[i]?=some x∧VRel F.μ s₂.heap x v)∧∀ i h,St i h→∃ o,h.get? I=some o∧¬ seqish o) E s₁) E s
theorem DoesA.walked {iter:Expr} {src:V} {xs:List V} (hit:DoesA F ρ g iter src) (hsrc:itemsV src=some xs) (hkd:src.isList=true∨∃ i,V.int i∈xs):Walked F ρ g iter xs:=fun W s E fr=>by
  refine wpAny_mono (hit W s E fr) (fun r s₁ q=>?_) fun _ _ q=>q
  have hx58_0:=q.1
  have k₁:=q.2
  try clear q
  obtain ⟨hr,hav⟩:=hx58_0
  have fr₁:=fr.keeps k₁
  refine wpAny_grow k₁.2.1 (iterV_sound hsrc hr F.hh) fun it s₂ ht₂ hz₂ q=>?_
  have k₂:=q.1
  have hw61_1:=q.2
  try clear q
  obtain ⟨I,fp,P,St,It⟩:=hw61_1
  have hmach:src≠.mach:=by rintro rfl; cases hsrc
  refine ⟨k₁.trans ⟨k₂,ht₂,hz₂⟩,I,fp,P,St,It.is,It.walks,It.start,fun b hb=>⟨fun q=>?_,?_⟩,Nat.le_trans k₁.2.2 It.new,fun i v hP=>let ⟨x,e,y⟩:=It.item i v hP; ⟨x,e,y.kept k₂⟩,fun i h st=>It.kind hkd i h st⟩
  · rcases It.src b hb with rfl | e
    · exact Nat.lt_irrefl _ (Nat.lt_of_lt_of_le (fr₁.lt _ q) It.new)
    · exact hav b e q
  · rcases It.src b hb with rfl | e
    · obtain ⟨o,ho,_⟩:=It.kind hkd 0 _ It.start; exact ⟨o,ho⟩
    · subst e; obtain ⟨o,ho,_⟩:=hr.at hmach; exact ⟨o,kGet k₂ b o ho⟩
structure WInv (F:Fx) (ρs:Nat→List Slot) (gs:Nat→F.Γ) (c:Nat) (St:Nat→Heap→Prop) (fp:List Addr) (W:Addr→Prop) (h₂:Heap) (I:Addr) (j:Nat) (W':Addr→Prop) (s':Shared):Prop where
  hj:j≤c
  fr:Fr1 F (ρs j) (gs j) W' s'
  st:St j s'.heap
  fp:∀ b∈fp,¬ W' b∧∃ o,s'.heap.get? b=some o
  sz:h₂.objs.size≤s'.heap.objs.size
  keep:∀ b o,¬ W b→b≠I→h₂.get? b=some o→s'.heap.get? b=some o
  more:∀ b,W' b→W b∨h₂.objs.size≤b
theorem Run1.forW {ρs:Nat→List Slot} {gs:Nat→F.Γ} {i:Nat} {x:Str} {px pos:Pos} {iter:Expr} {body:List Stmt} {xs:List V} (hit:Walked F (ρs 0) (gs 0) iter xs) (hflat:∀ v∈xs,v.flat=true) (hx:F.ks[i]?=some x)
    (step:∀ j v,xs[j]?=some v→Runs F body ((ρs j).set i (.val v)) (gs j) (ρs (j+1)) (gs (j+1)))
    (hs:∀ x,foldedSetIterable iter F.env x=pure x:=by intro _; rfl):Run1 F (.For (.Name x px) iter body [] pos) (ρs 0) (gs 0) (ρs xs.length) (gs xs.length):=.of fun W s E fr=>by
  refine wpAny_hide fun QQ E' hQQ=>?_
  refine wpAny_For (wpAny_mono (hit W s E' fr) (fun r s₁ q=>?_) fun _ _ q=>q) hs
  refine wpAny_mono q (fun it s₂ q=>?_) fun _ _ q=>q
  have k₂':=q.1
  have hw83_1:=q.2
  try clear q
  obtain ⟨I,fp,P,St,hy83_1⟩:=hw83_1
  have hx83_0:=hy83_1.1
  have Wk:=hy83_1.2.1
  have hst:=hy83_1.2.2.1
  have hfp0:=hy83_1.2.2.2.1
  have hnew:=hy83_1.2.2.2.2.1
  have item:=hy83_1.2.2.2.2.2.1
  have kind:=hy83_1.2.2.2.2.2.2
  clear hy83_1
  subst hx83_0
  have fr₂:Fr1 F (ρs 0) (gs 0) W s₂:=fr.keeps k₂'
  have hIn:I∈fp:=Wk.sub I (by simp)
  have hS0:F.S0.heap.objs.size≤s.heap.objs.size:=let ⟨_,_,_,z⟩:=fr; Nat.le_trans z.ic.toInCall.fresh (Nat.le_of_lt z.ic.toInCall.ns.lt)
  refine loopL (fun k s'=>∃ j W',k=xs.length+1 - j∧WInv F ρs gs xs.length St fp W s₂.heap I j W' s') (xs.length+1) ?_ ?_
  rotate_left
  · intro n s' KK ZZ EE hI hKK hZZ _
    replace hZZ:=fun s' q=>hZZ s' (hQQ .next s' q)
    obtain ⟨j,W',rfl,V⟩:=hI
    have hj:=V.hj
    have frj:=V.fr
    have hstj:=V.st
    have hfp:=V.fp
    have hsz:=V.sz
    have hkeep:=V.keep
    have hmore:=V.more
    clear V
    have hT:∀ b,b=I→¬ W' b∧F.S0.heap.objs.size≤b∧∀ o,s'.heap.get? b=some o→¬ seqish o:=by
      rintro b rfl
      refine ⟨(hfp b hIn).1,Nat.le_trans hS0 hnew,fun o ho=>?_⟩
      obtain ⟨o',hy100_1⟩:=kind j _ hstj
      have ho':=hy100_1.1
      have hq:=hy100_1.2
      clear hy100_1
      rw [ho] at ho'; cases ho'; exact hq
    obtain ⟨m,cm,α,frj⟩:=frj
    by_cases hlt:j < xs.length
    · refine wpAny_grow (E:=EE) frj.tk (Wk.item j s' (fun r s₁=>∃ v,r=some v∧P j v∧∃ h tk,s₁={ s' with heap:=h,toks:=tk }∧St (j+1) h∧∀ b o,b ∉ [I]→s'.heap.get? b=some o→h.get? b=some o) _ hlt hstj
        fun v h₁ tk₁ hP hst₁ hk₁=>⟨v,rfl,hP,h₁,tk₁,rfl,hst₁,hk₁⟩) fun r s₃ ht₃ hz₃ q=>?_
      obtain ⟨v,hy106_1⟩:=q
      have hx106_0:=hy106_1.1
      have hP:=hy106_1.2.1
      have hw106_2:=hy106_1.2.2
      clear hy106_1
      subst hx106_0
      obtain ⟨h₁,tk₁,hy106_2⟩:=hw106_2
      have hx106_0:=hy106_2.1
      have hst₁:=hy106_2.2.1
      have hk₁:=hy106_2.2.2
      clear hy106_2
      subst hx106_0
      obtain ⟨xv,hy107_1⟩:=item j v hP
      have hxv:=hy107_1.1
      have hv:=hy107_1.2
      clear hy107_1
      have hfl:=hflat xv (List.mem_of_getElem? hxv)
      have fr₃:FrP F (ρs j) (gs j) W' m cm α { s' with heap:=h₁,toks:=tk₁ }:=frj.touch hT (fun b o hb e=>hk₁ b o (by simpa using hb) e) ht₃
      show wpAny _ _ (letOwnedTupleGo (.Name x px) (.ref I) v) _ _ _
      refine wpAny_of_eq (a:=()) rfl ?_
      refine wpAny_assign_Name (wpAny_mono (Fr1.store ⟨m,cm,α,fr₃⟩ hx (v:=xv) (.of_flat (hv.flat hfl) hfl)) (fun _ s₄ q=>?_) fun _ _ q=>q)
      have fr₄:=q.1
      have mv₄:=q.2
      try clear q
      refine wpAny_mono (step j xv hxv W' s₄ _ fr₄) (fun f s₅ q=>?_) fun _ _ q=>q
      have hx114_0:=q.1
      have hw114_1:=q.2
      try clear q
      subst hx114_0
      obtain ⟨W'',hy114_1⟩:=hw114_1
      have fr₅:=hy114_1.1
      have mv₅:=hy114_1.2
      clear hy114_1
      have live₃:∀ b∈fp,∃ o,h₁.get? b=some o:=fun b hb=>by
        by_cases hbI:b=I
        · subst hbI; obtain ⟨o,ho,_⟩:=kind (j+1) _ hst₁; exact ⟨o,ho⟩
        · obtain ⟨o,ho⟩:=(hfp b hb).2; exact ⟨o,hk₁ b o (by simpa using hbI) ho⟩
      have kfp:∀ b∈fp,∀ o,h₁.get? b=some o→s₅.heap.get? b=some o:=fun b hb o e=>mv₅.kept b o (fun q=>(hfp b hb).1 q) (mv₄.kept b o (hfp b hb).1 e)
      refine hKK (xs.length+1 - (j+1)) _ (by omega) ⟨j+1,W'',rfl,⟨hlt,fr₅,Wk.frame _ _ _ hst₁ kfp,fun b hb=>⟨fun q=>?_,?_⟩,Nat.le_trans hsz (Nat.le_trans hz₃ (Nat.le_trans mv₄.size mv₅.size)),fun b o hb hbf e=>?_,fun b hb=>?_⟩⟩
      · obtain ⟨o,ho⟩:=live₃ b hb
        rcases mv₅.more b q with q | q
        · exact (hfp b hb).1 q
        · exact Nat.lt_irrefl _ (Nat.lt_of_lt_of_le (Heap.lt_size (mv₄.kept b o (hfp b hb).1 ho)) q)
      · obtain ⟨o,ho⟩:=live₃ b hb; exact ⟨o,kfp b hb o ho⟩
      · have hbW:¬ W' b:=fun q=>(hmore b q).elim hb fun z=>Nat.lt_irrefl _ (Nat.lt_of_lt_of_le (Heap.lt_size e) z)
        have e1:=hk₁ b o (by simpa using hbf) (hkeep b o hb hbf e)
        exact mv₅.kept b o hbW (mv₄.kept b o hbW e1)
      · rcases mv₅.more b hb with q | q
        · exact hmore b q
        · exact .inr (Nat.le_trans hsz (Nat.le_trans hz₃ (Nat.le_trans mv₄.size q)))
    · have hje:j=xs.length:=by omega
      subst hje
      refine wpAny_grow (E:=EE) frj.tk (Wk.done s' (fun r s₁=>r=none∧∃ h tk,s₁={ s' with heap:=h,toks:=tk }∧∀ b o,b ∉ [I]→s'.heap.get? b=some o→h.get? b=some o) _ hstj
        fun h₁ tk₁ hk₁=>⟨rfl,h₁,tk₁,rfl,hk₁⟩) fun r s₃ ht₃ hz₃ q=>?_
      have hx136_0:=q.1
      have hw136_1:=q.2
      try clear q
      subst hx136_0
      obtain ⟨h₁,tk₁,hy136_1⟩:=hw136_1
      have hx136_0:=hy136_1.1
      have hk₁:=hy136_1.2
      clear hy136_1
      subst hx136_0
      refine hZZ _ ⟨rfl,W',⟨m,cm,α,frj.touch hT (fun b o hb e=>hk₁ b o (by simpa using hb) e) ht₃⟩,fun b o hb e=>?_,fun b hb=>(hmore b hb).imp id fun z=>Nat.le_trans k₂'.2.2 z⟩
      have hbI:b≠I:=fun q=>Nat.lt_irrefl _ (Nat.lt_of_lt_of_le (Heap.lt_size e) (q ▸ hnew))
      exact hk₁ b o (by simpa using hbI) (hkeep b o hb hbI (kGet k₂'.1 b o e))
  · exact ⟨0,W,rfl,⟨Nat.zero_le _,fr₂,hst,hfp0,Nat.le_refl _,fun _ _ _ _ e=>e,fun _ q=>.inl q⟩⟩
theorem Run1.for1 {ρs:Nat→List Slot} {gs:Nat→F.Γ} {i:Nat} {x:Str} {px pos:Pos} {iter:Expr} {body:List Stmt} {src:V} {xs:List V} (hit:DoesA F (ρs 0) (gs 0) iter src) (hsrc:itemsV src=some xs)
    (hkd:src.isList=true∨∃ i,V.int i∈xs) (hflat:∀ v∈xs,v.flat=true) (hx:F.ks[i]?=some x)
    (step:∀ j v,xs[j]?=some v→Runs F body ((ρs j).set i (.val v)) (gs j) (ρs (j+1)) (gs (j+1)))
    (hs:∀ x,foldedSetIterable iter F.env x=pure x:=by intro _; rfl):Run1 F (.For (.Name x px) iter body [] pos) (ρs 0) (gs 0) (ρs xs.length) (gs xs.length):=.forW (hit.walked hsrc hkd) hflat hx step hs
end
section
variable {F:Fx} {ρ ρ':List Slot} {g g':F.Γ} {W:Addr→Prop} {m cm:Str→Option Value} {α:Nat→Addr} {s:Shared}
theorem Fr1.globN {x:Str} {np:Pos} {v:Value} {Q:Value→Shared→Prop} {E:Value→Shared→Prop} (fr:Fr1 F ρ g W s) (hx:F.env.kindOf x=some .globalImplicit) (hv:F.gl x=some v) (h:Q v s) (hd:(x == ("__debug__":Str))=false:=by decide) :
    wpAny F.M F.A (eval (.Name x np) F.env) Q E s:=glob_name (c:=F.cx ρ g W) fr hx hv h hd
noncomputable def RunT (F:Fx) (st:Stmt) (ρ:List Slot) (g:F.Γ) (Q:Nat→List Slot→F.Γ→Nat→Prop):Prop:=∀ (W:Addr→Prop) (s:Shared) (E:Value→Shared→Prop),Fr1 F ρ g W s →
  wpAny F.M F.A (exec st F.env) (fun f s'=>f=.next∧∃ ρ' g' W',Q s.toks ρ' g' s'.toks∧Fr1 F ρ' g' W' s'∧Mv s s' W W') E s
noncomputable def RunsT (F:Fx) (ss:List Stmt) (ρ:List Slot) (g:F.Γ) (Q:Nat→List Slot→F.Γ→Nat→Prop):Prop:=∀ (W:Addr→Prop) (s:Shared) (E:Value→Shared→Prop),Fr1 F ρ g W s →
  wpAny F.M F.A (execs ss F.env) (fun f s'=>f=.next∧∃ ρ' g' W',Q s.toks ρ' g' s'.toks∧Fr1 F ρ' g' W' s'∧Mv s s' W W') E s
theorem RunT.of {st:Stmt} {ρ:List Slot} {g:F.Γ} {Q:Nat→List Slot→F.Γ→Nat→Prop} (h:∀ (W:Addr→Prop) (s:Shared) (E:Value→Shared→Prop),Fr1 F ρ g W s →
    wpAny F.M F.A (exec st F.env) (fun f s'=>f=.next∧∃ ρ' g' W',Q s.toks ρ' g' s'.toks∧Fr1 F ρ' g' W' s'∧(∀ b o,¬ W b→s.heap.get? b=some o→s'.heap.get? b=some o)∧∀ b,W' b→W b∨s.heap.objs.size≤b) E s):RunT F st ρ g Q:=fun W s E fr =>
  wpAny_grow (let ⟨_,_,_,x⟩:=fr; x.tk) (h W s E fr) fun f s' _ hz x=>let ⟨e,ρ',g',W',q,fr',k,mo⟩:=x; ⟨e,ρ',g',W',q,fr',k,hz,mo⟩
structure EInv (F:Fx) (T:Nat→List Slot→F.Γ→Nat→Prop) (c:Nat) (rs:List Value) (W:Addr→Prop) (h':Heap) (I l:Addr) (n:Nat) (W':Addr→Prop) (old:Value) (ρ:List Slot) (g:F.Γ) (s':Shared):Prop where
  hn:n≤c
  hT:∃ t,t≤s'.toks∧T n ρ g t
  fr:Fr1 F ρ g W' s'
  hE:IsEnum s'.heap (I+1) I (n:Nat) old
  hI:s'.heap.IsListIter I l n
  hl:s'.heap.PlainList l rs.toArray
  out:¬ W' (I+1)∧¬ W' I∧¬ W' l
  hz:h'.objs.size≤s'.heap.objs.size
  keep:∀ b o,¬ W b→b≠I→b≠I+1→h'.get? b=some o→s'.heap.get? b=some o
  more:∀ b,W' b→W b∨I+2≤b
theorem RunT.forE {T:Nat→List Slot→F.Γ→Nat→Prop} {ρ₀:List Slot} {g₀:F.Γ} {i j:Nat} {xi xv:Str} {pi pv tp np cpos pos:Pos} {k:Nat} {e:Expr} {body:List Stmt} {xs:List V} (he:DoesA F ρ₀ g₀ e (.list xs)) (hl:shortL xs.length=true)
    (hflat:∀ v∈xs,v.flat=true) (hxi:F.ks[i]?=some xi) (hxv:F.ks[j]?=some xv) (hge:F.env.kindOf (Str.ofString "enumerate")=some .globalImplicit) (hg:F.gl (Str.ofString "enumerate")=some (.type "enumerate"))
    (hT0:∀ t,T 0 ρ₀ g₀ t) (step:∀ n v ρ g t₀,xs[n]?=some v→T n ρ g t₀→RunsT F body ((ρ.set i (.val (.int n))).set j (.val v)) g (fun t ρ' g' t'=>t₀≤t→T (n+1) ρ' g' t'))
    (hse:starEach [e] F.env=[(false,eval e F.env)]:=by rfl) (hp:(backTo cpos (starEach [e] F.env)).any (·.1)=false:=by rfl) :
    RunT F (.For (.Tuple [.Name xi pi,.Name xv pv] k tp) (.Call (.Name (Str.ofString "enumerate") np) [e] [] cpos) body [] pos) ρ₀ g₀ (fun _ ρ' g' t'=>∃ t,t≤t'∧T xs.length ρ' g' t):=.of fun W s E fr=>by
  refine wpAny_hide fun QQ E hQQ=>?_
  refine wpAny_For (wpAny_Call_NameR (fr.globN hge hg ?_)) (fun _=>rfl)
  refine PySem.callWith_type hp (args_any (wpAny_items_cons (wpAny_mono (he W s E fr) (fun r s₁ q=>?_) fun _ _ q=>q) hse) hse)
  have hx36_0:=q.1
  have k₁:=q.2
  try clear q
  obtain ⟨hr,hav⟩:=hx36_0
  have fr₁:=fr.keeps k₁
  unfold VRel at hr
  obtain ⟨l,rs,hy39_1⟩:=hr
  have hx39_0:=hy39_1.1
  have hx39_1:=hy39_1.2.1
  have hrs:=hy39_1.2.2
  clear hy39_1
  subst hx39_0
  obtain ⟨nn,ho⟩:=hx39_1
  have h1:xs.length < 4096:=Nat.le_of_ble_eq_true hl
  have hlen:=hrs.length
  refine Calls.spliced_nil (call_enumerate_1 ho fun h' hE hI hsz hk=>wpAny_pyIter_enum hE ?_)
  have hS0:F.S0.heap.objs.size≤s₁.heap.objs.size:=let ⟨_,_,_,z⟩:=fr₁; Nat.le_trans z.ic.toInCall.fresh (Nat.le_of_lt z.ic.toInCall.ns.lt)
  have hll:l < s₁.heap.objs.size:=Heap.lt_size ho
  generalize hI0:s₁.heap.objs.size=I at *
  have k₂:K1 s₁ { s₁ with heap:=h' }:=⟨⟨h',s₁.toks,rfl,hk⟩,k₁.2.1,by rw [hI0]; show I≤h'.objs.size; omega⟩
  have fr₂:Fr1 F ρ₀ g₀ W { s₁ with heap:=h' }:=fr₁.keeps k₂
  have hWI:∀ b,W b→b < I:=fun b q=>hI0 ▸ fr₁.lt b q
  refine loopL (fun kk s'=>∃ n W' old ρ g,kk=xs.length+1 - n∧EInv F T xs.length rs W h' I l n W' old ρ g s') (xs.length+1) ?_ ?_
  rotate_left
  · intro kk s' KK ZZ EE hI hKK hZZ _
    replace hZZ:=fun s' q=>hZZ s' (hQQ .next s' q)
    obtain ⟨n,W',old,ρ,g,rfl,V⟩:=hI
    have hn:=V.hn
    have hEn:=V.hE
    have hIn:=V.hI
    have hln:=V.hl
    have w1:=V.out.1
    have w2:=V.out.2.1
    have w3:=V.out.2.2
    have hzs:=V.hz
    have hkeep:=V.keep
    have hmore:=V.more
    obtain ⟨tT,hy61_1⟩:=V.hT
    have htT:=hy61_1.1
    have hT:=hy61_1.2
    clear hy61_1
    obtain ⟨m,cm,α,frn⟩:=V.fr
    clear V
    have hTb:∀ b,(b=I∨b=I+1)→¬ W' b∧F.S0.heap.objs.size≤b∧∀ o,s'.heap.get? b=some o→¬ seqish o:=by
      rintro b (rfl | rfl)
      · obtain ⟨o',hy66_1⟩:=hIn
        have ho':=hy66_1.1
        have hc:=hy66_1.2.1
        have hd:=hy66_1.2.2
        clear hy66_1
        exact ⟨w2,hS0,fun o ho=>by rw [ho'] at ho; cases ho; exact seqish.not_fields hd hc (by decide)⟩
      · exact ⟨w1,Nat.le_succ_of_le hS0,fun o ho=>by rw [hEn] at ho; cases ho; exact seqish.not_fields rfl rfl (by decide)⟩
    have hIs:I+1 < s'.heap.objs.size:=Heap.lt_size hEn
    by_cases hlt:n < xs.length
    · obtain ⟨xv',hxv'⟩:∃ v,xs[n]?=some v:=⟨xs[n],by simp [hlt]⟩
      obtain ⟨rv,hy72_1⟩:=hrs.get hxv'
      have hrv:=hy72_1.1
      have hrel:=hy72_1.2
      clear hy72_1
      have hfl:=hflat xv' (List.mem_of_getElem? hxv')
      refine wpAny_pyNext_enum_item hEn hIn hln.isList (by simpa using hrv) (Nat.succ_ne_self I) fun h₁ heo hit₁ ht₁ hz₁ hk₁=>?_
      refine wpAny_letOwnedTupleGo_enum heo fun h₂ he₂ hs₂=>?_
      replace hs₂:Heap.SameBut (I+1) h₁ h₂:=hs₂
      have hz₂:h₂.objs.size=s'.heap.objs.size+1:=hs₂.1.trans hz₁
      have ht₂:h₂.IsTuple s'.heap.objs.size #[.int n s'.toks,rv]:=⟨_,(hs₂.2 _ (Nat.ne_of_gt hIs)).trans ht₁,rfl,_,rfl⟩
      have kp₂:∀ b o,¬ (b=I∨b=I+1)→s'.heap.get? b=some o→h₂.get? b=some o:=fun b o hb e=>hs₂.extBut b o (fun q=>hb (.inr q)) (hk₁ b o (fun q=>hb (.inr q)) (fun q=>hb (.inl q)) e)
      have fr₃:FrP F ρ g W' m cm α { s' with heap:=h₂,toks:=s'.toks+1 }:=frn.touch hTb kp₂ (Nat.le_succ_of_le frn.tk)
      refine wpAny_assign_Tuple F.hh ht₂ rfl rfl fun h₃ hx₃=>?_
      replace hx₃:Heap.ExtBut h₂.objs.size h₂ h₃:=hx₃
      have ke₃:∀ b o,h₂.get? b=some o→h₃.get? b=some o:=fun b o e=>hx₃ b o (Nat.ne_of_lt (Heap.lt_size e)) e
      have fr₄:FrP F ρ g W' m cm α { s' with heap:=h₃,toks:=s'.toks+1 }:=fr₃.keeps ⟨h₃,_,rfl,ke₃⟩ (Nat.le_succ_of_le frn.tk)
      show wpAny F.M F.A (assignInOrder [assign (.Name xi pi) F.env,assign (.Name xv pv) F.env] [.int n s'.toks,rv]) _ _ _
      refine wpAny_assignInOrder_more (wpAny_assign_Name (wpAny_with_toks (n:=s'.toks) (Nat.le_succ _) (wpAny_mono (Fr1.store ⟨m,cm,α,fr₄⟩ hxi (v:=.int n) (.of_flat (.i _ _) rfl)) (fun _ s₅ z t5=>?_) fun _ _ q _=>q)))
      refine wpAny_assignInOrder_more (wpAny_assign_Name (wpAny_with_toks (n:=s'.toks) t5 (wpAny_mono (z.1.store hxv (v:=xv') (.of_flat (hrel.flat hfl) hfl)) (fun _ s₆ z' t6=>?_) fun _ _ q _=>q)))
      refine wpAny_assignInOrder_none (wpAny_grow (E:=EE) (let ⟨_,_,_,y⟩:=z'.1; y.tk) (step n xv' ρ g tT hxv' hT W' s₆ _ z'.1) fun f s₇ _ hz₇ q=>?_)
      have hx89_0:=q.1
      have hw89_1:=q.2
      try clear q
      subst hx89_0
      obtain ⟨ρ',g',W'',hy89_1⟩:=hw89_1
      have hT':=hy89_1.1
      have fr₇:=hy89_1.2.1
      have mv₇:=hy89_1.2.2
      clear hy89_1
      have up:∀ b o,¬ W' b→h₂.get? b=some o→s₇.heap.get? b=some o:=fun b o hb e=>mv₇.kept b o hb (z'.2.kept b o hb (z.2.kept b o hb (ke₃ b o e)))
      have szz:s'.heap.objs.size≤s₇.heap.objs.size:=by
        have:=Heap.lt_size (z'.2.kept _ _ (fun q=>by obtain ⟨o,ho⟩:=frn.live _ q; exact Nat.lt_irrefl _ (Heap.lt_size ho)) (z.2.kept _ _ (fun q=>by obtain ⟨o,ho⟩:=frn.live _ q; exact Nat.lt_irrefl _ (Heap.lt_size ho)) (ke₃ _ _ ((hs₂.2 _ (Nat.ne_of_gt hIs)).trans ht₁))))
        exact Nat.le_trans (Nat.le_of_lt this) hz₇
      have hI₂:h₂.IsListIter I l (n+1):=hit₁.extBut hs₂.extBut (Nat.ne_of_lt (Nat.lt_succ_self _))
      have hl₂:h₂.PlainList l rs.toArray:=hln.at fun o e=>kp₂ l o (fun q=>q.elim (Nat.ne_of_lt hll) (Nat.ne_of_lt (Nat.lt_succ_of_lt hll))) e
      have out:∀ b o,¬ W' b→s₆.heap.get? b=some o→¬ W'' b:=fun b o hb e q=>(mv₇.more b q).elim hb fun z=>Nat.lt_irrefl _ (Nat.lt_of_lt_of_le (Heap.lt_size e) z)
      have to6:∀ b o,¬ W' b→h₂.get? b=some o→s₆.heap.get? b=some o:=fun b o hb e=>z'.2.kept b o hb (z.2.kept b o hb (ke₃ b o e))
      refine hKK (xs.length+1 - (n+1)) _ (by omega) ⟨n+1,W'',rv,ρ',g',rfl,⟨hlt,⟨_,Nat.le_refl _,hT' (Nat.le_trans htT t6)⟩,fr₇,?_,?_,hl₂.at fun o e=>up l o w3 e,⟨out _ _ w1 (to6 _ _ w1 he₂),?_,?_⟩,Nat.le_trans hzs szz,fun b o hb h1 h2 e=>?_,fun b hb=>?_⟩⟩
      · have e1:((n+1:Nat):Int)=(n:Int)+1:=by push_cast; rfl
        rw [e1]; exact up _ _ w1 he₂
      · obtain ⟨o,ho,r⟩:=hI₂; exact ⟨o,up I o w2 ho,r⟩
      · obtain ⟨o,ho,r⟩:=hI₂; exact out _ _ w2 (to6 _ _ w2 ho)
      · obtain ⟨n',ho⟩:=hl₂; exact out _ _ w3 (to6 _ _ w3 ho)
      · have hbW:¬ W' b:=fun q=>(hmore b q).elim hb fun z=>Nat.lt_irrefl _ (Nat.lt_of_lt_of_le (hsz ▸ Heap.lt_size e) z)
        exact up b o hbW (kp₂ b o (fun q=>q.elim h1 h2) (hkeep b o hb h1 h2 e))
      · rcases mv₇.more b hb with q | q
        · exact hmore b q
        · refine .inr ?_
          exact Nat.le_trans (show I+2≤s₆.heap.objs.size from Heap.lt_size (to6 _ _ w1 he₂)) q
    · have hne:n=xs.length:=by omega
      subst hne
      refine wpAny_pyNext_enum_end F.hh hEn hIn hln.isList (by simp [hlen]) fun h₁ he₁=>?_
      refine hZZ _ ⟨rfl,ρ,g,W',⟨tT,htT,hT⟩,⟨m,cm,α,frn.touch (tk:=s'.toks) hTb (fun b o hb e=>he₁ b o (fun q=>hb (.inl q)) e) frn.tk⟩,fun b o hb e=>?_,fun b hb=>(hmore b hb).imp id fun z=>?_⟩
      · have e1:=kGet k₁.1 b o e
        have hb1:=Heap.lt_size e1
        rw [hI0] at hb1
        exact he₁ b o (Nat.ne_of_lt hb1) (hkeep b o hb (Nat.ne_of_lt hb1) (Nat.ne_of_lt (Nat.lt_succ_of_lt hb1)) (hk b o e1))
      · exact Nat.le_trans (hI0 ▸ k₁.2.2) (Nat.le_trans (Nat.le_add_right I 2) z)
  · exact ⟨0,W,.none,ρ₀,g₀,rfl,⟨Nat.zero_le _,⟨0,Nat.zero_le _,hT0 0⟩,fr₂,hE,hI,⟨nn,hk _ _ ho⟩,⟨fun q=>absurd (hWI _ q) (Nat.not_lt.mpr (Nat.le_succ I)),fun q=>Nat.lt_irrefl _ (hWI _ q),hav l rfl⟩,Nat.le_refl _,fun _ _ _ _ _ e=>e,fun _ q=>.inl q⟩⟩
theorem Run1.forE {ρs:Nat→List Slot} {gs:Nat→F.Γ} {i j:Nat} {xi xv:Str} {pi pv tp np cpos pos:Pos} {k:Nat} {e:Expr} {body:List Stmt} {xs:List V} (he:DoesA F (ρs 0) (gs 0) e (.list xs)) (hl:shortL xs.length=true)
    (hflat:∀ v∈xs,v.flat=true) (hxi:F.ks[i]?=some xi) (hxv:F.ks[j]?=some xv) (hge:F.env.kindOf (Str.ofString "enumerate")=some .globalImplicit) (hg:F.gl (Str.ofString "enumerate")=some (.type "enumerate"))
    (step:∀ n v,xs[n]?=some v→Runs F body (((ρs n).set i (.val (.int n))).set j (.val v)) (gs n) (ρs (n+1)) (gs (n+1)))
    (hse:starEach [e] F.env=[(false,eval e F.env)]:=by rfl) (hp:(backTo cpos (starEach [e] F.env)).any (·.1)=false:=by rfl) :
    Run1 F (.For (.Tuple [.Name xi pi,.Name xv pv] k tp) (.Call (.Name (Str.ofString "enumerate") np) [e] [] cpos) body [] pos) (ρs 0) (gs 0) (ρs xs.length) (gs xs.length):=fun W s E fr =>
  wpAny_mono (RunT.forE (T:=fun n ρ g _=>ρ=ρs n∧g=gs n) he hl hflat hxi hxv hge hg (fun _=>⟨rfl,rfl⟩) (fun n v ρ g t₀ hv hT W s E fr=>by
    have hx126_0:=hT.1
    have hx126_1:=hT.2
    try clear hT
    subst hx126_0
    subst hx126_1
    exact wpAny_mono (step n v hv W s E fr) (fun f s' q=>let ⟨e,W',fr',mv⟩:=q; ⟨e,_,_,W',fun _=>⟨rfl,rfl⟩,fr',mv⟩) fun _ _ q=>q) hse hp W s E fr)
    (fun f s' q=>by
      have e:=q.1
      have hw129_1:=q.2
      try clear q
      obtain ⟨ρ',g',W',hy129_1⟩:=hw129_1
      have hx129_0:=hy129_1.1
      have fr':=hy129_1.2.1
      have mv:=hy129_1.2.2
      clear hy129_1
      obtain ⟨t,_,rfl,rfl⟩:=hx129_0
      exact ⟨e,W',fr',mv⟩) fun _ _ q=>q
end
noncomputable def Slot.isOwn:Slot→Bool
  | .own _=>true
  | _=>false
section
variable {F:Fx} {ρ ρ':List Slot} {g g':F.Γ} {W:Addr→Prop} {m cm:Str→Option Value} {α:Nat→Addr} {s:Shared}
noncomputable def Fx.W0 (F:Fx) (b:Addr):Prop:=b=F.env.locals∨∃ n,F.own.lookup n=some b
theorem FrP.notSeq (x:FrP F ρ g W m cm α s):∀ b o,F.W0 b→s.heap.get? b=some o→¬ seqish o:=by
  rintro b o (rfl | ⟨n,hc⟩) e
  · obtain ⟨o',es,ep,hy23_1⟩:=x.ic.toInCall.ns
    have e':=hy23_1.1
    have d:=hy23_1.2.1
    clear hy23_1
    rw [e] at e'; cases e'; exact seqish.not_dict d
  · obtain ⟨o',hy25_1⟩:=x.ic.cell n b hc
    have e':=hy25_1.1
    have d:=hy25_1.2
    clear hy25_1
    rw [e] at e'; cases e'; exact seqish.not_cell d
theorem Run1.whl {ρs:Nat→List Slot} {gs:Nat→F.Γ} {t:Expr} {body:List Stmt} {pos:Pos} (n:Nat) (test:∀ j,j < n→∀ W,Tests (F.cx (ρs j) (gs j) W) t true) (last:∀ W,Tests (F.cx (ρs n) (gs n) W) t false)
    (step:∀ j,j < n→Runs F body (ρs j) (gs j) (ρs (j+1)) (gs (j+1))):Run1 F (.While t body [] pos) (ρs 0) (gs 0) (ρs n) (gs n):=fun W s E fr=>by
  refine wpAny_While (codeAny_whileLoop (fun k s'=>∃ j W',k=n - j∧j≤n∧Fr1 F (ρs j) (gs j) W' s'∧Mv s s' W W') ?_ n ⟨0,W,rfl,Nat.zero_le _,fr,.refl⟩)
  rintro k s' ⟨j,W',rfl,hj,frj,mv⟩
  by_cases hlt:j < n
  · refine wpAny_mono (test j hlt W' s' _ frj) (fun b s₂ q=>?_) fun _ _ q=>q
    have hx64_0:=q.1
    have k₂:=q.2
    try clear q
    subst hx64_0
    simp only [if_true]
    refine wpAny_mono (step j hlt W' s₂ _ (frj.keeps k₂)) (fun f s₃ q=>?_) fun _ _ q=>q
    have hx67_0:=q.1
    have hw67_1:=q.2
    try clear q
    subst hx67_0
    obtain ⟨W'',hy67_1⟩:=hw67_1
    have fr₃:=hy67_1.1
    have mv₃:=hy67_1.2
    clear hy67_1
    exact ⟨n - (j+1),by omega,j+1,W'',rfl,hlt,fr₃,mv.trans ((Mv.of k₂).trans mv₃)⟩
  · have e:j=n:=by omega
    subst e
    refine wpAny_mono (last W' s' _ frj) (fun b s₂ q=>?_) fun _ _ q=>q
    have hx72_0:=q.1
    have k₂:=q.2
    try clear q
    subst hx72_0
    simp only [Bool.false_eq_true,if_false]
    exact wpAny_execs_nil ⟨rfl,W',frj.keeps k₂,mv.trans (Mv.of k₂)⟩
theorem Runs.weaken {ss:List Stmt} {ρ₁ ρ₂:List Slot} (h:Runs F ss ρ₁ g ρ₂ g') (h1:∀ (i:Nat) sl,ρ₁[i]?=some sl→sl=.non∨ρ[i]?=some sl) (h2:∀ (i:Nat) sl,ρ'[i]?=some sl→sl=.non∨ρ₂[i]?=some sl):Runs F ss ρ g ρ' g':=fun W s E ⟨m,cm,α,fr⟩ =>
  wpAny_mono (h W s E ⟨m,cm,α,fr.weaken h1⟩) (fun f s' q=>let ⟨e,W',⟨m',cm',α',fr'⟩,mv⟩:=q; ⟨e,W',⟨m',cm',α',fr'.weaken h2⟩,mv⟩) fun _ _ q=>q
inductive DropL:List Slot→List Slot→Prop
  | nil:DropL [] []
  | same {x l l'}:DropL l l'→DropL (x :: l) (x :: l')
  | non {y l l'}:DropL l l'→DropL (.non :: l) (y :: l')
theorem DropL.ok {l l':List Slot} (d:DropL l l'):∀ (i:Nat) sl,l[i]?=some sl→sl=.non∨l'[i]?=some sl:=by
  induction d with
  | nil=>exact fun i sl h=>nomatch h
  | same _ ih =>
    intro i sl h
    cases i with
    | zero=>exact .inr h
    | succ i=>exact ih i sl h
  | non _ ih =>
    intro i sl h
    cases i with
    | zero=>exact .inl (Option.some.inj h).symm
    | succ i=>exact ih i sl h
theorem Runs.drop {ρ₂:List Slot} (h2:∀ (i:Nat) sl,ρ'[i]?=some sl→sl=.non∨ρ₂[i]?=some sl) {ss:List Stmt} (h:Runs F ss ρ g ρ₂ g'):Runs F ss ρ g ρ' g':=h.weaken (fun _ _ q=>.inr q) h2
theorem Run1.asgC {x:Str} {i:Nat} {px pos cpos:Pos} {elt target iter:Expr} {ifs:List Expr} {scope:Scope} {src:V} {xs:List V} {pz:V→Bool} {fz:V→V} {bs:V→List (Str × V)} (hx:F.ks[i]?=some x)
    (hsw:swapsWith (.ListComp elt [⟨target,iter,ifs,0⟩] scope cpos) (some (.Name x px)) pos.line F.env=pure true)
    (hi:DoesW F ρ g iter src) (hsrc:itemsV src=some xs) (hgo:(∃ nm q,target=.Name nm q)∨src.isList=true)
    (hcell:∀ y∈scope.names,y.2≠.cell) (hnames:∀ y∈scope.names,y.2=.local→scope.names.lookup y.1=some .local)
    (hfree:∀ y∈scope.names,y.2=.free→(F.env.cells.lookup y.1).isSome=true)
    (hb:∀ v∈xs,∀ W,Binds (F.cx ρ g W) scope target v (bs v))
    (htest:∀ v∈xs,∀ W cl C hk,Closes (F.cx ρ g W) scope cl→IfsOk ((F.cx ρ g W).comp scope cl C (bs v) hk) ifs (pz v))
    (helt:∀ v∈xs,pz v=true→∀ W cl C hk,Closes (F.cx ρ g W) scope cl→DoesF ((F.cx ρ g W).comp scope cl C (bs v) hk) elt (fz v)) (hk:scope.kind=.function:=by rfl)
    (hfold:∀ x,foldedSetIterable iter F.env x=pure x:=by intro _; rfl) :
    Run1 F (.Assign [.Name x px] (.ListComp elt [⟨target,iter,ifs,0⟩] scope cpos) pos) ρ g (ρ.set i (.val (.list ((xs.filter pz).map fz)))) g:=.of fun W s E fr=>by
  rw [exec_Assign_Name_used _ _ _ _ hsw]
  refine wpAny_bind (wpAny_standAt (wpAny_bind ?_))
  show wpAny _ _ (do let _ ← comprehension (.ListComp elt [⟨target,iter,ifs,0⟩] scope cpos) scope F.env _ (newList []) false (eval iter F.env) (some (assign (.Name x px) F.env))) _ _ s
  refine wpAny_bind (wpAny_mono (comp_core (c:=F.cx ρ g W) (use:=some (assign (.Name x px) F.env)) (Q:=fun _ s'=>∃ W',Fr1 F (ρ.set i (.val (.list ((xs.filter pz).map fz)))) g W' s'∧(∀ b o,¬ W b→s.heap.get? b=some o→s'.heap.get? b=some o)∧∀ b,W' b→W b∨s.heap.objs.size≤b)
    (hi W) hsrc hgo hcell hk hnames hfree (fun v hv=>hb v hv W) (fun v hv cl C=>htest v hv W cl C hk) (fun v hv hp cl C=>helt v hv hp W cl C hk) fr hfold fun D C s' k hn hDC hD hC he=>?_) (fun _ s' q=>wpAny_pure (wpAny_pure ⟨rfl,q⟩)) fun _ _ q=>q)
  have fr':=fr.keeps k
  have hCW:¬ W C:=fun q=>Nat.lt_irrefl _ (Nat.lt_of_lt_of_le (fr.lt C q) hC)
  show wpAny _ _ (assign (.Name x px) F.env (.ref D)) _ _ _
  refine wpAny_assign_Name (wpAny_mono (fr'.store hx ((he _ fun _ _ _ e=>e).2.vx fr.lt)) (fun _ s'' z=>?_) fun _ _ q=>q)
  obtain ⟨m,hn⟩:=hn
  have hx119_0:=z.1
  have mv:=z.2
  try clear z
  obtain ⟨m',cm',α',fr''⟩:=hx119_0
  have hn'':s''.heap.Ns C m:=let ⟨o,es,ep,e,r⟩:=hn; ⟨o,es,ep,mv.kept C o hCW e,r⟩
  refine ⟨m,hn'',fun h' hs'=>⟨W,⟨m',cm',α',?_⟩,fun b o hb e=>?_,fun b q=>.inl q⟩⟩
  · have hS0:F.S0.heap.objs.size≤s.heap.objs.size:=let ⟨_,_,_,z⟩:=fr; Nat.le_trans z.ic.toInCall.fresh (Nat.le_of_lt z.ic.toInCall.ns.lt)
    refine fr''.touch (T:=fun b=>b=C) (tk:=s''.toks) (fun b q=>?_) (fun b o hb e=>hs'.extBut b o hb e) fr''.tk
    subst q
    refine ⟨hCW,Nat.le_trans hS0 hC,fun o ho=>?_⟩
    obtain ⟨o',es,ep,hy126_1⟩:=hn''
    have e:=hy126_1.1
    have d:=hy126_1.2.1
    clear hy126_1
    rw [ho] at e; cases e; exact seqish.not_dict d
  · exact hs'.extBut b o (Nat.ne_of_lt (Nat.lt_of_lt_of_le (Heap.lt_size e) hC)) (mv.kept b o hb (kGet k.1 b o e))
end
section
set_option tactic.hygienic true
noncomputable def Ext (h h':Heap):Prop:=∀ b o,h.get? b=some o→h'.get? b=some o
structure Wd where
  prog:Program
  w:World
  gl:Str→Option Value
  h0:Heap
  glob:∀ (A:Around) (env:Env) (s:Shared),env.globals=mainGlobals→env.builtins=builtinsNs→Ext h0 s.heap→∀ x v,gl x=some v→∀ (Q:Value→Shared→Prop) (E:Value→Shared→Prop),Q v s→wpAny (model prog w) A (loadGlobal env x) Q E s
  lim:h0.NoLimit
structure AOk (k:Nat) (A:Around):Prop where
  hh:A.handled=none
  hu:A.units+64+8 * k < cLine
  hd:A.depth+k < recursionLimit
theorem AOk.deeper {k:Nat} {A:Around} {env:Env} (h:AOk (k+1) A):AOk k (A.deeper env):=⟨h.hh,by have:=h.hu; rw [Around.deeper_units]; omega,by have:=h.hd; show A.depth+1+k < _; omega⟩
theorem AOk.le {j k:Nat} {A:Around} (h:AOk k A) (hj:j≤k):AOk j A:=⟨h.hh,by have:=h.hu; omega,by have:=h.hd; omega⟩
structure ScOk (sc:Scope) (ks:List Str):Prop where
  nodup:ks.Nodup
  kinds:∀ x∈ks,sc.names.lookup x=some .local∨sc.names.lookup x=some .cell
  hk:sc.kind=.function
structure Site (D:Wd) (k:Nat) where
  A:Around
  μ:Addr
  L:Addr
  a:Addr
  qual:Str
  code:Value
  S0:Shared
  hA:AOk k A
  hS:Ext D.h0 S0.heap
noncomputable def Site.env {D:Wd} {k:Nat} (σ:Site D k) (sc:Scope):Env:=newEnv sc σ.L mainGlobals (cellsFrom (σ.L+1) sc.names []) σ.qual (some σ.a) σ.code none builtinsNs
theorem cells_have:∀ (names:List (Str × NameKind)) (n:Nat) (acc:List (Str × Addr)) (x:Str),names.lookup x=some .cell∨(acc.lookup x).isSome=true→((cellsFrom n names acc).lookup x).isSome=true
  | [],n,acc,x,h=>by
    rcases h with h | h
    · simp at h
    · unfold cellsFrom; exact h
  | (y,k) :: r,n,acc,x,h=>by
    unfold cellsFrom
    have add:∀ a,(acc.lookup x).isSome=true∨(x == y)=true→(((y,a) :: acc).lookup x).isSome=true:=by
      intro a q
      rw [List.lookup_cons]
      cases hxy:(x == y) with
      | true=>rfl
      | false=>exact q.elim id fun q=>absurd (hxy.symm.trans q) (by decide)
    split
    · rename_i hk
      rcases h with h | h
      · rw [List.lookup_cons] at h
        cases hxy:(x == y) with
        | true=>exact cells_have r _ _ x (.inr (add _ (.inr hxy)))
        | false=>rw [hxy] at h; exact cells_have r _ _ x (.inl h)
      · exact cells_have r _ _ x (.inr (add _ (.inl h)))
    · rename_i hk
      rcases h with h | h
      · rw [List.lookup_cons] at h
        cases hxy:(x == y) with
        | true=>rw [hxy] at h; cases h; exact absurd rfl hk
        | false=>rw [hxy] at h; exact cells_have r _ _ x (.inl h)
      · exact cells_have r _ _ x (.inr h)
theorem Site.free {D:Wd} {k:Nat} {σ:Site D k} {sc scope:Scope} (h:∀ y∈scope.names,y.2=.free→sc.names.lookup y.1=some .cell):∀ y∈scope.names,y.2=.free→((σ.env sc).cells.lookup y.1).isSome=true :=
  fun y hy hf=>cells_have _ _ _ _ (.inl (h y hy hf))
noncomputable def Site.fx {D:Wd} {k:Nat} (σ:Site D k) (sc:Scope) (ks:List Str) (h:ScOk sc ks):Fx where
  prog:=D.prog
  w:=D.w
  A:=σ.A
  μ:=σ.μ
  env:=σ.env sc
  gl:=D.gl
  S0:=σ.S0
  ks:=ks
  Γ:=Unit
  G:=fun _ _=>True
  Wg:=fun _=>False
  gS:=fun _ q=>q.elim
  own:=(σ.env sc).cells
  hown:=fun _ _=>rfl
  nodup:=h.nodup
  kinds:=fun x hx=>(h.kinds x hx).imp id fun e=>⟨e,cells_have _ _ _ _ (.inl e)⟩
  Gok:=fun _ _ _ _ _=>trivial
  hh:=σ.hA.hh
  hu:=by have:=σ.hA.hu; omega
  hk:=h.hk
  glob:=fun s hs=>D.glob σ.A (σ.env sc) s rfl rfl fun b o e=>hs b o (σ.hS b o e)
theorem bindL_other {kd:Str→Option NameKind}:∀ (bs:List (Str × Value)) (m:Str→Option Value) (x:Str),x ∉ bs.map Prod.fst→bindL kd bs m x=m x
  | [],m,x,_=>rfl
  | (n,v) :: r,m,x,h=>by
    simp only [List.map_cons,List.mem_cons,not_or] at h
    unfold bindL
    rw [bindL_other r _ x h.2]
    split
    · simp [h.1]
    · rfl
theorem bindL_mem {kd:Str→Option NameKind}:∀ (bs:List (Str × Value)) (m:Str→Option Value) (x:Str) (r:Value),(bs.map Prod.fst).Nodup→(x,r)∈bs→kd x=some .local→bindL kd bs m x=some r
  | [],m,x,r,_,h,_=>(nomatch h)
  | (n,v) :: t,m,x,r,hn,h,hk=>by
    simp only [List.map_cons,List.nodup_cons] at hn
    unfold bindL
    rcases List.mem_cons.mp h with e | h
    · cases e
      rw [bindL_other t _ _ hn.1,if_pos hk]
      simp
    · exact bindL_mem t _ x r hn.2 h hk
theorem bindC_other {kd:Str→Option NameKind}:∀ (bs:List (Str × Value)) (m:Str→Option Value) (x:Str),x ∉ bs.map Prod.fst→bindC kd bs m x=m x
  | [],m,x,_=>rfl
  | (n,v) :: r,m,x,h=>by
    simp only [List.map_cons,List.mem_cons,not_or] at h
    unfold bindC
    rw [bindC_other r _ x h.2]
    split
    · rfl
    · simp [h.1]
theorem bindC_mem {kd:Str→Option NameKind}:∀ (bs:List (Str × Value)) (m:Str→Option Value) (x:Str) (r:Value),(bs.map Prod.fst).Nodup→(x,r)∈bs→kd x≠some .local→bindC kd bs m x=some r
  | [],m,x,r,_,h,_=>(nomatch h)
  | (n,v) :: t,m,x,r,hn,h,hk=>by
    simp only [List.map_cons,List.nodup_cons] at hn
    unfold bindC
    rcases List.mem_cons.mp h with e | h
    · cases e
      rw [bindC_other t _ _ hn.1,if_neg hk]
      simp
    · exact bindC_mem t _ x r hn.2 h hk
theorem enter0 {prog:Program} {w:World} {A:Around} {s:Shared} {R:Result→Shared→Prop} {a:Addr} {o:Obj} {fd:FuncData} {body:List Stmt} {vals:List Value} {binds:List (Str × Value)}
    (hroom:A.depth < recursionLimit) (ho:s.heap.get? a=some o) (hdata:o.data=.func fd) (hlim:s.heap.NoLimit) (hcd:s.heap.CodeRec fd.code fd.qualname)
    (hbody:fd.body=.stmts body) (hbind:bindArgs fd ⟨vals,[]⟩=pure binds) (hclo:fd.closure=[])
    (hkind:∀ x∈binds,fd.scope.names.lookup x.1=some .local∨(fd.scope.names.lookup x.1=some .cell∧((cellsFrom (s.heap.objs.size+1) fd.scope.names []).lookup x.1).isSome=true))
    (h:∀ s₁,s.toks≤s₁.toks→s.heap.objs.size≤s₁.heap.objs.size→InCallC s (callEnvC fd s.heap.objs.size a).locals (bindL (callEnvC fd s.heap.objs.size a).kindOf binds fun _=>none) (callEnvC fd s.heap.objs.size a).cells
        (bindC (callEnvC fd s.heap.objs.size a).kindOf binds fun _=>none) s₁ →
      wpAny (model prog w) (A.deeper (callEnvC fd s.heap.objs.size a)) (execs body (callEnvC fd s.heap.objs.size a)) (fun f s'=>R (.ok (.ret (match f with | .ret v=>v | _=>.none))) s')
        (fun e s'=>wpAny (model prog w) (A.deeper (callEnvC fd s.heap.objs.size a)) (leaving (callEnvC fd s.heap.objs.size a) e) (fun _ s''=>R (.error e) s'') (fun e' s''=>R (.error e') s'') s') s₁)
    (hco:fd.scope.isCoroutine=false) (hgen:fd.scope.isGenerator=false) (hk:fd.scope.kind=.function) :
    codeAny (model prog w) A (.call (.ref a) ⟨vals,[]⟩) R s:=by
  refine codeAny_call_function hroom ho hdata hco hgen hbody hcd ?_
  rw [hbind,hclo]
  refine wpAny_pure (wpAny_grow0 (Q:=fun env s'=>env=callEnvC fd s.heap.objs.size a∧InCallC s (callEnvC fd s.heap.objs.size a).locals (bindL (callEnvC fd s.heap.objs.size a).kindOf binds fun _=>none) (callEnvC fd s.heap.objs.size a).cells
        (bindC (callEnvC fd s.heap.objs.size a).kindOf binds fun _=>none) s') (wpAny_newFunctionEnv_cells hk hkind fun env he s' x=>?_) fun env s' ht' hz q=>?_)
  · subst he
    exact ⟨rfl,x⟩
  · have hx151_0:=q.1
    have x:=q.2
    try clear q
    subst hx151_0
    exact ⟨hlim.keeps x.toInCall.keep,codeAny_func (h s' ht' hz x)⟩
theorem enter {prog:Program} {w:World} {A:Around} {s:Shared} {R:Result→Shared→Prop} {a:Addr} {o:Obj} {fd:FuncData} {body:List Stmt} {vals:List Value} {binds:List (Str × Value)} (ht:1≤s.toks)
    (hroom:A.depth < recursionLimit) (ho:s.heap.get? a=some o) (hdata:o.data=.func fd) (hlim:s.heap.NoLimit) (hcd:s.heap.CodeRec fd.code fd.qualname)
    (hbody:fd.body=.stmts body) (hbind:bindArgs fd ⟨vals,[]⟩=pure binds) (hclo:fd.closure=[])
    (hkind:∀ x∈binds,fd.scope.names.lookup x.1=some .local∨(fd.scope.names.lookup x.1=some .cell∧((cellsFrom (s.heap.objs.size+1) fd.scope.names []).lookup x.1).isSome=true))
    (h:∀ s₁,1≤s₁.toks→s.heap.objs.size≤s₁.heap.objs.size→InCallC s (callEnvC fd s.heap.objs.size a).locals (bindL (callEnvC fd s.heap.objs.size a).kindOf binds fun _=>none) (callEnvC fd s.heap.objs.size a).cells
        (bindC (callEnvC fd s.heap.objs.size a).kindOf binds fun _=>none) s₁ →
      wpAny (model prog w) (A.deeper (callEnvC fd s.heap.objs.size a)) (execs body (callEnvC fd s.heap.objs.size a)) (fun f s'=>R (.ok (.ret (match f with | .ret v=>v | _=>.none))) s')
        (fun e s'=>wpAny (model prog w) (A.deeper (callEnvC fd s.heap.objs.size a)) (leaving (callEnvC fd s.heap.objs.size a) e) (fun _ s''=>R (.error e) s'') (fun e' s''=>R (.error e') s'') s') s₁)
    (hco:fd.scope.isCoroutine=false) (hgen:fd.scope.isGenerator=false) (hk:fd.scope.kind=.function) :
    codeAny (model prog w) A (.call (.ref a) ⟨vals,[]⟩) R s :=
  enter0 hroom ho hdata hlim hcd hbody hbind hclo hkind (fun s₁ t=>h s₁ (Nat.le_trans ht t)) hco hgen hk
noncomputable abbrev up (s:Shared):Shared:={ s with toks:=s.toks+1 }
theorem Fr1.down {F:Fx} {ρ:List Slot} {g:F.Γ} {W:Addr→Prop} {s:Shared} (fr:Fr1 F ρ g W (up s)) (ht:1≤s.toks):Fr1 F ρ g W s :=
  let ⟨m,cm,α,x⟩:=fr; ⟨m,cm,α,x.ic.tok s.toks,ht,x.wL,x.wC,x.live,x.gW,x.gh,x.slot,x.inj⟩
theorem enter_slots {D:Wd} {k:Nat} {σ:Site D k} {sc:Scope} {ks:List Str} {sok:ScOk sc ks} {vs:List V} {rs:List Value} {n:Nat} {s₁:Shared} {F:Fx} (hF:F.env=σ.env sc∧F.ks=ks∧F.μ=σ.μ∧F.S0=σ.S0∧F.own=(σ.env sc).cells) (hS:F.S0.heap.objs.size≤σ.L) (hlen:vs.length≤ks.length) (hrs:VRels σ.μ σ.S0.heap vs rs)
    (ic:InCallC σ.S0 (σ.env sc).locals (bindL (σ.env sc).kindOf ((ks.take vs.length).zip rs) fun _=>none) (σ.env sc).cells (bindC (σ.env sc).kindOf ((ks.take vs.length).zip rs) fun _=>none) s₁) (ht:1≤s₁.toks)
    {W:Addr→Prop} (hW:∀ b,W b→F.W0 b∨F.Wg b) (hW2:∀ b,F.W0 b→W b) (hWg:∀ b,F.Wg b→W b∧¬ F.W0 b∧∃ o,s₁.heap.get? b=some o) (g:F.Γ) (hg:F.G g s₁.heap)
    (hVX:∀ (i:Nat) v r,vs[i]?=some v→rs[i]?=some r→VX W F.μ s₁.heap v r) :
    FrP F (vs.map .val++List.replicate n .non) g W (bindL (σ.env sc).kindOf ((ks.take vs.length).zip rs) fun _=>none) (bindC (σ.env sc).kindOf ((ks.take vs.length).zip rs) fun _=>none) (fun _=>0) s₁:=by
  have e1:=hF.1
  have e2:=hF.2.1
  have e3:=hF.2.2.1
  have e4:=hF.2.2.2.1
  have e5:=hF.2.2.2.2
  try clear hF
  have hrl:=hrs.length
  have hzip:((ks.take vs.length).zip rs).map Prod.fst=ks.take vs.length:=List.map_fst_zip (by rw [List.length_take]; omega)
  have hnd:(((ks.take vs.length).zip rs).map Prod.fst).Nodup:=by rw [hzip]; exact sok.nodup.sublist (List.take_sublist _ _)
  have noOwn:∀ (i:Nat) us,(vs.map Slot.val++List.replicate n Slot.non)[i]?=some (.own us)→False:=by
    intro i us h
    have:=List.mem_of_getElem? h
    simp at this
  have ic:InCallC F.S0 F.env.locals (bindL (σ.env sc).kindOf ((ks.take vs.length).zip rs) fun _=>none) F.own (bindC (σ.env sc).kindOf ((ks.take vs.length).zip rs) fun _=>none) s₁:=by rw [e1,e4,e5]; exact ic
  refine ⟨ic,ht,hW2 _ (.inl rfl),fun n' c hc=>hW2 _ (.inr ⟨n',hc⟩),fun b hb=>?_,fun b hb=>⟨(hWg b hb).1,fun q=>(hWg b hb).2.1 (.inl q),fun n' c hc q=>(hWg b hb).2.1 (.inr ⟨n',q ▸ hc⟩)⟩,hg,fun i x sl hx hsl=>?_,fun i j x y vs' us _ _ hi _ _=>(noOwn i vs' hi).elim⟩
  · rcases hW b hb with (rfl | ⟨n',hc⟩) | q
    · obtain ⟨o,es,ep,e,_⟩:=ic.toInCall.ns; exact ⟨o,e⟩
    · obtain ⟨o,e,_⟩:=ic.cell n' b hc; exact ⟨o,e⟩
    · exact (hWg b q).2.2
  · rw [e2] at hx
    by_cases hi:i < vs.length
    · rw [List.getElem?_append_left (by simpa using hi)] at hsl
      rw [List.getElem?_map] at hsl
      obtain ⟨v,hy193_1⟩:=Option.map_eq_some_iff.mp hsl
      have hv:=hy193_1.1
      have hx193_0:=hy193_1.2
      clear hy193_1
      subst hx193_0
      obtain ⟨r,hy194_1⟩:=hrs.get hv
      have hr:=hy194_1.1
      have hrel:=hy194_1.2
      clear hy194_1
      refine ⟨r,?_,hVX i v r hv hr⟩
      have hm:(x,r)∈(ks.take vs.length).zip rs:=List.mem_of_getElem? (i:=i) (by
        rw [List.getElem?_zip_eq_some]
        exact ⟨by rw [List.getElem?_take_of_lt hi]; exact hx,hr⟩)
      rw [e1]
      rcases sok.kinds x (List.mem_of_getElem? hx) with hl | hl
      · exact .inl ⟨hl,bindL_mem _ _ x r hnd hm hl⟩
      · exact .inr ⟨hl,cells_have _ _ _ _ (.inl hl),bindC_mem _ _ x r hnd hm (fun q=>by have q':sc.names.lookup x=some .local:=q; rw [hl] at q'; cases q')⟩
    · rw [List.getElem?_append_right (by simpa using hi)] at hsl
      have:=List.mem_of_getElem? hsl
      rw [List.mem_replicate] at this
      rw [this.2]
      trivial
theorem Wd.call0 (D:Wd) {k:Nat} {A:Around} (hA:AOk (k+1) A) {a:Addr} {o:Obj} {fd:FuncData} {body:List Stmt} {ks:List Str} {vs:List V} {v:V} {μ:Addr} {n:Nat}
    (ho:D.h0.get? a=some o) (hd:o.data=.func fd) (hcd:D.h0.CodeRec fd.code fd.qualname) (hbody:fd.body=.stmts body) (hgl:fd.globals=mainGlobals) (hbl:fd.builtins=builtinsNs) (hclo:fd.closure=[])
    (sok:ScOk fd.scope ks) (hlen:vs.length≤ks.length) (hbind:∀ rs:List Value,rs.length=vs.length→bindArgs fd ⟨rs,[]⟩=pure ((ks.take vs.length).zip rs))
    {t₀:Nat} (walk:∀ (σ:Site D k) (W:Addr→Prop) (s:Shared) (E:Value→Shared→Prop),t₀≤s.toks→Fr1 (σ.fx fd.scope ks sok) (vs.map .val++List.replicate n .non) () W (up s) →
      wpAny (σ.fx fd.scope ks sok).M (σ.fx fd.scope ks sok).A (execs body (σ.fx fd.scope ks sok).env) (fun f s'=>∃ r,f=.ret r∧RetOk (σ.fx fd.scope ks sok) v (fun _=>True) W s r s') E s)
    (hco:fd.scope.isCoroutine=false) (hgen:fd.scope.isGenerator=false)
    (s:Shared) (E:Value→Shared→Prop) (rs:List Value) (hs:Ext D.h0 s.heap) (ht:t₀≤s.toks) (hrs:VRels μ s.heap vs rs) :
    wpAny (model D.prog D.w) A (PySem.call (.ref a) rs) (fun r s'=>VRel μ s'.heap v r∧K1 s s') E s:=by
  have hrl:=hrs.length
  have hmem:∀ x∈(ks.take vs.length).zip rs,x.1∈ks:=fun x hx=>List.mem_of_mem_take ((List.of_mem_zip hx).1)
  refine wpAny_call (enter0 (by have:=hA.hd; omega) (hs _ _ ho) hd (D.lim.keeps hs) (hcd.keeps hs) hbody (hbind rs hrl) hclo (fun x hx=>(sok.kinds x.1 (hmem x hx)).imp id fun e=>⟨e,cells_have _ _ _ _ (.inl e)⟩) (fun s₁ ht₁ hz₁ ic=>?_) hco hgen sok.hk)
  have henv:callEnvC fd s.heap.objs.size a=(⟨A.deeper (callEnvC fd s.heap.objs.size a),μ,s.heap.objs.size,a,fd.qualname++".<locals>.",fd.code,s,hA.deeper,hs⟩:Site D k).env fd.scope:=by unfold callEnvC Site.env; rw [hgl,hbl]
  generalize hσ:(⟨A.deeper (callEnvC fd s.heap.objs.size a),μ,s.heap.objs.size,a,fd.qualname++".<locals>.",fd.code,s,hA.deeper,hs⟩:Site D k)=σ at henv
  have eA:A.deeper (callEnvC fd s.heap.objs.size a)=σ.A:=by rw [← hσ]
  rw [henv] at ic
  rw [eA,henv]
  have eL:σ.L=s.heap.objs.size:=by rw [← hσ]
  have eμ:σ.μ=μ:=by rw [← hσ]
  have eS:σ.S0=s:=by rw [← hσ]
  have hW:∀ b,(σ.fx fd.scope ks sok).W0 b→s.heap.objs.size≤b:=by
    rintro b (rfl | ⟨n',hc⟩)
    · exact Nat.le_of_eq eL.symm
    · exact Nat.le_trans (Nat.le_of_eq eL.symm) (Nat.le_of_lt (ic.above n' b (mem_of_lookup hc)))
  have hkeep:=ic.toInCall.keep
  have fr:Fr1 (σ.fx fd.scope ks sok) (vs.map .val++List.replicate n .non) () (σ.fx fd.scope ks sok).W0 (up s₁) :=
    ⟨_,_,_,enter_slots (F:=σ.fx fd.scope ks sok) (σ:=σ) (sc:=fd.scope) (ks:=ks) (sok:=sok) (rs:=rs) ⟨rfl,rfl,rfl,rfl,rfl⟩ (by show σ.S0.heap.objs.size≤σ.L; rw [eS,eL]; exact Nat.le_refl _) hlen (by rw [eμ,eS]; exact hrs) (by rw [eS]; exact ic.tok _) (Nat.le_add_left _ _)
      (fun b q=>.inl q) (fun b q=>q) (fun b q=>q.elim) () trivial fun i v r hv hr=>by
        obtain ⟨r',hy236_1⟩:=hrs.get hv
        have hr':=hy236_1.1
        have hrel:=hy236_1.2
        clear hy236_1
        rw [hr] at hr'; cases hr'
        intro h' k'
        show VRel σ.μ h' v r
        rw [eμ]
        exact hrel.seq (fun b o hq e=>k' b o hq (fun q=>Nat.lt_irrefl _ (Nat.lt_of_lt_of_le (Heap.lt_size e) (hW b q))) (hkeep b o e)) v r⟩
  refine wpAny_mono (walk σ _ s₁ _ (Nat.le_trans ht ht₁) fr) (fun f s' q=>?_) fun _ _ q=>q
  obtain ⟨r,hy243_1⟩:=q
  have hx243_0:=hy243_1.1
  have z:=hy243_1.2
  clear hy243_1
  subst hx243_0
  obtain ⟨h₁,tk,e₁⟩:=ic.toInCall.same
  obtain ⟨h',tk',e'⟩:=z.same
  refine ⟨eμ ▸ z.val.rel,⟨h',tk',by rw [e',e₁],fun b o e=>?_⟩,z.tk,Nat.le_trans hz₁ z.size⟩
  have:=z.kept b o (fun q=>Nat.lt_irrefl _ (Nat.lt_of_lt_of_le (Heap.lt_size e) (hW b q))) (hkeep b o e)
  rw [e'] at this; exact this
theorem Wd.call (D:Wd) {k:Nat} {A:Around} (hA:AOk (k+1) A) {a:Addr} {o:Obj} {fd:FuncData} {body:List Stmt} {ks:List Str} {vs:List V} {v:V} {μ:Addr} {n:Nat}
    (ho:D.h0.get? a=some o) (hd:o.data=.func fd) (hcd:D.h0.CodeRec fd.code fd.qualname) (hbody:fd.body=.stmts body) (hgl:fd.globals=mainGlobals) (hbl:fd.builtins=builtinsNs) (hclo:fd.closure=[])
    (sok:ScOk fd.scope ks) (hlen:vs.length≤ks.length) (hbind:∀ rs:List Value,rs.length=vs.length→bindArgs fd ⟨rs,[]⟩=pure ((ks.take vs.length).zip rs))
    (walk:∀ σ:Site D k,Rets (σ.fx fd.scope ks sok) body (vs.map .val++List.replicate n .non) () v (fun _=>True))
    (hco:fd.scope.isCoroutine=false) (hgen:fd.scope.isGenerator=false)
    (s:Shared) (E:Value→Shared→Prop) (rs:List Value) (hs:Ext D.h0 s.heap) (ht:1≤s.toks) (hrs:VRels μ s.heap vs rs) :
    wpAny (model D.prog D.w) A (PySem.call (.ref a) rs) (fun r s'=>VRel μ s'.heap v r∧K1 s s') E s :=
  D.call0 hA ho hd hcd hbody hgl hbl hclo sok hlen hbind (t₀:=1) (fun σ W s E t fr=>walk σ W s E (fr.down t)) hco hgen s E rs hs ht hrs
end
noncomputable def fBody (i:Nat):List Stmt:=match PySem.Challenge.pw_to0060_01.main.body[i]? with
  | some (.FunctionDef _ _ b _ _ _ _ _ _ _)=>b
  | _=>[]
noncomputable def fScope (i:Nat):Scope:=match PySem.Challenge.pw_to0060_01.main.body[i]? with
  | some (.FunctionDef _ _ _ _ _ _ sc _ _ _)=>sc
  | _=>default
noncomputable def fArgs (i:Nat):Arguments:=match PySem.Challenge.pw_to0060_01.main.body[i]? with
  | some (.FunctionDef _ a _ _ _ _ _ _ _ _)=>a
  | _=>default
theorem knd {D:Wd} {k:Nat} {σ:Site D k} {sc:Scope} {x:Str} {kd:NameKind} (h:sc.names.lookup x=some kd):(σ.env sc).kindOf x=some kd:=h
theorem swaps_local {env:Env} {elt:Expr} {gens:List Comprehension} {scope:Scope} {cpos px:Pos} {x:Str} {line:Nat} (hk:env.scope.kind=.function) (hl:env.kindOf x=some .local) (hline:(px.line == cpos.line)=true)
    (hn:(scope.names.any fun y=>y.1 == x && (y.2 == .local || y.2 == .cell))=false):swapsWith (.ListComp elt gens scope cpos) (some (.Name x px)) line env=pure true:=by
  have hb:env.blockKind=.function:=by unfold Env.blockKind; rw [hk]; rfl
  have e:(env.blockKind == .function && env.kindOf x == some .local && px.line == cpos.line && !(scope.names.any fun y=>y.1 == x && (y.2 == .local || y.2 == .cell)))=true:=by rw [hb,hl,hline,hn]; rfl
  exact congrArg (pure (f:=Sem)) e
noncomputable def ks66:List Str:=["script","numbers","place","x"]
theorem ok66:ScOk (fScope 66) ks66:=⟨by decide,by decide,rfl⟩
noncomputable def numStep (ns:List Int) (p:Nat) (x:Int):List Int:=ns.set (p % 5) (ns.getD (p % 5) 0+x.fmod 1000000)
noncomputable def numGo:List Int→List Int→Nat→List Int
  | ns,[],_=>ns
  | ns,x :: r,p=>numGo (numStep ns p x) r (p+1)
noncomputable def num0:List Int:=[10209,9690,19603,2329,15528]
noncomputable def numbersOf (xs:List Int):List Int:=numGo num0 (xs.take 20) 0
theorem numGo_take:∀ (xs:List Int) (ns:List Int) (p n:Nat) (x:Int),xs[n]?=some x→numGo ns (xs.take (n+1)) p=numStep (numGo ns (xs.take n) p) (p+n) x
  | [],ns,p,n,x,h=>by simp at h
  | y :: r,ns,p,0,x,h=>by simp at h; subst h; simp [numGo]
  | y :: r,ns,p,n+1,x,h=>by
    simp only [List.getElem?_cons_succ] at h
    have:=numGo_take r (numStep ns p y) (p+1) n x h
    simp only [List.take_succ_cons,numGo]
    rw [this,Nat.add_assoc,Nat.add_comm 1 n]
theorem numStep_len (ns:List Int) (p:Nat) (x:Int):(numStep ns p x).length=ns.length:=by simp [numStep]
theorem numGo_len:∀ (xs ns:List Int) (p:Nat),(numGo ns xs p).length=ns.length
  | [],_,_=>rfl
  | x :: r,ns,p=>by unfold numGo; rw [numGo_len r]; exact numStep_len ns p x
theorem walk66b {D:Wd} {k:Nat} (σ:Site D k) (hen:D.gl "enumerate"=some (.type "enumerate")) {xs:List Int} (hl:shortL xs.length=true) :
    Rets (σ.fx (fScope 66) ks66 ok66) ((fBody 66).drop 1) [.val (.list (xs.map .int)),.own (num0.map .int),.non,.non] () (.list ((numbersOf xs).map .int)) (fun _=>True):=by
  have hl':xs.length < 4096:=Nat.le_of_ble_eq_true hl
  refine Rets.cons (ρ₁:=[.val (.list (xs.map .int)),.own ((numbersOf xs).map .int),.non,.non]) (g₁:=()) ?_ ?_
  · have e:numGo num0 (xs.take ((xs.map V.int).take 20).length) 0=numbersOf xs:=by
      unfold numbersOf
      congr 1
      rw [List.length_take,List.length_map]
      rcases Nat.le_total 20 xs.length with h | h
      · rw [Nat.min_eq_left h]
      · rw [Nat.min_eq_right h,List.take_of_length_le (Nat.le_refl _),List.take_of_length_le h]
    rw [← e]
    apply Run1.forE (F:=σ.fx (fScope 66) ks66 ok66) (i:=2) (j:=3) (xs:=(xs.map V.int).take 20) (ρs:=fun n=>[.val (.list (xs.map .int)),.own ((numGo num0 (xs.take n) 0).map .int),.non,.non]) (gs:=fun _=>())
    · exact .new (fun W=>DoesF.upto (k:=20) (.nm (Fx.var (i:=0) rfl rfl)) .int (by simpa using hl) (by simp [V.flat])) (by simp)
    · rw [List.length_take]; unfold shortL; rw [Nat.blt_eq]; omega
    · intro v hv
      obtain ⟨x,hy42_1⟩:=List.mem_map.mp (List.mem_of_mem_take hv)
      have hx42_0:=hy42_1.2
      clear hy42_1
      subst hx42_0
      rfl
    · rfl
    · rfl
    · show (fScope 66).names.lookup _=_; decide
    · exact hen
    · intro n v hv
      have hn:n < 20:=by have:=(List.getElem?_eq_some_iff.mp hv).1; rw [List.length_take] at this; omega
      rw [List.getElem?_take_of_lt hn,List.getElem?_map] at hv
      obtain ⟨x,hy51_1⟩:=Option.map_eq_some_iff.mp hv
      have hx:=hy51_1.1
      have hx51_0:=hy51_1.2
      clear hy51_1
      subst hx51_0
      rw [numGo_take xs num0 0 n x hx,Nat.zero_add]
      generalize hg:numGo num0 (xs.take n) 0=ns
      have hlen:ns.length=5:=by rw [← hg,numGo_len]; rfl
      refine Runs.drop (ρ₂:=[.val (.list (xs.map .int)),.own ((numStep ns n x).map .int),.val (.int n),.val (.int x)]) (DropL.ok (by repeat constructor)) (Runs.cons (ρ₁:=[.val (.list (xs.map .int)),.own ((numStep ns n x).map .int),.val (.int n),.val (.int x)]) (g₁:=()) ?_ .nil)
      · have hm:((n:Int).fmod 5).toNat=n % 5:=by rw [Int.fmod_eq_emod_of_nonneg _ (by decide)]; omega
        have e:(numStep ns n x).map V.int=(ns.map V.int).set ((n:Int).fmod 5).toNat (.int (ns.getD (n % 5) 0+x.fmod 1000000)):=by unfold numStep; rw [List.map_set,hm]
        rw [e]
        apply Run1.augIdx (F:=σ.fx (fScope 66) ks66 ok66) (i:=1) (k:=(n:Int).fmod 5) (u:=.int (ns.getD (n % 5) 0)) (v:=.int (x.fmod 1000000)) (w:=.int (ns.getD (n % 5) 0+x.fmod 1000000)) (vs:=ns.map V.int)
        · exact fun W=>.bin (.nm (Fx.var (i:=2) rfl rfl)) .int rfl
        · exact fun W=>.bin (.nm (Fx.var (i:=3) rfl rfl)) (.bin (v:=.int 1000000) .int .int rfl) rfl
        · rfl
        · rfl
        · exact Int.fmod_nonneg_of_pos _ (by decide)
        · rw [hm,List.getElem?_map]
          have:n % 5 < ns.length:=by omega
          simp [List.getD_eq_getElem?_getD,this]
        · rfl
        · simp [hlen,shortL]
  · refine Rets.freeze (i:=1) (x:="numbers") rfl rfl ?_
    exact Rets.ret (fun W=>.nm (Fx.var (i:=1) rfl rfl)) (fun _ q=>q) fun _=>trivial
theorem asgO5 {F:Fx} {ρ:List Slot} {g:F.Γ} {W:Addr→Prop} {s:Shared} {E:Value→Shared→Prop} {x:Str} {i:Nat} {a b c d e:Int} {ka kb kc kd ke:Nat} {px pos p pa pb pc pd pe:Pos} (fr:Fr1 F ρ g W (up s)) (hx:F.ks[i]?=some x)
    (hs:swapsWith (.List [.Constant (.int a) ka pa,.Constant (.int b) kb pb,.Constant (.int c) kc pc,.Constant (.int d) kd pd,.Constant (.int e) ke pe] p) (some (.Name x px)) pos.line F.env=pure false:=by rfl) :
    wpAny F.M F.A (exec (.Assign [.Name x px] (.List [.Constant (.int a) ka pa,.Constant (.int b) kb pb,.Constant (.int c) kc pc,.Constant (.int d) kd pd,.Constant (.int e) ke pe] p) pos) F.env)
      (fun f s'=>f=.next∧∃ W',Fr1 F (ρ.set i (.own [.int a,.int b,.int c,.int d,.int e])) g W' s'∧Mv s s' W W') E s:=by
  refine wpAny_Assign_Name (wpAny_List ?_) hs
  refine wpAny_items_cons (wpAny_Constant_int ?_) rfl
  refine wpAny_items_cons (wpAny_Constant_int ?_) rfl
  refine wpAny_items_cons (wpAny_Constant_int ?_) rfl
  refine wpAny_items_cons (wpAny_Constant_int ?_) rfl
  refine wpAny_items_cons (wpAny_Constant_int ?_) rfl
  refine Calls.spliced_nil ⟨by rw [sizeLine_eq]; show 5≤16777216; decide,?_⟩
  refine wpAny_mono (fr.storeOwn (rs:=[.int a _,.int b _,.int c _,.int d _,.int e _]) (vs:=[.int a,.int b,.int c,.int d,.int e]) ⟨⟨_,_,rfl,fun b o e=>Heap.get?_push_of_some _ e⟩,Nat.le_add_left _ _,by rw [Heap.size_push]; exact Nat.le_succ _⟩ (Nat.le_refl _) hx ⟨_,Heap.get?_push_size _ rfl⟩ fun h'=>.cons (.i _ _) (.cons (.i _ _) (.cons (.i _ _) (.cons (.i _ _) (.cons (.i _ _) .nil))))) (fun _ s₂ z=>let ⟨W',z1,z2⟩:=z; ⟨rfl,W',z1,⟨z2.kept,z2.size,z2.more⟩⟩) fun _ _ q=>q
theorem walk66 {D:Wd} {k:Nat} (σ:Site D k) (hen:D.gl "enumerate"=some (.type "enumerate")) {xs:List Int} (hl:shortL xs.length=true) (W:Addr→Prop) (s:Shared) (E:Value→Shared→Prop) (fr:Fr1 (σ.fx (fScope 66) ks66 ok66) [.val (.list (xs.map .int)),.non,.non,.non] () W (up s)) :
    wpAny (σ.fx (fScope 66) ks66 ok66).M (σ.fx (fScope 66) ks66 ok66).A (execs (fBody 66) (σ.fx (fScope 66) ks66 ok66).env) (fun f s'=>∃ r,f=.ret r∧RetOk (σ.fx (fScope 66) ks66 ok66) (.list ((numbersOf xs).map .int)) (fun _=>True) W s r s') E s:=by
  refine wpAny_execs_cons (wpAny_mono (asgO5 (i:=1) fr rfl) (fun f s₁ q=>?_) fun _ _ q=>q)
  have hx88_0:=q.1
  have hw88_1:=q.2
  try clear q
  subst hx88_0
  obtain ⟨W₁,hy88_1⟩:=hw88_1
  have fr₁:=hy88_1.1
  have mv:=hy88_1.2
  clear hy88_1
  refine wpAny_mono (walk66b σ hen hl W₁ s₁ E fr₁) (fun f s₂ y=>?_) fun _ _ q=>q
  obtain ⟨r,hy90_1⟩:=y
  have e:=hy90_1.1
  have z:=hy90_1.2
  clear hy90_1
  exact ⟨r,e,z.after (let ⟨h,t,e⟩:=fr.same fr₁; ⟨h,t,e⟩) mv⟩
noncomputable def menu:List Str:=["<","<<","<=","<<=","*","**","*=","**=","/","//","/=","//=",">",">>",">=",">>="]
noncomputable def chars (w:Str):List Str:=w.cps.toList.map fun c=>⟨#[c]⟩
noncomputable def escd (w:Str):List Str:=(chars w).map fun c=>"\\"++c
noncomputable def pieceT (k:Nat) (w:Str):Str:=if k % 3=0 then w++" " else if k % 3=1 then "\""++w++"\"" else Txt.join "" (escd w)++"\n"
noncomputable def textGo:Str→List Str→Nat→Str
  | t,[],_=>t
  | t,w :: r,k=>textGo (t++pieceT k w) r (k+1)
theorem textGo_take:∀ (xs:List Str) (t:Str) (p n:Nat) (x:Str),xs[n]?=some x→textGo t (xs.take (n+1)) p=textGo t (xs.take n) p++pieceT (p+n) x
  | [],t,p,n,x,h=>by simp at h
  | y :: r,t,p,0,x,h=>by simp at h; subst h; simp [textGo]
  | y :: r,t,p,n+1,x,h=>by
    simp only [List.getElem?_cons_succ] at h
    have:=textGo_take r (t++pieceT p y) (p+1) n x h
    simp only [List.take_succ_cons,textGo]
    rw [this,Nat.add_assoc,Nat.add_comm 1 n]
theorem menu_facts:∀ w∈menu,w.length≤3∧shortL w.length=true∧JoinOk "" (escd w)=true∧(Txt.join "" (escd w)).length≤6:=by decide +kernel
theorem pieceT_len {w:Str} (hw:w∈menu) (k:Nat):(pieceT k w).length≤7:=by
  have hz21:=menu_facts w hw
  have h1:=hz21.1
  have h2:=hz21.2.2.2
  clear hz21
  have e1:(Str.ofString " ").length=1:=by decide
  have e2:(Str.ofString "\"").length=1:=by decide
  have e3:(Str.ofString "\n").length=1:=by decide
  unfold pieceT
  split
  · rw [Str.length_append,e1]; omega
  · split
    · rw [Str.length_append,Str.length_append,e2]; omega
    · rw [Str.length_append,e3]; omega
theorem textGo_len:∀ (xs:List Str) (t:Str) (p:Nat),(∀ w∈xs,w∈menu)→(textGo t xs p).length≤t.length+7 * xs.length
  | [],_,_,_=>Nat.le_refl _
  | w :: r,t,p,h=>by
    have h1:=textGo_len r (t++pieceT p w) (p+1) fun x hx=>h x (List.mem_cons_of_mem _ hx)
    have h2:=pieceT_len (h w List.mem_cons_self) p
    rw [Str.length_append] at h1
    rw [List.length_cons]
    unfold textGo
    omega
noncomputable def ks68:List Str:=["works","text","k","work"]
theorem ok68:ScOk (fScope 68) ks68:=⟨by decide,by decide,rfl⟩
theorem shortL_of {n:Nat} (h:n < 4096):shortL n=true:=by unfold shortL; rw [Nat.blt_eq]; exact h
theorem binV_str {a b:Str} (h1:a.length < 4096) (h2:b.length < 4096):binV .Add (.str a) (.str b)=some (.str (a++b)):=if_pos (by rw [shortL_of h1,shortL_of h2]; rfl)
theorem iopV_str {a b:Str} (h1:a.length < 4096) (h2:b.length < 4096):iopV .Add (.str a) (.str b)=some (.str (a++b)):=if_pos (by rw [shortL_of h1,shortL_of h2]; rfl)
theorem walk68 {D:Wd} {k:Nat} (σ:Site D k) (hen:D.gl "enumerate"=some (.type "enumerate")) {ws:List Str} (hl:ws.length=5) (hw:∀ w∈ws,w∈menu) :
    Rets (σ.fx (fScope 68) ks68 ok68) (fBody 68) [.val (.list (ws.map .str)),.non,.non,.non] () (.str (textGo "" ws 0)) (fun _=>True):=by
  refine Rets.cons (ρ₁:=[.val (.list (ws.map .str)),.val (.str ""),.non,.non]) (g₁:=()) ?_ ?_
  · exact Run1.asg (i:=1) (fun W=>.str) rfl rfl
  refine Rets.cons (ρ₁:=[.val (.list (ws.map .str)),.val (.str (textGo "" ws 0)),.non,.non]) (g₁:=()) ?_ ?_
  · have e:textGo "" (ws.take (ws.map V.str).length) 0=textGo "" ws 0:=by rw [List.length_map,List.take_length]
    rw [← e]
    apply Run1.forE (F:=σ.fx (fScope 68) ks68 ok68) (i:=2) (j:=3) (xs:=ws.map V.str) (ρs:=fun n=>[.val (.list (ws.map .str)),.val (.str (textGo "" (ws.take n) 0)),.non,.non]) (gs:=fun _=>())
    · exact .var (i:=0) rfl rfl (by simp)
    · exact shortL_of (by rw [List.length_map]; omega)
    · intro v hv; obtain ⟨x,_,rfl⟩:=List.mem_map.mp hv; rfl
    · rfl
    · rfl
    · show (fScope 68).names.lookup _=_; decide
    · exact hen
    · intro n v hv
      rw [List.getElem?_map] at hv
      obtain ⟨x,hy62_1⟩:=Option.map_eq_some_iff.mp hv
      have hx:=hy62_1.1
      have hx62_0:=hy62_1.2
      clear hy62_1
      subst hx62_0
      have hxm:=hw x (List.mem_of_getElem? hx)
      have hz64:=menu_facts x hxm
      have m1:=hz64.1
      have m2:=hz64.2.1
      have m3:=hz64.2.2.1
      have m4:=hz64.2.2.2
      clear hz64
      rw [textGo_take ws "" 0 n x hx,Nat.zero_add]
      have tl:=textGo_len (ws.take n) "" 0 fun w h=>hw w (List.mem_of_mem_take h)
      rw [show (Str.ofString "").length=0 from by decide,List.length_take,Nat.min_def] at tl
      have tl:(textGo "" (ws.take n) 0).length < 4096:=by split at tl <;> omega
      have pl:=pieceT_len hxm n
      generalize textGo "" (ws.take n) 0=t at *
      refine Runs.drop (ρ₂:=[.val (.list (ws.map .str)),.val (.str (t++pieceT n x)),.val (.int n),.val (.str x)]) (DropL.ok (by repeat constructor)) (Runs.cons (ρ₁:=[.val (.list (ws.map .str)),.val (.str (t++pieceT n x)),.val (.int n),.val (.str x)]) (g₁:=()) ?_ .nil)
      · apply Run1.iff (F:=σ.fx (fScope 68) ks68 ok68) (x:=((n:Int).fmod 3 == 0))
        · exact fun W=>.cmp (.bin (.nm (Fx.var (i:=2) rfl rfl)) .int rfl) .int rfl
        · intro hb
          have hn:n % 3=0:=by
            have:=eq_of_beq hb
            rw [Int.fmod_eq_emod_of_nonneg _ (by decide)] at this
            omega
          have e:pieceT n x=x++" ":=by unfold pieceT; rw [if_pos hn]
          rw [e] at pl ⊢
          refine .cons (ρ₁:=[.val (.list (ws.map .str)),.val (.str (t++(x++Str.ofString " "))),.val (.int n),.val (.str x)]) (g₁:=()) ?_ .nil
          apply Run1.aug (F:=σ.fx (fScope 68) ks68 ok68) (i:=1) (u:=.str t) (v:=.str (x++Str.ofString " ")) (w:=.str (t++(x++Str.ofString " ")))
          · exact fun W=>.bin (.nm (Fx.var (i:=3) rfl rfl)) .str (binV_str (by omega) (by decide))
          · rfl
          · rfl
          · exact iopV_str tl (by omega)
        · intro hb
          have hn:¬ n % 3=0:=by
            intro q
            have:(n:Int).fmod 3=0:=by rw [Int.fmod_eq_emod_of_nonneg _ (by decide)]; omega
            rw [this] at hb; exact absurd hb (by decide)
          refine .cons (ρ₁:=[.val (.list (ws.map .str)),.val (.str (t++pieceT n x)),.val (.int n),.val (.str x)]) (g₁:=()) ?_ .nil
          apply Run1.iff (F:=σ.fx (fScope 68) ks68 ok68) (x:=((n:Int).fmod 3 == 1))
          · exact fun W=>.cmp (.bin (.nm (Fx.var (i:=2) rfl rfl)) .int rfl) .int rfl
          · intro hb
            have hn1:n % 3=1:=by
              have:=eq_of_beq hb
              rw [Int.fmod_eq_emod_of_nonneg _ (by decide)] at this
              omega
            have e:pieceT n x=Str.ofString "\""++x++Str.ofString "\"":=by unfold pieceT; rw [if_neg hn,if_pos hn1]
            rw [e] at pl ⊢
            refine .cons (ρ₁:=[.val (.list (ws.map .str)),.val (.str (t++(Str.ofString "\""++x++Str.ofString "\""))),.val (.int n),.val (.str x)]) (g₁:=()) ?_ .nil
            apply Run1.aug (F:=σ.fx (fScope 68) ks68 ok68) (i:=1) (u:=.str t) (v:=.str (Str.ofString "\""++x++Str.ofString "\"")) (w:=.str (t++(Str.ofString "\""++x++Str.ofString "\"")))
            · exact fun W=>.bin (.bin .str (.nm (Fx.var (i:=3) rfl rfl)) (binV_str (by decide) (by omega))) .str (binV_str (by rw [Str.length_append,show (Str.ofString "\"").length=1 from by decide]; omega) (by decide))
            · rfl
            · rfl
            · exact iopV_str tl (by omega)
          · intro hb
            have hn1:¬ n % 3=1:=by
              intro q
              have:(n:Int).fmod 3=1:=by rw [Int.fmod_eq_emod_of_nonneg _ (by decide)]; omega
              rw [this] at hb; exact absurd hb (by decide)
            have e:pieceT n x=Txt.join "" (escd x)++"\n":=by unfold pieceT; rw [if_neg hn,if_neg hn1]
            rw [e] at pl ⊢
            refine .cons (ρ₁:=[.val (.list (ws.map .str)),.val (.str (t++(Txt.join "" (escd x)++Str.ofString "\n"))),.val (.int n),.val (.str x)]) (g₁:=()) ?_ .nil
            apply Run1.aug (F:=σ.fx (fScope 68) ks68 ok68) (i:=1) (u:=.str t) (v:=.str (Txt.join "" (escd x)++Str.ofString "\n")) (w:=.str (t++(Txt.join "" (escd x)++Str.ofString "\n")))
            · intro W
              have j0:(Txt.join "" (escd x)).length < 4096:=by omega
              obtain ⟨tj,htj⟩:∃ t,Txt.join "" (escd x)=t:=⟨_,rfl⟩
              rw [htj] at j0 ⊢
              refine Does.bin (va:=.str tj) (vb:=.str (Str.ofString "\n")) ?_ .str (binV_str j0 (by decide))
              obtain ⟨ys,hys⟩:∃ t,escd x=t:=⟨_,rfl⟩
              have hgj:Gives1 ((σ.fx (fScope 68) ks68 ok68).cx [.val (.list (ws.map .str)),.val (.str t),.val (.int n),.val (.str x)] () W) (.builtin "str.join") [.str "",.list (ys.map .str)] (.str tj):=by
                rw [← htj,hys]; exact .join (hys ▸ m3)
              refine Does.meth (vo:=.str "") (vs:=[.list (ys.map .str)]) .str (.cons ?_ .nil) F.plainAttrs_str F.slot_str_join F.type_str_join strT hgj
              have e2:ys.map V.str=(((x.cps.toList.map fun c=>V.str ⟨#[c]⟩).filter fun _=>true).map fun v=>match v with | .str c=>.str (Str.ofString "\\"++c) | v=>v):=by
                rw [← hys,List.filter_eq_self.mpr fun _ _=>rfl,List.map_map]; unfold escd chars; rw [List.map_map,List.map_map]; rfl
              rw [e2]
              apply DoesF.does
              apply DoesF.comp (src:=.str x) (bs:=fun v=>[("sign",v)]) (xs:=x.cps.toList.map fun c=>V.str ⟨#[c]⟩)
              · exact .nm (Fx.var (i:=3) (v:=.str x) rfl rfl)
              · exact if_pos m2
              · exact .inl ⟨_,_,rfl⟩
              · decide
              · decide
              · exact Site.free (σ:=σ) (sc:=fScope 68) (by decide)
              · intro v hv
                obtain ⟨c,hy138_1⟩:=List.mem_map.mp hv
                have hx138_0:=hy138_1.2
                clear hy138_1
                subst hx138_0
                exact .name (by decide) rfl rfl
              · exact fun v hv cl C _ _=>rfl
              · intro v hv _ cl C _ _
                obtain ⟨c,hy142_1⟩:=List.mem_map.mp hv
                have hx142_0:=hy142_1.2
                clear hy142_1
                subst hx142_0
                exact Does.flat (.bin .str (.nm (Cx.own List.mem_cons_self (by decide))) (binV_str (by decide) (by show 1 < 4096; decide)))
            · rfl
            · rfl
            · exact iopV_str tl (by omega)
  · exact Rets.ret (fun W=>.nm (Fx.var (i:=1) rfl rfl)) (fun _ q=>q) fun _=>trivial
section
variable {c:Cx}
theorem Does.bool {b:Bool} {k:Nat} {pos:Pos}:Does c (.Constant (.bool b) k pos) (.bool b):=.of fun _ _ _=>fun _ _ _=>⟨.b b,kRefl _⟩
theorem DoesF.range1 {x:Str} {np pos:Pos} {e:Expr} {n:Int} (hx:c.env.kindOf x=some .globalImplicit) (hv:c.gl x=some (.type "range")) (he:Does c e (.int n))
    (hse:starEach [e] c.env=[(false,eval e c.env)]:=by rfl) (hp:(backTo pos (starEach [e] c.env)).any (·.1)=false:=by rfl) (hd:(x == ("__debug__":Str))=false:=by decide) :
    DoesF c (.Call (.Name x np) [e] [] pos) (.rng 0 n):=fun s E hs=>by
  refine wpAny_Call_NameR (glob_name hs hx hv ?_ hd)
  refine PySem.callWith_type hp (args_any (wpAny_items_cons (run_on hs (he s _ hs) fun r s₁ y h₁ k₁=>?_) hse) hse)
  unfold VRel at y
  obtain ⟨t,rfl⟩:=y
  refine Calls.spliced_nil (call_range_1 ⟨⟨?_,fun h' k=>?_⟩,?_⟩)
  · unfold VRel; exact ⟨_,_,_,_,rfl,IsRange.new _ _ _ _ _ _ _⟩
  · unfold VRel; exact ⟨_,_,_,_,rfl,k _ _ (.inr (.inl ⟨_,rfl,rfl⟩)) k₁.2.2 (IsRange.new _ _ _ _ _ _ _)⟩
  · exact k₁.trans ⟨⟨_,_,rfl,fun b o e=>Heap.get?_push_of_some _ e⟩,Nat.le_add_left _ _,by rw [Heap.size_push]; exact Nat.le_succ _⟩
theorem DoesF.range2 {x:Str} {np pos:Pos} {e e':Expr} {a b:Int} (hx:c.env.kindOf x=some .globalImplicit) (hv:c.gl x=some (.type "range")) (he:Does c e (.int a)) (he':Does c e' (.int b))
    (hse:starEach [e,e'] c.env=(false,eval e c.env) :: starEach [e'] c.env:=by rfl) (hse':starEach [e'] c.env=[(false,eval e' c.env)]:=by rfl) (hp:(backTo pos (starEach [e,e'] c.env)).any (·.1)=false:=by rfl) (hd:(x == ("__debug__":Str))=false:=by decide) :
    DoesF c (.Call (.Name x np) [e,e'] [] pos) (.rng a b):=fun s E hs=>by
  refine wpAny_Call_NameR (glob_name hs hx hv ?_ hd)
  refine PySem.callWith_type hp (args_any (wpAny_items_cons (run_on hs (he s _ hs) fun r s₁ y h₁ k₁=>wpAny_items_cons (run_on h₁ (he' s₁ _ h₁) fun r' s₂ y' h₂ k₂=>?_) hse') hse) hse)
  unfold VRel at y y'
  obtain ⟨t,rfl⟩:=y
  obtain ⟨u,rfl⟩:=y'
  refine Calls.spliced_nil (call_range_2 ⟨⟨?_,fun h' k=>?_⟩,?_⟩)
  · unfold VRel; exact ⟨_,_,_,_,rfl,IsRange.new _ _ _ _ _ _ _⟩
  · unfold VRel; exact ⟨_,_,_,_,rfl,k _ _ (.inr (.inl ⟨_,rfl,rfl⟩)) (k₁.trans k₂).2.2 (IsRange.new _ _ _ _ _ _ _)⟩
  · exact (k₁.trans k₂).trans ⟨⟨_,_,rfl,fun b o e=>Heap.get?_push_of_some _ e⟩,Nat.le_succ_of_le k₂.2.1,by rw [Heap.size_push]; exact Nat.le_succ _⟩
end
section
set_option tactic.hygienic true
noncomputable def fl (n:Nat):UInt64:=Float64.ofInt n
theorem fl_eqInt:∀ a:Fin 127,(Float64.cmpInt (fl a.val) (a.val:Int) == some Ordering.eq)=true:=by decide +kernel
noncomputable def keyOf (x:UInt64):Option Nat:=match Float64.decode x with
  | .fin false m e=>if -1074≤e then some (m * 2 ^ (e+1074).toNat) else none
  | _=>none
theorem keyOf_fin {x:UInt64} {a:Nat} (h:keyOf x=some a):∃ m e,Float64.decode x=.fin false m e∧-1074≤e∧a=m * 2 ^ (e+1074).toNat:=by
  unfold keyOf at h
  split at h
  · rename_i m e hd
    by_cases he:-1074≤e
    · rw [if_pos he] at h; exact ⟨m,e,hd,he,(Option.some.inj h).symm⟩
    · rw [if_neg he] at h; cases h
  · cases h
theorem keyOf_cmp {x y:UInt64} {c p q:Nat} (hc:0 < c) (hx:keyOf x=some (p * c)) (hy:keyOf y=some (q * c)):Float64.cmp x y=some (compare p q):=by
  obtain ⟨m,e,hm,he,h1⟩:=keyOf_fin hx
  obtain ⟨k,f,hk,hf,h2⟩:=keyOf_fin hy
  unfold Float64.cmp Float64.align
  rw [hm,hk]
  show some (compare ((m * 2 ^ (e - min e f).toNat:Nat):Int) ((k * 2 ^ (f - min e f).toNat:Nat):Int))=_
  have sp:∀ z:Int,min e f≤z→(z+1074).toNat=(z - min e f).toNat+(min e f+1074).toNat:=fun z hz=>by omega
  rw [sp e (by omega),Nat.pow_add,← Nat.mul_assoc] at h1
  rw [sp f (by omega),Nat.pow_add,← Nat.mul_assoc] at h2
  have hd:0 < 2 ^ (min e f+1074).toNat:=Nat.two_pow_pos _
  generalize m * 2 ^ (e - min e f).toNat=P at *
  generalize k * 2 ^ (f - min e f).toNat=Q at *
  generalize 2 ^ (min e f+1074).toNat=d at *
  have key:(P < Q ↔ p < q)∧(P=Q ↔ p=q) :=
    ⟨⟨fun h=>Nat.lt_of_mul_lt_mul_right (a:=c) (by rw [h1,h2]; exact Nat.mul_lt_mul_of_pos_right h hd),fun h=>Nat.lt_of_mul_lt_mul_right (a:=d) (by rw [← h1,← h2]; exact Nat.mul_lt_mul_of_pos_right h hc)⟩,
     ⟨fun h=>Nat.eq_of_mul_eq_mul_right hc (by rw [h1,h2,h]),fun h=>Nat.eq_of_mul_eq_mul_right hd (by rw [← h1,← h2,h])⟩⟩
  show some (compareOfLessAndEq (P:Int) (Q:Int))=some (compareOfLessAndEq p q)
  unfold compareOfLessAndEq
  simp only [Int.ofNat_lt,Int.ofNat_inj,key]
theorem fl_key:∀ a:Fin 127,keyOf (fl a.val)=some (a.val * 2 ^ 1074):=by decide +kernel
theorem fl_cmp (a b:Fin 127):Float64.cmp (fl a.val) (fl b.val)=some (compare a.val b.val):=keyOf_cmp (Nat.two_pow_pos _) (fl_key a) (fl_key b)
end
noncomputable def ks71:List Str:=["plan","best","floors","k","price","group","dearest","within"]
theorem ok71:ScOk (fScope 71) ks71:=⟨by decide,by decide,rfl⟩
noncomputable def maxN:Nat→List Nat→Nat
  | b,[]=>b
  | b,v :: r=>maxN (if v > b then v else b) r
theorem maxN_le {B:Nat}:∀ (r:List Nat) (b:Nat),b < B→(∀ v∈r,v < B)→maxN b r < B
  | [],b,h,_=>h
  | v :: r,b,h,hr=>by
    unfold maxN
    refine maxN_le r _ ?_ fun w hw=>hr w (List.mem_cons_of_mem _ hw)
    split
    · exact hr v List.mem_cons_self
    · exact h
theorem best_flt:∀ (r:List Nat) (b:Nat),b < 127→(∀ v∈r,v < 127)→bestV gtV (.flt (fl b)) (r.map fun v=>.flt (fl v))=some (.flt (fl (maxN b r)))
  | [],b,_,_=>rfl
  | v :: r,b,h,hr=>by
    have hv:=hr v List.mem_cons_self
    have hr':∀ w∈r,w < 127:=fun w hw=>hr w (List.mem_cons_of_mem _ hw)
    have e:gtV (.flt (fl v)) (.flt (fl b))=some (decide (v > b)):=by
      show some (Float64.cmp (fl v) (fl b) == some Ordering.gt)=_
      rw [fl_cmp ⟨v,hv⟩ ⟨b,h⟩]
      congr 1
      by_cases q:v > b
      · simp [q,Nat.compare_eq_gt.mpr q]
      · have:compare v b≠.gt:=fun z=>q (Nat.compare_eq_gt.mp z)
        simp [q,this]
    rw [List.map_cons]
    unfold bestV maxN
    rw [e]
    by_cases q:v > b
    · simp only [q,decide_true,if_true]; exact best_flt r v hv hr'
    · simp only [q,decide_false,if_false]; exact best_flt r b h hr'
theorem best_int:∀ (r:List Nat) (b:Nat),bestV gtV (.int (b:Nat)) (r.map fun (v:Nat)=>.int (v:Nat))=some (.int (maxN b r:Nat))
  | [],b=>rfl
  | v :: r,b=>by
    rw [List.map_cons]
    unfold bestV maxN
    have e:gtV (.int (v:Nat)) (.int (b:Nat))=some (decide (v > b)):=by show some (decide ((v:Int) > (b:Int)))=_; congr 1; simp
    rw [e]
    by_cases q:v > b
    · simp only [q,decide_true,if_true]; exact best_int r v
    · simp only [q,decide_false,if_false]; exact best_int r b
noncomputable def parts (g:Nat):List Nat:=((List.range 31).map (1+·)).filter fun p=>Builtin.bitAnd (p:Int) (g:Int) == (p:Int)
noncomputable def maxL:List Nat→Nat
  | []=>0
  | b :: r=>maxN b r
noncomputable def nV (n:Nat):V:=.int (n:Int)
noncomputable def planV (p:Nat × Nat):V:=.tup [.flt (fl p.1),nV p.2]
theorem walk71 {D:Wd} {k:Nat} (σ:Site D k) (hr:D.gl "range"=some (.type "range")) (hm:D.gl "max"=some (.builtin "max")) {ps:List (Nat × Nat)} {bs fs:List Nat} (hp:ps.length=5) (hb:bs.length=32) (hf:fs.length=32)
    (hok:∀ (k c g:Nat),ps[k]?=some (c,g)→c < 127∧g < 32∧parts g≠[]∧fs[g]?=some c∧bs[g]?=some (maxL ((ps.drop k).map Prod.fst))∧maxL ((parts g).map fun p=>fs.getD p 0)=maxL ((ps.drop k).map Prod.fst)) :
    Rets (σ.fx (fScope 71) ks71 ok71) (fBody 71) [.val (.list (ps.map planV)),.val (.list (bs.map nV)),.val (.list (fs.map nV)),.non,.non,.non,.non,.non] () (.bool true) (fun _=>True):=by
  refine Rets.cons (ρ₁:=[.val (.list (ps.map planV)),.val (.list (bs.map nV)),.val (.list (fs.map nV)),.non,.non,.non,.non,.non]) (g₁:=()) ?_ (Rets.ret (fun W=>.bool) (fun _ q=>q) fun _=>trivial)
  apply Run1.for1 (F:=σ.fx (fScope 71) ks71 ok71) (i:=3) (src:=.rng 0 5) (xs:=(List.range 5).map fun (i:Nat)=>V.int (0+(i:Int))) (ρs:=fun _=>[.val (.list (ps.map planV)),.val (.list (bs.map nV)),.val (.list (fs.map nV)),.non,.non,.non,.non,.non]) (gs:=fun _=>())
  · exact .new (fun W=>.range1 (knd (sc:=fScope 71) (by decide)) hr .int) (by simp)
  · rfl
  · exact .inr ⟨0,List.mem_map.mpr ⟨0,by simp,rfl⟩⟩
  · intro v hv; obtain ⟨n,_,rfl⟩:=List.mem_map.mp hv; rfl
  · rfl
  intro j v hv
  rw [List.getElem?_map] at hv
  obtain ⟨j',hy69_1⟩:=Option.map_eq_some_iff.mp hv
  have hj':=hy69_1.1
  have hx69_0:=hy69_1.2
  clear hy69_1
  subst hx69_0
  have hj5:j < 5:=by have:=(List.getElem?_eq_some_iff.mp hj').1; simpa using this
  have:j'=j:=by simp [hj5] at hj'; exact hj'.symm
  subst this
  rw [Int.zero_add]
  obtain ⟨c,g,hcg⟩:∃ c g,ps[j']?=some (c,g):=⟨_,_,List.getElem?_eq_getElem (by omega)⟩
  have hz75:=hok j' c g hcg
  have h1:=hz75.1
  have h2:=hz75.2.1
  have h3:=hz75.2.2.1
  have h4:=hz75.2.2.2.1
  have h5:=hz75.2.2.2.2.1
  have h6:=hz75.2.2.2.2.2
  clear hz75
  obtain ⟨M,hM⟩:∃ M,maxL ((ps.drop j').map Prod.fst)=M:=⟨_,rfl⟩
  rw [hM] at h5 h6
  refine Runs.drop (ρ₂:=[.val (.list (ps.map planV)),.val (.list (bs.map nV)),.val (.list (fs.map nV)),.val (nV j'),.val (.flt (fl c)),.val (nV g),.val (.flt (fl M)),.val (.list (((parts g).map fun p=>fs.getD p 0).map nV))]) (DropL.ok (by repeat constructor)) ?_
  refine .cons (ρ₁:=[.val (.list (ps.map planV)),.val (.list (bs.map nV)),.val (.list (fs.map nV)),.val (nV j'),.val (.flt (fl c)),.val (nV g),.non,.non]) (g₁:=()) ?_ ?_
  · apply Run1.asg2 (F:=σ.fx (fScope 71) ks71 ok71) (i:=4) (j:=5) (a:=.flt (fl c)) (b:=nV g)
    · exact fun W=>.idx (vs:=ps.map planV) (k:=(j':Int)) (.nm (Fx.var (i:=0) rfl rfl)) (.nm (Fx.var (i:=3) rfl rfl)) (Int.natCast_nonneg _) (by rw [Int.toNat_natCast,List.getElem?_map,hcg]; rfl) (shortL_of (by rw [List.length_map]; omega))
    · rfl
    · rfl
    · rfl
    · rfl
  refine .cons (ρ₁:=[.val (.list (ps.map planV)),.val (.list (bs.map nV)),.val (.list (fs.map nV)),.val (nV j'),.val (.flt (fl c)),.val (nV g),.val (.flt (fl M)),.non]) (g₁:=()) ?_ ?_
  · apply Run1.asg (F:=σ.fx (fScope 71) ks71 ok71) (i:=6)
    · intro W
      have hd:∃ b r,(ps.drop j').map Prod.fst=b :: r:=by
        cases h:(ps.drop j').map Prod.fst with
        | nil=>have:=congrArg List.length h; simp at this; omega
        | cons b r=>exact ⟨b,r,rfl⟩
      obtain ⟨b,r,hbr⟩:=hd
      have hlt:∀ v∈b :: r,v < 127:=by
        rw [← hbr]
        intro v hv
        obtain ⟨p,hy97_1⟩:=List.mem_map.mp hv
        have hp':=hy97_1.1
        have hx97_0:=hy97_1.2
        clear hy97_1
        subst hx97_0
        obtain ⟨q,hq⟩:=List.getElem?_of_mem (List.mem_of_mem_drop hp')
        exact (hok q p.1 p.2 hq).1
      have hMb:M=maxN b r:=by rw [← hM,hbr]; rfl
      have e2:.flt (fl b) :: r.map (fun v=>V.flt (fl v))=((((ps.map planV).drop j').filter fun _=>true).map fun v=>match v with | .tup [a,_]=>a | v=>v):=by
        rw [List.filter_eq_self.mpr fun _ _=>rfl,← List.map_drop,List.map_map,← List.map_cons (f:=fun v=>V.flt (fl v)),← hbr,List.map_map]; rfl
      apply Does.callB (vs:=[.list (.flt (fl b) :: r.map (fun v=>V.flt (fl v)))]) (id:="max")
      · exact knd (sc:=fScope 71) (by decide)
      · exact hm
      · refine .cons ?_ .nil
        rw [e2]
        apply DoesF.does
        apply DoesF.comp (src:=.list ((ps.map planV).drop j')) (bs:=fun v=>match v with | .tup [a,b]=>[("one",a),("_",b)] | _=>[]) (xs:=(ps.map planV).drop j')
        · exact .from (k:=j') (.nm (Fx.var (i:=0) rfl rfl)) (.nm (Fx.var (i:=3) rfl rfl)) (shortL_of (by rw [List.length_map]; omega))
        · exact if_pos (shortL_of (by rw [List.length_drop,List.length_map]; omega))
        · exact .inr rfl
        · decide
        · decide
        · exact Site.free (σ:=σ) (sc:=fScope 71) (by decide)
        · intro v hv
          obtain ⟨p,hy117_1⟩:=List.mem_map.mp (List.mem_of_mem_drop hv)
          have hx117_0:=hy117_1.2
          clear hy117_1
          subst hx117_0
          exact .pair (by decide) (by decide) rfl rfl rfl (by decide)
        · exact fun v hv cl C _ _=>rfl
        · intro v hv _ cl C _ _
          obtain ⟨p,hy121_1⟩:=List.mem_map.mp (List.mem_of_mem_drop hv)
          have hx121_0:=hy121_1.2
          clear hy121_1
          subst hx121_0
          exact Does.flat (.nm (Cx.own List.mem_cons_self (by decide)))
      · rw [hMb]
        refine .max1 (x₀:=.flt (fl b)) (r₀:=r.map fun v=>.flt (fl v)) (if_pos (shortL_of ?_)) (best_flt r b (hlt b List.mem_cons_self) fun v hv=>hlt v (List.mem_cons_of_mem _ hv))
        have:=congrArg List.length hbr
        simp at this ⊢
        omega
    · rfl
    · rfl
  refine .cons (ρ₁:=[.val (.list (ps.map planV)),.val (.list (bs.map nV)),.val (.list (fs.map nV)),.val (nV j'),.val (.flt (fl c)),.val (nV g),.val (.flt (fl M)),.val (.list (((parts g).map fun p=>fs.getD p 0).map nV))]) (g₁:=()) ?_ ?_
  · have e2:((parts g).map fun p=>fs.getD p 0).map nV=((((List.range (32 - 1:Int).toNat).map fun (i:Nat)=>V.int (1+(i:Int))).filter fun v=>match v with | .int p=>Builtin.bitAnd p (g:Int) == p | _=>false).map fun v=>match v with | .int p=>nV (fs.getD p.toNat 0) | v=>v):=by
      unfold parts
      have ec:∀ i:Nat,((1+i:Nat):Int)=1+(i:Int):=fun i=>by push_cast; rfl
      rw [List.filter_map,List.filter_map,List.map_map,List.map_map,List.map_map]
      have e3:(List.range 31).filter ((fun p:Nat=>Builtin.bitAnd (p:Int) (g:Int) == (p:Int)) ∘ fun x=>1+x)=(List.range (32 - 1:Int).toNat).filter ((fun v=>match v with | V.int p=>Builtin.bitAnd p (g:Int) == p | _=>false) ∘ fun (i:Nat)=>V.int (1+(i:Int))):=by
        show List.filter _ (List.range 31)=List.filter _ (List.range 31)
        refine congrArg (fun q=>List.filter q (List.range 31)) (funext fun i=>?_)
        show (Builtin.bitAnd ((1+i:Nat):Int) (g:Int) == ((1+i:Nat):Int))=(Builtin.bitAnd (1+(i:Int)) (g:Int) == 1+(i:Int))
        rw [ec]
      rw [e3]
      refine congrArg (fun q=>List.map q _) (funext fun i=>?_)
      show nV (fs.getD (1+i) 0)=nV (fs.getD (1+(i:Int)).toNat 0)
      rw [← ec,Int.toNat_natCast]
    rw [e2]
    apply Run1.asgC (F:=σ.fx (fScope 71) ks71 ok71) (i:=7) (src:=.rng 1 32) (xs:=(List.range (32 - 1:Int).toNat).map fun (i:Nat)=>V.int (1+(i:Int))) (bs:=fun v=>[("part",v)])
    · rfl
    · exact swaps_local rfl (knd (sc:=fScope 71) (by decide)) rfl (by decide)
    · exact fun W=>(DoesF.range2 (knd (sc:=fScope 71) (by decide)) hr .int .int).does
    · rfl
    · exact .inl ⟨_,_,rfl⟩
    · decide
    · decide
    · exact Site.free (σ:=σ) (sc:=fScope 71) (by decide)
    · intro v hv W
      obtain ⟨i,hy155_1⟩:=List.mem_map.mp hv
      have hx155_0:=hy155_1.2
      clear hy155_1
      subst hx155_0
      exact .name (by decide) rfl rfl
    · intro v hv W cl C hk hcl
      obtain ⟨i,hy158_1⟩:=List.mem_map.mp hv
      have hx158_0:=hy158_1.2
      clear hy158_1
      subst hx158_0
      have kg:(σ.env (fScope 71)).kindOf (Str.ofString "group")≠some .local:=by show (fScope 71).names.lookup _≠_; decide
      exact Tests.cmp (.bin (.nm (Cx.own List.mem_cons_self (by decide))) (.nm (Cx.out (Fx.var (i:=5) rfl rfl) hcl (by decide) kg)) rfl) (.nm (Cx.own List.mem_cons_self (by decide))) rfl
    · intro v hv hp W cl C hk hcl
      obtain ⟨i,hy162_1⟩:=List.mem_map.mp hv
      have hi:=hy162_1.1
      have hx162_0:=hy162_1.2
      clear hy162_1
      subst hx162_0
      have kf:(σ.env (fScope 71)).kindOf (Str.ofString "floors")≠some .local:=by show (fScope 71).names.lookup _≠_; decide
      have hi':i < 31:=by simpa using hi
      refine Does.flat (.idx (vs:=fs.map nV) (k:=1+(i:Int)) (.nm (Cx.out (Fx.var (i:=2) rfl rfl) hcl (by decide) kf)) (.nm (Cx.own List.mem_cons_self (by decide))) (by omega) ?_ (shortL_of (by rw [List.length_map]; omega)))
      have:(1+(i:Int)).toNat < fs.length:=by omega
      rw [List.getElem?_map,List.getElem?_eq_getElem this]
      simp [List.getD_eq_getElem?_getD,this]
  refine .cons (ρ₁:=[.val (.list (ps.map planV)),.val (.list (bs.map nV)),.val (.list (fs.map nV)),.val (nV j'),.val (.flt (fl c)),.val (nV g),.val (.flt (fl M)),.val (.list (((parts g).map fun p=>fs.getD p 0).map nV))]) (g₁:=()) ?_ .nil
  have hM127:M < 127:=by
    have hlt:∀ v∈(ps.drop j').map Prod.fst,v < 127:=by
      intro v hv
      obtain ⟨p,hy173_1⟩:=List.mem_map.mp hv
      have hp':=hy173_1.1
      have hx173_0:=hy173_1.2
      clear hy173_1
      subst hx173_0
      obtain ⟨q,hq⟩:=List.getElem?_of_mem (List.mem_of_mem_drop hp')
      exact (hok q p.1 p.2 hq).1
    rw [← hM]
    cases h:(ps.drop j').map Prod.fst with
    | nil=>decide
    | cons b r=>rw [h] at hlt; exact maxN_le r b (hlt b List.mem_cons_self) fun v hv=>hlt v (List.mem_cons_of_mem _ hv)
  have eqI:∀ a,a < 127→cmpV .NotEq (.flt (fl a)) (nV a)=some false:=fun a ha=>by
    show (some (Float64.cmpInt (fl a) (a:Int) == some Ordering.eq)).map (!·)=_
    rw [fl_eqInt ⟨a,ha⟩]; rfl
  apply Run1.skip (F:=σ.fx (fScope 71) ks71 ok71)
  intro W
  refine Tests.or3 (x:=false) (y:=false) (z:=false) ?_ (fun _=>?_) fun _ _=>?_
  · refine .cmp (.nm (Fx.var (i:=4) rfl rfl)) (.idx (vs:=fs.map nV) (k:=(g:Int)) (v:=nV c) (.nm (Fx.var (i:=2) rfl rfl)) (.nm (Fx.var (i:=5) rfl rfl)) (Int.natCast_nonneg _) ?_ (shortL_of (by rw [List.length_map]; omega))) (eqI c h1)
    rw [Int.toNat_natCast,List.getElem?_map,h4]; rfl
  · refine .cmp (.nm (Fx.var (i:=6) rfl rfl)) (.idx (vs:=bs.map nV) (k:=(g:Int)) (v:=nV M) (.nm (Fx.var (i:=1) rfl rfl)) (.nm (Fx.var (i:=5) rfl rfl)) (Int.natCast_nonneg _) ?_ (shortL_of (by rw [List.length_map]; omega))) (eqI M hM127)
    rw [Int.toNat_natCast,List.getElem?_map,h5]; rfl
  · obtain ⟨x,y,hxy⟩:∃ x y,(parts g).map (fun p=>fs.getD p 0)=x :: y:=by
      cases h:(parts g).map (fun p=>fs.getD p 0) with
      | nil=>exact absurd (List.map_eq_nil_iff.mp h) h3
      | cons b r=>exact ⟨b,r,rfl⟩
    have hMx:M=maxN x y:=by rw [← h6,hxy]; rfl
    refine .cmp (vb:=nV M) (.nm (Fx.var (i:=6) rfl rfl)) ?_ (eqI M hM127)
    apply Does.callB (vs:=[.list (((parts g).map fun p=>fs.getD p 0).map nV)]) (id:="max")
    · exact knd (sc:=fScope 71) (by decide)
    · exact hm
    · exact .cons (.nm (Fx.var (i:=7) rfl rfl)) .nil
    · rw [hMx,hxy]
      refine .max1 (x₀:=nV x) (r₀:=y.map nV) (if_pos (shortL_of ?_)) (best_int y x)
      have h7:(parts g).length≤31:=Nat.le_trans (List.length_filter_le _ _) (by simp)
      have:=congrArg List.length hxy
      simp at this ⊢
      omega
noncomputable def ks70:List Str:=["works","hours","caps","later","work","best","floors","group","k","inside","hour","prices","levels"]
theorem ok70:ScOk (fScope 70) ks70:=⟨by decide,by decide,rfl⟩
noncomputable def minN:Nat→List Nat→Nat
  | b,[]=>b
  | b,v :: r=>minN (if v < b then v else b) r
noncomputable def minL:List Nat→Nat
  | []=>0
  | b :: r=>minN b r
noncomputable def ltP (a b:Nat × Nat):Bool:=if a.1=b.1 then decide (a.2 < b.2) else decide (a.1 < b.1)
noncomputable def minP:Nat × Nat→List (Nat × Nat)→Nat × Nat
  | b,[]=>b
  | b,v :: r=>minP (if ltP v b then v else b) r
noncomputable def minPL:List (Nat × Nat)→Nat × Nat
  | []=>(0,0)
  | b :: r=>minP b r
noncomputable def pairV (p:Nat × Nat):V:=.tup [nV p.1,nV p.2]
theorem best_min:∀ (r:List Nat) (b:Nat),bestV ltV (nV b) (r.map nV)=some (nV (minN b r))
  | [],b=>rfl
  | v :: r,b=>by
    rw [List.map_cons]
    unfold bestV minN
    have e:ltV (nV v) (nV b)=some (decide (v < b)):=by show some (decide ((v:Int) < (b:Int)))=_; congr 1; simp
    rw [e]
    by_cases q:v < b
    · simp only [q,decide_true,if_true]; exact best_min r v
    · simp only [q,decide_false,if_false]; exact best_min r b
theorem best_pair:∀ (r:List (Nat × Nat)) (b:Nat × Nat),bestV ltV (pairV b) (r.map pairV)=some (pairV (minP b r))
  | [],b=>rfl
  | v :: r,b=>by
    rw [List.map_cons]
    unfold bestV minP
    have e:ltV (pairV v) (pairV b)=some (ltP v b):=by
      show some (if (v.1:Int)=(b.1:Int) then decide ((v.2:Int) < (b.2:Int)) else decide ((v.1:Int) < (b.1:Int)))=_
      unfold ltP
      congr 1
      by_cases q:v.1=b.1
      · rw [if_pos q,if_pos (by rw [q])]; simp
      · rw [if_neg q,if_neg (by omega)]; simp
    rw [e]
    cases q:ltP v b with
    | true=>simp only [if_true]; exact best_pair r v
    | false=>simp only [Bool.false_eq_true,if_false]; exact best_pair r b
section
variable (ws:List Str) (hs:List Nat) (cp:List (Nat × Nat))
noncomputable def laterOf (w:Str):Nat:=(((List.range 5).filter fun j=>(ws.getD j "" != w) && Txt.startswith (ws.getD j "") w).map (2 ^ ·)).sum
noncomputable def laterL:List Nat:=ws.map (laterOf ws)
noncomputable def insideL (g:Nat):List Nat:=(List.range 5).filter fun k=>((g:Int).fdiv (2 ^ k)).fmod 2 == 1
noncomputable def hourOf (g:Nat):Nat:=((insideL g).map fun k=>hs.getD k 0).sum
noncomputable def costOf (k h:Nat):Nat:=maxN (cp.getD k (0,0)).1 [(cp.getD k (0,0)).2,h]+minN (cp.getD k (0,0)).1 [(cp.getD k (0,0)).2,h]
noncomputable def mayL (g:Nat):List Nat:=(insideL g).filter fun k=>Builtin.bitAnd ((laterL ws).getD k 0:Nat) (g:Int) == 0
noncomputable def pricesL (g:Nat):List (Nat × Nat):=(mayL ws g).map fun k=>(costOf cp k (hourOf hs g),k)
noncomputable def bestNext (bt:List Nat) (g:Nat):Nat:=minL ((pricesL ws hs cp g).map fun p=>maxN p.1 [bt.getD (g - 2 ^ p.2) 0])
noncomputable def bestT:Nat→List Nat
  | 0=>[0]
  | j+1=>bestT j++[bestNext ws hs cp (bestT j) (j+1)]
noncomputable def floorsT:Nat→List Nat
  | 0=>[0]
  | j+1=>floorsT j++[(minPL (pricesL ws hs cp (j+1))).1]
end
theorem inside_le:∀ G < 32,∀ k∈insideL G,2 ^ k≤G:=by decide +kernel
theorem bestT_len (ws:List Str) (hs:List Nat) (cp:List (Nat × Nat)):∀ j,(bestT ws hs cp j).length=j+1
  | 0=>rfl
  | j+1=>by unfold bestT; rw [List.length_append,bestT_len ws hs cp j]; rfl
theorem floorsT_len (ws:List Str) (hs:List Nat) (cp:List (Nat × Nat)):∀ j,(floorsT ws hs cp j).length=j+1
  | 0=>rfl
  | j+1=>by unfold floorsT; rw [List.length_append,floorsT_len ws hs cp j]; rfl
noncomputable def capV (p:Nat × Nat):V:=.tup [nV p.1,nV p.2]
theorem sum_cast:∀ l:List Nat,(l.map fun n:Nat=>(n:Int)).sum=(l.sum:Nat)
  | []=>rfl
  | a :: r=>by simp only [List.map_cons,List.sum_cons,sum_cast r]; push_cast; rfl
theorem Gives1.sumN {c:Cx} {l:List Nat} (hl:l.length < 4096) (ht:∀ n∈l,n < 2 ^ 31):Gives1 c (.builtin "sum") [.list (l.map nV)] (nV l.sum):=by
  have:=Gives1.sum (c:=c) (is:=l.map fun n:Nat=>(n:Int)) (shortL_of (by simpa using hl)) (fun i hi=>by
    obtain ⟨n,hy78_1⟩:=List.mem_map.mp hi
    have hn:=hy78_1.1
    have hx78_0:=hy78_1.2
    clear hy78_1
    subst hx78_0
    have:=ht n hn
    unfold tiny
    rw [Nat.blt_eq]
    omega)
  rw [List.map_map,sum_cast] at this
  exact this
theorem range_comp {n:Nat} {pz:V→Bool} {fz:V→V} {p:Nat→Bool} {f:Nat→V} (hp:∀ i:Nat,pz (.int (0+(i:Int)))=p i) (hf:∀ i:Nat,fz (.int (0+(i:Int)))=f i) :
    (((List.range n).map fun (i:Nat)=>V.int (0+(i:Int))).filter pz).map fz=((List.range n).filter p).map f:=by
  rw [List.filter_map,List.map_map]
  have e1:(pz ∘ fun (i:Nat)=>V.int (0+(i:Int)))=p:=funext hp
  have e2:(fz ∘ fun (i:Nat)=>V.int (0+(i:Int)))=f:=funext hf
  rw [e1,e2]
theorem zero_add_toNat (i:Nat):(0+(i:Int)).toNat=i:=by omega
theorem pow2 (j:Int) (h0:0≤j) (h:j < 64):binV .Pow (.int 2) (.int j)=some (.int (2 ^ j.toNat)):=if_pos ⟨h0,h,rfl⟩
noncomputable abbrev ini70 (ws:List Str) (hs:List Nat) (cp:List (Nat × Nat)) (l b f:Slot):List Slot:=[.val (.list (ws.map .str)),.val (.list (hs.map nV)),.val (.list (cp.map capV)),l,.non,b,f,.non,.non,.non,.non,.non,.non]
theorem nV_get {l:List Nat} {i:Nat} (h:i < l.length):(l.map nV)[(i:Int).toNat]?=some (nV (l.getD i 0)):=by
  rw [Int.toNat_natCast,List.getElem?_map,List.getElem?_eq_getElem h,List.getD_eq_getElem?_getD,List.getElem?_eq_getElem h]; rfl
noncomputable abbrev st70 (ws:List Str) (hs:List Nat) (cp:List (Nat × Nat)) (lt:List Nat) (b f gr k ins ho pr le:Slot):List Slot:=[.val (.list (ws.map .str)),.val (.list (hs.map nV)),.val (.list (cp.map capV)),.val (.list (lt.map nV)),.non,b,f,gr,k,ins,ho,pr,le]
theorem neqStr {a b:Str}:cmpV .NotEq (.str a) (.str b)=some (a != b):=rfl
theorem walk70 {D:Wd} {k:Nat} (σ:Site D k) (hr:D.gl "range"=some (.type "range")) (hsu:D.gl "sum"=some (.builtin "sum")) (hma:D.gl "max"=some (.builtin "max")) (hmi:D.gl "min"=some (.builtin "min")) {ws:List Str} {hs:List Nat} {cp:List (Nat × Nat)}
    (hw:ws.length=5) (hh:hs.length=5) (hc:cp.length=5) (hok:∀ w∈ws,w∈menu) (h8:∀ h∈hs,h≤8) (hne:∀ g,1≤g→g < 32→mayL ws g≠[]) :
    Rets (σ.fx (fScope 70) ks70 ok70) (fBody 70) (ini70 ws hs cp .non .non .non) () (.tup [.list ((bestT ws hs cp 31).map nV),.list ((floorsT ws hs cp 31).map nV)]) (fun _=>True):=by
  refine Rets.cons (ρ₁:=ini70 ws hs cp (.own []) .non .non) (g₁:=()) ?_ ?_
  · apply Run1.asgO (F:=σ.fx (fScope 70) ks70 ok70) (i:=3) (vs:=[])
    · exact fun W=>.nil
    · rfl
    · rfl
    · rfl
  refine Rets.cons (ρ₁:=ini70 ws hs cp (.own ((laterL ws).map nV)) .non .non) (g₁:=()) ?_ ?_
  · have e:(((ws.take (ws.map V.str).length).map (laterOf ws)).map nV)=(laterL ws).map nV:=by rw [List.length_map,List.take_length]; rfl
    rw [← e]
    apply Run1.for1 (F:=σ.fx (fScope 70) ks70 ok70) (i:=4) (src:=.list (ws.map .str)) (xs:=ws.map V.str) (ρs:=fun n=>ini70 ws hs cp (.own (((ws.take n).map (laterOf ws)).map nV)) .non .non) (gs:=fun _=>())
    · exact .var (i:=0) rfl rfl (by simp)
    · exact if_pos (shortL_of (by rw [List.length_map]; omega))
    · exact .inl rfl
    · intro v hv; obtain ⟨n,_,rfl⟩:=List.mem_map.mp hv; rfl
    · rfl
    intro n v hv
    rw [List.getElem?_map] at hv
    obtain ⟨x,hy119_1⟩:=Option.map_eq_some_iff.mp hv
    have hx:=hy119_1.1
    have hx119_0:=hy119_1.2
    clear hy119_1
    subst hx119_0
    have hxm:=hok x (List.mem_of_getElem? hx)
    rw [List.take_add_one,hx,List.map_append,List.map_append]
    generalize hys:((ws.take n).map (laterOf ws)).map nV=ys
    have hyl:ys.length < 4096:=by rw [← hys]; simp; omega
    refine Runs.drop (ρ₂:=(ini70 ws hs cp (.own (ys++[nV (laterOf ws x)])) .non .non).set 4 (.val (.str x))) (DropL.ok (by repeat constructor)) ?_
    refine .cons (ρ₁:=(ini70 ws hs cp (.own (ys++[nV (laterOf ws x)])) .non .non).set 4 (.val (.str x))) (g₁:=()) ?_ .nil
    apply Run1.append (F:=σ.fx (fScope 70) ks70 ok70) (i:=3) (v:=nV (laterOf ws x))
    · intro W
      refine Does.flat (hf:=rfl) ?_
      apply Does.callB (vs:=[.list ((((List.range 5).filter fun j=>(ws.getD j "" != x) && Txt.startswith (ws.getD j "") x).map (2 ^ ·)).map nV)]) (id:="sum")
      · exact knd (sc:=fScope 70) (by decide)
      · exact hsu
      · refine .cons ?_ .nil
        have e3:((((List.range 5).filter fun j=>(ws.getD j "" != x) && Txt.startswith (ws.getD j "") x).map (2 ^ ·)).map nV)=(((List.range 5).map fun (i:Nat)=>V.int (0+(i:Int))).filter fun v=>match v with | .int j=>(ws.getD j.toNat "" != x) && Txt.startswith (ws.getD j.toNat "") x | _=>false).map fun v=>match v with | .int j=>.int (2 ^ j.toNat) | v=>v:=by
          rw [List.map_map]
          refine (range_comp (fun i=>?_) fun i=>?_).symm
          · simp only [zero_add_toNat]
          · simp only [zero_add_toNat]
            show V.int _=V.int _
            push_cast; rfl
        rw [e3]
        apply DoesF.does
        apply DoesF.comp (src:=.rng 0 5) (bs:=fun v=>[("j",v)]) (xs:=(List.range 5).map fun (i:Nat)=>V.int (0+(i:Int)))
        · exact (DoesF.range1 (knd (sc:=fScope 70) (by decide)) hr .int).does
        · rfl
        · exact .inl ⟨_,_,rfl⟩
        · decide
        · decide
        · exact Site.free (σ:=σ) (sc:=fScope 70) (by decide)
        · intro v hv
          obtain ⟨i,hy150_1⟩:=List.mem_map.mp hv
          have hx150_0:=hy150_1.2
          clear hy150_1
          subst hx150_0
          exact .name (by decide) rfl rfl
        · intro v hv cl C hk hcl
          obtain ⟨i,hy153_1⟩:=List.mem_map.mp hv
          have hi:=hy153_1.1
          have hx153_0:=hy153_1.2
          clear hy153_1
          subst hx153_0
          have hi':i < 5:=by simpa using hi
          have kw:(σ.env (fScope 70)).kindOf (Str.ofString "works")≠some .local:=by show (fScope 70).names.lookup _≠_; decide
          have kk:(σ.env (fScope 70)).kindOf (Str.ofString "work")≠some .local:=by show (fScope 70).names.lookup _≠_; decide
          have wj:∀ p1 p2 p3:Pos,Does ((σ.fx (fScope 70) ks70 ok70).cx ((ini70 ws hs cp (.own ys) .non .non).set 4 (.val (.str x))) () W |>.comp _ cl C [("j",V.int (0+(i:Int)))] hk) (.Subscript (.Name "works" p1) (.Name "j" p2) p3) (.str (ws.getD (0+(i:Int)).toNat "")):=fun p1 p2 p3 =>
            .idx (vs:=ws.map .str) (k:=0+(i:Int)) (.nm (Cx.out (Fx.var (i:=0) rfl rfl) hcl (by decide) kw)) (.nm (Cx.own List.mem_cons_self (by decide))) (by omega) (by
              rw [zero_add_toNat,List.getElem?_map]
              have:i < ws.length:=by omega
              simp [List.getD_eq_getElem?_getD,this]) (shortL_of (by rw [List.length_map]; omega))
          have ww:∀ p1:Pos,Does ((σ.fx (fScope 70) ks70 ok70).cx ((ini70 ws hs cp (.own ys) .non .non).set 4 (.val (.str x))) () W |>.comp _ cl C [("j",V.int (0+(i:Int)))] hk) (.Name "work" p1) (.str x):=fun p1=>.nm (Cx.out (Fx.var (i:=4) rfl rfl) hcl (by decide) kk)
          exact Tests.and (.cmp (wj _ _ _) (ww _) neqStr) fun _=>.val (.startswith (wj _ _ _) (ww _)) rfl
        · intro v hv hp cl C hk hcl
          obtain ⟨i,hy165_1⟩:=List.mem_map.mp hv
          have hi:=hy165_1.1
          have hx165_0:=hy165_1.2
          clear hy165_1
          subst hx165_0
          have hi':i < 5:=by simpa using hi
          exact Does.flat (.bin .int (.nm (Cx.own List.mem_cons_self (by decide))) (pow2 _ (by omega) (by omega)))
      · refine .sumN (Nat.lt_of_le_of_lt (by rw [List.length_map]; exact List.length_filter_le _ _) (by simp)) fun n hn=>?_
        obtain ⟨j,hy169_1⟩:=List.mem_map.mp hn
        have hj:=hy169_1.1
        have hx169_0:=hy169_1.2
        clear hy169_1
        subst hx169_0
        have:j < 5:=by simpa using (List.mem_filter.mp hj).1
        exact Nat.lt_of_lt_of_le (Nat.pow_lt_pow_right (by decide) this) (by decide)
    · rfl
    · rfl
    · exact shortL_of hyl
  have hll:(laterL ws).length=5:=by unfold laterL; rw [List.length_map,hw]
  refine Rets.freeze (i:=3) (x:="later") rfl rfl ?_
  generalize hlt:laterL ws=lt at hll
  refine Rets.cons (ρ₁:=ini70 ws hs cp (.val (.list (lt.map nV))) (.own [nV 0]) .non) (g₁:=()) ?_ ?_
  · apply Run1.asgO (F:=σ.fx (fScope 70) ks70 ok70) (i:=5) (vs:=[nV 0])
    · exact fun W=>.cons .int .nil
    · rfl
    · rfl
    · rfl
  refine Rets.cons (ρ₁:=ini70 ws hs cp (.val (.list (lt.map nV))) (.own [nV 0]) (.own [nV 0])) (g₁:=()) ?_ ?_
  · apply Run1.asgO (F:=σ.fx (fScope 70) ks70 ok70) (i:=6) (vs:=[nV 0])
    · exact fun W=>.cons .int .nil
    · rfl
    · rfl
    · rfl
  refine Rets.cons (ρ₁:=ini70 ws hs cp (.val (.list (lt.map nV))) (.own ((bestT ws hs cp 31).map nV)) (.own ((floorsT ws hs cp 31).map nV))) (g₁:=()) ?_ ?_
  · apply Run1.for1 (F:=σ.fx (fScope 70) ks70 ok70) (i:=7) (src:=.rng 1 32) (xs:=(List.range 31).map fun (i:Nat)=>V.int (1+(i:Int))) (ρs:=fun n=>ini70 ws hs cp (.val (.list (lt.map nV))) (.own ((bestT ws hs cp n).map nV)) (.own ((floorsT ws hs cp n).map nV))) (gs:=fun _=>())
    · exact .new (fun W=>.range2 (knd (sc:=fScope 70) (by decide)) hr .int .int) (by simp)
    · rfl
    · exact .inr ⟨1,List.mem_map.mpr ⟨0,by simp,rfl⟩⟩
    · intro v hv; obtain ⟨n,_,rfl⟩:=List.mem_map.mp hv; rfl
    · rfl
    intro n v hv
    rw [List.getElem?_map] at hv
    obtain ⟨n',hy199_1⟩:=Option.map_eq_some_iff.mp hv
    have hn':=hy199_1.1
    have hx199_0:=hy199_1.2
    clear hy199_1
    subst hx199_0
    have hn31:n < 31:=by have:=(List.getElem?_eq_some_iff.mp hn').1; simpa using this
    have:n'=n:=by simp [hn31] at hn'; exact hn'.symm
    subst this
    have eg:(1+(n':Int))=((n'+1:Nat):Int):=by push_cast; omega
    rw [eg]
    have hbl:=bestT_len ws hs cp n'
    have hfl:=floorsT_len ws hs cp n'
    rw [show bestT ws hs cp (n'+1)=bestT ws hs cp n'++[bestNext ws hs cp (bestT ws hs cp n') (n'+1)] from rfl,show floorsT ws hs cp (n'+1)=floorsT ws hs cp n'++[(minPL (pricesL ws hs cp (n'+1))).1] from rfl,List.map_append,List.map_append]
    have hmay:=hne (n'+1) (by omega) (by omega)
    have hG32:n'+1 < 32:=by omega
    have hG1:1≤n'+1:=by omega
    have hGb:n'+1=(bestT ws hs cp n').length:=hbl.symm
    generalize hGe:n'+1=G at *
    generalize bestT ws hs cp n'=bt at *
    generalize floorsT ws hs cp n'=ft at *
    rw [hbl] at hGb
    clear hGb
    have hpl:(pricesL ws hs cp G)=(mayL ws G).map fun k=>(costOf cp k (hourOf hs G),k):=rfl
    have hml:mayL ws G=(insideL G).filter fun k=>Builtin.bitAnd (lt.getD k 0:Nat) (G:Int) == 0:=by unfold mayL; rw [hlt]
    have hins:∀ k∈insideL G,k < 5:=fun k hk=>by simpa using (List.mem_filter.mp hk).1
    have hinl:(insideL G).length≤5:=Nat.le_trans (List.length_filter_le _ _) (by simp)
    have kg:(σ.env (fScope 70)).kindOf (Str.ofString "group")≠some .local:=by show (fScope 70).names.lookup _≠_; decide
    have kh:(σ.env (fScope 70)).kindOf (Str.ofString "hours")≠some .local:=by show (fScope 70).names.lookup _≠_; decide
    have kb:(σ.env (fScope 70)).kindOf (Str.ofString "best")≠some .local:=by show (fScope 70).names.lookup _≠_; decide
    refine Runs.drop (ρ₂:=st70 ws hs cp lt (.own (bt.map nV++[nV (bestNext ws hs cp bt G)])) (.own (ft.map nV++[nV (minPL (pricesL ws hs cp G)).1])) (.val (nV G)) .non (.val (.list ((insideL G).map nV))) (.val (nV (hourOf hs G))) (.own ((pricesL ws hs cp G).map pairV)) .non) (DropL.ok (by repeat constructor)) ?_
    refine .cons (ρ₁:=st70 ws hs cp lt (.own (bt.map nV)) (.own (ft.map nV)) (.val (nV G)) .non (.val (.list ((insideL G).map nV))) .non .non .non) (g₁:=()) ?_ ?_
    · have e2:(insideL G).map nV=((((List.range 5).map fun (i:Nat)=>V.int (0+(i:Int))).filter fun v=>match v with | .int p=>((G:Int).fdiv (2 ^ p.toNat)).fmod 2 == 1 | _=>false).map fun v=>v):=by
        refine (range_comp (fun i=>?_) fun i=>?_).symm
        · simp only [zero_add_toNat]
        · show V.int _=V.int _; congr 1; omega
      rw [e2]
      apply Run1.asgC (F:=σ.fx (fScope 70) ks70 ok70) (i:=9) (src:=.rng 0 5) (xs:=(List.range 5).map fun (i:Nat)=>V.int (0+(i:Int))) (bs:=fun v=>[("k",v)])
      · rfl
      · exact swaps_local rfl (knd (sc:=fScope 70) (by decide)) rfl (by decide)
      · exact fun W=>(DoesF.range1 (knd (sc:=fScope 70) (by decide)) hr .int).does
      · rfl
      · exact .inl ⟨_,_,rfl⟩
      · decide
      · decide
      · exact Site.free (σ:=σ) (sc:=fScope 70) (by decide)
      · intro v hv W
        obtain ⟨i,hy241_1⟩:=List.mem_map.mp hv
        have hx241_0:=hy241_1.2
        clear hy241_1
        subst hx241_0
        exact .name (by decide) rfl rfl
      · intro v hv W cl C hk hcl
        obtain ⟨i,hy244_1⟩:=List.mem_map.mp hv
        have hi:=hy244_1.1
        have hx244_0:=hy244_1.2
        clear hy244_1
        subst hx244_0
        have hi':i < 5:=by simpa using hi
        have hp0:((2:Int) ^ (0+(i:Int)).toNat)≠0:=by rw [zero_add_toNat]; exact Int.ne_of_gt (Int.pow_pos (by decide))
        have hsm:((2:Int) ^ (0+(i:Int)).toNat).natAbs < 1073741824:=by
          rw [zero_add_toNat,Int.natAbs_pow]
          exact Nat.lt_of_lt_of_le (Nat.pow_lt_pow_right (by decide) hi') (by decide)
        refine Tests.cmp (.bin (va:=.int ((G:Int).fdiv (2 ^ (0+(i:Int)).toNat))) (.bin (va:=nV G) (.nm (Cx.out (Fx.var (i:=7) rfl rfl) hcl (by decide) kg)) (.bin .int (.nm (Cx.own List.mem_cons_self (by decide))) (pow2 _ (by omega) (by omega))) (if_pos ⟨hp0,?_,hsm⟩)) .int rfl) .int rfl
        unfold small; rw [Nat.blt_eq]; omega
      · intro v hv hp W cl C hk hcl
        obtain ⟨i,hy253_1⟩:=List.mem_map.mp hv
        have hi:=hy253_1.1
        have hx253_0:=hy253_1.2
        clear hy253_1
        subst hx253_0
        exact Does.flat (.nm (Cx.own List.mem_cons_self (by decide)))
    refine .cons (ρ₁:=st70 ws hs cp lt (.own (bt.map nV)) (.own (ft.map nV)) (.val (nV G)) .non (.val (.list ((insideL G).map nV))) (.val (nV (hourOf hs G))) .non .non) (g₁:=()) ?_ ?_
    · apply Run1.asg (F:=σ.fx (fScope 70) ks70 ok70) (i:=10)
      · intro W
        apply Does.callB (vs:=[.list (((insideL G).map fun k=>hs.getD k 0).map nV)]) (id:="sum")
        · exact knd (sc:=fScope 70) (by decide)
        · exact hsu
        · refine .cons ?_ .nil
          have e3:(((insideL G).map fun k=>hs.getD k 0).map nV)=(((insideL G).map nV).filter fun _=>true).map fun v=>match v with | .int j=>nV (hs.getD j.toNat 0) | v=>v:=by
            rw [List.filter_eq_self.mpr fun _ _=>rfl,List.map_map,List.map_map]; rfl
          rw [e3]
          apply DoesF.does
          apply DoesF.comp (src:=.list ((insideL G).map nV)) (bs:=fun v=>[("k",v)]) (xs:=(insideL G).map nV)
          · exact .nm (Fx.var (i:=9) rfl rfl)
          · exact if_pos (shortL_of (by rw [List.length_map]; omega))
          · exact .inl ⟨_,_,rfl⟩
          · decide
          · decide
          · exact Site.free (σ:=σ) (sc:=fScope 70) (by decide)
          · intro v hv
            obtain ⟨i,hy274_1⟩:=List.mem_map.mp hv
            have hx274_0:=hy274_1.2
            clear hy274_1
            subst hx274_0
            exact .name (by decide) rfl rfl
          · exact fun v hv cl C _ _=>rfl
          · intro v hv hp cl C hk hcl
            obtain ⟨i,hy278_1⟩:=List.mem_map.mp hv
            have hi:=hy278_1.1
            have hx278_0:=hy278_1.2
            clear hy278_1
            subst hx278_0
            have hi':=hins i hi
            exact Does.flat (v:=nV (hs.getD i 0)) (.idx (vs:=hs.map nV) (k:=(i:Int)) (.nm (Cx.out (Fx.var (i:=1) rfl rfl) hcl (by decide) kh)) (.nm (Cx.own List.mem_cons_self (by decide))) (Int.natCast_nonneg _) (nV_get (by omega)) (shortL_of (by rw [List.length_map]; omega)))
        · refine .sumN (by rw [List.length_map]; omega) fun n hn=>?_
          obtain ⟨j,hy282_1⟩:=List.mem_map.mp hn
          have hj:=hy282_1.1
          have hx282_0:=hy282_1.2
          clear hy282_1
          subst hx282_0
          have hj':j < hs.length:=by have:=hins j hj; omega
          have:hs.getD j 0≤8:=by
            rw [List.getD_eq_getElem?_getD,List.getElem?_eq_getElem hj']; exact h8 _ (List.getElem_mem hj')
          omega
      · rfl
      · rfl
    refine .cons (ρ₁:=st70 ws hs cp lt (.own (bt.map nV)) (.own (ft.map nV)) (.val (nV G)) .non (.val (.list ((insideL G).map nV))) (.val (nV (hourOf hs G))) (.own []) .non) (g₁:=()) ?_ ?_
    · apply Run1.asgO (F:=σ.fx (fScope 70) ks70 ok70) (i:=11) (vs:=[])
      · exact fun W=>.nil
      · rfl
      · rfl
      · rfl
    generalize hhr:hourOf hs G=hr' at *
    refine .cons (ρ₁:=st70 ws hs cp lt (.own (bt.map nV)) (.own (ft.map nV)) (.val (nV G)) .non (.val (.list ((insideL G).map nV))) (.val (nV hr')) (.own ((pricesL ws hs cp G).map pairV)) .non) (g₁:=()) ?_ ?_
    · obtain ⟨may,hmy⟩:∃ f:Nat→Bool,f=fun k=>Builtin.bitAnd (lt.getD k 0:Nat) (G:Int) == 0:=⟨_,rfl⟩
      have ef:(((insideL G).take ((insideL G).map nV).length).filter may).map (fun k=>pairV (costOf cp k hr',k))=(pricesL ws hs cp G).map pairV:=by
        rw [List.length_map,List.take_length,hpl,hml,List.map_map,hmy]; rfl
      rw [← ef]
      apply Run1.for1 (F:=σ.fx (fScope 70) ks70 ok70) (i:=8) (src:=.list ((insideL G).map nV)) (xs:=(insideL G).map nV) (ρs:=fun j=>st70 ws hs cp lt (.own (bt.map nV)) (.own (ft.map nV)) (.val (nV G)) .non (.val (.list ((insideL G).map nV))) (.val (nV hr')) (.own ((((insideL G).take j).filter may).map fun k=>pairV (costOf cp k hr',k))) .non) (gs:=fun _=>())
      · exact .var (i:=9) rfl rfl (by simp)
      · exact if_pos (shortL_of (by rw [List.length_map]; omega))
      · exact .inl rfl
      · intro v hv; obtain ⟨n,_,rfl⟩:=List.mem_map.mp hv; rfl
      · rfl
      intro j v hv
      rw [List.getElem?_map] at hv
      obtain ⟨kk,hy309_1⟩:=Option.map_eq_some_iff.mp hv
      have hkk:=hy309_1.1
      have hx309_0:=hy309_1.2
      clear hy309_1
      subst hx309_0
      have hk5:=hins kk (List.mem_of_getElem? hkk)
      rw [List.take_add_one,hkk,List.filter_append,List.map_append]
      have hyl:((((insideL G).take j).filter may).map fun k=>pairV (costOf cp k hr',k)).length≤5:=by
        rw [List.length_map]
        exact Nat.le_trans (List.length_filter_le _ _) (Nat.le_trans (by rw [List.length_take]; exact Nat.min_le_right _ _) hinl)
      generalize (((insideL G).take j).filter may).map (fun k=>pairV (costOf cp k hr',k))=ys at hyl
      refine Runs.drop (ρ₂:=st70 ws hs cp lt (.own (bt.map nV)) (.own (ft.map nV)) (.val (nV G)) (.val (nV kk)) (.val (.list ((insideL G).map nV))) (.val (nV hr')) (.own (ys++(([kk].filter may).map fun k=>pairV (costOf cp k hr',k)))) .non) (DropL.ok (by repeat constructor)) ?_
      refine .cons (ρ₁:=st70 ws hs cp lt (.own (bt.map nV)) (.own (ft.map nV)) (.val (nV G)) (.val (nV kk)) (.val (.list ((insideL G).map nV))) (.val (nV hr')) (.own (ys++(([kk].filter may).map fun k=>pairV (costOf cp k hr',k)))) .non) (g₁:=()) ?_ .nil
      apply Run1.iff (F:=σ.fx (fScope 70) ks70 ok70) (x:=may kk)
      · intro W
        rw [hmy]
        exact .cmp (.bin (va:=nV (lt.getD kk 0)) (vb:=nV G) (.idx (vs:=lt.map nV) (k:=(kk:Int)) (.nm (Fx.var (i:=3) rfl rfl)) (.nm (Fx.var (i:=8) rfl rfl)) (Int.natCast_nonneg _) (nV_get (by omega)) (shortL_of (by rw [List.length_map]; omega))) (.nm (Fx.var (i:=7) rfl rfl)) rfl) .int rfl
      · intro hm
        rw [List.filter_cons_of_pos hm]
        obtain ⟨r,hrr⟩:∃ r,r=(cp.getD kk (0,0)).1:=⟨_,rfl⟩
        obtain ⟨b,hbb⟩:∃ b,b=(cp.getD kk (0,0)).2:=⟨_,rfl⟩
        have hcost:costOf cp kk hr'=maxN r [b,hr']+minN r [b,hr']:=by rw [hrr,hbb]; rfl
        have hcap:∀ W p1 p2 p3,Does ((σ.fx (fScope 70) ks70 ok70).cx (st70 ws hs cp lt (.own (bt.map nV)) (.own (ft.map nV)) (.val (nV G)) (.val (nV kk)) (.val (.list ((insideL G).map nV))) (.val (nV hr')) (.own ys) .non) () W) (.Subscript (.Name "caps" p1) (.Name "k" p2) p3) (.tup [nV r,nV b]):=fun W p1 p2 p3 =>
          .idx (vs:=cp.map capV) (k:=(kk:Int)) (.nm (Fx.var (i:=2) rfl rfl)) (.nm (Fx.var (i:=8) rfl rfl)) (Int.natCast_nonneg _) (by
            have:kk < cp.length:=by omega
            rw [Int.toNat_natCast,List.getElem?_map,List.getElem?_eq_getElem this,hrr,hbb,List.getD_eq_getElem?_getD,List.getElem?_eq_getElem this]; rfl) (shortL_of (by rw [List.length_map]; omega))
        refine Runs.drop (ρ₂:=st70 ws hs cp lt (.own (bt.map nV)) (.own (ft.map nV)) (.val (nV G)) (.val (nV kk)) (.val (.list ((insideL G).map nV))) (.val (nV hr')) (.own (ys++[pairV (costOf cp kk hr',kk)])) (.val (.list ([r,b,hr'].map nV)))) (DropL.ok (by repeat constructor)) ?_
        refine .cons (ρ₁:=st70 ws hs cp lt (.own (bt.map nV)) (.own (ft.map nV)) (.val (nV G)) (.val (nV kk)) (.val (.list ((insideL G).map nV))) (.val (nV hr')) (.own ys) (.val (.list ([r,b,hr'].map nV)))) (g₁:=()) ?_ ?_
        · apply Run1.asgF (F:=σ.fx (fScope 70) ks70 ok70) (i:=12) (v:=.list ([r,b,hr'].map nV))
          · intro W
            refine .list (.cons (.idxT (vs:=[nV r,nV b]) (k:=0) (hcap W _ _ _) .int (by decide) rfl rfl) (.cons (.idxT (vs:=[nV r,nV b]) (k:=1) (hcap W _ _ _) .int (by decide) rfl rfl) (.cons (.nm (Fx.var (i:=10) rfl rfl)) .nil)))
          · rfl
        refine .cons (ρ₁:=st70 ws hs cp lt (.own (bt.map nV)) (.own (ft.map nV)) (.val (nV G)) (.val (nV kk)) (.val (.list ((insideL G).map nV))) (.val (nV hr')) (.own (ys++[pairV (costOf cp kk hr',kk)])) (.val (.list ([r,b,hr'].map nV)))) (g₁:=()) ?_ .nil
        apply Run1.append (F:=σ.fx (fScope 70) ks70 ok70) (i:=11) (v:=pairV (costOf cp kk hr',kk))
        · intro W
          refine .tup (vs:=[nV (costOf cp kk hr'),nV kk]) (.cons ?_ (.cons (.nm (Fx.var (i:=8) rfl rfl)) .nil))
          rw [hcost]
          refine .bin (va:=nV (maxN r [b,hr'])) (vb:=nV (minN r [b,hr'])) ?_ ?_ (by show some (V.int _)=some (V.int _); push_cast; rfl)
          · apply Does.callB (vs:=[.list ([r,b,hr'].map nV)]) (id:="max")
            · exact knd (sc:=fScope 70) (by decide)
            · exact hma
            · exact .cons (.nm (Fx.var (i:=12) rfl rfl)) .nil
            · exact .max1 (x₀:=nV r) (r₀:=[b,hr'].map nV) rfl (best_int _ _)
          · apply Does.callB (vs:=[.list ([r,b,hr'].map nV)]) (id:="min")
            · exact knd (sc:=fScope 70) (by decide)
            · exact hmi
            · exact .cons (.nm (Fx.var (i:=12) rfl rfl)) .nil
            · exact .min1 (x₀:=nV r) (r₀:=[b,hr'].map nV) rfl (best_min _ _)
        · rfl
        · rfl
        · exact shortL_of (by omega)
      · intro hm
        rw [List.filter_cons_of_neg (by rw [hm]; decide),List.filter_nil,List.map_nil,List.append_nil]
        exact .nil
    have hpn:∃ p q,pricesL ws hs cp G=p :: q:=by
      rw [hpl]
      cases h:mayL ws G with
      | nil=>exact absurd h hmay
      | cons b r=>exact ⟨_,_,rfl⟩
    obtain ⟨p,q,hpq⟩:=hpn
    have hpl5:(pricesL ws hs cp G).length≤5:=by rw [hpl,List.length_map,hml]; exact Nat.le_trans (List.length_filter_le _ _) hinl
    have hpk:∀ x∈pricesL ws hs cp G,x.2∈insideL G:=by
      rw [hpl,hml]
      intro x hx
      obtain ⟨k,hy369_1⟩:=List.mem_map.mp hx
      have hk:=hy369_1.1
      have hx369_0:=hy369_1.2
      clear hy369_1
      subst hx369_0
      exact (List.mem_filter.mp hk).1
    refine .cons (ρ₁:=st70 ws hs cp lt (.own (bt.map nV)) (.own (ft.map nV++[nV (minPL (pricesL ws hs cp G)).1])) (.val (nV G)) .non (.val (.list ((insideL G).map nV))) (.val (nV hr')) (.own ((pricesL ws hs cp G).map pairV)) .non) (g₁:=()) ?_ ?_
    · apply Run1.append (F:=σ.fx (fScope 70) ks70 ok70) (i:=6) (v:=nV (minPL (pricesL ws hs cp G)).1)
      · intro W
        refine Does.flat (hf:=rfl) ?_
        refine .idxT (vs:=[nV (minPL (pricesL ws hs cp G)).1,nV (minPL (pricesL ws hs cp G)).2]) (k:=0) ?_ .int (by decide) rfl rfl
        apply Does.callB (vs:=[.list ((pricesL ws hs cp G).map pairV)]) (id:="min")
        · exact knd (sc:=fScope 70) (by decide)
        · exact hmi
        · exact .cons (.nm (Fx.varO (i:=11) rfl rfl)) .nil
        · rw [hpq]
          refine .min1 (x₀:=pairV p) (r₀:=q.map pairV) (if_pos (shortL_of ?_)) (best_pair q p)
          have:=congrArg List.length hpq
          simp at this ⊢
          omega
      · rfl
      · rfl
      · exact shortL_of (by rw [List.length_map]; omega)
    refine .cons (ρ₁:=st70 ws hs cp lt (.own (bt.map nV++[nV (bestNext ws hs cp bt G)])) (.own (ft.map nV++[nV (minPL (pricesL ws hs cp G)).1])) (.val (nV G)) .non (.val (.list ((insideL G).map nV))) (.val (nV hr')) (.own ((pricesL ws hs cp G).map pairV)) .non) (g₁:=()) ?_ .nil
    apply Run1.append (F:=σ.fx (fScope 70) ks70 ok70) (i:=5) (v:=nV (bestNext ws hs cp bt G))
    · intro W
      refine Does.flat (hf:=rfl) ?_
      apply Does.callB (vs:=[.list (((pricesL ws hs cp G).map fun p=>maxN p.1 [bt.getD (G - 2 ^ p.2) 0]).map nV)]) (id:="min")
      · exact knd (sc:=fScope 70) (by decide)
      · exact hmi
      · refine .cons ?_ .nil
        have e3:(((pricesL ws hs cp G).map fun p=>maxN p.1 [bt.getD (G - 2 ^ p.2) 0]).map nV)=(((pricesL ws hs cp G).map pairV).filter fun _=>true).map fun v=>match v with | .tup [.int a,.int k]=>nV (maxN a.toNat [bt.getD (G - 2 ^ k.toNat) 0]) | v=>v:=by
          rw [List.filter_eq_self.mpr fun _ _=>rfl,List.map_map,List.map_map]; rfl
        rw [e3]
        apply DoesF.does
        apply DoesF.comp (src:=.list ((pricesL ws hs cp G).map pairV)) (bs:=fun v=>match v with | .tup [a,b]=>[("price",a),("k",b)] | _=>[]) (xs:=(pricesL ws hs cp G).map pairV)
        · exact .nm (Fx.varO (i:=11) rfl rfl)
        · exact if_pos (shortL_of (by rw [List.length_map]; omega))
        · exact .inr rfl
        · decide
        · decide
        · exact Site.free (σ:=σ) (sc:=fScope 70) (by decide)
        · intro v hv
          obtain ⟨x,hy408_1⟩:=List.mem_map.mp hv
          have hx408_0:=hy408_1.2
          clear hy408_1
          subst hx408_0
          exact .pair (by decide) (by decide) rfl rfl rfl (by decide)
        · exact fun v hv cl C _ _=>rfl
        · intro v hv hp cl C hk hcl
          obtain ⟨x,hy412_1⟩:=List.mem_map.mp hv
          have hx:=hy412_1.1
          have hx412_0:=hy412_1.2
          clear hy412_1
          subst hx412_0
          have hxk:=hpk x hx
          have h5:=hins _ hxk
          have hle:=inside_le G hG32 _ hxk
          have e4:(G:Int) - 2 ^ ((x.2:Nat):Int).toNat=((G - 2 ^ x.2:Nat):Int):=by rw [Int.toNat_natCast]; push_cast [hle]; rfl
          refine Does.flat (v:=nV (maxN x.1 [bt.getD (G - 2 ^ x.2) 0])) ?_
          apply Does.callB (vs:=[nV x.1,nV (bt.getD (G - 2 ^ x.2) 0)]) (id:="max")
          · exact Cx.glb (by decide)
          · exact hma
          · refine .cons (.nm (Cx.own List.mem_cons_self (by decide))) (.cons ?_ .nil)
            refine .idx (vs:=bt.map nV) (k:=((G - 2 ^ x.2:Nat):Int)) (.nm (Cx.out (Fx.varO (i:=5) rfl rfl) hcl (by decide) kb)) ?_ (Int.natCast_nonneg _) (nV_get (by have:=Nat.pow_pos (n:=x.2) (show 0 < 2 by decide); omega)) (shortL_of (by rw [List.length_map]; omega))
            rw [← e4]
            exact .bin (va:=nV G) (.nm (Cx.out (Fx.var (i:=7) rfl rfl) hcl (by decide) kg)) (.bin .int (.nm (Cx.own (List.mem_cons_of_mem _ List.mem_cons_self) (by decide))) (pow2 _ (by omega) (by omega))) rfl
          · exact .max2 (best_int [_] _)
      · obtain ⟨f,hf⟩:∃ f:Nat × Nat→Nat,f=fun p=>maxN p.1 [bt.getD (G - 2 ^ p.2) 0]:=⟨_,rfl⟩
        have e5:bestNext ws hs cp bt G=minN (f p) (q.map f):=by unfold bestNext; rw [← hf,hpq]; rfl
        rw [e5,← hf,hpq]
        refine .min1 (x₀:=nV (f p)) (r₀:=(q.map f).map nV) (if_pos (shortL_of ?_)) (best_min _ _)
        have:=congrArg List.length hpq
        simp at this ⊢
        omega
    · rfl
    · rfl
    · exact shortL_of (by rw [List.length_map]; omega)
  refine Rets.freeze (i:=5) (x:="best") rfl rfl ?_
  refine Rets.freeze (i:=6) (x:="floors") rfl rfl ?_
  exact Rets.ret (fun W=>.tup (.cons (.nm (Fx.var (i:=5) rfl rfl)) (.cons (.nm (Fx.var (i:=6) rfl rfl)) .nil))) (fun _ q=>q) fun _=>trivial
structure FnAt (D:Wd) (name:Str) (i:Nat) where
  a:Addr
  o:Obj
  pm:Value
  cd:Value
  doc:Value
  gl:D.gl name=some (.ref a)
  ho:D.h0.get? a=some o
  hd:o.data=.func (Calls.docDef name (fArgs i) (fBody i) (fScope i) pm cd doc)
  hcd:D.h0.CodeRec cd name
theorem FnAt.gives {D:Wd} {name:Str} {i:Nat} (f:FnAt D name i) {k:Nat} {c:Cx} {ks:List Str} {vs:List V} {v:V} (n:Nat) (hM:c.M=model D.prog D.w) (hA:AOk (k+1) c.A) (hP:∀ s,c.P s→Ext D.h0 s.heap)
    (sok:ScOk (fScope i) ks) (hlen:vs.length≤ks.length) (hbind:∀ rs:List Value,rs.length=vs.length→bindArgs (Calls.docDef name (fArgs i) (fBody i) (fScope i) f.pm f.cd f.doc) ⟨rs,[]⟩=pure ((ks.take vs.length).zip rs))
    (walk:∀ σ:Site D k,Rets (σ.fx (fScope i) ks sok) (fBody i) (vs.map .val++List.replicate n .non) () v (fun _=>True))
    (hco:(fScope i).isCoroutine=false:=by rfl) (hgen:(fScope i).isGenerator=false:=by rfl):Gives1 c (.ref f.a) vs v:=fun s E rs hs hr=>by
  rw [hM]
  exact D.call hA f.ho f.hd f.hcd rfl rfl rfl rfl sok hlen hbind walk hco hgen s E rs (hP s hs) (c.toks s hs) hr
theorem FnAt.does {D:Wd} {name:Str} {i:Nat} (f:FnAt D name i) {c:Cx} {e:Expr} {es:List Expr} {np pos:Pos} {vs:List V} {v:V} (hgl:c.gl=D.gl) (hP:∀ s,c.P s→Ext D.h0 s.heap) (hx:c.env.kindOf name=some .globalImplicit) (ha:DoesL c (e :: es) vs) (g:Gives1 c (.ref f.a) vs v)
    (he:starEach (e :: es) c.env=(false,eval e c.env) :: starEach es c.env:=by rfl) (hd:(name == ("__debug__":Str))=false:=by decide):Does c (.Call (.Name name np) (e :: es) [] pos) v :=
  .callF hx (by rw [hgl]; exact f.gl) ha (fun s hs=>hP s hs _ _ f.ho) f.hd g he hd
theorem Does.glb {c:Cx} {x:Str} {pos:Pos} {i:Int} {t:Tok} (hx:c.env.kindOf x=some .globalImplicit) (hv:c.gl x=some (.int i t)) (hd:(x == ("__debug__":Str))=false:=by decide):Does c (.Name x pos) (.int i) :=
  .of fun s E hs=>glob_name hs hx hv ⟨.i _ _,kRefl _⟩ hd
theorem Does.cmp {c:Cx} {op:CmpOp} {a b:Expr} {pos:Pos} {va vb:V} {t:Bool} (ha:Does c a va) (hb:Does c b vb) (hv:cmpV op va vb=some t) (hm:behindInMarks op b=false:=by with_unfolding_all rfl):Does c (.Compare a [op] [b] pos) (.bool t):=fun s E hs=>by
  refine wpAny_Compare1 (run_on hs (ha s _ hs) fun ra s₁ xa h₁ k₁=>run_on h₁ (hb s₁ _ h₁) fun rb s₂ xb h₂ k₂=>?_) hm
  refine wpAny_mono (cmpV_sound hv (xa.kept k₂.1) xb c.hu) (fun r s₃ h₃=>?_) fun _ _ x=>x
  have hx32_0:=h₃.1
  have hx32_1:=h₃.2
  try clear h₃
  subst hx32_0
  subst hx32_1
  exact ⟨.b _,k₁.trans k₂⟩
noncomputable def ks51:List Str:=["x"]
theorem ok51:ScOk (fScope 51) ks51:=⟨by decide,by decide,rfl⟩
theorem walk51 {D:Wd} {k:Nat} {t:Tok} (σ:Site D k) (hE:D.gl "ENDMARKER"=some (.int 0 t)) {n:Int} :
    Rets (σ.fx (fScope 51) ks51 ok51) (fBody 51) [.val (.int n)] () (.bool (n == 0)) (fun _=>True) :=
  Rets.ret (fun W=>.cmp (.nm (Fx.var (i:=0) rfl rfl)) (.glb (knd (sc:=fScope 51) (by decide)) hE) rfl) (fun _ q=>q) fun _=>trivial
noncomputable def ks61:List Str:=["r","g","b","maxc","minc","sumc","rangec","l","s","rc","gc","bc","h"]
theorem ok61:ScOk (fScope 61) ks61:=⟨by decide,by decide,rfl⟩
theorem Rets.ifRet {F:Fx} {ρ:List Slot} {g:F.Γ} {t:Expr} {a rest:List Stmt} {pos:Pos} {x:Bool} {v:V} {R:Heap→Prop} (ht:∀ W,Tests (F.cx ρ g W) t x) (ha:x=true→Rets F a ρ g v R) (hb:x=false→Rets F rest ρ g v R) :
    Rets F (.If t a [] pos :: rest) ρ g v R:=fun W s E fr=>by
  refine wpAny_execs_cons (wpAny_If (wpAny_mono (ht W s E fr) (fun r s₁ q=>?_) fun _ _ q=>q))
  have hx7_0:=q.1
  have k:=q.2
  try clear q
  subst hx7_0
  have after:∀ {r s'},RetOk F v R W s₁ r s'→RetOk F v R W s r s':=fun z=>z.after (let ⟨h,t,e,_⟩:=k.1; ⟨h,t,e⟩) (Mv.of k)
  cases r with
  | true =>
    simp only [if_true]
    exact wpAny_mono (ha rfl W s₁ E (fr.keeps k)) (fun f s₂ y=>by obtain ⟨r,rfl,z⟩:=y; exact ⟨r,rfl,after z⟩) fun _ _ y=>y
  | false =>
    simp only [Bool.false_eq_true,if_false]
    exact wpAny_execs_nil (wpAny_mono (hb rfl W s₁ E (fr.keeps k)) (fun f s₂ y=>let ⟨r,e,z⟩:=y; ⟨r,e,after z⟩) fun _ _ y=>y)
theorem Does.flt {c:Cx} {x:UInt64} {k:Nat} {pos:Pos}:Does c (.Constant (.float x) k pos) (.flt x):=.of fun s _ hs=>fun _ _ _=>⟨.f x (c.toks s hs),kTok _ _⟩
noncomputable def hlsL (M m:UInt64):UInt64:=Float64.div (Float64.add M m) 0x4000000000000000
theorem divV {a b:UInt64} (h:Float64.isZero b=false):binV .Div (.flt a) (.flt b)=some (.flt (Float64.div a b)):=if_neg (by rw [h]; decide)
theorem modV {a b:UInt64} (h:Float64.isZero b=false):binV .Mod (.flt a) (.flt b)=some (.flt (Float64.divmod a b).snd):=if_neg (by rw [h]; decide)
noncomputable def le5 (x:UInt64):Bool:=Float64.cmp x 0x3fe0000000000000 == some Ordering.lt || Float64.cmp x 0x3fe0000000000000 == some Ordering.eq
noncomputable def hlsS (M m:UInt64):UInt64:=if le5 (hlsL M m)=true then Float64.div (Float64.sub M m) (Float64.add M m) else Float64.div (Float64.sub M m) (Float64.sub (Float64.sub 0x4000000000000000 M) m)
noncomputable def hlsC (M m x:UInt64):UInt64:=Float64.div (Float64.sub M x) (Float64.sub M m)
noncomputable def hlsH0 (r g b M m:UInt64):UInt64:=if (Float64.cmp r M == some Ordering.eq)=true then Float64.sub (hlsC M m b) (hlsC M m g)
  else if (Float64.cmp g M == some Ordering.eq)=true then Float64.sub (Float64.add 0x4000000000000000 (hlsC M m r)) (hlsC M m b) else Float64.sub (Float64.add 0x4010000000000000 (hlsC M m g)) (hlsC M m r)
noncomputable def hlsH (r g b M m:UInt64):UInt64:=(Float64.divmod (Float64.div (hlsH0 r g b M m) 0x4018000000000000) 0x3ff0000000000000).snd
noncomputable abbrev st61 (r g b:UInt64) (M m S R l s x y z h:Slot):List Slot:=[.val (.flt r),.val (.flt g),.val (.flt b),M,m,S,R,l,s,x,y,z,h]
noncomputable abbrev vf (x:UInt64):Slot:=.val (.flt x)
theorem walk61 {D:Wd} {k:Nat} {r g b M m:UInt64} (hma:D.gl "max"=some (.builtin "max")) (hmi:D.gl "min"=some (.builtin "min"))
    (hM:bestV gtV (.flt r) [.flt g,.flt b]=some (.flt M)) (hm:bestV ltV (.flt r) [.flt g,.flt b]=some (.flt m))
    (hz:(Float64.cmp m M == some Ordering.eq)=false→Float64.isZero (Float64.sub M m)=false∧Float64.isZero (Float64.add M m)=false∧Float64.isZero (Float64.sub (Float64.sub 0x4000000000000000 M) m)=false)
    (h2:Float64.isZero 0x4000000000000000=false) (h6:Float64.isZero 0x4018000000000000=false) (h1:Float64.isZero 0x3ff0000000000000=false) :
    ∃ h s,∀ σ:Site D k,Rets (σ.fx (fScope 61) ks61 ok61) (fBody 61) (st61 r g b .non .non .non .non .non .non .non .non .non .non) () (.tup [.flt h,.flt (hlsL M m),.flt s]) (fun _=>True):=by
  refine ⟨bif (Float64.cmp m M == some Ordering.eq) then 0 else hlsH r g b M m,bif (Float64.cmp m M == some Ordering.eq) then 0 else hlsS M m,fun σ=>?_⟩
  refine Rets.cons (ρ₁:=st61 r g b (vf M) .non .non .non .non .non .non .non .non .non) (g₁:=()) ?_ ?_
  · apply Run1.asg (F:=σ.fx (fScope 61) ks61 ok61) (i:=3) (v:=.flt M)
    · intro W
      apply Does.callB (vs:=[.flt r,.flt g,.flt b]) (id:="max")
      · exact knd (sc:=fScope 61) (by decide)
      · exact hma
      · exact .cons (.nm (Fx.var (i:=0) rfl rfl)) (.cons (.nm (Fx.var (i:=1) rfl rfl)) (.cons (.nm (Fx.var (i:=2) rfl rfl)) .nil))
      · exact .max3 hM
    · rfl
    · rfl
  refine Rets.cons (ρ₁:=st61 r g b (vf M) (vf m) .non .non .non .non .non .non .non .non) (g₁:=()) ?_ ?_
  · apply Run1.asg (F:=σ.fx (fScope 61) ks61 ok61) (i:=4) (v:=.flt m)
    · intro W
      apply Does.callB (vs:=[.flt r,.flt g,.flt b]) (id:="min")
      · exact knd (sc:=fScope 61) (by decide)
      · exact hmi
      · exact .cons (.nm (Fx.var (i:=0) rfl rfl)) (.cons (.nm (Fx.var (i:=1) rfl rfl)) (.cons (.nm (Fx.var (i:=2) rfl rfl)) .nil))
      · exact .min3 hm
    · rfl
    · rfl
  refine Rets.cons (ρ₁:=st61 r g b (vf M) (vf m) (vf (Float64.add M m)) .non .non .non .non .non .non .non) (g₁:=()) ?_ ?_
  · apply Run1.asg (F:=σ.fx (fScope 61) ks61 ok61) (i:=5) (v:=.flt (Float64.add M m))
    · exact fun W=>.bin (.nm (Fx.var (i:=3) rfl rfl)) (.nm (Fx.var (i:=4) rfl rfl)) rfl
    · rfl
    · rfl
  refine Rets.cons (ρ₁:=st61 r g b (vf M) (vf m) (vf (Float64.add M m)) (vf (Float64.sub M m)) .non .non .non .non .non .non) (g₁:=()) ?_ ?_
  · apply Run1.asg (F:=σ.fx (fScope 61) ks61 ok61) (i:=6) (v:=.flt (Float64.sub M m))
    · exact fun W=>.bin (.nm (Fx.var (i:=3) rfl rfl)) (.nm (Fx.var (i:=4) rfl rfl)) rfl
    · rfl
    · rfl
  refine Rets.cons (ρ₁:=st61 r g b (vf M) (vf m) (vf (Float64.add M m)) (vf (Float64.sub M m)) (vf (hlsL M m)) .non .non .non .non .non) (g₁:=()) ?_ ?_
  · apply Run1.asg (F:=σ.fx (fScope 61) ks61 ok61) (i:=7) (v:=.flt (hlsL M m))
    · exact fun W=>.bin (.nm (Fx.var (i:=5) rfl rfl)) .flt (divV h2)
    · rfl
    · rfl
  refine Rets.ifRet (x:=Float64.cmp m M == some Ordering.eq) (fun W=>.cmp (.nm (Fx.var (i:=4) rfl rfl)) (.nm (Fx.var (i:=3) rfl rfl)) rfl) (fun hq=>?_) fun hq=>?_
  · rw [hq]
    exact Rets.ret (fun W=>.tup (.cons .flt (.cons (.nm (Fx.var (i:=7) rfl rfl)) (.cons .flt .nil)))) (fun _ q=>q) fun _=>trivial
  rw [hq]
  have hz74:=hz hq
  have z1:=hz74.1
  have z2:=hz74.2.1
  have z3:=hz74.2.2
  clear hz74
  refine Rets.cons (ρ₁:=st61 r g b (vf M) (vf m) (vf (Float64.add M m)) (vf (Float64.sub M m)) (vf (hlsL M m)) (vf (hlsS M m)) .non .non .non .non) (g₁:=()) ?_ ?_
  · apply Run1.iff (F:=σ.fx (fScope 61) ks61 ok61) (x:=le5 (hlsL M m))
    · exact fun W=>.cmp (.nm (Fx.var (i:=7) rfl rfl)) .flt rfl
    · intro h5
      refine .cons (ρ₁:=st61 r g b (vf M) (vf m) (vf (Float64.add M m)) (vf (Float64.sub M m)) (vf (hlsL M m)) (vf (hlsS M m)) .non .non .non .non) (g₁:=()) ?_ .nil
      rw [show hlsS M m=Float64.div (Float64.sub M m) (Float64.add M m) from if_pos h5]
      apply Run1.asg (F:=σ.fx (fScope 61) ks61 ok61) (i:=8)
      · exact fun W=>.bin (.nm (Fx.var (i:=6) rfl rfl)) (.nm (Fx.var (i:=5) rfl rfl)) (divV z2)
      · rfl
      · rfl
    · intro h5
      refine .cons (ρ₁:=st61 r g b (vf M) (vf m) (vf (Float64.add M m)) (vf (Float64.sub M m)) (vf (hlsL M m)) (vf (hlsS M m)) .non .non .non .non) (g₁:=()) ?_ .nil
      rw [show hlsS M m=Float64.div (Float64.sub M m) (Float64.sub (Float64.sub 0x4000000000000000 M) m) from if_neg (by rw [h5]; decide)]
      apply Run1.asg (F:=σ.fx (fScope 61) ks61 ok61) (i:=8)
      · exact fun W=>.bin (.nm (Fx.var (i:=6) rfl rfl)) (.bin (.bin .flt (.nm (Fx.var (i:=3) rfl rfl)) rfl) (.nm (Fx.var (i:=4) rfl rfl)) rfl) (divV z3)
      · rfl
      · rfl
  refine Rets.cons (ρ₁:=st61 r g b (vf M) (vf m) (vf (Float64.add M m)) (vf (Float64.sub M m)) (vf (hlsL M m)) (vf (hlsS M m)) (vf (hlsC M m r)) .non .non .non) (g₁:=()) ?_ ?_
  · apply Run1.asg (F:=σ.fx (fScope 61) ks61 ok61) (i:=9) (v:=.flt (hlsC M m r))
    · exact fun W=>.bin (.bin (.nm (Fx.var (i:=3) rfl rfl)) (.nm (Fx.var (i:=0) rfl rfl)) rfl) (.nm (Fx.var (i:=6) rfl rfl)) (divV z1)
    · rfl
    · rfl
  refine Rets.cons (ρ₁:=st61 r g b (vf M) (vf m) (vf (Float64.add M m)) (vf (Float64.sub M m)) (vf (hlsL M m)) (vf (hlsS M m)) (vf (hlsC M m r)) (vf (hlsC M m g)) .non .non) (g₁:=()) ?_ ?_
  · apply Run1.asg (F:=σ.fx (fScope 61) ks61 ok61) (i:=10) (v:=.flt (hlsC M m g))
    · exact fun W=>.bin (.bin (.nm (Fx.var (i:=3) rfl rfl)) (.nm (Fx.var (i:=1) rfl rfl)) rfl) (.nm (Fx.var (i:=6) rfl rfl)) (divV z1)
    · rfl
    · rfl
  refine Rets.cons (ρ₁:=st61 r g b (vf M) (vf m) (vf (Float64.add M m)) (vf (Float64.sub M m)) (vf (hlsL M m)) (vf (hlsS M m)) (vf (hlsC M m r)) (vf (hlsC M m g)) (vf (hlsC M m b)) .non) (g₁:=()) ?_ ?_
  · apply Run1.asg (F:=σ.fx (fScope 61) ks61 ok61) (i:=11) (v:=.flt (hlsC M m b))
    · exact fun W=>.bin (.bin (.nm (Fx.var (i:=3) rfl rfl)) (.nm (Fx.var (i:=2) rfl rfl)) rfl) (.nm (Fx.var (i:=6) rfl rfl)) (divV z1)
    · rfl
    · rfl
  refine Rets.cons (ρ₁:=st61 r g b (vf M) (vf m) (vf (Float64.add M m)) (vf (Float64.sub M m)) (vf (hlsL M m)) (vf (hlsS M m)) (vf (hlsC M m r)) (vf (hlsC M m g)) (vf (hlsC M m b)) (vf (hlsH0 r g b M m))) (g₁:=()) ?_ ?_
  · apply Run1.iff (F:=σ.fx (fScope 61) ks61 ok61) (x:=Float64.cmp r M == some Ordering.eq)
    · exact fun W=>.cmp (.nm (Fx.var (i:=0) rfl rfl)) (.nm (Fx.var (i:=3) rfl rfl)) rfl
    · intro h5
      refine .cons (ρ₁:=st61 r g b (vf M) (vf m) (vf (Float64.add M m)) (vf (Float64.sub M m)) (vf (hlsL M m)) (vf (hlsS M m)) (vf (hlsC M m r)) (vf (hlsC M m g)) (vf (hlsC M m b)) (vf (hlsH0 r g b M m))) (g₁:=()) ?_ .nil
      rw [show hlsH0 r g b M m=Float64.sub (hlsC M m b) (hlsC M m g) from if_pos h5]
      apply Run1.asg (F:=σ.fx (fScope 61) ks61 ok61) (i:=12)
      · exact fun W=>.bin (.nm (Fx.var (i:=11) rfl rfl)) (.nm (Fx.var (i:=10) rfl rfl)) rfl
      · rfl
      · rfl
    · intro h5
      have h5':¬ (Float64.cmp r M == some Ordering.eq)=true:=by rw [h5]; decide
      refine .cons (ρ₁:=st61 r g b (vf M) (vf m) (vf (Float64.add M m)) (vf (Float64.sub M m)) (vf (hlsL M m)) (vf (hlsS M m)) (vf (hlsC M m r)) (vf (hlsC M m g)) (vf (hlsC M m b)) (vf (hlsH0 r g b M m))) (g₁:=()) ?_ .nil
      apply Run1.iff (F:=σ.fx (fScope 61) ks61 ok61) (x:=Float64.cmp g M == some Ordering.eq)
      · exact fun W=>.cmp (.nm (Fx.var (i:=1) rfl rfl)) (.nm (Fx.var (i:=3) rfl rfl)) rfl
      · intro h7
        refine .cons (ρ₁:=st61 r g b (vf M) (vf m) (vf (Float64.add M m)) (vf (Float64.sub M m)) (vf (hlsL M m)) (vf (hlsS M m)) (vf (hlsC M m r)) (vf (hlsC M m g)) (vf (hlsC M m b)) (vf (hlsH0 r g b M m))) (g₁:=()) ?_ .nil
        rw [show hlsH0 r g b M m=Float64.sub (Float64.add 0x4000000000000000 (hlsC M m r)) (hlsC M m b) from (if_neg h5').trans (if_pos h7)]
        apply Run1.asg (F:=σ.fx (fScope 61) ks61 ok61) (i:=12)
        · exact fun W=>.bin (.bin .flt (.nm (Fx.var (i:=9) rfl rfl)) rfl) (.nm (Fx.var (i:=11) rfl rfl)) rfl
        · rfl
        · rfl
      · intro h7
        refine .cons (ρ₁:=st61 r g b (vf M) (vf m) (vf (Float64.add M m)) (vf (Float64.sub M m)) (vf (hlsL M m)) (vf (hlsS M m)) (vf (hlsC M m r)) (vf (hlsC M m g)) (vf (hlsC M m b)) (vf (hlsH0 r g b M m))) (g₁:=()) ?_ .nil
        rw [show hlsH0 r g b M m=Float64.sub (Float64.add 0x4010000000000000 (hlsC M m g)) (hlsC M m r) from (if_neg h5').trans (if_neg (by rw [h7]; decide))]
        apply Run1.asg (F:=σ.fx (fScope 61) ks61 ok61) (i:=12)
        · exact fun W=>.bin (.bin .flt (.nm (Fx.var (i:=10) rfl rfl)) rfl) (.nm (Fx.var (i:=9) rfl rfl)) rfl
        · rfl
        · rfl
  refine Rets.cons (ρ₁:=st61 r g b (vf M) (vf m) (vf (Float64.add M m)) (vf (Float64.sub M m)) (vf (hlsL M m)) (vf (hlsS M m)) (vf (hlsC M m r)) (vf (hlsC M m g)) (vf (hlsC M m b)) (vf (hlsH r g b M m))) (g₁:=()) ?_ ?_
  · apply Run1.asg (F:=σ.fx (fScope 61) ks61 ok61) (i:=12) (v:=.flt (hlsH r g b M m))
    · exact fun W=>.bin (.bin (.nm (Fx.var (i:=12) rfl rfl)) .flt (divV h6)) .flt (modV h1)
    · rfl
    · rfl
  exact Rets.ret (fun W=>.tup (.cons (.nm (Fx.var (i:=12) rfl rfl)) (.cons (.nm (Fx.var (i:=7) rfl rfl)) (.cons (.nm (Fx.var (i:=8) rfl rfl)) .nil)))) (fun _ q=>q) fun _=>trivial
section
variable {F:Fx} {ρ:List Slot} {g g₁ g':F.Γ}
end
theorem Fx.varF {F:Fx} {ρ:List Slot} {g:F.Γ} {W:Addr→Prop} {y:Str} {v:V} {c:Addr} {r:Value} (hk:F.env.kindOf y=some .free) (hc:F.env.cells.lookup y=some c) (hcell:F.S0.heap.IsCell c (some r)) (hv:VRel F.μ F.S0.heap v r)
    (hn:(y == ("__classdict__":Str))=false:=by decide):(F.cx ρ g W).Var y v:=fun s ⟨_,_,_,x⟩ =>
  ⟨r,.inr ⟨.inr ⟨hk,hn⟩,c,hc,hcell.keeps x.ic.toInCall.keep⟩,VRel.keeps x.ic.toInCall.keep _ _ hv⟩
theorem enterC {prog:Program} {w:World} {A:Around} {s:Shared} {R:Result→Shared→Prop} {a:Addr} {o:Obj} {fd:FuncData} {body:List Stmt} {vals:List Value} {binds:List (Str × Value)} {env:Env} (ht:1≤s.toks)
    (henv:env=newEnv fd.scope s.heap.objs.size fd.globals fd.closure (fd.qualname++".<locals>.") (some a) fd.code none fd.builtins)
    (hroom:A.depth < recursionLimit) (ho:s.heap.get? a=some o) (hdata:o.data=.func fd) (hlim:s.heap.NoLimit) (hcd:s.heap.CodeRec fd.code fd.qualname)
    (hbody:fd.body=.stmts body) (hbind:bindArgs fd ⟨vals,[]⟩=pure binds) (hcell:∀ x∈fd.scope.names,x.2≠.cell) (hloc:∀ x∈binds,fd.scope.names.lookup x.1=some .local)
    (h:∀ s₁,1≤s₁.toks→s.heap.objs.size≤s₁.heap.objs.size→InCallC s s.heap.objs.size (fun x=>binds.reverse.lookup x) [] (fun _=>none) s₁ →
      wpAny (model prog w) (A.deeper env) (execs body env) (fun f s'=>R (.ok (.ret (match f with | .ret v=>v | _=>.none))) s')
        (fun e s'=>wpAny (model prog w) (A.deeper env) (leaving env e) (fun _ s''=>R (.error e) s'') (fun e' s''=>R (.error e') s'') s') s₁)
    (hco:fd.scope.isCoroutine=false) (hgen:fd.scope.isGenerator=false) (hk:fd.scope.kind=.function) :
    codeAny (model prog w) A (.call (.ref a) ⟨vals,[]⟩) R s:=by
  refine codeAny_call_function hroom ho hdata hco hgen hbody hcd ?_
  rw [hbind]
  refine wpAny_pure (wpAny_grow (Q:=fun e s'=>e=env∧InCallC s s.heap.objs.size (fun x=>binds.reverse.lookup x) [] (fun _=>none) s') ht (wpAny_newFunctionEnv hcell hloc (fun h₀ hn hs=>?_) hk) fun e s' ht' hz q=>?_)
  · refine ⟨henv.symm,⟨⟨⟨h₀,_,rfl⟩,hn,fun b o e=>?_,Nat.le_refl _⟩,fun n c hc=>by simp at hc,.nil,fun n c hc=>by simp at hc⟩⟩
    exact hs.extBut b o (Nat.ne_of_lt (Heap.lt_size e)) (Heap.get?_push_of_some _ e)
  · have hx23_0:=q.1
    have x:=q.2
    try clear q
    subst hx23_0
    exact ⟨hlim.keeps x.toInCall.keep,codeAny_func (h s' ht' hz x)⟩
structure Gw (D:Wd) where
  Γ:Type
  G:Γ→Heap→Prop
  l:List Addr
  Gok:∀ g h h',G g h→(∀ b o,b∈l∨codish o→h.get? b=some o→h'.get? b=some o)→G g h'
  live:∀ g h,G g h→∀ b∈l,∃ o,h.get? b=some o
  hid:∀ b o,D.h0.get? b=some o→b ∉ l
noncomputable def Gw.none (D:Wd):Gw D:=⟨Unit,fun _ _=>True,[],fun _ _ _ _ _=>trivial,fun _ _ _ _ h=>(nomatch h),fun _ _ _ h=>(nomatch h)⟩
noncomputable def Site.fxg {D:Wd} {k:Nat} (σ:Site D k) (sc:Scope) (ks:List Str) (h:ScOk sc ks) (X:Gw D):Fx :=
  { σ.fx sc ks h with
    Γ:=X.Γ
    G:=X.G
    Wg:=fun b=>b∈X.l
    S0:={ σ.S0 with heap:=hideAll σ.S0.heap X.l }
    gS:=fun _ q=>hideAll_none _ q
    glob:=fun s hs=>D.glob σ.A (σ.env sc) s rfl rfl fun b o e=>hs b o (hideAll_get _ (σ.hS b o e) (X.hid b o e))
    Gok:=X.Gok }
structure ScOkC (sc:Scope) (ks:List Str):Prop where
  nodup:ks.Nodup
  kinds:∀ x∈ks,sc.names.lookup x=some .local
  nocell:∀ x∈sc.names,x.2≠.cell
  hk:sc.kind=.function
noncomputable def Site.envC {D:Wd} {k:Nat} (σ:Site D k) (sc:Scope) (cl:List (Str × Addr)):Env:=newEnv sc σ.L mainGlobals cl σ.qual (some σ.a) σ.code none builtinsNs
noncomputable def Site.fxc {D:Wd} {k:Nat} (σ:Site D k) (sc:Scope) (ks:List Str) (h:ScOkC sc ks) (cl:List (Str × Addr)) (X:Gw D):Fx where
  prog:=D.prog
  w:=D.w
  A:=σ.A
  μ:=σ.μ
  env:=σ.envC sc cl
  gl:=D.gl
  S0:={ σ.S0 with heap:=hideAll σ.S0.heap X.l }
  gS:=fun _ q=>hideAll_none _ q
  ks:=ks
  Γ:=X.Γ
  G:=X.G
  Wg:=fun b=>b∈X.l
  own:=[]
  hown:=fun n e=>absurd rfl (h.nocell _ (mem_of_lookup e))
  nodup:=h.nodup
  kinds:=fun x hx=>.inl (h.kinds x hx)
  Gok:=X.Gok
  hh:=σ.hA.hh
  hu:=by have:=σ.hA.hu; omega
  hk:=h.hk
  glob:=fun s hs=>D.glob σ.A (σ.envC sc cl) s rfl rfl fun b o e=>hs b o (hideAll_get _ (σ.hS b o e) (X.hid b o e))
structure Mg (l:List Addr) (s s':Shared):Prop where
  same:∃ h tk,s'={ s with heap:=h,toks:=tk }
  tk:1≤s'.toks
  size:s.heap.objs.size≤s'.heap.objs.size
  kept:∀ b o,b ∉ l→s.heap.get? b=some o→s'.heap.get? b=some o
theorem Mg.k1 {s s':Shared} (x:Mg [] s s'):K1 s s':=⟨let ⟨h,tk,e⟩:=x.same; ⟨h,tk,e,fun b o q=>by subst e; exact x.kept b o (fun q=>nomatch q) q⟩,x.tk,x.size⟩
theorem K1.mg {s s':Shared} {l:List Addr} (k:K1 s s'):Mg l s s':=⟨let ⟨h,tk,e,_⟩:=k.1; ⟨h,tk,e⟩,k.2.1,k.2.2,fun b o _ e=>kGet k.1 b o e⟩
theorem Mg.trans {s s' s'':Shared} {l:List Addr} (x:Mg l s s') (y:Mg l s' s''):Mg l s s'' :=
  ⟨let ⟨_,_,e⟩:=x.same; let ⟨h',t',e'⟩:=y.same; ⟨h',t',by rw [e',e]⟩,y.tk,Nat.le_trans x.size y.size,fun b o hb e=>y.kept b o hb (x.kept b o hb e)⟩
theorem Mg.sub {s s':Shared} {l l':List Addr} (x:Mg l s s') (h:∀ b,b∈l→b∈l'):Mg l' s s':=⟨x.same,x.tk,x.size,fun b o hb e=>x.kept b o (fun q=>hb (h b q)) e⟩
theorem enter_fr {F:Fx} {vs:List V} {rs:List Value} {n:Nat} {m cm:Str→Option Value} {s₁:Shared} {g:F.Γ} (ic:InCallC F.S0 F.env.locals m F.own cm s₁) (ht:1≤s₁.toks) (hg:F.G g s₁.heap)
    (hW:∀ b,F.Wg b→¬ F.W0 b∧∃ o,s₁.heap.get? b=some o) (hlen:rs.length=vs.length) (hat:∀ (i:Nat) x r,F.ks[i]?=some x→rs[i]?=some r→At F.env m cm x r)
    (hVX:∀ (i:Nat) v r,vs[i]?=some v→rs[i]?=some r→VX (fun b=>F.W0 b∨F.Wg b) F.μ s₁.heap v r):Fr1 F (vs.map .val++List.replicate n .non) g (fun b=>F.W0 b∨F.Wg b) s₁:=by
  have noOwn:∀ (i:Nat) us,(vs.map Slot.val++List.replicate n Slot.non)[i]?=some (.own us)→False:=by
    intro i us h
    have:=List.mem_of_getElem? h
    simp at this
  refine ⟨m,cm,fun _=>0,ic,ht,.inl (.inl rfl),fun n c hc=>.inl (.inr ⟨n,hc⟩),fun b hb=>?_,fun b hb=>⟨.inr hb,fun q=>(hW b hb).1 (.inl q),fun n c hc q=>(hW b hb).1 (.inr ⟨n,q ▸ hc⟩)⟩,hg,fun i x sl hx hsl=>?_,fun i j x y vs' us _ _ hi _ _=>(noOwn i vs' hi).elim⟩
  · rcases hb with (rfl | ⟨n',hc⟩) | q
    · obtain ⟨o,es,ep,e,_⟩:=ic.toInCall.ns; exact ⟨o,e⟩
    · obtain ⟨o,e,_⟩:=ic.cell n' b hc; exact ⟨o,e⟩
    · exact (hW b q).2
  · by_cases hi:i < vs.length
    · rw [List.getElem?_append_left (by simpa using hi),List.getElem?_map] at hsl
      obtain ⟨v,hy81_1⟩:=Option.map_eq_some_iff.mp hsl
      have hv:=hy81_1.1
      have hx81_0:=hy81_1.2
      clear hy81_1
      subst hx81_0
      have hr:rs[i]?=some (rs[i]'(by omega)):=List.getElem?_eq_getElem _
      exact ⟨_,hat i x _ hx hr,hVX i v _ hv hr⟩
    · rw [List.getElem?_append_right (by simpa using hi)] at hsl
      have:=List.mem_of_getElem? hsl
      rw [List.mem_replicate] at this
      rw [this.2]
      trivial
theorem VXs.get {W:Addr→Prop} {μ:Addr} {h:Heap} {vs:List V} {rs:List Value} (x:VXs W μ h vs rs) {i:Nat} {v:V} {r:Value} (hv:vs[i]?=some v) (hr:rs[i]?=some r):VX W μ h v r:=fun h' k=>by
  obtain ⟨r',hy91_1⟩:=(x h' k).get hv
  have e:=hy91_1.1
  have q:=hy91_1.2
  clear hy91_1
  rw [hr] at e; cases e; exact q
theorem inCallC_hidden {s s₁:Shared} {L:Addr} {m cm:Str→Option Value} {cl:List (Str × Addr)} (l:List Addr) (ic:InCallC s L m cl cm s₁):InCallC { s with heap:=hideAll s.heap l } L m cl cm s₁:=by
  obtain ⟨⟨⟨h,t,e⟩,ns,keep,fresh⟩,cell,ap,ab⟩:=ic
  exact ⟨⟨⟨h,t,by rw [e]⟩,ns,fun b o e=>keep b o (of_hideAll _ e),by rw [show (hideAll s.heap l).objs.size=s.heap.objs.size from hideAll_size _ _]; exact fresh⟩,cell,ap,ab⟩
theorem ret_out {F:Fx} {v:V} {R:Heap→Prop} {s s₁ s':Shared} {r:Value} {l:List Addr} (hWg:∀ b,F.Wg b ↔ b∈l) (h0:∀ b,F.W0 b→s.heap.objs.size≤b) (hz:s.heap.objs.size≤s₁.heap.objs.size) (hk:∀ b o,s.heap.get? b=some o→s₁.heap.get? b=some o) (hsame:∃ h tk,s₁={ s with heap:=h,toks:=tk })
    (z:RetOk F v R (fun b=>F.W0 b∨F.Wg b) s₁ r s'):VX (fun b=>b∈l) F.μ s'.heap v r∧R s'.heap∧Mg l s s':=by
  refine ⟨fun h' k=>z.val h' fun b o hs hb e=>k b o hs (fun q=>hb ((hWg b).mpr q)) e,z.left,⟨?_,z.tk,Nat.le_trans hz z.size,fun b o hb e=>z.kept b o (fun q=>?_) (hk b o e)⟩⟩
  · obtain ⟨_,_,e⟩:=hsame; obtain ⟨h',tk',e'⟩:=z.same; exact ⟨h',tk',by rw [e',e]⟩
  · rcases q with q | q
    · exact Nat.lt_irrefl _ (Nat.lt_of_lt_of_le (Heap.lt_size e) (h0 b q))
    · exact hb ((hWg b).mp q)
noncomputable def Ends (F:Fx) (ss:List Stmt) (ρ:List Slot) (g:F.Γ) (v:V) (R:Heap→Prop):Prop:=∀ (W:Addr→Prop) (s:Shared) (E:Value→Shared→Prop),Fr1 F ρ g W s →
  wpAny F.M F.A (execs ss F.env) (fun f s'=>RetOk F v R W s (match f with | .ret r=>r | _=>.none) s') E s
theorem Rets.ends {F:Fx} {ss:List Stmt} {ρ:List Slot} {g:F.Γ} {v:V} {R:Heap→Prop} (h:Rets F ss ρ g v R):Ends F ss ρ g v R:=fun W s E fr=>wpAny_mono (h W s E fr) (fun f s' q=>by obtain ⟨r,rfl,z⟩:=q; exact z) fun _ _ q=>q
theorem Ends.cons {F:Fx} {st:Stmt} {ss:List Stmt} {ρ ρ₁:List Slot} {g g₁:F.Γ} {v:V} {R:Heap→Prop} (h:Run1 F st ρ g ρ₁ g₁) (hs:Ends F ss ρ₁ g₁ v R):Ends F (st :: ss) ρ g v R:=fun W s E fr =>
  wpAny_execs_cons (wpAny_mono (h W s E fr) (fun f s₁ x=>by
    have hx112_0:=x.1
    have hw112_1:=x.2
    try clear x
    subst hx112_0
    obtain ⟨W₁,hy112_1⟩:=hw112_1
    have fr₁:=hy112_1.1
    have mv:=hy112_1.2
    clear hy112_1
    exact wpAny_mono (hs W₁ s₁ E fr₁) (fun f s₂ y=>y.after (fr.same fr₁) mv) fun _ _ y=>y) fun _ _ y=>y)
theorem Ends.nil {F:Fx} {ρ:List Slot} {g:F.Γ}:Ends F [] ρ g .none (F.G g):=fun W s E ⟨_,_,_,fr⟩=>wpAny_execs_nil ⟨fun _ _=>by unfold VRel; rfl,⟨_,_,rfl⟩,fr.tk,Nat.le_refl _,fun _ _ _ e=>e,fr.gh⟩
theorem Wd.codeE0 (D:Wd) (X:Gw D) {k:Nat} {A:Around} (hA:AOk (k+1) A) {a:Addr} {o:Obj} {fd:FuncData} {body:List Stmt} {ks:List Str} {vs:List V} {μ:Addr} {g:X.Γ} {K:Heap→Prop} {Post:Value→Shared→Prop} (n:Nat) {s:Shared}
    (ho:s.heap.get? a=some o) (hd:o.data=.func fd) (hcd:s.heap.CodeRec fd.code fd.qualname) (hbody:fd.body=.stmts body) (hgl:fd.globals=mainGlobals) (hbl:fd.builtins=builtinsNs) (hclo:fd.closure=[])
    (sok:ScOk fd.scope ks) (hlen:vs.length≤ks.length) (hbind:∀ rs:List Value,rs.length=vs.length→bindArgs fd ⟨rs,[]⟩=pure ((ks.take vs.length).zip rs))
    (walk:∀ σ:Site D k,K (hideAll σ.S0.heap X.l)→σ.μ=μ→σ.code=fd.code→σ.qual=fd.qualname++".<locals>."→σ.S0=s→∀ (s₁:Shared) (E:Value→Shared→Prop),(∀ b,(σ.fxg fd.scope ks sok X).W0 b→s.heap.objs.size≤b)→s.heap.objs.size≤s₁.heap.objs.size→(∀ b o,s.heap.get? b=some o→s₁.heap.get? b=some o)→(∃ h tk,s₁={ s with heap:=h,toks:=tk })→s.toks≤s₁.toks →
      Fr1 (σ.fxg fd.scope ks sok X) (vs.map .val++List.replicate n .non) g (fun b=>(σ.fxg fd.scope ks sok X).W0 b∨(σ.fxg fd.scope ks sok X).Wg b) (up s₁)→wpAny (σ.fxg fd.scope ks sok X).M (σ.fxg fd.scope ks sok X).A (execs body (σ.fxg fd.scope ks sok X).env) (fun f s'=>Post (match f with | .ret r=>r | _=>.none) s') E s₁)
    (hco:fd.scope.isCoroutine=false) (hgen:fd.scope.isGenerator=false)
    (rs:List Value) (hs:Ext D.h0 s.heap) (hg:X.G g s.heap) (hK:K (hideAll s.heap X.l)) (hrs:VXs (fun b=>b∈X.l) μ s.heap vs rs) :
    codeAny (model D.prog D.w) A (.call (.ref a) ⟨rs,[]⟩) (fun x s'=>∃ r,x=.ok (.ret r)∧Post r s') s:=by
  have hrl:=hrs.rel.length
  have hmem:∀ x∈(ks.take vs.length).zip rs,x.1∈ks:=fun x hx=>List.mem_of_mem_take ((List.of_mem_zip hx).1)
  refine enter0 (by have:=hA.hd; omega) ho hd (D.lim.keeps hs) hcd hbody (hbind rs hrl) hclo (fun x hx=>(sok.kinds x.1 (hmem x hx)).imp id fun e=>⟨e,cells_have _ _ _ _ (.inl e)⟩) (fun s₁ ht₁ hz₁ ic=>?_) hco hgen sok.hk
  have henv:callEnvC fd s.heap.objs.size a=(⟨A.deeper (callEnvC fd s.heap.objs.size a),μ,s.heap.objs.size,a,fd.qualname++".<locals>.",fd.code,s,hA.deeper,hs⟩:Site D k).env fd.scope:=by unfold callEnvC Site.env; rw [hgl,hbl]
  generalize hσ:(⟨A.deeper (callEnvC fd s.heap.objs.size a),μ,s.heap.objs.size,a,fd.qualname++".<locals>.",fd.code,s,hA.deeper,hs⟩:Site D k)=σ at henv
  have eA:A.deeper (callEnvC fd s.heap.objs.size a)=σ.A:=by rw [← hσ]
  rw [henv] at ic
  rw [eA,henv]
  have eL:σ.L=s.heap.objs.size:=by rw [← hσ]
  have eμ:σ.μ=μ:=by rw [← hσ]
  have eS:σ.S0=s:=by rw [← hσ]
  have eF:(σ.fxg fd.scope ks sok X).S0={ s with heap:=hideAll s.heap X.l }:=by rw [← eS]; rfl
  have h0:∀ b,(σ.fxg fd.scope ks sok X).W0 b→s.heap.objs.size≤b:=by
    rintro b (rfl | ⟨n',hc⟩)
    · exact Nat.le_of_eq eL.symm
    · exact Nat.le_trans (Nat.le_of_eq eL.symm) (Nat.le_of_lt (ic.above n' b (mem_of_lookup hc)))
  have hkeep:=ic.toInCall.keep
  have hsame:=ic.toInCall.same
  have hzip:((ks.take vs.length).zip rs).map Prod.fst=ks.take vs.length:=List.map_fst_zip (by rw [List.length_take]; omega)
  have hnd:(((ks.take vs.length).zip rs).map Prod.fst).Nodup:=by rw [hzip]; exact sok.nodup.sublist (List.take_sublist _ _)
  have fr:=enter_fr (s₁:=up s₁) (F:=σ.fxg fd.scope ks sok X) (vs:=vs) (rs:=rs) (n:=n) (g:=g) (m:=bindL (σ.env fd.scope).kindOf ((ks.take vs.length).zip rs) fun _=>none) (cm:=bindC (σ.env fd.scope).kindOf ((ks.take vs.length).zip rs) fun _=>none) (by rw [eF]; exact inCallC_hidden X.l (ic.tok _)) (Nat.le_add_left _ _) (X.Gok _ _ _ hg fun b o _ e=>hkeep b o e)
    (fun b hb=>⟨fun q=>let ⟨o,e⟩:=X.live g _ hg b hb; Nat.lt_irrefl _ (Nat.lt_of_lt_of_le (Heap.lt_size e) (h0 b q)),let ⟨o,e⟩:=X.live g _ hg b hb; ⟨o,hkeep b o e⟩⟩) hrl (fun i x r hx hr=>by
      have hi:i < vs.length:=by have:=(List.getElem?_eq_some_iff.mp hr).1; omega
      have hm:(x,r)∈(ks.take vs.length).zip rs:=List.mem_of_getElem? (i:=i) (by
        rw [List.getElem?_zip_eq_some]
        exact ⟨by rw [List.getElem?_take_of_lt hi]; exact hx,hr⟩)
      rcases sok.kinds x (List.mem_of_getElem? hx) with hl | hl
      · exact .inl ⟨hl,bindL_mem _ _ x r hnd hm hl⟩
      · exact .inr ⟨hl,cells_have _ _ _ _ (.inl hl),bindC_mem _ _ x r hnd hm (fun q=>by have q':fd.scope.names.lookup x=some .local:=q; rw [hl] at q'; cases q')⟩) fun i v r hv hr=>by
      have q:=hrs.get hv hr
      intro h' k'
      show VRel σ.μ h' v r
      rw [eμ]
      exact q h' fun b o hq hb e=>k' b o hq (fun z=>z.elim (fun z=>Nat.lt_irrefl _ (Nat.lt_of_lt_of_le (Heap.lt_size e) (h0 b z))) fun z=>hb z) (hkeep b o e)
  exact wpAny_mono (walk σ (by rw [eS]; exact hK) eμ (by rw [← hσ]) (by rw [← hσ]) eS s₁ _ h0 hz₁ hkeep hsame ht₁ fr) (fun f s' q=>⟨_,rfl,q⟩) fun _ _ q=>q
theorem Wd.codeE (D:Wd) (X:Gw D) {k:Nat} {A:Around} (hA:AOk (k+1) A) {a:Addr} {o:Obj} {fd:FuncData} {body:List Stmt} {ks:List Str} {vs:List V} {μ:Addr} {g:X.Γ} {K:Heap→Prop} {Post:Value→Shared→Prop} (n:Nat) {s:Shared}
    (ho:s.heap.get? a=some o) (hd:o.data=.func fd) (hcd:s.heap.CodeRec fd.code fd.qualname) (hbody:fd.body=.stmts body) (hgl:fd.globals=mainGlobals) (hbl:fd.builtins=builtinsNs) (hclo:fd.closure=[])
    (sok:ScOk fd.scope ks) (hlen:vs.length≤ks.length) (hbind:∀ rs:List Value,rs.length=vs.length→bindArgs fd ⟨rs,[]⟩=pure ((ks.take vs.length).zip rs))
    (walk:∀ σ:Site D k,K (hideAll σ.S0.heap X.l)→σ.μ=μ→σ.code=fd.code→σ.qual=fd.qualname++".<locals>."→σ.S0=s→∀ (s₁:Shared) (E:Value→Shared→Prop),(∀ b,(σ.fxg fd.scope ks sok X).W0 b→s.heap.objs.size≤b)→s.heap.objs.size≤s₁.heap.objs.size→(∀ b o,s.heap.get? b=some o→s₁.heap.get? b=some o)→(∃ h tk,s₁={ s with heap:=h,toks:=tk }) →
      Fr1 (σ.fxg fd.scope ks sok X) (vs.map .val++List.replicate n .non) g (fun b=>(σ.fxg fd.scope ks sok X).W0 b∨(σ.fxg fd.scope ks sok X).Wg b) s₁→wpAny (σ.fxg fd.scope ks sok X).M (σ.fxg fd.scope ks sok X).A (execs body (σ.fxg fd.scope ks sok X).env) (fun f s'=>Post (match f with | .ret r=>r | _=>.none) s') E s₁)
    (hco:fd.scope.isCoroutine=false) (hgen:fd.scope.isGenerator=false)
    (rs:List Value) (hs:Ext D.h0 s.heap) (ht:1≤s.toks) (hg:X.G g s.heap) (hK:K (hideAll s.heap X.l)) (hrs:VXs (fun b=>b∈X.l) μ s.heap vs rs) :
    codeAny (model D.prog D.w) A (.call (.ref a) ⟨rs,[]⟩) (fun x s'=>∃ r,x=.ok (.ret r)∧Post r s') s :=
  D.codeE0 X hA (K:=K) n ho hd hcd hbody hgl hbl hclo sok hlen hbind (fun σ e0 e1 e2 e3 e4 s₁ E h0 hz hk hs t fr=>walk σ e0 e1 e2 e3 e4 s₁ E h0 hz hk hs (fr.down (Nat.le_trans ht t))) hco hgen rs hs hg hK hrs
theorem Wd.codeM (D:Wd) (X:Gw D) {k:Nat} {A:Around} (hA:AOk (k+1) A) {a:Addr} {o:Obj} {fd:FuncData} {body:List Stmt} {ks:List Str} {vs:List V} {v:V} {μ:Addr} {g g':X.Γ} {K:Heap→Prop} (n:Nat) {s:Shared}
    (ho:s.heap.get? a=some o) (hd:o.data=.func fd) (hcd:s.heap.CodeRec fd.code fd.qualname) (hbody:fd.body=.stmts body) (hgl:fd.globals=mainGlobals) (hbl:fd.builtins=builtinsNs) (hclo:fd.closure=[])
    (sok:ScOk fd.scope ks) (hlen:vs.length≤ks.length) (hbind:∀ rs:List Value,rs.length=vs.length→bindArgs fd ⟨rs,[]⟩=pure ((ks.take vs.length).zip rs))
    (walk:∀ σ:Site D k,K (hideAll σ.S0.heap X.l)→σ.μ=μ→σ.code=fd.code→σ.qual=fd.qualname++".<locals>."→Ends (σ.fxg fd.scope ks sok X) body (vs.map .val++List.replicate n .non) g v (X.G g'))
    (hco:fd.scope.isCoroutine=false) (hgen:fd.scope.isGenerator=false)
    (rs:List Value) (hs:Ext D.h0 s.heap) (ht:1≤s.toks) (hg:X.G g s.heap) (hK:K (hideAll s.heap X.l)) (hrs:VXs (fun b=>b∈X.l) μ s.heap vs rs) :
    codeAny (model D.prog D.w) A (.call (.ref a) ⟨rs,[]⟩) (fun x s'=>∃ r,x=.ok (.ret r)∧VX (fun b=>b∈X.l) μ s'.heap v r∧X.G g' s'.heap∧Mg X.l s s') s :=
  D.codeE X hA (K:=K) n ho hd hcd hbody hgl hbl hclo sok hlen hbind (fun σ e0 e1 e2 e3 _ s₁ E h0 hz₁ hkeep hsame fr=>wpAny_mono (walk σ e0 e1 e2 e3 _ s₁ E fr) (fun f s' q=>by
    have:=ret_out (F:=σ.fxg fd.scope ks sok X) (l:=X.l) (fun b=>Iff.rfl) h0 hz₁ hkeep hsame q
    rw [show (σ.fxg fd.scope ks sok X).μ=μ from e1] at this
    exact this) fun _ _ q=>q) hco hgen rs hs ht hg hK hrs
theorem Wd.callM (D:Wd) (X:Gw D) {k:Nat} {A:Around} (hA:AOk (k+1) A) {a:Addr} {o:Obj} {fd:FuncData} {body:List Stmt} {ks:List Str} {vs:List V} {v:V} {μ:Addr} {g g':X.Γ} {K:Heap→Prop} (n:Nat) {s:Shared}
    (ho:s.heap.get? a=some o) (hd:o.data=.func fd) (hcd:s.heap.CodeRec fd.code fd.qualname) (hbody:fd.body=.stmts body) (hgl:fd.globals=mainGlobals) (hbl:fd.builtins=builtinsNs) (hclo:fd.closure=[])
    (sok:ScOk fd.scope ks) (hlen:vs.length≤ks.length) (hbind:∀ rs:List Value,rs.length=vs.length→bindArgs fd ⟨rs,[]⟩=pure ((ks.take vs.length).zip rs))
    (walk:∀ σ:Site D k,K (hideAll σ.S0.heap X.l)→σ.μ=μ→σ.code=fd.code→σ.qual=fd.qualname++".<locals>."→Ends (σ.fxg fd.scope ks sok X) body (vs.map .val++List.replicate n .non) g v (X.G g'))
    (hco:fd.scope.isCoroutine=false) (hgen:fd.scope.isGenerator=false)
    (E:Value→Shared→Prop) (rs:List Value) (hs:Ext D.h0 s.heap) (ht:1≤s.toks) (hg:X.G g s.heap) (hK:K (hideAll s.heap X.l)) (hrs:VXs (fun b=>b∈X.l) μ s.heap vs rs) :
    wpAny (model D.prog D.w) A (PySem.call (.ref a) rs) (fun r s'=>VX (fun b=>b∈X.l) μ s'.heap v r∧X.G g' s'.heap∧Mg X.l s s') E s :=
  wpAny_call (codeAny_mono (D.codeM X hA n ho hd hcd hbody hgl hbl hclo sok hlen hbind walk hco hgen rs hs ht hg hK hrs) fun x s' q=>by obtain ⟨r,rfl,z⟩:=q; exact z)
theorem lookup_of {α:Type}:∀ {l:List (Str × α)} {x:Str} {r:α},(l.map Prod.fst).Nodup→(x,r)∈l→l.lookup x=some r
  | [],_,_,_,h=>(nomatch h)
  | (y,v) :: t,x,r,hn,h=>by
    simp only [List.map_cons,List.nodup_cons] at hn
    rw [List.lookup_cons]
    rcases List.mem_cons.mp h with e | h2
    · cases e; simp
    · have:(x == y)=false:=by
        rw [beq_eq_false_iff_ne]
        rintro rfl
        exact hn.1 (List.mem_map.mpr ⟨(x,r),h2,rfl⟩)
      rw [this]
      exact lookup_of hn.2 h2
theorem Wd.callC (D:Wd) (X:Gw D) {k:Nat} {A:Around} (hA:AOk (k+1) A) {a:Addr} {o:Obj} {fd:FuncData} {body:List Stmt} {ks:List Str} {vs:List V} {v:V} {μ:Addr} {g g':X.Γ} {K:Heap→Prop} (n:Nat) {s:Shared}
    (ho:s.heap.get? a=some o) (hd:o.data=.func fd) (hcd:s.heap.CodeRec fd.code fd.qualname) (hbody:fd.body=.stmts body) (hgl:fd.globals=mainGlobals) (hbl:fd.builtins=builtinsNs)
    (sok:ScOkC fd.scope ks) (hlen:vs.length≤ks.length) (hbind:∀ rs:List Value,rs.length=vs.length→bindArgs fd ⟨rs,[]⟩=pure ((ks.take vs.length).zip rs))
    (walk:∀ σ:Site D k,K (hideAll σ.S0.heap X.l)→σ.μ=μ→Ends (σ.fxc fd.scope ks sok fd.closure X) body (vs.map .val++List.replicate n .non) g v (X.G g'))
    (hco:fd.scope.isCoroutine=false) (hgen:fd.scope.isGenerator=false)
    (E:Value→Shared→Prop) (rs:List Value) (hs:Ext D.h0 s.heap) (ht:1≤s.toks) (hg:X.G g s.heap) (hK:K (hideAll s.heap X.l)) (hrs:VXs (fun b=>b∈X.l) μ s.heap vs rs) :
    wpAny (model D.prog D.w) A (PySem.call (.ref a) rs) (fun r s'=>VX (fun b=>b∈X.l) μ s'.heap v r∧X.G g' s'.heap∧Mg X.l s s') E s:=by
  have hrl:=hrs.rel.length
  have hmem:∀ x∈(ks.take vs.length).zip rs,x.1∈ks:=fun x hx=>List.mem_of_mem_take ((List.of_mem_zip hx).1)
  refine wpAny_call (enterC (env:=newEnv fd.scope s.heap.objs.size fd.globals fd.closure (fd.qualname++".<locals>.") (some a) fd.code none fd.builtins) ht rfl (by have:=hA.hd; omega) ho hd (D.lim.keeps hs) hcd hbody (hbind rs hrl) sok.nocell (fun x hx=>sok.kinds x.1 (hmem x hx)) (fun s₁ ht₁ hz₁ ic=>?_) hco hgen sok.hk)
  generalize hσ:(⟨A.deeper (newEnv fd.scope s.heap.objs.size fd.globals fd.closure (fd.qualname++".<locals>.") (some a) fd.code none fd.builtins),μ,s.heap.objs.size,a,fd.qualname++".<locals>.",fd.code,s,hA.deeper,hs⟩:Site D k)=σ
  have henv:newEnv fd.scope s.heap.objs.size fd.globals fd.closure (fd.qualname++".<locals>.") (some a) fd.code none fd.builtins=σ.envC fd.scope fd.closure:=by rw [← hσ]; unfold Site.envC; rw [hgl,hbl]
  have eA:A.deeper (newEnv fd.scope s.heap.objs.size fd.globals fd.closure (fd.qualname++".<locals>.") (some a) fd.code none fd.builtins)=σ.A:=by rw [← hσ]
  rw [eA,henv]
  have eL:σ.L=s.heap.objs.size:=by rw [← hσ]
  have eμ:σ.μ=μ:=by rw [← hσ]
  have eS:σ.S0=s:=by rw [← hσ]
  have eF:(σ.fxc fd.scope ks sok fd.closure X).S0={ s with heap:=hideAll s.heap X.l }:=by rw [← eS]; rfl
  have h0:∀ b,(σ.fxc fd.scope ks sok fd.closure X).W0 b→s.heap.objs.size≤b:=by
    rintro b (rfl | ⟨n',hc⟩)
    · exact Nat.le_of_eq eL.symm
    · cases hc
  have hkeep:=ic.toInCall.keep
  have hsame:=ic.toInCall.same
  have hzip:((ks.take vs.length).zip rs).map Prod.fst=ks.take vs.length:=List.map_fst_zip (by rw [List.length_take]; omega)
  have hnd:(((ks.take vs.length).zip rs).map Prod.fst).Nodup:=by rw [hzip]; exact sok.nodup.sublist (List.take_sublist _ _)
  have fr:=enter_fr (F:=σ.fxc fd.scope ks sok fd.closure X) (vs:=vs) (rs:=rs) (n:=n) (g:=g) (m:=fun x=>((ks.take vs.length).zip rs).reverse.lookup x) (cm:=fun _=>none) (by
      rw [eF,show (σ.fxc fd.scope ks sok fd.closure X).env.locals=s.heap.objs.size from eL]; exact inCallC_hidden X.l ic) ht₁ (X.Gok _ _ _ hg fun b o _ e=>hkeep b o e)
    (fun b hb=>⟨fun q=>let ⟨o,e⟩:=X.live g _ hg b hb; Nat.lt_irrefl _ (Nat.lt_of_lt_of_le (Heap.lt_size e) (h0 b q)),let ⟨o,e⟩:=X.live g _ hg b hb; ⟨o,hkeep b o e⟩⟩) hrl (fun i x r hx hr=>by
      have hi:i < vs.length:=by have:=(List.getElem?_eq_some_iff.mp hr).1; omega
      have hm:(x,r)∈(ks.take vs.length).zip rs:=List.mem_of_getElem? (i:=i) (by
        rw [List.getElem?_zip_eq_some]
        exact ⟨by rw [List.getElem?_take_of_lt hi]; exact hx,hr⟩)
      refine .inl ⟨sok.kinds x (List.mem_of_getElem? hx),lookup_of ?_ (List.mem_reverse.mpr hm)⟩
      rw [List.map_reverse]; exact (List.reverse_perm _).nodup_iff.mpr hnd) fun i v r hv hr=>by
      have q:=hrs.get hv hr
      intro h' k'
      show VRel σ.μ h' v r
      rw [eμ]
      exact q h' fun b o hq hb e=>k' b o hq (fun z=>z.elim (fun z=>Nat.lt_irrefl _ (Nat.lt_of_lt_of_le (Heap.lt_size e) (h0 b z))) fun z=>hb z) (hkeep b o e)
  refine wpAny_mono (walk σ (by rw [eS]; exact hK) eμ _ s₁ _ fr) (fun f s' q=>?_) fun _ _ q=>q
  have:=ret_out (F:=σ.fxc fd.scope ks sok fd.closure X) (l:=X.l) (fun b=>Iff.rfl) h0 hz₁ hkeep hsame q
  rw [show (σ.fxc fd.scope ks sok fd.closure X).μ=μ from eμ] at this
  exact this
noncomputable def DoesG (c:Cx) (l:List Addr) (e:Expr) (v:V) (R:Heap→Prop):Prop:=∀ (s:Shared) (E:Value→Shared→Prop),c.P s →
  wpAny c.M c.A (eval e c.env) (fun r s'=>VX (fun b=>b∈l) c.μ s'.heap v r∧R s'.heap∧Mg l s s') E s
noncomputable def GivesG (c:Cx) (l:List Addr) (f:Value) (vs:List V) (v:V) (R:Heap→Prop):Prop:=∀ (s:Shared) (E:Value→Shared→Prop) (rs:List Value),c.P s→VXs (fun b=>b∈l) c.μ s.heap vs rs →
  wpAny c.M c.A (PySem.call f rs) (fun r s'=>VX (fun b=>b∈l) c.μ s'.heap v r∧R s'.heap∧Mg l s s') E s
noncomputable def DoesXL (c:Cx) (l:List Addr) (es:List Expr) (vs:List V):Prop:=∀ (pos:Pos) (s:Shared) (E:Value→Shared→Prop),c.P s →
  wpAny c.M c.A (spliced (backTo pos (starEach es c.env))) (fun rs s'=>VXs (fun b=>b∈l) c.μ s'.heap vs rs∧K1 s s') E s
noncomputable def DoesX (c:Cx) (l:List Addr) (e:Expr) (v:V):Prop:=∀ (s:Shared) (E:Value→Shared→Prop),c.P s→wpAny c.M c.A (eval e c.env) (fun r s'=>VX (fun b=>b∈l) c.μ s'.heap v r∧K1 s s') E s
section
variable {c:Cx} {l:List Addr} {R:Heap→Prop}
theorem VX.keeps {W:Addr→Prop} {μ:Addr} {h h':Heap} {v:V} {r:Value} (x:VX W μ h v r) (k:∀ b o,h.get? b=some o→h'.get? b=some o):VX W μ h' v r:=x.grow fun b o hb e=>⟨hb,k b o e⟩
theorem DoesX.flat {e:Expr} {v:V} (h:Does c e v) (hf:v.flat=true:=by rfl):DoesX c l e v:=fun s E hs=>wpAny_mono (h s E hs) (fun r s' q=>⟨.of_flat (q.1.flat hf) hf,q.2⟩) fun _ _ q=>q
theorem DoesXL.nil:DoesXL c l [] []:=fun _ _ _ hs=>Calls.spliced_nil ⟨fun _ _=>.nil,c.refl hs⟩
theorem DoesXL.cons {e:Expr} {es:List Expr} {v:V} {vs:List V} (h:DoesX c l e v) (hr:DoesXL c l es vs) (he:starEach (e :: es) c.env=(false,eval e c.env) :: starEach es c.env:=by rfl):DoesXL c l (e :: es) (v :: vs):=fun pos s E hs=>by
  refine wpAny_items_cons (run_on hs (h s _ hs) fun r s₁ x h₁ k₁=>?_) he
  exact wpAny_mono (hr pos s₁ E h₁) (fun rs s₂ y=>⟨fun h' k=>.cons ((x.keeps fun b o e=>kGet y.2.1 b o e) h' k) (y.1 h' k),k₁.trans y.2⟩) fun _ _ y=>y
theorem DoesG.pre {t:Sem Value} {s s₁:Shared} {v:V} {E:Value→Shared→Prop} (k:K1 s s₁) (h:wpAny c.M c.A t (fun r s'=>VX (fun b=>b∈l) c.μ s'.heap v r∧R s'.heap∧Mg l s₁ s') E s₁) :
    wpAny c.M c.A t (fun r s'=>VX (fun b=>b∈l) c.μ s'.heap v r∧R s'.heap∧Mg l s s') E s₁:=wpAny_mono h (fun _ _ q=>⟨q.1,q.2.1,(K1.mg k).trans q.2.2⟩) fun _ _ q=>q
theorem DoesG.callF {x:Str} {np pos:Pos} {e:Expr} {es:List Expr} {vs:List V} {v:V} {a:Addr} {o:Obj} {fd:FuncData} (hx:c.env.kindOf x=some .globalImplicit) (hv:c.gl x=some (.ref a)) (ha:DoesXL c l (e :: es) vs)
    (ho:∀ s,c.P s→s.heap.get? a=some o) (hfd:o.data=.func fd)
    (g:GivesG c l (.ref a) vs v R) (he:starEach (e :: es) c.env=(false,eval e c.env) :: starEach es c.env:=by rfl) (hd:(x == ("__debug__":Str))=false:=by decide) :
    DoesG c l (.Call (.Name x np) (e :: es) [] pos) v R:=fun s E hs=>by
  refine wpAny_Call_NameR (glob_name hs hx hv ?_ hd)
  refine Calls.callWith_function (o:=o) (fd:=fd) (args_any (run_on hs (ha pos s E hs) fun rs s₁ y h₁ k₁=>?_) he)
  exact ⟨⟨ho _ h₁,hfd⟩,DoesG.pre k₁ (g s₁ E rs h₁ y)⟩
end
section
variable {F:Fx} {ρ:List Slot} {g g':F.Γ} {W:Addr→Prop} {m cm:Str→Option Value} {α:Nat→Addr} {s s':Shared}
theorem FrP.gmove (x:FrP F ρ g W m cm α s) (same:∃ h tk,s'={ s with heap:=h,toks:=tk }) (ht:1≤s'.toks) (k:∀ b o,¬ F.Wg b→s.heap.get? b=some o→s'.heap.get? b=some o) (hg:F.G g' s'.heap)
    (live:∀ b,F.Wg b→∃ o,s'.heap.get? b=some o):FrP F ρ g' W m cm α s':=by
  obtain ⟨h',tk,rfl⟩:=same
  have kW:∀ b o,¬ W b→s.heap.get? b=some o→h'.get? b=some o:=fun b o hb e=>k b o (fun q=>hb (x.gW b q).1) e
  obtain ⟨h₀,t₀,hsame⟩:=x.ic.toInCall.same
  refine ⟨⟨⟨⟨h',tk,by rw [hsame]⟩,x.ic.toInCall.ns.at' fun o e=>k _ o (fun q=>(x.gW _ q).2.1 rfl) e,fun b o e=>k b o (fun q=>by rw [F.gS b q] at e; cases e) (x.ic.toInCall.keep b o e),x.ic.toInCall.fresh⟩,
     fun n c hc=>let ⟨o,ho,hd⟩:=x.ic.cell n c hc; ⟨o,k c o (fun q=>(x.gW _ q).2.2 n c hc rfl) ho,hd⟩,x.ic.apart,x.ic.above⟩,ht,x.wL,x.wC,fun b hb=>?_,x.gW,hg,fun i y sl hy hs=>?_,x.inj⟩
  · rcases Classical.em (F.Wg b) with q | q
    · exact live b q
    · obtain ⟨o,ho⟩:=x.live b hb; exact ⟨o,k b o q ho⟩
  · have old:=x.slot i y sl hy hs
    exact old.grow (fun _ q=>q) (fun _ q=>q) (fun b o hb e=>⟨hb,kW b o hb e⟩) fun vs e=>⟨rfl,fun o e2=>by subst e; exact k _ o old.2.2.1.1 e2⟩
theorem Fr1.gmove (x:Fr1 F ρ g W s) (same:∃ h tk,s'={ s with heap:=h,toks:=tk }) (ht:1≤s'.toks) (k:∀ b o,¬ F.Wg b→s.heap.get? b=some o→s'.heap.get? b=some o) (hg:F.G g' s'.heap)
    (live:∀ b,F.Wg b→∃ o,s'.heap.get? b=some o):Fr1 F ρ g' W s':=let ⟨m,cm,α,y⟩:=x; ⟨m,cm,α,y.gmove same ht k hg live⟩
theorem Fr1.wg (x:Fr1 F ρ g W s):∀ b,F.Wg b→W b:=let ⟨_,_,_,y⟩:=x; fun b hb=>(y.gW b hb).1
theorem Fr1.storeIs {i:Nat} {x:Str} {r:Value} {Φ:Value→Heap→Prop} {E:Value→Shared→Prop} (fr:Fr1 F ρ g W s) (hx:F.ks[i]?=some x) (hv:∀ h',(∀ b o,seqish o→¬ W b→s.heap.get? b=some o→h'.get? b=some o)→Φ r h') :
    wpAny F.M F.A (storeName F.env x r) (fun _ s'=>Fr1 F (ρ.set i (.adr Φ)) g W s'∧Mv s s' W W) E s:=by
  obtain ⟨m,cm,α,fr⟩:=fr
  exact fr.storeG (sl:=.adr Φ) (a:=0) hx (fun m' cm' h' h1 h2 h3=>⟨r,h1,fun h₂ k₂=>hv h₂ fun b o hs hb e=>k₂ b o hs hb (h2 b o hb e)⟩) (fun _ e=>nomatch e)
end
theorem codeAmong_other {pos pos':Pos} {c:Value} (l:List Value) (h:TriplesOk l) (hn:pos'.line≠pos.line∨pos'.col≠pos.col) :
    codeAmong pos' (l++[rawInt pos.line,rawInt pos.col,c])=codeAmong pos' l:=by
  fun_induction TriplesOk l with
  | case1 =>
    have:¬ (((pos.line:Int) == pos'.line && (pos.col:Int) == pos'.col)=true):=by
      simp only [Bool.and_eq_true,beq_iff_eq]
      rintro ⟨e1,e2⟩
      rcases hn with hn | hn
      · exact hn (by omega)
      · exact hn (by omega)
    simp [codeAmong,rawInt] at this ⊢
    intro a b
    exact absurd b (this a)
  | case2 a t b u x rest ih =>
    simp only [List.cons_append,codeAmong]
    split
    · rfl
    · exact ih h
  | case3 l h1 h2=>exact h.elim
theorem triples_first {ps:Array Value} (h:TriplesOk ps.toList) {q:Str} {t:Tok}:ps[1]?≠some (.str q t):=by
  rw [← Array.getElem?_toList]
  intro e
  revert h e
  generalize ps.toList=l
  intro h e
  unfold TriplesOk at h
  split at h
  · simp at e
  · simp at e
  · exact h.elim
noncomputable def TabOk (h:Heap) (P:Addr) (qs:List (Pos × Str)):Prop:=∃ ps,h.get? P=some (tabObj ps)∧TriplesOk ps.toList∧∀ q∈qs,codeAmong q.1 ps.toList=none∨∃ c',codeAmong q.1 ps.toList=some (.ref c')∧h.CodeRec (.ref c') q.2
noncomputable def Grew (P:Addr) (h h':Heap):Prop:=∃ ps more,h.get? P=some (tabObj ps)∧h'.get? P=some (tabObj (ps++more))
theorem TabOk.move {h h':Heap} {P:Addr} {qs:List (Pos × Str)} (x:TabOk h P qs) (hq:∀ q∈qs,q.2≠"") (k:∀ b o,b=P∨codish o→h.get? b=some o→h'.get? b=some o):TabOk h' P qs:=by
  obtain ⟨ps,hy64_1⟩:=x
  have h1:=hy64_1.1
  have h2:=hy64_1.2.1
  have h3:=hy64_1.2.2
  clear hy64_1
  refine ⟨ps,k _ _ (.inl rfl) h1,h2,fun q m=>(h3 q m).imp id fun ⟨c',e,c,o,vs,t,e2,e3,e4,e5⟩=>⟨c',e,c,o,vs,t,e2,k c o (.inr ⟨vs,_,t,e4,e5,hq q m⟩) e3,e4,e5⟩⟩
theorem TabOk.snoc {h h':Heap} {P c':Addr} {qs:List (Pos × Str)} {ps:Array Value} {pos:Pos} {q:Str} (h2:TriplesOk ps.toList) (h3:∀ q∈qs,codeAmong q.1 ps.toList=none∨∃ c',codeAmong q.1 ps.toList=some (.ref c')∧h.CodeRec (.ref c') q.2)
    (hP:h.get? P=some (tabObj ps)) (hn:codeAmong pos ps.toList=none) (hx:Heap.ExtBut P h h') (hr:h'.CodeRec (.ref c') q) (hP':h'.get? P=some (tabObj (ps++#[rawInt pos.line,rawInt pos.col,.ref c']))) (hd:∀ y∈qs,y=(pos,q)∨y.1.line≠pos.line∨y.1.col≠pos.col):TabOk h' P qs:=by
  have el:(ps++#[rawInt pos.line,rawInt pos.col,.ref c']).toList=ps.toList++[rawInt pos.line,rawInt pos.col,.ref c']:=by simp
  refine ⟨_,hP',by rw [el]; exact TriplesOk_snoc _ _ _ _ h2,fun y m=>?_⟩
  rw [el]
  rcases hd y m with rfl | hne
  · exact .inr ⟨c',codeAmong_snoc _ h2 hn,hr⟩
  · rw [codeAmong_other _ h2 hne]
    refine (h3 y m).imp id fun ⟨c₂,e,c,o,vs,t,e2,e3,e4,e5⟩=>⟨c₂,e,c,o,vs,t,e2,hx c o (fun q=>?_) e3,e4,e5⟩
    rw [q,hP] at e3; cases e3; cases e4
    exact triples_first h2 e5
structure Nst (D:Wd) where
  mg:Str→Option Value
  ns:D.h0.Ns mainGlobals mg
  bm:Addr
  ob:Obj
  e1:mg "__builtins__"=some (.ref bm)
  ne0:bm≠builtinsNs
  ne1:bm≠mainGlobals
  get:D.h0.get? bm=some ob
  cls:ob.cls=.type "module"
  dict:ob.dict=some builtinsNs
  data:ob.data=.plain
noncomputable def Made (name qual:Str) (params:Arguments) (body:List Stmt) (scope:Scope) (L:List (Str × Addr)) (N:Nat) (r:Value) (h:Heap):Prop :=
  ∃ f clos doc pm cv ctv,r=.ref f∧N≤f∧h.get? f=some { cls:=.type "function",data:=.func (fnX name qual params body scope clos .none .none doc pm none cv ctv) }∧h.CodeRec cv qual∧∀ y,scope.names.lookup y=some .free→clos.lookup y=L.lookup y
section
variable {F:Fx} {ρ:List Slot} {g g':F.Γ} {W:Addr→Prop} {m cm:Str→Option Value} {α:Nat→Addr} {s s':Shared}
theorem Fr1.gh (x:Fr1 F ρ g W s):F.G g s.heap:=let ⟨_,_,_,y⟩:=x; y.gh
theorem Fr1.tk (x:Fr1 F ρ g W s):1≤s.toks:=let ⟨_,_,_,y⟩:=x; y.tk
theorem Fr1.without {c:Addr} {o:Obj} (fr:Fr1 F ρ g W s) (ho:s.heap.get? c=some o) (hc:codish o) (hg:¬ F.Wg c):Fr1 F ρ g (fun b=>W b∧b≠c) s:=by
  obtain ⟨m,cm,α,fr⟩:=fr
  refine ⟨m,cm,α,fr.ic,fr.tk,⟨fr.wL,fun q=>?_⟩,fun n d hd=>⟨fr.wC n d hd,fun q=>?_⟩,fun b hb=>fr.live b hb.1,fun b hb=>⟨⟨(fr.gW b hb).1,fun q=>hg (q ▸ hb)⟩,(fr.gW b hb).2⟩,fr.gh,fun j y sl hy hs=>?_,fr.inj⟩
  · exact fr.notSeq0 (.inl rfl) (q ▸ ho) hc.seq
  · exact fr.notSeq0 (.inr ⟨n,hd⟩) (q ▸ ho) hc.seq
  · have old:=fr.slot j y sl hy hs
    cases sl with
    | non=>trivial
    | val v=>obtain ⟨r,h1,h2⟩:=old; exact ⟨r,h1,fun h' k=>h2 h' fun b o hs hb e=>k b o hs (fun z=>hb z.1) e⟩
    | adr Φ=>obtain ⟨r,h1,h2⟩:=old; exact ⟨r,h1,fun h' k=>h2 h' fun b o hs hb e=>k b o hs (fun z=>hb z.1) e⟩
    | own us=>obtain ⟨h1,h2,h3,rs',⟨n,h4⟩,h5⟩:=old; exact ⟨h1,⟨h2,fun q=>by rw [q,ho] at h4; cases h4; exact not_cod hc⟩,h3,rs',⟨n,h4⟩,fun h' k=>h5 h' fun b o hs hb e=>k b o hs (fun z=>hb z.1) e⟩
theorem made_store {N:Nat} {name qual:Str} {params:Arguments} {body:List Stmt} {scope:Scope} {L clos:List (Str × Addr)} {doc pm cv ctv:Value} {i:Nat} {x:Str} {h':Heap} {tk:Tok} {E:Value→Shared→Prop} (fr:Fr1 F ρ g W s) (hx:F.ks[i]?=some x)
    (ht:1≤tk) (hN:N≤s.heap.objs.size) (hz:s.heap.objs.size≤h'.objs.size) (k:∀ b o,¬ F.Wg b→s.heap.get? b=some o→h'.get? b=some o) (hg:F.G g' (h'.push { cls:=.type "function",data:=.func (fnX name qual params body scope clos .none .none doc pm none cv ctv) }))
    (live:∀ b,F.Wg b→∃ o,(h'.push { cls:=.type "function",data:=.func (fnX name qual params body scope clos .none .none doc pm none cv ctv) }).get? b=some o)
    (hr:h'.CodeRec cv qual) (hW:∀ c',cv=.ref c'→¬ W c') (hq:qual≠"") (hcl:∀ y,scope.names.lookup y=some .free→clos.lookup y=L.lookup y) :
    wpAny F.M F.A (storeName F.env x (.ref h'.objs.size)) (fun _ s''=>Fr1 F (ρ.set i (.adr (Made name qual params body scope L N))) g' W s''∧Mv s s'' W W) E { s with heap:=h'.push { cls:=.type "function",data:=.func (fnX name qual params body scope clos .none .none doc pm none cv ctv) },toks:=tk }:=by
  have kk:∀ b o,¬ F.Wg b→s.heap.get? b=some o→(h'.push { cls:=.type "function",data:=.func (fnX name qual params body scope clos .none .none doc pm none cv ctv) }).get? b=some o:=fun b o hb e=>Heap.get?_push_of_some _ (k b o hb e)
  have fr':Fr1 F ρ g' W { s with heap:=h'.push { cls:=.type "function",data:=.func (fnX name qual params body scope clos .none .none doc pm none cv ctv) },toks:=tk }:=fr.gmove ⟨_,_,rfl⟩ ht kk hg live
  refine wpAny_mono (fr'.storeIs (Φ:=Made name qual params body scope L N) hx fun h₂ k₂=>?_) (fun _ s₂ q=>⟨q.1,⟨fun b o hb e=>q.2.kept b o hb (kk b o (fun z=>hb (fr.wg b z)) e),Nat.le_trans (by rw [Heap.size_push]; exact Nat.le_succ_of_le hz) q.2.size,fun b hb=>.inl hb⟩⟩) fun _ _ q=>q
  obtain ⟨c,o,vs,t,hy30_1⟩:=hr
  have e1:=hy30_1.1
  have e2:=hy30_1.2.1
  have e3:=hy30_1.2.2.1
  have e4:=hy30_1.2.2.2
  clear hy30_1
  refine ⟨_,clos,doc,pm,cv,ctv,rfl,Nat.le_trans hN hz,k₂ _ _ (.inr (.inr (.inr ⟨_,rfl⟩))) (fun q=>?_) (Heap.get?_push_size _ rfl),⟨c,o,vs,t,e1,k₂ _ _ (.inr (.inr (.inl ⟨vs,_,t,e3,e4,hq⟩))) (hW c e1) (Heap.get?_push_of_some _ e2),e3,e4⟩,hcl⟩
  exact Nat.lt_irrefl _ (Nat.lt_of_lt_of_le (fr.lt _ q) hz)
theorem Run1.defN {D:Wd} (N:Nst D) {i:Nat} {name:Str} {params:Arguments} {body:List Stmt} {scope:Scope} {pos:Pos} {c P:Addr} {qs:List (Pos × Str)} (hx:F.ks[i]?=some name) (hext:∀ W s,Fr1 F ρ g W s→Ext D.h0 s.heap)
    (hglob:F.env.globals=mainGlobals) (hcode:F.env.code=.ref c) (C:CodeHd D.h0 c P) (hP:F.Wg P) (hPs:∀ b o,D.h0.get? b=some o→b≠P)
    (hT:∀ h,F.G g h→TabOk h P qs) (hq:(pos,qualnameIn F.env name name)∈qs) (hd:∀ y∈qs,y=(pos,qualnameIn F.env name name)∨y.1.line≠pos.line∨y.1.col≠pos.col) (hqs:∀ q∈qs,q.2≠"")
    (hback:∀ h h',F.G g h→TabOk h' P qs→Grew P h h'→(∀ b o,(F.Wg b∧b≠P)∨codish o→h.get? b=some o→h'.get? b=some o)→F.G g h')
    (hfree:∀ y∈scope.names,y.2=.free→(F.env.cells.lookup y.1).isSome=true) (live:∀ h,F.G g h→∀ b,F.Wg b→∃ o,h.get? b=some o∧¬ codish o)
    (hd0:params.defaults=[]:=by rfl) (hk0:params.kw_defaults=[]:=by rfl) (ha:annTrees params none F.env=[]:=by rfl) :
    Run1 F (.FunctionDef name params body [] none [] scope none name pos) ρ g (ρ.set i (.adr (Made name (qualnameIn F.env name name) params body scope F.env.cells F.S0.heap.objs.size))) g:=fun W s E fr=>by
  obtain ⟨cl,hy41_1⟩:=wpAny_closure (M:=F.M) (A:=F.A) (E:=E) (s:=s) hfree
  have hcl:=hy41_1.1
  have hcl2:=hy41_1.2
  clear hy41_1
  obtain ⟨ps,hy42_1⟩:=hT _ fr.gh
  have hp:=hy42_1.1
  have htr:=hy42_1.2.1
  have hqq:=hy42_1.2.2
  clear hy42_1
  have hs:=hext W s fr
  have hN0:F.S0.heap.objs.size≤s.heap.objs.size:=let ⟨_,_,_,z⟩:=fr; Nat.le_trans z.ic.toInCall.fresh (Nat.le_of_lt z.ic.toInCall.ns.lt)
  have hns:=N.ns.keeps hs
  have hba:s.heap.BuiltinsAt N.mg P:=⟨N.bm,N.ob,N.e1,N.ne0,N.ne1,hPs _ _ N.get,hs _ _ N.get,N.cls,N.dict,N.data⟩
  have hgP:mainGlobals≠P:=let ⟨o,_,_,e,_⟩:=N.ns; hPs _ _ e
  have hsz:∀ {h:Heap} {o:Obj},(h.push o).objs.size=h.objs.size+1:=fun {h o}=>Heap.size_push h o
  refine nestDef_K hd0 hk0 ha ?_
  rcases hqq _ hq with hn | ⟨c',hf,hrec⟩
  · refine wpAny_grow (E:=E) (Q:=fun r s'=>∃ c' ctv doc h' tk,Heap.ExtBut P s.heap h'∧s.heap.objs.size≤c'∧c' < h'.objs.size∧h'.CodeRec (.ref c') (qualnameIn F.env name name)∧h'.get? P=some (tabObj (ps++#[rawInt pos.line,rawInt pos.col,.ref c'])) ∧
        r=.ref h'.objs.size∧s'={ s with heap:=h'.push (fnMade name (qualnameIn F.env name name) params body scope cl doc ((N.mg "__name__").getD .none) c' ctv),toks:=tk }) fr.tk
      (makeFunction_K hcl hglob hns hcode (C.keeps hs) hp htr hn hgP hba fun c' ctv doc h' tk q1 q2 q3 q4 q5=>⟨c',ctv,doc,h',tk,q1,q2,q3,q4,q5,rfl,rfl⟩) fun r s' ht' hz' q=>?_
    obtain ⟨c',ctv,doc,h',tk,hy54_1⟩:=q
    have q1:=hy54_1.1
    have q2:=hy54_1.2.1
    have q3:=hy54_1.2.2.1
    have q4:=hy54_1.2.2.2.1
    have q5:=hy54_1.2.2.2.2.1
    have hx54_0:=hy54_1.2.2.2.2.2.1
    have hx54_1:=hy54_1.2.2.2.2.2.2
    clear hy54_1
    subst hx54_0
    subst hx54_1
    have tb:=TabOk.snoc htr hqq hp hn q1 q4 q5 hd
    have hg':F.G g (h'.push (fnMade name (qualnameIn F.env name name) params body scope cl doc ((N.mg "__name__").getD .none) c' ctv)) :=
      hback _ _ fr.gh (tb.move hqs fun b o _ e=>Heap.get?_push_of_some _ e) ⟨ps,_,hp,Heap.get?_push_of_some _ q5⟩ fun b o hb e=>Heap.get?_push_of_some _ (q1 b o (fun z=>by
        rcases hb with hb | hb
        · exact hb.2 z
        · rw [z,hp] at e; cases e; obtain ⟨_,_,_,e,e2,_⟩:=hb; cases e; exact triples_first htr e2) e)
    refine wpAny_mono (made_store fr hx ht' hN0 (Nat.le_trans q2 (Nat.le_of_lt q3)) (fun b o hb e=>q1 b o (fun z=>hb (z ▸ hP)) e) hg' (fun b hb=>let ⟨o,e,_⟩:=live _ hg' b hb; ⟨o,e⟩) q4 (fun c₂ e z=>?_) (hqs _ hq) hcl2) (fun _ s₂ q=>⟨rfl,W,q.1,q.2⟩) fun _ _ q=>q
    cases e
    exact Nat.lt_irrefl _ (Nat.lt_of_lt_of_le (fr.lt _ z) q2)
  · refine wpAny_grow (E:=E) (Q:=fun r s'=>∃ (ctv doc:Value) (h':Heap) (tk:Tok),(∀ b o,s.heap.get? b=some o→h'.get? b=some o)∧s.heap.objs.size≤h'.objs.size ∧
        r=.ref h'.objs.size∧s'={ s with heap:=h'.push { cls:=.type "function",data:=.func (fnX name (qualnameIn F.env name name) params body scope cl .none .none doc ((N.mg "__name__").getD .none) none (.ref c') ctv) },toks:=tk }) fr.tk
      (makeFunction_hit hcl hglob hns hcode (C.keeps hs) hp htr hf hba fun ctv doc h' tk q1 q2=>⟨ctv,doc,h',tk,q1,q2,rfl,rfl⟩) fun r s' ht' hz' q=>?_
    obtain ⟨ctv,doc,h',tk,hy67_1⟩:=q
    have q1:=hy67_1.1
    have q2:=hy67_1.2.1
    have hx67_0:=hy67_1.2.2.1
    have hx67_1:=hy67_1.2.2.2
    clear hy67_1
    subst hx67_0
    subst hx67_1
    have hg':F.G g (h'.push { cls:=.type "function",data:=.func (fnX name (qualnameIn F.env name name) params body scope cl .none .none doc ((N.mg "__name__").getD .none) none (.ref c') ctv) }) :=
      F.Gok _ _ _ fr.gh fun b o hb e=>Heap.get?_push_of_some _ (q1 b o e)
    have hrec':=hrec
    obtain ⟨c₂,o,vs,t,hy71_1⟩:=hrec'
    have e1:=hy71_1.1
    have e2:=hy71_1.2.1
    have e3:=hy71_1.2.2.1
    have e4:=hy71_1.2.2.2
    clear hy71_1
    cases e1
    have hcod:codish o:=⟨vs,_,t,e3,e4,hqs _ hq⟩
    have hnW:¬ F.Wg c':=fun z=>by obtain ⟨o',e',n⟩:=live _ fr.gh c' z; rw [e2] at e'; cases e'; exact n hcod
    have fr₁:=fr.without e2 hcod hnW
    refine wpAny_mono (made_store fr₁ hx ht' hN0 q2 (fun b o hb e=>q1 b o e) hg' (fun b hb=>let ⟨o,e,_⟩:=live _ hg' b hb; ⟨o,e⟩) (hrec.keeps q1) (fun c₂ e z=>?_) (hqs _ hq) hcl2) (fun _ s₂ q=>⟨rfl,_,q.1,⟨fun b o hb e=>q.2.kept b o (fun z=>hb z.1) e,q.2.size,fun b hb=>.inl hb.1⟩⟩) fun _ _ q=>q
    cases e
    exact z.2 rfl
end
noncomputable def BinOk (c:Cx) (op:Operator) (a b v:V):Prop:=∀ (s:Shared) (E:Value→Shared→Prop) (ra rb:Value),c.P s→VRel c.μ s.heap a ra→VRel c.μ s.heap b rb→wpAny c.M c.A (binaryOp op ra rb) (fun r s'=>VRel c.μ s'.heap v r∧Keeps s s') E s
section
variable {c:Cx}
theorem Does.binS {op:Operator} {a b:Expr} {pos:Pos} {va vb v:V} (ha:Does c a va) (hb:Does c b vb) (hv:BinOk c op va vb v):Does c (.BinOp a op b pos) v:=fun s E hs=>by
  refine wpAny_BinOp (run_on hs (ha s _ hs) fun ra s₁ xa h₁ k₁=>run_on h₁ (hb s₁ _ h₁) fun rb s₂ xb h₂ k₂=>?_)
  exact K1.post (k₁.trans k₂) (run_of h₂ (hv s₂ E ra rb h₂ (xa.kept k₂.1) xb))
theorem VRel.int' {μ:Addr} {h:Heap} {i:Int} {r:Value} (x:VRel μ h (.int i) r):∃ t,r=.int i t:=by unfold VRel at x; exact x
theorem BinOk.shr {a n:Int} (hn:0≤n):BinOk c .RShift (.int a) (.int n) (.int (a.fdiv (2 ^ n.toNat))):=fun s E ra rb hs xa xb=>by
  obtain ⟨t,rfl⟩:=xa.int'
  obtain ⟨u,rfl⟩:=xb.int'
  exact rshift_int hn ⟨.i _ _,kTok _ _⟩
theorem BinOk.shl {a n:Int} (hn:0≤n) (hn2:n≤1000000) (ha:a.natAbs < 2 ^ 64):BinOk c .LShift (.int a) (.int n) (.int (a * 2 ^ n.toNat)):=fun s E ra rb hs xa xb=>by
  obtain ⟨t,rfl⟩:=xa.int'
  obtain ⟨u,rfl⟩:=xb.int'
  exact lshift_int_small hn hn2 ha ⟨.i _ _,kTok _ _⟩
theorem BinOk.xor {a b:Int}:BinOk c .BitXor (.int a) (.int b) (.int (Builtin.bitXor a b)):=fun s E ra rb hs xa xb=>by
  obtain ⟨t,rfl⟩:=xa.int'
  obtain ⟨u,rfl⟩:=xb.int'
  exact xor_int ⟨.i _ _,kTok _ _⟩
theorem Does.inv {a:Expr} {pos:Pos} {i:Int} (ha:Does c a (.int i)):Does c (.UnaryOp .Invert a pos) (.int (Builtin.bitNot i)):=fun s E hs=>by
  refine wpAny_UnaryOp (run_on hs (ha s _ hs) fun ra s₁ xa h₁ k₁=>?_)
  obtain ⟨t,rfl⟩:=xa.int'
  exact K1.post k₁ (run_of h₁ (invert_int ⟨.i _ _,kTok _ _⟩))
theorem intT {μ:Addr} {x:Int} (s:Shared) (r:Value) (h:VRel μ s.heap (.int x) r):s.TypeIs r "int"∧(∀ a,r=.ref a→∃ ob,s.heap.get? a=some ob∧ob.dict=none):=by
  obtain ⟨t,rfl⟩:=h.int'; exact ⟨typeIs_int _ _ _,fun a e=>nomatch e⟩
theorem Does.meth0 {o:Expr} {name:Str} {apos pos:Pos} {vo:V} {v:V} {T id:String} (ho:Does c o vo) (pa:PlainAttrs T) (sl:PySem.Slot T name id) (ty:typeOf (.builtin id)=pure (.type "method_descriptor"))
    (hT:∀ (s:Shared) r,VRel c.μ s.heap vo r→s.TypeIs r T∧(∀ a,r=.ref a→∃ ob,s.heap.get? a=some ob∧ob.dict=none)) (g:Gives1 c (.builtin id) [vo] v)
    (hbase:attributeBase o name c.env (eval o c.env)=eval o c.env:=by rfl) (hline:(apos.endLine == pos.line)=true:=by rfl) :
    Does c (.Call (.Attribute o name apos) [] [] pos) v:=fun s E hs=>by
  refine wpAny_Call_method_lateS hbase rfl hline (run_on hs (ho s _ hs) fun r s₁ x h₁ k₁=>?_)
  have hz41:=hT s₁ r x
  have q1:=hz41.1
  have q2:=hz41.2
  clear hz41
  exact ⟨T,id,pa,sl,ty,q1,q2,Calls.callWith_builtin rfl (evalArgs_nil3 (K1.post k₁ (g s₁ E [r] h₁ (.cons x .nil))))⟩
theorem Does.bitlen {a:Expr} {apos pos:Pos} {i:Int} (ha:Does c a (.int i)) (hbase:attributeBase a (Str.ofString "bit_length") c.env (eval a c.env)=eval a c.env:=by rfl) (hline:(apos.endLine == pos.line)=true:=by rfl) :
    Does c (.Call (.Attribute a (Str.ofString "bit_length") apos) [] [] pos) (.int (Builtin.Int.intBits i)) :=
  .meth0 ha F.plainAttrs_int F.slot_int_bit_length F.type_int_bit_length intT (.of fun s E rs hs h=>by
    obtain ⟨r,hy46_1⟩:=h.inv1
    have hx46_0:=hy46_1.1
    have h1:=hy46_1.2
    clear hy46_1
    subst hx46_0
    obtain ⟨t,rfl⟩:=h1.int'
    exact call_int_bit_length ⟨.i _ _,kTok _ _⟩) hbase hline
theorem Gives1.divmod {a b:Int} (hb:b≠0) (ha:a.natAbs < 1073741824) (hb2:b.natAbs < 1073741824):Gives1 c (.builtin "divmod") [.int a,.int b] (.tup [.int (a.fdiv b),.int (a.fmod b)]):=.of fun s E rs hs h=>by
  obtain ⟨r,r',hy50_1⟩:=h.inv2
  have hx50_0:=hy50_1.1
  have h1:=hy50_1.2.1
  have h2:=hy50_1.2.2
  clear hy50_1
  subst hx50_0
  obtain ⟨t,rfl⟩:=h1.int'
  obtain ⟨u,rfl⟩:=h2.int'
  refine divmod_int hb ⟨tup_push (rs:=[_,_]) (.cons (.i _ _) (.cons (.i _ _) .nil)),⟨_,_,rfl,fun _ _ e=>Heap.get?_push_of_some _ e⟩⟩ (.inl ?_)
  exact PyProof.noPylong_small (by omega)
end
section
variable {c:Cx}
theorem Does.callV {x:Str} {np pos:Pos} {e:Expr} {es:List Expr} {vs:List V} {v:V} {f:Addr} {o:Obj} {fd:FuncData} (hv:∀ s,c.P s→VarAt c.env s.heap x (.ref f)) (ho:∀ s,c.P s→s.heap.get? f=some o) (hfd:o.data=.func fd) (ha:DoesL c (e :: es) vs)
    (g:Gives1 c (.ref f) vs v) (he:starEach (e :: es) c.env=(false,eval e c.env) :: starEach es c.env:=by rfl) (hd:(x == ("__debug__":Str))=false:=by decide) :
    Does c (.Call (.Name x np) (e :: es) [] pos) v:=fun s E hs=>by
  refine wpAny_Call_NameR (wpAny_Name ((hv s hs).load c.hk ?_) hd)
  refine Calls.callWith_function (o:=o) (fd:=fd) (args_any (run_on hs (ha pos s E hs) fun rs s₁ y h₁ k₁=>?_) he)
  exact ⟨⟨ho _ h₁,hfd⟩,K1.post k₁ (g s₁ E rs h₁ y)⟩
end
theorem Fx.atF {F:Fx} {ρ:List Slot} {g:F.Γ} {W:Addr→Prop} {y:Str} {c:Addr} {r:Value} (hk:F.env.kindOf y=some .free) (hc:F.env.cells.lookup y=some c) (hcell:F.S0.heap.IsCell c (some r))
    (hn:(y == ("__classdict__":Str))=false:=by decide):∀ s,(F.cx ρ g W).P s→VarAt F.env s.heap y r:=fun s ⟨_,_,_,x⟩ =>
  .inr ⟨.inr ⟨hk,hn⟩,c,hc,hcell.keeps x.ic.toInCall.keep⟩
theorem Fx.old {F:Fx} {ρ:List Slot} {g:F.Γ} {W:Addr→Prop} {b:Addr} {o:Obj} (h:F.S0.heap.get? b=some o):∀ s,(F.cx ρ g W).P s→s.heap.get? b=some o:=fun s ⟨_,_,_,x⟩=>x.ic.toInCall.keep b o h
noncomputable def nest (i j:Nat):List Stmt × Scope × Arguments × Pos:=match (fBody i)[j]? with
  | some (.FunctionDef _ a b _ _ _ sc _ _ p)=>(b,sc,a,p)
  | _=>([],default,default,default)
noncomputable def iBody57:List Stmt:=(nest 57 0).1
noncomputable def iScope57:Scope:=(nest 57 0).2.1
noncomputable def iArgs57:Arguments:=(nest 57 0).2.2.1
noncomputable def iPos57:Pos:=(nest 57 0).2.2.2
noncomputable def iks57:List Str:=["L","R","mid","shift"]
theorem iok57:ScOkC iScope57 iks57:=⟨by decide,by decide,by decide,rfl⟩
noncomputable def digVal (ds:List Int) (n:Nat):Nat→Nat→Int
  | _,0=>0
  | L,k+1=>ds.getD L 0+2 ^ n * digVal ds n (L+1) k
theorem digVal_add (ds:List Int) (n:Nat):∀ (a b L:Nat),digVal ds n L (a+b)=digVal ds n L a+2 ^ (n * a) * digVal ds n (L+a) b
  | 0,b,L=>by simp [digVal]
  | a+1,b,L=>by
    have e:a+1+b=(a+b)+1:=by omega
    have e2:L+(a+1)=L+1+a:=by omega
    have u:∀ L k,digVal ds n L (k+1)=ds.getD L 0+2 ^ n * digVal ds n (L+1) k:=fun _ _=>rfl
    rw [e,u,u]
    rw [digVal_add ds n a b (L+1),e2,Nat.mul_succ,Int.pow_add]
    rw [Int.mul_add,Int.add_assoc,← Int.mul_assoc,Int.mul_comm (2 ^ n) (2 ^ (n * a))]
theorem digVal_lt {ds:List Int} {n:Nat} (hb:∀ d∈ds,0≤d∧d < 2 ^ n):∀ (k L:Nat),0≤digVal ds n L k∧digVal ds n L k < 2 ^ (n * k)
  | 0,L=>by simp [digVal]
  | k+1,L=>by
    have hz46:=digVal_lt hb k (L+1)
    have h1:=hz46.1
    have h2:=hz46.2
    clear hz46
    have hd:0≤ds.getD L 0∧ds.getD L 0 < 2 ^ n:=by
      rw [List.getD_eq_getElem?_getD]
      cases e:ds[L]? with
      | none=>exact ⟨Int.le_refl _,Int.pow_pos (by decide)⟩
      | some d=>exact hb d (List.mem_of_getElem? e)
    have hp:(0:Int) < 2 ^ n:=Int.pow_pos (by decide)
    unfold digVal
    rw [Nat.mul_succ,Int.pow_add]
    have h3:0≤2 ^ n * digVal ds n (L+1) k:=Int.mul_nonneg (Int.le_of_lt hp) h1
    have h4:2 ^ n * (digVal ds n (L+1) k+1)≤2 ^ n * 2 ^ (n * k):=Int.mul_le_mul_of_nonneg_left h2 (Int.le_of_lt hp)
    rw [Int.mul_add,Int.mul_one] at h4
    rw [Int.mul_comm (2 ^ (n * k))]
    omega
structure K57 (μ:Addr) (f:Addr) (fd:FuncData) (ds:List Int) (n:Int) (h:Heap):Prop where
  fn:∃ o,h.get? f=some o∧o.data=.func fd
  code:h.CodeRec fd.code fd.qualname
  digits:∃ c r,fd.closure.lookup (Str.ofString "digits")=some c∧h.IsCell c (some r)∧VRel μ h (.list (ds.map .int)) r
  n:∃ c r,fd.closure.lookup (Str.ofString "n")=some c∧h.IsCell c (some r)∧VRel μ h (.int n) r
  inner:∃ c,fd.closure.lookup (Str.ofString "inner")=some c∧h.IsCell c (some (.ref f))
theorem K57.keeps {μ f:Addr} {fd:FuncData} {ds:List Int} {n:Int} {h h':Heap} (x:K57 μ f fd ds n h) (k:∀ b o,h.get? b=some o→h'.get? b=some o):K57 μ f fd ds n h' where
  fn:=let ⟨o,e,q⟩:=x.fn; ⟨o,k _ _ e,q⟩
  code:=x.code.keeps k
  digits:=let ⟨c,r,e,q,y⟩:=x.digits; ⟨c,r,e,q.keeps k,VRel.keeps k _ _ y⟩
  n:=let ⟨c,r,e,q,y⟩:=x.n; ⟨c,r,e,q.keeps k,VRel.keeps k _ _ y⟩
  inner:=let ⟨c,e,q⟩:=x.inner; ⟨c,e,q.keeps k⟩
theorem digVal_small {ds:List Int} {n:Nat} (hb:∀ d∈ds,0≤d∧d < 2 ^ n) (hn:n * ds.length≤62) {L k:Nat} (h:k≤ds.length):(digVal ds n L k).natAbs < 2 ^ 64:=by
  have hz75:=digVal_lt hb k L
  have h1:=hz75.1
  have h2:=hz75.2
  clear hz75
  have h3:n * k≤62:=Nat.le_trans (Nat.mul_le_mul_left n h) hn
  have h4:(2:Int) ^ (n * k)≤2 ^ 62:=by
    have:=Nat.pow_le_pow_right (n:=2) (by decide) h3
    exact_mod_cast this
  have h5:(2:Int) ^ 62 < 2 ^ 64:=by decide
  omega
theorem inner57 {D:Wd} {f:Addr} {qual:Str} {clos:List (Str × Addr)} {doc pm cv ctv:Value} {ds:List Int} {n:Nat} {μ:Addr} (hb:∀ d∈ds,0≤d∧d < 2 ^ n) (hn:n * ds.length≤62) (hn':n≤62) (hl:ds.length≤62):∀ (d L:Nat) (R:Int),R=((L+d:Nat):Int)→1≤d→L+d≤ds.length →
    ∀ {A:Around},AOk d A→∀ (s:Shared) (E:Value→Shared→Prop) (rs:List Value),Ext D.h0 s.heap→1≤s.toks→K57 μ f (fnX "inner" qual iArgs57 iBody57 iScope57 clos .none .none doc pm none cv ctv) ds n s.heap→VRels μ s.heap [.int L,.int R] rs →
    wpAny (model D.prog D.w) A (PySem.call (.ref f) rs) (fun r s'=>VRel μ s'.heap (.int (digVal ds n L d)) r∧K1 s s') E s:=by
  intro d
  induction d using Nat.strongRecOn with
  | ind d ih =>
    intro L R hR hd hL A hA s E rs hs ht hK hrs
    obtain ⟨k,rfl⟩:∃ k,d=k+1:=⟨d - 1,by omega⟩
    obtain ⟨o,hy90_1⟩:=hK.fn
    have ho:=hy90_1.1
    have hod:=hy90_1.2
    clear hy90_1
    refine wpAny_mono (D.callC (Gw.none D) hA (K:=K57 μ f (fnX "inner" qual iArgs57 iBody57 iScope57 clos .none .none doc pm none cv ctv) ds n) (ks:=iks57) (vs:=[.int L,.int R]) (v:=.int (digVal ds n L (k+1))) (μ:=μ) (g:=()) (g':=()) 2 ho hod hK.code rfl rfl rfl iok57 (by show 2≤4; decide)
      (len2 fun _ _=>rfl) ?_ rfl rfl E rs hs ht trivial hK fun h' _=>hrs.flat rfl) (fun r s' q=>⟨q.1.rel,q.2.2.k1⟩) fun _ _ q=>q
    intro σ hKσ hμ
    apply Rets.ends
    obtain ⟨o',hy95_1⟩:=hKσ.fn
    have ho':=hy95_1.1
    have hod':=hy95_1.2
    clear hy95_1
    obtain ⟨cd,rd,hy96_1⟩:=hKσ.digits
    have hcd:=hy96_1.1
    have hcd2:=hy96_1.2.1
    have hcd3:=hy96_1.2.2
    clear hy96_1
    obtain ⟨cn,rn,hy97_1⟩:=hKσ.n
    have hcn:=hy97_1.1
    have hcn2:=hy97_1.2.1
    have hcn3:=hy97_1.2.2
    clear hy97_1
    obtain ⟨ci,hy98_1⟩:=hKσ.inner
    have hci:=hy98_1.1
    have hci2:=hy98_1.2
    clear hy98_1
    rw [← hμ] at hcd3 hcn3
    have hm:((k+1) / 2:Nat) < k+1:=by omega
    have em:((L:Int)+R).fdiv (2 ^ (1:Int).toNat)=((L+(k+1) / 2:Nat):Int):=by
      have e:(2:Int) ^ (1:Int).toNat=2:=by decide
      rw [e,hR,Int.fdiv_eq_ediv_of_nonneg _ (by decide)]
      omega
    have hsl:shortL (ds.map V.int).length=true:=by rw [List.length_map]; exact shortL_of (by omega)
    have dn:∀ {ρ W p},Does ((σ.fxc iScope57 iks57 iok57 clos (Gw.none D)).cx ρ () W) (.Name "n" p) (.int n):=fun {ρ W p}=>.nm (Fx.varF (c:=cn) (r:=rn) (by show iScope57.names.lookup _=_; decide) hcn hcn2 hcn3)
    have dig:∀ {ρ W p},Does ((σ.fxc iScope57 iks57 iok57 clos (Gw.none D)).cx ρ () W) (.Name "digits" p) (.list (ds.map .int)):=fun {ρ W p}=>.nm (Fx.varF (c:=cd) (r:=rd) (by show iScope57.names.lookup _=_; decide) hcd hcd2 hcd3)
    refine Rets.ifRet (x:=(((L:Int)+1) == R)) (fun W=>Tests.cmp (.bin (.nm (Fx.var (i:=0) rfl rfl)) .int rfl) (.nm (Fx.var (i:=1) rfl rfl)) rfl) (fun he=>?_) (fun he=>?_)
    · have he:=eq_of_beq he
      have hk:k=0:=by omega
      subst hk
      have e:digVal ds n L (0+1)=ds.getD L 0:=by simp [digVal]
      rw [e]
      refine Rets.ret (fun W=>Does.idx (vs:=ds.map .int) (k:=L) dig (.nm (Fx.var (i:=0) rfl rfl)) (by omega) ?_ hsl) (fun b q=>nomatch q) fun _=>trivial
      have:L < ds.length:=by omega
      simp [List.getD_eq_getElem?_getD,this]
    · have he':¬ ((L:Int)+1=R):=fun q=>by rw [beq_iff_eq.mpr q] at he; cases he
      have hk:1≤k:=by omega
      refine Rets.cons (ρ₁:=[.val (.int L),.val (.int R),.val (.int ((L+(k+1) / 2:Nat):Int)),.non]) (g₁:=()) ?_ ?_
      · rw [← em]
        apply Run1.asg (F:=σ.fxc iScope57 iks57 iok57 clos (Gw.none D)) (i:=2)
        · exact fun W=>.binS (.bin (.nm (Fx.var (i:=0) rfl rfl)) (.nm (Fx.var (i:=1) rfl rfl)) rfl) .int (.shr (by decide))
        · rfl
        · rfl
      have es:(((L+(k+1) / 2:Nat):Int) - (L:Int)) * (n:Int)=((n * ((k+1) / 2):Nat):Int):=by
        rw [Int.natCast_mul,Int.mul_comm]; congr 1; omega
      refine Rets.cons (ρ₁:=[.val (.int L),.val (.int R),.val (.int ((L+(k+1) / 2:Nat):Int)),.val (.int ((n * ((k+1) / 2):Nat):Int))]) (g₁:=()) ?_ ?_
      · rw [← es]
        apply Run1.asg (F:=σ.fxc iScope57 iks57 iok57 clos (Gw.none D)) (i:=3)
        · refine fun W=>.bin (.bin (.nm (Fx.var (i:=2) rfl rfl)) (.nm (Fx.var (i:=0) rfl rfl)) rfl) dn (if_pos ?_)
          unfold small
          rw [Nat.blt_eq]
          omega
        · rfl
        · rfl
      have hn1:n * ((k+1) / 2)≤62:=Nat.le_trans (Nat.mul_le_mul_left n (by omega)) hn
      have call:∀ {ρ W} (L' d':Nat) (R':Int),R'=((L'+d':Nat):Int)→1≤d'→d' < k+1→L'+d'≤ds.length→Gives1 ((σ.fxc iScope57 iks57 iok57 clos (Gw.none D)).cx ρ () W) (.ref f) [.int L',.int R'] (.int (digVal ds n L' d')):=fun {ρ W} L' d' R' h1 h2 h3 h4 s E rs hP hr=>by
        obtain ⟨m,cm,α,x⟩:=hP
        have hs':Ext D.h0 s.heap:=fun b o e=>x.ic.toInCall.keep b o (σ.hS b o e)
        rw [show ((σ.fxc iScope57 iks57 iok57 clos (Gw.none D)).cx ρ () W).μ=μ from hμ] at hr ⊢
        exact ih d' h3 L' R' h1 h2 h4 (A:=σ.A) (σ.hA.le (by omega)) s E rs hs' x.tk (hKσ.keeps x.ic.toInCall.keep) hr
      have ev:digVal ds n L (k+1)=digVal ds n (L+(k+1) / 2) (k+1 - (k+1) / 2) * 2 ^ ((n * ((k+1) / 2):Nat):Int).toNat+digVal ds n L ((k+1) / 2):=by
        have e1:k+1=(k+1) / 2+(k+1 - (k+1) / 2):=by omega
        conv=>lhs; rw [e1]
        rw [digVal_add,Int.toNat_natCast,Int.mul_comm,Int.add_comm]
      rw [ev]
      have hci':∀ {ρ W} s,((σ.fxc iScope57 iks57 iok57 clos (Gw.none D)).cx ρ () W).P s→VarAt (σ.fxc iScope57 iks57 iok57 clos (Gw.none D)).env s.heap "inner" (.ref f):=fun {ρ W}=>Fx.atF (by show iScope57.names.lookup _=_; decide) hci hci2
      refine Rets.ret (fun W=>.bin (.binS (.callV hci' (Fx.old ho') hod' (.cons (.nm (Fx.var (i:=2) rfl rfl)) (.cons (.nm (Fx.var (i:=1) rfl rfl)) .nil)) (call (L+(k+1) / 2) (k+1 - (k+1) / 2) R (by omega) (by omega) (by omega) (by omega)))
        (.nm (Fx.var (i:=3) rfl rfl)) (.shl (by omega) (by omega) (digVal_small hb hn (by omega))))
        (.callV hci' (Fx.old ho') hod' (.cons (.nm (Fx.var (i:=0) rfl rfl)) (.cons (.nm (Fx.var (i:=2) rfl rfl)) .nil)) (call L ((k+1) / 2) _ (by omega) (by omega) (by omega) (by omega))) rfl) (fun b q=>nomatch q) fun _=>trivial
theorem VarAt.keeps {env:Env} {h h':Heap} {x:Str} {r:Value} (v:VarAt env h x r) (k:∀ b o,h.get? b=some o→h'.get? b=some o):VarAt env h' x r:=by
  rcases v with ⟨hl,m,hn,hm⟩ | ⟨hl,a,ha,hc⟩
  · exact .inl ⟨hl,m,hn.keeps k,hm⟩
  · exact .inr ⟨hl,a,ha,hc.keeps k⟩
noncomputable def Cx.at (c:Cx) (s₀:Shared):Cx:={ c with
  P:=fun s=>c.P s∧Keeps s₀ s
  toks:=fun s h=>c.toks s h.1
  keep:=fun s s' h k t=>⟨c.keep s s' h.1 k t,kTrans h.2 k⟩
  glob:=fun s h=>c.glob s h.1 }
theorem Does.here {c:Cx} {e:Expr} {v:V} (h:∀ s,c.P s→Does (c.at s) e v):Does c e v:=fun s E hs=>h s hs s E ⟨hs,kRefl s⟩
theorem Cx.Var.at {c:Cx} {s₀:Shared} {x:Str} {v:V} (h:c.Var x v):(c.at s₀).Var x v:=fun s hs=>h s hs.1
theorem DoesG.here {c:Cx} {l:List Addr} {e:Expr} {v:V} {R:Heap→Prop} (h:∀ s,c.P s→DoesG (c.at s) l e v R):DoesG c l e v R:=fun s E hs=>h s hs s E ⟨hs,kRefl s⟩
structure HasTab {D:Wd} (X:Gw D) (c P:Addr) (qs:List (Pos × Str)):Prop where
  C:CodeHd D.h0 c P
  mem:P∈X.l
  tab:∀ g h,X.G g h→TabOk h P qs
  back:∀ g h h',X.G g h→TabOk h' P qs→Grew P h h'→(∀ b o,(b∈X.l∧b≠P)∨codish o→h.get? b=some o→h'.get? b=some o)→X.G g h'
  live:∀ g h,X.G g h→∀ b∈X.l,∃ o,h.get? b=some o∧¬ codish o
  qs:∀ q∈qs,q.2≠""
theorem HasTab.out {D:Wd} {X:Gw D} {c P:Addr} {qs:List (Pos × Str)} (T:HasTab X c P qs):∀ b o,D.h0.get? b=some o→b≠P:=fun b o e q=>X.hid b o e (q ▸ T.mem)
section
variable {F:Fx} {ρ ρ₁ ρ₂ ρ':List Slot} {g g₁ g':F.Γ}
theorem Rets.retFl {e:Expr} {pos:Pos} {rest:List Stmt} {v:V} (h:DoesW F ρ g e v) (hf:v.flat=true):Rets F (.Return (some e) pos :: rest) ρ g v (F.G g):=fun W s E fr =>
  wpAny_execs_cons (wpAny_Return_some (wpAny_mono (h W s E fr) (fun r s' x=>⟨r,rfl,.of_flat (x.1.flat hf) hf,let ⟨h,t,e,_⟩:=x.2.1; ⟨h,t,e⟩,x.2.2.1,x.2.2.2,fun b o _ e=>kGet x.2.1 b o e,(fr.keeps x.2).gh⟩) fun _ _ x=>x))
theorem Rets.retF {e:Expr} {pos:Pos} {rest:List Stmt} {v:V} (h:DoesFW F ρ g e v):Rets F (.Return (some e) pos :: rest) ρ g v (F.G g):=fun W s E fr =>
  wpAny_execs_cons (wpAny_Return_some (wpAny_mono (h W s E fr) (fun r s' x=>⟨r,rfl,x.1.2.vx fun b hb=>fr.lt b (fr.wg b hb),let ⟨h,t,e,_⟩:=x.2.1; ⟨h,t,e⟩,x.2.2.1,x.2.2.2,fun b o _ e=>kGet x.2.1 b o e,(fr.keeps x.2).gh⟩) fun _ _ x=>x))
theorem Rets.retG {e:Expr} {pos:Pos} {rest:List Stmt} {v:V} {l:List Addr} (hl:∀ b,F.Wg b ↔ b∈l) (h:∀ W,DoesG (F.cx ρ g W) l e v (F.G g')):Rets F (.Return (some e) pos :: rest) ρ g v (F.G g'):=fun W s E fr =>
  wpAny_execs_cons (wpAny_Return_some (wpAny_mono (h W s E fr) (fun r s' x=>⟨r,rfl,fun h' k=>x.1 h' fun b o hs hb e=>k b o hs (fun q=>hb ((hl b).mp q)) e,x.2.2.same,x.2.2.tk,x.2.2.size,fun b o hb e=>x.2.2.kept b o (fun q=>hb (fr.wg b ((hl b).mpr q))) e,x.2.1⟩) fun _ _ x=>x))
theorem Run1.asgG {x:Str} {i:Nat} {px pos:Pos} {e:Expr} {v:V} {l:List Addr} (hl:∀ b,F.Wg b ↔ b∈l) (h:∀ W,DoesG (F.cx ρ g W) l e v (F.G g')) (hf:v.flat=true) (live:∀ h,F.G g' h→∀ b,F.Wg b→∃ o,h.get? b=some o) (hx:F.ks[i]?=some x)
    (hs:swapsWith e (some (.Name x px)) pos.line F.env=pure false:=by rfl):Run1 F (.Assign [.Name x px] e pos) ρ g (ρ.set i (.val v)) g':=fun W s E fr=>by
  refine wpAny_Assign_Name (wpAny_mono (h W s E fr) (fun r s₁ q=>?_) fun _ _ q=>q) hs
  have q1:=q.1
  have q2:=q.2.1
  have q3:=q.2.2
  try clear q
  have fr₁:=fr.gmove q3.same q3.tk (fun b o hb e=>q3.kept b o (fun z=>hb ((hl b).mpr z)) e) q2 (live _ q2)
  exact wpAny_mono (fr₁.store hx (v:=v) (.of_flat (q1.rel.flat hf) hf)) (fun _ s₂ z=>⟨rfl,W,z.1,⟨fun b o hb e=>z.2.kept b o hb (q3.kept b o (fun y=>hb (fr.wg b ((hl b).mpr y))) e),Nat.le_trans q3.size z.2.size,fun b hb=>.inl hb⟩⟩) fun _ _ q=>q
end
noncomputable def ks57:List Str:=["digits","n","inner"]
theorem ok57:ScOk (fScope 57) ks57:=⟨by decide,by decide,rfl⟩
noncomputable def q57:Str:="_digits2int"++".<locals>."++"inner"
noncomputable def qs57:List (Pos × Str):=[(iPos57,q57)]
theorem FrP.cell {F:Fx} {ρ:List Slot} {g:F.Γ} {W:Addr→Prop} {m cm:Str→Option Value} {α:Nat→Addr} {s:Shared} (x:FrP F ρ g W m cm α s) {y:Str} {r:Value} (hk:F.env.kindOf y=some .cell) (h:At F.env m cm y r):∃ c,F.env.cells.lookup y=some c∧s.heap.IsCell c (some r):=by
  rcases h with ⟨h1,_⟩ | ⟨h1,h2,h3⟩
  · rw [hk] at h1; cases h1
  · obtain ⟨c,hc⟩:=Option.isSome_iff_exists.mp h2
    exact ⟨c,hc,h3 ▸ x.ic.cell y c ((F.hown y h1).trans hc)⟩
theorem walk57 {D:Wd} {k:Nat} (N:Nst D) {X:Gw D} {c P:Addr} (T:HasTab X c P qs57) (σ:Site D k) (hc:σ.code=.ref c) (hq:σ.qual="_digits2int"++".<locals>.") (hlen:D.gl "len"=some (.builtin "len")) {ds:List Int} {n:Nat} (g:X.Γ) (hk:ds.length+1≤k)
    (hb:∀ d∈ds,0≤d∧d < 2 ^ n) (hn:n * ds.length≤62) (hn':n≤62) (hl:ds.length≤62) (h1:1≤ds.length) :
    Rets (σ.fxg (fScope 57) ks57 ok57 X) (fBody 57) [.val (.list (ds.map .int)),.val (.int n),.non] g (.int (digVal ds n 0 ds.length)) (X.G g):=by
  have hqe:qualnameIn (σ.fxg (fScope 57) ks57 ok57 X).env (Str.ofString "inner") (Str.ofString "inner")=q57:=by
    show (if _ then _ else σ.qual++_)=_
    rw [hq]; rfl
  refine Rets.cons (ρ₁:=[.val (.list (ds.map .int)),.val (.int n),.adr (Made "inner" q57 iArgs57 iBody57 iScope57 (σ.fxg (fScope 57) ks57 ok57 X).env.cells (σ.fxg (fScope 57) ks57 ok57 X).S0.heap.objs.size)]) (g₁:=g) ?_ ?_
  · rw [← hqe]
    apply Run1.defN (F:=σ.fxg (fScope 57) ks57 ok57 X) N (i:=2) (c:=c) (P:=P) (qs:=qs57)
    · rfl
    · exact fun W s ⟨_,_,_,x⟩ b o e=>x.ic.toInCall.keep b o (hideAll_get _ (σ.hS b o e) (X.hid b o e))
    · rfl
    · exact hc
    · exact T.C
    · exact T.mem
    · exact T.out
    · exact T.tab g
    · rw [hqe]; exact .head _
    · rw [hqe]; intro y hy; rw [List.mem_singleton.mp hy]; exact .inl rfl
    · exact T.qs
    · exact T.back g
    · exact Site.free (σ:=σ) (sc:=fScope 57) (by decide)
    · exact T.live g
  · refine Rets.retFl (fun W=>Does.here fun s hs=>?_) rfl
    obtain ⟨m,cm,α,x⟩:=id hs
    obtain ⟨rd,hy40_1⟩:=x.slot 0 "digits" _ rfl rfl
    have ad:=hy40_1.1
    have vd:=hy40_1.2
    clear hy40_1
    obtain ⟨rn,hy41_1⟩:=x.slot 1 "n" _ rfl rfl
    have an:=hy41_1.1
    have vn:=hy41_1.2
    clear hy41_1
    obtain ⟨rf,hy42_1⟩:=x.slot 2 "inner" _ rfl rfl
    have af:=hy42_1.1
    have vf:=hy42_1.2
    clear hy42_1
    obtain ⟨f,clos,doc,pm,cv,ctv,hy43_1⟩:=vf s.heap fun _ _ _ _ e=>e
    have hx43_0:=hy43_1.1
    have hNf:=hy43_1.2.1
    have hf:=hy43_1.2.2.1
    have hcd:=hy43_1.2.2.2.1
    have hcl:=hy43_1.2.2.2.2
    clear hy43_1
    subst hx43_0
    have kc:∀ {y},(fScope 57).names.lookup y=some .cell→(σ.fxg (fScope 57) ks57 ok57 X).env.kindOf y=some .cell:=fun h=>h
    obtain ⟨cd,hy45_1⟩:=x.cell (kc (by decide)) ad
    have hcd1:=hy45_1.1
    have hcd2:=hy45_1.2
    clear hy45_1
    obtain ⟨cn,hy46_1⟩:=x.cell (kc (by decide)) an
    have hcn1:=hy46_1.1
    have hcn2:=hy46_1.2
    clear hy46_1
    obtain ⟨ci,hy47_1⟩:=x.cell (kc (by decide)) af
    have hci1:=hy47_1.1
    have hci2:=hy47_1.2
    clear hy47_1
    have hK:K57 σ.μ f (fnX "inner" q57 iArgs57 iBody57 iScope57 clos .none .none doc pm none cv ctv) ds n s.heap :=
      ⟨⟨_,hf,rfl⟩,hcd,⟨cd,rd,(hcl _ (by decide)).trans hcd1,hcd2,vd.rel⟩,⟨cn,rn,(hcl _ (by decide)).trans hcn1,hcn2,vn.rel⟩,⟨ci,(hcl _ (by decide)).trans hci1,hci2⟩⟩
    have hsl:shortL (ds.map V.int).length=true:=by rw [List.length_map]; exact shortL_of (by omega)
    have dig:∀ {p},Does (((σ.fxg (fScope 57) ks57 ok57 X).cx [.val (.list (ds.map .int)),.val (.int n),.adr (Made "inner" q57 iArgs57 iBody57 iScope57 (σ.fxg (fScope 57) ks57 ok57 X).env.cells (σ.fxg (fScope 57) ks57 ok57 X).S0.heap.objs.size)] g W).at s) (.Name "digits" p) (.list (ds.map .int)):=fun {p}=>.nm (Cx.Var.at (Fx.var (i:=0) rfl rfl))
    refine Does.ife (x:=true) ?_ (fun _=>?_) (fun q=>nomatch q)
    · refine Tests.val dig ?_
      have:truthV (.list (ds.map .int))=some (!(ds.map V.int).isEmpty):=if_pos hsl
      rw [this]
      cases ds with
      | nil=>simp at h1
      | cons d r=>rfl
    · have hlenG:=Gives1.len (c:=((σ.fxg (fScope 57) ks57 ok57 X).cx [.val (.list (ds.map .int)),.val (.int n),.adr (Made "inner" q57 iArgs57 iBody57 iScope57 (σ.fxg (fScope 57) ks57 ok57 X).env.cells (σ.fxg (fScope 57) ks57 ok57 X).S0.heap.objs.size)] g W).at s) hsl
      rw [List.length_map] at hlenG
      refine Does.callV (f:=f) (fun s' h'=>?_) (fun s' h'=>kGet h'.2 _ _ hf) rfl (.cons .int (.cons (.callB (knd (sc:=fScope 57) (by decide)) hlen (.cons dig .nil) hlenG) .nil)) ?_
      · exact (At.var (fun _ _=>rfl) x.ic af).keeps (kGet h'.2)
      · intro s' E rs hP hr
        obtain ⟨_,_,_,x'⟩:=hP.1
        exact inner57 hb hn hn' hl ds.length 0 ds.length (by omega) h1 (by omega) (A:=σ.A) (σ.hA.le (by omega)) s' E rs (fun b o e=>x'.ic.toInCall.keep b o (hideAll_get _ (σ.hS b o e) (X.hid b o e))) x'.tk (hK.keeps (kGet hP.2)) hr
section
variable {c:Cx} {l:List Addr} {R:Heap→Prop}
theorem Tests.leI {a b:Expr} {pos:Pos} {i j:Int} (ha:Does c a (.int i)) (hb:Does c b (.int j)) (hm:behindInMarks .LtE b=false:=by with_unfolding_all rfl):Tests c (.Compare a [.LtE] [b] pos) (decide (i≤j)):=fun s E hs=>by
  refine wpAny_isTrue_Compare1 (run_on hs (ha s _ hs) fun ra s₁ xa h₁ k₁=>run_on h₁ (hb s₁ _ h₁) fun rb s₂ xb h₂ k₂=>?_) hm
  obtain ⟨t,rfl⟩:=xa.int'
  obtain ⟨u,rfl⟩:=xb.int'
  exact le_int (wpAny_truthy_bool ⟨rfl,k₁.trans k₂⟩)
theorem Tests.ltI {a b:Expr} {pos:Pos} {i j:Int} (ha:Does c a (.int i)) (hb:Does c b (.int j)) (hm:behindInMarks .Lt b=false:=by with_unfolding_all rfl):Tests c (.Compare a [.Lt] [b] pos) (decide (i < j)):=fun s E hs=>by
  refine wpAny_isTrue_Compare1 (run_on hs (ha s _ hs) fun ra s₁ xa h₁ k₁=>run_on h₁ (hb s₁ _ h₁) fun rb s₂ xb h₂ k₂=>?_) hm
  obtain ⟨t,rfl⟩:=xa.int'
  obtain ⟨u,rfl⟩:=xb.int'
  exact PyProof.Rows.lt_int (wpAny_truthy_bool ⟨rfl,k₁.trans k₂⟩)
theorem DoesG.callV {x:Str} {np pos:Pos} {e:Expr} {es:List Expr} {vs:List V} {v:V} {f:Addr} {o:Obj} {fd:FuncData} (hv:∀ s,c.P s→VarAt c.env s.heap x (.ref f)) (ho:∀ s,c.P s→s.heap.get? f=some o) (hfd:o.data=.func fd) (ha:DoesXL c l (e :: es) vs)
    (g:GivesG c l (.ref f) vs v R) (he:starEach (e :: es) c.env=(false,eval e c.env) :: starEach es c.env:=by rfl) (hd:(x == ("__debug__":Str))=false:=by decide) :
    DoesG c l (.Call (.Name x np) (e :: es) [] pos) v R:=fun s E hs=>by
  refine wpAny_Call_NameR (wpAny_Name ((hv s hs).load c.hk ?_) hd)
  refine Calls.callWith_function (o:=o) (fd:=fd) (args_any (run_on hs (ha pos s E hs) fun rs s₁ y h₁ k₁=>?_) he)
  exact ⟨⟨ho _ h₁,hfd⟩,DoesG.pre k₁ (g s₁ E rs h₁ y)⟩
end
section
variable {F:Fx} {ρ ρ₁ ρ₂ ρ':List Slot} {g g₁ g':F.Γ} {l:List Addr}
theorem DoesX.var {i:Nat} {x:Str} {pos:Pos} {v:V} {W:Addr→Prop} (hl:∀ b,b∈l→F.Wg b) (hx:F.ks[i]?=some x) (hi:ρ[i]?=some (.val v)) (hd:(x == ("__debug__":Str))=false:=by decide):DoesX (F.cx ρ g W) l (.Name x pos) v:=fun s E fr=>by
  obtain ⟨m,cm,α,fr⟩:=fr
  obtain ⟨r,hy29_1⟩:=fr.slot i x _ hx hi
  have hat:=hy29_1.1
  have hr:=hy29_1.2
  clear hy29_1
  exact wpAny_Name ((hat.var F.hown fr.ic).load F.hk ⟨fun h' k=>hr h' fun b o hs hb e=>k b o hs (fun q=>hb (fr.gW b (hl b q)).1) e,kRefl _,fr.tk,Nat.le_refl _⟩) hd
theorem FrP.shrinkG {W:Addr→Prop} {m cm:Str→Option Value} {α:Nat→Addr} {s:Shared} (x:FrP F ρ g W m cm α s) (hno:ρ.all (fun sl=>!sl.isOwn)=true):FrP F ρ g (fun b=>F.W0 b∨F.Wg b) m cm α s:=by
  have sub:∀ b,(F.W0 b∨F.Wg b)→W b:=fun b q=>q.elim (fun q=>q.elim (fun e=>e ▸ x.wL) fun ⟨n,e⟩=>x.wC n b e) fun q=>(x.gW b q).1
  refine ⟨x.ic,x.tk,.inl (.inl rfl),fun n c hc=>.inl (.inr ⟨n,hc⟩),fun b hb=>x.live b (sub b hb),fun b hb=>⟨.inr hb,(x.gW b hb).2⟩,x.gh,fun i y sl hy hs=>?_,x.inj⟩
  have old:=x.slot i y sl hy hs
  cases sl with
  | non=>trivial
  | val v=>obtain ⟨r,h1,h2⟩:=old; exact ⟨r,h1,fun h' k=>h2 h' fun b o hs hb e=>k b o hs (fun q=>hb (sub b q)) e⟩
  | adr Φ=>obtain ⟨r,h1,h2⟩:=old; exact ⟨r,h1,fun h₂ k₂=>h2 h₂ fun b o hs hb e=>k₂ b o hs (fun q=>hb (sub b q)) e⟩
  | own vs=>have:=List.all_eq_true.mp hno _ (List.mem_of_getElem? hs); cases this
theorem Fr1.shrinkG {W:Addr→Prop} {s:Shared} (x:Fr1 F ρ g W s) (hno:ρ.all (fun sl=>!sl.isOwn)=true):Fr1 F ρ g (fun b=>F.W0 b∨F.Wg b) s∧∀ b,(F.W0 b∨F.Wg b)→W b :=
  let ⟨m,cm,α,y⟩:=x; ⟨⟨m,cm,α,y.shrinkG hno⟩,fun b q=>q.elim (fun q=>q.elim (fun e=>e ▸ y.wL) fun ⟨n,e⟩=>y.wC n b e) fun q=>(y.gW b q).1⟩
theorem Fr1.notSeq {W:Addr→Prop} {s:Shared} (x:Fr1 F ρ g W s):∀ b o,F.W0 b→s.heap.get? b=some o→¬ seqish o:=let ⟨_,_,_,y⟩:=x; y.notSeq
theorem Run1.asgG0 {x:Str} {i:Nat} {px pos:Pos} {e:Expr} {v:V} (hl:∀ b,F.Wg b ↔ b∈l) (h:∀ W,DoesG (F.cx ρ g W) l e v (F.G g')) (hno:ρ.all (fun sl=>!sl.isOwn)=true) (live:∀ h,F.G g' h→∀ b,F.Wg b→∃ o,h.get? b=some o) (hx:F.ks[i]?=some x)
    (hs:swapsWith e (some (.Name x px)) pos.line F.env=pure false:=by rfl):Run1 F (.Assign [.Name x px] e pos) ρ g (ρ.set i (.val v)) g':=fun W s E fr=>by
  refine wpAny_Assign_Name (wpAny_mono (h W s E fr) (fun r s₁ q=>?_) fun _ _ q=>q) hs
  have q1:=q.1
  have q2:=q.2.1
  have q3:=q.2.2
  try clear q
  have fr₁:=fr.gmove q3.same q3.tk (fun b o hb e=>q3.kept b o (fun z=>hb ((hl b).mpr z)) e) q2 (live _ q2)
  have hz50:=fr₁.shrinkG hno
  have fr₂:=hz50.1
  have sub:=hz50.2
  clear hz50
  refine wpAny_mono (fr₂.store hx (v:=v) fun h' k=>q1 h' fun b o hs hb e=>k b o hs (fun z=>z.elim (fun z=>fr₁.notSeq b o z e hs) fun z=>hb ((hl b).mp z)) e) (fun _ s₂ z=>⟨rfl,_,z.1,⟨fun b o hb e=>z.2.kept b o (fun q=>hb (sub b q)) (q3.kept b o (fun y=>hb (fr.wg b ((hl b).mpr y))) e),Nat.le_trans q3.size z.2.size,fun b hb=>.inl (sub b hb)⟩⟩) fun _ _ q=>q
theorem Run1.asg2G {x y:Str} {i j:Nat} {px py tp pos:Pos} {k:Nat} {e:Expr} {a b:V} (hl:∀ b,F.Wg b ↔ b∈l) (h:∀ W,DoesG (F.cx ρ g W) l e (.tup [a,b]) (F.G g')) (live:∀ h,F.G g' h→∀ b,F.Wg b→∃ o,h.get? b=some o) (hx:F.ks[i]?=some x) (hy:F.ks[j]?=some y) (ha:a.flat=true) (hb:b.flat=true)
    (hs:swapsWithSole [.Tuple [.Name x px,.Name y py] k tp] e pos.line F.env=pure false:=by rfl) (hw:swappedStores [.Tuple [.Name x px,.Name y py] k tp] e F.env=pure none:=by rfl) :
    Run1 F (.Assign [.Tuple [.Name x px,.Name y py] k tp] e pos) ρ g ((ρ.set i (.val a)).set j (.val b)) g':=.of fun W s E fr=>by
  refine Assign_Tuple (wpAny_mono (h W s E fr) (fun rv s₁ q=>?_) fun _ _ q=>q) hs hw
  have q1:=q.1
  have q2:=q.2.1
  have q3:=q.2.2
  try clear q
  have hr:=q1.rel
  have fr₁:=fr.gmove q3.same q3.tk (fun b o hb e=>q3.kept b o (fun z=>hb ((hl b).mpr z)) e) q2 (live _ q2)
  unfold VRel at hr
  obtain ⟨t,rs,hy61_1⟩:=hr
  have hx61_0:=hy61_1.1
  have ht:=hy61_1.2.1
  have hrs:=hy61_1.2.2
  clear hy61_1
  subst hx61_0
  obtain ⟨ra,rb,hy62_1⟩:=hrs.inv2
  have hx62_0:=hy62_1.1
  have xa:=hy62_1.2.1
  have xb:=hy62_1.2.2
  clear hy62_1
  subst hx62_0
  refine wpAny_assign_Tuple F.hh ht rfl rfl fun h₁ he=>?_
  have ke:∀ b o,s₁.heap.get? b=some o→h₁.get? b=some o:=fun b o e=>he b o (Nat.ne_of_lt (Heap.lt_size e)) e
  have fr₂:Fr1 F ρ g' W { s₁ with heap:=h₁ }:=let ⟨m,cm,α,z⟩:=fr₁; ⟨m,cm,α,z.keeps ⟨h₁,s₁.toks,rfl,ke⟩ z.tk⟩
  show wpAny F.M F.A (assignInOrder [assign (.Name x px) F.env,assign (.Name y py) F.env] [ra,rb]) _ E _
  refine wpAny_assignInOrder_more (wpAny_assign_Name (wpAny_mono (fr₂.store hx (.of_flat (xa.flat ha) ha)) (fun _ s₃ z=>?_) fun _ _ q=>q))
  refine wpAny_assignInOrder_more (wpAny_assign_Name (wpAny_mono (z.1.store hy (.of_flat (xb.flat hb) hb)) (fun _ s₄ z'=>?_) fun _ _ q=>q))
  exact wpAny_assignInOrder_none ⟨rfl,W,z'.1,fun b o hb e=>z'.2.kept b o hb (z.2.kept b o hb (ke b o (q3.kept b o (fun y=>hb (fr.wg b ((hl b).mpr y))) e))),fun b q=>.inl q⟩
theorem Run1.exprG {pos:Pos} {e:Expr} (hl:∀ b,F.Wg b ↔ b∈l) (h:∀ W,DoesG (F.cx ρ g W) l e .none (F.G g')) (live:∀ h,F.G g' h→∀ b,F.Wg b→∃ o,h.get? b=some o) (hsw:swapsWith e none pos.line F.env=pure false:=by rfl):Run1 F (.Expr e pos) ρ g ρ g':=fun W s E fr=>by
  refine wpAny_Expr (wpAny_mono (h W s E fr) (fun r s₁ q=>?_) fun _ _ q=>q) (interactive_fn F.hk) hsw
  have q1:=q.1
  have q2:=q.2.1
  have q3:=q.2.2
  try clear q
  have hr:=q1.rel
  unfold VRel at hr
  subst hr
  exact ⟨rfl,W,fr.gmove q3.same q3.tk (fun b o hb e=>q3.kept b o (fun z=>hb ((hl b).mpr z)) e) q2 (live _ q2),⟨fun b o hb e=>q3.kept b o (fun y=>hb (fr.wg b ((hl b).mpr y))) e,q3.size,fun b hb=>.inl hb⟩⟩
theorem Rets.ifE {t:Expr} {a b rest:List Stmt} {pos:Pos} {x:Bool} {v:V} {R:Heap→Prop} (ht:∀ W,Tests (F.cx ρ g W) t x) (ha:x=true→Rets F a ρ g v R) (hb:x=false→Rets F b ρ g v R) :
    Rets F (.If t a b pos :: rest) ρ g v R:=fun W s E fr=>by
  refine wpAny_execs_cons (wpAny_If (wpAny_mono (ht W s E fr) (fun r s₁ q=>?_) fun _ _ q=>q))
  have hx81_0:=q.1
  have k:=q.2
  try clear q
  subst hx81_0
  have after:∀ {r s'},RetOk F v R W s₁ r s'→RetOk F v R W s r s':=fun z=>z.after (let ⟨h,t,e,_⟩:=k.1; ⟨h,t,e⟩) (Mv.of k)
  cases r with
  | true =>
    simp only [if_true]
    exact wpAny_mono (ha rfl W s₁ E (fr.keeps k)) (fun f s₂ y=>by obtain ⟨r,rfl,z⟩:=y; exact ⟨r,rfl,after z⟩) fun _ _ y=>y
  | false =>
    simp only [Bool.false_eq_true,if_false]
    exact wpAny_mono (hb rfl W s₁ E (fr.keeps k)) (fun f s₂ y=>by obtain ⟨r,rfl,z⟩:=y; exact ⟨r,rfl,after z⟩) fun _ _ y=>y
theorem Rets.retNone {pos:Pos} {rest:List Stmt}:Rets F (.Return none pos :: rest) ρ g .none (F.G g):=fun W s E fr =>
  wpAny_execs_cons (wpAny_Return_none ⟨.none,rfl,fun _ _=>by unfold VRel; rfl,⟨_,_,rfl⟩,fr.tk,Nat.le_refl _,fun _ _ _ e=>e,fr.gh⟩)
end
noncomputable def IntsAt (a:Addr) (ds:List Int) (h:Heap):Prop:=∃ rs,h.PlainList a (List.toArray rs)∧VRels 0 h (ds.map .int) rs
theorem VRels.ints {μ μ':Addr} {h h':Heap}:∀ {ds:List Int} {rs:List Value},VRels μ h (ds.map .int) rs→VRels μ' h' (ds.map .int) rs
  | [],_,x=>by unfold VRels at *; exact x
  | d :: r,_,x=>by
    simp only [List.map_cons] at x ⊢
    unfold VRels at *
    obtain ⟨v,rt,hy11_1⟩:=x
    have e:=hy11_1.1
    have y:=hy11_1.2.1
    have z:=hy11_1.2.2
    clear hy11_1
    refine ⟨v,rt,e,?_,VRels.ints z⟩
    unfold VRel at *
    exact y
noncomputable def Gw.ext {D:Wd} (X:Gw D) (ad:Addr) (h:∀ b o,D.h0.get? b=some o→b≠ad):Gw D where
  Γ:=X.Γ × List Int
  G:=fun g hp=>X.G g.1 hp∧IntsAt ad g.2 hp
  l:=ad :: X.l
  Gok:=fun g hp h' x k=>⟨X.Gok _ _ _ x.1 fun b o hb e=>k b o (hb.imp (.tail _) id) e,let ⟨rs,⟨n,e⟩,y⟩:=x.2; ⟨rs,⟨n,k _ _ (.inl (.head _)) e⟩,y.ints⟩⟩
  live:=fun g hp x b hb=>by
    rcases List.mem_cons.mp hb with rfl | hb
    · obtain ⟨rs,⟨n,e⟩,_⟩:=x.2; exact ⟨_,e⟩
    · exact X.live _ _ x.1 b hb
  hid:=fun b o e hb=>by
    rcases List.mem_cons.mp hb with rfl | hb
    · exact h _ _ e rfl
    · exact X.hid b o e hb
theorem hideAll_sub {h:Heap} {l l':List Addr} (hs:∀ b,b∈l→b∈l'):∀ b o,(hideAll h l').get? b=some o→(hideAll h l).get? b=some o:=fun b o e =>
  hideAll_get l (of_hideAll l' e) fun q=>by rw [hideAll_none l' (hs b q)] at e; cases e
theorem Fr1.toExt {D:Wd} {k:Nat} {σ:Site D k} {sc:Scope} {ks:List Str} {ok:ScOk sc ks} {X:Gw D} {ρ:List Slot} {g:X.Γ} {W:Addr→Prop} {s:Shared} {i:Nat} {x:Str} {ds:List Int} (fr:Fr1 (σ.fxg sc ks ok X) ρ g W s) (hx:ks[i]?=some x) (hi:ρ[i]?=some (.own (ds.map .int)))
    (hno:(ρ.set i .non).all (fun sl=>!sl.isOwn)=true):∃ ad,∃ h:∀ b o,D.h0.get? b=some o→b≠ad,ad ∉ X.l∧W ad∧Fr1 (σ.fxg sc ks ok (X.ext ad h)) (ρ.set i (.adr fun r _=>r=.ref ad)) (g,ds) W s:=by
  obtain ⟨m,cm,α,y⟩:=fr
  have hz38:=y.slot i x _ hx hi
  have hat:=hz38.1
  have hWa:=hz38.2.1
  have hx38_0:=hz38.2.2.1
  have hw38_1:=hz38.2.2.2
  clear hz38
  obtain ⟨hg,hS⟩:=hx38_0
  obtain ⟨rs,hy38_1⟩:=hw38_1
  have hpl:=hy38_1.1
  have hvs:=hy38_1.2
  clear hy38_1
  have hd:∀ b o,D.h0.get? b=some o→b≠α i:=fun b o e q=>by
    have:=Heap.lt_size (hideAll_get X.l (σ.hS b o e) (X.hid b o e))
    have hS':(hideAll σ.S0.heap X.l).objs.size≤α i:=hS
    exact Nat.lt_irrefl _ (Nat.lt_of_lt_of_le (q ▸ this) hS')
  have hlt:i < ρ.length:=(List.getElem?_eq_some_iff.mp hi).1
  have noOwn:∀ (j:Nat) us,(ρ.set i (.adr fun r _=>r=.ref (α i)))[j]?=some (.own us)→False:=fun j us hj=>by
    by_cases hji:j=i
    · subst hji; rw [List.getElem?_set_self hlt] at hj; cases hj
    · rw [List.getElem?_set_ne (Ne.symm hji)] at hj
      have:(ρ.set i .non)[j]?=some (.own us):=by rw [List.getElem?_set_ne (Ne.symm hji)]; exact hj
      have:=List.all_eq_true.mp hno _ (List.mem_of_getElem? this)
      cases this
  have ic:=y.ic
  refine ⟨α i,hd,hg,hWa,m,cm,α,⟨⟨ic.toInCall.same,ic.toInCall.ns,fun b o e=>ic.toInCall.keep b o (hideAll_sub (l':=α i :: X.l) (fun b q=>.tail _ q) b o e),?_⟩,ic.cell,ic.apart,ic.above⟩,y.tk,y.wL,y.wC,y.live,fun b hb=>?_,⟨y.gh,rs,hpl,hvs.rel.ints⟩,fun j z sl hz hs=>?_,fun j k z u vs us _ _ hj _ _=>(noOwn j vs hj).elim⟩
  · have h1:=ic.toInCall.fresh
    have e1:(hideAll σ.S0.heap X.l).objs.size=σ.S0.heap.objs.size:=hideAll_size _ _
    have e2:(hideAll σ.S0.heap (α i :: X.l)).objs.size=σ.S0.heap.objs.size:=hideAll_size _ _
    show (hideAll σ.S0.heap (α i :: X.l)).objs.size≤_
    rw [e2,← e1]; exact h1
  · rcases List.mem_cons.mp hb with rfl | hb
    · exact ⟨hWa,y.apart (.inl rfl) hpl,fun n c hc=>y.apart (.inr ⟨n,hc⟩) hpl⟩
    · exact y.gW b hb
  · by_cases hji:j=i
    · subst hji
      rw [List.getElem?_set_self hlt] at hs; cases hs
      rw [show (σ.fxg sc ks ok (X.ext (α j) hd)).ks=ks from rfl] at hz
      rw [hx] at hz; cases hz
      exact ⟨_,hat,fun _ _=>rfl⟩
    · have hs':=hs
      rw [List.getElem?_set_ne (Ne.symm hji)] at hs
      have old:=y.slot j z sl hz hs
      cases sl with
      | non=>trivial
      | val v=>exact old
      | adr Φ=>exact old
      | own vs=>exact (noOwn j vs hs').elim
section
variable {F:Fx} {ρ:List Slot} {g g':F.Γ} {W:Addr→Prop}
theorem Fx.varE {i:Nat} {x:Str} {ad:Addr} {ds:List Int} (hx:F.ks[i]?=some x) (hi:ρ[i]?=some (.adr fun r _=>r=.ref ad)) (hG:∀ h,F.G g h→IntsAt ad ds h):(F.cx ρ g W).Var x (.list (ds.map .int)):=fun s ⟨m,cm,α,y⟩=>by
  obtain ⟨r,hy80_1⟩:=y.slot i x _ hx hi
  have h1:=hy80_1.1
  have h2:=hy80_1.2
  clear hy80_1
  have e:r=.ref ad:=h2 s.heap fun _ _ _ _ e=>e
  subst e
  obtain ⟨rs,hy83_1⟩:=hG _ y.gh
  have hp:=hy83_1.1
  have hr:=hy83_1.2
  clear hy83_1
  refine ⟨_,h1.var F.hown y.ic,?_⟩
  show VRel F.μ s.heap _ _
  unfold VRel
  exact ⟨ad,rs,rfl,hp,hr.ints⟩
theorem list_set {μ:Addr} {h:Heap} {i:Nat} {x:Int} {t:Tok}:∀ {ds:List Int} {rs:List Value},VRels μ h (ds.map .int) rs→VRels μ h ((ds.set i x).map .int) (rs.set i (.int x t)):=by
  induction i with
  | zero=>intro ds rs r; cases ds with
    | nil=>simp only [List.map_nil] at r ⊢; unfold VRels at r; subst r; exact .nil
    | cons d ds=>simp only [List.map_cons] at r; unfold VRels at r; obtain ⟨v,rt,rfl,y,z⟩:=r; exact .cons (.i _ _) z
  | succ i ih=>intro ds rs r; cases ds with
    | nil=>simp only [List.map_nil] at r ⊢; unfold VRels at r; subst r; exact .nil
    | cons d ds=>simp only [List.map_cons] at r; unfold VRels at r; obtain ⟨v,rt,rfl,y,z⟩:=r; exact .cons y (ih z)
end
section
variable {c:Cx}
theorem zeros {μ:Addr} {h:Heap} {t:Tok}:∀ n,VRels μ h ((List.replicate n (0:Int)).map .int) (List.replicate n (.int 0 t))
  | 0=>.nil
  | n+1=>.cons (.i _ _) (zeros n)
theorem DoesF.zeros {z e:Expr} {lp pos:Pos} {x:Int} (hz:Does c z (.int 0)) (he:Does c e (.int x)) (h0:0≤x) (hn:x < 4096) (hse:starEach [z] c.env=[(false,eval z c.env)]:=by rfl):DoesF c (.BinOp (.List [z] lp) .Mult e pos) (.list ((List.replicate x.toNat (0:Int)).map .int)):=fun s E hs=>by
  refine wpAny_BinOp (wpAny_List (wpAny_items_cons (run_on hs (hz s _ hs) fun r s₁ xz h₁ k₁=>Calls.spliced_nil ⟨by rw [sizeLine_eq]; simp,?_⟩) hse))
  obtain ⟨t,rfl⟩:=xz.int'
  have k₂:=k₁.trans (K1.push (o:={ cls:=.type "list",data:=.seq #[.int 0 t] }) k₁.2.1)
  have h₂:=c.go hs k₂
  refine run_on h₂ (he _ E h₂) fun rb s₃ xb h₃ k₃=>?_
  obtain ⟨u,rfl⟩:=xb.int'
  have hl:s₃.heap.get? s₁.heap.objs.size=some { cls:=.type "list",dict:=none,data:=.seq #[.int 0 t],slots:=#[] }:=kGet k₃.1 _ _ (Heap.get?_push_size _ rfl)
  have hsz1:(#[Value.int 0 t]:Array Value).size=1:=rfl
  have f1:¬(!Builtin.List.listFitsIndex x)=true:=by simp [Builtin.List.listFitsIndex]; omega
  have f2:¬(#[Value.int 0 t]:Array Value).size * x.toNat > (2 ^ 63 - 1) / 8:=by rw [hsz1]; omega
  have f3:¬Builtin.List.listTooLong ((#[Value.int 0 t]:Array Value).size * x.toNat)=true:=by rw [hsz1]; simp [Builtin.List.listTooLong,sizeLine]; omega
  have e:List.foldl (fun x1 x2=>x1++x2) #[] (List.replicate (if (#[Value.int 0 t]:Array Value).isEmpty=true then 0 else x.toNat) #[Value.int 0 t])=(List.replicate x.toNat (Value.int 0 t)).toArray:=by
    rw [listMul_foldl_if]
    simp [List.flatten_replicate_singleton]
  have M:=AutoListH.list___mul___list_int_3 s₁.heap.objs.size #[.int 0 t] 0 x u f1 f2 f3
  refine wpAny_binaryOp_repeat_ref (T:="list") (U:="int") (by decide) ⟨_,hl,rfl⟩ (fun s'=>typeIs_int s' x u) noFill_list_mul PySem.F.fills_int_mul PySem.F.slot_int_rmul repeat_list PySem.F.slot_int_index.lookup
    (call_meets PySem.F.slot_int_rmul (typeIs_int s₃ x u) PySem.F.entry_int_rmul (PySem.F.args_int_rmul_2 _ _) (int___rmul___int_list x u _ _ _)
      ⟨hl,rfl,⟨_,hl,rfl⟩,call_meets PySem.F.slot_list_mul ⟨_,hl,rfl⟩ PySem.F.entry_list_mul (PySem.F.args_list_mul_2 _ _) M ⟨hl,?_⟩⟩)
  rw [e]
  have hsz:=(k₂.trans k₃).2.2
  refine ⟨⟨list_push (Mine.zeros x.toNat),fun h' k=>?_⟩,(k₂.trans k₃).trans (K1.push (c.toks _ h₃))⟩
  unfold VRel
  exact ⟨_,_,rfl,⟨_,k _ _ (.inl ⟨_,_,rfl⟩) hsz (Heap.get?_push_size _ rfl)⟩,Mine.zeros x.toNat⟩
end
section
variable {F:Fx} {ρ ρ₁ ρ₂ ρ':List Slot} {g g₁ g':F.Γ} {l:List Addr}
theorem Run1.setE {x:Str} {px tp pos:Pos} {ie e:Expr} {ad:Addr} {ds:List Int} {k v:Int} (hv:∀ W s,(F.cx ρ g W).P s→VarAt F.env s.heap x (.ref ad)) (hi:DoesW F ρ g ie (.int k)) (h:DoesW F ρ g e (.int v)) (hWg:F.Wg ad) (hG:∀ h,F.G g h→IntsAt ad ds h)
    (hback:∀ h h',F.G g h→Heap.SameBut ad h h'→IntsAt ad (ds.set k.toNat v) h'→F.G g' h') (live:∀ h,F.G g' h→∀ b,F.Wg b→∃ o,h.get? b=some o) (h0:0≤k) (hk:k < ds.length) (hfit:ds.length < 4096)
    (hs:swapsWith e (some (.Subscript (.Name x px) ie tp)) pos.line F.env=pure false:=by rfl) (hd:(x == ("__debug__":Str))=false:=by decide) :
    Run1 F (.Assign [.Subscript (.Name x px) ie tp] e pos) ρ g ρ g':=fun W s E fr=>by
  refine wpAny_Assign_Subscript (wpAny_mono (h W s E fr) (fun rv s₁ q₁=>?_) fun _ _ q=>q) hs
  have xv:=q₁.1
  have k₁:=q₁.2
  try clear q₁
  have fr₁:=fr.keeps k₁
  refine wpAny_Name ((hv W s₁ fr₁).load F.hk ?_) hd
  refine wpAny_mono (hi W s₁ E fr₁) (fun ri s₂ q₂=>?_) fun _ _ q=>q
  have xi:=q₂.1
  have k₂:=q₂.2
  try clear q₂
  have fr₂:=fr₁.keeps k₂
  obtain ⟨t,rfl⟩:=xi.int'
  obtain ⟨u,rfl⟩:=xv.int'
  obtain ⟨rs,hy21_1⟩:=hG _ fr₂.gh
  have hp:=hy21_1.1
  have hr:=hy21_1.2
  clear hy21_1
  have hlen:=hr.length
  rw [List.length_map] at hlen
  refine setItem_plain hp h0 (by omega) (by omega) fun h' hl' hs'=>?_
  have gk:F.G g' h':=hback _ _ fr₂.gh hs' ⟨_,hl',by
    have:=list_set (i:=k.toNat) (x:=v) (t:=u) hr
    exact this.ints⟩
  have kk:=k₁.trans k₂
  refine ⟨rfl,W,fr₂.gmove ⟨h',s₂.toks,rfl⟩ kk.2.1 (fun b o hb e=>hs'.extBut b o (fun q=>hb (q ▸ hWg)) e) gk (live _ gk),⟨fun b o hb e=>hs'.extBut b o (fun q=>hb (q ▸ fr.wg _ hWg)) (kGet kk.1 b o e),Nat.le_trans kk.2.2 (Nat.le_of_eq hs'.1.symm),fun b hb=>.inl hb⟩⟩
theorem reverse_plain {prog:Program} {w:World} {A:Around} {E:Value→Shared→Prop} {s:Shared} {l:Addr} {rs:List Value} {Q:Value→Shared→Prop} (hl:s.heap.PlainList l rs.toArray) (hfit:rs.length < 4096)
    (hQ:∀ h',h'.PlainList l rs.reverse.toArray→Heap.SameBut l s.heap h'→Q .none { s with heap:=h' }):wpAny (model prog w) A (PySem.call (.builtin "list.reverse") [.ref l]) Q E s:=by
  obtain ⟨n,ho⟩:=hl
  refine call_meets PySem.F.slot_list_reverse ⟨_,ho,rfl⟩ PySem.F.entry_list_reverse (PySem.F.args_list_reverse_1 _) (AutoListH.list_reverse_list_0 l rs.toArray n (by rw [List.size_toArray,sizeLine_eq]; omega)) ⟨ho,hQ _ ?_ (Heap.SameBut.update ..)⟩
  have hpl:∃ n',Obj.mapSeq (fun xs=>xs.reverse) { cls:=.type "list",data:=.seq rs.toArray n }={ cls:=.type "list",data:=.seq rs.reverse.toArray n' }:=by
    unfold Obj.mapSeq
    simp only [List.reverse_toArray]
    exact ⟨_,rfl⟩
  obtain ⟨n',hpl⟩:=hpl
  exact ⟨n',by rw [Heap.get?_update_self _ ho (by rw [hpl]; rfl),hpl]⟩
theorem Run1.reverse {x:Str} {i:Nat} {px apos cpos pos:Pos} {vs:List V} (hx:F.ks[i]?=some x) (hi:ρ[i]?=some (.own vs)) (hf:vs.all V.flat=true) (hl:vs.length < 4096)
    (hsw:swapsWith (.Call (.Attribute (.Name x px) (Str.ofString "reverse") apos) [] [] cpos) none pos.line F.env=pure false:=by rfl)
    (hbase:attributeBase (.Name x px) (Str.ofString "reverse") F.env (eval (.Name x px) F.env)=eval (.Name x px) F.env:=by rfl)
    (hline:(apos.endLine == cpos.line)=true:=by rfl) (hd:(x == ("__debug__":Str))=false:=by decide) :
    Run1 F (.Expr (.Call (.Attribute (.Name x px) (Str.ofString "reverse") apos) [] [] cpos) pos) ρ g (ρ.set i (.own vs.reverse)) g:=fun W s E fr=>by
  refine wpAny_Expr ?_ (interactive_fn F.hk) hsw
  obtain ⟨m,cm,α,fr⟩:=fr
  have hz49:=fr.slot i x _ hx hi
  have hWa:=hz49.2.1
  have hw49_1:=hz49.2.2.2
  clear hz49
  obtain ⟨rs,hy49_1⟩:=hw49_1
  have hpl:=hy49_1.1
  have hvs:=hy49_1.2
  clear hy49_1
  have hlen:=hvs.rel.length
  refine wpAny_Call_method_lateS hbase rfl hline (fr.name hx hi ?_ hd)
  obtain ⟨n,ho⟩:=id hpl
  refine ⟨"list",_,PySem.F.plainAttrs_list,PySem.F.slot_list_reverse,PySem.F.type_list_reverse,⟨_,ho,rfl⟩,(fun a' e=>by cases e; exact ⟨_,ho,rfl⟩),Calls.callWith_builtin rfl (evalArgs_nil3 (reverse_plain hpl (by omega) fun h' hl' hs'=>?_))⟩
  refine ⟨rfl,W,⟨m,cm,α,fr.wrote hx hi hs' hl' ?_⟩,fr.wroteMv hx hi hs'⟩
  have rev:∀ {vs:List V} {rs:List Value} {h:Heap},VRels F.μ h vs rs→VRels F.μ h vs.reverse rs.reverse:=by
    intro vs
    induction vs with
    | nil=>intro rs h r; unfold VRels at r; subst r; exact .nil
    | cons v vs ih =>
      intro rs h r
      unfold VRels at r
      obtain ⟨y,rt,hy62_1⟩:=r
      have hx62_0:=hy62_1.1
      have a:=hy62_1.2.1
      have b:=hy62_1.2.2
      clear hy62_1
      subst hx62_0
      rw [List.reverse_cons,List.reverse_cons]
      exact (ih b).append (.cons a .nil)
  exact fun h' _=>rev (hvs.rel.flat hf)
theorem Walked.reversed {i:Nat} {x fn:Str} {px fp pos:Pos} {ds:List V} (hx:F.ks[i]?=some x) (hi:ρ[i]?=some (.val (.list ds))) (hfn:F.env.kindOf fn=some .globalImplicit) (hv:F.gl fn=some (.type "reversed")) (hf:ds.all V.flat=true)
    (hd:(x == ("__debug__":Str))=false:=by decide) (hd2:(fn == ("__debug__":Str))=false:=by decide) (hse:starEach [.Name x px] F.env=[(false,eval (.Name x px) F.env)]:=by rfl) (hp:(backTo pos (starEach [.Name x px] F.env)).any (·.1)=false:=by rfl) :
    Walked F ρ g (.Call (.Name fn fp) [.Name x px] [] pos) ds.reverse:=fun W s E fr=>by
  obtain ⟨m,cm,α,fr⟩:=fr
  obtain ⟨r,hy72_1⟩:=fr.slot i x _ hx hi
  have hat:=hy72_1.1
  have hr:=hy72_1.2
  clear hy72_1
  refine wpAny_Call_NameR (glob_name (c:=F.cx ρ g W) ⟨m,cm,α,fr⟩ hfn hv ?_ hd2)
  refine PySem.callWith_type hp (args_any (wpAny_items_cons (wpAny_Name ((hat.var F.hown fr.ic).load F.hk ?_) hd) hse) hse)
  have hr':=hr
  have hrel:=hr.rel
  unfold VRel at hrel
  obtain ⟨a,rs,hy78_1⟩:=hrel
  have hx78_0:=hy78_1.1
  have hpl:=hy78_1.2.1
  have hrs:=hy78_1.2.2
  clear hy78_1
  subst hx78_0
  have hlen:=hrs.length
  have hWa:¬ W a:=hr.avoid (by simp)
  obtain ⟨n,ho⟩:=id hpl
  have hlt:=Heap.lt_size ho
  refine Calls.spliced_nil (call_reversed_list hpl.isList ?_)
  have kp:K1 s { s with heap:=s.heap.push (revObj a ((rs.toArray.size:Int) - 1)) }:=K1.push fr.tk
  have hit:(s.heap.push (revObj a ((rs.toArray.size:Int) - 1))).IsRevIter s.heap.objs.size a ((rs.toArray.size:Int) - 1 - ((0:Nat):Int)):=⟨_,Heap.get?_push_size _ rfl,rfl,by simp [revObj]⟩
  have Wk:=Walks.listRev (prog:=F.prog) (w:=F.w) (A:=F.A) F.hh s.heap.objs.size a (Nat.ne_of_lt hlt) rs.toArray
  rw [show rs.toArray.size=ds.reverse.length by rw [List.size_toArray,List.length_reverse,hlen]] at Wk hit kp ⊢
  have Wk':Walks F.prog F.w F.A s.heap.objs.size [s.heap.objs.size,a] [s.heap.objs.size] ds.reverse.length (fun i v=>i < ds.reverse.length∧rs.toArray[ds.reverse.length - 1 - i]?=some v) _ :=
    ⟨Wk.sub,Wk.frame,fun i s Q E hi st hQ=>Wk.item i s Q E hi st fun v h' tk p=>hQ v h' tk ⟨hi,p⟩,Wk.done,Wk.self⟩
  refine wpAny_pyIter_revIter hit ⟨kp,_,_,_,_,rfl,Wk',⟨Nat.zero_le _,hit,hpl.isList.push _⟩,fun b hb=>?_,Nat.le_refl _,fun j v hj=>?_,fun j h st=>?_⟩
  · simp only [List.mem_cons,List.not_mem_nil,or_false] at hb
    rcases hb with rfl | rfl
    · exact ⟨fun q=>Nat.lt_irrefl _ (fr.lt _ q),_,Heap.get?_push_size _ rfl⟩
    · exact ⟨hWa,_,Heap.get?_push_of_some _ ho⟩
  · have hj':rs[ds.reverse.length - 1 - j]?=some v:=by simpa using hj.2
    obtain ⟨u,hy96_1⟩:=hrs.get' hj'
    have hu:=hy96_1.1
    have y:=hy96_1.2
    clear hy96_1
    refine ⟨u,?_,y.kept kp.1⟩
    have hjl:=hj.1
    rw [List.length_reverse] at hjl hu
    rw [List.getElem?_reverse hjl]
    exact hu
  · have hx102_0:=st.2.1
    try clear st
    obtain ⟨o,e1,e2,e3⟩:=hx102_0
    exact ⟨o,e1,seqish.not_fields e3 e2 (by decide)⟩
end
noncomputable def ks54:List Str:=["a","b","n"]
theorem ok54:ScOk (fScope 54) ks54:=⟨by decide,by decide,rfl⟩
theorem walk54 {D:Wd} {k:Nat} {t:Tok} (σ:Site D k) (hL:D.gl "_DIV_LIMIT"=some (.int 4000 t)) (hdm:D.gl "divmod"=some (.builtin "divmod")) {a b n:Int} (hn:0≤n) (ha:a.natAbs < 1073741824) (hb:b.natAbs < 1073741824) (hb0:b≠0) :
    Rets (σ.fx (fScope 54) ks54 ok54) (fBody 54) [.val (.int a),.val (.int b),.val (.int n)] () (.tup [.int (a.fdiv b),.int (a.fmod b)]) (fun _=>True):=by
  refine Rets.ifRet (x:=decide ((Builtin.Int.intBits a:Int) - n≤4000)) (fun W=>Tests.leI (.bin (.bitlen (.nm (Fx.var (i:=0) rfl rfl))) (.nm (Fx.var (i:=2) rfl rfl)) rfl) (.glb (knd (sc:=fScope 54) (by decide)) hL)) (fun _=>?_) (fun he=>?_)
  · exact Rets.ret (fun W=>.callB (knd (sc:=fScope 54) (by decide)) hdm (.cons (.nm (Fx.var (i:=0) rfl rfl)) (.cons (.nm (Fx.var (i:=1) rfl rfl)) .nil)) (.divmod hb0 ha hb)) (fun _ q=>q) fun _=>trivial
  · have h1:small a=true:=by unfold small; rw [Nat.blt_eq]; omega
    have h2:=intBits_small h1
    exact absurd (of_decide_eq_false he) (by omega)
noncomputable def iBody56:List Stmt:=(nest 56 1).1
noncomputable def iScope56:Scope:=(nest 56 1).2.1
noncomputable def iArgs56:Arguments:=(nest 56 1).2.2.1
noncomputable def iPos56:Pos:=(nest 56 1).2.2.2
noncomputable def iks56:List Str:=["x","L","R","mid","shift","upper","lower"]
theorem iok56:ScOkC iScope56 iks56:=⟨by decide,by decide,by decide,rfl⟩
structure K56 (ad:Addr) (f:Addr) (fd:FuncData) (n:Int) (h:Heap):Prop where
  fn:∃ o,h.get? f=some o∧o.data=.func fd
  code:h.CodeRec fd.code fd.qualname
  digits:∃ c,fd.closure.lookup (Str.ofString "a_digits")=some c∧h.IsCell c (some (.ref ad))
  n:∃ c t,fd.closure.lookup (Str.ofString "n")=some c∧h.IsCell c (some (.int n t))
  inner:∃ c,fd.closure.lookup (Str.ofString "inner")=some c∧h.IsCell c (some (.ref f))
theorem K56.keeps {ad f:Addr} {fd:FuncData} {n:Int} {h h':Heap} (x:K56 ad f fd n h) (k:∀ b o,h.get? b=some o→h'.get? b=some o):K56 ad f fd n h' where
  fn:=let ⟨o,e,q⟩:=x.fn; ⟨o,k _ _ e,q⟩
  code:=x.code.keeps k
  digits:=let ⟨c,e,q⟩:=x.digits; ⟨c,e,q.keeps k⟩
  n:=let ⟨c,t,e,q⟩:=x.n; ⟨c,t,e,q.keeps k⟩
  inner:=let ⟨c,e,q⟩:=x.inner; ⟨c,e,q.keeps k⟩
section
variable {D:Wd} {X:Gw D} {ad f:Addr} {had:∀ b o,D.h0.get? b=some o→b≠ad} {qual:Str} {clos:List (Str × Addr)} {doc pm cv ctv:Value} {ds:List Int} {n:Nat} {μ:Addr} {g:X.Γ}
theorem leaf56 (hnl:ad ∉ X.l) {x Li Ri:Int} {L:Nat} (hLi:Li=L) (hRi:Ri=(L:Int)+1) (hL:L < ds.length) (hfit:ds.length < 4096) {A:Around} (hA:AOk 1 A) (s:Shared) (E:Value→Shared→Prop) (rs:List Value) (hs:Ext D.h0 s.heap) (ht:1≤s.toks) (hg:(X.ext ad had).G (g,ds) s.heap)
    (hK:K56 ad f (fnX "inner" qual iArgs56 iBody56 iScope56 clos .none .none doc pm none cv ctv) n (hideAll s.heap (ad :: X.l))) (hrs:VRels μ s.heap [.int x,.int Li,.int Ri] rs) :
    wpAny (model D.prog D.w) A (PySem.call (.ref f) rs) (fun r s'=>VX (fun b=>b∈ad :: X.l) μ s'.heap .none r∧(X.ext ad had).G (g,ds.set L x) s'.heap∧Mg (ad :: X.l) s s') E s:=by
  subst hLi hRi
  obtain ⟨o,hy40_1⟩:=hK.fn
  have ho:=hy40_1.1
  have hod:=hy40_1.2
  clear hy40_1
  refine D.callC (X.ext ad had) hA (K:=K56 ad f (fnX "inner" qual iArgs56 iBody56 iScope56 clos .none .none doc pm none cv ctv) n) (ks:=iks56) (vs:=[.int x,.int L,.int (L+1)]) (v:=.none) (μ:=μ) (g:=(g,ds)) (g':=(g,ds.set L x)) 4 (of_hideAll _ ho) hod (hK.code.keeps fun b o e=>of_hideAll _ e) rfl rfl rfl iok56 (by show 3≤7; decide)
    (len3 fun _ _ _=>rfl) ?_ rfl rfl E rs hs ht hg hK fun h' _=>hrs.flat rfl
  intro σ hKσ hμ
  obtain ⟨cd,hy44_1⟩:=hKσ.digits
  have hcd:=hy44_1.1
  have hcd2:=hy44_1.2
  clear hy44_1
  apply Rets.ends
  refine Rets.ifRet (x:=(((L:Int)+1) == (L:Int)+1)) (fun W=>Tests.cmp (.bin (.nm (Fx.var (i:=1) rfl rfl)) .int rfl) (.nm (Fx.var (i:=2) rfl rfl)) rfl) (fun _=>?_) (fun he=>?_)
  · refine Rets.cons (ρ₁:=[.val (.int x),.val (.int L),.val (.int (L+1)),.non,.non,.non,.non]) (g₁:=(g,ds.set L x)) ?_ Rets.retNone
    apply Run1.setE (F:=σ.fxc iScope56 iks56 iok56 clos (X.ext ad had)) (ad:=ad) (ds:=ds) (k:=L) (v:=x)
    · exact fun W=>Fx.atF (by show iScope56.names.lookup _=_; decide) hcd hcd2
    · exact fun W=>.nm (Fx.var (i:=1) rfl rfl)
    · exact fun W=>.nm (Fx.var (i:=0) rfl rfl)
    · exact .head _
    · exact fun h q=>q.2
    · exact fun h h' q hs' hi=>⟨X.Gok _ _ _ q.1 fun b o hb e=>hs'.extBut b o (fun z=>by
        rcases hb with hb | hb
        · exact hnl (z ▸ hb)
        · obtain ⟨rs,⟨n,e2⟩,_⟩:=q.2; rw [z,e2] at e; cases e; exact not_cod hb) e,hi⟩
    · exact (X.ext ad had).live _
    · omega
    · omega
    · exact hfit
  · exact absurd he (by simp)
theorem node56 (hnl:ad ∉ X.l) {x:Int} (hx:0≤x) (hx':x < 4096) {L:Nat} (hL:L+1 < ds.length) (hfit:ds.length < 4096) (hn:n≤62) {A:Around} (hA:AOk 2 A) (s:Shared) (E:Value→Shared→Prop) (rs:List Value) (hs:Ext D.h0 s.heap) (ht:1≤s.toks) (hg:(X.ext ad had).G (g,ds) s.heap)
    (hK:K56 ad f (fnX "inner" qual iArgs56 iBody56 iScope56 clos .none .none doc pm none cv ctv) n (hideAll s.heap (ad :: X.l))) (hrs:VRels μ s.heap [.int x,.int L,.int (L+2)] rs) :
    wpAny (model D.prog D.w) A (PySem.call (.ref f) rs) (fun r s'=>VX (fun b=>b∈ad :: X.l) μ s'.heap .none r∧(X.ext ad had).G (g,(ds.set L (Builtin.bitXor x (x.fdiv (2 ^ n) * 2 ^ n))).set (L+1) (x.fdiv (2 ^ n))) s'.heap∧Mg (ad :: X.l) s s') E s:=by
  obtain ⟨o,hy66_1⟩:=hK.fn
  have ho:=hy66_1.1
  have hod:=hy66_1.2
  clear hy66_1
  refine D.callC (X.ext ad had) hA (K:=K56 ad f (fnX "inner" qual iArgs56 iBody56 iScope56 clos .none .none doc pm none cv ctv) n) (ks:=iks56) (vs:=[.int x,.int L,.int (L+2)]) (v:=.none) (μ:=μ) (g:=(g,ds)) (g':=(g,(ds.set L (Builtin.bitXor x (x.fdiv (2 ^ n) * 2 ^ n))).set (L+1) (x.fdiv (2 ^ n)))) 4 (of_hideAll _ ho) hod (hK.code.keeps fun b o e=>of_hideAll _ e) rfl rfl rfl iok56 (by show 3≤7; decide)
    (len3 fun _ _ _=>rfl) ?_ rfl rfl E rs hs ht hg hK fun h' _=>hrs.flat rfl
  intro σ hKσ hμ
  obtain ⟨cd,hy70_1⟩:=hKσ.digits
  have hcd:=hy70_1.1
  have hcd2:=hy70_1.2
  clear hy70_1
  obtain ⟨cn,tn,hy71_1⟩:=hKσ.n
  have hcn:=hy71_1.1
  have hcn2:=hy71_1.2
  clear hy71_1
  obtain ⟨ci,hy72_1⟩:=hKσ.inner
  have hci:=hy72_1.1
  have hci2:=hy72_1.2
  clear hy72_1
  obtain ⟨o',hy73_1⟩:=hKσ.fn
  have ho':=hy73_1.1
  have hod':=hy73_1.2
  clear hy73_1
  have em:((L:Int)+(L+2)).fdiv (2 ^ (1:Int).toNat)=((L+1:Nat):Int):=by
    have e:(2:Int) ^ (1:Int).toNat=2:=by decide
    rw [e,Int.fdiv_eq_ediv_of_nonneg _ (by decide)]
    omega
  have es:(((L+1:Nat):Int) - (L:Int)) * (n:Int)=(n:Int):=by
    have:((L+1:Nat):Int) - (L:Int)=1:=by omega
    rw [this,Int.one_mul]
  have hp:(0:Int) < 2 ^ n:=Int.pow_pos (by decide)
  have hup:0≤x.fdiv (2 ^ n)∧x.fdiv (2 ^ n)≤x:=by
    rw [Int.fdiv_eq_ediv_of_nonneg _ (Int.le_of_lt hp)]
    exact ⟨Int.ediv_nonneg hx (Int.le_of_lt hp),Int.ediv_le_self _ hx⟩
  have dn:∀ {ρ g W p},Does ((σ.fxc iScope56 iks56 iok56 clos (X.ext ad had)).cx ρ g W) (.Name "n" p) (.int n):=fun {ρ g W p}=>.nm (Fx.varF (c:=cn) (r:=.int n tn) (by show iScope56.names.lookup _=_; decide) hcn hcn2 (.i _ _))
  have e1:(2:Int) ^ (n:Int).toNat=2 ^ n:=by rw [Int.toNat_natCast]
  have hci':∀ {ρ g W} s,((σ.fxc iScope56 iks56 iok56 clos (X.ext ad had)).cx ρ g W).P s→VarAt (σ.fxc iScope56 iks56 iok56 clos (X.ext ad had)).env s.heap "inner" (.ref f):=fun {ρ g W}=>Fx.atF (by show iScope56.names.lookup _=_; decide) hci hci2
  have call:∀ {ρ W} {ds':List Int} {x' Li Ri:Int} (L':Nat),Li=L'→Ri=(L':Int)+1→L' < ds'.length→ds'.length < 4096→GivesG ((σ.fxc iScope56 iks56 iok56 clos (X.ext ad had)).cx ρ (g,ds') W) (ad :: X.l) (.ref f) [.int x',.int Li,.int Ri] .none ((X.ext ad had).G (g,ds'.set L' x')):=fun {ρ W ds' x' Li Ri} L' h1 h2 h3 h4 s E rs hP hr=>by
    have hP':=hP
    obtain ⟨m,cm,α,x⟩:=hP
    have hs':Ext D.h0 s.heap:=fun b o e=>x.ic.toInCall.keep b o (hideAll_get _ (σ.hS b o e) ((X.ext ad had).hid b o e))
    rw [show ((σ.fxc iScope56 iks56 iok56 clos (X.ext ad had)).cx ρ (g,ds') W).μ=μ from hμ] at hr ⊢
    refine leaf56 hnl h1 h2 h3 h4 (A:=σ.A) (σ.hA.le (by omega)) s E rs hs' x.tk x.gh (hKσ.keeps fun b o e=>?_) hr.rel
    exact hideAll_get _ (x.ic.toInCall.keep b o e) fun q=>by rw [show (hideAll σ.S0.heap (X.ext ad had).l).get? b=none from hideAll_none _ q] at e; cases e
  refine Ends.cons (ρ₁:=[.val (.int x),.val (.int L),.val (.int (L+2)),.non,.non,.non,.non]) (g₁:=(g,ds)) ?_ ?_
  · exact Run1.iff (x:=((L:Int)+1) == (L:Int)+2) (fun W=>Tests.cmp (.bin (.nm (Fx.var (i:=1) rfl rfl)) .int rfl) (.nm (Fx.var (i:=2) rfl rfl)) rfl) (fun q=>absurd (eq_of_beq q) (by omega)) fun _=>.nil
  refine Ends.cons (ρ₁:=[.val (.int x),.val (.int L),.val (.int (L+2)),.val (.int ((L+1:Nat):Int)),.non,.non,.non]) (g₁:=(g,ds)) ?_ ?_
  · rw [← em]
    apply Run1.asg (F:=σ.fxc iScope56 iks56 iok56 clos (X.ext ad had)) (i:=3)
    · exact fun W=>.binS (.bin (.nm (Fx.var (i:=1) rfl rfl)) (.nm (Fx.var (i:=2) rfl rfl)) rfl) .int (.shr (by decide))
    · rfl
    · rfl
  refine Ends.cons (ρ₁:=[.val (.int x),.val (.int L),.val (.int (L+2)),.val (.int ((L+1:Nat):Int)),.val (.int n),.non,.non]) (g₁:=(g,ds)) ?_ ?_
  · refine Eq.mp (congrArg (fun z:Int=>Run1 (σ.fxc iScope56 iks56 iok56 clos (X.ext ad had)) _ _ _ ([.val (.int x),.val (.int L),.val (.int (L+2)),.val (.int ((L+1:Nat):Int)),.val (.int z),.non,.non]:List Slot) _) es) ?_
    apply Run1.asg (F:=σ.fxc iScope56 iks56 iok56 clos (X.ext ad had)) (i:=4)
    · refine fun W=>.bin (.bin (.nm (Fx.var (i:=3) rfl rfl)) (.nm (Fx.var (i:=1) rfl rfl)) rfl) dn (if_pos ?_)
      unfold small
      rw [Nat.blt_eq]
      omega
    · rfl
    · rfl
  refine Ends.cons (ρ₁:=[.val (.int x),.val (.int L),.val (.int (L+2)),.val (.int ((L+1:Nat):Int)),.val (.int n),.val (.int (x.fdiv (2 ^ n))),.non]) (g₁:=(g,ds)) ?_ ?_
  · refine Eq.mp (congrArg (fun z:Int=>Run1 (σ.fxc iScope56 iks56 iok56 clos (X.ext ad had)) _ _ _ ([.val (.int x),.val (.int L),.val (.int (L+2)),.val (.int ((L+1:Nat):Int)),.val (.int n),.val (.int (x.fdiv z)),.non]:List Slot) _) e1) ?_
    apply Run1.asg (F:=σ.fxc iScope56 iks56 iok56 clos (X.ext ad had)) (i:=5)
    · exact fun W=>.binS (.nm (Fx.var (i:=0) rfl rfl)) (.nm (Fx.var (i:=4) rfl rfl)) (.shr (by omega))
    · rfl
    · rfl
  refine Ends.cons (ρ₁:=[.val (.int x),.val (.int L),.val (.int (L+2)),.val (.int ((L+1:Nat):Int)),.val (.int n),.val (.int (x.fdiv (2 ^ n))),.val (.int (Builtin.bitXor x (x.fdiv (2 ^ n) * 2 ^ n)))]) (g₁:=(g,ds)) ?_ ?_
  · refine Eq.mp (congrArg (fun z:Int=>Run1 (σ.fxc iScope56 iks56 iok56 clos (X.ext ad had)) _ _ _ ([.val (.int x),.val (.int L),.val (.int (L+2)),.val (.int ((L+1:Nat):Int)),.val (.int n),.val (.int (x.fdiv (2 ^ n))),.val (.int (Builtin.bitXor x (x.fdiv (2 ^ n) * z)))]:List Slot) _) e1) ?_
    apply Run1.asg (F:=σ.fxc iScope56 iks56 iok56 clos (X.ext ad had)) (i:=6)
    · exact fun W=>.binS (.nm (Fx.var (i:=0) rfl rfl)) (.binS (.nm (Fx.var (i:=5) rfl rfl)) (.nm (Fx.var (i:=4) rfl rfl)) (.shl (by omega) (by omega) (by omega))) .xor
    · rfl
    · rfl
  refine Ends.cons (ρ₁:=[.val (.int x),.val (.int L),.val (.int (L+2)),.val (.int ((L+1:Nat):Int)),.val (.int n),.val (.int (x.fdiv (2 ^ n))),.val (.int (Builtin.bitXor x (x.fdiv (2 ^ n) * 2 ^ n)))]) (g₁:=(g,ds.set L (Builtin.bitXor x (x.fdiv (2 ^ n) * 2 ^ n)))) ?_ ?_
  · apply Run1.exprG (F:=σ.fxc iScope56 iks56 iok56 clos (X.ext ad had)) (l:=ad :: X.l)
    · exact fun b=>Iff.rfl
    · exact fun W=>.callV hci' (Fx.old ho') hod' (.cons (.flat (.nm (Fx.var (i:=6) rfl rfl))) (.cons (.flat (.nm (Fx.var (i:=1) rfl rfl))) (.cons (.flat (.nm (Fx.var (i:=3) rfl rfl))) .nil))) (call L rfl (by omega) (by omega) hfit)
    · exact (X.ext ad had).live _
  refine Ends.cons (ρ₁:=[.val (.int x),.val (.int L),.val (.int (L+2)),.val (.int ((L+1:Nat):Int)),.val (.int n),.val (.int (x.fdiv (2 ^ n))),.val (.int (Builtin.bitXor x (x.fdiv (2 ^ n) * 2 ^ n)))]) (g₁:=(g,(ds.set L (Builtin.bitXor x (x.fdiv (2 ^ n) * 2 ^ n))).set (L+1) (x.fdiv (2 ^ n)))) ?_ ?_
  · apply Run1.exprG (F:=σ.fxc iScope56 iks56 iok56 clos (X.ext ad had)) (l:=ad :: X.l)
    · exact fun b=>Iff.rfl
    · exact fun W=>.callV hci' (Fx.old ho') hod' (.cons (.flat (.nm (Fx.var (i:=5) rfl rfl))) (.cons (.flat (.nm (Fx.var (i:=3) rfl rfl))) (.cons (.flat (.nm (Fx.var (i:=2) rfl rfl))) .nil))) (call (L+1) rfl (by omega) (by rw [List.length_set]; omega) (by rw [List.length_set]; omega))
    · exact (X.ext ad had).live _
  exact Ends.nil
end
section
variable {prog:Program} {w:World} {A:Around} {E:Value→Shared→Prop} {s:Shared}
theorem pop_plain {l:Addr} {rs:List Value} {k:Int} {t:Tok} {y:Value} {Q:Value→Shared→Prop} (hl:s.heap.PlainList l rs.toArray) (h0:0≤k) (hk:rs[k.toNat]?=some y) (hfit:rs.length < 4096)
    (hQ:∀ h',h'.PlainList l (rs.eraseIdx k.toNat).toArray→Heap.SameBut l s.heap h'→Q y { s with heap:=h' }):wpAny (model prog w) A (PySem.call (.builtin "list.pop") [.ref l,.int k t]) Q E s:=by
  obtain ⟨n,ho⟩:=hl
  have hlt:k.toNat < rs.length:=(List.getElem?_eq_some_iff.mp hk).1
  have hf:Builtin.List.listFitsIndex k=true:=fitsIndex_of h0 (by omega)
  have hsq:seqIndex? k rs.toArray.size=some k.toNat:=by
    rw [List.size_toArray]
    unfold seqIndex?
    have e1:¬ k < 0:=by omega
    have e2:(0≤k∧k < (rs.length:Int)):=by omega
    simp [e1,e2]
  refine call_meets PySem.F.slot_list_pop ⟨_,ho,rfl⟩ PySem.F.entry_list_pop (PySem.F.args_list_pop_2 _ _) (PySem.MeetsSeq.list_pop_at l rs.toArray n k t k.toNat y hf hsq (by simpa using hk) (by rw [List.size_toArray,sizeLine_eq]; omega)) ⟨ho,hQ _ ?_ (Heap.SameBut.update ..)⟩
  have e1:rs.toArray.eraseIdxIfInBounds k.toNat=(rs.eraseIdx k.toNat).toArray:=by
    apply Array.toList_inj.mp
    simp [Array.toList_eraseIdxIfInBounds]
  have hpl:∃ n',Obj.mapSeq (fun xs=>xs.eraseIdxIfInBounds k.toNat) { cls:=.type "list",data:=.seq rs.toArray n }={ cls:=.type "list",data:=.seq (rs.eraseIdx k.toNat).toArray n' }:=by
    unfold Obj.mapSeq
    simp only [e1]
    exact ⟨_,rfl⟩
  obtain ⟨n',hpl⟩:=hpl
  exact ⟨n',by rw [Heap.get?_update_self _ ho (by rw [hpl]; rfl),hpl]⟩
end
section
variable {F:Fx} {ρ:List Slot} {g:F.Γ} {W:Addr→Prop} {m cm:Str→Option Value} {α:Nat→Addr} {s:Shared}
theorem FrP.wrote2 {i:Nat} {x:Str} {vs vs':List V} {rs':List Value} {h':Heap} {tk:Nat} (fr:FrP F ρ g W m cm α s) (hx:F.ks[i]?=some x) (hi:ρ[i]?=some (.own vs)) (keep:∀ b o,b≠α i→s.heap.get? b=some o→h'.get? b=some o) (ht:1≤tk)
    (hl:h'.PlainList (α i) rs'.toArray) (hf:vs'.all V.flat=true) (hv:VRels F.μ h' vs' rs'):FrP F (ρ.set i (.own vs')) g W m cm α { s with heap:=h',toks:=tk }:=by
  have hz33:=fr.slot i x _ hx hi
  have hat:=hz33.1
  have hWa:=hz33.2.1
  have hx33_0:=hz33.2.2.1
  have hw33_1:=hz33.2.2.2
  clear hz33
  obtain ⟨hg,hS⟩:=hx33_0
  obtain ⟨rs,hy33_1⟩:=hw33_1
  have hpl:=hy33_1.1
  have hvs:=hy33_1.2
  clear hy33_1
  have keepW:∀ b o,¬ W b→s.heap.get? b=some o→h'.get? b=some o:=fun b o hb e=>keep b o (fun q=>hb (q ▸ hWa)) e
  obtain ⟨h₀,t₀,hsame⟩:=fr.ic.toInCall.same
  have hlt:i < ρ.length:=(List.getElem?_eq_some_iff.mp hi).1
  refine ⟨⟨⟨⟨h',tk,by rw [hsame]⟩,fr.ic.toInCall.ns.at' fun o e=>keep _ o (Ne.symm (fr.apart (.inl rfl) hpl)) e,fun b o e=>keep b o (Nat.ne_of_lt (Nat.lt_of_lt_of_le (Heap.lt_size e) hS)) (fr.ic.toInCall.keep b o e),fr.ic.toInCall.fresh⟩,
      fun n c hc=>let ⟨o,ho,hd⟩:=fr.ic.cell n c hc; ⟨o,keep c o (Ne.symm (fr.apart (.inr ⟨n,hc⟩) hpl)) ho,hd⟩,fr.ic.apart,fr.ic.above⟩,ht,fr.wL,fr.wC,fun b hb=>?_,fr.gW,F.Gok _ _ _ fr.gh fun b o hb e=>keep b o (fun q=>hb.elim (fun hb=>hg (q ▸ hb)) fun hb=>by obtain ⟨n,e2⟩:=hpl; rw [q,e2] at e; cases e; exact not_cod hb) e,fun j y sl hy hs=>?_,fun j k y z us ws hy hz hj hk e=>?_⟩
  · by_cases hba:b=α i
    · subst hba; obtain ⟨n,e⟩:=hl; exact ⟨_,e⟩
    · obtain ⟨o,ho⟩:=fr.live b hb; exact ⟨o,keep b o hba ho⟩
  · by_cases hji:j=i
    · subst hji
      rw [hx] at hy; cases hy
      rw [List.getElem?_set_self hlt] at hs; cases hs
      exact ⟨hat,hWa,⟨hg,hS⟩,rs',hl,fun _ _=>hv.flat hf⟩
    · rw [List.getElem?_set_ne (Ne.symm hji)] at hs
      refine (fr.slot j y sl hy hs).grow (fun _ q=>q) (fun _ q=>q) (fun b o hb e=>⟨hb,keepW b o hb e⟩) fun us hus=>⟨rfl,fun o e=>keep _ o (fun q=>hji ?_) e⟩
      subst hus
      exact fr.inj j i y x us vs hy hx hs hi q
  · have conv:∀ (j:Nat) (us:List V),(ρ.set i (.own vs'))[j]?=some (Slot.own us)→∃ us',ρ[j]?=some (Slot.own us'):=fun j us hj=>by
      by_cases hji:j=i
      · subst hji; exact ⟨vs,hi⟩
      · rw [List.getElem?_set_ne (Ne.symm hji)] at hj; exact ⟨us,hj⟩
    obtain ⟨us',h1⟩:=conv j us hj
    obtain ⟨ws',h2⟩:=conv k ws hk
    exact fr.inj j k y z us' ws' hy hz h1 h2 e
theorem Run1.asgOF {x:Str} {i:Nat} {px pos:Pos} {e:Expr} {vs:List V} (h:DoesFW F ρ g e (.list vs)) (hf:vs.all V.flat=true) (hx:F.ks[i]?=some x)
    (hs:swapsWith e (some (.Name x px)) pos.line F.env=pure false:=by rfl):Run1 F (.Assign [.Name x px] e pos) ρ g (ρ.set i (.own vs)) g:=fun W s E fr=>by
  refine wpAny_Assign_Name (wpAny_mono (h W s E fr) (fun r s₁ q=>?_) fun _ _ q=>q) hs
  have hx62_0:=q.1
  have k:=q.2
  try clear q
  obtain ⟨hr,hn⟩:=hx62_0
  have hr':=hr
  unfold VRel at hr
  obtain ⟨a,rs,hy65_1⟩:=hr
  have hx65_0:=hy65_1.1
  have hp:=hy65_1.2.1
  have hrs:=hy65_1.2.2
  clear hy65_1
  subst hx65_0
  have ha:s.heap.objs.size≤a:=Nat.le_of_not_lt ((hn.vx (W:=fun b=>b < s.heap.objs.size) fun _ q=>q).avoid (by simp))
  exact wpAny_mono (fr.storeOwn k ha hx hp (fun h'=>hrs.flat hf)) (fun _ s₂ z=>let ⟨W',z1,z2⟩:=z; ⟨rfl,W',z1,z2⟩) fun _ _ q=>q
end
noncomputable def ks56:List Str:=["a","n","a_digits","inner"]
theorem ok56:ScOk (fScope 56) ks56:=⟨by decide,by decide,rfl⟩
noncomputable def q56:Str:="_int2digits"++".<locals>."++"inner"
noncomputable def qs56:List (Pos × Str):=[(iPos56,q56)]
noncomputable def digs (a:Int) (n m:Nat):List Int:=if m=1 then [a] else [Builtin.bitXor a (a.fdiv (2 ^ n) * 2 ^ n),a.fdiv (2 ^ n)]
theorem FrP.cellH {F:Fx} {ρ:List Slot} {g:F.Γ} {W:Addr→Prop} {m cm:Str→Option Value} {α:Nat→Addr} {s:Shared} (x:FrP F ρ g W m cm α s) {y:Str} {r:Value} {l:List Addr} (hl:∀ b,b∈l→F.Wg b) (hk:F.env.kindOf y=some .cell) (h:At F.env m cm y r) :
    ∃ c,F.env.cells.lookup y=some c∧(hideAll s.heap l).IsCell c (some r):=by
  obtain ⟨c,hy13_1⟩:=x.cell hk h
  have hc:=hy13_1.1
  have hw13_2:=hy13_1.2
  clear hy13_1
  obtain ⟨o,hy13_2⟩:=hw13_2
  have ho:=hy13_2.1
  have hd:=hy13_2.2
  clear hy13_2
  exact ⟨c,hc,o,hideAll_get _ ho fun q=>(x.gW c (hl c q)).2.2 y c ((F.hown y hk).trans hc) rfl,hd⟩
theorem walk56 {D:Wd} {k:Nat} (N:Nst D) {X:Gw D} {c P:Addr} (T:HasTab X c P qs56) (σ:Site D k) (hc:σ.code=.ref c) (hq:σ.qual="_int2digits"++".<locals>.") (hlen:D.gl "len"=some (.builtin "len")) (g:X.Γ) (hk:2≤k)
    {a:Int} {n m:Nat} (ha:0 < a) (ha':a < 4096) (hn0:0 < n) (hn:n≤62) (hm:((Builtin.Int.intBits a:Int)+n - 1).fdiv n=m) (hm2:m=1∨m=2) :
    Rets (σ.fxg (fScope 56) ks56 ok56 X) (fBody 56) [.val (.int a),.val (.int n),.non,.non] g (.list ((digs a n m).map .int)) (X.G g):=by
  have hqe:qualnameIn (σ.fxg (fScope 56) ks56 ok56 X).env (Str.ofString "inner") (Str.ofString "inner")=q56:=by
    show (if _ then _ else σ.qual++_)=_
    rw [hq]; rfl
  have hsm:small a=true:=by unfold small; rw [Nat.blt_eq]; omega
  have hbits:=intBits_small hsm
  refine Rets.cons (ρ₁:=[.val (.int a),.val (.int n),.own ((List.replicate m (0:Int)).map .int),.non]) (g₁:=g) ?_ ?_
  · have e:(List.replicate (((Builtin.Int.intBits a:Int)+n - 1).fdiv n).toNat (0:Int))=List.replicate m 0:=by rw [hm,Int.toNat_natCast]
    rw [← e]
    apply Run1.asgOF (F:=σ.fxg (fScope 56) ks56 ok56 X) (i:=2)
    · refine fun W=>DoesF.zeros .int (.bin (.bin (.bin (.bitlen (.nm (Fx.var (i:=0) rfl rfl))) (.nm (Fx.var (i:=1) rfl rfl)) rfl) .int rfl) (.nm (Fx.var (i:=1) rfl rfl)) (if_pos ⟨by omega,?_,by omega⟩)) (by omega) (by omega)
      unfold small
      rw [Nat.blt_eq]
      omega
    · exact List.all_eq_true.mpr fun v hv=>by obtain ⟨x,_,rfl⟩:=List.mem_map.mp hv; rfl
    · rfl
  refine Rets.cons (ρ₁:=[.val (.int a),.val (.int n),.own ((List.replicate m (0:Int)).map .int),.adr (Made "inner" q56 iArgs56 iBody56 iScope56 (σ.fxg (fScope 56) ks56 ok56 X).env.cells (σ.fxg (fScope 56) ks56 ok56 X).S0.heap.objs.size)]) (g₁:=g) ?_ ?_
  · rw [← hqe]
    apply Run1.defN (F:=σ.fxg (fScope 56) ks56 ok56 X) N (i:=3) (c:=c) (P:=P) (qs:=qs56)
    · rfl
    · exact fun W s ⟨_,_,_,x⟩ b o e=>x.ic.toInCall.keep b o (hideAll_get _ (σ.hS b o e) (X.hid b o e))
    · rfl
    · exact hc
    · exact T.C
    · exact T.mem
    · exact T.out
    · exact T.tab g
    · rw [hqe]; exact .head _
    · rw [hqe]; intro y hy; rw [List.mem_singleton.mp hy]; exact .inl rfl
    · exact T.qs
    · exact T.back g
    · exact Site.free (σ:=σ) (sc:=fScope 56) (by decide)
    · exact T.live g
  intro W s E fr
  obtain ⟨ad,had,hy51_1⟩:=Fr1.toExt (i:=2) (x:="a_digits") (ds:=List.replicate m 0) fr rfl rfl rfl
  have hnl:=hy51_1.1
  have hWad:=hy51_1.2.1
  have fr':=hy51_1.2.2
  clear hy51_1
  have r3:Run1 (σ.fxg (fScope 56) ks56 ok56 (X.ext ad had)) ((fBody 56).getD 2 (.Pass ⟨0,0,0,0⟩)) [.val (.int a),.val (.int n),.adr (fun r _=>r=.ref ad),.adr (Made "inner" q56 iArgs56 iBody56 iScope56 (σ.fxg (fScope 56) ks56 ok56 X).env.cells (σ.fxg (fScope 56) ks56 ok56 X).S0.heap.objs.size)] (g,List.replicate m 0)
      [.val (.int a),.val (.int n),.adr (fun r _=>r=.ref ad),.adr (Made "inner" q56 iArgs56 iBody56 iScope56 (σ.fxg (fScope 56) ks56 ok56 X).env.cells (σ.fxg (fScope 56) ks56 ok56 X).S0.heap.objs.size)] (g,digs a n m):=by
    have htr:truthV (.int a)=some true:=by
      show some (a != 0)=_
      rw [bne_iff_ne.mpr (by omega:a≠0)]
    refine Run1.iff (x:=true) (fun W=>Tests.val (.nm (Fx.var (i:=0) rfl rfl)) htr) (fun _=>Runs.cons ?_ .nil) (fun q=>nomatch q)
    apply Run1.exprG (F:=σ.fxg (fScope 56) ks56 ok56 (X.ext ad had)) (l:=ad :: X.l)
    · exact fun b=>Iff.rfl
    · refine fun W=>DoesG.here fun s hs=>?_
      obtain ⟨m',cm,α,x⟩:=id hs
      obtain ⟨rd,hy62_1⟩:=x.slot 2 "a_digits" _ rfl rfl
      have ad':=hy62_1.1
      have vd:=hy62_1.2
      clear hy62_1
      obtain ⟨rn,hy63_1⟩:=x.slot 1 "n" _ rfl rfl
      have an:=hy63_1.1
      have vn:=hy63_1.2
      clear hy63_1
      obtain ⟨rf,hy64_1⟩:=x.slot 3 "inner" _ rfl rfl
      have af:=hy64_1.1
      have vf:=hy64_1.2
      clear hy64_1
      have hidW:∀ b o,seqish o→¬ W b→s.heap.get? b=some o→(hideAll s.heap (ad :: X.l)).get? b=some o:=fun b o _ hb e=>hideAll_get _ e fun q=>hb (x.gW b q).1
      have e1:rd=.ref ad:=vd s.heap fun _ _ _ _ e=>e
      subst e1
      obtain ⟨f,clos,doc,pm,cv,ctv,hy68_1⟩:=vf _ hidW
      have hx68_0:=hy68_1.1
      have hNf:=hy68_1.2.1
      have hf:=hy68_1.2.2.1
      have hcd:=hy68_1.2.2.2.1
      have hcl:=hy68_1.2.2.2.2
      clear hy68_1
      subst hx68_0
      have kc:∀ {y},(fScope 56).names.lookup y=some .cell→(σ.fxg (fScope 56) ks56 ok56 (X.ext ad had)).env.kindOf y=some .cell:=fun h=>h
      obtain ⟨cd,hy70_1⟩:=x.cellH (l:=ad :: X.l) (fun b q=>q) (kc (by decide)) ad'
      have hcd1:=hy70_1.1
      have hcd2:=hy70_1.2
      clear hy70_1
      obtain ⟨cn,hy71_1⟩:=x.cellH (l:=ad :: X.l) (fun b q=>q) (kc (by decide)) an
      have hcn1:=hy71_1.1
      have hcn2:=hy71_1.2
      clear hy71_1
      obtain ⟨ci,hy72_1⟩:=x.cellH (l:=ad :: X.l) (fun b q=>q) (kc (by decide)) af
      have hci1:=hy72_1.1
      have hci2:=hy72_1.2
      clear hy72_1
      obtain ⟨tn,rfl⟩:=vn.rel.int'
      have hK:K56 ad f (fnX "inner" q56 iArgs56 iBody56 iScope56 clos .none .none doc pm none cv ctv) n (hideAll s.heap (ad :: X.l)) :=
        ⟨⟨_,hf,rfl⟩,hcd,⟨cd,(hcl _ (by decide)).trans hcd1,hcd2⟩,⟨cn,tn,(hcl _ (by decide)).trans hcn1,hcn2⟩,⟨ci,(hcl _ (by decide)).trans hci1,hci2⟩⟩
      have hsl:shortL ((List.replicate m (0:Int)).map V.int).length=true:=by rw [List.length_map,List.length_replicate]; exact shortL_of (by omega)
      have hlenG:=Gives1.len (c:=((σ.fxg (fScope 56) ks56 ok56 (X.ext ad had)).cx [.val (.int a),.val (.int n),.adr (fun r _=>r=.ref ad),.adr (Made "inner" q56 iArgs56 iBody56 iScope56 (σ.fxg (fScope 56) ks56 ok56 X).env.cells (σ.fxg (fScope 56) ks56 ok56 X).S0.heap.objs.size)] (g,List.replicate m 0) W).at s) hsl
      rw [List.length_map,List.length_replicate] at hlenG
      refine DoesG.callV (f:=f) (o:={ cls:=.type "function",data:=.func (fnX "inner" q56 iArgs56 iBody56 iScope56 clos .none .none doc pm none cv ctv) }) (fun s' h'=>?_) (fun s' h'=>kGet h'.2 _ _ (of_hideAll _ hf)) rfl
        (.cons (.flat (.nm (Cx.Var.at (Fx.var (i:=0) rfl rfl)))) (.cons (.flat .int) (.cons (.flat (.callB (knd (sc:=fScope 56) (by decide)) hlen (.cons (.nm (Cx.Var.at (Fx.varE (i:=2) (ds:=List.replicate m 0) rfl rfl fun h q=>q.2))) .nil) hlenG)) .nil))) ?_
      · exact (At.var (fun _ _=>rfl) x.ic af).keeps (kGet h'.2)
      · intro s' E rs hP hr
        obtain ⟨_,_,_,x'⟩:=hP.1
        have hs':Ext D.h0 s'.heap:=fun b o e=>x'.ic.toInCall.keep b o (hideAll_get _ (σ.hS b o e) ((X.ext ad had).hid b o e))
        have hK':K56 ad f (fnX "inner" q56 iArgs56 iBody56 iScope56 clos .none .none doc pm none cv ctv) n (hideAll s'.heap (ad :: X.l)) :=
          hK.keeps fun b o e=>hideAll_get _ (kGet hP.2 b o (of_hideAll _ e)) fun q=>by rw [hideAll_none _ q] at e; cases e
        rcases hm2 with rfl | rfl
        · exact leaf56 (had:=had) hnl (L:=0) rfl (by omega) (by simp) (by simp) (A:=σ.A) (σ.hA.le (by omega)) s' E rs hs' x'.tk x'.gh hK' hr.rel
        · exact node56 (had:=had) hnl (by omega) (by omega) (L:=0) (ds:=[0,0]) (by simp) (by simp) hn (A:=σ.A) (σ.hA.le (by omega)) s' E rs hs' x'.tk x'.gh hK' hr.rel
    · exact (X.ext ad had).live _
  refine wpAny_execs_cons (wpAny_mono (r3 W s E fr') (fun f s₁ q=>?_) fun _ _ q=>q)
  have hx92_0:=q.1
  have hw92_1:=q.2
  try clear q
  subst hx92_0
  obtain ⟨W₁,hy92_1⟩:=hw92_1
  have hx92_0:=hy92_1.1
  have mv:=hy92_1.2
  clear hy92_1
  obtain ⟨m',cm,α,y⟩:=hx92_0
  obtain ⟨r,hy93_1⟩:=y.slot 2 "a_digits" _ rfl rfl
  have hat:=hy93_1.1
  have hr:=hy93_1.2
  clear hy93_1
  have e1:r=.ref ad:=hr s₁.heap fun _ _ _ _ e=>e
  subst e1
  have hXG:=y.gh.1
  have hw96_1:=y.gh.2
  obtain ⟨rs,hy96_1⟩:=hw96_1
  have hp:=hy96_1.1
  have hrs:=hy96_1.2
  clear hy96_1
  have hsame:∃ h tk,s₁={ s with heap:=h,toks:=tk }:=Fr1.same fr' ⟨m',cm,α,y⟩
  refine wpAny_execs_cons (wpAny_Return_some (wpAny_Name ((hat.var (fun _ _=>rfl) y.ic).load rfl ?_) rfl))
  refine ⟨.ref ad,rfl,⟨fun h' k=>?_,hsame,y.tk,mv.size,mv.kept,hXG⟩⟩
  unfold VRel
  obtain ⟨n',hp'⟩:=hp
  exact ⟨ad,rs,rfl,⟨n',k _ _ (.inl ⟨_,_,rfl⟩) hnl hp'⟩,hrs.ints⟩
theorem FnAt.givesG {D:Wd} {name:Str} {i:Nat} (f:FnAt D name i) {X:Gw D} {g g':X.Γ} {k:Nat} {c:Cx} {ks:List Str} {vs:List V} {v:V} (n:Nat) (hM:c.M=model D.prog D.w) (hA:AOk (k+1) c.A) (hP:∀ s,c.P s→Ext D.h0 s.heap∧X.G g s.heap)
    (sok:ScOk (fScope i) ks) (hlen:vs.length≤ks.length) (hbind:∀ rs:List Value,rs.length=vs.length→bindArgs (Calls.docDef name (fArgs i) (fBody i) (fScope i) f.pm f.cd f.doc) ⟨rs,[]⟩=pure ((ks.take vs.length).zip rs))
    (walk:∀ σ:Site D k,σ.μ=c.μ→σ.code=f.cd→σ.qual=name++".<locals>."→Ends (σ.fxg (fScope i) ks sok X) (fBody i) (vs.map .val++List.replicate n .non) g v (X.G g'))
    (hco:(fScope i).isCoroutine=false:=by rfl) (hgen:(fScope i).isGenerator=false:=by rfl):GivesG c X.l (.ref f.a) vs v (X.G g'):=fun s E rs hs hr=>by
  rw [hM]
  have hz10:=hP s hs
  have h1:=hz10.1
  have h2:=hz10.2
  clear hz10
  exact D.callM X hA (K:=fun _=>True) n (h1 _ _ f.ho) f.hd (f.hcd.keeps h1) rfl rfl rfl rfl sok hlen hbind (fun σ _ e1 e2 e3=>walk σ e1 e2 e3) hco hgen E rs h1 (c.toks s hs) h2 trivial hr
theorem Site.extG {D:Wd} {k:Nat} {σ:Site D k} {sc:Scope} {ks:List Str} {sok:ScOk sc ks} {X:Gw D} {g:X.Γ} {ρ:List Slot} {W:Addr→Prop}:∀ s,((σ.fxg sc ks sok X).cx ρ g W).P s→Ext D.h0 s.heap∧X.G g s.heap:=fun s ⟨_,_,_,x⟩ =>
  ⟨fun b o e=>x.ic.toInCall.keep b o (hideAll_get _ (σ.hS b o e) (X.hid b o e)),x.gh⟩
theorem Site.extG1 {D:Wd} {k:Nat} {σ:Site D k} {sc:Scope} {ks:List Str} {sok:ScOk sc ks} {X:Gw D} {g:X.Γ} {ρ:List Slot} {W:Addr→Prop}:∀ s,((σ.fxg sc ks sok X).cx ρ g W).P s→Ext D.h0 s.heap:=fun s h=>(Site.extG s h).1
noncomputable def ks58:List Str:=["a","b","n","a_digits","r","q_digits","a_digit","q_digit","q"]
theorem ok58:ScOk (fScope 58) ks58:=⟨by decide,by decide,rfl⟩
noncomputable def rAt (ds:List Int):Nat→Int
  | 0=>0
  | j+1=>(rAt ds j * 2 ^ (4:Int).toNat+ds.getD j 0).fmod 8
noncomputable def qAt (ds:List Int):Nat→List Int
  | 0=>[]
  | j+1=>qAt ds j++[(rAt ds j * 2 ^ (4:Int).toNat+ds.getD j 0).fdiv 8]
theorem qAt_len (ds:List Int):∀ j,(qAt ds j).length=j
  | 0=>rfl
  | j+1=>by unfold qAt; rw [List.length_append,qAt_len ds j]; rfl
structure A58 (a:Int) (m:Nat):Prop where
  h0:0 < a
  h1:a < 4096
  hm:((Builtin.Int.intBits a:Int)+(4:Nat) - 1).fdiv (4:Nat)=m
  hm2:m=1∨m=2
  hx:∀ j,j < m→(rAt (digs a 4 m).reverse j).natAbs < 4096∧((rAt (digs a 4 m).reverse j) * 2 ^ (4:Int).toNat+(digs a 4 m).reverse.getD j 0).natAbs < 1073741824
  hq:∀ d∈(qAt (digs a 4 m).reverse m).reverse,0≤d∧d < 2 ^ 4
noncomputable def q58 (a:Int) (m:Nat):Int:=digVal (qAt (digs a 4 m).reverse m).reverse 4 0 (qAt (digs a 4 m).reverse m).reverse.length
noncomputable def r58 (a:Int) (m:Nat):Int:=rAt (digs a 4 m).reverse m
structure Dn (D:Wd) (X:Gw D) where
  N:Nst D
  f54:FnAt D "_div2n1n" 54
  f56:FnAt D "_int2digits" 56
  f57:FnAt D "_digits2int" 57
  f58:FnAt D "_divmod_pos" 58
  f59:FnAt D "int_divmod" 59
  c56:Addr
  P56:Addr
  e56:f56.cd=.ref c56
  T56:HasTab X c56 P56 qs56
  c57:Addr
  P57:Addr
  e57:f57.cd=.ref c57
  T57:HasTab X c57 P57 qs57
  tL:Tok
  gL:D.gl "_DIV_LIMIT"=some (.int 4000 tL)
  gdm:D.gl "divmod"=some (.builtin "divmod")
  glen:D.gl "len"=some (.builtin "len")
  grev:D.gl "reversed"=some (.type "reversed")
theorem digs_len {a:Int} {n m:Nat} (h:m=1∨m=2):(digs a n m).length=m:=by rcases h with rfl | rfl <;> rfl
theorem walk58 {D:Wd} {X:Gw D} (Z:Dn D X) {k:Nat} (σ:Site D k) (g:X.Γ) (hk:8≤k) {a:Int} {m:Nat} (ha:A58 a m) :
    Rets (σ.fxg (fScope 58) ks58 ok58 X) (fBody 58) [.val (.int a),.val (.int 8),.non,.non,.non,.non,.non,.non,.non] g (.tup [.int (q58 a m),.int (r58 a m)]) (X.G g):=by
  have hml:(digs a 4 m).length=m:=digs_len ha.hm2
  have liveX:∀ h,X.G g h→∀ b,b∈X.l→∃ o,h.get? b=some o:=fun h q b hb=>X.live g h q b hb
  refine Rets.cons (ρ₁:=[.val (.int a),.val (.int 8),.val (.int (4:Nat)),.non,.non,.non,.non,.non,.non]) (g₁:=g) ?_ ?_
  · have e:((Builtin.Int.intBits 8:Nat):Int)=(4:Nat):=by decide
    rw [← e]
    apply Run1.asg (F:=σ.fxg (fScope 58) ks58 ok58 X) (i:=2)
    · exact fun W=>.bitlen (.nm (Fx.var (i:=1) rfl rfl))
    · rfl
    · rfl
  refine Rets.cons (ρ₁:=[.val (.int a),.val (.int 8),.val (.int (4:Nat)),.val (.list ((digs a 4 m).map .int)),.non,.non,.non,.non,.non]) (g₁:=g) ?_ ?_
  · apply Run1.asgG0 (F:=σ.fxg (fScope 58) ks58 ok58 X) (i:=3) (l:=X.l)
    · exact fun b=>Iff.rfl
    · intro W
      refine DoesG.callF (knd (sc:=fScope 58) (by decide)) Z.f56.gl (.cons (.flat (.nm (Fx.var (i:=0) rfl rfl))) (.cons (.flat (.nm (Fx.var (i:=2) rfl rfl))) .nil)) (fun s hs=>Site.extG1 s hs _ _ Z.f56.ho) Z.f56.hd ?_
      obtain ⟨k',rfl⟩:∃ k',k=k'+1:=⟨k - 1,by omega⟩
      exact Z.f56.givesG (ks:=ks56) (vs:=[.int a,.int (4:Nat)]) 2 rfl σ.hA Site.extG ok56 (by show 2≤4; decide) (len2 fun _ _=>rfl)
        fun σ' _ e1 e2=>(walk56 Z.N Z.T56 σ' (e1.trans Z.e56) e2 Z.glen g (by omega) ha.h0 ha.h1 (by decide) (by decide) ha.hm ha.hm2).ends
    · rfl
    · exact liveX
    · rfl
  refine Rets.cons (ρ₁:=[.val (.int a),.val (.int 8),.val (.int (4:Nat)),.val (.list ((digs a 4 m).map .int)),.val (.int 0),.non,.non,.non,.non]) (g₁:=g) ?_ ?_
  · apply Run1.asg (F:=σ.fxg (fScope 58) ks58 ok58 X) (i:=4)
    · exact fun W=>.int
    · rfl
    · rfl
  refine Rets.cons (ρ₁:=[.val (.int a),.val (.int 8),.val (.int (4:Nat)),.val (.list ((digs a 4 m).map .int)),.val (.int 0),.own [],.non,.non,.non]) (g₁:=g) ?_ ?_
  · exact Run1.asgO (i:=5) (vs:=[]) (fun W=>.nil) rfl rfl rfl
  refine Rets.cons (ρ₁:=[.val (.int a),.val (.int 8),.val (.int (4:Nat)),.val (.list ((digs a 4 m).map .int)),.val (.int (r58 a m)),.own ((qAt (digs a 4 m).reverse m).map .int),.non,.non,.non]) (g₁:=g) ?_ ?_
  · have hrl:((digs a 4 m).map V.int).reverse.length=m:=by rw [List.length_reverse,List.length_map,hml]
    refine Eq.mp (congrArg (fun L=>Run1 (σ.fxg (fScope 58) ks58 ok58 X) _ _ _ ([.val (.int a),.val (.int 8),.val (.int (4:Nat)),.val (.list ((digs a 4 m).map .int)),.val (.int (rAt (digs a 4 m).reverse L)),.own ((qAt (digs a 4 m).reverse L).map .int),.non,.non,.non]:List Slot) _) hrl) ?_
    apply Run1.forW (F:=σ.fxg (fScope 58) ks58 ok58 X) (i:=6) (xs:=((digs a 4 m).map V.int).reverse) (gs:=fun _=>g)
      (ρs:=fun j=>[.val (.int a),.val (.int 8),.val (.int (4:Nat)),.val (.list ((digs a 4 m).map .int)),.val (.int (rAt (digs a 4 m).reverse j)),.own ((qAt (digs a 4 m).reverse j).map .int),.non,.non,.non])
    · exact Walked.reversed (i:=3) rfl rfl (knd (sc:=fScope 58) (by decide)) Z.grev (List.all_eq_true.mpr fun v hv=>by obtain ⟨x,_,rfl⟩:=List.mem_map.mp hv; rfl)
    · intro v hv
      obtain ⟨x,hy94_1⟩:=List.mem_map.mp (List.mem_reverse.mp hv)
      have hx94_0:=hy94_1.2
      clear hy94_1
      subst hx94_0
      rfl
    · rfl
    · intro j v hv
      have hj:j < m:=by have:=(List.getElem?_eq_some_iff.mp hv).1; omega
      rw [← List.map_reverse,List.getElem?_map] at hv
      obtain ⟨d,hy100_1⟩:=Option.map_eq_some_iff.mp hv
      have hd:=hy100_1.1
      have hx100_0:=hy100_1.2
      clear hy100_1
      subst hx100_0
      have hdg:(digs a 4 m).reverse.getD j 0=d:=by rw [List.getD_eq_getElem?_getD,hd]; rfl
      have hz102:=ha.hx j hj
      have hx1:=hz102.1
      have hx2:=hz102.2
      clear hz102
      rw [hdg] at hx2
      refine Runs.drop (ρ₂:=[.val (.int a),.val (.int 8),.val (.int (4:Nat)),.val (.list ((digs a 4 m).map .int)),.val (.int (rAt (digs a 4 m).reverse (j+1))),.own ((qAt (digs a 4 m).reverse (j+1)).map .int),.val (.int d),.val (.int ((rAt (digs a 4 m).reverse j * 2 ^ (4:Int).toNat+d).fdiv 8)),.non]) (DropL.ok (by repeat constructor)) ?_
      refine Runs.cons (ρ₁:=[.val (.int a),.val (.int 8),.val (.int (4:Nat)),.val (.list ((digs a 4 m).map .int)),.val (.int ((rAt (digs a 4 m).reverse j * 2 ^ (4:Int).toNat+d).fmod 8)),.own ((qAt (digs a 4 m).reverse j).map .int),.val (.int d),.val (.int ((rAt (digs a 4 m).reverse j * 2 ^ (4:Int).toNat+d).fdiv 8)),.non]) (g₁:=g) ?_ ?_
      · refine Run1.asg2 (F:=σ.fxg (fScope 58) ks58 ok58 X) (i:=7) (j:=4) (a:=.int ((rAt (digs a 4 m).reverse j * 2 ^ (4:Int).toNat+d).fdiv 8)) (b:=.int ((rAt (digs a 4 m).reverse j * 2 ^ (4:Int).toNat+d).fmod 8)) (fun W=>?_) rfl rfl rfl rfl
        refine FnAt.does Z.f54 rfl Site.extG1 (knd (sc:=fScope 58) (by decide)) (vs:=[.int (rAt (digs a 4 m).reverse j * 2 ^ (4:Int).toNat+d),.int 8,.int (4:Nat)]) (.cons (.bin (.binS (.nm (Fx.var (i:=4) rfl rfl)) (.nm (Fx.var (i:=2) rfl rfl)) (.shl (by decide) (by decide) (by omega))) (.nm (Fx.var (i:=6) rfl rfl)) rfl) (.cons (.nm (Fx.var (i:=1) rfl rfl)) (.cons (.nm (Fx.var (i:=2) rfl rfl)) .nil))) ?_
        obtain ⟨k',rfl⟩:∃ k',k=k'+1:=⟨k - 1,by omega⟩
        exact Z.f54.gives 0 rfl σ.hA Site.extG1 ok54 (by show 3≤3; decide) (len3 fun _ _ _=>rfl) fun σ'=>walk54 σ' Z.gL Z.gdm (by decide) hx2 (by decide) (by decide)
      · have e1:rAt (digs a 4 m).reverse (j+1)=(rAt (digs a 4 m).reverse j * 2 ^ (4:Int).toNat+d).fmod 8:=by rw [← hdg]; rfl
        have e2:(qAt (digs a 4 m).reverse (j+1)).map V.int=(qAt (digs a 4 m).reverse j).map V.int++[.int ((rAt (digs a 4 m).reverse j * 2 ^ (4:Int).toNat+d).fdiv 8)]:=by
          rw [← hdg]
          show (qAt (digs a 4 m).reverse j++[_]).map V.int=_
          rw [List.map_append]
          rfl
        rw [e1,e2]
        refine Runs.cons (ρ₁:=_) (g₁:=g) ?_ .nil
        apply Run1.append (F:=σ.fxg (fScope 58) ks58 ok58 X) (i:=5) (vs:=(qAt (digs a 4 m).reverse j).map V.int)
        · exact fun W=>Does.flat (.nm (Fx.var (i:=7) rfl rfl)) rfl
        · rfl
        · rfl
        · rw [List.length_map,qAt_len]
          rcases ha.hm2 with rfl | rfl <;> exact shortL_of (by omega)
  refine Rets.cons (ρ₁:=[.val (.int a),.val (.int 8),.val (.int (4:Nat)),.val (.list ((digs a 4 m).map .int)),.val (.int (r58 a m)),.own ((qAt (digs a 4 m).reverse m).reverse.map .int),.non,.non,.non]) (g₁:=g) ?_ ?_
  · rw [List.map_reverse]
    apply Run1.reverse (F:=σ.fxg (fScope 58) ks58 ok58 X) (i:=5) (vs:=(qAt (digs a 4 m).reverse m).map .int)
    · rfl
    · rfl
    · exact List.all_eq_true.mpr fun v hv=>by obtain ⟨x,_,rfl⟩:=List.mem_map.mp hv; rfl
    · rw [List.length_map,qAt_len]; rcases ha.hm2 with rfl | rfl <;> omega
  refine Rets.freeze (i:=5) (x:="q_digits") rfl rfl ?_
  refine Rets.cons (ρ₁:=[.val (.int a),.val (.int 8),.val (.int (4:Nat)),.val (.list ((digs a 4 m).map .int)),.val (.int (r58 a m)),.val (.list ((qAt (digs a 4 m).reverse m).reverse.map .int)),.non,.non,.val (.int (q58 a m))]) (g₁:=g) ?_ ?_
  · have hl2:(qAt (digs a 4 m).reverse m).reverse.length=m:=by rw [List.length_reverse,qAt_len]
    apply Run1.asgG (F:=σ.fxg (fScope 58) ks58 ok58 X) (i:=8) (l:=X.l)
    · exact fun b=>Iff.rfl
    · intro W
      refine DoesG.callF (knd (sc:=fScope 58) (by decide)) Z.f57.gl (.cons (DoesX.var (i:=5) (fun b q=>q) rfl rfl) (.cons (.flat (.nm (Fx.var (i:=2) rfl rfl))) .nil)) (fun s hs=>Site.extG1 s hs _ _ Z.f57.ho) Z.f57.hd ?_
      obtain ⟨k',rfl⟩:∃ k',k=k'+1:=⟨k - 1,by omega⟩
      exact Z.f57.givesG (ks:=ks57) (vs:=[.list ((qAt (digs a 4 m).reverse m).reverse.map .int),.int (4:Nat)]) 1 rfl σ.hA Site.extG ok57 (by show 2≤3; decide) (len2 fun _ _=>rfl)
        fun σ' _ e1 e2=>(walk57 Z.N Z.T57 σ' (e1.trans Z.e57) e2 Z.glen (n:=4) g (by rw [hl2]; rcases ha.hm2 with rfl | rfl <;> omega) ha.hq (by rw [hl2]; rcases ha.hm2 with rfl | rfl <;> omega) (by decide) (by rw [hl2]; rcases ha.hm2 with rfl | rfl <;> omega) (by rw [hl2]; rcases ha.hm2 with rfl | rfl <;> omega)).ends
    · rfl
    · exact liveX
    · rfl
  exact Rets.retF fun W=>.tup (.cons (.nm (Fx.var (i:=8) rfl rfl)) (.cons (.nm (Fx.var (i:=4) rfl rfl)) .nil))
noncomputable def ks59:List Str:=["a","b","q","r"]
theorem ok59:ScOk (fScope 59) ks59:=⟨by decide,by decide,rfl⟩
theorem walk59p {D:Wd} {X:Gw D} (Z:Dn D X) {k:Nat} (σ:Site D k) (g:X.Γ) (hk:9≤k) {a:Int} {m:Nat} (ha:A58 a m) :
    Rets (σ.fxg (fScope 59) ks59 ok59 X) (fBody 59) [.val (.int a),.val (.int 8),.non,.non] g (.tup [.int (q58 a m),.int (r58 a m)]) (X.G g):=by
  have h0:=ha.h0
  refine Rets.ifE (x:=((8:Int) == 0)) (fun W=>Tests.cmp (.nm (Fx.var (i:=1) rfl rfl)) .int rfl) (fun q=>nomatch q) fun _=>?_
  refine Rets.ifE (x:=decide ((8:Int) < 0)) (fun W=>Tests.ltI (.nm (Fx.var (i:=1) rfl rfl)) .int) (fun q=>nomatch q) fun _=>?_
  refine Rets.ifE (x:=decide (a < 0)) (fun W=>Tests.ltI (.nm (Fx.var (i:=0) rfl rfl)) .int) (fun q=>absurd (of_decide_eq_true q) (by omega)) fun _=>?_
  refine Rets.retG (l:=X.l) (fun b=>Iff.rfl) fun W=>DoesG.callF (knd (sc:=fScope 59) (by decide)) Z.f58.gl (.cons (.flat (.nm (Fx.var (i:=0) rfl rfl))) (.cons (.flat (.nm (Fx.var (i:=1) rfl rfl))) .nil)) (fun s hs=>Site.extG1 s hs _ _ Z.f58.ho) Z.f58.hd ?_
  obtain ⟨k',rfl⟩:∃ k',k=k'+1:=⟨k - 1,by omega⟩
  exact Z.f58.givesG (ks:=ks58) (vs:=[.int a,.int 8]) 7 rfl σ.hA Site.extG ok58 (by show 2≤9; decide) (len2 fun _ _=>rfl)
    fun σ' _ _ _=>(walk58 Z σ' g (by omega) ha).ends
theorem walk59 {D:Wd} {X:Gw D} (Z:Dn D X) {k:Nat} (σ:Site D k) (g:X.Γ) (hk:10≤k) {a:Int} {m:Nat} (hneg:a < 0) (ha:A58 (Builtin.bitNot a) m) :
    Rets (σ.fxg (fScope 59) ks59 ok59 X) (fBody 59) [.val (.int a),.val (.int 8),.non,.non] g (.tup [.int (Builtin.bitNot (q58 (Builtin.bitNot a) m)),.int (8+Builtin.bitNot (r58 (Builtin.bitNot a) m))]) (X.G g):=by
  refine Rets.ifE (x:=((8:Int) == 0)) (fun W=>Tests.cmp (.nm (Fx.var (i:=1) rfl rfl)) .int rfl) (fun q=>nomatch q) fun _=>?_
  refine Rets.ifE (x:=decide ((8:Int) < 0)) (fun W=>Tests.ltI (.nm (Fx.var (i:=1) rfl rfl)) .int) (fun q=>nomatch q) fun _=>?_
  refine Rets.ifE (x:=decide (a < 0)) (fun W=>Tests.ltI (.nm (Fx.var (i:=0) rfl rfl)) .int) (fun _=>?_) (fun q=>absurd (of_decide_eq_false q) (by omega))
  refine Rets.cons (ρ₁:=[.val (.int a),.val (.int 8),.val (.int (q58 (Builtin.bitNot a) m)),.val (.int (r58 (Builtin.bitNot a) m))]) (g₁:=g) ?_ ?_
  · refine Run1.asg2G (F:=σ.fxg (fScope 59) ks59 ok59 X) (i:=2) (j:=3) (l:=X.l) (a:=.int (q58 (Builtin.bitNot a) m)) (b:=.int (r58 (Builtin.bitNot a) m)) (fun b=>Iff.rfl) (fun W=>?_) (fun h q b hb=>X.live g h q b hb) rfl rfl rfl rfl
    refine DoesG.callF (knd (sc:=fScope 59) (by decide)) Z.f59.gl (.cons (.flat (.inv (.nm (Fx.var (i:=0) rfl rfl)))) (.cons (.flat (.nm (Fx.var (i:=1) rfl rfl))) .nil)) (fun s hs=>Site.extG1 s hs _ _ Z.f59.ho) Z.f59.hd ?_
    obtain ⟨k',rfl⟩:∃ k',k=k'+1:=⟨k - 1,by omega⟩
    exact Z.f59.givesG (ks:=ks59) (vs:=[.int (Builtin.bitNot a),.int 8]) 2 rfl σ.hA Site.extG ok59 (by show 2≤4; decide) (len2 fun _ _=>rfl)
      fun σ' _ _ _=>(walk59p Z σ' g (by omega) ha).ends
  · exact Rets.retF fun W=>.tup (.cons (.inv (.nm (Fx.var (i:=2) rfl rfl))) (.cons (.bin (.nm (Fx.var (i:=1) rfl rfl)) (.inv (.nm (Fx.var (i:=3) rfl rfl))) rfl) .nil))
section
open PySem.Builtin PySem.Builtin.ObjectAttr
theorem slot_fn_set:PySem.Slot "function" "__setattr__" "object.__setattr__" :=
  .of (owner:="object") (n:="__setattr__") (by rw [typeLookup_type,builtinLookup_eq_fast]; kernel_rfl) (by decide +kernel) (by decide +kernel) (by decide +kernel) (.inl (by decide +kernel)) (by rw [isSubtype_type]; kernel_rfl)
theorem lk_fn_ga:typeLookup (.type "function") "__getattribute__"=pure (some (.builtin "object.__getattribute__")):=by rw [typeLookup_type,builtinLookup_eq_fast]; kernel_rfl
theorem slot_fn_ga:PySem.Slot "function" "__getattribute__" "object.__getattribute__" :=
  .of (owner:="object") (n:="__getattribute__") (by rw [typeLookup_type,builtinLookup_eq_fast]; kernel_rfl) (by decide +kernel) (by decide +kernel) (by decide +kernel) (.inl (by decide +kernel)) (by rw [isSubtype_type]; kernel_rfl)
theorem lk_fn_hook:typeLookup (.type "function") "__getattr__"=pure none:=by rw [typeLookup_type,builtinLookup_eq_fast]; kernel_rfl
theorem lk_fn_read:typeLookup (.type "function") "read"=pure none:=by rw [typeLookup_type,builtinLookup_eq_fast]; kernel_rfl
theorem mro_fn:mroOf (.type "function")=pure [.type "function",.type "object"]:=by rw [mroOf_type]; kernel_rfl
theorem pass_fn (self:Value):refuseLoop self "__setattr__" [.type "function",.type "object"]=pure ():=by kernel_rfl
section
variable {prog:Program} {w:World} {A:Around} {E:Value→Shared→Prop} {h:Heap} {g:Array GenState} {d:Drawn} {t:Nat} {os:OsState}
theorem fn_setattr {f:Addr} {fd:FuncData} {sl:Array (Option Value)} {v:Value} {Q:Unit→Shared→Prop} (hf:h.get? f=some { cls:=.type "function",dict:=none,data:=.func fd,slots:=sl })
    (hq:∀ h' tk,h'.get? f=some { cls:=.type "function",dict:=some h.objs.size,data:=.func fd,slots:=sl }→h'.Ns h.objs.size (fun y=>if y="read" then some v else none)→(∀ b o,b≠f→h.get? b=some o→h'.get? b=some o)→h'.objs.size=h.objs.size+1→Q () ⟨h',g,d,tk,os⟩) :
    wpAny (model prog w) A (setAttr (.ref f) "read" v) Q E ⟨h,g,d,t,os⟩:=by
  have hT:∀ tk,(⟨h,g,d,tk,os⟩:Shared).TypeIs (.ref f) "function":=fun tk=>⟨_,hf,rfl⟩
  unfold setAttr
  refine wpAny_bind (wpAny_mkText (wpAny_bind (wpAny_callSpecial?_slot (hT _) slot_fn_set (wpAny_call_entry slot_fn_set (hT _) PySem.F.entry_object_setattr ?_ (PySem.F.args_object_setattr_3 _ _ _)))))
  rw [osa_eq,refuse_eq]
  have hlt:f≠h.objs.size:=Nat.ne_of_lt (Heap.lt_size hf)
  have hu:((h.push { cls:=.type "dict",data:=.dict #[] }).update f fun o=>{ cls:=o.cls,dict:=some h.objs.size,data:=o.data,slots:=o.slots }).get? f=some { cls:=.type "function",dict:=some h.objs.size,data:=.func fd,slots:=sl } :=
    Heap.get?_update_self _ (Heap.get?_push_of_some _ hf) rfl
  have hgd:((h.push { cls:=.type "dict",data:=.dict #[] }).update f fun o=>{ cls:=o.cls,dict:=some h.objs.size,data:=o.data,slots:=o.slots }).get? h.objs.size=some { cls:=.type "dict",data:=.dict #[] } :=
    (Heap.get?_update_ne _ _ _ _ hlt.symm).trans (Heap.get?_push_at rfl rfl)
  have hnd:((h.push { cls:=.type "dict",data:=.dict #[] }).update f fun o=>{ cls:=o.cls,dict:=some h.objs.size,data:=o.data,slots:=o.slots }).Ns h.objs.size (fun _=>none) :=
    ⟨_,#[],_,hgd,rfl,fun e he=>absurd he (by simp),fun _=>rfl⟩
  repeat (first | with_reducible refine wpAny_bind (wpAny_nsSet1 (m:=fun _=>none) ?_ ?_) | rw [mro_fn] | rw [pass_fn] | rw [lk_fn_read] | with_reducible refine wpAny_loadPart_at hf ?_ | wp_step)
  · exact Heap.Ns1.of_empty hnd
  · intro h' hn' hs
    obtain ⟨oD,esD,epD,hy34_1⟩:=hn'.count (Within.cons "read" v Within.nil)
    have hoD:=hy34_1.1
    have hdD:=hy34_1.2.1
    have hcD:=hy34_1.2.2
    clear hy34_1
    refine wpAny_bind (wpAny_lookBehind hoD (by rw [hdD]; exact pastItsLine_dict (Nat.le_trans hcD (by rw [List.length_cons,List.length_nil,sizeLine_eq]; omega))) ?_)
    refine wpAny_pure ⟨_,rfl,wpAny_pure (hq h' _ ?_ hn'.ns (fun b o hb e=>?_) ?_)⟩
    · exact (hs.2 f hlt).trans hu
    · exact (hs.2 b (Nat.ne_of_lt (Heap.lt_size e))).trans ((Heap.get?_update_ne _ _ _ _ hb).trans (Heap.get?_push_of_some _ e))
    · rw [hs.1,Heap.size_update,Heap.size_push]
theorem fn_getattr {f sd:Addr} {fd:FuncData} {sl:Array (Option Value)} {v:Value} {m:Str→Option Value} {Q:Value→Shared→Prop} {expr:Bool} (hf:h.get? f=some { cls:=.type "function",dict:=some sd,data:=.func fd,slots:=sl }) (hn:h.Ns sd m) (hm:m "read"=some v) (hh:handedOut v=pure v)
    (hq:∀ tk,Q v ⟨h,g,d,tk,os⟩):wpAny (model prog w) A (getAttr (.ref f) "read" expr) Q E ⟨h,g,d,t,os⟩:=by
  have hT:∀ tk,(⟨h,g,d,tk,os⟩:Shared).TypeIs (.ref f) "function":=fun tk=>⟨_,hf,rfl⟩
  unfold getAttr getAttrBy
  repeat (first | rw [lk_fn_ga] | rw [lk_fn_hook] | rw [lk_fn_read] | with_reducible refine wpAny_loadPart_at hf ?_ | wp_step)
  rw [if_neg (by cases expr <;> decide +kernel)]
  unfold boundAndCalled
  rw [slot_fn_ga.bind]
  refine wpAny_bind (wpAny_pure (wpAny_call_entry slot_fn_ga (hT _) PySem.F.entry_object_getattribute ?_ (PySem.F.args_object_getattribute_2 _ _)))
  unfold Builtin.«object.__getattribute__»
  repeat (first | rw [lk_fn_ga] | rw [lk_fn_hook] | rw [lk_fn_read] | with_reducible refine wpAny_nsGet hn ?_ | with_reducible refine wpAny_loadPart_at hf ?_ | wp_step)
  rw [hm]
  show wpAny _ _ (rule "getattr.instance-dict" >>= fun _=>pure (Found.value v)) _ _ _
  refine wpAny_bind (wpAny_rule (wpAny_pure ?_))
  show wpAny _ _ (ret v) _ _ _
  refine wpAny_pure ⟨v,rfl,?_⟩
  show wpAny _ _ (handedOut v) _ _ _
  rw [hh]
  exact wpAny_pure (hq _)
theorem fn_getMethod {f sd:Addr} {fd:FuncData} {sl:Array (Option Value)} {v:Value} {m:Str→Option Value} {Q:Value × List Value→Shared→Prop} {pl:Sem Bool} (hf:h.get? f=some { cls:=.type "function",dict:=some sd,data:=.func fd,slots:=sl }) (hn:h.Ns sd m) (hm:m "read"=some v) (hh:handedOut v=pure v)
    (hq:∀ tk,Q (v,[]) ⟨h,g,d,tk,os⟩):wpAny (model prog w) A (getMethod (.ref f) "read" pl) Q E ⟨h,g,d,t,os⟩:=by
  have hT:∀ tk,(⟨h,g,d,tk,os⟩:Shared).TypeIs (.ref f) "function":=fun tk=>⟨_,hf,rfl⟩
  have hcan:(Manifest.canonical "object.__getattribute__" != "object.__getattribute__")=false:=by decide +kernel
  unfold getMethod
  refine wpAny_bind (wpAny_specialOf (hT _) lk_fn_ga ?_)
  show wpAny _ _ (if (Manifest.canonical "object.__getattribute__" != "object.__getattribute__")=true then _ else _) _ _ _
  rw [hcan,if_neg Bool.false_ne_true]
  refine wpAny_bind (wpAny_specialOf (hT _) lk_fn_hook ?_)
  refine wpAny_bind (wpAny_specialOf (hT _) lk_fn_read ?_)
  exact wpAny_bind (fn_getattr hf hn hm hh fun tk=>wpAny_pure (hq tk))
end
end
section
open PySem.Builtin PySem.Builtin.ObjectAttr
theorem wpAny_callBorrowed {M:Model} {A:Around} {E:Value→Shared→Prop} {s:Shared} {f:Value} {pos:List Value} {Q:Value→Shared→Prop}
    (hc:codeAny M A (.call f ⟨pos,[]⟩) (fun r s'=>match r with | .ok (.ret v)=>Q v s' | .ok _=>False | .error e=>E e s') s):wpAny M A (callBorrowed f pos) Q E s:=fun Γ p hΓ=>by
  unfold callBorrowed
  rw [Sem.wp_call]
  have:=hc _ p rfl (hΓ.enter (.call f ⟨pos,[]⟩) none p (by intro x; cases x))
  refine cast ?_ this
  congr 1
  funext r s'
  cases r with
  | error e=>rfl
  | ok f=>cases f <;> rfl
noncomputable abbrev citObj (p:Value) (q:Value) (b:Bool):Obj:={ cls:=.type "callable_iterator",data:=.fields #[p,q,.bool b] }
theorem slot_cit_next:PySem.Slot "callable_iterator" "__next__" "callable_iterator.__next__" :=
  .of (owner:="callable_iterator") (n:="__next__") (by rw [typeLookup_type,builtinLookup_eq_fast]; kernel_rfl) (by decide +kernel) (by decide +kernel) (by decide +kernel) (.inl (by decide +kernel)) (by rw [isSubtype_type]; kernel_rfl)
theorem entry_cit_next:entryFor table "callable_iterator.__next__"=some Builtin.«callable_iterator.__next__»:=entryFor_of_tree (by kernel_rfl)
theorem args_cit_next (a:Value):argsOk "callable_iterator.__next__" ⟨[a],[]⟩:=by unfold argsOk; kernel_rfl
theorem slot_cit_iter:PySem.Slot "callable_iterator" "__iter__" "callable_iterator.__iter__" :=
  .of (owner:="callable_iterator") (n:="__iter__") (by rw [typeLookup_type,builtinLookup_eq_fast]; kernel_rfl) (by decide +kernel) (by decide +kernel) (by decide +kernel) (.inl (by decide +kernel)) (by rw [isSubtype_type]; kernel_rfl)
theorem entry_cit_iter:entryFor table "callable_iterator.__iter__"=some Builtin.«dict_keyiterator.__iter__» :=
  entryFor_alias (id':="dict_keyiterator.__iter__") (by rw [fastTable_eq_tree]; kernel_rfl) (by first | rfl | decide +kernel | (unfold String.splitOn; simp +decide [String.splitOnAux])) (by decide +kernel) (by rw [fastTable_eq_tree]; kernel_rfl)
theorem args_cit_iter (a:Value):argsOk "callable_iterator.__iter__" ⟨[a],[]⟩:=by unfold argsOk; kernel_rfl
section
variable {prog:Program} {w:World} {A:Around} {E:Value→Shared→Prop} {s:Shared}
theorem borrows_method {p fn:Addr} {self:Value} {fd:FuncData} {o:Obj} {Q:Bool→Shared→Prop} {M:Model} (hp:s.heap.get? p=some (methodObj (.ref fn) self)) (hf:s.heap.get? fn=some o) (ho:o.data=.func fd) (h:Q true s):wpAny M A (borrowsExactly (.ref p)) Q E s:=by
  unfold borrowsExactly
  refine wpAny_bind (wpAny_load hp ?_)
  show wpAny _ _ (load fn >>= _) _ _ _
  refine wpAny_bind (wpAny_load hf ?_)
  rw [ho]
  exact wpAny_pure h
theorem cit_next {I p fn:Addr} {self:Value} {fd:FuncData} {o:Obj} {u:Tok} {Q:Option Value→Shared→Prop} (hh:A.handled=none) (hI:s.heap.get? I=some (citObj (.ref p) (.str "" u) false)) (hp:s.heap.get? p=some (methodObj (.ref fn) self)) (hf:s.heap.get? fn=some o) (ho:o.data=.func fd)
    (hc:codeAny (model prog w) A.in1 (.call (.ref fn) ⟨[self],[]⟩) (fun r s'=>∃ x t,r=.ok (.ret (.str x t))∧s'.heap.get? I=some (citObj (.ref p) (.str "" u) false)∧s'.heap.get? p=some (methodObj (.ref fn) self)∧s'.heap.get? fn=some o∧(x≠""→Q (some (.str x t)) s') ∧
      (x=""→∀ h',(∀ b o,b≠I→s'.heap.get? b=some o→h'.get? b=some o)→(∃ o,h'.get? I=some o)→s'.heap.objs.size≤h'.objs.size→Q none { s' with heap:=h' })) s) :
    wpAny (model prog w) A (pyNext (.ref I)) Q E s:=by
  have hT:s.TypeIs (.ref I) "callable_iterator":=⟨_,hI,rfl⟩
  unfold pyNext
  refine wpAny_bind (wpAny_attempt (wpAny_callSpecial?_slot (name:=Str.ofString "__next__") hT slot_cit_next (wpAny_call_entry slot_cit_next hT entry_cit_next ?_ (args_cit_next _))))
  show wpAny _ _ (field (.ref I) 2 >>= _) _ _ s
  refine wpAny_bind (wpAny_field hI rfl (x:=.bool false) rfl ?_)
  show wpAny _ _ (if (Value.bool false == Value.bool true)=true then _ else _) _ _ s
  rw [if_neg (show ¬ ((Value.bool false == Value.bool true)=true) from by decide)]
  show wpAny _ _ (field (.ref I) 0 >>= _) _ _ s
  refine wpAny_bind (wpAny_field hI rfl (x:=.ref p) rfl ?_)
  refine wpAny_bind (wpAny_attempt ?_)
  unfold callOutOfASlot
  refine wpAny_bind (borrows_method hp hf ho ?_)
  rw [if_pos rfl]
  refine wpAny_callBorrowed (method_call hp (codeAny_mono hc fun r s' q=>?_))
  obtain ⟨x,t,hy56_1⟩:=q
  have hx56_0:=hy56_1.1
  have hI':=hy56_1.2.1
  have hp':=hy56_1.2.2.1
  have hf':=hy56_1.2.2.2.1
  have h1:=hy56_1.2.2.2.2.1
  have h2:=hy56_1.2.2.2.2.2
  clear hy56_1
  subst hx56_0
  show wpAny _ _ (field (.ref I) 2 >>= _) _ _ s'
  refine wpAny_bind (wpAny_field hI' rfl (x:=.bool false) rfl ?_)
  show wpAny _ _ (if (Value.bool false == Value.bool true)=true then _ else _) _ _ s'
  rw [if_neg (show ¬ ((Value.bool false == Value.bool true)=true) from by decide)]
  show wpAny _ _ (field (.ref I) 1 >>= _) _ _ s'
  refine wpAny_bind (wpAny_field hI' rfl (x:=.str "" u) rfl ?_)
  refine wpAny_bind (wpAny_holding (wpAny_eqBool_str ?_))
  by_cases hx:x=""
  · subst hx
    rw [decide_eq_true rfl]
    show wpAny _ _ (rule _ >>= _) _ _ s'
    refine wpAny_bind (wpAny_rule ?_)
    show wpAny _ _ ((field (.ref I) 0 >>= fun v=>slotLetsGo "callable_iterator.__next__" v _ >>= fun _=>setField (.ref I) 0 .none >>= fun _=>setField (.ref I) 1 .none >>= fun _=>setField (.ref I) 2 (.bool true)) >>= _) _ _ s'
    refine wpAny_bind (wpAny_bind (wpAny_field hI' rfl (x:=.ref p) rfl (wpAny_bind ?_)))
    unfold slotLetsGo
    refine wpAny_bind (borrows_method hp' hf' ho ?_)
    rw [if_pos rfl]
    have u1:=Heap.get?_update_self (Obj.mapFields (·.setIfInBounds 0 .none)) hI' rfl
    have u2:=Heap.get?_update_self (Obj.mapFields (·.setIfInBounds 1 .none)) u1 rfl
    have u3:=Heap.get?_update_self (Obj.mapFields (·.setIfInBounds 2 (.bool true))) u2 rfl
    refine wpAny_pure (wpAny_bind (wpAny_setField hI' rfl (by simp) (wpAny_bind (wpAny_setField u1 rfl (by simp) (wpAny_setField u2 rfl (by simp) ?_)))))
    show wpAny _ _ (newExc (.type "StopIteration") [] >>= _) _ _ _
    refine wpAny_bind ?_
    simp only [newExc,newTuple]
    refine wpAny_bind (wpAny_newObj_type ?_ (by size_fits))
    refine wpAny_bind (m:=firstArgMember _ _) (wpAny_of_eq (a:=Value.none) (by first | rfl | (simp only [firstArgMember]; rfl)) ?_)
    refine wpAny_newObj_type ?_ (by size_fits)
    simp only [raiseNew]
    refine wpAny_bind (wpAny_handled ?_)
    rw [show A.in1.handled=none from hh]
    refine wpAny_bind (wpAny_pure (wpAny_throw ?_))
    refine wpAny_bind (wpAny_isInstance (T:="StopIteration") (b:=true) ⟨_,Heap.get?_push_size _ rfl,rfl⟩ isSubtype_stop ?_)
    refine wpAny_pure (h2 rfl _ (fun b o hb e=>Heap.get?_push_of_some _ (Heap.get?_push_of_some _ ?_)) ⟨_,Heap.get?_push_of_some _ (Heap.get?_push_of_some _ u3)⟩ ?_)
    · exact (Heap.get?_update_ne _ _ _ _ hb).trans ((Heap.get?_update_ne _ _ _ _ hb).trans ((Heap.get?_update_ne _ _ _ _ hb).trans e))
    · rw [Heap.size_push,Heap.size_push,Heap.size_update,Heap.size_update,Heap.size_update]; exact Nat.le_succ_of_le (Nat.le_succ _)
  · rw [decide_eq_false (fun e=>hx e.symm)]
    exact wpAny_pure ⟨_,rfl,wpAny_pure (h1 hx)⟩
end
end
section
open PySem.Builtin PySem.Builtin.ObjectAttr
set_option tactic.hygienic true
theorem lk_fn_get:typeLookup (.type "function") "__get__"=pure (some (.builtin "function.__get__")):=by rw [typeLookup_type,builtinLookup_eq_fast]; kernel_rfl
theorem lk_fn_setd:typeLookup (.type "function") "__set__"=pure none:=by rw [typeLookup_type,builtinLookup_eq_fast]; kernel_rfl
theorem lk_fn_del:typeLookup (.type "function") "__delete__"=pure none:=by rw [typeLookup_type,builtinLookup_eq_fast]; kernel_rfl
theorem lk_meth_call:typeLookup (.type "method") "__call__"=pure (some (.builtin "method.__call__")):=by rw [typeLookup_type,builtinLookup_eq_fast]; kernel_rfl
section
variable {prog:Program} {w:World} {A:Around} {E:Value→Shared→Prop} {h:Heap} {g:Array GenState} {d:Drawn} {t:Nat} {os:OsState}
variable {nm q:Str} {C N x:Addr} {bs:List Value} {sn:List Str} {sub:List Value} {ab:Bool} {col:Option Bool} {dd:Option Addr} {k0 k1 k2 k3 k5:Option Value} {newId:String}
  {mN mA:Str→Option Value}
theorem load_bound {expr:Bool} {f:Addr} {of:Obj} {Q:Value→Shared→Prop}
    (hC:h.get? C=some (excClassObj nm q C N bs [.type "object"] true sn sub ab col dd k0 k1 k2 k3 k5 newId)) (hn:h.Ns N mN) (hng:mN "__getattribute__"=none) (hnh:mN "__getattr__"=none) (hf:mN "_read_char"=some (.ref f)) (hfo:h.get? f=some of) (hfc:of.cls=.type "function")
    (hB:typeLookup (.type "object") "_read_char"=pure none) {o:Obj} {dx:Addr} (hx:h.get? x=some o) (hc:o.cls=.ref C) (hnc:∀ c,o.data≠.cls c) (hdx:o.dict=some dx) (hns:h.Ns dx mA) (hsh:mA "_read_char"=none) (hq:∀ tk,Q (.ref h.objs.size) ⟨h.push (methodObj (.ref f) (.ref x)),g,d,tk,os⟩) :
    wpAny (model prog w) A (getAttr (.ref x) "_read_char" expr) Q E ⟨h,g,d,t,os⟩:=by
  unfold getAttr getAttrBy
  repeat (first | (with_reducible refine wpAny_loadPart_at hx ?_; rw [hc]) | (with_reducible refine wpAny_typeLookup_exc hC hn PySem.F.mro_object PySem.F.lk_object_ga ?_; rw [hng]) | wp_step)
  show wpAny _ _ ((runValue (.builtin "proto.getattr_hooked" ⟨[.ref x,.str "_read_char" t],[]⟩)).onRaise (noteIf true (.ref x) (.str "_read_char" t))) _ _ _
  refine wpAny_onRaise (wpAny_runValue (codeAny_builtin PySem.F.plainObj_entry_getattr_hooked ?_))
  unfold Builtin.«proto.getattr_hooked»
  repeat (first | (with_reducible refine wpAny_loadPart_at hx ?_; rw [hc]) | (with_reducible refine wpAny_typeLookup_exc hC hn PySem.F.mro_object hB ?_; rw [hf]) | (with_reducible refine wpAny_loadPart_at hfo ?_; rw [hfc]) | rw [lk_fn_get] | rw [lk_fn_setd] | rw [lk_fn_del] | wp_step)
  have hgd:copiedAttributeGuard "_read_char" (.ref x)=pure ():=by kernel_rfl
  split
  · rename_i c hcd
    exact absurd hcd (hnc c)
  unfold instanceDict
  repeat (first | (with_reducible refine wpAny_loadPart_at hx ?_; rw [hc]) | with_reducible refine wpAny_loadPart_at hC ?_ | wp_step)
  rw [hdx]
  repeat (first | (with_reducible refine wpAny_nsGet hns ?_; rw [hsh]) | rw [hgd] | wp_step)
  refine wpAny_typeLookup_exc hC hn PySem.F.mro_object PySem.F.lk_object_getattr ?_
  rw [hnh]
  show wpAny _ _ (holding [.ref f] (call (.builtin "function.__get__") [.ref f,.ref x,.ref C]) >>= ret) _ _ _
  have X:Frag.In [(f,of)] h:=fun a o e=>by
    rw [List.lookup_cons] at e
    cases ha:a == f with
    | true=>rw [ha] at e; cases e; rw [eq_of_beq ha]; exact hfo
    | false=>rw [ha] at e; cases e
  refine wpAny_bind (wpAny_holding (wpAny_call (fn_get (K:=[(f,of)]) (s:=⟨h,g,d,t+1,os⟩) X ?_ ?_)))
  · show (List.lookup f [(f,of)]).map (·.cls)=_
    rw [List.lookup_cons,beq_self_eq_true]
    exact congrArg some hfc
  · exact wpAny_pure (wpAny_pure (hq _))
theorem call_iter2 {p:Addr} {f self:Value} {u:Tok} {Q:Value→Shared→Prop} (hp:h.get? p=some (methodObj f self)) (hq:Q (.ref h.objs.size) ⟨h.push (citObj (.ref p) (.str "" u) false),g,d,t,os⟩) :
    wpAny (model prog w) A (call (.builtin "iter") [.ref p,.str "" u]) Q E ⟨h,g,d,t,os⟩:=by
  refine Calls.call_function_entry (id:="iter") (b:=Builtin.«iter») (by decide +kernel) (by decide +kernel) (entryFor_of_tree (by kernel_rfl)) (by unfold argsOk; kernel_rfl) ?_
  unfold Builtin.«iter»
  repeat (first | rw [lk_meth_call] | with_reducible refine wpAny_loadPart_at hp ?_ | wp_step)
  exact ⟨_,rfl,hq⟩
theorem pyIter_cit {I:Addr} {p q:Value} {b:Bool} {Q:Value→Shared→Prop} {s:Shared} (hI:s.heap.get? I=some (citObj p q b)) (hq:Q (.ref I) s):wpAny (model prog w) A (pyIter (.ref I)) Q E s:=by
  have hT:s.TypeIs (.ref I) "callable_iterator":=⟨_,hI,rfl⟩
  refine wpAny_pyIter_slot hT slot_cit_iter (wpAny_call_entry slot_cit_iter hT entry_cit_iter ?_ (args_cit_iter _))
  show wpAny _ _ (ret (.ref I)) _ _ s
  exact wpAny_pure ⟨_,rfl,"callable_iterator",_,hT,slot_cit_next.lookup,hq⟩
end
end
structure Cls (D:Wd) where
  C:Addr
  N:Addr
  mN:Str→Option Value
  at_:ClsAt D.h0 C N mN
  ga:mN "__getattribute__"=none
  sa:mN "__setattr__"=none
  hook:mN "__getattr__"=none
  lineno:mN "lineno"=none
  instream:mN "instream"=none
  whitespace:mN "whitespace"=none
  pushback:mN "pushback"=none
structure MAd where
  x:Addr
  dx:Addr
  st:Addr
  sd:Addr
  rf:Addr
  ct:Addr
  ca:Addr
  at_:Addr
  pb:Addr
  o:Obj
  fdS:FuncData
  slS:Array (Option Value)
  mS:Str→Option Value
  fd:FuncData
noncomputable def MAd.l (m:MAd):List Addr:=[m.x,m.dx,m.st,m.sd,m.rf,m.ct,m.ca,m.at_,m.pb]
set_option genInjectivity true in
structure MSt where
  pos:Nat
  line:Int
  pb:List Str
noncomputable def StrsL (a:Addr) (g:List Str) (h:Heap):Prop:=∃ l:List (Str × Tok),l.map (·.1)=g∧h.PlainList a (strValues l).toArray
structure MachAt {D:Wd} (cl:Cls D) (m:MAd) (text:Str) (st:MSt) (h:Heap):Prop where
  x:h.get? m.x=some m.o
  cls:m.o.cls=.ref cl.C
  nc:∀ c,m.o.data≠.cls c
  nf:∀ fs,m.o.data≠.fields fs
  ns0:∀ its n,m.o.data≠.seq its n
  nd:∀ es n,m.o.data≠.dict es n
  dict:m.o.dict=some m.dx
  ns:∃ mA,h.Ns1 m.dx mA∧Within mA ["pushback","whitespace","instream","lineno"]∧mA "pushback"=some (.ref m.pb)∧(∃ t,mA "whitespace"=some (.str "\n\t\r " t))∧mA "instream"=some (.ref m.st)∧(∃ t,mA "lineno"=some (.int st.line t)) ∧
    mA "_read_char"=none∧mA "get_token"=none∧mA "push_token"=none
  stm:h.get? m.st=some { cls:=.type "function",dict:=some m.sd,data:=.func m.fdS,slots:=m.slS }
  sd:h.Ns m.sd m.mS
  read:m.mS "read"=some (.ref m.rf)
  rf:h.get? m.rf=some { cls:=.type "function",data:=.func m.fd }
  code:h.CodeRec m.fd.code m.fd.qualname
  text:m.fd.closure.lookup (Str.ofString "text")=some m.ct∧∃ t,h.IsCell m.ct (some (.str text t))
  at_:m.fd.closure.lookup (Str.ofString "at")=some m.ca∧h.IsCell m.ca (some (.ref m.at_))
  pos:IntsAt m.at_ [(st.pos:Int)] h
  pb:StrsL m.pb st.pb h
  ne:m.dx≠m.sd∧m.at_≠m.pb∧m.x≠m.dx
  qual:m.fd.qualname≠""
section
variable {D:Wd} {cl:Cls D} {m:MAd} {text:Str} {st:MSt} {h h':Heap}
theorem IntsAt.move {a:Addr} {ds:List Int} (x:IntsAt a ds h) (k:∀ o,h.get? a=some o→h'.get? a=some o):IntsAt a ds h':=let ⟨rs,⟨n,e⟩,y⟩:=x; ⟨rs,⟨n,k _ e⟩,y.ints⟩
theorem StrsL.move {a:Addr} {ds:List Str} (x:StrsL a ds h) (k:∀ o,h.get? a=some o→h'.get? a=some o):StrsL a ds h':=let ⟨l,e,n,e2⟩:=x; ⟨l,e,n,k _ e2⟩
theorem CodeRec.cod {cv:Value} {q:Str} (x:h.CodeRec cv q) (hq:q≠"") (k:∀ b o,codish o→h.get? b=some o→h'.get? b=some o):h'.CodeRec cv q :=
  let ⟨c,o,vs,t,e,g,e2,e3⟩:=x; ⟨c,o,vs,t,e,k c o ⟨vs,q,t,e2,e3,hq⟩ g,e2,e3⟩
theorem IsCell.at' {c:Addr} {v:Option Value} (x:h.IsCell c v) (k:∀ o,h.get? c=some o→h'.get? c=some o):h'.IsCell c v:=let ⟨o,e,d⟩:=x; ⟨o,k o e,d⟩
theorem MachAt.move (x:MachAt cl m text st h) (k:∀ b o,b∈m.l∨codish o→h.get? b=some o→h'.get? b=some o):MachAt cl m text st h' where
  x:=k _ _ (.inl (by simp [MAd.l])) x.x
  cls:=x.cls
  nc:=x.nc
  nf:=x.nf
  ns0:=x.ns0
  nd:=x.nd
  dict:=x.dict
  ns:=let ⟨mA,e,r⟩:=x.ns; ⟨mA,e.at fun o=>k _ o (.inl (by simp [MAd.l])),r⟩
  stm:=k _ _ (.inl (by simp [MAd.l])) x.stm
  sd:=x.sd.at' fun o=>k _ o (.inl (by simp [MAd.l]))
  read:=x.read
  rf:=k _ _ (.inl (by simp [MAd.l])) x.rf
  code:=CodeRec.cod x.code x.qual fun b o hb e=>k b o (.inr hb) e
  text:=⟨x.text.1,let ⟨t,q⟩:=x.text.2; ⟨t,IsCell.at' q fun o=>k _ o (.inl (by simp [MAd.l]))⟩⟩
  at_:=⟨x.at_.1,IsCell.at' x.at_.2 fun o=>k _ o (.inl (by simp [MAd.l]))⟩
  pos:=x.pos.move fun o=>k _ o (.inl (by simp [MAd.l]))
  pb:=x.pb.move fun o=>k _ o (.inl (by simp [MAd.l]))
  ne:=x.ne
  qual:=x.qual
theorem MachAt.live (x:MachAt cl m text st h):∀ b∈m.l,∃ o,h.get? b=some o∧∀ fs,o.data≠.fields fs:=by
  intro b hb
  simp only [MAd.l,List.mem_cons,List.not_mem_nil,or_false] at hb
  rcases hb with rfl | rfl | rfl | rfl | rfl | rfl | rfl | rfl | rfl
  · exact ⟨_,x.x,x.nf⟩
  · obtain ⟨mA,⟨o,es,ep,e,d,_⟩,_⟩:=x.ns; exact ⟨o,e,fun fs q=>by rw [d] at q; cases q⟩
  · exact ⟨_,x.stm,fun fs q=>nomatch q⟩
  · obtain ⟨o,es,ep,e,d,_⟩:=x.sd; exact ⟨o,e,fun fs q=>by rw [d] at q; cases q⟩
  · exact ⟨_,x.rf,fun fs q=>nomatch q⟩
  · obtain ⟨_,t,o,e,d⟩:=x.text; exact ⟨o,e,fun fs q=>by rw [d] at q; cases q⟩
  · obtain ⟨_,o,e,d⟩:=x.at_; exact ⟨o,e,fun fs q=>by rw [d] at q; cases q⟩
  · obtain ⟨rs,⟨n,e⟩,_⟩:=x.pos; exact ⟨_,e,fun fs q=>nomatch q⟩
  · obtain ⟨l,_,n,e⟩:=x.pb; exact ⟨_,e,fun fs q=>nomatch q⟩
theorem not_codish {o:Obj} (hn:∀ fs,o.data≠.fields fs):¬ codish o:=fun ⟨fs,_,_,e,_⟩=>hn fs e
noncomputable def Gw.mach (X:Gw D) (g:X.Γ) (cl:Cls D) (m:MAd) (text:Str) (hm:∀ b o,D.h0.get? b=some o→b ∉ m.l):Gw D where
  Γ:=MSt
  G:=fun st h=>X.G g h∧MachAt cl m text st h
  l:=X.l++m.l
  Gok:=fun st h h' x k=>⟨X.Gok _ _ _ x.1 fun b o hb e=>k b o (hb.imp (fun q=>List.mem_append_left _ q) id) e,x.2.move fun b o hb e=>k b o (hb.imp (fun q=>List.mem_append_right _ q) id) e⟩
  live:=fun st h x b hb=>(List.mem_append.mp hb).elim (fun q=>X.live _ _ x.1 b q) fun q=>let ⟨o,e,_⟩:=x.2.live b q; ⟨o,e⟩
  hid:=fun b o e hb=>(List.mem_append.mp hb).elim (fun q=>X.hid b o e q) fun q=>hm b o e q
theorem HasTab.mach {X:Gw D} {g:X.Γ} {hm:∀ b o,D.h0.get? b=some o→b ∉ m.l} {c P:Addr} {qs:List (Pos × Str)} (T:HasTab X c P qs):HasTab (X.mach g cl m text hm) c P qs where
  C:=T.C
  mem:=List.mem_append_left _ T.mem
  tab:=fun st h x=>T.tab g h x.1
  back:=fun st h h' x ht gr k=>by
    refine ⟨T.back g h h' x.1 ht gr fun b o hb e=>k b o (hb.imp (fun q=>⟨List.mem_append_left _ q.1,q.2⟩) id) e,x.2.move fun b o hb e=>k b o ?_ e⟩
    rcases hb with hb | hb
    · refine .inl ⟨List.mem_append_right _ hb,fun q=>?_⟩
      obtain ⟨ps,hy119_1⟩:=T.tab g h x.1
      have e1:=hy119_1.1
      have e2:=hy119_1.2.1
      clear hy119_1
      subst q
      obtain ⟨o',hy121_1⟩:=x.2.live _ hb
      have e3:=hy121_1.1
      have n3:=hy121_1.2
      clear hy121_1
      rw [e1] at e3; cases e3
      exact n3 _ rfl
    · exact .inr hb
  live:=fun st h x b hb=>(List.mem_append.mp hb).elim (fun q=>T.live g h x.1 b q) fun q=>let ⟨o,e,n⟩:=x.2.live b q; ⟨o,e,not_codish n⟩
  qs:=T.qs
end
theorem Does.sliceS {c:Cx} {a l u:Expr} {p pos:Pos} {x:Str} {i j:Int} (ha:Does c a (.str x)) (hl:Does c l (.int i)) (hu:Does c u (.int j)) (hx:x.length≤4096) (ht:∀ o r,letTemporaryGo a o r=pure ():=by intro _ _; rfl) :
    Does c (.Subscript a (.Slice (some l) (some u) none p) pos) (.str (Txt.slice x (some i) (some j))):=.of fun s E hs=>by
  refine wpAny_Subscript_str_slice (run_on hs (ha s E hs) fun ra s₁ xa h₁ k₁=>?_) ht
  rw [evalPart_some]
  refine run_on h₁ (hl s₁ E h₁) fun rl s₂ xl h₂ k₂=>?_
  rw [evalPart_some]
  refine run_on h₂ (hu s₂ E h₂) fun ru s₃ xu h₃ k₃=>?_
  unfold VRel at xa
  obtain ⟨t,rfl⟩:=xa
  obtain ⟨tl,rfl⟩:=xl.int'
  obtain ⟨tu,rfl⟩:=xu.int'
  refine ⟨x,t,some (i,tl),some (j,tu),rfl,rfl,rfl,post_val_or_str ⟨Nat.le_trans (Txt.slice_le x _ _) (by rw [sizeLine_eq]; omega),fun t' k=>⟨.t _ _,kTrans (kTrans k₁.1 (kTrans k₂.1 k₃.1)) ⟨_,_,rfl,fun b o e=>Heap.get?_push_of_some _ e⟩⟩⟩⟩
noncomputable def chAt (x:Str) (p:Nat):Str:=Txt.slice x (some (p:Int)) (some ((p:Int)+1))
theorem chAt_in {x:Str} {p:Nat} {c:Nat} (h:x.cps.toList[p]?=some c):chAt x p=⟨#[c]⟩:=by
  have hp:p < x.cps.toList.length:=(List.getElem?_eq_some_iff.mp h).1
  have hlx:x.length=x.cps.toList.length:=by simp [Str.length]
  have:=StrLaws.sliceText_nat x (a:=p) (b:=p+1) (by omega) (by rw [hlx]; omega)
  show StrLaws.sliceText x (some (p:Int)) (some ((p+1:Nat):Int))=_
  rw [this]
  have e:(x.cps.toList.drop p).take (p+1 - p)=[c]:=by
    rw [List.drop_eq_getElem_cons hp]
    have e1:p+1 - p=1:=by omega
    rw [e1]
    simp only [List.take_succ_cons,List.take_zero]
    congr 1
    exact Option.some.inj ((List.getElem?_eq_getElem hp).symm.trans h)
  rw [e]
theorem chAt_end {x:Str} {p:Nat} (h:x.length≤p):chAt x p="":=by
  show StrLaws.sliceText x (some (p:Int)) (some ((p:Int)+1))=_
  have e:Builtin.Str.strSliceIndices (some (p:Int)) (some ((p:Int)+1)) 1 x.length=Builtin.Str.strSliceIndices (some (x.length:Int)) (some (x.length:Int)) 1 x.length:=by
    unfold Builtin.Str.strSliceIndices
    have a1:¬ ((p:Int) < 0):=by omega
    have a2:¬ ((p:Int)+1 < 0):=by omega
    have a3:¬ ((x.length:Int) < 0):=by omega
    have a4:min (p:Int) (x.length:Int)=x.length:=by omega
    have a5:min ((p:Int)+1) (x.length:Int)=x.length:=by omega
    simp [a1,a2,a3,a4,a5]
  have:=StrLaws.sliceText_nat x (a:=x.length) (b:=x.length) (Nat.le_refl _) (Nat.le_refl _)
  unfold StrLaws.sliceText at this ⊢
  rw [e,this,Nat.sub_self,List.take_zero]
  rfl
noncomputable def lBody65:List Stmt:=(nest 65 1).1
noncomputable def lScope65:Scope:=(nest 65 1).2.1
noncomputable def lArgs65:Arguments:=(nest 65 1).2.2.1
noncomputable def lPos65:Pos:=(nest 65 1).2.2.2
noncomputable def lks65:List Str:=["size","sign"]
theorem lok65:ScOkC lScope65 lks65:=⟨by decide,by decide,by decide,rfl⟩
noncomputable def q65:Str:="_law_machine"++".<locals>."++"_law_read_on"
noncomputable def MSt.read (text:Str) (st:MSt):MSt:={ st with pos:=st.pos+(chAt text st.pos).length }
theorem MachAt.setPos {D:Wd} {cl:Cls D} {m:MAd} {text:Str} {st:MSt} {h h':Heap} {p:Nat} (x:MachAt cl m text st h) (k:∀ b o,b≠m.at_→h.get? b=some o→h'.get? b=some o) (kc:∀ b o,codish o→h.get? b=some o→h'.get? b=some o) (hi:IntsAt m.at_ [(p:Int)] h'):MachAt cl m text { st with pos:=p } h':=by
  have hat:∃ rs n,h.get? m.at_=some { cls:=.type "list",dict:=none,data:=.seq rs n,slots:=#[] }:=let ⟨rs,⟨n,e⟩,_⟩:=x.pos; ⟨_,n,e⟩
  obtain ⟨rs,n,hat⟩:=hat
  have ne:∀ {b o},h.get? b=some o→(∀ its n,o.data≠.seq its n)→b≠m.at_:=fun e hn q=>by rw [q,hat] at e; cases e; exact hn _ _ rfl
  refine ⟨k _ _ (ne x.x x.ns0) x.x,x.cls,x.nc,x.nf,x.ns0,x.nd,x.dict,?_,k _ _ (ne x.stm fun _ _ q=>nomatch q) x.stm,?_,x.read,k _ _ (ne x.rf fun _ _ q=>nomatch q) x.rf,CodeRec.cod x.code x.qual kc,⟨x.text.1,?_⟩,⟨x.at_.1,?_⟩,hi,x.pb.move fun o e=>k _ o x.ne.2.1.symm e,x.ne,x.qual⟩
  · obtain ⟨mA,hy61_1⟩:=x.ns
    have hA:=hy61_1.1
    have r:=hy61_1.2
    clear hy61_1
    refine ⟨mA,hA.at fun o e=>k _ o ?_ e,r⟩
    obtain ⟨o',es,ep,hy63_1⟩:=hA
    have e':=hy63_1.1
    have d:=hy63_1.2.1
    clear hy63_1
    exact ne e' fun _ _ q=>by rw [d] at q; cases q
  · refine x.sd.at' fun o e=>k _ o ?_ e
    obtain ⟨o',es,ep,hy66_1⟩:=x.sd
    have e':=hy66_1.1
    have d:=hy66_1.2.1
    clear hy66_1
    exact ne e' fun _ _ q=>by rw [d] at q; cases q
  · obtain ⟨t,q⟩:=x.text.2
    refine ⟨t,IsCell.at' q fun o e=>k _ o ?_ e⟩
    obtain ⟨o',hy70_1⟩:=q
    have e':=hy70_1.1
    have d:=hy70_1.2
    clear hy70_1
    exact ne e' fun _ _ q=>by rw [d] at q; cases q
  · refine IsCell.at' x.at_.2 fun o e=>k _ o ?_ e
    obtain ⟨o',hy73_1⟩:=x.at_.2
    have e':=hy73_1.1
    have d:=hy73_1.2
    clear hy73_1
    exact ne e' fun _ _ q=>by rw [d] at q; cases q
theorem readOn {D:Wd} {X:Gw D} {g:X.Γ} {cl:Cls D} {m:MAd} {text:Str} {hm:∀ b o,D.h0.get? b=some o→b ∉ m.l} (hdj:∀ b∈X.l,b ∉ m.l) (hlen:D.gl "len"=some (.builtin "len")) (htx:text.length≤1000) {clos:List (Str × Addr)} {doc pm cv ctv:Value}
    (hfd:m.fd=fnX "_law_read_on" q65 lArgs65 lBody65 lScope65 clos .none .none doc pm none cv ctv) {st:MSt} {A:Around} (hA:AOk 1 A) (s:Shared) (E:Value→Shared→Prop) (rs:List Value) (hs:Ext D.h0 s.heap) (ht:1≤s.toks) (hg:(X.mach g cl m text hm).G st s.heap) (hrs:VRels m.x s.heap [.int 1] rs) :
    wpAny (model D.prog D.w) A (PySem.call (.ref m.rf) rs) (fun r s'=>VX (fun b=>b∈X.l++m.l) m.x s'.heap (.str (chAt text st.pos)) r∧(X.mach g cl m text hm).G (st.read text) s'.heap∧Mg (X.l++m.l) s s') E s:=by
  have M:=hg.2
  have hrf:=M.rf
  have hcode:=M.code
  have htxt:=M.text.1
  have hat:=M.at_.1
  rw [hfd] at hrf hcode htxt hat
  refine D.callC (X.mach g cl m text hm) hA (K:=fun _=>True) (ks:=lks65) (vs:=[.int 1]) (v:=.str (chAt text st.pos)) (μ:=m.x) (g:=st) (g':=st.read text) 1 hrf rfl hcode rfl rfl rfl lok65 (by show 1≤2; decide)
    (len1 fun _=>rfl) ?_ rfl rfl E rs hs ht hg trivial fun h' _=>hrs.flat rfl
  intro σ _ hμ
  apply Rets.ends
  have htext:∀ {ρ W st p},Does ((σ.fxc lScope65 lks65 lok65 clos (X.mach g cl m text hm)).cx ρ st W) (.Name "text" p) (.str text):=fun {ρ W st p}=>.nm fun s hs=>by
    obtain ⟨_,_,_,y⟩:=hs
    have hw90_1:=y.gh.2.text.2
    obtain ⟨t,q⟩:=hw90_1
    exact ⟨_,.inr ⟨.inr ⟨by show lScope65.names.lookup _=_; decide,by decide⟩,m.ct,htxt,q⟩,.t _ _⟩
  have hatV:∀ {ρ W st} s,((σ.fxc lScope65 lks65 lok65 clos (X.mach g cl m text hm)).cx ρ st W).P s→VarAt (σ.fxc lScope65 lks65 lok65 clos (X.mach g cl m text hm)).env s.heap "at" (.ref m.at_):=fun {ρ W st} s hs=>by
    obtain ⟨_,_,_,y⟩:=hs
    exact .inr ⟨.inr ⟨by show lScope65.names.lookup _=_; decide,by decide⟩,m.ca,hat,y.gh.2.at_.2⟩
  have hatL:∀ {ρ W p} {st:MSt},Does ((σ.fxc lScope65 lks65 lok65 clos (X.mach g cl m text hm)).cx ρ st W) (.Name "at" p) (.list [.int st.pos]):=fun {ρ W p st}=>.nm fun s hs=>by
    refine ⟨_,hatV s hs,?_⟩
    obtain ⟨_,_,_,y⟩:=hs
    obtain ⟨rs,hy98_1⟩:=y.gh.2.pos
    have hp:=hy98_1.1
    have hr:=hy98_1.2
    clear hy98_1
    unfold VRel
    exact ⟨m.at_,rs,rfl,hp,hr.ints (ds:=[(st.pos:Int)])⟩
  have hidx:∀ {ρ W p q r k} {st:MSt},Does ((σ.fxc lScope65 lks65 lok65 clos (X.mach g cl m text hm)).cx ρ st W) (.Subscript (.Name "at" p) (.Constant (.int 0) k q) r) (.int st.pos):=fun {ρ W p q r k st}=>Does.idx (vs:=[.int st.pos]) (k:=0) hatL .int (by decide) rfl rfl
  have hcl:=Txt.slice_le text (some (st.pos:Int)) (some ((st.pos:Int)+1))
  refine Rets.cons (ρ₁:=[.val (.int 1),.val (.str (chAt text st.pos))]) (g₁:=st) ?_ ?_
  · apply Run1.asg (F:=σ.fxc lScope65 lks65 lok65 clos (X.mach g cl m text hm)) (i:=1)
    · exact fun W=>Does.sliceS htext hidx (.bin hidx (.nm (Fx.var (i:=0) rfl rfl)) rfl) (by omega)
    · rfl
    · rfl
  refine Rets.cons (ρ₁:=[.val (.int 1),.val (.str (chAt text st.pos))]) (g₁:=st.read text) ?_ ?_
  · apply Run1.setE (F:=σ.fxc lScope65 lks65 lok65 clos (X.mach g cl m text hm)) (ad:=m.at_) (ds:=[(st.pos:Int)]) (k:=0) (v:=(st.pos:Int)+((chAt text st.pos).length:Int))
    · exact fun W=>hatV
    · exact fun W=>.int
    · exact fun W=>.bin hidx (.callB (by show lScope65.names.lookup _=_; decide) hlen (.cons (.nm (Fx.var (i:=1) rfl rfl)) .nil) (.lenS (shortL_of (by show (chAt text st.pos).length < 4096; exact Nat.lt_of_le_of_lt hcl (by omega))))) rfl
    · exact List.mem_append_right _ (by simp [MAd.l])
    · exact fun h q=>q.2.pos
    · intro h h' q hs' hi
      have hm_at:m.at_∈m.l:=by simp [MAd.l]
      have kk:∀ b o,b≠m.at_→h.get? b=some o→h'.get? b=some o:=hs'.extBut
      have kc:∀ b o,codish o→h.get? b=some o→h'.get? b=some o:=fun b o hb e=>kk b o (fun z=>by obtain ⟨rs,⟨n,e2⟩,_⟩:=q.2.pos; rw [z,e2] at e; cases e; exact not_cod hb) e
      refine ⟨X.Gok _ _ _ q.1 fun b o hb e=>hb.elim (fun hb=>kk b o (fun z=>hdj b hb (z ▸ hm_at)) e) fun hb=>kc b o hb e,q.2.setPos kk kc ?_⟩
      have e:((st.pos+(chAt text st.pos).length:Nat):Int)=(st.pos:Int)+((chAt text st.pos).length:Int):=by push_cast; rfl
      rw [e]
      exact hi
    · exact (X.mach g cl m text hm).live _
    · decide
    · exact Int.zero_lt_one
    · show 1 < 4096; decide
  exact Rets.retFl (fun W=>.nm (Fx.var (i:=1) rfl rfl)) rfl
noncomputable def cBody:List Stmt:=match PySem.Challenge.pw_to0060_01.main.body[(63:Nat)]? with
  | some (.ClassDef _ _ _ b _ _ _ _ _ _ _)=>b
  | _=>[]
noncomputable def mPart (j:Nat):List Stmt × Scope × Arguments:=match cBody[j]? with
  | some (.FunctionDef _ a b _ _ _ sc _ _ _)=>(b,sc,a)
  | _=>([],default,default)
structure MFn {D:Wd} (cl:Cls D) (name:Str) (j:Nat) where
  a:Addr
  o:Obj
  pm:Value
  cd:Value
  doc:Value
  inN:cl.mN name=some (.ref a)
  ho:D.h0.get? a=some o
  hc:o.cls=.type "function"
  hd:o.data=.func (methDef name ("_netrclex."++name) (mPart j).2.2 (mPart j).1 (mPart j).2.1 pm cd doc)
  hcd:D.h0.CodeRec cd ("_netrclex."++name)
structure Mws (D:Wd) where
  X:Gw D
  g:X.Γ
  cl:Cls D
  m:MAd
  text:Str
  hm:∀ b o,D.h0.get? b=some o→b ∉ m.l
  hdj:∀ b∈X.l,b ∉ m.l
  htx:text.length≤1000
  hfd:∃ clos doc pm cv ctv,m.fd=fnX "_law_read_on" q65 lArgs65 lBody65 lScope65 clos .none .none doc pm none cv ctv
  glen:D.gl "len"=some (.builtin "len")
  rd:MFn cl "_read_char" 1
  gt:MFn cl "get_token" 2
  pt:MFn cl "push_token" 3
noncomputable abbrev Mws.Y {D:Wd} (w:Mws D):Gw D:=w.X.mach w.g w.cl w.m w.text w.hm
theorem MachAt.setLine {D:Wd} {cl:Cls D} {m:MAd} {text:Str} {st:MSt} {h h':Heap} {i:Int} (x:MachAt cl m text st h) (k:∀ b o,b≠m.dx→h.get? b=some o→h'.get? b=some o)
    (hn:∃ mA,h'.Ns1 m.dx mA∧Within mA ["pushback","whitespace","instream","lineno"]∧mA "pushback"=some (.ref m.pb)∧(∃ t,mA "whitespace"=some (.str "\n\t\r " t))∧mA "instream"=some (.ref m.st)∧(∃ t,mA "lineno"=some (.int i t)) ∧
    mA "_read_char"=none∧mA "get_token"=none∧mA "push_token"=none):MachAt cl m text { st with line:=i } h':=by
  have hd:∃ o es n,h.get? m.dx=some o∧o.data=.dict es n:=let ⟨mA,⟨o,es,ep,e,d,_⟩,_⟩:=x.ns; ⟨o,es,ep,e,d⟩
  obtain ⟨od,es,n,hy42_1⟩:=hd
  have hod:=hy42_1.1
  have hdd:=hy42_1.2
  clear hy42_1
  have ne:∀ {b o},h.get? b=some o→(∀ es n,o.data≠.dict es n)→b≠m.dx:=fun e hn q=>by rw [q,hod] at e; cases e; exact hn _ _ hdd
  have kc:∀ b o,codish o→h.get? b=some o→h'.get? b=some o:=fun b o ⟨_,_,_,e,_⟩ e2=>k b o (ne e2 fun _ _ q=>by rw [e] at q; cases q) e2
  refine ⟨k _ _ (ne x.x x.nd) x.x,x.cls,x.nc,x.nf,x.ns0,x.nd,x.dict,hn,k _ _ (ne x.stm fun _ _ q=>nomatch q) x.stm,x.sd.at' fun o e=>k _ o x.ne.1.symm e,x.read,k _ _ (ne x.rf fun _ _ q=>nomatch q) x.rf,CodeRec.cod x.code x.qual kc,⟨x.text.1,?_⟩,⟨x.at_.1,?_⟩,?_,?_,x.ne,x.qual⟩
  · obtain ⟨t,q⟩:=x.text.2
    refine ⟨t,IsCell.at' q fun o e=>k _ o ?_ e⟩
    obtain ⟨o',hy48_1⟩:=q
    have e':=hy48_1.1
    have d:=hy48_1.2
    clear hy48_1
    exact ne e' fun _ _ q=>by rw [d] at q; cases q
  · refine IsCell.at' x.at_.2 fun o e=>k _ o ?_ e
    obtain ⟨o',hy51_1⟩:=x.at_.2
    have e':=hy51_1.1
    have d:=hy51_1.2
    clear hy51_1
    exact ne e' fun _ _ q=>by rw [d] at q; cases q
  · refine x.pos.move fun o e=>k _ o ?_ e
    obtain ⟨rs,hy54_1⟩:=x.pos
    have hx54_0:=hy54_1.1
    clear hy54_1
    obtain ⟨n,e2⟩:=hx54_0
    exact ne e2 fun _ _ q=>nomatch q
  · refine x.pb.move fun o e=>k _ o ?_ e
    obtain ⟨l,hy57_1⟩:=x.pb
    have hw57_2:=hy57_1.2
    clear hy57_1
    obtain ⟨n,e2⟩:=hw57_2
    exact ne e2 fun _ _ q=>nomatch q
section
variable {D:Wd} (w:Mws D)
theorem obj_store {prog:Program} {wd:World} {A:Around} {E:Value→Shared→Prop} {s:Shared} {st:MSt} {v:Value} {Q:Unit→Shared→Prop} {i:Int} {t:Tok} (hs:Ext D.h0 s.heap) (M:MachAt w.cl w.m w.text st s.heap) (hv:v=.int i t)
    (hq:∀ h' tk,MachAt w.cl w.m w.text { st with line:=i } h'→(∀ b o,b≠w.m.dx→s.heap.get? b=some o→h'.get? b=some o)→Q () { s with heap:=h',toks:=tk }):wpAny (model prog wd) A (setAttr (.ref w.m.x) "lineno" v) Q E s:=by
  obtain ⟨h,g,d,tk,os⟩:=s
  obtain ⟨mA,hy64_1⟩:=M.ns
  have hA:=hy64_1.1
  have hw:=hy64_1.2.1
  have hp:=hy64_1.2.2.1
  have hws:=hy64_1.2.2.2.1
  have hin:=hy64_1.2.2.2.2.1
  have hln:=hy64_1.2.2.2.2.2.1
  have h1:=hy64_1.2.2.2.2.2.2.1
  have h2:=hy64_1.2.2.2.2.2.2.2.1
  have h3:=hy64_1.2.2.2.2.2.2.2.2
  clear hy64_1
  have X:=w.cl.at_.keeps hs
  obtain ⟨nm,q,bs,sn,sub,col,dd,k0,k1,k2,k3,k5,hC⟩:=X.obj
  have hxC:w.m.x≠w.cl.C:=fun q=>by
    have:=M.x
    rw [q,hC] at this
    exact M.nc _ (by rw [← Option.some.inj this])
  refine store_attr PySem.F.store_object hC X.ns w.cl.sa w.cl.lineno (by rw [typeLookup_type,builtinLookup_eq_fast]; kernel_rfl) hxC (mA:=mA) ⟨w.m.o,M.x,M.cls,M.nc,.inr ⟨w.m.dx,M.dict,M.ne.2.2.symm,hA⟩⟩ (fun h' tk' I' hk hsame=>?_) hw (by rw [sizeLine_eq]; decide)
  obtain ⟨o₁,hy72_1⟩:=hsame _ M.x
  have e1:=hy72_1.1
  have c1:=hy72_1.2.1
  have d1:=hy72_1.2.2.1
  have s1:=hy72_1.2.2.2.1
  have dd1:=hy72_1.2.2.2.2
  clear hy72_1
  have eo:o₁=w.m.o:=by
    obtain ⟨a,b,c,e⟩:=o₁
    have hdict:=dd1 _ M.dict
    have:=M.dict
    cases ho:w.m.o with
    | mk a' b' c' e' =>
      rw [ho] at c1 d1 s1 this
      simp only at c1 d1 s1 this hdict
      rw [c1,d1,s1,hdict,this]
  subst eo
  obtain ⟨o₂,hy83_1⟩:=I'
  have e2:=hy83_1.1
  have c2:=hy83_1.2.1
  have n2:=hy83_1.2.2.1
  have hd2:=hy83_1.2.2.2
  clear hy83_1
  rw [e1] at e2; cases e2
  have hns:h'.Ns1 w.m.dx (fun y=>if y="lineno" then some v else mA y):=by
    rcases hd2 with ⟨q,_⟩ | ⟨d',q1,q2,q3⟩
    · rw [M.dict] at q; cases q
    · rw [M.dict] at q1; cases q1; exact q3
  have kk:∀ b o,b≠w.m.dx→h.get? b=some o→h'.get? b=some o:=fun b o hb e=>by
    by_cases hx:b=w.m.x
    · subst hx; rw [M.x] at e; cases e; exact e1
    · exact hk b o hx (fun o₀ dx e0 e1=>by rw [M.x] at e0; cases e0; rw [M.dict] at e1; cases e1; exact hb) e
  refine hq h' tk' (M.setLine kk ⟨_,hns,?_,?_,?_,?_,⟨t,?_⟩,?_,?_,?_⟩) kk
  · intro y hy
    by_cases e:y="lineno"
    · subst e; simp
    · simp only [e,if_false] at hy; exact hw y hy
  · exact (if_neg (by decide)).trans hp
  · exact let ⟨t,q⟩:=hws; ⟨t,(if_neg (by decide)).trans q⟩
  · exact (if_neg (by decide)).trans hin
  · exact (if_pos rfl).trans (congrArg some hv)
  · exact (if_neg (by decide)).trans h1
  · exact (if_neg (by decide)).trans h2
  · exact (if_neg (by decide)).trans h3
theorem obj_get {prog:Program} {wd:World} {A:Around} {E:Value→Shared→Prop} {s:Shared} {st:MSt} {name:Str} {v:Value} {expr:Bool} {Q:Value→Shared→Prop} (hs:Ext D.h0 s.heap) (M:MachAt w.cl w.m w.text st s.heap) (hv:∃ mA,s.heap.Ns1 w.m.dx mA∧mA name=some v) (hc:w.cl.mN name=none)
    (hB:typeLookup (.type "object") name=pure none) (hh:handedOut v=pure v) (hq:Q v { s with toks:=s.toks+1 }):wpAny (model prog wd) A (getAttr (.ref w.m.x) name expr) Q E s:=by
  obtain ⟨h,g,d,tk,os⟩:=s
  obtain ⟨mA,hy108_1⟩:=hv
  have hA:=hy108_1.1
  have hm:=hy108_1.2
  clear hy108_1
  have X:=w.cl.at_.keeps hs
  obtain ⟨nm,q,bs,sn,sub,col,dd,k0,k1,k2,k3,k5,hC⟩:=X.obj
  exact load_attr hC X.ns w.cl.ga hc hB (mA:=mA) ⟨w.m.o,M.x,M.cls,M.nc,.inr ⟨w.m.dx,M.dict,M.ne.2.2.symm,hA⟩⟩ hm hh hq
theorem obj_meth {prog:Program} {wd:World} {A:Around} {E:Value→Shared→Prop} {s:Shared} {st:MSt} {name:Str} {j:Nat} (f:MFn w.cl name j) {pl:Sem Bool} {Q:Value × List Value→Shared→Prop} (hs:Ext D.h0 s.heap) (M:MachAt w.cl w.m w.text st s.heap) (hv:∃ mA,s.heap.Ns1 w.m.dx mA∧mA name=none)
    (hB:typeLookup (.type "object") name=pure none) (hq:Q (.ref f.a,[.ref w.m.x]) s):wpAny (model prog wd) A (getMethod (.ref w.m.x) name pl) Q E s:=by
  obtain ⟨h,g,d,tk,os⟩:=s
  obtain ⟨mA,hy115_1⟩:=hv
  have hA:=hy115_1.1
  have hm:=hy115_1.2
  clear hy115_1
  have X:=w.cl.at_.keeps hs
  obtain ⟨nm,q,bs,sn,sub,col,dd,k0,k1,k2,k3,k5,hC⟩:=X.obj
  exact method_of hC X.ns w.cl.ga w.cl.hook f.inN (hs _ _ f.ho) f.hc hB (mA:=mA) ⟨w.m.o,M.x,M.cls,M.nc,.inr ⟨w.m.dx,M.dict,M.ne.2.2.symm,hA⟩⟩ hm hq
theorem lkB (name:Str) (h:name="instream"∨name="pushback"∨name="whitespace"∨name="lineno"∨name="_read_char"∨name="get_token"∨name="push_token"):typeLookup (.type "object") name=pure none:=by
  rcases h with rfl | rfl | rfl | rfl | rfl | rfl | rfl <;> (rw [typeLookup_type,builtinLookup_eq_fast]; kernel_rfl)
theorem MachAt.instream {h:Heap} {st:MSt} (M:MachAt w.cl w.m w.text st h):∃ mA,h.Ns1 w.m.dx mA∧mA "instream"=some (.ref w.m.st):=let ⟨mA,hA,_,_,_,q,_⟩:=M.ns; ⟨mA,hA,q⟩
theorem MachAt.pushback {h:Heap} {st:MSt} (M:MachAt w.cl w.m w.text st h):∃ mA,h.Ns1 w.m.dx mA∧mA "pushback"=some (.ref w.m.pb):=let ⟨mA,hA,_,q,_⟩:=M.ns; ⟨mA,hA,q⟩
theorem MachAt.whitespace {h:Heap} {st:MSt} (M:MachAt w.cl w.m w.text st h):∃ mA t,h.Ns1 w.m.dx mA∧mA "whitespace"=some (.str "\n\t\r " t):=let ⟨mA,hA,_,_,⟨t,q⟩,_⟩:=M.ns; ⟨mA,t,hA,q⟩
theorem MachAt.lineno {h:Heap} {st:MSt} (M:MachAt w.cl w.m w.text st h):∃ mA t,h.Ns1 w.m.dx mA∧mA "lineno"=some (.int st.line t):=let ⟨mA,hA,_,_,_,_,⟨t,q⟩,_⟩:=M.ns; ⟨mA,t,hA,q⟩
theorem MachAt.no {h:Heap} {st:MSt} (M:MachAt w.cl w.m w.text st h):∃ mA,h.Ns1 w.m.dx mA∧mA "_read_char"=none∧mA "get_token"=none∧mA "push_token"=none:=let ⟨mA,hA,_,_,_,_,_,q⟩:=M.ns; ⟨mA,hA,q⟩
noncomputable def MSt.readc (text:Str) (st:MSt):MSt:=if chAt text st.pos="\n" then { st.read text with line:=st.line+1 } else st.read text
noncomputable def ksRC:List Str:=["self","ch"]
theorem okRC:ScOk (mPart 1).2.1 ksRC:=⟨by decide,by decide,rfl⟩
theorem self_at {F:Fx} {ρ:List Slot} {g:F.Γ} {W:Addr→Prop} {i:Nat} {x:Str} (hx:F.ks[i]?=some x) (hi:ρ[i]?=some (.val .mach)):∀ s,(F.cx ρ g W).P s→VarAt F.env s.heap x (.ref F.μ):=fun s ⟨m,cm,α,y⟩=>by
  obtain ⟨r,hy131_1⟩:=y.slot i x _ hx hi
  have h1:=hy131_1.1
  have h2:=hy131_1.2
  clear hy131_1
  have:=h2.rel
  unfold VRel at this
  subst this
  exact h1.var F.hown y.ic
theorem walkRC {k:Nat} {st:MSt} (σ:Site D k) (hk:1≤k) (hμ:σ.μ=w.m.x):Rets (σ.fxg (mPart 1).2.1 ksRC okRC w.Y) (mPart 1).1 [.val .mach,.non] st (.str (chAt w.text st.pos)) (w.Y.G (st.readc w.text)):=by
  have hself:∀ {ρ st W},ρ[0]?=some (Slot.val .mach)→∀ s,((σ.fxg (mPart 1).2.1 ksRC okRC w.Y).cx ρ st W).P s→VarAt (σ.fxg (mPart 1).2.1 ksRC okRC w.Y).env s.heap "self" (.ref w.m.x):=fun {ρ st W} hi s hs=>by
    have:=self_at (F:=σ.fxg (mPart 1).2.1 ksRC okRC w.Y) (i:=0) rfl hi s hs
    rw [show (σ.fxg (mPart 1).2.1 ksRC okRC w.Y).μ=w.m.x from hμ] at this
    exact this
  refine Rets.cons (ρ₁:=[.val .mach,.val (.str (chAt w.text st.pos))]) (g₁:=st.read w.text) ?_ ?_
  · apply Run1.asgG (F:=σ.fxg (mPart 1).2.1 ksRC okRC w.Y) (i:=1) (l:=w.Y.l)
    · exact fun b=>Iff.rfl
    · intro W s E hs
      obtain ⟨clos,doc,pm,cv,ctv,hfd⟩:=w.hfd
      have hz146:=Site.extG s hs
      have hx:=hz146.1
      have hg:=hz146.2
      clear hz146
      have ht:=((σ.fxg (mPart 1).2.1 ksRC okRC w.Y).cx [.val .mach,.non] st W).toks s hs
      refine MethodCall_ (pl:=pure false) (Attribute_name (wpAny_Name ((hself rfl s hs).load rfl ?_) (by decide)))
      have hg':w.Y.G st s.heap:=hg
      refine obj_get w hx hg'.2 (MachAt.instream w hg'.2) w.cl.instream (lkB _ (.inl rfl)) rfl ?_
      refine wpAny_grow (Q:=fun fx s₂=>fx=(.ref w.m.rf,[])∧∃ tk,s₂={ s with toks:=tk }) (Nat.le_add_left _ _) ?_ fun fx s₂ ht₂ _ q=>?_
      · obtain ⟨hp,g,d,tk,os⟩:=s
        exact fn_getMethod hg'.2.stm hg'.2.sd hg'.2.read rfl fun tk'=>⟨rfl,tk',rfl⟩
      have hx154_0:=q.1
      have hw154_1:=q.2
      try clear q
      subst hx154_0
      obtain ⟨tk,rfl⟩:=hw154_1
      refine Calls.callWith_function (o:={ cls:=.type "function",data:=.func w.m.fd }) (fd:=w.m.fd) (args_any (wpAny_items_cons (wpAny_Constant_int (Calls.spliced_nil ⟨⟨hg'.2.rf,rfl⟩,?_⟩)) rfl) rfl)
      rw [show ((σ.fxg (mPart 1).2.1 ksRC okRC w.Y).cx [.val .mach,.non] st W).μ=w.m.x from hμ]
      refine wpAny_mono (readOn w.hdj w.glen w.htx hfd (A:=σ.A) (σ.hA.le hk) { s with toks:=tk+1 } E _ hx (Nat.le_add_left _ _) hg' (.cons (.i _ _) .nil)) (fun r s' q=>⟨q.1,q.2.1,(K1.mg ⟨kTok s _,Nat.le_add_left _ _,Nat.le_refl _⟩).trans q.2.2⟩) fun _ _ q=>q
    · rfl
    · exact w.Y.live _
    · rfl
  refine Rets.cons (ρ₁:=[.val .mach,.val (.str (chAt w.text st.pos))]) (g₁:=st.readc w.text) ?_ (Rets.retFl (fun W=>.nm (Fx.var (i:=1) rfl rfl)) rfl)
  refine Run1.iff (x:=(chAt w.text st.pos == "\n")) (fun W=>Tests.cmp (.nm (Fx.var (i:=1) rfl rfl)) .str rfl) (fun q=>?_) (fun q=>?_)
  · have e:st.readc w.text={ st.read w.text with line:=st.line+1 }:=if_pos (eq_of_beq q)
    rw [e]
    refine Runs.cons (ρ₁:=[.val .mach,.val (.str (chAt w.text st.pos))]) (g₁:={ st.read w.text with line:=st.line+1 }) (fun W s E hs=>?_) .nil
    have hz166:=Site.extG s hs
    have hx:=hz166.1
    have hg:=hz166.2
    clear hz166
    have hg':w.Y.G (st.read w.text) s.heap:=hg
    have ht:=((σ.fxg (mPart 1).2.1 ksRC okRC w.Y).cx [.val .mach,.val (.str (chAt w.text st.pos))] (st.read w.text) W).toks s hs
    refine wpAny_AugAssign_AttributeAny (wpAny_Name ((hself rfl s hs).load rfl ?_) (by decide))
    obtain ⟨mA,t,hy170_1⟩:=MachAt.lineno w hg'.2
    have hA:=hy170_1.1
    have hl:=hy170_1.2
    clear hy170_1
    refine obj_get w hx hg'.2 ⟨mA,hA,hl⟩ w.cl.lineno (lkB _ (.inr (.inr (.inr (.inl rfl))))) rfl ?_
    refine wpAny_Constant_int (iadd_int ?_)
    refine wpAny_grow (Q:=fun _ s₂=>∃ h' tk,MachAt w.cl w.m w.text { st.read w.text with line:=st.line+1 } h'∧(∀ b o,b≠w.m.dx→s.heap.get? b=some o→h'.get? b=some o)∧s₂={ s with heap:=h',toks:=tk }) (Nat.le_add_left _ _) (obj_store w (i:=st.line+1) (s:={ s with toks:=s.toks+1+1+1 }) hx hg'.2 rfl fun h' tk h1 h2=>⟨h',tk,h1,h2,rfl⟩) fun _ s₂ ht₂ hz₂ q=>?_
    obtain ⟨h',tk,hy174_1⟩:=q
    have h1:=hy174_1.1
    have h2:=hy174_1.2.1
    have hx174_0:=hy174_1.2.2
    clear hy174_1
    subst hx174_0
    have hdx:w.m.dx∈w.m.l:=by simp [MAd.l]
    have hnc:∀ o,s.heap.get? w.m.dx=some o→¬ codish o:=fun o e=>by obtain ⟨o',e',n⟩:=hg'.2.live _ hdx; rw [e] at e'; cases e'; exact not_codish n
    have gk:w.Y.G { st.read w.text with line:=st.line+1 } h':=⟨w.X.Gok _ _ _ hg'.1 fun b o hb e=>h2 b o (fun z=>hb.elim (fun hb=>w.hdj b hb (z ▸ hdx)) fun hb=>hnc o (z ▸ e) hb) e,h1⟩
    exact ⟨rfl,W,Fr1.gmove hs ⟨h',tk,rfl⟩ ht₂ (fun b o hb e=>h2 b o (fun z=>hb (List.mem_append_right _ (z ▸ hdx))) e) gk (w.Y.live _ _ gk),⟨fun b o hb e=>h2 b o (fun z=>hb (Fr1.wg hs _ (List.mem_append_right _ (z ▸ hdx)))) e,hz₂,fun b hb=>.inl hb⟩⟩
  · have e:st.readc w.text=st.read w.text:=if_neg fun z=>by rw [z] at q; cases q
    rw [e]
    exact .nil
end
noncomputable abbrev vS (x:String) (t:Nat):Value:=.str (Str.ofString x) t
noncomputable abbrev vI (i:Int) (t:Nat):Value:=.int i t
noncomputable abbrev vR (a:Nat):Value:=.ref a
noncomputable abbrev dE (P:Params) (x:String) (t:Nat) (v:Value):DictEntry:=⟨PyData.keyHash P (Str.ofString x),.str (Str.ofString x) t,v⟩
noncomputable def o0 (P:Params):Obj:=(Obj.mk (Value.type "tuple") Option.none (Data.seq #[] 0) #[])
noncomputable def o1 (P:Params):Obj:=(Obj.mk Value.none Option.none (Data.fields #[]) #[])
noncomputable def o2 (P:Params):Obj:=(Obj.mk (Value.type "code") Option.none (Data.fields #[(vS "<module>" 182),(vS "<module>" 183),(vS "/claim/cut.py" 184),(vI 1 0),(vI 0 0),(vI 0 0),(vI 0 0),(vI 0 0),(vR 11),(Value.bool Bool.false),(vI 181 0),(vR 12),Value.none,Value.none,Value.none,Value.none,(vI 185 0),(vI 1 0),(vS "/claim/cut.py" 186)]) #[])
noncomputable def o3 (P:Params):Obj:=(Obj.mk (Value.type "frame") Option.none Data.plain #[(Option.some (vR 13)),(Option.some (vR 3)),(Option.some (vR 3)),Option.none,(Option.some (vS "__main__" 164)),Option.none,(Option.some (vR 0))])
noncomputable def o4 (P:Params):Obj:=(Obj.mk (Value.type "dict") Option.none (Data.dict #[(dE P "__name__" 165 (vS "cpy313.token" 187)),(dE P "__doc__" 166 Value.none),(dE P "__package__" 167 Value.none),(dE P "__loader__" 168 (Value.builtin "__main__.__loader__#opaque")),(dE P "__spec__" 169 Value.none),(dE P "__annotations__" 170 (vR 6)),(dE P "__builtins__" 171 (vR 4)),(dE P "__file__" 173 (vS "/claim/cut.py" 172)),(dE P "__cached__" 174 Value.none),(dE P "ENDMARKER" 190 (vI 0 189)),(dE P "LPAR" 192 (vI 7 191)),(dE P "RPAR" 194 (vI 8 193)),(dE P "LSQB" 196 (vI 9 195)),(dE P "RSQB" 198 (vI 10 197)),(dE P "COLON" 200 (vI 11 199)),(dE P "COMMA" 202 (vI 12 201)),(dE P "SEMI" 204 (vI 13 203)),(dE P "PLUS" 206 (vI 14 205)),(dE P "MINUS" 208 (vI 15 207)),(dE P "STAR" 210 (vI 16 209)),(dE P "SLASH" 212 (vI 17 211)),(dE P "VBAR" 214 (vI 18 213)),(dE P "AMPER" 216 (vI 19 215)),(dE P "LESS" 218 (vI 20 217)),(dE P "GREATER" 220 (vI 21 219)),(dE P "EQUAL" 222 (vI 22 221)),(dE P "DOT" 224 (vI 23 223)),(dE P "PERCENT" 226 (vI 24 225)),(dE P "LBRACE" 228 (vI 25 227)),(dE P "RBRACE" 230 (vI 26 229)),(dE P "EQEQUAL" 232 (vI 27 231)),(dE P "NOTEQUAL" 234 (vI 28 233)),(dE P "LESSEQUAL" 236 (vI 29 235)),(dE P "GREATEREQUAL" 238 (vI 30 237)),(dE P "TILDE" 240 (vI 31 239)),(dE P "CIRCUMFLEX" 242 (vI 32 241)),(dE P "LEFTSHIFT" 244 (vI 33 243)),(dE P "RIGHTSHIFT" 246 (vI 34 245)),(dE P "DOUBLESTAR" 248 (vI 35 247)),(dE P "PLUSEQUAL" 250 (vI 36 249)),(dE P "MINEQUAL" 252 (vI 37 251)),(dE P "STAREQUAL" 254 (vI 38 253)),(dE P "SLASHEQUAL" 256 (vI 39 255)),(dE P "PERCENTEQUAL" 258 (vI 40 257)),(dE P "AMPEREQUAL" 260 (vI 41 259)),(dE P "VBAREQUAL" 262 (vI 42 261)),(dE P "CIRCUMFLEXEQUAL" 264 (vI 43 263)),(dE P "LEFTSHIFTEQUAL" 266 (vI 44 265)),(dE P "RIGHTSHIFTEQUAL" 268 (vI 45 267)),(dE P "DOUBLESTAREQUAL" 270 (vI 46 269)),(dE P "DOUBLESLASH" 272 (vI 47 271)),(dE P "DOUBLESLASHEQUAL" 274 (vI 48 273)),(dE P "AT" 276 (vI 49 275)),(dE P "ATEQUAL" 278 (vI 50 277)),(dE P "RARROW" 280 (vI 51 279)),(dE P "ELLIPSIS" 282 (vI 52 281)),(dE P "COLONEQUAL" 284 (vI 53 283)),(dE P "EXCLAMATION" 286 (vI 54 285))] 58) #[])
noncomputable def o5 (P:Params):Obj:=(Obj.mk (Value.type "dict") Option.none (Data.dict #[(dE P "__name__" 165 (vS "cpy313.token" 187)),(dE P "__doc__" 166 Value.none),(dE P "__package__" 167 Value.none),(dE P "__loader__" 168 (Value.builtin "__main__.__loader__#opaque")),(dE P "__spec__" 169 Value.none),(dE P "__annotations__" 170 (vR 6)),(dE P "__builtins__" 171 (vR 4)),(dE P "__file__" 173 (vS "/claim/cut.py" 172)),(dE P "__cached__" 174 Value.none),(dE P "ENDMARKER" 190 (vI 0 189)),(dE P "LPAR" 192 (vI 7 191)),(dE P "RPAR" 194 (vI 8 193)),(dE P "LSQB" 196 (vI 9 195)),(dE P "RSQB" 198 (vI 10 197)),(dE P "COLON" 200 (vI 11 199)),(dE P "COMMA" 202 (vI 12 201)),(dE P "SEMI" 204 (vI 13 203)),(dE P "PLUS" 206 (vI 14 205)),(dE P "MINUS" 208 (vI 15 207)),(dE P "STAR" 210 (vI 16 209)),(dE P "SLASH" 212 (vI 17 211)),(dE P "VBAR" 214 (vI 18 213)),(dE P "AMPER" 216 (vI 19 215)),(dE P "LESS" 218 (vI 20 217)),(dE P "GREATER" 220 (vI 21 219)),(dE P "EQUAL" 222 (vI 22 221)),(dE P "DOT" 224 (vI 23 223)),(dE P "PERCENT" 226 (vI 24 225)),(dE P "LBRACE" 228 (vI 25 227)),(dE P "RBRACE" 230 (vI 26 229)),(dE P "EQEQUAL" 232 (vI 27 231)),(dE P "NOTEQUAL" 234 (vI 28 233)),(dE P "LESSEQUAL" 236 (vI 29 235)),(dE P "GREATEREQUAL" 238 (vI 30 237)),(dE P "TILDE" 240 (vI 31 239)),(dE P "CIRCUMFLEX" 242 (vI 32 241)),(dE P "LEFTSHIFT" 244 (vI 33 243)),(dE P "RIGHTSHIFT" 246 (vI 34 245)),(dE P "DOUBLESTAR" 248 (vI 35 247)),(dE P "PLUSEQUAL" 250 (vI 36 249)),(dE P "MINEQUAL" 252 (vI 37 251)),(dE P "STAREQUAL" 254 (vI 38 253)),(dE P "SLASHEQUAL" 256 (vI 39 255)),(dE P "PERCENTEQUAL" 258 (vI 40 257)),(dE P "AMPEREQUAL" 260 (vI 41 259)),(dE P "VBAREQUAL" 262 (vI 42 261)),(dE P "CIRCUMFLEXEQUAL" 264 (vI 43 263)),(dE P "LEFTSHIFTEQUAL" 266 (vI 44 265)),(dE P "RIGHTSHIFTEQUAL" 268 (vI 45 267)),(dE P "DOUBLESTAREQUAL" 270 (vI 46 269)),(dE P "DOUBLESLASH" 272 (vI 47 271)),(dE P "DOUBLESLASHEQUAL" 274 (vI 48 273)),(dE P "AT" 276 (vI 49 275)),(dE P "ATEQUAL" 278 (vI 50 277)),(dE P "RARROW" 280 (vI 51 279)),(dE P "ELLIPSIS" 282 (vI 52 281)),(dE P "COLONEQUAL" 284 (vI 53 283)),(dE P "EXCLAMATION" 286 (vI 54 285)),(dE P "EXACT_TOKEN_TYPES" 383 (vR 15))] 59) #[])
noncomputable def o6 (P:Params):Obj:=(Obj.mk (Value.type "dict") Option.none (Data.dict #[(dE P "!" 287 (vI 54 285)),(dE P "!=" 289 (vI 28 233)),(dE P "%" 291 (vI 24 225)),(dE P "%=" 293 (vI 40 257)),(dE P "&" 295 (vI 19 215)),(dE P "&=" 297 (vI 41 259)),(dE P "(" 299 (vI 7 191)),(dE P ")" 301 (vI 8 193)),(dE P "*" 303 (vI 16 209)),(dE P "**" 305 (vI 35 247)),(dE P "**=" 307 (vI 46 269)),(dE P "*=" 309 (vI 38 253)),(dE P "+" 311 (vI 14 205)),(dE P "+=" 313 (vI 36 249)),(dE P "," 315 (vI 12 201)),(dE P "-" 317 (vI 15 207)),(dE P "-=" 319 (vI 37 251)),(dE P "->" 321 (vI 51 279)),(dE P "." 323 (vI 23 223)),(dE P "..." 325 (vI 52 281)),(dE P "/" 327 (vI 17 211)),(dE P "//" 329 (vI 47 271)),(dE P "//=" 331 (vI 48 273)),(dE P "/=" 333 (vI 39 255)),(dE P ":" 335 (vI 11 199)),(dE P ":=" 337 (vI 53 283)),(dE P ";" 339 (vI 13 203)),(dE P "<" 341 (vI 20 217)),(dE P "<<" 343 (vI 33 243)),(dE P "<<=" 345 (vI 44 265)),(dE P "<=" 347 (vI 29 235)),(dE P "=" 349 (vI 22 221)),(dE P "==" 351 (vI 27 231)),(dE P ">" 353 (vI 21 219)),(dE P ">=" 355 (vI 30 237)),(dE P ">>" 356 (vI 34 245)),(dE P ">>=" 357 (vI 45 267)),(dE P "@" 358 (vI 49 275)),(dE P "@=" 359 (vI 50 277)),(dE P "[" 360 (vI 9 195)),(dE P "]" 361 (vI 10 197)),(dE P "^" 362 (vI 32 241)),(dE P "^=" 363 (vI 43 263)),(dE P "{" 364 (vI 25 227)),(dE P "|" 365 (vI 18 213)),(dE P "|=" 366 (vI 42 261)),(dE P "}" 367 (vI 26 229)),(dE P "~" 368 (vI 31 239))] 48) #[])
noncomputable def o7 (P:Params):Obj:=(Obj.mk (Value.type "dict") Option.none (Data.dict #[(dE P "->" 321 (vI 51 279)),(dE P "." 323 (vI 23 223)),(dE P "..." 325 (vI 52 281)),(dE P "/" 327 (vI 17 211)),(dE P "//" 329 (vI 47 271)),(dE P "//=" 331 (vI 48 273)),(dE P "/=" 333 (vI 39 255)),(dE P ":" 335 (vI 11 199)),(dE P ":=" 337 (vI 53 283)),(dE P ";" 339 (vI 13 203)),(dE P "<" 341 (vI 20 217)),(dE P "<<" 343 (vI 33 243)),(dE P "<<=" 345 (vI 44 265)),(dE P "<=" 347 (vI 29 235)),(dE P "=" 349 (vI 22 221)),(dE P "==" 351 (vI 27 231)),(dE P ">" 353 (vI 21 219))] 17) #[])
noncomputable def o8 (P:Params):Obj:=(Obj.mk (Value.type "dict") Option.none (Data.dict #[(dE P ">=" 355 (vI 30 237)),(dE P ">>" 356 (vI 34 245)),(dE P ">>=" 357 (vI 45 267)),(dE P "@" 358 (vI 49 275)),(dE P "@=" 359 (vI 50 277)),(dE P "[" 360 (vI 9 195)),(dE P "]" 361 (vI 10 197)),(dE P "^" 362 (vI 32 241)),(dE P "^=" 363 (vI 43 263)),(dE P "{" 364 (vI 25 227)),(dE P "|" 365 (vI 18 213)),(dE P "|=" 366 (vI 42 261)),(dE P "}" 367 (vI 26 229)),(dE P "~" 368 (vI 31 239))] 14) #[])
noncomputable def o9 (P:Params):Obj:=(Obj.mk (Value.type "dict") Option.none (Data.dict #[(dE P "__name__" 165 (vS "law_to0060_01" 554)),(dE P "__doc__" 166 Value.none),(dE P "__package__" 167 Value.none),(dE P "__loader__" 168 (Value.builtin "__main__.__loader__#opaque")),(dE P "__spec__" 169 Value.none),(dE P "__annotations__" 170 (vR 6)),(dE P "__builtins__" 171 (vR 4)),(dE P "__file__" 173 (vS "/claim/cut.py" 172)),(dE P "__cached__" 174 Value.none),(dE P "ENDMARKER" 190 (vI 0 189)),(dE P "LPAR" 192 (vI 7 191)),(dE P "RPAR" 194 (vI 8 193)),(dE P "LSQB" 196 (vI 9 195)),(dE P "RSQB" 198 (vI 10 197)),(dE P "COLON" 200 (vI 11 199)),(dE P "COMMA" 202 (vI 12 201)),(dE P "SEMI" 204 (vI 13 203)),(dE P "PLUS" 206 (vI 14 205)),(dE P "MINUS" 208 (vI 15 207)),(dE P "STAR" 210 (vI 16 209)),(dE P "SLASH" 212 (vI 17 211)),(dE P "VBAR" 214 (vI 18 213)),(dE P "AMPER" 216 (vI 19 215)),(dE P "LESS" 218 (vI 20 217)),(dE P "GREATER" 220 (vI 21 219)),(dE P "EQUAL" 222 (vI 22 221)),(dE P "DOT" 224 (vI 23 223)),(dE P "PERCENT" 226 (vI 24 225)),(dE P "LBRACE" 228 (vI 25 227)),(dE P "RBRACE" 230 (vI 26 229)),(dE P "EQEQUAL" 232 (vI 27 231)),(dE P "NOTEQUAL" 234 (vI 28 233)),(dE P "LESSEQUAL" 236 (vI 29 235)),(dE P "GREATEREQUAL" 238 (vI 30 237)),(dE P "TILDE" 240 (vI 31 239)),(dE P "CIRCUMFLEX" 242 (vI 32 241)),(dE P "LEFTSHIFT" 244 (vI 33 243)),(dE P "RIGHTSHIFT" 246 (vI 34 245)),(dE P "DOUBLESTAR" 248 (vI 35 247)),(dE P "PLUSEQUAL" 250 (vI 36 249)),(dE P "MINEQUAL" 252 (vI 37 251)),(dE P "STAREQUAL" 254 (vI 38 253)),(dE P "SLASHEQUAL" 256 (vI 39 255)),(dE P "PERCENTEQUAL" 258 (vI 40 257)),(dE P "AMPEREQUAL" 260 (vI 41 259)),(dE P "VBAREQUAL" 262 (vI 42 261)),(dE P "CIRCUMFLEXEQUAL" 264 (vI 43 263)),(dE P "LEFTSHIFTEQUAL" 266 (vI 44 265)),(dE P "RIGHTSHIFTEQUAL" 268 (vI 45 267)),(dE P "DOUBLESTAREQUAL" 270 (vI 46 269)),(dE P "DOUBLESLASH" 272 (vI 47 271)),(dE P "DOUBLESLASHEQUAL" 274 (vI 48 273)),(dE P "AT" 276 (vI 49 275)),(dE P "ATEQUAL" 278 (vI 50 277)),(dE P "RARROW" 280 (vI 51 279)),(dE P "ELLIPSIS" 282 (vI 52 281)),(dE P "COLONEQUAL" 284 (vI 53 283)),(dE P "EXCLAMATION" 286 (vI 54 285)),(dE P "EXACT_TOKEN_TYPES" 383 (vR 15)),(dE P "ISEOF" 390 (vR 24)),(dE P "_DIV_LIMIT" 394 (vI 4000 393)),(dE P "_div2n1n" 411 (vR 31)),(dE P "_div3n2n" 425 (vR 38)),(dE P "_int2digits" 436 (vR 45)),(dE P "_digits2int" 447 (vR 52)),(dE P "_divmod_pos" 462 (vR 59)),(dE P "int_divmod" 472 (vR 66)),(dE P "rgb_to_hls" 493 (vR 73)),(dE P "_netrclex" 553 (vR 111)),(dE P "_law_machine" 566 (vR 122)),(dE P "_law_numbers" 576 (vR 129)),(dE P "_law_works" 582 (vR 134)),(dE P "_law_text" 588 (vR 139)),(dE P "_law_plan" 594 (vR 144)),(dE P "_law_all_sets" 600 (vR 149)),(dE P "_law_holds" 606 (vR 154)),(dE P "law" 612 (vR 159))] 77) #[])
noncomputable def o10 (P:Params):Obj:=(Obj.mk Value.none Option.none (Data.fields #[(vI 52 0),(vI 0 0),(vR 23),(vI 56 0),(vI 0 0),(vR 30),(vI 72 0),(vI 0 0),(vR 37),(vI 82 0),(vI 0 0),(vR 44),(vI 98 0),(vI 0 0),(vR 51),(vI 107 0),(vI 0 0),(vR 58),(vI 118 0),(vI 0 0),(vR 65),(vI 130 0),(vI 0 0),(vR 72),(vI 154 0),(vI 0 0),(vR 79),(vI 198 0),(vI 0 0),(vR 121),(vI 208 0),(vI 0 0),(vR 128),(vI 213 0),(vI 0 0),(vR 133),(vI 216 0),(vI 0 0),(vR 138),(vI 226 0),(vI 0 0),(vR 143),(vI 247 0),(vI 0 0),(vR 148),(vI 264 0),(vI 0 0),(vR 153),(vI 272 0),(vI 0 0),(vR 158)]) #[])
noncomputable def o13 (P:Params):Obj:=(Obj.mk (Value.type "tuple") Option.none (Data.seq #[(vS "x" 387)] 0) #[])
noncomputable def o15 (P:Params):Obj:=(Obj.mk Value.none Option.none (Data.func (FuncData.mk (Str.ofString "ISEOF") (Str.ofString "ISEOF") (fArgs 51) (FuncBody.stmts (fBody 51)) (fScope 51) 0 [] Value.none Value.none Value.none Value.none Option.none Value.none Value.none 0)) #[])
noncomputable def o16 (P:Params):Obj:=(Obj.mk (Value.type "code") Option.none (Data.fields #[(vS "ISEOF" 384),(vS "ISEOF" 385),(vS "/claim/cut.py" 386),(vI 52 0),(vI 1 0),(vI 0 0),(vI 0 0),(vI 3 0),(vR 18),(Value.bool Bool.true),(vI 181 0),(vR 19),Value.none,(vR 20),(vR 21),(vR 22),(vI 388 0),(vI 52 0),(vS "/claim/cut.py" 389)]) #[])
noncomputable def o17 (P:Params):Obj:=(Obj.mk (Value.type "function") Option.none (Data.func (FuncData.mk (Str.ofString "ISEOF") (Str.ofString "ISEOF") (fArgs 51) (FuncBody.stmts (fBody 51)) (fScope 51) 3 [] Value.none Value.none Value.none (vS "cpy313.token" 187) Option.none (vR 23) Value.none 0)) #[])
noncomputable def o20 (P:Params):Obj:=(Obj.mk (Value.type "tuple") Option.none (Data.seq #[(vS "a" 398),(vS "b" 399),(vS "n" 400),(vS "pad" 401),(vS "half_n" 402),(vS "mask" 403),(vS "b1" 404),(vS "b2" 405),(vS "q1" 406),(vS "r" 407),(vS "q2" 408)] 0) #[])
noncomputable def o22 (P:Params):Obj:=(Obj.mk Value.none Option.none (Data.func (FuncData.mk (Str.ofString "_div2n1n") (Str.ofString "_div2n1n") (fArgs 54) (FuncBody.stmts (fBody 54)) (fScope 54) 0 [] Value.none Value.none Value.none Value.none Option.none Value.none Value.none 0)) #[])
noncomputable def o23 (P:Params):Obj:=(Obj.mk (Value.type "code") Option.none (Data.fields #[(vS "_div2n1n" 395),(vS "_div2n1n" 396),(vS "/claim/cut.py" 397),(vI 56 0),(vI 3 0),(vI 0 0),(vI 0 0),(vI 3 0),(vR 25),(Value.bool Bool.true),(vI 181 0),(vR 26),Value.none,(vR 27),(vR 28),(vR 29),(vI 409 0),(vI 56 0),(vS "/claim/cut.py" 410)]) #[])
noncomputable def o24 (P:Params):Obj:=(Obj.mk (Value.type "function") Option.none (Data.func (FuncData.mk (Str.ofString "_div2n1n") (Str.ofString "_div2n1n") (fArgs 54) (FuncBody.stmts (fBody 54)) (fScope 54) 3 [] Value.none Value.none Value.none (vS "cpy313._pylong" 391) Option.none (vR 30) Value.none 0)) #[])
noncomputable def o27 (P:Params):Obj:=(Obj.mk (Value.type "tuple") Option.none (Data.seq #[(vS "a12" 415),(vS "a3" 416),(vS "b" 417),(vS "b1" 418),(vS "b2" 419),(vS "n" 420),(vS "q" 421),(vS "r" 422)] 0) #[])
noncomputable def o29 (P:Params):Obj:=(Obj.mk Value.none Option.none (Data.func (FuncData.mk (Str.ofString "_div3n2n") (Str.ofString "_div3n2n") (fArgs 55) (FuncBody.stmts (fBody 55)) (fScope 55) 0 [] Value.none Value.none Value.none Value.none Option.none Value.none Value.none 0)) #[])
noncomputable def o30 (P:Params):Obj:=(Obj.mk (Value.type "code") Option.none (Data.fields #[(vS "_div3n2n" 412),(vS "_div3n2n" 413),(vS "/claim/cut.py" 414),(vI 72 0),(vI 6 0),(vI 0 0),(vI 0 0),(vI 3 0),(vR 32),(Value.bool Bool.true),(vI 181 0),(vR 33),Value.none,(vR 34),(vR 35),(vR 36),(vI 423 0),(vI 72 0),(vS "/claim/cut.py" 424)]) #[])
noncomputable def o31 (P:Params):Obj:=(Obj.mk (Value.type "function") Option.none (Data.func (FuncData.mk (Str.ofString "_div3n2n") (Str.ofString "_div3n2n") (fArgs 55) (FuncBody.stmts (fBody 55)) (fScope 55) 3 [] Value.none Value.none Value.none (vS "cpy313._pylong" 391) Option.none (vR 37) Value.none 0)) #[])
noncomputable def o34 (P:Params):Obj:=(Obj.mk (Value.type "tuple") Option.none (Data.seq #[(vS "a" 429),(vS "n" 430)] 0) #[])
noncomputable def o35 (P:Params):Obj:=(Obj.mk (Value.type "tuple") Option.none (Data.seq #[(vS "n" 431),(vS "a_digits" 432),(vS "inner" 433)] 0) #[])
noncomputable def o36 (P:Params):Obj:=(Obj.mk Value.none Option.none (Data.func (FuncData.mk (Str.ofString "_int2digits") (Str.ofString "_int2digits") (fArgs 56) (FuncBody.stmts (fBody 56)) (fScope 56) 0 [] Value.none Value.none Value.none Value.none Option.none Value.none Value.none 0)) #[])
noncomputable def o37 (P:Params):Obj:=(Obj.mk (Value.type "code") Option.none (Data.fields #[(vS "_int2digits" 426),(vS "_int2digits" 427),(vS "/claim/cut.py" 428),(vI 82 0),(vI 2 0),(vI 0 0),(vI 0 0),(vI 3 0),(vR 39),(Value.bool Bool.true),(vI 181 0),(vR 40),Value.none,(vR 41),(vR 42),(vR 43),(vI 434 0),(vI 82 0),(vS "/claim/cut.py" 435)]) #[])
noncomputable def o38 (P:Params):Obj:=(Obj.mk (Value.type "function") Option.none (Data.func (FuncData.mk (Str.ofString "_int2digits") (Str.ofString "_int2digits") (fArgs 56) (FuncBody.stmts (fBody 56)) (fScope 56) 3 [] Value.none Value.none Value.none (vS "cpy313._pylong" 391) Option.none (vR 44) Value.none 0)) #[])
noncomputable def o41 (P:Params):Obj:=(Obj.mk (Value.type "tuple") Option.none (Data.seq #[(vS "digits" 440),(vS "n" 441)] 0) #[])
noncomputable def o42 (P:Params):Obj:=(Obj.mk (Value.type "tuple") Option.none (Data.seq #[(vS "digits" 442),(vS "n" 443),(vS "inner" 444)] 0) #[])
noncomputable def o43 (P:Params):Obj:=(Obj.mk Value.none Option.none (Data.func (FuncData.mk (Str.ofString "_digits2int") (Str.ofString "_digits2int") (fArgs 57) (FuncBody.stmts (fBody 57)) (fScope 57) 0 [] Value.none Value.none Value.none Value.none Option.none Value.none Value.none 0)) #[])
noncomputable def o44 (P:Params):Obj:=(Obj.mk (Value.type "code") Option.none (Data.fields #[(vS "_digits2int" 437),(vS "_digits2int" 438),(vS "/claim/cut.py" 439),(vI 98 0),(vI 2 0),(vI 0 0),(vI 0 0),(vI 3 0),(vR 46),(Value.bool Bool.true),(vI 181 0),(vR 47),Value.none,(vR 48),(vR 49),(vR 50),(vI 445 0),(vI 98 0),(vS "/claim/cut.py" 446)]) #[])
noncomputable def o45 (P:Params):Obj:=(Obj.mk (Value.type "function") Option.none (Data.func (FuncData.mk (Str.ofString "_digits2int") (Str.ofString "_digits2int") (fArgs 57) (FuncBody.stmts (fBody 57)) (fScope 57) 3 [] Value.none Value.none Value.none (vS "cpy313._pylong" 391) Option.none (vR 51) Value.none 0)) #[])
noncomputable def o48 (P:Params):Obj:=(Obj.mk (Value.type "tuple") Option.none (Data.seq #[(vS "a" 451),(vS "b" 452),(vS "n" 453),(vS "a_digits" 454),(vS "r" 455),(vS "q_digits" 456),(vS "a_digit" 457),(vS "q_digit" 458),(vS "q" 459)] 0) #[])
noncomputable def o50 (P:Params):Obj:=(Obj.mk Value.none Option.none (Data.func (FuncData.mk (Str.ofString "_divmod_pos") (Str.ofString "_divmod_pos") (fArgs 58) (FuncBody.stmts (fBody 58)) (fScope 58) 0 [] Value.none Value.none Value.none Value.none Option.none Value.none Value.none 0)) #[])
noncomputable def o51 (P:Params):Obj:=(Obj.mk (Value.type "code") Option.none (Data.fields #[(vS "_divmod_pos" 448),(vS "_divmod_pos" 449),(vS "/claim/cut.py" 450),(vI 107 0),(vI 2 0),(vI 0 0),(vI 0 0),(vI 3 0),(vR 53),(Value.bool Bool.true),(vI 181 0),(vR 54),Value.none,(vR 55),(vR 56),(vR 57),(vI 460 0),(vI 107 0),(vS "/claim/cut.py" 461)]) #[])
noncomputable def o52 (P:Params):Obj:=(Obj.mk (Value.type "function") Option.none (Data.func (FuncData.mk (Str.ofString "_divmod_pos") (Str.ofString "_divmod_pos") (fArgs 58) (FuncBody.stmts (fBody 58)) (fScope 58) 3 [] Value.none Value.none Value.none (vS "cpy313._pylong" 391) Option.none (vR 58) Value.none 0)) #[])
noncomputable def o55 (P:Params):Obj:=(Obj.mk (Value.type "tuple") Option.none (Data.seq #[(vS "a" 466),(vS "b" 467),(vS "q" 468),(vS "r" 469)] 0) #[])
noncomputable def o57 (P:Params):Obj:=(Obj.mk Value.none Option.none (Data.func (FuncData.mk (Str.ofString "int_divmod") (Str.ofString "int_divmod") (fArgs 59) (FuncBody.stmts (fBody 59)) (fScope 59) 0 [] Value.none Value.none Value.none Value.none Option.none Value.none Value.none 0)) #[])
noncomputable def o58 (P:Params):Obj:=(Obj.mk (Value.type "code") Option.none (Data.fields #[(vS "int_divmod" 463),(vS "int_divmod" 464),(vS "/claim/cut.py" 465),(vI 118 0),(vI 2 0),(vI 0 0),(vI 0 0),(vI 3 0),(vR 60),(Value.bool Bool.true),(vI 181 0),(vR 61),Value.none,(vR 62),(vR 63),(vR 64),(vI 470 0),(vI 118 0),(vS "/claim/cut.py" 471)]) #[])
noncomputable def o59 (P:Params):Obj:=(Obj.mk (Value.type "function") Option.none (Data.func (FuncData.mk (Str.ofString "int_divmod") (Str.ofString "int_divmod") (fArgs 59) (FuncBody.stmts (fBody 59)) (fScope 59) 3 [] Value.none Value.none Value.none (vS "cpy313._pylong" 391) Option.none (vR 65) Value.none 0)) #[])
noncomputable def o62 (P:Params):Obj:=(Obj.mk (Value.type "tuple") Option.none (Data.seq #[(vS "r" 478),(vS "g" 479),(vS "b" 480),(vS "maxc" 481),(vS "minc" 482),(vS "sumc" 483),(vS "rangec" 484),(vS "l" 485),(vS "s" 486),(vS "rc" 487),(vS "gc" 488),(vS "bc" 489),(vS "h" 490)] 0) #[])
noncomputable def o64 (P:Params):Obj:=(Obj.mk Value.none Option.none (Data.func (FuncData.mk (Str.ofString "rgb_to_hls") (Str.ofString "rgb_to_hls") (fArgs 61) (FuncBody.stmts (fBody 61)) (fScope 61) 0 [] Value.none Value.none Value.none Value.none Option.none Value.none Value.none 0)) #[])
noncomputable def o65 (P:Params):Obj:=(Obj.mk (Value.type "code") Option.none (Data.fields #[(vS "rgb_to_hls" 475),(vS "rgb_to_hls" 476),(vS "/claim/cut.py" 477),(vI 130 0),(vI 3 0),(vI 0 0),(vI 0 0),(vI 3 0),(vR 67),(Value.bool Bool.true),(vI 181 0),(vR 68),Value.none,(vR 69),(vR 70),(vR 71),(vI 491 0),(vI 130 0),(vS "/claim/cut.py" 492)]) #[])
noncomputable def o66 (P:Params):Obj:=(Obj.mk (Value.type "function") Option.none (Data.func (FuncData.mk (Str.ofString "rgb_to_hls") (Str.ofString "rgb_to_hls") (fArgs 61) (FuncBody.stmts (fBody 61)) (fScope 61) 3 [] Value.none Value.none Value.none (vS "cpy313.colorsys" 473) Option.none (vR 72) Value.none 0)) #[])
noncomputable def o68 (P:Params):Obj:=(Obj.mk (Value.type "builtin_function_or_method") Option.none (Data.fields #[(Value.builtin "type.__prepare__"),(Value.type "type")]) #[])
noncomputable def o69 (P:Params):Obj:=(Obj.mk (Value.type "dict") Option.none (Data.dict #[(dE P "__module__" 503 (vS "cpy313.netrc" 494)),(dE P "__qualname__" 505 (vS "_netrclex" 504)),(dE P "__firstlineno__" 507 (vI 154 506)),(dE P "__init__" 515 (vR 87)),(dE P "_read_char" 523 (vR 94)),(dE P "get_token" 533 (vR 101)),(dE P "push_token" 541 (vR 108)),(dE P "__static_attributes__" 546 (vR 109))] 8) #[])
noncomputable def o71 (P:Params):Obj:=(Obj.mk Value.none Option.none (Data.fields #[(vI 156 0),(vI 4 0),(vR 86),(vI 162 0),(vI 4 0),(vR 93),(vI 168 0),(vI 4 0),(vR 100),(vI 195 0),(vI 4 0),(vR 107)]) #[])
noncomputable def o72 (P:Params):Obj:=(Obj.mk (Value.type "code") Option.none (Data.fields #[(vS "_netrclex" 498),(vS "_netrclex" 499),(vS "/claim/cut.py" 500),(vI 154 0),(vI 0 0),(vI 0 0),(vI 0 0),(vI 0 0),(vR 77),(Value.bool Bool.false),(vI 181 0),(vR 78),Value.none,Value.none,Value.none,Value.none,(vI 501 0),(vI 154 0),(vS "/claim/cut.py" 502)]) #[])
noncomputable def o73 (P:Params):Obj:=(Obj.mk (Value.type "frame") Option.none Data.plain #[(Option.some (vR 79)),(Option.some (vR 3)),(Option.some (vR 76)),Option.none,(Option.some (vS "cpy313.netrc" 494)),Option.none,(Option.some (vR 0))])
noncomputable def o76 (P:Params):Obj:=(Obj.mk (Value.type "tuple") Option.none (Data.seq #[(vS "self" 511),(vS "fp" 512)] 0) #[])
noncomputable def o78 (P:Params):Obj:=(Obj.mk Value.none Option.none (Data.func (FuncData.mk (Str.ofString "__init__") (Str.ofString "_netrclex.__init__") (mPart 0).2.2 (FuncBody.stmts (mPart 0).1) (mPart 0).2.1 0 [] Value.none Value.none Value.none Value.none Option.none Value.none Value.none 0)) #[])
noncomputable def o79 (P:Params):Obj:=(Obj.mk (Value.type "code") Option.none (Data.fields #[(vS "__init__" 508),(vS "_netrclex.__init__" 509),(vS "/claim/cut.py" 510),(vI 156 0),(vI 2 0),(vI 0 0),(vI 0 0),(vI 3 0),(vR 81),(Value.bool Bool.true),(vI 181 0),(vR 82),Value.none,(vR 83),(vR 84),(vR 85),(vI 513 0),(vI 156 0),(vS "/claim/cut.py" 514)]) #[])
noncomputable def o80 (P:Params):Obj:=(Obj.mk (Value.type "function") Option.none (Data.func (FuncData.mk (Str.ofString "__init__") (Str.ofString "_netrclex.__init__") (mPart 0).2.2 (FuncBody.stmts (mPart 0).1) (mPart 0).2.1 3 [] Value.none Value.none Value.none (vS "cpy313.netrc" 494) Option.none (vR 86) Value.none 0)) #[])
noncomputable def o83 (P:Params):Obj:=(Obj.mk (Value.type "tuple") Option.none (Data.seq #[(vS "self" 519),(vS "ch" 520)] 0) #[])
noncomputable def o85 (P:Params):Obj:=(Obj.mk Value.none Option.none (Data.func (FuncData.mk (Str.ofString "_read_char") (Str.ofString "_netrclex._read_char") (mPart 1).2.2 (FuncBody.stmts (mPart 1).1) (mPart 1).2.1 0 [] Value.none Value.none Value.none Value.none Option.none Value.none Value.none 0)) #[])
noncomputable def o86 (P:Params):Obj:=(Obj.mk (Value.type "code") Option.none (Data.fields #[(vS "_read_char" 516),(vS "_netrclex._read_char" 517),(vS "/claim/cut.py" 518),(vI 162 0),(vI 1 0),(vI 0 0),(vI 0 0),(vI 3 0),(vR 88),(Value.bool Bool.true),(vI 181 0),(vR 89),Value.none,(vR 90),(vR 91),(vR 92),(vI 521 0),(vI 162 0),(vS "/claim/cut.py" 522)]) #[])
noncomputable def o87 (P:Params):Obj:=(Obj.mk (Value.type "function") Option.none (Data.func (FuncData.mk (Str.ofString "_read_char") (Str.ofString "_netrclex._read_char") (mPart 1).2.2 (FuncBody.stmts (mPart 1).1) (mPart 1).2.1 3 [] Value.none Value.none Value.none (vS "cpy313.netrc" 494) Option.none (vR 93) Value.none 0)) #[])
noncomputable def o90 (P:Params):Obj:=(Obj.mk (Value.type "tuple") Option.none (Data.seq #[(vS "self" 527),(vS "token" 528),(vS "fiter" 529),(vS "ch" 530)] 0) #[])
noncomputable def o92 (P:Params):Obj:=(Obj.mk Value.none Option.none (Data.func (FuncData.mk (Str.ofString "get_token") (Str.ofString "_netrclex.get_token") (mPart 2).2.2 (FuncBody.stmts (mPart 2).1) (mPart 2).2.1 0 [] Value.none Value.none Value.none Value.none Option.none Value.none Value.none 0)) #[])
noncomputable def o93 (P:Params):Obj:=(Obj.mk (Value.type "code") Option.none (Data.fields #[(vS "get_token" 524),(vS "_netrclex.get_token" 525),(vS "/claim/cut.py" 526),(vI 168 0),(vI 1 0),(vI 0 0),(vI 0 0),(vI 3 0),(vR 95),(Value.bool Bool.true),(vI 181 0),(vR 96),Value.none,(vR 97),(vR 98),(vR 99),(vI 531 0),(vI 168 0),(vS "/claim/cut.py" 532)]) #[])
noncomputable def o94 (P:Params):Obj:=(Obj.mk (Value.type "function") Option.none (Data.func (FuncData.mk (Str.ofString "get_token") (Str.ofString "_netrclex.get_token") (mPart 2).2.2 (FuncBody.stmts (mPart 2).1) (mPart 2).2.1 3 [] Value.none Value.none Value.none (vS "cpy313.netrc" 494) Option.none (vR 100) Value.none 0)) #[])
noncomputable def o97 (P:Params):Obj:=(Obj.mk (Value.type "tuple") Option.none (Data.seq #[(vS "self" 537),(vS "token" 538)] 0) #[])
noncomputable def o99 (P:Params):Obj:=(Obj.mk Value.none Option.none (Data.func (FuncData.mk (Str.ofString "push_token") (Str.ofString "_netrclex.push_token") (mPart 3).2.2 (FuncBody.stmts (mPart 3).1) (mPart 3).2.1 0 [] Value.none Value.none Value.none Value.none Option.none Value.none Value.none 0)) #[])
noncomputable def o100 (P:Params):Obj:=(Obj.mk (Value.type "code") Option.none (Data.fields #[(vS "push_token" 534),(vS "_netrclex.push_token" 535),(vS "/claim/cut.py" 536),(vI 195 0),(vI 2 0),(vI 0 0),(vI 0 0),(vI 3 0),(vR 102),(Value.bool Bool.true),(vI 181 0),(vR 103),Value.none,(vR 104),(vR 105),(vR 106),(vI 539 0),(vI 195 0),(vS "/claim/cut.py" 540)]) #[])
noncomputable def o101 (P:Params):Obj:=(Obj.mk (Value.type "function") Option.none (Data.func (FuncData.mk (Str.ofString "push_token") (Str.ofString "_netrclex.push_token") (mPart 3).2.2 (FuncBody.stmts (mPart 3).1) (mPart 3).2.1 3 [] Value.none Value.none Value.none (vS "cpy313.netrc" 494) Option.none (vR 107) Value.none 0)) #[])
noncomputable def o102 (P:Params):Obj:=(Obj.mk (Value.type "tuple") Option.none (Data.seq #[(vS "instream" 542),(vS "lineno" 543),(vS "pushback" 544),(vS "whitespace" 545)] 0) #[])
noncomputable def o103 (P:Params):Obj:=(Obj.mk (Value.type "dict") Option.none (Data.dict #[(dE P "__module__" 503 (vS "cpy313.netrc" 494)),(dE P "__firstlineno__" 507 (vI 154 506)),(dE P "__init__" 515 (vR 87)),(dE P "_read_char" 523 (vR 94)),(dE P "get_token" 533 (vR 101)),(dE P "push_token" 541 (vR 108)),(dE P "__static_attributes__" 546 (vR 109)),(dE P "__dict__" 548 (vR 112)),(dE P "__weakref__" 550 (vR 113)),(dE P "__doc__" 551 Value.none)] 4) #[])
noncomputable def o104 (P:Params):Obj:=(Obj.mk (Value.type "type") Option.none (Data.cls (ClassData.mk (Str.ofString "_netrclex") [(Value.type "object")] [(vR 111),(Value.type "object")] 110 (Str.ofString "_netrclex") Bool.true [] [] Bool.false Option.none Bool.false)) #[Option.none,Option.none,(Option.some (vS "_netrclex" 496)),(Option.some (vS "_netrclex" 504)),(Option.some (Value.builtin "object.__new__")),(Option.some (Value.bool Bool.true))])
noncomputable def o105 (P:Params):Obj:=(Obj.mk (Value.type "getset_descriptor") Option.none (Data.fields #[(vS "__dict__" 547),(vR 111),(Value.builtin "function.__dict__"),(Value.builtin "function.__dict__#set")]) #[])
noncomputable def o106 (P:Params):Obj:=(Obj.mk (Value.type "getset_descriptor") Option.none (Data.fields #[(vS "__weakref__" 549),(vR 111),(Value.builtin "ExceptionGroup.__weakref__"),Value.none]) #[])
noncomputable def o107 (P:Params):Obj:=(Obj.mk (Value.type "super") Option.none (Data.fields #[(vR 111),(vR 111),(vR 111)]) #[])
noncomputable def o108 (P:Params):Obj:=(Obj.mk (Value.type "builtin_function_or_method") Option.none (Data.fields #[(Value.builtin "object.__init_subclass__"),(vR 111)]) #[])
noncomputable def o111 (P:Params):Obj:=(Obj.mk (Value.type "tuple") Option.none (Data.seq #[(vS "text" 559),(vS "_law_read_on" 560),(vS "stream" 561)] 0) #[])
noncomputable def o112 (P:Params):Obj:=(Obj.mk (Value.type "tuple") Option.none (Data.seq #[(vS "text" 562),(vS "at" 563)] 0) #[])
noncomputable def o113 (P:Params):Obj:=(Obj.mk Value.none Option.none (Data.func (FuncData.mk (Str.ofString "_law_machine") (Str.ofString "_law_machine") (fArgs 65) (FuncBody.stmts (fBody 65)) (fScope 65) 0 [] Value.none Value.none Value.none Value.none Option.none Value.none Value.none 0)) #[])
noncomputable def o114 (P:Params):Obj:=(Obj.mk (Value.type "code") Option.none (Data.fields #[(vS "_law_machine" 556),(vS "_law_machine" 557),(vS "/claim/cut.py" 558),(vI 198 0),(vI 1 0),(vI 0 0),(vI 0 0),(vI 3 0),(vR 116),(Value.bool Bool.true),(vI 181 0),(vR 117),Value.none,(vR 118),(vR 119),(vR 120),(vI 564 0),(vI 198 0),(vS "/claim/cut.py" 565)]) #[])
noncomputable def o115 (P:Params):Obj:=(Obj.mk (Value.type "function") Option.none (Data.func (FuncData.mk (Str.ofString "_law_machine") (Str.ofString "_law_machine") (fArgs 65) (FuncBody.stmts (fBody 65)) (fScope 65) 3 [] Value.none Value.none Value.none (vS "law_to0060_01" 554) Option.none (vR 121) Value.none 0)) #[])
noncomputable def o118 (P:Params):Obj:=(Obj.mk (Value.type "tuple") Option.none (Data.seq #[(vS "script" 570),(vS "numbers" 571),(vS "place" 572),(vS "x" 573)] 0) #[])
noncomputable def o120 (P:Params):Obj:=(Obj.mk Value.none Option.none (Data.func (FuncData.mk (Str.ofString "_law_numbers") (Str.ofString "_law_numbers") (fArgs 66) (FuncBody.stmts (fBody 66)) (fScope 66) 0 [] Value.none Value.none Value.none Value.none Option.none Value.none Value.none 0)) #[])
noncomputable def o121 (P:Params):Obj:=(Obj.mk (Value.type "code") Option.none (Data.fields #[(vS "_law_numbers" 567),(vS "_law_numbers" 568),(vS "/claim/cut.py" 569),(vI 208 0),(vI 1 0),(vI 0 0),(vI 0 0),(vI 3 0),(vR 123),(Value.bool Bool.true),(vI 181 0),(vR 124),Value.none,(vR 125),(vR 126),(vR 127),(vI 574 0),(vI 208 0),(vS "/claim/cut.py" 575)]) #[])
noncomputable def o122 (P:Params):Obj:=(Obj.mk (Value.type "function") Option.none (Data.func (FuncData.mk (Str.ofString "_law_numbers") (Str.ofString "_law_numbers") (fArgs 66) (FuncBody.stmts (fBody 66)) (fScope 66) 3 [] Value.none Value.none Value.none (vS "law_to0060_01" 554) Option.none (vR 128) Value.none 0)) #[])
noncomputable def o125 (P:Params):Obj:=(Obj.mk Value.none Option.none (Data.func (FuncData.mk (Str.ofString "_law_works") (Str.ofString "_law_works") (fArgs 67) (FuncBody.stmts (fBody 67)) (fScope 67) 0 [] Value.none Value.none Value.none Value.none Option.none Value.none Value.none 0)) #[])
noncomputable def o126 (P:Params):Obj:=(Obj.mk (Value.type "code") Option.none (Data.fields #[(vS "_law_works" 577),(vS "_law_works" 578),(vS "/claim/cut.py" 579),(vI 213 0),(vI 1 0),(vI 0 0),(vI 0 0),(vI 3 0),(vR 130),(Value.bool Bool.true),(vI 181 0),(vR 131),Value.none,Value.none,Value.none,(vR 132),(vI 580 0),(vI 213 0),(vS "/claim/cut.py" 581)]) #[])
noncomputable def o127 (P:Params):Obj:=(Obj.mk (Value.type "function") Option.none (Data.func (FuncData.mk (Str.ofString "_law_works") (Str.ofString "_law_works") (fArgs 67) (FuncBody.stmts (fBody 67)) (fScope 67) 3 [] Value.none Value.none Value.none (vS "law_to0060_01" 554) Option.none (vR 133) Value.none 0)) #[])
noncomputable def o130 (P:Params):Obj:=(Obj.mk Value.none Option.none (Data.func (FuncData.mk (Str.ofString "_law_text") (Str.ofString "_law_text") (fArgs 68) (FuncBody.stmts (fBody 68)) (fScope 68) 0 [] Value.none Value.none Value.none Value.none Option.none Value.none Value.none 0)) #[])
noncomputable def o131 (P:Params):Obj:=(Obj.mk (Value.type "code") Option.none (Data.fields #[(vS "_law_text" 583),(vS "_law_text" 584),(vS "/claim/cut.py" 585),(vI 216 0),(vI 1 0),(vI 0 0),(vI 0 0),(vI 3 0),(vR 135),(Value.bool Bool.true),(vI 181 0),(vR 136),Value.none,Value.none,Value.none,(vR 137),(vI 586 0),(vI 216 0),(vS "/claim/cut.py" 587)]) #[])
noncomputable def o132 (P:Params):Obj:=(Obj.mk (Value.type "function") Option.none (Data.func (FuncData.mk (Str.ofString "_law_text") (Str.ofString "_law_text") (fArgs 68) (FuncBody.stmts (fBody 68)) (fScope 68) 3 [] Value.none Value.none Value.none (vS "law_to0060_01" 554) Option.none (vR 138) Value.none 0)) #[])
noncomputable def o135 (P:Params):Obj:=(Obj.mk Value.none Option.none (Data.func (FuncData.mk (Str.ofString "_law_plan") (Str.ofString "_law_plan") (fArgs 69) (FuncBody.stmts (fBody 69)) (fScope 69) 0 [] Value.none Value.none Value.none Value.none Option.none Value.none Value.none 0)) #[])
noncomputable def o136 (P:Params):Obj:=(Obj.mk (Value.type "code") Option.none (Data.fields #[(vS "_law_plan" 589),(vS "_law_plan" 590),(vS "/claim/cut.py" 591),(vI 226 0),(vI 4 0),(vI 0 0),(vI 0 0),(vI 3 0),(vR 140),(Value.bool Bool.true),(vI 181 0),(vR 141),Value.none,Value.none,Value.none,(vR 142),(vI 592 0),(vI 226 0),(vS "/claim/cut.py" 593)]) #[])
noncomputable def o137 (P:Params):Obj:=(Obj.mk (Value.type "function") Option.none (Data.func (FuncData.mk (Str.ofString "_law_plan") (Str.ofString "_law_plan") (fArgs 69) (FuncBody.stmts (fBody 69)) (fScope 69) 3 [] Value.none Value.none Value.none (vS "law_to0060_01" 554) Option.none (vR 143) Value.none 0)) #[])
noncomputable def o140 (P:Params):Obj:=(Obj.mk Value.none Option.none (Data.func (FuncData.mk (Str.ofString "_law_all_sets") (Str.ofString "_law_all_sets") (fArgs 70) (FuncBody.stmts (fBody 70)) (fScope 70) 0 [] Value.none Value.none Value.none Value.none Option.none Value.none Value.none 0)) #[])
noncomputable def o141 (P:Params):Obj:=(Obj.mk (Value.type "code") Option.none (Data.fields #[(vS "_law_all_sets" 595),(vS "_law_all_sets" 596),(vS "/claim/cut.py" 597),(vI 247 0),(vI 3 0),(vI 0 0),(vI 0 0),(vI 3 0),(vR 145),(Value.bool Bool.true),(vI 181 0),(vR 146),Value.none,Value.none,Value.none,(vR 147),(vI 598 0),(vI 247 0),(vS "/claim/cut.py" 599)]) #[])
noncomputable def o142 (P:Params):Obj:=(Obj.mk (Value.type "function") Option.none (Data.func (FuncData.mk (Str.ofString "_law_all_sets") (Str.ofString "_law_all_sets") (fArgs 70) (FuncBody.stmts (fBody 70)) (fScope 70) 3 [] Value.none Value.none Value.none (vS "law_to0060_01" 554) Option.none (vR 148) Value.none 0)) #[])
noncomputable def o145 (P:Params):Obj:=(Obj.mk Value.none Option.none (Data.func (FuncData.mk (Str.ofString "_law_holds") (Str.ofString "_law_holds") (fArgs 71) (FuncBody.stmts (fBody 71)) (fScope 71) 0 [] Value.none Value.none Value.none Value.none Option.none Value.none Value.none 0)) #[])
noncomputable def o146 (P:Params):Obj:=(Obj.mk (Value.type "code") Option.none (Data.fields #[(vS "_law_holds" 601),(vS "_law_holds" 602),(vS "/claim/cut.py" 603),(vI 264 0),(vI 3 0),(vI 0 0),(vI 0 0),(vI 3 0),(vR 150),(Value.bool Bool.true),(vI 181 0),(vR 151),Value.none,Value.none,Value.none,(vR 152),(vI 604 0),(vI 264 0),(vS "/claim/cut.py" 605)]) #[])
noncomputable def o147 (P:Params):Obj:=(Obj.mk (Value.type "function") Option.none (Data.func (FuncData.mk (Str.ofString "_law_holds") (Str.ofString "_law_holds") (fArgs 71) (FuncBody.stmts (fBody 71)) (fScope 71) 3 [] Value.none Value.none Value.none (vS "law_to0060_01" 554) Option.none (vR 153) Value.none 0)) #[])
noncomputable def o150 (P:Params):Obj:=(Obj.mk Value.none Option.none (Data.func (FuncData.mk (Str.ofString "law") (Str.ofString "law") (fArgs 72) (FuncBody.stmts (fBody 72)) (fScope 72) 0 [] Value.none Value.none Value.none Value.none Option.none Value.none Value.none 0)) #[])
noncomputable def o151 (P:Params):Obj:=(Obj.mk (Value.type "code") Option.none (Data.fields #[(vS "law" 607),(vS "law" 608),(vS "/claim/cut.py" 609),(vI 272 0),(vI 1 0),(vI 0 0),(vI 0 0),(vI 3 0),(vR 155),(Value.bool Bool.true),(vI 181 0),(vR 156),Value.none,Value.none,Value.none,(vR 157),(vI 610 0),(vI 272 0),(vS "/claim/cut.py" 611)]) #[])
noncomputable def o152 (P:Params):Obj:=(Obj.mk (Value.type "function") Option.none (Data.func (FuncData.mk (Str.ofString "law") (Str.ofString "law") (fArgs 72) (FuncBody.stmts (fBody 72)) (fScope 72) 3 [] Value.none Value.none Value.none (vS "law_to0060_01" 554) Option.none (vR 158) Value.none 0)) #[])
noncomputable def trSa (P:Params):BT:=(.node (boot_o_0 P) (.node (boot_o_1 P) (.node (boot_o_3 P) (.node (boot_o_7 P) .nil .nil) (.node (o0 P) .nil .nil)) (.node (boot_o_5 P) (.node (boot_o_9 P) .nil .nil) (.node (o2 P) .nil .nil))) (.node (boot_o_2 P) (.node (boot_o_4 P) (.node (boot_o_8 P) .nil .nil) (.node (o1 P) .nil .nil)) (.node (boot_o_6 P) (.node (boot_o_10 P) .nil .nil) (.node (o3 P) .nil .nil))))
noncomputable def trS1 (P:Params):BT:=(.node (boot_o_0 P) (.node (boot_o_1 P) (.node (o4 P) (.node (boot_o_7 P) .nil .nil) (.node (o0 P) .nil .nil)) (.node (boot_o_5 P) (.node (boot_o_9 P) .nil .nil) (.node (o2 P) .nil .nil))) (.node (boot_o_2 P) (.node (boot_o_4 P) (.node (boot_o_8 P) .nil .nil) (.node (o1 P) .nil .nil)) (.node (boot_o_6 P) (.node (boot_o_10 P) .nil .nil) (.node (o3 P) .nil .nil))))
noncomputable def trS2 (P:Params):BT:=(.node (boot_o_0 P) (.node (boot_o_1 P) (.node (o5 P) (.node (boot_o_7 P) (.node (o6 P) .nil .nil) .nil) (.node (o0 P) .nil .nil)) (.node (boot_o_5 P) (.node (boot_o_9 P) (.node (o8 P) .nil .nil) .nil) (.node (o2 P) .nil .nil))) (.node (boot_o_2 P) (.node (boot_o_4 P) (.node (boot_o_8 P) (.node (o7 P) .nil .nil) .nil) (.node (o1 P) .nil .nil)) (.node (boot_o_6 P) (.node (boot_o_10 P) .nil .nil) (.node (o3 P) .nil .nil))))
noncomputable def trS3 (P:Params):BT:=(.node (boot_o_0 P) (.node (boot_o_1 P) (.node (o9 P) (.node (boot_o_7 P) (.node (o6 P) (.node (o24 P) (.node (o0 P) (.node (o120 P) .nil .nil) .nil) (.node (o0 P) (.node (o152 P) .nil .nil) .nil)) (.node (o1 P) (.node (o72 P) (.node (o136 P) .nil .nil) .nil) (.node (o104 P) .nil .nil))) (.node (o16 P) (.node (o0 P) (.node (o64 P) (.node (o0 P) .nil .nil) .nil) (.node (o1 P) .nil .nil)) (.node (o48 P) (.node (o80 P) (.node (o1 P) .nil .nil) .nil) (.node (o112 P) .nil .nil)))) (.node (o0 P) (.node (o1 P) (.node (o0 P) (.node (o0 P) (.node (o1 P) .nil .nil) .nil) (.node (o92 P) .nil .nil)) (.node (o44 P) (.node (o76 P) (.node (o140 P) .nil .nil) .nil) (.node (o108 P) .nil .nil))) (.node (o20 P) (.node (o36 P) (.node (o68 P) (.node (o132 P) .nil .nil) .nil) (.node (o100 P) .nil .nil)) (.node (o52 P) (.node (o0 P) (.node (o0 P) .nil .nil) .nil) (.node (o0 P) .nil .nil))))) (.node (boot_o_5 P) (.node (boot_o_9 P) (.node (o8 P) (.node (o1 P) (.node (o58 P) (.node (o122 P) .nil .nil) .nil) (.node (o90 P) .nil .nil)) (.node (o42 P) (.node (o0 P) (.node (o0 P) .nil .nil) .nil) (.node (o106 P) .nil .nil))) (.node (o0 P) (.node (o34 P) (.node (o66 P) (.node (o130 P) .nil .nil) .nil) (.node (o0 P) .nil .nil)) (.node (o50 P) (.node (o1 P) (.node (o146 P) .nil .nil) .nil) (.node (o114 P) .nil .nil)))) (.node (o2 P) (.node (o0 P) (.node (o30 P) (.node (o62 P) (.node (o126 P) .nil .nil) .nil) (.node (o94 P) .nil .nil)) (.node (o0 P) (.node (o78 P) (.node (o142 P) .nil .nil) .nil) (.node (o1 P) .nil .nil))) (.node (o22 P) (.node (o38 P) (.node (o0 P) (.node (o1 P) .nil .nil) .nil) (.node (o102 P) .nil .nil)) (.node (o1 P) (.node (o86 P) (.node (o150 P) .nil .nil) .nil) (.node (o118 P) .nil .nil)))))) (.node (boot_o_2 P) (.node (boot_o_4 P) (.node (boot_o_8 P) (.node (o7 P) (.node (o0 P) (.node (o57 P) (.node (o121 P) .nil .nil) .nil) (.node (o1 P) .nil .nil)) (.node (o41 P) (.node (o73 P) (.node (o137 P) .nil .nil) .nil) (.node (o105 P) .nil .nil))) (.node (o17 P) (.node (o1 P) (.node (o65 P) (.node (o1 P) .nil .nil) .nil) (.node (o97 P) .nil .nil)) (.node (o0 P) (.node (o0 P) (.node (o145 P) .nil .nil) .nil) (.node (o113 P) .nil .nil)))) (.node (o10 P) (.node (o13 P) (.node (o29 P) (.node (o1 P) (.node (o125 P) .nil .nil) .nil) (.node (o93 P) .nil .nil)) (.node (o45 P) (.node (o0 P) (.node (o141 P) .nil .nil) .nil) (.node (o0 P) .nil .nil))) (.node (o0 P) (.node (o37 P) (.node (o69 P) (.node (o0 P) .nil .nil) .nil) (.node (o101 P) .nil .nil)) (.node (o0 P) (.node (o85 P) (.node (o1 P) .nil .nil) .nil) (.node (o1 P) .nil .nil))))) (.node (boot_o_6 P) (.node (boot_o_10 P) (.node (o0 P) (.node (o27 P) (.node (o59 P) (.node (o0 P) .nil .nil) .nil) (.node (o0 P) .nil .nil)) (.node (o43 P) (.node (o1 P) (.node (o1 P) .nil .nil) .nil) (.node (o107 P) .nil .nil))) (.node (o1 P) (.node (o35 P) (.node (o0 P) (.node (o131 P) .nil .nil) .nil) (.node (o99 P) .nil .nil)) (.node (o51 P) (.node (o83 P) (.node (o147 P) .nil .nil) .nil) (.node (o115 P) .nil .nil)))) (.node (o3 P) (.node (o15 P) (.node (o31 P) (.node (o0 P) (.node (o127 P) .nil .nil) .nil) (.node (o0 P) .nil .nil)) (.node (o1 P) (.node (o79 P) (.node (o0 P) .nil .nil) .nil) (.node (o111 P) .nil .nil))) (.node (o23 P) (.node (o0 P) (.node (o71 P) (.node (o135 P) .nil .nil) .nil) (.node (o103 P) .nil .nil)) (.node (o55 P) (.node (o87 P) (.node (o151 P) .nil .nil) .nil) (.node (o0 P) .nil .nil)))))))
noncomputable def hLife:Life:=Life.mk [] [] [] 0 [] [] false #[] [] 0 false false false 0 [2000,10,10] false 0 true [] [] 0 false
noncomputable abbrev stSa (w:World) (os:OsState):SharedT:=⟨trSa w.params,15,hLife,Array.mk [],boot_drawn,187,os⟩
noncomputable abbrev stS1 (w:World) (os:OsState):SharedT:=⟨trS1 w.params,15,hLife,Array.mk [],boot_drawn,287,os⟩
noncomputable abbrev stS2 (w:World) (os:OsState):SharedT:=⟨trS2 w.params,18,hLife,Array.mk [],boot_drawn,384,os⟩
noncomputable abbrev stS3 (w:World) (os:OsState):SharedT:=⟨trS3 w.params,160,hLife,Array.mk [],boot_drawn,613,os⟩
noncomputable def hB:List Stmt:=behindTheImports PySem.Challenge.pw_to0060_01
noncomputable def hEnv:Env:={ scope:=PySem.Challenge.pw_to0060_01.main.scope,locals:=mainNs,globals:=mainNs,cells:=[],code:=.ref 13,frame:=some 14 }
noncomputable abbrev hC:Code:=.body hB hEnv
noncomputable abbrev hp0:Pos:=⟨0,0,0,0⟩
noncomputable abbrev hS (a b:Nat):List Stmt:=(hB.drop a).take b
theorem pieceA (w:World) (os:OsState):segRunT treeTable PySem.Challenge.pw_to0060_01 w 11 (some (.ref 6)) 1 451 (stSa w os) (piecesOf (hS 0 50) hEnv hC hp0 [topFrame hp0])=some (.next,stS1 w os,hC,⟨50,0,50,11⟩):=by
  show segRunT treeTable PySem.Challenge.pw_to0060_01 w 11 (some (.ref 6)) 1 451 (stSa w os) ⟨(execs (hS 0 50) hEnv).wrap doneF deadEnd id id,hC,hp0,[topFrame hp0]⟩=_
  rw [PySem.W.Fast.te10110043849684766642,PySem.W.Fast.te14364793385576792824,PySem.W.Fast.te12563942051412417395]
  kernel_rfl
theorem pieceBf (w:World) (os:OsState):segRunT treeTable PySem.Challenge.pw_to0060_01 (w.withFollow "special-get-raises" false) 11 (some (.ref 6)) 1 979 (stS1 (w.withFollow "special-get-raises" false) os) (piecesOf (hS 50 1) hEnv hC ⟨50,0,50,11⟩ [topFrame hp0])=some (.next,stS2 (w.withFollow "special-get-raises" false) os,hC,⟨51,0,51,17⟩):=by
  show segRunT treeTable PySem.Challenge.pw_to0060_01 (w.withFollow "special-get-raises" false) 11 (some (.ref 6)) 1 979 (stS1 (w.withFollow "special-get-raises" false) os) ⟨(execs (hS 50 1) hEnv).wrap doneF deadEnd id id,hC,⟨50,0,50,11⟩,[topFrame hp0]⟩=_
  rw [PySem.W.Fast.te10110043849684766642,PySem.W.Fast.te14364793385576792824,PySem.W.Fast.te12563942051412417395]
  kernel_rfl
theorem pieceBt (w:World) (os:OsState):segRunT treeTable PySem.Challenge.pw_to0060_01 (w.withFollow "special-get-raises" true) 11 (some (.ref 6)) 1 979 (stS1 (w.withFollow "special-get-raises" true) os) (piecesOf (hS 50 1) hEnv hC ⟨50,0,50,11⟩ [topFrame hp0])=some (.next,stS2 (w.withFollow "special-get-raises" true) os,hC,⟨51,0,51,17⟩):=by
  show segRunT treeTable PySem.Challenge.pw_to0060_01 (w.withFollow "special-get-raises" true) 11 (some (.ref 6)) 1 979 (stS1 (w.withFollow "special-get-raises" true) os) ⟨(execs (hS 50 1) hEnv).wrap doneF deadEnd id id,hC,⟨50,0,50,11⟩,[topFrame hp0]⟩=_
  rw [PySem.W.Fast.te10110043849684766642,PySem.W.Fast.te14364793385576792824,PySem.W.Fast.te12563942051412417395]
  kernel_rfl
theorem pieceC (w:World) (os:OsState):segRunT treeTable PySem.Challenge.pw_to0060_01 w 11 (some (.ref 6)) 1 883 (stS2 w os) (piecesOf (hS 51 22) hEnv hC ⟨51,0,51,17⟩ [topFrame hp0])=some (.next,stS3 w os,hC,⟨272,0,287,41⟩):=by
  show segRunT treeTable PySem.Challenge.pw_to0060_01 w 11 (some (.ref 6)) 1 883 (stS2 w os) ⟨(execs (hS 51 22) hEnv).wrap doneF deadEnd id id,hC,⟨51,0,51,17⟩,[topFrame hp0]⟩=_
  rw [PySem.W.Fast.te10110043849684766642,PySem.W.Fast.te14364793385576792824,PySem.W.Fast.te12563942051412417395]
  kernel_rfl
noncomputable abbrev hP:Program:=PySem.Challenge.pw_to0060_01
theorem pieceB (w:World) (os:OsState):segRunT treeTable hP w 11 (some (.ref 6)) 1 979 (stS1 w os) (piecesOf (hS 50 1) hEnv hC ⟨50,0,50,11⟩ [topFrame hp0])=some (.next,stS2 w os,hC,⟨51,0,51,17⟩) :=
  byRow2 "special-get-raises" (P:=fun w=>segRunT treeTable hP w 11 (some (.ref 6)) 1 979 (stS1 w os) (piecesOf (hS 50 1) hEnv hC ⟨50,0,50,11⟩ [topFrame hp0])=some (.next,stS2 w os,hC,⟨51,0,51,17⟩)) (fun w=>pieceBf w os) (fun w=>pieceBt w os) w
theorem piecePre (w:World) (os:OsState):topGo treeTable hP w 11 (some (.ref 6)) 12 ⟨boot_heap w.params,Array.mk [],boot_drawn,boot_toks,os⟩ (topStub hP)=some ((stSa w os).abs,⟨denote treeTable hC,hC,hp0,[topFrame hp0]⟩):=by
  rw [PySem.W.Fast.te15667345088766844465,PySem.W.Fast.te14364793385576792824,PySem.W.Fast.te11892475500146522536]
  kernel_rfl
theorem pieceBlk (w:World) (os:OsState):segRun treeTable hP w 11 (some (.ref 6)) 1 1 (stSa w os).abs (blockOf hB hEnv hC hp0 [topFrame hp0])=some (.next,(stSa w os).abs,hC,hp0):=by
  rw [PySem.W.Fast.te14374325043358763698,PySem.W.Fast.te14364793385576792824]
  kernel_rfl
theorem pieceFin (w:World) (os:OsState):topRun treeTable hP w 11 (some (.ref 6)) 2 (stS3 w os).abs ⟨doneF .next,hC,⟨272,0,287,41⟩,[topFrame hp0]⟩=some (stS3 w os).abs:=by
  rw [PySem.W.Fast.te14082659384304107361,PySem.W.Fast.te14364793385576792824]
  kernel_rfl
theorem hB_eq:hB=hS 0 50++(hS 50 1++(hS 51 22++[])):=by kernel_rfl
theorem topAll (w:World) (os:OsState):topRun treeTable hP w 11 (some (.ref 6)) (12+(1+(451+(979+(883+2))))) ⟨boot_heap w.params,Array.mk [],boot_drawn,boot_toks,os⟩ (topStub hP)=some (stS3 w os).abs:=by
  refine go_top (piecePre w os) (piece_block (pieceBlk w os) ?_)
  have h:topRun treeTable hP w 11 (some (.ref 6)) (451+(979+(883+2))) (stSa w os).abs (restOf (hS 0 50++(hS 50 1++(hS 51 22++[]))) hEnv hC hp0 [topFrame hp0])=some (stS3 w os).abs :=
    piece_app (segRun_of (pieceA w os)) (piece_app (segRun_of (pieceB w os)) (piece_app (segRun_of (pieceC w os)) (piece_nil (pieceFin w os))))
  rwa [← hB_eq] at h
theorem hOpen (w:World):(fencedOpening treeTable hP w 4720).map (fun s=>(s.heap,s.gens,s.drawn,s.toks))=some (boot_heap w.params,Array.mk [],boot_drawn,boot_toks) :=
  boot_open (by kernel_rfl) (by rfl) (fun s=>by kernel_rfl) w
theorem hSize (w:World):((boot_heap w.params).isNs mainGlobals && (Array.mk []:Array GenState).size == 0,(boot_heap w.params).objs.size,(boot_heap w.params).nsMap mainGlobals "__annotations__")=(true,11,some (.ref 6)):=by kernel_rfl
noncomputable def hAs:List Addr:=2 :: 3 :: List.range' 11 149
noncomputable def hK (P:Params):Frag:=hAs.map fun i=>(i,((trS3 P).get i).getD default)
theorem hK_as (P:Params):hAs=(hK P).map (·.1):=by unfold hK; rw [List.map_map]; exact (List.map_id _).symm
noncomputable abbrev hH:Hook:=kHook hK hAs hK_as
noncomputable def hQ:Program:=view hP [72]
noncomputable def hLoose:List Str:=(hP.main.scope.names.map (·.1)).filter fun x=>x != ("law":Str)
noncomputable abbrev hR:RowW:=PySem.Challenge.rw_to0060_01.row.toRowW
noncomputable abbrev hXt:Shared→Bool:=fun s=>xlAt hQ [] s && recOk (RowW.records hR) s
theorem hLooks (w:World):(fun os=>((staticsOk (importedModules hP.main.body) (boot_heap w.params) (absHeap (trS3 w.params) 160 hLife) && namesBound hP (absHeap (trS3 w.params) 160 hLife) && gensDone ⟨absHeap (trS3 w.params) 160 hLife,Array.mk [],boot_drawn,613,os⟩ && laidKept (boot_heap w.params) (absHeap (trS3 w.params) 160 hLife)),
        openSeen hQ hLoose (importedModules hP.main.body) hXt true ⟨absHeap (trS3 w.params) 160 hLife,Array.mk [],boot_drawn,613,os⟩,hH.obs ⟨absHeap (trS3 w.params) 160 hLife,Array.mk [],boot_drawn,613,os⟩))=fun _=>(true,openGood hQ hLoose,hH.val w):=by
  funext os
  refine looks_pair ?_ (looks_pair ?_ ?_)
  · kernel_rfl
  · unfold openSeen openGood
    refine looks_pair ?_ (looks_pair ?_ (looks_pair ?_ (looks_pair ?_ (looks_pair ?_ (looks_pair ?_ (looks_pair ?_ (looks_pair ?_ ?_)))))))
    · kernel_rfl
    · kernel_rfl
    · kernel_rfl
    · kernel_rfl
    · kernel_rfl
    · kernel_rfl
    · kernel_rfl
    · kernel_rfl
    · kernel_rfl
  · kernel_rfl
section
variable {F:Fx} {ρ ρ₁ ρ':List Slot} {g g₁ g':F.Γ} {Q:Nat→List Slot→F.Γ→Nat→Prop}
theorem RunsT.cons {st:Stmt} {ss:List Stmt} (h:Run1 F st ρ g ρ₁ g₁) (hs:RunsT F ss ρ₁ g₁ Q) (hQ:∀ t t₁ ρ' g' t',t≤t₁→Q t₁ ρ' g' t'→Q t ρ' g' t'):RunsT F (st :: ss) ρ g Q:=fun W s E fr =>
  wpAny_execs_cons (wpAny_with_toks (n:=s.toks) (Nat.le_refl _) (wpAny_mono (h W s E fr) (fun f s₁ x ht=>by
    have hx9_0:=x.1
    have hw9_1:=x.2
    try clear x
    subst hx9_0
    obtain ⟨W₁,hy9_1⟩:=hw9_1
    have fr₁:=hy9_1.1
    have mv:=hy9_1.2
    clear hy9_1
    exact wpAny_mono (hs W₁ s₁ E fr₁) (fun f s₂ y=>let ⟨e,ρ',g',W₂,q,fr₂,mv₂⟩:=y; ⟨e,ρ',g',W₂,hQ _ _ _ _ _ ht q,fr₂,mv.trans mv₂⟩) fun _ _ y=>y) fun _ _ y _=>y))
theorem RunsT.one {st:Stmt} (h:RunT F st ρ g Q):RunsT F [st] ρ g Q:=fun W s E fr =>
  wpAny_execs_cons (wpAny_mono (h W s E fr) (fun f s₁ x=>by obtain ⟨rfl,x⟩:=x; exact wpAny_execs_nil ⟨rfl,x⟩) fun _ _ y=>y)
theorem RunsT.nil (h:∀ t,Q t ρ g t):RunsT F [] ρ g Q:=fun W s E fr=>wpAny_execs_nil ⟨rfl,ρ,g,W,h _,fr,.refl⟩
theorem Runs.consT {st:Stmt} {ss:List Stmt} (h:RunT F st ρ g Q) (hs:∀ t ρ₁ g₁ t',Q t ρ₁ g₁ t'→Runs F ss ρ₁ g₁ ρ' g'):Runs F (st :: ss) ρ g ρ' g':=fun W s E fr =>
  wpAny_execs_cons (wpAny_mono (h W s E fr) (fun f s₁ x=>by
    have hx16_0:=x.1
    have hw16_1:=x.2
    try clear x
    subst hx16_0
    obtain ⟨ρ₁,g₁,W₁,hy16_1⟩:=hw16_1
    have q:=hy16_1.1
    have fr₁:=hy16_1.2.1
    have mv:=hy16_1.2.2
    clear hy16_1
    exact wpAny_mono (hs _ _ _ _ q W₁ s₁ E fr₁) (fun f s₂ y=>let ⟨e,W₂,fr₂,mv₂⟩:=y; ⟨e,W₂,fr₂,mv.trans mv₂⟩) fun _ _ y=>y) fun _ _ y=>y)
theorem RunT.iff {t:Expr} {a b:List Stmt} {pos:Pos} {x:Bool} (ht:∀ W,Tests (F.cx ρ g W) t x) (ha:x=true→RunsT F a ρ g Q) (hb:x=false→RunsT F b ρ g Q) (hQ:∀ t t₁ ρ' g' t',t≤t₁→Q t₁ ρ' g' t'→Q t ρ' g' t'):RunT F (.If t a b pos) ρ g Q:=fun W s E fr=>by
  refine wpAny_If (wpAny_with_toks (n:=s.toks) (Nat.le_refl _) (wpAny_mono (ht W s E fr) (fun r s₁ q tk=>?_) fun _ _ q _=>q))
  have hx20_0:=q.1
  have k:=q.2
  try clear q
  subst hx20_0
  have fin:∀ {f s₂},(f=Flow.next∧∃ ρ' g' W',Q s₁.toks ρ' g' s₂.toks∧Fr1 F ρ' g' W' s₂∧Mv s₁ s₂ W W')→(f=Flow.next∧∃ ρ' g' W',Q s.toks ρ' g' s₂.toks∧Fr1 F ρ' g' W' s₂∧Mv s s₂ W W'):=fun y =>
    let ⟨e,ρ',g',W₂,q,fr₂,mv₂⟩:=y; ⟨e,ρ',g',W₂,hQ _ _ _ _ _ tk q,fr₂,(Mv.of k).trans mv₂⟩
  cases r with
  | true=>exact wpAny_mono (ha rfl W s₁ E (fr.keeps k)) (fun f s₂ y=>fin y) fun _ _ y=>y
  | false=>exact wpAny_mono (hb rfl W s₁ E (fr.keeps k)) (fun f s₂ y=>fin y) fun _ _ y=>y
theorem RunT.append {x:Str} {i:Nat} {px apos cpos pos:Pos} {e:Expr} {vs:List V} {v:Tok→V} (h:∀ (W:Addr→Prop) (s:Shared) (E:Value→Shared→Prop),Fr1 F ρ g W s→wpAny F.M F.A (eval e F.env) (fun r s₁=>∃ t,s.toks≤t∧t < s₁.toks∧EltOk F.μ s.heap.objs.size s₁.heap (v t) r∧K1 s s₁) E s)
    (hx:F.ks[i]?=some x) (hi:ρ[i]?=some (.own vs)) (hl:shortL vs.length=true)
    (hsw:swapsWith (.Call (.Attribute (.Name x px) (Str.ofString "append") apos) [e] [] cpos) none pos.line F.env=pure false:=by rfl)
    (hbase:attributeBase (.Name x px) (Str.ofString "append") F.env (eval (.Name x px) F.env)=eval (.Name x px) F.env:=by rfl)
    (hfew:((backTo cpos (starEach [e] F.env)).all (fun x=>!x.1) && (backToKw cpos (keywordEach [] F.env)).all (fun x=>x.1.isSome)
      && decide (([e]:List Expr).length+([]:List Keyword).length+(if ([]:List Keyword).isEmpty then 0 else 1) < 30))=true:=by rfl)
    (hline:(apos.endLine == cpos.line)=true:=by rfl) (htr:backTo cpos (starEach [e] F.env)=[(false,eval e F.env)]:=by rfl) (hd:(x == ("__debug__":Str))=false:=by decide) :
    RunT F (.Expr (.Call (.Attribute (.Name x px) (Str.ofString "append") apos) [e] [] cpos) pos) ρ g (fun t₀ ρ' g' t'=>∃ t,t₀≤t∧t < t'∧ρ'=ρ.set i (.own (vs++[v t]))∧g'=g):=fun W s E fr=>by
  refine wpAny_Expr ?_ (interactive_fn F.hk) hsw
  obtain ⟨m,cm,α,fr⟩:=fr
  refine wpAny_Call_append hbase hfew hline htr (fr.name hx hi ?_ hd)
  have hz37:=fr.slot i x _ hx hi
  have hWa:=hz37.2.1
  have hw37_1:=hz37.2.2.2
  clear hz37
  obtain ⟨rs,hy37_1⟩:=hw37_1
  have hx37_0:=hy37_1.1
  have hvs:=hy37_1.2
  clear hy37_1
  obtain ⟨n,hpl⟩:=hx37_0
  refine ⟨_,rs.toArray,rfl,⟨_,n,hpl,rfl,rfl,rfl⟩,wpAny_mono (h W s E ⟨m,cm,α,fr⟩) (fun r s₁ q=>?_) fun _ _ q=>q⟩
  obtain ⟨t,hy39_1⟩:=q
  have t1:=hy39_1.1
  have t2:=hy39_1.2.1
  have hn:=hy39_1.2.2.1
  have k:=hy39_1.2.2.2
  clear hy39_1
  have fr₁:=fr.keeps k.1 k.2.1
  have h1:vs.length < 4096:=Nat.le_of_ble_eq_true hl
  refine wpAny_list_append_plain (l:=α i) (items:=rs.toArray) ⟨n,kGet k.1 _ _ hpl⟩ (fun h' hl' hs'=>?_) (by rw [List.size_toArray,hvs.rel.length,sizeLine_eq]; omega)
  have hvx:VX W F.μ s₁.heap (v t) r:=hn.vx fr.lt
  have hvs₁:VXs W F.μ s₁.heap vs rs:=hvs.grow fun b o hb e=>⟨hb,kGet k.1 _ _ e⟩
  exact ⟨rfl,_,_,W,⟨t,t1,t2,rfl,rfl⟩,⟨m,cm,α,fr₁.wrote hx hi hs' (by simpa using hl') (hvs₁.snoc hvx)⟩,(Mv.of k).trans (fr₁.wroteMv hx hi hs')⟩
end
section
variable {c:Cx}
theorem mulK {m:Int} {x:UInt64} {a b:Expr} {bp:Pos} (ha:Does c a (.int m)) (hb:Does c b (.flt x)) (hm:small m=true) (s:Shared) (E:Value→Shared→Prop) (hs:c.P s) :
    wpAny c.M c.A (eval (.BinOp a .Mult b bp) c.env) (fun r s₁=>(∃ t,s.toks≤t∧t < s₁.toks∧t≠0∧r=.float (Float64.mul (Float64.ofInt m) x) t)∧K1 s s₁) E s:=by
  refine wpAny_BinOp (wpAny_with_toks (n:=s.toks) (Nat.le_refl _) (wpAny_mono (ha s E hs) (fun ra s₁ xa t₁=>?_) fun _ _ q _=>q))
  have hz53:=xa
  clear xa
  have xa:=hz53.1
  have k₁:=hz53.2
  clear hz53
  have h₁:=c.go hs k₁
  refine wpAny_with_toks (n:=s.toks) t₁ (wpAny_mono (hb s₁ E h₁) (fun rb s₂ xb t₂=>?_) fun _ _ q _=>q)
  have hz56:=xb
  clear xb
  have xb:=hz56.1
  have k₂:=hz56.2
  clear hz56
  have h₂:=c.go h₁ k₂
  unfold VRel at xa xb
  obtain ⟨ta,rfl⟩:=xa
  obtain ⟨tb,hy60_1⟩:=xb
  have hx60_0:=hy60_1.2
  clear hy60_1
  subst hx60_0
  have hf:m.natAbs < 2 ^ 1023:=by
    have:m.natAbs < 2 ^ 62:=by unfold small at hm; rwa [Nat.blt_eq] at hm
    exact Nat.lt_of_lt_of_le this (Nat.pow_le_pow_right (by decide) (by decide))
  exact mul_if_fits hf ⟨⟨s₂.toks,t₂,Nat.lt_succ_self _,Nat.ne_of_gt (c.toks _ h₂),rfl⟩,(k₁.trans k₂).trans ⟨kTok _ _,Nat.le_succ_of_le (c.toks _ h₂),Nat.le_refl _⟩⟩
theorem mulPair {m p:Int} {x:UInt64} {a b n:Expr} {bp tp:Pos} {k:Nat} (ha:Does c a (.int m)) (hb:Does c b (.flt x)) (hn:Does c n (.int p)) (hm:small m=true) (s:Shared) (E:Value→Shared→Prop) (hs:c.P s)
    (he1:starEach [.BinOp a .Mult b bp,n] c.env=(false,eval (.BinOp a .Mult b bp) c.env) :: starEach [n] c.env:=by rfl) (he2:starEach [n] c.env=(false,eval n c.env) :: starEach [] c.env:=by rfl) :
    wpAny c.M c.A (eval (.Tuple [.BinOp a .Mult b bp,n] k tp) c.env) (fun r s₁=>∃ t,s.toks≤t∧t < s₁.toks∧EltOk c.μ s.heap.objs.size s₁.heap (.tup [.flk (Float64.mul (Float64.ofInt m) x) t,.int p]) r∧K1 s s₁) E s:=by
  refine wpAny_Tuple (wpAny_items_cons (wpAny_mono (mulK ha hb hm s E hs) (fun r s₁ q=>?_) fun _ _ q=>q) he1)
  have hx70_0:=q.1
  have k₁:=q.2
  try clear q
  obtain ⟨t,t1,t2,t3,rfl⟩:=hx70_0
  have h₁:=c.go hs k₁
  refine wpAny_items_cons (wpAny_with_toks (n:=s₁.toks) (Nat.le_refl _) (wpAny_mono (hn s₁ E h₁) (fun rn s₂ q t₂=>?_) fun _ _ q _=>q)) he2
  have xn:=q.1
  have k₂:=q.2
  try clear q
  have h₂:=c.go h₁ k₂
  refine Calls.spliced_nil ⟨by rw [sizeLine_eq]; show 2≤16777216; decide,t,t1,Nat.lt_of_lt_of_le t2 t₂,fun h' k'=>?_,(k₁.trans k₂).trans (K1.push k₂.2.1)⟩
  unfold VRel
  refine ⟨_,[.float (Float64.mul (Float64.ofInt m) x) t,rn],rfl,⟨_,k' _ _ (.inl ⟨_,_,rfl⟩) (k₁.trans k₂).2.2 (Heap.get?_push_size _ rfl),rfl,_,rfl⟩,.cons ?_ (.cons (xn.flat rfl) .nil)⟩
  unfold VRel; exact ⟨t3,rfl⟩
theorem Gives1.minK {v x₀:V} {r₀:List V} {x:UInt64} {t:Tok} {p:Int} (hv:itemsV v=some (x₀ :: r₀)) (hbest:bestV ltK x₀ r₀=some (.tup [.flk x t,.int p])) (hb:∀ s,c.P s→NoneBooked s.heap):Gives1 c (.builtin "min") [v] (.tup [.flt x,.int p]):=.of fun s E rs hs h₀=>by
  obtain ⟨r,hy80_1⟩:=h₀.inv1
  have hx80_0:=hy80_1.1
  have h:=hy80_1.2
  clear hy80_1
  subst hx80_0
  refine wpAny_mono (min_k h hv hbest (hb s hs) c.hh c.hu) (fun r s' q=>⟨?_,q.2⟩) fun _ _ q=>q
  have q1:=q.1
  simp only [VRel,VRels] at q1 ⊢
  obtain ⟨a,rs,hy84_1⟩:=q1
  have hx84_0:=hy84_1.1
  have ht:=hy84_1.2.1
  have hw84_2:=hy84_1.2.2
  clear hy84_1
  subst hx84_0
  obtain ⟨r1,rt,hy84_2⟩:=hw84_2
  have hx84_0:=hy84_2.1
  have hx84_1:=hy84_2.2.1
  have z:=hy84_2.2.2
  clear hy84_2
  subst hx84_0
  obtain ⟨h0,rfl⟩:=hx84_1
  exact ⟨a,_,rfl,ht,_,rt,rfl,⟨t,h0,rfl⟩,z⟩
end
noncomputable def q64 (n:Nat):UInt64:=Float64.ofFrac false n 64
theorem q_inf:∀ a:Fin 48,Float64.isInf (q64 a.val)=false:=by decide +kernel
theorem q_key:∀ a:Fin 48,keyOf (q64 a.val)=some (a.val * 2 ^ 1068):=by decide +kernel
theorem q_cmp (a b:Fin 48):Float64.cmp (q64 a.val) (q64 b.val)=some (compare a.val b.val):=keyOf_cmp (Nat.two_pow_pos _) (q_key a) (q_key b)
theorem q_val:∀ a:Fin 129,Float64.isFinite (q64 a.val)=true∧Float64.val (q64 a.val)=((a.val * 2 ^ 1068:Nat):Int):=by decide +kernel
theorem q_neg:∀ a:Fin 48,Float64.isFinite (Float64.neg (q64 a.val))=true∧Float64.val (Float64.neg (q64 a.val))=- ((a.val * 2 ^ 1068:Nat):Int):=by decide +kernel
theorem q_V:∀ a:Fin 129,Float64.roundMag a.val 64 < Float64.infMag∧Float64.V (Float64.roundMag a.val 64)=a.val * 2 ^ 1068∧2 * (a.val * 2 ^ 1068) < (2 ^ 54 - 1) * 2 ^ 2045:=by decide +kernel
theorem fin_dec {x:UInt64} (h:Float64.isFinite x=true):∃ a m e,Float64.decode x=.fin a m e:=by
  unfold Float64.isFinite at h
  cases hd:Float64.decode x with
  | fin a m e=>exact ⟨a,m,e,rfl⟩
  | _=>rw [hd] at h; cases h
theorem q_sum {x y:UInt64} (hx:Float64.isFinite x=true) (hy:Float64.isFinite y=true) (c:Fin 129) (hc:0 < c.val) (hs:Float64.val x+Float64.val y=((c.val * 2 ^ 1068:Nat):Int)):Float64.add x y=q64 c.val:=by
  obtain ⟨a,m,e,hx'⟩:=fin_dec hx
  obtain ⟨b,k,f,hy'⟩:=fin_dec hy
  have hV:=q_V c
  have hpos:0 < c.val * 2 ^ 1068:=Nat.mul_pos hc (Nat.two_pow_pos _)
  have hr:=(Float64.add_right hx' hy').2
  rw [hs] at hr
  unfold q64 Float64.ofFrac
  generalize c.val * 2 ^ 1068=W at hr hV hpos
  generalize Float64.roundMag c.val 64=t₀ at hV ⊢
  obtain ⟨t,ht,hle,hinf,hn⟩:=hr (Int.ofNat_ne_zero.mpr (Nat.pos_iff_ne_zero.mp hpos))
  rw [Int.natAbs_natCast,Nat.one_mul] at hinf
  rw [Int.natAbs_natCast] at hn
  have hlt:t < Float64.infMag:=(Nat.lt_or_eq_of_le hle).elim id fun h=>absurd hV.2.2 (Nat.not_lt.mpr (hinf.mp h))
  have hd:=(hn hlt t₀).1
  rw [Nat.one_mul,Nat.one_mul,hV.2.1] at hd
  have hz:=Nat.add_eq_zero_iff.mp (Nat.le_zero.mp (Nat.le_trans hd (Nat.le_of_eq (show W - W+(W - W)=0 by rw [Nat.sub_self]))))
  have hW:W=Float64.V t:=Nat.le_antisymm (Nat.sub_eq_zero_iff_le.mp hz.1) (Nat.sub_eq_zero_iff_le.mp hz.2)
  have he:Float64.V t=Float64.V t₀:=hW.symm.trans hV.2.1.symm
  have:t=t₀:=(Nat.lt_trichotomy t t₀).elim (fun h=>absurd (Float64.V_lt h) (he ▸ Nat.lt_irrefl _)) fun h=>h.elim id fun h=>absurd (Float64.V_lt h) (he ▸ Nat.lt_irrefl _)
  rw [ht,this,decide_eq_false (Int.not_lt.mpr (Int.natCast_nonneg W))]
theorem q_add (a b:Fin 48) (h:b.val≤a.val):Float64.add (q64 a.val) (q64 b.val)=q64 (a.val+b.val):=by
  by_cases h0:a.val=0
  · have hb:b.val=0:=Nat.le_zero.mp (h0 ▸ h)
    rw [h0,hb]
    decide +kernel
  · have ha:=q_val ⟨a.val,Nat.lt_trans a.2 (by decide)⟩
    have hb:=q_val ⟨b.val,Nat.lt_trans b.2 (by decide)⟩
    refine q_sum ha.1 hb.1 ⟨a.val+b.val,Nat.lt_trans (Nat.add_lt_add a.2 b.2) (by decide)⟩ (Nat.add_pos_left (Nat.pos_of_ne_zero h0) _) ?_
    rw [ha.2,hb.2,← Int.natCast_add,← Nat.add_mul]
theorem q_less (a:Fin 129) (b:Fin 48) (h:b.val < a.val):Float64.sub (q64 a.val) (q64 b.val)=q64 (a.val - b.val):=by
  have ha:=q_val a
  have hb:=q_neg b
  unfold Float64.sub
  refine q_sum ha.1 hb.1 ⟨a.val - b.val,Nat.lt_of_le_of_lt (Nat.sub_le _ _) a.2⟩ (Nat.sub_pos_of_lt h) ?_
  have:=Int.natCast_sub (Nat.mul_le_mul_right (2 ^ 1068) (Nat.le_of_lt h))
  rw [← Nat.sub_mul] at this
  rw [ha.2,hb.2]
  exact this.symm
theorem q_sub (a b:Fin 48) (h:b.val < a.val):Float64.sub (q64 a.val) (q64 b.val)=q64 (a.val - b.val):=q_less ⟨a.val,Nat.lt_trans a.2 (by decide)⟩ b h
theorem q_nz:∀ a:Fin 129,0 < a.val→Float64.isZero (q64 a.val)=false:=by decide +kernel
theorem q_two (a b:Fin 48) (h:b.val < a.val):Float64.isZero (Float64.sub (Float64.sub 0x4000000000000000 (q64 a.val)) (q64 b.val))=false:=by
  have hs:b.val < 128 - a.val:=Nat.lt_sub_of_add_lt (Nat.lt_trans (Nat.add_lt_add b.2 a.2) (by decide))
  rw [show (0x4000000000000000:UInt64)=q64 128 from by decide +kernel,q_less ⟨128,by decide⟩ a (Nat.lt_trans a.2 (by decide)),q_less ⟨128 - a.val,Nat.lt_of_le_of_lt (Nat.sub_le _ _) (by decide)⟩ b hs]
  exact q_nz ⟨128 - a.val - b.val,Nat.lt_of_le_of_lt (Nat.le_trans (Nat.sub_le _ _) (Nat.sub_le _ _)) (by decide)⟩ (Nat.sub_pos_of_lt hs)
theorem q_light:∀ a:Fin 95,Float64.mul (Float64.ofInt 128) (Float64.div (q64 a.val) 0x4000000000000000)=fl a.val:=by decide +kernel
section
variable {D:Wd}
noncomputable def Mws.Z (w:Mws D) (I p:Addr) (hI:∀ b o,D.h0.get? b=some o→b≠I∧b≠p):Gw D where
  Γ:=MSt
  G:=fun st h=>w.Y.G st h∧(∃ u,h.get? I=some (citObj (.ref p) (.str "" u) false))∧h.get? p=some (methodObj (.ref w.rd.a) (.ref w.m.x))
  l:=I :: p :: w.Y.l
  Gok:=fun st h h' x k=>⟨w.Y.Gok _ _ _ x.1 fun b o hb e=>k b o (hb.imp (fun q=>.tail _ (.tail _ q)) id) e,let ⟨u,e⟩:=x.2.1; ⟨u,k _ _ (.inl (.head _)) e⟩,k _ _ (.inl (.tail _ (.head _))) x.2.2⟩
  live:=fun st h x b hb=>by
    rcases List.mem_cons.mp hb with rfl | hb
    · obtain ⟨u,e⟩:=x.2.1; exact ⟨_,e⟩
    · rcases List.mem_cons.mp hb with rfl | hb
      · exact ⟨_,x.2.2⟩
      · exact w.Y.live _ _ x.1 b hb
  hid:=fun b o e hb=>by
    rcases List.mem_cons.mp hb with rfl | hb
    · exact (hI _ _ e).1 rfl
    · rcases List.mem_cons.mp hb with rfl | hb
      · exact (hI _ _ e).2 rfl
      · exact w.Y.hid b o e hb
noncomputable def ksGT:List Str:=["self","token","fiter","ch"]
theorem okGT:ScOk (mPart 2).2.1 ksGT:=⟨by decide,by decide,rfl⟩
theorem AOk.in1 {k:Nat} {A:Around} (h:AOk (k+1) A):AOk k A.in1:=⟨h.hh,by have:=h.hu; rw [Around.in1_units]; omega,by have:=h.hd; show A.depth+k < _; omega⟩
variable (w:Mws D) {I p:Addr} {hI:∀ b o,D.h0.get? b=some o→b≠I∧b≠p}
noncomputable abbrev Mws.F (w:Mws D) {k:Nat} (σ:Site D k) (I p:Addr) (hI:∀ b o,D.h0.get? b=some o→b≠I∧b≠p):Fx:=σ.fxg (mPart 2).2.1 ksGT okGT (w.Z I p hI)
theorem codeRC {k:Nat} {A:Around} (hA:AOk (k+2) A) {st:MSt} (s:Shared) (hs:Ext D.h0 s.heap) (ht:1≤s.toks) (hg:w.Y.G st s.heap) :
    codeAny (model D.prog D.w) A (.call (.ref w.rd.a) ⟨[.ref w.m.x],[]⟩) (fun x s'=>∃ r,x=.ok (.ret r)∧VX (fun b=>b∈w.Y.l) w.m.x s'.heap (.str (chAt w.text st.pos)) r∧w.Y.G (st.readc w.text) s'.heap∧Mg w.Y.l s s') s :=
  D.codeM w.Y hA (K:=fun _=>True) (ks:=ksRC) (vs:=[.mach]) 1 (hs _ _ w.rd.ho) w.rd.hd (w.rd.hcd.keeps hs) rfl rfl rfl rfl okRC (by show 1≤2; decide) (len1 fun _=>rfl)
    (fun σ _ e1 _ _=>(walkRC w σ (by omega) e1).ends) rfl rfl [.ref w.m.x] hs ht hg trivial fun h' _=>.cons (by unfold VRel; rfl) .nil
theorem nextC {k:Nat} {σ:Site D k} (hk:3≤k) (hIY:I ∉ w.Y.l) (hpY:p ∉ w.Y.l) {ρ:List Slot} {st:MSt} {W:Addr→Prop} {s:Shared} {E:Value→Shared→Prop} {c:Nat} {r:List Nat} (hc:w.text.cps.toList.drop st.pos=c :: r) (fr:Fr1 (w.F σ I p hI) ρ st W s) :
    wpAny (w.F σ I p hI).M (w.F σ I p hI).A (pyNext (.ref I)) (fun v s'=>(∃ t,v=some (.str ⟨#[c]⟩ t))∧Fr1 (w.F σ I p hI) ρ (st.readc w.text) W s'∧Mv s s' W W) E s:=by
  have hx:Ext D.h0 s.heap:=(Site.extG s fr).1
  have hg:(w.Z I p hI).G st s.heap:=fr.gh
  have hY:=hg.1
  have hx40_0:=hg.2.1
  have hpo:=hg.2.2
  try clear hg
  obtain ⟨u,hIo⟩:=hx40_0
  have hch:chAt w.text st.pos=⟨#[c]⟩:=chAt_in (by have:=congrArg (·[0]?) hc; simpa using this)
  obtain ⟨k',rfl⟩:∃ k',k=k'+3:=⟨k - 3,by omega⟩
  refine cit_next (prog:=D.prog) (w:=D.w) (A:=σ.A) (o:=w.rd.o) σ.hA.hh hIo hpo (hx _ _ w.rd.ho) w.rd.hd (codeAny_mono (codeRC w (k:=k') (A:=σ.A.in1) σ.hA.in1 s hx fr.tk hY) fun x s' q=>?_)
  obtain ⟨r',hy44_1⟩:=q
  have hx44_0:=hy44_1.1
  have hv:=hy44_1.2.1
  have hG:=hy44_1.2.2.1
  have mg:=hy44_1.2.2.2
  clear hy44_1
  subst hx44_0
  rw [hch] at hv
  have hv':=hv.rel
  unfold VRel at hv'
  obtain ⟨t,rfl⟩:=hv'
  have hI':=mg.kept I _ hIY hIo
  have hp':=mg.kept p _ hpY hpo
  refine ⟨_,t,rfl,hI',hp',mg.kept _ _ (fun q=>w.Y.hid _ _ w.rd.ho q) (hx _ _ w.rd.ho),fun _=>⟨⟨t,rfl⟩,?_,?_⟩,fun q=>absurd q (by intro q; cases q)⟩
  · refine fr.gmove mg.same mg.tk (fun b o hb e=>mg.kept b o (fun q=>hb (.tail _ (.tail _ q))) e) ⟨hG,⟨u,hI'⟩,hp'⟩ fun b hb=>(w.Z I p hI).live (st.readc w.text) _ ⟨hG,⟨u,hI'⟩,hp'⟩ b hb
  · exact ⟨fun b o hb e=>mg.kept b o (fun q=>hb (fr.wg _ (.tail _ (.tail _ q)))) e,mg.size,fun b q=>.inl q⟩
theorem readc_drop {text:Str} {st:MSt} {c:Nat} {r:List Nat} (hc:text.cps.toList.drop st.pos=c :: r):text.cps.toList.drop (st.readc text).pos=r:=by
  have hch:chAt text st.pos=⟨#[c]⟩:=chAt_in (by have:=congrArg (·[0]?) hc; simpa using this)
  have e:(st.readc text).pos=st.pos+1:=by
    have e0:(st.read text).pos=st.pos+1:=by show st.pos+(chAt text st.pos).length=_; rw [hch]; rfl
    unfold MSt.readc
    split
    · exact e0
    · exact e0
  rw [e,← List.drop_drop,hc]
  rfl
noncomputable def MSt.readN (text:Str):Nat→MSt→MSt
  | 0,st=>st
  | n+1,st=>MSt.readN text n (st.readc text)
noncomputable def scan (stop:Nat→Bool):List Nat→Str→Option (Str × Nat)
  | [],_=>none
  | c :: r,tok=>if stop c then some (tok,1) else if c=92 then (match r with
      | []=>none
      | d :: r'=>(scan stop r' (tok++⟨#[d]⟩)).map fun x=>(x.1,x.2+2))
    else (scan stop r (tok++⟨#[c]⟩)).map fun x=>(x.1,x.2+1)
structure SInv {D:Wd} (w:Mws D) {I p:Addr} (hI:∀ b o,D.h0.get? b=some o→b≠I∧b≠p) {k:Nat} (σ:Site D k) (stop:Nat→Bool) (T:Str) (st₀:MSt) (n₀:Nat) (s₀:Shared) (W₀:Addr→Prop) (st:MSt) (W:Addr→Prop) (tok:Str) (ch:Slot) (m:Nat) (s':Shared):Prop where
  fr:Fr1 (w.F σ I p hI) [.val .mach,.val (.str tok),.adr (fun r _=>r=.ref I),ch] st W s'
  mv:Mv s₀ s' W₀ W
  hs:scan stop (w.text.cps.toList.drop st.pos) tok=some (T,m)
  hN:st.readN w.text m=st₀.readN w.text n₀
  hl:tok.length+(w.text.cps.toList.drop st.pos).length≤1000
theorem scanLoop {k:Nat} {σ:Site D k} (hk:3≤k) (hIY:I ∉ w.Y.l) (hpY:p ∉ w.Y.l) {stop:Nat→Bool} {body:List Stmt} {px ipx pos:Pos} {tok₀ T:Str} {st₀:MSt} {n₀:Nat} {ch₀:Slot}
    (hsc:scan stop (w.text.cps.toList.drop st₀.pos) tok₀=some (T,n₀))
    (hstop:∀ (tok:Str) (c:Nat) st,stop c=true→Rets (w.F σ I p hI) body [.val .mach,.val (.str tok),.adr (fun r _=>r=.ref I),.val (.str ⟨#[c]⟩)] st (.str tok) ((w.Z I p hI).G st))
    (hesc:∀ (tok:Str) (d:Nat) (r:List Nat) st,stop 92=false→w.text.cps.toList.drop st.pos=d :: r→tok.length≤1000→Runs (w.F σ I p hI) body [.val .mach,.val (.str tok),.adr (fun r _=>r=.ref I),.val (.str ⟨#[92]⟩)] st [.val .mach,.val (.str (tok++⟨#[d]⟩)),.adr (fun r _=>r=.ref I),.val (.str ⟨#[d]⟩)] (st.readc w.text))
    (helse:∀ (tok:Str) (c:Nat) st,stop c=false→c≠92→tok.length≤1000→Runs (w.F σ I p hI) body [.val .mach,.val (.str tok),.adr (fun r _=>r=.ref I),.val (.str ⟨#[c]⟩)] st [.val .mach,.val (.str (tok++⟨#[c]⟩)),.adr (fun r _=>r=.ref I),.val (.str ⟨#[c]⟩)] st)
    (hlen:tok₀.length+(w.text.cps.toList.drop st₀.pos).length≤1000) {rest:List Stmt} :
    Rets (w.F σ I p hI) (.For (.Name "ch" px) (.Name "fiter" ipx) body [] pos :: rest) [.val .mach,.val (.str tok₀),.adr (fun r _=>r=.ref I),ch₀] st₀ (.str T) ((w.Z I p hI).G (st₀.readN w.text n₀)):=fun W₀ s₀ E fr₀=>by
  have hfi:VarAt (w.F σ I p hI).env s₀.heap "fiter" (.ref I):=by
    obtain ⟨m,cm,α,y⟩:=fr₀
    obtain ⟨r,hy89_1⟩:=y.slot 2 "fiter" _ rfl rfl
    have h1:=hy89_1.1
    have h2:=hy89_1.2
    clear hy89_1
    have e:r=.ref I:=h2 s₀.heap fun _ _ _ _ e=>e
    subst e
    exact h1.var (fun _ _=>rfl) y.ic
  obtain ⟨u,hIo⟩:=(show (w.Z I p hI).G st₀ s₀.heap from fr₀.gh).2.1
  refine wpAny_hide fun QQ E' hQQ=>?_
  refine forS (fun n s'=>∃ st W tok ch m,n=(w.text.cps.toList.drop st.pos).length∧SInv w hI σ stop T st₀ n₀ s₀ W₀ st W tok ch m s') (w.text.cps.toList.drop st₀.pos).length (wpAny_Name (hfi.load rfl (pyIter_cit hIo ⟨rfl,st₀,W₀,tok₀,ch₀,n₀,rfl,⟨fr₀,.refl,hsc,rfl,hlen⟩⟩)) (by decide)) ?_
  intro n s K Z EE hJ hK hR _
  replace hR:=fun v s' q=>hR v s' (hQQ _ s' q)
  obtain ⟨st,W,tok,ch,m,rfl,V⟩:=hJ
  have fr:=V.fr
  have mv:=V.mv
  have hs:=V.hs
  have hN:=V.hN
  have hl:=V.hl
  clear V
  cases hd:w.text.cps.toList.drop st.pos with
  | nil=>rw [hd] at hs; cases hs
  | cons c r =>
    rw [hd] at hs hl
    have hd':=readc_drop hd
    refine wpAny_mono (nextC w hk hIY hpY hd fr) (fun v s₁ q=>?_) fun _ _ q=>q
    have hx109_0:=q.1
    have fr₁:=q.2.1
    have mv₁:=q.2.2
    try clear q
    obtain ⟨t,rfl⟩:=hx109_0
    show wpAny _ _ (letOwnedTupleGo (.Name "ch" px) _ _) _ _ _
    refine wpAny_of_eq (a:=()) rfl ?_
    refine wpAny_assign_Name (wpAny_mono (fr₁.store (i:=3) (x:="ch") (v:=.str ⟨#[c]⟩) rfl (.of_flat (.t _ _) rfl)) (fun _ s₂ q=>?_) fun _ _ q=>q)
    have fr₂:=q.1
    have mv₂:=q.2
    try clear q
    have mv02:=(mv.trans mv₁).trans mv₂
    have hsame:∃ h tk,s₂={ s₀ with heap:=h,toks:=tk }:=fr₀.same fr₂
    have hlt:tok.length≤1000:=by simp only [List.length_cons] at hl; omega
    have hal:∀ x:Nat,(tok++(⟨#[x]⟩:Str)).length=tok.length+1:=fun x=>by show (tok.cps++#[x]).size=_; simp [Str.length]
    unfold scan at hs
    by_cases hst:stop c=true
    · rw [if_pos hst] at hs
      cases hs
      refine wpAny_mono (hstop _ c (st.readc w.text) hst W s₂ _ fr₂) (fun f s₃ q=>?_) fun _ _ q=>q
      obtain ⟨r',hy122_1⟩:=q
      have hx122_0:=hy122_1.1
      have z:=hy122_1.2
      clear hy122_1
      subst hx122_0
      exact hR _ _ ⟨r',rfl,hN ▸ z.after hsame mv02⟩
    · rw [if_neg hst] at hs
      rw [Bool.not_eq_true] at hst
      by_cases h92:c=92
      · subst h92
        rw [if_pos rfl] at hs
        cases r with
        | nil=>cases hs
        | cons d r' =>
          obtain ⟨x,hy132_1⟩:=Option.map_eq_some_iff.mp hs
          have hx:=hy132_1.1
          have e:=hy132_1.2
          clear hy132_1
          obtain ⟨x1,x2⟩:=x
          cases e
          have hd2:=readc_drop hd'
          refine wpAny_mono (hesc tok d r' (st.readc w.text) hst hd' hlt W s₂ _ fr₂) (fun f s₃ q=>?_) fun _ _ q=>q
          have hx137_0:=q.1
          have hw137_1:=q.2
          try clear q
          subst hx137_0
          obtain ⟨W₃,hy137_1⟩:=hw137_1
          have fr₃:=hy137_1.1
          have mv₃:=hy137_1.2
          clear hy137_1
          refine hK ((w.text.cps.toList.drop ((st.readc w.text).readc w.text).pos)).length _ ?_ ⟨(st.readc w.text).readc w.text,W₃,tok++⟨#[d]⟩,_,x2,rfl,⟨fr₃,mv02.trans mv₃,by rw [hd2]; exact hx,hN,?_⟩⟩
          · rw [hd2,hd]; simp only [List.length_cons]; omega
          · rw [hd2,hal]; simp only [List.length_cons] at hl; omega
      · rw [if_neg h92] at hs
        obtain ⟨x,hy142_1⟩:=Option.map_eq_some_iff.mp hs
        have hx:=hy142_1.1
        have e:=hy142_1.2
        clear hy142_1
        obtain ⟨x1,x2⟩:=x
        cases e
        refine wpAny_mono (helse tok c (st.readc w.text) hst h92 hlt W s₂ _ fr₂) (fun f s₃ q=>?_) fun _ _ q=>q
        have hx146_0:=q.1
        have hw146_1:=q.2
        try clear q
        subst hx146_0
        obtain ⟨W₃,hy146_1⟩:=hw146_1
        have fr₃:=hy146_1.1
        have mv₃:=hy146_1.2
        clear hy146_1
        refine hK (w.text.cps.toList.drop (st.readc w.text).pos).length _ ?_ ⟨st.readc w.text,W₃,tok++⟨#[c]⟩,_,x2,rfl,⟨fr₃,mv02.trans mv₃,by rw [hd']; exact hx,hN,?_⟩⟩
        · rw [hd',hd]; simp only [List.length_cons]; omega
        · rw [hd',hal]; simp only [List.length_cons] at hl; omega
end
noncomputable def wsS:Str:="\n\t\r "
noncomputable def wsC (c:Nat):Bool:=Txt.contains wsS ⟨#[c]⟩
section
variable {D:Wd} (w:Mws D) {I p:Addr} {hI:∀ b o,D.h0.get? b=some o→b≠I∧b≠p} {k:Nat} {σ:Site D k}
theorem Tests.inS {c:Cx} {a b:Expr} {pos:Pos} {x y:Str} (ha:Does c a (.str y)) (hb:Does c b (.str x)) (hm:behindInMarks .In b=false:=by with_unfolding_all rfl):Tests c (.Compare a [.In] [b] pos) (Txt.contains x y):=fun s E hs=>by
  refine wpAny_isTrue_Compare1 (run_on hs (ha s _ hs) fun ra s₁ xa h₁ k₁=>run_on h₁ (hb s₁ _ h₁) fun rb s₂ xb h₂ k₂=>?_) hm
  unfold VRel at xa xb
  obtain ⟨t,rfl⟩:=xa
  obtain ⟨u,rfl⟩:=xb
  exact P.in_str (wpAny_truthy_bool ⟨rfl,k₁.trans k₂⟩)
noncomputable abbrev tk4 (tok:Str) (I:Addr) (ch:Slot):List Slot:=[.val .mach,.val (.str tok),.adr fun r _=>r=.ref I,ch]
theorem selfZ (hμ:σ.μ=w.m.x) {ρ:List Slot} {st:MSt} {W:Addr→Prop} (hi:ρ[0]?=some (.val .mach)):∀ s,((w.F σ I p hI).cx ρ st W).P s→VarAt (w.F σ I p hI).env s.heap "self" (.ref w.m.x):=fun s hs=>by
  have:=self_at (F:=w.F σ I p hI) (i:=0) rfl hi s hs
  rw [show (w.F σ I p hI).μ=w.m.x from hμ] at this
  exact this
theorem wsZ (hμ:σ.μ=w.m.x) {ρ:List Slot} {st:MSt} {W:Addr→Prop} {px pos:Pos} (hi:ρ[0]?=some (.val .mach)):Does ((w.F σ I p hI).cx ρ st W) (.Attribute (.Name "self" px) "whitespace" pos) (.str wsS):=.of fun s E hs=>by
  refine Attribute_name (wpAny_Name ((selfZ w hμ hi s hs).load rfl ?_) (by decide))
  have hz23:=Site.extG s hs
  have hx:=hz23.1
  have hg:=hz23.2
  clear hz23
  have hg':(w.Z I p hI).G st s.heap:=hg
  obtain ⟨mA,t,hy25_1⟩:=MachAt.whitespace w hg'.1.2
  have hA:=hy25_1.1
  have hl:=hy25_1.2
  clear hy25_1
  exact obj_get w hx hg'.1.2 ⟨mA,hA,hl⟩ w.cl.whitespace (lkB _ (.inr (.inr (.inl rfl)))) rfl ⟨.t _ _,kTok _ _⟩
theorem readZ (hk:2≤k) (hμ:σ.μ=w.m.x) (hIY:I ∉ w.Y.l) (hpY:p ∉ w.Y.l) {ρ:List Slot} {st:MSt} {W:Addr→Prop} {px ap pos:Pos} (hi:ρ[0]?=some (.val .mach))
    (he:∀ env:Env,eval (.Call (.Attribute (.Name "self" px) "_read_char" ap) [] [] pos) env=(do
      let ov ← eval (.Name "self" px) env
      standAt ap.atName
      let (f,first) ← holding [ov] (getMethod ov "_read_char" (do return (← importBound (.Name "self" px) env).getD true))
      callWith pos f first (backTo pos (starEach [] env)) []):=by intro _; rfl) :
    DoesG ((w.F σ I p hI).cx ρ st W) (w.Z I p hI).l (.Call (.Attribute (.Name "self" px) "_read_char" ap) [] [] pos) (.str (chAt w.text st.pos)) ((w.Z I p hI).G (st.readc w.text)):=fun s E hs=>by
  have hz35:=Site.extG s hs
  have hx:=hz35.1
  have hg:=hz35.2
  clear hz35
  have hg':(w.Z I p hI).G st s.heap:=hg
  have ht:=((w.F σ I p hI).cx ρ st W).toks s hs
  obtain ⟨k',rfl⟩:∃ k',k=k'+2:=⟨k - 2,by omega⟩
  refine MethodCall_ (pl:=(do return (← importBound (.Name "self" px) (w.F σ I p hI).env).getD true)) (wpAny_Name ((selfZ w hμ hi s hs).load rfl ?_) (by decide)) (he _)
  obtain ⟨mA,hy40_1⟩:=MachAt.no w hg'.1.2
  have hA:=hy40_1.1
  have q1:=hy40_1.2.1
  have q2:=hy40_1.2.2.1
  have q3:=hy40_1.2.2.2
  clear hy40_1
  refine obj_meth w w.rd hx hg'.1.2 ⟨mA,hA,q1⟩ (lkB _ (.inr (.inr (.inr (.inr (.inl rfl)))))) ?_
  refine callWith_meth0 w.rd.hd (hx _ _ w.rd.ho) (wpAny_call (codeAny_mono (codeRC w (k:=k') (A:=σ.A) σ.hA s hx ht hg'.1) fun x s' q=>?_))
  obtain ⟨r',hy43_1⟩:=q
  have hx43_0:=hy43_1.1
  have hv:=hy43_1.2.1
  have hG:=hy43_1.2.2.1
  have mg:=hy43_1.2.2.2
  clear hy43_1
  subst hx43_0
  obtain ⟨u,hI'⟩:=hg'.2.1
  have gz:(w.Z I p hI).G (st.readc w.text) s'.heap:=⟨hG,⟨u,mg.kept I _ hIY hI'⟩,mg.kept p _ hpY hg'.2.2⟩
  exact ⟨.of_flat (v:=.str (chAt w.text st.pos)) (h:=s'.heap) hv.rel rfl,gz,mg.sub fun b q=>.tail _ (.tail _ q)⟩
theorem escZ (hk:2≤k) (hμ:σ.μ=w.m.x) (hIY:I ∉ w.Y.l) (hpY:p ∉ w.Y.l) {tok:Str} {d:Nat} {r:List Nat} {st:MSt} {p1 p2 p3 p4 p5 p6 p7 p8 p9:Pos} (hc:w.text.cps.toList.drop st.pos=d :: r) (S:Stmt)
    (hS:S=.If (.Compare (.Name "ch" p1) [.Eq] [.Constant (.str "\\") 0 p2] p3) [.Assign [.Name "ch" p4] (.Call (.Attribute (.Name "self" p5) "_read_char" p6) [] [] p7) p8] [] p9)
    (he:∀ env:Env,eval (.Call (.Attribute (.Name "self" p5) "_read_char" p6) [] [] p7) env=(do
      let ov ← eval (.Name "self" p5) env
      standAt p6.atName
      let (f,first) ← holding [ov] (getMethod ov "_read_char" (do return (← importBound (.Name "self" p5) env).getD true))
      callWith p7 f first (backTo p7 (starEach [] env)) []):=by intro _; rfl)
    (hs:∀ env:Env,swapsWith (.Call (.Attribute (.Name "self" p5) "_read_char" p6) [] [] p7) (some (.Name "ch" p4)) p8.line env=pure false:=by intro _; rfl) :
    Run1 (w.F σ I p hI) S (tk4 tok I (.val (.str ⟨#[92]⟩))) st (tk4 tok I (.val (.str ⟨#[d]⟩))) (st.readc w.text):=by
  subst hS
  refine Run1.iff (x:=((⟨#[92]⟩:Str) == "\\")) (fun W=>Tests.cmp (.nm (Fx.var (i:=3) rfl rfl)) .str rfl) (fun q=>?_) (fun q=>by cases q)
  have hch:chAt w.text st.pos=⟨#[d]⟩:=chAt_in (by have:=congrArg (·[0]?) hc; simpa using this)
  refine Runs.cons (ρ₁:=tk4 tok I (.val (.str ⟨#[d]⟩))) (g₁:=st.readc w.text) ?_ .nil
  rw [← hch]
  exact Run1.asgG (F:=w.F σ I p hI) (i:=3) (l:=(w.Z I p hI).l) (fun b=>Iff.rfl) (fun W=>readZ w hk hμ hIY hpY rfl he) rfl ((w.Z I p hI).live _) rfl (hs _)
theorem plainZ {tok:Str} {c:Nat} {st:MSt} {p1 p2 p3 p9:Pos} {B:List Stmt} (hc:c≠92) (S:Stmt) (hS:S=.If (.Compare (.Name "ch" p1) [.Eq] [.Constant (.str "\\") 0 p2] p3) B [] p9) :
    Run1 (w.F σ I p hI) S (tk4 tok I (.val (.str ⟨#[c]⟩))) st (tk4 tok I (.val (.str ⟨#[c]⟩))) st:=by
  subst hS
  refine Run1.iff (x:=((⟨#[c]⟩:Str) == "\\")) (fun W=>Tests.cmp (.nm (Fx.var (i:=3) rfl rfl)) .str rfl) (fun q=>?_) (fun q=>.nil)
  have e1:=congrArg (fun z:Str=>z.cps) (eq_of_beq q)
  have e2:(#[c]:Array Nat)=#[92]:=e1
  exact absurd (by simpa using e2) hc
theorem addZ {tok:Str} {c:Nat} {st:MSt} {p1 p2 p3:Pos} (ht:tok.length≤1000):Run1 (w.F σ I p hI) (.AugAssign (.Name "token" p1) .Add (.Name "ch" p2) p3) (tk4 tok I (.val (.str ⟨#[c]⟩))) st (tk4 (tok++⟨#[c]⟩) I (.val (.str ⟨#[c]⟩))) st:=by
  apply Run1.aug (F:=w.F σ I p hI) (i:=1) (u:=.str tok) (v:=.str ⟨#[c]⟩)
  · exact fun W=>.nm (Fx.var (i:=3) rfl rfl)
  · rfl
  · rfl
  · exact if_pos (by rw [shortL_of (show tok.length < 4096 by omega),shortL_of (show (⟨#[c]⟩:Str).length < 4096 by show 1 < 4096; decide)]; rfl)
theorem loopZ (hk:3≤k) (hμ:σ.μ=w.m.x) (hIY:I ∉ w.Y.l) (hpY:p ∉ w.Y.l) {stop:Nat→Bool} {test:Expr} {q1 q2 q3 p1 p2 p3 p4 p5 p6 p7 p8 p9 a1 a2 a3 px ipx pos:Pos} {tok₀ T:Str} {st₀:MSt} {n₀:Nat} {ch₀:Slot} {rest:List Stmt}
    (htest:∀ tok c st W,Tests ((w.F σ I p hI).cx (tk4 tok I (.val (.str ⟨#[c]⟩))) st W) test (stop c))
    (hsc:scan stop (w.text.cps.toList.drop st₀.pos) tok₀=some (T,n₀)) (hlen:tok₀.length+(w.text.cps.toList.drop st₀.pos).length≤1000)
    (he:∀ env:Env,eval (.Call (.Attribute (.Name "self" p5) "_read_char" p6) [] [] p7) env=(do
      let ov ← eval (.Name "self" p5) env
      standAt p6.atName
      let (f,first) ← holding [ov] (getMethod ov "_read_char" (do return (← importBound (.Name "self" p5) env).getD true))
      callWith p7 f first (backTo p7 (starEach [] env)) []):=by intro _; rfl)
    (hs:∀ env:Env,swapsWith (.Call (.Attribute (.Name "self" p5) "_read_char" p6) [] [] p7) (some (.Name "ch" p4)) p8.line env=pure false:=by intro _; rfl) :
    Rets (w.F σ I p hI) (.For (.Name "ch" px) (.Name "fiter" ipx) [.If test [.Return (some (.Name "token" q1)) q2] [.If (.Compare (.Name "ch" p1) [.Eq] [.Constant (.str "\\") 0 p2] p3) [.Assign [.Name "ch" p4] (.Call (.Attribute (.Name "self" p5) "_read_char" p6) [] [] p7) p8] [] p9] q3,.AugAssign (.Name "token" a1) .Add (.Name "ch" a2) a3] [] pos :: rest) (tk4 tok₀ I ch₀) st₀ (.str T) ((w.Z I p hI).G (st₀.readN w.text n₀)):=by
  refine scanLoop w hk hIY hpY (stop:=stop) hsc (fun tok c st hst=>?_) (fun tok d r st hst hd hl=>?_) (fun tok c st hst hc hl=>?_) hlen
  · exact Rets.ifE (x:=stop c) (fun W=>htest tok c st W) (fun _=>Rets.retFl (fun W=>.nm (Fx.var (i:=1) rfl rfl)) rfl) (fun q=>by rw [hst] at q; cases q)
  · refine Runs.cons (ρ₁:=tk4 tok I (.val (.str ⟨#[d]⟩))) (g₁:=st.readc w.text) (Run1.iff (x:=stop 92) (fun W=>htest tok 92 st W) (fun q=>by rw [hst] at q; cases q) fun _=>Runs.cons (ρ₁:=tk4 tok I (.val (.str ⟨#[d]⟩))) (g₁:=st.readc w.text) ?_ .nil) (Runs.cons (addZ w hl) .nil)
    exact escZ w (by omega) hμ hIY hpY hd _ rfl he hs
  · refine Runs.cons (ρ₁:=tk4 tok I (.val (.str ⟨#[c]⟩))) (g₁:=st) (Run1.iff (x:=stop c) (fun W=>htest tok c st W) (fun q=>by rw [hst] at q; cases q) fun _=>Runs.cons (ρ₁:=tk4 tok I (.val (.str ⟨#[c]⟩))) (g₁:=st) ?_ .nil) (Runs.cons (addZ w hl) .nil)
    exact plainZ w hc _ rfl
end
noncomputable def tokOf:List Nat→Option (Str × Nat)
  | []=>none
  | c :: r=>if wsC c then none else if c=34 then (scan (· == 34) r "").map fun x=>(x.1,x.2+1)
    else if c=92 then (match r with
      | []=>none
      | d :: r'=>(scan wsC r' (""++⟨#[d]⟩)).map fun x=>(x.1,x.2+2))
    else (scan wsC r (""++⟨#[c]⟩)).map fun x=>(x.1,x.2+1)
section
variable {D:Wd} (w:Mws D) {I p:Addr} {hI:∀ b o,D.h0.get? b=some o→b≠I∧b≠p} {k:Nat} {σ:Site D k}
theorem chq {F:Fx} {ρ:List Slot} {g:F.Γ} {c q:Nat} {i:Nat} {W:Addr→Prop} {p1 p2 p3:Pos} (hx:F.ks[i]?=some "ch") (hi:ρ[i]?=some (.val (.str ⟨#[c]⟩))) (S:Str) (hS:S=⟨#[q]⟩):Tests (F.cx ρ g W) (.Compare (.Name "ch" p1) [.Eq] [.Constant (.str S) 0 p2] p3) (c == q):=by
  subst hS
  have e:((⟨#[c]⟩:Str) == ⟨#[q]⟩)=(c == q):=by
    by_cases h:c=q
    · subst h; simp
    · have:(⟨#[c]⟩:Str)≠⟨#[q]⟩:=fun z=>h (by have:=congrArg (fun z:Str=>z.cps) z; simpa using this)
      rw [beq_eq_false_iff_ne.mpr this,beq_eq_false_iff_ne.mpr h]
  rw [← e]
  exact Tests.cmp (.nm (Fx.var hx hi)) .str rfl
noncomputable def gtLoop:List Stmt:=match (mPart 2).1[(3:Nat)]? with
  | some (.For _ _ b _ _)=>b
  | _=>[]
theorem outerZ (hk:3≤k) (hμ:σ.μ=w.m.x) (hIY:I ∉ w.Y.l) (hpY:p ∉ w.Y.l) {st₀:MSt} {T:Str} {n₀:Nat} {ch₀:Slot} (ht:tokOf (w.text.cps.toList.drop st₀.pos)=some (T,n₀)) :
    Rets (w.F σ I p hI) ((mPart 2).1.drop 3) (tk4 "" I ch₀) st₀ (.str T) ((w.Z I p hI).G (st₀.readN w.text n₀)):=fun W₀ s₀ E fr₀=>by
  have hlen:(w.text.cps.toList.drop st₀.pos).length≤1000:=by
    have h1:=w.htx
    have:w.text.length=w.text.cps.toList.length:=by simp [Str.length]
    rw [List.length_drop]; omega
  have hfi:VarAt (w.F σ I p hI).env s₀.heap "fiter" (.ref I):=by
    obtain ⟨m,cm,α,y⟩:=fr₀
    obtain ⟨r,hy37_1⟩:=y.slot 2 "fiter" _ rfl rfl
    have h1:=hy37_1.1
    have h2:=hy37_1.2
    clear hy37_1
    have e:r=.ref I:=h2 s₀.heap fun _ _ _ _ e=>e
    subst e
    exact h1.var (fun _ _=>rfl) y.ic
  obtain ⟨u,hIo⟩:=(show (w.Z I p hI).G st₀ s₀.heap from fr₀.gh).2.1
  cases hd:w.text.cps.toList.drop st₀.pos with
  | nil=>rw [hd] at ht; cases ht
  | cons c r =>
    rw [hd] at ht hlen
    have hd':=readc_drop hd
    refine wpAny_hide fun QQ E' hQQ=>?_
    refine forS (fun n s'=>s'=s₀) 0 (wpAny_Name (hfi.load rfl (pyIter_cit hIo ⟨rfl,rfl⟩)) (by decide)) ?_
    intro n s K Z EE hJ _ hR _
    subst hJ
    replace hR:=fun v s' q=>hR v s' (hQQ _ s' q)
    refine wpAny_mono (nextC w hk hIY hpY hd fr₀) (fun v s₁ q=>?_) fun _ _ q=>q
    have hx51_0:=q.1
    have fr₁:=q.2.1
    have mv₁:=q.2.2
    try clear q
    obtain ⟨t,rfl⟩:=hx51_0
    refine wpAny_of_eq (a:=()) rfl ?_
    refine wpAny_assign_Name (wpAny_mono (fr₁.store (i:=3) (x:="ch") (v:=.str ⟨#[c]⟩) rfl (.of_flat (.t _ _) rfl)) (fun _ s₂ q=>?_) fun _ _ q=>q)
    have fr₂:=q.1
    have mv₂:=q.2
    try clear q
    have hsame:∃ h tk,s₂={ s with heap:=h,toks:=tk }:=fr₀.same fr₂
    unfold tokOf at ht
    dsimp only at ht
    have key:Rets (w.F σ I p hI) gtLoop (tk4 "" I (.val (.str ⟨#[c]⟩))) (st₀.readc w.text) (.str T) ((w.Z I p hI).G (st₀.readN w.text n₀)):=by
      by_cases hw:wsC c=true
      · rw [if_pos hw] at ht; cases ht
      rw [if_neg hw] at ht
      rw [Bool.not_eq_true] at hw
      refine Rets.cons (ρ₁:=tk4 "" I (.val (.str ⟨#[c]⟩))) (g₁:=st₀.readc w.text) (Run1.iff (x:=wsC c) (fun W=>Tests.inS (.nm (Fx.var (i:=3) rfl rfl)) (wsZ w hμ rfl)) (fun q=>by rw [hw] at q; cases q) fun _=>.nil) ?_
      refine Rets.ifE (x:=(c == 34)) (fun W=>chq (i:=3) rfl rfl _ (by decide)) (fun hq=>?_) (fun hq=>?_)
      · have e:=eq_of_beq hq
        subst e
        rw [if_pos rfl] at ht
        obtain ⟨x,hy67_1⟩:=Option.map_eq_some_iff.mp ht
        have hx:=hy67_1.1
        have e:=hy67_1.2
        clear hy67_1
        obtain ⟨x1,x2⟩:=x
        cases e
        rw [show st₀.readN w.text (x2+1)=(st₀.readc w.text).readN w.text x2 from rfl]
        refine loopZ w hk hμ hIY hpY (stop:=(· == 34)) (st₀:=st₀.readc w.text) (n₀:=x2) (tok₀:="") (T:=x1) (fun tok c st W=>chq (i:=3) rfl rfl _ (by decide)) (by rw [hd']; exact hx) ?_
        rw [hd']; show 0+_≤_; simp only [List.length_cons] at hlen; omega
      · have e:c≠34:=fun e=>by subst e; cases hq
        rw [if_neg e] at ht
        by_cases h92:c=92
        · subst h92
          rw [if_pos rfl] at ht
          cases r with
          | nil=>cases ht
          | cons d r' =>
            obtain ⟨x,hy81_1⟩:=Option.map_eq_some_iff.mp ht
            have hx:=hy81_1.1
            have e:=hy81_1.2
            clear hy81_1
            obtain ⟨x1,x2⟩:=x
            cases e
            have hd2:=readc_drop hd'
            rw [show st₀.readN w.text (x2+2)=((st₀.readc w.text).readc w.text).readN w.text x2 from rfl]
            refine Rets.cons (ρ₁:=tk4 "" I (.val (.str ⟨#[d]⟩))) (g₁:=(st₀.readc w.text).readc w.text) (escZ w (by omega) hμ hIY hpY hd' _ rfl) ?_
            refine Rets.cons (ρ₁:=tk4 (""++⟨#[d]⟩) I (.val (.str ⟨#[d]⟩))) (g₁:=(st₀.readc w.text).readc w.text) (addZ w (by decide)) ?_
            apply loopZ w hk hμ hIY hpY (stop:=wsC) (st₀:=(st₀.readc w.text).readc w.text) (n₀:=x2) (tok₀:=""++⟨#[d]⟩) (T:=x1)
            case htest=>exact fun tok c st W=>Tests.inS (.nm (Fx.var (i:=3) rfl rfl)) (wsZ w hμ rfl)
            case hsc=>rw [hd2]; exact hx
            rw [hd2]; show 1+_≤_; simp only [List.length_cons] at hlen; omega
        · rw [if_neg h92] at ht
          obtain ⟨x,hy93_1⟩:=Option.map_eq_some_iff.mp ht
          have hx:=hy93_1.1
          have e:=hy93_1.2
          clear hy93_1
          obtain ⟨x1,x2⟩:=x
          cases e
          rw [show st₀.readN w.text (x2+1)=(st₀.readc w.text).readN w.text x2 from rfl]
          refine Rets.cons (ρ₁:=tk4 "" I (.val (.str ⟨#[c]⟩))) (g₁:=st₀.readc w.text) (plainZ w h92 _ rfl) ?_
          refine Rets.cons (ρ₁:=tk4 (""++⟨#[c]⟩) I (.val (.str ⟨#[c]⟩))) (g₁:=st₀.readc w.text) (addZ w (by decide)) ?_
          apply loopZ w hk hμ hIY hpY (stop:=wsC) (st₀:=st₀.readc w.text) (n₀:=x2) (tok₀:=""++⟨#[c]⟩) (T:=x1)
          case htest=>exact fun tok c st W=>Tests.inS (.nm (Fx.var (i:=3) rfl rfl)) (wsZ w hμ rfl)
          case hsc=>rw [hd']; exact hx
          rw [hd']; show 1+_≤_; simp only [List.length_cons] at hlen; omega
    refine wpAny_mono (key W₀ s₂ _ fr₂) (fun f s₃ q=>?_) fun _ _ q=>q
    obtain ⟨r',hy104_1⟩:=q
    have hx104_0:=hy104_1.1
    have z:=hy104_1.2
    clear hy104_1
    subst hx104_0
    exact hR _ _ ⟨r',rfl,z.after hsame (mv₁.trans mv₂)⟩
end
section
variable {D:Wd} (w:Mws D) {k:Nat} {σ:Site D k}
noncomputable abbrev Mws.G (w:Mws D) {k:Nat} (σ:Site D k):Fx:=σ.fxg (mPart 2).2.1 ksGT okGT w.Y
theorem selfY {sc:Scope} {ks:List Str} {ok:ScOk sc ks} (hμ:σ.μ=w.m.x) {ρ:List Slot} {st:MSt} {W:Addr→Prop} {i:Nat} {x:Str} (hx:ks[i]?=some x) (hi:ρ[i]?=some (.val .mach)):∀ s,((σ.fxg sc ks ok w.Y).cx ρ st W).P s→VarAt (σ.fxg sc ks ok w.Y).env s.heap x (.ref w.m.x):=fun s hs=>by
  have:=self_at (F:=σ.fxg sc ks ok w.Y) (i:=i) hx hi s hs
  rw [show (σ.fxg sc ks ok w.Y).μ=w.m.x from hμ] at this
  exact this
theorem pbY {sc:Scope} {ks:List Str} {ok:ScOk sc ks} (hμ:σ.μ=w.m.x) {ρ:List Slot} {st:MSt} {W:Addr→Prop} {i:Nat} {x:Str} {px pos:Pos} (hx:ks[i]?=some x) (hi:ρ[i]?=some (.val .mach)) (hd:(x == ("__debug__":Str))=false:=by decide) :
    Does ((σ.fxg sc ks ok w.Y).cx ρ st W) (.Attribute (.Name x px) "pushback" pos) (.list (st.pb.map .str)):=.of fun s E hs=>by
  refine Attribute_name (wpAny_Name ((selfY w hμ hx hi s hs).load ok.hk ?_) hd)
  have hz17:=Site.extG s hs
  have hxt:=hz17.1
  have hg:=hz17.2
  clear hz17
  have hg':w.Y.G st s.heap:=hg
  refine obj_get w hxt hg'.2 (MachAt.pushback w hg'.2) w.cl.pushback (lkB _ (.inr (.inl rfl))) rfl ⟨?_,kTok _ _⟩
  obtain ⟨l,hy20_1⟩:=hg'.2.pb
  have hl:=hy20_1.1
  have hw20_2:=hy20_1.2
  clear hy20_1
  obtain ⟨n,e⟩:=hw20_2
  unfold VRel
  exact ⟨w.m.pb,strValues l,rfl,⟨n,e⟩,hl ▸ of_strs⟩
theorem MachAt.setPb {cl:Cls D} {m:MAd} {text:Str} {st:MSt} {h h':Heap} {q:List Str} (x:MachAt cl m text st h) (k:∀ b o,b≠m.pb→h.get? b=some o→h'.get? b=some o) (hi:StrsL m.pb q h'):MachAt cl m text { st with pb:=q } h':=by
  have hat:∃ rs n,h.get? m.pb=some { cls:=.type "list",dict:=none,data:=.seq rs n,slots:=#[] }:=let ⟨l,_,n,e⟩:=x.pb; ⟨_,n,e⟩
  obtain ⟨rs,n,hat⟩:=hat
  have ne:∀ {b o},h.get? b=some o→(∀ its n,o.data≠.seq its n)→b≠m.pb:=fun e hn q=>by rw [q,hat] at e; cases e; exact hn _ _ rfl
  have kc:∀ b o,codish o→h.get? b=some o→h'.get? b=some o:=fun b o ⟨_,_,_,e,_⟩ e2=>k b o (ne e2 fun _ _ q=>by rw [e] at q; cases q) e2
  refine ⟨k _ _ (ne x.x x.ns0) x.x,x.cls,x.nc,x.nf,x.ns0,x.nd,x.dict,?_,k _ _ (ne x.stm fun _ _ q=>nomatch q) x.stm,?_,x.read,k _ _ (ne x.rf fun _ _ q=>nomatch q) x.rf,CodeRec.cod x.code x.qual kc,⟨x.text.1,?_⟩,⟨x.at_.1,?_⟩,x.pos.move fun o e=>k _ o x.ne.2.1 e,hi,x.ne,x.qual⟩
  · obtain ⟨mA,hy29_1⟩:=x.ns
    have hA:=hy29_1.1
    have r:=hy29_1.2
    clear hy29_1
    refine ⟨mA,hA.at fun o e=>k _ o ?_ e,r⟩
    obtain ⟨o',es,ep,hy31_1⟩:=hA
    have e':=hy31_1.1
    have d:=hy31_1.2.1
    clear hy31_1
    exact ne e' fun _ _ q=>by rw [d] at q; cases q
  · refine x.sd.at' fun o e=>k _ o ?_ e
    obtain ⟨o',es,ep,hy34_1⟩:=x.sd
    have e':=hy34_1.1
    have d:=hy34_1.2.1
    clear hy34_1
    exact ne e' fun _ _ q=>by rw [d] at q; cases q
  · obtain ⟨t,q⟩:=x.text.2
    refine ⟨t,IsCell.at' q fun o e=>k _ o ?_ e⟩
    obtain ⟨o',hy38_1⟩:=q
    have e':=hy38_1.1
    have d:=hy38_1.2
    clear hy38_1
    exact ne e' fun _ _ q=>by rw [d] at q; cases q
  · refine IsCell.at' x.at_.2 fun o e=>k _ o ?_ e
    obtain ⟨o',hy41_1⟩:=x.at_.2
    have e':=hy41_1.1
    have d:=hy41_1.2
    clear hy41_1
    exact ne e' fun _ _ q=>by rw [d] at q; cases q
theorem pbG {st:MSt} {h h':Heap} {q:List Str} (g:w.Y.G st h) (hs:Heap.SameBut w.m.pb h h') (hi:StrsL w.m.pb q h'):w.Y.G { st with pb:=q } h':=by
  have hm:w.m.pb∈w.m.l:=by simp [MAd.l]
  refine ⟨w.X.Gok _ _ _ g.1 fun b o hb e=>hs.extBut b o (fun z=>?_) e,g.2.setPb hs.extBut hi⟩
  rcases hb with hb | hb
  · exact w.hdj b hb (z ▸ hm)
  · obtain ⟨o',hy49_1⟩:=g.2.live _ hm
    have e':=hy49_1.1
    have n:=hy49_1.2
    clear hy49_1
    rw [z,e'] at e; cases e
    exact not_codish n hb
theorem pb_mem:w.m.pb∈w.Y.l:=List.mem_append_right _ (by simp [MAd.l])
theorem walkGTp (hμ:σ.μ=w.m.x) {st:MSt} {x:Str} {q:List Str} (hq:st.pb=x :: q) (hl:st.pb.length < 4096):Rets (w.G σ) (mPart 2).1 [.val .mach,.non,.non,.non] st (.str x) (w.Y.G { st with pb:=q }):=by
  have htr:truthV (.list (st.pb.map .str))=some true:=by
    have:truthV (.list (st.pb.map .str))=some (!(st.pb.map V.str).isEmpty):=if_pos (shortL_of (by rw [List.length_map]; exact hl))
    rw [this,hq]; rfl
  refine Rets.ifRet (x:=true) (fun W=>Tests.val (pbY w hμ (i:=0) rfl rfl) htr) (fun _=>?_) (fun z=>nomatch z)
  intro W s E fr
  have hz60:=Site.extG s fr
  have hxt:=hz60.1
  have hg:=hz60.2
  clear hz60
  have hg':w.Y.G st s.heap:=hg
  refine wpAny_execs_cons (wpAny_Return_some (wpAny_Call_method_lateS rfl rfl rfl (Attribute_name (wpAny_Name ((selfY w hμ (ok:=okGT) (i:=0) rfl rfl s fr).load rfl ?_) (by decide)))))
  refine obj_get w hxt hg'.2 (MachAt.pushback w hg'.2) w.cl.pushback (lkB _ (.inr (.inl rfl))) rfl ?_
  obtain ⟨l,hy64_1⟩:=hg'.2.pb
  have hl':=hy64_1.1
  have hw64_2:=hy64_1.2
  clear hy64_1
  obtain ⟨n,e⟩:=hw64_2
  rw [hq] at hl'
  cases l with
  | nil=>cases hl'
  | cons y r =>
    simp only [List.map_cons,List.cons.injEq] at hl'
    have hy:=hl'.1
    have hr:=hl'.2
    try clear hl'
    refine ⟨"list",_,PySem.F.plainAttrs_list,PySem.F.slot_list_pop,PySem.F.type_list_pop,⟨_,e,rfl⟩,(fun a' e2=>by cases e2; exact ⟨_,e,rfl⟩),Calls.callWith_builtin rfl (args_any (wpAny_items_cons (wpAny_Constant_int (Calls.spliced_nil ?_)) rfl) rfl)⟩
    have hlen:(strValues (y :: r)).length < 4096:=by
      have:(strValues (y :: r)).length=(y :: r).length:=List.length_map ..
      rw [this]
      have h2:st.pb.length=(y :: r).length:=by rw [hq,← hr]; simp
      omega
    refine pop_plain (rs:=strValues (y :: r)) (y:=.str y.1 y.2) ⟨n,e⟩ (by decide) rfl hlen fun h' hl2 hs2=>?_
    have gk:w.Y.G { st with pb:=q } h':=pbG w hg' hs2 ⟨r,hr,by simpa [strValues] using hl2⟩
    refine ⟨_,rfl,⟨fun _ _=>by rw [← hy]; exact .t _ _,⟨_,_,rfl⟩,Nat.le_add_left _ _,Nat.le_of_eq hs2.1.symm,fun b o hb e=>hs2.extBut b o (fun z=>hb (z ▸ fr.wg _ (pb_mem w))) e,gk⟩⟩
end
section
variable {D:Wd} (w:Mws D) {k:Nat} {σ:Site D k}
noncomputable def ksPT:List Str:=["self","token"]
theorem okPT:ScOk (mPart 3).2.1 ksPT:=⟨by decide,by decide,rfl⟩
theorem walkPT (hμ:σ.μ=w.m.x) {st:MSt} {x:Str} (hl:st.pb.length < 4096):Ends (σ.fxg (mPart 3).2.1 ksPT okPT w.Y) (mPart 3).1 [.val .mach,.val (.str x)] st .none (w.Y.G { st with pb:=st.pb++[x] }):=by
  refine Ends.cons (ρ₁:=[.val .mach,.val (.str x)]) (g₁:={ st with pb:=st.pb++[x] }) ?_ Ends.nil
  intro W s E fr
  have hz13:=Site.extG s fr
  have hxt:=hz13.1
  have hg:=hz13.2
  clear hz13
  have hg':w.Y.G st s.heap:=hg
  refine wpAny_Expr ?_ (interactive_fn okPT.hk) rfl
  refine wpAny_Call_append rfl rfl rfl rfl (Attribute_name (wpAny_Name ((selfY w hμ (ok:=okPT) (i:=0) rfl rfl s fr).load rfl ?_) (by decide)))
  refine obj_get w hxt hg'.2 (MachAt.pushback w hg'.2) w.cl.pushback (lkB _ (.inr (.inl rfl))) rfl ?_
  obtain ⟨l,hy18_1⟩:=hg'.2.pb
  have hl':=hy18_1.1
  have hw18_2:=hy18_1.2
  clear hy18_1
  obtain ⟨n,e⟩:=hw18_2
  refine ⟨_,(strValues l).toArray,rfl,⟨_,n,e,rfl,rfl,rfl⟩,?_⟩
  have fr1:Fr1 (σ.fxg (mPart 3).2.1 ksPT okPT w.Y) [.val .mach,.val (.str x)] st W { s with toks:=s.toks+1 }:=fr.keeps ⟨kTok s _,Nat.le_add_left _ _,Nat.le_refl _⟩
  obtain ⟨r,hy21_1⟩:=Fx.var (F:=σ.fxg (mPart 3).2.1 ksPT okPT w.Y) (W:=W) (i:=1) (x:="token") rfl rfl _ fr1
  have hat:=hy21_1.1
  have hr:=hy21_1.2
  clear hy21_1
  refine wpAny_Name (hat.load rfl ?_) (by decide)
  unfold VRel at hr
  obtain ⟨t,rfl⟩:=hr
  have hlen:(strValues l).length < 4096:=by
    have h1:(strValues l).length=l.length:=List.length_map ..
    have h2:st.pb.length=l.length:=by rw [← hl']; simp
    omega
  refine wpAny_list_append_plain (l:=w.m.pb) (items:=(strValues l).toArray) ⟨n,e⟩ (fun h' hl2 hs2=>?_) (by rw [List.size_toArray,sizeLine_eq]; omega)
  have gk:w.Y.G { st with pb:=st.pb++[x] } h':=pbG w hg' hs2 ⟨l++[(x,t)],by rw [List.map_append,hl']; rfl,by simpa [strValues] using hl2⟩
  exact ⟨rfl,W,fr1.gmove ⟨h',_,rfl⟩ (Nat.le_add_left _ _) (fun b o hb e=>hs2.extBut b o (fun z=>hb (z ▸ pb_mem w)) e) gk (w.Y.live _ _ gk),⟨fun b o hb e=>hs2.extBut b o (fun z=>hb (z ▸ fr.wg _ (pb_mem w))) e,Nat.le_of_eq hs2.1.symm,fun b hb=>.inl hb⟩⟩
theorem Fr1.toZ {I p:Addr} {hI:∀ b o,D.h0.get? b=some o→b≠I∧b≠p} {ρ:List Slot} {st:MSt} {W:Addr→Prop} {s s':Shared} {u:Tok} (fr:Fr1 (w.G σ) ρ st W s) (k1:K1 s s') (h1:s.heap.objs.size≤I) (h2:s.heap.objs.size≤p)
    (hIo:s'.heap.get? I=some (citObj (.ref p) (.str "" u) false)) (hpo:s'.heap.get? p=some (PySem.W.methodObj (.ref w.rd.a) (.ref w.m.x))) (hno:ρ.all (fun sl=>!sl.isOwn)=true):Fr1 (w.F σ I p hI) ρ st (fun b=>W b∨b=I∨b=p) s':=by
  obtain ⟨m,cm,α,y⟩:=fr
  have y':=y.keeps k1.1 k1.2.1
  have hlt:=y.lt
  have nW:∀ b,W b→b≠I∧b≠p:=fun b hb=>⟨fun q=>Nat.lt_irrefl _ (Nat.lt_of_lt_of_le (hlt b hb) (q ▸ h1)),fun q=>Nat.lt_irrefl _ (Nat.lt_of_lt_of_le (hlt b hb) (q ▸ h2))⟩
  have noOwn:∀ (j:Nat) us,ρ[j]?=some (.own us)→False:=fun j us hj=>by have:=List.all_eq_true.mp hno _ (List.mem_of_getElem? hj); cases this
  have sub:∀ b,b∈w.Y.l→b∈I :: p :: w.Y.l:=fun b q=>.tail _ (.tail _ q)
  have ic:=y'.ic
  have oldk:∀ b o,s.heap.get? b=some o→¬ (b=I∨b=p):=fun b o e q=>by
    have:=Heap.lt_size e
    rcases q with rfl | rfl
    · exact Nat.lt_irrefl _ (Nat.lt_of_lt_of_le this h1)
    · exact Nat.lt_irrefl _ (Nat.lt_of_lt_of_le this h2)
  refine ⟨m,cm,α,⟨⟨ic.toInCall.same,ic.toInCall.ns,fun b o e=>ic.toInCall.keep b o (hideAll_sub sub b o e),?_⟩,ic.cell,ic.apart,ic.above⟩,y'.tk,.inl y.wL,fun n c hc=>.inl (y.wC n c hc),fun b hb=>?_,fun b hb=>?_,⟨y'.gh,⟨u,hIo⟩,hpo⟩,fun j z sl hz hs=>?_,fun j k z u vs us _ _ hj _ _=>(noOwn j vs hj).elim⟩
  · have h1:=ic.toInCall.fresh
    have e1:(hideAll σ.S0.heap w.Y.l).objs.size=σ.S0.heap.objs.size:=hideAll_size _ _
    have e2:(hideAll σ.S0.heap (I :: p :: w.Y.l)).objs.size=σ.S0.heap.objs.size:=hideAll_size _ _
    show (hideAll σ.S0.heap (I :: p :: w.Y.l)).objs.size≤_
    rw [e2,← e1]; exact h1
  · rcases hb with hb | rfl | rfl
    · exact y'.live b hb
    · exact ⟨_,hIo⟩
    · exact ⟨_,hpo⟩
  · rcases List.mem_cons.mp hb with rfl | hb
    · exact ⟨.inr (.inl rfl),fun q=>(nW _ y.wL).1 q.symm,fun n c hc q=>(nW _ (y.wC n c hc)).1 q.symm⟩
    · rcases List.mem_cons.mp hb with rfl | hb
      · exact ⟨.inr (.inr rfl),fun q=>(nW _ y.wL).2 q.symm,fun n c hc q=>(nW _ (y.wC n c hc)).2 q.symm⟩
      · exact ⟨.inl (y.gW b hb).1,(y.gW b hb).2⟩
  · have old:=y.slot j z sl hz hs
    have:=old.grow (W':=fun b=>W b∨b=I∨b=p) (h':=s'.heap) (m':=m) (cm':=cm) (a':=α j) (fun _ q=>q) (fun _ q=>.inl q) (fun b o hb e=>⟨fun q=>q.elim hb (oldk b o e),kGet k1.1 b o e⟩) (fun vs e=>absurd (e ▸ hs) (noOwn j vs))
    cases sl with
    | non=>trivial
    | val v=>exact this
    | adr Φ=>exact this
    | own vs=>exact (noOwn j vs hs).elim
theorem fiterY (giter:D.gl "iter"=some (.builtin "iter")) (hμ:σ.μ=w.m.x) {st:MSt} {W:Addr→Prop} {s:Shared} {E:Value→Shared→Prop} {p1 p2 p3 p4:Pos} {ρ:List Slot} (hi:ρ[0]?=some (.val .mach)) (hno:ρ.all (fun sl=>!sl.isOwn)=true) (fr:Fr1 (w.G σ) ρ st W s) :
    wpAny (w.G σ).M (w.G σ).A (eval (.Call (.Name "iter" p1) [.Attribute (.Name "self" p2) "_read_char" p3,.Constant (.str "") 0 p4] [] ⟨172,16,172,41⟩) (w.G σ).env) (fun r s'=>∃ I p,∃ hI:∀ b o,D.h0.get? b=some o→b≠I∧b≠p,r=.ref I∧I ∉ w.Y.l∧p ∉ w.Y.l∧s.heap.objs.size≤I∧s.heap.objs.size≤p∧K1 s s'∧Fr1 (w.F σ I p hI) ρ st (fun b=>W b∨b=I∨b=p) s') E s:=by
  have hz73:=Site.extG s fr
  have hxt:=hz73.1
  have hg:=hz73.2
  clear hz73
  have hg':w.Y.G st s.heap:=hg
  refine wpAny_Call_NameR (glob_name (c:=(w.G σ).cx ρ st W) fr (by show (mPart 2).2.1.names.lookup _=_; decide) giter ?_ (by decide))
  refine Calls.callWith_builtin rfl (args_any (wpAny_items_cons (Attribute_name (wpAny_Name ((selfY w hμ (ok:=okGT) (i:=0) rfl hi s fr).load rfl ?_) (by decide))) rfl) rfl)
  obtain ⟨mA,hy77_1⟩:=MachAt.no w hg'.2
  have hA:=hy77_1.1
  have q1:=hy77_1.2.1
  have q2:=hy77_1.2.2.1
  have q3:=hy77_1.2.2.2
  clear hy77_1
  have X:=w.cl.at_.keeps hxt
  obtain ⟨nm,q,bs,sn,sub,col,dd,k0,k1,k2,k3,k5,hC⟩:=X.obj
  refine wpAny_grow (Q:=fun r s₂=>r=.ref s.heap.objs.size∧∃ tk,s₂={ s with heap:=s.heap.push (PySem.W.methodObj (.ref w.rd.a) (.ref w.m.x)),toks:=tk }) fr.tk ?_ fun r s₂ ht₂ _ q=>?_
  · obtain ⟨h,g,d,tk,os⟩:=s
    exact load_bound hC X.ns w.cl.ga w.cl.hook w.rd.inN (hxt _ _ w.rd.ho) w.rd.hc (lkB _ (.inr (.inr (.inr (.inr (.inl rfl)))))) hg'.2.x hg'.2.cls hg'.2.nc hg'.2.dict hA.ns q1 fun tk'=>⟨rfl,tk',rfl⟩
  have hx83_0:=q.1
  have hw83_1:=q.2
  try clear q
  subst hx83_0
  obtain ⟨tk,rfl⟩:=hw83_1
  refine wpAny_items_cons (wpAny_Constant_str (Calls.spliced_nil ?_)) rfl
  refine call_iter2 (Heap.get?_push_size _ rfl) ?_
  have e1:(s.heap.push (PySem.W.methodObj (.ref w.rd.a) (.ref w.m.x))).objs.size=s.heap.objs.size+1:=Heap.size_push ..
  have big:∀ b∈w.Y.l,b < s.heap.objs.size:=fun b hb=>let ⟨o,e⟩:=w.Y.live _ _ hg' b hb; Heap.lt_size e
  have kk:K1 s { s with heap:=(s.heap.push (PySem.W.methodObj (.ref w.rd.a) (.ref w.m.x))).push (citObj (.ref s.heap.objs.size) (.str "" tk) false),toks:=tk+1 } :=
    ⟨⟨_,_,rfl,fun b o e=>Heap.get?_push_of_some _ (Heap.get?_push_of_some _ e)⟩,Nat.le_add_left _ _,by rw [Heap.size_push,e1]; omega⟩
  have hI:∀ b o,D.h0.get? b=some o→b≠(s.heap.push (PySem.W.methodObj (.ref w.rd.a) (.ref w.m.x))).objs.size∧b≠s.heap.objs.size:=fun b o e=>by
    have:=Heap.lt_size (hxt b o e)
    rw [e1]
    exact ⟨Nat.ne_of_lt (Nat.lt_succ_of_lt this),Nat.ne_of_lt this⟩
  refine ⟨_,_,hI,rfl,fun q=>?_,fun q=>Nat.lt_irrefl _ (big _ q),by rw [e1]; exact Nat.le_succ _,Nat.le_refl _,kk,fr.toZ w kk (by rw [e1]; exact Nat.le_succ _) (Nat.le_refl _) (u:=tk) (Heap.get?_push_size _ rfl) (Heap.get?_push_of_some _ (Heap.get?_push_size _ rfl)) hno⟩
  have:=big _ q
  rw [e1] at this
  exact Nat.lt_irrefl _ (Nat.lt_of_succ_lt this)
end
section
variable {D:Wd} (w:Mws D) {k:Nat} {σ:Site D k}
theorem pbEmpty {st:MSt} (hq:st.pb=[]):truthV (.list (st.pb.map .str))=some false:=by rw [hq]; rfl
theorem walkGTt (giter:D.gl "iter"=some (.builtin "iter")) (hk:3≤k) (hμ:σ.μ=w.m.x) {st:MSt} {T:Str} {n:Nat} (hq:st.pb=[]) (ht:tokOf (w.text.cps.toList.drop st.pos)=some (T,n)) :
    Rets (w.G σ) (mPart 2).1 [.val .mach,.non,.non,.non] st (.str T) (w.Y.G (st.readN w.text n)):=by
  refine Rets.ifRet (x:=false) (fun W=>Tests.val (pbY w hμ (i:=0) rfl rfl) (pbEmpty hq)) (fun z=>nomatch z) (fun _=>?_)
  refine Rets.cons (ρ₁:=[.val .mach,.val (.str ""),.non,.non]) (g₁:=st) (Run1.asg (F:=w.G σ) (i:=1) (fun W=>.str) rfl rfl) ?_
  intro W s E fr
  refine wpAny_execs_cons (wpAny_Assign_Name (wpAny_mono (fiterY w giter hμ rfl rfl fr) (fun r s₁ q=>?_) fun _ _ q=>q) rfl)
  obtain ⟨I,p,hI,hy16_1⟩:=q
  have hx16_0:=hy16_1.1
  have hIY:=hy16_1.2.1
  have hpY:=hy16_1.2.2.1
  have hIs:=hy16_1.2.2.2.1
  have hps:=hy16_1.2.2.2.2.1
  have k1:=hy16_1.2.2.2.2.2.1
  have fr₁:=hy16_1.2.2.2.2.2.2
  clear hy16_1
  subst hx16_0
  refine wpAny_mono (fr₁.storeIs (i:=2) (x:="fiter") (Φ:=fun r _=>r=.ref I) rfl fun _ _=>rfl) (fun _ s₂ q=>?_) fun _ _ q=>q
  have fr₂:=q.1
  have mv₂:=q.2
  try clear q
  refine wpAny_mono (outerZ w hk hμ hIY hpY ht _ s₂ E fr₂) (fun f s₃ q=>?_) fun _ _ q=>q
  obtain ⟨r',hy20_1⟩:=q
  have hx20_0:=hy20_1.1
  have z:=hy20_1.2
  clear hy20_1
  subst hx20_0
  have hsame:∃ h tk,s₂={ s with heap:=h,toks:=tk }:=by
    obtain ⟨h1,t1,hy22_1⟩:=k1.1
    have e1:=hy22_1.1
    clear hy22_1
    obtain ⟨h2,t2,e2⟩:=fr₁.same fr₂
    exact ⟨h2,t2,by rw [e2,e1]⟩
  refine ⟨r',rfl,.of_flat (v:=.str T) z.val.rel rfl,?_,z.tk,Nat.le_trans k1.2.2 (Nat.le_trans mv₂.size z.size),fun b o hb e=>?_,z.left.1⟩
  · obtain ⟨h2,t2,e2⟩:=hsame
    obtain ⟨h3,t3,e3⟩:=z.same
    exact ⟨h3,t3,by rw [e3,e2]⟩
  · have hlt:=Heap.lt_size e
    have nb:¬ (W b∨b=I∨b=p):=fun q=>by
      rcases q with q | rfl | rfl
      · exact hb q
      · exact Nat.lt_irrefl _ (Nat.lt_of_lt_of_le hlt hIs)
      · exact Nat.lt_irrefl _ (Nat.lt_of_lt_of_le hlt hps)
    exact z.kept b o nb (mv₂.kept b o nb (kGet k1.1 b o e))
theorem readc_end {text:Str} {st:MSt} (h:text.length≤st.pos):st.readc text=st:=by
  have hc:=chAt_end h
  have hr:st.read text=st:=by
    unfold MSt.read
    rw [hc]
    rfl
  unfold MSt.readc
  rw [hc,if_neg (by decide),hr]
theorem VarAt.but {env:Env} {h h':Heap} {x:Str} {r:Value} {I:Addr} {p q:Value} {b:Bool} (v:VarAt env h x r) (hI:h.get? I=some (citObj p q b)) (k:∀ b o,b≠I→h.get? b=some o→h'.get? b=some o):VarAt env h' x r:=by
  rcases v with ⟨hl,m,hn,hm⟩ | ⟨hl,a,ha,hc⟩
  · refine .inl ⟨hl,m,hn.at' fun o e=>k _ o (fun q=>?_) e,hm⟩
    obtain ⟨o',es,ep,hy47_1⟩:=hn
    have e':=hy47_1.1
    have d:=hy47_1.2.1
    clear hy47_1
    rw [q,hI] at e'; cases e'; cases d
  · refine .inr ⟨hl,a,ha,IsCell.at' hc fun o e=>k _ o (fun q=>?_) e⟩
    obtain ⟨o',hy50_1⟩:=hc
    have e':=hy50_1.1
    have d:=hy50_1.2
    clear hy50_1
    rw [q,hI] at e'; cases e'; cases d
theorem walkGTe (giter:D.gl "iter"=some (.builtin "iter")) (hk:3≤k) (hμ:σ.μ=w.m.x) {st:MSt} (hq:st.pb=[]) (hend:w.text.length≤st.pos) :
    Rets (w.G σ) (mPart 2).1 [.val .mach,.non,.non,.non] st (.str "") (w.Y.G st):=by
  refine Rets.ifRet (x:=false) (fun W=>Tests.val (pbY w hμ (i:=0) rfl rfl) (pbEmpty hq)) (fun z=>nomatch z) (fun _=>?_)
  refine Rets.cons (ρ₁:=[.val .mach,.val (.str ""),.non,.non]) (g₁:=st) (Run1.asg (F:=w.G σ) (i:=1) (fun W=>.str) rfl rfl) ?_
  intro W s E fr
  refine wpAny_hide fun QQ E hQQ=>?_
  refine consK fun K hK _=>(wpAny_Assign_Name (wpAny_mono (fiterY w giter hμ rfl rfl fr) (fun r s₁ q=>?_) fun _ _ q=>q) rfl)
  obtain ⟨I,p,hI,hy59_1⟩:=q
  have hx59_0:=hy59_1.1
  have hIY:=hy59_1.2.1
  have hpY:=hy59_1.2.2.1
  have hIs:=hy59_1.2.2.2.1
  have hps:=hy59_1.2.2.2.2.1
  have k1:=hy59_1.2.2.2.2.2.1
  have fr₁:=hy59_1.2.2.2.2.2.2
  clear hy59_1
  subst hx59_0
  refine wpAny_mono (fr₁.storeIs (i:=2) (x:="fiter") (Φ:=fun r _=>r=.ref I) rfl fun _ _=>rfl) (fun _ s₂ q=>?_) fun _ _ q=>q
  have fr₂:=q.1
  have mv₂:=q.2
  try clear q
  have hx:Ext D.h0 s₂.heap:=(Site.extG s₂ fr₂).1
  have hg:(w.Z I p hI).G st s₂.heap:=fr₂.gh
  have hY:=hg.1
  have hx64_0:=hg.2.1
  have hpo:=hg.2.2
  try clear hg
  obtain ⟨u,hIo⟩:=hx64_0
  have hsame:∃ h tk,s₂={ s with heap:=h,toks:=tk }:=by
    obtain ⟨h1,t1,hy66_1⟩:=k1.1
    have e1:=hy66_1.1
    clear hy66_1
    obtain ⟨h2,t2,e2⟩:=fr₁.same fr₂
    exact ⟨h2,t2,by rw [e2,e1]⟩
  have hfi:VarAt (w.F σ I p hI).env s₂.heap "fiter" (.ref I):=by
    obtain ⟨m,cm,α,y⟩:=fr₂
    obtain ⟨r,hy71_1⟩:=y.slot 2 "fiter" _ rfl rfl
    have h1:=hy71_1.1
    have h2:=hy71_1.2
    clear hy71_1
    have e:r=.ref I:=h2 s₂.heap fun _ _ _ _ e=>e
    subst e
    exact h1.var (fun _ _=>rfl) y.ic
  refine hK _ ?_
  refine forS (fun n s'=>s'=s₂) 0 (wpAny_Name (hfi.load rfl (pyIter_cit hIo ⟨rfl,rfl⟩)) (by decide)) ?_
  intro n s' K Z EE hJ _ _ hZ
  subst hJ
  have hch:chAt w.text st.pos="":=chAt_end hend
  obtain ⟨k',rfl⟩:∃ k',k=k'+3:=⟨k - 3,by omega⟩
  refine wpAny_mono (cit_next (prog:=D.prog) (w:=D.w) (A:=σ.A) (o:=w.rd.o) (Q:=fun v s''=>v=none∧∃ s₃ h',s''={ s₃ with heap:=h' }∧w.Y.G st s₃.heap∧Mg w.Y.l s' s₃∧(∀ b o,b≠I→s₃.heap.get? b=some o→h'.get? b=some o)∧s₃.heap.objs.size≤h'.objs.size) (E:=fun _ _=>False) σ.hA.hh hIo hpo (hx _ _ w.rd.ho) w.rd.hd (codeAny_mono (codeRC w (k:=k') (A:=σ.A.in1) σ.hA.in1 s' hx fr₂.tk hY) fun x s₃ q=>?_)) (fun v s'' q=>?_) fun _ _ q=>q.elim
  · obtain ⟨r',hy81_1⟩:=q
    have hx81_0:=hy81_1.1
    have hv:=hy81_1.2.1
    have hG:=hy81_1.2.2.1
    have mg:=hy81_1.2.2.2
    clear hy81_1
    subst hx81_0
    rw [hch] at hv
    rw [readc_end hend] at hG
    have hv':=hv.rel
    unfold VRel at hv'
    obtain ⟨t,rfl⟩:=hv'
    exact ⟨"",t,rfl,mg.kept I _ hIY hIo,mg.kept p _ hpY hpo,mg.kept _ _ (fun q=>w.Y.hid _ _ w.rd.ho q) (hx _ _ w.rd.ho),fun q=>absurd rfl q,fun _ h' hk _ hz=>⟨rfl,s₃,h',rfl,hG,mg,hk,hz⟩⟩
  · have hx88_0:=q.1
    have hw88_1:=q.2
    try clear q
    subst hx88_0
    obtain ⟨s₃,h',hy88_1⟩:=hw88_1
    have hx88_0:=hy88_1.1
    have hG:=hy88_1.2.1
    have mg:=hy88_1.2.2.1
    have hk2:=hy88_1.2.2.2.1
    have hz:=hy88_1.2.2.2.2
    clear hy88_1
    subst hx88_0
    have hI3:=mg.kept I _ hIY hIo
    have fr₃:Fr1 (w.F σ I p hI) [.val .mach,.val (.str ""),.adr fun r _=>r=.ref I,.non] st _ s₃:=fr₂.gmove mg.same mg.tk (fun b o hb e=>mg.kept b o (fun q=>hb (.tail _ (.tail _ q))) e) ⟨hG,⟨u,hI3⟩,mg.kept p _ hpY hpo⟩ fun b hb=>(w.Z I p hI).live st _ ⟨hG,⟨u,hI3⟩,mg.kept p _ hpY hpo⟩ b hb
    obtain ⟨r,hy91_1⟩:=Fx.var (F:=w.F σ I p hI) (i:=1) (x:="token") rfl rfl _ fr₃
    have hat:=hy91_1.1
    have hr:=hy91_1.2
    clear hy91_1
    refine hZ _ (consK fun K _ hK=>(wpAny_Return_some (wpAny_Name ((hat.but hI3 hk2).load rfl ?_) (by decide))))
    refine hK _ _ (hQQ _ _ ⟨r,rfl,.of_flat (v:=.str "") (hr.flat (h':=h') rfl) rfl,?_,mg.tk,Nat.le_trans k1.2.2 (Nat.le_trans mv₂.size (Nat.le_trans mg.size hz)),fun b o hb e=>?_,?_⟩)
    · obtain ⟨h2,t2,e2⟩:=hsame
      obtain ⟨h3,t3,e3⟩:=mg.same
      exact ⟨h',t3,by rw [e3,e2]⟩
    · have hlt:=Heap.lt_size e
      have nb:¬ (W b∨b=I∨b=p):=fun q=>by
        rcases q with q | rfl | rfl
        · exact hb q
        · exact Nat.lt_irrefl _ (Nat.lt_of_lt_of_le hlt hIs)
        · exact Nat.lt_irrefl _ (Nat.lt_of_lt_of_le hlt hps)
      exact hk2 b o (fun q=>nb (.inr (.inl q))) (mg.kept b o (fun q=>nb (.inl (fr.wg b q))) (mv₂.kept b o nb (kGet k1.1 b o e)))
    · refine w.Y.Gok _ _ _ hG fun b o hb e=>hk2 b o (fun z=>?_) e
      subst z
      rcases hb with hb | hb
      · exact hIY hb
      · rw [hI3] at e; cases e
        obtain ⟨fs,q,t,hy109_1⟩:=hb
        have e1:=hy109_1.1
        have e2:=hy109_1.2.1
        have e3:=hy109_1.2.2
        clear hy109_1
        cases e1
        exact e3 (by have e4:=e2.symm; simp at e4; exact e4.1)
end
section
variable {D:Wd}
structure Ins (cl:Cls D) (x dx:Addr) (o:Obj) (mA:Str→Option Value) (h:Heap):Prop where
  at_:h.get? x=some o
  cls:o.cls=.ref cl.C
  nc:∀ c,o.data≠.cls c
  dict:o.dict=some dx
  ne:x≠dx
  ns:h.Ns1 dx mA
theorem ins_store (cl:Cls D) {x dx:Addr} {o:Obj} {mA:Str→Option Value} {prog:Program} {wd:World} {A:Around} {E:Value→Shared→Prop} {s:Shared} {v:Value} {name:Str} {Q:Unit→Shared→Prop} {ns:List Str} (hs:Ext D.h0 s.heap) (I:Ins cl x dx o mA s.heap) (hw:Within mA ns) (hn:ns.length < 100)
    (hc:cl.mN name=none) (hB:typeLookup (.type "object") name=pure none)
    (ht:1≤s.toks) (hq:∀ h' tk,1≤tk→s.heap.objs.size≤h'.objs.size→Ins cl x dx o (fun y=>if y=name then some v else mA y) h'→(∀ b o,b≠dx→s.heap.get? b=some o→h'.get? b=some o)→Q () { s with heap:=h',toks:=tk }):wpAny (model prog wd) A (setAttr (.ref x) name v) Q E s:=by
  refine wpAny_grow (Q:=fun _ s'=>∃ h' tk,s'={ s with heap:=h',toks:=tk }∧Ins cl x dx o (fun y=>if y=name then some v else mA y) h'∧∀ b o,b≠dx→s.heap.get? b=some o→h'.get? b=some o) ht ?_ fun _ s' t z q=>by obtain ⟨h',tk,rfl,q1,q2⟩:=q; exact hq h' tk t z q1 q2
  obtain ⟨h,g,d,tk,os⟩:=s
  have X:=cl.at_.keeps hs
  obtain ⟨nm,q,bs,sn,sub,col,dd,k0,k1,k2,k3,k5,hC⟩:=X.obj
  have hxC:x≠cl.C:=fun q=>by
    have:=I.at_
    rw [q,hC] at this
    exact I.nc _ (by rw [← Option.some.inj this])
  refine store_attr PySem.F.store_object hC X.ns cl.sa hc hB hxC (mA:=mA) ⟨o,I.at_,I.cls,I.nc,.inr ⟨dx,I.dict,I.ne.symm,I.ns⟩⟩ (fun h' tk' I' hk hsame=>?_) hw (by rw [sizeLine_eq]; omega)
  obtain ⟨o₁,hy28_1⟩:=hsame _ I.at_
  have e1:=hy28_1.1
  have c1:=hy28_1.2.1
  have d1:=hy28_1.2.2.1
  have s1:=hy28_1.2.2.2.1
  have dd1:=hy28_1.2.2.2.2
  clear hy28_1
  have eo:o₁=o:=by
    obtain ⟨a,b,c,e⟩:=o₁
    have hdict:=dd1 _ I.dict
    have:=I.dict
    obtain ⟨a',b',c',e'⟩:=o
    simp only at c1 d1 s1 this hdict
    rw [c1,d1,s1,hdict,this]
  subst eo
  obtain ⟨o₂,hy37_1⟩:=I'
  have e2:=hy37_1.1
  have c2:=hy37_1.2.1
  have n2:=hy37_1.2.2.1
  have hd2:=hy37_1.2.2.2
  clear hy37_1
  rw [e1] at e2; cases e2
  have hns:h'.Ns1 dx (fun y=>if y=name then some v else mA y):=by
    rcases hd2 with ⟨q,_⟩ | ⟨d',q1,q2,q3⟩
    · rw [I.dict] at q; cases q
    · rw [I.dict] at q1; cases q1; exact q3
  exact ⟨h',tk',rfl,⟨e1,I.cls,I.nc,I.dict,I.ne,hns⟩,fun b o hb e=>by
    by_cases hx:b=x
    · subst hx; rw [I.at_] at e; cases e; exact e1
    · exact hk b o hx (fun o₀ dx e0 e1=>by rw [I.at_] at e0; cases e0; rw [I.dict] at e1; cases e1; exact hb) e⟩
noncomputable def iScope:Scope:=(mPart 0).2.1
noncomputable def iBody:List Stmt:=(mPart 0).1
theorem initBody (cl:Cls D) {prog:Program} {wd:World} {A:Around} {E:Value→Shared→Prop} {env:Env} {s:Shared} {x dx f:Addr} {o:Obj} {m:Str→Option Value} (hsc:env.scope=iScope) (hs:Ext D.h0 s.heap) (hL:s.heap.Ns env.locals m) (hx:m "self"=some (.ref x)) (hf:m "fp"=some (.ref f))
    (hdx:env.locals≠dx) (hnd:∀ b o,D.h0.get? b=some o→b≠dx) (I:Ins cl x dx o (fun _=>none) s.heap) :
    wpAny (model prog wd) A (execs iBody env) (fun fl s'=>fl=.next∧∃ h' tk mA pb t1 t3,s'={ s with heap:=h',toks:=tk }∧1≤tk∧Ins cl x dx o mA h'∧Within mA ["pushback","whitespace","instream","lineno"]∧mA "pushback"=some (.ref pb)∧mA "whitespace"=some (.str "\n\t\r " t3)∧mA "instream"=some (.ref f)∧mA "lineno"=some (.int 1 t1) ∧
      mA "_read_char"=none∧mA "get_token"=none∧mA "push_token"=none∧h'.PlainList pb #[]∧s.heap.objs.size≤pb∧s.heap.objs.size≤h'.objs.size∧∀ b o,b≠dx→s.heap.get? b=some o→h'.get? b=some o) E s:=by
  have hk:env.scope.kind=.function:=by rw [hsc]; rfl
  have kd:∀ {y},iScope.names.lookup y=some .local→env.kindOf y=some .local:=fun h=>by unfold Env.kindOf; rw [hsc]; exact h
  have ks:env.kindOf "self"=some .local:=kd (by decide)
  have kf:env.kindOf "fp"=some .local:=kd (by decide)
  have nsK:∀ {h h':Heap},h.Ns env.locals m→(∀ b o,b≠dx→h.get? b=some o→h'.get? b=some o)→h'.Ns env.locals m:=fun hn k=>hn.at' fun o e=>k _ o hdx e
  refine wpAny_execs_cons (plainObj_wpAny_Assign_Attribute (wpAny_Constant_int (wpAny_Name (wpAny_loadName_local hk ks hL hx ?_) (by decide))))
  refine ins_store cl (s:={ s with toks:=s.toks+1 }) hs I Within.nil (by decide) cl.lineno (lkB _ (.inr (.inr (.inr (.inl rfl))))) (Nat.le_add_left _ _) fun h₁ k₁ t₁ z₁ I₁ e₁=>?_
  have hs₁:Ext D.h0 h₁:=fun b o e=>e₁ b o (hnd b o e) (hs b o e)
  have hL₁:=nsK hL e₁
  refine wpAny_execs_cons (plainObj_wpAny_Assign_Attribute (wpAny_Name (wpAny_loadName_local hk kf hL₁ hf (wpAny_Name (wpAny_loadName_local hk ks hL₁ hx ?_) (by decide))) (by decide)))
  refine ins_store cl (s:={ s with heap:=h₁,toks:=k₁ }) hs₁ I₁ (Within.cons _ _ Within.nil) (by decide) cl.instream (lkB _ (.inl rfl)) t₁ fun h₂ k₂ t₂ z₂ I₂ e₂=>?_
  have hs₂:Ext D.h0 h₂:=fun b o e=>e₂ b o (hnd b o e) (hs₁ b o e)
  have hL₂:=nsK hL₁ e₂
  refine wpAny_execs_cons (plainObj_wpAny_Assign_Attribute (wpAny_Constant_str (wpAny_Name (wpAny_loadName_local hk ks hL₂ hx ?_) (by decide))))
  refine ins_store cl (s:={ s with heap:=h₂,toks:=k₂+1 }) hs₂ I₂ (Within.cons _ _ (Within.cons _ _ Within.nil)) (by decide) cl.whitespace (lkB _ (.inr (.inr (.inl rfl)))) (Nat.le_add_left _ _) fun h₃ k₃ t₃ z₃ I₃ e₃=>?_
  have hs₃:Ext D.h0 h₃:=fun b o e=>e₃ b o (hnd b o e) (hs₂ b o e)
  have hL₃:=nsK hL₂ e₃
  have pk:∀ b o,h₃.get? b=some o→(h₃.push { cls:=.type "list",data:=.seq #[] }).get? b=some o:=fun b o e=>Heap.get?_push_of_some _ e
  refine wpAny_execs_cons (plainObj_wpAny_Assign_Attribute (wpAny_List (Calls.spliced_nil ⟨by decide,wpAny_Name (wpAny_loadName_local hk ks (hL₃.push _) hx ?_) (by decide)⟩)))
  refine ins_store cl (s:={ s with heap:=h₃.push { cls:=.type "list",data:=.seq #[] },toks:=k₃ }) (fun b o e=>pk b o (hs₃ b o e)) ⟨pk _ _ I₃.at_,I₃.cls,I₃.nc,I₃.dict,I₃.ne,I₃.ns.at fun o e=>pk _ o e⟩ (Within.cons _ _ (Within.cons _ _ (Within.cons _ _ Within.nil))) (by decide) cl.pushback (lkB _ (.inr (.inl rfl))) t₃ fun h₄ k₄ t₄ z₄ I₄ e₄=>?_
  have hdlt:∀ {h:Heap} {mm},h.Ns1 dx mm→dx < h.objs.size:=fun ⟨o,_,_,e,_⟩=>Heap.lt_size e
  have sz:∀ {h h':Heap},(∀ b o,b≠dx→h.get? b=some o→h'.get? b=some o)→True:=fun _=>trivial
  refine wpAny_execs_nil ⟨rfl,h₄,k₄,_,_,_,_,rfl,t₄,I₄,(Within.cons _ _ (Within.cons _ _ (Within.cons _ _ (Within.cons _ _ Within.nil)))),if_pos rfl,(if_neg (by decide)).trans (if_pos rfl),(if_neg (by decide)).trans ((if_neg (by decide)).trans (if_pos rfl)),(if_neg (by decide)).trans ((if_neg (by decide)).trans ((if_neg (by decide)).trans (if_pos rfl))),?_,?_,?_,?_,?_,?_,fun b o hb e=>e₄ b o hb (pk b o (e₃ b o hb (e₂ b o hb (e₁ b o hb e))))⟩
  · rfl
  · rfl
  · rfl
  · refine ⟨_,e₄ _ _ (fun q=>?_) (Heap.get?_push_size _ rfl)⟩
    have:=hdlt I₃.ns
    rw [← q] at this
    exact Nat.lt_irrefl _ this
  · exact Nat.le_trans z₁ (Nat.le_trans z₂ z₃)
  · rw [show (Shared.heap { s with heap:=h₃.push { cls:=.type "list",data:=.seq #[] },toks:=k₃ }).objs.size=h₃.objs.size+1 from Heap.size_push ..] at z₄
    exact Nat.le_trans (Nat.le_trans z₁ (Nat.le_trans z₂ z₃)) (Nat.le_of_succ_le z₄)
end
noncomputable def ks65:List Str:=["text","at","_law_read_on","stream"]
theorem ok65:ScOk (fScope 65) ks65:=⟨by decide,by decide,rfl⟩
noncomputable def lamPos:Pos:=match (fBody 65)[(2:Nat)]? with
  | some (.Assign _ (.Lambda _ _ _ p) _)=>p
  | _=>default
noncomputable def q65L:Str:="_law_machine"++".<locals>."++"<lambda>"
noncomputable def qs65:List (Pos × Str):=[(lPos65,q65),(lamPos,q65L)]
section
variable {D:Wd}
structure Mk {D:Wd} (cl:Cls D) where
  fi:MFn cl "__init__" 0
  mks:∀ h,Ext D.h0 h→Makes (model D.prog D.w) h cl.C
  hi:∀ h,Ext D.h0 h→Looks (model D.prog D.w) h (typeLookup (.ref cl.C) "__init__") (some (.ref fi.a))
  hb:∀ h self,Ext D.h0 h→Looks (model D.prog D.w) h (bindSpecial (.ref fi.a) self) (.ref fi.a,[self])
theorem AOk.under {k:Nat} {A:Around} (h:AOk (k+1) A) {C:Addr} {vals:List Value}:AOk k (A.under (.builtin "type.__call__" ⟨.ref C :: vals,[]⟩)) :=
  ⟨h.hh,by have:=h.hu; show A.units+1+64+8 * k < _; omega,by have:=h.hd; show A.depth+1+k < _; omega⟩
theorem made {cl:Cls D} (Z:Mk cl) {A:Around} (hA:AOk 3 A) {s:Shared} {E:Value→Shared→Prop} {st:Addr} (hs:Ext D.h0 s.heap) (ht:1≤s.toks) (hst:∃ o,s.heap.get? st=some o) :
    wpAny (model D.prog D.w) A (call (.ref cl.C) [.ref st]) (fun r s'=>∃ dx h' tk mA pb t1 t3,r=.ref (dx+1)∧dx=s.heap.objs.size∧s'={ s with heap:=h',toks:=tk }∧1≤tk∧s.heap.objs.size≤h'.objs.size∧Ins cl (dx+1) dx (instObj cl.C dx) mA h'∧Within mA ["pushback","whitespace","instream","lineno"]∧mA "pushback"=some (.ref pb)∧mA "whitespace"=some (.str "\n\t\r " t3)∧mA "instream"=some (.ref st) ∧
      mA "lineno"=some (.int 1 t1)∧mA "_read_char"=none∧mA "get_token"=none∧mA "push_token"=none∧h'.PlainList pb #[]∧s.heap.objs.size≤pb∧∀ b o,s.heap.get? b=some o→h'.get? b=some o) E s:=by
  obtain ⟨h,g,d,t,os⟩:=s
  refine wpAny_call (make_core (Z.mks h hs) (Z.hi h hs) (fun self=>Z.hb h self hs) (.inl rfl) ?_)
  have e0:(h.push emptyDict).objs.size=h.objs.size+1:=Heap.size_push ..
  have kk:∀ b o,h.get? b=some o→((h.push emptyDict).push (instObj cl.C h.objs.size)).get? b=some o:=fun b o e=>Heap.get?_push_of_some _ (Heap.get?_push_of_some _ e)
  have hs':Ext D.h0 ((h.push emptyDict).push (instObj cl.C h.objs.size)):=fun b o e=>kk b o (hs b o e)
  have hx:((h.push emptyDict).push (instObj cl.C h.objs.size)).get? (h.objs.size+1)=some (instObj cl.C h.objs.size):=by rw [← e0]; exact Heap.get?_push_size _ rfl
  have hd:((h.push emptyDict).push (instObj cl.C h.objs.size)).get? h.objs.size=some emptyDict:=Heap.get?_push_of_some _ (Heap.get?_push_size _ rfl)
  have hA':=AOk.under (C:=cl.C) (vals:=[.ref st]) hA
  refine enter (s:=⟨(h.push emptyDict).push (instObj cl.C h.objs.size),g,d,t,os⟩) (binds:=[("self",.ref (h.objs.size+1)),("fp",.ref st)]) ht (by have:=hA'.hd; omega) (hs' _ _ Z.fi.ho) Z.fi.hd (D.lim.keeps hs') (Z.fi.hcd.keeps hs') rfl rfl rfl (fun y hy=>?_) (fun s₁ ht₁ hz₁ ic=>?_) rfl rfl rfl
  · simp only [List.mem_cons,List.not_mem_nil,or_false] at hy
    rcases hy with rfl | rfl
    · exact .inl (show iScope.names.lookup (Str.ofString "self")=some .local by decide)
    · exact .inl (show iScope.names.lookup (Str.ofString "fp")=some .local by decide)
  have hkeep:=ic.toInCall.keep
  have hL:=ic.toInCall.ns
  have fresh:h.objs.size+2≤(callEnvC (methDef "__init__" ("_netrclex."++"__init__") (mPart 0).2.2 (mPart 0).1 (mPart 0).2.1 Z.fi.pm Z.fi.cd Z.fi.doc) ((h.push emptyDict).push (instObj cl.C h.objs.size)).objs.size Z.fi.a).locals:=by
    have:=ic.toInCall.fresh
    rw [show ((h.push emptyDict).push (instObj cl.C h.objs.size)).objs.size=h.objs.size+2 by rw [Heap.size_push,e0]] at this ⊢
    exact this
  have hsame:=ic.toInCall.same
  refine wpAny_mono (initBody cl (s:=s₁) (x:=h.objs.size+1) (dx:=h.objs.size) (f:=st) (o:=instObj cl.C h.objs.size) (env:=callEnvC (methDef "__init__" ("_netrclex."++"__init__") (mPart 0).2.2 (mPart 0).1 (mPart 0).2.1 Z.fi.pm Z.fi.cd Z.fi.doc) ((h.push emptyDict).push (instObj cl.C h.objs.size)).objs.size Z.fi.a) rfl (fun b o e=>hkeep b o (hs' b o e)) hL ?_ ?_ ?_ (fun b o e q=>?_) ⟨hkeep _ _ hx,rfl,fun c q=>(nomatch q),rfl,Nat.succ_ne_self _,?_⟩) (fun fl s' q=>?_) fun _ _ q=>q
  · rfl
  · rfl
  · exact fun q=>Nat.lt_irrefl _ (Nat.lt_of_lt_of_le (Nat.lt_of_lt_of_le (Nat.lt_succ_of_lt (Nat.lt_succ_self _)) fresh) (Nat.le_of_eq q))
  · exact Nat.lt_irrefl _ (q ▸ Heap.lt_size (hs b o e))
  · exact Heap.Ns1.of_empty ⟨_,#[],0,hkeep _ _ hd,rfl,fun e he=>absurd he (by simp),fun _=>rfl⟩
  · have hx53_0:=q.1
    have hw53_1:=q.2
    try clear q
    subst hx53_0
    obtain ⟨h',tk,mA,pb,t1,t3,hy53_1⟩:=hw53_1
    have hx53_0:=hy53_1.1
    have htk:=hy53_1.2.1
    have I:=hy53_1.2.2.1
    have q1:=hy53_1.2.2.2.1
    have q2:=hy53_1.2.2.2.2.1
    have q3:=hy53_1.2.2.2.2.2.1
    have q4:=hy53_1.2.2.2.2.2.2.1
    have q5:=hy53_1.2.2.2.2.2.2.2.1
    have q6:=hy53_1.2.2.2.2.2.2.2.2.1
    have q7:=hy53_1.2.2.2.2.2.2.2.2.2.1
    have q8:=hy53_1.2.2.2.2.2.2.2.2.2.2.1
    have q9:=hy53_1.2.2.2.2.2.2.2.2.2.2.2.1
    have q10:=hy53_1.2.2.2.2.2.2.2.2.2.2.2.2.1
    have q11:=hy53_1.2.2.2.2.2.2.2.2.2.2.2.2.2.1
    have q12:=hy53_1.2.2.2.2.2.2.2.2.2.2.2.2.2.2
    clear hy53_1
    subst hx53_0
    obtain ⟨h₁,t₁,rfl⟩:=hsame
    have z1:h.objs.size+2≤h₁.objs.size:=by
      have:((h.push emptyDict).push (instObj cl.C h.objs.size)).objs.size=h.objs.size+2:=by rw [Heap.size_push,e0]
      rw [← this]; exact hz₁
    refine ⟨rfl,h.objs.size,h',tk,mA,pb,t1,t3,rfl,rfl,rfl,?_,?_,I,q1,q2,q3,q4,q5,q6,q7,q8,q9,?_,fun b o e=>q12 b o (fun q=>Nat.lt_irrefl _ (q ▸ Heap.lt_size e)) (hkeep b o (kk b o e))⟩
    · exact htk
    · exact Nat.le_trans (Nat.le_of_succ_le (Nat.le_of_succ_le z1)) q11
    · exact Nat.le_trans (Nat.le_of_succ_le (Nat.le_of_succ_le z1)) q10
theorem lamMade (N:Nst D) {X:Gw D} {c P:Addr} {qs:List (Pos × Str)} (T:HasTab X c P qs) {g:X.Γ} {env:Env} {params:Arguments} {b:Expr} {scope:Scope} {pos:Pos} {M:Model} {A:Around} {E:Value→Shared→Prop} {s:Shared} (hs:Ext D.h0 s.heap) (ht:1≤s.toks) (hg:X.G g s.heap)
    (hglob:env.globals=mainGlobals) (hcode:env.code=.ref c) (hfree:∀ x∈scope.names,x.2≠.free) (hq:(pos,env.qual++"<lambda>")∈qs) (hd:∀ y∈qs,y=(pos,env.qual++"<lambda>")∨y.1.line≠pos.line∨y.1.col≠pos.col) :
    wpAny M A (makeFunction "<lambda>" (env.qual++"<lambda>") params (.expr b) scope env [] [] [] pos pos.line) (fun r s'=>∃ f fd,r=.ref f∧s'.heap.get? f=some { cls:=.type "function",data:=.func fd }∧fd.name="<lambda>"∧s.heap.objs.size≤f∧X.G g s'.heap∧Mg [P] s s') E s:=by
  obtain ⟨ps,hy65_1⟩:=T.tab g _ hg
  have hp:=hy65_1.1
  have htr:=hy65_1.2.1
  have hqq:=hy65_1.2.2
  clear hy65_1
  have hns:=N.ns.keeps hs
  have hba:s.heap.BuiltinsAt N.mg P:=⟨N.bm,N.ob,N.e1,N.ne0,N.ne1,T.out _ _ N.get,hs _ _ N.get,N.cls,N.dict,N.data⟩
  have hgP:mainGlobals≠P:=let ⟨o,_,_,e,_⟩:=N.ns; T.out _ _ e
  have hcl:=closureFor_none (env:=env) hfree
  rcases hqq _ hq with hn | ⟨c',hf,hrec⟩
  · refine wpAny_grow (E:=E) (Q:=fun r s'=>∃ c' ctv h' tk,Heap.ExtBut P s.heap h'∧s.heap.objs.size≤c'∧c' < h'.objs.size∧h'.CodeRec (.ref c') (env.qual++"<lambda>")∧h'.get? P=some (tabObj (ps++#[rawInt pos.line,rawInt pos.col,.ref c'])) ∧
        r=.ref h'.objs.size∧s'={ s with heap:=h'.push (kla_obj "<lambda>" (env.qual++"<lambda>") params b scope [] ((N.mg "__name__").getD .none) c' ctv),toks:=tk }) ht
      (kla_makeFunction hcl hglob hns hcode (T.C.keeps hs) hp htr hn hgP hba fun c' ctv h' tk q1 q2 q3 q4 q5=>⟨c',ctv,h',tk,q1,q2,q3,q4,q5,rfl,rfl⟩) fun r s' ht' hz' q=>?_
    obtain ⟨c',ctv,h',tk,hy74_1⟩:=q
    have q1:=hy74_1.1
    have q2:=hy74_1.2.1
    have q3:=hy74_1.2.2.1
    have q4:=hy74_1.2.2.2.1
    have q5:=hy74_1.2.2.2.2.1
    have hx74_0:=hy74_1.2.2.2.2.2.1
    have hx74_1:=hy74_1.2.2.2.2.2.2
    clear hy74_1
    subst hx74_0
    subst hx74_1
    have tb:=TabOk.snoc htr hqq hp hn q1 q4 q5 hd
    refine ⟨_,_,rfl,Heap.get?_push_size _ rfl,rfl,Nat.le_trans q2 (Nat.le_of_lt q3),T.back g _ _ hg (tb.move T.qs fun b o _ e=>Heap.get?_push_of_some _ e) ⟨ps,_,hp,Heap.get?_push_of_some _ q5⟩ fun b o hb e=>Heap.get?_push_of_some _ (q1 b o (fun z=>?_) e),⟨_,_,rfl⟩,ht',hz',fun b o hb e=>Heap.get?_push_of_some _ (q1 b o (fun z=>hb (List.mem_singleton.mpr z)) e)⟩
    rcases hb with hb | hb
    · exact hb.2 z
    · rw [z,hp] at e; cases e; obtain ⟨_,_,_,e,e2,_⟩:=hb; cases e; exact triples_first htr e2
  · refine wpAny_grow (E:=E) (Q:=fun r s'=>∃ (ctv:Value) (h':Heap) (tk:Tok),(∀ b o,s.heap.get? b=some o→h'.get? b=some o)∧s.heap.objs.size≤h'.objs.size ∧
        r=.ref h'.objs.size∧s'={ s with heap:=h'.push { cls:=.type "function",data:=.func (kla_fn "<lambda>" (env.qual++"<lambda>") params b scope [] ((N.mg "__name__").getD .none) (.ref c') ctv) },toks:=tk }) ht
      (kla_makeFunctionHit hcl hglob hns hcode (T.C.keeps hs) hp htr hf hba fun ctv h' tk q1 q2=>⟨ctv,h',tk,q1,q2,rfl,rfl⟩) fun r s' ht' hz' q=>?_
    obtain ⟨ctv,h',tk,hy83_1⟩:=q
    have q1:=hy83_1.1
    have q2:=hy83_1.2.1
    have hx83_0:=hy83_1.2.2.1
    have hx83_1:=hy83_1.2.2.2
    clear hy83_1
    subst hx83_0
    subst hx83_1
    exact ⟨_,_,rfl,Heap.get?_push_size _ rfl,rfl,q2,X.Gok _ _ _ hg fun b o _ e=>Heap.get?_push_of_some _ (q1 b o e),⟨_,_,rfl⟩,ht',hz',fun b o _ e=>Heap.get?_push_of_some _ (q1 b o e)⟩
noncomputable def Post65 (cl:Cls D) (X:Gw D) (g:X.Γ) (text:Str) (s:Shared) (r:Value) (s':Shared):Prop:=∃ m:MAd,r=.ref m.x∧MachAt cl m text ⟨0,1,[]⟩ s'.heap∧X.G g s'.heap∧(∀ b∈m.l,s.heap.objs.size≤b)∧Mg X.l s s'∧∃ clos doc pm cv ctv,m.fd=fnX "_law_read_on" q65 lArgs65 lBody65 lScope65 clos .none .none doc pm none cv ctv
theorem call65 {cl:Cls D} (Z:Mk cl) (N:Nst D) (f:FnAt D "_law_machine" 65) {X:Gw D} {c P:Addr} (T:HasTab X c P qs65) (hcd:f.cd=.ref c) (gC:D.gl "_netrclex"=some (.ref cl.C)) (g:X.Γ) {A:Around} (hA:AOk 6 A) {s:Shared} {E:Value→Shared→Prop} {text:Str} {t:Tok} (hs:Ext D.h0 s.heap) (ht:1≤s.toks) (hg:X.G g s.heap) :
    wpAny (model D.prog D.w) A (call (.ref f.a) [.str text t]) (Post65 cl X g text s) E s:=by
  refine wpAny_call (codeAny_mono (D.codeE X hA (K:=fun _=>True) (ks:=ks65) (vs:=[.str text]) (μ:=0) (g:=g) 3 (Post:=Post65 cl X g text s)
    (hs _ _ f.ho) f.hd (f.hcd.keeps hs) rfl rfl rfl rfl ok65 (by show 1≤4; decide) (len1 fun _=>rfl) ?_ rfl rfl [.str text t] hs ht hg trivial fun h' _=>.cons (.t _ _) .nil) fun x s' q=>by obtain ⟨r,rfl,z⟩:=q; exact z)
  intro σ _ hμ hc hq hS0 s₁ E h0 hz1 hk1 hsame fr
  refine wpAny_hide fun QQ E hQQ=>?_
  have hc:=hc.trans hcd
  have hext:∀ {ρ W s},Fr1 (σ.fxg (fScope 65) ks65 ok65 X) ρ g W s→Ext D.h0 s.heap:=fun fr=>(Site.extG _ fr).1
  have hqe:qualnameIn (σ.fxg (fScope 65) ks65 ok65 X).env (Str.ofString "_law_read_on") (Str.ofString "_law_read_on")=q65:=by
    show (if _ then _ else σ.qual++_)=_
    rw [hq]; rfl
  have r1:Run1 (σ.fxg (fScope 65) ks65 ok65 X) _ [.val (.str text),.non,.non,.non] g [.val (.str text),.own [.int 0],.non,.non] g:=Run1.asgO (i:=1) (vs:=[.int 0]) (px:=⟨199,4,199,6⟩) (pos:=⟨199,4,199,12⟩) (p:=⟨199,9,199,12⟩) (fun W=>.cons (.int (k:=0) (pos:=⟨199,10,199,11⟩)) .nil) rfl rfl rfl
  refine r1.andThen fr fun W₂ s₂ fr₂ mv₂=>?_
  have r2:Run1 (σ.fxg (fScope 65) ks65 ok65 X) ((fBody 65).getD 1 (.Pass ⟨0,0,0,0⟩)) [.val (.str text),.own [.int 0],.non,.non] g [.val (.str text),.own [.int 0],.adr (Made "_law_read_on" q65 lArgs65 lBody65 lScope65 (σ.fxg (fScope 65) ks65 ok65 X).env.cells (σ.fxg (fScope 65) ks65 ok65 X).S0.heap.objs.size),.non] g:=by
    rw [← hqe]
    apply Run1.defN (F:=σ.fxg (fScope 65) ks65 ok65 X) N (i:=2) (c:=c) (P:=P) (qs:=qs65)
    · rfl
    · exact fun W s fr=>hext fr
    · rfl
    · exact hc
    · exact T.C
    · exact T.mem
    · exact T.out
    · exact T.tab g
    · rw [hqe]; exact .head _
    · rw [hqe]; intro y hy
      simp only [qs65,List.mem_cons,List.not_mem_nil,or_false] at hy
      rcases hy with rfl | rfl
      · exact .inl rfl
      · exact .inr (.inl (by decide))
    · exact T.qs
    · exact T.back g
    · exact Site.free (σ:=σ) (sc:=fScope 65) (by decide)
    · exact T.live g
  refine r2.andThen fr₂ fun W₃ s₃ fr₃ mv₃=>?_
  have hx₃:=hext fr₃
  refine consK fun K hK _=>(wpAny_Assign_Name (kla_eval rfl (wpAny_mono (lamMade N T (g:=g) hx₃ fr₃.tk fr₃.gh rfl hc (by decide) ?_ ?_) (fun r s₄ q=>?_) fun _ _ q=>q)) rfl)
  · show (lamPos,σ.qual++_)∈qs65
    rw [hq]; exact .tail _ (.head _)
  · show ∀ y∈qs65,y=(lamPos,σ.qual++_)∨_
    rw [hq]
    intro y hy
    simp only [qs65,List.mem_cons,List.not_mem_nil,or_false] at hy
    rcases hy with rfl | rfl
    · exact .inr (.inl (by decide))
    · exact .inl rfl
  obtain ⟨st,fdS,hy132_1⟩:=q
  have hx132_0:=hy132_1.1
  have hst:=hy132_1.2.1
  have hnm:=hy132_1.2.2.1
  have hstz:=hy132_1.2.2.2.1
  have hG₄:=hy132_1.2.2.2.2.1
  have mg₄:=hy132_1.2.2.2.2.2
  clear hy132_1
  subst hx132_0
  have fr₄:=fr₃.gmove mg₄.same mg₄.tk (fun b o hb e=>mg₄.kept b o (fun q=>hb (by rw [List.mem_singleton.mp q]; exact T.mem)) e) hG₄ fun b hb=>X.live _ _ hG₄ b hb
  refine wpAny_mono (fr₄.storeIs (i:=3) (x:="stream") (Φ:=fun r _=>r=.ref st) rfl fun _ _=>rfl) (fun _ s₅ q=>?_) fun _ _ q=>q
  have fr₅:=q.1
  have mv₅:=q.2
  try clear q
  have hx₅:=hext fr₅
  have hG₅:X.G g s₅.heap:=fr₅.gh
  have bigX:∀ b∈X.l,b < s.heap.objs.size:=fun b hb=>let ⟨o,e⟩:=X.live g _ hg b hb; Heap.lt_size e
  have stW:¬ W₃ st:=fun q=>Nat.lt_irrefl _ (Nat.lt_of_lt_of_le (fr₃.lt _ q) hstz)
  have hst₅:=mv₅.kept st _ stW hst
  have htk:=fr₅.tk
  have K05:∀ b o,b ∉ X.l→s.heap.get? b=some o→s₅.heap.get? b=some o:=fun b o hb e=>by
    have hlt:=Heap.lt_size e
    have n1:¬ ((σ.fxg (fScope 65) ks65 ok65 X).W0 b∨(σ.fxg (fScope 65) ks65 ok65 X).Wg b):=fun q=>q.elim (fun q=>Nat.lt_irrefl _ (Nat.lt_of_lt_of_le hlt (h0 b q))) hb
    have n2:¬ W₂ b:=fun q=>(mv₂.more b q).elim n1 fun z=>Nat.lt_irrefl _ (Nat.lt_of_lt_of_le hlt (Nat.le_trans hz1 z))
    have n3:¬ W₃ b:=fun q=>(mv₃.more b q).elim n2 fun z=>Nat.lt_irrefl _ (Nat.lt_of_lt_of_le hlt (Nat.le_trans hz1 (Nat.le_trans mv₂.size z)))
    exact mv₅.kept b o n3 (mg₄.kept b o (fun q=>hb (by rw [List.mem_singleton.mp q]; exact T.mem)) (mv₃.kept b o n2 (mv₂.kept b o n1 (hk1 b o e))))
  have sz3:s.heap.objs.size≤s₃.heap.objs.size:=Nat.le_trans hz1 (Nat.le_trans mv₂.size mv₃.size)
  have sz5:s.heap.objs.size≤s₅.heap.objs.size:=Nat.le_trans sz3 (Nat.le_trans mg₄.size mv₅.size)
  have hsame5:∃ h tk,s₅={ s with heap:=h,toks:=tk }:=by
    obtain ⟨_,_,e1⟩:=hsame
    obtain ⟨h5,t5,e5⟩:=fr.same fr₅
    exact ⟨h5,t5,by rw [e5,e1]⟩
  obtain ⟨m,cm,α,y⟩:=fr₅
  obtain ⟨rt,hy156_1⟩:=y.slot 0 "text" _ rfl rfl
  have hat:=hy156_1.1
  have hrt:=hy156_1.2
  clear hy156_1
  have hz157:=y.slot 1 "at" _ rfl rfl
  have hao:=hz157.1
  have hWa:=hz157.2.1
  have hx157_0:=hz157.2.2.1
  have hw157_1:=hz157.2.2.2
  clear hz157
  obtain ⟨hag,haS⟩:=hx157_0
  obtain ⟨rsA,hy157_1⟩:=hw157_1
  have hpA:=hy157_1.1
  have hvA:=hy157_1.2
  clear hy157_1
  obtain ⟨rr,hy158_1⟩:=y.slot 2 "_law_read_on" _ rfl rfl
  have har:=hy158_1.1
  have hrr:=hy158_1.2
  clear hy158_1
  obtain ⟨rs',hy159_1⟩:=y.slot 3 "stream" _ rfl rfl
  have has:=hy159_1.1
  have hrs':=hy159_1.2
  clear hy159_1
  have ers:rs'=.ref st:=hrs' s₅.heap fun _ _ _ _ e=>e
  subst ers
  obtain ⟨rf,clos,doc,pm,cv,ctv,hy162_1⟩:=hrr s₅.heap fun _ _ _ _ e=>e
  have hx162_0:=hy162_1.1
  have hNf:=hy162_1.2.1
  have hrf:=hy162_1.2.2.1
  have hcdr:=hy162_1.2.2.2.1
  have hcl:=hy162_1.2.2.2.2
  clear hy162_1
  subst hx162_0
  have kc:∀ {y},(fScope 65).names.lookup y=some .cell→(σ.fxg (fScope 65) ks65 ok65 X).env.kindOf y=some .cell:=fun h=>h
  have kl:∀ {y},(fScope 65).names.lookup y=some .local→(σ.fxg (fScope 65) ks65 ok65 X).env.kindOf y=some .local:=fun h=>h
  obtain ⟨ct,hy165_1⟩:=y.cell (kc (by decide)) hat
  have hct1:=hy165_1.1
  have hct2:=hy165_1.2
  clear hy165_1
  obtain ⟨ca,hy166_1⟩:=y.cell (kc (by decide)) hao
  have hca1:=hy166_1.1
  have hca2:=hy166_1.2
  clear hy166_1
  obtain ⟨tt,rfl⟩:∃ t,rt=.str text t:=by have:=hrt.rel; unfold VRel at this; exact this
  have hns:=y.ic.toInCall.ns
  have mloc:∀ {x:Str} {r:Value},(fScope 65).names.lookup x=some .local→At (σ.fxg (fScope 65) ks65 ok65 X).env m cm x r→m x=some r:=fun hl h=>by
    rcases h with ⟨_,q⟩ | ⟨q,_⟩
    · exact q
    · rw [kl hl] at q; cases q
  have mr:=mloc (by decide) har
  have ms:=mloc (by decide) has
  have bigAt:s.heap.objs.size≤α 1:=by
    rcases mv₃.more _ hWa with q | q
    · rcases mv₂.more _ q with q | q
      · rcases q with q | q
        · exact h0 _ q
        · exact absurd q hag
      · exact Nat.le_trans hz1 q
    · exact Nat.le_trans (Nat.le_trans hz1 mv₂.size) q
  have bigC:∀ {n:Str} {a:Addr},(σ.fxg (fScope 65) ks65 ok65 X).env.cells.lookup n=some a→s.heap.objs.size≤a:=fun q=>h0 _ (.inr ⟨_,q⟩)
  have bigR:s.heap.objs.size≤rf:=by
    refine Nat.le_trans (Nat.le_of_eq ?_) hNf
    show s.heap.objs.size=(hideAll σ.S0.heap X.l).objs.size
    rw [hideAll_size,hS0]
  generalize hat_:α 1=at_ at *
  refine hK _ ?_
  refine consK fun K hK _=>(plainObj_wpAny_Assign_Attribute (wpAny_Name (wpAny_loadName_local (ok65.hk) (kl (by decide)) hns mr (wpAny_Name (wpAny_loadName_local (ok65.hk) (kl (by decide)) hns ms ?_) (by decide))) (by decide)))
  refine wpAny_grow (Q:=fun _ s₆=>∃ h₆ tk₆,s₆={ s₅ with heap:=h₆,toks:=tk₆ }∧h₆.get? st=some { cls:=.type "function",dict:=some s₅.heap.objs.size,data:=.func fdS }∧h₆.Ns s₅.heap.objs.size (fun y=>if y="read" then some (.ref rf) else none)∧∀ b o,b≠st→s₅.heap.get? b=some o→h₆.get? b=some o) htk ?_ fun _ s₆ ht₆ hz₆ q=>?_
  · obtain ⟨h5,g5,d5,t5,os5⟩:=s₅
    exact fn_setattr hst₅ fun h' tk' q1 q2 q3 q4=>⟨h',tk',rfl,q1,q2,q3⟩
  obtain ⟨h₆,tk₆,hy194_1⟩:=q
  have hx194_0:=hy194_1.1
  have hst6:=hy194_1.2.1
  have hsd6:=hy194_1.2.2.1
  have k6:=hy194_1.2.2.2
  clear hy194_1
  subst hx194_0
  have nst:∀ {b o},s₅.heap.get? b=some o→o≠{ cls:=.type "function",data:=.func fdS }→b≠st:=fun e hne q=>by rw [q,hst₅] at e; cases e; exact hne rfl
  have stz:s.heap.objs.size≤st:=Nat.le_trans sz3 hstz
  have oldne:∀ {b o},s.heap.get? b=some o→b≠st:=fun e q=>Nat.lt_irrefl _ (Nat.lt_of_lt_of_le (q ▸ Heap.lt_size e) stz)
  have hx6:Ext D.h0 h₆:=fun b o e=>k6 b o (oldne (hs b o e)) (hx₅ b o e)
  have nL:(σ.fxg (fScope 65) ks65 ok65 X).env.locals≠st:=by
    obtain ⟨o',es,ep,hy200_1⟩:=hns
    have e':=hy200_1.1
    have d':=hy200_1.2.1
    clear hy200_1
    intro q
    rw [q,hst₅] at e'; cases e'; cases d'
  have hns6:=hns.at' fun o e=>k6 _ o nL e
  refine hK _ ?_
  have hG6:X.G g h₆:=X.Gok _ _ _ hG₅ fun b o hb e=>k6 b o (fun q=>by
    rcases hb with hb | hb
    · exact Nat.lt_irrefl _ (Nat.lt_of_lt_of_le (q ▸ bigX b hb) stz)
    · rw [q,hst₅] at e; cases e; obtain ⟨_,_,_,e,_⟩:=hb; cases e) e
  refine consK fun K _ hK=>(wpAny_Return_some (wpAny_Call_NameR (Calls.Name_function_global ok65.hk (by show (fScope 65).names.lookup _=_; decide) (D.glob σ.A (σ.env (fScope 65)) _ rfl rfl hx6 _ _ gC _ _ ?_) (by decide))))
  refine callWith_cls cl.at_ (wpAny_items_cons (wpAny_Name (wpAny_loadName_local ok65.hk (kl (by decide)) hns6 ms (Calls.spliced_nil ⟨hx6,?_⟩)) (by decide)) rfl)
  refine wpAny_mono (made Z (A:=σ.A) (σ.hA.le (by omega)) hx6 ht₆ ⟨_,hst6⟩) (fun r s₇ q=>?_) fun _ _ q=>q
  obtain ⟨dx,h₇,tk₇,mA,pb,t1,t3,hy212_1⟩:=q
  have hx212_0:=hy212_1.1
  have hdx:=hy212_1.2.1
  have hx212_1:=hy212_1.2.2.1
  have ht7:=hy212_1.2.2.2.1
  have hz7:=hy212_1.2.2.2.2.1
  have I:=hy212_1.2.2.2.2.2.1
  have q1:=hy212_1.2.2.2.2.2.2.1
  have q2:=hy212_1.2.2.2.2.2.2.2.1
  have q3:=hy212_1.2.2.2.2.2.2.2.2.1
  have q4:=hy212_1.2.2.2.2.2.2.2.2.2.1
  have q5:=hy212_1.2.2.2.2.2.2.2.2.2.2.1
  have q6:=hy212_1.2.2.2.2.2.2.2.2.2.2.2.1
  have q7:=hy212_1.2.2.2.2.2.2.2.2.2.2.2.2.1
  have q8:=hy212_1.2.2.2.2.2.2.2.2.2.2.2.2.2.1
  have q9:=hy212_1.2.2.2.2.2.2.2.2.2.2.2.2.2.2.1
  have q10:=hy212_1.2.2.2.2.2.2.2.2.2.2.2.2.2.2.2.1
  have k7:=hy212_1.2.2.2.2.2.2.2.2.2.2.2.2.2.2.2.2
  clear hy212_1
  subst hx212_0
  subst hx212_1
  have hdx:dx=h₆.objs.size:=hdx
  have hrfst:rf≠st:=nst hrf fun e=>by
    have e1:=congrArg Obj.data e
    have e2:fnX "_law_read_on" q65 lArgs65 lBody65 lScope65 clos .none .none doc pm none cv ctv=fdS:=Data.func.inj e1
    rw [← e2] at hnm
    exact absurd hnm (show (Str.ofString "_law_read_on")≠Str.ofString "<lambda>" by decide)
  have hz6:s₅.heap.objs.size≤h₆.objs.size:=hz₆
  have hz56:s₅.heap.objs.size < h₆.objs.size:=by obtain ⟨o',_,_,e',_⟩:=hsd6; exact Heap.lt_size e'
  have k67:∀ b o,b≠st→s₅.heap.get? b=some o→h₇.get? b=some o:=fun b o hb e=>k7 b o (k6 b o hb e)
  have cst:∀ {c v},s₅.heap.IsCell c v→c≠st:=fun ⟨o',e',d'⟩ q=>by rw [q,hst₅] at e'; cases e'; cases d'
  have hpA':s₅.heap.PlainList at_ rsA.toArray:=hpA
  have atst:at_≠st:=by obtain ⟨n,e'⟩:=hpA'; exact fun q=>by rw [q,hst₅] at e'; have h2:=congrArg Obj.data (Option.some.inj e'); cases h2
  have hG7:X.G g h₇:=X.Gok _ _ _ hG6 fun b o _ e=>k7 b o e
  refine hK _ _ (hQQ (.ret _) _ ⟨⟨dx+1,dx,st,s₅.heap.objs.size,rf,ct,ca,at_,pb,instObj cl.C dx,fdS,#[],(fun y=>if y="read" then some (.ref rf) else none),fnX "_law_read_on" q65 lArgs65 lBody65 lScope65 clos .none .none doc pm none cv ctv⟩,rfl,?_,hG7,?_,?_,clos,doc,pm,cv,ctv,rfl⟩)
  · refine ⟨I.at_,rfl,fun c q=>(nomatch q),fun c q=>(nomatch q),fun c n q=>(nomatch q),fun c n q=>(nomatch q),rfl,⟨mA,I.ns,q1,q2,⟨t3,q3⟩,q4,⟨t1,q5⟩,q6,q7,q8⟩,k7 _ _ hst6,hsd6.keeps k7,(show (if (Str.ofString "read")=Str.ofString "read" then some (Value.ref rf) else none)=some (.ref rf) from if_pos rfl),k67 _ _ hrfst hrf,CodeRec.cod hcdr (show q65≠Str.ofString "" by decide) fun b o hb e=>k67 b o (fun q=>by rw [q,hst₅] at e; cases e; obtain ⟨_,_,_,e,_⟩:=hb; cases e) e,
      ⟨(hcl _ (by decide)).trans hct1,tt,IsCell.at' hct2 fun o e=>k67 _ o (cst hct2) e⟩,⟨(hcl _ (by decide)).trans hca1,IsCell.at' hca2 fun o e=>k67 _ o (cst hca2) e⟩,⟨rsA,hpA'.at fun o e=>k67 _ o atst e,VRels.ints (ds:=[0]) hvA.rel⟩,⟨[],rfl,q9⟩,⟨?_,?_,I.ne⟩,(show q65≠Str.ofString "" by decide)⟩
    · show dx≠s₅.heap.objs.size
      rw [hdx]; exact fun q=>Nat.lt_irrefl _ (Nat.lt_of_lt_of_le hz56 (Nat.le_of_eq q))
    · show at_≠pb
      obtain ⟨n,e'⟩:=hpA'
      exact fun q=>Nat.lt_irrefl _ (Nat.lt_of_lt_of_le (Nat.lt_of_lt_of_le (Heap.lt_size e') hz6) (Nat.le_trans q10 (Nat.le_of_eq q.symm)))
  · intro b hb
    have hdz:s.heap.objs.size≤dx:=by rw [hdx]; exact Nat.le_trans sz5 hz6
    simp only [MAd.l,List.mem_cons,List.not_mem_nil,or_false] at hb
    rcases hb with rfl | rfl | rfl | rfl | rfl | rfl | rfl | rfl | rfl
    · exact Nat.le_succ_of_le hdz
    · exact hdz
    · exact stz
    · exact sz5
    · exact bigR
    · exact bigC hct1
    · exact bigC hca1
    · exact bigAt
    · exact Nat.le_trans (Nat.le_trans sz5 hz6) q10
  · obtain ⟨h5,t5,e5⟩:=hsame5
    exact ⟨⟨h₇,tk₇,by rw [e5]⟩,ht7,Nat.le_trans sz5 (Nat.le_trans hz6 hz7),fun b o hb e=>k67 b o (oldne e) (K05 b o hb e)⟩
end
section
open Builtin Builtin.Str
noncomputable def menuText:PySem.Str:="< << <= <<= * ** *= **= / // /= //= > >> >= >>="
theorem menu_split:partsBetween menuText (occurrences menuText " " 0 menuText.length (menuText.length+1)) (PySem.Str.ofString " ").length=menu:=by decide +kernel
theorem menu_1:(decide (menuText.length < (PySem.Str.ofString " ").length) || decide (strKind menuText < strKind (PySem.Str.ofString " ")))=false:=by decide +kernel
theorem menu_2:(occurrences menuText " " 0 menuText.length (menuText.length+1)).isEmpty=false:=by decide +kernel
theorem menu_3:menuText.length=47:=by decide +kernel
theorem DoesF.split {c:Cx} {k k':Nat} {p p' apos pos:Pos}
    (hline:(apos.endLine == pos.line)=true):DoesF c (.Call (.Attribute (.Constant (.str menuText) k p) (PySem.Str.ofString "split") apos) [.Constant (.str (PySem.Str.ofString " ")) k' p'] [] pos) (.list (menu.map .str)):=fun s E hs=>by
  refine wpAny_Call_method_lateS rfl rfl hline (run_on hs (Does.str s E hs) fun r s₁ x h₁ k₁=>?_)
  unfold VRel at x
  obtain ⟨t,rfl⟩:=x
  have hp:(backTo pos (starEach [.Constant (.str (PySem.Str.ofString " ")) k' p'] c.env)).any (·.1)=false:=rfl
  have he:starEach [.Constant (.str (PySem.Str.ofString " ")) k' p'] c.env=(false,eval (.Constant (.str (PySem.Str.ofString " ")) k' p') c.env) :: starEach [] c.env:=rfl
  refine ⟨"str",_,F.plainAttrs_str,F.slot_str_split,F.type_str_split,typeIs_str _ _ _,(fun _ e=>nomatch e),Calls.callWith_builtin hp (args_any (wpAny_items_cons (run_on h₁ (Does.str s₁ E h₁) fun r s₂ y h₂ k₂=>?_) he) he)⟩
  unfold VRel at y
  obtain ⟨u,rfl⟩:=y
  have kk:=k₁.trans k₂
  refine Calls.spliced_nil (call_meets F.slot_str_split (typeIs_str _ _ _) F.entry_str_split (F.args_str_split_2 _ _) (meets_str_split_sep menuText (PySem.Str.ofString " ") t u menu_1 rfl menu_2 (by rw [menu_3,sizeLine_eq]; decide) (by rw [menu_split,sizeLine_eq]; decide)) ?_)
  rw [menu_split,strsFrom_eq]
  have hn:(numbered s₂.toks menu).map (·.1)=menu:=numbered_texts _ _
  have hv:∀ h,VRels c.μ h (menu.map .str) (strValues (numbered s₂.toks menu)):=fun h=>by have:=of_strs (μ:=c.μ) (h:=h) (l:=numbered s₂.toks menu); rw [hn] at this; exact this
  refine ⟨⟨?_,fun h' k'=>?_⟩,kk.trans ⟨⟨_,_,rfl,fun b o e=>Heap.get?_push_of_some _ e⟩,?_,?_⟩⟩
  · unfold VRel; exact ⟨_,_,rfl,⟨_,Heap.get?_push_size _ rfl⟩,hv _⟩
  · unfold VRel; exact ⟨_,_,rfl,⟨_,k' _ _ (.inl ⟨_,_,rfl⟩) kk.2.2 (Heap.get?_push_size _ rfl)⟩,hv _⟩
  · exact Nat.le_add_right_of_le kk.2.1
  · rw [Heap.size_push]; exact Nat.le_succ _
end
theorem VarAt.comp {env:Env} {h:Heap} {y:Str} {r:Value} {scope:Scope} {cl:List (Str × Addr)} {C:Addr} (hv:VarAt env h y r) (hke:env.scope.kind=.function) (hcl:cl.lookup y=env.cells.lookup y) (hl:scope.names.lookup y=some .free) (hno:env.kindOf y≠some .local) :
    VarAt (compEnvC scope cl C env) h y r:=by
  have e:=lookup_relabel_free (env:=env) hke hl
  rcases hv with ⟨hl',_⟩ | ⟨hl',a,ha,hc⟩
  · exact absurd hl' hno
  · refine .inr ⟨?_,a,hcl.trans ha,hc⟩
    rcases hl' with hl' | ⟨hl',hn⟩
    · rw [if_pos hl'] at e; exact .inl e
    · rw [if_neg (by rw [hl']; decide)] at e; exact .inr ⟨e,hn⟩
noncomputable def ks67:List Str:=["numbers","others"]
theorem ok67:ScOk (fScope 67) ks67:=⟨by decide,by decide,rfl⟩
noncomputable def popAt (g:List Str) (n:Int):Nat:=(n.fmod g.length).toNat
noncomputable def worksGo:List Str→List Int→List Str
  | _,[]=>[]
  | g,n :: r=>g.getD (popAt g n) "" :: worksGo (g.eraseIdx (popAt g n)) r
noncomputable def restGo:List Str→List Int→List Str
  | g,[]=>g
  | g,n :: r=>restGo (g.eraseIdx (popAt g n)) r
noncomputable def worksF (g:List Str) (v:V):Option (V × List Str):=match v with
  | .int n=>if g=[]∨4096≤g.length then none else some (.str (g.getD (popAt g n) ""),g.eraseIdx (popAt g n))
  | _=>none
theorem worksGoS:∀ (ns:List Int) (g:List Str),ns.length < g.length→g.length < 4096→compGoS (fun _ _=>some true) worksF g (ns.map .int)=some ((worksGo g ns).map .str,restGo g ns)
  | [],g,_,_=>rfl
  | n :: r,g,h,h'=>by
    have hne:¬ (g=[]∨4096≤g.length):=by
      rintro (q | q)
      · subst q; simp at h
      · omega
    have hlt:popAt g n < g.length:=by
      unfold popAt
      have:0 < (g.length:Int):=by simp at h; omega
      have h1:=Int.fmod_nonneg_of_pos n this
      have h2:=Int.fmod_lt_of_pos n this
      omega
    have hl:(g.eraseIdx (popAt g n)).length=g.length - 1:=List.length_eraseIdx_of_lt hlt
    rw [List.map_cons]
    have e:worksF g (.int n)=some (.str (g.getD (popAt g n) ""),g.eraseIdx (popAt g n)):=if_neg hne
    unfold compGoS
    simp only [e]
    rw [worksGoS r (g.eraseIdx (popAt g n)) (by rw [hl]; simp at h; omega) (by omega)]
    rfl
noncomputable def StrsAt (a:Addr) (g:List Str) (h:Heap):Prop:=∃ l:List (Str × Tok),l.map (·.1)=g∧h.PlainList a (strValues l).toArray
theorem listComp_my2 {prog:Program} {w:World} {A:Around} {E:Value→Shared→Prop} {s:Shared} {μ:Addr} {env:Env} {G:Type} {elt target iter:Expr} {ifs:List Expr} {scope:Scope} {pos ipos:Pos} {xs:List V} {src:V}
    {X:Addr→Prop} {J:G→Heap→Prop} {p:G→V→Option Bool} {f:G→V→Option (V × G)} {g₀ g₁:G} {ys:List V} {Q:Value→Shared→Prop} {use:Option (Value→Sem Unit)}
    (hh:A.handled=none) (ht:1≤s.toks) (hsrc:itemsV src=some xs) (go:(∃ nm q,target=.Name nm q)∨src.isList=true)
    (hgo:compGoS p f g₀ xs=some (ys,g₁)) (hfree:∀ y∈scope.names,y.2=.free→(env.cells.lookup y.1).isSome=true)
    (hcell:∀ y∈scope.names,y.2≠.cell) (hkind:scope.kind=.function) (hnames:∀ y∈scope.names,y.2=.local→scope.names.lookup y.1=some .local)
    (hiter:wpAny (model prog w) A (eval iter env) (fun r s₁=>VRel μ s₁.heap src r∧Keeps s s₁∧∀ a,r=.ref a→¬ X a) E s)
    (low:∀ g h,J g h→∀ b,X b→b < h.objs.size) (hJ:J g₀ s.heap)
    (stable:∀ g h h',J g h→(∀ b o,X b→h.get? b=some o→h'.get? b=some o)→((src.isList=true∨∃ i,V.int i∈xs)→∀ b o,codish o→h.get? b=some o→h'.get? b=some o)→J g h')
    (body:∀ cl,(∀ y,scope.names.lookup y=some .free→cl.lookup y=env.cells.lookup y)→∀ s₁ C I D s₃,Keeps s s₁→Keeps s₁ s₃→s₁.heap.objs.size≤C→s₁.heap.objs.size≤I→s₁.heap.objs.size≤D→C < s₃.heap.objs.size→D < s₃.heap.objs.size→CompBody G prog w A μ s₁.heap s₃ I D X J p f target elt ifs (compEnvC scope cl C env) xs)
    (hQ:∀ s₁ D C h' tk m' rs,1≤tk→s.heap.objs.size≤s₁.heap.objs.size→Keeps s s₁→s₁.heap.objs.size≤D→s₁.heap.objs.size≤C→D≠C→h'.Ns C m'→h'.PlainList D (List.toArray rs)→(∃ N,C < N∧EltsOk μ N h' ys rs)→J g₁ h'→(∀ b o,¬ X b→s₁.heap.get? b=some o→h'.get? b=some o) →
      compPost (model prog w) A E use Q (.ref D) C (.ok .next) { s₁ with heap:=h',toks:=tk })
    (hs:∀ x,foldedSetIterable iter env x=pure x:=by intro _; rfl) :
    wpAny (model prog w) A (comprehension (.ListComp elt [⟨target,iter,ifs,0⟩] scope pos) scope env ipos (newList []) false (eval iter env) use) Q E s:=by
  obtain ⟨cl,hy19_1⟩:=wpAny_closure (M:=model prog w) (A:=A) (E:=E) (s:=s) hfree
  have hclos:=hy19_1.1
  have hcl:=hy19_1.2
  clear hy19_1
  exact listComp_my hh ht hsrc go hgo hclos hcell hkind hnames hiter (fun _ q=>q) low hJ stable (body cl hcl) hQ hs
theorem erase_map {α β:Type} (f:α→β):∀ (l:List α) (k:Nat),(l.eraseIdx k).map f=(l.map f).eraseIdx k
  | [],_=>rfl
  | x :: r,0=>rfl
  | x :: r,k+1=>by simp only [List.eraseIdx_cons_succ,List.map_cons,erase_map f r k]
noncomputable def sc67:Scope:=match fBody 67 with
  | [_,.Return (some (.ListComp _ _ sc _)) _]=>sc
  | _=>default
theorem walk67 {D:Wd} {k:Nat} (σ:Site D k) (hlen:D.gl "len"=some (.builtin "len")) {ns:List Int} (hn:ns.length=5) :
    Rets (σ.fx (fScope 67) ks67 ok67) (fBody 67) [.val (.list (ns.map .int)),.non] () (.list ((worksGo menu ns).map .str)) (fun _=>True):=by
  refine Rets.cons (ρ₁:=[.val (.list (ns.map .int)),.own (menu.map .str)]) (g₁:=()) ?_ ?_
  · apply Run1.asgOF (F:=σ.fx (fScope 67) ks67 ok67) (i:=1)
    · exact fun W=>DoesF.split rfl
    · rfl
    · rfl
  intro W s E fr
  obtain ⟨m,cm,α,fr⟩:=fr
  have hz37:=fr.slot 1 "others" _ rfl rfl
  have hat:=hz37.1
  have hWa:=hz37.2.1
  have hx37_0:=hz37.2.2.1
  have hw37_1:=hz37.2.2.2
  clear hz37
  obtain ⟨hg,hS⟩:=hx37_0
  obtain ⟨rs,hy37_1⟩:=hw37_1
  have hpl:=hy37_1.1
  have hvs:=hy37_1.2
  clear hy37_1
  generalize ha:α 1=a at *
  refine wpAny_execs_cons (wpAny_Return_some ?_)
  rw [eval_ListComp]
  apply listComp_my2 (prog:=D.prog) (w:=D.w) (A:=σ.A) (env:=σ.env (fScope 67)) (μ:=σ.μ) (G:=List Str) (X:=fun b=>b=a) (J:=fun g h=>StrsAt a g h) (p:=fun _ _=>some true) (f:=worksF) (g₀:=menu) (g₁:=restGo menu ns) (ys:=(worksGo menu ns).map .str) (src:=.list (ns.map .int)) (xs:=ns.map .int) (use:=none)
  · exact σ.hA.hh
  · exact fr.tk
  · exact if_pos (shortL_of (by rw [List.length_map]; omega))
  · exact .inl ⟨_,_,rfl⟩
  · exact worksGoS ns menu (by rw [hn]; decide) (by decide)
  · exact Site.free (σ:=σ) (sc:=fScope 67) (by decide)
  · decide
  · rfl
  · decide
  · refine wpAny_mono ((DoesA.var (F:=σ.fx (fScope 67) ks67 ok67) (i:=0) (v:=.list (ns.map .int)) rfl rfl (by simp)) W s E ⟨m,cm,α,fr⟩) (fun r s₁ q=>⟨q.1.1,q.2.1,fun b e q'=>q.1.2 b e (q' ▸ hWa)⟩) fun _ _ q=>q
  · rintro g h ⟨l,_,n,e⟩ b rfl
    exact Heap.lt_size e
  · obtain ⟨l,hy54_1⟩:=strs_of hvs.rel
    have hx54_0:=hy54_1.1
    have hl:=hy54_1.2
    clear hy54_1
    subst hx54_0
    exact ⟨l,hl,hpl⟩
  · rintro g h h' ⟨l,hl,n,e⟩ kk _
    exact ⟨l,hl,n,kk a _ rfl e⟩
  · intro cl hcl s₁ C I D' s₃ k₁ k₃ hC hI hD hC' hD' g x v s₂ E' hx hv hs₂ hkeep hJ hns hz ht
    obtain ⟨i,hy59_1⟩:=List.mem_map.mp hx
    have hi:=hy59_1.1
    have hx59_0:=hy59_1.2
    clear hy59_1
    subst hx59_0
    have hlo:∀ b o,s₁.heap.get? b=some o→b≠C∧b≠I∧b≠D':=fun b o e=>⟨Nat.ne_of_lt (Nat.lt_of_lt_of_le (Heap.lt_size e) hC),Nat.ne_of_lt (Nat.lt_of_lt_of_le (Heap.lt_size e) hI),Nat.ne_of_lt (Nat.lt_of_lt_of_le (Heap.lt_size e) hD)⟩
    have low:∀ b o,b≠a→s.heap.get? b=some o→s₂.heap.get? b=some o:=fun b o hb e =>
      let ⟨q1,q2,q3⟩:=hlo b o (kGet k₁ b o e)
      hkeep b o hb q1 q2 q3 (kGet k₃ b o (kGet k₁ b o e))
    have haC:a≠C:=let ⟨n,e⟩:=hpl; (hlo a _ (kGet k₁ a _ e)).1
    have hsame:∃ h tk,s₂={ s with heap:=h,toks:=tk }:=by
      obtain ⟨_,_,hy66_1⟩:=k₁
      have hx66_0:=hy66_1.1
      clear hy66_1
      subst hx66_0
      obtain ⟨_,_,hy67_1⟩:=k₃
      have hx67_0:=hy67_1.1
      clear hy67_1
      subst hx67_0
      obtain ⟨h,t,rfl⟩:=hs₂
      exact ⟨h,t,rfl⟩
    obtain ⟨h₂,t₂,rfl⟩:=hsame
    have hv':VRel σ.μ h₂ (.int i) v:=hv.flat rfl
    refine wpAny_grow ht (Binds.name (c:=(σ.fx (fScope 67) ks67 ok67).cx [.val (.list (ns.map .int)),.own (menu.map .str)] () W) (v:=.int i) (by decide) rfl rfl cl C _ E' v hv' hns) fun _ s₃' ht₃ hz₃ h₃=>?_
    obtain ⟨h₃',tk₃,hy73_1⟩:=h₃
    have hx73_0:=hy73_1.1
    have he₃:=hy73_1.2.1
    have hw73_2:=hy73_1.2.2
    clear hy73_1
    subst hx73_0
    obtain ⟨m₃,hy73_2⟩:=hw73_2
    have hm₃:=hy73_2.1
    have hbs:=hy73_2.2
    clear hy73_2
    refine ⟨⟨_,_,rfl,he₃,m₃,hm₃⟩,?_⟩
    rw [List.forIn_nil]
    refine wpAny_pure ⟨kRefl _,fun b e=>by cases e; rfl,fun _ y g' e=>?_⟩
    have hgne:¬ (g=[]∨4096≤g.length):=by
      intro q
      have:worksF g (.int i)=none:=if_pos q
      rw [this] at e; cases e
    have e0:worksF g (.int i)=some (.str (g.getD (popAt g i) ""),g.eraseIdx (popAt g i)):=if_neg hgne
    rw [e0] at e
    cases e
    have hJ':StrsAt a g h₃':=let ⟨l,hl,n,e⟩:=hJ; ⟨l,hl,n,he₃ a _ haC e⟩
    obtain ⟨l,hy85_1⟩:=hJ'
    have hx85_0:=hy85_1.1
    have hpl':=hy85_1.2
    clear hy85_1
    subst hx85_0
    have keep3:∀ b o,b≠a→s.heap.get? b=some o→h₃'.get? b=some o:=fun b o hb e=>he₃ b o (hlo b o (kGet k₁ b o e)).1 (low b o hb e)
    have fr':FrP (σ.fx (fScope 67) ks67 ok67) [.val (.list (ns.map .int)),.own ((l.map (·.1)).map .str)] () W m cm α { s with heap:=h₃',toks:=tk₃ } :=
      fr.wrote2 (i:=1) (x:="others") (vs':=(l.map (·.1)).map .str) (rs':=strValues l) rfl rfl (fun b o hb e=>keep3 b o (ha ▸ hb) e) ht₃ (ha.symm ▸ hpl') (List.all_eq_true.mpr fun v hv=>by obtain ⟨x,_,rfl⟩:=List.mem_map.mp hv; rfl) of_strs
    have hlt:popAt (l.map (·.1)) i < (l.map (·.1)).length:=by
      unfold popAt
      have h0:0 < ((l.map (·.1)).length:Int):=by
        have:(l.map (·.1))≠[]:=fun q=>hgne (.inl q)
        have:=List.length_pos_iff.mpr this
        omega
      have h1:=Int.fmod_nonneg_of_pos i h0
      have h2:=Int.fmod_lt_of_pos i h0
      omega
    have hat3:VarAt (σ.env (fScope 67)) h₃' (Str.ofString "others") (.ref a):=At.var (s:={ s with heap:=h₃',toks:=tk₃ }) (fun _ _=>rfl) fr'.ic hat
    have kno:(σ.env (fScope 67)).kindOf (Str.ofString "others")≠some .local:=by show (fScope 67).names.lookup _≠_; decide
    refine wpAny_Call_method_lateS rfl rfl rfl (wpAny_Name ((hat3.comp (C:=C) rfl (hcl _ (by decide)) (by decide) kno).load rfl ?_))
    obtain ⟨n',ho'⟩:=id hpl'
    refine ⟨"list",_,F.plainAttrs_list,F.slot_list_pop,F.type_list_pop,⟨_,ho',rfl⟩,(fun a' e=>by cases e; exact ⟨_,ho',rfl⟩),Calls.callWith_builtin rfl (args_any (wpAny_items_cons ?_ rfl) rfl)⟩
    have hl16:(l.map (·.1)).length < 4096:=Nat.lt_of_not_le fun q=>hgne (.inr q)
    have hne0:((l.map (·.1)).length:Int)≠0:=fun q=>hgne (.inl (List.eq_nil_of_length_eq_zero (by omega)))
    have hcl':Closes ((σ.fx (fScope 67) ks67 ok67).cx [.val (.list (ns.map .int)),.own ((l.map (·.1)).map .str)] () W) sc67 cl:=hcl
    let c':Cx:=((σ.fx (fScope 67) ks67 ok67).cx [.val (.list (ns.map .int)),.own ((l.map (·.1)).map .str)] () W).comp sc67 cl C [("number",.int i)] rfl
    have hP:c'.P { s with heap:=h₃',toks:=tk₃ }:=⟨⟨m,cm,α,fr'⟩,m₃,hm₃,hbs⟩
    have hlenG:Gives1 c' (.builtin "len") [.list ((l.map (·.1)).map .str)] (.int ((l.map (·.1)).length:Int)):=by
      have:=Gives1.len (c:=c') (vs:=(l.map (·.1)).map V.str) (by rw [List.length_map]; exact shortL_of hl16)
      rw [List.length_map] at this
      exact this
    have dn:∀ p,Does c' (.Name "number" p) (.int i):=fun p=>.nm (Cx.own List.mem_cons_self (by decide))
    have do':∀ p,Does c' (.Name "others" p) (.list ((l.map (·.1)).map .str)):=fun p=>.nm (Cx.out (Fx.varO (i:=1) rfl rfl) hcl' (by decide) kno)
    have hmod:binV .Mod (.int i) (.int ((l.map (·.1)).length:Int))=some (.int (i.fmod ((l.map (·.1)).length:Int))):=if_pos hne0
    refine run_on (c:=c') hP (Does.bin (dn _) (Does.callB (c:=c') (Cx.glb (by decide)) hlen (.cons (do' _) .nil) hlenG) hmod _ E' hP) fun rk s₅ xk h₅ k₅=>Calls.spliced_nil ?_
    unfold VRel at xk
    obtain ⟨t,rfl⟩:=xk
    have h0:0 < ((l.map (·.1)).length:Int):=by omega
    have hkn:=Int.fmod_nonneg_of_pos i h0
    have hlt':popAt (l.map (·.1)) i < l.length:=by simpa using hlt
    have hget:(strValues l)[(i.fmod ((l.map (·.1)).length:Int)).toNat]?=some (.str (l[popAt (l.map (·.1)) i]'hlt').1 (l[popAt (l.map (·.1)) i]'hlt').2):=by
      show (strValues l)[popAt (l.map (·.1)) i]?=_
      simp [strValues,hlt']
    refine pop_plain (rs:=strValues l) (hpl'.at fun o e=>kGet k₅.1 a o e) hkn hget (by simpa [strValues] using hl16) fun h₆ hl₆ hs₆=>?_
    obtain ⟨h₅',tk₅,hy125_1⟩:=k₅.1
    have hx125_0:=hy125_1.1
    have ke₅:=hy125_1.2
    clear hy125_1
    subst hx125_0
    refine ⟨⟨h₆,tk₅,rfl,fun b o hb e=>hs₆.extBut b o hb (ke₅ b o e)⟩,⟨l.eraseIdx (popAt (l.map (·.1)) i),?_,?_⟩,fun h' _=>?_⟩
    · exact erase_map _ _ _
    · have e6:strValues (l.eraseIdx (popAt (l.map (·.1)) i))=(strValues l).eraseIdx (i.fmod ((l.map (·.1)).length:Int)).toNat:=by
        show List.map _ (l.eraseIdx _)=(List.map _ l).eraseIdx (popAt (l.map (·.1)) i)
        exact erase_map _ _ _
      rw [e6]; exact hl₆
    · have e7:(l.map (·.1)).getD (popAt (l.map (·.1)) i) (Str.ofString "")=(l[popAt (l.map (·.1)) i]'hlt').1:=by
        rw [List.getD_eq_getElem?_getD,List.getElem?_map,List.getElem?_eq_getElem hlt']; rfl
      rw [e7]; exact .t _ _
  · intro s₁ D' C h' tk m' rs' ht hz k₁ hD hC hDC hns hl he _ hkeep
    have hz136:=he
    clear he
    obtain ⟨N,hy136_1⟩:=hz136
    have hN:=hy136_1.1
    have he:=hy136_1.2
    clear hy136_1
    obtain ⟨n,hl⟩:=hl
    refine ⟨m',hns,fun h'' hs''=>⟨_,rfl,⟨fun h₃ k₃=>?_,?_,ht,?_,fun b o hb e=>?_,trivial⟩⟩⟩
    · unfold VRel
      exact ⟨D',rs',rfl,⟨n,k₃ _ _ (.inl ⟨_,_,rfl⟩) (fun q=>q) (hs''.extBut _ _ hDC hl)⟩,he h₃ fun b o hq hb e=>k₃ b o hq (fun q=>q) (hs''.extBut b o (Nat.ne_of_gt (Nat.lt_of_lt_of_le hN hb)) e)⟩
    · obtain ⟨h₁,t₁,rfl,_⟩:=k₁; exact ⟨h'',tk,rfl⟩
    · show s.heap.objs.size≤h''.objs.size
      rw [hs''.1]
      exact Nat.le_of_lt (Nat.lt_of_le_of_lt (Nat.le_trans hz hD) (Heap.lt_size hl))
    · have e1:=kGet k₁ b o e
      exact hs''.extBut b o (Nat.ne_of_lt (Nat.lt_of_lt_of_le (Heap.lt_size e1) hC)) (hkeep b o (fun q=>hb (q ▸ hWa)) e1)
section
set_option tactic.hygienic true
open Classical in
noncomputable def atF (xs ys:List V) (j:Nat) (v:V):Option (V × Nat):=if xs[j]?=some v then (ys[j]?).map fun y=>(y,j+1) else none
theorem atF_go (xs ys:List V) (hl:ys.length=xs.length):∀ (n j:Nat),j+n=xs.length→compGoS (fun _ _=>some true) (atF xs ys) j (xs.drop j)=some (ys.drop j,xs.length)
  | 0,j,h=>by
    have e1:xs.drop j=[]:=List.drop_eq_nil_of_le (by omega)
    have e2:ys.drop j=[]:=List.drop_eq_nil_of_le (by omega)
    rw [e1,e2]
    show some ([],j)=_
    rw [show j=xs.length by omega]
  | n+1,j,h=>by
    have h1:j < xs.length:=by omega
    have h2:j < ys.length:=by omega
    rw [List.drop_eq_getElem_cons h1,List.drop_eq_getElem_cons h2]
    have e:atF xs ys j xs[j]=some (ys[j],j+1):=by
      unfold atF
      rw [if_pos (List.getElem?_eq_getElem h1),List.getElem?_eq_getElem h2]; rfl
    unfold compGoS
    simp only [e]
    rw [atF_go xs ys hl n (j+1) (by omega)]
theorem compG {D:Wd} {k:Nat} {σ:Site D k} {sc:Scope} {ks:List Str} {ok:ScOk sc ks} {X:Gw D} {ρ:List Slot} {gs:Nat→X.Γ} {tgt:Str} {cpos tpx ipos:Pos} {elt iter:Expr} {scope:Scope} {src:V} {xs ys:List V} {use:Option (Value→Sem Unit)} {Q:Value→Shared→Prop} {W:Addr→Prop} {s:Shared} {E:Value→Shared→Prop}
    (hi:DoesA (σ.fxg sc ks ok X) ρ (gs 0) iter src) (hsrc:itemsV src=some xs) (hkd:src.isList=true∨∃ i,V.int i∈xs) (hflat:∀ v∈xs,v.flat=true)
    (hcell:∀ y∈scope.names,y.2≠.cell) (hnames:∀ y∈scope.names,y.2=.local→scope.names.lookup y.1=some .local)
    (hfree:∀ y∈scope.names,y.2=.free→((σ.env sc).cells.lookup y.1).isSome=true) (hloc:scope.names.lookup tgt=some .local) (hk:scope.kind=.function)
    (hys:ys.length=xs.length) (hyf:ys.all V.flat=true)
    (helt:∀ j v y,xs[j]?=some v→ys[j]?=some y→∀ W cl C,Closes ((σ.fxg sc ks ok X).cx ρ (gs j) W) scope cl→DoesG (((σ.fxg sc ks ok X).cx ρ (gs j) W).comp scope cl C [(tgt,v)] hk) X.l elt y (X.G (gs (j+1))))
    (hfold:∀ x,foldedSetIterable iter (σ.env sc) x=pure x) (fr:Fr1 (σ.fxg sc ks ok X) ρ (gs 0) W s)
    (fin:∀ D' C h' tk m' rs,1≤tk→s.heap.objs.size≤D'→s.heap.objs.size≤C→D'≠C→h'.Ns C m'→h'.PlainList D' (List.toArray rs)→VRels (σ.fxg sc ks ok X).μ h' ys rs→X.G (gs xs.length) h'→(∀ b o,b ∉ X.l→s.heap.get? b=some o→h'.get? b=some o) →
      compPost (model D.prog D.w) σ.A E use Q (.ref D') C (.ok .next) { s with heap:=h',toks:=tk }) :
    wpAny (model D.prog D.w) σ.A (comprehension (.ListComp elt [⟨.Name tgt tpx,iter,[],0⟩] scope cpos) scope (σ.fxg sc ks ok X).env ipos (newList []) false (eval iter (σ.fxg sc ks ok X).env) use) Q E s:=by
  refine listComp_my2 (prog:=D.prog) (w:=D.w) (A:=σ.A) (env:=(σ.fxg sc ks ok X).env) (μ:=(σ.fxg sc ks ok X).μ) (G:=Nat) (X:=fun b=>b∈X.l) (J:=fun j h=>X.G (gs j) h) (p:=fun _ _=>some true) (f:=atF xs ys) (g₀:=0) (g₁:=xs.length) (ys:=ys) (src:=src) (xs:=xs) (use:=use)
    σ.hA.hh fr.tk hsrc (.inl ⟨_,_,rfl⟩) (by have:=atF_go xs ys hys xs.length 0 (by omega); simpa using this) hfree hcell hk hnames ?_ ?_ fr.gh ?_ ?_ ?_ hfold
  · exact wpAny_mono (hi W s E fr) (fun r s₁ q=>⟨q.1.1,q.2.1,fun a e h=>q.1.2 a e (fr.wg a h)⟩) fun _ _ q=>q
  · exact fun j h hJ b hb=>let ⟨o,e⟩:=X.live _ _ hJ b hb; Heap.lt_size e
  · exact fun j h h' hJ kk kc=>X.Gok _ _ _ hJ fun b o hb e=>hb.elim (fun hb=>kk b o hb e) fun hb=>kc hkd b o hb e
  · intro cl hcl s₁ C I D' s₃ k₁ k₃ hC hI hD hC' hD' j v r s₂ E' hv hr hs₂ hkeep hJ hns hz ht
    have hlo:∀ b o,s₁.heap.get? b=some o→b≠C∧b≠I∧b≠D':=fun b o e=>⟨Nat.ne_of_lt (Nat.lt_of_lt_of_le (Heap.lt_size e) hC),Nat.ne_of_lt (Nat.lt_of_lt_of_le (Heap.lt_size e) hI),Nat.ne_of_lt (Nat.lt_of_lt_of_le (Heap.lt_size e) hD)⟩
    have low:∀ b o,b ∉ X.l→s.heap.get? b=some o→s₂.heap.get? b=some o:=fun b o hb e =>
      let ⟨q1,q2,q3⟩:=hlo b o (kGet k₁ b o e)
      hkeep b o hb q1 q2 q3 (kGet k₃ b o (kGet k₁ b o e))
    have hsame:∃ h tk,s₂={ s with heap:=h,toks:=tk }:=by
      obtain ⟨_,_,hy48_1⟩:=k₁
      have hx48_0:=hy48_1.1
      clear hy48_1
      subst hx48_0
      obtain ⟨_,_,hy49_1⟩:=k₃
      have hx49_0:=hy49_1.1
      clear hy49_1
      subst hx49_0
      obtain ⟨h,t,rfl⟩:=hs₂
      exact ⟨h,t,rfl⟩
    obtain ⟨h₂,t₂,rfl⟩:=hsame
    have hvf:=hflat v hv
    have hr':VRel (σ.fxg sc ks ok X).μ h₂ v r:=hr.flat hvf
    refine wpAny_grow ht (Binds.name (c:=(σ.fxg sc ks ok X).cx ρ (gs j) W) (v:=v) hloc hk hvf cl C _ E' r hr' hns) fun _ s₃' ht₃ hz₃ h₃=>?_
    obtain ⟨h₃',tk₃,hy56_1⟩:=h₃
    have hx56_0:=hy56_1.1
    have he₃:=hy56_1.2.1
    have hw56_2:=hy56_1.2.2
    clear hy56_1
    subst hx56_0
    obtain ⟨m₃,hy56_2⟩:=hw56_2
    have hm₃:=hy56_2.1
    have hbs:=hy56_2.2
    clear hy56_2
    refine ⟨⟨_,_,rfl,he₃,m₃,hm₃⟩,?_⟩
    rw [List.forIn_nil]
    refine wpAny_pure ⟨kRefl _,fun b e=>by cases e; rfl,fun _ y g' e=>?_⟩
    unfold atF at e
    split at e
    · rename_i hxj
      obtain ⟨y',hy63_1⟩:=Option.map_eq_some_iff.mp e
      have hy':=hy63_1.1
      have e:=hy63_1.2
      clear hy63_1
      cases e
      have hnC:∀ o,h₂.get? C=some o→¬ seqish o:=fun o e=>by obtain ⟨m,o',es,ep,e',d,_⟩:=hns; have e'':h₂.get? C=some o':=e'; rw [e] at e''; cases e''; exact seqish.not_dict d
      have notC:∀ b∈X.l,b≠C:=fun b hb q=>by
        obtain ⟨o,e⟩:=X.live _ _ fr.gh b hb
        exact (hlo b o (kGet k₁ b o e)).1 q
      have hJ':X.G (gs j) h₃':=X.Gok _ _ _ hJ fun b o hb e=>he₃ b o (fun q=>hb.elim (fun hb=>notC b hb q) fun hb=>hnC o (q ▸ e) hb.seq) e
      have keep3:∀ b o,b ∉ X.l→s.heap.get? b=some o→h₃'.get? b=some o:=fun b o hb e=>he₃ b o (hlo b o (kGet k₁ b o e)).1 (low b o hb e)
      have fr':Fr1 (σ.fxg sc ks ok X) ρ (gs j) W { s with heap:=h₃',toks:=tk₃ }:=fr.gmove ⟨_,_,rfl⟩ ht₃ (fun b o hb e=>keep3 b o hb e) hJ' (X.live _ _ hJ')
      have hcl':Closes ((σ.fxg sc ks ok X).cx ρ (gs j) W) scope cl:=hcl
      refine wpAny_mono (helt j v y hxj hy' W cl C hcl' { s with heap:=h₃',toks:=tk₃ } E' ⟨fr',m₃,hm₃,hbs⟩) (fun ry s₅ q=>?_) fun _ _ q=>q
      have hv5:=q.1
      have hG5:=q.2.1
      have mg:=q.2.2
      try clear q
      obtain ⟨h5,t5,rfl⟩:=mg.same
      have hyfl:y.flat=true:=List.all_eq_true.mp hyf _ (List.mem_of_getElem? hy')
      exact ⟨⟨h5,t5,rfl,mg.kept⟩,hG5,fun h' _=>hv5.rel.flat hyfl⟩
    · cases e
  · intro s₁ D' C h' tk m' rs ht hz k₁ hD hC hDC hns hl he hJ hkeep
    have hz80:=he
    clear he
    obtain ⟨N,hy80_1⟩:=hz80
    have hN:=hy80_1.1
    have he:=hy80_1.2
    clear hy80_1
    obtain ⟨h₁,t₁,hy81_1⟩:=k₁
    have hx81_0:=hy81_1.1
    have k₁':=hy81_1.2
    clear hy81_1
    subst hx81_0
    exact fin D' C h' tk m' rs ht (Nat.le_trans hz hD) (Nat.le_trans hz hC) hDC hns hl (he h' fun _ _ _ _ e=>e) hJ fun b o hb e=>hkeep b o hb (k₁' b o e)
theorem Run1.asgCG {D:Wd} {k:Nat} {σ:Site D k} {sc:Scope} {ks:List Str} {ok:ScOk sc ks} {X:Gw D} {ρ:List Slot} {gs:Nat→X.Γ} {x tgt:Str} {i:Nat} {px pos cpos tpx:Pos} {elt iter:Expr} {scope:Scope} {src:V} {xs ys:List V} (hx:ks[i]?=some x)
    (hsw:swapsWith (.ListComp elt [⟨.Name tgt tpx,iter,[],0⟩] scope cpos) (some (.Name x px)) pos.line (σ.env sc)=pure true)
    (hi:DoesA (σ.fxg sc ks ok X) ρ (gs 0) iter src) (hsrc:itemsV src=some xs) (hkd:src.isList=true∨∃ i,V.int i∈xs) (hflat:∀ v∈xs,v.flat=true)
    (hcell:∀ y∈scope.names,y.2≠.cell) (hnames:∀ y∈scope.names,y.2=.local→scope.names.lookup y.1=some .local)
    (hfree:∀ y∈scope.names,y.2=.free→((σ.env sc).cells.lookup y.1).isSome=true) (hloc:scope.names.lookup tgt=some .local) (hk:scope.kind=.function)
    (hys:ys.length=xs.length) (hyf:ys.all V.flat=true)
    (helt:∀ j v y,xs[j]?=some v→ys[j]?=some y→∀ W cl C,Closes ((σ.fxg sc ks ok X).cx ρ (gs j) W) scope cl→DoesG (((σ.fxg sc ks ok X).cx ρ (gs j) W).comp scope cl C [(tgt,v)] hk) X.l elt y (X.G (gs (j+1))))
    (hfold:∀ x,foldedSetIterable iter (σ.env sc) x=pure x:=by intro _; rfl) :
    Run1 (σ.fxg sc ks ok X) (.Assign [.Name x px] (.ListComp elt [⟨.Name tgt tpx,iter,[],0⟩] scope cpos) pos) ρ (gs 0) (ρ.set i (.val (.list ys))) (gs xs.length):=.of fun W s E fr=>by
  have hsw':swapsWith (.ListComp elt [⟨.Name tgt tpx,iter,[],0⟩] scope cpos) (some (.Name x px)) pos.line (σ.fxg sc ks ok X).env=pure true:=hsw
  rw [exec_Assign_Name_used _ _ _ _ hsw']
  refine wpAny_bind (wpAny_standAt (wpAny_bind ?_))
  show wpAny _ _ (do let _ ← comprehension (.ListComp elt [⟨.Name tgt tpx,iter,[],0⟩] scope cpos) scope (σ.fxg sc ks ok X).env _ (newList []) false (eval iter (σ.fxg sc ks ok X).env) (some (assign (.Name x px) (σ.fxg sc ks ok X).env))) _ _ s
  refine wpAny_bind (wpAny_mono (compG (use:=some (assign (.Name x px) (σ.fxg sc ks ok X).env)) (Q:=fun _ s'=>∃ W',Fr1 (σ.fxg sc ks ok X) (ρ.set i (.val (.list ys))) (gs xs.length) W' s'∧(∀ b o,¬ W b→s.heap.get? b=some o→s'.heap.get? b=some o)∧∀ b,W' b→W b∨s.heap.objs.size≤b)
    hi hsrc hkd hflat hcell hnames hfree hloc hk hys hyf helt hfold fr ?_) (fun _ s' q=>wpAny_pure (wpAny_pure ⟨rfl,q⟩)) fun _ _ q=>q)
  intro D' C h' tk m' rs ht hD hC hDC hns hl hrs hJ keep
  have fr':Fr1 (σ.fxg sc ks ok X) ρ (gs xs.length) W { s with heap:=h',toks:=tk }:=fr.gmove ⟨_,_,rfl⟩ ht (fun b o hb e=>keep b o hb e) hJ (X.live _ _ hJ)
  have hCW:¬ W C:=fun q=>Nat.lt_irrefl _ (Nat.lt_of_lt_of_le (fr.lt C q) hC)
  have hDW:¬ W D':=fun q=>Nat.lt_irrefl _ (Nat.lt_of_lt_of_le (fr.lt D' q) hD)
  show wpAny _ _ (assign (.Name x px) (σ.fxg sc ks ok X).env (.ref D')) _ _ _
  refine wpAny_assign_Name (wpAny_mono (fr'.store (i:=i) (x:=x) (v:=.list ys) hx ?_) (fun _ s'' z=>?_) fun _ _ q=>q)
  · intro h₂ k₂
    unfold VRel
    obtain ⟨n,hl⟩:=hl
    exact ⟨D',rs,rfl,⟨n,k₂ _ _ (.inl ⟨_,_,rfl⟩) hDW hl⟩,hrs.flat hyf⟩
  have hx108_0:=z.1
  have mv:=z.2
  try clear z
  obtain ⟨m2,cm2,α2,fr''⟩:=hx108_0
  have hn'':s''.heap.Ns C m':=let ⟨o,es,ep,e,r⟩:=hns; ⟨o,es,ep,mv.kept C o hCW e,r⟩
  have hS0:(σ.fxg sc ks ok X).S0.heap.objs.size≤s.heap.objs.size:=let ⟨_,_,_,z⟩:=fr; Nat.le_trans z.ic.toInCall.fresh (Nat.le_of_lt z.ic.toInCall.ns.lt)
  refine ⟨m',hn'',fun h'' hs'=>⟨W,⟨m2,cm2,α2,?_⟩,fun b o hb e=>?_,fun b q=>.inl q⟩⟩
  · refine fr''.touch (T:=fun b=>b=C) (tk:=s''.toks) (fun b q=>?_) (fun b o hb e=>hs'.extBut b o hb e) fr''.tk
    subst q
    refine ⟨hCW,Nat.le_trans hS0 hC,fun o ho=>?_⟩
    obtain ⟨o',es,ep,hy115_1⟩:=hn''
    have e:=hy115_1.1
    have d:=hy115_1.2.1
    clear hy115_1
    rw [ho] at e; cases e; exact seqish.not_dict d
  · exact hs'.extBut b o (Nat.ne_of_lt (Nat.lt_of_lt_of_le (Heap.lt_size e) hC)) (mv.kept b o hb (keep b o (fun q=>hb (fr.wg b q)) e))
theorem Run1.asgCGf {D:Wd} {k:Nat} {σ:Site D k} {sc:Scope} {ks:List Str} {ok:ScOk sc ks} {X:Gw D} {ρ:List Slot} {gs:Nat→X.Γ} {x tgt:Str} {i:Nat} {px pos cpos tpx:Pos} {elt iter:Expr} {scope:Scope} {src:V} {xs ys:List V} (hx:ks[i]?=some x)
    (hsw:swapsWith (.ListComp elt [⟨.Name tgt tpx,iter,[],0⟩] scope cpos) (some (.Name x px)) pos.line (σ.env sc)=pure false)
    (hi:DoesA (σ.fxg sc ks ok X) ρ (gs 0) iter src) (hsrc:itemsV src=some xs) (hkd:src.isList=true∨∃ i,V.int i∈xs) (hflat:∀ v∈xs,v.flat=true)
    (hcell:∀ y∈scope.names,y.2≠.cell) (hnames:∀ y∈scope.names,y.2=.local→scope.names.lookup y.1=some .local)
    (hfree:∀ y∈scope.names,y.2=.free→((σ.env sc).cells.lookup y.1).isSome=true) (hloc:scope.names.lookup tgt=some .local) (hk:scope.kind=.function)
    (hys:ys.length=xs.length) (hyf:ys.all V.flat=true)
    (helt:∀ j v y,xs[j]?=some v→ys[j]?=some y→∀ W cl C,Closes ((σ.fxg sc ks ok X).cx ρ (gs j) W) scope cl→DoesG (((σ.fxg sc ks ok X).cx ρ (gs j) W).comp scope cl C [(tgt,v)] hk) X.l elt y (X.G (gs (j+1))))
    (hfold:∀ x,foldedSetIterable iter (σ.env sc) x=pure x:=by intro _; rfl) :
    Run1 (σ.fxg sc ks ok X) (.Assign [.Name x px] (.ListComp elt [⟨.Name tgt tpx,iter,[],0⟩] scope cpos) pos) ρ (gs 0) (ρ.set i (.val (.list ys))) (gs xs.length):=.of fun W s E fr=>by
  refine wpAny_Assign_Name ?_ hsw
  rw [eval_ListComp]
  refine compG (use:=none) hi hsrc hkd hflat hcell hnames hfree hloc hk hys hyf helt hfold fr fun D' C h' tk m' rs ht hD hC hDC hns hl hrs hJ keep=>⟨m',hns,fun h'' hs'=>?_⟩
  have notC:∀ b∈X.l,b≠C:=fun b hb q=>by
    obtain ⟨o,e⟩:=X.live _ _ fr.gh b hb
    exact Nat.lt_irrefl _ (Nat.lt_of_lt_of_le (Heap.lt_size e) (q ▸ hC))
  have hnC:∀ o,h'.get? C=some o→¬ codish o:=fun o e q=>by obtain ⟨o',es,ep,e',d,_⟩:=hns; rw [e] at e'; cases e'; exact seqish.not_dict d q.seq
  have hJ':X.G (gs xs.length) h'':=X.Gok _ _ _ hJ fun b o hb e=>hs'.extBut b o (fun q=>hb.elim (fun hb=>notC b hb q) fun hb=>hnC o (q ▸ e) hb) e
  have fr':Fr1 (σ.fxg sc ks ok X) ρ (gs xs.length) W { s with heap:=h'',toks:=tk }:=fr.gmove ⟨_,_,rfl⟩ ht (fun b o hb e=>hs'.extBut b o (Nat.ne_of_lt (Nat.lt_of_lt_of_le (Heap.lt_size e) hC)) (keep b o hb e)) hJ' (X.live _ _ hJ')
  have hDW:¬ W D':=fun q=>Nat.lt_irrefl _ (Nat.lt_of_lt_of_le (fr.lt D' q) hD)
  refine wpAny_mono (fr'.store (i:=i) (x:=x) (v:=.list ys) hx ?_) (fun _ s'' z=>⟨rfl,W,z.1,fun b o hb e=>z.2.kept b o hb (hs'.extBut b o (Nat.ne_of_lt (Nat.lt_of_lt_of_le (Heap.lt_size e) hC)) (keep b o (fun q=>hb (fr.wg b q)) e)),fun b q=>.inl q⟩) fun _ _ q=>q
  intro h₂ k₂
  unfold VRel
  obtain ⟨n,hl⟩:=hl
  exact ⟨D',rs,rfl,⟨n,k₂ _ _ (.inl ⟨_,_,rfl⟩) hDW (hs'.extBut D' _ hDC hl)⟩,hrs.flat hyf⟩
end
section
variable {D:Wd} (w:Mws D) {k:Nat} {c:Cx}
theorem getG (hM:c.M=model D.prog D.w) (hμ:c.μ=w.m.x) (hA:AOk (k+1) c.A) {st st':MSt} (hP:∀ s,c.P s→Ext D.h0 s.heap∧w.Y.G st s.heap) (hv:c.Var "machine" .mach) {x:Str} {px ap pos:Pos}
    (walk:∀ σ:Site D k,σ.μ=w.m.x→Ends (w.G σ) (mPart 2).1 [.val .mach,.non,.non,.non] st (.str x) (w.Y.G st'))
    (he:∀ env:Env,eval (.Call (.Attribute (.Name "machine" px) "get_token" ap) [] [] pos) env=(do
      let ov ← eval (.Name "machine" px) env
      standAt ap.atName
      let (f,first) ← holding [ov] (getMethod ov "get_token" (do return (← importBound (.Name "machine" px) env).getD true))
      callWith pos f first (backTo pos (starEach [] env)) []):=by intro _; rfl) :
    DoesG c w.Y.l (.Call (.Attribute (.Name "machine" px) "get_token" ap) [] [] pos) (.str x) (w.Y.G st'):=fun s E hs=>by
  have hz18:=hP s hs
  have hx:=hz18.1
  have hg:=hz18.2
  clear hz18
  obtain ⟨r,hy19_1⟩:=hv s hs
  have hat:=hy19_1.1
  have hr:=hy19_1.2
  clear hy19_1
  unfold VRel at hr
  subst hr
  rw [hμ] at hat
  refine MethodCall_ (pl:=(do return (← importBound (.Name "machine" px) c.env).getD true)) (wpAny_Name (hat.load c.hk ?_) (by decide)) (he _)
  obtain ⟨mA,hy24_1⟩:=MachAt.no w hg.2
  have hA':=hy24_1.1
  have q1:=hy24_1.2.1
  have q2:=hy24_1.2.2.1
  have q3:=hy24_1.2.2.2
  clear hy24_1
  rw [hM]
  refine obj_meth w w.gt hx hg.2 ⟨mA,hA',q2⟩ (lkB _ (.inr (.inr (.inr (.inr (.inr (.inl rfl))))))) ?_
  have h:=D.callM w.Y hA (K:=fun _=>True) (ks:=ksGT) (vs:=[.mach]) (v:=.str x) (μ:=w.m.x) (g:=st) (g':=st') 3 (hx _ _ w.gt.ho) w.gt.hd (w.gt.hcd.keeps hx) rfl rfl rfl rfl okGT (by show 1≤4; decide) (len1 fun _=>rfl)
    (fun σ _ e1 _ _=>walk σ e1) rfl rfl E [.ref w.m.x] hx (c.toks s hs) hg trivial (fun h' _=>.cons (by unfold VRel; rfl) .nil)
  rw [← hμ] at h
  exact callWith_meth0 w.gt.hd (hx _ _ w.gt.ho) (hμ ▸ h)
theorem pushG (hM:c.M=model D.prog D.w) (hμ:c.μ=w.m.x) (hA:AOk (k+1) c.A) {st:MSt} (hP:∀ s,c.P s→Ext D.h0 s.heap∧w.Y.G st s.heap) (hv:c.Var "machine" .mach) {x:Str} {e:Expr} {px ap pos:Pos} (ha:Does c e (.str x)) (hl:st.pb.length < 4096)
    (he:∀ env:Env,eval (.Call (.Attribute (.Name "machine" px) "push_token" ap) [e] [] pos) env=(do
      let ov ← eval (.Name "machine" px) env
      standAt ap.atName
      let (f,first) ← holding [ov] (getMethod ov "push_token" (do return (← importBound (.Name "machine" px) env).getD true))
      callWith pos f first (backTo pos (starEach [e] env)) []):=by intro _; rfl)
    (hst:starEach [e] c.env=(false,eval e c.env) :: starEach [] c.env:=by rfl) :
    DoesG c w.Y.l (.Call (.Attribute (.Name "machine" px) "push_token" ap) [e] [] pos) .none (w.Y.G { st with pb:=st.pb++[x] }):=fun s E hs=>by
  have hz40:=hP s hs
  have hx:=hz40.1
  have hg:=hz40.2
  clear hz40
  obtain ⟨r,hy41_1⟩:=hv s hs
  have hat:=hy41_1.1
  have hr:=hy41_1.2
  clear hy41_1
  unfold VRel at hr
  subst hr
  rw [hμ] at hat
  refine MethodCall_ (pl:=(do return (← importBound (.Name "machine" px) c.env).getD true)) (wpAny_Name (hat.load c.hk ?_) (by decide)) (he _)
  obtain ⟨mA,hy46_1⟩:=MachAt.no w hg.2
  have hA':=hy46_1.1
  have q1:=hy46_1.2.1
  have q2:=hy46_1.2.2.1
  have q3:=hy46_1.2.2.2
  clear hy46_1
  rw [hM]
  refine obj_meth w w.pt hx hg.2 ⟨mA,hA',q3⟩ (lkB _ (.inr (.inr (.inr (.inr (.inr (.inr rfl))))))) ?_
  refine callWith_meth (h₀:=D.h0) w.pt.hd w.pt.ho ?_ hst
  rw [← hM]
  refine run_on hs ((DoesL.cons ha .nil hst) pos s E hs) fun rs s₁ y h₁ k₁=>?_
  have hz52:=hP s₁ h₁
  have hx₁:=hz52.1
  have hg₁:=hz52.2
  clear hz52
  refine ⟨hx₁,?_⟩
  obtain ⟨r,hy54_1⟩:=y.inv1
  have hx54_0:=hy54_1.1
  have hr:=hy54_1.2
  clear hy54_1
  subst hx54_0
  unfold VRel at hr
  obtain ⟨t,rfl⟩:=hr
  have h:=D.callM w.Y hA (K:=fun _=>True) (ks:=ksPT) (vs:=[.mach,.str x]) (v:=.none) (μ:=w.m.x) (g:=st) (g':={ st with pb:=st.pb++[x] }) 0 (hx₁ _ _ w.pt.ho) w.pt.hd (w.pt.hcd.keeps hx₁) rfl rfl rfl rfl okPT (by show 2≤2; decide) (len2 fun _ _=>rfl)
    (fun σ _ e1 _ _=>walkPT w e1 hl) rfl rfl E [.ref w.m.x,.str x t] hx₁ (c.toks s₁ h₁) hg₁ trivial (fun h' _=>.cons (by unfold VRel; rfl) (.cons (by unfold VRel; exact ⟨t,rfl⟩) .nil))
  rw [← hM] at h
  exact DoesG.pre k₁ (hμ ▸ h)
end
noncomputable def ks69:List Str:=["machine","works","hours","caps","work","plan","left","waiting","free","place","red","blue","light","price","marks","k"]
theorem ok69:ScOk (fScope 69) ks69:=⟨by decide,by decide,rfl⟩
section
variable (ws:List Str) (hs:List Nat) (cp:List (Nat × Nat))
noncomputable def wsOf (rem:List Nat):List Str:=rem.map fun k=>ws.getD k ""
noncomputable def freeAt (rem:List Nat) (x:Str):Bool:=((wsOf ws rem).filter fun y=>(y != x) && Txt.startswith y x).isEmpty
noncomputable def leftOf (rem:List Nat):Nat:=(rem.map fun k=>hs.getD k 0).sum
noncomputable def freeTo (rem:List Nat) (n:Nat):List Nat:=(List.range n).filter fun p=>freeAt ws rem (ws.getD (rem.getD p 0) "")
noncomputable def pricesR (rem:List Nat) (n:Nat):List (Nat × Nat):=(freeTo ws rem n).map fun p=>(costOf cp (rem.getD p 0) (leftOf hs rem),p)
noncomputable def choice (rem:List Nat):Nat × Nat:=minPL (pricesR ws hs cp rem rem.length)
noncomputable def groupOf (rem:List Nat):Nat:=((List.range 5).map fun k=>if k∈rem then 2 ^ k else 0).sum
noncomputable abbrev st69 (work plan left waiting free place red blue light price marks k:Slot):List Slot:=[.val .mach,.val (.list (ws.map .str)),.val (.list (hs.map nV)),.val (.list (cp.map capV)),work,plan,left,waiting,free,place,red,blue,light,price,marks,k]
end
noncomputable def flkL (ps:List (Nat × Nat)) (ts:List Tok):List V:=List.zipWith (fun p t=>V.tup [.flk (fl p.1) t,.int (p.2:Int)]) ps ts
theorem fl_cmp' {a b:Nat} (ha:a < 127) (hb:b < 127):Float64.cmp (fl a) (fl b)=some (compare a b):=fl_cmp ⟨a,ha⟩ ⟨b,hb⟩
theorem ltK_fl {p b:Nat × Nat} {t u:Tok} (htu:t≠u) (hp:p.1 < 127) (hb:b.1 < 127):ltK (.tup [.flk (fl p.1) t,.int (p.2:Int)]) (.tup [.flk (fl b.1) u,.int (b.2:Int)])=some (ltP p b):=by
  have h1:=fl_cmp' hp hb
  show (if t=u∨(fl p.1=fl b.1∧Float64.cmp (fl p.1) (fl b.1)≠some Ordering.eq) then none else some (if Float64.cmp (fl p.1) (fl b.1)=some Ordering.eq then decide ((p.2:Int) < b.2) else Float64.cmp (fl p.1) (fl b.1) == some Ordering.lt))=_
  rw [if_neg,h1]
  · unfold ltP
    by_cases e:p.1=b.1
    · rw [if_pos e,if_pos (by rw [e]; simp)]; simp
    · rw [if_neg e,if_neg (by simpa [Nat.compare_eq_eq] using e)]
      congr 1
      by_cases l:p.1 < b.1
      · rw [Nat.compare_eq_lt.mpr l]; simp [l]
      · rw [Nat.compare_eq_gt.mpr (by omega)]; simp [l]
  · rintro (q | ⟨q,q2⟩)
    · exact htu q
    · apply q2
      have:=fl_cmp' hp hp
      rw [q] at this ⊢
      rw [this]; simp
theorem best_k:∀ (ps:List (Nat × Nat)) (ts:List Tok) (b:Nat × Nat) (u:Tok),ps.length=ts.length→(u :: ts).Nodup→b.1 < 127→(∀ p∈ps,p.1 < 127) →
    ∃ t,bestV ltK (.tup [.flk (fl b.1) u,.int (b.2:Int)]) (flkL ps ts)=some (.tup [.flk (fl (minP b ps).1) t,.int ((minP b ps).2:Int)])
  | [],[],b,u,_,_,_,_=>⟨u,rfl⟩
  | [],_ :: _,_,_,h,_,_,_=>by cases h
  | _ :: _,[],_,_,h,_,_,_=>by cases h
  | p :: ps,t :: ts,b,u,h,hn,hb,hp=>by
    have hn':=List.nodup_cons.mp hn
    have htu:t≠u:=fun e=>hn'.1 (e ▸ List.mem_cons_self)
    have hp1:=hp p List.mem_cons_self
    show ∃ t',bestV ltK _ (V.tup [.flk (fl p.1) t,.int (p.2:Int)] :: flkL ps ts)=_
    unfold bestV minP
    rw [ltK_fl htu hp1 hb]
    cases q:ltP p b with
    | true =>
      simp only [if_true]
      exact best_k ps ts p t (by simpa using h) hn'.2 hp1 fun x hx=>hp x (.tail _ hx)
    | false =>
      simp only [Bool.false_eq_true,if_false]
      exact best_k ps ts b u (by simpa using h) (List.nodup_cons.mpr ⟨fun q=>hn'.1 (.tail _ q),(List.nodup_cons.mp hn'.2).2⟩) hb fun x hx=>hp x (.tail _ hx)
theorem flkL_len {ps:List (Nat × Nat)} {ts:List Tok} (h:ps.length=ts.length):(flkL ps ts).length=ps.length:=by unfold flkL; rw [List.length_zipWith,h,Nat.min_self]
theorem flkL_snoc {ps:List (Nat × Nat)} {ts:List Tok} {p:Nat × Nat} {t:Tok} (h:ps.length=ts.length):flkL (ps++[p]) (ts++[t])=flkL ps ts++[V.tup [.flk (fl p.1) t,.int (p.2:Int)]]:=by
  unfold flkL; rw [List.zipWith_append h]; rfl
theorem q_cmp' {a b:Nat} (ha:a < 48) (hb:b < 48):Float64.cmp (q64 a) (q64 b)=some (compare a b):=q_cmp ⟨a,ha⟩ ⟨b,hb⟩
theorem best_q (g:Bool):∀ (r:List Nat) (b:Nat),b < 48→(∀ x∈r,x < 48)→bestV (if g then gtV else ltV) (.flt (q64 b)) (r.map fun x=>.flt (q64 x))=some (.flt (q64 (if g then maxN b r else minN b r)))
  | [],b,_,_=>by cases g <;> rfl
  | v :: r,b,hb,hr=>by
    have hv:=hr v List.mem_cons_self
    have hr':∀ x∈r,x < 48:=fun x hx=>hr x (.tail _ hx)
    have hc:=q_cmp' hv hb
    cases g with
    | true =>
      have ih:=best_q true r
      simp only [if_true] at ih ⊢
      rw [List.map_cons]
      unfold bestV maxN
      have e:gtV (.flt (q64 v)) (.flt (q64 b))=some (decide (v > b)):=by
        show some (Float64.cmp (q64 v) (q64 b) == some Ordering.gt)=_
        rw [hc]; congr 1
        by_cases l:v > b
        · rw [Nat.compare_eq_gt.mpr l]; simp [l]
        · simp only [l,decide_false,beq_eq_false_iff_ne,ne_eq,Option.some.injEq]; exact fun q=>l (Nat.compare_eq_gt.mp q)
      rw [e]
      by_cases l:v > b
      · simp only [l,decide_true]; have:=ih v hv hr'; rw [this]; simp [l]
      · simp only [l,decide_false]; have:=ih b hb hr'; rw [this]; simp [l]
    | false =>
      have ih:=best_q false r
      simp only [Bool.false_eq_true,if_false] at ih ⊢
      rw [List.map_cons]
      unfold bestV minN
      have e:ltV (.flt (q64 v)) (.flt (q64 b))=some (decide (v < b)):=by
        show some (Float64.cmp (q64 v) (q64 b) == some Ordering.lt)=_
        rw [hc]; congr 1
        by_cases l:v < b
        · rw [Nat.compare_eq_lt.mpr l]; simp [l]
        · simp only [l,decide_false,beq_eq_false_iff_ne,ne_eq,Option.some.injEq]; exact fun q=>l (Nat.compare_eq_lt.mp q)
      rw [e]
      by_cases l:v < b
      · simp only [l,decide_true]; have:=ih v hv hr'; rw [this]; simp [l]
      · simp only [l,decide_false]; have:=ih b hb hr'; rw [this]; simp [l]
theorem minN_le:∀ (r:List Nat) (b:Nat),minN b r≤b
  | [],b=>Nat.le_refl _
  | v :: r,b=>by
    unfold minN
    split
    · exact Nat.le_trans (minN_le r v) (by omega)
    · exact minN_le r b
theorem le_maxN:∀ (r:List Nat) (b:Nat),b≤maxN b r
  | [],b=>Nat.le_refl _
  | v :: r,b=>by
    unfold maxN
    split
    · exact Nat.le_trans (by omega) (le_maxN r v)
    · exact le_maxN r b
theorem lightG {D:Wd} (k:Nat) (f:FnAt D "rgb_to_hls" 61) (hma:D.gl "max"=some (.builtin "max")) (hmi:D.gl "min"=some (.builtin "min")) {r l b:Nat} (hr:r < 48) (hl:l < 48) (hb:b < 48) :
    ∃ h s,∀ {c:Cx},c.M=model D.prog D.w→AOk (k+1) c.A→(∀ s,c.P s→Ext D.h0 s.heap)→Gives1 c (.ref f.a) [.flt (q64 r),.flt (q64 l),.flt (q64 b)] (.tup [.flt h,.flt (Float64.div (q64 (maxN r [l,b]+minN r [l,b])) 0x4000000000000000),.flt s]):=by
  have hM48:maxN r [l,b] < 48:=maxN_le _ _ hr fun v hv=>by rcases List.mem_cons.mp hv with rfl | hv; exact hl; rw [List.mem_singleton.mp hv]; exact hb
  have hmM:minN r [l,b]≤maxN r [l,b]:=Nat.le_trans (minN_le _ _) (le_maxN _ _)
  have hb':∀ x∈[l,b],x < 48:=fun v hv=>by rcases List.mem_cons.mp hv with rfl | hv; exact hl; rw [List.mem_singleton.mp hv]; exact hb
  have h1:=best_q true [l,b] r hr hb'
  have h2:=best_q false [l,b] r hr hb'
  simp only [if_true,Bool.false_eq_true,if_false,List.map_cons,List.map_nil] at h1 h2
  generalize hMe:maxN r [l,b]=M at *
  generalize hme:minN r [l,b]=m at *
  have hadd:Float64.add (q64 M) (q64 m)=q64 (M+m):=q_add ⟨M,hM48⟩ ⟨m,by omega⟩ hmM
  obtain ⟨h,s,wk⟩:=walk61 (D:=D) (k:=k) (r:=q64 r) (g:=q64 l) (b:=q64 b) (M:=q64 M) (m:=q64 m) hma hmi h1 h2 (fun hne=>by
    have hlt:m < M:=by
      rcases Nat.lt_or_ge m M with q | q
      · exact q
      · exfalso
        have e:m=M:=by omega
        rw [e,q_cmp' hM48 hM48] at hne
        simp at hne
    refine ⟨?_,?_,q_two ⟨M,hM48⟩ ⟨m,by omega⟩ hlt⟩
    · rw [show Float64.sub (q64 M) (q64 m)=q64 (M - m) from q_sub ⟨M,hM48⟩ ⟨m,by omega⟩ hlt]
      exact q_nz ⟨M - m,by omega⟩ (by show 0 < M - m; omega)
    · rw [hadd]; exact q_nz ⟨M+m,by omega⟩ (by show 0 < M+m; omega)) (by decide +kernel) (by decide +kernel) (by decide +kernel)
  refine ⟨h,s,fun hMo hA hP=>?_⟩
  have e:hlsL (q64 M) (q64 m)=Float64.div (q64 (M+m)) 0x4000000000000000:=by unfold hlsL; rw [hadd]
  rw [← e]
  exact f.gives 10 hMo hA hP ok61 (by show 3≤13; decide) (len3 fun _ _ _=>rfl) fun σ'=>wk σ'
theorem divQ {n:Nat} (h:n < 48):binV .Div (.int n) (.int 64)=some (.flt (q64 n)):=by
  have e:Float64.ofFrac (decide ((n:Int) < 0) != decide ((64:Int) < 0)) (n:Int).natAbs (64:Int).natAbs=q64 n:=by
    have:decide ((n:Int) < 0)=false:=decide_eq_false (by omega)
    rw [this]; rfl
  show (if (64:Int)=0∨Float64.isInf _=true then none else some _)=_
  rw [e,if_neg]
  rintro (q | q)
  · exact absurd q (by decide)
  · have:=q_inf ⟨n,h⟩
    rw [show Float64.isInf (q64 n)=false from this] at q; cases q
theorem indexD {c:Cx} {xs:List Str} {x:Str} {a e:Expr} {ap pos:Pos} (ha:Does c a (.list (xs.map .str))) (he:Does c e (.str x)) (hl:shortL xs.length=true) (hx:x∈xs)
    (hbase:attributeBase a (Str.ofString "index") c.env (eval a c.env)=eval a c.env:=by rfl)
    (hfew:((backTo pos (starEach [e] c.env)).all (fun x=>!x.1) && (backToKw pos (keywordEach [] c.env)).all (fun x=>x.1.isSome)
      && decide ([e].length+([]:List Keyword).length+(if ([]:List Keyword).isEmpty then 0 else 1) < 30))=true:=by rfl)
    (hline:(ap.endLine == pos.line)=true:=by rfl) (hst:starEach [e] c.env=(false,eval e c.env) :: starEach [] c.env:=by rfl) (hp:(backTo pos (starEach [e] c.env)).any (·.1)=false:=by rfl) :
    Does c (.Call (.Attribute a (Str.ofString "index") ap) [e] [] pos) (.int (xs.idxOf x)) :=
  Does.meth (vo:=.list (xs.map .str)) (vs:=[.str x]) ha (.cons he .nil hst) F.plainAttrs_list F.slot_list_index F.type_list_index listT (Gives1.index hl hx) hbase hfew hline hst hp
theorem RunsT.post {F:Fx} {ss:List Stmt} {ρ:List Slot} {g:F.Γ} {Q Q':Nat→List Slot→F.Γ→Nat→Prop} (h:RunsT F ss ρ g Q) (hQ:∀ t ρ₂ g' t',t≤t'→Q t ρ₂ g' t'→∃ ρ₃,Q' t ρ₃ g' t'∧∀ (i:Nat) sl,ρ₃[i]?=some sl→sl=.non∨ρ₂[i]?=some sl):RunsT F ss ρ g Q':=fun W s E fr =>
  wpAny_with_toks (n:=s.toks) (Nat.le_refl _) (wpAny_mono (h W s E fr) (fun f s' y ht=>by
    have e:=y.1
    have hw7_1:=y.2
    try clear y
    obtain ⟨ρ₂,g',W',hy7_1⟩:=hw7_1
    have q:=hy7_1.1
    have fr':=hy7_1.2.1
    have mv:=hy7_1.2.2
    clear hy7_1
    obtain ⟨ρ₃,hy8_1⟩:=hQ _ _ _ _ ht q
    have q':=hy8_1.1
    have hw:=hy8_1.2
    clear hy8_1
    obtain ⟨m,cm,α,fr'⟩:=fr'
    exact ⟨e,ρ₃,g',W',q',⟨m,cm,α,fr'.weaken hw⟩,mv⟩) fun _ _ y _=>y)
noncomputable def wB69:List Stmt:=match (fBody 69)[(3:Nat)]? with
  | some (.While _ b _ _)=>b
  | _=>[]
noncomputable def fB69:List Stmt:=match wB69[(2:Nat)]? with
  | some (.For _ _ b _ _)=>b
  | _=>[]
theorem menu_ok:∀ y∈menu,PyData.strOk y=true:=by decide +kernel
theorem strsOf_map:∀ L:List Str,strsOf (L.map .str)=some L
  | []=>rfl
  | x :: L=>by show (strsOf (L.map .str)).map (x :: ·)=_; rw [strsOf_map L]; rfl
theorem eqStrsV {L M:List Str} (h:∀ y∈L,PyData.strOk y=true) (h':∀ y∈M,PyData.strOk y=true):cmpV .Eq (.list (L.map .str)) (.list (M.map .str))=some (decide (L=M)):=by
  show (match strsOf (L.map .str),strsOf (M.map .str) with | some x,some y=>if x.all PyData.strOk && y.all PyData.strOk then some (decide (x=y)) else none | _,_=>_)=_
  rw [strsOf_map,strsOf_map]
  exact if_pos (by rw [List.all_eq_true.mpr h,List.all_eq_true.mpr h']; rfl)
theorem eq_nil {L:List Str} (h:∀ y∈L,PyData.strOk y=true):cmpV .Eq (.list (L.map .str)) (.list [])=some L.isEmpty:=by
  refine (eqStrsV (M:=[]) h (fun _ q=>(nomatch q))).trans ?_
  cases L <;> rfl
structure Pn (D:Wd) (X:Gw D) where
  Z:Dn D X
  f51:FnAt D "ISEOF" 51
  f61:FnAt D "rgb_to_hls" 61
  tE:Tok
  gE:D.gl "ENDMARKER"=some (.int 0 tE)
  gmax:D.gl "max"=some (.builtin "max")
  gmin:D.gl "min"=some (.builtin "min")
  gsum:D.gl "sum"=some (.builtin "sum")
  grange:D.gl "range"=some (.type "range")
  genum:D.gl "enumerate"=some (.type "enumerate")
  nb:NoneBooked D.h0
structure WsOk (ws:List Str) (hs:List Nat) (cp:List (Nat × Nat)):Prop where
  lw:ws.length=5
  lh:hs.length=5
  lc:cp.length=5
  nd:ws.Nodup
  menu:∀ w∈ws,w∈menu
  h1:∀ h∈hs,1≤h∧h≤8
  c1:∀ c∈cp,c.1 < 48∧c.2 < 48
section
variable {D:Wd} (w:Mws D) (Z:Pn D w.Y) {k:Nat} {σ:Site D (k+1)} {ws:List Str} {hs:List Nat} {cp:List (Nat × Nat)} (ok:WsOk ws hs cp)
noncomputable abbrev Mws.P (w:Mws D) (σ:Site D (k+1)):Fx:=σ.fxg (fScope 69) ks69 ok69 w.Y
noncomputable abbrev sF (ws:List Str) (hs:List Nat) (cp:List (Nat × Nat)) (P L:Slot) (rem:List Nat) (work free place red blue light:Slot):List Slot:=st69 ws hs cp work P L (.val (.list ((wsOf ws rem).map .str))) free place red blue light .non .non .non
include ok in
theorem freeTest {P L free red blue light:Slot} {rem:List Nat} {n:Nat} {x:Str} {g:MSt} {W:Addr→Prop} (hr:rem.length≤5) (hx:x∈Mine.menu) (hwm:∀ y∈wsOf ws rem,y∈Mine.menu) (e:Expr) (he:∃ b r pos,fB69[(0:Nat)]?=some (.If e b r pos)) :
    Tests ((w.P σ).cx (sF ws hs cp P L rem (.val (.str x)) free (.val (.int n)) red blue light) g W) e (freeAt ws rem x):=by
  obtain ⟨b,r,pos,he⟩:=he
  have he':some (fB69.head (by decide))=some (Stmt.If e b r pos):=he
  cases he'
  have hlen:(wsOf ws rem).length≤5:=by unfold wsOf; rw [List.length_map]; exact hr
  refine Tests.cmp (va:=.list (((wsOf ws rem).filter fun y=>(y != x) && Txt.startswith y x).map .str)) (vb:=.list []) (t:=freeAt ws rem x) ?_ (.list .nil) ?_
  · have e1:(((wsOf ws rem).filter fun y=>(y != x) && Txt.startswith y x).map V.str)=(((wsOf ws rem).map V.str).filter fun v=>match v with | .str y=>(y != x) && Txt.startswith y x | _=>false).map fun v=>v:=by
      rw [List.map_id',List.filter_map]; rfl
    rw [e1]
    apply DoesF.does
    apply DoesF.comp (src:=.list ((wsOf ws rem).map .str)) (bs:=fun v=>[("one",v)]) (xs:=(wsOf ws rem).map .str)
    · exact .nm (Fx.var (i:=7) rfl rfl)
    · exact if_pos (shortL_of (by rw [List.length_map]; omega))
    · exact .inl ⟨_,_,rfl⟩
    · decide
    · decide
    · exact Site.free (σ:=σ) (sc:=fScope 69) (by decide)
    · intro v hv
      obtain ⟨y,hy74_1⟩:=List.mem_map.mp hv
      have hx74_0:=hy74_1.2
      clear hy74_1
      subst hx74_0
      exact .name (by decide) rfl rfl
    · intro v hv cl C hk hcl
      obtain ⟨y,hy77_1⟩:=List.mem_map.mp hv
      have hy:=hy77_1.1
      have hx77_0:=hy77_1.2
      clear hy77_1
      subst hx77_0
      have kw:(σ.env (fScope 69)).kindOf (Str.ofString "work")≠some .local:=by show (fScope 69).names.lookup _≠_; decide
      have wo:∀ p1:Pos,Does ((w.P σ).cx (sF ws hs cp P L rem (.val (.str x)) free (.val (.int n)) red blue light) g W |>.comp _ cl C [("one",V.str y)] hk) (.Name "one" p1) (.str y):=fun p1=>.nm (Cx.own List.mem_cons_self (by decide))
      have ww:∀ p1:Pos,Does ((w.P σ).cx (sF ws hs cp P L rem (.val (.str x)) free (.val (.int n)) red blue light) g W |>.comp _ cl C [("one",V.str y)] hk) (.Name "work" p1) (.str x):=fun p1=>.nm (Cx.out (Fx.var (i:=4) rfl rfl) hcl (by decide) kw)
      exact Tests.and (.cmp (wo _) (ww _) neqStr) fun _=>.val (.startswith (wo _) (ww _)) rfl
    · intro v hv hp cl C hk hcl
      obtain ⟨y,hy83_1⟩:=List.mem_map.mp hv
      have hy:=hy83_1.1
      have hx83_0:=hy83_1.2
      clear hy83_1
      subst hx83_0
      exact Does.flat (.nm (Cx.own List.mem_cons_self (by decide)))
  · unfold freeAt
    have hok:∀ y∈(wsOf ws rem).filter fun y=>(y != x) && Txt.startswith y x,PyData.strOk y=true:=fun y hy=>menu_ok y (hwm y (List.mem_filter.mp hy).1)
    generalize ((wsOf ws rem).filter fun y=>(y != x) && Txt.startswith y x)=L' at hok
    exact eq_nil hok
end
theorem maxN_swap (a b c:Nat):maxN a [b,c]=maxN a [c,b]:=by
  simp only [maxN]; (repeat' split) <;> omega
theorem minN_swap (a b c:Nat):minN a [b,c]=minN a [c,b]:=by
  simp only [minN]; (repeat' split) <;> omega
section
variable {D:Wd} (w:Mws D) (Z:Pn D w.Y) {k:Nat} {σ:Site D (k+1)} {ws:List Str} {hs:List Nat} {cp:List (Nat × Nat)} (ok:WsOk ws hs cp)
include ok
theorem WsOk.idx {j:Nat} (hj:j < 5):ws.getD j ""∈ws∧ws.idxOf (ws.getD j "")=j:=by
  have h:j < ws.length:=by rw [ok.lw]; exact hj
  have e:ws.getD j ""=ws[j]:=by rw [List.getD_eq_getElem?_getD,List.getElem?_eq_getElem h]; rfl
  rw [e]
  exact ⟨List.getElem_mem h,ok.nd.idxOf_getElem j h⟩
theorem WsOk.left {rem:List Nat} (hl:rem.length≤5) (hr:∀ j∈rem,j < 5):leftOf hs rem≤40:=by
  have h8:∀ j∈rem,hs.getD j 0≤8:=fun j hj=>by
    have h:j < hs.length:=by rw [ok.lh]; exact hr j hj
    rw [List.getD_eq_getElem?_getD,List.getElem?_eq_getElem h]
    exact (ok.h1 _ (List.getElem_mem h)).2
  have:∀ l:List Nat,(∀ j∈l,hs.getD j 0≤8)→(l.map fun k=>hs.getD k 0).sum≤8 * l.length:=by
    intro l
    induction l with
    | nil=>intro _; exact Nat.le_refl _
    | cons a l ih =>
      intro h
      have h1:=h a List.mem_cons_self
      have h2:=ih fun j hj=>h j (.tail _ hj)
      rw [List.map_cons,List.sum_cons,List.length_cons]; omega
  have:=this rem h8
  unfold leftOf; omega
include Z in
theorem freeStep {P:Slot} {rem:List Nat} {n:Nat} {g:MSt} {ts:List Tok} {t₀:Nat} (hl5:rem.length≤5) (hr:∀ j∈rem,j < 5) (hn:n < rem.length) (hlen:(pricesR ws hs cp rem n).length=ts.length) (hnd:ts.Nodup) (hlt:∀ u∈ts,u < t₀) :
    RunsT (w.P σ) fB69 (((sF ws hs cp P (.val (nV (leftOf hs rem))) rem .non (.own (flkL (pricesR ws hs cp rem n) ts)) .non .non .non .non).set 9 (.val (.int n))).set 4 (.val (.str (ws.getD (rem.getD n 0) "")))) g
      (fun t ρ' g' t'=>t₀≤t→∃ ts',(pricesR ws hs cp rem (n+1)).length=ts'.length∧ts'.Nodup∧(∀ u∈ts',u < t')∧ρ'=sF ws hs cp P (.val (nV (leftOf hs rem))) rem .non (.own (flkL (pricesR ws hs cp rem (n+1)) ts')) .non .non .non .non∧g'=g):=by
  have hj:rem.getD n 0∈rem:=by rw [List.getD_eq_getElem?_getD,List.getElem?_eq_getElem hn]; exact List.getElem_mem hn
  have hj5:=hr _ hj
  have hleft:=ok.left hl5 hr
  have hz41:=ok.idx hj5
  have hxm:=hz41.1
  have hxi:=hz41.2
  clear hz41
  have hwm:∀ y∈wsOf ws rem,y∈Mine.menu:=fun y hy=>by
    obtain ⟨j,hy43_1⟩:=List.mem_map.mp hy
    have hj:=hy43_1.1
    have hx43_0:=hy43_1.2
    clear hy43_1
    subst hx43_0
    exact ok.menu _ (ok.idx (hr j hj)).1
  have hpn:pricesR ws hs cp rem (n+1)=pricesR ws hs cp rem n++(if freeAt ws rem (ws.getD (rem.getD n 0) "")=true then [(costOf cp (rem.getD n 0) (leftOf hs rem),n)] else []):=by
    unfold pricesR freeTo
    rw [List.range_succ,List.filter_append,List.map_append]
    congr 1
    by_cases q:freeAt ws rem (ws.getD (rem.getD n 0) "")=true
    · rw [List.filter_cons_of_pos (p:=fun p=>freeAt ws rem (ws.getD (rem.getD p 0) "")) (l:=[]) q,if_pos q]; rfl
    · rw [List.filter_cons_of_neg (p:=fun p=>freeAt ws rem (ws.getD (rem.getD p 0) "")) (l:=[]) q,if_neg q]; rfl
  generalize hje:rem.getD n 0=j at *
  generalize hxe:ws.getD j ""=x at *
  have hplen:(pricesR ws hs cp rem n).length≤n:=by
    unfold pricesR freeTo; rw [List.length_map]; exact Nat.le_trans (List.length_filter_le _ _) (by simp)
  obtain ⟨hc1,hc2⟩:=ok.c1 (cp.getD j (0,0)) (by
    have h:j < cp.length:=by rw [ok.lc]; exact hj5
    rw [List.getD_eq_getElem?_getD,List.getElem?_eq_getElem h]; exact List.getElem_mem h)
  have hcj:(cp.map capV)[((j:Nat):Int).toNat]?=some (.tup [nV (cp.getD j (0,0)).1,nV (cp.getD j (0,0)).2]):=by
    have h:j < cp.length:=by rw [ok.lc]; exact hj5
    rw [Int.toNat_natCast,List.getElem?_map,List.getD_eq_getElem?_getD,List.getElem?_eq_getElem h]; rfl
  obtain ⟨lh,ls,hlight⟩:=lightG k Z.f61 Z.gmax Z.gmin (r:=(cp.getD j (0,0)).1) (l:=leftOf hs rem) (b:=(cp.getD j (0,0)).2) hc1 (by omega) hc2
  generalize hre:(cp.getD j (0,0)).1=rd at *
  generalize hbe:(cp.getD j (0,0)).2=bl at *
  have hcost:costOf cp j (leftOf hs rem)=maxN rd [leftOf hs rem,bl]+minN rd [leftOf hs rem,bl]:=by
    unfold costOf; rw [hre,hbe,maxN_swap,minN_swap]
  have hc95:costOf cp j (leftOf hs rem) < 95:=by
    have h1:maxN rd [leftOf hs rem,bl] < 48:=maxN_le _ _ hc1 fun v hv=>by rcases List.mem_cons.mp hv with rfl | hv; omega; rw [List.mem_singleton.mp hv]; exact hc2
    have h2:=minN_le [leftOf hs rem,bl] rd
    rw [hcost]; omega
  have hmono:∀ t t₁ ρ' (g':MSt) t',t≤t₁→(g'=g∧((freeAt ws rem x=true∧∃ tk,t₁≤tk∧tk < t'∧ρ'=sF ws hs cp P (.val (nV (leftOf hs rem))) rem (.val (.str x)) (.own (flkL (pricesR ws hs cp rem n) ts++[.tup [.flk (fl (costOf cp j (leftOf hs rem))) tk,.int (n:Int)]])) (.val (.int n)) (.val (nV rd)) (.val (nV bl)) (.val (.flt (Float64.div (q64 (costOf cp j (leftOf hs rem))) 0x4000000000000000))))
     ∨(freeAt ws rem x=false∧ρ'=sF ws hs cp P (.val (nV (leftOf hs rem))) rem (.val (.str x)) (.own (flkL (pricesR ws hs cp rem n) ts)) (.val (.int n)) .non .non .non)))→(g'=g∧((freeAt ws rem x=true∧∃ tk,t≤tk∧tk < t'∧ρ'=sF ws hs cp P (.val (nV (leftOf hs rem))) rem (.val (.str x)) (.own (flkL (pricesR ws hs cp rem n) ts++[.tup [.flk (fl (costOf cp j (leftOf hs rem))) tk,.int (n:Int)]])) (.val (.int n)) (.val (nV rd)) (.val (nV bl)) (.val (.flt (Float64.div (q64 (costOf cp j (leftOf hs rem))) 0x4000000000000000))))
     ∨(freeAt ws rem x=false∧ρ'=sF ws hs cp P (.val (nV (leftOf hs rem))) rem (.val (.str x)) (.own (flkL (pricesR ws hs cp rem n) ts)) (.val (.int n)) .non .non .non))):=fun t t₁ ρ' g' t' h q =>
    ⟨q.1,q.2.imp (fun ⟨a,tk,b,c⟩=>⟨a,tk,Nat.le_trans h b,c⟩) id⟩
  refine RunsT.post (Q:=fun t ρ' g' t'=>g'=g∧((freeAt ws rem x=true∧∃ tk,t≤tk∧tk < t'∧ρ'=sF ws hs cp P (.val (nV (leftOf hs rem))) rem (.val (.str x)) (.own (flkL (pricesR ws hs cp rem n) ts++[.tup [.flk (fl (costOf cp j (leftOf hs rem))) tk,.int (n:Int)]])) (.val (.int n)) (.val (nV rd)) (.val (nV bl)) (.val (.flt (Float64.div (q64 (costOf cp j (leftOf hs rem))) 0x4000000000000000))))
     ∨(freeAt ws rem x=false∧ρ'=sF ws hs cp P (.val (nV (leftOf hs rem))) rem (.val (.str x)) (.own (flkL (pricesR ws hs cp rem n) ts)) (.val (.int n)) .non .non .non))) ?_ fun t ρ₂ g' t' htt hq=>?_
  · refine RunsT.one (RunT.iff (x:=freeAt ws rem x) (fun W=>freeTest w ok hl5 (ok.menu _ hxm) hwm _ ⟨_,_,_,rfl⟩) (fun hx=>?_) (fun hx=>RunsT.nil fun t=>⟨rfl,.inr ⟨hx,rfl⟩⟩) fun t t₁ ρ' g' t' h q=>?_)
    · refine RunsT.cons (ρ₁:=sF ws hs cp P (.val (nV (leftOf hs rem))) rem (.val (.str x)) (.own (flkL (pricesR ws hs cp rem n) ts)) (.val (.int n)) (.val (nV rd)) (.val (nV bl)) .non) (g₁:=g) ?_ ?_ hmono
      · apply Run1.asg2 (F:=w.P σ) (i:=10) (j:=11)
        · exact fun W=>.idx (vs:=cp.map capV) (k:=((j:Nat):Int)) (.nm (Fx.var (i:=3) rfl rfl)) (hxi ▸ indexD (.nm (Fx.var (i:=1) rfl rfl)) (.nm (Fx.var (i:=4) rfl rfl)) (shortL_of (by rw [ok.lw]; decide)) hxm) (Int.natCast_nonneg _) hcj (shortL_of (by rw [List.length_map,ok.lc]; decide))
        · rfl
        · rfl
        · rfl
        · rfl
      refine RunsT.cons (ρ₁:=sF ws hs cp P (.val (nV (leftOf hs rem))) rem (.val (.str x)) (.own (flkL (pricesR ws hs cp rem n) ts)) (.val (.int n)) (.val (nV rd)) (.val (nV bl)) (.val (.flt (Float64.div (q64 (costOf cp j (leftOf hs rem))) 0x4000000000000000)))) (g₁:=g) ?_ ?_ hmono
      · apply Run1.asg (F:=w.P σ) (i:=12)
        · intro W
          rw [hcost]
          refine .idxT (vs:=[.flt lh,.flt (Float64.div (q64 (maxN rd [leftOf hs rem,bl]+minN rd [leftOf hs rem,bl])) 0x4000000000000000),.flt ls]) (k:=1) ?_ .int (by decide) rfl rfl
          refine FnAt.does Z.f61 rfl Site.extG1 (knd (sc:=fScope 69) (by decide)) (vs:=[.flt (q64 rd),.flt (q64 (leftOf hs rem)),.flt (q64 bl)]) (.cons (.bin (.nm (Fx.var (i:=10) rfl rfl)) .int (divQ hc1)) (.cons (.bin (.nm (Fx.var (i:=6) rfl rfl)) .int (divQ (by omega))) (.cons (.bin (.nm (Fx.var (i:=11) rfl rfl)) .int (divQ hc2)) .nil))) ?_
          exact hlight rfl σ.hA Site.extG1
        · rfl
        · rfl
      refine RunsT.one ?_
      have hfl:Float64.mul (Float64.ofInt 128) (Float64.div (q64 (costOf cp j (leftOf hs rem))) 0x4000000000000000)=fl (costOf cp j (leftOf hs rem)):=q_light ⟨costOf cp j (leftOf hs rem),hc95⟩
      refine fun W s E fr=>wpAny_mono ((RunT.append (F:=w.P σ) (i:=8) (v:=fun t=>.tup [.flk (fl (costOf cp j (leftOf hs rem))) t,.int (n:Int)]) (fun W s E fr=>?_) rfl rfl (shortL_of (by rw [flkL_len hlen]; omega))) W s E fr) (fun f s' q=>?_) fun _ _ q=>q
      · rw [← hfl]
        exact mulPair (c:=(w.P σ).cx (sF ws hs cp P (.val (nV (leftOf hs rem))) rem (.val (.str x)) (.own (flkL (pricesR ws hs cp rem n) ts)) (.val (.int n)) (.val (nV rd)) (.val (nV bl)) (.val (.flt (Float64.div (q64 (costOf cp j (leftOf hs rem))) 0x4000000000000000)))) g W) .int (.nm (Fx.var (i:=12) rfl rfl)) (.nm (Fx.var (i:=9) rfl rfl)) rfl s E fr
      · have e:=q.1
        have hw99_1:=q.2
        try clear q
        obtain ⟨ρ',g',W',hy99_1⟩:=hw99_1
        have hx99_0:=hy99_1.1
        have fr':=hy99_1.2.1
        have mv:=hy99_1.2.2
        clear hy99_1
        obtain ⟨tk,a1,a2,a3,a4⟩:=hx99_0
        exact ⟨e,ρ',g',W',⟨a4,.inl ⟨hx,tk,a1,a2,a3⟩⟩,fr',mv⟩
    · exact hmono _ _ _ _ _ h q
  · obtain ⟨rfl,⟨hx,tk,a1,a2,rfl⟩ | ⟨hx,rfl⟩⟩:=hq
    · refine ⟨sF ws hs cp P (.val (nV (leftOf hs rem))) rem .non (.own (flkL (pricesR ws hs cp rem (n+1)) (ts++[tk]))) .non .non .non .non,fun h0=>⟨ts++[tk],?_,?_,?_,rfl,rfl⟩,fun i sl h=>?_⟩
      · rw [hpn,if_pos hx,List.length_append,List.length_append,hlen]; rfl
      · refine List.nodup_append.mpr ⟨hnd,List.nodup_cons.mpr ⟨fun q=>(nomatch q),List.nodup_nil⟩,fun a ha b hb=>?_⟩
        rw [List.mem_singleton.mp hb]
        exact fun e=>Nat.lt_irrefl _ (Nat.lt_of_lt_of_le (e ▸ hlt a ha) (Nat.le_trans h0 a1))
      · intro u hu
        rcases List.mem_append.mp hu with q | q
        · exact Nat.lt_trans (hlt u q) (Nat.lt_of_le_of_lt (Nat.le_trans h0 a1) a2)
        · rw [List.mem_singleton.mp q]; exact a2
      · rw [hpn,if_pos hx,flkL_snoc hlen] at h
        exact DropL.ok (by repeat constructor) i sl h
    · refine ⟨sF ws hs cp P (.val (nV (leftOf hs rem))) rem .non (.own (flkL (pricesR ws hs cp rem (n+1)) ts)) .non .non .non .non,fun h0=>⟨ts,?_,hnd,?_,rfl,rfl⟩,fun i sl h=>?_⟩
      · rw [hpn,hx,if_neg Bool.false_ne_true,List.append_nil]; exact hlen
      · exact fun u hu=>Nat.lt_of_lt_of_le (hlt u hu) (Nat.le_trans h0 htt)
      · rw [hpn,hx,if_neg Bool.false_ne_true,List.append_nil] at h
        exact DropL.ok (by repeat constructor) i sl h
end
section
variable {F:Fx} {ρ ρ':List Slot} {g g':F.Γ}
theorem Run1.appendG2 {x:Str} {i k:Nat} {px apos cpos pos tp:Pos} {ea eb:Expr} {vs:List V} {a b:V} {l:List Addr} (hl:∀ b,F.Wg b ↔ b∈l) (ha:DoesW F ρ g ea a) (haf:a.flat=true) (hb:∀ W,DoesG (F.cx ρ g W) l eb b (F.G g')) (hbf:b.flat=true)
    (live:∀ h,F.G g' h→∀ b,F.Wg b→∃ o,h.get? b=some o) (hx:F.ks[i]?=some x) (hi:ρ[i]?=some (.own vs)) (hsl:shortL vs.length=true)
    (hsw:swapsWith (.Call (.Attribute (.Name x px) (Str.ofString "append") apos) [.Tuple [ea,eb] k tp] [] cpos) none pos.line F.env=pure false:=by rfl)
    (hbase:attributeBase (.Name x px) (Str.ofString "append") F.env (eval (.Name x px) F.env)=eval (.Name x px) F.env:=by rfl)
    (hfew:((backTo cpos (starEach [.Tuple [ea,eb] k tp] F.env)).all (fun x=>!x.1) && (backToKw cpos (keywordEach [] F.env)).all (fun x=>x.1.isSome)
      && decide (([.Tuple [ea,eb] k tp]:List Expr).length+([]:List Keyword).length+(if ([]:List Keyword).isEmpty then 0 else 1) < 30))=true:=by rfl)
    (hline:(apos.endLine == cpos.line)=true:=by rfl) (htr:backTo cpos (starEach [.Tuple [ea,eb] k tp] F.env)=[(false,eval (.Tuple [ea,eb] k tp) F.env)]:=by rfl) (hd:(x == ("__debug__":Str))=false:=by decide)
    (he1:starEach [ea,eb] F.env=(false,eval ea F.env) :: starEach [eb] F.env:=by rfl) (he2:starEach [eb] F.env=(false,eval eb F.env) :: starEach [] F.env:=by rfl) :
    Run1 F (.Expr (.Call (.Attribute (.Name x px) (Str.ofString "append") apos) [.Tuple [ea,eb] k tp] [] cpos) pos) ρ g (ρ.set i (.own (vs++[.tup [a,b]]))) g':=fun W s E fr=>by
  refine wpAny_Expr ?_ (interactive_fn F.hk) hsw
  obtain ⟨m,cm,α,fr⟩:=fr
  refine wpAny_Call_append hbase hfew hline htr (fr.name hx hi ?_ hd)
  have hz20:=fr.slot i x _ hx hi
  have hw20_1:=hz20.2.2.2
  clear hz20
  obtain ⟨rs,hy20_1⟩:=hw20_1
  have hx20_0:=hy20_1.1
  clear hy20_1
  obtain ⟨n,hpl⟩:=hx20_0
  refine ⟨_,rs.toArray,rfl,⟨_,n,hpl,rfl,rfl,rfl⟩,?_⟩
  refine wpAny_Tuple (wpAny_items_cons (wpAny_mono (ha W s E ⟨m,cm,α,fr⟩) (fun ra s₁ q=>?_) fun _ _ q=>q) he1)
  have xa:=q.1
  have k₁:=q.2
  try clear q
  have fr₁:=fr.keeps k₁.1 k₁.2.1
  refine wpAny_items_cons (wpAny_mono (hb W s₁ E ⟨m,cm,α,fr₁⟩) (fun rb s₂ q=>?_) fun _ _ q=>q) he2
  have xb:=q.1
  have hG:=q.2.1
  have mg:=q.2.2
  try clear q
  have fr₂:=fr₁.gmove mg.same mg.tk (fun b o hb e=>mg.kept b o (fun z=>hb ((hl b).mpr z)) e) hG (live _ hG)
  refine Calls.spliced_nil ⟨by rw [sizeLine_eq]; show 2≤16777216; decide,?_⟩
  have k₃:K1 s₂ { s₂ with heap:=s₂.heap.push { cls:=.type "tuple",data:=.seq #[ra,rb] } }:=K1.push mg.tk
  have fr₃:=fr₂.keeps k₃.1 k₃.2.1
  have hz31:=fr₃.slot i x _ hx hi
  have hw31_1:=hz31.2.2.2
  clear hz31
  obtain ⟨rs₃,hy31_1⟩:=hw31_1
  have hx31_0:=hy31_1.1
  have hvs₃:=hy31_1.2
  clear hy31_1
  obtain ⟨n₃,hpl₃⟩:=hx31_0
  have h1:vs.length < 4096:=Nat.le_of_ble_eq_true hsl
  refine wpAny_list_append_plain (l:=α i) (items:=rs₃.toArray) ⟨n₃,hpl₃⟩ (fun h' hl' hs'=>?_) (by rw [List.size_toArray,hvs₃.rel.length,sizeLine_eq]; omega)
  have hvx:VX W F.μ (s₂.heap.push { cls:=.type "tuple",data:=.seq #[ra,rb] }) (.tup [a,b]) (.ref s₂.heap.objs.size):=fun h'' k''=>by
    unfold VRel
    exact ⟨_,[ra,rb],rfl,⟨_,k'' _ _ (.inl ⟨_,_,rfl⟩) (fun q=>Nat.lt_irrefl _ (fr₂.lt _ q)) (Heap.get?_push_size _ rfl),rfl,_,rfl⟩,.cons (xa.flat haf) (.cons (xb.rel.flat hbf) .nil)⟩
  have mv₂:Mv s₁ s₂ W W:=⟨fun b o hb e=>mg.kept b o (fun y=>hb (fr.gW b ((hl b).mpr y)).1) e,mg.size,fun b q=>.inl q⟩
  exact ⟨rfl,W,⟨m,cm,α,fr₃.wrote hx hi hs' (by simpa using hl') (hvs₃.snoc hvx)⟩,(Mv.of k₁).trans (mv₂.trans ((Mv.of k₃).trans (fr₃.wroteMv hx hi hs')))⟩
end
theorem marks_val (m:Nat→Bool):digVal ((List.range 5).map fun k=>if m k then (1:Int) else 0) 1 0 5=(((List.range 5).map fun k=>if m k then 2 ^ k else 0).sum:Nat):=by
  simp only [show List.range 5=[0,1,2,3,4] from rfl,List.map_cons,List.map_nil]
  generalize m 0=a
  generalize m 1=b
  generalize m 2=c
  generalize m 3=d
  generalize m 4=e
  revert a b c d e
  decide
section
variable {D:Wd} (w:Mws D) (Z:Pn D w.Y) {k:Nat} {σ:Site D (k+1)} {ws:List Str} {hs:List Nat} {cp:List (Nat × Nat)} (ok:WsOk ws hs cp)
include ok
theorem WsOk.mem {rem:List Nat} (hr:∀ j∈rem,j < 5) {j:Nat} (hj:j < 5):ws.getD j ""∈wsOf ws rem ↔ j∈rem:=by
  constructor
  · intro h
    obtain ⟨i,hy56_1⟩:=List.mem_map.mp h
    have hi:=hy56_1.1
    have e:=hy56_1.2
    clear hy56_1
    have h1:=(ok.idx (hr i hi)).2
    have h2:=(ok.idx hj).2
    have:ws.getD i ""=ws.getD j "":=e
    rw [this,h2] at h1
    exact h1 ▸ hi
  · exact fun h=>List.mem_map.mpr ⟨j,h,rfl⟩
theorem WsOk.eta:ws=(List.range 5).map fun j=>ws.getD j "":=by
  apply List.ext_getElem
  · rw [List.length_map,List.length_range]; exact ok.lw
  · intro i h1 h2
    rw [List.getElem_map,List.getElem_range,List.getD_eq_getElem?_getD,List.getElem?_eq_getElem h1]; rfl
theorem WsOk.marks {rem:List Nat} (hr:∀ j∈rem,j < 5):(ws.map fun x=>if x∈wsOf ws rem then (1:Int) else 0)=(List.range 5).map fun j=>if decide (j∈rem)=true then (1:Int) else 0:=by
  conv=>lhs; rw [ok.eta]
  rw [List.map_map]
  refine List.map_congr_left fun j hj=>?_
  have hj5:j < 5:=by simpa using hj
  show (if ws.getD j ""∈wsOf ((List.range 5).map fun j=>ws.getD j "") rem then (1:Int) else 0)=_
  rw [← ok.eta]
  by_cases q:j∈rem
  · rw [if_pos ((ok.mem hr hj5).mpr q),if_pos (decide_eq_true q)]
  · rw [if_neg (fun z=>q ((ok.mem hr hj5).mp z)),if_neg (fun z=>q (of_decide_eq_true z))]
end
section
set_option tactic.hygienic true
theorem minP_mem:∀ (ps:List (Nat × Nat)) (b:Nat × Nat),minP b ps=b∨minP b ps∈ps
  | [],b=>.inl rfl
  | p :: ps,b=>by
    unfold minP
    split
    · rcases minP_mem ps p with q | q
      · rw [q]; exact .inr List.mem_cons_self
      · exact .inr (.tail _ q)
    · rcases minP_mem ps b with q | q
      · exact .inl q
      · exact .inr (.tail _ q)
theorem minPL_mem {ps:List (Nat × Nat)} (h:ps≠[]):minPL ps∈ps:=by
  cases ps with
  | nil=>exact absurd rfl h
  | cons p ps =>
    rcases minP_mem ps p with q | q
    · show minP p ps∈_; rw [q]; exact List.mem_cons_self
    · exact .tail _ q
noncomputable abbrev sB (ws:List Str) (hs:List Nat) (cp:List (Nat × Nat)) (P:Slot) (rem:List Nat):List Slot:=st69 ws hs cp .non P (.val (nV (leftOf hs rem))) .non .non .non .non .non .non .non .non .non
theorem take_erase (rem:List Nat) (n p:Nat) (hn:n < rem.length):(rem.take (n+1)).eraseIdx p=if n=p then rem.take n else (rem.take n).eraseIdx p++[rem[n]]:=by
  rw [List.take_succ_eq_append_getElem hn]
  have hl:(rem.take n).length=n:=by rw [List.length_take]; omega
  split
  · rename_i h
    subst h
    rw [List.eraseIdx_append_of_length_le (by omega),hl]
    simp
  · rename_i h
    rcases Nat.lt_or_gt_of_ne h with q | q
    · rw [List.eraseIdx_of_length_le (l:=rem.take n++[rem[n]]) (by rw [List.length_append,hl]; show n+1≤p; omega),List.eraseIdx_of_length_le (l:=rem.take n) (by omega)]
    · rw [List.eraseIdx_append_of_lt_length (by omega)]
theorem left_erase (hs rem:List Nat) (p:Nat) (hp:p < rem.length):leftOf hs (rem.eraseIdx p)+hs.getD (rem.getD p 0) 0=leftOf hs rem:=by
  have e:rem.getD p 0=rem[p]:=by rw [List.getD_eq_getElem?_getD,List.getElem?_eq_getElem hp]; rfl
  rw [e]
  unfold leftOf
  have h1:rem.eraseIdx p=rem.take p++rem.drop (p+1):=List.eraseIdx_eq_take_drop_succ ..
  have h2:rem=rem.take p++rem[p] :: rem.drop (p+1):=by rw [← List.drop_eq_getElem_cons hp,List.take_append_drop]
  rw [h1]
  conv=>rhs; rw [h2]
  simp only [List.map_append,List.sum_append,List.map_cons,List.sum_cons]
  omega
section
variable {D:Wd} (w:Mws D) (Z:Pn D w.Y) {k:Nat} {σ:Site D (k+1)} {ws:List Str} {hs:List Nat} {cp:List (Nat × Nat)} (ok:WsOk ws hs cp)
theorem takeAll {P:List V} {rem:List Nat} {st:MSt} {W0:Unit} (hμ:σ.μ=w.m.x) (hPl:P.length+rem.length=5) (hne:0 < rem.length) (Z:Pn D w.Y) (S:Stmt) (hS:wB69[(0:Nat)]?=some S) :
    Run1 (w.P σ) S (sB ws hs cp (.own P) rem) { st with pb:=wsOf ws rem } ((sB ws hs cp (.own P) rem).set 7 (.val (.list ((wsOf ws rem).map .str)))) { st with pb:=[] }:=by
  have hS':some (wB69.head (by decide))=some S:=hS
  cases hS'
  have hlen:(wsOf ws rem).length=rem.length:=by unfold wsOf; rw [List.length_map]
  have e0:({ st with pb:=wsOf ws rem }:MSt)=(fun j=>({ st with pb:=(wsOf ws rem).drop j }:MSt)) 0:=rfl
  have e1:({ st with pb:=[] }:MSt)=(fun j=>({ st with pb:=(wsOf ws rem).drop j }:MSt)) ((List.range rem.length).map fun (i:Nat)=>V.int (0+(i:Int))).length:=by
    show _=({ st with pb:=(wsOf ws rem).drop _ }:MSt)
    rw [List.length_map,List.length_range,List.drop_eq_nil_of_le (by omega)]
  rw [e1]
  refine Run1.asgCGf (σ:=σ) (sc:=fScope 69) (ks:=ks69) (ok:=ok69) (X:=w.Y) (i:=7) (src:=.rng 0 (rem.length)) (xs:=(List.range rem.length).map fun (i:Nat)=>V.int (0+(i:Int))) (gs:=fun j=>{ st with pb:=(wsOf ws rem).drop j }) (ys:=(wsOf ws rem).map .str) ?_ ?_ ?_ ?_ ?_ ?_ ?_ ?_ ?_ ?_ rfl ?_ ?_ ?_
  · rfl
  · rfl
  · refine DoesA.new (fun W=>DoesF.range1 (knd (sc:=fScope 69) (by decide)) Z.grange (n:=(rem.length:Int)) ?_) (by intro q; cases q)
    refine Does.bin .int (Does.callB (knd (sc:=fScope 69) (by decide)) Z.Z.glen (.cons (.nm (Fx.varO (i:=5) rfl rfl)) .nil) (Gives1.len (shortL_of (by omega)))) ?_
    show some (V.int _)=_
    congr 2; omega
  · have e:((rem.length:Int) - 0).toNat=rem.length:=by omega
    refine (if_pos ?_).trans ?_
    · rw [e]
      have h1:small (rem.length:Int)=true:=by unfold small; rw [Nat.blt_eq]; exact Nat.lt_of_le_of_lt (show ((rem.length:Int)).natAbs≤5 by omega) (by decide)
      rw [h1,shortL_of (show rem.length < 4096 by omega)]; rfl
    · rw [e]
  · exact .inr ⟨_,List.mem_map.mpr ⟨0,List.mem_range.mpr hne,rfl⟩⟩
  · intro v hv
    obtain ⟨i,hy74_1⟩:=List.mem_map.mp hv
    have hx74_0:=hy74_1.2
    clear hy74_1
    subst hx74_0
    rfl
  · decide
  · decide
  · exact Site.free (σ:=σ) (sc:=fScope 69) (by decide)
  · rfl
  · rw [List.length_map,List.length_map,List.length_range,hlen]
  · exact List.all_eq_true.mpr fun v hv=>by obtain ⟨x,_,rfl⟩:=List.mem_map.mp hv; rfl
  · intro j v y hv hy W cl C hcl
    rw [List.getElem?_map] at hy
    obtain ⟨x,hy84_1⟩:=Option.map_eq_some_iff.mp hy
    have hx:=hy84_1.1
    have hx84_0:=hy84_1.2
    clear hy84_1
    subst hx84_0
    have hj:j < (wsOf ws rem).length:=(List.getElem?_eq_some_iff.mp hx).1
    have hd:(wsOf ws rem).drop j=x :: (wsOf ws rem).drop (j+1):=by
      rw [List.drop_eq_getElem_cons hj]
      rw [List.getElem?_eq_getElem hj] at hx
      cases hx; rfl
    have kn:(σ.env (fScope 69)).kindOf (Str.ofString "machine")≠some .local:=by show (fScope 69).names.lookup _≠_; decide
    refine getG w (c:=((w.P σ).cx (sB ws hs cp (.own P) rem) { st with pb:=(wsOf ws rem).drop j } W).comp _ cl C [("_",v)] rfl) (k:=k) rfl hμ σ.hA (st:={ st with pb:=(wsOf ws rem).drop j }) (st':={ st with pb:=(wsOf ws rem).drop (j+1) }) (fun s h=>Site.extG s h.1) (Cx.out (Fx.var (i:=0) rfl rfl) hcl (by decide) kn)
      (fun σ' e=>(walkGTp w e hd (by show ((wsOf ws rem).drop j).length < 4096; rw [List.length_drop,hlen]; omega)).ends) (fun _=>rfl)
end
end
theorem mapI {ws:List Str} {L:List Str}:((((ws.map V.str).filter fun _=>true).map fun v=>match v with | .str x=>V.int (if x∈L then 1 else 0) | _=>.none))=(ws.map fun x=>if x∈L then (1:Int) else 0).map V.int:=by
  rw [List.filter_eq_self.mpr fun _ _=>rfl,List.map_map,List.map_map]; rfl
section
variable {ws:List Str} {hs:List Nat} {cp:List (Nat × Nat)}
theorem choice_lt {rem:List Nat} (hpr:pricesR ws hs cp rem rem.length≠[]):(choice ws hs cp rem).2 < rem.length∧(choice ws hs cp rem).1=costOf cp (rem.getD (choice ws hs cp rem).2 0) (leftOf hs rem):=by
  have h:=minPL_mem hpr
  unfold pricesR at h
  obtain ⟨p,hy12_1⟩:=List.mem_map.mp h
  have hp:=hy12_1.1
  have e:=hy12_1.2
  clear hy12_1
  unfold freeTo at hp
  have hp':=List.mem_range.mp (List.mem_filter.mp hp).1
  have e':choice ws hs cp rem=(costOf cp (rem.getD p 0) (leftOf hs rem),p):=e.symm
  rw [e']
  exact ⟨hp',rfl⟩
variable (ok:WsOk ws hs cp)
include ok
theorem cost_lt {rem:List Nat} (hl5:rem.length≤5) (hr:∀ j∈rem,j < 5) {j:Nat} (hj:j < 5):costOf cp j (leftOf hs rem) < 127:=by
  have hleft:=ok.left hl5 hr
  obtain ⟨hc1,hc2⟩:=ok.c1 (cp.getD j (0,0)) (by
    have h:j < cp.length:=by rw [ok.lc]; exact hj
    rw [List.getD_eq_getElem?_getD,List.getElem?_eq_getElem h]; exact List.getElem_mem h)
  have h1:maxN (cp.getD j (0,0)).1 [leftOf hs rem,(cp.getD j (0,0)).2] < 48:=maxN_le _ _ hc1 fun v hv=>by rcases List.mem_cons.mp hv with rfl | hv; omega; rw [List.mem_singleton.mp hv]; exact hc2
  have h2:=minN_le [leftOf hs rem,(cp.getD j (0,0)).2] (cp.getD j (0,0)).1
  unfold costOf
  rw [maxN_swap,minN_swap]
  omega
theorem prices_lt {rem:List Nat} (hl5:rem.length≤5) (hr:∀ j∈rem,j < 5) {n:Nat} (hn:n≤rem.length):∀ p∈pricesR ws hs cp rem n,p.1 < 127:=fun p hp=>by
  unfold pricesR at hp
  obtain ⟨q,hy32_1⟩:=List.mem_map.mp hp
  have hq:=hy32_1.1
  have hx32_0:=hy32_1.2
  clear hy32_1
  subst hx32_0
  unfold freeTo at hq
  have hq':=List.mem_range.mp (List.mem_filter.mp hq).1
  have h:q < rem.length:=Nat.lt_of_lt_of_le hq' hn
  refine cost_lt ok hl5 hr (hr _ ?_)
  rw [List.getD_eq_getElem?_getD,List.getElem?_eq_getElem h]
  exact List.getElem_mem h
end
section
variable {D:Wd} (w:Mws D) (Z:Pn D w.Y) {k:Nat} {σ:Site D (k+1)} {ws:List Str} {hs:List Nat} {cp:List (Nat × Nat)} (ok:WsOk ws hs cp)
noncomputable abbrev sG (ws:List Str) (hs:List Nat) (cp:List (Nat × Nat)) (P L:Slot) (rem:List Nat) (work free place price marks k:Slot):List Slot:=st69 ws hs cp work P L (.val (.list ((wsOf ws rem).map .str))) free place .non .non .non price marks k
include Z ok
theorem pickOne {P:Slot} {rem:List Nat} {g:MSt} {ts:List Tok} (hl5:rem.length≤5) (hr:∀ j∈rem,j < 5) (hpr:pricesR ws hs cp rem rem.length≠[]) (hlen:(pricesR ws hs cp rem rem.length).length=ts.length) (hnd:ts.Nodup) (S:Stmt) (hS:wB69[(3:Nat)]?=some S) :
    Run1 (w.P σ) S (sG ws hs cp P (.val (nV (leftOf hs rem))) rem .non (.val (.list (flkL (pricesR ws hs cp rem rem.length) ts))) .non .non .non .non) g
      (sG ws hs cp P (.val (nV (leftOf hs rem))) rem .non (.val (.list (flkL (pricesR ws hs cp rem rem.length) ts))) (.val (nV (choice ws hs cp rem).2)) (.val (.flt (fl (choice ws hs cp rem).1))) .non .non) g:=by
  have hS':some (wB69.get ⟨3,by decide⟩)=some S:=hS
  cases hS'
  have hpl:=prices_lt ok hl5 hr (Nat.le_refl _)
  have hch:choice ws hs cp rem=minPL (pricesR ws hs cp rem rem.length):=rfl
  have hfl:(pricesR ws hs cp rem rem.length).length≤5:=by
    unfold pricesR freeTo; rw [List.length_map]; exact Nat.le_trans (List.length_filter_le _ _) (by simpa using hl5)
  rw [hch]
  generalize pricesR ws hs cp rem rem.length=ps at *
  match ps,ts,hpr,hlen,hpl,hfl with
  | b :: ps,u :: ts,_,hlen,hpl,hfl =>
    obtain ⟨t,hb⟩:=best_k ps ts b u (by simpa using hlen) hnd (hpl b List.mem_cons_self) fun p hp=>hpl p (.tail _ hp)
    apply Run1.asg2 (F:=w.P σ) (i:=13) (j:=9) (a:=.flt (fl (minP b ps).1)) (b:=.int ((minP b ps).2:Int))
    · intro W
      refine Does.callB (knd (sc:=fScope 69) (by decide)) Z.gmin (.cons (.nm (Fx.var (i:=8) rfl rfl)) .nil) ?_
      refine Gives1.minK (x₀:=.tup [.flk (fl b.1) u,.int (b.2:Int)]) (r₀:=flkL ps ts) (t:=t) (if_pos ?_) hb ?_
      · rw [flkL_len hlen]; exact shortL_of (by omega)
      · intro s h
        obtain ⟨mc,hy65_1⟩:=Z.nb
        have q1:=hy65_1.1
        have q2:=hy65_1.2
        clear hy65_1
        have hx:=Site.extG1 s h
        obtain ⟨o,es,ep,hy67_1⟩:=q1
        have e:=hy67_1.1
        have r:=hy67_1.2
        clear hy67_1
        exact ⟨mc,⟨o,es,ep,hx _ _ e,r⟩,q2⟩
    · rfl
    · rfl
    · rfl
    · rfl
theorem markAll {P free place price:Slot} {rem:List Nat} {g:MSt} (hl5:rem.length≤5) (S:Stmt) (hS:wB69[(4:Nat)]?=some S) :
    Run1 (w.P σ) S (sG ws hs cp P (.val (nV (leftOf hs rem))) rem .non free place price .non .non) g
      (sG ws hs cp P (.val (nV (leftOf hs rem))) rem .non free place price (.val (.list ((ws.map fun x=>if x∈wsOf ws rem then (1:Int) else 0).map V.int))) .non) g:=by
  have hS':some (wB69.get ⟨4,by decide⟩)=some S:=hS
  cases hS'
  rw [← mapI]
  apply Run1.asgC (F:=w.P σ) (i:=14) (src:=.list (ws.map .str)) (xs:=ws.map .str) (bs:=fun v=>[("work",v)])
  · rfl
  · exact swaps_local rfl (knd (sc:=fScope 69) (by decide)) rfl (by decide)
  · exact fun W=>.nm (Fx.var (i:=1) rfl rfl)
  · exact if_pos (shortL_of (by rw [List.length_map,ok.lw]; decide))
  · exact .inl ⟨_,_,rfl⟩
  · decide
  · decide
  · exact Site.free (σ:=σ) (sc:=fScope 69) (by decide)
  · intro v hv W
    obtain ⟨x,hy90_1⟩:=List.mem_map.mp hv
    have hx90_0:=hy90_1.2
    clear hy90_1
    subst hx90_0
    exact .name (by decide) rfl rfl
  · intro v hv W cl C hk hcl
    exact rfl
  · intro v hv hp W cl C hk hcl
    obtain ⟨x,hy95_1⟩:=List.mem_map.mp hv
    have hx95_0:=hy95_1.2
    clear hy95_1
    subst hx95_0
    have kw:(σ.env (fScope 69)).kindOf (Str.ofString "waiting")≠some .local:=by show (fScope 69).names.lookup _≠_; decide
    refine Does.flat (hf:=rfl) ?_
    refine Does.ife (x:=(wsOf ws rem).contains x) (Tests.cmp (.nm (Cx.own List.mem_cons_self (by decide))) (.nm (Cx.out (Fx.var (i:=7) rfl rfl) hcl (by decide) kw)) ?_) (fun e=>?_) fun e=>?_
    · show (strsOf ((wsOf ws rem).map V.str)).map (fun y=>y.contains x)=_
      rw [strsOf_map]; rfl
    · have h:(if x∈wsOf ws rem then (1:Int) else 0)=1:=if_pos (by simpa using e)
      show Does _ _ (V.int (if x∈wsOf ws rem then (1:Int) else 0))
      rw [h]; exact .int
    · have h:(if x∈wsOf ws rem then (1:Int) else 0)=0:=if_neg (by simpa using e)
      show Does _ _ (V.int (if x∈wsOf ws rem then (1:Int) else 0))
      rw [h]; exact .int
end
section
variable {D:Wd} (w:Mws D) (Z:Pn D w.Y) {k:Nat} {σ:Site D (k+1)} {ws:List Str} {hs:List Nat} {cp:List (Nat × Nat)} (ok:WsOk ws hs cp)
include Z ok
theorem tellOne {P:List V} {free place:Slot} {x:UInt64} {rem:List Nat} {g:MSt} (hk:6≤k) (hl5:rem.length≤5) (hr:∀ j∈rem,j < 5) (hP:P.length < 5) (S:Stmt) (hS:wB69[(5:Nat)]?=some S) :
    Run1 (w.P σ) S (sG ws hs cp (.own P) (.val (nV (leftOf hs rem))) rem .non free place (.val (.flt x)) (.val (.list ((ws.map fun x=>if x∈wsOf ws rem then (1:Int) else 0).map V.int))) .non) g
      (sG ws hs cp (.own (P++[.tup [.flt x,nV (groupOf rem)]])) (.val (nV (leftOf hs rem))) rem .non free place (.val (.flt x)) (.val (.list ((ws.map fun x=>if x∈wsOf ws rem then (1:Int) else 0).map V.int))) .non) g:=by
  have hS':some (wB69.get ⟨5,by decide⟩)=some S:=hS
  cases hS'
  have hl5':(ws.map fun x=>if x∈wsOf ws rem then (1:Int) else 0).length=5:=by rw [List.length_map,ok.lw]
  have hv:V.int (digVal (ws.map fun x=>if x∈wsOf ws rem then (1:Int) else 0) 1 0 (ws.map fun x=>if x∈wsOf ws rem then (1:Int) else 0).length)=nV (groupOf rem):=by
    rw [hl5',ok.marks hr,marks_val]
    unfold groupOf
    simp only [decide_eq_true_eq]; rfl
  have hb01:∀ d∈(ws.map fun x=>if x∈wsOf ws rem then (1:Int) else 0),0≤d∧d < 2 ^ 1:=by
    intro d hd
    obtain ⟨x,hy21_1⟩:=List.mem_map.mp hd
    have hx21_0:=hy21_1.2
    clear hy21_1
    subst hx21_0
    split <;> decide
  rw [← hv]
  generalize (ws.map fun x=>if x∈wsOf ws rem then (1:Int) else 0)=ds at *
  apply Run1.appendG2 (F:=w.P σ) (i:=5) (l:=w.Y.l)
  · exact fun b=>Iff.rfl
  · exact fun W=>.nm (Fx.var (i:=13) rfl rfl)
  · rfl
  · intro W
    refine DoesG.callF (knd (sc:=fScope 69) (by decide)) Z.Z.f57.gl (.cons (.var (i:=14) (fun b hb=>hb) rfl rfl) (.cons (.flat .int) .nil)) (fun s hs=>Site.extG1 s hs _ _ Z.Z.f57.ho) Z.Z.f57.hd ?_
    exact Z.Z.f57.givesG (ks:=ks57) (vs:=[.list (ds.map .int),.int (1:Nat)]) 1 rfl σ.hA Site.extG ok57 (by show 2≤3; decide) (len2 fun _ _=>rfl)
      fun σ' _ e1 e2=>(walk57 Z.Z.N Z.Z.T57 σ' (e1.trans Z.Z.e57) e2 Z.Z.glen g (by omega) hb01 (by omega) (by decide) (by omega) (by omega)).ends
  · rfl
  · exact fun h q b hb=>w.Y.live g h q b hb
  · rfl
  · rfl
  · exact shortL_of (by omega)
theorem lessHours {P free price marks:Slot} {rem:List Nat} {g:MSt} {p:Nat} (hl5:rem.length≤5) (hr:∀ j∈rem,j < 5) (hp:p < rem.length) (S:Stmt) (hS:wB69[(6:Nat)]?=some S) :
    Run1 (w.P σ) S (sG ws hs cp P (.val (nV (leftOf hs rem))) rem .non free (.val (nV p)) price marks .non) g
      (sG ws hs cp P (.val (nV (leftOf hs (rem.eraseIdx p)))) rem .non free (.val (nV p)) price marks .non) g:=by
  have hS':some (wB69.get ⟨6,by decide⟩)=some S:=hS
  cases hS'
  have hj:rem.getD p 0∈rem:=by rw [List.getD_eq_getElem?_getD,List.getElem?_eq_getElem hp]; exact List.getElem_mem hp
  have hj5:=hr _ hj
  have hz46:=ok.idx hj5
  have hxm:=hz46.1
  have hxi:=hz46.2
  clear hz46
  have hle:=left_erase hs rem p hp
  have hw:((wsOf ws rem).map V.str)[((p:Nat):Int).toNat]?=some (.str (ws.getD (rem.getD p 0) "")):=by
    unfold wsOf
    rw [Int.toNat_natCast,List.map_map,List.getElem?_map,List.getElem?_eq_getElem hp,List.getD_eq_getElem?_getD (l:=rem),List.getElem?_eq_getElem hp]; rfl
  have hh:(hs.map nV)[((rem.getD p 0:Nat):Int).toNat]?=some (nV (hs.getD (rem.getD p 0) 0)):=by
    have h:rem.getD p 0 < hs.length:=by rw [ok.lh]; exact hj5
    rw [Int.toNat_natCast,List.getElem?_map,List.getElem?_eq_getElem h,List.getD_eq_getElem?_getD (l:=hs),List.getElem?_eq_getElem h]; rfl
  have hlw:(wsOf ws rem).length≤5:=by unfold wsOf; rw [List.length_map]; exact hl5
  apply Run1.aug (F:=w.P σ) (i:=6) (u:=nV (leftOf hs rem)) (v:=nV (hs.getD (rem.getD p 0) 0))
  · intro W
    refine .idx (vs:=hs.map nV) (k:=((rem.getD p 0:Nat):Int)) (.nm (Fx.var (i:=2) rfl rfl)) (hxi ▸ indexD (.nm (Fx.var (i:=1) rfl rfl)) ?_ (shortL_of (by rw [ok.lw]; decide)) hxm) (Int.natCast_nonneg _) (hxi.symm ▸ hh) (shortL_of (by rw [List.length_map,ok.lh]; decide))
    exact .idx (.nm (Fx.var (i:=7) rfl rfl)) (.nm (Fx.var (i:=9) rfl rfl)) (Int.natCast_nonneg _) hw (shortL_of (by rw [List.length_map]; omega))
  · rfl
  · rfl
  · show some (V.int _)=some (V.int _)
    congr 2; omega
theorem pushRest {P L free price marks:Slot} {rem:List Nat} {st:MSt} {p:Nat} (hμ:σ.μ=w.m.x) (hl5:rem.length≤5) (hp:p < rem.length) (S:Stmt) (hS:wB69[(7:Nat)]?=some S) :
    Run1 (w.P σ) S (sG ws hs cp P L rem .non free (.val (nV p)) price marks .non) { st with pb:=[] }
      (sG ws hs cp P L rem .non free (.val (nV p)) price marks .non) { st with pb:=wsOf ws (rem.eraseIdx p) }:=by
  have hS':some (wB69.get ⟨7,by decide⟩)=some S:=hS
  cases hS'
  have hlw:(wsOf ws rem).length=rem.length:=by unfold wsOf; rw [List.length_map]
  have e0:({ st with pb:=[] }:MSt)=(fun n=>({ st with pb:=wsOf ws ((rem.take n).eraseIdx p) }:MSt)) 0:=rfl
  have e1:({ st with pb:=wsOf ws (rem.eraseIdx p) }:MSt)=(fun n=>({ st with pb:=wsOf ws ((rem.take n).eraseIdx p) }:MSt)) ((wsOf ws rem).map V.str).length:=by
    show _=({ st with pb:=wsOf ws ((rem.take _).eraseIdx p) }:MSt)
    rw [List.length_map,hlw,List.take_of_length_le (Nat.le_refl _)]
  rw [e1]
  apply Run1.forE (F:=w.P σ) (i:=15) (j:=4) (xs:=(wsOf ws rem).map V.str) (ρs:=fun _=>sG ws hs cp P L rem .non free (.val (nV p)) price marks .non) (gs:=fun n=>({ st with pb:=wsOf ws ((rem.take n).eraseIdx p) }:MSt))
  · exact DoesA.var (i:=7) rfl rfl (by intro q; cases q)
  · exact shortL_of (by rw [List.length_map]; omega)
  · intro v hv
    obtain ⟨x,hy79_1⟩:=List.mem_map.mp hv
    have hx79_0:=hy79_1.2
    clear hy79_1
    subst hx79_0
    rfl
  · rfl
  · rfl
  · exact knd (sc:=fScope 69) (by decide)
  · exact Z.genum
  · intro n v hv
    rw [List.getElem?_map] at hv
    obtain ⟨x,hy87_1⟩:=Option.map_eq_some_iff.mp hv
    have hx:=hy87_1.1
    have hx87_0:=hy87_1.2
    clear hy87_1
    subst hx87_0
    have hn:n < rem.length:=by have:=(List.getElem?_eq_some_iff.mp hx).1; omega
    have hxe:x=ws.getD rem[n] "":=by
      unfold wsOf at hx
      rw [List.getElem?_map,List.getElem?_eq_getElem hn] at hx
      exact (Option.some.inj hx).symm
    refine Runs.drop (ρ₂:=sG ws hs cp P L rem (.val (.str x)) free (.val (nV p)) price marks (.val (nV n))) (DropL.ok (by repeat constructor)) ?_
    refine Runs.cons (ρ₁:=sG ws hs cp P L rem (.val (.str x)) free (.val (nV p)) price marks (.val (nV n))) (g₁:=({ st with pb:=wsOf ws ((rem.take (n+1)).eraseIdx p) }:MSt)) ?_ .nil
    have htk:=take_erase rem n p hn
    refine Run1.iff (x:=!((n:Int) == (p:Int))) (fun W=>Tests.cmp (.nm (Fx.var (i:=15) rfl rfl)) (.nm (Fx.var (i:=9) rfl rfl)) rfl) (fun hx=>?_) fun hx=>?_
    · have hnp:n≠p:=fun e=>by subst e; simp at hx
      rw [if_neg hnp] at htk
      have hlk:((rem.take n).eraseIdx p).length≤5:=Nat.le_trans (List.length_eraseIdx_le _ _) (Nat.le_trans (List.length_take_le' _ _) hl5)
      have e2:({ st with pb:=wsOf ws ((rem.take (n+1)).eraseIdx p) }:MSt)={ ({ st with pb:=wsOf ws ((rem.take n).eraseIdx p) }:MSt) with pb:=wsOf ws ((rem.take n).eraseIdx p)++[x] }:=by
        rw [htk,hxe]
        show ({ st with pb:=wsOf ws (_++_) }:MSt)={ st with pb:=_ }
        unfold wsOf
        rw [List.map_append]; rfl
      rw [e2]
      refine Runs.cons (ρ₁:=_) (g₁:=_) ?_ .nil
      apply Run1.exprG (F:=w.P σ) (l:=w.Y.l)
      · exact fun b=>Iff.rfl
      · intro W
        exact pushG w (c:=(w.P σ).cx (sG ws hs cp P L rem (.val (.str x)) free (.val (nV p)) price marks (.val (nV n))) ({ st with pb:=wsOf ws ((rem.take n).eraseIdx p) }:MSt) W) rfl hμ σ.hA Site.extG (Fx.var (i:=0) rfl rfl) (.nm (Fx.var (i:=4) rfl rfl)) (by show (wsOf ws _).length < 4096; unfold wsOf; rw [List.length_map]; omega) (fun _=>rfl)
      · exact fun h q b hb=>w.Y.live _ h q b hb
    · have hnp:n=p:=by
        have:(n:Int)=(p:Int):=by simpa using hx
        omega
      rw [if_pos hnp] at htk
      have:(rem.take n).eraseIdx p=rem.take n:=List.eraseIdx_of_length_le (by rw [List.length_take]; omega)
      have e3:({ st with pb:=wsOf ws ((rem.take (n+1)).eraseIdx p) }:MSt)={ st with pb:=wsOf ws ((rem.take n).eraseIdx p) }:=by rw [htk,this]
      rw [e3]
      exact .nil
end
section
variable (ws:List Str) (hs:List Nat) (cp:List (Nat × Nat))
noncomputable def remAt:Nat→List Nat
  | 0=>[0,1,2,3,4]
  | n+1=>(remAt n).eraseIdx (choice ws hs cp (remAt n)).2
noncomputable def planN (n:Nat):List (Nat × Nat):=(List.range n).map fun j=>((choice ws hs cp (remAt ws hs cp j)).1,groupOf (remAt ws hs cp j))
end
section
variable {ws:List Str} {hs:List Nat} {cp:List (Nat × Nat)} (ok:WsOk ws hs cp)
theorem longer:∀ x∈menu,∀ y∈menu,((y != x) && Txt.startswith y x)=true→x.length < y.length:=by decide +kernel
include ok
theorem prices_ne {rem:List Nat} (hr:∀ j∈rem,j < 5) (hne:0 < rem.length):pricesR ws hs cp rem rem.length≠[]:=by
  have hm:∀ y∈wsOf ws rem,y∈menu:=fun y hy=>by
    obtain ⟨j,hy19_1⟩:=List.mem_map.mp hy
    have hj:=hy19_1.1
    have hx19_0:=hy19_1.2
    clear hy19_1
    subst hx19_0
    exact ok.menu _ (ok.idx (hr j hj)).1
  have far:∀ l:List Str,l≠[]→∃ x∈l,∀ y∈l,y.length≤x.length:=by
    intro l
    induction l with
    | nil=>intro h; exact absurd rfl h
    | cons a l ih =>
      intro _
      by_cases hl:l=[]
      · subst hl; exact ⟨a,List.mem_cons_self,fun y hy=>by rw [List.mem_singleton.mp hy]; exact Nat.le_refl _⟩
      · obtain ⟨x,hy29_1⟩:=ih hl
        have hx:=hy29_1.1
        have h:=hy29_1.2
        clear hy29_1
        rcases Nat.le_total a.length x.length with q | q
        · exact ⟨x,.tail _ hx,fun y hy=>by rcases List.mem_cons.mp hy with rfl | hy; exact q; exact h y hy⟩
        · exact ⟨a,List.mem_cons_self,fun y hy=>by rcases List.mem_cons.mp hy with rfl | hy; exact Nat.le_refl _; exact Nat.le_trans (h y hy) q⟩
  have hlw:(wsOf ws rem).length=rem.length:=by unfold wsOf; rw [List.length_map]
  obtain ⟨x,hx,hmax⟩:=far (wsOf ws rem) (fun e=>by rw [e] at hlw; simp at hlw; omega)
  obtain ⟨p,hp,he⟩:=List.mem_iff_getElem.mp hx
  have hp':p < rem.length:=by omega
  have hxe:ws.getD (rem.getD p 0) ""=x:=by
    have hq:(wsOf ws rem)[p]?=some x:=by rw [List.getElem?_eq_getElem hp,he]
    unfold wsOf at hq
    rw [List.getElem?_map,List.getElem?_eq_getElem hp'] at hq
    rw [List.getD_eq_getElem?_getD (l:=rem),List.getElem?_eq_getElem hp']
    exact Option.some.inj hq
  have hf:freeAt ws rem x=true:=by
    unfold freeAt
    rw [List.isEmpty_iff,List.filter_eq_nil_iff]
    intro y hy hq
    exact absurd (hmax y hy) (Nat.not_le.mpr (longer x (hm x hx) y (hm y hy) hq))
  intro h
  have:p∈freeTo ws rem rem.length:=List.mem_filter.mpr ⟨List.mem_range.mpr hp',by rw [hxe]; exact hf⟩
  unfold pricesR at h
  rw [List.map_eq_nil_iff] at h
  rw [h] at this; cases this
theorem remAt_ok:∀ n,n≤5→(remAt ws hs cp n).length+n=5∧∀ j∈remAt ws hs cp n,j < 5
  | 0,_=>⟨rfl,by show ∀ j∈[0,1,2,3,4],j < 5; decide⟩
  | n+1,h=>by
    have hz56:=remAt_ok n (by omega)
    have h1:=hz56.1
    have h2:=hz56.2
    clear hz56
    have hc:=(choice_lt (prices_ne ok h2 (by omega))).1
    refine ⟨?_,fun j hj=>h2 j (List.mem_of_mem_eraseIdx hj)⟩
    show ((remAt ws hs cp n).eraseIdx _).length+_=_
    rw [List.length_eraseIdx_of_lt hc]; omega
theorem left_pos {rem:List Nat} (hr:∀ j∈rem,j < 5) (hne:0 < rem.length):0 < leftOf hs rem:=by
  match rem,hne with
  | a :: l,_ =>
    have ha:=hr a List.mem_cons_self
    have h:a < hs.length:=by rw [ok.lh]; exact ha
    have:1≤hs.getD a 0:=by
      rw [List.getD_eq_getElem?_getD,List.getElem?_eq_getElem h]
      exact (ok.h1 _ (List.getElem_mem h)).1
    show 0 < ((a :: l).map _).sum
    rw [List.map_cons,List.sum_cons]; omega
end
section
variable {D:Wd} (w:Mws D) (Z:Pn D w.Y) {k:Nat} {σ:Site D (k+1)} {ws:List Str} {hs:List Nat} {cp:List (Nat × Nat)} (ok:WsOk ws hs cp)
include Z ok
theorem body69 {P:List V} {rem:List Nat} {st:MSt} (hμ:σ.μ=w.m.x) (hk:6≤k) (hPl:P.length+rem.length=5) (hne:0 < rem.length) (hr:∀ j∈rem,j < 5) :
    Runs (w.P σ) wB69 (sB ws hs cp (.own P) rem) { st with pb:=wsOf ws rem } (sB ws hs cp (.own (P++[planV ((choice ws hs cp rem).1,groupOf rem)])) (rem.eraseIdx (choice ws hs cp rem).2)) { st with pb:=wsOf ws (rem.eraseIdx (choice ws hs cp rem).2) }:=by
  have hl5:rem.length≤5:=by omega
  have hpr:=prices_ne (cp:=cp) ok hr hne
  have hlw:(wsOf ws rem).length=rem.length:=by unfold wsOf; rw [List.length_map]
  have hxl:((wsOf ws rem).map V.str).length=rem.length:=by rw [List.length_map,hlw]
  have hcl:=(choice_lt hpr).1
  refine Runs.cons (takeAll w (cp:=cp) (hs:=hs) (st:=st) (W0:=()) hμ hPl hne Z _ rfl) ?_
  refine Runs.cons (ρ₁:=sF ws hs cp (.own P) (.val (nV (leftOf hs rem))) rem .non (.own []) .non .non .non .non) (g₁:=({ st with pb:=[] }:MSt)) ?_ ?_
  · exact Run1.asgO (i:=8) (vs:=[]) (fun W=>.nil) rfl rfl rfl
  refine Runs.consT (RunT.forE (F:=w.P σ) (i:=9) (j:=4) (xs:=(wsOf ws rem).map V.str) (T:=fun n ρ (g:MSt) t=>∃ ts,(pricesR ws hs cp rem n).length=ts.length∧ts.Nodup∧(∀ u∈ts,u < t)∧ρ=sF ws hs cp (.own P) (.val (nV (leftOf hs rem))) rem .non (.own (flkL (pricesR ws hs cp rem n) ts)) .non .non .non .non∧g=({ st with pb:=[] }:MSt))
    (DoesA.var (i:=7) rfl rfl (by intro q; cases q)) (shortL_of (by rw [hxl]; omega)) (fun v hv=>by obtain ⟨x,_,rfl⟩:=List.mem_map.mp hv; rfl) rfl rfl (knd (sc:=fScope 69) (by decide)) Z.genum (fun t=>⟨[],rfl,List.nodup_nil,fun u hu=>(nomatch hu),rfl,rfl⟩) (fun n v ρ g t₀ hv hT=>?_)) ?_
  · obtain ⟨ts,hy87_1⟩:=hT
    have h1:=hy87_1.1
    have h2:=hy87_1.2.1
    have h3:=hy87_1.2.2.1
    have hx87_0:=hy87_1.2.2.2.1
    have hx87_1:=hy87_1.2.2.2.2
    clear hy87_1
    subst hx87_0
    subst hx87_1
    have hn:n < rem.length:=by have:=(List.getElem?_eq_some_iff.mp hv).1; omega
    have hve:v=.str (ws.getD (rem.getD n 0) ""):=by
      unfold wsOf at hv
      rw [List.map_map,List.getElem?_map,List.getElem?_eq_getElem hn] at hv
      rw [List.getD_eq_getElem?_getD (l:=rem),List.getElem?_eq_getElem hn]
      exact (Option.some.inj hv).symm
    subst hve
    exact freeStep w Z ok hl5 hr hn h1 h2 h3
  · rintro t ρ₁ g₁ t' ⟨t2,_,ts,h1,h2,h3,rfl,rfl⟩
    rw [hxl] at h1 ⊢
    refine Runs.freeze (i:=8) (x:="free") (vs:=flkL (pricesR ws hs cp rem rem.length) ts) rfl rfl ?_
    refine Runs.cons (pickOne w Z ok (g:=({ st with pb:=[] }:MSt)) hl5 hr hpr h1 h2 _ rfl) ?_
    refine Runs.cons (markAll w Z ok hl5 _ rfl) ?_
    refine Runs.cons (tellOne w Z ok hk hl5 hr (by omega) _ rfl) ?_
    refine Runs.cons (lessHours w Z ok hl5 hr hcl _ rfl) ?_
    refine Runs.drop (ρ₂:=sG ws hs cp (.own (P++[planV ((choice ws hs cp rem).1,groupOf rem)])) (.val (nV (leftOf hs (rem.eraseIdx (choice ws hs cp rem).2)))) rem .non (.val (.list (flkL (pricesR ws hs cp rem rem.length) ts))) (.val (nV (choice ws hs cp rem).2)) (.val (.flt (fl (choice ws hs cp rem).1))) (.val (.list ((ws.map fun x=>if x∈wsOf ws rem then (1:Int) else 0).map V.int))) .non) (DropL.ok (by repeat constructor)) ?_
    exact Runs.cons (pushRest w Z ok (st:=st) hμ hl5 hcl _ rfl) .nil
theorem walk69 {st:MSt} (hμ:σ.μ=w.m.x) (hk:6≤k) (hpb:st.pb=[]) :
    Rets (w.P σ) (fBody 69) (st69 ws hs cp .non .non .non .non .non .non .non .non .non .non .non .non) st (.list ((planN ws hs cp 5).map planV)) (w.Y.G st):=by
  have hlw:(ws.map V.str).length=5:=by rw [List.length_map,ok.lw]
  have hst:∀ l:List Str,l=[]→({ st with pb:=l }:MSt)=st:=by
    intro l hl; subst hl
    cases st; cases hpb; rfl
  have hR:=fun n hn=>remAt_ok (cp:=cp) ok n hn
  have hws:wsOf ws [0,1,2,3,4]=ws:=ok.eta.symm
  refine Rets.cons (ρ₁:=st69 ws hs cp .non .non .non .non .non .non .non .non .non .non .non .non) (g₁:=({ st with pb:=ws }:MSt)) ?_ ?_
  · have e0:st=(fun n=>({ st with pb:=ws.take n }:MSt)) 0:=(hst _ rfl).symm
    have e1:({ st with pb:=ws }:MSt)=(fun n=>({ st with pb:=ws.take n }:MSt)) (ws.map V.str).length:=by
      show _=({ st with pb:=ws.take _ }:MSt)
      rw [List.length_map,List.take_length]
    rw [e1]
    conv=>arg 4; rw [e0]
    apply Run1.for1 (F:=w.P σ) (i:=4) (src:=.list (ws.map .str)) (xs:=ws.map V.str) (ρs:=fun _=>st69 ws hs cp .non .non .non .non .non .non .non .non .non .non .non .non) (gs:=fun n=>({ st with pb:=ws.take n }:MSt))
    · exact DoesA.var (i:=1) rfl rfl (by intro q; cases q)
    · exact if_pos (shortL_of (by rw [hlw]; decide))
    · exact .inl rfl
    · intro v hv
      obtain ⟨x,hy125_1⟩:=List.mem_map.mp hv
      have hx125_0:=hy125_1.2
      clear hy125_1
      subst hx125_0
      rfl
    · rfl
    · intro n v hv
      rw [List.getElem?_map] at hv
      obtain ⟨x,hy130_1⟩:=Option.map_eq_some_iff.mp hv
      have hx:=hy130_1.1
      have hx130_0:=hy130_1.2
      clear hy130_1
      subst hx130_0
      have hn:n < ws.length:=(List.getElem?_eq_some_iff.mp hx).1
      refine Runs.drop (ρ₂:=st69 ws hs cp (.val (.str x)) .non .non .non .non .non .non .non .non .non .non .non) (DropL.ok (by repeat constructor)) ?_
      have e2:({ st with pb:=ws.take (n+1) }:MSt)={ ({ st with pb:=ws.take n }:MSt) with pb:=ws.take n++[x] }:=by
        rw [List.take_add_one,hx]; rfl
      rw [e2]
      refine Runs.cons (ρ₁:=_) (g₁:=_) ?_ .nil
      apply Run1.exprG (F:=w.P σ) (l:=w.Y.l)
      · exact fun b=>Iff.rfl
      · intro W
        exact pushG w (c:=(w.P σ).cx (st69 ws hs cp (.val (.str x)) .non .non .non .non .non .non .non .non .non .non .non) ({ st with pb:=ws.take n }:MSt) W) rfl hμ σ.hA Site.extG (Fx.var (i:=0) rfl rfl) (.nm (Fx.var (i:=4) rfl rfl)) (Nat.lt_of_le_of_lt (List.length_take_le' n ws) (by rw [ok.lw]; decide)) (fun _=>rfl)
      · exact fun h q b hb=>w.Y.live _ h q b hb
  refine Rets.cons (ρ₁:=st69 ws hs cp .non (.own []) .non .non .non .non .non .non .non .non .non .non) (g₁:=({ st with pb:=ws }:MSt)) ?_ ?_
  · exact Run1.asgO (i:=5) (vs:=[]) (fun W=>.nil) rfl rfl rfl
  have hsum:leftOf hs [0,1,2,3,4]=hs.sum:=by
    have:hs=(List.range 5).map fun j=>hs.getD j 0:=by
      apply List.ext_getElem
      · rw [List.length_map,List.length_range]; exact ok.lh
      · intro i h1 h2
        rw [List.getElem_map,List.getElem_range,List.getD_eq_getElem?_getD,List.getElem?_eq_getElem h1]; rfl
    unfold leftOf
    conv=>rhs; rw [this]
    rfl
  refine Rets.cons (ρ₁:=sB ws hs cp (.own ((planN ws hs cp 0).map planV)) (remAt ws hs cp 0)) (g₁:=({ st with pb:=wsOf ws (remAt ws hs cp 0) }:MSt)) ?_ ?_
  · rw [show wsOf ws (remAt ws hs cp 0)=ws from hws]
    apply Run1.asg (F:=w.P σ) (i:=6)
    · intro W
      refine Does.callB (knd (sc:=fScope 69) (by decide)) Z.gsum (.cons (.nm (Fx.var (i:=2) rfl rfl)) .nil) ?_
      rw [show leftOf hs (remAt ws hs cp 0)=hs.sum from hsum]
      exact Gives1.sumN (by rw [ok.lh]; decide) fun n hn=>Nat.lt_of_le_of_lt (ok.h1 n hn).2 (by decide)
    · rfl
    · rfl
  refine Rets.cons (ρ₁:=sB ws hs cp (.own ((planN ws hs cp 5).map planV)) (remAt ws hs cp 5)) (g₁:=({ st with pb:=wsOf ws (remAt ws hs cp 5) }:MSt)) ?_ ?_
  · apply Run1.whl (F:=w.P σ) (ρs:=fun n=>sB ws hs cp (.own ((planN ws hs cp n).map planV)) (remAt ws hs cp n)) (gs:=fun n=>({ st with pb:=wsOf ws (remAt ws hs cp n) }:MSt)) 5
    · intro j hj W
      have hz165:=hR j (by omega)
      have h1:=hz165.1
      have h2:=hz165.2
      clear hz165
      have hp:=left_pos ok h2 (by omega)
      have e:true=!(((leftOf hs (remAt ws hs cp j):Nat):Int) == 0):=by
        rw [show (((leftOf hs (remAt ws hs cp j):Nat):Int) == 0)=false from beq_eq_false_iff_ne.mpr (by omega)]; rfl
      rw [e]
      exact Tests.not (Tests.val (FnAt.does Z.f51 rfl Site.extG1 (knd (sc:=fScope 69) (by decide)) (vs:=[nV (leftOf hs (remAt ws hs cp j))]) (.cons (.nm (Fx.var (i:=6) rfl rfl)) .nil) (Z.f51.gives 0 rfl σ.hA Site.extG1 ok51 (by show 1≤1; decide) (len1 fun _=>rfl) fun σ'=>walk51 σ' Z.gE)) rfl)
    · intro W
      have h0:remAt ws hs cp 5=[]:=List.length_eq_zero_iff.mp (by have:=(hR 5 (by omega)).1; omega)
      have e:false=!(((leftOf hs (remAt ws hs cp 5):Nat):Int) == 0):=by rw [h0]; rfl
      rw [e]
      exact Tests.not (Tests.val (FnAt.does Z.f51 rfl Site.extG1 (knd (sc:=fScope 69) (by decide)) (vs:=[nV (leftOf hs (remAt ws hs cp 5))]) (.cons (.nm (Fx.var (i:=6) rfl rfl)) .nil) (Z.f51.gives 0 rfl σ.hA Site.extG1 ok51 (by show 1≤1; decide) (len1 fun _=>rfl) fun σ'=>walk51 σ' Z.gE)) rfl)
    · intro j hj
      have hz177:=hR j (by omega)
      have h1:=hz177.1
      have h2:=hz177.2
      clear hz177
      have hpl:((planN ws hs cp j).map planV).length=j:=by unfold planN; rw [List.length_map,List.length_map,List.length_range]
      have hps:(planN ws hs cp (j+1)).map planV=(planN ws hs cp j).map planV++[planV ((choice ws hs cp (remAt ws hs cp j)).1,groupOf (remAt ws hs cp j))]:=by
        unfold planN; rw [List.range_succ,List.map_append,List.map_append]; rfl
      rw [hps]
      exact body69 w Z ok (st:=st) hμ hk (by omega) (by omega) h2
  refine Rets.freeze (i:=5) (x:="plan") rfl rfl ?_
  have h0:remAt ws hs cp 5=[]:=List.length_eq_zero_iff.mp (by have:=(hR 5 (by omega)).1; omega)
  have hg:({ st with pb:=wsOf ws (remAt ws hs cp 5) }:MSt)=st:=hst _ (by rw [h0]; rfl)
  rw [hg]
  exact Rets.retVar (i:=5) rfl rfl
end
section
variable {F:Fx} {ρ ρ':List Slot} {g g':F.Γ}
theorem Run1.asgS {x:Str} {i:Nat} {px pos:Pos} {e:Expr} {v:V} (h:DoesW F ρ g e v) (hx:F.ks[i]?=some x) (hno:ρ.all (fun sl=>!sl.isOwn)=true) (hS:∀ h,F.G g h→∀ b o,F.Wg b→h.get? b=some o→¬ seqish o)
    (hs:swapsWith e (some (.Name x px)) pos.line F.env=pure false:=by rfl):Run1 F (.Assign [.Name x px] e pos) ρ g (ρ.set i (.val v)) g:=.of fun W s E fr=>by
  refine wpAny_Assign_Name (wpAny_mono (h W s E fr) (fun r s₁ q=>?_) fun _ _ q=>q) hs
  have hz12:=(fr.keeps q.2).shrinkG hno
  have fr₁:=hz12.1
  have sub:=hz12.2
  clear hz12
  have hns:∀ b o,(F.W0 b∨F.Wg b)→s₁.heap.get? b=some o→¬ seqish o:=fun b o hb e=>hb.elim (fun hb=>fr₁.notSeq b o hb e) fun hb=>hS _ (let ⟨_,_,_,y⟩:=fr₁; y.gh) b o hb e
  exact wpAny_mono (fr₁.store hx (.of_rel q.1 hns)) (fun _ s₂ z=>⟨rfl,_,z.1,fun b o hb e=>z.2.kept b o (fun q=>hb (sub b q)) (kGet q.2.1 b o e),fun b q=>.inl (sub b q)⟩) fun _ _ q=>q
theorem Run1.asg2S {x y:Str} {i j:Nat} {px py tp pos:Pos} {k:Nat} {e:Expr} {a b:V} (h:DoesW F ρ g e (.tup [a,b])) (hx:F.ks[i]?=some x) (hy:F.ks[j]?=some y) (hno:ρ.all (fun sl=>!sl.isOwn)=true) (hS:∀ h,F.G g h→∀ b o,F.Wg b→h.get? b=some o→¬ seqish o)
    (hs:swapsWithSole [.Tuple [.Name x px,.Name y py] k tp] e pos.line F.env=pure false:=by rfl) (hw:swappedStores [.Tuple [.Name x px,.Name y py] k tp] e F.env=pure none:=by rfl) :
    Run1 F (.Assign [.Tuple [.Name x px,.Name y py] k tp] e pos) ρ g ((ρ.set i (.val a)).set j (.val b)) g:=.of fun W s E fr=>by
  refine Assign_Tuple (wpAny_mono (h W s E fr) (fun rv s₁ q=>?_) fun _ _ q=>q) hs hw
  have hr:=q.1
  have k₁:=q.2
  try clear q
  have hz20:=(fr.keeps k₁).shrinkG hno
  have fr₁:=hz20.1
  have sub:=hz20.2
  clear hz20
  have hns:∀ b o,(F.W0 b∨F.Wg b)→s₁.heap.get? b=some o→¬ seqish o:=fun b o hb e=>hb.elim (fun hb=>fr₁.notSeq b o hb e) fun hb=>hS _ (let ⟨_,_,_,y⟩:=fr₁; y.gh) b o hb e
  unfold VRel at hr
  obtain ⟨t,rs,hy23_1⟩:=hr
  have hx23_0:=hy23_1.1
  have ht:=hy23_1.2.1
  have hrs:=hy23_1.2.2
  clear hy23_1
  subst hx23_0
  obtain ⟨ra,rb,hy24_1⟩:=hrs.inv2
  have hx24_0:=hy24_1.1
  have xa:=hy24_1.2.1
  have xb:=hy24_1.2.2
  clear hy24_1
  subst hx24_0
  have va:=VX.of_rel xa hns
  have vb:=VX.of_rel xb hns
  refine wpAny_assign_Tuple F.hh ht rfl rfl fun h₁ he=>?_
  have ke:∀ b o,s₁.heap.get? b=some o→h₁.get? b=some o:=fun b o e=>he b o (Nat.ne_of_lt (Heap.lt_size e)) e
  have tk₁:1≤s₁.toks:=k₁.2.1
  have fr₂:Fr1 F ρ g (fun b=>F.W0 b∨F.Wg b) { s₁ with heap:=h₁ }:=let ⟨m,cm,α,y⟩:=fr₁; ⟨m,cm,α,y.keeps ⟨h₁,s₁.toks,rfl,ke⟩ tk₁⟩
  show wpAny F.M F.A (assignInOrder [assign (.Name x px) F.env,assign (.Name y py) F.env] [ra,rb]) _ E _
  refine wpAny_assignInOrder_more (wpAny_assign_Name (wpAny_mono (fr₂.store hx (va.grow fun b o hb e=>⟨hb,ke b o e⟩)) (fun _ s₃ z=>?_) fun _ _ q=>q))
  refine wpAny_assignInOrder_more (wpAny_assign_Name (wpAny_mono (z.1.store hy (vb.grow fun b o hb e=>⟨hb,z.2.kept b o hb (ke b o e)⟩)) (fun _ s₄ z'=>?_) fun _ _ q=>q))
  exact wpAny_assignInOrder_none ⟨rfl,_,z'.1,fun b o hb e=>z'.2.kept b o (fun q=>hb (sub b q)) (z.2.kept b o (fun q=>hb (sub b q)) (ke b o (kGet k₁.1 b o e))),fun b q=>.inl (sub b q)⟩
theorem Run1.skip3 {a b e:Expr} {p p1 p2:Pos} {k:Nat} {body:List Stmt} {pos:Pos} {x:Str} {l:List Addr} (hl:∀ b,F.Wg b ↔ b∈l) (ha:∀ W,Tests (F.cx ρ g W) a false) (hb:∀ W,Tests (F.cx ρ g W) b false)
    (hd:∀ W,DoesG (F.cx ρ g W) l e (.str x) (F.G g')) (live:∀ h,F.G g' h→∀ b,F.Wg b→∃ o,h.get? b=some o) :
    Run1 F (.If (.BoolOp .Or [a,b,.Compare e [.NotEq] [.Constant (.str x) k p1] p2] p) body [] pos) ρ g ρ g':=fun W s E fr=>by
  refine wpAny_If (wpAny_isTrue_BoolOp (wpAny_allTrue_Or_cons (wpAny_mono (ha W s E fr) (fun r s₁ h₁=>?_) fun _ _ x=>x)))
  have hx40_0:=h₁.1
  have k₁:=h₁.2
  try clear h₁
  subst hx40_0
  refine wpAny_allTrue_Or_cons (wpAny_mono (hb W s₁ E (fr.keeps k₁)) (fun r s₂ h₂=>?_) fun _ _ x=>x)
  have hx42_0:=h₂.1
  have k₂:=h₂.2
  try clear h₂
  subst hx42_0
  have fr₂:=(fr.keeps k₁).keeps k₂
  refine wpAny_allTrue_Or_cons (wpAny_isTrue_Compare1 (wpAny_mono (hd W s₂ E fr₂) (fun r s₃ q=>?_) fun _ _ q=>q) (by with_unfolding_all rfl))
  have q1:=q.1
  have q2:=q.2.1
  have q3:=q.2.2
  try clear q
  have hr:=q1.rel
  unfold VRel at hr
  obtain ⟨t,rfl⟩:=hr
  refine wpAny_Constant_str ?_
  refine wpAny_mono (cmpV_sound (op:=.NotEq) (a:=.str x) (b:=.str x) (v:=false) (μ:=F.μ) (s:={ s₃ with toks:=s₃.toks+1 }) (by show some (!(x == x))=_; simp) (.t _ _) (.t _ _) F.hu) (fun r s₄ h₄=>?_) fun _ _ q=>q
  have hx51_0:=h₄.1
  have hx51_1:=h₄.2
  try clear h₄
  subst hx51_0
  subst hx51_1
  refine wpAny_truthy_bool ?_
  refine wpAny_allTrue_Or_nil (wpAny_execs_nil ⟨rfl,W,?_,?_⟩)
  · exact (fr₂.gmove q3.same q3.tk (fun b o hb e=>q3.kept b o (fun z=>hb ((hl b).mpr z)) e) q2 (live _ q2)).keeps ⟨kTok _ _,Nat.le_succ_of_le q3.tk,Nat.le_refl _⟩
  · exact (Mv.of k₁).trans ((Mv.of k₂).trans ⟨fun b o hb e=>q3.kept b o (fun y=>hb (fr₂.wg b ((hl b).mpr y))) e,q3.size,fun b hb=>.inl hb⟩)
end
section
variable {c:Cx}
theorem Does.tok {x:Str} {px pos:Pos} {e:Expr} {y:Str} {a:Addr} {f:Str→Option Value} {n:Int} {t:Tok} (hx:c.env.kindOf x=some .globalImplicit) (hv:c.gl x=some (.ref a)) (hm:∀ s,c.P s→s.heap.MapOf (PySem.strKind c.prog c.w) a f)
    (he:Does c e (.str y)) (hf:f y=some (.int n t)) (hd:(x == ("__debug__":Str))=false:=by decide) (hs:∀ o i',subscripted e false o i'=operate [o,i'] (getItem o i'):=by intro _ _; rfl):Does c (.Subscript (.Name x px) e pos) (.int n):=fun s E hs'=>by
  refine Subscript_ (glob_name hs' hx hv (run_on hs' (he s E hs') fun ri s₁ xi h₁ k₁=>?_) hd)
  unfold VRel at xi
  obtain ⟨u,rfl⟩:=xi
  have M:=hm s₁ h₁
  refine tail_any M.typeIs slot_dict_getitem.lookup (wpAny_getItem_of (knd:=PySem.strKind c.prog c.w) (k:=y) (by show Value.isStrOf y (.str y u)=true; simp [Value.isStrOf]) M hf ?_) (hs _ _)
  exact ⟨.i _ _,k₁.trans ⟨kTok _ _,Nat.le_succ_of_le k₁.2.1,Nat.le_refl _⟩⟩
theorem DoesG.second {l:List Addr} {e:Expr} {k k':Nat} {p1 p2 p3 p4:Pos} {a b:Int} {R:Heap→Prop} (h:DoesG c l e (.tup [.int a,.int b]) R) (hs:∀ o i',subscripted (.Constant (.int 1) k p1) false o i'=operate [o,i'] (getItem o i'):=by intro _ _; rfl) :
    DoesG c l (.BinOp (.Subscript e (.Constant (.int 1) k p1) p2) .Add (.Constant (.int 1) k' p3) p4) (.int (b+1)) R:=fun s E hs'=>by
  refine wpAny_BinOp (Subscript_ (wpAny_mono (h s E hs') (fun ra s₁ q=>?_) fun _ _ q=>q))
  have q1:=q.1
  have q2:=q.2.1
  have q3:=q.2.2
  try clear q
  have xa:=q1.rel
  unfold VRel at xa
  obtain ⟨a',rs,hy75_1⟩:=xa
  have hx75_0:=hy75_1.1
  have hp:=hy75_1.2.1
  have y:=hy75_1.2.2
  clear hy75_1
  subst hx75_0
  refine wpAny_Constant_int ?_
  obtain ⟨ra,rb,hy77_1⟩:=y.inv2
  have hx77_0:=hy77_1.1
  have ya:=hy77_1.2.1
  have yb:=hy77_1.2.2
  clear hy77_1
  subst hx77_0
  unfold VRel at yb
  obtain ⟨tb,rfl⟩:=yb
  have hp':IsTup { s₁ with toks:=s₁.toks+1 }.heap a' [ra,.int b tb].toArray:=hp
  refine tail_any hp'.typeIs slot_tuple_getitem.lookup (getItem_tuple (k:=1) (x:=.int b tb) hp' (by decide) (by decide) rfl rfl ?_) (hs _ _)
  refine wpAny_Constant_int ?_
  refine AutoIntOps.add_0 ?_
  exact ⟨.of_flat (.i _ _) rfl,q2,(by obtain ⟨h,t,e⟩:=q3.same; exact ⟨s₁.heap,s₁.toks+3,by rw [e]⟩),Nat.le_succ_of_le (Nat.le_succ_of_le (Nat.le_succ_of_le q3.tk)),q3.size,q3.kept⟩
end
theorem app_list (a b:Str):(a++b).cps.toList=a.cps.toList++b.cps.toList:=by
  show (a.cps++b.cps).toList=_
  simp
theorem readN_at {text:Str}:∀ (l rest:List Nat) (st:MSt),text.cps.toList.drop st.pos=l++rest→st.readN text l.length=⟨st.pos+l.length,st.line+(l.count 10:Nat),st.pb⟩
  | [],rest,st,_=>by
    show st=_
    cases st; simp
  | c :: l,rest,st,h=>by
    have h':text.cps.toList.drop st.pos=c :: (l++rest):=h
    have hch:chAt text st.pos=⟨#[c]⟩:=chAt_in (by have:=congrArg (·[0]?) h'; simpa using this)
    have hd:=readc_drop h'
    have e0:(st.read text)=⟨st.pos+1,st.line,st.pb⟩:=by
      show ({ st with pos:=st.pos+(chAt text st.pos).length }:MSt)=_
      rw [hch]; rfl
    have e1:st.readc text=⟨st.pos+1,st.line+(if c=10 then 1 else 0),st.pb⟩:=by
      unfold MSt.readc
      rw [hch,e0]
      by_cases q:c=10
      · subst q; rfl
      · have:¬ ((⟨#[c]⟩:Str)="\n"):=fun z=>q (by have:[c]=[10]:=congrArg (fun z:Str=>z.cps.toList) z; simpa using this)
        rw [if_neg this,if_neg q]; simp
    show (st.readc text).readN text l.length=_
    rw [readN_at l rest _ hd,e1]
    rw [List.length_cons,List.count_cons]
    simp only [MSt.mk.injEq,and_true]
    refine ⟨by omega,?_⟩
    by_cases q:c=10
    · subst q; simp; omega
    · simp [q]
theorem textGo_app:∀ (xs ys:List Str) (t:Str) (p:Nat),textGo t (xs++ys) p=textGo (textGo t xs p) ys (p+xs.length)
  | [],ys,t,p=>rfl
  | x :: xs,ys,t,p=>by
    show textGo (t++pieceT p x) (xs++ys) (p+1)=textGo (textGo (t++pieceT p x) xs (p+1)) ys _
    rw [textGo_app xs ys,List.length_cons,show p+1+xs.length=p+(xs.length+1) by omega]
theorem textGo_from:∀ (ys:List Str) (t:Str) (p:Nat),∃ l,(textGo t ys p).cps.toList=t.cps.toList++l
  | [],t,p=>⟨[],by rw [List.append_nil]; rfl⟩
  | y :: ys,t,p=>by
    obtain ⟨l,e⟩:=textGo_from ys (t++pieceT p y) (p+1)
    exact ⟨(pieceT p y).cps.toList++l,by show (textGo (t++pieceT p y) ys (p+1)).cps.toList=_; rw [e,app_list,List.append_assoc]⟩
theorem scan_app {stop:Nat→Bool} {rest:List Nat}:∀ (l:List Nat) (tok:Str) (r:Str × Nat),scan stop l tok=some r→scan stop (l++rest) tok=some r
  | [],tok,r,h=>by cases h
  | [c],tok,r,h=>by
    rw [List.singleton_append]
    unfold scan at h ⊢
    by_cases q:stop c=true
    · rw [if_pos q] at h ⊢; exact h
    · rw [if_neg q] at h
      by_cases q':c=92
      · rw [if_pos q'] at h; cases h
      · rw [if_neg q'] at h; cases h
  | c :: d :: l,tok,r,h=>by
    rw [List.cons_append,List.cons_append]
    unfold scan at h ⊢
    by_cases q:stop c=true
    · rw [if_pos q] at h ⊢; exact h
    · rw [if_neg q] at h ⊢
      by_cases q':c=92
      · rw [if_pos q'] at h ⊢
        obtain ⟨x,hy65_1⟩:=Option.map_eq_some_iff.mp h
        have hx:=hy65_1.1
        have e:=hy65_1.2
        clear hy65_1
        exact Option.map_eq_some_iff.mpr ⟨x,scan_app l _ x hx,e⟩
      · rw [if_neg q'] at h ⊢
        obtain ⟨x,hy68_1⟩:=Option.map_eq_some_iff.mp h
        have hx:=hy68_1.1
        have e:=hy68_1.2
        clear hy68_1
        exact Option.map_eq_some_iff.mpr ⟨x,scan_app (d :: l) _ x hx,e⟩
theorem tokOf_app {rest:List Nat}:∀ (l:List Nat) (r:Str × Nat),tokOf l=some r→tokOf (l++rest)=some r
  | [],r,h=>by cases h
  | c :: l,r,h=>by
    rw [List.cons_append]
    dsimp only [tokOf] at h ⊢
    by_cases q:wsC c=true
    · rw [if_pos q] at h; cases h
    rw [if_neg q] at h ⊢
    by_cases q1:c=34
    · rw [if_pos q1] at h ⊢
      obtain ⟨x,hy80_1⟩:=Option.map_eq_some_iff.mp h
      have hx:=hy80_1.1
      have e:=hy80_1.2
      clear hy80_1
      exact Option.map_eq_some_iff.mpr ⟨x,scan_app _ _ x hx,e⟩
    rw [if_neg q1] at h ⊢
    by_cases q2:c=92
    · rw [if_pos q2] at h ⊢
      cases l with
      | nil=>cases h
      | cons d l =>
        obtain ⟨x,hy88_1⟩:=Option.map_eq_some_iff.mp h
        have hx:=hy88_1.1
        have e:=hy88_1.2
        clear hy88_1
        exact Option.map_eq_some_iff.mpr ⟨x,scan_app _ _ x hx,e⟩
    rw [if_neg q2] at h ⊢
    obtain ⟨x,hy91_1⟩:=Option.map_eq_some_iff.mp h
    have hx:=hy91_1.1
    have e:=hy91_1.2
    clear hy91_1
    exact Option.map_eq_some_iff.mpr ⟨x,scan_app _ _ x hx,e⟩
theorem piece_tok0:∀ w∈menu,∀ j < 5,tokOf (pieceT j w).cps.toList=some (w,(pieceT j w).cps.toList.length):=by decide +kernel
theorem piece_tok:∀ w∈menu,∀ j,j < 5→∀ rest,tokOf ((pieceT j w).cps.toList++rest)=some (w,(pieceT j w).cps.toList.length):=fun w hw j hj rest=>tokOf_app _ _ (piece_tok0 w hw j hj)
theorem piece_line:∀ w∈menu,∀ j < 5,(pieceT j w).cps.toList.count 10=if j=2 then 1 else 0:=by decide +kernel
noncomputable def gsT (ws:List Str) (j:Nat):MSt:=⟨(textGo "" (ws.take j) 0).length,if 3≤j then 2 else 1,[]⟩
theorem line_next:∀ j < 5,(if 3≤j then (2:Int) else 1)+((if j=2 then 1 else 0:Nat):Int)=if 3≤j+1 then 2 else 1:=by decide
theorem len_list (a:Str):a.length=a.cps.toList.length:=by show a.cps.size=_; simp
theorem tok_at {ws:List Str} (hl:ws.length=5) (hw:∀ w∈ws,w∈menu) {j:Nat} {x:Str} (hx:ws[j]?=some x) :
    ∃ n,tokOf ((textGo "" ws 0).cps.toList.drop (gsT ws j).pos)=some (x,n)∧(gsT ws j).readN (textGo "" ws 0) n=gsT ws (j+1):=by
  obtain ⟨hj,hje⟩:=List.getElem?_eq_some_iff.mp hx
  have hj5:j < 5:=by omega
  have hxm:x∈menu:=hw x (hje ▸ List.getElem_mem hj)
  have hsp:ws=ws.take j++x :: ws.drop (j+1):=by rw [← hje,← List.drop_eq_getElem_cons hj,List.take_append_drop]
  have htj:(ws.take j).length=j:=by rw [List.length_take]; omega
  have hall:textGo "" ws 0=textGo (textGo "" (ws.take j) 0++pieceT j x) (ws.drop (j+1)) (j+1):=by
    conv=>lhs; rw [hsp,textGo_app,htj,Nat.zero_add]
    rfl
  obtain ⟨l,hl2⟩:=textGo_from (ws.drop (j+1)) (textGo "" (ws.take j) 0++pieceT j x) (j+1)
  have hd:(textGo "" ws 0).cps.toList.drop (gsT ws j).pos=(pieceT j x).cps.toList++l:=by
    rw [hall,hl2,app_list,List.append_assoc]
    show List.drop (textGo "" (ws.take j) 0).length _=_
    rw [len_list,List.drop_left]
  refine ⟨_,by rw [hd]; exact piece_tok x hxm j hj5 l,?_⟩
  rw [readN_at _ _ _ hd,piece_line x hxm j hj5]
  have e1:textGo "" (ws.take (j+1)) 0=textGo "" (ws.take j) 0++pieceT j x:=by
    rw [List.take_succ_eq_append_getElem hj,textGo_app,htj,Nat.zero_add,hje]; rfl
  unfold gsT
  rw [e1]
  simp only [MSt.mk.injEq,and_true]
  refine ⟨by rw [len_list (_++_),app_list,List.length_append,← len_list (textGo "" (ws.take j) 0)],?_⟩
  exact line_next j hj5
theorem tok_end {ws:List Str} (hl:ws.length=5):(textGo "" ws 0).length≤(gsT ws 5).pos∧gsT ws 6=gsT ws 5:=by
  have e5:ws.take 5=ws:=List.take_of_length_le (by omega)
  have e6:ws.take 6=ws:=List.take_of_length_le (by omega)
  constructor
  · show _≤(textGo "" (ws.take 5) 0).length
    rw [e5]; exact Nat.le_refl _
  · unfold gsT; rw [e5,e6]; rfl
theorem numGo_ok:∀ (xs ns:List Int) (p:Nat) (B:Int),(∀ n∈ns,0≤n∧n < B)→∀ n∈numGo ns xs p,0≤n∧n < B+1000000 * xs.length
  | [],ns,p,B,h=>fun n hn=>by have:=h n hn; simpa using this
  | x :: xs,ns,p,B,h=>fun n hn=>by
    have hx0:=Int.fmod_nonneg_of_pos x (show (0:Int) < 1000000 by decide)
    have hx1:=Int.fmod_lt_of_pos x (show (0:Int) < 1000000 by decide)
    have step:∀ m∈numStep ns p x,0≤m∧m < B+1000000:=by
      intro m hm
      unfold numStep at hm
      rcases List.mem_or_eq_of_mem_set hm with q | q
      · have:=h m q; omega
      · subst q
        by_cases hp:p % 5 < ns.length
        · rw [List.getD_eq_getElem?_getD,List.getElem?_eq_getElem hp]
          have:=h _ (List.getElem_mem hp)
          show 0≤ns[p % 5]+_∧ns[p % 5]+_ < _
          omega
        · rw [List.set_eq_of_length_le (by omega)] at hm
          have:=h _ hm; omega
    have:=numGo_ok xs (numStep ns p x) (p+1) (B+1000000) step n hn
    rw [List.length_cons]; push_cast; omega
theorem numbers_ok (xs:List Int):(numbersOf xs).length=5∧∀ n∈numbersOf xs,0≤n∧n < 2 ^ 40:=by
  refine ⟨by unfold numbersOf; rw [numGo_len]; rfl,fun n hn=>?_⟩
  have:=numGo_ok (xs.take 20) num0 0 20000 (by decide) n hn
  have h2:(xs.take 20).length≤20:=List.length_take_le _ _
  omega
theorem works_ok:∀ (ns:List Int) (g:List Str),g.Nodup→ns.length≤g.length→(worksGo g ns).length=ns.length∧(worksGo g ns).Nodup∧∀ w∈worksGo g ns,w∈g
  | [],g,_,_=>⟨rfl,List.nodup_nil,fun _ h=>(nomatch h)⟩
  | n :: ns,g,hn,hl=>by
    have hlt:popAt g n < g.length:=by
      unfold popAt
      have:0 < (g.length:Int):=by simp at hl; omega
      have h1:=Int.fmod_nonneg_of_pos n this
      have h2:=Int.fmod_lt_of_pos n this
      omega
    have he:(g.eraseIdx (popAt g n)).length=g.length - 1:=List.length_eraseIdx_of_lt hlt
    obtain ⟨h1,h2,h3⟩:=works_ok ns (g.eraseIdx (popAt g n)) (hn.sublist (List.eraseIdx_sublist _ _)) (by rw [he]; simp at hl; omega)
    have hd:g.getD (popAt g n) ""=g[popAt g n]:=by rw [List.getD_eq_getElem?_getD,List.getElem?_eq_getElem hlt]; rfl
    have hnot:g[popAt g n] ∉ g.eraseIdx (popAt g n):=fun hm=>by
      rw [List.eraseIdx_eq_take_drop_succ] at hm
      have hsp:g=g.take (popAt g n)++g[popAt g n] :: g.drop (popAt g n+1):=by rw [← List.drop_eq_getElem_cons hlt,List.take_append_drop]
      rw [hsp] at hn
      have hz173:=List.nodup_append.mp hn
      have n2:=hz173.2.1
      have n3:=hz173.2.2
      clear hz173
      rcases List.mem_append.mp hm with q | q
      · exact n3 _ q _ List.mem_cons_self rfl
      · exact (List.nodup_cons.mp n2).1 q
    refine ⟨by show _+1=_; rw [h1]; rfl,List.nodup_cons.mpr ⟨fun q=>hnot (hd ▸ h3 _ q),h2⟩,fun w hw=>?_⟩
    rcases List.mem_cons.mp hw with rfl | hw
    · rw [hd]; exact List.getElem_mem hlt
    · exact List.mem_of_mem_eraseIdx (h3 w hw)
noncomputable def V.sim1:V→Bool
  | .tup vs=>vs.all V.flat
  | v=>v.flat
noncomputable def V.sim:V→Bool
  | .list vs=>vs.all V.sim1
  | v=>v.flat
theorem VRel.mu0 {μ μ':Addr} {h:Heap} {v:V} {r:Value} (hf:v.flat=true) (x:VRel μ h v r):VRel μ' h v r:=by
  cases v <;> first | (unfold VRel at x ⊢; exact x) | cases hf
theorem VRels.mu0 {μ μ':Addr} {h:Heap}:∀ {vs:List V} {rs:List Value},vs.all V.flat=true→VRels μ h vs rs→VRels μ' h vs rs
  | [],_,_,x=>by unfold VRels at x ⊢; exact x
  | v :: vs,_,hf,x=>by
    simp only [List.all_cons,Bool.and_eq_true] at hf
    unfold VRels at x ⊢
    obtain ⟨r,rs,hy20_1⟩:=x
    have e:=hy20_1.1
    have a:=hy20_1.2.1
    have b:=hy20_1.2.2
    clear hy20_1
    exact ⟨r,rs,e,a.mu0 hf.1,VRels.mu0 hf.2 b⟩
theorem VRel.mu1 {μ μ':Addr} {h:Heap} {v:V} {r:Value} (hf:v.sim1=true) (x:VRel μ h v r):VRel μ' h v r:=by
  by_cases q:∃ vs,v=.tup vs
  · obtain ⟨vs,rfl⟩:=q
    unfold VRel at x ⊢
    obtain ⟨a,rs,hy26_1⟩:=x
    have e:=hy26_1.1
    have t:=hy26_1.2.1
    have y:=hy26_1.2.2
    clear hy26_1
    exact ⟨a,rs,e,t,VRels.mu0 hf y⟩
  · refine x.mu0 ?_
    cases v <;> first | exact hf | exact absurd ⟨_,rfl⟩ q
theorem VRels.mu1 {μ μ':Addr} {h:Heap}:∀ {vs:List V} {rs:List Value},vs.all V.sim1=true→VRels μ h vs rs→VRels μ' h vs rs
  | [],_,_,x=>by unfold VRels at x ⊢; exact x
  | v :: vs,_,hf,x=>by
    simp only [List.all_cons,Bool.and_eq_true] at hf
    unfold VRels at x ⊢
    obtain ⟨r,rs,hy35_1⟩:=x
    have e:=hy35_1.1
    have a:=hy35_1.2.1
    have b:=hy35_1.2.2
    clear hy35_1
    exact ⟨r,rs,e,a.mu1 hf.1,VRels.mu1 hf.2 b⟩
theorem VRel.mu {μ μ':Addr} {h:Heap} {v:V} {r:Value} (hf:v.sim=true) (x:VRel μ h v r):VRel μ' h v r:=by
  by_cases q:∃ vs,v=.list vs
  · obtain ⟨vs,rfl⟩:=q
    unfold VRel at x ⊢
    obtain ⟨a,rs,hy41_1⟩:=x
    have e:=hy41_1.1
    have t:=hy41_1.2.1
    have y:=hy41_1.2.2
    clear hy41_1
    exact ⟨a,rs,e,t,VRels.mu1 hf y⟩
  · refine x.mu0 ?_
    cases v <;> first | exact hf | exact absurd ⟨_,rfl⟩ q
theorem VX.mu {W:Addr→Prop} {μ μ':Addr} {h:Heap} {v:V} {r:Value} (hf:v.sim=true) (x:VX W μ h v r):VX W μ' h v r:=fun h' k=>(x h' k).mu hf
noncomputable def Slot.sim:Slot→Bool
  | .non=>true
  | .val v=>v.sim
  | _=>false
section
variable {D:Wd} {k:Nat} {σ:Site D k} {sc:Scope} {ks:List Str} {ok:ScOk sc ks} {X:Gw D} {ρ:List Slot} {g:X.Γ} {W:Addr→Prop} {s s':Shared} {cl:Cls D} {m:MAd} {text:Str} {st:MSt}
noncomputable abbrev Site.at_ {D:Wd} {k:Nat} (σ:Site D k) (x:Addr):Site D k:={ σ with μ:=x }
theorem Fr1.toMach (fr:Fr1 (σ.fxg sc ks ok X) ρ g W s) (mg:Mg X.l s s') (hG:X.G g s'.heap) (M:MachAt cl m text st s'.heap) (hnew:∀ b∈m.l,s.heap.objs.size≤b) (hsim:ρ.all Slot.sim=true) (hm:∀ b o,D.h0.get? b=some o→b ∉ m.l) :
    Fr1 ((σ.at_ m.x).fxg sc ks ok (X.mach g cl m text hm)) ρ st (fun b=>W b∨b∈m.l) s':=by
  have old:∀ b o,s.heap.get? b=some o→b ∉ m.l:=fun b o e q=>Nat.lt_irrefl _ (Nat.lt_of_lt_of_le (Heap.lt_size e) (hnew b q))
  have wg:∀ b,b∈X.l→W b:=fr.wg
  obtain ⟨m',cm',α',y₀⟩:=fr
  have y:=y₀.gmove mg.same mg.tk (fun b o hb e=>mg.kept b o hb e) hG fun b hb=>X.live _ _ hG b hb
  have ic:=y.ic
  have hL:∃ o,s.heap.get? (σ.fxg sc ks ok X).env.locals=some o:=y₀.live _ y₀.wL
  have hC:∀ n c,(σ.fxg sc ks ok X).own.lookup n=some c→∃ o,s.heap.get? c=some o:=fun n c hc=>y₀.live c (y₀.wC n c hc)
  refine ⟨m',cm',α',⟨⟨⟨let ⟨h,t,e⟩:=ic.toInCall.same; ⟨h,t,by rw [e]; rfl⟩,ic.toInCall.ns,fun b o e=>ic.toInCall.keep b o (hideAll_sub (l':=X.l++m.l) (fun b q=>List.mem_append_left _ q) b o e),?_⟩,ic.cell,ic.apart,ic.above⟩,y.tk,.inl y.wL,fun n c hc=>.inl (y.wC n c hc),fun b hb=>?_,fun b hb=>?_,⟨hG,M⟩,fun i z sl hz hs=>?_,fun i j z u vs us _ _ hi _ _=>?_⟩⟩
  · have h1:=ic.toInCall.fresh
    have e1:(hideAll σ.S0.heap X.l).objs.size=σ.S0.heap.objs.size:=hideAll_size _ _
    show (hideAll σ.S0.heap (X.l++m.l)).objs.size≤_
    rw [hideAll_size,← e1]; exact h1
  · rcases hb with hb | hb
    · exact y.live b hb
    · obtain ⟨o,e,_⟩:=M.live b hb; exact ⟨o,e⟩
  · rcases List.mem_append.mp hb with hb | hb
    · exact ⟨.inl (y.gW b hb).1,(y.gW b hb).2⟩
    · refine ⟨.inr hb,fun q=>?_,fun n c hc q=>?_⟩
      · obtain ⟨o,e⟩:=hL; exact old _ _ e (q ▸ hb)
      · obtain ⟨o,e⟩:=hC n c hc; exact old _ _ e (q ▸ hb)
  · have hsl:=List.all_eq_true.mp hsim sl (List.mem_of_getElem? hs)
    have o0:=y₀.slot i z sl hz hs
    cases sl with
    | non=>trivial
    | val v =>
      obtain ⟨r,hy81_1⟩:=o0
      have h1:=hy81_1.1
      have h2:=hy81_1.2
      clear hy81_1
      exact ⟨r,h1,fun h' k'=>(h2 h' fun b o hs hb e=>k' b o hs (fun q=>q.elim hb (old b o e)) (mg.kept b o (fun q=>hb (wg b q)) e)).mu hsl⟩
    | adr Φ=>cases hsl
    | own vs=>cases hsl
  · have:=List.all_eq_true.mp hsim _ (List.mem_of_getElem? hi)
    cases this
theorem Fr1.offMach {hm:∀ b o,D.h0.get? b=some o→b ∉ m.l} (fr:Fr1 (σ.fxg sc ks ok (X.mach g cl m text hm)) ρ st W s) (hnew:∀ b o,σ.S0.heap.get? b=some o→b ∉ m.l) (hno:ρ.all (fun sl=>!sl.isOwn)=true):Fr1 (σ.fxg sc ks ok X) ρ g W s:=by
  obtain ⟨m',cm',α',y⟩:=fr
  have ic:=y.ic
  refine ⟨m',cm',α',⟨⟨⟨let ⟨h,t,e⟩:=ic.toInCall.same; ⟨h,t,by rw [e]; rfl⟩,ic.toInCall.ns,fun b o e=>ic.toInCall.keep b o ?_,?_⟩,ic.cell,ic.apart,ic.above⟩,y.tk,y.wL,y.wC,y.live,fun b hb=>y.gW b (List.mem_append_left _ hb),y.gh.1,fun i z sl hz hs=>?_,fun i j z u vs us _ _ hi _ _=>?_⟩⟩
  · have h1:=of_hideAll X.l e
    refine hideAll_get _ h1 fun q=>?_
    rcases List.mem_append.mp q with q | q
    · have:(hideAll σ.S0.heap X.l).get? b=none:=hideAll_none _ q
      have e':(hideAll σ.S0.heap X.l).get? b=some o:=e
      rw [this] at e'; cases e'
    · exact hnew b o h1 q
  · have h1:=ic.toInCall.fresh
    have e1:(hideAll σ.S0.heap (X.l++m.l)).objs.size=σ.S0.heap.objs.size:=hideAll_size _ _
    show (hideAll σ.S0.heap X.l).objs.size≤_
    rw [hideAll_size,← e1]; exact h1
  · have o0:=y.slot i z sl hz hs
    cases sl with
    | non=>trivial
    | val v=>exact o0
    | adr Φ=>exact o0
    | own vs =>
      have:=List.all_eq_true.mp hno _ (List.mem_of_getElem? hs)
      cases this
  · have:=List.all_eq_true.mp hno _ (List.mem_of_getElem? hi)
    cases this
end
noncomputable def tokL:List Nat:=[20,33,29,44,16,35,38,46,17,47,39,48,21,34,30,45]
noncomputable def tokN (x:Str):Nat:=tokL.getD (menu.idxOf x) 0
noncomputable def hourT (x:Str):Nat:=8 - (tokN x - 1) % 8
noncomputable def mT (x:Str):Nat:=if tokN x=16 then 1 else 2
theorem tok_lt:∀ x∈menu,16≤tokN x∧tokN x < 49:=by decide +kernel
theorem tok_a58:∀ x∈menu,A58 (Builtin.bitNot (-(tokN x:Int))) (mT x):=by
  have h1:∀ x∈menu,0 < Builtin.bitNot (-(tokN x:Int))∧Builtin.bitNot (-(tokN x:Int)) < 4096∧((Builtin.Int.intBits (Builtin.bitNot (-(tokN x:Int))):Int)+(4:Nat) - 1).fdiv (4:Nat)=mT x∧(mT x=1∨mT x=2):=by decide +kernel
  have h2:∀ x∈menu,∀ j < mT x,(rAt (digs (Builtin.bitNot (-(tokN x:Int))) 4 (mT x)).reverse j).natAbs < 4096∧((rAt (digs (Builtin.bitNot (-(tokN x:Int))) 4 (mT x)).reverse j) * 2 ^ (4:Int).toNat+(digs (Builtin.bitNot (-(tokN x:Int))) 4 (mT x)).reverse.getD j 0).natAbs < 1073741824:=by decide +kernel
  have h3:∀ x∈menu,∀ d∈(qAt (digs (Builtin.bitNot (-(tokN x:Int))) 4 (mT x)).reverse (mT x)).reverse,0≤d∧d < 2 ^ 4:=by decide +kernel
  exact fun x hx=>⟨(h1 x hx).1,(h1 x hx).2.1,(h1 x hx).2.2.1,(h1 x hx).2.2.2,h2 x hx,h3 x hx⟩
theorem tok_hour:∀ x∈menu,8+Builtin.bitNot (r58 (Builtin.bitNot (-(tokN x:Int))) (mT x))+1=(hourT x:Int)∧8 - ((tokN x:Int) - 1).fmod 8=(hourT x:Int)∧1≤hourT x∧hourT x≤8:=by decide +kernel
noncomputable def capT (n:Int):Nat × Nat:=(((n.fdiv 20).fmod 48).toNat,((n.fdiv 960).fmod 48).toNat)
theorem capT_ok (n:Int):(capT n).1 < 48∧(capT n).2 < 48∧((capT n).1:Int)=(n.fdiv 20).fmod 48∧((capT n).2:Int)=(n.fdiv 960).fmod 48:=by
  have a0:=Int.fmod_nonneg_of_pos (n.fdiv 20) (show (0:Int) < 48 by decide)
  have a1:=Int.fmod_lt_of_pos (n.fdiv 20) (show (0:Int) < 48 by decide)
  have b0:=Int.fmod_nonneg_of_pos (n.fdiv 960) (show (0:Int) < 48 by decide)
  have b1:=Int.fmod_lt_of_pos (n.fdiv 960) (show (0:Int) < 48 by decide)
  unfold capT
  exact ⟨by show Int.toNat _ < _; omega,by show Int.toNat _ < _; omega,Int.toNat_of_nonneg a0,Int.toNat_of_nonneg b0⟩
noncomputable def wkS (xs:List Int):List Str:=worksGo menu (numbersOf xs)
noncomputable def hsS (xs:List Int):List Nat:=(wkS xs).map hourT
noncomputable def cpS (xs:List Int):List (Nat × Nat):=(numbersOf xs).map capT
theorem wsOk (xs:List Int):WsOk (wkS xs) (hsS xs) (cpS xs):=by
  have hz30:=numbers_ok xs
  have h1:=hz30.1
  have h2:=hz30.2
  clear hz30
  obtain ⟨w1,w2,w3⟩:=works_ok (numbersOf xs) menu (by decide) (by rw [h1]; decide)
  refine ⟨w1.trans h1,by unfold hsS; rw [List.length_map]; exact w1.trans h1,by unfold cpS; rw [List.length_map]; exact h1,w2,w3,fun h hh=>?_,fun c hc=>?_⟩
  · obtain ⟨x,hy33_1⟩:=List.mem_map.mp hh
    have hx:=hy33_1.1
    have hx33_0:=hy33_1.2
    clear hy33_1
    subst hx33_0
    exact (tok_hour x (w3 x hx)).2.2
  · obtain ⟨n,hy35_1⟩:=List.mem_map.mp hc
    have hx35_0:=hy35_1.2
    clear hy35_1
    subst hx35_0
    exact ⟨(capT_ok n).1,(capT_ok n).2.1⟩
section
variable {D:Wd} {X:Gw D} {g:X.Γ} {cl:Cls D} {m:MAd} {text:Str} {hm:∀ b o,D.h0.get? b=some o→b ∉ m.l}
noncomputable def Dn.mach (Z:Dn D X):Dn D (X.mach g cl m text hm):={ Z with T56:=Z.T56.mach,T57:=Z.T57.mach }
noncomputable def Pn.mach (Z:Pn D X):Pn D (X.mach g cl m text hm):={ Z with Z:=Z.Z.mach }
end
structure Ln (D:Wd) (X:Gw D) where
  P:Pn D X
  cl:Cls D
  Zk:Mk cl
  gC:D.gl "_netrclex"=some (.ref cl.C)
  f65:FnAt D "_law_machine" 65
  f66:FnAt D "_law_numbers" 66
  f67:FnAt D "_law_works" 67
  f68:FnAt D "_law_text" 68
  f69:FnAt D "_law_plan" 69
  f70:FnAt D "_law_all_sets" 70
  f71:FnAt D "_law_holds" 71
  c65:Addr
  P65:Addr
  e65:f65.cd=.ref c65
  T65:HasTab X c65 P65 qs65
  rd:MFn cl "_read_char" 1
  gt:MFn cl "get_token" 2
  pt:MFn cl "push_token" 3
  giter:D.gl "iter"=some (.builtin "iter")
  aT:Addr
  fT:Str→Option Value
  gT:D.gl "EXACT_TOKEN_TYPES"=some (.ref aT)
  tab:D.h0.MapOf (PySem.strKind D.prog D.w) aT fT
  tk:∀ x∈menu,∃ t,fT x=some (.int (tokN x) t)
  nsX:∀ g h,X.G g h→∀ b o,b∈X.l→h.get? b=some o→¬ seqish o
section
variable {D:Wd} {X:Gw D} (L:Ln D X)
noncomputable abbrev Ln.w (L:Ln D X) (g:X.Γ) (m:MAd) (text:Str) (hm:∀ b o,D.h0.get? b=some o→b ∉ m.l) (hdj:∀ b∈X.l,b ∉ m.l) (htx:text.length≤1000) (hfd:∃ clos doc pm cv ctv,m.fd=fnX "_law_read_on" q65 lArgs65 lBody65 lScope65 clos .none .none doc pm none cv ctv):Mws D :=
  ⟨X,g,L.cl,m,text,hm,hdj,htx,hfd,L.P.Z.glen,L.rd,L.gt,L.pt⟩
noncomputable def ks72:List Str:=["script","numbers","works","caps","machine","heard","hours","plan","best","floors"]
theorem ok72:ScOk (fScope 72) ks72:=⟨by decide,by decide,rfl⟩
noncomputable abbrev st72 (xs:List Int) (numbers works caps machine heard hours plan best floors:Slot):List Slot:=[.val (.list (xs.map .int)),numbers,works,caps,machine,heard,hours,plan,best,floors]
noncomputable abbrev wS (xs:List Int):Slot:=.val (.list ((wkS xs).map .str))
noncomputable abbrev nS (xs:List Int):Slot:=.val (.list ((numbersOf xs).map .int))
noncomputable abbrev cS (xs:List Int):Slot:=.val (.list ((cpS xs).map capV))
noncomputable abbrev hS' (xs:List Int):Slot:=.val (.list ((hsS xs).map nV))
theorem Run1.thenW {F:Fx} {st:Stmt} {ss:List Stmt} {ρ ρ₁:List Slot} {g g₁:F.Γ} {W:Addr→Prop} {s:Shared} {Q:Flow→Shared→Prop} {E:Value→Shared→Prop} (h:Run1 F st ρ g ρ₁ g₁) (fr:Fr1 F ρ g W s)
    (k:∀ W₁ s₁,Fr1 F ρ₁ g₁ W₁ s₁→(∃ h tk,s₁={ s with heap:=h,toks:=tk })→Mv s s₁ W W₁→wpAny F.M F.A (execs ss F.env) Q E s₁):wpAny F.M F.A (execs (st :: ss) F.env) Q E s :=
  wpAny_execs_cons (wpAny_mono (h W s E fr) (fun f s₁ q=>by
    have hx84_0:=q.1
    have hw84_1:=q.2
    try clear q
    subst hx84_0
    obtain ⟨W₁,hy84_1⟩:=hw84_1
    have fr₁:=hy84_1.1
    have mv:=hy84_1.2
    clear hy84_1
    exact k W₁ s₁ fr₁ (fr.same fr₁) mv) fun _ _ q=>q)
theorem eqIntsV {l:List Nat} (hne:l≠[]):eqV (.list (l.map nV)) (.list (l.map nV))=some true:=by
  have h1:strsOf (l.map nV)=none:=by cases l with
    | nil=>exact absurd rfl hne
    | cons a l=>rfl
  have h2:∀ l:List Nat,intsOf (l.map nV)=some (l.map fun n:Nat=>(n:Int)):=by
    intro l
    induction l with
    | nil=>rfl
    | cons a l ih=>show (intsOf (l.map nV)).map _=_; rw [ih]; rfl
  show (match strsOf _,strsOf _ with | some x,some y=>if x.all PyData.strOk && y.all PyData.strOk then some (decide (x=y)) else none | _,_=>match intsOf _,intsOf _ with | some x,some y=>some (decide (x=y)) | _,_=>none)=_
  rw [h1,h2]; simp
end
section
variable {D:Wd} {X:Gw D} (L:Ln D X) {k:Nat} {σ:Site D (k+1)} {g:X.Γ} {xs:List Int}
noncomputable abbrev fA {D:Wd} (X:Gw D) {k:Nat} (σ:Site D k):Fx:=σ.fxg (fScope 72) ks72 ok72 X
include L
theorem nsA:∀ h,(fA X σ).G g h→∀ b o,(fA X σ).Wg b→h.get? b=some o→¬ seqish o:=fun h hg b o hb e=>L.nsX g h hg b o hb e
theorem lawA0 (hl:shortL xs.length=true) (S:Stmt) (hS:(fBody 72)[(0:Nat)]?=some S) {W:Addr→Prop} {s:Shared} {E:Value→Shared→Prop} (fr:Fr1 (fA X σ) (st72 xs .non .non .non .non .non .non .non .non .non) g W (up s)) :
    wpAny (fA X σ).M (fA X σ).A (exec S (fA X σ).env) (fun f s'=>f=.next∧∃ W',Fr1 (fA X σ) (st72 xs (nS xs) .non .non .non .non .non .non .non .non) g W' s'∧Mv s s' W W') E s:=by
  have hS':some ((fBody 72).get ⟨0,by decide⟩)=some S:=hS
  cases hS'
  obtain ⟨r,hy15_1⟩:=Fx.var (F:=fA X σ) (i:=0) (x:="script") rfl rfl (up s) fr
  have hat:=hy15_1.1
  have hr:=hy15_1.2
  clear hy15_1
  have hat':VarAt (fA X σ).env s.heap "script" r:=hat
  have hx:Ext D.h0 s.heap:=(Site.extG (up s) fr).1
  have keep:∀ b o,(fA X σ).S0.heap.get? b=some o→s.heap.get? b=some o:=let ⟨_,_,_,y⟩:=fr; y.ic.toInCall.keep
  refine wpAny_Assign_Name (wpAny_Call_NameR (Calls.Name_function_global (fA X σ).hk (knd (sc:=fScope 72) (by decide)) ((fA X σ).glob s keep _ _ L.f66.gl _ _ ?_) (by decide))) rfl
  refine Calls.callWith_function (o:=L.f66.o) (fd:=Calls.docDef "_law_numbers" (fArgs 66) (fBody 66) (fScope 66) L.f66.pm L.f66.cd L.f66.doc) (args_any (wpAny_items_cons (wpAny_Name (hat'.load (fA X σ).hk (Calls.spliced_nil ?_)) (by decide)) rfl) rfl)
  refine ⟨⟨hx _ _ L.f66.ho,L.f66.hd⟩,?_⟩
  refine wpAny_mono (D.call0 (n:=3) (ks:=ks66) (vs:=[.list (xs.map .int)]) (μ:=σ.μ) (t₀:=0) σ.hA L.f66.ho L.f66.hd L.f66.hcd rfl rfl rfl rfl ok66 (by show 1≤4; decide) (len1 fun _=>rfl) (fun σ' W s E _ fr=>walk66 σ' L.P.genum hl W s E fr) rfl rfl s _ [r] hx (Nat.zero_le _) (.cons hr .nil)) (fun rv s₁ q=>?_) fun _ _ q=>q
  have k:K1 (up s) s₁:=⟨let ⟨h,t,e,k⟩:=q.2.1; ⟨h,t,e,k⟩,q.2.2.1,q.2.2.2⟩
  have hz24:=(fr.keeps k).shrinkG rfl
  have fr₁:=hz24.1
  have sub:=hz24.2
  clear hz24
  have hns:∀ b o,((fA X σ).W0 b∨(fA X σ).Wg b)→s₁.heap.get? b=some o→¬ seqish o:=fun b o hb e=>hb.elim (fun hb=>fr₁.notSeq b o hb e) fun hb=>nsA (σ:=σ) L _ (let ⟨_,_,_,y⟩:=fr₁; y.gh) b o hb e
  exact wpAny_mono (fr₁.store (i:=1) (x:="numbers") rfl (.of_rel q.1 hns)) (fun _ s₂ z=>⟨rfl,_,z.1,fun b o hb e=>z.2.kept b o (fun q=>hb (sub b q)) (kGet q.2.1 b o e),Nat.le_trans q.2.2.2 z.2.size,fun b q=>.inl (sub b q)⟩) fun _ _ q=>q
theorem lawA1 (S:Stmt) (hS:(fBody 72)[(1:Nat)]?=some S) :
    Run1 (fA X σ) S (st72 xs (nS xs) .non .non .non .non .non .non .non .non) g (st72 xs (nS xs) (wS xs) .non .non .non .non .non .non .non) g:=by
  have hS':some ((fBody 72).get ⟨1,by decide⟩)=some S:=hS
  cases hS'
  apply Run1.asgS (F:=fA X σ) (i:=2)
  · intro W
    refine FnAt.does L.f67 rfl Site.extG1 (knd (sc:=fScope 72) (by decide)) (vs:=[.list ((numbersOf xs).map .int)]) (.cons (.nm (Fx.var (i:=1) rfl rfl)) .nil) ?_
    exact L.f67.gives 1 rfl σ.hA Site.extG1 ok67 (by show 1≤2; decide) (len1 fun _=>rfl) fun σ'=>walk67 σ' L.P.Z.glen (numbers_ok xs).1
  · rfl
  · rfl
  · exact nsA L
theorem lawA2 (S:Stmt) (hS:(fBody 72)[(2:Nat)]?=some S) :
    Run1 (fA X σ) S (st72 xs (nS xs) (wS xs) .non .non .non .non .non .non .non) g (st72 xs (nS xs) (wS xs) (cS xs) .non .non .non .non .non .non) g:=by
  have hS':some ((fBody 72).get ⟨2,by decide⟩)=some S:=hS
  cases hS'
  have e:(cpS xs).map capV=((((numbersOf xs).map V.int).filter fun _=>true).map fun v=>match v with | .int n=>capV (capT n) | _=>.none):=by
    rw [List.filter_eq_self.mpr fun _ _=>rfl,List.map_map]
    unfold cpS
    rw [List.map_map]; rfl
  have hz46:=numbers_ok xs
  have hn5:=hz46.1
  have hnb:=hz46.2
  clear hz46
  show Run1 _ _ _ _ ((st72 xs (nS xs) (wS xs) .non .non .non .non .non .non .non).set 3 (.val (.list ((cpS xs).map capV)))) _
  rw [e]
  apply Run1.asgC (F:=fA X σ) (i:=3) (src:=.list ((numbersOf xs).map .int)) (xs:=(numbersOf xs).map .int) (bs:=fun v=>[("number",v)])
  · rfl
  · exact swaps_local rfl (knd (sc:=fScope 72) (by decide)) rfl (by decide)
  · exact fun W=>.nm (Fx.var (i:=1) rfl rfl)
  · exact if_pos (shortL_of (by rw [List.length_map,hn5]; decide))
  · exact .inl ⟨_,_,rfl⟩
  · decide
  · decide
  · exact Site.free (σ:=σ) (sc:=fScope 72) (by decide)
  · intro v hv W
    obtain ⟨n,hy59_1⟩:=List.mem_map.mp hv
    have hx59_0:=hy59_1.2
    clear hy59_1
    subst hx59_0
    exact .name (by decide) rfl rfl
  · intro v hv W cl C hk hcl
    exact rfl
  · intro v hv hp W cl C hk hcl
    obtain ⟨n,hy64_1⟩:=List.mem_map.mp hv
    have hn:=hy64_1.1
    have hx64_0:=hy64_1.2
    clear hy64_1
    subst hx64_0
    have hz65:=capT_ok n
    have c1:=hz65.1
    have c2:=hz65.2.1
    have c3:=hz65.2.2.1
    have c4:=hz65.2.2.2
    clear hz65
    have hs:small n=true:=by
      have hz67:=hnb n hn
      have b0:=hz67.1
      have b1:=hz67.2
      clear hz67
      unfold small; rw [Nat.blt_eq]; omega
    show DoesF _ _ (.tup [.int ((capT n).1:Nat),.int ((capT n).2:Nat)])
    rw [c3,c4]
    have nm:∀ p:Pos,Does (((fA X σ).cx (st72 xs (nS xs) (wS xs) .non .non .non .non .non .non .non) g W).comp _ cl C [("number",V.int n)] hk) (.Name "number" p) (.int n):=fun p=>.nm (Cx.own List.mem_cons_self (by decide))
    exact .tup (.cons (.bin (.bin (nm _) .int (if_pos ⟨by decide,hs,by decide⟩)) .int rfl) (.cons (.bin (.bin (nm _) .int (if_pos ⟨by decide,hs,by decide⟩)) .int rfl) .nil))
end
theorem txt_len {ws:List Str} (hl:ws.length=5) (hw:∀ w∈ws,w∈menu):(textGo "" ws 0).length≤1000:=by
  have h1:=textGo_len ws "" 0 hw
  have h2:(Str.ofString "").length=0:=by decide
  rw [h2,hl] at h1
  omega
section
variable {D:Wd} {X:Gw D} (L:Ln D X) {k:Nat} {σ:Site D (k+1)} {g:X.Γ} {xs:List Int}
include L
theorem lawA3 (hk:5≤k) (S:Stmt) (hS:(fBody 72)[(3:Nat)]?=some S) {W:Addr→Prop} {s:Shared} {ss:List Stmt} {Q:Flow→Shared→Prop} {E:Value→Shared→Prop} (fr:Fr1 (fA X σ) (st72 xs (nS xs) (wS xs) (cS xs) .non .non .non .non .non .non) g W s)
    (kk:∀ (m:MAd) (hm:∀ b o,D.h0.get? b=some o→b ∉ m.l) (hdj:∀ b∈X.l,b ∉ m.l) (hfd:∃ clos doc pm cv ctv,m.fd=fnX "_law_read_on" q65 lArgs65 lBody65 lScope65 clos .none .none doc pm none cv ctv) W₁ s₁,
      (∀ b o,σ.S0.heap.get? b=some o→b ∉ m.l)→Fr1 (fA (X.mach g L.cl m (textGo "" (wkS xs) 0) hm) (σ.at_ m.x)) (st72 xs (nS xs) (wS xs) (cS xs) (.val .mach) .non .non .non .non .non) (gsT (wkS xs) 0) W₁ s₁→(∃ h tk,s₁={ s with heap:=h,toks:=tk })→Mv s s₁ W W₁→wpAny (fA X σ).M (fA X σ).A (execs ss (fA X σ).env) Q E s₁) :
    wpAny (fA X σ).M (fA X σ).A (execs (S :: ss) (fA X σ).env) Q E s:=by
  have hS':some ((fBody 72).get ⟨3,by decide⟩)=some S:=hS
  cases hS'
  have ok:=wsOk xs
  have hext:∀ {s},Fr1 (fA X σ) (st72 xs (nS xs) (wS xs) (cS xs) .non .non .non .non .non .non) g W s→Ext D.h0 s.heap:=fun fr=>(Site.extG _ fr).1
  refine wpAny_execs_cons (wpAny_Assign_Name (wpAny_Call_NameR (glob_name (c:=(fA X σ).cx (st72 xs (nS xs) (wS xs) (cS xs) .non .non .non .non .non .non) g W) fr (knd (sc:=fScope 72) (by decide)) L.f65.gl ?_ (by decide))) rfl)
  refine Calls.callWith_function (o:=L.f65.o) (fd:=Calls.docDef "_law_machine" (fArgs 65) (fBody 65) (fScope 65) L.f65.pm L.f65.cd L.f65.doc) (args_any (run_on (c:=(fA X σ).cx (st72 xs (nS xs) (wS xs) (cS xs) .non .non .non .non .non .non) g W) fr (DoesL.cons (c:=(fA X σ).cx (st72 xs (nS xs) (wS xs) (cS xs) .non .non .non .non .non .non) g W) (v:=.str (textGo "" (wkS xs) 0)) (vs:=[]) ?_ .nil rfl _ s E fr) fun rs s₁ y h₁ k₁=>?_) rfl)
  · refine FnAt.does L.f68 rfl Site.extG1 (knd (sc:=fScope 72) (by decide)) (vs:=[.list ((wkS xs).map .str)]) (.cons (.nm (Fx.var (i:=2) rfl rfl)) .nil) ?_
    exact L.f68.gives 3 rfl σ.hA Site.extG1 ok68 (by show 1≤4; decide) (len1 fun _=>rfl) fun σ'=>walk68 σ' L.P.genum ok.lw ok.menu
  have fr₁:Fr1 (fA X σ) (st72 xs (nS xs) (wS xs) (cS xs) .non .non .non .non .non .non) g W s₁:=h₁
  have hx₁:=hext fr₁
  obtain ⟨r,hy28_1⟩:=y.inv1
  have hx28_0:=hy28_1.1
  have hr:=hy28_1.2
  clear hy28_1
  subst hx28_0
  unfold VRel at hr
  obtain ⟨t,rfl⟩:=hr
  have hg₁:X.G g s₁.heap:=let ⟨_,_,_,z⟩:=fr₁; z.gh
  have ht₁:1≤s₁.toks:=k₁.2.1
  refine ⟨⟨hx₁ _ _ L.f65.ho,L.f65.hd⟩,?_⟩
  refine wpAny_mono (call65 L.Zk L.P.Z.N L.f65 L.T65 L.e65 L.gC g (σ.hA.le (by omega)) hx₁ ht₁ hg₁) (fun r s₂ q=>?_) fun _ _ q=>q
  obtain ⟨m,hy35_1⟩:=q
  have hx35_0:=hy35_1.1
  have M:=hy35_1.2.1
  have hg₂:=hy35_1.2.2.1
  have hnew:=hy35_1.2.2.2.1
  have mg:=hy35_1.2.2.2.2.1
  have hfd:=hy35_1.2.2.2.2.2
  clear hy35_1
  subst hx35_0
  have old:∀ b o,s₁.heap.get? b=some o→b ∉ m.l:=fun b o e q=>Nat.lt_irrefl _ (Nat.lt_of_lt_of_le (Heap.lt_size e) (hnew b q))
  have hm:∀ b o,D.h0.get? b=some o→b ∉ m.l:=fun b o e=>old b o (hx₁ b o e)
  have hdj:∀ b∈X.l,b ∉ m.l:=fun b hb=>let ⟨o,e⟩:=X.live _ _ hg₁ b hb; old b o e
  have hS0:∀ b o,σ.S0.heap.get? b=some o→b ∉ m.l:=fun b o e=>by
    by_cases hb:b∈X.l
    · exact hdj b hb
    · obtain ⟨_,_,_,z⟩:=fr₁
      exact old b o (z.ic.toInCall.keep b o (hideAll_get _ e hb))
  have hsim:(st72 xs (nS xs) (wS xs) (cS xs) .non .non .non .non .non .non).all Slot.sim=true:=by
    have a1:∀ l:List Int,(l.map V.int).all V.sim1=true:=fun l=>List.all_eq_true.mpr fun v hv=>by obtain ⟨x,_,rfl⟩:=List.mem_map.mp hv; rfl
    have a2:∀ l:List Str,(l.map V.str).all V.sim1=true:=fun l=>List.all_eq_true.mpr fun v hv=>by obtain ⟨x,_,rfl⟩:=List.mem_map.mp hv; rfl
    have a3:∀ l:List (Nat × Nat),(l.map capV).all V.sim1=true:=fun l=>List.all_eq_true.mpr fun v hv=>by obtain ⟨x,_,rfl⟩:=List.mem_map.mp hv; rfl
    show ((xs.map V.int).all V.sim1 && (((numbersOf xs).map V.int).all V.sim1 && (((wkS xs).map V.str).all V.sim1 && (((cpS xs).map capV).all V.sim1 && true))))=true
    rw [a1,a1,a2,a3]; rfl
  have fr₂:=fr₁.toMach mg hg₂ M hnew hsim hm
  refine wpAny_mono (fr₂.store (i:=4) (x:="machine") (v:=.mach) (r:=.ref m.x) rfl fun _ _=>by unfold VRel; rfl) (fun _ s₃ q=>?_) fun _ _ q=>q
  refine kk m hm hdj hfd _ s₃ hS0 q.1 ?_ ?_
  · obtain ⟨h1,t1,hy53_1⟩:=k₁.1
    have e1:=hy53_1.1
    clear hy53_1
    obtain ⟨h2,t2,e2⟩:=mg.same
    obtain ⟨h3,t3,e3⟩:=fr₂.same q.1
    exact ⟨h3,t3,by rw [e3,e2,e1]⟩
  · exact (Mv.of k₁).trans (Mv.trans ⟨fun b o hb e=>mg.kept b o (fun q=>hb (fr₁.wg b q)) e,mg.size,fun b q=>q.imp id (hnew b)⟩ q.2)
end
section
variable {D:Wd} (w:Mws D) {k:Nat} {σ:Site D (k+1)}
theorem lineY {sc:Scope} {ks:List Str} {ok:ScOk sc ks} (hμ:σ.μ=w.m.x) {ρ:List Slot} {st:MSt} {W:Addr→Prop} {i:Nat} {x:Str} {px pos:Pos} (hx:ks[i]?=some x) (hi:ρ[i]?=some (.val .mach)) (hd:(x == ("__debug__":Str))=false:=by decide) :
    Does ((σ.fxg sc ks ok w.Y).cx ρ st W) (.Attribute (.Name x px) "lineno" pos) (.int st.line):=.of fun s E hs=>by
  refine Attribute_name (wpAny_Name ((selfY w hμ hx hi s hs).load ok.hk ?_) hd)
  have hz12:=Site.extG s hs
  have hxt:=hz12.1
  have hg:=hz12.2
  clear hz12
  have hg':w.Y.G st s.heap:=hg
  obtain ⟨mA,t,hy14_1⟩:=MachAt.lineno w hg'.2
  have hA:=hy14_1.1
  have hl:=hy14_1.2
  clear hy14_1
  exact obj_get w hxt hg'.2 ⟨mA,hA,hl⟩ w.cl.lineno (lkB _ (.inr (.inr (.inr (.inl rfl))))) rfl ⟨.i _ _,kTok _ _⟩
variable {X:Gw D} (L:Ln D X) (Z:Pn D w.Y) {xs:List Int}
include L Z
theorem lawB4 (hk:3≤k) (hμ:σ.μ=w.m.x) (htext:w.text=textGo "" (wkS xs) 0) (S:Stmt) (hS:(fBody 72)[(4:Nat)]?=some S) :
    Run1 (fA w.Y σ) S (st72 xs (nS xs) (wS xs) (cS xs) (.val .mach) .non .non .non .non .non) (gsT (wkS xs) 0)
      (st72 xs (nS xs) (wS xs) (cS xs) (.val .mach) (.val (.list ((wkS xs++[("":Str)]).map .str))) .non .non .non .non) (gsT (wkS xs) 6):=by
  have hS':some ((fBody 72).get ⟨4,by decide⟩)=some S:=hS
  cases hS'
  have ok:=wsOk xs
  refine Run1.asgCG (σ:=σ) (sc:=fScope 72) (ks:=ks72) (ok:=ok72) (X:=w.Y) (i:=5) (src:=.rng 0 6) (xs:=(List.range 6).map fun (i:Nat)=>V.int (0+(i:Int))) (gs:=fun j=>gsT (wkS xs) j) (ys:=(wkS xs++[("":Str)]).map .str) ?_ ?_ ?_ ?_ ?_ ?_ ?_ ?_ ?_ ?_ rfl ?_ ?_ ?_
  · rfl
  · exact swaps_local rfl (knd (sc:=fScope 72) (by decide)) rfl (by decide)
  · exact DoesA.new (fun W=>DoesF.range1 (knd (sc:=fScope 72) (by decide)) Z.grange .int) (by intro q; cases q)
  · rfl
  · exact .inr ⟨_,List.mem_map.mpr ⟨0,by decide,rfl⟩⟩
  · intro v hv
    obtain ⟨i,hy31_1⟩:=List.mem_map.mp hv
    have hx31_0:=hy31_1.2
    clear hy31_1
    subst hx31_0
    rfl
  · decide
  · decide
  · exact Site.free (σ:=σ) (sc:=fScope 72) (by decide)
  · rfl
  · rw [List.length_map,List.length_append,ok.lw]; rfl
  · exact List.all_eq_true.mpr fun v hv=>by obtain ⟨x,_,rfl⟩:=List.mem_map.mp hv; rfl
  · intro j v y hv hy W cl C hcl
    rw [List.getElem?_map] at hy
    obtain ⟨x,hy41_1⟩:=Option.map_eq_some_iff.mp hy
    have hx:=hy41_1.1
    have hx41_0:=hy41_1.2
    clear hy41_1
    subst hx41_0
    have kn:(σ.env (fScope 72)).kindOf (Str.ofString "machine")≠some .local:=by show (fScope 72).names.lookup _≠_; decide
    refine getG w (c:=((fA w.Y σ).cx (st72 xs (nS xs) (wS xs) (cS xs) (.val .mach) .non .non .non .non .non) (gsT (wkS xs) j) W).comp _ cl C [("_",v)] rfl) (k:=k) rfl hμ σ.hA (st:=gsT (wkS xs) j) (st':=gsT (wkS xs) (j+1)) (fun s h=>Site.extG s h.1) (Cx.out (Fx.var (i:=4) rfl rfl) hcl (by decide) kn) (fun σ' e=>?_) (fun _=>rfl)
    by_cases hj:j < 5
    · rw [List.getElem?_append_left (by rw [ok.lw]; exact hj)] at hx
      obtain ⟨n,hy46_1⟩:=tok_at ok.lw ok.menu hx
      have t1:=hy46_1.1
      have t2:=hy46_1.2
      clear hy46_1
      rw [← htext] at t1 t2
      rw [← t2]
      exact (walkGTt w L.giter hk e (st:=gsT (wkS xs) j) rfl t1).ends
    · have hj5:j=5:=by
        have:=(List.getElem?_eq_some_iff.mp hx).1
        rw [List.length_append,ok.lw] at this
        have h1:([("":Str)]:List Str).length=1:=rfl
        omega
      subst hj5
      have hz56:=tok_end ok.lw
      have e1:=hz56.1
      have e2:=hz56.2
      clear hz56
      rw [List.getElem?_append_right (by rw [ok.lw]; exact Nat.le_refl _),ok.lw] at hx
      have hx':x="":=(Option.some.inj hx).symm
      subst hx'
      rw [show gsT (wkS xs) (5+1)=gsT (wkS xs) 5 from e2]
      exact (walkGTe w L.giter hk e (st:=gsT (wkS xs) 5) rfl (by rw [htext]; exact e1)).ends
theorem lawB5 (hμ:σ.μ=w.m.x) (S:Stmt) (hS:(fBody 72)[(5:Nat)]?=some S) :
    Run1 (fA w.Y σ) S (st72 xs (nS xs) (wS xs) (cS xs) (.val .mach) (.val (.list ((wkS xs++[("":Str)]).map .str))) .non .non .non .non) (gsT (wkS xs) 6)
      (st72 xs (nS xs) (wS xs) (cS xs) (.val .mach) (.val (.list ((wkS xs++[("":Str)]).map .str))) .non .non .non .non) (gsT (wkS xs) 6):=by
  have hS':some ((fBody 72).get ⟨5,by decide⟩)=some S:=hS
  cases hS'
  have ok:=wsOk xs
  have hok:∀ y∈wkS xs++[("":Str)],PyData.strOk y=true:=fun y hy=>by
    rcases List.mem_append.mp hy with q | q
    · exact menu_ok y (ok.menu y q)
    · rw [List.mem_singleton.mp q]; decide +kernel
  refine Run1.skip fun W=>Tests.or (x:=false) (y:=false) (Tests.cmp (va:=.list ((wkS xs++[("":Str)]).map .str)) (vb:=.list ((wkS xs++[("":Str)]).map .str)) (.nm (Fx.var (i:=5) rfl rfl)) (Does.bin (va:=.list ((wkS xs).map .str)) (vb:=.list [.str ""]) (.nm (Fx.var (i:=2) rfl rfl)) (.list (.cons .str .nil)) ?_) ?_) fun _=>Tests.cmp (lineY w hμ (i:=4) rfl rfl) .int rfl
  · rw [List.map_append]
    exact if_pos (by rw [shortL_of (by rw [List.length_map,ok.lw]; decide)]; rfl)
  · show (cmpV .Eq (.list ((wkS xs++[("":Str)]).map .str)) (.list ((wkS xs++[("":Str)]).map .str))).map (!·)=_
    rw [eqStrsV hok hok]; simp
theorem lawB6 (hk:10≤k) (S:Stmt) (hS:(fBody 72)[(6:Nat)]?=some S) {st:MSt} {heard:Slot} :
    Run1 (fA w.Y σ) S (st72 xs (nS xs) (wS xs) (cS xs) (.val .mach) heard .non .non .non .non) st
      (st72 xs (nS xs) (wS xs) (cS xs) (.val .mach) heard (hS' xs) .non .non .non) st:=by
  have hS':some ((fBody 72).get ⟨6,by decide⟩)=some S:=hS
  cases hS'
  have ok:=wsOk xs
  refine Run1.asgCG (σ:=σ) (sc:=fScope 72) (ks:=ks72) (ok:=ok72) (X:=w.Y) (i:=6) (src:=.list ((wkS xs).map .str)) (xs:=(wkS xs).map .str) (gs:=fun _=>st) (ys:=(hsS xs).map nV) ?_ ?_ ?_ ?_ ?_ ?_ ?_ ?_ ?_ ?_ rfl ?_ ?_ ?_
  · rfl
  · exact swaps_local rfl (knd (sc:=fScope 72) (by decide)) rfl (by decide)
  · exact DoesA.var (i:=2) rfl rfl (by intro q; cases q)
  · exact if_pos (shortL_of (by rw [List.length_map,ok.lw]; decide))
  · exact .inl rfl
  · intro v hv
    obtain ⟨i,hy90_1⟩:=List.mem_map.mp hv
    have hx90_0:=hy90_1.2
    clear hy90_1
    subst hx90_0
    rfl
  · decide
  · decide
  · exact Site.free (σ:=σ) (sc:=fScope 72) (by decide)
  · rfl
  · rw [List.length_map,List.length_map,ok.lh,ok.lw]
  · exact List.all_eq_true.mpr fun v hv=>by obtain ⟨x,_,rfl⟩:=List.mem_map.mp hv; rfl
  · intro j v y hv hy W cl C hcl
    rw [List.getElem?_map] at hv
    obtain ⟨x,hy100_1⟩:=Option.map_eq_some_iff.mp hv
    have hx:=hy100_1.1
    have hx100_0:=hy100_1.2
    clear hy100_1
    subst hx100_0
    have hxm:=ok.menu x (List.mem_of_getElem? hx)
    have hy':y=.int (8+Builtin.bitNot (r58 (Builtin.bitNot (-(tokN x:Int))) (mT x))+1):=by
      unfold hsS at hy
      rw [List.map_map,List.getElem?_map,hx] at hy
      rw [(tok_hour x hxm).1]
      exact (Option.some.inj hy).symm
    subst hy'
    obtain ⟨t,ht⟩:=L.tk x hxm
    refine DoesG.second (a:=Builtin.bitNot (q58 (Builtin.bitNot (-(tokN x:Int))) (mT x))) ?_
    refine DoesG.callF (Cx.glb (by decide)) Z.Z.f59.gl (.cons (.flat (.neg (Does.tok (Cx.glb (by decide)) L.gT (fun s h=>?_) (.nm (Cx.own List.mem_cons_self (by decide))) ht))) (.cons (.flat .int) .nil)) (fun s hs=>(Site.extG s hs.1).1 _ _ Z.Z.f59.ho) Z.Z.f59.hd ?_
    · obtain ⟨o,es,ep,hy111_1⟩:=L.tab
      have e:=hy111_1.1
      have r:=hy111_1.2
      clear hy111_1
      exact ⟨o,es,ep,(Site.extG s h.1).1 _ _ e,r⟩
    · exact Z.Z.f59.givesG (ks:=ks59) (vs:=[.int (-(tokN x:Int)),.int 8]) 2 rfl σ.hA (fun s h=>Site.extG s h.1) ok59 (by show 2≤4; decide) (len2 fun _ _=>rfl)
        fun σ' _ _ _=>(walk59 Z.Z σ' st hk (by have:=tok_lt x hxm; omega) (tok_a58 x hxm)).ends
theorem lawB7 (S:Stmt) (hS:(fBody 72)[(7:Nat)]?=some S) {st:MSt} {heard:Slot} :
    Run1 (fA w.Y σ) S (st72 xs (nS xs) (wS xs) (cS xs) (.val .mach) heard (hS' xs) .non .non .non) st
      (st72 xs (nS xs) (wS xs) (cS xs) (.val .mach) heard (hS' xs) .non .non .non) st:=by
  have hS':some ((fBody 72).get ⟨7,by decide⟩)=some S:=hS
  cases hS'
  have ok:=wsOk xs
  have e:(hsS xs).map nV=((((wkS xs).map V.str).filter fun _=>true).map fun v=>match v with | .str x=>V.int (8 - ((tokN x:Int) - 1).fmod 8) | _=>.none):=by
    rw [List.filter_eq_self.mpr fun _ _=>rfl,List.map_map]
    unfold hsS
    rw [List.map_map]
    refine List.map_congr_left fun x hx=>?_
    show V.int (hourT x:Nat)=V.int _
    rw [(tok_hour x (ok.menu x hx)).2.1]
  refine Run1.skip fun W=>Tests.cmp (va:=.list ((hsS xs).map nV)) (vb:=.list ((hsS xs).map nV)) (.nm (Fx.var (i:=6) rfl rfl)) ?_ ?_
  · rw [e]
    apply DoesF.does
    apply DoesF.comp (src:=.list ((wkS xs).map .str)) (bs:=fun v=>[("work",v)]) (xs:=(wkS xs).map .str)
    · exact .nm (Fx.var (i:=2) rfl rfl)
    · exact if_pos (shortL_of (by rw [List.length_map,ok.lw]; decide))
    · exact .inl ⟨_,_,rfl⟩
    · decide
    · decide
    · exact Site.free (σ:=σ) (sc:=fScope 72) (by decide)
    · intro v hv
      obtain ⟨y,hy139_1⟩:=List.mem_map.mp hv
      have hx139_0:=hy139_1.2
      clear hy139_1
      subst hx139_0
      exact .name (by decide) rfl rfl
    · intro v hv cl C hk hcl
      exact rfl
    · intro v hv hp cl C hk hcl
      obtain ⟨x,hy144_1⟩:=List.mem_map.mp hv
      have hx:=hy144_1.1
      have hx144_0:=hy144_1.2
      clear hy144_1
      subst hx144_0
      obtain ⟨t,ht⟩:=L.tk x (ok.menu x hx)
      refine Does.flat (hf:=rfl) (.bin .int (.bin (.bin (va:=.int (tokN x:Int)) (Does.tok (Cx.glb (by decide)) L.gT (fun s h=>?_) (.nm (Cx.own List.mem_cons_self (by decide))) ht) .int rfl) .int rfl) rfl)
      obtain ⟨o,es,ep,hy147_1⟩:=L.tab
      have e:=hy147_1.1
      have r:=hy147_1.2
      clear hy147_1
      exact ⟨o,es,ep,(Site.extG s h.1).1 _ _ e,r⟩
  · show (eqV _ _).map (!·)=_
    rw [eqIntsV fun q=>by have:=ok.lh; rw [q] at this; cases this]; rfl
end
noncomputable def plS (xs:List Int):List (Nat × Nat):=planN (wkS xs) (hsS xs) (cpS xs) 5
structure PlainOk (xs:List Int):Prop where
  ne:∀ g,1≤g→g < 32→mayL (wkS xs) g≠[]
  hok:∀ (k c g:Nat),(plS xs)[k]?=some (c,g)→c < 127∧g < 32∧parts g≠[]∧(floorsT (wkS xs) (hsS xs) (cpS xs) 31)[g]?=some c∧(bestT (wkS xs) (hsS xs) (cpS xs) 31)[g]?=some (maxL (((plS xs).drop k).map Prod.fst)) ∧
    maxL ((parts g).map fun p=>(floorsT (wkS xs) (hsS xs) (cpS xs) 31).getD p 0)=maxL (((plS xs).drop k).map Prod.fst)
noncomputable abbrev pS (xs:List Int):Slot:=.val (.list ((plS xs).map planV))
section
variable {D:Wd} (w:Mws D) {k:Nat} {σ:Site D (k+1)} {X:Gw D} (L:Ln D X) (Z:Pn D w.Y) {xs:List Int}
include L Z
theorem lawB8 (hk:8≤k) (hμ:σ.μ=w.m.x) (S:Stmt) (hS:(fBody 72)[(8:Nat)]?=some S) {st:MSt} (hpb:st.pb=[]) {heard:Slot} (hno:heard.isOwn=false) :
    Run1 (fA w.Y σ) S (st72 xs (nS xs) (wS xs) (cS xs) (.val .mach) heard (hS' xs) .non .non .non) st
      (st72 xs (nS xs) (wS xs) (cS xs) (.val .mach) heard (hS' xs) (pS xs) .non .non) st:=by
  have hS':some ((fBody 72).get ⟨8,by decide⟩)=some S:=hS
  cases hS'
  have ok:=wsOk xs
  obtain ⟨k',rfl⟩:∃ k',k=k'+1:=⟨k - 1,by omega⟩
  apply Run1.asgG0 (F:=fA w.Y σ) (i:=7) (l:=w.Y.l)
  · exact fun b=>Iff.rfl
  · intro W
    refine DoesG.callF (knd (sc:=fScope 72) (by decide)) L.f69.gl (.cons (.var (i:=4) (fun b hb=>hb) rfl rfl) (.cons (.var (i:=2) (fun b hb=>hb) rfl rfl) (.cons (.var (i:=6) (fun b hb=>hb) rfl rfl) (.cons (.var (i:=3) (fun b hb=>hb) rfl rfl) .nil)))) (fun s hs=>Site.extG1 s hs _ _ L.f69.ho) L.f69.hd ?_
    exact L.f69.givesG (ks:=ks69) (vs:=[.mach,.list ((wkS xs).map .str),.list ((hsS xs).map nV),.list ((cpS xs).map capV)]) 12 rfl σ.hA Site.extG ok69 (by show 4≤16; decide) (len4 fun _ _ _ _=>rfl)
      fun σ' e _ _=>(walk69 w Z ok (e.trans hμ) (by omega) hpb).ends
  · cases heard <;> first | rfl | cases hno
  · exact fun h q b hb=>w.Y.live st h q b hb
  · rfl
theorem lawB9 (hk:3≤k) (hμ:σ.μ=w.m.x) (htext:w.text=textGo "" (wkS xs) 0) (S:Stmt) (hS:(fBody 72)[(9:Nat)]?=some S) {heard:Slot} :
    Run1 (fA w.Y σ) S (st72 xs (nS xs) (wS xs) (cS xs) (.val .mach) heard (hS' xs) (pS xs) .non .non) (gsT (wkS xs) 6)
      (st72 xs (nS xs) (wS xs) (cS xs) (.val .mach) heard (hS' xs) (pS xs) .non .non) (gsT (wkS xs) 6):=by
  have hS':some ((fBody 72).get ⟨9,by decide⟩)=some S:=hS
  cases hS'
  have ok:=wsOk xs
  have hpl:((plS xs).map planV).length=5:=by rw [List.length_map]; unfold plS planN; rw [List.length_map,List.length_range]
  have hz39:=tok_end ok.lw
  have e1:=hz39.1
  have e2:=hz39.2
  clear hz39
  have h0:((plS xs).map planV)[(0:Int).toNat]?=some (.tup [.flt (fl (choice (wkS xs) (hsS xs) (cpS xs) (remAt (wkS xs) (hsS xs) (cpS xs) 0)).1),.int 31]):=rfl
  have hg:∀ {c:Cx},Gives1 c (.builtin "len") [.list ((plS xs).map planV)] (.int 5):=fun {c}=>by
    have:=Gives1.len (c:=c) (vs:=(plS xs).map planV) (shortL_of (by rw [hpl]; decide))
    rw [hpl] at this
    exact this
  apply Run1.skip3 (F:=fA w.Y σ) (l:=w.Y.l)
  · exact fun b=>Iff.rfl
  · intro W
    refine Tests.cmp (va:=.int 5) (vb:=.int 5) ?_ .int rfl
    exact Does.callB (knd (sc:=fScope 72) (by decide)) Z.Z.glen (.cons (.nm (Fx.var (i:=7) rfl rfl)) .nil) hg
  · intro W
    exact Tests.cmp (va:=.int 31) (vb:=.int 31) (.idxT (k:=1) (.idx (k:=0) (.nm (Fx.var (i:=7) rfl rfl)) .int (by decide) h0 (shortL_of (by rw [hpl]; decide))) .int (by decide) rfl rfl) .int rfl
  · intro W
    exact getG w (c:=(fA w.Y σ).cx (st72 xs (nS xs) (wS xs) (cS xs) (.val .mach) heard (Mine.hS' xs) (pS xs) .non .non) (gsT (wkS xs) 6) W) (k:=k) rfl hμ σ.hA (st:=gsT (wkS xs) 6) (st':=gsT (wkS xs) 6) (fun s h=>Site.extG s h) (Fx.var (i:=4) rfl rfl) (fun σ' e=>(walkGTe w L.giter hk e (st:=gsT (wkS xs) 6) rfl (by rw [htext,e2]; exact e1)).ends) (fun _=>rfl)
  · exact fun h q b hb=>w.Y.live _ h q b hb
end
section
variable {D:Wd} {X:Gw D} (L:Ln D X) {k:Nat} {σ:Site D (k+1)} {g:X.Γ} {xs:List Int}
include L
theorem lawC (hPl:PlainOk xs) {heard machine:Slot} (h1:heard.isOwn=false) (h2:machine.isOwn=false) :
    Rets (fA X σ) ((fBody 72).drop 10) (st72 xs (nS xs) (wS xs) (cS xs) machine heard (hS' xs) (pS xs) .non .non) g (.bool true) (X.G g):=by
  have ok:=wsOk xs
  refine Rets.cons (ρ₁:=st72 xs (nS xs) (wS xs) (cS xs) machine heard (hS' xs) (pS xs) (.val (.list ((bestT (wkS xs) (hsS xs) (cpS xs) 31).map nV))) (.val (.list ((floorsT (wkS xs) (hsS xs) (cpS xs) 31).map nV)))) (g₁:=g) ?_ ?_
  · apply Run1.asg2S (F:=fA X σ) (i:=8) (j:=9) (a:=.list ((bestT (wkS xs) (hsS xs) (cpS xs) 31).map nV)) (b:=.list ((floorsT (wkS xs) (hsS xs) (cpS xs) 31).map nV))
    · intro W
      refine FnAt.does L.f70 rfl Site.extG1 (knd (sc:=fScope 72) (by decide)) (vs:=[.list ((wkS xs).map .str),.list ((hsS xs).map nV),.list ((cpS xs).map capV)]) (.cons (.nm (Fx.var (i:=2) rfl rfl)) (.cons (.nm (Fx.var (i:=6) rfl rfl)) (.cons (.nm (Fx.var (i:=3) rfl rfl)) .nil))) ?_
      exact L.f70.gives 10 rfl σ.hA Site.extG1 ok70 (by show 3≤13; decide) (len3 fun _ _ _=>rfl) fun σ'=>walk70 σ' L.P.grange L.P.gsum L.P.gmax L.P.gmin ok.lw ok.lh ok.lc ok.menu (fun h hh=>(ok.h1 h hh).2) hPl.ne
    · rfl
    · rfl
    · cases heard <;> cases machine <;> first | rfl | (cases h1; done) | (cases h2; done)
    · exact nsA L
  · refine Rets.retFl (fun W=>?_) rfl
    refine FnAt.does L.f71 rfl Site.extG1 (knd (sc:=fScope 72) (by decide)) (vs:=[.list ((plS xs).map planV),.list ((bestT (wkS xs) (hsS xs) (cpS xs) 31).map nV),.list ((floorsT (wkS xs) (hsS xs) (cpS xs) 31).map nV)]) (.cons (.nm (Fx.var (i:=7) rfl rfl)) (.cons (.nm (Fx.var (i:=8) rfl rfl)) (.cons (.nm (Fx.var (i:=9) rfl rfl)) .nil))) ?_
    exact L.f71.gives 5 rfl σ.hA Site.extG1 ok71 (by show 3≤8; decide) (len3 fun _ _ _=>rfl) fun σ'=>walk71 σ' L.P.grange L.P.gmax (by unfold plS planN; rw [List.length_map,List.length_range]) (bestT_len _ _ _ 31) (floorsT_len _ _ _ 31) hPl.hok
theorem walk72 (hPl:PlainOk xs) (hl:shortL xs.length=true) (hk:10≤k) {W:Addr→Prop} {s:Shared} {E:Value→Shared→Prop} (fr:Fr1 (fA X σ) (st72 xs .non .non .non .non .non .non .non .non .non) g W (up s)) :
    wpAny (fA X σ).M (fA X σ).A (execs (fBody 72) (fA X σ).env) (fun f s'=>RetOk (fA X σ) (.bool true) (X.G g) W s (match f with | .ret r=>r | _=>.none) s') E s:=by
  have ok:=wsOk xs
  refine wpAny_execs_cons (wpAny_mono (lawA0 L hl _ rfl fr) (fun f s₁ q=>?_) fun _ _ q=>q)
  have hx29_0:=q.1
  have hw29_1:=q.2
  try clear q
  subst hx29_0
  obtain ⟨W₁,hy29_1⟩:=hw29_1
  have fr₁:=hy29_1.1
  have mv₁:=hy29_1.2
  clear hy29_1
  have sm₁:∃ h tk,s₁={ s with heap:=h,toks:=tk }:=let ⟨h,t,e⟩:=fr.same fr₁; ⟨h,t,e⟩
  refine Run1.thenW (lawA1 L _ rfl) fr₁ fun W₂ s₂ fr₂ sm₂ mv₂=>?_
  refine Run1.thenW (lawA2 L _ rfl) fr₂ fun W₃ s₃ fr₃ sm₃ mv₃=>?_
  refine lawA3 L (by omega) _ rfl fr₃ fun m hm hdj hfd W₄ s₄ hS0 fr₄ sm₄ mv₄=>?_
  have htx:=txt_len ok.lw ok.menu
  have Z:Pn D (L.w g m (textGo "" (wkS xs) 0) hm hdj htx hfd).Y:=L.P.mach
  refine Run1.thenW (F:=fA (L.w g m (textGo "" (wkS xs) 0) hm hdj htx hfd).Y (σ.at_ m.x)) (lawB4 (L.w g m (textGo "" (wkS xs) 0) hm hdj htx hfd) L Z (by omega) rfl rfl _ rfl) fr₄ fun W₅ s₅ fr₅ sm₅ mv₅=>?_
  refine Run1.thenW (F:=fA (L.w g m (textGo "" (wkS xs) 0) hm hdj htx hfd).Y (σ.at_ m.x)) (lawB5 (L.w g m (textGo "" (wkS xs) 0) hm hdj htx hfd) L Z rfl _ rfl) fr₅ fun W₆ s₆ fr₆ sm₆ mv₆=>?_
  refine Run1.thenW (F:=fA (L.w g m (textGo "" (wkS xs) 0) hm hdj htx hfd).Y (σ.at_ m.x)) (lawB6 (L.w g m (textGo "" (wkS xs) 0) hm hdj htx hfd) L Z hk _ rfl) fr₆ fun W₇ s₇ fr₇ sm₇ mv₇=>?_
  refine Run1.thenW (F:=fA (L.w g m (textGo "" (wkS xs) 0) hm hdj htx hfd).Y (σ.at_ m.x)) (lawB7 (L.w g m (textGo "" (wkS xs) 0) hm hdj htx hfd) L Z _ rfl) fr₇ fun W₈ s₈ fr₈ sm₈ mv₈=>?_
  refine Run1.thenW (F:=fA (L.w g m (textGo "" (wkS xs) 0) hm hdj htx hfd).Y (σ.at_ m.x)) (lawB8 (L.w g m (textGo "" (wkS xs) 0) hm hdj htx hfd) L Z (by omega) rfl _ rfl rfl rfl) fr₈ fun W₉ s₉ fr₉ sm₉ mv₉=>?_
  refine Run1.thenW (F:=fA (L.w g m (textGo "" (wkS xs) 0) hm hdj htx hfd).Y (σ.at_ m.x)) (lawB9 (L.w g m (textGo "" (wkS xs) 0) hm hdj htx hfd) L Z (by omega) rfl rfl _ rfl) fr₉ fun Wa sa fra sma mva=>?_
  have frc:Fr1 (fA X (σ.at_ m.x)) _ g Wa sa:=Fr1.offMach (hm:=hm) fra hS0 rfl
  refine wpAny_mono (lawC L (σ:=σ.at_ m.x) hPl rfl rfl Wa sa E frc) (fun f s' q=>?_) fun _ _ q=>q
  obtain ⟨r,hy44_1⟩:=q
  have hx44_0:=hy44_1.1
  have z:=hy44_1.2
  clear hy44_1
  subst hx44_0
  have mv:Mv s sa W Wa:=mv₁.trans (mv₂.trans (mv₃.trans (mv₄.trans (mv₅.trans (mv₆.trans (mv₇.trans (mv₈.trans (mv₉.trans mva))))))))
  have same:∃ h tk,sa={ s with heap:=h,toks:=tk }:=by
    obtain ⟨_,_,e1⟩:=sm₁
    obtain ⟨_,_,e2⟩:=sm₂
    obtain ⟨_,_,e3⟩:=sm₃
    obtain ⟨_,_,e4⟩:=sm₄
    obtain ⟨_,_,e5⟩:=sm₅
    obtain ⟨_,_,e6⟩:=sm₆
    obtain ⟨_,_,e7⟩:=sm₇
    obtain ⟨_,_,e8⟩:=sm₈
    obtain ⟨_,_,e9⟩:=sm₉
    obtain ⟨h,t,ea⟩:=sma
    exact ⟨h,t,by rw [ea,e9,e8,e7,e6,e5,e4,e3,e2,e1]⟩
  have z':=z.after same mv
  exact ⟨.of_flat (z'.val.rel.mu0 rfl) rfl,z'.same,z'.tk,z'.size,z'.kept,z'.left⟩
end
noncomputable def tabs:List Addr:=[40,47,117]
noncomputable def frg (P:Params):Frag:=(hK P).filter fun x=>!(tabs.contains x.1)
theorem frg_lookup {P:Params} {a:Addr} {o:Obj} (h:(frg P).lookup a=some o):(hK P).lookup a=some o∧a ∉ tabs:=by
  unfold frg at h
  revert h
  generalize hK P=l
  intro h
  induction l with
  | nil=>cases h
  | cons x l ih =>
    by_cases q:tabs.contains x.1=true
    · rw [List.filter_cons_of_neg (by rw [q]; decide)] at h
      obtain ⟨h1,h2⟩:=ih h
      refine ⟨?_,h2⟩
      obtain ⟨b,o'⟩:=x
      rw [List.lookup_cons]
      by_cases e:a=b
      · subst e; exact absurd (by simpa using q) h2
      · rw [show (a == b)=false from beq_eq_false_iff_ne.mpr e]; exact h1
    · have q':tabs.contains x.1=false:=by simpa using q
      rw [List.filter_cons_of_pos (by rw [q']; rfl)] at h
      obtain ⟨b,o'⟩:=x
      rw [List.lookup_cons] at h ⊢
      by_cases e:a=b
      · subst e
        rw [show (a == a)=true from beq_self_eq_true a] at h ⊢
        exact ⟨h,fun z=>by
          have:tabs.contains a=true:=by simpa using z
          rw [q'] at this; cases this⟩
      · rw [show (a == b)=false from beq_eq_false_iff_ne.mpr e] at h ⊢
        exact ih h
theorem frg_in {P:Params} {h:Heap} (Y:(hK P).In h):(frg P).In (hideAll h tabs):=fun a o e=>hideAll_get _ (Y a o (frg_lookup e).1) (frg_lookup e).2
noncomputable def esG (P:Params):Array DictEntry:=match (o9 P).data with
  | .dict es _=>es
  | _=>#[]
noncomputable def mgS (P:Params):Str→Option Value:=nsFind (esG P)
noncomputable def glS (P:Params) (x:Str):Option Value:=match mgS P x with
  | some v=>some v
  | none=>if x="__name__" then none else bootBuiltins x
theorem at3 (P:Params):(frg P).lookup 3=some (o9 P):=by kernel_rfl
noncomputable def epG (P:Params):Nat:=match (o9 P).data with
  | .dict _ n=>n
  | _=>0
theorem es3 (P:Params):(o9 P).data=.dict (esG P) (epG P):=by kernel_rfl
theorem gl_facts (P:Params):glS P "len"=some (.builtin "len")∧glS P "max"=some (.builtin "max")∧glS P "min"=some (.builtin "min")∧glS P "sum"=some (.builtin "sum")∧glS P "range"=some (.type "range")∧glS P "enumerate"=some (.type "enumerate") ∧
    glS P "divmod"=some (.builtin "divmod")∧glS P "reversed"=some (.type "reversed")∧glS P "iter"=some (.builtin "iter"):=by
  refine ⟨?_,?_,?_,?_,?_,?_,?_,?_,?_⟩ <;> kernel_rfl
noncomputable def divT (P:Params):Tok:=match glS P "_DIV_LIMIT" with
  | some (.int _ t)=>t
  | _=>0
theorem gl_own (P:Params):glS P "_netrclex"=some (.ref 111)∧glS P "EXACT_TOKEN_TYPES"=some (.ref 15)∧mgS P "__builtins__"=some (.ref 4)∧glS P "ENDMARKER"=some (.int 0 189)∧glS P "_DIV_LIMIT"=some (.int 4000 (divT P)):=by
  refine ⟨?_,?_,?_,?_,?_⟩ <;> kernel_rfl
theorem at_own (P:Params):(frg P).lookup 15=some (o6 P)∧(frg P).lookup 44=some (o37 P)∧(frg P).lookup 51=some (o44 P)∧(frg P).lookup 121=some (o114 P)∧(frg P).lookup 111=some (o104 P)∧(frg P).lookup 110=some (o103 P)∧(frg P).lookup 2=some (boot_o_2 P):=by
  refine ⟨?_,?_,?_,?_,?_,?_,?_⟩ <;> kernel_rfl
theorem tab_own (P:Params):(hK P).lookup 40=some (tabObj #[])∧(hK P).lookup 47=some (tabObj #[])∧(hK P).lookup 117=some (tabObj #[]):=by
  refine ⟨?_,?_,?_⟩ <;> kernel_rfl
theorem make_own (P:Params):makesIn (frg P) 111=true:=by kernel_rfl
theorem init_own (prog:Program) (P:Params):peek (frg P) ⟨prog,P⟩ (typeLookup (.ref 111) "__init__")=some (some (.ref 87)):=by kernel_rfl
theorem bind_own (prog:Program) (P:Params) (self:Value):peek (frg P) ⟨prog,P⟩ (bindSpecial (.ref 87) self)=some (.ref 87,[self]):=by kernel_rfl
noncomputable def obG (P:Params) (a:Addr):Obj:=((frg P).lookup a).getD default
noncomputable def fdOf (o:Obj):FuncData:=match o.data with
  | .func fd=>fd
  | _=>default
noncomputable def fsOf (o:Obj):Array Value:=match o.data with
  | .fields vs=>vs
  | _=>#[]
noncomputable def tkOf:Option Value→Tok
  | some (.str _ t)=>t
  | _=>0
structure CodeF (P:Params) (q:Str) (c:Addr):Prop where
  h4:(frg P).lookup c=some (obG P c)
  h6:(obG P c).data=.fields (fsOf (obG P c))
  h7:(fsOf (obG P c))[(1:Nat)]?=some (.str q (tkOf (fsOf (obG P c))[(1:Nat)]?))
theorem CodeF.code {P:Params} {q:Str} {c:Addr} {h:Heap} (x:CodeF P q c) (hF:(frg P).In h):h.CodeRec (.ref c) q:=⟨c,_,_,_,rfl,hF _ _ x.h4,x.h6,x.h7⟩
structure FnF (P:Params) (name:Str) (i:Nat) (a c:Addr):Prop where
  h1:glS P name=some (.ref a)
  h2:(frg P).lookup a=some (obG P a)
  h3:(obG P a).data=.func (Calls.docDef name (fArgs i) (fBody i) (fScope i) (fdOf (obG P a)).pyModule (.ref c) (fdOf (obG P a)).doc)
  cd:CodeF P name c
noncomputable def FnF.at_ {P:Params} {name:Str} {i:Nat} {a c:Addr} (x:FnF P name i a c) {D:Wd} (hg:D.gl=glS P) (hF:(frg P).In D.h0):FnAt D name i :=
  ⟨a,_,_,_,_,by rw [hg]; exact x.h1,hF _ _ x.h2,x.h3,x.cd.code hF⟩
noncomputable def mnS (P:Params):Str→Option Value:=nsFind (match (o103 P).data with
  | .dict es _=>es
  | _=>#[])
structure MFnF (P:Params) (name:Str) (j:Nat) (a c:Addr):Prop where
  h1:mnS P name=some (.ref a)
  h2:(frg P).lookup a=some (obG P a)
  h5:(obG P a).cls=.type "function"
  h3:(obG P a).data=.func (methDef name ("_netrclex."++name) (mPart j).2.2 (mPart j).1 (mPart j).2.1 (fdOf (obG P a)).pyModule (.ref c) (fdOf (obG P a)).doc)
  cd:CodeF P ("_netrclex."++name) c
noncomputable def MFnF.at_ {P:Params} {name:Str} {j:Nat} {a c:Addr} (x:MFnF P name j a c) {D:Wd} {cl:Cls D} (hm:cl.mN=mnS P) (hF:(frg P).In D.h0):MFn cl name j :=
  ⟨a,_,_,_,_,by rw [hm]; exact x.h1,hF _ _ x.h2,x.h5,x.h3,x.cd.code hF⟩
theorem f51 (P:Params):FnF P "ISEOF" 51 24 23:=⟨by kernel_rfl,by kernel_rfl,by kernel_rfl,⟨by kernel_rfl,by kernel_rfl,by kernel_rfl⟩⟩
theorem f54 (P:Params):FnF P "_div2n1n" 54 31 30:=⟨by kernel_rfl,by kernel_rfl,by kernel_rfl,⟨by kernel_rfl,by kernel_rfl,by kernel_rfl⟩⟩
theorem f56 (P:Params):FnF P "_int2digits" 56 45 44:=⟨by kernel_rfl,by kernel_rfl,by kernel_rfl,⟨by kernel_rfl,by kernel_rfl,by kernel_rfl⟩⟩
theorem f57 (P:Params):FnF P "_digits2int" 57 52 51:=⟨by kernel_rfl,by kernel_rfl,by kernel_rfl,⟨by kernel_rfl,by kernel_rfl,by kernel_rfl⟩⟩
theorem f58 (P:Params):FnF P "_divmod_pos" 58 59 58:=⟨by kernel_rfl,by kernel_rfl,by kernel_rfl,⟨by kernel_rfl,by kernel_rfl,by kernel_rfl⟩⟩
theorem f59 (P:Params):FnF P "int_divmod" 59 66 65:=⟨by kernel_rfl,by kernel_rfl,by kernel_rfl,⟨by kernel_rfl,by kernel_rfl,by kernel_rfl⟩⟩
theorem f61 (P:Params):FnF P "rgb_to_hls" 61 73 72:=⟨by kernel_rfl,by kernel_rfl,by kernel_rfl,⟨by kernel_rfl,by kernel_rfl,by kernel_rfl⟩⟩
theorem f65 (P:Params):FnF P "_law_machine" 65 122 121:=⟨by kernel_rfl,by kernel_rfl,by kernel_rfl,⟨by kernel_rfl,by kernel_rfl,by kernel_rfl⟩⟩
theorem f66 (P:Params):FnF P "_law_numbers" 66 129 128:=⟨by kernel_rfl,by kernel_rfl,by kernel_rfl,⟨by kernel_rfl,by kernel_rfl,by kernel_rfl⟩⟩
theorem f67 (P:Params):FnF P "_law_works" 67 134 133:=⟨by kernel_rfl,by kernel_rfl,by kernel_rfl,⟨by kernel_rfl,by kernel_rfl,by kernel_rfl⟩⟩
theorem f68 (P:Params):FnF P "_law_text" 68 139 138:=⟨by kernel_rfl,by kernel_rfl,by kernel_rfl,⟨by kernel_rfl,by kernel_rfl,by kernel_rfl⟩⟩
theorem f69 (P:Params):FnF P "_law_plan" 69 144 143:=⟨by kernel_rfl,by kernel_rfl,by kernel_rfl,⟨by kernel_rfl,by kernel_rfl,by kernel_rfl⟩⟩
theorem f70 (P:Params):FnF P "_law_all_sets" 70 149 148:=⟨by kernel_rfl,by kernel_rfl,by kernel_rfl,⟨by kernel_rfl,by kernel_rfl,by kernel_rfl⟩⟩
theorem f71 (P:Params):FnF P "_law_holds" 71 154 153:=⟨by kernel_rfl,by kernel_rfl,by kernel_rfl,⟨by kernel_rfl,by kernel_rfl,by kernel_rfl⟩⟩
theorem m0 (P:Params):MFnF P "__init__" 0 87 86:=⟨by kernel_rfl,by kernel_rfl,by kernel_rfl,by kernel_rfl,⟨by kernel_rfl,by kernel_rfl,by kernel_rfl⟩⟩
theorem m1 (P:Params):MFnF P "_read_char" 1 94 93:=⟨by kernel_rfl,by kernel_rfl,by kernel_rfl,by kernel_rfl,⟨by kernel_rfl,by kernel_rfl,by kernel_rfl⟩⟩
theorem m2 (P:Params):MFnF P "get_token" 2 101 100:=⟨by kernel_rfl,by kernel_rfl,by kernel_rfl,by kernel_rfl,⟨by kernel_rfl,by kernel_rfl,by kernel_rfl⟩⟩
theorem m3 (P:Params):MFnF P "push_token" 3 108 107:=⟨by kernel_rfl,by kernel_rfl,by kernel_rfl,by kernel_rfl,⟨by kernel_rfl,by kernel_rfl,by kernel_rfl⟩⟩
theorem mn_none (P:Params):mnS P "__getattribute__"=none∧mnS P "__setattr__"=none∧mnS P "__getattr__"=none∧mnS P "lineno"=none∧mnS P "instream"=none∧mnS P "whitespace"=none∧mnS P "pushback"=none:=by
  refine ⟨?_,?_,?_,?_,?_,?_,?_⟩ <;> kernel_rfl
noncomputable def strKeysB (es:Array DictEntry):Bool:=es.toList.all fun e=>match e.key with
  | .str _ _=>true
  | _=>false
theorem strKeys_of {es:Array DictEntry} (h:strKeysB es=true):StrKeys es:=fun e he=>by
  have:=List.all_eq_true.mp h e (Array.mem_toList_iff.mpr he)
  cases q:e.key <;> rw [q] at this <;> first | exact ⟨_,_,rfl⟩ | cases this
noncomputable def esN (P:Params):Array DictEntry:=match (o103 P).data with
  | .dict es _=>es
  | _=>#[]
noncomputable def epN (P:Params):Nat:=match (o103 P).data with
  | .dict _ n=>n
  | _=>0
noncomputable def esT (P:Params):Array DictEntry:=match (o6 P).data with
  | .dict es _=>es
  | _=>#[]
noncomputable def epT (P:Params):Nat:=match (o6 P).data with
  | .dict _ n=>n
  | _=>0
theorem keysN (P:Params):(o103 P).data=.dict (esN P) (epN P)∧strKeysB (esN P)=true:=⟨by kernel_rfl,by kernel_rfl⟩
noncomputable def reE (P:Params) (e:DictEntry):DictEntry:=match e.key with
  | .str x t=>⟨PyData.keyHash P x,.str x t,e.val⟩
  | _=>e
theorem keysT (P:Params):(o6 P).data=.dict (esT P) (epT P)∧strKeysB (esT P)=true∧(esT P).toList.map (reE P)=(esT P).toList∧(o6 P).cls=.type "dict"∧(o6 P).dict=none∧(o6 P).slots=#[]:=⟨by kernel_rfl,by kernel_rfl,by kernel_rfl,by kernel_rfl,by kernel_rfl,by kernel_rfl⟩
noncomputable def tkI:Option Value→Tok
  | some (.int _ t)=>t
  | _=>0
noncomputable def tokG (P:Params) (x:Str):Option Value:=findBy Value.isStrOf (esT P) x
theorem tokens (P:Params):menu.map (fun x=>tokG P x)=menu.map (fun x=>some (.int (tokN x) (tkI (tokG P x)))):=by kernel_rfl
theorem keys_of (prog:Program) (w:World):KeysOf (PySem.strKind prog w) (esT w.params):=fun e he=>by
  obtain ⟨_,h1,h2,_⟩:=keysT w.params
  have hm:=Array.mem_toList_iff.mpr he
  obtain ⟨x,t,hk⟩:=strKeys_of h1 e he
  refine ⟨x,by rw [hk]; show Value.isStrOf x (.str x t)=true; simp [Value.isStrOf],?_⟩
  rw [← h2] at hm
  obtain ⟨e',he',ee⟩:=List.mem_map.mp hm
  obtain ⟨x',t',hk'⟩:=strKeys_of h1 e' (Array.mem_toList_iff.mp he')
  have e1:e=⟨PyData.keyHash w.params x',.str x' t',e'.val⟩:=by
    rw [← ee]; unfold reE; rw [hk']
  rw [e1] at hk ⊢
  cases hk
  rfl
theorem noBooked (P:Params):∃ es ep,(boot_o_2 P).data=.dict es ep∧strKeysB es=true∧nsFind es sharingNotToldKey=none:=⟨_,_,rfl,rfl,rfl⟩
section
set_option tactic.hygienic true
structure Top0 (w:World) (h:Heap):Prop where
  Y:(hK w.params).In h
  g:∃ mg,h.Ns mainGlobals mg
  b:∃ mb,h.Ns builtinsNs mb∧∀ x:Str,x≠"__name__"→mb x=bootBuiltins x
  lim:h.NoLimit
  bm:∃ mg bm ob,h.Ns mainGlobals mg∧mg "__builtins__"=some (.ref bm)∧bm≠builtinsNs∧h.get? bm=some ob∧ob.cls=.type "module"∧ob.dict=some builtinsNs∧ob.data=.plain
theorem out {a:Addr} (h:tabs.contains a=false:=by decide):a ∉ tabs:=fun q=>by
  have:tabs.contains a=true:=by simpa using q
  rw [h] at this; cases this
theorem nsHide {h:Heap} {a:Addr} {m:Str→Option Value} (x:h.Ns a m) (ha:a ∉ tabs):(hideAll h tabs).Ns a m:=let ⟨o,es,ep,e,r⟩:=x; ⟨o,es,ep,hideAll_get _ e ha,r⟩
section
variable {w:World} {h:Heap} (T:Top0 w h)
include T
theorem Top0.F:(frg w.params).In (hideAll h tabs):=frg_in T.Y
theorem Top0.same {mg:Str→Option Value} (hn:h.Ns mainGlobals mg):StrKeys (esG w.params)∧∀ x,mgS w.params x=mg x:=by
  obtain ⟨o,es,ep,hy22_1⟩:=hn
  have e:=hy22_1.1
  have d:=hy22_1.2.1
  have sk:=hy22_1.2.2.1
  have f:=hy22_1.2.2.2
  clear hy22_1
  have e3:h.get? 3=some (o9 w.params):=T.Y _ _ (frg_lookup (at3 w.params)).1
  have:o=o9 w.params:=Option.some.inj (e.symm.trans e3)
  subst this
  rw [es3] at d
  cases d
  exact ⟨sk,f⟩
theorem Top0.ns:(hideAll h tabs).Ns mainGlobals (mgS w.params):=by
  obtain ⟨mg,hn⟩:=T.g
  exact ⟨_,esG w.params,epG w.params,T.F _ _ (at3 w.params),es3 _,(T.same hn).1,fun _=>rfl⟩
noncomputable def Top0.D:Wd where
  prog:=PySem.Challenge.pw_to0060_01
  w:=w
  gl:=glS w.params
  h0:=hideAll h tabs
  glob:=fun A env s e1 e2 hx x v hv Q E q=>by
    obtain ⟨mb,hy38_1⟩:=T.b
    have hb:=hy38_1.1
    have hm:=hy38_1.2
    clear hy38_1
    have hb':s.heap.Ns builtinsNs mb:=(nsHide hb (out (a:=0))).keeps hx
    have hg:=T.ns.keeps hx
    have hv':(match mgS w.params x with
      | some v=>some v
      | none=>if x="__name__" then none else bootBuiltins x)=some v:=hv
    cases hm1:mgS w.params x with
    | some v' =>
      rw [hm1] at hv'
      cases hv'
      exact Calls.loadGlobal_global (by rw [e1]; exact hg) hm1 q
    | none =>
      rw [hm1] at hv'
      simp only at hv'
      split at hv'
      · cases hv'
      · rename_i hne
        exact Calls.loadGlobal_builtin (by rw [e1]; exact hg) hm1 (by rw [e2]; exact hb') ((hm x hne).trans hv') q
  lim:=let ⟨mc,hn,q⟩:=T.lim; ⟨mc,nsHide hn (out (a:=2)),q⟩
theorem Top0.tab {P:Addr} (hP:(hK w.params).lookup P=some (tabObj #[])) (qs:List (Pos × Str)):TabOk h P qs:=⟨#[],T.Y _ _ hP,trivial,fun q _=>.inl rfl⟩
noncomputable def Top0.X:Gw T.D where
  Γ:=Unit
  G:=fun _ h'=>TabOk h' 40 qs56∧TabOk h' 47 qs57∧TabOk h' 117 qs65
  l:=tabs
  Gok:=fun _ h' h'' x k=>⟨x.1.move (by decide) fun b o hb e=>k b o (hb.imp (fun q=>by rw [q]; exact .head _) id) e,x.2.1.move (by decide) fun b o hb e=>k b o (hb.imp (fun q=>by rw [q]; exact .tail _ (.head _)) id) e,x.2.2.move (by decide) fun b o hb e=>k b o (hb.imp (fun q=>by rw [q]; exact .tail _ (.tail _ (.head _))) id) e⟩
  live:=fun _ h' x b hb=>by
    simp only [tabs,List.mem_cons,List.not_mem_nil,or_false] at hb
    rcases hb with rfl | rfl | rfl
    · exact let ⟨ps,e,_⟩:=x.1; ⟨_,e⟩
    · exact let ⟨ps,e,_⟩:=x.2.1; ⟨_,e⟩
    · exact let ⟨ps,e,_⟩:=x.2.2; ⟨_,e⟩
  hid:=fun b o e hb=>by
    have:(hideAll h tabs).get? b=none:=hideAll_none _ hb
    have e':(hideAll h tabs).get? b=some o:=e
    rw [this] at e'; cases e'
theorem Top0.gX:T.X.G () h:=⟨T.tab (tab_own w.params).1 _,T.tab (tab_own w.params).2.1 _,T.tab (tab_own w.params).2.2 _⟩
omit T in
theorem tab_not {h':Heap} {P:Addr} {qs:List (Pos × Str)} (x:TabOk h' P qs):∃ o,h'.get? P=some o∧¬ codish o∧¬ seqish o:=by
  obtain ⟨ps,hy77_1⟩:=x
  have e:=hy77_1.1
  have t:=hy77_1.2.1
  clear hy77_1
  have hc:¬ codish (tabObj ps):=by
    rintro ⟨fs,q,u,e1,e2,_⟩
    cases e1
    exact triples_first t e2
  refine ⟨_,e,hc,?_⟩
  rintro (⟨_,_,e⟩ | ⟨_,_,e⟩ | q | ⟨_,e⟩)
  · cases e
  · cases e
  · exact hc q
  · cases e
theorem Top0.notX:∀ g h',T.X.G g h'→∀ b∈T.X.l,∃ o,h'.get? b=some o∧¬ codish o∧¬ seqish o:=fun _ h' x b hb=>by
  have hb':b∈tabs:=hb
  simp only [tabs,List.mem_cons,List.not_mem_nil,or_false] at hb'
  rcases hb' with rfl | rfl | rfl
  · exact tab_not x.1
  · exact tab_not x.2.1
  · exact tab_not x.2.2
theorem Top0.T56:HasTab T.X 44 40 qs56 where
  C:=⟨o37 w.params,_,_,_,_,_,_,_,_,T.F _ _ (at_own w.params).2.1,rfl,rfl,rfl,rfl,rfl,rfl,rfl,rfl,by decide⟩
  mem:=.head _
  tab:=fun _ h' x=>x.1
  back:=fun _ h' h'' x y _ k=>⟨y,x.2.1.move (by decide) fun b o hb e=>k b o (hb.imp (fun q=>by rw [q]; exact ⟨.tail _ (.head _),by decide⟩) id) e,x.2.2.move (by decide) fun b o hb e=>k b o (hb.imp (fun q=>by rw [q]; exact ⟨.tail _ (.tail _ (.head _)),by decide⟩) id) e⟩
  live:=fun g h' x b hb=>let ⟨o,e,n,_⟩:=T.notX g h' x b hb; ⟨o,e,n⟩
  qs:=by decide
theorem Top0.T57:HasTab T.X 51 47 qs57 where
  C:=⟨o44 w.params,_,_,_,_,_,_,_,_,T.F _ _ (at_own w.params).2.2.1,rfl,rfl,rfl,rfl,rfl,rfl,rfl,rfl,by decide⟩
  mem:=.tail _ (.head _)
  tab:=fun _ h' x=>x.2.1
  back:=fun _ h' h'' x y _ k=>⟨x.1.move (by decide) fun b o hb e=>k b o (hb.imp (fun q=>by rw [q]; exact ⟨.head _,by decide⟩) id) e,y,x.2.2.move (by decide) fun b o hb e=>k b o (hb.imp (fun q=>by rw [q]; exact ⟨.tail _ (.tail _ (.head _)),by decide⟩) id) e⟩
  live:=fun g h' x b hb=>let ⟨o,e,n,_⟩:=T.notX g h' x b hb; ⟨o,e,n⟩
  qs:=by decide
theorem Top0.T65:HasTab T.X 121 117 qs65 where
  C:=⟨o114 w.params,_,_,_,_,_,_,_,_,T.F _ _ (at_own w.params).2.2.2.1,rfl,rfl,rfl,rfl,rfl,rfl,rfl,rfl,by decide⟩
  mem:=.tail _ (.tail _ (.head _))
  tab:=fun _ h' x=>x.2.2
  back:=fun _ h' h'' x y _ k=>⟨x.1.move (by decide) fun b o hb e=>k b o (hb.imp (fun q=>by rw [q]; exact ⟨.head _,by decide⟩) id) e,x.2.1.move (by decide) fun b o hb e=>k b o (hb.imp (fun q=>by rw [q]; exact ⟨.tail _ (.head _),by decide⟩) id) e,y⟩
  live:=fun g h' x b hb=>let ⟨o,e,n,_⟩:=T.notX g h' x b hb; ⟨o,e,n⟩
  qs:=by decide
end
end
section
set_option tactic.hygienic true
theorem minP_le:∀ (ps:List (Nat × Nat)) (b:Nat × Nat),(minP b ps).1≤b.1∧∀ p∈ps,(minP b ps).1≤p.1
  | [],b=>⟨Nat.le_refl _,fun _ h=>(nomatch h)⟩
  | v :: r,b=>by
    unfold minP
    by_cases q:ltP v b=true
    · rw [if_pos q]
      have hz13:=minP_le r v
      have h1:=hz13.1
      have h2:=hz13.2
      clear hz13
      have hv:v.1≤b.1:=by
        unfold ltP at q
        split at q
        · rename_i e; omega
        · have:=of_decide_eq_true q; omega
      refine ⟨by omega,fun p hp=>?_⟩
      rcases List.mem_cons.mp hp with rfl | hp
      · exact h1
      · exact h2 p hp
    · rw [if_neg q]
      have hz24:=minP_le r b
      have h1:=hz24.1
      have h2:=hz24.2
      clear hz24
      have hv:b.1≤v.1:=by
        unfold ltP at q
        split at q
        · rename_i e; omega
        · have:¬ v.1 < b.1:=fun z=>q (decide_eq_true z)
          omega
      refine ⟨h1,fun p hp=>?_⟩
      rcases List.mem_cons.mp hp with rfl | hp
      · omega
      · exact h2 p hp
theorem minPL_le {ps:List (Nat × Nat)}:∀ p∈ps,(minPL ps).1≤p.1:=by
  cases ps with
  | nil=>intro p h; cases h
  | cons b r =>
    intro p hp
    show (minP b r).1≤_
    rcases List.mem_cons.mp hp with rfl | hp
    · exact (minP_le r p).1
    · exact (minP_le r b).2 p hp
theorem minN_fact:∀ (r:List Nat) (b:Nat),(minN b r≤b∧∀ v∈r,minN b r≤v)∧(minN b r=b∨minN b r∈r)
  | [],b=>⟨⟨Nat.le_refl _,fun _ h=>(nomatch h)⟩,.inl rfl⟩
  | v :: r,b=>by
    unfold minN
    have hz48:=minN_fact r (if v < b then v else b)
    have hx48_0:=hz48.1
    have h3:=hz48.2
    clear hz48
    obtain ⟨h1,h2⟩:=hx48_0
    have e1:(if v < b then v else b)≤b:=by split <;> omega
    have e2:(if v < b then v else b)≤v:=by split <;> omega
    refine ⟨⟨by omega,fun p hp=>?_⟩,?_⟩
    · rcases List.mem_cons.mp hp with rfl | hp
      · omega
      · exact h2 p hp
    · rcases h3 with h3 | h3
      · rw [h3]; split
        · exact .inr List.mem_cons_self
        · exact .inl rfl
      · exact .inr (.tail _ h3)
theorem maxN_fact:∀ (r:List Nat) (b:Nat),(b≤maxN b r∧∀ v∈r,v≤maxN b r)∧(maxN b r=b∨maxN b r∈r)
  | [],b=>⟨⟨Nat.le_refl _,fun _ h=>(nomatch h)⟩,.inl rfl⟩
  | v :: r,b=>by
    unfold maxN
    have hz64:=maxN_fact r (if v > b then v else b)
    have hx64_0:=hz64.1
    have h3:=hz64.2
    clear hz64
    obtain ⟨h1,h2⟩:=hx64_0
    have e1:b≤(if v > b then v else b):=by split <;> omega
    have e2:v≤(if v > b then v else b):=by split <;> omega
    refine ⟨⟨by omega,fun p hp=>?_⟩,?_⟩
    · rcases List.mem_cons.mp hp with rfl | hp
      · omega
      · exact h2 p hp
    · rcases h3 with h3 | h3
      · rw [h3]; split
        · exact .inr List.mem_cons_self
        · exact .inl rfl
      · exact .inr (.tail _ h3)
theorem minL_le {l:List Nat}:∀ v∈l,minL l≤v:=by
  cases l with
  | nil=>intro v h; cases h
  | cons b r =>
    intro v hv
    rcases List.mem_cons.mp hv with rfl | hv
    · exact (minN_fact r v).1.1
    · exact (minN_fact r b).1.2 v hv
theorem minL_mem {l:List Nat} (h:l≠[]):minL l∈l:=by
  cases l with
  | nil=>exact absurd rfl h
  | cons b r =>
    rcases (minN_fact r b).2 with q | q
    · show minN b r∈_; rw [q]; exact List.mem_cons_self
    · exact .tail _ q
theorem maxL_le {l:List Nat}:∀ v∈l,v≤maxL l:=by
  cases l with
  | nil=>intro v h; cases h
  | cons b r =>
    intro v hv
    rcases List.mem_cons.mp hv with rfl | hv
    · exact (maxN_fact r v).1.1
    · exact (maxN_fact r b).1.2 v hv
theorem maxL_mem {l:List Nat} (h:l≠[]):maxL l∈l:=by
  cases l with
  | nil=>exact absurd rfl h
  | cons b r =>
    rcases (maxN_fact r b).2 with q | q
    · show maxN b r∈_; rw [q]; exact List.mem_cons_self
    · exact .tail _ q
theorem cost_mono (cp:List (Nat × Nat)) (k:Nat) {h h':Nat} (hh:h≤h'):costOf cp k h≤costOf cp k h':=by
  unfold costOf
  generalize (cp.getD k (0,0)).1=a
  generalize (cp.getD k (0,0)).2=b
  have hz110:=maxN_fact [b,h'] a
  have hx110_0:=hz110.1
  clear hz110
  obtain ⟨u1,u2⟩:=hx110_0
  have hz111:=maxN_fact [b,h] a
  have u3:=hz111.2
  clear hz111
  have hz112:=minN_fact [b,h] a
  have hx112_0:=hz112.1
  clear hz112
  obtain ⟨l1,l2⟩:=hx112_0
  have hz113:=minN_fact [b,h'] a
  have l3:=hz113.2
  clear hz113
  have m1:∀ {v:Nat},v=b∨v=h→v∈[b,h]:=fun q=>by simpa using q
  have m2:∀ {v:Nat},v=b∨v=h'→v∈[b,h']:=fun q=>by simpa using q
  have hb:=u2 b (m2 (.inl rfl))
  have hh':=u2 h' (m2 (.inr rfl))
  have lb:=l2 b (m1 (.inl rfl))
  have lh:=l2 h (m1 (.inr rfl))
  refine Nat.add_le_add ?_ ?_
  · rcases u3 with q | q
    · rw [q]; exact u1
    · rcases List.mem_cons.mp q with q | q
      · rw [q]; exact hb
      · rw [List.mem_singleton.mp q]; exact Nat.le_trans hh hh'
  · rcases l3 with q | q
    · rw [q]; exact l1
    · rcases List.mem_cons.mp q with q | q
      · rw [q]; exact lb
      · rw [List.mem_singleton.mp q]; exact Nat.le_trans lh hh
noncomputable def gB (m:Nat→Bool):Nat:=((List.range 5).map fun k=>if m k then 2 ^ k else 0).sum
theorem r5:List.range 5=[0,1,2,3,4]:=rfl
theorem all5 {p:Nat→Prop}:(∀ j,j < 5→p j) ↔ p 0∧p 1∧p 2∧p 3∧p 4 :=
  ⟨fun h=>⟨h 0 (by decide),h 1 (by decide),h 2 (by decide),h 3 (by decide),h 4 (by decide)⟩,fun ⟨h0,h1,h2,h3,h4⟩ j hj=>match j,hj with
    | 0,_=>h0
    | 1,_=>h1
    | 2,_=>h2
    | 3,_=>h3
    | 4,_=>h4⟩
noncomputable def gb5 (a b c d e:Bool):Nat:=(if a then 1 else 0)+((if b then 2 else 0)+((if c then 4 else 0)+((if d then 8 else 0)+((if e then 16 else 0)+0))))
theorem gB_eq (m:Nat→Bool):gB m=gb5 (m 0) (m 1) (m 2) (m 3) (m 4):=by
  unfold gB
  rw [r5]
  simp only [List.map_cons,List.map_nil,List.sum_cons,List.sum_nil]
  rfl
theorem gB_lt (m:Nat→Bool):gB m < 32:=by
  rw [gB_eq]
  generalize m 0=a,m 1=b,m 2=c,m 3=d,m 4=e
  revert a b c d e; decide
theorem gB_inside (m:Nat→Bool):insideL (gB m)=(List.range 5).filter m:=by
  rw [gB_eq,r5]
  simp only [List.filter_cons,List.filter_nil]
  generalize m 0=a,m 1=b,m 2=c,m 3=d,m 4=e
  revert a b c d e; decide +kernel
theorem gB_later (m:Nat→Bool):(((List.range 5).filter m).map (2 ^ ·)).sum=gB m:=by
  rw [gB_eq,r5]
  simp only [List.filter_cons,List.filter_nil]
  generalize m 0=a,m 1=b,m 2=c,m 3=d,m 4=e
  revert a b c d e; decide +kernel
theorem gB_and (f m:Nat→Bool):Builtin.bitAnd (gB f:Nat) (gB m:Nat)=0 ↔ ∀ j,j < 5→(f j && m j)=false:=by
  rw [all5,gB_eq,gB_eq]
  generalize m 0=a,m 1=b,m 2=c,m 3=d,m 4=e
  generalize f 0=a',f 1=b',f 2=c',f 3=d',f 4=e'
  revert a b c d e a' b' c' d' e'; decide +kernel
theorem gb5_parts:∀ a b c d e a' b' c' d' e':Bool,((!a' || a) && (!b' || b) && (!c' || c) && (!d' || d) && (!e' || e) && Nat.ble 1 (gb5 a' b' c' d' e'))=true→(parts (gb5 a b c d e)).contains (gb5 a' b' c' d' e')=true:=by decide +kernel
theorem gB_parts (f m:Nat→Bool) (h:∀ j,j < 5→f j=true→m j=true) (h1:1≤gB f):gB f∈parts (gB m):=by
  have hb:∀ j,j < 5→(!(f j) || m j)=true:=fun j hj=>by
    have:=h j hj
    cases q:f j with
    | false=>rfl
    | true=>rw [this q]; rfl
  rw [gB_eq] at h1
  rw [gB_eq,gB_eq]
  have:=gb5_parts (m 0) (m 1) (m 2) (m 3) (m 4) (f 0) (f 1) (f 2) (f 3) (f 4) (by
    rw [hb 0 (by decide),hb 1 (by decide),hb 2 (by decide),hb 3 (by decide),hb 4 (by decide),Nat.ble_eq_true_of_le h1]; rfl)
  simpa using this
theorem gB_erase (m:Nat→Bool) {x:Nat} (hx:x < 5) (h:m x=true):gB (fun k=>m k && k != x)=gB m - 2 ^ x:=by
  rw [gB_eq,gB_eq]
  match x,hx with
  | 0,_ | 1,_ | 2,_ | 3,_ | 4,_ =>
    revert h
    generalize m 0=a,m 1=b,m 2=c,m 3=d,m 4=e
    revert a b c d e; decide +kernel
theorem gB_pos (m:Nat→Bool) {x:Nat} (hx:x < 5) (h:m x=true):1≤gB m:=by
  rw [gB_eq]
  match x,hx with
  | 0,_ | 1,_ | 2,_ | 3,_ | 4,_ =>
    revert h
    generalize m 0=a,m 1=b,m 2=c,m 3=d,m 4=e
    revert a b c d e; decide +kernel
theorem inside_lt:∀ g,g < 32→(∀ k∈insideL g,k < 5∧g - 2 ^ k < g)∧gB (fun k=>decide (k∈insideL g))=g:=by decide +kernel
theorem inside_ne:∀ g,g < 32→1≤g→0 < (insideL g).length:=by decide +kernel
theorem parts_fact:∀ g,g < 32→∀ p∈parts g,1≤p∧p < 32∧(insideL p).isSublist (insideL g)=true∧∀ k∈insideL g,k∈insideL p∨p∈parts (g - 2 ^ k):=by decide +kernel
theorem parts_and:∀ g,g < 32→∀ p∈parts g,∀ l,l < 32→Builtin.bitAnd (l:Nat) (g:Nat)=0→Builtin.bitAnd (l:Nat) (p:Nat)=0:=by decide +kernel
end
section
variable {ws:List Str} {hs:List Nat} {cp:List (Nat × Nat)}
theorem groupOf_eq (rem:List Nat):groupOf rem=gB (fun k=>decide (k∈rem)):=by
  unfold groupOf gB
  simp only [decide_eq_true_eq]
theorem in_group {rem:List Nat} (hr:∀ j∈rem,j < 5) {j:Nat}:j∈insideL (groupOf rem) ↔ j∈rem:=by
  rw [groupOf_eq,gB_inside,List.mem_filter,List.mem_range,decide_eq_true_eq]
  exact ⟨fun h=>h.2,fun h=>⟨hr j h,h⟩⟩
theorem group_inside {g:Nat} (hg:g < 32):groupOf (insideL g)=g:=by
  rw [groupOf_eq]; exact (inside_lt g hg).2
theorem group_lt (rem:List Nat):groupOf rem < 32:=by rw [groupOf_eq]; exact gB_lt _
theorem group_pos {rem:List Nat} (hr:∀ j∈rem,j < 5) (hne:0 < rem.length):1≤groupOf rem:=by
  match rem,hne with
  | a :: l,_ =>
    rw [groupOf_eq]
    exact gB_pos _ (hr a List.mem_cons_self) (decide_eq_true List.mem_cons_self)
theorem erase_mem {rem:List Nat} (hn:rem.Nodup) {p:Nat} (hp:p < rem.length) (j:Nat):j∈rem.eraseIdx p ↔ j∈rem∧j≠rem.getD p 0:=by
  have e:rem.getD p 0=rem[p]:=by rw [List.getD_eq_getElem?_getD,List.getElem?_eq_getElem hp]; rfl
  rw [e]
  have hsp:rem=rem.take p++rem[p] :: rem.drop (p+1):=by rw [← List.drop_eq_getElem_cons hp,List.take_append_drop]
  rw [List.eraseIdx_eq_take_drop_succ]
  have hn':=hn
  rw [hsp] at hn'
  have hz29:=List.nodup_append.mp hn'
  have n2:=hz29.2.1
  have n3:=hz29.2.2
  clear hz29
  have n4:=(List.nodup_cons.mp n2).1
  constructor
  · intro h
    rcases List.mem_append.mp h with q | q
    · exact ⟨List.mem_of_mem_take q,n3 _ q _ List.mem_cons_self⟩
    · exact ⟨List.mem_of_mem_drop q,fun z=>n4 (z ▸ q)⟩
  · rintro ⟨h,hne⟩
    rw [hsp] at h
    rcases List.mem_append.mp h with q | q
    · exact List.mem_append_left _ q
    · rcases List.mem_cons.mp q with q | q
      · exact absurd q hne
      · exact List.mem_append_right _ q
theorem group_erase {rem:List Nat} (hn:rem.Nodup) (hr:∀ j∈rem,j < 5) {p:Nat} (hp:p < rem.length):groupOf (rem.eraseIdx p)=groupOf rem - 2 ^ rem.getD p 0:=by
  have hx:rem.getD p 0∈rem:=by rw [List.getD_eq_getElem?_getD,List.getElem?_eq_getElem hp]; exact List.getElem_mem hp
  rw [groupOf_eq,groupOf_eq,← gB_erase _ (hr _ hx) (decide_eq_true hx)]
  congr 1
  funext k
  by_cases q:k∈rem.eraseIdx p
  · have hz49:=(erase_mem hn hp k).mp q
    have q1:=hz49.1
    have q2:=hz49.2
    clear hz49
    rw [decide_eq_true q,decide_eq_true q1,bne_iff_ne.mpr q2]; rfl
  · rw [decide_eq_false q]
    by_cases q1:k∈rem
    · have:k=rem.getD p 0:=Classical.byContradiction fun z=>q ((erase_mem hn hp k).mpr ⟨q1,z⟩)
      rw [decide_eq_true q1,this]; simp
    · rw [decide_eq_false q1]; rfl
theorem hour_left {rem:List Nat} (hn:rem.Nodup) (hr:∀ j∈rem,j < 5):hourOf hs (groupOf rem)=leftOf hs rem:=by
  unfold hourOf leftOf
  have hp:(insideL (groupOf rem)).Perm rem:=by
    refine (List.perm_ext_iff_of_nodup ?_ hn).mpr fun j=>in_group hr
    rw [groupOf_eq,gB_inside]
    exact List.nodup_range.filter _
  exact (hp.map _).sum_nat
variable (ok:WsOk ws hs cp)
include ok
theorem later_at {j:Nat} (hj:j < 5):(laterL ws).getD j 0=laterOf ws (ws.getD j ""):=by
  have h:j < ws.length:=by rw [ok.lw]; exact hj
  unfold laterL
  rw [List.getD_eq_getElem?_getD,List.getElem?_map,List.getElem?_eq_getElem h,List.getD_eq_getElem?_getD (l:=ws),List.getElem?_eq_getElem h]; rfl
theorem free_iff {rem:List Nat} (hr:∀ j∈rem,j < 5) {j:Nat} (hj:j∈rem):freeAt ws rem (ws.getD j "")=true ↔ j∈mayL ws (groupOf rem):=by
  unfold mayL
  rw [List.mem_filter,in_group hr,later_at ok (hr j hj)]
  have e:laterOf ws (ws.getD j "")=gB (fun k=>(ws.getD k "" != ws.getD j "") && Txt.startswith (ws.getD k "") (ws.getD j "")):=gB_later _
  have h2:=gB_and (fun k=>(ws.getD k "" != ws.getD j "") && Txt.startswith (ws.getD k "") (ws.getD j "")) (fun k=>decide (k∈rem))
  rw [← e,← groupOf_eq] at h2
  rw [beq_iff_eq,h2]
  unfold freeAt
  rw [List.isEmpty_iff,List.filter_eq_nil_iff]
  constructor
  · intro h
    refine ⟨hj,fun k hk=>?_⟩
    by_cases q:k∈rem
    · have:=h (ws.getD k "") (List.mem_map.mpr ⟨k,q,rfl⟩)
      rw [Bool.eq_false_iff.mpr this]; rfl
    · rw [decide_eq_false q,Bool.and_false]
  · rintro ⟨_,h⟩ y hy q
    obtain ⟨k,hy86_1⟩:=List.mem_map.mp hy
    have hk:=hy86_1.1
    have hx86_0:=hy86_1.2
    clear hy86_1
    subst hx86_0
    have:=h k (hr k hk)
    rw [q,decide_eq_true hk] at this
    cases this
theorem choice_free {rem:List Nat} (hn:rem.Nodup) (hr:∀ j∈rem,j < 5) (hne:0 < rem.length) :
    (choice ws hs cp rem).2 < rem.length∧rem.getD (choice ws hs cp rem).2 0∈mayL ws (groupOf rem)∧(choice ws hs cp rem).1=costOf cp (rem.getD (choice ws hs cp rem).2 0) (hourOf hs (groupOf rem))∧(choice ws hs cp rem).1=(minPL (pricesL ws hs cp (groupOf rem))).1:=by
  have hpr:=prices_ne (cp:=cp) ok hr hne
  have hz93:=choice_lt hpr
  have h1:=hz93.1
  have h2:=hz93.2
  clear hz93
  have hx:rem.getD (choice ws hs cp rem).2 0∈rem:=by rw [List.getD_eq_getElem?_getD,List.getElem?_eq_getElem h1]; exact List.getElem_mem h1
  have hm:=minPL_mem hpr
  have hfree:freeAt ws rem (ws.getD (rem.getD (choice ws hs cp rem).2 0) "")=true:=by
    unfold pricesR at hm
    obtain ⟨p,hy98_1⟩:=List.mem_map.mp hm
    have hp:=hy98_1.1
    have e:=hy98_1.2
    clear hy98_1
    unfold freeTo at hp
    have e':(choice ws hs cp rem).2=p:=congrArg Prod.snd e.symm
    rw [e']
    exact (List.mem_filter.mp hp).2
  have hmay:=(free_iff ok hr hx).mp hfree
  rw [← hour_left (hs:=hs) hn hr] at h2
  refine ⟨h1,hmay,h2,Nat.le_antisymm ?_ ?_⟩
  · have hne2:pricesL ws hs cp (groupOf rem)≠[]:=fun q=>by
      have:(costOf cp (rem.getD (choice ws hs cp rem).2 0) (hourOf hs (groupOf rem)),rem.getD (choice ws hs cp rem).2 0)∈pricesL ws hs cp (groupOf rem):=List.mem_map.mpr ⟨_,hmay,rfl⟩
      rw [q] at this; cases this
    obtain ⟨k,hy109_1⟩:=List.mem_map.mp (minPL_mem hne2)
    have hk:=hy109_1.1
    have e:=hy109_1.2
    clear hy109_1
    have e':minPL (pricesL ws hs cp (groupOf rem))=(costOf cp k (hourOf hs (groupOf rem)),k):=e.symm
    rw [e']
    have hkr:k∈rem:=(in_group hr).mp (List.mem_filter.mp hk).1
    obtain ⟨p,hp,hpe⟩:=List.mem_iff_getElem.mp hkr
    have hgd:rem.getD p 0=k:=by rw [List.getD_eq_getElem?_getD,List.getElem?_eq_getElem hp,hpe]; rfl
    have hmem:(costOf cp (rem.getD p 0) (leftOf hs rem),p)∈pricesR ws hs cp rem rem.length:=List.mem_map.mpr ⟨p,List.mem_filter.mpr ⟨List.mem_range.mpr hp,by rw [hgd]; exact (free_iff ok hr hkr).mpr hk⟩,rfl⟩
    have:=minPL_le _ hmem
    rw [hgd,← hour_left (hs:=hs) hn hr] at this
    exact this
  · rw [h2]
    exact minPL_le _ (List.mem_map.mpr ⟨_,hmay,rfl⟩)
theorem may_ne {g:Nat} (h1:1≤g) (h2:g < 32):mayL ws g≠[]:=by
  have hr:∀ j∈insideL g,j < 5:=fun j hj=>((inside_lt g h2).1 j hj).1
  have hg:=group_inside h2
  have hpr:=prices_ne (cp:=cp) ok hr (inside_ne g h2 h1)
  intro q
  have hm:=minPL_mem hpr
  unfold pricesR at hm
  obtain ⟨p,hy128_1⟩:=List.mem_map.mp hm
  have hp:=hy128_1.1
  have e:=hy128_1.2
  clear hy128_1
  unfold freeTo at hp
  have hz130:=List.mem_filter.mp hp
  have p1:=hz130.1
  have p2:=hz130.2
  clear hz130
  have hp1:=List.mem_range.mp p1
  have hx:(insideL g).getD p 0∈insideL g:=by rw [List.getD_eq_getElem?_getD,List.getElem?_eq_getElem hp1]; exact List.getElem_mem hp1
  have:=(free_iff ok hr hx).mp p2
  rw [hg,q] at this
  cases this
end
section
variable (ws:List Str) (hs:List Nat) (cp:List (Nat × Nat))
noncomputable def bst (g:Nat):Nat:=(bestT ws hs cp g).getD g 0
noncomputable def flo (g:Nat):Nat:=(minPL (pricesL ws hs cp g)).1
theorem bestT_get:∀ j i,i≤j→(bestT ws hs cp j)[i]?=some (bst ws hs cp i)
  | 0,i,h=>by
    have:i=0:=by omega
    subst this; rfl
  | j+1,i,h=>by
    have hl:=bestT_len ws hs cp j
    by_cases q:i≤j
    · unfold bestT
      rw [List.getElem?_append_left (by omega)]
      exact bestT_get j i q
    · have:i=j+1:=by omega
      subst this
      have hl2:=bestT_len ws hs cp (j+1)
      unfold bst
      rw [List.getD_eq_getElem?_getD,List.getElem?_eq_getElem (by omega)]; rfl
theorem floorsT_get:∀ j i,i≤j→1≤i→(floorsT ws hs cp j)[i]?=some (flo ws hs cp i)
  | 0,i,h,h1=>by omega
  | j+1,i,h,h1=>by
    have hl:=floorsT_len ws hs cp j
    unfold floorsT
    by_cases q:i≤j
    · rw [List.getElem?_append_left (by omega)]
      exact floorsT_get j i q h1
    · have:i=j+1:=by omega
      subst this
      rw [List.getElem?_append_right (by omega),hl,Nat.sub_self]; rfl
variable {ws hs cp} (ok:WsOk ws hs cp)
theorem bst_eq {g:Nat} (h1:1≤g) (h2:g < 32):bst ws hs cp g=minL ((pricesL ws hs cp g).map fun p=>maxN p.1 [bst ws hs cp (g - 2 ^ p.2)]):=by
  obtain ⟨j,rfl⟩:∃ j,g=j+1:=⟨g - 1,by omega⟩
  have hl:=bestT_len ws hs cp j
  have e:bst ws hs cp (j+1)=bestNext ws hs cp (bestT ws hs cp j) (j+1):=by
    unfold bst
    rw [show bestT ws hs cp (j+1)=bestT ws hs cp j++[bestNext ws hs cp (bestT ws hs cp j) (j+1)] from rfl,List.getD_eq_getElem?_getD,List.getElem?_append_right (by omega),hl,Nat.sub_self]; rfl
  rw [e]
  unfold bestNext
  congr 1
  refine List.map_congr_left fun p hp=>?_
  unfold pricesL at hp
  obtain ⟨k,hy48_1⟩:=List.mem_map.mp hp
  have hk:=hy48_1.1
  have hx48_0:=hy48_1.2
  clear hy48_1
  subst hx48_0
  have hlt:=((inside_lt (j+1) h2).1 k (List.mem_filter.mp hk).1).2
  show maxN _ [(bestT ws hs cp j).getD (j+1 - 2 ^ k) 0]=maxN _ [bst ws hs cp (j+1 - 2 ^ k)]
  rw [List.getD_eq_getElem?_getD,bestT_get ws hs cp j _ (by omega)]; rfl
theorem max2 (a b:Nat):a≤maxN a [b]∧b≤maxN a [b]:=⟨(maxN_fact [b] a).1.1,(maxN_fact [b] a).1.2 b List.mem_cons_self⟩
theorem max2_le {a b c:Nat} (h1:a≤c) (h2:b≤c):maxN a [b]≤c:=by
  rcases (maxN_fact [b] a).2 with q | q
  · rw [q]; exact h1
  · rw [List.mem_singleton.mp q]; exact h2
theorem sub_sum {l l':List Nat} (h:l.Sublist l'):l.sum≤l'.sum:=by
  induction h with
  | slnil=>exact Nat.le_refl _
  | cons a _ ih=>rw [List.sum_cons]; omega
  | cons_cons a _ ih=>rw [List.sum_cons,List.sum_cons]; omega
theorem flo_le (hne:∀ g,1≤g→g < 32→mayL ws g≠[]) (hl32:∀ w,laterOf ws w < 32) (hlen:ws.length=5):∀ g,1≤g→g < 32→∀ p∈parts g,flo ws hs cp p≤bst ws hs cp g:=by
  intro g
  induction g using Nat.strongRecOn with
  | _ g ih =>
    intro h1 h2 p hp
    have hz68:=parts_fact g h2 p hp
    have p1:=hz68.1
    have p2:=hz68.2.1
    have p3:=hz68.2.2.1
    have p4:=hz68.2.2.2
    clear hz68
    have hpn:pricesL ws hs cp g≠[]:=fun q=>hne g h1 h2 (List.map_eq_nil_iff.mp q)
    have hmem:=minL_mem (l:=(pricesL ws hs cp g).map fun p=>maxN p.1 [bst ws hs cp (g - 2 ^ p.2)]) (fun q=>hpn (List.map_eq_nil_iff.mp q))
    rw [← bst_eq h1 h2] at hmem
    obtain ⟨x,hy72_1⟩:=List.mem_map.mp hmem
    have hx:=hy72_1.1
    have e:=hy72_1.2
    clear hy72_1
    unfold pricesL at hx
    obtain ⟨k,hy74_1⟩:=List.mem_map.mp hx
    have hk:=hy74_1.1
    have hx74_0:=hy74_1.2
    clear hy74_1
    subst hx74_0
    have e':maxN (costOf cp k (hourOf hs g)) [bst ws hs cp (g - 2 ^ k)]=bst ws hs cp g:=e
    have hz76:=max2 (costOf cp k (hourOf hs g)) (bst ws hs cp (g - 2 ^ k))
    have m1:=hz76.1
    have m2:=hz76.2
    clear hz76
    rw [e'] at m1 m2
    have hz78:=List.mem_filter.mp hk
    have hk1:=hz78.1
    have hk2:=hz78.2
    clear hz78
    have hz79:=(inside_lt g h2).1 k hk1
    have hk5:=hz79.1
    have hlt:=hz79.2
    clear hz79
    rcases p4 k hk1 with q | q
    · have hkp:k∈mayL ws p:=by
        refine List.mem_filter.mpr ⟨q,?_⟩
        rw [beq_iff_eq] at hk2 ⊢
        refine parts_and g h2 p hp _ ?_ hk2
        have h:k < ws.length:=by rw [hlen]; exact hk5
        unfold laterL
        rw [List.getD_eq_getElem?_getD,List.getElem?_map,List.getElem?_eq_getElem h]
        exact hl32 _
      have hh:hourOf hs p≤hourOf hs g:=by
        unfold hourOf
        exact sub_sum ((List.isSublist_iff_sublist.mp p3).map _)
      exact Nat.le_trans (minPL_le _ (List.mem_map.mpr ⟨k,hkp,rfl⟩)) (Nat.le_trans (cost_mono cp k hh) m1)
    · have hg1:1≤g - 2 ^ k:=by
        rcases Nat.eq_zero_or_pos (g - 2 ^ k) with z | z
        · rw [z,show parts 0=[] by decide] at q; cases q
        · exact z
      exact Nat.le_trans (ih (g - 2 ^ k) hlt hg1 (by omega) p q) m2
include ok
theorem remAt_nd:∀ n,n≤5→(remAt ws hs cp n).Nodup
  | 0,_=>by show [0,1,2,3,4].Nodup; decide
  | n+1,h=>(remAt_nd n (by omega)).sublist (List.eraseIdx_sublist _ _)
theorem remAt_sub:∀ i n,∀ j∈remAt ws hs cp (n+i),j∈remAt ws hs cp n
  | 0,n,j,h=>h
  | i+1,n,j,h=>remAt_sub i n j (List.mem_of_mem_eraseIdx h)
theorem plan_step {n:Nat} (hn:n < 5):(choice ws hs cp (remAt ws hs cp n)).1=flo ws hs cp (groupOf (remAt ws hs cp n)) ∧
    bst ws hs cp (groupOf (remAt ws hs cp n))≤maxN (choice ws hs cp (remAt ws hs cp n)).1 [bst ws hs cp (groupOf (remAt ws hs cp (n+1)))]:=by
  have hz108:=remAt_ok (cp:=cp) ok n (by omega)
  have h1:=hz108.1
  have h2:=hz108.2
  clear hz108
  have hnd:=remAt_nd ok n (by omega)
  have hne:0 < (remAt ws hs cp n).length:=by omega
  have hz111:=choice_free (cp:=cp) ok hnd h2 hne
  have c1:=hz111.1
  have c2:=hz111.2.1
  have c3:=hz111.2.2.1
  have c4:=hz111.2.2.2
  clear hz111
  refine ⟨c4,?_⟩
  rw [bst_eq (group_pos h2 hne) (group_lt _),show remAt ws hs cp (n+1)=(remAt ws hs cp n).eraseIdx (choice ws hs cp (remAt ws hs cp n)).2 from rfl,group_erase hnd h2 c1]
  refine minL_le _ (List.mem_map.mpr ⟨(costOf cp ((remAt ws hs cp n).getD (choice ws hs cp (remAt ws hs cp n)).2 0) (hourOf hs (groupOf (remAt ws hs cp n))),_),List.mem_map.mpr ⟨_,c2,rfl⟩,?_⟩)
  rw [← c3]
theorem plan_le (U:Nat):∀ i n,n+i=5→(∀ j,n≤j→j < 5→(choice ws hs cp (remAt ws hs cp j)).1≤U)→bst ws hs cp (groupOf (remAt ws hs cp n))≤U
  | 0,n,e,h=>by
    have hn:n=5:=e
    subst hn
    have h0:remAt ws hs cp 5=[]:=List.length_eq_zero_iff.mp (by have:=(remAt_ok (cp:=cp) ok 5 (by omega)).1; omega)
    rw [h0]
    exact Nat.zero_le _
  | i+1,n,e,h=>Nat.le_trans (plan_step ok (by omega)).2 (max2_le (h n (Nat.le_refl _) (by omega)) (plan_le U i (n+1) (by omega) fun j h1 h2=>h j (by omega) h2))
end
theorem plainOk (xs:List Int):PlainOk xs:=by
  have ok:=wsOk xs
  refine ⟨fun g h1 h2=>may_ne ok h1 h2,fun k c g hk=>?_⟩
  have hpl:(plS xs).length=5:=by unfold plS planN; rw [List.length_map,List.length_range]
  have hk5:k < 5:=by have:=(List.getElem?_eq_some_iff.mp hk).1; omega
  generalize hw:wkS xs=ws at *
  generalize hh:hsS xs=hs at *
  generalize hc:cpS xs=cp at *
  have hps:plS xs=planN ws hs cp 5:=by unfold plS; rw [hw,hh,hc]
  have hat:∀ j,j < 5→(plS xs)[j]?=some ((choice ws hs cp (remAt ws hs cp j)).1,groupOf (remAt ws hs cp j)):=fun j hj=>by
    rw [hps]; unfold planN
    rw [List.getElem?_map,List.getElem?_range hj]; rfl
  have e:=hat k hk5
  rw [hk] at e
  obtain ⟨rfl,rfl⟩:c=(choice ws hs cp (remAt ws hs cp k)).1∧g=groupOf (remAt ws hs cp k):=by injection e with e; injection e with e1 e2; exact ⟨e1,e2⟩
  have hz140:=remAt_ok (cp:=cp) ok k (by omega)
  have h1:=hz140.1
  have h2:=hz140.2
  clear hz140
  have hne:0 < (remAt ws hs cp k).length:=by omega
  have hgp:=group_pos h2 hne
  have hgl:=group_lt (remAt ws hs cp k)
  have hz144:=choice_free (cp:=cp) ok (remAt_nd ok k (by omega)) h2 hne
  have c1:=hz144.1
  have c2:=hz144.2.1
  have c3:=hz144.2.2.1
  have c4:=hz144.2.2.2
  clear hz144
  have hl32:∀ w,laterOf ws w < 32:=fun w=>by
    have:laterOf ws w=gB (fun j=>(ws.getD j "" != w) && Txt.startswith (ws.getD j "") w):=gB_later _
    rw [this]; exact gB_lt _
  have hdrop:∀ v,v∈((plS xs).drop k).map Prod.fst ↔ ∃ j,k≤j∧j < 5∧v=(choice ws hs cp (remAt ws hs cp j)).1:=by
    intro v
    rw [List.mem_map]
    constructor
    · rintro ⟨p,hp,rfl⟩
      obtain ⟨i,hi,hie⟩:=List.mem_iff_getElem.mp hp
      have hi':k+i < 5:=by rw [List.length_drop] at hi; omega
      have h3:((plS xs).drop k)[i]?=some p:=by rw [List.getElem?_eq_getElem hi,hie]
      rw [List.getElem?_drop,hat _ hi'] at h3
      exact ⟨k+i,by omega,hi',by rw [← Option.some.inj h3]⟩
    · rintro ⟨j,hj1,hj2,rfl⟩
      refine ⟨((choice ws hs cp (remAt ws hs cp j)).1,groupOf (remAt ws hs cp j)),?_,rfl⟩
      · refine List.mem_iff_getElem?.mpr ⟨j - k,?_⟩
        rw [List.getElem?_drop,show k+(j - k)=j by omega]
        exact hat j hj2
  have hdne:((plS xs).drop k).map Prod.fst≠[]:=fun q=>by
    have:=(hdrop _).mpr ⟨k,Nat.le_refl _,hk5,rfl⟩
    rw [q] at this; cases this
  have hB:bst ws hs cp (groupOf (remAt ws hs cp k))≤maxL (((plS xs).drop k).map Prod.fst) :=
    plan_le ok _ (5 - k) k (by omega) fun j j1 j2=>maxL_le _ ((hdrop _).mpr ⟨j,j1,j2,rfl⟩)
  have hA:=flo_le (hs:=hs) (cp:=cp) (fun g h1 h2=>may_ne (cp:=cp) ok h1 h2) hl32 ok.lw (groupOf (remAt ws hs cp k)) hgp hgl
  have hfl:∀ p∈parts (groupOf (remAt ws hs cp k)),(floorsT ws hs cp 31).getD p 0=flo ws hs cp p:=fun p hp=>by
    have hz171:=parts_fact _ hgl p hp
    have p1:=hz171.1
    have p2:=hz171.2.1
    clear hz171
    rw [List.getD_eq_getElem?_getD,floorsT_get ws hs cp 31 p (by omega) p1]; rfl
  obtain ⟨j,hy174_1⟩:=(hdrop _).mp (maxL_mem hdne)
  have j1:=hy174_1.1
  have j2:=hy174_1.2.1
  have je:=hy174_1.2.2
  clear hy174_1
  have hz175:=remAt_ok (cp:=cp) ok j (by omega)
  have hj1:=hz175.1
  have hj2:=hz175.2
  clear hz175
  have hjf:=(plan_step (cp:=cp) ok j2).1
  have hjp:groupOf (remAt ws hs cp j)∈parts (groupOf (remAt ws hs cp k)):=by
    have hgj:=group_pos hj2 (by omega)
    rw [groupOf_eq (remAt ws hs cp j)] at hgj ⊢
    rw [groupOf_eq (remAt ws hs cp k)]
    refine gB_parts _ _ (fun i hi hq=>decide_eq_true ?_) hgj
    have:=of_decide_eq_true hq
    exact remAt_sub ok (j - k) k i (by rw [show k+(j - k)=j by omega]; exact this)
  have hC:maxL (((plS xs).drop k).map Prod.fst)≤bst ws hs cp (groupOf (remAt ws hs cp k)):=by
    rw [je,hjf]; exact hA _ hjp
  refine ⟨?_,hgl,(fun q=>by rw [q] at hjp; cases hjp),?_,?_,?_⟩
  · rw [c3,hour_left (remAt_nd ok k (by omega)) h2]
    refine cost_lt ok (by omega) h2 (h2 _ ?_)
    rw [List.getD_eq_getElem?_getD,List.getElem?_eq_getElem c1]; exact List.getElem_mem c1
  · rw [floorsT_get ws hs cp 31 _ (by omega) hgp,(plan_step (cp:=cp) ok hk5).1]
  · rw [bestT_get ws hs cp 31 _ (by omega)]
    congr 1
    exact Nat.le_antisymm hB hC
  · refine Nat.le_antisymm ?_ ?_
    · have hne2:(parts (groupOf (remAt ws hs cp k))).map (fun p=>(floorsT ws hs cp 31).getD p 0)≠[]:=fun q=>by rw [List.map_eq_nil_iff.mp q] at hjp; cases hjp
      obtain ⟨p,hy196_1⟩:=List.mem_map.mp (maxL_mem hne2)
      have hp:=hy196_1.1
      have e:=hy196_1.2
      clear hy196_1
      rw [← e,hfl p hp]
      exact Nat.le_trans (hA p hp) hB
    · rw [je,hjf,← hfl _ hjp]
      exact maxL_le _ (List.mem_map.mpr ⟨_,hjp,rfl⟩)
section
variable {w:World} {h:Heap} (T:Top0 w h)
include T
theorem Top0.bmAt:∃ ob,(hideAll h tabs).get? 4=some ob∧ob.cls=.type "module"∧ob.dict=some builtinsNs∧ob.data=.plain:=by
  obtain ⟨mg,bm,ob,hy11_1⟩:=T.bm
  have hn:=hy11_1.1
  have e1:=hy11_1.2.1
  have ne:=hy11_1.2.2.1
  have e2:=hy11_1.2.2.2.1
  have c:=hy11_1.2.2.2.2.1
  have d:=hy11_1.2.2.2.2.2.1
  have p:=hy11_1.2.2.2.2.2.2
  clear hy11_1
  have:=(T.same hn).2 "__builtins__"
  rw [(gl_own w.params).2.2.1,e1] at this
  cases this
  exact ⟨ob,hideAll_get _ e2 (out (a:=4)),c,d,p⟩
theorem Top0.gl (x:Str):T.D.gl x=glS w.params x:=rfl
noncomputable def Top0.N:Nst T.D where
  mg:=mgS w.params
  ns:=T.ns
  bm:=4
  ob:=Classical.choose T.bmAt
  e1:=(gl_own w.params).2.2.1
  ne0:=by decide
  ne1:=by decide
  get:=(Classical.choose_spec T.bmAt).1
  cls:=(Classical.choose_spec T.bmAt).2.1
  dict:=(Classical.choose_spec T.bmAt).2.2.1
  data:=(Classical.choose_spec T.bmAt).2.2.2
noncomputable def Top0.Dn:Dn T.D T.X where
  N:=T.N
  f54:=(f54 w.params).at_ rfl T.F
  f56:=(f56 w.params).at_ rfl T.F
  f57:=(f57 w.params).at_ rfl T.F
  f58:=(f58 w.params).at_ rfl T.F
  f59:=(f59 w.params).at_ rfl T.F
  c56:=44
  P56:=40
  e56:=rfl
  T56:=T.T56
  c57:=51
  P57:=47
  e57:=rfl
  T57:=T.T57
  tL:=divT w.params
  gL:=(T.gl _).trans (gl_own w.params).2.2.2.2
  gdm:=(T.gl _).trans (gl_facts w.params).2.2.2.2.2.2.1
  glen:=(T.gl _).trans (gl_facts w.params).1
  grev:=(T.gl _).trans (gl_facts w.params).2.2.2.2.2.2.2.1
noncomputable def Top0.Pn:Pn T.D T.X where
  Z:=T.Dn
  f51:=(f51 w.params).at_ rfl T.F
  f61:=(f61 w.params).at_ rfl T.F
  tE:=189
  gE:=(T.gl _).trans (gl_own w.params).2.2.2.1
  gmax:=(T.gl _).trans (gl_facts w.params).2.1
  gmin:=(T.gl _).trans (gl_facts w.params).2.2.1
  gsum:=(T.gl _).trans (gl_facts w.params).2.2.2.1
  grange:=(T.gl _).trans (gl_facts w.params).2.2.2.2.1
  genum:=(T.gl _).trans (gl_facts w.params).2.2.2.2.2.1
  nb:=by
    obtain ⟨es,ep,hy61_1⟩:=noBooked w.params
    have d:=hy61_1.1
    have k:=hy61_1.2.1
    have n:=hy61_1.2.2
    clear hy61_1
    exact ⟨_,⟨_,es,ep,T.F _ _ (at_own w.params).2.2.2.2.2.2,d,strKeys_of k,fun _=>rfl⟩,n⟩
noncomputable def Top0.cl:Cls T.D where
  C:=111
  N:=110
  mN:=mnS w.params
  at_:=⟨⟨_,_,_,_,_,_,_,_,_,_,_,_,T.F _ _ (at_own w.params).2.2.2.2.1⟩,⟨_,esN w.params,epN w.params,T.F _ _ (at_own w.params).2.2.2.2.2.1,(keysN w.params).1,strKeys_of (keysN w.params).2,fun _=>rfl⟩⟩
  ga:=(mn_none w.params).1
  sa:=(mn_none w.params).2.1
  hook:=(mn_none w.params).2.2.1
  lineno:=(mn_none w.params).2.2.2.1
  instream:=(mn_none w.params).2.2.2.2.1
  whitespace:=(mn_none w.params).2.2.2.2.2.1
  pushback:=(mn_none w.params).2.2.2.2.2.2
theorem Top0.up {h':Heap} (hx:Ext T.D.h0 h'):(frg w.params).In h':=fun a o e=>hx a o (T.F a o e)
noncomputable def Top0.Zk:Mk T.cl where
  fi:=(m0 w.params).at_ rfl T.F
  mks:=fun h' hx=>makes_of (T.up hx) (make_own w.params)
  hi:=fun h' hx=>Looks.of_peek (T.up hx) (init_own _ _)
  hb:=fun h' self hx=>Looks.of_peek (T.up hx) (bind_own _ _ self)
noncomputable def Top0.Ln:Ln T.D T.X where
  P:=T.Pn
  cl:=T.cl
  Zk:=T.Zk
  gC:=(T.gl _).trans (gl_own w.params).1
  f65:=(f65 w.params).at_ rfl T.F
  f66:=(f66 w.params).at_ rfl T.F
  f67:=(f67 w.params).at_ rfl T.F
  f68:=(f68 w.params).at_ rfl T.F
  f69:=(f69 w.params).at_ rfl T.F
  f70:=(f70 w.params).at_ rfl T.F
  f71:=(f71 w.params).at_ rfl T.F
  c65:=121
  P65:=117
  e65:=rfl
  T65:=T.T65
  rd:=(m1 w.params).at_ rfl T.F
  gt:=(m2 w.params).at_ rfl T.F
  pt:=(m3 w.params).at_ rfl T.F
  giter:=(T.gl _).trans (gl_facts w.params).2.2.2.2.2.2.2.2
  aT:=15
  fT:=tokG w.params
  gT:=(T.gl _).trans (gl_own w.params).2.1
  tab:=⟨_,esT w.params,epT w.params,T.F _ _ (at_own w.params).1,⟨(keysT w.params).2.2.2.1,(keysT w.params).2.2.2.2.1,(keysT w.params).2.2.2.2.2⟩,(keysT w.params).1,keys_of _ w,fun _=>rfl⟩
  tk:=fun x hx=>by
    have h:=tokens w.params
    obtain ⟨i,hi,rfl⟩:=List.mem_iff_getElem.mp hx
    have:=congrArg (fun l=>l[i]?) h
    simp only [List.getElem?_map,List.getElem?_eq_getElem hi,Option.map_some] at this
    exact ⟨_,Option.some.inj this⟩
  nsX:=fun g h' x b o hb e=>by
    obtain ⟨o',hy112_1⟩:=T.notX g h' x b hb
    have e':=hy112_1.1
    have n:=hy112_1.2.2
    clear hy112_1
    rw [e] at e'; cases e'; exact n
end
theorem hLeft:LeftO hP hQ hLoose hXt hH.obs hH.val 4720 :=
  LeftO.of_pieces (H₁:=fun P=>absHeap (trS3 P) 160 hLife) (k₁:=613) hOpen hSize topAll (by rfl) hLooks
set_option maxHeartbeats 8000000 in
theorem hSaid:PySem.Challenge.rw_to0060_01.wellSaid=true:=by
  rw [PySem.W.Fast.te9446332074065402090]
  delta PySem.W.Fast.tw9446332074065402090
  have h:PySem.W.Fast.tw17960256430627541270 (PySem.W.Fast.tw2368527892694137696 PySem.Challenge.rw_to0060_01)=true:=by
    delta PySem.W.Fast.tw17960256430627541270 PySem.W.Fast.tw2436336058641802641 PySem.W.Fast.tw12908688711261696721
    generalize hx:PySem.W.Fast.tw8326940854005059898 _ _=x
    have e:x=true:=by rw [← hx]; clear hx; as_aux_lemma=>kernel_rfl
    clear hx
    subst e
    as_aux_lemma=>kernel_rfl
  rw [h]
  clear h
  as_aux_lemma=>kernel_rfl
noncomputable def dLaw:DefRec:=match PySem.Challenge.pw_to0060_01.main.body[(72:Nat)]? with
  | some (.FunctionDef name a b _ _ _ sc _ _ pos)=>⟨name,a,b,sc,pos⟩
  | _=>⟨"",default,[],default,default⟩
set_option maxHeartbeats 8000000 in
theorem hHead (walk:WalkO hQ hLoose (XL hQ []) hH.says hR dLaw [] fun f vs=>PySem.call f vs):PySem.Challenge.rw_to0060_01.Holds:=by
  w_on
  refine holds_law hSaid fun said=>?_
  refine holds_open (d:=dLaw) (kwd:=[]) (q:=hQ) (loose:=hLoose) (Xt:=hXt) (XP:=XL hQ []) (Yf:=hH.obs) (Ya:=hH.val) (YP:=hH.says) (N:=4720) hLeft (Hook.of hH) (Hook.keeps hH) (fun s e=>xl_of s (Bool.and_eq_true_iff.mp e).1) XL.keeps (by rfl) (by rfl) (by rfl) (fun s e=>recFacts_of (Bool.and_eq_true_iff.mp e).2) (by rfl) said (by decide +kernel) ⟨rfl,rfl,rfl,rfl,rfl,by decide +kernel⟩ ?hw ?hc
  case hw=>w_witness2
  case hc=>exact walk
section
set_option tactic.hygienic true
theorem codeTab {h:Heap} {c P:Addr} (x:CodeHd (hideAll h tabs) c P):isCodeTable h P:=by
  obtain ⟨o,vs,_,_,_,_,_,_,_,hy8_1⟩:=x
  have e1:=hy8_1.1
  have e2:=hy8_1.2.1
  have e3:=hy8_1.2.2.1
  have e4:=hy8_1.2.2.2.1
  clear hy8_1
  exact ⟨c,o,vs,of_hideAll _ e1,e2,e3,e4⟩
theorem ints_rel {μ:Addr} {h:Heap} {rs:List Value} {ns:List Int} (x:IntsAre rs ns):VRels μ h (ns.map .int) rs:=by
  induction x with
  | nil=>exact .nil
  | cons n t _ ih=>exact .cons (.i _ _) ih
theorem lawWalk:WalkO hQ hLoose (XL hQ []) hH.says hR dLaw [] fun f vs=>PySem.call f vs:=by
  intro w s₀ s₁ mg mb G Y a o pm cd doc dV kV ho hd hcd hdf hmg hgens args vals as hpre hlay hreads hwell hlow
  wrow_args hpre hlay hreads hwell hlow
  rename_i xs hsh hlay0 hL1 hr1 hl2 A4 A3 b rs A0 hL ra w1 r0 hI hr hc1 hc2
  have T:Top0 w s₁.heap:=⟨Y,⟨mg,G.T.g⟩,⟨mb,G.T.b,G.T.builtins⟩,G.T.nolimit,let ⟨bm,ob,e1,e2,e3,e4,e5,e6⟩:=G.T.bmain; ⟨mg,bm,ob,G.T.g,e1,e2,e3,e4,e5,e6⟩⟩
  obtain rfl:dV=.none:=by
    rcases hdf.pos with ⟨_,e⟩ | ⟨ne,_⟩
    · exact e
    · exact absurd rfl ne
  obtain rfl:kV=.none:=by
    rcases hdf.kw with ⟨_,e⟩ | ⟨ne,_⟩
    · exact e
    · exact absurd rfl ne
  have hd':o.data=.func (Calls.docDef "law" (fArgs 72) (fBody 72) (fScope 72) pm cd doc):=hd
  have hl:shortL xs.length=true:=shortL_of (by omega)
  have hrel:VRel 0 s₁.heap (.list (xs.map .int)) (.ref b):=by
    have w1':Well w.params s₁.heap (.ref b) (.list (ofPys (xs.map PyData.int))):=w1
    cases w1' with
    | list e _ =>
      obtain ⟨ol,hy33_1⟩:=hL
      have e2:=hy33_1.1
      have hw33_2:=hy33_1.2.2
      clear hy33_1
      obtain ⟨nl,d⟩:=hw33_2
      rw [e] at e2; cases e2
      cases d
      unfold VRel
      exact ⟨b,rs,rfl,⟨_,e⟩,ints_rel hI⟩
  have hns:∀ c o,c∈tabs→s₁.heap.get? c=some o→¬ seqish o:=fun c o hc e=>by
    obtain ⟨o',hy39_1⟩:=T.notX () _ T.gX c hc
    have e':=hy39_1.1
    have n:=hy39_1.2.2
    clear hy39_1
    rw [e] at e'; cases e'; exact n
  have hA:AOk 13 callerA:=⟨rfl,by decide,by decide⟩
  have key:=T.D.codeE0 T.X (k:=12) (A:=callerA) hA (a:=a) (o:=o) (fd:=Calls.docDef "law" (fArgs 72) (fBody 72) (fScope 72) pm cd doc) (body:=fBody 72) (ks:=ks72) (vs:=[.list (xs.map .int)]) (μ:=0) (g:=()) (K:=fun _=>True) (Post:=fun r s'=>r=.bool true∧T.X.G () s'.heap∧Mg tabs s₁ s') 9 (s:=s₁)
    ho hd' hcd rfl rfl rfl rfl ok72 (by show 1≤10; decide) (len1 fun _=>rfl) (fun σ _ _ _ _ hS0 s₂ E h0 hz hk hsame ht fr=>by
      refine wpAny_mono (walk72 T.Ln (k:=11) (plainOk xs) hl (by decide) fr) (fun f s' q=>?_) fun _ _ q=>q
      have:=ret_out (l:=tabs) (fun b=>Iff.rfl) h0 hz hk hsame q
      refine ⟨?_,this.2.1,this.2.2⟩
      have hv:=this.1.rel
      unfold VRel at hv
      exact hv) rfl rfl [.ref b] (fun b o e=>of_hideAll _ e) T.gX trivial (fun h' k=>.cons (VX.of_rel hrel (fun c o hc e=>hns c o hc e) h' k) .nil)
  refine wpAny_call (codeAny_mono key fun x s' q=>?_)
  obtain ⟨r,hy51_1⟩:=q
  have hx51_0:=hy51_1.1
  have hx51_1:=hy51_1.2.1
  have hG:=hy51_1.2.2.1
  have mg':=hy51_1.2.2.2
  clear hy51_1
  subst hx51_0
  subst hx51_1
  refine ⟨.inl ⟨.bool true,.bool true,[],rfl,fun cls=>rfl,.bool _,by wrow_post,fun _=>⟨List.nodup_nil,fun a h=>nomatch h⟩⟩,⟨fun c oc e=>?_,fun c oc e=>?_⟩,?_,?_⟩
  · by_cases hc:c∈tabs
    · refine .inr (.inl ?_)
      have one:∀ {P qs},(hK w.params).lookup P=some (tabObj #[])→TabOk s'.heap P qs→isCodeTable s₁.heap P→c=P→isCodeTable s₁.heap c∧oc.cls=.none∧∃ vs more,oc.data=.fields vs∧s'.heap.get? c=some { oc with data:=.fields (vs++more) }:=fun {P qs} hP ht hcT hcP=>by
        subst hcP
        have e0:=T.Y _ _ hP
        rw [e] at e0; cases e0
        obtain ⟨ps,hy59_1⟩:=ht
        have e1:=hy59_1.1
        clear hy59_1
        exact ⟨hcT,rfl,#[],ps,rfl,by rw [e1]; simp⟩
      have hc':=hc
      simp only [tabs,List.mem_cons,List.not_mem_nil,or_false] at hc'
      rcases hc' with q | q | q
      · exact one (tab_own w.params).1 hG.1 (codeTab T.T56.C) q
      · exact one (tab_own w.params).2.1 hG.2.1 (codeTab T.T57.C) q
      · exact one (tab_own w.params).2.2 hG.2.2 (codeTab T.T65.C) q
    · exact .inl (mg'.kept c oc hc e)
  · by_cases hc:c∈tabs
    · exact T.X.live () _ hG c hc
    · exact ⟨oc,mg'.kept c oc hc e⟩
  · obtain ⟨h',tk,rfl⟩:=mg'.same
    rfl
  · obtain ⟨h',tk,rfl⟩:=mg'.same
    exact .of_eq hgens
end
end Mine
end
theorem PySem.Challenge.cw_to0060_01_holds : PySem.Challenge.rw_to0060_01.Holds :=
  Mine.hHead Mine.lawWalk
