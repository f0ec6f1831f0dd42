import PyProof.Rows.All
import Wide.All
import OpenK.AllK
import Wide.FinOn
import Lean
import PySem.Challenge.RW_xh0018_01
set_option autoImplicit false
set_option Elab.async false
set_option linter.unusedVariables false
set_option linter.unusedSimpArgs false
set_option maxRecDepth 100000
set_option compiler.extract_closed false
set_option genSizeOfSpec false
set_option bootstrap.genMatcherCode false
noncomputable section
set_option genSizeOfSpec false
set_option genSizeOf false
set_option genCtorIdx false
namespace Mine
open PySem PyProof.Rows
inductive AV where
  | none
  | bool (b:Bool)
  | int (i:Int)
  | flt (x:UInt64)
  | str (s:Str)
  | bytes (b:List UInt8)
  | tup (xs:List AV)
  | list (xs:List AV)
  | dictI (ks:List Int) (vs:List AV)
  | dictS (ks:List Str) (vs:List AV)
  | range (a b:Int)
  | items (d:AV)
  | vals (d:AV)
  | inst (xs:List AV)
  | biter (b:List UInt8) (pos:Nat)
  | arg (xs:List AV)
set_option genCtorIdx true in
inductive MV where
  | val (v:AV)
  | mu (i:Nat)
  | unset
set_option genCtorIdx true in
inductive Res (α:Type) where
  | ok (a:α) (σ:List AV)
  | stop (σ:List AV)
  | no
noncomputable def Res.bind {α β:Type} (r:Res α) (f:α→List AV→Res β):Res β:=match r with
  | .ok a σ=>f a σ
  | .stop σ=>.stop σ
  | .no=>.no
@[simp] theorem Res.bind_ok {α β:Type} (a:α) (σ:List AV) (f:α→List AV→Res β):(Res.ok a σ).bind f=f a σ:=rfl
@[simp] theorem Res.bind_stop {α β:Type} (σ:List AV) (f:α→List AV→Res β):(Res.stop σ:Res α).bind f=.stop σ:=rfl
@[simp] theorem Res.bind_no {α β:Type} (f:α→List AV→Res β):(Res.no:Res α).bind f=.no:=rfl
noncomputable def Res.calm {α:Type}:Res α→Res α
  | .stop _=>.no
  | r=>r
noncomputable def Res.of {α:Type} (σ:List AV):Option α→Res α
  | some a=>.ok a σ
  | Option.none=>.no
theorem nn {α:Type} {a:α} {p:Prop} (e:Option.none=some a):p:=nomatch e
noncomputable def AV.int? (x:AV):Option (Int):=@AV.casesOn (fun _=>Option (Int)) x Option.none (fun _=>Option.none) (fun a=>some a) (fun _=>Option.none) (fun _=>Option.none) (fun _=>Option.none) (fun _=>Option.none) (fun _=>Option.none) (fun _ _=>Option.none) (fun _ _=>Option.none) (fun _ _=>Option.none) (fun _=>Option.none) (fun _=>Option.none) (fun _=>Option.none) (fun _ _=>Option.none) (fun _=>Option.none)
theorem AV.int?_inv {x:AV} {a:Int}:x.int?=some a→x=.int a:=@AV.casesOn (fun x=>x.int?=some a→x=.int a) x nn (fun _=>nn) (fun _ e=>congrArg AV.int (Option.some.inj e)) (fun _=>nn) (fun _=>nn) (fun _=>nn) (fun _=>nn) (fun _=>nn) (fun _ _=>nn) (fun _ _=>nn) (fun _ _=>nn) (fun _=>nn) (fun _=>nn) (fun _=>nn) (fun _ _=>nn) (fun _=>nn)
noncomputable def AV.flt? (x:AV):Option (UInt64):=@AV.casesOn (fun _=>Option (UInt64)) x Option.none (fun _=>Option.none) (fun _=>Option.none) (fun a=>some a) (fun _=>Option.none) (fun _=>Option.none) (fun _=>Option.none) (fun _=>Option.none) (fun _ _=>Option.none) (fun _ _=>Option.none) (fun _ _=>Option.none) (fun _=>Option.none) (fun _=>Option.none) (fun _=>Option.none) (fun _ _=>Option.none) (fun _=>Option.none)
theorem AV.flt?_inv {x:AV} {a:UInt64}:x.flt?=some a→x=.flt a:=@AV.casesOn (fun x=>x.flt?=some a→x=.flt a) x nn (fun _=>nn) (fun _=>nn) (fun _ e=>congrArg AV.flt (Option.some.inj e)) (fun _=>nn) (fun _=>nn) (fun _=>nn) (fun _=>nn) (fun _ _=>nn) (fun _ _=>nn) (fun _ _=>nn) (fun _=>nn) (fun _=>nn) (fun _=>nn) (fun _ _=>nn) (fun _=>nn)
noncomputable def AV.str? (x:AV):Option (Str):=@AV.casesOn (fun _=>Option (Str)) x Option.none (fun _=>Option.none) (fun _=>Option.none) (fun _=>Option.none) (fun a=>some a) (fun _=>Option.none) (fun _=>Option.none) (fun _=>Option.none) (fun _ _=>Option.none) (fun _ _=>Option.none) (fun _ _=>Option.none) (fun _=>Option.none) (fun _=>Option.none) (fun _=>Option.none) (fun _ _=>Option.none) (fun _=>Option.none)
theorem AV.str?_inv {x:AV} {a:Str}:x.str?=some a→x=.str a:=@AV.casesOn (fun x=>x.str?=some a→x=.str a) x nn (fun _=>nn) (fun _=>nn) (fun _=>nn) (fun _ e=>congrArg AV.str (Option.some.inj e)) (fun _=>nn) (fun _=>nn) (fun _=>nn) (fun _ _=>nn) (fun _ _=>nn) (fun _ _=>nn) (fun _=>nn) (fun _=>nn) (fun _=>nn) (fun _ _=>nn) (fun _=>nn)
noncomputable def AV.list? (x:AV):Option (List AV):=@AV.casesOn (fun _=>Option (List AV)) x Option.none (fun _=>Option.none) (fun _=>Option.none) (fun _=>Option.none) (fun _=>Option.none) (fun _=>Option.none) (fun _=>Option.none) (fun a=>some a) (fun _ _=>Option.none) (fun _ _=>Option.none) (fun _ _=>Option.none) (fun _=>Option.none) (fun _=>Option.none) (fun _=>Option.none) (fun _ _=>Option.none) (fun _=>Option.none)
theorem AV.list?_inv {x:AV} {a:List AV}:x.list?=some a→x=.list a:=@AV.casesOn (fun x=>x.list?=some a→x=.list a) x nn (fun _=>nn) (fun _=>nn) (fun _=>nn) (fun _=>nn) (fun _=>nn) (fun _=>nn) (fun _ e=>congrArg AV.list (Option.some.inj e)) (fun _ _=>nn) (fun _ _=>nn) (fun _ _=>nn) (fun _=>nn) (fun _=>nn) (fun _=>nn) (fun _ _=>nn) (fun _=>nn)
noncomputable def AV.tup? (x:AV):Option (List AV):=@AV.casesOn (fun _=>Option (List AV)) x Option.none (fun _=>Option.none) (fun _=>Option.none) (fun _=>Option.none) (fun _=>Option.none) (fun _=>Option.none) (fun a=>some a) (fun _=>Option.none) (fun _ _=>Option.none) (fun _ _=>Option.none) (fun _ _=>Option.none) (fun _=>Option.none) (fun _=>Option.none) (fun _=>Option.none) (fun _ _=>Option.none) (fun _=>Option.none)
theorem AV.tup?_inv {x:AV} {a:List AV}:x.tup?=some a→x=.tup a:=@AV.casesOn (fun x=>x.tup?=some a→x=.tup a) x nn (fun _=>nn) (fun _=>nn) (fun _=>nn) (fun _=>nn) (fun _=>nn) (fun _ e=>congrArg AV.tup (Option.some.inj e)) (fun _=>nn) (fun _ _=>nn) (fun _ _=>nn) (fun _ _=>nn) (fun _=>nn) (fun _=>nn) (fun _=>nn) (fun _ _=>nn) (fun _=>nn)
noncomputable def AV.bytes? (x:AV):Option (List UInt8):=@AV.casesOn (fun _=>Option (List UInt8)) x Option.none (fun _=>Option.none) (fun _=>Option.none) (fun _=>Option.none) (fun _=>Option.none) (fun a=>some a) (fun _=>Option.none) (fun _=>Option.none) (fun _ _=>Option.none) (fun _ _=>Option.none) (fun _ _=>Option.none) (fun _=>Option.none) (fun _=>Option.none) (fun _=>Option.none) (fun _ _=>Option.none) (fun _=>Option.none)
theorem AV.bytes?_inv {x:AV} {a:List UInt8}:x.bytes?=some a→x=.bytes a:=@AV.casesOn (fun x=>x.bytes?=some a→x=.bytes a) x nn (fun _=>nn) (fun _=>nn) (fun _=>nn) (fun _=>nn) (fun _ e=>congrArg AV.bytes (Option.some.inj e)) (fun _=>nn) (fun _=>nn) (fun _ _=>nn) (fun _ _=>nn) (fun _ _=>nn) (fun _=>nn) (fun _=>nn) (fun _=>nn) (fun _ _=>nn) (fun _=>nn)
noncomputable def AV.dI? (x:AV):Option (List Int × List AV):=@AV.casesOn (fun _=>Option (List Int × List AV)) x Option.none (fun _=>Option.none) (fun _=>Option.none) (fun _=>Option.none) (fun _=>Option.none) (fun _=>Option.none) (fun _=>Option.none) (fun _=>Option.none) (fun a b=>some (a,b)) (fun _ _=>Option.none) (fun _ _=>Option.none) (fun _=>Option.none) (fun _=>Option.none) (fun _=>Option.none) (fun _ _=>Option.none) (fun _=>Option.none)
theorem AV.dI?_inv {x:AV} {a:List Int × List AV}:x.dI?=some a→x=.dictI a.1 a.2:=@AV.casesOn (fun x=>x.dI?=some a→x=.dictI a.1 a.2) x nn (fun _=>nn) (fun _=>nn) (fun _=>nn) (fun _=>nn) (fun _=>nn) (fun _=>nn) (fun _=>nn) (fun _ _ e=>Option.some.inj e ▸ rfl) (fun _ _=>nn) (fun _ _=>nn) (fun _=>nn) (fun _=>nn) (fun _=>nn) (fun _ _=>nn) (fun _=>nn)
noncomputable def AV.dS? (x:AV):Option (List Str × List AV):=@AV.casesOn (fun _=>Option (List Str × List AV)) x Option.none (fun _=>Option.none) (fun _=>Option.none) (fun _=>Option.none) (fun _=>Option.none) (fun _=>Option.none) (fun _=>Option.none) (fun _=>Option.none) (fun _ _=>Option.none) (fun a b=>some (a,b)) (fun _ _=>Option.none) (fun _=>Option.none) (fun _=>Option.none) (fun _=>Option.none) (fun _ _=>Option.none) (fun _=>Option.none)
theorem AV.dS?_inv {x:AV} {a:List Str × List AV}:x.dS?=some a→x=.dictS a.1 a.2:=@AV.casesOn (fun x=>x.dS?=some a→x=.dictS a.1 a.2) x nn (fun _=>nn) (fun _=>nn) (fun _=>nn) (fun _=>nn) (fun _=>nn) (fun _=>nn) (fun _=>nn) (fun _ _=>nn) (fun _ _ e=>Option.some.inj e ▸ rfl) (fun _ _=>nn) (fun _=>nn) (fun _=>nn) (fun _=>nn) (fun _ _=>nn) (fun _=>nn)
noncomputable def AV.rng? (x:AV):Option (Int × Int):=@AV.casesOn (fun _=>Option (Int × Int)) x Option.none (fun _=>Option.none) (fun _=>Option.none) (fun _=>Option.none) (fun _=>Option.none) (fun _=>Option.none) (fun _=>Option.none) (fun _=>Option.none) (fun _ _=>Option.none) (fun _ _=>Option.none) (fun a b=>some (a,b)) (fun _=>Option.none) (fun _=>Option.none) (fun _=>Option.none) (fun _ _=>Option.none) (fun _=>Option.none)
theorem AV.rng?_inv {x:AV} {a:Int × Int}:x.rng?=some a→x=.range a.1 a.2:=@AV.casesOn (fun x=>x.rng?=some a→x=.range a.1 a.2) x nn (fun _=>nn) (fun _=>nn) (fun _=>nn) (fun _=>nn) (fun _=>nn) (fun _=>nn) (fun _=>nn) (fun _ _=>nn) (fun _ _=>nn) (fun _ _ e=>Option.some.inj e ▸ rfl) (fun _=>nn) (fun _=>nn) (fun _=>nn) (fun _ _=>nn) (fun _=>nn)
noncomputable def AV.items? (x:AV):Option (AV):=@AV.casesOn (fun _=>Option (AV)) x Option.none (fun _=>Option.none) (fun _=>Option.none) (fun _=>Option.none) (fun _=>Option.none) (fun _=>Option.none) (fun _=>Option.none) (fun _=>Option.none) (fun _ _=>Option.none) (fun _ _=>Option.none) (fun _ _=>Option.none) (fun a=>some a) (fun _=>Option.none) (fun _=>Option.none) (fun _ _=>Option.none) (fun _=>Option.none)
theorem AV.items?_inv {x:AV} {a:AV}:x.items?=some a→x=.items a:=@AV.casesOn (fun x=>x.items?=some a→x=.items a) x nn (fun _=>nn) (fun _=>nn) (fun _=>nn) (fun _=>nn) (fun _=>nn) (fun _=>nn) (fun _=>nn) (fun _ _=>nn) (fun _ _=>nn) (fun _ _=>nn) (fun _ e=>congrArg AV.items (Option.some.inj e)) (fun _=>nn) (fun _=>nn) (fun _ _=>nn) (fun _=>nn)
noncomputable def AV.vals? (x:AV):Option (AV):=@AV.casesOn (fun _=>Option (AV)) x Option.none (fun _=>Option.none) (fun _=>Option.none) (fun _=>Option.none) (fun _=>Option.none) (fun _=>Option.none) (fun _=>Option.none) (fun _=>Option.none) (fun _ _=>Option.none) (fun _ _=>Option.none) (fun _ _=>Option.none) (fun _=>Option.none) (fun a=>some a) (fun _=>Option.none) (fun _ _=>Option.none) (fun _=>Option.none)
theorem AV.vals?_inv {x:AV} {a:AV}:x.vals?=some a→x=.vals a:=@AV.casesOn (fun x=>x.vals?=some a→x=.vals a) x nn (fun _=>nn) (fun _=>nn) (fun _=>nn) (fun _=>nn) (fun _=>nn) (fun _=>nn) (fun _=>nn) (fun _ _=>nn) (fun _ _=>nn) (fun _ _=>nn) (fun _=>nn) (fun _ e=>congrArg AV.vals (Option.some.inj e)) (fun _=>nn) (fun _ _=>nn) (fun _=>nn)
noncomputable def AV.inst? (x:AV):Option (List AV):=@AV.casesOn (fun _=>Option (List AV)) x Option.none (fun _=>Option.none) (fun _=>Option.none) (fun _=>Option.none) (fun _=>Option.none) (fun _=>Option.none) (fun _=>Option.none) (fun _=>Option.none) (fun _ _=>Option.none) (fun _ _=>Option.none) (fun _ _=>Option.none) (fun _=>Option.none) (fun _=>Option.none) (fun a=>some a) (fun _ _=>Option.none) (fun _=>Option.none)
theorem AV.inst?_inv {x:AV} {a:List AV}:x.inst?=some a→x=.inst a:=@AV.casesOn (fun x=>x.inst?=some a→x=.inst a) x nn (fun _=>nn) (fun _=>nn) (fun _=>nn) (fun _=>nn) (fun _=>nn) (fun _=>nn) (fun _=>nn) (fun _ _=>nn) (fun _ _=>nn) (fun _ _=>nn) (fun _=>nn) (fun _=>nn) (fun _ e=>congrArg AV.inst (Option.some.inj e)) (fun _ _=>nn) (fun _=>nn)
noncomputable def AV.biter? (x:AV):Option (List UInt8 × Nat):=@AV.casesOn (fun _=>Option (List UInt8 × Nat)) x Option.none (fun _=>Option.none) (fun _=>Option.none) (fun _=>Option.none) (fun _=>Option.none) (fun _=>Option.none) (fun _=>Option.none) (fun _=>Option.none) (fun _ _=>Option.none) (fun _ _=>Option.none) (fun _ _=>Option.none) (fun _=>Option.none) (fun _=>Option.none) (fun _=>Option.none) (fun a b=>some (a,b)) (fun _=>Option.none)
theorem AV.biter?_inv {x:AV} {a:List UInt8 × Nat}:x.biter?=some a→x=.biter a.1 a.2:=@AV.casesOn (fun x=>x.biter?=some a→x=.biter a.1 a.2) x nn (fun _=>nn) (fun _=>nn) (fun _=>nn) (fun _=>nn) (fun _=>nn) (fun _=>nn) (fun _=>nn) (fun _ _=>nn) (fun _ _=>nn) (fun _ _=>nn) (fun _=>nn) (fun _=>nn) (fun _=>nn) (fun _ _ e=>Option.some.inj e ▸ rfl) (fun _=>nn)
noncomputable def AV.arg? (x:AV):Option (List AV):=@AV.casesOn (fun _=>Option (List AV)) x Option.none (fun _=>Option.none) (fun _=>Option.none) (fun _=>Option.none) (fun _=>Option.none) (fun _=>Option.none) (fun _=>Option.none) (fun _=>Option.none) (fun _ _=>Option.none) (fun _ _=>Option.none) (fun _ _=>Option.none) (fun _=>Option.none) (fun _=>Option.none) (fun _=>Option.none) (fun _ _=>Option.none) (fun a=>some a)
theorem AV.arg?_inv {x:AV} {a:List AV}:x.arg?=some a→x=.arg a:=@AV.casesOn (fun x=>x.arg?=some a→x=.arg a) x nn (fun _=>nn) (fun _=>nn) (fun _=>nn) (fun _=>nn) (fun _=>nn) (fun _=>nn) (fun _=>nn) (fun _ _=>nn) (fun _ _=>nn) (fun _ _=>nn) (fun _=>nn) (fun _=>nn) (fun _=>nn) (fun _ _=>nn) (fun _ e=>congrArg AV.arg (Option.some.inj e))
noncomputable def AV.bool? (x:AV):Option (Bool):=@AV.casesOn (fun _=>Option (Bool)) x Option.none (fun a=>some a) (fun _=>Option.none) (fun _=>Option.none) (fun _=>Option.none) (fun _=>Option.none) (fun _=>Option.none) (fun _=>Option.none) (fun _ _=>Option.none) (fun _ _=>Option.none) (fun _ _=>Option.none) (fun _=>Option.none) (fun _=>Option.none) (fun _=>Option.none) (fun _ _=>Option.none) (fun _=>Option.none)
theorem AV.bool?_inv {x:AV} {a:Bool}:x.bool?=some a→x=.bool a:=@AV.casesOn (fun x=>x.bool?=some a→x=.bool a) x nn (fun _ e=>congrArg AV.bool (Option.some.inj e)) (fun _=>nn) (fun _=>nn) (fun _=>nn) (fun _=>nn) (fun _=>nn) (fun _=>nn) (fun _ _=>nn) (fun _ _=>nn) (fun _ _=>nn) (fun _=>nn) (fun _=>nn) (fun _=>nn) (fun _ _=>nn) (fun _=>nn)
theorem ob_inv {α β:Type} {o:Option α} {f:α→Option β} {b:β} (e:o.bind f=some b):∃ a,o=some a∧f a=some b:=by
  cases o with
  | none=>exact nn e
  | some a=>exact ⟨a,rfl,e⟩
theorem om_inv {α β:Type} {o:Option α} {f:α→β} {b:β} (e:o.map f=some b):∃ a,o=some a∧f a=b:=by
  cases o with
  | none=>exact nn e
  | some a=>exact ⟨a,rfl,Option.some.inj e⟩
theorem or_inv {α:Type} {o o':Option α} {b:α} (e:o.or o'=some b):o=some b∨o'=some b:=by
  cases o with
  | none=>exact .inr e
  | some a=>exact .inl e
noncomputable def grd {α:Type} (b:Bool) (a:α):Option α:=if b then some a else Option.none
theorem grd_inv {α:Type} {b:Bool} {a z:α} (e:grd b a=some z):b=true∧a=z:=by
  cases b with
  | false=>exact nn e
  | true=>exact ⟨rfl,Option.some.inj e⟩
theorem grd_pos {α:Type} {b:Bool} {a:α} (e:b=true):grd b a=some a:=by subst e; rfl
noncomputable def MV.val? (m:MV):Option AV:=@MV.casesOn (fun _=>Option AV) m (fun v=>some v) (fun _=>Option.none) Option.none
theorem MV.val?_inv {m:MV} {v:AV}:m.val?=some v→m=.val v:=@MV.casesOn (fun m=>m.val?=some v→m=.val v) m (fun _ e=>congrArg MV.val (Option.some.inj e)) (fun _=>nn) nn
noncomputable def MV.mu? (m:MV):Option Nat:=@MV.casesOn (fun _=>Option Nat) m (fun _=>Option.none) (fun i=>some i) Option.none
theorem MV.mu?_inv {m:MV} {i:Nat}:m.mu?=some i→m=.mu i:=@MV.casesOn (fun m=>m.mu?=some i→m=.mu i) m (fun _=>nn) (fun _ e=>congrArg MV.mu (Option.some.inj e)) nn
theorem Res.no_ok {α:Type} {a:α} {σ:List AV} {p:Prop} (e:(Res.no:Res α)=.ok a σ):p:=nomatch e
theorem Res.stop_ok {α:Type} {a:α} {σ σ':List AV} {p:Prop} (e:(Res.stop σ':Res α)=.ok a σ):p:=nomatch e
theorem Res.ok_inv {α:Type} {a b:α} {σ σ':List AV} (e:Res.ok a σ=.ok b σ'):a=b∧σ=σ':=Res.ok.inj e
theorem Res.bind_inv {α β:Type} {r:Res α} {f:α→List AV→Res β} {b:β} {σ:List AV} (e:r.bind f=.ok b σ):∃ a σ1,r=.ok a σ1∧f a σ1=.ok b σ:=by
  cases r with
  | ok a σ1=>exact ⟨a,σ1,rfl,e⟩
  | stop _=>exact Res.stop_ok e
  | no=>exact Res.no_ok e
noncomputable def Res.on {α β:Type} (o:Option α) (f:α→Res β):Res β:=o.elim .no f
theorem Res.on_inv {α β:Type} {o:Option α} {f:α→Res β} {b:β} {σ:List AV} (e:Res.on o f=.ok b σ):∃ a,o=some a∧f a=.ok b σ:=by
  cases o with
  | none=>exact Res.no_ok e
  | some a=>exact ⟨a,rfl,e⟩
@[simp] theorem Res.on_some {α β:Type} (a:α) (f:α→Res β):Res.on (some a) f=f a:=rfl
@[simp] theorem Res.on_none {α β:Type} (f:α→Res β):Res.on Option.none f=.no:=rfl
theorem Res.of_inv {α:Type} {σ σ':List AV} {o:Option α} {y:α} (e:Res.of σ o=.ok y σ'):o=some y∧σ'=σ:=by
  cases o with
  | none=>exact Res.no_ok e
  | some a=>exact ⟨congrArg some (Res.ok_inv e).1,(Res.ok_inv e).2.symm⟩
theorem obC {α β:Type} {o:Option α} {f:α→Option β} {b:β} {P:Prop} (e:o.bind f=some b) (k:∀ a,o=some a→f a=some b→P):P:=(ob_inv e).elim fun a h=>k a h.1 h.2
theorem omC {α β:Type} {o:Option α} {f:α→β} {b:β} {P:Prop} (e:o.map f=some b) (k:∀ a,o=some a→f a=b→P):P:=(om_inv e).elim fun a h=>k a h.1 h.2
theorem orC {α:Type} {o o':Option α} {b:α} {P:Prop} (e:o.or o'=some b) (k:o=some b→P) (k':o'=some b→P):P:=(or_inv e).elim k k'
theorem grdC {α:Type} {b:Bool} {a z:α} {P:α→Prop} (e:grd b a=some z) (k:b=true→P a):P z:=(grd_inv e).2 ▸ k (grd_inv e).1
theorem somC {α:Type} {a z:α} {P:α→Prop} (e:some a=some z) (k:P a):P z:=Option.some.inj e ▸ k
theorem iteC {α:Type} {c:Bool} {a:Option α} {z:α} {P:Prop} (e:(if c=true then a else Option.none)=some z) (k:c=true→a=some z→P):P:=by
  cases c with
  | false=>exact nn e
  | true=>exact k rfl e
theorem itepC {α:Type} {c:Prop} [Decidable c] {a:Option α} {z:α} {P:Prop} (e:(if c then a else Option.none)=some z) (k:c→a=some z→P):P:=(Decidable.em c).elim (fun h=>k h ((if_pos h).symm.trans e)) fun h=>nn ((if_neg h).symm.trans e)
theorem Res.bindC {α β:Type} {r:Res α} {f:α→List AV→Res β} {b:β} {σ:List AV} {P:Prop} (e:r.bind f=.ok b σ) (k:∀ a σ1,r=.ok a σ1→f a σ1=.ok b σ→P):P:=(Res.bind_inv e).elim fun a h=>h.elim fun σ1 h=>k a σ1 h.1 h.2
theorem Res.onC {α β:Type} {o:Option α} {f:α→Res β} {b:β} {σ:List AV} {P:Prop} (e:Res.on o f=.ok b σ) (k:∀ a,o=some a→f a=.ok b σ→P):P:=(Res.on_inv e).elim fun a h=>k a h.1 h.2
theorem Res.bvalC {β:Type} {r:Res MV} {f:AV→List AV→Res β} {b:β} {σ:List AV} {P:Prop} (e:(r.bind fun m σ=>Res.on m.val? fun v=>f v σ)=.ok b σ) (k:∀ v σ1,r=.ok (.val v) σ1→f v σ1=.ok b σ→P):P:=Res.bindC e fun m σ1 h e=>Res.onC e fun v hv e=>k v σ1 (MV.val?_inv hv ▸ h) e
theorem Res.ofC {α:Type} {σ σ':List AV} {o:Option α} {y:α} {P:List AV→Prop} (e:Res.of σ o=.ok y σ') (k:o=some y→P σ):P σ':=(Res.of_inv e).2 ▸ k (Res.of_inv e).1
theorem Res.iteC {β:Type} {c:Bool} {a:Res β} {b:β} {σ:List AV} {P:Prop} (e:(if c=true then a else .no)=.ok b σ) (k:c=true→a=.ok b σ→P):P:=by
  cases c with
  | false=>exact Res.no_ok e
  | true=>exact k rfl e
theorem Res.itepC {β:Type} {c:Prop} [Decidable c] {a:Res β} {b:β} {σ:List AV} {P:Prop} (e:(if c then a else .no)=.ok b σ) (k:c→a=.ok b σ→P):P:=(Decidable.em c).elim (fun h=>k h ((if_pos h).symm.trans e)) fun h=>Res.no_ok ((if_neg h).symm.trans e)
theorem Res.okC {α:Type} {a b:α} {σ σ':List AV} {P:α→List AV→Prop} (e:Res.ok a σ=.ok b σ') (k:P a σ):P b σ':=(Res.ok_inv e).1 ▸ (Res.ok_inv e).2 ▸ k
mutual
inductive BOp where
  | add | sub | mul | fdiv | mod | pow | tdiv | shl | band | bor | bxor
inductive COp where
  | lt | le | gt | eq | ne | isin | notin
inductive Fn where
  | addCallers | countCalls | rgbHls | hlsRgb | v | rgbHsv | hsvRgb | flags | words | list | tape | rank | best | firm | painted | tables | compare | mk
inductive P1 where
  | range | len | listOf | hex | intf | dictOf | bytesOf | sortedOf | items | values | iterb | attr | isTup
inductive P2 where
  | range | join | split | count | flagGet
inductive P3 where
  | max | min
end
noncomputable def augOk (o:BOp):Bool:=@BOp.casesOn (fun _=>Bool) o true false false false false false false true false true true
set_option genInjectivity false
mutual
inductive ME where
  | cst (c:AV)
  | var (i:Nat)
  | bin (o:BOp) (a b:ME)
  | neg (a:ME)
  | cmp (o:COp) (a b:ME)
  | ite (c:MT) (a b:ME)
  | list (es:MEs)
  | tup (es:MEs)
  | dict0 (s:Bool)
  | dict1 (k v:ME)
  | idx (a i:ME)
  | cut (a:ME) (n:Nat)
  | comp (elt it:ME) (c:MT)
  | call (f:Fn) (args:MEs)
  | p1 (p:P1) (a:ME)
  | view (p:P1) (a:ME)
  | p2 (p:P2) (a b:ME)
  | p3 (p:P3) (a b c:ME)
  | pop (i:Nat) (a:ME)
  | pvar (i:Nat)
  | next (i:Nat)
inductive MEs where
  | nil
  | cons (e:ME) (es:MEs)
inductive MT where
  | tt
  | cmp (o:COp) (a b:ME)
  | and (a b:MT)
  | or (a b:MT)
  | not (a:MT)
  | tru (e:ME)
end
mutual
inductive MS where
  | assign (i:Nat) (e:ME)
  | assignMut (i:Nat) (e:ME)
  | unpack (is:List Nat) (e:ME)
  | multi (is:List (Nat × Bool)) (es:MEs)
  | setitem (i:Nat) (k v:ME)
  | augitem (i:Nat) (k v:ME)
  | aug (o:BOp) (i:Nat) (e:ME)
  | append (i:Nat) (e:ME)
  | forr (is:List Nat) (it:ME) (body orelse:MSs)
  | forEnum (i j:Nat) (it:ME) (body:MSs)
  | while (t:MT) (body:MSs)
  | iff (t:MT) (b o:MSs)
  | ret (e:ME)
  | brk
  | try (b h:MSs)
  | dead
inductive MSs where
  | nil
  | cons (s:MS) (r:MSs)
end
structure Tab where
  fn:Fn→List AV→Option AV
  pv:List UInt8→Nat→Option (Option Int × Nat)
noncomputable def rd (σ:List AV):MV→Option AV
  | .val v=>some v
  | .mu i=>σ[i]?
  | .unset=>Option.none
noncomputable def small (n:Int):Bool:=decide (n.natAbs < 2 ^ 62)
noncomputable def fits (n:Nat):Bool:=decide (n≤1000000)
noncomputable def upTo (a b:Int):List AV:=(List.range (b - a).toNat).map fun (i:Nat)=>AV.int (a+i)
noncomputable def elems (x:AV):Option (List AV) :=
  x.list?.or <| x.tup?.or <| (x.rng?.bind fun p=>grd (small p.1 && small p.2) (upTo p.1 p.2)).or <| (x.dI?.bind fun p=>some (p.1.map .int)).or <|
  (x.items?.bind fun d=>d.dS?.bind fun p=>some ((p.1.zip p.2).map fun q=>.tup [.str q.1,q.2])).or <| x.vals?.bind fun d=>d.dS?.bind fun p=>some p.2
noncomputable def elemsC (x:AV):Option (List AV):=if x.items?.isSome then Option.none else elems x
noncomputable def elemsF (is:List Nat) (x:AV):Option (List AV):=if x.items?.isSome && !(is.length == 2) then Option.none else elems x
noncomputable def avEqs (f:AV→AV→Option Bool):List AV→List AV→Option Bool
  | [],ys=>some ys.isEmpty
  | x::xs,ys=>@List.casesOn AV (fun _=>Option Bool) ys (some false) fun y ys=>(f x y).bind fun b=>(avEqs f xs ys).bind fun c=>some (b && c)
theorem avEqs_cons {f:AV→AV→Option Bool} {x y:AV} {xs ys:List AV}:avEqs f (x::xs) (y::ys)=(f x y).bind fun b=>(avEqs f xs ys).bind fun c=>some (b && c):=rfl
noncomputable def avEq0 (x y:AV):Option Bool:=(x.int?.bind fun a=>y.int?.bind fun b=>some (a == b)).or (x.str?.bind fun a=>y.str?.bind fun b=>some (a == b))
noncomputable def avEqN:Nat→AV→AV→Option Bool
  | 0,x,y=>avEq0 x y
  | n+1,x,y=>(avEq0 x y).or <| (x.list?.bind fun xs=>y.list?.bind fun ys=>if xs.length=ys.length then avEqs (avEqN n) xs ys else some false).or <| x.tup?.bind fun xs=>y.tup?.bind fun ys=>if xs.length=ys.length then avEqs (avEqN n) xs ys else Option.none
noncomputable def avEq:AV→AV→Option Bool:=avEqN 6
noncomputable def repeated (n:Int) (xs:List AV):List AV:=(List.replicate n.toNat xs).flatten
noncomputable def onII (x y:AV) (f:Int→Int→Option AV):Option AV:=x.int?.bind fun a=>y.int?.bind fun b=>f a b
noncomputable def onFF (x y:AV) (f:UInt64→UInt64→Option AV):Option AV:=x.flt?.bind fun a=>y.flt?.bind fun b=>f a b
noncomputable def onFI (x y:AV) (f:UInt64→Int→Option AV):Option AV:=x.flt?.bind fun a=>y.int?.bind fun b=>f a b
noncomputable def onIF (x y:AV) (f:Int→UInt64→Option AV):Option AV:=x.int?.bind fun a=>y.flt?.bind fun b=>f a b
noncomputable def onLI (x y:AV) (f:List AV→Int→Option AV):Option AV:=x.list?.bind fun a=>y.int?.bind fun b=>f a b
noncomputable def onSI (x y:AV) (f:Str→Int→Option AV):Option AV:=x.str?.bind fun a=>y.int?.bind fun b=>f a b
noncomputable def addV (x y:AV):Option AV :=
  (onII x y fun a b=>some (.int (a+b))).or <| (onFF x y fun a b=>some (.flt (Float64.add a b))).or <| (onFI x y fun a b=>grd (!Float64.isInf (Float64.ofInt b)) (.flt (Float64.add a (Float64.ofInt b)))).or <|
  (x.str?.bind fun a=>y.str?.bind fun b=>grd (fits (a++b).length) (.str (a++b))).or <| x.list?.bind fun a=>y.list?.bind fun b=>grd (fits (a++b).length) (.list (a++b))
noncomputable def subV (x y:AV):Option AV :=
  (onII x y fun a b=>some (.int (a - b))).or <| (onFF x y fun a b=>some (.flt (Float64.sub a b))).or <| onFI x y fun a b=>grd (!Float64.isInf (Float64.ofInt b)) (.flt (Float64.sub a (Float64.ofInt b)))
noncomputable def mulV (x y:AV):Option AV :=
  (onII x y fun a b=>grd (small b) (.int (a * b))).or <| (onFF x y fun a b=>some (.flt (Float64.mul a b))).or <| (onIF x y fun a b=>grd (!Float64.isInf (Float64.ofInt a)) (.flt (Float64.mul (Float64.ofInt a) b))).or <|
  (onLI x y fun xs n=>grd (fits n.natAbs && fits (n.natAbs * xs.length)) (.list (repeated n xs))).or <| onSI x y fun x n=>grd (fits n.natAbs && x.length == 1) (.str ⟨(List.replicate n.toNat (x.cps.toList.headD 0)).toArray⟩)
noncomputable def modV (x y:AV):Option AV:=(onII x y fun a b=>grd (!decide (b=0)) (.int (a.fmod b))).or <| onFF x y fun a b=>grd (!Float64.isZero b) (.flt (Float64.divmod a b).2)
noncomputable def quoF (a b:Int):UInt64:=Float64.ofFrac (decide (a < 0) != decide (b < 0)) a.natAbs b.natAbs
noncomputable def tdivV (x y:AV):Option AV:=(onII x y fun a b=>grd (!decide (b=0) && !Float64.isInf (quoF a b)) (.flt (quoF a b))).or <| onFF x y fun a b=>grd (!Float64.isZero b) (.flt (Float64.div a b))
noncomputable def binV (o:BOp) (x y:AV):Option AV:=@BOp.casesOn (fun _=>Option AV) o (addV x y) (subV x y) (mulV x y) (onII x y fun a b=>grd (!decide (b=0) && small b) (.int (a.fdiv b))) (modV x y)
  (onII x y fun a b=>grd (decide (0≤b) && decide (b≤1000) && small a) (.int (a ^ b.toNat))) (tdivV x y) (onII x y fun a b=>grd (decide (0≤b) && decide (b≤1000) && small a) (.int (a * 2 ^ b.toNat)))
  (onII x y fun a b=>some (.int (Builtin.bitAnd a b))) (onII x y fun a b=>some (.int (Builtin.bitOr a b))) (onII x y fun a b=>some (.int (Builtin.bitXor a b)))
noncomputable def intsOf:List AV→Option (List Int)
  | []=>some []
  | x::xs=>x.int?.bind fun i=>(intsOf xs).map (i::·)
noncomputable def strsOf:List AV→Option (List Str)
  | []=>some []
  | x::xs=>x.str?.bind fun i=>(strsOf xs).map (i::·)
noncomputable def twoD (x:AV):Option ((List Str × List AV) × List Str × List AV):=x.tup?.bind fun l=>(l[0]?).bind fun a=>(l[1]?).bind fun b=>a.dS?.bind fun p=>b.dS?.bind fun q=>if l.length=2 then some (p,q) else Option.none
noncomputable def neV (x y:AV):Option Bool:=(avEq x y).map (!·)
noncomputable def neD (x y:AV):Option Bool:=(twoD x).bind fun p=>(twoD y).bind fun q =>
  if p.1.1=q.1.1∧p.2.1=q.2.1∧p.1.2.length=q.1.2.length∧p.2.2.length=q.2.2.length∧avEqs (avEqN 0) p.1.2 q.1.2=some true∧avEqs (avEqN 0) p.2.2 q.2.2=some true then some false else Option.none
noncomputable def cII (x y:AV) (f:Int→Int→Bool):Option Bool:=x.int?.bind fun a=>y.int?.bind fun b=>some (f a b)
noncomputable def cFF (x y:AV) (f:UInt64→UInt64→Bool):Option Bool:=x.flt?.bind fun a=>y.flt?.bind fun b=>some (f a b)
noncomputable def isinV (x y:AV):Option Bool:=(x.int?.bind fun a=>y.list?.bind fun l=>(intsOf l).map (·.contains a)).or <| (x.str?.bind fun a=>y.list?.bind fun l=>(strsOf l).map (·.contains a)).or <| x.str?.bind fun a=>y.dS?.bind fun d=>some (d.1.contains a)
noncomputable def notinV (x y:AV):Option Bool:=(x.int?.bind fun a=>y.list?.bind fun l=>(intsOf l).map (!·.contains a)).or <| x.int?.bind fun a=>y.dI?.bind fun d=>some (!d.1.contains a)
noncomputable def cmpV (o:COp) (x y:AV):Option Bool:=@COp.casesOn (fun _=>Option Bool) o
  ((cII x y fun a b=>decide (a < b)).or (cFF x y fun a b=>Float64.cmp a b == some .lt)) (cFF x y fun a b=>Float64.cmp a b == some .lt || Float64.cmp a b == some .eq) (cII x y fun a b=>decide (a > b))
  ((cFF x y fun a b=>Float64.cmp a b == some .eq).or (avEq x y)) ((neD x y).or (neV x y)) (isinV x y) (notinV x y)
noncomputable def place (n:Nat) (i:Int):Option Nat:=if 0≤i then (if i.toNat < n then some i.toNat else Option.none) else Option.none
noncomputable def keyAt {K:Type} [DecidableEq K]:List K→List AV→K→Option AV
  | [],_,_=>Option.none
  | k'::ks,vs,k=>@List.casesOn AV (fun _=>Option AV) vs Option.none fun v vs=>if k'=k then some v else keyAt ks vs k
noncomputable def idxV (x i:AV):Option AV :=
  (x.list?.bind fun xs=>i.int?.bind fun i=>if fits xs.length then (place xs.length i).bind fun n=>xs[n]? else Option.none).or <|
  (x.tup?.bind fun xs=>i.int?.bind fun i=>if fits xs.length then (place xs.length i).bind fun n=>xs[n]? else Option.none).or <|
  (x.str?.bind fun s=>i.int?.bind fun i=>if fits s.length then (place s.length i).bind fun n=>(s.cps[n]?).map fun c=>.str ⟨#[c]⟩ else Option.none).or <|
  (x.dI?.bind fun d=>i.int?.bind fun k=>keyAt d.1 d.2 k).or <| x.dS?.bind fun d=>i.str?.bind fun k=>keyAt d.1 d.2 k
noncomputable def putKey {K:Type} [DecidableEq K] (k:K) (v:AV):List K→List AV→List K × List AV
  | [],_=>([k],[v])
  | k'::ks,vs=>@List.casesOn AV (fun _=>List K × List AV) vs ([k],[v]) fun v' vs=>if k'=k then (k'::ks,v::vs) else (k'::(putKey k v ks vs).1,v'::(putKey k v ks vs).2)
theorem putKey_cons {K:Type} [DecidableEq K] {k a:K} {v b:AV} {ks:List K} {vs:List AV}:putKey k v (a::ks) (b::vs)=if a=k then (a::ks,v::vs) else (a::(putKey k v ks vs).1,b::(putKey k v ks vs).2):=rfl
noncomputable def setV (x i v:AV):Option AV :=
  (x.list?.bind fun xs=>i.int?.bind fun i=>if fits xs.length then (place xs.length i).map fun n=>.list (xs.set n v) else Option.none).or <|
  (x.dI?.bind fun d=>i.int?.bind fun k=>grd (fits d.1.length) (.dictI (putKey k v d.1 d.2).1 (putKey k v d.1 d.2).2)).or <|
  x.dS?.bind fun d=>i.str?.bind fun k=>grd (fits d.1.length) (.dictS (putKey k v d.1 d.2).1 (putKey k v d.1 d.2).2)
noncomputable def listV (x:AV):Option AV :=
  (x.rng?.bind fun p=>grd (small p.1 && small p.2 && fits (p.2 - p.1).toNat) (.list (upTo p.1 p.2))).or <| (x.vals?.bind fun d=>d.dI?.bind fun p=>grd (fits p.2.length) (.list p.2)).or <|
  x.items?.bind fun d=>d.dS?.bind fun p=>grd (fits p.2.length) (.list ((p.1.zip p.2).map fun q=>.tup [.str q.1,q.2]))
noncomputable def intF (x:UInt64):Option AV:=match Float64.decode x with
  | .fin sg m e=>some (.int (Float64.truncOf sg m e))
  | _=>Option.none
noncomputable def p1V (p:P1) (x:AV):Option AV:=@P1.casesOn (fun _=>Option AV) p
  (x.int?.bind fun b=>grd (small b) (.range 0 b)) (x.list?.bind fun xs=>grd (fits xs.length) (.int xs.length)) (listV x) (x.int?.bind fun i=>grd (small i) (.str (baseText "0x" 16 i))) (x.flt?.bind intF)
  (x.dS?.bind fun p=>grd (fits p.2.length) (.dictS p.1 p.2)) (x.list?.bind fun xs=>(intsOf xs).bind fun ns=>grd (fits ns.length && ns.all (fun n=>decide (0≤n) && decide (n < 256))) (.bytes (ns.map fun n=>n.toNat.toUInt8)))
  (x.vals?.bind fun d=>d.dS?.bind fun p=>(intsOf p.2).bind fun ns=>grd (ns.length < 64 && decide (2≤ns.length)) (.list ((W.sortI ns).map .int)))
  (x.dS?.bind fun p=>some (.items (.dictS p.1 p.2))) ((x.dS?.bind fun p=>some (.vals (.dictS p.1 p.2))).or <| x.dI?.bind fun p=>some (.vals (.dictI p.1 p.2)))
  (x.bytes?.bind fun b=>some (.biter b 0)) (x.inst?.bind fun xs=>some (.list xs)) (x.int?.bind fun _=>some (.bool false))
noncomputable def flagKvs:List (Int × String):=[(1,"OPTIMIZED"),(2,"NEWLOCALS"),(4,"VARARGS"),(8,"VARKEYWORDS"),(16,"NESTED"),(32,"GENERATOR"),(64,"NOFREE"),(128,"COROUTINE"),(256,"ITERABLE_COROUTINE"),(512,"ASYNC_GENERATOR")]
noncomputable def flagText (k:Int):Option String:=flagKvs.lookup k
noncomputable def splitOk (x y:Str):Bool:=fits x.length && !(decide (x.length < y.length) || decide (Builtin.Str.strKind x < Builtin.Str.strKind y)) && !(y.length == 0) && !(Builtin.Str.occurrences x y 0 x.length (x.length+1)).isEmpty &&
      fits (Builtin.Str.partsBetween x (Builtin.Str.occurrences x y 0 x.length (x.length+1)) y.length).length
noncomputable def p2V (p:P2) (x y:AV):Option AV:=@P2.casesOn (fun _=>Option AV) p
  (onII x y fun a b=>grd (small a && small b) (.range a b)) (x.str?.bind fun s=>y.list?.bind fun xs=>(strsOf xs).bind fun ss=>grd (fits (ss.foldl (fun n x=>n+x.length+s.length) 0)) (.str (Builtin.Str.glued s ss)))
  (x.str?.bind fun x=>y.str?.bind fun y=>grd (splitOk x y) (.list ((Builtin.Str.partsBetween x (Builtin.Str.occurrences x y 0 x.length (x.length+1)) y.length).map .str)))
  (x.list?.bind fun xs=>y.str?.bind fun s=>(strsOf xs).bind fun ss=>grd (fits ss.length) (.int (ss.countP (· == s))))
  (x.int?.bind fun k=>y.str?.bind fun d=>some (.str ((flagText k).elim d Str.ofString)))
noncomputable def fltGt (a b:UInt64):Bool:=Float64.cmp a b == some .gt
noncomputable def fltLt (a b:UInt64):Bool:=Float64.cmp a b == some .lt
noncomputable def onF3 (x y z:AV) (f:UInt64→UInt64→UInt64→UInt64):Option AV:=x.flt?.bind fun a=>y.flt?.bind fun b=>z.flt?.bind fun c=>some (.flt (f a b c))
noncomputable def p3V (p:P3) (x y z:AV):Option AV:=@P3.casesOn (fun _=>Option AV) p
  (onF3 x y z fun a b c=>if fltGt b a then (if fltGt c b then c else b) else (if fltGt c a then c else a)) (onF3 x y z fun a b c=>if fltLt b a then (if fltLt c b then c else b) else (if fltLt c a then c else a))
noncomputable def negV (x:AV):Option AV:=x.int?.bind fun a=>some (.int (-a))
noncomputable def truV (x:AV):Option Bool:=(x.int?.bind fun a=>some (a != 0)).or x.bool?
noncomputable def compL (f:AV→List AV→Res (Option AV)):List AV→List AV→List AV→Res (List AV)
  | [],acc,σ=>.ok acc σ
  | x::xs,acc,σ=>(f x σ).bind fun y σ'=>compL f xs (acc++y.toList) σ'
theorem compL_cons {f:AV→List AV→Res (Option AV)} {x:AV} {xs acc σ:List AV}:compL f (x::xs) acc σ=(f x σ).bind fun y σ'=>compL f xs (acc++y.toList) σ':=rfl
noncomputable def rdB (r:Res MV):Res AV:=r.bind fun m σ=>.of σ (rd σ m)
noncomputable def op1 {α:Type} (f:AV→Option α) (r:Res MV):Res α:=r.bind fun m σ=>.of σ ((rd σ m).bind f)
noncomputable def op2 {α:Type} (f:AV→AV→Option α) (r:Res MV) (r':List AV→Res MV):Res α :=
  r.bind fun m σ=>(r' σ).bind fun m' σ=>.of σ ((rd σ m).bind fun x=>(rd σ m').bind fun y=>f x y)
noncomputable def op2v {α:Type} (f:AV→AV→Option α) (r:Res MV) (r':List AV→Res MV):Res α :=
  r.bind fun m σ=>Res.on m.val? fun x=>(r' σ).bind fun m' σ=>.of σ ((rd σ m').bind fun y=>f x y)
noncomputable def op3 {α:Type} (f:AV→AV→AV→Option α) (r:Res MV) (r' r'':List AV→Res MV):Res α :=
  r.bind fun m σ=>(r' σ).bind fun m' σ=>(r'' σ).bind fun m'' σ=>.of σ ((rd σ m).bind fun x=>(rd σ m').bind fun y=>(rd σ m'').bind fun z=>f x y z)
noncomputable def dictOne (x y:AV):Option AV:=x.str?.bind fun s=>y.int?.bind fun y=>some (.dictS [s] [.int y])
noncomputable def cutV (n:Nat) (x:AV):Option AV:=(x.list?.or x.arg?).bind fun xs=>grd (fits xs.length && fits n) (.list (xs.take n))
noncomputable def toM (o:Option AV):Option MV:=o.map .val
noncomputable def popV (xs:List AV) (i:Int):Option (AV × List AV):=if !fits xs.length then Option.none else (place xs.length i).bind fun n=>(xs[n]?).map fun v=>(v,xs.eraseIdx n)
noncomputable def muAt (ve:List MV) (i:Nat):Option Nat:=(ve[i]?).bind MV.mu?
noncomputable def listAt (σ:List AV) (j:Nat):Option (List AV):=(σ[j]?).bind AV.list?
noncomputable def biterAt (σ:List AV) (j:Nat):Option (List UInt8 × Nat):=(σ[j]?).bind AV.biter?
noncomputable def varV (m:MV):Option MV:=@MV.casesOn (fun _=>Option MV) m (fun v=>some (.val v)) (fun j=>some (.mu j)) Option.none
noncomputable def popR (j:Nat) (x:AV) (σ:List AV):Res MV:=Res.on (x.int?.bind fun k=>(listAt σ j).bind fun xs=>popV xs k) fun p=>.ok (.val p.1) (σ.set j (.list p.2))
noncomputable def pvR (j:Nat) (b:List UInt8) (σ:List AV) (p:Option Int × Nat):Res MV:=p.1.elim (.stop (σ.set j (.biter b p.2))) fun v=>.ok (.val (.int v)) (σ.set j (.biter b p.2))
noncomputable def nextR (j:Nat) (b:List UInt8) (p:Nat) (σ:List AV):Res MV:=(b[p]?).elim (if p≤b.length then .stop (σ.set j (.biter b (b.length+1))) else .no) fun x=>.ok (.val (.int x.toNat)) (σ.set j (.biter b (p+1)))
noncomputable def turnR (c:List AV→Res Bool) (e:List AV→Res MV) (σ:List AV):Res (Option AV) :=
  ((c σ).bind fun t σ=>if t then (e σ).bind fun m σ=>Res.on m.val? fun y=>.ok (some y) σ else .ok Option.none σ).calm
noncomputable def compR (f:AV→List AV→Res (Option AV)) (m:MV) (σ:List AV):Res MV :=
  Res.on (m.val?.bind elemsC) fun xs=>if fits xs.length then (compL f xs [] σ).bind fun ys σ=>.ok (.val (.list ys)) σ else .no
mutual
noncomputable def evE (T:Tab):ME→List MV→List AV→Res MV
  | .cst c,_,σ=>.ok (.val c) σ
  | .var i,ve,σ=>Res.on ((ve[i]?).bind varV) fun m=>.ok m σ
  | .bin o a b,ve,σ=>op2 (fun x y=>toM (binV o x y)) (evE T a ve σ) fun σ=>evE T b ve σ
  | .neg a,ve,σ=>op1 (fun x=>toM (negV x)) (evE T a ve σ)
  | .cmp o a b,ve,σ=>op2 (fun x y=>(cmpV o x y).map fun b=>.val (.bool b)) (evE T a ve σ) fun σ=>evE T b ve σ
  | .ite c a b,ve,σ=>(evT T c ve σ).bind fun t σ=>if t then evE T a ve σ else evE T b ve σ
  | .list es,ve,σ=>(evEs T es ve σ).bind fun xs σ=>if fits xs.length then .ok (.val (.list xs)) σ else .no
  | .tup es,ve,σ=>(evEs T es ve σ).bind fun xs σ=>if fits xs.length then .ok (.val (.tup xs)) σ else .no
  | .dict0 s,_,σ=>.ok (.val (if s then .dictS [] [] else .dictI [] [])) σ
  | .dict1 k v,ve,σ=>op2 (fun x y=>toM (dictOne x y)) (evE T k ve σ) fun σ=>evE T v ve σ
  | .idx a i,ve,σ=>op2 (fun x y=>toM (idxV x y)) (evE T a ve σ) fun σ=>evE T i ve σ
  | .cut a n,ve,σ=>op1 (fun x=>toM (cutV n x)) (evE T a ve σ)
  | .comp elt it c,ve,σ=>(evE T it ve σ).bind fun m σ=>compR (fun x σ=>turnR (evT T c (ve++[.val x])) (evE T elt (ve++[.val x])) σ) m σ
  | .call f args,ve,σ=>(evEs T args ve σ).bind fun xs σ=>.of σ ((T.fn f xs).map .val)
  | .p1 p a,ve,σ=>op1 (fun x=>toM (p1V p x)) (evE T a ve σ)
  | .view p a,ve,σ=>(evE T a ve σ).bind fun m σ=>.of σ ((m.val?.bind (p1V p)).map .val)
  | .p2 p a b,ve,σ=>op2v (fun x y=>toM (p2V p x y)) (evE T a ve σ) fun σ=>evE T b ve σ
  | .p3 p a b c,ve,σ=>op3 (fun x y z=>toM (p3V p x y z)) (evE T a ve σ) (fun σ=>evE T b ve σ) fun σ=>evE T c ve σ
  | .pop i a,ve,σ=>Res.on (muAt ve i) fun j=>Res.on (listAt σ j) fun _=>(rdB (evE T a ve σ)).bind (popR j)
  | .pvar i,ve,σ=>Res.on (muAt ve i) fun j=>Res.on (biterAt σ j) fun q=>if q.2≤q.1.length then Res.on (T.pv q.1 q.2) (pvR j q.1 σ) else .no
  | .next i,ve,σ=>Res.on (muAt ve i) fun j=>Res.on (biterAt σ j) fun q=>nextR j q.1 q.2 σ
noncomputable def evEs (T:Tab):MEs→List MV→List AV→Res (List AV)
  | .nil,_,σ=>.ok [] σ
  | .cons e es,ve,σ=>(evE T e ve σ).bind fun m σ=>Res.on m.val? fun v=>(evEs T es ve σ).bind fun vs σ=>.ok (v::vs) σ
noncomputable def evT (T:Tab):MT→List MV→List AV→Res Bool
  | .tt,_,σ=>.ok true σ
  | .cmp o a b,ve,σ=>op2 (cmpV o) (evE T a ve σ) fun σ=>evE T b ve σ
  | .and a b,ve,σ=>(evT T a ve σ).bind fun t σ=>if t then evT T b ve σ else .ok false σ
  | .or a b,ve,σ=>(evT T a ve σ).bind fun t σ=>if t then .ok true σ else evT T b ve σ
  | .not a,ve,σ=>(evT T a ve σ).bind fun t σ=>.ok (!t) σ
  | .tru e,ve,σ=>op1 truV (evE T e ve σ)
end
set_option genInjectivity true
set_option genCtorIdx true in
inductive SRes where
  | nx (ve:List MV) (σ:List AV)
  | brk (ve:List MV) (σ:List AV)
  | ret (v:AV) (σ:List AV)
  | stop (ve:List MV) (σ:List AV)
  | no
noncomputable def Res.toS {α:Type} (r:Res α) (ve:List MV) (f:α→List AV→SRes):SRes:=match r with
  | .ok a σ=>f a σ
  | .stop σ=>.stop ve σ
  | .no=>.no
@[simp] theorem Res.toS_ok {α:Type} (a:α) (σ:List AV) (ve:List MV) (f:α→List AV→SRes):(Res.ok a σ).toS ve f=f a σ:=rfl
noncomputable def SRes.bind (r:SRes) (f:List MV→List AV→SRes):SRes:=match r with
  | .nx ve σ=>f ve σ
  | r=>r
@[simp] theorem SRes.bind_nx (ve:List MV) (σ:List AV) (f:List MV→List AV→SRes):(SRes.nx ve σ).bind f=f ve σ:=rfl
@[simp] theorem SRes.bind_ret (v:AV) (σ:List AV) (f:List MV→List AV→SRes):(SRes.ret v σ).bind f=.ret v σ:=rfl
@[simp] theorem SRes.bind_brk (ve:List MV) (σ:List AV) (f:List MV→List AV→SRes):(SRes.brk ve σ).bind f=.brk ve σ:=rfl
noncomputable def canMut (x:AV):Bool:=x.list?.isSome || x.dI?.isSome || x.dS?.isSome || x.biter?.isSome
noncomputable def SRes.on {α:Type} (o:Option α) (f:α→SRes):SRes:=o.elim .no f
@[simp] theorem SRes.on_some {α:Type} (a:α) (f:α→SRes):SRes.on (some a) f=f a:=rfl
@[simp] theorem SRes.on_none {α:Type} (f:α→SRes):SRes.on Option.none f=.no:=rfl
noncomputable def lay (ve:List MV) (σ:List AV) (i:Nat) (m:Bool) (v:AV):List MV × List AV :=
  if m then (ve.set i (.mu σ.length),σ++[v]) else (ve.set i (.val v),σ)
noncomputable def layAll:List MV→List AV→List (Nat × Bool)→List AV→Option (List MV × List AV)
  | ve,σ,[],vs=>if vs.isEmpty then some (ve,σ) else Option.none
  | ve,σ,p::is,vs=>@List.casesOn AV (fun _=>Option (List MV × List AV)) vs Option.none fun v vs=>if p.2 && !canMut v then Option.none else layAll (lay ve σ p.1 p.2 v).1 (lay ve σ p.1 p.2 v).2 is vs
theorem layAll_nil {ve:List MV} {σ:List AV}:layAll ve σ [] []=some (ve,σ):=rfl
theorem layAll_cons {ve:List MV} {σ vs:List AV} {p:Nat × Bool} {is:List (Nat × Bool)} {v:AV}:layAll ve σ (p::is) (v::vs)=if p.2 && !canMut v then Option.none else layAll (lay ve σ p.1 p.2 v).1 (lay ve σ p.1 p.2 v).2 is vs:=rfl
noncomputable def setAll:List MV→List Nat→List AV→Option (List MV)
  | ve,[],vs=>if vs.isEmpty then some ve else Option.none
  | ve,i::is,vs=>@List.casesOn AV (fun _=>Option (List MV)) vs Option.none fun v vs=>setAll (ve.set i (.val v)) is vs
theorem setAll_nil {ve:List MV}:setAll ve [] []=some ve:=rfl
theorem setAll_cons {ve:List MV} {i:Nat} {is:List Nat} {v:AV} {vs:List AV}:setAll ve (i::is) (v::vs)=setAll (ve.set i (.val v)) is vs:=rfl
noncomputable def bindItem (ve:List MV) (is:List Nat) (x:AV):Option (List MV):=@List.casesOn Nat (fun _=>Option (List MV)) is (x.tup?.bind fun xs=>setAll ve is xs) fun i r=>@List.casesOn Nat (fun _=>Option (List MV)) r (some (ve.set i (.val x))) fun _ _=>x.tup?.bind fun xs=>setAll ve is xs
noncomputable def SRes.step (r:SRes) (f:List MV→List AV→SRes):SRes:=@SRes.casesOn (fun _=>SRes) r f (fun ve σ=>.brk ve σ) (fun v σ=>.ret v σ) (fun ve σ=>.stop ve σ) .no
noncomputable def forL (f:AV→List MV→List AV→SRes):List AV→List MV→List AV→SRes
  | [],ve,σ=>.nx ve σ
  | x::xs,ve,σ=>(f x ve σ).step (forL f xs)
theorem forL_nil {f:AV→List MV→List AV→SRes} {ve:List MV} {σ:List AV}:forL f [] ve σ=.nx ve σ:=rfl
theorem forL_cons {f:AV→List MV→List AV→SRes} {x:AV} {xs:List AV} {ve:List MV} {σ:List AV}:forL f (x::xs) ve σ=(f x ve σ).step (forL f xs):=rfl
noncomputable def SRes.turn (r:SRes) (f:List MV→List AV→SRes):SRes:=@SRes.casesOn (fun _=>SRes) r f (fun ve σ=>.nx ve σ) (fun v σ=>.ret v σ) (fun ve σ=>.stop ve σ) .no
noncomputable def whileL (t:List MV→List AV→Res Bool) (b:List MV→List AV→SRes):Nat→List MV→List AV→SRes
  | 0,_,_=>.no
  | n+1,ve,σ=>(t ve σ).toS ve fun c σ=>if c then (b ve σ).turn (whileL t b n) else .nx ve σ
theorem whileL_succ {t:List MV→List AV→Res Bool} {b:List MV→List AV→SRes} {n:Nat} {ve:List MV} {σ:List AV}:whileL t b (n+1) ve σ=(t ve σ).toS ve fun c σ=>if c then (b ve σ).turn (whileL t b n) else .nx ve σ:=rfl
noncomputable def numbered:Nat→List AV→List AV
  | _,[]=>[]
  | k,x::xs=>.tup [.int k,x]::numbered (k+1) xs
noncomputable def SRes.after (r:SRes) (f:List MV→List AV→SRes):SRes:=@SRes.casesOn (fun _=>SRes) r f (fun ve σ=>.nx ve σ) (fun v σ=>.ret v σ) (fun _ _=>.no) .no
noncomputable def SRes.onlyNx (r:SRes):SRes:=@SRes.casesOn (fun _=>SRes) r (fun ve σ=>.nx ve σ) (fun _ _=>.no) (fun _ _=>.no) (fun _ _=>.no) .no
noncomputable def SRes.caught (r:SRes) (f:List MV→List AV→SRes):SRes:=@SRes.casesOn (fun _=>SRes) r (fun ve σ=>.nx ve σ) (fun ve σ=>.brk ve σ) (fun v σ=>.ret v σ) f .no
mutual
noncomputable def exS (T:Tab):MS→List MV→List AV→SRes
  | .assign i e,ve,σ=>(evE T e ve σ).toS ve fun m σ=>SRes.on m.val? fun v=>.nx (ve.set i (.val v)) σ
  | .assignMut i e,ve,σ=>(evE T e ve σ).toS ve fun m σ=>SRes.on m.val? fun v=>if canMut v then .nx (ve.set i (.mu σ.length)) (σ++[v]) else .no
  | .unpack is e,ve,σ=>(evE T e ve σ).toS ve fun m σ=>SRes.on (m.val?.bind AV.tup?) fun xs=>SRes.on (setAll ve is xs) fun ve=>.nx ve σ
  | .multi is es,ve,σ=>(evEs T es ve σ).toS ve fun vs σ=>if fits vs.length then SRes.on (layAll ve σ is vs) fun p=>.nx p.1 p.2 else .no
  | .setitem i k e,ve,σ=>(evE T e ve σ).toS ve fun m σ=>SRes.on m.val? fun v=>(rdB (evE T k ve σ)).toS ve fun x σ=>SRes.on (muAt ve i) fun j=>SRes.on ((σ[j]?).bind fun c=>setV c x v) fun c=>.nx ve (σ.set j c)
  | .augitem i k e,ve,σ=>(rdB (evE T k ve σ)).toS ve fun x σ=>SRes.on (muAt ve i) fun j=>SRes.on (((σ[j]?).bind fun c=>idxV c x).bind AV.int?) fun a =>
      (rdB (evE T e ve σ)).toS ve fun y σ=>SRes.on y.int? fun b=>SRes.on ((σ[j]?).bind fun c=>setV c x (.int (a+b))) fun c=>.nx ve (σ.set j c)
  | .aug o i e,ve,σ=>SRes.on (((ve[i]?).bind MV.val?).bind AV.int?) fun a=>(rdB (evE T e ve σ)).toS ve fun y σ=>SRes.on y.int? fun b=>SRes.on (binV o (.int a) (.int b)) fun v=>.nx (ve.set i (.val v)) σ
  | .append i e,ve,σ=>SRes.on (muAt ve i) fun j=>SRes.on (listAt σ j) fun _=>(evE T e ve σ).toS ve fun m σ=>SRes.on m.val? fun v=>SRes.on (listAt σ j) fun xs=>if fits xs.length then .nx ve (σ.set j (.list (xs++[v]))) else .no
  | .forr is it body orelse,ve,σ=>(evE T it ve σ).toS ve fun m σ=>SRes.on (m.val?.bind (elemsF is)) fun xs=>if fits xs.length then
      (forL (fun x ve σ=>SRes.on (bindItem ve is x) fun ve=>exSs T body ve σ) xs ve σ).after (exSs T orelse) else .no
  | .forEnum i j it body,ve,σ=>(evE T it ve σ).toS ve fun m σ=>SRes.on (m.val?.bind AV.list?) fun xs=>if fits xs.length then
      (forL (fun x ve σ=>SRes.on (bindItem ve [i,j] x) fun ve=>exSs T body ve σ) (numbered 0 xs) ve σ).onlyNx else .no
  | .while t body,ve,σ=>whileL (evT T t) (exSs T body) 16 ve σ
  | .iff t b o,ve,σ=>(evT T t ve σ).toS ve fun c σ=>if c then exSs T b ve σ else exSs T o ve σ
  | .ret e,ve,σ=>(rdB (evE T e ve σ)).toS ve fun v σ=>.ret v σ
  | .dead,_,_=>.no
  | .brk,ve,σ=>.brk ve σ
  | .try b h,ve,σ=>(exSs T b ve σ).caught (exSs T h)
noncomputable def exSs (T:Tab):MSs→List MV→List AV→SRes
  | .nil,ve,σ=>.nx ve σ
  | .cons s r,ve,σ=>(exS T s ve σ).bind fun ve σ=>exSs T r ve σ
end
noncomputable def runFn (T:Tab) (body:MSs) (ve:List MV):Option AV:=@SRes.casesOn (fun _=>Option AV) (exSs T body ve []) (fun _ _=>some .none) (fun _ _=>Option.none) (fun v _=>some v) (fun _ _=>Option.none) Option.none
noncomputable def runPv (T:Tab) (body:MSs) (ve:List MV) (b:List UInt8) (p:Nat):Option (Option Int × Nat):=@SRes.casesOn (fun _=>Option (Option Int × Nat)) (exSs T body ve [.biter b p]) (fun _ _=>Option.none) (fun _ _=>Option.none)
  (fun v σ=>v.int?.bind fun v=>(biterAt σ 0).bind fun q=>if σ.length=1∧q.1=b∧q.2≤b.length then some (some v,q.2) else Option.none) (fun _ _=>if (b.drop p).length≤1 then some (Option.none,b.length+1) else Option.none) Option.none
end Mine
set_option genCtorIdx false
set_option genSizeOf false
set_option genInjectivity false
namespace Mine
open PySem PyProof.Rows
structure Ctx where
  names:List (Str × NameKind)
  slots:List (Str × Nat)
  next:Nat
  sd:Bool
noncomputable def isTop (c:Ctx):Bool:=(c.slots.lookup (Str.ofString "script")).isSome
noncomputable def isVarKind:Option NameKind→Bool
  | some .local | some .cell | some .free=>true
  | _=>false
noncomputable def okName (x:Str):Bool:=!(x == ("__debug__":Str)) && !(x == ("__classdict__":Str))
noncomputable def varOf (c:Ctx) (x:Str):Option Nat:=if isVarKind (c.names.lookup x) && okName x then c.slots.lookup x else Option.none
noncomputable def isGlob (c:Ctx) (x:Str):Bool:=c.names.lookup x == some .globalImplicit && okName x
noncomputable def bopOf:Operator→Option BOp
  | .Add=>some .add | .Sub=>some .sub | .Mult=>some .mul | .FloorDiv=>some .fdiv | .Mod=>some .mod | .Pow=>some .pow | .Div=>some .tdiv
  | .LShift=>some .shl | .BitAnd=>some .band | .BitOr=>some .bor | .BitXor=>some .bxor
  | _=>Option.none
noncomputable def copOf:CmpOp→Option COp
  | .Lt=>some .lt | .LtE=>some .le | .Gt=>some .gt | .Eq=>some .eq | .NotEq=>some .ne | .In=>some .isin | .NotIn=>some .notin
  | _=>Option.none
noncomputable def cstOf:Const→Option AV
  | .int i=>some (.int i)
  | .float x=>some (.flt x)
  | .str s=>some (.str s)
  | .bool b=>some (.bool b)
  | _=>Option.none
noncomputable def constTab:List (String × UInt64):=[("ONE_THIRD",4599676419421066581),("ONE_SIXTH",4595172819793696085),("TWO_THIRD",4604180019048437077)]
noncomputable def globConst (x:Str):Option AV:=(constTab.find? fun p=>(Str.ofString p.1:Str) == x).map fun p=>.flt p.2
noncomputable def fnTab:List (String × Fn):=[("add_callers",.addCallers),("count_calls",.countCalls),("rgb_to_hls",.rgbHls),("hls_to_rgb",.hlsRgb),("_v",.v),("rgb_to_hsv",.rgbHsv),("hsv_to_rgb",.hsvRgb),
  ("pretty_flags",.flags),("_law_words",.words),("_law_list",.list),("_law_tape",.tape),("_law_rank",.rank),("_law_best",.best),("_law_firm",.firm),("_law_painted",.painted),("_law_tables",.tables),("TupleComp",.mk)]
noncomputable def fnOf (x:Str):Option Fn:=(fnTab.find? fun p=>(Str.ofString p.1:Str) == x).map (·.2)
noncomputable def p1Tab:List (String × P1):=[("range",.range),("len",.len),("list",.listOf),("hex",.hex),("int",.intf),("dict",.dictOf),("bytes",.bytesOf),("sorted",.sortedOf),("iter",.iterb)]
noncomputable def p1Of (x:Str):Option P1:=(p1Tab.find? fun p=>(Str.ofString p.1:Str) == x).map (·.2)
noncomputable def p3Tab:List (String × P3):=[("max",.max),("min",.min)]
noncomputable def p3Of (x:Str):Option P3:=(p3Tab.find? fun p=>(Str.ofString p.1:Str) == x).map (·.2)
noncomputable def m0Tab:List (String × P1):=[("items",.items),("values",.values)]
noncomputable def m0Of (x:Str):Option P1:=(m0Tab.find? fun p=>(Str.ofString p.1:Str) == x).map (·.2)
noncomputable def m1Tab:List (String × P2):=[("join",.join),("split",.split),("count",.count)]
noncomputable def m1Of (x:Str):Option P2:=(m1Tab.find? fun p=>(Str.ofString p.1:Str) == x).map (·.2)
noncomputable def isSlice (e:Expr):Bool:=e.ctorIdx == 26
noncomputable def isName (e:Expr):Bool:=e.ctorIdx == 23
noncomputable def isComp (e:Expr):Bool:=e.ctorIdx == 8 || e.ctorIdx == 9 || e.ctorIdx == 10
noncomputable def notSet (e:Expr):Bool:=!(e.ctorIdx == 7)
noncomputable def isStar (e:Expr):Bool:=e.ctorIdx == 22
noncomputable def plainTest (e:Expr):Bool:=@Expr.casesOn (fun _=>Bool) e (fun _ _ _=>false) (fun _ _ _=>true) (fun _ _ _ _=>true) (fun o _ _=>!(o.ctorIdx == 1)) (fun _ _ _ _=>true) (fun _ _ _ _=>false) (fun _ _ _=>true) (fun _ _ _=>true) (fun _ _ _ _=>true) (fun _ _ _ _=>true) (fun _ _ _ _ _=>true) (fun _ _ _ _=>true) (fun _ _=>true) (fun _ _=>true) (fun _ _=>true) (fun _ _ _ _=>false) (fun _ _ _ _=>true) (fun _ _ _ _=>true) (fun _ _=>true) (fun _ _ _=>true) (fun _ _ _=>true) (fun _ _ _=>true) (fun _ _=>true) (fun _ _=>true) (fun _ _=>true) (fun _ _ _=>true) (fun _ _ _ _=>true)
noncomputable def Expr.name? (e:Expr):Option Str:=@Expr.casesOn (fun _=>Option Str) e (fun _ _ _=>Option.none) (fun _ _ _=>Option.none) (fun _ _ _ _=>Option.none) (fun _ _ _=>Option.none) (fun _ _ _ _=>Option.none) (fun _ _ _ _=>Option.none) (fun _ _ _=>Option.none) (fun _ _ _=>Option.none) (fun _ _ _ _=>Option.none) (fun _ _ _ _=>Option.none) (fun _ _ _ _ _=>Option.none) (fun _ _ _ _=>Option.none) (fun _ _=>Option.none) (fun _ _=>Option.none) (fun _ _=>Option.none) (fun _ _ _ _=>Option.none) (fun _ _ _ _=>Option.none) (fun _ _ _ _=>Option.none) (fun _ _=>Option.none) (fun _ _ _=>Option.none) (fun _ _ _=>Option.none) (fun _ _ _=>Option.none) (fun _ _=>Option.none) (fun x _=>some x) (fun _ _=>Option.none) (fun _ _ _=>Option.none) (fun _ _ _ _=>Option.none)
noncomputable def plainBase (e:Expr):Bool:=@Expr.casesOn (fun _=>Bool) e (fun _ _ _=>true) (fun _ _ _=>true) (fun _ _ _ _=>true) (fun _ _ _=>true) (fun _ _ _ _=>true) (fun _ _ _ _=>true) (fun _ _ _=>true) (fun _ _ _=>true) (fun _ _ _ _=>true) (fun _ _ _ _=>true) (fun _ _ _ _ _=>true) (fun _ _ _ _=>true) (fun _ _=>true) (fun _ _=>true) (fun _ _=>true) (fun _ _ _ _=>true) (fun f a k _=>!(isName f && a.isEmpty && k.isEmpty)) (fun _ _ _ _=>true) (fun _ _=>true) (fun _ _ _=>true) (fun _ _ _=>true) (fun _ _ _=>true) (fun _ _=>true) (fun _ _=>true) (fun _ _=>true) (fun _ _ _=>true) (fun _ _ _ _=>true)
noncomputable def compOk (c:Ctx) (names:List (Str × NameKind)) (x:Str):Bool :=
  (names.all fun p=>match p.2 with
    | .local=>(p.1 == x || p.1 == (".0":Str)) && names.lookup p.1 == some .local
    | .cell=>p.1 == x && names.lookup p.1 == some .cell
    | .free=>p.1 != x && (c.slots.lookup p.1).isSome && (c.names.lookup p.1 == some .cell || c.names.lookup p.1 == some .free)
    | .globalImplicit=>p.1 != x
    | _=>false) && okName x && x != (".0":Str) && (c.slots.lookup (".0":Str)).isNone && (names.lookup x == some .local || names.lookup x == some .cell)
noncomputable def inner (c:Ctx) (names:List (Str × NameKind)) (x:Str):Ctx:={ names:=names,slots:=(x,c.next)::c.slots,next:=c.next+1,sd:=c.sd }
noncomputable def isFresh (e:Expr):Bool:=@Expr.casesOn (fun _=>Bool) e (fun _ _ _=>false) (fun _ _ _=>false) (fun _ _ _ _=>false) (fun _ _ _=>false) (fun _ _ _ _=>false) (fun _ _ _ _=>false) (fun a b _=>a.isEmpty && b.isEmpty) (fun _ _ _=>false) (fun _ _ _ _=>true) (fun _ _ _ _=>false) (fun _ _ _ _ _=>false) (fun _ _ _ _=>false) (fun _ _=>false) (fun _ _=>false) (fun _ _=>false) (fun _ _ _ _=>false) (fun f a k _=>(Expr.name? f).any (fun f=>f == ("list":Str) || f == ("iter":Str)) && a.length == 1 && k.isEmpty) (fun _ _ _ _=>false) (fun _ _=>false) (fun _ _ _=>false) (fun _ _ _=>false) (fun _ _ _=>false) (fun _ _=>false) (fun _ _=>false) (fun _ _=>true) (fun _ _ _=>false) (fun _ _ _ _=>false)
noncomputable def nameVars (c:Ctx):List Expr→Option (List Nat)
  | []=>some []
  | e::es=>(Expr.name? e).bind fun x=>(varOf c x).bind fun i=>(nameVars c es).map (i::·)
noncomputable def flagged (c:Ctx) (muts:List Str):List Expr→List Expr→Option (List (Nat × Bool))
  | [],vs=>if vs.isEmpty then some [] else Option.none
  | e::ts,vs=>(Expr.name? e).bind fun x=>@List.casesOn Expr (fun _=>Option (List (Nat × Bool))) vs Option.none fun v vs=>(varOf c x).bind fun i=>if muts.contains x && !isFresh v then Option.none else (flagged c muts ts vs).map ((i,muts.contains x)::·)
noncomputable def slotsOf:Nat→List (Str × NameKind)→List (Str × Nat)
  | _,[]=>[]
  | n,(x,k)::r=>match k with
    | .local | .cell=>(x,n)::slotsOf (n+1) r
    | _=>slotsOf n r
noncomputable def ctxOf (sc:Scope) (sd:Bool):Ctx:={ names:=sc.names,slots:=slotsOf 0 sc.names,next:=(slotsOf 0 sc.names).length,sd:=sd }
noncomputable def Stmt.def? (s:Stmt):Option (Str × Arguments × List Stmt × Scope):=@Stmt.casesOn (fun _=>Option (Str × Arguments × List Stmt × Scope)) s (fun n a b _ _ _ sc _ _ _=>some (n,a,b,sc)) (fun _ _ _ _ _ _ _ _ _ _=>Option.none) (fun _ _ _ _ _ _ _ _ _ _ _=>Option.none) (fun _ _=>Option.none) (fun _ _=>Option.none) (fun _ _ _=>Option.none) (fun _ _ _ _ _ _ _=>Option.none) (fun _ _ _ _=>Option.none) (fun _ _ _ _ _=>Option.none) (fun _ _ _ _ _=>Option.none) (fun _ _ _ _ _=>Option.none) (fun _ _ _ _=>Option.none) (fun _ _ _ _=>Option.none) (fun _ _ _=>Option.none) (fun _ _ _=>Option.none) (fun _ _ _=>Option.none) (fun _ _ _=>Option.none) (fun _ _ _ _ _=>Option.none) (fun _ _ _ _ _=>Option.none) (fun _ _ _=>Option.none) (fun _ _=>Option.none) (fun _ _ _ _=>Option.none) (fun _ _=>Option.none) (fun _ _=>Option.none) (fun _ _=>Option.none) (fun _=>Option.none) (fun _=>Option.none) (fun _=>Option.none)
noncomputable def Stmt.cls? (s:Stmt):Option (List Stmt):=@Stmt.casesOn (fun _=>Option (List Stmt)) s (fun _ _ _ _ _ _ _ _ _ _=>Option.none) (fun _ _ _ _ _ _ _ _ _ _=>Option.none) (fun _ _ _ b _ _ _ _ _ _ _=>some b) (fun _ _=>Option.none) (fun _ _=>Option.none) (fun _ _ _=>Option.none) (fun _ _ _ _ _ _ _=>Option.none) (fun _ _ _ _=>Option.none) (fun _ _ _ _ _=>Option.none) (fun _ _ _ _ _=>Option.none) (fun _ _ _ _ _=>Option.none) (fun _ _ _ _=>Option.none) (fun _ _ _ _=>Option.none) (fun _ _ _=>Option.none) (fun _ _ _=>Option.none) (fun _ _ _=>Option.none) (fun _ _ _=>Option.none) (fun _ _ _ _ _=>Option.none) (fun _ _ _ _ _=>Option.none) (fun _ _ _=>Option.none) (fun _ _=>Option.none) (fun _ _ _ _=>Option.none) (fun _ _=>Option.none) (fun _ _=>Option.none) (fun _ _=>Option.none) (fun _=>Option.none) (fun _=>Option.none) (fun _=>Option.none)
noncomputable def Stmt.meth? (i:Nat) (s:Stmt):Option (Str × Arguments × List Stmt × Scope):=(Stmt.cls? s).bind fun b=>if b.length=2 then (b[i]?).bind Stmt.def? else Option.none
noncomputable def named (x:String) (d:Str × Arguments × List Stmt × Scope):Option (Arguments × List Stmt × Scope):=if d.1 == Str.ofString x then some d.2 else Option.none
noncomputable def findDef (x:String):List Stmt→Option (Arguments × List Stmt × Scope)
  | []=>Option.none
  | s::r=>(((Stmt.def? s).or (Stmt.meth? 1 s)).bind (named x)).or (findDef x r)
noncomputable def findInit:List Stmt→Option (Arguments × List Stmt × Scope)
  | []=>Option.none
  | s::r=>((Stmt.meth? 0 s).map (·.2)).or (findInit r)
theorem Expr.name?_inv {e:Expr} {x:Str}:Expr.name? e=some x→∃ p,e=.Name x p:=@Expr.casesOn (fun e=>Expr.name? e=some x→∃ p,e=.Name x p) e (fun _ _ _=>nn) (fun _ _ _=>nn) (fun _ _ _ _=>nn) (fun _ _ _=>nn) (fun _ _ _ _=>nn) (fun _ _ _ _=>nn) (fun _ _ _=>nn) (fun _ _ _=>nn) (fun _ _ _ _=>nn) (fun _ _ _ _=>nn) (fun _ _ _ _ _=>nn) (fun _ _ _ _=>nn) (fun _ _=>nn) (fun _ _=>nn) (fun _ _=>nn) (fun _ _ _ _=>nn) (fun _ _ _ _=>nn) (fun _ _ _ _=>nn) (fun _ _=>nn) (fun _ _ _=>nn) (fun _ _ _=>nn) (fun _ _ _=>nn) (fun _ _=>nn) (fun _ p h=>⟨p,congrArg (Expr.Name · p) (Option.some.inj h)⟩) (fun _ _=>nn) (fun _ _ _=>nn) (fun _ _ _ _=>nn)
noncomputable def theBody:List Stmt:=PySem.Challenge.pw_xh0018_01.main.body
noncomputable def bAddCallers:MSs:=(.cons
  (.assignMut 2 (.dict0 true))
  (.cons
  (.forr [3,4] (.view .items (.var 0)) (.cons
  (.setitem 2 (.var 3) (.var 4))
  .nil) .nil)
  (.cons
  (.forr [3,4] (.view .items (.var 1)) (.cons
  (.iff (.cmp .isin (.var 3) (.var 2)) (.cons
  (.iff (.tru (.p1 .isTup (.var 4))) (.cons
  .dead
  .nil) (.cons
  (.augitem 2 (.var 3) (.var 4))
  .nil))
  .nil) (.cons
  (.setitem 2 (.var 3) (.var 4))
  .nil))
  .nil) .nil)
  (.cons
  (.ret (.var 2))
  .nil))))
noncomputable def bCountCalls:MSs:=(.cons
  (.assign 1 (.cst (.int (0))))
  (.cons
  (.forr [2] (.view .values (.var 0)) (.cons
  (.aug .add 1 (.var 2))
  .nil) .nil)
  (.cons
  (.ret (.var 1))
  .nil)))
noncomputable def bRgbHls:MSs:=(.cons
  (.assign 3 (.p3 .max (.var 0) (.var 1) (.var 2)))
  (.cons
  (.assign 4 (.p3 .min (.var 0) (.var 1) (.var 2)))
  (.cons
  (.assign 5 (.bin .add (.var 3) (.var 4)))
  (.cons
  (.assign 6 (.bin .sub (.var 3) (.var 4)))
  (.cons
  (.assign 7 (.bin .tdiv (.var 5) (.cst (.flt 4611686018427387904))))
  (.cons
  (.iff (.cmp .eq (.var 4) (.var 3)) (.cons
  (.ret (.tup (.cons (.cst (.flt 0)) (.cons (.var 7) (.cons (.cst (.flt 0)) .nil)))))
  .nil) .nil)
  (.cons
  (.iff (.cmp .le (.var 7) (.cst (.flt 4602678819172646912))) (.cons
  (.assign 8 (.bin .tdiv (.var 6) (.var 5)))
  .nil) (.cons
  (.assign 8 (.bin .tdiv (.var 6) (.bin .sub (.bin .sub (.cst (.flt 4611686018427387904)) (.var 3)) (.var 4))))
  .nil))
  (.cons
  (.assign 9 (.bin .tdiv (.bin .sub (.var 3) (.var 0)) (.var 6)))
  (.cons
  (.assign 10 (.bin .tdiv (.bin .sub (.var 3) (.var 1)) (.var 6)))
  (.cons
  (.assign 11 (.bin .tdiv (.bin .sub (.var 3) (.var 2)) (.var 6)))
  (.cons
  (.iff (.cmp .eq (.var 0) (.var 3)) (.cons
  (.assign 12 (.bin .sub (.var 11) (.var 10)))
  .nil) (.cons
  (.iff (.cmp .eq (.var 1) (.var 3)) (.cons
  (.assign 12 (.bin .sub (.bin .add (.cst (.flt 4611686018427387904)) (.var 9)) (.var 11)))
  .nil) (.cons
  (.assign 12 (.bin .sub (.bin .add (.cst (.flt 4616189618054758400)) (.var 10)) (.var 9)))
  .nil))
  .nil))
  (.cons
  (.assign 12 (.bin .mod (.bin .tdiv (.var 12) (.cst (.flt 4618441417868443648))) (.cst (.flt 4607182418800017408))))
  (.cons
  (.ret (.tup (.cons (.var 12) (.cons (.var 7) (.cons (.var 8) .nil)))))
  .nil)))))))))))))
noncomputable def bHlsRgb:MSs:=(.cons
  (.iff (.cmp .eq (.var 2) (.cst (.flt 0))) (.cons
  (.ret (.tup (.cons (.var 1) (.cons (.var 1) (.cons (.var 1) .nil)))))
  .nil) .nil)
  (.cons
  (.iff (.cmp .le (.var 1) (.cst (.flt 4602678819172646912))) (.cons
  (.assign 3 (.bin .mul (.var 1) (.bin .add (.cst (.flt 4607182418800017408)) (.var 2))))
  .nil) (.cons
  (.assign 3 (.bin .sub (.bin .add (.var 1) (.var 2)) (.bin .mul (.var 1) (.var 2))))
  .nil))
  (.cons
  (.assign 4 (.bin .sub (.bin .mul (.cst (.flt 4611686018427387904)) (.var 1)) (.var 3)))
  (.cons
  (.ret (.tup (.cons (.call .v (.cons (.var 4) (.cons (.var 3) (.cons (.bin .add (.var 0) (.cst (.flt 4599676419421066581))) .nil)))) (.cons (.call .v (.cons (.var 4) (.cons (.var 3) (.cons (.var 0) .nil)))) (.cons (.call .v (.cons (.var 4) (.cons (.var 3) (.cons (.bin .sub (.var 0) (.cst (.flt 4599676419421066581))) .nil)))) .nil)))))
  .nil))))
noncomputable def bV:MSs:=(.cons
  (.assign 2 (.bin .mod (.var 2) (.cst (.flt 4607182418800017408))))
  (.cons
  (.iff (.cmp .lt (.var 2) (.cst (.flt 4595172819793696085))) (.cons
  (.ret (.bin .add (.var 0) (.bin .mul (.bin .mul (.bin .sub (.var 1) (.var 0)) (.var 2)) (.cst (.flt 4618441417868443648)))))
  .nil) .nil)
  (.cons
  (.iff (.cmp .lt (.var 2) (.cst (.flt 4602678819172646912))) (.cons
  (.ret (.var 1))
  .nil) .nil)
  (.cons
  (.iff (.cmp .lt (.var 2) (.cst (.flt 4604180019048437077))) (.cons
  (.ret (.bin .add (.var 0) (.bin .mul (.bin .mul (.bin .sub (.var 1) (.var 0)) (.bin .sub (.cst (.flt 4604180019048437077)) (.var 2))) (.cst (.flt 4618441417868443648)))))
  .nil) .nil)
  (.cons
  (.ret (.var 0))
  .nil)))))
noncomputable def bRgbHsv:MSs:=(.cons
  (.assign 3 (.p3 .max (.var 0) (.var 1) (.var 2)))
  (.cons
  (.assign 4 (.p3 .min (.var 0) (.var 1) (.var 2)))
  (.cons
  (.assign 5 (.bin .sub (.var 3) (.var 4)))
  (.cons
  (.assign 6 (.var 3))
  (.cons
  (.iff (.cmp .eq (.var 4) (.var 3)) (.cons
  (.ret (.tup (.cons (.cst (.flt 0)) (.cons (.cst (.flt 0)) (.cons (.var 6) .nil)))))
  .nil) .nil)
  (.cons
  (.assign 7 (.bin .tdiv (.var 5) (.var 3)))
  (.cons
  (.assign 8 (.bin .tdiv (.bin .sub (.var 3) (.var 0)) (.var 5)))
  (.cons
  (.assign 9 (.bin .tdiv (.bin .sub (.var 3) (.var 1)) (.var 5)))
  (.cons
  (.assign 10 (.bin .tdiv (.bin .sub (.var 3) (.var 2)) (.var 5)))
  (.cons
  (.iff (.cmp .eq (.var 0) (.var 3)) (.cons
  (.assign 11 (.bin .sub (.var 10) (.var 9)))
  .nil) (.cons
  (.iff (.cmp .eq (.var 1) (.var 3)) (.cons
  (.assign 11 (.bin .sub (.bin .add (.cst (.flt 4611686018427387904)) (.var 8)) (.var 10)))
  .nil) (.cons
  (.assign 11 (.bin .sub (.bin .add (.cst (.flt 4616189618054758400)) (.var 9)) (.var 8)))
  .nil))
  .nil))
  (.cons
  (.assign 11 (.bin .mod (.bin .tdiv (.var 11) (.cst (.flt 4618441417868443648))) (.cst (.flt 4607182418800017408))))
  (.cons
  (.ret (.tup (.cons (.var 11) (.cons (.var 7) (.cons (.var 6) .nil)))))
  .nil))))))))))))
noncomputable def bHsvRgb:MSs:=(.cons
  (.iff (.cmp .eq (.var 1) (.cst (.flt 0))) (.cons
  (.ret (.tup (.cons (.var 2) (.cons (.var 2) (.cons (.var 2) .nil)))))
  .nil) .nil)
  (.cons
  (.assign 3 (.p1 .intf (.bin .mul (.var 0) (.cst (.flt 4618441417868443648)))))
  (.cons
  (.assign 4 (.bin .sub (.bin .mul (.var 0) (.cst (.flt 4618441417868443648))) (.var 3)))
  (.cons
  (.assign 5 (.bin .mul (.var 2) (.bin .sub (.cst (.flt 4607182418800017408)) (.var 1))))
  (.cons
  (.assign 6 (.bin .mul (.var 2) (.bin .sub (.cst (.flt 4607182418800017408)) (.bin .mul (.var 1) (.var 4)))))
  (.cons
  (.assign 7 (.bin .mul (.var 2) (.bin .sub (.cst (.flt 4607182418800017408)) (.bin .mul (.var 1) (.bin .sub (.cst (.flt 4607182418800017408)) (.var 4))))))
  (.cons
  (.assign 3 (.bin .mod (.var 3) (.cst (.int (6)))))
  (.cons
  (.iff (.cmp .eq (.var 3) (.cst (.int (0)))) (.cons
  (.ret (.tup (.cons (.var 2) (.cons (.var 7) (.cons (.var 5) .nil)))))
  .nil) .nil)
  (.cons
  (.iff (.cmp .eq (.var 3) (.cst (.int (1)))) (.cons
  (.ret (.tup (.cons (.var 6) (.cons (.var 2) (.cons (.var 5) .nil)))))
  .nil) .nil)
  (.cons
  (.iff (.cmp .eq (.var 3) (.cst (.int (2)))) (.cons
  (.ret (.tup (.cons (.var 5) (.cons (.var 2) (.cons (.var 7) .nil)))))
  .nil) .nil)
  (.cons
  (.iff (.cmp .eq (.var 3) (.cst (.int (3)))) (.cons
  (.ret (.tup (.cons (.var 5) (.cons (.var 6) (.cons (.var 2) .nil)))))
  .nil) .nil)
  (.cons
  (.iff (.cmp .eq (.var 3) (.cst (.int (4)))) (.cons
  (.ret (.tup (.cons (.var 7) (.cons (.var 5) (.cons (.var 2) .nil)))))
  .nil) .nil)
  (.cons
  (.iff (.cmp .eq (.var 3) (.cst (.int (5)))) (.cons
  (.ret (.tup (.cons (.var 2) (.cons (.var 5) (.cons (.var 6) .nil)))))
  .nil) .nil)
  .nil)))))))))))))
noncomputable def bFlags:MSs:=(.cons
  (.assignMut 1 (.list .nil))
  (.cons
  (.forr [2] (.p1 .range (.cst (.int (32)))) (.cons
  (.assign 3 (.bin .shl (.cst (.int (1))) (.var 2)))
  (.cons
  (.iff (.tru (.bin .band (.var 0) (.var 3))) (.cons
  (.append 1 (.p2 .flagGet (.var 3) (.p1 .hex (.var 3))))
  (.cons
  (.aug .bxor 0 (.var 3))
  (.cons
  (.iff (.not (.tru (.var 0))) (.cons
  .brk
  .nil) .nil)
  .nil))) .nil)
  .nil)) (.cons
  (.append 1 (.p1 .hex (.var 0)))
  .nil))
  (.cons
  (.ret (.p2 .join (.cst (.str (Str.ofString ", "))) (.var 1)))
  .nil)))
noncomputable def bPv:MSs:=(.cons
  (.assign 1 (.next 0))
  (.cons
  (.assign 2 (.bin .band (.var 1) (.cst (.int (63)))))
  (.cons
  (.while (.tru (.bin .band (.var 1) (.cst (.int (64))))) (.cons
  (.aug .shl 2 (.cst (.int (6))))
  (.cons
  (.assign 1 (.next 0))
  (.cons
  (.aug .bor 2 (.bin .band (.var 1) (.cst (.int (63)))))
  .nil))))
  (.cons
  (.ret (.var 2))
  .nil))))
noncomputable def bWords:MSs:=(.cons
  (.assign 1 (.list (.cons (.cst (.str (Str.ofString "OPTIMIZED"))) (.cons (.cst (.str (Str.ofString "NEWLOCALS"))) (.cons (.cst (.str (Str.ofString "VARARGS"))) (.cons (.cst (.str (Str.ofString "VARKEYWORDS"))) (.cons (.cst (.str (Str.ofString "NESTED"))) (.cons (.cst (.str (Str.ofString "GENERATOR"))) (.cons (.cst (.str (Str.ofString "NOFREE"))) (.cons (.cst (.str (Str.ofString "COROUTINE"))) (.cons (.cst (.str (Str.ofString "ITERABLE_COROUTINE"))) (.cons (.cst (.str (Str.ofString "ASYNC_GENERATOR"))) .nil))))))))))))
  (.cons
  (.ret (.comp (.ite (.cmp .lt (.var 2) (.cst (.int (10)))) (.idx (.var 1) (.var 2)) (.bin .add (.bin .add (.cst (.str (Str.ofString "0x"))) (.idx (.cst (.str (Str.ofString "1248"))) (.bin .mod (.var 2) (.cst (.int (4)))))) (.bin .mul (.cst (.str (Str.ofString "0"))) (.bin .fdiv (.var 2) (.cst (.int (4))))))) (.var 0) .tt))
  .nil))
noncomputable def bList:MSs:=(.cons
  (.multi [(2,true),(3,false)] (.cons (.p1 .listOf (.p1 .range (.var 1))) (.cons (.cst (.int (0))) .nil)))
  (.cons
  (.forr [4] (.tup (.cons (.var 1) (.cons (.bin .sub (.var 1) (.cst (.int (1)))) (.cons (.bin .sub (.var 1) (.cst (.int (2)))) .nil)))) (.cons
  (.aug .add 3 (.bin .pow (.cst (.int (2))) (.pop 2 (.bin .mod (.var 0) (.var 4)))))
  (.cons
  (.assign 0 (.bin .fdiv (.var 0) (.var 4)))
  .nil)) .nil)
  (.cons
  (.ret (.var 3))
  .nil)))
noncomputable def bTape:MSs:=(.cons
  (.assignMut 2 (.list .nil))
  (.cons
  (.forEnum 3 4 (.var 0) (.cons
  (.assign 6 (.bin .add (.idx (.comp (.var 8) (.p2 .range (.cst (.int (1))) (.cst (.int (8)))) (.cmp .lt (.var 4) (.bin .pow (.cst (.int (64))) (.var 8)))) (.cst (.int (0)))) (.bin .mod (.bin .add (.var 1) (.var 3)) (.cst (.int (3))))))
  (.cons
  (.forr [5] (.p1 .range (.var 6)) (.cons
  (.assign 7 (.bin .mod (.bin .fdiv (.var 4) (.bin .pow (.cst (.int (64))) (.bin .sub (.bin .sub (.var 6) (.cst (.int (1)))) (.var 5)))) (.cst (.int (64)))))
  (.cons
  (.append 2 (.bin .add (.bin .add (.var 7) (.ite (.cmp .lt (.var 5) (.bin .sub (.var 6) (.cst (.int (1))))) (.cst (.int (64))) (.cst (.int (0))))) (.bin .mul (.cst (.int (128))) (.bin .mod (.bin .add (.var 1) (.var 5)) (.cst (.int (2)))))))
  .nil)) .nil)
  .nil)))
  (.cons
  (.ret (.p1 .bytesOf (.bin .add (.var 2) (.bin .mul (.list (.cons (.cst (.int (70))) .nil)) (.bin .mod (.var 1) (.cst (.int (2))))))))
  .nil)))
noncomputable def bRank:MSs:=(.cons
  (.unpack [3,4,5] (.call .hsvRgb (.cons (.bin .tdiv (.bin .add (.bin .mul (.cst (.int (2))) (.var 0)) (.bin .mod (.var 2) (.cst (.int (2))))) (.cst (.int (6)))) (.cons (.bin .tdiv (.bin .add (.cst (.int (1))) (.bin .mod (.bin .fdiv (.var 2) (.cst (.int (2)))) (.cst (.int (4))))) (.cst (.int (4)))) (.cons (.bin .tdiv (.bin .add (.cst (.int (1))) (.bin .mod (.bin .fdiv (.var 2) (.cst (.int (8)))) (.cst (.int (4))))) (.cst (.int (4)))) .nil)))))
  (.cons
  (.unpack [6,7,8] (.call .rgbHls (.cons (.var 3) (.cons (.var 4) (.cons (.var 5) .nil)))))
  (.cons
  (.unpack [3,4,5] (.call .hlsRgb (.cons (.bin .add (.var 6) (.bin .tdiv (.var 1) (.cst (.int (3))))) (.cons (.var 7) (.cons (.var 8) .nil)))))
  (.cons
  (.unpack [6,9,10] (.call .rgbHsv (.cons (.var 3) (.cons (.var 4) (.cons (.var 5) .nil)))))
  (.cons
  (.ret (.list (.cons (.bin .fdiv (.bin .mod (.bin .sub (.bin .fdiv (.p1 .intf (.bin .add (.bin .mul (.cst (.int (12))) (.var 6)) (.cst (.int (1))))) (.cst (.int (2)))) (.bin .mod (.var 2) (.cst (.int (2))))) (.cst (.int (6)))) (.cst (.int (2)))) (.cons (.bin .fdiv (.p1 .intf (.bin .add (.bin .mul (.cst (.int (8))) (.var 9)) (.cst (.int (1))))) (.cst (.int (2)))) (.cons (.bin .fdiv (.p1 .intf (.bin .add (.bin .mul (.cst (.int (8))) (.var 10)) (.cst (.int (1))))) (.cst (.int (2)))) .nil)))))
  .nil)))))
noncomputable def bBest:MSs:=(.cons
  (.assign 4 (.list .nil))
  (.cons
  (.forr [5] (.p1 .range (.cst (.int (3)))) (.cons
  (.assign 6 (.comp (.var 7) (.var 0) (.cmp .eq (.idx (.tup (.cons (.bin .fdiv (.var 7) (.cst (.int (3)))) (.cons (.bin .mod (.var 7) (.cst (.int (3)))) .nil))) (.var 3)) (.var 5))))
  (.cons
  (.assign 4 (.bin .add (.var 4) (.comp (.var 7) (.var 6) (.cmp .eq (.comp (.var 8) (.var 6) (.cmp .eq (.call .compare (.cons (.var 2) (.cons (.idx (.var 1) (.var 8)) (.cons (.idx (.var 1) (.var 7)) .nil)))) (.neg (.cst (.int (1)))))) (.list .nil)))))
  .nil)) .nil)
  (.cons
  (.ret (.var 4))
  .nil)))
noncomputable def bFirm:MSs:=(.cons
  (.assign 4 (.var 0))
  (.cons
  (.forr [5] (.p1 .range (.cst (.int (10)))) (.cons
  (.assign 6 (.call .best (.cons (.var 4) (.cons (.var 1) (.cons (.idx (.var 2) (.var 3)) (.cons (.var 3) .nil))))))
  (.cons
  (.assign 7 (.call .best (.cons (.var 6) (.cons (.var 1) (.cons (.idx (.var 2) (.bin .sub (.cst (.int (1))) (.var 3))) (.cons (.bin .sub (.cst (.int (1))) (.var 3)) .nil))))))
  (.cons
  (.iff (.cmp .eq (.p1 .len (.var 7)) (.p1 .len (.var 6))) (.cons
  (.ret (.var 7))
  .nil) .nil)
  (.cons
  (.assign 4 (.comp (.var 8) (.var 4) (.or (.cmp .notin (.var 8) (.var 6)) (.cmp .isin (.var 8) (.var 7)))))
  .nil)))) .nil)
  (.cons
  (.ret (.list .nil))
  .nil)))
noncomputable def bPainted:MSs:=(.cons
  (.assign 5 (.comp (.tup (.cons (.bin .mul (.cst (.int (2))) (.bin .mod (.bin .add (.idx (.var 2) (.var 13)) (.cst (.int (1)))) (.cst (.int (2))))) (.cons (.var 13) (.cons (.bin .mul (.cst (.int (2))) (.bin .fdiv (.idx (.var 2) (.var 13)) (.cst (.int (2))))) .nil)))) (.p1 .range (.cst (.int (9)))) .tt))
  (.cons
  (.assign 6 (.list (.cons (.call .mk (.cons (.list (.cons (.tup (.cons (.cst (.int (2))) (.cons (.neg (.cst (.int (1)))) .nil))) (.cons (.tup (.cons (.cst (.int (0))) (.cons (.cst (.int (1))) .nil))) .nil))) .nil)) (.cons (.call .mk (.cons (.list (.cons (.tup (.cons (.cst (.int (2))) (.cons (.cst (.int (1))) .nil))) (.cons (.tup (.cons (.cst (.int (0))) (.cons (.neg (.cst (.int (1)))) .nil))) .nil))) .nil)) .nil))))
  (.cons
  (.assignMut 7 (.dict0 false))
  (.cons
  (.forr [8] (.var 1) (.cons
  (.assign 9 (.comp (.var 13) (.p1 .range (.cst (.int (9)))) (.and (.cmp .notin (.var 13) (.var 7)) (.cmp .isin (.var 8) (.idx (.var 0) (.var 13))))))
  (.cons
  (.assign 10 (.call .firm (.cons (.var 9) (.cons (.var 5) (.cons (.var 6) (.cons (.var 3) .nil))))))
  (.cons
  (.forr [4] (.var 9) (.cons
  (.assign 11 (.comp (.var 13) (.var 10) (.or (.and (.cmp .eq (.bin .fdiv (.var 13) (.cst (.int (3)))) (.bin .fdiv (.var 4) (.cst (.int (3))))) (.cmp .gt (.idx (.var 2) (.var 13)) (.idx (.var 2) (.var 4)))) (.and (.cmp .eq (.bin .mod (.var 13) (.cst (.int (3)))) (.bin .mod (.var 4) (.cst (.int (3))))) (.cmp .lt (.idx (.var 2) (.var 13)) (.idx (.var 2) (.var 4)))))))
  (.cons
  (.assign 12 (.comp (.call .compare (.cons (.idx (.var 6) (.ite (.cmp .eq (.bin .fdiv (.var 13) (.cst (.int (3)))) (.bin .fdiv (.var 4) (.cst (.int (3))))) (.cst (.int (0))) (.cst (.int (1))))) (.cons (.idx (.var 5) (.var 4)) (.cons (.idx (.var 5) (.var 13)) .nil)))) (.bin .add (.var 11) (.list (.cons (.var 4) .nil))) .tt))
  (.cons
  (.iff (.or (.cmp .ne (.var 12) (.bin .add (.bin .mul (.list (.cons (.cst (.int (1))) .nil)) (.p1 .len (.var 11))) (.list (.cons (.cst (.int (0))) .nil)))) (.and (.cmp .notin (.var 4) (.var 10)) (.cmp .eq (.var 11) (.list .nil)))) (.cons
  (.ret (.dict0 false))
  .nil) .nil)
  .nil))) .nil)
  (.cons
  (.forr [4] (.var 10) (.cons
  (.setitem 7 (.var 4) (.var 8))
  .nil) .nil)
  .nil)))) .nil)
  (.cons
  (.ret (.var 7))
  .nil)))))
noncomputable def bTables:MSs:=(.cons
  (.assignMut 2 (.comp (.dict0 true) (.p1 .range (.cst (.int (7)))) .tt))
  (.cons
  (.forr [3] (.var 0) (.cons
  (.forr [1] (.tup (.cons (.bin .fdiv (.var 3) (.cst (.int (3)))) (.cons (.bin .add (.cst (.int (3))) (.bin .mod (.var 3) (.cst (.int (3))))) (.cons (.cst (.int (6))) .nil)))) (.cons
  (.assign 4 (.dict1 (.idx (.var 0) (.var 3)) (.cst (.int (1)))))
  (.cons
  (.assign 5 (.tup (.cons (.p1 .dictOf (.idx (.var 2) (.var 1))) (.cons (.p1 .dictOf (.var 4)) .nil))))
  (.cons
  (.assign 6 (.call .addCallers (.cons (.idx (.var 2) (.var 1)) (.cons (.var 4) .nil))))
  (.cons
  (.iff (.cmp .ne (.tup (.cons (.idx (.var 2) (.var 1)) (.cons (.var 4) .nil))) (.var 5)) (.cons
  (.ret (.list .nil))
  .nil) .nil)
  (.cons
  (.setitem 2 (.var 1) (.var 6))
  .nil))))) .nil)
  .nil) .nil)
  (.cons
  (.ret (.var 2))
  .nil)))
noncomputable def bLaw:MSs:=(.cons
  (.assignMut 1 (.list (.cons (.cst (.int (0))) (.cons (.cst (.int (12))) (.cons (.cst (.int (23))) (.cons (.cst (.int (16))) (.cons (.cst (.int (3))) (.cons (.cst (.int (1))) (.cons (.cst (.int (23))) (.cons (.cst (.int (16))) (.cons (.cst (.int (2))) (.cons (.cst (.int (748855))) .nil))))))))))))
  (.cons
  (.forEnum 2 3 (.cut (.var 0) 60) (.cons
  (.augitem 1 (.bin .mod (.var 2) (.cst (.int (10)))) (.var 3))
  .nil))
  (.cons
  (.multi [(4,false),(5,false)] (.cons (.idx (.var 1) (.cst (.int (9)))) (.cons (.bin .fdiv (.idx (.var 1) (.cst (.int (9)))) (.cst (.int (57600)))) .nil)))
  (.cons
  (.multi [(6,false),(7,false)] (.cons (.bin .add (.cst (.int (3))) (.bin .mod (.var 4) (.cst (.int (6))))) (.cons (.bin .mod (.bin .fdiv (.var 4) (.cst (.int (6)))) (.cst (.int (25)))) .nil)))
  (.cons
  (.assign 8 (.comp (.call .list (.cons (.idx (.var 1) (.var 24)) (.cons (.var 6) .nil))) (.p1 .range (.cst (.int (9)))) .tt))
  (.cons
  (.assign 9 (.comp (.bin .mul (.var 24) (.bin .pow (.cst (.int (2))) (.var 7))) (.var 8) .tt))
  (.cons
  (.assignMut 10 (.p1 .iterb (.call .tape (.cons (.var 9) (.cons (.var 5) .nil)))))
  (.cons
  (.assignMut 11 (.comp (.pvar 10) (.p1 .range (.cst (.int (9)))) .tt))
  (.cons
  (.try (.cons
  (.append 11 (.pvar 10))
  .nil) (.cons
  (.append 11 (.neg (.cst (.int (1)))))
  .nil))
  (.cons
  (.assign 12 (.comp (.p2 .split (.call .flags (.cons (.var 24) .nil)) (.cst (.str (Str.ofString ", ")))) (.cut (.var 11) 9) .tt))
  (.cons
  (.assign 13 (.p2 .split (.call .flags (.cons (.bin .add (.bin .mul (.bin .sub (.bin .pow (.cst (.int (2))) (.var 6)) (.cst (.int (1)))) (.bin .pow (.cst (.int (2))) (.var 7))) (.bin .mul (.cst (.int (5))) (.bin .pow (.cst (.int (2))) (.cst (.int (33)))))) .nil)) (.cst (.str (Str.ofString ", ")))))
  (.cons
  (.assign 14 (.comp (.call .words (.cons (.comp (.bin .add (.var 7) (.var 25)) (.p1 .range (.var 6)) (.cmp .eq (.bin .mod (.bin .fdiv (.var 24) (.bin .pow (.cst (.int (2))) (.var 25))) (.cst (.int (2)))) (.cst (.int (1))))) .nil)) (.bin .add (.var 8) (.list (.cons (.bin .sub (.bin .pow (.cst (.int (2))) (.var 6)) (.cst (.int (1)))) .nil))) .tt))
  (.cons
  (.iff (.or (.cmp .ne (.var 11) (.bin .add (.var 9) (.list (.cons (.neg (.cst (.int (1)))) .nil)))) (.or (.cmp .ne (.var 12) (.cut (.var 14) 9)) (.cmp .ne (.var 13) (.bin .add (.idx (.var 14) (.cst (.int (9)))) (.list (.cons (.bin .add (.cst (.str (Str.ofString "0xa"))) (.bin .mul (.cst (.str (Str.ofString "0"))) (.cst (.int (8))))) .nil)))))) (.cons
  (.ret (.cst (.bool false)))
  .nil) .nil)
  (.cons
  (.multi [(15,false),(16,false),(17,false)] (.cons (.bin .add (.cst (.int (1))) (.bin .mod (.bin .fdiv (.var 4) (.cst (.int (150)))) (.cst (.int (2))))) (.cons (.bin .add (.cst (.int (1))) (.bin .mod (.bin .fdiv (.var 4) (.cst (.int (300)))) (.cst (.int (2))))) (.cons (.bin .mod (.bin .fdiv (.var 4) (.cst (.int (600)))) (.cst (.int (3)))) .nil))))
  (.cons
  (.assign 18 (.comp (.call .rank (.cons (.bin .add (.bin .mul (.var 15) (.bin .fdiv (.var 24) (.cst (.int (3))))) (.var 17)) (.cons (.bin .mul (.var 16) (.bin .mod (.var 24) (.cst (.int (3))))) (.cons (.var 5) .nil)))) (.p1 .range (.cst (.int (9)))) .tt))
  (.cons
  (.assign 19 (.comp (.bin .mod (.bin .add (.bin .add (.bin .mul (.var 15) (.bin .fdiv (.var 24) (.cst (.int (3))))) (.bin .mul (.var 16) (.bin .mod (.var 24) (.cst (.int (3)))))) (.var 17)) (.cst (.int (3)))) (.p1 .range (.cst (.int (9)))) .tt))
  (.cons
  (.iff (.cmp .ne (.var 18) (.comp (.list (.cons (.var 24) (.cons (.bin .add (.cst (.int (1))) (.bin .mod (.bin .fdiv (.var 5) (.cst (.int (2)))) (.cst (.int (4))))) (.cons (.bin .add (.cst (.int (1))) (.bin .mod (.bin .fdiv (.var 5) (.cst (.int (8)))) (.cst (.int (4))))) .nil)))) (.var 19) .tt)) (.cons
  (.ret (.cst (.bool false)))
  .nil) .nil)
  (.cons
  (.assign 20 (.comp (.idx (.var 13) (.bin .mod (.bin .add (.bin .fdiv (.var 4) (.cst (.int (1800)))) (.bin .mul (.ite (.cmp .eq (.bin .mod (.bin .fdiv (.var 4) (.cst (.int (14400)))) (.cst (.int (2)))) (.cst (.int (0)))) (.cst (.int (1))) (.bin .sub (.var 6) (.cst (.int (1))))) (.var 24))) (.var 6))) (.p1 .range (.var 6)) .tt))
  (.cons
  (.assign 21 (.call .painted (.cons (.var 12) (.cons (.var 20) (.cons (.comp (.idx (.var 24) (.cst (.int (0)))) (.var 18) .tt) (.cons (.bin .mod (.bin .fdiv (.var 4) (.cst (.int (28800)))) (.cst (.int (2)))) .nil))))))
  (.cons
  (.multi [(22,false),(23,false)] (.cons (.call .tables (.cons (.var 21) .nil)) (.cons (.p1 .listOf (.view .values (.var 21))) .nil)))
  (.cons
  (.iff (.or (.cmp .ne (.comp (.p1 .sortedOf (.view .values (.var 24))) (.cut (.var 22) 6) .tt) (.bin .mul (.list (.cons (.list (.cons (.cst (.int (1))) (.cons (.cst (.int (1))) (.cons (.cst (.int (1))) .nil)))) .nil)) (.cst (.int (6))))) (.cmp .ne (.comp (.call .countCalls (.cons (.var 24) .nil)) (.var 22) .tt) (.bin .add (.bin .mul (.list (.cons (.cst (.int (3))) .nil)) (.cst (.int (6)))) (.list (.cons (.cst (.int (9))) .nil))))) (.cons
  (.ret (.cst (.bool false)))
  .nil) .nil)
  (.cons
  (.ret (.cmp .eq (.p1 .listOf (.view .items (.idx (.var 22) (.cst (.int (6)))))) (.comp (.tup (.cons (.var 24) (.cons (.p2 .count (.var 23) (.var 24)) .nil))) (.var 20) (.cmp .isin (.var 24) (.var 23)))))
  .nil))))))))))))))))))))))
noncomputable def bCompare:MSs:=(.cons
  (.forr [3,4] (.p1 .attr (.var 0)) (.cons
  (.assign 5 (.idx (.var 1) (.var 3)))
  (.cons
  (.assign 6 (.idx (.var 2) (.var 3)))
  (.cons
  (.iff (.cmp .lt (.var 5) (.var 6)) (.cons
  (.ret (.neg (.var 4)))
  .nil) .nil)
  (.cons
  (.iff (.cmp .gt (.var 5) (.var 6)) (.cons
  (.ret (.var 4))
  .nil) .nil)
  .nil)))) .nil)
  (.cons
  (.ret (.cst (.int (0))))
  .nil))
end Mine
set_option genCtorIdx false
set_option genSizeOf false
set_option genInjectivity false
namespace Mine
open PySem PyProof.Rows PySem.W
structure GG where
  prog:Program
  w:World
  C:Addr
  K:Frag
  fI:Addr
  fC:Addr
noncomputable def RepS (x:AV) (v:Value):Prop:=@AV.casesOn (fun _=>Prop) x (v=.none) (fun b=>v=.bool b) (fun i=>∃ t,v=.int i t) (fun x=>∃ t,v=.float x t) (fun s=>∃ t,v=.str s t) (fun b=>∃ t,v=.bytes b.toArray t) (fun _=>False) (fun _=>False) (fun _ _=>False) (fun _ _=>False) (fun _ _=>False) (fun _=>False) (fun _=>False) (fun _=>False) (fun _ _=>False) (fun _=>False)
mutual
noncomputable def RepC (g:GG) (h:Heap) (X:Addr→Prop):AV→Addr→Prop
  | .tup xs,a=>∃ vs:List Value,h.IsTuple a vs.toArray∧RepVs g h X xs vs
  | .list xs,a=>∃ vs:List Value,h.PlainList a vs.toArray∧RepVs g h X xs vs
  | .arg xs,a=>∃ vs:List Value,h.IsList a vs.toArray∧RepVs g h X xs vs
  | .dictI ks vs,a=>∃ kvs ep,(a == sysModules)=false∧h.DictAt (intKind g.prog g.w) a kvs ep∧kvs.map (·.1)=ks∧RepVs g h X vs (kvs.map (·.2))
  | .dictS ks vs,a=>∃ kvs ep,(a == sysModules)=false∧h.DictAt (strKind g.prog g.w) a kvs ep∧kvs.map (·.1)=ks∧RepVs g h X vs (kvs.map (·.2))
  | .range x y,a=>∃ t u v,IsRange h a x y 1 t u v
  | .items d,a=>∃ e,h.IsItemsView a e∧¬ X e∧RepC g h X d e
  | .vals d,a=>∃ e,h.IsValuesView a e∧¬ X e∧RepC g h X d e
  | .inst xs,a=>∃ dx es n l,h.get? a=some (instObj g.C dx)∧h.get? dx=some (dictOf es n)∧getL "comp_select_list" es=some (some (.ref l))∧getL "compare" es=some none∧¬ X dx∧¬ X l ∧
      ∃ vs:List Value,h.PlainList l vs.toArray∧RepVs g h X xs vs
  | .biter b p,a=>(∃ t,PySem.W.KBw.IsBytesIter h a b.toArray t p)∨(b.length < p∧∃ o,h.get? a=some o)
  | .none,_ | .bool _,_ | .int _,_ | .flt _,_ | .str _,_ | .bytes _,_=>False
noncomputable def RepVs (g:GG) (h:Heap) (X:Addr→Prop):List AV→List Value→Prop
  | [],vs=>vs=[]
  | x::xs,vs=>∃ v r,vs=v::r∧(RepS x v∨∃ a,v=.ref a∧¬ X a∧RepC g h X x a)∧RepVs g h X xs r
end
noncomputable def RepV (g:GG) (h:Heap) (X:Addr→Prop) (x:AV) (v:Value):Prop:=RepS x v∨∃ a,v=.ref a∧¬ X a∧RepC g h X x a
noncomputable def RView (g:GG) (h:Heap) (X:Addr→Prop) (x:AV) (v:Value):Prop:=RepS x v∨∃ a,v=.ref a∧RepC g h X x a
theorem RepVs_nil {g:GG} {h:Heap} {X:Addr→Prop} {vs:List Value}:RepVs g h X [] vs↔vs=[]:=Iff.rfl
theorem RepVs_cons {g:GG} {h:Heap} {X:Addr→Prop} {x:AV} {xs:List AV} {vs:List Value}:RepVs g h X (x::xs) vs↔∃ v r,vs=v::r∧RepV g h X x v∧RepVs g h X xs r:=Iff.rfl
theorem RepVs.length {g:GG} {h:Heap} {X:Addr→Prop} {xs:List AV}:∀ {vs:List Value},RepVs g h X xs vs→vs.length=xs.length:=by
  induction xs with
  | nil=>exact fun e=>congrArg List.length e
  | cons x xs ih=>exact fun ⟨_,_,q,_,e⟩=>q ▸ congrArg (·+1) (ih e)
theorem RepV.view {g:GG} {h:Heap} {X:Addr→Prop} {x:AV} {v:Value} (e:RepV g h X x v):RView g h X x v :=
  e.elim .inl fun ⟨a,b,_,c⟩=>.inr ⟨a,b,c⟩
theorem RepC.alive {g:GG} {h:Heap} {X:Addr→Prop} {x:AV} {a:Addr} (e:RepC g h X x a):∃ o,h.get? a=some o:=by
  cases x with
  | tup xs=>exact e.elim fun _ e=>e.1.elim fun o e=>⟨o,e.1⟩
  | list xs=>exact e.elim fun _ e=>e.1.elim fun _ e=>⟨_,e⟩
  | arg xs=>exact e.elim fun _ e=>e.1.elim fun o e=>⟨o,e.1⟩
  | dictI ks vs=>exact e.elim fun _ e=>e.elim fun _ e=>e.2.1.elim fun o e=>e.elim fun _ e=>⟨o,e.1⟩
  | dictS ks vs=>exact e.elim fun _ e=>e.elim fun _ e=>e.2.1.elim fun o e=>e.elim fun _ e=>⟨o,e.1⟩
  | range x y=>exact e.elim fun _ e=>e.elim fun _ e=>e.elim fun _ e=>⟨_,e⟩
  | items d=>exact e.elim fun _ e=>e.1.elim fun o e=>⟨o,e.1⟩
  | vals d=>exact e.elim fun _ e=>e.1.elim fun o e=>⟨o,e.1⟩
  | inst xs=>exact e.elim fun _ e=>e.elim fun _ e=>e.elim fun _ e=>e.elim fun _ e=>⟨_,e.1⟩
  | biter b p=>exact e.elim (fun e=>e.elim fun _ e=>e.elim fun o e=>⟨o,e.1⟩) fun e=>e.2
  | none | bool _ | int _ | flt _ | str _ | bytes _=>exact False.elim e
noncomputable def Move (h h':Heap) (X X':Addr→Prop):Prop:=∀ b o,¬ X b→h.get? b=some o→h'.get? b=some o∧¬ X' b
section
variable {g:GG} {h h':Heap} {X X':Addr→Prop}
mutual
theorem RepC.move (k:Move h h' X X'):∀ {x:AV} {a:Addr},RepC g h X x a→(∀ o,h.get? a=some o→h'.get? a=some o)→RepC g h' X' x a
  | .tup xs,a,e,ka=>by
    obtain ⟨vs,⟨o,ho,r⟩,q⟩:=e
    exact ⟨vs,⟨o,ka o ho,r⟩,RepVs.move k q⟩
  | .list xs,a,e,ka=>by
    obtain ⟨vs,⟨n,ho⟩,q⟩:=e
    exact ⟨vs,⟨n,ka _ ho⟩,RepVs.move k q⟩
  | .arg xs,a,e,ka=>by
    obtain ⟨vs,⟨o,ho,r⟩,q⟩:=e
    exact ⟨vs,⟨o,ka o ho,r⟩,RepVs.move k q⟩
  | .dictI ks vs,a,e,ka=>by
    obtain ⟨kvs,ep,lo,⟨o,es,ho,r⟩,ek,q⟩:=e
    exact ⟨kvs,ep,lo,⟨o,es,ka o ho,r⟩,ek,RepVs.move k q⟩
  | .dictS ks vs,a,e,ka=>by
    obtain ⟨kvs,ep,lo,⟨o,es,ho,r⟩,ek,q⟩:=e
    exact ⟨kvs,ep,lo,⟨o,es,ka o ho,r⟩,ek,RepVs.move k q⟩
  | .range x y,a,e,ka=>by
    obtain ⟨t,u,v,r⟩:=e
    exact ⟨t,u,v,ka _ r⟩
  | .items d,a,e,ka=>by
    obtain ⟨e,⟨o,ho,r⟩,x,q⟩:=e
    obtain ⟨o',ho'⟩:=RepC.alive q
    exact ⟨e,⟨o,ka o ho,r⟩,(k _ _ x ho').2,RepC.move k q fun o ho=>(k _ _ x ho).1⟩
  | .vals d,a,e,ka=>by
    obtain ⟨e,⟨o,ho,r⟩,x,q⟩:=e
    obtain ⟨o',ho'⟩:=RepC.alive q
    exact ⟨e,⟨o,ka o ho,r⟩,(k _ _ x ho').2,RepC.move k q fun o ho=>(k _ _ x ho).1⟩
  | .inst xs,a,e,ka=>by
    obtain ⟨dx,es,n,l,e1,e2,e3,e4,x1,x2,vs,⟨m,ho⟩,q⟩:=e
    exact ⟨dx,es,n,l,ka _ e1,(k _ _ x1 e2).1,e3,e4,(k _ _ x1 e2).2,(k _ _ x2 ho).2,vs,⟨m,(k _ _ x2 ho).1⟩,RepVs.move k q⟩
  | .biter b p,a,e,ka=>by
    obtain ⟨t,o,ho,r⟩ | ⟨hp,o,ho⟩:=e
    · exact .inl ⟨t,o,ka _ ho,r⟩
    · exact .inr ⟨hp,o,ka _ ho⟩
  | .none,_,e,_=>False.elim e
  | .bool _,_,e,_=>False.elim e
  | .int _,_,e,_=>False.elim e
  | .flt _,_,e,_=>False.elim e
  | .str _,_,e,_=>False.elim e
  | .bytes _,_,e,_=>False.elim e
theorem RepVs.move (k:Move h h' X X'):∀ {xs:List AV} {vs:List Value},RepVs g h X xs vs→RepVs g h' X' xs vs
  | [],_,e=>e
  | _::_,_,e=>e.elim fun v e=>e.elim fun r e=>⟨v,r,e.1,e.2.1.elim .inl fun q=>q.elim fun a q=>.inr ⟨a,q.1,(RepC.alive q.2.2).elim fun o ho=>(k a o q.2.1 ho).2,RepC.move k q.2.2 fun o ho=>(k a o q.2.1 ho).1⟩,RepVs.move k e.2.2⟩
end
theorem RepV.move (k:Move h h' X X') {x:AV} {v:Value} (e:RepV g h X x v):RepV g h' X' x v :=
  e.elim .inl fun q=>q.elim fun a q=>.inr ⟨a,q.1,(RepC.alive q.2.2).elim fun o ho=>(k a o q.2.1 ho).2,RepC.move k q.2.2 fun o ho=>(k a o q.2.1 ho).1⟩
end
noncomputable def Grow (h h':Heap):Prop:=∀ b o,h.get? b=some o→h'.get? b=some o
theorem Grow.refl (h:Heap):Grow h h:=fun _ _ e=>e
theorem Grow.trans {a b c:Heap} (x:Grow a b) (y:Grow b c):Grow a c:=fun _ _ e=>y _ _ (x _ _ e)
theorem Grow.push (h:Heap) (o:Obj):Grow h (h.push o):=fun _ _ e=>Heap.get?_push_of_some o e
noncomputable def Alive (X:Addr→Prop) (h:Heap):Prop:=∀ b,X b→∃ o,h.get? b=some o
theorem Alive.grow {X:Addr→Prop} {h h':Heap} (a:Alive X h) (k:Grow h h'):Alive X h':=fun b x=>let ⟨o,e⟩:=a b x; ⟨o,k _ _ e⟩
theorem Alive.fresh {X:Addr→Prop} {h:Heap} (a:Alive X h) {b:Addr} (e:h.get? b=none):¬ X b:=fun x=>by
  obtain ⟨o,q⟩:=a b x
  rw [e] at q; cases q
theorem get?_size (h:Heap):h.get? h.objs.size=none:=Heap.get?_none_of_le (Nat.le_refl _)
theorem Grow.move {h h':Heap} {X:Addr→Prop} (k:Grow h h'):Move h h' X X:=fun b o x e=>⟨k b o e,x⟩
noncomputable def Ext (O:Addr→Prop) (h h':Heap):Prop:=∀ b o,¬ O b→h.get? b=some o→h'.get? b=some o
theorem Ext.refl {O:Addr→Prop} (h:Heap):Ext O h h:=fun _ _ _ e=>e
theorem Ext.trans {O:Addr→Prop} {a b c:Heap} (x:Ext O a b) (y:Ext O b c):Ext O a c:=fun _ _ n e=>y _ _ n (x _ _ n e)
theorem Grow.ext {O:Addr→Prop} {h h':Heap} (k:Grow h h'):Ext O h h':=fun _ _ _ e=>k _ _ e
theorem Ext.move {O X:Addr→Prop} {h h':Heap} (k:Ext O h h') (ox:∀ b,O b→X b):Move h h' X X:=fun b o x e=>⟨k b o (fun q=>x (ox b q)) e,x⟩
noncomputable def RepM (g:GG) (h:Heap) (X:Addr→Prop) (ρ:List Addr) (m:MV) (v:Value):Prop:=@MV.casesOn (fun _=>Prop) m (fun x=>RepV g h X x v) (fun i=>∃ a,ρ[i]?=some a∧v=.ref a) False
theorem RepM.move {g:GG} {h h':Heap} {X:Addr→Prop} {ρ:List Addr} (k:Move h h' X X) {m:MV} {v:Value} (e:RepM g h X ρ m v):RepM g h' X ρ m v:=by
  cases m with
  | val x=>exact RepV.move k e
  | mu i=>exact e
  | unset=>exact e
structure Muts (g:GG) (h:Heap) (X:Addr→Prop) (ρ:List Addr) (σ:List AV):Prop where
  len:ρ.length=σ.length
  at_:∀ (i:Nat) (c:AV) (a:Addr),σ[i]?=some c→ρ[i]?=some a→RepC g h X c a∧canMut c=true
  mem:∀ a∈ρ,X a
  nodup:ρ.Nodup
theorem Muts.grow {g:GG} {h h':Heap} {X:Addr→Prop} {ρ:List Addr} {σ:List AV} (M:Muts g h X ρ σ) (k:Grow h h'):Muts g h' X ρ σ :=
  ⟨M.len,fun i c a e1 e2=>⟨RepC.move k.move (M.at_ i c a e1 e2).1 fun o e=>k _ _ e,(M.at_ i c a e1 e2).2⟩,M.mem,M.nodup⟩
theorem RepM.view {g:GG} {h:Heap} {X:Addr→Prop} {ρ:List Addr} {σ:List AV} (M:Muts g h X ρ σ) {m:MV} {v:Value} {x:AV} (e:RepM g h X ρ m v) (r:rd σ m=some x):RView g h X x v:=by
  cases m with
  | val y=>cases r; exact RepV.view e
  | mu i =>
    obtain ⟨a,e1,rfl⟩:=e
    exact .inr ⟨a,rfl,(M.at_ i x a r e1).1⟩
  | unset=>cases r
noncomputable def Prim (g:GG) (A:Around) (X:Addr→Prop) (s:Shared) (t:Sem Value) (z:AV):Prop :=
  ∀ (Q:Value→Shared→Prop) (E:Value→Shared→Prop),(∀ v h' tk,Grow s.heap h'→RepV g h' X z v→Q v { s with heap:=h',toks:=tk })→wpAny (model g.prog g.w) A t Q E s
noncomputable def PrimB (g:GG) (A:Around) (s:Shared) (t:Sem Bool) (b:Bool):Prop :=
  ∀ (Q:Bool→Shared→Prop) (E:Value→Shared→Prop),(∀ h' tk,Grow s.heap h'→Q b { s with heap:=h',toks:=tk })→wpAny (model g.prog g.w) A t Q E s
noncomputable def Plus (X:Addr→Prop) (a:Addr):Addr→Prop:=fun b=>X b∨b=a
theorem Grow.plus {X:Addr→Prop} {h h':Heap} {a:Addr} (k:Grow h h') (e:h.get? a=none):Move h h' X (Plus X a):=fun b o n eb=>⟨k b o eb,fun q=>q.elim n fun q=>by subst q; rw [e] at eb; cases eb⟩
theorem Muts.over {g:GG} {h h':Heap} {X:Addr→Prop} {ρ:List Addr} {σ:List AV} {a:Addr} (M:Muts g h X ρ σ) (k:Grow h h') (e:h.get? a=none):Muts g h' (Plus X a) ρ σ :=
  ⟨M.len,fun i c b e1 e2=>⟨RepC.move (k.plus e) (M.at_ i c b e1 e2).1 fun o e=>k _ _ e,(M.at_ i c b e1 e2).2⟩,fun b hb=>.inl (M.mem b hb),M.nodup⟩
noncomputable def FreshV (g:GG) (X:Addr→Prop) (ρ:List Addr) (σ:List AV) (h h':Heap) (m:MV) (v:Value):Prop :=
  ∃ a z,m=.val z∧v=.ref a∧h.get? a=none∧Muts g h' (Plus X a) ρ σ∧RepC g h' (Plus X a) z a
noncomputable def EOK (g:GG) (A:Around) (X:Addr→Prop) (ρ:List Addr) (s:Shared) (t:Sem Value) (r:Res MV) (fr:Bool):Prop :=
  ∀ m σ',r=.ok m σ'→∀ (Q:Value→Shared→Prop) (E:Value→Shared→Prop),
    (∀ v h' tk,Ext (·∈ρ) s.heap h'→Muts g h' X ρ σ'→RepM g h' X ρ m v→(fr=true→FreshV g X ρ σ' s.heap h' m v)→Q v { s with heap:=h',toks:=tk }) →
    wpAny (model g.prog g.w) A t Q E s
noncomputable def TOK (g:GG) (A:Around) (X:Addr→Prop) (ρ:List Addr) (s:Shared) (t:Sem Bool) (r:Res Bool):Prop :=
  ∀ b σ',r=.ok b σ'→∀ (Q:Bool→Shared→Prop) (E:Value→Shared→Prop),
    (∀ h' tk,Ext (·∈ρ) s.heap h'→Muts g h' X ρ σ'→Q b { s with heap:=h',toks:=tk })→wpAny (model g.prog g.w) A t Q E s
noncomputable def LOK (g:GG) (A:Around) (X:Addr→Prop) (ρ:List Addr) (s:Shared) (t:Sem (List Value)) (r:Res (List AV)):Prop :=
  ∀ xs σ',r=.ok xs σ'→∀ (Q:List Value→Shared→Prop) (E:Value→Shared→Prop),
    (∀ vs h' tk,Ext (·∈ρ) s.heap h'→Muts g h' X ρ σ'→RepVs g h' X xs vs→Q vs { s with heap:=h',toks:=tk })→wpAny (model g.prog g.w) A t Q E s
structure EnvOk (h₀:Heap) (c:Ctx) (env:Env) (X:Addr→Prop) (ρ:List Addr):Prop where
  kind:env.scope.kind=.function
  glob:env.globals=mainGlobals
  blt:env.builtins=builtinsNs
  loc:X env.locals
  locρ:env.locals ∉ ρ
  above:h₀.objs.size≤env.locals
  cells:∀ n a,env.cells.lookup n=some a→X a∧a ∉ ρ∧a≠env.locals
  apart:∀ n n' a,env.cells.lookup n=some a→env.cells.lookup n'=some a→n=n'
  kl:∀ n,c.names.lookup n=some .local→env.kindOf n=some .local
  kc:∀ n,c.names.lookup n=some .cell→env.kindOf n=some .cell
  kf:∀ n,c.names.lookup n=some .free→env.kindOf n=some .cell∨env.kindOf n=some .free
  kg:∀ n,c.names.lookup n=some .globalImplicit→env.kindOf n=some .globalImplicit
  slot:∀ n i,c.slots.lookup n=some i→i < c.next
  inj:∀ n n' i,c.slots.lookup n=some i→c.slots.lookup n'=some i→n=n'
structure Vars (g:GG) (c:Ctx) (env:Env) (h:Heap) (X:Addr→Prop) (ρ:List Addr) (ve:List MV):Prop where
  ns:∃ m,h.Ns env.locals m∧∀ n i mv,c.slots.lookup n=some i→ve[i]?=some mv→mv≠.unset→c.names.lookup n=some .local→∃ v,m n=some v∧RepM g h X ρ mv v
  cell:∀ n i,c.slots.lookup n=some i→(c.names.lookup n=some .cell∨c.names.lookup n=some .free)→∃ a vo,env.cells.lookup n=some a∧h.IsCell a vo∧∀ mv,ve[i]?=some mv→mv≠.unset→∃ v,vo=some v∧RepM g h X ρ mv v
  len:ve.length=c.next
structure Stt (g:GG) (h₀:Heap) (c:Ctx) (env:Env) (X:Addr→Prop) (ρ:List Addr) (ve:List MV) (σ:List AV) (h:Heap):Prop where
  keep:Grow h₀ h
  xnew:∀ b,X b→h₀.get? b=none
  alive:Alive X h
  envOk:EnvOk h₀ c env X ρ
  vars:Vars g c env h X ρ ve
  muts:Muts g h X ρ σ
theorem Vars.move {g:GG} {c:Ctx} {env:Env} {h h':Heap} {X:Addr→Prop} {ρ:List Addr} {ve:List MV} {h₀:Heap} (V:Vars g c env h X ρ ve) (O:EnvOk h₀ c env X ρ) (mem:∀ a∈ρ,X a) (k:Ext (·∈ρ) h h'):Vars g c env h' X ρ ve:=by
  have mv:Move h h' X X:=k.move fun b hb=>mem b hb
  refine ⟨?_,fun n i h1 h2=>?_,V.len⟩
  · obtain ⟨m,hn,hm⟩:=V.ns
    refine ⟨m,Heap.Ns.at' hn fun o e=>k _ _ O.locρ e,fun n i mv' h1 h2 h3 h4=>?_⟩
    obtain ⟨v,hv,hr⟩:=hm n i mv' h1 h2 h3 h4
    exact ⟨v,hv,hr.move mv⟩
  · obtain ⟨a,vo,e1,⟨o,ho,hd⟩,e3⟩:=V.cell n i h1 h2
    refine ⟨a,vo,e1,⟨o,k _ _ (O.cells n a e1).2.1 ho,hd⟩,fun mv' q1 q2=>?_⟩
    obtain ⟨v,hv,hr⟩:=e3 mv' q1 q2
    exact ⟨v,hv,hr.move mv⟩
theorem Stt.move {g:GG} {h₀:Heap} {c:Ctx} {env:Env} {X:Addr→Prop} {ρ:List Addr} {ve:List MV} {σ σ':List AV} {h h':Heap} (S:Stt g h₀ c env X ρ ve σ h) (k:Ext (·∈ρ) h h') (M:Muts g h' X ρ σ'):Stt g h₀ c env X ρ ve σ' h':=by
  refine ⟨fun b o e=>k b o (fun hb=>?_) (S.keep b o e),S.xnew,fun b x=>?_,S.envOk,S.vars.move S.envOk S.muts.mem k,M⟩
  · have:=S.xnew b (S.muts.mem b hb)
    rw [this] at e; cases e
  · by_cases hb:b∈ρ
    · obtain ⟨i,hi⟩:=List.mem_iff_getElem?.mp hb
      have hl:i < σ'.length:=by
        rw [← M.len]
        exact (List.getElem?_eq_some_iff.mp hi).1
      exact RepC.alive (M.at_ i (σ'[i]) b (List.getElem?_eq_getElem hl) hi).1
    · obtain ⟨o,e⟩:=S.alive b x
      exact ⟨o,k _ _ hb e⟩
theorem Stt.grow {g:GG} {h₀:Heap} {c:Ctx} {env:Env} {X:Addr→Prop} {ρ:List Addr} {ve:List MV} {σ:List AV} {h h':Heap} (S:Stt g h₀ c env X ρ ve σ h) (k:Grow h h'):Stt g h₀ c env X ρ ve σ h':=S.move k.ext (S.muts.grow k)
theorem Stt.fr {g:GG} {h₀:Heap} {c:Ctx} {env:Env} {X:Addr→Prop} {ρ:List Addr} {ve:List MV} {σ:List AV} {h:Heap} (S:Stt g h₀ c env X ρ ve σ h):∃ m,Fr h₀ env.locals h m :=
  let ⟨m,hn,_⟩:=S.vars.ns; ⟨m,hn,S.keep,S.envOk.above⟩
theorem EOK.of_prim {g:GG} {A:Around} {X:Addr→Prop} {ρ:List Addr} {s:Shared} {t:Sem Value} {z:AV} {σ:List AV} (M:Muts g s.heap X ρ σ) (P:Prim g A X s t z):EOK g A X ρ s t (.ok (.val z) σ) false:=by
  intro m σ' e Q E hQ
  cases e
  exact P Q E fun v h' tk k r=>hQ v h' tk k.ext (M.grow k) r fun e=>nomatch e
theorem op1C {α:Type} {f:AV→Option α} {r:Res MV} {y:α} {σ:List AV} {P:Prop} (e:op1 f r=.ok y σ) (k:∀ m x,r=.ok m σ→rd σ m=some x→f x=some y→P):P :=
  Res.bindC e fun m _ h1 e=>Res.ofC (P:=fun σ=>(∀ m x,r=.ok m σ→rd σ m=some x→f x=some y→P)→P) e (fun e k=>obC e fun x h2 h3=>k m x h1 h2 h3) k
theorem op2C {α:Type} {f:AV→AV→Option α} {r:Res MV} {r':List AV→Res MV} {y:α} {σ:List AV} {P:Prop} (e:op2 f r r'=.ok y σ)
    (k:∀ m σ1 m' x x',r=.ok m σ1→r' σ1=.ok m' σ→rd σ m=some x→rd σ m'=some x'→f x x'=some y→P):P :=
  Res.bindC e fun m σ1 h1 e=>Res.bindC e fun m' _ h2 e=>Res.ofC (P:=fun σ=>(∀ m σ1 m' x x',r=.ok m σ1→r' σ1=.ok m' σ→rd σ m=some x→rd σ m'=some x'→f x x'=some y→P)→P) e
    (fun e k=>obC e fun x h3 e=>obC e fun x' h4 e=>k m σ1 m' x x' h1 h2 h3 h4 e) k
theorem op2vC {α:Type} {f:AV→AV→Option α} {r:Res MV} {r':List AV→Res MV} {y:α} {σ:List AV} {P:Prop} (e:op2v f r r'=.ok y σ)
    (k:∀ x σ1 m' x',r=.ok (.val x) σ1→r' σ1=.ok m' σ→rd σ m'=some x'→f x x'=some y→P):P :=
  Res.bindC e fun m σ1 h1 e=>Res.onC e fun x hx e=>Res.bindC e fun m' _ h2 e=>Res.ofC (P:=fun σ=>(∀ x σ1 m' x',r=.ok (.val x) σ1→r' σ1=.ok m' σ→rd σ m'=some x'→f x x'=some y→P)→P) e
    (fun e k=>obC e fun x' h4 e=>k x σ1 m' x' (MV.val?_inv hx ▸ h1) h2 h4 e) k
theorem op3C {α:Type} {f:AV→AV→AV→Option α} {r:Res MV} {r' r'':List AV→Res MV} {y:α} {σ:List AV} {P:Prop} (e:op3 f r r' r''=.ok y σ)
    (k:∀ m σ1 m' σ2 m'' x x' x'',r=.ok m σ1→r' σ1=.ok m' σ2→r'' σ2=.ok m'' σ→rd σ m=some x→rd σ m'=some x'→rd σ m''=some x''→f x x' x''=some y→P):P :=
  Res.bindC e fun m σ1 h1 e=>Res.bindC e fun m' σ2 h2 e=>Res.bindC e fun m'' _ h3 e=>Res.ofC (P:=fun σ=>(∀ m σ1 m' σ2 m'' x x' x'',r=.ok m σ1→r' σ1=.ok m' σ2→r'' σ2=.ok m'' σ→rd σ m=some x→rd σ m'=some x'→rd σ m''=some x''→f x x' x''=some y→P)→P) e
    (fun e k=>obC e fun x h4 e=>obC e fun x' h5 e=>obC e fun x'' h6 e=>k m σ1 m' σ2 m'' x x' x'' h1 h2 h3 h4 h5 h6 e) k
theorem toMC {o:Option AV} {m:MV} {P:MV→Prop} (e:toM o=some m) (k:∀ z,o=some z→P (.val z)):P m:=omC e fun z h q=>q ▸ k z h
section
variable {g:GG} {A:Around} {X:Addr→Prop} {s:Shared} {h:Heap}
theorem rv_int {i:Int} {v:Value} (e:RView g h X (.int i) v):∃ t,v=.int i t:=e.elim id fun e=>e.elim fun _ e=>False.elim e.2
theorem rv_flt {i:UInt64} {v:Value} (e:RView g h X (.flt i) v):∃ t,v=.float i t:=e.elim id fun e=>e.elim fun _ e=>False.elim e.2
theorem rv_str {i:Str} {v:Value} (e:RView g h X (.str i) v):∃ t,v=.str i t:=e.elim id fun e=>e.elim fun _ e=>False.elim e.2
theorem rv_bool {i:Bool} {v:Value} (e:RView g h X (.bool i) v):v=.bool i:=e.elim id fun e=>e.elim fun _ e=>False.elim e.2
theorem rv_bytes {i:List UInt8} {v:Value} (e:RView g h X (.bytes i) v):∃ t,v=.bytes i.toArray t:=e.elim id fun e=>e.elim fun _ e=>False.elim e.2
theorem rv_list {xs:List AV} {v:Value} (e:RView g h X (.list xs) v):∃ (a:Addr) (vs:List Value),v=.ref a∧h.PlainList a vs.toArray∧RepVs g h X xs vs:=e.elim (fun e=>False.elim e) fun e=>e.elim fun a e=>e.2.elim fun vs q=>⟨a,vs,e.1,q⟩
theorem rv_tup {xs:List AV} {v:Value} (e:RView g h X (.tup xs) v):∃ (a:Addr) (vs:List Value),v=.ref a∧h.IsTuple a vs.toArray∧RepVs g h X xs vs:=e.elim (fun e=>False.elim e) fun e=>e.elim fun a e=>e.2.elim fun vs q=>⟨a,vs,e.1,q⟩
section
variable {P:Value→Prop} {v:Value} {x:AV} {β:Type} {z:β}
theorem iC {f:Int→Option β} (r:RView g h X x v) (e:x.int?.bind f=some z) (k:∀ a t,f a=some z→P (.int a t)):P v :=
  by
  obtain ⟨a,ha,e⟩:=ob_inv e
  cases AV.int?_inv ha
  obtain ⟨t,rfl⟩:=rv_int r
  exact k a t e
theorem fC {f:UInt64→Option β} (r:RView g h X x v) (e:x.flt?.bind f=some z) (k:∀ a t,f a=some z→P (.float a t)):P v :=
  by
  obtain ⟨a,ha,e⟩:=ob_inv e
  cases AV.flt?_inv ha
  obtain ⟨t,rfl⟩:=rv_flt r
  exact k a t e
theorem sC {f:Str→Option β} (r:RView g h X x v) (e:x.str?.bind f=some z) (k:∀ a t,f a=some z→P (.str a t)):P v :=
  by
  obtain ⟨a,ha,e⟩:=ob_inv e
  cases AV.str?_inv ha
  obtain ⟨t,rfl⟩:=rv_str r
  exact k a t e
theorem lC {f:List AV→Option β} (r:RView g h X x v) (e:x.list?.bind f=some z) (k:∀ xs l vs,h.PlainList l vs.toArray→RepVs g h X xs vs→f xs=some z→P (.ref l)):P v :=
  by
  obtain ⟨xs,ha,e⟩:=ob_inv e
  cases AV.list?_inv ha
  obtain ⟨l,vs,rfl,q1,q2⟩:=rv_list r
  exact k xs l vs q1 q2 e
theorem tC {f:List AV→Option β} (r:RView g h X x v) (e:x.tup?.bind f=some z) (k:∀ xs l vs,h.IsTuple l vs.toArray→RepVs g h X xs vs→f xs=some z→P (.ref l)):P v :=
  by
  obtain ⟨xs,ha,e⟩:=ob_inv e
  cases AV.tup?_inv ha
  obtain ⟨l,vs,rfl,q1,q2⟩:=rv_tup r
  exact k xs l vs q1 q2 e
end
section
variable {op:Value→Value→Sem Value} {v v':Value} {x y z:AV}
theorem grdP {t:Sem Value} {b:Bool} {r:AV} (e:grd b r=some z) (k:b=true→Prim g A X s t r):Prim g A X s t z:=(grd_inv e).2 ▸ k (grd_inv e).1
theorem somP {t:Sem Value} {r:AV} (e:some r=some z) (k:Prim g A X s t r):Prim g A X s t z:=Option.some.inj e ▸ k
theorem iiP (op:Value→Value→Sem Value) {f:Int→Int→Option AV} (r:RView g h X x v) (r':RView g h X y v') (e:onII x y f=some z) (k:∀ a t b u,f a b=some z→Prim g A X s (op (.int a t) (.int b u)) z):Prim g A X s (op v v') z :=
  iC (P:=fun v=>Prim g A X s (op v v') z) r e fun a t e=>iC (P:=fun v'=>Prim g A X s (op (.int a t) v') z) r' e fun b u e=>k a t b u e
theorem ffP (op:Value→Value→Sem Value) {f:UInt64→UInt64→Option AV} (r:RView g h X x v) (r':RView g h X y v') (e:onFF x y f=some z) (k:∀ a t b u,f a b=some z→Prim g A X s (op (.float a t) (.float b u)) z):Prim g A X s (op v v') z :=
  fC (P:=fun v=>Prim g A X s (op v v') z) r e fun a t e=>fC (P:=fun v'=>Prim g A X s (op (.float a t) v') z) r' e fun b u e=>k a t b u e
theorem fiP (op:Value→Value→Sem Value) {f:UInt64→Int→Option AV} (r:RView g h X x v) (r':RView g h X y v') (e:onFI x y f=some z) (k:∀ a t b u,f a b=some z→Prim g A X s (op (.float a t) (.int b u)) z):Prim g A X s (op v v') z :=
  fC (P:=fun v=>Prim g A X s (op v v') z) r e fun a t e=>iC (P:=fun v'=>Prim g A X s (op (.float a t) v') z) r' e fun b u e=>k a t b u e
theorem ifP (op:Value→Value→Sem Value) {f:Int→UInt64→Option AV} (r:RView g h X x v) (r':RView g h X y v') (e:onIF x y f=some z) (k:∀ a t b u,f a b=some z→Prim g A X s (op (.int a t) (.float b u)) z):Prim g A X s (op v v') z :=
  iC (P:=fun v=>Prim g A X s (op v v') z) r e fun a t e=>fC (P:=fun v'=>Prim g A X s (op (.int a t) v') z) r' e fun b u e=>k a t b u e
end
theorem rp_int {i:Int} {t:Tok}:RepV g h X (.int i) (.int i t):=.inl ⟨t,rfl⟩
theorem rp_flt {i:UInt64} {t:Tok}:RepV g h X (.flt i) (.float i t):=.inl ⟨t,rfl⟩
theorem rp_str {i:Str} {t:Tok}:RepV g h X (.str i) (.str i t):=.inl ⟨t,rfl⟩
theorem rp_bool {i:Bool}:RepV g h X (.bool i) (.bool i):=.inl rfl
theorem RepVs.append {xs ys:List AV} {vs ws:List Value} (p:RepVs g h X xs vs) (q:RepVs g h X ys ws):RepVs g h X (xs++ys) (vs++ws):=by
  induction xs generalizing vs with
  | nil=>cases p; exact q
  | cons x xs ih=>exact p.elim fun v p=>p.elim fun r p=>p.1 ▸ ⟨v,r++ws,rfl,p.2.1,ih p.2.2⟩
theorem RepVs.flat (n:Nat) {xs:List AV} {vs:List Value} (p:RepVs g h X xs vs):RepVs g h X (List.replicate n xs).flatten (List.replicate n vs).flatten:=by
  induction n with
  | zero=>exact RepVs_nil.mpr rfl
  | succ n ih=>simp only [List.replicate_succ,List.flatten_cons]; exact p.append ih
theorem RepVs.get {xs:List AV} {vs:List Value} (p:RepVs g h X xs vs) {i:Nat} {x:AV} (e:xs[i]?=some x):∃ v,vs[i]?=some v∧RepV g h X x v:=by
  induction xs generalizing vs i with
  | nil=>cases e
  | cons y ys ih =>
    obtain ⟨v,r,rfl,a,b⟩:=RepVs_cons.mp p
    cases i with
    | zero=>cases e; exact ⟨v,rfl,a⟩
    | succ i=>exact ih b (by simpa using e)
theorem RepVs.take (n:Nat) {xs:List AV} {vs:List Value} (p:RepVs g h X xs vs):RepVs g h X (xs.take n) (vs.take n):=by
  induction xs generalizing vs n with
  | nil=>rw [RepVs_nil.mp p]; simpa using RepVs_nil.mpr rfl
  | cons y ys ih =>
    obtain ⟨v,r,rfl,a,b⟩:=RepVs_cons.mp p
    cases n with
    | zero=>exact RepVs_nil.mpr rfl
    | succ n=>exact RepVs_cons.mpr ⟨v,r.take n,rfl,a,ih n b⟩
theorem newList_rep (al:Alive X h) {xs:List AV} {vs:List Value} (p:RepVs g h X xs vs):RepV g (h.push { cls:=.type "list",data:=.seq vs.toArray }) X (.list xs) (.ref h.objs.size):=by
  refine .inr ⟨_,rfl,al.fresh (get?_size h),?_⟩
  exact ⟨vs,⟨0,Heap.get?_push_size _ rfl⟩,p.move (Grow.push h _).move⟩
theorem newTuple_rep (al:Alive X h) {xs:List AV} {vs:List Value} (p:RepVs g h X xs vs):RepV g (h.push { cls:=.type "tuple",data:=.seq vs.toArray }) X (.tup xs) (.ref h.objs.size):=by
  refine .inr ⟨_,rfl,al.fresh (get?_size h),?_⟩
  exact ⟨vs,⟨_,Heap.get?_push_size _ rfl,rfl,0,rfl⟩,p.move (Grow.push h _).move⟩
theorem small62 {n:Int} (e:small n=true):n.natAbs < 2 ^ 62:=of_decide_eq_true e
theorem small_iff {n:Int} (e:small n=true):n.natAbs < 2 ^ 64:=Nat.lt_trans (small62 e) (by decide)
theorem fits_iff {n:Nat} (e:fits n=true):n≤1000000:=of_decide_eq_true e
theorem fits_line {n:Nat} (e:fits n=true):n≤sizeLine:=by
  have:=fits_iff e
  rw [sizeLine_eq]; omega
theorem add_lists_prim {l b:Addr} {vs ws:List Value} {xs ys:List AV} (al:Alive X s.heap) (hl:s.heap.PlainList l vs.toArray) (hb:s.heap.PlainList b ws.toArray) (p:RepVs g s.heap X xs vs) (q:RepVs g s.heap X ys ws)
    (hs:fits (xs++ys).length=true):Prim g A X s (binaryOp .Add (.ref l) (.ref b)) (.list (xs++ys)):=by
  intro Q E hQ
  obtain ⟨n,ho⟩:=hl
  obtain ⟨n2,ho2⟩:=hb
  have hlen:vs.length+ws.length≤sizeLine:=by
    have:=fits_line hs
    rw [List.length_append] at this
    rw [p.length,q.length]; exact this
  refine concat_meets ⟨_,ho,rfl⟩ ⟨_,ho2,rfl⟩ noFill_list_add seq_list_add PySem.F.slot_list_add PySem.F.entry_list_add (PySem.F.args_list_add_2 _ _) (list_addW l b vs.toArray ws.toArray n n2 none none #[] #[] (by simpa using hlen)) ⟨ho,ho2,?_⟩
  have e:vs.toArray++ws.toArray=(vs++ws).toArray:=by simp
  rw [e]
  exact hQ _ _ _ (Grow.push _ _) (newList_rep al (p.append q))
theorem flat_foldl (n:Nat) (vs:List Value):List.foldl (fun (a b:Array Value)=>a++b) #[] (List.replicate n vs.toArray)=((List.replicate n vs).flatten).toArray:=by
  have gen:∀ (n:Nat) (acc:List Value),List.foldl (fun (a b:Array Value)=>a++b) acc.toArray (List.replicate n vs.toArray)=(acc++(List.replicate n vs).flatten).toArray:=by
    intro n
    induction n with
    | zero=>intro acc; simp
    | succ n ih =>
      intro acc
      simp only [List.replicate_succ,List.foldl_cons,List.flatten_cons]
      have e:acc.toArray++vs.toArray=(acc++vs).toArray:=by simp
      rw [e,ih,List.append_assoc]
  simpa using gen n []
theorem mul_list_prim {l:Addr} {vs:List Value} {xs:List AV} {n:Int} {u:Tok} (al:Alive X s.heap) (hl:s.heap.PlainList l vs.toArray) (p:RepVs g s.heap X xs vs)
    (h1:fits n.natAbs=true) (h2:fits (n.natAbs * xs.length)=true):Prim g A X s (binaryOp .Mult (.ref l) (.int n u)) (.list (repeated n xs)):=by
  intro Q E hQ
  obtain ⟨k,ho⟩:=hl
  have b1:=fits_iff h1
  have b2:=fits_iff h2
  have hlen:=p.length
  have hn:n.toNat≤n.natAbs:=by omega
  have hmul:vs.toArray.size * n.toNat≤1000000:=by
    rw [List.size_toArray,hlen,Nat.mul_comm]
    exact Nat.le_trans (Nat.mul_le_mul_right _ hn) b2
  refine wpAny_binaryOp_repeat_ref (T:="list") (U:="int") (by decide) ⟨_,ho,rfl⟩ (fun s'=>typeIs_int s' n u) noFill_list_mul F.fills_int_mul F.slot_int_rmul repeat_list F.slot_int_index.lookup ?_
  refine call_meets F.slot_int_rmul (typeIs_int s n u) F.entry_int_rmul (F.args_int_rmul_2 _ _) (int___rmul___int_list n u l vs.toArray k) ⟨ho,rfl,⟨_,ho,rfl⟩,?_⟩
  refine call_meets F.slot_list_mul ⟨_,ho,rfl⟩ F.entry_list_mul (F.args_list_mul_2 _ _) (AutoListH.list___mul___list_int_3 l vs.toArray k n u ?_ ?_ ?_) ⟨ho,?_⟩
  · simp [Builtin.List.listFitsIndex]; omega
  · omega
  · simp [Builtin.List.listTooLong,sizeLine]
    simp only [List.size_toArray] at hmul
    omega
  · have e:List.foldl (fun x1 x2=>x1++x2) #[] (List.replicate (if vs.toArray.isEmpty=true then 0 else n.toNat) vs.toArray)=((List.replicate n.toNat vs).flatten).toArray:=by
      by_cases he:vs=[]
      · subst he; simp
      · have:vs.toArray.isEmpty=false:=by cases vs with
          | nil=>exact absurd rfl he
          | cons _ _=>rfl
        rw [this]
        simpa using flat_foldl n.toNat vs
    rw [e]
    exact hQ _ _ _ (Grow.push _ _) (newList_rep al (p.flat _))
theorem mul_str_prim {x:Str} {t u:Tok} {n:Int} (h1:fits n.natAbs=true) (h2:(x.length == 1)=true):Prim g A X s (binaryOp .Mult (.str x t) (.int n u)) (.str ⟨(List.replicate n.toNat (x.cps.toList.headD 0)).toArray⟩):=by
  intro Q E hQ
  have b1:=fits_iff h1
  have hx:x.length=1:=by simpa using h2
  obtain ⟨c,hc⟩:∃ c,x=⟨#[c]⟩:=by
    obtain ⟨⟨l⟩⟩:=x
    have:l.length=1:=hx
    match l,this with
    | [c],_=>exact ⟨c,rfl⟩
  subst hc
  have key:∀ k,(List.replicate k #[c]).foldl (·++·) #[]=(List.replicate k c).toArray:=by
    have gen:∀ (k:Nat) (acc:List Nat),(List.replicate k #[c]).foldl (·++·) acc.toArray=(acc++List.replicate k c).toArray:=by
      intro k
      induction k with
      | zero=>intro acc; simp
      | succ k ih =>
        intro acc
        simp only [List.replicate_succ,List.foldl_cons]
        have e:acc.toArray++#[c]=(acc++[c]).toArray:=by simp
        rw [e,ih]; simp
    intro k; simpa using gen k []
  refine P.mul_str ?_ ?_ ?_ ?_
  · have e1:¬ n < -(2 ^ 63:Int):=by omega
    have e2:¬ n ≥ 2 ^ 63:=by omega
    rw [decide_eq_false e1,decide_eq_false e2]; rfl
  · intro a1 _
    rw [hx]
    have hn:0 < n:=by omega
    have:(1:Int)≤(2 ^ 63 - 1) / n:=by
      rw [Int.le_ediv_iff_mul_le hn]; omega
    omega
  · intro a1 _
    rw [hx]
    unfold Builtin.Str.tooLong
    rw [decide_eq_false]
    rw [sizeLine_eq]; omega
  · have done:∀ (y:Str) (t':Tok) h' tk,Grow s.heap h'→y=⟨(List.replicate n.toNat c).toArray⟩→Q (.str y t') { s with heap:=h',toks:=tk }:=by
      intro y t' h' tk k e
      subst e
      exact hQ _ _ _ k rp_str
    by_cases c1:n < 1
    · rw [if_pos c1]
      have e0:n.toNat=0:=by omega
      exact ⟨by decide,done _ _ _ _ (Grow.refl _) (by rw [e0]; rfl)⟩
    · rw [if_neg c1]
      by_cases c2:(n == 1 || (⟨#[c]⟩:Str).length == 0)=true
      · rw [if_pos c2]
        have e1:n=1:=by
          rw [hx] at c2
          simpa using c2
        subst e1
        exact done _ _ _ _ (Grow.refl _) rfl
      · rw [if_neg c2]
        refine ⟨?_,done _ _ _ _ (Grow.refl _) (by rw [key])⟩
        show (List.foldl (·++·) #[] (List.replicate n.toNat #[c])).size≤sizeLine
        rw [key,List.size_toArray,List.length_replicate,sizeLine_eq]
        omega
variable {x y z:AV} {v v':Value}
theorem not_of {b:Bool} (h:(!b)=true):¬ b=true:=by cases b <;> first | exact Bool.false_ne_true | exact absurd h Bool.false_ne_true
theorem nz_of {b:Int} (h:(!decide (b=0))=true):b≠0:=fun e=>not_of h (decide_eq_true e)
theorem and_of {a b:Bool} (h:(a && b)=true):a=true∧b=true:=Bool.and_eq_true_iff.mp h
theorem le6 {b:Int} (h:decide (b≤1000)=true):b≤1000000:=Int.le_trans (of_decide_eq_true h) (by decide)
theorem nzb_of {b:Int} (h:(!decide (b=0))=true):¬ (b == 0)=true:=fun e=>nz_of h (eq_of_beq e)
theorem addP {x y z:AV} {v v':Value} (e:addV x y=some z) (rx:RView g s.heap X x v) (ry:RView g s.heap X y v') (al:Alive X s.heap):Prim g A X s (binaryOp .Add v v') z :=
  orC e (fun e=>iiP (binaryOp .Add) rx ry e fun a t b u e=>somP e fun Q E hQ=>add_int (hQ _ _ _ (Grow.refl _) rp_int)) fun e =>
  orC e (fun e=>ffP (binaryOp .Add) rx ry e fun a t b u e=>somP e fun Q E hQ=>add_float (hQ _ _ _ (Grow.refl _) rp_flt)) fun e =>
  orC e (fun e=>fiP (binaryOp .Add) rx ry e fun a t b u e=>grdP e fun c Q E hQ=>AutoFloatOps.add_fi_1 (not_of c) (hQ _ _ _ (Grow.refl _) rp_flt)) fun e =>
  orC e (fun e=>sC (P:=fun v=>Prim g A X s (binaryOp .Add v v') z) rx e fun a t e=>sC (P:=fun v'=>Prim g A X s (binaryOp .Add (.str a t) v') z) ry e fun b u e=>grdP e fun c Q E hQ=>add_str (hsz:=by
    have:=fits_line c
    rw [Str.length_append] at this
    exact this) fun t' tk=>hQ _ _ _ (Grow.refl _) rp_str) fun e =>
  lC (P:=fun v=>Prim g A X s (binaryOp .Add v v') z) rx e fun _ l vs hl p e=>lC (P:=fun v'=>Prim g A X s (binaryOp .Add (.ref l) v') z) ry e fun _ l' ws hl' q e=>grdP e fun c=>add_lists_prim al hl hl' p q c
theorem subP {x y z:AV} {v v':Value} (e:subV x y=some z) (rx:RView g s.heap X x v) (ry:RView g s.heap X y v'):Prim g A X s (binaryOp .Sub v v') z :=
  orC e (fun e=>iiP (binaryOp .Sub) rx ry e fun a t b u e=>somP e fun Q E hQ=>sub_int (hQ _ _ _ (Grow.refl _) rp_int)) fun e =>
  orC e (fun e=>ffP (binaryOp .Sub) rx ry e fun a t b u e=>somP e fun Q E hQ=>sub_float (hQ _ _ _ (Grow.refl _) rp_flt)) fun e =>
  fiP (binaryOp .Sub) rx ry e fun a t b u e=>grdP e fun c Q E hQ=>AutoFloatOps.sub_fi_1 (not_of c) (hQ _ _ _ (Grow.refl _) rp_flt)
theorem mulP {x y z:AV} {v v':Value} (e:mulV x y=some z) (rx:RView g s.heap X x v) (ry:RView g s.heap X y v') (al:Alive X s.heap):Prim g A X s (binaryOp .Mult v v') z :=
  orC e (fun e=>iiP (binaryOp .Mult) rx ry e fun a t b u e=>grdP e fun c Q E hQ=>mul_int (hQ _ _ _ (Grow.refl _) rp_int) (IntMulOk.of_right (intBits_le (small_iff c)))) fun e =>
  orC e (fun e=>ffP (binaryOp .Mult) rx ry e fun a t b u e=>somP e fun Q E hQ=>mul_float (hQ _ _ _ (Grow.refl _) rp_flt)) fun e =>
  orC e (fun e=>ifP (binaryOp .Mult) rx ry e fun a t b u e=>grdP e fun c Q E hQ=>AutoFloatOps.mul_if_1 (not_of c) (hQ _ _ _ (Grow.refl _) rp_flt)) fun e =>
  orC e (fun e=>lC (P:=fun v=>Prim g A X s (binaryOp .Mult v v') z) rx e fun _ l vs hl p e=>iC (P:=fun v'=>Prim g A X s (binaryOp .Mult (.ref l) v') z) ry e fun b u e=>grdP e fun c=>mul_list_prim al hl p (and_of c).1 (and_of c).2) fun e =>
  sC (P:=fun v=>Prim g A X s (binaryOp .Mult v v') z) rx e fun x t e=>iC (P:=fun v'=>Prim g A X s (binaryOp .Mult (.str x t) v') z) ry e fun b u e=>grdP e fun c=>mul_str_prim (and_of c).1 (and_of c).2
theorem small_log {b:Int} (h:small b=true):b.natAbs.log2 < 1000:=by
  by_cases z:b.natAbs=0
  · rw [z]; decide
  · exact Nat.lt_trans ((Nat.log2_lt z).mpr (small_iff h)) (by decide)
theorem modP {x y z:AV} {v v':Value} (e:modV x y=some z) (rx:RView g s.heap X x v) (ry:RView g s.heap X y v'):Prim g A X s (binaryOp .Mod v v') z :=
  orC e (fun e=>iiP (binaryOp .Mod) rx ry e fun a t b u e=>grdP e fun c Q E hQ=>mod_int' (nz_of c) (hQ _ _ _ (Grow.refl _) rp_int)) fun e =>
  ffP (binaryOp .Mod) rx ry e fun a t b u e=>grdP e fun c Q E hQ=>AutoFloatOps.mod_1 (not_of c) (hQ _ _ _ (Grow.refl _) rp_flt)
theorem tdivP {x y z:AV} {v v':Value} (e:tdivV x y=some z) (rx:RView g s.heap X x v) (ry:RView g s.heap X y v'):Prim g A X s (binaryOp .Div v v') z :=
  orC e (fun e=>iiP (binaryOp .Div) rx ry e fun a t b u e=>grdP e fun c Q E hQ=>AutoIntOps.truediv_2 (nzb_of (and_of c).1) (not_of (and_of c).2) (hQ _ _ _ (Grow.refl _) rp_flt)) fun e =>
  ffP (binaryOp .Div) rx ry e fun a t b u e=>grdP e fun c Q E hQ=>AutoFloatOps.truediv_1 (not_of c) (hQ _ _ _ (Grow.refl _) rp_flt)
theorem binP {o:Operator} {b:BOp} {x y z:AV} {v v':Value} (ob:bopOf o=some b) (e:binV b x y=some z) (rx:RView g s.heap X x v) (ry:RView g s.heap X y v') (al:Alive X s.heap) :
    Prim g A X s (binaryOp o v v') z:=by
  cases o <;> first | exact nn ob | (cases (Option.some.inj ob:_=b))
  · exact addP e rx ry al
  · exact subP e rx ry
  · exact mulP e rx ry al
  · exact tdivP e rx ry
  · exact modP e rx ry
  · exact iiP (binaryOp _) rx ry e fun a t b u e=>grdP e fun c Q E hQ=>pow_int_small (of_decide_eq_true (and_of (and_of c).1).1) (le6 (and_of (and_of c).1).2) (small_iff (and_of c).2) (hQ _ _ _ (Grow.refl _) rp_int)
  · exact iiP (binaryOp _) rx ry e fun a t b u e=>grdP e fun c Q E hQ=>lshift_int_small (of_decide_eq_true (and_of (and_of c).1).1) (le6 (and_of (and_of c).1).2) (small_iff (and_of c).2) (hQ _ _ _ (Grow.refl _) rp_int)
  · exact iiP (binaryOp _) rx ry e fun a t b u e=>somP e fun Q E hQ=>or_int (hQ _ _ _ (Grow.refl _) rp_int)
  · exact iiP (binaryOp _) rx ry e fun a t b u e=>somP e fun Q E hQ=>xor_int (hQ _ _ _ (Grow.refl _) rp_int)
  · exact iiP (binaryOp _) rx ry e fun a t b u e=>somP e fun Q E hQ=>and_int (hQ _ _ _ (Grow.refl _) rp_int)
  · exact iiP (binaryOp _) rx ry e fun a t b u e=>grdP e fun c Q E hQ=>floordiv_int (nz_of (and_of c).1) (hQ _ _ _ (Grow.refl _) rp_int) (.inl (PyProof.noPylong_of_log2 (Nat.lt_trans (small_log (and_of c).2) (by decide))))
end
noncomputable def AOk (n:Nat) (A:Around):Prop:=A.handled=none∧A.depth+10 * n≤900∧A.units+100 * n≤5000
theorem AOk.line {n:Nat} {A:Around} (a:AOk n A):A.units+80 < cLine:=by
  have:=a.2.2
  show _ < 9900
  omega
section
variable {g:GG} {A:Around} {X:Addr→Prop} {s:Shared} {h:Heap}
theorem plain_isList {h:Heap} {a:Addr} {xs:Array Value} (p:h.PlainList a xs):h.IsList a xs:=by
  obtain ⟨n,ho⟩:=p
  exact ⟨_,ho,rfl,n,rfl⟩
theorem plain_inj {h:Heap} {a:Addr} {xs ys:List Value} (p:h.PlainList a xs.toArray) (q:h.PlainList a ys.toArray):xs=ys:=by
  obtain ⟨n,ho⟩:=p
  obtain ⟨n',ho'⟩:=q
  rw [ho] at ho'
  simp at ho'
  exact ho'.1
theorem tuple_inj {h:Heap} {a:Addr} {xs ys:List Value} (p:h.IsTuple a xs.toArray) (q:h.IsTuple a ys.toArray):xs=ys:=by
  obtain ⟨o,ho,_,n,hd⟩:=p
  obtain ⟨o',ho',_,n',hd'⟩:=q
  rw [ho] at ho'
  cases ho'
  rw [hd] at hd'
  simp at hd'
  exact hd'.1
theorem avEqs_all {f:AV→AV→Option Bool} {xs:List AV}:∀ {ys:List AV} {b:Bool},avEqs f xs ys=some b→xs.length=ys.length →
    ∃ e:Nat→Bool,(List.range xs.length).all e=b∧∀ (j:Nat) x y,xs[j]?=some x→ys[j]?=some y→f x y=some (e j):=by
  induction xs with
  | nil =>
    intro ys b h hl
    cases ys with
    | nil=>exact ⟨fun _=>true,Option.some.inj h,fun j x y hx=>nn hx⟩
    | cons _ _=>exact absurd hl.symm (Nat.succ_ne_zero _)
  | cons x xs ih =>
    intro ys b h hl
    cases ys with
    | nil=>exact absurd hl (Nat.succ_ne_zero _)
    | cons y ys =>
      refine obC h fun b1 h1 h=>obC h fun c1 h2 h=>?_
      obtain ⟨e,he,hj⟩:=ih h2 (Nat.succ.inj hl)
      refine ⟨fun j=>@Nat.casesOn (fun _=>Bool) j b1 e,?_,fun j x' y' hx hy=>?_⟩
      · rw [List.length_cons,List.range_succ_eq_map,List.all_cons,List.all_map]
        exact (congrArg (b1 && ·) he).trans (Option.some.inj h)
      · cases j with
        | zero=>exact Option.some.inj hx ▸ Option.some.inj hy ▸ h1
        | succ j=>exact hj j x' y' hx hy
theorem av_one {a b v:Value} (p:v=a) (q:v=b):a=b:=p.symm.trans q
theorem int_one {a b:Int} {v:Value} (p:RView g h X (.int a) v) (q:RView g h X (.int b) v):a=b:=(rv_int p).elim fun t p=>(rv_int q).elim fun u q=>(Value.int.inj (av_one p q)).1
theorem str_one {a b:Str} {v:Value} (p:RView g h X (.str a) v) (q:RView g h X (.str b) v):a=b:=(rv_str p).elim fun t p=>(rv_str q).elim fun u q=>(Value.str.inj (av_one p q)).1
theorem list_one {xs ys:List AV} {v:Value} (p:RView g h X (.list xs) v) (q:RView g h X (.list ys) v):∃ vs,RepVs g h X xs vs∧RepVs g h X ys vs:=by
  obtain ⟨a,vs,e1,p1,p2⟩:=rv_list p
  obtain ⟨a',ws,e2,q1,q2⟩:=rv_list q
  cases Value.ref.inj (av_one e1 e2)
  exact ⟨vs,p2,plain_inj p1 q1 ▸ q2⟩
theorem tup_one {xs ys:List AV} {v:Value} (p:RView g h X (.tup xs) v) (q:RView g h X (.tup ys) v):∃ vs,RepVs g h X xs vs∧RepVs g h X ys vs:=by
  obtain ⟨a,vs,e1,p1,p2⟩:=rv_tup p
  obtain ⟨a',ws,e2,q1,q2⟩:=rv_tup q
  cases Value.ref.inj (av_one e1 e2)
  exact ⟨vs,p2,tuple_inj p1 q1 ▸ q2⟩
theorem avEq0_self {x y:AV} {b:Bool} {v:Value} (e:avEq0 x y=some b) (p:RView g h X x v) (q:RView g h X y v):b=true :=
  orC e (fun e=>obC e fun a ha e=>obC e fun b hb e=>Option.some.inj e ▸ beq_iff_eq.mpr (int_one (AV.int?_inv ha ▸ p) (AV.int?_inv hb ▸ q)))
    fun e=>obC e fun a ha e=>obC e fun b hb e=>Option.some.inj e ▸ beq_iff_eq.mpr (str_one (AV.str?_inv ha ▸ p) (AV.str?_inv hb ▸ q))
theorem avEqs_self {f:AV→AV→Option Bool} (ih:∀ {x y:AV} {b:Bool} {v:Value},f x y=some b→RView g h X x v→RView g h X y v→b=true) {xs:List AV} :
    ∀ {ys:List AV} {b:Bool} {vs:List Value},avEqs f xs ys=some b→RepVs g h X xs vs→RepVs g h X ys vs→b=true:=by
  induction xs with
  | nil =>
    intro ys b vs e p q
    cases ys with
    | nil=>exact (Option.some.inj e).symm
    | cons y ys=>cases p; exact q.elim fun _ q=>q.elim fun _ q=>nomatch q.1
  | cons x xs ihx =>
    intro ys b vs e p q
    obtain ⟨v,r,rfl,p1,p2⟩:=RepVs_cons.mp p
    cases ys with
    | nil=>exact nomatch (q:_::_=[])
    | cons y ys =>
      obtain ⟨v',r',e',q1,q2⟩:=RepVs_cons.mp q
      obtain ⟨rfl,rfl⟩:=List.cons.inj e'
      exact obC e fun b1 h1 e=>obC e fun c1 h2 e=>by
        rw [← Option.some.inj e,ih h1 p1.view q1.view,ihx h2 p2 q2]; rfl
theorem len_one {xs ys:List AV} {vs:List Value} (p:RepVs g h X xs vs) (q:RepVs g h X ys vs):xs.length=ys.length:=p.length.symm.trans q.length
theorem avEqN_self:∀ (n:Nat) {x y:AV} {b:Bool} {v:Value},avEqN n x y=some b→RView g h X x v→RView g h X y v→b=true:=by
  intro n
  induction n with
  | zero=>exact avEq0_self
  | succ n ih =>
    intro x y b v e p q
    refine orC e (fun e=>avEq0_self e p q) fun e=>orC e (fun e=>obC e fun xs hx e=>obC e fun ys hy e=>?_) fun e=>obC e fun xs hx e=>obC e fun ys hy e=>?_
    · obtain ⟨vs,r1,r2⟩:=list_one (AV.list?_inv hx ▸ p) (AV.list?_inv hy ▸ q)
      exact avEqs_self ih ((if_pos (len_one r1 r2)).symm.trans e) r1 r2
    · obtain ⟨vs,r1,r2⟩:=tup_one (AV.tup?_inv hx ▸ p) (AV.tup?_inv hy ▸ q)
      exact avEqs_self ih ((if_pos (len_one r1 r2)).symm.trans e) r1 r2
theorem in1_units (A:Around):A.in1.units=A.units+1:=rfl
noncomputable def BothAt (A:Around) (s:Shared) (v v':Value) (b:Bool):Prop:=SeqAt.RcAt A s v v' b∧SeqAt.RcNeAt A s v v' (!b)
theorem items_at {f:AV→AV→Option Bool} {xs ys:List AV} {vs ws:List Value} {ee:Nat→Bool} (p:RepVs g s.heap X xs vs) (q:RepVs g s.heap X ys ws) (hj:∀ (j:Nat) x y,xs[j]?=some x→ys[j]?=some y→f x y=some (ee j))
    (sub:∀ {x y:AV} {b:Bool} {v v':Value},f x y=some b→RView g s.heap X x v→RView g s.heap X y v'→SeqAt.EqAt A.in1 s v v' b) (j:Nat) (h1:j < vs.toArray.size) (h2:j < ws.toArray.size):SeqAt.EqAt A.in1 s vs.toArray[j] ws.toArray[j] (ee j):=by
  rw [List.size_toArray] at h1 h2
  have hx:=List.getElem?_eq_getElem (l:=xs) (i:=j) (p.length ▸ h1)
  have hy:=List.getElem?_eq_getElem (l:=ys) (i:=j) (q.length ▸ h2)
  obtain ⟨v1,hv1,r1⟩:=p.get hx
  obtain ⟨v2,hv2,r2⟩:=q.get hy
  have g1:vs.toArray[j]=v1:=(List.getElem?_eq_some_iff.mp hv1).2
  have g2:ws.toArray[j]=v2:=(List.getElem?_eq_some_iff.mp hv2).2
  rw [g1,g2]
  exact sub (hj j _ _ hx hy) r1.view r2.view
theorem both_lists {f:AV→AV→Option Bool} {xs ys:List AV} {a a':Addr} {vs ws:List Value} {b:Bool} (e:(if xs.length=ys.length then avEqs f xs ys else some false)=some b) (p1:s.heap.PlainList a vs.toArray) (p:RepVs g s.heap X xs vs) (q1:s.heap.PlainList a' ws.toArray) (q:RepVs g s.heap X ys ws) (hu:A.units < cLine)
    (sub:∀ {x y:AV} {b:Bool} {v v':Value},f x y=some b→RView g s.heap X x v→RView g s.heap X y v'→SeqAt.EqAt A.in1 s v v' b):BothAt A s (.ref a) (.ref a') b:=by
  by_cases hl:xs.length=ys.length
  · rw [if_pos hl] at e
    obtain ⟨ee,rfl,hj⟩:=avEqs_all e hl
    have hs:vs.toArray.size=ws.toArray.size:=p.length.trans (hl.trans q.length.symm)
    have:=items_at p q hj sub
    rw [← p.length]
    exact ⟨SeqAt.RcAt.lists (plain_isList p1) (plain_isList q1) hs hu this,SeqAt.RcNeAt.lists (plain_isList p1) (plain_isList q1) hs hu this⟩
  · rw [if_neg hl] at e
    cases Option.some.inj e
    have hs:(vs.toArray.size != ws.toArray.size)=true:=bne_iff_ne.mpr fun q'=>hl (p.length.symm.trans (Eq.trans q' q.length))
    exact ⟨SeqAt.RcAt.lists_lengths (plain_isList p1) (plain_isList q1) hs hu,SeqAt.RcNeAt.lists_lengths (plain_isList p1) (plain_isList q1) hs hu⟩
theorem both_tups {f:AV→AV→Option Bool} {xs ys:List AV} {a a':Addr} {vs ws:List Value} {b:Bool} (e:(if xs.length=ys.length then avEqs f xs ys else none)=some b) (p1:s.heap.IsTuple a vs.toArray) (p:RepVs g s.heap X xs vs) (q1:s.heap.IsTuple a' ws.toArray) (q:RepVs g s.heap X ys ws) (hu:A.units < cLine)
    (sub:∀ {x y:AV} {b:Bool} {v v':Value},f x y=some b→RView g s.heap X x v→RView g s.heap X y v'→SeqAt.EqAt A.in1 s v v' b):BothAt A s (.ref a) (.ref a') b:=by
  by_cases hl:xs.length=ys.length
  · rw [if_pos hl] at e
    obtain ⟨ee,rfl,hj⟩:=avEqs_all e hl
    have hs:vs.toArray.size=ws.toArray.size:=p.length.trans (hl.trans q.length.symm)
    have this:=items_at p q hj sub
    have h1:=SeqAt.RcAt.tuples p1 q1 hu this
    have h2:=SeqAt.RcNeAt.tuples p1 q1 hu this
    rw [← hs,Nat.min_self,List.size_toArray,p.length,beq_self_eq_true,Bool.and_true] at h1 h2
    exact ⟨h1,h2⟩
  · rw [if_neg hl] at e
    exact nn e
theorem eq0_at {A:Around} {x y:AV} {b:Bool} {v v':Value} (e:avEq0 x y=some b) (p:RView g s.heap X x v) (q:RView g s.heap X y v'):SeqAt.EqAt A s v v' b∧BothAt A s v v' b :=
  orC e (fun e=>iC (P:=fun v=>SeqAt.EqAt A s v v' b∧BothAt A s v v' b) p e fun a t e=>iC (P:=fun v'=>SeqAt.EqAt A s (.int a t) v' b∧BothAt A s (.int a t) v' b) q e fun c u e=>Option.some.inj e ▸ ⟨SeqAt.EqAt.int_int _ _ _ _,SeqAt.RcAt.int_int _ _ _ _,SeqAt.RcNeAt.int_int _ _ _ _⟩)
    fun e=>sC (P:=fun v=>SeqAt.EqAt A s v v' b∧BothAt A s v v' b) p e fun a t e=>sC (P:=fun v'=>SeqAt.EqAt A s (.str a t) v' b∧BothAt A s (.str a t) v' b) q e fun c u e=>Option.some.inj e ▸ ⟨SeqAt.EqAt.str_str _ _ _ _,SeqAt.RcAt.str_str _ _ _ _,SeqAt.RcNeAt.str_str _ _ _ _⟩
theorem of_both {A:Around} {a a':Addr} {n:Nat} {x y:AV} {b:Bool} (e:avEqN n x y=some b) (p:RView g s.heap X x (.ref a)) (q:RView g s.heap X y (.ref a')) (h:BothAt A s (.ref a) (.ref a') b):SeqAt.EqAt A s (.ref a) (.ref a') b:=by
  by_cases hne:a=a'
  · subst hne
    rw [avEqN_self _ e p q]
    exact SeqAt.EqAt.same _
  · exact SeqAt.EqAt.of_refs hne h.1
theorem eqN_both:∀ (n:Nat) {A:Around} {x y:AV} {b:Bool} {v v':Value},avEqN n x y=some b→RView g s.heap X x v→RView g s.heap X y v'→A.units+n < cLine→SeqAt.EqAt A s v v' b∧BothAt A s v v' b:=by
  intro n
  induction n with
  | zero=>exact fun e p q _=>eq0_at e p q
  | succ n ih =>
    intro A x y b v v' e p q hu
    have hu0:A.units < cLine:=Nat.lt_of_le_of_lt (Nat.le_add_right _ _) hu
    have sub:∀ {x y:AV} {b:Bool} {v v':Value},avEqN n x y=some b→RView g s.heap X x v→RView g s.heap X y v'→SeqAt.EqAt A.in1 s v v' b:=fun e p q=>(ih e p q (Nat.add_right_comm A.units 1 n ▸ hu)).1
    refine orC e (fun e=>eq0_at e p q) fun e'=>orC e' (fun e'=>obC e' fun xs hx e'=>obC e' fun ys hy e'=>?_) fun e'=>obC e' fun xs hx e'=>obC e' fun ys hy e'=>?_
    · obtain ⟨a,vs,rfl,p1,p2⟩:=rv_list (AV.list?_inv hx ▸ p)
      obtain ⟨a',ws,rfl,q1,q2⟩:=rv_list (AV.list?_inv hy ▸ q)
      have B:=both_lists e' p1 p2 q1 q2 hu0 sub
      exact ⟨of_both e p q B,B⟩
    · obtain ⟨a,vs,rfl,p1,p2⟩:=rv_tup (AV.tup?_inv hx ▸ p)
      obtain ⟨a',ws,rfl,q1,q2⟩:=rv_tup (AV.tup?_inv hy ▸ q)
      have B:=both_tups e' p1 p2 q1 q2 hu0 sub
      exact ⟨of_both e p q B,B⟩
theorem eqN_at (n:Nat) {A:Around} {x y:AV} {b:Bool} {v v':Value} (e:avEqN n x y=some b) (p:RView g s.heap X x v) (q:RView g s.heap X y v') (hu:A.units+n < cLine):SeqAt.EqAt A s v v' b:=(eqN_both n e p q hu).1
end
theorem valueAt_mem {K:Type} [DecidableEq K] {kvs:List (K × Value)} {k:K} {y:Value} (nd:(kvs.map (·.1)).Nodup) (m:(k,y)∈kvs):valueAt kvs k=some y:=by
  unfold valueAt
  induction kvs with
  | nil=>cases m
  | cons p r ih =>
    obtain ⟨k',y'⟩:=p
    rw [List.map_cons,List.nodup_cons] at nd
    by_cases e:k'=k
    · subst e
      rcases List.mem_cons.mp m with m | m
      · cases m; simp
      · exact absurd (List.mem_map_of_mem m) nd.1
    · rw [List.find?_cons_of_neg (by simpa using e)]
      rcases List.mem_cons.mp m with m | m
      · cases m; exact absurd rfl e
      · exact ih nd.2 m
section
variable {g:GG} {A:Around} {X:Addr→Prop} {s:Shared} {h:Heap}
theorem hits_of {kb:List (Str × Value)} (nd:(kb.map (·.1)).Nodup) (hu:A.units < cLine):∀ {ka kbs:List (Str × Value)} {va vc:List AV},(∀ p∈kbs,p∈kb)→ka.map (·.1)=kbs.map (·.1)→RepVs g s.heap X va (ka.map (·.2))→RepVs g s.heap X vc (kbs.map (·.2)) →
    avEqs (avEqN 0) va vc=some true→KeqHits A s kb ka true
  | [],_,_,_,_,_,_,_,_=>.nil
  | (k,v)::ka,[],_,_,_,e,_,_,_=>nomatch e
  | (k,v)::ka,(k',y)::kbs,va,vc,mem,e,p,q,h=>by
    obtain ⟨e1,e'⟩:=List.cons.inj e
    cases (e1:k=k')
    clear e
    cases va with
    | nil=>exact nomatch (p:_::_=[])
    | cons x va =>
      cases vc with
      | nil=>exact nomatch (q:_::_=[])
      | cons x' vc =>
        obtain ⟨_,_,e1,p1,p2⟩:=RepVs_cons.mp p
        obtain ⟨_,_,e2,q1,q2⟩:=RepVs_cons.mp q
        obtain ⟨rfl,rfl⟩:=List.cons.inj e1
        obtain ⟨rfl,rfl⟩:=List.cons.inj e2
        refine obC h fun b h1 h=>obC h fun c h2 h=>?_
        obtain ⟨rfl,rfl⟩:=and_of (Option.some.inj h)
        exact .hit (b:=true) (e:=true) (valueAt_mem nd (mem _ (List.mem_cons_self ..))) (eqN_at 0 h1 p1.view q1.view hu) (hits_of nd hu (fun p hp=>mem p (List.mem_cons_of_mem _ hp)) e' p2 q2 h2)
theorem dict_eqBool {a b:Addr} {ka kb:List Str} {va vc:List AV} (p:RepC g s.heap X (.dictS ka va) a) (q:RepC g s.heap X (.dictS kb vc) b) (hk:ka=kb) (h:avEqs (avEqN 0) va vc=some true) (hu:A.units+1 < cLine)
    {Q:Bool→Shared→Prop} {E:Value→Shared→Prop} (hQ:Q true s):wpAny (model g.prog g.w) A (eqBool (.ref a) (.ref b)) Q E s:=by
  subst hk
  obtain ⟨kva,epa,la,da,ea,ra⟩:=p
  obtain ⟨kvb,epb,lb,db,eb,rb⟩:=q
  unfold eqBool
  refine wpAny_holding ?_
  refine wpAny_ite_split (fun _=>wpAny_bind (wpAny_rule (wpAny_pure hQ))) (fun _=>?_)
  have hlen:kva.length=kvb.length:=by
    have:=congrArg List.length (ea.trans eb.symm)
    simpa using this
  have nd:(kvb.map (·.1)).Nodup:=by obtain ⟨_,_,_,_,_,_,_,nd⟩:=db; exact nd
  refine wpAny_bind (keq_eq (r:=true) la lb da.dictOf db.dictOf (Nat.lt_of_le_of_lt (Nat.le_succ _) hu) (fun _=>hits_of (A:=A.in1) nd hu (fun _ x=>x) (ea.trans eb.symm) ra rb h) ?_)
  rw [hlen]
  simp only [beq_self_eq_true,Bool.and_true]
  exact wpAny_truthy_bool hQ
theorem pair_ne {l m a b c d:Addr} (hl:s.heap.IsTuple l #[.ref a,.ref b]) (hm:s.heap.IsTuple m #[.ref c,.ref d]) (hu:A.units < cLine)
    (h1:∀ {Q:Bool→Shared→Prop} {E:Value→Shared→Prop},Q true s→wpAny (model g.prog g.w) A.in1 (eqBool (.ref a) (.ref c)) Q E s)
    (h2:∀ {Q:Bool→Shared→Prop} {E:Value→Shared→Prop},Q true s→wpAny (model g.prog g.w) A.in1 (eqBool (.ref b) (.ref d)) Q E s)
    {Q:Value→Shared→Prop} {E:Value→Shared→Prop} (hQ:Q (.bool false) s):wpAny (model g.prog g.w) A (compareOp .NotEq (.ref l) (.ref m)) Q E s:=by
  obtain ⟨⟨cls,dd,data,sl⟩,ho,hc,n,hd⟩:=id hl
  obtain ⟨⟨cls2,dd2,data2,sl2⟩,ho2,hc2,n2,hd2⟩:=id hm
  simp only at hc hd hc2 hd2
  subst hc hd hc2 hd2
  refine wpAny_richCompare_same_room (op:=.NotEq) (T:="tuple") ⟨_,ho,rfl⟩ ⟨_,ho2,rfl⟩ F.slot_tuple_ne (wpAny_call_entry F.slot_tuple_ne (T:="tuple") ⟨_,ho,rfl⟩ F.entry_tuple_ne ?_ (F.args_tuple_ne_2 _ _)) hu
  obtain ⟨hp,gl,dd',tk,os⟩:=s
  have f2:=AutoSeq1.sub_tuple_tuple
  wp_walk using AutoSeq1.wpAny_loadPart' ho,AutoSeq1.wpAny_loadPart' ho2,h1 (Q:=_) (E:=_) _,h2 (Q:=_) (E:=_) _
  exact ⟨_,rfl,nofun,hQ⟩
noncomputable def CmpOK (g:GG) (A:Around) (s:Shared) (t:Sem Value) (b:Bool):Prop :=
  ∀ (Q:Value→Shared→Prop) (E:Value→Shared→Prop),(∀ tk,Q (.bool b) { s with toks:=tk })→wpAny (model g.prog g.w) A t Q E s
theorem CmpOK.rc {v v':Value} {b:Bool} (h:SeqAt.RcAt A s v v' b):CmpOK g A s (compareOp .Eq v v') b:=fun Q E hQ=>h g.prog g.w E Q (hQ s.toks)
theorem CmpOK.ne {v v':Value} {b:Bool} (h:SeqAt.RcNeAt A s v v' b):CmpOK g A s (compareOp .NotEq v v') b:=fun Q E hQ=>h g.prog g.w E Q (hQ s.toks)
theorem eqP {x y:AV} {b:Bool} {v v':Value} (e:avEq x y=some b) (p:RView g s.heap X x v) (q:RView g s.heap X y v') (hu:A.units+6 < cLine):BothAt A s v v' b:=(eqN_both 6 e p q hu).2
theorem ints_any {xs:List AV} {vs:List Value} {ns:List Int} (p:RepVs g h X xs vs) (e:intsOf xs=some ns):∃ ts:List Tok,vs=(ns.zip ts).map (fun q=>Value.int q.1 q.2)∧ts.length=ns.length:=by
  induction xs generalizing vs ns with
  | nil=>cases e; cases p; exact ⟨[],rfl,rfl⟩
  | cons x xs ih =>
    obtain ⟨v,r,rfl,p1,p2⟩:=RepVs_cons.mp p
    refine obC e fun i hi e=>omC e fun ms h2 e=>?_
    subst e
    obtain ⟨ts,rfl,hl⟩:=ih p2 h2
    obtain ⟨t,rfl⟩:=rv_int (AV.int?_inv hi ▸ p1.view)
    exact ⟨t::ts,rfl,congrArg (·+1) hl⟩
theorem strs_any {xs:List AV} {vs:List Value} {ns:List Str} (p:RepVs g h X xs vs) (e:strsOf xs=some ns):∃ ts:List Tok,vs=(ns.zip ts).map (fun q=>Value.str q.1 q.2)∧ts.length=ns.length:=by
  induction xs generalizing vs ns with
  | nil=>cases e; cases p; exact ⟨[],rfl,rfl⟩
  | cons x xs ih =>
    obtain ⟨v,r,rfl,p1,p2⟩:=RepVs_cons.mp p
    refine obC e fun i hi e=>omC e fun ms h2 e=>?_
    subst e
    obtain ⟨ts,rfl,hl⟩:=ih p2 h2
    obtain ⟨t,rfl⟩:=rv_str (AV.str?_inv hi ▸ p1.view)
    exact ⟨t::ts,rfl,congrArg (·+1) hl⟩
noncomputable def isI (i:Int):Value→Bool
  | .int j _=>j == i
  | _=>false
noncomputable def isT (i:Str):Value→Bool
  | .str j _=>j == i
  | _=>false
theorem any_isI (x:Int):∀ (ns:List Int) (ts:List Tok),ts.length=ns.length→((ns.zip ts).map (fun q=>Value.int q.1 q.2)).any (isI x)=ns.contains x
  | [],_,_=>rfl
  | n::ns,t::ts,h=>by
    rw [List.zip_cons_cons,List.map_cons,List.any_cons,any_isI x ns ts (by simpa using h),List.contains_cons]
    show (n == x || _)=_
    rw [Bool.beq_comm (a:=n)]
  | _::_,[],h=>by simp at h
theorem any_isT (x:Str):∀ (ns:List Str) (ts:List Tok),ts.length=ns.length→((ns.zip ts).map (fun q=>Value.str q.1 q.2)).any (isT x)=ns.contains x
  | [],_,_=>rfl
  | n::ns,t::ts,h=>by
    rw [List.zip_cons_cons,List.map_cons,List.any_cons,any_isT x ns ts (by simpa using h),List.contains_cons]
    show (n == x || _)=_
    rw [Bool.beq_comm (a:=n)]
  | _::_,[],h=>by simp at h
theorem valueAt_contains {K:Type} [DecidableEq K] (kvs:List (K × Value)) (k:K):(valueAt kvs k).isSome=(kvs.map (·.1)).contains k:=by
  unfold valueAt
  induction kvs with
  | nil=>rfl
  | cons p r ih =>
    rw [List.map_cons,List.contains_cons,List.find?_cons]
    by_cases e:p.1=k
    · simp [e]
    · have e':¬ k=p.1:=fun x=>e x.symm
      simp only [e,decide_false,beq_eq_false_iff_ne.mpr e',Bool.false_or]
      exact ih
theorem ciC (op:Value→Value→Sem Value) {x y:AV} {b:Bool} {v v':Value} {f:Int→Int→Bool} (p:RView g s.heap X x v) (q:RView g s.heap X y v') (e:cII x y f=some b) (k:∀ a t c u,CmpOK g A s (op (.int a t) (.int c u)) (f a c)):CmpOK g A s (op v v') b :=
  iC (P:=fun v=>CmpOK g A s (op v v') b) p e fun a t e=>iC (P:=fun v'=>CmpOK g A s (op (.int a t) v') b) q e fun c u e=>Option.some.inj e ▸ k a t c u
theorem cfC (op:Value→Value→Sem Value) {x y:AV} {b:Bool} {v v':Value} {f:UInt64→UInt64→Bool} (p:RView g s.heap X x v) (q:RView g s.heap X y v') (e:cFF x y f=some b) (k:∀ a t c u,CmpOK g A s (op (.float a t) (.float c u)) (f a c)):CmpOK g A s (op v v') b :=
  fC (P:=fun v=>CmpOK g A s (op v v') b) p e fun a t e=>fC (P:=fun v'=>CmpOK g A s (op (.float a t) v') b) q e fun c u e=>Option.some.inj e ▸ k a t c u
theorem int_in {i:Int} {t:Tok} {ns:List Int} {ts:List Tok} (y:Value) (hy:y∈((ns.zip ts).map fun q=>Value.int q.1 q.2).toArray):SeqAt.EqAt A s y (.int i t) (isI i y):=by
  obtain ⟨q,_,rfl⟩:=List.mem_map.mp (List.mem_toArray.mp hy)
  exact SeqAt.EqAt.int_int _ _ _ _
theorem str_in {i:Str} {t:Tok} {ns:List Str} {ts:List Tok} (y:Value) (hy:y∈((ns.zip ts).map fun q=>Value.str q.1 q.2).toArray):SeqAt.EqAt A s y (.str i t) (isT i y):=by
  obtain ⟨q,_,rfl⟩:=List.mem_map.mp (List.mem_toArray.mp hy)
  exact SeqAt.EqAt.str_str _ _ _ _
theorem isin_ints {i:Int} {xs:List AV} {l:Addr} {vs:List Value} {t:Tok} {b:Bool} (q1:s.heap.PlainList l vs.toArray) (q2:RepVs g s.heap X xs vs) (e:(intsOf xs).map (·.contains i)=some b):CmpOK g A s (compareOp .In (.int i t) (.ref l)) b :=
  omC e fun ns h e=>by
    obtain ⟨ts,rfl,hl⟩:=ints_any q2 h
    refine fun Q E hQ=>SeqAt.in_listAt (isI i) (plain_isList q1) int_in ?_
    rw [List.any_toArray,any_isI _ _ _ hl,e]
    exact hQ s.toks
theorem notin_ints' {i:Int} {xs:List AV} {l:Addr} {vs:List Value} {t:Tok} {b:Bool} (q1:s.heap.PlainList l vs.toArray) (q2:RepVs g s.heap X xs vs) (e:(intsOf xs).map (!·.contains i)=some b):CmpOK g A s (compareOp .NotIn (.int i t) (.ref l)) b :=
  omC e fun ns h e=>by
    obtain ⟨ts,rfl,hl⟩:=ints_any q2 h
    refine fun Q E hQ=>SeqAt.notIn_listAt (isI i) (plain_isList q1) int_in ?_
    rw [List.any_toArray,any_isI _ _ _ hl,e]
    exact hQ s.toks
theorem isin_strs {i:Str} {xs:List AV} {l:Addr} {vs:List Value} {t:Tok} {b:Bool} (q1:s.heap.PlainList l vs.toArray) (q2:RepVs g s.heap X xs vs) (e:(strsOf xs).map (·.contains i)=some b):CmpOK g A s (compareOp .In (.str i t) (.ref l)) b :=
  omC e fun ns h e=>by
    obtain ⟨ts,rfl,hl⟩:=strs_any q2 h
    refine fun Q E hQ=>SeqAt.in_listAt (isT i) (plain_isList q1) str_in ?_
    rw [List.any_toArray,any_isT _ _ _ hl,e]
    exact hQ s.toks
theorem rv_ref {P:AV→Value→Prop} {x:AV} {v:Value} (h0:∀ v,¬ RepS x v) (r:RView g h X x v) (k:∀ a,RepC g h X x a→P x (.ref a)):P x v:=r.elim (fun r=>(h0 v r).elim) fun r=>r.elim fun a r=>r.1 ▸ k a r.2
theorem dS_in {i:Str} {d:List Str × List AV} {v:Value} {t:Tok} (q:RView g s.heap X (.dictS d.1 d.2) v):CmpOK g A s (compareOp .In (.str i t) v) (d.1.contains i) :=
  rv_ref (P:=fun _ v=>CmpOK g A s (compareOp .In (.str i t) v) (d.1.contains i)) (fun _=>id) q fun a q=>by
    obtain ⟨kvs,ep,la,da,ek,_⟩:=q
    refine fun Q E hQ=>wpAny_in_of (knd:=strKind g.prog g.w) (k:=i) (by simp [PySem.strKind,Value.isStrOf]) la da.dictOf.mapOf ?_
    rw [valueAt_contains,ek]
    exact hQ _
theorem dI_notin {i:Int} {d:List Int × List AV} {v:Value} {t:Tok} (q:RView g s.heap X (.dictI d.1 d.2) v):CmpOK g A s (compareOp .NotIn (.int i t) v) (!d.1.contains i) :=
  rv_ref (P:=fun _ v=>CmpOK g A s (compareOp .NotIn (.int i t) v) (!d.1.contains i)) (fun _=>id) q fun a q=>by
    obtain ⟨kvs,ep,la,da,ek,_⟩:=q
    refine fun Q E hQ=>wpAny_notIn_of (knd:=intKind g.prog g.w) (k:=i) (by simp [intKind,Value.isInt]) la da.dictOf.mapOf ?_
    rw [valueAt_contains,ek]
    exact hQ _
theorem two_list {l:List Value} {a b:Value} (h:l.length=2) (e:l[0]?=some a) (e':l[1]?=some b):l=[a,b]:=by
  cases l with
  | nil=>exact nn e
  | cons x l =>
    cases l with
    | nil=>exact nn e'
    | cons y l =>
      rw [Option.some.inj e,Option.some.inj e',List.eq_nil_of_length_eq_zero (Nat.succ.inj (Nat.succ.inj h))]
theorem two_inv {x:AV} {p:(List Str × List AV) × List Str × List AV} {v:Value} (e:twoD x=some p) (r:RView g h X x v):∃ l a b,v=.ref l∧h.IsTuple l #[.ref a,.ref b]∧RepC g h X (.dictS p.1.1 p.1.2) a∧RepC g h X (.dictS p.2.1 p.2.2) b:=by
  refine obC e fun l hl e=>obC e fun a ha e=>obC e fun b hb e=>obC e fun d hd e=>obC e fun d' hd' e=>?_
  by_cases h2:l.length=2
  · rw [if_pos h2] at e
    cases Option.some.inj e
    obtain ⟨t,vs,rfl,p1,p2⟩:=rv_tup (AV.tup?_inv hl ▸ r)
    obtain ⟨v1,e1,r1⟩:=p2.get ha
    obtain ⟨v2,e2,r2⟩:=p2.get hb
    refine (AV.dS?_inv hd ▸ r1:RepV g h X (.dictS d.1 d.2) v1).elim (fun q=>False.elim q) fun q=>(AV.dS?_inv hd' ▸ r2:RepV g h X (.dictS d'.1 d'.2) v2).elim (fun q=>False.elim q) fun q'=>?_
    obtain ⟨a1,rfl,_,q⟩:=q
    obtain ⟨a2,rfl,_,q'⟩:=q'
    exact ⟨t,a1,a2,rfl,two_list (p2.length.trans h2) e1 e2 ▸ p1,q,q'⟩
  · rw [if_neg h2] at e
    exact nn e
theorem neDP {x y:AV} {b:Bool} {v v':Value} (e:neD x y=some b) (p:RView g s.heap X x v) (q:RView g s.heap X y v') (hu:A.units+2 < cLine):CmpOK g A s (compareOp .NotEq v v') b:=by
  refine obC e fun d hd e=>obC e fun d' hd' e=>?_
  obtain ⟨l,a1,a2,rfl,p1,c1,c2⟩:=two_inv hd p
  obtain ⟨l',b1,b2,rfl,q1,d1,d2⟩:=two_inv hd' q
  refine itepC e fun h e=>?_
  · cases Option.some.inj e
    exact fun Q E hQ=>pair_ne p1 q1 (Nat.lt_of_le_of_lt (Nat.le_add_right _ _) hu) (fun hq=>dict_eqBool c1 d1 h.1 h.2.2.2.2.1 hu hq) (fun hq=>dict_eqBool c2 d2 h.2.1 h.2.2.2.2.2 hu hq) (hQ s.toks)
theorem cmpP {o:CmpOp} {c:COp} {x y:AV} {b:Bool} {v v':Value} (oc:copOf o=some c) (e:cmpV c x y=some b) (p:RView g s.heap X x v) (q:RView g s.heap X y v') (hu:A.units+80 < cLine):CmpOK g A s (compareOp o v v') b:=by
  have hu6:A.units+6 < cLine:=Nat.lt_of_le_of_lt (Nat.add_le_add_left (by decide) _) hu
  cases o <;> first | exact nn oc | (cases (Option.some.inj oc:_=c))
  · exact orC e (fun e=>cfC (compareOp .Eq) p q e fun a t c u Q E hQ=>AutoFloatOps.eq_0 (hQ _)) fun e=>.rc (eqP e p q hu6).1
  · exact orC e (fun e=>neDP e p q (Nat.lt_of_le_of_lt (Nat.add_le_add_left (by decide) _) hu)) fun e=>omC e fun c h e=>e ▸ .ne (eqP h p q hu6).2
  · exact orC e (fun e=>ciC (compareOp .Lt) p q e fun a t c u Q E hQ=>P.lt_int (hQ _)) fun e=>cfC (compareOp .Lt) p q e fun a t c u Q E hQ=>AutoFloatOps.lt_0 (hQ _)
  · exact cfC (compareOp .LtE) p q e fun a t c u Q E hQ=>AutoFloatOps.le_0 (hQ _)
  · exact ciC (compareOp .Gt) p q e fun a t c u Q E hQ=>P.gt_int (hQ _)
  · exact orC e (fun e=>iC (P:=fun v=>CmpOK g A s (compareOp .In v v') b) p e fun i t e=>lC (P:=fun v'=>CmpOK g A s (compareOp .In (.int i t) v') b) q e fun xs l vs q1 q2 e=>isin_ints q1 q2 e) fun e =>
      orC e (fun e=>sC (P:=fun v=>CmpOK g A s (compareOp .In v v') b) p e fun i t e=>lC (P:=fun v'=>CmpOK g A s (compareOp .In (.str i t) v') b) q e fun xs l vs q1 q2 e=>isin_strs q1 q2 e) fun e =>
      sC (P:=fun v=>CmpOK g A s (compareOp .In v v') b) p e fun i t e=>obC e fun d hd e=>Option.some.inj e ▸ dS_in (AV.dS?_inv hd ▸ q)
  · exact orC e (fun e=>iC (P:=fun v=>CmpOK g A s (compareOp .NotIn v v') b) p e fun i t e=>lC (P:=fun v'=>CmpOK g A s (compareOp .NotIn (.int i t) v') b) q e fun xs l vs q1 q2 e=>notin_ints' q1 q2 e) fun e =>
      iC (P:=fun v=>CmpOK g A s (compareOp .NotIn v v') b) p e fun i t e=>obC e fun d hd e=>Option.some.inj e ▸ dI_notin (AV.dI?_inv hd ▸ q)
theorem truP {x:AV} {b:Bool} {v:Value} (e:truV x=some b) (p:RView g s.heap X x v) {Q:Bool→Shared→Prop} {E:Value→Shared→Prop} (hQ:Q b s):wpAny (model g.prog g.w) A (truthy v) Q E s :=
  orC e (fun e=>iC (P:=fun v=>wpAny (model g.prog g.w) A (truthy v) Q E s) p e fun a t e=>P.truthy_int (Option.some.inj e ▸ hQ)) fun e=>by
    have:=rv_bool (AV.bool?_inv e ▸ p)
    rw [this]
    exact wpAny_truthy_bool hQ
theorem negP {x y:AV} {v:Value} (e:negV x=some y) (p:RView g s.heap X x v):Prim g A X s (unaryOp .USub v) y :=
  iC (P:=fun v=>Prim g A X s (unaryOp .USub v) y) p e fun a t e=>somP e fun Q E hQ=>P.neg_int (hQ _ _ _ (Grow.refl _) rp_int)
end
noncomputable def PrimF (g:GG) (A:Around) (X:Addr→Prop) (s:Shared) (t:Sem Value) (z:AV):Prop :=
  ∀ (Q:Value→Shared→Prop) (E:Value→Shared→Prop),(∀ a h' tk,s.heap.get? a=none→Grow s.heap h'→RepC g h' (Plus X a) z a→Q (.ref a) { s with heap:=h',toks:=tk })→wpAny (model g.prog g.w) A t Q E s
section
variable {g:GG} {A:Around} {X:Addr→Prop} {s:Shared} {h:Heap}
theorem rangeP {b:Int} {v:Value} (al:Alive X s.heap) (p:RView g s.heap X (.int b) v):Prim g A X s (call (.type "range") [v]) (.range 0 b):=by
  obtain ⟨t,rfl⟩:=rv_int p
  intro Q E hQ
  refine call_range_1 (hQ _ _ _ (Grow.push _ _) (.inr ⟨_,rfl,al.fresh (get?_size _),?_⟩))
  exact ⟨_,_,_,Heap.get?_push_size _ rfl⟩
theorem range2P {a b:Int} {v v':Value} (al:Alive X s.heap) (p:RView g s.heap X (.int a) v) (q:RView g s.heap X (.int b) v'):Prim g A X s (call (.type "range") [v,v']) (.range a b):=by
  obtain ⟨t,rfl⟩:=rv_int p
  obtain ⟨u,rfl⟩:=rv_int q
  intro Q E hQ
  refine call_range_2 (hQ _ _ _ (Grow.push _ _) (.inr ⟨_,rfl,al.fresh (get?_size _),?_⟩))
  exact ⟨_,_,_,Heap.get?_push_size _ rfl⟩
theorem lenP {xs:List AV} {v:Value} (p:RView g s.heap X (.list xs) v) (f:fits xs.length=true):Prim g A X s (call (.builtin "len") [v]) (.int xs.length):=by
  obtain ⟨l,vs,rfl,q1,q2⟩:=rv_list p
  intro Q E hQ
  have:=fits_iff f
  refine Calls.call_len_list (plain_isList q1) (by rw [List.size_toArray,q2.length]; omega) ?_
  rw [List.size_toArray,q2.length]
  exact hQ _ _ _ (Grow.refl _) rp_int
theorem ints_rep {a:Int} {n:Nat} {acc:Array Value} (it:ItemsOf (fun i v=>∃ t,v=.int (a+(i:Nat) * 1) t) acc n):RepVs g h X ((List.range n).map fun (i:Nat)=>AV.int (a+i)) acc.toList:=by
  obtain ⟨rfl,hit⟩:=it
  have key:∀ (l:List Value) (k:Nat),(∀ (j:Nat) (v:Value),l[j]?=some v→∃ t,v=.int (a+((k+j:Nat):Int)) t)→RepVs g h X ((List.range' k l.length).map fun (i:Nat)=>AV.int (a+i)) l:=by
    intro l
    induction l with
    | nil=>intro k _; exact RepVs_nil.mpr rfl
    | cons v r ih =>
      intro k hk
      obtain ⟨t,rfl⟩:=hk 0 v rfl
      refine RepVs_cons.mpr ⟨_,_,rfl,by simpa using rp_int,ih (k+1) fun j v hj=>?_⟩
      obtain ⟨t',e⟩:=hk (j+1) v (by simpa using hj)
      exact ⟨t',by rw [e]; congr 2; omega⟩
  have:=key acc.toList 0 fun j v hj=>by
    obtain ⟨t,e⟩:=hit j v (by rw [← Array.getElem?_toList]; exact hj)
    exact ⟨t,by rw [e,Nat.zero_add,Int.mul_one]⟩
  rw [List.range_eq_range']
  simpa using this
theorem rangeSmall {a b:Int} (h1:small a=true) (h2:small b=true):Builtin.Range.small a b 1=true:=by
  have b1:=small62 h1
  have b2:=small62 h2
  unfold Builtin.Range.small
  rw [rangeSize_nat]
  simp only [Builtin.Range.rangeFitsLong,Bool.and_eq_true,Bool.or_eq_true,decide_eq_true_eq]
  refine ⟨⟨⟨⟨?_,?_⟩,?_⟩,?_⟩,?_⟩ <;> first | omega | (right; simp; omega)
theorem alive_list {acc:Array Value} {c:Nat} {xs:List AV} {a:Addr} {Y:Addr→Prop} (ho:h.get? a=some { cls:=.type "list",dict:=none,data:=.seq acc c,slots:=#[] }) (r:RepVs g h Y xs acc.toList):RepC g h Y (.list xs) a:=by
  exact ⟨acc.toList,⟨c,by rw [Array.toArray_toList]; exact ho⟩,r⟩
theorem listRangeP {a b:Int} {v:Value} (hh:A.handled=none) (al:Alive X s.heap) (p:RView g s.heap X (.range a b) v) (h1:small a=true) (h2:small b=true) (h3:fits (b - a).toNat=true):PrimF g A X s (call (.type "list") [v]) (.list (upTo a b)):=by
  rcases p with p | ⟨r,rfl,p⟩
  · exact p.elim
  obtain ⟨t,u,v,hr⟩:=p
  intro Q E hQ
  have b3:=fits_iff h3
  refine call_list_range (n:=(b - a).toNat) hh hr (rangeSmall h1 h2) (rangeSize_nat a b) (Nat.le_trans b3 (by decide)) fun h' tk acc' c' hk hS it=>?_
  refine hQ _ _ _ (get?_size _) hk (alive_list hS ?_)
  exact ints_rep it
theorem hexP {i:Int} {v:Value} (p:RView g s.heap X (.int i) v) (f:small i=true):Prim g A X s (call (.builtin "hex") [v]) (.str (baseText "0x" 16 i)):=by
  obtain ⟨t,rfl⟩:=rv_int p
  intro Q E hQ
  refine P.hex_of_int (hQ _ _ _ (Grow.refl _) rp_str) ?_
  exact baseText_under (by decide) (by decide) (small_iff f)
theorem intfP {x:UInt64} {v:Value} {sg:Bool} {m:Nat} {e:Int} (p:RView g s.heap X (.flt x) v) (hd:Float64.decode x=.fin sg m e):Prim g A X s (call (.type "int") [v]) (.int (Float64.truncOf sg m e)):=by
  obtain ⟨t,rfl⟩:=rv_flt p
  exact fun Q E hQ=>call_int_float hd (hQ _ _ _ (Grow.refl _) rp_int)
theorem isTupP {i:Int} {v:Value} (p:RView g s.heap X (.int i) v):Prim g A X s (call (.builtin "isinstance") [v,.type "tuple"]) (.bool false):=by
  obtain ⟨t,rfl⟩:=rv_int p
  exact fun Q E hQ=>PySem.IsiPair.int_tuple (hQ _ _ _ (Grow.refl _) rp_bool)
theorem dictOfP {ks:List Str} {vs:List AV} {v:Value} (al:Alive X s.heap) (big:sysModules < s.heap.objs.size) (p:RView g s.heap X (.dictS ks vs) v) (f:fits vs.length=true):Prim g A X s (call (.type "dict") [v]) (.dictS ks vs):=by
  rcases p with p | ⟨r,rfl,p⟩
  · exact p.elim
  obtain ⟨kvs,ep,lo,da,ek,rv⟩:=p
  intro Q E hQ
  have hl:=rv.length
  rw [List.length_map] at hl
  refine kt_call_dict lo da.dictOf (by rw [hl]; exact fits_line f) fun h' hm hs=>?_
  have gr:Grow s.heap h':=fun b o e=>hs.extBut b o (Nat.ne_of_lt (Heap.lt_size e)) (Heap.get?_push_of_some _ e)
  refine hQ _ h' s.toks gr (.inr ⟨_,rfl,al.fresh (get?_size _),?_⟩)
  obtain ⟨ep',hm'⟩:=hm.dictAt
  exact ⟨kvs,ep',by simpa using Nat.ne_of_gt big,hm',ek,rv.move gr.move⟩
theorem listValsP {ks:List Int} {vs:List AV} {v:Value} (hh:A.handled=none) (al:Alive X s.heap) (p:RView g s.heap X (.vals (.dictI ks vs)) v) (f:fits vs.length=true):PrimF g A X s (call (.type "list") [v]) (.list vs):=by
  rcases p with p | ⟨r,rfl,p⟩
  · exact p.elim
  obtain ⟨d,hv,xd,p⟩:=p
  obtain ⟨kvs,ep,lo,da,ek,rv⟩:=p
  intro Q E hQ
  have hl:=rv.length
  rw [List.length_map] at hl
  refine kdl_call (kdl_values (knd:=intKind g.prog g.w) (kvs:=kvs) (ep:=ep)) hh ⟨hv,da⟩ (by rw [hl]; exact fits_line f) fun h' tk acc' c' hk hS it=>?_
  refine hQ _ _ _ (get?_size _) hk (alive_list hS ?_)
  have e:acc'.toList=kvs.map (·.2):=by
    refine List.ext_getElem? fun i=>?_
    by_cases hi:i < acc'.size
    · obtain ⟨k,hk⟩:=it.2 i _ (Array.getElem?_eq_getElem hi)
      rw [List.getElem?_map,hk,Array.getElem?_toList,Array.getElem?_eq_getElem hi]; rfl
    · rw [List.getElem?_eq_none (by simpa using hi),List.getElem?_eq_none (by rw [List.length_map,← it.1]; simpa using hi)]
  rw [e]
  exact rv.move (Grow.plus hk (get?_size _))
theorem items_rep:∀ {kvs:List (Str × Value)} {ks:List Str} {vs:List AV} {as:List Addr},(∀ a∈as,¬ X a)→as.length=ks.length→ks.length=vs.length→RepVs g h X vs (kvs.map (·.2))→kvs.map (·.1)=ks →
    (∀ (j:Nat) (a:Addr),as[j]?=some a→∃ key k x,kvs[j]?=some (k,x)∧(PySem.strKind g.prog g.w).is k key=true∧h.get? a=some { cls:=.type "tuple",data:=.seq #[key,x] }) →
    RepVs g h X ((ks.zip vs).map fun p=>.tup [.str p.1,p.2]) (as.map Value.ref)
  | [],ks,vs,as,low,hl,hv,rv,ek,pairs=>by
    cases ek
    cases as with
    | nil=>exact RepVs_nil.mpr rfl
    | cons _ _=>simp at hl
  | (k,x)::kvs,ks,vs,as,low,hl,hv,rv,ek,pairs=>by
    subst ek
    cases as with
    | nil=>simp at hl
    | cons a as =>
      cases vs with
      | nil=>rw [RepVs_nil] at rv; cases rv
      | cons v vs =>
        obtain ⟨_,_,e,p1,p2⟩:=RepVs_cons.mp rv
        cases e
        obtain ⟨key,k',x',e1,e2,e3⟩:=pairs 0 a rfl
        cases e1
        obtain ⟨t,rfl⟩:∃ t,key=.str k t:=Value.isStrOf_shape (by simpa [PySem.strKind] using e2)
        refine RepVs_cons.mpr ⟨_,_,rfl,.inr ⟨a,rfl,low a (List.mem_cons_self ..),?_⟩,items_rep (kvs:=kvs) (fun a ha=>low a (List.mem_cons_of_mem _ ha)) (by simpa using hl) (by simpa using hv) p2 rfl fun j a hj=>pairs (j+1) a (by simpa using hj)⟩
        exact ⟨[.str k t,x],⟨_,e3,rfl,0,rfl⟩,RepVs_cons.mpr ⟨_,_,rfl,rp_str,RepVs_cons.mpr ⟨_,_,rfl,p1,RepVs_nil.mpr rfl⟩⟩⟩
theorem listItemsP {ks:List Str} {vs:List AV} {v:Value} (hh:A.handled=none) (al:Alive X s.heap) (p:RView g s.heap X (.items (.dictS ks vs)) v) (f:fits vs.length=true):PrimF g A X s (call (.type "list") [v]) (.list ((ks.zip vs).map fun p=>.tup [.str p.1,p.2])):=by
  rcases p with p | ⟨r,rfl,p⟩
  · exact p.elim
  obtain ⟨d,hv,xd,p⟩:=p
  obtain ⟨kvs,ep,lo,da,ek,rv⟩:=p
  intro Q E hQ
  have hl:=rv.length
  rw [List.length_map] at hl
  refine kdx_call (knd:=PySem.strKind g.prog g.w) (kvs:=kvs) (ep:=ep) hh hv da (by rw [hl]; exact fits_line f) fun h' tk acc c as hk hS hal hG hacc=>?_
  refine hQ _ _ _ (get?_size _) hk (alive_list hS ?_)
  rw [hacc]
  exact items_rep (fun a ha q=>q.elim (al.fresh (Heap.get?_none_of_le (Nat.le_of_lt (hG.above a ha)))) (Nat.ne_of_gt (hG.above a ha))) (by rw [← ek,List.length_map,hal]) (by rw [← ek]; simpa using rv.length) (rv.move (Grow.plus (X:=X) hk (get?_size _))) ek hG.pairs
end
end Mine
namespace Mine
open PySem PyProof.Rows PySem.W PySem.Calls
section
variable {g:GG} {A:Around} {X:Addr→Prop} {s:Shared} {h:Heap}
theorem intsAre_of {xs:List AV} {vs:List Value} {ns:List Int} (p:RepVs g h X xs vs) (e:intsOf xs=some ns):IntsAre vs ns:=by
  induction xs generalizing vs ns with
  | nil=>cases e; cases p; exact .nil
  | cons x xs ih =>
    obtain ⟨v,r,rfl,p1,p2⟩:=RepVs_cons.mp p
    refine obC e fun i hi e=>omC e fun ms h2 e=>?_
    subst e
    obtain ⟨t,rfl⟩:=rv_int (AV.int?_inv hi ▸ p1.view)
    exact .cons _ _ (ih p2 h2)
theorem ints_back {vs:List Value} {ns:List Int} (p:IntsAre vs ns):RepVs g h X (ns.map .int) vs:=by
  induction p with
  | nil=>exact RepVs_nil.mpr rfl
  | cons n t _ ih=>exact RepVs_cons.mpr ⟨_,_,rfl,rp_int,ih⟩
theorem bytesP {xs:List AV} {ns:List Int} {v:Value} (hh:A.handled=none) (p:RView g s.heap X (.list xs) v) (e:intsOf xs=some ns) (f:fits ns.length=true) (r:ns.all (fun n=>decide (0≤n) && decide (n < 256))=true) :
    Prim g A X s (call (.type "bytes") [v]) (.bytes (ns.map fun n=>n.toNat.toUInt8)):=by
  obtain ⟨l,vs,rfl,q1,q2⟩:=rv_list p
  intro Q E hQ
  have hi:=intsAre_of q2 e
  refine call_bytes_ints (plain_isList q1) hi (fun n hn=>?_) (by rw [hi.length]; exact fits_line f) hh fun h' t k hk=>?_
  · have:=List.all_eq_true.mp r n hn
    simpa using this
  · exact hQ _ _ _ hk (.inl ⟨t,rfl⟩)
theorem sortedP {ks:List Str} {xs:List AV} {ns:List Int} {v:Value} (hh:A.handled=none) (al:Alive X s.heap) (p:RView g s.heap X (.vals (.dictS ks xs)) v) (e:intsOf xs=some ns) (f:ns.length < 64) :
    Prim g A X s (call (.builtin "sorted") [v]) (.list ((sortI ns).map .int)):=by
  rcases p with p | ⟨r,rfl,p⟩
  · exact p.elim
  obtain ⟨d,hv,xd,p⟩:=p
  obtain ⟨kvs,ep,lo,da,ek,rv⟩:=p
  intro Q E hQ
  have hi:=intsAre_of rv e
  have hl:kvs.length=ns.length:=by have:=hi.length; simpa using this
  refine call_function_entry kind_sorted plain_sorted entry_sorted (args_sorted1 _) ?_
  unfold Builtin.«sorted»
  refine wpAny_bind (m:=checkCount "sorted" 1 1 _) (wpAny_pure ?_)
  refine wpAny_bind (kdu_collect (A:=A.in1) (kdl_values (knd:=PySem.strKind g.prog g.w) (kvs:=kvs) (ep:=ep)) hh ⟨hv,da⟩ (by rw [sizeLine_eq]; omega) fun h' tk acc hk it=>?_)
  have ea:acc.toList=kvs.map (·.2):=by
    refine List.ext_getElem? fun i=>?_
    by_cases hi:i < acc.size
    · obtain ⟨k,hk⟩:=it.2 i _ (Array.getElem?_eq_getElem hi)
      rw [List.getElem?_map,hk,Array.getElem?_toList,Array.getElem?_eq_getElem hi]; rfl
    · rw [List.getElem?_eq_none (by simpa using hi),List.getElem?_eq_none (by rw [List.length_map,← it.1]; simpa using hi)]
  have hlen:acc.toList.length=ns.length:=by rw [ea]; exact hi.length
  refine wpAny_bind (wpAny_newList ?_ (by rw [hlen,sizeLine_eq]; omega))
  have hS:(h'.push { cls:=.type "list",data:=.seq acc.toList.toArray }).get? h'.objs.size=some (seqObj "list" acc.toList.toArray 0):=Heap.get?_push_size _ rfl
  refine wpAny_bind (wpAny_holding (wpAny_call_entry PyProof.Rows.slot_list_sort ⟨_,hS,rfl⟩ PyProof.Rows.entry_list_sort (list_sort_tree (n:=0) (vs:=acc.toList) hS (by rw [ea]; exact hi) (by rw [hlen]; exact f) fun out ns' hI hp hP=>⟨.none,rfl,?_⟩) (PyProof.Rows.args_list_sort _)))
  refine wpAny_pure ⟨_,rfl,?_⟩
  obtain ⟨ep',hat⟩:=sortedHeap_at (out:=out) hS
  have gr:Grow s.heap (sortedHeap (h'.push { cls:=.type "list",data:=.seq acc.toList.toArray }) h'.objs.size acc.toList out):=fun b o e=>by
    have e1:=hk b o e
    have lt:=Heap.lt_size e1
    rw [sortedHeap_old (Nat.ne_of_lt lt) (by rw [Heap.size_push]; exact Nat.lt_succ_of_lt lt)]
    exact Heap.get?_push_of_some _ e1
  refine hQ _ _ _ gr (.inr ⟨_,rfl,fun xh=>?_,?_⟩)
  · obtain ⟨o,ho⟩:=al _ xh
    have:=Heap.lt_size (hk _ _ ho)
    exact Nat.lt_irrefl _ this
  · refine ⟨out.toList,⟨ep',by rw [Array.toArray_toList]; exact hat⟩,?_⟩
    rw [← eq_sortI hp hP]
    exact ints_back hI
theorem join_meth {x:Str} {v:Value} {pl:Sem Bool} (p:RView g s.heap X (.str x) v) {Q:Value × List Value→Shared→Prop} {E:Value→Shared→Prop} (hQ:Q (.builtin "str.join",[v]) s):wpAny (model g.prog g.w) A (getMethod v "join" pl) Q E s:=by
  obtain ⟨t,rfl⟩:=rv_str p
  exact getMethod_builtin (typeIs_str s x t) PySem.F.plainAttrs_str PySem.F.slot_str_join PySem.F.type_str_join (fun a e=>nomatch e) hQ
theorem split_meth {x:Str} {v:Value} {pl:Sem Bool} (p:RView g s.heap X (.str x) v) {Q:Value × List Value→Shared→Prop} {E:Value→Shared→Prop} (hQ:Q (.builtin "str.split",[v]) s):wpAny (model g.prog g.w) A (getMethod v "split" pl) Q E s:=by
  obtain ⟨t,rfl⟩:=rv_str p
  exact getMethod_builtin (typeIs_str s x t) PySem.F.plainAttrs_str PySem.F.slot_str_split PySem.F.type_str_split (fun a e=>nomatch e) hQ
theorem count_meth {xs:List AV} {v:Value} {pl:Sem Bool} (p:RView g s.heap X (.list xs) v) {Q:Value × List Value→Shared→Prop} {E:Value→Shared→Prop} (hQ:Q (.builtin "list.count",[v]) s):wpAny (model g.prog g.w) A (getMethod v "count" pl) Q E s:=by
  obtain ⟨l,vs,rfl,⟨n,ho⟩,q2⟩:=rv_list p
  exact getMethod_builtin ⟨_,ho,rfl⟩ PySem.F.plainAttrs_list PySem.F.slot_list_count PySem.F.type_list_count (fun a e=>by cases e; exact ⟨_,ho,rfl⟩) hQ
theorem pop_meth {xs:List AV} {v:Value} {pl:Sem Bool} (p:RView g s.heap X (.list xs) v) {Q:Value × List Value→Shared→Prop} {E:Value→Shared→Prop} (hQ:Q (.builtin "list.pop",[v]) s):wpAny (model g.prog g.w) A (getMethod v "pop" pl) Q E s:=by
  obtain ⟨l,vs,rfl,⟨n,ho⟩,q2⟩:=rv_list p
  exact getMethod_builtin ⟨_,ho,rfl⟩ PySem.F.plainAttrs_list PySem.F.slot_list_pop PySem.F.type_list_pop (fun a e=>by cases e; exact ⟨_,ho,rfl⟩) hQ
theorem append_meth {xs:List AV} {v:Value} {pl:Sem Bool} (p:RView g s.heap X (.list xs) v) {Q:Value × List Value→Shared→Prop} {E:Value→Shared→Prop} (hQ:Q (.builtin "list.append",[v]) s):wpAny (model g.prog g.w) A (getMethod v "append" pl) Q E s:=by
  obtain ⟨l,vs,rfl,⟨n,ho⟩,q2⟩:=rv_list p
  exact getMethod_builtin ⟨_,ho,rfl⟩ PySem.F.plainAttrs_list PySem.F.slot_list_append PySem.F.type_list_append (fun a e=>by cases e; exact ⟨_,ho,rfl⟩) hQ
theorem dict_meth {K:Type} [DecidableEq K] {knd:KeyKind g.prog g.w K} {a:Addr} {kvs:List (K × Value)} {ep:Nat} (d:s.heap.DictAt knd a kvs ep) {name:Str} {id:String} {pl:Sem Bool} (slot:Slot "dict" name id) (ty:typeOf (.builtin id)=pure (.type "method_descriptor"))
    {Q:Value × List Value→Shared→Prop} {E:Value→Shared→Prop} (hQ:Q (.builtin id,[.ref a]) s):wpAny (model g.prog g.w) A (getMethod (.ref a) name pl) Q E s:=by
  obtain ⟨o,es,ho,hx,r⟩:=d
  exact getMethod_builtin ⟨_,ho,hx.1⟩ PySem.F.plainAttrs_dict slot ty (fun a e=>by cases e; exact ⟨_,ho,hx.2.1⟩) hQ
theorem joinP {x:Str} {xs:List AV} {ss:List Str} {v v':Value} (p:RView g s.heap X (.str x) v) (q:RView g s.heap X (.list xs) v') (e:strsOf xs=some ss) (f:fits (ss.foldl (fun n y=>n+y.length+x.length) 0)=true) :
    Prim g A X s (call (.builtin "str.join") [v,v']) (.str (Builtin.Str.glued x ss)):=by
  obtain ⟨t,rfl⟩:=rv_str p
  obtain ⟨l,vs,rfl,q1,q2⟩:=rv_list q
  obtain ⟨ts,rfl,hl⟩:=strs_any q2 e
  intro Q E hQ
  have:=fits_iff f
  refine SC.join (l:=ss.zip ts) (texts:=ss) ?_ (List.map_fst_zip (Nat.le_of_eq hl.symm)) ?_ fun t' k=>?_
  · have:=plain_isList q1
    unfold strValues
    exact this
  · unfold JoinOk
    rw [Bool.not_eq_true']
    unfold Builtin.Str.tooLong
    rw [List.foldl_toArray]
    rw [decide_eq_false]
    rw [sizeLine_eq]; omega
  · exact hQ _ _ _ (Grow.refl _) rp_str
theorem strsFrom_rep:∀ (tk:Nat) (ss:List Str),RepVs g h X (ss.map .str) (strsFrom tk ss)
  | _,[]=>RepVs_nil.mpr rfl
  | tk,x::r=>RepVs_cons.mpr ⟨_,_,rfl,rp_str,strsFrom_rep (tk+1) r⟩
theorem splitP {x y:Str} {v v':Value} (al:Alive X s.heap) (p:RView g s.heap X (.str x) v) (q:RView g s.heap X (.str y) v') (f:fits x.length=true)
    (h1:(decide (x.length < y.length) || decide (Builtin.Str.strKind x < Builtin.Str.strKind y))=false) (hy:(y.length == 0)=false)
    (hf:(Builtin.Str.occurrences x y 0 x.length (x.length+1)).isEmpty=false)
    (hn:fits (Builtin.Str.partsBetween x (Builtin.Str.occurrences x y 0 x.length (x.length+1)) y.length).length=true) :
    Prim g A X s (call (.builtin "str.split") [v,v']) (.list ((Builtin.Str.partsBetween x (Builtin.Str.occurrences x y 0 x.length (x.length+1)) y.length).map .str)):=by
  obtain ⟨t,rfl⟩:=rv_str p
  obtain ⟨u,rfl⟩:=rv_str q
  intro Q E hQ
  refine call_meets PySem.F.slot_str_split (typeIs_str _ _ _) PySem.F.entry_str_split (PySem.F.args_str_split_2 _ _) (meets_str_split_sep x y t u h1 hy hf (fits_line f) (fits_line hn)) ?_
  exact hQ _ _ _ (Grow.push _ _) (newList_rep al (strsFrom_rep _ _))
theorem isT_count (x:Str):∀ (ns:List Str) (ts:List Tok),ts.length=ns.length→((ns.zip ts).map (fun q=>Value.str q.1 q.2)).countP (isT x)=ns.countP (· == x)
  | [],_,_=>rfl
  | n::ns,t::ts,h=>by
    rw [List.zip_cons_cons,List.map_cons,List.countP_cons,isT_count x ns ts (by simpa using h),List.countP_cons]
    rfl
  | _::_,[],h=>by simp at h
theorem countP {x:Str} {xs:List AV} {ss:List Str} {v v':Value} (q:RView g s.heap X (.list xs) v) (p:RView g s.heap X (.str x) v') (e:strsOf xs=some ss) :
    Prim g A X s (call (.builtin "list.count") [v,v']) (.int (ss.countP (· == x))):=by
  obtain ⟨t,rfl⟩:=rv_str p
  obtain ⟨l,vs,rfl,⟨n,ho⟩,q2⟩:=rv_list q
  obtain ⟨ts,rfl,hl⟩:=strs_any q2 e
  intro Q E hQ
  refine call_meets PySem.F.slot_list_count ⟨_,ho,rfl⟩ PySem.F.entry_list_count (PySem.F.args_list_count_2 _ _) (SeqAt.list_countAt l _ n _ _ (.str x t) (isT x)) ⟨ho,fun y hy=>?_,?_⟩
  · simp only [List.mem_toArray,List.mem_map] at hy
    obtain ⟨⟨n,t'⟩,_,rfl⟩:=hy
    exact SeqAt.EqAt.str_str _ _ _ _
  · rw [isT_count x ss ts hl]
    exact hQ _ _ _ (Grow.refl _) rp_int
theorem itemsP {ks:List Str} {vs:List AV} {a:Addr} (al:Alive X s.heap) (xa:¬ X a) (p:RepC g s.heap X (.dictS ks vs) a):Prim g A X s (call (.builtin "dict.items") [.ref a]) (.items (.dictS ks vs)):=by
  have p0:=p
  obtain ⟨kvs,ep,lo,da,ek,rv⟩:=p
  intro Q E hQ
  refine call_meetsIn PySem.F.slot_dict_items da.dictOf.typeIs PySem.F.entry_dict_items (PySem.F.args_dict_items_1 _) (meets_dict_items (PySem.strKind g.prog g.w) a lo) ⟨⟨_,da.dictOf⟩,?_⟩
  refine hQ _ _ _ (Grow.push _ _) (.inr ⟨_,rfl,al.fresh (get?_size _),?_⟩)
  exact ⟨a,⟨_,Heap.get?_push_size _ rfl,rfl,rfl⟩,xa,RepC.move (Grow.push _ _).move p0 fun o e=>Heap.get?_push_of_some _ e⟩
theorem valsSP {ks:List Str} {vs:List AV} {a:Addr} (al:Alive X s.heap) (xa:¬ X a) (p:RepC g s.heap X (.dictS ks vs) a):Prim g A X s (call (.builtin "dict.values") [.ref a]) (.vals (.dictS ks vs)):=by
  have p0:=p
  obtain ⟨kvs,ep,lo,da,ek,rv⟩:=p
  intro Q E hQ
  refine call_meetsIn PySem.F.slot_dict_values da.dictOf.typeIs PySem.F.entry_dict_values (PySem.F.args_dict_values_1 _) (meets_dict_values (PySem.strKind g.prog g.w) a lo) ⟨⟨_,da.dictOf⟩,?_⟩
  refine hQ _ _ _ (Grow.push _ _) (.inr ⟨_,rfl,al.fresh (get?_size _),?_⟩)
  exact ⟨a,⟨_,Heap.get?_push_size _ rfl,rfl,rfl⟩,xa,RepC.move (Grow.push _ _).move p0 fun o e=>Heap.get?_push_of_some _ e⟩
theorem valsIP {ks:List Int} {vs:List AV} {a:Addr} (al:Alive X s.heap) (xa:¬ X a) (p:RepC g s.heap X (.dictI ks vs) a):Prim g A X s (call (.builtin "dict.values") [.ref a]) (.vals (.dictI ks vs)):=by
  have p0:=p
  obtain ⟨kvs,ep,lo,da,ek,rv⟩:=p
  intro Q E hQ
  refine call_meetsIn PySem.F.slot_dict_values da.dictOf.typeIs PySem.F.entry_dict_values (PySem.F.args_dict_values_1 _) (meets_dict_values (intKind g.prog g.w) a lo) ⟨⟨_,da.dictOf⟩,?_⟩
  refine hQ _ _ _ (Grow.push _ _) (.inr ⟨_,rfl,al.fresh (get?_size _),?_⟩)
  exact ⟨a,⟨_,Heap.get?_push_size _ rfl,rfl,rfl⟩,xa,RepC.move (Grow.push _ _).move p0 fun o e=>Heap.get?_push_of_some _ e⟩
end
section
variable {g:GG} {A:Around} {X:Addr→Prop} {s:Shared} {h:Heap}
theorem sub_tail {value slice:Expr} {o i:Value} {T id:String} {Q:Value→Shared→Prop} {E:Value→Shared→Prop} (hs:isSlice slice=false) (hT:s.TypeIs o T)
    (hl:typeLookup (.type T) "__getitem__"=pure (some (.builtin id))) (h:wpAny (model g.prog g.w) A (getItem o i) Q E s):wpAny (model g.prog g.w) A (subscriptTail value slice o i) Q E s:=by
  unfold subscriptTail
  refine wpAny_bind ?_
  rw [getitemInPython_of_ne hT.not_modules]
  refine wpAny_bind (wpAny_specialOf hT hl ?_)
  have e:subscripted slice false o i=operate [o,i] (getItem o i):=by
    cases slice <;> first | rfl | (cases hs; done)
  have fin:wpAny (model g.prog g.w) A (subscripted slice false o i) (fun r s₃=>wpAny (model g.prog g.w) A (letTemporaryGo value o r >>= fun _=>pure r) Q E s₃) E s:=by
    rw [e]
    exact wpAny_operating (wpAny_mono h (fun r s₃ h₃=>wpAny_bind (wpAny_letTemporaryGo (wpAny_pure h₃))) fun _ _ x=>x)
  first
    | exact wpAny_pure (wpAny_bind fin)
    | exact wpAny_bind (wpAny_pure (wpAny_bind fin))
    | exact wpAny_bind fin
theorem place_some {n:Nat} {i:Int} {k:Nat} (e:place n i=some k):0≤i∧i.toNat=k∧k < n :=
  itepC e fun h0 e=>itepC e fun h1 e=>⟨h0,Option.some.inj e,Option.some.inj e ▸ h1⟩
theorem seqIdx {n:Nat} {i:Int} (h0:0≤i) (h:i.toNat < n):seqIndex? i n=some i.toNat:=by
  unfold seqIndex?
  have e:¬ i < 0:=by omega
  have e2:i < n:=by omega
  simp [e,h0,e2]
theorem keyAt_valueAt {K:Type} [DecidableEq K] {k:K} {z:AV} {kvs:List (K × Value)}:∀ {vs:List AV},RepVs g h X vs (kvs.map (·.2))→keyAt (kvs.map (·.1)) vs k=some z→∃ v,valueAt kvs k=some v∧RepV g h X z v:=by
  induction kvs with
  | nil=>exact fun _ e=>nn e
  | cons p kvs ih =>
    intro vs r e
    cases vs with
    | nil=>exact nn e
    | cons y ys =>
      obtain ⟨_,_,e1,p1,p2⟩:=RepVs_cons.mp r
      obtain ⟨rfl,rfl⟩:=List.cons.inj e1
      have e':(if p.1=k then some y else keyAt (kvs.map (·.1)) ys k)=some z:=e
      unfold valueAt
      by_cases h:p.1=k
      · rw [if_pos h] at e'
        cases Option.some.inj e'
        have hf:(p::kvs).find? (fun kv=>decide (kv.1=k))=some p:=List.find?_cons_of_pos (decide_eq_true h)
        exact ⟨p.2,congrArg (Option.map (·.2)) hf,p1⟩
      · rw [if_neg h] at e'
        have hf:(p::kvs).find? (fun kv=>decide (kv.1=k))=kvs.find? (fun kv=>decide (kv.1=k)):=List.find?_cons_of_neg (fun q=>h (of_decide_eq_true q))
        rw [hf]
        exact ih p2 e'
theorem place_fit {n:Nat} {i:Int} (f:fits n=true) (h0:0≤i) (h:i.toNat < n):i < 2 ^ 63:=by
  have:=fits_iff f
  omega
noncomputable def Gives (s:Shared) (v:Value):Prop:=∃ T id,s.TypeIs v T∧typeLookup (.type T) "__getitem__"=pure (some (.builtin id))
theorem getAny {x i z:AV} {v v':Value} (e:idxV x i=some z) (p:RView g s.heap X x v) (q:RView g s.heap X i v'):Gives s v∧Prim g A X s (getItem v v') z:=by
  refine orC e (fun e=>lC (P:=fun v=>Gives s v∧Prim g A X s (getItem v v') z) p e fun xs l vs p1 p2 e=>iC (P:=fun v'=>Gives s (.ref l)∧Prim g A X s (getItem (.ref l) v') z) q e fun i t e=>?_) fun e =>
    orC e (fun e=>tC (P:=fun v=>Gives s v∧Prim g A X s (getItem v v') z) p e fun xs l vs p1 p2 e=>iC (P:=fun v'=>Gives s (.ref l)∧Prim g A X s (getItem (.ref l) v') z) q e fun i t e=>?_) fun e =>
    orC e (fun e=>sC (P:=fun v=>Gives s v∧Prim g A X s (getItem v v') z) p e fun x t e=>iC (P:=fun v'=>Gives s (.str x t)∧Prim g A X s (getItem (.str x t) v') z) q e fun i u e=>?_) fun e =>
    orC e (fun e=>obC e fun d hd e=>iC (P:=fun v'=>Gives s v∧Prim g A X s (getItem v v') z) q e fun i t e=>?_) fun e=>obC e fun d hd e=>sC (P:=fun v'=>Gives s v∧Prim g A X s (getItem v v') z) q e fun i t e=>?_
  · refine iteC e fun f e=>obC e fun k hp e=>?_
    obtain ⟨h0,rfl,hk⟩:=place_some hp
    obtain ⟨w,hw,r⟩:=p2.get e
    exact ⟨⟨_,_,(plain_isList p1).typeIs,list_getitem_lookup⟩,fun Q E hQ=>wpAny_getItem_list (plain_isList p1) h0 (place_fit f h0 hk) (List.getElem?_toArray.trans hw) (hQ _ _ _ (Grow.refl _) r)⟩
  · refine iteC e fun f e=>obC e fun k hp e=>?_
    obtain ⟨h0,rfl,hk⟩:=place_some hp
    obtain ⟨w,hw,r⟩:=p2.get e
    exact ⟨⟨_,_,p1.typeIs,slot_tuple_getitem.lookup⟩,fun Q E hQ=>getItem_tuple (j:=i.toNat) p1 (Int.le_trans (by decide) h0) (place_fit f h0 hk) (by rw [List.size_toArray,p2.length]; exact seqIdx h0 hk) (List.getElem?_toArray.trans hw) (hQ _ _ _ (Grow.refl _) r)⟩
  · refine iteC e fun f e=>obC e fun k hp e=>omC e fun c hc ez=>?_
    obtain ⟨h0,rfl,hk⟩:=place_some hp
    subst ez
    refine ⟨⟨_,_,typeIs_str s x t,slot_str_getitem.lookup⟩,fun Q E hQ=>P.getItem_str (c:=c) ?_ ?_ (hQ _ _ _ (Grow.refl _) rp_str)⟩
    · rw [decide_eq_false (Int.not_lt.mpr (Int.le_trans (by decide) h0)),decide_eq_false (Int.not_le.mpr (place_fit f h0 hk))]; rfl
    · rw [seqIdx h0 hk]; exact hc
  · refine rv_ref (P:=fun _ v=>Gives s v∧Prim g A X s (getItem v (.int i t)) z) (fun _=>id) (AV.dI?_inv hd ▸ p:RView g s.heap X (.dictI d.1 d.2) v) fun a r=>?_
    obtain ⟨kvs,ep,la,da,ek,rv⟩:=r
    obtain ⟨v,e1,r⟩:=keyAt_valueAt rv (ek ▸ e)
    exact ⟨⟨_,_,da.dictOf.typeIs,slot_dict_getitem.lookup⟩,fun Q E hQ=>wpAny_getItem_of (knd:=intKind g.prog g.w) (k:=i) (by simp [intKind,Value.isInt]) da.dictOf.mapOf e1 (hQ _ _ _ (Grow.refl _) r)⟩
  · refine rv_ref (P:=fun _ v=>Gives s v∧Prim g A X s (getItem v (.str i t)) z) (fun _=>id) (AV.dS?_inv hd ▸ p:RView g s.heap X (.dictS d.1 d.2) v) fun a r=>?_
    obtain ⟨kvs,ep,la,da,ek,rv⟩:=r
    obtain ⟨v,e1,r⟩:=keyAt_valueAt rv (ek ▸ e)
    exact ⟨⟨_,_,da.dictOf.typeIs,slot_dict_getitem.lookup⟩,fun Q E hQ=>wpAny_getItem_of (knd:=PySem.strKind g.prog g.w) (k:=i) (by simp [PySem.strKind,Value.isStrOf]) da.dictOf.mapOf e1 (hQ _ _ _ (Grow.refl _) r)⟩
theorem idxP {value slice:Expr} {x i z:AV} {v v':Value} (hs:isSlice slice=false) (e:idxV x i=some z) (p:RView g s.heap X x v) (q:RView g s.heap X i v'):Prim g A X s (subscriptTail value slice v v') z:=by
  obtain ⟨⟨T,id,h1,h2⟩,h3⟩:=getAny (A:=A) e p q
  exact fun Q E hQ=>sub_tail hs h1 h2 (h3 Q E hQ)
theorem fltGt_cmp (ns:Nat→UInt64) (P:Nat→Value→Prop) (hP:∀ i v,P i v→∃ t,v=.float (ns i) t) (B:Around):CmpOf g.prog g.w B .Gt P (fun i j=>fltGt (ns i) (ns j)):=by
  intro i j vi vj s' Q E hi hj hQ
  obtain ⟨t,rfl⟩:=hP i vi hi
  obtain ⟨u,rfl⟩:=hP j vj hj
  exact AutoFloatOps.gt_0 hQ
theorem fltLt_cmp (ns:Nat→UInt64) (P:Nat→Value→Prop) (hP:∀ i v,P i v→∃ t,v=.float (ns i) t) (B:Around):CmpOf g.prog g.w B .Lt P (fun i j=>fltLt (ns i) (ns j)):=by
  intro i j vi vj s' Q E hi hj hQ
  obtain ⟨t,rfl⟩:=hP i vi hi
  obtain ⟨u,rfl⟩:=hP j vj hj
  exact AutoFloatOps.lt_0 hQ
noncomputable def nsOf (a b c:UInt64):Nat→UInt64
  | 0=>a
  | 1=>b
  | _=>c
noncomputable def seq3 (a b c:UInt64) (t u x:Tok):Array Value:=#[Value.float a t,.float b u,.float c x]
noncomputable def tupO (xs:Array Value):Obj:={ cls:=.type "tuple",data:=.seq xs }
theorem three {a b c:UInt64} {t u x:Tok} {i:Nat} {v:Value} (e:(seq3 a b c t u x)[i]?=some v):∃ t,v=.float (nsOf a b c i) t:=by
  match i,e with
  | 0,e=>exact ⟨_,(Option.some.inj e).symm⟩
  | 1,e=>exact ⟨_,(Option.some.inj e).symm⟩
  | 2,e=>exact ⟨_,(Option.some.inj e).symm⟩
  | n+3,e=>exact nn e
theorem best_three (f:UInt64→UInt64→Bool) (a b c:UInt64):nsOf a b c (argBest (fun i j=>f (nsOf a b c i) (nsOf a b c j)) 2)=if f b a then (if f c b then c else b) else (if f c a then c else a):=by
  simp only [argBest,nsOf]
  by_cases h1:f b a=true
  · simp only [h1,if_true,nsOf]
    by_cases h2:f c b=true <;> simp [h2,nsOf]
  · simp only [h1,Bool.false_eq_true,if_false,nsOf]
    by_cases h2:f c a=true <;> simp [h2,nsOf]
noncomputable def p3Name (p:P3):String:=@P3.casesOn (fun _=>String) p "max" "min"
theorem three_end {a b c:UInt64} {t u q:Tok} {f:UInt64→UInt64→Bool} {o:Obj} {Q:Value→Shared→Prop} (hQ:∀ v h' tk,Grow s.heap h'→RepV g h' X (.flt (if f b a then (if f c b then c else b) else (if f c a then c else a))) v→Q v { s with heap:=h',toks:=tk }) (v:Value) (h':Heap) (tk:Nat)
    (hP:(seq3 a b c t u q)[argBest (fun i j=>f (nsOf a b c i) (nsOf a b c j)) 2]?=some v) (hk:∀ b' o',b' ∉ [(s.heap.push (tupO (seq3 a b c t u q))).objs.size]→((s.heap.push (tupO (seq3 a b c t u q))).push o).get? b'=some o'→h'.get? b'=some o'):Q v { s with heap:=h',toks:=tk }:=by
  obtain ⟨t',rfl⟩:=three hP
  rw [best_three]
  refine hQ _ _ _ (fun b' o' e=>hk b' o' (fun hm=>?_) (Heap.get?_push_of_some _ (Heap.get?_push_of_some _ e))) rp_flt
  have:=Heap.lt_size e
  rw [List.mem_singleton.mp hm,Heap.size_push] at this
  exact Nat.lt_irrefl _ (Nat.lt_of_succ_lt this)
theorem two_below {h:Heap} {o o':Obj} {d:Addr} (hd:d∈[(h.push o).objs.size,h.objs.size]):d < ((h.push o).push o').objs.size:=by
  rw [Heap.size_push,Heap.size_push] at *
  rcases List.mem_cons.mp hd with rfl | hd
  · exact Nat.lt_succ_self _
  · rw [List.mem_singleton.mp hd]
    exact Nat.lt_succ_of_lt (Nat.lt_succ_self _)
theorem f3P (op:Value→Value→Value→Sem Value) {f:UInt64→UInt64→UInt64→UInt64} {x y z r:AV} {v v' v'':Value} (hx:RView g s.heap X x v) (hy:RView g s.heap X y v') (hz:RView g s.heap X z v'') (e:onF3 x y z f=some r)
    (k:∀ a t b u c q,Prim g A X s (op (.float a t) (.float b u) (.float c q)) (.flt (f a b c))):Prim g A X s (op v v' v'') r :=
  fC (P:=fun v=>Prim g A X s (op v v' v'') r) hx e fun a t e=>fC (P:=fun v'=>Prim g A X s (op (.float a t) v' v'') r) hy e fun b u e=>fC (P:=fun v''=>Prim g A X s (op (.float a t) (.float b u) v'') r) hz e fun c q e=>somP e (k a t b u c q)
theorem tup_new (h:Heap) (xs:Array Value):(h.push (tupO xs)).IsTuple h.objs.size xs:=⟨_,Heap.get?_push_size _ rfl,rfl,0,rfl⟩
theorem size_ne (h:Heap) (o:Obj):h.objs.size≠(h.push o).objs.size:=by rw [Heap.size_push]; exact Nat.ne_of_lt (Nat.lt_succ_self _)
theorem p3P {p:P3} {x y z r:AV} {v v' v'':Value} (hh:A.handled=none) (e:p3V p x y z=some r) (hx:RView g s.heap X x v) (hy:RView g s.heap X y v') (hz:RView g s.heap X z v'') :
    Prim g A X s (call (.builtin (p3Name p)) [v,v',v'']) r:=by
  cases p with
  | max =>
    refine f3P (fun v v' v''=>call (.builtin "max") [v,v',v'']) hx hy hz e fun a t b u c q Q E hQ=>call_max_three (wpAny_pyIter_tuple (tup_new s.heap (seq3 a b c t u q)) ?_)
    exact ⟨_,[_,s.heap.objs.size],[_],_,_,_,_,rfl,Walks.tuple (A:=A.in1) hh _ s.heap.objs.size (size_ne _ _) (seq3 a b c t u q),
      ⟨⟨_,Heap.get?_push_size _ rfl,rfl,rfl⟩,(tup_new s.heap (seq3 a b c t u q)).push _⟩,fun d hd=>two_below hd,(by decide:0 < 3),fltGt_cmp (nsOf a b c) _ (fun _ _=>three) _,three_end hQ⟩
  | min =>
    refine f3P (fun v v' v''=>call (.builtin "min") [v,v',v'']) hx hy hz e fun a t b u c q Q E hQ=>call_min_three (wpAny_pyIter_tuple (tup_new s.heap (seq3 a b c t u q)) ?_)
    exact ⟨_,[_,s.heap.objs.size],[_],_,_,_,_,rfl,Walks.tuple (A:=A.in1) hh _ s.heap.objs.size (size_ne _ _) (seq3 a b c t u q),
      ⟨⟨_,Heap.get?_push_size _ rfl,rfl,rfl⟩,(tup_new s.heap (seq3 a b c t u q)).push _⟩,fun d hd=>two_below hd,(by decide:0 < 3),fltLt_cmp (nsOf a b c) _ (fun _ _=>three) _,three_end hQ⟩
end
noncomputable def bltTab:List (String × Value):=[("range",.type "range"),("len",.builtin "len"),("list",.type "list"),("hex",.builtin "hex"),("int",.type "int"),("dict",.type "dict"),("bytes",.type "bytes"),("sorted",.builtin "sorted"),
  ("iter",.builtin "iter"),("next",.builtin "next"),("isinstance",.builtin "isinstance"),("tuple",.type "tuple"),("max",.builtin "max"),("min",.builtin "min"),("enumerate",.type "enumerate"),("StopIteration",.type "StopIteration")]
structure ClsK (K:Frag) (C fI fC:Addr):Prop where
  makes:makesIn K C=true
  init:findIn K (.ref C) "__init__"=some (some (.ref fI))
  initT:typeIn K (.ref fI)=some (.type "function")
  keep:keepIn K (.ref C)=true
  hga:findIn K (.ref C) "__getattribute__"=some (some (.builtin "object.__getattribute__"))
  hk:findIn K (.ref C) "__getattr__"=some none
  cmp:findIn K (.ref C) "compare"=some (some (.ref fC))
  cmpT:typeIn K (.ref fC)=some (.type "function")
  sel:findIn K (.ref C) "comp_select_list"=some none
  pg:plainGet K C "comp_select_list"=true
  hd:hasDictIn K C=true
  sa:findIn K (.ref C) "__setattr__"=some (some (.builtin "object.__setattr__"))
  po:plainOver K C=true
  tk:takerIn K C "comp_select_list"=some none
  hd2:(clsIn K C).any (·.hasDict)=true
structure Base (g:GG) (mg mb:Str→Option Value) (h:Heap):Prop where
  big:sysModules < h.objs.size
  noLimit:h.NoLimit
  nsg:h.Ns mainGlobals mg
  nsb:h.Ns builtinsNs mb
  blt:∀ p∈bltTab,mg (Str.ofString p.1)=none∧mb (Str.ofString p.1)=some p.2
  cst:∀ p∈constTab,∃ t,mg (Str.ofString p.1)=some (.float p.2 t)
  flags:∃ d kvs ep,mg (Str.ofString "COMPILER_FLAG_NAMES")=some (.ref d)∧(d == sysModules)=false∧h.DictAt (intKind g.prog g.w) d kvs ep∧kvs.map (·.1)=flagKvs.map (·.1) ∧
    RepVs g h (fun _=>False) (flagKvs.map fun p=>.str (Str.ofString p.2)) (kvs.map (·.2))
  kin:g.K.In h
  cls:mg (Str.ofString "TupleComp")=some (.ref g.C)
  clsK:ClsK g.K g.C g.fI g.fC
noncomputable def FnAt (h:Heap) (a:Addr):Prop:=∃ o fd,h.get? a=some o∧o.data=.func fd
noncomputable def nameOfFn:Fn→Option String
  | .addCallers=>some "add_callers" | .countCalls=>some "count_calls" | .rgbHls=>some "rgb_to_hls" | .hlsRgb=>some "hls_to_rgb" | .v=>some "_v" | .rgbHsv=>some "rgb_to_hsv" | .hsvRgb=>some "hsv_to_rgb"
  | .flags=>some "pretty_flags" | .words=>some "_law_words" | .list=>some "_law_list" | .tape=>some "_law_tape" | .rank=>some "_law_rank" | .best=>some "_law_best" | .firm=>some "_law_firm" | .painted=>some "_law_painted" | .tables=>some "_law_tables" | .compare | .mk=>none
noncomputable def CallP (g:GG) (n:Nat) (h₀:Heap) (t:Value) (xs:List AV) (r:AV):Prop :=
  ∀ (A:Around) (s:Shared) (X:Addr→Prop) (vs:List Value),AOk n A→Grow h₀ s.heap→h₀.objs.size≤s.heap.objs.size→Alive X s.heap→(∀ b,X b→h₀.get? b=none)→RepVs g s.heap X xs vs→Prim g A X s (call t vs) r
noncomputable def CallPv (g:GG) (n:Nat) (h₀:Heap) (t:Value) (b:List UInt8) (p:Nat) (v:Int) (p':Nat):Prop :=
  ∀ (A:Around) (s:Shared) (a:Addr) (u:Tok),AOk n A→Grow h₀ s.heap→h₀.objs.size≤s.heap.objs.size→h₀.get? a=none→KBw.IsBytesIter s.heap a b.toArray u p→∀ (Q:Value→Shared→Prop) (E:Value→Shared→Prop),
    (∀ w h' tk,Ext (·=a) s.heap h'→(∃ u',KBw.IsBytesIter h' a b.toArray u' p')→Q (.int v w) { s with heap:=h',toks:=tk })→wpAny (model g.prog g.w) A (call t [.ref a]) Q E s
noncomputable def CallStop (g:GG) (n:Nat) (h₀:Heap) (t:Value) (b:List UInt8) (p:Nat) (p':Nat):Prop :=
  b.length < p'∧∀ (A:Around) (s:Shared) (a:Addr) (u:Tok) (l:List Env) (base:Heap),AOk n A→Grow h₀ s.heap→h₀.objs.size≤s.heap.objs.size→h₀.get? a=none→KBw.IsBytesIter s.heap a b.toArray u p →
    A.frames=some l→Heap.StaysIn base s.heap→base.get? a=none→s.heap.FunFrames base l→∀ (Q:Value→Shared→Prop) (E:Value→Shared→Prop),
    (∀ e a0 h' tk,Heap.FlyingW base l e (.type "StopIteration") a0 h'→(∀ x o,x≠a→s.heap.get? x=some o→(∀ vs,o.data≠.fields vs)→∃ sl,h'.get? x=some { o with slots:=sl })→(∃ o vs,h'.get? a=some o∧o.data=.fields vs∧vs.size=2)→s.heap.get? e=none →
      E (.ref e) { s with heap:=h',toks:=tk })→wpAny (model g.prog g.w) A (call t [.ref a]) Q E s
structure TabOk (g:GG) (mg:Str→Option Value) (T:Tab) (n:Nat) (h₀:Heap):Prop where
  fn:∀ f nm xs r,nameOfFn f=some nm→T.fn f xs=some r→∃ a,mg (Str.ofString nm)=some (.ref a)∧FnAt h₀ a∧CallP g n h₀ (.ref a) xs r
  cmp:∀ xs r,T.fn .compare xs=some r→(∃ ys rest,xs=.inst ys::rest)∧FnAt h₀ g.fC∧CallP g n h₀ (.ref g.fC) xs r
  inst:∀ xs r,T.fn .mk xs=some r→CallP g n h₀ (.ref g.C) xs r
  pv:∀ b p v p',T.pv b p=some (some v,p')→∃ a,mg (Str.ofString "_parse_varint")=some (.ref a)∧FnAt h₀ a∧CallPv g n h₀ (.ref a) b p v p'
  stop:∀ b p p',T.pv b p=some (none,p')→∃ a,mg (Str.ofString "_parse_varint")=some (.ref a)∧FnAt h₀ a∧CallStop g n h₀ (.ref a) b p p'
noncomputable def ESound (g:GG) (mg mb:Str→Option Value) (c:Ctx) (e:Expr) (me:ME):Prop :=
  ∀ (T:Tab) (n:Nat) (h₀:Heap) (A:Around) (env:Env) (X:Addr→Prop) (ρ:List Addr) (ve:List MV) (σ:List AV) (s:Shared),
    AOk n A→Base g mg mb h₀→TabOk g mg T n h₀→Stt g h₀ c env X ρ ve σ s.heap→EOK g A X ρ s (eval e env) (evE T me ve σ) (isFresh e)
noncomputable def LSound (g:GG) (mg mb:Str→Option Value) (c:Ctx) (es:List Expr) (me:MEs):Prop :=
  ∀ (T:Tab) (n:Nat) (h₀:Heap) (A:Around) (env:Env) (X:Addr→Prop) (ρ:List Addr) (ve:List MV) (σ:List AV) (s:Shared) (pos:Pos),
    AOk n A→Base g mg mb h₀→TabOk g mg T n h₀→Stt g h₀ c env X ρ ve σ s.heap→LOK g A X ρ s (spliced (backTo pos (starEach es env))) (evEs T me ve σ)
noncomputable def TSound (g:GG) (mg mb:Str→Option Value) (c:Ctx) (e:Expr) (me:MT):Prop :=
  ∀ (T:Tab) (n:Nat) (h₀:Heap) (A:Around) (env:Env) (X:Addr→Prop) (ρ:List Addr) (ve:List MV) (σ:List AV) (s:Shared),
    AOk n A→Base g mg mb h₀→TabOk g mg T n h₀→Stt g h₀ c env X ρ ve σ s.heap→TOK g A X ρ s (isTrue e env (eval e env)) (evT T me ve σ)
noncomputable def BSound (g:GG) (mg mb:Str→Option Value) (c:Ctx) (o:BoolOp) (es:List Expr) (me:MT):Prop :=
  ∀ (T:Tab) (n:Nat) (h₀:Heap) (A:Around) (env:Env) (X:Addr→Prop) (ρ:List Addr) (ve:List MV) (σ:List AV) (s:Shared),
    AOk n A→Base g mg mb h₀→TabOk g mg T n h₀→Stt g h₀ c env X ρ ve σ s.heap→TOK g A X ρ s (allTrue o es env) (evT T me ve σ)
section
variable {g:GG} {mg mb:Str→Option Value} {c:Ctx} {h₀:Heap} {A:Around} {env:Env} {X:Addr→Prop} {ρ:List Addr} {ve:List MV} {σ:List AV} {s:Shared}
theorem Stt.size (S:Stt g h₀ c env X ρ ve σ s.heap):h₀.objs.size≤s.heap.objs.size:=by
  obtain ⟨o,e⟩:=S.alive _ S.envOk.loc
  exact Nat.le_of_lt (Nat.lt_of_le_of_lt S.envOk.above (Heap.lt_size e))
theorem one_eval (S:Stt g h₀ c env X ρ ve σ s.heap) {t:Sem Value} {r:Res MV} {fr:Bool} (h1:EOK g A X ρ s t r fr) {α:Type} {f:AV→Option α} {y:α} {σ':List AV} (e:op1 f r=.ok y σ')
    {Q':Value→Shared→Prop} {E:Value→Shared→Prop} (hQ:∀ v x h' tk,Stt g h₀ c env X ρ ve σ' h'→Ext (·∈ρ) s.heap h'→RView g h' X x v→f x=some y→Q' v { s with heap:=h',toks:=tk }) :
    wpAny (model g.prog g.w) A t Q' E s:=by
  refine op1C e fun m x e1 e2 e3=>?_
  refine h1 m σ' e1 _ _ fun v h' tk k M R _=>?_
  exact hQ v x h' tk (S.move k M) k (R.view M e2) e3
theorem two_eval (S:Stt g h₀ c env X ρ ve σ s.heap) {t t':Sem Value} {r:Res MV} {r':List AV→Res MV} {fr fr':Bool} (h1:EOK g A X ρ s t r fr)
    (h2:∀ σ1 h' tk,Stt g h₀ c env X ρ ve σ1 h'→EOK g A X ρ { s with heap:=h',toks:=tk } t' (r' σ1) fr')
    {α:Type} {f:AV→AV→Option α} {y:α} {σ':List AV} (e:op2 f r r'=.ok y σ')
    {Q':Value→Value→Shared→Prop} {E:Value→Shared→Prop} (hQ:∀ v v' x x' h' tk,Stt g h₀ c env X ρ ve σ' h'→Ext (·∈ρ) s.heap h'→RView g h' X x v→RView g h' X x' v'→f x x'=some y→Q' v v' { s with heap:=h',toks:=tk }) :
    wpAny (model g.prog g.w) A t (fun a s₁=>wpAny (model g.prog g.w) A t' (fun b s₂=>Q' a b s₂) E s₁) E s:=by
  refine op2C e fun m σ1 m' x x' e1 e2 e3 e4 e5=>?_
  refine h1 m σ1 e1 _ _ fun v h' tk k M R _=>?_
  have S1:=S.move k M
  refine h2 σ1 h' tk S1 m' σ' e2 _ _ fun v' h'' tk' k' M' R' _=>?_
  exact hQ v v' x x' h'' tk' (S1.move k' M') (k.trans k') ((R.move (k'.move S1.muts.mem)).view M' e3) (R'.view M' e4) e5
theorem three_eval (S:Stt g h₀ c env X ρ ve σ s.heap) {t t' t'':Sem Value} {r:Res MV} {r' r'':List AV→Res MV} {fr fr' fr'':Bool} (h1:EOK g A X ρ s t r fr)
    (h2:∀ σ1 h' tk,Stt g h₀ c env X ρ ve σ1 h'→EOK g A X ρ { s with heap:=h',toks:=tk } t' (r' σ1) fr')
    (h3:∀ σ1 h' tk,Stt g h₀ c env X ρ ve σ1 h'→EOK g A X ρ { s with heap:=h',toks:=tk } t'' (r'' σ1) fr'')
    {α:Type} {f:AV→AV→AV→Option α} {y:α} {σ':List AV} (e:op3 f r r' r''=.ok y σ')
    {Q':Value→Value→Value→Shared→Prop} {E:Value→Shared→Prop}
    (hQ:∀ v v' v'' x x' x'' h' tk,Stt g h₀ c env X ρ ve σ' h'→Ext (·∈ρ) s.heap h'→RView g h' X x v→RView g h' X x' v'→RView g h' X x'' v''→f x x' x''=some y→Q' v v' v'' { s with heap:=h',toks:=tk }) :
    wpAny (model g.prog g.w) A t (fun a s₁=>wpAny (model g.prog g.w) A t' (fun b s₂=>wpAny (model g.prog g.w) A t'' (fun d s₃=>Q' a b d s₃) E s₂) E s₁) E s:=by
  refine op3C e fun m σ1 m' σ2 m'' x x' x'' e1 e2 e3 e4 e5 e6 e7=>?_
  refine h1 m σ1 e1 _ _ fun v h' tk k M R _=>?_
  have S1:=S.move k M
  refine h2 σ1 h' tk S1 m' σ2 e2 _ _ fun v' h'' tk' k' M' R' _=>?_
  have S2:=S1.move k' M'
  refine h3 σ2 h'' tk' S2 m'' σ' e3 _ _ fun v'' h3 tk3 k3 M3 R3 _=>?_
  exact hQ v v' v'' x x' x'' h3 tk3 (S2.move k3 M3) ((k.trans k').trans k3) (((R.move (k'.move S1.muts.mem)).move (k3.move S2.muts.mem)).view M3 e4) ((R'.move (k3.move S2.muts.mem)).view M3 e5) (R3.view M3 e6) e7
theorem old_none {h h':Heap} {σ':List AV} (S1:Stt g h₀ c env X ρ ve σ' h') (k:Ext (·∈ρ) h h') {a:Addr} (hn:h'.get? a=none):h.get? a=none:=by
  cases e:h.get? a with
  | none=>rfl
  | some o =>
    exfalso
    by_cases ha:a∈ρ
    · obtain ⟨i,hi⟩:=List.mem_iff_getElem?.mp ha
      have hl:i < σ'.length:=by rw [← S1.muts.len]; exact (List.getElem?_eq_some_iff.mp hi).1
      obtain ⟨o',ho'⟩:=RepC.alive (S1.muts.at_ i (σ'[i]) a (List.getElem?_eq_getElem hl) hi).1
      rw [hn] at ho'; cases ho'
    · have:=k a o ha e
      rw [hn] at this; cases this
theorem prim_end {h':Heap} {tk:Nat} {σ':List AV} (S1:Stt g h₀ c env X ρ ve σ' h') (k:Ext (·∈ρ) s.heap h') {t:Sem Value} {z:AV} (P:Prim g A X { s with heap:=h',toks:=tk } t z)
    {fr:Bool} (hf:fr=false) {Q:Value→Shared→Prop} {E:Value→Shared→Prop}
    (hQ:∀ v h' tk,Ext (·∈ρ) s.heap h'→Muts g h' X ρ σ'→RepM g h' X ρ (.val z) v→(fr=true→FreshV g X ρ σ' s.heap h' (.val z) v)→Q v { s with heap:=h',toks:=tk }) :
    wpAny (model g.prog g.w) A t Q E { s with heap:=h',toks:=tk } :=
  P Q E fun v h'' tk' k' r=>hQ v h'' tk' (k.trans k'.ext) (S1.muts.grow k') r fun e=>by rw [hf] at e; cases e
theorem prim_toM {h':Heap} {tk:Nat} {σ':List AV} {m:MV} {o:Option AV} (ez:toM o=some m) (S1:Stt g h₀ c env X ρ ve σ' h') (k:Ext (·∈ρ) s.heap h') {t:Sem Value} (P:∀ z,o=some z→Prim g A X { s with heap:=h',toks:=tk } t z)
    {fr:Bool} (hf:fr=false) {Q:Value→Shared→Prop} {E:Value→Shared→Prop}
    (hQ:∀ v h' tk,Ext (·∈ρ) s.heap h'→Muts g h' X ρ σ'→RepM g h' X ρ m v→(fr=true→FreshV g X ρ σ' s.heap h' m v)→Q v { s with heap:=h',toks:=tk }) :
    wpAny (model g.prog g.w) A t Q E { s with heap:=h',toks:=tk }:=by
  obtain ⟨z,h1,rfl⟩:=om_inv ez
  exact prim_end S1 k (P z h1) hf hQ
theorem primF_end {h':Heap} {tk:Nat} {σ':List AV} (S1:Stt g h₀ c env X ρ ve σ' h') (k:Ext (·∈ρ) s.heap h') (M:Muts g s.heap X ρ σ) {t:Sem Value} {z:AV} (P:PrimF g A X { s with heap:=h',toks:=tk } t z)
    {fr:Bool} {Q:Value→Shared→Prop} {E:Value→Shared→Prop}
    (hQ:∀ v h' tk,Ext (·∈ρ) s.heap h'→Muts g h' X ρ σ'→RepM g h' X ρ (.val z) v→(fr=true→FreshV g X ρ σ' s.heap h' (.val z) v)→Q v { s with heap:=h',toks:=tk }) :
    wpAny (model g.prog g.w) A t Q E { s with heap:=h',toks:=tk } :=
  P Q E fun a h'' tk' hn k' r=>hQ _ h'' tk' (k.trans k'.ext) (S1.muts.grow k') (.inr ⟨a,rfl,S1.alive.fresh hn,RepC.move (fun b o n e=>⟨e,fun q=>n (.inl q)⟩) r fun o e=>e⟩) fun _=>⟨a,z,rfl,rfl,old_none S1 k hn,S1.muts.over k' hn,r⟩
theorem es_bin {l r:Expr} {o:Operator} {pos:Pos} {b:BOp} {ml mr:ME} (ob:bopOf o=some b) (hl:ESound g mg mb c l ml) (hr:ESound g mg mb c r mr):ESound g mg mb c (.BinOp l o r pos) (.bin b ml mr):=by
  intro T n h₀ A env X ρ ve σ s a B TT S m σ' e Q E hQ
  refine wpAny_BinOp (two_eval S (hl T n h₀ A env X ρ ve σ s a B TT S) (fun σ1 h' tk S1=>hr T n h₀ A env X ρ ve σ1 _ a B TT S1) e fun v v' x x' h' tk S1 k R R' ez=>prim_toM ez S1 k (fun z ez2=>binP ob ez2 R R' S1.alive) rfl hQ)
theorem es_neg {x:Expr} {pos:Pos} {mx:ME} (hx:ESound g mg mb c x mx):ESound g mg mb c (.UnaryOp .USub x pos) (.neg mx):=by
  intro T n h₀ A env X ρ ve σ s a B TT S m σ' e Q E hQ
  refine wpAny_UnaryOp (one_eval S (hx T n h₀ A env X ρ ve σ s a B TT S) e fun v x h' tk S1 k R ez=>prim_toM ez S1 k (fun z ez2=>negP ez2 R) rfl hQ)
theorem es_cmp {l r:Expr} {o:CmpOp} {pos:Pos} {b:COp} {ml mr:ME} (ob:copOf o=some b) (hb:behindInMarks o r=false) (hl:ESound g mg mb c l ml) (hr:ESound g mg mb c r mr):ESound g mg mb c (.Compare l [o] [r] pos) (.cmp b ml mr):=by
  intro T n h₀ A env X ρ ve σ s a B TT S m σ' e Q E hQ
  refine wpAny_Compare1 (two_eval S (hl T n h₀ A env X ρ ve σ s a B TT S) (fun σ1 h' tk S1=>hr T n h₀ A env X ρ ve σ1 _ a B TT S1) e fun v v' x x' h' tk S1 k R R' ez=>omC ez fun z hz q=>cmpP ob hz R R' a.line _ _ fun tk'=>hQ _ h' tk' k S1.muts (q ▸ rp_bool) fun e=>nomatch e) hb
theorem ts_cmp {l r:Expr} {o:CmpOp} {pos:Pos} {b:COp} {ml mr:ME} (ob:copOf o=some b) (hb:behindInMarks o r=false) (hl:ESound g mg mb c l ml) (hr:ESound g mg mb c r mr):TSound g mg mb c (.Compare l [o] [r] pos) (.cmp b ml mr):=by
  intro T n h₀ A env X ρ ve σ s a B TT S m σ' e Q E hQ
  refine wpAny_isTrue_Compare1 (two_eval S (hl T n h₀ A env X ρ ve σ s a B TT S) (fun σ1 h' tk S1=>hr T n h₀ A env X ρ ve σ1 _ a B TT S1) e fun v v' x x' h' tk S1 k R R' ez=>?_) hb
  exact cmpP ob ez R R' a.line _ _ fun tk'=>wpAny_truthy_bool (hQ h' tk' k S1.muts)
theorem es_ite {t x y:Expr} {pos:Pos} {mt:MT} {mx my:ME} (ht:TSound g mg mb c t mt) (hx:ESound g mg mb c x mx) (hy:ESound g mg mb c y my):ESound g mg mb c (.IfExp t x y pos) (.ite mt mx my):=by
  intro T n h₀ A env X ρ ve σ s a B TT S m σ' e Q E hQ
  refine Res.bindC e fun b σ1 h1 e=>wpAny_IfExp (ht T n h₀ A env X ρ ve σ s a B TT S b σ1 h1 _ _ fun h' tk k M=>?_)
  · have S1:=S.move k M
    cases b with
    | true=>exact hx T n h₀ A env X ρ ve σ1 _ a B TT S1 m σ' e _ _ fun v h'' tk' k' M' R _=>hQ v h'' tk' (k.trans k') M' R fun e=>nomatch e
    | false=>exact hy T n h₀ A env X ρ ve σ1 _ a B TT S1 m σ' e _ _ fun v h'' tk' k' M' R _=>hQ v h'' tk' (k.trans k') M' R fun e=>nomatch e
theorem ls_nil:LSound g mg mb c [] .nil:=by
  intro T n h₀ A env X ρ ve σ s pos a B TT S xs σ' e Q E hQ
  obtain ⟨rfl,rfl⟩:=Res.ok_inv e
  exact args_nil (hQ [] s.heap s.toks (Ext.refl _) S.muts rfl)
theorem starEach_plain {e:Expr} (h:isStar e=false) (rest:List Expr) (env:Env):starEach (e::rest) env=(false,eval e env)::starEach rest env:=by
  cases e <;> first | rfl | exact nomatch h
theorem ls_cons {e:Expr} {es:List Expr} {me:ME} {mes:MEs} (hs:isStar e=false) (he:ESound g mg mb c e me) (hes:LSound g mg mb c es mes):LSound g mg mb c (e::es) (.cons me mes):=by
  intro T n h₀ A env X ρ ve σ s pos a B TT S xs σ' ee Q E hQ
  refine Res.bvalC ee fun x σ1 h1 e1=>Res.bindC e1 fun vs σ2 h2 e2=>?_
  obtain ⟨rfl,rfl⟩:=Res.ok_inv e2
  refine args_cons (he T n h₀ A env X ρ ve σ s a B TT S _ σ1 h1 _ _ fun v h' tk k M R _=>?_) (starEach_plain hs _ _)
  have S1:=S.move k M
  exact hes T n h₀ A env X ρ ve σ1 _ pos a B TT S1 vs _ h2 _ _ fun ws h'' tk' k' M' R'=>hQ _ h'' tk' (k.trans k') M' ⟨_,_,rfl,RepV.move (k'.move S1.muts.mem) R,R'⟩
end
section
variable {g:GG} {mg mb:Str→Option Value} {c:Ctx} {h₀:Heap} {A:Around} {env:Env} {X:Addr→Prop} {ρ:List Addr} {ve:List MV} {σ:List AV} {s:Shared}
theorem es_const {k:Const} {v:AV} {n:Nat} {pos:Pos} (e:cstOf k=some v):ESound g mg mb c (.Constant k n pos) (.cst v):=by
  intro T N h₀ A env X ρ ve σ s a B TT S m σ' ee Q E hQ
  obtain ⟨rfl,rfl⟩:=Res.ok_inv ee
  have hq:∀ {w:Value} {tk:Nat},RepV g s.heap X v w→Q w { s with toks:=tk }:=fun r=>hQ _ s.heap _ (Ext.refl _) S.muts r fun e=>nomatch e
  clear ee hQ
  cases k <;> first | exact nn e | (cases Option.some.inj e)
  · exact wpAny_Constant_bool (hq (tk:=s.toks) rp_bool)
  · exact wpAny_Constant_int (hq rp_int)
  · exact AutoFloatOps.wpAny_Constant_float (hq rp_flt)
  · exact wpAny_Constant_str (hq rp_str)
theorem kind_inv {o:Option NameKind} (h:isVarKind o=true):o=some .local∨o=some .cell∨o=some .free:=by
  cases o with
  | none=>exact nomatch h
  | some k=>cases k <;> first | exact .inl rfl | exact .inr (.inl rfl) | exact .inr (.inr rfl) | exact nomatch h
theorem ok_inv {x:Str} (h:okName x=true):(x == ("__debug__":Str))=false∧(x == ("__classdict__":Str))=false:=⟨(Bool.not_eq_true' _).mp (and_of h).1,(Bool.not_eq_true' _).mp (and_of h).2⟩
theorem varOf_inv {x:Str} {i:Nat} (e:varOf c x=some i):(c.names.lookup x=some .local∨c.names.lookup x=some .cell∨c.names.lookup x=some .free)∧(x == ("__debug__":Str))=false∧(x == ("__classdict__":Str))=false∧c.slots.lookup x=some i :=
  iteC e fun h e=>⟨kind_inv (and_of h).1,(ok_inv (and_of h).2).1,(ok_inv (and_of h).2).2,e⟩
theorem load_var {x:Str} {i:Nat} {mv:MV} (S:Stt g h₀ c env X ρ ve σ s.heap) (e:varOf c x=some i) (hv:ve[i]?=some mv) (hu:mv≠.unset) {Q:Value→Shared→Prop} {E:Value→Shared→Prop}
    (hQ:∀ v,RepM g s.heap X ρ mv v→Q v s):wpAny (model g.prog g.w) A (loadName env x) Q E s:=by
  obtain ⟨k,_,k2,sl⟩:=varOf_inv e
  have O:=S.envOk
  have V:=S.vars
  rcases k with k | k | k
  · obtain ⟨m,hn,hm⟩:=V.ns
    obtain ⟨v,hv',r⟩:=hm x i mv sl hv hu k
    exact wpAny_loadName_local O.kind (O.kl x k) hn hv' (hQ v r)
  · obtain ⟨a,vo,e1,hc,hm⟩:=V.cell x i sl (.inl k)
    obtain ⟨v,rfl,r⟩:=hm mv hv hu
    exact wpAny_loadName_cell O.kind (O.kc x k) e1 hc (hQ v r)
  · obtain ⟨a,vo,e1,hc,hm⟩:=V.cell x i sl (.inr k)
    obtain ⟨v,rfl,r⟩:=hm mv hv hu
    rcases O.kf x k with k' | k'
    · exact wpAny_loadName_cell O.kind k' e1 hc (hQ v r)
    · exact wpAny_loadName_free O.kind k' e1 hc (hQ v r) k2
theorem varV_inv {m m':MV}:varV m=some m'→m=m'∧m'≠.unset:=by
  cases m with
  | val v=>exact fun e=>Option.some.inj e ▸ ⟨rfl,nofun⟩
  | mu j=>exact fun e=>Option.some.inj e ▸ ⟨rfl,nofun⟩
  | unset=>exact nn
theorem es_var {x:Str} {pos:Pos} {i:Nat} (e:varOf c x=some i):ESound g mg mb c (.Name x pos) (.var i):=by
  intro T N h₀ A env X ρ ve σ s a B TT S m σ' ee Q E hQ
  refine Res.onC ee fun m0 h0 e1=>obC h0 fun m1 h1 h2=>?_
  obtain ⟨rfl,hu⟩:=varV_inv h2
  obtain ⟨rfl,rfl⟩:=Res.ok_inv e1
  exact wpAny_Name (load_var S e h1 hu fun w r=>hQ w s.heap s.toks (Ext.refl _) S.muts r fun e=>nomatch e) (varOf_inv e).2.1
theorem glob_inv {x:Str} (e:isGlob c x=true):c.names.lookup x=some .globalImplicit∧(x == ("__debug__":Str))=false:=by
  exact ⟨beq_iff_eq.mp (and_of e).1,(ok_inv (and_of e).2).1⟩
theorem Base.nsgs (B:Base g mg mb h₀) {h:Heap} (k:Grow h₀ h):h.Ns mainGlobals mg:=B.nsg.keeps k
theorem name_blt {x:Str} {pos:Pos} {v:Value} (S:Stt g h₀ c env X ρ ve σ s.heap) (B:Base g mg mb h₀) (e:isGlob c x=true) (h1:mg x=none) (h2:mb x=some v) {Q:Value→Shared→Prop} {E:Value→Shared→Prop} (hQ:Q v s) :
    wpAny (model g.prog g.w) A (eval (.Name x pos) env) Q E s:=by
  obtain ⟨k,k1⟩:=glob_inv e
  have O:=S.envOk
  exact Name_function_global O.kind (O.kg x k) (loadGlobal_builtin (by rw [O.glob]; exact B.nsg.keeps S.keep) h1 (by rw [O.blt]; exact B.nsb.keeps S.keep) h2 hQ) k1
theorem name_glob {x:Str} {pos:Pos} {v:Value} (S:Stt g h₀ c env X ρ ve σ s.heap) (B:Base g mg mb h₀) (e:isGlob c x=true) (h1:mg x=some v) {Q:Value→Shared→Prop} {E:Value→Shared→Prop} (hQ:Q v s) :
    wpAny (model g.prog g.w) A (eval (.Name x pos) env) Q E s:=by
  obtain ⟨k,k1⟩:=glob_inv e
  have O:=S.envOk
  exact Name_function_global O.kind (O.kg x k) (loadGlobal_global (by rw [O.glob]; exact B.nsg.keeps S.keep) h1 hQ) k1
theorem Base.builtin (B:Base g mg mb h₀) {nm:String} {v:Value} (h:(nm,v)∈bltTab):mg (Str.ofString nm)=none∧mb (Str.ofString nm)=some v:=B.blt _ h
theorem es_glob {x:Str} {pos:Pos} {v:AV} (hx:isGlob c x=true) (e:globConst x=some v):ESound g mg mb c (.Name x pos) (.cst v):=by
  intro T N h₀ A env X ρ ve σ s a B TT S m σ' ee Q E hQ
  obtain ⟨rfl,rfl⟩:=Res.ok_inv ee
  refine omC e fun p hf e=>?_
  · subst e
    have h1:=List.mem_of_find?_eq_some hf
    have h2:=List.find?_some hf
    simp only [beq_iff_eq] at h2
    obtain ⟨t,ht⟩:=B.cst p h1
    rw [h2] at ht
    exact name_glob S B hx ht (hQ _ s.heap s.toks (Ext.refl _) S.muts rp_flt fun e=>nomatch e)
theorem es_list {es:List Expr} {mes:MEs} {pos:Pos} (h:LSound g mg mb c es mes):ESound g mg mb c (.List es pos) (.list mes):=by
  intro T N h₀ A env X ρ ve σ s a B TT S m σ' e Q E hQ
  refine Res.bindC e fun xs σ1 h1 e1=>Res.iteC e1 fun f e2=>?_
  · obtain ⟨rfl,rfl⟩:=Res.ok_inv e2
    · refine List_ (h T N h₀ A env X ρ ve σ s _ a B TT S xs _ h1 _ _ fun vs h' tk k M R=>?_)
      have S1:=S.move k M
      exact wpAny_newObj_type (hQ _ _ _ (k.trans (Grow.push _ _).ext) (M.grow (Grow.push _ _)) (newList_rep S1.alive R) fun _=>⟨_,_,rfl,rfl,old_none S1 k (get?_size h'),M.over (Grow.push _ _) (get?_size h'),⟨vs,⟨0,Heap.get?_push_size _ rfl⟩,R.move ((Grow.push _ _).plus (get?_size h'))⟩⟩)
        (by show vs.toArray.size≤sizeLine; rw [List.size_toArray,R.length]; exact fits_line f)
theorem es_tup {es:List Expr} {mes:MEs} {k:Nat} {pos:Pos} (h:LSound g mg mb c es mes):ESound g mg mb c (.Tuple es k pos) (.tup mes):=by
  intro T N h₀ A env X ρ ve σ s a B TT S m σ' e Q E hQ
  refine Res.bindC e fun xs σ1 h1 e1=>Res.iteC e1 fun f e2=>?_
  · obtain ⟨rfl,rfl⟩:=Res.ok_inv e2
    · refine Tuple_ (h T N h₀ A env X ρ ve σ s _ a B TT S xs _ h1 _ _ fun vs h' tk k M R=>?_)
      have S1:=S.move k M
      exact wpAny_newObj_type (hQ _ _ _ (k.trans (Grow.push _ _).ext) (M.grow (Grow.push _ _)) (newTuple_rep S1.alive R) fun e=>nomatch e)
        (by show vs.toArray.size≤sizeLine; rw [List.size_toArray,R.length]; exact fits_line f)
theorem big_of (B:Base g mg mb h₀) {h:Heap} (k:Grow h₀ h) (L:Addr) (al:h₀.objs.size≤L) {o:Obj} (ho:h.get? L=some o):sysModules < h.objs.size :=
  Nat.lt_trans (Nat.lt_of_lt_of_le B.big al) (Heap.lt_size ho)
theorem Stt.bigS (S:Stt g h₀ c env X ρ ve σ s.heap) (B:Base g mg mb h₀):sysModules < s.heap.objs.size:=by
  obtain ⟨o,ho⟩:=S.alive _ S.envOk.loc
  exact big_of B S.keep _ S.envOk.above ho
theorem newDict_repC {h:Heap} {Y:Addr→Prop} (big:sysModules < h.objs.size) (sd:Bool):RepC g (h.push { cls:=.type "dict",data:=.dict #[] }) Y (if sd then .dictS [] [] else .dictI [] []) h.objs.size:=by
  cases sd with
  | true =>
    obtain ⟨ep,hd⟩:=(Heap.DictOf.new (knd:=PySem.strKind g.prog g.w) h).dictAt
    exact ⟨[],ep,by simpa using Nat.ne_of_gt big,hd,rfl,RepVs_nil.mpr rfl⟩
  | false =>
    obtain ⟨ep,hd⟩:=(Heap.DictOf.new (knd:=intKind g.prog g.w) h).dictAt
    exact ⟨[],ep,by simpa using Nat.ne_of_gt big,hd,rfl,RepVs_nil.mpr rfl⟩
theorem newDict_rep {h:Heap} (al:Alive X h) (big:sysModules < h.objs.size) (sd:Bool):RepV g (h.push { cls:=.type "dict",data:=.dict #[] }) X (if sd then .dictS [] [] else .dictI [] []) (.ref h.objs.size) :=
  .inr ⟨_,rfl,al.fresh (get?_size h),newDict_repC big sd⟩
theorem es_dict0 {pos:Pos}:ESound g mg mb c (.Dict [] [] pos) (.dict0 c.sd):=by
  intro T N h₀ A env X ρ ve σ s a B TT S m σ' e Q E hQ
  obtain ⟨rfl,rfl⟩:=Res.ok_inv e
  exact wpAny_Dict_empty (hQ _ _ s.toks (Grow.push _ _).ext (S.muts.grow (Grow.push _ _)) (newDict_rep S.alive (S.bigS B) c.sd) fun _=>⟨_,_,rfl,rfl,get?_size _,S.muts.over (Grow.push _ _) (get?_size _),newDict_repC (S.bigS B) c.sd⟩)
theorem Stt.protect {h h':Heap} {X':Addr→Prop} (S:Stt g h₀ c env X ρ ve σ h) (k:Grow h h') (sub:∀ b,X b→X' b) (new:∀ b,X' b→X b∨h.get? b=none) (al:Alive X' h'):Stt g h₀ c env X' ρ ve σ h':=by
  have mv:Move h h' X X':=fun b o x e=>⟨k b o e,fun x'=>(new b x').elim x fun e'=>by rw [e] at e'; cases e'⟩
  have O:=S.envOk
  refine ⟨S.keep.trans k,fun b x=>?_,al,?_,?_,?_⟩
  · rcases new b x with x | e
    · exact S.xnew b x
    · cases q:h₀.get? b with
      | none=>rfl
      | some o=>rw [S.keep b o q] at e; cases e
  · exact ⟨O.kind,O.glob,O.blt,sub _ O.loc,O.locρ,O.above,fun n a e=>⟨sub _ (O.cells n a e).1,(O.cells n a e).2⟩,O.apart,O.kl,O.kc,O.kf,O.kg,O.slot,O.inj⟩
  · have V:=S.vars
    have rm:∀ {mv':MV} {v:Value},RepM g h X ρ mv' v→RepM g h' X' ρ mv' v:=fun {mv'} {v} r=>by
      cases mv' with
      | val x=>exact RepV.move mv r
      | mu i=>exact r
      | unset=>exact r
    refine ⟨?_,fun n i h1 h2=>?_,V.len⟩
    · obtain ⟨m,hn,hm⟩:=V.ns
      refine ⟨m,hn.keeps k,fun n i mv' h1 h2 h3 h4=>?_⟩
      obtain ⟨v,hv,r⟩:=hm n i mv' h1 h2 h3 h4
      exact ⟨v,hv,rm r⟩
    · obtain ⟨a,vo,e1,hc,e3⟩:=V.cell n i h1 h2
      refine ⟨a,vo,e1,hc.keeps k,fun mv' q1 q2=>?_⟩
      obtain ⟨v,hv,r⟩:=e3 mv' q1 q2
      exact ⟨v,hv,rm r⟩
  · have M:=S.muts
    exact ⟨M.len,fun i c a e1 e2=>⟨RepC.move mv (M.at_ i c a e1 e2).1 fun o e=>k _ _ e,(M.at_ i c a e1 e2).2⟩,fun a ha=>sub a (M.mem a ha),M.nodup⟩
theorem RepV.weaken {h:Heap} {X X':Addr→Prop} (sub:∀ b,X b→X' b) {x:AV} {v:Value} (r:RepV g h X' x v):RepV g h X x v:=RepV.move (fun b o n e=>⟨e,fun x=>n (sub b x)⟩) r
theorem RepVs.weaken {h:Heap} {X X':Addr→Prop} (sub:∀ b,X b→X' b) {x:List AV} {v:List Value} (r:RepVs g h X' x v):RepVs g h X x v:=RepVs.move (fun b o n e=>⟨e,fun x=>n (sub b x)⟩) r
theorem Muts.weaken {h:Heap} {X X':Addr→Prop} (M:Muts g h X' ρ σ) (sub:∀ b,X b→X' b) (mem:∀ a∈ρ,X a):Muts g h X ρ σ :=
  ⟨M.len,fun i c a e1 e2=>⟨RepC.move (fun b o n e=>⟨e,fun x=>n (sub b x)⟩) (M.at_ i c a e1 e2).1 fun o e=>e,(M.at_ i c a e1 e2).2⟩,mem,M.nodup⟩
theorem es_dict1 {k v:Expr} {mk mv:ME} {pos:Pos} (hk:ESound g mg mb c k mk) (hv:ESound g mg mb c v mv):ESound g mg mb c (.Dict [some k] [v] pos) (.dict1 mk mv):=by
  intro T N h₀ A env X ρ ve σ s a B TT S m σ' e Q E hQ
  have hd0:(s.heap.push { cls:=.type "dict",data:=.dict #[] }).get? s.heap.objs.size=some { cls:=.type "dict",data:=.dict #[] }:=Heap.get?_push_size _ rfl
  have S0:Stt g h₀ c env (fun b=>X b∨b=s.heap.objs.size) ρ ve σ (s.heap.push { cls:=.type "dict",data:=.dict #[] }) :=
    S.protect (Grow.push _ _) (fun b x=>.inl x) (fun b x=>x.elim .inl fun e=>.inr (by rw [e]; exact get?_size _)) (fun b x=>x.elim (fun x=>let ⟨o,e⟩:=S.alive b x; ⟨o,Heap.get?_push_of_some _ e⟩) fun e=>by subst e; exact ⟨_,hd0⟩)
  have nρ:s.heap.objs.size ∉ ρ:=fun hm=>(S.alive.fresh (get?_size _)) (S.muts.mem _ hm)
  refine wpAny_Dict_pairs (knd:=PySem.strKind g.prog g.w) (pairs:=[(eval k env,do let x ← eval v env; standAt pos; pure x)]) rfl (by simp) (by simp) ?_
  show wpAny _ _ (eval k env >>= fun kv=>holding [kv] (do let x ← eval v env; standAt pos; pure x) >>= fun vv=>holding [kv,vv] (evalPairs []) >>= fun r=>pure ((kv,vv)::r)) _ _ _
  have key:=two_eval (s:={ s with heap:=s.heap.push { cls:=.type "dict",data:=.dict #[] } }) S0 (hk T N h₀ A env _ ρ ve σ { s with heap:=s.heap.push { cls:=.type "dict",data:=.dict #[] } } a B TT S0)
    (fun σ1 h' tk S1=>hv T N h₀ A env _ ρ ve σ1 _ a B TT S1) e (E:=E)
    (Q':=fun kv vv s₁=>∃ kvs,Carries (PySem.strKind g.prog g.w) [(kv,vv)] kvs∧s₁.heap.DictOf (PySem.strKind g.prog g.w) s.heap.objs.size [] ∧
      ∀ h',h'.DictOf (PySem.strKind g.prog g.w) s.heap.objs.size (merged [] kvs)→Heap.SameBut s.heap.objs.size s₁.heap h'→Q (.ref s.heap.objs.size) { s₁ with heap:=h',toks:=s₁.toks+[(kv,vv)].length })
    fun w w' x x' h' tk S1 kx R R' ez=>?_
  · refine wpAny_bind (wpAny_mono key (fun kv s2 h2=>wpAny_bind (wpAny_holding (wpAny_bind (wpAny_mono h2 (fun vv s3 h3=>wpAny_bind (wpAny_standAt (wpAny_pure ?_))) fun _ _ e=>e)))) fun _ _ e=>e)
    exact wpAny_bind (wpAny_holding (wpAny_pure (wpAny_pure h3)))
  · refine omC ez fun z ez2 ez=>?_
    clear e
    subst ez
    refine obC ez2 fun key hx ez2=>obC ez2 fun y hy ez2=>?_
    · cases Option.some.inj ez2
      obtain ⟨t,rfl⟩:=rv_str (AV.str?_inv hx ▸ R)
      obtain ⟨u,rfl⟩:=rv_int (AV.int?_inv hy ▸ R')
      refine ⟨[(key,.int y u)],⟨by simp [PySem.strKind,Value.isStrOf],rfl,trivial⟩,?_,fun h'' hd hs=>?_⟩
      · have:=Heap.DictOf.new (knd:=PySem.strKind g.prog g.w) s.heap
        obtain ⟨o,es,ep,ho,r⟩:=this
        exact ⟨o,es,ep,kx _ _ nρ ho,r⟩
      · have hd':h'.get? s.heap.objs.size=some { cls:=.type "dict",data:=.dict #[] }:=kx _ _ nρ hd0
        have ex:∀ b o,b≠s.heap.objs.size→h'.get? b=some o→h''.get? b=some o:=fun b o n e=>hs.extBut b o n e
        refine hQ _ h'' _ (fun b o n e=>ex b o (fun q=>by subst q; rw [get?_size] at e; cases e) (kx b o n (Heap.get?_push_of_some _ e))) ?_ ?_ fun e=>nomatch e
        · have M1:=S1.muts
          refine ⟨M1.len,fun i c a e1 e2=>⟨RepC.move (X:=fun b=>X b∨b=s.heap.objs.size) (fun b o n e=>⟨ex b o (fun q=>n (.inr q)) e,fun x=>n (.inl x)⟩) (M1.at_ i c a e1 e2).1 fun o e=>ex a o (fun q=>?_) e,(M1.at_ i c a e1 e2).2⟩,S.muts.mem,M1.nodup⟩
          exact nρ (q ▸ List.mem_of_getElem? e2)
        · refine .inr ⟨_,rfl,S.alive.fresh (get?_size _),?_⟩
          obtain ⟨ep,hd⟩:=hd.dictAt
          exact ⟨_,ep,by simpa using Nat.ne_of_gt (S.bigS B),hd,rfl,RepVs_cons.mpr ⟨_,_,rfl,rp_int,RepVs_nil.mpr rfl⟩⟩
end
section
variable {g:GG} {mg mb:Str→Option Value} {c:Ctx} {h₀:Heap} {A:Around} {env:Env} {X:Addr→Prop} {ρ:List Addr} {ve:List MV} {σ:List AV} {s:Shared}
theorem es_idx {v i:Expr} {mv mi:ME} {pos:Pos} (hs:isSlice i=false) (hv:ESound g mg mb c v mv) (hi:ESound g mg mb c i mi):ESound g mg mb c (.Subscript v i pos) (.idx mv mi):=by
  intro T n h₀ A env X ρ ve σ s a B TT S m σ' e Q E hQ
  exact Subscript_ (two_eval S (hv T n h₀ A env X ρ ve σ s a B TT S) (fun σ1 h' tk S1=>hi T n h₀ A env X ρ ve σ1 _ a B TT S1) e fun v v' x x' h' tk S1 k R R' ez=>prim_toM ez S1 k (fun z ez2=>idxP hs ez2 R R') rfl hQ)
theorem seq_inv {x:AV} {v:Value} {h:Heap} {β:Type} {f:List AV→Option β} {z:β} (r:RView g h X x v) (e:(x.list?.or x.arg?).bind f=some z):∃ xs l vs,v=.ref l∧h.IsList l vs.toArray∧RepVs g h X xs vs∧f xs=some z :=
  obC e fun xs hx e=>orC hx (fun hx=>(rv_list (AV.list?_inv hx ▸ r)).elim fun l q=>q.elim fun vs q=>⟨xs,l,vs,q.1,plain_isList q.2.1,q.2.2,e⟩)
    fun hx=>(AV.arg?_inv hx ▸ r:RView g h X (.arg xs) v).elim (fun q=>False.elim q) fun q=>q.elim fun l q=>q.2.elim fun vs r=>⟨xs,l,vs,q.1,r.1,r.2,e⟩
theorem es_cut {v:Expr} {mv:ME} {m:Int} {kc:Nat} {p1 p2 pos:Pos} (hm:0≤m) (hn:isName v=true) (hv:ESound g mg mb c v mv) :
    ESound g mg mb c (.Subscript v (.Slice none (some (.Constant (.int m) kc p1)) none p2) pos) (.cut mv m.toNat):=by
  intro T n h₀ A env X ρ ve σ s a B TT S mm σ' e Q E hQ
  refine wpAny_Subscript_list_slice (one_eval S (hv T n h₀ A env X ρ ve σ s a B TT S) e fun v x h' tk S1 k R ez=>?_) ?_
  · refine omC ez fun z ez2 ez=>?_
    clear e
    subst ez
    obtain ⟨xs,l,vs,rfl,hl,r,ez3⟩:=seq_inv R ez2
    obtain ⟨f,rfl⟩:=grd_inv ez3
    refine wpAny_pure (wpAny_Constant_int (k:=kc) (pos:=p1) ⟨l,vs.toArray,none,some m,rfl,hl,by rw [List.size_toArray,r.length]; exact fits_line (and_of f).1,.none,.int _ _,?_⟩)
    obtain ⟨j,rfl⟩:=Int.eq_ofNat_of_zero_le hm
    rw [slicePick_upto']
    have gr:Grow h' (h'.push { cls:=.type "slice",data:=.fields #[.none,.int (j:Int) tk,.none] }):=Grow.push _ _
    have S2:=S1.grow gr
    have:=newList_rep (g:=g) S2.alive (r.take j |>.move gr.move)
    rw [Heap.size_push] at this
    exact hQ _ _ _ (k.trans (gr.trans (Grow.push _ _)).ext) (S1.muts.grow (gr.trans (Grow.push _ _))) this fun e=>nomatch e
  · intro o r
    cases v <;> first | rfl | exact nomatch hn
theorem inst_at {h:Heap} {xs:List AV} {v:Value} (R:RView g h X (.inst xs) v):∃ x dx es n l,v=.ref x∧InstAt h x (instObj g.C dx) g.C (some (dictOf es n))∧getL "comp_select_list" es=some (some (.ref l))∧getL "compare" es=some none∧¬ X l ∧
    ∃ vs:List Value,h.PlainList l vs.toArray∧RepVs g h X xs vs:=by
  rcases R with R | ⟨x,rfl,R⟩
  · exact R.elim
  obtain ⟨dx,es,n,l,e1,e2,e3,e4,x1,x2,r⟩:=R
  exact ⟨x,dx,es,n,l,rfl,⟨e1,rfl,rfl,e2⟩,e3,e4,x2,r⟩
theorem es_attr {x:Str} {p pos:Pos} {me:ME} (hv:ESound g mg mb c (.Name x p) me):ESound g mg mb c (.Attribute (.Name x p) "comp_select_list" pos) (.p1 .attr me):=by
  intro T n h₀ A env X ρ ve σ s a B TT S m σ' e Q E hQ
  refine Attribute_name (one_eval S (hv T n h₀ A env X ρ ve σ s a B TT S) e fun v x h' tk S1 k R ez=>?_)
  refine omC ez fun z ez2 ez=>obC ez2 fun xs hx ez3=>?_
  obtain ⟨x,dx,es,n,l,rfl,I,g1,g2,xl,vs,pl,r⟩:=inst_at (AV.inst?_inv hx ▸ R)
  have KX:g.K.In h':=fun b o e=>S1.keep b o (B.kin b o e)
  refine get_value KX I (plainGet_of B.clsK.pg).1 (findObj_own B.clsK.hd B.clsK.sel rfl g1) rfl ?_
  exact hQ _ h' _ k S1.muts (ez ▸ Option.some.inj ez3 ▸ .inr ⟨l,rfl,xl,vs,pl,r⟩) fun e=>nomatch e
end
section
variable {g:GG} {mg mb:Str→Option Value} {c:Ctx} {h₀:Heap} {A:Around} {env:Env} {X:Addr→Prop} {ρ:List Addr} {ve:List MV} {σ:List AV} {s:Shared}
theorem base_plain {o:Expr} (h:plainBase o=true) (name:Str) (env:Env) (t:Sem Value):attributeBase o name env t=t:=by
  cases o with
  | Call f a k p =>
    cases f with
    | Name x q =>
      cases a with
      | nil =>
        cases k with
        | nil=>exact nomatch h
        | cons _ _=>rfl
      | cons _ _=>rfl
    | _=>rfl
  | _=>rfl
theorem MCall {M:Model} {E:Value→Shared→Prop} {o:Expr} {name:Str} {apos pos:Pos} {args:List Expr} {Q:Value→Shared→Prop} (hb:plainBase o=true) (hl:(apos.endLine == pos.line)=true)
    (hf:methodCallForm (args.length+0) (backTo pos (starEach args env)) []=true)
    (h:wpAny M A (eval o env) (fun ov s₁=>∀ pl,wpAny M A (getMethod ov name pl) (fun fx s₂=>wpAny M A (callWith pos fx.1 fx.2 (backTo pos (starEach args env)) []) Q E s₂) E s₁) E s) :
    wpAny M A (eval (.Call (.Attribute o name apos) args [] pos) env) Q E s:=by
  rw [arm_eval_Call,base_plain hb]
  refine wpAny_bind (wpAny_mono h (fun ov s₁ h₁=>wpAny_bind (wpAny_standAt ?_)) fun _ _ x=>x)
  have e:backToKw pos (keywordEach [] env)=[]:=rfl
  unfold methodCall
  rw [e]
  have hf':methodCallForm (args.length+([]:List Keyword).length) (backTo pos (starEach args env)) []=true:=hf
  rw [hf']
  have ep:methodCallPos true o env apos pos=pure pos:=by
    unfold methodCallPos
    rw [hl]; rfl
  rw [ep]
  refine wpAny_bind (wpAny_holding ?_)
  unfold calleeOf
  rw [if_pos rfl]
  exact wpAny_mono (h₁ _) (fun fx s₂ h₂=>wpAny_bind (wpAny_pure h₂)) fun _ _ x=>x
theorem form0 {pos:Pos}:methodCallForm (([]:List Expr).length+0) (backTo pos (starEach [] env)) []=true:=rfl
theorem form1 {pos:Pos} {a:Expr} (h:isStar a=false):methodCallForm ([a].length+0) (backTo pos (starEach [a] env)) []=true:=by
  rw [starEach_plain h]; rfl
theorem form2 {pos:Pos} {a b:Expr} (h:isStar a=false) (h':isStar b=false):methodCallForm ([a,b].length+0) (backTo pos (starEach [a,b] env)) []=true:=by
  rw [starEach_plain h,starEach_plain h']; rfl
theorem args1 {a:Expr} {pos:Pos} (S:Stt g h₀ c env X ρ ve σ s.heap) (hs:isStar a=false) {r:Res MV} {fr:Bool} (ha:EOK g A X ρ s (eval a env) r fr) {α:Type} {f:AV→Option α} {y:α} {σ':List AV} (e:op1 f r=.ok y σ')
    {Q':List Value→Shared→Prop} {E:Value→Shared→Prop} (hQ:∀ v x h' tk,Stt g h₀ c env X ρ ve σ' h'→Ext (·∈ρ) s.heap h'→RView g h' X x v→f x=some y→Q' [v] { s with heap:=h',toks:=tk }) :
    wpAny (model g.prog g.w) A (spliced (backTo pos (starEach [a] env))) Q' E s :=
  args_cons (one_eval S ha e fun v x h' tk S1 k R ez=>args_nil (hQ v x h' tk S1 k R ez)) (starEach_plain hs _ _)
theorem args2 {a b:Expr} {pos:Pos} (S:Stt g h₀ c env X ρ ve σ s.heap) (hs:isStar a=false) (hs':isStar b=false) {r:Res MV} {r':List AV→Res MV} {fr fr':Bool} (ha:EOK g A X ρ s (eval a env) r fr)
    (h2:∀ σ1 h' tk,Stt g h₀ c env X ρ ve σ1 h'→EOK g A X ρ { s with heap:=h',toks:=tk } (eval b env) (r' σ1) fr')
    {α:Type} {f:AV→AV→Option α} {y:α} {σ':List AV} (e:op2 f r r'=.ok y σ')
    {Q':List Value→Shared→Prop} {E:Value→Shared→Prop} (hQ:∀ v v' x x' h' tk,Stt g h₀ c env X ρ ve σ' h'→Ext (·∈ρ) s.heap h'→RView g h' X x v→RView g h' X x' v'→f x x'=some y→Q' [v,v'] { s with heap:=h',toks:=tk }) :
    wpAny (model g.prog g.w) A (spliced (backTo pos (starEach [a,b] env))) Q' E s:=by
  refine args_cons (wpAny_mono (two_eval S ha h2 e (Q':=fun v v' s2=>Q' [v,v'] s2) hQ) (fun v s1 h=>?_) fun _ _ x=>x) (starEach_plain hs _ _)
  exact args_cons (wpAny_mono h (fun v' s2 h'=>args_nil h') fun _ _ x=>x) (starEach_plain hs' _ _)
theorem args3 {a b d:Expr} {pos:Pos} (S:Stt g h₀ c env X ρ ve σ s.heap) (hs:isStar a=false) (hs':isStar b=false) (hs'':isStar d=false) {r:Res MV} {r' r'':List AV→Res MV} {fr fr' fr'':Bool} (ha:EOK g A X ρ s (eval a env) r fr)
    (h2:∀ σ1 h' tk,Stt g h₀ c env X ρ ve σ1 h'→EOK g A X ρ { s with heap:=h',toks:=tk } (eval b env) (r' σ1) fr')
    (h3:∀ σ1 h' tk,Stt g h₀ c env X ρ ve σ1 h'→EOK g A X ρ { s with heap:=h',toks:=tk } (eval d env) (r'' σ1) fr'')
    {α:Type} {f:AV→AV→AV→Option α} {y:α} {σ':List AV} (e:op3 f r r' r''=.ok y σ')
    {Q':List Value→Shared→Prop} {E:Value→Shared→Prop} (hQ:∀ v v' v'' x x' x'' h' tk,Stt g h₀ c env X ρ ve σ' h'→Ext (·∈ρ) s.heap h'→RView g h' X x v→RView g h' X x' v'→RView g h' X x'' v''→f x x' x''=some y→Q' [v,v',v''] { s with heap:=h',toks:=tk }) :
    wpAny (model g.prog g.w) A (spliced (backTo pos (starEach [a,b,d] env))) Q' E s:=by
  refine args_cons (wpAny_mono (three_eval S ha h2 h3 e (Q':=fun v v' v'' s2=>Q' [v,v',v''] s2) hQ) (fun v s1 h=>?_) fun _ _ x=>x) (starEach_plain hs _ _)
  refine args_cons (wpAny_mono h (fun v' s2 h'=>?_) fun _ _ x=>x) (starEach_plain hs' _ _)
  exact args_cons (wpAny_mono h' (fun v'' s3 h''=>args_nil h'') fun _ _ x=>x) (starEach_plain hs'' _ _)
theorem cw_builtin {M:Model} {E:Value→Shared→Prop} {pos:Pos} {id:String} {e:Expr} {rest:List Expr} {Q:Value→Shared→Prop} (hs:isStar e=false) (hp:(backTo pos (starEach rest env)).any (·.1)=false)
    (h:wpAny M A (spliced (backTo pos (starEach (e::rest) env))) (fun vs s₁=>wpAny M A (call (.builtin id) vs) Q E s₁) E s):wpAny M A (callWith pos (.builtin id) [] (backTo pos (starEach (e::rest) env)) []) Q E s :=
  callWith_builtin1 h (starEach_plain hs _ _) hp
theorem cw_type {M:Model} {E:Value→Shared→Prop} {pos:Pos} {id:String} {e:Expr} {rest:List Expr} {Q:Value→Shared→Prop} (hs:isStar e=false) (hp:(backTo pos (starEach rest env)).any (·.1)=false)
    (h:wpAny M A (spliced (backTo pos (starEach (e::rest) env))) (fun vs s₁=>wpAny M A (call (.type id) vs) Q E s₁) E s):wpAny M A (callWith pos (.type id) [] (backTo pos (starEach (e::rest) env)) []) Q E s :=
  PyProof.Rows.callWith_type1 h (starEach_plain hs _ _) hp
theorem any0 {pos:Pos}:(backTo pos (starEach [] env)).any (·.1)=false:=rfl
theorem any1 {pos:Pos} {a:Expr} (h:isStar a=false):(backTo pos (starEach [a] env)).any (·.1)=false:=by
  rw [starEach_plain h]; rfl
theorem any2 {pos:Pos} {a b:Expr} (h:isStar a=false) (h':isStar b=false):(backTo pos (starEach [a,b] env)).any (·.1)=false:=by
  rw [starEach_plain h,starEach_plain h']; rfl
theorem kdk_entry:entryFor table "iter"=some Builtin.«iter»:=entryFor_of_tree (by kernel_rfl)
theorem iterP {b:List UInt8} {v:Value} (al:Alive X s.heap) (p:RView g s.heap X (.bytes b) v):PrimF g A X s (call (.builtin "iter") [v]) (.biter b 0):=by
  obtain ⟨t,rfl⟩:=rv_bytes p
  intro Q E hQ
  refine call_function_entry (by decide +kernel) (by decide +kernel) kdk_entry (by unfold argsOk; kernel_rfl) ?_
  unfold Builtin.«iter»
  refine wpAny_bind (m:=someArgs "iter" 1 2 _) (wpAny_of_eq (a:=[Value.bytes b.toArray t]) (by first | rfl | kernel_rfl!) ?_)
  show wpAny _ _ (pyIter (.bytes b.toArray t) >>= _) _ _ _
  refine wpAny_bind (KBw.pyIter_bytes (wpAny_pure ⟨_,rfl,?_⟩))
  refine hQ _ _ s.toks (get?_size _) (Grow.push _ _) ?_
  exact .inl ⟨t,_,Heap.get?_push_size _ rfl,rfl,rfl⟩
theorem tab_inv {α:Type} {l:List (String × α)} {f:Str} {p:α} (e:((l.find? fun p=>(Str.ofString p.1:Str) == f).map (·.2))=some p):∃ nm,(nm,p)∈l∧f=Str.ofString nm :=
  omC e fun q hf e=>e ▸ ⟨q.1,List.mem_of_find?_eq_some hf,(beq_iff_eq.mp (List.find?_some (p:=fun (p:String × α)=>(Str.ofString p.1:Str) == f) hf)).symm⟩
theorem Base.bltAt (B:Base g mg mb h₀) {i:Nat} {nm:String} {v:Value} (h:bltTab[i]?=some (nm,v)):mg (Str.ofString nm)=none∧mb (Str.ofString nm)=some v:=B.blt _ (List.mem_of_getElem? h)
noncomputable def PrimG (g:GG) (A:Around) (X:Addr→Prop) (s:Shared) (fr:Bool) (t:Sem Value) (z:AV):Prop:=PrimF g A X s t z∨(fr=false∧Prim g A X s t z)
theorem primG_end {h':Heap} {tk:Nat} {σ':List AV} {m:MV} {o:Option AV} (ez:toM o=some m) (S1:Stt g h₀ c env X ρ ve σ' h') (k:Ext (·∈ρ) s.heap h') (M:Muts g s.heap X ρ σ) {t:Sem Value} {fr:Bool} (P:∀ z,o=some z→PrimG g A X { s with heap:=h',toks:=tk } fr t z)
    {Q:Value→Shared→Prop} {E:Value→Shared→Prop}
    (hQ:∀ v h' tk,Ext (·∈ρ) s.heap h'→Muts g h' X ρ σ'→RepM g h' X ρ m v→(fr=true→FreshV g X ρ σ' s.heap h' m v)→Q v { s with heap:=h',toks:=tk }) :
    wpAny (model g.prog g.w) A t Q E { s with heap:=h',toks:=tk }:=by
  obtain ⟨z,h1,rfl⟩:=om_inv ez
  exact (P z h1).elim (fun P=>primF_end S1 k M P hQ) fun P=>prim_end S1 k P.2 P.1 hQ
noncomputable def P1Rule (g:GG) (fr:Bool) (cv:Value) (p:P1):Prop :=
  ∀ {A:Around} {s:Shared} {X:Addr→Prop} {v:Value} {x z:AV},A.handled=none→Alive X s.heap→sysModules < s.heap.objs.size→RView g s.heap X x v→p1V p x=some z→PrimG g A X s fr (call cv [v]) z
theorem p1_type {i:Nat} {nm id:String} {fp pos:Pos} {a:Expr} {ma:ME} {p:P1} (h:bltTab[i]?=some (nm,.type id)) (hs:isStar a=false) (ha:ESound g mg mb c a ma) (R:P1Rule g (isFresh (.Call (.Name (Str.ofString nm) fp) [a] [] pos)) (.type id) p) (hf:isGlob c (Str.ofString nm)=true) :
    ESound g mg mb c (.Call (.Name (Str.ofString nm) fp) [a] [] pos) (.p1 p ma):=by
  intro T n h₀ A env X ρ ve σ s aok B TT S m σ' e Q E hQ
  exact Call_ (name_blt S B hf (B.bltAt h).1 (B.bltAt h).2 (cw_type hs any0 (args1 S hs (ha T n h₀ A env X ρ ve σ s aok B TT S) e fun v x h' tk S1 k R' ez=>primG_end ez S1 k S.muts (fun z=>R aok.1 S1.alive (S1.bigS (s:={ s with heap:=h',toks:=tk }) B) R') hQ)))
theorem p1_blt {i:Nat} {nm id:String} {fp pos:Pos} {a:Expr} {ma:ME} {p:P1} (h:bltTab[i]?=some (nm,.builtin id)) (hs:isStar a=false) (ha:ESound g mg mb c a ma) (R:P1Rule g (isFresh (.Call (.Name (Str.ofString nm) fp) [a] [] pos)) (.builtin id) p) (hf:isGlob c (Str.ofString nm)=true) :
    ESound g mg mb c (.Call (.Name (Str.ofString nm) fp) [a] [] pos) (.p1 p ma):=by
  intro T n h₀ A env X ρ ve σ s aok B TT S m σ' e Q E hQ
  exact Call_ (name_blt S B hf (B.bltAt h).1 (B.bltAt h).2 (cw_builtin hs any0 (args1 S hs (ha T n h₀ A env X ρ ve σ s aok B TT S) e fun v x h' tk S1 k R' ez=>primG_end ez S1 k S.muts (fun z=>R aok.1 S1.alive (S1.bigS (s:={ s with heap:=h',toks:=tk }) B) R') hQ)))
theorem r_range:P1Rule g false (.type "range") .range:=fun hh al big R e=>obC e fun b hb e=>.inr ⟨rfl,grdP e fun _=>rangeP al (AV.int?_inv hb ▸ R)⟩
theorem r_len:P1Rule g false (.builtin "len") .len:=fun hh al big R e=>obC e fun b hb e=>.inr ⟨rfl,grdP e fun f=>lenP (AV.list?_inv hb ▸ R) f⟩
theorem grdF {A:Around} {s:Shared} {X:Addr→Prop} {z:AV} {t:Sem Value} {b:Bool} {r:AV} (e:grd b r=some z) (k:b=true→PrimF g A X s t r):PrimF g A X s t z:=(grd_inv e).2 ▸ k (grd_inv e).1
theorem r_list:P1Rule g true (.type "list") .listOf:=fun hh al big R e =>
  orC e (fun e=>obC e fun p hp e=>.inl (grdF e fun f=>listRangeP hh al (AV.rng?_inv hp ▸ R) (and_of (and_of f).1).1 (and_of (and_of f).1).2 (and_of f).2)) fun e =>
  orC e (fun e=>obC e fun d hd e=>obC e fun p hp e=>.inl (grdF e fun f=>listValsP (ks:=p.1) hh al (AV.dI?_inv hp ▸ AV.vals?_inv hd ▸ R) f)) fun e =>
  obC e fun d hd e=>obC e fun p hp e=>.inl (grdF e fun f=>listItemsP hh al (AV.dS?_inv hp ▸ AV.items?_inv hd ▸ R) f)
theorem r_hex:P1Rule g false (.builtin "hex") .hex:=fun hh al big R e=>obC e fun b hb e=>.inr ⟨rfl,grdP e fun f=>hexP (AV.int?_inv hb ▸ R) f⟩
theorem intF_inv {x:UInt64} {z:AV} (e:intF x=some z):∃ sg m ex,Float64.decode x=.fin sg m ex∧z=.int (Float64.truncOf sg m ex):=by
  unfold intF at e
  cases hd:Float64.decode x <;> rw [hd] at e <;> first | exact nn e | exact ⟨_,_,_,rfl,(Option.some.inj e).symm⟩
theorem r_int:P1Rule g false (.type "int") .intf:=fun hh al big R e=>obC e fun b hb e=>.inr ⟨rfl,by
  obtain ⟨sg,m,ex,hd,rfl⟩:=intF_inv e
  exact intfP (AV.flt?_inv hb ▸ R) hd⟩
theorem r_dict:P1Rule g false (.type "dict") .dictOf:=fun hh al big R e=>obC e fun p hp e=>.inr ⟨rfl,grdP e fun f=>dictOfP al big (AV.dS?_inv hp ▸ R) f⟩
theorem r_bytes:P1Rule g false (.type "bytes") .bytesOf:=fun hh al big R e=>obC e fun xs hx e=>obC e fun ns hi e=>.inr ⟨rfl,grdP e fun f=>bytesP hh (AV.list?_inv hx ▸ R) hi (and_of f).1 (and_of f).2⟩
theorem r_sorted:P1Rule g false (.builtin "sorted") .sortedOf:=fun hh al big R e=>obC e fun d hd e=>obC e fun p hp e=>obC e fun ns hi e=>.inr ⟨rfl,grdP e fun f=>sortedP (ks:=p.1) hh al (AV.dS?_inv hp ▸ AV.vals?_inv hd ▸ R) hi (of_decide_eq_true (and_of f).1)⟩
theorem r_iter:P1Rule g true (.builtin "iter") .iterb:=fun hh al big R e=>obC e fun b hb e=>.inl (Option.some.inj e ▸ iterP al (AV.bytes?_inv hb ▸ R))
theorem p1_all {fp pos:Pos} {a:Expr} {ma:ME} (hs:isStar a=false) (ha:ESound g mg mb c a ma):∀ q∈p1Tab,isGlob c (Str.ofString q.1)=true→ESound g mg mb c (.Call (.Name (Str.ofString q.1) fp) [a] [] pos) (.p1 q.2 ma) :=
  List.forall_mem_cons.mpr ⟨p1_type (i:=0) rfl hs ha r_range,List.forall_mem_cons.mpr ⟨p1_blt (i:=1) rfl hs ha r_len,List.forall_mem_cons.mpr ⟨p1_type (i:=2) rfl hs ha r_list,List.forall_mem_cons.mpr ⟨p1_blt (i:=3) rfl hs ha r_hex,
  List.forall_mem_cons.mpr ⟨p1_type (i:=4) rfl hs ha r_int,List.forall_mem_cons.mpr ⟨p1_type (i:=5) rfl hs ha r_dict,List.forall_mem_cons.mpr ⟨p1_type (i:=6) rfl hs ha r_bytes,List.forall_mem_cons.mpr ⟨p1_blt (i:=7) rfl hs ha r_sorted,List.forall_mem_cons.mpr ⟨p1_blt (i:=8) rfl hs ha r_iter,fun _ h=>nomatch h⟩⟩⟩⟩⟩⟩⟩⟩⟩
theorem es_p1 {f:Str} {fp pos:Pos} {a:Expr} {ma:ME} {p:P1} (hf:isGlob c f=true) (hp:p1Of f=some p) (hs:isStar a=false) (ha:ESound g mg mb c a ma):ESound g mg mb c (.Call (.Name f fp) [a] [] pos) (.p1 p ma):=by
  obtain ⟨nm,hm,rfl⟩:=tab_inv hp
  exact p1_all hs ha (nm,p) hm hf
theorem p3_blt {i:Nat} {nm:String} {fp pos:Pos} {a b d:Expr} {ma mb' md:ME} {p:P3} (h:bltTab[i]?=some (nm,.builtin (p3Name p))) (hfr:isFresh (.Call (.Name (Str.ofString nm) fp) [a,b,d] [] pos)=false) (hs:isStar a=false) (hs':isStar b=false) (hs'':isStar d=false) (ha:ESound g mg mb c a ma) (hb:ESound g mg mb c b mb') (hd:ESound g mg mb c d md)
    (hf:isGlob c (Str.ofString nm)=true):ESound g mg mb c (.Call (.Name (Str.ofString nm) fp) [a,b,d] [] pos) (.p3 p ma mb' md):=by
  intro T n h₀ A env X ρ ve σ s aok B TT S m σ' e Q E hQ
  exact Call_ (name_blt S B hf (B.bltAt h).1 (B.bltAt h).2 (cw_builtin hs (any2 hs' hs'') (args3 S hs hs' hs'' (ha T n h₀ A env X ρ ve σ s aok B TT S) (fun σ1 h' tk S1=>hb T n h₀ A env X ρ ve σ1 _ aok B TT S1) (fun σ1 h' tk S1=>hd T n h₀ A env X ρ ve σ1 _ aok B TT S1) e
    fun v v' v'' x x' x'' h' tk S1 k R R' R'' ez=>prim_toM ez S1 k (fun z ez2=>p3P aok.1 ez2 R R' R'') hfr hQ)))
theorem es_p3 {f:Str} {fp pos:Pos} {a b d:Expr} {ma mb' md:ME} {p:P3} (hf:isGlob c f=true) (hp:p3Of f=some p) (hs:isStar a=false) (hs':isStar b=false) (hs'':isStar d=false) (ha:ESound g mg mb c a ma) (hb:ESound g mg mb c b mb') (hd:ESound g mg mb c d md) :
    ESound g mg mb c (.Call (.Name f fp) [a,b,d] [] pos) (.p3 p ma mb' md):=by
  obtain ⟨nm,hm,rfl⟩:=tab_inv hp
  have all:∀ q∈p3Tab,isGlob c (Str.ofString q.1)=true→ESound g mg mb c (.Call (.Name (Str.ofString q.1) fp) [a,b,d] [] pos) (.p3 q.2 ma mb' md) :=
    List.forall_mem_cons.mpr ⟨p3_blt (i:=12) rfl rfl hs hs' hs'' ha hb hd,List.forall_mem_cons.mpr ⟨p3_blt (i:=13) rfl rfl hs hs' hs'' ha hb hd,fun _ h=>nomatch h⟩⟩
  exact all (nm,p) hm hf
theorem args2v {a b:Expr} {pos:Pos} (S:Stt g h₀ c env X ρ ve σ s.heap) (hs:isStar a=false) (hs':isStar b=false) {r:Res MV} {r':List AV→Res MV} {fr fr':Bool} (ha:EOK g A X ρ s (eval a env) r fr)
    (h2:∀ σ1 h' tk,Stt g h₀ c env X ρ ve σ1 h'→EOK g A X ρ { s with heap:=h',toks:=tk } (eval b env) (r' σ1) fr')
    {α:Type} {f:AV→AV→Option α} {y:α} {σ':List AV} (e:op2v f r r'=.ok y σ')
    {Q':List Value→Shared→Prop} {E:Value→Shared→Prop} (hQ:∀ v v' x x' h' tk,Stt g h₀ c env X ρ ve σ' h'→Ext (·∈ρ) s.heap h'→RView g h' X x v→RView g h' X x' v'→f x x'=some y→Q' [v,v'] { s with heap:=h',toks:=tk }) :
    wpAny (model g.prog g.w) A (spliced (backTo pos (starEach [a,b] env))) Q' E s:=by
  refine op2vC e fun x σ1 m' x' e1 e2 e3 ez=>args_cons (ha _ _ e1 _ _ fun v h1 tk1 k1 M1 R1 _=>?_) (starEach_plain hs _ _)
  have S1:=S.move k1 M1
  refine args_cons (h2 σ1 h1 tk1 S1 _ _ e2 _ _ fun v' h' tk k2 M2 R2 _=>args_nil ?_) (starEach_plain hs' _ _)
  exact hQ v v' x x' h' tk (S1.move k2 M2) (k1.trans k2) (RepV.move (k2.move S1.muts.mem) R1).view (R2.view M2 e3) ez
theorem es_range2 {fp pos:Pos} {a b:Expr} {ma mb':ME} (hf:isGlob c "range"=true) (hs:isStar a=false) (hs':isStar b=false) (ha:ESound g mg mb c a ma) (hb:ESound g mg mb c b mb') :
    ESound g mg mb c (.Call (.Name "range" fp) [a,b] [] pos) (.p2 .range ma mb'):=by
  intro T n h₀ A env X ρ ve σ s aok B TT S m σ' e Q E hQ
  have h:bltTab[0]?=some ("range",.type "range"):=rfl
  exact Call_ (name_blt S B hf (B.bltAt h).1 (B.bltAt h).2 (cw_type hs (any1 hs') (args2v S hs hs' (ha T n h₀ A env X ρ ve σ s aok B TT S) (fun σ1 h' tk S1=>hb T n h₀ A env X ρ ve σ1 _ aok B TT S1) e fun v v' x x' h' tk S2 k R R' ez =>
    prim_toM ez S2 k (fun z ez2=>obC ez2 fun i hi ez2=>obC ez2 fun j hj ez2=>grdP ez2 fun _=>range2P S2.alive (AV.int?_inv hi ▸ R) (AV.int?_inv hj ▸ R')) rfl hQ)))
theorem es_isTup {fp pos yp:Pos} {a:Expr} {ma:ME} (hf:isGlob c "isinstance"=true) (hy:isGlob c "tuple"=true) (hs:isStar a=false) (ha:ESound g mg mb c a ma) :
    ESound g mg mb c (.Call (.Name "isinstance" fp) [a,.Name "tuple" yp] [] pos) (.p1 .isTup ma):=by
  intro T n h₀ A env X ρ ve σ s aok B TT S m σ' e Q E hQ
  have h:bltTab[10]?=some ("isinstance",.builtin "isinstance"):=rfl
  have h2:bltTab[11]?=some ("tuple",.type "tuple"):=rfl
  refine Call_ (name_blt S B hf (B.bltAt h).1 (B.bltAt h).2 (cw_builtin hs (any1 rfl) (args_cons (one_eval S (ha T n h₀ A env X ρ ve σ s aok B TT S) e fun v x h' tk S1 k R ez=>?_) (starEach_plain hs _ _))))
  exact args_cons (name_blt (s:={ s with heap:=h',toks:=tk }) S1 B hy (B.bltAt h2).1 (B.bltAt h2).2 (args_nil (prim_toM ez S1 k (fun z ez2=>obC ez2 fun i hi ez2=>somP ez2 (isTupP (AV.int?_inv hi ▸ R))) rfl hQ))) (starEach_plain rfl _ _)
end
section
variable {g:GG} {mg mb:Str→Option Value} {c:Ctx} {h₀:Heap} {A:Around} {env:Env} {X:Addr→Prop} {ρ:List Addr} {ve:List MV} {σ:List AV} {s:Shared}
noncomputable def VRule (g:GG) (id:String) (p:P1):Prop:=∀ {A:Around} {s:Shared} {X:Addr→Prop} {x z:AV} {v:Value},Alive X s.heap→RepV g s.heap X x v→p1V p x=some z →
  (∀ {name:Str} {pl:Sem Bool} {Q:Value × List Value→Shared→Prop} {E:Value→Shared→Prop},Slot "dict" name id→typeOf (.builtin id)=pure (.type "method_descriptor")→Q (.builtin id,[v]) s→wpAny (model g.prog g.w) A (getMethod v name pl) Q E s)∧Prim g A X s (call (.builtin id) [v]) z
theorem v_items:VRule g "dict.items" .items:=fun al R e=>obC e fun p hp e=>(AV.dS?_inv hp ▸ R:RepV g _ _ (.dictS p.1 p.2) _).elim (fun q=>False.elim q) fun q=>by
  obtain ⟨a,q,xa,R1⟩:=q
  subst q
  have R0:=R1
  obtain ⟨kvs,ep,lo,da,ek,rv⟩:=R1
  exact ⟨fun slot ty hQ=>dict_meth da slot ty hQ,somP e (itemsP al xa R0)⟩
theorem v_values:VRule g "dict.values" .values:=fun al R e=>orC e (fun e=>obC e fun p hp e=>(AV.dS?_inv hp ▸ R:RepV g _ _ (.dictS p.1 p.2) _).elim (fun q=>False.elim q) fun q=>by
    obtain ⟨a,q,xa,R1⟩:=q
    subst q
    have R0:=R1
    obtain ⟨kvs,ep,lo,da,ek,rv⟩:=R1
    exact ⟨fun slot ty hQ=>dict_meth da slot ty hQ,somP e (valsSP al xa R0)⟩) fun e=>obC e fun p hp e=>(AV.dI?_inv hp ▸ R:RepV g _ _ (.dictI p.1 p.2) _).elim (fun q=>False.elim q) fun q=>by
  obtain ⟨a,q,xa,R1⟩:=q
  subst q
  have R0:=R1
  obtain ⟨kvs,ep,lo,da,ek,rv⟩:=R1
  exact ⟨fun slot ty hQ=>dict_meth da slot ty hQ,somP e (valsIP al xa R0)⟩
theorem view_of {o:Expr} {ap pos:Pos} {mo:ME} {nm:Str} {id:String} {p:P1} (slot:Slot "dict" nm id) (ty:typeOf (.builtin id)=pure (.type "method_descriptor")) (R:VRule g id p) (hb:plainBase o=true) (hl:(ap.endLine == pos.line)=true) (ho:ESound g mg mb c o mo) :
    ESound g mg mb c (.Call (.Attribute o nm ap) [] [] pos) (.view p mo):=by
  intro T n h₀ A env X ρ ve σ s aok B TT S m σ' e Q E hQ
  refine Res.bindC e fun m1 σ1 h1 e1=>?_
  obtain ⟨e2,rfl⟩:=Res.of_inv e1
  refine omC e2 fun z e3 em=>obC e3 fun x hx e4=>?_
  refine MCall hb hl form0 (ho T n h₀ A env X ρ ve σ s aok B TT S _ _ h1 _ _ fun v h' tk k M RR _ pl=>?_)
  have S1:=S.move k M
  obtain ⟨q1,q2⟩:=R (A:=A) (s:={ s with heap:=h',toks:=tk }) S1.alive (MV.val?_inv hx ▸ RR:RepM g h' X ρ (.val x) v) e4
  exact q1 slot ty (callWith_method0 (prim_end S1 k q2 rfl (em ▸ hQ)))
theorem es_view {o:Expr} {ap pos:Pos} {mo:ME} {nm:Str} {p:P1} (hp:m0Of nm=some p) (hb:plainBase o=true) (hl:(ap.endLine == pos.line)=true) (ho:ESound g mg mb c o mo) :
    ESound g mg mb c (.Call (.Attribute o nm ap) [] [] pos) (.view p mo):=by
  obtain ⟨nm',hm,rfl⟩:=tab_inv hp
  have all:∀ q∈m0Tab,ESound g mg mb c (.Call (.Attribute o (Str.ofString q.1) ap) [] [] pos) (.view q.2 mo) :=
    List.forall_mem_cons.mpr ⟨view_of PySem.F.slot_dict_items PySem.F.type_dict_items v_items hb hl ho,List.forall_mem_cons.mpr ⟨view_of PySem.F.slot_dict_values PySem.F.type_dict_values v_values hb hl ho,fun _ h=>nomatch h⟩⟩
  exact all (nm',p) hm
noncomputable def MRule (g:GG) (nm:Str) (p:P2):Prop:=∃ id,(∀ {A:Around} {s:Shared} {X:Addr→Prop} {x x' z:AV} {v:Value},RView g s.heap X x v→p2V p x x'=some z →
    ∀ {pl:Sem Bool} {Q:Value × List Value→Shared→Prop} {E:Value→Shared→Prop},Q (.builtin id,[v]) s→wpAny (model g.prog g.w) A (getMethod v nm pl) Q E s) ∧
  ∀ {A:Around} {s:Shared} {X:Addr→Prop} {x x' z:AV} {v v':Value},Alive X s.heap→RView g s.heap X x v→RView g s.heap X x' v'→p2V p x x'=some z→Prim g A X s (call (.builtin id) [v,v']) z
theorem m_join:MRule g "join" .join:=⟨"str.join",fun R e=>obC e fun x hx e=>join_meth (AV.str?_inv hx ▸ R),fun al R R' e=>obC e fun x hx e=>obC e fun xs hy e=>obC e fun ss hs e=>grdP e fun f=>joinP (AV.str?_inv hx ▸ R) (AV.list?_inv hy ▸ R') hs f⟩
theorem m_split:MRule g "split" .split:=⟨"str.split",fun R e=>obC e fun x hx e=>split_meth (AV.str?_inv hx ▸ R),fun al R R' e=>obC e fun x hx e=>obC e fun y hy e=>grdP e fun f =>
  splitP al (AV.str?_inv hx ▸ R) (AV.str?_inv hy ▸ R') (and_of (and_of (and_of (and_of f).1).1).1).1 ((Bool.not_eq_true' _).mp (and_of (and_of (and_of (and_of f).1).1).1).2) ((Bool.not_eq_true' _).mp (and_of (and_of (and_of f).1).1).2) ((Bool.not_eq_true' _).mp (and_of (and_of f).1).2) (and_of f).2⟩
theorem m_count:MRule g "count" .count:=⟨"list.count",fun R e=>obC e fun x hx e=>count_meth (AV.list?_inv hx ▸ R),fun al R R' e=>obC e fun xs hx e=>obC e fun y hy e=>obC e fun ss hs e=>grdP e fun f=>countP (AV.list?_inv hx ▸ R) (AV.str?_inv hy ▸ R') hs⟩
theorem m1_of {o a:Expr} {ap pos:Pos} {mo ma:ME} {nm:Str} {p:P2} (R:MRule g nm p) (hb:plainBase o=true) (hl:(ap.endLine == pos.line)=true) (hs:isStar a=false) (ho:ESound g mg mb c o mo) (ha:ESound g mg mb c a ma) :
    ESound g mg mb c (.Call (.Attribute o nm ap) [a] [] pos) (.p2 p mo ma):=by
  intro T n h₀ A env X ρ ve σ s aok B TT S m σ' e Q E hQ
  obtain ⟨id,q1,q2⟩:=R
  refine op2vC e fun x σ1 m' x' e1 e2 e3 ez=>omC ez fun z hz em=>MCall hb hl (form1 hs) (ho T n h₀ A env X ρ ve σ s aok B TT S _ _ e1 _ _ fun v h1 tk1 k1 M1 R1 _ pl=>?_)
  have S1:=S.move k1 M1
  refine q1 (s:={ s with heap:=h1,toks:=tk1 }) (RepV.view R1) hz (callWith_method1 (args_cons (ha T n h₀ A env X ρ ve σ1 { s with heap:=h1,toks:=tk1 } aok B TT S1 _ _ e2 _ _ fun v' h' tk k2 M2 R2 _=>args_nil ?_) (starEach_plain hs _ _)) (starEach_plain hs _ _) any0)
  have S2:=S1.move k2 M2
  exact prim_end S2 (k1.trans k2) (q2 S2.alive (RepV.move (k2.move S1.muts.mem) R1).view (R2.view M2 e3) hz) rfl (em ▸ hQ)
theorem es_m1 {o a:Expr} {ap pos:Pos} {mo ma:ME} {nm:Str} {p:P2} (hp:m1Of nm=some p) (hb:plainBase o=true) (hl:(ap.endLine == pos.line)=true) (hs:isStar a=false) (ho:ESound g mg mb c o mo) (ha:ESound g mg mb c a ma) :
    ESound g mg mb c (.Call (.Attribute o nm ap) [a] [] pos) (.p2 p mo ma):=by
  obtain ⟨nm',hm,rfl⟩:=tab_inv hp
  have all:∀ q∈m1Tab,ESound g mg mb c (.Call (.Attribute o (Str.ofString q.1) ap) [a] [] pos) (.p2 q.2 mo ma) :=
    List.forall_mem_cons.mpr ⟨m1_of m_join hb hl hs ho ha,List.forall_mem_cons.mpr ⟨m1_of m_split hb hl hs ho ha,List.forall_mem_cons.mpr ⟨m1_of m_count hb hl hs ho ha,fun _ h=>nomatch h⟩⟩⟩
  exact all (nm',p) hm
end
section
variable {g:GG} {mg mb:Str→Option Value} {c:Ctx} {h₀:Heap} {A:Around} {env:Env} {X:Addr→Prop} {ρ:List Addr} {ve:List MV} {σ:List AV} {s:Shared}
theorem lookup_key (k:Int):∀ l:List (Int × String),keyAt (l.map (·.1)) (l.map fun p=>AV.str (Str.ofString p.2)) k=(l.lookup k).map fun t=>.str (Str.ofString t)
  | []=>rfl
  | (a,t)::l=>by
    show (if a=k then some (AV.str (Str.ofString t)) else keyAt (l.map (·.1)) (l.map fun p=>AV.str (Str.ofString p.2)) k)=_
    by_cases h:a=k
    · rw [if_pos h,h,List.lookup_cons]; simp
    · have h':(k == a)=false:=by simpa using fun e=>h e.symm
      rw [if_neg h,List.lookup_cons,h',lookup_key k l]
theorem lookup_mem (k:Int):∀ l:List (Int × String),l.lookup k=none→k ∉ l.map (·.1)
  | [],_,hm=>nomatch hm
  | (a,t)::l,h,hm=>by
    rw [List.lookup_cons] at h
    by_cases e:k=a
    · subst e; simp at h
    · have h':(k == a)=false:=by simpa using e
      rw [h'] at h
      rcases List.mem_cons.mp hm with q | q
      · exact e q
      · exact lookup_mem k l h q
theorem flag_key (k:Int):keyAt (flagKvs.map (·.1)) (flagKvs.map fun p=>AV.str (Str.ofString p.2)) k=(flagText k).map fun t=>.str (Str.ofString t):=lookup_key k _
theorem flag_mem (k:Int) (h:flagText k=none):k ∉ flagKvs.map (·.1):=lookup_mem k _ h
theorem es_get {a b:Expr} {yp ap pos:Pos} {ma mb':ME} (hy:isGlob c "COMPILER_FLAG_NAMES"=true) (hl:(ap.endLine == pos.line)=true) (hs:isStar a=false) (hs':isStar b=false) (ha:ESound g mg mb c a ma) (hb:ESound g mg mb c b mb') :
    ESound g mg mb c (.Call (.Attribute (.Name "COMPILER_FLAG_NAMES" yp) "get" ap) [a,b] [] pos) (.p2 .flagGet ma mb'):=by
  intro T n h₀ A env X ρ ve σ s aok B TT S m σ' e Q E hQ
  refine op2vC e fun x σ1 m' x' e1 e2 e3 ez=>omC ez fun z hz em=>obC hz fun kk hk hz=>obC hz fun dd hd hz=>?_
  obtain ⟨d,kvs,ep,g1,lo,da,ek,rv⟩:=B.flags
  refine MCall rfl hl (form2 hs hs') (name_glob S B hy g1 fun pl=>?_)
  refine dict_meth (da.keep S.keep) PySem.F.slot_dict_get PySem.F.type_dict_get ?_
  refine callWith_method1 (args_cons (ha T n h₀ A env X ρ ve σ s aok B TT S _ _ e1 _ _ fun v h1 tk1 k1 M1 R1 fr1=>?_) (starEach_plain hs _ _)) (starEach_plain hs _ _) (any1 hs')
  clear fr1
  have S1:=S.move k1 M1
  refine args_cons (hb T n h₀ A env X ρ ve σ1 { s with heap:=h1,toks:=tk1 } aok B TT S1 _ _ e2 _ _ fun v' h' tk k2 M2 R2 _=>args_nil ?_) (starEach_plain hs' _ _)
  have S2:=S1.move k2 M2
  obtain ⟨t,rfl⟩:=rv_int (AV.int?_inv hk ▸ RepV.view R1)
  obtain ⟨u,rfl⟩:=rv_str (AV.str?_inv hd ▸ R2.view M2 e3)
  have da2:h'.DictAt (intKind g.prog g.w) d kvs ep:=da.keep S2.keep
  refine call_meetsIn PySem.F.slot_dict_get (s:={ s with heap:=h',toks:=tk }) da2.dictOf.typeIs PySem.F.entry_dict_get (PySem.F.args_dict_get_3 _ _ _) (meets_dict_get_default (intKind g.prog g.w) d (k:=kk) (by simp [intKind,Value.isInt]) lo (.str dd u)) ⟨_,da2.dictOf.mapOf,?_⟩
  refine hQ _ h' _ (k1.trans k2) M2 (em ▸ Option.some.inj hz ▸ ?_) fun e=>nomatch e
  cases hf:flagText kk with
  | some tx =>
    have fk:=flag_key kk
    rw [hf,← ek] at fk
    obtain ⟨v,e1,r⟩:=keyAt_valueAt rv fk
    rw [e1,Option.getD_some]
    exact r.elim .inl fun r=>r.elim fun _ r=>False.elim r.2.2
  | none =>
    have e1:valueAt kvs kk=none:=valueAt_none_of_not_mem (by rw [ek]; exact flag_mem kk hf)
    rw [e1]
    exact rp_str
theorem Muts.put {h h':Heap} {j:Nat} {a:Addr} {c':AV} (M:Muts g h X ρ σ) (ha:ρ[j]?=some a) (k:∀ b o,b≠a→h.get? b=some o→h'.get? b=some o) (r:RepC g h' X c' a) (cm:canMut c'=true):Muts g h' X ρ (σ.set j c'):=by
  have xa:X a:=M.mem a (List.mem_of_getElem? ha)
  have mv:Move h h' X X:=fun b o n e=>⟨k b o (fun q=>n (q ▸ xa)) e,n⟩
  refine ⟨by rw [List.length_set]; exact M.len,fun i c b e1 e2=>?_,M.mem,M.nodup⟩
  by_cases hij:i=j
  · subst hij
    rw [ha] at e2; cases e2
    rw [List.getElem?_set_self (by rw [← M.len]; exact (List.getElem?_eq_some_iff.mp ha).1)] at e1
    cases e1
    exact ⟨r,cm⟩
  · rw [List.getElem?_set_ne (Ne.symm hij)] at e1
    have hb:b≠a:=fun q=>by
      subst q
      exact hij ((List.getElem?_inj (List.getElem?_eq_some_iff.mp e2).1 M.nodup).mp (e2.trans ha.symm))
    exact ⟨RepC.move mv (M.at_ i c b e1 e2).1 fun o e=>k b o hb e,(M.at_ i c b e1 e2).2⟩
theorem RepVs.eraseIdx {h:Heap} {xs:List AV} {vs:List Value} (p:RepVs g h X xs vs) (k:Nat):RepVs g h X (xs.eraseIdx k) (vs.eraseIdx k):=by
  induction xs generalizing vs k with
  | nil=>rw [RepVs_nil.mp p]; simpa using RepVs_nil.mpr rfl
  | cons y ys ih =>
    obtain ⟨v,r,rfl,a,b⟩:=RepVs_cons.mp p
    cases k with
    | zero=>exact b
    | succ k=>exact RepVs_cons.mpr ⟨v,r.eraseIdx k,rfl,a,ih b k⟩
theorem pop_at {la:Addr} {xs:List AV} {j:Nat} {kk:Int} {u:Tok} {q:AV × List AV} (M:Muts g s.heap X ρ σ) (hla:ρ[j]?=some la) (hc:σ[j]?=some (.list xs)) (hq:popV xs kk=some q) {Q:Value→Shared→Prop} {E:Value→Shared→Prop}
    (hQ:∀ h',(∀ b o,b≠la→s.heap.get? b=some o→h'.get? b=some o)→Muts g h' X ρ (σ.set j (.list q.2))→∀ {w},RepV g h' X q.1 w→Q w { s with heap:=h' }):wpAny (model g.prog g.w) A (call (.builtin "list.pop") [.ref la,.int kk u]) Q E s:=by
  unfold popV at hq
  by_cases hf:fits xs.length=true
  · rw [if_neg (by rw [hf]; exact Bool.false_ne_true)] at hq
    refine obC hq fun n hp hq=>omC hq fun y hy hq=>?_
    subst hq
    obtain ⟨h0,rfl,hk⟩:=place_some hp
    obtain ⟨vs,⟨nn,ho⟩,rv⟩:=(M.at_ j _ la hc hla).1
    obtain ⟨w,hw,rw'⟩:=rv.get hy
    have hsz:vs.toArray.size=xs.length:=by rw [List.size_toArray,rv.length]
    have b1:=place_fit hf h0 hk
    refine call_meets PySem.F.slot_list_pop ⟨_,ho,rfl⟩ PySem.F.entry_list_pop (PySem.F.args_list_pop_2 _ _) (MeetsSeq.list_pop_at la vs.toArray nn kk u kk.toNat w ?_ (by rw [hsz]; exact seqIdx h0 hk) (List.getElem?_toArray.trans hw) (by rw [hsz]; exact fits_line hf)) ⟨ho,?_⟩
    · unfold Builtin.List.listFitsIndex
      simp
      omega
    · have hu:=get?_update_seq ho (fun xs=>xs.eraseIdxIfInBounds kk.toNat)
      have ee:vs.toArray.eraseIdxIfInBounds kk.toNat=(vs.eraseIdx kk.toNat).toArray:=by
        simp
      rw [ee] at hu
      have kb:∀ b o,b≠la→s.heap.get? b=some o→(s.heap.update la (Obj.mapSeq fun xs=>xs.eraseIdxIfInBounds kk.toNat)).get? b=some o:=fun b o hb e=>(Heap.get?_update_ne _ _ _ _ hb).trans e
      have xa:X la:=M.mem la (List.mem_of_getElem? hla)
      have mv:Move s.heap (s.heap.update la (Obj.mapSeq fun xs=>xs.eraseIdxIfInBounds kk.toNat)) X X:=fun b o n e=>⟨kb b o (fun q=>n (q ▸ xa)) e,n⟩
      exact hQ _ kb (M.put hla kb ⟨vs.eraseIdx kk.toNat,⟨_,hu⟩,(rv.eraseIdx _).move mv⟩ rfl) (RepV.move mv rw')
  · rw [if_pos (by rw [(Bool.not_eq_true _).mp hf]; rfl)] at hq
    exact nn hq
theorem es_pop {x:Str} {xp ap pos:Pos} {i:Nat} {a:Expr} {ma:ME} (hx:varOf c x=some i) (hl:(ap.endLine == pos.line)=true) (hs:isStar a=false) (ha:ESound g mg mb c a ma) :
    ESound g mg mb c (.Call (.Attribute (.Name x xp) "pop" ap) [a] [] pos) (.pop i ma):=by
  intro T n h₀ A env X ρ ve σ s aok B TT S m σ' e Q E hQ
  refine Res.onC e fun j hj e=>Res.onC e fun ys hys e=>Res.bindC e fun x1 σ1 h1 e=>Res.bindC h1 fun m1 σ2 h1 h2=>?_
  obtain ⟨h2,rfl⟩:=Res.of_inv h2
  refine Res.onC e fun q hq e=>obC hq fun kk hkk hq=>obC hq fun xs hxs hq=>?_
  obtain ⟨rfl,rfl⟩:=Res.ok_inv e
  obtain ⟨mv,hj0,hj1⟩:=ob_inv hj
  have hj0:ve[i]?=some (.mu j):=MV.mu?_inv hj1 ▸ hj0
  obtain ⟨c0,hc0,hc1⟩:=ob_inv hys
  have hc0:σ[j]?=some (.list ys):=AV.list?_inv hc1 ▸ hc0
  obtain ⟨c2,hc2,hc3⟩:=ob_inv hxs
  have hc2:σ1[j]?=some (.list xs):=AV.list?_inv hc3 ▸ hc2
  refine MCall rfl hl (form1 hs) (wpAny_Name (load_var S hx hj0 nofun fun v r=>?_) (varOf_inv hx).2.1)
  obtain ⟨la,hla,rfl⟩:=r
  intro pl
  refine pop_meth (xs:=ys) (.inr ⟨la,rfl,(S.muts.at_ j _ la hc0 hla).1⟩) ?_
  refine callWith_method1 (args_cons (ha T n h₀ A env X ρ ve σ s aok B TT S _ _ h1 _ _ fun v h' tk k M R _=>args_nil ?_) (starEach_plain hs _ _)) (starEach_plain hs _ _) any0
  obtain ⟨u,rfl⟩:=rv_int (AV.int?_inv hkk ▸ R.view M h2)
  exact pop_at (s:={ s with heap:=h',toks:=tk }) M hla hc2 hq fun h2 kb M2 _ r2=>hQ _ h2 _ (k.trans fun b o n e=>kb b o (fun q=>n (q ▸ List.mem_of_getElem? hla)) e) M2 r2 fun e=>nomatch e
end
section
variable {g:GG} {mg mb:Str→Option Value} {c:Ctx} {h₀:Heap} {A:Around} {env:Env} {X:Addr→Prop} {ρ:List Addr} {ve:List MV} {σ:List AV} {s:Shared}
theorem fn_names:∀ q∈fnTab,nameOfFn q.2=some q.1∨q=("TupleComp",Fn.mk) :=
  List.forall_mem_cons.mpr ⟨.inl rfl,List.forall_mem_cons.mpr ⟨.inl rfl,List.forall_mem_cons.mpr ⟨.inl rfl,List.forall_mem_cons.mpr ⟨.inl rfl,List.forall_mem_cons.mpr ⟨.inl rfl,List.forall_mem_cons.mpr ⟨.inl rfl,List.forall_mem_cons.mpr ⟨.inl rfl,List.forall_mem_cons.mpr ⟨.inl rfl,
  List.forall_mem_cons.mpr ⟨.inl rfl,List.forall_mem_cons.mpr ⟨.inl rfl,List.forall_mem_cons.mpr ⟨.inl rfl,List.forall_mem_cons.mpr ⟨.inl rfl,List.forall_mem_cons.mpr ⟨.inl rfl,List.forall_mem_cons.mpr ⟨.inl rfl,List.forall_mem_cons.mpr ⟨.inl rfl,List.forall_mem_cons.mpr ⟨.inl rfl,
  List.forall_mem_cons.mpr ⟨.inr rfl,fun _ h=>nomatch h⟩⟩⟩⟩⟩⟩⟩⟩⟩⟩⟩⟩⟩⟩⟩⟩⟩
theorem AOk.same {n:Nat} {A:Around} (a:AOk n A):AOk n A:=a
theorem es_call {f:Str} {fp pos:Pos} {a:Expr} {as:List Expr} {mes:MEs} {q:Fn} (hf:isGlob c f=true) (hq:fnOf f=some q) (hs:isStar a=false) (hp:∀ (pos:Pos) (env:Env),(backTo pos (starEach as env)).any (·.1)=false) (hl:LSound g mg mb c (a::as) mes)
    (hnf:isFresh (.Call (.Name f fp) (a::as) [] pos)=false):ESound g mg mb c (.Call (.Name f fp) (a::as) [] pos) (.call q mes):=by
  intro T n h₀ A env X ρ ve σ s aok B TT S m σ' e Q E hQ
  refine Res.bindC e fun xs σ1 h1 e1=>?_
  obtain ⟨e2,rfl⟩:=Res.of_inv e1
  refine omC e2 fun r hr em=>?_
  obtain ⟨nm,hm,rfl⟩:=tab_inv hq
  have LL:=hl T n h₀ A env X ρ ve σ s pos aok B TT S _ _ h1
  refine Call_ ((fn_names (nm,q) hm).elim (fun h0=>?_) fun h0=>?_)
  · obtain ⟨fa,g1,⟨o,fd,ho,hd⟩,cp⟩:=TT.fn q nm xs r h0 hr
    refine name_glob S B hf g1 (callWith_def hd (LL _ _ fun vs h' tk k M R=>?_) (starEach_plain hs _ _))
    have S1:=S.move k M
    exact ⟨S1.keep _ _ ho,prim_end S1 k (cp A { s with heap:=h',toks:=tk } X vs aok S1.keep S1.size S1.alive S1.xnew R) hnf (em ▸ hQ)⟩
  · obtain ⟨e1,e2⟩:=Prod.mk.inj h0
    have hr':T.fn .mk xs=some r:=e2 ▸ hr
    refine name_glob S B hf (e1 ▸ B.cls) (callWith_K (K:=g.K) B.kin B.clsK.keep (LL _ _ fun vs h' tk k M R=>?_) (starEach_plain hs _ _) (hp _ _))
    have S1:=S.move k M
    exact ⟨fun b o e=>S1.keep b o (B.kin b o e),prim_end S1 k (TT.inst xs r hr' A { s with heap:=h',toks:=tk } X vs aok S1.keep S1.size S1.alive S1.xnew R) hnf (em ▸ hQ)⟩
theorem es_compare {o a b:Expr} {ap pos:Pos} {mo ma mb':ME} (hb:plainBase o=true) (hl:(ap.endLine == pos.line)=true) (hs:isStar a=false) (hs':isStar b=false)
    (ho:ESound g mg mb c o mo) (hl2:LSound g mg mb c [a,b] (.cons ma (.cons mb' .nil))) :
    ESound g mg mb c (.Call (.Attribute o "compare" ap) [a,b] [] pos) (.call .compare (.cons mo (.cons ma (.cons mb' .nil)))):=by
  intro T n h₀ A env X ρ ve σ s aok B TT S m σ' e Q E hQ
  refine Res.bindC e fun zs σ1 h1 e1=>?_
  obtain ⟨e2,rfl⟩:=Res.of_inv e1
  refine omC e2 fun r hr em=>Res.bvalC h1 fun x σ0 h0 h2=>Res.bindC h2 fun xs σ2 h3 h4=>?_
  obtain ⟨rfl,rfl⟩:=Res.ok_inv h4
  obtain ⟨⟨ys,rest,ex⟩,⟨of,fd,hof,hd⟩,cp⟩:=TT.cmp (x::xs) r hr
  refine MCall hb hl (form2 hs hs') (ho T n h₀ A env X ρ ve σ s aok B TT S _ _ h0 _ _ fun v h' tk k M R _=>?_)
  have S1:=S.move k M
  intro pl
  have ex:=(List.cons.inj ex).1
  have R:RepV g h' X x v:=R
  obtain ⟨xa,dx,es,nn,l,hv,I,g1,g2,xl,vs,pl',r'⟩:=inst_at (ex ▸ RepV.view R)
  subst hv
  have KX:g.K.In h':=fun b o e=>S1.keep b o (B.kin b o e)
  refine method_fn (s:={ s with heap:=h',toks:=tk }) KX I B.clsK.hga B.clsK.hk B.clsK.cmp B.clsK.cmpT (by show Option.map _ (lookIn _ (dictOf es nn))=_; rw [lookIn_dict,g2]; rfl) ?_
  refine callWith_function (o:=of) (fd:=fd) ?_
  rw [starEach_plain hs]
  refine evalArgs_plain ?_
  have:=hl2 T n h₀ A env X ρ ve σ0 { s with heap:=h',toks:=tk } pos aok B TT S1 _ _ h3
  rw [starEach_plain hs] at this
  refine this _ _ fun ws h'' tk' k' M' R'=>?_
  have S2:=S1.move k' M'
  exact ⟨⟨S2.keep _ _ hof,hd⟩,prim_end S2 (k.trans k') (cp A { s with heap:=h'',toks:=tk' } X (.ref xa::ws) aok S2.keep S2.size S2.alive S2.xnew ⟨_,_,rfl,RepV.move (k'.move S1.muts.mem) R,R'⟩) rfl (em ▸ hQ)⟩
theorem next_ok {it:Addr} {b:List UInt8} {t:Tok} {i:Nat} {x:UInt8} {Q:Value→Shared→Prop} {E:Value→Shared→Prop} (hit:KBw.IsBytesIter s.heap it b.toArray t i) (hx:b[i]?=some x)
    (hQ:∀ h',KBw.IsBytesIter h' it b.toArray t (i+1)→Heap.SameBut it s.heap h'→Q (.int (x.toNat:Int) s.toks) { s with heap:=h',toks:=s.toks+1 }):wpAny (model g.prog g.w) A (call (.builtin "next") [.ref it]) Q E s:=by
  obtain ⟨o,ho,hc,hd⟩:=id hit
  refine call_function_entry (by decide +kernel) (by decide +kernel) kdk_entry_next (kdk_args_next _) ?_
  unfold Builtin.«next»
  refine wpAny_bind (m:=someArgs "next" 1 2 _) (wpAny_of_eq (a:=[Value.ref it]) (by first | rfl | kernel_rfl!) ?_)
  dsimp only
  refine wpAny_bind (wpAny_specialOf (name:=Str.ofString "__next__") (KBw.iter_typeIs hit) KBw.slot_next.lookup ?_)
  refine wpAny_ite_split (fun hab=>absurd hab (by decide)) (fun _=>?_)
  refine wpAny_bind (wpAny_callSpecial?_slot (name:=PySem.Str.ofString "__next__") (KBw.iter_typeIs hit) KBw.slot_next
    (wpAny_call_entry KBw.slot_next (KBw.iter_typeIs hit) KBw.entry_next ?_ (KBw.args_next _)))
  show wpAny _ _ (field (.ref it) 0 >>= _) _ _ s
  refine wpAny_bind (wpAny_field ho hd (x:=.bytes b.toArray t) rfl ?_)
  show wpAny _ _ (if (Value.bytes b.toArray t == Value.none)=true then _ else _) _ _ s
  rw [if_neg (show ¬ ((Value.bytes b.toArray t == Value.none)=true) from Bool.false_ne_true)]
  show wpAny _ _ (field (.ref it) 1 >>= _) _ _ s
  refine wpAny_bind (wpAny_field ho hd (x:=.int i 0) rfl ?_)
  refine wpAny_bind (wpAny_of_eq (a:=b.toArray) rfl ?_)
  have hx':b.toArray[i]?=some x:=by simpa using hx
  simp only [Int.toNat_natCast,hx']
  refine wpAny_bind (wpAny_setField ho hd (by simp) (wpAny_bind (wpAny_mkInt (wpAny_pure ⟨_,rfl,wpAny_pure ⟨_,rfl,hQ _ ?_ (Heap.SameBut.update ..)⟩⟩))))
  exact ⟨_,Heap.get?_update_self _ ho (Obj.isFreed_of_fields (Obj.data_mapFields hd _)),(Obj.cls_mapFields ..).trans hc,by
    rw [Obj.data_mapFields hd]; simp [rawInt]⟩
theorem iter_put {h h':Heap} {j:Nat} {la:Addr} {b:List UInt8} {p p':Nat} (M:Muts g h X ρ σ) (hla:ρ[j]?=some la) (k:Ext (·=la) h h') (hi:∃ u,KBw.IsBytesIter h' la b.toArray u p'):Muts g h' X ρ (σ.set j (.biter b p'))∧Ext (·∈ρ) h h':=by
  refine ⟨M.put hla (fun b o n e=>k b o n e) ?_ rfl,fun b o n e=>k b o (fun q=>n (q ▸ List.mem_of_getElem? hla)) e⟩
  exact .inl hi
theorem mu_at {i j:Nat} (e:muAt ve i=some j):ve[i]?=some (.mu j):=obC e fun _ h e=>MV.mu?_inv e ▸ h
theorem list_at {j:Nat} {xs:List AV} (e:listAt σ j=some xs):σ[j]?=some (.list xs):=obC e fun _ h e=>AV.list?_inv e ▸ h
theorem biter_at {j:Nat} {q:List UInt8 × Nat} (e:biterAt σ j=some q):σ[j]?=some (.biter q.1 q.2):=obC e fun _ h e=>AV.biter?_inv e ▸ h
theorem iter_at {j:Nat} {la:Addr} {q:List UInt8 × Nat} {h:Heap} (M:Muts g h X ρ σ) (e:biterAt σ j=some q) (hla:ρ[j]?=some la) (hq:q.2≤q.1.length):∃ t,KBw.IsBytesIter h la q.1.toArray t q.2 :=
  ((M.at_ j _ la (biter_at e) hla).1:(∃ t,KBw.IsBytesIter h la q.1.toArray t q.2)∨(q.1.length < q.2∧∃ o,h.get? la=some o)).resolve_right fun w=>Nat.not_lt.mpr hq w.1
theorem es_next {x:Str} {fp xp pos:Pos} {i:Nat} (hf:isGlob c "next"=true) (hx:varOf c x=some i):ESound g mg mb c (.Call (.Name "next" fp) [.Name x xp] [] pos) (.next i):=by
  intro T n h₀ A env X ρ ve σ s aok B TT S m σ' e Q E hQ
  refine Res.onC e fun j hj e=>Res.onC e fun q hb e=>?_
  have h:bltTab[9]?=some ("next",.builtin "next"):=rfl
  cases hy:q.1[q.2]? with
  | none =>
    unfold nextR at e
    rw [hy] at e
    exact (Decidable.em (q.2≤q.1.length)).elim (fun h=>Res.stop_ok ((if_pos h).symm.trans e)) fun h=>Res.no_ok ((if_neg h).symm.trans e)
  | some y =>
    unfold nextR at e
    rw [hy] at e
    obtain ⟨e1,rfl⟩:=Res.ok_inv e
    refine Call_ (name_blt S B hf (B.bltAt h).1 (B.bltAt h).2 (cw_builtin rfl any0 (args_cons (wpAny_Name (load_var S hx (mu_at hj) nofun fun v r=>args_nil ?_) (varOf_inv hx).2.1) (starEach_plain rfl _ _))))
    obtain ⟨la,hla,rfl⟩:=r
    obtain ⟨t,hit⟩:=iter_at S.muts hb hla (Nat.le_of_lt (List.getElem?_eq_some_iff.mp hy).1)
    refine next_ok hit hy fun h' hit' hs=>?_
    obtain ⟨M',k'⟩:=iter_put (p:=q.2) S.muts hla (fun b o n e=>hs.extBut b o n e) ⟨t,hit'⟩
    exact hQ _ h' _ k' M' (e1 ▸ rp_int) fun e=>nomatch e
theorem es_pvar {x:Str} {fp xp pos:Pos} {i:Nat} (hf:isGlob c "_parse_varint"=true) (hx:varOf c x=some i):ESound g mg mb c (.Call (.Name "_parse_varint" fp) [.Name x xp] [] pos) (.pvar i):=by
  intro T n h₀ A env X ρ ve σ s aok B TT S m σ' e Q E hQ
  refine Res.onC e fun j hj e=>Res.onC e fun q hb e=>Res.itepC e fun hpl e=>Res.onC e fun r hy e=>?_
  obtain ⟨v,p'⟩:=r
  cases v with
  | none=>exact Res.stop_ok e
  | some v =>
    obtain ⟨e1,rfl⟩:=Res.ok_inv e
    obtain ⟨fa,g1,⟨o,fd,ho,hd⟩,cp⟩:=TT.pv q.1 q.2 v p' hy
    refine Call_ (name_glob S B hf g1 (callWith_def hd (args_cons (wpAny_Name (load_var S hx (mu_at hj) nofun fun w r=>args_nil ?_) (varOf_inv hx).2.1) (starEach_plain rfl _ _)) (starEach_plain rfl _ _)))
    refine ⟨S.keep _ _ ho,?_⟩
    obtain ⟨la,hla,rfl⟩:=r
    obtain ⟨t,hit⟩:=iter_at S.muts hb hla hpl
    refine cp A s la t aok S.keep S.size (S.xnew _ (S.muts.mem _ (List.mem_of_getElem? hla))) hit _ _ fun w h' tk k hit'=>?_
    obtain ⟨M',k'⟩:=iter_put (p:=q.2) S.muts hla k hit'
    exact hQ _ h' _ k' M' (e1 ▸ rp_int) fun e=>nomatch e
end
noncomputable def Over (X X':Addr→Prop) (h:Heap):Prop:=(∀ b,X b→X' b)∧∀ b,X' b→X b∨h.get? b=none
theorem Over.move {X X':Addr→Prop} {h h':Heap} (o:Over X X' h) (k:Grow h h'):Move h h' X X':=fun b ob n e=>⟨k b ob e,fun x=>(o.2 b x).elim n fun q=>by rw [e] at q; cases q⟩
structure Walk (g:GG) (A:Around) (X:Addr→Prop) (h₁:Heap) (I:Addr) (xs:List AV) (fp:List Addr) (P:Nat→Value→Prop) (St:Nat→Heap→Prop) (Inv:(Addr→Prop)→Heap→Prop):Prop where
  W:Walks g.prog g.w A I fp [I] xs.length P St
  new:h₁.get? I=none
  look:∀ i h,St i h→∃ o T,h.get? I=some o∧o.cls=.type T∧["enumerate","zip","dict_itemiterator","dict_reverseitemiterator","odict_iterator","itertools.zip_longest","itertools.pairwise"].contains T=false
  fpx:∀ b∈fp,b=I∨(¬ X b∧∃ o,h₁.get? b=some o)
  rep:∀ i v x X' h,P i v→xs[i]?=some x→Inv X' h→RepV g h X' x v
  inv:∀ X' X'' h h',Inv X' h→Move h h' X' X''→Inv X'' h'
  start:∀ X' h,Over X X' h₁→Grow h₁ h→Inv X' h
theorem Walk.live {g:GG} {A:Around} {X:Addr→Prop} {h₁:Heap} {I:Addr} {xs:List AV} {fp:List Addr} {P:Nat→Value→Prop} {St:Nat→Heap→Prop} {Inv:(Addr→Prop)→Heap→Prop} (W:Walk g A X h₁ I xs fp P St Inv) (i:Nat) (h:Heap) (st:St i h):∃ o,h.get? I=some o :=
  let ⟨o,_,e,_⟩:=W.look i h st; ⟨o,e⟩
section
variable {g:GG} {A:Around} {X:Addr→Prop} {s:Shared}
theorem two_fp {a:Addr} {o:Obj} (ho:s.heap.get? a=some o) (xa:¬ X a):∀ b∈[s.heap.objs.size,a],b=s.heap.objs.size∨(¬ X b∧∃ o,s.heap.get? b=some o) :=
  List.forall_mem_cons.mpr ⟨.inl rfl,List.forall_mem_cons.mpr ⟨.inr ⟨xa,o,ho⟩,fun _ h=>nomatch h⟩⟩
theorem one_fp:∀ b∈[s.heap.objs.size],b=s.heap.objs.size∨(¬ X b∧∃ o,s.heap.get? b=some o):=List.forall_mem_cons.mpr ⟨.inl rfl,fun _ h=>nomatch h⟩
theorem rep_at {X':Addr→Prop} {h:Heap} {xs:List AV} {vs:List Value} {i:Nat} {v:Value} {x:AV} (hp:vs.toArray[i]?=some v) (hx:xs[i]?=some x) (hi:RepVs g h X' xs vs):RepV g h X' x v:=by
  obtain ⟨w,hw,r⟩:=RepVs.get hi hx
  rw [List.getElem?_toArray,hw] at hp
  exact Option.some.inj hp ▸ r
section
variable {xs:List AV} {v:Value} {Q:Value→Shared→Prop} {E:Value→Shared→Prop}
    (hQ:∀ (I:Addr) (h':Heap) (fp:List Addr) (P:Nat→Value→Prop) (St:Nat→Heap→Prop) (Inv:(Addr→Prop)→Heap→Prop),Walk g A X s.heap I xs fp P St Inv→Grow s.heap h'→(∃ o,h'.get? I=some o)→St 0 h'→Q (.ref I) { s with heap:=h' })
include hQ
theorem iter_list (hh:A.handled=none) (r:RepV g s.heap X (.list xs) v):wpAny (model g.prog g.w) A (pyIter v) Q E s:=by
  refine r.elim (fun q=>False.elim q) fun q=>?_
  obtain ⟨a,q,xa,vs,pl,rv⟩:=q
  subst q
  obtain ⟨o,ho,hc,hd⟩:=plain_isList pl
  have W:=Walks.list (prog:=g.prog) (w:=g.w) (A:=A) hh s.heap.objs.size a (Nat.ne_of_lt (Heap.lt_size ho)) vs.toArray
  rw [show vs.toArray.size=xs.length by rw [List.size_toArray,rv.length]] at W
  exact wpAny_pyIter_list (plain_isList pl) (hQ _ _ _ _ _ (fun X' h=>RepVs g h X' xs vs) ⟨W,get?_size _,fun i h st=>(let ⟨o,ho,hc,_⟩:=st.1; ⟨o,_,ho,hc,by decide⟩),two_fp ho xa,fun i v x X' h hp hx hi=>rep_at hp hx hi,fun X' X'' h h' r mv=>RepVs.move mv r,fun X' h o k=>rv.move (o.move k)⟩ (Grow.push _ _) ⟨_,Heap.get?_push_size _ rfl⟩ ⟨⟨_,Heap.get?_push_size _ rfl,rfl,rfl⟩,(plain_isList pl).push _⟩)
theorem iter_tup (hh:A.handled=none) (r:RepV g s.heap X (.tup xs) v):wpAny (model g.prog g.w) A (pyIter v) Q E s:=by
  refine r.elim (fun q=>False.elim q) fun q=>?_
  obtain ⟨a,q,xa,vs,pl,rv⟩:=q
  subst q
  obtain ⟨o,ho,hc,hd⟩:=id pl
  have W:=Walks.tuple (prog:=g.prog) (w:=g.w) (A:=A) hh s.heap.objs.size a (Nat.ne_of_lt (Heap.lt_size ho)) vs.toArray
  rw [show vs.toArray.size=xs.length by rw [List.size_toArray,rv.length]] at W
  exact wpAny_pyIter_tuple pl (hQ _ _ _ _ _ (fun X' h=>RepVs g h X' xs vs) ⟨W,get?_size _,fun i h st=>(let ⟨o,ho,hc,_⟩:=st.1; ⟨o,_,ho,hc,by decide⟩),two_fp ho xa,fun i v x X' h hp hx hi=>rep_at hp hx hi,fun X' X'' h h' r mv=>RepVs.move mv r,fun X' h o k=>rv.move (o.move k)⟩ (Grow.push _ _) ⟨_,Heap.get?_push_size _ rfl⟩ ⟨⟨_,Heap.get?_push_size _ rfl,rfl,rfl⟩,pl.push _⟩)
end
theorem upTo_at {a b:Int} {i:Nat} {x:AV} (h:(upTo a b)[i]?=some x):x=.int (a+i):=by
  unfold upTo at h
  rw [List.getElem?_map] at h
  refine omC h fun k hk h=>?_
  rw [← h,← (List.getElem?_eq_some_iff.mp hk).2,List.getElem_range]
theorem upTo_len (a b:Int):(upTo a b).length=(b - a).toNat:=by rw [upTo,List.length_map,List.length_range]
theorem iter_range (hh:A.handled=none) {a b:Int} {v:Value} (hs:(small a && small b)=true) (r:RepV g s.heap X (.range a b) v) {Q:Value→Shared→Prop} {E:Value→Shared→Prop}
    (hQ:∀ (I:Addr) (h':Heap) (fp:List Addr) (P:Nat→Value→Prop) (St:Nat→Heap→Prop) (Inv:(Addr→Prop)→Heap→Prop),Walk g A X s.heap I (upTo a b) fp P St Inv→Grow s.heap h'→(∃ o,h'.get? I=some o)→St 0 h'→Q (.ref I) { s with heap:=h' }):wpAny (model g.prog g.w) A (pyIter v) Q E s:=by
  refine r.elim (fun q=>False.elim q) fun q=>?_
  obtain ⟨r,q,xa,t,u,v',hr⟩:=q
  subst q
  have W:=Walks.range (prog:=g.prog) (w:=g.w) (A:=A) hh s.heap.objs.size a 1 (b - a).toNat
  have hl:=upTo_len a b
  rw [← hl] at W
  refine wpAny_pyIter_range hr (rangeSmall (and_of hs).1 (and_of hs).2) (hQ _ _ _ _ _ (fun X' h=>True) ⟨W,get?_size _,fun i h st=>⟨_,_,st,rfl,by decide⟩,one_fp,fun i v x X' h hp hx _=>hp.elim fun t e=>.inl ?_,fun X' X'' h h' r mv=>trivial,fun X' h o k=>trivial⟩ (Grow.push _ _) ⟨_,Heap.get?_push_size _ rfl⟩ ?_)
  · rw [upTo_at hx,e,Int.mul_one]
    exact ⟨t,rfl⟩
  · show IsRangeIter _ _ _ _ _
    rw [rangeSize_nat,hl]
    have:=Heap.get?_push_size s.heap (o:={ cls:=.type "range_iterator",data:=.fields #[rawInt a,rawInt ((b - a).toNat:Int),rawInt 1] }) rfl
    simpa [IsRangeIter] using this
theorem iter_keys (hh:A.handled=none) {ks:List Int} {ws:List AV} {v:Value} (r:RepV g s.heap X (.dictI ks ws) v) {Q:Value→Shared→Prop} {E:Value→Shared→Prop}
    (hQ:∀ (I:Addr) (h':Heap) (fp:List Addr) (P:Nat→Value→Prop) (St:Nat→Heap→Prop) (Inv:(Addr→Prop)→Heap→Prop),Walk g A X s.heap I (ks.map AV.int) fp P St Inv→Grow s.heap h'→(∃ o,h'.get? I=some o)→St 0 h'→Q (.ref I) { s with heap:=h' }):wpAny (model g.prog g.w) A (pyIter v) Q E s:=by
  refine r.elim (fun q=>False.elim q) fun q=>?_
  obtain ⟨a,q,xa,kvs,ep,lo,da,ek,rv⟩:=q
  subst q; subst ek
  obtain ⟨o,es,ho,_⟩:=id da
  have W:=Walks.dictKeys (prog:=g.prog) (w:=g.w) (A:=A) (knd:=intKind g.prog g.w) hh s.heap.objs.size a (Nat.ne_of_lt (Heap.lt_size ho)) kvs ep
  rw [show kvs.length=((kvs.map (·.1)).map AV.int).length by rw [List.length_map,List.length_map]] at W
  refine wpAny_pyIter_dict lo da (hQ _ _ _ _ _ (fun X' h=>True) ⟨W,get?_size _,fun i h st=>(let ⟨o,ho,hc,_⟩:=st.1; ⟨o,_,ho,hc,by decide⟩),two_fp ho xa,fun i v x X' h hp hx _=>?_,fun X' X'' h h' r mv=>trivial,fun X' h o k=>trivial⟩ (Grow.push _ _) ⟨_,Heap.get?_push_size _ rfl⟩ ⟨⟨_,Heap.get?_push_size _ rfl,rfl,by simp⟩,da.push _⟩)
  obtain ⟨k,y,hk,hv⟩:=hp
  rw [List.getElem?_map,List.getElem?_map,hk] at hx
  rw [← Option.some.inj hx]
  exact .inl (Value.isInt_shape (by simpa [intKind] using hv))
theorem iter_vals (hh:A.handled=none) {ks:List Str} {xs:List AV} {v:Value} (r:RepV g s.heap X (.vals (.dictS ks xs)) v) {Q:Value→Shared→Prop} {E:Value→Shared→Prop}
    (hQ:∀ (I:Addr) (h':Heap) (fp:List Addr) (P:Nat→Value→Prop) (St:Nat→Heap→Prop) (Inv:(Addr→Prop)→Heap→Prop),Walk g A X s.heap I xs fp P St Inv→Grow s.heap h'→(∃ o,h'.get? I=some o)→St 0 h'→Q (.ref I) { s with heap:=h' }):wpAny (model g.prog g.w) A (pyIter v) Q E s:=by
  refine r.elim (fun q=>False.elim q) fun q=>?_
  obtain ⟨a,q,xa,d,hv,xd,kvs,ep,lo,da,ek,rv⟩:=q
  subst q
  obtain ⟨o,es,ho,_⟩:=id da
  have W:=Walks.dictValues (prog:=g.prog) (w:=g.w) (A:=A) (knd:=PySem.strKind g.prog g.w) hh s.heap.objs.size d (Nat.ne_of_lt (Heap.lt_size ho)) kvs ep
  have hl:=rv.length
  rw [List.length_map] at hl
  rw [hl] at W
  refine wpAny_pyIter_values hv da (hQ _ _ _ _ _ (fun X' h=>RepVs g h X' xs (kvs.map (·.2))) ⟨W,get?_size _,fun i h st=>(let ⟨o,ho,hc,_⟩:=st.1; ⟨o,_,ho,hc,by decide⟩),two_fp ho xd,fun i v x X' h hp hx hi=>?_,fun X' X'' h h' r mv=>RepVs.move mv r,fun X' h o k=>rv.move (o.move k)⟩ (Grow.push _ _) ⟨_,Heap.get?_push_size _ rfl⟩ ⟨⟨_,Heap.get?_push_size _ rfl,rfl,by simp [← hl]⟩,da.push _⟩)
  obtain ⟨k,hk⟩:=hp
  obtain ⟨w,hw,r⟩:=RepVs.get hi hx
  rw [List.getElem?_map,hk] at hw
  have q:v=w:=Option.some.inj hw
  exact q ▸ r
theorem iterW (hh:A.handled=none) {x:AV} {xs:List AV} {v:Value} (al:Alive X s.heap) (e:elems x=some xs) (hi:(∀ d,x≠.items d)) (f:fits xs.length=true) (r:RepV g s.heap X x v)
    {Q:Value→Shared→Prop} {E:Value→Shared→Prop}
    (hQ:∀ (I:Addr) (h':Heap) (fp:List Addr) (P:Nat→Value→Prop) (St:Nat→Heap→Prop) (Inv:(Addr→Prop)→Heap→Prop),Walk g A X s.heap I xs fp P St Inv→Grow s.heap h'→(∃ o,h'.get? I=some o)→St 0 h'→Q (.ref I) { s with heap:=h' }) :
    wpAny (model g.prog g.w) A (pyIter v) Q E s :=
  orC e (fun e=>iter_list hQ hh (AV.list?_inv e ▸ r)) fun e=>orC e (fun e=>iter_tup hQ hh (AV.tup?_inv e ▸ r)) fun e=>orC e (fun e=>obC e fun p hp e=>by
      obtain ⟨hs,rfl⟩:=grd_inv e
      exact iter_range hh hs (AV.rng?_inv hp ▸ r) hQ) fun e =>
  orC e (fun e=>obC e fun p hp e=>by
      cases Option.some.inj e
      exact iter_keys hh (AV.dI?_inv hp ▸ r) hQ) fun e=>orC e (fun e=>obC e fun d hd _=>absurd (AV.items?_inv hd) (hi d)) fun e=>obC e fun d hd e=>obC e fun p hp e=>by
    cases Option.some.inj e
    exact iter_vals hh (AV.dS?_inv hp ▸ AV.vals?_inv hd ▸ r) hQ
end
noncomputable def Own (env:Env) (ρ:List Addr) (b:Addr):Prop:=b=env.locals∨(∃ n,env.cells.lookup n=some b)∨b∈ρ
theorem Ext.mono {O O':Addr→Prop} {h h':Heap} (k:Ext O h h') (m:∀ b,O b→O' b):Ext O' h h':=fun b o n e=>k b o (fun q=>n (m b q)) e
section
variable {g:GG} {mg mb:Str→Option Value} {c:Ctx} {h₀:Heap} {A:Around} {env:Env} {X:Addr→Prop} {ρ:List Addr} {ve:List MV} {σ:List AV} {s:Shared}
theorem RepM.muts {h:Heap} {mv:MV} {v:Value} (M:Muts g h X ρ σ) (r:RepM g h X ρ mv v):True:=trivial
theorem store_var {x:Str} {i:Nat} {mv:MV} {v:Value} (S:Stt g h₀ c env X ρ ve σ s.heap) (e:varOf c x=some i) (r:RepM g s.heap X ρ mv v) {Q:Unit→Shared→Prop} {E:Value→Shared→Prop}
    (hQ:∀ h' tk,Stt g h₀ c env X ρ (ve.set i mv) σ h'→Ext (fun b=>b=env.locals∨env.cells.lookup x=some b) s.heap h'→Q () { s with heap:=h',toks:=tk }):wpAny (model g.prog g.w) A (storeName env x v) Q E s:=by
  obtain ⟨k,_,k2,sl⟩:=varOf_inv e
  have O:=S.envOk
  have V:=S.vars
  have M:=S.muts
  have fin:∀ (w:Addr) (h':Heap),X w→w ∉ ρ→(∀ b o,b≠w→s.heap.get? b=some o→h'.get? b=some o)→(∃ o,h'.get? w=some o)→Vars g c env h' X ρ (ve.set i mv)→Stt g h₀ c env X ρ (ve.set i mv) σ h':=by
    intro w h' xw wρ kb aw V'
    have mvv:Move s.heap h' X X:=fun b o n e=>⟨kb b o (fun q=>n (q ▸ xw)) e,n⟩
    refine ⟨fun b o e=>kb b o (fun q=>?_) (S.keep b o e),S.xnew,fun b x=>?_,O,V',⟨M.len,fun i c a e1 e2=>⟨RepC.move mvv (M.at_ i c a e1 e2).1 fun o e=>kb a o (fun q=>wρ (q ▸ List.mem_of_getElem? e2)) e,(M.at_ i c a e1 e2).2⟩,M.mem,M.nodup⟩⟩
    · subst q
      rw [S.xnew _ xw] at e; cases e
    · by_cases q:b=w
      · subst q; exact aw
      · obtain ⟨o,e⟩:=S.alive b x
        exact ⟨o,kb b o q e⟩
  have setv:∀ {n':Str} {i':Nat} {m':MV},n'≠x→c.slots.lookup n'=some i'→(ve.set i mv)[i']?=some m'→ve[i']?=some m':=by
    intro n' i' m' hn h1 h2
    rw [List.getElem?_set_ne] at h2
    · exact h2
    · intro q; subst q
      exact hn (O.inj _ _ _ h1 sl)
  have seti:∀ {m':MV},(ve.set i mv)[i]?=some m'→m'=mv:=by
    intro m' h
    have hi:i < ve.length:=by rw [V.len]; exact O.slot x i sl
    rw [List.getElem?_set_self hi] at h
    exact (Option.some.inj h).symm
  have cellCase:c.names.lookup x=some .cell∨c.names.lookup x=some .free→(env.kindOf x=some .cell∨env.kindOf x=some .free)→wpAny (model g.prog g.w) A (storeName env x v) Q E s:=by
    intro hk hk'
    obtain ⟨a,vo,e1,hc,hm⟩:=V.cell x i sl hk
    obtain ⟨xa,aρ,aL⟩:=O.cells x a e1
    have st:∀ h',h'.IsCell a (some v)→Heap.SameBut a s.heap h'→Q () { s with heap:=h',toks:=s.toks }:=by
      intro h' hc' hs
      have kb:∀ b o,b≠a→s.heap.get? b=some o→h'.get? b=some o:=fun b o n e=>hs.extBut b o n e
      have mvv:Move s.heap h' X X:=fun b o n e=>⟨kb b o (fun q=>n (q ▸ xa)) e,n⟩
      refine hQ h' s.toks (fin a h' xa aρ kb (let ⟨o,ho,_⟩:=hc'; ⟨o,ho⟩) ⟨?_,fun n' i' h1 h2=>?_,by rw [List.length_set]; exact V.len⟩) fun b o n e=>kb b o (fun q=>n (.inr (q ▸ e1))) e
      · obtain ⟨m,hn,hmm⟩:=V.ns
        refine ⟨m,hn.sameBut hs (Ne.symm aL),fun n' i' m' h1 h2 h3 h4=>?_⟩
        have hne:n'≠x:=fun q=>by
          subst q
          rw [h4] at hk
          rcases hk with hk | hk <;> cases hk
        obtain ⟨v',hv',r'⟩:=hmm n' i' m' h1 (setv hne h1 h2) h3 h4
        exact ⟨v',hv',r'.move mvv⟩
      · by_cases hne:n'=x
        · subst hne
          rw [sl] at h1; cases h1
          refine ⟨a,some v,e1,hc',fun m' q1 q2=>⟨v,rfl,?_⟩⟩
          rw [seti q1]
          exact r.move mvv
        · obtain ⟨a',vo',e1',hc'',hm'⟩:=V.cell n' i' h1 h2
          have haa:a'≠a:=fun q=>hne (O.apart _ _ _ e1' (q ▸ e1))
          obtain ⟨o,ho,hd⟩:=hc''
          refine ⟨a',vo',e1',⟨o,kb a' o haa ho,hd⟩,fun m' q1 q2=>?_⟩
          obtain ⟨v',hv',r'⟩:=hm' m' (setv hne h1 q1) q2
          exact ⟨v',hv',r'.move mvv⟩
    rcases hk' with hk' | hk'
    · exact wpAny_storeName_cell O.kind hk' e1 hc st
    · unfold storeName
      simp only [hk',O.kind]
      exact wpAny_bind (wpAny_cellOf e1 (wpAny_cellSet hc st))
  rcases k with k | k | k
  · obtain ⟨m,hn,hmm⟩:=V.ns
    refine wpAny_storeName_local (O.kl x k) hn (fun h' hn' hs=>?_) (by rw [O.kind]; rfl)
    have kb:∀ b o,b≠env.locals→s.heap.get? b=some o→h'.get? b=some o:=fun b o n e=>hs.extBut b o n e
    have mvv:Move s.heap h' X X:=fun b o n e=>⟨kb b o (fun q=>n (q ▸ O.loc)) e,n⟩
    refine hQ h' _ (fin _ h' O.loc O.locρ kb (let ⟨o,_,_,ho,_⟩:=hn'; ⟨o,ho⟩) ⟨⟨_,hn',fun n' i' m' h1 h2 h3 h4=>?_⟩,fun n' i' h1 h2=>?_,by rw [List.length_set]; exact V.len⟩) fun b o n e=>kb b o (fun q=>n (.inl q)) e
    · by_cases hne:n'=x
      · subst hne
        rw [sl] at h1; cases h1
        rw [seti h2]
        exact ⟨v,by simp,r.move mvv⟩
      · obtain ⟨v',hv',r'⟩:=hmm n' i' m' h1 (setv hne h1 h2) h3 h4
        exact ⟨v',by simp [hne,hv'],r'.move mvv⟩
    · obtain ⟨a',vo',e1',hc'',hm'⟩:=V.cell n' i' h1 h2
      have hne:n'≠x:=fun q=>by
        subst q
        rw [k] at h2
        rcases h2 with h2 | h2 <;> cases h2
      obtain ⟨o,ho,hd⟩:=hc''
      refine ⟨a',vo',e1',⟨o,kb a' o (O.cells _ _ e1').2.2 ho,hd⟩,fun m' q1 q2=>?_⟩
      obtain ⟨v',hv',r'⟩:=hm' m' (setv hne h1 q1) q2
      exact ⟨v',hv',r'.move mvv⟩
  · exact cellCase (.inl k) (.inl (O.kc x k))
  · exact cellCase (.inr k) (O.kf x k)
end
section
variable {g:GG} {mg mb:Str→Option Value} {c:Ctx} {h₀:Heap} {A:Around} {env:Env} {X:Addr→Prop} {ρ:List Addr} {ve:List MV} {σ:List AV} {s:Shared}
theorem Stt.other {h h':Heap} (S:Stt g h₀ c env X ρ ve σ h) (W:Addr→Prop) (hW:∀ b,W b→X b∧b ∉ ρ∧b≠env.locals∧∀ n,env.cells.lookup n≠some b) (k:Ext W h h') (al:∀ b,W b→∃ o,h'.get? b=some o):Stt g h₀ c env X ρ ve σ h':=by
  have O:=S.envOk
  have V:=S.vars
  have M:=S.muts
  have mvv:Move h h' X X:=fun b o n e=>⟨k b o (fun q=>n (hW b q).1) e,n⟩
  refine ⟨fun b o e=>k b o (fun q=>?_) (S.keep b o e),S.xnew,fun b x=>?_,O,⟨?_,fun n i h1 h2=>?_,V.len⟩,⟨M.len,fun i c a e1 e2=>⟨RepC.move mvv (M.at_ i c a e1 e2).1 fun o e=>k a o (fun q=>(hW a q).2.1 (List.mem_of_getElem? e2)) e,(M.at_ i c a e1 e2).2⟩,M.mem,M.nodup⟩⟩
  · have:=S.xnew b (hW b q).1
    rw [this] at e; cases e
  · by_cases q:W b
    · exact al b q
    · obtain ⟨o,e⟩:=S.alive b x
      exact ⟨o,k b o q e⟩
  · obtain ⟨m,hn,hm⟩:=V.ns
    refine ⟨m,Heap.Ns.at' hn fun o e=>k _ _ (fun q=>(hW _ q).2.2.1 rfl) e,fun n i mv' h1 h2 h3 h4=>?_⟩
    obtain ⟨v,hv,r⟩:=hm n i mv' h1 h2 h3 h4
    exact ⟨v,hv,r.move mvv⟩
  · obtain ⟨a,vo,e1,⟨o,ho,hd⟩,e3⟩:=V.cell n i h1 h2
    refine ⟨a,vo,e1,⟨o,k _ _ (fun q=>(hW _ q).2.2.2 n e1) ho,hd⟩,fun mv' q1 q2=>?_⟩
    obtain ⟨v,hv,r⟩:=e3 mv' q1 q2
    exact ⟨v,hv,r.move mvv⟩
theorem Stt.leave {h h':Heap} {X':Addr→Prop} (S:Stt g h₀ c env X ρ ve σ h) (W:Addr→Prop) (hW:∀ b,W b→X b∧b ∉ ρ∧b≠env.locals∧∀ n,env.cells.lookup n≠some b) (k:Ext W h h')
    (sub:∀ b,X' b→X b) (loc:X' env.locals) (cel:∀ n a,env.cells.lookup n=some a→X' a) (mem:∀ a∈ρ,X' a) (al:∀ b,W b→X' b→∃ o,h'.get? b=some o):Stt g h₀ c env X' ρ ve σ h':=by
  have O:=S.envOk
  have V:=S.vars
  have M:=S.muts
  have mvv:Move h h' X X':=fun b o n e=>⟨k b o (fun q=>n (hW b q).1) e,fun q=>n (sub b q)⟩
  have rm:∀ {mv':MV} {v:Value},RepM g h X ρ mv' v→RepM g h' X' ρ mv' v:=fun {mv'} {v} r=>by
    cases mv' with
    | val x=>exact RepV.move mvv r
    | mu i=>exact r
    | unset=>exact r
  refine ⟨fun b o e=>k b o (fun q=>?_) (S.keep b o e),fun b x=>S.xnew b (sub b x),fun b x=>?_,⟨O.kind,O.glob,O.blt,loc,O.locρ,O.above,fun n a e=>⟨cel n a e,(O.cells n a e).2⟩,O.apart,O.kl,O.kc,O.kf,O.kg,O.slot,O.inj⟩,⟨?_,fun n i h1 h2=>?_,V.len⟩,⟨M.len,fun i c a e1 e2=>⟨RepC.move mvv (M.at_ i c a e1 e2).1 fun o e=>k a o (fun q=>(hW a q).2.1 (List.mem_of_getElem? e2)) e,(M.at_ i c a e1 e2).2⟩,mem,M.nodup⟩⟩
  · have:=S.xnew b (hW b q).1
    rw [this] at e; cases e
  · by_cases q:W b
    · exact al b q x
    · obtain ⟨o,e⟩:=S.alive b (sub b x)
      exact ⟨o,k b o q e⟩
  · obtain ⟨m,hn,hm⟩:=V.ns
    refine ⟨m,Heap.Ns.at' hn fun o e=>k _ _ (fun q=>(hW _ q).2.2.1 rfl) e,fun n i mv' h1 h2 h3 h4=>?_⟩
    obtain ⟨v,hv,r⟩:=hm n i mv' h1 h2 h3 h4
    exact ⟨v,hv,rm r⟩
  · obtain ⟨a,vo,e1,⟨o,ho,hd⟩,e3⟩:=V.cell n i h1 h2
    refine ⟨a,vo,e1,⟨o,k _ _ (fun q=>(hW _ q).2.2.2 n e1) ho,hd⟩,fun mv' q1 q2=>?_⟩
    obtain ⟨v,hv,r⟩:=e3 mv' q1 q2
    exact ⟨v,hv,rm r⟩
theorem Stt.weaken {h:Heap} {X':Addr→Prop} (S:Stt g h₀ c env X ρ ve σ h) (sub:∀ b,X' b→X b) (loc:X' env.locals) (cel:∀ n a,env.cells.lookup n=some a→X' a) (mem:∀ a∈ρ,X' a):Stt g h₀ c env X' ρ ve σ h:=by
  have O:=S.envOk
  have V:=S.vars
  have M:=S.muts
  have mvv:Move h h X X':=fun b o n e=>⟨e,fun q=>n (sub b q)⟩
  have rm:∀ {mv':MV} {v:Value},RepM g h X ρ mv' v→RepM g h X' ρ mv' v:=fun {mv'} {v} r=>by
    cases mv' with
    | val x=>exact RepV.move mvv r
    | mu i=>exact r
    | unset=>exact r
  refine ⟨S.keep,fun b x=>S.xnew b (sub b x),fun b x=>S.alive b (sub b x),⟨O.kind,O.glob,O.blt,loc,O.locρ,O.above,fun n a e=>⟨cel n a e,(O.cells n a e).2⟩,O.apart,O.kl,O.kc,O.kf,O.kg,O.slot,O.inj⟩,⟨?_,fun n i h1 h2=>?_,V.len⟩,⟨M.len,fun i c a e1 e2=>⟨RepC.move mvv (M.at_ i c a e1 e2).1 fun o e=>e,(M.at_ i c a e1 e2).2⟩,mem,M.nodup⟩⟩
  · obtain ⟨m,hn,hm⟩:=V.ns
    refine ⟨m,hn,fun n i mv' h1 h2 h3 h4=>?_⟩
    obtain ⟨v,hv,r⟩:=hm n i mv' h1 h2 h3 h4
    exact ⟨v,hv,rm r⟩
  · obtain ⟨a,vo,e1,hc,e3⟩:=V.cell n i h1 h2
    refine ⟨a,vo,e1,hc,fun mv' q1 q2=>?_⟩
    obtain ⟨v,hv,r⟩:=e3 mv' q1 q2
    exact ⟨v,hv,rm r⟩
noncomputable def clOf (env:Env):List (Str × NameKind)→List (Str × Addr)→List (Str × Addr)
  | [],acc=>acc
  | (n,k)::r,acc=>if k == .free then clOf env r ((n,(env.cells.lookup n).getD 0)::acc) else clOf env r acc
theorem closure_forIn (env:Env) (f:Str × NameKind→List (Str × Addr)→Sem (ForInStep (List (Str × Addr))))
    (hf:∀ n k cs,f (n,k) cs=if k == .free then (do let a ← cellOf env n; pure (.yield ((n,a)::cs))) else pure (.yield cs)) :
    ∀ (names:List (Str × NameKind)) (acc:List (Str × Addr)),(∀ p∈names,p.2=.free→∃ a,env.cells.lookup p.1=some a)→forIn names acc f=pure (clOf env names acc)
  | [],acc,_=>rfl
  | (n,k)::r,acc,h=>by
    rw [List.forIn_cons,hf]
    unfold clOf
    split
    · rename_i hk
      obtain ⟨a,ha⟩:=h (n,k) List.mem_cons_self (by simpa using hk)
      have e:cellOf env n=pure a:=by unfold cellOf; rw [ha]
      rw [e,ha]
      simp only [pure_bind,Option.getD_some]
      exact closure_forIn env f hf r _ fun p hp=>h p (List.mem_cons_of_mem _ hp)
    · simp only [pure_bind]
      exact closure_forIn env f hf r _ fun p hp=>h p (List.mem_cons_of_mem _ hp)
theorem closure_eq {scope:Scope} (h:∀ p∈scope.names,p.2=.free→∃ a,env.cells.lookup p.1=some a):closureFor scope env=pure (clOf env scope.names []):=by
  unfold closureFor
  dsimp only
  rw [closure_forIn env _ (fun n k cs=>by cases hk:k == NameKind.free <;> simp [hk]) scope.names [] h]
  rfl
theorem cl_sound:∀ {names:List (Str × NameKind)} {acc:List (Str × Addr)},(∀ p∈names,p.2=.free→∃ a,env.cells.lookup p.1=some a)→∀ {n:Str} {a:Addr},(clOf env names acc).lookup n=some a→acc.lookup n=some a∨(env.cells.lookup n=some a∧(n,.free)∈names)
  | [],acc,_,n,a,e=>.inl e
  | (m,k)::r,acc,h,n,a,e=>by
    have hr:∀ p∈r,p.2=.free→∃ a,env.cells.lookup p.1=some a:=fun p hp=>h p (List.mem_cons_of_mem _ hp)
    unfold clOf at e
    split at e
    · rename_i hk
      have hk':k=.free:=by simpa using hk
      rcases cl_sound hr e with e' | ⟨e',m'⟩
      · rw [List.lookup_cons] at e'
        by_cases q:n == m
        · rw [q] at e'
          obtain ⟨a',ha'⟩:=h (m,k) List.mem_cons_self hk'
          have q':n=m:=by simpa using q
          subst q'
          rw [ha'] at e'
          simp only [Option.getD_some,Option.some.injEq] at e'
          subst e'
          exact .inr ⟨ha',by rw [← hk']; exact List.mem_cons_self⟩
        · rw [Bool.not_eq_true] at q
          rw [q] at e'
          exact .inl e'
      · exact .inr ⟨e',List.mem_cons_of_mem _ m'⟩
    · rcases cl_sound hr e with e' | ⟨e',m'⟩
      · exact .inl e'
      · exact .inr ⟨e',List.mem_cons_of_mem _ m'⟩
theorem cl_some:∀ {names:List (Str × NameKind)} {acc:List (Str × Addr)} {n:Str},(n,.free)∈names∨(acc.lookup n).isSome=true→((clOf env names acc).lookup n).isSome=true
  | [],acc,n,h=>h.elim (fun h=>nomatch h) id
  | (m,k)::r,acc,n,h=>by
    unfold clOf
    split
    · refine cl_some ?_
      rw [List.lookup_cons]
      by_cases q:n == m
      · rw [q]; exact .inr rfl
      · rw [Bool.not_eq_true] at q
        rw [q]
        rcases h with h | h
        · rcases List.mem_cons.mp h with h | h
          · cases h; simp at q
          · exact .inl h
        · exact .inr h
    · rename_i hk
      refine cl_some ?_
      rcases h with h | h
      · rcases List.mem_cons.mp h with h | h
        · cases h; simp at hk
        · exact .inl h
      · exact .inr h
theorem cf_split:∀ (names:List (Str × NameKind)) (k:Nat) (acc:List (Str × Addr)),cellsFrom k names acc=cellsFrom k names []++acc
  | [],_,_=>rfl
  | (n,kd)::r,k,acc=>by
    unfold cellsFrom
    split
    · rw [cf_split r (k+1) ((n,k)::acc),cf_split r (k+1) [(n,k)],List.append_assoc]; rfl
    · exact cf_split r k acc
theorem cf_mem:∀ {names:List (Str × NameKind)} {k:Nat} {n:Str} {a:Addr},(n,a)∈cellsFrom k names []→(n,.cell)∈names
  | [],_,_,_,h=>nomatch h
  | (m,kd)::r,k,n,a,h=>by
    unfold cellsFrom at h
    split at h
    · rename_i hk
      rw [cf_split] at h
      rcases List.mem_append.mp h with h | h
      · exact List.mem_cons_of_mem _ (cf_mem h)
      · rcases List.mem_cons.mp h with h | h
        · cases h
          have:kd=.cell:=by simpa using hk
          rw [this]; exact List.mem_cons_self
        · cases h
    · exact List.mem_cons_of_mem _ (cf_mem h)
theorem cf_some:∀ {names:List (Str × NameKind)} {k:Nat} {n:Str},(n,.cell)∈names→∃ a,(cellsFrom k names []).lookup n=some a
  | [],_,_,h=>nomatch h
  | (m,kd)::r,k,n,h=>by
    unfold cellsFrom
    split
    · rw [cf_split,List.lookup_append]
      cases hq:(cellsFrom (k+1) r []).lookup n with
      | some a=>exact ⟨a,rfl⟩
      | none =>
        rcases List.mem_cons.mp h with h | h
        · cases h
          exact ⟨k,by simp⟩
        · obtain ⟨a,ha⟩:=cf_some (k:=k+1) h
          rw [hq] at ha; cases ha
    · rename_i hk
      rcases List.mem_cons.mp h with h | h
      · cases h; simp at hk
      · exact cf_some h
theorem lookup_relabel {n:Str}:∀ {names:List (Str × NameKind)},(names.map fun (p:Str × NameKind)=>if (p.2 == NameKind.free && env.scope.kind == .function && env.kindOf p.1 == some .cell) then (p.1,NameKind.cell) else (p.1,p.2)).lookup n =
    (names.lookup n).map fun k=>if (k == NameKind.free && env.scope.kind == .function && env.kindOf n == some .cell) then NameKind.cell else k
  | []=>rfl
  | (m,k)::r=>by
    have ih:=@lookup_relabel n r
    rw [List.map_cons]
    have e:(if (k == NameKind.free && env.scope.kind == .function && env.kindOf m == some .cell)=true then (m,NameKind.cell) else (m,k))=(m,if (k == NameKind.free && env.scope.kind == .function && env.kindOf m == some .cell)=true then NameKind.cell else k):=by
      split <;> rfl
    rw [e,List.lookup_cons,List.lookup_cons]
    by_cases q:n == m
    · rw [q]
      have q':n=m:=by simpa using q
      subst q'
      rfl
    · rw [Bool.not_eq_true] at q
      rw [q]
      exact ih
theorem kind_relabel (scope:Scope) (n:Str):(relabel scope env).names.lookup n=(scope.names.lookup n).map fun k=>if (k == NameKind.free && env.scope.kind == .function && env.kindOf n == some .cell) then NameKind.cell else k:=lookup_relabel
structure CompK (c:Ctx) (names:List (Str × NameKind)) (x:Str):Prop where
  loc:∀ p∈names,p.2=.local→(p.1=x∨p.1=(".0":Str))∧names.lookup p.1=some .local
  cel:∀ p∈names,p.2=.cell→p.1=x∧names.lookup p.1=some .cell
  fre:∀ p∈names,p.2=.free→p.1≠x∧(∃ i,c.slots.lookup p.1=some i)∧(c.names.lookup p.1=some .cell∨c.names.lookup p.1=some .free)
  okn:okName x=true
  zero:x≠(".0":Str)
  zs:c.slots.lookup (".0":Str)=none
  x_:names.lookup x=some .local∨names.lookup x=some .cell
theorem compOk_inv {names:List (Str × NameKind)} {x:Str} (h:compOk c names x=true):CompK c names x:=by
  simp only [compOk,Bool.and_eq_true,List.all_eq_true,Bool.or_eq_true,bne_iff_ne,ne_eq,beq_iff_eq,Option.isNone_iff_eq_none] at h
  obtain ⟨⟨⟨⟨ha,hk⟩,hz⟩,hs⟩,hx⟩:=h
  refine ⟨fun p hp e=>?_,fun p hp e=>?_,fun p hp e=>?_,hk,hz,hs,hx⟩
  · have:=ha p hp
    rw [e] at this
    simpa using this
  · have:=ha p hp
    rw [e] at this
    simpa using this
  · have:=ha p hp
    rw [e] at this
    simp [Option.isSome_iff_exists] at this
    exact ⟨this.1.1,this.1.2,this.2⟩
theorem mem_lookup {n:Str} {k:NameKind}:∀ {names:List (Str × NameKind)},names.lookup n=some k→(n,k)∈names
  | [],e=>by cases e
  | (m,k')::r,e=>by
    rw [List.lookup_cons] at e
    by_cases q:n == m
    · rw [q] at e
      have q':n=m:=by simpa using q
      subst q'
      cases e
      exact List.mem_cons_self
    · rw [Bool.not_eq_true] at q
      rw [q] at e
      exact List.mem_cons_of_mem _ (mem_lookup e)
end
noncomputable def compCells (scope:Scope) (env:Env) (C:Addr):List (Str × Addr):=cellsFrom (C+1) scope.names []++clOf env scope.names []
noncomputable def compE (scope:Scope) (env:Env) (C:Addr):Env :=
  { scope:=relabel scope env,locals:=C,globals:=env.globals,cells:=compCells scope env C,qual:=env.qual,func:=none,code:=env.code,frame:=env.frame,builtins:=env.builtins }
section
variable {g:GG} {mg mb:Str→Option Value} {c:Ctx} {h₀:Heap} {A:Around} {env:Env} {X:Addr→Prop} {ρ:List Addr} {ve:List MV} {σ:List AV} {s:Shared}
theorem newComp {M:Model} {E:Value→Shared→Prop} {scope:Scope} {Q:Env→Shared→Prop}
    (h:Q { compE scope env s.heap.objs.size with scope:=scope } { s with heap:=pushCells (s.heap.push { cls:=.type "dict",data:=.dict #[] }) scope.names }) :
    wpAny M A (newFunctionEnv scope env.globals (clOf env scope.names []) [] env.qual none .none (some env)) Q E s:=by
  simp only [newFunctionEnv,Option.isSome_some,if_true]
  refine wpAny_bind (wpAny_alloc ?_)
  refine wpAny_bind (wpAny_layCells _ (fun name kind cells=>by cases hkc:kind == NameKind.cell <;> simp [hkc]) _ _ _ _ ?_)
  rw [show ({ s with heap:=s.heap.push { cls:=.type "dict",data:=.dict #[] } }:Shared).heap.objs.size=s.heap.objs.size+1 from Heap.size_push ..]
  rw [cf_split]
  refine wpAny_bind ?_
  rw [List.forIn_nil]
  exact wpAny_pure (wpAny_pure h)
theorem comp_in {scope:Scope} {x:Str} {h5:Heap} {C:Addr} {XX:Addr→Prop} (S:Stt g h₀ c env XX ρ ve σ h5) (CK:CompK c scope.names x) (hkind:scope.kind=.function) (xC:XX C) (nsC:h5.Ns C fun _=>none) (Cρ:C ∉ ρ) (CL:C≠env.locals) (Cc:∀ n,env.cells.lookup n≠some C) (aC:h₀.objs.size≤C)
    (new:∀ n a,(n,a)∈cellsFrom (C+1) scope.names []→XX a∧a ∉ ρ∧a≠C∧(∀ n',env.cells.lookup n'≠some a)∧h5.IsCell a none) :
    Stt g h₀ (inner c scope.names x) (compE scope env C) XX ρ (ve++[.unset]) σ h5:=by
  have O:=S.envOk
  have V:=S.vars
  have clf:∀ p∈scope.names,p.2=.free→∃ a,env.cells.lookup p.1=some a:=fun p hp e=>by
    obtain ⟨_,⟨i,hi⟩,hk⟩:=CK.fre p hp e
    obtain ⟨a,_,e1,_⟩:=V.cell p.1 i hi hk
    exact ⟨a,e1⟩
  have look:∀ {n:Str} {a:Addr},(compE scope env C).cells.lookup n=some a→((n,a)∈cellsFrom (C+1) scope.names []∧(n,.cell)∈scope.names)∨(env.cells.lookup n=some a∧(n,.free)∈scope.names):=by
    intro n a e
    show _∨_
    have e':(cellsFrom (C+1) scope.names []++clOf env scope.names []).lookup n=some a:=e
    rw [List.lookup_append] at e'
    cases hq:(cellsFrom (C+1) scope.names []).lookup n with
    | some a' =>
      rw [hq] at e'
      cases e'
      have m:=mem_of_lookup hq
      exact .inl ⟨m,cf_mem m⟩
    | none =>
      rw [hq] at e'
      rcases cl_sound clf e' with q | q
      · cases q
      · exact .inr q
  refine ⟨S.keep,S.xnew,S.alive,?_,⟨?_,?_,?_⟩,S.muts⟩
  · refine ⟨hkind,O.glob,O.blt,xC,Cρ,aC,fun n a e=>?_,fun n n' a e e'=>?_,fun n e=>?_,fun n e=>?_,fun n e=>?_,fun n e=>?_,fun n i e=>?_,fun n n' i e e'=>?_⟩
    · rcases look e with ⟨m,_⟩ | ⟨m,_⟩
      · exact ⟨(new n a m).1,(new n a m).2.1,(new n a m).2.2.1⟩
      · exact ⟨(O.cells n a m).1,(O.cells n a m).2.1,fun q=>Cc n (m.trans (congrArg some (show a=C from q)))⟩
    · rcases look e with ⟨m,m2⟩ | ⟨m,m2⟩ <;> rcases look e' with ⟨q,q2⟩ | ⟨q,q2⟩
      · have h1:=(CK.cel _ m2 rfl).1
        have h2:=(CK.cel _ q2 rfl).1
        exact h1.trans h2.symm
      · exact absurd q ((new n a m).2.2.2.1 n')
      · exact absurd m ((new n' a q).2.2.2.1 n)
      · exact O.apart n n' a m q
    · show (relabel scope env).names.lookup n=_
      rw [kind_relabel]
      rw [show scope.names.lookup n=some .local from e]; rfl
    · show (relabel scope env).names.lookup n=_
      rw [kind_relabel]
      rw [show scope.names.lookup n=some .cell from e]; rfl
    · show (relabel scope env).names.lookup n=_∨(relabel scope env).names.lookup n=_
      rw [kind_relabel]
      rw [show scope.names.lookup n=some .free from e]
      simp only [Option.map_some]
      split
      · exact .inl rfl
      · exact .inr rfl
    · show (relabel scope env).names.lookup n=_
      rw [kind_relabel]
      rw [show scope.names.lookup n=some .globalImplicit from e]; rfl
    · have e1:((x,c.next)::c.slots).lookup n=some i:=e
      rw [List.lookup_cons] at e1
      split at e1
      · cases e1; exact Nat.lt_succ_self _
      · exact Nat.lt_succ_of_lt (O.slot n i e1)
    · have e1:((x,c.next)::c.slots).lookup n=some i:=e
      have e2:((x,c.next)::c.slots).lookup n'=some i:=e'
      by_cases a1:n=x <;> by_cases a2:n'=x
      · exact a1.trans a2.symm
      · rw [a1,List.lookup_cons,beq_self_eq_true] at e1
        cases e1
        have a2':(n' == x)=false:=by simpa using a2
        rw [List.lookup_cons,a2'] at e2
        exact absurd (O.slot n' _ e2) (Nat.lt_irrefl _)
      · rw [a2,List.lookup_cons,beq_self_eq_true] at e2
        cases e2
        have a1':(n == x)=false:=by simpa using a1
        rw [List.lookup_cons,a1'] at e1
        exact absurd (O.slot n _ e1) (Nat.lt_irrefl _)
      · have a1':(n == x)=false:=by simpa using a1
        have a2':(n' == x)=false:=by simpa using a2
        rw [List.lookup_cons,a1'] at e1
        rw [List.lookup_cons,a2'] at e2
        exact O.inj n n' i e1 e2
  · refine ⟨_,nsC,fun n i mv h1 h2 h3 h4=>?_⟩
    exfalso
    have e1:((x,c.next)::c.slots).lookup n=some i:=h1
    have m:=mem_lookup (show scope.names.lookup n=some .local from h4)
    rw [List.lookup_cons] at e1
    rcases (CK.loc _ m rfl).1 with q | q
    · have q':n=x:=q
      subst q'
      rw [beq_self_eq_true] at e1
      cases e1
      rw [← V.len,List.getElem?_concat_length] at h2
      cases h2
      exact h3 rfl
    · have q':n=(".0":Str):=q
      subst q'
      have:((".0":Str) == x)=false:=by simpa using fun e=>CK.zero e.symm
      rw [this] at e1
      rw [CK.zs] at e1
      cases e1
  · intro n i h1 h2
    have e1:((x,c.next)::c.slots).lookup n=some i:=h1
    rcases h2 with h2 | h2
    · have m:=mem_lookup (show scope.names.lookup n=some .cell from h2)
      obtain ⟨a,ha⟩:=cf_some (k:=C+1) m
      have hx:n=x:=(CK.cel _ m rfl).1
      subst hx
      rw [List.lookup_cons,beq_self_eq_true] at e1
      cases e1
      refine ⟨a,none,?_,(new n a (mem_of_lookup ha)).2.2.2.2,fun mv q1 q2=>?_⟩
      · show (cellsFrom (C+1) scope.names []++clOf env scope.names []).lookup n=some a
        rw [List.lookup_append,ha]; rfl
      · rw [← V.len,List.getElem?_concat_length] at q1
        cases q1
        exact absurd rfl q2
    · have m:=mem_lookup (show scope.names.lookup n=some .free from h2)
      obtain ⟨hx,_,hk⟩:=CK.fre _ m rfl
      have hx':(n == x)=false:=by simpa using hx
      rw [List.lookup_cons,hx'] at e1
      obtain ⟨a,vo,q1,q2,q3⟩:=V.cell n i e1 hk
      refine ⟨a,vo,?_,q2,fun mv r1 r2=>?_⟩
      · show (cellsFrom (C+1) scope.names []++clOf env scope.names []).lookup n=some a
        rw [List.lookup_append]
        have nc:(cellsFrom (C+1) scope.names []).lookup n=none:=by
          cases hq:(cellsFrom (C+1) scope.names []).lookup n with
          | none=>rfl
          | some a'=>exact absurd (CK.cel _ (cf_mem (mem_of_lookup hq)) rfl).1 hx
        rw [nc]
        have:=cl_some (env:=env) (acc:=[]) (.inl m)
        obtain ⟨a',ha'⟩:=Option.isSome_iff_exists.mp this
        rcases cl_sound clf ha' with q | ⟨q,_⟩
        · cases q
        · rw [q1] at q
          cases q
          exact ha'
      · have hi:i < ve.length:=by rw [V.len]; exact O.slot n i e1
        rw [List.getElem?_append_left hi] at r1
        exact q3 mv r1 r2
  · show (ve++[MV.unset]).length=c.next+1
    rw [List.length_append,V.len]; rfl
end
noncomputable def turnF (T:Tab) (elt:ME) (c:MT) (ve:List MV) (x:AV) (σ:List AV):Res (Option AV):=turnR (evT T c (ve++[.val x])) (evE T elt (ve++[.val x])) σ
theorem calm_inv {α:Type} {r:Res α} {y:α} {σ:List AV} (e:r.calm=.ok y σ):r=.ok y σ:=by
  cases r with
  | ok _ _=>exact e
  | stop _=>exact Res.no_ok e
  | no=>exact e
theorem turn_inv {T:Tab} {elt:ME} {c:MT} {ve:List MV} {x:AV} {σ σ':List AV} {y:Option AV} (e:turnF T elt c ve x σ=.ok y σ') :
    (evT T c (ve++[.val x]) σ=.ok false σ'∧y=none)∨∃ σ1 z,evT T c (ve++[.val x]) σ=.ok true σ1∧evE T elt (ve++[.val x]) σ1=.ok (.val z) σ'∧y=some z:=by
  refine Res.bindC (calm_inv e) fun t σ1 h1 e=>?_
  cases t with
  | false =>
    obtain ⟨rfl,rfl⟩:=Res.ok_inv e
    exact .inl ⟨h1,rfl⟩
  | true =>
    refine Res.bvalC e fun z σ2 h2 e=>?_
    obtain ⟨rfl,rfl⟩:=Res.ok_inv e
    exact .inr ⟨σ1,z,h1,h2,rfl⟩
section
variable {g:GG} {mg mb:Str→Option Value} {c:Ctx} {h₀:Heap} {A:Around} {env:Env} {X:Addr→Prop} {ρ:List Addr} {ve:List MV} {σ:List AV} {s:Shared}
structure CS (g:GG) (h₀:Heap) (c cin:Ctx) (env cenv:Env) (XX:Addr→Prop) (ρ:List Addr) (ve:List MV) (D:Addr) (St:Nat→Heap→Prop) (Inv:(Addr→Prop)→Heap→Prop) (hs:Heap) (i:Nat) (σ ys:List AV) (mv:MV) (h:Heap):Prop where
  inn:Stt g h₀ cin cenv XX ρ (ve++[mv]) σ h
  out:Stt g h₀ c env XX ρ ve σ h
  st:St i h
  inv:Inv XX h
  acc:∃ vs,h.PlainList D vs.toArray∧RepVs g h XX ys vs
  ext:Ext (·∈ρ) hs h
theorem comp_loop {xs ys' σ':List AV} {elt iter:Expr} {x:Str} {px:Pos} {ifs:List Expr} {scope:Scope} {pos:Pos} {cond:MT} {melt:ME} {I D C:Addr} {XX:Addr→Prop} {h₁:Heap} {fp:List Addr} {P:Nat→Value→Prop} {St:Nat→Heap→Prop} {Inv:(Addr→Prop)→Heap→Prop}
    {T:Tab} {n:Nat} (aok:AOk n A) (B:Base g mg mb h₀) (TT:TabOk g mg T n h₀) (CK:CompK c scope.names x) (Wk:Walk g A X h₁ I xs fp P St Inv) (hlen:ve.length=c.next)
    (helt:ESound g mg mb (inner c scope.names x) elt melt) (hifs:(ifs=[]∧cond=.tt)∨∃ t,ifs=[t]∧TSound g mg mb (inner c scope.names x) t cond)
    (xI:XX I) (xD:XX D) (xC:XX C) (Iρ:I ∉ ρ) (Dρ:D ∉ ρ) (Cρ:C ∉ ρ) (ID:I≠D) (IC:I≠C) (DC:D≠C)
    (fpX:∀ b∈fp,b=I∨¬ XX b)
    (oI:I≠env.locals∧∀ n,env.cells.lookup n≠some I) (oD:D≠env.locals∧∀ n,env.cells.lookup n≠some D) (oC:C≠env.locals∧∀ n,env.cells.lookup n≠some C)
    (iI:∀ n,(compE scope env C).cells.lookup n≠some I) (iD:∀ n,(compE scope env C).cells.lookup n≠some D)
    (xc:∀ a,(compE scope env C).cells.lookup x=some a→XX a∧a ∉ ρ∧a≠env.locals∧(∀ n,env.cells.lookup n≠some a))
    (hsD:∀ o,s.heap.get? D≠some o) (hsI:∀ o,s.heap.get? I≠some o) (hsC:∀ o,s.heap.get? C≠some o) (hsx:∀ a o,(compE scope env C).cells.lookup x=some a→s.heap.get? a≠some o)
    {R:Result→Shared→Prop}
    (subX:∀ b,X b→XX b) (Xl:X env.locals) (Xc:∀ n a,env.cells.lookup n=some a→X a) (Xρ:∀ a∈ρ,X a) (nXI:¬ X I)
    (hR:∀ h' tk vs m,Stt g h₀ c env (fun b=>X b∨b=C∨b=D) ρ ve σ' h'→h'.Ns C m→h'.PlainList D vs.toArray→RepVs g h' (fun b=>X b∨b=C∨b=D) ys' vs→Ext (·∈ρ) s.heap h'→R (.ok .next) { s with heap:=h',toks:=tk })
    (fx:fits xs.length=true) {σ0:List AV} (ev:compL (turnF T melt cond ve) xs [] σ0=.ok ys' σ') {h0:Heap} {tk0:Nat} (c0:CS g h₀ c (inner c scope.names x) env (compE scope env C) XX ρ ve D St Inv s.heap 0 σ0 [] .unset h0) :
    codeAny (model g.prog g.w) A (.compLoop (.ListComp elt [⟨.Name x px,iter,ifs,0⟩] scope pos) 0 (.ref I) (.ref D) (compE scope env C)) R { s with heap:=h0,toks:=tk0 }:=by
  have hvar:varOf (inner c scope.names x) x=some c.next:=by
    unfold varOf
    have h1:isVarKind ((inner c scope.names x).names.lookup x)=true:=by
      show isVarKind (scope.names.lookup x)=true
      rcases CK.x_ with q | q <;> rw [q] <;> rfl
    rw [h1,CK.okn]
    show ((x,c.next)::c.slots).lookup x=some c.next
    rw [List.lookup_cons,beq_self_eq_true]
  refine codeAny_compLoop_tests (fun m s'=>∃ i σi ysi mv h tk,s'={ s with heap:=h,toks:=tk }∧i≤xs.length∧m=xs.length - i∧ysi.length≤i∧compL (turnF T melt cond ve) (xs.drop i) ysi σi=.ok ys' σ' ∧
    CS g h₀ c (inner c scope.names x) env (compE scope env C) XX ρ ve D St Inv s.heap i σi ysi mv h) ?_ xs.length ⟨0,σ0,[],.unset,h0,tk0,rfl,Nat.zero_le _,rfl,Nat.zero_le _,ev,c0⟩
  rintro m s' ⟨i,σi,ysi,mv,h,tk,rfl,hi,rfl,hy,hev,cs⟩
  have atI:∀ {h':Heap},(∀ b o,b≠I→h.get? b=some o→h'.get? b=some o)→(∃ o,h'.get? I=some o) →
      Stt g h₀ (inner c scope.names x) (compE scope env C) XX ρ (ve++[mv]) σi h'∧Stt g h₀ c env XX ρ ve σi h'∧Inv XX h'∧(∃ vs,h'.PlainList D vs.toArray∧RepVs g h' XX ysi vs)∧Ext (·∈ρ) s.heap h':=by
    intro h' k al
    have mvv:Move h h' XX XX:=fun b o n e=>⟨k b o (fun q=>n (q ▸ xI)) e,n⟩
    refine ⟨cs.inn.other (·=I) (fun b q=>by subst q; exact ⟨xI,Iρ,fun q=>IC q,iI⟩) (fun b o n e=>k b o n e) (fun b q=>by subst q; exact al),
      cs.out.other (·=I) (fun b q=>by subst q; exact ⟨xI,Iρ,oI.1,oI.2⟩) (fun b o n e=>k b o n e) (fun b q=>by subst q; exact al),Wk.inv _ _ _ _ cs.inv mvv,?_,fun b o n e=>k b o (fun q=>hsI o (q ▸ e)) (cs.ext b o n e)⟩
    obtain ⟨vs,⟨nn,ho⟩,rv⟩:=cs.acc
    exact ⟨vs,⟨nn,k _ _ (Ne.symm ID) ho⟩,rv.move mvv⟩
  rcases Nat.lt_or_ge i xs.length with hlt | hge
  case inr =>
    have hi':i=xs.length:=Nat.le_antisymm hi hge
    subst hi'
    rw [List.drop_length] at hev
    cases hev
    refine Wk.W.done _ _ _ cs.st fun h' tk' hk=>?_
    have hk':∀ b o,b≠I→h.get? b=some o→h'.get? b=some o:=fun b o n e=>hk b o (by simpa using n) e
    have sub:∀ b,(X b∨b=C∨b=D)→XX b:=fun b q=>q.elim (subX b) (fun q=>q.elim (fun q=>q ▸ xC) (fun q=>q ▸ xD))
    have mvv:Move h h' XX (fun b=>X b∨b=C∨b=D):=fun b o n e=>⟨hk' b o (fun q=>n (q ▸ xI)) e,fun q=>n (sub b q)⟩
    obtain ⟨vs,⟨nn,ho⟩,rv⟩:=cs.acc
    obtain ⟨m,hn,_⟩:=cs.inn.vars.ns
    refine hR h' tk' vs m (cs.out.leave (·=I) (fun b q=>by subst q; exact ⟨xI,Iρ,oI.1,oI.2⟩) (fun b o n e=>hk' b o n e) sub (.inl Xl) (fun n a e=>.inl (Xc n a e)) (fun a ha=>.inl (Xρ a ha)) (fun b q x=>by
      subst q
      exact (x.elim nXI (fun x=>x.elim IC ID)).elim)) (Heap.Ns.at' hn fun o e=>hk' _ o (Ne.symm IC) e) ⟨nn,hk' _ _ (Ne.symm ID) ho⟩ (rv.move mvv) fun b o n e=>hk' b o (fun q=>hsI o (q ▸ e)) (cs.ext b o n e)
  case inl =>
    obtain ⟨y,hxi⟩:∃ y,xs[i]?=some y:=⟨_,List.getElem?_eq_getElem hlt⟩
    have hd:xs.drop i=y::xs.drop (i+1):=by
      have:=(List.getElem?_eq_some_iff.mp hxi).2
      rw [← this]; exact List.drop_eq_getElem_cons hlt
    rw [hd] at hev
    refine Res.bindC hev fun r σ2 ht hev=>?_
    · refine Wk.W.item i _ _ _ hlt cs.st fun v h' tk' hp st' hk=>?_
      have hk':∀ b o,b≠I→h.get? b=some o→h'.get? b=some o:=fun b o n e=>hk b o (by simpa using n) e
      obtain ⟨Si,So,inv1,acc1,ext1⟩:=atI hk' (Wk.live _ _ st')
      have rv:=Wk.rep i v y XX h' hp hxi inv1
      refine wpAny_assign_Name (store_var (s:={ s with heap:=h',toks:=tk' }) (mv:=.val y) Si hvar rv fun h2 tk2 Si2 k2=>?_)
      have hset:(ve++[mv]).set c.next (.val y)=ve++[.val y]:=by
        rw [← hlen,List.set_append_right _ _ (Nat.le_refl _),Nat.sub_self]; rfl
      rw [hset] at Si2
      have wOf:∀ b,(b=(compE scope env C).locals∨(compE scope env C).cells.lookup x=some b)→XX b∧b ∉ ρ∧b≠env.locals∧(∀ n,env.cells.lookup n≠some b)∧b≠I∧b≠D∧∀ o,s.heap.get? b≠some o:=by
        rintro b (q | q)
        · have q':b=C:=q
          subst q'
          exact ⟨xC,Cρ,oC.1,oC.2,Ne.symm IC,Ne.symm DC,hsC⟩
        · obtain ⟨a1,a2,a3,a4⟩:=xc b q
          exact ⟨a1,a2,a3,a4,fun e=>iI x (e ▸ q),fun e=>iD x (e ▸ q),fun o=>hsx b o q⟩
      have So2:Stt g h₀ c env XX ρ ve σi h2:=So.other _ (fun b q=>let ⟨a1,a2,a3,a4,_⟩:=wOf b q; ⟨a1,a2,a3,a4⟩) k2 (fun b q=>Si2.alive b (wOf b q).1)
      have mv2:Move h' h2 XX XX:=fun b o nb e=>⟨k2 b o (fun q=>nb (wOf b q).1) e,nb⟩
      have st2:St (i+1) h2:=Wk.W.frame _ _ _ st' fun b hb o e=>k2 b o (fun q=>(fpX b hb).elim (fun e1=>(wOf b q).2.2.2.2.1 e1) (fun e1=>e1 (wOf b q).1)) e
      have inv2:Inv XX h2:=Wk.inv _ _ _ _ inv1 mv2
      have acc2:∃ vs,h2.PlainList D vs.toArray∧RepVs g h2 XX ysi vs:=by
        obtain ⟨vs,⟨nn,ho⟩,rv⟩:=acc1
        exact ⟨vs,⟨nn,k2 _ _ (fun q=>(wOf D q).2.2.2.2.2.1 rfl) ho⟩,rv.move mv2⟩
      have ext2:Ext (·∈ρ) s.heap h2:=fun b o nb e=>k2 b o (fun q=>(wOf b q).2.2.2.2.2.2 o e) (ext1 b o nb e)
      have cs2:CS g h₀ c (inner c scope.names x) env (compE scope env C) XX ρ ve D St Inv s.heap (i+1) σi ysi (.val y) h2:=⟨Si2,So2,st2,inv2,acc2,ext2⟩
      have stepE:∀ {σa σb:List AV} {ha hb:Heap},CS g h₀ c (inner c scope.names x) env (compE scope env C) XX ρ ve D St Inv s.heap (i+1) σa ysi (.val y) ha→Ext (·∈ρ) ha hb→Muts g hb XX ρ σb →
          CS g h₀ c (inner c scope.names x) env (compE scope env C) XX ρ ve D St Inv s.heap (i+1) σb ysi (.val y) hb:=by
        intro σa σb ha hb ca k M
        have mvv:Move ha hb XX XX:=k.move ca.out.muts.mem
        refine ⟨ca.inn.move k M,ca.out.move k M,Wk.W.frame _ _ _ ca.st fun b hb' o e=>k b o (fun q=>(fpX b hb').elim (fun e1=>Iρ (e1 ▸ q)) (fun e1=>e1 (ca.out.muts.mem b q))) e,Wk.inv _ _ _ _ ca.inv mvv,?_,ca.ext.trans k⟩
        obtain ⟨vs,⟨nn,ho⟩,rv⟩:=ca.acc
        exact ⟨vs,⟨nn,k _ _ Dρ ho⟩,rv.move mvv⟩
      have tests:∀ (b:Bool) (σb:List AV),evT T cond (ve++[.val y]) σi=.ok b σb→∀ (Q:Bool→Shared→Prop) (E:Value→Shared→Prop),
          (∀ h3 tk3,CS g h₀ c (inner c scope.names x) env (compE scope env C) XX ρ ve D St Inv s.heap (i+1) σb ysi (.val y) h3→Q b { s with heap:=h3,toks:=tk3 }) →
          wpAny (model g.prog g.w) A (forIn ifs true fun c r=>if r=true then do let ok ← isTrue c (compE scope env C) (eval c (compE scope env C)); pure (ForInStep.yield ok) else pure (ForInStep.yield r)) Q E { s with heap:=h2,toks:=tk2 }:=by
        intro b σb hb Q E hQ
        rcases hifs with ⟨rfl,rfl⟩ | ⟨t,rfl,tsd⟩
        · obtain ⟨rfl,rfl⟩:=Res.ok_inv hb
          exact wpAny_tests_nil (hQ h2 tk2 cs2)
        · refine wpAny_tests_one (tsd T n h₀ A (compE scope env C) XX ρ (ve++[.val y]) σi { s with heap:=h2,toks:=tk2 } aok B TT Si2 b σb hb _ _ fun h3 tk3 k3 M3=>hQ h3 tk3 (stepE cs2 k3 M3))
      rcases turn_inv ht with ⟨hc,rfl⟩ | ⟨σ1,z,hc,he,rfl⟩
      · refine tests false σ2 hc _ _ fun h3 tk3 cs3=>?_
        simp only [Bool.false_eq_true,if_false]
        refine ⟨xs.length - (i+1),by omega,i+1,σ2,ysi,.val y,h3,tk3,rfl,hlt,rfl,Nat.le_succ_of_le hy,?_,cs3⟩
        simpa using hev
      · refine tests true σ1 hc _ _ fun h3 tk3 cs3=>?_
        simp only [if_true]
        refine helt T n h₀ A (compE scope env C) XX ρ (ve++[.val y]) σ1 { s with heap:=h3,toks:=tk3 } aok B TT cs3.inn _ _ he _ _ fun w h4 tk4 k4 M4 R4 _=>?_
        have cs4:=stepE cs3 k4 M4
        obtain ⟨vs,pl,rvs⟩:=cs4.acc
        have b1:=fits_iff fx
        have hvl:=rvs.length
        refine wpAny_list_append_plain (s:={ s with heap:=h4,toks:=tk4 }) (hsz:=by rw [List.size_toArray,hvl,sizeLine_eq]; omega) pl fun h5 pl5 hs5=>?_
        have k5:∀ b o,b≠D→h4.get? b=some o→h5.get? b=some o:=fun b o nb e=>hs5.extBut b o nb e
        have al5:∀ b,b=D→∃ o,h5.get? b=some o:=fun b q=>by subst q; obtain ⟨nn,ho⟩:=pl5; exact ⟨_,ho⟩
        have mv5:Move h4 h5 XX XX:=fun b o nb e=>⟨k5 b o (fun q=>nb (q ▸ xD)) e,nb⟩
        refine ⟨xs.length - (i+1),by omega,i+1,σ2,ysi++[z],.val y,h5,tk4,rfl,hlt,rfl,by rw [List.length_append]; exact Nat.succ_le_succ hy,by simpa using hev,?_⟩
        refine ⟨cs4.inn.other (·=D) (fun b q=>by subst q; exact ⟨xD,Dρ,DC,iD⟩) (fun b o n e=>k5 b o n e) al5,cs4.out.other (·=D) (fun b q=>by subst q; exact ⟨xD,Dρ,oD.1,oD.2⟩) (fun b o n e=>k5 b o n e) al5,
          Wk.W.frame _ _ _ cs4.st fun b hb o e=>k5 b o (fun q=>(fpX b hb).elim (fun e1=>ID (e1.symm.trans q)) (fun e1=>e1 (q ▸ xD))) e,Wk.inv _ _ _ _ cs4.inv mv5,⟨vs++[w],?_,(rvs.append (RepVs_cons.mpr ⟨w,[],rfl,R4,RepVs_nil.mpr rfl⟩)).move mv5⟩,fun b o nb e=>k5 b o (fun q=>hsD o (q ▸ e)) (cs4.ext b o nb e)⟩
        have:vs.toArray.push w=(vs++[w]).toArray:=by simp
        rw [← this]
        exact pl5
end
section
variable {g:GG} {mg mb:Str→Option Value} {c:Ctx} {h₀:Heap} {A:Around} {env:Env} {X:Addr→Prop} {ρ:List Addr} {ve:List MV} {σ:List AV} {s:Shared}
theorem Grow.none_of {h h':Heap} (k:Grow h h') {a:Addr} (e:h'.get? a=none):h.get? a=none:=by
  cases q:h.get? a with
  | none=>rfl
  | some o=>rw [k a o q] at e; cases e
theorem comp_inv {T:Tab} {melt mit:ME} {cond:MT} {m:MV} {σ':List AV} (e:evE T (.comp melt mit cond) ve σ=.ok m σ') :
    ∃ xv σ1 xs ys,evE T mit ve σ=.ok (.val xv) σ1∧elemsC xv=some xs∧fits xs.length=true∧compL (turnF T melt cond ve) xs [] σ1=.ok ys σ'∧m=.val (.list ys):=by
  refine Res.bindC e fun m1 σ1 h1 e=>Res.onC e fun xs hx e=>Res.iteC e fun f e=>Res.bindC e fun ys σ2 h4 e=>obC hx fun xv hv h2=>?_
  obtain ⟨rfl,rfl⟩:=Res.ok_inv e
  exact ⟨xv,σ1,xs,ys,MV.val?_inv hv ▸ h1,h2,f,h4,rfl⟩
theorem elemsC_inv {x:AV} {xs:List AV} (e:elemsC x=some xs):elems x=some xs∧∀ d,x≠.items d:=by
  unfold elemsC at e
  by_cases h:x.items?.isSome=true
  · rw [if_pos h] at e; exact nn e
  · rw [if_neg h] at e; exact ⟨e,fun d q=>h (q ▸ rfl)⟩
theorem comp_core {elt iter:Expr} {x:Str} {px:Pos} {ifs:List Expr} {scope:Scope} {pos:Pos} {cond:MT} {melt mit:ME} (hkind:scope.kind=.function) (CK:CompK c scope.names x)
    (hit:ESound g mg mb c iter mit) (helt:ESound g mg mb (inner c scope.names x) elt melt) (hifs:(ifs=[]∧cond=.tt)∨∃ t,ifs=[t]∧TSound g mg mb (inner c scope.names x) t cond)
    {T:Tab} {n:Nat} (aok:AOk n A) (B:Base g mg mb h₀) (TT:TabOk g mg T n h₀) (S:Stt g h₀ c env X ρ ve σ s.heap) {m:MV} {σ':List AV} (e:evE T (.comp melt mit cond) ve σ=.ok m σ')
    {RR:Value→Addr→Result→Shared→Prop} {E:Value→Shared→Prop}
    (hRR:∀ D C h' tk m' ys,m=.val (.list ys)→s.heap.get? D=none→s.heap.get? C=none→D≠C→h'.Ns C m'→Ext (·∈ρ) s.heap h'→Stt g h₀ c env (fun b=>X b∨b=C∨b=D) ρ ve σ' h'→RepC g h' (fun b=>X b∨b=C∨b=D) (.list ys) D →
      RR (.ref D) C (.ok .next) { s with heap:=h',toks:=tk }) :
    wpAny (model g.prog g.w) A (eval iter env) (fun xv s₁=>wpAny (model g.prog g.w) A (pyIter xv) (fun it s₂=>wpAny (model g.prog g.w) A (newList []) (fun acc s₃ =>
      wpAny (model g.prog g.w) A (newFunctionEnv scope env.globals (clOf env scope.names []) [] env.qual none .none (some env)) (fun cenv s₄ =>
        codeAny (model g.prog g.w) A (.compStart (.ListComp elt [⟨.Name x px,iter,ifs,0⟩] scope pos) 0 it acc { cenv with scope:=relabel scope env }) (RR acc cenv.locals) s₄) E s₃) E s₂) E s₁) E s:=by
  obtain ⟨xv,σ1,xs,ys,e1,e2,fx,e3,rfl⟩:=comp_inv e
  refine hit T n h₀ A env X ρ ve σ s aok B TT S _ _ e1 _ _ fun v h1 tk1 k1 M1 R1 _=>?_
  have S1:=S.move k1 M1
  have hel:=elemsC_inv e2
  refine iterW (s:={ s with heap:=h1,toks:=tk1 }) aok.1 S1.alive hel.1 hel.2 fx R1 fun I h2 fp P St Inv Wk k2 ⟨oI,aI⟩ st0=>?_
  refine wpAny_newObj_type ?_ (by show ([]:List Value).toArray.size≤sizeLine; exact Nat.zero_le _)
  have aD:(h2.push { cls:=.type "list",data:=.seq ([]:List Value).toArray }).get? h2.objs.size=some { cls:=.type "list",data:=.seq ([]:List Value).toArray }:=Heap.get?_push_size _ rfl
  have nD:h2.get? h2.objs.size=none:=get?_size h2
  generalize hD:h2.objs.size=D at aD nD
  generalize hh3:h2.push { cls:=.type "list",data:=.seq ([]:List Value).toArray }=h3 at aD
  have k3:Grow h2 h3:=hh3 ▸ Grow.push _ _
  have s3:h3.objs.size=D+1:=by rw [← hh3,Heap.size_push,hD]
  refine newComp ?_
  show codeAny _ _ _ _ _
  have nC:h3.get? h3.objs.size=none:=get?_size h3
  have aC:(h3.push { cls:=.type "dict",data:=.dict #[] }).get? h3.objs.size=some { cls:=.type "dict",data:=.dict #[] }:=Heap.get?_push_size _ rfl
  have nsC:(h3.push { cls:=.type "dict",data:=.dict #[] }).Ns h3.objs.size fun _=>none:=Heap.Ns.new h3 (.type "dict")
  have cok:=cellsFrom_ok scope.names (h3.push { cls:=.type "dict",data:=.dict #[] }) (h3.objs.size+1) [] ⟨fun _ _ hm=>(nomatch hm),List.Pairwise.nil⟩ (by rw [Heap.size_push]; exact Nat.le_refl _)
  rw [Heap.size_push] at cok
  show codeAny (model g.prog g.w) A (.compStart (.ListComp elt [⟨.Name x px,iter,ifs,0⟩] scope pos) 0 (.ref I) (.ref D) (compE scope env h3.objs.size)) (RR (.ref D) h3.objs.size) { s with heap:=pushCells (h3.push { cls:=.type "dict",data:=.dict #[] }) scope.names,toks:=tk1 }
  generalize hC:h3.objs.size=C at *
  generalize hh4:h3.push { cls:=.type "dict",data:=.dict #[] }=h4 at *
  have k4:Grow h3 h4:=hh4 ▸ Grow.push _ _
  generalize hh5:pushCells h4 scope.names=h5 at *
  have k5:Grow h4 h5:=fun b o e=>hh5 ▸ pushCells_keeps _ _ b o e
  have k15:Grow h1 h5:=((k2.trans k3).trans k4).trans k5
  have s4:h4.objs.size=C+1:=by rw [← hh4,Heap.size_push,hC]
  have newCell:∀ n a,(n,a)∈cellsFrom (C+1) scope.names []→h5.IsCell a none∧C+1≤a:=fun n a hm=>cok.empty n a hm
  have nI1:h1.get? I=none:=Wk.new
  have nD1:h1.get? D=none:=k2.none_of nD
  have nC1:h1.get? C=none:=(k2.trans k3).none_of nC
  have nc1:∀ n a,(n,a)∈cellsFrom (C+1) scope.names []→h1.get? a=none:=fun n a hm=>((k2.trans k3).trans k4).none_of (Heap.get?_none_of_le (by rw [s4]; exact (newCell n a hm).2))
  have lI:I < D:=by rw [← hD]; exact Heap.lt_size aI
  have lC:C=D+1:=s3
  have ID:I≠D:=Nat.ne_of_lt lI
  have DC:D≠C:=by rw [lC]; exact Nat.ne_of_lt (Nat.lt_succ_self _)
  have IC:I≠C:=by rw [lC]; exact Nat.ne_of_lt (Nat.lt_succ_of_lt lI)
  have aI5:h5.get? I=some oI:=k5 _ _ (k4 _ _ (k3 _ _ aI))
  have aD5:h5.get? D=some _:=k5 _ _ (k4 _ _ aD)
  have aC5:h5.get? C=some _:=k5 _ _ aC
  have nX:∀ {a:Addr},h1.get? a=none→¬ X a:=fun e=>S1.alive.fresh e
  have nρ:∀ {a:Addr},h1.get? a=none→a ∉ ρ:=fun e hm=>nX e (S1.muts.mem _ hm)
  have nL:∀ {a:Addr},h1.get? a=none→a≠env.locals:=fun e q=>nX e (q ▸ S1.envOk.loc)
  have nc:∀ {a:Addr},h1.get? a=none→∀ n,env.cells.lookup n≠some a:=fun e n q=>nX e (S1.envOk.cells n _ q).1
  have ns:∀ {a:Addr},h1.get? a=none→s.heap.get? a=none:=fun e=>old_none S1 k1 e
  let XX:Addr→Prop:=fun b=>X b∨b=I∨b=D∨b=C∨∃ n,(n,b)∈cellsFrom (C+1) scope.names []
  have newOf:∀ b,XX b→X b∨h1.get? b=none:=by
    rintro b (q | rfl | rfl | rfl | ⟨n,q⟩)
    · exact .inl q
    · exact .inr nI1
    · exact .inr nD1
    · exact .inr nC1
    · exact .inr (nc1 n b q)
  have alX:Alive XX h5:=by
    rintro b (q | rfl | rfl | rfl | ⟨n,q⟩)
    · obtain ⟨o,e⟩:=S1.alive b q
      exact ⟨o,k15 b o e⟩
    · exact ⟨_,aI5⟩
    · exact ⟨_,aD5⟩
    · exact ⟨_,aC5⟩
    · obtain ⟨o,e,_⟩:=(newCell n b q).1
      exact ⟨o,e⟩
  have So:Stt g h₀ c env XX ρ ve σ1 h5:=S1.protect k15 (fun b q=>.inl q) newOf alX
  have Si:Stt g h₀ (inner c scope.names x) (compE scope env C) XX ρ (ve++[.unset]) σ1 h5:=by
    refine comp_in So CK hkind (.inr (.inr (.inr (.inl rfl)))) (nsC.keeps k5) (nρ nC1) (nL nC1) (nc nC1) ?_ fun n a hm=>⟨.inr (.inr (.inr (.inr ⟨n,hm⟩))),nρ (nc1 n a hm),fun q=>?_,nc (nc1 n a hm),(newCell n a hm).1⟩
    · have h1:=S1.envOk.above
      obtain ⟨o,e⟩:=S1.alive _ S1.envOk.loc
      have h2:=Heap.lt_size (k3 _ _ (k2 _ _ e))
      rw [hC] at h2
      exact Nat.le_trans h1 (Nat.le_of_lt h2)
    · have:=(newCell n a hm).2
      rw [q] at this
      exact Nat.lt_irrefl _ this
  have clfree:∀ p∈scope.names,p.2=.free→∃ a,env.cells.lookup p.1=some a:=fun p hp e=>by
    obtain ⟨_,⟨i,hi⟩,hk⟩:=CK.fre p hp e
    obtain ⟨a,_,e1,_⟩:=So.vars.cell p.1 i hi hk
    exact ⟨a,e1⟩
  have look:∀ {n:Str} {a:Addr},(compE scope env C).cells.lookup n=some a→(n,a)∈cellsFrom (C+1) scope.names []∨(env.cells.lookup n=some a∧(n,.free)∈scope.names):=by
    intro n a e
    have e':(cellsFrom (C+1) scope.names []++clOf env scope.names []).lookup n=some a:=e
    rw [List.lookup_append] at e'
    cases hq:(cellsFrom (C+1) scope.names []).lookup n with
    | some a' =>
      rw [hq] at e'
      cases e'
      exact .inl (mem_of_lookup hq)
    | none =>
      rw [hq] at e'
      rcases cl_sound clfree e' with q | q
      · cases q
      · exact .inr q
  have big:∀ {b:Addr},b < C+1→h1.get? b=none→∀ n,(compE scope env C).cells.lookup n≠some b:=by
    intro b hb e n q
    rcases look q with q | ⟨q,_⟩
    · exact Nat.lt_irrefl _ (Nat.lt_of_lt_of_le hb (newCell n b q).2)
    · exact nc e n q
  have xcell:∀ a,(compE scope env C).cells.lookup x=some a→∃ n,(n,a)∈cellsFrom (C+1) scope.names []:=by
    intro a q
    rcases look q with q | ⟨_,q⟩
    · exact ⟨x,q⟩
    · exact absurd rfl (CK.fre _ q rfl).1
  have cs0:CS g h₀ c (inner c scope.names x) env (compE scope env C) XX ρ ve D St Inv s.heap 0 σ1 [] .unset h5:=by
    refine ⟨Si,So,Wk.W.frame _ _ _ st0 fun b hb o e=>k5 _ _ (k4 _ _ (k3 _ _ e)),Wk.start XX h5 ⟨fun b q=>.inl q,newOf⟩ k15,⟨[],⟨0,aD5⟩,RepVs_nil.mpr rfl⟩,k1.trans k15.ext⟩
  have loop:codeAny (model g.prog g.w) A (.compLoop (.ListComp elt [⟨.Name x px,iter,ifs,0⟩] scope pos) 0 (.ref I) (.ref D) (compE scope env C)) (RR (.ref D) C) { s with heap:=h5,toks:=tk1 }:=by
    refine comp_loop (s:=s) (XX:=XX) aok B TT CK Wk S.vars.len helt hifs (.inr (.inl rfl)) (.inr (.inr (.inl rfl))) (.inr (.inr (.inr (.inl rfl)))) (nρ nI1) (nρ nD1) (nρ nC1) ID IC DC ?_ ⟨nL nI1,nc nI1⟩ ⟨nL nD1,nc nD1⟩ ⟨nL nC1,nc nC1⟩
      (big (by rw [lC]; exact Nat.lt_succ_of_lt (Nat.lt_succ_of_lt lI)) nI1) (big (by rw [lC]; exact Nat.lt_succ_of_lt (Nat.lt_succ_self _)) nD1) (fun a q=>?_) (fun o q=>?_) (fun o q=>?_) (fun o q=>?_) (fun a o q q'=>?_)
      (fun b q=>.inl q) S.envOk.loc (fun n a e=>(S.envOk.cells n a e).1) S.muts.mem (nX nI1) ?_ fx e3 cs0
    · intro b hb
      rcases Wk.fpx b hb with q | ⟨q,o,ho⟩
      · exact .inl q
      · refine .inr fun xb=>?_
        rcases newOf b xb with r | r
        · exact q r
        · rw [show h1.get? b=some o from ho] at r; cases r
    · obtain ⟨n,hm⟩:=xcell a q
      exact ⟨.inr (.inr (.inr (.inr ⟨n,hm⟩))),nρ (nc1 n a hm),nL (nc1 n a hm),nc (nc1 n a hm)⟩
    · rw [ns nD1] at q; cases q
    · rw [ns nI1] at q; cases q
    · rw [ns nC1] at q; cases q
    · obtain ⟨n,hm⟩:=xcell a q
      rw [ns (nc1 n a hm)] at q'; cases q'
    · intro h' tk vs m' St' hn pl rv ex
      refine hRR D C h' tk m' ys rfl (ns nD1) (ns nC1) DC hn ex St' ?_
      exact ⟨vs,pl,rv⟩
  exact codeAny_compStart_list loop (Wk.W.self 0 _ _ _ cs0.st loop)
theorem not_set_fold {e:Expr} (h:notSet e=true) (env:Env) (x:Value):foldedSetIterable e env x=pure x:=by
  cases e <;> first | rfl | (cases h; done)
theorem es_comp {elt iter:Expr} {x:Str} {px:Pos} {ifs:List Expr} {scope:Scope} {pos:Pos} {cond:MT} {melt mit:ME} (hkind:scope.kind=.function) (hset:notSet iter=true) (CK:CompK c scope.names x)
    (hit:ESound g mg mb c iter mit) (helt:ESound g mg mb (inner c scope.names x) elt melt) (hifs:(ifs=[]∧cond=.tt)∨∃ t,ifs=[t]∧TSound g mg mb (inner c scope.names x) t cond) :
    ESound g mg mb c (.ListComp elt [⟨.Name x px,iter,ifs,0⟩] scope pos) (.comp melt mit cond):=by
  intro T n h₀ A env X ρ ve σ s aok B TT S m σ' e Q E hQ
  have clfree:∀ p∈scope.names,p.2=.free→∃ a,env.cells.lookup p.1=some a:=fun p hp e=>by
    obtain ⟨_,⟨i,hi⟩,hk⟩:=CK.fre p hp e
    obtain ⟨a,_,e1,_⟩:=S.vars.cell p.1 i hi hk
    exact ⟨a,e1⟩
  rw [eval_ListComp]
  refine wpAny_comprehension_free (use:=none) rfl (not_set_fold hset env) (closure_eq clfree) hkind (fun p hp e=>(CK.loc p hp e).2) ?_
  refine comp_core hkind CK hit helt hifs aok B TT S e (RR:=fun acc C=>compPost (model g.prog g.w) A E none Q acc C) fun D C h' tk m' ys em nD nC DC hn ex S' rv=>?_
  subst em
  refine ⟨m',hn,fun h'' hs=>?_⟩
  have kb:∀ b o,b≠C→h'.get? b=some o→h''.get? b=some o:=fun b o nb e=>hs.extBut b o nb e
  have mvD:Move h' h'' (fun b=>X b∨b=C∨b=D) (Plus X D):=fun b o nb e=>⟨kb b o (fun q=>nb (.inr (.inl q))) e,fun q=>nb (q.elim .inl (fun q=>.inr (.inr q)))⟩
  have M':=S'.muts
  have cρ:C ∉ ρ:=fun hm=>(S.alive.fresh nC) (S.muts.mem _ hm)
  have M2:Muts g h'' (Plus X D) ρ σ':=⟨M'.len,fun i c a e1 e2=>⟨RepC.move mvD (M'.at_ i c a e1 e2).1 fun o e=>kb a o (fun q=>cρ (q ▸ List.mem_of_getElem? e2)) e,(M'.at_ i c a e1 e2).2⟩,fun a ha=>.inl (S.muts.mem a ha),M'.nodup⟩
  have rD:RepC g h'' (Plus X D) (.list ys) D:=RepC.move mvD rv fun o e=>kb D o DC e
  refine hQ _ h'' tk (fun b o nb e=>kb b o (fun q=>by subst q; rw [nC] at e; cases e) (ex b o nb e)) (M2.weaken (fun b q=>.inl q) S.muts.mem) (.inr ⟨D,rfl,S.alive.fresh nD,RepC.move (fun b o n e=>⟨e,fun q=>n (.inl q)⟩) rD fun o e=>e⟩) fun _=>⟨D,_,rfl,rfl,nD,M2,rD⟩
end
end Mine
set_option genCtorIdx false
set_option genSizeOf false
set_option genInjectivity false
namespace Mine
open PySem PyProof.Rows PySem.W PySem.Calls
theorem map_inv {α β:Type} {o:Option α} {f:α→β} {b:β} (e:o.map f=some b):∃ a,o=some a∧f a=b:=om_inv e
section
variable {g:GG} {mg mb:Str→Option Value} {c:Ctx}
theorem bs_and_one {e:Expr} {t:MT} (h:TSound g mg mb c e t):BSound g mg mb c .And [e] t:=by
  intro T n h₀ A env X ρ ve σ s aok B TT S b σ' ev Q E hQ
  refine wpAny_allTrue_And_cons (h T n h₀ A env X ρ ve σ s aok B TT S b σ' ev _ _ fun h' tk k M=>?_)
  cases b with
  | true=>exact wpAny_allTrue_And_nil (hQ h' tk k M)
  | false=>exact hQ h' tk k M
theorem bs_or_one {e:Expr} {t:MT} (h:TSound g mg mb c e t):BSound g mg mb c .Or [e] t:=by
  intro T n h₀ A env X ρ ve σ s aok B TT S b σ' ev Q E hQ
  refine wpAny_allTrue_Or_cons (h T n h₀ A env X ρ ve σ s aok B TT S b σ' ev _ _ fun h' tk k M=>?_)
  cases b with
  | true=>exact hQ h' tk k M
  | false=>exact wpAny_allTrue_Or_nil (hQ h' tk k M)
theorem bs_and_cons {e:Expr} {es:List Expr} {t t':MT} (h:TSound g mg mb c e t) (hs:BSound g mg mb c .And es t'):BSound g mg mb c .And (e::es) (.and t t'):=by
  intro T n h₀ A env X ρ ve σ s aok B TT S b σ' ev Q E hQ
  refine Res.bindC ev fun b1 σ1 h1 ev=>wpAny_allTrue_And_cons (h T n h₀ A env X ρ ve σ s aok B TT S b1 σ1 h1 _ _ fun h' tk k M=>?_)
  cases b1 with
  | true=>exact hs T n h₀ A env X ρ ve σ1 { s with heap:=h',toks:=tk } aok B TT (S.move k M) b σ' ev _ _ fun h'' tk' k' M'=>hQ h'' tk' (k.trans k') M'
  | false =>
    obtain ⟨rfl,rfl⟩:=Res.ok_inv ev
    exact hQ h' tk k M
theorem bs_or_cons {e:Expr} {es:List Expr} {t t':MT} (h:TSound g mg mb c e t) (hs:BSound g mg mb c .Or es t'):BSound g mg mb c .Or (e::es) (.or t t'):=by
  intro T n h₀ A env X ρ ve σ s aok B TT S b σ' ev Q E hQ
  refine Res.bindC ev fun b1 σ1 h1 ev=>wpAny_allTrue_Or_cons (h T n h₀ A env X ρ ve σ s aok B TT S b1 σ1 h1 _ _ fun h' tk k M=>?_)
  cases b1 with
  | false=>exact hs T n h₀ A env X ρ ve σ1 { s with heap:=h',toks:=tk } aok B TT (S.move k M) b σ' ev _ _ fun h'' tk' k' M'=>hQ h'' tk' (k.trans k') M'
  | true =>
    obtain ⟨rfl,rfl⟩:=Res.ok_inv ev
    exact hQ h' tk k M
theorem ts_bool {o:BoolOp} {es:List Expr} {pos:Pos} {t:MT} (h:BSound g mg mb c o es t):TSound g mg mb c (.BoolOp o es pos) t:=by
  intro T n h₀ A env X ρ ve σ s aok B TT S b σ' ev Q E hQ
  exact wpAny_isTrue_BoolOp (h T n h₀ A env X ρ ve σ s aok B TT S b σ' ev Q E hQ)
theorem ts_not {x:Expr} {pos:Pos} {t:MT} (h:TSound g mg mb c x t):TSound g mg mb c (.UnaryOp .Not x pos) (.not t):=by
  intro T n h₀ A env X ρ ve σ s aok B TT S b σ' ev Q E hQ
  refine Res.bindC ev fun b1 σ1 h1 ev=>?_
  obtain ⟨rfl,rfl⟩:=Res.ok_inv ev
  exact wpAny_isTrue_Not (h T n h₀ A env X ρ ve σ s aok B TT S b1 _ h1 _ _ fun h' tk k M=>hQ h' tk k M)
theorem ts_tru {e:Expr} {me:ME} (hp:plainTest e=true) (h:ESound g mg mb c e me):TSound g mg mb c e (.tru me):=by
  intro T n h₀ A env X ρ ve σ s aok B TT S b σ' ev Q E hQ
  refine wpAny_isTrue_value (one_eval S (h T n h₀ A env X ρ ve σ s aok B TT S) ev fun v x h' tk S1 k R ez=>truP ez R (hQ h' tk k S1.muts)) ?_
  cases e <;> first | rfl | (cases hp; done) | skip
  rename_i op _ _
  cases op <;> first | rfl | (cases hp; done)
inductive Els (g:GG) (mg mb:Str→Option Value) (c:Ctx):List Expr→MEs→Prop
  | nil:Els g mg mb c [] .nil
  | cons {e:Expr} {es:List Expr} {me:ME} {mes:MEs}:isStar e=false→ESound g mg mb c e me→Els g mg mb c es mes→Els g mg mb c (e::es) (.cons me mes)
theorem Els.sound {es:List Expr} {mes:MEs} (h:Els g mg mb c es mes):LSound g mg mb c es mes:=by
  induction h with
  | nil=>exact ls_nil
  | cons h1 h2 _ ih=>exact ls_cons h1 h2 ih
theorem Els.plain {es:List Expr} {mes:MEs} (h:Els g mg mb c es mes) (pos:Pos) (env:Env):(backTo pos (starEach es env)).any (·.1)=false:=by
  induction h with
  | nil=>rfl
  | cons h1 h2 _ ih =>
    rw [starEach_plain h1]
    exact ih
noncomputable def freshNames:Str→Bool:=fun f=>f == ("list":Str) || f == ("iter":Str)
theorem fresh_fn {f:Str} (h:freshNames f=false) (fp pos:Pos) (args:List Expr):isFresh (.Call (.Name f fp) args [] pos)=false:=by
  show ((freshNames f && args.length == 1) && true)=false
  rw [h]; rfl
theorem fn_ok {f:Str} {fp pos:Pos} {a:Expr} {as:List Expr} {mes:MEs} {q:Fn} (hg:isGlob c f=true) (hq:fnOf f=some q) (hf:freshNames f=false) (h:Els g mg mb c (a::as) mes):ESound g mg mb c (.Call (.Name f fp) (a::as) [] pos) (.call q mes):=by
  cases h with
  | cons h1 h2 h3=>exact es_call hg hq h1 h3.plain (ls_cons h1 h2 h3.sound) (fresh_fn hf _ _ _)
structure CE (g:GG) (mg mb:Str→Option Value) (c:Ctx) (e:Expr) where
  me:ME
  ok:ESound g mg mb c e me
structure CL (g:GG) (mg mb:Str→Option Value) (c:Ctx) (es:List Expr) where
  mes:MEs
  ok:Els g mg mb c es mes
structure CT (g:GG) (mg mb:Str→Option Value) (c:Ctx) (e:Expr) where
  t:MT
  ok:TSound g mg mb c e t
structure CB (g:GG) (mg mb:Str→Option Value) (c:Ctx) (o:BoolOp) (es:List Expr) where
  t:MT
  ok:BSound g mg mb c o es t
structure CC (g:GG) (mg mb:Str→Option Value) (c:Ctx) (x:Str) (it elt:Expr) (ifs:List Expr) (scope:Scope) where
  mit:ME
  melt:ME
  t:MT
  kind:scope.kind=.function
  set:notSet it=true
  ck:CompK c scope.names x
  hit:ESound g mg mb c it mit
  helt:ESound g mg mb (inner c scope.names x) elt melt
  ht:(ifs=[]∧t=.tt)∨∃ e,ifs=[e]∧TSound g mg mb (inner c scope.names x) e t
end
noncomputable def ifT {α:Type} (b:Bool) (f:b=true→Option α):Option α:=if h:b=true then f h else none
noncomputable def ifN {α:Type} (b:Bool) (f:b=false→Option α):Option α:=if h:b=false then f h else none
noncomputable def withS {α β:Type} (o:Option α) (f:(a:α)→o=some a→Option β):Option β:=match o,f with
  | some a,f=>f a rfl
  | none,_=>none
section
variable (g:GG) (mg mb:Str→Option Value)
noncomputable def callOne (c:Ctx) (f:Str) (fp pos:Pos) (a:Expr) (ra:Option (CE g mg mb c a)) (hg:isGlob c f=true):Option (CE g mg mb c (.Call (.Name f fp) [a] [] pos)) :=
  ifN (isStar a) fun hs=>match hp:p1Of f with
    | some p=>ra.map fun r=>⟨.p1 p r.me,es_p1 hg hp hs r.ok⟩
    | none=>match a,hs,ra with
      | .Name x xp,_,ra=>if hf:f="next" then withS (varOf c x) fun i hi=>some ⟨.next i,by subst hf; exact es_next hg hi⟩
        else if hf:f="_parse_varint" then withS (varOf c x) fun i hi=>some ⟨.pvar i,by subst hf; exact es_pvar hg hi⟩
        else withS (fnOf f) fun q hq=>ifN (freshNames f) fun hf=>ra.map fun r=>⟨.call q (.cons r.me .nil),fn_ok hg hq hf (.cons rfl r.ok .nil)⟩
      | a,hs,ra=>withS (fnOf f) fun q hq=>ifN (freshNames f) fun hf=>ra.map fun r=>⟨.call q (.cons r.me .nil),fn_ok hg hq hf (.cons hs r.ok .nil)⟩
noncomputable def callTwo (c:Ctx) (f:Str) (fp pos:Pos) (a b:Expr) (ra:Option (CE g mg mb c a)) (rb:Option (CE g mg mb c b)) (hg:isGlob c f=true):Option (CE g mg mb c (.Call (.Name f fp) [a,b] [] pos)) :=
  ifN (isStar a) fun hs=>ifN (isStar b) fun hs' =>
    if hf:f="range" then ra.bind fun r=>rb.map fun r'=>⟨.p2 .range r.me r'.me,by subst hf; exact es_range2 hg hs hs' r.ok r'.ok⟩
    else if hf:f="isinstance" then (match b,hs',rb with
      | .Name y yp,_,_=>if hy:y="tuple" then ifT (isGlob c "tuple") fun hgy=>ra.map fun r=>⟨.p1 .isTup r.me,by subst hf; subst hy; exact es_isTup hg hgy hs r.ok⟩ else none
      | _,_,_=>none)
    else withS (fnOf f) fun q hq=>ifN (freshNames f) fun hf=>ra.bind fun r=>rb.map fun r'=>⟨.call q (.cons r.me (.cons r'.me .nil)),fn_ok hg hq hf (.cons hs r.ok (.cons hs' r'.ok .nil))⟩
noncomputable def callThree (c:Ctx) (f:Str) (fp pos:Pos) (a b d:Expr) (ra:Option (CE g mg mb c a)) (rb:Option (CE g mg mb c b)) (rd:Option (CE g mg mb c d)) (hg:isGlob c f=true):Option (CE g mg mb c (.Call (.Name f fp) [a,b,d] [] pos)) :=
  ifN (isStar a) fun hs=>ifN (isStar b) fun hs'=>ifN (isStar d) fun hs''=>ra.bind fun r=>rb.bind fun r'=>rd.bind fun r''=>match hp:p3Of f with
    | some p=>some ⟨.p3 p r.me r'.me r''.me,es_p3 hg hp hs hs' hs'' r.ok r'.ok r''.ok⟩
    | none=>withS (fnOf f) fun q hq=>ifN (freshNames f) fun hf=>some ⟨.call q (.cons r.me (.cons r'.me (.cons r''.me .nil))),fn_ok hg hq hf (.cons hs r.ok (.cons hs' r'.ok (.cons hs'' r''.ok .nil)))⟩
noncomputable def callMany (c:Ctx) (f:Str) (fp pos:Pos) (args:List Expr) (r:Option (CL g mg mb c args)) (hg:isGlob c f=true):Option (CE g mg mb c (.Call (.Name f fp) args [] pos)):=match args,r with
  | [],_=>none
  | _::_,r=>withS (fnOf f) fun q hq=>ifN (freshNames f) fun hf=>r.map fun r=>⟨.call q r.mes,fn_ok hg hq hf r.ok⟩
noncomputable def methNone (c:Ctx) (o:Expr) (m:Str) (ap cp:Pos) (ro:Option (CE g mg mb c o)) (hb:plainBase o=true) (hl:(ap.endLine == cp.line)=true):Option (CE g mg mb c (.Call (.Attribute o m ap) [] [] cp)) :=
  withS (m0Of m) fun p hp=>ro.map fun r=>⟨.view p r.me,es_view hp hb hl r.ok⟩
noncomputable def methOne (c:Ctx) (o:Expr) (m:Str) (ap cp:Pos) (a:Expr) (ro:Option (CE g mg mb c o)) (ra:Option (CE g mg mb c a)) (hb:plainBase o=true) (hl:(ap.endLine == cp.line)=true):Option (CE g mg mb c (.Call (.Attribute o m ap) [a] [] cp)) :=
  ifN (isStar a) fun hs=>match hp:m1Of m with
    | some p=>ro.bind fun r=>ra.map fun r'=>⟨.p2 p r.me r'.me,es_m1 hp hb hl hs r.ok r'.ok⟩
    | none=>if hm:m="pop" then (match o,hb,ro with
      | .Name x xp,_,_=>withS (varOf c x) fun i hi=>ra.map fun r=>⟨.pop i r.me,by subst hm; exact es_pop hi hl hs r.ok⟩
      | _,_,_=>none) else none
noncomputable def methTwo (c:Ctx) (o:Expr) (m:Str) (ap cp:Pos) (a b:Expr) (ro:Option (CE g mg mb c o)) (ra:Option (CE g mg mb c a)) (rb:Option (CE g mg mb c b)) (hb:plainBase o=true) (hl:(ap.endLine == cp.line)=true):Option (CE g mg mb c (.Call (.Attribute o m ap) [a,b] [] cp)) :=
  ifN (isStar a) fun hs=>ifN (isStar b) fun hs' =>
    if hm:m="compare" then ro.bind fun r=>ra.bind fun r1=>rb.map fun r2=>⟨.call .compare (.cons r.me (.cons r1.me (.cons r2.me .nil))),by subst hm; exact es_compare hb hl hs hs' r.ok (ls_cons hs r1.ok (ls_cons hs' r2.ok ls_nil))⟩
    else if hm:m="get" then (match o,hb,ro with
      | .Name y yp,_,_=>if hy:y="COMPILER_FLAG_NAMES" then ifT (isGlob c "COMPILER_FLAG_NAMES") fun hgy=>ra.bind fun r=>rb.map fun r'=>⟨.p2 .flagGet r.me r'.me,by subst hm; subst hy; exact es_get hgy hl hs hs' r.ok r'.ok⟩ else none
      | _,_,_=>none) else none
mutual
noncomputable def kE:Nat→(c:Ctx)→(e:Expr)→Option (CE g mg mb c e)
  | 0,_,_=>none
  | n+1,c,e=>match e with
    | .Constant k _ _=>withS (cstOf k) fun v hv=>some ⟨.cst v,es_const hv⟩
    | .Name x _=>match hv:varOf c x with
      | some i=>some ⟨.var i,es_var hv⟩
      | none=>ifT (isGlob c x) fun hg=>withS (globConst x) fun v hv=>some ⟨.cst v,es_glob hg hv⟩
    | .BinOp l o r _=>withS (bopOf o) fun b hb=>(kE n c l).bind fun x=>(kE n c r).map fun y=>⟨.bin b x.me y.me,es_bin hb x.ok y.ok⟩
    | .UnaryOp o x _=>match o with
      | .USub=>(kE n c x).map fun x=>⟨.neg x.me,es_neg x.ok⟩
      | _=>none
    | .Compare l os rs _=>match os,rs with
      | [o],[r]=>ifN (behindInMarks o r) fun hb=>withS (copOf o) fun b ho=>(kE n c l).bind fun x=>(kE n c r).map fun y=>⟨.cmp b x.me y.me,es_cmp ho hb x.ok y.ok⟩
      | _,_=>none
    | .IfExp t a b _=>(kT n c t).bind fun t=>(kE n c a).bind fun a=>(kE n c b).map fun b=>⟨.ite t.t a.me b.me,es_ite t.ok a.ok b.ok⟩
    | .List es _=>(kEs n c es).map fun r=>⟨.list r.mes,es_list r.ok.sound⟩
    | .Tuple es _ _=>(kEs n c es).map fun r=>⟨.tup r.mes,es_tup r.ok.sound⟩
    | .Dict ks vs _=>match ks,vs with
      | [],[]=>some ⟨.dict0 c.sd,es_dict0⟩
      | [some k],[v]=>(kE n c k).bind fun k=>(kE n c v).map fun v=>⟨.dict1 k.me v.me,es_dict1 k.ok v.ok⟩
      | _,_=>none
    | .Subscript v i _=>match i with
      | .Slice none (some (.Constant (.int m) _ _)) none _=>if hm:0≤m then ifT (isName v) fun hn=>(kE n c v).map fun v=>⟨.cut v.me m.toNat,es_cut hm hn v.ok⟩ else none
      | i=>ifN (isSlice i) fun hs=>(kE n c v).bind fun v=>(kE n c i).map fun i=>⟨.idx v.me i.me,es_idx hs v.ok i.ok⟩
    | .Attribute o a _=>match o with
      | .Name x p=>if ha:a="comp_select_list" then (kE n c (.Name x p)).map fun r=>⟨.p1 .attr r.me,by subst ha; exact es_attr r.ok⟩ else none
      | _=>none
    | .ListComp elt gens scope _=>match gens with
      | [⟨.Name x _,it,ifs,0⟩]=>(kC n c x it elt ifs scope).map fun r=>⟨.comp r.melt r.mit r.t,es_comp r.kind r.set r.ck r.hit r.helt r.ht⟩
      | _=>none
    | .Call f args ks cp=>match ks with
      | []=>match f with
        | .Name f fp=>ifT (isGlob c f) fun hg=>match args with
          | [a]=>callOne g mg mb c f fp cp a (kE n c a) hg
          | [a,b]=>callTwo g mg mb c f fp cp a b (kE n c a) (kE n c b) hg
          | [a,b,d]=>callThree g mg mb c f fp cp a b d (kE n c a) (kE n c b) (kE n c d) hg
          | args=>callMany g mg mb c f fp cp args (kEs n c args) hg
        | .Attribute o m ap=>ifT (plainBase o) fun hb=>ifT (ap.endLine == cp.line) fun hl=>match args with
          | []=>methNone g mg mb c o m ap cp (kE n c o) hb hl
          | [a]=>methOne g mg mb c o m ap cp a (kE n c o) (kE n c a) hb hl
          | [a,b]=>methTwo g mg mb c o m ap cp a b (kE n c o) (kE n c a) (kE n c b) hb hl
          | _=>none
        | _=>none
      | _=>none
    | _=>none
noncomputable def kC:Nat→(c:Ctx)→(x:Str)→(it elt:Expr)→(ifs:List Expr)→(scope:Scope)→Option (CC g mg mb c x it elt ifs scope)
  | 0,_,_,_,_,_,_=>none
  | n+1,c,x,it,elt,ifs,scope=>ifT (scope.kind == .function) fun hk=>ifT (notSet it) fun hs=>ifT (compOk c scope.names x) fun hc=>(kE n c it).bind fun i=>(kE n (inner c scope.names x) elt).bind fun el=>match ifs with
    | []=>some ⟨i.me,el.me,.tt,beq_iff_eq.mp hk,hs,compOk_inv hc,i.ok,el.ok,.inl ⟨rfl,rfl⟩⟩
    | [t]=>(kT n (inner c scope.names x) t).map fun r=>⟨i.me,el.me,r.t,beq_iff_eq.mp hk,hs,compOk_inv hc,i.ok,el.ok,.inr ⟨_,rfl,r.ok⟩⟩
    | _=>none
noncomputable def kEs:Nat→(c:Ctx)→(es:List Expr)→Option (CL g mg mb c es)
  | 0,_,_=>none
  | n+1,c,es=>match es with
    | []=>some ⟨.nil,.nil⟩
    | e::es=>ifN (isStar e) fun hs=>(kE n c e).bind fun r=>(kEs n c es).map fun r'=>⟨.cons r.me r'.mes,.cons hs r.ok r'.ok⟩
noncomputable def kT:Nat→(c:Ctx)→(e:Expr)→Option (CT g mg mb c e)
  | 0,_,_=>none
  | n+1,c,e=>match e with
    | .Compare l os rs _=>match os,rs with
      | [o],[r]=>ifN (behindInMarks o r) fun hb=>withS (copOf o) fun b ho=>(kE n c l).bind fun x=>(kE n c r).map fun y=>⟨.cmp b x.me y.me,ts_cmp ho hb x.ok y.ok⟩
      | _,_=>none
    | .BoolOp o vs _=>match o with
      | .And=>(kAnd n c vs).map fun r=>⟨r.t,ts_bool r.ok⟩
      | .Or=>(kOr n c vs).map fun r=>⟨r.t,ts_bool r.ok⟩
    | .UnaryOp .Not x _=>(kT n c x).map fun r=>⟨.not r.t,ts_not r.ok⟩
    | e=>ifT (plainTest e) fun hp=>(kE n c e).map fun r=>⟨.tru r.me,ts_tru hp r.ok⟩
noncomputable def kAnd:Nat→(c:Ctx)→(es:List Expr)→Option (CB g mg mb c .And es)
  | 0,_,_=>none
  | n+1,c,es=>match es with
    | []=>none
    | [e]=>(kT n c e).map fun r=>⟨r.t,bs_and_one r.ok⟩
    | e::es=>(kT n c e).bind fun r=>(kAnd n c es).map fun r'=>⟨.and r.t r'.t,bs_and_cons r.ok r'.ok⟩
noncomputable def kOr:Nat→(c:Ctx)→(es:List Expr)→Option (CB g mg mb c .Or es)
  | 0,_,_=>none
  | n+1,c,es=>match es with
    | []=>none
    | [e]=>(kT n c e).map fun r=>⟨r.t,bs_or_one r.ok⟩
    | e::es=>(kT n c e).bind fun r=>(kOr n c es).map fun r'=>⟨.or r.t r'.t,bs_or_cons r.ok r'.ok⟩
end
end
structure Aft (env:Env) (X:Addr→Prop) (ρ:List Addr) (X':Addr→Prop) (ρ':List Addr) (h h':Heap):Prop where
  sub:∀ b,X b→X' b
  new:∀ b,X' b→X b∨h.get? b=none
  ρnew:∀ a∈ρ',a∈ρ∨h.get? a=none
  ext:Ext (Own env ρ) h h'
  pre:ρ <+: ρ'
theorem Aft.refl (env:Env) (X:Addr→Prop) (ρ:List Addr) (h:Heap):Aft env X ρ X ρ h h:=⟨fun _ x=>x,fun _ x=>.inl x,fun _ x=>.inl x,Ext.refl h,List.prefix_rfl⟩
section
variable {g:GG} {mg mb:Str→Option Value} {c:Ctx} {h₀:Heap} {A:Around} {env:Env} {X X' X'':Addr→Prop} {ρ ρ' ρ'':List Addr} {ve ve':List MV} {σ σ':List AV} {s:Shared} {h h' h'':Heap}
theorem Stt.own (S:Stt g h₀ c env X ρ ve σ h):∀ b,Own env ρ b→X b:=by
  rintro b (q | ⟨n,q⟩ | q)
  · exact q ▸ S.envOk.loc
  · exact (S.envOk.cells n b q).1
  · exact S.muts.mem b q
theorem Aft.alive (a:Aft env X ρ X' ρ' h h') (S':Stt g h₀ c env X' ρ' ve' σ' h') (own:∀ b,Own env ρ b→X b) {b:Addr} {o:Obj} (e:h.get? b=some o):∃ o',h'.get? b=some o':=by
  by_cases q:Own env ρ b
  · exact S'.alive b (a.sub b (own b q))
  · exact ⟨o,a.ext b o q e⟩
theorem Aft.trans (a:Aft env X ρ X' ρ' h h') (a':Aft env X' ρ' X'' ρ'' h' h'') (own:∀ b,Own env ρ b→X b) (al:Alive X' h'):Aft env X ρ X'' ρ'' h h'':=by
  have back:∀ b,h'.get? b=none→h.get? b=none:=by
    intro b e
    cases q:h.get? b with
    | none=>rfl
    | some o =>
      by_cases w:Own env ρ b
      · obtain ⟨o',e'⟩:=al b (a.sub b (own b w))
        rw [e] at e'; cases e'
      · have:=a.ext b o w q
        rw [e] at this; cases this
  refine ⟨fun b x=>a'.sub b (a.sub b x),fun b x=>?_,fun b x=>?_,fun b o n e=>a'.ext b o (fun w=>?_) (a.ext b o n e),a.pre.trans a'.pre⟩
  · rcases a'.new b x with q | q
    · exact a.new b q
    · exact .inr (back b q)
  · rcases a'.ρnew b x with q | q
    · exact a.ρnew b q
    · exact .inr (back b q)
  · rcases w with q | q | q
    · exact n (.inl q)
    · exact n (.inr (.inl q))
    · rcases a.ρnew b q with q | q
      · exact n (.inr (.inr q))
      · rw [q] at e; cases e
theorem Aft.of_ext (k:Ext (·∈ρ) h h'):Aft env X ρ X ρ h h':=⟨fun _ x=>x,fun _ x=>.inl x,fun _ x=>.inl x,k.mono fun _ q=>.inr (.inr q),List.prefix_rfl⟩
theorem Aft.of_grow (k:Grow h h') (sub:∀ b,X b→X' b) (new:∀ b,X' b→X b∨h.get? b=none):Aft env X ρ X' ρ h h':=⟨sub,new,fun _ x=>.inl x,k.ext,List.prefix_rfl⟩
theorem Aft.move (a:Aft env X ρ X' ρ' h h') (own:∀ b,Own env ρ b→X b):Move h h' X X':=fun b o n e=>⟨a.ext b o (fun w=>n (own b w)) e,fun x=>(a.new b x).elim n fun q=>by rw [q] at e; cases e⟩
theorem Stt.track {a:Addr} {z:AV} (S:Stt g h₀ c env X ρ ve σ h) (xa:X a) (aρ:a ∉ ρ) (aL:a≠env.locals) (ac:∀ n,env.cells.lookup n≠some a) (r:RepC g h X z a) (cm:canMut z=true):Stt g h₀ c env X (ρ++[a]) ve (σ++[z]) h:=by
  have O:=S.envOk
  have V:=S.vars
  have M:=S.muts
  have mem:∀ {b:Addr},b∈ρ++[a]→b∈ρ∨b=a:=fun hb=>by simpa using hb
  have rm:∀ {mv:MV} {v:Value},RepM g h X ρ mv v→RepM g h X (ρ++[a]) mv v:=fun {mv} {v} r=>by
    cases mv with
    | val x=>exact r
    | mu i =>
      obtain ⟨b,e1,e2⟩:=r
      exact ⟨b,by rw [List.getElem?_append_left (List.getElem?_eq_some_iff.mp e1).1]; exact e1,e2⟩
    | unset=>exact r
  refine ⟨S.keep,S.xnew,S.alive,⟨O.kind,O.glob,O.blt,O.loc,fun hm=>(mem hm).elim O.locρ (fun q=>aL q.symm),O.above,fun n b e=>⟨(O.cells n b e).1,fun hm=>(mem hm).elim (O.cells n b e).2.1 (fun q=>ac n (q ▸ e)),(O.cells n b e).2.2⟩,O.apart,O.kl,O.kc,O.kf,O.kg,O.slot,O.inj⟩,
    ⟨?_,fun n i h1 h2=>?_,V.len⟩,⟨by simp [M.len],fun i cc b e1 e2=>?_,fun b hb=>(mem hb).elim (M.mem b) (fun q=>q ▸ xa),?_⟩⟩
  · obtain ⟨m,hn,hm⟩:=V.ns
    refine ⟨m,hn,fun n i mv h1 h2 h3 h4=>?_⟩
    obtain ⟨v,hv,r⟩:=hm n i mv h1 h2 h3 h4
    exact ⟨v,hv,rm r⟩
  · obtain ⟨b,vo,e1,hc,e3⟩:=V.cell n i h1 h2
    refine ⟨b,vo,e1,hc,fun mv q1 q2=>?_⟩
    obtain ⟨v,hv,r⟩:=e3 mv q1 q2
    exact ⟨v,hv,rm r⟩
  · by_cases hi:i < σ.length
    · rw [List.getElem?_append_left hi] at e1
      rw [List.getElem?_append_left (by rw [M.len]; exact hi)] at e2
      exact M.at_ i cc b e1 e2
    · have hi':i=σ.length:=by
        have:=(List.getElem?_eq_some_iff.mp e1).1
        simp at this
        omega
      subst hi'
      rw [List.getElem?_concat_length] at e1
      rw [← M.len,List.getElem?_concat_length] at e2
      cases e1; cases e2
      exact ⟨r,cm⟩
  · rw [List.nodup_append]
    refine ⟨M.nodup,by simp,fun b hb b' hb'=>?_⟩
    rw [List.mem_singleton] at hb'
    subst hb'
    exact fun q=>aρ (q ▸ hb)
theorem Stt.fresh (S:Stt g h₀ c env X ρ ve σ s.heap) {m:MV} {v:Value} (k:Ext (·∈ρ) s.heap h') (f:FreshV g X ρ σ' s.heap h' m v):∃ a z,m=.val z∧v=.ref a∧s.heap.get? a=none∧Stt g h₀ c env (Plus X a) ρ ve σ' h'∧RepC g h' (Plus X a) z a ∧
    Aft env X ρ (Plus X a) ρ s.heap h'∧a ∉ ρ∧a≠env.locals∧(∀ n,env.cells.lookup n≠some a):=by
  obtain ⟨a,z,rfl,rfl,hn,M,r⟩:=f
  have nX:¬ X a:=S.alive.fresh hn
  have O:=S.envOk
  have V:=S.vars
  have mvv:Move s.heap h' X (Plus X a):=fun b o n e=>⟨k b o (fun q=>n (S.muts.mem b q)) e,fun q=>q.elim n fun q=>by subst q; rw [hn] at e; cases e⟩
  have rm:∀ {mv':MV} {v:Value},RepM g s.heap X ρ mv' v→RepM g h' (Plus X a) ρ mv' v:=fun {mv'} {v} r=>by
    cases mv' with
    | val x=>exact RepV.move mvv r
    | mu i=>exact r
    | unset=>exact r
  refine ⟨a,z,rfl,rfl,hn,⟨fun b o e=>?_,fun b x=>?_,fun b x=>?_,⟨O.kind,O.glob,O.blt,.inl O.loc,O.locρ,O.above,fun n b e=>⟨.inl (O.cells n b e).1,(O.cells n b e).2⟩,O.apart,O.kl,O.kc,O.kf,O.kg,O.slot,O.inj⟩,⟨?_,fun n i h1 h2=>?_,V.len⟩,M⟩,r,
    ⟨fun b x=>.inl x,fun b x=>x.elim .inl fun q=>.inr (q ▸ hn),fun _ x=>.inl x,k.mono fun _ q=>.inr (.inr q),List.prefix_rfl⟩,fun hm=>nX (S.muts.mem a hm),fun q=>nX (q ▸ O.loc),fun n q=>nX (O.cells n a q).1⟩
  · refine k b o (fun hb=>?_) (S.keep b o e)
    have:=S.xnew b (S.muts.mem b hb)
    rw [this] at e; cases e
  · rcases x with x | x
    · exact S.xnew b x
    · subst x
      cases q:h₀.get? b with
      | none=>rfl
      | some o=>rw [S.keep b o q] at hn; cases hn
  · rcases x with x | x
    · by_cases hb:b∈ρ
      · obtain ⟨i,hi⟩:=List.mem_iff_getElem?.mp hb
        have hl:i < σ'.length:=by rw [← M.len]; exact (List.getElem?_eq_some_iff.mp hi).1
        exact RepC.alive (M.at_ i (σ'[i]) b (List.getElem?_eq_getElem hl) hi).1
      · obtain ⟨o,e⟩:=S.alive b x
        exact ⟨o,k b o hb e⟩
    · subst x
      exact RepC.alive r
  · obtain ⟨m,hn',hm⟩:=V.ns
    refine ⟨m,Heap.Ns.at' hn' fun o e=>k _ _ O.locρ e,fun n i mv' h1 h2 h3 h4=>?_⟩
    obtain ⟨v,hv,r⟩:=hm n i mv' h1 h2 h3 h4
    exact ⟨v,hv,rm r⟩
  · obtain ⟨b,vo,e1,⟨o,ho,hd⟩,e3⟩:=V.cell n i h1 h2
    refine ⟨b,vo,e1,⟨o,k _ _ (O.cells n b e1).2.1 ho,hd⟩,fun mv' q1 q2=>?_⟩
    obtain ⟨v,hv,r⟩:=e3 mv' q1 q2
    exact ⟨v,hv,rm r⟩
theorem Aft.store {x:Str} (k:Ext (fun b=>b=env.locals∨env.cells.lookup x=some b) h h'):Aft env X ρ X ρ h h':=⟨fun _ x=>x,fun _ x=>.inl x,fun _ x=>.inl x,k.mono fun _ q=>q.elim .inl fun q=>.inr (.inl ⟨x,q⟩),List.prefix_rfl⟩
noncomputable def RetV (g:GG) (h:Heap) (X:Addr→Prop) (ρ:List Addr) (v:AV) (w:Value):Prop:=RepV g h X v w∨∃ a∈ρ,w=.ref a∧RepC g h X v a
noncomputable def SPost (g:GG) (h₀:Heap) (c:Ctx) (env:Env) (X:Addr→Prop) (ρ:List Addr) (s:Shared) (Q:Flow→Shared→Prop) (r:SRes):Prop:=@SRes.casesOn (fun _=>Prop) r
  (fun ve' σ'=>∀ X' ρ' h' tk,Aft env X ρ X' ρ' s.heap h'→Stt g h₀ c env X' ρ' ve' σ' h'→Q .next { s with heap:=h',toks:=tk })
  (fun ve' σ'=>∀ X' ρ' h' tk,Aft env X ρ X' ρ' s.heap h'→Stt g h₀ c env X' ρ' ve' σ' h'→Q .brk { s with heap:=h',toks:=tk })
  (fun v σ'=>∀ X' ρ' h' tk w,Aft env X ρ X' ρ' s.heap h'→Alive X' h'→Muts g h' X' ρ' σ'→RetV g h' X' ρ' v w→Q (.ret w) { s with heap:=h',toks:=tk }) (fun _ _=>False) False
noncomputable def SOK (g:GG) (h₀:Heap) (c:Ctx) (A:Around) (env:Env) (X:Addr→Prop) (ρ:List Addr) (s:Shared) (t:Sem Flow) (r:SRes):Prop :=
  ∀ (Q:Flow→Shared→Prop) (E:Value→Shared→Prop),SPost g h₀ c env X ρ s Q r→wpAny (model g.prog g.w) A t Q E s
structure SAok (c:Ctx) (n:Nat) (A:Around) (env:Env):Prop where
  aok:AOk n A
  top:isTop c=true→A.frames=some [env]∧env.frame=some env.locals
noncomputable def SSound (g:GG) (mg mb:Str→Option Value) (c:Ctx) (st:Stmt) (ms:MS):Prop :=
  ∀ (T:Tab) (n:Nat) (h₀:Heap) (A:Around) (env:Env) (X:Addr→Prop) (ρ:List Addr) (ve:List MV) (σ:List AV) (s:Shared),
    SAok c n A env→Base g mg mb h₀→TabOk g mg T n h₀→Stt g h₀ c env X ρ ve σ s.heap→SOK g h₀ c A env X ρ s (exec st env) (exS T ms ve σ)
noncomputable def SsSound (g:GG) (mg mb:Str→Option Value) (c:Ctx) (sts:List Stmt) (ms:MSs):Prop :=
  ∀ (T:Tab) (n:Nat) (h₀:Heap) (A:Around) (env:Env) (X:Addr→Prop) (ρ:List Addr) (ve:List MV) (σ:List AV) (s:Shared),
    SAok c n A env→Base g mg mb h₀→TabOk g mg T n h₀→Stt g h₀ c env X ρ ve σ s.heap→SOK g h₀ c A env X ρ s (execs sts env) (exSs T ms ve σ)
theorem SPost.later {Q:Flow→Shared→Prop} {r:SRes} {tk:Nat} (a:Aft env X ρ X' ρ' s.heap h') (own:∀ b,Own env ρ b→X b) (al:Alive X' h') (p:SPost g h₀ c env X ρ s Q r):SPost g h₀ c env X' ρ' { s with heap:=h',toks:=tk } Q r:=by
  cases r with
  | nx ve' σ'=>exact fun X2 ρ2 h2 tk2 a2 S2=>p X2 ρ2 h2 tk2 (a.trans a2 own al) S2
  | brk ve' σ'=>exact fun X2 ρ2 h2 tk2 a2 S2=>p X2 ρ2 h2 tk2 (a.trans a2 own al) S2
  | ret v σ'=>exact fun X2 ρ2 h2 tk2 w a2 al2 m2 r2=>p X2 ρ2 h2 tk2 w (a.trans a2 own al) al2 m2 r2
  | stop _ _=>exact p
  | no=>exact p
theorem ss_nil:SsSound g mg mb c [] .nil:=by
  intro T n h₀ A env X ρ ve σ s aok B TT S Q E hQ
  exact wpAny_execs_nil (hQ X ρ s.heap s.toks (Aft.refl _ _ _ _) S)
theorem ss_cons {st:Stmt} {sts:List Stmt} {ms:MS} {mss:MSs} (h1:SSound g mg mb c st ms) (h2:SsSound g mg mb c sts mss):SsSound g mg mb c (st::sts) (.cons ms mss):=by
  intro T n h₀ A env X ρ ve σ s aok B TT S Q E hQ
  have hQ:SPost g h₀ c env X ρ s Q ((exS T ms ve σ).bind fun ve σ=>exSs T mss ve σ):=hQ
  refine wpAny_execs_cons (h1 T n h₀ A env X ρ ve σ s aok B TT S _ _ ?_)
  cases he:exS T ms ve σ with
  | nx ve' σ' =>
    rw [he,SRes.bind_nx] at hQ
    intro X' ρ' h' tk a S'
    exact h2 T n h₀ A env X' ρ' ve' σ' { s with heap:=h',toks:=tk } aok B TT S' _ _ (hQ.later a S.own S'.alive)
  | brk ve' σ'=>rw [he,SRes.bind_brk] at hQ; exact hQ
  | ret v σ'=>rw [he,SRes.bind_ret] at hQ; exact hQ
  | stop _ _=>rw [he] at hQ; exact hQ
  | no=>rw [he] at hQ; exact hQ
end
section
variable {g:GG} {mg mb:Str→Option Value} {c:Ctx} {h₀:Heap} {A:Around} {env:Env} {X X' X'':Addr→Prop} {ρ ρ' ρ'':List Addr} {ve ve':List MV} {σ σ':List AV} {s:Shared} {h h' h'':Heap}
theorem swaps_not {v:Expr} (hv:isComp v=false) (t:Option Expr) (l:Nat) (env:Env):swapsWith v t l env=pure false:=by
  cases v <;> first | rfl | (cases hv; done)
theorem post_toS {α:Type} {r:Res α} {f:α→List AV→SRes} {Q:Flow→Shared→Prop} (p:SPost g h₀ c env X ρ s Q (r.toS ve f)):∃ a σ1,r=.ok a σ1∧SPost g h₀ c env X ρ s Q (f a σ1):=by
  cases r with
  | ok a σ1=>exact ⟨a,σ1,rfl,p⟩
  | stop _=>exact p.elim
  | no=>exact p.elim
theorem postC {α:Type} {r:Res α} {f:α→List AV→SRes} {Q:Flow→Shared→Prop} {P:Prop} (p:SPost g h₀ c env X ρ s Q (r.toS ve f)) (k:∀ a σ1,r=.ok a σ1→SPost g h₀ c env X ρ s Q (f a σ1)→P):P:=(post_toS p).elim fun a h=>h.elim fun σ1 h=>k a σ1 h.1 h.2
theorem onP {α:Type} {o:Option α} {f:α→SRes} {Q:Flow→Shared→Prop} {P:Prop} (p:SPost g h₀ c env X ρ s Q (SRes.on o f)) (k:∀ a,o=some a→SPost g h₀ c env X ρ s Q (f a)→P):P:=by
  cases o with
  | none=>exact False.elim p
  | some a=>exact k a rfl p
theorem iteP {b:Bool} {r:SRes} {Q:Flow→Shared→Prop} {P:Prop} (p:SPost g h₀ c env X ρ s Q (if b=true then r else .no)) (k:b=true→SPost g h₀ c env X ρ s Q r→P):P:=by
  cases b with
  | false=>exact False.elim p
  | true=>exact k rfl p
theorem rdB_ok {r:Res MV} {x:AV} {σ:List AV} (e:rdB r=.ok x σ):∃ m,r=.ok m σ∧rd σ m=some x :=
  Res.bindC e fun m _ h e=>Res.ofC (P:=fun σ=>∃ m,r=.ok m σ∧rd σ m=some x) e fun e=>⟨m,h,e⟩
theorem valP {r:Res MV} {f:AV→List AV→SRes} {Q:Flow→Shared→Prop} {P:Prop} (p:SPost g h₀ c env X ρ s Q (r.toS ve fun m σ=>SRes.on m.val? fun v=>f v σ)) (k:∀ v σ1,r=.ok (.val v) σ1→SPost g h₀ c env X ρ s Q (f v σ1)→P):P :=
  postC p fun m σ1 h p=>onP p fun v hv p=>k v σ1 (MV.val?_inv hv ▸ h) p
theorem rdP {r:Res MV} {f:AV→List AV→SRes} {Q:Flow→Shared→Prop} {P:Prop} (p:SPost g h₀ c env X ρ s Q ((rdB r).toS ve f)) (k:∀ m x σ1,r=.ok m σ1→rd σ1 m=some x→SPost g h₀ c env X ρ s Q (f x σ1)→P):P :=
  postC p fun x σ1 h p=>(rdB_ok h).elim fun m q=>k m x σ1 q.1 q.2 p
theorem st_assign {x:Str} {xp pos:Pos} {i:Nat} {v:Expr} {me:ME} (hx:varOf c x=some i) (hc:isComp v=false) (hv:ESound g mg mb c v me):SSound g mg mb c (.Assign [.Name x xp] v pos) (.assign i me):=by
  intro T n h₀ A env X ρ ve σ s aok B TT S Q E hQ
  refine valP hQ fun z σ1 e1 hQ=>?_
  · refine wpAny_Assign_Name (hv T n h₀ A env X ρ ve σ s aok.aok B TT S _ _ e1 _ _ fun w h' tk k M R _=>?_) (swaps_not hc _ _ _)
    have S1:=S.move k M
    refine store_var (s:={ s with heap:=h',toks:=tk }) (mv:=.val z) S1 hx R fun h2 tk2 S2 k2=>?_
    exact hQ X ρ h2 tk2 ((Aft.of_ext k).trans (Aft.store k2) S.own S1.alive) S2
theorem st_assignMut {x:Str} {xp pos:Pos} {i:Nat} {v:Expr} {me:ME} (hx:varOf c x=some i) (hc:isComp v=false) (hf:isFresh v=true) (hv:ESound g mg mb c v me):SSound g mg mb c (.Assign [.Name x xp] v pos) (.assignMut i me):=by
  intro T n h₀ A env X ρ ve σ s aok B TT S Q E hQ
  refine valP hQ fun z σ1 e1 hQ=>iteP hQ fun cm hQ=>?_
  · refine wpAny_Assign_Name (hv T n h₀ A env X ρ ve σ s aok.aok B TT S _ _ e1 _ _ fun w h' tk k M R fr=>?_) (swaps_not hc _ _ _)
    obtain ⟨a,z',ez,rfl,hn,S1,r,af,aρ,aL,ac⟩:=S.fresh k (fr hf)
    have r:=(MV.val.inj ez).symm ▸ r
    have S2:=S1.track (.inr rfl) aρ aL ac r cm
    refine store_var (s:={ s with heap:=h',toks:=tk }) (mv:=.mu σ1.length) S2 hx ⟨a,by rw [← M.len,List.getElem?_concat_length],rfl⟩ fun h2 tk2 S3 k2=>?_
    refine hQ _ _ h2 tk2 (Aft.trans (ρ':=ρ++[a]) ⟨af.sub,af.new,fun b hb=>?_,af.ext,List.prefix_append _ _⟩ (Aft.store k2) S.own S2.alive) S3
    rcases List.mem_append.mp hb with q | q
    · exact .inl q
    · rw [List.mem_singleton.mp q]; exact .inr hn
theorem st_if {t:Expr} {b o:List Stmt} {pos:Pos} {mt:MT} {mb' mo:MSs} (ht:TSound g mg mb c t mt) (hb:SsSound g mg mb c b mb') (ho:SsSound g mg mb c o mo):SSound g mg mb c (.If t b o pos) (.iff mt mb' mo):=by
  intro T n h₀ A env X ρ ve σ s aok B TT S Q E hQ
  refine postC hQ fun m σ1 e1 hQ=>wpAny_If (ht T n h₀ A env X ρ ve σ s aok.aok B TT S _ _ e1 _ _ fun h' tk k M=>?_)
  have S1:=S.move k M
  cases m with
  | true=>exact hb T n h₀ A env X ρ ve σ1 { s with heap:=h',toks:=tk } aok B TT S1 _ _ (hQ.later (Aft.of_ext k) S.own S1.alive)
  | false=>exact ho T n h₀ A env X ρ ve σ1 { s with heap:=h',toks:=tk } aok B TT S1 _ _ (hQ.later (Aft.of_ext k) S.own S1.alive)
theorem ss_dead (sts:List Stmt):SsSound g mg mb c sts (.cons .dead .nil):=by
  intro T n h₀ A env X ρ ve σ s aok B TT S Q E hQ
  exact False.elim hQ
theorem st_ret {v:Expr} {pos:Pos} {me:ME} (hv:ESound g mg mb c v me):SSound g mg mb c (.Return (some v) pos) (.ret me):=by
  intro T n h₀ A env X ρ ve σ s aok B TT S Q E hQ
  refine rdP hQ fun m x σ1 e2 e3 hQ=>wpAny_Return_some (hv T n h₀ A env X ρ ve σ s aok.aok B TT S _ _ e2 _ _ fun w h' tk k M R _=>?_)
  have S1:=S.move k M
  refine hQ X ρ h' tk w (Aft.of_ext k) S1.alive M ?_
  cases m with
  | val z=>exact .inl (Option.some.inj e3 ▸ R)
  | mu j =>
    obtain ⟨a,ha,rfl⟩:=R
    exact .inr ⟨a,List.mem_of_getElem? ha,rfl,(M.at_ j _ a e3 ha).1⟩
  | unset=>exact nn e3
theorem st_brk {pos:Pos}:SSound g mg mb c (.Break pos) .brk:=by
  intro T n h₀ A env X ρ ve σ s aok B TT S Q E hQ
  exact wpAny_Break (hQ X ρ s.heap s.toks (Aft.refl _ _ _ _) S)
theorem iopP {o:Operator} {b:BOp} {x y:Int} {z:AV} {t u:Tok} (ob:bopOf o=some b) (hs:augOk b=true) (e:binV b (.int x) (.int y)=some z):Prim g A X s (inplaceOp o (.int x t) (.int y u)) z:=by
  cases o <;> first | exact nn ob | (cases (Option.some.inj ob:_=b))
  · exact somP e fun Q E hQ=>PySem.P.iadd_int (hQ _ _ _ (Grow.refl _) rp_int)
  · exact nomatch hs
  · exact nomatch hs
  · exact nomatch hs
  · exact nomatch hs
  · exact nomatch hs
  · exact grdP e fun c Q E hQ=>ilshift_int_small (of_decide_eq_true (and_of (and_of c).1).1) (le6 (and_of (and_of c).1).2) (small_iff (and_of c).2) (hQ _ _ _ (Grow.refl _) rp_int)
  · exact somP e fun Q E hQ=>ior_int (hQ _ _ _ (Grow.refl _) rp_int)
  · exact somP e fun Q E hQ=>ixor_int (hQ _ _ _ (Grow.refl _) rp_int)
  · exact nomatch hs
  · exact nomatch hs
theorem st_aug {x:Str} {xp pos:Pos} {i:Nat} {o:Operator} {b:BOp} {v:Expr} {me:ME} (hx:varOf c x=some i) (ob:bopOf o=some b) (hs:augOk b=true) (hv:ESound g mg mb c v me) :
    SSound g mg mb c (.AugAssign (.Name x xp) o v pos) (.aug b i me):=by
  intro T n h₀ A env X ρ ve σ s aok B TT S Q E hQ
  refine onP hQ fun a ha hQ=>rdP hQ fun m y σ1 e2 e3 hQ=>onP hQ fun b' hb hQ=>onP hQ fun z hz hQ=>?_
  have e3:rd σ1 m=some (.int b'):=AV.int?_inv hb ▸ e3
  obtain ⟨v0,ha,ha1⟩:=ob_inv ha
  obtain ⟨m0,ha,ha0⟩:=ob_inv ha
  have ha:ve[i]?=some (.val (.int a)):=AV.int?_inv ha1 ▸ MV.val?_inv ha0 ▸ ha
  refine wpAny_AugAssign_Name (load_var S hx ha (by simp) fun w r=>?_)
  obtain ⟨t,rfl⟩:=rv_int (RepV.view r)
  refine hv T n h₀ A env X ρ ve σ s aok.aok B TT S _ _ e2 _ _ fun w h' tk k M R _=>?_
  have S1:=S.move k M
  obtain ⟨u,rfl⟩:=rv_int (R.view M e3)
  refine iopP (g:=g) (X:=X) (s:={ s with heap:=h',toks:=tk }) ob hs hz _ _ fun w h2 tk2 k2 r2=>?_
  have S2:=S1.grow k2
  refine store_var (s:={ s with heap:=h2,toks:=tk2 }) (mv:=.val z) S2 hx r2 fun h3 tk3 S3 k3=>?_
  exact hQ X ρ h3 tk3 ((Aft.of_ext (k.trans k2.ext)).trans (Aft.store k3) S.own S2.alive) S3
end
section
variable {g:GG} {mg mb:Str→Option Value} {c:Ctx} {h₀:Heap} {A:Around} {env:Env} {X X' X'':Addr→Prop} {ρ ρ' ρ'':List Addr} {ve ve':List MV} {σ σ':List AV} {s:Shared} {h h' h'':Heap}
theorem Stt.put {j:Nat} {a:Addr} {c':AV} (S:Stt g h₀ c env X ρ ve σ h) (ha:ρ[j]?=some a) (k:∀ b o,b≠a→h.get? b=some o→h'.get? b=some o) (r:RepC g h' X c' a) (cm:canMut c'=true):Stt g h₀ c env X ρ ve (σ.set j c') h'∧Ext (·∈ρ) h h':=by
  have ex:Ext (·∈ρ) h h':=fun b o n e=>k b o (fun q=>n (q ▸ List.mem_of_getElem? ha)) e
  exact ⟨S.move ex (S.muts.put ha k r cm),ex⟩
theorem listPut {l:Addr} {vs:List Value} {xs:List AV} {k:Int} {t:Tok} {w:Value} {x:AV} (xl:X l) (pl:s.heap.PlainList l vs.toArray) (rv:RepVs g s.heap X xs vs) (f:fits xs.length=true) {n:Nat} (hp:place xs.length k=some n) (rw':RepV g s.heap X x w)
    {Q:Unit→Shared→Prop} {E:Value→Shared→Prop} (hQ:∀ h',(∀ b o,b≠l→s.heap.get? b=some o→h'.get? b=some o)→RepC g h' X (.list (xs.set n x)) l→Q () { s with heap:=h' }):wpAny (model g.prog g.w) A (setItem (.ref l) (.int k t) w) Q E s:=by
  obtain ⟨nn,ho⟩:=pl
  obtain ⟨h0,rfl,hk⟩:=place_some hp
  have b1:=fits_iff f
  have hl:s.heap.IsList l vs.toArray:=⟨_,ho,rfl,_,rfl⟩
  unfold setItem
  try with_reducible refine wpAny_holding ?_
  first | refine wpAny_bind (wpAny_pure ?_) | skip
  refine wpAny_bind (wpAny_sequenceKey hl.typeIs (by decide) ?_)
  refine wpAny_bind (wpAny_callSpecial?_slot (name:=Str.ofString "__setitem__") hl.typeIs slot_list_setitem
    (wpAny_call_entry slot_list_setitem hl.typeIs entry_list_setitem ?_ (args_list_setitem _ _ _)))
  show wpAny _ _ (Builtin.List.listSubscript? (.int k t) >>= _) _ _ s
  refine wpAny_bind (wpAny_listSubscript_int (fitsIndex_of h0 (by omega)) ?_)
  obtain ⟨j,rfl⟩:=Int.eq_ofNat_of_zero_le h0
  rw [Int.toNat_natCast] at hk hQ
  have hj:j < vs.toArray.size:=by rw [List.size_toArray,rv.length]; exact hk
  have hx':vs.toArray[j]?=some vs.toArray[j]:=Array.getElem?_eq_getElem hj
  show wpAny _ _ ((seqItemAt l j >>= fun r=>pure (r.map (j,·))) >>= _) _ _ s
  refine wpAny_bind (wpAny_bind (wpAny_seqItemAt ho rfl (wpAny_pure ?_)))
  rw [hx']
  show wpAny _ _ (setSeqItemAt l j w >>= _) _ _ s
  have hu:=get?_update_seq ho (fun xs=>xs.setIfInBounds j w)
  have ee:vs.toArray.setIfInBounds j w=(vs.set j w).toArray:=by simp
  rw [ee] at hu
  have kb:∀ b o,b≠l→s.heap.get? b=some o→(s.heap.update l (Obj.mapSeq fun xs=>xs.setIfInBounds j w)).get? b=some o:=fun b o hb e=>(Heap.get?_update_ne _ _ _ _ hb).trans e
  have mv:Move s.heap (s.heap.update l (Obj.mapSeq fun xs=>xs.setIfInBounds j w)) X X:=fun b o n e=>⟨kb b o (fun q=>n (q ▸ xl)) e,n⟩
  have setR:∀ (xs:List AV) (vs:List Value) (j:Nat),RepVs g s.heap X xs vs→RepVs g s.heap X (xs.set j x) (vs.set j w):=by
    intro xs
    induction xs with
    | nil=>intro vs j p; rw [RepVs_nil.mp p]; simpa using RepVs_nil.mpr rfl
    | cons y ys ih =>
      intro vs j p
      obtain ⟨v,r,rfl,a,b⟩:=RepVs_cons.mp p
      cases j with
      | zero=>exact RepVs_cons.mpr ⟨w,r,rfl,rw',b⟩
      | succ j=>exact RepVs_cons.mpr ⟨v,r.set j w,rfl,a,ih r j b⟩
  have fin:RepC g (s.heap.update l (Obj.mapSeq fun xs=>xs.setIfInBounds j w)) X (.list (xs.set j x)) l:=by
    exact ⟨vs.set j w,⟨_,hu⟩,(setR _ _ _ rv).move mv⟩
  refine wpAny_bind (wpAny_setSeqItemAt ho rfl ?_)
  first
    | exact wpAny_bind (wpAny_pure (wpAny_pure ⟨.none,rfl,wpAny_pure (hQ _ kb fin)⟩))
    | exact wpAny_pure ⟨.none,rfl,wpAny_pure (hQ _ kb fin)⟩
theorem stored_put {K:Type} [DecidableEq K] {k:K} {x:AV} {w:Value} (rw':RepV g h X x w):∀ {kvs:List (K × Value)} {vs:List AV},(kvs.map (·.1)).Nodup→RepVs g h X vs (kvs.map (·.2)) →
    (stored kvs k w).map (·.1)=(putKey k x (kvs.map (·.1)) vs).1∧RepVs g h X (putKey k x (kvs.map (·.1)) vs).2 ((stored kvs k w).map (·.2)):=by
  have nomem:∀ (kvs:List (K × Value)),k ∉ kvs.map (·.1)→kvs.map (fun kv=>if kv.1=k then (kv.1,w) else kv)=kvs:=by
    intro kvs hn
    induction kvs with
    | nil=>rfl
    | cons p r ih =>
      rw [List.map_cons,List.mem_cons,not_or] at hn
      rw [List.map_cons,if_neg (fun e=>hn.1 e.symm),ih hn.2]
  intro kvs
  induction kvs with
  | nil =>
    intro vs nd r
    cases vs with
    | nil=>exact ⟨rfl,RepVs_cons.mpr ⟨w,[],rfl,rw',RepVs_nil.mpr rfl⟩⟩
    | cons _ _=>obtain ⟨_,_,e,_⟩:=RepVs_cons.mp r; cases e
  | cons p r ih =>
    obtain ⟨k',v'⟩:=p
    intro vs nd rv
    cases vs with
    | nil=>rw [RepVs_nil] at rv; cases rv
    | cons y ys =>
      obtain ⟨_,_,e1,p1,p2⟩:=RepVs_cons.mp rv
      cases e1
      rw [List.map_cons,List.nodup_cons] at nd
      by_cases hk:k'=k
      · subst hk
        have e:stored ((k',v')::r) k' w=(k',w)::r:=by
          unfold stored
          rw [if_pos (by simp)]
          rw [List.map_cons,if_pos rfl,nomem r nd.1]
        rw [e]
        have e2:putKey k' x (((k',v')::r).map (·.1)) (y::ys)=(k'::r.map (·.1),x::ys):=by
          exact putKey_cons.trans (if_pos rfl)
        rw [e2]
        exact ⟨rfl,RepVs_cons.mpr ⟨w,_,rfl,rw',p2⟩⟩
      · have e:stored ((k',v')::r) k w=(k',v')::stored r k w:=by
          unfold stored
          by_cases ha:r.any (fun kv=>decide (kv.1=k))=true
          · rw [if_pos ha,if_pos (by rw [List.any_cons,ha,Bool.or_true]),List.map_cons,if_neg hk]
          · rw [if_neg ha,if_neg (by rw [List.any_cons]; simpa [hk] using ha)]
            rfl
        rw [e]
        have e2:putKey k x (((k',v')::r).map (·.1)) (y::ys)=(k'::(putKey k x (r.map (·.1)) ys).1,y::(putKey k x (r.map (·.1)) ys).2):=by
          exact putKey_cons.trans (if_neg hk)
        rw [e2]
        obtain ⟨i1,i2⟩:=ih nd.2 p2
        exact ⟨by rw [List.map_cons,i1],RepVs_cons.mpr ⟨v',_,rfl,p1,i2⟩⟩
theorem dict_nodup {K:Type} [DecidableEq K] {knd:KeyKind g.prog g.w K} {a:Addr} {kvs:List (K × Value)} {ep:Nat} (da:h.DictAt knd a kvs ep):(kvs.map (·.1)).Nodup:=by obtain ⟨_,_,_,_,_,_,_,nd⟩:=da; exact nd
theorem setP {j:Nat} {la:Addr} {cc c' kx x:AV} {kv w:Value} (S:Stt g h₀ c env X ρ ve σ s.heap) (hla:ρ[j]?=some la) (hc:σ[j]?=some cc) (e:setV cc kx x=some c') (rk:RView g s.heap X kx kv) (rx:RepV g s.heap X x w)
    {Q:Unit→Shared→Prop} {E:Value→Shared→Prop} (hQ:∀ h' tk,Stt g h₀ c env X ρ ve (σ.set j c') h'→Ext (·∈ρ) s.heap h'→Q () { s with heap:=h',toks:=tk }):wpAny (model g.prog g.w) A (setItem (.ref la) kv w) Q E s:=by
  have xl:X la:=S.muts.mem la (List.mem_of_getElem? hla)
  have RC:=(S.muts.at_ j _ la hc hla).1
  refine orC e (fun e=>obC e fun xs hx e=>iC (P:=fun kv=>wpAny (model g.prog g.w) A (setItem (.ref la) kv w) Q E s) rk e fun i t e=>iteC e fun f e=>omC e fun n hp e=>?_) fun e =>
    orC e (fun e=>obC e fun d hd e=>iC (P:=fun kv=>wpAny (model g.prog g.w) A (setItem (.ref la) kv w) Q E s) rk e fun i t e=>?_) fun e =>
    obC e fun d hd e=>sC (P:=fun kv=>wpAny (model g.prog g.w) A (setItem (.ref la) kv w) Q E s) rk e fun i t e=>?_
  · subst e
    obtain ⟨vs,pl,rv⟩:=(AV.list?_inv hx ▸ RC:RepC g s.heap X (.list xs) la)
    exact listPut xl pl rv f hp rx fun h' kb r=>hQ h' s.toks (S.put hla kb r rfl).1 (S.put hla kb r rfl).2
  · obtain ⟨f,rfl⟩:=grd_inv e
    obtain ⟨kvs,ep,lo,da,ek,rv⟩:=(AV.dI?_inv hd ▸ RC:RepC g s.heap X (.dictI d.1 d.2) la)
    refine wpAny_setItem_pairs (knd:=intKind g.prog g.w) (k:=i) (by simp [intKind,Value.isInt]) da.dictOf (fun h' hd hs=>?_) (by rw [← ek,List.length_map] at f; exact fits_line f)
    have kb:∀ b o,b≠la→s.heap.get? b=some o→h'.get? b=some o:=fun b o n e=>hs.extBut b o n e
    obtain ⟨i1,i2⟩:=stored_put (k:=i) rx (dict_nodup da) rv
    obtain ⟨ep',hd'⟩:=hd.dictAt
    have:=S.put (c':=.dictI (putKey i x d.1 d.2).1 (putKey i x d.1 d.2).2) hla kb ⟨_,ep',lo,hd',ek ▸ i1,ek ▸ i2.move fun b o n e=>⟨kb b o (fun q=>n (q ▸ xl)) e,n⟩⟩ rfl
    exact hQ h' _ this.1 this.2
  · obtain ⟨f,rfl⟩:=grd_inv e
    obtain ⟨kvs,ep,lo,da,ek,rv⟩:=(AV.dS?_inv hd ▸ RC:RepC g s.heap X (.dictS d.1 d.2) la)
    refine wpAny_setItem_pairs (knd:=PySem.strKind g.prog g.w) (k:=i) (by simp [PySem.strKind,Value.isStrOf]) da.dictOf (fun h' hd hs=>?_) (by rw [← ek,List.length_map] at f; exact fits_line f)
    have kb:∀ b o,b≠la→s.heap.get? b=some o→h'.get? b=some o:=fun b o n e=>hs.extBut b o n e
    obtain ⟨i1,i2⟩:=stored_put (k:=i) rx (dict_nodup da) rv
    obtain ⟨ep',hd'⟩:=hd.dictAt
    have:=S.put (c':=.dictS (putKey i x d.1 d.2).1 (putKey i x d.1 d.2).2) hla kb ⟨_,ep',lo,hd',ek ▸ i1,ek ▸ i2.move fun b o n e=>⟨kb b o (fun q=>n (q ▸ xl)) e,n⟩⟩ rfl
    exact hQ h' _ this.1 this.2
theorem st_setitem {d:Str} {dp ip pos:Pos} {i:Nat} {k v:Expr} {mk me:ME} (hd:varOf c d=some i) (hc:isComp v=false) (hk:ESound g mg mb c k mk) (hv:ESound g mg mb c v me) :
    SSound g mg mb c (.Assign [.Subscript (.Name d dp) k ip] v pos) (.setitem i mk me):=by
  intro T n h₀ A env X ρ ve σ s aok B TT S Q E hQ
  refine valP hQ fun z σ1 e1 hQ=>rdP hQ fun m2 x σ2 e3 e4 hQ=>onP hQ fun j hj hQ=>onP hQ fun c' hc' hQ=>obC hc' fun cc hcc hc'=>?_
  · · refine wpAny_Assign_Subscript (hv T n h₀ A env X ρ ve σ s aok.aok B TT S _ _ e1 _ _ fun w h1 tk1 kx1 M1 R1 _=>?_) (swaps_not hc _ _ _)
      have S1:=S.move kx1 M1
      refine wpAny_Name (load_var (s:={ s with heap:=h1,toks:=tk1 }) S1 hd (mu_at hj) nofun fun lv r=>?_) (varOf_inv hd).2.1
      obtain ⟨la,hla,rfl⟩:=r
      refine hk T n h₀ A env X ρ ve σ1 { s with heap:=h1,toks:=tk1 } aok.aok B TT S1 _ _ e3 _ _ fun kv h2 tk2 kx2 M2 R2 _=>?_
      have S2:=S1.move kx2 M2
      refine setP (s:={ s with heap:=h2,toks:=tk2 }) S2 hla hcc hc' (R2.view M2 e4) (RepV.move (kx2.move S1.muts.mem) R1) fun h3 tk3 S3 ex3=>?_
      exact hQ X ρ h3 tk3 (Aft.of_ext ((kx1.trans kx2).trans ex3)) S3
theorem setV_key {cc k v c':AV} (e:setV cc k v=some c'):(∃ i,k=.int i)∨∃ t,k=.str t :=
  orC e (fun e=>obC e fun _ _ e=>obC e fun i hi _=>.inl ⟨i,AV.int?_inv hi⟩) fun e=>orC e (fun e=>obC e fun _ _ e=>obC e fun i hi _=>.inl ⟨i,AV.int?_inv hi⟩) fun e=>obC e fun _ _ e=>obC e fun i hi _=>.inr ⟨i,AV.str?_inv hi⟩
theorem key_any {k:AV} {kv:Value} (hk:(∃ i,k=.int i)∨∃ t,k=.str t) (r:RView g h X k kv) (h':Heap):RView g h' X k kv :=
  hk.elim (fun q=>q.elim fun i q=>.inl (q ▸ rv_int (q ▸ r))) fun q=>q.elim fun i q=>.inl (q ▸ rv_str (q ▸ r))
theorem exec_augSub (o i:Expr) (spos:Pos) (op:Operator) (value:Expr) (pos:Pos) (env:Env):exec (.AugAssign (.Subscript o i spos) op value pos) env=(do
    standAt pos
    let ov ← eval o env
    let iv ← holding [ov] (eval i env)
    let new ← holding [ov,iv] do
      standAt spos
      let old ← getItem ov iv
      let v ← holding [old] (eval value env)
      standAt pos
      operate [old,v] (inplaceOp op old v)
    standAt spos
    augStore i ov iv new):=rfl
theorem augStore_plain {i:Expr} (hs:isSlice i=false) (ov iv new:Value):augStore i ov iv new=(do
    holding [new,ov,iv] (setItem ov iv new)
    release [new,ov,iv] []
    pure .next):=by
  cases i <;> first | rfl | (cases hs; done)
theorem st_augitem {d:Str} {dp ip pos:Pos} {i:Nat} {k v:Expr} {mk me:ME} (hd:varOf c d=some i) (hs:isSlice k=false) (hk:ESound g mg mb c k mk) (hv:ESound g mg mb c v me) :
    SSound g mg mb c (.AugAssign (.Subscript (.Name d dp) k ip) .Add v pos) (.augitem i mk me):=by
  intro T n h₀ A env X ρ ve σ s aok B TT S Q E hQ
  refine rdP hQ fun m1 x σ1 e2 e3 hQ=>onP hQ fun j hj hQ=>onP hQ fun a ha hQ=>rdP hQ fun m2 y σ2 e5 e6 hQ=>onP hQ fun b hb hQ=>onP hQ fun c' hc' hQ=>obC ha fun z0 ha hz0=>obC ha fun cc hcc ha=>obC hc' fun cc2 hcc2 hc'=>?_
  have e6:rd σ2 m2=some (.int b):=AV.int?_inv hb ▸ e6
  have ha:idxV cc x=some (.int a):=AV.int?_inv hz0 ▸ ha
  have hj:=mu_at hj
  have k1:=(varOf_inv hd).2.1
  · · rw [exec_augSub]
      refine wpAny_bind (wpAny_standAt (wpAny_bind (wpAny_Name (load_var S hd hj (by simp) fun lv r=>?_) k1)))
      obtain ⟨la,hla,rfl⟩:=r
      refine wpAny_bind (wpAny_holding (hk T n h₀ A env X ρ ve σ s aok.aok B TT S _ _ e2 _ _ fun kv h1 tk1 kx1 M1 R1 _=>?_))
      have S1:=S.move kx1 M1
      have RK:=R1.view M1 e3
      refine wpAny_bind (wpAny_holding (wpAny_bind (wpAny_standAt (wpAny_bind ?_))))
      refine (getAny (g:=g) (A:=A) (X:=X) (s:={ s with heap:=h1,toks:=tk1 }) ha (.inr ⟨la,rfl,(M1.at_ j _ la hcc hla).1⟩) RK).2 _ _ fun old h2 tk2 g2 r2=>?_
      have S2:=S1.grow g2
      obtain ⟨t,rfl⟩:=rv_int (RepV.view r2)
      refine wpAny_bind (wpAny_holding (hv T n h₀ A env X ρ ve σ1 { s with heap:=h2,toks:=tk2 } aok.aok B TT S2 _ _ e5 _ _ fun w h3 tk3 kx3 M3 R3 _=>?_))
      have S3:=S2.move kx3 M3
      obtain ⟨u,rfl⟩:=rv_int (R3.view M3 e6)
      have PP:=iopP (g:=g) (A:=A) (X:=X) (s:={ s with heap:=h3,toks:=tk3 }) (o:=.Add) (b:=.add) (x:=a) (y:=b) (z:=.int (a+b)) (t:=t) (u:=u) rfl rfl rfl
      refine wpAny_bind (wpAny_standAt (wpAny_operating (PP _ _ fun nw h4 tk4 g4 r4=>?_)))
      have S4:=S3.grow g4
      refine wpAny_bind (wpAny_standAt ?_)
      rw [augStore_plain hs]
      refine wpAny_bind (wpAny_holding (setP (s:={ s with heap:=h4,toks:=tk4 }) S4 hla hcc2 hc' (key_any (setV_key hc') RK h4) r4 fun h5 tk5 S5 ex5=>?_))
      refine wpAny_bind (wpAny_release (wpAny_pure ?_))
      exact hQ X ρ h5 tk5 (Aft.of_ext ((((kx1.trans g2.ext).trans kx3).trans g4.ext).trans ex5)) S5
end
section
variable {g:GG} {mg mb:Str→Option Value} {c:Ctx} {h₀:Heap} {A:Around} {env:Env} {X X' X'':Addr→Prop} {ρ ρ' ρ'':List Addr} {ve ve':List MV} {σ σ':List AV} {s:Shared} {h h' h'':Heap}
theorem not_inter (S:Stt g h₀ c env X ρ ve σ h):interactive env=false:=by
  unfold interactive
  rw [S.envOk.kind]; rfl
theorem append_run {d:Str} {dp ap cp pos:Pos} {i:Nat} {v:Expr} {me:ME} {fr:Bool} {T:Tab} (hd:varOf c d=some i) (hl:(ap.endLine == cp.line)=true) (hs:isStar v=false) (S:Stt g h₀ c env X ρ ve σ s.heap)
    (hv:EOK g A X ρ s (eval v env) (evE T me ve σ) fr):SOK g h₀ c A env X ρ s (exec (.Expr (.Call (.Attribute (.Name d dp) "append" ap) [v] [] cp) pos) env) (exS T (.append i me) ve σ):=by
  intro Q E hQ
  refine onP hQ fun j hj hQ=>onP hQ fun ys hys hQ=>valP hQ fun z σ1 e1 hQ=>onP hQ fun xs hxs hQ=>iteP hQ fun f hQ=>?_
  have hj:=mu_at hj
  have hys:=list_at hys
  have hxs:=list_at hxs
  refine wpAny_Expr_any (MCall rfl hl (form1 hs) (wpAny_Name (load_var S hd hj nofun fun lv r=>?_) (varOf_inv hd).2.1)) (not_inter S) (swaps_not rfl _ _ _)
  obtain ⟨la,hla,rfl⟩:=r
  intro pl
  refine append_meth (g:=g) (X:=X) (xs:=ys) (.inr ⟨la,rfl,(S.muts.at_ j _ la hys hla).1⟩) ?_
  refine callWith_method1 (args_cons (hv _ _ e1 _ _ fun w h' tk k M R fr=>args_nil ?_) (starEach_plain hs _ _)) (starEach_plain hs _ _) any0
  clear fr
  have S1:=S.move k M
  have RC:=(M.at_ j _ la hxs hla).1
  obtain ⟨vs,plist,rv⟩:=RC
  have xl:X la:=M.mem la (List.mem_of_getElem? hla)
  refine wpAny_list_append_plain (s:={ s with heap:=h',toks:=tk }) (hsz:=by rw [List.size_toArray,rv.length]; exact fits_line f) plist fun h5 pl5 hs5=>?_
  have k5:∀ b o,b≠la→h'.get? b=some o→h5.get? b=some o:=fun b o nb e=>hs5.extBut b o nb e
  have mv5:Move h' h5 X X:=fun b o nb e=>⟨k5 b o (fun q=>nb (q ▸ xl)) e,nb⟩
  obtain ⟨S',ex⟩:=S1.put (c':=.list (xs++[z])) hla k5 (by
    refine ⟨vs++[w],?_,(rv.append (RepVs_cons.mpr ⟨w,[],rfl,R,RepVs_nil.mpr rfl⟩)).move mv5⟩
    have:vs.toArray.push w=(vs++[w]).toArray:=by simp
    rw [← this]; exact pl5) rfl
  exact hQ X ρ h5 tk (Aft.of_ext (k.trans ex)) S'
theorem st_append {d:Str} {dp ap cp pos:Pos} {i:Nat} {v:Expr} {me:ME} (hd:varOf c d=some i) (hl:(ap.endLine == cp.line)=true) (hs:isStar v=false) (hv:ESound g mg mb c v me) :
    SSound g mg mb c (.Expr (.Call (.Attribute (.Name d dp) "append" ap) [v] [] cp) pos) (.append i me):=by
  intro T n h₀ A env X ρ ve σ s aok B TT S
  exact append_run hd hl hs S (hv T n h₀ A env X ρ ve σ s aok.aok B TT S)
noncomputable def setMany:List MV→List (Nat × MV)→List MV
  | ve,[]=>ve
  | ve,(i,m)::r=>setMany (ve.set i m) r
theorem store_many:∀ {xs:List (Str × Pos × Nat × MV × Value)} {s:Shared} {ve:List MV},Stt g h₀ c env X ρ ve σ s.heap→(∀ p∈xs,varOf c p.1=some p.2.2.1∧RepM g s.heap X ρ p.2.2.2.1 p.2.2.2.2)→(∀ a,Own env [] a→X a) →
    ∀ {Q:Unit→Shared→Prop} {E:Value→Shared→Prop},(∀ h' tk,Stt g h₀ c env X ρ (setMany ve (xs.map fun p=>(p.2.2.1,p.2.2.2.1))) σ h'→Aft env X ρ X ρ s.heap h'→Q () { s with heap:=h',toks:=tk }) →
    wpAny (model g.prog g.w) A (assignInOrder (xs.map fun p=>assign (.Name p.1 p.2.1) env) (xs.map (·.2.2.2.2))) Q E s
  | [],s,ve,S,_,_,Q,E,hQ=>by
    show wpAny _ _ (pure ()) _ _ _
    exact wpAny_pure (hQ s.heap s.toks S (Aft.refl _ _ _ _))
  | (x,p,i,m,v)::r,s,ve,S,hx,ow,Q,E,hQ=>by
    show wpAny _ _ (do holding (r.map (·.2.2.2.2)) (assign (.Name x p) env v); assignInOrder (r.map fun p=>assign (.Name p.1 p.2.1) env) (r.map (·.2.2.2.2))) _ _ _
    obtain ⟨h1,h2⟩:=hx _ List.mem_cons_self
    refine wpAny_bind (wpAny_holding (wpAny_assign_Name (store_var S h1 h2 fun h' tk S1 k=>?_)))
    have a1:Aft env X ρ X ρ s.heap h':=Aft.store k
    refine store_many (s:={ s with heap:=h',toks:=tk }) S1 (fun q hq=>⟨(hx q (List.mem_cons_of_mem _ hq)).1,(hx q (List.mem_cons_of_mem _ hq)).2.move (a1.move S.own)⟩) ow fun h2 tk2 S2 a2=>hQ h2 tk2 S2 (a1.trans a2 S.own S1.alive)
theorem store_binds:∀ {xs:List (Str × Nat × MV × Value)} {s:Shared} {ve:List MV},Stt g h₀ c env X ρ ve σ s.heap→(∀ p∈xs,varOf c p.1=some p.2.1∧RepM g s.heap X ρ p.2.2.1 p.2.2.2) →
    ∀ {Q:Unit→Shared→Prop} {E:Value→Shared→Prop},(∀ h' tk,Stt g h₀ c env X ρ (setMany ve (xs.map fun p=>(p.2.1,p.2.2.1))) σ h'→Aft env X ρ X ρ s.heap h'→Q () { s with heap:=h',toks:=tk }) →
    wpAny (model g.prog g.w) A (assignInOrder (xs.map fun p=>bindName env p.1) (xs.map (·.2.2.2))) Q E s
  | [],s,ve,S,_,Q,E,hQ=>by
    show wpAny _ _ (pure ()) _ _ _
    exact wpAny_pure (hQ s.heap s.toks S (Aft.refl _ _ _ _))
  | (x,i,m,v)::r,s,ve,S,hx,Q,E,hQ=>by
    show wpAny _ _ (do holding (r.map (·.2.2.2)) (bindName env x v); assignInOrder (r.map fun p=>bindName env p.1) (r.map (·.2.2.2))) _ _ _
    obtain ⟨h1,h2⟩:=hx _ List.mem_cons_self
    refine wpAny_bind (wpAny_holding (wpAny_bindName (store_var S h1 h2 fun h' tk S1 k=>?_)))
    have a1:Aft env X ρ X ρ s.heap h':=Aft.store k
    refine store_binds (s:={ s with heap:=h',toks:=tk }) S1 (fun q hq=>⟨(hx q (List.mem_cons_of_mem _ hq)).1,(hx q (List.mem_cons_of_mem _ hq)).2.move (a1.move S.own)⟩) fun h2 tk2 S2 a2=>hQ h2 tk2 S2 (a1.trans a2 S.own S1.alive)
theorem nameVars_inv {ts:List Expr}:∀ {is:List Nat},nameVars c ts=some is→∃ xs:List (Str × Pos × Nat),ts=xs.map (fun p=>.Name p.1 p.2.1)∧is=xs.map (·.2.2)∧∀ p∈xs,varOf c p.1=some p.2.2:=by
  induction ts with
  | nil=>exact fun h=>⟨[],rfl,(Option.some.inj h).symm,fun p hp=>nomatch hp⟩
  | cons e es ih =>
    intro is h
    refine obC h fun x hx h=>obC h fun i hi h=>omC h fun is' h' q=>?_
    obtain ⟨p,rfl⟩:=Expr.name?_inv hx
    obtain ⟨xs,e1,e2,e3⟩:=ih h'
    exact ⟨(x,p,i)::xs,congrArg (_::·) e1,q ▸ congrArg (i::·) e2,List.forall_mem_cons.mpr ⟨hi,e3⟩⟩
theorem assignEach_names (xs:List (Str × Pos × Nat)) (env:Env):assignEach (xs.map (fun p=>Expr.Name p.1 p.2.1)) env=xs.map fun p=>(false,assign (.Name p.1 p.2.1) env):=by
  induction xs with
  | nil=>rfl
  | cons p r ih=>rw [List.map_cons,List.map_cons]; show (false,_)::assignEach _ env=_; rw [ih]
theorem setAll_many {is:List Nat}:∀ {xs:List AV} {ve ve':List MV},setAll ve is xs=some ve'→is.length=xs.length∧ve'=setMany ve (is.zip (xs.map MV.val)):=by
  induction is with
  | nil =>
    intro xs ve ve' h
    cases xs with
    | nil=>exact ⟨rfl,(Option.some.inj h).symm⟩
    | cons _ _=>exact nn h
  | cons i is ih =>
    intro xs ve ve' h
    cases xs with
    | nil=>exact nn h
    | cons x xs=>exact ⟨congrArg (·+1) (ih h).1,(ih h).2⟩
theorem repVs_at {xs:List AV} {vs:List Value} (r:RepVs g h X xs vs):∀ (i:Nat) (m:MV) (v:Value),(xs.map MV.val)[i]?=some m→vs[i]?=some v→RepM g h X ρ m v:=by
  intro i m v e1 e2
  rw [List.getElem?_map] at e1
  refine omC e1 fun x hx e1=>?_
  obtain ⟨w,hw,rw'⟩:=r.get hx
  exact e1 ▸ Option.some.inj (hw.symm.trans e2) ▸ rw'
theorem zip_four (g:GG) (c:Ctx) (X:Addr→Prop) (ρ:List Addr):∀ (ns:List (Str × Pos × Nat)) (ms:List MV) (items:List Value) (h1:Heap),items.length=ns.length→ms.length=ns.length→(∀ (i:Nat) (m:MV) (v:Value),ms[i]?=some m→items[i]?=some v→RepM g h1 X ρ m v)→(∀ p∈ns,varOf c p.1=some p.2.2) →
      ∃ zs:List (Str × Pos × Nat × MV × Value),ns.map (fun p=>(p.1,p.2.1))=zs.map (fun p=>(p.1,p.2.1))∧items=zs.map (·.2.2.2.2)∧(ns.map (·.2.2)).zip ms=zs.map (fun p=>(p.2.2.1,p.2.2.2.1))∧ns.map (·.2.2)=zs.map (·.2.2.1)∧∀ p∈zs,varOf c p.1=some p.2.2.1∧RepM g h1 X ρ p.2.2.2.1 p.2.2.2.2:=by
    intro ns
    induction ns with
    | nil =>
      intro ms items h1 hl hm r _
      cases items with
      | nil =>
        cases ms with
        | nil=>exact ⟨[],rfl,rfl,rfl,rfl,fun p hp=>nomatch hp⟩
        | cons _ _=>cases hm
      | cons _ _=>cases hl
    | cons p ns ih =>
      intro ms items h1 hl hm r hv
      cases items with
      | nil=>cases hl
      | cons v items =>
        cases ms with
        | nil=>cases hm
        | cons m ms =>
          obtain ⟨zs,e1,e2,e3,e5,e4⟩:=ih ms items h1 (Nat.succ.inj hl) (Nat.succ.inj hm) (fun i m' v' q1 q2=>r (i+1) m' v' q1 q2) fun q hq=>hv q (List.mem_cons_of_mem _ hq)
          refine ⟨(p.1,p.2.1,p.2.2,m,v)::zs,congrArg (_::·) e1,congrArg (v::·) e2,congrArg (_::·) e3,congrArg (_::·) e5,List.forall_mem_cons.mpr ⟨⟨hv p List.mem_cons_self,r 0 m v rfl rfl⟩,e4⟩⟩
theorem stores_one (hh:A.handled=none) {ns:List (Str × Pos × Nat)} {k:Nat} {tp:Pos} {t:Addr} {items:List Value} {ms:List MV} (S:Stt g h₀ c env X ρ ve σ s.heap)
    (ht:s.heap.IsTuple t items.toArray) (hv:∀ p∈ns,varOf c p.1=some p.2.2) (hl:items.length=ns.length) (hm:ms.length=ns.length) (hr:∀ (i:Nat) (m:MV) (v:Value),ms[i]?=some m→items[i]?=some v→RepM g s.heap X ρ m v)
    {Q:Unit→Shared→Prop} {E:Value→Shared→Prop} (hQ:∀ h' tk,Stt g h₀ c env X ρ (setMany ve ((ns.map (·.2.2)).zip ms)) σ h'→Aft env X ρ X ρ s.heap h'→Q () { s with heap:=h',toks:=tk }) :
    wpAny (model g.prog g.w) A (assign (.Tuple (ns.map fun p=>.Name p.1 p.2.1) k tp) env (.ref t)) Q E s:=by
  refine wpAny_assign_Tuple hh ht (by rw [assignEach_names,List.length_map,List.size_toArray,hl]) (by rw [assignEach_names]; simp) fun h' hx=>?_
  have gr:Grow s.heap h':=fun b o e=>hx b o (Nat.ne_of_lt (Heap.lt_size e)) e
  have S1:=S.grow gr
  obtain ⟨zs,e1,e2,e3,e5,e4⟩:=zip_four g c X ρ ns ms items h' hl hm (fun i m v q1 q2=>(hr i m v q1 q2).move gr.move) hv
  rw [assignEach_names,List.map_map]
  have e1':(ns.map ((fun x=>x.2) ∘ fun p=>(false,assign (.Name p.1 p.2.1) env)))=zs.map (fun p=>assign (.Name p.1 p.2.1) env):=by
    have:=congrArg (List.map fun (p:Str × Pos)=>assign (.Name p.1 p.2) env) e1
    rw [List.map_map,List.map_map] at this
    exact this
  rw [e1']
  have e2':items.toArray.toList=zs.map (·.2.2.2.2):=e2
  rw [e2']
  refine store_many (s:={ s with heap:=h' }) S1 e4 (fun a q=>S1.own a (q.elim .inl (fun q=>q.elim (fun q=>.inr (.inl q)) (fun q=>nomatch q)))) fun h2 tk2 S2 a2=>?_
  rw [← e3] at S2
  exact hQ h2 tk2 S2 ((Aft.of_ext gr.ext).trans a2 S.own S1.alive)
theorem unpack_names (hh:A.handled=none) {ts:List Expr} {is:List Nat} {k:Nat} {tp:Pos} {xs:List AV} {v:Value} (S:Stt g h₀ c env X ρ ve σ s.heap) (hn:nameVars c ts=some is) (r:RepV g s.heap X (.tup xs) v) (e:setAll ve is xs=some ve')
    {Q:Unit→Shared→Prop} {E:Value→Shared→Prop} (hQ:∀ h' tk,Stt g h₀ c env X ρ ve' σ h'→Aft env X ρ X ρ s.heap h'→Q () { s with heap:=h',toks:=tk }):wpAny (model g.prog g.w) A (assign (.Tuple ts k tp) env v) Q E s:=by
  obtain ⟨ns,rfl,rfl,hv⟩:=nameVars_inv hn
  obtain ⟨hl,rfl⟩:=setAll_many e
  rw [List.length_map] at hl
  refine r.elim (fun q=>False.elim q) fun q=>?_
  obtain ⟨a,q,xa,vs,ht,rv⟩:=q
  subst q
  exact stores_one hh S ht hv (rv.length.trans hl.symm) (by rw [List.length_map,hl]) (repVs_at rv) hQ
theorem st_unpack {ts as:List Expr} {is:List Nat} {k:Nat} {f:Expr} {kws:List Keyword} {tp cp pos:Pos} {me:ME} (hn:nameVars c ts=some is) (hv:ESound g mg mb c (.Call f as kws cp) me):SSound g mg mb c (.Assign [.Tuple ts k tp] (.Call f as kws cp) pos) (.unpack is me):=by
  intro T n h₀ A env X ρ ve σ s aok B TT S Q E hQ
  refine postC hQ fun m σ1 e1 hQ=>onP hQ fun xs hxs hQ=>onP hQ fun ve' hve hQ=>obC hxs fun z hz hxs=>?_
  refine Assign_Tuple (hv T n h₀ A env X ρ ve σ s aok.aok B TT S _ _ e1 _ _ fun w h' tk k M R _=>?_)
  have S1:=S.move k M
  refine unpack_names (s:={ s with heap:=h',toks:=tk }) aok.aok.1 S1 hn (AV.tup?_inv hxs ▸ MV.val?_inv hz ▸ R:RepM g h' X ρ (.val (.tup xs)) w) hve fun h2 tk2 S2 a2=>?_
  exact hQ X ρ h2 tk2 ((Aft.of_ext k).trans a2 S.own S1.alive) S2
end
section
variable {g:GG} {mg mb:Str→Option Value} {c:Ctx} {h₀:Heap} {A:Around} {env:Env} {X X' X'':Addr→Prop} {ρ ρ' ρ'':List Addr} {ve ve':List MV} {σ σ':List AV} {s:Shared} {h h' h'':Heap}
theorem setMany_set {i:Nat} {m:MV}:∀ {l:List (Nat × MV)} {ve:List MV},i ∉ l.map (·.1)→setMany (ve.set i m) l=(setMany ve l).set i m
  | [],ve,_=>rfl
  | (j,mj)::r,ve,h=>by
    rw [List.map_cons,List.mem_cons,not_or] at h
    show setMany ((ve.set i m).set j mj) r=(setMany (ve.set j mj) r).set i m
    rw [← setMany_set h.2,List.set_comm _ _ h.1]
theorem setMany_append {l l':List (Nat × MV)} {ve:List MV}:setMany ve (l++l')=setMany (setMany ve l) l':=by
  induction l generalizing ve with
  | nil=>rfl
  | cons p r ih=>exact ih
theorem setMany_reverse:∀ {l:List (Nat × MV)} {ve:List MV},(l.map (·.1)).Nodup→setMany ve l.reverse=setMany ve l
  | [],ve,_=>rfl
  | (i,m)::r,ve,nd=>by
    rw [List.map_cons,List.nodup_cons] at nd
    rw [List.reverse_cons,setMany_append,setMany_reverse nd.2]
    show (setMany ve r).set i m=setMany (ve.set i m) r
    exact (setMany_set nd.1).symm
theorem flagged_inv {muts:List Str} {ts:List Expr}:∀ {vs:List Expr} {is:List (Nat × Bool)},flagged c muts ts vs=some is→∃ xs:List (Str × Pos × Nat),ts=xs.map (fun p=>.Name p.1 p.2.1)∧is.map (·.1)=xs.map (·.2.2)∧(∀ p∈xs,varOf c p.1=some p.2.2)∧vs.length=is.length ∧
    ∀ b i rest v vrest,is=(i,b)::rest→vs=v::vrest→b=true→isFresh v=true:=by
  induction ts with
  | nil =>
    intro vs is h
    cases vs with
    | nil=>cases Option.some.inj h; exact ⟨[],rfl,rfl,(fun p hp=>nomatch hp),rfl,(fun b i rest v vrest e=>nomatch e)⟩
    | cons _ _=>exact nn h
  | cons e ts ih =>
    intro vs is h
    refine obC h fun x hx h1=>?_
    clear h
    obtain ⟨p,rfl⟩:=Expr.name?_inv hx
    cases vs with
    | nil=>exact nn h1
    | cons v vs =>
      refine obC h1 fun i hi h=>?_
      by_cases hf:(muts.contains x && !isFresh v)=true
      · exact nn ((if_pos hf).symm.trans h)
      · refine omC ((if_neg hf).symm.trans h) fun is' h' q=>?_
        obtain ⟨xs,e1,e2,e3,e4,_⟩:=ih h'
        refine ⟨(x,p,i)::xs,congrArg (_::·) e1,q ▸ congrArg (i::·) e2,List.forall_mem_cons.mpr ⟨hi,e3⟩,q ▸ congrArg (·+1) e4,fun b j rest v' vrest q1 q2 hb=>?_⟩
        have qb:muts.contains x=true:=(Prod.mk.inj (List.cons.inj (q.trans q1)).1).2.trans hb
        rw [← (List.cons.inj q2).1]
        rw [qb,Bool.true_and,Bool.not_eq_true',Bool.not_eq_false] at hf
        exact hf
theorem layAll_plain {is:List (Nat × Bool)}:∀ {zs:List AV} {ve:List MV} {σ:List AV} {ve':List MV} {σ':List AV},is.all (fun p=>!p.2)=true→layAll ve σ is zs=some (ve',σ')→is.length=zs.length∧σ'=σ∧ve'=setMany ve ((is.map (·.1)).zip (zs.map MV.val)):=by
  induction is with
  | nil =>
    intro zs ve σ ve' σ' _ h
    cases zs with
    | nil =>
      obtain ⟨rfl,rfl⟩:=Prod.mk.inj (Option.some.inj h)
      exact ⟨rfl,rfl,rfl⟩
    | cons _ _=>exact nn h
  | cons p is ih =>
    intro zs ve σ ve' σ' hb h
    cases zs with
    | nil=>exact nn h
    | cons z zs =>
      obtain ⟨i,b⟩:=p
      have hb:=and_of hb
      cases b with
      | true=>exact nomatch hb.1
      | false=>exact ⟨congrArg (·+1) (ih hb.2 h).1,(ih hb.2 h).2⟩
theorem ite_or {α:Type} {c:Prop} [Decidable c] {x y:α} {P:α→Prop} (h1:P x) (h2:¬ c→P y):P (if c then x else y):=by
  by_cases h:c
  · rw [if_pos h]; exact h1
  · rw [if_neg h]; exact h2 h
theorem swapped_names {xs:List (Str × Pos × Nat)} {k k':Nat} {tp vp:Pos} {vs:List Expr} (hc:vs.all (constantsAlone 8)=false) :
    swappedStores [.Tuple (xs.map fun p=>.Name p.1 p.2.1) k tp] (.Tuple vs k' vp) env=pure none∨swappedStores [.Tuple (xs.map fun p=>.Name p.1 p.2.1) k tp] (.Tuple vs k' vp) env=pure (some (xs.map (·.1))):=by
  unfold swappedStores
  dsimp only
  refine ite_or (P:=fun z=>z=pure none∨z=pure (some (xs.map (·.1)))) (.inl rfl) fun _=>?_
  refine ite_or (P:=fun z=>z=pure none∨z=pure (some (xs.map (·.1)))) (.inl rfl) fun _=>?_
  refine ite_or (P:=fun z=>z=pure none∨z=pure (some (xs.map (·.1)))) (.inl rfl) fun hn=>?_
  refine ite_or (P:=fun z=>z=pure none∨z=pure (some (xs.map (·.1)))) (.inl rfl) fun _=>?_
  rw [hc]
  refine .inr ?_
  simp only [Bool.false_eq_true,if_false]
  have key:∀ (P:Str→Pos→Bool) (xs:List (Str × Pos × Nat)) (l:List Str),l=((xs.map fun p=>Expr.Name p.1 p.2.1).filterMap fun | .Name id pos=>if P id pos=true then some id else none | _=>none)→l.length=xs.length→l=xs.map (·.1):=by
    intro P xs
    induction xs with
    | nil=>intro l e _; rw [e]; rfl
    | cons p r ih =>
      intro l e hl
      rw [List.map_cons,List.filterMap_cons] at e
      have le:((r.map fun p=>Expr.Name p.1 p.2.1).filterMap fun | .Name id pos=>if P id pos=true then some id else none | _=>none).length≤r.length:=Nat.le_trans (List.length_filterMap_le _ _) (by rw [List.length_map]; exact Nat.le_refl _)
      by_cases hP:P p.1 p.2.1=true
      · simp only [hP,if_true] at e
        rw [e] at hl ⊢
        rw [List.map_cons,ih _ rfl (by simpa using hl)]
      · simp only [hP,Bool.false_eq_true,if_false] at e
        rw [e] at hl
        rw [hl,List.length_cons] at le
        exact absurd le (Nat.not_succ_le_self _)
  simp only [Bool.or_eq_true,not_or,bne_iff_ne,ne_eq,Decidable.not_not] at hn
  have hl:=hn.1
  rw [List.length_map (as:=xs)] at hl
  exact congrArg (fun l=>pure (some l)) (key (fun id pos=>env.kindOf id == some NameKind.local && pos.line == (Option.map (fun (x:Expr)=>x.pos.line) (List.map (fun (p:Str × Pos × Nat)=>Expr.Name p.fst p.snd.fst) xs).head?).getD 0) xs _ rfl hl)
end
section
variable {g:GG} {mg mb:Str→Option Value} {c:Ctx} {h₀:Heap} {A:Around} {env:Env} {X X' X'':Addr→Prop} {ρ ρ' ρ'':List Addr} {ve ve':List MV} {σ σ':List AV} {s:Shared} {h h' h'':Heap}
theorem stores_two (hh:A.handled=none) {ns:List (Str × Pos × Nat)} {t:Addr} {items:List Value} {ms:List MV} (S:Stt g h₀ c env X ρ ve σ s.heap)
    (ht:s.heap.IsTuple t items.toArray) (hv:∀ p∈ns,varOf c p.1=some p.2.2) (nd:(ns.map (·.2.2)).Nodup) (hl:items.length=ns.length) (hm:ms.length=ns.length) (hr:∀ (i:Nat) (m:MV) (v:Value),ms[i]?=some m→items[i]?=some v→RepM g s.heap X ρ m v)
    {Q:Unit→Shared→Prop} {E:Value→Shared→Prop} (hQ:∀ h' tk,Stt g h₀ c env X ρ (setMany ve ((ns.map (·.2.2)).zip ms)) σ h'→Aft env X ρ X ρ s.heap h'→Q () { s with heap:=h',toks:=tk }) :
    wpAny (model g.prog g.w) A (unpackItems (.ref t) (ns.map (·.1)).length none) (fun its s₂=>wpAny (model g.prog g.w) A (assignInOrder ((ns.map (·.1)).reverse.map fun n=>bindName env n) its.reverse) Q E s₂) E s:=by
  rw [List.length_map,show ns.length=items.toArray.size by rw [List.size_toArray,hl]]
  refine unpackItems_tuple hh ht fun h' hx=>?_
  have gr:Grow s.heap h':=fun b o e=>hx b o (Nat.ne_of_lt (Heap.lt_size e)) e
  have S1:=S.grow gr
  obtain ⟨zs,e1,e2,e3,e5,e4⟩:=zip_four g c X ρ ns ms items h' hl hm (fun i m v q1 q2=>(hr i m v q1 q2).move gr.move) hv
  have n1:((ns.map (·.1)).reverse.map fun n=>bindName env n)=((zs.map fun p=>(p.1,p.2.2.1,p.2.2.2.1,p.2.2.2.2)).reverse.map fun p=>bindName env p.1):=by
    have:=congrArg (List.map fun (p:Str × Pos)=>p.1) e1
    rw [List.map_map,List.map_map] at this
    rw [show ns.map (·.1)=zs.map (·.1) from this,← List.map_reverse,← List.map_reverse,List.map_map,List.map_map]
    rfl
  have n2:items.toArray.toList.reverse=((zs.map fun p=>(p.1,p.2.2.1,p.2.2.2.1,p.2.2.2.2)).reverse.map (·.2.2.2)):=by
    rw [show items.toArray.toList=zs.map (·.2.2.2.2) by simpa using e2,← List.map_reverse,← List.map_reverse,List.map_map]
    rfl
  rw [n1,n2]
  refine store_binds (s:={ s with heap:=h' }) S1 (fun p hp=>?_) fun h2 tk2 S2 a2=>?_
  · rw [List.mem_reverse] at hp
    obtain ⟨q,hq,rfl⟩:=List.mem_map.mp hp
    exact e4 q hq
  · have e6:((zs.map fun p=>(p.1,p.2.2.1,p.2.2.2.1,p.2.2.2.2)).reverse.map fun p=>(p.2.1,p.2.2.1))=(zs.map fun p=>(p.2.2.1,p.2.2.2.1)).reverse:=by
      rw [← List.map_reverse,List.map_map,← List.map_reverse]
      rfl
    rw [e6,setMany_reverse (by rw [List.map_map]; show (zs.map (·.2.2.1)).Nodup; rw [← e5]; exact nd),← e3] at S2
    exact hQ h2 tk2 S2 ((Aft.of_ext gr.ext).trans a2 S.own S1.alive)
noncomputable def MultiGo (g:GG) (h₀:Heap) (c:Ctx) (A:Around) (env:Env) (ns:List (Str × Pos × Nat)) (ve:List MV) (Q:Flow→Shared→Prop) (v:Value) (s:Shared):Prop :=
  ∃ t X ρ σ ms items,v=.ref t∧Stt g h₀ c env X ρ ve σ s.heap∧s.heap.IsTuple t (List.toArray items)∧items.length=ns.length∧ms.length=ns.length∧(∀ (i:Nat) (m:MV) (v:Value),ms[i]?=some m→items[i]?=some v→RepM g s.heap X ρ m v) ∧
    ∀ h' tk,Stt g h₀ c env X ρ (setMany ve ((ns.map (·.2.2)).zip ms)) σ h'→Aft env X ρ X ρ s.heap h'→Q .next { s with heap:=h',toks:=tk }
theorem multi_exec (hh:A.handled=none) {ns:List (Str × Pos × Nat)} {k k':Nat} {tp vp pos:Pos} {vs:List Expr} (hc:vs.all (constantsAlone 8)=false) (hv:∀ p∈ns,varOf c p.1=some p.2.2) (nd:(ns.map (·.2.2)).Nodup)
    {Q:Flow→Shared→Prop} {E:Value→Shared→Prop} (h:wpAny (model g.prog g.w) A (eval (.Tuple vs k' vp) env) (fun v s₁=>MultiGo g h₀ c A env ns ve Q v s₁) E s) :
    wpAny (model g.prog g.w) A (exec (.Assign [.Tuple (ns.map fun p=>.Name p.1 p.2.1) k tp] (.Tuple vs k' vp) pos) env) Q E s:=by
  rcases swapped_names (env:=env) (xs:=ns) (k:=k) (k':=k') (tp:=tp) (vp:=vp) hc with e | e
  · refine Assign_Tuple (wpAny_mono h (fun v s₁ h₁=>?_) fun _ _ x=>x) rfl e
    obtain ⟨t,X,ρ,σ,ms,items,rfl,S,ht,hl,hm,hr,hQ⟩:=h₁
    exact stores_one hh S ht hv hl hm hr hQ
  · refine Assign_Tuple_swapped (wpAny_mono h (fun v s₁ h₁=>?_) fun _ _ x=>x) rfl e
    obtain ⟨t,X,ρ,σ,ms,items,rfl,S,ht,hl,hm,hr,hQ⟩:=h₁
    exact stores_two hh S ht hv nd hl hm hr hQ
theorem st_multi {muts:List Str} {ts vs:List Expr} {is:List (Nat × Bool)} {k k':Nat} {tp vp pos:Pos} {mes:MEs} (hf:flagged c muts ts vs=some is) (ht:is.tail.all (fun p=>!p.2)=true) (nd:(is.map (·.1)).Nodup) (hc:vs.all (constantsAlone 8)=false)
    (hv:Els g mg mb c vs mes) :
    SSound g mg mb c (.Assign [.Tuple ts k tp] (.Tuple vs k' vp) pos) (.multi is mes):=by
  intro T d h₀ A env X ρ ve σ s aok B TT S Q E hQ
  refine postC hQ fun zs σ1 e1 hQ=>iteP hQ fun hfit hQ=>onP hQ fun pr hlay hQ=>?_
  obtain ⟨ve',σ'⟩:=pr
  obtain ⟨ns,rfl,hi,hvar,hlen,hfr⟩:=flagged_inv hf
  refine multi_exec (ns:=ns) (ve:=ve) (h₀:=h₀) aok.aok.1 hc hvar (by rw [← hi]; exact nd) ?_
  refine Tuple_ ?_
  have tail:∀ (X':Addr→Prop) (ρ':List Addr) (σ2:List AV) (ms:List MV) (ws:List Value) (h1:Heap) (tk1:Nat),Stt g h₀ c env X' ρ' ve σ2 h1→Aft env X ρ X' ρ' s.heap h1→ws.length=ns.length→ms.length=ns.length →
      (∀ (i:Nat) (m:MV) (v:Value),ms[i]?=some m→ws[i]?=some v→RepM g h1 X' ρ' m v)→ve'=setMany ve ((ns.map (·.2.2)).zip ms)→σ'=σ2→ws.length≤1000000 →
      wpAny (model g.prog g.w) A (newTuple ws) (fun v s₁=>MultiGo g h₀ c A env ns ve Q v s₁) E { s with heap:=h1,toks:=tk1 }:=by
    intro X' ρ' σ2 ms ws h1 tk1 S1 a1 hl hm hr hve hσ hsz
    subst hve; subst hσ
    refine wpAny_newObj_type ?_ (by show ws.toArray.size≤sizeLine; rw [List.size_toArray,sizeLine_eq]; omega)
    have gr:Grow h1 (h1.push { cls:=.type "tuple",data:=.seq ws.toArray }):=Grow.push _ _
    have S2:=S1.grow gr
    refine ⟨_,X',ρ',σ',ms,ws,rfl,S2,⟨_,Heap.get?_push_size _ rfl,rfl,0,rfl⟩,hl,hm,(fun i m v q1 q2=>(hr i m v q1 q2).move gr.move),fun h2 tk2 S3 a3=>?_⟩
    exact hQ X' ρ' h2 tk2 (a1.trans ((Aft.of_ext gr.ext).trans a3 S1.own S2.alive) S.own S1.alive) S3
  have b1:=fits_iff hfit
  have hisn:is.length=ns.length:=by
    have:=congrArg List.length hi
    simpa using this
  cases is with
  | nil =>
    cases zs with
    | cons _ _=>cases hlay
    | nil =>
      cases hlay
      have hn0:ns=[]:=by cases ns with
        | nil=>rfl
        | cons _ _=>cases hisn
      subst hn0
      refine hv.sound T d h₀ A env X ρ ve σ s _ aok.aok B TT S [] _ e1 _ _ fun ws h1 tk1 k1 M1 R1=>?_
      have hw0:=RepVs_nil.mp R1
      subst hw0
      exact tail X ρ _ [] [] h1 tk1 (S.move k1 M1) (Aft.of_ext k1) rfl rfl (fun i m v q=>by cases q) rfl rfl (Nat.zero_le _)
  | cons p is =>
    obtain ⟨i0,b0⟩:=p
    rw [List.tail_cons] at ht
    cases b0 with
    | false =>
      obtain ⟨q1,rfl,q3⟩:=layAll_plain (is:=(i0,false)::is) (by rw [List.all_cons,ht]; rfl) hlay
      refine hv.sound T d h₀ A env X ρ ve σ s _ aok.aok B TT S zs _ e1 _ _ fun ws h1 tk1 k1 M1 R1=>?_
      have hl:=R1.length
      refine tail X ρ _ (zs.map MV.val) ws h1 tk1 (S.move k1 M1) (Aft.of_ext k1) (by rw [hl,← q1,hisn]) (by rw [List.length_map,← q1,hisn]) (repVs_at R1) (by rw [q3,hi]) rfl (by omega)
    | true =>
      cases vs with
      | nil=>cases hlen
      | cons v0 vs =>
        have hf0:=hfr _ _ _ _ _ rfl rfl rfl
        cases hv with
        | cons hstar hm0 hmr =>
        rename_i m0 mr
        refine Res.bvalC e1 fun z0 σ0 h0 e1=>Res.bindC e1 fun zr σr hr e1=>?_
        obtain ⟨rfl,rfl⟩:=Res.ok_inv e1
        · · · have cm:canMut z0=true:=by
                cases hcm:canMut z0 with
                | true=>rfl
                | false =>
                  have:(if (true && !canMut z0)=true then none else layAll (lay ve σr i0 true z0).1 (lay ve σr i0 true z0).2 is zr)=some (ve',σ'):=hlay
                  rw [hcm] at this
                  exact nn this
              have hlay:(if (true && !canMut z0)=true then none else layAll (lay ve σr i0 true z0).1 (lay ve σr i0 true z0).2 is zr)=some (ve',σ'):=hlay
              rw [cm] at hlay
              obtain ⟨q1,rfl,q3⟩:=layAll_plain ht hlay
              refine args_cons (hm0 T d h₀ A env X ρ ve σ s aok.aok B TT S _ _ h0 _ _ fun w0 h1 tk1 k1 M1 R1 fr=>?_) (starEach_plain hstar _ _)
              obtain ⟨a,z',ez,rfl,hn,S1,r,af,aρ,aL,ac⟩:=S.fresh k1 (fr hf0)
              have r:=(MV.val.inj ez).symm ▸ r
              refine hmr.sound T d h₀ A env (Plus X a) ρ ve σ0 { s with heap:=h1,toks:=tk1 } _ aok.aok B TT S1 zr _ hr _ _ fun ws h2 tk2 k2 M2 R2=>?_
              have S2:=S1.move k2 M2
              have r2:RepC g h2 (Plus X a) z0 a:=RepC.move (k2.move S1.muts.mem) r fun o e=>k2 a o aρ e
              have S3:=S2.track (.inr rfl) aρ aL ac r2 cm
              have hl:=R2.length
              have hlr:zr.length+1=ns.length:=by rw [← hisn,List.length_cons,q1]
              refine tail (Plus X a) (ρ++[a]) _ (.mu σr.length::zr.map MV.val) (.ref a::ws) h2 tk2 S3 ?_ (by rw [List.length_cons,hl,hlr]) (by rw [List.length_cons,List.length_map,hlr]) ?_ ?_ rfl (by rw [List.length_cons,hl]; rw [List.length_cons] at b1; exact b1)
              · have a2:Aft env X ρ (Plus X a) ρ s.heap h2:=af.trans (Aft.of_ext k2) S.own S1.alive
                refine ⟨a2.sub,a2.new,fun b hb=>?_,a2.ext,List.prefix_append _ _⟩
                rcases List.mem_append.mp hb with q | q
                · exact .inl q
                · rw [List.mem_singleton.mp q]; exact .inr hn
              · intro i m v p1 p2
                cases i with
                | zero =>
                  cases p1; cases p2
                  exact ⟨a,by rw [← M2.len,List.getElem?_concat_length],rfl⟩
                | succ i =>
                  have:=repVs_at (ρ:=ρ++[a]) R2 i m v (by simpa using p1) (by simpa using p2)
                  exact this
              · rw [q3,← hi]
                rfl
end
section
variable {g:GG} {mg mb:Str→Option Value} {c:Ctx} {h₀:Heap} {A:Around} {env:Env} {X X' X'':Addr→Prop} {ρ ρ' ρ'':List Addr} {ve ve':List MV} {σ σ':List AV} {s:Shared} {h h' h'':Heap}
theorem swaps_some {elt:Expr} {gens:List Comprehension} {scope:Scope} {cp:Pos} (x:Str) (xp:Pos) (l:Nat) (env:Env):∃ b,swapsWith (.ListComp elt gens scope cp) (some (.Name x xp)) l env=pure b:=⟨_,rfl⟩
theorem st_comp {x:Str} {xp pos cp:Pos} {i:Nat} {elt iter:Expr} {y:Str} {px:Pos} {ifs:List Expr} {scope:Scope} {cond:MT} {melt mit:ME} (fl:Bool) (hx:varOf c x=some i) (hkind:scope.kind=.function) (hset:notSet iter=true) (CK:CompK c scope.names y)
    (hit:ESound g mg mb c iter mit) (helt:ESound g mg mb (inner c scope.names y) elt melt) (hifs:(ifs=[]∧cond=.tt)∨∃ t,ifs=[t]∧TSound g mg mb (inner c scope.names y) t cond) :
    SSound g mg mb c (.Assign [.Name x xp] (.ListComp elt [⟨.Name y px,iter,ifs,0⟩] scope cp) pos) (if fl then .assignMut i (.comp melt mit cond) else .assign i (.comp melt mit cond)):=by
  intro T n h₀ A env X ρ ve σ s aok B TT S Q E hQ
  obtain ⟨zs,σ1,e1,hfin⟩:∃ zs σ1,evE T (.comp melt mit cond) ve σ=.ok (.val (.list zs)) σ1∧SPost g h₀ c env X ρ s Q (if fl then .nx (ve.set i (.mu σ1.length)) (σ1++[.list zs]) else .nx (ve.set i (.val (.list zs))) σ1):=by
    cases fl with
    | false =>
      refine postC (f:=fun (m:MV) σ=>SRes.on m.val? fun v=>.nx (ve.set i (.val v)) σ) hQ fun m σ1 e1 hQ=>?_
      obtain ⟨_,_,_,ys,_,_,_,_,rfl⟩:=comp_inv e1
      exact ⟨ys,σ1,e1,hQ⟩
    | true =>
      refine postC (f:=fun (m:MV) σ=>SRes.on m.val? fun v=>if canMut v then .nx (ve.set i (.mu σ.length)) (σ++[v]) else .no) hQ fun m σ1 e1 hQ=>?_
      obtain ⟨_,_,_,ys,_,_,_,_,rfl⟩:=comp_inv e1
      exact ⟨ys,σ1,e1,hQ⟩
  have store:∀ (a:Addr) (h1:Heap) (tk1:Nat) (Y:Addr→Prop) (E':Value→Shared→Prop) (Q':Unit→Shared→Prop),Stt g h₀ c env (Plus Y a) ρ ve σ1 h1→RepC g h1 (Plus Y a) (.list zs) a→Aft env X ρ (Plus Y a) ρ s.heap h1→s.heap.get? a=none→¬ Y a→Y env.locals→(∀ n b,env.cells.lookup n=some b→Y b)→(∀ b∈ρ,Y b) →
      (∀ (Z:Addr→Prop) (ρ':List Addr) h2 tk2,((Z=Y∧ρ'=ρ)∨(Z=Plus Y a∧ρ'=ρ++[a]))→Stt g h₀ c env Z ρ' (if fl then ve.set i (.mu σ1.length) else ve.set i (.val (.list zs))) (if fl then σ1++[.list zs] else σ1) h2→Aft env X ρ Z ρ' s.heap h2→Ext (fun b=>b=env.locals∨env.cells.lookup x=some b) h1 h2→Q' () { s with heap:=h2,toks:=tk2 }) →
      wpAny (model g.prog g.w) A (storeName env x (.ref a)) Q' E' { s with heap:=h1,toks:=tk1 }:=by
    intro a h1 tk1 Y E' Q' S1 r a1 hn nY Yl Yc Yρ hQ'
    have aρ:a ∉ ρ:=fun hm=>nY (Yρ a hm)
    have aL:a≠env.locals:=fun q=>nY (q ▸ Yl)
    have ac:∀ n,env.cells.lookup n≠some a:=fun n q=>nY (Yc n a q)
    cases fl with
    | true =>
      have S2:=S1.track (.inr rfl) aρ aL ac r rfl
      refine store_var (s:={ s with heap:=h1,toks:=tk1 }) (mv:=.mu σ1.length) S2 hx ⟨a,by rw [← S1.muts.len,List.getElem?_concat_length],rfl⟩ fun h2 tk2 S3 k2=>?_
      refine hQ' _ _ h2 tk2 (.inr ⟨rfl,rfl⟩) S3 (Aft.trans (ρ':=ρ++[a]) ⟨a1.sub,a1.new,fun b hb=>?_,a1.ext,List.prefix_append _ _⟩ (Aft.store k2) S.own S2.alive) k2
      rcases List.mem_append.mp hb with q | q
      · exact .inl q
      · rw [List.mem_singleton.mp q]; exact .inr hn
    | false =>
      have S2:Stt g h₀ c env Y ρ ve σ1 h1:=S1.weaken (fun b q=>.inl q) Yl Yc Yρ
      have r2:RepV g h1 Y (.list zs) (.ref a):=.inr ⟨a,rfl,nY,RepC.move (fun b o n e=>⟨e,fun q=>n (.inl q)⟩) r fun o e=>e⟩
      refine store_var (s:={ s with heap:=h1,toks:=tk1 }) (mv:=.val (.list zs)) S2 hx r2 fun h2 tk2 S3 k2=>?_
      have subY:∀ b,X b→Y b:=fun b xb=>(a1.sub b xb).elim id fun q=>absurd hn (by subst q; intro e; obtain ⟨o,ho⟩:=S.alive b xb; rw [ho] at e; cases e)
      refine hQ' _ _ h2 tk2 (.inl ⟨rfl,rfl⟩) S3 (Aft.trans (X':=Y) ⟨subY,fun b q=>a1.new b (.inl q),a1.ρnew,a1.ext,a1.pre⟩ (Aft.store k2) S.own S2.alive) k2
  obtain ⟨b,hb⟩:=swaps_some (elt:=elt) (gens:=[⟨.Name y px,iter,ifs,0⟩]) (scope:=scope) (cp:=cp) x xp pos.line env
  cases b with
  | false =>
    refine wpAny_Assign_Name (es_comp hkind hset CK hit helt hifs T n h₀ A env X ρ ve σ s aok.aok B TT S _ _ e1 _ _ fun w h' tk k M R fr=>?_) hb
    obtain ⟨a,z',ez,rfl,hn,S1,r,af,aρ,aL,ac⟩:=S.fresh k (fr rfl)
    cases ez
    refine store a h' tk X _ _ S1 r af hn (S.alive.fresh hn) S.envOk.loc (fun n b e=>(S.envOk.cells n b e).1) S.muts.mem fun Z ρ' h2 tk2 _ S2 a2 _=>?_
    cases fl with
    | true=>exact hfin Z ρ' h2 tk2 a2 S2
    | false=>exact hfin Z ρ' h2 tk2 a2 S2
  | true =>
    have clfree:∀ p∈scope.names,p.2=.free→∃ a,env.cells.lookup p.1=some a:=fun p hp e=>by
      obtain ⟨_,⟨i,hi⟩,hk⟩:=CK.fre p hp e
      obtain ⟨a,_,e1,_⟩:=S.vars.cell p.1 i hi hk
      exact ⟨a,e1⟩
    rw [exec_Assign_Name_used _ _ _ _ hb]
    refine wpAny_bind (wpAny_standAt (wpAny_bind ?_))
    show wpAny _ A (do let _ ← comprehension (.ListComp elt [⟨.Name y px,iter,ifs,0⟩] scope cp) scope env _ (newList []) false (eval iter env) (some (assign (.Name x xp) env))) _ _ s
    refine wpAny_bind (wpAny_mono (wpAny_comprehension_free (use:=some (assign (.Name x xp) env)) (Q:=fun _ s'=>Q .next s') rfl (not_set_fold hset env) (closure_eq clfree) hkind (fun p hp e=>(CK.loc p hp e).2)
      (comp_core hkind CK hit helt hifs aok.aok B TT S e1 (RR:=fun acc C=>compPost (model g.prog g.w) A E (some (assign (.Name x xp) env)) (fun _ s'=>Q .next s') acc C) fun D C h' tk m' ys em nD nC DC hn ex S' rv=>?_)) (fun _ s' hq=>wpAny_pure (wpAny_pure hq)) fun _ _ e=>e)
    cases em
    have nXC:¬ X C:=S.alive.fresh nC
    have nXD:¬ X D:=S.alive.fresh nD
    have CL:C≠env.locals:=fun q=>nXC (q ▸ S.envOk.loc)
    have Cc:∀ n,env.cells.lookup n≠some C:=fun n q=>nXC (S.envOk.cells n C q).1
    have Cρ:C ∉ ρ:=fun hm=>nXC (S.muts.mem C hm)
    show wpAny _ A (assign (.Name x xp) env (.ref D)) _ _ _
    have eqG:∀ b,Plus (fun b=>X b∨b=C) D b→(X b∨b=C∨b=D):=fun b q=>q.elim (fun q=>q.elim .inl (fun q=>.inr (.inl q))) (fun q=>.inr (.inr q))
    have S1:Stt g h₀ c env (Plus (fun b=>X b∨b=C) D) ρ ve σ1 h':=S'.weaken eqG (.inl (.inl S.envOk.loc)) (fun n b e=>.inl (.inl (S.envOk.cells n b e).1)) (fun b hb=>.inl (.inl (S.muts.mem b hb)))
    have r1:RepC g h' (Plus (fun b=>X b∨b=C) D) (.list zs) D:=RepC.move (fun b o n e=>⟨e,fun q=>n (eqG b q)⟩) rv fun o e=>e
    have a1:Aft env X ρ (Plus (fun b=>X b∨b=C) D) ρ s.heap h':=⟨fun b q=>.inl (.inl q),fun b q=>q.elim (fun q=>q.elim .inl (fun q=>.inr (q ▸ nC))) (fun q=>.inr (q ▸ nD)),fun b hb=>.inl hb,ex.mono fun b q=>.inr (.inr q),List.prefix_rfl⟩
    refine wpAny_assign_Name (store D h' tk (fun b=>X b∨b=C) E _ S1 r1 a1 nD (fun q=>q.elim nXD DC) (.inl S.envOk.loc) (fun n b e=>.inl (S.envOk.cells n b e).1) (fun b hb=>.inl (S.muts.mem b hb)) fun Z ρ' h2 tk2 hZ S2 a2 k2=>?_)
    refine ⟨m',Heap.Ns.at' hn fun o e=>k2 C o (fun q=>q.elim CL (Cc x)) e,fun h3 hs=>?_⟩
    have kb:∀ b o,b≠C→h2.get? b=some o→h3.get? b=some o:=fun b o nb e=>hs.extBut b o nb e
    let X2:Addr→Prop:=fun b=>X b∨(b=D∧Z D)
    have Zsub:∀ b,Z b→X b∨b=C∨b=D:=fun b q=>by
      rcases hZ with ⟨rfl,rfl⟩ | ⟨rfl,rfl⟩
      · exact q.elim .inl (fun q=>.inr (.inl q))
      · exact q.elim (fun q=>q.elim .inl (fun q=>.inr (.inl q))) (fun q=>.inr (.inr q))
    have ZX:∀ b,X b→Z b:=fun b q=>by
      rcases hZ with ⟨rfl,rfl⟩ | ⟨rfl,rfl⟩
      · exact .inl q
      · exact .inl (.inl q)
    have ZC:Z C:=by
      rcases hZ with ⟨rfl,rfl⟩ | ⟨rfl,rfl⟩
      · exact .inr rfl
      · exact .inl (.inr rfl)
    have ρ'C:C ∉ ρ':=fun hm=>by
      rcases hZ with ⟨rfl,rfl⟩ | ⟨rfl,rfl⟩
      · exact Cρ hm
      · rcases List.mem_append.mp hm with q | q
        · exact Cρ q
        · exact DC (List.mem_singleton.mp q).symm
    have ρ'X:∀ a∈ρ',X2 a:=fun a hm=>by
      rcases hZ with ⟨rfl,rfl⟩ | ⟨rfl,rfl⟩
      · exact .inl (S.muts.mem a hm)
      · rcases List.mem_append.mp hm with q | q
        · exact .inl (S.muts.mem a q)
        · exact .inr ⟨List.mem_singleton.mp q,.inr rfl⟩
    have S3:=S2.leave (h':=h3) (X':=X2) (·=C) (fun b q=>by subst q; exact ⟨ZC,ρ'C,CL,Cc⟩) (fun b o n e=>kb b o n e) (fun b q=>q.elim (ZX b) (fun q=>q.1 ▸ q.2)) (.inl S.envOk.loc) (fun n b e=>.inl (S.envOk.cells n b e).1) ρ'X
      (fun b q x=>by subst q; exact (x.elim nXC (fun q=>DC q.1.symm)).elim)
    have a3:Aft env X ρ X2 ρ' s.heap h3:=⟨fun b q=>.inl q,fun b q=>q.elim .inl (fun q=>.inr (q.1 ▸ nD)),a2.ρnew,fun b o n e=>kb b o (fun q=>by subst q; rw [nC] at e; cases e) (a2.ext b o n e),a2.pre⟩
    cases fl with
    | true=>exact hfin X2 ρ' h3 tk2 a3 S3
    | false=>exact hfin X2 ρ' h3 tk2 a3 S3
end
structure ForIt (g:GG) (h₀:Heap) (c:Ctx) (A:Around) (env:Env) (target:Expr) (it:Value) (xs:List AV) (is:List Nat) (ItO:Addr→Prop) (LI:(Addr→Prop)→List Addr→Nat→Heap→Prop):Prop where
  frame:∀ X ρ X' ρ' i h h',LI X ρ i h→(∀ b,Own env ρ b→X b)→Aft env X ρ X' ρ' h h'→LI X' ρ' i h'
  outs:∀ X ρ i h,LI X ρ i h→∀ b,ItO b→X b∧b ∉ ρ∧b≠env.locals∧∀ n,env.cells.lookup n≠some b
  item:∀ X ρ ve σ ve' i x (s:Shared) (K:Shared→Prop) (E:Value→Shared→Prop),xs[i]?=some x→Stt g h₀ c env X ρ ve σ s.heap→LI X ρ i s.heap→bindItem ve is x=some ve' →
    (∀ X' h' tk,Stt g h₀ c env X' ρ ve' σ h'→LI X' ρ (i+1) h'→(∀ b,X b→X' b)→(∀ b,X' b→X b∨s.heap.get? b=none)→Ext (fun b=>Own env ρ b∨ItO b) s.heap h'→K { s with heap:=h',toks:=tk }) →
    wpAny (model g.prog g.w) A (pyNext it) (fun r s₁=>∃ v,r=some v∧wpAny (model g.prog g.w) A (letOwnedTupleGo target it v) (fun _ s₁'=>wpAny (model g.prog g.w) A (assign target env v) (fun _ s₂=>K s₂) E s₁') E s₁) E s
  done:∀ X ρ ve σ (s:Shared) (Q:Option Value→Shared→Prop) (E:Value→Shared→Prop),Stt g h₀ c env X ρ ve σ s.heap→LI X ρ xs.length s.heap→(∀ h' tk,Ext ItO s.heap h'→Q none { s with heap:=h',toks:=tk })→wpAny (model g.prog g.w) A (pyNext it) Q E s
section
variable {g:GG} {mg mb:Str→Option Value} {c:Ctx} {h₀:Heap} {A:Around} {env:Env} {X X' X'':Addr→Prop} {ρ ρ' ρ'':List Addr} {ve ve':List MV} {σ σ':List AV} {s:Shared} {h h' h'':Heap}
noncomputable def bodyF (T:Tab) (is:List Nat) (body:MSs) (x:AV) (ve:List MV) (σ:List AV):SRes:=SRes.on (bindItem ve is x) fun ve=>exSs T body ve σ
noncomputable def restF (T:Tab) (is:List Nat) (body orelse:MSs) (xs:List AV) (ve:List MV) (σ:List AV):SRes:=(forL (bodyF T is body) xs ve σ).after (exSs T orelse)
theorem for_loop {target:Expr} {it:Value} {xs:List AV} {is:List Nat} {ItO:Addr→Prop} {LI:(Addr→Prop)→List Addr→Nat→Heap→Prop} {body orelse:List Stmt} {mbody mor:MSs} (F:ForIt g h₀ c A env target it xs is ItO LI)
    {T:Tab} {n:Nat} (aok:SAok c n A env) (B:Base g mg mb h₀) (TT:TabOk g mg T n h₀) (hb:SsSound g mg mb c body mbody) (ho:SsSound g mg mb c orelse mor)
    {X₀:Addr→Prop} {ρ₀:List Addr} (own₀:∀ b,Own env ρ₀ b→X₀ b) {s₀:Shared} (al₀:Alive X₀ s₀.heap) (hit:∀ b,ItO b→s₀.heap.get? b=none)
    {Q:Flow→Shared→Prop} {E:Value→Shared→Prop} {h1:Heap} {tk1:Nat} (S1:Stt g h₀ c env X ρ₀ ve σ h1) (L1:LI X ρ₀ 0 h1) (a1:Aft env X₀ ρ₀ X ρ₀ s₀.heap h1) (hQ:SPost g h₀ c env X₀ ρ₀ s₀ Q (restF T is mbody mor xs ve σ)) :
    codeAny (model g.prog g.w) A (.forLoop target it body orelse env) (fun r s'=>match r with | .ok f=>Q f s' | .error e=>cameBackBy (model g.prog g.w) A env E e s') { s₀ with heap:=h1,toks:=tk1 }:=by
  refine codeAny_forLoop_any (fun k s'=>∃ i X ρ ve σ h tk,s'={ s₀ with heap:=h,toks:=tk }∧i≤xs.length∧k=xs.length - i∧SPost g h₀ c env X₀ ρ₀ s₀ Q (restF T is mbody mor (xs.drop i) ve σ)∧Stt g h₀ c env X ρ ve σ h∧LI X ρ i h∧Aft env X₀ ρ₀ X ρ s₀.heap h) ?_ xs.length
    ⟨0,X,ρ₀,ve,σ,h1,tk1,rfl,Nat.zero_le _,rfl,by simpa using hQ,S1,L1,a1⟩
  rintro k s' ⟨i,X,ρ,ve,σ,h,tk,rfl,hi,rfl,hP,S,L,a⟩
  rcases Nat.lt_or_ge i xs.length with hlt | hge
  case inr =>
    have hi':i=xs.length:=Nat.le_antisymm hi hge
    subst hi'
    rw [List.drop_length] at hP
    have hP':SPost g h₀ c env X₀ ρ₀ s₀ Q (exSs T mor ve σ):=hP
    refine F.done X ρ ve σ { s₀ with heap:=h,toks:=tk } _ _ S L fun h' tk' kx=>?_
    have ou:=F.outs X ρ _ h L
    have S':Stt g h₀ c env (fun b=>X b∧¬ ItO b) ρ ve σ h':=S.leave ItO (fun b q=>ou b q) kx (fun b q=>q.1) ⟨S.envOk.loc,fun q=>(ou _ q).2.2.1 rfl⟩ (fun n b e=>⟨(S.envOk.cells n b e).1,fun q=>(ou b q).2.2.2 n e⟩) (fun b hb=>⟨S.muts.mem b hb,fun q=>(ou b q).2.1 hb⟩) (fun b q x=>(x.2 q).elim)
    have a':Aft env X₀ ρ₀ (fun b=>X b∧¬ ItO b) ρ s₀.heap h':=⟨fun b q=>⟨a.sub b q,fun w=>by have:=hit b w; obtain ⟨o,e⟩:=al₀ b q; rw [this] at e; cases e⟩,fun b q=>a.new b q.1,a.ρnew,fun b o nb e=>kx b o (fun w=>by rw [hit b w] at e; cases e) (a.ext b o nb e),a.pre⟩
    exact ho T n h₀ A env _ ρ ve σ { s₀ with heap:=h',toks:=tk' } aok B TT S' _ _ (hP'.later a' own₀ S'.alive)
  case inl =>
    obtain ⟨x,hxi⟩:∃ x,xs[i]?=some x:=⟨_,List.getElem?_eq_getElem hlt⟩
    have hd:xs.drop i=x::xs.drop (i+1):=by
      have:=(List.getElem?_eq_some_iff.mp hxi).2
      rw [← this]; exact List.drop_eq_getElem_cons hlt
    rw [hd] at hP
    cases hbi:bindItem ve is x with
    | none =>
      have hP:SPost g h₀ c env X₀ ρ₀ s₀ Q (((SRes.on (bindItem ve is x) fun ve=>exSs T mbody ve σ).step (forL (bodyF T is mbody) (xs.drop (i+1)))).after (exSs T mor)):=hP
      rw [hbi] at hP
      exact False.elim hP
    | some ve2 =>
      have hP:SPost g h₀ c env X₀ ρ₀ s₀ Q (((SRes.on (bindItem ve is x) fun ve=>exSs T mbody ve σ).step (forL (bodyF T is mbody) (xs.drop (i+1)))).after (exSs T mor)):=hP
      rw [hbi] at hP
      have hP:SPost g h₀ c env X₀ ρ₀ s₀ Q (((exSs T mbody ve2 σ).step (forL (bodyF T is mbody) (xs.drop (i+1)))).after (exSs T mor)):=hP
      have key:=F.item X ρ ve σ ve2 i x { s₀ with heap:=h,toks:=tk } (fun s₂=>wpAny (model g.prog g.w) A (execs body env) (fun f s₃=>match f with
            | .next | .cont=>∃ m,m < xs.length - i∧∃ i X ρ ve σ h tk,s₃={ s₀ with heap:=h,toks:=tk }∧i≤xs.length∧m=xs.length - i∧SPost g h₀ c env X₀ ρ₀ s₀ Q (restF T is mbody mor (xs.drop i) ve σ)∧Stt g h₀ c env X ρ ve σ h∧LI X ρ i h∧Aft env X₀ ρ₀ X ρ s₀.heap h
            | .brk=>Q .next s₃
            | .ret v=>Q (.ret v) s₃) (notedBy (model g.prog g.w) A env fun e s'=>cameBackBy (model g.prog g.w) A env E e s') s₂)
        (notedBy (model g.prog g.w) A env fun e s'=>cameBackBy (model g.prog g.w) A env E e s') hxi S L hbi ?_
      · refine wpAny_mono key (fun r s₁ hr=>?_) fun _ _ e=>e
        obtain ⟨v,rfl,hv⟩:=hr
        exact hv
      · intro X2 h2 tk2 S2 L2 sub new ex
        have a2:Aft env X₀ ρ₀ X2 ρ s₀.heap h2:=by
          have back:∀ b,h.get? b=none→s₀.heap.get? b=none:=fun b e=>by
            cases q:s₀.heap.get? b with
            | none=>rfl
            | some o =>
              obtain ⟨o',e'⟩:=a.alive S own₀ q
              rw [e] at e'; cases e'
          refine ⟨fun b q=>sub b (a.sub b q),fun b q=>?_,a.ρnew,fun b o nb e=>ex b o (fun w=>?_) (a.ext b o nb e),a.pre⟩
          · rcases new b q with q | q
            · exact a.new b q
            · exact .inr (back b q)
          · rcases w with w | w
            · rcases w with q | q | q
              · exact nb (.inl q)
              · exact nb (.inr (.inl q))
              · rcases a.ρnew b q with q | q
                · exact nb (.inr (.inr q))
                · rw [q] at e; cases e
            · rw [hit b w] at e; cases e
        refine hb T n h₀ A env X2 ρ ve2 σ { s₀ with heap:=h2,toks:=tk2 } aok B TT S2 _ _ ?_
        cases hr:exSs T mbody ve2 σ with
        | nx ve3 σ3 =>
          rw [hr] at hP
          intro X3 ρ3 h3 tk3 a3 S3
          exact ⟨xs.length - (i+1),(Nat.sub_lt_sub_left hlt (Nat.lt_succ_self i)),i+1,X3,ρ3,ve3,σ3,h3,tk3,rfl,hlt,rfl,hP,S3,F.frame X2 ρ X3 ρ3 (i+1) h2 h3 L2 S2.own a3,a2.trans a3 own₀ S2.alive⟩
        | brk ve3 σ3 =>
          rw [hr] at hP
          intro X3 ρ3 h3 tk3 a3 S3
          exact hP X3 ρ3 h3 tk3 (a2.trans a3 own₀ S2.alive) S3
        | ret v σ3 =>
          rw [hr] at hP
          intro X3 ρ3 h3 tk3 w a3 al3 r3
          exact hP X3 ρ3 h3 tk3 w (a2.trans a3 own₀ S2.alive) al3 r3
        | stop _ _=>rw [hr] at hP; exact hP.elim
        | no=>rw [hr] at hP; exact hP.elim
end
section
variable {g:GG} {mg mb:Str→Option Value} {c:Ctx} {h₀:Heap} {A:Around} {env:Env} {X X' X'':Addr→Prop} {ρ ρ' ρ'':List Addr} {ve ve':List MV} {σ σ':List AV} {s:Shared} {h h' h'':Heap}
theorem go_plain {M:Model} {E:Value→Shared→Prop} {target:Expr} {I:Addr} {v:Value} {o:Obj} {T:String} (ho:s.heap.get? I=some o) (hc:o.cls=.type T) (hT:["enumerate","zip","dict_itemiterator","dict_reverseitemiterator","odict_iterator","itertools.zip_longest","itertools.pairwise"].contains T=false)
    {Q:Unit→Shared→Prop} (hQ:Q () s):wpAny M A (letOwnedTupleGo target (.ref I) v) Q E s:=by
  have key:wpAny M A (letOwnedTupleGo (.List [] default) (.ref I) v) Q E s:=by
    cases v with
    | ref a =>
      refine wpAny_bind (wpAny_load ho ?_)
      obtain ⟨cls,dd,data,sl⟩:=o
      cases hc
      cases data with
      | fields vs =>
        show wpAny M A (if (_ && _)=true then _ else _) Q E s
        rw [hT,Bool.false_and,if_neg Bool.false_ne_true]
        exact wpAny_pure hQ
      | _=>exact wpAny_pure hQ
    | _=>exact wpAny_pure hQ
  cases target <;> first | exact wpAny_pure hQ | exact key
noncomputable def Binds (g:GG) (h₀:Heap) (c:Ctx) (A:Around) (env:Env) (target:Expr) (is:List Nat):Prop :=
  ∀ (X:Addr→Prop) (ρ:List Addr) (ve:List MV) (σ:List AV) (ve':List MV) (x:AV) (v:Value) (s:Shared) (Q:Unit→Shared→Prop) (E:Value→Shared→Prop),Stt g h₀ c env X ρ ve σ s.heap→RepV g s.heap X x v→bindItem ve is x=some ve' →
    (∀ h' tk,Stt g h₀ c env X ρ ve' σ h'→Aft env X ρ X ρ s.heap h'→Q () { s with heap:=h',toks:=tk })→wpAny (model g.prog g.w) A (assign target env v) Q E s
theorem binds_name {x:Str} {xp:Pos} {i:Nat} (hx:varOf c x=some i):Binds g h₀ c A env (.Name x xp) [i]:=by
  intro X ρ ve σ ve' y v s Q E S r hb hQ
  cases Option.some.inj hb
  exact wpAny_assign_Name (store_var (mv:=.val y) S hx r fun h' tk S' k=>hQ h' tk S' (Aft.store k))
theorem binds_tuple (hh:A.handled=none) {ts:List Expr} {is:List Nat} {k:Nat} {tp:Pos} (hn:nameVars c ts=some is) (h2:2≤is.length):Binds g h₀ c A env (.Tuple ts k tp) is:=by
  intro X ρ ve σ ve' y v s Q E S r hb hQ
  have hb:(y.tup?.bind fun xs=>setAll ve is xs)=some ve':=by
    cases is with
    | nil=>exact hb
    | cons i r =>
      cases r with
      | nil=>exact absurd h2 (Nat.not_succ_le_self 1)
      | cons _ _=>exact hb
  exact obC hb fun xs hx hb=>unpack_names hh S hn (AV.tup?_inv hx ▸ r) hb hQ
theorem Own.not (S:Stt g h₀ c env X ρ ve σ h) {b:Addr} (n:¬ X b):¬ Own env ρ b:=fun q=>n (S.own b q)
theorem walk_for {target:Expr} {is:List Nat} {I:Addr} {xs:List AV} {fp:List Addr} {P:Nat→Value→Prop} {St:Nat→Heap→Prop} {Inv:(Addr→Prop)→Heap→Prop} {h₁:Heap} (Wk:Walk g A X h₁ I xs fp P St Inv) (Bi:Binds g h₀ c A env target is) :
    ForIt g h₀ c A env target (.ref I) xs is (·=I) (fun X' ρ i h=>X' I∧I ∉ ρ∧I≠env.locals∧(∀ n,env.cells.lookup n≠some I)∧St i h∧Inv X' h∧(∀ b∈fp,b=I∨(¬ X' b∧∃ o,h.get? b=some o))):=by
  refine ⟨?_,?_,?_,?_⟩
  · rintro X ρ X' ρ' i h h' ⟨l1,l2,l3,l4,l5,l6,l7⟩ own a
    have nI:¬ Own env ρ I:=fun q=>q.elim l3 (fun q=>q.elim (fun ⟨n,q⟩=>l4 n q) l2)
    obtain ⟨oI,eI⟩:=Wk.live i h l5
    refine ⟨a.sub I l1,fun hm=>?_,l3,l4,Wk.W.frame i h h' l5 fun b hb o e=>?_,Wk.inv _ _ _ _ l6 (a.move own),fun b hb=>?_⟩
    · rcases a.ρnew I hm with q | q
      · exact l2 q
      · rw [q] at eI; cases eI
    · rcases l7 b hb with q | ⟨q,_⟩
      · subst q; exact a.ext b o nI e
      · exact a.ext b o (fun w=>q (own b w)) e
    · rcases l7 b hb with q | ⟨q,o,e⟩
      · exact .inl q
      · refine .inr ⟨fun w=>?_,o,a.ext b o (fun w=>q (own b w)) e⟩
        rcases a.new b w with w | w
        · exact q w
        · rw [w] at e; cases e
  · rintro X ρ i h ⟨l1,l2,l3,l4,_⟩ b rfl
    exact ⟨l1,l2,l3,l4⟩
  · rintro X ρ ve σ ve' i x s K E hx S ⟨l1,l2,l3,l4,l5,l6,l7⟩ hb hK
    have hlt:i < xs.length:=(List.getElem?_eq_some_iff.mp hx).1
    refine Wk.W.item i s _ E hlt l5 fun v h' tk hp st' hk=>?_
    have hk':∀ b o,b≠I→s.heap.get? b=some o→h'.get? b=some o:=fun b o n e=>hk b o (by simpa using n) e
    obtain ⟨oI,T,eI,hc,hT⟩:=Wk.look _ _ st'
    have mv:Move s.heap h' X X:=fun b o n e=>⟨hk' b o (fun q=>n (q ▸ l1)) e,n⟩
    have S1:Stt g h₀ c env X ρ ve σ h':=S.other (·=I) (fun b q=>by subst q; exact ⟨l1,l2,l3,l4⟩) (fun b o n e=>hk' b o n e) (fun b q=>by subst q; exact ⟨_,eI⟩)
    have inv1:=Wk.inv _ _ _ _ l6 mv
    refine ⟨v,rfl,go_plain (s:={ s with heap:=h',toks:=tk }) eI hc hT ?_⟩
    refine Bi X ρ ve σ ve' x v { s with heap:=h',toks:=tk } _ _ S1 (Wk.rep i v x X h' hp hx inv1) hb fun h2 tk2 S2 a2=>?_
    have nI:¬ Own env ρ I:=fun q=>q.elim l3 (fun q=>q.elim (fun ⟨n,q⟩=>l4 n q) l2)
    have mv2:Move h' h2 X X:=a2.move S1.own
    refine hK X h2 tk2 S2 ⟨l1,l2,l3,l4,Wk.W.frame _ _ _ st' fun b hb o e=>?_,Wk.inv _ _ _ _ inv1 mv2,fun b hb=>?_⟩ (fun _ x=>x) (fun _ x=>.inl x) fun b o n e=>a2.ext b o (fun w=>n (.inl w)) (hk' b o (fun w=>n (.inr w)) e)
    · rcases l7 b hb with q | ⟨q,_⟩
      · subst q; exact a2.ext b o nI e
      · exact a2.ext b o (Own.not S1 q) e
    · rcases l7 b hb with q | ⟨q,o,e⟩
      · exact .inl q
      · have e1:=hk' b o (fun w=>q (w ▸ l1)) e
        exact .inr ⟨q,o,a2.ext b o (Own.not S1 q) e1⟩
  · rintro X ρ ve σ s Q E S ⟨l1,l2,l3,l4,l5,l6,l7⟩ hQ
    exact Wk.W.done s Q E l5 fun h' tk hk=>hQ h' tk fun b o n e=>hk b o (by simpa using n) e
theorem elemsF_inv {is:List Nat} {x:AV} {xs:List AV} (e:elemsF is x=some xs):elems x=some xs∧∀ d,x=.items d→is.length=2:=by
  unfold elemsF at e
  by_cases h:(x.items?.isSome && !(is.length == 2))=true
  · rw [if_pos h] at e; exact nn e
  · rw [if_neg h] at e
    refine ⟨e,fun d q=>?_⟩
    subst q
    cases hl:(is.length == 2) with
    | true=>exact beq_iff_eq.mp hl
    | false=>rw [hl] at h; exact absurd rfl h
theorem st_for {target iter:Expr} {is:List Nat} {body orelse:List Stmt} {pos:Pos} {mit:ME} {mbody mor:MSs} (hset:notSet iter=true) (Bi:∀ (h₀:Heap) (A:Around) (env:Env),A.handled=none→Binds g h₀ c A env target is)
    (hit:ESound g mg mb c iter mit) (hb:SsSound g mg mb c body mbody) (ho:SsSound g mg mb c orelse mor) (hitems:∀ (h₀:Heap) (A:Around) (env:Env),A.handled=none→∀ (T:Tab) (n:Nat) (X:Addr→Prop) (ρ:List Addr) (ve:List MV) (σ:List AV) (s:Shared) (d:AV) (xs:List AV) (v:Value) (Q:Flow→Shared→Prop) (E:Value→Shared→Prop),
      SAok c n A env→Base g mg mb h₀→TabOk g mg T n h₀→Stt g h₀ c env X ρ ve σ s.heap→is.length=2→elems (.items d)=some xs→fits xs.length=true→RepV g s.heap X (.items d) v→SPost g h₀ c env X ρ s Q (restF T is mbody mor xs ve σ) →
      wpAny (model g.prog g.w) A (pyIter v) (fun it s₂=>codeAny (model g.prog g.w) A (.forLoop target it body orelse env) (fun r s'=>match r with | .ok f=>Q f s' | .error e=>cameBackBy (model g.prog g.w) A env E e s') s₂) E s) :
    SSound g mg mb c (.For target iter body orelse pos) (.forr is mit mbody mor):=by
  intro T n h₀ A env X ρ ve σ s aok B TT S Q E hQ
  refine postC hQ fun m σ1 e1 hQ=>onP hQ fun xs hxs hQ=>iteP hQ fun fx hQ=>obC hxs fun x hv helF=>?_
  have e1:evE T mit ve σ=.ok (.val x) σ1:=MV.val?_inv hv ▸ e1
  have hel:=elemsF_inv helF
  · · have hQ':SPost g h₀ c env X ρ s Q (restF T is mbody mor xs ve σ1):=hQ
      refine wpAny_For (hit T n h₀ A env X ρ ve σ s aok.aok B TT S _ _ e1 _ _ fun v h1 tk1 k1 M1 R1 _=>?_) (not_set_fold hset env)
      have S1:=S.move k1 M1
      have hQ1:=hQ'.later (tk:=tk1) (Aft.of_ext k1) S.own S1.alive
      by_cases hi:∃ d,x=.items d
      · obtain ⟨d,rfl⟩:=hi
        have h2:is.length=2:=hel.2 d rfl
        exact hitems h₀ A env aok.aok.1 T n X ρ ve σ1 { s with heap:=h1,toks:=tk1 } d xs v Q E aok B TT S1 h2 hel.1 fx R1 hQ1
      · refine iterW (s:={ s with heap:=h1,toks:=tk1 }) aok.aok.1 S1.alive hel.1 (fun d q=>hi ⟨d,q⟩) fx R1 fun I h2 fp P St Inv Wk k2 ⟨oI,aI⟩ st0=>?_
        have nI:h1.get? I=none:=Wk.new
        have nX:¬ X I:=S1.alive.fresh nI
        have S2:Stt g h₀ c env (Plus X I) ρ ve σ1 h2:=S1.protect k2 (fun b q=>.inl q) (fun b q=>q.elim .inl (fun q=>.inr (q ▸ nI))) (fun b q=>q.elim (fun q=>let ⟨o,e⟩:=S1.alive b q; ⟨o,k2 b o e⟩) (fun q=>by subst q; exact ⟨_,aI⟩))
        refine for_loop (s₀:={ s with heap:=h1,toks:=tk1 }) (walk_for Wk (Bi h₀ A env aok.aok.1)) aok B TT hb ho S1.own S1.alive (fun b q=>by subst q; exact nI) S2 ⟨.inr rfl,fun hm=>nX (S1.muts.mem I hm),fun q=>nX (q ▸ S1.envOk.loc),fun n q=>nX (S1.envOk.cells n I q).1,st0,Wk.start _ _ ⟨fun b q=>.inl q,fun b q=>q.elim .inl (fun q=>.inr (q ▸ nI))⟩ k2,fun b hb=>?_⟩
          ⟨fun b q=>.inl q,fun b q=>q.elim .inl (fun q=>.inr (q ▸ nI)),fun b q=>.inl q,k2.ext,List.prefix_rfl⟩ hQ1
        rcases Wk.fpx b hb with q | ⟨q,o,e⟩
        · exact .inl q
        · exact .inr ⟨fun w=>w.elim q (fun w=>by subst w; rw [show h1.get? b=some o from e] at nI; cases nI),o,k2 b o e⟩
end
section
variable {g:GG} {mg mb:Str→Option Value} {c:Ctx} {h₀:Heap} {A:Around} {env:Env} {X X' X'':Addr→Prop} {ρ ρ' ρ'':List Addr} {ve ve':List MV} {σ σ':List AV} {s:Shared} {h h' h'':Heap}
theorem items_for (hh:A.handled=none) {ts:List Expr} {k:Nat} {tp:Pos} {is:List Nat} {it d:Addr} {kvs:List (Str × Value)} {ep:Nat} {ks:List Str} {vs:List AV} (ek:kvs.map (·.1)=ks) (hl:kvs.length=vs.length) (hdi:d≠it) (Bi:Binds g h₀ c A env (.Tuple ts k tp) is) :
    ForIt g h₀ c A env (.Tuple ts k tp) (.ref it) ((ks.zip vs).map fun p=>.tup [.str p.1,p.2]) is (·=it) (fun X' ρ i h=>X' it∧it ∉ ρ∧it≠env.locals∧(∀ n,env.cells.lookup n≠some it)∧(∃ ok ov,IsItemIter h it d i kvs.length ep ok ov)∧h.DictAt (PySem.strKind g.prog g.w) d kvs ep∧¬ X' d∧RepVs g h X' vs (kvs.map (·.2))):=by
  have lenx:((ks.zip vs).map fun p=>AV.tup [.str p.1,p.2]).length=kvs.length:=by
    rw [List.length_map,List.length_zip,← ek,List.length_map,hl,Nat.min_self]
  refine ⟨?_,?_,?_,?_⟩
  · rintro X ρ X' ρ' i h h' ⟨l1,l2,l3,l4,⟨ok,ov,l5⟩,l6,l7,l8⟩ own a
    have nI:¬ Own env ρ it:=fun q=>q.elim l3 (fun q=>q.elim (fun ⟨n,q⟩=>l4 n q) l2)
    obtain ⟨od,es,eo,rest⟩:=id l6
    refine ⟨a.sub it l1,fun hm=>?_,l3,l4,⟨ok,ov,a.ext it _ nI l5⟩,l6.at' (fun o e=>a.ext d o (fun w=>l7 (own d w)) e),fun w=>?_,l8.move (a.move own)⟩
    · rcases a.ρnew it hm with q | q
      · exact l2 q
      · rw [show h.get? it=_ from l5] at q; cases q
    · rcases a.new d w with w | w
      · exact l7 w
      · rw [w] at eo; cases eo
  · rintro X ρ i h ⟨l1,l2,l3,l4,_⟩ b rfl
    exact ⟨l1,l2,l3,l4⟩
  · rintro X ρ ve σ ve' i x s K E hx S ⟨l1,l2,l3,l4,⟨ok,ov,l5⟩,l6,l7,l8⟩ hb hK
    have hlt:i < kvs.length:=by rw [← lenx]; exact (List.getElem?_eq_some_iff.mp hx).1
    obtain ⟨⟨kk,vv⟩,hkv⟩:∃ p,kvs[i]?=some p:=⟨_,List.getElem?_eq_getElem hlt⟩
    obtain ⟨z,hz⟩:∃ z,vs[i]?=some z:=⟨_,List.getElem?_eq_getElem (by omega)⟩
    have hx':x=.tup [.str kk,z]:=by
      have hk:ks[i]?=some kk:=by rw [← ek,List.getElem?_map,hkv]; rfl
      rw [List.getElem?_map,List.getElem?_zip_eq_some (z:=(kk,z)) |>.mpr ⟨hk,hz⟩] at hx
      cases hx; rfl
    subst hx'
    refine wpAny_pyNext_items_item l5 l6 hkv fun key h1 hkey heo ht1 hz1 hk1=>?_
    obtain ⟨t,rfl⟩:∃ t,key=.str kk t:=Value.isStrOf_shape (by simpa [PySem.strKind] using hkey)
    have aS:s.heap.objs.size≠it:=Nat.ne_of_gt (Heap.lt_size l5)
    refine ⟨_,rfl,wpAny_letOwnedTupleGo_items heo fun h2 he2 hs2=>?_⟩
    have k2:∀ b o,b≠it→h1.get? b=some o→h2.get? b=some o:=fun b o n e=>hs2.extBut b o n e
    have k12:∀ b o,b≠it→s.heap.get? b=some o→h2.get? b=some o:=fun b o n e=>k2 b o n (hk1 b o n e)
    have mv:Move s.heap h2 X X:=fun b o n e=>⟨k12 b o (fun q=>n (q ▸ l1)) e,n⟩
    have S1:Stt g h₀ c env X ρ ve σ h2:=S.other (·=it) (fun b q=>by subst q; exact ⟨l1,l2,l3,l4⟩) (fun b o n e=>k12 b o n e) (fun b q=>by subst q; exact ⟨_,he2⟩)
    have d2:h2.DictAt (PySem.strKind g.prog g.w) d kvs ep:=l6.at' fun o e=>k12 d o hdi e
    have r2:=l8.move mv
    obtain ⟨w,hw,rw'⟩:=r2.get hz
    have hwv:w=vv:=by
      rw [List.getElem?_map,hkv] at hw
      cases hw; rfl
    subst hwv
    have rt:RepV g h2 X (.tup [.str kk,z]) (.ref s.heap.objs.size):=by
      refine .inr ⟨_,rfl,S.alive.fresh (get?_size _),?_⟩
      exact ⟨[.str kk t,w],⟨_,k2 _ _ aS ht1,rfl,0,rfl⟩,RepVs_cons.mpr ⟨_,_,rfl,rp_str,RepVs_cons.mpr ⟨_,_,rfl,rw',RepVs_nil.mpr rfl⟩⟩⟩
    refine Bi X ρ ve σ ve' _ _ { s with heap:=h2 } _ _ S1 rt hb fun h3 tk3 S3 a3=>?_
    have nI:¬ Own env ρ it:=fun q=>q.elim l3 (fun q=>q.elim (fun ⟨n,q⟩=>l4 n q) l2)
    have mv3:Move h2 h3 X X:=a3.move S1.own
    exact hK X h3 tk3 S3 ⟨l1,l2,l3,l4,⟨_,_,a3.ext it _ nI he2⟩,d2.at' (fun o e=>a3.ext d o (Own.not S1 l7) e),l7,r2.move mv3⟩ (fun _ x=>x) (fun _ x=>.inl x) fun b o n e=>a3.ext b o (fun w=>n (.inl w)) (k12 b o (fun w=>n (.inr w)) e)
  · rintro X ρ ve σ s Q E S ⟨l1,l2,l3,l4,⟨ok,ov,l5⟩,l6,l7,l8⟩ hQ
    rw [lenx] at l5
    exact wpAny_pyNext_items_end hh l5 l6 (List.getElem?_eq_none (Nat.le_refl _)) fun h' hx=>hQ h' s.toks fun b o n e=>hx b o n e
theorem elems_items {d:AV} {xs:List AV} (e:elems (.items d)=some xs):∃ ks vs,d=.dictS ks vs∧xs=(ks.zip vs).map fun p=>AV.tup [.str p.1,p.2] :=
  obC (show (d.dS?.bind fun p=>some ((p.1.zip p.2).map fun q=>AV.tup [.str q.1,q.2]))=some xs by
    cases h:d.dS? with
    | none=>rw [show elems (.items d)=(d.dS?.bind fun p=>some ((p.1.zip p.2).map fun q=>AV.tup [.str q.1,q.2])).or none from rfl,h] at e; exact nn e
    | some p=>rw [show elems (.items d)=(d.dS?.bind fun p=>some ((p.1.zip p.2).map fun q=>AV.tup [.str q.1,q.2])).or none from rfl,h] at e; exact e) fun p hp e=>⟨p.1,p.2,AV.dS?_inv hp,(Option.some.inj e).symm⟩
theorem items_hyp {ts:List Expr} {k:Nat} {tp:Pos} {is:List Nat} {body orelse:List Stmt} {mbody mor:MSs} (Bi:∀ (h₀:Heap) (A:Around) (env:Env),A.handled=none→Binds g h₀ c A env (.Tuple ts k tp) is) (hb:SsSound g mg mb c body mbody) (ho:SsSound g mg mb c orelse mor) :
    ∀ (h₀:Heap) (A:Around) (env:Env),A.handled=none→∀ (T:Tab) (n:Nat) (X:Addr→Prop) (ρ:List Addr) (ve:List MV) (σ:List AV) (s:Shared) (d:AV) (xs:List AV) (v:Value) (Q:Flow→Shared→Prop) (E:Value→Shared→Prop),
      SAok c n A env→Base g mg mb h₀→TabOk g mg T n h₀→Stt g h₀ c env X ρ ve σ s.heap→is.length=2→elems (.items d)=some xs→fits xs.length=true→RepV g s.heap X (.items d) v→SPost g h₀ c env X ρ s Q (restF T is mbody mor xs ve σ) →
      wpAny (model g.prog g.w) A (pyIter v) (fun it s₂=>codeAny (model g.prog g.w) A (.forLoop (.Tuple ts k tp) it body orelse env) (fun r s'=>match r with | .ok f=>Q f s' | .error e=>cameBackBy (model g.prog g.w) A env E e s') s₂) E s:=by
  intro h₀ A env hh T n X ρ ve σ s dv xs v Q E aok B TT S _ hel fx R hQ
  obtain ⟨ks,vs,rfl,rfl⟩:=elems_items hel
  rcases R with R | ⟨view,rfl,xv,R⟩
  · exact R.elim
  obtain ⟨d,hv,xd,R⟩:=R
  obtain ⟨kvs,ep,lo,da,ek,rv⟩:=R
  have hl:=rv.length
  rw [List.length_map] at hl
  refine wpAny_pyIter_items (knd:=PySem.strKind g.prog g.w) hv da ?_
  have nI:s.heap.get? s.heap.objs.size=none:=get?_size _
  have nX:¬ X s.heap.objs.size:=S.alive.fresh nI
  have gr:Grow s.heap (s.heap.push { cls:=.type "dict_itemiterator",data:=.fields #[.none,.bool false,.ref d,.int 0 0,.int kvs.length 0,.int ep 0,.none,.none] }):=Grow.push _ _
  have hdi:d≠s.heap.objs.size:=Nat.ne_of_lt da.lt_size
  have aI:(s.heap.push { cls:=.type "dict_itemiterator",data:=.fields #[.none,.bool false,.ref d,.int 0 0,.int kvs.length 0,.int ep 0,.none,.none] }).get? s.heap.objs.size=some _:=Heap.get?_push_size _ rfl
  have S2:Stt g h₀ c env (Plus X s.heap.objs.size) ρ ve σ (s.heap.push { cls:=.type "dict_itemiterator",data:=.fields #[.none,.bool false,.ref d,.int 0 0,.int kvs.length 0,.int ep 0,.none,.none] }) :=
    S.protect gr (fun b q=>.inl q) (fun b q=>q.elim .inl (fun q=>.inr (q ▸ nI))) (fun b q=>q.elim (fun q=>let ⟨o,e⟩:=S.alive b q; ⟨o,gr b o e⟩) (fun q=>by subst q; exact ⟨_,aI⟩))
  refine for_loop (s₀:=s) (items_for (ep:=ep) hh ek hl hdi (Bi h₀ A env hh)) aok B TT hb ho S.own S.alive (fun b q=>by subst q; exact nI) S2 ⟨.inr rfl,fun hm=>nX (S.muts.mem _ hm),fun q=>nX (q ▸ S.envOk.loc),fun n q=>nX (S.envOk.cells n _ q).1,⟨.none,.none,aI⟩,da.push _,fun q=>q.elim xd hdi,rv.move (gr.plus nI)⟩
    ⟨fun b q=>.inl q,fun b q=>q.elim .inl (fun q=>.inr (q ▸ nI)),fun b q=>.inl q,gr.ext,List.prefix_rfl⟩ hQ
end
section
variable {g:GG} {mg mb:Str→Option Value} {c:Ctx} {h₀:Heap} {A:Around} {env:Env} {X X' X'':Addr→Prop} {ρ ρ' ρ'':List Addr} {ve ve':List MV} {σ σ':List AV} {s:Shared} {h h' h'':Heap}
theorem numbered_length:∀ (k:Nat) (xs:List AV),(numbered k xs).length=xs.length
  | _,[]=>rfl
  | k,x::xs=>congrArg (·+1) (numbered_length (k+1) xs)
theorem numbered_get:∀ (k:Nat) (xs:List AV) (i:Nat) (y:AV),(numbered k xs)[i]?=some y→∃ x,xs[i]?=some x∧y=.tup [.int ((k+i:Nat):Int),x]
  | _,[],i,y,e=>by cases e
  | k,x::xs,0,y,e=>by cases e; exact ⟨x,rfl,rfl⟩
  | k,x::xs,i+1,y,e=>by
    obtain ⟨x',e1,e2⟩:=numbered_get (k+1) xs i y e
    refine ⟨x',e1,?_⟩
    rw [e2]
    have:k+1+i=k+(i+1):=by omega
    rw [this]
theorem enum_for (hh:A.handled=none) {ts:List Expr} {k:Nat} {tp:Pos} {is:List Nat} {e it l:Addr} {xs:List AV} {vs:List Value} (hl:vs.length=xs.length) (hei:e≠it) (hle:l≠e) (hli:l≠it) (Bi:Binds g h₀ c A env (.Tuple ts k tp) is) :
    ForIt g h₀ c A env (.Tuple ts k tp) (.ref e) (numbered 0 xs) is (fun b=>b=e∨b=it) (fun X' ρ i h=>(X' e∧e ∉ ρ∧e≠env.locals∧(∀ n,env.cells.lookup n≠some e))∧(X' it∧it ∉ ρ∧it≠env.locals∧(∀ n,env.cells.lookup n≠some it)) ∧
      (∃ old,IsEnum h e it ((i:Nat):Int) old)∧h.IsListIter it l i∧h.IsList l vs.toArray∧¬ X' l∧RepVs g h X' xs vs):=by
  have lenx:(numbered 0 xs).length=vs.length:=by rw [numbered_length,hl]
  have outs:∀ (X:Addr→Prop) (ρ:List Addr) (i:Nat) (h:Heap),((X e∧e ∉ ρ∧e≠env.locals∧(∀ n,env.cells.lookup n≠some e))∧(X it∧it ∉ ρ∧it≠env.locals∧(∀ n,env.cells.lookup n≠some it)) ∧
      (∃ old,IsEnum h e it ((i:Nat):Int) old)∧h.IsListIter it l i∧h.IsList l vs.toArray∧¬ X l∧RepVs g h X xs vs)→∀ b,(b=e∨b=it)→X b∧b ∉ ρ∧b≠env.locals∧∀ n,env.cells.lookup n≠some b:=by
    rintro X ρ i h ⟨l1,l2,_⟩ b (rfl | rfl)
    · exact l1
    · exact l2
  have nOwn:∀ {X:Addr→Prop} {ρ:List Addr} {b:Addr},(X b∧b ∉ ρ∧b≠env.locals∧∀ n,env.cells.lookup n≠some b)→¬ Own env ρ b:=fun l q=>q.elim l.2.2.1 (fun q=>q.elim (fun ⟨n,q⟩=>l.2.2.2 n q) l.2.1)
  refine ⟨?_,outs,?_,?_⟩
  · rintro X ρ X' ρ' i h h' ⟨l1,l2,⟨old,l3⟩,l4,l5,l6,l7⟩ own a
    obtain ⟨oi,ei,_⟩:=id l4
    obtain ⟨ol,el,_⟩:=id l5
    refine ⟨⟨a.sub e l1.1,fun hm=>?_,l1.2.2⟩,⟨a.sub it l2.1,fun hm=>?_,l2.2.2⟩,⟨old,a.ext e _ (nOwn l1) l3⟩,l4.at (fun o q=>a.ext it o (nOwn l2) q),l5.at (fun o q=>a.ext l o (fun w=>l6 (own l w)) q),fun w=>?_,l7.move (a.move own)⟩
    · rcases a.ρnew e hm with q | q
      · exact l1.2.1 q
      · rw [show h.get? e=_ from l3] at q; cases q
    · rcases a.ρnew it hm with q | q
      · exact l2.2.1 q
      · rw [ei] at q; cases q
    · rcases a.new l w with w | w
      · exact l6 w
      · rw [w] at el; cases el
  · rintro X ρ ve σ ve' i x s K E hx S L hb hK
    have ou:=outs X ρ i s.heap L
    obtain ⟨l1,l2,⟨old,l3⟩,l4,l5,l6,l7⟩:=L
    obtain ⟨y,hy,rfl⟩:=numbered_get 0 xs i x hx
    obtain ⟨w,hw,_⟩:=l7.get hy
    refine wpAny_pyNext_enum_item l3 l4 l5 (x:=w) (by simpa using hw) hei fun h1 heo hit1 ht1 hz1 hk1=>?_
    have aE:s.heap.objs.size≠e:=Nat.ne_of_gt (Heap.lt_size l3)
    obtain ⟨oi,ei,_⟩:=id l4
    have aI:s.heap.objs.size≠it:=Nat.ne_of_gt (Heap.lt_size ei)
    refine ⟨_,rfl,wpAny_letOwnedTupleGo_enum heo fun h2 he2 hs2=>?_⟩
    have k2:∀ b o,b≠e→h1.get? b=some o→h2.get? b=some o:=fun b o n q=>hs2.extBut b o n q
    have k12:∀ b o,b≠e→b≠it→s.heap.get? b=some o→h2.get? b=some o:=fun b o n n' q=>k2 b o n (hk1 b o n n' q)
    have mv:Move s.heap h2 X X:=fun b o n q=>⟨k12 b o (fun r=>n (r ▸ l1.1)) (fun r=>n (r ▸ l2.1)) q,n⟩
    have it2:h2.IsListIter it l (i+1):=hit1.at fun o q=>k2 it o (Ne.symm hei) q
    have S1:Stt g h₀ c env X ρ ve σ h2:=S.other (fun b=>b=e∨b=it) ou (fun b o n q=>k12 b o (fun r=>n (.inl r)) (fun r=>n (.inr r)) q) (fun b q=>q.elim (fun q=>by subst q; exact ⟨_,he2⟩) (fun q=>by subst q; obtain ⟨o,q,_⟩:=it2; exact ⟨o,q⟩))
    have li2:h2.IsList l vs.toArray:=l5.at fun o q=>k12 l o hle hli q
    have r2:=l7.move mv
    obtain ⟨w',hw',rw'⟩:=r2.get hy
    rw [hw] at hw'; cases hw'
    have rt:RepV g h2 X (.tup [.int ((0+i:Nat):Int),y]) (.ref s.heap.objs.size):=by
      refine .inr ⟨_,rfl,S.alive.fresh (get?_size _),?_⟩
      rw [Nat.zero_add]
      exact ⟨[.int i s.toks,w],⟨_,k2 _ _ aE ht1,rfl,0,rfl⟩,RepVs_cons.mpr ⟨_,_,rfl,rp_int,RepVs_cons.mpr ⟨_,_,rfl,rw',RepVs_nil.mpr rfl⟩⟩⟩
    refine Bi X ρ ve σ ve' _ _ { s with heap:=h2,toks:=s.toks+1 } _ _ S1 rt hb fun h3 tk3 S3 a3=>?_
    have mv3:Move h2 h3 X X:=a3.move S1.own
    have en3:IsEnum h3 e it ((i+1:Nat):Int) w:=by
      have:((i+1:Nat):Int)=(i:Int)+1:=by push_cast; rfl
      rw [this]
      exact a3.ext e _ (nOwn l1) he2
    exact hK X h3 tk3 S3 ⟨l1,l2,⟨w,en3⟩,it2.at (fun o q=>a3.ext it o (nOwn l2) q),li2.at (fun o q=>a3.ext l o (Own.not S1 l6) q),l6,r2.move mv3⟩ (fun _ x=>x) (fun _ x=>.inl x) fun b o n q=>a3.ext b o (fun r=>n (.inl r)) (k12 b o (fun r=>n (.inr (.inl r))) (fun r=>n (.inr (.inr r))) q)
  · rintro X ρ ve σ s Q E S ⟨l1,l2,⟨old,l3⟩,l4,l5,l6,l7⟩ hQ
    rw [lenx] at l3 l4
    exact wpAny_pyNext_enum_end hh l3 l4 l5 (by simp) fun h' hx=>hQ h' s.toks fun b o n q=>hx b o (fun r=>n (.inr r)) q
theorem st_enum {x y:Str} {xp yp tp fp cp pos:Pos} {k:Nat} {i j:Nat} {iter:Expr} {body:List Stmt} {mit:ME} {mbody:MSs} (hx:varOf c x=some i) (hy:varOf c y=some j) (hg:isGlob c "enumerate"=true) (hs:isStar iter=false) (hit:ESound g mg mb c iter mit) (hb:SsSound g mg mb c body mbody) :
    SSound g mg mb c (.For (.Tuple [.Name x xp,.Name y yp] k tp) (.Call (.Name "enumerate" fp) [iter] [] cp) body [] pos) (.forEnum i j mit mbody):=by
  intro T n h₀ A env X ρ ve σ s aok B TT S Q E hQ
  refine postC hQ fun m σ1 e1 hQ=>onP hQ fun xs hxs hQ=>iteP hQ fun fx hQ=>obC hxs fun xv hv hxs=>?_
  have e1:evE T mit ve σ=.ok (.val (.list xs)) σ1:=AV.list?_inv hxs ▸ MV.val?_inv hv ▸ e1
  have hQ':SPost g h₀ c env X ρ s Q (restF T [i,j] mbody .nil (numbered 0 xs) ve σ1):=by
    have hQ2:SPost g h₀ c env X ρ s Q (forL (bodyF T [i,j] mbody) (numbered 0 xs) ve σ1).onlyNx:=hQ
    unfold restF
    cases hf:forL (bodyF T [i,j] mbody) (numbered 0 xs) ve σ1 with
    | nx ve2 σ2=>rw [hf] at hQ2; exact hQ2
    | brk ve2 σ2=>rw [hf] at hQ2; exact hQ2.elim
    | ret v σ2=>rw [hf] at hQ2; exact hQ2.elim
    | stop _ _=>rw [hf] at hQ2; exact hQ2.elim
    | no=>rw [hf] at hQ2; exact hQ2.elim
  have hb1:bltTab[14]?=some ("enumerate",.type "enumerate"):=rfl
  refine wpAny_For (Call_ (name_blt S B hg (B.bltAt hb1).1 (B.bltAt hb1).2 (cw_type hs any0 (args_cons (hit T n h₀ A env X ρ ve σ s aok.aok B TT S _ _ e1 _ _ fun v h1 tk1 k1 M1 R1 _=>args_nil ?_) (starEach_plain hs _ _))))) (not_set_fold rfl env)
  have S1:=S.move k1 M1
  have R1:RepV g h1 X (.list xs) v:=R1
  rcases R1 with R1 | ⟨l,rfl,xl,R1⟩
  · exact False.elim R1
  obtain ⟨vs,pl,rv⟩:=R1
  have hl:=plain_isList pl
  obtain ⟨ol,el,_⟩:=id hl
  refine call_enumerate_list (s:={ s with heap:=h1,toks:=tk1 }) hl fun h2 he hi hz k2=>?_
  refine wpAny_pyIter_enum he ?_
  have hQ1:=hQ'.later (tk:=tk1) (Aft.of_ext k1) S.own S1.alive
  have nI:h1.get? h1.objs.size=none:=get?_size _
  have nE:h1.get? (h1.objs.size+1)=none:=Heap.get?_none_of_le (Nat.le_succ _)
  have nX:∀ {a:Addr},h1.get? a=none→¬ X a:=fun e=>S1.alive.fresh e
  have nb:∀ b,(X b∨b=h1.objs.size+1∨b=h1.objs.size)→X b∨h1.get? b=none:=fun b q=>q.elim .inl (fun q=>.inr (q.elim (fun q=>q ▸ nE) (fun q=>q ▸ nI)))
  obtain ⟨oi,ei,_⟩:=id hi
  have S2:Stt g h₀ c env (fun b=>X b∨b=h1.objs.size+1∨b=h1.objs.size) ρ ve σ1 h2:=S1.protect k2 (fun b q=>.inl q) nb (fun b q=>q.elim (fun q=>let ⟨o,e⟩:=S1.alive b q; ⟨o,k2 b o e⟩) (fun q=>q.elim (fun q=>by subst q; exact ⟨_,he⟩) (fun q=>by subst q; exact ⟨oi,ei⟩)))
  have out:∀ a,h1.get? a=none→a ∉ ρ∧a≠env.locals∧(∀ n,env.cells.lookup n≠some a):=fun a e=>⟨fun hm=>nX e (S1.muts.mem a hm),fun q=>nX e (q ▸ S1.envOk.loc),fun n q=>nX e (S1.envOk.cells n a q).1⟩
  have lt:=Heap.lt_size el
  have hn:nameVars c [.Name x xp,.Name y yp]=some [i,j]:=by
    show ((varOf c x).bind fun i=>((varOf c y).bind fun j=>some [j]).map (i::·))=_; rw [hx,hy]; rfl
  refine for_loop (s₀:={ s with heap:=h1,toks:=tk1 }) (enum_for (l:=l) aok.aok.1 rv.length (Nat.succ_ne_self _) (Nat.ne_of_lt (Nat.lt_succ_of_lt lt)) (Nat.ne_of_lt lt) (binds_tuple aok.aok.1 hn (Nat.le_refl _))) aok B TT hb ss_nil S1.own S1.alive
    (fun b q=>q.elim (fun q=>q ▸ nE) (fun q=>q ▸ nI)) S2 ⟨⟨.inr (.inl rfl),out _ nE⟩,⟨.inr (.inr rfl),out _ nI⟩,⟨_,he⟩,hi,hl.at (fun o q=>k2 l o q),fun q=>?_,rv.move ?_⟩ ⟨fun b q=>.inl q,nb,fun b q=>.inl q,Grow.ext k2,List.prefix_rfl⟩ hQ1
  · rcases nb l q with q | q
    · exact xl q
    · rw [show h1.get? l=some ol from el] at q; cases q
  · exact fun b o n e=>⟨k2 b o e,fun q=>(nb b q).elim n (fun q=>by rw [show h1.get? b=some o from e] at q; cases q)⟩
theorem st_while {t:Expr} {body:List Stmt} {pos:Pos} {mt:MT} {mbody:MSs} (ht:TSound g mg mb c t mt) (hb:SsSound g mg mb c body mbody):SSound g mg mb c (.While t body [] pos) (.while mt mbody):=by
  intro T n h₀ A env X₀ ρ₀ ve σ s₀ aok B TT S₀ Q E hQ
  refine wpAny_While ?_
  refine codeAny_whileLoop (fun k s'=>∃ X ρ ve σ h tk,s'={ s₀ with heap:=h,toks:=tk }∧SPost g h₀ c env X₀ ρ₀ s₀ Q (whileL (evT T mt) (exSs T mbody) k ve σ)∧Stt g h₀ c env X ρ ve σ h∧Aft env X₀ ρ₀ X ρ s₀.heap h) ?_ 16 ⟨X₀,ρ₀,ve,σ,s₀.heap,s₀.toks,rfl,hQ,S₀,Aft.refl _ _ _ _⟩
  rintro k s' ⟨X,ρ,ve,σ,h,tk,rfl,hP,S,a⟩
  cases k with
  | zero=>exact False.elim hP
  | succ k =>
    refine postC hP fun b σ1 e1 hP=>ht T n h₀ A env X ρ ve σ { s₀ with heap:=h,toks:=tk } aok.aok B TT S _ _ e1 _ _ fun h1 tk1 k1 M1=>?_
    have S1:=S.move k1 M1
    have a1:=a.trans (Aft.of_ext k1) S₀.own S.alive
    cases b with
    | false =>
      exact wpAny_execs_nil (hP X ρ h1 tk1 a1 S1)
    | true =>
      have hP:SPost g h₀ c env X₀ ρ₀ s₀ Q ((exSs T mbody ve σ1).turn (whileL (evT T mt) (exSs T mbody) k)):=hP
      refine hb T n h₀ A env X ρ ve σ1 { s₀ with heap:=h1,toks:=tk1 } aok B TT S1 _ _ ?_
      cases hr:exSs T mbody ve σ1 with
      | nx ve3 σ3 =>
        rw [hr] at hP
        intro X3 ρ3 h3 tk3 a3 S3
        exact ⟨k,Nat.lt_succ_self _,X3,ρ3,ve3,σ3,h3,tk3,rfl,hP,S3,a1.trans a3 S₀.own S1.alive⟩
      | brk ve3 σ3 =>
        rw [hr] at hP
        intro X3 ρ3 h3 tk3 a3 S3
        exact hP X3 ρ3 h3 tk3 (a1.trans a3 S₀.own S1.alive) S3
      | ret v σ3 =>
        rw [hr] at hP
        intro X3 ρ3 h3 tk3 w a3 al3 r3
        exact hP X3 ρ3 h3 tk3 w (a1.trans a3 S₀.own S1.alive) al3 r3
      | stop _ _=>rw [hr] at hP; exact hP.elim
      | no=>rw [hr] at hP; exact hP.elim
end
section
variable {g:GG} {mg mb:Str→Option Value} {c:Ctx}
noncomputable def TryOk (g:GG) (mg mb:Str→Option Value):Prop :=
  ∀ (c:Ctx) (d y d2:Str) (dp ap fp yp cp2 cp ps xp hp tp dp2 ap2 up cp3 ps2 kp2:Pos) (kp:Nat) (z:Int) (i j k:Nat),isTop c=true→isGlob c "StopIteration"=true→isGlob c "_parse_varint"=true→(ap.endLine == cp.line)=true→(ap2.endLine == cp3.line)=true→varOf c d=some i→varOf c y=some j→varOf c d2=some k →
    SSound g mg mb c (.Try [.Expr (.Call (.Attribute (.Name d dp) "append" ap) [.Call (.Name "_parse_varint" fp) [.Name y yp] [] cp2] [] cp) ps] [.ExceptHandler (some (.Name "StopIteration" xp)) none [.Expr (.Call (.Attribute (.Name d2 dp2) "append" ap2) [.UnaryOp .USub (.Constant (.int z) kp kp2) up] [] cp3) ps2] hp] [] [] tp)
      (.try (.cons (.append i (.pvar j)) .nil) (.cons (.append k (.neg (.cst (.int z)))) .nil))
end
noncomputable def DefAt (h:Heap) (a:Addr) (ps:List Str) (body:List Stmt) (sc:Scope):Prop :=
  ∃ o fd,h.get? a=some o∧o.data=.func fd∧fd.body=.stmts body∧fd.scope=sc∧fd.closure=[]∧fd.globals=mainGlobals∧fd.builtins=builtinsNs∧h.CodeRec fd.code fd.qualname∧(∀ vs:List Value,vs.length=ps.length→bindArgs fd ⟨vs,[]⟩=pure (ps.zip vs))
theorem DefAt.fnAt {h:Heap} {a:Addr} {ps:List Str} {body:List Stmt} {sc:Scope} (d:DefAt h a ps body sc):FnAt h a:=let ⟨o,fd,e1,e2,_⟩:=d; ⟨o,fd,e1,e2⟩
noncomputable def isLC:Option NameKind→Bool
  | some .local | some .cell=>true
  | _=>false
noncomputable def scOk (sc:Scope) (ps:List Str):Bool :=
  sc.kind == .function && !sc.isCoroutine && !sc.isGenerator && decide ps.Nodup && (ps.zipIdx.all fun p=>(slotsOf 0 sc.names).lookup p.1 == some p.2 && isLC (sc.names.lookup p.1)) && (sc.names.all fun p=>p.2 != .free) && (sc.names.all fun p=>!(p.2 == .local || p.2 == .cell) || sc.names.lookup p.1 == some p.2)
theorem slots_ge:∀ {names:List (Str × NameKind)} {k:Nat} {n:Str} {i:Nat},(n,i)∈slotsOf k names→k≤i∧i < k+(slotsOf k names).length
  | [],_,_,_,h=>nomatch h
  | (x,kd)::r,k,n,i,h=>by
    unfold slotsOf at h ⊢
    split at h
    · rcases List.mem_cons.mp h with h | h
      · cases h; exact ⟨Nat.le_refl _,by simp⟩
      · have:=slots_ge h
        simp only [List.length_cons]; omega
    · rcases List.mem_cons.mp h with h | h
      · cases h; exact ⟨Nat.le_refl _,by simp⟩
      · have:=slots_ge h
        simp only [List.length_cons]; omega
    · exact slots_ge h
theorem slots_inj:∀ {names:List (Str × NameKind)} {k:Nat} {n n':Str} {i:Nat},(n,i)∈slotsOf k names→(n',i)∈slotsOf k names→n=n'
  | [],_,_,_,_,h,_=>nomatch h
  | (x,kd)::r,k,n,n',i,h,h'=>by
    unfold slotsOf at h h'
    have go:(n,i)∈(x,k)::slotsOf (k+1) r→(n',i)∈(x,k)::slotsOf (k+1) r→n=n':=by
      intro h h'
      rcases List.mem_cons.mp h with h | h <;> rcases List.mem_cons.mp h' with h' | h'
      · cases h; cases h'; rfl
      · cases h
        exact absurd (slots_ge h').1 (Nat.not_succ_le_self _)
      · cases h'
        exact absurd (slots_ge h).1 (Nat.not_succ_le_self _)
      · exact slots_inj h h'
    cases kd <;> first | exact go h h' | exact slots_inj h h'
theorem slots_kind:∀ {names:List (Str × NameKind)} {k:Nat} {n:Str} {i:Nat},(n,i)∈slotsOf k names→(n,.local)∈names∨(n,.cell)∈names
  | [],_,_,_,h=>nomatch h
  | (x,kd)::r,k,n,i,h=>by
    unfold slotsOf at h
    split at h
    · rcases List.mem_cons.mp h with h | h
      · cases h; exact .inl List.mem_cons_self
      · exact (slots_kind h).elim (fun q=>.inl (List.mem_cons_of_mem _ q)) (fun q=>.inr (List.mem_cons_of_mem _ q))
    · rcases List.mem_cons.mp h with h | h
      · cases h; exact .inr List.mem_cons_self
      · exact (slots_kind h).elim (fun q=>.inl (List.mem_cons_of_mem _ q)) (fun q=>.inr (List.mem_cons_of_mem _ q))
    · exact (slots_kind h).elim (fun q=>.inl (List.mem_cons_of_mem _ q)) (fun q=>.inr (List.mem_cons_of_mem _ q))
theorem bindL_miss {ko:Str→Option NameKind} {n:Str}:∀ {l:List (Str × Value)} {m:Str→Option Value},n ∉ l.map (·.1)→bindL ko l m n=m n
  | [],_,_=>rfl
  | (x,v)::r,m,h=>by
    rw [List.map_cons,List.mem_cons,not_or] at h
    unfold bindL
    rw [bindL_miss h.2]
    split
    · simp [h.1]
    · rfl
theorem bindL_hit {ko:Str→Option NameKind} {n:Str} {v:Value} (hk:ko n=some .local):∀ {l:List (Str × Value)} {m:Str→Option Value},(l.map (·.1)).Nodup→(n,v)∈l→bindL ko l m n=some v
  | [],_,_,h=>nomatch h
  | (x,w)::r,m,nd,h=>by
    rw [List.map_cons,List.nodup_cons] at nd
    unfold bindL
    rcases List.mem_cons.mp h with h | h
    · cases h
      rw [bindL_miss nd.1,if_pos hk]
      simp
    · exact bindL_hit hk nd.2 h
theorem bindC_miss {ko:Str→Option NameKind} {n:Str}:∀ {l:List (Str × Value)} {m:Str→Option Value},n ∉ l.map (·.1)→bindC ko l m n=m n
  | [],_,_=>rfl
  | (x,v)::r,m,h=>by
    rw [List.map_cons,List.mem_cons,not_or] at h
    unfold bindC
    rw [bindC_miss h.2]
    split
    · rfl
    · simp [h.1]
theorem bindC_hit {ko:Str→Option NameKind} {n:Str} {v:Value} (hk:ko n≠some .local):∀ {l:List (Str × Value)} {m:Str→Option Value},(l.map (·.1)).Nodup→(n,v)∈l→bindC ko l m n=some v
  | [],_,_,h=>nomatch h
  | (x,w)::r,m,nd,h=>by
    rw [List.map_cons,List.nodup_cons] at nd
    unfold bindC
    rcases List.mem_cons.mp h with h | h
    · cases h
      rw [bindC_miss nd.1,if_neg hk]
      simp
    · exact bindC_hit hk nd.2 h
noncomputable def startVe (c:Ctx) (ms:List MV):List MV:=ms++List.replicate (c.next - ms.length) .unset
section
variable {g:GG} {mg mb:Str→Option Value} {h₀:Heap} {A:Around} {X:Addr→Prop} {s:Shared}
theorem call_start {a:Addr} {fd:FuncData} {ps:List Str} {sd:Bool} {vs:List Value} {ms:List MV} {ρ:List Addr} {σ:List AV} (ok:scOk fd.scope ps=true) (hg:fd.globals=mainGlobals) (hb:fd.builtins=builtinsNs) (gr:Grow h₀ s.heap) (al:Alive X s.heap) (xn:∀ b,X b→h₀.get? b=none)
    (above:h₀.objs.size≤s.heap.objs.size) (M:Muts g s.heap X ρ σ) (hm:ms.length=ps.length) (hv:vs.length=ps.length) (hr:∀ (i:Nat) (m:MV) (v:Value),ms[i]?=some m→vs[i]?=some v→RepM g s.heap X ρ m v)
    {s₁:Shared} (x:InCallC s (callEnvC fd s.heap.objs.size a).locals (bindL (callEnvC fd s.heap.objs.size a).kindOf (ps.zip vs) fun _=>none) (callEnvC fd s.heap.objs.size a).cells (bindC (callEnvC fd s.heap.objs.size a).kindOf (ps.zip vs) fun _=>none) s₁) :
    ∃ X',(∀ b,X b→X' b)∧(∀ b,X' b→X b∨s.heap.get? b=none)∧Stt g h₀ (ctxOf fd.scope sd) (callEnvC fd s.heap.objs.size a) X' ρ (startVe (ctxOf fd.scope sd) ms) σ s₁.heap∧Grow s.heap s₁.heap∧(∀ b,Own (callEnvC fd s.heap.objs.size a) [] b→s.heap.get? b=none):=by
  simp only [scOk,Bool.and_eq_true,beq_iff_eq,Bool.not_eq_true',decide_eq_true_eq,List.all_eq_true,bne_iff_ne,ne_eq,Bool.or_eq_true] at ok
  obtain ⟨⟨⟨⟨⟨⟨ok1,ok2⟩,ok3⟩,nd⟩,okp⟩,okf⟩,okk⟩:=ok
  have keep:Grow s.heap s₁.heap:=x.toInCall.keep
  have nL:s.heap.get? s.heap.objs.size=none:=get?_size _
  have nC:∀ n b,(callEnvC fd s.heap.objs.size a).cells.lookup n=some b→s.heap.get? b=none:=fun n b e=>Heap.get?_none_of_le (Nat.le_of_lt (x.above n b (mem_of_lookup e)))
  have new:∀ b,(X b∨b=s.heap.objs.size∨∃ n,(callEnvC fd s.heap.objs.size a).cells.lookup n=some b)→X b∨s.heap.get? b=none:=fun b q=>q.elim .inl (fun q=>.inr (q.elim (fun q=>q ▸ nL) (fun ⟨n,q⟩=>nC n b q)))
  have mv:Move s.heap s₁.heap X (fun b=>X b∨b=s.heap.objs.size∨∃ n,(callEnvC fd s.heap.objs.size a).cells.lookup n=some b):=fun b o n e=>⟨keep b o e,fun q=>(new b q).elim n (fun q=>by rw [q] at e; cases e)⟩
  have rm:∀ {m:MV} {v:Value},RepM g s.heap X ρ m v→RepM g s₁.heap (fun b=>X b∨b=s.heap.objs.size∨∃ n,(callEnvC fd s.heap.objs.size a).cells.lookup n=some b) ρ m v:=fun {m} {v} r=>by
    cases m with
    | val x=>exact RepV.move mv r
    | mu i=>exact r
    | unset=>exact r
  have nρ:∀ b,s.heap.get? b=none→b ∉ ρ:=fun b e hm=>al.fresh e (M.mem b hm)
  obtain ⟨oL,_,_,hoL,_⟩:=x.toInCall.ns
  have pslot:∀ (i:Nat) (p:Str),ps[i]?=some p→(slotsOf 0 fd.scope.names).lookup p=some i:=fun i p e=>(okp (p,i) (List.mem_zipIdx_iff_getElem?.mpr e)).1
  have plen:ps.length≤(slotsOf 0 fd.scope.names).length:=by
    cases hp:ps.length with
    | zero=>exact Nat.zero_le _
    | succ k =>
      have hk:k < ps.length:=by omega
      have:=slots_ge (mem_of_lookup (pslot k ps[k] (List.getElem?_eq_getElem hk)))
      omega
  have par:∀ (n:Str) (i:Nat) (m:MV),(slotsOf 0 fd.scope.names).lookup n=some i→(startVe (ctxOf fd.scope sd) ms)[i]?=some m→m≠.unset→∃ v,(n,v)∈ps.zip vs∧RepM g s.heap X ρ m v:=by
    intro n i m e1 e2 e3
    have hi:i < ms.length:=by
      refine Decidable.byContradiction fun hn=>?_
      unfold startVe at e2
      rw [List.getElem?_append_right (Nat.le_of_not_lt hn),List.getElem?_replicate] at e2
      split at e2
      · cases e2; exact e3 rfl
      · cases e2
    have e2':ms[i]?=some m:=by
      unfold startVe at e2
      rwa [List.getElem?_append_left hi] at e2
    have hip:i < ps.length:=by rw [← hm]; exact hi
    have hiv:i < vs.length:=by rw [hv]; exact hip
    have e4:=pslot i ps[i] (List.getElem?_eq_getElem hip)
    have hn:n=ps[i]:=slots_inj (mem_of_lookup e1) (mem_of_lookup e4)
    refine ⟨vs[i],?_,hr i m vs[i] e2' (List.getElem?_eq_getElem hiv)⟩
    rw [hn]
    refine List.mem_iff_getElem?.mpr ⟨i,?_⟩
    rw [List.getElem?_zip_eq_some]
    exact ⟨List.getElem?_eq_getElem hip,List.getElem?_eq_getElem hiv⟩
  have ndz:((ps.zip vs).map (·.1)).Nodup:=by
    rw [List.map_fst_zip (Nat.le_of_eq hv.symm)]; exact nd
  refine ⟨fun b=>X b∨b=s.heap.objs.size∨∃ n,(callEnvC fd s.heap.objs.size a).cells.lookup n=some b,fun b q=>.inl q,new,⟨gr.trans keep,fun b q=>?_,fun b q=>?_,?_,⟨?_,fun n i h1 h2=>?_,?_⟩,?_⟩,keep,?_⟩
  · rcases new b q with q | q
    · exact xn b q
    · cases e:h₀.get? b with
      | none=>rfl
      | some o=>rw [gr b o e] at q; cases q
  · rcases q with q | q | ⟨n,q⟩
    · obtain ⟨o,e⟩:=al b q; exact ⟨o,keep b o e⟩
    · subst q; exact ⟨oL,hoL⟩
    · obtain ⟨o,e,_⟩:=x.cell n b q
      exact ⟨o,e⟩
  · refine ⟨ok1,hg,hb,.inr (.inl rfl),nρ _ nL,above,fun n b e=>⟨.inr (.inr ⟨n,e⟩),nρ b (nC n b e),fun q=>?_⟩,fun n n' b e e'=>name_of_addr x.apart (mem_of_lookup e) (mem_of_lookup e'),fun n e=>e,fun n e=>e,fun n e=>.inr e,fun n e=>e,fun n i e=>?_,fun n n' i e e'=>slots_inj (mem_of_lookup e) (mem_of_lookup e')⟩
    · have:=x.above n b (mem_of_lookup e)
      rw [q] at this
      exact Nat.lt_irrefl _ this
    · have:=slots_ge (mem_of_lookup e)
      show i < (slotsOf 0 fd.scope.names).length
      omega
  · refine ⟨_,x.toInCall.ns,fun n i m h1 h2 h3 h4=>?_⟩
    obtain ⟨v,hmem,r⟩:=par n i m h1 h2 h3
    exact ⟨v,bindL_hit h4 ndz hmem,rm r⟩
  · rcases h2 with h2 | h2
    · obtain ⟨b,hb'⟩:=cf_some (k:=s.heap.objs.size+1) (mem_lookup (show fd.scope.names.lookup n=some .cell from h2))
      refine ⟨b,_,hb',x.cell n b hb',fun m q1 q2=>?_⟩
      obtain ⟨v,hmem,r⟩:=par n i m h1 q1 q2
      exact ⟨v,bindC_hit (by show fd.scope.names.lookup n≠some .local; rw [show fd.scope.names.lookup n=some .cell from h2]; simp) ndz hmem,rm r⟩
    · exact absurd rfl (okf _ (mem_lookup (show fd.scope.names.lookup n=some .free from h2)))
  · show (startVe (ctxOf fd.scope sd) ms).length=(slotsOf 0 fd.scope.names).length
    unfold startVe
    rw [List.length_append,List.length_replicate]
    show ms.length+((slotsOf 0 fd.scope.names).length - ms.length)=_
    omega
  · exact ⟨M.len,fun i c b e1 e2=>⟨RepC.move mv (M.at_ i c b e1 e2).1 fun o e=>keep _ _ e,(M.at_ i c b e1 e2).2⟩,fun b hb=>.inl (M.mem b hb),M.nodup⟩
  · rintro b (q | ⟨n,q⟩ | q)
    · exact q ▸ nL
    · exact nC n b q
    · cases q
end
section
variable {g:GG} {mg mb:Str→Option Value} {h₀:Heap}
theorem DefAt.grow {h h':Heap} (k:Grow h h') {a:Addr} {ps:List Str} {body:List Stmt} {sc:Scope} (d:DefAt h a ps body sc):DefAt h' a ps body sc:=by
  obtain ⟨o,fd,e1,e2,e3,e4,e5,e6,e7,e8,e9⟩:=d
  exact ⟨o,fd,k _ _ e1,e2,e3,e4,e5,e6,e7,e8.keeps k,e9⟩
theorem call_run {a:Addr} {ps:List Str} {body:List Stmt} {sc:Scope} {sd:Bool} {mbody:MSs} {T:Tab} {n:Nat} (D:DefAt h₀ a ps body sc) (ok:scOk sc ps=true) (hb:SsSound g mg mb (ctxOf sc sd) body mbody) (B:Base g mg mb h₀) (TT:TabOk g mg T n h₀)
    {A:Around} {s:Shared} {X:Addr→Prop} {ρ:List Addr} {σ:List AV} {ms:List MV} {vs:List Value} (aok:AOk (n+1) A) (ht:isTop (ctxOf sc sd)=true→A.frames=some []) (gr:Grow h₀ s.heap) (siz:h₀.objs.size≤s.heap.objs.size) (al:Alive X s.heap) (xn:∀ b,X b→h₀.get? b=none) (M:Muts g s.heap X ρ σ)
    (hm:ms.length=ps.length) (hv:vs.length=ps.length) (hr:∀ (i:Nat) (m:MV) (v:Value),ms[i]?=some m→vs[i]?=some v→RepM g s.heap X ρ m v) {Q:Value→Shared→Prop} {E:Value→Shared→Prop}
    (hQ:match exSs T mbody (startVe (ctxOf sc sd) ms) σ with
      | .nx _ σ'=>∀ X' ρ' h' tk,(∀ b,X b→X' b)→(∀ b∈ρ',b∈ρ∨s.heap.get? b=none)→Ext (·∈ρ) s.heap h'→Muts g h' X' ρ' σ'→Q .none { s with heap:=h',toks:=tk }
      | .ret z σ'=>∀ X' ρ' h' tk w,(∀ b,X b→X' b)→(∀ b∈ρ',b∈ρ∨s.heap.get? b=none)→Ext (·∈ρ) s.heap h'→Muts g h' X' ρ' σ'→(ρ <+: ρ')→RetV g h' X' ρ' z w→Q w { s with heap:=h',toks:=tk }
      | _=>False) :
    wpAny (model g.prog g.w) A (call (.ref a) vs) Q E s:=by
  obtain ⟨o,fd,e1,e2,e3,rfl,e5,e6,e7,e8,e9⟩:=D
  have ok':=ok
  simp only [scOk,Bool.and_eq_true,beq_iff_eq,Bool.not_eq_true',decide_eq_true_eq,List.all_eq_true,bne_iff_ne,ne_eq,Bool.or_eq_true] at ok'
  obtain ⟨⟨⟨⟨⟨⟨ok1,ok2⟩,ok3⟩,nd⟩,okp⟩,okf⟩,okk⟩:=ok'
  refine wpAny_call (codeAny_call_cells (binds:=ps.zip vs) ?_ (gr _ _ e1) e2 (B.noLimit.keeps gr) (e8.keeps gr) e3 (e9 vs hv) e5 (fun x hx=>?_) (fun s₁ x=>?_) ok2 ok3 ok1)
  · have:=aok.2.1
    show A.depth < 1000
    omega
  · have hx1:x.1∈ps:=(List.of_mem_zip hx).1
    obtain ⟨i,hi⟩:=List.mem_iff_getElem?.mp hx1
    have:=(okp (x.1,i) (List.mem_zipIdx_iff_getElem?.mpr hi)).2
    unfold isLC at this
    split at this
    · rename_i q; exact .inl q
    · rename_i q
      refine .inr ⟨q,?_⟩
      obtain ⟨b,hb'⟩:=cf_some (k:=s.heap.objs.size+1) (mem_lookup q)
      rw [hb']; rfl
    · cases this
  · obtain ⟨X',sub,new,S,k,own⟩:=call_start (g:=g) (sd:=sd) ok e6 e7 gr al xn siz M hm hv hr x
    obtain ⟨h₁,tk₁,rfl,_⟩:=x.done
    have aok':AOk n (A.deeper (callEnvC fd s.heap.objs.size a)):=by
      obtain ⟨a1,a2,a3⟩:=aok
      refine ⟨a1,?_,?_⟩
      · show A.depth+1+10 * n≤900
        omega
      · show A.units+3+100 * n≤5000
        omega
    refine hb T n h₀ _ _ X' ρ _ σ _ ⟨aok',fun q=>⟨?_,rfl⟩⟩ B TT S _ _ ?_
    · show A.frames.map _=_
      rw [ht q]; rfl
    have ex:∀ {h':Heap},Ext (Own (callEnvC fd s.heap.objs.size a) ρ) h₁ h'→Ext (·∈ρ) s.heap h':=fun {h'} kk b o hn e=>kk b o (fun q=>by
      rcases q with q | q | q
      · rw [own b (.inl q)] at e; cases e
      · rw [own b (.inr (.inl q))] at e; cases e
      · exact hn q) (k b o e)
    have rn:∀ {ρ':List Addr},(∀ b∈ρ',b∈ρ∨h₁.get? b=none)→∀ b∈ρ',b∈ρ∨s.heap.get? b=none:=fun {ρ'} hh b hb=>(hh b hb).imp id fun q=>by
      cases e:s.heap.get? b with
      | none=>rfl
      | some o=>rw [k b o e] at q; cases q
    cases he:exSs T mbody (startVe (ctxOf fd.scope sd) ms) σ with
    | nx ve' σ' =>
      rw [he] at hQ
      exact fun X2 ρ2 h2 tk2 a2 S2=>hQ X2 ρ2 h2 tk2 (fun b q=>a2.sub b (sub b q)) (rn a2.ρnew) (ex a2.ext) S2.muts
    | ret z σ' =>
      rw [he] at hQ
      exact fun X2 ρ2 h2 tk2 w a2 _ m2 r2=>hQ X2 ρ2 h2 tk2 w (fun b q=>a2.sub b (sub b q)) (rn a2.ρnew) (ex a2.ext) m2 a2.pre r2
    | brk _ _=>rw [he] at hQ; exact hQ.elim
    | stop _ _=>rw [he] at hQ; exact hQ.elim
    | no=>rw [he] at hQ; exact hQ.elim
theorem RepV.weak {h:Heap} {X X':Addr→Prop} (sub:∀ b,X b→X' b) {x:AV} {v:Value} (r:RepV g h X' x v):RepV g h X x v:=RepV.move (fun _ _ n e=>⟨e,fun q=>n (sub _ q)⟩) r
theorem RepC.weak {h:Heap} {X X':Addr→Prop} (sub:∀ b,X b→X' b) {x:AV} {a:Addr} (r:RepC g h X' x a):RepC g h X x a:=RepC.move (fun _ _ n e=>⟨e,fun q=>n (sub _ q)⟩) r fun _ e=>e
theorem fn_sound {a:Addr} {ps:List Str} {body:List Stmt} {sc:Scope} {sd:Bool} {mbody:MSs} {T:Tab} {n:Nat} (D:DefAt h₀ a ps body sc) (ok:scOk sc ps=true) (hb:SsSound g mg mb (ctxOf sc sd) body mbody) (B:Base g mg mb h₀) (TT:TabOk g mg T n h₀) (ht:isTop (ctxOf sc sd)=false)
    {xs:List AV} {r:AV} (hx:xs.length=ps.length) (e:runFn T mbody (startVe (ctxOf sc sd) (xs.map .val))=some r):CallP g (n+1) h₀ (.ref a) xs r:=by
  intro A s X vs aok gr siz al xn R Q E hQ
  have hl:=R.length
  refine call_run (ρ:=[]) (σ:=[]) (ms:=xs.map .val) D ok hb B TT aok (fun q=>by rw [ht] at q; cases q) gr siz al xn ⟨rfl,fun i c b e=>(by simp at e),fun b hb=>(by cases hb),List.nodup_nil⟩ (by simpa using hx) (by rw [hl,hx]) (fun i m v e1 e2=>?_) ?_
  · rw [List.getElem?_map] at e1
    cases q:xs[i]? with
    | none=>rw [q] at e1; cases e1
    | some x =>
      rw [q] at e1; cases e1
      obtain ⟨v',q1,q2⟩:=R.get q
      rw [e2] at q1; cases q1
      exact q2
  · unfold runFn at e
    cases he:exSs T mbody (startVe (ctxOf sc sd) (xs.map .val)) [] with
    | nx ve' σ' =>
      rw [he] at e; cases e
      exact fun X2 ρ2 h2 tk2 sub rn k M=>hQ _ _ _ (fun b o e=>k b o (by simp) e) (.inl rfl)
    | ret z σ' =>
      rw [he] at e; cases e
      refine fun X2 ρ2 h2 tk2 w sub rn k _ _ r2=>hQ _ _ _ (fun b o e=>k b o (by simp) e) ?_
      rcases r2 with r2 | ⟨b,hb,rfl,r2⟩
      · exact r2.weak sub
      · refine .inr ⟨b,rfl,fun q=>?_,r2.weak sub⟩
        exact al.fresh ((rn b hb).resolve_left (by simp)) q
    | brk _ _=>rw [he] at e; cases e
    | stop _ _=>rw [he] at e; cases e
    | no=>rw [he] at e; cases e
end
noncomputable def dropA (h:Heap) (a:Addr):Heap:=h.update a fun o=>{ o with data:=.freed }
theorem dropA_self (h:Heap) (a:Addr):(dropA h a).get? a=none:=by
  unfold dropA Heap.update Heap.get?
  obtain ⟨objs,l⟩:=h
  simp only [Array.getElem?_modify]
  cases objs[a]? <;> simp
theorem dropA_other {h:Heap} {a b:Addr} (n:a≠b):(dropA h a).get? b=h.get? b:=Heap.get?_update_other h _ n
theorem dropA_stays {h:Heap} (a:Addr) {b:Addr} {o:Obj} (e:(dropA h a).get? b=some o):h.get? b=some o∧a≠b:=by
  by_cases q:a=b
  · subst q; rw [dropA_self] at e; cases e
  · exact ⟨by rw [dropA_other q] at e; exact e,q⟩
section
variable {g:GG} {mg mb:Str→Option Value} {c:Ctx} {h₀:Heap} {A:Around} {env:Env} {X:Addr→Prop} {ρ:List Addr} {ve:List MV} {σ:List AV} {s:Shared}
theorem Stt.stop (S:Stt g h₀ c env X ρ ve σ s.heap) {j:Nat} {la:Addr} {b:List UInt8} {p':Nat} (hla:ρ[j]?=some la) (hp:b.length < p') {h':Heap} (k:∀ b o,b≠env.locals→b≠la→s.heap.get? b=some o→h'.get? b=some o)
    (kL:∀ o,s.heap.get? env.locals=some o→(∀ vs,o.data≠.fields vs)→∃ sl,h'.get? env.locals=some { o with slots:=sl }) (kl:∃ o,h'.get? la=some o) :
    Stt g h₀ c env X ρ ve (σ.set j (.biter b p')) h'∧Aft env X ρ X ρ s.heap h':=by
  have O:=S.envOk
  have V:=S.vars
  have M:=S.muts
  have hm:la∈ρ:=List.mem_of_getElem? hla
  have xl:X la:=M.mem la hm
  have mv:Move s.heap h' X X:=fun b o n e=>⟨k b o (fun q=>n (q ▸ O.loc)) (fun q=>n (q ▸ xl)) e,n⟩
  obtain ⟨m,⟨oL,es,ep,hL,hLd,hLr⟩,hmm⟩:=V.ns
  obtain ⟨sl,hL'⟩:=kL oL hL (fun vs q=>by rw [hLd] at q; cases q)
  refine ⟨⟨fun b o e=>k b o (fun q=>?_) (fun q=>?_) (S.keep b o e),S.xnew,fun b xb=>?_,O,⟨⟨m,⟨_,es,ep,hL',hLd,hLr⟩,fun n i mv' h1 h2 h3 h4=>?_⟩,fun n i h1 h2=>?_,V.len⟩,⟨by rw [List.length_set]; exact M.len,fun i cc a e1 e2=>?_,M.mem,M.nodup⟩⟩,⟨fun _ x=>x,fun _ x=>.inl x,fun _ x=>.inl x,fun b o n e=>k b o (fun q=>n (.inl q)) (fun q=>n (.inr (.inr (q ▸ hm)))) e,List.prefix_rfl⟩⟩
  · rw [q,S.xnew _ O.loc] at e; cases e
  · rw [q,S.xnew _ xl] at e; cases e
  · by_cases q:b=env.locals
    · subst q; exact ⟨_,hL'⟩
    · by_cases q':b=la
      · subst q'; exact kl
      · obtain ⟨o,e⟩:=S.alive b xb
        exact ⟨o,k b o q q' e⟩
  · obtain ⟨v,hv,r⟩:=hmm n i mv' h1 h2 h3 h4
    exact ⟨v,hv,r.move mv⟩
  · obtain ⟨a,vo,e1,⟨o,ho,hd⟩,e3⟩:=V.cell n i h1 h2
    have ca:=O.cells n a e1
    refine ⟨a,vo,e1,⟨o,k a o ca.2.2 (fun q=>ca.2.1 (q ▸ hm)) ho,hd⟩,fun mv' q1 q2=>?_⟩
    obtain ⟨v,hv,r⟩:=e3 mv' q1 q2
    exact ⟨v,hv,r.move mv⟩
  · rw [List.getElem?_set] at e1
    split at e1
    · rename_i q
      subst q
      rw [hla] at e2; cases e2
      split at e1
      · cases e1
        refine ⟨?_,rfl⟩
        exact .inr ⟨hp,kl⟩
      · cases e1
    · rename_i q
      obtain ⟨r,cm⟩:=M.at_ i cc a e1 e2
      have ne:a≠la:=fun w=>by
        subst w
        exact q ((List.getElem?_inj (List.getElem?_eq_some_iff.mp hla).1 M.nodup).mp (hla.trans e2.symm))
      exact ⟨RepC.move mv r fun o e=>k a o (fun w=>O.locρ (w ▸ List.mem_of_getElem? e2)) ne e,cm⟩
theorem FunFrames_one (S:Stt g h₀ c env X ρ ve σ s.heap) (hf:env.frame=some env.locals) {base:Heap} (hb:base.get? env.locals=none):s.heap.FunFrames base [env]:=by
  obtain ⟨m,⟨oL,es,ep,hL,hLd,hLr⟩,_⟩:=S.vars.ns
  refine ⟨by rw [S.envOk.kind]; decide,⟨env.locals,oL,hf,hb,hL,fun vs q=>by rw [hLd] at q; cases q⟩,trivial⟩
theorem one_stmt {T:Tab} {st:Stmt} {ms:MS} (h:SOK g h₀ c A env X ρ s (exec st env) (exS T ms ve σ)):SOK g h₀ c A env X ρ s (execs [st] env) (exSs T (.cons ms .nil) ve σ):=by
  intro Q E hQ
  have hQ:SPost g h₀ c env X ρ s Q ((exS T ms ve σ).bind fun ve σ=>.nx ve σ):=hQ
  refine wpAny_execs_cons (h _ _ ?_)
  cases he:exS T ms ve σ with
  | nx ve' σ' =>
    rw [he] at hQ
    exact fun X' ρ' h' tk a S'=>wpAny_execs_nil (hQ X' ρ' h' tk a S')
  | brk ve' σ'=>rw [he] at hQ; exact hQ
  | ret v σ'=>rw [he] at hQ; exact hQ
  | stop _ _=>rw [he] at hQ; exact False.elim hQ
  | no=>rw [he] at hQ; exact False.elim hQ
theorem neg_const {T:Tab} {z:Int} {n:Nat} {p q:Pos} (S:Stt g h₀ c env X ρ ve σ s.heap):EOK g A X ρ s (eval (.UnaryOp .USub (.Constant (.int z) n p) q) env) (evE T (.neg (.cst (.int z))) ve σ) false:=by
  intro m σ' e Q E hQ
  refine wpAny_UnaryOp (one_eval (fr:=false) S (fun m σ' ee Q E hQ=>?_) e fun v x h' tk S1 k R ez=>prim_toM ez S1 k (fun z ez2=>negP ez2 R) rfl hQ)
  obtain ⟨rfl,rfl⟩:=Res.ok_inv ee
  exact wpAny_Constant_int (hQ _ _ _ (Ext.refl _) S.muts rp_int fun e=>nomatch e)
theorem onStop {α:Type} {o:Option α} {f:α→SRes} {ve':List MV} {σ':List AV} {P:Prop} (e:SRes.on o f=.stop ve' σ') (k:∀ a,o=some a→f a=.stop ve' σ'→P):P:=by
  cases o with
  | none=>exact nomatch (e:SRes.no=_)
  | some a=>exact k a rfl e
theorem toSStop {α:Type} {r:Res α} {f:α→List AV→SRes} {ve':List MV} {σ':List AV} {P:Prop} (e:r.toS ve f=.stop ve' σ') (k:∀ a σ1,r=.ok a σ1→f a σ1=.stop ve' σ'→P) (k':r=.stop σ'→ve=ve'→P):P:=by
  cases r with
  | ok a σ1=>exact k a σ1 rfl e
  | stop σ1 =>
    obtain ⟨e1,e2⟩:=SRes.stop.inj (e:SRes.stop ve σ1=_)
    exact k' (e2 ▸ rfl) e1
  | no=>exact nomatch (e:SRes.no=_)
theorem resStop {α β:Type} {o:Option α} {f:α→Res β} {σ':List AV} {P:Prop} (e:Res.on o f=.stop σ') (k:∀ a,o=some a→f a=.stop σ'→P):P:=by
  cases o with
  | none=>exact nomatch (e:Res.no=_)
  | some a=>exact k a rfl e
theorem try_inv {T:Tab} {i j:Nat} {ve':List MV} {σ':List AV} (hb:exSs T (.cons (.append i (.pvar j)) .nil) ve σ=.stop ve' σ') :
    ∃ jd ys jj b p p',ve[i]?=some (.mu jd)∧σ[jd]?=some (.list ys)∧ve[j]?=some (.mu jj)∧σ[jj]?=some (.biter b p)∧p≤b.length∧T.pv b p=some (none,p')∧ve'=ve∧σ'=σ.set jj (.biter b p'):=by
  have hb:exS T (.append i (.pvar j)) ve σ=.stop ve' σ':=by
    have hb:((exS T (.append i (.pvar j)) ve σ).bind fun ve σ=>.nx ve σ)=.stop ve' σ':=hb
    cases he:exS T (.append i (.pvar j)) ve σ <;> rw [he] at hb <;> first | exact hb | exact nomatch hb
  refine onStop hb fun jd hjd hb=>onStop hb fun ys hys hb=>toSStop hb (fun m σ1 _ hb=>onStop hb fun v _ hb=>onStop hb fun xs _ hb=>?_) fun he hve=>resStop he fun jj hjj he=>resStop he fun q hq he=>?_
  · cases hf:fits xs.length <;> rw [hf] at hb <;> exact nomatch hb
  · by_cases hp:q.2≤q.1.length
    · refine resStop ((if_pos hp).symm.trans he) fun r hr he=>?_
      obtain ⟨v,p'⟩:=r
      cases v with
      | some v=>exact nomatch (he:Res.ok _ _=_)
      | none=>exact ⟨jd,ys,jj,q.1,q.2,p',mu_at hjd,list_at hys,mu_at hjj,biter_at hq,hp,hr,hve.symm,(Res.stop.inj (he:Res.stop _=_)).symm⟩
    · exact nomatch (if_neg hp).symm.trans he
theorem try_ok:TryOk g mg mb:=by
  intro c d y d2 dp ap fp yp cp2 cp ps xp hp tp dp2 ap2 up cp3 ps2 kp2 kp z i j k ht hsi hpv hl hl2 hd hy hd2
  intro T n h₀ A env X ρ ve σ s saok B TT S Q E hQ
  have aok:=saok.aok
  obtain ⟨hfr,hff⟩:=saok.top ht
  obtain ⟨_,k1,_,_⟩:=varOf_inv hd
  obtain ⟨_,ky,_,_⟩:=varOf_inv hy
  have hQ:SPost g h₀ c env X ρ s Q ((exSs T (.cons (.append i (.pvar j)) .nil) ve σ).caught (exSs T (.cons (.append k (.neg (.cst (.int z)))) .nil))):=hQ
  refine wpAny_Try_except ?_
  cases hb:exSs T (.cons (.append i (.pvar j)) .nil) ve σ with
  | stop ve' σ' =>
    rw [hb] at hQ
    obtain ⟨jd,ys,jj,b,p,p',hjd,hys,hjj,hbp,hpl,hT,rfl,rfl⟩:=try_inv hb
    clear hb
    have hQ:SPost g h₀ c env X ρ s Q (exSs T (.cons (.append k (.neg (.cst (.int z)))) .nil) ve' (σ.set jj (.biter b p'))):=hQ
    obtain ⟨fa,g1,⟨o,fd,ho,hdd⟩,hlt,cp'⟩:=TT.stop b p p' hT
    refine wpAny_execs_cons (wpAny_Expr_any (MCall rfl hl (form1 rfl) (wpAny_Name (load_var S hd hjd nofun fun lv r=>?_) k1)) (not_inter S) (swaps_not rfl _ _ _))
    obtain ⟨ld,hld,rfl⟩:=r
    intro pl
    refine append_meth (g:=g) (X:=X) (xs:=ys) (.inr ⟨ld,rfl,(S.muts.at_ jd _ ld hys hld).1⟩) ?_
    refine callWith_method1 (args_cons (Call_ (name_glob S B hpv g1 (callWith_def hdd (args_cons (wpAny_Name (load_var S hy hjj nofun fun w r=>args_nil ?_) ky) (starEach_plain rfl _ _)) (starEach_plain rfl _ _)))) (starEach_plain rfl _ _)) (starEach_plain rfl _ _) any0
    refine ⟨S.keep _ _ ho,?_⟩
    obtain ⟨la,hla,rfl⟩:=r
    have RC:=(S.muts.at_ jj _ la hbp hla).1
    obtain ⟨t,hit⟩:=RC.resolve_right fun q=>absurd q.1 (Nat.not_lt.mpr hpl)
    have hm:la∈ρ:=List.mem_of_getElem? hla
    have neL:env.locals≠la:=fun q=>S.envOk.locρ (q ▸ hm)
    have bL:(dropA (dropA s.heap env.locals) la).get? env.locals=none:=by rw [dropA_other neL.symm]; exact dropA_self _ _
    refine cp' A s la t [env] (dropA (dropA s.heap env.locals) la) aok S.keep S.size (S.xnew _ (S.muts.mem _ hm)) hit hfr (fun b o e=>(dropA_stays _ (dropA_stays _ e).1).1) (dropA_self _ _) (FunFrames_one S hff bL) _ _ fun e a0 h1 tk1 fl up1 li1 en=>?_
    obtain ⟨st1,eb1,ff1,oe,evs,tb,oT,ts,he1,hcls,hed,htb,hbT,hTe,hT1,hTd,hT3⟩:=fl
    obtain ⟨lo,lvs,hlo,hlod,hlos⟩:=li1
    have sl0:∃ o,s.heap.get? la=some o:=let ⟨o,ho,_⟩:=hit; ⟨o,ho⟩
    have nle:la≠e:=fun q=>by obtain ⟨o,ho⟩:=sl0; rw [q,en] at ho; cases ho
    have nlT:la≠tb:=fun q=>by
      subst q
      rw [hlo] at hT1; cases hT1
      rw [hlod] at hTd; cases hTd
      have:=(Array.getElem?_eq_some_iff.mp hT3).1
      omega
    obtain ⟨m,⟨oL,es,ep,hL,hLd,hLr⟩,_⟩:=S.vars.ns
    obtain ⟨slL,hL1⟩:=up1 _ oL neL hL (fun vs q=>by rw [hLd] at q; cases q)
    have fl:Heap.FlyingW (dropA (dropA (dropA h1 env.locals) e) tb) [env] e (.type "StopIteration") a0 h1:=by
      refine ⟨fun b o e=>(dropA_stays _ (dropA_stays _ (dropA_stays _ e).1).1).1,?_,⟨by rw [S.envOk.kind]; decide,⟨env.locals,_,hff,?_,hL1,fun vs q=>?_⟩,trivial⟩,oe,evs,tb,oT,ts,he1,hcls,hed,htb,dropA_self _ _,hTe,hT1,hTd,hT3⟩
      · rw [dropA_other hTe]; exact dropA_self _ _
      · by_cases q1:tb=env.locals
        · rw [q1]; exact dropA_self _ _
        · rw [dropA_other q1]
          by_cases q2:e=env.locals
          · rw [q2]; exact dropA_self _ _
          · rw [dropA_other q2]; exact dropA_self _ _
      · have q':oL.data=.fields vs:=q
        rw [hLd] at q'; cases q'
    refine wpAny_looks_onW hfr hff fl fun h2 hd2' up2=>?_
    refine wpAny_landsW hd2' fun h3 fl3 up3=>?_
    have kk:∀ {h4:Heap},Heap.StaysIn (dropA (dropA (dropA h1 env.locals) e) tb) h4→∀ b o,b≠env.locals→b≠la→s.heap.get? b=some o→h4.get? b=some o:=fun {h4} st b o n1 n2 eb=>by
      have bb:(dropA (dropA s.heap env.locals) la).get? b=some o:=by rw [dropA_other n2.symm,dropA_other n1.symm]; exact eb
      have ne:b≠e:=fun q=>by rw [q,en] at eb; cases eb
      have nT:b≠tb:=fun q=>by rw [q,hbT] at bb; cases bb
      exact st b o (by rw [dropA_other nT.symm,dropA_other ne.symm,dropA_other n1.symm]; exact st1 b o bb)
    have upL:∀ {h4:Heap},h1.UpToSlots h4→∀ o,s.heap.get? env.locals=some o→(∀ vs,o.data≠.fields vs)→∃ sl,h4.get? env.locals=some { o with slots:=sl }:=fun {h4} u o e n=>by
      obtain ⟨sl,q⟩:=up1 _ o neL e n
      obtain ⟨sl',q'⟩:=u _ _ q n
      exact ⟨sl',q'⟩
    have hla':∀ {h4:Heap},Heap.StaysIn (dropA (dropA (dropA h1 env.locals) e) tb) h4→∃ o,h4.get? la=some o:=fun {h4} st =>
      ⟨lo,st la lo (by rw [dropA_other nlT.symm,dropA_other nle.symm,dropA_other neL]; exact hlo)⟩
    obtain ⟨S3,a3⟩:=S.stop hla hlt (kk fl3.1) (upL (up2.trans up3)) (hla' fl3.1)
    have hb1:bltTab[15]?=some ("StopIteration",.type "StopIteration"):=rfl
    refine wpAny_handleBy_builtin (X:="StopIteration") (T:="StopIteration") (b:=true) (isSubtype_of_subB (by decide +kernel)) (isSubtype_of_subB (by decide +kernel)) (isSubtype_of_subB (by decide +kernel)) (name_blt (s:={ s with heap:=h3,toks:=tk1 }) S3 B hsi (B.bltAt hb1).1 (B.bltAt hb1).2 ⟨rfl,fl3.there,?_⟩)
    rw [if_pos rfl]
    refine wpAny_setFlight_noneW (s:={ s with heap:=h3,toks:=tk1 }) fl3.1 fl3.2.2.1 fl3.2.2.2.at fun h4 st4 ff4 tr4 up4=>?_
    have u4:h3.UpToSlots h4:=fun b o e n=>⟨o.slots,up4 b o e n⟩
    obtain ⟨S4,a4⟩:=S.stop hla hlt (kk st4) (upL ((up2.trans up3).trans u4)) (hla' st4)
    refine one_stmt (s:={ s with heap:=h4,toks:=tk1 }) (append_run hd2 hl2 rfl S4 (neg_const (s:={ s with heap:=h4,toks:=tk1 }) S4)) _ _ (hQ.later a4 S.own S4.alive)
  | nx ve' σ' =>
    rw [hb] at hQ
    refine (ss_cons (st_append hd hl rfl (es_pvar hpv hy)) ss_nil) T n h₀ A env X ρ ve σ s saok B TT S _ _ ?_
    rw [hb]
    exact fun X' ρ' h' tk a S'=>wpAny_execs_nil (hQ X' ρ' h' tk a S')
  | brk ve' σ' =>
    rw [hb] at hQ
    refine (ss_cons (st_append hd hl rfl (es_pvar hpv hy)) ss_nil) T n h₀ A env X ρ ve σ s saok B TT S _ _ ?_
    rw [hb]
    exact hQ
  | ret v' σ' =>
    rw [hb] at hQ
    refine (ss_cons (st_append hd hl rfl (es_pvar hpv hy)) ss_nil) T n h₀ A env X ρ ve σ s saok B TT S _ _ ?_
    rw [hb]
    exact hQ
  | no=>rw [hb] at hQ; exact hQ.elim
end
end Mine
set_option genCtorIdx false
set_option genSizeOf false
set_option genInjectivity false
namespace Mine
open PySem PyProof.Rows PySem.W PySem.Calls
structure KS (g:GG) (mg mb:Str→Option Value) (c:Ctx) (st:Stmt) where
  ms:MS
  ok:SSound g mg mb c st ms
structure KSs (g:GG) (mg mb:Str→Option Value) (c:Ctx) (sts:List Stmt) where
  ms:MSs
  ok:SsSound g mg mb c sts ms
section
variable (g:GG) (mg mb:Str→Option Value)
noncomputable def sName (c:Ctx) (muts:List Str) (x:Str) (xp pos:Pos) (v:Expr) (i:Nat) (hi:varOf c x=some i) (rv:Option (CE g mg mb c v)) (k:Nat):Option (KS g mg mb c (.Assign [.Name x xp] v pos)):=match v,rv with
  | .ListComp elt gens scope cp,rv=>match gens,rv with
    | [⟨.Name y _,it,ifs,0⟩],_=>(kC g mg mb k c y it elt ifs scope).map fun r=>⟨_,st_comp (muts.contains x) hi r.kind r.set r.ck r.hit r.helt r.ht⟩
    | _,_=>none
  | v,rv=>ifN (isComp v) fun hc=>if muts.contains x then ifT (isFresh v) fun hf=>rv.map fun r=>⟨.assignMut i r.me,st_assignMut hi hc hf r.ok⟩ else rv.map fun r=>⟨.assign i r.me,st_assign hi hc r.ok⟩
noncomputable def tailPlain (is:List (Nat × Bool)):Bool:=is.tail.all fun p=>!p.2
noncomputable def sTup (c:Ctx) (muts:List Str) (ts:List Expr) (k:Nat) (tp pos:Pos) (v:Expr) (n:Nat):Option (KS g mg mb c (.Assign [.Tuple ts k tp] v pos)):=match v with
  | .Tuple vs _ _=>withS (flagged c muts ts vs) fun is hf=>ifT (tailPlain is) fun ht=>ifT (decide (is.map (·.1)).Nodup) fun hn=>ifN (vs.all (constantsAlone 8)) fun hc=>(kEs g mg mb n c vs).map fun r=>⟨.multi is r.mes,st_multi hf ht (of_decide_eq_true hn) hc r.ok⟩
  | .Call f as ks p=>withS (nameVars c ts) fun is hn=>(kE g mg mb n c (.Call f as ks p)).map fun r=>⟨.unpack is r.me,st_unpack hn r.ok⟩
  | _=>none
noncomputable def sStore (c:Ctx) (d:Str) (dp ip pos:Pos) (k v:Expr) (n:Nat):Option (KS g mg mb c (.Assign [.Subscript (.Name d dp) k ip] v pos)) :=
  ifN (isComp v) fun hc=>withS (varOf c d) fun i hd=>(kE g mg mb n c k).bind fun rk=>(kE g mg mb n c v).map fun rv=>⟨.setitem i rk.me rv.me,st_setitem hd hc rk.ok rv.ok⟩
noncomputable def sAug (c:Ctx) (t:Expr) (o:Operator) (v:Expr) (pos:Pos) (n:Nat):Option (KS g mg mb c (.AugAssign t o v pos)):=match t with
  | .Name x _=>withS (bopOf o) fun b hb=>ifT (augOk b) fun ha=>withS (varOf c x) fun i hi=>(kE g mg mb n c v).map fun r=>⟨.aug b i r.me,st_aug hi hb ha r.ok⟩
  | .Subscript (.Name d _) k _=>match o with
    | .Add=>ifN (isSlice k) fun hs=>withS (varOf c d) fun i hd=>(kE g mg mb n c k).bind fun rk=>(kE g mg mb n c v).map fun rv=>⟨.augitem i rk.me rv.me,st_augitem hd hs rk.ok rv.ok⟩
    | _=>none
  | _=>none
noncomputable def sExpr (c:Ctx) (e:Expr) (pos:Pos) (n:Nat):Option (KS g mg mb c (.Expr e pos)):=match e with
  | .Call (.Attribute (.Name d dp) m ap) [v] [] cp=>if hm:m="append" then ifT (ap.endLine == cp.line) fun hl=>ifN (isStar v) fun hs=>withS (varOf c d) fun i hd=>(kE g mg mb n c v).map fun r=>⟨.append i r.me,by subst hm; exact st_append hd hl hs r.ok⟩ else none
  | _=>none
noncomputable def sForTup (c:Ctx) (ts:List Expr) (k:Nat) (tp pos:Pos) (it:Expr) (body:List Stmt) (rb:Option (KSs g mg mb c body)) (n:Nat):Option (KS g mg mb c (.For (.Tuple ts k tp) it body [] pos)) :=
  ifT (notSet it) fun hs=>withS (nameVars c ts) fun is his=>ifT (decide (2≤is.length)) fun h2=>(kE g mg mb n c it).bind fun r=>rb.map fun b=>⟨.forr is r.me b.ms .nil,st_for hs (fun _ _ _ hh=>binds_tuple hh his (of_decide_eq_true h2)) r.ok b.ok ss_nil (items_hyp (fun _ _ _ hh=>binds_tuple hh his (of_decide_eq_true h2)) b.ok ss_nil)⟩
noncomputable def sEnum (c:Ctx) (ts:List Expr) (k:Nat) (tp pos:Pos) (it:Expr) (body:List Stmt) (rb:Option (KSs g mg mb c body)) (n:Nat):Option (KS g mg mb c (.For (.Tuple ts k tp) it body [] pos)):=match ts,it with
  | [.Name x _,.Name y _],.Call (.Name f _) [e] [] _=>if hf:f="enumerate" then ifT (isGlob c "enumerate") fun hg=>ifN (isStar e) fun hs=>withS (varOf c x) fun i hx=>withS (varOf c y) fun j hy=>(kE g mg mb n c e).bind fun r=>rb.map fun b=>⟨.forEnum i j r.me b.ms,by subst hf; exact st_enum hx hy hg hs r.ok b.ok⟩ else none
  | _,_=>none
noncomputable def orElse' {α:Type} (a b:Option α):Option α:=match a with
  | some x=>some x
  | none=>b
noncomputable def sForName (c:Ctx) (x:Str) (xp pos:Pos) (it:Expr) (body orelse:List Stmt) (rb:Option (KSs g mg mb c body)) (ro:Option (KSs g mg mb c orelse)) (n:Nat):Option (KS g mg mb c (.For (.Name x xp) it body orelse pos)) :=
  ifT (notSet it) fun hs=>withS (varOf c x) fun i hi=>(kE g mg mb n c it).bind fun r=>rb.bind fun b=>ro.map fun o=>⟨.forr [i] r.me b.ms o.ms,st_for hs (fun _ _ _ _=>binds_name hi) r.ok b.ok o.ok (fun _ _ _ _ _ _ _ _ _ _ _ _ _ _ _ _ _ _ _ _ h2=>by cases h2)⟩
noncomputable def sTry (c:Ctx) (b:List Stmt) (hs:List ExceptHandler) (pos:Pos):Option (KS g mg mb c (.Try b hs [] [] pos)):=match b,hs with
  | [.Expr (.Call (.Attribute (.Name d dp) m ap) [.Call (.Name f fp) [.Name y yp] [] cp2] [] cp) ps],[.ExceptHandler (some (.Name x _)) none [.Expr (.Call (.Attribute (.Name d2 _) m2 ap2) [.UnaryOp .USub (.Constant (.int z) _ _) _] [] cp3) _] _] =>
    if hh:x="StopIteration"∧m="append"∧f="_parse_varint"∧m2="append" then ifT (isTop c) fun h0=>ifT (isGlob c "StopIteration") fun h1=>ifT (isGlob c "_parse_varint") fun h5=>ifT (ap.endLine == cp.line) fun h4=>ifT (ap2.endLine == cp3.line) fun h8 =>
      withS (varOf c d) fun i hi=>withS (varOf c y) fun j hj=>withS (varOf c d2) fun k hk=>some ⟨.try (.cons (.append i (.pvar j)) .nil) (.cons (.append k (.neg (.cst (.int z)))) .nil),by
        obtain ⟨e1,e2,e3,e4⟩:=hh
        subst e1 e2 e3 e4
        exact try_ok _ _ _ _ _ _ _ _ _ _ _ _ _ _ _ _ _ _ _ _ _ _ _ _ _ h0 h1 h5 h4 h8 hi hj hk⟩ else none
  | _,_=>none
mutual
noncomputable def kS:Nat→(c:Ctx)→List Str→(st:Stmt)→Option (KS g mg mb c st)
  | 0,_,_,_=>none
  | n+1,c,muts,st=>match st with
    | .Assign ts v pos=>match ts with
      | [.Name x xp]=>withS (varOf c x) fun i hi=>sName g mg mb c muts x xp pos v i hi (kE g mg mb n c v) n
      | [.Tuple ts k tp]=>sTup g mg mb c muts ts k tp pos v n
      | [.Subscript (.Name d dp) k ip]=>sStore g mg mb c d dp ip pos k v n
      | _=>none
    | .AugAssign t o v pos=>sAug g mg mb c t o v pos n
    | .Expr e pos=>sExpr g mg mb c e pos n
    | .For t it body orelse pos=>match t with
      | .Tuple ts k tp=>match orelse with
        | []=>orElse' (sEnum g mg mb c ts k tp pos it body (kSs n c muts body) n) (sForTup g mg mb c ts k tp pos it body (kSs n c muts body) n)
        | _=>none
      | .Name x xp=>sForName g mg mb c x xp pos it body orelse (kSs n c muts body) (kSs n c muts orelse) n
      | _=>none
    | .While t body orelse _=>match orelse with
      | []=>(kT g mg mb n c t).bind fun t=>(kSs n c muts body).map fun b=>⟨.while t.t b.ms,st_while t.ok b.ok⟩
      | _=>none
    | .If t b o _=>(kT g mg mb n c t).bind fun t=>(kSs n c muts o).map fun o=>match kSs n c muts b with
      | some b=>⟨.iff t.t b.ms o.ms,st_if t.ok b.ok o.ok⟩
      | none=>⟨.iff t.t (.cons .dead .nil) o.ms,st_if t.ok (ss_dead _) o.ok⟩
    | .Return o _=>match o with
      | some e=>(kE g mg mb n c e).map fun r=>⟨.ret r.me,st_ret r.ok⟩
      | none=>none
    | .Break _=>some ⟨.brk,st_brk⟩
    | .Try b hs o f pos=>match o,f with
      | [],[]=>sTry g mg mb c b hs pos
      | _,_=>none
    | _=>none
noncomputable def kSs:Nat→(c:Ctx)→List Str→(sts:List Stmt)→Option (KSs g mg mb c sts)
  | 0,_,_,_=>none
  | n+1,c,muts,sts=>match sts with
    | []=>some ⟨.nil,ss_nil⟩
    | st::sts=>(kS n c muts st).bind fun r=>(kSs n c muts sts).map fun r'=>⟨.cons r.ms r'.ms,ss_cons r.ok r'.ok⟩
end
noncomputable def compiled (x:String) (sd:Bool) (muts:List Str):Option MSs:=match findDef x theBody with
  | some (_,b,sc)=>(kSs g mg mb 60 (ctxOf sc sd) muts b).map (·.ms)
  | none=>none
theorem cAddCallers:compiled g mg mb "add_callers" true [Str.ofString "new_callers"]=some bAddCallers:=by kernel_rfl
theorem cCountCalls:compiled g mg mb "count_calls" true []=some bCountCalls:=by kernel_rfl
theorem cRgbHls:compiled g mg mb "rgb_to_hls" true []=some bRgbHls:=by kernel_rfl
theorem cHlsRgb:compiled g mg mb "hls_to_rgb" true []=some bHlsRgb:=by kernel_rfl
theorem cV:compiled g mg mb "_v" true []=some bV:=by kernel_rfl
theorem cRgbHsv:compiled g mg mb "rgb_to_hsv" true []=some bRgbHsv:=by kernel_rfl
theorem cHsvRgb:compiled g mg mb "hsv_to_rgb" true []=some bHsvRgb:=by kernel_rfl
theorem cFlags:compiled g mg mb "pretty_flags" true [Str.ofString "names"]=some bFlags:=by kernel_rfl
theorem cPv:compiled g mg mb "_parse_varint" true []=some bPv:=by kernel_rfl
theorem cWords:compiled g mg mb "_law_words" true []=some bWords:=by kernel_rfl
theorem cList:compiled g mg mb "_law_list" true [Str.ofString "left"]=some bList:=by kernel_rfl
theorem cTape:compiled g mg mb "_law_tape" true [Str.ofString "octets"]=some bTape:=by kernel_rfl
theorem cRank:compiled g mg mb "_law_rank" true []=some bRank:=by kernel_rfl
theorem cBest:compiled g mg mb "_law_best" true []=some bBest:=by kernel_rfl
theorem cFirm:compiled g mg mb "_law_firm" true []=some bFirm:=by kernel_rfl
theorem cPainted:compiled g mg mb "_law_painted" false [Str.ofString "paints"]=some bPainted:=by kernel_rfl
theorem cTables:compiled g mg mb "_law_tables" true [Str.ofString "tables"]=some bTables:=by kernel_rfl
theorem cLaw:compiled g mg mb "law" true [Str.ofString "sums",Str.ofString "tape",Str.ofString "read"]=some bLaw:=by kernel_rfl
theorem cCompare:compiled g mg mb "compare" true []=some bCompare:=by kernel_rfl
end
section
variable {g:GG} {mg mb:Str→Option Value} {h₀:Heap}
theorem pv_muts {s:Shared} {a:Addr} {b:List UInt8} {p:Nat} {u:Tok} (hit:KBw.IsBytesIter s.heap a b.toArray u p):Muts g s.heap (fun x=>x=a) [a] [.biter b p]:=by
  refine ⟨rfl,fun i c b' e1 e2=>?_,fun x hx=>by simpa using hx,by simp⟩
  cases i with
  | zero =>
    cases e1; cases e2
    refine ⟨?_,rfl⟩
    exact .inl ⟨u,hit⟩
  | succ i=>simp at e1
theorem pv_sound {a:Addr} {ps:List Str} {body:List Stmt} {sc:Scope} {sd:Bool} {mbody:MSs} {T:Tab} {n:Nat} (D:DefAt h₀ a ps body sc) (ok:scOk sc ps=true) (hb:SsSound g mg mb (ctxOf sc sd) body mbody) (B:Base g mg mb h₀) (TT:TabOk g mg T n h₀) (ht:isTop (ctxOf sc sd)=false) (hps:ps.length=1)
    {b:List UInt8} {p p':Nat} {v:Int} (e:runPv T mbody (startVe (ctxOf sc sd) [.mu 0]) b p=some (some v,p')):CallPv g (n+1) h₀ (.ref a) b p v p':=by
  intro A s la u aok gr siz hn hit Q E hQ
  refine call_run (ρ:=[la]) (σ:=[.biter b p]) (ms:=[.mu 0]) (X:=fun x=>x=la) D ok hb B TT aok (fun q=>by rw [ht] at q; cases q) gr siz (fun x hx=>by subst hx; obtain ⟨o,ho,_⟩:=hit; exact ⟨o,ho⟩) (fun x hx=>by subst hx; exact hn) (pv_muts hit) (by rw [hps]; rfl) (by rw [hps]; rfl) (fun i m w e1 e2=>?_) ?_
  · cases i with
    | zero=>cases e1; cases e2; exact ⟨la,rfl,rfl⟩
    | succ i=>simp at e1
  · unfold runPv at e
    cases he:exSs T mbody (startVe (ctxOf sc sd) [.mu 0]) [.biter b p] with
    | ret v0 σ1 =>
      rw [he] at e
      refine obC e fun v' hv e=>obC e fun q hq e=>itepC e fun hbb e=>?_
      obtain ⟨hl1,hb2,hp⟩:=hbb
      obtain ⟨e1,e2⟩:=Prod.mk.inj (Option.some.inj e)
      cases Option.some.inj e1
      subst e2
      intro X' ρ' h' tk w sub rn k M pre r
      obtain ⟨ρt,rfl⟩:=pre
      obtain ⟨t,hit'⟩:=iter_at (la:=la) M hq rfl (hb2 ▸ hp)
      have r:=AV.int?_inv hv ▸ r
      rcases r with r | ⟨x,_,_,r⟩
      · rcases r with r | ⟨x,_,_,r⟩
        · obtain ⟨t',rfl⟩:=r
          exact hQ _ _ _ (fun b o n e=>k b o (fun q=>n (List.mem_singleton.mp q)) e) ⟨t,hb2 ▸ hit'⟩
        · exact False.elim r
      · exact False.elim r
    | stop _ _ =>
      rw [he] at e
      exact itepC e fun _ e=>nomatch (Prod.mk.inj (Option.some.inj e)).1
    | nx _ _=>rw [he] at e; exact nn e
    | brk _ _=>rw [he] at e; exact nn e
    | no=>rw [he] at e; exact nn e
end
structure Stopped (la e:Addr) (h h':Heap):Prop where
  keep:∀ b o,b≠la→h.get? b=some o→h'.get? b=some o
  it:∃ o vs,h'.get? la=some o∧o.data=.fields vs∧vs.size=2
  new:h.get? e=none
  exc:∃ oe vs a0,h'.get? e=some oe∧oe.cls=.type "StopIteration"∧oe.data=.fields vs∧vs[1]?=some .none∧vs[0]?=some a0
section
variable {g:GG} {mg mb:Str→Option Value} {h₀:Heap} {A:Around} {s:Shared}
theorem next_raise {it:Addr} {b:List UInt8} {t:Tok} {i:Nat} {Q:Value→Shared→Prop} {E:Value→Shared→Prop} (hh:A.handled=none) (hit:KBw.IsBytesIter s.heap it b.toArray t i) (hx:b[i]?=none)
    (hE:∀ e h',Stopped it e s.heap h'→E (.ref e) { s with heap:=h' }):wpAny (model g.prog g.w) A (call (.builtin "next") [.ref it]) Q E s:=by
  obtain ⟨o,ho,hc,hd⟩:=id hit
  refine call_function_entry (by decide +kernel) (by decide +kernel) kdk_entry_next (kdk_args_next _) ?_
  unfold Builtin.«next»
  refine wpAny_bind (m:=someArgs "next" 1 2 _) (wpAny_of_eq (a:=[Value.ref it]) (by first | rfl | kernel_rfl!) ?_)
  dsimp only
  refine wpAny_bind (wpAny_specialOf (name:=Str.ofString "__next__") (KBw.iter_typeIs hit) KBw.slot_next.lookup ?_)
  refine wpAny_ite_split (fun hab=>absurd hab (by decide)) (fun _=>?_)
  refine wpAny_bind (wpAny_callSpecial?_slot (name:=PySem.Str.ofString "__next__") (KBw.iter_typeIs hit) KBw.slot_next
    (wpAny_call_entry KBw.slot_next (KBw.iter_typeIs hit) KBw.entry_next ?_ (KBw.args_next _)))
  show wpAny _ _ (field (.ref it) 0 >>= _) _ _ s
  refine wpAny_bind (wpAny_field ho hd (x:=.bytes b.toArray t) rfl ?_)
  show wpAny _ _ (if (Value.bytes b.toArray t == Value.none)=true then _ else _) _ _ s
  rw [if_neg (show ¬ ((Value.bytes b.toArray t == Value.none)=true) from Bool.false_ne_true)]
  show wpAny _ _ (field (.ref it) 1 >>= _) _ _ s
  refine wpAny_bind (wpAny_field ho hd (x:=.int i 0) rfl ?_)
  refine wpAny_bind (wpAny_of_eq (a:=b.toArray) rfl ?_)
  have hx':b.toArray[i]?=none:=by simpa using hx
  simp only [Int.toNat_natCast,hx']
  refine wpAny_bind (wpAny_rule (wpAny_bind (wpAny_setField ho hd (by simp) ?_)))
  show wpAny _ _ (newExc (.type "StopIteration") [] >>= _) _ _ _
  refine wpAny_bind ?_
  simp only [newExc,newTuple]
  refine wpAny_bind (wpAny_newObj_type ?_ (by size_fits))
  refine wpAny_bind (m:=firstArgMember _ _) (wpAny_of_eq (a:=Value.none) (by first | rfl | (simp only [firstArgMember]; rfl)) ?_)
  refine wpAny_newObj_type ?_ (by size_fits)
  simp only [raiseNew]
  refine wpAny_bind (wpAny_handled ?_)
  rw [show A.in1.in1.handled=none from hh]
  refine wpAny_bind (wpAny_pure (wpAny_throw ?_))
  refine hE _ _ ⟨fun b' o' n e=>?_,?_,?_,?_⟩
  · exact Heap.get?_push_of_some _ (Heap.get?_push_of_some _ ((Heap.get?_update_other _ _ (Ne.symm n)).trans e))
  · exact ⟨_,_,Heap.get?_push_of_some _ (Heap.get?_push_of_some _ (Heap.get?_update_self _ ho (Obj.isFreed_of_fields (Obj.data_mapFields hd _)))),Obj.data_mapFields hd _,by simp⟩
  · refine Heap.get?_none_of_le ?_
    simp [Heap.size_push]
  · exact ⟨_,_,_,Heap.get?_push_size _ rfl,rfl,rfl,rfl,rfl⟩
end
noncomputable def dropL (h:Heap):List Addr→Heap
  | []=>h
  | a::as=>dropA (dropL h as) a
theorem dropL_mem {h:Heap}:∀ {as:List Addr} {b:Addr},b∈as→(dropL h as).get? b=none
  | [],_,e=>nomatch e
  | a::as,b,e=>by
    show (dropA (dropL h as) a).get? _=_
    by_cases q:a=b
    · subst q; exact dropA_self _ _
    · rw [dropA_other q]
      exact dropL_mem ((List.mem_cons.mp e).resolve_left fun w=>q w.symm)
theorem dropL_not {h:Heap}:∀ {as:List Addr} {b:Addr},b ∉ as→(dropL h as).get? b=h.get? b
  | [],_,_=>rfl
  | a::as,b,e=>by
    show (dropA (dropL h as) a).get? _=_
    rw [List.mem_cons,not_or] at e
    rw [dropA_other (Ne.symm e.1)]
    exact dropL_not e.2
section
variable {g:GG} {mg mb:Str→Option Value} {c:Ctx} {h₀:Heap} {A:Around} {env:Env} {X:Addr→Prop} {ρ:List Addr} {ve:List MV} {σ:List AV} {s:Shared}
noncomputable def StopAt (g:GG) (h₀:Heap) (c:Ctx) (env:Env) (X:Addr→Prop) (ρ:List Addr) (s:Shared) (la:Addr) (E:Value→Shared→Prop):Prop :=
  ∀ X' ρ' ve' σ' h1 e h' tk,Aft env X ρ X' ρ' s.heap h1→Stt g h₀ c env X' ρ' ve' σ' h1→Stopped la e h1 h'→E (.ref e) { s with heap:=h',toks:=tk }
theorem StopAt.later {la:Addr} {E:Value→Shared→Prop} {X':Addr→Prop} {ρ':List Addr} {h':Heap} {tk:Nat} (a:Aft env X ρ X' ρ' s.heap h') (own:∀ b,Own env ρ b→X b) (al:Alive X' h') (p:StopAt g h₀ c env X ρ s la E):StopAt g h₀ c env X' ρ' { s with heap:=h',toks:=tk } la E :=
  fun X2 ρ2 ve2 σ2 h1 e h2 tk2 a2 S2 st=>p X2 ρ2 ve2 σ2 h1 e h2 tk2 (a.trans a2 own al) S2 st
theorem raise_assign {x y:Str} {xp fp yp cp pos:Pos} {i j n:Nat} {b:List UInt8} {la:Addr} (hx:varOf c x=some i) (hf:isGlob c "next"=true) (hy:varOf c y=some j) (aok:AOk n A) (B:Base g mg mb h₀) (S:Stt g h₀ c env X ρ ve σ s.heap)
    (hve:ve[j]?=some (.mu 0)) (hσ:σ[0]?=some (.biter b b.length)) (hρ:ρ[0]?=some la) {Q:Flow→Shared→Prop} {E:Value→Shared→Prop} (hE:StopAt g h₀ c env X ρ s la E) :
    wpAny (model g.prog g.w) A (exec (.Assign [.Name x xp] (.Call (.Name "next" fp) [.Name y yp] [] cp) pos) env) Q E s:=by
  obtain ⟨_,k1,_,_⟩:=varOf_inv hy
  obtain ⟨b1,b2⟩:=B.builtin (nm:="next") (v:=.builtin "next") (by simp [bltTab])
  refine wpAny_Assign_Name (Call_ (name_blt S B hf b1 b2 (cw_builtin rfl any0 (args_cons (wpAny_Name (load_var S hy hve (by simp) fun v r=>args_nil ?_) k1) (starEach_plain rfl _ _))))) (swaps_not rfl _ _ _)
  obtain ⟨la',hla,rfl⟩:=r
  rw [hρ] at hla; cases hla
  have RC:=(S.muts.at_ 0 _ la hσ hρ).1
  obtain ⟨t,hit⟩:=RC.resolve_right fun q=>absurd q.1 (Nat.lt_irrefl _)
  exact next_raise aok.1 hit (by simp) fun e h' st=>hE X ρ ve σ s.heap e h' s.toks (Aft.refl _ _ _ _) S st
theorem raise_while {t:Expr} {b1:Stmt} {bs:List Stmt} {mt:MT} {m1:MS} {x y:Str} {xp fp yp cp pos pos2:Pos} {i j n:Nat} {b:List UInt8} {la:Addr} {T:Tab} {ve':List MV} {σ1 σ':List AV} (ht:TSound g mg mb c t mt) (hb:SSound g mg mb c b1 m1)
    (hx:varOf c x=some i) (hf:isGlob c "next"=true) (hy:varOf c y=some j) (aok:SAok c n A env) (B:Base g mg mb h₀) (TT:TabOk g mg T n h₀) (S:Stt g h₀ c env X ρ ve σ s.heap)
    (e1:evT T mt ve σ=.ok true σ1) (e2:exS T m1 ve σ1=.nx ve' σ')
    (hve:ve'[j]?=some (.mu 0)) (hσ:σ'[0]?=some (.biter b b.length)) (hρ:ρ[0]?=some la) {Q:Flow→Shared→Prop} {E:Value→Shared→Prop} (hP:PassesOwn (model g.prog g.w) A env E) (hE:StopAt g h₀ c env X ρ s la E) :
    wpAny (model g.prog g.w) A (exec (.While t (b1::.Assign [.Name x xp] (.Call (.Name "next" fp) [.Name y yp] [] cp) pos::bs) [] pos2) env) Q E s:=by
  refine wpAny_While ?_
  refine codeAny_whileLoop (fun _ s'=>s'=s) ?_ 0 rfl
  rintro _ s' rfl
  refine ht T n h₀ A env X ρ ve σ s' aok.aok B TT S _ _ e1 _ _ fun h1 tk1 k1 M1=>?_
  have S1:=S.move k1 M1
  simp only [if_true]
  refine wpAny_execs_cons (hb T n h₀ A env X ρ ve σ1 { s' with heap:=h1,toks:=tk1 } aok B TT S1 _ _ ?_)
  rw [e2]
  intro X' ρ' h2 tk2 a2 S2
  have a02:=(Aft.of_ext k1).trans a2 S.own S1.alive
  obtain ⟨ρt,hρt⟩:=a2.pre
  refine wpAny_execs_cons (raise_assign hx hf hy aok.aok B (s:={ s' with heap:=h2,toks:=tk2 }) S2 hve hσ (by rw [← hρt]; rw [List.getElem?_append_left (List.getElem?_eq_some_iff.mp hρ).1]; exact hρ) ?_)
  exact fun X3 ρ3 ve3 σ3 h3 e h4 tk4 a3 S3 st=>hP _ _ (hE X3 ρ3 ve3 σ3 h3 e h4 tk4 (a02.trans a3 S.own S2.alive) S3 st)
end
end Mine
set_option genCtorIdx false
set_option genSizeOf false
set_option genInjectivity false
namespace Mine
open PySem PyProof.Rows PySem.W PySem.Calls
inductive PvIs (g:GG) (mg mb:Str→Option Value) (c:Ctx) (m2:MS) (mt:MT) (m3:MS):List Stmt→Prop
  | mk {x xp fp y yp cp p s2 t b1 x2 xp2 fp2 y2 yp2 cp2 p2 b3 wp s4} (hg:isGlob c "next"=true) (hx:varOf c x=some 1) (hy:varOf c y=some 0) (hx2:varOf c x2=some 1) (hy2:varOf c y2=some 0) (hn:c.next=3)
    (S2:SSound g mg mb c s2 m2) (ST:TSound g mg mb c t mt) (SB:SSound g mg mb c b1 m3) :
    PvIs g mg mb c m2 mt m3 [.Assign [.Name x xp] (.Call (.Name "next" fp) [.Name y yp] [] cp) p,s2,.While t [b1,.Assign [.Name x2 xp2] (.Call (.Name "next" fp2) [.Name y2 yp2] [] cp2) p2,b3] [] wp,s4]
structure KP (g:GG) (mg mb:Str→Option Value) (c:Ctx) (body:List Stmt) where
  ms:MS × MT × MS
  ok:PvIs g mg mb c ms.1 ms.2.1 ms.2.2 body
noncomputable def kPv (g:GG) (mg mb:Str→Option Value) (c:Ctx) (body:List Stmt):Option (KP g mg mb c body):=match body with
  | [.Assign [.Name x _] (.Call (.Name f _) [.Name y _] [] _) _,s2,.While t [b1,.Assign [.Name x2 _] (.Call (.Name f2 _) [.Name y2 _] [] _) _,_] [] _,_] =>
    if hf:f="next"∧f2="next"∧isGlob c "next"=true∧varOf c x=some 1∧varOf c y=some 0∧varOf c x2=some 1∧varOf c y2=some 0∧c.next=3 then
      (kS g mg mb 58 c [] s2).bind fun r2=>(kT g mg mb 58 c t).bind fun rt=>(kS g mg mb 58 c [] b1).map fun rb =>
        ⟨(r2.ms,rt.t,rb.ms),by obtain ⟨rfl,rfl,h1,h2,h3,h4,h5,h6⟩:=hf; exact .mk h1 h2 h3 h4 h5 h6 r2.ok rt.ok rb.ok⟩
    else none
  | _=>none
theorem FunFrames.rebase {h h' base base':Heap}:∀ {l:List Env},h.FunFrames base l→(∀ b o,h.get? b=some o→(∀ vs,o.data≠.fields vs)→∃ o',h'.get? b=some o'∧o'.data=o.data)→(∀ b∈l.filterMap (·.frame),base'.get? b=none)→h'.FunFrames base' l
  | [],_,_,_=>trivial
  | env::l,⟨hk,⟨L,o,hf,hn,ho,hd⟩,hr⟩,k,z=>by
    obtain ⟨o',ho',hd'⟩:=k L o ho hd
    refine ⟨hk,⟨L,o',hf,z L ?_,ho',fun vs=>hd' ▸ hd vs⟩,FunFrames.rebase hr k fun b hb=>z b ?_⟩
    · rw [List.filterMap_cons,hf]; exact List.mem_cons_self
    · rw [List.filterMap_cons,hf]; exact List.mem_cons_of_mem _ hb
section
variable {g:GG} {mg mb:Str→Option Value} {h₀:Heap}
theorem stop_leaves {c:Ctx} {A:Around} {env:Env} {X:Addr→Prop} {s:Shared} {la:Addr} {b:List UInt8} {p:Nat} {u:Tok} {l:List Env} {base:Heap} {h₁:Heap} {tk₁:Nat} {E:Value→Shared→Prop}
    (hk:env.scope.kind=.function) (hf:env.frame=some env.locals) (hfr:A.frames=some (env::l)) (hit:KBw.IsBytesIter s.heap la b.toArray u p) (k0:Grow s.heap h₁) (own0:∀ b,Own env [] b→s.heap.get? b=none)
    (hst:Heap.StaysIn base s.heap) (hbn:base.get? la=none) (hff:s.heap.FunFrames base l)
    (hE:∀ e a0 h' tk,Heap.FlyingW base l e (.type "StopIteration") a0 h'→(∀ x o,x≠la→s.heap.get? x=some o→(∀ vs,o.data≠.fields vs)→∃ sl,h'.get? x=some { o with slots:=sl })→(∃ o vs,h'.get? la=some o∧o.data=.fields vs∧vs.size=2)→s.heap.get? e=none →
      E (.ref e) { s with heap:=h',toks:=tk }) :
    StopAt g h₀ c env X [la] { s with heap:=h₁,toks:=tk₁ } la (fun e s'=>wpAny (model g.prog g.w) A (leaving env e) (fun _ s''=>E e s'') (fun e' s''=>E e' s'') s'):=by
  intro X2 ρ2 ve2 σ2 h1 e h2 tk2 a2 S2 st
  obtain ⟨oe,vs,a0,he,hcls,hd,h1',h0⟩:=st.exc
  obtain ⟨ol,hol,_,hold⟩:=id hit
  have notown:∀ x o,x≠la→s.heap.get? x=some o→¬ Own env [la] x:=fun x o n e q=>by
    rcases q with q | q | q
    · rw [own0 x (.inl q)] at e; cases e
    · rw [own0 x (.inr (.inl q))] at e; cases e
    · exact n (by simpa using q)
  have k1:∀ x o,x≠la→s.heap.get? x=some o→h1.get? x=some o:=fun x o n e=>a2.ext x o (notown x o n e) (k0 x o e)
  have k:∀ x o,x≠la→s.heap.get? x=some o→h2.get? x=some o:=fun x o n e=>st.keep x o n (k1 x o n e)
  have nofields:∀ x o,s.heap.get? x=some o→(∀ vs,o.data≠.fields vs)→x≠la:=fun x o e n q=>by
    subst q; rw [hol] at e; cases e; exact n _ hold
  have lam:la∈ρ2:=by
    obtain ⟨ρt,rfl⟩:=a2.pre
    exact List.mem_append_left _ (List.mem_singleton.mpr rfl)
  have ena:∀ o,h1.get? e≠some o:=fun o q=>by rw [st.new] at q; cases q
  obtain ⟨ola,hola⟩:∃ o,h1.get? la=some o:=S2.alive la (S2.muts.mem la lam)
  have nle:la≠e:=fun q=>ena ola (q ▸ hola)
  have nL:s.heap.get? env.locals=none:=own0 _ (.inl rfl)
  have nela:env.locals≠la:=fun q=>by rw [q,hol] at nL; cases nL
  have new:s.heap.get? e=none:=by
    cases q:s.heap.get? e with
    | none=>rfl
    | some o=>exact absurd (k1 e o nle.symm q) (ena o)
  obtain ⟨m,⟨oL,es,ep,hL,hLd,hLr⟩,_⟩:=S2.vars.ns
  have hL2:h2.get? env.locals=some oL:=st.keep _ _ nela hL
  have nLf:∀ vs,oL.data≠.fields vs:=fun vs q=>by rw [hLd] at q; cases q
  have mem:=fun (x:Addr) (hx:x∈l.filterMap (·.frame))=>Heap.FunFrames.mem hff hx
  have baseIn:∀ x o,base.get? x=some o→(dropL h2 (e::env.locals::l.filterMap (·.frame))).get? x=some o:=fun x o ex=>by
    have es:=hst x o ex
    rw [dropL_not]
    · exact k x o (fun q=>by rw [q,hbn] at ex; cases ex) es
    · rw [List.mem_cons,not_or,List.mem_cons,not_or]
      exact ⟨fun q=>(by rw [q,new] at es; cases es),fun q=>(by rw [q,nL] at es; cases es),fun q=>(by rw [(mem x q).1] at ex; cases ex)⟩
  have hla2:(dropL h2 (e::env.locals::l.filterMap (·.frame))).get? la=h2.get? la:=dropL_not (by
    rw [List.mem_cons,not_or,List.mem_cons,not_or]
    refine ⟨nle,nela.symm,fun q=>?_⟩
    obtain ⟨_,o,ho,hn⟩:=mem la q
    exact nofields la o ho hn rfl)
  refine wpAny_leaving_firstW (base:=dropL h2 (e::env.locals::l.filterMap (·.frame))) (outer:=l) (L:=env.locals) (a0:=a0) hfr ⟨by rw [hk]; decide,⟨env.locals,oL,hf,dropL_mem (by simp),hL2,nLf⟩,FunFrames.rebase hff (fun x o ex nx=>⟨o,k x o (nofields x o ex nx) ex,rfl⟩) fun x hx=>dropL_mem (by simp only [List.mem_cons]; exact .inr (.inr hx))⟩ hf he (fun x o ex=>?_) (dropL_mem (by simp)) hd h1' h0 fun h3 hLeft=>?_
  · by_cases q:x∈(e::env.locals::l.filterMap (·.frame))
    · rw [dropL_mem q] at ex; cases ex
    · rw [dropL_not q] at ex; exact ex
  · obtain ⟨f1,f2,f3,f4⟩:=hLeft
    have up:∀ x o,x≠la→s.heap.get? x=some o→(∀ vs,o.data≠.fields vs)→∃ sl,h3.get? x=some { o with slots:=sl }:=fun x o n ex nx=>f4 x o (k x o n ex) nx
    refine hE e a0 h3 tk2 ⟨fun x o ex=>f1 x o (baseIn x o ex),?_,hff.of_keeps fun x o ex nx=>?_,?_⟩ up ?_ new
    · cases q:base.get? e with
      | none=>rfl
      | some o=>rw [hst e o q] at new; cases new
    · obtain ⟨sl,q⟩:=up x o (nofields x o ex nx) ex nx
      exact ⟨_,q,rfl⟩
    · obtain ⟨oe',vs',T,oT,ts,q1,q2,q3,q4,q5,q6⟩:=f3
      refine ⟨oe',vs',T,oT,ts,q1,⟨q2.1.trans hcls,q2.2⟩,q3,q4,?_,q6⟩
      cases q:base.get? T with
      | none=>rfl
      | some o=>rw [baseIn T o q] at q5; cases q5
    · obtain ⟨o,vs,q1,q2,q3⟩:=st.it
      exact ⟨o,vs,f1 la o (hla2.trans q1),q2,q3⟩
end
section
variable {g:GG} {mg mb:Str→Option Value} {h₀:Heap}
noncomputable def v1:List MV:=[.mu 0,.unset,.unset]
noncomputable def v2 (z:UInt8):List MV:=[.mu 0,.val (.int z.toNat),.unset]
noncomputable def v3 (z:UInt8):List MV:=[.mu 0,.val (.int z.toNat),.val (.int (Builtin.bitAnd z.toNat 63))]
noncomputable def tPv:MT:=.tru (.bin .band (.var 1) (.cst (.int 64)))
noncomputable def rPv:MSs:=.cons (.assign 1 (.next 0)) (.cons (.aug .bor 2 (.bin .band (.var 1) (.cst (.int 63)))) .nil)
noncomputable def wPv:MS:=.while tPv (.cons (.aug .shl 2 (.cst (.int 6))) rPv)
noncomputable def ePv:MSs:=.cons (.ret (.var 2)) .nil
theorem pv_r1 {T:Tab} {b:List UInt8} {p:Nat} {z:UInt8} (hb:b[p]?=some z):exS T (.assign 1 (.next 0)) v1 [.biter b p]=.nx (v2 z) [.biter b (p+1)]:=by
  show (nextR 0 b p [.biter b p]).toS _ _=_
  unfold nextR
  rw [hb]
  rfl
theorem pv_two {T:Tab} {b:List UInt8} {p:Nat} {z:UInt8} (hb:b[p]?=some z):exSs T bPv v1 [.biter b p]=(exS T wPv (v3 z) [.biter b (p+1)]).bind fun ve σ=>exSs T ePv ve σ:=by
  show (exS T (.assign 1 (.next 0)) v1 [.biter b p]).bind _=_
  rw [pv_r1 hb]
  rfl
theorem pv_none {T:Tab} {b:List UInt8} {p:Nat} {ve:List MV} {σ:List AV} (hb:b[p]?=none) (hs:exSs T bPv v1 [.biter b p]=.stop ve σ):p≤b.length:=by
  refine Decidable.byContradiction fun h=>?_
  have hs:((nextR 0 b p [.biter b p]).toS v1 fun m σ=>SRes.on m.val? fun v=>.nx (v1.set 1 (.val v)) σ).bind (fun ve σ=>exSs T (.cons (.assign 2 (.bin .band (.var 1) (.cst (.int 63)))) (.cons wPv ePv)) ve σ)=.stop ve σ:=hs
  unfold nextR at hs
  rw [hb] at hs
  have hs:((if p≤b.length then Res.stop [AV.biter b (b.length+1)] else Res.no:Res MV).toS v1 fun m σ=>SRes.on m.val? fun v=>.nx (v1.set 1 (.val v)) σ).bind (fun ve σ=>exSs T (.cons (.assign 2 (.bin .band (.var 1) (.cst (.int 63)))) (.cons wPv ePv)) ve σ)=.stop ve σ:=hs
  rw [if_neg h] at hs
  exact nomatch hs
theorem pv_run {T:Tab} {b:List UInt8} {p:Nat} {z:UInt8} {ve:List MV} {σ:List AV} (hb:b[p]?=some z) (hs:exSs T bPv v1 [.biter b p]=.stop ve σ):(Builtin.bitAnd z.toNat 64 != 0)=true∧∃ w,exS T (.aug .shl 2 (.cst (.int 6))) (v3 z) [.biter b (p+1)]=.nx [.mu 0,.val (.int z.toNat),.val w] [.biter b (p+1)]:=by
  rw [pv_two hb] at hs
  have hs:(if (Builtin.bitAnd z.toNat 64 != 0)=true then (((SRes.on (binV .shl (.int (Builtin.bitAnd z.toNat 63)) (.int 6)) fun v=>.nx ((v3 z).set 2 (.val v)) [.biter b (p+1)]).bind fun ve σ=>exSs T rPv ve σ).turn (whileL (evT T tPv) (exSs T (.cons (.aug .shl 2 (.cst (.int 6))) rPv)) 15)) else .nx (v3 z) [.biter b (p+1)]).bind (fun ve σ=>exSs T ePv ve σ)=.stop ve σ:=hs
  cases hc:(Builtin.bitAnd z.toNat 64 != 0) with
  | false=>rw [hc] at hs; exact nomatch hs
  | true =>
    rw [hc,if_pos rfl] at hs
    refine ⟨rfl,?_⟩
    cases hw:binV .shl (.int (Builtin.bitAnd z.toNat 63)) (.int 6) with
    | none=>rw [hw] at hs; exact nomatch hs
    | some w =>
      refine ⟨w,?_⟩
      show SRes.on (binV .shl (.int (Builtin.bitAnd z.toNat 63)) (.int 6)) _=_
      rw [hw]
      rfl
theorem pv_inv {T:Tab} {b:List UInt8} {p p':Nat} (e:runPv T bPv v1 b p=some (none,p')):(∃ ve σ,exSs T bPv v1 [.biter b p]=.stop ve σ)∧(b.drop p).length≤1∧p'=b.length+1:=by
  unfold runPv at e
  cases he:exSs T bPv v1 [.biter b p] with
  | stop _ _=>rw [he] at e; exact itepC e fun h e=>⟨⟨_,_,rfl⟩,h,(Prod.mk.inj (Option.some.inj e)).2.symm⟩
  | ret v σ=>rw [he] at e; exact obC e fun _ _ e=>obC e fun _ _ e=>itepC e fun _ e=>nomatch (Prod.mk.inj (Option.some.inj e)).1
  | nx _ _=>rw [he] at e; exact nn e
  | brk _ _=>rw [he] at e; exact nn e
  | no=>rw [he] at e; exact nn e
theorem pv_stop {a:Addr} {ps:List Str} {body:List Stmt} {sc:Scope} {sd:Bool} {T:Tab} {n:Nat} (D:DefAt h₀ a ps body sc) (ok:scOk sc ps=true) (sh:PvIs g mg mb (ctxOf sc sd) (.assign 2 (.bin .band (.var 1) (.cst (.int 63)))) tPv (.aug .shl 2 (.cst (.int 6))) body) (B:Base g mg mb h₀) (TT:TabOk g mg T n h₀) (ht:isTop (ctxOf sc sd)=false) (hps:ps.length=1)
    {b:List UInt8} {p p':Nat} (e:runPv T bPv (startVe (ctxOf sc sd) [.mu 0]) b p=some (none,p')):CallStop g (n+1) h₀ (.ref a) b p p':=by
  cases sh with
  | mk hg hx hy hx2 hy2 hn3 S2 ST SB =>
  have hve:startVe (ctxOf sc sd) [.mu 0]=v1:=by unfold startVe; rw [hn3]; rfl
  rw [hve] at e
  obtain ⟨⟨ves,σs,hs⟩,hl,rfl⟩:=pv_inv e
  rw [List.length_drop] at hl
  refine ⟨Nat.lt_succ_self _,?_⟩
  intro A s la u l base aok gr siz hn hit hfr hst hbn hff Q E hQ
  obtain ⟨o,fd,e1,e2',e3,rfl,e5,e6,e7,e8,e9⟩:=D
  have ok':=ok
  simp only [scOk,Bool.and_eq_true,beq_iff_eq,Bool.not_eq_true',decide_eq_true_eq,List.all_eq_true,bne_iff_ne,ne_eq,Bool.or_eq_true] at ok'
  obtain ⟨⟨⟨⟨⟨⟨ok1,ok2⟩,ok3⟩,nd⟩,okp⟩,okf⟩,okk⟩:=ok'
  have hal:Alive (fun x=>x=la) s.heap:=fun x hx=>by subst hx; obtain ⟨o,ho,_⟩:=hit; exact ⟨o,ho⟩
  refine wpAny_call (codeAny_call_cells (binds:=ps.zip [.ref la]) ?_ (gr _ _ e1) e2' (B.noLimit.keeps gr) (e8.keeps gr) e3 (e9 [.ref la] (by rw [hps]; rfl)) e5 (fun x hx=>?_) (fun s₁ x=>?_) ok2 ok3 ok1)
  · have:=aok.2.1
    show A.depth < 1000
    omega
  · have hx1:x.1∈ps:=(List.of_mem_zip hx).1
    obtain ⟨i,hi⟩:=List.mem_iff_getElem?.mp hx1
    have:=(okp (x.1,i) (List.mem_zipIdx_iff_getElem?.mpr hi)).2
    unfold isLC at this
    split at this
    · rename_i q; exact .inl q
    · rename_i q
      refine .inr ⟨q,?_⟩
      obtain ⟨b,hb'⟩:=cf_some (k:=s.heap.objs.size+1) (mem_lookup q)
      rw [hb']; rfl
    · cases this
  obtain ⟨X',sub,new,S,k,own⟩:=call_start (g:=g) (sd:=sd) (ms:=[.mu 0]) (ρ:=[la]) (σ:=[.biter b p]) (X:=fun x=>x=la) ok e6 e7 gr hal (fun x hx=>by subst hx; exact hn) siz (pv_muts hit) (by rw [hps]; rfl) (by rw [hps]; rfl) (fun i m w e1 e2=>(by
    cases i with
    | zero=>cases e1; cases e2; exact ⟨la,rfl,rfl⟩
    | succ i=>simp at e1)) x
  obtain ⟨h₁,tk₁,rfl,_⟩:=x.done
  rw [hve] at S
  have aok':AOk n (A.deeper (callEnvC fd s.heap.objs.size a)):=by
    obtain ⟨a1,a2,a3⟩:=aok
    refine ⟨a1,?_,?_⟩
    · show A.depth+1+10 * n≤900
      omega
    · show A.units+3+100 * n≤5000
      omega
  have saok:SAok (ctxOf fd.scope sd) n (A.deeper (callEnvC fd s.heap.objs.size a)) (callEnvC fd s.heap.objs.size a):=⟨aok',fun q=>by rw [ht] at q; cases q⟩
  have hE:=stop_leaves (g:=g) (h₀:=h₀) (c:=ctxOf fd.scope sd) (A:=A.deeper (callEnvC fd s.heap.objs.size a)) (env:=callEnvC fd s.heap.objs.size a) (X:=X') (tk₁:=tk₁) (E:=E) S.envOk.kind rfl (by show A.frames.map _=_; rw [hfr]; rfl) hit k own hst hbn hff hQ
  show wpAny _ _ _ _ (fun e s'=>wpAny (model g.prog g.w) (A.deeper (callEnvC fd s.heap.objs.size a)) (leaving (callEnvC fd s.heap.objs.size a) e) (fun _ s''=>E e s'') (fun e' s''=>E e' s'') s') _
  cases hb:b[p]? with
  | none =>
    have hp:p=b.length:=Nat.le_antisymm (pv_none hb hs) (List.getElem?_eq_none_iff.mp hb)
    subst hp
    exact wpAny_execs_cons (raise_assign (s:={ s with heap:=h₁,toks:=tk₁ }) hx hg hy aok' B S rfl rfl rfl hE)
  | some z =>
    have hp:b.length=p+1:=Nat.le_antisymm (Nat.sub_le_iff_le_add'.mp hl) (List.getElem?_eq_some_iff.mp hb).1
    obtain ⟨hc,w,r4⟩:=pv_run hb hs
    have r3:evT T tPv (v3 z) [.biter b (p+1)]=.ok true [.biter b (p+1)]:=congrArg (fun q=>Res.ok q [AV.biter b (p+1)]) hc
    refine wpAny_execs_cons ?_
    refine (st_assign (g:=g) hx rfl (es_next hg hy)) T n h₀ _ _ X' [la] _ _ { s with heap:=h₁,toks:=tk₁ } saok B TT S _ _ ?_
    rw [pv_r1 hb]
    intro X1 ρ1 h1 tk1 a1 S1
    refine wpAny_execs_cons ?_
    refine S2 T n h₀ _ _ X1 ρ1 _ _ { s with heap:=h1,toks:=tk1 } saok B TT S1 _ _ ?_
    show SPost _ _ _ _ _ _ _ _ (SRes.nx (v3 z) [.biter b (p+1)])
    intro X2 ρ2 h2 tk2 a2 S2'
    refine wpAny_execs_cons ?_
    have a02:=a1.trans a2 S.own S1.alive
    obtain ⟨ρt,hρt⟩:=a02.pre
    refine raise_while (s:={ s with heap:=h2,toks:=tk2 }) (b:=b) (la:=la) ST SB hx2 hg hy2 saok B TT S2' r3 r4 rfl ?_ (by rw [← hρt]; rfl) PassesOwn.leaving (hE.later (s:={ s with heap:=h₁,toks:=tk₁ }) a02 S.own S2'.alive)
    rw [hp]; rfl
end
end Mine
set_option genCtorIdx false
set_option genSizeOf false
set_option genInjectivity false
namespace Mine
open PySem PyProof.Rows PySem.W PySem.Calls
structure Info where
  name:String
  ps:List String
  body:MSs
  k:Nat
  sd:Bool
  muts:List Str
noncomputable def infoOf:Fn→Info
  | .addCallers=>⟨"add_callers",["target","source"],bAddCallers,5,true,[Str.ofString "new_callers"]⟩
  | .countCalls=>⟨"count_calls",["callers"],bCountCalls,3,true,[]⟩
  | .rgbHls=>⟨"rgb_to_hls",["r","g","b"],bRgbHls,13,true,[]⟩
  | .hlsRgb=>⟨"hls_to_rgb",["h","l","s"],bHlsRgb,5,true,[]⟩
  | .v=>⟨"_v",["m1","m2","hue"],bV,3,true,[]⟩
  | .rgbHsv=>⟨"rgb_to_hsv",["r","g","b"],bRgbHsv,12,true,[]⟩
  | .hsvRgb=>⟨"hsv_to_rgb",["h","s","v"],bHsvRgb,8,true,[]⟩
  | .flags=>⟨"pretty_flags",["flags"],bFlags,4,true,[Str.ofString "names"]⟩
  | .words=>⟨"_law_words",["bits"],bWords,2,true,[]⟩
  | .list=>⟨"_law_list",["number","width"],bList,5,true,[Str.ofString "left"]⟩
  | .tape=>⟨"_law_tape",["numbers","extra"],bTape,8,true,[Str.ofString "octets"]⟩
  | .rank=>⟨"_law_rank",["rows","columns","tint"],bRank,11,true,[]⟩
  | .best=>⟨"_law_best",["pool","cards","like","side"],bBest,7,true,[]⟩
  | .firm=>⟨"_law_firm",["desks","cards","likes","side"],bFirm,8,true,[]⟩
  | .painted=>⟨"_law_painted",["lists","order","ranks","side"],bPainted,13,false,[Str.ofString "paints"]⟩
  | .tables=>⟨"_law_tables",["paints"],bTables,7,true,[Str.ofString "tables"]⟩
  | .compare=>⟨"compare",["self","left","right"],bCompare,7,true,[]⟩
  | .mk=>⟨"",[],.nil,0,true,[]⟩
noncomputable def Fn.no (f:Fn):Nat:=@Fn.casesOn (fun _=>Nat) f 0 0 0 0 0 0 0 0 0 0 0 0 0 0 0 0 1 2
noncomputable def checkOf (i:Info):Bool:=match findDef i.name theBody with
  | some (_,_,sc)=>scOk sc (i.ps.map Str.ofString) && !isTop (ctxOf sc i.sd) && (ctxOf sc i.sd).next == i.k
  | none=>false
theorem infoOk (g:GG) (mg mb:Str→Option Value):∀ f:Fn,f.no≠2→compiled g mg mb (infoOf f).name (infoOf f).sd (infoOf f).muts=some (infoOf f).body∧checkOf (infoOf f)=true
  | .addCallers,_=>⟨cAddCallers g mg mb,by kernel_rfl⟩
  | .countCalls,_=>⟨cCountCalls g mg mb,by kernel_rfl⟩
  | .rgbHls,_=>⟨cRgbHls g mg mb,by kernel_rfl⟩
  | .hlsRgb,_=>⟨cHlsRgb g mg mb,by kernel_rfl⟩
  | .v,_=>⟨cV g mg mb,by kernel_rfl⟩
  | .rgbHsv,_=>⟨cRgbHsv g mg mb,by kernel_rfl⟩
  | .hsvRgb,_=>⟨cHsvRgb g mg mb,by kernel_rfl⟩
  | .flags,_=>⟨cFlags g mg mb,by kernel_rfl⟩
  | .words,_=>⟨cWords g mg mb,by kernel_rfl⟩
  | .list,_=>⟨cList g mg mb,by kernel_rfl⟩
  | .tape,_=>⟨cTape g mg mb,by kernel_rfl⟩
  | .rank,_=>⟨cRank g mg mb,by kernel_rfl⟩
  | .best,_=>⟨cBest g mg mb,by kernel_rfl⟩
  | .firm,_=>⟨cFirm g mg mb,by kernel_rfl⟩
  | .painted,_=>⟨cPainted g mg mb,by kernel_rfl⟩
  | .tables,_=>⟨cTables g mg mb,by kernel_rfl⟩
  | .compare,_=>⟨cCompare g mg mb,by kernel_rfl⟩
  | .mk,h=>absurd rfl h
noncomputable def pvMs (g:GG) (mg mb:Str→Option Value):Option (MS × MT × MS):=match findDef "_parse_varint" theBody with
  | some (_,b,sc)=>if scOk sc [Str.ofString "iterator"] && !isTop (ctxOf sc true) then (kPv g mg mb (ctxOf sc true) b).map (·.ms) else none
  | none=>none
theorem pvOk (g:GG) (mg mb:Str→Option Value):pvMs g mg mb=some (.assign 2 (.bin .band (.var 1) (.cst (.int 63))),tPv,.aug .shl 2 (.cst (.int 6))):=by kernel_rfl
noncomputable def headInst (xs:List AV):Bool:=((xs.head?).bind AV.inst?).isSome
noncomputable def argOk (f:Fn) (xs:List AV):Bool:=xs.length == (infoOf f).ps.length && (!(f.no == 1) || headInst xs)
noncomputable def mkV (xs:List AV):Option AV:=if xs.length=1 then ((xs.head?).bind AV.list?).map .inst else none
theorem mkV_inv {xs:List AV} {r:AV} (h:mkV xs=some r):∃ ys,xs=[.list ys]∧r=.inst ys:=itepC h fun hl h=>omC h fun ys h q=>obC h fun x hx h2=>by
  cases xs with
  | nil=>exact nn hx
  | cons y xs =>
    rw [List.eq_nil_of_length_eq_zero (Nat.succ.inj hl)]
    exact ⟨ys,by rw [Option.some.inj hx,AV.list?_inv h2],q.symm⟩
theorem headInst_inv {xs:List AV} (h:headInst xs=true):∃ ys rest,xs=.inst ys::rest:=(Option.isSome_iff_exists.mp h).elim fun ys h=>obC h fun x hx h2=>by
  cases xs with
  | nil=>exact nn hx
  | cons y xs=>exact ⟨ys,xs,by rw [Option.some.inj hx,AV.inst?_inv h2]⟩
noncomputable def tabN:Nat→Tab
  | 0=>⟨fun _ _=>none,fun _ _=>none⟩
  | n+1=>⟨fun f xs=>if f.no=2 then mkV xs else if argOk f xs then runFn (tabN n) (infoOf f).body (xs.map .val++List.replicate ((infoOf f).k - xs.length) .unset) else none,
     fun b p=>runPv (tabN n) bPv [.mu 0,.unset,.unset] b p⟩
structure Defs (g:GG) (mg:Str→Option Value) (h₀:Heap):Prop where
  fn:∀ f nm,nameOfFn f=some nm→∀ args body sc,findDef nm theBody=some (args,body,sc)→∃ a,mg (Str.ofString nm)=some (.ref a)∧DefAt h₀ a ((infoOf f).ps.map Str.ofString) body sc
  pv:∀ args body sc,findDef "_parse_varint" theBody=some (args,body,sc)→∃ a,mg (Str.ofString "_parse_varint")=some (.ref a)∧DefAt h₀ a [Str.ofString "iterator"] body sc
  cmp:∀ args body sc,findDef "compare" theBody=some (args,body,sc)→DefAt h₀ g.fC ((infoOf .compare).ps.map Str.ofString) body sc
  make:∀ n ys,CallP g (n+1) h₀ (.ref g.C) [.list ys] (.inst ys)
section
variable {g:GG} {mg mb:Str→Option Value} {h₀:Heap}
theorem find_info (g:GG) (mg mb:Str→Option Value) {f:Fn} (hf:f.no≠2):∃ args body sc,findDef (infoOf f).name theBody=some (args,body,sc)∧SsSound g mg mb (ctxOf sc (infoOf f).sd) body (infoOf f).body ∧
    scOk sc ((infoOf f).ps.map Str.ofString)=true∧isTop (ctxOf sc (infoOf f).sd)=false∧(ctxOf sc (infoOf f).sd).next=(infoOf f).k:=by
  obtain ⟨h1,h2⟩:=infoOk g mg mb f hf
  unfold compiled at h1
  unfold checkOf at h2
  cases e:findDef (infoOf f).name theBody with
  | none=>rw [e] at h1; cases h1
  | some p =>
    obtain ⟨args,body,sc⟩:=p
    rw [e] at h1 h2
    simp only [Bool.and_eq_true,Bool.not_eq_true',beq_iff_eq] at h2
    obtain ⟨r,_,hr⟩:=map_inv h1
    exact ⟨args,body,sc,rfl,hr ▸ r.ok,h2.1.1,h2.1.2,h2.2⟩
theorem find_pv (g:GG) (mg mb:Str→Option Value):∃ args body sc,findDef "_parse_varint" theBody=some (args,body,sc)∧SsSound g mg mb (ctxOf sc true) body bPv ∧
    scOk sc [Str.ofString "iterator"]=true∧isTop (ctxOf sc true)=false∧PvIs g mg mb (ctxOf sc true) (.assign 2 (.bin .band (.var 1) (.cst (.int 63)))) tPv (.aug .shl 2 (.cst (.int 6))) body:=by
  have h1:=cPv g mg mb
  have h2:=pvOk g mg mb
  unfold compiled at h1
  unfold pvMs at h2
  cases e:findDef "_parse_varint" theBody with
  | none=>rw [e] at h1; cases h1
  | some p =>
    obtain ⟨args,body,sc⟩:=p
    rw [e] at h1 h2
    obtain ⟨r,_,hr⟩:=map_inv h1
    refine iteC h2 fun h2 h3=>?_
    obtain ⟨q,_,hq⟩:=map_inv h3
    have ok:=q.ok
    rw [hq] at ok
    exact ⟨args,body,sc,rfl,hr ▸ r.ok,(and_of h2).1,by simpa using (and_of h2).2,ok⟩
theorem name_info {f:Fn} {nm:String} (h:nameOfFn f=some nm):f.no≠2∧(infoOf f).name=nm:=by
  cases f <;> first | exact nn h | exact ⟨by decide,Option.some.inj h⟩
theorem tab_fn {n:Nat} (B:Base g mg mb h₀) (IH:TabOk g mg (tabN n) n h₀) {f:Fn} (hf:f.no≠2) {xs:List AV} {r:AV} (h:(tabN (n+1)).fn f xs=some r) {a:Addr}
    (D:∀ args body sc,findDef (infoOf f).name theBody=some (args,body,sc)→DefAt h₀ a ((infoOf f).ps.map Str.ofString) body sc):FnAt h₀ a∧CallP g (n+1) h₀ (.ref a) xs r:=by
  obtain ⟨args,body,sc,e1,e2,e3,e4,e5⟩:=find_info g mg mb hf
  have D:=D _ _ _ e1
  refine ⟨D.fnAt,?_⟩
  have h':(if argOk f xs then runFn (tabN n) (infoOf f).body (xs.map .val++List.replicate ((infoOf f).k - xs.length) .unset) else none)=some r:=by
    have:(tabN (n+1)).fn f xs=(if f.no=2 then _ else _):=rfl
    rw [this,if_neg hf] at h
    exact h
  refine iteC h' fun ha h'=>?_
  refine fn_sound (sd:=(infoOf f).sd) D e3 e2 B IH e4 (by rw [List.length_map]; exact beq_iff_eq.mp (and_of ha).1) ?_
  unfold startVe
  rw [e5,List.length_map]
  exact h'
theorem tab_zero:TabOk g mg (tabN 0) 0 h₀:=⟨fun _ _ _ _ _ h=>nn h,fun _ _ h=>nn h,fun _ _ h=>nn h,fun _ _ _ _ h=>nn h,fun _ _ _ h=>nn h⟩
theorem tab_succ {n:Nat} (B:Base g mg mb h₀) (D:Defs g mg h₀) (IH:TabOk g mg (tabN n) n h₀):TabOk g mg (tabN (n+1)) (n+1) h₀:=by
  obtain ⟨args,body,sc,e1,e2,e3,e4,e5⟩:=find_pv g mg mb
  obtain ⟨pa,g1,PD⟩:=D.pv _ _ _ e1
  have hn:(ctxOf sc true).next=3:=by
    cases e5; assumption
  have hve:startVe (ctxOf sc true) [.mu 0]=[.mu 0,.unset,.unset]:=by unfold startVe; rw [hn]; rfl
  refine ⟨fun f nm xs r hm h=>?_,fun xs r h=>?_,fun xs r h=>?_,fun b p v p' h=>⟨pa,g1,PD.fnAt,pv_sound PD e3 e2 B IH e4 rfl (hve ▸ h)⟩,fun b p p' h=>⟨pa,g1,PD.fnAt,pv_stop PD e3 e5 B IH e4 rfl (hve ▸ h)⟩⟩
  · obtain ⟨k1,k3⟩:=name_info hm
    obtain ⟨args,body,sc,e1,_⟩:=find_info g mg mb k1
    obtain ⟨a,g2,_⟩:=D.fn f nm hm _ _ _ (k3 ▸ e1)
    refine ⟨a,g2,tab_fn (a:=a) B IH k1 h fun args body sc e=>?_⟩
    obtain ⟨a',g3,DD⟩:=D.fn f nm hm _ _ _ (k3 ▸ e)
    cases Value.ref.inj (Option.some.inj (g2.symm.trans g3))
    exact DD
  · refine ⟨?_,tab_fn (f:=.compare) B IH (by decide) h fun args body sc e=>D.cmp _ _ _ e⟩
    have h':(if argOk .compare xs then runFn (tabN n) (infoOf .compare).body (xs.map .val++List.replicate ((infoOf .compare).k - xs.length) .unset) else none)=some r:=h
    exact iteC h' fun ha _=>headInst_inv (and_of ha).2
  · obtain ⟨ys,rfl,rfl⟩:=mkV_inv (show mkV xs=some r from h)
    exact D.make n _
theorem tab_ok (B:Base g mg mb h₀) (D:Defs g mg h₀):∀ n,TabOk g mg (tabN n) n h₀:=fun n=>Nat.rec tab_zero (fun _ IH=>tab_succ B D IH) n
end
noncomputable def initPs:List Str:=[Str.ofString "self",Str.ofString "comp_select_list"]
noncomputable def Stmt.asg? (s:Stmt):Option (List Expr × Expr):=@Stmt.casesOn (fun _=>Option (List Expr × Expr)) s (fun _ _ _ _ _ _ _ _ _ _=>none) (fun _ _ _ _ _ _ _ _ _ _=>none) (fun _ _ _ _ _ _ _ _ _ _ _=>none) (fun _ _=>none) (fun _ _=>none) (fun t v _=>some (t,v)) (fun _ _ _ _ _ _ _=>none) (fun _ _ _ _=>none) (fun _ _ _ _ _=>none) (fun _ _ _ _ _=>none) (fun _ _ _ _ _=>none) (fun _ _ _ _=>none) (fun _ _ _ _=>none) (fun _ _ _=>none) (fun _ _ _=>none) (fun _ _ _=>none) (fun _ _ _=>none) (fun _ _ _ _ _=>none) (fun _ _ _ _ _=>none) (fun _ _ _=>none) (fun _ _=>none) (fun _ _ _ _=>none) (fun _ _=>none) (fun _ _=>none) (fun _ _=>none) (fun _=>none) (fun _=>none) (fun _=>none)
noncomputable def Expr.attr? (e:Expr):Option (Expr × Str):=@Expr.casesOn (fun _=>Option (Expr × Str)) e (fun _ _ _=>none) (fun _ _ _=>none) (fun _ _ _ _=>none) (fun _ _ _=>none) (fun _ _ _ _=>none) (fun _ _ _ _=>none) (fun _ _ _=>none) (fun _ _ _=>none) (fun _ _ _ _=>none) (fun _ _ _ _=>none) (fun _ _ _ _ _=>none) (fun _ _ _ _=>none) (fun _ _=>none) (fun _ _=>none) (fun _ _=>none) (fun _ _ _ _=>none) (fun _ _ _ _=>none) (fun _ _ _ _=>none) (fun _ _=>none) (fun _ _ _=>none) (fun o a _=>some (o,a)) (fun _ _ _=>none) (fun _ _=>none) (fun _ _=>none) (fun _ _=>none) (fun _ _ _=>none) (fun _ _ _ _=>none)
theorem Stmt.asg?_inv {s:Stmt} {q:List Expr × Expr}:Stmt.asg? s=some q→∃ p,s=.Assign q.1 q.2 p:=@Stmt.casesOn (fun s=>Stmt.asg? s=some q→∃ p,s=.Assign q.1 q.2 p) s (fun _ _ _ _ _ _ _ _ _ _=>nn) (fun _ _ _ _ _ _ _ _ _ _=>nn) (fun _ _ _ _ _ _ _ _ _ _ _=>nn) (fun _ _=>nn) (fun _ _=>nn) (fun _ _ p h=>⟨p,Option.some.inj h ▸ rfl⟩) (fun _ _ _ _ _ _ _=>nn) (fun _ _ _ _=>nn) (fun _ _ _ _ _=>nn) (fun _ _ _ _ _=>nn) (fun _ _ _ _ _=>nn) (fun _ _ _ _=>nn) (fun _ _ _ _=>nn) (fun _ _ _=>nn) (fun _ _ _=>nn) (fun _ _ _=>nn) (fun _ _ _=>nn) (fun _ _ _ _ _=>nn) (fun _ _ _ _ _=>nn) (fun _ _ _=>nn) (fun _ _=>nn) (fun _ _ _ _=>nn) (fun _ _=>nn) (fun _ _=>nn) (fun _ _=>nn) (fun _=>nn) (fun _=>nn) (fun _=>nn)
theorem Expr.attr?_inv {e:Expr} {q:Expr × Str}:Expr.attr? e=some q→∃ p,e=.Attribute q.1 q.2 p:=@Expr.casesOn (fun e=>Expr.attr? e=some q→∃ p,e=.Attribute q.1 q.2 p) e (fun _ _ _=>nn) (fun _ _ _=>nn) (fun _ _ _ _=>nn) (fun _ _ _=>nn) (fun _ _ _ _=>nn) (fun _ _ _ _=>nn) (fun _ _ _=>nn) (fun _ _ _=>nn) (fun _ _ _ _=>nn) (fun _ _ _ _=>nn) (fun _ _ _ _ _=>nn) (fun _ _ _ _=>nn) (fun _ _=>nn) (fun _ _=>nn) (fun _ _=>nn) (fun _ _ _ _=>nn) (fun _ _ _ _=>nn) (fun _ _ _ _=>nn) (fun _ _=>nn) (fun _ _ _=>nn) (fun _ _ p h=>⟨p,Option.some.inj h ▸ rfl⟩) (fun _ _ _=>nn) (fun _ _=>nn) (fun _ _=>nn) (fun _ _=>nn) (fun _ _ _=>nn) (fun _ _ _ _=>nn)
theorem single {α:Type} {l:List α} {a:α} (h:l.length=1) (e:l[0]?=some a):l=[a]:=by
  cases l with
  | nil=>exact nn e
  | cons b l=>rw [List.eq_nil_of_length_eq_zero (Nat.succ.inj h),Option.some.inj e]
noncomputable def initParts (body:List Stmt):Option (Str × Str × Str):=if body.length=1 then (body[0]?).bind fun s=>(Stmt.asg? s).bind fun q=>if q.1.length=1 then (q.1[0]?).bind fun t=>(Expr.attr? t).bind fun o=>(Expr.name? o.1).bind fun x=>(Expr.name? q.2).map fun y=>(x,o.2,y) else none else none
theorem initParts_inv {body:List Stmt} {q:Str × Str × Str} (h:initParts body=some q):∃ p1 p2 p3 p4,body=[.Assign [.Attribute (.Name q.1 p1) q.2.1 p2] (.Name q.2.2 p3) p4] :=
  itepC h fun h1 h=>obC h fun s hs h=>obC h fun t ht h=>itepC h fun h2 h=>obC h fun a ha h=>obC h fun o ho h=>obC h fun x hx h=>omC h fun y hy h=>by
    obtain ⟨p1,e1⟩:=Stmt.asg?_inv ht
    obtain ⟨p2,e2⟩:=Expr.attr?_inv ho
    obtain ⟨p3,e3⟩:=Expr.name?_inv hx
    obtain ⟨p4,e4⟩:=Expr.name?_inv hy
    exact ⟨p3,p2,p4,p1,by rw [single h1 hs,e1,single h2 ha,e2,e3,e4,← h]⟩
noncomputable def initShape (sc:Scope) (body:List Stmt):Bool:=initParts body == some (Str.ofString "self",Str.ofString "comp_select_list",Str.ofString "comp_select_list") && sc.names.lookup ("self":Str) == some .local && sc.names.lookup ("comp_select_list":Str) == some .local &&
      sc.kind == .function && !sc.isCoroutine && !sc.isGenerator
section
variable {g:GG} {mg mb:Str→Option Value} {h₀:Heap}
theorem make_ok (kin:g.K.In h₀) (cls:ClsK g.K g.C g.fI g.fC) (noLimit:h₀.NoLimit) {body:List Stmt} {sc:Scope} (D:DefAt h₀ g.fI initPs body sc) (sh:initShape sc body=true) (n:Nat) (ys:List AV):CallP g (n+1) h₀ (.ref g.C) [.list ys] (.inst ys):=by
  intro A s X vs aok gr siz al xn R Q E hQ
  obtain ⟨v,r,rfl,rv,rr⟩:=RepVs_cons.mp R
  rw [RepVs_nil] at rr
  subst rr
  rcases rv with rs | ⟨l,rfl,xl,rc⟩
  · unfold RepS at rs; exact rs.elim
  obtain ⟨ws,⟨nl,hl⟩,rws⟩:=rc
  obtain ⟨hh,gg,dd,t,os⟩:=s
  dsimp only at gr siz al hl rws hQ
  have KX:g.K.In hh:=fun b o e=>gr b o (kin b o e)
  refine wpAny_call (make_core (makes_of KX cls.makes) (looks_findIn KX cls.init) (fun self=>bind_fn KX self cls.initT) (.inl rfl) ?_)
  have kp:Grow hh ((hh.push emptyDict).push (instObj g.C hh.objs.size)):=fun b o e=>Heap.get?_push_of_some _ (Heap.get?_push_of_some _ e)
  have gr2:=gr.trans kp
  obtain ⟨o,fd,e1,e2,e3,rfl,e5,e6,e7,e8,e9⟩:=D
  simp only [initShape,Bool.and_eq_true,beq_iff_eq,Bool.not_eq_true'] at sh
  obtain ⟨⟨⟨⟨⟨k0,k1⟩,k2⟩,k3⟩,k4⟩,k5⟩:=sh
  obtain ⟨p1,p2,p3,p4,rfl⟩:=initParts_inv k0
  refine codeAny_call_cells (binds:=initPs.zip [.ref (hh.objs.size+1),.ref l]) ?_ (gr2 _ _ e1) e2 (noLimit.keeps gr2) (e8.keeps gr2) e3 (e9 _ rfl) e5 (fun x hx=>?_) (fun s₁ x=>?_) k4 k5 k3
  · have:=aok.2.1
    show A.depth+_ < 1000
    have hw:(Code.builtin "type.__call__" ⟨.ref g.C::[.ref l],[]⟩).weight≤1:=by
      first | exact Nat.le_of_eq (show _=1 by rfl) | exact Nat.le_of_eq_of_le (show _=0 by rfl) (by omega)
    omega
  · simp only [initPs,List.zip_cons_cons,List.zip_nil_right,List.mem_cons,List.not_mem_nil,or_false] at hx
    rcases hx with rfl | rfl
    · exact .inl k1
    · exact .inl k2
  · have m1:bindL (callEnvC fd ((hh.push emptyDict).push (instObj g.C hh.objs.size)).objs.size g.fI).kindOf (initPs.zip [.ref (hh.objs.size+1),.ref l]) (fun _=>none) "self"=some (.ref (hh.objs.size+1)):=bindL_hit k1 (by show initPs.Nodup; decide +kernel) (by simp [initPs])
    have m2:bindL (callEnvC fd ((hh.push emptyDict).push (instObj g.C hh.objs.size)).objs.size g.fI).kindOf (initPs.zip [.ref (hh.objs.size+1),.ref l]) (fun _=>none) "comp_select_list"=some (.ref l):=bindL_hit k2 (by show initPs.Nodup; decide +kernel) (by simp [initPs])
    have sz:((hh.push emptyDict).push (instObj g.C hh.objs.size)).objs.size=hh.objs.size+2:=by rw [Heap.size_push,Heap.size_push]
    have keep:=x.toInCall.keep
    obtain ⟨h₁,tk₁,rfl,_⟩:=x.done
    refine wpAny_execs_cons (plainObj_wpAny_Assign_Attribute (NameLC x k3 k2 m2 (NameLC x k3 k1 m1 ?_ (by decide +kernel)) (by decide +kernel)))
    have gx:((hh.push emptyDict).push (instObj g.C hh.objs.size)).get? (hh.objs.size+1)=some (instObj g.C hh.objs.size):=by
      have:=Heap.get?_push_size (hh.push emptyDict) (o:=instObj g.C hh.objs.size) rfl
      rwa [Heap.size_push] at this
    have gd:((hh.push emptyDict).push (instObj g.C hh.objs.size)).get? hh.objs.size=some emptyDict:=Heap.get?_push_of_some _ (Heap.get?_push_size hh rfl)
    have nL:(callEnvC fd ((hh.push emptyDict).push (instObj g.C hh.objs.size)).objs.size g.fI).locals=hh.objs.size+2:=sz
    refine set_dict (news:=[(hh.objs.size+1,instObj g.C hh.objs.size),(hh.objs.size,emptyDict)]) (h₀:=hh) (K:=g.K) (C:=g.C) (es:=[]) (n:=0) (dx:=hh.objs.size) (m:=_) ⟨x.toInCall.ns,fun b o e=>keep b o (kp b o e),by rw [nL]; omega⟩ KX ?_ ⟨keep _ _ gx,rfl,rfl,keep _ _ gd⟩ rfl cls.sa cls.po cls.tk cls.hd (by rfl) rfl (.tail (by show hh.objs.size+1≠_; omega) (.head (fun p hp=>nomatch hp))) (by show 1≤1000; omega) fun h' F' N'=>?_
    · intro p hp
      simp only [List.mem_cons,List.not_mem_nil,or_false] at hp
      rcases hp with rfl | rfl
      · exact ⟨keep _ _ gx,by rw [nL]; show hh.objs.size+1≠_; omega,Heap.get?_none_of_le (by show _≤hh.objs.size+1; omega)⟩
      · exact ⟨keep _ _ gd,by rw [nL]; show hh.objs.size≠_; omega,get?_size hh⟩
    · refine wpAny_execs_nil ⟨rfl,?_⟩
      have k':Grow hh h':=F'.keep
      have nx:hh.get? (hh.objs.size+1)=none:=Heap.get?_none_of_le (by omega)
      refine hQ _ h' _ k' (.inr ⟨_,rfl,al.fresh nx,?_⟩)
      have gd':=(N' _ (List.mem_cons_of_mem _ (List.mem_singleton.mpr rfl))).1
      exact ⟨hh.objs.size,_,_,l,(N' (hh.objs.size+1,_) List.mem_cons_self).1,gd',by rfl,by rfl,al.fresh (get?_size hh),xl,ws,⟨nl,k' _ _ hl⟩,RepVs.move k'.move rws⟩
end
end Mine
namespace Mine
open PySem PyProof.Rows PySem.W
noncomputable abbrev rw0:OpenRow:=OpenLaw.row PySem.Challenge.rw_xh0018_01
noncomputable def vw:Program:={ PySem.Challenge.pw_xh0018_01 with main:={ PySem.Challenge.pw_xh0018_01.main with body:=[1,2,3,5,6,7,8,9,10,11,12,14,15,16,18,19,20,21,22,23,24,25,26].filterMap fun i=>PySem.Challenge.pw_xh0018_01.main.body[i]? } }
noncomputable def lse:List Str:=[Str.ofString "ONE_THIRD",Str.ofString "ONE_SIXTH",Str.ofString "TWO_THIRD",Str.ofString "COMPILER_FLAG_NAMES"]
noncomputable def lvs:List (Str × WData):=[(Str.ofString "ONE_THIRD",WData.float 4599676419421066581),(Str.ofString "ONE_SIXTH",WData.float 4595172819793696085),(Str.ofString "TWO_THIRD",WData.float 4604180019048437077)]
noncomputable def dO (es:List DictEntry) (n:Nat):Obj:={ cls:=.type "dict",data:=Data.dict es.toArray n }
noncomputable def kh (P:Params) (x:String):Int:=PyData.keyHash P (Str.ofString x)
noncomputable def cdO (nm qn:String) (ts:List Nat) (is:List Int) (rs:List Value):Obj :=
  let t i:=ts.getD i 0
  let n i:Value:=.int (is.getD i 0) 0
  let r i:=rs.getD i .none
  { cls:=.type "code",data:=Data.fields #[.str (Str.ofString nm) (t 0),.str (Str.ofString qn) (t 1),.str (Str.ofString "/claim/cut.py") (t 2),n 0,n 1,n 2,n 3,n 4,r 0,.bool true,n 5,r 1,.none,r 2,r 3,r 4,n 6,n 7,.str (Str.ofString "/claim/cut.py") (t 3)] }
noncomputable def fnO (d:Option (Arguments × List Stmt × Scope)) (nm qn md:String) (t a:Nat):Obj:=@Option.casesOn _ (fun _=>Obj) d { cls:=.none,data:=.seq #[] } fun p =>
  { cls:=.type "function",data:=Data.func { name:=Str.ofString nm,qualname:=Str.ofString qn,params:=p.1,body:=FuncBody.stmts p.2.1,scope:=p.2.2,globals:=3,closure:=[],defaults:=.none,kwdefaults:=.none,pyModule:=.str (Str.ofString md) t,code:=.ref a } }
noncomputable def kf (P:Params):Frag:=[
(3,dO [⟨kh P ("__name__"),.str ("__name__") 165,.str ("law_xh0018_01") 388⟩,⟨kh P ("__doc__"),.str ("__doc__") 166,.none⟩,⟨kh P ("__package__"),.str ("__package__") 167,.none⟩,⟨kh P ("__loader__"),.str ("__loader__") 168,.builtin "__main__.__loader__#opaque"⟩,⟨kh P ("__spec__"),.str ("__spec__") 169,.none⟩,⟨kh P ("__annotations__"),.str ("__annotations__") 170,.ref 6⟩,⟨kh P ("__builtins__"),.str ("__builtins__") 171,.ref 4⟩,⟨kh P ("__file__"),.str ("__file__") 173,.str ("/claim/cut.py") 172⟩,⟨kh P ("__cached__"),.str ("__cached__") 174,.none⟩,⟨kh P ("TupleComp"),.str ("TupleComp") 230,.ref 38⟩,⟨kh P ("add_callers"),.str ("add_callers") 241,.ref 49⟩,⟨kh P ("count_calls"),.str ("count_calls") 250,.ref 56⟩,⟨kh P ("ONE_THIRD"),.str ("ONE_THIRD") 256,.float 4599676419421066581 255⟩,⟨kh P ("ONE_SIXTH"),.str ("ONE_SIXTH") 260,.float 4595172819793696085 259⟩,⟨kh P ("TWO_THIRD"),.str ("TWO_THIRD") 264,.float 4604180019048437077 263⟩,⟨kh P ("rgb_to_hls"),.str ("rgb_to_hls") 283,.ref 63⟩,⟨kh P ("hls_to_rgb"),.str ("hls_to_rgb") 294,.ref 70⟩,⟨kh P ("_v"),.str ("_v") 303,.ref 77⟩,⟨kh P ("rgb_to_hsv"),.str ("rgb_to_hsv") 321,.ref 84⟩,⟨kh P ("hsv_to_rgb"),.str ("hsv_to_rgb") 335,.ref 91⟩,⟨kh P ("COMPILER_FLAG_NAMES"),.str ("COMPILER_FLAG_NAMES") 368,.ref 92⟩,⟨kh P ("pretty_flags"),.str ("pretty_flags") 378,.ref 99⟩,⟨kh P ("_parse_varint"),.str ("_parse_varint") 387,.ref 106⟩,⟨kh P ("_law_words"),.str ("_law_words") 395,.ref 111⟩,⟨kh P ("_law_list"),.str ("_law_list") 406,.ref 118⟩,⟨kh P ("_law_tape"),.str ("_law_tape") 412,.ref 123⟩,⟨kh P ("_law_rank"),.str ("_law_rank") 429,.ref 130⟩,⟨kh P ("_law_best"),.str ("_law_best") 435,.ref 135⟩,⟨kh P ("_law_firm"),.str ("_law_firm") 441,.ref 140⟩,⟨kh P ("_law_painted"),.str ("_law_painted") 447,.ref 145⟩,⟨kh P ("_law_tables"),.str ("_law_tables") 453,.ref 150⟩,⟨kh P ("law"),.str ("law") 459,.ref 155⟩] 32),
(27,cdO "__init__" "TupleComp.__init__" [201,202,203,207] [4,2,0,0,3,181,206,4] [.ref 22,.ref 23,.ref 24,.ref 25,.ref 26]),
(28,fnO (findInit theBody) "__init__" "TupleComp.__init__" "cpy313.pstats" 187 27),
(34,cdO "compare" "TupleComp.compare" [209,210,211,220] [7,3,0,0,3,181,219,7] [.ref 29,.ref 30,.ref 31,.ref 32,.ref 33]),
(35,fnO (findDef "compare" theBody) "compare" "TupleComp.compare" "cpy313.pstats" 187 34),
(37,dO [⟨kh P ("__module__"),.str ("__module__") 196,.str ("cpy313.pstats") 187⟩,⟨kh P ("__firstlineno__"),.str ("__firstlineno__") 200,.int 2 199⟩,⟨kh P ("__init__"),.str ("__init__") 208,.ref 28⟩,⟨kh P ("compare"),.str ("compare") 221,.ref 35⟩,⟨kh P ("__static_attributes__"),.str ("__static_attributes__") 223,.ref 36⟩,⟨kh P ("__dict__"),.str ("__dict__") 225,.ref 39⟩,⟨kh P ("__weakref__"),.str ("__weakref__") 227,.ref 40⟩,⟨kh P ("__doc__"),.str ("__doc__") 228,.none⟩] 4),
(38,{ cls:=.type "type",data:=Data.cls { name:="TupleComp",bases:=[.type "object"],mro:=[.ref 38,.type "object"],ns:=37,qualname:="TupleComp" },slots:=#[none,none,some (.str ("TupleComp") 189),some (.str ("TupleComp") 197),some (.builtin "object.__new__"),some (.bool true)] }),
(48,cdO "add_callers" "add_callers" [231,232,233,240] [16,2,0,0,3,181,239,16] [.ref 43,.ref 44,.ref 45,.ref 46,.ref 47]),
(49,fnO (findDef "add_callers" theBody) "add_callers" "add_callers" "cpy313.pstats" 187 48),
(55,cdO "count_calls" "count_calls" [242,243,244,249] [29,1,0,0,3,181,248,29] [.ref 50,.ref 51,.ref 52,.ref 53,.ref 54]),
(56,fnO (findDef "count_calls" theBody) "count_calls" "count_calls" "cpy313.pstats" 187 55),
(62,cdO "rgb_to_hls" "rgb_to_hls" [265,266,267,282] [38,3,0,0,3,181,281,38] [.ref 57,.ref 58,.ref 59,.ref 60,.ref 61]),
(63,fnO (findDef "rgb_to_hls" theBody) "rgb_to_hls" "rgb_to_hls" "cpy313.colorsys" 251 62),
(69,cdO "hls_to_rgb" "hls_to_rgb" [284,285,286,293] [61,3,0,0,3,181,292,61] [.ref 64,.ref 65,.ref 66,.ref 67,.ref 68]),
(70,fnO (findDef "hls_to_rgb" theBody) "hls_to_rgb" "hls_to_rgb" "cpy313.colorsys" 251 69),
(76,cdO "_v" "_v" [295,296,297,302] [70,3,0,0,3,181,301,70] [.ref 71,.ref 72,.ref 73,.ref 74,.ref 75]),
(77,fnO (findDef "_v" theBody) "_v" "_v" "cpy313.colorsys" 251 76),
(83,cdO "rgb_to_hsv" "rgb_to_hsv" [304,305,306,320] [79,3,0,0,3,181,319,79] [.ref 78,.ref 79,.ref 80,.ref 81,.ref 82]),
(84,fnO (findDef "rgb_to_hsv" theBody) "rgb_to_hsv" "rgb_to_hsv" "cpy313.colorsys" 251 83),
(90,cdO "hsv_to_rgb" "hsv_to_rgb" [322,323,324,334] [98,3,0,0,3,181,333,98] [.ref 85,.ref 86,.ref 87,.ref 88,.ref 89]),
(91,fnO (findDef "hsv_to_rgb" theBody) "hsv_to_rgb" "hsv_to_rgb" "cpy313.colorsys" 251 90),
(92,dO [⟨1,.int 1 338,.str ("OPTIMIZED") 339⟩,⟨2,.int 2 340,.str ("NEWLOCALS") 341⟩,⟨4,.int 4 342,.str ("VARARGS") 343⟩,⟨8,.int 8 344,.str ("VARKEYWORDS") 345⟩,⟨16,.int 16 346,.str ("NESTED") 347⟩,⟨32,.int 32 348,.str ("GENERATOR") 349⟩,⟨64,.int 64 350,.str ("NOFREE") 351⟩,⟨128,.int 128 352,.str ("COROUTINE") 353⟩,⟨256,.int 256 354,.str ("ITERABLE_COROUTINE") 355⟩,⟨512,.int 512 356,.str ("ASYNC_GENERATOR") 357⟩] 10),
(98,cdO "pretty_flags" "pretty_flags" [369,370,371,377] [121,1,0,0,3,181,376,121] [.ref 93,.ref 94,.ref 95,.ref 96,.ref 97]),
(99,fnO (findDef "pretty_flags" theBody) "pretty_flags" "pretty_flags" "cpy313.dis" 336 98),
(105,cdO "_parse_varint" "_parse_varint" [379,380,381,386] [133,1,0,0,3,181,385,133] [.ref 100,.ref 101,.ref 102,.ref 103,.ref 104]),
(106,fnO (findDef "_parse_varint" theBody) "_parse_varint" "_parse_varint" "cpy313.dis" 336 105),
(110,cdO "_law_words" "_law_words" [390,391,392,394] [142,1,0,0,3,181,393,142] [.ref 107,.ref 108,.none,.none,.ref 109]),
(111,fnO (findDef "_law_words" theBody) "_law_words" "_law_words" "law_xh0018_01" 388 110),
(117,cdO "_law_list" "_law_list" [396,397,398,405] [145,2,0,0,3,181,404,145] [.ref 112,.ref 113,.ref 114,.ref 115,.ref 116]),
(118,fnO (findDef "_law_list" theBody) "_law_list" "_law_list" "law_xh0018_01" 388 117),
(122,cdO "_law_tape" "_law_tape" [407,408,409,411] [151,2,0,0,3,181,410,151] [.ref 119,.ref 120,.none,.none,.ref 121]),
(123,fnO (findDef "_law_tape" theBody) "_law_tape" "_law_tape" "law_xh0018_01" 388 122),
(129,cdO "_law_rank" "_law_rank" [413,414,415,428] [159,3,0,0,3,181,427,159] [.ref 124,.ref 125,.ref 126,.ref 127,.ref 128]),
(130,fnO (findDef "_law_rank" theBody) "_law_rank" "_law_rank" "law_xh0018_01" 388 129),
(134,cdO "_law_best" "_law_best" [430,431,432,434] [165,4,0,0,3,181,433,165] [.ref 131,.ref 132,.none,.none,.ref 133]),
(135,fnO (findDef "_law_best" theBody) "_law_best" "_law_best" "law_xh0018_01" 388 134),
(139,cdO "_law_firm" "_law_firm" [436,437,438,440] [171,4,0,0,3,181,439,171] [.ref 136,.ref 137,.none,.none,.ref 138]),
(140,fnO (findDef "_law_firm" theBody) "_law_firm" "_law_firm" "law_xh0018_01" 388 139),
(144,cdO "_law_painted" "_law_painted" [442,443,444,446] [180,4,0,0,3,181,445,180] [.ref 141,.ref 142,.none,.none,.ref 143]),
(145,fnO (findDef "_law_painted" theBody) "_law_painted" "_law_painted" "law_xh0018_01" 388 144),
(149,cdO "_law_tables" "_law_tables" [448,449,450,452] [195,1,0,0,3,181,451,195] [.ref 146,.ref 147,.none,.none,.ref 148]),
(150,fnO (findDef "_law_tables" theBody) "_law_tables" "_law_tables" "law_xh0018_01" 388 149),
(154,cdO "law" "law" [454,455,456,458] [206,1,0,0,3,181,457,206] [.ref 151,.ref 152,.none,.none,.ref 153]),
(155,fnO (findDef "law" theBody) "law" "law" "law_xh0018_01" 388 154)]
noncomputable def ks:List Addr:=[3,27,28,34,35,37,38,48,49,55,56,62,63,69,70,76,77,83,84,90,91,92,98,99,105,106,110,111,117,118,122,123,129,130,134,135,139,140,144,145,149,150,154,155]
theorem ks_ok (P:Params):ks=(kf P).map (·.1):=by kernel_rfl
noncomputable abbrev kH:Hook:=kHook kf ks ks_ok
set_option maxHeartbeats 8000000 in
theorem hl:LeftO PySem.Challenge.pw_xh0018_01 vw lse (fun s=>xlAt vw lvs s && recOk (RowW.records rw0.toRowW) s) (Hook.obs kH) (Hook.val kH) 2210:=by
  apply LeftO.of_split "special-get-raises"
  intro w
  kernel_rfl
end Mine
namespace Mine
open PySem PyProof.Rows PySem.W PySem.Calls
noncomputable def refAt (K:Frag) (nm:Str):Addr:=match nsIn K mainGlobals nm with
  | some (some (.ref a))=>a
  | _=>0
noncomputable def refIn (K:Frag) (C:Addr) (nm:Str):Addr:=match findIn K (.ref C) nm with
  | some (some (.ref a))=>a
  | _=>0
noncomputable def fdOf (K:Frag) (a:Addr):Option FuncData:=match K.lookup a with
  | some ⟨_,_,.func fd,_⟩=>some fd
  | _=>none
noncomputable abbrev theK (P:Params):Frag:=kf P
noncomputable def clsA (P:Params):Addr:=refAt (theK P) "TupleComp"
noncomputable def initA (P:Params):Addr:=refIn (theK P) (clsA P) "__init__"
noncomputable def cmpA (P:Params):Addr:=refIn (theK P) (clsA P) "compare"
theorem clsK_ok (P:Params):ClsK (theK P) (clsA P) (initA P) (cmpA P) :=
  ⟨by kernel_rfl,by kernel_rfl,by kernel_rfl,by kernel_rfl,by kernel_rfl,by kernel_rfl,by kernel_rfl,by kernel_rfl,by kernel_rfl,by kernel_rfl,by kernel_rfl,by kernel_rfl,by kernel_rfl,by kernel_rfl,by kernel_rfl⟩
structure DefK (K:Frag) (a:Addr) (ps:List Str) (body:List Stmt) (sc:Scope):Prop where
  parts:(fdOf K a).map (fun fd=>(fd.body,fd.scope,fd.closure,fd.globals,fd.builtins))=some (FuncBody.stmts body,sc,[],mainGlobals,builtinsNs)
  code:((fdOf K a).any fun fd=>codeIn K fd.code fd.qualname)=true
  bind:∀ vs:List Value,vs.length=ps.length→(fdOf K a).map (fun fd=>bindArgs fd ⟨vs,[]⟩)=some (pure (ps.zip vs))
theorem defAt_of {K:Frag} {h:Heap} (X:K.In h) {a:Addr} {ps:List Str} {body:List Stmt} {sc:Scope} (d:DefK K a ps body sc):DefAt h a ps body sc:=by
  obtain ⟨h1,h2,h3⟩:=d
  cases e:fdOf K a with
  | none=>rw [e] at h1; cases h1
  | some fd =>
    rw [e] at h1 h2
    simp only [Option.map_some,Option.some.injEq,Prod.mk.injEq] at h1
    obtain ⟨q1,q2,q3,q4,q5⟩:=h1
    have e':=e
    unfold fdOf at e'
    split at e'
    · rename_i oc od fd' sl hl
      cases e'
      refine ⟨_,fd,X _ _ hl,rfl,q1,q2,q3,q4,q5,codeRec_of X (by simpa using h2),fun vs hv=>?_⟩
      have:=h3 vs hv
      rw [e] at this
      simpa using this
    · cases e'
noncomputable def scopeOf (nm:String):Scope:=match findDef nm theBody with
  | some (_,_,sc)=>sc
  | none=>⟨.function,[],false,false,[]⟩
noncomputable def bodyAt (nm:String):List Stmt:=match findDef nm theBody with
  | some (_,b,_)=>b
  | none=>[]
theorem len_nil {p:List Value→Prop} (h:p []) (vs:List Value) (e:vs.length=0):p vs:=(List.eq_nil_of_length_eq_zero e).symm ▸ h
theorem len_cons {p:List Value→Prop} {n:Nat} (h:∀ a vs,vs.length=n→p (a::vs)):∀ vs:List Value,vs.length=n+1→p vs:=fun vs=>@List.casesOn Value (fun vs=>vs.length=n+1→p vs) vs (fun e=>absurd e (Nat.succ_ne_zero n).symm) fun a vs e=>h a vs (Nat.succ.inj e)
theorem len_1 {p:List Value→Prop} (h:∀ a,p [a]):∀ vs:List Value,vs.length=1→p vs:=len_cons fun a=>len_nil (p:=fun vs=>p (a::vs)) (h a)
theorem len_2 {p:List Value→Prop} (h:∀ a b,p [a,b]):∀ vs:List Value,vs.length=2→p vs:=len_cons fun a=>len_1 (p:=fun vs=>p (a::vs)) (h a)
theorem len_3 {p:List Value→Prop} (h:∀ a b c,p [a,b,c]):∀ vs:List Value,vs.length=3→p vs:=len_cons fun a=>len_2 (p:=fun vs=>p (a::vs)) (h a)
theorem len_4 {p:List Value→Prop} (h:∀ a b c d,p [a,b,c,d]):∀ vs:List Value,vs.length=4→p vs:=len_cons fun a=>len_3 (p:=fun vs=>p (a::vs)) (h a)
theorem dk_addCallers (P:Params):DefK (theK P) (refAt (theK P) "add_callers") ((infoOf .addCallers).ps.map Str.ofString) (bodyAt "add_callers") (scopeOf "add_callers")∧nsIn (theK P) mainGlobals "add_callers"=some (some (.ref (refAt (theK P) "add_callers"))) :=
  ⟨⟨by kernel_rfl,by kernel_rfl,len_2 fun a b=>by kernel_rfl⟩,by kernel_rfl⟩
theorem dk_countCalls (P:Params):DefK (theK P) (refAt (theK P) "count_calls") ((infoOf .countCalls).ps.map Str.ofString) (bodyAt "count_calls") (scopeOf "count_calls")∧nsIn (theK P) mainGlobals "count_calls"=some (some (.ref (refAt (theK P) "count_calls"))) :=
  ⟨⟨by kernel_rfl,by kernel_rfl,len_1 fun a=>by kernel_rfl⟩,by kernel_rfl⟩
theorem dk_rgbHls (P:Params):DefK (theK P) (refAt (theK P) "rgb_to_hls") ((infoOf .rgbHls).ps.map Str.ofString) (bodyAt "rgb_to_hls") (scopeOf "rgb_to_hls")∧nsIn (theK P) mainGlobals "rgb_to_hls"=some (some (.ref (refAt (theK P) "rgb_to_hls"))) :=
  ⟨⟨by kernel_rfl,by kernel_rfl,len_3 fun a b c=>by kernel_rfl⟩,by kernel_rfl⟩
theorem dk_hlsRgb (P:Params):DefK (theK P) (refAt (theK P) "hls_to_rgb") ((infoOf .hlsRgb).ps.map Str.ofString) (bodyAt "hls_to_rgb") (scopeOf "hls_to_rgb")∧nsIn (theK P) mainGlobals "hls_to_rgb"=some (some (.ref (refAt (theK P) "hls_to_rgb"))) :=
  ⟨⟨by kernel_rfl,by kernel_rfl,len_3 fun a b c=>by kernel_rfl⟩,by kernel_rfl⟩
theorem dk_v (P:Params):DefK (theK P) (refAt (theK P) "_v") ((infoOf .v).ps.map Str.ofString) (bodyAt "_v") (scopeOf "_v")∧nsIn (theK P) mainGlobals "_v"=some (some (.ref (refAt (theK P) "_v"))) :=
  ⟨⟨by kernel_rfl,by kernel_rfl,len_3 fun a b c=>by kernel_rfl⟩,by kernel_rfl⟩
theorem dk_rgbHsv (P:Params):DefK (theK P) (refAt (theK P) "rgb_to_hsv") ((infoOf .rgbHsv).ps.map Str.ofString) (bodyAt "rgb_to_hsv") (scopeOf "rgb_to_hsv")∧nsIn (theK P) mainGlobals "rgb_to_hsv"=some (some (.ref (refAt (theK P) "rgb_to_hsv"))) :=
  ⟨⟨by kernel_rfl,by kernel_rfl,len_3 fun a b c=>by kernel_rfl⟩,by kernel_rfl⟩
theorem dk_hsvRgb (P:Params):DefK (theK P) (refAt (theK P) "hsv_to_rgb") ((infoOf .hsvRgb).ps.map Str.ofString) (bodyAt "hsv_to_rgb") (scopeOf "hsv_to_rgb")∧nsIn (theK P) mainGlobals "hsv_to_rgb"=some (some (.ref (refAt (theK P) "hsv_to_rgb"))) :=
  ⟨⟨by kernel_rfl,by kernel_rfl,len_3 fun a b c=>by kernel_rfl⟩,by kernel_rfl⟩
theorem dk_flags (P:Params):DefK (theK P) (refAt (theK P) "pretty_flags") ((infoOf .flags).ps.map Str.ofString) (bodyAt "pretty_flags") (scopeOf "pretty_flags")∧nsIn (theK P) mainGlobals "pretty_flags"=some (some (.ref (refAt (theK P) "pretty_flags"))) :=
  ⟨⟨by kernel_rfl,by kernel_rfl,len_1 fun a=>by kernel_rfl⟩,by kernel_rfl⟩
theorem dk_words (P:Params):DefK (theK P) (refAt (theK P) "_law_words") ((infoOf .words).ps.map Str.ofString) (bodyAt "_law_words") (scopeOf "_law_words")∧nsIn (theK P) mainGlobals "_law_words"=some (some (.ref (refAt (theK P) "_law_words"))) :=
  ⟨⟨by kernel_rfl,by kernel_rfl,len_1 fun a=>by kernel_rfl⟩,by kernel_rfl⟩
theorem dk_list (P:Params):DefK (theK P) (refAt (theK P) "_law_list") ((infoOf .list).ps.map Str.ofString) (bodyAt "_law_list") (scopeOf "_law_list")∧nsIn (theK P) mainGlobals "_law_list"=some (some (.ref (refAt (theK P) "_law_list"))) :=
  ⟨⟨by kernel_rfl,by kernel_rfl,len_2 fun a b=>by kernel_rfl⟩,by kernel_rfl⟩
theorem dk_tape (P:Params):DefK (theK P) (refAt (theK P) "_law_tape") ((infoOf .tape).ps.map Str.ofString) (bodyAt "_law_tape") (scopeOf "_law_tape")∧nsIn (theK P) mainGlobals "_law_tape"=some (some (.ref (refAt (theK P) "_law_tape"))) :=
  ⟨⟨by kernel_rfl,by kernel_rfl,len_2 fun a b=>by kernel_rfl⟩,by kernel_rfl⟩
theorem dk_rank (P:Params):DefK (theK P) (refAt (theK P) "_law_rank") ((infoOf .rank).ps.map Str.ofString) (bodyAt "_law_rank") (scopeOf "_law_rank")∧nsIn (theK P) mainGlobals "_law_rank"=some (some (.ref (refAt (theK P) "_law_rank"))) :=
  ⟨⟨by kernel_rfl,by kernel_rfl,len_3 fun a b c=>by kernel_rfl⟩,by kernel_rfl⟩
theorem dk_best (P:Params):DefK (theK P) (refAt (theK P) "_law_best") ((infoOf .best).ps.map Str.ofString) (bodyAt "_law_best") (scopeOf "_law_best")∧nsIn (theK P) mainGlobals "_law_best"=some (some (.ref (refAt (theK P) "_law_best"))) :=
  ⟨⟨by kernel_rfl,by kernel_rfl,len_4 fun a b c d=>by kernel_rfl⟩,by kernel_rfl⟩
theorem dk_firm (P:Params):DefK (theK P) (refAt (theK P) "_law_firm") ((infoOf .firm).ps.map Str.ofString) (bodyAt "_law_firm") (scopeOf "_law_firm")∧nsIn (theK P) mainGlobals "_law_firm"=some (some (.ref (refAt (theK P) "_law_firm"))) :=
  ⟨⟨by kernel_rfl,by kernel_rfl,len_4 fun a b c d=>by kernel_rfl⟩,by kernel_rfl⟩
theorem dk_painted (P:Params):DefK (theK P) (refAt (theK P) "_law_painted") ((infoOf .painted).ps.map Str.ofString) (bodyAt "_law_painted") (scopeOf "_law_painted")∧nsIn (theK P) mainGlobals "_law_painted"=some (some (.ref (refAt (theK P) "_law_painted"))) :=
  ⟨⟨by kernel_rfl,by kernel_rfl,len_4 fun a b c d=>by kernel_rfl⟩,by kernel_rfl⟩
theorem dk_tables (P:Params):DefK (theK P) (refAt (theK P) "_law_tables") ((infoOf .tables).ps.map Str.ofString) (bodyAt "_law_tables") (scopeOf "_law_tables")∧nsIn (theK P) mainGlobals "_law_tables"=some (some (.ref (refAt (theK P) "_law_tables"))) :=
  ⟨⟨by kernel_rfl,by kernel_rfl,len_1 fun a=>by kernel_rfl⟩,by kernel_rfl⟩
theorem dk_pv (P:Params):DefK (theK P) (refAt (theK P) "_parse_varint") [Str.ofString "iterator"] (bodyAt "_parse_varint") (scopeOf "_parse_varint")∧nsIn (theK P) mainGlobals "_parse_varint"=some (some (.ref (refAt (theK P) "_parse_varint"))) :=
  ⟨⟨by kernel_rfl,by kernel_rfl,len_1 fun a=>by kernel_rfl⟩,by kernel_rfl⟩
theorem dk_law (P:Params):DefK (theK P) (refAt (theK P) "law") [Str.ofString "script"] (bodyAt "law") (scopeOf "law")∧nsIn (theK P) mainGlobals "law"=some (some (.ref (refAt (theK P) "law"))) :=
  ⟨⟨by kernel_rfl,by kernel_rfl,len_1 fun a=>by kernel_rfl⟩,by kernel_rfl⟩
theorem dk_cmp (P:Params):DefK (theK P) (cmpA P) ((infoOf .compare).ps.map Str.ofString) (bodyAt "compare") (scopeOf "compare") :=
  ⟨by kernel_rfl,by kernel_rfl,len_3 fun a b c=>by kernel_rfl⟩
noncomputable def initBody:List Stmt:=match findInit theBody with
  | some (_,b,_)=>b
  | none=>[]
noncomputable def initScope:Scope:=match findInit theBody with
  | some (_,_,sc)=>sc
  | none=>⟨.function,[],false,false,[]⟩
theorem dk_init (P:Params):DefK (theK P) (initA P) initPs initBody initScope∧initShape initScope initBody=true :=
  ⟨⟨by kernel_rfl,by kernel_rfl,len_2 fun a b=>by kernel_rfl⟩,by kernel_rfl⟩
theorem def_find {nm:String} {args:Arguments} {body:List Stmt} {sc:Scope} (e:findDef nm theBody=some (args,body,sc)):body=bodyAt nm∧sc=scopeOf nm:=by
  unfold bodyAt scopeOf
  rw [e]
  exact ⟨rfl,rfl⟩
theorem defs_ok {g:GG} {mg:Str→Option Value} {h₀:Heap} (P:Params) (hK:g.K=theK P) (hC:g.C=clsA P) (hI:g.fI=initA P) (hc:g.fC=cmpA P) (X:(theK P).In h₀) (G:h₀.Ns mainGlobals mg) (L:h₀.NoLimit):Defs g mg h₀:=by
  have one:∀ {f:Fn} {nm:String},nameOfFn f=some nm→DefK (theK P) (refAt (theK P) (Str.ofString nm)) ((infoOf f).ps.map Str.ofString) (bodyAt nm) (scopeOf nm)∧nsIn (theK P) mainGlobals (Str.ofString nm)=some (some (.ref (refAt (theK P) (Str.ofString nm)))):=by
    intro f nm e
    cases f <;> cases e
    · exact dk_addCallers P
    · exact dk_countCalls P
    · exact dk_rgbHls P
    · exact dk_hlsRgb P
    · exact dk_v P
    · exact dk_rgbHsv P
    · exact dk_hsvRgb P
    · exact dk_flags P
    · exact dk_words P
    · exact dk_list P
    · exact dk_tape P
    · exact dk_rank P
    · exact dk_best P
    · exact dk_firm P
    · exact dk_painted P
    · exact dk_tables P
  refine ⟨fun f nm e args body sc q=>?_,fun args body sc q=>?_,fun args body sc q=>?_,fun n ys=>?_⟩
  · obtain ⟨rfl,rfl⟩:=def_find q
    obtain ⟨q1,q2⟩:=one e
    exact ⟨_,mg_of X G q2,defAt_of X q1⟩
  · obtain ⟨rfl,rfl⟩:=def_find q
    exact ⟨_,mg_of X G (dk_pv P).2,defAt_of X (dk_pv P).1⟩
  · obtain ⟨rfl,rfl⟩:=def_find q
    rw [hc]
    exact defAt_of X (dk_cmp P)
  · exact make_ok (body:=initBody) (sc:=initScope) (by rw [hK]; exact X) (by rw [hK,hC,hI,hc]; exact clsK_ok P) L (by rw [hI]; exact defAt_of X (dk_init P).1) (dk_init P).2 n ys
noncomputable def tokAt (K:Frag) (nm:Str):Tok:=match nsIn K mainGlobals nm with
  | some (some (.float _ t))=>t
  | _=>0
noncomputable def dictAt? (K:Frag) (a:Addr):Option (Array DictEntry × Nat):=match K.lookup a with
  | some ⟨.type c,none,.dict es n,sl⟩=>if c == "dict" && sl.isEmpty then some (es,n) else none
  | _=>none
theorem dictAt_inv {K:Frag} {h:Heap} (X:K.In h) {a:Addr} {es:Array DictEntry} {n:Nat} (e:dictAt? K a=some (es,n)):∃ o,h.get? a=some o∧o.ExactDict∧o.data=.dict es n:=by
  unfold dictAt? at e
  split at e
  · rename_i c es' n' sl hl
    split at e
    · rename_i hc
      simp only [Bool.and_eq_true,beq_iff_eq,Array.isEmpty_iff] at hc
      cases e
      obtain ⟨rfl,rfl⟩:=hc
      exact ⟨_,X _ _ hl,⟨rfl,rfl,rfl⟩,rfl⟩
    · cases e
  · cases e
noncomputable def intKey:DictEntry→Option Int
  | ⟨h,.int i _,_⟩=>if h == hashInt i then some i else none
  | _=>none
noncomputable def flagA (P:Params):Addr:=refAt (theK P) "COMPILER_FLAG_NAMES"
noncomputable def flagEs (P:Params):List DictEntry:=match dictAt? (theK P) (flagA P) with
  | some (es,_)=>es.toList
  | none=>[]
noncomputable def flagN (P:Params):Nat:=match dictAt? (theK P) (flagA P) with
  | some (_,n)=>n
  | none=>0
theorem flagAt (P:Params):dictAt? (theK P) (flagA P)=some ((flagEs P).toArray,flagN P):=by kernel_rfl
noncomputable def strOfV:Value→Option Str
  | .str s _=>some s
  | _=>none
theorem flagKeys (P:Params):(flagEs P).map intKey=(flagKvs.map (·.1)).map some:=by kernel_rfl
theorem flagVals (P:Params):(flagEs P).map (fun e=>strOfV e.val)=(flagKvs.map fun p=>some (Str.ofString p.2)):=by kernel_rfl
theorem pairs_of {prog:Program} {w:World}:∀ {es:List DictEntry} {ks:List Int},es.map intKey=ks.map some→(∀ e∈es,∃ k,(intKind prog w).is k e.key=true∧e.hash=(intKind prog w).hash k)∧Pairs (intKind prog w) es (ks.zip (es.map (·.val)))
  | [],[],_=>⟨fun e h=>(by cases h),.nil⟩
  | [],_::_,h=>by cases h
  | _::_,[],h=>by cases h
  | e::es,k::ks,h=>by
    simp only [List.map_cons,List.cons.injEq] at h
    obtain ⟨h1,h2⟩:=h
    have ⟨r1,r2⟩:=pairs_of (prog:=prog) (w:=w) h2
    unfold intKey at h1
    split at h1
    · split at h1
      · rename_i hh
        cases h1
        refine ⟨fun e' he=>?_,.cons (by show (k == k)=true; simp) rfl r2⟩
        rcases List.mem_cons.mp he with rfl | he
        · exact ⟨k,by show (k == k)=true; simp,beq_iff_eq.mp hh⟩
        · exact r1 e' he
      · cases h1
    · cases h1
theorem vals_of {g:GG} {h:Heap}:∀ {es:List DictEntry} {ss:List Str},es.map (fun e=>strOfV e.val)=ss.map some→RepVs g h (fun _=>False) (ss.map .str) (es.map (·.val))
  | [],[],_=>by simp [RepVs_nil]
  | [],_::_,h=>by cases h
  | _::_,[],h=>by cases h
  | e::es,s::ss,h=>by
    simp only [List.map_cons,List.cons.injEq] at h
    obtain ⟨h1,h2⟩:=h
    simp only [List.map_cons]
    refine RepVs_cons.mpr ⟨_,_,rfl,.inl ?_,vals_of h2⟩
    unfold strOfV at h1
    split at h1
    · rename_i t q
      cases h1
      exact ⟨_,q⟩
    · cases h1
noncomputable def mbOk (K:Frag) (p:String × Value):Prop:=nsIn K mainGlobals (Str.ofString p.1)=some none∧bootBuiltins (Str.ofString p.1)=some p.2∧(Str.ofString p.1 == ("__name__":Str))=false
theorem mb_all (P:Params):∀ p∈bltTab,mbOk (theK P) p:=by
  intro p hp
  simp only [bltTab,List.mem_cons,List.not_mem_nil,or_false] at hp
  rcases hp with rfl | rfl | rfl | rfl | rfl | rfl | rfl | rfl | rfl | rfl | rfl | rfl | rfl | rfl | rfl | rfl <;> exact ⟨by kernel_rfl,by kernel_rfl,by kernel_rfl⟩
theorem cst_all (P:Params):∀ p∈constTab,nsIn (theK P) mainGlobals (Str.ofString p.1)=some (some (.float p.2 (tokAt (theK P) (Str.ofString p.1)))):=by
  intro p hp
  simp only [constTab,List.mem_cons,List.not_mem_nil,or_false] at hp
  rcases hp with rfl | rfl | rfl <;> kernel_rfl
theorem base_ok {g:GG} {mg mb:Str→Option Value} {h:Heap} (P:Params) (hK:g.K=theK P) (hC:g.C=clsA P) (hI:g.fI=initA P) (hc:g.fC=cmpA P) (X:(theK P).In h) (G:h.Ns mainGlobals mg) (G2:h.Ns builtinsNs mb) (hb:∀ x:Str,x≠"__name__"→mb x=bootBuiltins x) (L:h.NoLimit):Base g mg mb h:=by
  refine ⟨?_,L,G,G2,fun p hp=>?_,fun p hp=>⟨_,mg_of X G (cst_all P p hp)⟩,?_,by rw [hK]; exact X,by rw [hC]; exact mg_of X G (by kernel_rfl),by rw [hK,hC,hI,hc]; exact clsK_ok P⟩
  · obtain ⟨o,ho,_⟩:=dictAt_inv X (flagAt P)
    exact Nat.lt_trans (show sysModules < flagA P from Nat.le_of_ble_eq_true (by kernel_rfl)) (Heap.lt_size ho)
  · obtain ⟨q1,q2,q3⟩:=mb_all P p hp
    exact ⟨mg_none_of X G q1,(hb _ (by simpa using q3)).trans q2⟩
  · obtain ⟨o,ho,he,hd⟩:=dictAt_inv X (flagAt P)
    obtain ⟨p1,p2⟩:=pairs_of (prog:=g.prog) (w:=g.w) (flagKeys P)
    have len:(flagKvs.map (·.1)).length≤((flagEs P).map (·.val)).length:=by
      have:=congrArg List.length (flagKeys P)
      simp only [List.length_map] at this ⊢
      omega
    have len2:((flagEs P).map (·.val)).length≤(flagKvs.map (·.1)).length:=by
      have:=congrArg List.length (flagKeys P)
      simp only [List.length_map] at this ⊢
      omega
    refine ⟨flagA P,(flagKvs.map (·.1)).zip ((flagEs P).map (·.val)),flagN P,mg_of X G (by kernel_rfl),by kernel_rfl,⟨o,_,ho,he,hd,fun e he=>p1 e (by simpa using he),p2,?_⟩,?_,?_⟩
    · rw [List.map_fst_zip len]
      decide
    · exact List.map_fst_zip len
    · rw [List.map_snd_zip len2]
      have:=vals_of (g:=g) (h:=h) (es:=flagEs P) (ss:=flagKvs.map fun p=>Str.ofString p.2) (by rw [flagVals P,List.map_map]; rfl)
      rw [List.map_map] at this
      exact this
noncomputable def checkLaw:Bool:=match findDef "law" theBody with
  | some (_,_,sc)=>scOk sc [Str.ofString "script"] && isTop (ctxOf sc true) && (ctxOf sc true).next == 24
  | none=>false
theorem lawOk:checkLaw=true:=by kernel_rfl
theorem find_law (g:GG) (mg mb:Str→Option Value):∃ args body sc,findDef "law" theBody=some (args,body,sc)∧SsSound g mg mb (ctxOf sc true) body bLaw ∧
    scOk sc [Str.ofString "script"]=true∧(ctxOf sc true).next=24:=by
  have h1:=cLaw g mg mb
  have h2:=lawOk
  unfold compiled at h1
  unfold checkLaw at h2
  cases e:findDef "law" theBody with
  | none=>rw [e] at h1; cases h1
  | some p =>
    obtain ⟨args,body,sc⟩:=p
    rw [e] at h1 h2
    simp only [Bool.and_eq_true,beq_iff_eq] at h2
    obtain ⟨r,_,hr⟩:=map_inv h1
    exact ⟨args,body,sc,rfl,hr ▸ r.ok,h2.1.1,h2.2⟩
noncomputable def lawVe (s:List Int):List MV:=.val (.arg (s.map .int))::List.replicate 23 .unset
noncomputable def LawTrue:Prop:=∀ s:List Int,s.length≤63→∃ σ,exSs (tabN 8) bLaw (lawVe s) []=.ret (.bool true) σ
theorem script_rep {g:GG} {h:Heap} {X:Addr→Prop}:∀ {vs:List Value} {ns:List Int},IntsAre vs ns→RepVs g h X (ns.map .int) vs
  | [],[],_=>by simp [RepVs_nil]
  | v::vs,n::ns,e=>by
    cases e with
    | cons =>
      rw [List.map_cons]
      exact RepVs_cons.mpr ⟨_,_,rfl,.inl ⟨_,rfl⟩,script_rep (by assumption)⟩
  | [],_::_,e=>by cases e
  | _::_,[],e=>by cases e
theorem law_run {g:GG} {mg mb:Str→Option Value} {s:Shared} {sc:Scope} {body:List Stmt} {bl:MSs} {T:Tab} {fa l:Addr} {vals:List Value} {zs:List Int} {σ:List AV} (DL:DefAt s.heap fa [Str.ofString "script"] body sc) (e3:scOk sc [Str.ofString "script"]=true) (e4:(ctxOf sc true).next=24)
    (hsound:SsSound g mg mb (ctxOf sc true) body bl) (B:Base g mg mb s.heap) (TT:TabOk g mg T 8 s.heap) (hev:exSs T bl (lawVe zs) []=.ret (.bool true) σ)
    (hL:s.heap.IsList l vals.toArray) (hI:IntsAre vals zs) {Q:Value→Shared→Prop} {E:Value→Shared→Prop} (hQ:∀ h' tk,Grow s.heap h'→Q (.bool true) { s with heap:=h',toks:=tk }) :
    wpAny (model g.prog g.w) callerA (call (.ref fa) [.ref l]) Q E s:=by
  have hve:startVe (ctxOf sc true) [.val (.arg (zs.map .int))]=lawVe zs:=by unfold startVe; rw [e4]; rfl
  have aok:AOk 9 callerA:=⟨rfl,by decide,by decide⟩
  refine call_run (ps:=[Str.ofString "script"]) (X:=fun _=>False) (ρ:=[]) (σ:=[]) (ms:=[.val (.arg (zs.map .int))]) (n:=8) (sd:=true) DL e3 hsound B TT aok (fun _=>rfl) (Grow.refl _) (Nat.le_refl _) (fun _ h=>h.elim) (fun _ h=>h.elim) ⟨rfl,fun i c b e=>(by simp at e),fun b hb=>(by cases hb),List.nodup_nil⟩ rfl rfl (fun i m v q1 q2=>?_) ?_
  · cases i with
    | zero =>
      cases q1; cases q2
      refine .inr ⟨l,rfl,id,?_⟩
      exact ⟨vals,hL,script_rep hI⟩
    | succ i=>simp at q1
  · rw [hve,hev]
    intro X' ρ' h' tk w sub rn k M pre r
    have hw:w=.bool true:=by
      rcases r with r | ⟨x,_,_,r⟩
      · rcases r with r | ⟨x,_,_,r⟩
        · exact r
        · exact False.elim r
      · exact False.elim r
    subst hw
    exact hQ h' tk fun b o e=>k b o (by simp) e
theorem law_join (HL:LawTrue) (g:GG) (g3:g.C=clsA g.w.params) (g4:g.K=theK g.w.params) (g5:g.fI=initA g.w.params) (g6:g.fC=cmpA g.w.params) {s:Shared} {mg mb:Str→Option Value} {fa l:Addr} {vals:List Value} {zs:List Int} (X:(theK g.w.params).In s.heap) (G:s.heap.Ns mainGlobals mg) (G2:s.heap.Ns builtinsNs mb) (hb:∀ x:Str,x≠"__name__"→mb x=bootBuiltins x) (L:s.heap.NoLimit)
    (hmg:mg "law"=some (.ref fa)) (hL:s.heap.IsList l vals.toArray) (hI:IntsAre vals zs) (hlen:zs.length≤63) {Q:Value→Shared→Prop} {E:Value→Shared→Prop} (hQ:∀ h' tk,Grow s.heap h'→Q (.bool true) { s with heap:=h',toks:=tk }) :
    wpAny (model g.prog g.w) callerA (call (.ref fa) [.ref l]) Q E s:=by
  have B:Base g mg mb s.heap:=base_ok g.w.params g4 g3 g5 g6 X G G2 hb L
  have D:Defs g mg s.heap:=defs_ok g.w.params g4 g3 g5 g6 X G L
  obtain ⟨args,body,sc,e1,e2,e3,e4⟩:=find_law g mg mb
  have fa':fa=refAt (theK g.w.params) "law":=by
    have:=mg_of X G (dk_law g.w.params).2
    rw [hmg] at this
    exact Value.ref.inj (Option.some.inj this)
  have DL:DefAt s.heap fa [Str.ofString "script"] body sc:=by rw [(def_find e1).1,(def_find e1).2,fa']; exact defAt_of X (dk_law g.w.params).1
  obtain ⟨σ,hev⟩:=HL zs hlen
  exact law_run DL e3 e4 e2 B (tab_ok B D 8) hev hL hI hQ
end Mine
section
open PySem PySem.W PyProof.Rows
set_option maxHeartbeats 8000000 in
theorem Mine.holds (HL:Mine.LawTrue):PySem.Challenge.rw_xh0018_01.Holds:=by
  w_on
  refine holds_law (by kernel_rfl) fun said=>?_
  refine PySem.W.holds_open (q:=Mine.vw) (loose:=Mine.lse) (Xt:=fun s=>xlAt Mine.vw Mine.lvs s && recOk (RowW.records Mine.rw0.toRowW) s) (XP:=XL Mine.vw Mine.lvs) (Yf:=Hook.obs Mine.kH) (Ya:=Hook.val Mine.kH) (YP:=Hook.says Mine.kH) (N:=2210) Mine.hl (Hook.of Mine.kH) (Hook.keeps Mine.kH) (fun s e=>xl_of s (Bool.and_eq_true_iff.mp e).1) XL.keeps (by rfl) (by rfl) (by rfl) (fun s e=>recFacts_of (Bool.and_eq_true_iff.mp e).2) (by rfl) said (by decide +kernel) ⟨rfl,rfl,rfl,rfl,rfl,by decide +kernel⟩ ?hw ?hc
  case hw=>w_witness2
  case hc =>
    intro w s₀ s₁ mg mb G Y fa o pm cd doc dV kV ho hd hcd hD hmg hg args vals as hpre hlay hrd hwl hlo
    have KX:=kIn_of Y
    clear hD hd Y ho hcd
    wrow_args hpre hlay hrd hwl hlo
    refine Mine.law_join HL ⟨PySem.Challenge.rw_xh0018_01.row.prog,w,Mine.clsA w.params,Mine.theK w.params,Mine.initA w.params,Mine.cmpA w.params⟩ rfl rfl rfl rfl KX G.T.g G.T.b G.T.builtins G.T.nolimit hmg (by assumption) (by assumption) (by omega) ?_
    intro h' tk k
    refine ⟨.inl ⟨.bool true,.bool true,[],rfl,fun _=>rfl,?_,?_,?_⟩,.of_keep k,rfl,.of_eq hg⟩
    · exact .bool true
    · kernel_rfl
    · exact fun _=>⟨List.nodup_nil,fun a h=>nomatch h⟩
end
namespace Mine
open PySem PyProof.Rows
section
variable {T:Tab} {ve:List MV} {σ:List AV}
theorem e_cst {c:AV}:evE T (.cst c) ve σ=.ok (.val c) σ:=rfl
theorem e_var {i:Nat}:evE T (.var i) ve σ=Res.on ((ve[i]?).bind varV) fun m=>.ok m σ:=rfl
theorem e_bin {o:BOp} {a b:ME}:evE T (.bin o a b) ve σ=op2 (fun x y=>toM (binV o x y)) (evE T a ve σ) fun σ=>evE T b ve σ:=rfl
theorem e_neg {a:ME}:evE T (.neg a) ve σ=op1 (fun x=>toM (negV x)) (evE T a ve σ):=rfl
theorem e_cmp {o:COp} {a b:ME}:evE T (.cmp o a b) ve σ=op2 (fun x y=>(cmpV o x y).map fun b=>.val (.bool b)) (evE T a ve σ) fun σ=>evE T b ve σ:=rfl
theorem e_ite {c:MT} {a b:ME}:evE T (.ite c a b) ve σ=(evT T c ve σ).bind fun t σ=>if t then evE T a ve σ else evE T b ve σ:=rfl
theorem e_list {es:MEs}:evE T (.list es) ve σ=(evEs T es ve σ).bind fun xs σ=>if fits xs.length then .ok (.val (.list xs)) σ else .no:=rfl
theorem e_tup {es:MEs}:evE T (.tup es) ve σ=(evEs T es ve σ).bind fun xs σ=>if fits xs.length then .ok (.val (.tup xs)) σ else .no:=rfl
theorem e_dict0 {s:Bool}:evE T (.dict0 s) ve σ=.ok (.val (if s then .dictS [] [] else .dictI [] [])) σ:=rfl
theorem e_dict1 {a b:ME}:evE T (.dict1 a b) ve σ=op2 (fun x y=>toM (dictOne x y)) (evE T a ve σ) fun σ=>evE T b ve σ:=rfl
theorem e_idx {a b:ME}:evE T (.idx a b) ve σ=op2 (fun x y=>toM (idxV x y)) (evE T a ve σ) fun σ=>evE T b ve σ:=rfl
theorem e_cut {a:ME} {n:Nat}:evE T (.cut a n) ve σ=op1 (fun x=>toM (cutV n x)) (evE T a ve σ):=rfl
theorem e_call {f:Fn} {es:MEs}:evE T (.call f es) ve σ=(evEs T es ve σ).bind fun xs σ=>.of σ ((T.fn f xs).map .val):=rfl
theorem e_p1 {p:P1} {a:ME}:evE T (.p1 p a) ve σ=op1 (fun x=>toM (p1V p x)) (evE T a ve σ):=rfl
theorem e_view {p:P1} {a:ME}:evE T (.view p a) ve σ=(evE T a ve σ).bind fun m σ=>.of σ ((m.val?.bind (p1V p)).map .val):=rfl
theorem e_p2 {p:P2} {a b:ME}:evE T (.p2 p a b) ve σ=op2v (fun x y=>toM (p2V p x y)) (evE T a ve σ) fun σ=>evE T b ve σ:=rfl
theorem e_p3 {p:P3} {a b c:ME}:evE T (.p3 p a b c) ve σ=op3 (fun x y z=>toM (p3V p x y z)) (evE T a ve σ) (fun σ=>evE T b ve σ) fun σ=>evE T c ve σ:=rfl
theorem e_pop {i:Nat} {a:ME}:evE T (.pop i a) ve σ=Res.on (muAt ve i) fun j=>Res.on (listAt σ j) fun _=>(rdB (evE T a ve σ)).bind (popR j):=rfl
theorem e_pvar {i:Nat}:evE T (.pvar i) ve σ=Res.on (muAt ve i) fun j=>Res.on (biterAt σ j) fun q=>if q.2≤q.1.length then Res.on (T.pv q.1 q.2) (pvR j q.1 σ) else .no:=rfl
theorem e_next {i:Nat}:evE T (.next i) ve σ=Res.on (muAt ve i) fun j=>Res.on (biterAt σ j) fun q=>nextR j q.1 q.2 σ:=rfl
theorem es_nil':evEs T .nil ve σ=.ok [] σ:=rfl
theorem es_cons' {e:ME} {es:MEs}:evEs T (.cons e es) ve σ=(evE T e ve σ).bind fun m σ=>Res.on m.val? fun v=>(evEs T es ve σ).bind fun vs σ=>.ok (v::vs) σ:=rfl
theorem t_tt:evT T .tt ve σ=.ok true σ:=rfl
theorem t_cmp {o:COp} {a b:ME}:evT T (.cmp o a b) ve σ=op2 (cmpV o) (evE T a ve σ) fun σ=>evE T b ve σ:=rfl
theorem t_and {a b:MT}:evT T (.and a b) ve σ=(evT T a ve σ).bind fun t σ=>if t then evT T b ve σ else .ok false σ:=rfl
theorem t_or {a b:MT}:evT T (.or a b) ve σ=(evT T a ve σ).bind fun t σ=>if t then .ok true σ else evT T b ve σ:=rfl
theorem t_not {a:MT}:evT T (.not a) ve σ=(evT T a ve σ).bind fun t σ=>.ok (!t) σ:=rfl
theorem t_tru {e:ME}:evT T (.tru e) ve σ=op1 truV (evE T e ve σ):=rfl
theorem xs_nil:exSs T .nil ve σ=.nx ve σ:=rfl
theorem xs_cons {s:MS} {r:MSs}:exSs T (.cons s r) ve σ=(exS T s ve σ).bind fun ve σ=>exSs T r ve σ:=rfl
theorem x_assign {i:Nat} {e:ME}:exS T (.assign i e) ve σ=(evE T e ve σ).toS ve fun m σ=>SRes.on m.val? fun v=>.nx (ve.set i (.val v)) σ:=rfl
theorem x_assignMut {i:Nat} {e:ME}:exS T (.assignMut i e) ve σ=(evE T e ve σ).toS ve fun m σ=>SRes.on m.val? fun v=>if canMut v then .nx (ve.set i (.mu σ.length)) (σ++[v]) else .no:=rfl
theorem x_unpack {is:List Nat} {e:ME}:exS T (.unpack is e) ve σ=(evE T e ve σ).toS ve fun m σ=>SRes.on (m.val?.bind AV.tup?) fun xs=>SRes.on (setAll ve is xs) fun ve=>.nx ve σ:=rfl
theorem x_multi {is:List (Nat × Bool)} {es:MEs}:exS T (.multi is es) ve σ=(evEs T es ve σ).toS ve fun vs σ=>if fits vs.length then SRes.on (layAll ve σ is vs) fun p=>.nx p.1 p.2 else .no:=rfl
theorem x_setitem {i:Nat} {k e:ME}:exS T (.setitem i k e) ve σ=(evE T e ve σ).toS ve fun m σ=>SRes.on m.val? fun v=>(rdB (evE T k ve σ)).toS ve fun x σ=>SRes.on (muAt ve i) fun j=>SRes.on ((σ[j]?).bind fun c=>setV c x v) fun c=>.nx ve (σ.set j c):=rfl
theorem x_augitem {i:Nat} {k e:ME}:exS T (.augitem i k e) ve σ=(rdB (evE T k ve σ)).toS ve fun x σ=>SRes.on (muAt ve i) fun j=>SRes.on (((σ[j]?).bind fun c=>idxV c x).bind AV.int?) fun a =>
      (rdB (evE T e ve σ)).toS ve fun y σ=>SRes.on y.int? fun b=>SRes.on ((σ[j]?).bind fun c=>setV c x (.int (a+b))) fun c=>.nx ve (σ.set j c):=rfl
theorem x_aug {o:BOp} {i:Nat} {e:ME}:exS T (.aug o i e) ve σ=SRes.on (((ve[i]?).bind MV.val?).bind AV.int?) fun a=>(rdB (evE T e ve σ)).toS ve fun y σ=>SRes.on y.int? fun b=>SRes.on (binV o (.int a) (.int b)) fun v=>.nx (ve.set i (.val v)) σ:=rfl
theorem x_append {i:Nat} {e:ME}:exS T (.append i e) ve σ=SRes.on (muAt ve i) fun j=>SRes.on (listAt σ j) fun _=>(evE T e ve σ).toS ve fun m σ=>SRes.on m.val? fun v=>SRes.on (listAt σ j) fun xs=>if fits xs.length then .nx ve (σ.set j (.list (xs++[v]))) else .no:=rfl
theorem x_while {t:MT} {b:MSs}:exS T (.while t b) ve σ=whileL (evT T t) (exSs T b) 16 ve σ:=rfl
theorem x_iff {t:MT} {b o:MSs}:exS T (.iff t b o) ve σ=(evT T t ve σ).toS ve fun c σ=>if c then exSs T b ve σ else exSs T o ve σ:=rfl
theorem x_ret {e:ME}:exS T (.ret e) ve σ=(rdB (evE T e ve σ)).toS ve fun v σ=>.ret v σ:=rfl
theorem x_brk:exS T .brk ve σ=.brk ve σ:=rfl
theorem x_try {b h:MSs}:exS T (.try b h) ve σ=(exSs T b ve σ).caught (exSs T h):=rfl
end
noncomputable def SRes.given (r:SRes):Option AV:=@SRes.casesOn (fun _=>Option AV) r (fun _ _=>some .none) (fun _ _=>none) (fun v _=>some v) (fun _ _=>none) none
theorem SRes.after_nx {ve:List MV} {σ:List AV} {f:List MV→List AV→SRes}:(SRes.nx ve σ).after f=f ve σ:=rfl
theorem SRes.after_brk {ve:List MV} {σ:List AV} {f:List MV→List AV→SRes}:(SRes.brk ve σ).after f=.nx ve σ:=rfl
theorem SRes.after_ret {v:AV} {σ:List AV} {f:List MV→List AV→SRes}:(SRes.ret v σ).after f=.ret v σ:=rfl
theorem SRes.step_nx {ve:List MV} {σ:List AV} {f:List MV→List AV→SRes}:(SRes.nx ve σ).step f=f ve σ:=rfl
theorem SRes.step_brk {ve:List MV} {σ:List AV} {f:List MV→List AV→SRes}:(SRes.brk ve σ).step f=.brk ve σ:=rfl
theorem SRes.step_ret {v:AV} {σ:List AV} {f:List MV→List AV→SRes}:(SRes.ret v σ).step f=.ret v σ:=rfl
theorem x_next {T:Tab} {ve:List MV} {σ:List AV} {i k:Nat} {b:List UInt8} {p:Nat} {z:UInt8} (hk:muAt ve k=some 0) (hb:biterAt σ 0=some (b,p)) (hz:b[p]?=some z):exS T (.assign i (.next k)) ve σ=.nx (ve.set i (.val (.int z.toNat))) (σ.set 0 (.biter b (p+1))):=by
  show (Res.on (muAt ve k) _).toS ve _=_
  rw [hk]
  show (Res.on (biterAt σ 0) _).toS ve _=_
  rw [hb]
  show (nextR 0 b p σ).toS ve _=_
  unfold nextR
  rw [hz]
  rfl
theorem x_stop {T:Tab} {ve:List MV} {σ:List AV} {i k:Nat} {b:List UInt8} {p:Nat} (hk:muAt ve k=some 0) (hb:biterAt σ 0=some (b,p)) (hz:b[p]?=none) (hp:p≤b.length):exS T (.assign i (.next k)) ve σ=.stop ve (σ.set 0 (.biter b (b.length+1))):=by
  show (Res.on (muAt ve k) _).toS ve _=_
  rw [hk]
  show (Res.on (biterAt σ 0) _).toS ve _=_
  rw [hb]
  show (nextR 0 b p σ).toS ve _=_
  unfold nextR
  rw [hz]
  show (if p≤b.length then Res.stop (σ.set 0 (.biter b (b.length+1))) else Res.no:Res MV).toS ve _=_
  rw [if_pos hp]
  rfl
theorem cmp_int {a b:Int}:cmpV .eq (.int a) (.int b)=some (a == b):=rfl
theorem cmp_list {a b:List AV}:cmpV .eq (.list a) (.list b)=avEq (.list a) (.list b):=rfl
theorem varV_val {v:AV}:varV (.val v)=some (.val v):=rfl
theorem varV_mu {j:Nat}:varV (.mu j)=some (.mu j):=rfl
theorem val_val {v:AV}:(MV.val v).val?=some v:=rfl
theorem mu_mu {j:Nat}:(MV.mu j).mu?=some j:=rfl
theorem int_int {i:Int}:(AV.int i).int?=some i:=rfl
theorem list_list {l:List AV}:(AV.list l).list?=some l:=rfl
theorem tup_tup {l:List AV}:(AV.tup l).tup?=some l:=rfl
theorem biter_biter {b:List UInt8} {p:Nat}:(AV.biter b p).biter?=some (b,p):=rfl
theorem rd_val {σ:List AV} {v:AV}:rd σ (.val v)=some v:=rfl
theorem rd_mu {σ:List AV} {i:Nat}:rd σ (.mu i)=σ[i]?:=rfl
theorem compL_ok {α:Type} {f:AV→List AV→Res (Option AV)} {σ:List AV} {g:α→AV} {q:α→Option AV}:∀ {l:List α} {acc:List AV},(∀ a∈l,f (g a) σ=.ok (q a) σ)→compL f (l.map g) acc σ=.ok (acc++l.filterMap q) σ
  | [],acc,_=>congrArg (Res.ok · σ) (List.append_nil acc).symm
  | a::l,acc,h=>by
    rw [List.map_cons,compL_cons,h a List.mem_cons_self,Res.bind_ok,compL_ok fun b hb=>h b (List.mem_cons_of_mem _ hb)]
    cases hq:q a <;> simp [hq]
theorem filterMap_if {α β:Type} (p:α→Bool) (h:α→β):∀ l:List α,l.filterMap (fun a=>if p a then some (h a) else none)=(l.filter p).map h
  | []=>rfl
  | a::l=>by
    have ih:=filterMap_if p h l
    cases hp:p a <;> simp [hp,ih]
theorem fits_le {n:Nat} (h:n≤1000000):fits n=true:=by simp [fits,h]
theorem small_le {n:Int} (h:n.natAbs < 2 ^ 62):small n=true:=by simp [small,h]
theorem ev_comp {α:Type} {T:Tab} {elt it:ME} {c:MT} {ve:List MV} {σ:List AV} {x:AV} {g:α→AV} {l:List α} (p:α→Bool) (h:α→AV) (hit:evE T it ve σ=.ok (.val x) σ) (he:elemsC x=some (l.map g)) (hf:l.length≤1000000)
    (hc:∀ a∈l,evT T c (ve++[.val (g a)]) σ=.ok (p a) σ) (hh:∀ a∈l,p a=true→evE T elt (ve++[.val (g a)]) σ=.ok (.val (h a)) σ) :
    evE T (.comp elt it c) ve σ=.ok (.val (.list ((l.filter p).map h))) σ:=by
  show (evE T it ve σ).bind _=_
  rw [hit]
  show Res.on (elemsC x) _=_
  rw [he]
  show (if fits (l.map g).length=true then _ else _)=_
  rw [List.length_map,fits_le hf]
  show (compL _ _ [] σ).bind _=_
  rw [compL_ok (q:=fun a=>if p a then some (h a) else none)]
  · rw [List.nil_append,filterMap_if]
    rfl
  · intro a ha
    show ((evT T c (ve++[.val (g a)]) σ).bind _).calm=_
    rw [hc a ha]
    cases hp:p a with
    | false=>rfl
    | true =>
      show ((evE T elt (ve++[.val (g a)]) σ).bind _).calm=_
      rw [hh a ha hp]
      rfl
theorem ev_comp_tt {α:Type} {T:Tab} {elt it:ME} {ve:List MV} {σ:List AV} {x:AV} {g:α→AV} {l:List α} (h:α→AV) (hit:evE T it ve σ=.ok (.val x) σ) (he:elemsC x=some (l.map g)) (hf:l.length≤1000000)
    (hh:∀ a∈l,evE T elt (ve++[.val (g a)]) σ=.ok (.val (h a)) σ) :
    evE T (.comp elt it .tt) ve σ=.ok (.val (.list (l.map h))) σ:=by
  have:=ev_comp (T:=T) (elt:=elt) (c:=.tt) (fun _=>true) h hit he hf (fun a _=>rfl) (fun a ha _=>hh a ha)
  rw [this,List.filter_eq_self.mpr (fun _ _=>rfl)]
theorem forL_rel {α β:Type} {f:AV→List MV→List AV→SRes} {g:α→AV} {step:β→α→β} (R:β→List MV→List AV→Prop):∀ {l:List α},(∀ b a ve σ,a∈l→R b ve σ→∃ ve' σ',f (g a) ve σ=.nx ve' σ'∧R (step b a) ve' σ') →
    ∀ {b:β} {ve:List MV} {σ:List AV},R b ve σ→∃ ve' σ',forL f (l.map g) ve σ=.nx ve' σ'∧R (l.foldl step b) ve' σ'
  | [],_,b,ve,σ,r=>⟨ve,σ,rfl,r⟩
  | a::l,h,b,ve,σ,r=>by
    obtain ⟨ve',σ',e,r'⟩:=h b a ve σ List.mem_cons_self r
    obtain ⟨ve2,σ2,e2,r2⟩:=forL_rel R (l:=l) (fun b a ve σ ha=>h b a ve σ (List.mem_cons_of_mem _ ha)) r'
    exact ⟨ve2,σ2,by rw [List.map_cons,forL_cons,e]; exact e2,r2⟩
noncomputable def loopF (T:Tab) (is:List Nat) (body:MSs) (x:AV) (ve:List MV) (σ:List AV):SRes:=SRes.on (bindItem ve is x) fun ve=>exSs T body ve σ
theorem forr_eq {T:Tab} {is:List Nat} {it:ME} {body o:MSs} {ve:List MV} {σ σ':List AV} {v:AV} {xs:List AV} (hit:evE T it ve σ=.ok (.val v) σ') (he:elemsF is v=some xs) (hf:xs.length≤1000000):exS T (.forr is it body o) ve σ=(forL (loopF T is body) xs ve σ').after (exSs T o):=by
  show (evE T it ve σ).toS ve _=_
  rw [hit]
  show SRes.on (elemsF is v) _=_
  rw [he]
  show (if fits xs.length=true then _ else _)=_
  rw [fits_le hf]
  rfl
theorem forr_nx {T:Tab} {is:List Nat} {it:ME} {body o:MSs} {ve ve':List MV} {σ σ' σ'':List AV} {v:AV} {xs:List AV} (hit:evE T it ve σ=.ok (.val v) σ') (he:elemsF is v=some xs) (hf:xs.length≤1000000)
    (h:forL (loopF T is body) xs ve σ'=.nx ve' σ''):exS T (.forr is it body o) ve σ=exSs T o ve' σ'':=(forr_eq hit he hf).trans (congrArg (SRes.after · (exSs T o)) h)
theorem forr_brk {T:Tab} {is:List Nat} {it:ME} {body o:MSs} {ve ve':List MV} {σ σ' σ'':List AV} {v:AV} {xs:List AV} (hit:evE T it ve σ=.ok (.val v) σ') (he:elemsF is v=some xs) (hf:xs.length≤1000000)
    (h:forL (loopF T is body) xs ve σ'=.brk ve' σ''):exS T (.forr is it body o) ve σ=.nx ve' σ'':=(forr_eq hit he hf).trans (congrArg (SRes.after · (exSs T o)) h)
theorem forr_ret {T:Tab} {is:List Nat} {it:ME} {body o:MSs} {ve:List MV} {σ σ' σ'':List AV} {v w:AV} {xs:List AV} (hit:evE T it ve σ=.ok (.val v) σ') (he:elemsF is v=some xs) (hf:xs.length≤1000000)
    (h:forL (loopF T is body) xs ve σ'=.ret w σ''):exS T (.forr is it body o) ve σ=.ret w σ'':=(forr_eq hit he hf).trans (congrArg (SRes.after · (exSs T o)) h)
theorem enum_nx {T:Tab} {i j:Nat} {it:ME} {body:MSs} {ve ve':List MV} {σ σ' σ'':List AV} {xs:List AV} (hit:evE T it ve σ=.ok (.val (.list xs)) σ') (hf:xs.length≤1000000)
    (h:forL (loopF T [i,j] body) (numbered 0 xs) ve σ'=.nx ve' σ''):exS T (.forEnum i j it body) ve σ=.nx ve' σ'':=by
  show (evE T it ve σ).toS ve _=_
  rw [hit]
  show (if fits xs.length=true then (forL (loopF T [i,j] body) (numbered 0 xs) ve σ').onlyNx else _)=_
  rw [fits_le hf,h]
  rfl
theorem upTo_zero (n:Nat):upTo 0 n=(List.range n).map fun (i:Nat)=>AV.int i:=by
  unfold upTo
  simp
theorem elems_range {n:Nat} (h:n < 2 ^ 62):elems (.range 0 n)=some ((List.range n).map fun (i:Nat)=>AV.int i):=by
  have h1:small 0=true:=rfl
  have h2:small (n:Int)=true:=by unfold small; exact decide_eq_true (by omega)
  show (grd (small 0 && small n) (upTo 0 n)).or _=_
  rw [h1,h2,upTo_zero]
  rfl
theorem avEqs_refl {α:Type} {f:AV→AV→Option Bool} {g:α→AV} {l:List α} (h:∀ a∈l,f (g a) (g a)=some true):avEqs f (l.map g) (l.map g)=some true:=by
  induction l with
  | nil=>rfl
  | cons a l ih =>
    show ((f (g a) (g a)).bind fun b=>(avEqs f (l.map g) (l.map g)).bind fun c=>some (b && c))=_
    rw [h a List.mem_cons_self,ih fun b hb=>h b (List.mem_cons_of_mem _ hb)]
    rfl
theorem avEqN_list {α:Type} {n:Nat} {g:α→AV} {l:List α} (h:∀ a∈l,avEqN n (g a) (g a)=some true):avEqN (n+1) (.list (l.map g)) (.list (l.map g))=some true:=by
  show (if (l.map g).length=(l.map g).length then avEqs (avEqN n) (l.map g) (l.map g) else some false).or _=_
  rw [if_pos rfl,avEqs_refl h]
  rfl
theorem avEqN_int (n:Nat) (i:Int):avEqN n (.int i) (.int i)=some true:=by
  cases n with
  | zero=>exact congrArg (fun b=>(some b).or none) (beq_self_eq_true i)
  | succ n=>exact congrArg (fun b=>Option.or (some b) _) (beq_self_eq_true i)
theorem avEqN_str (n:Nat) (s:Str):avEqN n (.str s) (.str s)=some true:=by
  cases n with
  | zero=>exact congrArg (fun b=>Option.or none (some b)) (beq_self_eq_true s)
  | succ n=>exact congrArg (fun b=>Option.or (Option.or none (some b)) _) (beq_self_eq_true s)
theorem intsOf_map (l:List Int):intsOf (l.map .int)=some l:=by
  induction l with
  | nil=>rfl
  | cons a l ih =>
    show (intsOf (l.map .int)).map (a::·)=_
    rw [ih]
    rfl
theorem strsOf_map (l:List Str):strsOf (l.map .str)=some l:=by
  induction l with
  | nil=>rfl
  | cons a l ih =>
    show (strsOf (l.map .str)).map (a::·)=_
    rw [ih]
    rfl
theorem b_add (a b:Int):binV .add (.int a) (.int b)=some (.int (a+b)):=rfl
theorem b_sub (a b:Int):binV .sub (.int a) (.int b)=some (.int (a - b)):=rfl
theorem or_some {α:Type} {o o':Option α} {a:α} (e:o=some a):o.or o'=some a:=by subst e; rfl
theorem or_right {α:Type} {o o':Option α} {a:α} (e:o=none) (e':o'=some a):o.or o'=some a:=by subst e; exact e'
theorem b_mul {a b:Int} (h:small b=true):binV .mul (.int a) (.int b)=some (.int (a * b)):=or_some (grd_pos h)
theorem nz_dec {b:Int} (h:b≠0):(!decide (b=0))=true:=by rw [decide_eq_false h]; rfl
theorem b_fdiv {a b:Int} (h0:b≠0) (h:small b=true):binV .fdiv (.int a) (.int b)=some (.int (a.fdiv b)):=grd_pos (Bool.and_eq_true_iff.mpr ⟨nz_dec h0,h⟩)
theorem b_mod {a b:Int} (h0:b≠0):binV .mod (.int a) (.int b)=some (.int (a.fmod b)):=or_some (grd_pos (nz_dec h0))
theorem pow_cond {a b:Int} (h0:0≤b) (h1:b≤1000) (h:small a=true):(decide (0≤b) && decide (b≤1000) && small a)=true:=Bool.and_eq_true_iff.mpr ⟨Bool.and_eq_true_iff.mpr ⟨decide_eq_true h0,decide_eq_true h1⟩,h⟩
theorem b_pow {a b:Int} (h0:0≤b) (h1:b≤1000) (h:small a=true):binV .pow (.int a) (.int b)=some (.int (a ^ b.toNat)):=grd_pos (pow_cond h0 h1 h)
theorem b_shl {a b:Int} (h0:0≤b) (h1:b≤1000) (h:small a=true):binV .shl (.int a) (.int b)=some (.int (a * 2 ^ b.toNat)):=grd_pos (pow_cond h0 h1 h)
theorem b_band (a b:Int):binV .band (.int a) (.int b)=some (.int (Builtin.bitAnd a b)):=rfl
theorem b_bor (a b:Int):binV .bor (.int a) (.int b)=some (.int (Builtin.bitOr a b)):=rfl
theorem b_bxor (a b:Int):binV .bxor (.int a) (.int b)=some (.int (Builtin.bitXor a b)):=rfl
theorem b_addl {a b:List AV} (h:(a++b).length≤1000000):binV .add (.list a) (.list b)=some (.list (a++b)):=grd_pos (fits_le h)
theorem b_adds {a b:Str} (h:(a++b).length≤1000000):binV .add (.str a) (.str b)=some (.str (a++b)):=or_some (grd_pos (fits_le h))
theorem b_mull {xs:List AV} {n:Nat} (h:n≤1000000) (h2:n * xs.length≤1000000):binV .mul (.list xs) (.int n)=some (.list (List.replicate n xs).flatten) :=
  or_some (grd_pos (Bool.and_eq_true_iff.mpr ⟨fits_le h,fits_le h2⟩))
theorem place_nat {n i:Nat} (h:i < n):place n (i:Int)=some i:=by
  unfold place
  rw [if_pos (by omega),if_pos (by omega),Int.toNat_natCast]
theorem idx_at {xs:List AV} {i:Nat} {v:AV} (hf:xs.length≤1000000) (h:xs[i]?=some v):(if fits xs.length=true then (place xs.length (i:Int)).bind fun n=>xs[n]? else none)=some v:=by
  rw [if_pos (fits_le hf),place_nat (List.getElem?_eq_some_iff.mp h).1]
  exact h
theorem idx_list {xs:List AV} {i:Nat} {v:AV} (hf:xs.length≤1000000) (h:xs[i]?=some v):idxV (.list xs) (.int (i:Nat))=some v:=or_some (idx_at hf h)
theorem idx_tup {xs:List AV} {i:Nat} {v:AV} (hf:xs.length≤1000000) (h:xs[i]?=some v):idxV (.tup xs) (.int (i:Nat))=some v:=or_right rfl (or_some (idx_at hf h))
theorem p_range {b:Int} (h:small b=true):p1V .range (.int b)=some (.range 0 b):=grd_pos h
theorem p_len {xs:List AV} (h:xs.length≤1000000):p1V .len (.list xs)=some (.int xs.length):=grd_pos (fits_le h)
theorem and_two_pow (n i:Nat):n &&& 2 ^ i=if n.testBit i then 2 ^ i else 0:=by
  apply Nat.eq_of_testBit_eq
  intro j
  rw [Nat.testBit_and,Nat.testBit_two_pow]
  by_cases q:i=j
  · subst q
    cases h:n.testBit i <;> simp []
  · rw [decide_eq_false q,Bool.and_false]
    split
    · rw [Nat.testBit_two_pow,decide_eq_false q]
    · simp
theorem small_nat {n:Nat} (h:n < 2 ^ 62):small (n:Int)=true:=by
  apply small_le
  rwa [Int.natAbs_natCast]
theorem set_dI {ks:List Int} {vs:List AV} {k:Int} {v:AV} (h:ks.length≤1000000):setV (.dictI ks vs) (.int k) v=some (.dictI (putKey k v ks vs).1 (putKey k v ks vs).2):=or_right rfl (or_some (grd_pos (fits_le h)))
theorem set_dS {ks:List Str} {vs:List AV} {k:Str} {v:AV} (h:ks.length≤1000000):setV (.dictS ks vs) (.str k) v=some (.dictS (putKey k v ks vs).1 (putKey k v ks vs).2):=or_right rfl (or_right rfl (grd_pos (fits_le h)))
theorem set_list {xs:List AV} {i:Nat} {v:AV} (h:xs.length≤1000000) (hi:i < xs.length):setV (.list xs) (.int (i:Nat)) v=some (.list (xs.set i v)):=or_some (by
  show (if fits xs.length=true then (place xs.length (i:Int)).map fun n=>AV.list (xs.set n v) else none)=_
  rw [if_pos (fits_le h),place_nat hi]
  rfl)
theorem isin_strs' {w:Str} {l:List Str}:cmpV .isin (.str w) (.list (l.map .str))=some (l.contains w):=by
  have h:(strsOf (l.map .str)).map (·.contains w)=some (l.contains w):=by rw [strsOf_map]; rfl
  show ((strsOf (l.map .str)).map (·.contains w)).or _=_
  rw [h]
  rfl
theorem fdiv_nat (a b:Nat):(a:Int).fdiv (b:Int)=((a / b:Nat):Int):=by
  rw [Int.fdiv_eq_ediv_of_nonneg _ (Int.natCast_nonneg b)]
  exact (Int.natCast_ediv a b).symm
theorem fmod_nat (a b:Nat):(a:Int).fmod (b:Int)=((a % b:Nat):Int):=by
  rw [Int.fmod_eq_emod_of_nonneg _ (Int.natCast_nonneg b)]
  exact (Int.natCast_emod a b).symm
end Mine
namespace Mine
open PySem PyProof.Rows PySem.StrLaws PySem.Builtin.Str
noncomputable def sepL:List Nat:=[44,32]
noncomputable def sepS:Str:=Str.ofString ", "
theorem sepS_cps:sepS.cps.toList=sepL:=by decide +kernel
theorem sepS_len:sepS.length=2:=by decide +kernel
noncomputable def joinL:List (List Nat)→List Nat
  | []=>[]
  | [m]=>m
  | m::n::r=>m++sepL++joinL (n::r)
noncomputable def cutsL:Nat→List (List Nat)→List Nat
  | _,[]=>[]
  | _,[_]=>[]
  | p,m::n::r=>(p+m.length)::cutsL (p+m.length+2) (n::r)
theorem joinL_one {m:List Nat}:joinL [m]=m:=rfl
theorem joinL_cons {m n:List Nat} {r:List (List Nat)}:joinL (m::n::r)=m++sepL++joinL (n::r):=rfl
theorem cutsL_one {p:Nat} {m:List Nat}:cutsL p [m]=[]:=rfl
theorem cutsL_cons {p:Nat} {m n:List Nat} {r:List (List Nat)}:cutsL p (m::n::r)=(p+m.length)::cutsL (p+m.length+2) (n::r):=rfl
theorem parts_nil {s:Str} {i:Nat}:partsFrom s 2 i []=[strSub s i s.length]:=rfl
theorem parts_cons {s:Str} {i c:Nat} {r:List Nat}:partsFrom s 2 i (c::r)=strSub s i c::partsFrom s 2 (c+2) r:=rfl
theorem cutsL_len:∀ (p:Nat) (ms:List (List Nat)),(cutsL p ms).length=ms.length - 1
  | _,[]=>rfl
  | _,[_]=>rfl
  | p,m::n::r=>by
    have:=cutsL_len (p+m.length+2) (n::r)
    simp [cutsL_cons,this]
theorem occ_skip (s:Str) (limit:Nat):∀ (k i:Nat) (l:List Nat) (st:Array Nat × Nat),(∀ j,i≤j→j < i+k→subAt s sepS j=false) →
    forIn (List.range' i k++l) st (occBody s sepS s.length limit)=forIn l st (occBody s sepS s.length limit)
  | 0,_,_,_,_=>rfl
  | k+1,i,l,st,h=>by
    rw [List.range'_succ,List.cons_append,List.forIn_cons]
    unfold occBody
    rw [if_neg (fun q=>by rw [h i (Nat.le_refl _) (by omega)] at q; cases q.2)]
    exact occ_skip s limit k (i+1) l st fun j h1 h2=>h j (by omega) (by omega)
theorem sub_no {s:Str} {j:Nat} {c:Nat} {r:List Nat} (e:s.cps.toList.drop j=c::r) (h:c≠44):subAt s sepS j=false:=by
  rw [subAt_eq,sepS_cps,sepS_len,e]
  cases r <;> simp [sepL,h]
theorem sub_none {s:Str} {j:Nat} (e:s.cps.toList.drop j=[]):subAt s sepS j=false:=by
  rw [subAt_eq,sepS_cps,sepS_len,e]
  rfl
theorem drop_in {L m r:List Nat} {i j:Nat} (e:L.drop i=m++r) (h1:i≤j) (h2:j < i+m.length):∃ c r',c∈m∧L.drop j=c::r':=by
  obtain ⟨d,rfl⟩:=Nat.exists_eq_add_of_le h1
  have hd:d < m.length:=by omega
  refine ⟨m[d],(m++r).drop (d+1),List.getElem_mem hd,?_⟩
  rw [← List.drop_drop,e,List.drop_eq_getElem_cons (by simp; omega)]
  rw [List.getElem_append_left hd]
theorem occ_e1 {S i m j:Nat} (h:S=i+m+2+j):S+1 - i=m+((S+1 - (i+m+2))+2):=by
  subst h
  have a:i+m+2+j+1 - (i+m+2)=j+1:=Nat.add_sub_cancel_left (n:=i+m+2) (m:=j+1)
  have b:i+m+2+j+1=i+(m+(j+1+2)):=by omega
  rw [a,b,Nat.add_sub_cancel_left]
theorem occ_l1 {i j:Nat} (h:i+1≤j) (h2:j < i+1+1):j=i+1:=by omega
theorem occ_scan (s:Str) (limit:Nat):∀ (rest:List (List Nat)) (m:List Nat) (i free:Nat) (acc:Array Nat),i≤s.length→s.cps.toList.drop i=joinL (m::rest)→free≤i→acc.size+rest.length < limit→(∀ n∈m::rest,44 ∉ n) →
    (forIn (List.range' i (s.length+1 - i)) (acc,free) (occBody s sepS s.length limit)).run.fst.toList=acc.toList++cutsL i (m::rest)
  | [],m,i,free,acc,hi,e,hf,hl,hn=>by
    have len:s.length=i+m.length:=by
      have:=congrArg List.length e
      simp only [List.length_drop,joinL_one,joinL_cons] at this
      have h2:s.length=s.cps.toList.length:=by simp [Str.length]
      omega
    have:=occ_skip s limit (s.length+1 - i) i [] (acc,free) fun j h1 h2=>by
      by_cases hj:j < i+m.length
      · obtain ⟨c,r',hc,e'⟩:=drop_in (r:=[]) (by rw [e]; simp [joinL_one,joinL_cons]) h1 hj
        exact sub_no e' fun q=>hn m List.mem_cons_self (q ▸ hc)
      · exact sub_none (by apply List.drop_of_length_le; have h2:s.length=s.cps.toList.length:=by simp [Str.length]
                           omega)
    rw [List.append_nil] at this
    rw [this]
    simp [cutsL_one,cutsL_cons]
  | n::rest,m,i,free,acc,hi,e,hf,hl,hn=>by
    have h2:s.length=s.cps.toList.length:=by simp [Str.length]
    have len:s.length=i+m.length+2+(joinL (n::rest)).length:=by
      have:=congrArg List.length e
      simp only [List.length_drop,joinL_one,joinL_cons,List.length_append,sepL,List.length_cons,List.length_nil] at this
      omega
    have sp:List.range' i (s.length+1 - i)=List.range' i m.length++(i+m.length)::(i+m.length+1)::List.range' (i+m.length+2) (s.length+1 - (i+m.length+2)):=by
      have e1:s.length+1 - i=m.length+((s.length+1 - (i+m.length+2))+2):=occ_e1 len
      rw [e1,← List.range'_append_1,List.range'_succ,List.range'_succ]
    rw [sp,occ_skip s limit m.length i _ (acc,free) fun j h1 h2=>by
      obtain ⟨c,r',hc,e'⟩:=drop_in (r:=sepL++joinL (n::rest)) (by rw [e]; simp [joinL_one,joinL_cons]) h1 h2
      exact sub_no e' fun q=>hn m List.mem_cons_self (q ▸ hc)]
    have d1:s.cps.toList.drop (i+m.length)=sepL++joinL (n::rest):=by
      rw [← List.drop_drop,e,joinL_cons,List.append_assoc,List.drop_left]
    have d2:s.cps.toList.drop (i+m.length+1)=32::joinL (n::rest):=by
      rw [← List.drop_drop,d1]; rfl
    have d3:s.cps.toList.drop (i+m.length+2)=joinL (n::rest):=by
      rw [← List.drop_drop,d1]; rfl
    have yes:subAt s sepS (i+m.length)=true:=by
      rw [subAt_eq,sepS_cps,sepS_len,d1]
      rfl
    rw [List.forIn_cons]
    have b1:occBody s sepS s.length limit (i+m.length) (acc,free)=pure (ForInStep.yield (acc.push (i+m.length),i+m.length+2)):=by
      unfold occBody
      rw [if_pos ⟨⟨⟨Nat.lt_of_le_of_lt (Nat.le_add_right _ _) hl,Nat.le_trans hf (Nat.le_add_right _ _)⟩,by rw [sepS_len,len]; exact Nat.le_add_right _ _⟩,yes⟩,sepS_len]
    rw [b1]
    show (forIn ((i+m.length+1)::List.range' (i+m.length+2) (s.length+1 - (i+m.length+2))) (acc.push (i+m.length),i+m.length+2) (occBody s sepS s.length limit)).run.fst.toList=_
    rw [show ((i+m.length+1)::List.range' (i+m.length+2) (s.length+1 - (i+m.length+2)))=List.range' (i+m.length+1) 1++List.range' (i+m.length+2) (s.length+1 - (i+m.length+2)) from rfl]
    rw [occ_skip s limit 1 (i+m.length+1) _ _ fun j h1 h2=>by
      have:j=i+m.length+1:=occ_l1 h1 h2
      subst this
      exact sub_no d2 (by decide)]
    rw [occ_scan s limit rest n (i+m.length+2) (i+m.length+2) (acc.push (i+m.length)) (by omega) d3 (Nat.le_refl _) (by rw [Array.size_push,Nat.add_assoc,Nat.add_comm 1]; exact hl) fun x hx=>hn x (List.mem_cons_of_mem _ hx)]
    simp [cutsL_one,cutsL_cons]
noncomputable def strOfL (l:List Nat):Str:=⟨l.toArray⟩
theorem glued_L:∀ (ns:List Str),(glued sepS ns).cps.toList=joinL (ns.map (·.cps.toList)):=by
  intro ns
  rw [glued_eq_join]
  induction ns with
  | nil=>rfl
  | cons n r ih =>
    cases r with
    | nil=>rfl
    | cons m r =>
      rw [show Str.join sepS (n::m::r)=n++sepS++Str.join sepS (m::r) from rfl]
      simp only [Str.cps_append,Array.toList_append,ih,sepS_cps,List.map_cons,joinL_one,joinL_cons]
theorem partsFrom_L (s:Str):∀ (rest:List (List Nat)) (m:List Nat) (i:Nat),s.cps.toList.drop i=joinL (m::rest)→(partsFrom s 2 i (cutsL i (m::rest))).map (·.cps.toList)=m::rest
  | [],m,i,e=>by
    simp only [cutsL_one,cutsL_cons,parts_nil,parts_cons,List.map_cons,List.map_nil,strSub,joinL_one,joinL_cons] at e ⊢
    rw [Array.toList_extract]
    simp only [List.extract_eq_take_drop]
    rw [e]
    congr 1
    apply List.take_of_length_le
    have:=congrArg List.length e
    have h2:s.length=s.cps.toList.length:=by simp [Str.length]
    simp only [List.length_drop] at this
    omega
  | n::rest,m,i,e=>by
    simp only [cutsL_one,cutsL_cons,parts_nil,parts_cons,List.map_cons,strSub]
    rw [joinL_cons] at e
    rw [partsFrom_L s rest n (i+m.length+2) (by rw [Nat.add_assoc,← List.drop_drop,e,← List.drop_drop,List.append_assoc,List.drop_left]; rfl)]
    congr 1
    rw [Array.toList_extract]
    simp only [List.extract_eq_take_drop]
    rw [e,Nat.add_sub_cancel_left,List.append_assoc,List.take_left]
theorem map_cps_inj:∀ {a b:List Str},a.map (·.cps.toList)=b.map (·.cps.toList)→a=b
  | [],[],_=>rfl
  | [],_::_,h=>by cases h
  | _::_,[],h=>by cases h
  | x::a,y::b,h=>by
    simp only [List.map_cons,List.cons.injEq] at h
    rw [map_cps_inj h.2,Str.ext' (Array.toList_inj.mp h.1)]
theorem parts_glued {ns:List Str} (hne:ns≠[]) (hn:∀ n∈ns,44 ∉ n.cps.toList) :
    (occurrences (glued sepS ns) sepS 0 (glued sepS ns).length ((glued sepS ns).length+1)).length=ns.length - 1 ∧
    partsBetween (glued sepS ns) (occurrences (glued sepS ns) sepS 0 (glued sepS ns).length ((glued sepS ns).length+1)) sepS.length=ns:=by
  obtain ⟨m,r,e⟩:∃ m r,ns.map (·.cps.toList)=m::r:=by
    cases ns with
    | nil=>exact absurd rfl hne
    | cons n r=>exact ⟨_,_,rfl⟩
  have gl:=glued_L ns
  rw [e] at gl
  have lim:r.length < (glued sepS ns).length+1:=by
    have h2:(glued sepS ns).length=(glued sepS ns).cps.toList.length:=by simp [Str.length]
    rw [h2,gl]
    have key:∀ (r:List (List Nat)) (m:List Nat),r.length≤(joinL (m::r)).length:=by
      intro r
      induction r with
      | nil=>intro m; exact Nat.zero_le _
      | cons x r ih =>
        intro m
        have:=ih x
        simp only [joinL_one,joinL_cons,List.length_append,List.length_cons,sepL] at this ⊢
        omega
    have:=key r m
    omega
  have occ:occurrences (glued sepS ns) sepS 0 (glued sepS ns).length ((glued sepS ns).length+1)=cutsL 0 (m::r):=by
    rw [occ_eq]
    have:=occ_scan (glued sepS ns) ((glued sepS ns).length+1) r m 0 0 #[] (Nat.zero_le _) gl (Nat.le_refl _) (by simpa using lim) (by
      rw [← e]
      intro n hn'
      obtain ⟨x,hx,rfl⟩:=List.mem_map.mp hn'
      exact hn x hx)
    simpa using this
  rw [occ]
  constructor
  · rw [cutsL_len,← e,List.length_map]
  · rw [partsBetween_eq,sepS_len]
    apply map_cps_inj
    rw [partsFrom_L _ r m 0 gl,e]
theorem split_glued {ns:List Str} (h2:2≤ns.length) (h3:ns.length≤100) (hn:∀ n∈ns,44 ∉ n.cps.toList) (hlen:∀ n∈ns,n.length≤100):p2V .split (.str (glued sepS ns)) (.str sepS)=some (.list (ns.map .str)):=by
  obtain ⟨p1,p2⟩:=parts_glued (ns:=ns) (by intro q; subst q; cases h2) hn
  have sz:=size_glued sepS ns
  have sum:(ns.map (·.length)).sum≤100 * ns.length:=by
    clear p1 p2 sz h2 h3 hn
    induction ns with
    | nil=>exact Nat.le_refl _
    | cons n r ih =>
      have:=ih fun x hx=>hlen x (List.mem_cons_of_mem _ hx)
      have:=hlen n List.mem_cons_self
      simp only [List.map_cons,List.sum_cons,List.length_cons]
      omega
  rw [sepS_len] at sz
  have k1:fits (glued sepS ns).length=true:=fits_le (by omega)
  have k2:decide ((glued sepS ns).length < sepS.length)=false:=by
    rw [sepS_len]
    exact decide_eq_false (by omega)
  have k3:decide (Builtin.Str.strKind (glued sepS ns) < Builtin.Str.strKind sepS)=false:=by
    refine decide_eq_false ?_
    rw [show Builtin.Str.strKind sepS=1 by decide +kernel]
    unfold Builtin.Str.strKind
    split
    · omega
    · split <;> omega
  have k4:(sepS.length == 0)=false:=by rw [sepS_len]; rfl
  have k5:(occurrences (glued sepS ns) sepS 0 (glued sepS ns).length ((glued sepS ns).length+1)).isEmpty=false:=by
    cases h:occurrences (glued sepS ns) sepS 0 (glued sepS ns).length ((glued sepS ns).length+1) with
    | nil=>rw [h] at p1; simp at p1; omega
    | cons _ _=>rfl
  have k6:fits ns.length=true:=fits_le (by omega)
  show grd (splitOk (glued sepS ns) sepS) (AV.list _)=_
  rw [p2]
  refine grd_pos ?_
  unfold splitOk
  rw [p2,k1,k2,k3,k4,k5,k6]
  rfl
noncomputable def wordS (b:Nat):Str:=(flagText (2 ^ b)).elim (baseText "0x" 16 (2 ^ b)) Str.ofString
theorem word_ok:∀ b,b < 33→44 ∉ (wordS b).cps.toList∧(wordS b).length≤30:=by
  have h:(List.range 33).all (fun b=>!(wordS b).cps.toList.contains 44 && decide ((wordS b).length≤30))=true:=by kernel_rfl
  intro b hb
  have:=List.all_eq_true.mp h b (List.mem_range.mpr hb)
  simp only [Bool.and_eq_true,Bool.not_eq_true',decide_eq_true_eq] at this
  exact ⟨by have:=this.1; simpa using this,this.2⟩
theorem word_inj:∀ a b,a < 32→b < 32→wordS a=wordS b→a=b:=by
  have h:(List.range 32).all (fun a=>(List.range a).all fun b=>!(wordS a == wordS b))=true:=by kernel_rfl
  have key:∀ a b,a < 32→b < a→wordS a≠wordS b:=by
    intro a b ha hb e
    have:=List.all_eq_true.mp (List.all_eq_true.mp h a (List.mem_range.mpr ha)) b (List.mem_range.mpr hb)
    simp [e] at this
  intro a b ha hb e
  rcases Nat.lt_trichotomy a b with q | q | q
  · exact absurd e.symm (key b a hb q)
  · exact q
  · exact absurd e (key a b ha q)
noncomputable def strIs (r:Res MV) (s:Str):Bool:=@Res.casesOn MV (fun _=>Bool) r (fun m σ=>(m.val?.bind AV.str?).elim false fun t=>@List.casesOn AV (fun _=>Bool) σ (t == s) fun _ _=>false) (fun _=>false) false
theorem strIs_inv {r:Res MV} {s:Str} (h:strIs r s=true):r=.ok (.val (.str s)) []:=by
  cases r with
  | ok m σ =>
    have h:((m.val?.bind AV.str?).elim false fun t=>@List.casesOn AV (fun _=>Bool) σ (t == s) fun _ _=>false)=true:=h
    cases hm:m.val?.bind AV.str? with
    | none=>rw [hm] at h; exact nomatch h
    | some t =>
      rw [hm] at h
      refine obC hm fun v hv ht=>?_
      cases σ with
      | nil=>rw [MV.val?_inv hv,AV.str?_inv ht,beq_iff_eq.mp (show (t == s)=true from h)]
      | cons _ _=>exact nomatch h
  | stop _=>exact nomatch h
  | no=>exact nomatch h
noncomputable def namesV:List AV:=["OPTIMIZED","NEWLOCALS","VARARGS","VARKEYWORDS","NESTED","GENERATOR","NOFREE","COROUTINE","ITERABLE_COROUTINE","ASYNC_GENERATOR"].map fun s=>.str (Str.ofString s)
noncomputable def wordE:ME:=.ite (.cmp .lt (.var 2) (.cst (.int (10)))) (.idx (.var 1) (.var 2)) (.bin .add (.bin .add (.cst (.str (Str.ofString "0x"))) (.idx (.cst (.str (Str.ofString "1248"))) (.bin .mod (.var 2) (.cst (.int (4)))))) (.bin .mul (.cst (.str (Str.ofString "0"))) (.bin .fdiv (.var 2) (.cst (.int (4))))))
theorem word_ev (T:Tab) (X:AV):∀ b,b < 32→evE T wordE ([.val X,.val (.list namesV)]++[.val (.int (b:Nat))]) []=.ok (.val (.str (wordS b))) []:=by
  have h:(List.range 32).all (fun b=>strIs (evE T wordE ([.val X,.val (.list namesV)]++[.val (.int (b:Nat))]) []) (wordS b))=true:=by kernel_rfl
  intro b hb
  exact strIs_inv (List.all_eq_true.mp h b (List.mem_range.mpr hb))
theorem fn_eq {n:Nat} {f:Fn} {xs:List AV} (hf:f.no≠2) (ha:argOk f xs=true):(tabN (n+1)).fn f xs=runFn (tabN n) (infoOf f).body (xs.map .val++List.replicate ((infoOf f).k - xs.length) .unset):=by
  show (if f.no=2 then mkV xs else if argOk f xs then runFn (tabN n) (infoOf f).body (xs.map .val++List.replicate ((infoOf f).k - xs.length) .unset) else none)=_
  rw [if_neg hf,if_pos ha]
theorem c_words (n:Nat) {bs:List Nat} (hb:∀ b∈bs,b < 32) (hl:bs.length≤1000):(tabN (n+1)).fn .words [.list (bs.map fun (b:Nat)=>AV.int b)]=some (.list (bs.map fun b=>.str (wordS b))):=by
  rw [fn_eq (by decide) rfl]
  show runFn (tabN n) bWords [.val (.list (bs.map fun (b:Nat)=>AV.int b)),.unset]=_
  generalize tabN n=T
  have h1:exS T (.assign 1 (.list (.cons (.cst (.str (Str.ofString "OPTIMIZED"))) (.cons (.cst (.str (Str.ofString "NEWLOCALS"))) (.cons (.cst (.str (Str.ofString "VARARGS"))) (.cons (.cst (.str (Str.ofString "VARKEYWORDS"))) (.cons (.cst (.str (Str.ofString "NESTED"))) (.cons (.cst (.str (Str.ofString "GENERATOR"))) (.cons (.cst (.str (Str.ofString "NOFREE"))) (.cons (.cst (.str (Str.ofString "COROUTINE"))) (.cons (.cst (.str (Str.ofString "ITERABLE_COROUTINE"))) (.cons (.cst (.str (Str.ofString "ASYNC_GENERATOR"))) .nil)))))))))))) [.val (.list (bs.map fun (b:Nat)=>AV.int b)),.unset] []=.nx [.val (.list (bs.map fun (b:Nat)=>AV.int b)),.val (.list namesV)] []:=rfl
  have h2:evE T (.comp wordE (.var 0) .tt) [.val (.list (bs.map fun (b:Nat)=>AV.int b)),.val (.list namesV)] []=.ok (.val (.list (bs.map fun b=>.str (wordS b)))) [] :=
    ev_comp_tt (x:=.list (bs.map fun (b:Nat)=>AV.int b)) (g:=fun (b:Nat)=>AV.int b) (l:=bs) (fun b=>.str (wordS b)) (by dsimp only [e_cst,e_var,e_bin,e_neg,e_cmp,e_ite,e_list,e_tup,e_dict0,e_dict1,e_idx,e_cut,e_call,e_p1,e_view,e_p2,e_p3,varV_val,varV_mu,Res.on_some,Option.bind_some,val_val,int_int,rd_val,rd_mu]; rfl) rfl (by omega) fun b h=>word_ev T _ b (hb b h)
  unfold runFn bWords
  rw [xs_cons,h1,SRes.bind_nx]
  rw [xs_cons]; dsimp only [x_assign,x_assignMut,x_unpack,x_multi,x_setitem,x_augitem,x_aug,x_append,x_iff,x_ret,x_brk,SRes.on_some,Option.bind_some,List.getElem?_cons_zero,List.getElem?_cons_succ,val_val,int_int,tup_tup,muAt,listAt,biterAt,mu_mu,list_list,biter_biter]
  rw [show (ME.comp (.ite (.cmp .lt (.var 2) (.cst (.int (10)))) (.idx (.var 1) (.var 2)) (.bin .add (.bin .add (.cst (.str (Str.ofString "0x"))) (.idx (.cst (.str (Str.ofString "1248"))) (.bin .mod (.var 2) (.cst (.int (4)))))) (.bin .mul (.cst (.str (Str.ofString "0"))) (.bin .fdiv (.var 2) (.cst (.int (4))))))) (.var 0) .tt)=.comp wordE (.var 0) .tt from rfl,h2]
  rfl
end Mine
set_option linter.unusedSimpArgs false
namespace Mine
open PySem PyProof.Rows PySem.StrLaws PySem.Builtin.Str
theorem bitAnd_nat (a b:Nat):Builtin.bitAnd a b=((a &&& b:Nat):Int):=bitAnd_pp (Int.natCast_nonneg a) (Int.natCast_nonneg b)
theorem bitXor_two {f i:Nat} (h:f.testBit i=true):Builtin.bitXor (f:Int) ((2 ^ i:Nat):Int)=((f - 2 ^ i:Nat):Int):=by
  have hle:2 ^ i≤f:=Nat.ge_two_pow_of_testBit h
  unfold Builtin.bitXor
  rw [bitOr_and,bitAnd_nat,and_two_pow,if_pos h]
  omega
noncomputable def bitsOf (f i k:Nat):List Nat:=(List.range' i k).filter f.testBit
theorem bit_sub {f i j:Nat} (h0:f % 2 ^ i=0) (h:f.testBit i=true) (hj:i < j):(f - 2 ^ i).testBit j=f.testBit j:=by
  obtain ⟨q,rfl⟩:=Nat.dvd_of_mod_eq_zero h0
  obtain ⟨d,rfl⟩:=Nat.exists_eq_add_of_lt hj
  rw [Nat.testBit_two_pow_mul] at h
  simp only [ge_iff_le,Nat.le_refl,decide_true,Nat.sub_self,Bool.true_and,Nat.testBit_zero] at h
  have e:2 ^ i * q - 2 ^ i=2 ^ i * (q - 1):=by rw [Nat.mul_sub,Nat.mul_one]
  rw [e,Nat.testBit_two_pow_mul,Nat.testBit_two_pow_mul]
  congr 1
  rw [show i+d+1 - i=d+1 by omega,Nat.testBit_succ,Nat.testBit_succ]
  congr 1
  have:=of_decide_eq_true h
  omega
theorem mod_sub {f i:Nat} (h0:f % 2 ^ i=0) (h:f.testBit i=true):(f - 2 ^ i) % 2 ^ (i+1)=0:=by
  obtain ⟨q,rfl⟩:=Nat.dvd_of_mod_eq_zero h0
  rw [Nat.testBit_two_pow_mul] at h
  simp only [ge_iff_le,Nat.le_refl,decide_true,Nat.sub_self,Bool.true_and,Nat.testBit_zero] at h
  have:=of_decide_eq_true h
  have e:2 ^ i * q - 2 ^ i=2 ^ (i+1) * (q / 2):=by
    rw [Nat.pow_succ,Nat.mul_assoc]
    have:q=2 * (q / 2)+1:=by omega
    rw [this,Nat.mul_add]
    have e2:(2 * (q / 2)+1) / 2=q / 2:=by omega
    rw [e2]
    omega
  rw [e]
  exact Nat.mul_mod_right _ _
theorem mod_no {f i:Nat} (h0:f % 2 ^ i=0) (h:f.testBit i=false):f % 2 ^ (i+1)=0:=by
  obtain ⟨q,rfl⟩:=Nat.dvd_of_mod_eq_zero h0
  rw [Nat.testBit_two_pow_mul] at h
  simp only [ge_iff_le,Nat.le_refl,decide_true,Nat.sub_self,Bool.true_and,Nat.testBit_zero] at h
  have:=of_decide_eq_false h
  have:q=2 * (q / 2):=by omega
  rw [this,Nat.pow_succ,← Nat.mul_assoc]
  exact Nat.mul_mod_right _ _
noncomputable def flagBody:MSs:=(.cons
  (.assign 3 (.bin .shl (.cst (.int (1))) (.var 2)))
  (.cons
  (.iff (.tru (.bin .band (.var 0) (.var 3))) (.cons
  (.append 1 (.p2 .flagGet (.var 3) (.p1 .hex (.var 3))))
  (.cons
  (.aug .bxor 0 (.var 3))
  (.cons
  (.iff (.not (.tru (.var 0))) (.cons
  .brk
  .nil) .nil)
  .nil))) .nil)
  .nil))
noncomputable def flagTurn (T:Tab) (x:AV) (ve:List MV) (σ:List AV):SRes:=loopF T [2] flagBody x ve σ
theorem pow_int (i:Nat):(1:Int) * 2 ^ ((i:Int)).toNat=((2 ^ i:Nat):Int):=by
  rw [Int.one_mul,Int.toNat_natCast]
  norm_cast
theorem flag_no (T:Tab) {f i:Nat} {names:List Str} {x y:MV} (hi:i < 32) (h:f.testBit i=false) :
    flagTurn T (.int i) [.val (.int f),.mu 0,x,y] [.list (names.map .str)]=.nx [.val (.int f),.mu 0,.val (.int i),.val (.int ((2 ^ i:Nat):Int))] [.list (names.map .str)]:=by
  have k1:exS T (.assign 3 (.bin .shl (.cst (.int (1))) (.var 2))) [.val (.int f),.mu 0,.val (.int i),y] [.list (names.map .str)]=.nx [.val (.int f),.mu 0,.val (.int i),.val (.int ((2 ^ i:Nat):Int))] [.list (names.map .str)]:=by
    have hb:binV .shl (.int 1) (.int (i:Int))=some (.int ((2 ^ i:Nat):Int)):=by
      rw [b_shl (by omega) (by omega) rfl,pow_int]
    simp [x_assign,SRes.on_some,Option.bind_some,val_val,e_cst,e_var,e_bin,varV_val,Res.on_some,Option.bind_some,val_val,rd_val,op2,rd_val,Res.of,toM,hb]
  have k2:evT T (.tru (.bin .band (.var 0) (.var 3))) [.val (.int f),.mu 0,.val (.int i),.val (.int ((2 ^ i:Nat):Int))] [.list (names.map .str)]=.ok false [.list (names.map .str)]:=by
    have hb:binV .band (.int (f:Int)) (.int ((2 ^ i:Nat):Int))=some (.int 0):=by
      rw [b_band,bitAnd_nat,and_two_pow,h]
      rfl
    simp only [t_tru,e_var,e_bin,varV_val,Res.on_some,Option.bind_some,int_int,rd_val,op1,op2,Res.of,toM,List.getElem?_cons_zero,List.getElem?_cons_succ,Res.bind_ok,hb,Option.map_some,truV,Option.some_or]
    rfl
  show exSs T flagBody [.val (.int f),.mu 0,.val (.int i),y] _=_
  unfold flagBody
  rw [xs_cons]
  rw [k1,SRes.bind_nx]
  rw [xs_cons]; dsimp only [x_assign,x_assignMut,x_unpack,x_multi,x_setitem,x_augitem,x_aug,x_append,x_iff,x_ret,x_brk,SRes.on_some,Option.bind_some,List.getElem?_cons_zero,List.getElem?_cons_succ,val_val,int_int,tup_tup,muAt,listAt,biterAt,mu_mu,list_list,biter_biter]
  rw [k2,Res.toS_ok]
  simp only [Bool.false_eq_true,if_false]
  rfl
theorem flag_yes (T:Tab) {f i:Nat} {names:List Str} {x y:MV} (hi:i < 32) (hn:names.length≤1000) (h:f.testBit i=true) :
    flagTurn T (.int i) [.val (.int f),.mu 0,x,y] [.list (names.map .str)] =
      if f - 2 ^ i=0 then .brk [.val (.int ((f - 2 ^ i:Nat):Int)),.mu 0,.val (.int i),.val (.int ((2 ^ i:Nat):Int))] [.list ((names++[wordS i]).map .str)]
      else .nx [.val (.int ((f - 2 ^ i:Nat):Int)),.mu 0,.val (.int i),.val (.int ((2 ^ i:Nat):Int))] [.list ((names++[wordS i]).map .str)]:=by
  have k1:exS T (.assign 3 (.bin .shl (.cst (.int (1))) (.var 2))) [.val (.int f),.mu 0,.val (.int i),y] [.list (names.map .str)]=.nx [.val (.int f),.mu 0,.val (.int i),.val (.int ((2 ^ i:Nat):Int))] [.list (names.map .str)]:=by
    have hb:binV .shl (.int 1) (.int (i:Int))=some (.int ((2 ^ i:Nat):Int)):=by
      rw [b_shl (by omega) (by omega) rfl,pow_int]
    simp [x_assign,SRes.on_some,Option.bind_some,val_val,e_cst,e_var,e_bin,varV_val,Res.on_some,Option.bind_some,val_val,rd_val,op2,rd_val,Res.of,toM,hb]
  have k2:evT T (.tru (.bin .band (.var 0) (.var 3))) [.val (.int f),.mu 0,.val (.int i),.val (.int ((2 ^ i:Nat):Int))] [.list (names.map .str)]=.ok true [.list (names.map .str)]:=by
    have hb:binV .band (.int (f:Int)) (.int ((2 ^ i:Nat):Int))=some (.int ((2 ^ i:Nat):Int)):=by
      rw [b_band,bitAnd_nat,and_two_pow,h]
      rfl
    simp only [t_tru,e_var,e_bin,varV_val,Res.on_some,Option.bind_some,int_int,rd_val,op1,op2,Res.of,toM,List.getElem?_cons_zero,List.getElem?_cons_succ,Res.bind_ok,hb,Option.map_some,truV,Option.some_or]
    have:0 < 2 ^ i:=Nat.two_pow_pos i
    have:(((2 ^ i:Nat):Int) != 0)=true:=by
      simp only [bne_iff_ne,ne_eq]
      omega
    rw [this]
  have small2:small ((2 ^ i:Nat):Int)=true:=by
    apply small_le
    rw [Int.natAbs_natCast]
    exact Nat.pow_lt_pow_right (by omega) (by omega)
  have k3:exS T (.append 1 (.p2 .flagGet (.var 3) (.p1 .hex (.var 3)))) [.val (.int f),.mu 0,.val (.int i),.val (.int ((2 ^ i:Nat):Int))] [.list (names.map .str)]=.nx [.val (.int f),.mu 0,.val (.int i),.val (.int ((2 ^ i:Nat):Int))] [.list ((names++[wordS i]).map .str)]:=by
    have e1:p1V .hex (.int ((2 ^ i:Nat):Int))=some (.str (baseText "0x" 16 ((2 ^ i:Nat):Int))):=by
      exact grd_pos small2
    have e2:p2V .flagGet (.int ((2 ^ i:Nat):Int)) (.str (baseText "0x" 16 ((2 ^ i:Nat):Int)))=some (.str (wordS i)):=by
      unfold wordS
      rw [show (2:Int) ^ i=((2 ^ i:Nat):Int) by norm_cast]
      rfl
    simp only [x_append,SRes.on_some,Option.bind_some,List.getElem?_cons_zero,List.getElem?_cons_succ,val_val,muAt,listAt,mu_mu,list_list,e_var,e_p1,e_p2,varV_val,Res.on_some,Option.bind_some,val_val,rd_val,op1,op2v,rd_val,Res.of,toM,List.getElem?_cons_zero,List.getElem?_cons_succ,Res.bind_ok,Option.bind_some,e1,e2,Option.map_some,Res.toS_ok,List.length_map,fits_le (show names.length≤1000000 by omega),if_true]
    simp
  have k4:exS T (.aug .bxor 0 (.var 3)) [.val (.int f),.mu 0,.val (.int i),.val (.int ((2 ^ i:Nat):Int))] [.list ((names++[wordS i]).map .str)]=.nx [.val (.int ((f - 2 ^ i:Nat):Int)),.mu 0,.val (.int i),.val (.int ((2 ^ i:Nat):Int))] [.list ((names++[wordS i]).map .str)]:=by
    have e1:binV .bxor (.int (f:Int)) (.int ((2 ^ i:Nat):Int))=some (.int ((f - 2 ^ i:Nat):Int)):=by
      rw [b_bxor,bitXor_two h]
    simp only [x_aug,SRes.on_some,Option.bind_some,List.getElem?_cons_zero,List.getElem?_cons_succ,val_val,int_int,e_var,varV_val,Res.on_some,rd_val,rdB,Res.of,Res.bind_ok,e1,Res.toS_ok]
    rfl
  have k5:evT T (.not (.tru (.var 0))) [.val (.int ((f - 2 ^ i:Nat):Int)),.mu 0,.val (.int i),.val (.int ((2 ^ i:Nat):Int))] [.list ((names++[wordS i]).map .str)]=.ok (decide (f - 2 ^ i=0)) [.list ((names++[wordS i]).map .str)]:=by
    simp only [t_not,t_tru,e_var,varV_val,Res.on_some,Option.bind_some,int_int,rd_val,op1,Res.of,List.getElem?_cons_zero,Res.bind_ok,truV,Option.some_or]
    congr 1
    by_cases q:f - 2 ^ i=0
    · rw [q]; rfl
    · rw [decide_eq_false q]
      have:(((f - 2 ^ i:Nat):Int) != 0)=true:=by
        simp only [bne_iff_ne,ne_eq]
        omega
      rw [this]; rfl
  show exSs T flagBody [.val (.int f),.mu 0,.val (.int i),y] _=_
  unfold flagBody
  rw [xs_cons]
  rw [k1,SRes.bind_nx]
  rw [xs_cons]; dsimp only [x_assign,x_assignMut,x_unpack,x_multi,x_setitem,x_augitem,x_aug,x_append,x_iff,x_ret,x_brk,SRes.on_some,Option.bind_some,List.getElem?_cons_zero,List.getElem?_cons_succ,val_val,int_int,tup_tup,muAt,listAt,biterAt,mu_mu,list_list,biter_biter]
  rw [k2,Res.toS_ok]
  simp only [if_true]
  first | rw [xs_cons] | rw [xs_nil]
  rw [k3,SRes.bind_nx]
  first | rw [xs_cons] | rw [xs_nil]
  rw [k4,SRes.bind_nx]
  rw [xs_cons]; dsimp only [x_assign,x_assignMut,x_unpack,x_multi,x_setitem,x_augitem,x_aug,x_append,x_iff,x_ret,x_brk,SRes.on_some,Option.bind_some,List.getElem?_cons_zero,List.getElem?_cons_succ,val_val,int_int,tup_tup,muAt,listAt,biterAt,mu_mu,list_list,biter_biter]
  rw [k5,Res.toS_ok]
  by_cases q:f - 2 ^ i=0
  · rw [decide_eq_true q,if_pos q]
    simp only [if_true]
    rw [xs_cons]; dsimp only [x_assign,x_assignMut,x_unpack,x_multi,x_setitem,x_augitem,x_aug,x_append,x_iff,x_ret,x_brk,SRes.on_some,Option.bind_some,List.getElem?_cons_zero,List.getElem?_cons_succ,val_val,int_int,tup_tup,muAt,listAt,biterAt,mu_mu,list_list,biter_biter]
    rfl
  · rw [decide_eq_false q,if_neg q]
    simp only [Bool.false_eq_true,if_false]
    rfl
theorem bits_cons_yes {f i k:Nat} (h:f.testBit i=true):bitsOf f i (k+1)=i::bitsOf f (i+1) k:=by
  unfold bitsOf
  rw [List.range'_succ,List.filter_cons,if_pos h]
theorem bits_cons_no {f i k:Nat} (h:f.testBit i=false):bitsOf f i (k+1)=bitsOf f (i+1) k:=by
  unfold bitsOf
  rw [List.range'_succ,List.filter_cons,if_neg (by simp [h])]
theorem bits_sub {f i k:Nat} (h0:f % 2 ^ i=0) (h:f.testBit i=true):bitsOf (f - 2 ^ i) (i+1) k=bitsOf f (i+1) k:=by
  unfold bitsOf
  apply List.filter_congr
  intro j hj
  have:=List.mem_range'_1.mp hj
  exact bit_sub h0 h (by omega)
theorem bits_zero (i k:Nat):bitsOf 0 i k=[]:=by
  unfold bitsOf
  rw [List.filter_eq_nil_iff]
  intro j _
  simp
theorem flags_brk (T:Tab):∀ (k i f:Nat) (names:List Str) (x y:MV),i+k=32→f % 2 ^ i=0→0 < f→f < 2 ^ 32→names.length≤i →
    ∃ ve,forL (flagTurn T) ((List.range' i k).map fun (j:Nat)=>AV.int j) [.val (.int f),.mu 0,x,y] [.list (names.map .str)]=.brk ve [.list ((names++(bitsOf f i k).map wordS).map .str)]∧ve[1]?=some (.mu 0)
  | 0,i,f,names,x,y,hk,h0,hp,hl,_=>by
    have:i=32:=by omega
    subst this
    omega
  | k+1,i,f,names,x,y,hk,h0,hp,hl,hn=>by
    rw [List.range'_succ,List.map_cons,forL_cons]
    cases hb:f.testBit i with
    | false =>
      rw [flag_no T (by omega) hb,bits_cons_no hb]
      exact flags_brk T k (i+1) f names _ _ (by omega) (mod_no h0 hb) hp hl (by omega)
    | true =>
      rw [flag_yes T (by omega) (by omega) hb,bits_cons_yes hb]
      by_cases q:f - 2 ^ i=0
      · rw [if_pos q]
        have:bitsOf f (i+1) k=[]:=by rw [← bits_sub h0 hb,q,bits_zero]
        rw [this]
        exact ⟨_,rfl,rfl⟩
      · rw [if_neg q]
        obtain ⟨ve,e,e2⟩:=flags_brk T k (i+1) (f - 2 ^ i) (names++[wordS i]) (.val (.int i)) (.val (.int ((2 ^ i:Nat):Int))) (by omega) (mod_sub h0 hb) (by omega) (by omega) (by rw [List.length_append]; simp only [List.length_cons,List.length_nil]; omega)
        refine ⟨ve,?_,e2⟩
        show forL (flagTurn T) _ _ _=_
        rw [e,bits_sub h0 hb]
        simp
theorem div_sub {f i:Nat} (hi:i < 32) (h0:f % 2 ^ i=0) (h:f.testBit i=true):(f - 2 ^ i) / 2 ^ 32=f / 2 ^ 32:=by
  obtain ⟨q,rfl⟩:=Nat.dvd_of_mod_eq_zero h0
  rw [Nat.testBit_two_pow_mul] at h
  simp only [ge_iff_le,Nat.le_refl,decide_true,Nat.sub_self,Bool.true_and,Nat.testBit_zero] at h
  have hq:=of_decide_eq_true h
  have e:2 ^ i * q - 2 ^ i=2 ^ i * (q - 1):=by rw [Nat.mul_sub,Nat.mul_one]
  have e2:2 ^ 32=2 ^ i * (2 * 2 ^ (31 - i)):=by
    rw [← Nat.pow_succ',← Nat.pow_add]
    congr 1
    omega
  rw [e,e2,Nat.mul_div_mul_left _ _ (Nat.two_pow_pos i),Nat.mul_div_mul_left _ _ (Nat.two_pow_pos i),← Nat.div_div_eq_div_mul,← Nat.div_div_eq_div_mul]
  congr 1
  omega
theorem flags_all (T:Tab):∀ (k i f:Nat) (names:List Str) (x y:MV),i+k=32→f % 2 ^ i=0→0 < f / 2 ^ 32→names.length≤i →
    ∃ x' y',forL (flagTurn T) ((List.range' i k).map fun (j:Nat)=>AV.int j) [.val (.int f),.mu 0,x,y] [.list (names.map .str)]=.nx [.val (.int ((f / 2 ^ 32 * 2 ^ 32:Nat):Int)),.mu 0,x',y'] [.list ((names++(bitsOf f i k).map wordS).map .str)]
  | 0,i,f,names,x,y,hk,h0,hp,hn=>by
    have:i=32:=by omega
    subst this
    refine ⟨x,y,?_⟩
    have:f / 2 ^ 32 * 2 ^ 32=f:=by omega
    rw [this]
    simp [forL_nil,bitsOf]
  | k+1,i,f,names,x,y,hk,h0,hp,hn=>by
    rw [List.range'_succ,List.map_cons,forL_cons]
    cases hb:f.testBit i with
    | false =>
      rw [flag_no T (by omega) hb,bits_cons_no hb]
      exact flags_all T k (i+1) f names _ _ (by omega) (mod_no h0 hb) hp (by omega)
    | true =>
      rw [flag_yes T (by omega) (by omega) hb,bits_cons_yes hb]
      have hd:=div_sub (by omega) h0 hb
      by_cases q:f - 2 ^ i=0
      · rw [q] at hd
        omega
      · rw [if_neg q]
        obtain ⟨x',y',e⟩:=flags_all T k (i+1) (f - 2 ^ i) (names++[wordS i]) (.val (.int i)) (.val (.int ((2 ^ i:Nat):Int))) (by omega) (mod_sub h0 hb) (by rw [hd]; exact hp) (by rw [List.length_append]; simp only [List.length_cons,List.length_nil]; omega)
        refine ⟨x',y',?_⟩
        show forL (flagTurn T) _ _ _=_
        rw [e,bits_sub h0 hb,hd]
        simp
theorem join_ok {ns:List Str} (h3:ns.length≤100) (hlen:∀ n∈ns,n.length≤100):p2V .join (.str sepS) (.list (ns.map .str))=some (.str (glued sepS ns)):=by
  show ((strsOf (ns.map .str)).bind fun ss=>if fits (ss.foldl (fun n x=>n+x.length+sepS.length) 0) then some (AV.str (glued sepS ss)) else none)=_
  rw [strsOf_map,Option.bind_some,if_pos]
  apply fits_le
  have key:∀ (l:List Str) (k:Nat),(∀ n∈l,n.length≤100)→l.foldl (fun n x=>n+x.length+sepS.length) k≤k+102 * l.length:=by
    intro l
    induction l with
    | nil=>intro k _; exact Nat.le_refl _
    | cons a l ih =>
      intro k h
      rw [List.foldl_cons]
      have h1:=ih (k+a.length+sepS.length) fun n hn=>h n (List.mem_cons_of_mem _ hn)
      have h2:=h a List.mem_cons_self
      rw [sepS_len] at h1 ⊢
      rw [List.length_cons]
      omega
  have:=key ns 0 hlen
  omega
theorem bits_len (f i k:Nat):(bitsOf f i k).length≤k:=by
  unfold bitsOf
  exact Nat.le_trans (List.length_filter_le _ _) (by simp)
theorem bits_lt {f i k j:Nat} (h:j∈bitsOf f i k):j < i+k:=by
  unfold bitsOf at h
  have:=List.mem_range'_1.mp (List.mem_filter.mp h).1
  omega
theorem words_len {bs:List Nat} (h:∀ b∈bs,b < 33):∀ n∈bs.map wordS,n.length≤100:=by
  intro n hn
  obtain ⟨b,hb,rfl⟩:=List.mem_map.mp hn
  have:=(word_ok b (h b hb)).2
  omega
theorem words_no {bs:List Nat} (h:∀ b∈bs,b < 33):∀ n∈bs.map wordS,44 ∉ n.cps.toList:=by
  intro n hn
  obtain ⟨b,hb,rfl⟩:=List.mem_map.mp hn
  exact (word_ok b (h b hb)).1
noncomputable def flagsTail:MSs:=.cons (.append 1 (.p1 .hex (.var 0))) .nil
theorem flags_run (T:Tab) (f:Nat):runFn T bFlags [.val (.int (f:Nat)),.unset,.unset,.unset]=SRes.given (((forL (flagTurn T) ((List.range' 0 32).map fun (j:Nat)=>AV.int j) [.val (.int (f:Nat)),.mu 0,.unset,.unset] [.list []]).after (exSs T flagsTail)).bind fun ve σ=>exSs T (.cons (.ret (.p2 .join (.cst (.str (Str.ofString ", "))) (.var 1))) .nil) ve σ):=rfl
theorem c_flags (n:Nat) {f:Nat} (h0:0 < f) (h1:f < 2 ^ 32):(tabN (n+1)).fn .flags [.int (f:Nat)]=some (.str (glued sepS ((bitsOf f 0 32).map wordS))):=by
  rw [fn_eq (by decide) rfl]
  show runFn (tabN n) bFlags [.val (.int (f:Nat)),.unset,.unset,.unset]=_
  generalize tabN n=T
  rw [flags_run]
  obtain ⟨ve,e,e2⟩:=flags_brk T 32 0 f [] .unset .unset rfl (Nat.mod_one f) h0 h1 (Nat.zero_le _)
  rw [show ([].map AV.str:List AV)=[] from rfl] at e
  rw [e,SRes.after_brk]
  simp only [SRes.bind_nx,List.nil_append]
  rw [xs_cons]; dsimp only [x_assign,x_assignMut,x_unpack,x_multi,x_setitem,x_augitem,x_aug,x_append,x_iff,x_ret,x_brk,SRes.on_some,Option.bind_some,List.getElem?_cons_zero,List.getElem?_cons_succ,val_val,int_int,tup_tup,muAt,listAt,biterAt,mu_mu,list_list,biter_biter]
  have j:=join_ok (ns:=(bitsOf f 0 32).map wordS) (by rw [List.length_map]; have:=bits_len f 0 32; omega) (words_len fun b hb=>by have:=bits_lt hb; omega)
  have e1:evE T (.p2 .join (.cst (.str (Str.ofString ", "))) (.var 1)) ve [.list (((bitsOf f 0 32).map wordS).map .str)]=.ok (.val (.str (glued sepS ((bitsOf f 0 32).map wordS)))) [.list (((bitsOf f 0 32).map wordS).map .str)]:=by
    simp only [e_cst,e_var,e_p2,varV_mu,Res.on_some,Option.bind_some,val_val,rd_mu,op2v,Res.bind_ok,e2,List.getElem?_cons_zero,Res.of,toM]
    rw [show (Str.ofString ", ")=sepS from rfl,j]
    rfl
  rw [e1]
  rfl
theorem c_flags2 (n:Nat) {f:Nat} (h0:f / 2 ^ 32=10):(tabN (n+1)).fn .flags [.int (f:Nat)]=some (.str (glued sepS ((bitsOf f 0 32).map wordS++[Str.ofString "0xa00000000"]))):=by
  rw [fn_eq (by decide) rfl]
  show runFn (tabN n) bFlags [.val (.int (f:Nat)),.unset,.unset,.unset]=_
  generalize tabN n=T
  rw [flags_run]
  obtain ⟨x,y,e⟩:=flags_all T 32 0 f [] .unset .unset rfl (Nat.mod_one f) (by omega) (Nat.zero_le _)
  rw [show ([].map AV.str:List AV)=[] from rfl] at e
  rw [e,h0,SRes.after_nx]
  simp only [List.nil_append]
  have hx:p1V .hex (.int ((10 * 2 ^ 32:Nat):Int))=some (.str (Str.ofString "0xa00000000")):=by kernel_rfl
  have k3:exSs T flagsTail [.val (.int ((10 * 2 ^ 32:Nat):Int)),.mu 0,x,y] [.list (((bitsOf f 0 32).map wordS).map .str)]=.nx [.val (.int ((10 * 2 ^ 32:Nat):Int)),.mu 0,x,y] [.list (((bitsOf f 0 32).map wordS++[Str.ofString "0xa00000000"]).map .str)]:=by
    have hl:=bits_len f 0 32
    simp only [flagsTail,xs_nil,xs_cons,x_append,SRes.on_some,Option.bind_some,List.getElem?_cons_zero,List.getElem?_cons_succ,val_val,muAt,listAt,mu_mu,list_list,e_var,e_p1,varV_val,Res.on_some,Option.bind_some,val_val,rd_val,op1,rd_val,Res.of,toM,List.getElem?_cons_zero,List.getElem?_cons_succ,Res.bind_ok,Option.bind_some,hx,Option.map_some,Res.toS_ok,List.length_map,fits_le (show (bitsOf f 0 32).length≤1000000 by omega),if_true,SRes.bind_nx]
    simp
  rw [k3,SRes.bind_nx]
  rw [xs_cons]; dsimp only [x_assign,x_assignMut,x_unpack,x_multi,x_setitem,x_augitem,x_aug,x_append,x_iff,x_ret,x_brk,SRes.on_some,Option.bind_some,List.getElem?_cons_zero,List.getElem?_cons_succ,val_val,int_int,tup_tup,muAt,listAt,biterAt,mu_mu,list_list,biter_biter]
  have j:=join_ok (ns:=(bitsOf f 0 32).map wordS++[Str.ofString "0xa00000000"]) (by rw [List.length_append,List.length_map]; have:=bits_len f 0 32; simp only [List.length_cons,List.length_nil]; omega) (by
    intro n hn
    rcases List.mem_append.mp hn with q | q
    · exact words_len (fun b hb=>by have:=bits_lt hb; omega) n q
    · rw [List.mem_singleton.mp q]
      exact Nat.le_of_ble_eq_true (by kernel_rfl))
  have e1:evE T (.p2 .join (.cst (.str (Str.ofString ", "))) (.var 1)) [.val (.int ((10 * 2 ^ 32:Nat):Int)),.mu 0,x,y] [.list (((bitsOf f 0 32).map wordS++[Str.ofString "0xa00000000"]).map .str)]=.ok (.val (.str (glued sepS ((bitsOf f 0 32).map wordS++[Str.ofString "0xa00000000"])))) [.list (((bitsOf f 0 32).map wordS++[Str.ofString "0xa00000000"]).map .str)]:=by
    simp only [e_cst,e_var,e_p2,varV_mu,Res.on_some,Option.bind_some,val_val,rd_mu,op2v,Res.bind_ok,List.getElem?_cons_zero,List.getElem?_cons_succ,Res.of,toM]
    rw [show (Str.ofString ", ")=sepS from rfl,j]
    rfl
  rw [e1]
  rfl
theorem no_hex:44 ∉ (Str.ofString "0xa00000000").cps.toList∧(Str.ofString "0xa00000000").length≤100:=by decide +kernel
theorem bits_shift {m a W:Nat} (hm:m < 2 ^ W) (ha:a+W≤32):bitsOf (2 ^ a * m) 0 32=((List.range W).filter m.testBit).map (a+·):=by
  unfold bitsOf
  have sp:List.range' 0 32=List.range' 0 a++List.range' a W++List.range' (a+W) (32 - a - W):=by
    have h1:=List.range'_append_1 (s:=0) (m:=a) (n:=W)
    have h2:=List.range'_append_1 (s:=0) (m:=a+W) (n:=32 - a - W)
    rw [Nat.zero_add] at h1 h2
    rw [h1,h2]
    congr 1
    omega
  rw [sp,List.filter_append,List.filter_append]
  have f1:(List.range' 0 a).filter (2 ^ a * m).testBit=[]:=by
    rw [List.filter_eq_nil_iff]
    intro j hj
    have:=List.mem_range'_1.mp hj
    rw [Nat.testBit_two_pow_mul,decide_eq_false (by omega)]
    simp
  have f3:(List.range' (a+W) (32 - a - W)).filter (2 ^ a * m).testBit=[]:=by
    rw [List.filter_eq_nil_iff]
    intro j hj
    have:=List.mem_range'_1.mp hj
    rw [Nat.testBit_two_pow_mul,Nat.testBit_lt_two_pow (Nat.lt_of_lt_of_le hm (Nat.pow_le_pow_right (by omega) (by omega)))]
    simp
  rw [f1,f3,List.append_nil,List.nil_append]
  have:List.range' a W=(List.range W).map (a+·):=by
    rw [List.range_eq_range',List.map_add_range']
    simp
  rw [this,List.filter_map]
  congr 1
  apply List.filter_congr
  intro j _
  show (2 ^ a * m).testBit (a+j)=_
  rw [Nat.testBit_two_pow_mul,decide_eq_true (by omega),Bool.true_and,Nat.add_sub_cancel_left]
theorem bits_low {f g:Nat} (h:f % 2 ^ 32=g % 2 ^ 32):bitsOf f 0 32=bitsOf g 0 32:=by
  unfold bitsOf
  apply List.filter_congr
  intro j hj
  have:=List.mem_range'_1.mp hj
  have h1:=Nat.testBit_mod_two_pow f 32 j
  have h2:=Nat.testBit_mod_two_pow g 32 j
  rw [h,h2,decide_eq_true (by omega),Bool.true_and,Bool.true_and] at h1
  exact h1.symm
end Mine
set_option linter.unusedSimpArgs false
namespace Mine
open PySem PyProof.Rows
noncomputable def intsN (l:List Nat):List AV:=l.map fun (i:Nat)=>AV.int i
theorem intsN_get {l:List Nat} {i v:Nat} (h:l[i]?=some v):(intsN l)[i]?=some (.int v):=by
  unfold intsN
  rw [List.getElem?_map,h]
  rfl
theorem intsN_erase (l:List Nat) (i:Nat):(intsN l).eraseIdx i=intsN (l.eraseIdx i):=by
  unfold intsN
  induction l generalizing i with
  | nil=>rfl
  | cons a l ih=>cases i with
    | zero=>rfl
    | succ i=>simp only [List.map_cons,List.eraseIdx_cons_succ,ih]
noncomputable def listBody:MSs:=(.cons
  (.aug .add 3 (.bin .pow (.cst (.int (2))) (.pop 2 (.bin .mod (.var 0) (.var 4)))))
  (.cons
  (.assign 0 (.bin .fdiv (.var 0) (.var 4)))
  .nil))
noncomputable def listTurn (T:Tab) (x:AV) (ve:List MV) (σ:List AV):SRes:=loopF T [4] listBody x ve σ
theorem pop_ok {L:List Nat} {i v:Nat} (hl:L.length≤100) (h:L[i]?=some v):popV (intsN L) (i:Nat)=some (.int v,intsN (L.eraseIdx i)):=by
  have hi:=(List.getElem?_eq_some_iff.mp h).1
  have hL:(intsN L).length=L.length:=by simp [intsN]
  unfold popV
  rw [hL,fits_le (show L.length≤1000000 by omega),place_nat hi]
  simp only [Bool.not_true,Bool.false_eq_true,if_false,Option.bind_some,intsN_get h,Option.map_some,intsN_erase]
theorem mod_pos_nat (z:Int) {s:Nat} (hs:0 < s):z.fmod s=(((z.fmod s).toNat:Nat):Int)∧(z.fmod s).toNat < s:=by
  have h1:0≤z.fmod s:=by
    rw [Int.fmod_eq_emod_of_nonneg _ (Int.natCast_nonneg s)]
    exact Int.emod_nonneg _ (by omega)
  have h2:z.fmod s < s:=by
    rw [Int.fmod_eq_emod_of_nonneg _ (Int.natCast_nonneg s)]
    exact Int.emod_lt_of_pos _ (by omega)
  omega
theorem list_turn (T:Tab) {z:Int} {W:AV} {L:List Nat} {M i v:Nat} {x:MV} (hl:L.length≤100) (hv:v≤100) (h:L[i]?=some v) (hz:z.fmod (L.length:Nat)=(i:Nat)) :
    listTurn T (.int (L.length:Nat)) [.val (.int z),.val W,.mu 0,.val (.int (M:Nat)),x] [.list (intsN L)]=.nx [.val (.int (z.fdiv (L.length:Nat))),.val W,.mu 0,.val (.int ((M+2 ^ v:Nat):Int)),.val (.int (L.length:Nat))] [.list (intsN (L.eraseIdx i))]:=by
  have hi:=(List.getElem?_eq_some_iff.mp h).1
  have e1:binV .mod (.int z) (.int (L.length:Nat))=some (.int (i:Nat)):=by rw [b_mod (by omega),hz]
  have e2:binV .pow (.int 2) (.int (v:Nat))=some (.int ((2 ^ v:Nat):Int)):=by
    rw [b_pow (by omega) (by omega) rfl,Int.toNat_natCast]
    norm_cast
  have e3:binV .add (.int (M:Nat)) (.int ((2 ^ v:Nat):Int))=some (.int ((M+2 ^ v:Nat):Int)):=by
    rw [b_add]
    norm_cast
  have e4:binV .fdiv (.int z) (.int (L.length:Nat))=some (.int (z.fdiv (L.length:Nat))):=b_fdiv (by omega) (small_nat (by omega))
  have k1:exS T (.aug .add 3 (.bin .pow (.cst (.int (2))) (.pop 2 (.bin .mod (.var 0) (.var 4))))) [.val (.int z),.val W,.mu 0,.val (.int (M:Nat)),.val (.int (L.length:Nat))] [.list (intsN L)]=.nx [.val (.int z),.val W,.mu 0,.val (.int ((M+2 ^ v:Nat):Int)),.val (.int (L.length:Nat))] [.list (intsN (L.eraseIdx i))]:=by
    simp only [x_aug,SRes.on_some,Option.bind_some,List.getElem?_cons_zero,List.getElem?_cons_succ,val_val,int_int,muAt,listAt,mu_mu,list_list,e_cst,e_var,e_bin,varV_val,Res.on_some,rd_val,rdB,op2,Res.of,toM,Res.bind_ok,e1,Option.map_some,e_pop,popR,pop_ok hl h,e2,Res.toS_ok,e3,List.set_cons_zero,List.set_cons_succ]
  have k2:exS T (.assign 0 (.bin .fdiv (.var 0) (.var 4))) [.val (.int z),.val W,.mu 0,.val (.int ((M+2 ^ v:Nat):Int)),.val (.int (L.length:Nat))] [.list (intsN (L.eraseIdx i))]=.nx [.val (.int (z.fdiv (L.length:Nat))),.val W,.mu 0,.val (.int ((M+2 ^ v:Nat):Int)),.val (.int (L.length:Nat))] [.list (intsN (L.eraseIdx i))]:=by
    simp only [x_assign,SRes.on_some,Option.bind_some,List.getElem?_cons_zero,List.getElem?_cons_succ,val_val,e_var,e_bin,varV_val,Res.on_some,rd_val,op2,Res.of,toM,Res.bind_ok,e4,Option.map_some,Res.toS_ok,List.set_cons_zero]
  show exSs T listBody [.val (.int z),.val W,.mu 0,.val (.int (M:Nat)),.val (.int (L.length:Nat))] _=_
  unfold listBody
  rw [xs_cons,k1,SRes.bind_nx,xs_cons,k2]
  rfl
noncomputable def isMask (m W:Nat):Bool:=decide (m < 2 ^ W) && ((List.range W).filter m.testBit).length == 3
noncomputable def maskOf (W i j k:Nat):Nat :=
  let L:=List.range W
  let L1:=L.eraseIdx i
  let L2:=L1.eraseIdx j
  0+2 ^ (L.getD i 0)+2 ^ (L1.getD j 0)+2 ^ (L2.getD k 0)
theorem masks_ok:∀ W,3≤W→W≤8→∀ i j k,i < W→j < W - 1→k < W - 2→isMask (maskOf W i j k) W=true:=by
  have h:((List.range 9).filter (3≤·)).all (fun W=>(List.range W).all fun i=>(List.range (W - 1)).all fun j=>(List.range (W - 2)).all fun k=>isMask (maskOf W i j k) W)=true:=by kernel_rfl
  intro W h3 h8 i j k hi hj hk
  have h1:=List.all_eq_true.mp h W (List.mem_filter.mpr ⟨List.mem_range.mpr (by omega),by simpa using h3⟩)
  have h2:=List.all_eq_true.mp h1 i (List.mem_range.mpr hi)
  have h3:=List.all_eq_true.mp h2 j (List.mem_range.mpr hj)
  exact List.all_eq_true.mp h3 k (List.mem_range.mpr hk)
theorem getD_mem {l:List Nat} {i:Nat} (h:i < l.length):l[i]?=some (l.getD i 0):=by
  rw [List.getD_eq_getElem?_getD,List.getElem?_eq_getElem h]
  rfl
theorem c_list (n:Nat) (z:Int) {W:Nat} (h3:3≤W) (h8:W≤8):∃ m:Nat,(tabN (n+1)).fn .list [.int z,.int (W:Nat)]=some (.int (m:Nat))∧isMask m W=true:=by
  rw [fn_eq (by decide) rfl]
  show ∃ m:Nat,runFn (tabN n) bList [.val (.int z),.val (.int (W:Nat)),.unset,.unset,.unset]=_∧_
  generalize tabN n=T
  obtain ⟨z1,i1⟩:=mod_pos_nat z (s:=W) (by omega)
  generalize (z.fmod W).toNat=i at z1 i1
  obtain ⟨z2,i2⟩:=mod_pos_nat (z.fdiv W) (s:=W - 1) (by omega)
  generalize ((z.fdiv W).fmod (W - 1:Nat)).toNat=j at z2 i2
  obtain ⟨z3,i3⟩:=mod_pos_nat ((z.fdiv W).fdiv (W - 1:Nat)) (s:=W - 2) (by omega)
  generalize (((z.fdiv W).fdiv (W - 1:Nat)).fmod (W - 2:Nat)).toNat=k at z3 i3
  refine ⟨maskOf W i j k,?_,masks_ok W h3 h8 i j k i1 i2 i3⟩
  have l0:(List.range W).length=W:=List.length_range
  have l1:((List.range W).eraseIdx i).length=W - 1:=by rw [List.length_eraseIdx,l0,if_pos i1]
  have l2:(((List.range W).eraseIdx i).eraseIdx j).length=W - 2:=by rw [List.length_eraseIdx,l1,if_pos i2]; omega
  have le:∀ {l:List Nat} {q v:Nat},(∀ x∈l,x < W)→l[q]?=some v→v≤100:=fun h e=>by
    have:=h _ (List.mem_of_getElem? e)
    omega
  have m0:∀ x∈List.range W,x < W:=fun x hx=>List.mem_range.mp hx
  have m1:∀ x∈(List.range W).eraseIdx i,x < W:=fun x hx=>m0 x (List.mem_of_mem_eraseIdx hx)
  have m2:∀ x∈((List.range W).eraseIdx i).eraseIdx j,x < W:=fun x hx=>m1 x (List.mem_of_mem_eraseIdx hx)
  have g0:=getD_mem (l:=List.range W) (i:=i) (by omega)
  have g1:=getD_mem (l:=(List.range W).eraseIdx i) (i:=j) (by omega)
  have g2:=getD_mem (l:=((List.range W).eraseIdx i).eraseIdx j) (i:=k) (by omega)
  have t0:=list_turn T (z:=z) (W:=.int (W:Nat)) (L:=List.range W) (M:=0) (x:=.unset) (by omega) (le m0 g0) g0 (by rw [l0]; exact z1)
  have t1:=list_turn T (z:=z.fdiv W) (W:=.int (W:Nat)) (L:=(List.range W).eraseIdx i) (M:=0+2 ^ ((List.range W).getD i 0)) (x:=.val (.int (W:Nat))) (by omega) (le m1 g1) g1 (by rw [l1]; exact z2)
  have t2:=list_turn T (z:=(z.fdiv W).fdiv (W - 1:Nat)) (W:=.int (W:Nat)) (L:=((List.range W).eraseIdx i).eraseIdx j) (M:=0+2 ^ ((List.range W).getD i 0)+2 ^ (((List.range W).eraseIdx i).getD j 0)) (x:=.val (.int (W - 1:Nat))) (by omega) (le m2 g2) g2 (by rw [l2]; exact z3)
  rw [l0] at t0
  rw [l1] at t1
  rw [l2] at t2
  have k1:exS T (.multi [(2,true),(3,false)] (.cons (.p1 .listOf (.p1 .range (.var 1))) (.cons (.cst (.int (0))) .nil))) [.val (.int z),.val (.int (W:Nat)),.unset,.unset,.unset] []=.nx [.val (.int z),.val (.int (W:Nat)),.mu 0,.val (.int ((0:Nat):Int)),.unset] [.list (intsN (List.range W))]:=by
    have e1:p1V .range (.int (W:Nat))=some (.range 0 W):=p_range (small_nat (by omega))
    have e2:p1V .listOf (.range 0 W)=some (.list (intsN (List.range W))):=by
      refine or_some ((grd_pos ?_).trans (by rw [upTo_zero]; rfl))
      rw [small_nat (by omega),fits_le (by omega)]
      rfl
    simp only [x_multi,Option.bind_some,List.getElem?_cons_zero,List.getElem?_cons_succ,val_val,es_nil',es_cons',e_cst,e_var,e_p1,varV_val,Res.on_some,rd_val,op1,Res.of,toM,Res.bind_ok,e1,e2,Option.map_some,Res.toS_ok]
    rfl
  have k2:evE T (.tup (.cons (.var 1) (.cons (.bin .sub (.var 1) (.cst (.int (1)))) (.cons (.bin .sub (.var 1) (.cst (.int (2)))) .nil)))) [.val (.int z),.val (.int (W:Nat)),.mu 0,.val (.int ((0:Nat):Int)),.unset] [.list (intsN (List.range W))]=.ok (.val (.tup [.int (W:Nat),.int ((W - 1:Nat):Int),.int ((W - 2:Nat):Int)])) [.list (intsN (List.range W))]:=by
    have e1:binV .sub (.int (W:Nat)) (.int 1)=some (.int ((W - 1:Nat):Int)):=by rw [b_sub]; congr 2; omega
    have e2:binV .sub (.int (W:Nat)) (.int 2)=some (.int ((W - 2:Nat):Int)):=by rw [b_sub]; congr 2; omega
    simp only [e_cst,e_var,e_bin,e_tup,varV_val,Res.on_some,Option.bind_some,val_val,rd_val,es_nil',es_cons',op2,Res.of,toM,List.getElem?_cons_zero,List.getElem?_cons_succ,Res.bind_ok,e1,e2,Option.map_some]
    rfl
  have lp:forL (listTurn T) [.int (W:Nat),.int ((W - 1:Nat):Int),.int ((W - 2:Nat):Int)] [.val (.int z),.val (.int (W:Nat)),.mu 0,.val (.int ((0:Nat):Int)),.unset] [.list (intsN (List.range W))]=.nx [.val (.int (((z.fdiv W).fdiv (W - 1:Nat)).fdiv (W - 2:Nat))),.val (.int (W:Nat)),.mu 0,.val (.int ((maskOf W i j k:Nat):Int)),.val (.int ((W - 2:Nat):Int))] [.list (intsN ((((List.range W).eraseIdx i).eraseIdx j).eraseIdx k))]:=by
    rw [forL_cons,t0]
    show forL (listTurn T) [.int ((W - 1:Nat):Int),.int ((W - 2:Nat):Int)] _ _=_
    rw [forL_cons,t1]
    show forL (listTurn T) [.int ((W - 2:Nat):Int)] _ _=_
    rw [forL_cons,t2]
    rfl
  show SRes.given ((exS T (.multi [(2,true),(3,false)] (.cons (.p1 .listOf (.p1 .range (.var 1))) (.cons (.cst (.int (0))) .nil))) [.val (.int z),.val (.int (W:Nat)),.unset,.unset,.unset] []).bind fun ve σ=>(exS T (.forr [4] (.tup (.cons (.var 1) (.cons (.bin .sub (.var 1) (.cst (.int (1)))) (.cons (.bin .sub (.var 1) (.cst (.int (2)))) .nil)))) listBody .nil) ve σ).bind fun ve σ=>exSs T (.cons (.ret (.var 3)) .nil) ve σ)=_
  rw [k1,SRes.bind_nx,forr_nx (v:=.tup [.int (W:Nat),.int ((W - 1:Nat):Int),.int ((W - 2:Nat):Int)]) (xs:=[.int (W:Nat),.int ((W - 1:Nat):Int),.int ((W - 2:Nat):Int)]) k2 rfl (show 3≤1000000 by decide) lp]
  rfl
end Mine
set_option linter.unusedSimpArgs false
namespace Mine
open PySem PyProof.Rows
noncomputable def par (t:Int) (k:Nat):Nat:=((t+k).fmod 2).toNat
theorem par_lt (t:Int) (k:Nat):par t k < 2∧(t+k).fmod 2=((par t k:Nat):Int):=by
  have:=mod_pos_nat (t+k) (s:=2) (by omega)
  exact ⟨this.2,this.1⟩
noncomputable def tailOct (N:Nat) (t:Int):Nat→Nat→List Nat
  | _,0=>[]
  | k,r+1=>(N / 64 ^ r % 64+(if 0 < r then 64 else 0)+128 * par t k)::tailOct N t (k+1) r
theorem tail_cons {N k r:Nat} {t:Int}:tailOct N t k (r+1)=(N / 64 ^ r % 64+(if 0 < r then 64 else 0)+128 * par t k)::tailOct N t (k+1) r:=rfl
noncomputable def u8s (l:List Nat):List UInt8:=l.map fun n=>n.toUInt8
theorem tail_lt {N:Nat} {t:Int}:∀ {r k n:Nat},n∈tailOct N t k r→n < 256
  | 0,_,_,h=>nomatch h
  | r+1,k,n,h=>by
    rcases List.mem_cons.mp h with h | h
    · have:=(par_lt t k).1
      have:N / 64 ^ r % 64 < 64:=Nat.mod_lt _ (by omega)
      subst h
      split <;> omega
    · exact tail_lt h
theorem tail_len (N:Nat) (t:Int):∀ (r k:Nat),(tailOct N t k r).length=r
  | 0,_=>rfl
  | r+1,k=>congrArg (·+1) (tail_len N t r (k+1))
theorem oct_63 {d c e:Nat} (hd:d < 64):Builtin.bitAnd ((d+64 * c+128 * e:Nat):Int) 63=(d:Int):=by
  rw [show (63:Int)=((63:Nat):Int) from rfl,bitAnd_nat,show (63:Nat)=2 ^ 6 - 1 from rfl,Nat.and_two_pow_sub_one_eq_mod]
  congr 1
  omega
theorem oct_64 {d c e:Nat} (hd:d < 64) (hc:c < 2):Builtin.bitAnd ((d+64 * c+128 * e:Nat):Int) 64=((64 * c:Nat):Int):=by
  rw [show (64:Int)=((64:Nat):Int) from rfl,bitAnd_nat,show (64:Nat)=2 ^ 6 from rfl,and_two_pow,Nat.testBit_eq_decide_div_mod_eq]
  congr 1
  have:(d+2 ^ 6 * c+128 * e) / 2 ^ 6 % 2=c:=by omega
  rw [this]
  rcases (by omega:c=0∨c=1) with rfl | rfl <;> simp
theorem or_64 {v d:Nat} (hd:d < 64):Builtin.bitOr ((v:Int) * 64) (d:Int)=((v * 64+d:Nat):Int):=by
  rw [show (v:Int) * 64=((v * 64:Nat):Int) by norm_cast,bitOr_and,bitAnd_nat]
  have:v * 64 &&& d=0:=by
    apply Nat.eq_of_testBit_eq
    intro j
    rw [Nat.testBit_and,Nat.zero_testBit,Nat.mul_comm,show (64:Nat)=2 ^ 6 from rfl,Nat.testBit_two_pow_mul]
    by_cases q:6≤j
    · rw [Nat.testBit_lt_two_pow (Nat.lt_of_lt_of_le hd (show 64≤2 ^ j from Nat.pow_le_pow_right (n:=2) (by omega) q))]
      simp
    · rw [decide_eq_false (by omega)]
      simp
  rw [this]
  simp
noncomputable def pvT:MT:=.tru (.bin .band (.var 1) (.cst (.int (64))))
noncomputable def pvB:MSs:=(.cons
  (.aug .shl 2 (.cst (.int (6))))
  (.cons
  (.assign 1 (.next 0))
  (.cons
  (.aug .bor 2 (.bin .band (.var 1) (.cst (.int (63)))))
  .nil)))
theorem get_drop {B:List UInt8} {q o:Nat} {r:List Nat} {rest:List UInt8} (h:B.drop q=u8s (o::r)++rest):B[q]?=some o.toUInt8∧B.drop (q+1)=u8s r++rest:=by
  constructor
  · have:=congrArg (fun l=>l[0]?) h
    simpa [u8s] using this
  · rw [← List.drop_drop,h]
    rfl
theorem u8_nat {o:Nat} (h:o < 256):((o.toUInt8.toNat:Nat):Int)=(o:Int):=by
  congr 1
  show o % 256=o
  omega
theorem pv_turn (T:Tab) {B:List UInt8} {o o' q v d:Nat} {rest:List UInt8} {r:List Nat} (hv:v < 2 ^ 60) (ho:o' < 256) (hd:Builtin.bitAnd (o':Int) 63=(d:Int)) (hd2:d < 64) (h:B.drop q=u8s (o'::r)++rest) :
    exSs T pvB [.mu 0,.val (.int (o:Nat)),.val (.int (v:Nat))] [.biter B q]=.nx [.mu 0,.val (.int (o':Nat)),.val (.int ((v * 64+d:Nat):Int))] [.biter B (q+1)]:=by
  obtain ⟨h1,_⟩:=get_drop h
  have e1:binV .shl (.int (v:Nat)) (.int 6)=some (.int ((v:Int) * 64)):=by
    rw [b_shl (by omega) (by omega) (small_nat (by omega))]
    rfl
  have e2:binV .band (.int (o':Nat)) (.int 63)=some (.int (d:Nat)):=by rw [b_band,hd]
  have e3:binV .bor (.int ((v:Int) * 64)) (.int (d:Nat))=some (.int ((v * 64+d:Nat):Int)):=by rw [b_bor,or_64 hd2]
  have k1:exS T (.aug .shl 2 (.cst (.int (6)))) [.mu 0,.val (.int (o:Nat)),.val (.int (v:Nat))] [.biter B q]=.nx [.mu 0,.val (.int (o:Nat)),.val (.int ((v:Int) * 64))] [.biter B q]:=by
    simp only [x_aug,SRes.on_some,Option.bind_some,List.getElem?_cons_zero,List.getElem?_cons_succ,val_val,int_int,e_cst,rd_val,rdB,Res.of,Res.bind_ok,Res.toS_ok,e1,List.set_cons_zero,List.set_cons_succ]
  have k2:exS T (.assign 1 (.next 0)) [.mu 0,.val (.int (o:Nat)),.val (.int ((v:Int) * 64))] [.biter B q]=.nx [.mu 0,.val (.int (o':Nat)),.val (.int ((v:Int) * 64))] [.biter B (q+1)]:=(x_next rfl rfl h1).trans (by rw [u8_nat ho]; rfl)
  have k3:exS T (.aug .bor 2 (.bin .band (.var 1) (.cst (.int (63))))) [.mu 0,.val (.int (o':Nat)),.val (.int ((v:Int) * 64))] [.biter B (q+1)]=.nx [.mu 0,.val (.int (o':Nat)),.val (.int ((v * 64+d:Nat):Int))] [.biter B (q+1)]:=by
    simp only [x_aug,SRes.on_some,Option.bind_some,List.getElem?_cons_zero,List.getElem?_cons_succ,val_val,int_int,e_cst,e_var,e_bin,varV_val,Res.on_some,rd_val,op2,rdB,Res.of,toM,Res.bind_ok,Option.map_some,Res.toS_ok,e2,e3,List.set_cons_zero,List.set_cons_succ]
  unfold pvB
  rw [xs_cons]
  rw [k1,SRes.bind_nx]
  first | rw [xs_cons] | rw [xs_nil]
  rw [k2,SRes.bind_nx]
  first | rw [xs_cons] | rw [xs_nil]
  rw [k3,SRes.bind_nx]
  rfl
theorem pv_test (T:Tab) {B:List UInt8} {d c e q v:Nat} (hd:d < 64) (hc:c < 2):evT T pvT [.mu 0,.val (.int ((d+64 * c+128 * e:Nat):Int)),.val (.int (v:Nat))] [.biter B q]=.ok (decide (c=1)) [.biter B q]:=by
  have e2:binV .band (.int ((d+64 * c+128 * e:Nat):Int)) (.int 64)=some (.int ((64 * c:Nat):Int)):=by rw [b_band,oct_64 hd hc]
  simp only [pvT,t_tru,e_cst,e_var,e_bin,varV_val,Res.on_some,Option.bind_some,int_int,rd_val,op1,op2,Res.of,toM,List.getElem?_cons_zero,List.getElem?_cons_succ,Res.bind_ok,Option.map_some,e2,truV,Option.some_or]
  rcases (by omega:c=0∨c=1) with rfl | rfl <;> rfl
theorem pv_while (T:Tab) {B:List UInt8} {N:Nat} {t:Int} {rest:List UInt8} (hN:N < 2 ^ 60):∀ (r k fuel q e o:Nat),r < fuel→o=N / 64 ^ r % 64+64 * (if 0 < r then 1 else 0)+128 * e→B.drop q=u8s (tailOct N t k r)++rest →
    ∃ o',whileL (evT T pvT) (exSs T pvB) fuel [.mu 0,.val (.int (o:Nat)),.val (.int ((N / 64 ^ r:Nat):Int))] [.biter B q]=.nx [.mu 0,o',.val (.int (N:Nat))] [.biter B (q+r)]
  | 0,k,0,q,e,o,hf,_,_=>absurd hf (Nat.lt_irrefl _)
  | r+1,k,0,q,e,o,hf,_,_=>by omega
  | 0,k,fuel+1,q,e,o,hf,ho,hd=>by
    subst ho
    refine ⟨.val (.int ((N / 64 ^ 0 % 64+64 * (if 0 < 0 then 1 else 0)+128 * e:Nat):Int)),?_⟩
    rw [whileL_succ]
    rw [pv_test T (Nat.mod_lt _ (by omega)) (by simp),decide_eq_false (by simp),Res.toS_ok,if_neg (by decide),Nat.pow_zero,Nat.div_one,Nat.add_zero]
  | r+1,k,fuel+1,q,e,o,hf,ho,hd=>by
    subst ho
    rw [whileL_succ]
    rw [pv_test T (Nat.mod_lt _ (by omega)) (by split <;> omega)]
    rw [tail_cons] at hd
    have hm:N / 64 ^ r % 64 < 64:=Nat.mod_lt _ (by omega)
    have hoct:N / 64 ^ r % 64+(if 0 < r then 64 else 0)+128 * par t k=N / 64 ^ r % 64+64 * (if 0 < r then 1 else 0)+128 * par t k:=by split <;> omega
    have hstep:N / 64 ^ (r+1) * 64+N / 64 ^ r % 64=N / 64 ^ r:=by
      rw [Nat.pow_succ,← Nat.div_div_eq_div_mul]
      omega
    have htl:N / 64 ^ r % 64+(if 0 < r then 64 else 0)+128 * par t k < 256:=by
      have:=(par_lt t k).1
      split <;> omega
    have tu:=pv_turn T (B:=B) (o:=N / 64 ^ (r+1) % 64+64 * (if 0 < r+1 then 1 else 0)+128 * e) (v:=N / 64 ^ (r+1)) (d:=N / 64 ^ r % 64) (Nat.lt_of_le_of_lt (Nat.div_le_self _ _) hN) htl (by rw [hoct]; exact oct_63 hm) hm hd
    rw [hstep] at tu
    obtain ⟨o',ih⟩:=pv_while T (B:=B) (N:=N) (t:=t) (rest:=rest) hN r (k+1) fuel (q+1) (par t k) _ (by omega) hoct (get_drop hd).2
    refine ⟨o',?_⟩
    rw [decide_eq_true (by rw [if_pos (Nat.succ_pos r)]),Res.toS_ok,if_pos rfl,tu]
    show whileL (evT T pvT) (exSs T pvB) fuel _ _=_
    rw [ih]
    congr 3
    omega
theorem c_pv (n:Nat) {B:List UInt8} {N use q:Nat} {t:Int} {rest:List UInt8} (hN:N < 2 ^ 60) (h1:1≤use) (h16:use≤15) (hu:N < 64 ^ use) (hd:B.drop q=u8s (tailOct N t 0 use)++rest) :
    (tabN (n+1)).pv B q=some (some (N:Int),q+use):=by
  show runPv (tabN n) bPv [.mu 0,.unset,.unset] B q=_
  generalize tabN n=T
  obtain ⟨r,rfl⟩:∃ r,use=r+1:=⟨use - 1,by omega⟩
  rw [tail_cons] at hd
  obtain ⟨g1,g2⟩:=get_drop hd
  have hm:N / 64 ^ r % 64 < 64:=Nat.mod_lt _ (by omega)
  have hv:N / 64 ^ r % 64=N / 64 ^ r:=Nat.mod_eq_of_lt (by rw [Nat.div_lt_iff_lt_mul (Nat.pow_pos (by omega))]; rw [Nat.pow_succ,Nat.mul_comm] at hu; exact hu)
  have hoct:N / 64 ^ r % 64+(if 0 < r then 64 else 0)+128 * par t 0=N / 64 ^ r % 64+64 * (if 0 < r then 1 else 0)+128 * par t 0:=by split <;> omega
  have htl:N / 64 ^ r % 64+(if 0 < r then 64 else 0)+128 * par t 0 < 256:=by
    have:=(par_lt t 0).1
    split <;> omega
  obtain ⟨o',w⟩:=pv_while T (B:=B) (N:=N) (t:=t) (rest:=rest) hN r 1 16 (q+1) (par t 0) _ (by omega) hoct g2
  generalize hO:N / 64 ^ r % 64+(if 0 < r then 64 else 0)+128 * par t 0=O at g1 g2 hd htl w hoct
  have k1:exS T (.assign 1 (.next 0)) [.mu 0,.unset,.unset] [.biter B q]=.nx [.mu 0,.val (.int (O:Nat)),.unset] [.biter B (q+1)]:=(x_next rfl rfl g1).trans (by rw [u8_nat htl]; rfl)
  have e2:binV .band (.int (O:Nat)) (.int 63)=some (.int ((N / 64 ^ r:Nat):Int)):=by rw [b_band,hoct,oct_63 hm,hv]
  have k2:exS T (.assign 2 (.bin .band (.var 1) (.cst (.int (63))))) [.mu 0,.val (.int (O:Nat)),.unset] [.biter B (q+1)]=.nx [.mu 0,.val (.int (O:Nat)),.val (.int ((N / 64 ^ r:Nat):Int))] [.biter B (q+1)]:=by
    simp only [x_assign,SRes.on_some,Option.bind_some,List.getElem?_cons_zero,List.getElem?_cons_succ,val_val,e_cst,e_var,e_bin,varV_val,Res.on_some,rd_val,op2,Res.of,toM,Res.bind_ok,Option.map_some,Res.toS_ok,e2,List.set_cons_zero,List.set_cons_succ]
  have k3:exS T (.while pvT pvB) [.mu 0,.val (.int (O:Nat)),.val (.int ((N / 64 ^ r:Nat):Int))] [.biter B (q+1)]=.nx [.mu 0,o',.val (.int (N:Nat))] [.biter B (q+1+r)]:=w
  have k4:exS T (.ret (.var 2)) [.mu 0,o',.val (.int (N:Nat))] [.biter B (q+1+r)]=.ret (.int (N:Nat)) [.biter B (q+1+r)]:=by
    simp only [x_ret,Option.bind_some,List.getElem?_cons_zero,List.getElem?_cons_succ,e_var,varV_val,Res.on_some,rd_val,rdB,Res.of,Res.bind_ok,Res.toS_ok]
  have all:exSs T bPv [.mu 0,.unset,.unset] [.biter B q]=.ret (.int (N:Nat)) [.biter B (q+1+r)]:=by
    rw [show exSs T bPv [.mu 0,.unset,.unset] [.biter B q]=(exS T (.assign 1 (.next 0)) [.mu 0,.unset,.unset] [.biter B q]).bind fun ve σ=>(exS T (.assign 2 (.bin .band (.var 1) (.cst (.int 63)))) ve σ).bind fun ve σ=>(exS T (.while pvT pvB) ve σ).bind fun ve σ=>exSs T (.cons (.ret (.var 2)) .nil) ve σ from rfl]
    rw [k1,SRes.bind_nx,k2,SRes.bind_nx,k3,SRes.bind_nx]
    rw [xs_cons,k4]
    rfl
  unfold runPv
  rw [all]
  show (if 1=1∧B=B∧q+1+r≤B.length then some (some (N:Int),q+1+r) else none)=_
  have hlen:q+1+r≤B.length:=by
    have:=congrArg List.length hd
    rw [List.length_drop,List.length_append] at this
    simp only [u8s,List.length_map,List.length_cons,tail_len] at this
    omega
  rw [if_pos ⟨rfl,rfl,hlen⟩]
  rw [show q+(r+1)=q+1+r by omega]
theorem c_stop (n:Nat) {B:List UInt8} {q:Nat} (hq:q≤B.length) (hd:B.drop q=[]∨B.drop q=u8s [70]):(tabN (n+1)).pv B q=some (none,B.length+1):=by
  show runPv (tabN n) bPv [.mu 0,.unset,.unset] B q=_
  generalize tabN n=T
  have fin:∀ {ve:List MV} {σ:List AV},exSs T bPv [.mu 0,.unset,.unset] [.biter B q]=.stop ve σ→(B.drop q).length≤1→runPv T bPv [.mu 0,.unset,.unset] B q=some (none,B.length+1):=fun e h=>by
    unfold runPv
    rw [e]
    exact if_pos h
  rcases hd with hd | hd
  · have g:B[q]?=none:=by
      have:=congrArg List.length hd
      rw [List.length_drop] at this
      exact List.getElem?_eq_none (by simp at this; omega)
    refine fin (ve:=[.mu 0,.unset,.unset]) (σ:=[.biter B (B.length+1)]) ?_ (by rw [hd]; decide)
    show (exS T (.assign 1 (.next 0)) [.mu 0,.unset,.unset] [.biter B q]).bind _=_
    rw [x_stop rfl rfl g hq]
    rfl
  · obtain ⟨g1,g2⟩:=get_drop (o:=70) (r:=[]) (rest:=[]) (by rw [hd]; rfl)
    have len:B.length=q+1:=by
      have:=congrArg List.length hd
      rw [List.length_drop] at this
      simp [u8s] at this
      omega
    have g3:B[q+1]?=none:=List.getElem?_eq_none (by omega)
    refine fin (ve:=[.mu 0,.val (.int 70),.val (.int 384)]) (σ:=[.biter B (B.length+1)]) ?_ (by rw [hd]; decide)
    show (exS T (.assign 1 (.next 0)) [.mu 0,.unset,.unset] [.biter B q]).bind _=_
    rw [x_next rfl rfl g1]
    have t2:exS T (.assign 1 (.next 0)) [.mu 0,.val (.int 70),.val (.int 384)] [.biter B (q+1)]=.stop [.mu 0,.val (.int 70),.val (.int 384)] [.biter B (B.length+1)]:=x_stop rfl rfl g3 (Nat.le_of_eq len.symm)
    show (SRes.turn ((exS T (.assign 1 (.next 0)) [.mu 0,.val (.int 70),.val (.int 384)] [.biter B (q+1)]).bind _) _).bind _=_
    rw [t2]
    rfl
end Mine
set_option linter.unusedSimpArgs false
namespace Mine
open PySem PyProof.Rows
theorem first_k {N:Nat} (h:N < 2 ^ 32):∃ k rest,[1,2,3,4,5,6,7].filter (fun k=>decide (N < 64 ^ k))=k::rest∧1≤k∧k≤6∧N < 64 ^ k:=by
  by_cases h1:N < 64 ^ 1
  · exact ⟨1,_,by rw [List.filter_cons_of_pos (by simpa using h1)],by omega,by omega,h1⟩
  rw [List.filter_cons_of_neg (by simpa using h1)]
  by_cases h2:N < 64 ^ 2
  · exact ⟨2,_,by rw [List.filter_cons_of_pos (by simpa using h2)],by omega,by omega,h2⟩
  rw [List.filter_cons_of_neg (by simpa using h2)]
  by_cases h3:N < 64 ^ 3
  · exact ⟨3,_,by rw [List.filter_cons_of_pos (by simpa using h3)],by omega,by omega,h3⟩
  rw [List.filter_cons_of_neg (by simpa using h3)]
  by_cases h4:N < 64 ^ 4
  · exact ⟨4,_,by rw [List.filter_cons_of_pos (by simpa using h4)],by omega,by omega,h4⟩
  rw [List.filter_cons_of_neg (by simpa using h4)]
  by_cases h5:N < 64 ^ 5
  · exact ⟨5,_,by rw [List.filter_cons_of_pos (by simpa using h5)],by omega,by omega,h5⟩
  rw [List.filter_cons_of_neg (by simpa using h5)]
  have h6:N < 64 ^ 6:=by omega
  exact ⟨6,_,by rw [List.filter_cons_of_pos (by simpa using h6)],by omega,by omega,h6⟩
noncomputable def innB:MSs:=(.cons
  (.assign 7 (.bin .mod (.bin .fdiv (.var 4) (.bin .pow (.cst (.int (64))) (.bin .sub (.bin .sub (.var 6) (.cst (.int (1)))) (.var 5)))) (.cst (.int (64)))))
  (.cons
  (.append 2 (.bin .add (.bin .add (.var 7) (.ite (.cmp .lt (.var 5) (.bin .sub (.var 6) (.cst (.int (1))))) (.cst (.int (64))) (.cst (.int (0))))) (.bin .mul (.cst (.int (128))) (.bin .mod (.bin .add (.var 1) (.var 5)) (.cst (.int (2)))))))
  .nil))
noncomputable abbrev innTurn (T:Tab):AV→List MV→List AV→SRes:=loopF T [5] innB
theorem pow64_lt {r:Nat} (h:r≤9):64 ^ r < 2 ^ 62:=Nat.lt_of_le_of_lt (Nat.pow_le_pow_right (by omega) h) (by decide)
theorem inn_turn (T:Tab) {L:AV} {t:Int} {p N k r:Nat} {x5 x7:MV} {O:List Nat} (hO:O.length≤1000) (hk:k+r+1≤10) :
    innTurn T (.int (k:Nat)) [.val L,.val (.int t),.mu 0,.val (.int (p:Nat)),.val (.int (N:Nat)),x5,.val (.int ((k+r+1:Nat):Int)),x7] [.list (intsN O)] =
      .nx [.val L,.val (.int t),.mu 0,.val (.int (p:Nat)),.val (.int (N:Nat)),.val (.int (k:Nat)),.val (.int ((k+r+1:Nat):Int)),.val (.int ((N / 64 ^ r % 64:Nat):Int))] [.list (intsN (O++[N / 64 ^ r % 64+(if 0 < r then 64 else 0)+128 * par t k]))]:=by
  have e1:binV .sub (.int ((k+r+1:Nat):Int)) (.int 1)=some (.int ((k+r:Nat):Int)):=by rw [b_sub]; congr 2; omega
  have e2:binV .sub (.int ((k+r:Nat):Int)) (.int (k:Nat))=some (.int (r:Nat)):=by rw [b_sub]; congr 2; omega
  have e3:binV .pow (.int 64) (.int (r:Nat))=some (.int ((64 ^ r:Nat):Int)):=by
    rw [b_pow (by omega) (by omega) rfl,Int.toNat_natCast]
    norm_cast
  have e4:binV .fdiv (.int (N:Nat)) (.int ((64 ^ r:Nat):Int))=some (.int ((N / 64 ^ r:Nat):Int)):=by
    have:0 < 64 ^ r:=Nat.pow_pos (by omega)
    rw [b_fdiv (by omega) (small_nat (pow64_lt (by omega))),fdiv_nat]
  have e5:binV .mod (.int ((N / 64 ^ r:Nat):Int)) (.int 64)=some (.int ((N / 64 ^ r % 64:Nat):Int)):=by
    rw [b_mod (by decide)]
    exact congrArg (fun z=>some (AV.int z)) (fmod_nat (N / 64 ^ r) 64)
  have c1:cmpV .lt (.int (k:Nat)) (.int ((k+r:Nat):Int))=some (decide (0 < r)):=by
    show some (decide ((k:Int) < ((k+r:Nat):Int)))=_
    congr 1
    exact decide_eq_decide.mpr (by omega)
  have e6:binV .add (.int ((N / 64 ^ r % 64:Nat):Int)) (.int (if 0 < r then 64 else 0))=some (.int ((N / 64 ^ r % 64+(if 0 < r then 64 else 0):Nat):Int)):=by
    rw [b_add]
    congr 2
    split <;> simp
  obtain ⟨hp,hp2⟩:=par_lt t k
  have e7:binV .add (.int t) (.int (k:Nat))=some (.int (t+k)):=rfl
  have e8:binV .mod (.int (t+k)) (.int 2)=some (.int (par t k:Nat)):=by rw [b_mod (by decide),hp2]
  have e9:binV .mul (.int 128) (.int (par t k:Nat))=some (.int ((128 * par t k:Nat):Int)):=by
    rw [b_mul (small_nat (by omega))]
    norm_cast
  have e10:binV .add (.int ((N / 64 ^ r % 64+(if 0 < r then 64 else 0):Nat):Int)) (.int ((128 * par t k:Nat):Int))=some (.int ((N / 64 ^ r % 64+(if 0 < r then 64 else 0)+128 * par t k:Nat):Int)):=by
    rw [b_add]
    norm_cast
  have k1:exS T (.assign 7 (.bin .mod (.bin .fdiv (.var 4) (.bin .pow (.cst (.int (64))) (.bin .sub (.bin .sub (.var 6) (.cst (.int (1)))) (.var 5)))) (.cst (.int (64))))) [.val L,.val (.int t),.mu 0,.val (.int (p:Nat)),.val (.int (N:Nat)),.val (.int (k:Nat)),.val (.int ((k+r+1:Nat):Int)),x7] [.list (intsN O)] =
      .nx [.val L,.val (.int t),.mu 0,.val (.int (p:Nat)),.val (.int (N:Nat)),.val (.int (k:Nat)),.val (.int ((k+r+1:Nat):Int)),.val (.int ((N / 64 ^ r % 64:Nat):Int))] [.list (intsN O)]:=by
    simp only [x_assign,SRes.on_some,Option.bind_some,List.getElem?_cons_zero,List.getElem?_cons_succ,val_val,e_cst,e_var,e_bin,varV_val,Res.on_some,rd_val,op2,Res.of,toM,Res.bind_ok,Option.map_some,Res.toS_ok,e1,e2,e3,e4,e5,List.set_cons_zero,List.set_cons_succ]
  have k2:exS T (.append 2 (.bin .add (.bin .add (.var 7) (.ite (.cmp .lt (.var 5) (.bin .sub (.var 6) (.cst (.int (1))))) (.cst (.int (64))) (.cst (.int (0))))) (.bin .mul (.cst (.int (128))) (.bin .mod (.bin .add (.var 1) (.var 5)) (.cst (.int (2))))))) [.val L,.val (.int t),.mu 0,.val (.int (p:Nat)),.val (.int (N:Nat)),.val (.int (k:Nat)),.val (.int ((k+r+1:Nat):Int)),.val (.int ((N / 64 ^ r % 64:Nat):Int))] [.list (intsN O)] =
      .nx [.val L,.val (.int t),.mu 0,.val (.int (p:Nat)),.val (.int (N:Nat)),.val (.int (k:Nat)),.val (.int ((k+r+1:Nat):Int)),.val (.int ((N / 64 ^ r % 64:Nat):Int))] [.list (intsN (O++[N / 64 ^ r % 64+(if 0 < r then 64 else 0)+128 * par t k]))]:=by
    have ite:evE T (.ite (.cmp .lt (.var 5) (.bin .sub (.var 6) (.cst (.int (1))))) (.cst (.int (64))) (.cst (.int (0)))) [.val L,.val (.int t),.mu 0,.val (.int (p:Nat)),.val (.int (N:Nat)),.val (.int (k:Nat)),.val (.int ((k+r+1:Nat):Int)),.val (.int ((N / 64 ^ r % 64:Nat):Int))] [.list (intsN O)]=.ok (.val (.int (if 0 < r then 64 else 0))) [.list (intsN O)]:=by
      simp only [e_cst,e_var,e_bin,e_ite,varV_val,Res.on_some,Option.bind_some,rd_val,t_cmp,op2,Res.of,toM,List.getElem?_cons_zero,List.getElem?_cons_succ,Res.bind_ok,Option.map_some,e1,c1]
      by_cases q:0 < r
      · rw [decide_eq_true q,if_pos rfl,if_pos q]
      · rw [decide_eq_false q,if_neg (by decide),if_neg q]
    have all:evE T (.bin .add (.bin .add (.var 7) (.ite (.cmp .lt (.var 5) (.bin .sub (.var 6) (.cst (.int (1))))) (.cst (.int (64))) (.cst (.int (0))))) (.bin .mul (.cst (.int (128))) (.bin .mod (.bin .add (.var 1) (.var 5)) (.cst (.int (2)))))) [.val L,.val (.int t),.mu 0,.val (.int (p:Nat)),.val (.int (N:Nat)),.val (.int (k:Nat)),.val (.int ((k+r+1:Nat):Int)),.val (.int ((N / 64 ^ r % 64:Nat):Int))] [.list (intsN O)]=.ok (.val (.int ((N / 64 ^ r % 64+(if 0 < r then 64 else 0)+128 * par t k:Nat):Int))) [.list (intsN O)]:=by
      generalize (ME.ite (.cmp .lt (.var 5) (.bin .sub (.var 6) (.cst (.int (1))))) (.cst (.int (64))) (.cst (.int (0))))=me at ite
      simp only [e_cst,e_var,e_bin,varV_val,Res.on_some,Option.bind_some,rd_val,op2,Res.of,toM,List.getElem?_cons_zero,List.getElem?_cons_succ,Res.bind_ok,Option.map_some,ite,e6,e7,e8,e9,e10]
    dsimp only [x_assign,x_assignMut,x_unpack,x_multi,x_setitem,x_augitem,x_aug,x_append,x_iff,x_ret,x_brk,SRes.on_some,Option.bind_some,List.getElem?_cons_zero,List.getElem?_cons_succ,val_val,int_int,tup_tup,muAt,listAt,biterAt,mu_mu,list_list,biter_biter]
    simp only [List.getElem?_cons_zero,all,Res.toS_ok]
    show (if fits (intsN O).length=true then _ else _)=_
    rw [show (intsN O).length=O.length by simp [intsN],if_pos (fits_le (by omega))]
    simp [intsN]
  show exSs T innB [.val L,.val (.int t),.mu 0,.val (.int (p:Nat)),.val (.int (N:Nat)),.val (.int (k:Nat)),.val (.int ((k+r+1:Nat):Int)),x7] _=_
  unfold innB
  rw [xs_cons]
  rw [k1,SRes.bind_nx]
  first | rw [xs_cons] | rw [xs_nil]
  rw [k2,SRes.bind_nx]
  rfl
theorem inn_loop (T:Tab) {L:AV} {t:Int} {p N use:Nat} (hu:use≤10):∀ (r k:Nat) (x5 x7:MV) (O:List Nat),k+r=use→O.length+r≤1000 →
    ∃ x5' x7',forL (innTurn T) ((List.range' k r).map fun (j:Nat)=>AV.int j) [.val L,.val (.int t),.mu 0,.val (.int (p:Nat)),.val (.int (N:Nat)),x5,.val (.int (use:Nat)),x7] [.list (intsN O)] =
      .nx [.val L,.val (.int t),.mu 0,.val (.int (p:Nat)),.val (.int (N:Nat)),x5',.val (.int (use:Nat)),x7'] [.list (intsN (O++tailOct N t k r))]
  | 0,k,x5,x7,O,_,_=>⟨x5,x7,by rw [show tailOct N t k 0=[] from rfl,List.append_nil]; rfl⟩
  | r+1,k,x5,x7,O,hk,hO=>by
    subst hk
    rw [List.range'_succ,List.map_cons,forL_cons]
    have tu:=inn_turn T (L:=L) (t:=t) (p:=p) (N:=N) (k:=k) (r:=r) (x5:=x5) (x7:=x7) (O:=O) (by omega) (by omega)
    rw [show k+(r+1)=k+r+1 by omega,tu]
    obtain ⟨x5',x7',ih⟩:=inn_loop T (L:=L) (t:=t) (p:=p) (N:=N) (use:=k+r+1) (by omega) r (k+1) (.val (.int (k:Nat))) (.val (.int ((N / 64 ^ r % 64:Nat):Int))) (O++[N / 64 ^ r % 64+(if 0 < r then 64 else 0)+128 * par t k]) (by omega) (by rw [List.length_append]; simp only [List.length_cons,List.length_nil]; omega)
    refine ⟨x5',x7',?_⟩
    show forL (innTurn T) _ _ _=_
    rw [ih,tail_cons]
    simp
noncomputable def useOf (N:Nat) (t:Int) (p:Nat):Nat:=([1,2,3,4,5,6,7].filter (fun k=>decide (N < 64 ^ k))).headD 0+((t+p).fmod 3).toNat
theorem use_ok {N:Nat} (h:N < 2 ^ 32) (t:Int) (p:Nat):1≤useOf N t p∧useOf N t p≤8∧N < 64 ^ useOf N t p:=by
  obtain ⟨k,rest,e,h1,h6,hN⟩:=first_k h
  have:=(mod_pos_nat (t+p) (s:=3) (by omega)).2
  have this':((t+p).fmod 3).toNat < 3:=this
  unfold useOf
  rw [e,List.headD_cons]
  exact ⟨by omega,by omega,Nat.lt_of_lt_of_le hN (Nat.pow_le_pow_right (by omega) (by omega))⟩
noncomputable def outB:MSs:=(.cons
  (.assign 6 (.bin .add (.idx (.comp (.var 8) (.p2 .range (.cst (.int (1))) (.cst (.int (8)))) (.cmp .lt (.var 4) (.bin .pow (.cst (.int (64))) (.var 8)))) (.cst (.int (0)))) (.bin .mod (.bin .add (.var 1) (.var 3)) (.cst (.int (3))))))
  (.cons
  (.forr [5] (.p1 .range (.var 6)) innB .nil)
  .nil))
noncomputable abbrev outTurn (T:Tab):AV→List MV→List AV→SRes:=loopF T [3,4] outB
theorem out_turn (T:Tab) {L:AV} {t:Int} {p N:Nat} {x3 x4 x5 x6 x7:MV} {O:List Nat} (hN:N < 2 ^ 32) (hO:O.length≤900) :
    ∃ x5' x6' x7',outTurn T (.tup [.int (p:Nat),.int (N:Nat)]) [.val L,.val (.int t),.mu 0,x3,x4,x5,x6,x7] [.list (intsN O)] =
      .nx [.val L,.val (.int t),.mu 0,.val (.int (p:Nat)),.val (.int (N:Nat)),x5',x6',x7'] [.list (intsN (O++tailOct N t 0 (useOf N t p)))]:=by
  obtain ⟨k,rest,ek,h1,h6,hNk⟩:=first_k hN
  obtain ⟨u1,u2,u3⟩:=use_ok hN t p
  have hc:evE T (.comp (.var 8) (.p2 .range (.cst (.int (1))) (.cst (.int (8)))) (.cmp .lt (.var 4) (.bin .pow (.cst (.int (64))) (.var 8)))) [.val L,.val (.int t),.mu 0,.val (.int (p:Nat)),.val (.int (N:Nat)),x5,x6,x7] [.list (intsN O)]=.ok (.val (.list (([1,2,3,4,5,6,7].filter (fun k=>decide (N < 64 ^ k))).map fun (k:Nat)=>AV.int k))) [.list (intsN O)]:=by
    refine ev_comp (x:=.range 1 8) (g:=fun (k:Nat)=>AV.int k) (l:=[1,2,3,4,5,6,7]) (fun k=>decide (N < 64 ^ k)) (fun k=>.int k) ?_ rfl (by decide) (fun a ha=>?_) (fun a ha _=>?_)
    · simp only [e_cst,e_p2,Res.on_some,Option.bind_some,val_val,rd_val,op2v,Res.of,Res.bind_ok]
      rfl
    · have ha':a≤7:=by
        simp only [List.mem_cons,List.not_mem_nil,or_false] at ha
        omega
      have e3:binV .pow (.int 64) (.int (a:Nat))=some (.int ((64 ^ a:Nat):Int)):=by
        rw [b_pow (by omega) (by omega) rfl,Int.toNat_natCast]
        norm_cast
      have c1:cmpV .lt (.int (N:Nat)) (.int ((64 ^ a:Nat):Int))=some (decide (N < 64 ^ a)):=by
        show some (decide ((N:Int) < ((64 ^ a:Nat):Int)))=_
        congr 1
        exact decide_eq_decide.mpr (by omega)
      simp only [List.cons_append,List.nil_append,e_cst,e_var,e_bin,varV_val,Res.on_some,Option.bind_some,rd_val,t_cmp,op2,Res.of,toM,List.getElem?_cons_zero,List.getElem?_cons_succ,Res.bind_ok,Option.map_some,e3,c1]
    · simp only [List.cons_append,List.nil_append,e_var,varV_val,Res.on_some,Option.bind_some,List.getElem?_cons_zero,List.getElem?_cons_succ]
  have k1:exS T (.assign 6 (.bin .add (.idx (.comp (.var 8) (.p2 .range (.cst (.int (1))) (.cst (.int (8)))) (.cmp .lt (.var 4) (.bin .pow (.cst (.int (64))) (.var 8)))) (.cst (.int (0)))) (.bin .mod (.bin .add (.var 1) (.var 3)) (.cst (.int (3)))))) [.val L,.val (.int t),.mu 0,.val (.int (p:Nat)),.val (.int (N:Nat)),x5,x6,x7] [.list (intsN O)] =
      .nx [.val L,.val (.int t),.mu 0,.val (.int (p:Nat)),.val (.int (N:Nat)),x5,.val (.int (useOf N t p:Nat)),x7] [.list (intsN O)]:=by
    rw [ek] at hc
    have i1:idxV (.list ((k::rest).map fun (k:Nat)=>AV.int k)) (.int 0)=some (.int (k:Nat)):=by
      have len:(k::rest).length≤7:=by
        rw [← ek]
        exact List.length_filter_le _ _
      exact idx_list (i:=0) (by rw [List.length_map]; omega) rfl
    have e2:binV .mod (.int (t+p)) (.int 3)=some (.int (((t+p).fmod 3).toNat:Nat)):=by
      rw [b_mod (by decide)]
      have:=(mod_pos_nat (t+p) (s:=3) (by omega)).1
      exact congrArg (fun z=>some (AV.int z)) this
    have e3:binV .add (.int (k:Nat)) (.int (((t+p).fmod 3).toNat:Nat))=some (.int (useOf N t p:Nat)):=by
      rw [b_add]
      unfold useOf
      rw [ek,List.headD_cons]
      norm_cast
    generalize (ME.comp (.var 8) (.p2 .range (.cst (.int (1))) (.cst (.int (8)))) (.cmp .lt (.var 4) (.bin .pow (.cst (.int (64))) (.var 8))))=me at hc
    simp only [x_assign,SRes.on_some,Option.bind_some,List.getElem?_cons_zero,List.getElem?_cons_succ,val_val,e_cst,e_var,e_bin,e_idx,varV_val,Res.on_some,rd_val,op2,Res.of,toM,Res.bind_ok,Option.map_some,Res.toS_ok,hc,i1,b_add,e2,e3,List.set_cons_zero,List.set_cons_succ]
  obtain ⟨x5',x7',lp⟩:=inn_loop T (L:=L) (t:=t) (p:=p) (N:=N) (use:=useOf N t p) (by omega) (useOf N t p) 0 x5 x7 O (by omega) (by omega)
  have k2:exS T (.forr [5] (.p1 .range (.var 6)) innB .nil) [.val L,.val (.int t),.mu 0,.val (.int (p:Nat)),.val (.int (N:Nat)),x5,.val (.int (useOf N t p:Nat)),x7] [.list (intsN O)] =
      .nx [.val L,.val (.int t),.mu 0,.val (.int (p:Nat)),.val (.int (N:Nat)),x5',.val (.int (useOf N t p:Nat)),x7'] [.list (intsN (O++tailOct N t 0 (useOf N t p)))]:=by
    have e1:p1V .range (.int (useOf N t p:Nat))=some (.range 0 (useOf N t p:Nat)):=p_range (small_nat (by omega))
    have it:evE T (.p1 .range (.var 6)) [.val L,.val (.int t),.mu 0,.val (.int (p:Nat)),.val (.int (N:Nat)),x5,.val (.int (useOf N t p:Nat)),x7] [.list (intsN O)]=.ok (.val (.range 0 (useOf N t p:Nat))) [.list (intsN O)]:=by
      simp only [e_var,e_p1,varV_val,Res.on_some,Option.bind_some,rd_val,op1,Res.of,toM,List.getElem?_cons_zero,List.getElem?_cons_succ,Res.bind_ok,Option.map_some,e1]
    rw [forr_nx it (elems_range (by omega)) (by rw [List.length_map,List.length_range]; omega) (by rw [List.range_eq_range']; exact lp)]
    rfl
  refine ⟨x5',.val (.int (useOf N t p:Nat)),x7',?_⟩
  show exSs T outB [.val L,.val (.int t),.mu 0,.val (.int (p:Nat)),.val (.int (N:Nat)),x5,x6,x7] _=_
  unfold outB
  rw [xs_cons]
  rw [k1,SRes.bind_nx]
  first | rw [xs_cons] | rw [xs_nil]
  rw [k2,SRes.bind_nx]
  rfl
noncomputable def encAll (t:Int):Nat→List Nat→List Nat
  | _,[]=>[]
  | p,N::ns=>tailOct N t 0 (useOf N t p)++encAll t (p+1) ns
theorem enc_cons {t:Int} {p N:Nat} {ns:List Nat}:encAll t p (N::ns)=tailOct N t 0 (useOf N t p)++encAll t (p+1) ns:=rfl
theorem enc_len {t:Int}:∀ {ns:List Nat} {p:Nat},(∀ N∈ns,N < 2 ^ 32)→(encAll t p ns).length≤8 * ns.length
  | [],_,_=>Nat.le_refl _
  | N::ns,p,h=>by
    have:=enc_len (t:=t) (ns:=ns) (p:=p+1) fun M hM=>h M (List.mem_cons_of_mem _ hM)
    have:=(use_ok (h N List.mem_cons_self) t p).2.1
    simp only [enc_cons,List.length_append,tail_len,List.length_cons]
    omega
theorem enc_lt {t:Int}:∀ {ns:List Nat} {p n:Nat},n∈encAll t p ns→n < 256
  | [],_,_,h=>nomatch h
  | N::ns,p,n,h=>by
    rcases List.mem_append.mp h with h | h
    · exact tail_lt h
    · exact enc_lt h
theorem out_loop (T:Tab) {L:AV} {t:Int}:∀ (ns:List Nat) (p:Nat) (x3 x4 x5 x6 x7:MV) (O:List Nat),(∀ N∈ns,N < 2 ^ 32)→O.length+8 * ns.length≤900 →
    ∃ x3' x4' x5' x6' x7',forL (outTurn T) (numbered p (intsN ns)) [.val L,.val (.int t),.mu 0,x3,x4,x5,x6,x7] [.list (intsN O)] =
      .nx [.val L,.val (.int t),.mu 0,x3',x4',x5',x6',x7'] [.list (intsN (O++encAll t p ns))]
  | [],p,x3,x4,x5,x6,x7,O,_,_=>⟨x3,x4,x5,x6,x7,by rw [show encAll t p []=[] from rfl,List.append_nil]; rfl⟩
  | N::ns,p,x3,x4,x5,x6,x7,O,hN,hO=>by
    rw [List.length_cons] at hO
    obtain ⟨y5,y6,y7,tu⟩:=out_turn T (L:=L) (t:=t) (p:=p) (N:=N) (x3:=x3) (x4:=x4) (x5:=x5) (x6:=x6) (x7:=x7) (O:=O) (hN N List.mem_cons_self) (by omega)
    have u:=(use_ok (hN N List.mem_cons_self) t p).2.1
    obtain ⟨z3,z4,z5,z6,z7,ih⟩:=out_loop T (L:=L) (t:=t) ns (p+1) (.val (.int (p:Nat))) (.val (.int (N:Nat))) y5 y6 y7 (O++tailOct N t 0 (useOf N t p)) (fun M hM=>hN M (List.mem_cons_of_mem _ hM)) (by rw [List.length_append,tail_len]; omega)
    refine ⟨z3,z4,z5,z6,z7,?_⟩
    rw [show numbered p (intsN (N::ns))=.tup [.int (p:Nat),.int (N:Nat)]::numbered (p+1) (intsN ns) from rfl,forL_cons,tu]
    show forL (outTurn T) _ _ _=_
    rw [ih,enc_cons,List.append_assoc]
noncomputable def tapeOf (t:Int) (ns:List Nat):List Nat:=encAll t 0 ns++(List.replicate (par t 0) [70]).flatten
theorem tape_tail (t:Int):(List.replicate (par t 0) [70]).flatten=[]∨(List.replicate (par t 0) [70]).flatten=([70]:List Nat):=by
  have:=(par_lt t 0).1
  rcases (by omega:par t 0=0∨par t 0=1) with h | h <;> rw [h]
  · exact .inl rfl
  · exact .inr rfl
theorem c_tape (n:Nat) (t:Int) {ns:List Nat} (hN:∀ N∈ns,N < 2 ^ 32) (hl:ns.length≤100):(tabN (n+1)).fn .tape [.list (intsN ns),.int t]=some (.bytes (u8s (tapeOf t ns))):=by
  rw [fn_eq (by decide) rfl]
  show runFn (tabN n) bTape [.val (.list (intsN ns)),.val (.int t),.unset,.unset,.unset,.unset,.unset,.unset]=_
  generalize tabN n=T
  have k1:exS T (.assignMut 2 (.list .nil)) [.val (.list (intsN ns)),.val (.int t),.unset,.unset,.unset,.unset,.unset,.unset] []=.nx [.val (.list (intsN ns)),.val (.int t),.mu 0,.unset,.unset,.unset,.unset,.unset] [.list (intsN [])]:=rfl
  obtain ⟨x3,x4,x5,x6,x7,lp⟩:=out_loop T (L:=.list (intsN ns)) (t:=t) ns 0 .unset .unset .unset .unset .unset [] hN (by simp only [List.length_nil]; omega)
  rw [List.nil_append] at lp
  have k2:exS T (.forEnum 3 4 (.var 0) outB) [.val (.list (intsN ns)),.val (.int t),.mu 0,.unset,.unset,.unset,.unset,.unset] [.list (intsN [])]=.nx [.val (.list (intsN ns)),.val (.int t),.mu 0,x3,x4,x5,x6,x7] [.list (intsN (encAll t 0 ns))]:=by
    refine enum_nx (xs:=intsN ns) (σ':=[.list (intsN [])]) ?_ ?_ lp
    · simp only [e_var,varV_val,Res.on_some,Option.bind_some,List.getElem?_cons_zero]
    · rw [show (intsN ns).length=ns.length by simp [intsN]]; omega
  have el:=enc_len (t:=t) (p:=0) hN
  have ep:=(par_lt t 0).1
  have hp2:=(par_lt t 0).2
  have e1:binV .mod (.int t) (.int 2)=some (.int (par t 0:Nat)):=by
    rw [b_mod (by decide)]
    have:t.fmod 2=((par t 0:Nat):Int):=by rw [← hp2]; simp
    rw [this]
  have e2:binV .mul (.list [.int 70]) (.int (par t 0:Nat))=some (.list (intsN (List.replicate (par t 0) [70]).flatten)):=by
    rw [b_mull (by omega) (by simp only [List.length_cons,List.length_nil]; omega)]
    rcases (by omega:par t 0=0∨par t 0=1) with h | h <;> rw [h] <;> rfl
  have tl:(List.replicate (par t 0) [70]).flatten.length≤1:=by
    rcases tape_tail t with h | h <;> rw [h] <;> decide
  have e3:binV .add (.list (intsN (encAll t 0 ns))) (.list (intsN (List.replicate (par t 0) [70]).flatten))=some (.list (intsN (tapeOf t ns))):=by
    rw [b_addl (by simp only [intsN,List.length_append,List.length_map]; omega)]
    simp [intsN,tapeOf]
  have lt:∀ n∈tapeOf t ns,n < 256:=by
    intro n hn
    rcases List.mem_append.mp hn with h | h
    · exact enc_lt h
    · rcases tape_tail t with q | q <;> rw [q] at h
      · cases h
      · rw [List.mem_singleton.mp h]; decide
  have e4:p1V .bytesOf (.list (intsN (tapeOf t ns)))=some (.bytes (u8s (tapeOf t ns))):=by
    show ((intsOf (intsN (tapeOf t ns))).bind fun ms=>if fits ms.length && ms.all (fun n=>decide (0≤n) && decide (n < 256)) then some (AV.bytes (ms.map fun n=>n.toNat.toUInt8)) else none)=_
    have:intsN (tapeOf t ns)=((tapeOf t ns).map fun (n:Nat)=>(n:Int)).map .int:=by simp [intsN]
    rw [this,intsOf_map,Option.bind_some,if_pos]
    · congr 2
      rw [List.map_map]
      rfl
    · rw [Bool.and_eq_true]
      constructor
      · apply fits_le
        rw [List.length_map]
        unfold tapeOf
        rw [List.length_append]
        omega
      · rw [List.all_map,List.all_eq_true]
        intro n hn
        have:=lt n hn
        simp only [Function.comp,Bool.and_eq_true,decide_eq_true_eq]
        omega
  have k3:exS T (.ret (.p1 .bytesOf (.bin .add (.var 2) (.bin .mul (.list (.cons (.cst (.int (70))) .nil)) (.bin .mod (.var 1) (.cst (.int (2)))))))) [.val (.list (intsN ns)),.val (.int t),.mu 0,x3,x4,x5,x6,x7] [.list (intsN (encAll t 0 ns))]=.ret (.bytes (u8s (tapeOf t ns))) [.list (intsN (encAll t 0 ns))]:=by
    simp only [x_ret,Option.bind_some,List.getElem?_cons_zero,List.getElem?_cons_succ,val_val,e_cst,e_var,e_bin,e_list,e_p1,varV_val,varV_mu,Res.on_some,Option.bind_some,val_val,rd_val,rd_mu,es_nil',es_cons',op1,op2,rdB,rd_val,rd_mu,Res.of,toM,List.getElem?_cons_zero,List.getElem?_cons_succ,Res.bind_ok,Option.bind_some,Option.map_some,Res.toS_ok,e1,List.length_cons,List.length_nil,fits_le (show 0+1≤1000000 by decide),if_true,e2,e3,e4]
  rw [show runFn T bTape [.val (.list (intsN ns)),.val (.int t),.unset,.unset,.unset,.unset,.unset,.unset]=(SRes.given ((exS T (.assignMut 2 (.list .nil)) [.val (.list (intsN ns)),.val (.int t),.unset,.unset,.unset,.unset,.unset,.unset] []).bind fun ve σ=>(exS T (.forEnum 3 4 (.var 0) outB) ve σ).bind fun ve σ=>(exS T (.ret (.p1 .bytesOf (.bin .add (.var 2) (.bin .mul (.list (.cons (.cst (.int (70))) .nil)) (.bin .mod (.var 1) (.cst (.int (2)))))))) ve σ).bind fun ve σ=>exSs T .nil ve σ)) from rfl,k1,SRes.bind_nx,k2,SRes.bind_nx,k3]
  rfl
theorem enc_drop {t:Int} {ns:List Nat} {N p:Nat} {rest tail:List Nat} {B:List UInt8} {q:Nat} (h:B.drop q=u8s (encAll t p (N::ns)++tail)):B.drop q=u8s (tailOct N t 0 (useOf N t p))++u8s (encAll t (p+1) ns++tail)∧B.drop (q+useOf N t p)=u8s (encAll t (p+1) ns++tail):=by
  have e:B.drop q=u8s (tailOct N t 0 (useOf N t p))++u8s (encAll t (p+1) ns++tail):=by
    rw [h,enc_cons]
    simp [u8s]
  refine ⟨e,?_⟩
  rw [← List.drop_drop,e]
  have:(u8s (tailOct N t 0 (useOf N t p))).length=useOf N t p:=by simp [u8s,tail_len]
  conv=>lhs; arg 1; rw [← this]
  exact List.drop_left
noncomputable abbrev F3:=UInt64 × UInt64 × UInt64
noncomputable def z0a:UInt64:=4598175219545276416
noncomputable def z1a:UInt64:=4595923419731591168
noncomputable def z2a:UInt64:=4602678819172646912
noncomputable def z3a:UInt64:=4600427019358961664
noncomputable def z4a:UInt64:=4604930618986332160
noncomputable def z5a:UInt64:=4603241769126068224
noncomputable def z6a:UInt64:=4607182418800017408
noncomputable def z7a:UInt64:=4593671619917905920
noncomputable def z8a:UInt64:=4589168020290535424
noncomputable def z9a:UInt64:=0
noncomputable def z10a:UInt64:=4597049319638433792
noncomputable def z11a:UInt64:=4594314991293244562
noncomputable def z12a:UInt64:=4601552919265804288
noncomputable def z13a:UInt64:=4604086194056200192
noncomputable def z14a:UInt64:=4598584637693219188
noncomputable def z15a:UInt64:=4606056518893174784
noncomputable def z16a:UInt64:=4599676419421066581
noncomputable def z17a:UInt64:=4601392076421969627
noncomputable def z18a:UInt64:=4594797519824748544
noncomputable def z19a:UInt64:=4603579539098121011
noncomputable def z20a:UInt64:=4599301119452119040
noncomputable def z21a:UInt64:=4602115869219225600
noncomputable def z22a:UInt64:=4603804719079489536
noncomputable def z23a:UInt64:=4595172819793696085
noncomputable def z24a:UInt64:=4604180019048437077
noncomputable def z25a:UInt64:=4605681218924227243
noncomputable def z26a:UInt64:=4608683618675807573
noncomputable def z27a:UInt64:=4605681218924227242
noncomputable def z28a:UInt64:=4609434218613702656
noncomputable def z29a:UInt64:=4610184818551597738
noncomputable def z30a:UInt64:=4607933018737912490
noncomputable def z31a:UInt64:=4610935418489492821
noncomputable def z32a:UInt64:=4611686018427387904
noncomputable def z33a:UInt64:=4607933018737912491
noncomputable def z34a:UInt64:=4612061318396335445
noncomputable def z35a:UInt64:=4595923419731591170
noncomputable def z36a:UInt64:=4600427019358961666
noncomputable def z37a:UInt64:=4603241769126068225
noncomputable def z38a:UInt64:=4604930618986332162
noncomputable def z39a:UInt64:=4593671619917905923
noncomputable def z40a:UInt64:=4598175219545276419
noncomputable def z41a:UInt64:=4600427019358961668
noncomputable def z42a:UInt64:=4602678819172646915
noncomputable def z43a:UInt64:=4589168020290535433
noncomputable def z44a:UInt64:=4593671619917905929
noncomputable def z45a:UInt64:=4595923419731591182
noncomputable def z46a:UInt64:=4598175219545276425
noncomputable def z47a:UInt64:=4370743438363066368
noncomputable def z48a:UInt64:=4375247037990436864
noncomputable def z49a:UInt64:=4378061787757543424
noncomputable def z50a:UInt64:=4379750637617807360
noncomputable def z51a:UInt64:=4598175219545276414
noncomputable def z52a:UInt64:=4602678819172646910
noncomputable def z53a:UInt64:=4604930618986332158
noncomputable def z54a:UInt64:=4607182418800017406
noncomputable def z55a:UInt64:=4598175219545276415
noncomputable def z56a:UInt64:=4598175219545276412
noncomputable def z57a:UInt64:=4602678819172646911
noncomputable def z58a:UInt64:=4602678819172646908
noncomputable def z59a:UInt64:=4604930618986332159
noncomputable def z60a:UInt64:=4604930618986332157
noncomputable def z61a:UInt64:=4607182418800017407
noncomputable def z62a:UInt64:=4607182418800017404
noncomputable def z63a:UInt64:=4598175219545276410
noncomputable def z64a:UInt64:=4602678819172646906
noncomputable def z65a:UInt64:=4604930618986332156
noncomputable def z66a:UInt64:=4607182418800017402
noncomputable def z67a:UInt64:=4598175219545276408
noncomputable def z68a:UInt64:=4602678819172646904
noncomputable def z69a:UInt64:=4604930618986332154
noncomputable def z70a:UInt64:=4607182418800017400
noncomputable def z71a:UInt64:=4599676419421066579
noncomputable def z72a:UInt64:=4599676419421066580
noncomputable def z73a:UInt64:=4605681218924227241
noncomputable def z74a:UInt64:=4595172819793696088
noncomputable def z75a:UInt64:=4604180019048437076
noncomputable def z76a:UInt64:=4595172819793696080
noncomputable def z77a:UInt64:=4595172819793696078
noncomputable def z78a:UInt64:=4595172819793696081
noncomputable def z79a:UInt64:=4595172819793696082
noncomputable def z80a:UInt64:=4595172819793696083
noncomputable def hT:List UInt64:=[0,4595172819793696085,4599676419421066581,4602678819172646912,4604180019048437077,4605681218924227243,4607182418800017408,4607933018737912491,4608683618675807573,4609434218613702656,4610184818551597739,4610935418489492821,4611686018427387904,4612061318396335445]
noncomputable def qT:List UInt64:=[4598175219545276416,4602678819172646912,4604930618986332160,4607182418800017408]
noncomputable def colT:List UInt64:=[0,4599676419421066581,4604180019048437077,4608683618675807573]
noncomputable def s2A:List (List F3):=[[(z0a,z1a,z1a),(z2a,z3a,z3a),(z4a,z5a,z5a),(z6a,z4a,z4a),(z0a,z7a,z7a),(z2a,z0a,z0a),(z4a,z3a,z3a),(z6a,z2a,z2a),(z0a,z8a,z8a),(z2a,z7a,z7a),(z4a,z1a,z1a),(z6a,z0a,z0a),(z0a,z9a,z9a),(z2a,z9a,z9a),(z4a,z9a,z9a),(z6a,z9a,z9a)],[(z0a,z0a,z1a),(z2a,z2a,z3a),(z4a,z4a,z5a),(z6a,z6a,z4a),(z0a,z0a,z7a),(z2a,z2a,z0a),(z4a,z4a,z3a),(z6a,z6a,z2a),(z0a,z0a,z8a),(z2a,z2a,z7a),(z4a,z4a,z1a),(z6a,z6a,z0a),(z0a,z0a,z9a),(z2a,z2a,z9a),(z4a,z4a,z9a),(z6a,z6a,z9a)],[(z1a,z0a,z1a),(z3a,z2a,z3a),(z5a,z4a,z5a),(z4a,z6a,z4a),(z7a,z0a,z7a),(z0a,z2a,z0a),(z3a,z4a,z3a),(z2a,z6a,z2a),(z8a,z0a,z8a),(z7a,z2a,z7a),(z1a,z4a,z1a),(z0a,z6a,z0a),(z9a,z0a,z9a),(z9a,z2a,z9a),(z9a,z4a,z9a),(z9a,z6a,z9a)],[(z1a,z0a,z0a),(z3a,z2a,z2a),(z5a,z4a,z4a),(z4a,z6a,z6a),(z7a,z0a,z0a),(z0a,z2a,z2a),(z3a,z4a,z4a),(z2a,z6a,z6a),(z8a,z0a,z0a),(z7a,z2a,z2a),(z1a,z4a,z4a),(z0a,z6a,z6a),(z9a,z0a,z0a),(z9a,z2a,z2a),(z9a,z4a,z4a),(z9a,z6a,z6a)],[(z1a,z1a,z0a),(z3a,z3a,z2a),(z5a,z5a,z4a),(z4a,z4a,z6a),(z7a,z7a,z0a),(z0a,z0a,z2a),(z3a,z3a,z4a),(z2a,z2a,z6a),(z8a,z8a,z0a),(z7a,z7a,z2a),(z1a,z1a,z4a),(z0a,z0a,z6a),(z9a,z9a,z0a),(z9a,z9a,z2a),(z9a,z9a,z4a),(z9a,z9a,z6a)],[(z0a,z1a,z0a),(z2a,z3a,z2a),(z4a,z5a,z4a),(z6a,z4a,z6a),(z0a,z7a,z0a),(z2a,z0a,z2a),(z4a,z3a,z4a),(z6a,z2a,z6a),(z0a,z8a,z0a),(z2a,z7a,z2a),(z4a,z1a,z4a),(z6a,z0a,z6a),(z0a,z9a,z0a),(z2a,z9a,z2a),(z4a,z9a,z4a),(z6a,z9a,z6a)]]
noncomputable def s2H:List (List F3):=[[(z9a,z10a,z11a),(z9a,z12a,z11a),(z9a,z13a,z14a),(z9a,z15a,z6a),(z9a,z1a,z16a),(z9a,z3a,z16a),(z9a,z5a,z17a),(z9a,z4a,z6a),(z9a,z18a,z19a),(z9a,z20a,z19a),(z9a,z21a,z19a),(z9a,z22a,z6a),(z9a,z7a,z6a),(z9a,z0a,z6a),(z9a,z3a,z6a),(z9a,z2a,z6a)],[(z23a,z10a,z11a),(z23a,z12a,z11a),(z23a,z13a,z14a),(z23a,z15a,z6a),(z23a,z1a,z16a),(z23a,z3a,z16a),(z23a,z5a,z17a),(z23a,z4a,z6a),(z23a,z18a,z19a),(z23a,z20a,z19a),(z23a,z21a,z19a),(z23a,z22a,z6a),(z23a,z7a,z6a),(z23a,z0a,z6a),(z23a,z3a,z6a),(z23a,z2a,z6a)],[(z16a,z10a,z11a),(z16a,z12a,z11a),(z16a,z13a,z14a),(z16a,z15a,z6a),(z16a,z1a,z16a),(z16a,z3a,z16a),(z16a,z5a,z17a),(z16a,z4a,z6a),(z16a,z18a,z19a),(z16a,z20a,z19a),(z16a,z21a,z19a),(z16a,z22a,z6a),(z16a,z7a,z6a),(z16a,z0a,z6a),(z16a,z3a,z6a),(z16a,z2a,z6a)],[(z2a,z10a,z11a),(z2a,z12a,z11a),(z2a,z13a,z14a),(z2a,z15a,z6a),(z2a,z1a,z16a),(z2a,z3a,z16a),(z2a,z5a,z17a),(z2a,z4a,z6a),(z2a,z18a,z19a),(z2a,z20a,z19a),(z2a,z21a,z19a),(z2a,z22a,z6a),(z2a,z7a,z6a),(z2a,z0a,z6a),(z2a,z3a,z6a),(z2a,z2a,z6a)],[(z24a,z10a,z11a),(z24a,z12a,z11a),(z24a,z13a,z14a),(z24a,z15a,z6a),(z24a,z1a,z16a),(z24a,z3a,z16a),(z24a,z5a,z17a),(z24a,z4a,z6a),(z24a,z18a,z19a),(z24a,z20a,z19a),(z24a,z21a,z19a),(z24a,z22a,z6a),(z24a,z7a,z6a),(z24a,z0a,z6a),(z24a,z3a,z6a),(z24a,z2a,z6a)],[(z25a,z10a,z11a),(z25a,z12a,z11a),(z25a,z13a,z14a),(z25a,z15a,z6a),(z25a,z1a,z16a),(z25a,z3a,z16a),(z25a,z5a,z17a),(z25a,z4a,z6a),(z25a,z18a,z19a),(z25a,z20a,z19a),(z25a,z21a,z19a),(z25a,z22a,z6a),(z25a,z7a,z6a),(z25a,z0a,z6a),(z25a,z3a,z6a),(z25a,z2a,z6a)]]
noncomputable def s3A:List (List F3):=[[(z9a,z10a,z11a),(z16a,z10a,z11a),(z24a,z10a,z11a),(z26a,z10a,z11a),(z9a,z12a,z11a),(z16a,z12a,z11a),(z24a,z12a,z11a),(z26a,z12a,z11a),(z9a,z13a,z14a),(z16a,z13a,z14a),(z24a,z13a,z14a),(z26a,z13a,z14a),(z9a,z15a,z6a),(z16a,z15a,z6a),(z24a,z15a,z6a),(z26a,z15a,z6a)],[(z9a,z1a,z16a),(z16a,z1a,z16a),(z24a,z1a,z16a),(z26a,z1a,z16a),(z9a,z3a,z16a),(z16a,z3a,z16a),(z24a,z3a,z16a),(z26a,z3a,z16a),(z9a,z5a,z17a),(z16a,z5a,z17a),(z24a,z5a,z17a),(z26a,z5a,z17a),(z9a,z4a,z6a),(z16a,z4a,z6a),(z24a,z4a,z6a),(z26a,z4a,z6a)],[(z9a,z18a,z19a),(z16a,z18a,z19a),(z24a,z18a,z19a),(z26a,z18a,z19a),(z9a,z20a,z19a),(z16a,z20a,z19a),(z24a,z20a,z19a),(z26a,z20a,z19a),(z9a,z21a,z19a),(z16a,z21a,z19a),(z24a,z21a,z19a),(z26a,z21a,z19a),(z9a,z22a,z6a),(z16a,z22a,z6a),(z24a,z22a,z6a),(z26a,z22a,z6a)],[(z9a,z7a,z6a),(z16a,z7a,z6a),(z24a,z7a,z6a),(z26a,z7a,z6a),(z9a,z0a,z6a),(z16a,z0a,z6a),(z24a,z0a,z6a),(z26a,z0a,z6a),(z9a,z3a,z6a),(z16a,z3a,z6a),(z24a,z3a,z6a),(z26a,z3a,z6a),(z9a,z2a,z6a),(z16a,z2a,z6a),(z24a,z2a,z6a),(z26a,z2a,z6a)],[(z23a,z10a,z11a),(z2a,z10a,z11a),(z27a,z10a,z11a),(z28a,z10a,z11a),(z23a,z12a,z11a),(z2a,z12a,z11a),(z27a,z12a,z11a),(z28a,z12a,z11a),(z23a,z13a,z14a),(z2a,z13a,z14a),(z27a,z13a,z14a),(z28a,z13a,z14a),(z23a,z15a,z6a),(z2a,z15a,z6a),(z27a,z15a,z6a),(z28a,z15a,z6a)],[(z23a,z1a,z16a),(z2a,z1a,z16a),(z27a,z1a,z16a),(z28a,z1a,z16a),(z23a,z3a,z16a),(z2a,z3a,z16a),(z27a,z3a,z16a),(z28a,z3a,z16a),(z23a,z5a,z17a),(z2a,z5a,z17a),(z27a,z5a,z17a),(z28a,z5a,z17a),(z23a,z4a,z6a),(z2a,z4a,z6a),(z27a,z4a,z6a),(z28a,z4a,z6a)],[(z23a,z18a,z19a),(z2a,z18a,z19a),(z27a,z18a,z19a),(z28a,z18a,z19a),(z23a,z20a,z19a),(z2a,z20a,z19a),(z27a,z20a,z19a),(z28a,z20a,z19a),(z23a,z21a,z19a),(z2a,z21a,z19a),(z27a,z21a,z19a),(z28a,z21a,z19a),(z23a,z22a,z6a),(z2a,z22a,z6a),(z27a,z22a,z6a),(z28a,z22a,z6a)],[(z23a,z7a,z6a),(z2a,z7a,z6a),(z27a,z7a,z6a),(z28a,z7a,z6a),(z23a,z0a,z6a),(z2a,z0a,z6a),(z27a,z0a,z6a),(z28a,z0a,z6a),(z23a,z3a,z6a),(z2a,z3a,z6a),(z27a,z3a,z6a),(z28a,z3a,z6a),(z23a,z2a,z6a),(z2a,z2a,z6a),(z27a,z2a,z6a),(z28a,z2a,z6a)],[(z6a,z10a,z11a),(z29a,z10a,z11a),(z6a,z12a,z11a),(z29a,z12a,z11a),(z6a,z13a,z14a),(z29a,z13a,z14a),(z6a,z15a,z6a),(z29a,z15a,z6a),(z6a,z1a,z16a),(z29a,z1a,z16a),(z6a,z3a,z16a),(z29a,z3a,z16a),(z6a,z5a,z17a),(z29a,z5a,z17a),(z6a,z4a,z6a),(z29a,z4a,z6a)],[(z6a,z18a,z19a),(z29a,z18a,z19a),(z6a,z20a,z19a),(z29a,z20a,z19a),(z6a,z21a,z19a),(z29a,z21a,z19a),(z6a,z22a,z6a),(z29a,z22a,z6a),(z6a,z7a,z6a),(z29a,z7a,z6a),(z6a,z0a,z6a),(z29a,z0a,z6a),(z6a,z3a,z6a),(z29a,z3a,z6a),(z6a,z2a,z6a),(z29a,z2a,z6a)],[(z30a,z10a,z11a),(z31a,z10a,z11a),(z30a,z12a,z11a),(z31a,z12a,z11a),(z30a,z13a,z14a),(z31a,z13a,z14a),(z30a,z15a,z6a),(z31a,z15a,z6a),(z30a,z1a,z16a),(z31a,z1a,z16a),(z30a,z3a,z16a),(z31a,z3a,z16a),(z30a,z5a,z17a),(z31a,z5a,z17a),(z30a,z4a,z6a),(z31a,z4a,z6a)],[(z30a,z18a,z19a),(z31a,z18a,z19a),(z30a,z20a,z19a),(z31a,z20a,z19a),(z30a,z21a,z19a),(z31a,z21a,z19a),(z30a,z22a,z6a),(z31a,z22a,z6a),(z30a,z7a,z6a),(z31a,z7a,z6a),(z30a,z0a,z6a),(z31a,z0a,z6a),(z30a,z3a,z6a),(z31a,z3a,z6a),(z30a,z2a,z6a),(z31a,z2a,z6a)],[(z32a,z10a,z11a),(z32a,z12a,z11a),(z32a,z13a,z14a),(z32a,z15a,z6a),(z32a,z1a,z16a),(z32a,z3a,z16a),(z32a,z5a,z17a),(z32a,z4a,z6a),(z32a,z18a,z19a),(z32a,z20a,z19a),(z32a,z21a,z19a),(z32a,z22a,z6a),(z32a,z7a,z6a),(z32a,z0a,z6a),(z32a,z3a,z6a),(z32a,z2a,z6a)],[(z25a,z10a,z11a),(z33a,z10a,z11a),(z34a,z10a,z11a),(z25a,z12a,z11a),(z33a,z12a,z11a),(z34a,z12a,z11a),(z25a,z13a,z14a),(z33a,z13a,z14a),(z34a,z13a,z14a),(z25a,z15a,z6a),(z33a,z15a,z6a),(z34a,z15a,z6a),(z25a,z1a,z16a),(z33a,z1a,z16a),(z34a,z1a,z16a),(z25a,z3a,z16a)],[(z33a,z3a,z16a),(z34a,z3a,z16a),(z25a,z5a,z17a),(z33a,z5a,z17a),(z34a,z5a,z17a),(z25a,z4a,z6a),(z33a,z4a,z6a),(z34a,z4a,z6a),(z25a,z18a,z19a),(z33a,z18a,z19a),(z34a,z18a,z19a),(z25a,z20a,z19a),(z33a,z20a,z19a),(z34a,z20a,z19a),(z25a,z21a,z19a),(z33a,z21a,z19a)],[(z34a,z21a,z19a),(z25a,z22a,z6a),(z33a,z22a,z6a),(z34a,z22a,z6a),(z25a,z7a,z6a),(z33a,z7a,z6a),(z34a,z7a,z6a),(z25a,z0a,z6a),(z33a,z0a,z6a),(z34a,z0a,z6a),(z25a,z3a,z6a),(z33a,z3a,z6a),(z34a,z3a,z6a),(z25a,z2a,z6a),(z33a,z2a,z6a),(z34a,z2a,z6a)]]
noncomputable def s4A:List (List F3):=[[(z0a,z1a,z1a),(z1a,z0a,z1a),(z1a,z1a,z0a),(z35a,z0a,z1a),(z2a,z3a,z3a),(z3a,z2a,z3a),(z3a,z3a,z2a),(z36a,z2a,z3a),(z4a,z5a,z5a),(z5a,z4a,z5a),(z5a,z5a,z4a),(z37a,z4a,z5a),(z6a,z4a,z4a),(z4a,z6a,z4a),(z4a,z4a,z6a),(z38a,z6a,z4a)],[(z0a,z7a,z7a),(z7a,z0a,z7a),(z7a,z7a,z0a),(z39a,z0a,z7a),(z2a,z0a,z0a),(z0a,z2a,z0a),(z0a,z0a,z2a),(z40a,z2a,z0a),(z4a,z3a,z3a),(z3a,z4a,z3a),(z3a,z3a,z4a),(z41a,z4a,z3a),(z6a,z2a,z2a),(z2a,z6a,z2a),(z2a,z2a,z6a),(z42a,z6a,z2a)],[(z0a,z8a,z8a),(z8a,z0a,z8a),(z8a,z8a,z0a),(z43a,z0a,z8a),(z2a,z7a,z7a),(z7a,z2a,z7a),(z7a,z7a,z2a),(z44a,z2a,z7a),(z4a,z1a,z1a),(z1a,z4a,z1a),(z1a,z1a,z4a),(z45a,z4a,z1a),(z6a,z0a,z0a),(z0a,z6a,z0a),(z0a,z0a,z6a),(z46a,z6a,z0a)],[(z0a,z9a,z9a),(z9a,z0a,z9a),(z9a,z9a,z0a),(z47a,z0a,z9a),(z2a,z9a,z9a),(z9a,z2a,z9a),(z9a,z9a,z2a),(z48a,z2a,z9a),(z4a,z9a,z9a),(z9a,z4a,z9a),(z9a,z9a,z4a),(z49a,z4a,z9a),(z6a,z9a,z9a),(z9a,z6a,z9a),(z9a,z9a,z6a),(z50a,z6a,z9a)],[(z0a,z0a,z1a),(z1a,z0a,z0a),(z51a,z1a,z0a),(z2a,z2a,z3a),(z3a,z2a,z2a),(z52a,z3a,z2a),(z4a,z4a,z5a),(z5a,z4a,z4a),(z53a,z5a,z4a),(z6a,z6a,z4a),(z4a,z6a,z6a),(z54a,z4a,z6a),(z55a,z0a,z7a),(z7a,z55a,z0a),(z56a,z7a,z0a),(z57a,z2a,z0a)],[(z0a,z57a,z2a),(z58a,z0a,z2a),(z59a,z4a,z3a),(z3a,z59a,z4a),(z60a,z3a,z4a),(z61a,z6a,z2a),(z2a,z61a,z6a),(z62a,z2a,z6a),(z51a,z0a,z8a),(z8a,z51a,z0a),(z63a,z8a,z0a),(z52a,z2a,z7a),(z7a,z52a,z2a),(z64a,z7a,z2a),(z53a,z4a,z1a),(z1a,z53a,z4a)],[(z65a,z1a,z4a),(z54a,z6a,z0a),(z0a,z54a,z6a),(z66a,z0a,z6a),(z51a,z0a,z9a),(z9a,z51a,z0a),(z67a,z9a,z0a),(z52a,z2a,z9a),(z9a,z52a,z2a),(z68a,z9a,z2a),(z53a,z4a,z9a),(z9a,z53a,z4a),(z69a,z9a,z4a),(z54a,z6a,z9a),(z9a,z54a,z6a),(z70a,z9a,z6a)],[(z1a,z35a,z0a),(z3a,z36a,z2a),(z5a,z37a,z4a),(z4a,z38a,z6a),(z7a,z39a,z0a),(z0a,z40a,z2a),(z3a,z41a,z4a),(z2a,z42a,z6a),(z8a,z43a,z0a),(z7a,z44a,z2a),(z1a,z45a,z4a),(z0a,z46a,z6a),(z9a,z47a,z0a),(z9a,z48a,z2a),(z9a,z49a,z4a),(z9a,z50a,z6a)],[(z0a,z51a,z1a),(z2a,z52a,z3a),(z4a,z53a,z5a),(z6a,z54a,z4a),(z0a,z56a,z7a),(z56a,z7a,z55a),(z2a,z58a,z0a),(z58a,z0a,z57a),(z4a,z60a,z3a),(z60a,z3a,z59a),(z6a,z62a,z2a),(z62a,z2a,z61a),(z0a,z63a,z8a),(z63a,z8a,z51a),(z2a,z64a,z7a),(z64a,z7a,z52a)],[(z4a,z65a,z1a),(z65a,z1a,z53a),(z6a,z66a,z0a),(z66a,z0a,z54a),(z0a,z67a,z9a),(z67a,z9a,z51a),(z2a,z68a,z9a),(z68a,z9a,z52a),(z4a,z69a,z9a),(z69a,z9a,z53a),(z6a,z70a,z9a),(z70a,z9a,z54a),(z0a,z1a,z0a),(z2a,z3a,z2a),(z4a,z5a,z4a),(z6a,z4a,z6a)],[(z0a,z7a,z55a),(z55a,z56a,z7a),(z2a,z0a,z57a),(z57a,z58a,z0a),(z4a,z3a,z59a),(z59a,z60a,z3a),(z6a,z2a,z61a),(z61a,z62a,z2a),(z0a,z8a,z51a),(z51a,z63a,z8a),(z2a,z7a,z52a),(z52a,z64a,z7a),(z4a,z1a,z53a),(z53a,z65a,z1a),(z6a,z0a,z54a),(z54a,z66a,z0a)],[(z0a,z9a,z51a),(z51a,z67a,z9a),(z2a,z9a,z52a),(z52a,z68a,z9a),(z4a,z9a,z53a),(z53a,z69a,z9a),(z6a,z9a,z54a),(z54a,z70a,z9a)]]
noncomputable def s4H:List (List F3):=[[(z9a,z0a,z0a),(z16a,z0a,z0a),(z24a,z0a,z0a),(z71a,z0a,z0a),(z9a,z0a,z2a),(z16a,z0a,z2a),(z24a,z0a,z2a),(z71a,z0a,z2a),(z9a,z0a,z4a),(z16a,z0a,z4a),(z24a,z0a,z4a),(z72a,z0a,z4a),(z9a,z0a,z6a),(z16a,z0a,z6a),(z24a,z0a,z6a),(z71a,z0a,z6a)],[(z9a,z2a,z0a),(z16a,z2a,z0a),(z24a,z2a,z0a),(z71a,z2a,z0a),(z9a,z2a,z2a),(z16a,z2a,z2a),(z24a,z2a,z2a),(z71a,z2a,z2a),(z9a,z2a,z4a),(z16a,z2a,z4a),(z24a,z2a,z4a),(z72a,z2a,z4a),(z9a,z2a,z6a),(z16a,z2a,z6a),(z24a,z2a,z6a),(z71a,z2a,z6a)],[(z9a,z4a,z0a),(z16a,z4a,z0a),(z24a,z4a,z0a),(z72a,z4a,z0a),(z9a,z4a,z2a),(z16a,z4a,z2a),(z24a,z4a,z2a),(z72a,z4a,z2a),(z9a,z4a,z4a),(z16a,z4a,z4a),(z24a,z4a,z4a),(z71a,z4a,z4a),(z9a,z4a,z6a),(z16a,z4a,z6a),(z24a,z4a,z6a),(z72a,z4a,z6a)],[(z9a,z6a,z0a),(z16a,z6a,z0a),(z24a,z6a,z0a),(z71a,z6a,z0a),(z9a,z6a,z2a),(z16a,z6a,z2a),(z24a,z6a,z2a),(z71a,z6a,z2a),(z9a,z6a,z4a),(z16a,z6a,z4a),(z24a,z6a,z4a),(z72a,z6a,z4a),(z9a,z6a,z6a),(z16a,z6a,z6a),(z24a,z6a,z6a),(z71a,z6a,z6a)],[(z23a,z0a,z0a),(z2a,z0a,z0a),(z73a,z0a,z0a),(z23a,z0a,z2a),(z2a,z0a,z2a),(z73a,z0a,z2a),(z23a,z0a,z4a),(z2a,z0a,z4a),(z73a,z0a,z4a),(z23a,z0a,z6a),(z2a,z0a,z6a),(z73a,z0a,z6a),(z23a,z2a,z0a),(z2a,z2a,z0a),(z73a,z2a,z0a),(z23a,z2a,z2a)],[(z2a,z2a,z2a),(z73a,z2a,z2a),(z74a,z2a,z4a),(z2a,z2a,z4a),(z73a,z2a,z4a),(z23a,z2a,z6a),(z2a,z2a,z6a),(z73a,z2a,z6a),(z74a,z4a,z0a),(z2a,z4a,z0a),(z73a,z4a,z0a),(z74a,z4a,z2a),(z2a,z4a,z2a),(z73a,z4a,z2a),(z74a,z4a,z4a),(z2a,z4a,z4a)],[(z73a,z4a,z4a),(z74a,z4a,z6a),(z2a,z4a,z6a),(z73a,z4a,z6a),(z23a,z6a,z0a),(z2a,z6a,z0a),(z73a,z6a,z0a),(z23a,z6a,z2a),(z2a,z6a,z2a),(z73a,z6a,z2a),(z74a,z6a,z4a),(z2a,z6a,z4a),(z73a,z6a,z4a),(z23a,z6a,z6a),(z2a,z6a,z6a),(z73a,z6a,z6a)],[(z75a,z0a,z0a),(z75a,z0a,z2a),(z75a,z0a,z4a),(z75a,z0a,z6a),(z75a,z2a,z0a),(z75a,z2a,z2a),(z75a,z2a,z4a),(z75a,z2a,z6a),(z75a,z4a,z0a),(z75a,z4a,z2a),(z75a,z4a,z4a),(z75a,z4a,z6a),(z75a,z6a,z0a),(z75a,z6a,z2a),(z75a,z6a,z4a),(z75a,z6a,z6a)],[(z76a,z0a,z0a),(z76a,z0a,z2a),(z77a,z0a,z4a),(z76a,z0a,z6a),(z76a,z2a,z0a),(z73a,z57a,z55a),(z76a,z2a,z2a),(z73a,z57a,z57a),(z76a,z2a,z4a),(z73a,z57a,z59a),(z76a,z2a,z6a),(z73a,z57a,z61a),(z76a,z4a,z0a),(z73a,z59a,z51a),(z76a,z4a,z2a),(z73a,z59a,z52a)],[(z78a,z4a,z4a),(z25a,z59a,z53a),(z76a,z4a,z6a),(z73a,z59a,z54a),(z76a,z6a,z0a),(z73a,z6a,z51a),(z76a,z6a,z2a),(z73a,z6a,z52a),(z76a,z6a,z4a),(z73a,z6a,z53a),(z76a,z6a,z6a),(z73a,z6a,z54a),(z25a,z0a,z0a),(z25a,z0a,z2a),(z25a,z0a,z4a),(z25a,z0a,z6a)],[(z25a,z2a,z0a),(z78a,z57a,z55a),(z25a,z2a,z2a),(z78a,z57a,z57a),(z25a,z2a,z4a),(z79a,z57a,z59a),(z25a,z2a,z6a),(z78a,z57a,z61a),(z25a,z4a,z0a),(z79a,z59a,z51a),(z25a,z4a,z2a),(z79a,z59a,z52a),(z25a,z4a,z4a),(z80a,z59a,z53a),(z25a,z4a,z6a),(z79a,z59a,z54a)],[(z25a,z6a,z0a),(z78a,z6a,z51a),(z25a,z6a,z2a),(z78a,z6a,z52a),(z25a,z6a,z4a),(z79a,z6a,z53a),(z25a,z6a,z6a),(z78a,z6a,z54a)]]
noncomputable def s4R:List (List (Nat × Nat × Nat)):=[[(0,1,1),(2,1,1),(4,1,1),(2,1,1),(0,1,2),(2,1,2),(4,1,2),(2,1,2),(0,1,3),(2,1,3),(4,1,3),(2,1,3),(0,1,4),(2,1,4),(4,1,4),(2,1,4)],[(0,2,1),(2,2,1),(4,2,1),(2,2,1),(0,2,2),(2,2,2),(4,2,2),(2,2,2),(0,2,3),(2,2,3),(4,2,3),(2,2,3),(0,2,4),(2,2,4),(4,2,4),(2,2,4)],[(0,3,1),(2,3,1),(4,3,1),(2,3,1),(0,3,2),(2,3,2),(4,3,2),(2,3,2),(0,3,3),(2,3,3),(4,3,3),(2,3,3),(0,3,4),(2,3,4),(4,3,4),(2,3,4)],[(0,4,1),(2,4,1),(4,4,1),(2,4,1),(0,4,2),(2,4,2),(4,4,2),(2,4,2),(0,4,3),(2,4,3),(4,4,3),(2,4,3),(0,4,4),(2,4,4),(4,4,4),(2,4,4)],[(1,1,1),(3,1,1),(5,1,1),(1,1,2),(3,1,2),(5,1,2),(1,1,3),(3,1,3),(5,1,3),(1,1,4),(3,1,4),(5,1,4),(1,2,1),(3,2,1),(5,2,1),(1,2,2)],[(3,2,2),(5,2,2),(1,2,3),(3,2,3),(5,2,3),(1,2,4),(3,2,4),(5,2,4),(1,3,1),(3,3,1),(5,3,1),(1,3,2),(3,3,2),(5,3,2),(1,3,3),(3,3,3)],[(5,3,3),(1,3,4),(3,3,4),(5,3,4),(1,4,1),(3,4,1),(5,4,1),(1,4,2),(3,4,2),(5,4,2),(1,4,3),(3,4,3),(5,4,3),(1,4,4),(3,4,4),(5,4,4)],[(4,1,1),(4,1,2),(4,1,3),(4,1,4),(4,2,1),(4,2,2),(4,2,3),(4,2,4),(4,3,1),(4,3,2),(4,3,3),(4,3,4),(4,4,1),(4,4,2),(4,4,3),(4,4,4)],[(1,1,1),(1,1,2),(1,1,3),(1,1,4),(1,2,1),(5,2,1),(1,2,2),(5,2,2),(1,2,3),(5,2,3),(1,2,4),(5,2,4),(1,3,1),(5,3,1),(1,3,2),(5,3,2)],[(1,3,3),(5,3,3),(1,3,4),(5,3,4),(1,4,1),(5,4,1),(1,4,2),(5,4,2),(1,4,3),(5,4,3),(1,4,4),(5,4,4),(5,1,1),(5,1,2),(5,1,3),(5,1,4)],[(5,2,1),(1,2,1),(5,2,2),(1,2,2),(5,2,3),(1,2,3),(5,2,4),(1,2,4),(5,3,1),(1,3,1),(5,3,2),(1,3,2),(5,3,3),(1,3,3),(5,3,4),(1,3,4)],[(5,4,1),(1,4,1),(5,4,2),(1,4,2),(5,4,3),(1,4,3),(5,4,4),(1,4,4)]]
noncomputable def f1:List (List Nat):=[[0,1,2,3,4,5,6,7,8,9,10,11,12,13,14,15],[16,17,18,19,20,21,22,23,24,25,26,27,28,29,30,31],[32,33,34,35,36,37,38,39,40,41,42,43,44,45,46,47],[48,49,50,51,52,53,54,55,56,57,58,59,60,61,62,63],[64,65,66,67,68,69,70,71,72,73,74,75,76,77,78,79],[80,81,82,83,84,85,86,87,88,89,90,91,92,93,94,95],[0,1,2,3,4,5,6,7,8,9,10,11,12,13,14,15],[16,17,18,19,20,21,22,23,24,25,26,27,28,29,30,31],[32,33,34,35,36,37,38,39,40,41,42,43,44,45,46,47],[48,49,50,51,52,53,54,55,56,57,58,59,60,61,62,63],[64,65,66,67,68,69,70,71,72,73,74,75,76,77,78,79],[80,81,82,83,84,85,86,87,88,89,90,91,92,93,94,95],[0,1,2,3,4,5,6,7,8,9,10,11,12,13,14,15],[16,17,18,19,20,21,22,23,24,25,26,27,28,29,30,31]]
noncomputable def f2:List (List Nat):=[[0,1,2,3,4,5,6,7,8,9,10,11,12,13,14,15],[16,17,18,19,20,21,22,23,24,25,26,27,28,29,30,31],[32,33,34,35,36,37,38,39,40,41,42,43,44,45,46,47],[48,49,50,51,52,53,54,55,56,57,58,59,60,61,62,63],[64,65,66,67,68,69,70,71,72,73,74,75,76,77,78,79],[80,81,82,83,84,85,86,87,88,89,90,91,92,93,94,95],[96,97,98,99,100,101,102,103,104,105,106,107,108,109,110,111],[112,113,114,115,116,117,118,119,120,121,122,123,124,125,126,127],[1,2,128,129,5,6,130,131,9,10,132,133,13,14,134,135],[17,18,136,137,21,22,138,139,25,26,140,141,29,30,142,143],[33,34,144,145,37,38,146,147,41,42,148,149,45,46,150,151],[49,50,152,153,53,54,154,155,57,58,156,157,61,62,158,159],[65,66,160,161,69,70,162,163,73,74,164,165,77,78,166,167],[81,82,168,169,85,86,170,171,89,90,172,173,93,94,174,175],[97,98,176,177,101,102,178,179,105,106,180,181,109,110,182,183],[113,114,184,185,117,118,186,187,121,122,188,189,125,126,190,191],[2,128,3,192,6,130,7,193,10,132,11,194,14,134,15,195],[18,136,19,196,22,138,23,197,26,140,27,198,30,142,31,199],[34,144,35,200,38,146,39,201,42,148,43,202,46,150,47,203],[50,152,51,204,54,154,55,205,58,156,59,206,62,158,63,207],[208,209,67,210,211,212,71,213,214,215,75,216,217,218,79,219],[220,221,83,222,223,224,87,225,226,227,91,228,229,230,95,231],[232,233,99,234,235,236,103,237,238,239,107,240,241,242,111,243],[244,245,115,246,247,248,119,249,250,251,123,252,253,254,127,255]]
noncomputable def f3:List (List Nat):=[[0,1,2,3,4,5,6,7,8,9,10,11,12,13,14,15],[16,17,18,19,20,21,22,23,24,25,26,27,28,29,30,31],[32,33,34,35,36,37,38,39,40,41,42,43,44,45,46,47],[48,49,50,51,52,53,54,55,56,57,58,59,60,61,62,63],[64,65,66,65,67,68,69,68,70,71,72,71,73,74,75,74],[76,77,78,77,79,80,81,80,82,83,84,83,85,86,87,86],[88,89,90,89,91,92,93,92,94,95,96,95,97,98,99,98],[100,101,102,101,103,104,105,104,106,107,108,107,109,110,111,110],[0,112,4,113,8,114,12,115,16,116,20,117,24,118,28,119],[32,120,36,121,40,122,44,123,48,124,52,125,56,126,60,127],[128,66,129,69,130,72,131,75,132,133,134,135,136,137,138,139],[140,141,142,143,144,145,146,147,148,149,150,151,152,153,154,155],[0,4,8,12,16,20,24,28,32,36,40,44,48,52,56,60],[156,64,128,157,67,129,158,70,130,159,73,131,160,76,161,162],[79,163,164,82,165,166,85,167,168,88,169,170,91,171,172,94],[173,174,97,175,176,100,177,178,103,179,180,106,181,182,109,183]]
noncomputable def at2 {α:Type} (l:List (List α)) (k:Nat) (d:α):α:=(l.getD (k / 16) []).getD (k % 16) d
noncomputable def flts?:List AV→Option (List UInt64)
  | []=>some []
  | x::l=>x.flt?.bind fun a=>(flts? l).map (a::·)
theorem flts_inv:∀ {l:List AV} {r:List UInt64},flts? l=some r→l=r.map .flt
  | [],r,e=>by cases e; rfl
  | x::l,r,e=>obC e fun a ha e=>omC e fun r' hr e=>by rw [← e,AV.flt?_inv ha,flts_inv hr]; rfl
noncomputable def is3 (r:Option AV) (x:F3):Bool:=(r.bind AV.tup?).bind flts? == some [x.1,x.2.1,x.2.2]
theorem is3_inv {r:Option AV} {x:F3} (h:is3 r x=true):r=some (.tup [.flt x.1,.flt x.2.1,.flt x.2.2]) :=
  obC (beq_iff_eq.mp h) fun l hl e=>obC hl fun v hv hl=>by rw [hv,AV.tup?_inv hl,flts_inv e]; rfl
noncomputable def isF (r:Option AV) (x:UInt64):Bool:=r.bind AV.flt? == some x
theorem isF_inv {r:Option AV} {x:UInt64} (h:isF r x=true):r=some (.flt x):=obC (beq_iff_eq.mp h) fun v hv e=>by rw [hv,AV.flt?_inv e]
noncomputable def isZ (r:Option AV) (x:Nat):Bool:=r.bind AV.int? == some (x:Int)
theorem isZ_inv {r:Option AV} {x:Nat} (h:isZ r x=true):r=some (.int (x:Nat)):=obC (beq_iff_eq.mp h) fun v hv e=>by rw [hv,AV.int?_inv e]
noncomputable def g2 (j:Nat):F3:=at2 s2A j (0,0,0)
noncomputable def gH (j:Nat):F3:=at2 s2H j (0,0,0)
noncomputable def g3 (j:Nat):F3:=at2 s3A j (0,0,0)
noncomputable def g4 (j:Nat):F3:=at2 s4A j (0,0,0)
noncomputable def gV (j:Nat):F3:=at2 s4H j (0,0,0)
noncomputable def gR (j:Nat):Nat × Nat × Nat:=at2 s4R j (0,0,0)
noncomputable def a3 (x:F3):List AV:=[.flt x.1,.flt x.2.1,.flt x.2.2]
noncomputable def k1 (n k:Nat):Bool:=is3 ((tabN (n+1)).fn .hsvRgb [.flt (hT.getD (k / 16) 0),.flt (qT.getD (k / 4 % 4) 0),.flt (qT.getD (k % 4) 0)]) (g2 (at2 f1 k 0))
noncomputable def k2 (n k:Nat):Bool:=is3 ((tabN (n+1)).fn .rgbHls (a3 (g2 k))) (gH k)
noncomputable def k2b (k:Nat):Bool:=isF (binV .add (.flt (gH (k / 4)).1) (.flt (colT.getD (k % 4) 0))) (g3 (at2 f2 k 0)).1 && (g3 (at2 f2 k 0)).2 == (gH (k / 4)).2
noncomputable def k3 (n k:Nat):Bool:=is3 ((tabN (n+2)).fn .hlsRgb (a3 (g3 k))) (g4 (at2 f3 k 0))
noncomputable def k4 (n k:Nat):Bool:=is3 ((tabN (n+1)).fn .rgbHsv (a3 (g4 k))) (gV k)
noncomputable def fin (m:Int) (x:UInt64):Option AV:=(binV .mul (.int m) (.flt x)).bind fun y=>(binV .add y (.int 1)).bind fun z=>(p1V .intf z).bind fun i=>binV .fdiv i (.int 2)
noncomputable def k4b (k:Nat):Bool:=isZ (fin 12 (gV k).1) (gR k).1 && isZ (fin 8 (gV k).2.1) (gR k).2.1 && isZ (fin 8 (gV k).2.2) (gR k).2.2
noncomputable def colOf (c:Nat):Nat:=if c=4 then 3 else c
noncomputable def k5 (k c:Nat):Bool:=(fun a:Nat × Nat × Nat=>(((a.1:Int) - (k / 16 % 2:Nat)).fmod 6).fdiv 2 == (((k / 32+c) % 3:Nat):Int) && a.2.1 == 1+k / 4 % 4 && a.2.2 == 1+k % 4) (gR (at2 f3 (at2 f2 (4 * at2 f1 k 0+colOf c) 0) 0))
theorem hT_ok:(List.range 14).all (fun i=>isF (binV .tdiv (.int (i:Nat)) (.int 6)) (hT.getD i 0))=true:=by kernel_rfl
theorem qT_ok:(List.range 4).all (fun i=>isF (binV .tdiv (.int (1+i:Nat)) (.int 4)) (qT.getD i 0))=true:=by kernel_rfl
theorem colT_ok:([0,1,2,4]:List Nat).all (fun c=>isF (binV .tdiv (.int (c:Nat)) (.int 3)) (colT.getD (colOf c) 0))=true:=by kernel_rfl
theorem k1_a (n:Nat):(List.range' 0 56).all (k1 n)=true:=by kernel_rfl
theorem k1_b (n:Nat):(List.range' 56 56).all (k1 n)=true:=by kernel_rfl
theorem k1_c (n:Nat):(List.range' 112 56).all (k1 n)=true:=by kernel_rfl
theorem k1_d (n:Nat):(List.range' 168 56).all (k1 n)=true:=by kernel_rfl
theorem k1_ok (n:Nat):∀ k,k < 224→k1 n k=true:=by
  intro k hk
  by_cases qa:k < 56
  · exact List.all_eq_true.mp (k1_a n) k (List.mem_range'_1.mpr ⟨by omega,by omega⟩)
  by_cases qb:k < 112
  · exact List.all_eq_true.mp (k1_b n) k (List.mem_range'_1.mpr ⟨by omega,by omega⟩)
  by_cases qc:k < 168
  · exact List.all_eq_true.mp (k1_c n) k (List.mem_range'_1.mpr ⟨by omega,by omega⟩)
  by_cases qd:k < 224
  · exact List.all_eq_true.mp (k1_d n) k (List.mem_range'_1.mpr ⟨by omega,by omega⟩)
  omega
theorem k2_a (n:Nat):(List.range' 0 48).all (k2 n)=true:=by kernel_rfl
theorem k2_b (n:Nat):(List.range' 48 48).all (k2 n)=true:=by kernel_rfl
theorem k2_ok (n:Nat):∀ k,k < 96→k2 n k=true:=by
  intro k hk
  by_cases qa:k < 48
  · exact List.all_eq_true.mp (k2_a n) k (List.mem_range'_1.mpr ⟨by omega,by omega⟩)
  by_cases qb:k < 96
  · exact List.all_eq_true.mp (k2_b n) k (List.mem_range'_1.mpr ⟨by omega,by omega⟩)
  omega
theorem k2b_a:(List.range' 0 384).all (k2b)=true:=by kernel_rfl
theorem k2b_ok:∀ k,k < 384→k2b k=true:=by
  intro k hk
  by_cases qa:k < 384
  · exact List.all_eq_true.mp (k2b_a) k (List.mem_range'_1.mpr ⟨by omega,by omega⟩)
  omega
theorem k3_a (n:Nat):(List.range' 0 32).all (k3 n)=true:=by kernel_rfl
theorem k3_b (n:Nat):(List.range' 32 32).all (k3 n)=true:=by kernel_rfl
theorem k3_c (n:Nat):(List.range' 64 32).all (k3 n)=true:=by kernel_rfl
theorem k3_d (n:Nat):(List.range' 96 32).all (k3 n)=true:=by kernel_rfl
theorem k3_e (n:Nat):(List.range' 128 32).all (k3 n)=true:=by kernel_rfl
theorem k3_f (n:Nat):(List.range' 160 32).all (k3 n)=true:=by kernel_rfl
theorem k3_g (n:Nat):(List.range' 192 32).all (k3 n)=true:=by kernel_rfl
theorem k3_h (n:Nat):(List.range' 224 32).all (k3 n)=true:=by kernel_rfl
theorem k3_ok (n:Nat):∀ k,k < 256→k3 n k=true:=by
  intro k hk
  by_cases qa:k < 32
  · exact List.all_eq_true.mp (k3_a n) k (List.mem_range'_1.mpr ⟨by omega,by omega⟩)
  by_cases qb:k < 64
  · exact List.all_eq_true.mp (k3_b n) k (List.mem_range'_1.mpr ⟨by omega,by omega⟩)
  by_cases qc:k < 96
  · exact List.all_eq_true.mp (k3_c n) k (List.mem_range'_1.mpr ⟨by omega,by omega⟩)
  by_cases qd:k < 128
  · exact List.all_eq_true.mp (k3_d n) k (List.mem_range'_1.mpr ⟨by omega,by omega⟩)
  by_cases qe:k < 160
  · exact List.all_eq_true.mp (k3_e n) k (List.mem_range'_1.mpr ⟨by omega,by omega⟩)
  by_cases qf:k < 192
  · exact List.all_eq_true.mp (k3_f n) k (List.mem_range'_1.mpr ⟨by omega,by omega⟩)
  by_cases qg:k < 224
  · exact List.all_eq_true.mp (k3_g n) k (List.mem_range'_1.mpr ⟨by omega,by omega⟩)
  by_cases qh:k < 256
  · exact List.all_eq_true.mp (k3_h n) k (List.mem_range'_1.mpr ⟨by omega,by omega⟩)
  omega
theorem k4_a (n:Nat):(List.range' 0 46).all (k4 n)=true:=by kernel_rfl
theorem k4_b (n:Nat):(List.range' 46 46).all (k4 n)=true:=by kernel_rfl
theorem k4_c (n:Nat):(List.range' 92 46).all (k4 n)=true:=by kernel_rfl
theorem k4_d (n:Nat):(List.range' 138 46).all (k4 n)=true:=by kernel_rfl
theorem k4_ok (n:Nat):∀ k,k < 184→k4 n k=true:=by
  intro k hk
  by_cases qa:k < 46
  · exact List.all_eq_true.mp (k4_a n) k (List.mem_range'_1.mpr ⟨by omega,by omega⟩)
  by_cases qb:k < 92
  · exact List.all_eq_true.mp (k4_b n) k (List.mem_range'_1.mpr ⟨by omega,by omega⟩)
  by_cases qc:k < 138
  · exact List.all_eq_true.mp (k4_c n) k (List.mem_range'_1.mpr ⟨by omega,by omega⟩)
  by_cases qd:k < 184
  · exact List.all_eq_true.mp (k4_d n) k (List.mem_range'_1.mpr ⟨by omega,by omega⟩)
  omega
theorem k4b_a:(List.range' 0 92).all (k4b)=true:=by kernel_rfl
theorem k4b_b:(List.range' 92 92).all (k4b)=true:=by kernel_rfl
theorem k4b_ok:∀ k,k < 184→k4b k=true:=by
  intro k hk
  by_cases qa:k < 92
  · exact List.all_eq_true.mp (k4b_a) k (List.mem_range'_1.mpr ⟨by omega,by omega⟩)
  by_cases qb:k < 184
  · exact List.all_eq_true.mp (k4b_b) k (List.mem_range'_1.mpr ⟨by omega,by omega⟩)
  omega
theorem k50_a:(List.range' 0 224).all ((k5 · 0))=true:=by kernel_rfl
theorem k50_ok:∀ k,k < 224→(k5 · 0) k=true:=by
  intro k hk
  by_cases qa:k < 224
  · exact List.all_eq_true.mp (k50_a) k (List.mem_range'_1.mpr ⟨by omega,by omega⟩)
  omega
theorem k51_a:(List.range' 0 224).all ((k5 · 1))=true:=by kernel_rfl
theorem k51_ok:∀ k,k < 224→(k5 · 1) k=true:=by
  intro k hk
  by_cases qa:k < 224
  · exact List.all_eq_true.mp (k51_a) k (List.mem_range'_1.mpr ⟨by omega,by omega⟩)
  omega
theorem k52_a:(List.range' 0 224).all ((k5 · 2))=true:=by kernel_rfl
theorem k52_ok:∀ k,k < 224→(k5 · 2) k=true:=by
  intro k hk
  by_cases qa:k < 224
  · exact List.all_eq_true.mp (k52_a) k (List.mem_range'_1.mpr ⟨by omega,by omega⟩)
  omega
theorem k54_a:(List.range' 0 224).all ((k5 · 4))=true:=by kernel_rfl
theorem k54_ok:∀ k,k < 224→(k5 · 4) k=true:=by
  intro k hk
  by_cases qa:k < 224
  · exact List.all_eq_true.mp (k54_a) k (List.mem_range'_1.mpr ⟨by omega,by omega⟩)
  omega
theorem f_lt:(List.range 224).all (fun k=>at2 f1 k 0 < 96)=true∧(List.range 384).all (fun k=>at2 f2 k 0 < 256)=true∧(List.range 256).all (fun k=>at2 f3 k 0 < 184)=true:=⟨by kernel_rfl,by kernel_rfl,by kernel_rfl⟩
end Mine
set_option linter.unusedSimpArgs false
namespace Mine
open PySem PyProof.Rows
theorem at_range {n k:Nat} {p:Nat→Bool} (h:(List.range n).all p=true) (hk:k < n):p k=true:=List.all_eq_true.mp h k (List.mem_range.mpr hk)
theorem rank_nat {r e s v:Nat} (hr:r < 7) (i1:e < 2) (i2:s < 4) (i3:v < 4):16 * (2 * r+e)+4 * s+v < 224∧(16 * (2 * r+e)+4 * s+v) / 16=2 * r+e∧(16 * (2 * r+e)+4 * s+v) / 4 % 4=s∧(16 * (2 * r+e)+4 * s+v) % 4=v∧(16 * (2 * r+e)+4 * s+v) / 32=r∧(16 * (2 * r+e)+4 * s+v) / 16 % 2=e :=
  ⟨by omega,by omega,by omega,by omega,by omega,by omega⟩
theorem rank_col {c J:Nat} (hc:c < 4) (hJ:J < 96):4 * J+c < 384∧(4 * J+c) / 4=J∧(4 * J+c) % 4=c:=⟨by omega,by omega,by omega⟩
theorem c_rank (n:Nat) {r c:Nat} (hr:r < 7) (hc:c=0∨c=1∨c=2∨c=4) (t:Int) :
    (tabN (n+3)).fn .rank [.int (r:Nat),.int (c:Nat),.int t]=some (.list [.int ((r+c) % 3:Nat),.int (1+(t.fdiv 2).fmod 4),.int (1+(t.fdiv 8).fmod 4)]):=by
  rw [fn_eq (by decide) rfl]
  show runFn (tabN (n+2)) bRank [.val (.int (r:Nat)),.val (.int (c:Nat)),.val (.int t),.unset,.unset,.unset,.unset,.unset,.unset,.unset,.unset]=_
  obtain ⟨z1,i1⟩:=mod_pos_nat t (s:=2) (by omega)
  obtain ⟨z2,i2⟩:=mod_pos_nat (t.fdiv 2) (s:=4) (by omega)
  obtain ⟨z3,i3⟩:=mod_pos_nat (t.fdiv 8) (s:=4) (by omega)
  generalize (t.fmod (2:Nat)).toNat=e at z1 i1
  generalize ((t.fdiv 2).fmod (4:Nat)).toNat=s at z2 i2
  generalize ((t.fdiv 8).fmod (4:Nat)).toNat=v at z3 i3
  have z1':t.fmod 2=(e:Int):=z1
  have z2':(t.fdiv 2).fmod 4=(s:Int):=z2
  have z3':(t.fdiv 8).fmod 4=(v:Int):=z3
  have hci:colOf c < 4:=by unfold colOf; split <;> omega
  obtain ⟨kk,d1,d2,d3,d4,d5⟩:=rank_nat hr i1 i2 i3
  generalize 16 * (2 * r+e)+4 * s+v=K at kk d1 d2 d3 d4 d5
  have l1:at2 f1 K 0 < 96:=by have:=at_range f_lt.1 kk; simpa using this
  have p1:=is3_inv (k1_ok (n+1) K kk)
  rw [d1,d2,d3] at p1
  have hk5:k5 K c=true:=by
    rcases hc with rfl | rfl | rfl | rfl
    · exact k50_ok K kk
    · exact k51_ok K kk
    · exact k52_ok K kk
    · exact k54_ok K kk
  unfold k5 at hk5
  rw [d4,d5,d2,d3] at hk5
  generalize at2 f1 K 0=J at *
  have p2:=is3_inv (k2_ok (n+1) J l1)
  obtain ⟨jc,jd,jm⟩:=rank_col hci l1
  have p2b:=k2b_ok (4 * J+colOf c) jc
  unfold k2b at p2b
  rw [jd,jm] at p2b
  have l2:at2 f2 (4 * J+colOf c) 0 < 256:=by have:=at_range f_lt.2.1 jc; simpa using this
  generalize at2 f2 (4 * J+colOf c) 0=I at *
  have p3:=is3_inv (k3_ok n I l2)
  have l3:at2 f3 I 0 < 184:=by have:=at_range f_lt.2.2 l2; simpa using this
  generalize at2 f3 I 0=M at *
  have p4:=is3_inv (k4_ok (n+1) M l3)
  have p4b:=k4b_ok M l3
  simp only [k4b,Bool.and_eq_true] at p4b
  simp only [Bool.and_eq_true,beq_iff_eq] at p2b hk5
  obtain ⟨p2b,q2⟩:=p2b
  have p2c:=isF_inv p2b
  obtain ⟨⟨b1,b2⟩,b3⟩:=p4b
  have b1:=isZ_inv b1
  have b2:=isZ_inv b2
  have b3:=isZ_inv b3
  obtain ⟨⟨h5,h6⟩,h7⟩:=hk5
  have hh:=isF_inv (at_range hT_ok (show 2 * r+e < 14 by omega))
  have hs:=isF_inv (at_range qT_ok i2)
  have hv:=isF_inv (at_range qT_ok i3)
  have hcT:=isF_inv (List.all_eq_true.mp colT_ok c (by simp only [List.mem_cons,List.not_mem_nil,or_false]; exact hc))
  generalize hT.getD (2 * r+e) 0=xh at *
  generalize qT.getD s 0=xs at *
  generalize qT.getD v 0=xv at *
  generalize colT.getD (colOf c) 0=xc at *
  generalize g2 J=G2 at *
  generalize gH J=GH at *
  generalize g3 I=G3 at *
  generalize g4 M=G4 at *
  generalize gV M=GV at *
  generalize gR M=GR at *
  obtain ⟨A1,A2,A3⟩:=G2
  obtain ⟨H1,H2,H3⟩:=GH
  obtain ⟨C1,C2,C3⟩:=G3
  obtain ⟨D1,D2,D3⟩:=G4
  obtain ⟨V1,V2,V3⟩:=GV
  obtain ⟨R1,R2,R3⟩:=GR
  simp only [a3] at p1 p2 p3 p4 p2c q2 b1 b2 b3 h5 h6 h7
  cases q2
  have m1:binV .mul (.int 2) (.int (r:Nat))=some (.int ((2 * r:Nat):Int)):=by
    rw [b_mul (small_nat (by omega))]
    norm_cast
  have m2:binV .mod (.int t) (.int 2)=some (.int (e:Nat)):=by rw [b_mod (by decide),z1']
  have m3:binV .add (.int ((2 * r:Nat):Int)) (.int (e:Nat))=some (.int ((2 * r+e:Nat):Int)):=by
    rw [b_add]
    norm_cast
  have m4:binV .fdiv (.int t) (.int 2)=some (.int (t.fdiv 2)):=b_fdiv (by decide) rfl
  have m5:binV .mod (.int (t.fdiv 2)) (.int 4)=some (.int (s:Nat)):=by rw [b_mod (by decide),z2']
  have m6:binV .add (.int 1) (.int (s:Nat))=some (.int ((1+s:Nat):Int)):=by
    rw [b_add]
    norm_cast
  have m7:binV .fdiv (.int t) (.int 8)=some (.int (t.fdiv 8)):=b_fdiv (by decide) rfl
  have m8:binV .mod (.int (t.fdiv 8)) (.int 4)=some (.int (v:Nat)):=by rw [b_mod (by decide),z3']
  have m9:binV .add (.int 1) (.int (v:Nat))=some (.int ((1+v:Nat):Int)):=by
    rw [b_add]
    norm_cast
  have s1:exS (tabN (n+2)) (.unpack [3,4,5] (.call .hsvRgb (.cons (.bin .tdiv (.bin .add (.bin .mul (.cst (.int (2))) (.var 0)) (.bin .mod (.var 2) (.cst (.int (2))))) (.cst (.int (6)))) (.cons (.bin .tdiv (.bin .add (.cst (.int (1))) (.bin .mod (.bin .fdiv (.var 2) (.cst (.int (2)))) (.cst (.int (4))))) (.cst (.int (4)))) (.cons (.bin .tdiv (.bin .add (.cst (.int (1))) (.bin .mod (.bin .fdiv (.var 2) (.cst (.int (8)))) (.cst (.int (4))))) (.cst (.int (4)))) .nil)))))
      [.val (.int (r:Nat)),.val (.int (c:Nat)),.val (.int t),.unset,.unset,.unset,.unset,.unset,.unset,.unset,.unset] []=.nx [.val (.int (r:Nat)),.val (.int (c:Nat)),.val (.int t),.val (.flt A1),.val (.flt A2),.val (.flt A3),.unset,.unset,.unset,.unset,.unset] []:=by
    simp only [x_unpack,SRes.on_some,Option.bind_some,List.getElem?_cons_zero,List.getElem?_cons_succ,val_val,tup_tup,e_cst,e_var,e_bin,e_call,varV_val,Res.on_some,rd_val,es_nil',es_cons',op2,Res.of,toM,Res.bind_ok,Option.map_some,Res.toS_ok,m1,m2,m3,m4,m5,m6,m7,m8,m9,hh,hs,hv,p1,setAll_nil,setAll_cons,List.set_cons_zero,List.set_cons_succ]
  have s2:exS (tabN (n+2)) (.unpack [6,7,8] (.call .rgbHls (.cons (.var 3) (.cons (.var 4) (.cons (.var 5) .nil))))) [.val (.int (r:Nat)),.val (.int (c:Nat)),.val (.int t),.val (.flt A1),.val (.flt A2),.val (.flt A3),.unset,.unset,.unset,.unset,.unset] [] =
      .nx [.val (.int (r:Nat)),.val (.int (c:Nat)),.val (.int t),.val (.flt A1),.val (.flt A2),.val (.flt A3),.val (.flt H1),.val (.flt H2),.val (.flt H3),.unset,.unset] []:=by
    simp only [x_unpack,SRes.on_some,Option.bind_some,List.getElem?_cons_zero,List.getElem?_cons_succ,val_val,tup_tup,e_var,e_call,varV_val,Res.on_some,es_nil',es_cons',Res.of,Res.bind_ok,Option.map_some,Res.toS_ok,p2,setAll_nil,setAll_cons,List.set_cons_zero,List.set_cons_succ]
  have s3:exS (tabN (n+2)) (.unpack [3,4,5] (.call .hlsRgb (.cons (.bin .add (.var 6) (.bin .tdiv (.var 1) (.cst (.int (3))))) (.cons (.var 7) (.cons (.var 8) .nil))))) [.val (.int (r:Nat)),.val (.int (c:Nat)),.val (.int t),.val (.flt A1),.val (.flt A2),.val (.flt A3),.val (.flt H1),.val (.flt H2),.val (.flt H3),.unset,.unset] [] =
      .nx [.val (.int (r:Nat)),.val (.int (c:Nat)),.val (.int t),.val (.flt D1),.val (.flt D2),.val (.flt D3),.val (.flt H1),.val (.flt H2),.val (.flt H3),.unset,.unset] []:=by
    simp only [x_unpack,SRes.on_some,Option.bind_some,List.getElem?_cons_zero,List.getElem?_cons_succ,val_val,tup_tup,e_cst,e_var,e_bin,e_call,varV_val,Res.on_some,rd_val,es_nil',es_cons',op2,toM,Res.of,Res.bind_ok,Option.map_some,Res.toS_ok,hcT,p2c,p3,setAll_nil,setAll_cons,List.set_cons_zero,List.set_cons_succ]
  have s4:exS (tabN (n+2)) (.unpack [6,9,10] (.call .rgbHsv (.cons (.var 3) (.cons (.var 4) (.cons (.var 5) .nil))))) [.val (.int (r:Nat)),.val (.int (c:Nat)),.val (.int t),.val (.flt D1),.val (.flt D2),.val (.flt D3),.val (.flt H1),.val (.flt H2),.val (.flt H3),.unset,.unset] [] =
      .nx [.val (.int (r:Nat)),.val (.int (c:Nat)),.val (.int t),.val (.flt D1),.val (.flt D2),.val (.flt D3),.val (.flt V1),.val (.flt H2),.val (.flt H3),.val (.flt V2),.val (.flt V3)] []:=by
    simp only [x_unpack,SRes.on_some,Option.bind_some,List.getElem?_cons_zero,List.getElem?_cons_succ,val_val,tup_tup,e_var,e_call,varV_val,Res.on_some,es_nil',es_cons',Res.of,Res.bind_ok,Option.map_some,Res.toS_ok,p4,setAll_nil,setAll_cons,List.set_cons_zero,List.set_cons_succ]
  have fin_inv:∀ {m:Int} {x:UInt64} {k:Nat},fin m x=some (.int (k:Nat))→∃ y z i,binV .mul (.int m) (.flt x)=some y∧binV .add y (.int 1)=some z∧p1V .intf z=some i∧binV .fdiv i (.int 2)=some (.int (k:Nat)):=by
    intro m x k h
    unfold fin at h
    obtain ⟨y,hy,h⟩:=Option.bind_eq_some_iff.mp h
    obtain ⟨z,hz,h⟩:=Option.bind_eq_some_iff.mp h
    obtain ⟨i,hi,h⟩:=Option.bind_eq_some_iff.mp h
    exact ⟨y,z,i,hy,hz,hi,h⟩
  obtain ⟨y1,w1,u1,fa1,fa2,fa3,fa4⟩:=fin_inv b1
  obtain ⟨y2,w2,u2,fb1,fb2,fb3,fb4⟩:=fin_inv b2
  obtain ⟨y3,w3,u3,fc1,fc2,fc3,fc4⟩:=fin_inv b3
  have n1:binV .sub (.int (R1:Nat)) (.int (e:Nat))=some (.int ((R1:Int) - (e:Nat))):=b_sub _ _
  have n2:binV .mod (.int ((R1:Int) - (e:Nat))) (.int 6)=some (.int (((R1:Int) - (e:Nat)).fmod 6)):=b_mod (by decide)
  have n3:binV .fdiv (.int (((R1:Int) - (e:Nat)).fmod 6)) (.int 2)=some (.int ((r+c) % 3:Nat)):=by rw [b_fdiv (by decide) rfl,h5]
  have s5:exS (tabN (n+2)) (.ret (.list (.cons (.bin .fdiv (.bin .mod (.bin .sub (.bin .fdiv (.p1 .intf (.bin .add (.bin .mul (.cst (.int (12))) (.var 6)) (.cst (.int (1))))) (.cst (.int (2)))) (.bin .mod (.var 2) (.cst (.int (2))))) (.cst (.int (6)))) (.cst (.int (2)))) (.cons (.bin .fdiv (.p1 .intf (.bin .add (.bin .mul (.cst (.int (8))) (.var 9)) (.cst (.int (1))))) (.cst (.int (2)))) (.cons (.bin .fdiv (.p1 .intf (.bin .add (.bin .mul (.cst (.int (8))) (.var 10)) (.cst (.int (1))))) (.cst (.int (2)))) .nil)))))
      [.val (.int (r:Nat)),.val (.int (c:Nat)),.val (.int t),.val (.flt D1),.val (.flt D2),.val (.flt D3),.val (.flt V1),.val (.flt H2),.val (.flt H3),.val (.flt V2),.val (.flt V3)] []=.ret (.list [.int ((r+c) % 3:Nat),.int (R2:Nat),.int (R3:Nat)]) []:=by
    simp only [x_ret,Option.bind_some,List.getElem?_cons_zero,List.getElem?_cons_succ,val_val,e_cst,e_var,e_bin,e_list,e_p1,varV_val,Res.on_some,rd_val,es_nil',es_cons',op1,op2,rdB,Res.of,toM,Res.bind_ok,Option.map_some,m2,fa1,fa2,fa3,fa4,fb1,fb2,fb3,fb4,fc1,fc2,fc3,fc4,n1,n2,n3]
    rfl
  rw [show ∀ ve,runFn (tabN (n+2)) bRank ve=(SRes.given ((exS (tabN (n+2)) (.unpack [3,4,5] (.call .hsvRgb (.cons (.bin .tdiv (.bin .add (.bin .mul (.cst (.int (2))) (.var 0)) (.bin .mod (.var 2) (.cst (.int (2))))) (.cst (.int (6)))) (.cons (.bin .tdiv (.bin .add (.cst (.int (1))) (.bin .mod (.bin .fdiv (.var 2) (.cst (.int (2)))) (.cst (.int (4))))) (.cst (.int (4)))) (.cons (.bin .tdiv (.bin .add (.cst (.int (1))) (.bin .mod (.bin .fdiv (.var 2) (.cst (.int (8)))) (.cst (.int (4))))) (.cst (.int (4)))) .nil))))) ve []).bind fun ve σ =>
      (exS (tabN (n+2)) (.unpack [6,7,8] (.call .rgbHls (.cons (.var 3) (.cons (.var 4) (.cons (.var 5) .nil))))) ve σ).bind fun ve σ=>(exS (tabN (n+2)) (.unpack [3,4,5] (.call .hlsRgb (.cons (.bin .add (.var 6) (.bin .tdiv (.var 1) (.cst (.int (3))))) (.cons (.var 7) (.cons (.var 8) .nil))))) ve σ).bind fun ve σ =>
      (exS (tabN (n+2)) (.unpack [6,9,10] (.call .rgbHsv (.cons (.var 3) (.cons (.var 4) (.cons (.var 5) .nil))))) ve σ).bind fun ve σ=>(exS (tabN (n+2)) (.ret (.list (.cons (.bin .fdiv (.bin .mod (.bin .sub (.bin .fdiv (.p1 .intf (.bin .add (.bin .mul (.cst (.int (12))) (.var 6)) (.cst (.int (1))))) (.cst (.int (2)))) (.bin .mod (.var 2) (.cst (.int (2))))) (.cst (.int (6)))) (.cst (.int (2)))) (.cons (.bin .fdiv (.p1 .intf (.bin .add (.bin .mul (.cst (.int (8))) (.var 9)) (.cst (.int (1))))) (.cst (.int (2)))) (.cons (.bin .fdiv (.p1 .intf (.bin .add (.bin .mul (.cst (.int (8))) (.var 10)) (.cst (.int (1))))) (.cst (.int (2)))) .nil))))) ve σ).bind fun ve σ=>exSs (tabN (n+2)) .nil ve σ)) from fun _=>rfl,s1,SRes.bind_nx,s2,SRes.bind_nx,s3,SRes.bind_nx,s4,SRes.bind_nx,s5]
  rw [z2',z3']
  show some (AV.list [.int ((r+c) % 3:Nat),.int (R2:Nat),.int (R3:Nat)])=_
  rw [h6,h7]
  norm_cast
end Mine
set_option linter.unusedSimpArgs false
namespace Mine
open PySem PyProof.Rows
noncomputable def likeV (s:Nat):AV:=if s=0 then .inst [.tup [.int 2,.int (-1)],.tup [.int 0,.int 1]] else .inst [.tup [.int 2,.int 1],.tup [.int 0,.int (-1)]]
noncomputable def cardV (r d:Nat):AV:=.tup [.int (2 * (((r:Int)+1).fmod 2)),.int d,.int (2 * ((r:Int).fdiv 2))]
noncomputable def cmpR (s a b:Nat):Int:=if a=b then 0 else if (a > b)=(s=0) then -1 else 1
theorem c_cmp (n:Nat) {s a b:Nat} (hs:s < 2) (ha:a < 3) (hb:b < 3) (d e:Nat):(tabN (n+1)).fn .compare [likeV s,cardV a d,cardV b e]=some (.int (cmpR s a b)):=by
  have h1:s=0∨s=1:=by omega
  have h2:a=0∨a=1∨a=2:=by omega
  have h3:b=0∨b=1∨b=2:=by omega
  rcases h1 with rfl | rfl <;> rcases h2 with rfl | rfl | rfl <;> rcases h3 with rfl | rfl | rfl <;> first
    | (rw [show cmpR _ _ _=0 by decide]; kernel_rfl)
    | (rw [show cmpR _ _ _=-1 by decide]; kernel_rfl)
    | (rw [show cmpR _ _ _=1 by decide]; kernel_rfl)
noncomputable def lineOf (side d:Nat):Nat:=if side=0 then d / 3 else d % 3
noncomputable def ahead (s a b:Nat):Bool:=cmpR s a b == -1
noncomputable def bestLine (rk:Nat→Nat) (s side:Nat) (pool:List Nat) (line:Nat):List Nat :=
  let own:=pool.filter fun d=>lineOf side d == line
  own.filter fun d=>(own.filter fun o=>ahead s (rk o) (rk d)).isEmpty
noncomputable def bestL (rk:Nat→Nat) (s side:Nat) (pool:List Nat):List Nat:=[0,1,2].foldl (fun b l=>b++bestLine rk s side pool l) []
theorem best_eq (rk:Nat→Nat) (s side:Nat) (pool:List Nat):bestL rk s side pool=bestLine rk s side pool 0++bestLine rk s side pool 1++bestLine rk s side pool 2:=by
  simp [bestL]
theorem bestLine_sub {rk:Nat→Nat} {s side line d:Nat} {pool:List Nat} (h:d∈bestLine rk s side pool line):d∈pool:=(List.mem_filter.mp (List.mem_filter.mp h).1).1
theorem best_sub {rk:Nat→Nat} {s side d:Nat} {pool:List Nat} (h:d∈bestL rk s side pool):d∈pool:=by
  rw [best_eq] at h
  rcases List.mem_append.mp h with h | h
  · rcases List.mem_append.mp h with h | h <;> exact bestLine_sub h
  · exact bestLine_sub h
theorem bestLine_len (rk:Nat→Nat) (s side line:Nat) (pool:List Nat):(bestLine rk s side pool line).length≤pool.length:=Nat.le_trans (List.length_filter_le _ _) (List.length_filter_le _ _)
theorem best_len (rk:Nat→Nat) (s side:Nat) (pool:List Nat):(bestL rk s side pool).length≤3 * pool.length:=by
  rw [best_eq,List.length_append,List.length_append]
  have:=bestLine_len rk s side 0 pool
  have:=bestLine_len rk s side 1 pool
  have:=bestLine_len rk s side 2 pool
  omega
noncomputable def cardsV (rk:Nat→Nat):AV:=.list ((List.range 9).map fun d=>cardV (rk d) d)
theorem card_at {rk:Nat→Nat} {d:Nat} (h:d < 9):idxV (cardsV rk) (.int (d:Nat))=some (cardV (rk d) d):=by
  refine idx_list (by simp) ?_
  rw [List.getElem?_map,List.getElem?_range h]
  rfl
theorem avEq_nil (xs:List AV):avEq (.list xs) (.list [])=some xs.isEmpty:=by
  cases xs with
  | nil=>rfl
  | cons x xs=>rfl
theorem elems_ints (l:List Nat):elemsC (.list (intsN l))=some (l.map fun (i:Nat)=>AV.int i):=rfl
noncomputable def ownE:ME:=.comp (.var 7) (.var 0) (.cmp .eq (.idx (.tup (.cons (.bin .fdiv (.var 7) (.cst (.int (3)))) (.cons (.bin .mod (.var 7) (.cst (.int (3)))) .nil))) (.var 3)) (.var 5))
noncomputable def topE:ME:=.comp (.var 7) (.var 6) (.cmp .eq (.comp (.var 8) (.var 6) (.cmp .eq (.call .compare (.cons (.var 2) (.cons (.idx (.var 1) (.var 8)) (.cons (.idx (.var 1) (.var 7)) .nil)))) (.neg (.cst (.int (1)))))) (.list .nil))
noncomputable def bestB:MSs:=(.cons (.assign 6 ownE) (.cons (.assign 4 (.bin .add (.var 4) topE)) .nil))
theorem own_ev (T:Tab) {side line:Nat} {pool:List Nat} {C K x4 x6:MV} (hside:side < 2) (hp:pool.length≤1000) :
    evE T ownE [.val (.list (intsN pool)),C,K,.val (.int (side:Nat)),x4,.val (.int (line:Nat)),x6] []=.ok (.val (.list (intsN (pool.filter fun d=>lineOf side d == line)))) []:=by
  unfold ownE
  refine ev_comp (x:=.list (intsN pool)) (g:=fun (i:Nat)=>AV.int i) (l:=pool) (fun d=>lineOf side d == line) (fun d=>.int d) ?_ rfl (by omega) (fun a ha=>?_) (fun a ha _=>?_)
  · simp only [e_var,varV_val,Res.on_some,Option.bind_some,List.getElem?_cons_zero]
  · have e1:binV .fdiv (.int (a:Nat)) (.int 3)=some (.int ((a / 3:Nat):Int)):=by
      rw [b_fdiv (by decide) rfl]
      exact congrArg (fun z=>some (AV.int z)) (fdiv_nat a 3)
    have e2:binV .mod (.int (a:Nat)) (.int 3)=some (.int ((a % 3:Nat):Int)):=by
      rw [b_mod (by decide)]
      exact congrArg (fun z=>some (AV.int z)) (fmod_nat a 3)
    have e3:idxV (.tup [.int ((a / 3:Nat):Int),.int ((a % 3:Nat):Int)]) (.int (side:Nat))=some (.int (lineOf side a:Nat)):=by
      rcases (by omega:side=0∨side=1) with rfl | rfl
      · exact idx_tup (by simp) rfl
      · exact idx_tup (by simp) rfl
    have e4:cmpV .eq (.int (lineOf side a:Nat)) (.int (line:Nat))=some (lineOf side a == line):=by
      rw [cmp_int]
      show some (((lineOf side a:Nat):Int) == (line:Int))=_
      congr 1
      by_cases q:lineOf side a=line
      · simp [q]
      · have:¬ ((lineOf side a:Nat):Int)=(line:Int):=by omega
        rw [beq_false_of_ne this,beq_false_of_ne q]
    simp only [List.cons_append,List.nil_append,e_cst,e_var,e_bin,e_tup,e_idx,varV_val,Res.on_some,Option.bind_some,val_val,rd_val,t_cmp,es_nil',es_cons',op2,rd_val,Res.of,toM,List.getElem?_cons_zero,List.getElem?_cons_succ,Res.bind_ok,Option.bind_some,Option.map_some,e1,e2,List.length_cons,List.length_nil,fits_le (show 0+1+1≤1000000 by decide),if_true,e3,e4]
  · simp only [List.cons_append,List.nil_append,e_var,varV_val,Res.on_some,Option.bind_some,List.getElem?_cons_zero,List.getElem?_cons_succ]
theorem top_ev (n:Nat) {s:Nat} {rk:Nat→Nat} {own:List Nat} {P S x4 x5:MV} (hs:s < 2) (hrk:∀ d,rk d < 3) (ho:∀ d∈own,d < 9) (hl:own.length≤1000) :
    evE (tabN (n+1)) topE [P,.val (cardsV rk),.val (likeV s),S,x4,x5,.val (.list (intsN own))] []=.ok (.val (.list (intsN (own.filter fun d=>(own.filter fun o=>ahead s (rk o) (rk d)).isEmpty)))) []:=by
  unfold topE
  refine ev_comp (x:=.list (intsN own)) (g:=fun (i:Nat)=>AV.int i) (l:=own) (fun d=>(own.filter fun o=>ahead s (rk o) (rk d)).isEmpty) (fun d=>.int d) ?_ rfl (by omega) (fun a ha=>?_) (fun a ha _=>?_)
  · simp only [e_var,varV_val,Res.on_some,Option.bind_some,List.getElem?_cons_zero,List.getElem?_cons_succ]
  · have inner:evE (tabN (n+1)) (.comp (.var 8) (.var 6) (.cmp .eq (.call .compare (.cons (.var 2) (.cons (.idx (.var 1) (.var 8)) (.cons (.idx (.var 1) (.var 7)) .nil)))) (.neg (.cst (.int (1)))))) ([P,.val (cardsV rk),.val (likeV s),S,x4,x5,.val (.list (intsN own))]++[.val (.int (a:Nat))]) []=.ok (.val (.list (intsN (own.filter fun o=>ahead s (rk o) (rk a))))) []:=by
      refine ev_comp (x:=.list (intsN own)) (g:=fun (i:Nat)=>AV.int i) (l:=own) (fun o=>ahead s (rk o) (rk a)) (fun d=>.int d) ?_ rfl (by omega) (fun b hb=>?_) (fun b hb _=>?_)
      · simp only [List.cons_append,List.nil_append,e_var,varV_val,Res.on_some,Option.bind_some,List.getElem?_cons_zero,List.getElem?_cons_succ]
      · have e5:cmpV .eq (.int (cmpR s (rk b) (rk a))) (.int (-1))=some (ahead s (rk b) (rk a)):=rfl
        simp only [List.cons_append,List.nil_append,e_cst,e_var,e_neg,e_idx,e_call,varV_val,Res.on_some,Option.bind_some,val_val,int_int,rd_val,t_cmp,es_nil',es_cons',op1,op2,rd_val,Res.of,toM,negV,List.getElem?_cons_zero,List.getElem?_cons_succ,Res.bind_ok,Option.bind_some,Option.map_some,card_at (ho b hb),card_at (ho a ha),c_cmp n hs (hrk b) (hrk a) b a,e5]
      · simp only [List.cons_append,List.nil_append,e_var,varV_val,Res.on_some,Option.bind_some,List.getElem?_cons_zero,List.getElem?_cons_succ]
    have e6:cmpV .eq (.list (intsN (own.filter fun o=>ahead s (rk o) (rk a)))) (.list [])=some (own.filter fun o=>ahead s (rk o) (rk a)).isEmpty:=by
      rw [cmp_list,avEq_nil]
      simp [intsN]
    generalize (ME.comp (.var 8) (.var 6) (.cmp .eq (.call .compare (.cons (.var 2) (.cons (.idx (.var 1) (.var 8)) (.cons (.idx (.var 1) (.var 7)) .nil)))) (.neg (.cst (.int (1))))))=me at inner
    simp only [e_list,Option.bind_some,rd_val,t_cmp,es_nil',op2,rd_val,Res.of,Res.bind_ok,Option.bind_some,inner,fits_le (Nat.zero_le 1000000),List.length_nil,if_true,e6]
  · simp only [List.cons_append,List.nil_append,e_var,varV_val,Res.on_some,Option.bind_some,List.getElem?_cons_zero,List.getElem?_cons_succ]
theorem best_turn (n:Nat) {s side line:Nat} {rk:Nat→Nat} {pool b:List Nat} {x5 x6:MV} (hs:s < 2) (hside:side < 2) (hrk:∀ d,rk d < 3) (ho:∀ d∈pool,d < 9) (hl:pool.length≤300) (hb:b.length≤900) :
    loopF (tabN (n+1)) [5] bestB (.int (line:Nat)) [.val (.list (intsN pool)),.val (cardsV rk),.val (likeV s),.val (.int (side:Nat)),.val (.list (intsN b)),x5,x6] [] =
      .nx [.val (.list (intsN pool)),.val (cardsV rk),.val (likeV s),.val (.int (side:Nat)),.val (.list (intsN (b++bestLine rk s side pool line))),.val (.int (line:Nat)),.val (.list (intsN (pool.filter fun d=>lineOf side d == line)))] []:=by
  have e1:=own_ev (tabN (n+1)) (side:=side) (line:=line) (pool:=pool) (C:=.val (cardsV rk)) (K:=.val (likeV s)) (x4:=.val (.list (intsN b))) (x6:=x6) hside (by omega)
  have len:(pool.filter fun d=>lineOf side d == line).length≤300:=Nat.le_trans (List.length_filter_le _ _) hl
  have e2:=top_ev n (s:=s) (rk:=rk) (own:=pool.filter fun d=>lineOf side d == line) (P:=.val (.list (intsN pool))) (S:=.val (.int (side:Nat))) (x4:=.val (.list (intsN b))) (x5:=.val (.int (line:Nat))) hs hrk (fun d hd=>ho d (List.mem_filter.mp hd).1) (by omega)
  have e3:binV .add (.list (intsN b)) (.list (intsN (bestLine rk s side pool line)))=some (.list (intsN (b++bestLine rk s side pool line))):=by
    have:=bestLine_len rk s side line pool
    rw [b_addl (by simp only [intsN,List.length_append,List.length_map]; omega)]
    simp [intsN]
  show exSs (tabN (n+1)) bestB [.val (.list (intsN pool)),.val (cardsV rk),.val (likeV s),.val (.int (side:Nat)),.val (.list (intsN b)),.val (.int (line:Nat)),x6] []=_
  unfold bestB
  rw [xs_cons,x_assign,e1]
  simp only [Res.toS_ok,val_val,SRes.on_some,SRes.bind_nx,List.set_cons_zero,List.set_cons_succ]
  rw [xs_cons]; simp only [x_assign,Option.bind_some,List.getElem?_cons_zero,List.getElem?_cons_succ,e_var,e_bin,varV_val,Res.on_some]
  simp only [op2,Option.bind_some,rd_val,Res.bind_ok]
  rw [e2]
  simp only [Res.bind_ok,rd_val,Option.bind_some]
  rw [show (List.filter (fun d=>(List.filter (fun o=>ahead s (rk o) (rk d)) (List.filter (fun d=>lineOf side d == line) pool)).isEmpty) (List.filter (fun d=>lineOf side d == line) pool))=bestLine rk s side pool line from rfl,e3]
  rfl
theorem c_best (n:Nat) {s side:Nat} {rk:Nat→Nat} {pool:List Nat} (hs:s < 2) (hside:side < 2) (hrk:∀ d,rk d < 3) (ho:∀ d∈pool,d < 9) (hl:pool.length≤300) :
    (tabN (n+2)).fn .best [.list (intsN pool),cardsV rk,likeV s,.int (side:Nat)]=some (.list (intsN (bestL rk s side pool))):=by
  rw [fn_eq (by decide) rfl]
  show runFn (tabN (n+1)) bBest [.val (.list (intsN pool)),.val (cardsV rk),.val (likeV s),.val (.int (side:Nat)),.unset,.unset,.unset]=_
  have l0:=bestLine_len rk s side 0 pool
  have l1:=bestLine_len rk s side 1 pool
  have t0:=best_turn n (line:=0) (b:=[]) (x5:=.unset) (x6:=.unset) hs hside hrk ho hl (by simp)
  have t1:=best_turn n (line:=1) (b:=[]++bestLine rk s side pool 0) (x5:=.val (.int (0:Nat))) (x6:=.val (.list (intsN (pool.filter fun d=>lineOf side d == 0)))) hs hside hrk ho hl (by simp only [List.nil_append]; omega)
  have t2:=best_turn n (line:=2) (b:=[]++bestLine rk s side pool 0++bestLine rk s side pool 1) (x5:=.val (.int (1:Nat))) (x6:=.val (.list (intsN (pool.filter fun d=>lineOf side d == 1)))) hs hside hrk ho hl (by simp only [List.nil_append,List.length_append]; omega)
  have lp:forL (loopF (tabN (n+1)) [5] bestB) [.int (0:Nat),.int (1:Nat),.int (2:Nat)] [.val (.list (intsN pool)),.val (cardsV rk),.val (likeV s),.val (.int (side:Nat)),.val (.list (intsN [])),.unset,.unset] [] =
      .nx [.val (.list (intsN pool)),.val (cardsV rk),.val (likeV s),.val (.int (side:Nat)),.val (.list (intsN (bestL rk s side pool))),.val (.int (2:Nat)),.val (.list (intsN (pool.filter fun d=>lineOf side d == 2)))] []:=by
    rw [forL_cons,t0]
    show forL (loopF (tabN (n+1)) [5] bestB) [.int (1:Nat),.int (2:Nat)] _ _=_
    rw [forL_cons,t1]
    show forL (loopF (tabN (n+1)) [5] bestB) [.int (2:Nat)] _ _=_
    rw [forL_cons,t2]
    show SRes.nx _ _=_
    rw [best_eq,List.nil_append]
  have k1:exS (tabN (n+1)) (.assign 4 (.list .nil)) [.val (.list (intsN pool)),.val (cardsV rk),.val (likeV s),.val (.int (side:Nat)),.unset,.unset,.unset] []=.nx [.val (.list (intsN pool)),.val (cardsV rk),.val (likeV s),.val (.int (side:Nat)),.val (.list (intsN [])),.unset,.unset] []:=rfl
  have k2:exS (tabN (n+1)) (.forr [5] (.p1 .range (.cst (.int (3)))) bestB .nil) [.val (.list (intsN pool)),.val (cardsV rk),.val (likeV s),.val (.int (side:Nat)),.val (.list (intsN [])),.unset,.unset] []=.nx [.val (.list (intsN pool)),.val (cardsV rk),.val (likeV s),.val (.int (side:Nat)),.val (.list (intsN (bestL rk s side pool))),.val (.int (2:Nat)),.val (.list (intsN (pool.filter fun d=>lineOf side d == 2)))] []:=by
    rw [forr_nx (v:=.range 0 3) (xs:=[.int (0:Nat),.int (1:Nat),.int (2:Nat)]) (σ':=[]) rfl rfl (by simp) lp]
    rfl
  rw [show ∀ ve,runFn (tabN (n+1)) bBest ve=(SRes.given ((exS (tabN (n+1)) (.assign 4 (.list .nil)) ve []).bind fun ve σ=>(exS (tabN (n+1)) (.forr [5] (.p1 .range (.cst (.int (3)))) bestB .nil) ve σ).bind fun ve σ=>exSs (tabN (n+1)) (.cons (.ret (.var 4)) .nil) ve σ)) from fun _=>rfl,k1,SRes.bind_nx,k2,SRes.bind_nx]
  rfl
noncomputable def firmL (rk:Nat→Nat) (side:Nat):Nat→List Nat→List Nat
  | 0,_=>[]
  | k+1,left =>
    let a:=bestL rk side side left
    let b:=bestL rk (1 - side) (1 - side) a
    if b.length=a.length then b else firmL rk side k (left.filter fun d=>!a.contains d || b.contains d)
theorem firmL_succ {rk:Nat→Nat} {side k:Nat} {left:List Nat}:firmL rk side (k+1) left=if (bestL rk (1 - side) (1 - side) (bestL rk side side left)).length=(bestL rk side side left).length then bestL rk (1 - side) (1 - side) (bestL rk side side left) else firmL rk side k (left.filter fun d=>!(bestL rk side side left).contains d || (bestL rk (1 - side) (1 - side) (bestL rk side side left)).contains d):=rfl
noncomputable def firmB:MSs:=(.cons
  (.assign 6 (.call .best (.cons (.var 4) (.cons (.var 1) (.cons (.idx (.var 2) (.var 3)) (.cons (.var 3) .nil))))))
  (.cons
  (.assign 7 (.call .best (.cons (.var 6) (.cons (.var 1) (.cons (.idx (.var 2) (.bin .sub (.cst (.int (1))) (.var 3))) (.cons (.bin .sub (.cst (.int (1))) (.var 3)) .nil))))))
  (.cons
  (.iff (.cmp .eq (.p1 .len (.var 7)) (.p1 .len (.var 6))) (.cons
  (.ret (.var 7))
  .nil) .nil)
  (.cons
  (.assign 4 (.comp (.var 8) (.var 4) (.or (.cmp .notin (.var 8) (.var 6)) (.cmp .isin (.var 8) (.var 7)))))
  .nil))))
noncomputable def likesV:AV:=.list [likeV 0,likeV 1]
theorem like_at {s:Nat} (h:s < 2):idxV likesV (.int (s:Nat))=some (likeV s):=by
  rcases (by omega:s=0∨s=1) with rfl | rfl <;> exact idx_list (by simp) rfl
theorem in_ints (x:Nat) (l:List Nat):((l.map fun (n:Nat)=>(n:Int)).contains (x:Int))=l.contains x:=by
  induction l with
  | nil=>rfl
  | cons a l ih =>
    rw [List.map_cons,List.contains_cons,List.contains_cons,ih]
    congr 1
    by_cases q:x=a
    · simp [q]
    · have:¬ (x:Int)=(a:Int):=by omega
      rw [beq_false_of_ne this,beq_false_of_ne q]
theorem ints_two (l:List Nat):intsN l=(l.map fun (n:Nat)=>(n:Int)).map .int:=by simp [intsN]
theorem isin_nat (x:Nat) (l:List Nat):cmpV .isin (.int (x:Nat)) (.list (intsN l))=some (l.contains x):=by
  refine or_some ?_
  show (intsOf (intsN l)).map (fun l=>l.contains (x:Int))=_
  rw [ints_two,intsOf_map,Option.map_some,in_ints]
theorem notin_ints (x:Nat) (l:List Nat):cmpV .notin (.int (x:Nat)) (.list (intsN l))=some (!l.contains x):=by
  refine or_some ?_
  show (intsOf (intsN l)).map (fun l=>!l.contains (x:Int))=_
  rw [ints_two,intsOf_map,Option.map_some,in_ints]
theorem firm_loop (n:Nat) {side:Nat} {rk:Nat→Nat} {D:MV} (hside:side < 2) (hrk:∀ d,rk d < 3):∀ (k i:Nat) (left:List Nat) (x5 x6 x7:MV),(∀ d∈left,d < 9)→left.length≤100 →
    (forL (loopF (tabN (n+2)) [5] firmB) ((List.range' i k).map fun (j:Nat)=>AV.int j) [D,.val (cardsV rk),.val likesV,.val (.int (side:Nat)),.val (.list (intsN left)),x5,x6,x7] []=.ret (.list (intsN (firmL rk side k left))) []) ∨
    (firmL rk side k left=[]∧∃ ve,forL (loopF (tabN (n+2)) [5] firmB) ((List.range' i k).map fun (j:Nat)=>AV.int j) [D,.val (cardsV rk),.val likesV,.val (.int (side:Nat)),.val (.list (intsN left)),x5,x6,x7] []=.nx ve [])
  | 0,i,left,x5,x6,x7,_,_=>.inr ⟨rfl,_,rfl⟩
  | k+1,i,left,x5,x6,x7,ho,hl=>by
    have hs2:1 - side < 2:=by omega
    have la:=best_len rk side side left
    have lb:=best_len rk (1 - side) (1 - side) (bestL rk side side left)
    have b1:=c_best n (s:=side) (side:=side) (rk:=rk) (pool:=left) hside hside hrk ho (by omega)
    have b2:=c_best n (s:=1 - side) (side:=1 - side) (rk:=rk) (pool:=bestL rk side side left) hs2 hs2 hrk (fun d hd=>ho d (best_sub hd)) (by omega)
    have m1:binV .sub (.int 1) (.int (side:Nat))=some (.int ((1 - side:Nat):Int)):=by
      rw [b_sub]
      congr 2
      omega
    generalize hA:bestL rk side side left=a at *
    generalize hB:bestL rk (1 - side) (1 - side) a=b at *
    have k1:exS (tabN (n+2)) (.assign 6 (.call .best (.cons (.var 4) (.cons (.var 1) (.cons (.idx (.var 2) (.var 3)) (.cons (.var 3) .nil)))))) [D,.val (cardsV rk),.val likesV,.val (.int (side:Nat)),.val (.list (intsN left)),.val (.int (i:Nat)),x6,x7] [] =
        .nx [D,.val (cardsV rk),.val likesV,.val (.int (side:Nat)),.val (.list (intsN left)),.val (.int (i:Nat)),.val (.list (intsN a)),x7] []:=by
      simp only [x_assign,SRes.on_some,Option.bind_some,List.getElem?_cons_zero,List.getElem?_cons_succ,val_val,e_var,e_idx,e_call,varV_val,Res.on_some,rd_val,es_nil',es_cons',op2,Res.of,toM,Res.bind_ok,Option.map_some,Res.toS_ok,like_at hside,b1,List.set_cons_zero,List.set_cons_succ]
    have k2:exS (tabN (n+2)) (.assign 7 (.call .best (.cons (.var 6) (.cons (.var 1) (.cons (.idx (.var 2) (.bin .sub (.cst (.int (1))) (.var 3))) (.cons (.bin .sub (.cst (.int (1))) (.var 3)) .nil)))))) [D,.val (cardsV rk),.val likesV,.val (.int (side:Nat)),.val (.list (intsN left)),.val (.int (i:Nat)),.val (.list (intsN a)),x7] [] =
        .nx [D,.val (cardsV rk),.val likesV,.val (.int (side:Nat)),.val (.list (intsN left)),.val (.int (i:Nat)),.val (.list (intsN a)),.val (.list (intsN b))] []:=by
      simp only [x_assign,SRes.on_some,Option.bind_some,List.getElem?_cons_zero,List.getElem?_cons_succ,val_val,e_cst,e_var,e_bin,e_idx,e_call,varV_val,Res.on_some,rd_val,es_nil',es_cons',op2,Res.of,toM,Res.bind_ok,Option.map_some,Res.toS_ok,m1,like_at hs2,b2,List.set_cons_zero,List.set_cons_succ]
    have k3:evT (tabN (n+2)) (.cmp .eq (.p1 .len (.var 7)) (.p1 .len (.var 6))) [D,.val (cardsV rk),.val likesV,.val (.int (side:Nat)),.val (.list (intsN left)),.val (.int (i:Nat)),.val (.list (intsN a)),.val (.list (intsN b))] []=.ok (decide (b.length=a.length)) []:=by
      have e1:p1V .len (.list (intsN b))=some (.int (b.length:Nat)):=by rw [p_len (by simp only [intsN,List.length_map]; omega)]; simp [intsN]
      have e2:p1V .len (.list (intsN a))=some (.int (a.length:Nat)):=by rw [p_len (by simp only [intsN,List.length_map]; omega)]; simp [intsN]
      have e3:cmpV .eq (.int (b.length:Nat)) (.int (a.length:Nat))=some (decide (b.length=a.length)):=by
        show some (((b.length:Nat):Int) == ((a.length:Nat):Int))=_
        congr 1
        by_cases q:b.length=a.length
        · simp [q]
        · have:¬ ((b.length:Nat):Int)=((a.length:Nat):Int):=by omega
          simp [q,this]
      simp only [t_cmp,e_var,e_p1,varV_val,Res.on_some,Option.bind_some,rd_val,op1,op2,Res.of,toM,List.getElem?_cons_zero,List.getElem?_cons_succ,Res.bind_ok,Option.map_some,e1,e2,e3]
    have k4:evE (tabN (n+2)) (.comp (.var 8) (.var 4) (.or (.cmp .notin (.var 8) (.var 6)) (.cmp .isin (.var 8) (.var 7)))) [D,.val (cardsV rk),.val likesV,.val (.int (side:Nat)),.val (.list (intsN left)),.val (.int (i:Nat)),.val (.list (intsN a)),.val (.list (intsN b))] []=.ok (.val (.list (intsN (left.filter fun d=>!a.contains d || b.contains d)))) []:=by
      refine ev_comp (x:=.list (intsN left)) (g:=fun (i:Nat)=>AV.int i) (l:=left) (fun d=>!a.contains d || b.contains d) (fun d=>.int d) ?_ rfl (by omega) (fun d hd=>?_) (fun d hd _=>?_)
      · simp only [e_var,varV_val,Res.on_some,Option.bind_some,List.getElem?_cons_zero,List.getElem?_cons_succ]
      · simp only [List.cons_append,List.nil_append,e_var,varV_val,Res.on_some,Option.bind_some,rd_val,t_cmp,t_or,op2,Res.of,List.getElem?_cons_zero,List.getElem?_cons_succ,Res.bind_ok,isin_nat,notin_ints]
        cases a.contains d <;> rfl
      · simp only [List.cons_append,List.nil_append,e_var,varV_val,Res.on_some,Option.bind_some,List.getElem?_cons_zero,List.getElem?_cons_succ]
    have body:loopF (tabN (n+2)) [5] firmB (.int (i:Nat)) [D,.val (cardsV rk),.val likesV,.val (.int (side:Nat)),.val (.list (intsN left)),x5,x6,x7] [] =
        if b.length=a.length then .ret (.list (intsN b)) [] else .nx [D,.val (cardsV rk),.val likesV,.val (.int (side:Nat)),.val (.list (intsN (left.filter fun d=>!a.contains d || b.contains d))),.val (.int (i:Nat)),.val (.list (intsN a)),.val (.list (intsN b))] []:=by
      show exSs (tabN (n+2)) firmB [D,.val (cardsV rk),.val likesV,.val (.int (side:Nat)),.val (.list (intsN left)),.val (.int (i:Nat)),x6,x7] []=_
      unfold firmB
      rw [xs_cons]
      rw [k1,SRes.bind_nx]
      first | rw [xs_cons] | rw [xs_nil]
      rw [k2,SRes.bind_nx]
      first | rw [xs_cons] | rw [xs_nil]
      rw [show ∀ (c:MT) (b o:MSs) (ve:List MV) (σ:List AV),exS (tabN (n+2)) (.iff c b o) ve σ=(evT (tabN (n+2)) c ve σ).toS ve fun t σ=>if t then exSs (tabN (n+2)) b ve σ else exSs (tabN (n+2)) o ve σ from fun _ _ _ _ _=>rfl]
      rw [k3,Res.toS_ok]
      by_cases q:b.length=a.length
      · rw [decide_eq_true q,if_pos rfl,if_pos q]
        simp only [xs_nil,xs_cons,x_assign,x_ret,Option.bind_some,List.getElem?_cons_zero,List.getElem?_cons_succ,e_var,varV_val,Res.on_some,rd_val,rdB,Res.of,Res.bind_ok,Res.toS_ok,SRes.bind_ret]
      · rw [decide_eq_false q,if_neg (by decide),if_neg q]
        rw [show ∀ ve,(exSs (tabN (n+2)) .nil ve [])=.nx ve [] from fun _=>rfl,SRes.bind_nx]
        rw [xs_cons]; dsimp only [x_assign,x_assignMut,x_unpack,x_multi,x_setitem,x_augitem,x_aug,x_append,x_iff,x_ret,x_brk,SRes.on_some,Option.bind_some,List.getElem?_cons_zero,List.getElem?_cons_succ,val_val,int_int,tup_tup,muAt,listAt,biterAt,mu_mu,list_list,biter_biter]
        rw [k4]
        simp only [Res.toS_ok,val_val,SRes.on_some,SRes.bind_nx,List.set_cons_zero,List.set_cons_succ]
        rfl
    rw [List.range'_succ,List.map_cons,forL_cons,body]
    have fl:firmL rk side (k+1) left=if b.length=a.length then b else firmL rk side k (left.filter fun d=>!a.contains d || b.contains d):=by
      rw [firmL_succ]
      simp only [hA,hB]
    rw [fl]
    by_cases q:b.length=a.length
    · rw [if_pos q,if_pos q]
      exact .inl rfl
    · rw [if_neg q,if_neg q]
      exact firm_loop n hside hrk k (i+1) _ _ _ _ (fun d hd=>ho d (List.mem_filter.mp hd).1) (Nat.le_trans (List.length_filter_le _ _) hl)
theorem c_firm (n:Nat) {side:Nat} {rk:Nat→Nat} {D:List Nat} (hside:side < 2) (hrk:∀ d,rk d < 3) (ho:∀ d∈D,d < 9) (hl:D.length≤100) :
    (tabN (n+3)).fn .firm [.list (intsN D),cardsV rk,likesV,.int (side:Nat)]=some (.list (intsN (firmL rk side 10 D))):=by
  rw [fn_eq (by decide) rfl]
  show runFn (tabN (n+2)) bFirm [.val (.list (intsN D)),.val (cardsV rk),.val likesV,.val (.int (side:Nat)),.unset,.unset,.unset,.unset]=_
  have k1:exS (tabN (n+2)) (.assign 4 (.var 0)) [.val (.list (intsN D)),.val (cardsV rk),.val likesV,.val (.int (side:Nat)),.unset,.unset,.unset,.unset] []=.nx [.val (.list (intsN D)),.val (cardsV rk),.val likesV,.val (.int (side:Nat)),.val (.list (intsN D)),.unset,.unset,.unset] []:=by
    simp only [x_assign,SRes.on_some,Option.bind_some,List.getElem?_cons_zero,val_val,e_var,varV_val,Res.on_some,Res.toS_ok,List.set_cons_zero,List.set_cons_succ]
  rw [show ∀ ve,runFn (tabN (n+2)) bFirm ve=(SRes.given ((exS (tabN (n+2)) (.assign 4 (.var 0)) ve []).bind fun ve σ=>(exS (tabN (n+2)) (.forr [5] (.p1 .range (.cst (.int (10)))) firmB .nil) ve σ).bind fun ve σ=>exSs (tabN (n+2)) (.cons (.ret (.list .nil)) .nil) ve σ)) from fun _=>rfl,k1,SRes.bind_nx]
  have it:∀ ve:List MV,evE (tabN (n+2)) (.p1 .range (.cst (.int (10)))) ve []=.ok (.val (.range 0 10)) []:=fun ve=>rfl
  have el:elemsF [5] (.range 0 10)=some ((List.range' 0 10).map fun (j:Nat)=>AV.int j):=rfl
  rcases firm_loop n (D:=.val (.list (intsN D))) hside hrk 10 0 D .unset .unset .unset ho hl with h | ⟨h0,ve,h⟩
  · rw [forr_ret (it _) el (by simp) h]
    rfl
  · rw [forr_nx (it _) el (by simp) h,h0]
    rw [show (exSs (tabN (n+2)) .nil ve [])=.nx ve [] from rfl,SRes.bind_nx]
    rfl
end Mine
namespace Mine
theorem len_le_of_sub {α:Type} [DecidableEq α]:∀ {b l:List α},b.Nodup→(∀ x∈b,x∈l)→b.length≤l.length
  | [],_,_,_=>Nat.zero_le _
  | y::b,l,hb,h=>by
    have hy:=h y List.mem_cons_self
    rw [List.nodup_cons] at hb
    have:=len_le_of_sub (l:=l.erase y) hb.2 fun x hx=>(List.mem_erase_of_ne (fun (q:x=y)=>hb.1 (q ▸ hx))).mpr (h x (List.mem_cons_of_mem _ hx))
    rw [List.length_erase_of_mem hy] at this
    have:0 < l.length:=List.length_pos_of_mem hy
    rw [List.length_cons]
    omega
theorem all_of_len {α:Type} [DecidableEq α] {b l:List α} (hb:b.Nodup) (h:∀ x∈b,x∈l) (e:b.length=l.length):∀ x∈l,x∈b:=by
  intro x hx
  refine Decidable.byContradiction fun q=>?_
  have:=len_le_of_sub (l:=l.erase x) hb fun y hy=>(List.mem_erase_of_ne (fun (w:y=x)=>q (w ▸ hy))).mpr (h y hy)
  rw [List.length_erase_of_mem hx] at this
  have:0 < l.length:=List.length_pos_of_mem hx
  omega
theorem ahead_iff {s a b:Nat}:ahead s a b=true↔(s=0∧b < a)∨(s≠0∧a < b):=by
  unfold ahead cmpR
  by_cases h:a=b
  · rw [if_pos h]
    constructor
    · intro q; cases q
    · rintro (⟨_,q⟩ | ⟨_,q⟩) <;> omega
  · rw [if_neg h]
    by_cases h0:s=0
    · by_cases h1:a > b
      · rw [if_pos (by simp [h0,h1])]
        exact ⟨fun _=>.inl ⟨h0,h1⟩,fun _=>rfl⟩
      · rw [if_neg (by simp [h0,h1])]
        constructor
        · intro q; cases q
        · rintro (⟨_,q⟩ | ⟨q,_⟩) <;> omega
    · by_cases h1:a > b
      · rw [if_neg (by simp [h0,h1])]
        constructor
        · intro q; cases q
        · rintro (⟨q,_⟩ | ⟨_,q⟩) <;> omega
      · rw [if_pos (by simp [h0,h1])]
        exact ⟨fun _=>.inr ⟨h0,by omega⟩,fun _=>rfl⟩
theorem ahead_trans {s a b c:Nat} (h1:ahead s a b=true) (h2:ahead s b c=true):ahead s a c=true :=
  ahead_iff.mpr ((ahead_iff.mp h1).elim (fun p=>(ahead_iff.mp h2).elim (fun q=>.inl ⟨p.1,Nat.lt_trans q.2 p.2⟩) fun q=>absurd p.1 q.1) fun p=>(ahead_iff.mp h2).elim (fun q=>absurd q.1 p.1) fun q=>.inr ⟨p.1,Nat.lt_trans p.2 q.2⟩)
theorem ahead_total {s a b:Nat} (h1:ahead s a b=false) (h2:ahead s b a=false):a=b:=by
  have q1:¬ _:=fun q=>Bool.false_ne_true (h1.symm.trans (ahead_iff.mpr q))
  have q2:¬ _:=fun q=>Bool.false_ne_true (h2.symm.trans (ahead_iff.mpr q))
  by_cases h0:s=0
  · exact Nat.le_antisymm (Nat.not_lt.mp fun q=>q1 (.inl ⟨h0,q⟩)) (Nat.not_lt.mp fun q=>q2 (.inl ⟨h0,q⟩))
  · exact Nat.le_antisymm (Nat.not_lt.mp fun q=>q2 (.inr ⟨h0,q⟩)) (Nat.not_lt.mp fun q=>q1 (.inr ⟨h0,q⟩))
noncomputable def Latin (rk:Nat→Nat):Prop:=∀ s d e,s < 2→d < 9→e < 9→lineOf s d=lineOf s e→rk d=rk e→d=e
theorem line_lt {s d:Nat} (h:d < 9):lineOf s d < 3:=by
  unfold lineOf
  split <;> omega
theorem mem_bestLine {rk:Nat→Nat} {s line d:Nat} {pool:List Nat}:d∈bestLine rk s s pool line↔d∈pool∧lineOf s d=line∧∀ o∈pool,lineOf s o=line→ahead s (rk o) (rk d)=false:=by
  unfold bestLine
  simp only [List.mem_filter,beq_iff_eq,List.isEmpty_iff,List.filter_eq_nil_iff]
  constructor
  · rintro ⟨⟨h1,h2⟩,h3⟩
    exact ⟨h1,h2,fun o ho hl=>by simpa using h3 o ⟨ho,hl⟩⟩
  · rintro ⟨h1,h2,h3⟩
    exact ⟨⟨h1,h2⟩,fun o ho=>by simpa using h3 o ho.1 ho.2⟩
theorem mem_best {rk:Nat→Nat} {s d:Nat} {pool:List Nat} (h9:∀ x∈pool,x < 9):d∈bestL rk s s pool↔d∈pool∧∀ o∈pool,lineOf s o=lineOf s d→ahead s (rk o) (rk d)=false:=by
  rw [best_eq,List.mem_append,List.mem_append,mem_bestLine,mem_bestLine,mem_bestLine]
  constructor
  · rintro ((⟨h1,h2,h3⟩ | ⟨h1,h2,h3⟩) | ⟨h1,h2,h3⟩) <;> exact ⟨h1,fun o ho hl=>h3 o ho (hl.trans h2)⟩
  · rintro ⟨h1,h3⟩
    have:=line_lt (s:=s) (h9 d h1)
    rcases (by omega:lineOf s d=0∨lineOf s d=1∨lineOf s d=2) with h | h | h
    · exact .inl (.inl ⟨h1,h,fun o ho hl=>h3 o ho (hl.trans h.symm)⟩)
    · exact .inl (.inr ⟨h1,h,fun o ho hl=>h3 o ho (hl.trans h.symm)⟩)
    · exact .inr ⟨h1,h,fun o ho hl=>h3 o ho (hl.trans h.symm)⟩
theorem best_nodup {rk:Nat→Nat} {s:Nat} {pool:List Nat} (hn:pool.Nodup):(bestL rk s s pool).Nodup:=by
  have one:∀ l,(bestLine rk s s pool l).Nodup:=fun l=>(hn.filter _).filter _
  have ne:∀ {l l' x y:Nat},x∈bestLine rk s s pool l→y∈bestLine rk s s pool l'→l≠l'→x≠y:=by
    intro l l' x y hx hy hl q
    subst q
    exact hl ((mem_bestLine.mp hx).2.1.symm.trans (mem_bestLine.mp hy).2.1)
  rw [best_eq,List.nodup_append,List.nodup_append]
  refine ⟨⟨one 0,one 1,fun x hx y hy=>ne hx hy (by decide)⟩,one 2,fun x hx y hy=>?_⟩
  rcases List.mem_append.mp hx with hx | hx
  · exact ne hx hy (by decide)
  · exact ne hx hy (by decide)
section
variable {rk:Nat→Nat}
theorem best_unique (hL:Latin rk) {s d e:Nat} {pool:List Nat} (hs:s < 2) (h9:∀ x∈pool,x < 9) (hd:d∈bestL rk s s pool) (he:e∈bestL rk s s pool) (hl:lineOf s d=lineOf s e):d=e:=by
  rw [mem_best h9] at hd he
  exact hL s d e hs (h9 d hd.1) (h9 e he.1) hl (ahead_total (he.2 d hd.1 hl) (hd.2 e he.1 hl.symm))
theorem best_exists {s:Nat} {pool:List Nat} (hrk:∀ d,rk d < 3) (h9:∀ x∈pool,x < 9):∀ (k:Nat) (d:Nat),d∈pool→(if s=0 then 3 - rk d else rk d+1)≤k→∃ o∈bestL rk s s pool,lineOf s o=lineOf s d∧(o=d∨ahead s (rk o) (rk d)=true)
  | 0,d,_,h=>by
    have:=hrk d
    split at h <;> omega
  | k+1,d,hd,h=>by
    by_cases q:d∈bestL rk s s pool
    · exact ⟨d,q,rfl,.inl rfl⟩
    · rw [mem_best h9] at q
      have:∃ o∈pool,lineOf s o=lineOf s d∧ahead s (rk o) (rk d)=true:=by
        refine Classical.byContradiction fun w=>q ⟨hd,fun o ho hl=>?_⟩
        cases e:ahead s (rk o) (rk d) with
        | false=>rfl
        | true=>exact absurd ⟨o,ho,hl,e⟩ w
      obtain ⟨o,ho,hl,ha⟩:=this
      have hm:(if s=0 then 3 - rk o else rk o+1)≤k:=by
        have h1:=ahead_iff.mp ha
        have:=hrk o
        have:=hrk d
        by_cases q0:s=0
        · rw [if_pos q0] at h ⊢
          omega
        · rw [if_neg q0] at h ⊢
          omega
      obtain ⟨o2,h1,h2,h3⟩:=best_exists hrk h9 k o ho hm
      refine ⟨o2,h1,h2.trans hl,.inr ?_⟩
      rcases h3 with rfl | h3
      · exact ha
      · exact ahead_trans h3 ha
structure Firm (rk:Nat→Nat) (D F:List Nat):Prop where
  sub:∀ d∈F,d∈D
  nodup:F.Nodup
  apart:∀ s d e,s < 2→d∈F→e∈F→lineOf s d=lineOf s e→d=e
  dom:∀ d∈D,d ∉ F→∃ o∈F,∃ s,s < 2∧lineOf s o=lineOf s d∧ahead s (rk o) (rk d)=true
theorem firm_ok (hL:Latin rk) (hrk:∀ d,rk d < 3) {side:Nat} (hside:side < 2) {D:List Nat} (h9:∀ d∈D,d < 9):∀ (k:Nat) (L:List Nat),L.Nodup→(∀ d∈L,d∈D)→L.length < k →
    (∀ d∈D,d ∉ L→∃ o∈bestL rk side side L,lineOf (1 - side) o=lineOf (1 - side) d∧ahead (1 - side) (rk o) (rk d)=true)→Firm rk D (firmL rk side k L)
  | 0,L,_,_,h,_=>absurd h (Nat.not_lt_zero _)
  | k+1,L,hn,hs,hk,inv=>by
    have hs2:1 - side < 2:=by omega
    have l9:∀ x∈L,x < 9:=fun x hx=>h9 x (hs x hx)
    have an:(bestL rk side side L).Nodup:=best_nodup hn
    have asub:∀ x∈bestL rk side side L,x∈L:=fun x hx=>best_sub hx
    have a9:∀ x∈bestL rk side side L,x < 9:=fun x hx=>l9 x (asub x hx)
    have bn:(bestL rk (1 - side) (1 - side) (bestL rk side side L)).Nodup:=best_nodup an
    have bsub:∀ x∈bestL rk (1 - side) (1 - side) (bestL rk side side L),x∈bestL rk side side L:=fun x hx=>best_sub hx
    have aex:∀ d∈L,∃ o∈bestL rk side side L,lineOf side o=lineOf side d∧(o=d∨ahead side (rk o) (rk d)=true):=fun d hd=>best_exists hrk l9 (if side=0 then 3 - rk d else rk d+1) d hd (Nat.le_refl _)
    have bex:∀ d∈bestL rk side side L,∃ o∈bestL rk (1 - side) (1 - side) (bestL rk side side L),lineOf (1 - side) o=lineOf (1 - side) d∧(o=d∨ahead (1 - side) (rk o) (rk d)=true):=fun d hd=>best_exists hrk a9 (if 1 - side=0 then 3 - rk d else rk d+1) d hd (Nat.le_refl _)
    have au:∀ d e,d∈bestL rk side side L→e∈bestL rk side side L→lineOf side d=lineOf side e→d=e:=fun d e hd he hl=>best_unique hL hside l9 hd he hl
    have bu:∀ d e,d∈bestL rk (1 - side) (1 - side) (bestL rk side side L)→e∈bestL rk (1 - side) (1 - side) (bestL rk side side L)→lineOf (1 - side) d=lineOf (1 - side) e→d=e:=fun d e hd he hl=>best_unique hL hs2 a9 hd he hl
    have amem:∀ {L':List Nat} {d:Nat},(∀ x∈L',x∈L)→d∈L'→d∈bestL rk side side L→d∈bestL rk side side L':=by
      intro L' d sub hd ha
      rw [mem_best (fun x hx=>l9 x (sub x hx))]
      exact ⟨hd,fun o ho hl=>((mem_best l9).mp ha).2 o (sub o ho) hl⟩
    rw [firmL_succ]
    generalize bestL rk side side L=a at *
    generalize bestL rk (1 - side) (1 - side) a=b at *
    by_cases q:b.length=a.length
    · rw [if_pos q]
      have ab:=all_of_len bn bsub q
      refine ⟨fun d hd=>hs d (asub d (bsub d hd)),bn,fun s d e h2 hd he hl=>?_,fun d hd hnot=>?_⟩
      · by_cases w:s=side
        · subst w
          exact au d e (bsub d hd) (bsub e he) hl
        · have:s=1 - side:=by omega
          subst this
          exact bu d e hd he hl
      · by_cases w:d∈L
        · obtain ⟨o,ho,hl,h | h⟩:=aex d w
          · subst h
            exact absurd (ab o ho) hnot
          · exact ⟨o,ab o ho,side,hside,hl,h⟩
        · obtain ⟨o,ho,hl,h⟩:=inv d hd w
          exact ⟨o,ab o ho,1 - side,hs2,hl,h⟩
    · rw [if_neg q]
      have mem:∀ {d:Nat},d∈(L.filter fun d=>!a.contains d || b.contains d)↔d∈L∧(d ∉ a∨d∈b):=by
        intro d
        rw [List.mem_filter]
        simp
      have sub:∀ x∈(L.filter fun d=>!a.contains d || b.contains d),x∈L:=fun x hx=>(mem.mp hx).1
      have bin:∀ x∈b,x∈bestL rk side side (L.filter fun d=>!a.contains d || b.contains d):=fun x hx=>amem sub (mem.mpr ⟨asub x (bsub x hx),.inr hx⟩) (bsub x hx)
      refine firm_ok hL hrk hside h9 k _ (hn.filter _) (fun d hd=>hs d (sub d hd)) ?_ fun d hd hnot=>?_
      · -- one fewer
        have:∃ x∈a,x ∉ b:=by
          refine Classical.byContradiction fun w=>q (Nat.le_antisymm (len_le_of_sub bn bsub) (len_le_of_sub an fun x hx=>?_))
          exact Decidable.byContradiction fun z=>w ⟨x,hx,z⟩
        obtain ⟨x,hx,hxb⟩:=this
        have h1:(L.filter fun d=>!a.contains d || b.contains d).length < L.length:=by
          rw [List.length_filter_lt_length_iff_exists]
          exact ⟨x,asub x hx,by simp [hx,hxb]⟩
        omega
      · by_cases w:d∈L
        · have:d∈a∧d ∉ b:=by
            have h1:¬ (d∈L∧(d ∉ a∨d∈b)):=fun z=>hnot (mem.mpr z)
            constructor
            · exact Decidable.byContradiction fun z=>h1 ⟨w,.inl z⟩
            · exact fun z=>h1 ⟨w,.inr z⟩
          obtain ⟨o,ho,hl,h | h⟩:=bex d this.1
          · subst h
            exact absurd ho this.2
          · exact ⟨o,bin o ho,hl,h⟩
        · obtain ⟨o,ho,hl,h⟩:=inv d hd w
          obtain ⟨o2,ho2,hl2,h2⟩:=bex o ho
          refine ⟨o2,bin o2 ho2,hl2.trans hl,?_⟩
          rcases h2 with rfl | h2
          · exact h
          · exact ahead_trans h2 h
theorem firm_all (hL:Latin rk) (hrk:∀ d,rk d < 3) {side:Nat} (hside:side < 2) {D:List Nat} (h9:∀ d∈D,d < 9) (hn:D.Nodup) (hl:D.length≤9):Firm rk D (firmL rk side 10 D) :=
  firm_ok hL hrk hside h9 10 D hn (fun _ h=>h) (by omega) fun d hd hnot=>absurd hd hnot
end
end Mine
set_option linter.unusedSimpArgs false
namespace Mine
open PySem PyProof.Rows
noncomputable abbrev Paints:=List (Nat × Str)
noncomputable def dictP (P:Paints):AV:=.dictI (P.map fun p=>(p.1:Int)) (P.map fun p=>.str p.2)
noncomputable def todo (lists:Nat→List Str) (P:Paints) (w:Str):List Nat:=(List.range 9).filter fun d=>!(P.map (·.1)).contains d && (lists d).contains w
noncomputable def paintStep (rk:Nat→Nat) (side:Nat) (lists:Nat→List Str) (P:Paints) (w:Str):Paints:=P++(firmL rk side 10 (todo lists P w)).map fun d=>(d,w)
noncomputable def listsV (lists:Nat→List Str):AV:=.list ((List.range 9).map fun d=>.list ((lists d).map .str))
noncomputable def ranksV (rk:Nat→Nat):AV:=.list (intsN ((List.range 9).map rk))
theorem rank_at {rk:Nat→Nat} {d:Nat} (h:d < 9):idxV (ranksV rk) (.int (d:Nat))=some (.int (rk d:Nat)):=by
  refine idx_list (by simp [intsN]) ?_
  exact intsN_get (by rw [List.getElem?_map,List.getElem?_range h]; rfl)
theorem list_at9 {lists:Nat→List Str} {d:Nat} (h:d < 9):idxV (listsV lists) (.int (d:Nat))=some (.list ((lists d).map .str)):=by
  refine idx_list (by simp) ?_
  rw [List.getElem?_map,List.getElem?_range h]
  rfl
theorem todo_sub {lists:Nat→List Str} {P:Paints} {w:Str} {d:Nat} (h:d∈todo lists P w):d < 9∧d ∉ P.map (·.1)∧w∈lists d:=by
  unfold todo at h
  rw [List.mem_filter] at h
  simp only [Bool.and_eq_true,Bool.not_eq_true',List.contains_eq_mem,decide_eq_false_iff_not,decide_eq_true_eq] at h
  exact ⟨List.mem_range.mp h.1,h.2.1,h.2.2⟩
theorem todo_nodup (lists:Nat→List Str) (P:Paints) (w:Str):(todo lists P w).Nodup:=List.nodup_range.filter _
theorem todo_len (lists:Nat→List Str) (P:Paints) (w:Str):(todo lists P w).length≤9:=by
  unfold todo
  exact Nat.le_trans (List.length_filter_le _ _) (by simp)
theorem div_ev (d k:Nat) (hk:0 < k) (hk2:k < 100):binV .fdiv (.int (d:Nat)) (.int (k:Nat))=some (.int ((d / k:Nat):Int)):=by
  rw [b_fdiv (by omega) (small_nat (by omega)),fdiv_nat]
theorem mod_ev (d k:Nat) (hk:0 < k):binV .mod (.int (d:Nat)) (.int (k:Nat))=some (.int ((d % k:Nat):Int)):=by
  rw [b_mod (by omega),fmod_nat]
theorem eq_ev (a b:Nat):cmpV .eq (.int (a:Nat)) (.int (b:Nat))=some (a == b):=by
  show some ((a:Int) == (b:Int))=_
  congr 1
  by_cases q:a=b
  · simp [q]
  · have:¬ (a:Int)=(b:Int):=by omega
    rw [beq_false_of_ne this,beq_false_of_ne q]
theorem gt_ev (a b:Nat):cmpV .gt (.int (a:Nat)) (.int (b:Nat))=some (decide (b < a)):=by
  show some (decide ((a:Int) > (b:Int)))=_
  congr 1
  exact decide_eq_decide.mpr (by omega)
theorem lt_ev (a b:Nat):cmpV .lt (.int (a:Nat)) (.int (b:Nat))=some (decide (a < b)):=by
  show some (decide ((a:Int) < (b:Int)))=_
  congr 1
  exact decide_eq_decide.mpr (by omega)
theorem cards_ev (T:Tab) {rk:Nat→Nat} (hrk:∀ d,rk d < 3) {A B S x4 x5 x6 x7 x8 x9 x10 x11 x12:MV}:evE T (.comp (.tup (.cons (.bin .mul (.cst (.int (2))) (.bin .mod (.bin .add (.idx (.var 2) (.var 13)) (.cst (.int (1)))) (.cst (.int (2))))) (.cons (.var 13) (.cons (.bin .mul (.cst (.int (2))) (.bin .fdiv (.idx (.var 2) (.var 13)) (.cst (.int (2))))) .nil)))) (.p1 .range (.cst (.int (9)))) .tt)
    [A,B,.val (ranksV rk),S,x4,x5,x6,x7,x8,x9,x10,x11,x12] []=.ok (.val (cardsV rk)) []:=by
  refine ev_comp_tt (x:=.range 0 9) (g:=fun (i:Nat)=>AV.int i) (l:=List.range 9) (fun d=>cardV (rk d) d) rfl rfl (by simp) fun d hd=>?_
  have hd:=List.mem_range.mp hd
  have e1:binV .add (.int (rk d:Nat)) (.int 1)=some (.int ((rk d:Int)+1)):=rfl
  have e2:binV .mod (.int ((rk d:Int)+1)) (.int 2)=some (.int (((rk d:Int)+1).fmod 2)):=b_mod (by decide)
  have e3:binV .mul (.int 2) (.int (((rk d:Int)+1).fmod 2))=some (.int (2 * ((rk d:Int)+1).fmod 2)):=by
    have h1:=(mod_pos_nat ((rk d:Int)+1) (s:=2) (by omega))
    have h2:((rk d:Int)+1).fmod 2=((((rk d:Int)+1).fmod 2).toNat:Int):=h1.1
    have h3:(((rk d:Int)+1).fmod 2).toNat < 2:=h1.2
    exact b_mul (by rw [h2]; exact small_nat (by omega))
  have e4:binV .fdiv (.int (rk d:Nat)) (.int 2)=some (.int ((rk d:Int).fdiv 2)):=b_fdiv (by decide) rfl
  have e5:binV .mul (.int 2) (.int ((rk d:Int).fdiv 2))=some (.int (2 * (rk d:Int).fdiv 2)):=by
    have h2:(rk d:Int).fdiv 2=((rk d / 2:Nat):Int):=fdiv_nat (rk d) 2
    have:=hrk d
    exact b_mul (by rw [h2]; exact small_nat (by omega))
  simp only [List.cons_append,List.nil_append,e_cst,e_var,e_bin,e_tup,e_idx,varV_val,Res.on_some,Option.bind_some,val_val,rd_val,es_nil',es_cons',op2,Res.of,toM,List.getElem?_cons_zero,List.getElem?_cons_succ,Res.bind_ok,Option.map_some,rank_at hd,e1,e2,e3,e4,e5]
  rfl
noncomputable def domB (rk:Nat→Nat) (d o:Nat):Bool:=(o / 3 == d / 3 && decide (rk d < rk o)) || (o % 3 == d % 3 && decide (rk o < rk d))
theorem domB_cmp {rk:Nat→Nat} {d o:Nat} (h:domB rk d o=true):cmpR (if (o / 3 == d / 3)=true then 0 else 1) (rk d) (rk o)=1:=by
  unfold domB at h
  simp only [Bool.or_eq_true,Bool.and_eq_true,beq_iff_eq,decide_eq_true_eq] at h
  by_cases q:o / 3=d / 3
  · rw [if_pos (beq_iff_eq.mpr q)]
    rcases h with ⟨_,h⟩ | ⟨h1,h⟩
    · unfold cmpR
      rw [if_neg (by omega),if_neg]
      intro w
      have:rk d > rk o:=Eq.mpr w rfl
      omega
    · have:o=d:=by omega
      subst this
      omega
  · rw [if_neg (fun w=>q (beq_iff_eq.mp w))]
    rcases h with ⟨h1,_⟩ | ⟨h1,h⟩
    · exact absurd h1 q
    · unfold cmpR
      rw [if_neg (by omega),if_neg]
      intro w
      have:(1:Nat)=0:=Eq.mp w h
      cases this
noncomputable def aboveE:ME:=.comp (.var 13) (.var 10) (.or (.and (.cmp .eq (.bin .fdiv (.var 13) (.cst (.int (3)))) (.bin .fdiv (.var 4) (.cst (.int (3))))) (.cmp .gt (.idx (.var 2) (.var 13)) (.idx (.var 2) (.var 4)))) (.and (.cmp .eq (.bin .mod (.var 13) (.cst (.int (3)))) (.bin .mod (.var 4) (.cst (.int (3))))) (.cmp .lt (.idx (.var 2) (.var 13)) (.idx (.var 2) (.var 4)))))
noncomputable def toldE:ME:=.comp (.call .compare (.cons (.idx (.var 6) (.ite (.cmp .eq (.bin .fdiv (.var 13) (.cst (.int (3)))) (.bin .fdiv (.var 4) (.cst (.int (3))))) (.cst (.int (0))) (.cst (.int (1))))) (.cons (.idx (.var 5) (.var 4)) (.cons (.idx (.var 5) (.var 13)) .nil)))) (.bin .add (.var 11) (.list (.cons (.var 4) .nil))) .tt
noncomputable def badT:MT:=.or (.cmp .ne (.var 12) (.bin .add (.bin .mul (.list (.cons (.cst (.int (1))) .nil)) (.p1 .len (.var 11))) (.list (.cons (.cst (.int (0))) .nil)))) (.and (.cmp .notin (.var 4) (.var 10)) (.cmp .eq (.var 11) (.list .nil)))
noncomputable def checkB:MSs:=(.cons (.assign 11 aboveE) (.cons (.assign 12 toldE) (.cons (.iff badT (.cons (.ret (.dict0 false)) .nil) .nil) .nil)))
section
variable {rk:Nat→Nat} {A B S:MV} {x7 x8 x9 x11 x12:MV} {σ:List AV} {F:List Nat} {d:Nat}
theorem above_ev (T:Tab) (hd:d < 9) (hF:∀ o∈F,o < 9) (hl:F.length≤100):evE T aboveE [A,B,.val (ranksV rk),S,.val (.int (d:Nat)),.val (cardsV rk),.val likesV,x7,x8,x9,.val (.list (intsN F)),x11,x12] σ=.ok (.val (.list (intsN (F.filter fun o=>domB rk d o)))) σ:=by
  unfold aboveE
  refine ev_comp (x:=.list (intsN F)) (g:=fun (i:Nat)=>AV.int i) (l:=F) (fun o=>domB rk d o) (fun o=>.int o) ?_ rfl (by omega) (fun o ho=>?_) (fun o ho _=>?_)
  · simp only [e_var,varV_val,Res.on_some,Option.bind_some,List.getElem?_cons_zero,List.getElem?_cons_succ]
  · have e1:=div_ev o 3 (by omega) (by omega)
    have e2:=div_ev d 3 (by omega) (by omega)
    have e3:=mod_ev o 3 (by omega)
    have e4:=mod_ev d 3 (by omega)
    simp only [Int.cast_ofNat_Int] at e1 e2 e3 e4
    simp only [List.cons_append,List.nil_append,e_cst,e_var,e_bin,e_idx,varV_val,Res.on_some,Option.bind_some,rd_val,t_cmp,t_and,t_or,op2,rd_val,Res.of,toM,List.getElem?_cons_zero,List.getElem?_cons_succ,Res.bind_ok,Option.bind_some,Option.map_some,e1,e2,e3,e4,eq_ev,rank_at hd,rank_at (hF o ho),gt_ev,lt_ev]
    unfold domB
    cases (o / 3 == d / 3) <;> cases (o % 3 == d % 3) <;> cases (decide (rk d < rk o)) <;> cases (decide (rk o < rk d)) <;> rfl
  · simp only [List.cons_append,List.nil_append,e_var,varV_val,Res.on_some,Option.bind_some,List.getElem?_cons_zero,List.getElem?_cons_succ]
theorem told_ev (n:Nat) {G:List Nat} (hrk:∀ d,rk d < 3) (hd:d < 9) (hG:∀ o∈G,o < 9) (hdom:∀ o∈G,domB rk d o=true) (hl:G.length≤100) {x10:MV}:evE (tabN (n+1)) toldE [A,B,.val (ranksV rk),S,.val (.int (d:Nat)),.val (cardsV rk),.val likesV,x7,x8,x9,x10,.val (.list (intsN G)),x12] σ=.ok (.val (.list (intsN (List.replicate G.length 1++[0])))) σ:=by
  unfold toldE
  have it:evE (tabN (n+1)) (.bin .add (.var 11) (.list (.cons (.var 4) .nil))) [A,B,.val (ranksV rk),S,.val (.int (d:Nat)),.val (cardsV rk),.val likesV,x7,x8,x9,x10,.val (.list (intsN G)),x12] σ=.ok (.val (.list (intsN (G++[d])))) σ:=by
    have e1:binV .add (.list (intsN G)) (.list [.int (d:Nat)])=some (.list (intsN (G++[d]))):=by
      rw [b_addl (by simp only [intsN,List.length_append,List.length_map,List.length_cons,List.length_nil]; omega)]
      simp [intsN]
    simp only [e_var,e_bin,e_list,varV_val,Res.on_some,Option.bind_some,val_val,rd_val,es_nil',es_cons',op2,rd_val,Res.of,toM,List.getElem?_cons_zero,List.getElem?_cons_succ,Res.bind_ok,Option.bind_some,Option.map_some,List.length_cons,List.length_nil,fits_le (show 0+1≤1000000 by decide),if_true,e1]
  have:=ev_comp_tt (T:=tabN (n+1)) (elt:=.call .compare (.cons (.idx (.var 6) (.ite (.cmp .eq (.bin .fdiv (.var 13) (.cst (.int (3)))) (.bin .fdiv (.var 4) (.cst (.int (3))))) (.cst (.int (0))) (.cst (.int (1))))) (.cons (.idx (.var 5) (.var 4)) (.cons (.idx (.var 5) (.var 13)) .nil)))) (x:=.list (intsN (G++[d]))) (g:=fun (i:Nat)=>AV.int i) (l:=G++[d]) (fun o=>.int (cmpR (if (o / 3 == d / 3)=true then 0 else 1) (rk d) (rk o))) it rfl (by rw [List.length_append]; simp only [List.length_cons,List.length_nil]; omega) (fun o ho=>by
    have ho9:o < 9:=by
      rcases List.mem_append.mp ho with h | h
      · exact hG o h
      · rw [List.mem_singleton.mp h]; exact hd
    have e1:=div_ev o 3 (by omega) (by omega)
    have e2:=div_ev d 3 (by omega) (by omega)
    simp only [Int.cast_ofNat_Int] at e1 e2
    have ite:evE (tabN (n+1)) (.ite (.cmp .eq (.bin .fdiv (.var 13) (.cst (.int (3)))) (.bin .fdiv (.var 4) (.cst (.int (3))))) (.cst (.int (0))) (.cst (.int (1)))) ([A,B,.val (ranksV rk),S,.val (.int (d:Nat)),.val (cardsV rk),.val likesV,x7,x8,x9,x10,.val (.list (intsN G)),x12]++[.val (.int (o:Nat))]) σ=.ok (.val (.int ((if (o / 3 == d / 3)=true then 0 else 1:Nat):Int))) σ:=by
      simp only [List.cons_append,List.nil_append,e_cst,e_var,e_bin,e_ite,varV_val,Res.on_some,Option.bind_some,rd_val,t_cmp,op2,Res.of,toM,List.getElem?_cons_zero,List.getElem?_cons_succ,Res.bind_ok,Option.map_some,e1,e2,eq_ev]
      cases (o / 3 == d / 3) <;> rfl
    have hs:(if (o / 3 == d / 3)=true then 0 else 1) < 2:=by split <;> omega
    generalize (if (o / 3 == d / 3)=true then 0 else 1)=s at ite hs ⊢
    generalize (ME.ite (.cmp .eq (.bin .fdiv (.var 13) (.cst (.int (3)))) (.bin .fdiv (.var 4) (.cst (.int (3))))) (.cst (.int (0))) (.cst (.int (1))))=me at ite ⊢
    simp only [List.cons_append,List.nil_append] at ite
    simp only [List.cons_append,List.nil_append,e_var,e_idx,e_call,varV_val,Res.on_some,Option.bind_some,val_val,rd_val,es_nil',es_cons',op2,rd_val,Res.of,toM,List.getElem?_cons_zero,List.getElem?_cons_succ,Res.bind_ok,Option.bind_some,Option.map_some,ite,like_at hs,card_at hd,card_at ho9,c_cmp n hs (hrk d) (hrk o) d o])
  rw [this]
  congr 2
  rw [List.map_append,List.map_cons,List.map_nil,intsN,List.map_append]
  congr 1
  congr 1
  · rw [List.map_replicate,List.eq_replicate_iff]
    refine ⟨by simp,fun b hb=>?_⟩
    obtain ⟨o,ho,rfl⟩:=List.mem_map.mp hb
    rw [domB_cmp (hdom o ho)]
    rfl
  · have:cmpR (if (d / 3 == d / 3)=true then 0 else 1) (rk d) (rk d)=0:=by unfold cmpR; rw [if_pos rfl]
    rw [this]
    rfl
theorem avEq_ints (l:List Nat):avEq (.list (intsN l)) (.list (intsN l))=some true:=avEqN_list fun a _=>avEqN_int 5 _
theorem bad_ev (T:Tab) {G:List Nat} (hG:G.length≤100) (h:d ∉ F→G≠[]):evT T badT [A,B,.val (ranksV rk),S,.val (.int (d:Nat)),.val (cardsV rk),.val likesV,x7,x8,x9,.val (.list (intsN F)),.val (.list (intsN G)),.val (.list (intsN (List.replicate G.length 1++[0])))] σ=.ok false σ:=by
  have e1:p1V .len (.list (intsN G))=some (.int (G.length:Nat)):=by rw [p_len (by simp only [intsN,List.length_map]; omega)]; simp [intsN]
  have e2:binV .mul (.list [.int 1]) (.int (G.length:Nat))=some (.list (intsN (List.replicate G.length 1))):=by
    rw [b_mull (by omega) (by simp only [List.length_cons,List.length_nil]; omega)]
    congr 2
    rw [intsN,List.map_replicate]
    clear h e1
    generalize G.length=k
    induction k with
    | zero=>rfl
    | succ k ih=>rw [List.replicate_succ,List.flatten_cons,ih,List.replicate_succ]; rfl
  have e3:binV .add (.list (intsN (List.replicate G.length 1))) (.list [.int 0])=some (.list (intsN (List.replicate G.length 1++[0]))):=by
    rw [b_addl (by simp only [intsN,List.length_append,List.length_map,List.length_replicate,List.length_cons,List.length_nil]; omega)]
    simp [intsN]
  have e4:cmpV .ne (.list (intsN (List.replicate G.length 1++[0]))) (.list (intsN (List.replicate G.length 1++[0])))=some false:=by
    show (avEq _ _).map (!·)=_
    rw [avEq_ints]
    rfl
  have e5:cmpV .eq (.list (intsN G)) (.list [])=some G.isEmpty:=by
    rw [cmp_list,avEq_nil]
    simp [intsN]
  simp only [badT,t_cmp,t_and,t_or,e_cst,e_var,e_bin,e_list,e_p1,varV_val,Res.on_some,Option.bind_some,val_val,rd_val,es_nil',es_cons',op1,op2,rd_val,Res.of,toM,List.getElem?_cons_zero,List.getElem?_cons_succ,Res.bind_ok,Option.bind_some,Option.map_some,List.length_cons,List.length_nil,fits_le (show 0+1≤1000000 by decide),fits_le (show 0≤1000000 by decide),if_true,e1,e2,e3,e4,Bool.false_eq_true,if_false,notin_ints,e5]
  by_cases q:d∈F
  · have:F.contains d=true:=by simpa using q
    rw [this]
    rfl
  · have:F.contains d=false:=by simpa using q
    rw [this]
    have:=h q
    cases G with
    | nil=>exact absurd rfl this
    | cons _ _=>rfl
theorem check_turn (n:Nat) {x4:MV} (hrk:∀ d,rk d < 3) (hd:d < 9) (hF:∀ o∈F,o < 9) (hl:F.length≤100) (h:d ∉ F→∃ o∈F,domB rk d o=true) :
    ∃ y11 y12,loopF (tabN (n+1)) [4] checkB (.int (d:Nat)) [A,B,.val (ranksV rk),S,x4,.val (cardsV rk),.val likesV,x7,x8,x9,.val (.list (intsN F)),x11,x12] σ=.nx [A,B,.val (ranksV rk),S,.val (.int (d:Nat)),.val (cardsV rk),.val likesV,x7,x8,x9,.val (.list (intsN F)),y11,y12] σ:=by
  have l2:(F.filter fun o=>domB rk d o).length≤100:=Nat.le_trans (List.length_filter_le _ _) hl
  have e1:=above_ev (tabN (n+1)) (rk:=rk) (A:=A) (B:=B) (S:=S) (x7:=x7) (x8:=x8) (x9:=x9) (x11:=x11) (x12:=x12) (σ:=σ) hd hF hl
  have e2:=told_ev n (rk:=rk) (A:=A) (B:=B) (S:=S) (x7:=x7) (x8:=x8) (x9:=x9) (x10:=.val (.list (intsN F))) (x12:=x12) (σ:=σ) (G:=F.filter fun o=>domB rk d o) hrk hd (fun o ho=>hF o (List.mem_filter.mp ho).1) (fun o ho=>(List.mem_filter.mp ho).2) l2
  have e3:=bad_ev (tabN (n+1)) (rk:=rk) (A:=A) (B:=B) (S:=S) (x7:=x7) (x8:=x8) (x9:=x9) (σ:=σ) (F:=F) (d:=d) (G:=F.filter fun o=>domB rk d o) l2 (fun q e=>by
    obtain ⟨o,ho,hb⟩:=h q
    have:o∈F.filter fun o=>domB rk d o:=List.mem_filter.mpr ⟨ho,hb⟩
    rw [e] at this
    cases this)
  refine ⟨.val (.list (intsN (F.filter fun o=>domB rk d o))),.val (.list (intsN (List.replicate (F.filter fun o=>domB rk d o).length 1++[0]))),?_⟩
  show exSs (tabN (n+1)) checkB [A,B,.val (ranksV rk),S,.val (.int (d:Nat)),.val (cardsV rk),.val likesV,x7,x8,x9,.val (.list (intsN F)),x11,x12] σ=_
  unfold checkB
  rw [xs_cons]; dsimp only [x_assign,SRes.on_some,Option.bind_some,List.getElem?_cons_zero,List.getElem?_cons_succ,val_val]
  rw [e1]
  simp only [Res.toS_ok,val_val,SRes.on_some,SRes.bind_nx,List.set_cons_zero,List.set_cons_succ]
  rw [xs_cons]; dsimp only [x_assign,x_assignMut,x_unpack,x_multi,x_setitem,x_augitem,x_aug,x_append,x_iff,x_ret,x_brk,SRes.on_some,Option.bind_some,List.getElem?_cons_zero,List.getElem?_cons_succ,val_val,int_int,tup_tup,muAt,listAt,biterAt,mu_mu,list_list,biter_biter]
  rw [e2]
  simp only [Res.toS_ok,val_val,SRes.on_some,SRes.bind_nx,List.set_cons_zero,List.set_cons_succ]
  rw [xs_cons]; dsimp only [x_assign,x_assignMut,x_unpack,x_multi,x_setitem,x_augitem,x_aug,x_append,x_iff,x_ret,x_brk,SRes.on_some,Option.bind_some,List.getElem?_cons_zero,List.getElem?_cons_succ,val_val,int_int,tup_tup,muAt,listAt,biterAt,mu_mu,list_list,biter_biter]
  rw [e3]
  rfl
theorem check_loop (n:Nat) (hrk:∀ d,rk d < 3) (hF:∀ o∈F,o < 9) (hl:F.length≤100):∀ (D:List Nat) (x4 x11 x12:MV),(∀ d∈D,d < 9)→(∀ d∈D,d ∉ F→∃ o∈F,domB rk d o=true) →
    ∃ y4 y11 y12,forL (loopF (tabN (n+1)) [4] checkB) (intsN D) [A,B,.val (ranksV rk),S,x4,.val (cardsV rk),.val likesV,x7,x8,x9,.val (.list (intsN F)),x11,x12] σ=.nx [A,B,.val (ranksV rk),S,y4,.val (cardsV rk),.val likesV,x7,x8,x9,.val (.list (intsN F)),y11,y12] σ
  | [],x4,x11,x12,_,_=>⟨x4,x11,x12,rfl⟩
  | d::D,x4,x11,x12,h9,h=>by
    obtain ⟨y11,y12,e⟩:=check_turn n (rk:=rk) (A:=A) (B:=B) (S:=S) (x4:=x4) (x7:=x7) (x8:=x8) (x9:=x9) (x11:=x11) (x12:=x12) (σ:=σ) (F:=F) hrk (h9 d List.mem_cons_self) hF hl (h d List.mem_cons_self)
    obtain ⟨z4,z11,z12,ih⟩:=check_loop n hrk hF hl D (.val (.int (d:Nat))) y11 y12 (fun x hx=>h9 x (List.mem_cons_of_mem _ hx)) (fun x hx=>h x (List.mem_cons_of_mem _ hx))
    refine ⟨z4,z11,z12,?_⟩
    rw [show intsN (d::D)=.int (d:Nat)::intsN D from rfl,forL_cons,e]
    exact ih
end
theorem put_new {K:Type} [DecidableEq K] {k:K} {v:AV}:∀ {ks:List K} {vs:List AV},k ∉ ks→ks.length=vs.length→putKey k v ks vs=(ks++[k],vs++[v])
  | [],[],_,_=>rfl
  | [],_::_,_,h=>by cases h
  | _::_,[],_,h=>by cases h
  | a::ks,b::vs,h,hl=>by
    rw [List.mem_cons,not_or] at h
    have ih:=put_new (v:=v) h.2 (Nat.succ.inj hl)
    rw [putKey_cons,if_neg (fun q=>h.1 q.symm),ih]
    rfl
theorem set_new {P:Paints} {d:Nat} {w:Str} (h:d ∉ P.map (·.1)) (hl:P.length≤1000):setV (dictP P) (.int (d:Nat)) (.str w)=some (dictP (P++[(d,w)])):=by
  rw [show setV (dictP P) (.int (d:Nat)) (.str w)=_ from set_dI (by rw [List.length_map]; omega),put_new]
  · simp [dictP]
  · intro q
    obtain ⟨p,hp,e⟩:=List.mem_map.mp q
    exact h (List.mem_map.mpr ⟨p,hp,by omega⟩)
  · simp
theorem store_loop (T:Tab) {A B R S C L x9 x10 x11 x12:MV} {w:Str}:∀ (F:List Nat) (P:Paints) (x4:MV),F.Nodup→(∀ d∈F,d ∉ P.map (·.1))→P.length+F.length≤1000 →
    ∃ y4,forL (loopF T [4] (.cons (.setitem 7 (.var 4) (.var 8)) .nil)) (intsN F) [A,B,R,S,x4,C,L,.mu 0,.val (.str w),x9,x10,x11,x12] [dictP P]=.nx [A,B,R,S,y4,C,L,.mu 0,.val (.str w),x9,x10,x11,x12] [dictP (P++F.map fun d=>(d,w))]
  | [],P,x4,_,_,_=>⟨x4,by rw [List.map_nil,List.append_nil]; rfl⟩
  | d::F,P,x4,hn,hd,hl=>by
    rw [List.length_cons] at hl
    rw [List.nodup_cons] at hn
    have e:loopF T [4] (.cons (.setitem 7 (.var 4) (.var 8)) .nil) (.int (d:Nat)) [A,B,R,S,x4,C,L,.mu 0,.val (.str w),x9,x10,x11,x12] [dictP P]=.nx [A,B,R,S,.val (.int (d:Nat)),C,L,.mu 0,.val (.str w),x9,x10,x11,x12] [dictP (P++[(d,w)])]:=by
      show exSs T (.cons (.setitem 7 (.var 4) (.var 8)) .nil) [A,B,R,S,.val (.int (d:Nat)),C,L,.mu 0,.val (.str w),x9,x10,x11,x12] _=_
      simp only [xs_nil,xs_cons,x_setitem,SRes.on_some,Option.bind_some,List.getElem?_cons_zero,List.getElem?_cons_succ,val_val,muAt,mu_mu,e_var,varV_val,Res.on_some,Option.bind_some,val_val,rd_val,rdB,rd_val,Res.of,List.getElem?_cons_zero,List.getElem?_cons_succ,Res.bind_ok,Res.toS_ok,Option.bind_some,set_new (hd d List.mem_cons_self) (by omega),SRes.bind_nx,List.set_cons_zero]
    obtain ⟨y4,ih⟩:=store_loop T F (P++[(d,w)]) (.val (.int (d:Nat))) hn.2 (fun x hx q=>by
      rw [List.map_append,List.mem_append] at q
      rcases q with q | q
      · exact hd x (List.mem_cons_of_mem _ hx) q
      · simp at q
        exact hn.1 (q ▸ hx)) (by rw [List.length_append]; simp only [List.length_cons,List.length_nil]; omega)
    refine ⟨y4,?_⟩
    rw [show intsN (d::F)=.int (d:Nat)::intsN F from rfl,forL_cons,e]
    show forL _ _ _ _=_
    rw [ih]
    simp
noncomputable def todoE:ME:=.comp (.var 13) (.p1 .range (.cst (.int (9)))) (.and (.cmp .notin (.var 13) (.var 7)) (.cmp .isin (.var 8) (.idx (.var 0) (.var 13))))
theorem todo_ev (T:Tab) {lists:Nat→List Str} {P:Paints} {w:Str} {B R S x4 C L x9 x10 x11 x12:MV}:evE T todoE [.val (listsV lists),B,R,S,x4,C,L,.mu 0,.val (.str w),x9,x10,x11,x12] [dictP P]=.ok (.val (.list (intsN (todo lists P w)))) [dictP P]:=by
  unfold todoE
  refine ev_comp (x:=.range 0 9) (g:=fun (i:Nat)=>AV.int i) (l:=List.range 9) (fun d=>!(P.map (·.1)).contains d && (lists d).contains w) (fun o=>.int o) (show evE T (.p1 .range (.cst (.int (9)))) _ [dictP P]=.ok (.val (.range 0 9)) [dictP P] from rfl) rfl (by simp) (fun d hd=>?_) (fun o ho _=>?_)
  · have hd:=List.mem_range.mp hd
    have e1:cmpV .notin (.int (d:Nat)) (dictP P)=some (!(P.map (·.1)).contains d):=by
      show some (!(P.map fun p=>(p.1:Int)).contains (d:Int))=_
      have:=in_ints d (P.map (·.1))
      rw [List.map_map] at this
      rw [← this]
      rfl
    have e2:cmpV .isin (.str w) (.list ((lists d).map .str))=some ((lists d).contains w):=by
      exact isin_strs'
    simp only [List.cons_append,List.nil_append,e_var,e_idx,varV_val,varV_mu,Res.on_some,Option.bind_some,rd_val,rd_mu,t_cmp,t_and,op2,Res.of,toM,List.getElem?_cons_zero,List.getElem?_cons_succ,Res.bind_ok,Option.map_some,e1,list_at9 hd,e2]
    cases (P.map (·.1)).contains d <;> rfl
  · simp only [List.cons_append,List.nil_append,e_var,varV_val,Res.on_some,Option.bind_some,List.getElem?_cons_zero,List.getElem?_cons_succ]
noncomputable def paintB:MSs:=(.cons (.assign 9 todoE) (.cons
  (.assign 10 (.call .firm (.cons (.var 9) (.cons (.var 5) (.cons (.var 6) (.cons (.var 3) .nil))))))
  (.cons
  (.forr [4] (.var 9) checkB .nil)
  (.cons
  (.forr [4] (.var 10) (.cons
  (.setitem 7 (.var 4) (.var 8))
  .nil) .nil)
  .nil))))
theorem dom_of {rk:Nat→Nat} {d o s:Nat} (hs:s < 2) (hl:lineOf s o=lineOf s d) (ha:ahead s (rk o) (rk d)=true):domB rk d o=true:=by
  rw [ahead_iff] at ha
  unfold domB
  simp only [Bool.or_eq_true,Bool.and_eq_true,beq_iff_eq,decide_eq_true_eq]
  unfold lineOf at hl
  rcases ha with ⟨h0,h⟩ | ⟨h0,h⟩
  · rw [if_pos h0,if_pos h0] at hl
    exact .inl ⟨hl,h⟩
  · rw [if_neg h0,if_neg h0] at hl
    exact .inr ⟨hl,h⟩
theorem paint_turn (n:Nat) {rk:Nat→Nat} {side:Nat} {lists:Nat→List Str} {P:Paints} {w:Str} {B x4 x8 x9 x10 x11 x12:MV} (hL:Latin rk) (hrk:∀ d,rk d < 3) (hside:side < 2) (hP:P.length≤900) :
    ∃ y4 y8 y9 y10 y11 y12,loopF (tabN (n+3)) [8] paintB (.str w) [.val (listsV lists),B,.val (ranksV rk),.val (.int (side:Nat)),x4,.val (cardsV rk),.val likesV,.mu 0,x8,x9,x10,x11,x12] [dictP P] =
      .nx [.val (listsV lists),B,.val (ranksV rk),.val (.int (side:Nat)),y4,.val (cardsV rk),.val likesV,.mu 0,y8,y9,y10,y11,y12] [dictP (paintStep rk side lists P w)]:=by
  have D9:∀ d∈todo lists P w,d < 9:=fun d hd=>(todo_sub hd).1
  have dl:=todo_len lists P w
  have FO:=firm_all hL hrk hside D9 (todo_nodup lists P w) dl
  have cf:=c_firm n (side:=side) (rk:=rk) (D:=todo lists P w) hside hrk D9 (by omega)
  have te:=todo_ev (tabN (n+3)) (lists:=lists) (P:=P) (w:=w) (B:=B) (R:=.val (ranksV rk)) (S:=.val (.int (side:Nat))) (x4:=x4) (C:=.val (cardsV rk)) (L:=.val likesV) (x9:=x9) (x10:=x10) (x11:=x11) (x12:=x12)
  have fl:(firmL rk side 10 (todo lists P w)).length≤9:=Nat.le_trans (len_le_of_sub FO.nodup FO.sub) dl
  unfold paintStep
  generalize hF:firmL rk side 10 (todo lists P w)=F at *
  have F9:∀ o∈F,o < 9:=fun o ho=>D9 o (FO.sub o ho)
  obtain ⟨z4,z11,z12,ck⟩:=check_loop (n+2) (rk:=rk) (A:=.val (listsV lists)) (B:=B) (S:=.val (.int (side:Nat))) (x7:=.mu 0) (x8:=.val (.str w)) (x9:=.val (.list (intsN (todo lists P w)))) (σ:=[dictP P]) (F:=F) hrk F9 (by omega) (todo lists P w) x4 x11 x12 D9 fun d hd hnot=>by
    obtain ⟨o,ho,s,hs,hl,ha⟩:=FO.dom d hd hnot
    exact ⟨o,ho,dom_of hs hl ha⟩
  obtain ⟨u4,sl⟩:=store_loop (tabN (n+3)) (A:=.val (listsV lists)) (B:=B) (R:=.val (ranksV rk)) (S:=.val (.int (side:Nat))) (C:=.val (cardsV rk)) (L:=.val likesV) (x9:=.val (.list (intsN (todo lists P w)))) (x10:=.val (.list (intsN F))) (x11:=z11) (x12:=z12) (w:=w) F P z4 FO.nodup (fun d hd=>(todo_sub (FO.sub d hd)).2.1) (by omega)
  refine ⟨u4,.val (.str w),.val (.list (intsN (todo lists P w))),.val (.list (intsN F)),z11,z12,?_⟩
  have k1:exS (tabN (n+3)) (.assign 9 todoE) [.val (listsV lists),B,.val (ranksV rk),.val (.int (side:Nat)),x4,.val (cardsV rk),.val likesV,.mu 0,.val (.str w),x9,x10,x11,x12] [dictP P]=.nx [.val (listsV lists),B,.val (ranksV rk),.val (.int (side:Nat)),x4,.val (cardsV rk),.val likesV,.mu 0,.val (.str w),.val (.list (intsN (todo lists P w))),x10,x11,x12] [dictP P]:=by
    dsimp only [x_assign,x_assignMut,x_unpack,x_multi,x_setitem,x_augitem,x_aug,x_append,x_iff,x_ret,x_brk,SRes.on_some,Option.bind_some,List.getElem?_cons_zero,List.getElem?_cons_succ,val_val,int_int,tup_tup,muAt,listAt,biterAt,mu_mu,list_list,biter_biter]
    rw [te]
    rfl
  have k2:exS (tabN (n+3)) (.assign 10 (.call .firm (.cons (.var 9) (.cons (.var 5) (.cons (.var 6) (.cons (.var 3) .nil)))))) [.val (listsV lists),B,.val (ranksV rk),.val (.int (side:Nat)),x4,.val (cardsV rk),.val likesV,.mu 0,.val (.str w),.val (.list (intsN (todo lists P w))),x10,x11,x12] [dictP P] =
      .nx [.val (listsV lists),B,.val (ranksV rk),.val (.int (side:Nat)),x4,.val (cardsV rk),.val likesV,.mu 0,.val (.str w),.val (.list (intsN (todo lists P w))),.val (.list (intsN F)),x11,x12] [dictP P]:=by
    simp only [x_assign,SRes.on_some,Option.bind_some,List.getElem?_cons_zero,List.getElem?_cons_succ,val_val,e_var,e_call,varV_val,Res.on_some,es_nil',es_cons',Res.of,Res.bind_ok,Option.map_some,Res.toS_ok,cf,List.set_cons_zero,List.set_cons_succ]
  have k3:exS (tabN (n+3)) (.forr [4] (.var 9) checkB .nil) [.val (listsV lists),B,.val (ranksV rk),.val (.int (side:Nat)),x4,.val (cardsV rk),.val likesV,.mu 0,.val (.str w),.val (.list (intsN (todo lists P w))),.val (.list (intsN F)),x11,x12] [dictP P] =
      .nx [.val (listsV lists),B,.val (ranksV rk),.val (.int (side:Nat)),z4,.val (cardsV rk),.val likesV,.mu 0,.val (.str w),.val (.list (intsN (todo lists P w))),.val (.list (intsN F)),z11,z12] [dictP P]:=by
    rw [forr_nx (v:=.list (intsN (todo lists P w))) (σ':=[dictP P]) (by simp only [e_var,varV_val,Res.on_some,Option.bind_some,List.getElem?_cons_zero,List.getElem?_cons_succ]) rfl (by simp only [intsN,List.length_map]; omega) ck]
    rfl
  have k4:exS (tabN (n+3)) (.forr [4] (.var 10) (.cons (.setitem 7 (.var 4) (.var 8)) .nil) .nil) [.val (listsV lists),B,.val (ranksV rk),.val (.int (side:Nat)),z4,.val (cardsV rk),.val likesV,.mu 0,.val (.str w),.val (.list (intsN (todo lists P w))),.val (.list (intsN F)),z11,z12] [dictP P] =
      .nx [.val (listsV lists),B,.val (ranksV rk),.val (.int (side:Nat)),u4,.val (cardsV rk),.val likesV,.mu 0,.val (.str w),.val (.list (intsN (todo lists P w))),.val (.list (intsN F)),z11,z12] [dictP (P++F.map fun d=>(d,w))]:=by
    rw [forr_nx (v:=.list (intsN F)) (σ':=[dictP P]) (by simp only [e_var,varV_val,Res.on_some,Option.bind_some,List.getElem?_cons_zero,List.getElem?_cons_succ]) rfl (by simp only [intsN,List.length_map]; omega) sl]
    rfl
  show exSs (tabN (n+3)) paintB [.val (listsV lists),B,.val (ranksV rk),.val (.int (side:Nat)),x4,.val (cardsV rk),.val likesV,.mu 0,.val (.str w),x9,x10,x11,x12] _=_
  unfold paintB
  rw [xs_cons]
  rw [k1,SRes.bind_nx]
  first | rw [xs_cons] | rw [xs_nil]
  rw [k2,SRes.bind_nx]
  first | rw [xs_cons] | rw [xs_nil]
  rw [k3,SRes.bind_nx]
  first | rw [xs_cons] | rw [xs_nil]
  rw [k4,SRes.bind_nx]
  rfl
end Mine
set_option linter.unusedSimpArgs false
namespace Mine
open PySem PyProof.Rows
structure Once (P:Paints):Prop where
  nodup:(P.map (·.1)).Nodup
  lt:∀ d∈P.map (·.1),d < 9
theorem Once.len {P:Paints} (h:Once P):P.length≤9:=by
  have:=len_le_of_sub h.nodup (l:=List.range 9) fun x hx=>List.mem_range.mpr (h.lt x hx)
  simpa using this
section
variable {rk:Nat→Nat} {side:Nat} {lists:Nat→List Str}
theorem step_firm (hL:Latin rk) (hrk:∀ d,rk d < 3) (hside:side < 2) (P:Paints) (w:Str):Firm rk (todo lists P w) (firmL rk side 10 (todo lists P w)) :=
  firm_all hL hrk hside (fun d hd=>(todo_sub hd).1) (todo_nodup lists P w) (todo_len lists P w)
theorem step_once (hL:Latin rk) (hrk:∀ d,rk d < 3) (hside:side < 2) {P:Paints} (h:Once P) (w:Str):Once (paintStep rk side lists P w):=by
  have F:=step_firm (lists:=lists) hL hrk hside P w
  unfold paintStep
  have e:((firmL rk side 10 (todo lists P w)).map fun d=>(d,w)).map (·.1)=firmL rk side 10 (todo lists P w):=by
    rw [List.map_map]
    exact List.map_id _
  constructor
  · rw [List.map_append,e,List.nodup_append]
    exact ⟨h.nodup,F.nodup,fun a ha b hb q=>(todo_sub (F.sub b hb)).2.1 (q ▸ ha)⟩
  · intro d hd
    rw [List.map_append,e,List.mem_append] at hd
    rcases hd with hd | hd
    · exact h.lt d hd
    · exact (todo_sub (F.sub d hd)).1
theorem paint_loop (n:Nat) (hL:Latin rk) (hrk:∀ d,rk d < 3) (hside:side < 2) {B:MV}:∀ (order:List Str) (P:Paints) (x4 x8 x9 x10 x11 x12:MV),Once P →
    ∃ y4 y8 y9 y10 y11 y12,forL (loopF (tabN (n+3)) [8] paintB) (order.map .str) [.val (listsV lists),B,.val (ranksV rk),.val (.int (side:Nat)),x4,.val (cardsV rk),.val likesV,.mu 0,x8,x9,x10,x11,x12] [dictP P] =
      .nx [.val (listsV lists),B,.val (ranksV rk),.val (.int (side:Nat)),y4,.val (cardsV rk),.val likesV,.mu 0,y8,y9,y10,y11,y12] [dictP (order.foldl (paintStep rk side lists) P)]
  | [],P,x4,x8,x9,x10,x11,x12,_=>⟨x4,x8,x9,x10,x11,x12,rfl⟩
  | w::order,P,x4,x8,x9,x10,x11,x12,h=>by
    obtain ⟨y4,y8,y9,y10,y11,y12,e⟩:=paint_turn n (lists:=lists) (P:=P) (w:=w) (B:=B) (x4:=x4) (x8:=x8) (x9:=x9) (x10:=x10) (x11:=x11) (x12:=x12) hL hrk hside (by have:=h.len; omega)
    obtain ⟨z4,z8,z9,z10,z11,z12,ih⟩:=paint_loop n hL hrk hside (B:=B) order (paintStep rk side lists P w) y4 y8 y9 y10 y11 y12 (step_once hL hrk hside h w)
    exact ⟨z4,z8,z9,z10,z11,z12,by rw [List.map_cons,forL_cons,e]; exact ih⟩
theorem c_painted (n:Nat) (hL:Latin rk) (hrk:∀ d,rk d < 3) (hside:side < 2) {order:List Str} (ho:order.length≤1000):(tabN (n+4)).fn .painted [listsV lists,.list (order.map .str),ranksV rk,.int (side:Nat)]=some (dictP (order.foldl (paintStep rk side lists) [])):=by
  rw [fn_eq (by decide) rfl]
  show runFn (tabN (n+3)) bPainted [.val (listsV lists),.val (.list (order.map .str)),.val (ranksV rk),.val (.int (side:Nat)),.unset,.unset,.unset,.unset,.unset,.unset,.unset,.unset,.unset]=_
  obtain ⟨y4,y8,y9,y10,y11,y12,lp⟩:=paint_loop n (lists:=lists) (B:=.val (.list (order.map .str))) hL hrk hside order [] .unset .unset .unset .unset .unset .unset ⟨List.nodup_nil,fun d h=>nomatch h⟩
  have ce:=cards_ev (tabN (n+3)) hrk (A:=.val (listsV lists)) (B:=.val (.list (order.map .str))) (S:=.val (.int (side:Nat))) (x4:=.unset) (x5:=.unset) (x6:=.unset) (x7:=.unset) (x8:=.unset) (x9:=.unset) (x10:=.unset) (x11:=.unset) (x12:=.unset)
  have k1:exS (tabN (n+3)) (.assign 5 (.comp (.tup (.cons (.bin .mul (.cst (.int (2))) (.bin .mod (.bin .add (.idx (.var 2) (.var 13)) (.cst (.int (1)))) (.cst (.int (2))))) (.cons (.var 13) (.cons (.bin .mul (.cst (.int (2))) (.bin .fdiv (.idx (.var 2) (.var 13)) (.cst (.int (2))))) .nil)))) (.p1 .range (.cst (.int (9)))) .tt)) [.val (listsV lists),.val (.list (order.map .str)),.val (ranksV rk),.val (.int (side:Nat)),.unset,.unset,.unset,.unset,.unset,.unset,.unset,.unset,.unset] [] =
      .nx [.val (listsV lists),.val (.list (order.map .str)),.val (ranksV rk),.val (.int (side:Nat)),.unset,.val (cardsV rk),.unset,.unset,.unset,.unset,.unset,.unset,.unset] []:=by
    dsimp only [x_assign,x_assignMut,x_unpack,x_multi,x_setitem,x_augitem,x_aug,x_append,x_iff,x_ret,x_brk,SRes.on_some,Option.bind_some,List.getElem?_cons_zero,List.getElem?_cons_succ,val_val,int_int,tup_tup,muAt,listAt,biterAt,mu_mu,list_list,biter_biter]
    rw [ce]
    rfl
  have k2:exS (tabN (n+3)) (.assign 6 (.list (.cons (.call .mk (.cons (.list (.cons (.tup (.cons (.cst (.int (2))) (.cons (.neg (.cst (.int (1)))) .nil))) (.cons (.tup (.cons (.cst (.int (0))) (.cons (.cst (.int (1))) .nil))) .nil))) .nil)) (.cons (.call .mk (.cons (.list (.cons (.tup (.cons (.cst (.int (2))) (.cons (.cst (.int (1))) .nil))) (.cons (.tup (.cons (.cst (.int (0))) (.cons (.neg (.cst (.int (1)))) .nil))) .nil))) .nil)) .nil)))) [.val (listsV lists),.val (.list (order.map .str)),.val (ranksV rk),.val (.int (side:Nat)),.unset,.val (cardsV rk),.unset,.unset,.unset,.unset,.unset,.unset,.unset] [] =
      .nx [.val (listsV lists),.val (.list (order.map .str)),.val (ranksV rk),.val (.int (side:Nat)),.unset,.val (cardsV rk),.val likesV,.unset,.unset,.unset,.unset,.unset,.unset] []:=rfl
  have k3:exS (tabN (n+3)) (.assignMut 7 (.dict0 false)) [.val (listsV lists),.val (.list (order.map .str)),.val (ranksV rk),.val (.int (side:Nat)),.unset,.val (cardsV rk),.val likesV,.unset,.unset,.unset,.unset,.unset,.unset] [] =
      .nx [.val (listsV lists),.val (.list (order.map .str)),.val (ranksV rk),.val (.int (side:Nat)),.unset,.val (cardsV rk),.val likesV,.mu 0,.unset,.unset,.unset,.unset,.unset] [dictP []]:=rfl
  have k4:exS (tabN (n+3)) (.forr [8] (.var 1) paintB .nil) [.val (listsV lists),.val (.list (order.map .str)),.val (ranksV rk),.val (.int (side:Nat)),.unset,.val (cardsV rk),.val likesV,.mu 0,.unset,.unset,.unset,.unset,.unset] [dictP []] =
      .nx [.val (listsV lists),.val (.list (order.map .str)),.val (ranksV rk),.val (.int (side:Nat)),y4,.val (cardsV rk),.val likesV,.mu 0,y8,y9,y10,y11,y12] [dictP (order.foldl (paintStep rk side lists) [])]:=by
    rw [forr_nx (v:=.list (order.map .str)) (σ':=[dictP []]) (by simp only [e_var,varV_val,Res.on_some,Option.bind_some,List.getElem?_cons_zero,List.getElem?_cons_succ]) rfl (by simp only [List.length_map]; omega) lp]
    rfl
  rw [show ∀ ve,runFn (tabN (n+3)) bPainted ve=(SRes.given ((exS (tabN (n+3)) (.assign 5 (.comp (.tup (.cons (.bin .mul (.cst (.int (2))) (.bin .mod (.bin .add (.idx (.var 2) (.var 13)) (.cst (.int (1)))) (.cst (.int (2))))) (.cons (.var 13) (.cons (.bin .mul (.cst (.int (2))) (.bin .fdiv (.idx (.var 2) (.var 13)) (.cst (.int (2))))) .nil)))) (.p1 .range (.cst (.int (9)))) .tt)) ve []).bind fun ve σ =>
      (exS (tabN (n+3)) (.assign 6 (.list (.cons (.call .mk (.cons (.list (.cons (.tup (.cons (.cst (.int (2))) (.cons (.neg (.cst (.int (1)))) .nil))) (.cons (.tup (.cons (.cst (.int (0))) (.cons (.cst (.int (1))) .nil))) .nil))) .nil)) (.cons (.call .mk (.cons (.list (.cons (.tup (.cons (.cst (.int (2))) (.cons (.cst (.int (1))) .nil))) (.cons (.tup (.cons (.cst (.int (0))) (.cons (.neg (.cst (.int (1)))) .nil))) .nil))) .nil)) .nil)))) ve σ).bind fun ve σ =>
      (exS (tabN (n+3)) (.assignMut 7 (.dict0 false)) ve σ).bind fun ve σ=>(exS (tabN (n+3)) (.forr [8] (.var 1) paintB .nil) ve σ).bind fun ve σ=>exSs (tabN (n+3)) (.cons (.ret (.var 7)) .nil) ve σ)) from fun _=>rfl,k1,SRes.bind_nx,k2,SRes.bind_nx,k3,SRes.bind_nx,k4,SRes.bind_nx]
  rfl
structure Block (rk:Nat→Nat) (lists:Nat→List Str) (fin:Paints) (b:Str × List Nat):Prop where
  nodup:b.2.Nodup
  lt:∀ d∈b.2,d < 9
  apart:∀ s d e,s < 2→d∈b.2→e∈b.2→lineOf s d=lineOf s e→d=e
  dom:∀ d,d < 9→b.1∈lists d→d ∉ fin.map (·.1)→∃ o∈b.2,domB rk d o=true
noncomputable def flat (bl:List (Str × List Nat)):Paints:=bl.flatMap fun b=>b.2.map fun d=>(d,b.1)
theorem fold_sub:∀ (order:List Str) (P:Paints),∀ x∈P,x∈order.foldl (paintStep rk side lists) P
  | [],_,x,h=>h
  | w::order,P,x,h=>fold_sub order _ x (by unfold paintStep; exact List.mem_append_left _ h)
theorem blocks (hL:Latin rk) (hrk:∀ d,rk d < 3) (hside:side < 2) (fin:Paints):∀ (order:List Str) (P:Paints),Once P→order.foldl (paintStep rk side lists) P=fin →
    Once fin∧∃ bl:List (Str × List Nat),bl.map (·.1)=order∧fin=P++flat bl∧∀ b∈bl,Block rk lists fin b
  | [],P,h,e=>⟨e ▸ h,[],rfl,by rw [← e]; simp [flat],fun b hb=>nomatch hb⟩
  | w::order,P,h,e=>by
    have F:=step_firm (lists:=lists) hL hrk hside P w
    obtain ⟨h1,bl,h2,h3,h4⟩:=blocks hL hrk hside fin order (paintStep rk side lists P w) (step_once hL hrk hside h w) e
    refine ⟨h1,(w,firmL rk side 10 (todo lists P w))::bl,by rw [List.map_cons,h2],?_,fun b hb=>?_⟩
    · rw [h3]
      unfold paintStep flat
      rw [List.flatMap_cons,List.append_assoc]
    · rcases List.mem_cons.mp hb with rfl | hb
      · refine ⟨F.nodup,fun d hd=>(todo_sub (F.sub d hd)).1,F.apart,fun d hd hw hnot=>?_⟩
        have sub:=fold_sub (rk:=rk) (side:=side) (lists:=lists) order (paintStep rk side lists P w)
        rw [show order.foldl (paintStep rk side lists) (paintStep rk side lists P w)=fin from e] at sub
        have n1:d ∉ P.map (·.1):=fun q=>by
          obtain ⟨x,hx,rfl⟩:=List.mem_map.mp q
          exact hnot (List.mem_map.mpr ⟨x,sub x (by unfold paintStep; exact List.mem_append_left _ hx),rfl⟩)
        have n2:d ∉ firmL rk side 10 (todo lists P w):=fun q=>hnot (List.mem_map.mpr ⟨(d,w),sub _ (by unfold paintStep; exact List.mem_append_right _ (List.mem_map.mpr ⟨d,q,rfl⟩)),rfl⟩)
        have hd2:d∈todo lists P w:=by
          unfold todo
          rw [List.mem_filter]
          refine ⟨List.mem_range.mpr hd,?_⟩
          simp only [Bool.and_eq_true,Bool.not_eq_true',List.contains_eq_mem,decide_eq_false_iff_not,decide_eq_true_eq]
          exact ⟨n1,hw⟩
        obtain ⟨o,ho,s,hs,hl,ha⟩:=F.dom d hd2 n2
        exact ⟨o,ho,dom_of hs hl ha⟩
      · exact h4 b hb
theorem choose_list {P:Paints} (hP:(P.map (·.1)).Nodup) {ok:Nat→Prop}:∀ (ws:List Str),ws.Nodup→(∀ w∈ws,∃ o,ok o∧(o,w)∈P)→∃ os:List Nat,os.length=ws.length∧os.Nodup∧∀ o∈os,ok o∧∃ w∈ws,(o,w)∈P
  | [],_,_=>⟨[],rfl,List.nodup_nil,fun o h=>nomatch h⟩
  | w::ws,hn,h=>by
    rw [List.nodup_cons] at hn
    obtain ⟨os,h1,h2,h3⟩:=choose_list hP ws hn.2 fun x hx=>h x (List.mem_cons_of_mem _ hx)
    obtain ⟨o,ho,hm⟩:=h w List.mem_cons_self
    have uniq:∀ (P:Paints) (a:Nat) (u v:Str),(P.map (·.1)).Nodup→(a,u)∈P→(a,v)∈P→u=v:=by
      intro P
      induction P with
      | nil=>intro a u v _ h _; cases h
      | cons p P ih =>
        intro a u v hn h1 h2
        rw [List.map_cons,List.nodup_cons] at hn
        rcases List.mem_cons.mp h1 with h1 | h1 <;> rcases List.mem_cons.mp h2 with h2 | h2
        · rw [← h1] at h2
          exact (Prod.mk.inj h2).2.symm
        · exact absurd (List.mem_map.mpr ⟨_,h2,by rw [← h1]⟩) hn.1
        · exact absurd (List.mem_map.mpr ⟨_,h1,by rw [← h2]⟩) hn.1
        · exact ih a u v hn.2 h1 h2
    refine ⟨o::os,by rw [List.length_cons,List.length_cons,h1],List.nodup_cons.mpr ⟨fun q=>?_,h2⟩,fun x hx=>?_⟩
    · obtain ⟨_,w',hw',hm'⟩:=h3 o q
      have:=uniq P o w w' hP hm hm'
      exact hn.1 (this ▸ hw')
    · rcases List.mem_cons.mp hx with rfl | hx
      · exact ⟨ho,w,List.mem_cons_self,hm⟩
      · obtain ⟨q1,w',hw',hm'⟩:=h3 x hx
        exact ⟨q1,w',List.mem_cons_of_mem _ hw',hm'⟩
theorem galvin {fin:Paints} {bl:List (Str × List Nat)} (h1:Once fin) (h3:fin=flat bl) (h4:∀ b∈bl,Block rk lists fin b) (hdom:∀ d,d < 9→((List.range 9).filter fun o=>domB rk d o).length≤2)
    (hl:∀ d,d < 9→(lists d).Nodup∧(lists d).length=3∧∀ w∈lists d,w∈bl.map (·.1)):∀ d,d < 9→d∈fin.map (·.1):=by
  intro d hd
  refine Decidable.byContradiction fun hnot=>?_
  obtain ⟨l1,l2,l3⟩:=hl d hd
  obtain ⟨os,o1,o2,o3⟩:=choose_list h1.nodup (ok:=fun o=>o∈(List.range 9).filter fun o=>domB rk d o) (lists d) l1 fun w hw=>by
    obtain ⟨b,hb,rfl⟩:=List.mem_map.mp (l3 w hw)
    obtain ⟨o,ho,hdm⟩:=(h4 b hb).dom d hd hw hnot
    refine ⟨o,List.mem_filter.mpr ⟨List.mem_range.mpr ((h4 b hb).lt o ho),hdm⟩,?_⟩
    rw [h3]
    exact List.mem_flatMap.mpr ⟨b,hb,List.mem_map.mpr ⟨o,ho,rfl⟩⟩
  have:=len_le_of_sub o2 fun o ho=>(o3 o ho).1
  have:=hdom d hd
  omega
end
end Mine
set_option linter.unusedSimpArgs false
namespace Mine
open PySem PyProof.Rows
theorem keyAt_cons {K:Type} [DecidableEq K] {k a:K} {b:AV} {ks:List K} {vs:List AV}:keyAt (a::ks) (b::vs) k=if a=k then some b else keyAt ks vs k:=rfl
noncomputable abbrev Tbl:=List (Str × Nat)
noncomputable def dictT (D:Tbl):AV:=.dictS (D.map (·.1)) (D.map fun p=>.int (p.2:Nat))
noncomputable def bump (w:Str):Tbl→Tbl
  | []=>[(w,1)]
  | (k,c)::r=>if k=w then (k,c+1)::r else (k,c)::bump w r
theorem bump_cons {w k:Str} {c:Nat} {r:Tbl}:bump w ((k,c)::r)=if k=w then (k,c+1)::r else (k,c)::bump w r:=rfl
theorem bump_new {w:Str}:∀ {D:Tbl},w ∉ D.map (·.1)→bump w D=D++[(w,1)]
  | [],_=>rfl
  | (k,c)::r,h=>by
    rw [List.map_cons,List.mem_cons,not_or] at h
    rw [bump_cons,if_neg (fun q=>h.1 q.symm),bump_new h.2]
    rfl
theorem bump_keys {w:Str}:∀ {D:Tbl},w∈D.map (·.1)→(bump w D).map (·.1)=D.map (·.1)
  | [],h=>nomatch h
  | (k,c)::r,h=>by
    rw [bump_cons]
    by_cases q:k=w
    · rw [if_pos q]; rfl
    · rw [if_neg q,List.map_cons,List.map_cons]
      rw [List.map_cons,List.mem_cons] at h
      rw [bump_keys (h.resolve_left fun z=>q z.symm)]
theorem bump_nodup {w:Str} {D:Tbl} (h:(D.map (·.1)).Nodup):((bump w D).map (·.1)).Nodup:=by
  by_cases q:w∈D.map (·.1)
  · rw [bump_keys q]; exact h
  · rw [bump_new q,List.map_append,List.nodup_append]
    refine ⟨h,by simp,fun a ha b hb e=>?_⟩
    simp at hb
    subst hb
    exact q (e ▸ ha)
theorem bump_len (w:Str):∀ (D:Tbl),(bump w D).length≤D.length+1
  | []=>Nat.le_refl _
  | (k,c)::r=>by
    rw [bump_cons]
    split
    · simp
    · have:=bump_len w r
      rw [List.length_cons,List.length_cons]
      omega
theorem isin_T (w:Str) (D:Tbl):cmpV .isin (.str w) (dictT D)=some ((D.map (·.1)).contains w):=rfl
theorem set_T {D:Tbl} {w:Str} {c:Nat} (h:w ∉ D.map (·.1)) (hl:D.length≤1000):setV (dictT D) (.str w) (.int (c:Nat))=some (dictT (D++[(w,c)])):=by
  show (if fits (D.map (·.1)).length then some (AV.dictS (putKey w (.int (c:Nat)) (D.map (·.1)) (D.map fun p=>.int (p.2:Nat))).1 (putKey w (.int (c:Nat)) (D.map (·.1)) (D.map fun p=>.int (p.2:Nat))).2) else none)=_
  rw [if_pos (fits_le (by rw [List.length_map]; omega)),put_new h (by simp)]
  simp [dictT]
theorem old_T {w:Str}:∀ {D:Tbl},w∈D.map (·.1)→∃ c:Nat,keyAt (D.map (·.1)) (D.map fun p=>AV.int (p.2:Nat)) w=some (.int (c:Nat)) ∧
    (putKey w (.int ((c:Int)+1)) (D.map (·.1)) (D.map fun p=>AV.int (p.2:Nat)))=((bump w D).map (·.1),(bump w D).map fun p=>AV.int (p.2:Nat))
  | [],h=>nomatch h
  | (k,c)::r,h=>by
    by_cases q:k=w
    · refine ⟨c,?_,?_⟩
      · rw [List.map_cons,List.map_cons,keyAt_cons,if_pos q]
      · rw [List.map_cons,List.map_cons,putKey_cons,if_pos q,bump_cons,if_pos q]
        rfl
    · rw [List.map_cons,List.mem_cons] at h
      obtain ⟨c',h1,h2⟩:=old_T (h.resolve_left fun z=>q z.symm)
      refine ⟨c',?_,?_⟩
      · rw [List.map_cons,List.map_cons,keyAt_cons,if_neg q,h1]
      · rw [List.map_cons,List.map_cons,putKey_cons,if_neg q,h2,bump_cons,if_neg q]
        rfl
theorem items_T (D:Tbl):elems (.items (dictT D))=some (D.map fun p=>.tup [.str p.1,.int (p.2:Nat)]):=by
  show some (((D.map (·.1)).zip (D.map fun p=>AV.int (p.2:Nat))).map fun p=>AV.tup [.str p.1,p.2])=_
  congr 1
  induction D with
  | nil=>rfl
  | cons a D ih=>rw [List.map_cons,List.map_cons,List.zip_cons_cons,List.map_cons,List.map_cons,ih]
theorem copy_loop (T:Tab) {A B:MV}:∀ (R D:Tbl) (x3 x4:MV),((D++R).map (·.1)).Nodup→(D++R).length≤900 →
    ∃ y3 y4,forL (loopF T [3,4] (.cons (.setitem 2 (.var 3) (.var 4)) .nil)) (R.map fun p=>.tup [.str p.1,.int (p.2:Nat)]) [A,B,.mu 0,x3,x4] [dictT D]=.nx [A,B,.mu 0,y3,y4] [dictT (D++R)]
  | [],D,x3,x4,_,_=>⟨x3,x4,by rw [List.append_nil]; rfl⟩
  | (w,c)::R,D,x3,x4,hn,hl=>by
    have hnew:w ∉ D.map (·.1):=by
      rw [List.map_append,List.nodup_append] at hn
      exact fun q=>hn.2.2 w q w (by simp) rfl
    have hl':D.length≤1000:=by
      rw [List.length_append] at hl
      omega
    have e:loopF T [3,4] (.cons (.setitem 2 (.var 3) (.var 4)) .nil) (.tup [.str w,.int (c:Nat)]) [A,B,.mu 0,x3,x4] [dictT D]=.nx [A,B,.mu 0,.val (.str w),.val (.int (c:Nat))] [dictT (D++[(w,c)])]:=by
      show exSs T (.cons (.setitem 2 (.var 3) (.var 4)) .nil) [A,B,.mu 0,.val (.str w),.val (.int (c:Nat))] _=_
      simp only [xs_nil,xs_cons,x_setitem,SRes.on_some,Option.bind_some,List.getElem?_cons_zero,List.getElem?_cons_succ,val_val,muAt,mu_mu,e_var,varV_val,Res.on_some,rd_val,rdB,Res.of,Res.bind_ok,Res.toS_ok,set_T hnew hl',SRes.bind_nx,List.set_cons_zero]
    obtain ⟨y3,y4,ih⟩:=copy_loop T (A:=A) (B:=B) R (D++[(w,c)]) (.val (.str w)) (.val (.int (c:Nat))) (by rw [List.append_assoc]; exact hn) (by rw [List.append_assoc]; exact hl)
    refine ⟨y3,y4,?_⟩
    rw [List.map_cons,forL_cons,e]
    show forL _ _ _ _=_
    rw [ih,List.append_assoc]
    rfl
noncomputable def addB:MSs:=(.cons
  (.iff (.cmp .isin (.var 3) (.var 2)) (.cons
  (.iff (.tru (.p1 .isTup (.var 4))) (.cons
  .dead
  .nil) (.cons
  (.augitem 2 (.var 3) (.var 4))
  .nil))
  .nil) (.cons
  (.setitem 2 (.var 3) (.var 4))
  .nil))
  .nil)
theorem add_turn (T:Tab) {A B x3 x4:MV} {D:Tbl} {w:Str} (hl:D.length≤900):loopF T [3,4] addB (.tup [.str w,.int (1:Nat)]) [A,B,.mu 0,x3,x4] [dictT D]=.nx [A,B,.mu 0,.val (.str w),.val (.int (1:Nat))] [dictT (bump w D)]:=by
  show exSs T addB [A,B,.mu 0,.val (.str w),.val (.int (1:Nat))] _=_
  have t1:evT T (.cmp .isin (.var 3) (.var 2)) [A,B,.mu 0,.val (.str w),.val (.int (1:Nat))] [dictT D]=.ok ((D.map (·.1)).contains w) [dictT D]:=by
    simp only [t_cmp,e_var,varV_val,varV_mu,Res.on_some,Option.bind_some,rd_val,rd_mu,op2,Res.of,List.getElem?_cons_zero,List.getElem?_cons_succ,Res.bind_ok,isin_T]
  have iff_eq:∀ (c:MT) (b o:MSs) (ve:List MV) (σ:List AV),exS T (.iff c b o) ve σ=(evT T c ve σ).toS ve fun t σ=>if t then exSs T b ve σ else exSs T o ve σ:=fun _ _ _ _ _=>rfl
  unfold addB
  rw [xs_cons]
  rw [iff_eq,t1,Res.toS_ok]
  by_cases q:w∈D.map (·.1)
  · rw [if_pos (by simpa using q)]
    have t2:evT T (.tru (.p1 .isTup (.var 4))) [A,B,.mu 0,.val (.str w),.val (.int (1:Nat))] [dictT D]=.ok false [dictT D]:=by
      simp only [t_tru,e_var,e_p1,varV_val,Res.on_some,Option.bind_some,rd_val,op1,Res.of,toM,List.getElem?_cons_zero,List.getElem?_cons_succ,Res.bind_ok]
      rfl
    obtain ⟨c,h1,h2⟩:=old_T q
    have i1:idxV (dictT D) (.str w)=some (.int (c:Nat)):=h1
    have i2:setV (dictT D) (.str w) (.int ((c:Int)+(1:Nat)))=some (dictT (bump w D)):=by
      show (if fits (D.map (·.1)).length then some (AV.dictS (putKey w (.int ((c:Int)+(1:Nat))) (D.map (·.1)) (D.map fun p=>.int (p.2:Nat))).1 (putKey w (.int ((c:Int)+(1:Nat))) (D.map (·.1)) (D.map fun p=>.int (p.2:Nat))).2) else none)=_
      rw [if_pos (fits_le (by rw [List.length_map]; omega)),show (c:Int)+(1:Nat)=(c:Int)+1 from rfl,h2]
      rfl
    conv=>lhs; arg 1; first | rw [xs_cons] | rw [xs_nil]
    rw [iff_eq,t2,Res.toS_ok,if_neg (by decide)]
    simp only [xs_nil,xs_cons,x_augitem,SRes.on_some,Option.bind_some,List.getElem?_cons_zero,List.getElem?_cons_succ,int_int,muAt,mu_mu,e_var,varV_val,Res.on_some,rd_val,rdB,Res.of,Res.bind_ok,Res.toS_ok,i1,i2,SRes.bind_nx,List.set_cons_zero]
  · rw [if_neg (by simpa using q),bump_new q]
    simp only [xs_nil,xs_cons,x_setitem,SRes.on_some,Option.bind_some,List.getElem?_cons_zero,List.getElem?_cons_succ,val_val,muAt,mu_mu,e_var,varV_val,Res.on_some,Option.bind_some,val_val,rd_val,rdB,rd_val,Res.of,List.getElem?_cons_zero,List.getElem?_cons_succ,Res.bind_ok,Res.toS_ok,Option.bind_some,set_T q (show D.length≤1000 by omega),SRes.bind_nx,List.set_cons_zero]
theorem c_add (n:Nat) {D:Tbl} {w:Str} (hn:(D.map (·.1)).Nodup) (hl:D.length≤800):(tabN (n+1)).fn .addCallers [dictT D,dictT [(w,1)]]=some (dictT (bump w D)):=by
  rw [fn_eq (by decide) rfl]
  show runFn (tabN n) bAddCallers [.val (dictT D),.val (dictT [(w,1)]),.unset,.unset,.unset]=_
  generalize tabN n=T
  obtain ⟨y3,y4,cl⟩:=copy_loop T (A:=.val (dictT D)) (B:=.val (dictT [(w,1)])) D [] .unset .unset (by simpa using hn) (by simp only [List.nil_append]; omega)
  rw [List.nil_append] at cl
  have at_:=add_turn T (A:=.val (dictT D)) (B:=.val (dictT [(w,1)])) (x3:=y3) (x4:=y4) (D:=D) (w:=w) (by omega)
  have k1:exS T (.assignMut 2 (.dict0 true)) [.val (dictT D),.val (dictT [(w,1)]),.unset,.unset,.unset] []=.nx [.val (dictT D),.val (dictT [(w,1)]),.mu 0,.unset,.unset] [dictT []]:=rfl
  have k2:exS T (.forr [3,4] (.view .items (.var 0)) (.cons (.setitem 2 (.var 3) (.var 4)) .nil) .nil) [.val (dictT D),.val (dictT [(w,1)]),.mu 0,.unset,.unset] [dictT []]=.nx [.val (dictT D),.val (dictT [(w,1)]),.mu 0,y3,y4] [dictT D]:=by
    rw [forr_nx (v:=.items (dictT D)) (σ':=[dictT []]) (show evE T (.view .items (.var 0)) [.val (dictT D),.val (dictT [(w,1)]),.mu 0,.unset,.unset] [dictT []]=.ok (.val (.items (dictT D))) [dictT []] from rfl) (show elemsF [3,4] (.items (dictT D))=_ from items_T D) (by rw [List.length_map]; omega) cl]
    rfl
  have k3:exS T (.forr [3,4] (.view .items (.var 1)) addB .nil) [.val (dictT D),.val (dictT [(w,1)]),.mu 0,y3,y4] [dictT D]=.nx [.val (dictT D),.val (dictT [(w,1)]),.mu 0,.val (.str w),.val (.int (1:Nat))] [dictT (bump w D)]:=by
    rw [forr_nx (v:=.items (dictT [(w,1)])) (xs:=[.tup [.str w,.int (1:Nat)]]) (σ':=[dictT D]) (show evE T (.view .items (.var 1)) [.val (dictT D),.val (dictT [(w,1)]),.mu 0,y3,y4] [dictT D]=.ok (.val (.items (dictT [(w,1)]))) [dictT D] from rfl) rfl (by simp) (by rw [forL_cons,at_]; rfl)]
    rfl
  rw [show ∀ ve,runFn T bAddCallers ve=(SRes.given ((exS T (.assignMut 2 (.dict0 true)) ve []).bind fun ve σ=>(exS T (.forr [3,4] (.view .items (.var 0)) (.cons (.setitem 2 (.var 3) (.var 4)) .nil) .nil) ve σ).bind fun ve σ=>(exS T (.forr [3,4] (.view .items (.var 1)) addB .nil) ve σ).bind fun ve σ=>exSs T (.cons (.ret (.var 2)) .nil) ve σ)) from fun _=>rfl,k1,SRes.bind_nx,k2,SRes.bind_nx,k3,SRes.bind_nx]
  rfl
theorem c_count (n:Nat) {D:Tbl} (hl:D.length≤800):(tabN (n+1)).fn .countCalls [dictT D]=some (.int ((D.map (·.2)).sum:Nat)):=by
  rw [fn_eq (by decide) rfl]
  show runFn (tabN n) bCountCalls [.val (dictT D),.unset,.unset]=_
  generalize tabN n=T
  have loop:∀ (R:Tbl) (k:Nat) (x2:MV),∃ y2,forL (loopF T [2] (.cons (.aug .add 1 (.var 2)) .nil)) (R.map fun p=>AV.int (p.2:Nat)) [.val (dictT D),.val (.int (k:Nat)),x2] []=.nx [.val (dictT D),.val (.int ((k+(R.map (·.2)).sum:Nat):Int)),y2] []:=by
    intro R
    induction R with
    | nil=>exact fun k x2=>⟨x2,rfl⟩
    | cons p R ih =>
      intro k x2
      have e:loopF T [2] (.cons (.aug .add 1 (.var 2)) .nil) (.int (p.2:Nat)) [.val (dictT D),.val (.int (k:Nat)),x2] []=.nx [.val (dictT D),.val (.int ((k+p.2:Nat):Int)),.val (.int (p.2:Nat))] []:=by
        show exSs T (.cons (.aug .add 1 (.var 2)) .nil) [.val (dictT D),.val (.int (k:Nat)),.val (.int (p.2:Nat))] []=_
        simp only [xs_nil,xs_cons,x_aug,SRes.on_some,Option.bind_some,List.getElem?_cons_zero,List.getElem?_cons_succ,val_val,int_int,e_var,varV_val,Res.on_some,rd_val,rdB,Res.of,Res.bind_ok,Res.toS_ok,b_add,SRes.bind_nx,List.set_cons_zero,List.set_cons_succ]
        norm_cast
      obtain ⟨y2,h⟩:=ih (k+p.2) (.val (.int (p.2:Nat)))
      refine ⟨y2,?_⟩
      rw [List.map_cons,forL_cons,e]
      show forL _ _ _ _=_
      rw [h,List.map_cons,List.sum_cons,Nat.add_assoc]
  obtain ⟨y2,lp⟩:=loop D 0 .unset
  rw [Nat.zero_add] at lp
  have k1:exS T (.assign 1 (.cst (.int (0)))) [.val (dictT D),.unset,.unset] []=.nx [.val (dictT D),.val (.int (0:Nat)),.unset] []:=rfl
  have k2:exS T (.forr [2] (.view .values (.var 0)) (.cons (.aug .add 1 (.var 2)) .nil) .nil) [.val (dictT D),.val (.int (0:Nat)),.unset] []=.nx [.val (dictT D),.val (.int ((D.map (·.2)).sum:Nat)),y2] []:=by
    rw [forr_nx (v:=.vals (dictT D)) (xs:=D.map fun p=>AV.int (p.2:Nat)) (σ':=[]) (show evE T (.view .values (.var 0)) [.val (dictT D),.val (.int (0:Nat)),.unset] []=.ok (.val (.vals (dictT D))) [] from rfl) rfl (by rw [List.length_map]; omega) lp]
    rfl
  rw [show ∀ ve,runFn T bCountCalls ve=(SRes.given ((exS T (.assign 1 (.cst (.int (0)))) ve []).bind fun ve σ=>(exS T (.forr [2] (.view .values (.var 0)) (.cons (.aug .add 1 (.var 2)) .nil) .nil) ve σ).bind fun ve σ=>exSs T (.cons (.ret (.var 1)) .nil) ve σ)) from fun _=>rfl,k1,SRes.bind_nx,k2,SRes.bind_nx]
  rfl
end Mine
set_option linter.unusedSimpArgs false
namespace Mine
open PySem PyProof.Rows
noncomputable def tablesV (TT:List Tbl):AV:=.list (TT.map dictT)
noncomputable def tabStep (w:Str) (TT:List Tbl) (l:Nat):List Tbl:=TT.set l (bump w (TT.getD l []))
noncomputable def linesOf (d:Nat):List Nat:=[d / 3,3+d % 3,6]
noncomputable def deskStep (TT:List Tbl) (p:Nat × Str):List Tbl:=(linesOf p.1).foldl (tabStep p.2) TT
noncomputable def tabs (P:Paints):List Tbl:=P.foldl deskStep (List.replicate 7 [])
structure TOk (TT:List Tbl) (k:Nat):Prop where
  len:TT.length=7
  each:∀ D∈TT,(D.map (·.1)).Nodup∧D.length≤k
theorem TOk.at_ {TT:List Tbl} {k l:Nat} (h:TOk TT k) (hl:l < 7):TT[l]?=some (TT.getD l [])∧((TT.getD l []).map (·.1)).Nodup∧(TT.getD l []).length≤k:=by
  have e:TT[l]?=some (TT.getD l []):=by
    rw [List.getD_eq_getElem?_getD,List.getElem?_eq_getElem (by rw [h.len]; exact hl)]
    rfl
  exact ⟨e,h.each _ (List.mem_of_getElem? e)⟩
theorem TOk.step {TT:List Tbl} {k l:Nat} (h:TOk TT k) (hl:l < 7) (w:Str):TOk (tabStep w TT l) (k+1):=by
  obtain ⟨_,n,len⟩:=h.at_ hl
  refine ⟨by unfold tabStep; rw [List.length_set]; exact h.len,fun D hD=>?_⟩
  unfold tabStep at hD
  rcases List.mem_or_eq_of_mem_set hD with q | q
  · exact ⟨(h.each D q).1,Nat.le_succ_of_le (h.each D q).2⟩
  · subst q
    exact ⟨bump_nodup n,Nat.le_trans (bump_len _ _) (by omega)⟩
theorem linesOf_lt {d l:Nat} (hd:d < 9) (h:l∈linesOf d):l < 7:=by
  unfold linesOf at h
  simp only [List.mem_cons,List.not_mem_nil,or_false] at h
  omega
noncomputable def tabB:MSs:=(.cons
  (.assign 4 (.dict1 (.idx (.var 0) (.var 3)) (.cst (.int (1)))))
  (.cons
  (.assign 5 (.tup (.cons (.p1 .dictOf (.idx (.var 2) (.var 1))) (.cons (.p1 .dictOf (.var 4)) .nil))))
  (.cons
  (.assign 6 (.call .addCallers (.cons (.idx (.var 2) (.var 1)) (.cons (.var 4) .nil))))
  (.cons
  (.iff (.cmp .ne (.tup (.cons (.idx (.var 2) (.var 1)) (.cons (.var 4) .nil))) (.var 5)) (.cons
  (.ret (.list .nil))
  .nil) .nil)
  (.cons
  (.setitem 2 (.var 1) (.var 6))
  .nil)))))
theorem key_P':∀ {P:Paints} {d:Nat} {w:Str},(P.map (·.1)).Nodup→(d,w)∈P→keyAt (P.map fun p=>(p.1:Int)) (P.map fun p=>AV.str p.2) (d:Int)=some (.str w)
  | [],_,_,_,h=>nomatch h
  | (e,u)::P,d,w,hn,h=>by
    rw [List.map_cons,List.nodup_cons] at hn
    rcases List.mem_cons.mp h with h | h
    · cases h
      rw [List.map_cons,List.map_cons,keyAt_cons,if_pos rfl]
    · have:e≠d:=fun q=>hn.1 (q ▸ List.mem_map.mpr ⟨_,h,rfl⟩)
      rw [List.map_cons,List.map_cons,keyAt_cons,if_neg (by omega)]
      exact key_P' hn.2 h
theorem key_P {P:Paints} {d:Nat} {w:Str} (hn:(P.map (·.1)).Nodup) (h:(d,w)∈P):idxV (dictP P) (.int (d:Nat))=some (.str w):=by
  show (keyAt (P.map fun p=>(p.1:Int)) (P.map fun p=>AV.str p.2) (d:Int)).or _=_
  rw [key_P' hn h]
  rfl
theorem avEqs_T (D:Tbl):avEqs (avEqN 0) (D.map fun p=>AV.int (p.2:Nat)) (D.map fun p=>AV.int (p.2:Nat))=some true:=avEqs_refl fun a _=>avEqN_int 0 _
theorem ne_T (D C:Tbl):cmpV .ne (.tup [dictT D,dictT C]) (.tup [dictT D,dictT C])=some false:=by
  refine or_some ?_
  show (if _ then some false else none)=_
  rw [if_pos ⟨rfl,rfl,rfl,rfl,avEqs_T D,avEqs_T C⟩]
theorem dictOf_T {D:Tbl} (h:D.length≤1000):p1V .dictOf (dictT D)=some (dictT D):=grd_pos (fits_le (by rw [List.length_map]; omega))
theorem tab_turn (n:Nat) {P:Paints} {TT:List Tbl} {d l k:Nat} {w:Str} {x1 x4 x5 x6:MV} (hP:(P.map (·.1)).Nodup) (hm:(d,w)∈P) (h:TOk TT k) (hk:k≤700) (hl:l < 7) :
    ∃ y4 y5 y6,loopF (tabN (n+1)) [1] tabB (.int (l:Nat)) [.val (dictP P),x1,.mu 0,.val (.int (d:Nat)),x4,x5,x6] [tablesV TT]=.nx [.val (dictP P),.val (.int (l:Nat)),.mu 0,.val (.int (d:Nat)),y4,y5,y6] [tablesV (tabStep w TT l)]:=by
  obtain ⟨e0,nd,len⟩:=h.at_ hl
  have kp:=key_P hP hm
  have i1:idxV (tablesV TT) (.int (l:Nat))=some (dictT (TT.getD l [])):=idx_list (by rw [List.length_map,h.len]; decide) (by rw [List.getElem?_map,e0]; rfl)
  have ca:=c_add n (D:=TT.getD l []) (w:=w) nd (by omega)
  have d1:=dictOf_T (D:=TT.getD l []) (by omega)
  have d2:=dictOf_T (D:=[(w,1)]) (by simp)
  have n1:=ne_T (TT.getD l []) [(w,1)]
  have one:dictOne (.str w) (.int 1)=some (dictT [(w,1)]):=rfl
  have s1:setV (tablesV TT) (.int (l:Nat)) (dictT (bump w (TT.getD l [])))=some (tablesV (tabStep w TT l)):=by
    unfold tablesV tabStep
    rw [set_list (by rw [List.length_map,h.len]; decide) (by rw [List.length_map,h.len]; exact hl),List.map_set]
  generalize TT.getD l []=D at *
  generalize hC:dictT [(w,1)]=C at *
  refine ⟨.val C,.val (.tup [dictT D,C]),.val (dictT (bump w D)),?_⟩
  have k1:exS (tabN (n+1)) (.assign 4 (.dict1 (.idx (.var 0) (.var 3)) (.cst (.int (1))))) [.val (dictP P),.val (.int (l:Nat)),.mu 0,.val (.int (d:Nat)),x4,x5,x6] [tablesV TT]=.nx [.val (dictP P),.val (.int (l:Nat)),.mu 0,.val (.int (d:Nat)),.val C,x5,x6] [tablesV TT]:=by
    simp only [x_assign,SRes.on_some,Option.bind_some,List.getElem?_cons_zero,List.getElem?_cons_succ,val_val,e_cst,e_var,e_dict1,e_idx,varV_val,Res.on_some,rd_val,op2,Res.of,toM,Res.bind_ok,Option.map_some,Res.toS_ok,kp,one,List.set_cons_zero,List.set_cons_succ]
  have k2:exS (tabN (n+1)) (.assign 5 (.tup (.cons (.p1 .dictOf (.idx (.var 2) (.var 1))) (.cons (.p1 .dictOf (.var 4)) .nil)))) [.val (dictP P),.val (.int (l:Nat)),.mu 0,.val (.int (d:Nat)),.val C,x5,x6] [tablesV TT]=.nx [.val (dictP P),.val (.int (l:Nat)),.mu 0,.val (.int (d:Nat)),.val C,.val (.tup [dictT D,C]),x6] [tablesV TT]:=by
    simp only [x_assign,SRes.on_some,Option.bind_some,List.getElem?_cons_zero,List.getElem?_cons_succ,val_val,e_var,e_tup,e_idx,e_p1,varV_val,varV_mu,Res.on_some,Option.bind_some,val_val,rd_val,rd_mu,es_nil',es_cons',op1,op2,rd_val,rd_mu,Res.of,toM,List.getElem?_cons_zero,List.getElem?_cons_succ,Res.bind_ok,Option.bind_some,Option.map_some,Res.toS_ok,i1,d1,d2,List.length_cons,List.length_nil,fits_le (show 0+1+1≤1000000 by decide),if_true,List.set_cons_zero,List.set_cons_succ]
  have k3:exS (tabN (n+1)) (.assign 6 (.call .addCallers (.cons (.idx (.var 2) (.var 1)) (.cons (.var 4) .nil)))) [.val (dictP P),.val (.int (l:Nat)),.mu 0,.val (.int (d:Nat)),.val C,.val (.tup [dictT D,C]),x6] [tablesV TT]=.nx [.val (dictP P),.val (.int (l:Nat)),.mu 0,.val (.int (d:Nat)),.val C,.val (.tup [dictT D,C]),.val (dictT (bump w D))] [tablesV TT]:=by
    simp only [x_assign,SRes.on_some,Option.bind_some,List.getElem?_cons_zero,List.getElem?_cons_succ,val_val,e_var,e_idx,e_call,varV_val,varV_mu,Res.on_some,rd_val,rd_mu,es_nil',es_cons',op2,Res.of,toM,Res.bind_ok,Option.map_some,Res.toS_ok,i1,ca,List.set_cons_zero,List.set_cons_succ]
  have k4:exS (tabN (n+1)) (.iff (.cmp .ne (.tup (.cons (.idx (.var 2) (.var 1)) (.cons (.var 4) .nil))) (.var 5)) (.cons (.ret (.list .nil)) .nil) .nil) [.val (dictP P),.val (.int (l:Nat)),.mu 0,.val (.int (d:Nat)),.val C,.val (.tup [dictT D,C]),.val (dictT (bump w D))] [tablesV TT]=.nx [.val (dictP P),.val (.int (l:Nat)),.mu 0,.val (.int (d:Nat)),.val C,.val (.tup [dictT D,C]),.val (dictT (bump w D))] [tablesV TT]:=by
    simp only [x_iff,x_ret,Option.bind_some,List.getElem?_cons_zero,List.getElem?_cons_succ,val_val,xs_nil,xs_cons,t_cmp,e_var,e_list,e_tup,e_idx,varV_val,varV_mu,Res.on_some,Option.bind_some,val_val,rd_val,rd_mu,es_nil',es_cons',op2,rd_val,rd_mu,Res.of,toM,List.getElem?_cons_zero,List.getElem?_cons_succ,Res.bind_ok,Option.bind_some,Option.map_some,Res.toS_ok,i1,List.length_cons,List.length_nil,fits_le (show 0+1+1≤1000000 by decide),if_true,n1,Bool.false_eq_true,if_false]
  have k5:exS (tabN (n+1)) (.setitem 2 (.var 1) (.var 6)) [.val (dictP P),.val (.int (l:Nat)),.mu 0,.val (.int (d:Nat)),.val C,.val (.tup [dictT D,C]),.val (dictT (bump w D))] [tablesV TT]=.nx [.val (dictP P),.val (.int (l:Nat)),.mu 0,.val (.int (d:Nat)),.val C,.val (.tup [dictT D,C]),.val (dictT (bump w D))] [tablesV (tabStep w TT l)]:=by
    simp only [x_setitem,SRes.on_some,Option.bind_some,List.getElem?_cons_zero,List.getElem?_cons_succ,val_val,muAt,mu_mu,e_var,varV_val,Res.on_some,rd_val,rdB,Res.of,Res.bind_ok,Res.toS_ok,s1,List.set_cons_zero]
  show exSs (tabN (n+1)) tabB [.val (dictP P),.val (.int (l:Nat)),.mu 0,.val (.int (d:Nat)),x4,x5,x6] _=_
  unfold tabB
  rw [xs_cons]
  rw [k1,SRes.bind_nx]
  first | rw [xs_cons] | rw [xs_nil]
  rw [k2,SRes.bind_nx]
  first | rw [xs_cons] | rw [xs_nil]
  rw [k3,SRes.bind_nx]
  first | rw [xs_cons] | rw [xs_nil]
  rw [k4,SRes.bind_nx]
  first | rw [xs_cons] | rw [xs_nil]
  rw [k5,SRes.bind_nx]
  rfl
theorem tab_lines (n:Nat) {P:Paints} {d:Nat} {w:Str} (hP:(P.map (·.1)).Nodup) (hm:(d,w)∈P):∀ (ls:List Nat) (TT:List Tbl) (k:Nat) (x1 x4 x5 x6:MV),TOk TT k→k+ls.length≤700→(∀ l∈ls,l < 7) →
    TOk (ls.foldl (tabStep w) TT) (k+ls.length)∧∃ y1 y4 y5 y6,forL (loopF (tabN (n+1)) [1] tabB) (intsN ls) [.val (dictP P),x1,.mu 0,.val (.int (d:Nat)),x4,x5,x6] [tablesV TT]=.nx [.val (dictP P),y1,.mu 0,.val (.int (d:Nat)),y4,y5,y6] [tablesV (ls.foldl (tabStep w) TT)]
  | [],TT,k,x1,x4,x5,x6,h,_,_=>⟨h,x1,x4,x5,x6,rfl⟩
  | l::ls,TT,k,x1,x4,x5,x6,h,hk,hl=>by
    rw [List.length_cons] at hk
    obtain ⟨y4,y5,y6,e⟩:=tab_turn n (P:=P) (TT:=TT) (d:=d) (l:=l) (k:=k) (w:=w) (x1:=x1) (x4:=x4) (x5:=x5) (x6:=x6) hP hm h (by omega) (hl l List.mem_cons_self)
    obtain ⟨h2,z1,z4,z5,z6,ih⟩:=tab_lines n hP hm ls (tabStep w TT l) (k+1) (.val (.int (l:Nat))) y4 y5 y6 (h.step (hl l List.mem_cons_self) w) (by omega) fun x hx=>hl x (List.mem_cons_of_mem _ hx)
    refine ⟨?_,z1,z4,z5,z6,?_⟩
    · rw [List.foldl_cons,List.length_cons,show k+(ls.length+1)=k+1+ls.length by omega]
      exact h2
    · rw [show intsN (l::ls)=.int (l:Nat)::intsN ls from rfl,forL_cons,e]
      exact ih
noncomputable def deskB:MSs:=.cons (.forr [1] (.tup (.cons (.bin .fdiv (.var 3) (.cst (.int (3)))) (.cons (.bin .add (.cst (.int (3))) (.bin .mod (.var 3) (.cst (.int (3))))) (.cons (.cst (.int (6))) .nil)))) tabB .nil) .nil
theorem tab_desks (n:Nat) {P:Paints} (hP:Once P):∀ (R:Paints) (TT:List Tbl) (k:Nat) (x1 x3 x4 x5 x6:MV),(∀ p∈R,p∈P)→TOk TT k→k+3 * R.length≤700 →
    TOk (R.foldl deskStep TT) (k+3 * R.length)∧∃ y1 y3 y4 y5 y6,forL (loopF (tabN (n+1)) [3] deskB) (intsN (R.map (·.1))) [.val (dictP P),x1,.mu 0,x3,x4,x5,x6] [tablesV TT]=.nx [.val (dictP P),y1,.mu 0,y3,y4,y5,y6] [tablesV (R.foldl deskStep TT)]
  | [],TT,k,x1,x3,x4,x5,x6,_,h,_=>⟨h,x1,x3,x4,x5,x6,rfl⟩
  | (d,w)::R,TT,k,x1,x3,x4,x5,x6,hs,h,hk=>by
    rw [List.length_cons] at hk
    have hm:=hs (d,w) List.mem_cons_self
    have hd:d < 9:=hP.lt d (List.mem_map.mpr ⟨_,hm,rfl⟩)
    obtain ⟨h2,y1,y4,y5,y6,e⟩:=tab_lines n hP.nodup hm (linesOf d) TT k x1 x4 x5 x6 h (by show k+3≤700; omega) fun l hl=>linesOf_lt hd hl
    have e1:=div_ev d 3 (by omega) (by omega)
    have e2:=mod_ev d 3 (by omega)
    simp only [Int.cast_ofNat_Int] at e1 e2
    have e3:binV .add (.int 3) (.int ((d % 3:Nat):Int))=some (.int ((3+d % 3:Nat):Int)):=by
      rw [b_add]
      norm_cast
    have it:evE (tabN (n+1)) (.tup (.cons (.bin .fdiv (.var 3) (.cst (.int (3)))) (.cons (.bin .add (.cst (.int (3))) (.bin .mod (.var 3) (.cst (.int (3))))) (.cons (.cst (.int (6))) .nil)))) [.val (dictP P),x1,.mu 0,.val (.int (d:Nat)),x4,x5,x6] [tablesV TT]=.ok (.val (.tup (intsN (linesOf d)))) [tablesV TT]:=by
      simp only [e_cst,e_var,e_bin,e_tup,varV_val,Res.on_some,Option.bind_some,val_val,rd_val,es_nil',es_cons',op2,Res.of,toM,List.getElem?_cons_zero,List.getElem?_cons_succ,Res.bind_ok,Option.map_some,e1,e2,e3]
      rfl
    have b:loopF (tabN (n+1)) [3] deskB (.int (d:Nat)) [.val (dictP P),x1,.mu 0,x3,x4,x5,x6] [tablesV TT]=.nx [.val (dictP P),y1,.mu 0,.val (.int (d:Nat)),y4,y5,y6] [tablesV (deskStep TT (d,w))]:=by
      show exSs (tabN (n+1)) deskB [.val (dictP P),x1,.mu 0,.val (.int (d:Nat)),x4,x5,x6] _=_
      unfold deskB
      rw [xs_cons]
      rw [forr_nx it rfl (by simp [intsN,linesOf]) e]
      rfl
    obtain ⟨h3,z1,z3,z4,z5,z6,ih⟩:=tab_desks n hP R (deskStep TT (d,w)) (k+3) y1 (.val (.int (d:Nat))) y4 y5 y6 (fun p hp=>hs p (List.mem_cons_of_mem _ hp)) h2 (by omega)
    refine ⟨?_,z1,z3,z4,z5,z6,?_⟩
    · rw [List.foldl_cons,List.length_cons,show k+3 * (R.length+1)=k+3+3 * R.length by omega]
      exact h3
    · rw [show intsN (((d,w)::R).map (·.1))=.int (d:Nat)::intsN (R.map (·.1)) from rfl,forL_cons,b]
      exact ih
theorem c_tables (n:Nat) {P:Paints} (hP:Once P):TOk (tabs P) 27∧(tabN (n+2)).fn .tables [dictP P]=some (tablesV (tabs P)):=by
  have hl:=hP.len
  have start:TOk (List.replicate 7 []) 0:=⟨rfl,fun D hD=>by rw [(List.mem_replicate.mp hD).2]; exact ⟨List.nodup_nil,Nat.le_refl _⟩⟩
  obtain ⟨h1,y1,y3,y4,y5,y6,lp⟩:=tab_desks n hP P (List.replicate 7 []) 0 .unset .unset .unset .unset .unset (fun p hp=>hp) start (by omega)
  refine ⟨⟨h1.len,fun D hD=>⟨(h1.each D hD).1,Nat.le_trans (h1.each D hD).2 (by omega)⟩⟩,?_⟩
  rw [fn_eq (by decide) rfl]
  show runFn (tabN (n+1)) bTables [.val (dictP P),.unset,.unset,.unset,.unset,.unset,.unset]=_
  have k1:exS (tabN (n+1)) (.assignMut 2 (.comp (.dict0 true) (.p1 .range (.cst (.int (7)))) .tt)) [.val (dictP P),.unset,.unset,.unset,.unset,.unset,.unset] []=.nx [.val (dictP P),.unset,.mu 0,.unset,.unset,.unset,.unset] [tablesV (List.replicate 7 [])]:=rfl
  have k2:exS (tabN (n+1)) (.forr [3] (.var 0) deskB .nil) [.val (dictP P),.unset,.mu 0,.unset,.unset,.unset,.unset] [tablesV (List.replicate 7 [])]=.nx [.val (dictP P),y1,.mu 0,y3,y4,y5,y6] [tablesV (tabs P)]:=by
    rw [forr_nx (v:=dictP P) (xs:=intsN (P.map (·.1))) (σ':=[tablesV (List.replicate 7 [])]) (by simp only [e_var,varV_val,Res.on_some,Option.bind_some,List.getElem?_cons_zero]) (by show some ((P.map fun p=>(p.1:Int)).map AV.int)=_; simp [intsN]) (by simp only [intsN,List.length_map]; omega) lp]
    rfl
  rw [show ∀ ve,runFn (tabN (n+1)) bTables ve=(SRes.given ((exS (tabN (n+1)) (.assignMut 2 (.comp (.dict0 true) (.p1 .range (.cst (.int (7)))) .tt)) ve []).bind fun ve σ=>(exS (tabN (n+1)) (.forr [3] (.var 0) deskB .nil) ve σ).bind fun ve σ=>exSs (tabN (n+1)) (.cons (.ret (.var 2)) .nil) ve σ)) from fun _=>rfl,k1,SRes.bind_nx,k2,SRes.bind_nx]
  rfl
end Mine
namespace Mine
open PySem
theorem step_get {w:Str} {TT:List Tbl} {i l:Nat} (hi:i < TT.length):(tabStep w TT i).getD l []=if i=l then bump w (TT.getD l []) else TT.getD l []:=by
  unfold tabStep
  rw [List.getD_eq_getElem?_getD,List.getElem?_set]
  by_cases q:i=l
  · subst q
    rw [if_pos rfl,if_pos hi,if_pos rfl]
    rfl
  · rw [if_neg q,if_neg q,List.getD_eq_getElem?_getD]
theorem step_len (w:Str) (TT:List Tbl) (i:Nat):(tabStep w TT i).length=TT.length:=by
  unfold tabStep
  rw [List.length_set]
theorem desk_get {TT:List Tbl} {p:Nat × Str} {l:Nat} (h7:TT.length=7) (hp:p.1 < 9):(deskStep TT p).getD l []=if (linesOf p.1).contains l then bump p.2 (TT.getD l []) else TT.getD l []:=by
  unfold deskStep linesOf
  simp only [List.foldl_cons,List.foldl_nil]
  rw [step_get (by rw [step_len,step_len,h7]; decide),step_get (by rw [step_len,h7]; omega),step_get (by rw [h7]; omega)]
  simp only [List.contains_eq_mem,List.mem_cons,List.not_mem_nil,or_false,decide_eq_true_eq]
  have a1:p.1 / 3 < 3:=by omega
  have a2:p.1 % 3 < 3:=by omega
  clear hp h7
  generalize p.1 / 3=x at *
  generalize p.1 % 3=y at *
  by_cases q1:x=l
  · rw [if_neg (by omega:¬ 6=l),if_neg (by omega:¬ 3+y=l),if_pos q1,if_pos (.inl q1.symm)]
  · by_cases q2:3+y=l
    · rw [if_neg (by omega:¬ 6=l),if_pos q2,if_neg q1,if_pos (.inr (.inl q2.symm))]
    · by_cases q3:6=l
      · rw [if_pos q3,if_neg q2,if_neg q1,if_pos (.inr (.inr q3.symm))]
      · rw [if_neg q3,if_neg q2,if_neg q1,if_neg (by rintro (h | h | h) <;> omega)]
theorem desk_len (TT:List Tbl) (p:Nat × Str):(deskStep TT p).length=TT.length:=by
  unfold deskStep linesOf
  simp only [List.foldl_cons,List.foldl_nil,step_len]
theorem fold_get {l:Nat}:∀ (P:Paints) (TT:List Tbl),TT.length=7→(∀ p∈P,p.1 < 9)→(P.foldl deskStep TT).getD l []=(P.filter fun p=>(linesOf p.1).contains l).foldl (fun D p=>bump p.2 D) (TT.getD l [])
  | [],_,_,_=>rfl
  | p::P,TT,h7,h=>by
    rw [List.foldl_cons,fold_get P _ (by rw [desk_len]; exact h7) fun x hx=>h x (List.mem_cons_of_mem _ hx),desk_get h7 (h p List.mem_cons_self)]
    by_cases q:(linesOf p.1).contains l
    · rw [if_pos q,List.filter_cons_of_pos (by exact q),List.foldl_cons]
    · rw [if_neg q,List.filter_cons_of_neg (by exact q)]
theorem tabs_get {P:Paints} {l:Nat} (h:∀ p∈P,p.1 < 9) (hl:l < 7):(tabs P).getD l []=(P.filter fun p=>(linesOf p.1).contains l).foldl (fun D p=>bump p.2 D) []:=by
  unfold tabs
  rw [fold_get P _ rfl h]
  congr 1
  rw [List.getD_eq_getElem?_getD,List.getElem?_replicate,if_pos hl]
  rfl
theorem fold_fresh:∀ (P:Paints) (D:Tbl),(P.map (·.2)).Nodup→(∀ p∈P,p.2 ∉ D.map (·.1))→P.foldl (fun D p=>bump p.2 D) D=D++P.map fun p=>(p.2,1)
  | [],D,_,_=>by simp
  | p::P,D,hn,h=>by
    rw [List.map_cons,List.nodup_cons] at hn
    rw [List.foldl_cons,bump_new (h p List.mem_cons_self),fold_fresh P _ hn.2,List.map_cons,List.append_assoc]
    · rfl
    · intro x hx q
      rw [List.map_append,List.mem_append] at q
      rcases q with q | q
      · exact h x (List.mem_cons_of_mem _ hx) q
      · simp at q
        exact hn.1 (List.mem_map.mpr ⟨x,hx,q⟩)
theorem bump_last {w:Str} {c:Nat}:∀ {D:Tbl},w ∉ D.map (·.1)→bump w (D++[(w,c)])=D++[(w,c+1)]
  | [],_=>if_pos rfl
  | (k,e)::D,h=>by
    rw [List.map_cons,List.mem_cons,not_or] at h
    rw [List.cons_append,bump_cons,if_neg (fun q=>h.1 q.symm),bump_last h.2]
    rfl
theorem fold_same {w:Str} {D:Tbl} (h:w ∉ D.map (·.1)):∀ (F:List Nat) (c:Nat),(F.map fun d=>(d,w)).foldl (fun D (p:Nat × Str)=>bump p.2 D) (D++[(w,c)])=D++[(w,c+F.length)]
  | [],c=>rfl
  | d::F,c=>by
    rw [List.map_cons,List.foldl_cons,bump_last h,fold_same h F (c+1),List.length_cons,show c+1+F.length=c+(F.length+1) by omega]
theorem fold_flat:∀ (bl:List (Str × List Nat)) (D:Tbl),(bl.map (·.1)).Nodup→(∀ b∈bl,b.1 ∉ D.map (·.1))→(flat bl).foldl (fun D p=>bump p.2 D) D=D++(bl.filter fun b=>!b.2.isEmpty).map fun b=>(b.1,b.2.length)
  | [],D,_,_=>by simp [flat]
  | (w,F)::bl,D,hn,h=>by
    rw [List.map_cons,List.nodup_cons] at hn
    have hw:=h (w,F) List.mem_cons_self
    have e:flat ((w,F)::bl)=(F.map fun d=>(d,w))++flat bl:=by
      unfold flat
      rw [List.flatMap_cons]
    rw [e,List.foldl_append]
    cases F with
    | nil =>
      rw [List.map_nil,List.foldl_nil,fold_flat bl D hn.2 fun b hb=>h b (List.mem_cons_of_mem _ hb)]
      rfl
    | cons d F =>
      rw [List.map_cons,List.foldl_cons,bump_new hw,fold_same hw,fold_flat bl _ hn.2]
      · rw [List.filter_cons_of_pos (by rfl),List.map_cons,List.append_assoc,show 1+F.length=(d::F).length by rw [List.length_cons]; omega]
        rfl
      · intro b hb q
        rw [List.map_append,List.mem_append] at q
        rcases q with q | q
        · exact h b (List.mem_cons_of_mem _ hb) q
        · simp at q
          exact hn.1 (q ▸ List.mem_map.mpr ⟨b,hb,rfl⟩)
theorem nodup_map_on {α β:Type} {f:α→β}:∀ {l:List α},l.Nodup→(∀ x∈l,∀ y∈l,f x=f y→x=y)→(l.map f).Nodup
  | [],_,_=>List.nodup_nil
  | a::l,hn,h=>by
    rw [List.nodup_cons] at hn
    rw [List.map_cons,List.nodup_cons]
    refine ⟨fun q=>?_,nodup_map_on hn.2 fun x hx y hy=>h x (List.mem_cons_of_mem _ hx) y (List.mem_cons_of_mem _ hy)⟩
    obtain ⟨x,hx,e⟩:=List.mem_map.mp q
    have:=h x (List.mem_cons_of_mem _ hx) a List.mem_cons_self e
    exact hn.1 (this ▸ hx)
theorem nodup_of_map {α β:Type} {f:α→β}:∀ {l:List α},(l.map f).Nodup→l.Nodup
  | [],_=>List.nodup_nil
  | a::l,h=>by
    rw [List.map_cons,List.nodup_cons] at h
    exact List.nodup_cons.mpr ⟨fun q=>h.1 (List.mem_map.mpr ⟨a,q,rfl⟩),nodup_of_map h.2⟩
theorem key_unique {α β:Type}:∀ {bl:List (α × β)} {w:α} {F G:β},(bl.map (·.1)).Nodup→(w,F)∈bl→(w,G)∈bl→F=G
  | [],_,_,_,_,h,_=>nomatch h
  | b::bl,w,F,G,hn,h1,h2=>by
    rw [List.map_cons,List.nodup_cons] at hn
    rcases List.mem_cons.mp h1 with h1 | h1 <;> rcases List.mem_cons.mp h2 with h2 | h2
    · rw [← h1] at h2
      exact (Prod.mk.inj h2).2.symm
    · exact absurd (List.mem_map.mpr ⟨_,h2,by rw [← h1]⟩) hn.1
    · exact absurd (List.mem_map.mpr ⟨_,h1,by rw [← h2]⟩) hn.1
    · exact key_unique hn.2 h1 h2
theorem lines_iff {d l:Nat} (hd:d < 9) (hl:l < 6):(linesOf d).contains l=(lineOf (l / 3) d == l % 3):=by
  have h1:∀ x < 9,∀ y < 6,(linesOf x).contains y=(lineOf (y / 3) x == y % 3):=by decide
  exact h1 d hd l hl
theorem line_three {l:Nat} (hl:l < 6):((List.range 9).filter fun d=>lineOf (l / 3) d == l % 3).length=3:=by
  have h1:∀ y < 6,((List.range 9).filter fun d=>lineOf (y / 3) d == y % 3).length=3:=by decide
  exact h1 l hl
theorem tables_fin {rk:Nat→Nat} {lists:Nat→List Str} {fin:Paints} {bl:List (Str × List Nat)} (h1:Once fin) (hall:∀ d,d < 9→d∈fin.map (·.1)) (h3:fin=flat bl) (hn:(bl.map (·.1)).Nodup) (h4:∀ b∈bl,Block rk lists fin b) :
    (∀ l,l < 6→((tabs fin).getD l []).map (·.2)=[1,1,1])∧(tabs fin).getD 6 []=(bl.filter fun b=>!b.2.isEmpty).map (fun b=>(b.1,b.2.length))∧(((tabs fin).getD 6 []).map (·.2)).sum=9:=by
  have lt9:∀ p∈fin,p.1 < 9:=fun p hp=>h1.lt _ (List.mem_map.mpr ⟨p,hp,rfl⟩)
  have len9:fin.length=9:=by
    refine Nat.le_antisymm h1.len ?_
    have:=len_le_of_sub (b:=List.range 9) (l:=fin.map (·.1)) List.nodup_range fun x hx=>hall x (List.mem_range.mp hx)
    simpa using this
  have t6:(tabs fin).getD 6 []=(bl.filter fun b=>!b.2.isEmpty).map (fun b=>(b.1,b.2.length)):=by
    rw [tabs_get lt9 (by decide)]
    have:fin.filter (fun p=>(linesOf p.1).contains 6)=fin:=by
      rw [List.filter_eq_self]
      intro p _
      simp [linesOf]
    rw [this,h3,fold_flat bl [] hn fun b _ q=>(by cases q)]
    rfl
  refine ⟨fun l hl=>?_,t6,?_⟩
  · rw [tabs_get lt9 (by omega)]
    have fn:(fin.filter fun p=>(linesOf p.1).contains l).Nodup:=(nodup_of_map h1.nodup).filter _
    have wn:((fin.filter fun p=>(linesOf p.1).contains l).map (·.2)).Nodup:=by
      refine nodup_map_on fn fun x hx y hy e=>?_
      rw [List.mem_filter] at hx hy
      obtain ⟨d,w⟩:=x
      obtain ⟨d',w'⟩:=y
      cases e
      have q1:=hx.2
      have q2:=hy.2
      rw [lines_iff (lt9 _ hx.1) hl] at q1
      rw [lines_iff (lt9 _ hy.1) hl] at q2
      have m1:=hx.1
      have m2:=hy.1
      rw [h3] at m1 m2
      obtain ⟨b,hb,hm⟩:=List.mem_flatMap.mp m1
      obtain ⟨b',hb',hm'⟩:=List.mem_flatMap.mp m2
      obtain ⟨xd,hxd,ex⟩:=List.mem_map.mp hm
      obtain ⟨yd,hyd,ey⟩:=List.mem_map.mp hm'
      obtain ⟨w1,F⟩:=b
      obtain ⟨w2,F'⟩:=b'
      cases ex
      cases ey
      have:=key_unique hn hb hb'
      subst this
      have:=(h4 _ hb).apart (l / 3) _ _ (by omega) hxd hyd (by rw [beq_iff_eq.mp q1,beq_iff_eq.mp q2])
      rw [this]
    rw [fold_fresh _ [] wn fun p _ q=>(by cases q),List.nil_append,List.map_map]
    have len:(fin.filter fun p=>(linesOf p.1).contains l).length=3:=by
      have an:((fin.filter fun p=>(linesOf p.1).contains l).map (·.1)).Nodup:=by
        refine nodup_map_on fn fun x hx y hy e=>?_
        rw [List.mem_filter] at hx hy
        obtain ⟨d,w⟩:=x
        obtain ⟨d',w'⟩:=y
        cases e
        rw [key_unique h1.nodup hx.1 hy.1]
      have l3:=line_three hl
      have le1:=len_le_of_sub an (l:=(List.range 9).filter fun d=>lineOf (l / 3) d == l % 3) fun x hx=>by
        obtain ⟨p,hp,rfl⟩:=List.mem_map.mp hx
        rw [List.mem_filter] at hp
        rw [List.mem_filter,← lines_iff (lt9 p hp.1) hl]
        exact ⟨List.mem_range.mpr (lt9 p hp.1),hp.2⟩
      have le2:=len_le_of_sub (b:=(List.range 9).filter fun d=>lineOf (l / 3) d == l % 3) (l:=(fin.filter fun p=>(linesOf p.1).contains l).map (·.1)) (List.nodup_range.filter _) fun x hx=>by
        rw [List.mem_filter] at hx
        have hx9:=List.mem_range.mp hx.1
        obtain ⟨p,hp,rfl⟩:=List.mem_map.mp (hall x hx9)
        exact List.mem_map.mpr ⟨p,List.mem_filter.mpr ⟨hp,by rw [lines_iff hx9 hl]; exact hx.2⟩,rfl⟩
      rw [List.length_map] at le1 le2
      omega
    generalize (fin.filter fun p=>(linesOf p.1).contains l)=L at len
    match L,len with
    | [a,b,c],_=>rfl
  · rw [t6,List.map_map]
    have key:∀ (bl:List (Str × List Nat)),((bl.filter fun b=>!b.2.isEmpty).map ((fun (p:Str × Nat)=>p.2) ∘ fun b=>(b.1,b.2.length))).sum=(flat bl).length:=by
      intro bl
      induction bl with
      | nil=>rfl
      | cons b bl ih =>
        obtain ⟨w,F⟩:=b
        have e:(flat ((w,F)::bl)).length=F.length+(flat bl).length:=by
          unfold flat
          rw [List.flatMap_cons,List.length_append,List.length_map]
        rw [e,← ih]
        cases F with
        | nil=>rw [List.filter_cons_of_neg (by simp)]; simp
        | cons d F=>rw [List.filter_cons_of_pos (by rfl),List.map_cons,List.sum_cons]; rfl
    rw [key,← h3,len9]
end Mine
set_option linter.unusedSimpArgs false
namespace Mine
open PySem PyProof.Rows
theorem exSs_nx {T:Tab} {s:MS} {r:MSs} {ve ve':List MV} {σ σ':List AV} (h:exS T s ve σ=.nx ve' σ'):exSs T (.cons s r) ve σ=exSs T r ve' σ':=by
  conv=>lhs; first | rw [xs_cons] | rw [xs_nil]
  rw [h,SRes.bind_nx]
noncomputable def intsZ (l:List Int):List AV:=l.map .int
theorem idx_Z {l:List Int} {i:Nat} (hl:l.length≤1000) (h:i < l.length):idxV (.list (intsZ l)) (.int (i:Nat))=some (.int (l.getD i 0)):=by
  refine idx_list (by simp only [intsZ,List.length_map]; omega) ?_
  unfold intsZ
  rw [List.getElem?_map,List.getElem?_eq_getElem h,List.getD_eq_getElem?_getD,List.getElem?_eq_getElem h]
  rfl
theorem sums_loop (T:Tab) {x0:MV} {us:List MV}:∀ (l:List Int) (p:Nat) (S:List Int) (x2 x3:MV),S.length=10 →
    ∃ y2 y3 S',S'.length=10∧forL (loopF T [2,3] (.cons (.augitem 1 (.bin .mod (.var 2) (.cst (.int (10)))) (.var 3)) .nil)) (numbered p (intsZ l)) (x0::.mu 0::x2::x3::us) [.list (intsZ S)]=.nx (x0::.mu 0::y2::y3::us) [.list (intsZ S')]
  | [],p,S,x2,x3,h=>⟨x2,x3,S,h,rfl⟩
  | z::l,p,S,x2,x3,h=>by
    have i1:=idx_Z (l:=S) (i:=p % 10) (by omega) (by omega)
    have e1:=mod_ev p 10 (by omega)
    simp only [Int.cast_ofNat_Int] at e1
    have s1:setV (.list (intsZ S)) (.int ((p % 10:Nat):Int)) (.int (S.getD (p % 10) 0+z))=some (.list (intsZ (S.set (p % 10) (S.getD (p % 10) 0+z)))):=by
      have e:(intsZ S).length=10:=(List.length_map _).trans h
      rw [set_list (by rw [e]; decide) (by rw [e]; exact Nat.mod_lt _ (by decide))]
      unfold intsZ
      rw [List.map_set]
    have b:loopF T [2,3] (.cons (.augitem 1 (.bin .mod (.var 2) (.cst (.int (10)))) (.var 3)) .nil) (.tup [.int (p:Nat),.int z]) (x0::.mu 0::x2::x3::us) [.list (intsZ S)]=.nx (x0::.mu 0::.val (.int (p:Nat))::.val (.int z)::us) [.list (intsZ (S.set (p % 10) (S.getD (p % 10) 0+z)))]:=by
      show exSs T _ (x0::.mu 0::.val (.int (p:Nat))::.val (.int z)::us) _=_
      simp only [xs_nil,xs_cons,x_augitem,SRes.on_some,Option.bind_some,List.getElem?_cons_zero,List.getElem?_cons_succ,int_int,muAt,mu_mu,e_cst,e_var,e_bin,varV_val,Res.on_some,rd_val,op2,rdB,Res.of,toM,Res.bind_ok,Option.map_some,Res.toS_ok,e1,i1,s1,SRes.bind_nx,List.set_cons_zero]
    obtain ⟨y2,y3,S',hS,ih⟩:=sums_loop T (x0:=x0) (us:=us) l (p+1) (S.set (p % 10) (S.getD (p % 10) 0+z)) (.val (.int (p:Nat))) (.val (.int z)) (by rw [List.length_set]; exact h)
    exact ⟨y2,y3,S',hS,by rw [show numbered p (intsZ (z::l))=.tup [.int (p:Nat),.int z]::numbered (p+1) (intsZ l) from rfl,forL_cons,b]; exact ih⟩
theorem pv_comp {T:Tab} {B:List UInt8} {A:AV} {t:Int} {tail:List Nat} {f:AV→List AV→Res (Option AV)} (hT:∀ q N use (rest:List UInt8),N < 2 ^ 60→1≤use→use≤15→N < 64 ^ use→B.drop q=u8s (tailOct N t 0 use)++rest→T.pv B q=some (some (N:Int),q+use))
    (hf:∀ x q N q',q≤B.length→T.pv B q=some (some N,q')→f x [A,.biter B q]=.ok (some (.int N)) [A,.biter B q']):∀ (ns:List Nat) (xs:List AV) (p q:Nat) (acc:List AV),xs.length=ns.length→(∀ N∈ns,N < 2 ^ 32)→q≤B.length→B.drop q=u8s (encAll t p ns++tail) →
    ∃ q',q'≤B.length∧B.drop q'=u8s tail∧compL f xs acc [A,.biter B q]=.ok (acc++intsN ns) [A,.biter B q']
  | [],[],p,q,acc,_,_,hq,hd=>⟨q,hq,hd,by
    show Res.ok acc _=_
    rw [show intsN []=[] from rfl,List.append_nil]⟩
  | [],_::_,_,_,_,h,_,_,_=>by cases h
  | _::_,[],_,_,_,h,_,_,_=>by cases h
  | N::ns,x::xs,p,q,acc,hl,hN,hq,hd=>by
    obtain ⟨d1,d2⟩:=enc_drop (rest:=tail) hd
    obtain ⟨u1,u2,u3⟩:=use_ok (hN N List.mem_cons_self) t p
    have hp:=hT q N (useOf N t p) _ (by have:=hN N List.mem_cons_self; omega) u1 (by omega) u3 d1
    have hq2:q+useOf N t p≤B.length:=by
      have:=congrArg List.length d1
      rw [List.length_drop,List.length_append] at this
      simp only [u8s,List.length_map,tail_len] at this
      omega
    obtain ⟨q',h1,h2,h3⟩:=pv_comp hT hf ns xs (p+1) (q+useOf N t p) (acc++[.int (N:Nat)]) (Nat.succ.inj hl) (fun M hM=>hN M (List.mem_cons_of_mem _ hM)) hq2 d2
    refine ⟨q',h1,h2,?_⟩
    rw [show compL f (x::xs) acc [A,.biter B q]=(f x [A,.biter B q]).bind fun y σ'=>compL f xs (acc++y.toList) σ' from rfl,hf x q _ _ hq hp,Res.bind_ok]
    show compL f xs (acc++[.int (N:Nat)]) _=_
    rw [h3,List.append_assoc]
    rfl
noncomputable def wl (W Fs x:Nat):List Str:=(((List.range W).filter x.testBit).map (Fs+·)).map wordS
theorem wl_len {W Fs m:Nat} (h:isMask m W=true):(wl W Fs m).length=3:=by
  unfold isMask at h
  simp only [Bool.and_eq_true,beq_iff_eq] at h
  unfold wl
  rw [List.length_map,List.length_map,h.2]
theorem wl_nodup {W Fs x:Nat} (h:Fs+W≤32):(wl W Fs x).Nodup:=by
  unfold wl
  rw [List.map_map]
  refine nodup_map_on (List.nodup_range.filter _) fun a ha b hb e=>?_
  have ha:=List.mem_range.mp (List.mem_filter.mp ha).1
  have hb:=List.mem_range.mp (List.mem_filter.mp hb).1
  have:=word_inj (Fs+a) (Fs+b) (by omega) (by omega) e
  omega
theorem mask_lt {W m:Nat} (h:isMask m W=true):m < 2 ^ W∧0 < m:=by
  unfold isMask at h
  simp only [Bool.and_eq_true,beq_iff_eq,decide_eq_true_eq] at h
  refine ⟨h.1,Nat.pos_of_ne_zero fun q=>?_⟩
  subst q
  have:(List.range W).filter (Nat.testBit 0)=[]:=by
    rw [List.filter_eq_nil_iff]
    intro j _
    simp
  rw [this] at h
  cases h.2
theorem num_lt {W Fs m:Nat} (h:m < 2 ^ W) (hw:Fs+W≤32):2 ^ Fs * m < 2 ^ 32:=by
  have h1:2 ^ Fs * m < 2 ^ Fs * 2 ^ W:=(Nat.mul_lt_mul_left (Nat.two_pow_pos Fs)).mpr h
  rw [← Nat.pow_add] at h1
  exact Nat.lt_of_lt_of_le h1 (Nat.pow_le_pow_right (by omega) hw)
theorem full_bits (W:Nat):(List.range W).filter (2 ^ W - 1).testBit=List.range W:=by
  rw [List.filter_eq_self]
  intro j hj
  rw [Nat.testBit_two_pow_sub_one,decide_eq_true (List.mem_range.mp hj)]
theorem div_bits (W x:Nat):(List.range W).filter (fun j=>x / 2 ^ j % 2 == 1)=(List.range W).filter x.testBit:=by
  apply List.filter_congr
  intro j _
  rw [Nat.testBit_eq_decide_div_mod_eq]
  by_cases q:x / 2 ^ j % 2=1
  · rw [decide_eq_true q,q]; rfl
  · rw [decide_eq_false q,beq_false_of_ne q]
theorem wl_lt {W Fs x b:Nat} (h:Fs+W≤32) (hb:b∈((List.range W).filter x.testBit).map (Fs+·)):b < 32:=by
  obtain ⟨j,hj,rfl⟩:=List.mem_map.mp hb
  have:=List.mem_range.mp (List.mem_filter.mp hj).1
  omega
noncomputable def ordIdx (W A s k:Nat):Nat:=(A+s * k) % W
noncomputable def ordChk (W A s:Nat):Bool:=decide ((List.range W).map (ordIdx W A s)).Nodup && (List.range W).all fun j=>((List.range W).map (ordIdx W A s)).contains j
theorem ordChk_all:((List.range 9).filter (3≤·)).all (fun W=>(List.range W).all fun A=>ordChk W A 1 && ordChk W A (W - 1))=true:=by kernel_rfl
theorem ord_ok {W A s:Nat} (h3:3≤W) (h8:W≤8) (hA:A < W) (hs:s=1∨s=W - 1):((List.range W).map (ordIdx W A s)).Nodup∧∀ j,j < W→j∈(List.range W).map (ordIdx W A s):=by
  have h:=List.all_eq_true.mp (List.all_eq_true.mp ordChk_all W (List.mem_filter.mpr ⟨List.mem_range.mpr (by omega),by simpa using h3⟩)) A (List.mem_range.mpr hA)
  rw [Bool.and_eq_true] at h
  have:ordChk W A s=true:=by
    rcases hs with rfl | rfl
    · exact h.1
    · exact h.2
  unfold ordChk at this
  simp only [Bool.and_eq_true,decide_eq_true_eq,List.all_eq_true,List.contains_eq_mem] at this
  exact ⟨this.1,fun j hj=>this.2 j (List.mem_range.mpr hj)⟩
noncomputable def rkOf (u v c d:Nat):Nat:=(u * (d / 3)+v * (d % 3)+c) % 3
theorem rk_lt (u v c d:Nat):rkOf u v c d < 3:=Nat.mod_lt _ (by omega)
noncomputable def rkChk (u v c:Nat):Bool:=((List.range 2).all fun s=>(List.range 9).all fun d=>(List.range 9).all fun e=>!(lineOf s d == lineOf s e) || !(rkOf u v c d == rkOf u v c e) || d == e) && (List.range 9).all fun d=>decide (((List.range 9).filter fun o=>domB (rkOf u v c) d o).length≤2)
theorem rkChk_all:(List.range 3).all (fun c=>[1,2].all fun u=>[1,2].all fun v=>rkChk u v c)=true:=by kernel_rfl
theorem rk_latin {u v c:Nat} (hu:u=1∨u=2) (hv:v=1∨v=2) (hc:c < 3):Latin (rkOf u v c)∧∀ d,d < 9→((List.range 9).filter fun o=>domB (rkOf u v c) d o).length≤2:=by
  have h:=List.all_eq_true.mp (List.all_eq_true.mp (List.all_eq_true.mp rkChk_all c (List.mem_range.mpr hc)) u (by rcases hu with rfl | rfl <;> simp)) v (by rcases hv with rfl | rfl <;> simp)
  unfold rkChk at h
  rw [Bool.and_eq_true,List.all_eq_true,List.all_eq_true] at h
  refine ⟨fun s d e hs hd he hl hr=>?_,fun d hd=>by simpa using h.2 d (List.mem_range.mpr hd)⟩
  have:=List.all_eq_true.mp (List.all_eq_true.mp (h.1 s (List.mem_range.mpr hs)) d (List.mem_range.mpr hd)) e (List.mem_range.mpr he)
  rw [hl,hr] at this
  simpa using this
theorem count_none {w:Str}:∀ {bl:List (Str × List Nat)},w ∉ bl.map (·.1)→((flat bl).map (·.2)).countP (· == w)=0
  | [],_=>rfl
  | (u,F)::bl,h=>by
    rw [List.map_cons,List.mem_cons,not_or] at h
    unfold flat
    rw [List.flatMap_cons,List.map_append,List.countP_append]
    have:=count_none (bl:=bl) h.2
    unfold flat at this
    rw [this,Nat.add_zero,List.countP_eq_zero]
    intro x hx
    obtain ⟨p,hp,rfl⟩:=List.mem_map.mp hx
    obtain ⟨d,_,rfl⟩:=List.mem_map.mp hp
    exact fun q=>h.1 (beq_iff_eq.mp q).symm
theorem count_flat:∀ {bl:List (Str × List Nat)},(bl.map (·.1)).Nodup→∀ b∈bl,((flat bl).map (·.2)).countP (· == b.1)=b.2.length
  | [],_,b,hb=>nomatch hb
  | (u,F)::bl,hn,b,hb=>by
    rw [List.map_cons,List.nodup_cons] at hn
    have e:(flat ((u,F)::bl)).map (·.2)=(F.map fun _=>u)++(flat bl).map (·.2):=by
      unfold flat
      rw [List.flatMap_cons,List.map_append,List.map_map]
      rfl
    rw [e,List.countP_append]
    rcases List.mem_cons.mp hb with rfl | hb
    · rw [count_none hn.1,Nat.add_zero]
      show (F.map fun _=>u).countP (· == u)=F.length
      rw [List.countP_eq_length.mpr,List.length_map]
      intro x hx
      obtain ⟨d,_,rfl⟩:=List.mem_map.mp hx
      simp
    · rw [count_flat hn.2 b hb]
      have:(F.map fun _=>u).countP (· == b.1)=0:=by
        rw [List.countP_eq_zero]
        intro x hx
        obtain ⟨d,_,rfl⟩:=List.mem_map.mp hx
        exact fun q=>hn.1 (beq_iff_eq.mp q ▸ List.mem_map.mpr ⟨b,hb,rfl⟩)
      rw [this,Nat.zero_add]
theorem last_eq {bl:List (Str × List Nat)} (hn:(bl.map (·.1)).Nodup) {α:Type} (g:Str→Nat→α):((bl.map (·.1)).filter fun w=>((flat bl).map (·.2)).contains w).map (fun w=>g w (((flat bl).map (·.2)).countP (· == w)))=(bl.filter fun b=>!b.2.isEmpty).map fun b=>g b.1 b.2.length:=by
  rw [List.filter_map,List.map_map]
  have h1:bl.filter ((fun w=>((flat bl).map (·.2)).contains w) ∘ fun b=>b.1)=bl.filter fun b=>!b.2.isEmpty:=by
    apply List.filter_congr
    intro b hb
    have hc:=count_flat hn b hb
    show ((flat bl).map (·.2)).contains b.1=_
    by_cases q:b.2=[]
    · rw [q] at hc ⊢
      have:b.1 ∉ (flat bl).map (·.2):=fun hm=>by
        rw [List.length_nil,List.countP_eq_zero] at hc
        exact hc _ hm (beq_self_eq_true _)
      simpa using this
    · have:b.1∈(flat bl).map (·.2):=by
        refine Decidable.byContradiction fun hm=>q ?_
        apply List.eq_nil_of_length_eq_zero
        rw [← hc,List.countP_eq_zero]
        intro x hx e
        exact hm (beq_iff_eq.mp e ▸ hx)
      have h2:b.2.isEmpty=false:=by
        cases h:b.2 with
        | nil=>exact absurd h q
        | cons _ _=>rfl
      rw [h2]
      simpa using this
  rw [h1]
  apply List.map_congr_left
  intro b hb
  show g b.1 (((flat bl).map (·.2)).countP (· == b.1))=_
  rw [count_flat hn b (List.mem_filter.mp hb).1]
end Mine
set_option linter.unusedSimpArgs false
namespace Mine
open PySem PyProof.Rows PySem.Builtin.Str
noncomputable def compF (T:Tab) (elt:ME) (c:MT) (ve:List MV) (x:AV) (σ:List AV):Res (Option AV):=turnR (evT T c (ve++[.val x])) (evE T elt (ve++[.val x])) σ
theorem ev_comp_gen {T:Tab} {elt it:ME} {c:MT} {ve:List MV} {σ σ' σ'':List AV} {x:AV} {xs ys:List AV} (hit:evE T it ve σ=.ok (.val x) σ') (he:elemsC x=some xs) (hf:xs.length≤1000000) (h:compL (compF T elt c ve) xs [] σ'=.ok ys σ'') :
    evE T (.comp elt it c) ve σ=.ok (.val (.list ys)) σ'':=by
  show (evE T it ve σ).bind _=_
  rw [hit]
  show Res.on (elemsC x) _=_
  rw [he]
  show (if fits xs.length=true then _ else _)=_
  rw [fits_le hf]
  show (compL (compF T elt c ve) xs [] σ').bind (fun ys σ=>Res.ok (MV.val (AV.list ys)) σ)=_
  rw [h]
  rfl
theorem cut_list {xs:List AV} {n:Nat} (h:xs.length≤1000000) (h2:n≤1000000):cutV n (.list xs)=some (.list (xs.take n)):=grd_pos (Bool.and_eq_true_iff.mpr ⟨fits_le h,fits_le h2⟩)
theorem add_ev (a b:Nat):binV .add (.int (a:Nat)) (.int (b:Nat))=some (.int ((a+b:Nat):Int)):=by
  rw [b_add]
  norm_cast
theorem mul_ev (a b:Nat) (h:b < 2 ^ 62):binV .mul (.int (a:Nat)) (.int (b:Nat))=some (.int ((a * b:Nat):Int)):=by
  rw [b_mul (small_nat h)]
  norm_cast
theorem pow2_ev (k:Nat) (h:k≤1000):binV .pow (.int 2) (.int (k:Nat))=some (.int ((2 ^ k:Nat):Int)):=by
  rw [b_pow (by omega) (by omega) rfl,Int.toNat_natCast]
  norm_cast
theorem iff_no {T:Tab} {c:MT} {b:MSs} {ve:List MV} {σ σ':List AV} (h:evT T c ve σ=.ok false σ'):exS T (.iff c b .nil) ve σ=.nx ve σ':=by
  show (evT T c ve σ).toS ve _=_
  rw [h]
  rfl
theorem assign_ok {T:Tab} {i:Nat} {e:ME} {ve:List MV} {σ σ':List AV} {v:AV} (h:evE T e ve σ=.ok (.val v) σ'):exS T (.assign i e) ve σ=.nx (ve.set i (.val v)) σ':=by
  show (evE T e ve σ).toS ve _=_
  rw [h]
  rfl
noncomputable def lawVe0 (s:List Int):List MV:=.val (.arg (s.map .int))::List.replicate 23 .unset
theorem l0 (s:List Int):exS (tabN 8) (.assignMut 1 (.list (.cons (.cst (.int (0))) (.cons (.cst (.int (12))) (.cons (.cst (.int (23))) (.cons (.cst (.int (16))) (.cons (.cst (.int (3))) (.cons (.cst (.int (1))) (.cons (.cst (.int (23))) (.cons (.cst (.int (16))) (.cons (.cst (.int (2))) (.cons (.cst (.int (748855))) .nil)))))))))))) (lawVe0 s) []=.nx (.val (.arg (intsZ s))::.mu 0::.unset::.unset::List.replicate 20 .unset) [.list (intsZ [0,12,23,16,3,1,23,16,2,748855])]:=rfl
theorem l1 (s:List Int) (hs:s.length≤63):∃ y2 y3 S,S.length=10∧exS (tabN 8) (.forEnum 2 3 (.cut (.var 0) 60) (.cons (.augitem 1 (.bin .mod (.var 2) (.cst (.int (10)))) (.var 3)) .nil)) (.val (.arg (intsZ s))::.mu 0::.unset::.unset::List.replicate 20 .unset) [.list (intsZ [0,12,23,16,3,1,23,16,2,748855])] =
    .nx [.val (.arg (intsZ s)),.mu 0,y2,y3,.unset,.unset,.unset,.unset,.unset,.unset,.unset,.unset,.unset,.unset,.unset,.unset,.unset,.unset,.unset,.unset,.unset,.unset,.unset,.unset] [.list (intsZ S)]:=by
  obtain ⟨y2,y3,S,hS,e⟩:=sums_loop (tabN 8) (x0:=.val (.arg (intsZ s))) (us:=List.replicate 20 .unset) (s.take 60) 0 [0,12,23,16,3,1,23,16,2,748855] .unset .unset rfl
  refine ⟨y2,y3,S,hS,enum_nx (xs:=intsZ (s.take 60)) (σ':=[.list (intsZ [0,12,23,16,3,1,23,16,2,748855])]) ?_ (by simp only [intsZ,List.length_map,List.length_take]; omega) e⟩
  have c:cutV 60 (.arg (intsZ s))=some (.list (intsZ (s.take 60))):=by
    rw [show cutV 60 (.arg (intsZ s))=some (.list ((intsZ s).take 60)) from grd_pos (Bool.and_eq_true_iff.mpr ⟨fits_le (by simp only [intsZ,List.length_map]; omega),rfl⟩)]
    unfold intsZ
    rw [List.map_take]
  simp only [Option.bind_some,List.getElem?_cons_zero,e_var,e_cut,varV_val,Res.on_some,rd_val,op1,Res.of,toM,Res.bind_ok,Option.map_some,c]
theorem l2 {x0 x2 x3 x4 x5 x6 x7 x8 x9 x10 x11 x12 x13 x14 x15 x16 x17 x18 x19 x20 x21 x22 x23:MV} {S:List Int} (hS:S.length=10):exS (tabN 8) (.multi [(4,false),(5,false)] (.cons (.idx (.var 1) (.cst (.int (9)))) (.cons (.bin .fdiv (.idx (.var 1) (.cst (.int (9)))) (.cst (.int (57600)))) .nil))) [x0,.mu 0,x2,x3,x4,x5,x6,x7,x8,x9,x10,x11,x12,x13,x14,x15,x16,x17,x18,x19,x20,x21,x22,x23] [.list (intsZ S)]=.nx [x0,.mu 0,x2,x3,.val (.int (S.getD 9 0)),.val (.int ((S.getD 9 0).fdiv 57600)),x6,x7,x8,x9,x10,x11,x12,x13,x14,x15,x16,x17,x18,x19,x20,x21,x22,x23] [.list (intsZ S)]:=by
  have i1:=idx_Z (l:=S) (i:=9) (by omega) (by omega)
  have i1':idxV (.list (intsZ S)) (.int 9)=some (.int (S.getD 9 0)):=i1
  have e1:binV .fdiv (.int (S.getD 9 0)) (.int 57600)=some (.int ((S.getD 9 0).fdiv 57600)):=b_fdiv (by decide) rfl
  simp only [x_multi,Option.bind_some,List.getElem?_cons_zero,List.getElem?_cons_succ,val_val,e_cst,e_var,e_bin,e_idx,varV_mu,Res.on_some,Option.bind_some,val_val,rd_val,rd_mu,es_nil',es_cons',op2,rd_val,rd_mu,Res.of,toM,List.getElem?_cons_zero,List.getElem?_cons_succ,Res.bind_ok,Option.bind_some,Option.map_some,Res.toS_ok,List.set_cons_zero,List.set_cons_succ,i1',e1,List.length_cons,List.length_nil,fits_le (show 0+1+1≤1000000 by decide),if_true,layAll_nil,layAll_cons,lay,Bool.false_and,Bool.false_eq_true,if_false]
  rfl
theorem l3 {x0 x2 x3 x5 x6 x7 x8 x9 x10 x11 x12 x13 x14 x15 x16 x17 x18 x19 x20 x21 x22 x23:MV} {S:List Int} {z:Int} {W Fs:Nat} (hW:3+z.fmod 6=(W:Int)) (hF:(z.fdiv 6).fmod 25=(Fs:Int)):exS (tabN 8) (.multi [(6,false),(7,false)] (.cons (.bin .add (.cst (.int (3))) (.bin .mod (.var 4) (.cst (.int (6))))) (.cons (.bin .mod (.bin .fdiv (.var 4) (.cst (.int (6)))) (.cst (.int (25)))) .nil))) [x0,.mu 0,x2,x3,.val (.int z),x5,x6,x7,x8,x9,x10,x11,x12,x13,x14,x15,x16,x17,x18,x19,x20,x21,x22,x23] [.list (intsZ S)]=.nx [x0,.mu 0,x2,x3,.val (.int z),x5,.val (.int (W:Nat)),.val (.int (Fs:Nat)),x8,x9,x10,x11,x12,x13,x14,x15,x16,x17,x18,x19,x20,x21,x22,x23] [.list (intsZ S)]:=by
  have e1:binV .mod (.int z) (.int 6)=some (.int (z.fmod 6)):=b_mod (by decide)
  have e2:binV .add (.int 3) (.int (z.fmod 6))=some (.int (W:Nat)):=by rw [b_add,hW]
  have e3:binV .fdiv (.int z) (.int 6)=some (.int (z.fdiv 6)):=b_fdiv (by decide) rfl
  have e4:binV .mod (.int (z.fdiv 6)) (.int 25)=some (.int (Fs:Nat)):=by rw [b_mod (by decide),hF]
  simp only [x_multi,Option.bind_some,List.getElem?_cons_zero,List.getElem?_cons_succ,val_val,e_cst,e_var,e_bin,varV_val,Res.on_some,Option.bind_some,val_val,rd_val,es_nil',es_cons',op2,rd_val,Res.of,toM,List.getElem?_cons_zero,List.getElem?_cons_succ,Res.bind_ok,Option.bind_some,Option.map_some,Res.toS_ok,List.set_cons_zero,List.set_cons_succ,e1,e2,e3,e4,List.length_cons,List.length_nil,fits_le (show 0+1+1≤1000000 by decide),if_true,layAll_nil,layAll_cons,lay,Bool.false_and,Bool.false_eq_true,if_false]
  rfl
theorem l4 {x0 x2 x3 x4 x5 x7 x8 x9 x10 x11 x12 x13 x14 x15 x16 x17 x18 x19 x20 x21 x22 x23:MV} {S:List Int} {W:Nat} {m:Nat→Nat} (hS:S.length=10) (hm:∀ d,d < 9→(tabN 8).fn .list [.int (S.getD d 0),.int (W:Nat)]=some (.int (m d:Nat))):exS (tabN 8) (.assign 8 (.comp (.call .list (.cons (.idx (.var 1) (.var 24)) (.cons (.var 6) .nil))) (.p1 .range (.cst (.int (9)))) .tt)) [x0,.mu 0,x2,x3,x4,x5,.val (.int (W:Nat)),x7,x8,x9,x10,x11,x12,x13,x14,x15,x16,x17,x18,x19,x20,x21,x22,x23] [.list (intsZ S)]=.nx [x0,.mu 0,x2,x3,x4,x5,.val (.int (W:Nat)),x7,.val (.list (intsN ((List.range 9).map m))),x9,x10,x11,x12,x13,x14,x15,x16,x17,x18,x19,x20,x21,x22,x23] [.list (intsZ S)]:=by
  have e:=ev_comp_tt (T:=tabN 8) (elt:=.call .list (.cons (.idx (.var 1) (.var 24)) (.cons (.var 6) .nil))) (it:=.p1 .range (.cst (.int (9)))) (ve:=[x0,.mu 0,x2,x3,x4,x5,.val (.int (W:Nat)),x7,x8,x9,x10,x11,x12,x13,x14,x15,x16,x17,x18,x19,x20,x21,x22,x23]) (σ:=[.list (intsZ S)]) (x:=.range 0 9) (g:=fun (i:Nat)=>AV.int i) (l:=List.range 9) (fun d=>.int (m d:Nat)) rfl rfl (by simp) (fun d hd=>by
    have hd:=List.mem_range.mp hd
    have i1:=idx_Z (l:=S) (i:=d) (by omega) (by omega)
    simp only [List.cons_append,List.nil_append,Option.bind_some,List.getElem?_cons_zero,List.getElem?_cons_succ,val_val,e_var,e_idx,e_call,varV_val,varV_mu,Res.on_some,rd_val,rd_mu,es_nil',es_cons',op2,Res.of,toM,Res.bind_ok,Option.map_some,i1,hm d hd])
  rw [assign_ok e]
  simp only [List.set_cons_zero,List.set_cons_succ,intsN,List.map_map]
  rfl
theorem l5 {x0 x1 x2 x3 x4 x5 x6 x9 x10 x11 x12 x13 x14 x15 x16 x17 x18 x19 x20 x21 x22 x23:MV} {Fs:Nat} {m:Nat→Nat} {σ:List AV} (hF:Fs≤24):exS (tabN 8) (.assign 9 (.comp (.bin .mul (.var 24) (.bin .pow (.cst (.int (2))) (.var 7))) (.var 8) .tt)) [x0,x1,x2,x3,x4,x5,x6,.val (.int (Fs:Nat)),.val (.list (intsN ((List.range 9).map m))),x9,x10,x11,x12,x13,x14,x15,x16,x17,x18,x19,x20,x21,x22,x23] σ=.nx [x0,x1,x2,x3,x4,x5,x6,.val (.int (Fs:Nat)),.val (.list (intsN ((List.range 9).map m))),.val (.list (intsN ((List.range 9).map fun d=>2 ^ Fs * m d))),x10,x11,x12,x13,x14,x15,x16,x17,x18,x19,x20,x21,x22,x23] σ:=by
  have e:=ev_comp_tt (T:=tabN 8) (elt:=.bin .mul (.var 24) (.bin .pow (.cst (.int (2))) (.var 7))) (it:=.var 8) (ve:=[x0,x1,x2,x3,x4,x5,x6,.val (.int (Fs:Nat)),.val (.list (intsN ((List.range 9).map m))),x9,x10,x11,x12,x13,x14,x15,x16,x17,x18,x19,x20,x21,x22,x23]) (σ:=σ) (x:=.list (intsN ((List.range 9).map m))) (g:=fun (i:Nat)=>AV.int i) (l:=(List.range 9).map m) (fun x=>.int ((2 ^ Fs * x:Nat):Int)) (by simp only [e_var,varV_val,Res.on_some,Option.bind_some,List.getElem?_cons_zero,List.getElem?_cons_succ]) rfl (by simp) (fun x hx=>by
    have e1:=pow2_ev Fs (by omega)
    have e2:=mul_ev x (2 ^ Fs) (Nat.pow_lt_pow_right (by omega) (by omega))
    rw [Nat.mul_comm] at e2
    simp only [List.cons_append,List.nil_append,Option.bind_some,List.getElem?_cons_zero,List.getElem?_cons_succ,e_cst,e_var,e_bin,varV_val,Res.on_some,rd_val,op2,Res.of,toM,Res.bind_ok,Option.map_some,e1,e2])
  rw [assign_ok e]
  simp only [List.set_cons_zero,List.set_cons_succ,intsN,List.map_map]
  rfl
theorem l6 {x0 x1 x2 x3 x4 x6 x7 x8 x10 x11 x12 x13 x14 x15 x16 x17 x18 x19 x20 x21 x22 x23:MV} {t:Int} {ns:List Nat} {A:AV} (hN:∀ N∈ns,N < 2 ^ 32) (hl:ns.length≤100):exS (tabN 8) (.assignMut 10 (.p1 .iterb (.call .tape (.cons (.var 9) (.cons (.var 5) .nil))))) [x0,x1,x2,x3,x4,.val (.int t),x6,x7,x8,.val (.list (intsN ns)),x10,x11,x12,x13,x14,x15,x16,x17,x18,x19,x20,x21,x22,x23] [A]=.nx [x0,x1,x2,x3,x4,.val (.int t),x6,x7,x8,.val (.list (intsN ns)),.mu 1,x11,x12,x13,x14,x15,x16,x17,x18,x19,x20,x21,x22,x23] [A,.biter (u8s (tapeOf t ns)) 0]:=by
  have ct:(tabN 8).fn .tape [.list (intsN ns),.int t]=some (.bytes (u8s (tapeOf t ns))):=c_tape 7 t hN hl
  have it:p1V .iterb (.bytes (u8s (tapeOf t ns)))=some (.biter (u8s (tapeOf t ns)) 0):=rfl
  simp only [x_assignMut,SRes.on_some,Option.bind_some,List.getElem?_cons_zero,List.getElem?_cons_succ,val_val,biter_biter,e_var,e_call,e_p1,varV_val,Res.on_some,rd_val,es_nil',es_cons',op1,Res.of,toM,Res.bind_ok,Option.map_some,Res.toS_ok,List.set_cons_zero,List.set_cons_succ,ct,it,canMut,List.length_cons,List.length_nil]
  rfl
theorem l7 {x0 x1 x2 x3 x4 x5 x6 x7 x8 x9 x11 x12 x13 x14 x15 x16 x17 x18 x19 x20 x21 x22 x23:MV} {t:Int} {ns:List Nat} {A:AV} (hN:∀ N∈ns,N < 2 ^ 32) (hl:ns.length=9):∃ q,q≤(u8s (tapeOf t ns)).length∧(tabN 8).pv (u8s (tapeOf t ns)) q=some (none,(u8s (tapeOf t ns)).length+1) ∧
    exS (tabN 8) (.assignMut 11 (.comp (.pvar 10) (.p1 .range (.cst (.int (9)))) .tt)) [x0,x1,x2,x3,x4,x5,x6,x7,x8,x9,.mu 1,x11,x12,x13,x14,x15,x16,x17,x18,x19,x20,x21,x22,x23] [A,.biter (u8s (tapeOf t ns)) 0]=.nx [x0,x1,x2,x3,x4,x5,x6,x7,x8,x9,.mu 1,.mu 2,x12,x13,x14,x15,x16,x17,x18,x19,x20,x21,x22,x23] [A,.biter (u8s (tapeOf t ns)) q,.list (intsN ns)]:=by
  generalize hB:u8s (tapeOf t ns)=B
  have hd:B.drop 0=u8s (encAll t 0 ns++(List.replicate (par t 0) [70]).flatten):=by rw [← hB]; rfl
  obtain ⟨q,h1,h2,h3⟩:=pv_comp (T:=tabN 8) (B:=B) (A:=A) (t:=t) (tail:=(List.replicate (par t 0) [70]).flatten) (f:=compF (tabN 8) (.pvar 10) .tt [x0,x1,x2,x3,x4,x5,x6,x7,x8,x9,.mu 1,x11,x12,x13,x14,x15,x16,x17,x18,x19,x20,x21,x22,x23]) (fun q N use rest hN h1 h15 hu hd=>c_pv 7 hN h1 h15 hu hd) (fun x q N q' hq hp=>by
    simp only [compF,turnR,e_pvar,muAt,biterAt,mu_mu,biter_biter,List.cons_append,List.nil_append,t_tt,Res.on_some,Option.bind_some,List.getElem?_cons_zero,List.getElem?_cons_succ,Res.bind_ok,if_true,hq,hp]
    rfl) ns ((List.range 9).map fun (i:Nat)=>AV.int i) 0 0 [] (by simp [hl]) hN (Nat.zero_le _) hd
  rw [List.nil_append] at h3
  have e:=ev_comp_gen (T:=tabN 8) (elt:=.pvar 10) (c:=.tt) (it:=.p1 .range (.cst (.int (9)))) (ve:=[x0,x1,x2,x3,x4,x5,x6,x7,x8,x9,.mu 1,x11,x12,x13,x14,x15,x16,x17,x18,x19,x20,x21,x22,x23]) (σ:=[A,.biter B 0]) (σ':=[A,.biter B 0]) (x:=.range 0 9) (xs:=(List.range 9).map fun (i:Nat)=>AV.int i) rfl rfl (by simp) h3
  refine ⟨q,h1,?_,?_⟩
  · refine c_stop 7 h1 ?_
    rw [h2]
    rcases tape_tail t with w | w <;> rw [w]
    · exact .inl rfl
    · exact .inr rfl
  · dsimp only [x_assign,x_assignMut,x_unpack,x_multi,x_setitem,x_augitem,x_aug,x_append,x_iff,x_ret,x_brk,SRes.on_some,Option.bind_some,List.getElem?_cons_zero,List.getElem?_cons_succ,val_val,int_int,tup_tup,muAt,listAt,biterAt,mu_mu,list_list,biter_biter]
    rw [e]
    simp only [Res.toS_ok,canMut,List.set_cons_zero,List.set_cons_succ,List.length_cons,List.length_nil]
    rfl
theorem l8 {x0 x1 x2 x3 x4 x5 x6 x7 x8 x9 x12 x13 x14 x15 x16 x17 x18 x19 x20 x21 x22 x23:MV} {B:List UInt8} {q:Nat} {ns:List Nat} {A:AV} (hq:q≤B.length) (hp:(tabN 8).pv B q=some (none,B.length+1)) (hl:ns.length≤100):exS (tabN 8) (.try (.cons (.append 11 (.pvar 10)) .nil) (.cons (.append 11 (.neg (.cst (.int (1))))) .nil)) [x0,x1,x2,x3,x4,x5,x6,x7,x8,x9,.mu 1,.mu 2,x12,x13,x14,x15,x16,x17,x18,x19,x20,x21,x22,x23] [A,.biter B q,.list (intsN ns)]=.nx [x0,x1,x2,x3,x4,x5,x6,x7,x8,x9,.mu 1,.mu 2,x12,x13,x14,x15,x16,x17,x18,x19,x20,x21,x22,x23] [A,.biter B (B.length+1),.list (intsN ns++[AV.int (-1)])]:=by
  have k1:exS (tabN 8) (.append 11 (.pvar 10)) [x0,x1,x2,x3,x4,x5,x6,x7,x8,x9,.mu 1,.mu 2,x12,x13,x14,x15,x16,x17,x18,x19,x20,x21,x22,x23] [A,.biter B q,.list (intsN ns)]=.stop [x0,x1,x2,x3,x4,x5,x6,x7,x8,x9,.mu 1,.mu 2,x12,x13,x14,x15,x16,x17,x18,x19,x20,x21,x22,x23] [A,.biter B (B.length+1),.list (intsN ns)]:=by
    simp only [x_append,SRes.on_some,Option.bind_some,List.getElem?_cons_zero,List.getElem?_cons_succ,muAt,listAt,biterAt,mu_mu,list_list,biter_biter,Res.on_some,e_pvar,hq,if_true,hp]
    rfl
  have k2:exS (tabN 8) (.append 11 (.neg (.cst (.int (1))))) [x0,x1,x2,x3,x4,x5,x6,x7,x8,x9,.mu 1,.mu 2,x12,x13,x14,x15,x16,x17,x18,x19,x20,x21,x22,x23] [A,.biter B (B.length+1),.list (intsN ns)]=.nx [x0,x1,x2,x3,x4,x5,x6,x7,x8,x9,.mu 1,.mu 2,x12,x13,x14,x15,x16,x17,x18,x19,x20,x21,x22,x23] [A,.biter B (B.length+1),.list (intsN ns++[AV.int (-1)])]:=by
    simp only [x_append,SRes.on_some,Option.bind_some,List.getElem?_cons_zero,List.getElem?_cons_succ,val_val,int_int,muAt,listAt,mu_mu,list_list,e_cst,e_neg,rd_val,op1,Res.of,toM,Res.bind_ok,Option.map_some,Res.toS_ok,List.set_cons_zero,List.set_cons_succ,negV]
    rw [if_pos (fits_le (by simp only [intsN,List.length_map]; omega))]
  have k3:exSs (tabN 8) (.cons (.append 11 (.pvar 10)) .nil) [x0,x1,x2,x3,x4,x5,x6,x7,x8,x9,.mu 1,.mu 2,x12,x13,x14,x15,x16,x17,x18,x19,x20,x21,x22,x23] [A,.biter B q,.list (intsN ns)]=.stop [x0,x1,x2,x3,x4,x5,x6,x7,x8,x9,.mu 1,.mu 2,x12,x13,x14,x15,x16,x17,x18,x19,x20,x21,x22,x23] [A,.biter B (B.length+1),.list (intsN ns)]:=by
    first | rw [xs_cons] | rw [xs_nil]
    rw [k1]
    rfl
  rw [x_try]
  rw [k3]
  show exSs (tabN 8) (.cons (.append 11 (.neg (.cst (.int (1))))) .nil) _ _=_
  rw [exSs_nx k2]
  rfl
theorem l9 {x0 x1 x2 x3 x4 x5 x6 x7 x8 x9 x10 x12 x13 x14 x15 x16 x17 x18 x19 x20 x21 x22 x23:MV} {nu:Nat→Nat} {g:Nat→Str} {lst:Nat→List Str} {A B:AV} (hfl:∀ d,d < 9→(tabN 8).fn .flags [.int (nu d:Nat)]=some (.str (g d))) (hsp:∀ d,d < 9→p2V .split (.str (g d)) (.str (Str.ofString ", "))=some (.list ((lst d).map .str))):exS (tabN 8) (.assign 12 (.comp (.p2 .split (.call .flags (.cons (.var 24) .nil)) (.cst (.str (Str.ofString ", ")))) (.cut (.var 11) 9) .tt)) [x0,x1,x2,x3,x4,x5,x6,x7,x8,x9,x10,.mu 2,x12,x13,x14,x15,x16,x17,x18,x19,x20,x21,x22,x23] [A,B,.list (intsN ((List.range 9).map nu)++[AV.int (-1)])]=.nx [x0,x1,x2,x3,x4,x5,x6,x7,x8,x9,x10,.mu 2,.val (listsV lst),x13,x14,x15,x16,x17,x18,x19,x20,x21,x22,x23] [A,B,.list (intsN ((List.range 9).map nu)++[AV.int (-1)])]:=by
  have c:cutV 9 (.list (intsN ((List.range 9).map nu)++[AV.int (-1)]))=some (.list (intsN ((List.range 9).map nu))):=by
    rw [cut_list (by simp [intsN]) (by omega),List.take_left' (by simp [intsN])]
  have it:evE (tabN 8) (.cut (.var 11) 9) [x0,x1,x2,x3,x4,x5,x6,x7,x8,x9,x10,.mu 2,x12,x13,x14,x15,x16,x17,x18,x19,x20,x21,x22,x23] [A,B,.list (intsN ((List.range 9).map nu)++[AV.int (-1)])]=.ok (.val (.list (intsN ((List.range 9).map nu)))) [A,B,.list (intsN ((List.range 9).map nu)++[AV.int (-1)])]:=by
    simp only [Option.bind_some,List.getElem?_cons_zero,List.getElem?_cons_succ,e_var,e_cut,varV_mu,Res.on_some,rd_mu,op1,Res.of,toM,Res.bind_ok,Option.map_some,c]
  have e:=ev_comp_tt (T:=tabN 8) (elt:=.p2 .split (.call .flags (.cons (.var 24) .nil)) (.cst (.str (Str.ofString ", ")))) (g:=fun (d:Nat)=>AV.int (nu d:Nat)) (l:=List.range 9) (fun d=>.list ((lst d).map .str)) it (by show some (intsN ((List.range 9).map nu))=_; simp only [intsN,List.map_map]; rfl) (by simp) (fun d hd=>by
    have hd:=List.mem_range.mp hd
    simp only [List.cons_append,List.nil_append,Option.bind_some,List.getElem?_cons_zero,List.getElem?_cons_succ,val_val,e_cst,e_var,e_call,e_p2,varV_val,Res.on_some,rd_val,es_nil',es_cons',op2v,Res.of,toM,Res.bind_ok,Option.map_some,hfl d hd,hsp d hd])
  rw [assign_ok e]
  simp only [List.set_cons_zero,List.set_cons_succ]
  rfl
theorem t5:binV .pow (.int 2) (.int 33)=some (.int 8589934592):=by kernel_rfl
theorem t6:binV .mul (.int 5) (.int 8589934592)=some (.int ((42949672960:Nat):Int)):=by kernel_rfl
theorem l10 {x0 x1 x2 x3 x4 x5 x8 x9 x10 x11 x12 x13 x14 x15 x16 x17 x18 x19 x20 x21 x22 x23:MV} {W Fs K:Nat} {g:Str} {pal:List Str} {σ:List AV} (hK:binV .mul (.int 5) (.int 8589934592)=some (.int (K:Nat))) (hW:W≤8) (hF:Fs≤24) (hfl:(tabN 8).fn .flags [.int (((2 ^ W - 1) * 2 ^ Fs+K:Nat):Int)]=some (.str g)) (hsp:p2V .split (.str g) (.str (Str.ofString ", "))=some (.list (pal.map .str))):exS (tabN 8) (.assign 13 (.p2 .split (.call .flags (.cons (.bin .add (.bin .mul (.bin .sub (.bin .pow (.cst (.int (2))) (.var 6)) (.cst (.int (1)))) (.bin .pow (.cst (.int (2))) (.var 7))) (.bin .mul (.cst (.int (5))) (.bin .pow (.cst (.int (2))) (.cst (.int (33)))))) .nil)) (.cst (.str (Str.ofString ", "))))) [x0,x1,x2,x3,x4,x5,.val (.int (W:Nat)),.val (.int (Fs:Nat)),x8,x9,x10,x11,x12,x13,x14,x15,x16,x17,x18,x19,x20,x21,x22,x23] σ=.nx [x0,x1,x2,x3,x4,x5,.val (.int (W:Nat)),.val (.int (Fs:Nat)),x8,x9,x10,x11,x12,.val (.list (pal.map .str)),x14,x15,x16,x17,x18,x19,x20,x21,x22,x23] σ:=by
  have e1:=pow2_ev W (by omega)
  have e2:binV .sub (.int ((2 ^ W:Nat):Int)) (.int 1)=some (.int ((2 ^ W - 1:Nat):Int)):=by
    have:=Nat.two_pow_pos W
    rw [b_sub]
    congr 2
    omega
  have e3:=pow2_ev Fs (by omega)
  have e4:=mul_ev (2 ^ W - 1) (2 ^ Fs) (Nat.pow_lt_pow_right (by omega) (by omega))
  have e7:=add_ev ((2 ^ W - 1) * 2 ^ Fs) K
  have t5:=t5
  generalize (8589934592:Int)=P at *
  simp only [x_assign,SRes.on_some,Option.bind_some,List.getElem?_cons_zero,List.getElem?_cons_succ,val_val,e_cst,e_var,e_bin,e_call,e_p2,varV_val,Res.on_some,rd_val,es_nil',es_cons',op2,op2v,Res.of,toM,Res.bind_ok,Option.map_some,Res.toS_ok,List.set_cons_zero,List.set_cons_succ,e1,e2,e3,e4,t5,hK,e7,hfl,hsp]
theorem l11 {x0 x1 x2 x3 x4 x5 x9 x10 x11 x12 x13 x14 x15 x16 x17 x18 x19 x20 x21 x22 x23:MV} {W Fs:Nat} {m:Nat→Nat} {σ:List AV} (hW:W≤8) (hFW:Fs+W≤32):exS (tabN 8) (.assign 14 (.comp (.call .words (.cons (.comp (.bin .add (.var 7) (.var 25)) (.p1 .range (.var 6)) (.cmp .eq (.bin .mod (.bin .fdiv (.var 24) (.bin .pow (.cst (.int (2))) (.var 25))) (.cst (.int (2)))) (.cst (.int (1))))) .nil)) (.bin .add (.var 8) (.list (.cons (.bin .sub (.bin .pow (.cst (.int (2))) (.var 6)) (.cst (.int (1)))) .nil))) .tt)) [x0,x1,x2,x3,x4,x5,.val (.int (W:Nat)),.val (.int (Fs:Nat)),.val (.list (intsN ((List.range 9).map m))),x9,x10,x11,x12,x13,x14,x15,x16,x17,x18,x19,x20,x21,x22,x23] σ=.nx [x0,x1,x2,x3,x4,x5,.val (.int (W:Nat)),.val (.int (Fs:Nat)),.val (.list (intsN ((List.range 9).map m))),x9,x10,x11,x12,x13,.val (.list (((List.range 9).map m++[2 ^ W - 1]).map fun x=>.list ((wl W Fs x).map .str))),x15,x16,x17,x18,x19,x20,x21,x22,x23] σ:=by
  have it:evE (tabN 8) (.bin .add (.var 8) (.list (.cons (.bin .sub (.bin .pow (.cst (.int (2))) (.var 6)) (.cst (.int (1)))) .nil))) [x0,x1,x2,x3,x4,x5,.val (.int (W:Nat)),.val (.int (Fs:Nat)),.val (.list (intsN ((List.range 9).map m))),x9,x10,x11,x12,x13,x14,x15,x16,x17,x18,x19,x20,x21,x22,x23] σ=.ok (.val (.list (intsN ((List.range 9).map m++[2 ^ W - 1])))) σ:=by
    have e1:=pow2_ev W (by omega)
    have e2:binV .sub (.int ((2 ^ W:Nat):Int)) (.int 1)=some (.int ((2 ^ W - 1:Nat):Int)):=by
      have:=Nat.two_pow_pos W
      rw [b_sub]
      congr 2
      omega
    have e3:binV .add (.list (intsN ((List.range 9).map m))) (.list [.int ((2 ^ W - 1:Nat):Int)])=some (.list (intsN ((List.range 9).map m++[2 ^ W - 1]))):=by
      rw [b_addl (by simp [intsN])]
      simp [intsN]
    simp only [Option.bind_some,List.getElem?_cons_zero,List.getElem?_cons_succ,val_val,e_cst,e_var,e_bin,e_list,varV_val,Res.on_some,Option.bind_some,val_val,rd_val,es_nil',es_cons',op2,rd_val,Res.of,toM,List.getElem?_cons_zero,List.getElem?_cons_succ,Res.bind_ok,Option.bind_some,Option.map_some,e1,e2,List.length_cons,List.length_nil,fits_le (show 0+1≤1000000 by decide),if_true,e3]
  have e:=ev_comp_tt (T:=tabN 8) (elt:=.call .words (.cons (.comp (.bin .add (.var 7) (.var 25)) (.p1 .range (.var 6)) (.cmp .eq (.bin .mod (.bin .fdiv (.var 24) (.bin .pow (.cst (.int (2))) (.var 25))) (.cst (.int (2)))) (.cst (.int (1))))) .nil)) (g:=fun (i:Nat)=>AV.int i) (l:=(List.range 9).map m++[2 ^ W - 1]) (fun x=>.list ((wl W Fs x).map .str)) it rfl (by simp) (fun x hx=>by
    have inner:=ev_comp (T:=tabN 8) (elt:=.bin .add (.var 7) (.var 25)) (it:=.p1 .range (.var 6)) (c:=.cmp .eq (.bin .mod (.bin .fdiv (.var 24) (.bin .pow (.cst (.int (2))) (.var 25))) (.cst (.int (2)))) (.cst (.int (1)))) (ve:=[x0,x1,x2,x3,x4,x5,.val (.int (W:Nat)),.val (.int (Fs:Nat)),.val (.list (intsN ((List.range 9).map m))),x9,x10,x11,x12,x13,x14,x15,x16,x17,x18,x19,x20,x21,x22,x23]++[.val (.int (x:Nat))]) (σ:=σ) (x:=.range 0 (W:Nat)) (g:=fun (i:Nat)=>AV.int i) (l:=List.range W) (fun j=>x / 2 ^ j % 2 == 1) (fun j=>.int ((Fs+j:Nat):Int)) (by
      have e1:p1V .range (.int (W:Nat))=some (.range 0 (W:Nat)):=p_range (small_nat (by omega))
      simp only [List.cons_append,List.nil_append,Option.bind_some,List.getElem?_cons_zero,List.getElem?_cons_succ,e_var,e_p1,varV_val,Res.on_some,rd_val,op1,Res.of,toM,Res.bind_ok,Option.map_some,e1]) (elems_range (by omega)) (by rw [List.length_range]; omega) (fun j hj=>by
      have hj:=List.mem_range.mp hj
      have e1:=pow2_ev j (by omega)
      have e2:binV .fdiv (.int (x:Nat)) (.int ((2 ^ j:Nat):Int))=some (.int ((x / 2 ^ j:Nat):Int)):=by
        have:=Nat.two_pow_pos j
        rw [b_fdiv (by omega) (small_nat (Nat.pow_lt_pow_right (by omega) (by omega))),fdiv_nat]
      have e3:=mod_ev (x / 2 ^ j) 2 (by omega)
      simp only [Int.cast_ofNat_Int] at e3
      have e4:cmpV .eq (.int ((x / 2 ^ j % 2:Nat):Int)) (.int 1)=some (x / 2 ^ j % 2 == 1):=eq_ev (x / 2 ^ j % 2) 1
      simp only [List.cons_append,List.nil_append,Option.bind_some,List.getElem?_cons_zero,List.getElem?_cons_succ,e_cst,e_var,e_bin,varV_val,Res.on_some,rd_val,t_cmp,op2,Res.of,toM,Res.bind_ok,Option.map_some,e1,e2,e3,e4]) (fun j hj _=>by
      have e1:=add_ev Fs j
      simp only [List.cons_append,List.nil_append,Option.bind_some,List.getElem?_cons_zero,List.getElem?_cons_succ,e_var,e_bin,varV_val,Res.on_some,rd_val,op2,Res.of,toM,Res.bind_ok,Option.map_some,e1])
    rw [div_bits] at inner
    have cw:(tabN 8).fn .words [.list ((((List.range W).filter x.testBit).map (Fs+·)).map fun (b:Nat)=>AV.int b)]=some (.list ((((List.range W).filter x.testBit).map (Fs+·)).map fun b=>.str (wordS b))):=c_words 7 (fun b hb=>wl_lt hFW hb) (by
      rw [List.length_map]
      exact Nat.le_trans (List.length_filter_le _ _) (by rw [List.length_range]; omega))
    rw [List.map_map] at cw
    have ew:(((List.range W).filter x.testBit).map (Fs+·)).map (fun b=>AV.str (wordS b))=(wl W Fs x).map .str:=by
      unfold wl
      simp only [List.map_map]
      rfl
    rw [ew] at cw
    generalize (ME.comp (.bin .add (.var 7) (.var 25)) (.p1 .range (.var 6)) (.cmp .eq (.bin .mod (.bin .fdiv (.var 24) (.bin .pow (.cst (.int (2))) (.var 25))) (.cst (.int (2)))) (.cst (.int (1)))))=me at inner ⊢
    dsimp only [e_cst,e_var,e_bin,e_neg,e_cmp,e_ite,e_list,e_tup,e_dict0,e_dict1,e_idx,e_cut,e_call,e_p1,e_view,e_p2,e_p3,varV_val,varV_mu,Res.on_some,Option.bind_some,val_val,int_int,rd_val,rd_mu,es_nil',es_cons']
    rw [inner,Res.bind_ok]
    simp only [Res.bind_ok,Res.on_some,val_val]
    rw [show ((fun (b:Nat)=>AV.int b) ∘ fun x=>Fs+x)=(fun (j:Nat)=>AV.int ((Fs+j:Nat):Int)) from rfl] at cw
    rw [cw]
    rfl)
  rw [assign_ok e]
  simp only [List.set_cons_zero,List.set_cons_succ]
end Mine
set_option linter.unusedSimpArgs false
namespace Mine
open PySem PyProof.Rows PySem.Builtin.Str
theorem ne_same {l:List AV} (h:avEqN 6 (.list l) (.list l)=some true):cmpV .ne (.list l) (.list l)=some false:=congrArg (Option.map (!·)) h
theorem strs_same (n:Nat) (l:List Str):avEqN (n+1) (.list (l.map .str)) (.list (l.map .str))=some true:=avEqN_list fun a _=>avEqN_str n a
theorem l12 {x0 x1 x2 x3 x4 x5 x6 x7 x8 x10 x15 x16 x17 x18 x19 x20 x21 x22 x23:MV} {ns:List Nat} {W Fs:Nat} {m:Nat→Nat} {A B:AV} (hl:ns.length≤100) (hw:(wl W Fs (2 ^ W - 1)).length≤100):exS (tabN 8) (.iff (.or (.cmp .ne (.var 11) (.bin .add (.var 9) (.list (.cons (.neg (.cst (.int (1)))) .nil)))) (.or (.cmp .ne (.var 12) (.cut (.var 14) 9)) (.cmp .ne (.var 13) (.bin .add (.idx (.var 14) (.cst (.int (9)))) (.list (.cons (.bin .add (.cst (.str (Str.ofString "0xa"))) (.bin .mul (.cst (.str (Str.ofString "0"))) (.cst (.int (8))))) .nil)))))) (.cons (.ret (.cst (.bool false))) .nil) .nil) [x0,x1,x2,x3,x4,x5,x6,x7,x8,.val (.list (intsN ns)),x10,.mu 2,.val (listsV fun d=>wl W Fs (m d)),.val (.list ((wl W Fs (2 ^ W - 1)++[Str.ofString "0xa00000000"]).map .str)),.val (.list (((List.range 9).map m++[2 ^ W - 1]).map fun x=>.list ((wl W Fs x).map .str))),x15,x16,x17,x18,x19,x20,x21,x22,x23] [A,B,.list (intsN ns++[AV.int (-1)])]=.nx [x0,x1,x2,x3,x4,x5,x6,x7,x8,.val (.list (intsN ns)),x10,.mu 2,.val (listsV fun d=>wl W Fs (m d)),.val (.list ((wl W Fs (2 ^ W - 1)++[Str.ofString "0xa00000000"]).map .str)),.val (.list (((List.range 9).map m++[2 ^ W - 1]).map fun x=>.list ((wl W Fs x).map .str))),x15,x16,x17,x18,x19,x20,x21,x22,x23] [A,B,.list (intsN ns++[AV.int (-1)])]:=by
  refine iff_no ?_
  have q1:binV .add (.list (intsN ns)) (.list [.int (-1)])=some (.list (intsN ns++[AV.int (-1)])):=b_addl (by simp only [intsN,List.length_append,List.length_map,List.length_cons,List.length_nil]; omega)
  have n1:cmpV .ne (.list (intsN ns++[AV.int (-1)])) (.list (intsN ns++[AV.int (-1)]))=some false:=by
    have:intsN ns++[AV.int (-1)]=((ns.map fun (n:Nat)=>(n:Int))++[-1]).map .int:=by simp [intsN]
    rw [this]
    exact ne_same (avEqN_list fun a _=>avEqN_int 5 a)
  have c1:cutV 9 (.list (((List.range 9).map m++[2 ^ W - 1]).map fun x=>.list ((wl W Fs x).map .str)))=some (listsV fun d=>wl W Fs (m d)):=by
    rw [cut_list (by simp) (by omega),List.map_append,List.take_left' (by simp),List.map_map]
    rfl
  have n2:cmpV .ne (listsV fun d=>wl W Fs (m d)) (listsV fun d=>wl W Fs (m d))=some false:=ne_same (avEqN_list fun a _=>strs_same 4 _)
  have i1:idxV (.list (((List.range 9).map m++[2 ^ W - 1]).map fun x=>.list ((wl W Fs x).map .str))) (.int 9)=some (.list ((wl W Fs (2 ^ W - 1)).map .str)):=by
    have:=idx_list (xs:=((List.range 9).map m++[2 ^ W - 1]).map fun x=>AV.list ((wl W Fs x).map .str)) (i:=9) (v:=.list ((wl W Fs (2 ^ W - 1)).map .str)) (by simp) (by rw [List.getElem?_map,List.getElem?_append_right (by simp)]; simp)
    exact this
  have a1:evE (tabN 8) (.bin .add (.cst (.str (Str.ofString "0xa"))) (.bin .mul (.cst (.str (Str.ofString "0"))) (.cst (.int (8))))) [x0,x1,x2,x3,x4,x5,x6,x7,x8,.val (.list (intsN ns)),x10,.mu 2,.val (listsV fun d=>wl W Fs (m d)),.val (.list ((wl W Fs (2 ^ W - 1)++[Str.ofString "0xa00000000"]).map .str)),.val (.list (((List.range 9).map m++[2 ^ W - 1]).map fun x=>.list ((wl W Fs x).map .str))),x15,x16,x17,x18,x19,x20,x21,x22,x23] [A,B,.list (intsN ns++[AV.int (-1)])]=.ok (.val (.str (Str.ofString "0xa00000000"))) [A,B,.list (intsN ns++[AV.int (-1)])]:=by kernel_rfl
  have q2:binV .add (.list ((wl W Fs (2 ^ W - 1)).map .str)) (.list [.str (Str.ofString "0xa00000000")])=some (.list ((wl W Fs (2 ^ W - 1)++[Str.ofString "0xa00000000"]).map .str)):=by
    rw [b_addl (by simp only [List.length_append,List.length_map,List.length_cons,List.length_nil]; omega)]
    simp
  have n3:cmpV .ne (.list ((wl W Fs (2 ^ W - 1)++[Str.ofString "0xa00000000"]).map .str)) (.list ((wl W Fs (2 ^ W - 1)++[Str.ofString "0xa00000000"]).map .str))=some false:=ne_same (strs_same 5 _)
  generalize (ME.bin .add (.cst (.str (Str.ofString "0xa"))) (.bin .mul (.cst (.str (Str.ofString "0"))) (.cst (.int (8)))))=me at a1 ⊢
  simp only [Option.bind_some,List.getElem?_cons_zero,List.getElem?_cons_succ,val_val,int_int,e_cst,e_var,e_bin,e_neg,e_list,e_idx,e_cut,varV_val,varV_mu,Res.on_some,Option.bind_some,val_val,int_int,rd_val,rd_mu,es_nil',es_cons',t_cmp,t_or,op1,op2,rd_val,rd_mu,Res.of,toM,List.getElem?_cons_zero,List.getElem?_cons_succ,Res.bind_ok,Option.bind_some,Option.map_some,negV,q1,n1,c1,n2,i1,a1,q2,n3,List.length_cons,List.length_nil,fits_le (show 0+1≤1000000 by decide),if_true,Bool.false_eq_true,if_false]
theorem l13 {x0 x1 x2 x3 x5 x6 x7 x8 x9 x10 x11 x12 x13 x14 x15 x16 x17 x18 x19 x20 x21 x22 x23:MV} {z:Int} {u v c:Nat} {σ:List AV} (hu:1+(z.fdiv 150).fmod 2=(u:Int)) (hv:1+(z.fdiv 300).fmod 2=(v:Int)) (hc:(z.fdiv 600).fmod 3=(c:Int)):exS (tabN 8) (.multi [(15,false),(16,false),(17,false)] (.cons (.bin .add (.cst (.int (1))) (.bin .mod (.bin .fdiv (.var 4) (.cst (.int (150)))) (.cst (.int (2))))) (.cons (.bin .add (.cst (.int (1))) (.bin .mod (.bin .fdiv (.var 4) (.cst (.int (300)))) (.cst (.int (2))))) (.cons (.bin .mod (.bin .fdiv (.var 4) (.cst (.int (600)))) (.cst (.int (3)))) .nil)))) [x0,x1,x2,x3,.val (.int z),x5,x6,x7,x8,x9,x10,x11,x12,x13,x14,x15,x16,x17,x18,x19,x20,x21,x22,x23] σ=.nx [x0,x1,x2,x3,.val (.int z),x5,x6,x7,x8,x9,x10,x11,x12,x13,x14,.val (.int (u:Nat)),.val (.int (v:Nat)),.val (.int (c:Nat)),x18,x19,x20,x21,x22,x23] σ:=by
  have e1:binV .fdiv (.int z) (.int 150)=some (.int (z.fdiv 150)):=b_fdiv (by decide) rfl
  have e2:binV .mod (.int (z.fdiv 150)) (.int 2)=some (.int ((z.fdiv 150).fmod 2)):=b_mod (by decide)
  have e3:binV .add (.int 1) (.int ((z.fdiv 150).fmod 2))=some (.int (u:Nat)):=by rw [b_add,hu]
  have e4:binV .fdiv (.int z) (.int 300)=some (.int (z.fdiv 300)):=b_fdiv (by decide) rfl
  have e5:binV .mod (.int (z.fdiv 300)) (.int 2)=some (.int ((z.fdiv 300).fmod 2)):=b_mod (by decide)
  have e6:binV .add (.int 1) (.int ((z.fdiv 300).fmod 2))=some (.int (v:Nat)):=by rw [b_add,hv]
  have e7:binV .fdiv (.int z) (.int 600)=some (.int (z.fdiv 600)):=b_fdiv (by decide) rfl
  have e8:binV .mod (.int (z.fdiv 600)) (.int 3)=some (.int (c:Nat)):=by rw [b_mod (by decide),hc]
  simp only [x_multi,Option.bind_some,List.getElem?_cons_zero,List.getElem?_cons_succ,val_val,e_cst,e_var,e_bin,varV_val,Res.on_some,Option.bind_some,val_val,rd_val,es_nil',es_cons',op2,rd_val,Res.of,toM,List.getElem?_cons_zero,List.getElem?_cons_succ,Res.bind_ok,Option.bind_some,Option.map_some,Res.toS_ok,List.set_cons_zero,List.set_cons_succ,e1,e2,e3,e4,e5,e6,e7,e8,List.length_cons,List.length_nil,fits_le (show 0+1+1+1≤1000000 by decide),if_true,layAll_nil,layAll_cons,lay,Bool.false_and,Bool.false_eq_true,if_false]
  rfl
theorem l14 {x0 x1 x2 x3 x4 x6 x7 x8 x9 x10 x11 x12 x13 x14 x18 x19 x20 x21 x22 x23:MV} {t:Int} {u v c:Nat} {σ:List AV} (hu:u=1∨u=2) (hv:v=1∨v=2) (hc:c < 3):exS (tabN 8) (.assign 18 (.comp (.call .rank (.cons (.bin .add (.bin .mul (.var 15) (.bin .fdiv (.var 24) (.cst (.int (3))))) (.var 17)) (.cons (.bin .mul (.var 16) (.bin .mod (.var 24) (.cst (.int (3))))) (.cons (.var 5) .nil)))) (.p1 .range (.cst (.int (9)))) .tt)) [x0,x1,x2,x3,x4,.val (.int t),x6,x7,x8,x9,x10,x11,x12,x13,x14,.val (.int (u:Nat)),.val (.int (v:Nat)),.val (.int (c:Nat)),x18,x19,x20,x21,x22,x23] σ=.nx [x0,x1,x2,x3,x4,.val (.int t),x6,x7,x8,x9,x10,x11,x12,x13,x14,.val (.int (u:Nat)),.val (.int (v:Nat)),.val (.int (c:Nat)),.val (.list ((List.range 9).map fun d=>.list [.int (rkOf u v c d:Nat),.int (1+(t.fdiv 2).fmod 4),.int (1+(t.fdiv 8).fmod 4)])),x19,x20,x21,x22,x23] σ:=by
  have e:=ev_comp_tt (T:=tabN 8) (elt:=.call .rank (.cons (.bin .add (.bin .mul (.var 15) (.bin .fdiv (.var 24) (.cst (.int (3))))) (.var 17)) (.cons (.bin .mul (.var 16) (.bin .mod (.var 24) (.cst (.int (3))))) (.cons (.var 5) .nil)))) (it:=.p1 .range (.cst (.int (9)))) (ve:=[x0,x1,x2,x3,x4,.val (.int t),x6,x7,x8,x9,x10,x11,x12,x13,x14,.val (.int (u:Nat)),.val (.int (v:Nat)),.val (.int (c:Nat)),x18,x19,x20,x21,x22,x23]) (σ:=σ) (x:=.range 0 9) (g:=fun (i:Nat)=>AV.int i) (l:=List.range 9) (fun d=>.list [.int (rkOf u v c d:Nat),.int (1+(t.fdiv 2).fmod 4),.int (1+(t.fdiv 8).fmod 4)]) rfl rfl (by simp) (fun d hd=>by
    have hd:=List.mem_range.mp hd
    have e1:=div_ev d 3 (by omega) (by omega)
    have e2:=mod_ev d 3 (by omega)
    simp only [Int.cast_ofNat_Int] at e1 e2
    have e3:=mul_ev u (d / 3) (by omega)
    have e4:=add_ev (u * (d / 3)) c
    have e5:=mul_ev v (d % 3) (by omega)
    have hr:u * (d / 3)+c < 7:=by
      rcases hu with rfl | rfl <;> omega
    have hcol:v * (d % 3)=0∨v * (d % 3)=1∨v * (d % 3)=2∨v * (d % 3)=4:=by
      have:d % 3=0∨d % 3=1∨d % 3=2:=by omega
      rcases hv with rfl | rfl <;> rcases this with h | h | h <;> rw [h] <;> simp
    have cr:(tabN 8).fn .rank [.int ((u * (d / 3)+c:Nat):Int),.int ((v * (d % 3):Nat):Int),.int t]=some (.list [.int (((u * (d / 3)+c+v * (d % 3)) % 3:Nat):Int),.int (1+(t.fdiv 2).fmod 4),.int (1+(t.fdiv 8).fmod 4)]):=c_rank 5 hr hcol t
    rw [show u * (d / 3)+c+v * (d % 3)=u * (d / 3)+v * (d % 3)+c by omega] at cr
    simp only [List.cons_append,List.nil_append,Option.bind_some,List.getElem?_cons_zero,List.getElem?_cons_succ,val_val,e_cst,e_var,e_bin,e_call,varV_val,Res.on_some,rd_val,es_nil',es_cons',op2,Res.of,toM,Res.bind_ok,Option.map_some,e1,e2,e3,e4,e5,cr]
    rfl)
  rw [assign_ok e]
  simp only [List.set_cons_zero,List.set_cons_succ]
theorem l15 {x0 x1 x2 x3 x4 x5 x6 x7 x8 x9 x10 x11 x12 x13 x14 x18 x19 x20 x21 x22 x23:MV} {u v c:Nat} {σ:List AV} :exS (tabN 8) (.assign 19 (.comp (.bin .mod (.bin .add (.bin .add (.bin .mul (.var 15) (.bin .fdiv (.var 24) (.cst (.int (3))))) (.bin .mul (.var 16) (.bin .mod (.var 24) (.cst (.int (3)))))) (.var 17)) (.cst (.int (3)))) (.p1 .range (.cst (.int (9)))) .tt)) [x0,x1,x2,x3,x4,x5,x6,x7,x8,x9,x10,x11,x12,x13,x14,.val (.int (u:Nat)),.val (.int (v:Nat)),.val (.int (c:Nat)),x18,x19,x20,x21,x22,x23] σ=.nx [x0,x1,x2,x3,x4,x5,x6,x7,x8,x9,x10,x11,x12,x13,x14,.val (.int (u:Nat)),.val (.int (v:Nat)),.val (.int (c:Nat)),x18,.val (ranksV (rkOf u v c)),x20,x21,x22,x23] σ:=by
  have e:=ev_comp_tt (T:=tabN 8) (elt:=.bin .mod (.bin .add (.bin .add (.bin .mul (.var 15) (.bin .fdiv (.var 24) (.cst (.int (3))))) (.bin .mul (.var 16) (.bin .mod (.var 24) (.cst (.int (3)))))) (.var 17)) (.cst (.int (3)))) (it:=.p1 .range (.cst (.int (9)))) (ve:=[x0,x1,x2,x3,x4,x5,x6,x7,x8,x9,x10,x11,x12,x13,x14,.val (.int (u:Nat)),.val (.int (v:Nat)),.val (.int (c:Nat)),x18,x19,x20,x21,x22,x23]) (σ:=σ) (x:=.range 0 9) (g:=fun (i:Nat)=>AV.int i) (l:=List.range 9) (fun d=>.int (rkOf u v c d:Nat)) rfl rfl (by simp) (fun d hd=>by
    have hd:=List.mem_range.mp hd
    have e1:=div_ev d 3 (by omega) (by omega)
    have e2:=mod_ev d 3 (by omega)
    simp only [Int.cast_ofNat_Int] at e1 e2
    have e3:=mul_ev u (d / 3) (by omega)
    have e5:=mul_ev v (d % 3) (by omega)
    have e6:=add_ev (u * (d / 3)) (v * (d % 3))
    have e7:=add_ev (u * (d / 3)+v * (d % 3)) c
    have e8:=mod_ev (u * (d / 3)+v * (d % 3)+c) 3 (by omega)
    simp only [Int.cast_ofNat_Int] at e8
    simp only [List.cons_append,List.nil_append,Option.bind_some,List.getElem?_cons_zero,List.getElem?_cons_succ,e_cst,e_var,e_bin,varV_val,Res.on_some,rd_val,op2,Res.of,toM,Res.bind_ok,Option.map_some,e1,e2,e3,e5,e6,e7,e8]
    rfl)
  rw [assign_ok e]
  simp only [List.set_cons_zero,List.set_cons_succ,ranksV,intsN,List.map_map]
  rfl
theorem l16 {x0 x1 x2 x3 x4 x6 x7 x8 x9 x10 x11 x12 x13 x14 x15 x16 x17 x20 x21 x22 x23:MV} {t:Int} {u v c:Nat} {σ:List AV} :exS (tabN 8) (.iff (.cmp .ne (.var 18) (.comp (.list (.cons (.var 24) (.cons (.bin .add (.cst (.int (1))) (.bin .mod (.bin .fdiv (.var 5) (.cst (.int (2)))) (.cst (.int (4))))) (.cons (.bin .add (.cst (.int (1))) (.bin .mod (.bin .fdiv (.var 5) (.cst (.int (8)))) (.cst (.int (4))))) .nil)))) (.var 19) .tt)) (.cons (.ret (.cst (.bool false))) .nil) .nil) [x0,x1,x2,x3,x4,.val (.int t),x6,x7,x8,x9,x10,x11,x12,x13,x14,x15,x16,x17,.val (.list ((List.range 9).map fun d=>.list [.int (rkOf u v c d:Nat),.int (1+(t.fdiv 2).fmod 4),.int (1+(t.fdiv 8).fmod 4)])),.val (ranksV (rkOf u v c)),x20,x21,x22,x23] σ=.nx [x0,x1,x2,x3,x4,.val (.int t),x6,x7,x8,x9,x10,x11,x12,x13,x14,x15,x16,x17,.val (.list ((List.range 9).map fun d=>.list [.int (rkOf u v c d:Nat),.int (1+(t.fdiv 2).fmod 4),.int (1+(t.fdiv 8).fmod 4)])),.val (ranksV (rkOf u v c)),x20,x21,x22,x23] σ:=by
  refine iff_no ?_
  have e:=ev_comp_tt (T:=tabN 8) (elt:=.list (.cons (.var 24) (.cons (.bin .add (.cst (.int (1))) (.bin .mod (.bin .fdiv (.var 5) (.cst (.int (2)))) (.cst (.int (4))))) (.cons (.bin .add (.cst (.int (1))) (.bin .mod (.bin .fdiv (.var 5) (.cst (.int (8)))) (.cst (.int (4))))) .nil)))) (it:=.var 19) (ve:=[x0,x1,x2,x3,x4,.val (.int t),x6,x7,x8,x9,x10,x11,x12,x13,x14,x15,x16,x17,.val (.list ((List.range 9).map fun d=>.list [.int (rkOf u v c d:Nat),.int (1+(t.fdiv 2).fmod 4),.int (1+(t.fdiv 8).fmod 4)])),.val (ranksV (rkOf u v c)),x20,x21,x22,x23]) (σ:=σ) (x:=ranksV (rkOf u v c)) (g:=fun (d:Nat)=>AV.int (rkOf u v c d:Nat)) (l:=List.range 9) (fun d=>.list [.int (rkOf u v c d:Nat),.int (1+(t.fdiv 2).fmod 4),.int (1+(t.fdiv 8).fmod 4)]) (by simp only [e_var,varV_val,Res.on_some,Option.bind_some,List.getElem?_cons_zero,List.getElem?_cons_succ]) (by show some (intsN ((List.range 9).map (rkOf u v c)))=_; simp only [intsN,List.map_map]; rfl) (by simp) (fun d hd=>by
    have e1:binV .fdiv (.int t) (.int 2)=some (.int (t.fdiv 2)):=b_fdiv (by decide) rfl
    have e2:binV .mod (.int (t.fdiv 2)) (.int 4)=some (.int ((t.fdiv 2).fmod 4)):=b_mod (by decide)
    have e3:binV .fdiv (.int t) (.int 8)=some (.int (t.fdiv 8)):=b_fdiv (by decide) rfl
    have e4:binV .mod (.int (t.fdiv 8)) (.int 4)=some (.int ((t.fdiv 8).fmod 4)):=b_mod (by decide)
    simp only [List.cons_append,List.nil_append,Option.bind_some,List.getElem?_cons_zero,List.getElem?_cons_succ,val_val,e_cst,e_var,e_bin,e_list,varV_val,Res.on_some,Option.bind_some,val_val,rd_val,es_nil',es_cons',op2,rd_val,Res.of,toM,List.getElem?_cons_zero,List.getElem?_cons_succ,Res.bind_ok,Option.bind_some,Option.map_some,e1,e2,e3,e4,b_add,List.length_cons,List.length_nil,fits_le (show 0+1+1+1≤1000000 by decide),if_true])
  have n1:cmpV .ne (.list ((List.range 9).map fun d=>.list [.int (rkOf u v c d:Nat),.int (1+(t.fdiv 2).fmod 4),.int (1+(t.fdiv 8).fmod 4)])) (.list ((List.range 9).map fun d=>.list [.int (rkOf u v c d:Nat),.int (1+(t.fdiv 2).fmod 4),.int (1+(t.fdiv 8).fmod 4)]))=some false:=ne_same (avEqN_list fun d _=>by
    show avEqN 5 (.list (([(rkOf u v c d:Int),1+(t.fdiv 2).fmod 4,1+(t.fdiv 8).fmod 4]:List Int).map .int)) (.list (([(rkOf u v c d:Int),1+(t.fdiv 2).fmod 4,1+(t.fdiv 8).fmod 4]:List Int).map .int))=_
    exact avEqN_list fun a _=>avEqN_int 4 a)
  generalize (ME.comp (.list (.cons (.var 24) (.cons (.bin .add (.cst (.int (1))) (.bin .mod (.bin .fdiv (.var 5) (.cst (.int (2)))) (.cst (.int (4))))) (.cons (.bin .add (.cst (.int (1))) (.bin .mod (.bin .fdiv (.var 5) (.cst (.int (8)))) (.cst (.int (4))))) .nil)))) (.var 19) .tt)=me at e ⊢
  simp only [Option.bind_some,List.getElem?_cons_zero,List.getElem?_cons_succ,e_var,varV_val,Res.on_some,rd_val,t_cmp,op2,Res.of,Res.bind_ok,e,n1]
theorem l17 {x0 x1 x2 x3 x5 x7 x8 x9 x10 x11 x12 x14 x15 x16 x17 x18 x19 x20 x21 x22 x23:MV} {z:Int} {W Fs A s:Nat} {σ:List AV} (h3:3≤W) (h8:W≤8) (hA:(z.fdiv 1800).fmod (W:Nat)=(A:Nat)) (hs:(if ((z.fdiv 14400).fmod 2 == 0)=true then (1:Int) else ((W - 1:Nat):Int))=(s:Nat)) (hs2:s≤8):exS (tabN 8) (.assign 20 (.comp (.idx (.var 13) (.bin .mod (.bin .add (.bin .fdiv (.var 4) (.cst (.int (1800)))) (.bin .mul (.ite (.cmp .eq (.bin .mod (.bin .fdiv (.var 4) (.cst (.int (14400)))) (.cst (.int (2)))) (.cst (.int (0)))) (.cst (.int (1))) (.bin .sub (.var 6) (.cst (.int (1))))) (.var 24))) (.var 6))) (.p1 .range (.var 6)) .tt)) [x0,x1,x2,x3,.val (.int z),x5,.val (.int (W:Nat)),x7,x8,x9,x10,x11,x12,.val (.list ((wl W Fs (2 ^ W - 1)++[Str.ofString "0xa00000000"]).map .str)),x14,x15,x16,x17,x18,x19,x20,x21,x22,x23] σ=.nx [x0,x1,x2,x3,.val (.int z),x5,.val (.int (W:Nat)),x7,x8,x9,x10,x11,x12,.val (.list ((wl W Fs (2 ^ W - 1)++[Str.ofString "0xa00000000"]).map .str)),x14,x15,x16,x17,x18,x19,.val (.list (((List.range W).map fun k=>wordS (Fs+ordIdx W A s k)).map .str)),x21,x22,x23] σ:=by
  have fb:wl W Fs (2 ^ W - 1)=(List.range W).map fun j=>wordS (Fs+j):=by
    unfold wl
    rw [full_bits,List.map_map]
    rfl
  have e:=ev_comp_tt (T:=tabN 8) (elt:=.idx (.var 13) (.bin .mod (.bin .add (.bin .fdiv (.var 4) (.cst (.int (1800)))) (.bin .mul (.ite (.cmp .eq (.bin .mod (.bin .fdiv (.var 4) (.cst (.int (14400)))) (.cst (.int (2)))) (.cst (.int (0)))) (.cst (.int (1))) (.bin .sub (.var 6) (.cst (.int (1))))) (.var 24))) (.var 6))) (it:=.p1 .range (.var 6)) (ve:=[x0,x1,x2,x3,.val (.int z),x5,.val (.int (W:Nat)),x7,x8,x9,x10,x11,x12,.val (.list ((wl W Fs (2 ^ W - 1)++[Str.ofString "0xa00000000"]).map .str)),x14,x15,x16,x17,x18,x19,x20,x21,x22,x23]) (σ:=σ) (x:=.range 0 (W:Nat)) (g:=fun (i:Nat)=>AV.int i) (l:=List.range W) (fun k=>.str (wordS (Fs+ordIdx W A s k))) (by
    have e1:p1V .range (.int (W:Nat))=some (.range 0 (W:Nat)):=p_range (small_nat (by omega))
    simp only [Option.bind_some,List.getElem?_cons_zero,List.getElem?_cons_succ,e_var,e_p1,varV_val,Res.on_some,rd_val,op1,Res.of,toM,Res.bind_ok,Option.map_some,e1]) (elems_range (by omega)) (by rw [List.length_range]; omega) (fun k hk=>by
    have hk:=List.mem_range.mp hk
    have e1:binV .fdiv (.int z) (.int 14400)=some (.int (z.fdiv 14400)):=b_fdiv (by decide) rfl
    have e2:binV .mod (.int (z.fdiv 14400)) (.int 2)=some (.int ((z.fdiv 14400).fmod 2)):=b_mod (by decide)
    have e3:cmpV .eq (.int ((z.fdiv 14400).fmod 2)) (.int 0)=some ((z.fdiv 14400).fmod 2 == 0):=rfl
    have e4:binV .sub (.int (W:Nat)) (.int 1)=some (.int ((W - 1:Nat):Int)):=by
      rw [b_sub]
      exact congrArg (fun z=>some (AV.int z)) (by omega)
    have ite:evE (tabN 8) (.ite (.cmp .eq (.bin .mod (.bin .fdiv (.var 4) (.cst (.int (14400)))) (.cst (.int (2)))) (.cst (.int (0)))) (.cst (.int (1))) (.bin .sub (.var 6) (.cst (.int (1))))) ([x0,x1,x2,x3,.val (.int z),x5,.val (.int (W:Nat)),x7,x8,x9,x10,x11,x12,.val (.list ((wl W Fs (2 ^ W - 1)++[Str.ofString "0xa00000000"]).map .str)),x14,x15,x16,x17,x18,x19,x20,x21,x22,x23]++[.val (.int (k:Nat))]) σ=.ok (.val (.int (s:Nat))) σ:=by
      simp only [List.cons_append,List.nil_append,Option.bind_some,List.getElem?_cons_zero,List.getElem?_cons_succ,e_cst,e_var,e_bin,e_ite,varV_val,Res.on_some,rd_val,t_cmp,op2,Res.of,toM,Res.bind_ok,Option.map_some,e1,e2,e3,e4]
      rw [← hs]
      cases ((z.fdiv 14400).fmod 2 == 0) <;> rfl
    have e5:binV .fdiv (.int z) (.int 1800)=some (.int (z.fdiv 1800)):=b_fdiv (by decide) rfl
    have e6:=mul_ev s k (by omega)
    have e7:binV .add (.int (z.fdiv 1800)) (.int ((s * k:Nat):Int))=some (.int (z.fdiv 1800+((s * k:Nat):Int))):=b_add _ _
    have e8:binV .mod (.int (z.fdiv 1800+((s * k:Nat):Int))) (.int (W:Nat))=some (.int ((ordIdx W A s k:Nat):Int)):=by
      rw [b_mod (by omega)]
      refine congrArg (fun z=>some (AV.int z)) ?_
      unfold ordIdx
      rw [Int.fmod_eq_emod_of_nonneg _ (by omega)] at hA ⊢
      rw [Int.add_emod,hA]
      have:((A:Int)+((s * k:Nat):Int) % (W:Int)) % (W:Int)=((A:Int)+((s * k:Nat):Int)) % (W:Int):=by
        rw [Int.add_emod_emod]
      rw [this]
      norm_cast
    have hi:ordIdx W A s k < W:=Nat.mod_lt _ (by omega)
    have e9:idxV (.list ((wl W Fs (2 ^ W - 1)++[Str.ofString "0xa00000000"]).map .str)) (.int ((ordIdx W A s k:Nat):Int))=some (.str (wordS (Fs+ordIdx W A s k))):=by
      refine idx_list (by rw [fb]; simp; omega) ?_
      rw [fb,List.map_append,List.getElem?_append_left (by simp [hi]),List.getElem?_map,List.getElem?_map,List.getElem?_range hi]
      rfl
    generalize (ME.ite (.cmp .eq (.bin .mod (.bin .fdiv (.var 4) (.cst (.int (14400)))) (.cst (.int (2)))) (.cst (.int (0)))) (.cst (.int (1))) (.bin .sub (.var 6) (.cst (.int (1)))))=me at ite ⊢
    simp only [List.cons_append,List.nil_append,] at ite
    simp only [List.cons_append,List.nil_append,Option.bind_some,List.getElem?_cons_zero,List.getElem?_cons_succ,e_cst,e_var,e_bin,e_idx,varV_val,Res.on_some,rd_val,op2,Res.of,toM,Res.bind_ok,Option.map_some,ite,e5,e6,e7,e8,e9])
  rw [assign_ok e]
  simp only [List.set_cons_zero,List.set_cons_succ,List.map_map]
  rfl
theorem l18 {x0 x1 x2 x3 x5 x6 x7 x8 x9 x10 x11 x13 x14 x15 x16 x17 x19 x21 x22 x23:MV} {z t:Int} {u v c side:Nat} {lst:Nat→List Str} {ord:List Str} {fin:Paints} {σ:List AV} (hs:(z.fdiv 28800).fmod 2=(side:Nat)) (hp:(tabN 8).fn .painted [listsV lst,.list (ord.map .str),ranksV (rkOf u v c),.int (side:Nat)]=some (dictP fin)):exS (tabN 8) (.assign 21 (.call .painted (.cons (.var 12) (.cons (.var 20) (.cons (.comp (.idx (.var 24) (.cst (.int (0)))) (.var 18) .tt) (.cons (.bin .mod (.bin .fdiv (.var 4) (.cst (.int (28800)))) (.cst (.int (2)))) .nil)))))) [x0,x1,x2,x3,.val (.int z),x5,x6,x7,x8,x9,x10,x11,.val (listsV lst),x13,x14,x15,x16,x17,.val (.list ((List.range 9).map fun d=>.list [.int (rkOf u v c d:Nat),.int (1+(t.fdiv 2).fmod 4),.int (1+(t.fdiv 8).fmod 4)])),x19,.val (.list (ord.map .str)),x21,x22,x23] σ=.nx [x0,x1,x2,x3,.val (.int z),x5,x6,x7,x8,x9,x10,x11,.val (listsV lst),x13,x14,x15,x16,x17,.val (.list ((List.range 9).map fun d=>.list [.int (rkOf u v c d:Nat),.int (1+(t.fdiv 2).fmod 4),.int (1+(t.fdiv 8).fmod 4)])),x19,.val (.list (ord.map .str)),.val (dictP fin),x22,x23] σ:=by
  have e:=ev_comp_tt (T:=tabN 8) (elt:=.idx (.var 24) (.cst (.int (0)))) (it:=.var 18) (ve:=[x0,x1,x2,x3,.val (.int z),x5,x6,x7,x8,x9,x10,x11,.val (listsV lst),x13,x14,x15,x16,x17,.val (.list ((List.range 9).map fun d=>.list [.int (rkOf u v c d:Nat),.int (1+(t.fdiv 2).fmod 4),.int (1+(t.fdiv 8).fmod 4)])),x19,.val (.list (ord.map .str)),x21,x22,x23]) (σ:=σ) (x:=(.list ((List.range 9).map fun d=>.list [.int (rkOf u v c d:Nat),.int (1+(t.fdiv 2).fmod 4),.int (1+(t.fdiv 8).fmod 4)]))) (g:=fun (d:Nat)=>AV.list [.int (rkOf u v c d:Nat),.int (1+(t.fdiv 2).fmod 4),.int (1+(t.fdiv 8).fmod 4)]) (l:=List.range 9) (fun d=>.int (rkOf u v c d:Nat)) (by simp only [e_var,varV_val,Res.on_some,Option.bind_some,List.getElem?_cons_zero,List.getElem?_cons_succ]) rfl (by simp) (fun d hd=>by
    have i1:idxV (.list [.int (rkOf u v c d:Nat),.int (1+(t.fdiv 2).fmod 4),.int (1+(t.fdiv 8).fmod 4)]) (.int 0)=some (.int (rkOf u v c d:Nat)):=idx_list (i:=0) (by simp) rfl
    simp only [List.cons_append,List.nil_append,Option.bind_some,List.getElem?_cons_zero,List.getElem?_cons_succ,e_cst,e_var,e_idx,varV_val,Res.on_some,rd_val,op2,Res.of,toM,Res.bind_ok,Option.map_some,i1])
  rw [show (List.range 9).map (fun d=>AV.int (rkOf u v c d:Nat))=intsN ((List.range 9).map (rkOf u v c)) by simp only [intsN,List.map_map]; rfl] at e
  have e1:binV .fdiv (.int z) (.int 28800)=some (.int (z.fdiv 28800)):=b_fdiv (by decide) rfl
  have e2:binV .mod (.int (z.fdiv 28800)) (.int 2)=some (.int (side:Nat)):=by rw [b_mod (by decide),hs]
  unfold ranksV at hp
  generalize (ME.comp (.idx (.var 24) (.cst (.int (0)))) (.var 18) .tt)=me at e ⊢
  simp only [x_assign,SRes.on_some,Option.bind_some,List.getElem?_cons_zero,List.getElem?_cons_succ,val_val,e_cst,e_var,e_bin,e_call,varV_val,Res.on_some,rd_val,es_nil',es_cons',op2,Res.of,toM,Res.bind_ok,Option.map_some,Res.toS_ok,List.set_cons_zero,List.set_cons_succ,e,e1,e2,hp]
theorem l19 {x0 x1 x2 x3 x4 x5 x6 x7 x8 x9 x10 x11 x12 x13 x14 x15 x16 x17 x18 x19 x20 x22 x23:MV} {fin:Paints} {TT:List Tbl} {σ:List AV} (ht:(tabN 8).fn .tables [dictP fin]=some (tablesV TT)) (hl:fin.length≤100):exS (tabN 8) (.multi [(22,false),(23,false)] (.cons (.call .tables (.cons (.var 21) .nil)) (.cons (.p1 .listOf (.view .values (.var 21))) .nil))) [x0,x1,x2,x3,x4,x5,x6,x7,x8,x9,x10,x11,x12,x13,x14,x15,x16,x17,x18,x19,x20,.val (dictP fin),x22,x23] σ=.nx [x0,x1,x2,x3,x4,x5,x6,x7,x8,x9,x10,x11,x12,x13,x14,x15,x16,x17,x18,x19,x20,.val (dictP fin),.val (tablesV TT),.val (.list ((fin.map (·.2)).map .str))] σ:=by
  have e1:p1V .values (dictP fin)=some (.vals (dictP fin)):=rfl
  have e2:p1V .listOf (.vals (dictP fin))=some (.list ((fin.map (·.2)).map .str)):=by
    rw [List.map_map]
    exact or_some (grd_pos (fits_le (by rw [List.length_map]; omega)))
  simp only [x_multi,Option.bind_some,List.getElem?_cons_zero,List.getElem?_cons_succ,val_val,e_var,e_call,e_p1,e_view,varV_val,Res.on_some,Option.bind_some,val_val,rd_val,es_nil',es_cons',op1,rd_val,Res.of,toM,List.getElem?_cons_zero,List.getElem?_cons_succ,Res.bind_ok,Option.bind_some,Option.map_some,Res.toS_ok,List.set_cons_zero,List.set_cons_succ,ht,e1,e2,List.length_cons,List.length_nil,fits_le (show 0+1+1≤1000000 by decide),if_true,layAll_nil,layAll_cons,lay,Bool.false_and,Bool.false_eq_true,if_false]
  rfl
theorem l20 {x0 x1 x2 x3 x4 x5 x6 x7 x8 x9 x10 x11 x12 x13 x14 x15 x16 x17 x18 x19 x20 x21 x23:MV} {TT:List Tbl} {σ:List AV} (h7:TT.length=7) (h1:∀ l,l < 6→(TT.getD l []).map (·.2)=[1,1,1]) (h6:((TT.getD 6 []).map (·.2)).sum=9) (hl:∀ l,l < 7→(TT.getD l []).length≤100):exS (tabN 8) (.iff (.or (.cmp .ne (.comp (.p1 .sortedOf (.view .values (.var 24))) (.cut (.var 22) 6) .tt) (.bin .mul (.list (.cons (.list (.cons (.cst (.int (1))) (.cons (.cst (.int (1))) (.cons (.cst (.int (1))) .nil)))) .nil)) (.cst (.int (6))))) (.cmp .ne (.comp (.call .countCalls (.cons (.var 24) .nil)) (.var 22) .tt) (.bin .add (.bin .mul (.list (.cons (.cst (.int (3))) .nil)) (.cst (.int (6)))) (.list (.cons (.cst (.int (9))) .nil))))) (.cons (.ret (.cst (.bool false))) .nil) .nil) [x0,x1,x2,x3,x4,x5,x6,x7,x8,x9,x10,x11,x12,x13,x14,x15,x16,x17,x18,x19,x20,x21,.val (tablesV TT),x23] σ=.nx [x0,x1,x2,x3,x4,x5,x6,x7,x8,x9,x10,x11,x12,x13,x14,x15,x16,x17,x18,x19,x20,x21,.val (tablesV TT),x23] σ:=by
  refine iff_no ?_
  have tv:tablesV TT=.list ((List.range 7).map fun l=>dictT (TT.getD l [])):=by
    rw [← h7]
    refine congrArg AV.list (List.ext_getElem (by rw [List.length_map,List.length_map,List.length_range]) fun i h1 h2=>?_)
    rw [List.getElem_map,List.getElem_map,List.getElem_range,List.getD_eq_getElem?_getD,List.getElem?_eq_getElem (by rw [List.length_map] at h1; exact h1)]
    rfl
  have cut6:cutV 6 (tablesV TT)=some (.list ((List.range 6).map fun l=>dictT (TT.getD l []))):=by
    rw [tv,cut_list (by simp) (by omega),← List.map_take]
    rfl
  have c1:=ev_comp_tt (T:=tabN 8) (elt:=.p1 .sortedOf (.view .values (.var 24))) (it:=.cut (.var 22) 6) (ve:=[x0,x1,x2,x3,x4,x5,x6,x7,x8,x9,x10,x11,x12,x13,x14,x15,x16,x17,x18,x19,x20,x21,.val (tablesV TT),x23]) (σ:=σ) (x:=.list ((List.range 6).map fun l=>dictT (TT.getD l []))) (g:=fun l=>dictT (TT.getD l [])) (l:=List.range 6) (fun _=>.list [.int 1,.int 1,.int 1]) (by simp only [Option.bind_some,List.getElem?_cons_zero,List.getElem?_cons_succ,e_var,e_cut,varV_val,Res.on_some,rd_val,op1,Res.of,toM,Res.bind_ok,Option.map_some,cut6]) rfl (by simp) (fun l hl'=>by
    have hl':=List.mem_range.mp hl'
    have v1:p1V .values (dictT (TT.getD l []))=some (.vals (dictT (TT.getD l []))):=rfl
    have v2:p1V .sortedOf (.vals (dictT (TT.getD l [])))=some (.list [.int 1,.int 1,.int 1]):=by
      have q:(TT.getD l []).map (fun p=>AV.int (p.2:Nat))=[.int 1,.int 1,.int 1]:=by
        have:=congrArg (List.map fun (n:Nat)=>AV.int n) (h1 l hl')
        rw [List.map_map] at this
        exact this
      show ((intsOf ((TT.getD l []).map fun p=>AV.int (p.2:Nat))).bind fun ns=>if ns.length < 64 && decide (2≤ns.length) then some (AV.list ((W.sortI ns).map .int)) else none)=_
      rw [q]
      kernel_rfl
    simp only [List.cons_append,List.nil_append,Option.bind_some,List.getElem?_cons_zero,List.getElem?_cons_succ,val_val,e_var,e_p1,e_view,varV_val,Res.on_some,rd_val,op1,Res.of,toM,Res.bind_ok,Option.map_some,v1,v2])
  have c2:=ev_comp_tt (T:=tabN 8) (elt:=.call .countCalls (.cons (.var 24) .nil)) (it:=.var 22) (ve:=[x0,x1,x2,x3,x4,x5,x6,x7,x8,x9,x10,x11,x12,x13,x14,x15,x16,x17,x18,x19,x20,x21,.val (tablesV TT),x23]) (σ:=σ) (x:=tablesV TT) (g:=fun l=>dictT (TT.getD l [])) (l:=List.range 7) (fun l=>.int (((TT.getD l []).map (·.2)).sum:Nat)) (by simp only [e_var,varV_val,Res.on_some,Option.bind_some,List.getElem?_cons_zero,List.getElem?_cons_succ]) (by rw [tv]; rfl) (by simp) (fun l hl'=>by
    have hl':=List.mem_range.mp hl'
    have cc:(tabN 8).fn .countCalls [dictT (TT.getD l [])]=some (.int (((TT.getD l []).map (·.2)).sum:Nat)):=c_count 7 (by have:=hl l hl'; omega)
    simp only [List.cons_append,List.nil_append,Option.bind_some,List.getElem?_cons_zero,List.getElem?_cons_succ,val_val,e_var,e_call,varV_val,Res.on_some,es_nil',es_cons',Res.of,Res.bind_ok,Option.map_some,cc])
  have r2:(List.range 7).map (fun l=>AV.int (((TT.getD l []).map (·.2)).sum:Nat))=[.int 3,.int 3,.int 3,.int 3,.int 3,.int 3,.int 9]:=by
    show [AV.int (((TT.getD 0 []).map (·.2)).sum:Nat),AV.int (((TT.getD 1 []).map (·.2)).sum:Nat),AV.int (((TT.getD 2 []).map (·.2)).sum:Nat),AV.int (((TT.getD 3 []).map (·.2)).sum:Nat),AV.int (((TT.getD 4 []).map (·.2)).sum:Nat),AV.int (((TT.getD 5 []).map (·.2)).sum:Nat),AV.int (((TT.getD 6 []).map (·.2)).sum:Nat)]=_
    rw [h1 0 (by omega),h1 1 (by omega),h1 2 (by omega),h1 3 (by omega),h1 4 (by omega),h1 5 (by omega),h6]
    rfl
  rw [r2] at c2
  have t1:evT (tabN 8) (.cmp .ne (.comp (.p1 .sortedOf (.view .values (.var 24))) (.cut (.var 22) 6) .tt) (.bin .mul (.list (.cons (.list (.cons (.cst (.int (1))) (.cons (.cst (.int (1))) (.cons (.cst (.int (1))) .nil)))) .nil)) (.cst (.int (6))))) [x0,x1,x2,x3,x4,x5,x6,x7,x8,x9,x10,x11,x12,x13,x14,x15,x16,x17,x18,x19,x20,x21,.val (tablesV TT),x23] σ=.ok false σ:=by
    have m1:evE (tabN 8) (.bin .mul (.list (.cons (.list (.cons (.cst (.int (1))) (.cons (.cst (.int (1))) (.cons (.cst (.int (1))) .nil)))) .nil)) (.cst (.int (6)))) [x0,x1,x2,x3,x4,x5,x6,x7,x8,x9,x10,x11,x12,x13,x14,x15,x16,x17,x18,x19,x20,x21,.val (tablesV TT),x23] σ=.ok (.val (.list ((List.range 6).map fun _=>AV.list [.int 1,.int 1,.int 1]))) σ:=rfl
    have n1:cmpV .ne (.list ((List.range 6).map fun _=>AV.list [.int 1,.int 1,.int 1])) (.list ((List.range 6).map fun _=>AV.list [.int 1,.int 1,.int 1]))=some false:=rfl
    generalize (ME.bin .mul (.list (.cons (.list (.cons (.cst (.int (1))) (.cons (.cst (.int (1))) (.cons (.cst (.int (1))) .nil)))) .nil)) (.cst (.int (6))))=me at m1 ⊢
    generalize (ME.comp (.p1 .sortedOf (.view .values (.var 24))) (.cut (.var 22) 6) .tt)=me2 at c1 ⊢
    simp only [t_cmp,op2,rd_val,Res.of,Res.bind_ok,Option.bind_some,c1,m1,n1]
  have t2:evT (tabN 8) (.cmp .ne (.comp (.call .countCalls (.cons (.var 24) .nil)) (.var 22) .tt) (.bin .add (.bin .mul (.list (.cons (.cst (.int (3))) .nil)) (.cst (.int (6)))) (.list (.cons (.cst (.int (9))) .nil)))) [x0,x1,x2,x3,x4,x5,x6,x7,x8,x9,x10,x11,x12,x13,x14,x15,x16,x17,x18,x19,x20,x21,.val (tablesV TT),x23] σ=.ok false σ:=by
    have m1:evE (tabN 8) (.bin .add (.bin .mul (.list (.cons (.cst (.int (3))) .nil)) (.cst (.int (6)))) (.list (.cons (.cst (.int (9))) .nil))) [x0,x1,x2,x3,x4,x5,x6,x7,x8,x9,x10,x11,x12,x13,x14,x15,x16,x17,x18,x19,x20,x21,.val (tablesV TT),x23] σ=.ok (.val (.list [.int 3,.int 3,.int 3,.int 3,.int 3,.int 3,.int 9])) σ:=rfl
    have n1:cmpV .ne (.list [.int 3,.int 3,.int 3,.int 3,.int 3,.int 3,.int 9]) (.list [.int 3,.int 3,.int 3,.int 3,.int 3,.int 3,.int 9])=some false:=rfl
    generalize (ME.bin .add (.bin .mul (.list (.cons (.cst (.int (3))) .nil)) (.cst (.int (6)))) (.list (.cons (.cst (.int (9))) .nil)))=me at m1 ⊢
    generalize (ME.comp (.call .countCalls (.cons (.var 24) .nil)) (.var 22) .tt)=me2 at c2 ⊢
    simp only [t_cmp,op2,rd_val,Res.of,Res.bind_ok,Option.bind_some,c2,m1,n1]
  rw [t_or,t1,Res.bind_ok]
  simp only [Bool.false_eq_true,if_false]
  exact t2
theorem l21 {x0 x1 x2 x3 x4 x5 x6 x7 x8 x9 x10 x11 x12 x13 x14 x15 x16 x17 x18 x19 x21:MV} {TT:List Tbl} {bl:List (Str × List Nat)} {σ:List AV} (h7:TT.length=7) (hn:(bl.map (·.1)).Nodup) (h6:TT.getD 6 []=(bl.filter fun b=>!b.2.isEmpty).map fun b=>(b.1,b.2.length)) (hb:bl.length≤100) (hf:(flat bl).length≤100) :
    exS (tabN 8) (.ret (.cmp .eq (.p1 .listOf (.view .items (.idx (.var 22) (.cst (.int (6)))))) (.comp (.tup (.cons (.var 24) (.cons (.p2 .count (.var 23) (.var 24)) .nil))) (.var 20) (.cmp .isin (.var 24) (.var 23))))) [x0,x1,x2,x3,x4,x5,x6,x7,x8,x9,x10,x11,x12,x13,x14,x15,x16,x17,x18,x19,.val (.list ((bl.map (·.1)).map .str)),x21,.val (tablesV TT),.val (.list (((flat bl).map (·.2)).map .str))] σ=.ret (.bool true) σ:=by
  have c1:=ev_comp (T:=tabN 8) (elt:=.tup (.cons (.var 24) (.cons (.p2 .count (.var 23) (.var 24)) .nil))) (it:=.var 20) (c:=.cmp .isin (.var 24) (.var 23)) (ve:=[x0,x1,x2,x3,x4,x5,x6,x7,x8,x9,x10,x11,x12,x13,x14,x15,x16,x17,x18,x19,.val (.list ((bl.map (·.1)).map .str)),x21,.val (tablesV TT),.val (.list (((flat bl).map (·.2)).map .str))]) (σ:=σ) (x:=.list ((bl.map (·.1)).map .str)) (g:=fun w=>AV.str w) (l:=bl.map (·.1)) (fun w=>((flat bl).map (·.2)).contains w) (fun w=>.tup [.str w,.int ((((flat bl).map (·.2)).countP (· == w):Nat):Int)]) (by simp only [e_var,varV_val,Res.on_some,Option.bind_some,List.getElem?_cons_zero,List.getElem?_cons_succ]) rfl (by rw [List.length_map]; omega) (fun w hw=>by
    have i1:cmpV .isin (.str w) (.list (((flat bl).map (·.2)).map .str))=some (((flat bl).map (·.2)).contains w):=isin_strs'
    simp only [List.cons_append,List.nil_append,Option.bind_some,List.getElem?_cons_zero,List.getElem?_cons_succ,e_var,varV_val,Res.on_some,rd_val,t_cmp,op2,Res.of,Res.bind_ok,i1]) (fun w hw _=>by
    have i1:p2V .count (.list (((flat bl).map (·.2)).map .str)) (.str w)=some (.int ((((flat bl).map (·.2)).countP (· == w):Nat):Int)):=by
      show ((strsOf (((flat bl).map (·.2)).map .str)).bind fun ss=>if fits ss.length then some (AV.int (ss.countP (· == w))) else none)=_
      rw [strsOf_map,Option.bind_some,if_pos (fits_le (by rw [List.length_map]; exact Nat.le_trans hf (by omega)))]
    simp only [List.cons_append,List.nil_append,Option.bind_some,List.getElem?_cons_zero,List.getElem?_cons_succ,val_val,e_var,e_tup,e_p2,varV_val,Res.on_some,Option.bind_some,val_val,rd_val,es_nil',es_cons',op2v,rd_val,Res.of,toM,List.getElem?_cons_zero,List.getElem?_cons_succ,Res.bind_ok,Option.bind_some,Option.map_some,i1,List.length_cons,List.length_nil,fits_le (show 0+1+1≤1000000 by decide),if_true])
  rw [last_eq hn (fun w c=>AV.tup [.str w,.int ((c:Nat):Int)])] at c1
  have i6:idxV (tablesV TT) (.int 6)=some (dictT (TT.getD 6 [])):=by
    have:TT[6]?=some (TT.getD 6 []):=by
      rw [List.getD_eq_getElem?_getD,List.getElem?_eq_getElem (by omega)]
      rfl
    exact idx_list (i:=6) (by rw [List.length_map,h7]; decide) (by rw [List.getElem?_map,this]; rfl)
  have v1:p1V .items (dictT (TT.getD 6 []))=some (.items (dictT (TT.getD 6 []))):=rfl
  have len6:(TT.getD 6 []).length≤100:=by
    rw [h6,List.length_map]
    exact Nat.le_trans (List.length_filter_le _ _) hb
  have v2:p1V .listOf (.items (dictT (TT.getD 6 [])))=some (.list ((bl.filter fun b=>!b.2.isEmpty).map fun b=>.tup [.str b.1,.int (b.2.length:Nat)])):=by
    have it:=items_T (TT.getD 6 [])
    show (if fits ((TT.getD 6 []).map fun p=>AV.int (p.2:Nat)).length then some (AV.list ((((TT.getD 6 []).map (·.1)).zip ((TT.getD 6 []).map fun p=>AV.int (p.2:Nat))).map fun p=>AV.tup [.str p.1,p.2])) else none)=_
    rw [if_pos (fits_le (by rw [List.length_map]; exact Nat.le_trans len6 (by omega)))]
    have it':((((TT.getD 6 []).map (·.1)).zip ((TT.getD 6 []).map fun p=>AV.int (p.2:Nat))).map fun p=>AV.tup [.str p.1,p.2])=(TT.getD 6 []).map fun p=>.tup [.str p.1,.int (p.2:Nat)]:=Option.some.inj it
    rw [it',h6,List.map_map]
    rfl
  have e1:cmpV .eq (.list ((bl.filter fun b=>!b.2.isEmpty).map fun b=>.tup [.str b.1,.int (b.2.length:Nat)])) (.list ((bl.filter fun b=>!b.2.isEmpty).map fun b=>.tup [.str b.1,.int (b.2.length:Nat)]))=some true:=by
    rw [cmp_list]
    refine avEqN_list fun b _=>?_
    refine or_right rfl (or_right rfl ?_)
    have e:avEqs (avEqN 4) [.str b.1,.int (b.2.length:Nat)] [.str b.1,.int (b.2.length:Nat)]=some true:=by
      simp only [avEqs_cons,avEqN_str,avEqN_int]
      rfl
    exact e
  generalize (ME.comp (.tup (.cons (.var 24) (.cons (.p2 .count (.var 23) (.var 24)) .nil))) (.var 20) (.cmp .isin (.var 24) (.var 23)))=me at c1 ⊢
  simp only [x_ret,Option.bind_some,List.getElem?_cons_zero,List.getElem?_cons_succ,val_val,e_cst,e_var,e_cmp,e_idx,e_p1,e_view,varV_val,Res.on_some,rd_val,op1,op2,rdB,Res.of,toM,Res.bind_ok,Option.map_some,Res.toS_ok,i6,v1,v2,c1,e1]
end Mine
set_option linter.unusedSimpArgs false
namespace Mine
open PySem PyProof.Rows PySem.Builtin.Str
theorem two_mod (z:Int) (k:Nat):∃ u:Nat,(u=1∨u=2)∧1+(z.fdiv k).fmod 2=(u:Int):=by
  obtain ⟨h1,h2⟩:=mod_pos_nat (z.fdiv k) (s:=2) (by omega)
  have h1':(z.fdiv k).fmod 2=(((z.fdiv k).fmod 2).toNat:Int):=h1
  have h2':((z.fdiv k).fmod 2).toNat < 2:=h2
  exact ⟨1+((z.fdiv k).fmod 2).toNat,by omega,by omega⟩
theorem some_mod (z:Int) (k m:Nat) (h:0 < m):∃ u:Nat,u < m∧(z.fdiv k).fmod (m:Nat)=(u:Int):=by
  obtain ⟨h1,h2⟩:=mod_pos_nat (z.fdiv k) (s:=m) h
  exact ⟨_,h2,h1⟩
theorem flags_words {W Fs m:Nat} (hW:W≤8) (hF:Fs≤24) (h:isMask m W=true):(tabN 8).fn .flags [.int ((2 ^ Fs * m:Nat):Int)]=some (.str (glued sepS (wl W Fs m))):=by
  obtain ⟨h1,h2⟩:=mask_lt h
  have:=c_flags 7 (f:=2 ^ Fs * m) (Nat.mul_pos (Nat.two_pow_pos Fs) h2) (num_lt h1 (by omega))
  rw [bits_shift h1 (by omega)] at this
  exact this
theorem wl_split {W Fs x:Nat} {tail:List Str} (hFW:Fs+W≤32) (h2:2≤(wl W Fs x++tail).length) (h3:(wl W Fs x++tail).length≤100) (ht:∀ n∈tail,44 ∉ n.cps.toList∧n.length≤100) :
    p2V .split (.str (glued sepS (wl W Fs x++tail))) (.str (Str.ofString ", "))=some (.list ((wl W Fs x++tail).map .str)):=by
  refine split_glued h2 h3 (fun n hn=>?_) (fun n hn=>?_)
  · rcases List.mem_append.mp hn with h | h
    · exact words_no (fun b hb=>by have:=wl_lt hFW hb; omega) n h
    · exact (ht n h).1
  · rcases List.mem_append.mp hn with h | h
    · exact words_len (fun b hb=>by have:=wl_lt hFW hb; omega) n h
    · exact (ht n h).2
theorem flags_pal {W Fs K:Nat} (hK:K=42949672960) (hW:W≤8) (hF:Fs≤24):(tabN 8).fn .flags [.int (((2 ^ W - 1) * 2 ^ Fs+K:Nat):Int)]=some (.str (glued sepS (wl W Fs (2 ^ W - 1)++[Str.ofString "0xa00000000"]))):=by
  have h1:2 ^ W - 1 < 2 ^ W:=by
    have:=Nat.two_pow_pos W
    omega
  have h2:=num_lt (Fs:=Fs) h1 (by omega)
  have h3:(2 ^ W - 1) * 2 ^ Fs=2 ^ Fs * (2 ^ W - 1):=Nat.mul_comm _ _
  have hb:=bits_shift (a:=Fs) h1 (by omega)
  rw [h3]
  have hd:(2 ^ Fs * (2 ^ W - 1)+K) / 2 ^ 32=10:=by
    generalize 2 ^ Fs * (2 ^ W - 1)=N at h2
    omega
  have hm:(2 ^ Fs * (2 ^ W - 1)+K) % 2 ^ 32=(2 ^ Fs * (2 ^ W - 1)) % 2 ^ 32:=by
    generalize 2 ^ Fs * (2 ^ W - 1)=N at h2
    omega
  have:=c_flags2 7 hd
  rw [bits_low hm,hb] at this
  exact this
theorem law_true0 (s:List Int) (hs:s.length≤63):∃ σ,exSs (tabN 8) bLaw (lawVe0 s) []=.ret (.bool true) σ:=by
  obtain ⟨y2,y3,S,hS,k1⟩:=l1 s hs
  generalize hz:S.getD 9 0=z
  obtain ⟨w,hw,hw2⟩:=some_mod z 1 6 (by omega)
  obtain ⟨Fs,hF,hF2⟩:=some_mod z 6 25 (by omega)
  have hz1:z.fdiv (1:Nat)=z:=Int.fdiv_one z
  rw [hz1] at hw2
  have hW1:3+z.fmod 6=((3+w:Nat):Int):=by
    have:z.fmod 6=(w:Int):=hw2
    omega
  have hF1:(z.fdiv 6).fmod 25=(Fs:Int):=hF2
  generalize hWW:3+w=W at hW1
  have h3:3≤W:=hWW ▸ Nat.le_add_right 3 w
  have h8:W≤8:=hWW ▸ Nat.add_le_add_left (Nat.le_of_lt_succ hw) 3
  have hF24:Fs≤24:=Nat.le_of_lt_succ hF
  have hFW:Fs+W≤32:=Nat.add_le_add hF24 h8
  obtain ⟨m,hm,hmask⟩:∃ m:Nat→Nat,(∀ d,d < 9→(tabN 8).fn .list [.int (S.getD d 0),.int (W:Nat)]=some (.int (m d:Nat)))∧∀ d,isMask (m d) W=true :=
    ⟨fun d=>(c_list 7 (S.getD d 0) h3 h8).choose,fun d _=>(c_list 7 (S.getD d 0) h3 h8).choose_spec.1,fun d=>(c_list 7 (S.getD d 0) h3 h8).choose_spec.2⟩
  have hN:∀ N∈(List.range 9).map (fun d=>2 ^ Fs * m d),N < 2 ^ 32:=by
    intro N hN
    obtain ⟨d,_,rfl⟩:=List.mem_map.mp hN
    exact num_lt (mask_lt (hmask d)).1 hFW
  have hlen:((List.range 9).map (fun d=>2 ^ Fs * m d)).length=9:=by simp
  generalize ht:z.fdiv 57600=t
  obtain ⟨q,hq,hstop,k7⟩:=l7 (x0:=.val (.arg (intsZ s))) (x1:=.mu 0) (x2:=y2) (x3:=y3) (x4:=.val (.int z)) (x5:=.val (.int t)) (x6:=.val (.int (W:Nat))) (x7:=.val (.int (Fs:Nat))) (x8:=.val (.list (intsN ((List.range 9).map m)))) (x9:=.val (.list (intsN ((List.range 9).map fun d=>2 ^ Fs * m d)))) (x11:=.unset) (x12:=.unset) (x13:=.unset) (x14:=.unset) (x15:=.unset) (x16:=.unset) (x17:=.unset) (x18:=.unset) (x19:=.unset) (x20:=.unset) (x21:=.unset) (x22:=.unset) (x23:=.unset) (t:=t) (ns:=(List.range 9).map fun d=>2 ^ Fs * m d) (A:=.list (intsZ S)) hN hlen
  have hlst:∀ d,(wl W Fs (m d)).length=3:=fun d=>wl_len (hmask d)
  have hpl:(wl W Fs (2 ^ W - 1)).length=W:=by
    unfold wl
    rw [full_bits]
    simp
  obtain ⟨u,hu,hu2⟩:=two_mod z 150
  obtain ⟨v,hv,hv2⟩:=two_mod z 300
  obtain ⟨c,hc,hc2⟩:=some_mod z 600 3 (by omega)
  obtain ⟨hlat,hdom⟩:=rk_latin hu hv hc
  have hrk:∀ d,rkOf u v c d < 3:=rk_lt u v c
  obtain ⟨A,hA,hA2⟩:=some_mod z 1800 W (by omega)
  obtain ⟨st,hst,hst2⟩:∃ st:Nat,(st=1∨st=W - 1)∧(if ((z.fdiv 14400).fmod 2 == 0)=true then (1:Int) else ((W - 1:Nat):Int))=(st:Nat):=by
    by_cases e:((z.fdiv 14400).fmod 2 == 0)=true
    · exact ⟨1,.inl rfl,by rw [if_pos e]; rfl⟩
    · exact ⟨W - 1,.inr rfl,by rw [if_neg e]⟩
  obtain ⟨side,hside,hside2⟩:=some_mod z 28800 2 (by omega)
  obtain ⟨o1,o2⟩:=ord_ok h3 h8 hA hst
  have hordlen:((List.range W).map fun k=>wordS (Fs+ordIdx W A st k)).length≤1000:=by rw [List.length_map,List.length_range]; exact Nat.le_trans h8 (by decide)
  have hordn:((List.range W).map fun k=>wordS (Fs+ordIdx W A st k)).Nodup:=by
    rw [show ((List.range W).map fun k=>wordS (Fs+ordIdx W A st k))=((List.range W).map (ordIdx W A st)).map fun j=>wordS (Fs+j) by rw [List.map_map]; rfl]
    refine nodup_map_on o1 fun a ha b hb e=>?_
    have lt:∀ x∈(List.range W).map (ordIdx W A st),x < W:=by
      intro x hx
      obtain ⟨k,_,rfl⟩:=List.mem_map.mp hx
      exact Nat.mod_lt _ (Nat.lt_of_lt_of_le (by decide) h3)
    exact Nat.add_left_cancel (word_inj (Fs+a) (Fs+b) (Nat.lt_of_lt_of_le (Nat.add_lt_add_left (lt a ha) Fs) hFW) (Nat.lt_of_lt_of_le (Nat.add_lt_add_left (lt b hb) Fs) hFW) e)
  have hordmem:∀ d,∀ x∈wl W Fs (m d),x∈(List.range W).map fun k=>wordS (Fs+ordIdx W A st k):=by
    intro d x hx
    unfold wl at hx
    obtain ⟨b,hb,rfl⟩:=List.mem_map.mp hx
    obtain ⟨j,hj,rfl⟩:=List.mem_map.mp hb
    have hj:=List.mem_range.mp (List.mem_filter.mp hj).1
    obtain ⟨k,hk,e⟩:=List.mem_map.mp (o2 j hj)
    exact List.mem_map.mpr ⟨k,hk,by rw [e]⟩
  have k17:=@l17 (z:=z) (W:=W) (Fs:=Fs) (A:=A) (s:=st)
  generalize hord:((List.range W).map fun k=>wordS (Fs+ordIdx W A st k))=ord at hordlen hordn hordmem k17
  have hp:(tabN 8).fn .painted [listsV fun d=>wl W Fs (m d),.list (ord.map .str),ranksV (rkOf u v c),.int (side:Nat)]=some (dictP (ord.foldl (paintStep (rkOf u v c) side fun d=>wl W Fs (m d)) [])):=c_painted 4 hlat hrk hside hordlen
  obtain ⟨hOnce,bl,hbl,hfin,hblk⟩:=blocks (side:=side) (lists:=fun d=>wl W Fs (m d)) hlat hrk hside _ ord [] ⟨List.nodup_nil,fun d h=>nomatch h⟩ rfl
  generalize ord.foldl (paintStep (rkOf u v c) side fun d=>wl W Fs (m d)) []=fin at hp hOnce hfin hblk
  rw [List.nil_append] at hfin
  have hall:=galvin hOnce hfin hblk hdom fun d hd=>⟨wl_nodup hFW,hlst d,fun x hx=>by rw [hbl]; exact hordmem d x hx⟩
  have hbn:(bl.map (·.1)).Nodup:=by rw [hbl]; exact hordn
  obtain ⟨tt1,tt6,tt9⟩:=tables_fin hOnce hall hfin hbn hblk
  obtain ⟨tok,htab⟩:=c_tables 6 hOnce
  have htab:(tabN 8).fn .tables [dictP fin]=some (tablesV (tabs fin)):=htab
  have hfl:=hOnce.len
  have hblen:bl.length≤100:=by
    have:=congrArg List.length hbl
    rw [List.length_map] at this
    have h2:ord.length=W:=by rw [← hord]; simp
    rw [this,h2]
    exact Nat.le_trans h8 (by decide)
  subst hbl
  refine ⟨[.list (intsZ S),.biter (u8s (tapeOf t ((List.range 9).map fun d=>2 ^ Fs * m d))) ((u8s (tapeOf t ((List.range 9).map fun d=>2 ^ Fs * m d))).length+1),.list (intsN ((List.range 9).map fun d=>2 ^ Fs * m d)++[AV.int (-1)])],?_⟩
  unfold bLaw
  rw [exSs_nx (l0 s),exSs_nx k1,exSs_nx (l2 hS),hz,ht]
  rw [exSs_nx (l3 hW1 hF1)]
  rw [exSs_nx (l4 hS hm)]
  rw [exSs_nx (l5 hF24)]
  rw [exSs_nx (l6 hN (by rw [hlen]; decide))]
  rw [exSs_nx k7]
  rw [exSs_nx (l8 hq hstop (by rw [hlen]; decide))]
  rw [exSs_nx (l9 (nu:=fun d=>2 ^ Fs * m d) (lst:=fun d=>wl W Fs (m d)) (g:=fun d=>glued sepS (wl W Fs (m d))) (fun d _=>flags_words h8 hF24 (hmask d)) (fun d _=>by
    have:=wl_split (x:=m d) (tail:=[]) hFW (by rw [List.append_nil,hlst]; omega) (by rw [List.append_nil,hlst]; omega) (fun n hn=>nomatch hn)
    rw [List.append_nil] at this
    exact this))]
  rw [exSs_nx (l10 t6 h8 hF24 (flags_pal rfl h8 hF24) (wl_split hFW (by rw [List.length_append,hpl]; simp only [List.length_cons,List.length_nil]; omega) (by rw [List.length_append,hpl]; simp only [List.length_cons,List.length_nil]; omega) (fun n hn=>by rw [List.mem_singleton.mp hn]; exact no_hex)))]
  rw [exSs_nx (l11 h8 hFW)]
  rw [exSs_nx (l12 (by rw [hlen]; decide) (by rw [hpl]; omega))]
  rw [exSs_nx (l13 hu2 hv2 hc2)]
  rw [exSs_nx (l14 hu hv hc)]
  rw [exSs_nx l15]
  rw [exSs_nx l16]
  rw [exSs_nx (k17 _ _ _ _ _ _ _ _ _ _ _ _ _ _ _ _ _ _ _ _ _ h3 h8 hA2 hst2 (by omega))]
  rw [exSs_nx (l18 hside2 hp)]
  rw [exSs_nx (l19 htab (Nat.le_trans hfl (by decide)))]
  rw [exSs_nx (l20 tok.len tt1 tt9 fun l hl=>by
    exact Nat.le_trans (tok.at_ hl).2.2 (by decide))]
  subst hfin
  first | rw [xs_cons] | rw [xs_nil]
  rw [l21 tok.len hbn tt6 hblen (by omega)]
  rfl
end Mine
theorem Mine.law_true:Mine.LawTrue:=fun s hs=>Mine.law_true0 s hs
end
theorem PySem.Challenge.cw_xh0018_01_holds : PySem.Challenge.rw_xh0018_01.Holds :=
  Mine.holds Mine.law_true
