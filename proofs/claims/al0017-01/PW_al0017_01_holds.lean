import PyProof.Rows.All
import Wide.All
import OpenK.AllK
import Wide.FinOn
import KE.KSortTup
import Lean
import PySem.Challenge.RW_al0017_01
open PySem PySem.W PySem.Calls PyProof.Rows
set_option maxRecDepth 100000
set_option Elab.async false
set_option linter.unusedVariables false
set_option genSizeOfSpec false
set_option genInjectivity false
namespace Mine
inductive V where
 | none | bool (b:Bool) | int (i:Int) | ref (a:Addr) | oth (v:Value)
noncomputable def er:Value→V
 | .none=>.none
 | .bool b=>.bool b
 | .int i _=>.int i
 | .ref a=>.ref a
 | v=>.oth v
noncomputable def ErIs (v:Value):V→Prop
 | .none=>v=.none
 | .bool b=>v=.bool b
 | .int i=>∃ t,v=.int i t
 | .ref a=>v=.ref a
 | .oth u=>v=u
theorem er_is {v:Value} {w:V} (h:er v=w):ErIs v w:=by subst h; cases v <;> first | rfl | exact ⟨_,rfl⟩
theorem er_none {v:Value} (h:er v=.none):v=.none:=er_is h
theorem er_bool {v:Value} {b:Bool} (h:er v=.bool b):v=.bool b:=er_is h
theorem er_int {v:Value} {i:Int} (h:er v=.int i):∃ t,v=.int i t:=er_is h
theorem er_ref {v:Value} {a:Addr} (h:er v=.ref a):v=.ref a:=er_is h
theorem er_oth {v u:Value} (h:er v=.oth u):v=u:=er_is h
theorem er_cons {xs:List Value} {v:V} {vs:List V} (h:xs.map er=v::vs):∃ x r,xs=x::r∧er x=v∧r.map er=vs:=by
 cases xs with
 | nil=>cases h
 | cons x r=>exact ⟨x,r,rfl,List.cons.inj h⟩
theorem er_1 {xs:List Value} {v:V} (h:xs.map er=[v]):∃ x,xs=[x]∧er x=v:=by
 obtain ⟨x,r,rfl,e,h⟩:=er_cons h
 cases List.map_eq_nil_iff.mp h
 exact ⟨x,rfl,e⟩
theorem er_2 {xs:List Value} {v u:V} (h:xs.map er=[v,u]):∃ x y,xs=[x,y]∧er x=v∧er y=u:=by
 obtain ⟨x,r,rfl,e,h⟩:=er_cons h
 obtain ⟨y,rfl,e'⟩:=er_1 h
 exact ⟨x,y,rfl,e,e'⟩
inductive Fl where
 | next | brk | cont | ret (v:V)
noncomputable def erF:Flow→Fl
 | .next=>.next
 | .brk=>.brk
 | .cont=>.cont
 | .ret v=>.ret (er v)
noncomputable def Fl.val:Fl→V
 | .ret v=>v
 | _=>.none
inductive SK where
 | list | tup | sub (d:Addr)
inductive AO where
 | seq (k:SK) (vs:List V)
 | dict (es:List (Int × V)) (ep:Option Nat)
 | range (x y z:Int)
 | set (k:Nat)
 | inst (C d:Addr)
 | ns (fs:List (Str × V))
 | cell (v:V)
 | fn (size:Nat) (cell cc:Addr)
 | items (d:Addr)
noncomputable abbrev AO.list (vs:List V):AO:=.seq .list vs
noncomputable abbrev AO.tup (vs:List V):AO:=.seq .tup vs
noncomputable abbrev AO.sub (d:Addr) (vs:List V):AO:=.seq (.sub d) vs
noncomputable abbrev AH:=Addr→Option AO
noncomputable def AH.set (H:AH) (a:Addr) (o:AO):AH:=fun b=>if b=a then some o else H b
noncomputable def Sub (H H':AH):Prop:=∀ a o,H a=some o→H' a=some o
theorem AH.set_self {H:AH} {a:Addr} {o:AO}:(H.set a o) a=some o:=if_pos rfl
theorem AH.set_ne {H:AH} {a b:Addr} {o:AO} (h:b≠a):(H.set a o) b=H b:=if_neg h
theorem AH.of_set {H:AH} {a b:Addr} {o o':AO} (h:(H.set a o) b=some o'):(b=a∧o'=o)∨(b≠a∧H b=some o'):=by
 unfold AH.set at h
 split at h
 ·rename_i q; exact .inl ⟨q,(Option.some.inj h).symm⟩
 ·rename_i q; exact .inr ⟨q,h⟩
theorem AH.set_set {H:AH} {a:Addr} {o o':AO}:(H.set a o).set a o'=H.set a o':=funext fun b=>by unfold AH.set; split <;> rfl
theorem AH.set_same {H:AH} {a:Addr} {o:AO} (e:H a=some o):H.set a o=H:=funext fun b=>by
 unfold AH.set; split
 ·rename_i q; rw [q]; exact e.symm
 ·rfl
theorem AH.set_new {H:AH} {a b:Addr} {o o':AO} (e:H b=some o) (hn:H a=none):(H.set a o') b=some o:=
 (AH.set_ne (fun q=>by rw [q,hn] at e; cases e)).trans e
theorem Sub.refl (H:AH):Sub H H:=fun _ _ e=>e
theorem Sub.trans {H1 H2 H3:AH} (a:Sub H1 H2) (b:Sub H2 H3):Sub H1 H3:=fun x o e=>b x o (a x o e)
theorem Sub.new {H:AH} {a:Addr} {o:AO} (hn:H a=none):Sub H (H.set a o):=fun b ob e=>AH.set_new e hn
theorem Sub.none {H H':AH} (h:Sub H H') {a:Addr} (e:H' a=none):H a=none:=by
 cases q:H a with
 | none=>rfl
 | some o=>rw [h a o q] at e; cases e
structure Cx where
 prog:Program
 w:World
 K:Frag
 h₀:Heap
 os₀:OsState
 mg:Str→Option Value
 mb:Str→Option Value
 tab:Addr
 lam:Nat→Arguments × Expr × Scope
 lq:Str
 lpm:Value
structure Cx.Ok (c:Cx):Prop where
 KIn:c.K.In c.h₀
 g:c.h₀.Ns mainGlobals c.mg
 b:c.h₀.Ns builtinsNs c.mb
 nolimit:c.h₀.NoLimit
 notab:∀ a o,c.K.lookup a=some o→a≠c.tab
 tabT:∃ ps,c.h₀.get? c.tab=some (tabObj ps)
 small:sysModules < c.h₀.objs.size∧(∃ o,c.h₀.get? sysModules=some o)
noncomputable abbrev Cx.M (c:Cx):Model:=model c.prog c.w
noncomputable abbrev DomC:Addr:=97
noncomputable abbrev BOT {α:Type}:α→Shared→Prop:=fun _ _=>False
noncomputable def kv (e:DictEntry):Option (Str × V):=match e.key with
 | .str x _=>some (x,er e.val)
 | _=>none
noncomputable def SK.cls:SK→Value
 | .list=>.type "list"
 | .tup=>.type "tuple"
 | .sub _=>.ref DomC
noncomputable def SK.dict:SK→Option Addr
 | .sub d=>some d
 | _=>none
noncomputable abbrev seqOb (k:SK) (xs:List Value) (n:Nat):Obj:=⟨k.cls,k.dict,.seq xs.toArray n,#[]⟩
noncomputable abbrev erp (p:Int × Value):Int × V:=(p.1,er p.2)
noncomputable def DictO (c:Cx) (h:Heap) (a:Addr) (kvs:List (Int × Value)):Option Nat→Prop
 | none=>h.DictOf (intKind c.prog c.w) a kvs
 | some ep=>h.DictAt (intKind c.prog c.w) a kvs ep
noncomputable def CodeO (c:Cx) (o:Obj):Prop:=∃ vs t,o.data=.fields vs∧vs[1]?=some (.str c.lq t)
noncomputable abbrev lamOb (c:Cx) (size:Nat) (cell cc:Addr) (ctv:Value) (oo:Option Addr) (ol:Array (Option Value)):Obj:=
 ⟨.type "function",oo,.func (W.kla_fn "<lambda>" c.lq (c.lam size).1 (c.lam size).2.1 (c.lam size).2.2 [("rest",cell)] c.lpm (.ref cc) ctv),ol⟩
noncomputable def IsO (c:Cx) (a:Addr) (ob:Obj):AO→Prop
 | .seq k vs=>vs.length≤100000∧∃ xs n,ob=seqOb k xs n∧xs.map er=vs
 | .dict es ep=>es.length≤100000∧∃ kvs,(∀ h:Heap,h.get? a=some ob→DictO c h a kvs ep)∧kvs.map erp=es
 | .range x y z=>∃ t u v,∀ h:Heap,h.get? a=some ob→IsRange h a x y z t u v
 | .set k=>∃ f,∀ h:Heap,h.get? a=some ob→h.SetOf (intKind c.prog c.w) a f k
 | .inst C d=>ob=⟨.ref C,some d,.plain,#[]⟩
 | .ns fs=>∃ es n sl,ob=⟨.type "dict",none,.dict (List.toArray es) n,sl⟩∧es.map kv=fs.map some
 | .cell v=>∃ raw,ob.data=.cell (some raw)∧er raw=v
 | .fn size cell cc=>∃ ctv oo ol,ob=lamOb c size cell cc ctv oo ol
 | .items d=>ob=⟨.type "dict_items",none,.fields #[.ref d],#[]⟩
noncomputable def Real (c:Cx) (h:Heap) (a:Addr) (o:AO):Prop:=∃ ob,h.get? a=some ob∧IsO c a ob o
theorem Real.keep {c:Cx} {h h':Heap} {a:Addr} {o:AO} (R:Real c h a o) (k:∀ ob,h.get? a=some ob→h'.get? a=some ob):Real c h' a o:=R.imp fun ob q=>q.imp (k ob) id
theorem DictO.stable {c:Cx} {h:Heap} {a:Addr} {kvs:List (Int × Value)} {ep:Option Nat} (e:DictO c h a kvs ep):∃ ob,h.get? a=some ob∧∀ h':Heap,h'.get? a=some ob→DictO c h' a kvs ep:=by
 cases ep with
 | none=>exact e.elim fun o q=>q.elim fun es q=>q.elim fun ep q=>⟨o,q.1,fun _ e=>⟨o,es,ep,e,q.2⟩⟩
 | some ep=>exact e.elim fun o q=>q.elim fun es q=>⟨o,q.1,fun _ e=>⟨o,es,e,q.2⟩⟩
theorem Real.dict {c:Cx} {h:Heap} {a:Addr} {kvs:List (Int × Value)} {ep:Option Nat} (e:DictO c h a kvs ep) (hl:kvs.length≤100000):Real c h a (.dict (kvs.map erp) ep):=
 e.stable.imp fun ob q=>⟨q.1,by rw [List.length_map]; exact hl,kvs,q.2,rfl⟩
noncomputable abbrev Froz:=Addr→Obj→Prop
structure Pv (c:Cx) (Z:Froz) (a:Addr):Prop where
 z:∀ o,¬ Z a o
 h:c.h₀.get? a=none
 t:a≠c.tab
structure IsCode (c:Cx) (H:AH) (h:Heap) (cc:Addr) (oc:Obj):Prop where
 e:h.get? cc=some oc
 cd:CodeO c oc
 off:H cc=none
structure Tab (c:Cx) (H:AH) (h:Heap) (ps:Array Value):Prop where
 e:h.get? c.tab=some (tabObj ps)
 ok:TriplesOk ps.toList
 cd:∀ pos cv,codeAmong pos ps.toList=some cv→∃ cc oc,cv=.ref cc∧IsCode c H h cc oc
 fn:∀ a z e cc,H a=some (.fn z e cc)→∃ oc,IsCode c H h cc oc
structure Still (c:Cx) (H:AH) (h:Heap) (a:Addr) (o:Obj):Prop where
 e:h.get? a=some o
 off:H a=none
 t:a≠c.tab
structure Rel (c:Cx) (Z:Froz) (H:AH) (s:Shared):Prop where
 ok:c.Ok
 fz:∀ a o,Z a o→Still c H s.heap a o
 base:∀ a o,c.h₀.get? a=some o→a≠c.tab→Still c H s.heap a o
 real:∀ a o,H a=some o→Real c s.heap a o
 nt:H c.tab=none
 tab:∃ ps,Tab c H s.heap ps
 gens:s.gens=#[]
 os:s.os=c.os₀
theorem none_of {α:Type} {o:Option α} (h:∀ x,o≠some x):o=none:=by
 cases o with
 | none=>rfl
 | some x=>exact absurd rfl (h x)
theorem nope {α:Type} {x:α} {P:Prop} (h:none=some x):P:=nomatch h
theorem no_some {α:Type} {o:Option α} {x:α} (h:o=none) (h':o=some x):False:=by rw [h] at h'; cases h'
section
variable {c:Cx} {Z:Froz} {H H':AH} {s:Shared} {h':Heap} {a:Addr} {o:AO} {tk:Nat} {dr:Drawn}
theorem Rel.tne (R:Rel c Z H s) (e:H a=some o):a≠c.tab:=fun q=>no_some R.nt (q▸e)
theorem Rel.pv (R:Rel c Z H s) (e:H a=some o):Pv c Z a:=
 ⟨fun ob z=>no_some (R.fz a ob z).off e,none_of fun ob q=>no_some (R.base a ob q (R.tne e)).off e,R.tne e⟩
theorem Rel.fresh (R:Rel c Z H s) (e:s.heap.get? a=none):Pv c Z a:=
 have ht:a≠c.tab:=fun q=>R.tab.elim fun ps T=>no_some (q▸e) T.e
 ⟨fun ob z=>no_some e (R.fz a ob z).e,none_of fun ob q=>no_some e (R.base a ob q ht).e,ht⟩
theorem Rel.freshH (R:Rel c Z H s) (e:s.heap.get? a=none):H a=none:=none_of fun o q=>(R.real a o q).elim fun ob q=>no_some e q.1
structure Chg (c:Cx) (Z:Froz) (H H':AH) (h h':Heap) (O:Addr→Prop):Prop where
 keep:∀ b ob,¬ O b→h.get? b=some ob→h'.get? b=some ob
 pv:∀ b,O b→Pv c Z b
 nc:∀ b ob,O b→h.get? b=some ob→CodeO c ob→H b≠none
 new:∀ b o,H' b=some o→(H b=some o∧¬ O b)∨(O b∧Real c h' b o)
 fn:∀ b z e cc,H' b=some (.fn z e cc)→H b=some (.fn z e cc)∨∃ oc,IsCode c H h cc oc
theorem Rel.to {O:Addr→Prop} (R:Rel c Z H s) (C:Chg c Z H H' s.heap h' O):Rel c Z H' ⟨h',s.gens,dr,tk,s.os⟩:=by
 have off:∀ b,H b=none→¬ O b→H' b=none:=fun b e no=>none_of fun o w=>(C.new b o w).elim (fun w=>no_some e w.1) fun w=>no w.1
 have st:∀ b ob,¬ O b→Still c H s.heap b ob→Still c H' h' b ob:=fun b ob no S=>⟨C.keep b ob no S.e,off b S.off no,S.t⟩
 have code:∀ cc oc,IsCode c H s.heap cc oc→IsCode c H' h' cc oc:=fun cc oc K=>
  have no:¬ O cc:=fun w=>C.nc _ _ w K.e K.cd K.off
  ⟨C.keep _ _ no K.e,K.cd,off _ K.off no⟩
 refine ⟨R.ok,fun b ob z=>st b ob (fun w=>(C.pv b w).z ob z) (R.fz b ob z),fun b ob z t=>st b ob (fun w=>no_some (C.pv b w).h z) (R.base b ob z t),fun b ob e=>?_,?_,?_,R.gens,R.os⟩
 ·exact (C.new b ob e).elim (fun w=>(R.real b ob w.1).keep fun _=>C.keep b _ w.2) fun w=>w.2
 ·exact none_of fun o w=>(C.new _ o w).elim (fun w=>no_some R.nt w.1) fun w=>(C.pv _ w.1).t rfl
 ·exact R.tab.imp fun ps T=>⟨C.keep _ _ (fun w=>(C.pv _ w).t rfl) T.e,T.ok,fun pos cv e=>(T.cd pos cv e).imp fun cc q=>q.imp fun oc q=>⟨q.1,code cc oc q.2⟩,
   fun b z e cc q=>(C.fn b z e cc q).elim (fun q=>(T.fn b z e cc q).imp fun oc=>code cc oc) fun q=>q.imp fun oc=>code cc oc⟩
theorem Rel.stays (R:Rel c Z H s) (k:∀ b ob,s.heap.get? b=some ob→h'.get? b=some ob):Rel c Z H ⟨h',s.gens,dr,tk,s.os⟩:=
 R.to (O:=fun _=>False) ⟨fun b ob _=>k b ob,fun _ f=>f.elim,fun _ _ f=>f.elim,fun _ _ e=>.inl ⟨e,id⟩,fun _ _ _ _=>.inl⟩
theorem Rel.toks (R:Rel c Z H s):Rel c Z H { s with toks:=tk }:=R.stays fun _ _ e=>e
theorem Rel.at1 {o':AO} (R:Rel c Z H s) (p:Pv c Z a) (nc:∀ ob,s.heap.get? a=some ob→CodeO c ob→H a≠none) (k:∀ b ob,b≠a→s.heap.get? b=some ob→h'.get? b=some ob) (r:Real c h' a o') (nf:∀ z e cc,o'=.fn z e cc→∃ oc,IsCode c H s.heap cc oc):Rel c Z (H.set a o') ⟨h',s.gens,dr,tk,s.os⟩:=
 R.to (O:=(·=a)) ⟨k,fun b q=>q▸p,fun b ob q=>q▸nc ob,fun b ob q=>(AH.of_set q).elim (fun q=>.inr ⟨q.1,by rw [q.1,q.2]; exact r⟩) fun q=>.inl ⟨q.2,q.1⟩,fun b z e cc q=>(AH.of_set q).elim (fun q=>.inr (nf z e cc q.2.symm)) fun q=>.inl q.2⟩
noncomputable def AO.plain:AO→Prop
 | .fn _ _ _=>False
 | _=>True
theorem AO.nf {o:AO} (h:o.plain) {P:Prop}:∀ z e cc,o=.fn z e cc→P:=fun z e cc q=>by subst q; exact h.elim
theorem Rel.upd {o':AO} (R:Rel c Z H s) (e:H a=some o) (k:∀ b ob,b≠a→s.heap.get? b=some ob→h'.get? b=some ob) (r:Real c h' a o') (nf:o'.plain:=by trivial):Rel c Z (H.set a o') ⟨h',s.gens,dr,tk,s.os⟩:=
 R.at1 (R.pv e) (fun _ _ _ q=>no_some q e) k r (fun z e cc q=>AO.nf nf z e cc q)
theorem Rel.own {ob:Obj} (R:Rel c Z H s) (e:s.heap.get? a=some ob) (p:Pv c Z a) (nc:¬ CodeO c ob) (hn:H a=none) (k:∀ b ob,b≠a→s.heap.get? b=some ob→h'.get? b=some ob):Rel c Z H ⟨h',s.gens,dr,tk,s.os⟩:=
 R.to (O:=(·=a)) ⟨k,fun b q=>q▸p,fun b ob' q e' cd=>absurd (Option.some.inj ((q▸e').symm.trans e)▸cd) nc,fun b ob q=>.inl ⟨q,fun w=>no_some hn (w▸q)⟩,fun _ _ _ _=>.inl⟩
theorem Rel.adopt {ob:Obj} (R:Rel c Z H s) (e:s.heap.get? a=some ob) (p:Pv c Z a) (nc:¬ CodeO c ob) (r:Real c s.heap a o) (nf:o.plain:=by trivial):Rel c Z (H.set a o) s:=
 R.at1 (h':=s.heap) p (fun ob' e' cd=>absurd (Option.some.inj (e'.symm.trans e)▸cd) nc) (fun _ _ _ e=>e) r (fun z e cc q=>AO.nf nf z e cc q)
theorem Rel.new (R:Rel c Z H s) (e:s.heap.get? a=none) (k:∀ b ob,s.heap.get? b=some ob→h'.get? b=some ob) (r:Real c h' a o) (nf:o.plain:=by trivial):Rel c Z (H.set a o) ⟨h',s.gens,dr,tk,s.os⟩:=
 R.at1 (R.fresh e) (fun _ e'=>(no_some e e').elim) (fun b ob _=>k b ob) r (fun z e cc q=>AO.nf nf z e cc q)
theorem Rel.weaken (R:Rel c Z H s) (b:Sub H' H):Rel c Z H' s:=
 have st:∀ a ob,Still c H s.heap a ob→Still c H' s.heap a ob:=fun a ob S=>⟨S.e,b.none S.off,S.t⟩
 have code:∀ cc oc,IsCode c H s.heap cc oc→IsCode c H' s.heap cc oc:=fun cc oc K=>⟨K.e,K.cd,b.none K.off⟩
 ⟨R.ok,fun a o z=>st a o (R.fz a o z),fun a o z t=>st a o (R.base a o z t),fun a o e=>R.real a o (b a o e),b.none R.nt,
  R.tab.imp fun ps T=>⟨T.e,T.ok,fun pos cv e=>(T.cd pos cv e).imp fun cc q=>q.imp fun oc q=>⟨q.1,code cc oc q.2⟩,fun a z e cc q=>(T.fn a z e cc (b _ _ q)).imp fun oc=>code cc oc⟩,R.gens,R.os⟩
theorem Rel.thaw {Z':Froz} (R:Rel c Z H s) (k:∀ a o,Z' a o→Z a o):Rel c Z' H s:={ R with fz:=fun a o z=>R.fz a o (k a o z) }
noncomputable abbrev All (c:Cx) (H:AH) (s:Shared) (P:Addr→Prop):Froz:=fun a o=>P a∧Still c H s.heap a o
theorem Rel.all {P:Addr→Prop} (R:Rel c Z H s):Rel c (All c H s P) H s:={ R with fz:=fun _ _ z=>z.2 }
theorem Rel.KIn (R:Rel c Z H s):c.K.In s.heap:=fun a o e=>(R.base a o (R.ok.KIn a o e) (R.ok.notab a o e)).e
theorem Rel.oldNs (R:Rel c Z H s) {m:Str→Option Value} (n:c.h₀.Ns a m):s.heap.Ns a m:=
 n.imp fun o n=>n.imp fun es n=>n.imp fun ep n=>⟨(R.base a o n.1 fun q=>R.ok.tabT.elim fun ps t=>by
  have:=n.2.1; rw [← Option.some.inj (n.1.symm.trans (q▸t)).symm] at this; cases this).e,n.2⟩
theorem Rel.nolimit (R:Rel c Z H s):s.heap.NoLimit:=R.ok.nolimit.imp fun mc n=>⟨R.oldNs n.1,n.2⟩
theorem Rel.notModules (R:Rel c Z H s) (e:H a=some o):(a == sysModules)=false:=
 beq_eq_false_iff_ne.mpr fun w=>R.ok.small.2.elim fun o' q=>no_some (R.pv e).h (w▸q)
end
theorem get?_ge_none {h:Heap} {a:Addr} (k:h.objs.size≤a):h.get? a=none:=none_of fun o e=>absurd (Heap.lt_size e) (Nat.not_lt.mpr k)
theorem get?_size_none (h:Heap):h.get? h.objs.size=none:=get?_ge_none (Nat.le_refl _)
structure Room (n:Nat) (A:Around):Prop where
 depth:A.depth + 4 * n < 900
 units:A.units + 100 * n < 9000
 handled:A.handled=none
theorem room_lt {a j k n m:Nat} (h:a + k * (n + 1) < m) (hj:j≤k):a + j + k * n < m:=Nat.lt_of_le_of_lt (by rw [Nat.mul_succ,Nat.add_comm (k * n),← Nat.add_assoc]; exact Nat.add_le_add_right (Nat.add_le_add_left hj a) _) h
theorem Room.cl {n:Nat} {A:Around} (r:Room n A):A.units + 900 < cLine:=Nat.lt_of_lt_of_le (Nat.add_lt_add_right (Nat.lt_of_le_of_lt (Nat.le_add_right _ _) r.units) 900) (by decide)
theorem Room.dp {n:Nat} {A:Around} (r:Room n A):A.depth < recursionLimit:=Nat.lt_of_le_of_lt (Nat.le_add_right _ _) (Nat.lt_trans r.depth (by decide))
noncomputable def PQ (c:Cx) (Z:Froz) {α:Type} (Q:α→AH→Prop):α→Shared→Prop:=fun v s'=>∃ H',Rel c Z H' s'∧Q v H'
noncomputable def TC (c:Cx) (n:Nat) {α:Type} (H:AH) (t:Sem α) (Q:α→AH→Prop):Prop:=∀ A Z s,Room n A→Rel c Z H s→wpAny c.M A t (PQ c Z Q) BOT s
theorem TC.loose {c:Cx} {n:Nat} {α:Type} {H:AH} {t:Sem α} {Q Q':α→AH→Prop} (h:TC c n H t Q) (k:∀ v H',Q v H'→∃ H'',Sub H'' H'∧Q' v H''):TC c n H t Q':=
 fun A Z s hr R=>wpAny_mono (h A Z s hr R) (fun v s' q=>q.elim fun H' q=>(k v H' q.2).imp fun H'' w=>⟨q.1.weaken w.1,w.2⟩) fun _ _ e=>e
structure Fm where
 env:Env
 own:Str→Bool
noncomputable abbrev Loc:=List (Option V)
noncomputable def Loc.at:Loc→Nat→Option V
 | [],_=>none
 | v::_,0=>v
 | _::r,i + 1=>Loc.at r i
theorem Loc.at_eq:∀ (ρ:Loc) (i:Nat),ρ.at i=(ρ[i]?).join
 | [],_=>rfl
 | v::_,0=>rfl
 | _::r,i + 1=>(Loc.at_eq r i).trans (by rw [List.getElem?_cons_succ])
noncomputable def NameAt (e:Env) (x:Str) (i:Nat) (k:NameKind):Prop:=e.scope.names[i]?=some (x,k)
noncomputable abbrev PlainName (x:Str):Prop:=(x == ("__debug__":Str))=false∧(x == ("__classdict__":Str))=false
structure Fe (fm:Fm) (names:List (Str × NameKind)):Prop where
 eq:fm.env.scope.names=names
 fn:fm.env.scope.kind=.function
 glob:fm.env.globals=mainGlobals
 blt:fm.env.builtins=builtinsNs
 nd:(names.map (·.1)).Nodup
 plain:∀ p∈names,PlainName p.1
structure CellOk (c:Cx) (Z:Froz) (fm:Fm) (H:AH) (h:Heap) (x:Str) (k:NameKind) (v:Option V) (a:Addr) (cv:Option Value):Prop where
 look:fm.env.cells.lookup x=some a
 cell:h.IsCell a cv
 val:cv.map er=v
 off:H a=none
 ne:a≠fm.env.locals
 t:a≠c.tab
 pv:k=.cell→fm.own x=true→Pv c Z a
structure LocOk (fm:Fm) (ρ:Loc) (h:Heap) (m:Str→Option Value):Prop where
 ns:h.Ns fm.env.locals m
 val:∀ i x,NameAt fm.env x i .local→(m x).map er=ρ.at i
structure RelF (c:Cx) (Z:Froz) (fm:Fm) (ρ:Loc) (H:AH) (s:Shared):Prop where
 rel:Rel c Z H s
 size:ρ.length=fm.env.scope.names.length
 ns:∃ m,LocOk fm ρ s.heap m
 cl:∀ i x k,NameAt fm.env x i k→k=.cell∨k=.free→∃ a cv,CellOk c Z fm H s.heap x k (ρ.at i) a cv
 off:H fm.env.locals=none
 pv:Pv c Z fm.env.locals
 inj:∀ i j x y k a,fm.own x=true→NameAt fm.env x i .cell→NameAt fm.env y j k→k=.cell∨k=.free→fm.env.cells.lookup x=some a→fm.env.cells.lookup y=some a→x=y
theorem ns_nocode {c:Cx} {h:Heap} {a:Addr} {m:Str→Option Value} (n:h.Ns a m):∃ o,h.get? a=some o∧¬ CodeO c o:=n.imp fun o n=>n.elim fun es n=>n.elim fun ep n=>⟨n.1,fun w=>w.elim fun vs w=>w.elim fun t w=>by rw [n.2.1] at w; cases w.1⟩
theorem cell_nocode {c:Cx} {h:Heap} {a:Addr} {v:Option Value} (n:h.IsCell a v):∃ o,h.get? a=some o∧¬ CodeO c o:=n.imp fun o n=>⟨n.1,fun w=>w.elim fun vs w=>w.elim fun t w=>by rw [n.2] at w; cases w.1⟩
noncomputable def PG (c:Cx) (Z:Froz) (fm:Fm) (ρ:Loc) {α:Type} (Q:α→AH→Prop):α→Shared→Prop:=fun v s'=>∃ H',RelF c Z fm ρ H' s'∧Q v H'
noncomputable def TG (c:Cx) (n:Nat) (fm:Fm) (ρ:Loc) {α:Type} (H:AH) (t:Sem α) (Q:α→AH→Prop):Prop:=∀ A Z s,Room n A→RelF c Z fm ρ H s→wpAny c.M A t (PG c Z fm ρ Q) BOT s
noncomputable def PF (c:Cx) (Z:Froz) (fm:Fm) {α:Type} (Q:α→Loc→AH→Prop):α→Shared→Prop:=fun v s'=>∃ ρ' H',RelF c Z fm ρ' H' s'∧Q v ρ' H'
noncomputable def TF (c:Cx) (n:Nat) (fm:Fm) (ρ:Loc) {α:Type} (H:AH) (t:Sem α) (Q:α→Loc→AH→Prop):Prop:=∀ A Z s,Room n A→RelF c Z fm ρ H s→wpAny c.M A t (PF c Z fm Q) BOT s
noncomputable abbrev TE (c:Cx) (n:Nat) (fm:Fm) (ρ:Loc) (H:AH) (e:Expr) (Q:V→AH→Prop):Prop:=TG c n fm ρ H (eval e fm.env) fun v=>Q (er v)
noncomputable abbrev TB (c:Cx) (n:Nat) (fm:Fm) (ρ:Loc) (H:AH) (e:Expr) (Q:Bool→AH→Prop):Prop:=TG c n fm ρ H (isTrue e fm.env (eval e fm.env)) Q
noncomputable abbrev TX (c:Cx) (n:Nat) (fm:Fm) (ρ:Loc) (H:AH) (st:Stmt) (Q:Fl→Loc→AH→Prop):Prop:=TF c n fm ρ H (exec st fm.env) fun v=>Q (erF v)
noncomputable abbrev TXs (c:Cx) (n:Nat) (fm:Fm) (ρ:Loc) (H:AH) (st:List Stmt) (Q:Fl→Loc→AH→Prop):Prop:=TF c n fm ρ H (execs st fm.env) fun v=>Q (erF v)
noncomputable abbrev TA (c:Cx) (n:Nat) (fm:Fm) (ρ:Loc) (H:AH) (t:Expr) (v:V) (Q:Loc→AH→Prop):Prop:=∀ raw,er raw=v→TF c n fm ρ H (assign t fm.env raw) fun _=>Q
section
variable {c:Cx} {n:Nat} {fm:Fm} {ρ:Loc} {H H':AH} {Z Z':Froz} {s s':Shared} {α:Type}
theorem Pv.thaw {a:Addr} (p:Pv c Z' a) (k:∀ a o,Z a o→Z' a o):Pv c Z a:={ p with z:=fun o z=>p.z o (k a o z) }
theorem RelF.thaw (R:RelF c Z' fm ρ H s) (k:∀ a o,Z a o→Z' a o):RelF c Z fm ρ H s:=
 { R with rel:=R.rel.thaw k,pv:=R.pv.thaw k,cl:=fun i x kd hx hk=>(R.cl i x kd hx hk).imp fun a q=>q.imp fun cv q=>{ q with pv:=fun h h'=>(q.pv h h').thaw k } }
theorem RelF.weaken (R:RelF c Z fm ρ H s) (b:Sub H' H):RelF c Z fm ρ H' s:=
 { R with rel:=R.rel.weaken b,off:=b.none R.off,cl:=fun i x kd hx hk=>(R.cl i x kd hx hk).imp fun a q=>q.imp fun cv q=>{ q with off:=b.none q.off } }
theorem RelF.re {P:Addr→Prop} (R:RelF c Z fm ρ H s) (R':Rel c (All c H s P) H' s') (hz:∀ a o,Z a o→P a) (h0:P fm.env.locals) (h1:∀ i x k a,NameAt fm.env x i k→k=.cell∨k=.free→fm.env.cells.lookup x=some a→P a):RelF c Z fm ρ H' s':=by
 have l:∀ o,s.heap.get? fm.env.locals=some o→Still c H' s'.heap fm.env.locals o:=fun o e=>R'.fz _ o ⟨h0,e,R.off,R.pv.t⟩
 refine ⟨R'.thaw fun a o z=>⟨hz a o z,R.rel.fz a o z⟩,R.size,R.ns.imp fun m q=>⟨q.ns.imp fun o w=>w.imp fun es w=>w.imp fun ep w=>⟨(l o w.1).e,w.2⟩,q.val⟩,fun i x kd hx hk=>(R.cl i x kd hx hk).imp fun a q=>q.imp fun cv q=>?cl,?off,R.pv,R.inj⟩
 case cl=>
  have w:∀ o,s.heap.get? a=some o→Still c H' s'.heap a o:=fun o e=>R'.fz _ o ⟨h1 i x kd a hx hk q.look,e,q.off,q.t⟩
  exact { q with cell:=q.cell.imp fun o e=>⟨(w o e.1).e,e.2⟩,off:=q.cell.elim fun o e=>(w o e.1).off }
 case off=>exact R.ns.elim fun m q=>q.ns.elim fun o w=>w.elim fun es w=>w.elim fun ep w=>(l o w.1).off
theorem RelF.re' (R:RelF c Z fm ρ H s) (R':Rel c (All c H s fun _=>True) H' s'):RelF c Z fm ρ H' s':=R.re R' (fun _ _ _=>trivial) trivial fun _ _ _ _ _ _ _=>trivial
theorem TC.run {A:Around} {t:Sem α} {q:α→AH→Prop} {W:α→Shared→Prop} (h:TC c n H t q) (hr:Room n A) (R:RelF c Z fm ρ H s) (k:∀ v s' H',RelF c Z fm ρ H' s'→q v H'→W v s'):wpAny c.M A t W BOT s:=
 wpAny_mono (h A _ s hr R.rel.all) (fun v s' w=>w.elim fun H' w=>k v s' H' (R.re' w.1) w.2) fun _ _ e=>e
theorem TG.run {A:Around} {t:Sem α} {q:α→AH→Prop} {W:α→Shared→Prop} (h:TG c n fm ρ H t q) (hr:Room n A) (R:RelF c Z fm ρ H s) (k:∀ v s' H',RelF c Z fm ρ H' s'→q v H'→W v s'):wpAny c.M A t W BOT s:=
 wpAny_mono (h A Z s hr R) (fun v s' w=>w.elim fun H' w=>k v s' H' w.1 w.2) fun _ _ e=>e
theorem TF.run {A:Around} {t:Sem α} {q:α→Loc→AH→Prop} {W:α→Shared→Prop} (h:TF c n fm ρ H t q) (hr:Room n A) (R:RelF c Z fm ρ H s) (k:∀ v s' ρ' H',RelF c Z fm ρ' H' s'→q v ρ' H'→W v s'):wpAny c.M A t W BOT s:=
 wpAny_mono (h A Z s hr R) (fun v s' w=>w.elim fun ρ' w=>w.elim fun H' w=>k v s' ρ' H' w.1 w.2) fun _ _ e=>e
theorem TG.mono {t:Sem α} {Q Q':α→AH→Prop} (h:TG c n fm ρ H t Q) (k:∀ v H',Q v H'→Q' v H'):TG c n fm ρ H t Q':=fun A Z s hr R=>h.run hr R fun v s' H' R' q=>⟨H',R',k v H' q⟩
theorem TF.mono {t:Sem α} {Q Q':α→Loc→AH→Prop} (h:TF c n fm ρ H t Q) (k:∀ v ρ' H',Q v ρ' H'→Q' v ρ' H'):TF c n fm ρ H t Q':=fun A Z s hr R=>h.run hr R fun v s' ρ' H' R' q=>⟨ρ',H',R',k v ρ' H' q⟩
theorem RelF.stays {h':Heap} {tk:Nat} {dr:Drawn} (R:RelF c Z fm ρ H s) (k:∀ b ob,s.heap.get? b=some ob→h'.get? b=some ob):RelF c Z fm ρ H ⟨h',s.gens,dr,tk,s.os⟩:=R.re' (R.rel.all.stays k)
theorem RelF.toks {tk:Nat} (R:RelF c Z fm ρ H s):RelF c Z fm ρ H { s with toks:=tk }:=R.stays fun _ _ e=>e
end
end Mine
namespace Mine
noncomputable def KeepOk (c:Cx) (H:AH) (f:V):Prop:=∀ Z s fv,er fv=f→Rel c Z H s→∃ k,Looks c.M s.heap (keeperOf fv) k
noncomputable def SlObj (h:Heap) (sl:Addr) (rl ru:Value):Prop:=h.get? sl=some { cls:=.type "slice",data:=.fields #[rl,ru,.none] }
noncomputable def GetX (c:Cx) (n:Nat) (v:V) (name:Str) (H:AH) (f:Value) (b:Bool):Prop:=
 ∀ raw,er raw=v→∀ (A:Around) (Z:Froz) (s:Shared) (pl:Sem Bool),Room n A→Rel c Z H s→∀ Q:Value × List Value→Shared→Prop,(∀ tk,Q (f,if b then [raw] else []) { s with toks:=tk })→wpAny c.M A (getMethod raw name pl) Q BOT s
noncomputable def ItemG (c:Cx) (Z:Froz) (A:Around) (s:Shared) (rv ri:Value) (Q:V→AH→Prop):Prop:=wpAny c.M A (getitemInPython rv) (fun b s1=>b=false∧wpAny c.M A (getItem rv ri) (PQ c Z fun r=>Q (er r)) BOT s1) BOT s
inductive JK where
 | bin (op:Operator) (a b:V) | inp (op:Operator) (a b:V) | cmp (op:CmpOp) (a b:V) | tru (a:V) | call (f:V) (args:List V)
 | attr (v:V) (m:Str) | seta (o:V) (m:Str) (v:V) | sets (o i v:V) | del (o i:V) | dels (o l:V) | item (v i:V) | slc (v l u:V) | star (f:V) (args:List V)
noncomputable def JK.sem (c:Cx) (n:Nat) (H:AH) (Q:V→AH→Prop):JK→Prop
 | .bin op a b=>∀ v u,er v=a→er u=b→TC c n H (binaryOp op v u) fun r=>Q (er r)
 | .inp op a b=>∀ v u,er v=a→er u=b→TC c n H (inplaceOp op v u) fun r=>Q (er r)
 | .cmp op a b=>∀ v u,er v=a→er u=b→TC c n H (compareOp op v u) fun r=>Q (er r)
 | .tru a=>∀ v,er v=a→TC c n H (truthy v) fun b=>Q (.bool b)
 | .call f args=>KeepOk c H f∧∀ fv vs,er fv=f→vs.map er=args→TC c n H (PySem.call fv vs []) fun r=>Q (er r)
 | .star f args=>(∀ Z s fv,er fv=f→Rel c Z H s→Looks c.M s.heap (keeperOf fv) .frame)∧∀ fv vs,er fv=f→vs.map er=args→TC c n H (PySem.call fv vs []) fun r=>Q (er r)
 | .attr v m=>∀ raw,er raw=v→TC c n H (getAttr raw m true) fun r=>Q (er r)
 | .seta o m v=>∀ ro rv,er ro=o→er rv=v→TC c n H (setAttr ro m rv) fun _=>Q .none
 | .sets o i v=>∀ ro ri rv,er ro=o→er ri=i→er rv=v→TC c n H (setItem ro ri rv) fun _=>Q .none
 | .del o i=>∀ ro ri,er ro=o→er ri=i→TC c n H (delItem ro ri) fun _=>Q .none
 | .dels o l=>∀ rv rl,er rv=o→er rl=l→∀ A Z s sl,Room n A→Rel c Z H s→SlObj s.heap sl rl .none→wpAny c.M A (delItem rv (.ref sl)) (PQ c Z fun _=>Q .none) BOT s
 | .item v i=>∀ rv ri,er rv=v→er ri=i→∀ A Z s,Room n A→Rel c Z H s→ItemG c Z A s rv ri Q
 | .slc v l u=>∀ rv rl ru,er rv=v→er rl=l→er ru=u→∀ A Z s sl,Room n A→Rel c Z H s→SlObj s.heap sl rl ru→ItemG c Z A s rv (.ref sl) Q
structure Jd (c:Cx) (n:Nat) (j:JK) (H:AH) (Q:V→AH→Prop):Prop where
 go:j.sem c n H Q
theorem PQ.mono {c:Cx} {Z:Froz} {α:Type} {Q Q':α→AH→Prop} {v:α} {s:Shared} (k:∀ v H,Q v H→∃ H',Sub H' H∧Q' v H') (h:PQ c Z Q v s):PQ c Z Q' v s:=h.elim fun H q=>(k v H q.2).imp fun H' w=>⟨q.1.weaken w.1,w.2⟩
theorem ItemG.mono {c:Cx} {Z:Froz} {A:Around} {s:Shared} {rv ri:Value} {Q Q':V→AH→Prop} (k:∀ v H,Q v H→∃ H',Sub H' H∧Q' v H') (h:ItemG c Z A s rv ri Q):ItemG c Z A s rv ri Q':=
 wpAny_mono h (fun b s1 q=>⟨q.1,wpAny_mono q.2 (fun v s q=>q.mono fun v H=>k _ H) fun _ _ e=>e⟩) fun _ _ e=>e
theorem Jd.mono {c:Cx} {n:Nat} {j:JK} {H:AH} {Q Q':V→AH→Prop} (h:Jd c n j H Q) (k:∀ v H,Q v H→∃ H',Sub H' H∧Q' v H'):Jd c n j H Q':=by
 have h:=h.go
 refine ⟨?_⟩
 cases j with
 | bin op a b=>exact fun v u e1 e2=>(h v u e1 e2).loose fun r H'=>k _ H'
 | inp op a b=>exact fun v u e1 e2=>(h v u e1 e2).loose fun r H'=>k _ H'
 | cmp op a b=>exact fun v u e1 e2=>(h v u e1 e2).loose fun r H'=>k _ H'
 | tru a=>exact fun v e=>(h v e).loose fun r H'=>k _ H'
 | call f args=>exact ⟨h.1,fun v u e1 e2=>(h.2 v u e1 e2).loose fun r H'=>k _ H'⟩
 | star f args=>exact ⟨h.1,fun v u e1 e2=>(h.2 v u e1 e2).loose fun r H'=>k _ H'⟩
 | attr v m=>exact fun v e=>(h v e).loose fun r H'=>k _ H'
 | seta o m v=>exact fun v u e1 e2=>(h v u e1 e2).loose fun r H'=>k _ H'
 | sets o i v=>exact fun v u x e1 e2 e3=>(h v u x e1 e2 e3).loose fun r H'=>k _ H'
 | del o i=>exact fun v u e1 e2=>(h v u e1 e2).loose fun r H'=>k _ H'
 | dels o l=>exact fun v u e1 e2 A Z s sl hr R hs=>wpAny_mono (h v u e1 e2 A Z s sl hr R hs) (fun v s q=>q.mono fun v H=>k _ H) fun _ _ e=>e
 | item v i=>exact fun v u e1 e2 A Z s hr R=>(h v u e1 e2 A Z s hr R).mono k
 | slc v l u=>exact fun v u x e1 e2 e3 A Z s sl hr R hs=>(h v u x e1 e2 e3 A Z s sl hr R hs).mono k
noncomputable abbrev BinT (c:Cx) (n:Nat) (op:Operator) (a b:V):=Jd c n (.bin op a b)
noncomputable abbrev InpT (c:Cx) (n:Nat) (op:Operator) (a b:V):=Jd c n (.inp op a b)
noncomputable abbrev CmpT (c:Cx) (n:Nat) (op:CmpOp) (a b:V):=Jd c n (.cmp op a b)
noncomputable abbrev TruthT (c:Cx) (n:Nat) (a:V):=Jd c n (.tru a)
noncomputable abbrev CallV (c:Cx) (n:Nat) (f:V) (args:List V):=Jd c n (.call f args)
noncomputable abbrev StarT (c:Cx) (n:Nat) (f:V) (args:List V):=Jd c n (.star f args)
noncomputable abbrev AttrT (c:Cx) (n:Nat) (v:V) (m:Str):=Jd c n (.attr v m)
noncomputable abbrev SetA (c:Cx) (n:Nat) (o:V) (m:Str) (v:V):=Jd c n (.seta o m v)
noncomputable abbrev SetT (c:Cx) (n:Nat) (o i v:V):=Jd c n (.sets o i v)
noncomputable abbrev DelT (c:Cx) (n:Nat) (o i:V):=Jd c n (.del o i)
noncomputable abbrev DelS (c:Cx) (n:Nat) (o l:V):=Jd c n (.dels o l)
noncomputable abbrev ItemT (c:Cx) (n:Nat) (v i:V):=Jd c n (.item v i)
noncomputable abbrev SliceT (c:Cx) (n:Nat) (v l u:V):=Jd c n (.slc v l u)
inductive Kd where
 | seq | range | zip | rev
inductive Code where
 | done | ret | brk | cont
 | cst (v:V) (k:Code) | ld (i:Nat) (k:Code) | st (i:Nat) (k:Code)
 | bin (op:Operator) (k:Code) | inp (op:Operator) (k:Code) | cmp (op:CmpOp) (k:Code) | chn (op:CmpOp) (r k:Code)
 | tru (k:Code) | nt (k:Code) | neg (k:Code)
 | ite (a b k:Code) | bra (b:Bool) (r k:Code) | brt (b:Bool) (r k:Code)
 | call (n:Nat) (k:Code) | star (k:Code) | gm (m:Str) (k:Code) | cm (n:Nat) (k:Code)
 | attr (m:Str) (k:Code) | sub (k:Code) | sl (k:Code)
 | lst (n:Nat) (k:Code) | tup (n:Nat) (k:Code) | dic (k:Code) | dic1 (k:Code)
 | pop (k:Code) | unp (n:Nat) (k:Code)
 | ssub (k:Code) | sattr (m:Str) (k:Code) | dsub (k:Code) | dsl (k:Code)
 | loop (d:Kd) (n:Nat) (b e k:Code) | whil (t b k:Code)
 | comp (d:Kd) (n:Nat) (cs:List (Option Nat)) (b k:Code)
 | comp2 (d:Kd) (n:Nat) (cs:List (Option Nat)) (p:Code) (d':Kd) (n':Nat) (b k:Code)
noncomputable abbrev KT:=Fl→List V→Loc→AH→Prop
noncomputable def KT.thn (f:List V→Loc→AH→Prop) (K:KT):KT
 | .next=>f
 | fl=>K fl
noncomputable abbrev p1 (st:List V) (f:V→List V→Prop):Prop:=match st with
 | v::st=>f v st
 | []=>False
noncomputable abbrev pB (v:V) (f:Bool→Prop):Prop:=match v with
 | .bool b=>f b
 | _=>False
noncomputable abbrev pO (v:Option V) (f:V→Prop):Prop:=match v with
 | some v=>f v
 | none=>False
noncomputable def pN:Nat→List V→List V→(List V→List V→Prop)→Prop
 | 0,st,a,P=>P a st
 | n + 1,v::st,a,P=>pN n st (v::a) P
 | _ + 1,[],_,_=>False
noncomputable def turn (Inv:Loc→AH→Prop) (K:KT):KT
 | .next,_,ρ,H=>∃ H',Sub H' H∧Inv ρ H'
 | .cont,_,ρ,H=>∃ H',Sub H' H∧Inv ρ H'
 | .brk,_,ρ,H=>K .next [] ρ H
 | .ret v,_,ρ,H=>K (.ret v) [] ρ H
noncomputable def emit (Inv:List V→Loc→AH→Prop) (acc:List V):KT
 | .next,[v],ρ,H=>∃ H',Sub H' H∧Inv (acc++[v]) ρ H'
 | .cont,_,ρ,H=>∃ H',Sub H' H∧Inv acc ρ H'
 | _,_,_,_=>False
noncomputable def IterV (H:AH) (d:Kd) (args:List V) (it:List (List V)) (src:AH→Prop):Prop:=match d with
 | .seq=>(∃ l vs,args=[.ref l]∧H l=some (.list vs)∧it=vs.map ([·])∧src=fun H'=>H' l=some (.list vs))∨∃ l es ep,args=[.ref l]∧H l=some (.dict es (some ep))∧it=es.map (fun p=>[.int p.1])∧src=fun H'=>H' l=some (.dict es (some ep))
 | .rev=>∃ l vs,args=[.ref l]∧H l=some (.list vs)∧it=vs.reverse.map ([·])∧src=fun H'=>H' l=some (.list vs)
 | .zip=>∃ l m vs us,args=[.ref l,.ref m]∧H l=some (.list vs)∧H m=some (.list us)∧it=List.zipWith (fun v u=>[v,u]) vs us∧src=fun H'=>H' l=some (.list vs)∧H' m=some (.list us)
 | .range=>src=(fun _=>True)∧∃ n:Nat,args=[.int n]∧n≤100000∧it=(List.range n).map (fun i:Nat=>[.int i])
theorem IterV.list {H:AH} {l:Addr} {vs:List V} (e:H l=some (.list vs)):IterV H .seq [.ref l] (vs.map ([·])) fun H'=>H' l=some (.list vs):=.inl ⟨l,vs,rfl,e,rfl,rfl⟩
theorem IterV.keys {H:AH} {l:Addr} {es:List (Int × V)} {ep:Nat} (e:H l=some (.dict es (some ep))):IterV H .seq [.ref l] (es.map (fun p=>[.int p.1])) fun H'=>H' l=some (.dict es (some ep)):=.inr ⟨l,es,ep,rfl,e,rfl,rfl⟩
theorem IterV.rev {H:AH} {l:Addr} {vs:List V} (e:H l=some (.list vs)):IterV H .rev [.ref l] (vs.reverse.map ([·])) fun H'=>H' l=some (.list vs):=⟨l,vs,rfl,e,rfl,rfl⟩
theorem IterV.zip {H:AH} {l m:Addr} {vs us:List V} (e:H l=some (.list vs)) (e':H m=some (.list us)):IterV H .zip [.ref l,.ref m] (List.zipWith (fun v u=>[v,u]) vs us) fun H'=>H' l=some (.list vs)∧H' m=some (.list us):=⟨l,m,vs,us,rfl,e,e',rfl,rfl⟩
theorem IterV.rng {H:AH} {n:Nat} (h:n≤100000):IterV H .range [.int n] ((List.range n).map (fun i:Nat=>[.int i])) fun _=>True:=⟨rfl,n,rfl,h,rfl⟩
noncomputable def HeldW (H:AH) (P:AH→Prop):Prop:=P H∨∃ d es,H d=some (.dict es none)∧∀ ep,P (H.set d (.dict es (some ep)))
structure LoopW (H:AH) (d:Kd) (args:List V) (it:List (List V)) (src:AH→Prop) (Inv:Nat→Loc→AH→Prop) (ρ:Loc) (go:Nat→List V→Loc→AH→Prop) (end_:Loc→AH→Prop):Prop where
 iter:IterV H d args it src
 h0:Inv 0 ρ H
 src:∀ i ρ H,Inv i ρ H→src H
 step:∀ i xs ρ H,it[i]?=some xs→Inv i ρ H→go i xs ρ H
 fin:∀ ρ H,Inv it.length ρ H→end_ ρ H
structure CompW (H:AH) (d:Kd) (args:List V) (it:List (List V)) (src:AH→Prop) (Inv:Nat→List V→Loc→AH→Prop) (acc:List V) (ρ:Loc) (go:Nat→List V→List V→Loc→AH→Prop) (end_:List V→Loc→AH→Prop):Prop where
 iter:IterV H d args it src
 len:acc.length + it.length≤100000
 h0:Inv 0 acc ρ H
 src:∀ i acc ρ H,Inv i acc ρ H→src H
 step:∀ i acc xs ρ H,it[i]?=some xs→Inv i acc ρ H→go i acc xs ρ H
 fin:∀ acc ρ H,Inv it.length acc ρ H→end_ acc ρ H
section
variable (c:Cx) (n:Nat)
noncomputable def wTruth (v:V) (H:AH) (Q:V→AH→Prop):Prop:=match v with
 | .bool b=>Q (.bool b) H
 | .int x=>Q (.bool (x != 0)) H
 | .none=>Q (.bool false) H
 | v=>TruthT c n v H Q
noncomputable def wBinI (op:Operator) (x y:Int) (H:AH) (Q:V→AH→Prop):Prop:=match op with
 | .Add=>Q (.int (x + y)) H
 | .Sub=>Q (.int (x - y)) H
 | .BitAnd=>Q (.int (Builtin.bitAnd x y)) H
 | .Mod=>0 < y∧Q (.int (x % y)) H
 | .FloorDiv=>(0 < y∧y < 1073741824)∧Q (.int (x / y)) H
 | op=>BinT c n op (.int x) (.int y) H Q
noncomputable def wBin (op:Operator) (a b:V) (H:AH) (Q:V→AH→Prop):Prop:=match a with
 | .int x=>match b with
  | .int y=>wBinI c n op x y H Q
  | b=>BinT c n op (.int x) b H Q
 | a=>BinT c n op a b H Q
noncomputable def wInpA (x:Int) (b:V) (H:AH) (Q:V→AH→Prop):Prop:=match b with
 | .int y=>Q (.int (x + y)) H
 | .bool b=>Q (.int (x + if b=true then 1 else 0)) H
 | b=>InpT c n .Add (.int x) b H Q
noncomputable def wInp (op:Operator) (a b:V) (H:AH) (Q:V→AH→Prop):Prop:=match a with
 | .int x=>match op with
  | .Add=>wInpA c n x b H Q
  | op=>InpT c n op (.int x) b H Q
 | a=>InpT c n op a b H Q
noncomputable def cmpI (op:CmpOp) (x y:Int):Option Bool:=match op with
 | .Eq=>some (decide (x=y))
 | .NotEq=>some (decide (x≠y))
 | .Lt=>some (decide (x < y))
 | .LtE=>some (decide (x≤y))
 | .Gt=>some (decide (y < x))
 | .GtE=>some (decide (y≤x))
 | _=>none
noncomputable def wCmp (op:CmpOp) (a b:V) (H:AH) (Q:V→AH→Prop):Prop:=match a with
 | .int x=>match b with
  | .int y=>match cmpI op x y with
   | some r=>Q (.bool r) H
   | none=>CmpT c n op (.int x) (.int y) H Q
  | b=>CmpT c n op (.int x) b H Q
 | a=>CmpT c n op a b H Q
noncomputable def wNeg (v:V) (f:V→Prop):Prop:=match v with
 | .int i=>f (.int (-i))
 | _=>False
noncomputable def w:Code→List V→Loc→AH→KT→Prop
 | .done,st,ρ,H,K=>K .next st ρ H
 | .ret,st,ρ,H,K=>p1 st fun v _=>K (.ret v) [] ρ H
 | .brk,st,ρ,H,K=>K .brk [] ρ H
 | .cont,st,ρ,H,K=>K .cont [] ρ H
 | .cst v k,st,ρ,H,K=>w k (v::st) ρ H K
 | .ld i k,st,ρ,H,K=>pO (ρ.at i) fun v=>w k (v::st) ρ H K
 | .st i k,st,ρ,H,K=>p1 st fun v st=>w k st (ρ.set i (some v)) H K
 | .bin op k,st,ρ,H,K=>p1 st fun b st=>p1 st fun a st=>wBin c n op a b H fun r H'=>w k (r::st) ρ H' K
 | .inp op k,st,ρ,H,K=>p1 st fun b st=>p1 st fun a st=>wInp c n op a b H fun r H'=>w k (r::st) ρ H' K
 | .cmp op k,st,ρ,H,K=>p1 st fun b st=>p1 st fun a st=>wCmp c n op a b H fun r H'=>w k (r::st) ρ H' K
 | .chn op r k,st,ρ,H,K=>p1 st fun b st=>p1 st fun a st=>wCmp c n op a b H fun v H1=>wTruth c n v H1 fun z H2=>pB z fun z=>if z=true then w r (b::st) ρ H2 (fun _ st ρ H=>w k st ρ H K) else w k (.bool false::st) ρ H2 K
 | .tru k,st,ρ,H,K=>p1 st fun v st=>wTruth c n v H fun z H'=>pB z fun b=>w k (.bool b::st) ρ H' K
 | .nt k,st,ρ,H,K=>p1 st fun v st=>pB v fun b=>w k (.bool (!b)::st) ρ H K
 | .neg k,st,ρ,H,K=>p1 st fun v st=>wNeg v fun v=>w k (v::st) ρ H K
 | .ite a b k,st,ρ,H,K=>p1 st fun v st=>pB v fun z=>if z=true then w a st ρ H (KT.thn (fun st ρ H=>w k st ρ H K) K) else w b st ρ H (KT.thn (fun st ρ H=>w k st ρ H K) K)
 | .bra b r k,st,ρ,H,K=>p1 st fun v st=>wTruth c n v H fun z H'=>pB z fun z=>if z=b then w r st ρ H' (KT.thn (fun st ρ H=>w k st ρ H K) K) else w k (v::st) ρ H' K
 | .brt b r k,st,ρ,H,K=>p1 st fun v st=>pB v fun z=>if z=b then w r st ρ H (KT.thn (fun st ρ H=>w k st ρ H K) K) else w k (.bool z::st) ρ H K
 | .call n' k,st,ρ,H,K=>pN n' st [] fun args st=>p1 st fun f st=>CallV c n f args H fun r H'=>w k (r::st) ρ H' K
 | .star k,st,ρ,H,K=>p1 st fun l st=>p1 st fun f st=>∃ lr vs,l=.ref lr∧H lr=some (.list vs)∧StarT c n f vs H fun r H'=>w k (r::st) ρ H' K
 | .gm m k,st,ρ,H,K=>p1 st fun v st=>∃ f b,GetX c n v m H f b∧w k (er f::.bool b::v::st) ρ H K
 | .cm n' k,st,ρ,H,K=>pN n' st [] fun args st=>p1 st fun f st=>p1 st fun b st=>p1 st fun v st=>pB b fun b=>CallV c n f (if b=true then v::args else args) H fun r H'=>w k (r::st) ρ H' K
 | .attr m k,st,ρ,H,K=>p1 st fun v st=>AttrT c n v m H fun r H'=>w k (r::st) ρ H' K
 | .sub k,st,ρ,H,K=>p1 st fun i st=>p1 st fun v st=>ItemT c n v i H fun r H'=>w k (r::st) ρ H' K
 | .sl k,st,ρ,H,K=>p1 st fun u st=>p1 st fun l st=>p1 st fun v st=>SliceT c n v l u H fun r H'=>w k (r::st) ρ H' K
 | .lst n' k,st,ρ,H,K=>pN n' st [] fun vs st=>∀ D,H D=none→w k (.ref D::st) ρ (H.set D (.list vs)) K
 | .tup n' k,st,ρ,H,K=>pN n' st [] fun vs st=>∀ D,H D=none→w k (.ref D::st) ρ (H.set D (.tup vs)) K
 | .dic k,st,ρ,H,K=>∀ D,H D=none→w k (.ref D::st) ρ (H.set D (.dict [] none)) K
 | .dic1 k,st,ρ,H,K=>p1 st fun v st=>p1 st fun i st=>p1 st fun d st=>∃ j a,i=.int j∧d=.ref a∧H a=some (.dict [] none)∧w k (.ref a::st) ρ (H.set a (.dict [(j,v)] none)) K
 | .pop k,st,ρ,H,K=>p1 st fun v st=>v=.none∧w k st ρ H K
 | .unp n' k,st,ρ,H,K=>p1 st fun v st=>∃ l vs,v=.ref l∧H l=some (.tup vs)∧vs.length=n'∧w k (vs++st) ρ H K
 | .ssub k,st,ρ,H,K=>p1 st fun i st=>p1 st fun o st=>p1 st fun v st=>SetT c n o i v H fun _ H'=>w k st ρ H' K
 | .sattr m k,st,ρ,H,K=>p1 st fun o st=>p1 st fun v st=>SetA c n o m v H fun _ H'=>w k st ρ H' K
 | .dsub k,st,ρ,H,K=>p1 st fun i st=>p1 st fun o st=>DelT c n o i H fun _ H'=>w k st ρ H' K
 | .dsl k,st,ρ,H,K=>p1 st fun l st=>p1 st fun o st=>DelS c n o l H fun _ H'=>w k st ρ H' K
 | .loop d n' b e k,st,ρ,H,K=>pN n' st [] fun args st=>HeldW H fun H=>∃ it src Inv,LoopW H d args it src Inv ρ (fun i xs ρ H=>w b xs ρ H (turn (Inv (i + 1)) (KT.thn (fun _ ρ H=>w k st ρ H K) K))) (fun ρ H=>w e [] ρ H (KT.thn (fun _ ρ H=>w k st ρ H K) K))
 | .whil t b k,st,ρ,H,K=>∃ Inv:Nat→Loc→AH→Prop,(∃ m,Inv m ρ H)∧∀ m ρ H,Inv m ρ H→w t [] ρ H fun _ st1 _ H=>p1 st1 fun v _=>pB v fun z=>
   if z=true then w b [] ρ H (turn (fun ρ H=>∃ m',m' < m∧Inv m' ρ H) (KT.thn (fun _ ρ H=>w k st ρ H K) K)) else w k st ρ H K
 | .comp d n' cs b k,st,ρ,H,K=>pN n' st [] fun args st=>∃ it src Inv,CompW H d args it src Inv [] (cs.map fun i=>i.bind ρ.at) (fun i acc xs ρ H=>w b xs ρ H (emit (Inv (i + 1)) acc)) (fun acc _ H=>∀ D,H D=none→w k (.ref D::st) ρ (H.set D (.list acc)) K)
 | .comp2 d n' cs p d' n2 b k,st,ρ,H,K=>pN n' st [] fun args st=>∃ it src Inv,CompW H d args it src Inv [] (cs.map fun i=>i.bind ρ.at)
   (fun i acc xs ρ H=>w p xs ρ H fun _ st ρ H=>pN n2 st [] fun args _=>∃ it' src' Jnv,CompW H d' args it' src' Jnv acc ρ (fun j acc xs ρ H=>w b xs ρ H (emit (Jnv (j + 1)) acc)) (fun acc ρ H=>∃ H',Sub H' H∧Inv (i + 1) acc ρ H'))
   (fun acc _ H=>∀ D,H D=none→w k (.ref D::st) ρ (H.set D (.list acc)) K)
end
end Mine
set_option genSizeOfSpec true
set_option genInjectivity true
namespace Mine
theorem lookup_of_at {l:List (Str × NameKind)} (nd:(l.map (·.1)).Nodup):∀ {i:Nat} {x:Str} {k:NameKind},l[i]?=some (x,k)→l.lookup x=some k:=by
 induction l with
 | nil=>intro i x k e; cases e
 | cons p r ih=>
  intro i x k e
  rw [List.map_cons,List.nodup_cons] at nd
  cases i with
  | zero=>cases e; exact List.lookup_cons_self
  | succ j=>
   have hne:(x == p.1)=false:=beq_eq_false_iff_ne.mpr fun q=>nd.1 (q▸List.mem_map.mpr ⟨_,List.mem_of_getElem? (l:=r) e,rfl⟩)
   rw [List.lookup_cons,hne]; exact ih nd.2 e
theorem at_inj {l:List (Str × NameKind)} (nd:(l.map (·.1)).Nodup) {i j:Nat} {x:Str} {k k':NameKind} (e:l[i]?=some (x,k)) (e':l[j]?=some (x,k')):i=j:=
 (List.getElem?_inj (by rw [List.length_map]; exact (List.getElem?_eq_some_iff.mp e).1) nd).mp (by rw [List.getElem?_map,List.getElem?_map,e,e']; rfl)
noncomputable abbrev Names:=List (Str × NameKind)
section
variable {c:Cx} {n:Nat} {fm:Fm} {ρ:Loc} {H:AH} {Q:V→AH→Prop} {names:Names} {Z:Froz} {A:Around} {s:Shared}
theorem Fe.at_ (F:Fe fm names) {x:Str} {i:Nat} {k:NameKind} (h:names[i]?=some (x,k)):NameAt fm.env x i k:=by
 show fm.env.scope.names[i]?=_
 rw [F.eq]; exact h
theorem Fe.kind (F:Fe fm names) {x:Str} {i:Nat} {k:NameKind} (h:names[i]?=some (x,k)):fm.env.kindOf x=some k:=by
 show fm.env.scope.names.lookup x=_
 rw [F.eq]; exact lookup_of_at F.nd h
noncomputable abbrev Own (k:NameKind):Prop:=k=.local∨k=.cell∨k=.free
theorem load_nm {x:Str} {i:Nat} {k:NameKind} {v:V} {W:Value→Shared→Prop} (F:Fe fm names) (hx:names[i]?=some (x,k)) (hk:Own k) (hv:ρ.at i=some v) (R:RelF c Z fm ρ H s) (h:∀ raw,er raw=v→W raw s):wpAny c.M A (loadName fm.env x) W BOT s:=by
 have kd:=F.kind hx
 rcases hk with rfl | hk
 ·refine R.ns.elim fun m q=>?_
  obtain ⟨raw,e1,e2⟩:=Option.map_eq_some_iff.mp ((q.val i x (F.at_ hx)).trans hv)
  exact wpAny_loadName_local F.fn kd q.ns e1 (h raw e2)
 ·refine (R.cl i x k (F.at_ hx) hk.symm.symm).elim fun a q=>q.elim fun cv q=>?_
  obtain ⟨raw,rfl,e2⟩:=Option.map_eq_some_iff.mp (q.val.trans hv)
  rcases hk with rfl | rfl
  ·exact wpAny_loadName_cell F.fn kd q.look q.cell (h raw e2)
  ·exact wpAny_loadName_free F.fn kd q.look q.cell (h raw e2) (F.plain _ (List.mem_of_getElem? hx)).2
theorem TE.nm {x:Str} {pos:Pos} {i:Nat} {k:NameKind} {v:V} (F:Fe fm names) (hx:names[i]?=some (x,k)) (hk:Own k) (hv:ρ.at i=some v) (h:Q v H):TE c n fm ρ H (.Name x pos) Q:=
 fun A Z s hr R=>wpAny_Name (load_nm F hx hk hv R fun raw e=>⟨H,R,by subst e; exact h⟩) (F.plain _ (List.mem_of_getElem? hx)).1
structure Glo (c:Cx) (gs bs:List (Str × Value)):Prop where
 g:∀ x v,gs.lookup x=some v→c.mg x=some v
 b:∀ x v,bs.lookup x=some v→c.mg x=none∧c.mb x=some v
theorem TE.glob {x:Str} {pos:Pos} {i:Nat} {v:Value} (F:Fe fm names) (hx:names[i]?=some (x,.globalImplicit)) (hv:c.mg x=some v∨(c.mg x=none∧c.mb x=some v)) (h:Q (er v) H):TE c n fm ρ H (.Name x pos) Q:=by
 intro A Z s hr R
 refine Name_function_global F.fn (F.kind hx) ?_ (F.plain _ (List.mem_of_getElem? hx)).1
 have g:=R.rel.oldNs R.rel.ok.g
 rcases hv with hv | hv
 ·exact loadGlobal_global (F.glob▸g) hv ⟨H,R,h⟩
 ·exact loadGlobal_builtin (F.glob▸g) hv.1 (F.blt▸R.rel.oldNs R.rel.ok.b) hv.2 ⟨H,R,h⟩
theorem TE.cint {i:Int} {k:Nat} {pos:Pos} (h:Q (.int i) H):TE c n fm ρ H (.Constant (.int i) k pos) Q:=fun A Z s hr R=>wpAny_Constant_int ⟨H,R.toks,h⟩
theorem TE.cnone {k:Nat} {pos:Pos} (h:Q .none H):TE c n fm ρ H (.Constant .none k pos) Q:=fun A Z s hr R=>wpAny_Constant_none ⟨H,R,h⟩
theorem TE.cbool {b:Bool} {k:Nat} {pos:Pos} (h:Q (.bool b) H):TE c n fm ρ H (.Constant (.bool b) k pos) Q:=fun A Z s hr R=>wpAny_Constant_bool ⟨H,R,h⟩
theorem TE.bin {l r:Expr} {op:Operator} {pos:Pos} (h:TE c n fm ρ H l fun a H1=>TE c n fm ρ H1 r fun b H2=>BinT c n op a b H2 Q):TE c n fm ρ H (.BinOp l op r pos) Q:=
 fun A Z s hr R=>wpAny_BinOp (h.run hr R fun v s1 H1 R1 h1=>h1.run hr R1 fun u s2 H2 R2 h2=>(h2.go v u rfl rfl).run hr R2 fun r s3 H3 R3 q=>⟨H3,R3,q⟩)
theorem TE.cmp {l r:Expr} {op:CmpOp} {pos:Pos} (h:TE c n fm ρ H l fun a H1=>TE c n fm ρ H1 r fun b H2=>CmpT c n op a b H2 Q) (hm:behindInMarks op r=false):TE c n fm ρ H (.Compare l [op] [r] pos) Q:=
 fun A Z s hr R=>wpAny_Compare1 (h.run hr R fun v s1 H1 R1 h1=>h1.run hr R1 fun u s2 H2 R2 h2=>(h2.go v u rfl rfl).run hr R2 fun r s3 H3 R3 q=>⟨H3,R3,q⟩) hm
theorem TB.cmp {l r:Expr} {op:CmpOp} {pos:Pos} {Q:Bool→AH→Prop} (h:TE c n fm ρ H l fun a H1=>TE c n fm ρ H1 r fun b H2=>CmpT c n op a b H2 fun v H3=>TruthT c n v H3 fun z H4=>pB z fun b=>Q b H4) (hm:behindInMarks op r=false):TB c n fm ρ H (.Compare l [op] [r] pos) Q:=
 fun A Z s hr R=>wpAny_isTrue_Compare1 (h.run hr R fun v s1 H1 R1 h1=>h1.run hr R1 fun u s2 H2 R2 h2=>(h2.go v u rfl rfl).run hr R2 fun r s3 H3 R3 q=>(q.go r rfl).run hr R3 fun b s4 H4 R4 q=>⟨H4,R4,q⟩) hm
theorem TB.not {e:Expr} {pos:Pos} {Q:Bool→AH→Prop} (h:TB c n fm ρ H e fun b H1=>Q (!b) H1):TB c n fm ρ H (.UnaryOp .Not e pos) Q:=fun A Z s hr R=>wpAny_isTrue_Not (h A Z s hr R)
theorem TB.val {e:Expr} {Q:Bool→AH→Prop} (h:TE c n fm ρ H e fun v H1=>TruthT c n v H1 fun z H2=>pB z fun b=>Q b H2) (he:∀ env whole,isTrue e env whole=(do let v ← whole; standAt e.pos; holding [v] (truthy v))):TB c n fm ρ H e Q:=
 fun A Z s hr R=>wpAny_isTrue_value (h.run hr R fun v s1 H1 R1 h1=>(h1.go v rfl).run hr R1 fun b s2 H2 R2 q=>⟨H2,R2,q⟩) (he _ _)
noncomputable abbrev TAll (c:Cx) (n:Nat) (fm:Fm) (ρ:Loc) (H:AH) (op:BoolOp) (es:List Expr) (Q:Bool→AH→Prop):Prop:=TG c n fm ρ H (allTrue op es fm.env) Q
noncomputable def bop:BoolOp→Bool
 | .And=>true
 | .Or=>false
theorem TB.boolOp {op:BoolOp} {es:List Expr} {pos:Pos} {Q:Bool→AH→Prop} (h:TAll c n fm ρ H op es Q):TB c n fm ρ H (.BoolOp op es pos) Q:=fun A Z s hr R=>wpAny_isTrue_BoolOp (h A Z s hr R)
theorem TAll.nil {op:BoolOp} {Q:Bool→AH→Prop} (h:Q (bop op) H):TAll c n fm ρ H op [] Q:=fun A Z s hr R=>by
 cases op with
 | And=>exact wpAny_allTrue_And_nil ⟨H,R,h⟩
 | Or=>exact wpAny_allTrue_Or_nil ⟨H,R,h⟩
theorem TAll.cons {op:BoolOp} {e:Expr} {es:List Expr} {Q:Bool→AH→Prop} (h:TB c n fm ρ H e fun b H1=>if b=bop op then TAll c n fm ρ H1 op es Q else Q b H1):TAll c n fm ρ H op (e::es) Q:=fun A Z s hr R=>by
 cases op with
 | And=>exact wpAny_allTrue_And_cons (h.run hr R fun b s' H' R' q=>by cases b with | true=>exact q A Z s' hr R' | false=>exact ⟨H',R',q⟩)
 | Or=>exact wpAny_allTrue_Or_cons (h.run hr R fun b s' H' R' q=>by cases b with | false=>exact q A Z s' hr R' | true=>exact ⟨H',R',q⟩)
theorem TE.ifExp {t a b:Expr} {pos:Pos} (h:TB c n fm ρ H t fun z H1=>if z=true then TE c n fm ρ H1 a Q else TE c n fm ρ H1 b Q):TE c n fm ρ H (.IfExp t a b pos) Q:=
 fun A Z s hr R=>wpAny_IfExp (h.run hr R fun z s' H' R' q=>by cases z <;> exact q A Z s' hr R')
theorem wpAny_Or_cons {M:Model} {E:Value→Shared→Prop} {env:Env} {x y:Expr} {rest:List Expr} {pos:Pos} {Q:Value→Shared→Prop}
  (h:wpAny M A (eval x env) (fun v s₁=>wpAny M A (truthy v) (fun t s₂=>if t then Q v s₂ else wpAny M A (eval (.BoolOp .Or (y::rest) pos) env) Q E s₂) E s₁) E s) :
  wpAny M A (eval (.BoolOp .Or (x::y::rest) pos) env) Q E s:=by
 show wpAny M A (boolOp pos .Or (eval x env::eval y env::evalEach rest env)) Q E s
 refine wpAny_bind (m:=eval x env) (wpAny_mono h (fun v s₁ h₁=>wpAny_bind (wpAny_standAt (wpAny_bind (wpAny_holding (wpAny_mono h₁ (fun t s₂ h₂=>?_) fun _ _ e=>e))))) fun _ _ e=>e)
 cases t with
 | true=>exact wpAny_pure h₂
 | false=>exact h₂
theorem TE.and2 {a b:Expr} {pos:Pos} (h:TE c n fm ρ H a fun v H1=>TruthT c n v H1 fun z H2=>pB z fun z=>if z=true then TE c n fm ρ H2 b Q else Q v H2):TE c n fm ρ H (.BoolOp .And [a,b] pos) Q:=
 fun A Z s hr R=>wpAny_And2 (h.run hr R fun v s1 H1 R1 h1=>(h1.go v rfl).run hr R1 fun z s2 H2 R2 q=>by cases z with | true=>exact q A Z s2 hr R2 | false=>exact ⟨H2,R2,q⟩)
theorem TE.or2 {a b:Expr} {pos:Pos} (h:TE c n fm ρ H a fun v H1=>TruthT c n v H1 fun z H2=>pB z fun z=>if z=false then TE c n fm ρ H2 b Q else Q v H2):TE c n fm ρ H (.BoolOp .Or [a,b] pos) Q:=
 fun A Z s hr R=>wpAny_Or2 (h.run hr R fun v s1 H1 R1 h1=>(h1.go v rfl).run hr R1 fun z s2 H2 R2 q=>by cases z with | false=>exact q A Z s2 hr R2 | true=>exact ⟨H2,R2,q⟩)
theorem TE.orMore {a b:Expr} {es:List Expr} {pos:Pos} (h:TE c n fm ρ H a fun v H1=>TruthT c n v H1 fun z H2=>pB z fun z=>if z=false then TE c n fm ρ H2 (.BoolOp .Or (b::es) pos) Q else Q v H2):TE c n fm ρ H (.BoolOp .Or (a::b::es) pos) Q:=
 fun A Z s hr R=>wpAny_Or_cons (h.run hr R fun v s1 H1 R1 h1=>(h1.go v rfl).run hr R1 fun z s2 H2 R2 q=>by cases z with | false=>exact q A Z s2 hr R2 | true=>exact ⟨H2,R2,q⟩)
theorem TE.not {e:Expr} {pos:Pos} (h:TE c n fm ρ H e fun v H1=>TruthT c n v H1 fun z H2=>pB z fun b=>Q (.bool (!b)) H2):TE c n fm ρ H (.UnaryOp .Not e pos) Q:=
 fun A Z s hr R=>wpAny_UnaryOp (h.run hr R fun v s1 H1 R1 h1=>not_value ((h1.go v rfl).run hr R1 fun z s2 H2 R2 q=>⟨H2,R2,q⟩))
theorem TE.neg {e:Expr} {pos:Pos} (h:TE c n fm ρ H e fun v H1=>wNeg v fun u=>Q u H1):TE c n fm ρ H (.UnaryOp .USub e pos) Q:=
 fun A Z s hr R=>wpAny_UnaryOp (h.run hr R fun v s1 H1 R1 q=>by cases v with | int i t=>exact neg_int ⟨H1,R1.toks,q⟩ | _=>exact q.elim)
theorem TB.chain {l m r:Expr} {o1 o2:CmpOp} {pos:Pos} {Q:Bool→AH→Prop}
  (h:TE c n fm ρ H l fun a H1=>TE c n fm ρ H1 m fun b H2=>CmpT c n o1 a b H2 fun v H3=>TruthT c n v H3 fun z H4=>pB z fun z=>if z=true then TE c n fm ρ H4 r fun d H5=>CmpT c n o2 b d H5 fun v' H6=>TruthT c n v' H6 fun z H7=>pB z fun b=>Q b H7 else Q false H4)
  (h2:behindInMarks o2 r=false):TB c n fm ρ H (.Compare l [o1,o2] [m,r] pos) Q:=by
 intro A Z s hr R
 show wpAny c.M A (do testChain pos (← eval l fm.env) [o1,o2] [eval m fm.env,markedBehindIn o2 r (eval r fm.env)]) _ _ s
 rw [markedBehindIn_of_false h2]
 refine wpAny_bind (h.run hr R fun a s1 H1 R1 q1=>?_)
 refine wpAny_bind (m:=holding [a] (eval m fm.env)) (wpAny_holding (q1.run hr R1 fun b s2 H2 R2 q2=>?_))
 refine wpAny_bind (wpAny_standAt (wpAny_bind (wpAny_holding ((q2.go a b rfl rfl).run hr R2 fun v s3 H3 R3 q3=>?_))))
 refine wpAny_bind (wpAny_release (wpAny_bind (wpAny_holding ((q3.go v rfl).run hr R3 fun z s4 H4 R4 q4=>?_))))
 cases z with
 | false=>exact wpAny_pure ⟨H4,R4,q4⟩
 | true=>
  replace q4:TE c n fm ρ H4 r fun d H5=>CmpT c n o2 (er b) d H5 fun v' H6=>TruthT c n v' H6 fun z H7=>pB z fun b=>Q b H7:=q4
  rw [if_pos rfl]
  refine wpAny_bind (m:=holding [b] (eval r fm.env)) (wpAny_holding (TG.run q4 hr R4 fun d s5 H5 R5 q5=>?_))
  exact wpAny_bind (wpAny_standAt (wpAny_bind (wpAny_operateT ((q5.go b d rfl rfl).run hr R5 fun v' s6 H6 R6 q6=>wpAny_holding ((q6.go v' rfl).run hr R6 fun z s7 H7 R7 q7=>⟨H7,R7,q7⟩)))))
noncomputable abbrev TArgs (c:Cx) (n:Nat) (fm:Fm) (ρ:Loc) (H:AH) (es:List Expr) (Q:List V→AH→Prop):Prop:=∀ p,TG c n fm ρ H (spliced (backTo p (starEach es fm.env))) fun vs=>Q (vs.map er)
theorem TArgs.nil {Q:List V→AH→Prop} (h:Q [] H):TArgs c n fm ρ H [] Q:=fun p A Z s hr R=>args_nil ⟨H,R,h⟩
noncomputable def plainArg:Expr→Bool
 | .Starred _ _=>false
 | _=>true
theorem star_cons {e:Expr} {r:List Expr} (h:plainArg e=true) (env:Env):starEach (e::r) env=(false,eval e env)::starEach r env∧assignEach (e::r) env=(false,assign e env)::assignEach r env:=by
 cases e <;> first | exact ⟨rfl,rfl⟩ | cases h
theorem TArgs.cons {e:Expr} {es:List Expr} {Q:List V→AH→Prop} (h:TE c n fm ρ H e fun v H1=>TArgs c n fm ρ H1 es fun vs H2=>Q (v::vs) H2) (he:plainArg e=true):TArgs c n fm ρ H (e::es) Q:=
 fun p A Z s hr R=>args_cons (h.run hr R fun v s1 H1 R1 h1=>(h1 p).run hr R1 fun vs s2 H2 R2 q=>⟨H2,R2,q⟩) (star_cons he _).1
theorem noStar_any (p:Pos) (env:Env):∀ {es:List Expr},es.all plainArg=true→(backTo p (starEach es env)).any (·.1)=false
 | [],_=>rfl
 | e::r,h=>by
  rw [List.all_cons,Bool.and_eq_true] at h
  rw [(star_cons h.1 env).1]
  show (false || (backTo p (starEach r env)).any (·.1))=false
  rw [Bool.false_or]; exact noStar_any p env h.2
theorem callWith_any {M:Model} {E:Value→Shared→Prop} {pos:Pos} {f:Value} {first:List Value} {args:List (Bool × Sem Value)} {Q:Value→Shared→Prop} (hplain:args.any (·.1)=false)
  (h:wpAny M A (spliced args) (fun vs s₁=>(∃ k,Looks M s₁.heap (keeperOf f) k)∧wpAny M A (call f (first++vs) []) Q E s₁) E s):wpAny M A (callWith pos f first args []) Q E s:=by
 unfold callWith
 have ha:wpAny M A (evalArgs f true args []) (fun a s₁=>∃ vs,a=⟨vs,[]⟩∧(∃ k,Looks M s₁.heap (keeperOf f) k)∧wpAny M A (call f (first++vs) []) Q E s₁) E s:=by
  cases args with
  | nil=>
   unfold evalArgs
   exact wpAny_bind (m:=spliced []) (wpAny_mono h (fun vs s₁ h₁=>wpAny_holding (wpAny_bind (wpAny_pure (wpAny_bind (wpAny_pure (wpAny_pure ⟨vs,rfl,h₁⟩)))))) fun _ _ e=>e)
  | cons x rest=>
   obtain ⟨b,t⟩:=x
   obtain rfl:b=false:=(Bool.or_eq_false_iff.mp hplain).1
   exact evalArgs_plain (wpAny_mono h (fun vs s₁ h₁=>⟨vs,rfl,h₁⟩) fun _ _ e=>e)
 refine wpAny_bind (wpAny_holding (wpAny_mono ha (fun a s₁ h₁=>wpAny_bind (wpAny_standAt ?_)) fun _ _ x=>x))
 obtain ⟨vs,rfl,⟨k,L⟩,hc⟩:=h₁
 simp only [hplain,List.any_nil,Bool.or_self]
 refine wpAny_bind (L.here ?_)
 have tail:∀ {t:Sem Value},wpAny M A t Q E s₁→wpAny M A (t >>= fun r=>holding [r] point >>= fun _=>pure r) Q E s₁:=
  fun ht=>wpAny_bind (wpAny_mono ht (fun r s₂ hr=>wpAny_bind (wpAny_holding (wpAny_point (wpAny_pure hr)))) fun _ _ x=>x)
 have marked (mk:Value):wpAny M A (callMarked mk f (first++vs) []) Q E s₁:=by unfold callMarked; exact Calls.wpAny_keep hc
 cases k <;> dsimp only <;> first | exact tail hc | exact tail (wpAny_operateT hc) | (split <;> first | exact tail hc | exact tail (marked _))
theorem CallV.run {f:Value} {vs:List Value} {W:Value→Shared→Prop} (h:CallV c n (er f) (vs.map er) H Q) (hr:Room n A) (R:RelF c Z fm ρ H s) (k:∀ r s' H',RelF c Z fm ρ H' s'→Q (er r) H'→W r s') :
  (∃ k,Looks c.M s.heap (keeperOf f) k)∧wpAny c.M A (PySem.call f vs []) W BOT s:=⟨h.go.1 _ _ f rfl R.rel,(h.go.2 f vs rfl rfl).run hr R k⟩
theorem TE.callV {func:Expr} {pos:Pos} {es:List Expr} (hs:es.all plainArg=true) (h:TE c n fm ρ H func fun f H1=>TArgs c n fm ρ H1 es fun vs H2=>CallV c n f vs H2 Q)
  (he:∀ env,eval (.Call func es [] pos) env=(do callWith pos (← eval func env) [] (backTo pos (starEach es env)) (backToKw pos (keywordEach [] env)))):TE c n fm ρ H (.Call func es [] pos) Q:=
 fun A Z s hr R=>Call_ (h.run hr R fun f s1 H1 R1 h1=>callWith_any (noStar_any _ _ hs) ((h1 pos).run hr R1 fun vs s2 H2 R2 q=>CallV.run q hr R2 fun r s3 H3 R3 q3=>⟨H3,R3,q3⟩)) (he _)
noncomputable def notCall:Expr→Bool
 | .Call ..=>false
 | _=>true
theorem base_of_notCall {o:Expr} (h:notCall o=true) (attr:Str) (env:Env) (w:Sem Value):attributeBase o attr env w=w:=by
 cases o <;> first | rfl | cases h
theorem TE.meth {o:Expr} {name:Str} {apos pos:Pos} {es:List Expr} (hs:es.all plainArg=true) (hb:notCall o=true) (hl:(apos.endLine == pos.line)=true) (hn:es.length < 10)
  (h:TE c n fm ρ H o fun v H1=>∃ f b,GetX c n v name H1 f b∧TArgs c n fm ρ H1 es fun vs H2=>CallV c n (er f) (if b=true then v::vs else vs) H2 Q):TE c n fm ρ H (.Call (.Attribute o name apos) es [] pos) Q:=by
 intro A Z s hr R
 rw [arm_eval_Call,base_of_notCall hb]
 refine wpAny_bind (h.run hr R fun ov s1 H1 R1 q=>q.elim fun f q=>q.elim fun b q=>wpAny_bind (wpAny_standAt ?_))
 have hform:methodCallForm (es.length + ([]:List Keyword).length) (backTo pos (starEach es fm.env)) (backToKw pos (keywordEach [] fm.env))=true:=by
  have hall:(backTo pos (starEach es fm.env)).all (fun x=>!x.1)=true:=by
   rw [List.all_eq_not_any_not]; simpa using noStar_any pos fm.env hs
  unfold methodCallForm
  rw [hall]
  exact decide_eq_true (Nat.lt_trans hn (by decide))
 have hpos:methodCallPos true o fm.env apos pos=pure pos:=by unfold methodCallPos; rw [hl]; rfl
 unfold methodCall
 rw [hform]
 refine wpAny_bind (wpAny_holding (q.1 ov rfl A _ s1 _ hr R1.rel _ fun tk=>wpAny_bind (wpAny_of_eq hpos (callWith_any (noStar_any _ _ hs) ((q.2 pos).run hr (R1.toks (tk:=tk)) fun vs s2 H2 R2 q=>?_)))))
 cases b with
 | true=>exact CallV.run (vs:=ov::vs) q hr R2 fun r s3 H3 R3 q3=>⟨H3,R3,q3⟩
 | false=>exact CallV.run q hr R2 fun r s3 H3 R3 q3=>⟨H3,R3,q3⟩
theorem TE.attr {o:Expr} {name:Str} {pos:Pos} (hb:notCall o=true) (h:TE c n fm ρ H o fun v H1=>AttrT c n v name H1 Q):TE c n fm ρ H (.Attribute o name pos) Q:=by
 intro A Z s hr R
 rw [arm_eval_Attribute,base_of_notCall hb]
 exact wpAny_bind (h.run hr R fun ov s1 H1 R1 h1=>wpAny_bind (wpAny_standAt (wpAny_bind (wpAny_holding ((h1.go ov rfl).run hr R1 fun r s2 H2 R2 q=>wpAny_bind (wpAny_letTemporaryGo (wpAny_pure ⟨H2,R2,q⟩)))))))
theorem subscripted_plain (slice:Expr) (o i:Value):∃ l,subscripted slice false o i=operate l (getItem o i):=by
 cases slice with
 | Slice a b st p=>cases st <;> exact ⟨_,rfl⟩
 | _=>exact ⟨_,rfl⟩
theorem sub_go {value slice:Expr} {v i:Value} (R:RelF c Z fm ρ H s)
  (h:wpAny c.M A (getitemInPython v) (fun b s1=>b=false∧wpAny c.M A (getItem v i) (PQ c (All c H s fun _=>True) fun r=>Q (er r)) BOT s1) BOT s):wpAny c.M A (subscriptTail value slice v i) (PG c Z fm ρ fun r=>Q (er r)) BOT s:=by
 unfold subscriptTail
 refine wpAny_bind (wpAny_mono h (fun b s3 q=>?_) fun _ _ e=>e)
 obtain ⟨l,hl⟩:=subscripted_plain slice v i
 rw [q.1,hl]
 exact wpAny_bind (wpAny_operateT (wpAny_mono q.2 (fun r s4 q=>q.elim fun H' q=>wpAny_bind (wpAny_letTemporaryGo (wpAny_pure ⟨H',R.re' q.1,q.2⟩))) fun _ _ e=>e))
theorem TE.sub {value slice:Expr} {pos:Pos} (h:TE c n fm ρ H value fun v H1=>TE c n fm ρ H1 slice fun i H2=>ItemT c n v i H2 Q):TE c n fm ρ H (.Subscript value slice pos) Q:=
 fun A Z s hr R=>Subscript_ (h.run hr R fun v s1 H1 R1 h1=>h1.run hr R1 fun i s2 H2 R2 h2=>sub_go R2 (h2.go v i rfl rfl A _ s2 hr R2.rel.all))
noncomputable def TOpt (c:Cx) (n:Nat) (fm:Fm) (ρ:Loc) (H:AH) (e:Option Expr) (Q:V→AH→Prop):Prop:=match e with
 | none=>Q .none H
 | some e=>TE c n fm ρ H e Q
theorem TOpt.go {e:Option Expr} {q:V→AH→Prop} {W:Value→Shared→Prop} (h:TOpt c n fm ρ H e q) (hr:Room n A) (R:RelF c Z fm ρ H s)
  (k:∀ v s' H',RelF c Z fm ρ H' s'→q (er v) H'→W v s'):wpAny c.M A (valueOrNone (evalOpt e fm.env)) W BOT s:=by
 cases e with
 | none=>exact wpAny_pure (k .none s H R h)
 | some e=>exact TG.run (show TE c n fm ρ H e q from h) hr R k
theorem slice_made {lo hi:Option Expr} {p:Pos} {W:Value→Shared→Prop} {q:V→V→AH→Prop} (h:TOpt c n fm ρ H lo fun l H2=>TOpt c n fm ρ H2 hi fun u H3=>q l u H3) (hr:Room n A) (R:RelF c Z fm ρ H s)
  (k:∀ l u sl s' H',RelF c Z fm ρ H' s'→q (er l) (er u) H'→SlObj s'.heap sl l u→W (.ref sl) s'):wpAny c.M A (eval (.Slice lo hi none p) fm.env) W BOT s:=by
 show wpAny c.M A (do
  let l ← valueOrNone (evalOpt lo fm.env)
  let u ← holding [l] (valueOrNone (evalOpt hi fm.env))
  let s ← holding [l,u] (valueOrNone (evalOpt none fm.env))
  newFields "slice" [l,u,s]) _ BOT s
 exact wpAny_bind (h.go hr R fun l s2 H2 R2 h2=>wpAny_bind (wpAny_holding (h2.go hr R2 fun u s3 H3 R3 h3=>wpAny_bind (wpAny_holding (wpAny_pure (wpAny_newObj_type (k l u s3.heap.objs.size _ H3 (R3.stays fun _ _ e=>Heap.get?_push_of_some _ e) h3 (Heap.get?_push_size _ rfl)) (by size_fits)))))))
theorem TE.slice {value:Expr} {lo hi:Option Expr} {p pos:Pos} (h:TE c n fm ρ H value fun v H1=>TOpt c n fm ρ H1 lo fun l H2=>TOpt c n fm ρ H2 hi fun u H3=>SliceT c n v l u H3 Q):TE c n fm ρ H (.Subscript value (.Slice lo hi none p) pos) Q:=
 fun A Z s hr R=>Subscript_ (h.run hr R fun v s1 H1 R1 h1=>slice_made h1 hr R1 fun l u sl s3 H3 R3 h3 hsl=>sub_go R3 (h3.go v l u rfl rfl rfl A _ s3 sl hr R3.rel.all hsl))
theorem le_sizeLine {k:Nat} (h:k≤100000):k≤sizeLine:=Nat.le_trans h (by decide)
theorem RelF.newSeq {k:SK} {vs:List Value} (R:RelF c Z fm ρ H s) (hl:vs.length≤100000):RelF c Z fm ρ (H.set s.heap.objs.size (.seq k (vs.map er))) { s with heap:=s.heap.push (seqOb k vs 0) }:=
 R.re' (R.rel.all.new (get?_size_none _) (fun b ob e=>Heap.get?_push_of_some _ e) ⟨_,Heap.get?_push_size _ rfl,by rw [List.length_map]; exact hl,vs,0,rfl,rfl⟩)
theorem TE.tuple {es:List Expr} {k:Nat} {pos:Pos} (h:TArgs c n fm ρ H es fun vs H1=>vs.length≤100000∧∀ a,H1 a=none→Q (.ref a) (H1.set a (.tup vs))):TE c n fm ρ H (.Tuple es k pos) Q:=
 fun A Z s hr R=>wpAny_Tuple ((h pos).run hr R fun vs s1 H1 R1 q=>have hl:=List.length_map er▸q.1; ⟨le_sizeLine hl,_,R1.newSeq (k:=.tup) hl,q.2 _ (R1.rel.freshH (get?_size_none _))⟩)
theorem TE.list {es:List Expr} {pos:Pos} (h:TArgs c n fm ρ H es fun vs H1=>vs.length≤100000∧∀ a,H1 a=none→Q (.ref a) (H1.set a (.list vs))):TE c n fm ρ H (.List es pos) Q:=
 fun A Z s hr R=>wpAny_List ((h pos).run hr R fun vs s1 H1 R1 q=>have hl:=List.length_map er▸q.1; ⟨le_sizeLine hl,_,R1.newSeq (k:=.list) hl,q.2 _ (R1.rel.freshH (get?_size_none _))⟩)
theorem RelF.newDict (R:RelF c Z fm ρ H s):RelF c Z fm ρ (H.set s.heap.objs.size (.dict [] none)) { s with heap:=s.heap.push { cls:=.type "dict",data:=.dict #[] } }:=
 R.re' (R.rel.all.new (get?_size_none _) (fun b ob e=>Heap.get?_push_of_some _ e) (Real.dict (kvs:=[]) (ep:=none) ⟨_,#[],0,Heap.get?_push_size _ rfl,⟨rfl,rfl,rfl⟩,rfl,fun x hx=>absurd hx (by simp),.nil,List.nodup_nil⟩ (Nat.zero_le _)))
theorem TE.dict0 {pos:Pos} (h:∀ D,H D=none→Q (.ref D) (H.set D (.dict [] none))):TE c n fm ρ H (.Dict [] [] pos) Q:=
 fun A Z s hr R=>wpAny_Dict_empty ⟨_,R.newDict,h _ (R.rel.freshH (get?_size_none _))⟩
end
end Mine
namespace Mine
theorem Loc.at_self {v:Option V}:∀ {ρ:Loc} {i:Nat},i < ρ.length→Loc.at (ρ.set i v) i=v
 | _::_,0,_=>rfl
 | _::ρ,i + 1,h=>Loc.at_self (ρ:=ρ) (Nat.lt_of_succ_lt_succ h)
theorem Loc.at_ne {v:Option V}:∀ {ρ:Loc} {i j:Nat},j≠i→Loc.at (ρ.set i v) j=ρ.at j
 | [],_,_,_=>rfl
 | _::_,0,0,h=>absurd rfl h
 | _::_,0,_ + 1,_=>rfl
 | _::_,_ + 1,0,_=>rfl
 | _::ρ,i + 1,j + 1,h=>Loc.at_ne (ρ:=ρ) fun q=>h (congrArg _ q)
section
variable {c:Cx} {n:Nat} {fm:Fm} {ρ:Loc} {H:AH} {names:Names} {Z:Froz} {A:Around} {s:Shared} {Q:Fl→Loc→AH→Prop}
theorem Fe.get (F:Fe fm names) {x:Str} {i:Nat} {k:NameKind} (h:NameAt fm.env x i k):names[i]?=some (x,k):=F.eq▸h
theorem RelF.store {x:Str} {i:Nat} {k:NameKind} {v:Value} {W:Unit→Shared→Prop} (F:Fe fm names) (R:RelF c Z fm ρ H s) (hx:names[i]?=some (x,k)) (hk:k=.local∨(k=.cell∧fm.own x=true))
  (h:∀ s',RelF c Z fm (ρ.set i (some (er v))) H s'→W () s'):wpAny c.M A (storeName fm.env x v) W BOT s:=by
 have hi:i < ρ.length:=by rw [R.size,F.eq]; exact (List.getElem?_eq_some_iff.mp hx).1
 have ne:∀ j y k',NameAt fm.env y j k'→(y=x→j=i)∧(j=i→y=x∧k'=k):=fun j y k' hy=>
  ⟨fun q=>at_inj F.nd (F.get hy) (q▸hx),fun q=>by have:=(F.get hy).symm.trans (q▸hx); cases this; exact ⟨rfl,rfl⟩⟩
 have other:∀ {j y k'},NameAt fm.env y j k'→y≠x→Loc.at (ρ.set i (some (er v))) j=ρ.at j:=fun hy q=>Loc.at_ne fun w=>q ((ne _ _ _ hy).2 w).1
 have self:Loc.at (ρ.set i (some (er v))) i=some (er v):=Loc.at_self hi
 rcases hk with rfl | ⟨rfl,hc⟩
 ·refine R.ns.elim fun m q=>wpAny_storeName_local (F.kind hx) q.ns (fun h' hn hb=>h _ ?_) (by rw [F.fn]; rfl)
  obtain ⟨o,e,nc⟩:=ns_nocode (c:=c) q.ns
  refine ⟨R.rel.own e R.pv nc R.off fun b ob w e=>hb.extBut b ob w e,(List.length_set ..).trans R.size,⟨_,hn,fun j y hy=>?_⟩,fun j y k' hy hk'=>(R.cl j y k' hy hk').imp fun a w=>w.imp fun cv w=>{ w with cell:=w.cell.imp fun o e=>⟨hb.extBut _ o w.ne e.1,e.2⟩,val:=w.val.trans (other hy fun r=>?_).symm },R.off,R.pv,R.inj⟩
  ·by_cases r:y=x
   ·rw [if_pos r,(ne _ _ _ hy).1 r,self]; rfl
   ·rw [if_neg r,other hy r]; exact q.val j y hy
  ·have:=((ne _ _ _ hy).2 ((ne _ _ _ hy).1 r)).2
   rcases hk' with rfl | rfl <;> cases this
 ·refine (R.cl i x .cell (F.at_ hx) (.inl rfl)).elim fun a q=>q.elim fun cv q=>wpAny_storeName_cell F.fn (F.kind hx) q.look q.cell fun h' hv hb=>h _ ?_
  obtain ⟨o,e,nc⟩:=cell_nocode (c:=c) q.cell
  refine ⟨R.rel.own e (q.pv rfl hc) nc q.off fun b ob w e=>hb.extBut b ob w e,(List.length_set ..).trans R.size,R.ns.imp fun m w=>⟨w.ns.extBut hb.extBut (Ne.symm q.ne),fun j y hy=>(w.val j y hy).trans (other hy fun r=>?_).symm⟩,fun j y k' hy hk'=>?_,R.off,R.pv,R.inj⟩
  rotate_left
  ·cases ((ne _ _ _ hy).2 ((ne _ _ _ hy).1 r)).2
  ·refine (R.cl j y k' hy hk').imp fun a' w=>?_
   by_cases r:y=x
   ·refine ⟨some v,w.elim fun _ w=>?_⟩
    have ea:a'=a:=Option.some.inj (w.look.symm.trans (r▸q.look))
    exact ⟨w.look,ea▸hv,by rw [(ne _ _ _ hy).1 r,self]; rfl,w.off,w.ne,w.t,w.pv⟩
   ·refine w.imp fun cv w=>{ w with cell:=w.cell.imp fun o e=>⟨hb.extBut _ o (fun z=>r (R.inj i j x y k' a hc (F.at_ hx) hy hk' q.look (z▸w.look)).symm) e.1,e.2⟩,val:=w.val.trans (other hy r).symm }
theorem TA.name {x:Str} {pos:Pos} {i:Nat} {k:NameKind} {v:V} {Q:Loc→AH→Prop} (F:Fe fm names) (hx:names[i]?=some (x,k)) (hk:k=.local∨(k=.cell∧fm.own x=true)) (h:Q (ρ.set i (some v)) H):TA c n fm ρ H (.Name x pos) v Q:=
 fun raw e A Z s hr R=>wpAny_assign_Name (R.store F hx hk fun s' R'=>⟨_,H,R',e▸h⟩)
noncomputable def TAs (c:Cx) (n:Nat) (fm:Fm):Loc→AH→List Expr→List V→(Loc→AH→Prop)→Prop
 | ρ,H,[],[],Q=>Q ρ H
 | ρ,H,e::es,v::vs,Q=>TA c n fm ρ H e v fun ρ1 H1=>TAs c n fm ρ1 H1 es vs Q
 | _,_,_,_,_=>False
theorem assignEach_all (env:Env):∀ (es:List Expr),es.all plainArg=true→assignEach es env=es.map fun e=>(false,assign e env)
 | [],_=>rfl
 | e::es,h=>by
  rw [List.all_cons,Bool.and_eq_true] at h
  rw [(star_cons h.1 env).2,assignEach_all env es h.2]; rfl
theorem TAs.run:∀ (es:List Expr) (vs:List V) (ρ:Loc) (H:AH) (Q:Loc→AH→Prop) (ws:List Value) (A:Around) (Z:Froz) (s:Shared),TAs c n fm ρ H es vs Q→ws.map er=vs→Room n A→RelF c Z fm ρ H s→
  wpAny c.M A (assignInOrder (es.map fun e=>assign e fm.env) ws) (PF c Z fm fun _=>Q) BOT s
 | [],[],ρ,H,Q,ws,A,Z,s,h,e,hr,R=>by
  cases List.map_eq_nil_iff.mp e
  exact wpAny_pure ⟨ρ,H,R,h⟩
 | t::es,v::vs,ρ,H,Q,ws,A,Z,s,h,e,hr,R=>by
  obtain ⟨w,ws,rfl,e1,e2⟩:=er_cons e
  show wpAny c.M A (assignInOrder (assign t fm.env::es.map fun e=>assign e fm.env) (w::ws)) _ _ s
  exact wpAny_bind (m:=holding ws _) (wpAny_holding ((h w e1).run hr R fun _ s1 ρ1 H1 R1 q=>TAs.run es vs ρ1 H1 Q ws A Z s1 q e2 hr R1))
 | [],_::_,_,_,_,_,_,_,_,h,_,_,_=>h.elim
 | _::_,[],_,_,_,_,_,_,_,h,_,_,_=>h.elim
theorem Rel.seq {k:SK} {a:Addr} {vs:List V} (R:Rel c Z H s) (e:H a=some (.seq k vs)):∃ (xs:List Value) (m:Nat),s.heap.get? a=some (seqOb k xs m)∧xs.map er=vs∧vs.length≤100000:=
 (R.real a _ e).elim fun ob q=>q.2.2.imp fun xs w=>w.imp fun m w=>⟨q.1.trans (congrArg some w.1),w.2,q.2.1⟩
theorem TA.tuple {ts:List Expr} {k:Nat} {pos:Pos} {l:Addr} {vs:List V} {Q:Loc→AH→Prop} (e:H l=some (.tup vs)) (hs:ts.all plainArg=true) (hl:vs.length=ts.length) (h:TAs c n fm ρ H ts vs Q):TA c n fm ρ H (.Tuple ts k pos) (.ref l) Q:=by
 intro raw e1 A Z s hr R
 obtain rfl:=er_ref e1
 obtain ⟨xs,m,q1,rfl,q3⟩:=R.rel.seq e
 have hae:=assignEach_all fm.env ts hs
 rw [List.length_map] at hl
 refine assign_Tuple_tuple hr.handled ⟨_,q1,rfl,_,rfl⟩ (by rw [hae,List.length_map,List.size_toArray,hl]) (by rw [hae,List.findIdx?_map]; exact List.findIdx?_eq_none_iff.mpr fun _ _=>rfl) fun h' hb=>?_
 rw [hae,List.map_map]
 exact TAs.run ts _ ρ H Q xs A Z _ h rfl hr (R.stays fun b ob q=>hb b ob (Nat.ne_of_lt (Heap.lt_size q)) q)
theorem TE.callStar {o e:Expr} {name:Str} {apos pos p:Pos} {Q:V→AH→Prop} (hb:notCall o=true)
  (h:TE c n fm ρ H o fun v H1=>AttrT c n v name H1 fun f H2=>TE c n fm ρ H2 e fun l H3=>∃ lr vs,l=.ref lr∧H3 lr=some (.list vs)∧StarT c n f vs H3 Q):TE c n fm ρ H (.Call (.Attribute o name apos) [.Starred e p] [] pos) Q:=by
 intro A Z s hr R
 rw [arm_eval_Call,base_of_notCall hb]
 refine wpAny_bind (h.run hr R fun ov s1 H1 R1 ha=>wpAny_bind (wpAny_standAt ?_))
 unfold methodCall
 rw [show methodCallForm ([Expr.Starred e p].length + ([]:List Keyword).length) (backTo pos (starEach [.Starred e p] fm.env)) (backToKw pos (keywordEach [] fm.env))=false from rfl]
 refine wpAny_bind (wpAny_holding ?_)
 show wpAny _ _ (do pure (← getAttr ov name true,[])) _ _ _
 refine wpAny_bind ((ha.go ov rfl).run hr R1 fun f s2 H2 R2 he=>wpAny_pure (wpAny_bind (m:=methodCallPos false o fm.env apos pos) (wpAny_pure ?_)))
 show wpAny _ _ (callWith pos f [] (backTo pos (starEach [.Starred e p] fm.env)) []) _ _ _
 refine ks_call (P:=fun h=>Looks c.M h (keeperOf f) .frame) rfl (fun h hP=>⟨_,.inl rfl,hP⟩) (ks_lone (he.run hr R2 fun l s3 H3 R3 q=>?_))
 obtain ⟨lr,vs,e1,e2,hj⟩:=q
 obtain rfl:=er_ref e1
 obtain ⟨xs,m,q1,q2,q3⟩:=R3.rel.seq e2
 unfold StarOf notIterableAtAll
 refine wpAny_bind (wpAny_specialOf (T:="list") ⟨_,q1,rfl⟩ PySem.F.slot_list_iter.lookup (wpAny_pure ⟨rfl,wpAny_collect_seq lr (.inl rfl) q1 rfl rfl (fun h' hk'=>?_) (by rw [List.size_toArray,← List.length_map (f:=er),q2]; exact le_sizeLine q3)⟩))
 have R4:RelF c Z fm ρ H3 { s3 with heap:=h' }:=R3.stays (tk:=s3.toks) (dr:=s3.drawn) hk'
 exact ⟨hj.go.1 _ _ f rfl R4.rel,(hj.go.2 f xs rfl q2).run hr R4 fun v s4 H4 R5 q4=>⟨H4,R5,q4⟩⟩
theorem TXs.nil (h:Q .next ρ H):TXs c n fm ρ H [] Q:=fun A Z s hr R=>wpAny_execs_nil ⟨ρ,H,R,h⟩
theorem TXs.cons {st:Stmt} {rest:List Stmt} {P:Loc→AH→Prop} (h:TX c n fm ρ H st fun | .next=>P | fl=>Q fl) (k:∀ ρ' H',P ρ' H'→TXs c n fm ρ' H' rest Q):TXs c n fm ρ H (st::rest) Q:=
 fun A Z s hr R=>wpAny_execs_cons (h.run hr R fun fl s' ρ' H' R' q=>by cases fl with | next=>exact k ρ' H' q A Z s' hr R' | _=>exact ⟨ρ',H',R',q⟩)
theorem TX.brk {pos:Pos} (h:Q .brk ρ H):TX c n fm ρ H (.Break pos) Q:=fun A Z s hr R=>wpAny_Break ⟨ρ,H,R,h⟩
theorem TX.cont {pos:Pos} (h:Q .cont ρ H):TX c n fm ρ H (.Continue pos) Q:=fun A Z s hr R=>wpAny_Continue ⟨ρ,H,R,h⟩
theorem TX.ret {e:Expr} {pos:Pos} (h:TE c n fm ρ H e fun v H1=>Q (.ret v) ρ H1):TX c n fm ρ H (.Return (some e) pos) Q:=fun A Z s hr R=>wpAny_Return_some (h.run hr R fun v s' H' R' q=>⟨ρ,H',R',q⟩)
theorem TX.ite {t:Expr} {a b:List Stmt} {pos:Pos} (h:TB c n fm ρ H t fun z H1=>if z=true then TXs c n fm ρ H1 a Q else TXs c n fm ρ H1 b Q):TX c n fm ρ H (.If t a b pos) Q:=
 fun A Z s hr R=>wpAny_If (h.run hr R fun z s' H' R' q=>by cases z <;> exact q A Z s' hr R')
theorem TX.asg {x:Str} {pos pos':Pos} {e:Expr} {i:Nat} {k:NameKind} (F:Fe fm names) (hx:names[i]?=some (x,k)) (hk:k=.local∨(k=.cell∧fm.own x=true)) (h:TE c n fm ρ H e fun v H1=>Q .next (ρ.set i (some v)) H1) (hs:swapsWith e (some (.Name x pos')) pos.line fm.env=pure false):TX c n fm ρ H (.Assign [.Name x pos'] e pos) Q:=
 fun A Z s hr R=>wpAny_Assign_Name (h.run hr R fun v s1 H1 R1 h1=>R1.store F hx hk fun s' R'=>⟨_,H1,R',h1⟩) hs
theorem TX.aug {x:Str} {pos pos':Pos} {op:Operator} {e:Expr} {i:Nat} {k:NameKind} {v:V} (F:Fe fm names) (hx:names[i]?=some (x,k)) (hk:k=.local∨(k=.cell∧fm.own x=true)) (hv:ρ.at i=some v)
  (h:TE c n fm ρ H e fun u H1=>InpT c n op v u H1 fun r H2=>Q .next (ρ.set i (some r)) H2):TX c n fm ρ H (.AugAssign (.Name x pos') op e pos) Q:=
 fun A Z s hr R=>wpAny_AugAssign_Name (load_nm F hx (hk.imp id fun q=>.inl q.1) hv R fun old eo=>h.run hr R fun u s2 H2 R2 h2=>(h2.go old u eo rfl).run hr R2 fun r s3 H3 R3 q=>R3.store F hx hk fun s' R'=>⟨_,H3,R',q⟩)
theorem TX.expr {e:Expr} {pos:Pos} (F:Fe fm names) (h:TE c n fm ρ H e fun v H1=>v=.none∧Q .next ρ H1) (hs:swapsWith e none pos.line fm.env=pure false):TX c n fm ρ H (.Expr e pos) Q:=
 fun A Z s hr R=>wpAny_Expr (h.run hr R fun v s1 H1 R1 q=>by obtain rfl:=er_none q.1; exact ⟨ρ,H1,R1,q.2⟩) (by unfold interactive; rw [F.fn]; rfl) hs
theorem TX.assignSub {o i value:Expr} {pos pos':Pos} (h:TE c n fm ρ H value fun v H1=>TE c n fm ρ H1 o fun ov H2=>TE c n fm ρ H2 i fun iv H3=>SetT c n ov iv v H3 fun _ H4=>Q .next ρ H4)
  (hs:swapsWith value (some (.Subscript o i pos')) pos.line fm.env=pure false):TX c n fm ρ H (.Assign [.Subscript o i pos'] value pos) Q:=
 fun A Z s hr R=>wpAny_Assign_Subscript (h.run hr R fun v s1 H1 R1 h1=>h1.run hr R1 fun ov s2 H2 R2 h2=>h2.run hr R2 fun iv s3 H3 R3 h3=>(h3.go ov iv v rfl rfl rfl).run hr R3 fun _ s4 H4 R4 q=>⟨ρ,H4,R4,q⟩) hs
theorem TX.assignAttr {o value:Expr} {name:Str} {pos pos':Pos} (h:TE c n fm ρ H value fun v H1=>TE c n fm ρ H1 o fun ov H2=>SetA c n ov name v H2 fun _ H3=>Q .next ρ H3)
  (hs:swapsWith value (some (.Attribute o name pos')) pos.line fm.env=pure false):TX c n fm ρ H (.Assign [.Attribute o name pos'] value pos) Q:=
 fun A Z s hr R=>plainObj_wpAny_Assign_Attribute (h.run hr R fun v s1 H1 R1 h1=>h1.run hr R1 fun ov s2 H2 R2 h2=>(h2.go ov v rfl rfl).run hr R2 fun _ s3 H3 R3 q=>⟨ρ,H3,R3,q⟩) hs
theorem TX.assign1 {t e:Expr} {pos:Pos} (h:TE c n fm ρ H e fun v H1=>TA c n fm ρ H1 t v fun ρ' H2=>Q .next ρ' H2) (hs:swapsWithSole [t] e pos.line fm.env=pure false) (hw:swappedStores [t] e fm.env=pure none) (ht:plainArg t=true):TX c n fm ρ H (.Assign [t] e pos) Q:=by
 intro A Z s hr R
 refine wpAny_Assign_stores (h.run hr R fun v s1 H1 R1 h1=>?_) hs hw
 rw [(star_cons ht fm.env).2]
 exact h1 v rfl A Z s1 hr R1
theorem TX.del1 {o i:Expr} {pos pos':Pos} (h:TE c n fm ρ H o fun ov H1=>TE c n fm ρ H1 i fun iv H2=>DelT c n ov iv H2 fun _ H3=>Q .next ρ H3):TX c n fm ρ H (.Delete [.Subscript o i pos'] pos) Q:=
 fun A Z s hr R=>wpAny_Delete (wpAny_deleteEach_cons (wpAny_delete_Subscript (h.run hr R fun ov s1 H1 R1 h1=>h1.run hr R1 fun iv s2 H2 R2 h2=>(h2.go ov iv rfl rfl).run hr R2 fun _ s3 H3 R3 q=>wpAny_deleteEach_nil ⟨ρ,H3,R3,q⟩)))
theorem TX.delS {o e1:Expr} {p pos pos':Pos} (h:TE c n fm ρ H o fun ov H1=>TE c n fm ρ H1 e1 fun v H2=>DelS c n ov v H2 fun _ H3=>Q .next ρ H3):TX c n fm ρ H (.Delete [.Subscript o (.Slice (some e1) none none p) pos'] pos) Q:=
 fun A Z s hr R=>wpAny_Delete (wpAny_deleteEach_cons (wpAny_delete_Subscript (h.run hr R fun ov s1 H1 R1 h1=>slice_made (lo:=some e1) (hi:=none) (q:=fun l u H=>u=.none∧DelS c n (er ov) l H fun _ H3=>Q .next ρ H3) (h1.mono fun v H2 q=>⟨rfl,q⟩) hr R1 fun l u sl s2 H2 R2 q hsl=>by
  obtain rfl:=er_none q.1
  exact wpAny_mono (q.2.go ov l rfl rfl A _ s2 sl hr R2.rel.all hsl) (fun _ s3 w=>w.elim fun H3 w=>wpAny_deleteEach_nil ⟨ρ,H3,R2.re' w.1,w.2⟩) fun _ _ e=>e)))
theorem TE.dict1 {k v:Expr} {pos:Pos} {Q:V→AH→Prop} (h:∀ D,H D=none→TE c n fm ρ (H.set D (.dict [] none)) k fun kv H1=>TE c n fm ρ H1 v fun vv H2=>∃ i a,kv=.int i∧D=a∧H2 a=some (.dict [] none)∧Q (.ref a) (H2.set a (.dict [(i,vv)] none))):TE c n fm ρ H (.Dict [some k] [v] pos) Q:=by
 intro A Z s hr R
 refine wpAny_Dict_pairs (knd:=intKind c.prog c.w) (pairs:=[(eval k fm.env,(do let x ← eval v fm.env; standAt pos; pure x))]) rfl (by simp) (by simp) ?_
 refine evalPairs_cons ((h _ (R.rel.freshH (get?_size_none _))).run hr R.newDict fun kv s1 H1 R1 h1=>wpAny_bind (h1.run hr R1 fun vv s2 H2 R3 q=>wpAny_bind (wpAny_standAt (wpAny_pure (evalPairs_nil ?_)))))
 obtain ⟨i,a,e1,rfl,e2,q⟩:=q
 obtain ⟨t,rfl⟩:=er_int e1
 obtain ⟨ob,g,hl,kvs,d,e⟩:=R3.rel.real _ _ e2
 cases List.map_eq_nil_iff.mp e
 exact ⟨[(i,vv)],⟨intKind_is _ _ _ _,rfl,trivial⟩,d _ g,fun h' hk hs=>⟨_,R3.re' (R3.rel.all.upd e2 (fun b ob w e=>hs.extBut b ob w e) (Real.dict (ep:=none) hk (by show 1≤100000; decide))),q⟩⟩
end
end Mine
namespace Mine
noncomputable def Item (z:Bool) (h:Heap) (v:Value) (xs:List V):Prop:=match z with
 | false=>xs=[er v]
 | true=>∃ t a b n,v=.ref t∧h.get? t=some (seqOb .tup [a,b] n)∧xs=[er a,er b]
structure Priv (c:Cx) (Z:Froz) (H:AH) (O:Addr→Prop):Prop where
 off:∀ a,O a→H a=none
 pv:∀ a,O a→Pv c Z a
structure Iter (c:Cx) (tg:Expr) (z:Bool) (it:Value) (O:Addr→Prop) (St:Nat→Heap→Prop) (items:List (List V)) (src:AH→Prop):Prop where
 live:∀ {i h a},St i h→O a→∃ o,h.get? a=some o
 keep:∀ {i h h'},St i h→(∀ a o,O a→h.get? a=some o→h'.get? a=some o)→St i h'
 next:∀ {n A Z H s i xs},Room n A→Rel c Z H s→src H→St i s.heap→Priv c Z H O→items[i]?=some xs→
  wpAny c.M A (pyNext it) (fun r s1=>∃ v,r=some v∧wpAny c.M A (letOwnedTupleGo tg it v) (fun _ s2=>St (i + 1) s2.heap∧Item z s2.heap v xs∧Rel c Z H s2) BOT s1) BOT s
 stop:∀ {n A Z H s},Room n A→Rel c Z H s→src H→St items.length s.heap→Priv c Z H O→wpAny c.M A (pyNext it) (fun r s1=>r=none∧Rel c Z H s1) BOT s
 self:∀ {n A s i} {Q:Value→Shared→Prop},Room n A→St i s.heap→Q it s→wpAny c.M A (pyIter it) Q BOT s
structure OwnF (c:Cx) (Z:Froz) (fm:Fm) (H:AH) (O:Addr→Prop):Prop extends Priv c Z H O where
 loc:¬ O fm.env.locals
 cl:∀ i x k a,NameAt fm.env x i k→k=.cell∨k=.free→fm.env.cells.lookup x=some a→¬ O a
noncomputable abbrev Froz.and (Z:Froz) (h:Heap) (O:Addr→Prop):Froz:=fun a o=>Z a o∨(O a∧h.get? a=some o)
section
variable {c:Cx} {n:Nat} {fm:Fm} {ρ:Loc} {H:AH} {names:Names} {Z:Froz} {A:Around} {s s':Shared} {Q:Fl→Loc→AH→Prop} {O:Addr→Prop} {tg:Expr} {z:Bool} {it:Value} {St:Nat→Heap→Prop} {items:List (List V)} {src:AH→Prop} {i:Nat}
theorem RelF.frz (R:RelF c Z fm ρ H s) (P:OwnF c Z fm H O):RelF c (Z.and s.heap O) fm ρ H s:=
 { R with
  rel:={ R.rel with fz:=fun a o z=>z.elim (R.rel.fz a o) fun z=>⟨z.2,P.off a z.1,(P.pv a z.1).t⟩ }
  pv:={ R.pv with z:=fun o z=>z.elim (R.pv.z o) fun z=>P.loc z.1 }
  cl:=fun i x k hx hk=>(R.cl i x k hx hk).imp fun a q=>q.imp fun cv q=>{ q with pv:=fun h h'=>{ q.pv h h' with z:=fun o z=>z.elim ((q.pv h h').z o) fun z=>P.cl i x k a hx hk q.look z.1 } } }
theorem Iter.back (I:Iter c tg z it O St items src) {ρ':Loc} {H':AH} (P:OwnF c Z fm H O) (g:St i s.heap) (R:RelF c (Z.and s.heap O) fm ρ' H' s'):RelF c Z fm ρ' H' s'∧St i s'.heap∧OwnF c Z fm H' O:=
 ⟨R.thaw fun a o z=>.inl z,I.keep g fun a o q e=>(R.rel.fz a o (.inr ⟨q,e⟩)).e,{ P with off:=fun a q=>(I.live g q).elim fun o e=>(R.rel.fz a o (.inr ⟨q,e⟩)).off }⟩
theorem OwnF.all (P:OwnF c Z fm H O):Priv c (All c H s fun a=>¬ O a) H O:=⟨P.off,fun a q=>{ P.pv a q with z:=fun o z=>z.1 q }⟩
theorem RelF.reO {H':AH} (R:RelF c Z fm ρ H s) (P:OwnF c Z fm H O) (R':Rel c (All c H s fun a=>¬ O a) H' s'):RelF c Z fm ρ H' s':=
 R.re R' (fun a o z q=>(P.pv a q).z o z) P.loc fun i x k a hx hk hl=>P.cl i x k a hx hk hl
theorem Iter.nextF (I:Iter c tg z it O St items src) (hr:Room n A) (R:RelF c Z fm ρ H s) (hs:src H) (g:St i s.heap) (P:OwnF c Z fm H O) {xs:List V} (hx:items[i]?=some xs) :
  wpAny c.M A (pyNext it) (fun r s1=>∃ v,r=some v∧wpAny c.M A (letOwnedTupleGo tg it v) (fun _ s2=>St (i + 1) s2.heap∧Item z s2.heap v xs∧RelF c Z fm ρ H s2) BOT s1) BOT s:=
 wpAny_mono (I.next hr R.rel.all hs g P.all hx) (fun r s1 q=>q.imp fun v q=>⟨q.1,wpAny_mono q.2 (fun _ s2 q=>⟨q.1,q.2.1,R.reO P q.2.2⟩) fun _ _ e=>e⟩) fun _ _ e=>e
theorem Iter.stopF (I:Iter c tg z it O St items src) (hr:Room n A) (R:RelF c Z fm ρ H s) (hs:src H) (g:St items.length s.heap) (P:OwnF c Z fm H O):wpAny c.M A (pyNext it) (fun r s1=>r=none∧RelF c Z fm ρ H s1) BOT s:=
 wpAny_mono (I.stop hr R.rel.all hs g P.all) (fun r s1 q=>⟨q.1,R.reO P q.2⟩) fun _ _ e=>e
theorem RelF.ownNew (R:RelF c Z fm ρ H s) (hO:∀ a,O a→s.heap.get? a=none):OwnF c Z fm H O:=
 ⟨⟨fun a q=>R.rel.freshH (hO a q),fun a q=>R.rel.fresh (hO a q)⟩,fun q=>R.ns.elim fun m w=>w.ns.elim fun o w=>w.elim fun _ w=>w.elim fun _ w=>no_some (hO _ q) w.1,
  fun i x k a hx hk hl q=>(R.cl i x k hx hk).elim fun b w=>w.elim fun cv w=>w.cell.elim fun o e=>no_some (hO a q) ((Option.some.inj (hl.symm.trans w.look))▸e.1)⟩
noncomputable def IterE (c:Cx) (n:Nat) (fm:Fm) (ρ:Loc) (H:AH) (tg e:Expr) (z:Bool) (K:List (List V)→(AH→Prop)→AH→Prop):Prop:=
 ∀ A Z s (W:Value→Shared→Prop),Room n A→RelF c Z fm ρ H s→
  (∀ it s' O St items src H',Iter c tg z it O St items src→St 0 s'.heap→OwnF c Z fm H' O→RelF c Z fm ρ H' s'→K items src H'→W it s')→wpAny c.M A (eval e fm.env) (fun x s1=>wpAny c.M A (pyIter x) W BOT s1) BOT s
noncomputable def TgX (c:Cx) (n:Nat) (fm:Fm) (ρ:Loc) (H:AH) (z:Bool) (tg:Expr) (xs:List V) (Q:Loc→AH→Prop):Prop:=
 ∀ v A Z s,Room n A→RelF c Z fm ρ H s→Item z s.heap v xs→wpAny c.M A (assign tg fm.env v) (PF c Z fm fun _=>Q) BOT s
noncomputable def turnF (Inv:Loc→AH→Prop) (Q:Fl→Loc→AH→Prop):Fl→Loc→AH→Prop
 | .next,ρ,H=>∃ H',Sub H' H∧Inv ρ H'
 | .cont,ρ,H=>∃ H',Sub H' H∧Inv ρ H'
 | .brk,ρ,H=>Q .next ρ H
 | .ret v,ρ,H=>Q (.ret v) ρ H
structure LoopT (c:Cx) (n:Nat) (fm:Fm) (tg:Expr) (z:Bool) (body orelse:List Stmt) (Q:Fl→Loc→AH→Prop) (Inv:Nat→Loc→AH→Prop) (items:List (List V)) (src:AH→Prop):Prop where
 src:∀ i ρ' H',Inv i ρ' H'→src H'
 step:∀ i xs ρ' H',items[i]?=some xs→Inv i ρ' H'→TgX c n fm ρ' H' z tg xs fun ρ3 H3=>TXs c n fm ρ3 H3 body (turnF (Inv (i + 1)) Q)
 fin:∀ ρ' H',Inv items.length ρ' H'→TXs c n fm ρ' H' orelse Q
structure LoopI (c:Cx) (Z:Froz) (fm:Fm) (O:Addr→Prop) (St:Nat→Heap→Prop) (Inv:Loc→AH→Prop) (s:Shared) (i:Nat) (ρ:Loc) (H:AH):Prop where
 inv:Inv ρ H
 rel:RelF c Z fm ρ H s
 st:St i s.heap
 own:OwnF c Z fm H O
theorem TX.for {iter:Expr} {body orelse:List Stmt} {pos:Pos} (h:IterE c n fm ρ H tg iter z fun items src H1=>∃ Inv,Inv 0 ρ H1∧LoopT c n fm tg z body orelse Q Inv items src)
  (hf:∀ env x,foldedSetIterable iter env x=pure x):TX c n fm ρ H (.For tg iter body orelse pos) Q:=by
 intro A Z s hr R
 refine wpAny_For (h A Z s _ hr R fun it s' O St items src H' I g P R1 q=>q.elim fun Inv q=>?_) (hf _)
 refine codeAny_forLoop_any (fun m s=>∃ i ρ' H',m=items.length - i∧LoopI c Z fm O St (Inv i) s i ρ' H'∧i≤items.length) (fun m s hI=>?_) items.length ⟨0,ρ,H',rfl,⟨q.1,R1,g,P⟩,Nat.zero_le _⟩
 obtain ⟨i,ρ',H1,rfl,L,hle⟩:=hI
 have T:=q.2
 rcases Nat.lt_or_ge i items.length with hi | hi
 ·have hx:=List.getElem?_eq_getElem hi
  refine wpAny_mono (I.nextF hr L.rel (T.src _ _ _ L.inv) L.st L.own hx) (fun r s1 w0=>w0.elim fun v w1=>?_) fun _ _ e=>e.elim
  obtain ⟨rfl,w2⟩:=w1
  refine wpAny_mono w2 (fun _ s2 w=>?_) fun _ _ e=>e.elim
  refine wpAny_mono (T.step i _ ρ' H1 hx L.inv v A _ s2 hr (w.2.2.frz L.own) w.2.1) (fun _ s3 u=>u.elim fun ρ3 u=>u.elim fun H3 u=>?_) fun _ _ e=>e.elim
  refine wpAny_mono (u.2 A _ s3 hr u.1) (fun fl s4 u=>u.elim fun ρ4 u=>u.elim fun H4 u=>?_) fun _ _ e=>e.elim
  have B:=I.back L.own w.1 u.1
  have lt:items.length - (i + 1) < items.length - i:=Nat.sub_lt_sub_left hi (Nat.lt_succ_self i)
  have again:(∃ H5,Sub H5 H4∧Inv (i + 1) ρ4 H5)→∃ m,m < items.length - i∧∃ j ρ' H',m=items.length - j∧LoopI c Z fm O St (Inv j) s4 j ρ' H'∧j≤items.length:=fun q=>q.elim fun H5 q=>
   ⟨_,lt,i + 1,ρ4,H5,rfl,⟨q.2,B.1.weaken q.1,B.2.1,{ B.2.2 with off:=fun a w=>q.1.none (B.2.2.off a w) }⟩,hi⟩
  cases fl with
  | next=>exact again u.2
  | cont=>exact again u.2
  | brk=>exact ⟨ρ4,H4,B.1,u.2⟩
  | ret v=>exact ⟨ρ4,H4,B.1,u.2⟩
 ·obtain rfl:=Nat.le_antisymm hle hi
  refine wpAny_mono (I.stopF hr L.rel (T.src _ _ _ L.inv) L.st L.own) (fun r s1 w=>?_) fun _ _ e=>e.elim
  obtain ⟨rfl,R3⟩:=w
  exact wpAny_mono (T.fin ρ' H1 L.inv A Z s1 hr R3) (fun fl s2 q=>q) fun _ _ e=>e.elim
structure WhileT (c:Cx) (n:Nat) (fm:Fm) (test:Expr) (body orelse:List Stmt) (Q:Fl→Loc→AH→Prop) (Inv:Nat→Loc→AH→Prop):Prop where
 step:∀ m ρ' H',Inv m ρ' H'→TB c n fm ρ' H' test fun b H1=>if b=true then TXs c n fm ρ' H1 body (turnF (fun ρ H=>∃ m',m' < m∧Inv m' ρ H) Q) else TXs c n fm ρ' H1 orelse Q
theorem TX.while {test:Expr} {body orelse:List Stmt} {pos:Pos} {Inv:Nat→Loc→AH→Prop} (h0:∃ m,Inv m ρ H) (T:WhileT c n fm test body orelse Q Inv):TX c n fm ρ H (.While test body orelse pos) Q:=by
 intro A Z s hr R
 refine wpAny_While (h0.elim fun m0 h0=>codeAny_whileLoop (fun m s=>∃ ρ' H',Inv m ρ' H'∧RelF c Z fm ρ' H' s) (fun m s q=>q.elim fun ρ' q=>q.elim fun H' q=>?_) m0 ⟨ρ,H,h0,R⟩)
 refine wpAny_mono (T.step m ρ' H' q.1 A Z s hr q.2) (fun b s2 w=>w.elim fun H1 w=>?_) fun _ _ e=>e.elim
 cases b with
 | true=>
  refine wpAny_mono (w.2 A Z s2 hr w.1) (fun fl s3 w=>w.elim fun ρ2 w=>w.elim fun H2 w=>?_) fun _ _ e=>e.elim
  have again:(∃ H3,Sub H3 H2∧∃ m',m' < m∧Inv m' ρ2 H3)→∃ m',m' < m∧∃ ρ' H',Inv m' ρ' H'∧RelF c Z fm ρ' H' s3:=fun q=>q.elim fun H3 q=>q.2.elim fun m' u=>⟨m',u.1,ρ2,H3,u.2,w.1.weaken q.1⟩
  cases fl with
  | next=>exact again w.2
  | cont=>exact again w.2
  | brk=>exact ⟨ρ2,H2,w⟩
  | ret v=>exact ⟨ρ2,H2,w⟩
 | false=>exact wpAny_mono (w.2 A Z s2 hr w.1) (fun fl s3 w=>w) fun _ _ e=>e.elim
theorem letOwned_quiet {M:Model} {E:Value→Shared→Prop} {t:Expr} {r:Addr} {v:Value} {o:Obj} {T:String} {vs:Array Value} {Q:Unit→Shared→Prop} (ho:s.heap.get? r=some o) (hc:o.cls=.type T) (hd:o.data=.fields vs)
  (hT:["enumerate","zip","dict_itemiterator","dict_reverseitemiterator","odict_iterator","itertools.zip_longest","itertools.pairwise"].contains T=false) (h:Q () s):wpAny M A (letOwnedTupleGo t (.ref r) v) Q E s:=by
 have key:wpAny M A (letOwnedTupleGo (.Tuple [] 0 default) (.ref r) v) Q E s:=by
  cases v with
  | ref a=>
   refine wpAny_bind (m:=load r) (wpAny_load ho ?_)
   rw [hc,hd]
   simp only [hT,Bool.false_and,Bool.false_eq_true,if_false]
   exact wpAny_pure h
  | _=>exact wpAny_pure h
 cases t with
 | Tuple=>exact key
 | List=>exact key
 | _=>exact wpAny_pure h
theorem IterE.obj {s1:Shared} {H1:AH} {o:Obj} {W:Value→Shared→Prop} {K:List (List V)→(AH→Prop)→AH→Prop} (I:Iter c tg z (.ref s1.heap.objs.size) (·=s1.heap.objs.size) St items src) (hf:o.isFreed=false) (g:∀ h:Heap,h.get? s1.heap.objs.size=some o→St 0 h) (R:RelF c Z fm ρ H1 s1)
  (k:∀ it s' O St items src H',Iter c tg z it O St items src→St 0 s'.heap→OwnF c Z fm H' O→RelF c Z fm ρ H' s'→K items src H'→W it s') (hK:K items src H1):W (.ref s1.heap.objs.size) { s1 with heap:=s1.heap.push o }:=
 k _ _ _ _ _ _ _ I (g _ (Heap.get?_push_size _ hf)) (R.ownNew fun a q=>q▸get?_size_none _) (R.stays fun _ _ e=>Heap.get?_push_of_some _ e) hK
structure FldO (T:String) (vs:Array Value) (h:Heap) (I:Addr) (o:Obj):Prop where
 e:h.get? I=some o
 c:o.cls=.type T
 d:o.data=.fields vs
theorem FldO.nc {T:String} {vs:Array Value} {h:Heap} {I:Addr} {o:Obj} (F:FldO T vs h I o) (hn:∀ x t,vs[1]?≠some (.str x t)):¬ CodeO c o:=fun q=>q.elim fun us q=>q.elim fun t q=>by
 rw [F.d] at q; cases q.1; exact hn _ _ q.2
theorem Iter.fields {T:String} {fld:Nat→Array Value} {I:Addr} (nc:∀ i x t,(fld i)[1]?≠some (.str x t)) (hT:["enumerate","zip","dict_itemiterator","dict_reverseitemiterator","odict_iterator","itertools.zip_longest","itertools.pairwise"].contains T=false)
  (nx:∀ {A:Around} {Z H s o i xs} {Q:Option Value→Shared→Prop},Rel c Z H s→src H→FldO T (fld i) s.heap I o→items[i]?=some xs→(∀ v h' tk o',xs=[er v]→FldO T (fld (i + 1)) h' I o'→Heap.ExtBut I s.heap h'→Q (some v) { s with heap:=h',toks:=tk })→wpAny c.M A (pyNext (.ref I)) Q BOT s)
  (st:∀ {A:Around} {Z H s o} {Q:Option Value→Shared→Prop},A.handled=none→Rel c Z H s→src H→FldO T (fld items.length) s.heap I o→(∀ h',Heap.ExtBut I s.heap h'→Q none { s with heap:=h' })→wpAny c.M A (pyNext (.ref I)) Q BOT s)
  (sf:∀ {A:Around} {s o i} {Q:Value→Shared→Prop},FldO T (fld i) s.heap I o→Q (.ref I) s→wpAny c.M A (pyIter (.ref I)) Q BOT s):Iter c tg false (.ref I) (·=I) (fun i h=>∃ o,FldO T (fld i) h I o) items src where
 live g q:=g.imp fun o F=>q▸F.e
 keep g k:=g.imp fun o F=>{ F with e:=k _ _ rfl F.e }
 next hr R hs g P hx:=g.elim fun o F=>nx R hs F hx fun v h' tk o' e F' hb=>⟨v,rfl,letOwned_quiet F'.e F'.c F'.d hT ⟨⟨o',F'⟩,e,R.own F.e (P.pv _ rfl) (F.nc (nc _)) (P.off _ rfl) fun b ob hb' e=>hb b ob hb' e⟩⟩
 stop hr R hs g P:=g.elim fun o F=>st hr.handled R hs F fun h' hb=>⟨rfl,R.own F.e (P.pv _ rfl) (F.nc (nc _)) (P.off _ rfl) fun b ob hb' e=>hb b ob hb' e⟩
 self hr g q:=g.elim fun o F=>sf F q
end
end Mine
namespace Mine
theorem closureFor_go (env:Env):∀ (names:Names) (acc:List (Str × Addr)),(∀ x,(x,NameKind.free)∈names→∃ a,env.cells.lookup x=some a)→
  ∃ cl,(forIn names acc fun (p:Str × NameKind) cs=>match p with
    | (name,kind)=>if (kind == NameKind.free)=true then do let a ← cellOf env name; pure (ForInStep.yield ((name,a)::cs)) else pure (ForInStep.yield cs):Sem (List (Str × Addr)))=pure cl∧
   ∀ x,((x,NameKind.free)∈names∨acc.lookup x=env.cells.lookup x)→cl.lookup x=env.cells.lookup x
 | [],acc,_=>⟨acc,rfl,fun x h=>h.elim (fun e=>nomatch e) id⟩
 | (y,k)::r,acc,hf=>by
  by_cases hk:(k == NameKind.free)=true
  ·obtain rfl:k=.free:=beq_iff_eq.mp hk
   obtain ⟨a,ha⟩:=hf y (.head _)
   obtain ⟨cl,e,h⟩:=closureFor_go env r ((y,a)::acc) fun x hx=>hf x (.tail _ hx)
   refine ⟨cl,?_,fun x hx=>h x ?_⟩
   ·have hc:cellOf env y=pure a:=by unfold cellOf; rw [ha]
    rw [List.forIn_cons]
    simp only [beq_self_eq_true,if_true,hc,pure_bind]
    exact e
   ·by_cases q:x=y
    ·subst q; exact .inr (by rw [ha]; exact List.lookup_cons_self)
    ·refine hx.imp (fun hx=>(List.mem_cons.mp hx).resolve_left fun e=>q (Prod.mk.inj e).1) fun hx=>?_
     rw [List.lookup_cons,beq_eq_false_iff_ne.mpr q]; exact hx
  ·obtain ⟨cl,e,h⟩:=closureFor_go env r acc fun x hx=>hf x (.tail _ hx)
   refine ⟨cl,?_,fun x hx=>h x (hx.imp (fun hx=>(List.mem_cons.mp hx).resolve_left fun e=>hk (by rw [(Prod.mk.inj e).2.symm]; rfl)) id)⟩
   rw [List.forIn_cons]
   simp only [hk]
   exact e
theorem closureFor_eq {scope:Scope} {env:Env} (h:∀ x,(x,NameKind.free)∈scope.names→∃ a,env.cells.lookup x=some a) :
  ∃ cl,closureFor scope env=pure cl∧∀ x,(x,NameKind.free)∈scope.names→cl.lookup x=env.cells.lookup x:=by
 obtain ⟨cl,e,k⟩:=closureFor_go env scope.names [] h
 refine ⟨cl,?_,fun x hx=>k x (.inl hx)⟩
 unfold closureFor
 first
  | (show (forIn scope.names ([]:List (Str × Addr)) _ >>= fun cs=>pure cs)=_; rw [bind_pure]; exact e)
  | exact e
  | (simp only [bind_pure]; exact e)
noncomputable def ownOf (scope:Scope) (x:Str):Bool:=scope.names.lookup x == some .cell
noncomputable abbrev fmComp (scope:Scope) (cl:List (Str × Addr)) (C:Addr) (env:Env):Fm:=⟨compEnvC scope cl C env,ownOf scope⟩
noncomputable def relabelN (names:Names):Names→Names:=List.map fun p=>if p.2 == .free && names.lookup p.1 == some .cell then (p.1,.cell) else p
noncomputable def capOf (names:Names):Str × NameKind→Option Nat
 | (x,.free)=>some (names.findIdx fun p=>p.1 == x)
 | _=>none
noncomputable def capsOk (names:Names) (l:Names):Bool:=l.all fun p=>match p with
 | (x,.free)=>match names.lookup x with | some .cell=>true | some .free=>true | _=>false
 | _=>true
theorem lookup_at {x:Str}:∀ {l:Names} {k:NameKind},l.lookup x=some k→l[l.findIdx fun p=>p.1 == x]?=some (x,k)
 | p::r,k,h=>by
  rw [List.lookup_cons] at h
  rw [List.findIdx_cons]
  cases q:x == p.1 with
  | true=>
   rw [q] at h
   have e:=eq_of_beq q
   rw [show (p.1 == x)=true by rw [e]; exact beq_self_eq_true _]
   show some p=_
   rw [e,← Option.some.inj h]
  | false=>
   rw [q] at h
   rw [show (p.1 == x)=false from beq_eq_false_iff_ne.mpr fun w=>by rw [w,beq_self_eq_true] at q; cases q]
   exact lookup_at (l:=r) h
section
variable {c:Cx} {n:Nat} {fm:Fm} {ρ:Loc} {H:AH} {names:Names} {Z:Froz} {A:Around} {s:Shared} {O:Addr→Prop} {tg:Expr} {z:Bool} {it:Value} {St:Nat→Heap→Prop} {items:List (List V)} {src:AH→Prop} {scope:Scope}
theorem relabel_names (F:Fe fm names):(relabel scope fm.env).names=relabelN names scope.names:=by
 unfold relabel relabelN
 refine List.map_congr_left fun p hp=>?_
 have:fm.env.kindOf p.1=names.lookup p.1:=by show fm.env.scope.names.lookup p.1=_; rw [F.eq]
 simp only [this,F.fn,beq_self_eq_true,Bool.and_true]
theorem relabelN_fst (l:Names):(relabelN names l).map (·.1)=l.map (·.1):=by
 unfold relabelN
 rw [List.map_map]
 exact List.map_congr_left fun p _=>by simp only [Function.comp]; split <;> rfl
theorem relabelN_at {l:Names} {i:Nat} {x:Str} {k:NameKind} (h:(relabelN names l)[i]?=some (x,k)):l[i]?=some (x,k)∨(k=.cell∧l[i]?=some (x,.free)):=by
 unfold relabelN at h
 rw [List.getElem?_map] at h
 obtain ⟨p,e1,e2⟩:=Option.map_eq_some_iff.mp h
 split at e2
 ·rename_i q
  rw [Bool.and_eq_true] at q
  cases e2
  exact .inr ⟨rfl,by rw [e1,← beq_iff_eq.mp q.1]⟩
 ·exact .inl (by rw [e1,e2])
theorem Fe.comp (F:Fe fm names) (hk:scope.kind=.function) (nd:(scope.names.map (·.1)).Nodup) (pl:∀ p∈scope.names,PlainName p.1) (cl:List (Str × Addr)) (C:Addr):Fe (fmComp scope cl C fm.env) (relabelN names scope.names):=
 ⟨relabel_names F,hk,F.glob,F.blt,by rw [relabelN_fst]; exact nd,fun p hp=>by
  have:p.1∈scope.names.map (·.1):=relabelN_fst (names:=names) scope.names▸List.mem_map_of_mem hp
  obtain ⟨q,hq,e⟩:=List.mem_map.mp this
  exact e▸pl q hq⟩
noncomputable abbrev testsOf (ifs:List Expr) (env:Env):Sem Bool:=forIn ifs true fun c r=>if r=true then do let ok ← isTrue c env (eval c env); pure (ForInStep.yield ok) else pure (ForInStep.yield r)
noncomputable abbrev TTests (c:Cx) (n:Nat) (fm:Fm) (ρ:Loc) (H:AH) (ifs:List Expr) (Q:Bool→AH→Prop):Prop:=TG c n fm ρ H (testsOf ifs fm.env) Q
theorem TTests.nil {Q:Bool→AH→Prop} (h:Q true H):TTests c n fm ρ H [] Q:=fun A Z s hr R=>wpAny_tests_nil ⟨H,R,h⟩
theorem TTests.one {e:Expr} {Q:Bool→AH→Prop} (h:TB c n fm ρ H e Q):TTests c n fm ρ H [e] Q:=fun A Z s hr R=>wpAny_tests_one (h A Z s hr R)
theorem comp_code {R:Result→Shared→Prop} {elt:Expr} {gens:List Comprehension} {pos:Pos} {depth:Nat} {it acc:Value} {env:Env} {target:Expr} {ifs:List Expr} {p:Pos} {emitK:Bool→Sem Fin}
  (hT:compTurn (.ListComp elt gens scope pos) depth it acc env=(do
   standAt p
   match ← pyNext it with
   | none=>pure (.done .next)
   | some v=>
    letOwnedTupleGo target it v
    assign target env v
    testsOf ifs env >>= emitK))
  (I:Nat→Shared→Prop)
  (turn:∀ n s,I n s→wpAny c.M A (pyNext it) (fun r s₁=>(r=none∧R (.ok .next) s₁)∨∃ v,r=some v∧wpAny c.M A (letOwnedTupleGo target it v) (fun _ s₁'=>wpAny c.M A (assign target env v) (fun _ s₂=>
     wpAny c.M A (testsOf ifs env) (fun ok s₃=>wpAny c.M A (emitK ok) (fun fin s₄=>fin=.again (.compLoop (.ListComp elt gens scope pos) depth it acc env)∧∃ m,m < n∧I m s₄) BOT s₃) BOT s₂) BOT s₁') BOT s₁) BOT s)
  (n:Nat) (h:I n s):codeAny c.M A (.compLoop (.ListComp elt gens scope pos) depth it acc env) R s:=by
 refine codeAny_loop rfl I (fun n s hI=>?_) n h
 rw [Around.under_of_weight rfl]
 show wpAny c.M A ((compTurn (.ListComp elt gens scope pos) depth it acc env).onRaise (fun x=>do noteFrame x env; theTreesLotGoes x)) _ _ s
 refine wpAny_noted ?_
 rw [hT]
 refine wpAny_bind (wpAny_standAt (wpAny_bind (wpAny_mono (turn n s hI) (fun r s₁ h₁=>?_) fun _ _ h'=>h'.elim)))
 rcases h₁ with ⟨rfl,h₁⟩ | ⟨v,rfl,h₁⟩
 ·exact wpAny_pure h₁
 ·exact wpAny_bind (wpAny_mono h₁ (fun _ s₁' h₁'=>wpAny_bind (wpAny_mono h₁' (fun _ s₂ h₂=>wpAny_bind (wpAny_mono h₂ (fun ok s₃ h₃=>wpAny_mono h₃ (fun fin s₄ h=>by obtain ⟨rfl,h⟩:=h; exact ⟨rfl,h⟩) fun _ _ h'=>h'.elim) fun _ _ h'=>h'.elim)) fun _ _ h'=>h'.elim)) fun _ _ h'=>h'.elim)
structure CompI (c:Cx) (Z:Froz) (fm:Fm) (D:Addr) (O:Addr→Prop) (St:Nat→Heap→Prop) (Inv:List V→Loc→AH→Prop) (s:Shared) (i:Nat) (xs:List Value) (m:Nat) (ρ:Loc) (H:AH):Prop where
 inv:Inv (xs.map er) ρ H
 rel:RelF c Z fm ρ H s
 st:St i s.heap
 own:OwnF c Z fm H fun a=>a=D∨O a
 d:s.heap.get? D=some (seqOb .list xs m)
 len:xs.length≤100000
theorem OwnF.sub {O':Addr→Prop} (P:OwnF c Z fm H O) (k:∀ a,O' a→O a):OwnF c Z fm H O':=⟨⟨fun a q=>P.off a (k a q),fun a q=>P.pv a (k a q)⟩,fun q=>P.loc (k _ q),fun i x kd a hx hk hl q=>P.cl i x kd a hx hk hl (k a q)⟩
theorem call_append {E:Value→Shared→Prop} {D:Addr} {xs:List Value} {m:Nat} {x:Value} {Q:Value→Shared→Prop} (hD:s.heap.get? D=some (seqOb .list xs m)) (hl:xs.length≤100000)
  (h:∀ h',h'.get? D=some (seqOb .list (xs++[x]) (m + 1))→Heap.SameBut D s.heap h'→Q .none { s with heap:=h' }):wpAny c.M A (call (.builtin "list.append") [.ref D,x]) Q E s:=by
 have hT:s.TypeIs (.ref D) "list":=⟨_,hD,rfl⟩
 refine wpAny_call_entry slot_list_append hT entry_list_append ?_ (args_list_append _ _)
 show wpAny _ _ (updateSeq D (·.push x) >>= fun _=>ret .none) _ _ s
 refine wpAny_bind (wpAny_updateSeq hD rfl (wpAny_pure ⟨.none,rfl,h _ ?_ (Heap.SameBut.update ..)⟩) (by rw [List.size_toArray]; exact le_sizeLine hl))
 rw [Heap.get?_update_self _ hD (by simp [Obj.mapSeq,Obj.isFreed])]
 simp [Obj.mapSeq]
theorem CompI.back {D:Addr} {Inv:List V→Loc→AH→Prop} {s2 s':Shared} {i:Nat} {xs:List Value} {m:Nat} {ρ':Loc} {H' H'':AH} (I:Iter c tg z it O St items src) (P:OwnF c Z fm H fun a=>a=D∨O a) (g:St i s2.heap) (d:s2.heap.get? D=some (seqOb .list xs m)) (l:xs.length≤100000)
  (R:RelF c (Z.and s2.heap fun a=>a=D∨O a) fm ρ' H' s') (b:Sub H'' H') (inv:Inv (xs.map er) ρ' H''):CompI c Z fm D O St Inv s' i xs m ρ' H'':=
 have off:∀ a,a=D∨O a→H' a=none:=fun a q=>(q.elim (fun q=>⟨_,q▸d⟩) fun q=>I.live g q:∃ o,s2.heap.get? a=some o).elim fun o e=>(R.rel.fz a o (.inr ⟨q,e⟩)).off
 ⟨inv,(R.thaw fun a o z=>.inl z).weaken b,I.keep g fun a o q e=>(R.rel.fz a o (.inr ⟨.inr q,e⟩)).e,{ P with off:=fun a q=>b.none (off a q) },(R.rel.fz D _ (.inr ⟨.inl rfl,d⟩)).e,l⟩
structure CompT (c:Cx) (n:Nat) (fm:Fm) (tg:Expr) (z:Bool) (ifs:List Expr) (elt:Expr) (Inv:Nat→List V→Loc→AH→Prop) (items:List (List V)) (src:AH→Prop):Prop where
 src:∀ i acc ρ' H',Inv i acc ρ' H'→src H'
 step:∀ i acc xs ρ' H',items[i]?=some xs→Inv i acc ρ' H'→TgX c n fm ρ' H' z tg xs fun ρ3 H3=>TTests c n fm ρ3 H3 ifs fun ok H4=>
  if ok=true then TE c n fm ρ3 H4 elt fun v H5=>∃ H6,Sub H6 H5∧Inv (i + 1) (acc++[v]) ρ3 H6 else ∃ H6,Sub H6 H4∧Inv (i + 1) acc ρ3 H6
theorem CompI.next {D:Addr} {Inv:List V→Loc→AH→Prop} {i:Nat} {xs:List Value} {m:Nat} {W:Option Value→Shared→Prop} (hr:Room n A) (I:Iter c tg z it O St items src) (hD:¬ O D) (L:CompI c Z fm D O St Inv s i xs m ρ H) (hs:src H) (hi:i < items.length)
  {Q:Loc→AH→Prop} (h:TgX c n fm ρ H z tg items[i] Q) (k:∀ v s1,wpAny c.M A (letOwnedTupleGo tg it v) (fun _ s1'=>wpAny c.M A (assign tg fm.env v) (fun _ s2=>∃ (s0:Shared) (ρ':Loc) (H':AH),St (i + 1) s0.heap∧s0.heap.get? D=some (seqOb .list xs m)∧RelF c (Z.and s0.heap fun a=>a=D∨O a) fm ρ' H' s2∧Q ρ' H') BOT s1') BOT s1→W (some v) s1) :
  wpAny c.M A (pyNext it) W BOT s:=by
 have PO:=L.own.sub (O':=O) fun a=>.inr
 have P1:OwnF c (Z.and s.heap (·=D)) fm H O:={ PO with pv:=fun a q=>{ PO.pv a q with z:=fun o z=>z.elim ((PO.pv a q).z o) fun z=>hD (z.1▸q) } }
 refine wpAny_mono (I.nextF hr (L.rel.frz (L.own.sub fun a=>.inl)) hs L.st P1 (List.getElem?_eq_getElem hi)) (fun r s1 w=>w.elim fun v w=>?_) fun _ _ e=>e
 rw [w.1]
 refine k v s1 (wpAny_mono w.2 (fun _ s0 w=>?_) fun _ _ e=>e)
 exact wpAny_mono (h v A _ s0 hr ((w.2.2.thaw fun a o z=>.inl z).frz L.own) w.2.1) (fun _ s2 u=>u.elim fun ρ' u=>u.elim fun H' u=>⟨s0,ρ',H',w.1,(w.2.2.rel.fz D _ (.inr ⟨rfl,L.d⟩)).e,u.1,u.2⟩) fun _ _ e=>e
theorem comp_loop {D:Addr} {elt0 elt:Expr} {gens:List Comprehension} {pos:Pos} {ifs:List Expr} {depth:Nat} {p:Pos} {Rz:Result→Shared→Prop} {xs0:List Value} {m0:Nat} {Inv:Nat→List V→Loc→AH→Prop}
  (hT:compTurn (.ListComp elt0 gens scope pos) depth it (.ref D) fm.env=(do
   standAt p
   match ← pyNext it with
   | none=>pure (.done .next)
   | some v=>
    letOwnedTupleGo tg it v
    assign tg fm.env v
    let mut ok:=true
    for c in ifs do
     if ok then ok ← isTrue c fm.env (eval c fm.env)
    if ok then
     (do let _ ← call (.builtin "list.append") [.ref D,← eval elt fm.env])
    again (.compLoop (.ListComp elt0 gens scope pos) depth it (.ref D) fm.env)))
  (hr:Room n A) (I:Iter c tg z it O St items src) (hD:¬ O D) (L0:CompI c Z fm D O St (Inv 0) s 0 xs0 m0 ρ H) (hl:xs0.length + items.length≤100000) (T:CompT c n fm tg z ifs elt Inv items src)
  (fin:∀ xs m ρ' H' s',CompI c Z fm D O St (Inv items.length) s' items.length xs m ρ' H'→wpAny c.M A (pyNext it) (fun r s1=>r=none∧Rz (.ok .next) s1) BOT s'):codeAny c.M A (.compLoop (.ListComp elt0 gens scope pos) depth it (.ref D) fm.env) Rz s:=by
 refine comp_code (emitK:=fun ok=>do
    if ok then
     (do let _ ← call (.builtin "list.append") [.ref D,← eval elt fm.env])
    again (.compLoop (.ListComp elt0 gens scope pos) depth it (.ref D) fm.env)) hT (fun k s=>∃ i xs m ρ' H',k=items.length - i∧CompI c Z fm D O St (Inv i) s i xs m ρ' H'∧i≤items.length∧xs.length≤xs0.length + i) (fun k s hI=>?_) items.length ⟨0,xs0,m0,ρ,H,rfl,L0,Nat.zero_le _,Nat.le_refl _⟩
 obtain ⟨i,xs,m,ρ',H1,rfl,L,hle,hxl⟩:=hI
 rcases Nat.lt_or_ge i items.length with hi | hi
 ·have lt:items.length - (i + 1) < items.length - i:=Nat.sub_lt_sub_left hi (Nat.lt_succ_self i)
  refine L.next hr I hD (T.src _ _ _ _ L.inv) hi (T.step i _ _ ρ' H1 (List.getElem?_eq_getElem hi) L.inv) fun v s1 w=>.inr ⟨v,rfl,wpAny_mono w (fun _ s1' w=>wpAny_mono w (fun _ s2 w=>?_) fun _ _ e=>e) fun _ _ e=>e⟩
  obtain ⟨s0,ρ3,H3,g,d,R2,w⟩:=w
  refine w.run hr R2 fun ok s3 H4 R3 w=>?_
  cases ok with
  | false=>exact w.elim fun H6 w=>(wpAny_pure ⟨rfl,_,lt,i + 1,xs,m,ρ3,H6,rfl,CompI.back I L.own g d L.len R3 w.1 w.2,hi,Nat.le_succ_of_le hxl⟩)
  | true=>
   refine wpAny_bind (wpAny_bind (TG.run w hr R3 fun x s4 H5 R4 w=>w.elim fun H6 w=>?_))
   have B:=CompI.back (Inv:=fun _=>Inv (i + 1) (xs.map er++[er x])) I L.own g d L.len R4 w.1 w.2
   refine wpAny_bind (call_append B.d B.len fun h' hd hb=>wpAny_pure (wpAny_pure ⟨rfl,_,lt,i + 1,xs++[x],m + 1,ρ3,H6,rfl,?_,hi,by rw [List.length_append]; exact Nat.succ_le_succ hxl⟩))
   have PD:=B.own.sub (O':=(·=D)) fun a=>.inl
   exact ⟨List.map_append▸B.inv,B.rel.reO PD (B.rel.rel.all.own B.d (PD.all.pv D rfl) (fun q=>q.elim fun _ q=>q.elim fun _ q=>by cases q.1) (B.own.off D (.inl rfl)) fun b ob hne e=>hb.extBut b ob hne e),
    I.keep B.st fun a o q e=>hb.extBut a o (fun w=>hD (w▸q)) e,B.own,hd,by rw [List.length_append]; exact Nat.le_trans (Nat.succ_le_succ hxl) (Nat.le_trans (Nat.add_le_add_left hi _) hl)⟩
 ·obtain rfl:=Nat.le_antisymm hle hi
  exact wpAny_mono (fin xs m ρ' H1 s L) (fun r s1 w=>.inl w) fun _ _ e=>e
end
end Mine
namespace Mine
section
variable {c:Cx} {n:Nat} {fm:Fm} {ρ:Loc} {H:AH} {names:Names} {Z:Froz} {A:Around} {s:Shared} {O:Addr→Prop} {tg:Expr} {z:Bool} {it:Value} {St:Nat→Heap→Prop} {items:List (List V)} {src:AH→Prop} {scope:Scope}
structure CompO (c:Cx) (Z:Froz) (fm:Fm) (C D:Addr) (O:Addr→Prop) (ρ:Loc) (H:AH) (s:Shared):Prop where
 rel:RelF c Z fm ρ H s
 own:OwnF c Z fm H fun a=>a=C∨a=D∨O a
noncomputable abbrev outP (C D:Addr) (O:Addr→Prop):Addr→Prop:=fun a=>¬ (a=C∨a=D∨O a)
noncomputable def caps (names:Names) (ρ:Loc) (l:Names):Loc:=(l.map (capOf names)).map fun i=>i.bind ρ.at
theorem caps_at {l:Names} {i:Nat} {x:Str} {k:NameKind} (h:l[i]?=some (x,k)):Loc.at (caps names ρ l) i=(capOf names (x,k)).bind ρ.at:=by
 rw [Loc.at_eq]
 unfold caps
 rw [List.getElem?_map,List.getElem?_map,h]; rfl
structure CCell (c:Cx) (C D:Addr) (O OC:Addr→Prop) (H:AH) (h:Heap) (l:Names) (cl:List (Str × Addr)) (x:Str) (v:Option V) (a:Addr) (cv:Option Value):Prop where
 look:cl.lookup x=some a
 cell:h.IsCell a cv
 val:cv.map er=v
 off:H a=none
 t:a≠c.tab
 ne:a≠C
 no:¬ (a=D∨O a)
 w:(OC a∧(x,NameKind.cell)∈l)∨(¬ OC a∧(x,NameKind.free)∈l)
theorem kind_one {l:Names} (nd:(l.map (·.1)).Nodup) {x:Str} {k k':NameKind} (h:(x,k)∈l) (h':(x,k')∈l):k=k':=by
 obtain ⟨i,hi,e⟩:=List.mem_iff_getElem.mp h
 obtain ⟨j,hj,e'⟩:=List.mem_iff_getElem.mp h'
 have a:=List.getElem?_eq_getElem hi
 have b:=List.getElem?_eq_getElem hj
 rw [e] at a; rw [e'] at b
 have:=at_inj nd a b
 subst this
 exact (Prod.mk.inj (Option.some.inj (a.symm.trans b))).2
theorem CompO.enter {C D:Addr} {cl:List (Str × Addr)} {OC:Addr→Prop} (E:CompO c Z fm C D (fun a=>O a∨OC a) ρ H s) (F:Fe fm names) (nd:(scope.names.map (·.1)).Nodup) (hne:C≠D) (hC:¬ O C) (ok:capsOk names scope.names=true) (hcl:∀ x,(x,NameKind.free)∈scope.names→cl.lookup x=fm.env.cells.lookup x)
  (hoc:∀ a,OC a→a≠C∧¬ (a=D∨O a)) (own:∀ x,(x,NameKind.cell)∈scope.names→∃ a,cl.lookup x=some a∧s.heap.IsCell a none∧OC a) (ap:∀ x y a,(x,NameKind.cell)∈scope.names→(y,NameKind.cell)∈scope.names→cl.lookup x=some a→cl.lookup y=some a→x=y)
  (ns:∃ m,s.heap.Ns C m∧∀ x,m x=none):RelF c (All c H s (outP C D fun a=>O a∨OC a)) (fmComp scope cl C fm.env) (caps names ρ scope.names) H s∧OwnF c (All c H s (outP C D fun a=>O a∨OC a)) (fmComp scope cl C fm.env) H fun a=>a=D∨O a:=by
 have pv:∀ a,a=C∨a=D∨(O a∨OC a)→Pv c (All c H s (outP C D fun a=>O a∨OC a)) a:=fun a q=>{ E.own.pv a q with z:=fun o z=>z.1 q }
 have nm:(fmComp scope cl C fm.env).env.scope.names=relabelN names scope.names:=relabel_names F
 have cell:∀ i x k,NameAt (fmComp scope cl C fm.env).env x i k→k=.cell∨k=.free→∃ a cv,CCell c C D O OC H s.heap scope.names cl x (Loc.at (caps names ρ scope.names) i) a cv:=fun i x k hx hk=>by
  have hx:(relabelN names scope.names)[i]?=some (x,k):=nm▸hx
  have e:scope.names[i]?=some (x,.cell)∨scope.names[i]?=some (x,.free):=by
   rcases relabelN_at hx with e | e
   ·rcases hk with rfl | rfl
    ·exact .inl e
    ·exact .inr e
   ·exact .inr e.2
  rcases e with e | e
  ·have hm:=List.mem_of_getElem? e
   obtain ⟨a,h1,h2,h3⟩:=own x hm
   have hp:=hoc a h3
   exact ⟨a,none,h1,h2,by rw [caps_at e]; rfl,E.own.off a (.inr (.inr (.inr h3))),(E.own.pv a (.inr (.inr (.inr h3)))).t,hp.1,hp.2,.inl ⟨h3,hm⟩⟩
  ·have hm:=List.mem_of_getElem? e
   obtain ⟨kk,hl,hkk⟩:∃ kk,names.lookup x=some kk∧(kk=.cell∨kk=.free):=by
    have:(match names.lookup x with | some NameKind.cell=>true | some NameKind.free=>true | _=>false)=true:=List.all_eq_true.mp ok _ hm
    split at this
    ·rename_i q; exact ⟨_,q,.inl rfl⟩
    ·rename_i q; exact ⟨_,q,.inr rfl⟩
    ·cases this
   have hn:=F.at_ (lookup_at hl)
   obtain ⟨a,cv,K⟩:=E.rel.cl _ x kk hn hkk
   have no:=E.own.cl _ x kk a hn hkk K.look
   exact ⟨a,cv,(hcl x hm).trans K.look,K.cell,by rw [caps_at e]; exact K.val,K.off,K.t,fun q=>no (.inl q),fun q=>no (.inr (q.imp id .inl)),.inr ⟨fun q=>no (.inr (.inr (.inr q))),hm⟩⟩
 have mine:∀ {x a cv v},ownOf scope x=true→CCell c C D O OC H s.heap scope.names cl x v a cv→OC a∧(x,NameKind.cell)∈scope.names:=fun ho K=>
  K.w.resolve_right fun q=>nomatch kind_one nd q.2 (mem_of_lookup (beq_iff_eq.mp ho))
 obtain ⟨m,ns,hm⟩:=ns
 refine ⟨⟨E.rel.rel.all,by rw [nm]; unfold caps relabelN; simp only [List.length_map],⟨m,ns,fun i x hx=>?_⟩,fun i x k hx hk=>?_,E.own.off C (.inl rfl),pv C (.inl rfl),fun i j x y k a ho hx hy hk e1 e2=>?_⟩,⟨fun a q=>E.own.off a (.inr (q.imp id .inl)),fun a q=>pv a (.inr (q.imp id .inl))⟩,fun q=>q.elim hne hC,fun i x k a hx hk hl q=>?_⟩
 ·have hx:(relabelN names scope.names)[i]?=some (x,.local):=nm▸hx
  rw [hm,caps_at ((relabelN_at hx).resolve_right fun q=>nomatch q.1)]; rfl
 ·obtain ⟨a,cv,K⟩:=cell i x k hx hk
  exact ⟨a,cv,K.look,K.cell,K.val,K.off,K.ne,K.t,fun _ ho=>pv a (.inr (.inr (.inr (mine ho K).1)))⟩
 ·obtain ⟨a1,_,K1⟩:=cell i x .cell hx (.inl rfl)
  obtain ⟨a2,_,K2⟩:=cell j y k hy hk
  obtain rfl:a=a1:=Option.some.inj (e1.symm.trans K1.look)
  obtain rfl:a=a2:=Option.some.inj (e2.symm.trans K2.look)
  have m1:=mine ho K1
  exact ap x y a m1.2 (K2.w.elim (·.2) fun q=>absurd m1.1 q.1) e1 e2
 ·obtain ⟨a',cv,K⟩:=cell i x k hx hk
  exact K.no ((Option.some.inj (hl.symm.trans K.look))▸q)
theorem CompO.back {C D:Addr} {cl:List (Str × Addr)} {ρ':Loc} {H':AH} {s':Shared} {O':Addr→Prop} (E:CompO c Z fm C D O ρ H s) (R:RelF c (All c H s (outP C D O)) (fmComp scope cl C fm.env) ρ' H' s') (off:H' D=none):RelF c Z fm ρ H' s'∧OwnF c Z fm H' (fun a=>a=C∨a=D):=
 ⟨E.rel.re R.rel (fun a o z q=>(E.own.pv a q).z o z) E.own.loc fun i x k a hx hk hl=>E.own.cl i x k a hx hk hl,{ E.own.sub (O':=fun a=>a=C∨a=D) fun a q=>q.imp id .inl with off:=fun a q=>q.elim (fun q=>q▸R.off) fun q=>q▸off }⟩
theorem cellsFrom_ge {x:Str} {a:Addr}:∀ (names:Names) (k:Nat) (acc:List (Str × Addr)),(x,a)∈cellsFrom k names acc→(x,a)∈acc∨k≤a
 | [],_,_,h=>.inl h
 | (y,kd)::r,k,acc,h=>by
  unfold cellsFrom at h
  by_cases q:(kd == .cell)=true
  ·rw [if_pos q] at h
   refine (cellsFrom_ge r (k + 1) _ h).elim (fun h=>?_) fun h=>.inr (Nat.le_of_succ_le h)
   exact (List.mem_cons.mp h).elim (fun h=>.inr (by cases h; exact Nat.le_refl _)) .inl
  ·rw [if_neg q] at h
   exact cellsFrom_ge r k _ h
theorem cellsFrom_some' {x:Str}:∀ (names:Names) (k:Nat) (acc:List (Str × Addr)),(x,NameKind.cell)∈names∨(acc.lookup x).isSome=true→((cellsFrom k names acc).lookup x).isSome=true
 | [],_,_,h=>h.elim (fun e=>nomatch e) id
 | (y,kd)::r,k,acc,h=>by
  unfold cellsFrom
  by_cases q:(kd == .cell)=true
  ·rw [if_pos q]
   refine cellsFrom_some' r (k + 1) _ ?_
   by_cases e:x=y
   ·right; rw [e,List.lookup_cons_self]; rfl
   ·exact h.imp (fun h=>(List.mem_cons.mp h).elim (fun h=>by cases h; exact absurd rfl e) id) fun h=>by rw [List.lookup_cons,beq_eq_false_iff_ne.mpr e]; exact h
  ·rw [if_neg q]
   exact cellsFrom_some' r k acc (h.imp (fun h=>(List.mem_cons.mp h).elim (fun h=>by cases h; exact absurd rfl q) id) id)
theorem cellsFrom_app:∀ (l:Names) (n:Nat) (acc:List (Str × Addr)),cellsFrom n l acc=cellsFrom n l []++acc
 | [],_,_=>rfl
 | (x,k)::r,n,acc=>by
  unfold cellsFrom
  split
  ·rw [cellsFrom_app r (n + 1) ((x,n)::acc),cellsFrom_app r (n + 1) [(x,n)],List.append_assoc]; rfl
  ·exact cellsFrom_app r n acc
theorem cellsFrom_mem {x:Str} {a:Addr}:∀ (l:Names) (n:Nat) (acc:List (Str × Addr)),(x,a)∈cellsFrom n l acc→(x,NameKind.cell)∈l∨(x,a)∈acc
 | [],_,_,h=>.inr h
 | (y,k)::r,n,acc,h=>by
  unfold cellsFrom at h
  split at h
  ·rename_i q
   refine (cellsFrom_mem r (n + 1) _ h).elim (fun h=>.inl (.tail _ h)) fun h=>(List.mem_cons.mp h).elim (fun h=>.inl ?_) .inr
   rw [(Prod.mk.inj h).1,beq_iff_eq.mp q]; exact .head _
  ·exact (cellsFrom_mem r n acc h).imp (.tail _) id
structure NewC (h h':Heap) (l:Names):Prop where
 ns:h'.Ns h.objs.size fun _=>none
 keep:∀ b o,h.get? b=some o→h'.get? b=some o
 cells:CellsOk h' (h.objs.size + 1) (cellsFrom (h.objs.size + 1) l [])
theorem newEnvC {cl:List (Str × Addr)} {g:Addr} {q:Str} {env:Env} {Q:Env→Shared→Prop} {E:Value→Shared→Prop}
  (h:∀ h',NewC s.heap h' scope.names→Q (newEnv scope s.heap.objs.size g (cellsFrom (s.heap.objs.size + 1) scope.names cl) q none .none (some env) builtinsNs) { s with heap:=h' }) :
  wpAny c.M A (newFunctionEnv scope g cl [] q none .none (some env)) Q E s:=by
 simp only [newFunctionEnv,Option.isSome_some,if_true]
 refine wpAny_bind (wpAny_alloc ?_)
 refine wpAny_bind (wpAny_layCells _ (fun name kind cells=>by cases hkc:kind == NameKind.cell <;> simp [hkc]) _ _ _ _ ?_)
 have ok:=cellsFrom_ok scope.names (s.heap.push { cls:=.type "dict",data:=.dict #[] }) (s.heap.objs.size + 1) [] ⟨fun _ _ hm=>(nomatch hm),List.Pairwise.nil⟩ (by rw [Heap.size_push]; exact Nat.le_refl _)
 rw [Heap.size_push] at ok
 rw [show ({ s with heap:=s.heap.push { cls:=.type "dict",data:=.dict #[] } }:Shared).heap.objs.size=s.heap.objs.size + 1 from Heap.size_push ..]
 refine wpAny_bind ?_
 rw [List.forIn_nil]
 exact wpAny_pure (wpAny_pure (h _ ⟨(Heap.Ns.new s.heap (.type "dict")).keeps (pushCells_keeps _ _),fun b o e=>pushCells_keeps _ _ b o (Heap.get?_push_of_some _ e),ok⟩))
structure Loops (c:Cx) (n:Nat) (fm:Fm) (e:Expr) (scope:Scope) (tg:Expr) (z:Bool) (ρc:Loc) (K:List V→AH→Prop) (items:List (List V)) (src:AH→Prop) (H:AH) (Inv:Nat→List V→Loc→AH→Prop):Prop where
 ini:Inv 0 [] ρc H
 run:∀ {A Z cl C D it O St s Rz},Room n A→Iter c tg z it O St items src→¬ O D→CompI c Z (fmComp scope cl C fm.env) D O St (Inv 0) s 0 [] 0 ρc H→
  (∀ xs m ρ' H' s',CompI c Z (fmComp scope cl C fm.env) D O St (Inv items.length) s' items.length xs m ρ' H'→wpAny c.M A (pyNext it) (fun r s1=>r=none∧Rz (.ok .next) s1) BOT s')→codeAny c.M A (.compLoop e 0 it (.ref D) (fmComp scope cl C fm.env).env) Rz s
 fin:∀ acc ρ' H',Inv items.length acc ρ' H'→src H'∧K acc H'
theorem comp_run {elt iter:Expr} {ifs:List Expr} {gens:List Comprehension} {pos pos':Pos} {K:List V→AH→Prop} {use:Option (Value→Sem Unit)} {Qq:Value→Shared→Prop} (F:Fe fm names)
  (hk:scope.kind=.function) (nd:(scope.names.map (·.1)).Nodup) (ok:capsOk names scope.names=true) (h:IterE c n fm ρ H tg iter z fun items src H1=>∃ Inv,Loops c n fm (.ListComp elt (⟨tg,iter,ifs,0⟩::gens) scope pos) scope tg z (caps names ρ scope.names) K items src H1 Inv) (hr:Room n A) (R:RelF c Z fm ρ H s)
  (k:∀ acc H' C D s',K acc H'→H' D=none→RelF c Z fm ρ (H'.set D (.list acc)) s'→OwnF c Z fm (H'.set D (.list acc)) (·=C)→(∃ m,s'.heap.Ns C m)→compPost c.M A BOT use Qq (.ref D) C (.ok .next) s') (hf:∀ env x,foldedSetIterable iter env x=pure x) :
  wpAny c.M A (comprehension (.ListComp elt (⟨tg,iter,ifs,0⟩::gens) scope pos) scope fm.env pos' (newList []) false (eval iter fm.env) use) Qq BOT s:=by
 obtain ⟨cl,hclos,hlook⟩:=closureFor_eq (scope:=scope) (env:=fm.env) fun x hx=>by
  have:(match names.lookup x with | some NameKind.cell=>true | some NameKind.free=>true | _=>false)=true:=List.all_eq_true.mp ok _ hx
  split at this
  ·rename_i q; exact (R.cl _ x _ (F.at_ (lookup_at q)) (.inl rfl)).imp fun a w=>w.elim fun _ w=>w.look
  ·rename_i q; exact (R.cl _ x _ (F.at_ (lookup_at q)) (.inr rfl)).imp fun a w=>w.elim fun _ w=>w.look
  ·cases this
 have hnames:∀ x∈scope.names,x.2=.local→scope.names.lookup x.1=some .local:=fun x hx hl=>by
  obtain ⟨i,hi,hi2⟩:=List.mem_iff_getElem.mp hx
  exact lookup_of_at nd (i:=i) (by rw [List.getElem?_eq_getElem hi,hi2,← hl])
 refine wpAny_comprehension_free (cl:=cl) (g:=⟨tg,iter,ifs,0⟩) (gs:=gens) rfl (hf _) hclos hk hnames ?_
 refine h A Z s _ hr R fun it s2 O St items src H1 I g P R2 q=>q.elim fun Inv L=>?_
 refine wpAny_newObj_type (newEnvC fun h₁ N=>?_) (by size_fits)
 have hns:=N.ns; have hcl:=N.cells; have hkp:=N.keep
 rw [Heap.size_push] at hns hcl ⊢
 have fD:s2.heap.get? s2.heap.objs.size=none:=get?_size_none _
 have fC:s2.heap.get? (s2.heap.objs.size + 1)=none:=get?_ge_none (Nat.le_succ _)
 have keep:∀ b ob,s2.heap.get? b=some ob→h₁.get? b=some ob:=fun b ob e=>hkp b ob (Heap.get?_push_of_some _ e)
 have live:∀ a,O a→a < s2.heap.objs.size:=fun a q=>(I.live g q).elim fun o e=>Heap.lt_size e
 have dD:h₁.get? s2.heap.objs.size=some (seqOb .list [] 0):=hkp _ _ (Heap.get?_push_size _ rfl)
 let OC:Addr→Prop:=fun a=>∃ x,(x,a)∈cellsFrom (s2.heap.objs.size + 1 + 1) scope.names []
 have gc:∀ a,OC a→s2.heap.objs.size + 1 + 1≤a:=fun a q=>q.elim fun x q=>(hcl.empty x a q).2
 have new:=R2.ownNew (O:=fun a=>a=s2.heap.objs.size + 1∨a=s2.heap.objs.size∨OC a) fun a q=>q.elim (fun q=>q▸fC) fun q=>q.elim (fun q=>q▸fD) fun q=>get?_ge_none (Nat.le_trans (Nat.le_add_right _ 2) (gc a q))
 have E:CompO c Z fm (s2.heap.objs.size + 1) s2.heap.objs.size (fun a=>O a∨OC a) ρ H1 ⟨h₁,s2.gens,s2.drawn,s2.toks,s2.os⟩:=⟨R2.stays keep,
  ⟨fun a q=>q.elim (fun q=>new.off a (.inl q)) fun q=>q.elim (fun q=>new.off a (.inr (.inl q))) fun q=>q.elim (P.off a) fun q=>new.off a (.inr (.inr q)),fun a q=>q.elim (fun q=>new.pv a (.inl q)) fun q=>q.elim (fun q=>new.pv a (.inr (.inl q))) fun q=>q.elim (P.pv a) fun q=>new.pv a (.inr (.inr q))⟩,
  fun q=>q.elim (fun q=>new.loc (.inl q)) fun q=>q.elim (fun q=>new.loc (.inr (.inl q))) fun q=>q.elim P.loc fun q=>new.loc (.inr (.inr q)),
  fun i x k a hx hk hl q=>q.elim (fun q=>new.cl i x k a hx hk hl (.inl q)) fun q=>q.elim (fun q=>new.cl i x k a hx hk hl (.inr (.inl q))) fun q=>q.elim (P.cl i x k a hx hk hl) fun q=>new.cl i x k a hx hk hl (.inr (.inr q))⟩
 obtain ⟨R3,own⟩:=E.enter (cl:=cellsFrom (s2.heap.objs.size + 1 + 1) scope.names cl) F nd (Nat.succ_ne_self _) (fun q=>Nat.lt_irrefl _ (Nat.lt_of_succ_lt (live _ q))) ok
  (fun x hx=>by
   rw [cellsFrom_app,List.lookup_append,none_of (o:=(cellsFrom (s2.heap.objs.size + 1 + 1) scope.names []).lookup x) fun a e=>(cellsFrom_mem _ _ _ (mem_of_lookup e)).elim (fun q=>(nomatch kind_one nd q hx)) fun q=>(nomatch q),Option.none_or]
   exact hlook x hx)
  (fun a q=>⟨fun w=>Nat.lt_irrefl _ (w▸gc a q),fun w=>w.elim (fun w=>Nat.lt_irrefl _ (Nat.lt_of_succ_lt (w▸gc a q))) fun w=>Nat.lt_irrefl _ (Nat.lt_trans (Nat.lt_trans (live a w) (Nat.lt_succ_self _)) (gc a q))⟩)
  (fun x hx=>by
   obtain ⟨a,ha⟩:=Option.isSome_iff_exists.mp (cellsFrom_some' scope.names (s2.heap.objs.size + 1 + 1) [] (.inl hx))
   exact ⟨a,by rw [cellsFrom_app,List.lookup_append,ha]; rfl,(hcl.empty x a (mem_of_lookup ha)).1,x,mem_of_lookup ha⟩)
  (fun x y a hx hy e1 e2=>by
   obtain ⟨a1,h1⟩:=Option.isSome_iff_exists.mp (cellsFrom_some' scope.names (s2.heap.objs.size + 1 + 1) [] (.inl hx))
   obtain ⟨a2,h2⟩:=Option.isSome_iff_exists.mp (cellsFrom_some' scope.names (s2.heap.objs.size + 1 + 1) [] (.inl hy))
   rw [cellsFrom_app,List.lookup_append,h1] at e1
   rw [cellsFrom_app,List.lookup_append,h2] at e2
   cases e1; cases e2
   exact name_of_addr hcl.apart (mem_of_lookup h1) (mem_of_lookup h2)) ⟨_,hns,fun _=>rfl⟩
 have g1:St 0 h₁:=I.keep g fun a o _ e=>keep a o e
 have loop:=L.run (Rz:=compPost c.M A BOT use Qq (.ref s2.heap.objs.size) (s2.heap.objs.size + 1)) hr I (fun q=>Nat.lt_irrefl _ (live _ q)) ⟨L.ini,R3,g1,own,dD,Nat.zero_le _⟩ fun xs m ρ' H' s' C=>by
  have PO:=C.own.sub (O':=O) fun a=>.inr
  have P1:OwnF c (Froz.and _ s'.heap (·=s2.heap.objs.size)) _ H' O:={ PO with pv:=fun a q=>{ PO.pv a q with z:=fun o z=>z.elim ((PO.pv a q).z o) fun z=>Nat.ne_of_lt (live a q) z.1 } }
  refine wpAny_mono (I.stopF hr (C.rel.frz (C.own.sub fun a=>.inl)) (L.fin _ _ _ C.inv).1 C.st P1) (fun r s3 w=>⟨w.1,?_⟩) fun _ _ e=>e
  have B:=E.back (O':=O) (w.2.thaw fun a o z=>.inl z) (C.own.off _ (.inl rfl))
  have PD:=B.2.sub (O':=(·=s2.heap.objs.size)) fun a=>.inr
  have d3:=(w.2.rel.fz _ _ (.inr ⟨rfl,C.d⟩)).e
  have R5:=B.1.reO PD (B.1.rel.all.adopt (o:=.list (xs.map er)) d3 (PD.all.pv _ rfl) (fun q=>q.elim fun _ q=>q.elim fun _ q=>by cases q.1) ⟨_,d3,by rw [List.length_map]; exact C.len,xs,m,rfl,rfl⟩)
  refine k _ H' _ _ s3 (L.fin _ _ _ C.inv).2 (C.own.off _ (.inl rfl)) R5 { B.2.sub (O':=(·=s2.heap.objs.size + 1)) fun a=>.inl with off:=fun a q=>?_ } (w.2.ns.imp fun m q=>q.ns)
  rw [q]; exact (AH.set_ne (Nat.succ_ne_self _)).trans (B.2.off _ (.inl rfl))
 exact codeAny_compStart_list loop (wpAny_mono (I.self (s:=⟨h₁,s2.gens,s2.drawn,s2.toks,s2.os⟩) (Q:=fun it' s'=>it'=it∧s'=⟨h₁,s2.gens,s2.drawn,s2.toks,s2.os⟩) hr g1 ⟨rfl,rfl⟩) (fun it' s' w=>by rw [w.1,w.2]; exact loop) fun _ _ e=>e.elim)
theorem OwnF.clear {C:Addr} {h':Heap} (R:RelF c Z fm ρ H s) (P:OwnF c Z fm H (·=C)) (ns:∃ m,s.heap.Ns C m) (hb:Heap.SameBut C s.heap h'):RelF c Z fm ρ H { s with heap:=h' }:=
 ns.elim fun m ns=>(ns_nocode (c:=c) ns).elim fun o e=>R.reO P (R.rel.all.own e.1 (P.all.pv C rfl) e.2 (P.off C rfl) fun b ob hne e=>hb.extBut b ob hne e)
theorem TE.lc {elt iter:Expr} {ifs:List Expr} {gens:List Comprehension} {pos:Pos} {Q:V→AH→Prop} (F:Fe fm names) (hk:scope.kind=.function) (nd:(scope.names.map (·.1)).Nodup) (ok:capsOk names scope.names=true)
  (h:IterE c n fm ρ H tg iter z fun items src H1=>∃ Inv,Loops c n fm (.ListComp elt (⟨tg,iter,ifs,0⟩::gens) scope pos) scope tg z (caps names ρ scope.names) (fun acc H'=>∀ D,H' D=none→Q (.ref D) (H'.set D (.list acc))) items src H1 Inv) (hf:∀ env x,foldedSetIterable iter env x=pure x) :
  TE c n fm ρ H (.ListComp elt (⟨tg,iter,ifs,0⟩::gens) scope pos) Q:=fun A Z s hr R=>by
 rw [eval_ListComp]
 exact comp_run F hk nd ok h hr R (fun acc H' C D s' q hD R' P ns=>ns.elim fun m w=>⟨m,w,fun h' hb=>⟨_,OwnF.clear R' P ns hb,q D hD⟩⟩) hf
theorem TX.asgC {elt iter:Expr} {ifs:List Expr} {gens:List Comprehension} {pos pos' pos'':Pos} {x:Str} {i:Nat} {Q:Fl→Loc→AH→Prop} (F:Fe fm names) (hx:names[i]?=some (x,.local)) (hk:scope.kind=.function) (nd:(scope.names.map (·.1)).Nodup) (ok:capsOk names scope.names=true)
  (hs:swapsWith (.ListComp elt (⟨tg,iter,ifs,0⟩::gens) scope pos) (some (.Name x pos')) pos''.line fm.env=pure true)
  (h:IterE c n fm ρ H tg iter z fun items src H1=>∃ Inv,Loops c n fm (.ListComp elt (⟨tg,iter,ifs,0⟩::gens) scope pos) scope tg z (caps names ρ scope.names) (fun acc H'=>∀ D,H' D=none→Q .next (ρ.set i (some (.ref D))) (H'.set D (.list acc))) items src H1 Inv) (hf:∀ env x,foldedSetIterable iter env x=pure x) :
  TX c n fm ρ H (.Assign [.Name x pos'] (.ListComp elt (⟨tg,iter,ifs,0⟩::gens) scope pos) pos'') Q:=fun A Z s hr R=>by
 rw [exec_Assign_Name_used _ _ _ _ hs,arm_evalThenUse_ListComp]
 refine wpAny_bind (wpAny_standAt (wpAny_bind (wpAny_bind (comp_run (K:=fun acc H'=>∀ D,H' D=none→Q .next (ρ.set i (some (.ref D))) (H'.set D (.list acc))) F hk nd ok h hr R (fun acc H' C D s' q hD R' P ns=>?_) hf))))
 have R1:=R'.frz P
 refine wpAny_assign_Name (R1.store F hx (.inl rfl) fun s2 R6=>?_)
 have ns2:∃ m,s2.heap.Ns C m:=ns.imp fun m w=>w.imp fun o w=>w.imp fun es w=>w.imp fun ep w=>⟨(R6.rel.fz C o (.inr ⟨rfl,w.1⟩)).e,w.2⟩
 exact ns2.elim fun m w=>⟨m,w,fun h' hb=>wpAny_pure (wpAny_pure ⟨_,_,OwnF.clear (R6.thaw fun a o z=>.inl z) P ns2 hb,q D hD⟩)⟩
end
end Mine
namespace Mine
section
variable {c:Cx} {n:Nat} {fm:Fm} {ρ:Loc} {H:AH} {names:Names} {Z:Froz} {A:Around} {s:Shared} {O:Addr→Prop} {tg:Expr} {z:Bool} {it:Value} {St:Nat→Heap→Prop} {items:List (List V)} {src:AH→Prop} {scope:Scope} {ρc:Loc} {K:List V→AH→Prop}
theorem Loops.one {elt iter:Expr} {ifs:List Expr} {pos:Pos} {Inv:Nat→List V→Loc→AH→Prop} (hl:items.length≤100000) (h0:Inv 0 [] ρc H) (T:∀ cl C,CompT c n (fmComp scope cl C fm.env) tg z ifs elt Inv items src) (fin:∀ acc ρ' H',Inv items.length acc ρ' H'→K acc H') :
  Loops c n fm (.ListComp elt [⟨tg,iter,ifs,0⟩] scope pos) scope tg z ρc K items src H Inv:=
 ⟨h0,fun {A Z cl C D it O St s Rz} hr I hD L f=>comp_loop (compTurn_list ..) hr I hD L (by rw [List.length_nil,Nat.zero_add]; exact hl) (T cl C) f,fun acc ρ' H' q=>⟨(T [] 0).src _ _ _ _ q,fin acc ρ' H' q⟩⟩
theorem codeAny_compStart1 {R:Result→Shared→Prop} {elt t0 i0 t1 i1:Expr} {f0 f1:List Expr} {pos:Pos} {acc:Value} {env:Env}
  (h0:codeAny c.M A (.compLoop (.ListComp elt [⟨t0,i0,f0,0⟩,⟨t1,i1,f1,0⟩] scope pos) 1 it acc env) R s)
  (h:wpAny c.M A (pyIter it) (fun it' s'=>codeAny c.M A (.compLoop (.ListComp elt [⟨t0,i0,f0,0⟩,⟨t1,i1,f1,0⟩] scope pos) 1 it' acc env) R s') BOT s) :
  codeAny c.M A (.compStart (.ListComp elt [⟨t0,i0,f0,0⟩,⟨t1,i1,f1,0⟩] scope pos) 1 it acc env) R s:=by
 refine codeAny_of_tree ?_
 show wpAny _ _ ((compStart (.ListComp elt [⟨t0,i0,f0,0⟩,⟨t1,i1,f1,0⟩] scope pos) 1 it acc env).onRaise (fun x=>do noteFrame x env; standAt theWindowsPlace)) _ _ s
 refine wpAny_notedAt ?_
 unfold compStart
 show wpAny _ _ (ask >>= _) _ _ s
 refine wpAny_bind (wpAny_askSetting (wpAny_ite ?_))
 split
 ·first
   | exact wpAny_bind (wpAny_pure (wpAny_pure (And.intro rfl h0)))
   | exact wpAny_pure (And.intro rfl h0)
 ·refine wpAny_bind (wpAny_rule ?_)
  show wpAny _ _ (standAt i1.pos >>= _) _ _ s
  exact wpAny_bind (wpAny_standAt (wpAny_bind (wpAny_mono h (fun it' s' h'=>wpAny_pure (And.intro rfl h')) fun _ _ x=>x.elim)))
structure Comp2T (c:Cx) (n:Nat) (fm:Fm) (t0:Expr) (z:Bool) (t1 i1:Expr) (z1:Bool) (f1:List Expr) (elt:Expr) (Inv:Nat→List V→Loc→AH→Prop) (items:List (List V)) (src:AH→Prop):Prop where
 src:∀ i acc ρ' H',Inv i acc ρ' H'→src H'
 step:∀ i acc xs ρ' H',items[i]?=some xs→Inv i acc ρ' H'→TgX c n fm ρ' H' z t0 xs fun ρ3 H3=>IterE c n fm ρ3 H3 t1 i1 z1 fun items' src' H4=>acc.length + items'.length≤100000∧∃ Jnv:Nat→List V→Loc→AH→Prop,
  Jnv 0 acc ρ3 H4∧CompT c n fm t1 z1 f1 elt Jnv items' src'∧∀ acc' ρ4 H5,Jnv items'.length acc' ρ4 H5→∃ H6,Sub H6 H5∧Inv (i + 1) acc' ρ4 H6
theorem comp_loop2 {D:Addr} {elt t0 i0 t1 i1:Expr} {f1:List Expr} {pos:Pos} {z1:Bool} {Rz:Result→Shared→Prop} {Inv:Nat→List V→Loc→AH→Prop}
  (hr:Room n A) (I:Iter c t0 z it O St items src) (hD:¬ O D) (L0:CompI c Z fm D O St (Inv 0) s 0 [] 0 ρ H) (T:Comp2T c n fm t0 z t1 i1 z1 f1 elt Inv items src) (hf:∀ env x,foldedSetIterable i1 env x=pure x)
  (fin:∀ xs m ρ' H' s',CompI c Z fm D O St (Inv items.length) s' items.length xs m ρ' H'→wpAny c.M A (pyNext it) (fun r s1=>r=none∧Rz (.ok .next) s1) BOT s') :
  codeAny c.M A (.compLoop (.ListComp elt [⟨t0,i0,[],0⟩,⟨t1,i1,f1,0⟩] scope pos) 0 it (.ref D) fm.env) Rz s:=by
 refine comp_code (ifs:=[]) (target:=t0) (p:=i0.pos) (emitK:=fun ok=>if ok=true then (do
     let x ← eval i1 fm.env
     standAt i1.pos
     let x ← foldedSetIterable i1 fm.env x
     let _ ← runOwn (.compStart (.ListComp elt [⟨t0,i0,[],0⟩,⟨t1,i1,f1,0⟩] scope pos) 1 (← holding [x] (pyIter x)) (.ref D) fm.env) fm.env
     again (.compLoop (.ListComp elt [⟨t0,i0,[],0⟩,⟨t1,i1,f1,0⟩] scope pos) 0 it (.ref D) fm.env)) else again (.compLoop (.ListComp elt [⟨t0,i0,[],0⟩,⟨t1,i1,f1,0⟩] scope pos) 0 it (.ref D) fm.env)) (by rfl)
  (fun k s=>∃ i xs m ρ' H',k=items.length - i∧CompI c Z fm D O St (Inv i) s i xs m ρ' H'∧i≤items.length) (fun k s hI=>?_) items.length ⟨0,[],0,ρ,H,rfl,L0,Nat.zero_le _⟩
 obtain ⟨i,xs,m,ρ',H1,rfl,L,hle⟩:=hI
 rcases Nat.lt_or_ge i items.length with hi | hi
 ·have lt:items.length - (i + 1) < items.length - i:=Nat.sub_lt_sub_left hi (Nat.lt_succ_self i)
  refine L.next hr I hD (T.src _ _ _ _ L.inv) hi (T.step i _ _ ρ' H1 (List.getElem?_eq_getElem hi) L.inv) fun v s1 w=>.inr ⟨v,rfl,wpAny_mono w (fun _ s1' w=>wpAny_mono w (fun _ s2 w=>wpAny_tests_nil ?_) fun _ _ e=>e) fun _ _ e=>e⟩
  obtain ⟨s0,ρ3,H3,g,d,R2,w⟩:=w
  have B:=CompI.back (Inv:=fun _ _ _=>True) I L.own g d L.len R2 (Sub.refl _) trivial
  have PO:=B.own.sub (O':=O) fun a=>.inr
  have PD:OwnF c (Z.and s2.heap O) fm H3 (·=D):={ B.own.sub (O':=(·=D)) fun a=>.inl with pv:=fun a q=>{ B.own.pv a (.inl q) with z:=fun o z=>z.elim ((B.own.pv a (.inl q)).z o) fun z=>hD (q▸z.1) } }
  rw [if_pos rfl]
  refine wpAny_bind (wpAny_mono (w A _ s2 (fun it1 s3=>wpAny c.M A (do
     let _ ← runOwn (.compStart (.ListComp elt [⟨t0,i0,[],0⟩,⟨t1,i1,f1,0⟩] scope pos) 1 it1 (.ref D) fm.env) fm.env
     again (.compLoop (.ListComp elt [⟨t0,i0,[],0⟩,⟨t1,i1,f1,0⟩] scope pos) 0 it (.ref D) fm.env)) _ BOT s3) hr ((B.rel.frz PO).frz PD) fun it1 s3 O2 St2 items' src' H4 I2 g2 P2 R3 q=>?_)
   (fun x s1 h1=>wpAny_bind (wpAny_standAt (wpAny_bind (wpAny_of_eq (hf _ x) (wpAny_bind (wpAny_holding h1)))))) fun _ _ e=>e)
  obtain ⟨hl,Jnv,j0,T1,f1'⟩:=q
  have nD:¬ O2 D:=fun q=>(P2.pv D q).z _ (.inr ⟨rfl,B.d⟩)
  have d3:=R3.rel.fz D _ (.inr ⟨rfl,B.d⟩)
  have thaw:∀ {a},Pv c (Froz.and (Froz.and Z s2.heap O) s2.heap (·=D)) a→Pv c (Z.and s2.heap O) a:=fun p=>p.thaw fun a o z=>.inl z
  have C3:CompI c (Z.and s2.heap O) fm D O2 St2 (Jnv 0) s3 0 xs m ρ3 H4:=⟨j0,R3.thaw fun a o z=>.inl z,g2,
   ⟨⟨fun a q=>q.elim (fun q=>q▸d3.off) (P2.off a),fun a q=>q.elim (fun q=>PD.pv a q) fun q=>thaw (P2.pv a q)⟩,fun q=>q.elim PD.loc P2.loc,fun i x k a hx hk hl q=>q.elim (PD.cl i x k a hx hk hl) (P2.cl i x k a hx hk hl)⟩,d3.e,L.len⟩
  have loop:codeAny c.M A (.compLoop (.ListComp elt [⟨t0,i0,[],0⟩,⟨t1,i1,f1,0⟩] scope pos) 1 it1 (.ref D) fm.env) (fun r s'=>match r with
    | .ok f=>wpAny c.M A (again (.compLoop (.ListComp elt [⟨t0,i0,[],0⟩,⟨t1,i1,f1,0⟩] scope pos) 0 it (.ref D) fm.env)) (fun fin s₄=>fin=.again (.compLoop (.ListComp elt [⟨t0,i0,[],0⟩,⟨t1,i1,f1,0⟩] scope pos) 0 it (.ref D) fm.env)∧∃ m,m < items.length - i∧∃ i xs m' ρ' H',m=items.length - i∧CompI c Z fm D O St (Inv i) s₄ i xs m' ρ' H'∧i≤items.length) BOT s'
    | .error e=>cameBackBy c.M A fm.env BOT e s') s3:=by
   refine comp_loop (p:=i1.pos) (by rfl) hr I2 nD C3 (by rw [List.length_map] at hl; exact hl) T1 fun xs' m' ρ4 H5 s4 C4=>?_
   have P4:OwnF c (Froz.and (Z.and s2.heap O) s4.heap (·=D)) fm H5 O2:={ C4.own.sub (O':=O2) fun a=>.inr with pv:=fun a q=>{ C4.own.pv a (.inr q) with z:=fun o z=>z.elim ((C4.own.pv a (.inr q)).z o) fun z=>nD (z.1▸q) } }
   refine wpAny_mono (I2.stopF hr (C4.rel.frz (C4.own.sub fun a=>.inl)) (T1.src _ _ _ _ C4.inv) C4.st P4) (fun r s5 w=>⟨w.1,wpAny_pure ⟨rfl,_,lt,i + 1,xs',m',ρ4,?_⟩⟩) fun _ _ e=>e
   obtain ⟨H6,sub,inv⟩:=f1' _ _ _ C4.inv
   have R5:=w.2.thaw (Z:=Z.and s2.heap O) fun a o z=>.inl z
   have o5:∀ a,O a→H5 a=none:=fun a q=>(I.live B.st q).elim fun o e=>(R5.rel.fz a o (.inr ⟨q,e⟩)).off
   exact ⟨H6,rfl,⟨inv,(R5.thaw fun a o z=>.inl z).weaken sub,I.keep B.st fun a o q e=>(R5.rel.fz a o (.inr ⟨q,e⟩)).e,
    { B.own with off:=fun a q=>sub.none (q.elim (fun q=>q▸C4.own.off D (.inl rfl)) (o5 a)) },(w.2.rel.fz D _ (.inr ⟨rfl,C4.d⟩)).e,C4.len⟩,hi⟩
  exact wpAny_bind (wpAny_runOwn (codeAny_compStart1 loop (wpAny_mono (I2.self (Q:=fun it' s'=>it'=it1∧s'=s3) hr g2 ⟨rfl,rfl⟩) (fun it' s' w=>by rw [w.1,w.2]; exact loop) fun _ _ e=>e.elim)))
 ·obtain rfl:=Nat.le_antisymm hle hi
  exact wpAny_mono (fin xs m ρ' H1 s L) (fun r s1 w=>.inl w) fun _ _ e=>e
theorem Loops.two {elt i0 t1 i1:Expr} {f1:List Expr} {pos:Pos} {z1:Bool} {Inv:Nat→List V→Loc→AH→Prop} (h0:Inv 0 [] ρc H) (T:∀ cl C,Comp2T c n (fmComp scope cl C fm.env) tg z t1 i1 z1 f1 elt Inv items src) (hf:∀ env x,foldedSetIterable i1 env x=pure x) (fin:∀ acc ρ' H',Inv items.length acc ρ' H'→K acc H') :
  Loops c n fm (.ListComp elt [⟨tg,i0,[],0⟩,⟨t1,i1,f1,0⟩] scope pos) scope tg z ρc K items src H Inv:=
 ⟨h0,fun {A Z cl C D it O St s Rz} hr I hD L f=>comp_loop2 hr I hD L (T cl C) hf f,fun acc ρ' H' q=>⟨(T [] 0).src _ _ _ _ q,fin acc ρ' H' q⟩⟩
end
end Mine
namespace Mine
section
variable {c:Cx} {n:Nat} {fm:Fm} {ρ:Loc} {H:AH} {names:Names} {Z:Froz} {A:Around} {s:Shared} {tg:Expr} {I l:Addr} {vs us:List V} {K:List (List V)→(AH→Prop)→AH→Prop}
theorem Iter.list:Iter c tg false (.ref I) (·=I) (fun i h=>∃ o,FldO "list_iterator" #[.ref l,.int i 0] h I o) (vs.map ([·])) (fun H=>H l=some (.list vs)):=
 .fields (fun _ _ _ q=>by cases q) (by decide)
  (fun {A Z H s o i xs Q} R hs F hx k=>by
   obtain ⟨ys,m,e1,rfl,e3⟩:=R.seq hs
   rw [List.map_map,List.getElem?_map] at hx
   obtain ⟨x,hy,rfl⟩:=Option.map_eq_some_iff.mp hx
   exact wpAny_pyNext_list_item ⟨o,F.e,F.c,F.d⟩ ⟨_,e1,rfl,_,rfl⟩ (by rw [List.getElem?_toArray]; exact hy) fun h' hit hb=>hit.elim fun o' q=>k x h' s.toks o' rfl ⟨q.1,q.2.1,q.2.2⟩ hb.extBut)
  (fun {A Z H s o Q} hh R hs F k=>by
   obtain ⟨ys,m,e1,rfl,e3⟩:=R.seq hs
   exact wpAny_pyNext_list_end hh ⟨o,F.e,F.c,F.d⟩ ⟨_,e1,rfl,_,rfl⟩ (by rw [List.getElem?_toArray,List.length_map,List.length_map]; exact List.getElem?_eq_none (Nat.le_refl _)) k)
  fun F q=>wpAny_pyIter_listiter ⟨_,F.e,F.c,F.d⟩ q
theorem Rel.dict {d:Addr} {es:List (Int × V)} {ep:Option Nat} (R:Rel c Z H s) (e:H d=some (.dict es ep)):∃ kvs:List (Int × Value),DictO c s.heap d kvs ep∧kvs.map erp=es∧es.length≤100000:=
 (R.real _ _ e).elim fun ob q=>q.2.2.imp fun kvs w=>⟨w.1 _ q.1,w.2,q.2.1⟩
theorem Iter.keys {es:List (Int × V)} {ep:Nat}:Iter c tg false (.ref I) (·=I) (fun i h=>∃ o,FldO "dict_keyiterator" #[.ref l,.int i 0,.int es.length 0,.int ep 0] h I o) (es.map fun p=>[.int p.1]) (fun H=>H l=some (.dict es (some ep))):=
 .fields (fun _ _ _ q=>by cases q) (by decide)
  (fun {A Z H s o i xs Q} R hs F hx k=>by
   obtain ⟨kvs,e1,rfl,e3⟩:=R.dict hs
   rw [List.map_map,List.getElem?_map] at hx
   obtain ⟨x,hy,rfl⟩:=Option.map_eq_some_iff.mp hx
   rw [List.length_map] at F k
   refine wpAny_pyNext_dict_item (knd:=intKind c.prog c.w) (k:=x.1) (v:=x.2) ⟨o,F.e,F.c,F.d⟩ e1 hy fun key h' hk hit hb=>hit.elim fun o' q=>?_
   obtain ⟨tk,rfl⟩:=Value.isInt_shape hk
   exact k _ h' s.toks o' rfl ⟨q.1,q.2.1,q.2.2⟩ hb.extBut)
  (fun {A Z H s o Q} hh R hs F k=>by
   obtain ⟨kvs,e1,rfl,e3⟩:=R.dict hs
   rw [List.length_map,List.length_map] at F
   exact wpAny_pyNext_dict_end (knd:=intKind c.prog c.w) hh ⟨o,F.e,F.c,F.d⟩ e1 (List.getElem?_eq_none (Nat.le_refl _)) k)
  fun F q=>wpAny_pyIter_keyiter ⟨_,F.e,F.c,F.d⟩ q
theorem Iter.range {a s:Int} {m:Nat}:Iter c tg false (.ref I) (·=I) (fun i h=>∃ o,FldO "range_iterator" #[rawInt (a + (i:Int) * s),rawInt ((m:Int) - (i:Int)),rawInt s] h I o∧IsRangeIter h I (a + (i:Int) * s) ((m:Int) - (i:Int)) s) ((List.range m).map fun i:Nat=>[.int (a + (i:Int) * s)]) (fun _=>True) where
 live g q:=g.imp fun o F=>q▸F.1.e
 keep g k:=g.imp fun o F=>⟨{ F.1 with e:=k _ _ rfl F.1.e },k _ _ rfl F.2⟩
 next {n A Z H st i xs} hr R hs g P hx:=g.elim fun o F=>by
  rw [List.getElem?_map] at hx
  obtain ⟨j,hj,rfl⟩:=Option.map_eq_some_iff.mp hx
  obtain ⟨hi,rfl⟩:=List.getElem?_eq_some_iff.mp hj
  rw [List.length_range] at hi
  rw [List.getElem_range]
  refine wpAny_pyNext_range_item F.2 (Int.sub_pos_of_lt (Int.ofNat_lt.mpr hi)) fun h' hit hb=>⟨_,rfl,letOwned_quiet hit rfl rfl (by decide) ⟨?_,rfl,R.own F.1.e (P.pv _ rfl) (F.1.nc fun _ _ q=>by cases q) (P.off _ rfl) fun b ob hb' e=>hb.extBut b ob hb' e⟩⟩
  rw [show a + (i:Int) * s + s=a + ((i + 1:Nat):Int) * s by rw [Int.natCast_add,Int.add_mul,← Int.add_assoc]; congr 1; exact (Int.one_mul s).symm,show (m:Int) - (i:Int) - 1=(m:Int) - ((i + 1:Nat):Int) by rw [Int.natCast_add,Int.sub_sub]; rfl] at hit
  exact ⟨_,⟨hit,rfl,rfl⟩,hit⟩
 stop hr R hs g P:=g.elim fun o F=>wpAny_pyNext_range_end hr.handled F.2 (by rw [List.length_map,List.length_range,Int.sub_self]; exact Int.le_refl _) fun h' hb=>⟨rfl,R.own F.1.e (P.pv _ rfl) (F.1.nc fun _ _ q=>by cases q) (P.off _ rfl) fun b ob hb' e=>hb b ob hb' e⟩
 self hr g q:=g.elim fun o F=>wpAny_pyIter_rangeiter F.2 q
theorem IterE.range {e:Expr} (h:TE c n fm ρ H e fun v H1=>∃ r a b s,∃ m:Nat,v=.ref r∧H1 r=some (.range a b s)∧Builtin.Range.small a b s=true∧Builtin.Range.rangeSize a b s=m∧∃ H2,Sub H2 H1∧K ((List.range m).map fun i:Nat=>[.int (a + (i:Int) * s)]) (fun _=>True) H2):IterE c n fm ρ H tg e false K:=
 fun A Z s W hr R k=>h.run hr R fun v s1 H1 R1 q=>by
  obtain ⟨r,a,b,st,m,e1,e2,e3,e4,H2,sub,hK⟩:=q
  obtain rfl:=er_ref e1
  obtain ⟨ob,g,t,u,v,q1⟩:=R1.rel.real _ _ e2
  refine wpAny_pyIter_range (q1 _ g) e3 (IterE.obj Iter.range rfl (fun h e=>?_) (R1.weaken sub) k hK)
  rw [e4] at e
  have e:IsRangeIter h s1.heap.objs.size (a + ((0:Nat):Int) * st) ((m:Int) - ((0:Nat):Int)) st:=by
   rw [show a + ((0:Nat):Int) * st=a by rw [Int.natCast_zero,Int.zero_mul,Int.add_zero],show (m:Int) - ((0:Nat):Int)=m from Int.sub_zero _]; exact e
  exact ⟨_,⟨e,rfl,rfl⟩,e⟩
theorem Iter.rev {m:Nat} (hm:vs.length=m):Iter c tg false (.ref I) (·=I) (fun i h=>∃ o,FldO "list_reverseiterator" #[.ref l,rawInt ((m:Int) - 1 - (i:Int))] h I o) (vs.reverse.map ([·])) (fun H=>H l=some (.list vs)):=
 .fields (fun _ _ _ q=>by cases q) (by decide)
  (fun {A Z H s o i xs Q} R hs F hx k=>by
   obtain ⟨ys,j,e1,rfl,e3⟩:=R.seq hs
   rw [List.length_map] at hm
   subst hm
   rw [← List.map_reverse,List.map_map,List.getElem?_map] at hx
   obtain ⟨x,hy,rfl⟩:=Option.map_eq_some_iff.mp hx
   have hi:i < ys.length:=List.length_reverse▸(List.getElem?_eq_some_iff.mp hy).1
   rw [List.getElem?_reverse hi] at hy
   have hj:((ys.length:Int) - 1 - (i:Int))=((ys.length - 1 - i:Nat):Int):=by rw [Int.ofNat_sub (Nat.le_sub_one_of_lt hi),Int.ofNat_sub (Nat.lt_of_le_of_lt (Nat.zero_le _) hi)]; rfl
   refine wpAny_pyNext_rev_item ⟨o,F.e,F.c,by rw [F.d,hj]⟩ ⟨_,e1,rfl,_,rfl⟩ (by rw [List.getElem?_toArray]; exact hy) fun h' hit hb=>hit.elim fun o' q=>k x h' s.toks o' rfl ⟨q.1,q.2.1,?_⟩ hb.extBut
   rw [q.2.2,show ((ys.length - 1 - i:Nat):Int) - 1=(ys.length:Int) - 1 - ((i + 1:Nat):Int) by rw [← hj,Int.sub_sub _ (i:Int)]; rfl])
  (fun {A Z H s o Q} hh R hs F k=>by
   rw [List.length_map,List.length_reverse,hm,show (m:Int) - 1 - (m:Int)=-1 by rw [Int.sub_sub,Int.add_comm 1,← Int.sub_sub,Int.sub_self]; rfl] at F
   exact wpAny_pyNext_rev_end hh ⟨o,F.e,F.c,F.d⟩ k)
  fun F q=>wpAny_pyIter_revIter ⟨_,F.e,F.c,F.d⟩ q
theorem IterE.call {x:Str} {np pos:Pos} {es:List Expr} {i:Nat} {T:String} {z:Bool} (F:Fe fm names) (hx:names[i]?=some (x,.globalImplicit)) (hv:c.mg x=none∧c.mb x=some (.type T)) (hs:es.all plainArg=true)
  (h:TArgs c n fm ρ H es fun ws H1=>∀ A Z s (W:Value→Shared→Prop) xs,Room n A→RelF c Z fm ρ H1 s→xs.map er=ws→(∀ it s' O St items src H',Iter c tg z it O St items src→St 0 s'.heap→OwnF c Z fm H' O→RelF c Z fm ρ H' s'→K items src H'→W it s')→wpAny c.M A (call (.type T) xs []) (fun v s1=>wpAny c.M A (pyIter v) W BOT s1) BOT s):IterE c n fm ρ H tg (.Call (.Name x np) es [] pos) z K:=
 fun A Z s W hr R k=>Call_ ((TE.glob (c:=c) (n:=n) (ρ:=ρ) (H:=H) (pos:=np) (Q:=fun v H'=>v=.oth (.type T)∧H'=H) F hx (.inr hv) ⟨rfl,rfl⟩).run hr R fun f s1 H1 R1 q=>by
  obtain rfl:=er_oth q.1
  obtain rfl:=q.2
  exact callWith_any (noStar_any _ _ hs) ((h pos).run hr R1 fun vs s2 H2 R2 q=>⟨⟨.machine,Looks.of_pure rfl⟩,q A Z s2 W vs hr R2 rfl k⟩))
theorem IterE.rev {x:Str} {np pos:Pos} {es:List Expr} {i:Nat} (F:Fe fm names) (hx:names[i]?=some (x,.globalImplicit)) (hv:c.mg x=none∧c.mb x=some (.type "reversed")) (hs:es.all plainArg=true)
  (h:TArgs c n fm ρ H es fun ws H1=>∃ l vs,ws=[.ref l]∧H1 l=some (.list vs)∧K (vs.reverse.map ([·])) (fun H=>H l=some (.list vs)) H1):IterE c n fm ρ H tg (.Call (.Name x np) es [] pos) false K:=
 .call F hx hv hs fun p=>(h p).mono fun ws H1 q A Z s W xs hr R e k=>by
  obtain ⟨l,vs,e1,e2,hK⟩:=q
  obtain ⟨a,rfl,ea⟩:=er_1 (e.trans e1)
  obtain rfl:=er_ref ea
  obtain ⟨ys,m,p1,p2,p3⟩:=R.rel.seq e2
  have hl:vs.length=ys.length:=by rw [← p2,List.length_map]
  refine call_reversed_list ⟨_,p1,rfl,_,rfl⟩ (wpAny_pyIter_revIter ⟨_,Heap.get?_push_size _ rfl,rfl,rfl⟩ (IterE.obj (Iter.rev hl) rfl (fun h e=>⟨_,e,rfl,?_⟩) R k hK))
  show Data.fields #[.ref l,rawInt ((ys.toArray.size:Int) - 1)]=_
  rw [List.size_toArray,show (ys.length:Int) - 1 - ((0:Nat):Int)=(ys.length:Int) - 1 from Int.sub_zero _]
theorem nc_seq {o:Obj} {xs:Array Value} {m:Nat} (h:o.data=.seq xs m):¬ CodeO c o:=fun q=>q.elim fun _ q=>q.elim fun _ q=>by rw [h] at q; cases q.1
structure ZipO (N l1 l2:Addr) (i:Nat) (h:Heap) (a b:Value) (o1 o2:Obj):Prop where
 z:IsZip h (N + 4) (N + 2) (N + 3) .none
 p:IsPair h (N + 2) (.ref N) (.ref (N + 1))
 q:IsPair h (N + 3) a b
 f1:FldO "list_iterator" #[.ref l1,.int i 0] h N o1
 f2:FldO "list_iterator" #[.ref l2,.int i 0] h (N + 1) o2
inductive ZipA (N:Nat):Nat→Prop
 | a:ZipA N (N + 4)
 | b:ZipA N (N + 2)
 | c:ZipA N (N + 3)
 | d:ZipA N N
 | e:ZipA N (N + 1)
theorem ZipO.obj {N l1 l2:Addr} {i:Nat} {h:Heap} {a b:Value} {o1 o2:Obj} (F:ZipO N l1 l2 i h a b o1 o2) {x:Addr} (q:ZipA N x):∃ o,h.get? x=some o∧¬ CodeO c o:=q.casesOn
 ⟨_,F.z,FldO.nc ⟨F.z,rfl,rfl⟩ fun _ _ q=>by cases q⟩ ⟨_,F.p,nc_seq rfl⟩ ⟨_,F.q,nc_seq rfl⟩ ⟨_,F.f1.e,F.f1.nc fun _ _ q=>by cases q⟩ ⟨_,F.f2.e,F.f2.nc fun _ _ q=>by cases q⟩
theorem zp_apart {N l1 l2:Nat} (h1:l1 < N) (h2:l2 < N):ZipApart (N + 4) (N + 2) (N + 3) N (N + 1) l1 l2:=by
 have k:∀ a b:Nat,a < b→(a:Addr)≠b:=fun a b h=>Nat.ne_of_lt h
 have k':∀ a b:Nat,b < a→(a:Addr)≠b:=fun a b h=>Nat.ne_of_gt h
 have m:∀ i j:Nat,i < j→N + i < N + j:=fun i j h=>Nat.add_lt_add_left h N
 have l:∀ {x i:Nat},x < N→x < N + i:=fun h=>Nat.lt_of_lt_of_le h (Nat.le_add_right _ _)
 exact ⟨k _ _ (m 2 4 (by decide)),k _ _ (m 3 4 (by decide)),k _ _ (m 0 4 (by decide)),k _ _ (m 1 4 (by decide)),k _ _ (m 2 3 (by decide)),k' _ _ (m 0 2 (by decide)),k' _ _ (m 1 2 (by decide)),k' _ _ (m 0 3 (by decide)),k' _ _ (m 1 3 (by decide)),k _ _ (m 0 1 (by decide)),
  k _ _ (l h1),k _ _ (l h1),k _ _ h1,k _ _ (l h1),k _ _ (l h2),k _ _ (l h2),k _ _ h2,k _ _ (l h2)⟩
theorem Iter.zip {elts:List Expr} {k:Nat} {pos:Pos} {N l1 l2:Nat} (lt1:l1 < N) (lt2:l2 < N):Iter c (.Tuple elts k pos) true (.ref (N + 4)) (ZipA N) (fun i h=>∃ a b o1 o2,ZipO N l1 l2 i h a b o1 o2) (List.zipWith (fun v u=>[v,u]) vs us) (fun H=>H l1=some (.list vs)∧H l2=some (.list us)) where
 live g q:=g.elim fun a g=>g.elim fun b g=>g.elim fun o1 g=>g.elim fun o2 F=>(F.obj (c:=c) q).imp fun o e=>e.1
 keep g k:=g.imp fun a g=>g.imp fun b g=>g.imp fun o1 g=>g.imp fun o2 F=>⟨k _ _ .a F.z,k _ _ .b F.p,k _ _ .c F.q,{ F.f1 with e:=k _ _ .d F.f1.e },{ F.f2 with e:=k _ _ .e F.f2.e }⟩
 next {n A Z H s i xs} hr R hs g P hx:=by
  obtain ⟨a,b,o1,o2,F⟩:=g
  obtain ⟨ys,m,e1,rfl,e3⟩:=R.seq hs.1
  obtain ⟨zs,m',f1,rfl,f3⟩:=R.seq hs.2
  rw [List.zipWith_map,List.getElem?_zipWith_eq_some] at hx
  obtain ⟨x,y,hx1,hy1,rfl⟩:=hx
  have D:=zp_apart lt1 lt2
  refine wpAny_pyNext_zip_item (x:=x) (y:=y) D F.z F.p F.q ⟨o1,F.f1.e,F.f1.c,F.f1.d⟩ ⟨o2,F.f2.e,F.f2.c,F.f2.d⟩ ⟨_,e1,rfl,_,rfl⟩ ⟨_,f1,rfl,_,rfl⟩ (by rw [List.getElem?_toArray]; exact hx1) (by rw [List.getElem?_toArray]; exact hy1)
   fun h' q1 q2 q3 q4 q5 q6 q7=>⟨_,rfl,wpAny_letOwnedTupleGo_zip q1 fun h2 w1 w2=>?_⟩
  obtain ⟨o1',g1,g2,g3⟩:=q3
  obtain ⟨o2',g4,g5,g6⟩:=q4
  have ext:=w2.extBut
  have ne:s.heap.objs.size≠N + 4:=Nat.ne_of_gt (Heap.lt_size F.z)
  refine ⟨⟨x,y,o1',o2',w1,ext _ _ D.TIz (q7 _ _ D.TIz D.TITO D.TIi1 D.TIi2 F.p),ext _ _ D.TOz q2,⟨ext _ _ D.i1z g1,g2,g3⟩,⟨ext _ _ D.i2z g4,g5,g6⟩⟩,⟨_,x,y,0,rfl,ext _ _ ne q5,rfl⟩,?_⟩
  show Rel c Z H ⟨h2,s.gens,s.drawn,s.toks,s.os⟩
  refine R.to (h':=h2) (O:=ZipA N) ⟨fun b ob no e=>ext _ _ (fun q=>no (q▸.a)) (q7 _ _ (fun q=>no (q▸.a)) (fun q=>no (q▸.c)) (fun q=>no (q▸.d)) (fun q=>no (q▸.e)) e),P.pv,fun b ob q e cd=>(F.obj (c:=c) q).elim fun o w=>absurd (Option.some.inj (e.symm.trans w.1)▸cd) w.2,fun b ob e=>.inl ⟨e,fun q=>no_some (P.off b q) e⟩,fun _ _ _ _=>.inl⟩
 stop {n A Z H s} hr R hs g P:=by
  obtain ⟨a,b,o1,o2,F⟩:=g
  obtain ⟨ys,m,e1,rfl,e3⟩:=R.seq hs.1
  obtain ⟨zs,m',f1,rfl,f3⟩:=R.seq hs.2
  have D:=zp_apart lt1 lt2
  refine wpAny_pyNext_zip_end hr.handled D F.z F.p F.q ⟨o1,F.f1.e,F.f1.c,F.f1.d⟩ ⟨o2,F.f2.e,F.f2.c,F.f2.d⟩ ⟨_,e1,rfl,_,rfl⟩ ⟨_,f1,rfl,_,rfl⟩ ?_ fun h' hk=>⟨rfl,?_⟩
  ·rw [List.length_zipWith,List.length_map,List.length_map,List.getElem?_toArray,List.getElem?_toArray]
   exact (Nat.le_total ys.length zs.length).imp (fun q=>List.getElem?_eq_none (by rw [Nat.min_eq_left q]; exact Nat.le_refl _)) fun q=>List.getElem?_eq_none (by rw [Nat.min_eq_right q]; exact Nat.le_refl _)
  refine R.to (O:=ZipA N) ⟨fun b ob no e=>hk _ _ (fun q=>no (q▸.a)) (fun q=>no (q▸.c)) (fun q=>no (q▸.d)) (fun q=>no (q▸.e)) e,P.pv,fun b ob q e cd=>(F.obj (c:=c) q).elim fun o w=>absurd (Option.some.inj (e.symm.trans w.1)▸cd) w.2,fun b ob e=>.inl ⟨e,fun q=>no_some (P.off b q) e⟩,fun _ _ _ _=>.inl⟩
 self hr g q:=g.elim fun a g=>g.elim fun b g=>g.elim fun o1 g=>g.elim fun o2 F=>wpAny_pyIter_zip F.z q
theorem IterE.zip {elts:List Expr} {k:Nat} {pos':Pos} {x:Str} {np pos:Pos} {es:List Expr} {i:Nat} (F:Fe fm names) (hx:names[i]?=some (x,.globalImplicit)) (hv:c.mg x=none∧c.mb x=some (.type "zip")) (hs:es.all plainArg=true)
  (h:TArgs c n fm ρ H es fun ws H1=>∃ l1 l2 vs us,ws=[.ref l1,.ref l2]∧H1 l1=some (.list vs)∧H1 l2=some (.list us)∧K (List.zipWith (fun v u=>[v,u]) vs us) (fun H=>H l1=some (.list vs)∧H l2=some (.list us)) H1):IterE c n fm ρ H (.Tuple elts k pos') (.Call (.Name x np) es [] pos) true K:=
 .call F hx hv hs fun p=>(h p).mono fun ws H1 q A Z s W xs hr R e k=>by
  obtain ⟨l1,l2,vs,us,e1,e2,e3,hK⟩:=q
  obtain ⟨a,b,rfl,ea,eb⟩:=er_2 (e.trans e1)
  obtain rfl:=er_ref ea
  obtain rfl:=er_ref eb
  obtain ⟨ys,m,p1,p2,p3⟩:=R.rel.seq e2
  obtain ⟨zs,m',p4,p5,p6⟩:=R.rel.seq e3
  refine call_zip_2 ⟨_,p1,rfl,_,rfl⟩ ⟨_,p4,rfl,_,rfl⟩ fun h' q1 q2 q3 q4 q5 q6 q7=>wpAny_pyIter_zip q1 ?_
  obtain ⟨o1,g1,g2,g3⟩:=q4
  obtain ⟨o2,g4,g5,g6⟩:=q5
  exact k _ _ (ZipA s.heap.objs.size) _ _ _ _ (Iter.zip (Heap.lt_size p1) (Heap.lt_size p4)) ⟨_,_,o1,o2,q1,q2,q3,⟨g1,g2,g3⟩,⟨g4,g5,g6⟩⟩ (R.ownNew fun a q=>get?_ge_none (by cases q <;> first | exact Nat.le_add_right _ _ | exact Nat.le_refl _)) (R.stays q7) hK
end
end Mine
set_option genSizeOfSpec false
set_option genInjectivity false
namespace Mine
section
variable {c:Cx} {n:Nat} {H:AH} {x y:Int} {Q:V→AH→Prop}
theorem BinT.ints {op:Operator} (h:∀ t u A Z s,Room n A→Rel c Z H s→wpAny c.M A (binaryOp op (.int x t) (.int y u)) (PQ c Z fun r=>Q (er r)) BOT s):BinT c n op (.int x) (.int y) H Q:=⟨fun v u e e' A Z s hr R=>by
 obtain ⟨t,rfl⟩:=er_int e; obtain ⟨t',rfl⟩:=er_int e'; exact h t t' A Z s hr R⟩
theorem CmpT.ints {op:CmpOp} (h:∀ t u A Z s,Room n A→Rel c Z H s→wpAny c.M A (compareOp op (.int x t) (.int y u)) (PQ c Z fun r=>Q (er r)) BOT s):CmpT c n op (.int x) (.int y) H Q:=⟨fun v u e e' A Z s hr R=>by
 obtain ⟨t,rfl⟩:=er_int e; obtain ⟨t',rfl⟩:=er_int e'; exact h t t' A Z s hr R⟩
theorem wBin.ok {op:Operator} {a b:V} (h:wBin c n op a b H Q):BinT c n op a b H Q:=by
 cases a with
 | int x=>
  cases b with
  | int y=>
   cases op with
   | Add=>exact .ints fun t u A Z s hr R=>add_int ⟨H,R.toks,h⟩
   | Sub=>exact .ints fun t u A Z s hr R=>sub_int ⟨H,R.toks,h⟩
   | BitAnd=>exact .ints fun t u A Z s hr R=>and_int ⟨H,R.toks,h⟩
   | Mod=>exact .ints fun t u A Z s hr R=>mod_int (Int.ne_of_gt h.1) ⟨H,R.toks,by rw [Int.fmod_eq_emod_of_nonneg _ (Int.le_of_lt h.1)]; exact h.2⟩
   | FloorDiv=>exact .ints fun t u A Z s hr R=>floordiv_int (Int.ne_of_gt h.1.1) ⟨H,R.toks,by rw [Int.fdiv_eq_ediv_of_nonneg _ (Int.le_of_lt h.1.1)]; exact h.2⟩ (.inl (PyProof.noPylong_small (by have:=h.1; omega)))
   | _=>exact h
  | _=>exact h
 | _=>exact h
theorem wInp.ok {op:Operator} {a b:V} (h:wInp c n op a b H Q):InpT c n op a b H Q:=by
 cases a with
 | int x=>
  cases op with
  | Add=>
   cases b with
   | int y=>exact ⟨fun v u e e' A Z s hr R=>by obtain ⟨t,rfl⟩:=er_int e; obtain ⟨t',rfl⟩:=er_int e'; exact iadd_int ⟨H,R.toks,h⟩⟩
   | bool y=>exact ⟨fun v u e e' A Z s hr R=>by obtain ⟨t,rfl⟩:=er_int e; obtain rfl:=er_bool e'; exact iadd_int_bool ⟨H,R.toks,h⟩⟩
   | _=>exact h
  | _=>exact h
 | _=>exact h
theorem wCmp.ok {op:CmpOp} {a b:V} (h:wCmp c n op a b H Q):CmpT c n op a b H Q:=by
 cases a with
 | int x=>
  cases b with
  | int y=>
   cases op with
   | Eq=>exact .ints fun t u A Z s hr R=>eq_int ⟨H,R,h⟩
   | NotEq=>exact .ints fun t u A Z s hr R=>ne_int ⟨H,R,by rw [show (x != y)=decide (x≠y) from (decide_not (p:=x=y)).symm]; exact h⟩
   | Lt=>exact .ints fun t u A Z s hr R=>lt_int ⟨H,R,h⟩
   | LtE=>exact .ints fun t u A Z s hr R=>le_int ⟨H,R,h⟩
   | Gt=>exact .ints fun t u A Z s hr R=>gt_int ⟨H,R,h⟩
   | GtE=>exact .ints fun t u A Z s hr R=>ge_int ⟨H,R,h⟩
   | _=>exact h
  | _=>exact h
 | _=>exact h
theorem wTruth.ok {v:V} (h:wTruth c n v H Q):TruthT c n v H Q:=by
 cases v with
 | bool b=>exact ⟨fun v e A Z s hr R=>by obtain rfl:=er_bool e; exact wpAny_truthy_bool ⟨H,R,h⟩⟩
 | int x=>exact ⟨fun v e A Z s hr R=>by obtain ⟨t,rfl⟩:=er_int e; exact PyProof.Rows.truthy_int ⟨H,R,h⟩⟩
 | none=>exact ⟨fun v e A Z s hr R=>by obtain rfl:=er_none e; exact wpAny_pure ⟨H,R,h⟩⟩
 | ref a=>exact h
 | oth v=>exact h
end
inductive Job where
 | e (x:Expr) | t (x:Expr) | es (xs:List Expr) | all (op:BoolOp) (xs:List Expr)
noncomputable abbrev Comp:=Names→Job→Code→Option Code
noncomputable abbrev Tab2:=List (Str × Value)
noncomputable def onlyIf (b:Bool) (o:Option Code):Option Code:=match b with
 | true=>o
 | false=>none
theorem onlyIf_ok {b:Bool} {o:Option Code} {k:Code} (h:onlyIf b o=some k):b=true∧o=some k:=by
 cases b with
 | true=>exact ⟨rfl,h⟩
 | false=>cases h
noncomputable def cName (names:Names) (gs bs:Tab2) (x:Str) (k:Code):Option Code:=match names.lookup x with
 | some .globalImplicit=>match gs.lookup x with
  | some v=>some (.cst (er v) k)
  | none=>(bs.lookup x).map fun v=>.cst (er v) k
 | some .globalExplicit=>none
 | some _=>some (.ld (names.findIdx fun p=>p.1 == x) k)
 | none=>none
noncomputable def cConst:Const→Code→Option Code
 | .int i,k=>some (.cst (.int i) k)
 | .none,k=>some (.cst .none k)
 | .bool b,k=>some (.cst (.bool b) k)
 | _,_=>none
noncomputable def cOpt (f:Comp) (names:Names):Option Expr→Code→Option Code
 | none,k=>some (.cst .none k)
 | some e,k=>f names (.e e) k
noncomputable def notSlice:Expr→Bool
 | .Slice ..=>false
 | _=>true
noncomputable def notSet:Expr→Bool
 | .Set ..=>false
 | _=>true
noncomputable def valTest:Expr→Bool
 | .Name ..=>true
 | .Call ..=>true
 | .Attribute ..=>true
 | .Subscript ..=>true
 | .BinOp ..=>true
 | .ListComp ..=>true
 | _=>false
noncomputable def cSt (q:Str→Bool) (names:Names) (x:Str) (k:Code):Option Code:=match names.lookup x with
 | some .local=>some (.st (names.findIdx fun p=>p.1 == x) k)
 | some .cell=>onlyIf (q x) (some (.st (names.findIdx fun p=>p.1 == x) k))
 | _=>none
noncomputable def asName:Expr→Option (Str × Pos)
 | .Name x p=>some (x,p)
 | _=>none
theorem asName.ok {e:Expr} {q:Str × Pos} (h:asName e=some q):e=.Name q.1 q.2:=by
 unfold asName at h
 split at h
 ·cases h; rfl
 ·cases h
noncomputable def asTup:Expr→Option (List Expr × Nat × Pos)
 | .Tuple ts j p=>some (ts,j,p)
 | _=>none
theorem asTup.ok {e:Expr} {q:List Expr × Nat × Pos} (h:asTup e=some q):e=.Tuple q.1 q.2.1 q.2.2:=by
 unfold asTup at h
 split at h
 ·cases h; rfl
 ·cases h
noncomputable def asAttr:Expr→Option (Expr × Str × Pos)
 | .Attribute o m p=>some (o,m,p)
 | _=>none
theorem asAttr.ok {e:Expr} {q:Expr × Str × Pos} (h:asAttr e=some q):e=.Attribute q.1 q.2.1 q.2.2:=by
 unfold asAttr at h
 split at h
 ·cases h; rfl
 ·cases h
noncomputable def cSts (q:Str→Bool) (names:Names):List Expr→Code→Option Code
 | [],k=>some k
 | e::r,k=>(asName e).bind fun x=>(cSts q names r k).bind (cSt q names x.1)
noncomputable def cTgT (z:Bool) (n:Nat) (k:Code):Option Code:=match z with
 | true=>onlyIf (decide (n=2)) (some k)
 | false=>some (.unp n k)
noncomputable def cTg (q:Str→Bool) (names:Names) (z:Bool) (t:Expr) (k:Code):Option Code:=match asName t with
 | some x=>onlyIf (!z) (cSt q names x.1 k)
 | none=>(asTup t).bind fun ts=>(cSts q names ts.1 k).bind (cTgT z ts.1.length)
noncomputable def kdT (T:String):Kd:=if T="range" then .range else if T="zip" then .zip else if T="reversed" then .rev else .seq
noncomputable def kdN (names:Names) (gs bs:Tab2) (x:Str):Kd:=match names.lookup x with
 | some .globalImplicit=>match gs.lookup x with
  | none=>match bs.lookup x with
   | some (.type T)=>kdT T
   | _=>.seq
  | some _=>.seq
 | _=>.seq
noncomputable def kdA (e:Expr) (es:List Expr):Kd→Kd × List Expr
 | .seq=>(.seq,[e])
 | d=>(d,es)
noncomputable def kdOf (names:Names) (gs bs:Tab2) (e:Expr):Kd × List Expr:=match e with
 | .Call (.Name x _) es [] _=>kdA e es (kdN names gs bs x)
 | _=>(.seq,[e])
noncomputable def Kd.z:Kd→Bool
 | .zip=>true
 | _=>false
noncomputable def cIt (f:Comp) (names:Names) (gs bs:Tab2) (e:Expr) (k:Code):Option Code:=match kdOf names gs bs e with
 | (.seq,_)=>f names (.e e) k
 | (_,es)=>onlyIf (es.all plainArg) (f names (.es es) k)
noncomputable def scopeOk (names:Names) (sc:Scope):Bool:=decide (sc.kind=.function) && decide (sc.names.map (·.1)).Nodup && decide (∀ p∈sc.names,PlainName p.1) && capsOk names sc.names
noncomputable def cBody (f:Comp) (names:Names) (ifs:List Expr) (elt:Expr):Option Code:=match ifs with
 | []=>f names (.e elt) .done
 | [t]=>(f names (.e elt) .done).bind fun k=>f names (.t t) (.ite k .cont .done)
 | _=>none
noncomputable def cLc1 (f:Comp) (names:Names) (gs bs:Tab2) (elt tg it:Expr) (ifs:List Expr) (sc:Scope) (k:Code):Option Code:=(cBody f (relabelN names sc.names) ifs elt).bind fun b=>(cTg (ownOf sc) (relabelN names sc.names) (kdOf names gs bs it).1.z tg b).bind fun b=>
 cIt f names gs bs it (.comp (kdOf names gs bs it).1 (kdOf names gs bs it).2.length (sc.names.map (capOf names)) b k)
noncomputable def cLc2 (f:Comp) (names:Names) (gs bs:Tab2) (elt t0 i0 t1 i1:Expr) (f1:List Expr) (sc:Scope) (k:Code):Option Code:=(cBody f (relabelN names sc.names) f1 elt).bind fun b=>(cTg (ownOf sc) (relabelN names sc.names) (kdOf (relabelN names sc.names) gs bs i1).1.z t1 b).bind fun b=>
 (cIt f (relabelN names sc.names) gs bs i1 .done).bind fun p=>(cTg (ownOf sc) (relabelN names sc.names) (kdOf names gs bs i0).1.z t0 p).bind fun p=>
 cIt f names gs bs i0 (.comp2 (kdOf names gs bs i0).1 (kdOf names gs bs i0).2.length (sc.names.map (capOf names)) p (kdOf (relabelN names sc.names) gs bs i1).1 (kdOf (relabelN names sc.names) gs bs i1).2.length b k)
noncomputable def genOk (g:Comprehension):Bool:=decide (g.is_async=0) && notSet g.iter
noncomputable def cLc (f:Comp) (names:Names) (gs bs:Tab2) (elt:Expr) (gens:List Comprehension) (sc:Scope) (k:Code):Option Code:=onlyIf (scopeOk names sc) (match gens with
 | g::gr=>onlyIf (genOk g) (match gr with
  | []=>cLc1 f names gs bs elt g.target g.iter g.ifs sc k
  | g1::gr=>onlyIf (genOk g1 && (g.ifs.isEmpty && gr.isEmpty)) (cLc2 f names gs bs elt g.target g.iter g1.target g1.iter g1.ifs sc k))
 | _=>none)
noncomputable def cCmp (f:Job→Code→Option Code) (l:Expr) (k:Code):List CmpOp→List Expr→Option Code
 | [op],[r]=>onlyIf (!behindInMarks op r) ((f (.e r) (.cmp op k)).bind (f (.e l)))
 | _,_=>none
noncomputable def cChn (f:Job→Code→Option Code) (l:Expr) (k:Code):List CmpOp→List Expr→Option Code
 | [o1,o2],[m,r]=>onlyIf (!behindInMarks o2 r) ((f (.e r) (.cmp o2 (.tru .done))).bind fun kr=>(f (.e m) (.chn o1 kr k)).bind (f (.e l)))
 | ops,rs=>cCmp f l (.tru k) ops rs
noncomputable def cBo (f:Job→Code→Option Code) (pos:Pos) (k:Code):BoolOp→List Expr→Option Code
 | .And,[a,b]=>(f (.e b) .done).bind fun r=>f (.e a) (.bra true r k)
 | .Or,[a,b]=>(f (.e b) .done).bind fun r=>f (.e a) (.bra false r k)
 | .Or,a::b::es=>(f (.e (.BoolOp .Or (b::es) pos)) .done).bind fun r=>f (.e a) (.bra false r k)
 | _,_=>none
noncomputable def starred:Expr→Option Expr
 | .Starred e _=>some e
 | _=>none
theorem starred.ok {e e':Expr} (h:starred e=some e'):∃ p,e=.Starred e' p:=by
 unfold starred at h
 split at h
 ·cases h; exact ⟨_,rfl⟩
 ·cases h
noncomputable def cStar (f:Job→Code→Option Code) (o:Expr) (m:Str) (es:List Expr) (k:Code):Option Code:=match es with
 | [e]=>(starred e).bind fun e=>onlyIf (notCall o) ((f (.e e) (.star k)).bind fun k=>f (.e o) (.attr m k))
 | _=>none
noncomputable def cCall (f:Job→Code→Option Code) (fn:Expr) (es:List Expr) (pos:Pos) (k:Code):Option Code:=match es.all plainArg with
 | false=>(asAttr fn).bind fun q=>cStar f q.1 q.2.1 es k
 | true=>match asName fn with
  | some _=>(f (.es es) (.call es.length k)).bind (f (.e fn))
  | none=>(asAttr fn).bind fun q=>onlyIf (notCall q.1 && (q.2.2.endLine == pos.line) && decide (es.length < 10)) ((f (.es es) (.cm es.length k)).bind fun k=>f (.e q.1) (.gm q.2.1 k))
noncomputable def cSub (f:Comp) (names:Names) (o i:Expr) (k:Code):Option Code:=match i with
 | .Slice lo hi none _=>(cOpt f names hi (.sl k)).bind fun k=>(cOpt f names lo k).bind (f names (.e o))
 | _=>onlyIf (notSlice i) ((f names (.e i) (.sub k)).bind (f names (.e o)))
noncomputable def cDic (f:Job→Code→Option Code) (k:Code):List (Option Expr)→List Expr→Option Code
 | [],[]=>some (.dic k)
 | [some a],[b]=>((f (.e b) (.dic1 k)).bind (f (.e a))).map .dic
 | _,_=>none
noncomputable def cUn (f:Job→Code→Option Code) (x:Expr) (k:Code):UnaryOp→Option Code
 | .Not=>f (.e x) (.tru (.nt k))
 | .USub=>f (.e x) (.neg k)
 | _=>none
noncomputable def cAll (f:Job→Code→Option Code) (op:BoolOp) (k:Code):List Expr→Option Code
 | [e]=>f (.t e) k
 | e::es=>(f (.all op es) .done).bind fun r=>f (.t e) (.brt (bop op) r k)
 | []=>none
noncomputable def comp (gs bs:Tab2):Nat→Comp
 | 0,_,_,_=>none
 | n + 1,names,.e x,k=>match x with
  | .Name x _=>cName names gs bs x k
  | .Constant v _ _=>cConst v k
  | .BinOp l op r _=>(comp gs bs n names (.e r) (.bin op k)).bind (comp gs bs n names (.e l))
  | .Compare l ops rs _=>cCmp (comp gs bs n names) l k ops rs
  | .UnaryOp op x _=>cUn (comp gs bs n names) x k op
  | .BoolOp op es pos=>cBo (comp gs bs n names) pos k op es
  | .IfExp t a b _=>(comp gs bs n names (.e a) .done).bind fun ca=>(comp gs bs n names (.e b) .done).bind fun cb=>comp gs bs n names (.t t) (.ite ca cb k)
  | .Call fn es kw pos=>match kw with
   | []=>cCall (comp gs bs n names) fn es pos k
   | _=>none
  | .Attribute o m _=>onlyIf (notCall o) (comp gs bs n names (.e o) (.attr m k))
  | .Subscript o i _=>cSub (comp gs bs n) names o i k
  | .List es _=>onlyIf (decide (es.length≤1000)) (comp gs bs n names (.es es) (.lst es.length k))
  | .Tuple es _ _=>onlyIf (decide (es.length≤1000)) (comp gs bs n names (.es es) (.tup es.length k))
  | .Dict ks vs _=>cDic (comp gs bs n names) k ks vs
  | .ListComp elt gens sc _=>cLc (comp gs bs n) names gs bs elt gens sc k
  | _=>none
 | n + 1,names,.t x,k=>match x with
  | .Compare l ops rs _=>cChn (comp gs bs n names) l k ops rs
  | .UnaryOp .Not x _=>comp gs bs n names (.t x) (.nt k)
  | .BoolOp op es _=>comp gs bs n names (.all op es) k
  | x=>onlyIf (valTest x) (comp gs bs n names (.e x) (.tru k))
 | n + 1,names,.es xs,k=>match xs with
  | []=>some k
  | e::es=>onlyIf (plainArg e) ((comp gs bs n names (.es es) k).bind (comp gs bs n names (.e e)))
 | n + 1,names,.all op xs,k=>cAll (comp gs bs n names) op k xs
end Mine
set_option genSizeOfSpec true
set_option genInjectivity true
namespace Mine
noncomputable def pushA:List V→List V→List V
 | [],st=>st
 | v::vs,st=>pushA vs (v::st)
theorem pN_push {P:List V→List V→Prop}:∀ {vs st a:List V} {j:Nat},pN (vs.length + j) (pushA vs st) a P=pN j st (vs++a) P
 | [],st,a,j=>by rw [List.length_nil,Nat.zero_add]; rfl
 | v::vs,st,a,j=>by
  show pN (vs.length + 1 + j) (pushA vs (v::st)) a P=_
  rw [Nat.add_assoc,pN_push,Nat.add_comm 1 j]; rfl
theorem pN_args {P:List V→List V→Prop} {vs st:List V} {n:Nat} (hn:vs.length=n) (h:pN n (pushA vs st) [] P):P vs st:=by
 subst hn
 have:=(pN_push (P:=P) (vs:=vs) (st:=st) (a:=[]) (j:=0))▸h
 rw [List.append_nil] at this; exact this
theorem Jd.mn {c:Cx} {n:Nat} {j:JK} {H:AH} {Q Q':V→AH→Prop} (h:Jd c n j H Q) (k:∀ v H,Q v H→Q' v H):Jd c n j H Q':=h.mono fun v H q=>⟨H,Sub.refl _,k v H q⟩
theorem pB.mn {v:V} {P P':Bool→Prop} (h:pB v P) (k:∀ b,P b→P' b):pB v P':=by
 cases v with
 | bool b=>exact k b h
 | _=>exact h.elim
section
variable {c:Cx} {m:Nat} {gs bs:Tab2}
noncomputable abbrev Post:=List V→AH→Prop
noncomputable def Sem (c:Cx) (m:Nat) (fm:Fm) (ρ:Loc) (H:AH):Job→Post→Prop
 | .e x,Q=>TE c m fm ρ H x fun v H'=>Q [v] H'
 | .t x,Q=>TB c m fm ρ H x fun b H'=>Q [.bool b] H'
 | .all op xs,Q=>TAll c m fm ρ H op xs fun b H'=>Q [.bool b] H'
 | .es xs,Q=>TArgs c m fm ρ H xs fun vs H'=>vs.length=xs.length∧Q vs H'
noncomputable def Snd (c:Cx) (m:Nat) (names:Names) (j:Job) (k code:Code):Prop:=∀ {fm},Fe fm names→∀ {st ρ H K},w c m code st ρ H K→Sem c m fm ρ H j fun vs H'=>w c m k (pushA vs st) ρ H' K
noncomputable abbrev Ok (c:Cx) (m:Nat) (f:Comp):Prop:=∀ {names j k code},f names j k=some code→Snd c m names j k code
variable {f:Comp} {names:Names} {k code:Code}
theorem Ok.e (ih:Ok c m f) {x:Expr} (h:f names (.e x) k=some code) {fm:Fm} (F:Fe fm names) {st:List V} {ρ:Loc} {H:AH} {K:KT} (hw:w c m code st ρ H K):TE c m fm ρ H x fun v H'=>w c m k (v::st) ρ H' K:=ih h F hw
theorem Ok.t (ih:Ok c m f) {x:Expr} (h:f names (.t x) k=some code) {fm:Fm} (F:Fe fm names) {st:List V} {ρ:Loc} {H:AH} {K:KT} (hw:w c m code st ρ H K):TB c m fm ρ H x fun b H'=>w c m k (.bool b::st) ρ H' K:=ih h F hw
theorem Ok.all (ih:Ok c m f) {op:BoolOp} {x:List Expr} (h:f names (.all op x) k=some code) {fm:Fm} (F:Fe fm names) {st:List V} {ρ:Loc} {H:AH} {K:KT} (hw:w c m code st ρ H K):TAll c m fm ρ H op x fun b H'=>w c m k (.bool b::st) ρ H' K:=ih h F hw
theorem Ok.es (ih:Ok c m f) {x:List Expr} (h:f names (.es x) k=some code) {fm:Fm} (F:Fe fm names) {st:List V} {ρ:Loc} {H:AH} {K:KT} (hw:w c m code st ρ H K):TArgs c m fm ρ H x fun vs H'=>vs.length=x.length∧w c m k (pushA vs st) ρ H' K:=ih h F hw
theorem bnd {α:Type} {o:Option α} {g:α→Option Code} (h:o.bind g=some code):∃ x,o=some x∧g x=some code:=Option.bind_eq_some_iff.mp h
theorem cName.ok (G:Glo c gs bs) {x:Str} {pos:Pos} (h:cName names gs bs x k=some code):Snd c m names (.e (.Name x pos)) k code:=fun {fm} F {st ρ H K} hw=>by
 show TE c m fm ρ H _ fun v H'=>w c m k (v::st) ρ H' K
 have go:∀ {kd},names.lookup x=some kd→Own kd→some (.ld (names.findIdx fun p=>p.1 == x) k)=some code→TE c m fm ρ H (.Name x pos) fun v H'=>w c m k (v::st) ρ H' K:=fun {kd} e hk h=>by
  cases h
  have hw:pO (ρ.at (names.findIdx fun p=>p.1 == x)) fun v=>w c m k (v::st) ρ H K:=hw
  cases hv:ρ.at (names.findIdx fun p=>p.1 == x) with
  | none=>rw [hv] at hw; exact hw.elim
  | some v=>rw [hv] at hw; exact TE.nm F (lookup_at e) hk hv hw
 unfold cName at h
 cases e:names.lookup x with
 | none=>rw [e] at h; exact nope h
 | some kd=>
  rw [e] at h
  cases kd with
  | «local»=>exact go e (.inl rfl) h
  | cell=>exact go e (.inr (.inl rfl)) h
  | free=>exact go e (.inr (.inr rfl)) h
  | globalExplicit=>exact nope h
  | globalImplicit=>
   cases g:gs.lookup x with
   | some v=>rw [g] at h; cases h; exact TE.glob F (lookup_at e) (.inl (G.g _ _ g)) hw
   | none=>
    rw [g] at h
    obtain ⟨v,b,rfl⟩:=Option.map_eq_some_iff.mp h
    exact TE.glob F (lookup_at e) (.inr (G.b _ _ b)) hw
theorem cConst.ok {v:Const} {j:Nat} {pos:Pos} (h:cConst v k=some code):Snd c m names (.e (.Constant v j pos)) k code:=fun {fm} F {st ρ H K} hw=>by
 show TE c m fm ρ H _ fun v H'=>w c m k (v::st) ρ H' K
 cases v <;> cases h
 ·exact TE.cnone hw
 ·exact TE.cbool hw
 ·exact TE.cint hw
theorem cCmp.inv {f:Job→Code→Option Code} {l:Expr} {ops:List CmpOp} {rs:List Expr} (h:cCmp f l k ops rs=some code):∃ op r,ops=[op]∧rs=[r]∧onlyIf (!behindInMarks op r) ((f (.e r) (.cmp op k)).bind (f (.e l)))=some code:=by
 cases ops with
 | nil=>exact nope h
 | cons op ops=>cases ops with
  | cons=>exact nope h
  | nil=>cases rs with
   | nil=>exact nope h
   | cons r rs=>cases rs with
    | cons=>exact nope h
    | nil=>exact ⟨op,r,rfl,rfl,h⟩
theorem cCmp.ok (ih:Ok c m f) {l:Expr} {ops:List CmpOp} {rs:List Expr} {pos:Pos} (h:cCmp (f names) l k ops rs=some code):Snd c m names (.e (.Compare l ops rs pos)) k code:=by
 obtain ⟨op,r,rfl,rfl,h⟩:=cCmp.inv h
 obtain ⟨hb,h⟩:=onlyIf_ok h
 obtain ⟨x,h1,h2⟩:=bnd h
 intro fm F st ρ H K hw
 show TE c m fm ρ H _ fun v H'=>w c m k (v::st) ρ H' K
 exact TE.cmp (TG.mono (ih.e h2 F hw) fun v H1 q=>TG.mono (ih.e h1 F q) fun u H2 q=>wCmp.ok q) (by rw [Bool.not_eq_true'] at hb; exact hb)
theorem cChn1 (ih:Ok c m f) {l:Expr} {ops:List CmpOp} {rs:List Expr} {pos:Pos} (h:cCmp (f names) l (.tru k) ops rs=some code):Snd c m names (.t (.Compare l ops rs pos)) k code:=by
 obtain ⟨op,r,rfl,rfl,h⟩:=cCmp.inv h
 obtain ⟨hb,h⟩:=onlyIf_ok h
 obtain ⟨x,h1,h2⟩:=bnd h
 intro fm F st ρ H K hw
 refine TB.cmp (TG.mono (ih.e h2 F hw) fun v H1 q=>TG.mono (ih.e h1 F q) fun u H2 q=>?_) (by rw [Bool.not_eq_true'] at hb; exact hb)
 have q:wCmp c m op (er v) (er u) H2 fun r H'=>wTruth c m r H' fun z H'=>pB z fun b=>w c m k (.bool b::st) ρ H' K:=q
 exact (wCmp.ok q).mn fun v H3 q=>wTruth.ok q
theorem cChn2 (ih:Ok c m f) {l x r:Expr} {o1 o2:CmpOp} {pos:Pos} {kr km:Code} (hb:(!behindInMarks o2 r)=true) (h1:f names (.e r) (.cmp o2 (.tru .done))=some kr) (h2:f names (.e x) (.chn o1 kr k)=some km) (h3:f names (.e l) km=some code) {fm:Fm} (F:Fe fm names) {st:List V} {ρ:Loc} {H:AH} {K:KT} (hw:w c m code st ρ H K) :
  TB c m fm ρ H (.Compare l [o1,o2] [x,r] pos) fun b H'=>w c m k (.bool b::st) ρ H' K:=by
 refine TB.chain (TG.mono (ih.e h3 F hw) fun v H1 q=>TG.mono (ih.e h2 F q) fun u H2 q=>?_) (by rw [Bool.not_eq_true'] at hb; exact hb)
 have q:wCmp c m o1 (er v) (er u) H2 fun v H1=>wTruth c m v H1 fun z H2=>pB z fun z=>if z=true then w c m kr (er u::st) ρ H2 (fun _ st ρ H=>w c m k st ρ H K) else w c m k (.bool false::st) ρ H2 K:=q
 refine (wCmp.ok q).mn fun v H3 q=>(wTruth.ok q).mn fun z H4 q=>pB.mn q fun z q=>?_
 cases z with
 | false=>exact q
 | true=>
  refine TG.mono (ih.e h1 F q) fun d H5 q=>?_
  have q:wCmp c m o2 (er u) (er d) H5 fun r H'=>wTruth c m r H' fun z H'=>pB z fun b=>w c m k (.bool b::st) ρ H' K:=q
  exact (wCmp.ok q).mn fun v H6 q=>wTruth.ok q
theorem cChn.ok (ih:Ok c m f) {l:Expr} {ops:List CmpOp} {rs:List Expr} {pos:Pos} (h:cChn (f names) l k ops rs=some code):Snd c m names (.t (.Compare l ops rs pos)) k code:=by
 cases ops with
 | nil=>(refine cChn1 ih ?_; exact h)
 | cons o1 ops=>cases ops with
  | nil=>(refine cChn1 ih ?_; exact h)
  | cons o2 ops=>cases ops with
   | cons=>(refine cChn1 ih ?_; exact h)
   | nil=>cases rs with
    | nil=>(refine cChn1 ih ?_; exact h)
    | cons x rs=>cases rs with
     | nil=>(refine cChn1 ih ?_; exact h)
     | cons r rs=>cases rs with
      | cons=>(refine cChn1 ih ?_; exact h)
      | nil=>
       obtain ⟨hb,h⟩:=onlyIf_ok h
       obtain ⟨kr,h1,h⟩:=bnd h
       obtain ⟨km,h2,h3⟩:=bnd h
       exact fun {fm} F {st ρ H K} hw=>cChn2 ih hb h1 h2 h3 F hw
theorem cUn.ok (ih:Ok c m f) {x:Expr} {op:UnaryOp} {pos:Pos} (h:cUn (f names) x k op=some code):Snd c m names (.e (.UnaryOp op x pos)) k code:=fun {fm} F {st ρ H K} hw=>by
 show TE c m fm ρ H _ fun v H'=>w c m k (v::st) ρ H' K
 cases op with
 | Not=>exact TE.not (TG.mono (ih.e h F hw) fun v H1 q=>wTruth.ok q)
 | USub=>exact TE.neg (TG.mono (ih.e h F hw) fun v H1 q=>q)
 | _=>exact nope h
theorem cBoA (ih:Ok c m f) {a b:Expr} {r:Code} {pos:Pos} (h1:f names (.e b) .done=some r) (h2:f names (.e a) (.bra true r k)=some code):Snd c m names (.e (.BoolOp .And [a,b] pos)) k code:=fun {fm} F {st ρ H K} hw=>by
 show TE c m fm ρ H _ fun v H'=>w c m k (v::st) ρ H' K
 refine TE.and2 (TG.mono (ih.e h2 F hw) fun v H1 q=>?_)
 have q:wTruth c m (er v) H1 fun z H'=>pB z fun z=>if z=true then w c m r st ρ H' (KT.thn (fun st ρ H=>w c m k st ρ H K) K) else w c m k (er v::st) ρ H' K:=q
 exact (wTruth.ok q).mn fun z H2 q=>pB.mn q fun z q=>by cases z with | true=>exact ih.e h1 F q | false=>exact q
theorem cBoO (ih:Ok c m f) {a b:Expr} {r:Code} {pos:Pos} (h1:f names (.e b) .done=some r) (h2:f names (.e a) (.bra false r k)=some code) {fm:Fm} (F:Fe fm names) {st:List V} {ρ:Loc} {H:AH} {K:KT} (hw:w c m code st ρ H K):TE c m fm ρ H (.BoolOp .Or [a,b] pos) fun v H'=>w c m k (v::st) ρ H' K:=by
 refine TE.or2 (TG.mono (ih.e h2 F hw) fun v H1 q=>?_)
 have q:wTruth c m (er v) H1 fun z H'=>pB z fun z=>if z=false then w c m r st ρ H' (KT.thn (fun st ρ H=>w c m k st ρ H K) K) else w c m k (er v::st) ρ H' K:=q
 exact (wTruth.ok q).mn fun z H2 q=>pB.mn q fun z q=>by cases z with | false=>exact ih.e h1 F q | true=>exact q
theorem cBoM (ih:Ok c m f) {a b x:Expr} {es:List Expr} {r:Code} {pos:Pos} (h1:f names (.e (.BoolOp .Or (b::x::es) pos)) .done=some r) (h2:f names (.e a) (.bra false r k)=some code) {fm:Fm} (F:Fe fm names) {st:List V} {ρ:Loc} {H:AH} {K:KT} (hw:w c m code st ρ H K):TE c m fm ρ H (.BoolOp .Or (a::b::x::es) pos) fun v H'=>w c m k (v::st) ρ H' K:=by
 refine TE.orMore (TG.mono (ih.e h2 F hw) fun v H1 q=>?_)
 have q:wTruth c m (er v) H1 fun z H'=>pB z fun z=>if z=false then w c m r st ρ H' (KT.thn (fun st ρ H=>w c m k st ρ H K) K) else w c m k (er v::st) ρ H' K:=q
 exact (wTruth.ok q).mn fun z H2 q=>pB.mn q fun z q=>by cases z with | false=>exact ih.e h1 F q | true=>exact q
theorem cBo.ok (ih:Ok c m f) {es:List Expr} {op:BoolOp} {pos:Pos} (h:cBo (f names) pos k op es=some code):Snd c m names (.e (.BoolOp op es pos)) k code:=by
 cases es with
 | nil=>cases op <;> exact nope h
 | cons a es=>cases es with
  | nil=>cases op <;> exact nope h
  | cons b es=>cases op with
   | And=>cases es with
    | nil=>obtain ⟨r,h1,h2⟩:=bnd h; exact fun {fm} F {st ρ H K} hw=>cBoA ih h1 h2 F hw
    | cons=>exact nope h
   | Or=>cases es with
    | nil=>obtain ⟨r,h1,h2⟩:=bnd h; exact fun {fm} F {st ρ H K} hw=>cBoO ih h1 h2 F hw
    | cons x es=>obtain ⟨r,h1,h2⟩:=bnd h; exact fun {fm} F {st ρ H K} hw=>cBoM ih h1 h2 F hw
theorem cAll.ok (ih:Ok c m f) {es:List Expr} {op:BoolOp} (h:cAll (f names) op k es=some code):Snd c m names (.all op es) k code:=fun {fm} F {st ρ H K} hw=>by
 show TAll c m fm ρ H _ _ fun b H'=>w c m k (.bool b::st) ρ H' K
 match es,h with
 | [e],h=>
  refine TAll.cons (TG.mono (ih.t h F hw) fun z H1 q=>?_)
  by_cases hz:z=bop op
  ·rw [if_pos hz]; exact TAll.nil (hz▸q)
  ·rw [if_neg hz]; exact q
 | e::e'::es,h=>
  obtain ⟨r,h1,h2⟩:=bnd h
  refine TAll.cons (TG.mono (ih.t h2 F hw) fun z H1 q=>?_)
  have q:if z=bop op then w c m r st ρ H1 (KT.thn (fun st ρ H=>w c m k st ρ H K) K) else w c m k (.bool z::st) ρ H1 K:=q
  by_cases hz:z=bop op
  ·rw [if_pos hz] at q ⊢
   exact ih.all h1 F q
  ·rw [if_neg hz] at q ⊢
   exact q
theorem cCall.inv {P:Prop} {f:Job→Code→Option Code} {fn:Expr} {es:List Expr} {pos:Pos} (h:cCall f fn es pos k=some code) (h1:∀ x p ka,fn=.Name x p→es.all plainArg=true→f (.es es) (.call es.length k)=some ka→f (.e fn) ka=some code→P)
  (h2:∀ o mm ap ka,fn=.Attribute o mm ap→es.all plainArg=true→notCall o=true→(ap.endLine == pos.line)=true→es.length < 10→f (.es es) (.cm es.length k)=some ka→f (.e o) (.gm mm ka)=some code→P)
  (h3:∀ o mm ap e p ka,fn=.Attribute o mm ap→es=[.Starred e p]→notCall o=true→f (.e e) (.star k)=some ka→f (.e o) (.attr mm ka)=some code→P):P:=by
 unfold cCall at h
 cases hs:es.all plainArg with
 | false=>
  rw [hs] at h
  refine (bnd (o:=asAttr fn) h).elim fun q w=>?_
  have h:=w.2
  cases es with
  | nil=>exact nope h
  | cons e es=>cases es with
   | cons=>exact nope h
   | nil=>exact (Option.bind_eq_some_iff.mp h).elim fun e' v=>(starred.ok v.1).elim fun p hp=>(bnd (onlyIf_ok v.2).2).elim fun ka u=>h3 _ _ _ e' p ka (asAttr.ok w.1) (congrArg (·::[]) hp) (onlyIf_ok v.2).1 u.1 u.2
 | true=>
  rw [hs] at h
  cases e:asName fn with
  | some x=>rw [e] at h; exact (bnd h).elim fun ka q=>h1 _ _ ka (asName.ok e) hs q.1 q.2
  | none=>
   rw [e] at h
   refine (bnd (o:=asAttr fn) h).elim fun q w=>?_
   have hc:=(Bool.and_eq_true _ _▸(onlyIf_ok w.2).1:_∧_)
   have hc1:=(Bool.and_eq_true _ _▸hc.1:_∧_)
   exact (bnd (onlyIf_ok w.2).2).elim fun ka v=>h2 _ _ _ ka (asAttr.ok w.1) hs hc1.1 hc1.2 (of_decide_eq_true hc.2) v.1 v.2
theorem cCall.ok (ih:Ok c m f) {fn:Expr} {es:List Expr} {pos:Pos} (h:cCall (f names) fn es pos k=some code):Snd c m names (.e (.Call fn es [] pos)) k code:=fun {fm} F {st ρ H K} hw=>by
 show TE c m fm ρ H _ fun v H'=>w c m k (v::st) ρ H' K
 refine cCall.inv h (fun x p ka e hs h1 h2=>?_) (fun o mm ap ka e hs hc hp hl h1 h2=>?_) fun o mm ap e' p ka e1 e2 hc h1 h2=>?_
 ·subst e
  exact TE.callV hs (TG.mono (ih.e h2 F hw) fun v H1 q p=>(ih.es h1 F q p).mono fun vs H2 q=>pN_args q.1 q.2) fun _=>rfl
 ·subst e
  exact TE.meth hs hc hp hl (TG.mono (ih.e h2 F hw) fun v H1 q=>q.imp fun fv q=>q.imp fun b q=>⟨q.1,fun p=>(ih h1 F q.2 p).mono fun vs H2 q=>pN_args q.1 q.2⟩)
 ·subst e1 e2
  exact TE.callStar hc (TG.mono (ih.e h2 F hw) fun v H1 q=>Jd.mn (show AttrT c m (er v) mm H1 _ from q) fun u H2 q=>TG.mono (ih.e h1 F q) fun l H3 q=>q)
theorem notSet.ok {it:Expr} (h:notSet it=true):∀ env x,foldedSetIterable it env x=pure x:=by
 cases it <;> first | exact fun _ _=>rfl | exact nomatch h
theorem cOpt.ok (ih:Ok c m f) {e:Option Expr} (h:cOpt f names e k=some code) {fm:Fm} (F:Fe fm names) {st:List V} {ρ:Loc} {H:AH} {K:KT} (hw:w c m code st ρ H K):TOpt c m fm ρ H e fun v H'=>w c m k (v::st) ρ H' K:=by
 cases e with
 | none=>cases h; exact hw
 | some e=>exact ih.e h F hw
theorem TOpt.mono {n:Nat} {fm:Fm} {ρ:Loc} {H:AH} {e:Option Expr} {Q Q':V→AH→Prop} (h:TOpt c n fm ρ H e Q) (k:∀ v H',Q v H'→Q' v H'):TOpt c n fm ρ H e Q':=by
 cases e with
 | none=>exact k _ _ h
 | some e=>exact TG.mono (show TE c n fm ρ H e Q from h) fun v H' q=>k _ _ q
theorem cSub.ok (ih:Ok c m f) {o i:Expr} {pos:Pos} (h:cSub f names o i k=some code):Snd c m names (.e (.Subscript o i pos)) k code:=fun {fm} F {st ρ H K} hw=>by
 show TE c m fm ρ H _ fun v H'=>w c m k (v::st) ρ H' K
 have one:onlyIf (notSlice i) ((f names (.e i) (.sub k)).bind (f names (.e o)))=some code→TE c m fm ρ H (.Subscript o i pos) fun v H'=>w c m k (v::st) ρ H' K:=fun h=>by
  obtain ⟨_,h⟩:=onlyIf_ok h
  obtain ⟨x,h1,h2⟩:=bnd h
  exact TE.sub (TG.mono (ih.e h2 F hw) fun v H1 q=>TG.mono (ih.e h1 F q) fun u H2 q=>q)
 cases i with
 | Slice lo hi stp p=>
  cases stp with
  | none=>
   obtain ⟨ku,h1,h⟩:=bnd h
   obtain ⟨kl,h2,h3⟩:=bnd h
   exact TE.slice (TG.mono (ih.e h3 F hw) fun v H1 q=>(cOpt.ok ih h2 F q).mono fun l H2 q=>(cOpt.ok ih h1 F q).mono fun u H3 q=>q)
  | some _=>exact nope h
 | _=>exact one h
theorem cDic.ok (ih:Ok c m f) {ks:List (Option Expr)} {vs:List Expr} {pos:Pos} (h:cDic (f names) k ks vs=some code):Snd c m names (.e (.Dict ks vs pos)) k code:=fun {fm} F {st ρ H K} hw=>by
 show TE c m fm ρ H _ fun v H'=>w c m k (v::st) ρ H' K
 cases ks with
 | nil=>cases vs with
  | nil=>cases h; exact TE.dict0 hw
  | cons=>exact nope h
 | cons a ks=>cases ks with
  | cons=>cases a <;> exact nope h
  | nil=>cases a with
  | none=>exact nope h
  | some a=>cases vs with
  | nil=>exact nope h
  | cons b vs=>cases vs with
  | cons=>exact nope h
  | nil=>
  obtain ⟨ka,h',rfl⟩:=Option.map_eq_some_iff.mp h
  obtain ⟨kb,h1,h2⟩:=bnd h'
  exact TE.dict1 fun D hD=>TG.mono (ih.e h2 F (hw D hD)) fun kv H1 q=>TG.mono (ih.e h1 F q) fun vv H2 q=>q.imp fun j q=>q.imp fun a q=>⟨q.1,by cases q.2.1; rfl,q.2.2⟩
theorem cSt.ok {q:Str→Bool} {x:Str} {pos:Pos} (h:cSt q names x k=some code) {fm:Fm} (F:Fe fm names) (hq:∀ x,q x=true→fm.own x=true) {v:V} {st:List V} {ρ:Loc} {H:AH} {K:KT} (hw:w c m code (v::st) ρ H K):TA c m fm ρ H (.Name x pos) v fun ρ' H'=>w c m k st ρ' H' K:=by
 unfold cSt at h
 cases e:names.lookup x with
 | none=>rw [e] at h; exact nope h
 | some kd=>
  rw [e] at h
  cases kd with
  | «local»=>cases h; exact TA.name F (lookup_at e) (.inl rfl) hw
  | cell=>obtain ⟨h1,h2⟩:=onlyIf_ok h; cases h2; exact TA.name F (lookup_at e) (.inr ⟨rfl,hq _ h1⟩) hw
  | _=>exact nope h
theorem cSts.inv {P:Prop} {q:Str→Bool} {e:Expr} {r:List Expr} (h:cSts q names (e::r) k=some code) (go:∀ x p k1,e=.Name x p→cSts q names r k=some k1→cSt q names x k1=some code→P):P:=
 (bnd (o:=asName e) h).elim fun x w=>(bnd w.2).elim fun k1 v=>go _ _ k1 (asName.ok w.1) v.1 v.2
theorem cSts.all {q:Str→Bool}:∀ {ts:List Expr} {k code:Code},cSts q names ts k=some code→ts.all plainArg=true
 | [],_,_,_=>rfl
 | e::r,k,code,h=>cSts.inv h fun x p k1 e h1 _=>e▸cSts.all (ts:=r) h1
theorem cSts.ok {q:Str→Bool} {fm:Fm} (F:Fe fm names) (hq:∀ x,q x=true→fm.own x=true) {st:List V} {K:KT}:∀ (ts:List Expr) {vs:List V} {k code:Code} {ρ:Loc} {H:AH},cSts q names ts k=some code→vs.length=ts.length→w c m code (vs++st) ρ H K→TAs c m fm ρ H ts vs fun ρ' H'=>w c m k st ρ' H' K
 | [],vs,k,code,ρ,H,h,hl,hw=>by cases List.length_eq_zero_iff.mp hl; cases h; exact hw
 | e::r,vs,k,code,ρ,H,h,hl,hw=>cSts.inv h fun x p k1 e h1 h2=>by
  subst e
  obtain ⟨v,vs,rfl⟩:=List.exists_cons_of_length_eq_add_one hl
  exact fun raw e=>TF.mono (cSt.ok h2 F hq hw raw e) fun _ ρ' H' u=>cSts.ok F hq r h1 (Nat.succ.inj hl) u
theorem cTg.inv {P:Prop} {q:Str→Bool} {z:Bool} {t:Expr} (h:cTg q names z t k=some code) (h1:∀ x p,t=.Name x p→z=false→cSt q names x k=some code→P) (h2:∀ ts j p k1,t=.Tuple ts j p→cSts q names ts k=some k1→cTgT z ts.length k1=some code→P):P:=by
 unfold cTg at h
 cases e:asName t with
 | some x=>rw [e] at h; exact h1 _ _ (asName.ok e) ((Bool.not_eq_true' _).mp (onlyIf_ok h).1) (onlyIf_ok h).2
 | none=>rw [e] at h; exact (bnd (o:=asTup t) h).elim fun ts w=>(bnd w.2).elim fun k1 v=>h2 _ _ _ k1 (asTup.ok w.1) v.1 v.2
theorem cTg.ok {q:Str→Bool} {z:Bool} {t:Expr} {fm:Fm} (F:Fe fm names) (hq:∀ x,q x=true→fm.own x=true) {K:KT} {xs:List V} {ρ:Loc} {H:AH} (h:cTg q names z t k=some code) (hw:w c m code xs ρ H K):TgX c m fm ρ H z t xs fun ρ' H'=>w c m k [] ρ' H' K:=fun v A Z s hr R I=>by
 refine cTg.inv h (fun x p e hz h=>?_) fun ts j p k1 e h1 h2=>?_
 ·subst e hz
  cases I; exact cSt.ok h F hq hw v rfl A Z s hr R
 ·subst e
  cases z with
  | true=>
   have hl:=of_decide_eq_true (onlyIf_ok h2).1
   cases (onlyIf_ok h2).2
   obtain ⟨l,a,b,n,rfl,e,rfl⟩:=I
   have hae:=assignEach_all fm.env ts (cSts.all h1)
   refine assign_Tuple_tuple hr.handled ⟨_,e,rfl,_,rfl⟩ (by rw [hae,List.length_map,List.size_toArray,hl]; rfl) (by rw [hae,List.findIdx?_map]; exact List.findIdx?_eq_none_iff.mpr fun _ _=>rfl) fun h' hb=>?_
   rw [hae,List.map_map]
   exact TAs.run ts [er a,er b] ρ H _ [a,b] A Z _ (cSts.ok F hq ts h1 hl.symm hw) rfl hr (R.stays fun b ob q=>hb b ob (Nat.ne_of_lt (Heap.lt_size q)) q)
  | false=>
   cases h2
   cases I
   obtain ⟨l,vs,e,e1,e2,hw⟩:=(show ∃ l vs,er v=.ref l∧H l=some (.tup vs)∧vs.length=ts.length∧w c m k1 (vs++[]) ρ H K from hw)
   exact TA.tuple e1 (cSts.all h1) e2 (cSts.ok F hq ts h1 e2 hw) v e A Z s hr R
theorem kdN.ok (G:Glo c gs bs) {x:Str} {d:Kd} (h:kdN names gs bs x=d):d=.seq∨∃ T,names.lookup x=some .globalImplicit∧(c.mg x=none∧c.mb x=some (.type T))∧kdT T=d:=by
 unfold kdN at h
 cases e1:names.lookup x with
 | none=>rw [e1] at h; exact .inl h.symm
 | some kd=>
  rw [e1] at h
  cases kd with
  | globalImplicit=>
   cases e2:gs.lookup x with
   | some _=>rw [e2] at h; exact .inl h.symm
   | none=>
    cases e3:bs.lookup x with
    | none=>rw [e2,e3] at h; exact .inl h.symm
    | some v=>
     rw [e2,e3] at h
     cases v with
     | type T=>exact .inr ⟨T,rfl,G.b _ _ e3,h⟩
     | _=>exact .inl h.symm
  | _=>exact .inl h.symm
theorem kdT.ok {T:String}:(T="range"∧kdT T=.range)∨(T="zip"∧kdT T=.zip)∨(T="reversed"∧kdT T=.rev)∨kdT T=.seq:=by
 unfold kdT
 by_cases h1:T="range"
 ·exact .inl ⟨h1,if_pos h1⟩
 ·rw [if_neg h1]
  by_cases h2:T="zip"
  ·exact .inr (.inl ⟨h2,if_pos h2⟩)
  ·rw [if_neg h2]
   by_cases h3:T="reversed"
   ·exact .inr (.inr (.inl ⟨h3,if_pos h3⟩))
   ·exact .inr (.inr (.inr (if_neg h3)))
theorem CallV.blt {n:Nat} {v:Value} {args:List V} {H:AH} {Q:V→AH→Prop} (hv:er v=.oth v) (hk:∀ s:Shared,∃ k,Looks c.M s.heap (keeperOf v) k) (h:∀ vs A Z s,Room n A→Rel c Z H s→vs.map er=args→wpAny c.M A (PySem.call v vs []) (PQ c Z fun r=>Q (er r)) BOT s):CallV c n (.oth v) args H Q:=
 ⟨fun Z s fv e R=>by obtain rfl:=er_oth e; exact hk s,fun fv vs e1 e2 A Z s hr R=>by obtain rfl:=er_oth e1; exact h vs A Z s hr R e2⟩
theorem CallV.b {n:Nat} {id:String} {args:List V} {H:AH} {Q:V→AH→Prop} (h:∀ vs A Z s,Room n A→Rel c Z H s→vs.map er=args→wpAny c.M A (PySem.call (.builtin id) vs []) (PQ c Z fun r=>Q (er r)) BOT s):CallV c n (.oth (.builtin id)) args H Q:=
 .blt rfl (fun s=>⟨.machine,Looks.of_pure rfl⟩) h
theorem CallV.ty {n:Nat} {id:String} {args:List V} {H:AH} {Q:V→AH→Prop} (h:∀ vs A Z s,Room n A→Rel c Z H s→vs.map er=args→wpAny c.M A (PySem.call (.type id) vs []) (PQ c Z fun r=>Q (er r)) BOT s):CallV c n (.oth (.type id)) args H Q:=
 .blt rfl (fun s=>⟨.machine,Looks.of_pure rfl⟩) h
theorem CallV.range1 {n:Nat} {x:Int} {H:AH} {Q:V→AH→Prop} (h:∀ D,H D=none→Q (.ref D) (H.set D (.range 0 x 1))):CallV c n (.oth (.type "range")) [.int x] H Q:=.ty fun vs A Z s hr R e=>by
 obtain ⟨a,rfl,e1⟩:=er_1 e
 obtain ⟨t,rfl⟩:=er_int e1
 exact call_range_1 ⟨_,R.new (o:=.range 0 x 1) (get?_size_none _) (fun b ob e=>Heap.get?_push_of_some _ e) ⟨_,Heap.get?_push_size _ rfl,_,_,_,fun h e=>e⟩,h _ (R.freshH (get?_size_none _))⟩
theorem TE.callB {x:Str} {np pos:Pos} {es:List Expr} {i n:Nat} {T:String} {fm:Fm} {ρ:Loc} {H:AH} {Q:V→AH→Prop} (F:Fe fm names) (hx:names[i]?=some (x,.globalImplicit)) (hv:c.mg x=none∧c.mb x=some (.type T)) (hs:es.all plainArg=true)
  (h:TArgs c n fm ρ H es fun vs H2=>CallV c n (.oth (.type T)) vs H2 Q):TE c n fm ρ H (.Call (.Name x np) es [] pos) Q:=TE.callV hs (TE.glob F hx (.inr hv) h) fun _=>rfl
theorem IterE.seq {n:Nat} {fm:Fm} {ρ:Loc} {H:AH} {tg e:Expr} {P:List (List V)→(AH→Prop)→AH→Prop} (h:TE c n fm ρ H e fun v H1=>∃ items src,IterV H1 .seq [v] items src∧P items src H1):IterE c n fm ρ H tg e false P:=fun A Z s W hr R k=>by
 refine h.run hr R fun v s1 H1 R1 q=>?_
 obtain ⟨items,src,i,p⟩:=q
 rcases i with ⟨l,vs,e1,e2,rfl,rfl⟩ | ⟨l,es,ep,e1,e2,rfl,rfl⟩
 ·obtain rfl:=er_ref (List.cons.inj e1).1
  obtain ⟨xs,m,q1,q2,q3⟩:=R1.rel.seq e2
  exact wpAny_pyIter_list ⟨_,q1,rfl,_,rfl⟩ (IterE.obj Iter.list rfl (fun h e=>⟨_,e,rfl,rfl⟩) R1 k p)
 ·obtain rfl:=er_ref (List.cons.inj e1).1
  obtain ⟨kvs,q1,rfl,q3⟩:=R1.rel.dict e2
  refine wpAny_pyIter_dict (knd:=intKind c.prog c.w) (R1.rel.notModules e2) q1 (IterE.obj Iter.keys rfl (fun h e=>⟨_,e,rfl,?_⟩) R1 k p)
  rw [List.length_map]; rfl
theorem TG.held {α:Type} {n:Nat} {fm:Fm} {ρ:Loc} {H:AH} {t:PySem.Sem α} {Q:α→AH→Prop} (h:TG c n fm ρ H t fun v H'=>HeldW H' (Q v)):TG c n fm ρ H t Q:=fun A Z s hr R=>h.run hr R fun v s' H' R' q=>q.elim (fun q=>⟨H',R',q⟩) fun q=>q.elim fun d q=>q.elim fun es q=>by
 obtain ⟨ob,g,hl,kvs,e,ek⟩:=R'.rel.real _ _ q.1
 obtain ⟨ep,a⟩:=(e _ g).dictAt
 exact ⟨_,R'.re' (R'.rel.all.upd (h':=s'.heap) (tk:=s'.toks) (dr:=s'.drawn) q.1 (fun _ _ _ e=>e) (ek▸Real.dict (ep:=some ep) a (by rw [← ek,List.length_map] at hl; exact hl))),q.2 ep⟩
theorem cTg.tup {q:Str→Bool} {t:Expr} (h:cTg q names true t k=some code):∃ ts j p,t=.Tuple ts j p:=cTg.inv h (fun x p e hz _=>nomatch hz) fun ts j p k1 e _ _=>⟨ts,j,p,e⟩
theorem kdOf.inv {P:Prop} (G:Glo c gs bs) {it:Expr} (h1:kdOf names gs bs it=(.seq,[it])→P) (h2:∀ x p es pos T,it=.Call (.Name x p) es [] pos→names.lookup x=some .globalImplicit→(c.mg x=none∧c.mb x=some (.type T))→kdOf names gs bs it=kdA it es (kdT T)→P):P:=by
 have k:kdOf names gs bs it=(.seq,[it])∨∃ x p es pos,it=.Call (.Name x p) es [] pos:=by
  clear h1 h2
  cases it with
  | Call fn es kw pos=>
   cases fn with
   | Name x p=>
    cases kw with
    | nil=>exact .inr ⟨_,_,_,_,rfl⟩
    | cons _ _=>exact .inl rfl
   | _=>exact .inl rfl
  | _=>exact .inl rfl
 rcases k with k | ⟨x,p,es,pos,rfl⟩
 ·exact h1 k
 ·rcases kdN.ok G (rfl:kdN names gs bs x=_) with e | ⟨T,hx,hv,e⟩
  ·exact h1 (show kdA _ es _=_ by rw [e]; rfl)
  ·exact h2 x p es pos T rfl hx hv (show kdA _ es _=_ by rw [e])
theorem range_call {n:Nat} {vs:List V} {items:List (List V)} {src:AH→Prop} {H1:AH} {P:List (List V)→(AH→Prop)→AH→Prop} (i:IterV H1 .range vs items src) (q:P items src H1):CallV c n (.oth (.type "range")) vs H1 fun v H2=>∃ r a b s,∃ m:Nat,v=.ref r∧H2 r=some (.range a b s)∧Builtin.Range.small a b s=true∧Builtin.Range.rangeSize a b s=m∧∃ H3,Sub H3 H2∧P ((List.range m).map fun i:Nat=>[.int (a + (i:Int) * s)]) (fun _=>True) H3:=by
 obtain ⟨rfl,n,rfl,hn,rfl⟩:=i
 refine CallV.range1 fun D hD=>⟨D,0,n,1,n,rfl,AH.set_self,small_one (by decide) (by decide) (Int.le_trans (by decide) (Int.natCast_nonneg n)) (Int.lt_of_le_of_lt (Int.ofNat_le.mpr hn) (by decide)),?_,H1,Sub.new hD,?_⟩
 ·rw [rangeSize_one]
  split
  ·exact Int.sub_zero _
  ·exact Int.le_antisymm (Int.natCast_nonneg n) (Int.not_lt.mp (by assumption))
 ·rw [show (fun i:Nat=>[V.int (0 + (i:Int) * 1)])=fun i:Nat=>[V.int i] from funext fun i=>by rw [Int.mul_one,Int.zero_add]]; exact q
theorem iter_ok (ih:Ok c m f) (G:Glo c gs bs) {it tg:Expr} {fm:Fm} (F:Fe fm names) {st:List V} {ρ:Loc} {H:AH} {K:KT} {P:List (List V)→(AH→Prop)→AH→Prop} (h:cIt f names gs bs it k=some code) (hz:(kdOf names gs bs it).1.z=true→∃ ts j p,tg=.Tuple ts j p) (hw:w c m code st ρ H K)
  (hk:∀ args H',args.length=(kdOf names gs bs it).2.length→w c m k (pushA args st) ρ H' K→HeldW H' fun H'=>∃ items src,IterV H' (kdOf names gs bs it).1 args items src∧P items src H'):IterE c m fm ρ H tg it (kdOf names gs bs it).1.z P:=by
 have seq:kdOf names gs bs it=(.seq,[it])→IterE c m fm ρ H tg it (kdOf names gs bs it).1.z P:=fun e=>by
  unfold cIt at h
  rw [e] at h hk ⊢
  exact IterE.seq (TG.held (TG.mono (ih.e h F hw) fun v H1 q=>hk [_] H1 rfl q))
 refine kdOf.inv G seq fun x p es pos T e hx hv e0=>?_
 subst e
 have arg:∀ {d},kdT T=d→kdA (.Call (.Name x p) es [] pos) es d=(d,es)→d≠.seq→es.all plainArg=true∧TArgs c m fm ρ H es fun args H1=>∃ items src,IterV H1 d args items src∧P items src H1:=fun {d} e1 e2 e3=>by
  rw [e0,e1,e2] at hk
  have h:(match (d,es) with | (.seq,_)=>f names (.e (.Call (.Name x p) es [] pos)) k | (_,es)=>onlyIf (es.all plainArg) (f names (.es es) k))=some code:=by
   have h:=h; unfold cIt at h; rw [e0,e1,e2] at h; exact h
  have h:onlyIf (es.all plainArg) (f names (.es es) k)=some code:=by cases d <;> first | exact h | exact absurd rfl e3
  exact ⟨(onlyIf_ok h).1,fun pp=>TG.held ((ih.es (onlyIf_ok h).2 F hw pp).mono fun vs H1 q=>hk _ H1 q.1 q.2)⟩
 rcases kdT.ok (T:=T) with ⟨rfl,e1⟩ | ⟨rfl,e1⟩ | ⟨rfl,e1⟩ | e1
 ·obtain ⟨hs,ha⟩:=arg e1 rfl (fun q=>nomatch q)
  rw [e0,e1]
  exact IterE.range (TE.callB F (lookup_at hx) hv hs fun pp=>(ha pp).mono fun vs H1 q=>q.elim fun items q=>q.elim fun src q=>range_call q.1 q.2)
 ·obtain ⟨hs,ha⟩:=arg e1 rfl (fun q=>nomatch q)
  rw [e0,e1] at hz ⊢
  obtain ⟨ts,j,p',rfl⟩:=hz rfl
  refine IterE.zip F (lookup_at hx) hv hs fun pp=>(ha pp).mono fun vs H1 q=>?_
  obtain ⟨items,src,⟨l,m,us,ws,e,e1,e2,rfl,rfl⟩,q⟩:=q
  exact ⟨l,m,us,ws,e,e1,e2,q⟩
 ·obtain ⟨hs,ha⟩:=arg e1 rfl (fun q=>nomatch q)
  rw [e0,e1]
  refine IterE.rev F (lookup_at hx) hv hs fun pp=>(ha pp).mono fun vs H1 q=>?_
  obtain ⟨items,src,⟨l,us,e,e1,rfl,rfl⟩,q⟩:=q
  exact ⟨l,us,e,e1,q⟩
 ·exact seq (by rw [e0,e1]; rfl)
theorem scopeOk.ok {sc:Scope} (h:scopeOk names sc=true):sc.kind=.function∧(sc.names.map (·.1)).Nodup∧(∀ p∈sc.names,PlainName p.1)∧capsOk names sc.names=true:=by
 unfold scopeOk at h
 rw [Bool.and_eq_true,Bool.and_eq_true,Bool.and_eq_true] at h
 exact ⟨of_decide_eq_true h.1.1.1,of_decide_eq_true h.1.1.2,of_decide_eq_true h.1.2,h.2⟩
theorem cBody.ok (ih:Ok c m f) {ifs:List Expr} {elt:Expr} {fm:Fm} (F:Fe fm names) (h:cBody f names ifs elt=some code) {ρ:Loc} {H:AH} {Inv:List V→Loc→AH→Prop} {acc:List V} (hw:w c m code [] ρ H (emit Inv acc)) :
  TTests c m fm ρ H ifs fun ok H4=>if ok=true then TE c m fm ρ H4 elt fun v H5=>∃ H6,Sub H6 H5∧Inv (acc++[v]) ρ H6 else ∃ H6,Sub H6 H4∧Inv acc ρ H6:=by
 match ifs,h with
 | [],h=>exact TTests.nil (ih.e h F hw)
 | [t],h=>
  obtain ⟨k,h1,h2⟩:=bnd h
  refine TTests.one (TG.mono (ih.t h2 F hw) fun z H4 q=>?_)
  cases z with
  | true=>exact TG.mono (ih.e h1 F (K:=KT.thn (fun st ρ H=>w c m .done st ρ H (emit Inv acc)) (emit Inv acc)) q) fun v H5 q=>q
  | false=>exact q
theorem cComp.ok (ih:Ok c m f) {fm:Fm} (Fc:Fe fm names) {ifs:List Expr} {elt tg:Expr} {z:Bool} {b b':Code} (hb:cBody f names ifs elt=some b) {own:Str→Bool} (hq:∀ x,own x=true→fm.own x=true) (ht:cTg own names z tg b=some b') {Inv:Nat→List V→Loc→AH→Prop} {items:List (List V)} {src:AH→Prop}
  (hsrc:∀ i acc ρ H,Inv i acc ρ H→src H) (step:∀ i acc xs ρ H,items[i]?=some xs→Inv i acc ρ H→w c m b' xs ρ H (emit (Inv (i + 1)) acc)):CompT c m fm tg z ifs elt Inv items src:=
 ⟨hsrc,fun i acc xs ρ' H' hx hi v A Z s hr R I=>wpAny_mono (cTg.ok Fc hq ht (step i acc xs ρ' H' hx hi) v A Z s hr R I) (fun _ s' u=>u.imp fun ρ3 u=>u.imp fun H3 u=>⟨u.1,cBody.ok ih Fc hb u.2⟩) fun _ _ e=>e⟩
noncomputable abbrev CompQ (c:Cx) (m:Nat) (fm:Fm) (ρ:Loc) (H:AH) (names:Names) (elt tg it:Expr) (ifs:List Expr) (gens:List Comprehension) (sc:Scope) (pos:Pos) (z:Bool) (Q:V→AH→Prop):Prop:=
 IterE c m fm ρ H tg it z fun items src H1=>∃ Inv,Loops c m fm (.ListComp elt (⟨tg,it,ifs,0⟩::gens) sc pos) sc tg z (caps names ρ sc.names) (fun acc H'=>∀ D,H' D=none→Q (.ref D) (H'.set D (.list acc))) items src H1 Inv
theorem cLc1.ok (ih:Ok c m f) (G:Glo c gs bs) {elt tg it:Expr} {ifs:List Expr} {sc:Scope} {pos:Pos} {b b':Code} (hs:scopeOk names sc=true) (hb:cBody f (relabelN names sc.names) ifs elt=some b) (ht:cTg (ownOf sc) (relabelN names sc.names) (kdOf names gs bs it).1.z tg b=some b') (h:cIt f names gs bs it (.comp (kdOf names gs bs it).1 (kdOf names gs bs it).2.length (sc.names.map (capOf names)) b' k)=some code)
  {fm:Fm} (F:Fe fm names) {st:List V} {ρ:Loc} {H:AH} {K:KT} (hw:w c m code st ρ H K):CompQ c m fm ρ H names elt tg it ifs [] sc pos (kdOf names gs bs it).1.z fun v H'=>w c m k (v::st) ρ H' K:=
 have S:=scopeOk.ok hs
 iter_ok ih G F h (fun q=>cTg.tup (q▸ht)) hw fun args H1 hl q=>.inl ((pN_args hl q).imp fun items q=>q.imp fun src q=>q.elim fun Inv W=>
  ⟨W.iter,Inv,Loops.one (Nat.le_trans (Nat.le_add_left ..) W.len) W.h0 (fun cl C=>cComp.ok ih (F.comp S.1 S.2.1 S.2.2.1 cl C) hb (fun _ h=>h) ht W.src W.step) W.fin⟩)
theorem cLc2.ok (ih:Ok c m f) (G:Glo c gs bs) {elt t0 i0 t1 i1:Expr} {f1:List Expr} {sc:Scope} {pos:Pos} {b b' p p':Code} (hs:scopeOk names sc=true) (hn:notSet i1=true) (hb:cBody f (relabelN names sc.names) f1 elt=some b) (ht:cTg (ownOf sc) (relabelN names sc.names) (kdOf (relabelN names sc.names) gs bs i1).1.z t1 b=some b') (hp:cIt f (relabelN names sc.names) gs bs i1 .done=some p)
  (ht0:cTg (ownOf sc) (relabelN names sc.names) (kdOf names gs bs i0).1.z t0 p=some p') (h:cIt f names gs bs i0 (.comp2 (kdOf names gs bs i0).1 (kdOf names gs bs i0).2.length (sc.names.map (capOf names)) p' (kdOf (relabelN names sc.names) gs bs i1).1 (kdOf (relabelN names sc.names) gs bs i1).2.length b' k)=some code)
  {fm:Fm} (F:Fe fm names) {st:List V} {ρ:Loc} {H:AH} {K:KT} (hw:w c m code st ρ H K):CompQ c m fm ρ H names elt t0 i0 [] [⟨t1,i1,f1,0⟩] sc pos (kdOf names gs bs i0).1.z fun v H'=>w c m k (v::st) ρ H' K:=by
 have S:=scopeOk.ok hs
 refine iter_ok ih G F h (fun q=>cTg.tup (q▸ht0)) hw fun args H1 hl q=>.inl ((pN_args hl q).imp fun items q=>q.imp fun src q=>q.elim fun Inv W=>
  ⟨W.iter,Inv,Loops.two (z1:=(kdOf (relabelN names sc.names) gs bs i1).1.z) W.h0 (fun cl C=>⟨W.src,fun i acc xs ρ' H' hx hi v A Z s hr R I=>?_⟩) (notSet.ok hn) W.fin⟩)
 have Fc:=F.comp S.1 S.2.1 S.2.2.1 cl C
 exact wpAny_mono (cTg.ok Fc (fun _ h=>h) ht0 (W.step i acc xs ρ' H' hx hi) v A Z s hr R I) (fun _ s' u=>u.imp fun ρ3 u=>u.imp fun H3 u=>⟨u.1,iter_ok ih G Fc hp (fun q=>cTg.tup (q▸ht)) u.2 fun args H4 hl q=>.inl ((pN_args hl q).imp fun it' q=>q.imp fun src' q=>q.elim fun Jnv W'=>
  ⟨W'.iter,W'.len,Jnv,W'.h0,cComp.ok ih Fc hb (fun _ h=>h) ht W'.src W'.step,W'.fin⟩)⟩) fun _ _ e=>e
noncomputable def LcS (c:Cx) (m:Nat) (names:Names) (gs bs:Tab2) (elt:Expr) (gens:List Comprehension) (sc:Scope) (k code:Code):Prop:=∃ tg it ifs gr,gens=⟨tg,it,ifs,0⟩::gr∧notSet it=true∧∀ (pos:Pos) (fm:Fm),Fe fm names→∀ (st:List V) (ρ:Loc) (H:AH) (K:KT),w c m code st ρ H K→CompQ c m fm ρ H names elt tg it ifs gr sc pos (kdOf names gs bs it).1.z fun v H'=>w c m k (v::st) ρ H' K
theorem genOk.ok {g:Comprehension} (h:genOk g=true):g=⟨g.target,g.iter,g.ifs,0⟩∧notSet g.iter=true:=by
 have h:=(Bool.and_eq_true _ _▸h:_∧_)
 obtain ⟨t,i,f,a⟩:=g
 exact ⟨by rw [show a=0 from of_decide_eq_true h.1],h.2⟩
theorem cLc.ok (ih:Ok c m f) (G:Glo c gs bs) {elt:Expr} {gens:List Comprehension} {sc:Scope} (h:cLc f names gs bs elt gens sc k=some code):scopeOk names sc=true∧LcS c m names gs bs elt gens sc k code:=by
 obtain ⟨hs,h⟩:=onlyIf_ok h
 refine ⟨hs,?_⟩
 cases gens with
 | nil=>exact nope h
 | cons g gr=>
  obtain ⟨hg,h⟩:=onlyIf_ok h
  obtain ⟨e,hn⟩:=genOk.ok hg
  cases gr with
  | nil=>
   obtain ⟨b,hb,h⟩:=bnd h
   obtain ⟨b',ht,h⟩:=bnd h
   exact ⟨_,_,_,_,congrArg (·::[]) e,hn,fun pos fm F st ρ H K hw=>cLc1.ok ih G hs hb ht h F hw⟩
  | cons g1 gr=>
   obtain ⟨hq,h⟩:=onlyIf_ok h
   rw [Bool.and_eq_true,Bool.and_eq_true] at hq
   obtain ⟨e1,hn1⟩:=genOk.ok hq.1
   obtain ⟨b,hb,h⟩:=bnd h
   obtain ⟨b',ht,h⟩:=bnd h
   obtain ⟨p,hp,h⟩:=bnd h
   obtain ⟨p',ht0,h⟩:=bnd h
   rw [List.isEmpty_iff.mp hq.2.1] at e
   exact ⟨_,_,_,_,(congrArg (·::g1::gr) e).trans (congrArg (_::·) (congr (congrArg List.cons e1) (List.isEmpty_iff.mp hq.2.2))),hn,fun pos fm F st ρ H K hw=>cLc2.ok ih G hs hn1 hb ht hp ht0 h F hw⟩
end
end Mine
namespace Mine
section
variable {c:Cx} {m:Nat} {gs bs:Tab2} {names:Names} {k code:Code}
theorem cBinS {f:Comp} (ih:Ok c m f) {l r:Expr} {op:Operator} {p:Pos} {x:Code} (h1:f names (.e r) (.bin op k)=some x) (h2:f names (.e l) x=some code):Snd c m names (.e (.BinOp l op r p)) k code:=fun {fm} F {st ρ H K} hw=>
 TE.bin (Q:=fun v H'=>w c m k (v::st) ρ H' K) (TG.mono (ih.e h2 F hw) fun v H1 q=>TG.mono (ih.e h1 F q) fun u H2 q=>wBin.ok q)
theorem cIfS {f:Comp} (ih:Ok c m f) {t a b:Expr} {p:Pos} {ca cb:Code} (h1:f names (.e a) .done=some ca) (h2:f names (.e b) .done=some cb) (h3:f names (.t t) (.ite ca cb k)=some code):Snd c m names (.e (.IfExp t a b p)) k code:=fun {fm} F {st ρ H K} hw=>by
 show TE c m fm ρ H _ fun v H'=>w c m k (v::st) ρ H' K
 refine TE.ifExp (TG.mono (ih.t h3 F hw) fun z H1 q=>?_)
 cases z with
 | true=>exact ih.e h1 F (K:=KT.thn (fun st ρ H=>w c m k st ρ H K) K) q
 | false=>exact ih.e h2 F (K:=KT.thn (fun st ρ H=>w c m k st ρ H K) K) q
theorem cAttrS {f:Comp} (ih:Ok c m f) {o:Expr} {mm:Str} {p:Pos} (h1:notCall o=true) (h2:f names (.e o) (.attr mm k)=some code):Snd c m names (.e (.Attribute o mm p)) k code:=fun {fm} F {st ρ H K} hw=>
 TE.attr (Q:=fun v H'=>w c m k (v::st) ρ H' K) h1 (TG.mono (ih.e h2 F hw) fun v H1 q=>q)
theorem cListS {f:Comp} (ih:Ok c m f) {es:List Expr} {p:Pos} (h1:decide (es.length≤1000)=true) (h2:f names (.es es) (.lst es.length k)=some code):Snd c m names (.e (.List es p)) k code:=fun {fm} F {st ρ H K} hw=>
 TE.list (Q:=fun v H'=>w c m k (v::st) ρ H' K) fun pp=>(ih.es h2 F hw pp).mono fun vs H1 q=>⟨by rw [q.1]; exact Nat.le_trans (of_decide_eq_true h1) (by decide),pN_args (P:=fun vs st=>∀ D,H1 D=none→w c m k (.ref D::st) ρ (H1.set D (.list vs)) K) q.1 q.2⟩
theorem cTupS {f:Comp} (ih:Ok c m f) {es:List Expr} {j:Nat} {p:Pos} (h1:decide (es.length≤1000)=true) (h2:f names (.es es) (.tup es.length k)=some code):Snd c m names (.e (.Tuple es j p)) k code:=fun {fm} F {st ρ H K} hw=>
 TE.tuple (Q:=fun v H'=>w c m k (v::st) ρ H' K) fun pp=>(ih.es h2 F hw pp).mono fun vs H1 q=>⟨by rw [q.1]; exact Nat.le_trans (of_decide_eq_true h1) (by decide),pN_args (P:=fun vs st=>∀ D,H1 D=none→w c m k (.ref D::st) ρ (H1.set D (.tup vs)) K) q.1 q.2⟩
theorem cLcS {elt:Expr} {gens:List Comprehension} {sc:Scope} {p:Pos} (hs:scopeOk names sc=true) (h:LcS c m names gs bs elt gens sc k code):Snd c m names (.e (.ListComp elt gens sc p)) k code:=by
 obtain ⟨tg,it,ifs,gr,rfl,hn,q⟩:=h
 exact fun {fm} F {st ρ H K} hw=>TE.lc (Q:=fun v H'=>w c m k (v::st) ρ H' K) F (scopeOk.ok hs).1 (scopeOk.ok hs).2.1 (scopeOk.ok hs).2.2.2 (q p _ F st ρ H K hw) (notSet.ok hn)
theorem cValS {f:Comp} (ih:Ok c m f) {x:Expr} (h:f names (.e x) (.tru k)=some code) (he:∀ env whole,isTrue x env whole=(do let v ← whole; standAt x.pos; holding [v] (truthy v))):Snd c m names (.t x) k code:=fun {fm} F {st ρ H K} hw=>
 TB.val (TG.mono (ih.e h F hw) fun v H1 q=>wTruth.ok (show wTruth c m (er v) H1 fun z H'=>pB z fun b=>w c m k (.bool b::st) ρ H' K from q)) he
theorem cConsS {f:Comp} (ih:Ok c m f) {e:Expr} {es:List Expr} {x:Code} (h1:plainArg e=true) (h2:f names (.es es) k=some x) (h3:f names (.e e) x=some code):Snd c m names (.es (e::es)) k code:=fun {fm} F {st ρ H K} hw=>by
 show TArgs c m fm ρ H (e::es) fun vs H'=>vs.length=(e::es).length∧w c m k (pushA vs st) ρ H' K
 exact TArgs.cons (TG.mono (ih.e h3 F hw) fun v H1 q pp=>(ih.es h2 F q pp).mono fun vs H2 q=>⟨congrArg Nat.succ q.1,q.2⟩) h1
theorem cNilS:Snd c m names (.es []) k k:=fun {fm} F {st ρ H K} hw=>by
 show TArgs c m fm ρ H [] fun vs H'=>vs.length=0∧w c m k (pushA vs st) ρ H' K
 exact TArgs.nil ⟨rfl,hw⟩
theorem comp_e {f:Comp} (ih:Ok c m f) (G:Glo c gs bs) {n:Nat} (hf:f=comp gs bs n) {x:Expr} (h:comp gs bs (n + 1) names (.e x) k=some code):Snd c m names (.e x) k code:=by
 subst hf
 cases x with
 | Name x p=>exact cName.ok G h
 | Constant v j p=>exact cConst.ok h
 | BinOp l op r p=>exact (bnd h).elim fun x q=>cBinS ih q.1 q.2
 | Compare l ops rs p=>exact cCmp.ok ih h
 | UnaryOp op x p=>exact cUn.ok ih h
 | BoolOp op es p=>exact cBo.ok ih h
 | IfExp t a b p=>exact (bnd h).elim fun ca q=>(bnd q.2).elim fun cb v=>cIfS ih q.1 v.1 v.2
 | Call fn es kw p=>
  cases kw with
  | nil=>exact cCall.ok ih h
  | cons _ _=>exact nope h
 | Attribute o mm p=>exact cAttrS ih (onlyIf_ok h).1 (onlyIf_ok h).2
 | Subscript o i p=>exact cSub.ok ih h
 | List es p=>exact cListS ih (onlyIf_ok h).1 (onlyIf_ok h).2
 | Tuple es j p=>exact cTupS ih (onlyIf_ok h).1 (onlyIf_ok h).2
 | Dict ks vs p=>exact cDic.ok ih h
 | ListComp elt gens sc p=>exact cLcS (cLc.ok ih G h).1 (cLc.ok ih G h).2
 | _=>exact nope h
theorem comp_t {f:Comp} (ih:Ok c m f) {n:Nat} (hf:f=comp gs bs n) {x:Expr} (h:comp gs bs (n + 1) names (.t x) k=some code):Snd c m names (.t x) k code:=by
 subst hf
 cases x with
 | Compare l ops rs p=>exact cChn.ok ih h
 | UnaryOp op x p=>
  cases op with
  | Not=>exact fun {fm} F {st ρ H K} hw=>TB.not (Q:=fun b H'=>w c m k (.bool b::st) ρ H' K) (TG.mono (ih.t h F hw) fun b H1 q=>q)
  | _=>exact nope h
 | BoolOp op es p=>exact fun {fm} F {st ρ H K} hw=>TB.boolOp (Q:=fun b H'=>w c m k (.bool b::st) ρ H' K) (ih.all h F hw)
 | Name x p=>exact cValS ih h fun _ _=>rfl
 | Call fn es kw p=>exact cValS ih h fun _ _=>rfl
 | Attribute o mm p=>exact cValS ih h fun _ _=>rfl
 | Subscript o i p=>exact cValS ih h fun _ _=>rfl
 | BinOp l op r p=>exact cValS ih h fun _ _=>rfl
 | ListComp a b d p=>exact cValS ih h fun _ _=>rfl
 | _=>exact nope h
theorem comp_go (G:Glo c gs bs):∀ (n:Nat) (names:Names) (j:Job) (k code:Code),comp gs bs n names j k=some code→Snd c m names j k code
 | 0,_,_,_,_,h=>nomatch h
 | n + 1,names,j,k,code,h=>by
  have ih:Ok c m (comp gs bs n):=@fun names j k code h=>comp_go G n names j k code h
  cases j with
  | e x=>exact comp_e ih G rfl h
  | t x=>exact comp_t ih rfl h
  | es xs=>
   cases xs with
   | nil=>exact (Option.some.inj h)▸cNilS
   | cons e es=>exact (bnd (onlyIf_ok h).2).elim fun x q=>cConsS ih (onlyIf_ok h).1 q.1 q.2
  | all op xs=>exact cAll.ok ih h
theorem comp_ok (G:Glo c gs bs) (n:Nat):Ok c m (comp gs bs n):=@fun names j k code h=>comp_go G n names j k code h
end
noncomputable def notComp:Expr→Bool
 | .ListComp ..=>false
 | .SetComp ..=>false
 | .DictComp ..=>false
 | _=>true
noncomputable def notTup:Expr→Bool
 | .Tuple ..=>false
 | _=>true
theorem nob {P:Prop} (h:true=false):P:=nomatch h
theorem notComp.ok {e:Expr} (h:notComp e=true) (t:Option Expr) (l:Nat) (env:Env):swapsWith e t l env=pure false:=by
 cases e <;> first | rfl | exact nob h.symm
theorem notTup.ok {e:Expr} (h:notTup e=true) {ts:List Expr} {j:Nat} {p:Pos} {env:Env}:swappedStores [.Tuple ts j p] e env=pure none:=by
 cases e <;> first | rfl | exact nob h.symm
theorem and2 {a b:Bool} (h:(a && b)=true):a=true∧b=true:=(Bool.and_eq_true a b).mp h
noncomputable abbrev Comps:=Names→List Stmt→Code→Option Code
noncomputable def swapOk (names:Names) (x:Str) (p:Pos):Expr→Bool
 | .ListComp _ _ sc q=>p.line == q.line && !(sc.names.any fun (n,k)=>n == x && (k == .local || k == .cell)) && (names.lookup x == some .local)
 | _=>false
noncomputable def cAsg (f:Comp) (names:Names) (t v:Expr) (k:Code):Option Code:=match t with
 | .Name x p=>(cSt (fun _=>true) names x k).bind fun k=>onlyIf (notComp v || swapOk names x p v || (names.lookup x == some .cell)) (f names (.e v) k)
 | .Subscript o i _=>onlyIf (notComp v) ((f names (.e i) (.ssub k)).bind fun k=>(f names (.e o) k).bind (f names (.e v)))
 | .Attribute o m _=>onlyIf (notComp v) ((f names (.e o) (.sattr m k)).bind (f names (.e v)))
 | .Tuple ts _ _=>onlyIf (notComp v && notTup v) ((cSts (fun _=>true) names ts k).bind fun k=>f names (.e v) (.unp ts.length k))
 | _=>none
noncomputable def asSub:Expr→Option (Expr × Expr × Pos)
 | .Subscript o i p=>some (o,i,p)
 | _=>none
theorem asSub.ok {e:Expr} {q:Expr × Expr × Pos} (h:asSub e=some q):e=.Subscript q.1 q.2.1 q.2.2:=by
 unfold asSub at h
 split at h
 ·cases h; rfl
 ·cases h
noncomputable def asSli:Expr→Option (Expr × Pos)
 | .Slice (some e) none none p=>some (e,p)
 | _=>none
theorem asSli.ok {e:Expr} {q:Expr × Pos} (h:asSli e=some q):e=.Slice (some q.1) none none q.2:=by
 unfold asSli at h
 split at h
 ·cases h; rfl
 ·cases h
noncomputable def cDel (f:Comp) (names:Names) (t:Expr) (k:Code):Option Code:=(asSub t).bind fun q=>match asSli q.2.1 with
 | some e=>(f names (.e e.1) (.dsl k)).bind (f names (.e q.1))
 | none=>onlyIf (notSlice q.2.1) ((f names (.e q.2.1) (.dsub k)).bind (f names (.e q.1)))
noncomputable def cStm (f:Comp) (g:Comps) (names:Names) (gs bs:Tab2) (s:Stmt) (k:Code):Option Code:=match s with
 | .Return (some e) _=>f names (.e e) .ret
 | .If t a b _=>(g names a .done).bind fun a=>(g names b .done).bind fun b=>f names (.t t) (.ite a b k)
 | .Expr e _=>onlyIf (notComp e) (f names (.e e) (.pop k))
 | .Assign [t] v _=>cAsg f names t v k
 | .AugAssign t op e _=>(asName t).bind fun x=>(cSt (fun _=>true) names x.1 k).bind fun k=>(f names (.e e) (.inp op k)).bind fun k=>some (.ld (names.findIdx fun p=>p.1 == x.1) k)
 | .Delete [t] _=>cDel f names t k
 | .For tg it b e _=>onlyIf (notSet it) ((g names b .done).bind fun b=>(cTg (fun _=>true) names (kdOf names gs bs it).1.z tg b).bind fun b=>(g names e .done).bind fun e=>cIt f names gs bs it (.loop (kdOf names gs bs it).1 (kdOf names gs bs it).2.length b e k))
 | .While t b [] _=>(f names (.t t) .done).bind fun t=>(g names b .done).bind fun b=>some (.whil t b k)
 | .Break _=>some .brk
 | .Continue _=>some .cont
 | _=>none
noncomputable def comps (gs bs:Tab2):Nat→Comps
 | 0,_,_,_=>none
 | n + 1,names,ss,k=>match ss with
  | []=>some k
  | s::r=>(comps gs bs n names r k).bind (cStm (comp gs bs n) (comps gs bs n) names gs bs s)
section
variable {c:Cx} {m:Nat} {gs bs:Tab2} {names:Names} {k code:Code} {fm:Fm} {f:Comp} {g:Comps} {ρ:Loc} {H:AH} {K:KT}
theorem cSt.at {x:Str} {k1:Code} (hc:∀ x,fm.own x=true) (h1:cSt (fun _=>true) names x k=some k1):∃ kd,names[names.findIdx fun p=>p.1 == x]?=some (x,kd)∧(kd=.local∨(kd=.cell∧fm.own x=true))∧k1=.st (names.findIdx fun p=>p.1 == x) k:=by
 unfold cSt at h1
 cases e:names.lookup x with
 | none=>rw [e] at h1; cases h1
 | some kd=>
  rw [e] at h1
  cases kd with
  | «local»=>cases h1; exact ⟨_,lookup_at e,.inl rfl,rfl⟩
  | cell=>cases h1; exact ⟨_,lookup_at e,.inr ⟨rfl,hc _⟩,rfl⟩
  | _=>cases h1
noncomputable def aft (c:Cx) (m:Nat) (k:Code) (K:KT):Fl→Loc→AH→Prop
 | .next,ρ,H=>w c m k [] ρ H K
 | fl,ρ,H=>K fl [] ρ H
noncomputable abbrev OkS (c:Cx) (m:Nat) (g:Comps):Prop:=∀ {names ss k code},g names ss k=some code→∀ {fm},Fe fm names→(∀ x,fm.own x=true)→∀ {ρ H K},w c m code [] ρ H K→TXs c m fm ρ H ss (aft c m k K)
theorem aft_thn {fl:Fl} {g:List V→Loc→AH→Prop} (q:aft c m .done (KT.thn g K) fl ρ H) (hg:g [] ρ H→w c m k [] ρ H K):aft c m k K fl ρ H:=by cases fl <;> first | exact hg q | exact q
theorem aft_turn {fl:Fl} {Inv:Loc→AH→Prop} (q:aft c m .done (turn Inv (KT.thn (fun _ ρ H=>w c m k [] ρ H K) K)) fl ρ H):turnF Inv (aft c m k K) fl ρ H:=by cases fl <;> exact q
theorem isLc {v:Expr} {n:Nat} (hn:notComp v=false) (h:comp gs bs n names (.e v) k=some code):∃ elt gens sc q,v=.ListComp elt gens sc q:=by
 cases n with
 | zero=>exact nope h
 | succ n=>cases v with
  | ListComp elt gens sc q=>exact ⟨elt,gens,sc,q,rfl⟩
  | SetComp _ _ _ _=>exact nope h
  | DictComp _ _ _ _ _=>exact nope h
  | _=>exact nob hn
theorem swaps_lc {elt:Expr} {gens:List Comprehension} {sc:Scope} {q p:Pos} {x:Str} {l:Nat} (F:Fe fm names) {i:Nat} {kd:NameKind} (hi:names[i]?=some (x,kd)) {b:Bool} (hb:((kd == .local) && (p.line == q.line && !(sc.names.any fun (n,k)=>n == x && (k == .local || k == .cell))))=b) :
  swapsWith (.ListComp elt gens sc q) (some (.Name x p)) l fm.env=pure b:=by
 show pure (fm.env.blockKind == .function && fm.env.kindOf x == some .local && p.line == q.line && !(sc.names.any fun (n,k)=>n == x && (k == .local || k == .cell)))=(pure b:PySem.Sem Bool)
 rw [F.kind hi,show fm.env.blockKind=.function by unfold Env.blockKind; rw [F.fn]; rfl,Bool.and_assoc,← hb]
 rfl
noncomputable def SndS (c:Cx) (m:Nat) (names:Names) (s:Stmt) (k code:Code):Prop:=∀ (fm:Fm),Fe fm names→(∀ x,fm.own x=true)→∀ (ρ:Loc) (H:AH) (K:KT),w c m code [] ρ H K→TX c m fm ρ H s (aft c m k K)
theorem cAsgP (ih:Ok c m f) {x:Str} {p:Pos} {v:Expr} {pos:Pos} {k1:Code} (h1:cSt (fun _=>true) names x k=some k1) (h2:f names (.e v) k1=some code) (hs:∀ fm,Fe fm names→(∀ x,fm.own x=true)→swapsWith v (some (.Name x p)) pos.line fm.env=pure false):SndS c m names (.Assign [.Name x p] v pos) k code:=fun fm F hc ρ H K hw=>by
 obtain ⟨kd,hi,hkd,rfl⟩:=cSt.at (hc:=hc) h1
 exact TX.asg F hi hkd (TG.mono (ih.e h2 F hw) fun v H1 q=>q) (hs fm F hc)
theorem cAsgN.ok (ih:Ok c m f) (G:Glo c gs bs) (hf:∃ n,f=comp gs bs n) {x:Str} {p:Pos} {v:Expr} {pos:Pos} (h:cAsg f names (.Name x p) v k=some code):SndS c m names (.Assign [.Name x p] v pos) k code:=by
 obtain ⟨k1,h1,h⟩:=bnd (show (cSt (fun _=>true) names x k).bind _=some code from h)
 obtain ⟨hb,h2⟩:=onlyIf_ok h
 cases hn:notComp v with
 | true=>exact cAsgP ih h1 h2 fun fm _ _=>notComp.ok hn ..
 | false=>
  obtain ⟨n,rfl⟩:=hf
  obtain ⟨elt,gens,sc,q,rfl⟩:=isLc hn h2
  rw [hn,Bool.false_or] at hb
  by_cases hl:names.lookup x=some .local
  ·cases n with
   | zero=>cases h2
   | succ n=>
    obtain ⟨hs,tg,it,ifs,gr,rfl,hns,hq⟩:=cLc.ok (comp_ok G n) G (show cLc _ names gs bs elt gens sc k1=some code from h2)
    refine fun fm F hc ρ H K hw=>?_
    obtain ⟨kd,hi,_,rfl⟩:=cSt.at (hc:=hc) h1
    obtain rfl:kd=.local:=Option.some.inj ((lookup_of_at F.nd hi).symm.trans hl)
    rw [hl] at hb
    exact TX.asgC F hi (scopeOk.ok hs).1 (scopeOk.ok hs).2.1 (scopeOk.ok hs).2.2.2 (swaps_lc F hi (and2 ((Bool.or_false _).symm.trans hb)).1) (hq q fm F [] ρ H K hw) (notSet.ok hns)
  ·refine cAsgP ih h1 h2 fun fm F hc=>?_
   obtain ⟨kd,hi,hkd,_⟩:=cSt.at (hc:=hc) h1
   have hl':=lookup_of_at F.nd hi
   rcases hkd with rfl | ⟨rfl,_⟩
   ·exact absurd hl' hl
   ·exact swaps_lc F hi rfl
theorem cAsg.ok (ih:Ok c m f) (G:Glo c gs bs) (hf:∃ n,f=comp gs bs n) {t v:Expr} {pos:Pos} (h:cAsg f names t v k=some code):SndS c m names (.Assign [t] v pos) k code:=by
 cases t with
 | Name x p=>exact cAsgN.ok ih G hf h
 | Subscript o i p=>
  exact (bnd (onlyIf_ok h).2).elim fun k1 w=>(bnd w.2).elim fun k2 u=>fun fm F hc ρ H K hw=>TX.assignSub (TG.mono (ih.e u.2 F hw) fun v H1 q=>TG.mono (ih.e u.1 F q) fun o H2 q=>TG.mono (ih.e w.1 F q) fun i H3 q=>q) (notComp.ok (onlyIf_ok h).1 ..)
 | Attribute o mm p=>
  exact (bnd (onlyIf_ok h).2).elim fun k1 w=>fun fm F hc ρ H K hw=>TX.assignAttr (TG.mono (ih.e w.2 F hw) fun v H1 q=>TG.mono (ih.e w.1 F q) fun o H2 q=>q) (notComp.ok (onlyIf_ok h).1 ..)
 | Tuple ts j p=>
  refine (bnd (onlyIf_ok h).2).elim fun k1 u=>fun fm F hc ρ H K hw=>?_
  have hn:=and2 (onlyIf_ok h).1
  refine TX.assign1 (TG.mono (ih.e u.2 F hw) fun v H1 q=>?_) (notComp.ok hn.1 (some (.Tuple ts j p)) pos.line fm.env) (notTup.ok hn.2) rfl
  obtain ⟨l,vs,e,e1,e2,q⟩:=(show ∃ l vs,er v=.ref l∧H1 l=some (.tup vs)∧vs.length=ts.length∧w c m k1 (vs++[]) ρ H1 K from q)
  rw [e]
  exact TA.tuple e1 (cSts.all u.1) e2 (cSts.ok F (fun x _=>hc x) ts u.1 e2 q)
 | _=>exact nope h
theorem cDel1.ok (ih:Ok c m f) {o i:Expr} {p pos:Pos} (h:onlyIf (notSlice i) ((f names (.e i) (.dsub k)).bind (f names (.e o)))=some code):SndS c m names (.Delete [.Subscript o i p] pos) k code:=
 (bnd (onlyIf_ok h).2).elim fun x u=>fun fm F hc ρ H K hw=>TX.del1 (TG.mono (ih.e u.2 F hw) fun v H1 q=>TG.mono (ih.e u.1 F q) fun u H2 q=>q)
theorem cDel.ok (ih:Ok c m f) {t:Expr} {pos:Pos} (h:cDel f names t k=some code):SndS c m names (.Delete [t] pos) k code:=by
 obtain ⟨⟨o,i,p⟩,h1,h'⟩:=bnd h
 clear h
 obtain rfl:=asSub.ok h1
 clear h1
 cases e:asSli i with
 | none=>exact cDel1.ok ih (show _=some code by rw [show asSli (o,i,p).2.1=none from e] at h'; exact h')
 | some lo=>
  rw [show asSli (o,i,p).2.1=some lo from e] at h'
  obtain rfl:=asSli.ok e
  exact (bnd h').elim fun x u=>fun fm F hc ρ H K hw=>TX.delS (TG.mono (ih.e u.2 F hw) fun v H1 q=>TG.mono (ih.e u.1 F q) fun u H2 q=>q)
theorem cIfStm (ih:Ok c m f) (ihs:OkS c m g) {t:Expr} {a b:List Stmt} {p:Pos} {ca cb:Code} (h1:g names a .done=some ca) (h2:g names b .done=some cb) (h3:f names (.t t) (.ite ca cb k)=some code):SndS c m names (.If t a b p) k code:=fun fm F hc ρ H K hw=>by
 refine TX.ite (TG.mono (ih.t h3 F hw) fun z H1 q=>?_)
 cases z with
 | true=>exact TF.mono (ihs h1 F hc q) fun fl ρ' H' q=>aft_thn q fun q=>q
 | false=>exact TF.mono (ihs h2 F hc q) fun fl ρ' H' q=>aft_thn q fun q=>q
theorem cAug (ih:Ok c m f) {x:Str} {p1 p:Pos} {op:Operator} {e:Expr} {k1 k2:Code} (h1:cSt (fun _=>true) names x k=some k1) (h2:f names (.e e) (.inp op k1)=some k2):SndS c m names (.AugAssign (.Name x p1) op e p) k (.ld (names.findIdx fun p=>p.1 == x) k2):=fun fm F hc ρ H K hw=>by
 have hw:pO (ρ.at (names.findIdx fun p=>p.1 == x)) fun v=>w c m k2 [v] ρ H K:=hw
 cases hv:ρ.at (names.findIdx fun p=>p.1 == x) with
 | none=>rw [hv] at hw; exact hw.elim
 | some v=>
  rw [hv] at hw
  obtain ⟨kd,hi,hkd,rfl⟩:=cSt.at (hc:=hc) h1
  exact TX.aug F hi hkd hv (TG.mono (ih.e h2 F hw) fun u H1 q=>wInp.ok q)
theorem cFor (ih:Ok c m f) (ihs:OkS c m g) (G:Glo c gs bs) {tg it:Expr} {b e:List Stmt} {p:Pos} {cb ct ce:Code} (hn:notSet it=true) (h1:g names b .done=some cb) (h2:cTg (fun _=>true) names (kdOf names gs bs it).1.z tg cb=some ct) (h3:g names e .done=some ce)
  (h4:cIt f names gs bs it (.loop (kdOf names gs bs it).1 (kdOf names gs bs it).2.length ct ce k)=some code):SndS c m names (.For tg it b e p) k code:=fun fm F hc ρ H K hw=>by
 refine TX.for (iter_ok ih G F h4 (fun q=>cTg.tup (q▸h2)) hw fun args H1 hl q=>?_) (notSet.ok hn)
 have held:∀ H',(∃ items src Inv,LoopW H' (kdOf names gs bs it).1 args items src Inv ρ (fun i xs ρ H=>w c m ct xs ρ H (turn (Inv (i + 1)) (KT.thn (fun _ ρ H=>w c m k [] ρ H K) K))) fun ρ H=>w c m ce [] ρ H (KT.thn (fun _ ρ H=>w c m k [] ρ H K) K))→
   ∃ items src,IterV H' (kdOf names gs bs it).1 args items src∧∃ Inv,Inv 0 ρ H'∧LoopT c m fm tg (kdOf names gs bs it).1.z b e (aft c m k K) Inv items src:=fun H' q=>q.imp fun items q=>q.imp fun src q=>q.elim fun Inv W=>
  ⟨W.iter,Inv,W.h0,W.src,fun i xs ρ' H' hx hi v A Z s hr R I=>wpAny_mono (cTg.ok (q:=fun _=>true) F (fun x _=>hc x) h2 (W.step i xs ρ' H' hx hi) v A Z s hr R I) (fun _ s' u=>u.imp fun ρ3 u=>u.imp fun H3 u=>⟨u.1,TF.mono (ihs h1 F hc u.2) fun fl ρ' H' q=>aft_turn q⟩) fun _ _ e=>e,
  fun ρ' H' hi=>TF.mono (ihs h3 F hc (W.fin ρ' H' hi)) fun fl ρ' H' q=>aft_thn q fun q=>q⟩
 exact (pN_args hl q).imp (held _) fun q=>q.imp fun d q=>q.imp fun es q=>⟨q.1,fun ep=>held _ (q.2 ep)⟩
theorem cWhl (ih:Ok c m f) (ihs:OkS c m g) {t:Expr} {b:List Stmt} {p:Pos} {ct cb:Code} (h1:f names (.t t) .done=some ct) (h2:g names b .done=some cb):SndS c m names (.While t b [] p) k (.whil ct cb k):=fun fm F hc ρ H K hw=>by
 obtain ⟨Inv,h0,step⟩:=(show ∃ Inv:Nat→Loc→AH→Prop,(∃ m,Inv m ρ H)∧_ from hw)
 refine TX.while h0 ⟨fun m' ρ' H' hi=>TG.mono (ih.t h1 F (step m' ρ' H' hi)) fun z H1 q=>?_⟩
 cases z with
 | true=>exact TF.mono (ihs h2 F hc q) fun fl ρ' H' q=>aft_turn q
 | false=>exact TXs.nil q
theorem cStm.ok (ih:Ok c m f) (ihs:OkS c m g) (G:Glo c gs bs) (hf:∃ n,f=comp gs bs n) {s:Stmt} (h:cStm f g names gs bs s k=some code):SndS c m names s k code:=by
 cases s with
 | Return v p=>
  cases v with
  | none=>exact nope h
  | some e=>exact fun fm F hc ρ H K hw=>TX.ret (TG.mono (ih.e h F hw) fun v H1 q=>q)
 | If t a b p=>exact (bnd h).elim fun ca u=>(bnd u.2).elim fun cb v=>cIfStm ih ihs u.1 v.1 v.2
 | Expr e p=>exact fun fm F hc ρ H K hw=>TX.expr F (TG.mono (ih.e (onlyIf_ok h).2 F hw) fun v H1 q=>q) (notComp.ok (onlyIf_ok h).1 ..)
 | Assign ts v p=>
  cases ts with
  | nil=>exact nope h
  | cons t ts=>cases ts with
   | nil=>exact cAsg.ok ih G hf h
   | cons=>exact nope h
 | AugAssign t op e p=>
  obtain ⟨q,h1,h'⟩:=bnd h
  clear h
  obtain rfl:=asName.ok h1
  exact (bnd h').elim fun k1 u=>(bnd u.2).elim fun k2 v=>(Option.some.inj v.2)▸cAug ih u.1 v.1
 | Delete ts p=>
  cases ts with
  | nil=>exact nope h
  | cons t ts=>cases ts with
   | nil=>exact cDel.ok ih h
   | cons=>exact nope h
 | For tg it b e p=>exact (bnd (onlyIf_ok h).2).elim fun cb u=>(bnd u.2).elim fun ct v=>(bnd v.2).elim fun ce x=>cFor ih ihs G (onlyIf_ok h).1 u.1 v.1 x.1 x.2
 | While t b e p=>
  cases e with
  | cons=>exact nope h
  | nil=>exact (bnd h).elim fun ct u=>(bnd u.2).elim fun cb v=>(Option.some.inj v.2)▸cWhl ih ihs u.1 v.1
 | Break p=>cases h; exact fun fm F hc ρ H K hw=>TX.brk hw
 | Continue p=>cases h; exact fun fm F hc ρ H K hw=>TX.cont hw
 | _=>exact nope h
theorem comps_ok (G:Glo c gs bs):∀ n:Nat,OkS c m (comps gs bs n)
 | 0,_,_,_,_,h,_,_,_,_,_,_,_=>nomatch h
 | n + 1,names,ss,k,code,h,fm,F,hc,ρ,H,K,hw=>by
  cases ss with
  | nil=>cases h; exact TXs.nil hw
  | cons s r=>
   obtain ⟨k1,h1,h2⟩:=bnd h
   exact TXs.cons (P:=fun ρ' H'=>w c m k1 [] ρ' H' K) (TF.mono (cStm.ok (comp_ok G n) (fun {_ _ _ _}=>@comps_ok G n _ _ _ _) G ⟨n,rfl⟩ h2 fm F hc ρ H K hw) fun fl ρ' H' q=>by cases fl <;> exact q) fun ρ' H' q=>comps_ok G n h1 F hc q
end
end Mine
namespace Mine
noncomputable abbrev CW (c:Cx) (Z:Froz) (Q:V→AH→Prop):Result→Shared→Prop:=wants (PQ c Z fun r=>Q (er r)) BOT
structure CallC (c:Cx) (n:Nat) (f:V) (args:List V) (H:AH) (Q:V→AH→Prop):Prop where
 go:∀ fv vs,er fv=f→vs.map er=args→∀ A Z s,Room n A→Rel c Z H s→codeAny c.M A (.call fv ⟨vs,[]⟩) (CW c Z Q) s
theorem Room.deeper {n:Nat} {A:Around} {env:Env} (r:Room (n + 1) A):Room n (A.deeper env):=⟨room_lt (j:=1) r.depth (by decide),room_lt (j:=3) r.units (by decide),r.handled⟩
theorem Room.in1 {n:Nat} {A:Around} (r:Room (n + 1) A):Room n A.in1:=⟨room_lt (j:=0) r.depth (by decide),room_lt (j:=1) r.units (by decide),r.handled⟩
noncomputable def start:Nat→List V→Loc
 | 0,_=>[]
 | n + 1,v::vs=>some v::start n vs
 | n + 1,[]=>none::start n []
theorem start_len:∀ (n:Nat) (vs:List V),(start n vs).length=n
 | 0,_=>rfl
 | n + 1,_::vs=>congrArg Nat.succ (start_len n vs)
 | n + 1,[]=>congrArg Nat.succ (start_len n [])
noncomputable abbrev binds (names:Names) (ws:List Value):List (Str × Value):=(names.map (·.1)).zip ws
theorem start_at {names:Names} {x:Str} {k:NameKind}:∀ {ws:List Value} {i:Nat},(names.map (·.1)).Nodup→names[i]?=some (x,k)→((binds names ws).lookup x).map er=(start names.length (ws.map er)).at i:=by
 induction names with
 | nil=>intro ws i _ e; cases e
 | cons p r ih=>
  intro ws i nd e
  cases ws with
  | nil=>
   have:∀ n i,(start n []).at i=none:=fun n=>by
    induction n with
    | zero=>intro i; rfl
    | succ n ih=>intro i; cases i with | zero=>rfl | succ i=>exact ih i
   show ((binds (p::r) []).lookup x).map er=(start (r.length + 1) []).at i
   rw [this]; rfl
  | cons w ws=>
   cases i with
   | zero=>
    cases e
    show (List.lookup x ((x,w)::binds r ws)).map er=some (er w)
    rw [List.lookup_cons_self]; rfl
   | succ i=>
    have nd:=List.nodup_cons.mp (show (p.1::r.map (·.1)).Nodup from nd)
    show (List.lookup x ((p.1,w)::binds r ws)).map er=(start r.length (ws.map er)).at i
    rw [List.lookup_cons,beq_eq_false_iff_ne.mpr fun q:x=p.1=>nd.1 (q▸List.mem_map.mpr ⟨_,List.mem_of_getElem? (l:=r) e,rfl⟩)]
    exact ih nd.2 e
theorem binds_fst:∀ (names:Names) (ws:List Value),(binds names ws).map (·.1)=(names.take ws.length).map (·.1)
 | [],_=>by rw [List.take_nil]; rfl
 | p::r,[]=>rfl
 | p::r,w::ws=>congrArg (p.1::·) (binds_fst r ws)
theorem bindL_none {kindOf:Str→Option NameKind} {x:Str}:∀ (b:List (Str × Value)) (m:Str→Option Value),x∉b.map (·.1)→bindL kindOf b m x=m x∧bindC kindOf b m x=m x
 | [],m,_=>⟨rfl,rfl⟩
 | (y,v)::r,m,h=>by
  have h1:x≠y:=fun q=>h (q▸List.mem_cons_self)
  have ih:=fun m=>bindL_none (kindOf:=kindOf) r m fun q=>h (List.mem_cons_of_mem _ q)
  unfold bindL bindC
  rw [(ih _).1,(ih _).2]
  by_cases k:kindOf y=some .local
  ·rw [if_pos k,if_pos k]; exact ⟨if_neg h1,rfl⟩
  ·rw [if_neg k,if_neg k]; exact ⟨rfl,if_neg h1⟩
theorem bind_at {kindOf:Str→Option NameKind} {x:Str}:∀ (b:List (Str × Value)) (m:Str→Option Value),m x=none→(b.map (·.1)).Nodup→(kindOf x=some .local→bindL kindOf b m x=b.lookup x)∧(kindOf x=some .cell→bindC kindOf b m x=b.lookup x)
 | [],m,hm,_=>⟨fun _=>hm,fun _=>hm⟩
 | (y,v)::r,m,hm,nd=>by
  have nd:=List.nodup_cons.mp (show (y::r.map (·.1)).Nodup from nd)
  unfold bindL bindC
  by_cases q:x=y
  ·subst q
   rw [(bindL_none r _ nd.1).1,(bindL_none r _ nd.1).2,List.lookup_cons_self]
   exact ⟨fun k=>by rw [if_pos k]; exact if_pos rfl,fun k=>by rw [if_neg (by rw [k]; decide)]; exact if_pos rfl⟩
  ·rw [List.lookup_cons,beq_eq_false_iff_ne.mpr q]
   refine ⟨fun k=>(bind_at r _ ?_ nd.2).1 k,fun k=>(bind_at r _ ?_ nd.2).2 k⟩
   ·by_cases k:kindOf y=some .local
    ·rw [if_pos k]; exact (if_neg q).trans hm
    ·rw [if_neg k]; exact hm
   ·by_cases k:kindOf y=some .local
    ·rw [if_pos k]; exact hm
    ·rw [if_neg k]; exact (if_neg q).trans hm
structure FnOk (K:Frag) (gs bs:Tab2) (fd:FuncData) (np:Nat):Prop where
 g:fd.globals=mainGlobals
 b:fd.builtins=builtinsNs
 cl:fd.closure=[]
 k:fd.scope.kind=.function
 co:fd.scope.isCoroutine=false
 gen:fd.scope.isGenerator=false
 nd:(fd.scope.names.map (·.1)).Nodup
 pl:∀ p∈fd.scope.names,PlainName p.1
 own:∀ p∈fd.scope.names.take np,p.2=.local∨p.2=.cell
 nf:∀ p∈fd.scope.names,p.2≠.free
 np:np≤fd.scope.names.length
 cd:codeIn K fd.code fd.qualname=true
noncomputable def fnOk (K:Frag) (fd:FuncData) (np:Nat):Bool:=
 fd.globals == mainGlobals && (fd.builtins == builtinsNs && (fd.closure.isEmpty && (fd.scope.kind == .function && (!fd.scope.isCoroutine && (!fd.scope.isGenerator && (decide (fd.scope.names.map (·.1)).Nodup && (decide (∀ p∈fd.scope.names,PlainName p.1) &&
  (decide (∀ p∈fd.scope.names.take np,p.2=.local∨p.2=.cell) && (decide (∀ p∈fd.scope.names,p.2≠.free) && (Nat.ble np fd.scope.names.length && codeIn K fd.code fd.qualname))))))))))
theorem fnOk.ok {K:Frag} {gs bs:Tab2} {fd:FuncData} {np:Nat} (h:fnOk K fd np=true):FnOk K gs bs fd np:=
 have h1:=(and2 h).2; have h2:=(and2 h1).2; have h3:=(and2 h2).2; have h4:=(and2 h3).2; have h5:=(and2 h4).2; have h6:=(and2 h5).2; have h7:=(and2 h6).2; have h8:=(and2 h7).2; have h9:=(and2 h8).2; have h10:=(and2 h9).2
 ⟨beq_iff_eq.mp (and2 h).1,beq_iff_eq.mp (and2 h1).1,List.isEmpty_iff.mp (and2 h2).1,beq_iff_eq.mp (and2 h3).1,Bool.not_eq_true' _▸(and2 h4).1,Bool.not_eq_true' _▸(and2 h5).1,of_decide_eq_true (and2 h6).1,of_decide_eq_true (and2 h7).1,of_decide_eq_true (and2 h8).1,of_decide_eq_true (and2 h9).1,Nat.le_of_ble_eq_true (and2 h10).1,(and2 h10).2⟩
noncomputable def fdOf (K:Frag) (f:Addr):Option FuncData:=match K.lookup f with
 | some ⟨_,_,.func fd,_⟩=>some fd
 | _=>none
theorem fdOf.ok {K:Frag} {f:Addr} {fd:FuncData} (h:fdOf K f=some fd):keepIn K (.ref f)=true∧∃ o,K.lookup f=some o∧o.data=.func fd:=by
 unfold fdOf at h
 cases e:K.lookup f with
 | none=>rw [e] at h; cases h
 | some o=>
  rw [e] at h
  obtain ⟨oc,od,dt,sl⟩:=o
  cases dt with
  | func fd'=>cases h; exact ⟨by unfold keepIn; dsimp only; rw [e],_,rfl,rfl⟩
  | _=>cases h
noncomputable def fmOf (fd:FuncData) (L f:Addr):Fm:=⟨newEnv fd.scope L mainGlobals (cellsFrom (L + 1) fd.scope.names []) (fd.qualname++".<locals>.") (some f) fd.code none builtinsNs,fun _=>true⟩
noncomputable def BindK (K:Frag) (f:Addr) (dfl:List Value):Nat→List Value→Prop
 | 0,a=>∀ S,((fdOf K f).bind fun fd=>peek K S (bindArgs fd ⟨a.reverse,[]⟩))=(fdOf K f).map fun fd=>binds fd.scope.names (a.reverse++dfl)
 | n + 1,a=>∀ v,BindK K f dfl n (v::a)
theorem BindK.all {K:Frag} {f:Addr} {fd:FuncData} {dfl:List Value} (e:fdOf K f=some fd) {n:Nat}:∀ {a vs:List Value},BindK K f dfl n a→vs.length=n→∀ S,peek K S (bindArgs fd ⟨a.reverse++vs,[]⟩)=some (binds fd.scope.names (a.reverse++vs++dfl)):=by
 induction n with
 | zero=>
  intro a vs h hl
  cases vs with
  | cons=>cases hl
  | nil=>
   unfold BindK at h
   rw [e] at h
   rw [List.append_nil]; exact h
 | succ n ih=>
  intro a vs h hl
  cases vs with
  | nil=>cases hl
  | cons v vs=>
   have:=ih (a:=v::a) (vs:=vs) (h v) (Nat.succ.inj hl)
   rw [List.reverse_cons,List.append_assoc] at this
   exact this
noncomputable def fnC (K:Frag) (gs bs:Tab2) (f:Addr) (np:Nat):Option (Nat × Code):=match fdOf K f with
 | some fd=>match fd.body with
  | .stmts b=>match fnOk K fd np with
   | true=>(comps gs bs 60 fd.scope.names b .done).map fun k=>(fd.scope.names.length,k)
   | false=>none
  | _=>none
 | none=>none
noncomputable def endK (Q:V→AH→Prop):KT:=fun fl _ _ H=>∃ H',Sub H' H∧Q fl.val H'
section
variable {c:Cx} {n np:Nat} {H:AH} {gs bs:Tab2} {f:Addr} {fd:FuncData} {body:List Stmt} {args:List V} {dfl:List Value} {Q:V→AH→Prop}
theorem Fe.fn' {K:Frag} (F:FnOk K gs bs fd np) {L f:Addr}:Fe (fmOf fd L f) fd.scope.names:=⟨rfl,F.k,rfl,rfl,F.nd,F.pl⟩
theorem CallC.fnG (e:fdOf c.K f=some fd) (eb:fd.body=.stmts body) (F:FnOk c.K gs bs fd (args.length + dfl.length)) (B:BindK c.K f dfl args.length []) {Qf:Addr→Fl→Loc→AH→Prop}
  (h:∀ L,TXs c n (fmOf fd L f) (start fd.scope.names.length (args++dfl.map er)) H body (Qf L))
  (hend:∀ L Z s fl ρ' H',RelF c Z (fmOf fd L f) ρ' H' s→Qf L fl ρ' H'→PQ c Z (fun r=>Q r) fl.val s):CallC c (n + 1) (.ref f) args H Q:=by
 refine ⟨fun fv vs e1 e2 A Z s hr R=>?_⟩
 obtain rfl:=er_ref e1
 obtain ⟨_,o,ho,hd⟩:=fdOf.ok e
 have hl:vs.length=args.length:=by rw [← e2,List.length_map]
 have hws:(vs++dfl).length=args.length + dfl.length:=by rw [List.length_append,hl]
 have hst:(vs++dfl).map er=args++dfl.map er:=by rw [List.map_append,e2]
 have nb:((binds fd.scope.names (vs++dfl)).map (·.1)).Nodup:=binds_fst _ _▸F.nd.sublist ((List.take_sublist ..).map _)
 refine codeAny_call_function (Room.dp hr) (R.KIn _ _ ho) hd F.co F.gen eb (codeRec_of R.KIn F.cd) (kp_binds (binds:=binds fd.scope.names (vs++dfl)) R.KIn (B.all e hl) _ _ _ _ ?_)
 rw [F.g,F.b,F.cl]
 refine wpAny_newFunctionEnv_cells F.k (fun x hx=>?_) fun env he s' x=>?_
 ·have hm:x.1∈(binds fd.scope.names (vs++dfl)).map (·.1):=List.mem_map.mpr ⟨x,hx,rfl⟩
  rw [binds_fst,hws] at hm
  obtain ⟨p,hp,hp2⟩:=List.mem_map.mp hm
  have hp3:=List.mem_of_mem_take hp
  obtain ⟨j,hj⟩:=List.mem_iff_getElem?.mp hp3
  rw [← hp2,lookup_of_at F.nd (k:=p.2) hj]
  exact (F.own p hp).imp (congrArg some) fun e=>⟨congrArg some e,cellsFrom_some' _ _ _ (.inl (e▸hp3))⟩
 ·subst he
  refine ⟨R.nolimit.keeps x.toInCall.keep,codeAny_func ?_⟩
  obtain ⟨h₁,tk,rfl,_⟩:=x.done
  have keep:=x.toInCall.keep
  have new:∀ b,s.heap.objs.size≤b→Pv c Z b∧H b=none:=fun b hb=>⟨R.fresh (get?_ge_none hb),R.freshH (get?_ge_none hb)⟩
  have RF:RelF c Z (fmOf fd s.heap.objs.size f) (start fd.scope.names.length (args++dfl.map er)) H ⟨h₁,s.gens,s.drawn,tk,s.os⟩:=by
   refine ⟨R.stays keep,start_len _ _,⟨_,x.toInCall.ns,fun i y hy=>?_⟩,fun i y k hy hk=>?_,(new _ (Nat.le_refl _)).2,(new _ (Nat.le_refl _)).1,fun _ i j y z k a hy hz hk ey ez=>name_of_addr x.apart (mem_of_lookup ey) (mem_of_lookup ez)⟩
   ·have hy':fd.scope.names[i]?=some (y,.local):=hy
    exact (congrArg (Option.map er) ((bind_at _ (fun _=>none) rfl nb).1 (lookup_of_at F.nd hy'))).trans ((start_at F.nd hy').trans (by rw [hst]))
   ·have hy':fd.scope.names[i]?=some (y,k):=hy
    have hm:=List.mem_of_getElem? hy'
    obtain rfl:=hk.resolve_right (F.nf _ hm)
    obtain ⟨a,ha⟩:=Option.isSome_iff_exists.mp (cellsFrom_some' fd.scope.names (s.heap.objs.size + 1) [] (.inl hm))
    have hge:=(cellsFrom_ge _ _ _ (mem_of_lookup ha)).resolve_left fun q=>nomatch q
    have N:=new a (Nat.le_of_succ_le hge)
    exact ⟨a,_,ha,x.cell y a ha,(congrArg (Option.map er) ((bind_at _ (fun _=>none) rfl nb).2 (lookup_of_at F.nd hy'))).trans ((start_at F.nd hy').trans (by rw [hst])),N.2,Nat.ne_of_gt hge,N.1.t,fun _ _=>N.1⟩
  refine wpAny_mono (h s.heap.objs.size (A.deeper _) Z _ hr.deeper RF) (fun fl s2 q=>q.elim fun ρ' q=>q.elim fun H' q=>?_) fun _ _ e=>e.elim
  have:=hend _ Z s2 _ ρ' H' q.1 q.2
  cases fl <;> exact this
theorem CallC.call {a:Addr} (hk:keepIn c.K (.ref a)=true) (h:CallC c n (.ref a) args H Q):CallV c n (.ref a) args H Q:=
 ⟨fun Z s fv e R=>by obtain rfl:=er_ref e; exact (looks_keep hk R.KIn).imp fun k q=>q.2,fun fv vs e1 e2 A Z s hr R=>wpAny_call (codeAny_mono (h.go fv vs e1 e2 A Z s hr R) fun r s' x=>x)⟩
theorem CallC.fn (G:Glo c gs bs) {nl:Nat} {code:Code} (e:fnC c.K gs bs f (args.length + dfl.length)=some (nl,code)) (B:BindK c.K f dfl args.length []) (h:w c n code [] (start nl (args++dfl.map er)) H (endK Q)):CallC c (n + 1) (.ref f) args H Q∧keepIn c.K (.ref f)=true:=by
 unfold fnC at e
 cases e1:fdOf c.K f with
 | none=>rw [e1] at e; cases e
 | some fd=>
  rw [e1] at e
  dsimp only at e
  cases e2:fd.body with
  | stmts b=>
   rw [e2] at e
   dsimp only at e
   cases e3:fnOk c.K fd (args.length + dfl.length) with
   | false=>rw [e3] at e; cases e
   | true=>
    rw [e3] at e
    dsimp only at e
    obtain ⟨k,hk,e⟩:=Option.map_eq_some_iff.mp e
    cases e
    have F:FnOk c.K gs bs fd (args.length + dfl.length):=fnOk.ok e3
    exact ⟨.fnG e1 e2 F B (fun L=>comps_ok G _ hk (Fe.fn' F) (fun _=>rfl) h) fun L Z s fl ρ' H' R q=>(show ∃ H'',Sub H'' H'∧Q fl.val H'' by cases fl <;> exact q).imp fun H'' q=>⟨R.rel.weaken q.1,q.2⟩,(fdOf.ok e1).1⟩
  | _=>rw [e2] at e; cases e
end
end Mine
namespace Mine
section
variable {c:Cx} {n:Nat} {H:AH} {l:Addr} {vs:List V} {Q:V→AH→Prop} {k:SK} {A:Around} {Z:Froz} {s:Shared}
structure SeqAt (k:SK) (s:Shared) (l:Addr) (vs:List V) (xs:List Value) (m:Nat):Prop where
 e:s.heap.get? l=some (seqOb k xs m)
 er:xs.map er=vs
 le:vs.length≤100000
 len:xs.length=vs.length
theorem Rel.seqAt (R:Rel c Z H s) (e:H l=some (.seq k vs)):∃ xs m,SeqAt k s l vs xs m:=(R.seq e).imp fun xs q=>q.imp fun m q=>⟨q.1,q.2.1,q.2.2,by rw [← q.2.1,List.length_map]⟩
theorem lt63 {k:Nat} (h:k≤100000):((k:Nat):Int) < 2 ^ 63:=Int.lt_of_le_of_lt (Int.ofNat_le.mpr h) (by decide)
theorem SeqAt.lt63 {xs:List Value} {m:Nat} (S:SeqAt k s l vs xs m):((xs.toArray.size:Nat):Int) < 2 ^ 63:=Mine.lt63 (by rw [List.size_toArray,S.len]; exact S.le)
theorem Rel.newSeq {k:SK} {xs:List Value} {m:Nat} (R:Rel c Z H s) (e:xs.map er=vs) (hl:vs.length≤100000):Rel c Z (H.set s.heap.objs.size (.seq k vs)) { s with heap:=s.heap.push (seqOb k xs m) }:=
 R.new (get?_size_none _) (fun b ob e=>Heap.get?_push_of_some _ e) ⟨_,Heap.get?_push_size _ rfl,hl,xs,m,rfl,e⟩
theorem Rel.setSeq {xs:List Value} {m tk:Nat} {us:List V} {h':Heap} {dr:Drawn} (R:Rel c Z H s) (e:H l=some (.seq k vs)) (hl:us.length≤100000) (g:h'.get? l=some (seqOb k xs m)) (ex:xs.map er=us) (hb:Heap.ExtBut l s.heap h'):Rel c Z (H.set l (.seq k us)) ⟨h',s.gens,dr,tk,s.os⟩:=
 R.upd e (fun b ob w e=>hb b ob w e) ⟨_,g,hl,xs,m,rfl,ex⟩
theorem CallV.bs {id:String} {args:List V} (e:H l=some (.seq k vs)) (h:∀ ws A Z s xs m,Room n A→Rel c Z H s→SeqAt k s l vs xs m→ws.map er=args→wpAny c.M A (PySem.call (.builtin id) (.ref l::ws) []) (PQ c Z fun r=>Q (er r)) BOT s):CallV c n (.oth (.builtin id)) (.ref l::args) H Q:=
 .b fun ws A Z s hr R e2=>by
  obtain ⟨x,r,rfl,e3,e4⟩:=er_cons e2
  obtain rfl:=er_ref e3
  obtain ⟨xs,m,S⟩:=R.seqAt e
  exact h r A Z s xs m hr R S e4
theorem CallV.len (e:H l=some (.list vs)) (h:Q (.int vs.length) H):CallV c n (.oth (.builtin "len")) [.ref l] H Q:=.bs e fun ws A Z s xs m hr R S e2=>by
 cases List.map_eq_nil_iff.mp e2
 exact call_len_list ⟨_,S.e,rfl,_,rfl⟩ S.lt63 ⟨H,R.toks,by show Q (.int ((xs.toArray.size:Nat):Int)) H; rw [List.size_toArray,S.len]; exact h⟩
theorem TruthT.list (e:H l=some (.list vs)) (h:Q (.bool (!vs.isEmpty)) H):TruthT c n (.ref l) H Q:=⟨fun v e1 A Z s hr R=>by
 obtain rfl:=er_ref e1
 obtain ⟨xs,m,S⟩:=R.seqAt e
 exact wpAny_truthy_list ⟨_,S.e,rfl,_,rfl⟩ S.lt63 ⟨H,R.toks,by rw [show (!xs.toArray.isEmpty)=!vs.isEmpty by rw [← S.er]; cases xs <;> rfl]; exact h⟩⟩
theorem inPython_type {M:Model} {E:Value→Shared→Prop} {v:Value} {T id:String} {Q:Bool→Shared→Prop} (hT:s.TypeIs v T) (slot:Slot T "__getitem__" id) (h:Q false s):wpAny M A (getitemInPython v) Q E s:=by
 unfold getitemInPython
 exact wpAny_bind (wpAny_specialOf hT slot.lookup (wpAny_pure h))
theorem SeqAt.at {xs:List Value} {m i:Nat} {x:V} (S:SeqAt k s l vs xs m) (hx:vs[i]?=some x):∃ y,xs.toArray[i]?=some y∧Mine.er y=x:=by
 have hx:=S.er▸hx
 rw [List.getElem?_map] at hx
 exact (Option.map_eq_some_iff.mp hx).imp fun y q=>⟨by rw [List.getElem?_toArray]; exact q.1,q.2⟩
theorem ItemT.list {i:Nat} {x:V} (e:H l=some (.list vs)) (hx:vs[i]?=some x) (h:Q x H):ItemT c n (.ref l) (.int i) H Q:=⟨fun rv ri e1 e2 A Z s hr R=>by
 obtain rfl:=er_ref e1
 obtain ⟨t,rfl⟩:=er_int e2
 obtain ⟨xs,m,S⟩:=R.seqAt e
 obtain ⟨y,hy,rfl⟩:=S.at hx
 have hi:((i:Nat):Int) < 2 ^ 63:=Mine.lt63 (Nat.le_trans (Nat.le_of_lt (List.getElem?_eq_some_iff.mp hx).1) S.le)
 exact inPython_type ⟨_,S.e,rfl⟩ slot_list_getitem ⟨rfl,wpAny_getItem_list ⟨_,S.e,rfl,_,rfl⟩ (Int.natCast_nonneg i) hi hy ⟨H,R,h⟩⟩⟩
theorem ItemT.tup {i:Nat} {x:V} (e:H l=some (.tup vs)) (hx:vs[i]?=some x) (h:Q x H):ItemT c n (.ref l) (.int i) H Q:=⟨fun rv ri e1 e2 A Z s hr R=>by
 obtain rfl:=er_ref e1
 obtain ⟨t,rfl⟩:=er_int e2
 obtain ⟨xs,m,S⟩:=R.seqAt e
 obtain ⟨y,hy,rfl⟩:=S.at hx
 have hlt:=(List.getElem?_eq_some_iff.mp hx).1
 have hi:((i:Nat):Int) < 2 ^ 63:=Mine.lt63 (Nat.le_trans (Nat.le_of_lt hlt) S.le)
 have hk:seqIndex? i xs.toArray.size=some i:=by
  unfold seqIndex?
  rw [List.size_toArray,S.len]
  dsimp only
  rw [if_neg (Int.not_lt.mpr (Int.natCast_nonneg i)),if_pos (by simpa using hlt)]; rfl
 exact inPython_type ⟨_,S.e,rfl⟩ F.slot_tuple_getitem ⟨rfl,P.getItem_tuple S.e (Int.le_trans (by decide) (Int.natCast_nonneg i)) hi hk hy ⟨H,R,h⟩⟩⟩
theorem GetX.list {name:Str} {id:String} (e:H l=some (.list vs)) (slot:Slot "list" name id) (hty:typeOf (.builtin id)=pure (.type "method_descriptor")):GetX c n (.ref l) name H (.builtin id) true:=fun raw e1 A Z s pl hr R Q h=>by
 obtain rfl:=er_ref e1
 obtain ⟨xs,m,S⟩:=R.seqAt e
 exact getMethod_builtin ⟨_,S.e,rfl⟩ F.plainAttrs_list slot hty (fun a ha=>by cases ha; exact ⟨_,S.e,rfl⟩) (h s.toks)
theorem CallV.append {x:V} (e:H l=some (.list vs)) (hl:vs.length < 100000) (h:Q .none (H.set l (.list (vs++[x])))):CallV c n (.oth (.builtin "list.append")) [.ref l,x] H Q:=.bs e fun ws A Z s xs m hr R S e2=>by
 obtain ⟨b,rfl,rfl⟩:=er_1 e2
 have hl2:(vs++[er b]).length≤100000:=by rw [List.length_append]; exact hl
 exact call_append S.e (by rw [S.len]; exact Nat.le_of_lt hl) fun h' hD hb=>⟨_,R.setSeq e hl2 hD (by rw [List.map_append,S.er]; rfl) hb.extBut,h⟩
theorem CallV.pop {y:V} (e:H l=some (.list (vs++[y]))) (h:Q y (H.set l (.list vs))):CallV c n (.oth (.builtin "list.pop")) [.ref l] H Q:=.bs e fun ws A Z s xs m hr R S e2=>by
 cases List.map_eq_nil_iff.mp e2
 obtain ⟨us,v,rfl,e3⟩:∃ us v,xs=us++[v]∧us.map er=vs∧er v=y:=by
  obtain ⟨us,r,rfl,e3,e4⟩:=List.map_eq_append_iff.mp S.er
  obtain ⟨v,rfl,e5⟩:=er_1 e4
  exact ⟨us,v,rfl,e3,e5⟩
 have hle:us.length + 1≤100000:=by have h:=S.le; rw [← S.len,List.length_append] at h; exact h
 refine call_meets F.slot_list_pop ⟨_,S.e,rfl⟩ F.entry_list_pop (F.args_list_pop_1 _) (MeetsSeq.list_pop_last l (us++[v]).toArray m v (by simp) (by rw [List.size_toArray,List.length_append]; exact le_sizeLine hle)) ⟨S.e,_,R.setSeq (xs:=us) (m:=m + 1) e ?_ ?_ e3.1 fun b ob w q=>(Heap.get?_update_other _ _ (Ne.symm w)).trans q,by show Q (er v) _; rw [e3.2]; exact h⟩
 ·rw [← e3.1,List.length_map]; exact Nat.le_of_succ_le hle
 ·rw [Heap.get?_update_self _ S.e rfl]
  have:(us++[v]).toArray.eraseIdxIfInBounds ((us++[v]).toArray.size - 1)=us.toArray:=by simp [List.eraseIdx_append_of_length_le (Nat.le_refl us.length)]
  show some (Obj.mapSeq _ _)=_
  unfold Obj.mapSeq
  dsimp only
  rw [this]
  simp
end
end Mine
namespace Mine
theorem sliceRange_one (a b:Int):sliceRange a b 1=(List.range (b - a).toNat).map fun (k:Nat)=>(a + (k:Int)).toNat:=by
 unfold sliceRange
 by_cases h:a < b
 ·simp only [h,if_true,show (1:Int) > 0 by decide]
  simp
 ·simp only [h,if_false,show (1:Int) > 0 by decide,if_true]
  rw [Int.toNat_of_nonpos (Int.sub_nonpos_of_le (Int.not_lt.mp h))]; rfl
noncomputable def clip (i:Int) (n:Nat):Nat:=(max 0 (min (if i < 0 then i + n else i) n)).toNat
noncomputable def clipLo (lo:Option Int) (n:Nat):Nat:=match lo with
 | none=>0
 | some i=>clip i n
noncomputable def clipHi (hi:Option Int) (n:Nat):Nat:=match hi with
 | none=>n
 | some i=>clip i n
theorem clip_le (i:Int) (n:Nat):clip i n≤n∧((clip i n:Nat):Int)=max 0 (min (if i < 0 then i + n else i) n):=⟨Int.toNat_le.mpr (Int.max_le.mpr ⟨Int.natCast_nonneg n,Int.min_le_right ..⟩),Int.toNat_of_nonneg (Int.le_max_left ..)⟩
theorem neg_add_nat {d n:Nat} (h:d≤n):-(d:Int) + n=((n - d:Nat):Int):=by rw [Int.add_comm,← Int.sub_eq_add_neg,← Int.ofNat_sub h]
theorem clip_nat {k n:Nat} (h:k≤n):max 0 (min (k:Int) (n:Int))=(k:Int):=by rw [Int.min_eq_left (Int.ofNat_le.mpr h),Int.max_eq_right (Int.natCast_nonneg k)]
theorem filterMap_range_drop {α:Type} (xs:List α) (a k:Nat) (h:a + k≤xs.length):((List.range k).map fun (j:Nat)=>((a:Int) + (j:Int)).toNat).filterMap (fun i=>xs[i]?)=(xs.drop a).take k:=by
 induction k with
 | zero=>rfl
 | succ k ih=>
  rw [List.range_succ,List.map_append,List.filterMap_append,ih (Nat.le_of_succ_le h),List.take_add_one]
  congr 1
  show List.filterMap _ [(((a:Int) + (k:Nat)).toNat)]=_
  rw [show ((a:Int) + (k:Nat)).toNat=a + k from Int.toNat_natCast (a + k),List.getElem?_drop]
  show (match xs[a + k]? with | none=>[] | some b=>[b])=_
  cases xs[a + k]? <;> rfl
theorem slicePick_one (xs:List Value) (lo hi:Option Int):slicePick xs.toArray lo hi none=((xs.take (clipHi hi xs.length)).drop (clipLo lo xs.length)).toArray:=by
 unfold slicePick
 congr 1
 have hb:sliceBounds lo hi none xs.toArray.size=(((clipLo lo xs.length:Nat):Int),((clipHi hi xs.length:Nat):Int),(1:Int)):=by
  unfold sliceBounds
  rw [List.size_toArray]
  simp only [Option.getD_none,show (1:Int) > 0 by decide,if_true]
  refine Prod.ext ?_ (Prod.ext ?_ rfl)
  ·cases lo with
   | none=>rfl
   | some i=>exact (clip_le i xs.length).2.symm
  ·cases hi with
   | none=>rfl
   | some i=>exact (clip_le i xs.length).2.symm
 rw [hb,sliceRange_one,show (fun i:Nat=>xs.toArray[i]?)=fun i=>xs[i]? from funext fun i=>List.getElem?_toArray ..]
 have h1:clipHi hi xs.length≤xs.length:=by
  cases hi with
  | none=>exact Nat.le_refl _
  | some i=>exact (clip_le i _).1
 rcases Nat.le_total (clipLo lo xs.length) (clipHi hi xs.length) with hab | hab
 ·rw [Int.toNat_sub,filterMap_range_drop _ _ _ (by rw [Nat.add_sub_cancel' hab]; exact h1),List.drop_take]
 ·rw [Int.toNat_sub,Nat.sub_eq_zero_of_le hab,List.drop_eq_nil_of_le (by rw [List.length_take]; exact Nat.le_trans (Nat.min_le_left ..) hab)]; rfl
noncomputable def optInt:V→Option (Option Int)
 | .none=>some none
 | .int i=>some (some i)
 | _=>none
theorem isPart_of {v:Value} {k:Option Int} (h:optInt (er v)=some k):IsPart v k:=by
 cases v with
 | none=>cases h; exact .none
 | int i t=>cases h; exact .int i t
 | _=>cases h
noncomputable abbrev cut {α:Type} (lo hi:Option Int) (vs:List α):List α:=(vs.take (clipHi hi vs.length)).drop (clipLo lo vs.length)
theorem cut_le {α:Type} {lo hi:Option Int} {vs:List α} {n:Nat} (h:vs.length≤n):(cut lo hi vs).length≤n:=by
 rw [List.length_drop,List.length_take]; exact Nat.le_trans (Nat.sub_le ..) (Nat.le_trans (Nat.min_le_right ..) h)
theorem cut_er {lo hi:Option Int} {xs:List Value} {vs:List V} (h:xs.map er=vs):(cut lo hi xs).map er=cut lo hi vs:=by
 rw [← h,List.map_drop,List.map_take]
 show _=((xs.map er).take (clipHi hi (xs.map er).length)).drop (clipLo lo (xs.map er).length)
 rw [List.length_map]
theorem cut_all {α:Type} (vs:List α):cut none none vs=vs:=List.take_length
section
variable {c:Cx} {n:Nat} {H:AH} {l:Addr} {vs:List V} {Q:V→AH→Prop} {A:Around} {Z:Froz} {s:Shared}
theorem SliceT.list {lo up:V} {a b:Option Int} (e:H l=some (.list vs)) (hlo:optInt lo=some a) (hup:optInt up=some b) (h:∀ D,H D=none→Q (.ref D) (H.set D (.list (cut a b vs)))):SliceT c n (.ref l) lo up H Q:=⟨fun rv rl ru e1 e2 e3 A Z s sl hr R hsl=>by
 obtain rfl:=er_ref e1
 obtain ⟨xs,m,S⟩:=R.seqAt e
 refine inPython_type ⟨_,S.e,rfl⟩ slot_list_getitem ⟨rfl,?_⟩
 refine wpAny_getItem_list_slice (lo:=a) (hi:=b) (st:=none) ⟨_,S.e,rfl,_,rfl⟩ ⟨_,hsl,rfl,rfl⟩ (isPart_of (e2▸hlo)) (isPart_of (e3▸hup)) .none (by decide) ?_ (by rw [List.size_toArray,S.len]; exact le_sizeLine S.le)
 rw [slicePick_one]
 exact ⟨_,R.newSeq (k:=.list) (m:=0) (cut_er S.er) (cut_le S.le),h _ (R.freshH (get?_size_none _))⟩⟩
theorem SliceT.copy (e:H l=some (.list vs)) (h:∀ D,H D=none→Q (.ref D) (H.set D (.list vs))):SliceT c n (.ref l) .none .none H Q:=.list (a:=none) (b:=none) e rfl rfl (by rw [cut_all]; exact h)
theorem BinT.addTup {a b:Addr} {vs us:List V} (e1:H a=some (.tup vs)) (e2:H b=some (.tup us)) (hv:vs≠[]) (hu:us≠[]) (hl:vs.length + us.length≤100000) (h:∀ D,H D=none→Q (.ref D) (H.set D (.tup (vs++us)))):BinT c n .Add (.ref a) (.ref b) H Q:=⟨fun v u ev eu A Z s hr R=>by
 obtain rfl:=er_ref ev
 obtain rfl:=er_ref eu
 obtain ⟨xs,m,S⟩:=R.seqAt e1
 obtain ⟨ys,m',T⟩:=R.seqAt e2
 have ne:∀ {zs:List Value} {ws:List V},zs.map er=ws→ws≠[]→¬ zs.toArray.isEmpty=true:=fun q w z=>w (by rw [← q,List.map_eq_nil_iff]; exact List.isEmpty_iff.mp ((List.isEmpty_toArray ..).symm.trans z))
 have hl2:(vs++us).length≤100000:=by rw [List.length_append]; exact hl
 refine P.add_tuple S.e T.e (ne S.er hv) (ne T.er hu) ?_ (by rw [List.size_toArray,List.size_toArray,S.len,T.len]; exact le_sizeLine hl)
 rw [show xs.toArray++ys.toArray=(xs++ys).toArray from List.append_toArray ..]
 exact ⟨_,R.newSeq (k:=.tup) (m:=0) (by rw [List.map_append,S.er,T.er]) hl2,h _ (R.freshH (get?_size_none _))⟩⟩
end
end Mine
namespace Mine
noncomputable def vAt (es:List (Int × V)) (k:Int):Option V:=(es.find? fun p=>p.1=k).map (·.2)
noncomputable def dput (es:List (Int × V)) (k:Int) (v:V):List (Int × V):=if es.any (fun p=>p.1=k) then es.map (fun p=>if p.1=k then (p.1,v) else p) else es++[(k,v)]
noncomputable def ddel (es:List (Int × V)) (k:Int):List (Int × V):=es.filter fun p=>decide (p.1≠k)
theorem vAt_er (kvs:List (Int × Value)) (k:Int):vAt (kvs.map erp) k=(valueAt kvs k).map er:=by
 unfold vAt valueAt
 rw [List.find?_map,Option.map_map,Option.map_map]; rfl
theorem dput_er (kvs:List (Int × Value)) (k:Int) (v:Value):dput (kvs.map erp) k (er v)=(stored kvs k v).map erp:=by
 unfold dput stored
 rw [List.any_map]
 show (if kvs.any (fun p=>decide (p.1=k))=true then _ else _)=_
 by_cases h:kvs.any (fun p=>decide (p.1=k))=true
 ·rw [if_pos h,if_pos h,List.map_map,List.map_map]
  exact List.map_congr_left fun p _=>(apply_ite erp (p.1=k) (p.1,v) p).symm
 ·rw [if_neg h,if_neg h,List.map_append]; rfl
theorem ddel_er (kvs:List (Int × Value)) (k:Int):ddel (kvs.map erp) k=(without kvs k).map erp:=by
 unfold ddel without
 rw [List.filter_map]; rfl
theorem is_int {c:Cx} {i:Int} {t:Tok}:(intKind c.prog c.w).is i (.int i t)=true:=intKind_is _ _ _ _
section
variable {c:Cx} {n:Nat} {H:AH} {d:Addr} {es:List (Int × V)} {Q:V→AH→Prop} {ep:Option Nat} {A:Around} {Z:Froz} {s:Shared}
structure DicAt (c:Cx) (s:Shared) (d:Addr) (es:List (Int × V)) (kvs:List (Int × Value)):Prop where
 e:s.heap.DictOf (intKind c.prog c.w) d kvs
 er:kvs.map erp=es
 le:kvs.length≤100000
 nm:(d == sysModules)=false
theorem Rel.dic (R:Rel c Z H s) (e:H d=some (.dict es ep)):∃ kvs,DicAt c s d es kvs:=
 (R.real d _ e).elim fun ob q=>q.2.2.imp fun kvs w=>⟨by
  have w:=w.1 _ q.1
  cases ep with
  | none=>exact w
  | some ep=>exact PySem.Heap.DictAt.dictOf w,w.2,by have:=q.2.1; rw [← w.2,List.length_map] at this; exact this,R.notModules e⟩
theorem Rel.setDic {h':Heap} {tk:Nat} {dr:Drawn} {kvs:List (Int × Value)} (R:Rel c Z H s) (e:H d=some (.dict es ep)) (hk:h'.DictOf (intKind c.prog c.w) d kvs) (hs:Heap.SameBut d s.heap h') (hl:kvs.length≤100000):Rel c Z (H.set d (.dict (kvs.map erp) none)) ⟨h',s.gens,dr,tk,s.os⟩:=
 R.upd e (fun b ob w e=>hs.extBut b ob w e) (Real.dict (ep:=none) hk hl)
theorem ItemT.dict {k:Int} {v:V} (e:H d=some (.dict es ep)) (hv:vAt es k=some v) (h:Q v H):ItemT c n (.ref d) (.int k) H Q:=⟨fun rv ri e1 e2 A Z s hr R=>by
 obtain rfl:=er_ref e1
 obtain ⟨t,rfl⟩:=er_int e2
 obtain ⟨kvs,D⟩:=R.dic e
 rw [← D.er,vAt_er] at hv
 obtain ⟨y,hy,rfl⟩:=Option.map_eq_some_iff.mp hv
 exact inPython_type D.e.typeIs slot_dict_getitem ⟨rfl,wpAny_getItem_of (knd:=intKind c.prog c.w) is_int D.e.mapOf hy ⟨H,R.toks,h⟩⟩⟩
theorem CmpT.inDict {k:Int} (e:H d=some (.dict es ep)) (h:Q (.bool (vAt es k).isSome) H):CmpT c n .In (.int k) (.ref d) H Q:=⟨fun ri rv e2 e1 A Z s hr R=>by
 obtain rfl:=er_ref e1
 obtain ⟨t,rfl⟩:=er_int e2
 obtain ⟨kvs,D⟩:=R.dic e
 rw [← D.er,vAt_er,Option.isSome_map] at h
 exact wpAny_in_of (knd:=intKind c.prog c.w) is_int D.nm D.e.mapOf ⟨H,R.toks,h⟩⟩
theorem CmpT.notInDict {k:Int} (e:H d=some (.dict es ep)) (h:Q (.bool (!(vAt es k).isSome)) H):CmpT c n .NotIn (.int k) (.ref d) H Q:=⟨fun ri rv e2 e1 A Z s hr R=>by
 obtain rfl:=er_ref e1
 obtain ⟨t,rfl⟩:=er_int e2
 obtain ⟨kvs,D⟩:=R.dic e
 rw [← D.er,vAt_er,Option.isSome_map] at h
 exact wpAny_notIn_of (knd:=intKind c.prog c.w) is_int D.nm D.e.mapOf ⟨H,R.toks,h⟩⟩
theorem GetX.dict {name:Str} {id:String} (e:H d=some (.dict es ep)) (slot:Slot "dict" name id) (hty:typeOf (.builtin id)=pure (.type "method_descriptor")):GetX c n (.ref d) name H (.builtin id) true:=fun raw e1 A Z s pl hr R Q h=>by
 obtain rfl:=er_ref e1
 obtain ⟨kvs,D⟩:=R.dic e
 exact getMethod_builtin D.e.typeIs F.plainAttrs_dict slot hty D.e.mapOf.noDict (h s.toks)
theorem CallV.get {k:Int} {v:V} (e:H d=some (.dict es ep)) (h:Q ((vAt es k).getD v) H):CallV c n (.oth (.builtin "dict.get")) [.ref d,.int k,v] H Q:=.b fun ws A Z s hr R e2=>by
 obtain ⟨a,r,rfl,e3,e2⟩:=er_cons e2
 obtain ⟨b,x,rfl,e4,rfl⟩:=er_2 e2
 obtain rfl:=er_ref e3
 obtain ⟨t,rfl⟩:=er_int e4
 obtain ⟨kvs,D⟩:=R.dic e
 refine call_meetsIn F.slot_dict_get D.e.typeIs F.entry_dict_get (F.args_dict_get_3 _ _ _) (meets_dict_get_default (intKind c.prog c.w) d is_int D.nm x) ⟨_,D.e.mapOf,H,R.toks,?_⟩
 rw [← D.er,vAt_er] at h
 show Q (er ((valueAt kvs k).getD x)) H
 cases hq:valueAt kvs k <;> (rw [hq] at h; exact h)
theorem SetT.dict {k:Int} {v:V} (e:H d=some (.dict es ep)) (hl:es.length < 100000) (h:Q .none (H.set d (.dict (dput es k v) none))):SetT c n (.ref d) (.int k) v H Q:=⟨fun ro ri rv e1 e2 e3 A Z s hr R=>by
 obtain rfl:=er_ref e1
 obtain ⟨t,rfl⟩:=er_int e2
 obtain ⟨kvs,D⟩:=R.dic e
 rw [← D.er,List.length_map] at hl
 refine wpAny_setItem_pairs (knd:=intKind c.prog c.w) is_int D.e (fun h' hk hs=>⟨_,R.setDic e hk hs (Nat.le_trans (stored_length_le kvs k rv) hl),?_⟩) (le_sizeLine D.le)
 rw [← dput_er,D.er,e3]; exact h⟩
theorem DelT.dict {k:Int} (e:H d=some (.dict es ep)) (hv:(vAt es k).isSome=true) (h:Q .none (H.set d (.dict (ddel es k) none))):DelT c n (.ref d) (.int k) H Q:=⟨fun ro ri e1 e2 A Z s hr R=>by
 obtain rfl:=er_ref e1
 obtain ⟨t,rfl⟩:=er_int e2
 obtain ⟨kvs,D⟩:=R.dic e
 rw [← D.er,vAt_er,Option.isSome_map] at hv
 rw [← D.er,ddel_er] at h
 unfold delItem
 exact wpAny_holding (wpAny_bind (wpAny_sequenceKey D.e.typeIs (by decide) (wpAny_bind (wpAny_callSpecial?_slot (name:=Str.ofString "__delitem__") D.e.typeIs PySem.F.slot_dict_delitem
  (call_meetsIn PySem.F.slot_dict_delitem D.e.typeIs PySem.F.entry_dict_delitem (PySem.F.args_dict_delitem_2 _ _) (meets_dict_delitem_pairs (intKind c.prog c.w) d is_int) ⟨kvs,D.e,le_sizeLine D.le,hv,fun h' hk hs=>
   wpAny_pure ⟨_,R.setDic e hk hs (Nat.le_trans (List.length_filter_le _ _) D.le),h⟩⟩)))))⟩
end
end Mine
namespace Mine
noncomputable abbrev iL (ns:List Int):List V:=ns.map V.int
theorem intsAre_of:∀ {xs:List Value} {ns:List Int},xs.map er=iL ns→IntsAre xs ns
 | [],[],_=>.nil
 | x::xs,n::ns,h=>by
  obtain ⟨t,rfl⟩:=er_int (List.cons.inj h).1
  exact .cons n t (intsAre_of (List.cons.inj h).2)
theorem of_intsAre {xs:List Value} {ns:List Int} (h:IntsAre xs ns):xs.map er=iL ns:=by
 induction h with
 | nil=>rfl
 | cons n t h ih=>exact congrArg (V.int n::·) ih
noncomputable def V.num:V→Int
 | .int i=>i
 | _=>0
theorem iL_num:∀ (a:List Int),(iL a).map V.num=a
 | []=>rfl
 | i::r=>congrArg (i::·) (iL_num r)
theorem ints_inj {a b:List Int} (h:iL a=iL b):a=b:=by rw [← iL_num a,h,iL_num]
noncomputable def srt (ns:List Int):List Int:=ns.mergeSort (fun a b=>decide (a≤b))
theorem srt_perm (ns:List Int):(srt ns).Perm ns:=List.mergeSort_perm _ _
theorem srt_sorted (ns:List Int):(srt ns).Pairwise (·≤·):=
 (List.pairwise_mergeSort (le:=fun (a b:Int)=>decide (a≤b)) (fun a b c h1 h2=>decide_eq_true (Int.le_trans (of_decide_eq_true h1) (of_decide_eq_true h2))) (fun a b=>by rw [Bool.or_eq_true]; exact (Int.le_total a b).imp decide_eq_true decide_eq_true) ns).imp of_decide_eq_true
theorem srt_unique {a ns:List Int} (hp:a.Perm ns) (hs:a.Pairwise (·≤·)):a=srt ns:=
 List.Perm.eq_of_pairwise (le:=(·≤·)) (fun a b _ _ h1 h2=>Int.le_antisymm h1 h2) hs (srt_sorted ns) (hp.trans (srt_perm ns).symm)
noncomputable def ddl (ns:List Int):Nat:=(firstMet (fun i=>ns.getD i 0) ns.length).length
section
variable {c:Cx} {n:Nat} {H:AH} {Q:V→AH→Prop} {l:Addr} {ns:List Int} {A:Around} {Z:Froz} {s:Shared}
structure IntAt (s:Shared) (l:Addr) (ns:List Int) (xs:List Value):Prop where
 e:s.heap.IsList l xs.toArray
 i:IntsAre xs ns
 le:ns.length≤100000
theorem Rel.intAt (R:Rel c Z H s) (e:H l=some (.list (iL ns))):∃ xs,IntAt s l ns xs:=(R.seqAt e).imp fun xs q=>q.elim fun m S=>⟨⟨_,S.e,rfl,m,rfl⟩,intsAre_of S.er,by have:=S.le; rw [List.length_map] at this; exact this⟩
theorem CallV.bi {f:Value} (e:H l=some (.list (iL ns))) (hv:er f=.oth f) (hk:∀ s:Shared,∃ k,Looks c.M s.heap (keeperOf f) k) (h:∀ A Z s xs,Room n A→Rel c Z H s→IntAt s l ns xs→wpAny c.M A (PySem.call f [.ref l] []) (PQ c Z fun r=>Q (er r)) BOT s):CallV c n (.oth f) [.ref l] H Q:=
 .blt hv hk fun ws A Z s hr R e2=>by
  obtain ⟨x,rfl,e3⟩:=er_1 e2
  obtain rfl:=er_ref e3
  exact (R.intAt e).elim fun xs S=>h A Z s xs hr R S
theorem IntAt.items {xs:List Value} (S:IntAt s l ns xs):∃ ys:Array (Int × Tok),s.heap.IsList l (intItems ys)∧ys.toList.map (·.1)=ns:=
 (S.i.allInts.items (vs:=xs.toArray)).imp fun ys hy=>⟨by rw [← hy]; exact S.e,by rw [← nums_intItems,← hy]; exact S.i.numsOf⟩
theorem CallV.maxI (e:H l=some (.list (iL ns))) (hne:ns≠[]) (h:∀ M,M∈ns→(∀ a∈ns,a≤M)→Q (.int M) H):CallV c n (.oth (.builtin "max")) [.ref l] H Q:=.bi e rfl (fun s=>⟨.machine,Looks.of_pure rfl⟩) fun A Z s xs hr R S=>by
 obtain ⟨ys,hy,rfl⟩:=S.items
 have hsz:0 < ys.toList.length:=List.length_pos_iff.mpr fun q=>hne (by rw [q]; rfl)
 refine max_intList hr.handled hy hsz fun v h' tk hv hk=>?_
 obtain ⟨t,rfl⟩:=intItems_at hv
 obtain ⟨h1,h2⟩:=argBest_gt (numAt ys) (ys.size - 1)
 refine ⟨H,R.stays hk,h _ ?_ fun a ha=>?_⟩
 ·rw [numAt_eq]; exact getD_mem (by rw [List.length_map]; exact Nat.lt_of_le_of_lt h1 (Nat.sub_lt hsz Nat.one_pos))
 ·obtain ⟨j,hj,rfl⟩:=mem_getD ha
  rw [List.length_map] at hj
  rw [← numAt_eq]; exact h2 j (Nat.le_sub_one_of_lt hj)
theorem CallV.minI (e:H l=some (.list (iL ns))) (hne:ns≠[]) (h:∀ M,M∈ns→(∀ a∈ns,M≤a)→Q (.int M) H):CallV c n (.oth (.builtin "min")) [.ref l] H Q:=.bi e rfl (fun s=>⟨.machine,Looks.of_pure rfl⟩) fun A Z s xs hr R S=>by
 obtain ⟨ys,hy,rfl⟩:=S.items
 have hsz:0 < ys.toList.length:=List.length_pos_iff.mpr fun q=>hne (by rw [q]; rfl)
 refine min_intList hr.handled hy hsz fun v h' tk hv hk=>?_
 obtain ⟨t,rfl⟩:=intItems_at hv
 obtain ⟨h1,h2⟩:=argBest_lt (numAt ys) (ys.size - 1)
 refine ⟨H,R.stays hk,h _ ?_ fun a ha=>?_⟩
 ·rw [numAt_eq]; exact getD_mem (by rw [List.length_map]; exact Nat.lt_of_le_of_lt h1 (Nat.sub_lt hsz Nat.one_pos))
 ·obtain ⟨j,hj,rfl⟩:=mem_getD ha
  rw [List.length_map] at hj
  rw [← numAt_eq]; exact h2 j (Nat.le_sub_one_of_lt hj)
theorem CallV.sumI (e:H l=some (.list (iL ns))) (hfit:PySem.SumFits ns) (h:Q (.int ns.sum) H):CallV c n (.oth (.builtin "sum")) [.ref l] H Q:=.bi e rfl (fun s=>⟨.machine,Looks.of_pure rfl⟩) fun A Z s xs hr R S=>by
 obtain ⟨ys,hy,rfl⟩:=S.items
 refine sum_intList hr.handled hy (fun j hj=>?_) fun h' tk t' hk=>⟨H,R.stays hk,?_⟩
 ·rw [numAt_eq,preSum_eq]; exact hfit j (by rw [List.length_map]; exact hj)
 ·have:=preSum_eq ys ys.size
  rw [List.take_of_length_le (by rw [List.length_map]; exact Nat.le_refl _)] at this
  show Q (.int (preSum (numAt ys) ys.size)) H
  rw [this]; exact h
theorem sumFits_of {ns:List Int} (hl:ns.length≤100) (h:∀ a∈ns,-1000000≤a∧a≤1000000):PySem.SumFits ns:=by
 have key:∀ (l:List Int),(∀ a∈l,-1000000≤a∧a≤1000000)→-(l.length * 1000000)≤l.sum∧l.sum≤l.length * 1000000:=by
  intro l
  induction l with
  | nil=>intro _; exact ⟨by decide,by decide⟩
  | cons x r ih=>
   intro hl
   have h1:=ih fun a ha=>hl a (.tail _ ha)
   have h2:=hl x (.head _)
   rw [List.sum_cons,List.length_cons,Int.natCast_add,Int.add_mul,Int.neg_add,Int.add_comm x]
   exact ⟨Int.add_le_add h1.1 h2.1,Int.add_le_add h1.2 h2.2⟩
 intro j hj
 have h1:=h _ (getD_mem hj)
 have k:=key (ns.take (j + 1)) fun a ha=>h a (List.mem_of_mem_take ha)
 have h3:((ns.take (j + 1)).length:Int) * 1000000≤100 * 1000000:=Int.mul_le_mul_of_nonneg_right (Int.ofNat_le.mpr (by rw [List.length_take]; exact Nat.le_trans (Nat.min_le_right ..) hl)) (by decide)
 exact ⟨⟨Int.le_trans (by decide) h1.1,Int.lt_of_le_of_lt h1.2 (by decide)⟩,Int.le_trans (Int.le_trans (by decide) (Int.neg_le_neg h3)) k.1,Int.lt_of_le_of_lt (Int.le_trans k.2 h3) (by decide)⟩
theorem CallV.sortedI (e:H l=some (.list (iL ns))) (h64:ns.length < 64) (h:∀ D,H D=none→Q (.ref D) (H.set D (.list (iL (srt ns))))):CallV c n (.oth (.builtin "sorted")) [.ref l] H Q:=.bi e rfl (fun s=>⟨.machine,Looks.of_pure rfl⟩) fun A Z s xs hr R S=>
 sorted_ints S.e S.i (by rw [S.i.length]; exact h64) fun out ns' a1 a2 a3=>by
  have fr:s.heap.get? (s.heap.objs.size + 1)=none:=get?_ge_none (Nat.le_succ _)
  obtain ⟨m,hat⟩:=sortedAll_at s.heap xs out
  exact ⟨_,R.new (o:=.list (iL (srt ns))) fr (fun b ob eb=>sortedAll_old eb) ⟨_,hat,by rw [List.length_map,(srt_perm ns).length_eq]; exact S.le,out.toList,m,rfl,by rw [of_intsAre a1,srt_unique a2 a3]⟩,h _ (R.freshH fr)⟩
theorem CallV.setI (e:H l=some (.list (iL ns))) (hl:ns.length < 1000) (h:∀ D,H D=none→Q (.ref D) (H.set D (.set (ddl ns)))):CallV c n (.oth (.type "set")) [.ref l] H Q:=.bi e rfl (fun s=>⟨.machine,Looks.of_pure rfl⟩) fun A Z s xs hr R S=>by
 have hsz:xs.toArray.size=ns.length:=S.i.length
 refine call_set_list hr.handled S.e S.i (by rw [hsz]; exact Nat.lt_trans (Nat.succ_lt_succ hl) (by decide)) fun h' tk hS hk=>?_
 rw [hsz] at hS
 have nS:=hS
 obtain ⟨o,es,ep,t,g,q⟩:=hS
 exact ⟨_,R.new (o:=.set (ddl ns)) (get?_size_none _) (fun b ob eb=>hk b ob (Heap.lt_size eb) eb) ⟨o,g,_,fun hh e=>⟨o,es,ep,t,e,q⟩⟩,h _ (R.freshH (get?_size_none _))⟩
theorem CallV.lenSet {k:Nat} (e:H l=some (.set k)) (h:Q (.int k) H):CallV c n (.oth (.builtin "len")) [.ref l] H Q:=.b fun ws A Z s hr R e2=>by
 obtain ⟨a,rfl,e3⟩:=er_1 e2
 obtain rfl:=er_ref e3
 obtain ⟨ob,g,f,q⟩:=R.real _ _ e
 obtain ⟨o,es,ep,t,ho,hex,hd,_,_,hb,hf,rfl⟩:=q _ g
 exact call_len_set ho hex hd hf (Int.lt_trans (Int.ofNat_lt.mpr hb) (by decide)) ⟨H,R.toks,h⟩
theorem firstMet_take (val:Nat→Int):∀ i,(firstMet val i).length=i↔((List.range i).map val).Nodup
 | 0=>⟨fun _=>.nil,fun _=>rfl⟩
 | i + 1=>by
  have ih:=firstMet_take val i
  have hle:=firstMet_length_le val i
  rw [firstMet_succ,step_length,firstMet_any val i (val i),List.range_succ,List.map_append,List.nodup_append]
  have hany:((List.range i).map val).any (· == val i)=true↔val i∈(List.range i).map val:=by simp
  by_cases hm:val i∈(List.range i).map val
  ·rw [if_pos (hany.mpr hm)]
   exact ⟨fun q=>absurd (Nat.le_trans (Nat.le_of_eq q.symm) hle) (Nat.not_succ_le_self i),fun q=>absurd rfl (q.2.2 _ hm _ (.head _))⟩
  ·rw [if_neg fun q=>hm (hany.mp q)]
   exact ⟨fun q=>⟨ih.mp (Nat.succ.inj q),List.nodup_cons.mpr ⟨List.not_mem_nil,.nil⟩,fun a ha b hb q=>hm (by rw [← List.mem_singleton.mp hb,← q]; exact ha)⟩,fun q=>congrArg Nat.succ (ih.mpr q.1)⟩
theorem ddl_eq (ns:List Int):ddl ns=ns.length↔ns.Nodup:=by
 unfold ddl
 rw [firstMet_take,show (List.range ns.length).map (fun i=>ns.getD i 0)=ns from List.ext_getElem (by rw [List.length_map,List.length_range]) fun i h1 h2=>by rw [List.getElem_map,List.getElem_range,List.getD_eq_getElem?_getD,List.getElem?_eq_getElem h2]; rfl]
theorem any_mem (ns:List Int) (k:Int):(ns.any (· == k))=decide (k∈ns):=by rw [List.any_beq',List.contains_eq_mem]
theorem CmpT.inInts {k:Int} (e:H l=some (.list (iL ns))) (h:Q (.bool (decide (k∈ns))) H):CmpT c n .In (.int k) (.ref l) H Q:=⟨fun ri rv e2 e1 A Z s hr R=>by
 obtain rfl:=er_ref e1
 obtain ⟨t,rfl⟩:=er_int e2
 obtain ⟨xs,S⟩:=R.intAt e
 exact in_list_ints S.e S.i ⟨H,R,by rw [any_mem]; exact h⟩⟩
theorem CmpT.notInInts {k:Int} (e:H l=some (.list (iL ns))) (h:Q (.bool (!decide (k∈ns))) H):CmpT c n .NotIn (.int k) (.ref l) H Q:=⟨fun ri rv e2 e1 A Z s hr R=>by
 obtain rfl:=er_ref e1
 obtain ⟨t,rfl⟩:=er_int e2
 obtain ⟨xs,S⟩:=R.intAt e
 exact notin_list_ints S.e S.i ⟨H,R,by rw [any_mem]; exact h⟩⟩
noncomputable def Lies (c:Cx) (H:AH) (a:Addr):Prop:=∀ Z s,Rel c Z H s→∃ o,s.heap.get? a=some o∧o.cls≠.type "tuple"
theorem CmpT.isR {a b:Addr} {neg:Bool} (ha:Lies c H a) (hb:Lies c H b) (h:Q (.bool (decide (a=b) != neg)) H):CmpT c n (if neg=true then .IsNot else .Is) (.ref a) (.ref b) H Q:=⟨fun ri rv e2 e1 A Z s hr R=>by
 obtain rfl:=er_ref e1
 obtain rfl:=er_ref e2
 by_cases q:a=b
 ·subst q
  rw [decide_eq_true rfl] at h
  cases neg with
  | true=>exact wpAny_isNot_ref_self ⟨H,R,h⟩
  | false=>exact wpAny_is_ref_self ⟨H,R,h⟩
 ·obtain ⟨o,h1,h2⟩:=ha _ _ R
  obtain ⟨o',h3,_⟩:=hb _ _ R
  rw [decide_eq_false q] at h
  cases neg with
  | true=>exact wpAny_isNot_ref_other q h1 h3 h2 ⟨H,R,h⟩
  | false=>exact wpAny_is_ref_other q h1 h3 h2 ⟨H,R,h⟩⟩
theorem CmpT.is_int_ref {k:Int} {b:Addr} (h:Q (.bool false) H):CmpT c n .Is (.int k) (.ref b) H Q:=⟨fun ri rv e2 e1 A Z s hr R=>by
 obtain rfl:=er_ref e1
 obtain ⟨t,rfl⟩:=er_int e2
 exact wpAny_is_other rfl (fun q=>nomatch q) ⟨H,R,h⟩⟩
theorem CmpT.isNot_int_ref {k:Int} {b:Addr} (h:Q (.bool true) H):CmpT c n .IsNot (.int k) (.ref b) H Q:=⟨fun ri rv e2 e1 A Z s hr R=>by
 obtain rfl:=er_ref e1
 obtain ⟨t,rfl⟩:=er_int e2
 exact wpAny_isNot_other rfl (fun q=>nomatch q) ⟨H,R,h⟩⟩
theorem CmpT.none_none (h:Q (.bool true) H):CmpT c n .Is .none .none H Q:=⟨fun ri rv e2 e1 A Z s hr R=>by
 obtain rfl:=er_none e1
 obtain rfl:=er_none e2
 exact wpAny_is_self rfl ⟨H,R,h⟩⟩
theorem CmpT.ref_none {a:Addr} (h:Q (.bool false) H):CmpT c n .Is (.ref a) .none H Q:=⟨fun ri rv e2 e1 A Z s hr R=>by
 obtain rfl:=er_none e1
 obtain rfl:=er_ref e2
 exact is_ref_none ⟨H,R,h⟩⟩
end
end Mine
namespace Mine
noncomputable def AO.vals:AO→List V
 | .seq _ vs=>vs
 | _=>[]
noncomputable def EqV (c:Cx) (k:Nat) (H:AH) (x y:V) (b:Bool):Prop:=∀ v u,er v=x→er u=y→∀ (A:Around) (Z:Froz) (s:Shared),A.units + k < cLine→Rel c Z H s→PySem.SeqAt.EqAt A s v u b
noncomputable def All2 {β:Type} (P:V→β→Prop):List V→List β→Prop
 | [],[]=>True
 | v::vs,b::bs=>P v b∧All2 P vs bs
 | _,_=>False
theorem All2.nil {β:Type} {P:V→β→Prop} {vs:List V} (h:All2 P vs []):vs=[]:=by
 cases vs with
 | nil=>rfl
 | cons _ _=>exact h.elim
theorem All2.cons {β:Type} {P:V→β→Prop} {vs:List V} {b:β} {bs:List β} (h:All2 P vs (b::bs)):∃ v r,vs=v::r∧P v b∧All2 P r bs:=by
 cases vs with
 | nil=>exact h.elim
 | cons v r=>exact ⟨v,r,rfl,h⟩
theorem All2.length {β:Type} {P:V→β→Prop}:∀ {bs:List β} {vs:List V},All2 P vs bs→vs.length=bs.length
 | [],_,h=>by rw [h.nil]; rfl
 | b::bs,_,h=>by obtain ⟨v,r,rfl,_,h⟩:=h.cons; exact congrArg Nat.succ (All2.length h)
theorem All2.at {β:Type} {P:V→β→Prop}:∀ {bs:List β} {vs:List V},All2 P vs bs→∀ {j:Nat} {b:β},bs[j]?=some b→∃ v,vs[j]?=some v∧P v b
 | b::bs,_,h,j,x,e=>by
  obtain ⟨v,r,rfl,p,h⟩:=h.cons
  cases j with
  | zero=>cases e; exact ⟨v,rfl,p⟩
  | succ j=>exact All2.at (bs:=bs) h e
theorem All2.mono {β:Type} {P P':V→β→Prop} (k:∀ v b,P v b→P' v b):∀ {bs:List β} {vs:List V},All2 P vs bs→All2 P' vs bs
 | [],_,h=>by rw [h.nil]; trivial
 | b::bs,_,h=>by obtain ⟨v,r,rfl,p,h⟩:=h.cons; exact ⟨k _ _ p,All2.mono k h⟩
theorem All2.append {β:Type} {P:V→β→Prop} {ws:List V} {ds:List β} (h':All2 P ws ds):∀ {bs:List β} {vs:List V},All2 P vs bs→All2 P (vs++ws) (bs++ds)
 | [],_,h=>by rw [h.nil]; exact h'
 | b::bs,_,h=>by obtain ⟨v,r,rfl,p,h⟩:=h.cons; exact ⟨p,All2.append h' h⟩
theorem All2.ints:∀ ns:List Int,All2 (fun v i=>v=.int i) (iL ns) ns
 | []=>trivial
 | _::r=>⟨rfl,All2.ints r⟩
section
variable {c:Cx} {n:Nat} {H:AH} {Q:V→AH→Prop} {l l':Addr} {A:Around} {Z:Froz} {s:Shared}
theorem EqV.int {k:Nat} {a b:Int}:EqV c k H (.int a) (.int b) (decide (a=b)):=fun v u e1 e2 A Z s hr R=>by
 obtain ⟨t,rfl⟩:=er_int e1
 obtain ⟨t',rfl⟩:=er_int e2
 exact PySem.SeqAt.EqAt.int_int a t b t'
structure Same (c:Cx) (k:Nat) (H:AH) (vs us:List V) (e:Nat→Bool) (f:Bool):Prop where
 el:∀ j x y,vs[j]?=some x→us[j]?=some y→EqV c k H x y (e j)
 fin:f=(decide (vs.length=us.length) && (List.range vs.length).all e)
theorem Same.of {β:Type} [DecidableEq β] {k:Nat} {P:V→β→Prop} {vs us:List V} {xs ys:List β} (hv:All2 P vs xs) (hu:All2 P us ys) (he:∀ x y a b,P x a→P y b→EqV c k H x y (decide (a=b))):Same c k H vs us (fun j=>decide (xs[j]?=ys[j]?)) (decide (xs=ys)):=by
 refine ⟨fun j x y hx hy=>?_,?_⟩
 ·have get:∀ {ws:List V} {zs:List β} {v:V},All2 P ws zs→ws[j]?=some v→∃ b,zs[j]?=some b∧P v b:=fun {ws zs v} h e=>
   have hj:j < zs.length:=h.length▸(List.getElem?_eq_some_iff.mp e).1
   (h.at (List.getElem?_eq_getElem hj)).elim fun u q=>⟨_,List.getElem?_eq_getElem hj,Option.some.inj (q.1.symm.trans e)▸q.2⟩
  obtain ⟨a,ha,pa⟩:=get hv hx
  obtain ⟨b,hb,pb⟩:=get hu hy
  rw [ha,hb,show decide (some a=some b)=decide (a=b) from decide_eq_decide.mpr (Option.some_inj ..)]
  exact he _ _ _ _ pa pb
 ·rw [hv.length,hu.length,Bool.eq_iff_iff,Bool.and_eq_true,decide_eq_true_iff,decide_eq_true_iff,List.all_eq_true]
  refine ⟨fun q=>by subst q; exact ⟨rfl,fun j _=>decide_eq_true rfl⟩,fun q=>List.ext_getElem? fun i=>?_⟩
  rcases Nat.lt_or_ge i xs.length with hi | hi
  ·exact of_decide_eq_true (p:=xs[i]?=ys[i]?) (q.2 i (List.mem_range.mpr hi))
  ·rw [List.getElem?_eq_none hi,List.getElem?_eq_none (q.1▸hi)]
theorem Same.int {k:Nat} {xs ys:List Int}:Same c k H (iL xs) (iL ys) (fun j=>decide (xs[j]?=ys[j]?)) (decide (xs=ys)):=
 Same.of (All2.ints xs) (All2.ints ys) fun x y a b ha hb=>by rw [ha,hb]; exact EqV.int
variable {k:Nat} {a b:Addr} {vs us:List V} {e:Nat→Bool} {f:Bool}
theorem Same.each {xs ys:List Value} {ka kb:SK} {m m':Nat} (S:Same c k H vs us e f) (hr:A.units + (k + 1) < cLine) (R:Rel c Z H s) (X:SeqAt ka s a vs xs m) (Y:SeqAt kb s b us ys m') (j:Nat) (j1:j < xs.toArray.size) (j2:j < ys.toArray.size):PySem.SeqAt.EqAt A.in1 s xs.toArray[j] ys.toArray[j] (e j):=by
 have a1:vs[j]?=some (er xs.toArray[j]):=by rw [← X.er,List.getElem?_map,← List.getElem?_toArray,Array.getElem?_eq_getElem j1]; rfl
 have a2:us[j]?=some (er ys.toArray[j]):=by rw [← Y.er,List.getElem?_map,← List.getElem?_toArray,Array.getElem?_eq_getElem j2]; rfl
 exact S.el j _ _ a1 a2 _ _ rfl rfl _ Z s (by show A.units + 1 + k < cLine; rw [Nat.add_assoc,Nat.add_comm 1 k]; exact hr) R
theorem Same.eqAt (S:Same c k H vs us e f) (ea:H a=some (.list vs)) (eb:H b=some (.list us)) (hr:A.units + (k + 1) < cLine) (R:Rel c Z H s):PySem.SeqAt.RcAt A s (.ref a) (.ref b) f∧PySem.SeqAt.RcNeAt A s (.ref a) (.ref b) (!f):=by
 obtain ⟨xs,m,X⟩:=R.seqAt ea
 obtain ⟨ys,m',Y⟩:=R.seqAt eb
 have hu:A.units < cLine:=Nat.lt_of_le_of_lt (Nat.le_add_right ..) hr
 have la:s.heap.IsList a xs.toArray:=⟨_,X.e,rfl,m,rfl⟩
 have lb:s.heap.IsList b ys.toArray:=⟨_,Y.e,rfl,m',rfl⟩
 by_cases hl:vs.length=us.length
 ·have hsz:xs.toArray.size=ys.toArray.size:=X.len.trans (hl.trans Y.len.symm)
  have hf:f=(List.range xs.toArray.size).all e:=by rw [S.fin,decide_eq_true hl,Bool.true_and,← X.len]; rfl
  rw [hf]
  exact ⟨.lists la lb hsz hu (S.each hr R X Y),.lists la lb hsz hu (S.each hr R X Y)⟩
 ·have hsz:(xs.toArray.size != ys.toArray.size)=true:=bne_iff_ne.mpr fun q=>hl (X.len.symm.trans (Eq.trans q Y.len))
  have hf:f=false:=by rw [S.fin,decide_eq_false hl]; rfl
  rw [hf]
  exact ⟨.lists_lengths la lb hsz hu,.lists_lengths la lb hsz hu⟩
theorem Same.eqAtT (S:Same c k H vs us e f) (ea:H a=some (.tup vs)) (eb:H b=some (.tup us)) (hr:A.units + (k + 1) < cLine) (R:Rel c Z H s):PySem.SeqAt.RcAt A s (.ref a) (.ref b) f:=by
 obtain ⟨xs,m,X⟩:=R.seqAt ea
 obtain ⟨ys,m',Y⟩:=R.seqAt eb
 have:=PySem.SeqAt.RcAt.tuples (s:=s) (A:=A) ⟨_,X.e,rfl,_,rfl⟩ ⟨_,Y.e,rfl,_,rfl⟩ (Nat.lt_of_le_of_lt (Nat.le_add_right ..) hr) (S.each hr R X Y)
 have hf:f=((List.range (min xs.toArray.size ys.toArray.size)).all e && xs.toArray.size == ys.toArray.size):=by
  rw [S.fin,List.size_toArray,List.size_toArray,X.len,Y.len]
  by_cases hl:vs.length=us.length
  ·rw [hl,Nat.min_self,decide_eq_true rfl,beq_self_eq_true,Bool.true_and,Bool.and_true]
  ·rw [beq_eq_false_iff_ne.mpr hl,decide_eq_false hl,Bool.false_and,Bool.and_false]
 rw [hf]; exact this
noncomputable def IS (k:SK) (H:AH) (v:V) (ns:List Int):Prop:=∃ a,v=.ref a∧H a=some (.seq k (iL ns))
noncomputable abbrev IL:=IS .list
noncomputable abbrev IT:=IS .tup
theorem IS.sub {k:SK} {H H':AH} {v:V} {ns:List Int} (h:IS k H v ns) (s:Sub H H'):IS k H' v ns:=h.imp fun a q=>⟨q.1,s _ _ q.2⟩
theorem EqV.refs {a b:Addr} {xs ys:List Int} {k:SK} (ea:H a=some (.seq k (iL xs))) (eb:H b=some (.seq k (iL ys))) (h:∀ (A:Around) (Z:Froz) (s:Shared),A.units + 2 < cLine→Rel c Z H s→PySem.SeqAt.RcAt A s (.ref a) (.ref b) (decide (xs=ys))):EqV c 2 H (.ref a) (.ref b) (decide (xs=ys)):=fun v u e1 e2 A Z s hr R=>by
 obtain rfl:=er_ref e1
 obtain rfl:=er_ref e2
 by_cases q:a=b
 ·subst q
  rw [decide_eq_true (ints_inj (congrArg AO.vals (Option.some.inj (ea.symm.trans eb))))]; exact PySem.SeqAt.EqAt.same _
 ·exact PySem.SeqAt.EqAt.of_refs q (h A Z s hr R)
theorem Same.lists {vs us:List V} {xs ys:List (List Int)} (hv:All2 (IL H) vs xs) (hu:All2 (IL H) us ys):Same c 2 H vs us (fun j=>decide (xs[j]?=ys[j]?)) (decide (xs=ys)):=Same.of hv hu fun x y p q hx hy=>by
 obtain ⟨a,rfl,ea⟩:=hx
 obtain ⟨b,rfl,eb⟩:=hy
 exact EqV.refs ea eb fun A Z s hr R=>((Same.int (k:=1)).eqAt ea eb hr R).1
theorem Same.tups {vs us:List V} {xs ys:List (List Int)} (hv:All2 (IT H) vs xs) (hu:All2 (IT H) us ys):Same c 2 H vs us (fun j=>decide (xs[j]?=ys[j]?)) (decide (xs=ys)):=Same.of hv hu fun x y p q hx hy=>by
 obtain ⟨a,rfl,ea⟩:=hx
 obtain ⟨b,rfl,eb⟩:=hy
 exact EqV.refs ea eb fun A Z s hr R=>(Same.int (k:=1)).eqAtT ea eb hr R
theorem Room.eq3 (r:Room n A):A.units + (2 + 1) < cLine:=Nat.lt_of_le_of_lt (Nat.add_le_add_left (by decide) _) r.cl
theorem CmpT.eqL (ea:H l=some (.list vs)) (eb:H l'=some (.list us)) (S:Same c 2 H vs us e f) (h:Q (.bool f) H):CmpT c n .Eq (.ref l) (.ref l') H Q:=⟨fun v u e1 e2 A Z s hr R=>by
 obtain rfl:=er_ref e1
 obtain rfl:=er_ref e2
 exact (S.eqAt ea eb hr.eq3 R).1 c.prog c.w _ _ ⟨H,R,h⟩⟩
theorem CmpT.neL (ea:H l=some (.list vs)) (eb:H l'=some (.list us)) (S:Same c 2 H vs us e f) (h:Q (.bool (!f)) H):CmpT c n .NotEq (.ref l) (.ref l') H Q:=⟨fun v u e1 e2 A Z s hr R=>by
 obtain rfl:=er_ref e1
 obtain rfl:=er_ref e2
 exact (S.eqAt ea eb hr.eq3 R).2 c.prog c.w _ _ ⟨H,R,h⟩⟩
theorem BinT.addL (e1:H l=some (.list vs)) (e2:H l'=some (.list us)) (hl:vs.length + us.length≤100000) (h:∀ D,H D=none→Q (.ref D) (H.set D (.list (vs++us)))):BinT c n .Add (.ref l) (.ref l') H Q:=⟨fun v u ev eu A Z s hr R=>by
 obtain rfl:=er_ref ev
 obtain rfl:=er_ref eu
 obtain ⟨xs,m,S⟩:=R.seqAt e1
 obtain ⟨ys,m',T⟩:=R.seqAt e2
 refine P.add_list S.e T.e ?_ (by rw [List.size_toArray,List.size_toArray,S.len,T.len]; exact le_sizeLine hl)
 rw [show xs.toArray++ys.toArray=(xs++ys).toArray from List.append_toArray ..]
 exact ⟨_,R.newSeq (k:=.list) (m:=0) (by rw [List.map_append,S.er,T.er]) (by rw [List.length_append]; exact hl),h _ (R.freshH (get?_size_none _))⟩⟩
theorem BinT.addTup0 (e1:H l=some (.tup [])) (e2:H l'=some (.tup us)) (h:Q (.ref l') H):BinT c n .Add (.ref l) (.ref l') H Q:=⟨fun v u ev eu A Z s hr R=>by
 obtain rfl:=er_ref ev
 obtain rfl:=er_ref eu
 obtain ⟨xs,m,S⟩:=R.seqAt e1
 obtain ⟨ys,m',T⟩:=R.seqAt e2
 have hx:xs=[]:=List.map_eq_nil_iff.mp S.er
 have S:=S.e
 rw [hx] at S
 exact concat_meets ⟨_,S,rfl⟩ ⟨_,T.e,rfl⟩ noFill_tuple_add seq_tuple_add PySem.F.slot_tuple_add PySem.F.entry_tuple_add (PySem.F.args_tuple_add_2 _ _) (tuple_addW0 l l' #[] ys.toArray m m' none none #[] #[] rfl) ⟨S,T.e,H,R,h⟩⟩
theorem BinT.mulL {v:V} {x:Int} (e1:H l=some (.list [v])) (h0:0≤x) (hx:x≤100000) (h:∀ D,H D=none→Q (.ref D) (H.set D (.list (List.replicate x.toNat v)))):BinT c n .Mult (.ref l) (.int x) H Q:=⟨fun v' u' ev eu A Z s hr R=>by
 obtain rfl:=er_ref ev
 obtain ⟨u,rfl⟩:=er_int eu
 obtain ⟨xs,k,S⟩:=R.seqAt e1
 obtain ⟨y,rfl,hy⟩:=er_1 S.er
 have q1:=S.e
 refine wpAny_binaryOp_repeat_ref (T:="list") (U:="int") (by decide) ⟨_,q1,rfl⟩ (fun s'=>typeIs_int s' x u) noFill_list_mul F.fills_int_mul F.slot_int_rmul repeat_list F.slot_int_index.lookup
  (call_meets F.slot_int_rmul (typeIs_int s x u) F.entry_int_rmul (F.args_int_rmul_2 _ _) (int___rmul___int_list x u l #[y] k)
   ⟨q1,rfl,⟨_,q1,rfl⟩,call_meets F.slot_list_mul ⟨_,q1,rfl⟩ F.entry_list_mul (F.args_list_mul_2 _ _)
    (AutoListH.list___mul___list_int_3 l #[y] k x u (by simp [Builtin.List.listFitsIndex]; omega) (by simp; omega) (by simp [Builtin.List.listTooLong,sizeLine]; omega))
    ⟨q1,?_⟩⟩)
 have hd:(List.foldl (fun x1 x2=>x1++x2) #[] (List.replicate (if (#[y]:Array Value).isEmpty=true then 0 else x.toNat) #[y]))=(List.replicate x.toNat y).toArray:=by
  apply Array.ext'
  simp [listMul_foldl]
 have this:=R.newSeq (k:=.list) (xs:=List.replicate x.toNat y) (m:=0) (vs:=List.replicate x.toNat v) (by rw [List.map_replicate,hy]) (by rw [List.length_replicate]; omega)
 exact ⟨_,by rw [hd]; exact this,h _ (R.freshH (get?_size_none _))⟩⟩
end
end Mine
section
open Builtin Builtin.ObjectAttr
namespace Mine
noncomputable def gid (C:Addr):String:=if C=DomC then "list.__getattribute__" else "object.__getattribute__"
theorem canon_gid (C:Addr):(Manifest.canonical (gid C) != "object.__getattribute__")=false:=by
 unfold gid
 by_cases h:C=DomC
 ·rw [if_pos h]; exact canon_list_getattribute
 ·rw [if_neg h]; exact PySem.F.canon_object_ga
structure ClsOk (K:Frag) (C:Addr):Prop where
 ga:findIn K (.ref C) "__getattribute__"=some (some (.builtin (gid C)))
 gat:findIn K (.ref C) "__getattr__"=some none
 sa:findIn K (.ref C) "__setattr__"=some (some (.builtin "object.__setattr__"))
 cd:((clsIn K C).any fun cd=>cd.hasDict && (!cd.mro.isEmpty && cd.mro.contains (.type "object")))=true
 rf:∀ self,((clsIn K C).map fun cd=>refuseLoop self "__setattr__" cd.mro)=some (pure ())
theorem ClsOk.cls {K:Frag} {C:Addr} (k:ClsOk K C):∃ cd,clsIn K C=some cd∧cd.hasDict=true∧cd.mro.isEmpty=false∧cd.mro.contains (.type "object")=true∧∀ self,refuseLoop self "__setattr__" cd.mro=pure ():=by
 cases e:clsIn K C with
 | none=>have:=k.cd; rw [e] at this; cases this
 | some cd=>
  have h:=k.cd
  rw [e] at h
  have h:=and2 h
  have h2:=and2 h.2
  exact ⟨cd,rfl,h.1,(Bool.not_eq_true' _).mp h2.1,h2.2,fun self=>Option.some.inj (by have:=k.rf self; rw [e] at this; exact this)⟩
noncomputable def IsNs (od:Obj) (fs:List (Str × V)):Prop:=∃ es n sl,od=⟨.type "dict",none,.dict (List.toArray es) n,sl⟩∧es.map kv=fs.map some
noncomputable def fAt (fs:List (Str × V)) (x:Str):Option V:=(fs.find? (fun p=>p.1 == x)).map (·.2)
noncomputable def fPut (fs:List (Str × V)) (x:Str) (v:V):List (Str × V):=match fs with
 | []=>[(x,v)]
 | p::r=>if p.1 == x then (p.1,v)::r else p::fPut r x v
structure KvOk (e:DictEntry) (p:Str × V):Prop where
 key:∃ t,e.key=.str p.1 t
 val:er e.val=p.2
theorem kvOk {e:DictEntry} {p:Str × V} (h:kv e=some p):KvOk e p:=by
 obtain ⟨hh,k,v⟩:=e
 cases k with
 | str x t=>cases h; exact ⟨⟨t,rfl⟩,rfl⟩
 | _=>cases h
theorem KvOk.is {e:DictEntry} {p:Str × V} (h:KvOk e p) (x:Str):e.key.isStr x=(p.1 == x):=h.key.elim fun t hk=>by rw [hk]; rfl
theorem kv_cons {e:DictEntry} {es:List DictEntry} {fs:List (Str × V)} (h:(e::es).map kv=fs.map some):∃ p r,fs=p::r∧KvOk e p∧es.map kv=r.map some:=by
 cases fs with
 | nil=>cases h
 | cons p r=>exact ⟨p,r,rfl,kvOk (List.cons.inj h).1,(List.cons.inj h).2⟩
theorem find_kv {x:Str}:∀ {es:List DictEntry} {fs:List (Str × V)},es.map kv=fs.map some→(es.find? (·.key.isStr x)).map (fun e=>er e.val)=fAt fs x
 | [],fs,h=>by cases fs with | nil=>rfl | cons _ _=>cases h
 | e::es,fs,h=>by
  obtain ⟨p,r,rfl,k,h⟩:=kv_cons h
  unfold fAt
  rw [List.find?_cons,List.find?_cons,k.is x]
  cases p.1 == x with
  | true=>exact congrArg some k.val
  | false=>exact find_kv h
theorem anyRef_kv:∀ {es:List DictEntry} {fs:List (Str × V)},es.map kv=fs.map some→es.any (·.refKey)=false
 | [],_,_=>rfl
 | e::es,fs,h=>by
  obtain ⟨p,r,rfl,k,h⟩:=kv_cons h
  rw [List.any_cons,anyRef_kv h,Bool.or_false]
  exact k.key.elim fun t hk=>by unfold DictEntry.refKey; rw [hk]
theorem putIn_kv {x:Str} {t:Tok} {hh:Int} {v:Value}:∀ {es:List DictEntry} {fs:List (Str × V)},es.map kv=fs.map some→
  (PySem.putIn (·.key.isStr x) (fun e=>{ e with val:=v }) ⟨hh,.str x t,v⟩ es).map kv=(fPut fs x (er v)).map some
 | [],fs,h=>by cases fs with | nil=>rfl | cons _ _=>cases h
 | e::es,fs,h=>by
  obtain ⟨p,r,rfl,k,h⟩:=kv_cons h
  have h1:=k.is x
  unfold fPut
  cases q:p.1 == x with
  | true=>
   rw [PySem.putIn_hit (fun e:DictEntry=>e.key.isStr x) _ _ e es (h1.trans q),if_pos rfl,List.map_cons,List.map_cons,h]
   exact k.key.elim fun t hk=>by unfold kv; rw [hk]
  | false=>
   rw [PySem.putIn_miss (fun e:DictEntry=>e.key.isStr x) _ _ e es (h1.trans q),if_neg Bool.false_ne_true,List.map_cons,List.map_cons,putIn_kv h]
   exact congrArg (·::_) (k.key.elim fun t hk=>by unfold kv; rw [hk,k.val])
theorem IsNs.look {od:Obj} {fs:List (Str × V)} (D:IsNs od fs) (x:Str):∃ r,lookIn x od=some r∧r.map er=fAt fs x:=by
 obtain ⟨es,n,sl,rfl,q⟩:=D
 have f:=find_kv (x:=x) q
 refine ⟨(es.find? (·.key.isStr x)).map (·.val),?_,by rw [Option.map_map]; exact f⟩
 unfold lookIn
 cases e:es.find? (·.key.isStr x) with
 | some en=>simp only [e]; rfl
 | none=>simp only [e,anyRef_kv q]; rfl
structure Ins (H:AH) (a C d:Addr) (fs:List (Str × V)):Prop where
 o:H a=some (.inst C d)∨C=DomC∧∃ vs,H a=some (.sub d vs)
 n:H d=some (.ns fs)
theorem Ins.i {H:AH} {a C d:Addr} {fs:List (Str × V)} (e:H a=some (.inst C d)) (n:H d=some (.ns fs)):Ins H a C d fs:=⟨.inl e,n⟩
theorem Ins.d {H:AH} {a d:Addr} {fs:List (Str × V)} {vs:List V} (e:H a=some (.sub d vs)) (n:H d=some (.ns fs)):Ins H a DomC d fs:=⟨.inr ⟨rfl,vs,e⟩,n⟩
structure InsAt (s:Shared) (a C d:Addr) (fs:List (Str × V)) (ox od:Obj):Prop where
 i:InstAt s.heap a ox C (some od)
 dd:ox.dict=some d
 e:s.heap.get? d=some od
 n:IsNs od fs
section
variable {c:Cx} {n:Nat} {H:AH} {Q:V→AH→Prop} {a C d:Addr} {fs:List (Str × V)} {A:Around} {Z:Froz} {s:Shared} {name:Str}
theorem Rel.ins (R:Rel c Z H s) (I:Ins H a C d fs):∃ ox od,InsAt s a C d fs ox od:=by
 obtain ⟨od,g,D⟩:=R.real d _ I.n
 rcases I.o with e | ⟨rfl,vs,e⟩
 ·obtain ⟨ob,g1,rfl⟩:=R.real a _ e
  exact ⟨_,od,⟨g1,rfl,rfl,g⟩,rfl,g,D⟩
 ·obtain ⟨xs,m,S⟩:=R.seqAt e
  exact ⟨_,od,⟨S.e,rfl,rfl,g⟩,rfl,g,D⟩
noncomputable def V.in:V→Prop
 | .oth _=>False
 | _=>True
theorem handed {raw:Value} (h:(er raw).in):handedIn raw=true:=by
 cases raw <;> first | rfl | exact h.elim
theorem InsAt.own {ox od:Obj} {v:V} (K:ClsOk c.K C) (I:InsAt s a C d fs ox od) (hn:findIn c.K (.ref C) name=some none) (hv:fAt fs name=some v) (hi:v.in):∃ raw,er raw=v∧handedIn raw=true∧findObj c.K C (some od) name=some (.value raw):=by
 obtain ⟨r,h1,h2⟩:=I.n.look name
 obtain ⟨raw,rfl,h3⟩:=Option.map_eq_some_iff.mp (h2.trans hv)
 obtain ⟨cd,k1,k2,_⟩:=K.cls
 refine ⟨raw,h3,handed (h3▸hi),?_⟩
 unfold findObj
 rw [k1,Option.bind_some,hn,Option.bind_some]
 show ((W.ownOf cd (some od) name).bind _)=_
 unfold W.ownOf
 rw [k2,if_pos rfl]
 dsimp only
 rw [h1]
 rfl
theorem AttrT.own {v:V} (K:ClsOk c.K C) (hC:C≠DomC) (I:Ins H a C d fs) (hn:findIn c.K (.ref C) name=some none) (hv:fAt fs name=some v) (hi:v.in) (h:Q v H):AttrT c n (.ref a) name H Q:=⟨fun raw e1 A Z s hr R=>by
 obtain rfl:=er_ref e1
 obtain ⟨ox,od,I⟩:=R.ins I
 obtain ⟨raw,rfl,r2,r3⟩:=I.own K hn hv hi
 have hga:=K.ga
 unfold gid at hga
 rw [if_neg hC] at hga
 exact get_value R.KIn I.i hga (v:=raw) r3 r2 ⟨H,R.toks,h⟩⟩
theorem AttrT.ownL {v:V} (K:ClsOk c.K DomC) (hl:mroIn c.K DomC (.type "list")=some true) (I:Ins H a DomC d fs) (hn:findIn c.K (.ref DomC) name=some none) (hv:fAt fs name=some v) (hi:v.in) (h:Q v H):AttrT c n (.ref a) name H Q:=⟨fun raw e1 A Z s hr R=>by
 obtain rfl:=er_ref e1
 obtain ⟨ox,od,I⟩:=R.ins I
 obtain ⟨raw,rfl,r2,r3⟩:=I.own K hn hv hi
 have X:=R.KIn
 have hga:findIn c.K (.ref DomC) "__getattribute__"=some (some (.builtin "list.__getattribute__")):=K.ga
 obtain ⟨hh',g,dr,t,os⟩:=s
 have L0:=I.i.type (M:=c.M)
 have L1:=looks_find (M:=c.M) X I.i r3
 unfold getAttr getAttrBy
 refine wpAny_bind (wpAny_mkText (wpAny_holding (wpAny_bind (L0.at (wpAny_bind ((looks_findIn X hga).at ?_))))))
 show wpAny _ _ (if (onTheHeap (.ref DomC) && Value.builtin "list.__getattribute__" == Value.builtin "object.__getattribute__")=true then _ else _) _ _ _
 rw [if_neg (by decide +kernel)]
 unfold getAttrByItsOwn
 have hk:Looks c.M hh' (hookBefore (.ref DomC)) none:=looks_hook X ((if_pos (show onTheHeap (.ref DomC)=true from rfl)).trans K.gat)
 refine wpAny_bind (hk.at (wpAny_bind (wpAny_attempt (wpAny_holding ?_))))
 unfold callGetattribute
 rw [if_neg (show ¬ (true && onTheHeap (Value.builtin "list.__getattribute__"))=true from Bool.false_ne_true)]
 unfold boundAndCalled
 rw [PySem.F.slot_list_getattribute.bind]
 refine wpAny_bind (wpAny_pure ?_)
 show wpAny _ _ (PySem.call (.builtin "list.__getattribute__") [.ref a,.str name t]) _ _ _
 have sub:Looks c.M hh' (isInstance (.ref a) (.type "list")) true:=L0.andThen (looks_mroIn X hl)
 refine wpAny_call (codeAny_call_builtin PySem.F.slot_list_getattribute.plain am_entry_list_getattribute (@check_slot c.M _ _ ⟨hh',g,dr,t + 1,os⟩ "list.__getattribute__" "list" "__getattribute__" (.ref a) [.str name t] [] _ (by decide +kernel) (by decide +kernel) sub (PySem.F.args_list_getattribute_2 _ _) ?_))
 unfold Builtin.«object.__getattribute__»
 refine wpAny_bind (wpAny_pure (wpAny_bind (wpAny_pure (wpAny_bind (L0.at (wpAny_bind (L1.at (wpAny_pure ?_))))))))
 show wpAny _ _ (handedOut raw) _ _ _
 rw [handedOut_of r2]
 exact wpAny_pure ⟨H,R.toks,h⟩⟩
theorem GetX.cls {m:Value} {t:String} (K:ClsOk c.K C) (I:Ins H a C d fs) (hf:findIn c.K (.ref C) name=some (some m)) (ht:typeIn c.K m=some (.type t)) (htt:t="function"∨t="method_descriptor") (hs:fAt fs name=none):GetX c n (.ref a) name H m true:=fun raw e1 A Z s pl hr R Q h=>by
 obtain rfl:=er_ref e1
 obtain ⟨ox,od,I⟩:=R.ins I
 obtain ⟨r,h1,h2⟩:=I.n.look name
 obtain rfl:=Option.map_eq_none_iff.mp (h2.trans hs)
 have X:=R.KIn
 unfold getMethod specialOf
 refine wpAny_bind (wpAny_bind (I.i.type.here ((looks_findIn X K.ga).here ?_)))
 dsimp only
 rw [canon_gid C,if_neg Bool.false_ne_true]
 refine wpAny_bind (wpAny_bind (I.i.type.here ((looks_findIn X K.gat).here (wpAny_bind (wpAny_bind (I.i.type.here ((looks_findIn X hf).here (wpAny_bind ((looks_typeIn X ht).here ?_)))))))))
 rw [if_neg (by rcases htt with rfl | rfl <;> decide +kernel)]
 refine wpAny_bind (wpAny_loadPart I.i.at_ ?_)
 rw [I.dd]
 refine wpAny_bind (wpAny_bind (wpAny_loadPart I.e ?_))
 rw [nsLook_of h1]
 exact wpAny_pure (wpAny_bind (wpAny_rule (wpAny_pure (h s.toks))))
theorem SetA.ins {v:V} (K:ClsOk c.K C) (I:Ins H a C d fs) (hn:findIn c.K (.ref C) name=some none) (hfs:fs.length < 1000) (h:Q .none (H.set d (.ns (fPut fs name v)))):SetA c n (.ref a) name v H Q:=⟨fun ro rv e1 e2 A Z s hr R=>by
 obtain rfl:=er_ref e1
 obtain ⟨ox,od,N⟩:=R.ins I
 have X:=R.KIn
 obtain ⟨cd,k1,k2,k3,k4,k5⟩:=K.cls
 refine set_plain X N.i K.sa ?_
 have SF:=PySem.F.store_object
 have sub:Looks c.M s.heap (isInstance (.ref a) (.type "object")) true:=N.i.type.andThen (looks_mroIn X (by unfold mroIn; rw [k1,Option.bind_some,if_neg (by rw [k3]; decide),k4]))
 refine codeAny_call_builtin SF.slot.plain SF.entry (@check_slot c.M _ _ { s with toks:=s.toks + 1 } "object.__setattr__" "object" "__setattr__" (.ref a) [.str name s.toks,rv] [] _ SF.kind SF.split sub (SF.args (.ref a) (.str name s.toks) rv) ?_)
 have hm:Looks c.M s.heap (mroOf (.ref C)) cd.mro:=(looks_clsIn X k1).andThen .now
 have L3:Looks c.M s.heap (storeTaker? none) none:=.now
 rw [osa_eq,refuse_eq]
 refine wpAny_bind (wpAny_bind (N.i.type.at (wpAny_bind (hm.at ?_))))
 rw [k5]
 refine wpAny_pure (wpAny_bind (N.i.type.at (wpAny_bind ((looks_findIn X hn).at (wpAny_bind (L3.at ?_))))))
 have hod:=N.e
 obtain ⟨es,m,sl,rfl,q⟩:=N.n
 have hcl:=N.i.cls
 have hd:=N.dd
 have hx:=N.i.at_
 obtain ⟨oc,odi,oda,osl⟩:=ox
 dsimp only at hcl hd
 subst hcl hd
 refine wpAny_bind (wpAny_pure (wpAny_bind (wpAny_bind (wpAny_loadPart hx (wpAny_bind ((looks_clsIn X k1).at ?_))))))
 rw [k2]
 refine wpAny_pure (a:=some d) (wpAny_bind (wpAny_pure (wpAny_bind ?_)))
 unfold nsSet
 refine wpAny_bind (wpAny_bind (wpAny_askSetting (wpAny_pure (wpAny_bind (wpAny_mkText (wpAny_bind (wpAny_loadPart hod ?_)))))))
 dsimp only
 rw [aRefKeyMayBeTheName_at,show (!es.toArray.any (·.key.isStr name) && es.toArray.any (·.refKey))=false from (congrArg (_ && ·) ((Array.any_toList (as:=es.toArray) (p:=fun x:DictEntry=>x.refKey)).symm.trans (anyRef_kv q))).trans (Bool.and_false _)]
 have hup:(s.heap.update d (Obj.putName name (PyData.keyHash c.w.params name) (.str name (s.toks + 1)) rv)).get? d=some ⟨.type "dict",none,.dict (PySem.putIn (·.key.isStr name) (fun e=>{ e with val:=rv }) ⟨PyData.keyHash c.w.params name,.str name (s.toks + 1),rv⟩ es).toArray (if es.any (·.key.isStr name) then m else m + 1),sl⟩:=by
  rw [Heap.get?_update_self _ hod (by rw [putName_eq]; rfl),putName_eq]
 have hlen:(fPut fs name (er rv)).length≤fs.length + 1:=by
  have:∀ l:List (Str × V),(fPut l name (er rv)).length≤l.length + 1:=fun l=>by
   induction l with
   | nil=>exact Nat.le_refl _
   | cons p r ih=>unfold fPut; split <;> first | exact Nat.le_succ _ | exact Nat.succ_le_succ ih
  exact this fs
 have hp:=putIn_kv (x:=name) (t:=s.toks + 1) (hh:=PyData.keyHash c.w.params name) (v:=rv) q
 refine wpAny_updatePart hod (wpAny_bind (wpAny_lookBehind hup (pastItsLine_dict ?_) (wpAny_pure ⟨_,R.upd (o':=.ns (fPut fs name v)) I.n (fun b ob hb eb=>(Heap.get?_update_other _ _ (Ne.symm hb)).trans eb) ⟨_,hup,_,_,sl,rfl,by rw [← e2]; exact hp⟩,h⟩)))
 have:=congrArg List.length hp
 rw [List.length_map,List.length_map] at this
 rw [List.size_toArray,this]
 exact Nat.le_trans hlen (Nat.le_trans hfs (by rw [sizeLine_eq]; decide))⟩
end
end Mine
end
section
open Builtin Builtin.ObjectAttr
namespace Mine
theorem check_base {M:Model} {A:Around} {E:Value→Shared→Prop} {s:Shared} {i owner n:String} {self:Value} {rest:List Value} {Q:Unit→Shared→Prop}
  (hk:builtinKind i=some .slot∨builtinKind i=some .method) (hs:splitId i=some (owner,n)) (hi:Looks M s.heap (isInstance self (.type owner)) true) (ha:argsOk i ⟨self::rest,[]⟩) (q:Q () s) :
  wpAny M A (checkBuiltinCall i ⟨self::rest,[]⟩) Q E s:=by
 rcases hk with h | h <;>
 ·simp only [checkBuiltinCall,h,hs]
  refine wpAny_bind (hi.here ?_)
  simp only [Bool.not_true,Bool.false_eq_true,if_false]
  cases hsig:Manifest.signature? i with
  | none=>exact wpAny_pure q
  | some sig=>
   simp only [argsOk,hsig] at ha
   exact wpAny_of_eq ha q
noncomputable abbrev fins (M:Model) (A:Around) (Q:Value→Shared→Prop):Fin→Shared→Prop:=fun fin s'=>match fin with
 | .done f=>wants Q BOT (.ok f) s'
 | .again c'=>c'.quiet=true∧codeAny M A c' (wants Q BOT) s'
theorem call_base {prog:Program} {w:World} {A:Around} {s:Shared} {i n:String} {b:Builtin} {self:Value} {rest:List Value} {Q:Value→Shared→Prop}
  (hk:builtinKind i=some .slot∨builtinKind i=some .method) (hs:splitId i=some ("list",n)) (hp:plainId i=true) (hb:entryFor table i=some b) (hi:Looks (model prog w) s.heap (isInstance self (.type "list")) true) (ha:argsOk i ⟨self::rest,[]⟩)
  (h:wpAny (model prog w) A.in1 (b ⟨self::rest,[]⟩) (fins (model prog w) A Q) BOT s):wpAny (model prog w) A (PySem.call (.builtin i) (self::rest)) Q BOT s:=
 wpAny_call (codeAny_call_builtin hp hb (check_base hk hs hi ha (wpAny_mono h (fun _ _ x=>x) fun _ _ x=>x.elim)))
structure DomFacts (c:Cx):Prop where
 cls:ClsOk c.K DomC
 list:mroIn c.K DomC (.type "list")=some true
 deque:mroIn c.K DomC (.type "collections.deque")=some false
 getitem:findIn c.K (.ref DomC) "__getitem__"=some (some (.builtin "list.__getitem__"))
 contains:findIn c.K (.ref DomC) "__contains__"=some (some (.builtin "list.__contains__"))
 len:findIn c.K (.ref DomC) "__len__"=some (some (.builtin "list.__len__"))
 bool:findIn c.K (.ref DomC) "__bool__"=some none
section
variable {c:Cx} {n:Nat} {H:AH} {Q:V→AH→Prop} {a l d:Addr} {vs us:List V} {ns:List Int} {A:Around} {Z:Froz} {s:Shared} {xs:List Value} {m:Nat}
theorem SeqAt.type (S:SeqAt (.sub d) s a vs xs m):Looks c.M s.heap (typeOf (.ref a)) (.ref DomC):=(Looks.ld S.e).andThen .now
theorem SeqAt.inst (S:SeqAt (.sub d) s a vs xs m) (D:DomFacts c) (R:Rel c Z H s):Looks c.M s.heap (isInstance (.ref a) (.type "list")) true:=S.type.andThen (looks_mroIn R.KIn D.list)
theorem SeqAt.special {name:Str} {r:Option Value} (S:SeqAt (.sub d) s a vs xs m) (R:Rel c Z H s) (hf:findIn c.K (.ref DomC) name=some r):Looks c.M s.heap (specialOf (.ref a) name) r:=S.type.andThen (looks_findIn R.KIn hf)
theorem dom_len {W:Value→Shared→Prop} (D:DomFacts c) (R:Rel c Z H s) (S:SeqAt (.sub d) s a vs xs m) (h:∀ t tk,W (.int vs.length t) { s with toks:=tk }):wpAny c.M A (Builtin.«len» ⟨[.ref a],[]⟩) (fun fin s'=>∃ r,fin=.done (.ret r)∧W r s') BOT s:=by
 unfold Builtin.«len»
 refine wpAny_bind (m:=oneArg "len" _) (wpAny_pure (wpAny_bind (m:=callSpecial? (.ref a) (Str.ofString "__len__")) ?_))
 unfold callSpecial?
 refine wpAny_bind ((S.special (name:=Str.ofString "__len__") R D.len).here (wpAny_holding ?_))
 rw [slot_list_len.bind]
 refine wpAny_bind (wpAny_pure (wpAny_bind (call_base (n:="__len__") (.inl (by decide +kernel)) (by decide +kernel) slot_list_len.plain entry_list_len (S.inst D R) (args_list_len _) ?_)))
 show wpAny _ _ (do retInt (← seqSize a)) _ _ s
 unfold seqSize
 refine wpAny_bind (wpAny_bind (wpAny_load S.e (wpAny_pure (wpAny_bind (wpAny_mkInt (wpAny_pure ?_))))))
 show wpAny c.M A (pure _) _ _ _
 refine wpAny_pure (wpAny_bind (wpAny_holding (wpAny_pure (wpAny_bind (wpAny_letGo ?_)))))
 show wpAny _ _ (if ((xs.toArray.size:Nat):Int) < 0 then _ else _) _ _ _
 rw [if_neg (Int.not_lt.mpr (Int.natCast_nonneg _))]
 show wpAny _ _ (if ((xs.toArray.size:Nat):Int)≥2 ^ 63 then _ else _) _ _ _
 rw [if_neg (Int.not_le.mpr S.lt63)]
 refine wpAny_bind (wpAny_mkInt (wpAny_pure ⟨_,rfl,?_⟩))
 rw [List.size_toArray,S.len]
 exact h _ _
theorem CallV.lenDom (D:DomFacts c) (e:H a=some (.sub d vs)) (h:Q (.int vs.length) H):CallV c n (.oth (.builtin "len")) [.ref a] H Q:=.bs e fun ws A Z s xs m hr R S e2=>by
 cases List.map_eq_nil_iff.mp e2
 exact Calls.call_function_entry kind_len plain_len entry_len (args_len1 _) (dom_len D R S fun t tk=>⟨H,R.toks,h⟩)
theorem TruthT.dom (D:DomFacts c) (e:H a=some (.sub d vs)) (h:Q (.bool (!vs.isEmpty)) H):TruthT c n (.ref a) H Q:=⟨fun v e1 A Z s hr R=>by
 obtain rfl:=er_ref e1
 obtain ⟨xs,m,S⟩:=R.seqAt e
 unfold truthy callSpecial?
 have tail:wpAny c.M A (do
   if (← specialOf (.ref a) "__len__").isNone then return true
   match ← runValue (.builtin "len" ⟨[.ref a],[]⟩) with
   | .int n _=>return n != 0
   | _=>unsupported "internal:truth.len") (PQ c Z fun b=>Q (.bool b)) BOT s:=by
  refine wpAny_bind ((S.special (name:=Str.ofString "__len__") R D.len).here ?_)
  rw [if_neg (show ¬ (some (Value.builtin "list.__len__")).isNone=true from Bool.false_ne_true)]
  refine wpAny_bind (wpAny_runValue (codeAny_builtin entry_len ?_))
  rw [Around.under_plainId plain_len _]
  refine wpAny_mono (dom_len (A:=A.in1) (W:=fun r s'=>∃ t tk,r=.int vs.length t∧s'={ s with toks:=tk }) D R S fun t tk=>⟨t,tk,rfl,rfl⟩) (fun fin s' q=>?_) fun _ _ e=>e.elim
  obtain ⟨r,rfl,t,tk,rfl,rfl⟩:=q
  exact wpAny_pure ⟨H,R.toks,by rw [show (((vs.length:Nat):Int) != 0)=!vs.isEmpty by cases vs <;> rfl]; exact h⟩
 first
  | exact wpAny_bind (wpAny_bind ((S.special (name:=Str.ofString "__bool__") R D.bool).here (wpAny_pure tail)))
  | exact wpAny_bind (wpAny_pure (wpAny_bind (wpAny_bind ((S.special (name:=Str.ofString "__bool__") R D.bool).here (wpAny_pure (wpAny_bind (wpAny_pure tail)))))))
  | exact wpAny_bind (wpAny_pure (wpAny_bind (wpAny_bind ((S.special (name:=Str.ofString "__bool__") R D.bool).here (wpAny_pure tail)))))⟩
theorem SliceT.dom' {lo up:V} {x y:Option Int} (D:DomFacts c) (e:H a=some (.sub d vs)) (hlo:optInt lo=some x) (hup:optInt up=some y) (h:∀ L,H L=none→Q (.ref L) (H.set L (.list (cut x y vs)))):SliceT c n (.ref a) lo up H Q:=⟨fun rv rl ru e1 e2 e3 A Z s sl hr R hsl=>by
 obtain rfl:=er_ref e1
 have pl:=isPart_of (e2▸hlo)
 have pu:=isPart_of (e3▸hup)
 obtain ⟨xs,m,S⟩:=R.seqAt e
 have X:=R.KIn
 refine wpAny_bind ((S.special (name:=Str.ofString "__getitem__") R D.getitem).here (wpAny_pure ⟨rfl,?_⟩))
 have hTs:s.TypeIs (.ref sl) "slice":=⟨_,hsl,rfl⟩
 unfold getItem
 refine wpAny_holding (wpAny_bind ?_)
 unfold sequenceKey
 refine wpAny_bind (S.type.here ?_)
 show wpAny c.M A ((seqItemTypes.anyM fun n=>isSubtype (.ref DomC) (.type n)) >>= _) _ _ s
 unfold seqItemTypes
 refine wpAny_bind (wpAny_bind ((looks_mroIn X D.deque).here ?_))
 refine wpAny_pure (wpAny_pure ?_)
 unfold callSpecial?
 refine wpAny_bind (wpAny_bind ((S.special (name:=Str.ofString "__getitem__") R D.getitem).here (wpAny_holding ?_)))
 rw [slot_list_getitem.bind]
 refine wpAny_bind (wpAny_pure (wpAny_bind (call_base (n:="__getitem__") (.inr (by decide +kernel)) (by decide +kernel) slot_list_getitem.plain entry_list_getitem (S.inst D R) (args_list_getitem _ _) ?_)))
 show wpAny _ _ (Builtin.List.listSubscript? (.ref sl) >>= _) _ _ _
 refine wpAny_bind ?_
 unfold Builtin.List.listSubscript?
 refine wpAny_bind (wpAny_specialOf hTs slice_no_index ?_)
 rw [if_pos (show (none:Option Value).isNone=true from rfl)]
 refine wpAny_pure ?_
 show wpAny _ _ (typeOf (.ref sl) >>= _) _ _ _
 refine wpAny_bind (wpAny_typeOf hTs ?_)
 rw [if_neg (by decide),listSliceParts_eq]
 refine wpAny_bind (wpAny_bind (wpAny_field hsl rfl (x:=.none) rfl (wpAny_bind (wpAny_listPart .none ?_))))
 rw [if_neg (show ¬ ((rawPart none == rawInt 0)=true) from Bool.false_ne_true)]
 refine wpAny_bind (wpAny_field hsl rfl (x:=rl) rfl (wpAny_bind (wpAny_listPart pl (wpAny_bind (wpAny_field hsl rfl (x:=ru) rfl (wpAny_bind (wpAny_listPart pu (wpAny_pure (wpAny_bind (m:=Builtin.List.listItems (.ref a)) ?_)))))))))
 unfold Builtin.List.listItems
 refine wpAny_bind (wpAny_seqItems S.e rfl (wpAny_pure (wpAny_bind (wpAny_of_eq (sliceIndices_raw x y none xs.toArray.size (by decide)) ?_))))
 refine wpAny_bind (wpAny_newObj_type (wpAny_pure ?_) (Nat.le_trans (slicePick_size_le xs.toArray x y none) (by rw [List.size_toArray,S.len]; exact le_sizeLine S.le)))
 show wpAny c.M A (pure _) _ _ _
 refine wpAny_pure (wpAny_pure ?_)
 show PQ c Z (fun r=>Q (er r)) (.ref s.heap.objs.size) { s with heap:=s.heap.push ⟨.type "list",none,.seq (slicePick xs.toArray x y none) 0,#[]⟩ }
 rw [slicePick_one]
 exact ⟨_,R.newSeq (k:=.list) (m:=0) (cut_er S.er) (cut_le S.le),h _ (R.freshH (get?_size_none _))⟩⟩
theorem SliceT.dom (D:DomFacts c) (e:H a=some (.sub d vs)) (h:∀ L,H L=none→Q (.ref L) (H.set L (.list vs))):SliceT c n (.ref a) .none .none H Q:=.dom' (x:=none) (y:=none) D e rfl rfl (by rw [cut_all]; exact h)
theorem CallV.extendDom (D:DomFacts c) (e:H a=some (.sub d vs)) (e':H l=some (.list us)) (hl:vs.length + us.length≤100000) (h:Q .none (H.set a (.sub d (vs++us)))):CallV c n (.oth (.builtin "list.extend")) [.ref a,.ref l] H Q:=.bs e fun ws A Z s xs m hr R S e2=>by
 obtain ⟨y,rfl,e4⟩:=er_1 e2
 obtain rfl:=er_ref e4
 obtain ⟨ys,k,T⟩:=R.seqAt e'
 refine call_base (n:="extend") (.inr (by decide +kernel)) (by decide +kernel) PySem.F.slot_list_extend.plain PySem.F.entry_list_extend (S.inst D R) (PySem.F.args_list_extend_2 _ _) ?_
 show wpAny _ _ (Builtin.List.listExtendWith (.ref a) (.ref l) .none) _ _ _
 unfold Builtin.List.listExtendWith
 refine wpAny_bind (wpAny_typeOf (T:="list") ⟨_,T.e,rfl⟩ ?_)
 rw [if_pos (by rw [show (Value.type "list" == Value.type "list")=true from rfl,Bool.or_true,Bool.true_or])]
 refine wpAny_bind (listItems_at T.e rfl (wpAny_bind (listItems_at S.e rfl ?_)))
 have hs:=le_sizeLine hl
 rw [if_neg (by simp [Builtin.List.listTooLong,S.len,T.len]; intro _; exact hs)]
 refine wpAny_bind (listUpdate_at S.e rfl (wpAny_pure ⟨_,R.setSeq (us:=vs++us) (xs:=xs++ys) (m:=if (xs++ys).toArray.size == xs.toArray.size then m else m + 1) e (by rw [List.length_append]; exact hl) ?_ (by rw [List.map_append,S.er,T.er]) fun b ob hb eb=>(Heap.get?_update_other _ _ (Ne.symm hb)).trans eb,h⟩) (by rw [List.size_toArray,S.len]; exact le_sizeLine S.le) (by rw [Array.size_append,List.size_toArray,List.size_toArray,S.len,T.len]; exact Nat.le_succ_of_le hs))
 exact (Heap.get?_update_self _ S.e rfl).trans (by unfold Obj.mapSeq; dsimp only; rw [show xs.toArray++ys.toArray=(xs++ys).toArray from List.append_toArray ..])
theorem CallV.initDom (D:DomFacts c) (e:H a=some (.sub d [])) (e':H l=some (.list us)) (h:Q .none (H.set a (.sub d us))):CallV c n (.oth (.builtin "list.__init__")) [.ref a,.ref l] H Q:=.bs e fun ws A Z s xs m hr R S e2=>by
 obtain ⟨y,rfl,e4⟩:=er_1 e2
 obtain rfl:=er_ref e4
 cases List.map_eq_nil_iff.mp S.er
 obtain ⟨ys,k,T⟩:=R.seqAt e'
 have ne:l≠a:=fun q=>by rw [q,e] at e'; cases e'
 have g0:(s.heap.update a (Obj.mapSeq fun _=>#[])).get? a=some (seqOb (.sub d) [] m):=Heap.get?_update_self _ S.e rfl
 have hl:ys.toArray.size≤sizeLine:=by rw [List.size_toArray,T.len]; exact le_sizeLine T.le
 refine call_base (n:="__init__") (.inl (by decide +kernel)) (by decide +kernel) PySem.F.slot_list_init.plain PySem.F.entry_list_init (S.inst D R) (PySem.F.args_list_init_2 _ _) ?_
 show wpAny _ _ (do let old ← Builtin.List.listItems (.ref a); Builtin.List.listUpdate (.ref a) (fun _=>#[]); letGo old.toList.reverse; Builtin.List.listExtendWith (.ref a) (.ref l) .none) _ _ s
 refine wpAny_bind (listItems_at S.e rfl (wpAny_bind (listUpdate_at S.e rfl (wpAny_bind (wpAny_letGo ?_)) (Nat.zero_le _) (Nat.zero_le _))))
 have p1:(s.heap.update a (Obj.mapSeq fun _=>#[])).get? l=some (seqOb .list ys k):=(Heap.get?_update_other _ _ (Ne.symm ne)).trans T.e
 unfold Builtin.List.listExtendWith
 refine wpAny_bind (wpAny_typeOf (T:="list") ⟨_,p1,rfl⟩ ?_)
 rw [if_pos (by rw [show (Value.type "list" == Value.type "list")=true from rfl,Bool.or_true,Bool.true_or])]
 refine wpAny_bind (listItems_at p1 rfl (wpAny_bind (listItems_at g0 rfl ?_)))
 rw [if_neg (by simp)]
 refine wpAny_bind (listUpdate_at g0 rfl (wpAny_pure ⟨_,R.setSeq (us:=us) (xs:=ys) (m:=if ys.toArray.size == ([]:List Value).toArray.size then m else m + 1) e T.le ?_ T.er fun b ob hb eb=>(Heap.get?_update_other _ _ (Ne.symm hb)).trans ((Heap.get?_update_other _ _ (Ne.symm hb)).trans eb),h⟩) (Nat.zero_le _) (by rw [Array.size_append]; exact Nat.le_succ_of_le (by rw [show (([]:List Value).toArray).size=0 from rfl,Nat.zero_add]; exact hl)))
 exact (Heap.get?_update_self _ g0 rfl).trans (by unfold Obj.mapSeq; dsimp only; rw [show ([]:List Value).toArray++ys.toArray=ys.toArray from by simp])
end
end Mine
end
section
open Builtin Builtin.ObjectAttr
namespace Mine
noncomputable def firstAt (k:Int):List Int→Nat
 | []=>0
 | x::r=>if x=k then 0 else firstAt k r + 1
theorem firstAt_ok {k:Int}:∀ {l:List Int},k∈l→l.getD (firstAt k l) 0=k∧firstAt k l < l.length∧(∀ j,j < firstAt k l→l.getD j 0≠k)∧l.eraseIdx (firstAt k l)=l.erase k
 | x::r,hm=>by
  unfold firstAt
  by_cases q:x=k
  ·rw [if_pos q,List.erase_cons,beq_iff_eq.mpr q]
   exact ⟨q,Nat.succ_pos _,fun j hj=>absurd hj (Nat.not_lt_zero _),rfl⟩
  ·have ih:=firstAt_ok ((List.mem_cons.mp hm).resolve_left fun w=>q w.symm)
   rw [if_neg q,List.erase_cons,beq_eq_false_iff_ne.mpr q]
   refine ⟨ih.1,Nat.succ_lt_succ ih.2.1,fun j hj=>?_,congrArg (x::·) ih.2.2.2⟩
   cases j with
   | zero=>exact q
   | succ j=>exact ih.2.2.1 j (Nat.lt_of_succ_lt_succ hj)
theorem map_eraseIdx {α β:Type} (f:α→β):∀ (l:List α) (i:Nat),(l.eraseIdx i).map f=(l.map f).eraseIdx i
 | [],_=>rfl
 | _::_,0=>rfl
 | x::r,i + 1=>congrArg (f x::·) (map_eraseIdx f r i)
section
variable {c:Cx} {n:Nat} {H:AH} {Q:V→AH→Prop} {a l d:Addr} {ns:List Int} {Z:Froz} {s:Shared} {xs:List Value} {m:Nat} {k:Int} {t:Tok}
theorem IntsAre.at' (hI:IntsAre xs ns) {i:Nat} (h:i < ns.length):∃ u,xs.toArray[((i:Nat):Int).toNat]?=some (.int (ns.getD i 0) u):=by
 have hx:i < xs.length:=hI.length▸h
 obtain ⟨u,e⟩:=IntsAre.int_at hI i _ (List.getElem?_eq_getElem hx)
 exact ⟨u,by rw [Int.toNat_natCast,List.getElem?_toArray,List.getElem?_eq_getElem hx,e]⟩
theorem dom_contains_loop {W:Value→Shared→Prop} (S:SeqAt (.sub d) s a (iL ns) xs m) (h:W (.bool (decide (k∈ns))) s) :
  ∀ (r i:Nat) (A:Around),ns.length - i=r→(∀ j,j < i→ns.getD j 0≠k)→wpAny c.M A.in1 (Builtin.«list.__contains__.loop» ⟨[.ref a,.int k t,rawInt i],[]⟩) (fins c.M A W) BOT s:=by
 have hI:=intsAre_of S.er
 intro r
 induction r with
 | zero=>
  intro i A hr hno
  show wpAny c.M _ (Builtin.List.listItems (.ref a) >>= _) _ _ _
  refine wpAny_bind (listItems_at S.e rfl ?_)
  rw [show xs.toArray[((i:Nat):Int).toNat]?=none from Array.getElem?_eq_none (by rw [List.size_toArray,hI.length,Int.toNat_natCast]; exact Nat.le_of_sub_eq_zero hr)]
  refine wpAny_pure ?_
  rw [decide_eq_false fun hm=>by
   have F:=firstAt_ok hm
   exact hno _ (Nat.lt_of_lt_of_le F.2.1 (Nat.le_of_sub_eq_zero hr)) F.1] at h
  exact h
 | succ r ih=>
  intro i A hr hno
  have hi:i < ns.length:=Nat.lt_of_sub_eq_succ hr
  obtain ⟨u,hu⟩:=IntsAre.at' hI hi
  show wpAny c.M _ (Builtin.List.listItems (.ref a) >>= _) _ _ _
  refine wpAny_bind (listItems_at S.e rfl ?_)
  rw [hu]
  refine wpAny_bind (MeetsSeq.EqGives.int (ns.getD i 0) k u t _ _ _ _ _ _ ?_)
  by_cases q:ns.getD i 0=k
  ·rw [if_pos (beq_iff_eq.mpr q)]
   rw [decide_eq_true (by rw [← q]; exact getD_mem hi)] at h
   exact wpAny_pure h
  ·rw [if_neg fun w=>q (beq_iff_eq.mp w)]
   refine wpAny_pure ⟨plainId_quiet MeetsSeq.plain_contains_loop _,codeAny_builtin MeetsSeq.entry_contains_loop ?_⟩
   rw [Around.under_plainId MeetsSeq.plain_contains_loop _]
   exact wpAny_mono (ih (i + 1) A (by rw [Nat.sub_add_eq,hr]; rfl) fun j hj=>(Nat.lt_or_eq_of_le (Nat.le_of_lt_succ hj)).elim (hno j) fun w=>w▸q) (fun _ _ x=>x) fun _ _ x=>x.elim
theorem dom_contains {A:Around} {W:Bool→Shared→Prop} (D:DomFacts c) (R:Rel c Z H s) (S:SeqAt (.sub d) s a (iL ns) xs m) (h:W (decide (k∈ns)) s):wpAny c.M A (contains (.ref a) (.int k t)) W BOT s:=by
 unfold contains
 refine wpAny_holding (wpAny_bind ((S.special (name:=Str.ofString "__contains__") R D.contains).here ?_))
 show wpAny _ _ (if (some (Value.builtin "list.__contains__") == some Value.none)=true then _ else _) _ _ s
 rw [if_neg (by rw [beq_builtin_none]; exact Bool.false_ne_true)]
 refine wpAny_bind ?_
 unfold callSpecialUnlessNone?
 refine wpAny_bind ((S.special (name:=Str.ofString "__contains__") R D.contains).here (wpAny_holding ?_))
 rw [slot_list_contains.bind]
 refine wpAny_bind (wpAny_pure ?_)
 show wpAny _ _ (if (Value.builtin "list.__contains__" == Value.none)=true then _ else _) _ _ s
 rw [if_neg (show ¬ ((Value.builtin "list.__contains__" == Value.none)=true) from Bool.false_ne_true)]
 refine wpAny_bind (wpAny_mono (Q:=fun v s'=>v=.bool (decide (k∈ns))∧s'=s) (call_base (n:="__contains__") (.inl (by decide +kernel)) (by decide +kernel) slot_list_contains.plain entry_list_contains (S.inst D R) (PySem.F.args_list_contains_2 _ _) (wpAny_pure ⟨plainId_quiet MeetsSeq.plain_contains_loop _,codeAny_builtin MeetsSeq.entry_contains_loop ?_⟩)) (fun v s' q=>?_) fun _ _ e=>e)
 ·rw [Around.under_plainId MeetsSeq.plain_contains_loop _]
  exact wpAny_mono (dom_contains_loop (k:=k) (t:=t) S ⟨rfl,rfl⟩ _ 0 A rfl fun j hj=>absurd hj (Nat.not_lt_zero _)) (fun _ _ x=>x) fun _ _ x=>x.elim
 ·obtain ⟨rfl,rfl⟩:=q
  exact wpAny_pure (wpAny_truthy_bool h)
theorem CmpT.inDom (D:DomFacts c) (e:H a=some (.sub d (iL ns))) (h:Q (.bool (decide (k∈ns))) H):CmpT c n .In (.int k) (.ref a) H Q:=⟨fun ri rv e2 e1 A Z s hr R=>by
 obtain rfl:=er_ref e1
 obtain ⟨t,rfl⟩:=er_int e2
 obtain ⟨xs,m,S⟩:=R.seqAt e
 show wpAny _ _ (do return Value.bool (← contains (.ref a) (.int k t))) _ _ s
 exact wpAny_bind (dom_contains D R S (wpAny_pure ⟨H,R,h⟩))⟩
theorem CmpT.notInDom (D:DomFacts c) (e:H a=some (.sub d (iL ns))) (h:Q (.bool (!decide (k∈ns))) H):CmpT c n .NotIn (.int k) (.ref a) H Q:=⟨fun ri rv e2 e1 A Z s hr R=>by
 obtain rfl:=er_ref e1
 obtain ⟨t,rfl⟩:=er_int e2
 obtain ⟨xs,m,S⟩:=R.seqAt e
 show wpAny _ _ (do return Value.bool (!(← contains (.ref a) (.int k t)))) _ _ s
 exact wpAny_bind (dom_contains D R S (wpAny_pure ⟨H,R,h⟩))⟩
theorem dom_remove_loop {W:Value→Shared→Prop} (S:SeqAt (.sub d) s a (iL ns) xs m) (hk:k∈ns)
  (h:∀ h' m',h'.get? a=some (seqOb (.sub d) (xs.eraseIdx (firstAt k ns)) m')→Heap.ExtBut a s.heap h'→W .none { s with heap:=h' }) :
  ∀ (r i:Nat) (A:Around),firstAt k ns - i=r→i≤firstAt k ns→wpAny c.M A.in1 (Builtin.«list.remove.loop» ⟨[.ref a,.int k t,rawInt i],[]⟩) (fins c.M A W) BOT s:=by
 have F:=firstAt_ok hk
 have hI:=intsAre_of S.er
 intro r
 induction r with
 | zero=>
  intro i A hr hle
  obtain rfl:=Nat.le_antisymm hle (Nat.le_of_sub_eq_zero hr)
  obtain ⟨u,hu⟩:=IntsAre.at' hI F.2.1
  show wpAny c.M _ (Builtin.List.listItems (.ref a) >>= _) _ _ _
  refine wpAny_bind (listItems_at S.e rfl ?_)
  rw [hu,F.1]
  refine wpAny_bind (MeetsSeq.EqGives.int k k u t _ _ _ _ _ _ ?_)
  rw [if_pos (beq_self_eq_true k)]
  have hsz:xs.toArray.size≤sizeLine:=by rw [List.size_toArray,S.len]; exact le_sizeLine S.le
  have hx:xs.toArray.eraseIdxIfInBounds ((firstAt k ns:Nat):Int).toNat=(xs.eraseIdx (firstAt k ns)).toArray:=by rw [Int.toNat_natCast,List.eraseIdxIfInBounds_toArray]
  refine wpAny_bind (listUpdate_at S.e rfl (wpAny_pure (h _ (if (xs.eraseIdx (firstAt k ns)).toArray.size == xs.toArray.size then m else m + 1) ?_ fun b ob hb eb=>(Heap.get?_update_other _ _ (Ne.symm hb)).trans eb)) hsz ?_)
  ·rw [Heap.get?_update_self _ S.e rfl]
   unfold Obj.mapSeq
   dsimp only
   rw [hx]
  ·rw [hx]
   exact Nat.le_trans (by rw [List.size_toArray,List.size_toArray]; exact List.length_eraseIdx_le ..) (Nat.le_succ_of_le hsz)
 | succ r ih=>
  intro i A hr hle
  have hi:i < firstAt k ns:=Nat.lt_of_sub_eq_succ hr
  obtain ⟨u,hu⟩:=IntsAre.at' hI (Nat.lt_trans hi F.2.1)
  show wpAny c.M _ (Builtin.List.listItems (.ref a) >>= _) _ _ _
  refine wpAny_bind (listItems_at S.e rfl ?_)
  rw [hu]
  refine wpAny_bind (MeetsSeq.EqGives.int (ns.getD i 0) k u t _ _ _ _ _ _ ?_)
  rw [if_neg fun w=>F.2.2.1 i hi (beq_iff_eq.mp w)]
  refine wpAny_pure ⟨plainId_quiet MeetsSeq.plain_remove_loop _,codeAny_builtin MeetsSeq.entry_remove_loop ?_⟩
  rw [Around.under_plainId MeetsSeq.plain_remove_loop _]
  exact wpAny_mono (ih (i + 1) A (by rw [Nat.sub_add_eq,hr]; rfl) hi) (fun _ _ x=>x) fun _ _ x=>x.elim
theorem CallV.removeDom (D:DomFacts c) (e:H a=some (.sub d (iL ns))) (hk:k∈ns) (h:Q .none (H.set a (.sub d (iL (ns.erase k))))):CallV c n (.oth (.builtin "list.remove")) [.ref a,.int k] H Q:=.bs e fun ws A Z s xs m hr R S e2=>by
 obtain ⟨y,rfl,e4⟩:=er_1 e2
 obtain ⟨t,rfl⟩:=er_int e4
 refine call_base (n:="remove") (.inr (by decide +kernel)) (by decide +kernel) PySem.F.slot_list_remove.plain PySem.F.entry_list_remove (S.inst D R) (PySem.F.args_list_remove_2 _ _) (wpAny_pure ⟨plainId_quiet MeetsSeq.plain_remove_loop _,codeAny_builtin MeetsSeq.entry_remove_loop ?_⟩)
 rw [Around.under_plainId MeetsSeq.plain_remove_loop _]
 exact wpAny_mono (dom_remove_loop S hk (fun h' m' g hb=>⟨_,R.setSeq (us:=iL (ns.erase k)) e (by rw [List.length_map]; exact Nat.le_trans (List.length_erase_le ..) (List.length_map V.int▸S.le)) g (by rw [map_eraseIdx,S.er,← map_eraseIdx,(firstAt_ok hk).2.2.2]) hb,h⟩) _ 0 A rfl (Nat.zero_le _)) (fun _ _ x=>x) fun _ _ x=>x.elim
end
end Mine
end
section
open Builtin Builtin.ObjectAttr
namespace Mine
theorem filterMap_take {α:Type} (F:α × Nat→Option α) (a:Nat):∀ (l:List α) (j:Nat),(∀ x k,j≤k→k < j + l.length→F (x,k)=if a≤k then none else some x)→(l.zipIdx j).filterMap F=l.take (a - j)
 | [],j,_=>by rw [List.take_nil]; rfl
 | x::r,j,h=>by
  have ih:=filterMap_take F a r (j + 1) fun x k h1 h2=>h x k (Nat.le_of_succ_le h1) (by rw [List.length_cons,← Nat.add_assoc,Nat.add_right_comm]; exact h2)
  have hj:=h x j (Nat.le_refl _) (Nat.lt_add_of_pos_right (Nat.succ_pos _))
  rw [List.zipIdx_cons]
  rcases Nat.lt_or_ge j a with q | q
  ·rw [if_neg (Nat.not_le.mpr q)] at hj
   rw [List.filterMap_cons_some hj,ih,show a - j=(a - (j + 1)) + 1 from (Nat.succ_sub_succ a j▸Nat.succ_sub q:a - j=_)]; rfl
  ·rw [if_pos q] at hj
   rw [List.filterMap_cons_none hj,ih,Nat.sub_eq_zero_of_le q,Nat.sub_eq_zero_of_le (Nat.le_succ_of_le q)]; rfl
section
variable {c:Cx} {n:Nat} {H:AH} {Q:V→AH→Prop} {a l C:Addr} {vs us:List V}
theorem DelS.tail {d:Nat} (e:H l=some (.list vs)) (h0:0 < d) (hd:d≤vs.length) (h:Q .none (H.set l (.list (vs.take (vs.length - d))))):DelS c n (.ref l) (.int (-(d:Int))) H Q:=⟨fun rv rl e1 e2 A Z s sl hr R hsl=>by
 obtain rfl:=er_ref e1
 obtain ⟨t,rfl⟩:=er_int e2
 obtain ⟨xs,m,S⟩:=R.seqAt e
 have hTs:s.TypeIs (.ref sl) "slice":=⟨_,hsl,rfl⟩
 have hT:s.TypeIs (.ref l) "list":=⟨_,S.e,rfl⟩
 refine wpAny_delItem_slot hT (by decide) PySem.F.slot_list_delitem (wpAny_call_entry PySem.F.slot_list_delitem hT PySem.F.entry_list_delitem ?_ (PySem.F.args_list_delitem_2 _ _))
 show wpAny _ _ (Builtin.List.listSubscript? (.ref sl) >>= _) _ _ _
 refine wpAny_bind ?_
 unfold Builtin.List.listSubscript?
 refine wpAny_bind (wpAny_specialOf hTs slice_no_index ?_)
 rw [if_pos (show (none:Option Value).isNone=true from rfl)]
 refine wpAny_pure ?_
 show wpAny _ _ (typeOf (.ref sl) >>= _) _ _ _
 refine wpAny_bind (wpAny_typeOf hTs ?_)
 rw [if_neg (by decide),listSliceParts_eq]
 refine wpAny_bind (wpAny_bind (wpAny_field hsl rfl (x:=.none) rfl (wpAny_bind (wpAny_listPart .none ?_))))
 rw [if_neg (show ¬ ((rawPart none == rawInt 0)=true) from Bool.false_ne_true)]
 refine wpAny_bind (wpAny_field hsl rfl (x:=.int (-(d:Int)) t) rfl (wpAny_bind (wpAny_listPart (.int _ _) (wpAny_bind (wpAny_field hsl rfl (x:=.none) rfl (wpAny_bind (wpAny_listPart .none (wpAny_pure ?_))))))))
 refine wpAny_bind (m:=Builtin.List.listItems (.ref l)) (listItems_at S.e rfl ?_)
 have hb:sliceBounds (some (-(d:Int))) none none xs.toArray.size=(((vs.length - d:Nat):Int),((vs.length:Nat):Int),(1:Int)):=by
  unfold sliceBounds
  rw [List.size_toArray,S.len]
  simp only [Option.getD_none,show (1:Int) > 0 by decide,if_true]
  refine Prod.ext ?_ (Prod.ext rfl rfl)
  show max 0 (min (if -(d:Int) < 0 then -(d:Int) + (vs.length:Int) else -(d:Int)) (vs.length:Int))=_
  rw [if_pos (Int.neg_neg_of_pos (Int.ofNat_lt.mpr h0)),neg_add_nat hd,clip_nat (Nat.sub_le ..)]
 have hi:=sliceIndices_raw (some (-(d:Int))) none none xs.toArray.size (by decide)
 rw [hb] at hi
 refine wpAny_bind (wpAny_of_eq hi (wpAny_bind (wpAny_rule ?_)))
 have hsz:xs.toArray.size≤sizeLine:=by rw [List.size_toArray,S.len]; exact le_sizeLine S.le
 have key:∀ (F:Value × Nat→Option Value),(∀ x k,F (x,k)=if (((vs.length - d:Nat):Int)≤(k:Int) && (k:Int) < (vs.length:Int) && ((k:Int) - ((vs.length - d:Nat):Int)) % 1 == 0) then none else some x)→(xs.toArray.toList.zipIdx.filterMap F).toArray=(xs.take (vs.length - d)).toArray:=fun F hF=>
  congrArg List.toArray (filterMap_take F (vs.length - d) xs 0 fun x k _ h2=>by
   rw [Nat.zero_add,S.len] at h2
   rw [hF,decide_eq_true (show (k:Int) < (vs.length:Int) from Int.ofNat_lt.mpr h2),Int.emod_one,Bool.and_true,beq_self_eq_true,Bool.and_true]
   by_cases q:vs.length - d≤k
   ·rw [if_pos (decide_eq_true (Int.ofNat_le.mpr q)),if_pos q]
   ·rw [if_neg (fun w=>q (Int.ofNat_le.mp (of_decide_eq_true w))),if_neg q])
 have hl:(vs.take (vs.length - d)).length≤100000:=by rw [List.length_take]; exact Nat.le_trans (Nat.min_le_right ..) S.le
 refine wpAny_bind (listUpdate_at S.e rfl (wpAny_bind (wpAny_letGo (wpAny_pure ⟨.none,rfl,_,R.setSeq (us:=vs.take (vs.length - d)) (xs:=xs.take (vs.length - d)) (m:=if (xs.take (vs.length - d)).toArray.size == xs.toArray.size then m else m + 1) e hl ?_ (by rw [List.map_take,S.er]) fun b ob hb eb=>(Heap.get?_update_other _ _ (Ne.symm hb)).trans eb,h⟩))) hsz ?_)
 ·rw [Heap.get?_update_self _ S.e rfl]
  unfold Obj.mapSeq
  dsimp only
  rw [key _ fun x k=>rfl]
 ·rw [key _ fun x k=>rfl]
  exact Nat.le_trans (by rw [List.size_toArray,List.length_take,List.size_toArray]; exact Nat.min_le_right ..) (Nat.le_succ_of_le hsz)⟩
theorem GetX.onCls {mc:Value} {name:Str} {f:Addr} (hg:specialIn c.K (.ref C) "__getattribute__"=some (some (.builtin "type.__getattribute__"))) (hr:readsIn c.K C mc=true) (e:findCls c.K (.ref C) mc name=some (.val (.ref f))):GetX c n (.ref C) name H (.ref f) false:=fun raw e1 A Z s pl hr' R Q h=>by
 obtain rfl:=er_ref e1
 exact method_cls R.KIn hg (cls_value R.KIn hr e rfl (h _))
theorem GetX.onList {name:Str} {id:String} (e:findCls c.K (.type "list") (.type "type") name=some (.val (.builtin id))) (hh:handedIn (.builtin id)=true) (hga:findIn c.K (.type "type") "__getattribute__"=some (some (.builtin "type.__getattribute__"))) (hsub:subIn c.K (.type "type") (.type "type")=some true):GetX c n (.oth (.type "list")) name H (.builtin id) false:=fun raw e1 A Z s pl hr' R Q h=>by
 obtain rfl:=er_oth e1
 have X:=R.KIn
 have ht:Looks c.M s.heap (typeOf (.type "list")) (.type "type"):=Looks.of_pure rfl
 unfold getMethod
 refine wpAny_bind ((show Looks c.M s.heap (specialOf (.type "list") "__getattribute__") _ from ht.andThen (looks_findIn X hga)).here ?_)
 dsimp only
 rw [if_pos canon_tga]
 refine wpAny_bind (cls_open (mc:=.type "type") (hook:=none) X (Looks.of_pure (by first | rfl | kernel_rfl)) ht hga (looks_hook X (by rfl)) hsub e (wpAny_pure ?_))
 show wpAny _ _ (handedOut (.builtin id)) _ _ _
 rw [handedOut_of hh]
 exact wpAny_pure (wpAny_pure (h _))
theorem CallV.inst {f d:Addr} {args:List V} (e:H a=some (.inst C d)) (hc:findIn c.K (.ref C) "__call__"=some (some (.ref f))) (hf:(fdOf c.K f).isSome=true) (hft:typeIn c.K (.ref f)=some (.type "function"))
  (h:CallC c n (.ref f) (.ref a::args) H Q):CallV c n (.ref a) args H Q:=by
 have inst:∀ {Z s},Rel c Z H s→s.heap.get? a=some ⟨.ref C,some d,.plain,#[]⟩:=fun R=>(R.real _ _ e).elim fun ob q=>q.1.trans (congrArg some q.2)
 refine ⟨fun Z s fv e1 R=>?_,fun fv vs e1 e2 A Z s hr R=>?_⟩
 ·obtain rfl:=er_ref e1
  refine ⟨.caller,(Looks.ld (part:=none) (inst R)).andThen ?_⟩
  exact .now
 obtain rfl:=er_ref e1
 have q1:=inst R
 have X:=R.KIn
 obtain ⟨fd,hfd⟩:=Option.isSome_iff_exists.mp hf
 obtain ⟨_,of,hof,hd⟩:=fdOf.ok hfd
 refine wpAny_call (codeAny_of_tree ?_)
 show wpAny _ _ (callAny (.ref a) _) _ _ _
 refine wpAny_bind (wpAny_load q1 ?_)
 show wpAny _ _ (callAny.viaDunder (.ref a) _) _ _ _
 unfold callAny.viaDunder
 have t1:Looks c.M s.heap (specialOf (.ref a) "__call__") (some (.ref f)):=((Looks.ld q1).andThen .now).andThen (looks_findIn X hc)
 refine wpAny_bind (t1.here (wpAny_bind ((bind_fn X (.ref a) hft).here (wpAny_bind (wpAny_bind (wpAny_load (X _ _ hof) ?_))))))
 rw [hd]
 refine wpAny_pure ?_
 rw [if_pos rfl]
 exact wpAny_pure ⟨rfl,codeAny_mono (h.go (.ref f) (.ref a::vs) rfl (by show V.ref a::vs.map er=_; rw [e2]) A Z s hr R) fun r s' z=>z⟩
end
end Mine
end
section
open Builtin Builtin.ObjectAttr
namespace Mine
theorem Room.under {n:Nat} {A:Around} {C:Addr} {vals:List Value} (r:Room (n + 1) A):Room n (A.under (.builtin "type.__call__" ⟨.ref C::vals,[]⟩)):=
 ⟨room_lt (j:=1) r.depth (by decide),room_lt (j:=1) r.units (by decide),r.handled⟩
structure Made (H:AH) (x d:Addr):Prop where
 hx:H x=none
 hd:H d=none
 ne:x≠d
noncomputable abbrev AH.two (H:AH) (x d:Addr) (o:AO):AH:=(H.set d (.ns [])).set x o
theorem Made.sub {H:AH} {x d:Addr} {o:AO} (m:Made H x d):Sub H (H.two x d o):=(Sub.new m.hd).trans (Sub.new ((AH.set_ne m.ne).trans m.hx))
theorem get2 {h:Heap} {o1 o2:Obj} (hf:o2.isFreed=false):((h.push o1).push o2).get? (h.objs.size + 1)=some o2:=by
 have:=Heap.get?_push_size (h.push o1) hf
 rwa [Heap.size_push] at this
section
variable {c:Cx} {n:Nat} {H:AH} {Q:V→AH→Prop} {C:Addr}
theorem Rel.two {Z:Froz} {s:Shared} {ob:Obj} {o:AO} (R:Rel c Z H s) (hf:ob.isFreed=false) (r:IsO c (s.heap.objs.size + 1) ob o) (nf:o.plain:=by trivial) :
  Rel c Z (H.two (s.heap.objs.size + 1) s.heap.objs.size o) { s with heap:=(s.heap.push emptyDict).push ob }∧Made H (s.heap.objs.size + 1) s.heap.objs.size:=by
 have R1:=R.new (o:=.ns []) (dr:=s.drawn) (tk:=s.toks) (get?_size_none _) (fun b ob e=>Heap.get?_push_of_some (emptyDict) e) ⟨_,Heap.get?_push_size _ rfl,[],0,#[],rfl,rfl⟩
 have g:(s.heap.push emptyDict).get? (s.heap.objs.size + 1)=none:=get?_ge_none (by rw [Heap.size_push]; exact Nat.le_refl _)
 exact ⟨R1.new g (fun b ob e=>Heap.get?_push_of_some _ e) ⟨_,get2 hf,r⟩ nf,R.freshH (get?_ge_none (Nat.le_succ _)),R.freshH (get?_size_none _),Nat.succ_ne_self _⟩
theorem CallV.mkInst {f:Addr} {args:List V} (hm:makesIn c.K C=true) (hk:keepIn c.K (.ref C)=true) (hi:findIn c.K (.ref C) "__init__"=some (some (.ref f))) (hf:typeIn c.K (.ref f)=some (.type "function"))
  (h:∀ x d,Made H x d→CallC c n (.ref f) (.ref x::args) (H.two x d (.inst C d)) fun r H'=>r=.none∧Q (.ref x) H'):CallV c (n + 1) (.ref C) args H Q:=by
 refine ⟨fun Z s fv e R=>by obtain rfl:=er_ref e; exact (looks_keep hk R.KIn).imp fun k q=>q.2,fun fv vs e1 e2 A Z s hr R=>?_⟩
 obtain rfl:=er_ref e1
 have X:=R.KIn
 obtain ⟨R2,M⟩:=R.two (ob:=instObj C s.heap.objs.size) (o:=.inst C s.heap.objs.size) rfl rfl
 refine wpAny_call (make_core (makes_of X hm) (looks_findIn X hi) (fun self=>bind_fn X self hf) (.inl rfl) (codeAny_mono ((h _ _ M).go (.ref f) (.ref (s.heap.objs.size + 1)::vs) rfl (congrArg (_::·) e2) _ Z _ hr.under R2) fun r s' z=>?_))
 rcases r with e | (v | _ | _ | _) <;> first | exact z.elim | skip
 exact z.elim fun H' z=>⟨er_none z.2.1,H',z.1,z.2.2⟩
theorem CallV.mkInst0 (hm:makesIn c.K C=true) (hk:keepIn c.K (.ref C)=true) (hi:findIn c.K (.ref C) "__init__"=some (some (.builtin "object.__init__"))) (h:∀ x d,Made H x d→Q (.ref x) (H.two x d (.inst C d))):CallV c n (.ref C) [] H Q:=by
 refine ⟨fun Z s fv e R=>by obtain rfl:=er_ref e; exact (looks_keep hk R.KIn).imp fun k q=>q.2,fun fv vs e1 e2 A Z s hr R=>?_⟩
 obtain rfl:=er_ref e1
 cases List.map_eq_nil_iff.mp e2
 have X:=R.KIn
 have Y:=makes_of (M:=c.M) X hm
 obtain ⟨R2,M⟩:=R.two (ob:=instObj C s.heap.objs.size) (o:=.inst C s.heap.objs.size) rfl rfl
 refine wpAny_call (make_core Y (looks_findIn X hi) (fun self=>Looks.of_pure (oi_bind self)) (.inr ⟨rfl,rfl⟩) ?_)
 have t1:Looks c.M ((s.heap.push emptyDict).push (instObj C s.heap.objs.size)) (typeOf (.ref (s.heap.objs.size + 1))) (.ref C):=(Looks.ld (get2 rfl)).andThen .now
 have t2:Looks c.M ((s.heap.push emptyDict).push (instObj C s.heap.objs.size)) (isInstance (.ref (s.heap.objs.size + 1)) (.type "object")) true:=t1.andThen (Y.top.keeps fun b o e=>Heap.get?_push_of_some _ (Heap.get?_push_of_some _ e))
 refine codeAny_call_builtin oi_plain entry_oi (@check_slot c.M _ _ _ "object.__init__" "object" "__init__" (.ref (s.heap.objs.size + 1)) [] [] _ oi_kind oi_split t2 (oi_args (.ref (s.heap.objs.size + 1))) ?_)
 rw [oi_run]
 exact wpAny_pure (And.intro rfl ⟨_,R2,h _ _ M⟩)
end
structure MkL (K:Frag) (S:Setting):Prop where
 ca:∀ v,peek K S (callAny (.ref DomC) ⟨[v],[]⟩)=some (.again (.call (.builtin "type.__call__") ⟨[.ref DomC,v],[]⟩))
 tc:∀ v,peek K S (callAny (.builtin "type.__call__") ⟨[.ref DomC,v],[]⟩)=some (.again (.builtin "type.__call__" ⟨[.ref DomC,v],[]⟩))
 nw:∀ v,peek K S (callAny (.builtin "list.__new__") ⟨[.ref DomC,v],[]⟩)=some (.again (.builtin "list.__new__" ⟨[.ref DomC,v],[]⟩))
 mro:∃ m:List Value,peek K S (mroOf (.ref DomC))=some m∧m.isEmpty=false
 made:peek K S (Bind.madeBy (.ref DomC))=some (some "list.__new__")
 self:peek K S (isSubtype (.ref DomC) (.ref DomC))=some true
 top:peek K S (isSubtype (.ref DomC) (.type "list"))=some true
 typ:peek K S (isType (.ref DomC))=some true
 del:peek K S (classHasDel DomC)=some false
noncomputable abbrev subObj (dx:Addr):Obj:={ cls:=.ref DomC,dict:=some dx,data:=.seq #[] }
section
variable {prog:Program} {w:World} {A:Around} {R:Result→Shared→Prop} {K:Frag} {h:Heap} {g:Array GenState} {d:Drawn} {t:Nat} {os:OsState} {v init:Value}
theorem new_L (X:K.In h) (Y:MkL K ⟨prog,w.params⟩) (hq:R (.ok (.ret (.ref (h.objs.size + 1)))) ⟨(h.push emptyDict).push (subObj h.objs.size),g,d,t,os⟩) :
  codeAny (model prog w) A (.call (.builtin "list.__new__") ⟨[.ref DomC,v],[]⟩) R ⟨h,g,d,t,os⟩:=by
 refine codeAny_of_tree ((Looks.of_peek (M:=model prog w) X (Y.nw v)).here ?_)
 refine And.intro (plainId_quiet F.plain_list_new _) (codeAny_builtin_stack F.entry_list_new rfl fun p st=>?_)
 rw [Around.under_plainId F.plain_list_new _]
 have typ:Looks (model prog w) h _ _:=.of_peek X Y.typ
 have top:Looks (model prog w) h _ _:=.of_peek X Y.top
 have del:Looks (model prog w) ((h.push emptyDict).push (subObj h.objs.size)) _ _:=(Looks.of_peek X Y.del).keeps fun b o e=>Heap.get?_push_of_some _ (Heap.get?_push_of_some _ e)
 dsimp only
 rw [owner_list_new]
 repeat lk
 rw [Heap.size_push]; exact hq
theorem makeL_core (X:K.In h) (Y:MkL K ⟨prog,w.params⟩) (hi:Looks (model prog w) h (typeLookup (.ref DomC) "__init__") (some init)) (hb:∀ self,Looks (model prog w) h (bindSpecial init self) (init,[self]))
  (hq:codeAny (model prog w) (A.under (.builtin "type.__call__" ⟨[.ref DomC,v],[]⟩)) (.call init ⟨[.ref (h.objs.size + 1),v],[]⟩) (InitBack (h.objs.size + 1) R) ⟨(h.push emptyDict).push (subObj h.objs.size),g,d,t,os⟩) :
  codeAny (model prog w) A (.call (.ref DomC) ⟨[v],[]⟩) R ⟨h,g,d,t,os⟩:=by
 refine codeAny_of_tree ((Looks.of_peek (M:=model prog w) X (Y.ca v)).here ?_)
 refine And.intro rfl (codeAny_of_tree ((Looks.of_peek (M:=model prog w) X (Y.tc v)).here ?_))
 refine And.intro (PySem.Code.quiet_builtin _ (by decide +kernel)) (codeAny_builtin entry_typeCall ?_)
 obtain ⟨m,hm,em⟩:=Y.mro
 have mro:Looks (model prog w) h _ _:=.of_peek X hm
 have made:Looks (model prog w) h _ _:=.of_peek X Y.made
 have k:∀ b o,h.get? b=some o→((h.push emptyDict).push (subObj h.objs.size)).get? b=some o:=fun b o e=>Heap.get?_push_of_some _ (Heap.get?_push_of_some _ e)
 have t1:Looks (model prog w) ((h.push emptyDict).push (subObj h.objs.size)) (typeOf (.ref (h.objs.size + 1))) (.ref DomC):=(Looks.ld (get2 rfl)).andThen .now
 have s1:Looks (model prog w) ((h.push emptyDict).push (subObj h.objs.size)) (isInstance (.ref (h.objs.size + 1)) (.ref DomC)) true:=t1.andThen ((Looks.of_peek X Y.self).keeps k)
 have i1:Looks (model prog w) ((h.push emptyDict).push (subObj h.objs.size)) (specialOf (.ref (h.objs.size + 1)) "__init__") (some init):=Looks.andThen (f:=fun t=>typeLookup t "__init__") t1 (hi.keeps k)
 have b1:=(hb (.ref (h.objs.size + 1))).keeps k
 unfold Builtin.«type.__call__»
 repeat (first | simp only [em,Bool.false_eq_true,if_false] | with_reducible refine wpAny_call ?_ | lk)
 refine new_L X Y ?_
 unfold callSpecial?
 repeat (first | with_reducible refine wpAny_call ?_ | lk)
 refine codeAny_mono hq fun r s' z=>?_
 rcases r with e | (v | _ | _ | _) <;> first | exact z | exact z.elim | skip
 obtain ⟨rfl,z⟩:=z
 exact wpAny_pure (wpAny_pure z)
end
section
variable {c:Cx} {n:Nat} {H:AH} {Q:V→AH→Prop}
theorem CallV.mkSub {f:Addr} {v:V} (hm:MkL c.K ⟨c.prog,c.w.params⟩) (hk:keepIn c.K (.ref DomC)=true) (hi:findIn c.K (.ref DomC) "__init__"=some (some (.ref f))) (hf:typeIn c.K (.ref f)=some (.type "function"))
  (h:∀ x d,Made H x d→CallC c n (.ref f) [.ref x,v] (H.two x d (.sub d [])) fun r H'=>r=.none∧Q (.ref x) H'):CallV c (n + 1) (.ref DomC) [v] H Q:=by
 refine ⟨fun Z s fv e R=>by obtain rfl:=er_ref e; exact (looks_keep hk R.KIn).imp fun k q=>q.2,fun fv vs e1 e2 A Z s hr R=>?_⟩
 obtain rfl:=er_ref e1
 obtain ⟨raw,rfl,e3⟩:=er_1 e2
 have X:=R.KIn
 obtain ⟨R2,M⟩:=R.two (ob:=subObj s.heap.objs.size) (o:=.sub s.heap.objs.size []) rfl ⟨Nat.zero_le _,[],0,rfl,rfl⟩
 refine wpAny_call (makeL_core X hm (looks_findIn X hi) (fun self=>bind_fn X self hf) (codeAny_mono ((h _ _ M).go (.ref f) [.ref (s.heap.objs.size + 1),raw] rfl (by rw [← e3]; rfl) _ Z _ hr.under R2) fun r s' z=>?_))
 rcases r with e | (v | _ | _ | _) <;> first | exact z.elim | skip
 exact z.elim fun H' z=>⟨er_none z.2.1,H',z.1,z.2.2⟩
end
end Mine
end
section
open Builtin Builtin.ObjectAttr
namespace Mine
theorem codeAmong_back {pos:Pos} {a b:Int} {t u:Tok} {c cv:Value} (l:List Value) (h:TriplesOk l) (e:codeAmong pos (l++[.int a t,.int b u,c])=some cv):codeAmong pos l=some cv∨cv=c:=by
 fun_induction TriplesOk l with
 | case1=>
  have e:(if (a == pos.line && b == pos.col)=true then some c else none)=some cv:=e
  split at e
  ·cases e; exact .inr rfl
  ·cases e
 | case2 a' t b' u x rest ih=>
  simp only [List.cons_append,codeAmong] at e ⊢
  split at e
  ·rename_i q; rw [if_pos q]; exact .inl e
  ·rename_i q; rw [if_neg q]; exact ih h e
 | case3 l h1 h2=>exact h.elim
theorem triples_1 {l:List Value} (h:TriplesOk l) (x:Str) (t:Tok):l[1]?≠some (.str x t):=by
 fun_induction TriplesOk l with
 | case1=>exact fun q=>nomatch q
 | case2=>exact fun q=>nomatch q
 | case3=>exact h.elim
section
variable {c:Cx} {n:Nat} {fm:Fm} {ρ:Loc} {H:AH} {Q:V→AH→Prop} {Z:Froz} {s:Shared} {names:Names} {gs bs:Tab2}
theorem IsCode.keep {h h':Heap} {cc:Addr} {oc:Obj} (K:IsCode c H h cc oc) (k:h'.get? cc=some oc):IsCode c H h' cc oc:={ K with e:=k }
theorem Rel.tabUp {pos:Pos} {ps:Array Value} {h':Heap} {c':Addr} {oc:Obj} {tk:Nat} (R:Rel c Z H s) (T:Tab c H s.heap ps) (hx:Heap.ExtBut c.tab s.heap h') (hc:s.heap.objs.size≤c') (hoc:h'.get? c'=some oc) (co:CodeO c oc)
  (htab:h'.get? c.tab=some (tabObj (ps++#[rawInt pos.line,rawInt pos.col,.ref c']))):Rel c Z H ⟨h',s.gens,s.drawn,tk,s.os⟩∧IsCode c H h' c' oc:=by
 have nw:IsCode c H h' c' oc:=⟨hoc,co,R.freshH (get?_ge_none hc)⟩
 have nt:∀ cc oc,IsCode c H s.heap cc oc→cc≠c.tab:=fun cc oc K q=>by
  have:=T.e.symm.trans (q▸K.e)
  cases this
  obtain ⟨vs,t,q,q1⟩:=K.cd
  cases q
  exact triples_1 T.ok c.lq t (by rw [← q1,← Array.getElem?_toList])
 have code:∀ cc oc,IsCode c H s.heap cc oc→IsCode c H h' cc oc:=fun cc oc K=>K.keep (hx cc oc (nt cc oc K) K.e)
 refine ⟨⟨R.ok,fun a o z=>{ R.fz a o z with e:=hx a o (R.fz a o z).t (R.fz a o z).e },fun a o z t=>{ R.base a o z t with e:=hx a o t (R.base a o z t).e },fun a o e=>(R.real a o e).keep fun ob q=>hx a ob (R.tne e) q,R.nt,⟨_,htab,?_,fun pos' cv e=>?_,fun a z e cc q=>(T.fn a z e cc q).imp fun oc=>code cc oc⟩,R.gens,R.os⟩,nw⟩
 ·rw [Array.toList_append]; exact TriplesOk_snoc _ _ _ _ T.ok
 ·rw [Array.toList_append] at e
  exact (codeAmong_back _ T.ok e).elim (fun q=>(T.cd _ _ q).imp fun cc q=>q.imp fun oc q=>⟨q.1,code cc oc q.2⟩) fun q=>⟨c',oc,q,nw⟩
structure LamAt (c:Cx) (code:Addr):Prop where
 hd:CodeHd c.h₀ code c.tab
 pm:(c.mg "__name__").getD .none=c.lpm
 b:c.h₀.BuiltinsAt c.mg c.tab
theorem TE.lambda {params:Arguments} {body:Expr} {scope:Scope} {pos:Pos} {size:Nat} {cell code:Addr} (hg:fm.env.globals=mainGlobals) (hd:defaultsOf params fm.env=([],[])) (hq:fm.env.qual++"<lambda>"=c.lq) (hl:c.lam size=(params,body,scope))
  (hcl:closureFor scope fm.env=pure [(("rest":Str),cell)]) (hcode:fm.env.code=.ref code) (C:LamAt c code) (h:∀ f cc,H f=none→Q (.ref f) (H.set f (.fn size cell cc))):TE c n fm ρ H (.Lambda params body scope pos) Q:=by
 intro A Z s hr R0
 refine kla_eval hd ?_
 rw [hq]
 have R:=R0.rel.all (P:=fun _=>True)
 obtain ⟨ps,T⟩:=R.tab
 have old:∀ a o,c.h₀.get? a=some o→a≠c.tab→s.heap.get? a=some o:=fun a o e t=>(R.base a o e t).e
 have hgP:mainGlobals≠c.tab:=fun q=>R.ok.g.elim fun o w=>w.elim fun es w=>w.elim fun ep w=>R.ok.tabT.elim fun ps t=>by
  have:=w.2.1; rw [← Option.some.inj (w.1.symm.trans (q▸t)).symm] at this; cases this
 have Ch:CodeHd s.heap code c.tab:=by
  obtain ⟨o,vs,file,tf,flags,tg,inF,text,tt,e,r1,r2,r3,r4,r5,r6,r7,r8,ne⟩:=C.hd
  exact ⟨o,vs,file,tf,flags,tg,inF,text,tt,old _ _ e ne,r1,r2,r3,r4,r5,r6,r7,r8,ne⟩
 have hB:s.heap.BuiltinsAt c.mg c.tab:=by
  obtain ⟨bm,o,e1,e2,e3,e4,e5,e6⟩:=C.b
  exact ⟨bm,o,e1,e2,e3,e4,old _ _ e5 e4,e6⟩
 have fin:∀ h1 tk ctv cc oc,Rel c (All c H s fun _=>True) H ⟨h1,s.gens,s.drawn,tk,s.os⟩→IsCode c H h1 cc oc→PG c Z fm ρ (fun v=>Q (er v)) (.ref h1.objs.size) ⟨h1.push (kla_obj "<lambda>" c.lq params body scope [("rest",cell)] c.lpm cc ctv),s.gens,s.drawn,tk,s.os⟩:=fun h1 tk ctv cc oc R1 K=>
  have g:h1.get? h1.objs.size=none:=get?_size_none _
  ⟨_,R0.re' (R1.at1 (o':=.fn size cell cc) (R1.fresh g) (fun ob e=>(no_some g e).elim) (fun b ob _ e=>Heap.get?_push_of_some _ e) ⟨_,Heap.get?_push_size _ rfl,ctv,none,#[],by unfold lamOb; rw [hl]⟩ fun z e cc' q=>by cases q; exact ⟨oc,K⟩),h _ _ (R1.freshH g)⟩
 cases ha:codeAmong pos ps.toList with
 | none=>
  refine kla_makeFunction hcl hg (R.oldNs R.ok.g) hcode Ch T.e T.ok ha hgP hB fun c' ctv h' tk hx hge hlt hrec htab=>?_
  rw [C.pm]
  obtain ⟨c2,oc,vs,t,e1,e2,e3,e4⟩:=hrec
  cases e1
  have U:=R.tabUp (tk:=tk) T hx hge e2 ⟨vs,t,e3,e4⟩ htab
  exact fin h' tk ctv c' oc U.1 U.2
 | some cv=>
  obtain ⟨cc,oc,rfl,K⟩:=T.cd _ _ ha
  refine kla_makeFunctionHit hcl hg (R.oldNs R.ok.g) hcode Ch T.e T.ok ha hB fun ctv h' tk hx hsz=>?_
  rw [C.pm]
  exact fin h' tk ctv cc oc (R.stays hx) (K.keep (hx _ _ K.e))
theorem keep_fn {a cell cc:Addr} {size:Nat} (e:H a=some (.fn size cell cc)):∀ fv,er fv=.ref a→∀ Z s,Rel c Z H s→Looks c.M s.heap (keeperOf fv) .frame:=fun fv ef Z s R=>by
 obtain rfl:=er_ref ef
 obtain ⟨ob,g,ctv,oo,ol,rfl⟩:=R.real _ _ e
 exact (Looks.ld (part:=none) g).andThen .now
noncomputable def AH.del (H:AH) (a:Addr):AH:=fun b=>if b=a then none else H b
theorem del_sub {a:Addr}:Sub (H.del a) H:=fun b o e=>by
 unfold AH.del at e
 split at e
 ·cases e
 ·exact e
theorem del_self {a:Addr}:(H.del a) a=none:=if_pos rfl
theorem del_set {a:Addr} {o:AO} (e:H a=some o):(H.del a).set a o=H:=funext fun b=>by
 unfold AH.set AH.del
 split
 ·rename_i q; rw [q,e]
 ·rfl
theorem lookup_rev {x:Str}:∀ (l:List (Str × Value)),(l.map (·.1)).Nodup→l.reverse.lookup x=l.lookup x
 | [],_=>rfl
 | (y,v)::r,nd=>by
  have nd:=List.nodup_cons.mp (show (y::r.map (·.1)).Nodup from nd)
  rw [List.reverse_cons,List.lookup_append,lookup_rev r nd.2,List.lookup_cons,List.lookup_cons]
  cases q:x == y with
  | true=>
   rw [show r.lookup x=none from none_of fun u w=>nd.1 (List.mem_map.mpr ⟨_,mem_of_lookup w,(eq_of_beq q)⟩)]; rfl
  | false=>rw [List.lookup_nil,Option.or_none]
structure LamOk (sc:Scope) (np:Nat):Prop where
 k:sc.kind=.function
 co:sc.isCoroutine=false
 gen:sc.isGenerator=false
 nd:(sc.names.map (·.1)).Nodup
 pl:∀ p∈sc.names,PlainName p.1
 nl:sc.names.length=np + 1
 loc:∀ p∈sc.names.take np,p.2=.local
 rest:sc.names[np]?=some (("rest":Str),.free)
noncomputable def lamC (gs bs:Tab2) (l:Arguments × Expr × Scope) (np:Nat):Option Code:=if (decide (l.2.2.kind=.function) && (!l.2.2.isCoroutine && (!l.2.2.isGenerator && (decide (l.2.2.names.map (·.1)).Nodup && (decide (∀ p∈l.2.2.names,PlainName p.1) && (decide (l.2.2.names.length=np + 1) &&
  (decide (∀ p∈l.2.2.names.take np,p.2=.local) && decide (l.2.2.names[np]?=some (("rest":Str),.free)))))))))=true then comp gs bs 60 l.2.2.names (.e l.2.1) .done else none
theorem lamC.ok {l:Arguments × Expr × Scope} {np:Nat} {code:Code} (h:lamC gs bs l np=some code):LamOk l.2.2 np∧comp gs bs 60 l.2.2.names (.e l.2.1) .done=some code:=by
 unfold lamC at h
 split at h
 ·rename_i h0
  have h1:=(and2 h0).2; have h2:=(and2 h1).2; have h3:=(and2 h2).2; have h4:=(and2 h3).2; have h5:=(and2 h4).2; have h6:=(and2 h5).2
  exact ⟨⟨of_decide_eq_true (and2 h0).1,(Bool.not_eq_true' _).mp (and2 h1).1,(Bool.not_eq_true' _).mp (and2 h2).1,of_decide_eq_true (and2 h3).1,of_decide_eq_true (and2 h4).1,of_decide_eq_true (and2 h5).1,of_decide_eq_true (and2 h6).1,of_decide_eq_true (and2 h6).2⟩,h⟩
 ·cases h
theorem start_full:∀ (vs:List V) (j:Nat),(start (vs.length + j) vs).take vs.length=vs.map some
 | [],_=>rfl
 | v::vs,j=>by rw [List.length_cons,Nat.add_right_comm]; exact congrArg (some v::·) (start_full vs j)
theorem CallC.lam {a cell cc:Addr} {size:Nat} {v:V} {args:List V} {l:Arguments × Expr × Scope} {code:Code} (G:Glo c gs bs) (e:H a=some (.fn size cell cc)) (ec:H cell=some (.cell v)) (hl:c.lam size=l) (hC:lamC gs bs l args.length=some code)
  (hb:∀ vs ctv S,vs.length=args.length→peek [] S (bindArgs (kla_fn "<lambda>" c.lq l.1 l.2.1 l.2.2 [("rest",cell)] c.lpm (.ref cc) ctv) ⟨vs,[]⟩)=some (binds l.2.2.names vs))
  (h:w c n code [] (args.map some++[some v]) (H.del cell) fun _ st _ H'=>∃ u,st=[u]∧H'=H.del cell∧Q u H):CallC c (n + 1) (.ref a) args H Q:=by
 obtain ⟨F,hc⟩:=lamC.ok hC
 refine ⟨fun fv vs e1 e2 A Z s hr R=>?_⟩
 obtain rfl:=er_ref e1
 obtain ⟨ob,g1,ctv,oo,ol,rfl⟩:=R.real _ _ e
 obtain ⟨oce,g2,raw,g3,rfl⟩:=R.real _ _ ec
 obtain ⟨ps,T⟩:=R.tab
 obtain ⟨oc,K⟩:=T.fn _ _ _ _ e
 unfold lamOb at g1
 rw [hl] at g1
 have hvl:vs.length=args.length:=by rw [← e2,List.length_map]
 have hcode:s.heap.CodeRec (.ref cc) c.lq:=by obtain ⟨vs',t',q1,q2⟩:=K.cd; exact ⟨cc,oc,vs',t',rfl,K.e,q1,q2⟩
 refine kla_callFunE (Room.dp hr) g1 rfl F.co F.gen rfl hcode (kp_binds (K:=[]) (binds:=binds l.2.2.names vs) (fun _ _ q=>nomatch q) (fun S=>hb vs ctv S hvl) _ _ _ _ ?_)
 have hfst:=binds_fst l.2.2.names vs
 rw [hvl] at hfst
 have nb:((binds l.2.2.names vs).map (·.1)).Nodup:=hfst▸F.nd.sublist ((List.take_sublist ..).map _)
 have split:∀ (i:Nat) (x:Str) (k:NameKind),l.2.2.names[i]?=some (x,k)→(i < args.length∧k=.local)∨(i=args.length∧x=("rest":Str)∧k=.free):=fun i x k q=>by
  rcases Nat.lt_or_ge i args.length with hi | hi
  ·exact .inl ⟨hi,F.loc (x,k) (List.mem_of_getElem? (i:=i) (by rw [List.getElem?_take,if_pos hi]; exact q))⟩
  ·have:i < args.length + 1:=F.nl▸(List.getElem?_eq_some_iff.mp q).1
   obtain rfl:=Nat.le_antisymm (Nat.le_of_lt_succ this) hi
   cases q.symm.trans F.rest
   exact .inr ⟨rfl,rfl,rfl⟩
 refine wpAny_newFunctionEnv (fun x hx q=>?_) (fun x hx=>?_) (fun h₁ hns hsb=>?_) F.k
 ·obtain ⟨i,hi⟩:=List.mem_iff_getElem?.mp hx
  rcases split i x.1 x.2 hi with w | w
  ·rw [w.2] at q; cases q
  ·rw [w.2.2] at q; cases q
 ·have hm:x.1∈(binds l.2.2.names vs).map (·.1):=List.mem_map.mpr ⟨x,hx,rfl⟩
  rw [hfst] at hm
  obtain ⟨p,hp,hp2⟩:=List.mem_map.mp hm
  obtain ⟨j,hj⟩:=List.mem_iff_getElem?.mp (List.mem_of_mem_take hp)
  rw [← hp2,lookup_of_at F.nd (k:=p.2) hj,F.loc p hp]
 have hk₁:∀ b o,s.heap.get? b=some o→h₁.get? b=some o:=fun b o e=>hsb.extBut b o (Nat.ne_of_lt (Heap.lt_size e)) (Heap.get?_push_of_some _ e)
 refine ⟨R.nolimit.keeps hk₁,?_⟩
 have R1:=R.weaken (del_sub (a:=cell))
 have R2:=R1.stays (dr:=s.drawn) (tk:=s.toks + (binds l.2.2.names vs).length) hk₁
 have fr:s.heap.get? s.heap.objs.size=none:=get?_size_none _
 let fm:Fm:=⟨newEnv l.2.2 s.heap.objs.size mainGlobals [("rest",cell)] (c.lq++".<locals>.") (some a) (.ref cc) none builtinsNs,fun _=>true⟩
 have Ff:Fe fm l.2.2.names:=⟨rfl,F.k,rfl,rfl,F.nd,F.pl⟩
 have hlen:(args.map some).length=args.length:=List.length_map ..
 have RF:RelF c Z fm (args.map some++[some (er raw)]) (H.del cell) ⟨h₁,s.gens,s.drawn,s.toks + (binds l.2.2.names vs).length,s.os⟩:=by
  refine ⟨R2,by rw [List.length_append,hlen]; exact F.nl.symm,⟨_,hns,fun i x hx=>?_⟩,fun i x k hx hk=>?_,R1.freshH fr,R1.fresh fr,fun i j x y z k _ hx=>?_⟩
  ·have hx':l.2.2.names[i]?=some (x,.local):=hx
   have hi:=(split i x _ hx').resolve_right fun w=>nomatch w.2.2
   have q:=start_at (ws:=vs) F.nd hx'
   rw [e2,F.nl] at q
   have t:=start_full args 1
   rw [Loc.at_eq,List.getElem?_append_left (by rw [hlen]; exact hi.1),← t,List.getElem?_take,if_pos hi.1,← Loc.at_eq]
   show Option.map er ((binds l.2.2.names vs).reverse.lookup x)=_
   rw [lookup_rev _ nb,q]
  ·have hx':l.2.2.names[i]?=some (x,k):=hx
   rcases split i x k hx' with w | ⟨rfl,rfl,rfl⟩
   ·rw [w.2] at hk; rcases hk with q | q <;> cases q
   ·refine ⟨cell,some raw,List.lookup_cons_self,⟨oce,hk₁ _ _ g2,g3⟩,?_,del_self,fun q=>no_some fr (q▸g2),R.tne ec,fun q=>nomatch q⟩
    rw [Loc.at_eq,List.getElem?_append_right (by rw [hlen]; exact Nat.le_refl _),hlen,Nat.sub_self]; rfl
  ·have hx':l.2.2.names[i]?=some (x,.cell):=hx
   rcases split i x _ hx' with w | w
   ·exact nomatch w.2
   ·exact nomatch w.2.2
 have body:=Ok.e (c:=c) (m:=n) (comp_ok G 60) hc Ff h
 refine kla_codeExpr (wpAny_mono (body (A.deeper fm.env) _ _ hr.deeper RF) (fun u s2 q=>?_) fun _ _ e=>e.elim)
 obtain ⟨H',Rx,u',q1,rfl,q2⟩:=q
 cases q1
 obtain ⟨ce,cv,O⟩:=Rx.cl args.length "rest" .free F.rest (.inr rfl)
 cases Option.some.inj (O.look.symm.trans List.lookup_cons_self)
 obtain ⟨o2,g4,g5⟩:=O.cell
 have val:=O.val
 rw [Loc.at_eq,List.getElem?_append_right (by rw [hlen]; exact Nat.le_refl _),hlen,Nat.sub_self] at val
 obtain ⟨raw2,rfl,ev⟩:=Option.map_eq_some_iff.mp (show cv.map er=some (er raw) from val)
 have R3:=Rx.rel.adopt (o:=.cell (er raw)) g4 (R.pv ec) (fun w=>w.elim fun vs w=>w.elim fun t w=>by rw [g5] at w; cases w.1) ⟨o2,g4,raw2,g5,ev⟩
 rw [del_set ec] at R3
 exact ⟨H,R3,q2⟩
theorem RelF.cellKeep {i:Nat} {v:V} {cell:Addr} {x:Str} (R:RelF c Z fm ρ H s) (hx:NameAt fm.env x i .cell) (hc:fm.own x=true) (hcl:fm.env.cells.lookup x=some cell) (hv:ρ.at i=some v):H cell=none∧Rel c Z (H.set cell (.cell v)) s:=by
 obtain ⟨a,cv,O⟩:=R.cl i x .cell hx (.inl rfl)
 cases Option.some.inj (O.look.symm.trans hcl)
 obtain ⟨o,g,d⟩:=O.cell
 obtain ⟨raw,rfl,ev⟩:=Option.map_eq_some_iff.mp (O.val.trans hv)
 exact ⟨O.off,R.rel.adopt g (O.pv rfl hc) (fun w=>w.elim fun vs w=>w.elim fun t w=>by rw [d] at w; cases w.1) ⟨o,g,raw,d,ev⟩⟩
end
end Mine
end
namespace Mine
inductive PairsAre (h:Heap):List Value→List Int→Prop
 | nil:PairsAre h [] []
 | cons {a:Addr} {k:Int} {t:Tok} {x:Value} {vs:List Value} {ks:List Int} (e:h.get? a=some { cls:=.type "tuple",data:=.seq #[.int k t,x] }) (r:PairsAre h vs ks):PairsAre h (.ref a::vs) (k::ks)
theorem PairsAre.length {h:Heap} {vs:List Value} {ks:List Int} (p:PairsAre h vs ks):vs.length=ks.length:=by
 induction p with
 | nil=>rfl
 | cons e r ih=>rw [List.length_cons,List.length_cons,ih]
theorem PairsAre.keep {h h':Heap} {vs:List Value} {ks:List Int} (p:PairsAre h vs ks) (k:∀ b o,(∃ x∈vs,x=.ref b)→h.get? b=some o→h'.get? b=some o):PairsAre h' vs ks:=by
 induction p with
 | nil=>exact .nil
 | cons e r ih=>exact .cons (k _ _ ⟨_,List.mem_cons_self ..,rfl⟩ e) (ih fun b o ⟨x,hx,q⟩=>k b o ⟨x,List.mem_cons_of_mem _ hx,q⟩)
theorem PairsAre.at {h:Heap} {vs:List Value} {ks:List Int} (p:PairsAre h vs ks):∀ {i:Nat} {v:Value},vs[i]?=some v→∃ a k t x,v=.ref a∧ks[i]?=some k∧h.get? a=some { cls:=.type "tuple",data:=.seq #[.int k t,x] }:=by
 induction p with
 | nil=>intro i v e; simp at e
 | cons e r ih=>
  intro i v q
  cases i with
  | zero=>cases q; exact ⟨_,_,_,_,rfl,rfl,e⟩
  | succ i=>exact ih q
section
variable {prog:Program} {w:World} {A:Around} {E:Value→Shared→Prop} {s:Shared}
theorem keyLt_tup (x y:Value):keyLt' (tuples' true) x y=(do
  let xs ← Builtin.List.listItems x; let ys ← Builtin.List.listItems y
  for ((p,q),i) in (xs.toList.zip ys.toList).zipIdx do
   if !(← eqBool p q) then return ← oneLt' (true && i == 0) p q
  return xs.size < ys.size):=rfl
theorem keyLt_pair {a b:Addr} {k l:Int} {t u:Tok} {x y:Value} {Q:Bool→Shared→Prop} (ea:s.heap.get? a=some { cls:=.type "tuple",data:=.seq #[.int k t,x] }) (eb:s.heap.get? b=some { cls:=.type "tuple",data:=.seq #[.int l u,y] })
  (hne:k≠l) (h:Q (decide (k < l)) s):wpAny (model prog w) A (keyLt' (tuples' true) (.ref a) (.ref b)) Q E s:=by
 rw [keyLt_tup]
 refine wpAny_bind (listItems_at ea rfl ?_)
 refine wpAny_bind (listItems_at eb rfl ?_)
 show wpAny _ _ (do
  for ((p,q),i) in ([((Value.int k t,Value.int l u),0),((x,y),1)]:List ((Value × Value) × Nat)) do
   if !(← eqBool p q) then return ← oneLt' (true && i == 0) p q
  return decide (2 < 2)) _ _ _
 simp only [List.forIn_cons]
 refine wpAny_bind (wpAny_bind (wpAny_bind ?_))
 refine SeqAt.EqAt.int_int k t l u _ _ _ _ ?_
 have hkl:(k == l)=false:=by simpa using hne
 rw [hkl]
 simp only [Bool.not_false,if_true]
 refine wpAny_bind (oneLt_int ?_)
 exact wpAny_pure (wpAny_pure (wpAny_pure h))
theorem first_tup {a:Addr} {k:Int} {t:Tok} {x:Value} {Q:Option Value→Shared→Prop} (ea:s.heap.get? a=some { cls:=.type "tuple",data:=.seq #[.int k t,x] }) (h:Q (some (.int k t)) s) :
  wpAny (model prog w) A (firstOfTuple' (.ref a)) Q E s:=by
 show wpAny _ _ (do
  if (← typeOf (.ref a)) != .type "tuple" then return none
  return (← Builtin.List.listItems (.ref a))[0]?) _ _ _
 refine wpAny_bind (wpAny_typeOf (T:="tuple") ⟨_,ea,rfl⟩ ?_)
 have:(Value.type "tuple" != Value.type "tuple")=false:=by rfl
 rw [this]
 simp only [Bool.false_eq_true,if_false]
 exact wpAny_bind (listItems_at ea rfl (wpAny_pure h))
theorem firsts_tup {vs:List Value} {ks:List Int} (p:PairsAre s.heap vs ks):∀ {Q:List (Option Value)→Shared→Prop},(∀ ws,IntsAre ws ks→Q (ws.map some) s)→wpAny (model prog w) A (vs.mapM firstOfTuple') Q E s:=by
 induction p with
 | nil=>intro Q h; rw [List.mapM_nil]; exact wpAny_pure (h [] .nil)
 | @cons _ k t _ _ _ e _ ih=>
  intro Q h
  rw [List.mapM_cons]
  exact wpAny_bind (first_tup e (wpAny_bind (ih fun ws hw=>wpAny_pure (h (.int k t::ws) (.cons k t hw)))))
theorem keyKind_tup {vs:List Value} {ks:List Int} {Q:SortKind→Shared→Prop} (p:PairsAre s.heap vs ks) (hne:vs≠[]) (h:Q (tuples' true) s):wpAny (model prog w) A (keyKind' vs.toArray) Q E s:=by
 rw [keyKind'_eq,List.mapM_toArray]
 refine wpAny_bind (wpAny_map (firsts_tup p fun ws hw=>?_))
 have hall:((ws.map some).toArray.all fun x=>x.isSome)=true:=by simp
 rw [hall]
 simp only [if_true]
 refine wpAny_bind (wpAny_rule ?_)
 have hfm:(ws.map some).toArray.filterMap id=ws.toArray:=by simp
 rw [hfm]
 obtain ⟨w0,r,rfl⟩:∃ w0 r,ws=w0::r:=by
  cases ws with
  | nil=>have:=p.length; rw [← hw.length] at this; exact absurd (List.eq_nil_of_length_eq_zero this) hne
  | cons a b=>exact ⟨a,b,rfl⟩
 rw [oneTypeOnly'_eq,List.mapM_toArray,mapM_typeOf_ints hw]
 simp only [map_pure,pure_bind]
 have hall2:((List.map (fun _=>Value.type "int") (w0::r)).toArray.all fun x=>x == Value.type "int")=true:=by
  simp only [List.all_toArray,List.all_map,List.all_eq_true]
  intro _ _
  rfl
 have h0:(List.map (fun _=>Value.type "int") (w0::r)).toArray[0]?=some (Value.type "int"):=by simp
 rw [h0]
 simp only [hall2,if_true,pure_bind]
 refine wpAny_bind (wpAny_pure ?_)
 exact wpAny_pure h
noncomputable def runT {α:Type} (f:Nat→Nat→Bool):KasT α→α
 | .ret a=>a
 | .ask i j k=>runT f (k (f i j))
noncomputable def okT (n:Nat):KasT (Array Nat)→Bool
 | .ret p=>decide (p.toList.length=n) && p.toList.all fun i=>decide (i < n)
 | .ask i j k=>decide (i < n) && (decide (j < n) && (decide (i≠j) && (okT n (k true) && okT n (k false))))
theorem run_wp {n:Nat} {f:Nat→Nat→Bool} {ask:Nat→Nat→(Bool→Shared→Prop)→Shared→Prop} {s:Shared} (ha:∀ i j C,i < n→j < n→i≠j→C (f i j) s→ask i j C s):∀ {t:KasT (Array Nat)} {Q:Array Nat→Shared→Prop},okT n t=true→Q (runT f t) s→t.kasWp ask Q s
 | .ret p,Q,_,q=>q
 | .ask i j k,Q,h,q=>by
  have h1:=and2 h; have h2:=and2 h1.2; have h3:=and2 h2.2; have h4:=and2 h3.2
  refine ha i j _ (of_decide_eq_true h1.1) (of_decide_eq_true h2.1) (of_decide_eq_true h3.1) (run_wp ha ?_ q)
  cases f i j
  ·exact h4.2
  ·exact h4.1
theorem okT_run {n:Nat} {f:Nat→Nat→Bool}:∀ {t:KasT (Array Nat)},okT n t=true→(runT f t).toList.length=n∧∀ i∈(runT f t).toList,i < n
 | .ret p,h=>⟨of_decide_eq_true (and2 h).1,fun i hi=>of_decide_eq_true (List.all_eq_true.mp (and2 h).2 i hi)⟩
 | .ask i j k,h=>by
  have h4:=and2 (and2 (and2 (and2 h).2).2).2
  show (runT f (k (f i j))).toList.length=n∧∀ i'∈(runT f (k (f i j))).toList,i' < n
  cases f i j
  ·exact okT_run h4.2
  ·exact okT_run h4.1
theorem ok_sort {n:Nat} (h2:2≤n) (h4:n≤4):okT n (kas_sort n)=true:=by
 have h:∀ n,n≤4→2≤n→okT n (kas_sort n)=true:=by decide +kernel
 exact h n h4 h2
noncomputable def permO (ks:List Int):List Nat:=if ks.length < 2 then List.range ks.length else (runT (fun i j=>decide (ks.getD i 0 < ks.getD j 0)) (kas_sort ks.length)).toList
theorem permO_lt {ks:List Int} (h4:ks.length≤4):(permO ks).length=ks.length∧∀ i∈permO ks,i < ks.length:=by
 unfold permO
 split
 ·exact ⟨List.length_range,fun i hi=>List.mem_range.mp hi⟩
 ·exact okT_run (ok_sort (Nat.not_lt.mp (by assumption)) h4)
noncomputable def outO (ks:List Int) (vs:List Value):List Value:=(permO ks).map fun i=>vs.getD i Value.none
theorem list_sort_pairs {a:Addr} {vs:List Value} {ks:List Int} {n:Nat} {P:Fin→Shared→Prop} (ho:s.heap.get? a=some (seqObj "list" vs.toArray n)) (hp:PairsAre s.heap vs ks) (nd:ks.Nodup) (h4:vs.length≤4)
  (h:P (.done (.ret .none)) { s with heap:=sortedHeap s.heap a vs (outO ks vs).toArray }):wpAny (model prog w) A (Builtin.«list.sort» ⟨[.ref a],[]⟩) P E s:=by
 rw [list_sort_plain]
 have ha:a < s.heap.objs.size:=Heap.lt_size ho
 refine wpAny_bind (listItems_at ho rfl ?_)
 refine wpAny_bind (listUpdate_at ho rfl ?_)
 obtain ⟨e1,ho1⟩:∃ e1,(s.heap.update a (Obj.mapSeq fun _=>#[])).get? a=some (seqObj "list" #[] e1):=⟨_,get?_update_seq ho (fun _=>#[])⟩
 refine wpAny_bind (seqEpoch_at ho1 rfl ?_)
 refine wpAny_bind (wpAny_newTuple ?_)
 refine wpAny_bind (wpAny_newList ?_)
 refine wpAny_holding ?_
 have hk:∀ b o,b≠a→s.heap.get? b=some o→(((s.heap.update a (Obj.mapSeq fun _=>#[])).push (seqObj "tuple" vs.toArray 0)).push (seqObj "list" #[] 0)).get? b=some o:=fun b o hb e=>
  Heap.get?_push_of_some _ (Heap.get?_push_of_some _ ((Heap.get?_update_other _ _ (Ne.symm hb)).trans e))
 have ho6:(((s.heap.update a (Obj.mapSeq fun _=>#[])).push (seqObj "tuple" vs.toArray 0)).push (seqObj "list" #[] 0)).get? a=some (seqObj "list" #[] e1):=Heap.get?_push_of_some _ (Heap.get?_push_of_some _ ho1)
 show wpAny (model prog w) A _ P E { s with heap:=((s.heap.update a (Obj.mapSeq fun _=>#[])).push (seqObj "tuple" vs.toArray 0)).push (seqObj "list" #[] 0) }
 dsimp only
 have hp2:PairsAre (((s.heap.update a (Obj.mapSeq fun _=>#[])).push (seqObj "tuple" vs.toArray 0)).push (seqObj "list" #[] 0)) vs ks:=hp.keep fun b o ⟨x,hx,q⟩ e=>hk b o (fun qa=>by
  subst q
  obtain ⟨i,hi,hv⟩:=List.mem_iff_getElem.mp hx
  obtain ⟨a',k',t',x',e1',_,g⟩:=hp.at (List.getElem?_eq_getElem hi)
  rw [hv] at e1'
  cases e1'
  rw [qa,ho] at g
  have:=congrArg (fun o:Obj=>o.cls) (Option.some.inj g)
  simp [seqObj] at this) e
 have hkl:=hp.length
 by_cases h2:vs.toArray.size < 2
 ·rw [if_pos h2,if_pos h2]
  refine wpAny_bind (wpAny_pure ?_)
  rw [StateT.run_pure]
  refine wpAny_bind (wpAny_pure ?_)
  dsimp only
  refine wpAny_bind (seqEpoch_at ho6 rfl ?_)
  have e8:outO ks vs=vs:=by
   have h2:vs.length < 2:=by rw [List.size_toArray] at h2; exact h2
   unfold outO permO
   rw [if_pos (by rw [← hkl]; exact h2),← hkl]
   exact List.ext_getElem (by rw [List.length_map,List.length_range]) fun i h1 h3=>by rw [List.getElem_map,List.getElem_range,List.getD_eq_getElem?_getD,List.getElem?_eq_getElem h3]; rfl
  rw [e8] at h
  have e7:(arrOf (SortSt.mk' general' (vs.toArray.zip vs.toArray) #[] 7 none)).map (·.2)=vs.toArray:=by
   show (vs.toArray.zip vs.toArray).map (·.2)=_
   simp [List.map_snd_zip]
  rw [e7]
  refine wpAny_bind (listUpdate_at ho6 rfl ?_ (hsz2:=by show vs.toArray.size≤_; rw [sizeLine_eq,List.size_toArray]; exact Nat.le_trans h4 (by decide)))
  simp only [bne_self_eq_false,Bool.false_eq_true,if_false]
  exact wpAny_pure h
 ·rw [if_neg h2,if_neg h2]
  have hl:vs.toArray.size=vs.length:=by simp
  refine wpAny_bind (keyKind_tup hp2 (fun q=>by rw [q] at h2; exact h2 (by decide)) ?_)
  have h2':2≤vs.length:=Nat.not_lt.mp (hl▸h2)
  refine wpAny_bind (wpAny_mono (kat_run (κ:=tuples' true) (ks:=vs) (Q:=fun st' s'=>s'={ s with heap:=((s.heap.update a (Obj.mapSeq fun _=>#[])).push (seqObj "tuple" vs.toArray 0)).push (seqObj "list" #[] 0) }∧(arrOf st').map (·.2)=(outO ks vs).toArray∧failedOf st'=none) (G:=fun p s'=>s'={ s with heap:=((s.heap.update a (Obj.mapSeq fun _=>#[])).push (seqObj "tuple" vs.toArray 0)).push (seqObj "list" #[] 0) }∧p.toList=permO ks) rfl h2' (Nat.lt_of_le_of_lt h4 (by decide)) (fun p st' s' _ har hf q=>⟨q.1,by rw [kat_snds rfl har,q.2]; rfl,hf⟩) (run_wp (f:=fun i j=>decide (ks.getD i 0 < ks.getD j 0)) (fun i j C hi hj hij hC=>?_) (ok_sort h2' h4) ⟨rfl,?_⟩)) ?_ fun _ _ e=>e)
  ·obtain ⟨a',k,t,x,e1,k1,g1⟩:=hp2.at (List.getElem?_eq_getElem hi)
   obtain ⟨b',l,u,y,e2,k2,g2⟩:=hp2.at (List.getElem?_eq_getElem hj)
   show wpAny _ _ (keyLt' _ (vs.getD i Value.none) (vs.getD j Value.none)) _ _ _
   have v1:vs.getD i Value.none=vs[i]:=by rw [List.getD_eq_getElem?_getD,List.getElem?_eq_getElem hi]; rfl
   have v2:vs.getD j Value.none=vs[j]:=by rw [List.getD_eq_getElem?_getD,List.getElem?_eq_getElem hj]; rfl
   have d1:ks.getD i 0=k:=by rw [List.getD_eq_getElem?_getD,k1]; rfl
   have d2:ks.getD j 0=l:=by rw [List.getD_eq_getElem?_getD,k2]; rfl
   rw [v1,v2,e1,e2]
   rw [d1,d2] at hC
   refine keyLt_pair g1 g2 (fun q=>?_) hC
   obtain ⟨q1,q2⟩:=List.getElem?_eq_some_iff.mp k1
   obtain ⟨q3,q4⟩:=List.getElem?_eq_some_iff.mp k2
   have e:ks[i]=ks[j]:=q2.trans (q.trans q4.symm)
   exact (Nat.lt_or_gt_of_ne hij).elim (fun w=>absurd e (List.pairwise_iff_getElem.mp nd i j q1 q3 w)) fun w=>absurd e.symm (List.pairwise_iff_getElem.mp nd j i q3 q1 w)
  ·unfold permO
   rw [if_neg (by rw [← hkl]; exact Nat.not_lt.mpr h2'),← hkl]
  rintro ⟨⟨⟩,st'⟩ s' ⟨rfl,q1,q2⟩
  dsimp only
  refine wpAny_bind (seqEpoch_at ho6 rfl ?_)
  dsimp only at q1 q2
  rw [q1]
  have hol:(outO ks vs).toArray.size≤sizeLine:=by
   rw [List.size_toArray]; unfold outO
   rw [List.length_map,(permO_lt (hkl▸h4)).1,sizeLine_eq,← hkl]; exact Nat.le_trans h4 (by decide)
  refine wpAny_bind (listUpdate_at ho6 rfl ?_ (hsz2:=Nat.le_succ_of_le hol))
  rw [q2]
  simp only [bne_self_eq_false,Bool.false_eq_true,if_false]
  exact wpAny_pure h
end
end Mine
set_option genSizeOfSpec false
set_option genInjectivity false
namespace Mine
section
variable {c:Cx} {n:Nat} {H:AH} {Q:V→AH→Prop} {Z:Froz} {d v:Addr} {es:List (Int × V)} {ep:Option Nat} {s:Shared}
theorem CallV.items (e:H d=some (.dict es ep)) (h:∀ D,H D=none→Q (.ref D) (H.set D (.items d))):CallV c n (.oth (.builtin "dict.items")) [.ref d] H Q:=.b fun ws A Z s hr R e2=>by
 obtain ⟨a,rfl,e3⟩:=er_1 e2
 obtain rfl:=er_ref e3
 obtain ⟨kvs,D⟩:=R.dic e
 exact call_meetsIn F.slot_dict_items D.e.typeIs F.entry_dict_items (F.args_dict_items_1 _) (meets_dict_items (intKind c.prog c.w) d D.nm)
  ⟨⟨kvs,D.e⟩,_,R.new (o:=.items d) (get?_size_none _) (fun b ob eb=>Heap.get?_push_of_some _ eb) ⟨_,Heap.get?_push_size _ rfl,rfl⟩,h _ (R.freshH (get?_size_none _))⟩
noncomputable def TupO (h:Heap) (a:Addr) (q:Int × Int):Prop:=∃ (t:Tok) (x:Value),er x=.int q.2∧h.get? a=some { cls:=.type "tuple",data:=.seq #[.int q.1 t,x] }
theorem Rel.addTups:∀ (as:List Addr) (g:List (Int × Int)) (H:AH),Rel c Z H s→as.Nodup→as.length=g.length→(∀ a∈as,Pv c Z a∧H a=none)→
  (∀ (j:Nat) (a:Addr) q,as[j]?=some a→g[j]?=some q→TupO s.heap a q)→
  ∃ H',Rel c Z H' s∧Sub H H'∧(∀ b,b∉as→H' b=H b)∧All2 (fun u (q:Int × Int)=>∃ a,u=.ref a∧H a=none∧H' a=some (.tup [.int q.1,.int q.2])) (as.map V.ref) g
 | [],[],H,R,_,_,_,_=>⟨H,R,Sub.refl _,fun _ _=>rfl,trivial⟩
 | [],_::_,_,_,_,hl,_,_=>nomatch hl
 | _::_,[],_,_,_,hl,_,_=>nomatch hl
 | a::as,q::g,H,R,nd,hl,off,ht=>by
  obtain ⟨t,x,e2,e3⟩:=ht 0 a q rfl rfl
  rw [List.nodup_cons] at nd
  have oa:=off a (List.mem_cons_self ..)
  have R1:=R.adopt (o:=.tup [.int q.1,.int q.2]) e3 oa.1 (fun w=>w.elim fun vs w=>w.elim fun t w=>by cases w.1) ⟨_,e3,Nat.le_of_ble_eq_true rfl,_,0,rfl,by show [er (.int q.1 t),er x]=_; rw [e2]; rfl⟩
  obtain ⟨H',R2,s2,k2,a2⟩:=Rel.addTups as g _ R1 nd.2 (Nat.succ.inj hl) (fun b hb=>⟨(off b (List.mem_cons_of_mem _ hb)).1,(AH.set_ne fun w:b=a=>nd.1 (w▸hb)).trans (off b (List.mem_cons_of_mem _ hb)).2⟩) fun j b q' h1 h2=>ht (j + 1) b q' h1 h2
  refine ⟨H',R2,(Sub.new oa.2).trans s2,fun b hb=>?_,⟨a,rfl,oa.2,s2 _ _ AH.set_self⟩,a2.mono fun u q w=>w.imp fun b w=>⟨w.1,none_of fun o e=>no_some w.2.1 (Sub.new oa.2 _ _ e),w.2.2⟩⟩
  rw [List.mem_cons,not_or] at hb
  rw [k2 b hb.2,AH.set_ne hb.1]
theorem pairsAre_of {h:Heap}:∀ (as:List Addr) (g:List (Int × Int)),as.length=g.length→(∀ (j:Nat) (a:Addr) q,as[j]?=some a→g[j]?=some q→TupO h a q)→PairsAre h (as.map Value.ref) (g.map (·.1))
 | [],[],_,_=>.nil
 | [],_::_,hl,_=>nomatch hl
 | _::_,[],hl,_=>nomatch hl
 | a::as,k::ks,hl,ht=>by
  obtain ⟨t,x,_,e2⟩:=ht 0 a k rfl rfl
  exact .cons e2 (pairsAre_of as ks (Nat.succ.inj hl) fun j b q h1 h2=>ht (j + 1) b q h1 h2)
noncomputable def sp (g:List (Int × Int)):List (Int × Int):=(permO (g.map (·.1))).map fun i=>g.getD i (0,0)
theorem All2.pick {β:Type} {P:V→β→Prop} {a:V} {b:β} {l:List V} {m:List β} (h:All2 P l m):∀ {is:List Nat},(∀ i∈is,i < m.length)→All2 P (is.map fun i=>l.getD i a) (is.map fun i=>m.getD i b)
 | [],_=>trivial
 | i::r,hi=>⟨by
   have hi:=hi i (List.mem_cons_self ..)
   obtain ⟨v,e,p⟩:=h.at (List.getElem?_eq_getElem hi)
   show P (l.getD i a) (m.getD i b)
   rw [List.getD_eq_getElem?_getD,List.getD_eq_getElem?_getD,e,List.getElem?_eq_getElem hi]; exact p,All2.pick h fun j hj=>hi j (List.mem_cons_of_mem _ hj)⟩
theorem getD_map {α β:Type} (f:α→β) {d:α} {d':β} {l:List α} {i:Nat} (h:i < l.length):(l.map f).getD i d'=f (l.getD i d):=by
 rw [List.getD_eq_getElem?_getD,List.getD_eq_getElem?_getD,List.getElem?_map,List.getElem?_eq_getElem h]; rfl
theorem CallV.sortedItems {g:List (Int × Int)} (ev:H v=some (.items d)) (e:H d=some (.dict (g.map fun q=>(q.1,.int q.2)) ep)) (nd:(g.map (·.1)).Nodup) (h4:g.length≤4)
  (h:∀ H' R vs,Sub H H'→H R=none→H' R=some (.list vs)→All2 (fun u (q:Int × Int)=>∃ a,u=.ref a∧H a=none∧H' a=some (.tup [.int q.1,.int q.2])) vs (sp g)→Q (.ref R) H') :
  CallV c n (.oth (.builtin "sorted")) [.ref v] H Q:=.b fun ws A Z s hr R e2=>by
 obtain ⟨a,rfl,e3⟩:=er_1 e2
 obtain rfl:=er_ref e3
 obtain ⟨kvs,D⟩:=R.dic e
 obtain ⟨od,es',ep',ho,qq⟩:=D.e
 have hat:s.heap.DictAt (intKind c.prog c.w) d kvs ep':=⟨od,es',ho,qq⟩
 have hview:s.heap.IsItemsView v d:=(R.real _ _ ev).elim fun ob q=>⟨ob,q.1,by rw [q.2],by rw [q.2]⟩
 have hkl:kvs.length=g.length:=by have:=congrArg List.length D.er; rw [List.length_map,List.length_map] at this; exact this
 refine call_function_entry kind_sorted plain_sorted entry_sorted (args_sorted1 _) ?_
 unfold Builtin.«sorted»
 refine wpAny_bind (m:=checkCount "sorted" 1 1 _) (wpAny_pure ?_)
 refine wpAny_bind (kdx_collect (A:=A.in1) (knd:=intKind c.prog c.w) (kvs:=kvs) (ep:=ep') hr.handled hview hat (by rw [hkl]; exact le_sizeLine (Nat.le_trans h4 (by decide))) fun h' tk as hk hl hG=>?_)
 refine wpAny_bind (wpAny_newList ?_ (by rw [List.length_map,hl,hkl]; exact le_sizeLine (Nat.le_trans h4 (by decide))))
 have hlen:as.length=g.length:=by rw [hl,hkl]
 have tup:∀ (j:Nat) (a:Addr) q,as[j]?=some a→g[j]?=some q→TupO h' a q:=fun j a q ej eg=>by
  obtain ⟨key,k,x,p1,p2,p3⟩:=hG.pairs j a ej
  obtain ⟨t,rfl⟩:=Value.isInt_shape p2
  have:=congrArg (fun l=>l[j]?) D.er
  simp only [List.getElem?_map,p1,eg,Option.map_some] at this
  have g3:=congrArg Prod.fst (Option.some.inj this)
  have g4:=congrArg Prod.snd (Option.some.inj this)
  exact ⟨t,x,g4,by rw [show q.1=k from g3.symm]; exact p3⟩
 have hB:(h'.push (seqObj "list" (as.map Value.ref).toArray 0)).get? h'.objs.size=some (seqObj "list" (as.map Value.ref).toArray 0):=Heap.get?_push_size _ rfl
 have hpa:PairsAre (h'.push (seqObj "list" (as.map Value.ref).toArray 0)) (as.map Value.ref) (g.map (·.1)):=pairsAre_of as g hlen fun j a q ej eg=>(tup j a q ej eg).imp fun t w=>w.imp fun x w=>⟨w.1,Heap.get?_push_of_some _ w.2⟩
 refine wpAny_bind (wpAny_holding (wpAny_call_entry slot_list_sort ⟨_,hB,rfl⟩ entry_list_sort (list_sort_pairs hB hpa nd (by rw [List.length_map,hlen]; exact h4) ⟨_,rfl,?_⟩) (args_list_sort _)))
 refine wpAny_pure ⟨_,rfl,?_⟩
 have hp:=permO_lt (ks:=g.map (·.1)) (by rw [List.length_map]; exact h4)
 rw [List.length_map] at hp
 have eo:outO (g.map (·.1)) (as.map Value.ref)=((permO (g.map (·.1))).map fun i=>as.getD i 0).map Value.ref:=by
  unfold outO
  rw [List.map_map]
  exact List.map_congr_left fun i hi=>getD_map Value.ref (hlen▸hp.2 i hi)
 rw [eo]
 generalize hF:sortedHeap (h'.push (seqObj "list" (as.map Value.ref).toArray 0)) h'.objs.size (as.map Value.ref) (((permO (g.map (·.1))).map fun i=>as.getD i 0).map Value.ref).toArray=F
 have kF:∀ b o,h'.get? b=some o→F.get? b=some o:=fun b o eb=>by
  have hlt:b < h'.objs.size:=Heap.lt_size eb
  rw [← hF,sortedHeap_old (Nat.ne_of_lt hlt) (by rw [size_push']; exact Nat.lt_succ_of_lt hlt)]
  exact Heap.get?_push_of_some _ eb
 obtain ⟨ep2,hBF⟩:=sortedHeap_at (out:=(((permO (g.map (·.1))).map fun i=>as.getD i 0).map Value.ref).toArray) hB
 rw [hF] at hBF
 have fB:s.heap.get? h'.objs.size=none:=none_of fun o hs=>by have:=hk _ _ hs; rw [get?_size_none] at this; cases this
 have nB:h'.objs.size∉as:=fun hm=>Nat.lt_irrefl _ (hG.there hm)
 have new:∀ a∈as,Pv c Z a∧H a=none:=fun a ha=>have f:=get?_ge_none (h:=s.heap) (Nat.le_of_lt (hG.above a ha)); ⟨R.fresh f,R.freshH f⟩
 obtain ⟨H',R1,s1,k1,a1⟩:=Rel.addTups (s:=⟨F,s.gens,_,_,s.os⟩) as g H (R.stays fun b o eb=>kF b o (hk b o eb)) (hG.rise.imp fun h=>Nat.ne_of_lt h) hlen new fun j a q ej eg=>(tup j a q ej eg).imp fun t w=>w.imp fun x w=>⟨w.1,kF _ _ w.2⟩
 have hHB:=R.freshH fB
 have hH'B:H' h'.objs.size=none:=(k1 _ nB).trans hHB
 have R2:=R1.adopt (o:=.list (((permO (g.map (·.1))).map fun i=>as.getD i 0).map V.ref)) hBF (R.fresh fB) (fun w=>w.elim fun vs w=>w.elim fun t w=>by cases w.1) ⟨_,hBF,by rw [List.length_map,List.length_map,hp.1]; omega,((permO (g.map (·.1))).map fun i=>as.getD i 0).map Value.ref,ep2,rfl,by rw [List.map_map]; rfl⟩
 have ea:((permO (g.map (·.1))).map fun i=>as.getD i 0).map V.ref=(permO (g.map (·.1))).map fun i=>(as.map V.ref).getD i V.none:=by
  rw [List.map_map]
  exact List.map_congr_left fun i hi=>(getD_map V.ref (hlen▸hp.2 i hi)).symm
 refine ⟨_,R2,h _ _ _ (s1.trans (Sub.new hH'B)) hHB AH.set_self ?_⟩
 rw [ea]
 exact (a1.pick fun i hi=>hp.2 i hi).mono fun u q w=>w.imp fun a w=>⟨w.1,w.2.1,AH.set_new w.2.2 hH'B⟩
end
end Mine
namespace Mine
noncomputable def EqC (c:Cx) (n:Nat) (H:AH) (x y:Addr) (b:Bool):Prop:=∀ A Z s,Room n A→Rel c Z H s→wpAny c.M A (eqBool (.ref x) (.ref y)) (fun v s'=>v=b∧Rel c Z H s') BOT s
section
variable {c:Cx} {n:Nat} {H:AH} {Q:V→AH→Prop} {x y C D d d' l t:Addr} {b:Bool}
theorem EqC.same:EqC c n H x x true:=fun A Z s hr R=>by
 unfold eqBool
 refine wpAny_holding ?_
 refine wpAny_ite_split (fun _=>?_) (fun hab=>absurd (beq_self_eq_true _) hab)
 exact wpAny_bind (wpAny_rule (wpAny_pure ⟨rfl,R⟩))
theorem EqC.of_rich (hne:x≠y) (h:∀ A Z s,Room n A→Rel c Z H s→wpAny c.M A (richCompare .Eq (.ref x) (.ref y)) (fun v s'=>v=.bool b∧Rel c Z H s') BOT s):EqC c n H x y b:=fun A Z s hr R=>by
 unfold eqBool
 refine wpAny_holding ?_
 refine wpAny_ite_split (fun hab=>absurd (by have:=eq_of_beq hab; injection this) hne) (fun _=>?_)
 refine wpAny_bind (wpAny_mono (h A Z s hr R) (fun v s' ⟨e,R'⟩=>?_) fun _ _ e=>e)
 subst e
 exact wpAny_truthy_bool ⟨rfl,R'⟩
theorem EqC.inst {f:Addr} {of:Obj} (hne:x≠y) (ex:H x=some (.inst C d)) (ey:H y=some (.inst D d')) (hf:findIn c.K (.ref C) "__eq__"=some (some (.ref f))) (ho:c.K.lookup f=some of) (hoc:of.cls=.type "function")
  (hsub:C=D∨mroIn c.K D (.ref C)=some false) (h:CallV c n (.ref f) [.ref x,.ref y] H fun r H'=>r=.bool b∧Sub H H'):EqC c n H x y b:=by
 refine EqC.of_rich hne fun A Z s hr R=>?_
 obtain ⟨_,q1,rfl⟩:=R.real x _ ex
 obtain ⟨_,q2,rfl⟩:=R.real y _ ey
 have X:=R.KIn
 unfold richCompare
 simp only [oneThing_ref]
 refine wpAny_holding (wpAny_bind (wpAny_cRoomFor (Nat.lt_of_le_of_lt (Nat.le_add_right _ 900) (Room.cl hr)) ?_))
 rw [cmpInfo_Eq]
 dsimp only
 refine wpAny_bind (wpAny_typeOf_ref q1 ?_)
 refine wpAny_bind (wpAny_typeOf_ref q2 ?_)
 have tail:wpAny c.M A (tryCompare (.ref x) "__eq__" (.ref y)) (fun v s'=>v=some (.bool b)∧Rel c Z H s') BOT s:=by
  unfold tryCompare callSpecialIfBound? bindSpecialIfBound?
  have t1:Looks c.M s.heap (specialOf (.ref x) "__eq__") (some (.ref f)):=((Looks.ld q1).andThen .now).andThen (looks_findIn X hf)
  have call:wpAny c.M A (call (.ref f) ([.ref x]++[.ref y]) >>= fun v=>pure (some v)) (fun a s'=>wpAny c.M A (match a with | some Value.notImplemented=>pure none | none=>pure none | some v=>pure (some v)) (fun v s'=>v=some (.bool b)∧Rel c Z H s') BOT s') BOT s:=by
   refine wpAny_bind (wpAny_mono (h.go.2 (.ref f) [.ref x,.ref y] rfl rfl A Z s hr R) (fun v s' ⟨H',R',e,sb⟩=>?_) fun _ _ e=>e)
   obtain rfl:=er_bool e
   exact wpAny_pure (wpAny_pure ⟨rfl,R'.weaken sb⟩)
  refine wpAny_bind (wpAny_holding (wpAny_bind (wpAny_bind (t1.here ?_))))
  refine wpAny_bind (wpAny_askSetting (wpAny_ite ?_))
  split
  ·exact wpAny_bind (wpAny_bindSpecial_def (X _ _ ho) hoc (wpAny_pure (by exact call)))
  ·exact wpAny_tryCatch (wpAny_bind (wpAny_bindSpecial_def (X _ _ ho) hoc (wpAny_pure (by exact call))))
 have rest:wpAny c.M A (do
   if let some v ← tryCompare (.ref x) "__eq__" (.ref y) then return v
   if !false then
    if let some v ← tryCompare (.ref y) "__eq__" (.ref x) then return v
   rule "compare.eq-identity"; return .bool (← isSame (.ref x) (.ref y))) (fun v s'=>v=.bool b∧Rel c Z H s') BOT s:=by
  refine wpAny_bind (wpAny_mono tail (fun v s' ⟨e,R'⟩=>?_) fun _ _ e=>e)
  subst e
  exact wpAny_pure ⟨rfl,R'⟩
 by_cases hCD:C=D
 ·subst hCD
  rw [if_neg (by simp)]
  refine wpAny_bind (wpAny_pure ?_)
  simp only [Bool.false_eq_true,if_false]
  exact rest
 ·rw [if_pos (by simp [hCD])]
  refine wpAny_bind ((looks_mroIn X (hsub.resolve_left hCD)).here ?_)
  simp only [Bool.false_eq_true,if_false]
  exact rest
theorem EqC.pair {a1 a2 b1 b2:Addr} (hne:x≠y) (ex:H x=some (.tup [.ref a1,.ref b1])) (ey:H y=some (.tup [.ref a2,.ref b2])) {e1 e2:Bool} (h1:EqC c n H a1 a2 e1) (h2:e1=true→EqC c n H b1 b2 e2):EqC c (n+1) H x y (e1 && e2):=by
 refine EqC.of_rich hne fun A Z s hr R=>?_
 obtain ⟨xs,m,S⟩:=R.seqAt ex
 obtain ⟨ys,m',P⟩:=R.seqAt ey
 obtain ⟨u1,u2,rfl,w1,w2⟩:=er_2 S.er
 obtain ⟨v1,v2,rfl,w3,w4⟩:=er_2 P.er
 obtain rfl:=er_ref w1
 obtain rfl:=er_ref w2
 obtain rfl:=er_ref w3
 obtain rfl:=er_ref w4
 have q1:=S.e
 have p1:=P.e
 refine wpAny_richCompare_same_room (op:=.Eq) ⟨_,q1,rfl⟩ ⟨_,p1,rfl⟩ F.slot_tuple_eq ?_ (Nat.lt_of_le_of_lt (Nat.le_add_right _ 900) (Room.cl hr))
 refine wpAny_call_entry F.slot_tuple_eq ⟨_,q1,rfl⟩ F.entry_tuple_eq ?_ (F.args_tuple_eq_2 _ _)
 have f2:=AutoSeq1.sub_tuple_tuple
 show wpAny _ _ (do
  if !(← isInstance (.ref y) (.type "tuple")) then return ← ret .notImplemented
  let xs ← Builtin.Tuple.tupleItemsOf (.ref x)
  let ys ← Builtin.Tuple.tupleItemsOf (.ref y)
  for (x,y) in xs.toList.zip ys.toList do
   if !(← eqBool x y) then return ← ret (.bool false)
  ret (Builtin.Tuple.tupleCompareSizes .Eq xs.size ys.size)) _ _ _
 refine wpAny_bind ?_
 unfold isInstance
 refine wpAny_bind (wpAny_typeOf_ref p1 ?_)
 show wpAny _ _ (isSubtype (.type "tuple") (.type "tuple")) _ _ _
 rw [f2]
 refine wpAny_pure ?_
 simp only [Bool.not_true,Bool.false_eq_true,if_false]
 have it:∀ {z:Addr} {zs:List Value} {m:Nat} {s:Shared} {W:Array Value→Shared→Prop},s.heap.get? z=some ⟨.type "tuple",none,.seq zs.toArray m,#[]⟩→W zs.toArray s→wpAny c.M A.in1 (Builtin.Tuple.tupleItemsOf (.ref z)) W BOT s:=fun e k=>by
  unfold Builtin.Tuple.tupleItemsOf
  exact wpAny_bind (wpAny_seqItems e rfl (wpAny_pure k))
 refine wpAny_bind (it q1 (wpAny_bind (it p1 ?_)))
 show wpAny _ _ (do
  for (x,y) in ([(Value.ref a1,Value.ref a2),(Value.ref b1,Value.ref b2)]:List (Value × Value)) do
   if !(← eqBool x y) then return ← ret (.bool false)
  ret (.bool true)) _ _ _
 simp only [List.forIn_cons,List.forIn_nil]
 refine wpAny_bind (wpAny_bind (wpAny_bind (wpAny_mono (h1 A.in1 Z s hr.in1 R) (fun v s' ⟨e,R'⟩=>?_) fun _ _ e=>e)))
 subst e
 cases v with
 | false=>
  simp only [Bool.not_false,if_true]
  refine wpAny_bind (m:=ret (.bool false)) (wpAny_pure ?_)
  refine wpAny_pure (wpAny_pure (wpAny_pure ⟨_,rfl,(fun q=>by cases q),rfl,R'⟩))
 | true=>
  simp only [Bool.not_true,Bool.false_eq_true,if_false]
  refine wpAny_pure (wpAny_bind (wpAny_bind (wpAny_mono (h2 rfl A.in1 Z s' hr.in1 R') (fun v s2 ⟨e,R2⟩=>?_) fun _ _ e=>e)))
  subst e
  cases v with
  | false=>
   simp only [Bool.not_false,if_true]
   refine wpAny_bind (m:=ret (.bool false)) (wpAny_pure ?_)
   refine wpAny_pure (wpAny_pure (wpAny_pure ⟨_,rfl,(fun q=>by cases q),rfl,R2⟩))
  | true=>
   simp only [Bool.not_true,Bool.false_eq_true,if_false]
   exact wpAny_pure (wpAny_pure (wpAny_pure ⟨_,rfl,(fun q=>by cases q),rfl,R2⟩))
theorem list_remove_loop {ts:List Addr} {k0:Nat} (e:H l=some (.list (ts.map V.ref))) (hk:k0 < ts.length) (hno:∀ j a,j < k0→ts[j]?=some a→EqC c n H a t false) (hyes:∀ a,ts[k0]?=some a→EqC c n H a t true)
  {A:Around} {Z:Froz} {W:Value→Shared→Prop} (hA:Room (n+1) A) (h:∀ s',Rel c Z (H.set l (.list ((ts.eraseIdx k0).map V.ref))) s'→W .none s') :
  ∀ (r i:Nat) (s:Shared),Rel c Z H s→k0 - i=r→i≤k0→wpAny c.M A.in1 (Builtin.«list.remove.loop» ⟨[.ref l,.ref t,rawInt i],[]⟩) (fins c.M A W) BOT s:=by
 have item:∀ {s:Shared} {i:Nat},Rel c Z H s→i≤k0→∃ (xs:List Value) (m:Nat) (a:Addr),SeqAt .list s l (ts.map V.ref) xs m∧xs.toArray[((i:Nat):Int).toNat]?=some (.ref a)∧ts[i]?=some a:=fun {s i} R hi=>by
  obtain ⟨xs,m,S⟩:=R.seqAt e
  have ei:=List.getElem?_eq_getElem (Nat.lt_of_le_of_lt hi hk)
  obtain ⟨y,e1,e2⟩:=S.at (i:=i) (x:=.ref ts[i]) (by rw [List.getElem?_map,ei]; rfl)
  obtain rfl:=er_ref e2
  exact ⟨xs,m,_,S,e1,ei⟩
 intro r
 induction r with
 | zero=>
  intro i s R hr hle
  obtain rfl:=Nat.le_antisymm hle (Nat.le_of_sub_eq_zero hr)
  obtain ⟨xs,m,a,S,q4,q5⟩:=item R (Nat.le_refl _)
  show wpAny c.M _ (Builtin.List.listItems (.ref l) >>= _) _ _ _
  refine wpAny_bind (listItems_at S.e rfl ?_)
  rw [q4]
  refine wpAny_bind (wpAny_mono (hyes a q5 A.in1 Z s hA.in1 R) (fun v s' ⟨ev,R'⟩=>?_) fun _ _ e=>e)
  subst ev
  rw [if_pos rfl]
  obtain ⟨xs,m,a',S,q4,q5'⟩:=item R' (Nat.le_refl _)
  have hsz:xs.toArray.size≤sizeLine:=by rw [List.size_toArray,S.len]; exact le_sizeLine S.le
  have hx:xs.toArray.eraseIdxIfInBounds ((i:Nat):Int).toNat=(xs.eraseIdx i).toArray:=by rw [Int.toNat_natCast,List.eraseIdxIfInBounds_toArray]
  refine wpAny_bind (listUpdate_at S.e rfl (wpAny_pure (h _ (R'.setSeq (us:=(ts.eraseIdx i).map V.ref) (xs:=xs.eraseIdx i) (m:=if (xs.eraseIdx i).toArray.size == xs.toArray.size then m else m + 1) e ?_ ?_ ?_ fun b ob hb eb=>(Heap.get?_update_other _ _ (Ne.symm hb)).trans eb))) hsz ?_)
  ·rw [List.length_map]; exact Nat.le_trans (List.length_eraseIdx_le ..) (List.length_map V.ref▸S.le)
  ·rw [Heap.get?_update_self _ S.e rfl]
   unfold Obj.mapSeq
   dsimp only
   rw [hx]
  ·rw [map_eraseIdx,S.er,← map_eraseIdx]
  ·rw [hx]
   exact Nat.le_trans (by rw [List.size_toArray,List.size_toArray]; exact List.length_eraseIdx_le ..) (Nat.le_succ_of_le hsz)
 | succ r ih=>
  intro i s R hr hle
  have hi:i < k0:=Nat.lt_of_sub_eq_succ hr
  obtain ⟨xs,m,a,S,q4,q5⟩:=item R hle
  show wpAny c.M _ (Builtin.List.listItems (.ref l) >>= _) _ _ _
  refine wpAny_bind (listItems_at S.e rfl ?_)
  rw [q4]
  refine wpAny_bind (wpAny_mono (hno i a hi q5 A.in1 Z s hA.in1 R) (fun v s' ⟨ev,R'⟩=>?_) fun _ _ e=>e)
  subst ev
  rw [if_neg (by decide)]
  refine wpAny_pure ⟨plainId_quiet MeetsSeq.plain_remove_loop _,codeAny_builtin MeetsSeq.entry_remove_loop ?_⟩
  rw [Around.under_plainId MeetsSeq.plain_remove_loop _]
  exact wpAny_mono (ih (i + 1) s' R' (by rw [Nat.sub_add_eq,hr]; rfl) hi) (fun _ _ x=>x) fun _ _ x=>x.elim
theorem CallV.removeEq {ts:List Addr} {k0:Nat} (e:H l=some (.list (ts.map V.ref))) (hk:k0 < ts.length) (hno:∀ j a,j < k0→ts[j]?=some a→EqC c n H a t false) (hyes:∀ a,ts[k0]?=some a→EqC c n H a t true)
  (h:Q .none (H.set l (.list ((ts.eraseIdx k0).map V.ref)))):CallV c (n+1) (.oth (.builtin "list.remove")) [.ref l,.ref t] H Q:=.bs e fun ws A Z s xs m hr R S e2=>by
 obtain ⟨y,rfl,e4⟩:=er_1 e2
 obtain rfl:=er_ref e4
 refine wpAny_call (codeAny_call_builtin PySem.F.slot_list_remove.plain PySem.F.entry_list_remove (PySem.F.slot_list_remove.check _ _ _ _ _ _ _ _ ⟨_,S.e,rfl⟩ (PySem.F.args_list_remove_2 _ _) ?_))
 refine wpAny_pure ⟨plainId_quiet MeetsSeq.plain_remove_loop _,codeAny_builtin MeetsSeq.entry_remove_loop ?_⟩
 rw [Around.under_plainId MeetsSeq.plain_remove_loop _]
 exact wpAny_mono (list_remove_loop e hk hno hyes hr (fun s' R'=>⟨_,R',h⟩) _ 0 s R rfl (Nat.zero_le _)) (fun _ _ x=>x) fun _ _ x=>x.elim
theorem CallV.isinst (e:H y=some (.inst D d)) (hi:isIn c.K (.ref D) C=true) (h:Q (.bool true) H):CallV c n (.oth (.builtin "isinstance")) [.ref y,.ref C] H Q:=.b fun ws A Z s hr R e2=>by
 obtain ⟨a,b,rfl,e3,e4⟩:=er_2 e2
 obtain rfl:=er_ref e3
 obtain rfl:=er_ref e4
 obtain ⟨_,q1,rfl⟩:=R.real y _ e
 exact call_isinstance_of (isi_nested R.KIn ((Looks.ld q1).andThen .now) hi ⟨H,R,h⟩) (by intro q; cases q)
end
section
variable {c:Cx} {n:Nat} {H:AH} {Q:V→AH→Prop} {d l:Addr} {es:List (Int × V)} {ep:Option Nat} {k:Int} {ns:List Int}
theorem TruthT.dict (e:H d=some (.dict es ep)) (h:Q (.bool (!es.isEmpty)) H):TruthT c n (.ref d) H Q:=⟨fun v e1 A Z s hr R=>by
 obtain rfl:=er_ref e1
 obtain ⟨kvs,D⟩:=R.dic e
 exact wpAny_truthy_dict D.nm D.e (Int.lt_of_le_of_lt (Int.ofNat_le.mpr D.le) (by decide)) ⟨H,R.toks,by rw [show (!kvs.isEmpty)=!es.isEmpty by rw [← D.er]; cases kvs <;> rfl]; exact h⟩⟩
theorem CmpT.notInTupI (e:H l=some (.tup (iL ns))) (h:Q (.bool (!decide (k∈ns))) H):CmpT c n .NotIn (.int k) (.ref l) H Q:=⟨fun ri rv e2 e1 A Z s hr R=>by
 obtain rfl:=er_ref e1
 obtain ⟨t,rfl⟩:=er_int e2
 obtain ⟨xs,m,S⟩:=R.seqAt e
 have hI:=intsAre_of S.er
 refine PySem.SeqAt.notIn_tupleAt (isInt k) ⟨_,S.e,rfl,m,rfl⟩ (fun y hy=>(eq_isInt k t hI y (by simpa using hy)).at _ _) ⟨H,R,?_⟩
 rw [← Array.any_toList,show xs.toArray.toList=xs from rfl,any_isInt k hI,any_mem]; exact h⟩
end
end Mine
namespace Mine
noncomputable def kF:Code:=.ld 2<|.comp .range 1 [none,none,none,some 6] (.st 1<|.cst (.oth (.builtin "sorted"))<|.ld 3<|.ld 1<|.sub<|.cst .none<|.cst .none<|.sl<|.call 1<|.done)<|.ld 18<|.cmp .Eq<|.ret
noncomputable def kE:Code:=.whil (.ld 20<|.tru<|.done) (.ld 20<|.gm "pop"<|.cm 0<|.unp 3<|.st 4<|.st 23<|.st 16<|.cst (.ref 486)<|.ld 6<|.ld 23<|.call 2<|.tru<|.nt<|.ite (.cst (.bool false)<|.ret) .done<|.done)<|kF
noncomputable def kTg:Code:=.ld 23<|.tru<|.nt<|.brt true (.ld 29<|.tru<|.nt<|.done)<|.ite (.cst (.bool false)<|.ret) .done<|.ld 20<|.gm "append"<|.ld 4<|.ld 23<|.ld 16<|.tup 3<|.cm 1<|.pop<|.ld 29<|.st 16<|.done
noncomputable def kTs:Code:=.ld 23<|.loop .seq 1 (.st 25<|.ld 29<|.loop .seq 1 (.st 28<|.ld 28<|.ld 25<|.sub<|.ld 6<|.ld 25<|.sub<|.cmp .NotIn<|.tru<|.ite (.cst (.bool false)<|.ret) .done<|.done) .done<|.done) .done<|kTg
noncomputable def kTb:Code:=.ld 29<|.tru<|.ite (.cst (.bool false)<|.ret) .done<|.ld 19<|.ld 4<|.dsub<|.cst (.ref 486)<|.ld 6<|.ld 23<|.call 2<|.tru<|.nt<|.ite (.cst (.bool false)<|.ret) .done<|.done
noncomputable def kT9:Code:=.ld 27<|.tru<|.ite kTs kTb .done
noncomputable def kT8:Code:=.cst (.oth (.builtin "sorted"))<|.ld 19<|.gm "items"<|.cm 0<|.call 1<|.ld 26<|.cmp .NotEq<|.tru<|.brt false (.cst (.oth (.builtin "sorted"))<|.ld 6<|.ld 4<|.sub<|.cst .none<|.cst .none<|.sl<|.call 1<|.ld 24<|.cmp .NotEq<|.tru<|.done)<|.ite (.cst (.bool false)<|.ret) .done<|kT9
noncomputable def kT7:Code:=.ld 16<|.comp .seq 1 [none,none,some 19,some 4] (.st 1<|.ld 1<|.ld 3<|.sub<|.ld 2<|.ld 3<|.sub<|.cmp .Eq<|.tru<|.ite (.ld 1<|.done) .cont<|.done)<|.st 29<|kT8
noncomputable def kT6:Code:=.cst (.bool true)<|.st 27<|.ld 7<|.ld 4<|.sub<|.loop .seq 1 (.unp 2<|.st 13<|.st 12<|.ld 27<|.tru<|.brt true (.ld 13<|.ld 12<|.ld 6<|.ld 19<|.ld 21<|.cst (.int 64)<|.bin .FloorDiv<|.cst (.int 4)<|.bin .Mod<|.cst (.int 1)<|.cmp .NotEq<|.call 4<|.tru<|.nt<|.done)<|.ite (.cst (.bool false)<|.st 27<|.done) .done<|.done) .done<|kT7
noncomputable def kT5:Code:=.ld 24<|.ld 21<|.cst (.int 16)<|.bin .FloorDiv<|.cst (.oth (.builtin "len"))<|.ld 24<|.call 1<|.bin .Mod<|.sub<|.ld 19<|.ld 4<|.ssub<|.cst (.oth (.builtin "sorted"))<|.ld 19<|.gm "items"<|.cm 0<|.call 1<|.st 26<|kT6
noncomputable def kT4:Code:=.dic<|.st 23<|.ld 22<|.loop .seq 1 (.st 25<|.ld 25<|.ld 4<|.cmp .NotEq<|.tru<|.ite (.cst (.oth (.builtin "sorted"))<|.ld 6<|.ld 25<|.sub<|.cst .none<|.cst .none<|.sl<|.call 1<|.ld 23<|.ld 25<|.ssub<|.ld 6<|.ld 25<|.sub<|.gm "pushState"<|.cm 0<|.pop<|.done) .done<|.done) .done<|kT5
noncomputable def kT3:Code:=.ld 22<|.ld 21<|.cst (.int 4)<|.bin .FloorDiv<|.cst (.oth (.builtin "len"))<|.ld 22<|.call 1<|.bin .Mod<|.sub<|.st 4<|.cst (.oth (.builtin "sorted"))<|.ld 6<|.ld 4<|.sub<|.cst .none<|.cst .none<|.sl<|.call 1<|.st 24<|.ld 24<|.tru<|.nt<|.ite (.ld 16<|.tru<|.ite (.cst (.bool false)<|.ret) .done<|.cont) .done<|kT4
noncomputable def kT2:Code:=.ld 20<|.tru<|.brt true (.ld 21<|.cst (.int 4)<|.bin .Mod<|.cst (.int 3)<|.cmp .Eq<|.tru<|.brt false (.ld 22<|.tru<|.nt<|.done)<|.done)<|.ite (.ld 20<|.gm "pop"<|.cm 0<|.unp 3<|.st 4<|.st 23<|.st 16<|.ld 19<|.ld 4<|.dsub<|.cst (.ref 486)<|.ld 6<|.ld 23<|.call 2<|.tru<|.nt<|.ite (.cst (.bool false)<|.ret) .done<|.cont) .done<|kT3
noncomputable def kT1:Code:=.ld 2<|.comp .range 1 [none,none,some 19] (.st 1<|.ld 1<|.ld 2<|.cmp .NotIn<|.tru<|.ite (.ld 1<|.done) .cont<|.done)<|.st 22<|kT2
noncomputable def kT0:Code:=.st 21<|kT1
noncomputable def kD:Code:=.ld 15<|.loop .seq 1 kT0 .done<|kE
noncomputable def kC7:Code:=.dic<|.st 19<|.lst 0<|.st 20<|kD
noncomputable def kC6:Code:=.ld 2<|.comp .range 1 [none,none,none,some 6] (.st 1<|.cst (.oth (.builtin "sorted"))<|.ld 3<|.ld 1<|.sub<|.cst .none<|.cst .none<|.sl<|.call 1<|.done)<|.st 18<|.cst (.ref 472)<|.ld 18<|.ld 17<|.comp .seq 1 [none,none,some 10] (.st 1<|.ld 2<|.ld 1<|.sub<|.done)<|.call 2<|.ld 16<|.cmp .NotEq<|.tru<|.ite (.cst (.bool false)<|.ret) .done<|kC7
noncomputable def kC5:Code:=.cst (.ref 479)<|.ld 9<|.ld 8<|.ld 17<|.call 3<|.tru<|.nt<|.ite (.cst (.bool false)<|.ret) .done<|.ld 2<|.loop .range 1 (.st 4<|.cst (.ref 479)<|.ld 7<|.ld 4<|.sub<|.ld 8<|.ld 17<|.comp .seq 1 [none,none,some 10,some 4] (.st 1<|.ld 3<|.ld 2<|.ld 1<|.sub<|.cst (.int 0)<|.sub<|.cmp .In<|.tru<|.ite (.ld 1<|.done) .cont<|.done)<|.call 3<|.tru<|.nt<|.ite (.cst (.bool false)<|.ret) .done<|.done) .done<|kC6
noncomputable def kC4:Code:=.cst (.oth (.builtin "len"))<|.ld 8<|.call 1<|.comp .range 1 [none,none,none,some 10] (.st 1<|.cst (.oth (.builtin "len"))<|.ld 3<|.ld 1<|.sub<|.cst (.int 0)<|.sub<|.call 1<|.cst (.int 1)<|.cmp .Gt<|.tru<|.brt true (.ld 3<|.ld 1<|.sub<|.cst (.int 1)<|.sub<|.cst (.int 0)<|.sub<|.cst (.int 5)<|.cst (.int 6)<|.tup 2<|.cmp .NotIn<|.tru<|.done)<|.ite (.ld 1<|.done) .cont<|.done)<|.st 17<|kC5
noncomputable def kC3:Code:=.ld 9<|.cst .none<|.cst .none<|.sl<|.loop .seq 1 (.unp 2<|.st 13<|.st 12<|.ld 13<|.gm "preProcess"<|.ld 12<|.ld 6<|.ld 9<|.ld 7<|.cm 4<|.pop<|.done) .done<|kC4
noncomputable def kC2:Code:=.cst (.ref 472)<|.ld 5<|.ld 10<|.call 2<|.st 16<|kC3
noncomputable def kC1:Code:=.ld 1<|.cst (.int 6)<|.cst (.int 3)<|.cst (.oth (.builtin "len"))<|.ld 8<|.call 1<|.bin .Mult<|.bin .Add<|.cst .none<|.sl<|.cst (.int 0)<|.cst (.int 20)<|.cst (.int 2)<|.cst (.int 3)<|.cst (.int 36)<|.cst (.int 1)<|.cst (.int 0)<|.lst 7<|.bin .Add<|.cst .none<|.cst (.int 14)<|.sl<|.st 15<|kC2
noncomputable def kB3:Code:=.ld 8<|.gm "append"<|.ld 13<|.cm 1<|.pop<|.ld 9<|.gm "append"<|.ld 13<|.ld 12<|.tup 2<|.cm 1<|.pop<|.ld 10<|.gm "append"<|.ld 12<|.ld 14<|.tup 2<|.cm 1<|.pop<|.ld 12<|.loop .seq 1 (.st 4<|.ld 7<|.ld 4<|.sub<|.gm "append"<|.ld 13<|.ld 12<|.tup 2<|.cm 1<|.pop<|.done) .done<|.done
noncomputable def kB2:Code:=.cst (.ref 462)<|.cst (.ref 440)<|.ld 1<|.cst (.int 6)<|.cst (.int 3)<|.ld 11<|.bin .Mult<|.bin .Add<|.call 2<|.cst (.int 10)<|.bin .Mod<|.cst (.oth (.builtin "len"))<|.ld 12<|.call 1<|.cst (.ref 440)<|.ld 1<|.cst (.int 8)<|.cst (.int 3)<|.ld 11<|.bin .Mult<|.bin .Add<|.call 2<|.call 3<|.unp 2<|.st 13<|.st 14<|kB3
noncomputable def kB1:Code:=.cst (.ref 450)<|.cst (.oth (.type "list"))<|.cst (.oth (.type "range"))<|.ld 2<|.call 1<|.call 1<|.cst (.ref 440)<|.ld 1<|.cst (.int 7)<|.cst (.int 3)<|.ld 11<|.bin .Mult<|.bin .Add<|.call 2<|.call 2<|.st 12<|kB2
noncomputable def kA4:Code:=.lst 0<|.st 8<|.lst 0<|.st 9<|.lst 0<|.st 10<|.cst (.int 1)<|.cst (.ref 440)<|.ld 1<|.cst (.int 5)<|.call 2<|.cst (.int 4)<|.bin .Mod<|.bin .Add<|.loop .range 1 (.st 11<|kB1) .done<|kC1
noncomputable def kA3:Code:=.dic<|.st 6<|.dic<|.st 7<|.ld 2<|.loop .range 1 (.st 4<|.cst (.ref 97)<|.ld 5<|.ld 4<|.sub<|.call 1<|.ld 6<|.ld 4<|.ssub<|.lst 0<|.ld 7<|.ld 4<|.ssub<|.done) .done<|kA4
noncomputable def kA2:Code:=.ld 2<|.comp .range 1 [none,none,none,none,some 3,some 1] (.st 1<|.cst (.ref 445)<|.cst (.ref 440)<|.ld 5<|.cst (.int 1)<|.ld 1<|.bin .Add<|.call 2<|.call 1<|.cst .none<|.ld 4<|.sl<|.done)<|.st 5<|kA3
noncomputable def kA1:Code:=.ld 0<|.cst .none<|.cst (.int 32)<|.sl<|.st 1<|.cst (.int 2)<|.cst (.ref 440)<|.ld 1<|.cst (.int 0)<|.call 2<|.cst (.int 3)<|.bin .Mod<|.bin .Add<|.st 2<|.ld 2<|.cst (.int 4)<|.cmp .Eq<|.tru<|.ite (.cst (.int 2)<|.done) (.cst (.int 3)<|.done)<|.st 3<|kA2
end Mine
set_option genSizeOfSpec true
set_option genInjectivity true
namespace Mine
noncomputable def nthS:List Stmt→Nat→Stmt
 | s::_,0=>s
 | _::r,n + 1=>nthS r n
 | [],_=>.Pass default
noncomputable def topS (i:Nat):Stmt:=nthS PySem.Challenge.pw_al0017_01.main.body i
noncomputable def inS (s:Stmt) (j:Nat):Stmt:=match s with
 | .ClassDef (body:=b) ..=>nthS b j
 | _=>.Pass default
noncomputable def fA (s:Stmt):Arguments:=match s with
 | .FunctionDef (args:=a) ..=>a
 | _=>default
noncomputable def fB (s:Stmt):List Stmt:=match s with
 | .FunctionDef (body:=b) ..=>b
 | _=>[]
noncomputable def fS (s:Stmt):Scope:=match s with
 | .FunctionDef (scope:=b) ..=>b
 | _=>default
noncomputable abbrev ke (P:Params) (x:Str) (t:Tok) (v:Value):DictEntry:={ hash:=PyData.keyHash P x,key:=.str x t,val:=v }
noncomputable abbrev vs (x:Str) (t:Tok):Value:=.str x t
noncomputable def tO (x:Array Value):Obj:={ cls:=.type "tuple",data:=Data.seq x }
noncomputable def fO (a b:Str) (s:Stmt) (d m:Value) (k:Addr):Obj:={ cls:=.type "function",data:=Data.func { name:=a,qualname:=b,params:=fA s,body:=FuncBody.stmts (fB s),scope:=fS s,globals:=3,closure:=[],defaults:=d,kwdefaults:=.none,pyModule:=m,code:=.ref k } }
noncomputable def cO (a b:Value) (t1:Tok) (l n:Int) (r1 r2:Addr) (x y:Value) (r3:Addr) (i:Int) (t2:Tok):Obj:={ cls:=.type "code",data:=Data.fields #[a,b,vs "/claim/cut.py" t1,.int l 0,.int n 0,.int 0 0,.int 0 0,.int 3 0,.ref r1,.bool true,.int 181 0,.ref r2,.none,x,y,.ref r3,.int i 0,.int l 0,vs "/claim/cut.py" t2] }
noncomputable def K (P:Params):PySem.W.Frag:=
 [(2,{ cls:=.none,data:=Data.dict #[] }),
 (3,{ cls:=.type "dict",data:=Data.dict #[ke P "__name__" 165 (vs "law_al0017_01" 824),ke P "__doc__" 166 (.none),ke P "__package__" 167 (.none),ke P "__loader__" 168 (.builtin "__main__.__loader__#opaque"),ke P "__spec__" 169 (.none),ke P "__annotations__" 170 (.ref 6),ke P "__builtins__" 171 (.ref 4),ke P "__file__" 173 (vs "/claim/cut.py" 172),ke P "__cached__" 174 (.none),ke P "_wall" 193 (.ref 21),ke P "Variable" 231 (.ref 45),ke P "Unassigned" 237 (.ref 51),ke P "Domain" 297 (.ref 97),ke P "Constraint" 366 (.ref 141),ke P "FunctionConstraint" 399 (.ref 169),ke P "AllDifferentConstraint" 431 (.ref 189),ke P "AllEqualConstraint" 463 (.ref 209),ke P "MaxSumConstraint" 525 (.ref 244),ke P "ExactSumConstraint" 588 (.ref 279),ke P "MinSumConstraint" 631 (.ref 307),ke P "InSetConstraint" 681 (.ref 341),ke P "NotInSetConstraint" 731 (.ref 375),ke P "SomeInSetConstraint" 777 (.ref 403),ke P "SomeNotInSetConstraint" 823 (.ref 431),ke P "_law_at" 833 (.ref 440),ke P "_law_values" 839 (.ref 445),ke P "_law_pick" 845 (.ref 450),ke P "_law_func" 854 (.ref 457),ke P "_law_rule" 860 (.ref 462),ke P "_law_fits" 866 (.ref 467),ke P "_law_all" 872 (.ref 472),ke P "_law_same" 883 (.ref 479),ke P "_law_back" 892 (.ref 486),ke P "law" 898 (.ref 491)] 34 }),
 (15,tO #[]),
 (17,tO #[vs "k" 190]),
 (18,tO #[]),
 (20,cO (vs "_wall" 187) (vs "_wall" 188) 189 1 1 15 16 (.ref 17) (.ref 18) 19 191 192),
 (21,fO "_wall" "_wall" (topS 0) (.none) (vs "__main__" 164) 20),
 (22,tO #[.type "object"]),
 (29,tO #[]),
 (31,tO #[vs "self" 211,vs "name" 212]),
 (32,tO #[]),
 (34,cO (vs "__init__" 208) (vs "Variable.__init__" 209) 210 7 2 29 30 (.ref 31) (.ref 32) 33 213 214),
 (35,fO "__init__" "Variable.__init__" (inS (topS 2) 0) (.none) (vs "constraint" 194) 34),
 (36,tO #[]),
 (38,tO #[vs "self" 219]),
 (39,tO #[]),
 (41,cO (vs "__repr__" 216) (vs "Variable.__repr__" 217) 218 10 1 36 37 (.ref 38) (.ref 39) 40 220 221),
 (42,fO "__repr__" "Variable.__repr__" (inS (topS 2) 1) (.none) (vs "constraint" 194) 41),
 (43,tO #[vs "name" 223]),
 (44,{ cls:=.type "dict",data:=Data.dict #[ke P "__module__" 203 (vs "constraint" 194),ke P "__firstlineno__" 207 (.int 5 206),ke P "__init__" 215 (.ref 35),ke P "__repr__" 222 (.ref 42),ke P "__static_attributes__" 224 (.ref 43),ke P "__dict__" 226 (.ref 46),ke P "__weakref__" 228 (.ref 47),ke P "__doc__" 229 (.none)] 4 }),
 (45,{ cls:=.type "type",data:=Data.cls { name:="Variable",bases:=[.type "object"],mro:=[.ref 45,.type "object"],ns:=44,qualname:="Variable" },slots:=#[some (.ref 22),none,some (vs "Variable" 196),some (vs "Variable" 204),some (.builtin "object.__new__"),some (.bool true)] }),
 (46,{ cls:=.type "getset_descriptor",data:=Data.fields #[vs "__dict__" 225,.ref 45,.builtin "function.__dict__",.builtin "function.__dict__#set"] }),
 (47,{ cls:=.type "getset_descriptor",data:=Data.fields #[vs "__weakref__" 227,.ref 45,.builtin "ExceptionGroup.__weakref__",.none] }),
 (50,{ cls:=.type "dict",data:=Data.dict #[ke P "name" 236 (vs "Unassigned" 232)] 1 }),
 (51,{ cls:=.ref 45,dict:=some 50 }),
 (53,tO #[.type "list"]),
 (60,tO #[]),
 (62,tO #[vs "self" 253,vs "values" 254]),
 (63,tO #[]),
 (65,cO (vs "__init__" 250) (vs "Domain.__init__" 251) 252 15 2 60 61 (.ref 62) (.ref 63) 64 255 256),
 (66,fO "__init__" "Domain.__init__" (inS (topS 4) 0) (.none) (vs "constraint" 194) 65),
 (67,tO #[]),
 (69,tO #[vs "self" 261]),
 (70,tO #[]),
 (72,cO (vs "resetState" 258) (vs "Domain.resetState" 259) 260 20 1 67 68 (.ref 69) (.ref 70) 71 262 263),
 (73,fO "resetState" "Domain.resetState" (inS (topS 4) 1) (.none) (vs "constraint" 194) 72),
 (74,tO #[]),
 (76,tO #[vs "self" 268]),
 (77,tO #[]),
 (79,cO (vs "pushState" 265) (vs "Domain.pushState" 266) 267 23 1 74 75 (.ref 76) (.ref 77) 78 269 270),
 (80,fO "pushState" "Domain.pushState" (inS (topS 4) 2) (.none) (vs "constraint" 194) 79),
 (81,tO #[]),
 (83,tO #[vs "self" 275,vs "diff" 276]),
 (84,tO #[]),
 (86,cO (vs "popState" 272) (vs "Domain.popState" 273) 274 26 1 81 82 (.ref 83) (.ref 84) 85 277 278),
 (87,fO "popState" "Domain.popState" (inS (topS 4) 3) (.none) (vs "constraint" 194) 86),
 (88,tO #[]),
 (90,tO #[vs "self" 283,vs "value" 284]),
 (91,tO #[]),
 (93,cO (vs "hideValue" 280) (vs "Domain.hideValue" 281) 282 32 2 88 89 (.ref 90) (.ref 91) 92 285 286),
 (94,fO "hideValue" "Domain.hideValue" (inS (topS 4) 4) (.none) (vs "constraint" 194) 93),
 (95,tO #[vs "_hidden" 288,vs "_states" 289]),
 (96,{ cls:=.type "dict",data:=Data.dict #[ke P "__module__" 245 (vs "constraint" 194),ke P "__firstlineno__" 249 (.int 13 248),ke P "__init__" 257 (.ref 66),ke P "resetState" 264 (.ref 73),ke P "pushState" 271 (.ref 80),ke P "popState" 279 (.ref 87),ke P "hideValue" 287 (.ref 94),ke P "__static_attributes__" 290 (.ref 95),ke P "__dict__" 292 (.ref 98),ke P "__weakref__" 294 (.ref 99),ke P "__doc__" 295 (.none)] 4 }),
 (97,{ cls:=.type "type",data:=Data.cls { name:="Domain",bases:=[.type "list"],mro:=[.ref 97,.type "list",.type "object"],ns:=96,qualname:="Domain" },slots:=#[some (.ref 53),none,some (vs "Domain" 238),some (vs "Domain" 246),some (.builtin "list.__new__"),some (.bool true)] }),
 (98,{ cls:=.type "getset_descriptor",data:=Data.fields #[vs "__dict__" 291,.ref 97,.builtin "function.__dict__",.builtin "function.__dict__#set"] }),
 (99,{ cls:=.type "getset_descriptor",data:=Data.fields #[vs "__weakref__" 293,.ref 97,.builtin "ExceptionGroup.__weakref__",.none] }),
 (102,tO #[.type "object"]),
 (109,tO #[]),
 (111,tO #[vs "self" 313,vs "other" 314]),
 (112,tO #[]),
 (114,cO (vs "__eq__" 310) (vs "Constraint.__eq__" 311) 312 37 2 109 110 (.ref 111) (.ref 112) 113 315 316),
 (115,fO "__eq__" "Constraint.__eq__" (inS (topS 5) 0) (.none) (vs "constraint" 194) 114),
 (116,tO #[.bool false]),
 (117,tO #[]),
 (119,tO #[vs "self" 321,vs "variables" 322,vs "domains" 323,vs "assignments" 324,vs "forwardcheck" 325]),
 (120,tO #[]),
 (122,cO (vs "__call__" 318) (vs "Constraint.__call__" 319) 320 40 5 117 118 (.ref 119) (.ref 120) 121 326 327),
 (123,fO "__call__" "Constraint.__call__" (inS (topS 5) 1) (.ref 116) (vs "constraint" 194) 122),
 (124,tO #[]),
 (126,tO #[vs "self" 332,vs "variables" 333,vs "domains" 334,vs "constraints" 335,vs "vconstraints" 336,vs "variable" 337,vs "domain" 338,vs "value" 339]),
 (127,tO #[]),
 (129,cO (vs "preProcess" 329) (vs "Constraint.preProcess" 330) 331 43 5 124 125 (.ref 126) (.ref 127) 128 340 341),
 (130,fO "preProcess" "Constraint.preProcess" (inS (topS 5) 2) (.none) (vs "constraint" 194) 129),
 (131,tO #[.ref 51]),
 (132,tO #[]),
 (134,tO #[vs "self" 346,vs "variables" 347,vs "domains" 348,vs "assignments" 349,vs "_unassigned" 350,vs "unassignedvariable" 351,vs "variable" 352,vs "domain" 353,vs "value" 354]),
 (135,tO #[]),
 (137,cO (vs "forwardCheck" 343) (vs "Constraint.forwardCheck" 344) 345 53 5 132 133 (.ref 134) (.ref 135) 136 355 356),
 (138,fO "forwardCheck" "Constraint.forwardCheck" (inS (topS 5) 3) (.ref 131) (vs "constraint" 194) 137),
 (139,tO #[]),
 (140,{ cls:=.type "dict",data:=Data.dict #[ke P "__module__" 305 (vs "constraint" 194),ke P "__firstlineno__" 309 (.int 35 308),ke P "__eq__" 317 (.ref 115),ke P "__call__" 328 (.ref 123),ke P "preProcess" 342 (.ref 130),ke P "forwardCheck" 357 (.ref 138),ke P "__static_attributes__" 358 (.ref 139),ke P "__dict__" 360 (.ref 142),ke P "__weakref__" 362 (.ref 143),ke P "__doc__" 363 (.none),ke P "__hash__" 364 (.none)] 5 }),
 (141,{ cls:=.type "type",data:=Data.cls { name:="Constraint",bases:=[.type "object"],mro:=[.ref 141,.type "object"],ns:=140,qualname:="Constraint",subclasses:=[.ref 169,.ref 189,.ref 209,.ref 244,.ref 279,.ref 307,.ref 341,.ref 375,.ref 403,.ref 431] },slots:=#[some (.ref 102),none,some (vs "Constraint" 298),some (vs "Constraint" 306),some (.builtin "object.__new__"),some (.bool true)] }),
 (142,{ cls:=.type "getset_descriptor",data:=Data.fields #[vs "__dict__" 359,.ref 141,.builtin "function.__dict__",.builtin "function.__dict__#set"] }),
 (143,{ cls:=.type "getset_descriptor",data:=Data.fields #[vs "__weakref__" 361,.ref 141,.builtin "ExceptionGroup.__weakref__",.none] }),
 (146,tO #[.ref 141]),
 (153,tO #[.bool true]),
 (154,tO #[]),
 (156,tO #[vs "self" 382,vs "func" 383,vs "assigned" 384]),
 (157,tO #[]),
 (159,cO (vs "__init__" 379) (vs "FunctionConstraint.__init__" 380) 381 75 3 154 155 (.ref 156) (.ref 157) 158 385 386),
 (160,fO "__init__" "FunctionConstraint.__init__" (inS (topS 6) 0) (.ref 153) (vs "constraint" 194) 159),
 (161,tO #[.bool false,.ref 51]),
 (162,tO #[]),
 (165,cO (vs "__call__" 388) (vs "FunctionConstraint.__call__" 389) 390 79 6 162 163 (.none) (.none) 164 391 392),
 (166,fO "__call__" "FunctionConstraint.__call__" (inS (topS 6) 1) (.ref 161) (vs "constraint" 194) 165),
 (167,tO #[vs "_assigned" 394,vs "_func" 395]),
 (168,{ cls:=.type "dict",data:=Data.dict #[ke P "__module__" 374 (vs "constraint" 194),ke P "__firstlineno__" 378 (.int 73 377),ke P "__init__" 387 (.ref 160),ke P "__call__" 393 (.ref 166),ke P "__static_attributes__" 396 (.ref 167),ke P "__doc__" 397 (.none)] 2 }),
 (169,{ cls:=.type "type",data:=Data.cls { name:="FunctionConstraint",bases:=[.ref 141],mro:=[.ref 169,.ref 141,.type "object"],ns:=168,qualname:="FunctionConstraint" },slots:=#[some (.ref 146),none,some (vs "FunctionConstraint" 367),some (vs "FunctionConstraint" 375),some (.builtin "object.__new__"),some (.bool true)] }),
 (172,tO #[.ref 141]),
 (179,tO #[.bool false,.ref 51]),
 (180,tO #[]),
 (182,tO #[vs "self" 415,vs "variables" 416,vs "domains" 417,vs "assignments" 418,vs "forwardcheck" 419,vs "_unassigned" 420,vs "seen" 421,vs "variable" 422,vs "value" 423,vs "domain" 424]),
 (183,tO #[]),
 (185,cO (vs "__call__" 412) (vs "AllDifferentConstraint.__call__" 413) 414 87 6 180 181 (.ref 182) (.ref 183) 184 425 426),
 (186,fO "__call__" "AllDifferentConstraint.__call__" (inS (topS 7) 0) (.ref 179) (vs "constraint" 194) 185),
 (187,tO #[]),
 (188,{ cls:=.type "dict",data:=Data.dict #[ke P "__module__" 407 (vs "constraint" 194),ke P "__firstlineno__" 411 (.int 85 410),ke P "__call__" 427 (.ref 186),ke P "__static_attributes__" 428 (.ref 187),ke P "__doc__" 429 (.none)] 2 }),
 (189,{ cls:=.type "type",data:=Data.cls { name:="AllDifferentConstraint",bases:=[.ref 141],mro:=[.ref 189,.ref 141,.type "object"],ns:=188,qualname:="AllDifferentConstraint" },slots:=#[some (.ref 172),none,some (vs "AllDifferentConstraint" 400),some (vs "AllDifferentConstraint" 408),some (.builtin "object.__new__"),some (.bool true)] }),
 (192,tO #[.ref 141]),
 (199,tO #[.bool false,.ref 51]),
 (200,tO #[]),
 (202,tO #[vs "self" 447,vs "variables" 448,vs "domains" 449,vs "assignments" 450,vs "forwardcheck" 451,vs "_unassigned" 452,vs "singlevalue" 453,vs "variable" 454,vs "value" 455,vs "domain" 456]),
 (203,tO #[]),
 (205,cO (vs "__call__" 444) (vs "AllEqualConstraint.__call__" 445) 446 107 6 200 201 (.ref 202) (.ref 203) 204 457 458),
 (206,fO "__call__" "AllEqualConstraint.__call__" (inS (topS 8) 0) (.ref 199) (vs "constraint" 194) 205),
 (207,tO #[]),
 (208,{ cls:=.type "dict",data:=Data.dict #[ke P "__module__" 439 (vs "constraint" 194),ke P "__firstlineno__" 443 (.int 105 442),ke P "__call__" 459 (.ref 206),ke P "__static_attributes__" 460 (.ref 207),ke P "__doc__" 461 (.none)] 2 }),
 (209,{ cls:=.type "type",data:=Data.cls { name:="AllEqualConstraint",bases:=[.ref 141],mro:=[.ref 209,.ref 141,.type "object"],ns:=208,qualname:="AllEqualConstraint" },slots:=#[some (.ref 192),none,some (vs "AllEqualConstraint" 432),some (vs "AllEqualConstraint" 440),some (.builtin "object.__new__"),some (.bool true)] }),
 (212,tO #[.ref 141]),
 (219,tO #[.none]),
 (220,tO #[]),
 (222,tO #[vs "self" 479,vs "maxsum" 480,vs "multipliers" 481]),
 (223,tO #[]),
 (225,cO (vs "__init__" 476) (vs "MaxSumConstraint.__init__" 477) 478 127 3 220 221 (.ref 222) (.ref 223) 224 482 483),
 (226,fO "__init__" "MaxSumConstraint.__init__" (inS (topS 9) 0) (.ref 219) (vs "constraint" 194) 225),
 (227,tO #[]),
 (229,tO #[vs "self" 488,vs "variables" 489,vs "domains" 490,vs "constraints" 491,vs "vconstraints" 492,vs "multipliers" 493,vs "maxsum" 494,vs "variable" 495,vs "multiplier" 496,vs "domain" 497,vs "value" 498]),
 (230,tO #[]),
 (232,cO (vs "preProcess" 485) (vs "MaxSumConstraint.preProcess" 486) 487 131 5 227 228 (.ref 229) (.ref 230) 231 499 500),
 (233,fO "preProcess" "MaxSumConstraint.preProcess" (inS (topS 9) 1) (.none) (vs "constraint" 194) 232),
 (234,tO #[.bool false]),
 (235,tO #[]),
 (237,tO #[vs "self" 505,vs "variables" 506,vs "domains" 507,vs "assignments" 508,vs "forwardcheck" 509,vs "multipliers" 510,vs "maxsum" 511,vs "sum" 512,vs "variable" 513,vs "multiplier" 514,vs "domain" 515,vs "value" 516]),
 (238,tO #[]),
 (240,cO (vs "__call__" 502) (vs "MaxSumConstraint.__call__" 503) 504 148 5 235 236 (.ref 237) (.ref 238) 239 517 518),
 (241,fO "__call__" "MaxSumConstraint.__call__" (inS (topS 9) 2) (.ref 234) (vs "constraint" 194) 240),
 (242,tO #[vs "_maxsum" 520,vs "_multipliers" 521]),
 (243,{ cls:=.type "dict",data:=Data.dict #[ke P "__module__" 471 (vs "constraint" 194),ke P "__firstlineno__" 475 (.int 125 474),ke P "__init__" 484 (.ref 226),ke P "preProcess" 501 (.ref 233),ke P "__call__" 519 (.ref 241),ke P "__static_attributes__" 522 (.ref 242),ke P "__doc__" 523 (.none)] 2 }),
 (244,{ cls:=.type "type",data:=Data.cls { name:="MaxSumConstraint",bases:=[.ref 141],mro:=[.ref 244,.ref 141,.type "object"],ns:=243,qualname:="MaxSumConstraint" },slots:=#[some (.ref 212),none,some (vs "MaxSumConstraint" 464),some (vs "MaxSumConstraint" 472),some (.builtin "object.__new__"),some (.bool true)] }),
 (247,tO #[.ref 141]),
 (254,tO #[.none]),
 (255,tO #[]),
 (257,tO #[vs "self" 541,vs "exactsum" 542,vs "multipliers" 543]),
 (258,tO #[]),
 (260,cO (vs "__init__" 538) (vs "ExactSumConstraint.__init__" 539) 540 185 3 255 256 (.ref 257) (.ref 258) 259 544 545),
 (261,fO "__init__" "ExactSumConstraint.__init__" (inS (topS 10) 0) (.ref 254) (vs "constraint" 194) 260),
 (262,tO #[]),
 (264,tO #[vs "self" 550,vs "variables" 551,vs "domains" 552,vs "constraints" 553,vs "vconstraints" 554,vs "multipliers" 555,vs "exactsum" 556,vs "variable" 557,vs "multiplier" 558,vs "domain" 559,vs "value" 560]),
 (265,tO #[]),
 (267,cO (vs "preProcess" 547) (vs "ExactSumConstraint.preProcess" 548) 549 189 5 262 263 (.ref 264) (.ref 265) 266 561 562),
 (268,fO "preProcess" "ExactSumConstraint.preProcess" (inS (topS 10) 1) (.none) (vs "constraint" 194) 267),
 (269,tO #[.bool false]),
 (270,tO #[]),
 (272,tO #[vs "self" 567,vs "variables" 568,vs "domains" 569,vs "assignments" 570,vs "forwardcheck" 571,vs "multipliers" 572,vs "exactsum" 573,vs "sum" 574,vs "missing" 575,vs "variable" 576,vs "multiplier" 577,vs "domain" 578,vs "value" 579]),
 (273,tO #[]),
 (275,cO (vs "__call__" 564) (vs "ExactSumConstraint.__call__" 565) 566 206 5 270 271 (.ref 272) (.ref 273) 274 580 581),
 (276,fO "__call__" "ExactSumConstraint.__call__" (inS (topS 10) 2) (.ref 269) (vs "constraint" 194) 275),
 (277,tO #[vs "_exactsum" 583,vs "_multipliers" 584]),
 (278,{ cls:=.type "dict",data:=Data.dict #[ke P "__module__" 533 (vs "constraint" 194),ke P "__firstlineno__" 537 (.int 183 536),ke P "__init__" 546 (.ref 261),ke P "preProcess" 563 (.ref 268),ke P "__call__" 582 (.ref 276),ke P "__static_attributes__" 585 (.ref 277),ke P "__doc__" 586 (.none)] 2 }),
 (279,{ cls:=.type "type",data:=Data.cls { name:="ExactSumConstraint",bases:=[.ref 141],mro:=[.ref 279,.ref 141,.type "object"],ns:=278,qualname:="ExactSumConstraint" },slots:=#[some (.ref 247),none,some (vs "ExactSumConstraint" 526),some (vs "ExactSumConstraint" 534),some (.builtin "object.__new__"),some (.bool true)] }),
 (282,tO #[.ref 141]),
 (289,tO #[.none]),
 (290,tO #[]),
 (292,tO #[vs "self" 604,vs "minsum" 605,vs "multipliers" 606]),
 (293,tO #[]),
 (295,cO (vs "__init__" 601) (vs "MinSumConstraint.__init__" 602) 603 251 3 290 291 (.ref 292) (.ref 293) 294 607 608),
 (296,fO "__init__" "MinSumConstraint.__init__" (inS (topS 11) 0) (.ref 289) (vs "constraint" 194) 295),
 (297,tO #[.bool false]),
 (298,tO #[]),
 (300,tO #[vs "self" 613,vs "variables" 614,vs "domains" 615,vs "assignments" 616,vs "forwardcheck" 617,vs "variable" 618,vs "multipliers" 619,vs "minsum" 620,vs "sum" 621,vs "multiplier" 622]),
 (301,tO #[]),
 (303,cO (vs "__call__" 610) (vs "MinSumConstraint.__call__" 611) 612 255 5 298 299 (.ref 300) (.ref 301) 302 623 624),
 (304,fO "__call__" "MinSumConstraint.__call__" (inS (topS 11) 1) (.ref 297) (vs "constraint" 194) 303),
 (305,tO #[vs "_minsum" 626,vs "_multipliers" 627]),
 (306,{ cls:=.type "dict",data:=Data.dict #[ke P "__module__" 596 (vs "constraint" 194),ke P "__firstlineno__" 600 (.int 249 599),ke P "__init__" 609 (.ref 296),ke P "__call__" 625 (.ref 304),ke P "__static_attributes__" 628 (.ref 305),ke P "__doc__" 629 (.none)] 2 }),
 (307,{ cls:=.type "type",data:=Data.cls { name:="MinSumConstraint",bases:=[.ref 141],mro:=[.ref 307,.ref 141,.type "object"],ns:=306,qualname:="MinSumConstraint" },slots:=#[some (.ref 282),none,some (vs "MinSumConstraint" 589),some (vs "MinSumConstraint" 597),some (.builtin "object.__new__"),some (.bool true)] }),
 (310,tO #[.ref 141]),
 (317,tO #[]),
 (319,tO #[vs "self" 647,vs "members" 648]),
 (320,tO #[]),
 (322,cO (vs "__init__" 644) (vs "InSetConstraint.__init__" 645) 646 272 2 317 318 (.ref 319) (.ref 320) 321 649 650),
 (323,fO "__init__" "InSetConstraint.__init__" (inS (topS 12) 0) (.none) (vs "constraint" 194) 322),
 (324,tO #[.bool false]),
 (325,tO #[]),
 (327,tO #[vs "self" 655,vs "variables" 656,vs "domains" 657,vs "assignments" 658,vs "forwardcheck" 659]),
 (328,tO #[]),
 (330,cO (vs "__call__" 652) (vs "InSetConstraint.__call__" 653) 654 275 5 325 326 (.ref 327) (.ref 328) 329 660 661),
 (331,fO "__call__" "InSetConstraint.__call__" (inS (topS 12) 1) (.ref 324) (vs "constraint" 194) 330),
 (332,tO #[]),
 (334,tO #[vs "self" 666,vs "variables" 667,vs "domains" 668,vs "constraints" 669,vs "vconstraints" 670,vs "variable" 671,vs "domain" 672,vs "value" 673]),
 (335,tO #[]),
 (337,cO (vs "preProcess" 663) (vs "InSetConstraint.preProcess" 664) 665 278 5 332 333 (.ref 334) (.ref 335) 336 674 675),
 (338,fO "preProcess" "InSetConstraint.preProcess" (inS (topS 12) 2) (.none) (vs "constraint" 194) 337),
 (339,tO #[vs "_set" 677]),
 (340,{ cls:=.type "dict",data:=Data.dict #[ke P "__module__" 639 (vs "constraint" 194),ke P "__firstlineno__" 643 (.int 270 642),ke P "__init__" 651 (.ref 323),ke P "__call__" 662 (.ref 331),ke P "preProcess" 676 (.ref 338),ke P "__static_attributes__" 678 (.ref 339),ke P "__doc__" 679 (.none)] 2 }),
 (341,{ cls:=.type "type",data:=Data.cls { name:="InSetConstraint",bases:=[.ref 141],mro:=[.ref 341,.ref 141,.type "object"],ns:=340,qualname:="InSetConstraint" },slots:=#[some (.ref 310),none,some (vs "InSetConstraint" 632),some (vs "InSetConstraint" 640),some (.builtin "object.__new__"),some (.bool true)] }),
 (344,tO #[.ref 141]),
 (351,tO #[]),
 (353,tO #[vs "self" 697,vs "members" 698]),
 (354,tO #[]),
 (356,cO (vs "__init__" 694) (vs "NotInSetConstraint.__init__" 695) 696 288 2 351 352 (.ref 353) (.ref 354) 355 699 700),
 (357,fO "__init__" "NotInSetConstraint.__init__" (inS (topS 13) 0) (.none) (vs "constraint" 194) 356),
 (358,tO #[.bool false]),
 (359,tO #[]),
 (361,tO #[vs "self" 705,vs "variables" 706,vs "domains" 707,vs "assignments" 708,vs "forwardcheck" 709]),
 (362,tO #[]),
 (364,cO (vs "__call__" 702) (vs "NotInSetConstraint.__call__" 703) 704 291 5 359 360 (.ref 361) (.ref 362) 363 710 711),
 (365,fO "__call__" "NotInSetConstraint.__call__" (inS (topS 13) 1) (.ref 358) (vs "constraint" 194) 364),
 (366,tO #[]),
 (368,tO #[vs "self" 716,vs "variables" 717,vs "domains" 718,vs "constraints" 719,vs "vconstraints" 720,vs "variable" 721,vs "domain" 722,vs "value" 723]),
 (369,tO #[]),
 (371,cO (vs "preProcess" 713) (vs "NotInSetConstraint.preProcess" 714) 715 294 5 366 367 (.ref 368) (.ref 369) 370 724 725),
 (372,fO "preProcess" "NotInSetConstraint.preProcess" (inS (topS 13) 2) (.none) (vs "constraint" 194) 371),
 (373,tO #[vs "_set" 727]),
 (374,{ cls:=.type "dict",data:=Data.dict #[ke P "__module__" 689 (vs "constraint" 194),ke P "__firstlineno__" 693 (.int 286 692),ke P "__init__" 701 (.ref 357),ke P "__call__" 712 (.ref 365),ke P "preProcess" 726 (.ref 372),ke P "__static_attributes__" 728 (.ref 373),ke P "__doc__" 729 (.none)] 2 }),
 (375,{ cls:=.type "type",data:=Data.cls { name:="NotInSetConstraint",bases:=[.ref 141],mro:=[.ref 375,.ref 141,.type "object"],ns:=374,qualname:="NotInSetConstraint" },slots:=#[some (.ref 344),none,some (vs "NotInSetConstraint" 682),some (vs "NotInSetConstraint" 690),some (.builtin "object.__new__"),some (.bool true)] }),
 (378,tO #[.ref 141]),
 (385,tO #[.int 1 744,.bool false]),
 (386,tO #[]),
 (388,tO #[vs "self" 748,vs "members" 749,vs "n" 750,vs "exact" 751]),
 (389,tO #[]),
 (391,cO (vs "__init__" 745) (vs "SomeInSetConstraint.__init__" 746) 747 304 4 386 387 (.ref 388) (.ref 389) 390 752 753),
 (392,fO "__init__" "SomeInSetConstraint.__init__" (inS (topS 14) 0) (.ref 385) (vs "constraint" 194) 391),
 (393,tO #[.bool false]),
 (394,tO #[]),
 (396,tO #[vs "self" 758,vs "variables" 759,vs "domains" 760,vs "assignments" 761,vs "forwardcheck" 762,vs "missing" 763,vs "found" 764,vs "variable" 765,vs "domain" 766,vs "value" 767]),
 (397,tO #[]),
 (399,cO (vs "__call__" 755) (vs "SomeInSetConstraint.__call__" 756) 757 309 5 394 395 (.ref 396) (.ref 397) 398 768 769),
 (400,fO "__call__" "SomeInSetConstraint.__call__" (inS (topS 14) 1) (.ref 393) (vs "constraint" 194) 399),
 (401,tO #[vs "_exact" 771,vs "_n" 772,vs "_set" 773]),
 (402,{ cls:=.type "dict",data:=Data.dict #[ke P "__module__" 739 (vs "constraint" 194),ke P "__firstlineno__" 743 (.int 302 742),ke P "__init__" 754 (.ref 392),ke P "__call__" 770 (.ref 400),ke P "__static_attributes__" 774 (.ref 401),ke P "__doc__" 775 (.none)] 2 }),
 (403,{ cls:=.type "type",data:=Data.cls { name:="SomeInSetConstraint",bases:=[.ref 141],mro:=[.ref 403,.ref 141,.type "object"],ns:=402,qualname:="SomeInSetConstraint" },slots:=#[some (.ref 378),none,some (vs "SomeInSetConstraint" 732),some (vs "SomeInSetConstraint" 740),some (.builtin "object.__new__"),some (.bool true)] }),
 (406,tO #[.ref 141]),
 (413,tO #[.int 1 790,.bool false]),
 (414,tO #[]),
 (416,tO #[vs "self" 794,vs "members" 795,vs "n" 796,vs "exact" 797]),
 (417,tO #[]),
 (419,cO (vs "__init__" 791) (vs "SomeNotInSetConstraint.__init__" 792) 793 340 4 414 415 (.ref 416) (.ref 417) 418 798 799),
 (420,fO "__init__" "SomeNotInSetConstraint.__init__" (inS (topS 15) 0) (.ref 413) (vs "constraint" 194) 419),
 (421,tO #[.bool false]),
 (422,tO #[]),
 (424,tO #[vs "self" 804,vs "variables" 805,vs "domains" 806,vs "assignments" 807,vs "forwardcheck" 808,vs "missing" 809,vs "found" 810,vs "variable" 811,vs "domain" 812,vs "value" 813]),
 (425,tO #[]),
 (427,cO (vs "__call__" 801) (vs "SomeNotInSetConstraint.__call__" 802) 803 345 5 422 423 (.ref 424) (.ref 425) 426 814 815),
 (428,fO "__call__" "SomeNotInSetConstraint.__call__" (inS (topS 15) 1) (.ref 421) (vs "constraint" 194) 427),
 (429,tO #[vs "_exact" 817,vs "_n" 818,vs "_set" 819]),
 (430,{ cls:=.type "dict",data:=Data.dict #[ke P "__module__" 785 (vs "constraint" 194),ke P "__firstlineno__" 789 (.int 338 788),ke P "__init__" 800 (.ref 420),ke P "__call__" 816 (.ref 428),ke P "__static_attributes__" 820 (.ref 429),ke P "__doc__" 821 (.none)] 2 }),
 (431,{ cls:=.type "type",data:=Data.cls { name:="SomeNotInSetConstraint",bases:=[.ref 141],mro:=[.ref 431,.ref 141,.type "object"],ns:=430,qualname:="SomeNotInSetConstraint" },slots:=#[some (.ref 406),none,some (vs "SomeNotInSetConstraint" 778),some (vs "SomeNotInSetConstraint" 786),some (.builtin "object.__new__"),some (.bool true)] }),
 (434,tO #[]),
 (436,tO #[vs "nums" 829,vs "i" 830]),
 (437,tO #[]),
 (439,cO (vs "_law_at" 826) (vs "_law_at" 827) 828 375 2 434 435 (.ref 436) (.ref 437) 438 831 832),
 (440,fO "_law_at" "_law_at" (topS 17) (.none) (vs "law_al0017_01" 824) 439),
 (441,tO #[]),
 (444,cO (vs "_law_values" 834) (vs "_law_values" 835) 836 377 1 441 442 (.none) (.none) 443 837 838),
 (445,fO "_law_values" "_law_values" (topS 18) (.none) (vs "law_al0017_01" 824) 444),
 (446,tO #[]),
 (449,cO (vs "_law_pick" 840) (vs "_law_pick" 841) 842 380 2 446 447 (.none) (.none) 448 843 844),
 (450,fO "_law_pick" "_law_pick" (topS 19) (.none) (vs "law_al0017_01" 824) 449),
 (451,tO #[]),
 (453,tO #[vs "size" 849,vs "rest" 850]),
 (454,tO #[vs "rest" 851]),
 (456,cO (vs "_law_func" 846) (vs "_law_func" 847) 848 385 2 451 452 (.ref 453) (.ref 454) 455 852 853),
 (457,fO "_law_func" "_law_func" (topS 20) (.none) (vs "law_al0017_01" 824) 456),
 (458,tO #[]),
 (461,cO (vs "_law_rule" 855) (vs "_law_rule" 856) 857 393 3 458 459 (.none) (.none) 460 858 859),
 (462,fO "_law_rule" "_law_rule" (topS 21) (.none) (vs "law_al0017_01" 824) 461),
 (463,tO #[]),
 (466,cO (vs "_law_fits" 861) (vs "_law_fits" 862) 863 419 2 463 464 (.none) (.none) 465 864 865),
 (467,fO "_law_fits" "_law_fits" (topS 22) (.none) (vs "law_al0017_01" 824) 466),
 (468,tO #[]),
 (471,cO (vs "_law_all" 867) (vs "_law_all" 868) 869 448 2 468 469 (.none) (.none) 470 870 871),
 (472,fO "_law_all" "_law_all" (topS 23) (.none) (vs "law_al0017_01" 824) 471),
 (473,tO #[]),
 (475,tO #[vs "pairs" 876,vs "rules" 877,vs "wanted" 878,vs "pair" 879,vs "k" 880]),
 (476,tO #[]),
 (478,cO (vs "_law_same" 873) (vs "_law_same" 874) 875 455 3 473 474 (.ref 475) (.ref 476) 477 881 882),
 (479,fO "_law_same" "_law_same" (topS 24) (.none) (vs "law_al0017_01" 824) 478),
 (480,tO #[]),
 (482,tO #[vs "doms" 887,vs "before" 888,vs "y" 889]),
 (483,tO #[]),
 (485,cO (vs "_law_back" 884) (vs "_law_back" 885) 886 462 2 480 481 (.ref 482) (.ref 483) 484 890 891),
 (486,fO "_law_back" "_law_back" (topS 25) (.none) (vs "law_al0017_01" 824) 485),
 (487,tO #[]),
 (490,cO (vs "law" 893) (vs "law" 894) 895 468 1 487 488 (.none) (.none) 489 896 897),
 (491,fO "law" "law" (topS 26) (.none) (vs "law_al0017_01" 824) 490)]
noncomputable def gsT:Tab2:=[("Unassigned",.ref 51),("Domain",.ref 97),("Constraint",.ref 141),("FunctionConstraint",.ref 169),("AllDifferentConstraint",.ref 189),("AllEqualConstraint",.ref 209),("MaxSumConstraint",.ref 244),("ExactSumConstraint",.ref 279),("MinSumConstraint",.ref 307),("InSetConstraint",.ref 341),("NotInSetConstraint",.ref 375),("SomeInSetConstraint",.ref 403),("SomeNotInSetConstraint",.ref 431),("_law_at",.ref 440),("_law_values",.ref 445),("_law_pick",.ref 450),("_law_func",.ref 457),("_law_rule",.ref 462),("_law_fits",.ref 467),("_law_all",.ref 472),("_law_same",.ref 479),("_law_back",.ref 486),("law",.ref 491)]
noncomputable def bsT:Tab2:=[("len",.builtin "len"),("range",.type "range"),("list",.type "list"),("max",.builtin "max"),("min",.builtin "min"),("sum",.builtin "sum"),("sorted",.builtin "sorted"),("set",.type "set"),("zip",.type "zip"),("reversed",.type "reversed"),("isinstance",.builtin "isinstance")]
structure TopK (c:Cx) (P:Params):Prop where
 hK:c.K=K P
 hG:Glo c gsT bsT
section
variable {P:Params} {c:Cx} {n:Nat} {H:AH} {Q:V→AH→Prop} {v0 v1 v2 v3 v4 v5:V}
noncomputable def c66:Code:=.cst (.oth (.type "list"))<|.gm "__init__"<|.ld 0<|.ld 1<|.cm 2<|.pop<|.lst 0<|.ld 0<|.sattr "_hidden"<|.lst 0<|.ld 0<|.sattr "_states"<|.done
theorem f66:fnC (K P) gsT bsT 66 2=some (3,c66):=by kernel_rfl
theorem b66_2:BindK (K P) 66 [] 2 []:=fun _ _ S=>by kernel_rfl
theorem k66_2 (T:TopK c P) (h:w c n c66 [] [some v0,some v1,none] H (endK Q)):CallC c (n + 1) (.ref 66) [v0,v1] H Q:=(CallC.fn (dfl:=[]) T.hG (T.hK▸f66) (T.hK▸b66_2) h).1
noncomputable def c80:Code:=.ld 0<|.attr "_states"<|.gm "append"<|.cst (.oth (.builtin "len"))<|.ld 0<|.call 1<|.cm 1<|.pop<|.done
theorem f80:fnC (K P) gsT bsT 80 1=some (2,c80):=by kernel_rfl
theorem b80_1:BindK (K P) 80 [] 1 []:=fun _ S=>by kernel_rfl
theorem k80_1 (T:TopK c P) (h:w c n c80 [] [some v0,none] H (endK Q)):CallC c (n + 1) (.ref 80) [v0] H Q:=(CallC.fn (dfl:=[]) T.hG (T.hK▸f80) (T.hK▸b80_1) h).1
theorem kp80 (T:TopK c P):keepIn c.K (.ref 80)=true:=T.hK▸(by kernel_rfl:keepIn (K P) (.ref 80)=true)
noncomputable def c87:Code:=.ld 0<|.attr "_states"<|.gm "pop"<|.cm 0<|.cst (.oth (.builtin "len"))<|.ld 0<|.call 1<|.bin .Sub<|.st 1<|.ld 1<|.tru<|.ite (.ld 0<|.gm "extend"<|.ld 0<|.attr "_hidden"<|.ld 1<|.neg<|.cst .none<|.sl<|.cm 1<|.pop<|.ld 0<|.attr "_hidden"<|.ld 1<|.neg<|.dsl<|.done) (.done)<|.done
theorem f87:fnC (K P) gsT bsT 87 1=some (3,c87):=by kernel_rfl
theorem b87_1:BindK (K P) 87 [] 1 []:=fun _ S=>by kernel_rfl
theorem k87_1 (T:TopK c P) (h:w c n c87 [] [some v0,none,none] H (endK Q)):CallC c (n + 1) (.ref 87) [v0] H Q:=(CallC.fn (dfl:=[]) T.hG (T.hK▸f87) (T.hK▸b87_1) h).1
theorem kp87 (T:TopK c P):keepIn c.K (.ref 87)=true:=T.hK▸(by kernel_rfl:keepIn (K P) (.ref 87)=true)
noncomputable def c94:Code:=.ld 0<|.gm "remove"<|.ld 1<|.cm 1<|.pop<|.ld 0<|.attr "_hidden"<|.gm "append"<|.ld 1<|.cm 1<|.pop<|.done
theorem f94:fnC (K P) gsT bsT 94 2=some (2,c94):=by kernel_rfl
theorem b94_2:BindK (K P) 94 [] 2 []:=fun _ _ S=>by kernel_rfl
theorem k94_2 (T:TopK c P) (h:w c n c94 [] [some v0,some v1] H (endK Q)):CallC c (n + 1) (.ref 94) [v0,v1] H Q:=(CallC.fn (dfl:=[]) T.hG (T.hK▸f94) (T.hK▸b94_2) h).1
theorem kp94 (T:TopK c P):keepIn c.K (.ref 94)=true:=T.hK▸(by kernel_rfl:keepIn (K P) (.ref 94)=true)
noncomputable def c115:Code:=.cst (.oth (.builtin "isinstance"))<|.ld 1<|.cst (.ref 141)<|.call 2<|.bra true (.ld 0<|.ld 1<|.cmp .Is<|.done)<|.ret
theorem f115:fnC (K P) gsT bsT 115 2=some (4,c115):=by kernel_rfl
theorem b115_2:BindK (K P) 115 [] 2 []:=fun _ _ S=>by kernel_rfl
theorem k115_2 (T:TopK c P) (h:w c n c115 [] [some v0,some v1,none,none] H (endK Q)):CallC c (n + 1) (.ref 115) [v0,v1] H Q:=(CallC.fn (dfl:=[]) T.hG (T.hK▸f115) (T.hK▸b115_2) h).1
theorem kp115 (T:TopK c P):keepIn c.K (.ref 115)=true:=T.hK▸(by kernel_rfl:keepIn (K P) (.ref 115)=true)
noncomputable def c130:Code:=.cst (.oth (.builtin "len"))<|.ld 1<|.call 1<|.cst (.int (1))<|.cmp .Eq<|.tru<|.ite (.ld 1<|.cst (.int (0))<|.sub<|.st 5<|.ld 2<|.ld 5<|.sub<|.st 6<|.ld 6<|.cst .none<|.cst .none<|.sl<|.loop .seq 1 (.st 7<|.ld 0<|.ld 1<|.ld 2<|.dic<|.ld 5<|.ld 7<|.dic1<|.cst (.bool false)<|.call 4<|.tru<|.nt<|.ite (.ld 6<|.gm "remove"<|.ld 7<|.cm 1<|.pop<|.done) (.done)<|.done) (.done)<|.ld 3<|.gm "remove"<|.ld 0<|.ld 1<|.tup 2<|.cm 1<|.pop<|.ld 4<|.ld 5<|.sub<|.gm "remove"<|.ld 0<|.ld 1<|.tup 2<|.cm 1<|.pop<|.done) (.done)<|.done
theorem f130:fnC (K P) gsT bsT 130 5=some (9,c130):=by kernel_rfl
theorem b130_5:BindK (K P) 130 [] 5 []:=fun _ _ _ _ _ S=>by kernel_rfl
theorem k130_5 (T:TopK c P) (h:w c n c130 [] [some v0,some v1,some v2,some v3,some v4,none,none,none,none] H (endK Q)):CallC c (n + 1) (.ref 130) [v0,v1,v2,v3,v4] H Q:=(CallC.fn (dfl:=[]) T.hG (T.hK▸f130) (T.hK▸b130_5) h).1
theorem kp130 (T:TopK c P):keepIn c.K (.ref 130)=true:=T.hK▸(by kernel_rfl:keepIn (K P) (.ref 130)=true)
noncomputable def c138:Code:=.ld 4<|.st 5<|.ld 1<|.loop .seq 1 (.st 6<|.ld 6<|.ld 3<|.cmp .NotIn<|.tru<|.ite (.ld 5<|.ld 4<|.cmp .Is<|.tru<|.ite (.ld 6<|.st 5<|.done) (.brk)<|.done) (.done)<|.done) (.ld 5<|.ld 4<|.cmp .IsNot<|.tru<|.ite (.ld 2<|.ld 5<|.sub<|.st 7<|.ld 7<|.tru<|.ite (.ld 7<|.cst .none<|.cst .none<|.sl<|.loop .seq 1 (.st 8<|.ld 8<|.ld 3<|.ld 5<|.ssub<|.ld 0<|.ld 1<|.ld 2<|.ld 3<|.cst (.bool false)<|.call 4<|.tru<|.nt<|.ite (.ld 7<|.gm "hideValue"<|.ld 8<|.cm 1<|.pop<|.done) (.done)<|.done) (.done)<|.ld 3<|.ld 5<|.dsub<|.done) (.done)<|.ld 7<|.tru<|.nt<|.ite (.cst (.bool false)<|.ret) (.done)<|.done) (.done)<|.done)<|.cst (.bool true)<|.ret
theorem f138:fnC (K P) gsT bsT 138 5=some (9,c138):=by kernel_rfl
theorem b138_4:BindK (K P) 138 [.ref 51] 4 []:=fun _ _ _ _ S=>by kernel_rfl
theorem k138_4 (T:TopK c P) (h:w c n c138 [] [some v0,some v1,some v2,some v3,some (.ref 51),none,none,none,none] H (endK Q)):CallC c (n + 1) (.ref 138) [v0,v1,v2,v3] H Q:=(CallC.fn (dfl:=[.ref 51]) T.hG (T.hK▸f138) (T.hK▸b138_4) h).1
theorem kp138 (T:TopK c P):keepIn c.K (.ref 138)=true:=T.hK▸(by kernel_rfl:keepIn (K P) (.ref 138)=true)
noncomputable def c160:Code:=.ld 1<|.ld 0<|.sattr "_func"<|.ld 2<|.ld 0<|.sattr "_assigned"<|.done
theorem f160:fnC (K P) gsT bsT 160 3=some (3,c160):=by kernel_rfl
theorem b160_2:BindK (K P) 160 [.bool true] 2 []:=fun _ _ S=>by kernel_rfl
theorem k160_2 (T:TopK c P) (h:w c n c160 [] [some v0,some v1,some (.bool true)] H (endK Q)):CallC c (n + 1) (.ref 160) [v0,v1] H Q:=(CallC.fn (dfl:=[.bool true]) T.hG (T.hK▸f160) (T.hK▸b160_2) h).1
noncomputable def c166:Code:=.ld 1<|.comp .seq 1 [none,none,some 5,some 3] (.st 1<|.ld 3<|.gm "get"<|.ld 1<|.ld 2<|.cm 2<|.done)<|.st 6<|.cst (.oth (.builtin "len"))<|.ld 6<|.comp .seq 1 [none,none,some 5] (.st 1<|.ld 1<|.ld 2<|.cmp .Is<|.tru<|.ite (.ld 1<|.done) (.cont)<|.done)<|.call 1<|.st 7<|.ld 7<|.tru<|.ite (.ld 0<|.attr "_assigned"<|.bra false (.ld 0<|.attr "_func"<|.ld 6<|.star<|.done)<|.bra true (.ld 4<|.tru<|.nt<|.bra false (.ld 7<|.cst (.int (1))<|.cmp .NotEq<|.bra false (.ld 0<|.gm "forwardCheck"<|.ld 1<|.ld 2<|.ld 3<|.cm 3<|.done)<|.done)<|.done)<|.ret) (.done)<|.ld 0<|.attr "_func"<|.ld 6<|.star<|.ret
theorem f166:fnC (K P) gsT bsT 166 6=some (9,c166):=by kernel_rfl
theorem b166_4:BindK (K P) 166 [.bool false,.ref 51] 4 []:=fun _ _ _ _ S=>by kernel_rfl
theorem k166_4 (T:TopK c P) (h:w c n c166 [] [some v0,some v1,some v2,some v3,some (.bool false),some (.ref 51),none,none,none] H (endK Q)):CallC c (n + 1) (.ref 166) [v0,v1,v2,v3] H Q:=(CallC.fn (dfl:=[.bool false,.ref 51]) T.hG (T.hK▸f166) (T.hK▸b166_4) h).1
theorem b166_5:BindK (K P) 166 [.ref 51] 5 []:=fun _ _ _ _ _ S=>by kernel_rfl
theorem k166_5 (T:TopK c P) (h:w c n c166 [] [some v0,some v1,some v2,some v3,some v4,some (.ref 51),none,none,none] H (endK Q)):CallC c (n + 1) (.ref 166) [v0,v1,v2,v3,v4] H Q:=(CallC.fn (dfl:=[.ref 51]) T.hG (T.hK▸f166) (T.hK▸b166_5) h).1
noncomputable def c186:Code:=.dic<|.st 6<|.ld 1<|.loop .seq 1 (.st 7<|.ld 3<|.gm "get"<|.ld 7<|.ld 5<|.cm 2<|.st 8<|.ld 8<|.ld 5<|.cmp .IsNot<|.tru<|.ite (.ld 8<|.ld 6<|.cmp .In<|.tru<|.ite (.cst (.bool false)<|.ret) (.done)<|.cst (.bool true)<|.ld 6<|.ld 8<|.ssub<|.done) (.done)<|.done) (.done)<|.ld 4<|.tru<|.ite (.ld 1<|.loop .seq 1 (.st 7<|.ld 7<|.ld 3<|.cmp .NotIn<|.tru<|.ite (.ld 2<|.ld 7<|.sub<|.st 9<|.ld 6<|.loop .seq 1 (.st 8<|.ld 8<|.ld 9<|.cmp .In<|.tru<|.ite (.ld 9<|.gm "hideValue"<|.ld 8<|.cm 1<|.pop<|.ld 9<|.tru<|.nt<|.ite (.cst (.bool false)<|.ret) (.done)<|.done) (.done)<|.done) (.done)<|.done) (.done)<|.done) (.done)<|.done) (.done)<|.cst (.bool true)<|.ret
theorem f186:fnC (K P) gsT bsT 186 6=some (10,c186):=by kernel_rfl
theorem b186_4:BindK (K P) 186 [.bool false,.ref 51] 4 []:=fun _ _ _ _ S=>by kernel_rfl
theorem k186_4 (T:TopK c P) (h:w c n c186 [] [some v0,some v1,some v2,some v3,some (.bool false),some (.ref 51),none,none,none,none] H (endK Q)):CallC c (n + 1) (.ref 186) [v0,v1,v2,v3] H Q:=(CallC.fn (dfl:=[.bool false,.ref 51]) T.hG (T.hK▸f186) (T.hK▸b186_4) h).1
theorem b186_5:BindK (K P) 186 [.ref 51] 5 []:=fun _ _ _ _ _ S=>by kernel_rfl
theorem k186_5 (T:TopK c P) (h:w c n c186 [] [some v0,some v1,some v2,some v3,some v4,some (.ref 51),none,none,none,none] H (endK Q)):CallC c (n + 1) (.ref 186) [v0,v1,v2,v3,v4] H Q:=(CallC.fn (dfl:=[.ref 51]) T.hG (T.hK▸f186) (T.hK▸b186_5) h).1
noncomputable def c206:Code:=.ld 5<|.st 6<|.ld 1<|.loop .seq 1 (.st 7<|.ld 3<|.gm "get"<|.ld 7<|.ld 5<|.cm 2<|.st 8<|.ld 6<|.ld 5<|.cmp .Is<|.tru<|.ite (.ld 8<|.st 6<|.done) (.ld 8<|.ld 5<|.cmp .IsNot<|.tru<|.brt true (.ld 8<|.ld 6<|.cmp .NotEq<|.tru<|.done)<|.ite (.cst (.bool false)<|.ret) (.done)<|.done)<|.done) (.done)<|.ld 4<|.tru<|.brt true (.ld 6<|.ld 5<|.cmp .IsNot<|.tru<|.done)<|.ite (.ld 1<|.loop .seq 1 (.st 7<|.ld 7<|.ld 3<|.cmp .NotIn<|.tru<|.ite (.ld 2<|.ld 7<|.sub<|.st 9<|.ld 6<|.ld 9<|.cmp .NotIn<|.tru<|.ite (.cst (.bool false)<|.ret) (.done)<|.ld 9<|.cst .none<|.cst .none<|.sl<|.loop .seq 1 (.st 8<|.ld 8<|.ld 6<|.cmp .NotEq<|.tru<|.ite (.ld 9<|.gm "hideValue"<|.ld 8<|.cm 1<|.pop<|.done) (.done)<|.done) (.done)<|.done) (.done)<|.done) (.done)<|.done) (.done)<|.cst (.bool true)<|.ret
theorem f206:fnC (K P) gsT bsT 206 6=some (10,c206):=by kernel_rfl
theorem b206_4:BindK (K P) 206 [.bool false,.ref 51] 4 []:=fun _ _ _ _ S=>by kernel_rfl
theorem k206_4 (T:TopK c P) (h:w c n c206 [] [some v0,some v1,some v2,some v3,some (.bool false),some (.ref 51),none,none,none,none] H (endK Q)):CallC c (n + 1) (.ref 206) [v0,v1,v2,v3] H Q:=(CallC.fn (dfl:=[.bool false,.ref 51]) T.hG (T.hK▸f206) (T.hK▸b206_4) h).1
theorem b206_5:BindK (K P) 206 [.ref 51] 5 []:=fun _ _ _ _ _ S=>by kernel_rfl
theorem k206_5 (T:TopK c P) (h:w c n c206 [] [some v0,some v1,some v2,some v3,some v4,some (.ref 51),none,none,none,none] H (endK Q)):CallC c (n + 1) (.ref 206) [v0,v1,v2,v3,v4] H Q:=(CallC.fn (dfl:=[.ref 51]) T.hG (T.hK▸f206) (T.hK▸b206_5) h).1
noncomputable def c226:Code:=.ld 1<|.ld 0<|.sattr "_maxsum"<|.ld 2<|.ld 0<|.sattr "_multipliers"<|.done
theorem f226:fnC (K P) gsT bsT 226 3=some (3,c226):=by kernel_rfl
theorem b226_3:BindK (K P) 226 [] 3 []:=fun _ _ _ S=>by kernel_rfl
theorem k226_3 (T:TopK c P) (h:w c n c226 [] [some v0,some v1,some v2] H (endK Q)):CallC c (n + 1) (.ref 226) [v0,v1,v2] H Q:=(CallC.fn (dfl:=[]) T.hG (T.hK▸f226) (T.hK▸b226_3) h).1
noncomputable def c233:Code:=.cst (.ref 141)<|.gm "preProcess"<|.ld 0<|.ld 1<|.ld 2<|.ld 3<|.ld 4<|.cm 5<|.pop<|.ld 0<|.attr "_multipliers"<|.st 5<|.ld 0<|.attr "_maxsum"<|.st 6<|.ld 5<|.tru<|.ite (.ld 1<|.ld 5<|.loop .zip 2 (.st 7<|.st 8<|.ld 2<|.ld 7<|.sub<|.st 9<|.ld 9<|.cst .none<|.cst .none<|.sl<|.loop .seq 1 (.st 10<|.ld 10<|.ld 8<|.bin .Mult<|.ld 6<|.cmp .Gt<|.tru<|.ite (.ld 9<|.gm "remove"<|.ld 10<|.cm 1<|.pop<|.done) (.done)<|.done) (.done)<|.done) (.done)<|.done) (.ld 1<|.loop .seq 1 (.st 7<|.ld 2<|.ld 7<|.sub<|.st 9<|.ld 9<|.cst .none<|.cst .none<|.sl<|.loop .seq 1 (.st 10<|.ld 10<|.ld 6<|.cmp .Gt<|.tru<|.ite (.ld 9<|.gm "remove"<|.ld 10<|.cm 1<|.pop<|.done) (.done)<|.done) (.done)<|.done) (.done)<|.done)<|.done
theorem f233:fnC (K P) gsT bsT 233 5=some (13,c233):=by kernel_rfl
theorem b233_5:BindK (K P) 233 [] 5 []:=fun _ _ _ _ _ S=>by kernel_rfl
theorem k233_5 (T:TopK c P) (h:w c n c233 [] [some v0,some v1,some v2,some v3,some v4,none,none,none,none,none,none,none,none] H (endK Q)):CallC c (n + 1) (.ref 233) [v0,v1,v2,v3,v4] H Q:=(CallC.fn (dfl:=[]) T.hG (T.hK▸f233) (T.hK▸b233_5) h).1
theorem kp233 (T:TopK c P):keepIn c.K (.ref 233)=true:=T.hK▸(by kernel_rfl:keepIn (K P) (.ref 233)=true)
noncomputable def c241:Code:=.ld 0<|.attr "_multipliers"<|.st 5<|.ld 0<|.attr "_maxsum"<|.st 6<|.cst (.int (0))<|.st 7<|.ld 5<|.tru<|.ite (.ld 1<|.ld 5<|.loop .zip 2 (.st 8<|.st 9<|.ld 8<|.ld 3<|.cmp .In<|.tru<|.ite (.ld 7<|.ld 3<|.ld 8<|.sub<|.ld 9<|.bin .Mult<|.inp .Add<|.st 7<|.done) (.done)<|.done) (.done)<|.ld 7<|.ld 6<|.cmp .Gt<|.tru<|.ite (.cst (.bool false)<|.ret) (.done)<|.ld 4<|.tru<|.ite (.ld 1<|.ld 5<|.loop .zip 2 (.st 8<|.st 9<|.ld 8<|.ld 3<|.cmp .NotIn<|.tru<|.ite (.ld 2<|.ld 8<|.sub<|.st 10<|.ld 10<|.cst .none<|.cst .none<|.sl<|.loop .seq 1 (.st 11<|.ld 7<|.ld 11<|.ld 9<|.bin .Mult<|.bin .Add<|.ld 6<|.cmp .Gt<|.tru<|.ite (.ld 10<|.gm "hideValue"<|.ld 11<|.cm 1<|.pop<|.done) (.done)<|.done) (.done)<|.ld 10<|.tru<|.nt<|.ite (.cst (.bool false)<|.ret) (.done)<|.done) (.done)<|.done) (.done)<|.done) (.done)<|.done) (.ld 1<|.loop .seq 1 (.st 8<|.ld 8<|.ld 3<|.cmp .In<|.tru<|.ite (.ld 7<|.ld 3<|.ld 8<|.sub<|.inp .Add<|.st 7<|.done) (.done)<|.done) (.done)<|.ld 7<|.ld 6<|.cmp .Gt<|.tru<|.ite (.cst (.bool false)<|.ret) (.done)<|.ld 4<|.tru<|.ite (.ld 1<|.loop .seq 1 (.st 8<|.ld 8<|.ld 3<|.cmp .NotIn<|.tru<|.ite (.ld 2<|.ld 8<|.sub<|.st 10<|.ld 10<|.cst .none<|.cst .none<|.sl<|.loop .seq 1 (.st 11<|.ld 7<|.ld 11<|.bin .Add<|.ld 6<|.cmp .Gt<|.tru<|.ite (.ld 10<|.gm "hideValue"<|.ld 11<|.cm 1<|.pop<|.done) (.done)<|.done) (.done)<|.ld 10<|.tru<|.nt<|.ite (.cst (.bool false)<|.ret) (.done)<|.done) (.done)<|.done) (.done)<|.done) (.done)<|.done)<|.cst (.bool true)<|.ret
theorem f241:fnC (K P) gsT bsT 241 5=some (13,c241):=by kernel_rfl
theorem b241_4:BindK (K P) 241 [.bool false] 4 []:=fun _ _ _ _ S=>by kernel_rfl
theorem k241_4 (T:TopK c P) (h:w c n c241 [] [some v0,some v1,some v2,some v3,some (.bool false),none,none,none,none,none,none,none,none] H (endK Q)):CallC c (n + 1) (.ref 241) [v0,v1,v2,v3] H Q:=(CallC.fn (dfl:=[.bool false]) T.hG (T.hK▸f241) (T.hK▸b241_4) h).1
theorem b241_5:BindK (K P) 241 [] 5 []:=fun _ _ _ _ _ S=>by kernel_rfl
theorem k241_5 (T:TopK c P) (h:w c n c241 [] [some v0,some v1,some v2,some v3,some v4,none,none,none,none,none,none,none,none] H (endK Q)):CallC c (n + 1) (.ref 241) [v0,v1,v2,v3,v4] H Q:=(CallC.fn (dfl:=[]) T.hG (T.hK▸f241) (T.hK▸b241_5) h).1
noncomputable def c261:Code:=.ld 1<|.ld 0<|.sattr "_exactsum"<|.ld 2<|.ld 0<|.sattr "_multipliers"<|.done
theorem f261:fnC (K P) gsT bsT 261 3=some (3,c261):=by kernel_rfl
theorem b261_3:BindK (K P) 261 [] 3 []:=fun _ _ _ S=>by kernel_rfl
theorem k261_3 (T:TopK c P) (h:w c n c261 [] [some v0,some v1,some v2] H (endK Q)):CallC c (n + 1) (.ref 261) [v0,v1,v2] H Q:=(CallC.fn (dfl:=[]) T.hG (T.hK▸f261) (T.hK▸b261_3) h).1
noncomputable def c268:Code:=.cst (.ref 141)<|.gm "preProcess"<|.ld 0<|.ld 1<|.ld 2<|.ld 3<|.ld 4<|.cm 5<|.pop<|.ld 0<|.attr "_multipliers"<|.st 5<|.ld 0<|.attr "_exactsum"<|.st 6<|.ld 5<|.tru<|.ite (.ld 1<|.ld 5<|.loop .zip 2 (.st 7<|.st 8<|.ld 2<|.ld 7<|.sub<|.st 9<|.ld 9<|.cst .none<|.cst .none<|.sl<|.loop .seq 1 (.st 10<|.ld 10<|.ld 8<|.bin .Mult<|.ld 6<|.cmp .Gt<|.tru<|.ite (.ld 9<|.gm "remove"<|.ld 10<|.cm 1<|.pop<|.done) (.done)<|.done) (.done)<|.done) (.done)<|.done) (.ld 1<|.loop .seq 1 (.st 7<|.ld 2<|.ld 7<|.sub<|.st 9<|.ld 9<|.cst .none<|.cst .none<|.sl<|.loop .seq 1 (.st 10<|.ld 10<|.ld 6<|.cmp .Gt<|.tru<|.ite (.ld 9<|.gm "remove"<|.ld 10<|.cm 1<|.pop<|.done) (.done)<|.done) (.done)<|.done) (.done)<|.done)<|.done
theorem f268:fnC (K P) gsT bsT 268 5=some (13,c268):=by kernel_rfl
theorem b268_5:BindK (K P) 268 [] 5 []:=fun _ _ _ _ _ S=>by kernel_rfl
theorem k268_5 (T:TopK c P) (h:w c n c268 [] [some v0,some v1,some v2,some v3,some v4,none,none,none,none,none,none,none,none] H (endK Q)):CallC c (n + 1) (.ref 268) [v0,v1,v2,v3,v4] H Q:=(CallC.fn (dfl:=[]) T.hG (T.hK▸f268) (T.hK▸b268_5) h).1
theorem kp268 (T:TopK c P):keepIn c.K (.ref 268)=true:=T.hK▸(by kernel_rfl:keepIn (K P) (.ref 268)=true)
noncomputable def c276:Code:=.ld 0<|.attr "_multipliers"<|.st 5<|.ld 0<|.attr "_exactsum"<|.st 6<|.cst (.int (0))<|.st 7<|.cst (.bool false)<|.st 8<|.ld 5<|.tru<|.ite (.ld 1<|.ld 5<|.loop .zip 2 (.st 9<|.st 10<|.ld 9<|.ld 3<|.cmp .In<|.tru<|.ite (.ld 7<|.ld 3<|.ld 9<|.sub<|.ld 10<|.bin .Mult<|.inp .Add<|.st 7<|.done) (.cst (.bool true)<|.st 8<|.done)<|.done) (.done)<|.ld 7<|.ld 6<|.cmp .Gt<|.tru<|.ite (.cst (.bool false)<|.ret) (.done)<|.ld 4<|.tru<|.brt true (.ld 8<|.tru<|.done)<|.ite (.ld 1<|.ld 5<|.loop .zip 2 (.st 9<|.st 10<|.ld 9<|.ld 3<|.cmp .NotIn<|.tru<|.ite (.ld 2<|.ld 9<|.sub<|.st 11<|.ld 11<|.cst .none<|.cst .none<|.sl<|.loop .seq 1 (.st 12<|.ld 7<|.ld 12<|.ld 10<|.bin .Mult<|.bin .Add<|.ld 6<|.cmp .Gt<|.tru<|.ite (.ld 11<|.gm "hideValue"<|.ld 12<|.cm 1<|.pop<|.done) (.done)<|.done) (.done)<|.ld 11<|.tru<|.nt<|.ite (.cst (.bool false)<|.ret) (.done)<|.done) (.done)<|.done) (.done)<|.done) (.done)<|.done) (.ld 1<|.loop .seq 1 (.st 9<|.ld 9<|.ld 3<|.cmp .In<|.tru<|.ite (.ld 7<|.ld 3<|.ld 9<|.sub<|.inp .Add<|.st 7<|.done) (.cst (.bool true)<|.st 8<|.done)<|.done) (.done)<|.ld 7<|.ld 6<|.cmp .Gt<|.tru<|.ite (.cst (.bool false)<|.ret) (.done)<|.ld 4<|.tru<|.brt true (.ld 8<|.tru<|.done)<|.ite (.ld 1<|.loop .seq 1 (.st 9<|.ld 9<|.ld 3<|.cmp .NotIn<|.tru<|.ite (.ld 2<|.ld 9<|.sub<|.st 11<|.ld 11<|.cst .none<|.cst .none<|.sl<|.loop .seq 1 (.st 12<|.ld 7<|.ld 12<|.bin .Add<|.ld 6<|.cmp .Gt<|.tru<|.ite (.ld 11<|.gm "hideValue"<|.ld 12<|.cm 1<|.pop<|.done) (.done)<|.done) (.done)<|.ld 11<|.tru<|.nt<|.ite (.cst (.bool false)<|.ret) (.done)<|.done) (.done)<|.done) (.done)<|.done) (.done)<|.done)<|.ld 8<|.tru<|.ite (.ld 7<|.ld 6<|.cmp .LtE<|.ret) (.ld 7<|.ld 6<|.cmp .Eq<|.ret)<|.done
theorem f276:fnC (K P) gsT bsT 276 5=some (14,c276):=by kernel_rfl
theorem b276_4:BindK (K P) 276 [.bool false] 4 []:=fun _ _ _ _ S=>by kernel_rfl
theorem k276_4 (T:TopK c P) (h:w c n c276 [] [some v0,some v1,some v2,some v3,some (.bool false),none,none,none,none,none,none,none,none,none] H (endK Q)):CallC c (n + 1) (.ref 276) [v0,v1,v2,v3] H Q:=(CallC.fn (dfl:=[.bool false]) T.hG (T.hK▸f276) (T.hK▸b276_4) h).1
theorem b276_5:BindK (K P) 276 [] 5 []:=fun _ _ _ _ _ S=>by kernel_rfl
theorem k276_5 (T:TopK c P) (h:w c n c276 [] [some v0,some v1,some v2,some v3,some v4,none,none,none,none,none,none,none,none,none] H (endK Q)):CallC c (n + 1) (.ref 276) [v0,v1,v2,v3,v4] H Q:=(CallC.fn (dfl:=[]) T.hG (T.hK▸f276) (T.hK▸b276_5) h).1
noncomputable def c296:Code:=.ld 1<|.ld 0<|.sattr "_minsum"<|.ld 2<|.ld 0<|.sattr "_multipliers"<|.done
theorem f296:fnC (K P) gsT bsT 296 3=some (3,c296):=by kernel_rfl
theorem b296_3:BindK (K P) 296 [] 3 []:=fun _ _ _ S=>by kernel_rfl
theorem k296_3 (T:TopK c P) (h:w c n c296 [] [some v0,some v1,some v2] H (endK Q)):CallC c (n + 1) (.ref 296) [v0,v1,v2] H Q:=(CallC.fn (dfl:=[]) T.hG (T.hK▸f296) (T.hK▸b296_3) h).1
noncomputable def c304:Code:=.ld 1<|.loop .seq 1 (.st 5<|.ld 5<|.ld 3<|.cmp .NotIn<|.tru<|.ite (.cst (.bool true)<|.ret) (.done)<|.done) (.ld 0<|.attr "_multipliers"<|.st 6<|.ld 0<|.attr "_minsum"<|.st 7<|.cst (.int (0))<|.st 8<|.ld 6<|.tru<|.ite (.ld 1<|.ld 6<|.loop .zip 2 (.st 5<|.st 9<|.ld 8<|.ld 3<|.ld 5<|.sub<|.ld 9<|.bin .Mult<|.inp .Add<|.st 8<|.done) (.done)<|.done) (.ld 1<|.loop .seq 1 (.st 5<|.ld 8<|.ld 3<|.ld 5<|.sub<|.inp .Add<|.st 8<|.done) (.done)<|.done)<|.ld 8<|.ld 7<|.cmp .GtE<|.ret)<|.done
theorem f304:fnC (K P) gsT bsT 304 5=some (11,c304):=by kernel_rfl
theorem b304_4:BindK (K P) 304 [.bool false] 4 []:=fun _ _ _ _ S=>by kernel_rfl
theorem k304_4 (T:TopK c P) (h:w c n c304 [] [some v0,some v1,some v2,some v3,some (.bool false),none,none,none,none,none,none] H (endK Q)):CallC c (n + 1) (.ref 304) [v0,v1,v2,v3] H Q:=(CallC.fn (dfl:=[.bool false]) T.hG (T.hK▸f304) (T.hK▸b304_4) h).1
theorem b304_5:BindK (K P) 304 [] 5 []:=fun _ _ _ _ _ S=>by kernel_rfl
theorem k304_5 (T:TopK c P) (h:w c n c304 [] [some v0,some v1,some v2,some v3,some v4,none,none,none,none,none,none] H (endK Q)):CallC c (n + 1) (.ref 304) [v0,v1,v2,v3,v4] H Q:=(CallC.fn (dfl:=[]) T.hG (T.hK▸f304) (T.hK▸b304_5) h).1
noncomputable def c323:Code:=.ld 1<|.ld 0<|.sattr "_set"<|.done
theorem f323:fnC (K P) gsT bsT 323 2=some (2,c323):=by kernel_rfl
theorem b323_2:BindK (K P) 323 [] 2 []:=fun _ _ S=>by kernel_rfl
theorem k323_2 (T:TopK c P) (h:w c n c323 [] [some v0,some v1] H (endK Q)):CallC c (n + 1) (.ref 323) [v0,v1] H Q:=(CallC.fn (dfl:=[]) T.hG (T.hK▸f323) (T.hK▸b323_2) h).1
noncomputable def c338:Code:=.ld 1<|.loop .seq 1 (.st 5<|.ld 2<|.ld 5<|.sub<|.st 6<|.ld 6<|.cst .none<|.cst .none<|.sl<|.loop .seq 1 (.st 7<|.ld 7<|.ld 0<|.attr "_set"<|.cmp .NotIn<|.tru<|.ite (.ld 6<|.gm "remove"<|.ld 7<|.cm 1<|.pop<|.done) (.done)<|.done) (.done)<|.ld 4<|.ld 5<|.sub<|.gm "remove"<|.ld 0<|.ld 1<|.tup 2<|.cm 1<|.pop<|.done) (.done)<|.ld 3<|.gm "remove"<|.ld 0<|.ld 1<|.tup 2<|.cm 1<|.pop<|.done
theorem f338:fnC (K P) gsT bsT 338 5=some (8,c338):=by kernel_rfl
theorem b338_5:BindK (K P) 338 [] 5 []:=fun _ _ _ _ _ S=>by kernel_rfl
theorem k338_5 (T:TopK c P) (h:w c n c338 [] [some v0,some v1,some v2,some v3,some v4,none,none,none] H (endK Q)):CallC c (n + 1) (.ref 338) [v0,v1,v2,v3,v4] H Q:=(CallC.fn (dfl:=[]) T.hG (T.hK▸f338) (T.hK▸b338_5) h).1
theorem kp338 (T:TopK c P):keepIn c.K (.ref 338)=true:=T.hK▸(by kernel_rfl:keepIn (K P) (.ref 338)=true)
noncomputable def c357:Code:=.ld 1<|.ld 0<|.sattr "_set"<|.done
theorem f357:fnC (K P) gsT bsT 357 2=some (2,c357):=by kernel_rfl
theorem b357_2:BindK (K P) 357 [] 2 []:=fun _ _ S=>by kernel_rfl
theorem k357_2 (T:TopK c P) (h:w c n c357 [] [some v0,some v1] H (endK Q)):CallC c (n + 1) (.ref 357) [v0,v1] H Q:=(CallC.fn (dfl:=[]) T.hG (T.hK▸f357) (T.hK▸b357_2) h).1
noncomputable def c372:Code:=.ld 1<|.loop .seq 1 (.st 5<|.ld 2<|.ld 5<|.sub<|.st 6<|.ld 6<|.cst .none<|.cst .none<|.sl<|.loop .seq 1 (.st 7<|.ld 7<|.ld 0<|.attr "_set"<|.cmp .In<|.tru<|.ite (.ld 6<|.gm "remove"<|.ld 7<|.cm 1<|.pop<|.done) (.done)<|.done) (.done)<|.ld 4<|.ld 5<|.sub<|.gm "remove"<|.ld 0<|.ld 1<|.tup 2<|.cm 1<|.pop<|.done) (.done)<|.ld 3<|.gm "remove"<|.ld 0<|.ld 1<|.tup 2<|.cm 1<|.pop<|.done
theorem f372:fnC (K P) gsT bsT 372 5=some (8,c372):=by kernel_rfl
theorem b372_5:BindK (K P) 372 [] 5 []:=fun _ _ _ _ _ S=>by kernel_rfl
theorem k372_5 (T:TopK c P) (h:w c n c372 [] [some v0,some v1,some v2,some v3,some v4,none,none,none] H (endK Q)):CallC c (n + 1) (.ref 372) [v0,v1,v2,v3,v4] H Q:=(CallC.fn (dfl:=[]) T.hG (T.hK▸f372) (T.hK▸b372_5) h).1
theorem kp372 (T:TopK c P):keepIn c.K (.ref 372)=true:=T.hK▸(by kernel_rfl:keepIn (K P) (.ref 372)=true)
noncomputable def c392:Code:=.ld 1<|.ld 0<|.sattr "_set"<|.ld 2<|.ld 0<|.sattr "_n"<|.ld 3<|.ld 0<|.sattr "_exact"<|.done
theorem f392:fnC (K P) gsT bsT 392 4=some (4,c392):=by kernel_rfl
theorem b392_4:BindK (K P) 392 [] 4 []:=fun _ _ _ _ S=>by kernel_rfl
theorem k392_4 (T:TopK c P) (h:w c n c392 [] [some v0,some v1,some v2,some v3] H (endK Q)):CallC c (n + 1) (.ref 392) [v0,v1,v2,v3] H Q:=(CallC.fn (dfl:=[]) T.hG (T.hK▸f392) (T.hK▸b392_4) h).1
noncomputable def c400:Code:=.cst (.int (0))<|.st 5<|.cst (.int (0))<|.st 6<|.ld 1<|.loop .seq 1 (.st 7<|.ld 7<|.ld 3<|.cmp .In<|.tru<|.ite (.ld 6<|.ld 3<|.ld 7<|.sub<|.ld 0<|.attr "_set"<|.cmp .In<|.inp .Add<|.st 6<|.done) (.ld 5<|.cst (.int (1))<|.inp .Add<|.st 5<|.done)<|.done) (.done)<|.ld 5<|.tru<|.ite (.ld 0<|.attr "_exact"<|.tru<|.ite (.ld 6<|.ld 0<|.attr "_n"<|.chn .LtE (.ld 5<|.ld 6<|.bin .Add<|.cmp .LtE<|.tru<|.done)<|.nt<|.ite (.cst (.bool false)<|.ret) (.done)<|.done) (.ld 0<|.attr "_n"<|.ld 5<|.ld 6<|.bin .Add<|.cmp .Gt<|.tru<|.ite (.cst (.bool false)<|.ret) (.done)<|.done)<|.ld 4<|.tru<|.brt true (.ld 0<|.attr "_n"<|.ld 6<|.bin .Sub<|.ld 5<|.cmp .Eq<|.tru<|.done)<|.ite (.ld 1<|.loop .seq 1 (.st 7<|.ld 7<|.ld 3<|.cmp .NotIn<|.tru<|.ite (.ld 2<|.ld 7<|.sub<|.st 8<|.ld 8<|.cst .none<|.cst .none<|.sl<|.loop .seq 1 (.st 9<|.ld 9<|.ld 0<|.attr "_set"<|.cmp .NotIn<|.tru<|.ite (.ld 8<|.gm "hideValue"<|.ld 9<|.cm 1<|.pop<|.done) (.done)<|.done) (.done)<|.ld 8<|.tru<|.nt<|.ite (.cst (.bool false)<|.ret) (.done)<|.done) (.done)<|.done) (.done)<|.done) (.done)<|.done) (.ld 0<|.attr "_exact"<|.tru<|.ite (.ld 6<|.ld 0<|.attr "_n"<|.cmp .NotEq<|.tru<|.ite (.cst (.bool false)<|.ret) (.done)<|.done) (.ld 6<|.ld 0<|.attr "_n"<|.cmp .Lt<|.tru<|.ite (.cst (.bool false)<|.ret) (.done)<|.done)<|.done)<|.cst (.bool true)<|.ret
theorem f400:fnC (K P) gsT bsT 400 5=some (10,c400):=by kernel_rfl
theorem b400_4:BindK (K P) 400 [.bool false] 4 []:=fun _ _ _ _ S=>by kernel_rfl
theorem k400_4 (T:TopK c P) (h:w c n c400 [] [some v0,some v1,some v2,some v3,some (.bool false),none,none,none,none,none] H (endK Q)):CallC c (n + 1) (.ref 400) [v0,v1,v2,v3] H Q:=(CallC.fn (dfl:=[.bool false]) T.hG (T.hK▸f400) (T.hK▸b400_4) h).1
theorem b400_5:BindK (K P) 400 [] 5 []:=fun _ _ _ _ _ S=>by kernel_rfl
theorem k400_5 (T:TopK c P) (h:w c n c400 [] [some v0,some v1,some v2,some v3,some v4,none,none,none,none,none] H (endK Q)):CallC c (n + 1) (.ref 400) [v0,v1,v2,v3,v4] H Q:=(CallC.fn (dfl:=[]) T.hG (T.hK▸f400) (T.hK▸b400_5) h).1
noncomputable def c420:Code:=.ld 1<|.ld 0<|.sattr "_set"<|.ld 2<|.ld 0<|.sattr "_n"<|.ld 3<|.ld 0<|.sattr "_exact"<|.done
theorem f420:fnC (K P) gsT bsT 420 4=some (4,c420):=by kernel_rfl
theorem b420_4:BindK (K P) 420 [] 4 []:=fun _ _ _ _ S=>by kernel_rfl
theorem k420_4 (T:TopK c P) (h:w c n c420 [] [some v0,some v1,some v2,some v3] H (endK Q)):CallC c (n + 1) (.ref 420) [v0,v1,v2,v3] H Q:=(CallC.fn (dfl:=[]) T.hG (T.hK▸f420) (T.hK▸b420_4) h).1
noncomputable def c428:Code:=.cst (.int (0))<|.st 5<|.cst (.int (0))<|.st 6<|.ld 1<|.loop .seq 1 (.st 7<|.ld 7<|.ld 3<|.cmp .In<|.tru<|.ite (.ld 6<|.ld 3<|.ld 7<|.sub<|.ld 0<|.attr "_set"<|.cmp .NotIn<|.inp .Add<|.st 6<|.done) (.ld 5<|.cst (.int (1))<|.inp .Add<|.st 5<|.done)<|.done) (.done)<|.ld 5<|.tru<|.ite (.ld 0<|.attr "_exact"<|.tru<|.ite (.ld 6<|.ld 0<|.attr "_n"<|.chn .LtE (.ld 5<|.ld 6<|.bin .Add<|.cmp .LtE<|.tru<|.done)<|.nt<|.ite (.cst (.bool false)<|.ret) (.done)<|.done) (.ld 0<|.attr "_n"<|.ld 5<|.ld 6<|.bin .Add<|.cmp .Gt<|.tru<|.ite (.cst (.bool false)<|.ret) (.done)<|.done)<|.ld 4<|.tru<|.brt true (.ld 0<|.attr "_n"<|.ld 6<|.bin .Sub<|.ld 5<|.cmp .Eq<|.tru<|.done)<|.ite (.ld 1<|.loop .seq 1 (.st 7<|.ld 7<|.ld 3<|.cmp .NotIn<|.tru<|.ite (.ld 2<|.ld 7<|.sub<|.st 8<|.ld 8<|.cst .none<|.cst .none<|.sl<|.loop .seq 1 (.st 9<|.ld 9<|.ld 0<|.attr "_set"<|.cmp .In<|.tru<|.ite (.ld 8<|.gm "hideValue"<|.ld 9<|.cm 1<|.pop<|.done) (.done)<|.done) (.done)<|.ld 8<|.tru<|.nt<|.ite (.cst (.bool false)<|.ret) (.done)<|.done) (.done)<|.done) (.done)<|.done) (.done)<|.done) (.ld 0<|.attr "_exact"<|.tru<|.ite (.ld 6<|.ld 0<|.attr "_n"<|.cmp .NotEq<|.tru<|.ite (.cst (.bool false)<|.ret) (.done)<|.done) (.ld 6<|.ld 0<|.attr "_n"<|.cmp .Lt<|.tru<|.ite (.cst (.bool false)<|.ret) (.done)<|.done)<|.done)<|.cst (.bool true)<|.ret
theorem f428:fnC (K P) gsT bsT 428 5=some (10,c428):=by kernel_rfl
theorem b428_4:BindK (K P) 428 [.bool false] 4 []:=fun _ _ _ _ S=>by kernel_rfl
theorem k428_4 (T:TopK c P) (h:w c n c428 [] [some v0,some v1,some v2,some v3,some (.bool false),none,none,none,none,none] H (endK Q)):CallC c (n + 1) (.ref 428) [v0,v1,v2,v3] H Q:=(CallC.fn (dfl:=[.bool false]) T.hG (T.hK▸f428) (T.hK▸b428_4) h).1
theorem b428_5:BindK (K P) 428 [] 5 []:=fun _ _ _ _ _ S=>by kernel_rfl
theorem k428_5 (T:TopK c P) (h:w c n c428 [] [some v0,some v1,some v2,some v3,some v4,none,none,none,none,none] H (endK Q)):CallC c (n + 1) (.ref 428) [v0,v1,v2,v3,v4] H Q:=(CallC.fn (dfl:=[]) T.hG (T.hK▸f428) (T.hK▸b428_5) h).1
noncomputable def c440:Code:=.ld 1<|.cst (.oth (.builtin "len"))<|.ld 0<|.call 1<|.cmp .Lt<|.tru<|.ite (.ld 0<|.ld 1<|.sub<|.done) (.cst (.int (0))<|.done)<|.ret
theorem f440:fnC (K P) gsT bsT 440 2=some (3,c440):=by kernel_rfl
theorem b440_2:BindK (K P) 440 [] 2 []:=fun _ _ S=>by kernel_rfl
theorem k440_2 (T:TopK c P) (h:w c n c440 [] [some v0,some v1,none] H (endK Q)):CallC c (n + 1) (.ref 440) [v0,v1] H Q:=(CallC.fn (dfl:=[]) T.hG (T.hK▸f440) (T.hK▸b440_2) h).1
theorem kp440 (T:TopK c P):keepIn c.K (.ref 440)=true:=T.hK▸(by kernel_rfl:keepIn (K P) (.ref 440)=true)
noncomputable def c445:Code:=.cst (.int (3))<|.ld 0<|.cst (.int (3))<|.bin .FloorDiv<|.cst (.int (3))<|.bin .Mod<|.bin .Sub<|.st 1<|.ld 1<|.comp .range 1 [none,none,some 0] (.st 1<|.ld 2<|.cst (.int (3))<|.bin .Mod<|.ld 1<|.cst (.int (1))<|.ld 2<|.cst (.int (9))<|.bin .FloorDiv<|.cst (.int (2))<|.bin .Mod<|.bin .Add<|.bin .Mult<|.bin .Add<|.done)<|.ret
theorem f445:fnC (K P) gsT bsT 445 1=some (3,c445):=by kernel_rfl
theorem b445_1:BindK (K P) 445 [] 1 []:=fun _ S=>by kernel_rfl
theorem k445_1 (T:TopK c P) (h:w c n c445 [] [some v0,none,none] H (endK Q)):CallC c (n + 1) (.ref 445) [v0] H Q:=(CallC.fn (dfl:=[]) T.hG (T.hK▸f445) (T.hK▸b445_1) h).1
theorem kp445 (T:TopK c P):keepIn c.K (.ref 445)=true:=T.hK▸(by kernel_rfl:keepIn (K P) (.ref 445)=true)
noncomputable def c450:Code:=.cst (.oth (.builtin "len"))<|.ld 0<|.call 1<|.st 2<|.ld 2<|.ld 1<|.ld 2<|.bin .FloorDiv<|.ld 2<|.bin .Mod<|.bin .Sub<|.st 3<|.cst (.int (1))<|.cst (.int (2))<|.ld 1<|.ld 2<|.ld 2<|.bin .Mult<|.bin .FloorDiv<|.cst (.int (2))<|.bin .Mod<|.bin .Mult<|.bin .Sub<|.st 4<|.ld 3<|.comp .range 1 [none,none,some 2,some 0,some 1,some 4] (.st 1<|.ld 3<|.ld 4<|.ld 5<|.ld 1<|.bin .Mult<|.bin .Add<|.ld 2<|.bin .Mod<|.sub<|.done)<|.ret
theorem f450:fnC (K P) gsT bsT 450 2=some (7,c450):=by kernel_rfl
theorem b450_2:BindK (K P) 450 [] 2 []:=fun _ _ S=>by kernel_rfl
theorem k450_2 (T:TopK c P) (h:w c n c450 [] [some v0,some v1,none,none,none,none,none] H (endK Q)):CallC c (n + 1) (.ref 450) [v0,v1] H Q:=(CallC.fn (dfl:=[]) T.hG (T.hK▸f450) (T.hK▸b450_2) h).1
theorem kp450 (T:TopK c P):keepIn c.K (.ref 450)=true:=T.hK▸(by kernel_rfl:keepIn (K P) (.ref 450)=true)
noncomputable def c462:Code:=.ld 2<|.cst (.int (4))<|.bin .Add<|.cst (.int (11))<|.bin .Mod<|.cst (.int (1))<|.bin .Sub<|.st 3<|.ld 2<|.cst (.int (11))<|.bin .FloorDiv<|.cst (.int (3))<|.bin .Mod<|.cst (.int (0))<|.cmp .Eq<|.tru<|.ite (.cst .none<|.done) (.ld 1<|.comp .range 1 [none,none,some 2] (.st 1<|.ld 2<|.cst (.int (11))<|.bin .FloorDiv<|.ld 1<|.bin .Add<|.cst (.int (3))<|.bin .Mod<|.done)<|.done)<|.st 4<|.cst (.int (7))<|.comp .range 1 [none,none,some 2] (.st 1<|.ld 2<|.cst (.int (5))<|.bin .Add<|.cst (.int (128))<|.bin .Mod<|.ld 1<|.bin .RShift<|.cst (.int (1))<|.bin .BitAnd<|.tru<|.ite (.ld 1<|.done) (.cont)<|.done)<|.st 5<|.ld 2<|.cst (.int (2))<|.bin .Add<|.ld 1<|.cst (.int (3))<|.bin .Add<|.bin .Mod<|.cst (.int (1))<|.bin .Sub<|.st 6<|.ld 2<|.cst (.int (7))<|.bin .FloorDiv<|.cst (.int (2))<|.bin .Mod<|.cst (.int (1))<|.cmp .Eq<|.st 7<|.ld 0<|.ld 3<|.ld 4<|.ld 5<|.ld 6<|.ld 7<|.ld 2<|.cst (.int (3))<|.bin .Mod<|.tup 7<|.st 8<|.ld 0<|.cst (.int (0))<|.cmp .Eq<|.tru<|.ite (.cst (.ref 189)<|.call 0<|.ld 8<|.tup 2<|.ret) (.done)<|.ld 0<|.cst (.int (1))<|.cmp .Eq<|.tru<|.ite (.cst (.ref 209)<|.call 0<|.ld 8<|.tup 2<|.ret) (.done)<|.ld 0<|.cst (.int (2))<|.cmp .Eq<|.tru<|.ite (.cst (.ref 244)<|.ld 3<|.ld 4<|.call 2<|.ld 8<|.tup 2<|.ret) (.done)<|.ld 0<|.cst (.int (3))<|.cmp .Eq<|.tru<|.ite (.cst (.ref 279)<|.ld 3<|.ld 4<|.call 2<|.ld 8<|.tup 2<|.ret) (.done)<|.ld 0<|.cst (.int (4))<|.cmp .Eq<|.tru<|.ite (.cst (.ref 307)<|.ld 3<|.ld 4<|.call 2<|.ld 8<|.tup 2<|.ret) (.done)<|.ld 0<|.cst (.int (5))<|.cmp .Eq<|.tru<|.ite (.cst (.ref 341)<|.ld 5<|.call 1<|.ld 8<|.tup 2<|.ret) (.done)<|.ld 0<|.cst (.int (6))<|.cmp .Eq<|.tru<|.ite (.cst (.ref 375)<|.ld 5<|.call 1<|.ld 8<|.tup 2<|.ret) (.done)<|.ld 0<|.cst (.int (7))<|.cmp .Eq<|.tru<|.ite (.cst (.ref 403)<|.ld 5<|.ld 6<|.ld 7<|.call 3<|.ld 8<|.tup 2<|.ret) (.done)<|.ld 0<|.cst (.int (8))<|.cmp .Eq<|.tru<|.ite (.cst (.ref 431)<|.ld 5<|.ld 6<|.ld 7<|.call 3<|.ld 8<|.tup 2<|.ret) (.done)<|.cst (.ref 169)<|.cst (.ref 457)<|.ld 1<|.ld 2<|.cst (.int (3))<|.bin .Mod<|.call 2<|.call 1<|.ld 8<|.tup 2<|.ret
theorem f462:fnC (K P) gsT bsT 462 3=some (21,c462):=by kernel_rfl
theorem b462_3:BindK (K P) 462 [] 3 []:=fun _ _ _ S=>by kernel_rfl
theorem k462_3 (T:TopK c P) (h:w c n c462 [] [some v0,some v1,some v2,none,none,none,none,none,none,none,none,none,none,none,none,none,none,none,none,none,none] H (endK Q)):CallC c (n + 1) (.ref 462) [v0,v1,v2] H Q:=(CallC.fn (dfl:=[]) T.hG (T.hK▸f462) (T.hK▸b462_3) h).1
theorem kp462 (T:TopK c P):keepIn c.K (.ref 462)=true:=T.hK▸(by kernel_rfl:keepIn (K P) (.ref 462)=true)
noncomputable def c467:Code:=.ld 0<|.unp 7<|.st 2<|.st 3<|.st 4<|.st 5<|.st 6<|.st 7<|.st 8<|.ld 2<|.cst (.int (0))<|.cmp .Eq<|.tru<|.ite (.cst (.oth (.builtin "len"))<|.cst (.oth (.type "set"))<|.ld 1<|.call 1<|.call 1<|.cst (.oth (.builtin "len"))<|.ld 1<|.call 1<|.cmp .Eq<|.ret) (.done)<|.ld 2<|.cst (.int (1))<|.cmp .Eq<|.tru<|.ite (.cst (.oth (.builtin "min"))<|.ld 1<|.call 1<|.cst (.oth (.builtin "max"))<|.ld 1<|.call 1<|.cmp .Eq<|.ret) (.done)<|.ld 2<|.cst (.int (5))<|.cmp .Lt<|.tru<|.ite (.ld 4<|.cst .none<|.cmp .Is<|.tru<|.ite (.cst (.int (1))<|.lst 1<|.cst (.oth (.builtin "len"))<|.ld 1<|.call 1<|.bin .Mult<|.done) (.ld 4<|.done)<|.st 9<|.cst (.oth (.builtin "sum"))<|.ld 1<|.ld 9<|.comp .zip 2 [none,none,none] (.st 1<|.st 2<|.ld 1<|.ld 2<|.bin .Mult<|.done)<|.call 1<|.st 11<|.ld 2<|.cst (.int (2))<|.cmp .Eq<|.tru<|.ite (.ld 11<|.ld 3<|.cmp .LtE<|.ret) (.done)<|.ld 2<|.cst (.int (3))<|.cmp .Eq<|.tru<|.ite (.ld 11<|.ld 3<|.cmp .Eq<|.ret) (.done)<|.ld 11<|.ld 3<|.cmp .GtE<|.ret) (.done)<|.ld 2<|.cst (.int (9))<|.cmp .Eq<|.tru<|.ite (.cst (.int (0))<|.st 11<|.ld 1<|.loop .rev 1 (.st 10<|.cst (.int (2))<|.ld 11<|.bin .Mult<|.ld 10<|.bin .Add<|.st 11<|.done) (.done)<|.ld 11<|.cst (.int (3))<|.bin .Mod<|.ld 8<|.cmp .NotEq<|.ret) (.done)<|.cst (.oth (.builtin "len"))<|.ld 1<|.comp .seq 1 [none,none,some 5] (.st 1<|.ld 1<|.ld 2<|.cmp .In<|.tru<|.ite (.ld 1<|.done) (.cont)<|.done)<|.call 1<|.st 12<|.ld 2<|.cst (.int (5))<|.cmp .Eq<|.tru<|.ite (.ld 12<|.cst (.oth (.builtin "len"))<|.ld 1<|.call 1<|.cmp .Eq<|.ret) (.done)<|.ld 2<|.cst (.int (6))<|.cmp .Eq<|.tru<|.ite (.ld 12<|.cst (.int (0))<|.cmp .Eq<|.ret) (.done)<|.ld 2<|.cst (.int (8))<|.cmp .Eq<|.tru<|.ite (.cst (.oth (.builtin "len"))<|.ld 1<|.call 1<|.ld 12<|.bin .Sub<|.st 12<|.done) (.done)<|.ld 7<|.tru<|.ite (.ld 12<|.ld 6<|.cmp .Eq<|.ret) (.done)<|.ld 12<|.ld 6<|.cmp .GtE<|.ret
theorem f467:fnC (K P) gsT bsT 467 2=some (20,c467):=by kernel_rfl
theorem b467_2:BindK (K P) 467 [] 2 []:=fun _ _ S=>by kernel_rfl
theorem k467_2 (T:TopK c P) (h:w c n c467 [] [some v0,some v1,none,none,none,none,none,none,none,none,none,none,none,none,none,none,none,none,none,none] H (endK Q)):CallC c (n + 1) (.ref 467) [v0,v1] H Q:=(CallC.fn (dfl:=[]) T.hG (T.hK▸f467) (T.hK▸b467_2) h).1
theorem kp467 (T:TopK c P):keepIn c.K (.ref 467)=true:=T.hK▸(by kernel_rfl:keepIn (K P) (.ref 467)=true)
noncomputable def c472:Code:=.tup 0<|.lst 1<|.st 2<|.ld 0<|.loop .seq 1 (.st 3<|.ld 2<|.comp2 .seq 1 [none,none,none,some 3] (.st 1<|.ld 3<|.done) .seq 1 (.st 2<|.ld 1<|.ld 2<|.tup 1<|.bin .Add<|.done)<|.st 2<|.done) (.done)<|.ld 1<|.loop .seq 1 (.unp 2<|.st 4<|.st 5<|.ld 2<|.comp .seq 1 [none,none,none,some 4,some 5] (.st 1<|.cst (.ref 467)<|.ld 4<|.ld 3<|.comp .seq 1 [none,none,some 1] (.st 1<|.ld 2<|.ld 1<|.sub<|.done)<|.call 2<|.tru<|.ite (.ld 1<|.done) (.cont)<|.done)<|.st 2<|.done) (.done)<|.ld 2<|.ret
theorem f472:fnC (K P) gsT bsT 472 2=some (6,c472):=by kernel_rfl
theorem b472_2:BindK (K P) 472 [] 2 []:=fun _ _ S=>by kernel_rfl
theorem k472_2 (T:TopK c P) (h:w c n c472 [] [some v0,some v1,none,none,none,none] H (endK Q)):CallC c (n + 1) (.ref 472) [v0,v1] H Q:=(CallC.fn (dfl:=[]) T.hG (T.hK▸f472) (T.hK▸b472_2) h).1
theorem kp472 (T:TopK c P):keepIn c.K (.ref 472)=true:=T.hK▸(by kernel_rfl:keepIn (K P) (.ref 472)=true)
noncomputable def c479:Code:=.cst (.oth (.builtin "len"))<|.ld 0<|.call 1<|.cst (.oth (.builtin "len"))<|.ld 2<|.call 1<|.cmp .NotEq<|.tru<|.ite (.cst (.bool false)<|.ret) (.done)<|.ld 0<|.ld 2<|.loop .zip 2 (.st 3<|.st 4<|.ld 3<|.cst (.int (0))<|.sub<|.ld 1<|.ld 4<|.sub<|.cmp .IsNot<|.tru<|.ite (.cst (.bool false)<|.ret) (.done)<|.done) (.done)<|.cst (.bool true)<|.ret
theorem f479:fnC (K P) gsT bsT 479 3=some (7,c479):=by kernel_rfl
theorem b479_3:BindK (K P) 479 [] 3 []:=fun _ _ _ S=>by kernel_rfl
theorem k479_3 (T:TopK c P) (h:w c n c479 [] [some v0,some v1,some v2,none,none,none,none] H (endK Q)):CallC c (n + 1) (.ref 479) [v0,v1,v2] H Q:=(CallC.fn (dfl:=[]) T.hG (T.hK▸f479) (T.hK▸b479_3) h).1
theorem kp479 (T:TopK c P):keepIn c.K (.ref 479)=true:=T.hK▸(by kernel_rfl:keepIn (K P) (.ref 479)=true)
noncomputable def c486:Code:=.ld 1<|.loop .seq 1 (.st 2<|.ld 0<|.ld 2<|.sub<|.gm "popState"<|.cm 0<|.pop<|.cst (.oth (.builtin "sorted"))<|.ld 0<|.ld 2<|.sub<|.cst .none<|.cst .none<|.sl<|.call 1<|.ld 1<|.ld 2<|.sub<|.cmp .NotEq<|.tru<|.ite (.cst (.bool false)<|.ret) (.done)<|.done) (.done)<|.cst (.bool true)<|.ret
theorem f486:fnC (K P) gsT bsT 486 2=some (4,c486):=by kernel_rfl
theorem b486_2:BindK (K P) 486 [] 2 []:=fun _ _ S=>by kernel_rfl
theorem k486_2 (T:TopK c P) (h:w c n c486 [] [some v0,some v1,none,none] H (endK Q)):CallC c (n + 1) (.ref 486) [v0,v1] H Q:=(CallC.fn (dfl:=[]) T.hG (T.hK▸f486) (T.hK▸b486_2) h).1
theorem kp486 (T:TopK c P):keepIn c.K (.ref 486)=true:=T.hK▸(by kernel_rfl:keepIn (K P) (.ref 486)=true)
noncomputable def c491:Code:=kA1
theorem f491:fnC (K P) gsT bsT 491 1=some (41,c491):=by kernel_rfl
theorem b491_1:BindK (K P) 491 [] 1 []:=fun _ S=>by kernel_rfl
theorem k491_1 (T:TopK c P) (h:w c n c491 [] [some v0,none,none,none,none,none,none,none,none,none,none,none,none,none,none,none,none,none,none,none,none,none,none,none,none,none,none,none,none,none,none,none,none,none,none,none,none,none,none,none,none] H (endK Q)):CallC c (n + 1) (.ref 491) [v0] H Q:=(CallC.fn (dfl:=[]) T.hG (T.hK▸f491) (T.hK▸b491_1) h).1
end
end Mine
set_option genSizeOfSpec false
set_option genInjectivity false
namespace Mine
section
variable {c:Cx} {n:Nat} {d:Kd} {b k:Code} {v:V} {st:List V} {ρ:Loc} {H:AH} {K:KT} {it:List (List V)} {src:AH→Prop} {α:Type} {cs:List (Option Nat)}
noncomputable abbrev LoopH (c:Cx) (n:Nat) (d:Kd) (b e k:Code) (args st:List V) (ρ:Loc) (K:KT) (H:AH):Prop:=∃ it src Inv,LoopW H d args it src Inv ρ (fun i xs ρ H=>w c n b xs ρ H (turn (Inv (i + 1)) (KT.thn (fun _ ρ H=>w c n k st ρ H K) K))) fun ρ H=>w c n e [] ρ H (KT.thn (fun _ ρ H=>w c n k st ρ H K) K)
noncomputable abbrev LoopG (c:Cx) (n:Nat) (d:Kd) (b e k:Code) (args st:List V) (ρ:Loc) (H:AH) (K:KT):Prop:=HeldW H fun H=>LoopH c n d b e k args st ρ K H
theorem w_loopH {args:List V} {e:Code} (L:α→Loc) (I:Nat→α→AH→Prop) (a0:α) (iter:IterV H d args it src) (h0:I 0 a0 H) (hs:∀ i a H,I i a H→src H)
  (step:∀ i xs a H (K':KT),it[i]?=some xs→I i a H→(∀ st a H,I (i + 1) a H→K' .next st (L a) H)→(∀ v st ρ H,K (.ret v) [] ρ H→K' (.ret v) st ρ H)→w c n b xs (L a) H K')
  (fin:∀ a H,I it.length a H→w c n e [] (L a) H (KT.thn (fun _ ρ H=>w c n k st ρ H K) K)) (e0:ρ=L a0:=by rfl):LoopH c n d b e k args st ρ K H:=
 ⟨it,src,fun i ρ H=>∃ a,ρ=L a∧I i a H,iter,⟨a0,e0,h0⟩,fun i ρ H q=>q.elim fun a q=>hs i a H q.2,fun i xs ρ H hi q=>q.elim fun a q=>q.1▸step i xs a H _ hi q.2 (fun st a H q=>⟨H,Sub.refl _,a,rfl,q⟩) fun v st ρ H q=>q,fun ρ H q=>q.elim fun a q=>q.1▸fin a H q.2⟩
theorem w_loopE {args:List V} {e:Code} (L:α→Loc) (I:Nat→α→AH→Prop) (a0:α) (iter:IterV H d args it src) (h0:I 0 a0 H) (hs:∀ i a H,I i a H→src H)
  (step:∀ i xs a H (K':KT),it[i]?=some xs→I i a H→(∀ st a H,I (i + 1) a H→K' .next st (L a) H)→(∀ v st ρ H,K (.ret v) [] ρ H→K' (.ret v) st ρ H)→w c n b xs (L a) H K')
  (fin:∀ a H,I it.length a H→w c n e [] (L a) H (KT.thn (fun _ ρ H=>w c n k st ρ H K) K)) (e0:ρ=L a0:=by rfl):LoopG c n d b e k args st ρ H K:=.inl (w_loopH L I a0 iter h0 hs step fin e0)
theorem w_loop {args:List V} (L:α→Loc) (I:Nat→α→AH→Prop) (a0:α) (iter:IterV H d args it src) (h0:I 0 a0 H) (hs:∀ i a H,I i a H→src H)
  (step:∀ i xs a H (K':KT),it[i]?=some xs→I i a H→(∀ st a H,I (i + 1) a H→K' .next st (L a) H)→(∀ v st ρ H,K (.ret v) [] ρ H→K' (.ret v) st ρ H)→w c n b xs (L a) H K')
  (fin:∀ a H,I it.length a H→w c n k st (L a) H K) (e0:ρ=L a0:=by rfl):LoopG c n d b .done k args st ρ H K:=w_loopE L I a0 iter h0 hs step fin e0
theorem w_loopQE {args:List V} {e:Code} (L:Nat→α→Loc) (P:Nat→Prop) (a0:α) (iter:IterV H d args it src) (h0:P 0) (hs:src H)
  (step:∀ i xs a (K':KT),it[i]?=some xs→P i→(∀ st a,P (i + 1)→K' .next st (L (i + 1) a) H)→(∀ st' ρ H,w c n k st ρ H K→K' .brk st' ρ H)→w c n b xs (L i a) H K')
  (fin:∀ a,P it.length→w c n e [] (L it.length a) H (KT.thn (fun _ ρ H=>w c n k st ρ H K) K)) (e0:ρ=L 0 a0:=by rfl):LoopG c n d b e k args st ρ H K:=
 .inl ⟨it,src,fun i ρ H'=>∃ a,ρ=L i a∧H'=H∧P i,iter,⟨a0,e0,rfl,h0⟩,fun i ρ H q=>q.elim fun a q=>q.2.1▸hs,fun i xs ρ H hi q=>q.elim fun a q=>by obtain ⟨rfl,rfl,hp⟩:=q; exact step i xs a _ hi hp (fun st a hp=>⟨_,Sub.refl _,a,rfl,rfl,hp⟩) fun st ρ H q=>q,fun ρ H q=>q.elim fun a q=>by obtain ⟨rfl,rfl,hp⟩:=q; exact fin a hp⟩
theorem w_loopQ {args:List V} (L:Nat→α→Loc) (P:Nat→Prop) (a0:α) (iter:IterV H d args it src) (h0:P 0) (hs:src H)
  (step:∀ i xs a (K':KT),it[i]?=some xs→P i→(∀ st a,P (i + 1)→K' .next st (L (i + 1) a) H)→(∀ v st ρ H,K (.ret v) [] ρ H→K' (.ret v) st ρ H)→w c n b xs (L i a) H K')
  (fin:∀ a,P it.length→w c n k st (L it.length a) H K) (e0:ρ=L 0 a0:=by rfl):LoopG c n d b .done k args st ρ H K:=
 .inl ⟨it,src,fun i ρ H'=>∃ a,ρ=L i a∧H'=H∧P i,iter,⟨a0,e0,rfl,h0⟩,fun i ρ H q=>q.elim fun a q=>q.2.1▸hs,fun i xs ρ H hi q=>q.elim fun a q=>by obtain ⟨rfl,rfl,hp⟩:=q; exact step i xs a _ hi hp (fun st a hp=>⟨_,Sub.refl _,a,rfl,rfl,hp⟩) fun v st ρ H q=>q,fun ρ H q=>q.elim fun a q=>by obtain ⟨rfl,rfl,hp⟩:=q; exact fin a hp⟩
theorem w_loopP {args:List V} (L:Nat→α→Loc) (a0:α) (iter:IterV H d args it src) (hs:src H)
  (step:∀ i xs a (K':KT),it[i]?=some xs→(∀ st a,K' .next st (L (i + 1) a) H)→(∀ v st ρ H,K (.ret v) [] ρ H→K' (.ret v) st ρ H)→w c n b xs (L i a) H K')
  (fin:∀ a,w c n k st (L it.length a) H K) (e0:ρ=L 0 a0:=by rfl):LoopG c n d b .done k args st ρ H K:=
 w_loopQ L (fun _=>True) a0 iter trivial hs (fun i xs a K' hi _ hn hr=>step i xs a K' hi (fun st a=>hn st a trivial) hr) (fun a _=>fin a) e0
noncomputable abbrev CompG (c:Cx) (n:Nat) (d:Kd) (cs:List (Option Nat)) (b k:Code) (args st:List V) (ρ:Loc) (H:AH) (K:KT):Prop:=∃ it src Inv,CompW H d args it src Inv [] (cs.map fun i=>i.bind ρ.at) (fun i acc xs ρ H=>w c n b xs ρ H (emit (Inv (i + 1)) acc)) fun acc _ H=>∀ D,H D=none→w c n k (.ref D::st) ρ (H.set D (.list acc)) K
theorem w_comp {args:List V} (L:α→Loc) (I:Nat→List V→α→AH→Prop) (a0:α) (iter:IterV H d args it src) (len:it.length≤100000) (h0:I 0 [] a0 H) (hs:∀ i acc a H,I i acc a H→src H)
  (step:∀ i acc xs a H (K':KT),it[i]?=some xs→I i acc a H→(∀ v a H,I (i + 1) (acc++[v]) a H→K' .next [v] (L a) H)→(∀ st a H,I (i + 1) acc a H→K' .cont st (L a) H)→w c n b xs (L a) H K')
  (fin:∀ acc a H,I it.length acc a H→∀ D,H D=none→w c n k (.ref D::st) ρ (H.set D (.list acc)) K) (e0:(cs.map fun i=>i.bind ρ.at)=L a0:=by rfl):CompG c n d cs b k args st ρ H K:=
 ⟨it,src,fun i acc ρ H=>∃ a,ρ=L a∧I i acc a H,iter,Nat.le_trans (Nat.le_of_eq (Nat.zero_add _)) len,⟨a0,e0,h0⟩,fun i acc ρ H q=>q.elim fun a q=>hs i acc a H q.2,fun i acc xs ρ H hi q=>q.elim fun a q=>q.1▸step i acc xs a H _ hi q.2 (fun v a H q=>⟨H,Sub.refl _,a,rfl,q⟩) fun st a H q=>⟨H,Sub.refl _,a,rfl,q⟩,fun acc ρ H q=>q.elim fun a q=>fin acc a H q.2⟩
theorem w_compP {args:List V} (L:α→Loc) (F:Nat→List V) (a0:α) (iter:IterV H d args it src) (len:it.length≤100000) (f0:F 0=[]) (hs:src H)
  (step:∀ i xs a (K':KT),it[i]?=some xs→(∀ v a,F (i + 1)=F i++[v]→K' .next [v] (L a) H)→(∀ st a,F (i + 1)=F i→K' .cont st (L a) H)→w c n b xs (L a) H K')
  (fin:∀ D,H D=none→w c n k (.ref D::st) ρ (H.set D (.list (F it.length))) K) (e0:(cs.map fun i=>i.bind ρ.at)=L a0:=by rfl):CompG c n d cs b k args st ρ H K:=
 w_comp L (fun i acc _ H'=>H'=H∧acc=F i) a0 iter len ⟨rfl,f0.symm⟩ (fun _ _ _ _ q=>q.1▸hs) (fun i acc xs a H' K' hi q hn hc=>by
  obtain ⟨rfl,rfl⟩:=q
  exact step i xs a K' hi (fun v a e=>hn v a _ ⟨rfl,e.symm⟩) fun st a e=>hc st a _ ⟨rfl,e.symm⟩) (fun acc a H' q=>by
  obtain ⟨rfl,rfl⟩:=q
  exact fin) e0
end
noncomputable abbrev b5 (a b c d:Addr) (x:V) (t:Loc):Loc:=some (.ref a)::some (.ref b)::some (.ref c)::some (.ref d)::some x::t
noncomputable abbrev sHid:Str:=Str.ofString "_hidden"
noncomputable abbrev sSta:Str:=Str.ofString "_states"
section
variable {c:Cx} {P:Params} {n:Nat} {H:AH} {Q:V→AH→Prop}
theorem TopK.fi (T:TopK c P) {x:Value} {name:Str} {r:Option (Option Value)} (h:findIn (K P) x name=r):findIn c.K x name=r:=T.hK▸h
theorem TopK.ty (T:TopK c P) {x:Value} {r:Option Value} (h:typeIn (K P) x=r):typeIn c.K x=r:=T.hK▸h
theorem TopK.cls (T:TopK c P) {C:Addr} (h:ClsOk (K P) C):ClsOk c.K C:=T.hK▸h
theorem TopK.kp (T:TopK c P) {v:Value} (h:keepIn (K P) v=true):keepIn c.K v=true:=T.hK▸h
theorem TopK.mks (T:TopK c P) {C:Addr} (h:makesIn (K P) C=true):makesIn c.K C=true:=T.hK▸h
theorem okDom:ClsOk (K P) 97:=⟨by kernel_rfl,by kernel_rfl,by kernel_rfl,by kernel_rfl,fun _=>by kernel_rfl⟩
theorem TopK.D (T:TopK c P):DomFacts c:=by
 have:c.K=K P:=T.hK
 refine ⟨T.cls okDom,?_,?_,?_,?_,?_,?_⟩ <;> rw [this] <;> kernel_rfl
end
structure DS where
 vs:List Int
 hid:List Int
 st:List Int
inductive Sl where
 | a | d | x | y
noncomputable abbrev DA:=Sl→Addr
noncomputable def obj (A:DA) (d:DS):Sl→AO
 | .a=>.sub (A .d) (iL d.vs)
 | .d=>.ns [(sHid,.ref (A .x)),(sSta,.ref (A .y))]
 | .x=>.list (iL d.hid)
 | .y=>.list (iL d.st)
noncomputable def upd {α:Type} (D:Int→α) (x:Int) (d:α):Int→α:=fun y=>if y=x then d else D y
theorem upd_self {α:Type} {D:Int→α} {x:Int} {d:α}:upd D x d x=d:=if_pos rfl
theorem upd_ne {α:Type} {D:Int→α} {x y:Int} {d:α} (h:y≠x):upd D x d y=D y:=if_neg h
theorem upd_upd {α:Type} {D:Int→α} {x:Int} {d e:α}:upd (upd D x d) x e=upd D x e:=funext fun y=>by unfold upd; split <;> rfl
theorem upd_id {α:Type} {D:Int→α} {x:Int}:upd D x (D x)=D:=funext fun y=>by unfold upd; split <;> first | rfl | (rename_i h; rw [h])
structure St (H fx:AH) (da:Int→DA) (all:List Int) (D:Int→DS):Prop where
 sub:Sub fx H
 at_:∀ x∈all,∀ i,H (da x i)=some (obj (da x) (D x) i)
 inj:∀ x∈all,∀ y∈all,∀ i j,da x i=da y j→x=y∧i=j
 off:∀ x∈all,∀ i,fx (da x i)=none
section
variable {H H' fx fx':AH} {da:Int→DA} {all:List Int} {D D':Int→DS} {x:Int} {p:Addr} {o o':AO}
theorem St.mono (S:St H fx da all D) (h:Sub H H'):St H' fx da all D:={ S with sub:=S.sub.trans h,at_:=fun x hx i=>h _ _ (S.at_ x hx i) }
theorem St.loose (S:St H fx da all D) (h:Sub fx' fx):St H fx' da all D:={ S with sub:=h.trans S.sub,off:=fun x hx i=>h.none (S.off x hx i) }
theorem St.eqD (S:St H fx da all D) (h:∀ x∈all,D' x=D x):St H fx da all D':={ S with at_:=fun x hx i=>by rw [h x hx]; exact S.at_ x hx i }
theorem St.new (S:St H fx da all D) (hn:H p=none):St (H.set p o) (fx.set p o) da all D:=
 have ne:∀ x∈all,∀ i,da x i≠p:=fun x hx i q=>no_some hn (q▸S.at_ x hx i)
 { S with
  sub:=fun b ob e=>(AH.of_set e).elim (fun q=>by rw [q.1,q.2]; exact AH.set_self) fun q=>(AH.set_ne q.1).trans (S.sub _ _ q.2)
  at_:=fun x hx i=>(AH.set_ne (ne x hx i)).trans (S.at_ x hx i)
  off:=fun x hx i=>(AH.set_ne (ne x hx i)).trans (S.off x hx i) }
theorem St.new' (S:St H fx da all D) (hn:H p=none):St (H.set p o) fx da all D:=S.mono (Sub.new hn)
theorem St.put (S:St H fx da all D) (e:fx p=some o):St (H.set p o') (fx.set p o') da all D:=
 have ne:∀ x∈all,∀ i,da x i≠p:=fun x hx i q=>no_some (S.off x hx i) (q▸e)
 { S with
  sub:=fun b ob e=>(AH.of_set e).elim (fun q=>by rw [q.1,q.2]; exact AH.set_self) fun q=>(AH.set_ne q.1).trans (S.sub _ _ q.2)
  at_:=fun x hx i=>(AH.set_ne (ne x hx i)).trans (S.at_ x hx i)
  off:=fun x hx i=>(AH.set_ne (ne x hx i)).trans (S.off x hx i) }
theorem St.slot (S:St H fx da all D) (hx:x∈all) (i:Sl) (d':DS) (hj:∀ j,j≠i→obj (da x) d' j=obj (da x) (D x) j):St (H.set (da x i) (obj (da x) d' i)) fx da all (upd D x d') where
 sub b ob e:=(AH.set_ne (fun q=>no_some (S.off x hx i) (q▸e))).trans (S.sub _ _ e)
 at_ y hy j:=by
  by_cases q:y=x
  ·subst q
   rw [upd_self]
   by_cases w:j=i
   ·rw [w]; exact AH.set_self
   ·rw [AH.set_ne fun q=>w (S.inj y hy y hy j i q).2,hj j w]; exact S.at_ y hy j
  ·rw [AH.set_ne fun w=>q (S.inj y hy x hx j i w).1,upd_ne q]; exact S.at_ y hy j
 inj:=S.inj
 off:=S.off
theorem St.ins (S:St H fx da all D) (hx:x∈all):Ins H (da x .a) DomC (da x .d) [(sHid,.ref (da x .x)),(sSta,.ref (da x .y))]:=.d (S.at_ x hx .a) (S.at_ x hx .d)
end
section
variable {c:Cx} {P:Params} {n:Nat} {H fx:AH} {da:Int→DA} {all:List Int} {D:Int→DS} {x k:Int} {Q:V→AH→Prop}
theorem getD (T:TopK c P) (S:St H fx da all D) (hx:x∈all) {name:Str} {m:Value} {t:String} (hf:findIn (K P) (.ref DomC) name=some (some m)) (ht:typeIn (K P) m=some (.type t)) (htt:t="function"∨t="method_descriptor") (hs:fAt [(sHid,.none),(sSta,.none)] name=none):GetX c n (.ref (da x .a)) name H m true:=
 GetX.cls T.D.cls (S.ins hx) (T.fi hf) (T.ty ht) htt (by
  have:∀ u v,(fAt [(sHid,.none),(sSta,.none)] name).isNone=(fAt [(sHid,u),(sSta,v)] name).isNone:=fun u v=>by
   unfold fAt; rw [Option.isNone_map,Option.isNone_map,List.find?_cons,List.find?_cons,List.find?_cons,List.find?_cons]; cases sHid == name <;> cases sSta == name <;> rfl
  have:=this (.ref (da x .x)) (.ref (da x .y))
  rw [hs] at this
  exact Option.isNone_iff_eq_none.mp this.symm)
theorem attrHid (T:TopK c P) (S:St H fx da all D) (hx:x∈all) (h:Q (.ref (da x .x)) H):AttrT c n (.ref (da x .a)) "_hidden" H Q:=.ownL T.D.cls T.D.list (S.ins hx) (T.fi (by kernel_rfl)) rfl trivial h
theorem attrSta (T:TopK c P) (S:St H fx da all D) (hx:x∈all) (h:Q (.ref (da x .y)) H):AttrT c n (.ref (da x .a)) "_states" H Q:=.ownL T.D.cls T.D.list (S.ins hx) (T.fi (by kernel_rfl)) rfl trivial h
theorem getAppend {l:Addr} {vs:List V} (e:H l=some (.list vs)):GetX c n (.ref l) "append" H (.builtin "list.append") true:=.list e PySem.F.slot_list_append rfl
theorem getPop {l:Addr} {vs:List V} (e:H l=some (.list vs)):GetX c n (.ref l) "pop" H (.builtin "list.pop") true:=.list e PySem.F.slot_list_pop rfl
theorem hide (T:TopK c P) (S:St H fx da all D) (hx:x∈all) (hk:k∈(D x).vs) (hl:(D x).hid.length < 1000) (h:∀ H',St H' fx da all (upd D x ⟨(D x).vs.erase k,(D x).hid++[k],(D x).st⟩)→Q .none H'):CallV c (n + 1) (.ref 94) [.ref (da x .a),.int k] H Q:=by
 refine (k94_2 T ?_).call (kp94 T)
 refine ⟨_,_,getD T S hx (m:=.builtin "list.remove") (by kernel_rfl) (by kernel_rfl) (.inr rfl) rfl,?_⟩
 refine CallV.removeDom T.D (S.at_ x hx .a) hk ⟨rfl,?_⟩
 have S1:=S.slot hx .a ⟨(D x).vs.erase k,(D x).hid,(D x).st⟩ fun j hj=>by cases j <;> first | rfl | exact absurd rfl hj
 refine attrHid T S1 hx ?_
 have e:=S1.at_ x hx .x
 rw [upd_self] at e
 refine ⟨_,_,getAppend e,?_⟩
 refine CallV.append e (by rw [List.length_map]; exact Nat.lt_trans hl (by decide)) ⟨rfl,?_⟩
 have S2:=S1.slot hx .x ⟨(D x).vs.erase k,(D x).hid++[k],(D x).st⟩ fun j hj=>by rw [upd_self]; cases j <;> first | rfl | exact absurd rfl hj
 rw [upd_upd] at S2
 exact ⟨_,Sub.refl _,h _ (by have:=S2; unfold obj at this; rw [show iL ((D x).hid++[k])=iL (D x).hid++[.int k] from List.map_append ..] at this; exact this)⟩
end
end Mine
namespace Mine
theorem ite_go {b:Bool} {P P':Prop} (h:b=true→P) (h':b=false→P'):if b=true then P else P':=by
 cases b with
 | true=>exact h rfl
 | false=>exact h' rfl
structure DS.Ok (d:DS):Prop where
 nd:d.vs.Nodup
 len:d.vs.length + d.hid.length < 1000
noncomputable def hid1 (d:DS) (k:Int→Bool):DS:=⟨d.vs.filter k,d.hid++d.vs.filter (fun v=>!k v),d.st⟩
noncomputable def hidN (d:DS) (k:Int→Bool) (i:Nat):DS:=⟨(d.vs.take i).filter k++d.vs.drop i,d.hid++(d.vs.take i).filter (fun v=>!k v),d.st⟩
theorem hidN_zero {d:DS} {k:Int→Bool}:hidN d k 0=d:=by
 obtain ⟨vs,hid,st⟩:=d
 unfold hidN
 rw [List.take_zero,List.filter_nil,List.filter_nil,List.append_nil]; rfl
theorem hidN_all {d:DS} {k:Int→Bool}:hidN d k d.vs.length=hid1 d k:=by
 unfold hidN hid1
 rw [List.take_length,List.drop_length,List.append_nil]
theorem take_snoc {α:Type} {l:List α} {i:Nat} {v:α} (e:l[i]?=some v):l.take (i+1)=l.take i++[v]:=by rw [List.take_add_one,e]; rfl
theorem drop_cons {α:Type} {l:List α} {i:Nat} {v:α} (e:l[i]?=some v):l.drop i=v::l.drop (i+1):=by
 obtain ⟨hi,e'⟩:=List.getElem?_eq_some_iff.mp e
 rw [List.drop_eq_getElem_cons hi,e']
theorem not_mem_take {l:List Int} {i:Nat} {v:Int} (nd:l.Nodup) (e:l[i]?=some v):v∉l.take i:=fun h=>by
 rw [← List.take_append_drop i l,drop_cons e,List.nodup_append] at nd
 exact nd.2.2 v h v (List.mem_cons_self ..) rfl
theorem hidN_keep {d:DS} {k:Int→Bool} {i:Nat} {v:Int} (e:d.vs[i]?=some v) (hk:k v=true):hidN d k (i+1)=hidN d k i:=by
 unfold hidN
 rw [take_snoc e,drop_cons e,List.filter_append,List.filter_append,List.filter_cons_of_pos (p:=k) hk,List.filter_cons_of_neg (p:=fun v=>!k v) (by rw [hk]; decide),List.append_assoc]
 show DS.mk _ (d.hid++(_++[])) _=_
 rw [List.append_nil]; rfl
theorem hidN_drop {d:DS} {k:Int→Bool} {i:Nat} {v:Int} (o:d.vs.Nodup) (e:d.vs[i]?=some v) (hk:k v=false):hidN d k (i+1)=⟨(hidN d k i).vs.erase v,(hidN d k i).hid++[v],d.st⟩∧v∈(hidN d k i).vs:=by
 have hn:v∉(d.vs.take i).filter k:=fun h=>not_mem_take o e (List.mem_filter.mp h).1
 unfold hidN
 rw [take_snoc e,drop_cons e,List.filter_append,List.filter_append,List.filter_cons_of_neg (p:=k) (by rw [hk]; decide),List.filter_cons_of_pos (p:=fun v=>!k v) (by rw [hk]; rfl)]
 dsimp only
 rw [List.erase_append_right _ hn,List.erase_cons_head,List.append_assoc,List.append_assoc]
 exact ⟨rfl,List.mem_append_right _ (List.mem_cons_self ..)⟩
theorem upd_c {α:Type} {D:Int→α} {x y:Int} {d:α} (h:y=x→D y=d):upd D x d y=D y:=by
 unfold upd
 by_cases q:y=x
 ·rw [if_pos q,h q]
 ·rw [if_neg q]
section
variable {c:Cx} {P:Params} {n:Nat} {H fx:AH} {da:Int→DA} {all:List Int} {D:Int→DS} {x v:Int} {ρ:Loc} {K:KT} {iD iW:Nat}
noncomputable abbrev hideC (iD iW:Nat):Code:=.ld iD<|.gm "hideValue"<|.ld iW<|.cm 1<|.pop<|.done
theorem w_ld {i:Nat} {v:V} {k:Code} {st:List V} (e:ρ.at i=some v) (h:w c n k (v::st) ρ H K):w c n (.ld i k) st ρ H K:=by
 show pO (ρ.at i) _
 rw [e]; exact h
theorem hideStep (T:TopK c P) (S:St H fx da all D) (hx:x∈all) (hk:v∈(D x).vs) (hl:(D x).hid.length < 1000) (eD:ρ.at iD=some (.ref (da x .a))) (eW:ρ.at iW=some (.int v))
  (h:∀ H',St H' fx da all (upd D x ⟨(D x).vs.erase v,(D x).hid++[v],(D x).st⟩)→K .next [] ρ H'):w c (n + 1) (hideC iD iW) [] ρ H K:=
 w_ld eD ⟨_,_,getD T S hx (m:=.ref 94) (by kernel_rfl) (by kernel_rfl) (.inl rfl) rfl,w_ld eW (hide T S hx hk hl fun H' S'=>⟨rfl,h H' S'⟩)⟩
noncomputable abbrev hideL (iD iW:Nat) (cond k:Code):Code:=.ld iD<|.cst .none<|.cst .none<|.sl<|.loop .seq 1 (.st iW cond) .done k
theorem hideLoop {k:Int→Bool} {cond kk:Code} (T:TopK c P) (S:St H fx da all D) (hx:x∈all) (ok:(D x).Ok) (L:Option V→Loc) (eD:∀ u,(L u).at iD=some (.ref (da x .a))) (sW:∀ u v,(L u).set iW v=L v) (eW:∀ v,(L v).at iW=v)
  (hc:∀ v H' D' K',v∈(D x).vs→St H' fx da all D'→(k v=false→∀ K'':KT,(∀ st ρ H,K' .next st ρ H→K'' .next st ρ H)→w c (n + 1) (hideC iD iW) [] (L (some (.int v))) H' K'')→(k v=true→K' .next [] (L (some (.int v))) H')→w c (n + 1) cond [] (L (some (.int v))) H' K') {u:Option V}
  (h:∀ u H',St H' fx da all (upd D x (hid1 (D x) k))→w c (n + 1) kk [] (L u) H' K):w c (n + 1) (hideL iD iW cond kk) [] (L u) H K:=by
 refine w_ld (eD u) (SliceT.dom T.D (S.at_ x hx .a) fun l hl=>?_)
 have hf:fx l=none:=S.sub.none hl
 refine w_loop L (fun i _ H'=>H' l=some (.list (iL (D x).vs))∧St H' (fx.set l (.list (iL (D x).vs))) da all (upd D x (hidN (D x) k i))) u (.list AH.set_self) ⟨AH.set_self,(S.new hl).eqD fun y hy=>upd_c fun q=>by rw [q,hidN_zero]⟩ (fun i _ H' h=>h.1) (fun i xs u H' K' hi hI hn _=>?_) fun u H' hI=>?_
 ·obtain ⟨h1,S'⟩:=hI
  rw [List.getElem?_map,List.getElem?_map,Option.map_map] at hi
  obtain ⟨v,ev,rfl⟩:=Option.map_eq_some_iff.mp hi
  show w c (n + 1) cond [] ((L u).set iW (some (.int v))) H' _
  rw [sW]
  refine hc v H' _ _ (List.mem_of_getElem? ev) (S'.loose (Sub.new hf)) (fun hk K'' hK=>?_) fun hk=>hn _ _ _ ⟨h1,(hidN_keep ev hk).symm▸S'⟩
  obtain ⟨g1,g2⟩:=hidN_drop ok.nd ev hk
  have e:upd D x (hidN (D x) k i) x=hidN (D x) k i:=upd_self
  refine hideStep T S' hx (by rw [e]; exact g2) (by
   rw [e]
   show ((D x).hid++((D x).vs.take i).filter (fun v=>!k v)).length < 1000
   have h1:=ok.len
   have h2:((D x).vs.take i).length≤(D x).vs.length:=List.length_take_le' ..
   have h3:=List.length_filter_le (fun v=>!k v) ((D x).vs.take i)
   rw [List.length_append]; exact Nat.lt_of_le_of_lt (Nat.add_le_add_left (Nat.le_trans h3 h2) _) (Nat.add_comm ..▸h1)) (eD _) (eW _) fun H2 S2=>hK _ _ _ (hn _ _ _ ⟨S2.sub _ _ AH.set_self,?_⟩)
  rw [upd_upd,e] at S2
  rw [g1]; exact S2
 ·rw [List.length_map,List.length_map,hidN_all] at hI
  exact h u H' (hI.2.loose (Sub.new hf))
end
noncomputable def gI (g:List (Int × Int)):List (Int × V):=g.map fun q=>(q.1,.int q.2)
noncomputable def gAt (g:List (Int × Int)) (x:Int):Option Int:=(g.find? fun q=>q.1=x).map (·.2)
theorem vAt_gI (g:List (Int × Int)) (x:Int):vAt (gI g) x=(gAt g x).map .int:=by
 unfold vAt gI gAt
 rw [List.find?_map,Option.map_map,Option.map_map]; rfl
theorem CmpT.inA {c:Cx} {n:Nat} {H:AH} {Q:V→AH→Prop} {ar:Addr} {g:List (Int × Int)} {x:Int} (ea:H ar=some (.dict (gI g) none)) (h0:gAt g x=none→Q (.bool false) H) (h1:∀ v,gAt g x=some v→vAt (gI g) x=some (.int v)→Q (.bool true) H):CmpT c n .In (.int x) (.ref ar) H Q:=
 CmpT.inDict ea (by
  rw [vAt_gI,Option.isSome_map]
  cases hg:gAt g x with
  | none=>exact h0 hg
  | some v=>exact h1 v hg (by rw [vAt_gI,hg]; rfl))
theorem CmpT.notInA {c:Cx} {n:Nat} {H:AH} {Q:V→AH→Prop} {ar:Addr} {g:List (Int × Int)} {x:Int} (ea:H ar=some (.dict (gI g) none)) (h0:gAt g x=none→Q (.bool true) H) (h1:∀ v,gAt g x=some v→vAt (gI g) x=some (.int v)→Q (.bool false) H):CmpT c n .NotIn (.int x) (.ref ar) H Q:=
 CmpT.notInDict ea (by
  rw [vAt_gI,Option.isSome_map]
  cases hg:gAt g x with
  | none=>exact h0 hg
  | some v=>exact h1 v hg (by rw [vAt_gI,hg]; rfl))
noncomputable def dI (all:List Int) (da:Int→DA):List (Int × V):=all.map fun x=>(x,.ref (da x .a))
theorem vAt_dI {all:List Int} {da:Int→DA} {x:Int} (hx:x∈all):vAt (dI all da) x=some (.ref (da x .a)):=by
 unfold vAt dI
 rw [List.find?_map,Option.map_map]
 cases h:all.find? ((fun p:Int × V=>decide (p.1=x)) ∘ fun x=>(x,V.ref (da x .a))) with
 | none=>exact absurd (decide_eq_true rfl) (List.find?_eq_none.mp h x hx)
 | some q=>have h:=List.find?_some h; rw [show q=x from of_decide_eq_true h]; rfl
structure Ask (fx:AH) (da:Int→DA) (all vars:List Int) (g:List (Int × Int)) (D:Int→DS) (vr dr ar:Addr):Prop where
 lv:fx vr=some (.list (iL vars))
 ld:fx dr=some (.dict (dI all da) none)
 la:fx ar=some (.dict (gI g) none)
 sub:∀ x∈vars,x∈all
 nd:vars.Nodup
 ok:∀ x∈all,(D x).Ok
noncomputable def passed (k:Int→Int→Bool) (g:List (Int × Int)) (L:List Int) (D:Int→DS):Int→DS:=fun x=>if x∈L∧gAt g x=none then hid1 (D x) (k x) else D x
theorem passed_nil {k:Int→Int→Bool} {g:List (Int × Int)} {D:Int→DS}:passed k g [] D=D:=funext fun x=>if_neg fun q=>nomatch q.1
theorem passed_off {k:Int→Int→Bool} {g:List (Int × Int)} {D:Int→DS} {L:List Int} {x:Int} (hL:¬ (x∈L∧gAt g x=none)):passed k g L D x=D x:=if_neg hL
theorem passed_some {k:Int→Int→Bool} {g:List (Int × Int)} {D:Int→DS} {L:List Int} {x:Int} (h:gAt g x≠none):passed k g (L++[x]) D=passed k g L D:=funext fun y=>by
 unfold passed
 refine ite_congr (propext ⟨fun q=>⟨(List.mem_append.mp q.1).elim id fun w=>absurd (List.mem_singleton.mp w▸q.2) h,q.2⟩,fun q=>⟨List.mem_append_left _ q.1,q.2⟩⟩) (fun _=>rfl) fun _=>rfl
theorem passed_none {k:Int→Int→Bool} {g:List (Int × Int)} {D:Int→DS} {L:List Int} {x:Int} (h:gAt g x=none) (hL:x∉L):passed k g (L++[x]) D=upd (passed k g L D) x (hid1 (passed k g L D x) (k x)):=funext fun y=>by
 rw [passed_off (x:=x) fun q=>hL q.1]
 by_cases q:y=x
 ·subst q
  rw [upd_self]; exact if_pos ⟨List.mem_append_right _ (List.mem_singleton.mpr rfl),h⟩
 ·rw [upd_ne q]
  unfold passed
  exact ite_congr (propext ⟨fun w=>⟨(List.mem_append.mp w.1).elim id fun r=>absurd (List.mem_singleton.mp r) q,w.2⟩,fun w=>⟨List.mem_append_left _ w.1,w.2⟩⟩) (fun _=>rfl) fun _=>rfl
structure Pass (k:Int→Int→Bool) (g:List (Int × Int)) (vars:List Int) (D:Int→DS) (b:Bool) (D':Int→DS):Prop where
 ex:∃ i,D'=passed k g (vars.take i) D∧(b=true→D'=passed k g vars D∧∀ x∈vars,gAt g x=none→(D x).vs.filter (k x)≠[])∧(b=false→∃ x∈vars,gAt g x=none∧(D x).vs.filter (k x)=[])
section
variable {c:Cx} {P:Params} {n:Nat} {H fx:AH} {da:Int→DA} {all vars:List Int} {D D0:Int→DS} {x v:Int} {K:KT} {iV iD iW iA iM iS:Nat} {g:List (Int × Int)} {vr dr ar:Addr} {cond kk:Code}
noncomputable abbrev passB (iV iD iW iA iM:Nat) (cond:Code):Code:=.ld iV<|.ld iA<|.cmp .NotIn<|.tru<|.ite (.ld iM<|.ld iV<|.sub<|.st iD<|hideL iD iW cond<|.ld iD<|.tru<|.nt<|.ite (.cst (.bool false)<|.ret) .done<|.done) .done<|.done
structure PL (L:Option V→Option V→Loc) (iD iW iA iM:Nat) (ar dr:Addr):Prop where
 eD:∀ d w,(L d w).at iD=d
 eW:∀ d w,(L d w).at iW=w
 sD:∀ d w u,(L d w).set iD u=L u w
 sW:∀ d w u,(L d w).set iW u=L d u
 eA:∀ d w,(L d w).at iA=some (.ref ar)
 eM:∀ d w,(L d w).at iM=some (.ref dr)
theorem passBody {k:Int→Bool} {L:Option V→Option V→Loc} {d w0:Option V} (T:TopK c P) (S:St H fx da all D) (A:Ask fx da all vars g D0 vr dr ar) (hx:x∈all) (ok:(D x).Ok) (X:PL L iD iW iA iM ar dr) (eV:∀ d w,(L d w).at iV=some (.int x))
  (hc:∀ v H' D' K',v∈(D x).vs→gAt g x=none→St H' fx da all D'→(k v=false→∀ K'':KT,(∀ st ρ H,K' .next st ρ H→K'' .next st ρ H)→w c (n + 1) (hideC iD iW) [] (L (some (.ref (da x .a))) (some (.int v))) H' K'')→(k v=true→K' .next [] (L (some (.ref (da x .a))) (some (.int v))) H')→w c (n + 1) cond [] (L (some (.ref (da x .a))) (some (.int v))) H' K')
  (h1:gAt g x≠none→K .next [] (L d w0) H)
  (h2:gAt g x=none→(D x).vs.filter k≠[]→∀ d w H',St H' fx da all (upd D x (hid1 (D x) k))→K .next [] (L d w) H')
  (h3:gAt g x=none→(D x).vs.filter k=[]→∀ ρ H',St H' fx da all (upd D x (hid1 (D x) k))→K (.ret (.bool false)) [] ρ H'):w c (n + 1) (passB iV iD iW iA iM cond) [] (L d w0) H K:=by
 refine w_ld (eV _ _) (w_ld (X.eA _ _) (CmpT.notInA (S.sub _ _ A.la) (fun hg=>?_) fun v hg _=>?_))
 ·refine w_ld (X.eM _ _) (w_ld (eV _ _) (ItemT.dict (S.sub _ _ A.ld) (vAt_dI hx) ?_))
  show w c (n + 1) (hideL iD iW cond _) [] ((L d w0).set iD (some (.ref (da x .a)))) H _
  rw [X.sD]
  refine hideLoop T S hx ok (fun u=>L (some (.ref (da x .a))) u) (fun u=>X.eD _ _) (fun u v=>X.sW _ _ _) (fun v=>X.eW _ _) (fun v H' D' K' hv S'=>hc v H' D' K' hv hg S') fun u H' S'=>?_
  refine w_ld (X.eD _ _) (TruthT.dom T.D (S'.at_ x hx .a) ?_)
  rw [upd_self]
  refine ite_go (fun hb=>?_) fun hb=>?_
  ·refine h3 hg ?_ _ _ S'
   cases q:(D x).vs.filter k with
   | nil=>rfl
   | cons a b=>unfold hid1 at hb; rw [q] at hb; cases hb
  ·exact h2 hg (fun q=>by unfold hid1 at hb; rw [q] at hb; cases hb) _ _ _ S'
 ·exact h1 fun q=>by rw [q] at hg; cases hg
end
end Mine
namespace Mine
section
variable {c:Cx} {P:Params} {n n':Nat} {H fx:AH} {da:Int→DA} {all vars:List Int} {D:Int→DS} {x v:Int} {K:KT} {iV iD iW iA iM iF:Nat} {g:List (Int × Int)} {vr dr ar:Addr} {cond kk b:Code} {k:Int→Int→Bool}
noncomputable def PassStep (c:Cx) (n:Nat) (fx:AH) (da:Int→DA) (all:List Int) (g:List (Int × Int)) (D:Int→DS) (k:Int→Int→Bool) (Sh:Loc→Prop) (x:Int) (xs:List V) (b:Code):Prop:=∀ ρ H' D' K',Sh ρ→St H' fx da all D'→D' x=D x→
 (gAt g x≠none→∀ ρ',Sh ρ'→K' .next [] ρ' H')→(gAt g x=none→(D x).vs.filter (k x)≠[]→∀ ρ' H',Sh ρ'→St H' fx da all (upd D' x (hid1 (D x) (k x)))→K' .next [] ρ' H')→
 (gAt g x=none→(D x).vs.filter (k x)=[]→∀ ρ' H',St H' fx da all (upd D' x (hid1 (D x) (k x)))→K' (.ret (.bool false)) [] ρ' H')→(gAt g x=none→(D x).vs.filter (k x)=[]→∀ ρ',K' (.ret (.bool false)) [] ρ' H')→w c n b xs ρ H' K'
theorem passGen {it:List (List V)} {src:AH→Prop} {args st:List V} {kd:Kd} {ρ:Loc} (Sh:Loc→Prop) (S:St H fx da all D) (A:Ask fx da all vars g D vr dr ar) (hρ:Sh ρ) (hit:IterV H kd args it src) (hl:it.length=vars.length) (hs:∀ H' D',St H' fx da all D'→src H')
  (step:∀ (i:Nat) xs x,it[i]?=some xs→vars[i]?=some x→PassStep c n fx da all g D k Sh x xs b)
  (h2:∀ ρ D' H',Sh ρ→Pass k g vars D true D'→St H' fx da all D'→w c n kk st ρ H' K) (h3:∀ ρ D' H',Pass k g vars D false D'→St H' fx da all D'→K (.ret (.bool false)) [] ρ H') :
  HeldW H fun H=>∃ it src Inv,LoopW H kd args it src Inv ρ (fun i xs ρ H=>w c n b xs ρ H (turn (Inv (i + 1)) (KT.thn (fun _ ρ H=>w c n kk st ρ H K) K))) fun ρ H=>w c n .done [] ρ H (KT.thn (fun _ ρ H=>w c n kk st ρ H K) K):=by
 refine .inl ⟨_,_,fun i ρ' H'=>Sh ρ'∧St H' fx da all (passed k g (vars.take i) D)∧∀ x∈vars.take i,gAt g x=none→(D x).vs.filter (k x)≠[],hit,⟨hρ,by rw [List.take_zero,passed_nil]; exact S,fun x h=>by rw [List.take_zero] at h; cases h⟩,fun i ρ' H' h=>hs _ _ h.2.1,fun i xs ρ' H' hi hI=>?_,fun ρ' H' hI=>?_⟩
 ·have hlt:=hl▸(List.getElem?_eq_some_iff.mp hi).1
  obtain ⟨x,ex⟩:∃ x,vars[i]?=some x:=⟨_,List.getElem?_eq_getElem hlt⟩
  have hx:=List.mem_of_getElem? ex
  have hnot:=not_mem_take A.nd ex
  have ts:=take_snoc ex
  refine step i xs x hi ex ρ' H' _ _ hI.1 hI.2.1 (passed_off fun q=>hnot q.1) (fun hg ρ2 h=>?_) (fun hg hne ρ2 H2 h S2=>?_) (fun hg he ρ2 H2 S2=>h3 _ _ _ ⟨i + 1,?_,fun q=>(nomatch q),fun _=>⟨x,hx,hg,he⟩⟩ S2) fun hg he ρ2=>h3 _ _ _ ⟨i,rfl,fun q=>(nomatch q),fun _=>⟨x,hx,hg,he⟩⟩ hI.2.1
  ·refine ⟨_,Sub.refl _,h,?_,fun z hz hgz=>?_⟩
   ·rw [ts,passed_some hg]; exact hI.2.1
   ·rw [ts] at hz
    exact (List.mem_append.mp hz).elim (fun h=>hI.2.2 z h hgz) fun h=>absurd (List.mem_singleton.mp h▸hgz) hg
  ·refine ⟨_,Sub.refl _,h,?_,fun z hz hgz=>?_⟩
   ·rw [ts,passed_none hg hnot,passed_off fun q=>hnot q.1]; exact S2
   ·rw [ts] at hz
    exact (List.mem_append.mp hz).elim (fun h=>hI.2.2 z h hgz) fun h=>by rw [List.mem_singleton.mp h]; exact hne
  ·rw [ts,passed_none hg hnot,passed_off fun q=>hnot q.1]
 ·rw [hl,List.take_length] at hI
  exact h2 ρ' _ H' hI.1 ⟨vars.length,by rw [List.take_length],fun _=>⟨rfl,hI.2.2⟩,fun q=>(nomatch q)⟩ hI.2.1
noncomputable def PassC (c:Cx) (n:Nat) (fx:AH) (da:Int→DA) (all:List Int) (g:List (Int × Int)) (D:Int→DS) (k:Int→Int→Bool) (iD iW:Nat) (cond:Code) (x:Int) (L:Option V→Option V→Loc):Prop:=∀ v H' D' K',v∈(D x).vs→gAt g x=none→St H' fx da all D'→
 (k x v=false→∀ K'':KT,(∀ st ρ H,K' .next st ρ H→K'' .next st ρ H)→w c n (hideC iD iW) [] (L (some (.ref (da x .a))) (some (.int v))) H' K'')→(k x v=true→K' .next [] (L (some (.ref (da x .a))) (some (.int v))) H')→w c n cond [] (L (some (.ref (da x .a))) (some (.int v))) H' K'
structure PL3 (L:Option V→Option V→Option V→Loc) (iV iD iW iA iM:Nat) (ar dr:Addr):Prop where
 pl:∀ x,PL (L x) iD iW iA iM ar dr
 eV:∀ x d w,(L x d w).at iV=x
 sV:∀ x d w u,(L x d w).set iV u=L u d w
theorem passLoop {st:List V} {x0 d0 w0:Option V} (L:Option V→Option V→Option V→Loc) (X:PL3 L iV iD iW iA iM ar dr) (T:TopK c P) (S:St H fx da all D) (A:Ask fx da all vars g D vr dr ar)
  (hc:∀ x∈vars,PassC c (n + 1) fx da all g D k iD iW cond x (L (some (.int x))))
  (h2:∀ x d w D' H',Pass k g vars D true D'→St H' fx da all D'→Mine.w c (n + 1) kk st (L x d w) H' K) (h3:∀ ρ D' H',Pass k g vars D false D'→St H' fx da all D'→K (.ret (.bool false)) [] ρ H') :
  w c (n + 1) (.loop .seq 1 (.st iV<|passB iV iD iW iA iM cond) .done kk) (.ref vr::st) (L x0 d0 w0) H K:=by
 refine passGen (k:=k) (fun ρ=>∃ x d w,ρ=L x d w) S A ⟨_,_,_,rfl⟩ (.list (S.sub _ _ A.lv)) (by rw [List.length_map,List.length_map]) (fun H' D' S'=>S'.sub _ _ A.lv) (fun i xs x hi ex=>?_) (fun ρ D' H' h Ps S'=>by obtain ⟨x,d,w,rfl⟩:=h; exact h2 _ _ _ _ _ Ps S') h3
 rw [List.getElem?_map,List.getElem?_map,ex] at hi
 cases hi
 intro ρ H' D' K' h S' eD k1 k2 k3 _
 obtain ⟨y,d,w1,rfl⟩:=h
 have hx:=List.mem_of_getElem? ex
 show w c (n + 1) (passB iV iD iW iA iM cond) [] ((L y d w1).set iV (some (.int x))) H' K'
 rw [X.sV]
 refine passBody (k:=k x) (L:=L (some (.int x))) T S' A (A.sub x hx) (eD▸A.ok x (A.sub x hx)) (X.pl _) (fun _ _=>X.eV _ _ _) (by rw [eD]; exact hc x hx) (fun hg=>k1 hg _ ⟨_,_,_,rfl⟩) (fun hg hne d w H2 S2=>k2 hg (eD▸hne) _ _ ⟨_,_,_,rfl⟩ (eD▸S2)) fun hg he ρ H2 S2=>k3 hg (eD▸he) _ _ (eD▸S2)
structure PL4 (L:Option V→Option V→Option V→Option V→Loc) (iV iF iD iW iA iM:Nat) (ar dr:Addr):Prop where
 p3:∀ f,PL3 (fun x=>L x f) iV iD iW iA iM ar dr
 sF:∀ x f d w u,(L x f d w).set iF u=L x u d w
theorem passLoopZ {fs:List Int} {mr:Addr} {st:List V} {x0 f0 d0 w0:Option V} (L:Option V→Option V→Option V→Option V→Loc) (X:PL4 L iV iF iD iW iA iM ar dr) (T:TopK c P) (S:St H fx da all D) (A:Ask fx da all vars g D vr dr ar) (em:fx mr=some (.list (iL fs))) (hlen:fs.length=vars.length)
  (hc:∀ (i:Nat) x f,vars[i]?=some x→fs[i]?=some f→PassC c (n + 1) fx da all g D k iD iW cond x (L (some (.int x)) (some (.int f))))
  (h2:∀ x f d w D' H',Pass k g vars D true D'→St H' fx da all D'→Mine.w c (n + 1) kk st (L x f d w) H' K) (h3:∀ ρ D' H',Pass k g vars D false D'→St H' fx da all D'→K (.ret (.bool false)) [] ρ H') :
  w c (n + 1) (.loop .zip 2 (.st iV<|.st iF<|passB iV iD iW iA iM cond) .done kk) (.ref mr::.ref vr::st) (L x0 f0 d0 w0) H K:=by
 refine passGen (k:=k) (fun ρ=>∃ x f d w,ρ=L x f d w) S A ⟨_,_,_,_,rfl⟩ (.zip (S.sub _ _ A.lv) (S.sub _ _ em)) (by rw [List.length_zipWith,List.length_map,List.length_map,hlen,Nat.min_self]) (fun H' D' S'=>⟨S'.sub _ _ A.lv,S'.sub _ _ em⟩) (fun i xs x hi ex=>?_) (fun ρ D' H' h Ps S'=>by obtain ⟨x,f,d,w,rfl⟩:=h; exact h2 _ _ _ _ _ _ Ps S') h3
 have hf:∃ f,fs[i]?=some f:=⟨_,List.getElem?_eq_getElem (hlen▸(List.getElem?_eq_some_iff.mp ex).1)⟩
 obtain ⟨f,ef⟩:=hf
 rw [List.getElem?_zipWith,List.getElem?_map,List.getElem?_map,ex,ef] at hi
 cases hi
 intro ρ H' D' K' h S' eD k1 k2 k3 _
 obtain ⟨y,f1,d,w1,rfl⟩:=h
 have hx:=List.mem_of_getElem? ex
 show w c (n + 1) (passB iV iD iW iA iM cond) [] (((L y f1 d w1).set iV (some (.int x))).set iF (some (.int f))) H' K'
 rw [(X.p3 f1).sV,X.sF]
 refine passBody (k:=k x) (L:=L (some (.int x)) (some (.int f))) T S' A (A.sub x hx) (eD▸A.ok x (A.sub x hx)) ((X.p3 _).pl _) (fun _ _=>(X.p3 _).eV _ _ _) (by rw [eD]; exact hc i x f ex ef) (fun hg=>k1 hg _ ⟨_,_,_,_,rfl⟩) (fun hg hne d w H2 S2=>k2 hg (eD▸hne) _ _ ⟨_,_,_,_,rfl⟩ (eD▸S2)) fun hg he ρ H2 S2=>k3 hg (eD▸he) _ _ (eD▸S2)
end
end Mine
namespace Mine
theorem abs_le {x:Int} {k:Nat} (h:-(k:Int)≤x∧x≤k):x.natAbs≤k:=by
 rcases Int.natAbs_eq x with e | e
 ·exact Int.ofNat_le.mp (e▸h.2)
 ·exact Int.ofNat_le.mp (Int.neg_le_neg_iff.mp (e▸h.1))
theorem bits_le {x:Int} (h:-1000000≤x∧x≤1000000):Builtin.Int.intBits x≤64:=by
 unfold Builtin.Int.intBits
 split
 ·exact Nat.zero_le _
 ·rename_i q
  have h0:x.natAbs≠0:=fun w=>q (beq_iff_eq.mpr (Int.natAbs_eq_zero.mp w))
  exact Nat.succ_le_of_lt ((Nat.log2_lt h0).mpr (Nat.lt_of_le_of_lt (abs_le (k:=1000000) h) (by decide)))
noncomputable def facs (vars:List Int):Option (List Int)→List (Int × Int)
 | none=>vars.map fun x=>(x,1)
 | some fs=>vars.zip fs
noncomputable def gOr (g:List (Int × Int)) (q:Int × Int):Int:=match gAt g q.1 with
 | some v=>v * q.2
 | none=>0
noncomputable def asum (g:List (Int × Int)) (L:List (Int × Int)):Int:=(L.map (gOr g)).sum
theorem asum_snoc {g:List (Int × Int)} {L:List (Int × Int)} {i:Nat} {q:Int × Int} (e:L[i]?=some q):asum g (L.take (i + 1))=asum g (L.take i) + gOr g q:=by
 unfold asum
 rw [take_snoc e,List.map_append,List.sum_append,List.map_cons,List.map_nil,List.sum_cons,List.sum_nil,Int.add_zero]
noncomputable def miss (g:List (Int × Int)) (L:List Int):Bool:=L.any fun x=>(gAt g x).isNone
theorem miss_snoc {g:List (Int × Int)} {L:List Int} {i:Nat} {x:Int} (e:L[i]?=some x):miss g (L.take (i + 1))=(miss g (L.take i) || (gAt g x).isNone):=by
 unfold miss
 rw [take_snoc e,List.any_append,List.any_cons,List.any_nil,Bool.or_false]
noncomputable def FacIs (fx:AH) (vars:List Int) (mv:V):Option (List Int)→Prop
 | none=>mv=.none
 | some fs=>∃ mr,mv=.ref mr∧fx mr=some (.list (iL fs))∧fs.length=vars.length∧fs≠[]∧∀ f∈fs,-1000000≤f∧f≤1000000
theorem FacIs.in {fx:AH} {vars:List Int} {mv:V} {fo:Option (List Int)} (h:FacIs fx vars mv fo):mv.in:=by
 cases fo with
 | none=>have h:mv=.none:=h; rw [h]; trivial
 | some fs=>exact h.elim fun mr q=>by rw [q.1]; trivial
noncomputable def fAtI (L:List (Int × Int)) (x:Int):Int:=((L.find? fun q=>q.1=x).map (·.2)).getD 0
theorem fAtI_zip {vars:List Int} {x f:Int}:∀ {fs:List Int} {i:Nat},vars.Nodup→vars[i]?=some x→fs[i]?=some f→fAtI (vars.zip fs) x=f:=by
 induction vars with
 | nil=>intro fs i _ h1; cases h1
 | cons y vars ih=>
  intro fs i nd h1 h2
  cases fs with
  | nil=>cases h2
  | cons e fs=>
   unfold fAtI
   rw [List.zip_cons_cons]
   cases i with
   | zero=>
    cases h1; cases h2
    rw [List.find?_cons_of_pos (p:=fun q:Int × Int=>decide (q.1=x)) (decide_eq_true rfl)]; rfl
   | succ i=>
    have hne:y≠x:=fun r=>(List.nodup_cons.mp nd).1 (r▸List.mem_of_getElem? (l:=vars) h1)
    rw [List.find?_cons_of_neg (p:=fun q:Int × Int=>decide (q.1=x)) fun q=>hne (of_decide_eq_true q)]
    exact ih (List.nodup_cons.mp nd).2 h1 h2
theorem Ins.sub {H H':AH} {a C d:Addr} {fs:List (Str × V)} (I:Ins H a C d fs) (h:Sub H H'):Ins H' a C d fs:=⟨I.o.imp (h _ _) fun q=>⟨q.1,q.2.imp fun vs q=>h _ _ q⟩,h _ _ I.n⟩
section
variable {c:Cx} {P:Params} {n:Nat} {H fx:AH} {Q:V→AH→Prop}
theorem BinT.mulR {x y:Int} (h:-1000000≤y∧y≤1000000) (hq:Q (.int (x * y)) H):BinT c n .Mult (.int x) (.int y) H Q:=.ints fun t u A Z s hr R=>mul_int ⟨H,R.toks,hq⟩ (IntMulOk.of_right (bits_le h))
end
end Mine
namespace Mine
theorem ok244:ClsOk (K P) 244:=⟨by kernel_rfl,by kernel_rfl,by kernel_rfl,by kernel_rfl,fun _=>by kernel_rfl⟩
theorem it_iL {vars:List Int} {i:Nat} {xs:List V} (h:((iL vars).map ([·]))[i]?=some xs):∃ x,vars[i]?=some x∧xs=[.int x]:=by
 rw [List.getElem?_map,List.getElem?_map,Option.map_map] at h
 exact (Option.map_eq_some_iff.mp h).imp fun x q=>⟨q.1,q.2.symm⟩
theorem it_zip {vars fs:List Int} {i:Nat} {xs:List V} (h:(List.zipWith (fun v u=>[v,u]) (iL vars) (iL fs))[i]?=some xs):∃ x f,vars[i]?=some x∧fs[i]?=some f∧xs=[.int x,.int f]:=by
 rw [List.getElem?_zipWith] at h
 cases e1:vars[i]? with
 | none=>rw [List.getElem?_map,e1] at h; cases h
 | some x=>
  cases e2:fs[i]? with
  | none=>rw [List.getElem?_map,List.getElem?_map,e1,e2] at h; cases h
  | some f=>rw [List.getElem?_map,List.getElem?_map,e1,e2] at h; cases h; exact ⟨x,f,rfl,rfl,rfl⟩
theorem it_len {vars:List Int}:((iL vars).map fun v=>[v]).length=vars.length:=by rw [List.length_map,List.length_map]
theorem zip_len {vars fs:List Int} (h:fs.length=vars.length):(List.zipWith (fun v u=>[v,u]) (iL vars) (iL fs)).length=(vars.zip fs).length:=by rw [List.length_zipWith,List.length_map,List.length_map,List.length_zip]
theorem gOr_some {g:List (Int × Int)} {q:Int × Int} {v:Int} (h:gAt g q.1=some v):gOr g q=v * q.2:=by unfold gOr; rw [h]
theorem gOr_none {g:List (Int × Int)} {q:Int × Int} (h:gAt g q.1=none):gOr g q=0:=by unfold gOr; rw [h]
section
variable {c:Cx} {P:Params} {n:Nat} {H fx:AH} {Q:V→AH→Prop} {da:Int→DA} {all vars:List Int} {D:Int→DS} {g:List (Int × Int)} {vr dr ar self d:Addr} {bound:Int} {fo:Option (List Int)} {mv:V} {fc:Bool}
theorem call_max (T:TopK c P) (S:St H fx da all D) (A:Ask fx da all vars g D vr dr ar) (I:Ins fx self 244 d [("_maxsum",.int bound),("_multipliers",mv)]) (hm:FacIs fx vars mv fo) {F:List (Int × Int)} (hF:facs vars fo=F)
  (h0:bound < asum g F→∀ H',St H' fx da all D→Q (.bool false) H') (h1:asum g F≤bound→fc=false→∀ H',St H' fx da all D→Q (.bool true) H')
  (h2:asum g F≤bound→fc=true→∀ k,(∀ (i:Nat) x f v,vars[i]?=some x→F[i]?=some (x,f)→k x v=decide (asum g F + v * f≤bound))→∀ b D' H',Pass k g vars D b D'→St H' fx da all D'→Q (.bool b) H') :
  w c (n + 1) c241 [] (b5 self vr dr ar (.bool fc) [none,none,none,none,none,none,none,none]) H (endK Q):=by
 refine AttrT.own (T.cls ok244) (by decide) (I.sub S.sub) (T.fi (by kernel_rfl)) rfl hm.in (AttrT.own (v:=.int bound) (T.cls ok244) (by decide) (I.sub S.sub) (T.fi (by kernel_rfl)) rfl trivial ?_)
 clear I
 cases fo with
 | none=>
  obtain rfl:mv=.none:=hm
  refine w_loopP (fun i u=>(b5 self vr dr ar (.bool fc) [some .none,some (.int bound),some (.int (asum g ((facs vars none).take i))),u,none,none,none,none])) none (.list (S.sub _ _ A.lv)) (S.sub _ _ A.lv) (fun i xs u K' hi hn _=>?_) fun u=>?_
  ·obtain ⟨x,ex,rfl⟩:=it_iL hi
   have hn:=hn [] (some (.int x))
   rw [asum_snoc (g:=g) (L:=facs vars none) (q:=(x,1)) (by show (vars.map _)[i]?=_; rw [List.getElem?_map,ex]; rfl)] at hn
   exact CmpT.inA (S.sub _ _ A.la) (fun hg=>by rw [gOr_none hg,Int.add_zero] at hn; exact hn) fun v hg e=>ItemT.dict (S.sub _ _ A.la) e (by rw [gOr_some hg,Int.mul_one] at hn; exact hn)
  ·rw [it_len,show (facs vars none).take vars.length=facs vars none from List.take_of_length_le (Nat.le_of_eq (List.length_map ..)),hF]
   refine ite_go (fun hb=>⟨_,Sub.refl _,h0 (of_decide_eq_true hb) _ S⟩) fun hb=>?_
   have hb':=Int.not_lt.mp (of_decide_eq_false hb)
   refine ite_go (fun hf=>?_) fun hf=>⟨_,Sub.refl _,h1 hb' hf _ S⟩
   have fin:=h2 hb' hf (fun x v=>decide (asum g F + v≤bound)) fun i x f v ex ef=>by
    have:f=1:=by rw [← hF,show facs vars none=vars.map fun x=>(x,1) from rfl,List.getElem?_map,ex] at ef; cases ef; rfl
    rw [this,Int.mul_one]
   refine passLoop (fun x d w=>(b5 self vr dr ar (.bool fc) [some .none,some (.int bound),some (.int (asum g F)),x,none,d,w,none])) ⟨fun _=>⟨fun _ _=>rfl,fun _ _=>rfl,fun _ _ _=>rfl,fun _ _ _=>rfl,fun _ _=>rfl,fun _ _=>rfl⟩,fun _ _ _=>rfl,fun _ _ _ _=>rfl⟩ T S A (fun x hx v H' D' K' hv hg S' k1 k2=>?_) (fun x d w D' H' Ps S'=>⟨_,Sub.refl _,fin _ _ _ Ps S'⟩) fun ρ D' H' Ps S'=>⟨_,Sub.refl _,fin _ _ _ Ps S'⟩
   exact ite_go (fun hb=>k1 (decide_eq_false (Int.not_le.mpr (of_decide_eq_true hb))) _ fun _ _ _ q=>q) fun hb=>k2 (decide_eq_true (Int.not_lt.mp (of_decide_eq_false hb)))
 | some fs=>
  obtain ⟨mr,rfl,em,hlen,hne,hfb⟩:=hm
  refine TruthT.list (S.sub _ _ em) (ite_go (fun _=>?_) fun h=>(by cases fs with | nil=>exact absurd rfl hne | cons _ _=>cases h))
  refine w_loopP (fun i (u:Option V × Option V)=>(b5 self vr dr ar (.bool fc) [some (.ref mr),some (.int bound),some (.int (asum g ((facs vars (some fs)).take i))),u.1,u.2,none,none,none])) (none,none) (.zip (S.sub _ _ A.lv) (S.sub _ _ em)) ⟨S.sub _ _ A.lv,S.sub _ _ em⟩ (fun i xs u K' hi hn _=>?_) fun u=>?_
  ·obtain ⟨x,f,ex,ef,rfl⟩:=it_zip hi
   have hn:=hn [] (some (.int x),some (.int f))
   rw [asum_snoc (g:=g) (L:=facs vars (some fs)) (q:=(x,f)) (List.getElem?_zip_eq_some.mpr ⟨ex,ef⟩)] at hn
   exact CmpT.inA (S.sub _ _ A.la) (fun hg=>by rw [gOr_none hg,Int.add_zero] at hn; exact hn) fun v hg e=>ItemT.dict (S.sub _ _ A.la) e (BinT.mulR (hfb f (List.mem_of_getElem? ef)) (by rw [gOr_some hg] at hn; exact hn))
  ·rw [zip_len hlen,show (facs vars (some fs)).take (vars.zip fs).length=facs vars (some fs) from List.take_length,hF]
   refine ite_go (fun hb=>⟨_,Sub.refl _,h0 (of_decide_eq_true hb) _ S⟩) fun hb=>?_
   have hb':=Int.not_lt.mp (of_decide_eq_false hb)
   refine ite_go (fun hf=>?_) fun hf=>⟨_,Sub.refl _,h1 hb' hf _ S⟩
   have fin:=h2 hb' hf (fun x v=>decide (asum g F + v * fAtI (vars.zip fs) x≤bound)) fun i x f v ex ef=>by
    have q:=List.getElem?_zip_eq_some.mp (show (vars.zip fs)[i]?=some (x,f) by rw [← hF] at ef; exact ef)
    rw [fAtI_zip A.nd ex q.2]
   refine passLoopZ (fun x f d w=>(b5 self vr dr ar (.bool fc) [some (.ref mr),some (.int bound),some (.int (asum g F)),x,f,d,w,none])) ⟨fun _=>⟨fun _=>⟨fun _ _=>rfl,fun _ _=>rfl,fun _ _ _=>rfl,fun _ _ _=>rfl,fun _ _=>rfl,fun _ _=>rfl⟩,fun _ _ _=>rfl,fun _ _ _ _=>rfl⟩,fun _ _ _ _ _=>rfl⟩ T S A em hlen (fun i x f ex ef v H' D' K' hv hg S' k1 k2=>BinT.mulR (hfb f (List.mem_of_getElem? ef)) ?_) (fun x f d w D' H' Ps S'=>⟨_,Sub.refl _,fin _ _ _ Ps S'⟩) fun ρ D' H' Ps S'=>⟨_,Sub.refl _,fin _ _ _ Ps S'⟩
   rw [fAtI_zip A.nd ex ef] at k1 k2
   exact ite_go (fun hb=>k1 (decide_eq_false (Int.not_le.mpr (of_decide_eq_true hb))) _ fun _ _ _ q=>q) fun hb=>k2 (decide_eq_true (Int.not_lt.mp (of_decide_eq_false hb)))
end
end Mine
namespace Mine
theorem ok279:ClsOk (K P) 279:=⟨by kernel_rfl,by kernel_rfl,by kernel_rfl,by kernel_rfl,fun _=>by kernel_rfl⟩
theorem ok307:ClsOk (K P) 307:=⟨by kernel_rfl,by kernel_rfl,by kernel_rfl,by kernel_rfl,fun _=>by kernel_rfl⟩
section
variable {c:Cx} {P:Params} {n:Nat} {H fx:AH} {Q:V→AH→Prop} {da:Int→DA} {all vars:List Int} {D:Int→DS} {g:List (Int × Int)} {vr dr ar self d:Addr} {bound:Int} {fo:Option (List Int)} {mv:V} {fc:Bool}
theorem call_exact (T:TopK c P) (S:St H fx da all D) (A:Ask fx da all vars g D vr dr ar) (I:Ins fx self 279 d [("_exactsum",.int bound),("_multipliers",mv)]) (hm:FacIs fx vars mv fo) {F:List (Int × Int)} (hF:facs vars fo=F)
  (h0:bound < asum g F→∀ H',St H' fx da all D→Q (.bool false) H')
  (h1:asum g F≤bound→fc=false∨miss g vars=false→∀ H',St H' fx da all D→Q (.bool (if miss g vars=true then true else decide (asum g F=bound))) H')
  (h2:asum g F≤bound→fc=true→miss g vars=true→∀ k,(∀ (i:Nat) x f v,vars[i]?=some x→F[i]?=some (x,f)→k x v=decide (asum g F + v * f≤bound))→∀ b D' H',Pass k g vars D b D'→St H' fx da all D'→Q (.bool b) H') :
  w c (n + 1) c276 [] (b5 self vr dr ar (.bool fc) [none,none,none,none,none,none,none,none,none]) H (endK Q):=by
 refine AttrT.own (T.cls ok279) (by decide) (I.sub S.sub) (T.fi (by kernel_rfl)) rfl hm.in (AttrT.own (v:=.int bound) (T.cls ok279) (by decide) (I.sub S.sub) (T.fi (by kernel_rfl)) rfl trivial ?_)
 clear I
 have last:asum g F≤bound→fc=false∨miss g vars=false→∀ mv a b,w c (n + 1) (.ld 8<|.tru<|.ite (.ld 7<|.ld 6<|.cmp .LtE<|.ret) (.ld 7<|.ld 6<|.cmp .Eq<|.ret)<|.done) [] (b5 self vr dr ar (.bool fc) [some mv,some (.int bound),some (.int (asum g F)),some (.bool (miss g vars)),a,b,none,none,none]) H (endK Q):=fun hb hf mv a b=>
  have:=h1 hb hf H S
  ite_go (fun q=>⟨_,Sub.refl _,by rw [if_pos q] at this; rw [show V.bool true=.bool (decide (asum g F≤bound)) by rw [decide_eq_true hb]] at this; exact this⟩) fun q=>⟨_,Sub.refl _,by rw [q,if_neg Bool.false_ne_true] at this; exact this⟩
 have fin2:miss g vars=true→asum g F≤bound→∀ mv a b d e H',Q (.bool true) H'→w c (n + 1) (.ld 8<|.tru<|.ite (.ld 7<|.ld 6<|.cmp .LtE<|.ret) (.ld 7<|.ld 6<|.cmp .Eq<|.ret)<|.done) [] (b5 self vr dr ar (.bool fc) [some mv,some (.int bound),some (.int (asum g F)),some (.bool (miss g vars)),a,b,d,e,none]) H' (endK Q):=fun hm hb mv a b d e H' q=>
  ite_go (fun _=>⟨_,Sub.refl _,by rw [show V.bool true=.bool (decide (asum g F≤bound)) by rw [decide_eq_true hb]] at q; exact q⟩) fun w=>by rw [hm] at w; cases w
 cases fo with
 | none=>
  obtain rfl:mv=.none:=hm
  refine w_loopP (fun i u=>(b5 self vr dr ar (.bool fc) [some .none,some (.int bound),some (.int (asum g ((facs vars none).take i))),some (.bool (miss g (vars.take i))),u,none,none,none,none])) none (.list (S.sub _ _ A.lv)) (S.sub _ _ A.lv) (fun i xs u K' hi hn _=>?_) fun u=>?_
  ·obtain ⟨x,ex,rfl⟩:=it_iL hi
   have hn:=hn [] (some (.int x))
   rw [asum_snoc (g:=g) (L:=facs vars none) (q:=(x,1)) (by show (vars.map _)[i]?=_; rw [List.getElem?_map,ex]; rfl),miss_snoc (g:=g) ex] at hn
   exact CmpT.inA (S.sub _ _ A.la) (fun hg=>by rw [hg,gOr_none hg,Int.add_zero,Option.isNone_none,Bool.or_true] at hn; exact hn) fun v hg e=>ItemT.dict (S.sub _ _ A.la) e (by rw [hg,gOr_some hg,Int.mul_one,Option.isNone_some,Bool.or_false] at hn; exact hn)
  ·rw [it_len,show (facs vars none).take vars.length=facs vars none from List.take_of_length_le (Nat.le_of_eq (List.length_map ..)),List.take_length,hF]
   refine ite_go (fun hb=>⟨_,Sub.refl _,h0 (of_decide_eq_true hb) _ S⟩) fun hb=>?_
   have hb':=Int.not_lt.mp (of_decide_eq_false hb)
   cases fc with
   | false=>exact last hb' (.inl rfl) _ _ _
   | true=>
    refine ite_go (fun hf=>?_) fun hf=>last hb' (.inr hf) _ _ _
    have fin:=h2 hb' rfl hf (fun x v=>decide (asum g F + v≤bound)) fun i x f v ex ef=>by
     have:f=1:=by rw [← hF,show facs vars none=vars.map fun x=>(x,1) from rfl,List.getElem?_map,ex] at ef; cases ef; rfl
     rw [this,Int.mul_one]
    refine passLoop (fun x d w=>(b5 self vr dr ar (.bool true) [some .none,some (.int bound),some (.int (asum g F)),some (.bool (miss g vars)),x,none,d,w,none])) ⟨fun _=>⟨fun _ _=>rfl,fun _ _=>rfl,fun _ _ _=>rfl,fun _ _ _=>rfl,fun _ _=>rfl,fun _ _=>rfl⟩,fun _ _ _=>rfl,fun _ _ _ _=>rfl⟩ T S A (fun x hx v H' D' K' hv hg S' k1 k2=>?_) (fun x d w D' H' Ps S'=>fin2 hf hb' _ _ _ _ _ _ (fin _ _ _ Ps S')) fun ρ D' H' Ps S'=>⟨_,Sub.refl _,fin _ _ _ Ps S'⟩
    exact ite_go (fun hb=>k1 (decide_eq_false (Int.not_le.mpr (of_decide_eq_true hb))) _ fun _ _ _ q=>q) fun hb=>k2 (decide_eq_true (Int.not_lt.mp (of_decide_eq_false hb)))
 | some fs=>
  obtain ⟨mr,rfl,em,hlen,hne,hfb⟩:=hm
  refine TruthT.list (S.sub _ _ em) (ite_go (fun _=>?_) fun h=>(by cases fs with | nil=>exact absurd rfl hne | cons _ _=>cases h))
  refine w_loopP (fun i (u:Option V × Option V)=>(b5 self vr dr ar (.bool fc) [some (.ref mr),some (.int bound),some (.int (asum g ((facs vars (some fs)).take i))),some (.bool (miss g (vars.take i))),u.1,u.2,none,none,none])) (none,none) (.zip (S.sub _ _ A.lv) (S.sub _ _ em)) ⟨S.sub _ _ A.lv,S.sub _ _ em⟩ (fun i xs u K' hi hn _=>?_) fun u=>?_
  ·obtain ⟨x,f,ex,ef,rfl⟩:=it_zip hi
   have hn:=hn [] (some (.int x),some (.int f))
   rw [asum_snoc (g:=g) (L:=facs vars (some fs)) (q:=(x,f)) (List.getElem?_zip_eq_some.mpr ⟨ex,ef⟩),miss_snoc (g:=g) ex] at hn
   exact CmpT.inA (S.sub _ _ A.la) (fun hg=>by rw [hg,gOr_none hg,Int.add_zero,Option.isNone_none,Bool.or_true] at hn; exact hn) fun v hg e=>ItemT.dict (S.sub _ _ A.la) e (BinT.mulR (hfb f (List.mem_of_getElem? ef)) (by rw [hg,gOr_some hg,Option.isNone_some,Bool.or_false] at hn; exact hn))
  ·have hz:(vars.zip fs).length=vars.length:=by rw [List.length_zip,hlen,Nat.min_self]
   rw [zip_len hlen,show (facs vars (some fs)).take (vars.zip fs).length=facs vars (some fs) from List.take_length,hz,List.take_length,hF]
   refine ite_go (fun hb=>⟨_,Sub.refl _,h0 (of_decide_eq_true hb) _ S⟩) fun hb=>?_
   have hb':=Int.not_lt.mp (of_decide_eq_false hb)
   cases fc with
   | false=>exact last hb' (.inl rfl) _ _ _
   | true=>
    refine ite_go (fun hf=>?_) fun hf=>last hb' (.inr hf) _ _ _
    have fin:=h2 hb' rfl hf (fun x v=>decide (asum g F + v * fAtI (vars.zip fs) x≤bound)) fun i x f v ex ef=>by
     have q:=List.getElem?_zip_eq_some.mp (show (vars.zip fs)[i]?=some (x,f) by rw [← hF] at ef; exact ef)
     rw [fAtI_zip A.nd ex q.2]
    refine passLoopZ (fun x f d w=>(b5 self vr dr ar (.bool true) [some (.ref mr),some (.int bound),some (.int (asum g F)),some (.bool (miss g vars)),x,f,d,w,none])) ⟨fun _=>⟨fun _=>⟨fun _ _=>rfl,fun _ _=>rfl,fun _ _ _=>rfl,fun _ _ _=>rfl,fun _ _=>rfl,fun _ _=>rfl⟩,fun _ _ _=>rfl,fun _ _ _ _=>rfl⟩,fun _ _ _ _ _=>rfl⟩ T S A em hlen (fun i x f ex ef v H' D' K' hv hg S' k1 k2=>BinT.mulR (hfb f (List.mem_of_getElem? ef)) ?_) (fun x f d w D' H' Ps S'=>fin2 hf hb' _ _ _ _ _ _ (fin _ _ _ Ps S')) fun ρ D' H' Ps S'=>⟨_,Sub.refl _,fin _ _ _ Ps S'⟩
    rw [fAtI_zip A.nd ex ef] at k1 k2
    exact ite_go (fun hb=>k1 (decide_eq_false (Int.not_le.mpr (of_decide_eq_true hb))) _ fun _ _ _ q=>q) fun hb=>k2 (decide_eq_true (Int.not_lt.mp (of_decide_eq_false hb)))
theorem call_min (T:TopK c P) (S:St H fx da all D) (A:Ask fx da all vars g D vr dr ar) (I:Ins fx self 307 d [("_minsum",.int bound),("_multipliers",mv)]) (hm:FacIs fx vars mv fo) {F:List (Int × Int)} (hF:facs vars fo=F)
  (h0:Q (.bool (if miss g vars=true then true else decide (bound≤asum g F))) H) :
  w c (n + 1) c304 [] (b5 self vr dr ar (.bool fc) [none,none,none,none,none,none]) H (endK Q):=by
 refine w_loopE (fun u=>(b5 self vr dr ar (.bool fc) [u,none,none,none,none,none])) (fun i _ H'=>H'=H∧miss g (vars.take i)=false) none (.list (S.sub _ _ A.lv)) ⟨rfl,rfl⟩ (fun i _ H' h=>h.1▸S.sub _ _ A.lv) (fun i xs u H' K' hi hI hn hr=>?_) fun u H' hI=>?_
 ·obtain ⟨rfl,hms⟩:=hI
  obtain ⟨x,ex,rfl⟩:=it_iL hi
  refine CmpT.notInA (S.sub _ _ A.la) (fun hg=>hr _ _ _ _ ⟨_,Sub.refl _,?_⟩) fun v hg _=>hn _ (some (.int x)) _ ⟨rfl,by rw [miss_snoc (g:=g) ex,hms,hg]; rfl⟩
  rw [show miss g vars=true from List.any_eq_true.mpr ⟨x,List.mem_of_getElem? ex,by rw [hg]; rfl⟩] at h0
  exact h0
 obtain ⟨rfl,hms⟩:=hI
 rw [it_len,List.take_length] at hms
 rw [if_neg (by rw [hms]; decide)] at h0
 have all:∀ (i:Nat) x,vars[i]?=some x→∃ v,gAt g x=some v:=fun i x ex=>by
  cases hg:gAt g x with
  | some v=>exact ⟨v,rfl⟩
  | none=>have:miss g vars=true:=List.any_eq_true.mpr ⟨x,List.mem_of_getElem? ex,by rw [hg]; rfl⟩; rw [hms] at this; cases this
 refine AttrT.own (T.cls ok307) (by decide) (I.sub S.sub) (T.fi (by kernel_rfl)) rfl hm.in (AttrT.own (v:=.int bound) (T.cls ok307) (by decide) (I.sub S.sub) (T.fi (by kernel_rfl)) rfl trivial ?_)
 clear I
 cases fo with
 | none=>
  obtain rfl:mv=.none:=hm
  refine w_loopP (fun i u=>(b5 self vr dr ar (.bool fc) [u,some .none,some (.int bound),some (.int (asum g ((facs vars none).take i))),none,none])) u (.list (S.sub _ _ A.lv)) (S.sub _ _ A.lv) (fun i xs u K' hi hn _=>?_) fun u=>?_
  ·obtain ⟨x,ex,rfl⟩:=it_iL hi
   have hn:=hn [] (some (.int x))
   obtain ⟨v,hg⟩:=all i x ex
   rw [asum_snoc (g:=g) (L:=facs vars none) (q:=(x,1)) (by show (vars.map _)[i]?=_; rw [List.getElem?_map,ex]; rfl),gOr_some hg,Int.mul_one] at hn
   exact ItemT.dict (v:=.int v) (S.sub _ _ A.la) (by rw [vAt_gI,hg]; rfl) hn
  ·rw [it_len,show (facs vars none).take vars.length=facs vars none from List.take_of_length_le (Nat.le_of_eq (List.length_map ..)),hF]
   exact ⟨_,Sub.refl _,h0⟩
 | some fs=>
  obtain ⟨mr,rfl,em,hlen,hne,hfb⟩:=hm
  refine TruthT.list (S.sub _ _ em) (ite_go (fun _=>?_) fun h=>(by cases fs with | nil=>exact absurd rfl hne | cons _ _=>cases h))
  refine w_loopP (fun i (q:Option V × Option V)=>(b5 self vr dr ar (.bool fc) [q.1,some (.ref mr),some (.int bound),some (.int (asum g ((facs vars (some fs)).take i))),q.2,none])) (u,none) (.zip (S.sub _ _ A.lv) (S.sub _ _ em)) ⟨S.sub _ _ A.lv,S.sub _ _ em⟩ (fun i xs u K' hi hn _=>?_) fun u=>?_
  ·obtain ⟨x,f,ex,ef,rfl⟩:=it_zip hi
   have hn:=hn [] (some (.int x),some (.int f))
   obtain ⟨v,hg⟩:=all i x ex
   rw [asum_snoc (g:=g) (L:=facs vars (some fs)) (q:=(x,f)) (List.getElem?_zip_eq_some.mpr ⟨ex,ef⟩),gOr_some hg] at hn
   exact ItemT.dict (v:=.int v) (S.sub _ _ A.la) (by rw [vAt_gI,hg]; rfl) (BinT.mulR (hfb f (List.mem_of_getElem? ef)) hn)
  ·rw [zip_len hlen,show (facs vars (some fs)).take (vars.zip fs).length=facs vars (some fs) from List.take_length,hF]
   exact ⟨_,Sub.refl _,h0⟩
end
end Mine
namespace Mine
theorem ok403:ClsOk (K P) 403:=⟨by kernel_rfl,by kernel_rfl,by kernel_rfl,by kernel_rfl,fun _=>by kernel_rfl⟩
theorem ok431:ClsOk (K P) 431:=⟨by kernel_rfl,by kernel_rfl,by kernel_rfl,by kernel_rfl,fun _=>by kernel_rfl⟩
noncomputable def okv (ms:List Int) (inv:Bool) (v:Int):Bool:=if inv=true then !decide (v∈ms) else decide (v∈ms)
noncomputable def cnt (g:List (Int × Int)) (ms:List Int) (inv:Bool) (L:List Int):Int:=(L.map fun x=>match gAt g x with | some v=>if okv ms inv v=true then (1:Int) else 0 | none=>0).sum
noncomputable def mis (g:List (Int × Int)) (L:List Int):Int:=(L.map fun x=>if (gAt g x).isNone=true then (1:Int) else 0).sum
theorem sum_snoc {α:Type} (f:α→Int) {L:List α} {i:Nat} {x:α} (e:L[i]?=some x):((L.take (i + 1)).map f).sum=((L.take i).map f).sum + f x:=by
 rw [take_snoc e,List.map_append,List.sum_append,List.map_cons,List.map_nil,List.sum_cons,List.sum_nil,Int.add_zero]
noncomputable def someOk (m f need:Int) (exact:Bool):Bool:=
 if m≠0 then (if exact=true then decide (f≤need) && decide (need≤m + f) else decide (need≤m + f)) else (if exact=true then decide (f=need) else decide (need≤f))
noncomputable abbrev opIn:Bool→CmpOp
 | true=>.NotIn
 | false=>.In
noncomputable def cSome (inv:Bool):Code:=.cst (.int 0)<|.st 5<|.cst (.int 0)<|.st 6<|.ld 1<|.loop .seq 1 (.st 7<|.ld 7<|.ld 3<|.cmp .In<|.tru<|.ite (.ld 6<|.ld 3<|.ld 7<|.sub<|.ld 0<|.attr "_set"<|.cmp (opIn inv)<|.inp .Add<|.st 6<|.done) (.ld 5<|.cst (.int 1)<|.inp .Add<|.st 5<|.done)<|.done) (.done)<|
 .ld 5<|.tru<|.ite (.ld 0<|.attr "_exact"<|.tru<|.ite (.ld 6<|.ld 0<|.attr "_n"<|.chn .LtE (.ld 5<|.ld 6<|.bin .Add<|.cmp .LtE<|.tru<|.done)<|.nt<|.ite (.cst (.bool false)<|.ret) (.done)<|.done) (.ld 0<|.attr "_n"<|.ld 5<|.ld 6<|.bin .Add<|.cmp .Gt<|.tru<|.ite (.cst (.bool false)<|.ret) (.done)<|.done)<|
  .ld 4<|.tru<|.brt true (.ld 0<|.attr "_n"<|.ld 6<|.bin .Sub<|.ld 5<|.cmp .Eq<|.tru<|.done)<|.ite (.ld 1<|.loop .seq 1 (.st 7<|passB 7 8 9 3 2 (.ld 9<|.ld 0<|.attr "_set"<|.cmp (opIn (!inv))<|.tru<|.ite (hideC 8 9) .done<|.done)) (.done)<|.done) (.done)<|.done)
 (.ld 0<|.attr "_exact"<|.tru<|.ite (.ld 6<|.ld 0<|.attr "_n"<|.cmp .NotEq<|.tru<|.ite (.cst (.bool false)<|.ret) (.done)<|.done) (.ld 6<|.ld 0<|.attr "_n"<|.cmp .Lt<|.tru<|.ite (.cst (.bool false)<|.ret) (.done)<|.done)<|.done)<|.cst (.bool true)<|.ret
theorem okv_not {ms:List Int} {inv:Bool} {v:Int}:okv ms (!inv) v=!okv ms inv v:=by cases inv <;> (unfold okv; simp)
section
variable {c:Cx} {P:Params} {n:Nat} {H fx:AH} {Q:V→AH→Prop} {da:Int→DA} {all vars:List Int} {D:Int→DS} {g:List (Int × Int)} {vr dr ar self d C sr:Addr} {need:Int} {ms:List Int} {exact fc inv:Bool}
theorem CmpT.okv {v:Int} (e:H sr=some (.list (iL ms))) (h:Q (.bool (Mine.okv ms inv v)) H):CmpT c n (opIn inv) (.int v) (.ref sr) H Q:=by
 cases inv with
 | true=>exact .notInInts e h
 | false=>exact .inInts e h
structure SomeCls (P:Params) (C:Addr):Prop where
 ok:ClsOk (K P) C
 ne:C≠DomC
 f1:findIn (K P) (.ref C) "_set"=some none
 f2:findIn (K P) (.ref C) "_n"=some none
 f3:findIn (K P) (.ref C) "_exact"=some none
theorem some403:SomeCls P 403:=⟨ok403,by decide,by kernel_rfl,by kernel_rfl,by kernel_rfl⟩
theorem some431:SomeCls P 431:=⟨ok431,by decide,by kernel_rfl,by kernel_rfl,by kernel_rfl⟩
theorem call_some (T:TopK c P) (S:St H fx da all D) (A:Ask fx da all vars g D vr dr ar) (hC:SomeCls P C) (I:Ins fx self C d [("_set",.ref sr),("_n",.int need),("_exact",.bool exact)]) (em:fx sr=some (.list (iL ms)))
  (h0:someOk (mis g vars) (cnt g ms inv vars) need exact=false→∀ H',St H' fx da all D→Q (.bool false) H')
  (h1:someOk (mis g vars) (cnt g ms inv vars) need exact=true→¬ (fc=true∧mis g vars≠0∧need - cnt g ms inv vars=mis g vars)→∀ H',St H' fx da all D→Q (.bool true) H')
  (h2:someOk (mis g vars) (cnt g ms inv vars) need exact=true→fc=true→mis g vars≠0→need - cnt g ms inv vars=mis g vars→∀ b D' H',Pass (fun _ v=>Mine.okv ms inv v) g vars D b D'→St H' fx da all D'→Q (.bool b) H') :
  w c (n + 1) (cSome inv) [] (b5 self vr dr ar (.bool fc) [none,none,none,none,none]) H (endK Q):=by
 have aS:∀ {H':AH} {Q:V→AH→Prop},Sub fx H'→Q (.ref sr) H'→AttrT c (n + 1) (.ref self) "_set" H' Q:=fun s h=>AttrT.own (T.cls hC.ok) hC.ne (I.sub s) (T.fi hC.f1) rfl trivial h
 have aN:∀ {Q:V→AH→Prop},Q (.int need) H→AttrT c (n + 1) (.ref self) "_n" H Q:=fun h=>AttrT.own (T.cls hC.ok) hC.ne (I.sub S.sub) (T.fi hC.f2) rfl trivial h
 have aE:∀ {Q:V→AH→Prop},Q (.bool exact) H→AttrT c (n + 1) (.ref self) "_exact" H Q:=fun h=>AttrT.own (T.cls hC.ok) hC.ne (I.sub S.sub) (T.fi hC.f3) rfl trivial h
 refine w_loopP (fun i u=>(b5 self vr dr ar (.bool fc) [some (.int (mis g (vars.take i))),some (.int (cnt g ms inv (vars.take i))),u,none,none])) none (.list (S.sub _ _ A.lv)) (S.sub _ _ A.lv) (fun i xs u K' hi hn _=>?_) fun u=>?_
 ·obtain ⟨x,ex,rfl⟩:=it_iL hi
  have hn:=hn [] (some (.int x))
  rw [show mis g (vars.take (i + 1))=mis g (vars.take i) + (if (gAt g x).isNone=true then (1:Int) else 0) from sum_snoc _ ex,
   show cnt g ms inv (vars.take (i + 1))=cnt g ms inv (vars.take i) + (match gAt g x with | some v=>if Mine.okv ms inv v=true then (1:Int) else 0 | none=>0) from sum_snoc _ ex] at hn
  exact CmpT.inA (S.sub _ _ A.la) (fun hg=>by rw [hg,show (if (none:Option Int).isNone=true then (1:Int) else 0)=1 from rfl,Int.add_zero] at hn; exact hn) fun v hg e=>ItemT.dict (S.sub _ _ A.la) e (aS S.sub (CmpT.okv (S.sub _ _ em) (by rw [hg,show (if (some v).isNone=true then (1:Int) else 0)=0 from rfl,Int.add_zero] at hn; exact hn)))
 ·rw [it_len,List.take_length]
  have yes:someOk (mis g vars) (cnt g ms inv vars) need exact=true→¬ (fc=true∧mis g vars≠0∧need - cnt g ms inv vars=mis g vars)→∃ H2,Sub H2 H∧Q (.bool true) H2:=fun a b=>⟨_,Sub.refl _,h1 a b _ S⟩
  have no:someOk (mis g vars) (cnt g ms inv vars) need exact=false→∃ H2,Sub H2 H∧Q (.bool false) H2:=fun a=>⟨_,Sub.refl _,h0 a _ S⟩
  have pass:someOk (mis g vars) (cnt g ms inv vars) need exact=true→mis g vars≠0→w c (n + 1) (.ld 4<|.tru<|.brt true (.ld 0<|.attr "_n"<|.ld 6<|.bin .Sub<|.ld 5<|.cmp .Eq<|.tru<|.done)<|.ite (.ld 1<|.loop .seq 1 (.st 7<|passB 7 8 9 3 2 (.ld 9<|.ld 0<|.attr "_set"<|.cmp (opIn (!inv))<|.tru<|.ite (hideC 8 9) .done<|.done)) (.done)<|.done) (.done)<|.done) []
    (b5 self vr dr ar (.bool fc) [some (.int (mis g vars)),some (.int (cnt g ms inv vars)),u,none,none]) H (KT.thn (fun _ ρ H=>w c (n + 1) (.cst (.bool true)<|.ret) [] ρ H (endK Q)) (endK Q)):=fun ok hm=>by
   cases fc with
   | false=>exact yes ok fun q=>nomatch q.1
   | true=>
    refine aN (ite_go (fun hb=>?_) fun hb=>yes ok fun q=>of_decide_eq_false hb q.2.2)
    have fin:=h2 ok rfl hm (of_decide_eq_true hb)
    refine passLoop (k:=fun _ v=>Mine.okv ms inv v) (fun x d w=>(b5 self vr dr ar (.bool true) [some (.int (mis g vars)),some (.int (cnt g ms inv vars)),x,d,w])) ⟨fun _=>⟨fun _ _=>rfl,fun _ _=>rfl,fun _ _ _=>rfl,fun _ _ _=>rfl,fun _ _=>rfl,fun _ _=>rfl⟩,fun _ _ _=>rfl,fun _ _ _ _=>rfl⟩ T S A (fun x hx v H2 D' K' hv hg S' k1 k2=>aS S'.sub (CmpT.okv (S'.sub _ _ em) ?_)) (fun x d w D' H' Ps S'=>⟨_,Sub.refl _,fin _ _ _ Ps S'⟩) fun ρ D' H' Ps S'=>⟨_,Sub.refl _,fin _ _ _ Ps S'⟩
    rw [okv_not]
    exact ite_go (fun hb=>k1 ((Bool.not_eq_true' _).mp hb) _ fun _ _ _ q=>q) fun hb=>k2 ((Bool.not_eq_false' _).mp hb)
  refine ite_go (fun hb=>?_) fun hb=>?_
  ·have hm:mis g vars≠0:=bne_iff_ne.mp hb
   unfold someOk at no pass
   rw [if_pos hm] at no pass
   refine aE ?_
   cases exact with
   | true=>
    rw [if_pos rfl] at no pass
    refine aN (ite_go (fun h1=>?_) fun h1=>no (by rw [h1]; rfl))
    rw [h1,Bool.true_and] at no pass
    exact ite_go (fun h2=>no ((Bool.not_eq_true' _).mp h2)) fun h2=>pass ((Bool.not_eq_false' _).mp h2) hm
   | false=>
    rw [if_neg Bool.false_ne_true] at no pass
    refine aN (ite_go (fun h1=>no (decide_eq_false (Int.not_le.mpr (of_decide_eq_true h1)))) fun h1=>pass (decide_eq_true (Int.not_lt.mp (of_decide_eq_false h1))) hm)
  ·have hm:mis g vars=0:=bne_eq_false_iff_eq.mp hb
   unfold someOk at no yes
   rw [if_neg fun q=>q hm] at no yes
   refine aE ?_
   cases exact with
   | true=>
    rw [if_pos rfl] at no yes
    refine aN (ite_go (fun h1=>no (decide_eq_false (of_decide_eq_true h1))) fun h1=>yes (decide_eq_true (Decidable.not_not.mp (of_decide_eq_false h1))) fun q=>q.2.1 hm)
   | false=>
    rw [if_neg Bool.false_ne_true] at no yes
    refine aN (ite_go (fun h1=>no (decide_eq_false (Int.not_le.mpr (of_decide_eq_true h1)))) fun h1=>yes (decide_eq_true (Int.not_lt.mp (of_decide_eq_false h1))) fun q=>q.2.1 hm)
end
end Mine
namespace Mine
noncomputable def ovV:Option Int→V
 | none=>.ref 51
 | some v=>.int v
noncomputable def oneV (g:List (Int × Int)) (L:List Int):Option Int:=L.findSome? (gAt g)
theorem oneV_snoc {g:List (Int × Int)} {L:List Int} {i:Nat} {x:Int} (e:L[i]?=some x):oneV g (L.take (i + 1))=(oneV g (L.take i)).or (gAt g x):=by
 unfold oneV
 rw [take_snoc e,List.findSome?_append,List.findSome?_cons]
 cases gAt g x <;> rfl
noncomputable def sameV (g:List (Int × Int)) (L:List Int):Prop:=∀ x∈L,∀ v,gAt g x=some v→oneV g L=some v
theorem vAt_ov {g:List (Int × Int)} {x:Int}:(vAt (gI g) x).getD (.ref 51)=ovV (gAt g x):=by
 rw [vAt_gI]; cases gAt g x <;> rfl
section
variable {c:Cx} {P:Params} {n:Nat} {H fx:AH} {Q:V→AH→Prop} {da:Int→DA} {all vars:List Int} {D:Int→DS} {g:List (Int × Int)} {vr dr ar self d:Addr} {fc:Bool}
theorem TopK.lies (T:TopK c P) {a:Addr} (h:((K P).lookup a).any (fun o=>o.cls != .type "tuple")=true):Lies c H a:=fun Z s R=>by
 rw [← T.hK] at h
 cases e:c.K.lookup a with
 | none=>rw [e] at h; cases h
 | some o=>rw [e] at h; exact ⟨o,R.KIn _ _ e,bne_iff_ne.mp h⟩
theorem lies51 (T:TopK c P):Lies c H 51:=T.lies (by kernel_rfl)
theorem is_un (T:TopK c P) {o:Option Int} (h:Q (.bool o.isNone) H):wCmp c n .Is (ovV o) (.ref 51) H Q:=by
 cases o with
 | none=>exact CmpT.isR (neg:=false) (lies51 T) (lies51 T) h
 | some v=>exact CmpT.is_int_ref h
theorem isNot_un (T:TopK c P) {o:Option Int} (h:Q (.bool o.isSome) H):wCmp c n .IsNot (ovV o) (.ref 51) H Q:=by
 cases o with
 | none=>exact CmpT.isR (neg:=true) (lies51 T) (lies51 T) h
 | some v=>exact CmpT.isNot_int_ref h
theorem getGet {es:List (Int × V)} {ep:Option Nat} (e:H ar=some (.dict es ep)):GetX c n (.ref ar) "get" H (.builtin "dict.get") true:=.dict e PySem.F.slot_dict_get rfl
theorem none_isNone {α:Type} {o:Option α} (h:o.isNone=true):o=none:=Option.isNone_iff_eq_none.mp h
theorem call_eq (T:TopK c P) (S:St H fx da all D) (A:Ask fx da all vars g D vr dr ar)
  (h0:¬ sameV g vars→Q (.bool false) H) (h1:sameV g vars→fc=false∨oneV g vars=none→Q (.bool true) H)
  (h2:sameV g vars→fc=true→∀ sv,oneV g vars=some sv→∀ b D' H',Pass (fun _ v=>decide (v=sv)) g vars D b D'→St H' fx da all D'→Q (.bool b) H') :
  w c (n + 1) c206 [] (b5 self vr dr ar (.bool fc) [some (.ref 51),none,none,none,none]) H (endK Q):=by
 refine w_loopQ (fun i (u:Option V × Option V)=>(b5 self vr dr ar (.bool fc) [some (.ref 51),some (ovV (oneV g (vars.take i))),u.1,u.2,none])) (fun i=>sameV g (vars.take i)) (none,none) (.list (S.sub _ _ A.lv)) (fun x h=>nomatch h) (S.sub _ _ A.lv) (fun i xs u K' hi hs hn hr=>?_) fun u hs=>?_
 ·obtain ⟨x,ex,rfl⟩:=it_iL hi
  have hx:=List.mem_of_getElem? ex
  have hn:=hn [] (some (.int x),some (ovV (gAt g x)))
  rw [oneV_snoc (g:=g) ex] at hn
  refine ⟨_,_,getGet (S.sub _ _ A.la),CallV.get (S.sub _ _ A.la) ?_⟩
  rw [vAt_ov]
  cases ho:oneV g (vars.take i) with
  | none=>
   rw [ho,Option.none_or] at hn
   refine is_un T (o:=none) ?_
   refine hn fun z hz v hv=>?_
   rw [take_snoc ex] at hz
   rw [oneV_snoc (g:=g) ex,ho,Option.none_or]
   refine (List.mem_append.mp hz).elim (fun h=>?_) fun h=>?_
   ·have:=hs z h v hv; rw [ho] at this; cases this
   ·rw [← hv,List.mem_singleton.mp h]
  | some sv=>
   rw [ho,Option.some_or] at hn
   refine is_un T (o:=some sv) ?_
   refine isNot_un T ?_
   have go:(∀ v,gAt g x=some v→v=sv)→sameV g (vars.take (i + 1)):=fun hv z hz v hzv=>by
    rw [take_snoc ex] at hz
    rw [oneV_snoc (g:=g) ex,ho,Option.some_or]
    refine (List.mem_append.mp hz).elim (fun h=>ho▸hs z h v hzv) fun h=>?_
    rw [List.mem_singleton.mp h] at hzv; rw [hv v hzv]
   cases hg:gAt g x with
   | none=>rw [hg] at hn; exact hn (go fun v q=>by rw [hg] at q; cases q)
   | some v=>
    rw [hg] at hn
    refine ite_go (fun hb=>hr _ _ _ _ ⟨_,Sub.refl _,h0 fun q=>?_⟩) fun hb=>hn (go fun v' q=>by rw [hg] at q; cases q; exact Decidable.not_not.mp (of_decide_eq_false hb))
    have h4:oneV g vars=some sv:=by
     unfold oneV at ho ⊢
     rw [← List.take_append_drop i vars,List.findSome?_append,ho]; rfl
    exact of_decide_eq_true hb (Option.some.inj (h4.symm.trans (q x hx v hg))).symm
 ·rw [it_len,List.take_length] at hs ⊢
  cases fc with
  | false=>exact ⟨_,Sub.refl _,h1 hs (.inl rfl)⟩
  | true=>
   refine isNot_un T ?_
   cases ho:oneV g vars with
   | none=>exact ⟨_,Sub.refl _,h1 hs (.inr ho)⟩
   | some sv=>
    refine passGen (k:=fun _ v=>decide (v=sv)) (fun ρ=>∃ x v d,ρ=(b5 self vr dr ar (.bool true) [some (.ref 51),some (.int sv),x,v,d])) S A ⟨_,_,_,rfl⟩ (.list (S.sub _ _ A.lv)) it_len (fun H' D' S'=>S'.sub _ _ A.lv) (fun i xs x hi ex=>?_) (fun ρ D' H' h Ps S'=>by obtain ⟨x,v,d,rfl⟩:=h; exact ⟨_,Sub.refl _,h2 hs rfl sv ho _ _ _ Ps S'⟩) fun ρ D' H' Ps S'=>⟨_,Sub.refl _,h2 hs rfl sv ho _ _ _ Ps S'⟩
    obtain ⟨x',ex',rfl⟩:=it_iL hi
    cases ex.symm.trans ex'
    intro ρ H' D' K' h S' eD k1 k2 k3 k4
    obtain ⟨y,v,d,rfl⟩:=h
    have hx:=A.sub x (List.mem_of_getElem? ex)
    refine CmpT.notInA (S'.sub _ _ A.la) (fun hg=>?_) fun v hg _=>k1 (fun q=>by rw [q] at hg; cases hg) _ ⟨_,_,_,rfl⟩
    refine ItemT.dict (S'.sub _ _ A.ld) (vAt_dI hx) (CmpT.notInDom T.D (S'.at_ x hx .a) ?_)
    rw [eD]
    refine ite_go (fun hm=>k4 hg (List.filter_eq_nil_iff.mpr fun v hv q=>?_) _) fun hm=>?_
    ·rw [of_decide_eq_true q] at hv
     rw [decide_eq_true hv] at hm; cases hm
    ·have hm':sv∈(D x).vs:=of_decide_eq_true ((Bool.not_eq_false' _).mp hm)
     refine hideLoop (k:=fun v=>decide (v=sv)) T S' hx (by rw [eD]; exact A.ok x hx) (fun u=>(b5 self vr dr ar (.bool true) [some (.ref 51),some (.int sv),some (.int x),u,some (.ref (da x .a))])) (iD:=9) (iW:=8) (fun _=>rfl) (fun _ _=>rfl) (fun _=>rfl) ?_ ?_
     ·exact fun v H2 D2 K2 hv S2 q1 q2=>ite_go (fun hb=>q1 (decide_eq_false (of_decide_eq_true hb)) _ fun _ _ _ q=>q) fun hb=>q2 (decide_eq_true (Decidable.not_not.mp (of_decide_eq_false hb)))
     refine fun u H2 S2=>k2 hg (fun q=>?_) _ _ ⟨_,_,_,rfl⟩ (eD▸S2)
     exact absurd (List.mem_filter.mpr ⟨hm',decide_eq_true rfl⟩) (by rw [q]; exact List.not_mem_nil)
end
end Mine
namespace Mine
structure HidR (d d':DS) (k:Int→Bool):Prop where
 st:d'.st=d.st
 mem:∀ v,v∈d'.vs↔v∈d.vs∧k v=true
 ex:∃ hs,d'.hid=d.hid++hs∧(d'.vs++hs).Perm d.vs
theorem HidR.refl {d:DS} {k:Int→Bool} (h:∀ v∈d.vs,k v=true):HidR d d k:=⟨rfl,fun v=>⟨fun q=>⟨q,h v q⟩,fun q=>q.1⟩,[],by simp,by simp⟩
theorem HidR.hid1 {d:DS} {k:Int→Bool}:HidR d (hid1 d k) k:=⟨rfl,fun v=>by simp [Mine.hid1],d.vs.filter fun v=>!k v,rfl,List.filter_append_perm k d.vs⟩
structure PassR (k:Int→Int→Bool) (g:List (Int × Int)) (vars:List Int) (D:Int→DS) (b:Bool) (D':Int→DS):Prop where
 same:∀ x,¬ (x∈vars∧gAt g x=none)→D' x=D x
 hid:∀ x∈vars,gAt g x=none→∃ k',HidR (D x) (D' x) k'∧(b=true→k'=k x)∧∀ v,k x v=true→k' v=true
 some:b=true→∀ x∈vars,gAt g x=none→(D x).vs≠[]→∃ v∈(D x).vs,k x v=true
 none:b=false→∃ x∈vars,gAt g x=.none∧∀ v∈(D x).vs,k x v=false
theorem Pass.R {k:Int→Int→Bool} {g:List (Int × Int)} {vars:List Int} {D:Int→DS} {b:Bool} {D':Int→DS} (P:Pass k g vars D b D'):PassR k g vars D b D':=by
 obtain ⟨i,rfl,ht,hf⟩:=P
 refine ⟨fun x hx=>?_,fun x hx hg=>?_,fun hb x hx hg _=>?_,fun hb=>?_⟩
 ·unfold passed
  rw [if_neg (fun q=>hx ⟨List.mem_of_mem_take q.1,q.2⟩)]
 ·by_cases q:x∈vars.take i
  ·refine ⟨k x,?_,fun _=>rfl,fun v h=>h⟩
   unfold passed; rw [if_pos ⟨q,hg⟩]; exact HidR.hid1
  ·cases b with
   | true=>
    refine ⟨k x,?_,fun _=>rfl,fun v h=>h⟩
    rw [(ht rfl).1]; unfold passed; rw [if_pos ⟨hx,hg⟩]; exact HidR.hid1
   | false=>
    refine ⟨fun _=>true,?_,(fun h=>by cases h),fun _ _=>rfl⟩
    rw [passed_off fun w=>q w.1]; exact HidR.refl fun _ _=>rfl
 ·have:=(ht hb).2 x hx hg
  obtain ⟨v,hv⟩:=List.exists_mem_of_ne_nil _ this
  exact ⟨v,(List.mem_filter.mp hv).1,(List.mem_filter.mp hv).2⟩
 ·obtain ⟨x,hx,hg,he⟩:=hf hb
  refine ⟨x,hx,hg,fun v hv=>?_⟩
  have:=List.filter_eq_nil_iff.mp he v hv
  simpa using this
theorem HidR.nodup {d d':DS} {k:Int→Bool} (o:d.vs.Nodup) (h:HidR d d' k):d'.vs.Nodup:=by
 obtain ⟨hs,_,hp⟩:=h.ex
 exact (List.nodup_append.mp (hp.nodup_iff.mpr o)).1
theorem HidR.len {d d':DS} {k:Int→Bool} (h:HidR d d' k):d'.vs.length + d'.hid.length=d.vs.length + d.hid.length:=by
 obtain ⟨hs,e,hp⟩:=h.ex
 have:=hp.length_eq
 rw [List.length_append] at this
 rw [e,List.length_append,← this,Nat.add_assoc,Nat.add_comm hs.length]
theorem HidR.ok {d d':DS} {k:Int→Bool} (o:d.Ok) (h:HidR d d' k):d'.Ok:=⟨h.nodup o.nd,by rw [h.len]; exact o.len⟩
theorem HidR.step {d d':DS} {k:Int→Bool} {v:Int} (o:d.vs.Nodup) (h:HidR d d' k) (hv:v∈d'.vs):HidR d ⟨d'.vs.erase v,d'.hid++[v],d'.st⟩ (fun u=>k u && decide (u≠v)):=by
 refine ⟨h.st,fun u=>?_,?_⟩
 ·show u∈d'.vs.erase v↔_
  rw [(h.nodup o).mem_erase_iff,h.mem u]
  simp only [Bool.and_eq_true,decide_eq_true_eq]
  constructor
  ·rintro ⟨q1,q2,q3⟩; exact ⟨q2,q3,q1⟩
  ·rintro ⟨q2,q3,q1⟩; exact ⟨q1,q2,q3⟩
 ·obtain ⟨hs,e,hp⟩:=h.ex
  refine ⟨hs++[v],by show d'.hid++[v]=_; rw [e,List.append_assoc],?_⟩
  show (d'.vs.erase v++(hs++[v])).Perm d.vs
  refine List.Perm.trans ?_ hp
  rw [← List.append_assoc]
  refine List.perm_append_comm.trans ?_
  exact (List.perm_cons_erase hv).symm.append_right hs
noncomputable def gvs (g:List (Int × Int)) (L:List Int):List Int:=L.filterMap (gAt g)
theorem gvs_snoc {g:List (Int × Int)} {L:List Int} {x:Int}:gvs g (L++[x])=gvs g L++(gAt g x).toList:=by
 unfold gvs; rw [List.filterMap_append]; cases h:gAt g x <;> simp [h]
noncomputable def seenD (l:List Int):List (Int × V):=l.map fun v=>(v,.bool true)
theorem seen_any {l:List Int} {v:Int}:(vAt (seenD l) v).isSome=decide (v∈l):=by
 unfold vAt seenD
 rw [List.find?_map,Option.map_map,Option.isSome_map]
 by_cases h:v∈l
 ·rw [decide_eq_true h,List.find?_isSome]; exact ⟨v,h,by simp⟩
 ·rw [decide_eq_false h]
  cases q:l.find? ((fun p:Int × V=>decide (p.1=v)) ∘ fun v=>(v,V.bool true)) with
  | none=>rfl
  | some w=>
   have h1:=List.find?_some q
   have h2:=List.mem_of_find?_eq_some q
   simp at h1; subst h1; exact absurd h2 h
theorem seen_put {l:List Int} {v:Int} (h:v∉l):dput (seenD l) v (.bool true)=seenD (l++[v]):=by
 unfold dput
 rw [if_neg]
 ·unfold seenD; simp
 ·intro q
  obtain ⟨w,hw,e⟩:=List.any_eq_true.mp q
  obtain ⟨u,hu,rfl⟩:=List.mem_map.mp hw
  simp at e; subst e; exact h hu
theorem gvs_twice {g:List (Int × Int)} {vars:List Int} {i:Nat} {x v:Int} (ex:vars[i]?=some x) (hg:gAt g x=some v) (hm:v∈gvs g (vars.take i)):¬ (gvs g vars).Nodup:=by
 obtain ⟨hi,e'⟩:=List.getElem?_eq_some_iff.mp ex
 have hd:vars.drop i=x::vars.drop (i+1):=by rw [List.drop_eq_getElem_cons hi,e']
 intro q
 rw [← List.take_append_drop i vars,hd] at q
 unfold gvs at q hm
 rw [List.filterMap_append,List.filterMap_cons,hg,List.nodup_append] at q
 exact q.2.2 v hm v (List.mem_cons_self ..) rfl
structure PRi (gv:List Int) (g:List (Int × Int)) (L:List Int) (D D':Int→DS):Prop where
 same:∀ x,¬ (x∈L∧gAt g x=none)→D' x=D x
 hid:∀ x∈L,gAt g x=none→HidR (D x) (D' x) (fun v=>!decide (v∈gv))∧((D x).vs≠[]→(D' x).vs≠[])
theorem PRi.nil {gv:List Int} {g:List (Int × Int)} {D:Int→DS}:PRi gv g [] D D:=⟨fun _ _=>rfl,fun x h=>by cases h⟩
theorem PRi.snocS {gv L:List Int} {g:List (Int × Int)} {D D':Int→DS} {x:Int} (P:PRi gv g L D D') (h:(gAt g x).isSome=true):PRi gv g (L++[x]) D D':=by
 refine ⟨fun z hz=>P.same z fun q=>hz ⟨List.mem_append_left _ q.1,q.2⟩,fun z hz hg=>?_⟩
 rcases List.mem_append.mp hz with q | q
 ·exact P.hid z q hg
 ·rw [List.mem_singleton.mp q] at hg; rw [hg] at h; cases h
theorem PRi.snoc {gv L:List Int} {g:List (Int × Int)} {D D':Int→DS} {x:Int} {d:DS} (P:PRi gv g L D D') (hg:gAt g x=none) (hn:x∉L) (hd:HidR (D x) d (fun v=>!decide (v∈gv))) (hne:(D x).vs≠[]→d.vs≠[]):PRi gv g (L++[x]) D (upd D' x d):=by
 refine ⟨fun z hz=>?_,fun z hz hgz=>?_⟩
 ·have q:z≠x:=fun q=>hz ⟨by rw [q]; simp,q▸hg⟩
  rw [upd_ne q]; exact P.same z fun q=>hz ⟨List.mem_append_left _ q.1,q.2⟩
 ·by_cases q:z=x
  ·subst q; rw [upd_self]; exact ⟨hd,hne⟩
  ·rw [upd_ne q]
   rcases List.mem_append.mp hz with h | h
   ·exact P.hid z h hgz
   ·exact absurd (List.mem_singleton.mp h) q
theorem PRi.passR {gv L:List Int} {g:List (Int × Int)} {D D':Int→DS} (P:PRi gv g L D D'):PassR (fun _ v=>!decide (v∈gv)) g L D true D':=by
 refine ⟨P.same,fun x hx hg=>⟨_,(P.hid x hx hg).1,fun _=>rfl,fun _ h=>h⟩,fun _ x hx hg hne=>?_,fun h=>by cases h⟩
 obtain ⟨v,hv⟩:=List.exists_mem_of_ne_nil _ ((P.hid x hx hg).2 hne)
 exact ⟨v,((P.hid x hx hg).1.mem v).mp hv⟩
theorem PRi.none {gv vars:List Int} {g:List (Int × Int)} {D D':Int→DS} {i j:Nat} {x:Int} {d:DS} (P:PRi gv g (vars.take i) D D') (ex:vars[i]?=some x) (hg:gAt g x=none) (hd:HidR (D x) d (fun v=>!decide (v∈gv.take j))) (he:d.vs=[]):PassR (fun _ v=>!decide (v∈gv)) g vars D false (upd D' x d):=by
 have hx:=List.mem_of_getElem? ex
 refine ⟨fun y hy=>?_,fun y hy hgy=>?_,(fun h=>by cases h),fun _=>⟨x,hx,hg,fun v hv=>?_⟩⟩
 ·have q:y≠x:=fun q=>hy ⟨q▸hx,q▸hg⟩
  rw [upd_ne q]; exact P.same y fun r=>hy ⟨List.mem_of_mem_take r.1,r.2⟩
 ·by_cases q:y=x
  ·subst q; rw [upd_self]
   refine ⟨_,hd,(fun h=>by cases h),fun v hv=>?_⟩
   have:v∉gv:=by simpa using hv
   simpa using fun r=>this (List.mem_of_mem_take r)
  ·rw [upd_ne q]
   by_cases r:y∈vars.take i
   ·exact ⟨_,(P.hid y r hgy).1,(fun h=>by cases h),fun v h=>h⟩
   ·rw [P.same y fun s=>r s.1]
    exact ⟨fun _=>true,HidR.refl fun _ _=>rfl,(fun h=>by cases h),fun _ _=>rfl⟩
 ·have:=fun r=>absurd (b:=False) ((hd.mem v).mpr r) (by rw [he]; exact List.not_mem_nil)
  have:v∈gv.take j:=by
   by_cases r:v∈gv.take j
   ·exact r
   ·exact (this ⟨hv,by simpa using r⟩).elim
  simpa using List.mem_of_mem_take this
section
variable {c:Cx} {P:Params} {n:Nat} {H fx:AH} {Q:V→AH→Prop} {da:Int→DA} {all vars:List Int} {D:Int→DS} {g:List (Int × Int)} {vr dr ar self d:Addr} {fc:Bool}
theorem diff_in (T:TopK c P) {gv:List Int} {sd:Addr} {ep:Nat} {x:Int} {D':Int→DS} {i:Nat} {w0:Option V} {K:KT} (A:Ask fx da all vars g D vr dr ar) (hsf:fx sd=none) (S1:St H (fx.set sd (.dict (seenD gv) (some ep))) da all D') (ex:vars[i]?=some x) (hg:gAt g x=none) (P1:PRi gv g (vars.take i) D D')
  (h2:∀ b D' H',PassR (fun _ v=>!decide (v∈gv)) g vars D b D'→St H' fx da all D'→Q (.bool b) H') (hr:∀ v st ρ H,(∃ H',Sub H' H∧Q v H')→K (.ret v) st ρ H)
  (h:∀ w d H',St H' (fx.set sd (.dict (seenD gv) (some ep))) da all (upd D' x d)→PRi gv g (vars.take (i + 1)) D (upd D' x d)→K .next [] (b5 self vr dr ar (.bool true) [some (.ref 51),some (.ref sd),some (.int x),w,some (.ref (da x .a))]) H') :
  w c (n + 1) (.ld 6<|.loop .seq 1 (.st 8<|.ld 8<|.ld 9<|.cmp .In<|.tru<|.ite (.ld 9<|.gm "hideValue"<|.ld 8<|.cm 1<|.pop<|.ld 9<|.tru<|.nt<|.ite (.cst (.bool false)<|.ret) .done<|.done) .done<|.done) .done<|.done) []
   (b5 self vr dr ar (.bool true) [some (.ref 51),some (.ref sd),some (.int x),w0,some (.ref (da x .a))]) H K:=by
 have hx:=A.sub x (List.mem_of_getElem? ex)
 have hnot:=not_mem_take A.nd ex
 have eD:D' x=D x:=P1.same x fun q=>hnot q.1
 have hup:Sub fx (fx.set sd (.dict (seenD gv) (some ep))):=Sub.new hsf
 refine w_loop (fun w=>(b5 self vr dr ar (.bool true) [some (.ref 51),some (.ref sd),some (.int x),w,some (.ref (da x .a))])) (fun j _ H1=>∃ d,St H1 (fx.set sd (.dict (seenD gv) (some ep))) da all (upd D' x d)∧HidR (D x) d (fun v=>!decide (v∈gv.take j))∧((D x).vs≠[]→d.vs≠[])) w0 (.keys (S1.sub _ _ AH.set_self)) ⟨D' x,by rw [upd_id]; exact S1,by rw [eD]; exact HidR.refl fun v _=>rfl,fun q=>by rw [eD]; exact q⟩ (fun j _ H' h=>h.elim fun d q=>q.1.sub _ _ AH.set_self) (fun j ys w H' K' hj hI hn hr'=>?_) fun w H' hI=>?_
 ·obtain ⟨d,S2,hd,hne⟩:=hI
  obtain ⟨v,ev,rfl⟩:∃ v,gv[j]?=some v∧ys=[.int v]:=by
   rw [List.getElem?_map] at hj
   unfold seenD at hj
   rw [List.getElem?_map,Option.map_map] at hj
   exact (Option.map_eq_some_iff.mp hj).imp fun v q=>⟨q.1,q.2.symm⟩
  have hn:=hn [] (some (.int v))
  have hk:(fun u=>!decide (u∈gv.take (j+1)))=(fun u=>(!decide (u∈gv.take j)) && decide (u≠v)):=by
   funext u; rw [take_snoc ev]
   by_cases q1:u∈gv.take j <;> by_cases q2:u=v <;> simp [q1,q2]
  rw [hk] at hn
  have e2:upd D' x d x=d:=upd_self
  refine CmpT.inDom (ns:=d.vs) T.D (by have:=S2.at_ x hx .a; rw [e2] at this; exact this) (ite_go (fun hb=>?_) fun hb=>?_)
  ·have hin:=of_decide_eq_true hb
   have hok:=(hd.ok (A.ok x hx)).len
   have hst:=hd.step (A.ok x hx).nd hin
   refine ⟨_,_,getD T S2 hx (m:=.ref 94) (by kernel_rfl) (by kernel_rfl) (.inl rfl) rfl,hide T S2 hx (by rw [e2]; exact hin) (by rw [e2]; exact Nat.lt_of_le_of_lt (Nat.le_add_left ..) hok) fun H3 S3=>⟨rfl,?_⟩⟩
   rw [e2,upd_upd] at S3
   refine TruthT.dom (vs:=iL (d.vs.erase v)) T.D (by have:=S3.at_ x hx .a; rw [upd_self] at this; exact this) (ite_go (fun he=>hr' _ _ _ _ (hr _ _ _ _ ⟨_,Sub.refl _,h2 _ _ _ (P1.none ex hg (j:=j+1) (by rw [hk]; exact hst) ?_) (S3.loose hup)⟩)) fun he=>hn _ ⟨_,S3,hst,fun _ q=>?_⟩)
   ·cases q:d.vs.erase v with
    | nil=>rfl
    | cons a b=>rw [q] at he; cases he
   ·have q:d.vs.erase v=[]:=q
    rw [q] at he; cases he
  ·refine hn _ ⟨d,S2,⟨hd.st,fun u=>?_,hd.ex⟩,hne⟩
   have hnv:=of_decide_eq_false hb
   rw [hd.mem u,Bool.and_eq_true]
   exact ⟨fun q=>⟨q.1,q.2,decide_eq_true fun r=>hnv (r▸(hd.mem u).mpr q)⟩,fun q=>⟨q.1,q.2.1⟩⟩
 ·obtain ⟨d,S2,hd,hne⟩:=hI
  rw [show ((seenD gv).map fun p=>[V.int p.1]).length=gv.length by unfold seenD; rw [List.length_map,List.length_map],List.take_length] at hd
  exact h _ _ _ S2 (by rw [take_snoc ex]; exact P1.snoc hg hnot hd hne)
theorem diff_pass (T:TopK c P) {gv:List Int} {sd:Addr} {u:Option V × Option V} {K:KT} (A:Ask fx da all vars g D vr dr ar) (hsf:fx sd=none) (S':St H (fx.set sd (.dict (seenD gv) none)) da all D)
  (h2:∀ b D' H',PassR (fun _ v=>!decide (v∈gv)) g vars D b D'→St H' fx da all D'→Q (.bool b) H') (hr:∀ v st ρ H,(∃ H',Sub H' H∧Q v H')→K (.ret v) st ρ H) (hK:∀ ρ H,(∃ H',Sub H' H∧Q (.bool true) H')→K .next [] ρ H) :
  w c (n + 1) (.ld 1<|.loop .seq 1 (.st 7<|.ld 7<|.ld 3<|.cmp .NotIn<|.tru<|.ite (.ld 2<|.ld 7<|.sub<|.st 9<|.ld 6<|.loop .seq 1 (.st 8<|.ld 8<|.ld 9<|.cmp .In<|.tru<|.ite (.ld 9<|.gm "hideValue"<|.ld 8<|.cm 1<|.pop<|.ld 9<|.tru<|.nt<|.ite (.cst (.bool false)<|.ret) .done<|.done) .done<|.done) .done<|.done) .done<|.done) .done<|.done) []
   (b5 self vr dr ar (.bool true) [some (.ref 51),some (.ref sd),u.1,u.2,none]) H K:=by
 have hup:∀ o,Sub fx (fx.set sd o):=fun o=>Sub.new hsf
 refine .inr ⟨sd,seenD gv,S'.sub _ _ AH.set_self,fun ep=>?_⟩
 have S0:=S'.put (o':=.dict (seenD gv) (some ep)) AH.set_self
 rw [AH.set_set] at S0
 refine w_loopH (fun (u:Option V × Option V × Option V)=>(b5 self vr dr ar (.bool true) [some (.ref 51),some (.ref sd),u.1,u.2.1,u.2.2])) (fun i _ H1=>∃ D',St H1 (fx.set sd (.dict (seenD gv) (some ep))) da all D'∧PRi gv g (vars.take i) D D') (u.1,u.2,none) (.list (S0.sub _ _ (hup _ _ _ A.lv))) ⟨D,S0,PRi.nil⟩ (fun i _ H' h=>h.elim fun D' q=>q.1.sub _ _ (hup _ _ _ A.lv)) (fun i xs u H' K' hi hI hn hr'=>?_) fun u H' hI=>?_
 ·obtain ⟨D',S1,P1⟩:=hI
  obtain ⟨x,ex,rfl⟩:=it_iL hi
  have hx:=A.sub x (List.mem_of_getElem? ex)
  refine CmpT.notInA (S1.sub _ _ (hup _ _ _ A.la)) (fun hg=>?_) fun v hg _=>hn [] (some (.int x),u.2) _ ⟨D',S1,by rw [take_snoc ex]; exact P1.snocS (by rw [hg]; rfl)⟩
  refine ItemT.dict (S1.sub _ _ (hup _ _ _ A.ld)) (vAt_dI hx) (diff_in T A hsf S1 ex hg P1 h2 (fun v st ρ H q=>hr' _ _ _ _ (hr _ _ _ _ q)) fun w d H2 S2 P2=>hn [] (some (.int x),w,some (.ref (da x .a))) _ ⟨_,S2,P2⟩)
 ·obtain ⟨D',S1,P1⟩:=hI
  rw [it_len,List.take_length] at P1
  exact hK _ _ ⟨_,Sub.refl _,h2 _ _ _ P1.passR (S1.loose (hup _))⟩
theorem call_diff (T:TopK c P) (S:St H fx da all D) (A:Ask fx da all vars g D vr dr ar) (hl:vars.length≤1000)
  (h0:¬ (gvs g vars).Nodup→∀ H',St H' fx da all D→Q (.bool false) H') (h1:(gvs g vars).Nodup→fc=false→∀ H',St H' fx da all D→Q (.bool true) H')
  (h2:(gvs g vars).Nodup→fc=true→∀ b D' H',PassR (fun _ v=>!decide (v∈gvs g vars)) g vars D b D'→St H' fx da all D'→Q (.bool b) H') :
  w c (n + 1) c186 [] (b5 self vr dr ar (.bool fc) [some (.ref 51),none,none,none,none]) H (endK Q):=by
 intro sd hsd
 have S1:=S.new (o:=.dict [] none) hsd
 have hsf:fx sd=none:=S.sub.none hsd
 have hup:∀ o,Sub fx (fx.set sd o):=fun o=>Sub.new hsf
 refine w_loop (fun (u:Option V × Option V)=>(b5 self vr dr ar (.bool fc) [some (.ref 51),some (.ref sd),u.1,u.2,none])) (fun i _ H'=>St H' (fx.set sd (.dict (seenD (gvs g (vars.take i))) none)) da all D∧(gvs g (vars.take i)).Nodup) (none,none) (.list (S1.sub _ _ (hup _ _ _ A.lv))) ⟨S1,List.nodup_nil⟩ (fun i _ H' h=>h.1.sub _ _ (hup _ _ _ A.lv)) (fun i xs u H' K' hi hI hn hr=>?_) fun u H' hI=>?_
 ·obtain ⟨S',hs⟩:=hI
  obtain ⟨x,ex,rfl⟩:=it_iL hi
  have hn:=hn [] (some (.int x),some (ovV (gAt g x)))
  rw [take_snoc ex,gvs_snoc] at hn
  refine ⟨_,_,getGet (S'.sub _ _ (hup _ _ _ A.la)),CallV.get (S'.sub _ _ (hup _ _ _ A.la)) ?_⟩
  rw [vAt_ov]
  refine isNot_un T ?_
  cases hg:gAt g x with
  | none=>
   rw [hg,Option.toList_none,List.append_nil] at hn
   exact hn _ ⟨S',hs⟩
  | some v=>
   rw [hg] at hn
   refine CmpT.inDict (S'.sub _ _ AH.set_self) ?_
   rw [seen_any]
   refine ite_go (fun hb=>hr _ _ _ _ ⟨_,Sub.refl _,h0 (gvs_twice ex hg (of_decide_eq_true hb)) _ (S'.loose (hup _))⟩) fun hb=>?_
   have hnot:=of_decide_eq_false hb
   refine SetT.dict (S'.sub _ _ AH.set_self) ?_ ?_
   ·have q1:=List.length_filterMap_le (gAt g) (vars.take i)
    have q2:(vars.take i).length≤vars.length:=List.length_take_le' ..
    show ((gvs g (vars.take i)).map _).length < 100000
    unfold gvs
    rw [List.length_map]; exact Nat.lt_of_le_of_lt (Nat.le_trans q1 (Nat.le_trans q2 hl)) (by decide)
   ·have S2:=S'.put (o':=.dict (dput (seenD (gvs g (vars.take i))) v (.bool true)) none) AH.set_self
    rw [seen_put hnot] at S2 ⊢
    rw [AH.set_set] at S2
    exact hn _ ⟨S2,List.nodup_append.mpr ⟨hs,List.nodup_cons.mpr ⟨List.not_mem_nil,.nil⟩,fun a ha b hb q=>hnot (List.mem_singleton.mp hb▸q▸ha)⟩⟩
 ·obtain ⟨S',hs⟩:=hI
  rw [it_len,List.take_length] at S' hs
  generalize hgv:gvs g vars=gv at *
  cases fc with
  | false=>exact ⟨_,Sub.refl _,h1 hs rfl _ (S'.loose (hup _))⟩
  | true=>
   exact diff_pass T A hsf S' (h2 hs rfl) (fun v st ρ H q=>q) fun ρ H q=>q
end
end Mine
namespace Mine
noncomputable def msn (g:List (Int × Int)) (L:List Int):List Int:=L.filter fun x=>(gAt g x).isNone
theorem msn_snoc {g:List (Int × Int)} {L:List Int} {i:Nat} {x:Int} (e:L[i]?=some x):msn g (L.take (i + 1))=msn g (L.take i)++if (gAt g x).isNone then [x] else []:=by
 unfold msn
 rw [take_snoc e,List.filter_append,List.filter_cons,List.filter_nil]
theorem gAt_new {g:List (Int × Int)} {x v:Int} (h:gAt g x=none):gAt (g++[(x,v)]) x=some v:=by
 unfold gAt at *
 rw [List.find?_append]
 rw [Option.map_eq_none_iff] at h
 rw [h]; simp
theorem none_any {g:List (Int × Int)} {x:Int} (h:gAt g x=none):∀ q∈g,q.1≠x:=by
 unfold gAt at h
 rw [Option.map_eq_none_iff,List.find?_eq_none] at h
 exact fun q hq e=>h q hq (by simpa using e)
theorem dput_new {g:List (Int × Int)} {x v:Int} (h:gAt g x=none):dput (gI g) x (.int v)=gI (g++[(x,v)]):=by
 unfold dput gI
 rw [if_neg]
 ·simp
 ·intro q
  obtain ⟨w,hw,e⟩:=List.any_eq_true.mp q
  obtain ⟨u,hu,rfl⟩:=List.mem_map.mp hw
  exact none_any h u hu (by simpa using e)
theorem dput_rep {g:List (Int × Int)} {x v w:Int} (h:gAt g x=none):dput (gI (g++[(x,w)])) x (.int v)=gI (g++[(x,v)]):=by
 unfold dput gI
 rw [if_pos (by simp)]
 rw [List.map_append,List.map_append,List.map_append,List.map_map]
 congr 1
 ·refine List.map_congr_left fun q hq=>?_
  show (if q.1=x then _ else _)=_
  rw [if_neg (none_any h q hq)]
 ·simp
theorem ddel_new {g:List (Int × Int)} {x w:Int} (h:gAt g x=none):ddel (gI (g++[(x,w)])) x=gI g:=by
 unfold ddel gI
 rw [List.map_append,List.filter_append]
 rw [List.filter_eq_self.mpr]
 ·simp
 ·intro q hq
  obtain ⟨u,hu,rfl⟩:=List.mem_map.mp hq
  exact decide_eq_true (none_any h u hu)
theorem hidN_ok {d:DS} {k:Int→Bool} {i:Nat} (o:d.Ok):(hidN d k i).Ok:=by
 constructor
 ·have h:=o.nd
  rw [← List.take_append_drop i d.vs,List.nodup_append] at h
  show ((d.vs.take i).filter k++d.vs.drop i).Nodup
  rw [List.nodup_append]
  exact ⟨h.1.filter k,h.2.1,fun a ha=>h.2.2 a (List.mem_filter.mp ha).1⟩
 ·have h:=o.len
  show ((d.vs.take i).filter k++d.vs.drop i).length + (d.hid++(d.vs.take i).filter (fun v=>!k v)).length < 1000
  have h1:=(List.filter_append_perm k (d.vs.take i)).length_eq
  have h2:(d.vs.take i).length + (d.vs.drop i).length=d.vs.length:=by rw [← List.length_append,List.take_append_drop]
  rw [List.length_append] at h1
  rw [List.length_append,List.length_append,Nat.add_comm d.hid.length,← Nat.add_assoc,Nat.add_right_comm _ _ (((d.vs.take i).filter _).length),h1,h2]
  exact h
theorem gAt_snoc_ne {g:List (Int × Int)} {x y v:Int} (h:y≠x):gAt (g++[(x,v)]) y=gAt g y:=by
 unfold gAt
 rw [List.find?_append]
 cases g.find? (fun q=>q.1=y) with
 | some w=>rfl
 | none=>simp [Ne.symm h]
theorem hid1_nil {d:DS} {k:Int→Bool} (h:d.vs=[]):d=hid1 d k:=by
 obtain ⟨vs,hid,st⟩:=d
 cases h
 unfold hid1
 rw [List.filter_nil,List.filter_nil,List.append_nil]
section
variable {c:Cx} {P:Params} {n:Nat} {H fx:AH} {Q:V→AH→Prop} {da:Int→DA} {all vars:List Int} {D:Int→DS} {g:List (Int × Int)} {vr dr ar self d C:Addr} {fs:List (Str × V)}
theorem Sub.set {H H':AH} {a:Addr} {o:AO} (h:Sub H H'):Sub (H.set a o) (H'.set a o):=fun b ob e=>(AH.of_set e).elim (fun q=>by rw [q.1,q.2]; exact AH.set_self) fun q=>(AH.set_ne q.1).trans (h _ _ q.2)
theorem Ask.ne {o:AO} (A:Ask fx da all vars g D vr dr ar) {b:Addr} (e:fx b=some o) (h:∀ es ep,o≠.dict es ep):b≠ar:=fun q=>h _ _ (Option.some.inj (e.symm.trans (q▸A.la)))
theorem Ask.lift {fx':AH} {D':Int→DS} {g':List (Int × Int)} (A:Ask fx da all vars g D vr dr ar) (hne:dr≠ar) (hs:Sub (fx.set ar (.dict (gI g') none)) fx') (ok:∀ x∈all,(D' x).Ok):Ask fx' da all vars g' D' vr dr ar:=
 ⟨hs _ _ ((AH.set_ne (A.ne A.lv fun _ _ q=>nomatch q)).trans A.lv),hs _ _ ((AH.set_ne hne).trans A.ld),hs _ _ AH.set_self,A.sub,A.nd,ok⟩
theorem fwd_in (T:TopK c P) (S:St H fx da all D) (A:Ask fx da all vars g D vr dr ar) (hne:dr≠ar) (hg:g.length≤1000) (ans:Int→Int→Bool) {x:Int} (hxa:x∈all) (hgx:gAt g x=none) {u:Option V} {kk:Code} {K:KT} (he:(D x).vs≠[])
  (hc:∀ v fx' D' H' Q',v∈(D x).vs→(∀ z∈all,∀ w∈(D' z).vs,w∈(D z).vs)→Sub (fx.set ar (.dict (gI (g++[(x,v)])) none)) fx'→Ask fx' da all vars (g++[(x,v)]) D' vr dr ar→St H' fx' da all D'→
   (∀ H2,St H2 fx' da all D'→Q' (.bool (ans x v)) H2)→CallV c (n + 1) (.ref self) [.ref vr,.ref dr,.ref ar,.bool false] H' Q')
  (h:∀ y H',St H' fx da all (upd D x (hid1 (D x) (ans x)))→w c (n + 1) kk [] (b5 self vr dr ar (.ref 51) [some (.int x),u,some (.ref (da x .a)),y]) H' K) :
  w c (n + 1) (.ld 7<|.cst .none<|.cst .none<|.sl<|.loop .seq 1 (.st 8<|.ld 8<|.ld 3<|.ld 5<|.ssub<|.ld 0<|.ld 1<|.ld 2<|.ld 3<|.cst (.bool false)<|.call 4<|.tru<|.nt<|.ite (.ld 7<|.gm "hideValue"<|.ld 8<|.cm 1<|.pop<|.done) .done<|.done) .done<|.ld 3<|.ld 5<|.dsub<|kk) []
   (b5 self vr dr ar (.ref 51) [some (.int x),u,some (.ref (da x .a)),none]) H K:=by
 have ok:=A.ok x hxa
 refine SliceT.dom T.D (S.at_ x hxa .a) fun L hL=>?_
 have hLf:fx L=none:=S.sub.none hL
 have hLa:ar≠L:=fun q=>no_some hLf (q▸A.la)
 refine w_loop (fun w=>(b5 self vr dr ar (.ref 51) [some (.int x),u,some (.ref (da x .a)),w])) (fun i _ H'=>∃ g',(i=0∧g'=g∨∃ v,g'=g++[(x,v)])∧St H' ((fx.set L (.list (iL (D x).vs))).set ar (.dict (gI g') none)) da all (upd D x (hidN (D x) (ans x) i))) none (.list AH.set_self) ⟨g,.inl ⟨rfl,rfl⟩,?_⟩ (fun i _ H' h=>h.elim fun g' q=>q.2.sub _ _ ((AH.set_ne (Ne.symm hLa)).trans AH.set_self)) (fun i xs w0 H' K' hi hI hn _=>?_) fun w0 H' hI=>?_
 ·rw [AH.set_same (H:=fx.set L _) ((AH.set_ne hLa).trans A.la)]
  exact (S.new hL).eqD fun z hz=>upd_c fun q=>by rw [q,hidN_zero]
 ·obtain ⟨g',hg',S1⟩:=hI
  obtain ⟨v,ev,rfl⟩:=it_iL hi
  have hn:=hn [] (some (.int v))
  have hput:(gI g').length < 100000∧dput (gI g') x (.int v)=gI (g++[(x,v)]):=by
   unfold gI
   rw [List.length_map]
   rcases hg' with ⟨_,rfl⟩ | ⟨v,rfl⟩
   ·exact ⟨Nat.lt_of_le_of_lt hg (by decide),dput_new hgx⟩
   ·exact ⟨by rw [List.length_append]; exact Nat.lt_of_le_of_lt (Nat.succ_le_succ hg) (by decide),dput_rep hgx⟩
  refine SetT.dict (S1.sub _ _ AH.set_self) hput.1 ?_
  have S2:=S1.put (o':=.dict (dput (gI g') x (.int v)) none) AH.set_self
  rw [AH.set_set,hput.2] at S2
  rw [hput.2]
  have e2:upd D x (hidN (D x) (ans x) i) x=hidN (D x) (ans x) i:=upd_self
  have ok2:∀ z∈all,(upd D x (hidN (D x) (ans x) i) z).Ok:=fun z hz=>by
   by_cases q:z=x
   ·rw [q,e2]; exact hidN_ok ok
   ·rw [upd_ne q]; exact A.ok z hz
  have hsub:Sub (fx.set ar (.dict (gI (g++[(x,v)])) none)) ((fx.set L (.list (iL (D x).vs))).set ar (.dict (gI (g++[(x,v)])) none)):=Sub.set (Sub.new hLf)
  refine hc v _ _ _ _ (List.mem_of_getElem? ev) (fun z hz w hw=>?_) hsub (A.lift hne hsub ok2) S2 fun H3 S3=>?_
  ·by_cases q:z=x
   ·rw [q,e2] at hw
    rw [q]
    exact (List.mem_append.mp hw).elim (fun r=>List.mem_of_mem_take (List.mem_filter.mp r).1) fun r=>List.mem_of_mem_drop r
   ·rw [upd_ne q] at hw; exact hw
  refine ite_go (fun hb=>?_) fun hb=>hn _ ⟨_,.inr ⟨v,rfl⟩,(hidN_keep ev ((Bool.not_eq_false' _).mp hb)).symm▸S3⟩
  obtain ⟨g1,g2⟩:=hidN_drop ok.nd ev ((Bool.not_eq_true' _).mp hb)
  refine ⟨_,_,getD T S3 hxa (m:=.ref 94) (by kernel_rfl) (by kernel_rfl) (.inl rfl) rfl,hide T S3 hxa (by rw [e2]; exact g2) (by rw [e2]; exact Nat.lt_of_le_of_lt (Nat.le_add_left ..) (hidN_ok (k:=ans x) (i:=i) ok).len) fun H4 S4=>⟨rfl,hn _ ⟨_,.inr ⟨v,rfl⟩,?_⟩⟩⟩
  rw [upd_upd,e2] at S4
  rw [g1]; exact S4
 ·obtain ⟨g',hg',S1⟩:=hI
  rw [it_len] at hg' S1
  rw [hidN_all] at S1
  obtain ⟨v,rfl⟩:∃ v,g'=g++[(x,v)]:=hg'.resolve_left fun q=>he (List.length_eq_zero_iff.mp q.1)
  refine DelT.dict (S1.sub _ _ AH.set_self) (by rw [vAt_gI,gAt_new hgx]; rfl) ?_
  have S2:=S1.put (o':=.dict (gI g) none) AH.set_self
  rw [AH.set_set,AH.set_same (H:=fx.set L _) ((AH.set_ne hLa).trans A.la)] at S2
  rw [ddel_new hgx]
  exact h _ _ (S2.loose (Sub.new hLf))
theorem fwd (T:TopK c P) (S:St H fx da all D) (A:Ask fx da all vars g D vr dr ar) (hne:dr≠ar) (hg:g.length≤1000) (ans:Int→Int→Bool)
  (hc:∀ x v fx' D' H' Q',msn g vars=[x]→v∈(D x).vs→(∀ z∈all,∀ w∈(D' z).vs,w∈(D z).vs)→Sub (fx.set ar (.dict (gI (g++[(x,v)])) none)) fx'→Ask fx' da all vars (g++[(x,v)]) D' vr dr ar→St H' fx' da all D'→
   (∀ H2,St H2 fx' da all D'→Q' (.bool (ans x v)) H2)→CallV c (n + 1) (.ref self) [.ref vr,.ref dr,.ref ar,.bool false] H' Q')
  (h1:(msn g vars).length≠1→∀ H',St H' fx da all D→Q (.bool true) H')
  (h2:∀ x,msn g vars=[x]→∀ H',St H' fx da all (upd D x (hid1 (D x) (ans x)))→Q (.bool (!((D x).vs.filter (ans x)).isEmpty)) H') :
  w c (n + 1) c138 [] (b5 self vr dr ar (.ref 51) [none,none,none,none]) H (endK Q):=by
 refine w_loopQE (fun i u=>(b5 self vr dr ar (.ref 51) [some (ovV (msn g (vars.take i)).head?),u,none,none])) (fun i=>(msn g (vars.take i)).length≤1) none (.list (S.sub _ _ A.lv)) (Nat.zero_le _) (S.sub _ _ A.lv) (fun i xs u K' hi hl hn hb=>?_) fun u hl=>?_
 ·obtain ⟨x,ex,rfl⟩:=it_iL hi
  have em:=msn_snoc (g:=g) ex
  have hn:=hn [] (some (.int x))
  refine CmpT.notInA (S.sub _ _ A.la) (fun hg=>?_) fun v hg _=>?_
  ·rw [hg,show (if (none:Option Int).isNone=true then [x] else [])=[x] from rfl] at em
   cases q:msn g (vars.take i) with
   | nil=>
    rw [q] at em
    rw [em] at hn
    refine is_un T (o:=none) ?_
    exact hn (Nat.le_refl _)
   | cons a r=>
    refine is_un T (o:=some a) ?_
    refine hb _ _ _ ⟨_,Sub.refl _,h1 (fun w=>?_) _ S⟩
    have hlt:(msn g (vars.take (i+1))).length≤(msn g vars).length:=((List.take_prefix (i+1) vars).filter _).length_le
    rw [em,List.length_append,q,w] at hlt
    exact absurd hlt (Nat.not_le.mpr (Nat.succ_lt_succ (Nat.succ_pos _)))
  ·rw [hg,show (if (some v).isNone=true then [x] else [])=[] from rfl,List.append_nil] at em
   rw [em] at hn
   exact hn hl
 ·rw [it_len,List.take_length] at hl ⊢
  cases em:msn g vars with
  | nil=>
   refine isNot_un T (o:=none) ?_
   exact ⟨_,Sub.refl _,h1 (by rw [em]; decide) _ S⟩
  | cons x r=>
   obtain rfl:r=[]:=by rw [em] at hl; exact List.length_eq_zero_iff.mp (Nat.le_zero.mp (Nat.le_of_succ_le_succ hl))
   refine isNot_un T (o:=some x) ?_
   have hxm:x∈msn g vars:=by rw [em]; exact List.mem_singleton.mpr rfl
   have hgx:gAt g x=none:=none_isNone (List.mem_filter.mp hxm).2
   have hxa:=A.sub x (List.mem_filter.mp hxm).1
   have fin:=h2 x em
   refine ItemT.dict (S.sub _ _ A.ld) (vAt_dI hxa) ?_
   have last:∀ u' w' H2,St H2 fx da all (upd D x (hid1 (D x) (ans x)))→w c (n + 1) (.ld 7<|.tru<|.nt<|.ite (.cst (.bool false)<|.ret) (.done)<|.done) [] (b5 self vr dr ar (.ref 51) [some (.int x),u',some (.ref (da x .a)),w']) H2
     (KT.thn (fun st ρ H=>w c (n + 1) .done st ρ H (KT.thn (fun _ ρ H=>w c (n + 1) (.cst (.bool true)<|.ret) [] ρ H (endK Q)) (endK Q))) (KT.thn (fun _ ρ H=>w c (n + 1) (.cst (.bool true)<|.ret) [] ρ H (endK Q)) (endK Q))):=fun u' w' H2 S2=>by
    have f:=fin H2 S2
    refine TruthT.dom (vs:=iL ((D x).vs.filter (ans x))) T.D (by have:=S2.at_ x hxa .a; rw [upd_self] at this; exact this) ?_
    rw [List.isEmpty_map]
    cases q:((D x).vs.filter (ans x)).isEmpty <;> (rw [q] at f; exact ⟨_,Sub.refl _,f⟩)
   refine TruthT.dom T.D (S.at_ x hxa .a) (ite_go (fun he=>?_) fun he=>?_)
   ·exact fwd_in T S A hne hg ans hxa hgx (fun q=>by rw [show iL (D x).vs=[] by rw [q]; rfl] at he; cases he) (fun v fx' D' H' Q'=>hc x v fx' D' H' Q' em) fun w H' S'=>last _ _ _ S'
   ·have he':(D x).vs=[]:=by cases q:(D x).vs with | nil=>rfl | cons a r=>rw [q] at he; cases he
    exact last _ _ _ (S.eqD fun z hz=>upd_c fun q=>by rw [q]; exact hid1_nil he')
end
end Mine
namespace Mine
noncomputable def lamR (s:Stmt):Arguments × Expr × Scope:=match s with
 | .Return (some (.Lambda a b s _)) _=>(a,b,s)
 | _=>default
noncomputable def lamIn (b:List Stmt) (size:Nat):Arguments × Expr × Scope:=match b.getD (size - 1) (.Pass default) with
 | .If _ b _ _=>lamR (b.headD (.Pass default))
 | s=>lamR s
structure TopL (c:Cx) (P:Params):Prop extends TopK c P where
 lam:c.lam=lamIn (fB (topS 20))
 lq:c.lq="_law_func.<locals>.<lambda>"
 at_:LamAt c 456
noncomputable def lamW:List Int→Int
 | []=>0
 | v::r=>v + 2 * lamW r
noncomputable def lamB (rest:Int) (vs:List Int):Bool:=decide (lamW vs % 3≠rest)
noncomputable def cl1:Code:=.ld 0<|.cst (.int 3)<|.bin .Mod<|.ld 1<|.cmp .NotEq<|.done
noncomputable def cl2:Code:=.ld 0<|.cst (.int 2)<|.ld 1<|.bin .Mult<|.bin .Add<|.cst (.int 3)<|.bin .Mod<|.ld 2<|.cmp .NotEq<|.done
noncomputable def cl3:Code:=.ld 0<|.cst (.int 2)<|.ld 1<|.bin .Mult<|.bin .Add<|.cst (.int 4)<|.ld 2<|.bin .Mult<|.bin .Add<|.cst (.int 3)<|.bin .Mod<|.ld 3<|.cmp .NotEq<|.done
noncomputable def cl4:Code:=.ld 0<|.cst (.int 2)<|.ld 1<|.bin .Mult<|.bin .Add<|.cst (.int 4)<|.ld 2<|.bin .Mult<|.bin .Add<|.cst (.int 8)<|.ld 3<|.bin .Mult<|.bin .Add<|.cst (.int 3)<|.bin .Mod<|.ld 4<|.cmp .NotEq<|.done
theorem len_cons {α:Type} {l:List α} {n:Nat} (h:l.length=n + 1):∃ x r,l=x::r∧r.length=n:=by
 cases l with
 | nil=>cases h
 | cons x r=>exact ⟨x,r,rfl,Nat.succ.inj h⟩
theorem lc1:lamC gsT bsT (lamIn (fB (topS 20)) 1) 1=some cl1:=by kernel_rfl
theorem lc2:lamC gsT bsT (lamIn (fB (topS 20)) 2) 2=some cl2:=by kernel_rfl
theorem lc3:lamC gsT bsT (lamIn (fB (topS 20)) 3) 3=some cl3:=by kernel_rfl
theorem lc4:lamC gsT bsT (lamIn (fB (topS 20)) 4) 4=some cl4:=by kernel_rfl
noncomputable def fd457 (P:Params):FuncData:=(fdOf (K P) 457).get (by kernel_rfl)
section
variable {c:Cx} {P:Params} {n:Nat} {H fx:AH} {Q:V→AH→Prop}
theorem BinT.mulL2 {x y:Int} (h:-1000000≤x∧x≤1000000) (hq:Q (.int (x * y)) H):BinT c n .Mult (.int x) (.int y) H Q:=.ints fun t u A Z s hr R=>mul_int ⟨H,R.toks,hq⟩ (IntMulOk.of_left (bits_le h))
theorem lam_call (T:TopL c P) {f cell cc:Addr} {rest:Int} {vs:List Int} (h1:1≤vs.length) (h4:vs.length≤4) (e:H f=some (.fn vs.length cell cc)) (ec:H cell=some (.cell (.int rest))) (h:Q (.bool (lamB rest vs)) H):CallC c (n + 1) (.ref f) (iL vs) H Q:=by
 have hG:=T.hG
 have hl:∀ k,c.lam k=lamIn (fB (topS 20)) k:=fun k=>congrFun T.lam k
 cases vs with
 | nil=>cases h1
 | cons a vs=>cases vs with
  | nil=>
   refine CallC.lam hG e ec (hl _) lc1 (fun ws ctv S hw=>?_) ⟨by decide,_,rfl,rfl,?_⟩
   ·obtain ⟨x,rfl⟩:=List.length_eq_one_iff.mp hw
    kernel_rfl
   ·unfold lamB lamW lamW at h; rw [Int.mul_zero,Int.add_zero] at h; exact h
  | cons b vs=>cases vs with
   | nil=>
    refine CallC.lam hG e ec (hl _) lc2 (fun ws ctv S hw=>?_) (BinT.mulL2 (by decide) ⟨by decide,_,rfl,rfl,?_⟩)
    ·obtain ⟨x,w1,rfl,h1⟩:=len_cons hw
     obtain ⟨y,rfl⟩:=List.length_eq_one_iff.mp h1
     kernel_rfl
    ·rw [show lamB rest [a,b]=decide ((a + 2 * b) % 3≠rest) by unfold lamB; rw [show lamW [a,b]=a + 2 * b by show a + 2 * (b + 2 * 0)=_; rw [Int.mul_zero,Int.add_zero]]] at h
     exact h
   | cons d vs=>cases vs with
    | nil=>
     refine CallC.lam hG e ec (hl _) lc3 (fun ws ctv S hw=>?_) (BinT.mulL2 (by decide) (BinT.mulL2 (by decide) ⟨by decide,_,rfl,rfl,?_⟩))
     ·obtain ⟨x,w1,rfl,h1⟩:=len_cons hw
      obtain ⟨y,w2,rfl,h2⟩:=len_cons h1
      obtain ⟨z,rfl⟩:=List.length_eq_one_iff.mp h2
      kernel_rfl
     ·rw [show lamB rest [a,b,d]=decide ((a + 2 * b + 4 * d) % 3≠rest) by unfold lamB; rw [show lamW [a,b,d]=a + 2 * b + 4 * d by show a + 2 * (b + 2 * (d + 2 * 0))=_; rw [Int.mul_zero,Int.add_zero,Int.mul_add,← Int.mul_assoc,← Int.add_assoc]; rfl]] at h
      exact h
    | cons u vs=>cases vs with
     | nil=>
      refine CallC.lam hG e ec (hl _) lc4 (fun ws ctv S hw=>?_) (BinT.mulL2 (by decide) (BinT.mulL2 (by decide) (BinT.mulL2 (by decide) ⟨by decide,_,rfl,rfl,?_⟩)))
      ·obtain ⟨x,w1,rfl,h1⟩:=len_cons hw
       obtain ⟨y,w2,rfl,h2⟩:=len_cons h1
       obtain ⟨z,w3,rfl,h3⟩:=len_cons h2
       obtain ⟨q,rfl⟩:=List.length_eq_one_iff.mp h3
       kernel_rfl
      ·rw [show lamB rest [a,b,d,u]=decide ((a + 2 * b + 4 * d + 8 * u) % 3≠rest) by unfold lamB; rw [show lamW [a,b,d,u]=a + 2 * b + 4 * d + 8 * u by show a + 2 * (b + 2 * (d + 2 * (u + 2 * 0)))=_; rw [Int.mul_zero,Int.add_zero,Int.mul_add,Int.mul_add,Int.mul_add,← Int.mul_assoc,← Int.mul_assoc,← Int.mul_assoc,← Int.add_assoc,← Int.add_assoc]; rfl]] at h
       exact h
     | cons w vs=>exact absurd h4 (Nat.not_le_of_gt (Nat.le_add_left 5 _))
theorem four {z:Int} (h1:1≤z) (h4:z≤4) (n1:z≠1) (n2:z≠2) (n3:z≠3):z=4:=by
 obtain ⟨k,rfl⟩:=Int.eq_ofNat_of_zero_le (Int.le_trans (by decide) h1)
 have h:∀ k:Nat,k≤4→(1:Int)≤k→(k:Int)≠1→(k:Int)≠2→(k:Int)≠3→(k:Int)=4:=by decide
 exact h k (Int.ofNat_le.mp h4) h1 n1 n2 n3
set_option maxHeartbeats 2000000 in
theorem law_func (T:TopL c P) {size rest:Int} (h1:1≤size) (h4:size≤4) (h:∀ f cell cc,H f=none→H cell=none→f≠cell→Q (.ref f) ((H.set f (.fn size.toNat cell cc)).set cell (.cell (.int rest)))):CallC c (n+1) (.ref 457) [.int size,.int rest] H Q:=by
 have F:FnOk c.K gsT bsT (fd457 P) 2:=fnOk.ok (T.hK▸(by kernel_rfl:fnOk (K P) (fd457 P) 2=true))
 refine CallC.fnG (dfl:=[]) (gs:=gsT) (bs:=bsT) (fd:=fd457 P) (body:=fB (topS 20)) (T.hK▸(by kernel_rfl:fdOf (K P) 457=some (fd457 P))) (by kernel_rfl) F (T.hK▸(fun _ _ S=>by kernel_rfl:BindK (K P) 457 [] 2 []))
  (Qf:=fun L fl ρ' H'=>∃ f cc,fl=.ret (.ref f)∧H f=none∧H'=H.set f (.fn size.toNat (L + 1) cc)∧ρ'.at 1=some (.int rest)) (fun L=>?_) fun L Z s fl ρ' H' R q=>?_
 ·have Fe:=Fe.fn' F (L:=L) (f:=457)
  have lam:∀ {k ps b sc pos},size=k→c.lam k.toNat=(ps,b,sc)→(∀ env,defaultsOf ps env=([],[]))→closureFor sc (fmOf (fd457 P) L 457).env=pure [(("rest":Str),L + 1)]→∀ {Q':Fl→Loc→AH→Prop},(∀ fl ρ' H',(∃ f cc,fl=.ret (.ref f)∧H f=none∧H'=H.set f (.fn size.toNat (L + 1) cc)∧ρ'.at 1=some (.int rest))→Q' fl ρ' H')→
    ∀ {pos'},TXs c n (fmOf (fd457 P) L 457) [some (.int size),some (.int rest)] H [.Return (some (.Lambda ps b sc pos)) pos'] Q':=fun hk hl hd hcl Q' hQ pos'=>
   TXs.cons (P:=fun _ _=>False) (TX.ret (TE.lambda (size:=size.toNat) rfl (hd _) (by rw [T.lq]; kernel_rfl) (by rw [hk]; exact hl) hcl (code:=456) (by kernel_rfl) T.at_ fun f cc hf=>hQ _ _ _ ⟨f,cc,rfl,hf,rfl,rfl⟩)) fun _ _ q=>q.elim
  have hl:∀ k,c.lam k=lamIn (fB (topS 20)) k:=fun k=>congrFun T.lam k
  refine TXs.cons (P:=fun ρ' H2=>(ρ'=[some (.int size),some (.int rest)]∧H=H2)∧size≠1) (TX.ite (TB.cmp (TE.nm Fe (i:=0) (by kernel_rfl) (.inl rfl) rfl (TE.cint (wCmp.ok (wTruth.ok (ite_go (fun hb=>?_) fun hb=>?_))))) rfl)) ?_
  ·exact lam (of_decide_eq_true hb) (hl 1) (fun _=>rfl) (by kernel_rfl) fun fl ρ' H' q=>by obtain ⟨f,cc,rfl,q⟩:=q; exact ⟨f,cc,rfl,q⟩
  ·exact TXs.nil ⟨⟨rfl,rfl⟩,of_decide_eq_false hb⟩
  rintro _ _ ⟨⟨rfl,rfl⟩,n1⟩
  refine TXs.cons (P:=fun ρ' H2=>(ρ'=[some (.int size),some (.int rest)]∧H=H2)∧size≠2) (TX.ite (TB.cmp (TE.nm Fe (i:=0) (by kernel_rfl) (.inl rfl) rfl (TE.cint (wCmp.ok (wTruth.ok (ite_go (fun hb=>?_) fun hb=>?_))))) rfl)) ?_
  ·exact lam (of_decide_eq_true hb) (hl 2) (fun _=>rfl) (by kernel_rfl) fun fl ρ' H' q=>by obtain ⟨f,cc,rfl,q⟩:=q; exact ⟨f,cc,rfl,q⟩
  ·exact TXs.nil ⟨⟨rfl,rfl⟩,of_decide_eq_false hb⟩
  rintro _ _ ⟨⟨rfl,rfl⟩,n2⟩
  refine TXs.cons (P:=fun ρ' H2=>(ρ'=[some (.int size),some (.int rest)]∧H=H2)∧size≠3) (TX.ite (TB.cmp (TE.nm Fe (i:=0) (by kernel_rfl) (.inl rfl) rfl (TE.cint (wCmp.ok (wTruth.ok (ite_go (fun hb=>?_) fun hb=>?_))))) rfl)) ?_
  ·exact lam (of_decide_eq_true hb) (hl 3) (fun _=>rfl) (by kernel_rfl) fun fl ρ' H' q=>by obtain ⟨f,cc,rfl,q⟩:=q; exact ⟨f,cc,rfl,q⟩
  ·exact TXs.nil ⟨⟨rfl,rfl⟩,of_decide_eq_false hb⟩
  rintro _ _ ⟨⟨rfl,rfl⟩,n3⟩
  exact lam (four h1 h4 n1 n2 n3) (hl 4) (fun _=>rfl) (by kernel_rfl) fun fl ρ' H' q=>q
 ·obtain ⟨f,cc,rfl,hf,rfl,hv⟩:=q
  obtain ⟨q1,q2⟩:=R.cellKeep (i:=1) (x:="rest") (cell:=L + 1) ((Fe.fn' F).at_ (by kernel_rfl)) rfl (by kernel_rfl) hv
  have ne:f≠L + 1:=fun q=>by rw [← q,AH.set_self] at q1; cases q1
  exact ⟨_,q2,h f (L + 1) cc hf ((AH.set_ne (Ne.symm ne)).symm.trans q1) ne⟩
end
end Mine
namespace Mine
theorem ok169:ClsOk (K P) 169:=⟨by kernel_rfl,by kernel_rfl,by kernel_rfl,by kernel_rfl,fun _=>by kernel_rfl⟩
theorem ite_gof {b:Bool} {P P':Prop} (h:b=false→P) (h':b=true→P'):if b=false then P else P':=by
 cases b with
 | true=>exact h' rfl
 | false=>exact h rfl
theorem gvs_len {g:List (Int × Int)}:∀ {vars:List Int},msn g vars=[]→(gvs g vars).length=vars.length∧(vars.map fun x=>ovV (gAt g x))=iL (gvs g vars)
 | [],_=>⟨rfl,rfl⟩
 | x::r,h=>by
  unfold msn at h
  rw [List.filter_cons] at h
  cases hg:gAt g x with
  | none=>rw [hg] at h; cases h
  | some v=>
   rw [hg] at h
   have ih:=gvs_len (vars:=r) h
   unfold gvs at ih ⊢
   rw [List.filterMap_cons,hg,List.map_cons,hg,ih.2]
   exact ⟨congrArg Nat.succ ih.1,rfl⟩
section
variable {c:Cx} {P:Params} {n:Nat} {H fx:AH} {Q:V→AH→Prop} {da:Int→DA} {all vars:List Int} {D:Int→DS} {g:List (Int × Int)} {vr dr ar self d f cell cc:Addr} {rest:Int} {fc:Bool}
theorem CallC.star {a:Addr} {args:List V} {size:Nat} (e:H a=some (.fn size cell cc)) (h:CallC c n (.ref a) args H Q):StarT c n (.ref a) args H Q:=
 ⟨fun Z s fv ef R=>keep_fn e fv ef Z s R,fun fv vs e1 e2 A Z s hr R=>wpAny_call (codeAny_mono (h.go fv vs e1 e2 A Z s hr R) fun r s' x=>x)⟩
structure FnHold (fx:AH) (me d f cell cc:Addr) (size:Nat) (rest:Int):Prop where
 hi:Ins fx me 169 d [("_func",.ref f),("_assigned",.bool true)]
 hf:fx f=some (.fn size cell cc)
 hc:fx cell=some (.cell (.int rest))
theorem call_fnG (T:TopL c P) (S:St H fx da all D) (A:Ask fx da all vars g D vr dr ar) (I:FnHold fx self d f cell cc vars.length rest) (hl1:1≤vars.length) (hl4:vars.length≤4)
  (h0:msn g vars=[]→∀ H',St H' fx da all D→Q (.bool (lamB rest (gvs g vars))) H')
  (h1:msn g vars≠[]→(fc=false∨(msn g vars).length≠1)→∀ H',St H' fx da all D→Q (.bool true) H')
  (h2:fc=true→(msn g vars).length=1→∀ H',St H' fx da all D→CallC c (n + 1) (.ref 138) [.ref self,.ref vr,.ref dr,.ref ar] H' Q) :
  w c (n + 1) c166 [] (b5 self vr dr ar (.bool fc) [some (.ref 51),none,none,none]) H (endK Q):=by
 obtain ⟨Ii,If,Ic⟩:=I
 refine w_compP (fun u=>[none,u,some (.ref 51),some (.ref ar)]) (fun i=>(vars.take i).map fun x=>ovV (gAt g x)) none (.list (S.sub _ _ A.lv)) (by rw [it_len]; exact Nat.le_trans hl4 (by decide)) rfl (S.sub _ _ A.lv) (fun i xs u K' hi hn _=>?_) fun Pl hPl=>?_
 ·obtain ⟨x,ex,rfl⟩:=it_iL hi
  refine ⟨_,_,getGet (S.sub _ _ A.la),CallV.get (S.sub _ _ A.la) (hn _ (some (.int x)) ?_)⟩
  rw [vAt_ov,take_snoc ex,List.map_append]; rfl
 rw [it_len,List.take_length]
 have S1:=S.new' (o:=.list (vars.map fun x=>ovV (gAt g x))) hPl
 have eP:(H.set Pl (.list (vars.map fun x=>ovV (gAt g x)))) Pl=some (.list (vars.map fun x=>ovV (gAt g x))):=AH.set_self
 refine w_compP (fun u=>[none,u,some (.ref 51)]) (fun i=>(msn g (vars.take i)).map fun _=>V.ref 51) none (.list eP) (by rw [List.length_map,List.length_map]; exact Nat.le_trans hl4 (by decide)) rfl eP (fun i xs u K' hi hn hc=>?_) fun Ml hMl=>?_
 ·rw [List.getElem?_map,List.getElem?_map,Option.map_map] at hi
  obtain ⟨x,ex,rfl⟩:=Option.map_eq_some_iff.mp hi
  have em:=msn_snoc (g:=g) ex
  refine is_un T.toTopK ?_
  cases hg:gAt g x with
  | none=>
   refine hn (ovV (gAt g x)) (some (ovV (gAt g x))) ?_
   rw [em,hg,List.map_append]; rfl
  | some v=>
   refine hc [] (some (ovV (gAt g x))) ?_
   rw [em,hg,if_neg (show ¬ (some v).isNone=true from Bool.false_ne_true),List.append_nil]
 rw [List.length_map,List.length_map,List.take_length]
 have S2:=S1.new' (o:=.list ((msn g vars).map fun _=>V.ref 51)) hMl
 have eP2:((H.set Pl (.list (vars.map fun x=>ovV (gAt g x)))).set Ml (.list ((msn g vars).map fun _=>V.ref 51))) Pl=some (.list (vars.map fun x=>ovV (gAt g x))):=AH.set_new eP hMl
 refine CallV.len AH.set_self ?_
 rw [List.length_map]
 have atF:∀ {Q:V→AH→Prop},Q (.ref f) ((H.set Pl (.list (vars.map fun x=>ovV (gAt g x)))).set Ml (.list ((msn g vars).map fun _=>V.ref 51)))→AttrT c (n + 1) (.ref self) "_func" ((H.set Pl (.list (vars.map fun x=>ovV (gAt g x)))).set Ml (.list ((msn g vars).map fun _=>V.ref 51))) Q:=fun h=>AttrT.own (T.cls ok169) (by decide) (Ins.sub Ii S2.sub) (T.fi (by kernel_rfl)) rfl trivial h
 refine ite_go (fun hb=>?_) fun hb=>?_
 ·have hm:msn g vars≠[]:=fun q=>by rw [q] at hb; cases hb
  refine AttrT.own (T.cls ok169) (by decide) (Ins.sub Ii S2.sub) (v:=.bool true) (T.fi (by kernel_rfl)) rfl trivial ?_
  cases fc with
  | false=>exact ⟨_,Sub.refl _,h1 hm (.inl rfl) _ S2⟩
  | true=>
   refine ite_gof (fun hn=>?_) fun hn=>⟨_,Sub.refl _,by have:=h1 hm (.inr fun q=>of_decide_eq_true hn (congrArg Int.ofNat q)) _ S2; rw [show V.bool true=.bool (decide (((msn g vars).length:Int)≠1)) by rw [hn]] at this; exact this⟩
   have hn':(msn g vars).length=1:=Int.ofNat.inj (Decidable.not_not.mp (of_decide_eq_false hn))
   refine ⟨_,_,GetX.cls (T.cls ok169) (Ins.sub Ii S2.sub) (m:=.ref 138) (T.fi (by kernel_rfl)) (T.ty (by kernel_rfl)) (.inl rfl) rfl,?_⟩
   exact ((h2 rfl hn' _ S2).call (kp138 T.toTopK)).mn fun v H3 q=>⟨_,Sub.refl _,q⟩
 ·have hm:msn g vars=[]:=by cases q:msn g vars with | nil=>rfl | cons a r=>rw [q] at hb; cases hb
  have G:=gvs_len hm
  refine atF ⟨Pl,_,rfl,eP2,?_⟩
  have ef:=S2.sub _ _ If
  rw [← G.1] at ef
  rw [G.2] at ef S2 ⊢
  exact CallC.star ef (lam_call T (by rw [G.1]; exact hl1) (by rw [G.1]; exact hl4) ef (S2.sub _ _ Ic) ⟨_,Sub.refl _,h0 hm _ S2⟩)
end
end Mine
namespace Mine
theorem msn_one {g:List (Int × Int)} {vars:List Int} {x v:Int} (h:msn g vars=[x]):msn (g++[(x,v)]) vars=[]∧x∈vars∧gAt g x=none:=by
 have hm:x∈msn g vars:=by rw [h]; exact List.mem_singleton.mpr rfl
 have hx:=(List.mem_filter.mp hm).1
 have hg:gAt g x=none:=by
  have:=(List.mem_filter.mp hm).2
  cases q:gAt g x with
  | none=>rfl
  | some v=>rw [q] at this; cases this
 refine ⟨?_,hx,hg⟩
 unfold msn
 rw [List.filter_eq_nil_iff]
 intro y hy
 by_cases q:y=x
 ·subst q; rw [gAt_new hg]; exact fun h=>by cases h
 ·rw [gAt_snoc_ne q]
  intro w
  have:y∈msn g vars:=List.mem_filter.mpr ⟨hy,w⟩
  rw [h] at this
  exact q (List.mem_singleton.mp this)
section
variable {c:Cx} {P:Params} {n:Nat} {H fx:AH} {Q:V→AH→Prop} {da:Int→DA} {all vars:List Int} {D:Int→DS} {g:List (Int × Int)} {vr dr ar self d f cell cc:Addr} {rest:Int} {fc:Bool}
theorem call_fn (T:TopL c P) (S:St H fx da all D) (A:Ask fx da all vars g D vr dr ar) (I:FnHold fx self d f cell cc vars.length rest) (hne:dr≠ar) (hl1:1≤vars.length) (hl4:vars.length≤4) (hgl:g.length≤1000)
  (h0:msn g vars=[]→∀ H',St H' fx da all D→Q (.bool (lamB rest (gvs g vars))) H')
  (h1:msn g vars≠[]→(fc=false∨(msn g vars).length≠1)→∀ H',St H' fx da all D→Q (.bool true) H')
  (h2:fc=true→∀ x,msn g vars=[x]→∀ H',St H' fx da all (upd D x (hid1 (D x) fun v=>lamB rest (gvs (g++[(x,v)]) vars)))→Q (.bool (!((D x).vs.filter fun v=>lamB rest (gvs (g++[(x,v)]) vars)).isEmpty)) H') :
  w c (n + 5) c166 [] (b5 self vr dr ar (.bool fc) [some (.ref 51),none,none,none]) H (endK Q):=by
 refine call_fnG (n:=n + 4) T S A I hl1 hl4 h0 h1 fun hf hm H' S'=>k138_4 T.toTopK (fwd T.toTopK S' A hne hgl (fun x v=>lamB rest (gvs (g++[(x,v)]) vars)) (fun x v fx' D' H2 Q' hx hv _ hsub A2 S2 k=>?_) (fun h=>absurd hm h) fun x hx H2 S2=>h2 hf x hx H2 S2)
 obtain ⟨m1,m2,m3⟩:=msn_one (v:=v) hx
 obtain ⟨Ii,If,Ic⟩:=I
 have ne:∀ {b:Addr} {o:AO},fx b=some o→(∀ es ep,o≠.dict es ep)→(fx.set ar (.dict (gI (g++[(x,v)])) none)) b=some o:=fun e h=>(AH.set_ne (A.ne e h)).trans e
 have I2:FnHold fx' self d f cell cc vars.length rest:=⟨⟨.inl (hsub _ _ (ne (Ii.o.resolve_right fun q=>nomatch q.1) fun _ _ q=>nomatch q)),hsub _ _ (ne Ii.n fun _ _ q=>nomatch q)⟩,hsub _ _ (ne If fun _ _ q=>nomatch q),hsub _ _ (ne Ic fun _ _ q=>nomatch q)⟩
 exact CallV.inst (f:=166) (S2.sub _ _ (I2.hi.o.resolve_right fun q=>nomatch q.1)) (T.fi (by kernel_rfl)) (T.hK▸(by kernel_rfl:(fdOf (K P) 166).isSome=true)) (T.ty (by kernel_rfl)) (k166_5 T.toTopK (call_fnG (fc:=false) T S2 A2 I2 hl1 hl4 (fun _ H3 S3=>k H3 S3) (fun h=>absurd m1 h) fun h=>nomatch h))
structure NewI (H0 H:AH) (x C d:Addr) (fs:List (Str × V)):Prop where
 hx:H x=some (.inst C d)
 hd:H d=some (.ns fs)
 sub:Sub H0 H
 fr:H0 d=none∧H0 x=none
theorem NewI.ins {H0 H:AH} {x C d:Addr} {fs:List (Str × V)} (N:NewI H0 H x C d fs):Ins H x C d fs:=.i N.hx N.hd
theorem NewI.of {x C d:Addr} (M:Made H x d):NewI H (H.two x d (.inst C d)) x C d []:=⟨AH.set_self,(AH.set_ne (Ne.symm M.ne)).trans AH.set_self,M.sub,M.hd,M.hx⟩
theorem setStep {H0:AH} {x C d:Addr} {fs:List (Str × V)} {ρ:Loc} {i:Nat} {v:V} {m:Str} {k:Code} {Kk:KT} (T:TopK c P) (hC:ClsOk (K P) C) (N:NewI H0 H x C d fs) (e0:ρ.at 0=some (.ref x)) (ei:ρ.at i=some v) (hn:findIn (K P) (.ref C) m=some none) (hl:fs.length < 1000)
  (h:∀ H',NewI H0 H' x C d (fPut fs m v)→w c n k [] ρ H' Kk):w c n (.ld i<|.ld 0<|.sattr m k) [] ρ H Kk:=
 w_ld ei (w_ld e0 (SetA.ins (T.cls hC) N.ins (T.fi hn) hl (h _ ⟨(AH.set_ne fun q=>by have:=N.hx; rw [q,N.hd] at this; cases this).trans N.hx,AH.set_self,fun b o e=>(AH.set_ne fun q=>no_some N.fr.1 (q▸e)).trans (N.sub _ _ e),N.fr⟩)))
noncomputable abbrev MadeQ (H:AH) (C:Addr) (fs:List (Str × V)) (Q:V→AH→Prop):Prop:=∀ x d H',NewI H H' x C d fs→Q (.ref x) H'
theorem ok341:ClsOk (K P) 341:=⟨by kernel_rfl,by kernel_rfl,by kernel_rfl,by kernel_rfl,fun _=>by kernel_rfl⟩
theorem ok375:ClsOk (K P) 375:=⟨by kernel_rfl,by kernel_rfl,by kernel_rfl,by kernel_rfl,fun _=>by kernel_rfl⟩
theorem mk_max (T:TopK c P) {u v:V} (h:MadeQ H 244 [("_maxsum",u),("_multipliers",v)] Q):CallV c (n + 2) (.ref 244) [u,v] H Q:=
 CallV.mkInst (f:=226) (T.mks (by kernel_rfl)) (T.kp (by kernel_rfl)) (T.fi (by kernel_rfl)) (T.ty (by kernel_rfl)) fun x d M=>k226_3 T (setStep T ok244 (.of M) rfl rfl (by kernel_rfl) (by show 0 < 1000; decide) fun _ N=>setStep T ok244 N rfl rfl (by kernel_rfl) (by show 1 < 1000; decide) fun _ N2=>⟨_,Sub.refl _,rfl,h _ _ _ N2⟩)
theorem mk_exact (T:TopK c P) {u v:V} (h:MadeQ H 279 [("_exactsum",u),("_multipliers",v)] Q):CallV c (n + 2) (.ref 279) [u,v] H Q:=
 CallV.mkInst (f:=261) (T.mks (by kernel_rfl)) (T.kp (by kernel_rfl)) (T.fi (by kernel_rfl)) (T.ty (by kernel_rfl)) fun x d M=>k261_3 T (setStep T ok279 (.of M) rfl rfl (by kernel_rfl) (by show 0 < 1000; decide) fun _ N=>setStep T ok279 N rfl rfl (by kernel_rfl) (by show 1 < 1000; decide) fun _ N2=>⟨_,Sub.refl _,rfl,h _ _ _ N2⟩)
theorem mk_min (T:TopK c P) {u v:V} (h:MadeQ H 307 [("_minsum",u),("_multipliers",v)] Q):CallV c (n + 2) (.ref 307) [u,v] H Q:=
 CallV.mkInst (f:=296) (T.mks (by kernel_rfl)) (T.kp (by kernel_rfl)) (T.fi (by kernel_rfl)) (T.ty (by kernel_rfl)) fun x d M=>k296_3 T (setStep T ok307 (.of M) rfl rfl (by kernel_rfl) (by show 0 < 1000; decide) fun _ N=>setStep T ok307 N rfl rfl (by kernel_rfl) (by show 1 < 1000; decide) fun _ N2=>⟨_,Sub.refl _,rfl,h _ _ _ N2⟩)
theorem mk_inset (T:TopK c P) {u:V} (h:MadeQ H 341 [("_set",u)] Q):CallV c (n + 2) (.ref 341) [u] H Q:=
 CallV.mkInst (f:=323) (T.mks (by kernel_rfl)) (T.kp (by kernel_rfl)) (T.fi (by kernel_rfl)) (T.ty (by kernel_rfl)) fun x d M=>k323_2 T (setStep T ok341 (.of M) rfl rfl (by kernel_rfl) (by show 0 < 1000; decide) fun _ N=>⟨_,Sub.refl _,rfl,h _ _ _ N⟩)
theorem mk_notin (T:TopK c P) {u:V} (h:MadeQ H 375 [("_set",u)] Q):CallV c (n + 2) (.ref 375) [u] H Q:=
 CallV.mkInst (f:=357) (T.mks (by kernel_rfl)) (T.kp (by kernel_rfl)) (T.fi (by kernel_rfl)) (T.ty (by kernel_rfl)) fun x d M=>k357_2 T (setStep T ok375 (.of M) rfl rfl (by kernel_rfl) (by show 0 < 1000; decide) fun _ N=>⟨_,Sub.refl _,rfl,h _ _ _ N⟩)
theorem mk_somein (T:TopK c P) {u v y:V} (h:MadeQ H 403 [("_set",u),("_n",v),("_exact",y)] Q):CallV c (n + 2) (.ref 403) [u,v,y] H Q:=
 CallV.mkInst (f:=392) (T.mks (by kernel_rfl)) (T.kp (by kernel_rfl)) (T.fi (by kernel_rfl)) (T.ty (by kernel_rfl)) fun x d M=>k392_4 T (setStep T ok403 (.of M) rfl rfl (by kernel_rfl) (by show 0 < 1000; decide) fun _ N=>setStep T ok403 N rfl rfl (by kernel_rfl) (by show 1 < 1000; decide) fun _ N2=>setStep T ok403 N2 rfl rfl (by kernel_rfl) (by show 2 < 1000; decide) fun _ N3=>⟨_,Sub.refl _,rfl,h _ _ _ N3⟩)
theorem mk_someout (T:TopK c P) {u v y:V} (h:MadeQ H 431 [("_set",u),("_n",v),("_exact",y)] Q):CallV c (n + 2) (.ref 431) [u,v,y] H Q:=
 CallV.mkInst (f:=420) (T.mks (by kernel_rfl)) (T.kp (by kernel_rfl)) (T.fi (by kernel_rfl)) (T.ty (by kernel_rfl)) fun x d M=>k420_4 T (setStep T ok431 (.of M) rfl rfl (by kernel_rfl) (by show 0 < 1000; decide) fun _ N=>setStep T ok431 N rfl rfl (by kernel_rfl) (by show 1 < 1000; decide) fun _ N2=>setStep T ok431 N2 rfl rfl (by kernel_rfl) (by show 2 < 1000; decide) fun _ N3=>⟨_,Sub.refl _,rfl,h _ _ _ N3⟩)
theorem mk_fn (T:TopK c P) {u:V} (h:MadeQ H 169 [("_func",u),("_assigned",.bool true)] Q):CallV c (n + 2) (.ref 169) [u] H Q:=
 CallV.mkInst (f:=160) (T.mks (by kernel_rfl)) (T.kp (by kernel_rfl)) (T.fi (by kernel_rfl)) (T.ty (by kernel_rfl)) fun x d M=>k160_2 T (setStep T ok169 (.of M) rfl rfl (by kernel_rfl) (by show 0 < 1000; decide) fun _ N=>setStep T ok169 N rfl rfl (by kernel_rfl) (by show 1 < 1000; decide) fun _ N2=>⟨_,Sub.refl _,rfl,h _ _ _ N2⟩)
theorem mk_diff (T:TopK c P) (h:MadeQ H 189 [] Q):CallV c n (.ref 189) [] H Q:=CallV.mkInst0 (T.mks (by kernel_rfl)) (T.kp (by kernel_rfl)) (T.fi (by kernel_rfl)) fun x d M=>h _ _ _ (.of M)
theorem mk_equal (T:TopK c P) (h:MadeQ H 209 [] Q):CallV c n (.ref 209) [] H Q:=CallV.mkInst0 (T.mks (by kernel_rfl)) (T.kp (by kernel_rfl)) (T.fi (by kernel_rfl)) fun x d M=>h _ _ _ (.of M)
end
end Mine
namespace Mine
theorem clip_neg {d n:Nat} (h0:0 < d) (h:d≤n):clip (-(d:Int)) n=n - d:=by
 unfold clip
 rw [if_pos (Int.neg_neg_of_pos (Int.ofNat_lt.mpr h0)),neg_add_nat h,clip_nat (Nat.sub_le n d)]; rfl
theorem cut_tail {vs:List Int} {d:Nat} (h0:0 < d) (h:d≤vs.length):cut (some (-(d:Int))) none (iL vs)=iL (vs.drop (vs.length - d)):=by
 show ((iL vs).take (iL vs).length).drop (clip (-(d:Int)) (iL vs).length)=_
 rw [List.take_length,List.length_map,clip_neg h0 h]
 exact (List.map_drop ..).symm
noncomputable def psh (d:DS):DS:=⟨d.vs,d.hid,d.st++[(d.vs.length:Int)]⟩
noncomputable def pulled (d:DS) (k:Nat) (st:List Int):DS:=⟨d.vs++d.hid.drop (d.hid.length - (k - d.vs.length)),d.hid.take (d.hid.length - (k - d.vs.length)),st⟩
section
variable {c:Cx} {P:Params} {n:Nat} {H fx:AH} {Q:V→AH→Prop} {da:Int→DA} {all:List Int} {D:Int→DS} {x:Int}
theorem push (T:TopK c P) (S:St H fx da all D) (hx:x∈all) (hl:(D x).st.length < 1000) (h:∀ H',St H' fx da all (upd D x (psh (D x)))→Q .none H'):CallV c (n + 1) (.ref 80) [.ref (da x .a)] H Q:=by
 refine (k80_1 T ?_).call (kp80 T)
 refine attrSta T S hx ⟨_,_,getAppend (S.at_ x hx .y),CallV.lenDom T.D (S.at_ x hx .a) (CallV.append (S.at_ x hx .y) (by rw [List.length_map]; exact Nat.lt_trans hl (by decide)) ⟨rfl,_,Sub.refl _,h _ ?_⟩)⟩
 have S1:=S.slot hx .y (psh (D x)) fun j hj=>by cases j <;> first | rfl | exact absurd rfl hj
 rw [show obj (da x) (psh (D x)) .y=.list (iL (D x).st++[.int (iL (D x).vs).length]) by unfold obj psh; rw [List.length_map]; exact congrArg _ (List.map_append ..)] at S1
 exact S1
theorem pull (T:TopK c P) (S:St H fx da all D) (hx:x∈all) {k:Nat} {st:List Int} (es:(D x).st=st++[(k:Int)]) (hk:(D x).vs.length≤k) (hk2:k - (D x).vs.length≤(D x).hid.length) (hl:(D x).vs.length + (D x).hid.length≤100000) (h:∀ H',St H' fx da all (upd D x (pulled (D x) k st))→Q .none H'):CallV c (n + 1) (.ref 87) [.ref (da x .a)] H Q:=by
 refine (k87_1 T ?_).call (kp87 T)
 have ey:=S.at_ x hx .y
 unfold obj at ey
 rw [es,show iL (st++[(k:Int)])=iL st++[.int k] from List.map_append ..] at ey
 refine attrSta T S hx ⟨_,_,getPop ey,CallV.pop ey ?_⟩
 have S1:=S.slot hx .y ⟨(D x).vs,(D x).hid,st⟩ fun j hj=>by cases j <;> first | rfl | exact absurd rfl hj
 have up:∀ {d:DS},(upd D x d) x=d:=upd_self
 refine CallV.lenDom T.D (by have:=S1.at_ x hx .a; rw [up] at this; exact this) ?_
 rw [List.length_map]
 have ed:(k:Int) - ((D x).vs.length:Nat)=((k - (D x).vs.length:Nat):Int):=(Int.ofNat_sub hk).symm
 show w c n (.st 1 _) [.int ((k:Int) - ((D x).vs.length:Nat))] _ _ _
 rw [ed]
 generalize hd:k - (D x).vs.length=d at *
 refine ite_go (fun hb=>?_) fun hb=>?_
 ·have h0:0 < d:=Nat.pos_of_ne_zero fun q=>by rw [q] at hb; cases hb
  refine ⟨_,_,getD T S1 hx (m:=.builtin "list.extend") (by kernel_rfl) (by kernel_rfl) (.inr rfl) rfl,attrHid T S1 hx ?_⟩
  have ex:=S1.at_ x hx .x
  rw [up] at ex
  refine SliceT.list (a:=some (-(d:Int))) (b:=none) ex rfl rfl fun L hL=>?_
  rw [cut_tail h0 hk2]
  have S2:=S1.new (o:=.list (iL ((D x).hid.drop ((D x).hid.length - d)))) hL
  refine CallV.extendDom T.D (vs:=iL (D x).vs) (by have:=S2.at_ x hx .a; rw [up] at this; exact this) AH.set_self (by rw [List.length_map,List.length_map,List.length_drop]; exact Nat.le_trans (Nat.add_le_add_left (Nat.sub_le ..) _) hl) ⟨rfl,?_⟩
  have S3:=S2.slot hx .a ⟨(D x).vs++(D x).hid.drop ((D x).hid.length - d),(D x).hid,st⟩ fun j hj=>by rw [up]; cases j <;> first | rfl | exact absurd rfl hj
  rw [upd_upd,show obj (da x) ⟨(D x).vs++(D x).hid.drop ((D x).hid.length - d),(D x).hid,st⟩ .a=.sub (da x .d) (iL (D x).vs++iL ((D x).hid.drop ((D x).hid.length - d))) from congrArg _ (List.map_append ..)] at S3
  refine attrHid T S3 hx ?_
  refine DelS.tail (vs:=iL (D x).hid) (by have:=S3.at_ x hx .x; rw [up] at this; exact this) h0 (by rw [List.length_map]; exact hk2) ⟨_,Sub.refl _,h _ ?_⟩
  have S4:=S3.slot hx .x (pulled (D x) k st) fun j hj=>by
   rw [up]
   unfold pulled
   rw [hd]
   cases j <;> first | rfl | exact absurd rfl hj
  rw [upd_upd] at S4
  have:=S4.loose (fx':=fx) (Sub.new (S.sub.none (by rw [← hL]; exact (AH.set_ne (fun q=>by rw [q] at hL; exact no_some hL AH.set_self)).symm)))
  rw [show obj (da x) (pulled (D x) k st) .x=.list ((iL (D x).hid).take ((iL (D x).hid).length - d)) by unfold obj pulled; rw [hd,List.length_map]; exact congrArg _ (List.map_take ..)] at this
  exact this
 ·have h0:d=0:=Int.ofNat.inj (bne_eq_false_iff_eq.mp hb)
  refine ⟨_,Sub.refl _,h _ ?_⟩
  have e:pulled (D x) k st=⟨(D x).vs,(D x).hid,st⟩:=by unfold pulled; rw [hd,h0,Nat.sub_zero,List.drop_length,List.take_length,List.append_nil]
  rw [e]; exact S1
structure NewDom (H H':AH) (A:DA) (vs:List Int):Prop where
 sub:Sub H H'
 fr:∀ i,H (A i)=none
 at_:∀ i,H' (A i)=some (obj A ⟨vs,[],[]⟩ i)
 inj:∀ i j,A i=A j→i=j
theorem mkL {S:Setting}:MkL (K P) S:=
 ⟨fun v=>by kernel_rfl,fun v=>by kernel_rfl,fun v=>by kernel_rfl,⟨_,(by kernel_rfl:peek (K P) S (mroOf (.ref DomC))=some [.ref DomC,.type "list",.type "object"]),rfl⟩,by kernel_rfl,by kernel_rfl,by kernel_rfl,by kernel_rfl,by kernel_rfl⟩
theorem make (T:TopK c P) {l:Addr} {vs:List Int} (el:H l=some (.list (iL vs))) (h:∀ A H',NewDom H H' A vs→Q (.ref (A .a)) H'):CallV c (n + 2) (.ref 97) [.ref l] H Q:=by
 refine CallV.mkSub (f:=66) (T.hK▸mkL) (T.kp (by kernel_rfl)) (T.fi (by kernel_rfl)) (T.ty (by kernel_rfl)) fun x d M=>k66_2 T ?_
 refine ⟨_,_,GetX.onList (id:="list.__init__") (by rw [T.hK]; kernel_rfl) (by kernel_rfl) (T.fi (by kernel_rfl)) (by rw [T.hK]; kernel_rfl),?_⟩
 refine CallV.initDom T.D AH.set_self (M.sub _ _ el) ⟨rfl,fun a1 h1=>?_⟩
 rw [AH.set_set] at h1 ⊢
 have xa:x≠a1:=fun q=>by rw [← q,AH.set_self] at h1; cases h1
 have da1:d≠a1:=fun q=>by rw [← q,AH.set_ne (Ne.symm M.ne),AH.set_self] at h1; cases h1
 have H1a:H a1=none:=by rw [AH.set_ne (Ne.symm xa),AH.set_ne (Ne.symm da1)] at h1; exact h1
 refine SetA.ins (d:=d) (fs:=[]) (T.cls okDom) (.d (vs:=iL vs) (by rw [AH.set_ne xa,AH.set_self]) (by rw [AH.set_ne da1,AH.set_ne (Ne.symm M.ne),AH.set_self])) (T.fi (by kernel_rfl)) (by decide) fun a2 h2=>?_
 have da2:d≠a2:=fun q=>by rw [← q,AH.set_self] at h2; cases h2
 rw [AH.set_ne (Ne.symm da2)] at h2
 have a12:a1≠a2:=fun q=>by rw [← q,AH.set_self] at h2; cases h2
 rw [AH.set_ne (Ne.symm a12)] at h2
 have xa2:x≠a2:=fun q=>by rw [← q,AH.set_self] at h2; cases h2
 rw [AH.set_ne (Ne.symm xa2),AH.set_ne (Ne.symm da2)] at h2
 refine SetA.ins (d:=d) (fs:=[(sHid,.ref a1)]) (T.cls okDom) (.d (vs:=iL vs) (by rw [AH.set_ne xa2,AH.set_ne M.ne,AH.set_ne xa,AH.set_self]) (by rw [AH.set_ne da2,AH.set_self]; rfl)) (T.fi (by kernel_rfl)) (by show 1 < 1000; decide) ⟨_,Sub.refl _,rfl,h (fun | .a=>x | .d=>d | .x=>a1 | .y=>a2) _ ⟨fun b o e=>?_,fun i=>?_,fun i=>?_,fun i j q=>?_⟩⟩
 ·have nb:∀ {a},H a=none→b≠a:=fun q w=>no_some q (w▸e)
  rw [AH.set_ne (nb M.hd),AH.set_ne (nb h2),AH.set_ne (nb M.hd),AH.set_ne (nb H1a),AH.set_ne (nb M.hx),AH.set_ne (nb M.hd)]; exact e
 ·cases i <;> first | exact M.hx | exact M.hd | exact H1a | exact h2
 ·cases i with
  | a=>rw [AH.set_ne M.ne,AH.set_ne xa2,AH.set_ne M.ne,AH.set_ne xa,AH.set_self]; rfl
  | d=>rw [AH.set_self]; rfl
  | x=>rw [AH.set_ne (Ne.symm da1),AH.set_ne a12,AH.set_ne (Ne.symm da1),AH.set_self]; rfl
  | y=>rw [AH.set_ne (Ne.symm da2),AH.set_self]; rfl
 ·cases i <;> cases j <;> first | rfl | exact absurd q M.ne | exact absurd q (Ne.symm M.ne) | exact absurd q xa | exact absurd q (Ne.symm xa) | exact absurd q da1 | exact absurd q (Ne.symm da1) | exact absurd q xa2 | exact absurd q (Ne.symm xa2) | exact absurd q da2 | exact absurd q (Ne.symm da2) | exact absurd q a12 | exact absurd q (Ne.symm a12)
theorem St.grow {H':AH} {A:DA} {vs:List Int} (S:St H fx da all D) (N:NewDom H H' A vs) (hx:x∉all):St H' fx (upd da x A) (all++[x]) (upd D x ⟨vs,[],[]⟩):=by
 have old:∀ y∈all,upd da x A y=da y:=fun y hy=>upd_ne fun q:y=x=>hx (q▸hy)
 have each:∀ {p:Int→Prop},(∀ y∈all,p y)→p x→∀ y∈all++[x],p y:=fun h1 h2 y hy=>(List.mem_append.mp hy).elim (h1 y) fun q=>List.mem_singleton.mp q▸h2
 have ap:∀ y∈all,∀ i j,da y i≠A j:=fun y hy i j q=>no_some (N.fr j) (q▸S.at_ y hy i)
 refine ⟨S.sub.trans N.sub,each (fun y hy i=>?_) fun i=>?_,each (fun y hy=>each (fun z hz i j q=>?_) fun i j q=>?_) (each (fun z hz i j q=>?_) fun i j q=>?_),each (fun y hy i=>?_) fun i=>?_⟩
 ·rw [old y hy,upd_ne fun q:y=x=>hx (q▸hy)]; exact N.sub _ _ (S.at_ y hy i)
 ·rw [upd_self,upd_self]; exact N.at_ i
 ·rw [old y hy,old z hz] at q; exact S.inj y hy z hz i j q
 ·rw [old y hy,upd_self] at q; exact absurd q (ap y hy i j)
 ·rw [old z hz,upd_self] at q; exact absurd q.symm (ap z hz j i)
 ·rw [upd_self] at q; exact ⟨rfl,N.inj i j q⟩
 ·rw [old y hy]; exact S.off y hy i
 ·rw [upd_self]; exact S.sub.none (N.fr i)
end
end Mine
namespace Mine
noncomputable def ShownAt (H:AH) (R:Addr) (ls:List (List Int)):Prop:=∃ vs,H R=some (.list vs)∧All2 (IL H) vs ls
theorem ShownAt.sub {H H':AH} {R:Addr} {ls:List (List Int)} (h:ShownAt H R ls) (s:Sub H H'):ShownAt H' R ls:=h.imp fun vs q=>⟨s _ _ q.1,q.2.mono fun v b q=>IS.sub q s⟩
noncomputable def save (D:Int→DS) (L:List Int):Int→DS:=fun x=>if x∈L then psh (D x) else D x
theorem save_off {D:Int→DS} {L:List Int} {x:Int} (h:x∉L):save D L x=D x:=if_neg h
theorem save_snoc {D:Int→DS} {L:List Int} {x:Int} (h:x∉L):save D (L++[x])=upd (save D L) x (psh (D x)):=funext fun y=>by
 by_cases q:y=x
 ·subst q; rw [upd_self]; exact if_pos (List.mem_append_right _ (List.mem_singleton.mpr rfl))
 ·rw [upd_ne q]
  exact ite_congr (propext ⟨fun w=>(List.mem_append.mp w).elim id fun r=>absurd (List.mem_singleton.mp r) q,List.mem_append_left _⟩) (fun _=>rfl) fun _=>rfl
structure Back (d0 d1:DS):Prop where
 vs:d1.vs.Perm d0.vs
 hid:d1.hid=d0.hid
 st:d1.st=d0.st
theorem iL_append (a b:List Int):iL (a++b)=iL a++iL b:=List.map_append ..
theorem mod4 (z:Int):∃ k:Nat,z % 4=k∧k < 4:=by
 obtain ⟨k,hk⟩:=Int.eq_ofNat_of_zero_le (Int.emod_nonneg z (show (4:Int)≠0 by decide))
 exact ⟨k,hk,Int.ofNat_lt.mp (hk▸Int.emod_lt_of_pos z (show (0:Int) < 4 by decide))⟩
theorem mod3 (z:Int):∃ k:Nat,z % 3=k∧k < 3:=by
 obtain ⟨k,hk⟩:=Int.eq_ofNat_of_zero_le (Int.emod_nonneg z (show (3:Int)≠0 by decide))
 exact ⟨k,hk,Int.ofNat_lt.mp (hk▸Int.emod_lt_of_pos z (show (0:Int) < 3 by decide))⟩
noncomputable def lawValues (m:Int):List Int:=(List.range (3 - m / 3 % 3).toNat).map fun (i:Nat)=>m % 3 + (i:Int) * (1 + m / 9 % 2)
theorem range_at {n i:Nat} {xs:List V} (h:((List.range n).map fun i:Nat=>[V.int i])[i]?=some xs):xs=[.int i]∧i < n:=by
 rw [List.getElem?_map] at h
 obtain ⟨j,hj,rfl⟩:=Option.map_eq_some_iff.mp h
 obtain ⟨hi,e⟩:=List.getElem?_eq_some_iff.mp hj
 rw [List.getElem_range] at e
 rw [List.length_range] at hi
 exact ⟨by rw [e],hi⟩
theorem take_range_succ {n i:Nat} (h:i < n):(List.range n).take (i + 1)=(List.range n).take i++[i]:=take_snoc (by rw [List.getElem?_range h])
section
variable {c:Cx} {P:Params} {n:Nat} {H fx:AH} {Q:V→AH→Prop} {da:Int→DA} {all names:List Int} {D:Int→DS} {dr nr l:Addr} {ep:Option Nat}
theorem law_at (T:TopK c P) {ns:List Int} {i:Nat} (e:H l=some (.list (iL ns))) (h:Q (.int (ns.getD i 0)) H):CallC c (n + 1) (.ref 440) [.ref l,.int i] H Q:=by
 refine k440_2 T (CallV.len e ?_)
 rw [List.length_map]
 rw [List.getD_eq_getElem?_getD] at h
 refine ite_go (fun hb=>?_) fun hb=>?_
 ·have hi:i < ns.length:=Int.ofNat_lt.mp (of_decide_eq_true hb)
  rw [List.getElem?_eq_getElem hi] at h
  exact ItemT.list e (by rw [List.getElem?_map,List.getElem?_eq_getElem hi]; rfl) ⟨H,Sub.refl _,h⟩
 ·rw [List.getElem?_eq_none (Nat.not_lt.mp fun q=>of_decide_eq_false hb (Int.ofNat_lt.mpr q))] at h
  exact ⟨H,Sub.refl _,h⟩
theorem s12 (m:Int):-1000000≤1 + m / 9 % 2∧1 + m / 9 % 2≤1000000:=by
 rcases Int.emod_two_eq (m / 9) with e | e <;> (rw [e]; decide)
theorem law_values (T:TopK c P) {m:Int} (h:∀ D,H D=none→Q (.ref D) (H.set D (.list (iL (lawValues m))))):CallC c (n + 1) (.ref 445) [.int m] H Q:=by
 refine k445_1 T ⟨⟨by decide,by decide⟩,by decide,?_⟩
 obtain ⟨k,hk,hk3⟩:∃ k:Nat,3 - m / 3 % 3=(k:Int)∧k≤3:=by
  obtain ⟨j,e,hj⟩:=mod3 (m / 3)
  exact ⟨3 - j,by rw [e,Int.ofNat_sub (Nat.le_of_lt hj)]; rfl,Nat.sub_le ..⟩
 show w c n (.st 1 _) [.int (3 - m / 3 % 3)] _ _ _
 rw [hk]
 refine w_compP (fun v=>[none,v,some (.int m)]) (fun i=>iL (((List.range k).take i).map fun (i:Nat)=>m % 3 + (i:Int) * (1 + m / 9 % 2))) none (.rng (Nat.le_trans hk3 (by decide))) (by rw [List.length_map,List.length_range]; exact Nat.le_trans hk3 (by decide)) rfl trivial (fun i xs v K' hi hn _=>?_) fun L hL=>?_
 ·obtain ⟨rfl,hi2⟩:=range_at hi
  refine ⟨by decide,⟨by decide,by decide⟩,by decide,BinT.mulR (s12 m) (hn _ (some (.int i)) ?_)⟩
  rw [take_range_succ hi2,List.map_append,iL_append]; rfl
 ·rw [List.length_map,show ((List.range k).take (List.range k).length)=List.range k from List.take_length]
  have:=h L hL
  unfold lawValues at this
  rw [hk] at this
  exact ⟨_,Sub.refl _,this⟩
end
end Mine
namespace Mine
inductive Kn where
 | diff | eq
 | sum (t:Nat) (b:Int) (fo:Option (List Int))
 | some (inv:Bool) (ms:List Int) (need:Int) (exact:Bool)
 | func (rest:Int)
noncomputable def scl (fo:Option (List Int)) (n:Nat):List Int:=match fo with
 | none=>List.replicate n 1
 | some fs=>fs
noncomputable def tot (fo:Option (List Int)) (vals:List Int):Int:=((vals.zip (scl fo vals.length)).map fun q=>q.1 * q.2).sum
noncomputable def good (ms:List Int) (inv:Bool) (vals:List Int):Int:=(vals.map fun v=>if okv ms inv v=true then (1:Int) else 0).sum
noncomputable def Kn.mean:Kn→List Int→Bool
 | .diff,vals=>decide vals.Nodup
 | .eq,vals=>vals.all fun a=>vals.all fun b=>decide (a=b)
 | .sum t b fo,vals=>if t=2 then decide (tot fo vals≤b) else if t=3 then decide (tot fo vals=b) else decide (b≤tot fo vals)
 | .some inv ms need exact,vals=>if exact=true then decide (good ms inv vals=need) else decide (need≤good ms inv vals)
 | .func rest,vals=>lamB rest vals
noncomputable def opts (g:List (Int × Int)) (D:Int→DS) (x:Int):List Int:=match gAt g x with
 | some v=>[v]
 | none=>(D x).vs
structure Fit (K:Kn) (g:List (Int × Int)) (vars:List Int) (D:Int→DS) (t:Int→Int):Prop where
 mem:∀ x∈vars,t x∈opts g D x
 mean:K.mean (vars.map t)=true
structure CRes (K:Kn) (g:List (Int × Int)) (vars:List Int) (D:Int→DS) (fc b:Bool) (D':Int→DS):Prop where
 full:msn g vars=[]→b=K.mean (gvs g vars)
 snd:b=false→∀ t,¬ Fit K g vars D t
 nofc:fc=false→D'=D
 same:∀ x,¬ (x∈vars∧gAt g x=none)→D' x=D x
 hid:∀ x,∃ k,HidR (D x) (D' x) k
 keep:b=true→∀ t,Fit K g vars D t→∀ x∈vars,t x∈opts g D' x
section
variable {K:Kn} {g:List (Int × Int)} {vars:List Int} {D D':Int→DS} {fc b:Bool} {t:Int→Int}
theorem Fit.given (F:Fit K g vars D t) {x v:Int} (hx:x∈vars) (e:gAt g x=some v):t x=v:=by
 have:=F.mem x hx
 unfold opts at this
 rw [e] at this
 exact List.mem_singleton.mp this
theorem Fit.miss (F:Fit K g vars D t) {x:Int} (hx:x∈vars) (e:gAt g x=none):t x∈(D x).vs:=by
 have:=F.mem x hx
 unfold opts at this
 rw [e] at this
 exact this
theorem not_missing (h:msn g vars=[]) {x:Int} (hx:x∈vars):∃ v,gAt g x=some v:=by
 cases q:gAt g x with
 | some v=>exact ⟨v,rfl⟩
 | none=>
  have:x∈msn g vars:=List.mem_filter.mpr ⟨hx,by rw [q]; rfl⟩
  rw [h] at this; cases this
theorem map_full (h:∀ x∈vars,gAt g x=some (t x)):vars.map t=gvs g vars:=by
 unfold gvs
 induction vars with
 | nil=>rfl
 | cons x r ih=>
  rw [List.filterMap_cons,h x (List.mem_cons_self ..),List.map_cons,ih fun y hy=>h y (List.mem_cons_of_mem _ hy)]
theorem Fit.full (F:Fit K g vars D t) (h:msn g vars=[]):vars.map t=gvs g vars:=map_full fun x hx=>by
 obtain ⟨v,e⟩:=not_missing h hx
 rw [e,F.given hx e]
theorem Fit.ofFull (h:msn g vars=[]) (hm:K.mean (gvs g vars)=true):Fit K g vars D (fun x=>(gAt g x).getD 0):=by
 have e:vars.map (fun x=>(gAt g x).getD 0)=gvs g vars:=map_full fun x hx=>by
  obtain ⟨v,e⟩:=not_missing h hx
  rw [e]; rfl
 refine ⟨fun x hx=>?_,by rw [e]; exact hm⟩
 obtain ⟨v,e⟩:=not_missing h hx
 unfold opts
 rw [e]
 exact List.mem_singleton.mpr rfl
theorem Fit.one {x:Int} (F:Fit K g vars D t) (h:msn g vars=[x]):K.mean (gvs (g++[(x,t x)]) vars)=true∧t x∈(D x).vs:=by
 obtain ⟨_,hx,hg⟩:=msn_one (v:=t x) h
 refine ⟨?_,F.miss hx hg⟩
 rw [← map_full (t:=t),F.mean]
 intro y hy
 by_cases q:y=x
 ·subst q; exact gAt_new hg
 ·rw [gAt_snoc_ne q]
  cases w:gAt g y with
  | some u=>rw [F.given hy w]
  | none=>
   have:y∈msn g vars:=List.mem_filter.mpr ⟨hy,by rw [w]; rfl⟩
   rw [h] at this
   exact absurd (List.mem_singleton.mp this) q
theorem HidR.triv {d:DS}:∃ k,HidR d d k:=⟨fun _=>true,HidR.refl fun _ _=>rfl⟩
theorem CRes.still (hf:msn g vars=[]→b=K.mean (gvs g vars)) (hs:b=false→∀ t,¬ Fit K g vars D t):CRes K g vars D fc b D:=
 ⟨hf,hs,fun _=>rfl,fun _ _=>rfl,fun x=>HidR.triv,fun _ t F=>F.mem⟩
theorem CRes.pass {k:Int→Int→Bool} (P:PassR k g vars D b D') (hf:msn g vars=[]→K.mean (gvs g vars)=true) (hfc:fc=true)
  (hk:∀ t,Fit K g vars D t→∀ x∈vars,gAt g x=none→k x (t x)=true):CRes K g vars D fc b D':=by
 have hfull:msn g vars=[]→b=true:=fun h=>by
  cases b with
  | true=>rfl
  | false=>
   obtain ⟨x,hx,hg,_⟩:=P.none rfl
   obtain ⟨v,e⟩:=not_missing h hx
   rw [hg] at e; cases e
 refine ⟨fun h=>by rw [hfull h,hf h],fun hb t F=>?_,(fun h=>by rw [hfc] at h; cases h),P.same,fun x=>?_,fun hb t F x hx=>?_⟩
 ·obtain ⟨x,hx,hg,hn⟩:=P.none hb
  have:=hk t F x hx hg
  rw [hn _ (F.miss hx hg)] at this; cases this
 ·by_cases q:x∈vars∧gAt g x=none
  ·obtain ⟨k',h1,_⟩:=P.hid x q.1 q.2
   exact ⟨k',h1⟩
  ·rw [P.same x q]; exact HidR.triv
 ·unfold opts
  cases hg:gAt g x with
  | some v=>exact List.mem_singleton.mpr (F.given hx hg)
  | none=>
   obtain ⟨k',h1,h2,h3⟩:=P.hid x hx hg
   exact (h1.mem _).mpr ⟨F.miss hx hg,h3 _ (hk t F x hx hg)⟩
theorem CRes.fwd {x:Int} (h:msn g vars=[x]) (hfc:fc=true) (nd:(D x).vs.Nodup) :
  CRes K g vars D fc (!((D x).vs.filter fun v=>K.mean (gvs (g++[(x,v)]) vars)).isEmpty) (upd D x (hid1 (D x) fun v=>K.mean (gvs (g++[(x,v)]) vars))):=by
 have only:∀ y∈vars,gAt g y=none→y=x:=fun y hy hg=>by
  have:y∈msn g vars:=List.mem_filter.mpr ⟨hy,by rw [hg]; rfl⟩
  rw [h] at this
  exact List.mem_singleton.mp this
 obtain ⟨_,hx,hg⟩:=msn_one (v:=0) h
 refine ⟨(fun q=>by rw [h] at q; cases q),fun hb t F=>?_,(fun q=>by rw [hfc] at q; cases q),fun y hy=>upd_ne fun q=>hy ⟨q▸hx,q▸hg⟩,fun y=>?_,fun hb t F y hy=>?_⟩
 ·obtain ⟨m1,m2⟩:=F.one h
  have:t x∈(D x).vs.filter fun v=>K.mean (gvs (g++[(x,v)]) vars):=List.mem_filter.mpr ⟨m2,m1⟩
  cases w:(D x).vs.filter fun v=>K.mean (gvs (g++[(x,v)]) vars) with
  | nil=>rw [w] at this; cases this
  | cons a r=>rw [w] at hb; cases hb
 ·by_cases q:y=x
  ·subst q; rw [upd_self]; exact ⟨_,HidR.hid1⟩
  ·rw [upd_ne q]; exact HidR.triv
 ·unfold opts
  cases hgy:gAt g y with
  | some v=>exact List.mem_singleton.mpr (F.given hy hgy)
  | none=>
   obtain rfl:=only y hy hgy
   obtain ⟨m1,m2⟩:=F.one h
   show t y∈(upd D y _ y).vs
   rw [upd_self]
   exact List.mem_filter.mpr ⟨m2,m1⟩
end
end Mine
namespace Mine
section
variable {K:Kn} {g:List (Int × Int)} {vars:List Int} {D D':Int→DS} {fc b:Bool} {t:Int→Int} {bound:Int} {fo:Option (List Int)} {rest:Int}
theorem CRes.no (hs:∀ t,¬ Fit K g vars D t):CRes K g vars D fc false D:=by
 refine CRes.still (fun h=>?_) (fun _=>hs)
 cases q:K.mean (gvs g vars) with
 | false=>rfl
 | true=>exact absurd (Fit.ofFull h q) (hs _)
theorem nodup_map_inj {f:Int→Int}:∀ {l:List Int},(l.map f).Nodup→∀ {x y:Int},x∈l→y∈l→f x=f y→x=y
 | [],_,_,_,h,_,_=>by cases h
 | a::r,nd,x,y,hx,hy,e=>by
  rw [List.map_cons,List.nodup_cons] at nd
  rcases List.mem_cons.mp hx with h1 | h1 <;> rcases List.mem_cons.mp hy with h2 | h2
  ·rw [h1,h2]
  ·exact absurd (List.mem_map.mpr ⟨y,h2,by rw [← e,h1]⟩) nd.1
  ·exact absurd (List.mem_map.mpr ⟨x,h1,by rw [e,h2]⟩) nd.1
  ·exact nodup_map_inj nd.2 h1 h2 e
theorem gvs_sub (h:∀ x∈vars,∀ v,gAt g x=some v→t x=v):(gvs g vars).Sublist (vars.map t):=by
 unfold gvs
 induction vars with
 | nil=>exact List.Sublist.slnil
 | cons x r ih=>
  have ih':=ih fun y hy=>h y (List.mem_cons_of_mem _ hy)
  rw [List.filterMap_cons,List.map_cons]
  cases q:gAt g x with
  | none=>exact List.Sublist.cons _ ih'
  | some v=>
   rw [h x (List.mem_cons_self ..) v q]
   exact List.Sublist.cons_cons _ ih'
theorem gvs_congr {g':List (Int × Int)} (h:∀ z∈vars,gAt g z=gAt g' z):gvs g vars=gvs g' vars:=by
 unfold gvs
 induction vars with
 | nil=>rfl
 | cons x r ih=>rw [List.filterMap_cons,List.filterMap_cons,h x (List.mem_cons_self ..),ih fun y hy=>h y (List.mem_cons_of_mem _ hy)]
theorem res_diff0 (h:¬ (gvs g vars).Nodup):CRes .diff g vars D fc false D:=CRes.no fun t F=>by
 have:=of_decide_eq_true F.mean
 exact h ((gvs_sub fun x hx v e=>F.given hx e).nodup this)
theorem res_diff1 (h:(gvs g vars).Nodup) (hf:fc=false):CRes .diff g vars D fc true D:=
 CRes.still (fun _=>(decide_eq_true h).symm) (fun h=>by cases h)
theorem res_diff2 (h:(gvs g vars).Nodup) (hf:fc=true) (P:PassR (fun _ v=>!decide (v∈gvs g vars)) g vars D b D'):CRes .diff g vars D fc b D':=by
 refine CRes.pass P (fun _=>decide_eq_true h) hf (fun t F x hx hg=>?_)
 ·have hn:=of_decide_eq_true F.mean
  simp only [Bool.not_eq_true',decide_eq_false_iff_not]
  intro hm
  unfold gvs at hm
  obtain ⟨y,hy,e⟩:=List.mem_filterMap.mp hm
  have:=nodup_map_inj hn hx hy (F.given hy e).symm
  rw [this,e] at hg; cases hg
theorem one_given {w:Int} (h:oneV g vars=some w):∃ y∈vars,gAt g y=some w:=by
 unfold oneV at h
 exact List.exists_of_findSome?_eq_some h
theorem one_none (h:oneV g vars=none):∀ x∈vars,gAt g x=none:=by
 unfold oneV at h
 exact List.findSome?_eq_none_iff.mp h
theorem eq_mean {vals:List Int}:Kn.eq.mean vals=true↔∀ a∈vals,∀ b∈vals,a=b:=by
 show (vals.all fun a=>vals.all fun b=>decide (a=b))=true↔_
 simp
theorem res_eq0 (h:¬ sameV g vars):CRes .eq g vars D fc false D:=CRes.no fun t F=>h fun x hx v e=>by
 have hm:=eq_mean.mp F.mean
 cases q:oneV g vars with
 | none=>rw [one_none q x hx] at e; cases e
 | some w=>
  obtain ⟨y,hy,e2⟩:=one_given q
  have:=hm _ (List.mem_map.mpr ⟨y,hy,rfl⟩) _ (List.mem_map.mpr ⟨x,hx,rfl⟩)
  rw [F.given hy e2,F.given hx e] at this
  rw [this]
theorem same_mean (h:sameV g vars):Kn.eq.mean (gvs g vars)=true:=by
 rw [eq_mean]
 intro a ha b hb
 unfold gvs at ha hb
 obtain ⟨x,hx,e1⟩:=List.mem_filterMap.mp ha
 obtain ⟨y,hy,e2⟩:=List.mem_filterMap.mp hb
 exact Option.some.inj ((h x hx a e1).symm.trans (h y hy b e2))
theorem res_eq1 (h:sameV g vars) (hf:fc=false∨oneV g vars=none):CRes .eq g vars D fc true D:=by
 exact CRes.still (fun _=>(same_mean h).symm) (fun h=>by cases h)
theorem res_eq2 {sv:Int} (h:sameV g vars) (hf:fc=true) (h1:oneV g vars=some sv) (P:PassR (fun _ v=>decide (v=sv)) g vars D b D'):CRes .eq g vars D fc b D':=by
 obtain ⟨y,hy,e⟩:=one_given h1
 refine CRes.pass P (fun _=>same_mean h) hf (fun t F x hx hg=>?_)
 have:=eq_mean.mp F.mean _ (List.mem_map.mpr ⟨x,hx,rfl⟩) _ (List.mem_map.mpr ⟨y,hy,rfl⟩)
 rw [F.given hy e] at this
 exact decide_eq_true this
noncomputable def tsum (t:Int→Int) (L:List (Int × Int)):Int:=(L.map fun q=>t q.1 * q.2).sum
theorem tot_facs (hl:∀ fs,fo=some fs→fs.length=vars.length):tot fo (vars.map t)=tsum t (facs vars fo):=by
 unfold tot tsum
 cases fo with
 | none=>
  show (((vars.map t).zip (List.replicate (vars.map t).length 1)).map _).sum=_
  congr 1
  unfold facs
  induction vars with
  | nil=>rfl
  | cons x r ih=>
   rw [List.map_cons,List.length_cons,List.replicate_succ,List.zip_cons_cons,List.map_cons,ih fun fs h=>by cases h]; rfl
 | some fs=>
  show (((vars.map t).zip fs).map _).sum=_
  unfold facs
  rw [List.zip_map_left,List.map_map]
  rfl
theorem asum_le {L:List (Int × Int)} (h1:∀ q∈L,∀ v,gAt g q.1=some v→t q.1=v) (h2:∀ q∈L,gAt g q.1=none→0≤t q.1 * q.2):asum g L≤tsum t L:=by
 unfold asum tsum
 induction L with
 | nil=>exact Int.le_refl _
 | cons q r ih=>
  have ih':=ih (fun y hy=>h1 y (List.mem_cons_of_mem _ hy)) (fun y hy=>h2 y (List.mem_cons_of_mem _ hy))
  simp only [List.map_cons,List.sum_cons]
  cases w:gAt g q.1 with
  | some v=>rw [h1 q (List.mem_cons_self ..) v w,gOr_some w]; exact Int.add_le_add_left ih' _
  | none=>have:=h2 q (List.mem_cons_self ..) w; rw [gOr_none w]; exact Int.add_le_add this ih'
theorem asum_le1 {L:List (Int × Int)} {p:Int × Int} (hp:p∈L) (hg:gAt g p.1=none) (h1:∀ q∈L,∀ v,gAt g q.1=some v→t q.1=v) (h2:∀ q∈L,gAt g q.1=none→0≤t q.1 * q.2):asum g L + t p.1 * p.2≤tsum t L:=by
 induction L with
 | nil=>cases hp
 | cons q r ih=>
  have e1:asum g (q::r)=(match gAt g q.1 with | some v=>v * q.2 | none=>0) + asum g r:=by unfold asum; rw [List.map_cons,List.sum_cons]; rfl
  have e2:tsum t (q::r)=t q.1 * q.2 + tsum t r:=by unfold tsum; rw [List.map_cons,List.sum_cons]
  have hr1:=fun y hy=>h1 y (List.mem_cons_of_mem q hy)
  have hr2:=fun y hy=>h2 y (List.mem_cons_of_mem q hy)
  rw [e1,e2]
  rcases List.mem_cons.mp hp with rfl | hp
  ·rw [hg]
   show 0 + asum g r + _≤_
   rw [Int.zero_add,Int.add_comm]
   exact Int.add_le_add_left (asum_le hr1 hr2) _
  ·have:=ih hp hr1 hr2
   cases w:gAt g q.1 with
   | some v=>rw [h1 q (List.mem_cons_self ..) v w,Int.add_assoc]; exact Int.add_le_add_left this _
   | none=>
    show 0 + asum g r + _≤_
    rw [Int.zero_add]
    exact Int.le_trans this (Int.le_add_of_nonneg_left (h2 q (List.mem_cons_self ..) w))
theorem asum_eq {L:List (Int × Int)} (h1:∀ q∈L,gAt g q.1=some (t q.1)):tsum t L=asum g L:=by
 unfold asum tsum
 congr 1
 refine List.map_congr_left fun q hq=>?_
 rw [gOr_some (h1 q hq)]
structure FOk (vars:List Int) (fo:Option (List Int)):Prop where
 len:∀ fs,fo=some fs→fs.length=vars.length
 nn:∀ fs,fo=some fs→∀ f∈fs,0≤f
theorem facs_fst (h:FOk vars fo):(facs vars fo).map (·.1)=vars:=by
 cases fo with
 | none=>unfold facs; rw [List.map_map]; exact List.map_id _
 | some fs=>unfold facs; rw [List.map_fst_zip]; rw [h.len fs rfl]; exact Nat.le_refl _
theorem facs_mem (h:FOk vars fo) {x:Int} (hx:x∈vars):∃ f,(x,f)∈facs vars fo:=by
 rw [← facs_fst h] at hx
 obtain ⟨⟨y,f⟩,hm,rfl⟩:=List.mem_map.mp hx
 exact ⟨f,hm⟩
theorem facs_key (h:FOk vars fo) {q:Int × Int} (hq:q∈facs vars fo):q.1∈vars:=by
 rw [← facs_fst h]; exact List.mem_map.mpr ⟨q,hq,rfl⟩
theorem facs_nn (h:FOk vars fo) {q:Int × Int} (hq:q∈facs vars fo):0≤q.2:=by
 cases fo with
 | none=>unfold facs at hq; obtain ⟨x,_,rfl⟩:=List.mem_map.mp hq; show (0:Int)≤1; decide
 | some fs=>unfold facs at hq; exact h.nn fs rfl _ (List.of_mem_zip (a:=q.1) (b:=q.2) hq).2
noncomputable def NN (vars:List Int) (D:Int→DS):Prop:=∀ x∈vars,∀ v∈(D x).vs,0≤v
theorem Fit.h1 (F:Fit K g vars D t) (h:FOk vars fo):∀ q∈facs vars fo,∀ v,gAt g q.1=some v→t q.1=v:=fun q hq v e=>F.given (facs_key h hq) e
theorem Fit.h2 (F:Fit K g vars D t) (h:FOk vars fo) (nn:NN vars D):∀ q∈facs vars fo,gAt g q.1=none→0≤t q.1 * q.2:=fun q hq e=>Int.mul_nonneg (nn _ (facs_key h hq) _ (F.miss (facs_key h hq) e)) (facs_nn h hq)
theorem tot_full (h:FOk vars fo) (hm:msn g vars=[]):tot fo (gvs g vars)=asum g (facs vars fo):=by
 have e:vars.map (fun x=>(gAt g x).getD 0)=gvs g vars:=map_full fun x hx=>by
  obtain ⟨v,e⟩:=not_missing hm hx
  rw [e]; rfl
 rw [← e,tot_facs h.len]
 refine asum_eq fun q hq=>?_
 obtain ⟨v,e⟩:=not_missing hm (facs_key h hq)
 rw [e]; rfl
theorem res_max0 (h:FOk vars fo) (nn:NN vars D) (hb:bound < asum g (facs vars fo)):CRes (.sum 2 bound fo) g vars D fc false D:=CRes.no fun t F=>by
 have h1:tot fo (vars.map t)≤bound:=of_decide_eq_true F.mean
 rw [tot_facs h.len] at h1
 have:=asum_le (F.h1 h) (F.h2 h nn)
 exact absurd (Int.lt_of_lt_of_le hb (Int.le_trans this h1)) (Int.lt_irrefl _)
theorem res_max1 (h:FOk vars fo) (hb:asum g (facs vars fo)≤bound) (hf:fc=false):CRes (.sum 2 bound fo) g vars D fc true D:=by
 refine CRes.still (fun hm=>?_) (fun h=>by cases h)
 have:(Kn.sum 2 bound fo).mean (gvs g vars)=decide (tot fo (gvs g vars)≤bound):=rfl
 rw [this,tot_full h hm,decide_eq_true hb]
theorem sum_keep (h:FOk vars fo) (nn:NN vars D) {k:Int→Int→Bool} (hk:∀ x f v,(x,f)∈facs vars fo→k x v=decide (asum g (facs vars fo) + v * f≤bound)) (F:Fit K g vars D t) (hm:tot fo (vars.map t)≤bound) {x:Int} (hx:x∈vars) (hg:gAt g x=none):k x (t x)=true:=by
 obtain ⟨f,hf⟩:=facs_mem h hx
 rw [hk x f _ hf]
 rw [tot_facs h.len] at hm
 have:=asum_le1 (p:=(x,f)) hf hg (F.h1 h) (F.h2 h nn)
 exact decide_eq_true (Int.le_trans this hm)
theorem res_max2 (h:FOk vars fo) (nd:vars.Nodup) (nn:NN vars D) (hb:asum g (facs vars fo)≤bound) (hf:fc=true) {k:Int→Int→Bool} (hk:∀ x f v,(x,f)∈facs vars fo→k x v=decide (asum g (facs vars fo) + v * f≤bound))
  (P:PassR k g vars D b D'):CRes (.sum 2 bound fo) g vars D fc b D':=by
 refine CRes.pass P (fun hm=>?_) hf (fun t F x hx hg=>sum_keep h nn hk F (of_decide_eq_true F.mean) hx hg)
 show decide (tot fo (gvs g vars)≤bound)=true
 rw [tot_full h hm,decide_eq_true hb]
theorem miss_msn:miss g vars=true↔msn g vars≠[]:=by
 unfold miss msn
 rw [List.any_eq_true,ne_eq,List.filter_eq_nil_iff]
 constructor
 ·rintro ⟨x,hx,e⟩ h; exact h x hx e
 ·intro h
  false_or_by_contra
  rename_i q
  exact h fun x hx e=>q ⟨x,hx,e⟩
theorem miss_nil:miss g vars=false↔msn g vars=[]:=by
 cases q:miss g vars with
 | true=>exact ⟨fun h=>(nomatch h),fun h=>absurd h (miss_msn.mp q)⟩
 | false=>
  refine ⟨fun _=>?_,fun _=>rfl⟩
  false_or_by_contra
  rename_i w
  rw [miss_msn.mpr w] at q; cases q
theorem res_exact0 (h:FOk vars fo) (nn:NN vars D) (hb:bound < asum g (facs vars fo)):CRes (.sum 3 bound fo) g vars D fc false D:=CRes.no fun t F=>by
 have h1:tot fo (vars.map t)=bound:=of_decide_eq_true F.mean
 rw [tot_facs h.len] at h1
 have:=asum_le (F.h1 h) (F.h2 h nn)
 exact absurd (Int.lt_of_lt_of_le hb (Int.le_trans this (Int.le_of_eq h1))) (Int.lt_irrefl _)
theorem res_exact1 (h:FOk vars fo) (nn:NN vars D) (hb:asum g (facs vars fo)≤bound):CRes (.sum 3 bound fo) g vars D fc (if miss g vars=true then true else decide (asum g (facs vars fo)=bound)) D:=by
 have key:msn g vars=[]→(if miss g vars=true then true else decide (asum g (facs vars fo)=bound))=(Kn.sum 3 bound fo).mean (gvs g vars):=fun hm=>by
  rw [if_neg (by rw [miss_nil.mpr hm]; decide)]
  show _=decide (tot fo (gvs g vars)=bound)
  rw [tot_full h hm]
 refine CRes.still key (fun hb' t F=>?_)
 cases q:miss g vars with
 | true=>rw [q] at hb'; cases hb'
 | false=>
  have hm:=miss_nil.mp q
  rw [key hm,← F.full hm,F.mean] at hb'; cases hb'
theorem res_exact2 (h:FOk vars fo) (nn:NN vars D) (hm:miss g vars=true) (hf:fc=true) {k:Int→Int→Bool} (hk:∀ x f v,(x,f)∈facs vars fo→k x v=decide (asum g (facs vars fo) + v * f≤bound))
  (P:PassR k g vars D b D'):CRes (.sum 3 bound fo) g vars D fc b D':=by
 refine CRes.pass P (fun q=>absurd q (miss_msn.mp hm)) hf (fun t F x hx hg=>sum_keep h nn hk F (Int.le_of_eq (of_decide_eq_true F.mean)) hx hg)
theorem res_min (h:FOk vars fo):CRes (.sum 4 bound fo) g vars D fc (if miss g vars=true then true else decide (bound≤asum g (facs vars fo))) D:=by
 have key:msn g vars=[]→(if miss g vars=true then true else decide (bound≤asum g (facs vars fo)))=(Kn.sum 4 bound fo).mean (gvs g vars):=fun hm=>by
  rw [if_neg (by rw [miss_nil.mpr hm]; decide)]
  show _=decide (bound≤tot fo (gvs g vars))
  rw [tot_full h hm]
 refine CRes.still key (fun hb' t F=>?_)
 cases q:miss g vars with
 | true=>rw [q] at hb'; cases hb'
 | false=>
  have hm:=miss_nil.mp q
  rw [key hm,← F.full hm,F.mean] at hb'; cases hb'
end
end Mine
namespace Mine
section
variable {K:Kn} {g:List (Int × Int)} {vars:List Int} {D D':Int→DS} {fc b:Bool} {t:Int→Int} {rest need:Int} {ms:List Int} {inv exact:Bool}
theorem cnt_gvs:cnt g ms inv vars=good ms inv (gvs g vars):=by
 unfold cnt good gvs
 induction vars with
 | nil=>rfl
 | cons x r ih=>
  rw [List.filterMap_cons,List.map_cons,List.sum_cons,ih]
  cases gAt g x with
  | none=>simp
  | some v=>rw [List.map_cons,List.sum_cons]
theorem mis_len:mis g vars=((msn g vars).length:Int):=by
 unfold mis msn
 induction vars with
 | nil=>rfl
 | cons x r ih=>
  rw [List.map_cons,List.sum_cons,List.filter_cons,ih]
  cases (gAt g x).isNone
  ·rw [if_neg Bool.false_ne_true,if_neg Bool.false_ne_true]; exact Int.zero_add _
  ·rw [if_pos rfl,if_pos rfl,List.length_cons,Int.natCast_add]; exact Int.add_comm ..
theorem good_ge (h:∀ x∈vars,∀ v,gAt g x=some v→t x=v):cnt g ms inv vars≤good ms inv (vars.map t)∧good ms inv (vars.map t)≤cnt g ms inv vars + mis g vars:=by
 unfold cnt good mis
 induction vars with
 | nil=>exact ⟨Int.le_refl _,Int.le_refl _⟩
 | cons x r ih=>
  have ih':=ih fun y hy=>h y (List.mem_cons_of_mem _ hy)
  simp only [List.map_cons,List.sum_cons]
  cases q:gAt g x with
  | some v=>rw [h x (List.mem_cons_self ..) v q]; rw [Option.isNone_some,if_neg Bool.false_ne_true,Int.zero_add,Int.add_assoc]; exact ⟨Int.add_le_add_left ih'.1 _,Int.add_le_add_left ih'.2 _⟩
  | none=>
   have hB:(0:Int)≤(if okv ms inv (t x)=true then 1 else 0)∧(if okv ms inv (t x)=true then (1:Int) else 0)≤1:=by split <;> decide
   rw [Option.isNone_none,if_pos rfl]
   exact ⟨Int.add_le_add hB.1 ih'.1,by rw [Int.zero_add,Int.add_left_comm]; exact Int.add_le_add hB.2 ih'.2⟩
theorem ga1 {a b c:Int} (h:0 + a + (1 + b)≤0 + c) (k:c≤a + b):False:=by omega
theorem ga2 {u a b c:Int} (h:u + a + (0 + b)≤u + c):a + b≤c:=by omega
theorem ga3 {w a b c:Int} (hw:w≤1) (h:0 + a + (1 + b)≤w + c):a + b≤c:=by omega
theorem good_all (h:∀ x∈vars,∀ v,gAt g x=some v→t x=v) (he:cnt g ms inv vars + mis g vars≤good ms inv (vars.map t)):∀ x∈vars,gAt g x=none→okv ms inv (t x)=true:=by
 induction vars with
 | nil=>intro x hx; cases hx
 | cons x r ih=>
  have hr:=fun y hy=>h y (List.mem_cons_of_mem x hy)
  have b:=good_ge (ms:=ms) (inv:=inv) hr
  have e1:cnt g ms inv (x::r)=(match gAt g x with | some v=>if okv ms inv v=true then (1:Int) else 0 | none=>0) + cnt g ms inv r:=by unfold cnt; rw [List.map_cons,List.sum_cons]; try rfl
  have e2:mis g (x::r)=(if (gAt g x).isNone=true then (1:Int) else 0) + mis g r:=by unfold mis; rw [List.map_cons,List.sum_cons]
  have e3:good ms inv ((x::r).map t)=(if okv ms inv (t x)=true then (1:Int) else 0) + good ms inv (r.map t):=by unfold good; rw [List.map_cons,List.map_cons,List.sum_cons]
  rw [e1,e2,e3] at he
  intro y hy hg
  rcases List.mem_cons.mp hy with q | q
  ·rw [q] at hg ⊢
   rw [hg] at he
   rw [Option.isNone_none,if_pos rfl] at he
   cases w:okv ms inv (t x) with
   | true=>rfl
   | false=>rw [w,if_neg Bool.false_ne_true] at he; exact (ga1 he b.2).elim
  ·refine ih hr ?_ y q hg
   cases w:gAt g x with
   | some v=>rw [w,h x (List.mem_cons_self ..) v w,Option.isNone_some,if_neg Bool.false_ne_true] at he; exact ga2 he
   | none=>rw [w,Option.isNone_none,if_pos rfl] at he; exact ga3 (by split <;> decide) he
theorem some_mean {vals:List Int}:(Kn.some inv ms need exact).mean vals=if exact=true then decide (good ms inv vals=need) else decide (need≤good ms inv vals):=rfl
theorem res_some0 (h:someOk (mis g vars) (cnt g ms inv vars) need exact=false):CRes (.some inv ms need exact) g vars D fc false D:=CRes.no fun t F=>by
 have b:=good_ge (ms:=ms) (inv:=inv) (vars:=vars) (g:=g) (t:=t) fun x hx v e=>F.given hx e
 have m:=F.mean
 rw [some_mean] at m
 unfold someOk at h
 cases exact with
 | true=>
  simp only [if_true] at h m
  have m:=of_decide_eq_true m
  split at h
  ·rw [Bool.and_eq_false_iff] at h
   rcases h with h | h
   ·have:=of_decide_eq_false h; omega
   ·have:=of_decide_eq_false h; omega
  ·rename_i q
   have:=of_decide_eq_false h; omega
 | false=>
  simp only [Bool.false_eq_true,if_false] at h m
  have m:=of_decide_eq_true m
  split at h
  ·have:=of_decide_eq_false h; omega
  ·have:=of_decide_eq_false h; omega
theorem res_some1 (h:someOk (mis g vars) (cnt g ms inv vars) need exact=true) (hn:¬ (fc=true∧mis g vars≠0∧need - cnt g ms inv vars=mis g vars)):CRes (.some inv ms need exact) g vars D fc true D:=by
 refine CRes.still (fun hm=>?_) (fun h=>by cases h)
 rw [some_mean,← cnt_gvs]
 have:mis g vars=0:=by rw [mis_len,hm]; rfl
 unfold someOk at h
 rw [this,if_neg (fun q=>q rfl)] at h
 exact h.symm
theorem res_some2 (h:someOk (mis g vars) (cnt g ms inv vars) need exact=true) (hf:fc=true) (hm:mis g vars≠0) (he:need - cnt g ms inv vars=mis g vars) (P:PassR (fun _ v=>okv ms inv v) g vars D b D'):CRes (.some inv ms need exact) g vars D fc b D':=by
 have hne:msn g vars≠[]:=fun q=>hm (by rw [mis_len,q]; rfl)
 refine CRes.pass P (fun q=>absurd q hne) hf (fun t F x hx hg=>?_)
 ·refine good_all (g:=g) (vars:=vars) (t:=t) (ms:=ms) (inv:=inv) (fun x hx v e=>F.given hx e) ?_ x hx hg
  have m:=F.mean
  rw [some_mean] at m
  cases exact with
  | true=>simp only [if_true] at m; have:=of_decide_eq_true m; omega
  | false=>simp only [Bool.false_eq_true,if_false] at m; have:=of_decide_eq_true m; omega
theorem res_fn0 (hm:msn g vars=[]):CRes (.func rest) g vars D fc (lamB rest (gvs g vars)) D:=by
 refine CRes.still (fun _=>rfl) (fun hb t F=>?_)
 have m:=F.mean
 rw [F.full hm] at m
 have m:lamB rest (gvs g vars)=true:=m
 rw [m] at hb; cases hb
theorem res_fn1 (hm:msn g vars≠[]) (hf:fc=false∨(msn g vars).length≠1):CRes (.func rest) g vars D fc true D:=by
 exact CRes.still (fun q=>absurd q hm) (fun h=>by cases h)
end
end Mine
namespace Mine
theorem ok189:ClsOk (K P) 189:=⟨by kernel_rfl,by kernel_rfl,by kernel_rfl,by kernel_rfl,fun _=>by kernel_rfl⟩
theorem ok209:ClsOk (K P) 209:=⟨by kernel_rfl,by kernel_rfl,by kernel_rfl,by kernel_rfl,fun _=>by kernel_rfl⟩
noncomputable def KSelf (K:Kn) (fx:AH) (me d:Addr) (vars:List Int):Prop:=match K with
 | .diff=>Ins fx me 189 d []
 | .eq=>Ins fx me 209 d []
 | .sum t b fo=>∃ mv,FacIs fx vars mv fo∧(t=2∧Ins fx me 244 d [("_maxsum",.int b),("_multipliers",mv)]∨t=3∧Ins fx me 279 d [("_exactsum",.int b),("_multipliers",mv)]∨t=4∧Ins fx me 307 d [("_minsum",.int b),("_multipliers",mv)])
 | .some inv ms need exact=>∃ sr,fx sr=some (.list (iL ms))∧Ins fx me (if inv=true then 431 else 403) d [("_set",.ref sr),("_n",.int need),("_exact",.bool exact)]
 | .func rest=>∃ f cell cc,FnHold fx me d f cell cc vars.length rest
noncomputable def KOk (K:Kn) (vars:List Int):Prop:=match K with
 | .sum _ _ fo=>FOk vars fo
 | _=>True
noncomputable abbrev Most (fx fx':AH):Prop:=∀ a o,fx a=some o→(∀ es ep,o≠.dict es ep)→fx' a=some o
theorem Most.of {fx fx':AH} (h:Sub fx fx'):Most fx fx':=fun a o e _=>h a o e
theorem FacIs.to {fx fx':AH} {vars:List Int} {mv:V} {fo:Option (List Int)} (h:FacIs fx vars mv fo) (s:Most fx fx'):FacIs fx' vars mv fo:=by
 cases fo with
 | none=>exact h
 | some fs=>exact h.imp fun mr q=>⟨q.1,s _ _ q.2.1 (fun _ _ q=>nomatch q),q.2.2⟩
theorem Ins.to {fx fx':AH} {a C d:Addr} {fs:List (Str × V)} (I:Ins fx a C d fs) (s:Most fx fx'):Ins fx' a C d fs:=
 ⟨I.o.imp (fun e=>s _ _ e fun _ _ q=>nomatch q) fun q=>⟨q.1,q.2.imp fun vs e=>s _ _ e fun _ _ q=>nomatch q⟩,s _ _ I.n fun _ _ q=>nomatch q⟩
theorem KSelf.to {K:Kn} {fx fx':AH} {me d:Addr} {vars:List Int} (h:KSelf K fx me d vars) (s:Most fx fx'):KSelf K fx' me d vars:=by
 cases K with
 | diff=>exact Ins.to h s
 | eq=>exact Ins.to h s
 | sum t b fo=>exact h.imp fun mv q=>⟨q.1.to s,q.2.imp (fun q=>⟨q.1,q.2.to s⟩) fun q=>q.imp (fun q=>⟨q.1,q.2.to s⟩) fun q=>⟨q.1,q.2.to s⟩⟩
 | some inv ms need exact=>exact h.imp fun sr q=>⟨s _ _ q.1 (fun _ _ q=>nomatch q),q.2.to s⟩
 | func rest=>exact h.imp fun f q=>q.imp fun cell q=>q.imp fun cc q=>⟨q.hi.to s,s _ _ q.hf (fun _ _ q=>nomatch q),s _ _ q.hc fun _ _ q=>nomatch q⟩
structure Bd (vars all:List Int) (D:Int→DS):Prop where
 l1:1≤vars.length
 l4:vars.length≤4
 D:∀ x∈all,∀ v∈(D x).vs,0≤v
section
variable {c:Cx} {P:Params} {n:Nat} {H fx:AH} {Q:V→AH→Prop} {da:Int→DA} {all vars:List Int} {D:Int→DS} {g:List (Int × Int)} {vr dr ar self d:Addr} {fc:Bool} {K:Kn}
theorem Ins.call {C f:Addr} {fs:List (Str × V)} {args:List V} (T:TopK c P) (I:Ins H self C d fs) (hC:C≠DomC) (hc:findIn (Mine.K P) (.ref C) "__call__"=some (some (.ref f))) (hf:(fdOf (Mine.K P) f).isSome=true) (hft:typeIn (Mine.K P) (.ref f)=some (.type "function"))
  (h:CallC c n (.ref f) (.ref self::args) H Q):CallV c n (.ref self) args H Q:=CallV.inst (I.o.resolve_right fun q=>hC q.1) (T.fi hc) (T.hK▸hf) (T.ty hft) h
theorem facs_idx {fo:Option (List Int)} {x f:Int} (hm:(x,f)∈facs vars fo):∃ i:Nat,vars[i]?=some x∧(facs vars fo)[i]?=some (x,f):=by
 obtain ⟨i,hi⟩:=List.mem_iff_getElem?.mp hm
 refine ⟨i,?_,hi⟩
 cases fo with
 | none=>
  rw [show facs vars none=vars.map fun x=>(x,1) from rfl,List.getElem?_map] at hi
  obtain ⟨y,e,q⟩:=Option.map_eq_some_iff.mp hi
  cases q; exact e
 | some fs=>exact (List.getElem?_zip_eq_some.mp hi).1
theorem call_kind (T:TopL c P) (kok:KOk K vars) (ks:KSelf K fx self d vars) (S:St H fx da all D) (A:Ask fx da all vars g D vr dr ar) (hne:dr≠ar) (B:Bd vars all D) (hgl:g.length≤1000) {as:List V}
  (has:as=[.ref vr,.ref dr,.ref ar,.bool fc]∨(fc=false∧as=[.ref vr,.ref dr,.ref ar])) (h:∀ b D' H',CRes K g vars D fc b D'→St H' fx da all D'→Q (.bool b) H'):CallV c (n + 6) (.ref self) as H Q:=by
 have t:=T.toTopK
 have nn:NN vars D:=fun x hx v hv=>B.D x (A.sub x hx) v hv
 have hl:vars.length≤1000:=Nat.le_trans B.l4 (by decide)
 cases K with
 | diff=>
  have r:=call_diff (n:=n + 4) (fc:=fc) (self:=self) t S A hl (fun h0 H' S'=>h _ _ _ (res_diff0 h0) S') (fun h0 h1 H' S'=>h _ _ _ (res_diff1 h0 h1) S') fun h0 h1 b D' H' P S'=>h _ _ _ (res_diff2 h0 h1 P) S'
  exact Ins.call (C:=189) (f:=186) t (Ins.sub ks S.sub) (by decide) (by kernel_rfl) (by kernel_rfl) (by kernel_rfl) (by rcases has with rfl | ⟨rfl,rfl⟩ <;> first | exact k186_5 t r | exact k186_4 t r)
 | eq=>
  have r:=call_eq (n:=n + 4) (fc:=fc) (self:=self) t S A (fun h0=>h _ _ _ (res_eq0 h0) S) (fun h0 h1=>h _ _ _ (res_eq1 h0 h1) S) fun h0 h1 sv h2 b D' H' P S'=>h _ _ _ (res_eq2 h0 h1 h2 P.R) S'
  exact Ins.call (C:=209) (f:=206) t (Ins.sub ks S.sub) (by decide) (by kernel_rfl) (by kernel_rfl) (by kernel_rfl) (by rcases has with rfl | ⟨rfl,rfl⟩ <;> first | exact k206_5 t r | exact k206_4 t r)
 | sum t' bound fo=>
  have old:∀ {k:Int→Int→Bool},(∀ (i:Nat) x f v,vars[i]?=some x→(facs vars fo)[i]?=some (x,f)→k x v=decide (asum g (facs vars fo) + v * f≤bound))→∀ x f v,(x,f)∈facs vars fo→k x v=decide (asum g (facs vars fo) + v * f≤bound):=fun hk x f v hm=>(facs_idx hm).elim fun i q=>hk i x f v q.1 q.2
  obtain ⟨mv,hm,⟨rfl,e⟩ | ⟨rfl,e⟩ | ⟨rfl,e⟩⟩:=ks
  ·have r:=call_max (n:=n + 4) (fc:=fc) t S A e hm rfl (fun h0 H' S'=>h _ _ _ (res_max0 kok nn h0) S') (fun h0 h1 H' S'=>h _ _ _ (res_max1 kok h0 h1) S') fun h0 h1 k hk b D' H' P S'=>h _ _ _ (res_max2 kok A.nd nn h0 h1 (old hk) P.R) S'
   exact Ins.call (C:=244) (f:=241) t (Ins.sub e S.sub) (by decide) (by kernel_rfl) (by kernel_rfl) (by kernel_rfl) (by rcases has with rfl | ⟨rfl,rfl⟩ <;> first | exact k241_5 t r | exact k241_4 t r)
  ·have r:=call_exact (n:=n + 4) (fc:=fc) t S A e hm rfl (fun h0 H' S'=>h _ _ _ (res_exact0 kok nn h0) S') (fun h0 h1 H' S'=>h _ _ _ (res_exact1 kok nn h0) S') fun h0 h1 h2 k hk b D' H' P S'=>h _ _ _ (res_exact2 kok nn h2 h1 (old hk) P.R) S'
   exact Ins.call (C:=279) (f:=276) t (Ins.sub e S.sub) (by decide) (by kernel_rfl) (by kernel_rfl) (by kernel_rfl) (by rcases has with rfl | ⟨rfl,rfl⟩ <;> first | exact k276_5 t r | exact k276_4 t r)
  ·have r:=call_min (n:=n + 4) (fc:=fc) t S A e hm rfl (h _ _ _ (res_min kok) S)
   exact Ins.call (C:=307) (f:=304) t (Ins.sub e S.sub) (by decide) (by kernel_rfl) (by kernel_rfl) (by kernel_rfl) (by rcases has with rfl | ⟨rfl,rfl⟩ <;> first | exact k304_5 t r | exact k304_4 t r)
 | some inv ms need exact=>
  obtain ⟨sr,em,e⟩:=ks
  cases inv with
  | false=>
   have r:=call_some (n:=n + 4) (fc:=fc) (inv:=false) t S A some403 e em (fun h0 H' S'=>h _ _ _ (res_some0 h0) S') (fun h0 h1 H' S'=>h _ _ _ (res_some1 h0 h1) S') fun h0 h1 h2 h3 b D' H' P S'=>h _ _ _ (res_some2 h0 h1 h2 h3 P.R) S'
   exact Ins.call (C:=403) (f:=400) t (Ins.sub e S.sub) (by decide) (by kernel_rfl) (by kernel_rfl) (by kernel_rfl) (by rcases has with rfl | ⟨rfl,rfl⟩ <;> first | exact k400_5 t r | exact k400_4 t r)
  | true=>
   have r:=call_some (n:=n + 4) (fc:=fc) (inv:=true) t S A some431 e em (fun h0 H' S'=>h _ _ _ (res_some0 h0) S') (fun h0 h1 H' S'=>h _ _ _ (res_some1 h0 h1) S') fun h0 h1 h2 h3 b D' H' P S'=>h _ _ _ (res_some2 h0 h1 h2 h3 P.R) S'
   exact Ins.call (C:=431) (f:=428) t (Ins.sub e S.sub) (by decide) (by kernel_rfl) (by kernel_rfl) (by kernel_rfl) (by rcases has with rfl | ⟨rfl,rfl⟩ <;> first | exact k428_5 t r | exact k428_4 t r)
 | func rest=>
  obtain ⟨f,cell,cc,I⟩:=ks
  have r:=call_fn (n:=n) (fc:=fc) T S A I hne B.l1 B.l4 hgl (fun h0 H' S'=>h _ _ _ (res_fn0 h0) S') (fun h0 h1 H' S'=>h _ _ _ (res_fn1 h0 h1) S')
   fun h0 x h1 H' S'=>h _ _ _ (CRes.fwd (K:=.func rest) h1 h0 (A.ok x (A.sub x (msn_one (v:=0) h1).2.1)).nd) S'
  exact Ins.call (C:=169) (f:=166) t (Ins.sub I.hi S.sub) (by decide) (by kernel_rfl) (by kernel_rfl) (by kernel_rfl) (by rcases has with rfl | ⟨rfl,rfl⟩ <;> first | exact k166_5 t r | exact k166_4 t r)
end
end Mine
namespace Mine
structure Row where
 kind:Int
 bound:Int
 fo:Option (List Int)
 ms:List Int
 need:Int
 exact:Bool
 rest:Int
noncomputable def memOf (q:Int) (i:Nat):List Int:=if (Builtin.bitAnd ((q + 5) % 128 / 2 ^ i) 1 != 0)=true then [(i:Int)] else []
noncomputable def mems (q:Int):List Int:=(List.range 7).flatMap (memOf q)
noncomputable def facO (size:Nat) (q:Int):Option (List Int):=if q / 11 % 3=0 then none else some ((List.range size).map fun (i:Nat)=>(q / 11 + (i:Int)) % 3)
noncomputable def rowOf (kind:Int) (size:Nat) (q:Int):Row:=⟨kind,(q + 4) % 11 - 1,facO size q,mems q,(q + 2) % (size + 3) - 1,decide (q / 7 % 2=1),q % 3⟩
noncomputable def FacV (H:AH) (fv:V):Option (List Int)→Prop
 | none=>fv=.none
 | some fs=>∃ a,fv=.ref a∧H a=some (.list (iL fs))
noncomputable def RowAt (H:AH) (rw:Addr) (r:Row):Prop:=∃ fv mr,H rw=some (.tup [.int r.kind,.int r.bound,fv,.ref mr,.int r.need,.bool r.exact,.int r.rest])∧H mr=some (.list (iL r.ms))∧FacV H fv r.fo
noncomputable def rowK (r:Row):Kn:=if r.kind=0 then .diff else if r.kind=1 then .eq else if r.kind < 5 then .sum r.kind.toNat r.bound r.fo else if r.kind=7 then .some false r.ms r.need r.exact else if r.kind=8 then .some true r.ms r.need r.exact else .func r.rest
noncomputable def RuleAt (H:AH) (rr:Addr) (r:Row) (size:Nat):Prop:=∃ d,
 if r.kind=5 then ∃ mr,Ins H rr 341 d [("_set",.ref mr)]∧H mr=some (.list (iL r.ms))
 else if r.kind=6 then ∃ mr,Ins H rr 375 d [("_set",.ref mr)]∧H mr=some (.list (iL r.ms))
 else ∀ vars:List Int,vars.length=size→KSelf (rowK r) H rr d vars
theorem FacV.sub {H H':AH} {fv:V} {fo:Option (List Int)} (h:FacV H fv fo) (s:Sub H H'):FacV H' fv fo:=by
 cases fo with
 | none=>exact h
 | some fs=>exact h.imp fun a q=>⟨q.1,s _ _ q.2⟩
theorem RowAt.sub {H H':AH} {rw:Addr} {r:Row} (h:RowAt H rw r) (s:Sub H H'):RowAt H' rw r:=
 h.imp fun fv q=>q.imp fun mr q=>⟨s _ _ q.1,s _ _ q.2.1,q.2.2.sub s⟩
theorem RuleAt.sub {H H':AH} {rr:Addr} {r:Row} {size:Nat} (h:RuleAt H rr r size) (s:Sub H H'):RuleAt H' rr r size:=by
 obtain ⟨d,h⟩:=h
 refine ⟨d,?_⟩
 split <;> rename_i k5
 ·rw [if_pos k5] at h; exact h.imp fun mr q=>⟨q.1.sub s,s _ _ q.2⟩
 ·rw [if_neg k5] at h
  split <;> rename_i k6
  ·rw [if_pos k6] at h; exact h.imp fun mr q=>⟨q.1.sub s,s _ _ q.2⟩
  ·rw [if_neg k6] at h; exact fun vars hl=>(h vars hl).to (.of s)
theorem fac_b (z:Int):0≤z % 3∧z % 3≤1000:=⟨Int.emod_nonneg z (by decide),Int.le_trans (Int.le_of_lt (Int.emod_lt_of_pos z (by decide))) (by decide)⟩
theorem FacV.is {H:AH} {fv:V} {size:Nat} {q:Int} (h:FacV H fv (facO size q)) (hs:1≤size) {vars:List Int} (hl:vars.length=size):FacIs H vars fv (facO size q):=by
 unfold facO at h ⊢
 split at h
 ·rename_i q; rw [if_pos q]; exact h
 ·rename_i q
  rw [if_neg q]
  obtain ⟨a,e,k⟩:=h
  refine ⟨a,e,k,by rw [List.length_map,List.length_range,hl],fun w=>?_,fun f hf=>?_⟩
  ·have:=congrArg List.length w
   rw [List.length_map,List.length_range] at this
   rw [this] at hs; cases hs
  ·obtain ⟨i,_,rfl⟩:=List.mem_map.mp hf
   exact ⟨Int.le_trans (by decide) (fac_b _).1,Int.le_trans (fac_b _).2 (by decide)⟩
theorem facO_ok {size:Nat} {q:Int} {vars:List Int} (hl:vars.length=size):FOk vars (facO size q):=by
 unfold facO
 split
 ·exact ⟨(fun fs h=>nomatch h),(fun fs h=>nomatch h)⟩
 ·refine ⟨fun fs h=>?_,fun fs h f hf=>?_⟩
  ·cases h; rw [List.length_map,List.length_range,hl]
  ·cases h
   obtain ⟨i,_,rfl⟩:=List.mem_map.mp hf
   exact (fac_b _).1
section
variable {c:Cx} {P:Params} {n:Nat} {H:AH} {Q:V→AH→Prop}
theorem BinT.shr {x:Int} {y:Nat} (h:Q (.int (x / 2 ^ y)) H):BinT c n .RShift (.int x) (.int y) H Q:=.ints fun t u A Z s hr R=>by
 refine rshift_int (Int.natCast_nonneg y) ⟨H,R.toks,?_⟩
 rw [Int.fdiv_eq_ediv_of_nonneg _ (by exact Int.le_of_lt (Int.pow_pos (by decide)))]; exact h
noncomputable abbrev uρ (kind:Int) (size:Nat) (q:Int) (o4 o5 o6 o7 o8:Option V):Loc:=[some (.int kind),some (.int size),some (.int q),some (.int ((q + 4) % 11 - 1)),o4,o5,o6,o7,o8,none,none,none,none,none,none,none,none,none,none,none,none]
theorem rule_fac {kind q:Int} {size:Nat} {k:Code} {K:KT} (s4:size≤4) (h:∀ fv H',Sub H H'→FacV H' fv (facO size q)→w c n k [] (uρ kind size q (some fv) none none none none) H' K) :
  w c n (.ld 2<|.cst (.int 11)<|.bin .FloorDiv<|.cst (.int 3)<|.bin .Mod<|.cst (.int 0)<|.cmp .Eq<|.tru<|.ite (.cst .none<|.done) (.ld 1<|.comp .range 1 [none,none,some 2] (.st 1<|.ld 2<|.cst (.int 11)<|.bin .FloorDiv<|.ld 1<|.bin .Add<|.cst (.int 3)<|.bin .Mod<|.done)<|.done)<|.st 4<|k) [] (uρ kind size q none none none none none) H K:=by
 refine ⟨⟨by decide,by decide⟩,by decide,ite_go (fun hb=>h _ _ (Sub.refl _) (show FacV H .none (facO size q) by rw [show facO size q=none from if_pos (of_decide_eq_true hb)]; rfl)) fun hb=>?_⟩
 refine w_compP (fun v=>[none,v,some (.int q)]) (fun i=>iL (((List.range size).take i).map fun (i:Nat)=>(q / 11 + (i:Int)) % 3)) none (.rng (Nat.le_trans s4 (by decide))) (by rw [List.length_map,List.length_range]; exact Nat.le_trans s4 (by decide)) rfl trivial (fun i xs a K' hi hn _=>?_) fun L hL=>?_
 ·obtain ⟨rfl,hi2⟩:=range_at hi
  refine ⟨⟨by decide,by decide⟩,by decide,hn _ (some (.int i)) ?_⟩
  rw [take_range_succ hi2,List.map_append,iL_append]; rfl
 ·rw [List.length_map,show ((List.range size).take (List.range size).length)=List.range size from List.take_length]
  exact h _ _ (Sub.new hL) (by rw [show facO size q=some _ from if_neg (of_decide_eq_false hb)]; exact ⟨L,rfl,AH.set_self⟩)
theorem rule_mems {kind q:Int} {size:Nat} {k:Code} {K:KT} {fv:V} (h:∀ M H',Sub H H'→H' M=some (.list (iL (mems q)))→w c n k [] (uρ kind size q (some fv) (some (.ref M)) none none none) H' K) :
  w c n (.cst (.int 7)<|.comp .range 1 [none,none,some 2] (.st 1<|.ld 2<|.cst (.int 5)<|.bin .Add<|.cst (.int 128)<|.bin .Mod<|.ld 1<|.bin .RShift<|.cst (.int 1)<|.bin .BitAnd<|.tru<|.ite (.ld 1<|.done) .cont<|.done)<|.st 5<|k) [] (uρ kind size q (some fv) none none none none) H K:=by
 refine w_compP (fun v=>[none,v,some (.int q)]) (fun i=>iL (((List.range 7).take i).flatMap (memOf q))) none (.rng (n:=7) (by decide)) (Nat.le_of_ble_eq_true rfl) rfl trivial (fun i xs a K' hi hn hc=>?_) fun M hM=>h M _ (Sub.new hM) AH.set_self
 obtain ⟨rfl,hi2⟩:=range_at hi
 have e:iL (((List.range 7).take (i + 1)).flatMap (memOf q))=iL (((List.range 7).take i).flatMap (memOf q))++iL (memOf q i):=by
  rw [take_range_succ hi2,List.flatMap_append,iL_append,List.flatMap_cons,List.flatMap_nil,List.append_nil]
 exact ⟨by decide,BinT.shr (ite_go (fun hb=>hn _ (some (.int i)) (by rw [e,show memOf q i=[(i:Int)] from if_pos hb]; rfl)) fun hb=>hc [] (some (.int i)) (by rw [e,show memOf q i=[] from if_neg (by rw [hb]; decide)]; exact List.append_nil _))⟩
theorem rule_row {kind q:Int} {size:Nat} {k:Code} {K:KT} {fv:V} {M:Addr} (hf:FacV H fv (facO size q)) (eM:H M=some (.list (iL (mems q)))) (h:∀ R H',Sub H H'→RowAt H' R (rowOf kind size q)→w c n k [] (uρ kind size q (some fv) (some (.ref M)) (some (.int ((q + 2) % (size + 3) - 1))) (some (.bool (decide (q / 7 % 2=1)))) (some (.ref R))) H' K) :
  w c n (.ld 2<|.cst (.int 2)<|.bin .Add<|.ld 1<|.cst (.int 3)<|.bin .Add<|.bin .Mod<|.cst (.int 1)<|.bin .Sub<|.st 6<|.ld 2<|.cst (.int 7)<|.bin .FloorDiv<|.cst (.int 2)<|.bin .Mod<|.cst (.int 1)<|.cmp .Eq<|.st 7<|.ld 0<|.ld 3<|.ld 4<|.ld 5<|.ld 6<|.ld 7<|.ld 2<|.cst (.int 3)<|.bin .Mod<|.tup 7<|.st 8<|k) [] (uρ kind size q (some fv) (some (.ref M)) none none none) H K:=
 ⟨Int.add_pos_of_nonneg_of_pos (Int.natCast_nonneg _) (by decide),⟨by decide,by decide⟩,by decide,by decide,fun R hR=>h R _ (Sub.new hR) ⟨fv,M,AH.set_self,AH.set_new eM hR,hf.sub (Sub.new hR)⟩⟩
theorem rowK_0 {r:Row} (h:r.kind=0):rowK r=.diff:=if_pos h
theorem rowK_1 {r:Row} (h:r.kind=1):rowK r=.eq:=(if_neg (by rw [h]; decide)).trans (if_pos h)
theorem rowK_sum {r:Row} (n0:r.kind≠0) (n1:r.kind≠1) (h5:r.kind < 5):rowK r=.sum r.kind.toNat r.bound r.fo:=(if_neg n0).trans ((if_neg n1).trans (if_pos h5))
theorem rowK_7 {r:Row} (h:r.kind=7):rowK r=.some false r.ms r.need r.exact:=by unfold rowK; rw [h]; rfl
theorem rowK_8 {r:Row} (h:r.kind=8):rowK r=.some true r.ms r.need r.exact:=by unfold rowK; rw [h]; rfl
theorem rowK_9 {r:Row} (h:r.kind=9):rowK r=.func r.rest:=by unfold rowK; rw [h]; rfl
theorem RuleAt.k {r:Row} {x d:Addr} {size:Nat} {K:Kn} (hk:rowK r=K) (n5:r.kind≠5) (n6:r.kind≠6) (h:∀ vars:List Int,vars.length=size→KSelf K H x d vars):RuleAt H x r size:=by
 subst hk
 refine ⟨d,?_⟩
 rw [if_neg n5,if_neg n6]; exact h
theorem kFin {k:Int} (k0:0≤k) (k9:k≤9):∃ i:Fin 10,k=(i.val:Int):=⟨⟨k.toNat,Nat.lt_succ_of_le (Int.toNat_le.mpr k9)⟩,(Int.toNat_of_nonneg k0).symm⟩
theorem kinds9 {k:Int} (k0:0≤k) (k9:k≤9) (n0:k≠0) (n1:k≠1) (n2:k≠2) (n3:k≠3) (n4:k≠4) (n5:k≠5) (n6:k≠6) (n7:k≠7) (n8:k≠8):k=9:=by
 obtain ⟨i,rfl⟩:=kFin k0 k9
 have h:∀ i:Fin 10,(i.val:Int)≠0→(i.val:Int)≠1→(i.val:Int)≠2→(i.val:Int)≠3→(i.val:Int)≠4→5≤(i.val:Int):=by decide
 have h':∀ i:Fin 10,5≤(i.val:Int)→(i.val:Int)≠5→(i.val:Int)≠6→(i.val:Int)≠7→(i.val:Int)≠8→(i.val:Int)=9:=by decide
 exact h' i (h i n0 n1 n2 n3 n4) n5 n6 n7 n8
theorem rule_mk (T:TopL c P) {kind q:Int} {size:Nat} {fv:V} {M R:Addr} {o6 o7:V} (k0:0≤kind) (k9:kind≤9) (s1:1≤size) (s4:size≤4) (hf:FacV H fv (facO size q)) (eM:H M=some (.list (iL (mems q))))
  (e6:o6=.int (rowOf kind size q).need) (e7:o7=.bool (rowOf kind size q).exact) (h:∀ {H':AH} {x:Addr},H x=none→Sub H H'→RuleAt H' x (rowOf kind size q) size→∀ a,H' a=none→∃ H'',Sub H'' (H'.set a (.tup [.ref x,.ref R]))∧Q (.ref a) H'') :
  w c (n + 2) (.ld 0<|.cst (.int 0)<|.cmp .Eq<|.tru<|.ite (.cst (.ref 189)<|.call 0<|.ld 8<|.tup 2<|.ret) .done<|.ld 0<|.cst (.int 1)<|.cmp .Eq<|.tru<|.ite (.cst (.ref 209)<|.call 0<|.ld 8<|.tup 2<|.ret) .done<|.ld 0<|.cst (.int 2)<|.cmp .Eq<|.tru<|.ite (.cst (.ref 244)<|.ld 3<|.ld 4<|.call 2<|.ld 8<|.tup 2<|.ret) .done<|.ld 0<|.cst (.int 3)<|.cmp .Eq<|.tru<|.ite (.cst (.ref 279)<|.ld 3<|.ld 4<|.call 2<|.ld 8<|.tup 2<|.ret) .done<|.ld 0<|.cst (.int 4)<|.cmp .Eq<|.tru<|.ite (.cst (.ref 307)<|.ld 3<|.ld 4<|.call 2<|.ld 8<|.tup 2<|.ret) .done<|
   .ld 0<|.cst (.int 5)<|.cmp .Eq<|.tru<|.ite (.cst (.ref 341)<|.ld 5<|.call 1<|.ld 8<|.tup 2<|.ret) .done<|.ld 0<|.cst (.int 6)<|.cmp .Eq<|.tru<|.ite (.cst (.ref 375)<|.ld 5<|.call 1<|.ld 8<|.tup 2<|.ret) .done<|.ld 0<|.cst (.int 7)<|.cmp .Eq<|.tru<|.ite (.cst (.ref 403)<|.ld 5<|.ld 6<|.ld 7<|.call 3<|.ld 8<|.tup 2<|.ret) .done<|.ld 0<|.cst (.int 8)<|.cmp .Eq<|.tru<|.ite (.cst (.ref 431)<|.ld 5<|.ld 6<|.ld 7<|.call 3<|.ld 8<|.tup 2<|.ret) .done<|.cst (.ref 169)<|.cst (.ref 457)<|.ld 1<|.ld 2<|.cst (.int 3)<|.bin .Mod<|.call 2<|.call 1<|.ld 8<|.tup 2<|.ret) []
   (uρ kind size q (some fv) (some (.ref M)) (some o6) (some o7) (some (.ref R))) H (endK Q):=by
 have TK:=T.toTopK
 have hfi:∀ {H4:AH},Sub H H4→∀ vars:List Int,vars.length=size→FacIs H4 vars fv (facO size q):=fun s vars hl=>(hf.sub s).is s1 hl
 refine ite_go (fun hb=>?_) fun n0=>?_
 ·have hk:=of_decide_eq_true hb
  exact mk_diff TK fun x d H4 N=>h N.fr.2 N.sub (.k (rowK_0 hk) (by rw [show (rowOf kind size q).kind=0 from hk]; decide) (by rw [show (rowOf kind size q).kind=0 from hk]; decide) fun _ _=>N.ins)
 refine ite_go (fun hb=>?_) fun n1=>?_
 ·have hk:=of_decide_eq_true hb
  exact mk_equal TK fun x d H4 N=>h N.fr.2 N.sub (.k (rowK_1 hk) (by rw [show (rowOf kind size q).kind=1 from hk]; decide) (by rw [show (rowOf kind size q).kind=1 from hk]; decide) fun _ _=>N.ins)
 have n0:(rowOf kind size q).kind≠0:=of_decide_eq_false n0
 have n1:(rowOf kind size q).kind≠1:=of_decide_eq_false n1
 have sum:∀ (j:Nat) {H4:AH} {x d:Addr},(rowOf kind size q).kind=j→j < 5→Sub H H4→(∀ vars,FacIs H4 vars fv (facO size q)→KSelf (.sum j (rowOf kind size q).bound (facO size q)) H4 x d vars)→RuleAt H4 x (rowOf kind size q) size:=fun j H4 x d e hj s k=>
  .k ((rowK_sum n0 n1 (by rw [e]; exact Int.ofNat_lt.mpr hj)).trans (by rw [e]; rfl)) (by rw [e]; exact fun q=>absurd (Int.ofNat.inj q) (Nat.ne_of_lt hj)) (by rw [e]; exact fun q=>absurd (Int.ofNat.inj q) (Nat.ne_of_lt (Nat.lt_succ_of_lt hj))) fun vars hl=>k vars (hfi s vars hl)
 refine ite_go (fun hb=>mk_max TK fun x d H4 N=>h N.fr.2 N.sub (sum 2 (of_decide_eq_true hb) (by decide) N.sub fun vars f=>⟨fv,f,.inl ⟨rfl,N.ins⟩⟩)) fun n2=>?_
 refine ite_go (fun hb=>mk_exact TK fun x d H4 N=>h N.fr.2 N.sub (sum 3 (of_decide_eq_true hb) (by decide) N.sub fun vars f=>⟨fv,f,.inr (.inl ⟨rfl,N.ins⟩)⟩)) fun n3=>?_
 refine ite_go (fun hb=>mk_min TK fun x d H4 N=>h N.fr.2 N.sub (sum 4 (of_decide_eq_true hb) (by decide) N.sub fun vars f=>⟨fv,f,.inr (.inr ⟨rfl,N.ins⟩)⟩)) fun n4=>?_
 refine ite_go (fun hb=>mk_inset TK fun x d H4 N=>h N.fr.2 N.sub ⟨d,by rw [if_pos (show (rowOf kind size q).kind=5 from of_decide_eq_true hb)]; exact ⟨M,N.ins,N.sub _ _ eM⟩⟩) fun n5=>?_
 have n5:(rowOf kind size q).kind≠5:=of_decide_eq_false n5
 refine ite_go (fun hb=>mk_notin TK fun x d H4 N=>h N.fr.2 N.sub ⟨d,by rw [if_neg n5,if_pos (show (rowOf kind size q).kind=6 from of_decide_eq_true hb)]; exact ⟨M,N.ins,N.sub _ _ eM⟩⟩) fun n6=>?_
 have n6:(rowOf kind size q).kind≠6:=of_decide_eq_false n6
 subst e6 e7
 refine ite_go (fun hb=>mk_somein TK fun x d H4 N=>h N.fr.2 N.sub (.k (rowK_7 (of_decide_eq_true hb)) n5 n6 fun _ _=>⟨M,N.sub _ _ eM,N.ins⟩)) fun n7=>?_
 refine ite_go (fun hb=>mk_someout TK fun x d H4 N=>h N.fr.2 N.sub (.k (rowK_8 (of_decide_eq_true hb)) n5 n6 fun _ _=>⟨M,N.sub _ _ eM,N.ins⟩)) fun n8=>?_
 have hk:(rowOf kind size q).kind=9:=kinds9 k0 k9 n0 n1 (of_decide_eq_false n2) (of_decide_eq_false n3) (of_decide_eq_false n4) n5 n6 (of_decide_eq_false n7) (of_decide_eq_false n8)
 refine ⟨by decide,(law_func T (Int.ofNat_le.mpr s1) (Int.ofNat_le.mpr s4) fun f cell cc hf hc ne=>mk_fn TK fun x d H4 N=>?_).call (T.kp (by kernel_rfl))⟩
 have sf:=(Sub.new hf (o:=.fn (size:Int).toNat cell cc)).trans (Sub.new ((AH.set_ne (Ne.symm ne)).trans hc) (o:=.cell (.int (q % 3))))
 exact h (sf.none N.fr.2) (sf.trans N.sub) (.k (rowK_9 hk) n5 n6 fun vars hl=>⟨f,cell,cc,N.ins,N.sub _ _ (hl▸(AH.set_ne ne).trans AH.set_self),N.sub _ _ AH.set_self⟩)
theorem law_rule (T:TopL c P) {kind q:Int} {size:Nat} (k0:0≤kind) (k9:kind≤9) (s1:1≤size) (s4:size≤4)
  (h:∀ H' rt rr rw,H rr=none→Sub H H'→H' rt=some (.tup [.ref rr,.ref rw])→RowAt H' rw (rowOf kind size q)→RuleAt H' rr (rowOf kind size q) size→Q (.ref rt) H'):CallC c (n+3) (.ref 462) [.int kind,.int size,.int q] H Q:=
 k462_3 T.toTopK ⟨by decide,rule_fac (kind:=kind) s4 fun fv H1 s1' hf=>rule_mems fun M H2 s2 eM=>rule_row (hf.sub s2) eM fun R H3 s3 hr=>rule_mk T k0 k9 s1 s4 (hf.sub (s2.trans s3)) (s3 _ _ eM) rfl rfl fun {H4 x} fr s4' r a ha=>
  ⟨_,Sub.refl _,h _ a x R (((s1'.trans s2).trans s3).none fr) (((s1'.trans s2).trans (s3.trans s4')).trans (Sub.new ha)) AH.set_self (hr.sub (s4'.trans (Sub.new ha))) (r.sub (Sub.new ha))⟩⟩
end
end Mine
namespace Mine
theorem all_eq_ends {vals:List Int} {m M:Int} (hm:m∈vals) (h1:∀ a∈vals,m≤a) (hM:M∈vals) (h2:∀ a∈vals,a≤M):Kn.eq.mean vals=decide (m=M):=by
 by_cases e:m=M
 ·rw [decide_eq_true e,eq_mean]
  intro a ha b hb
  exact Int.le_antisymm (Int.le_trans (h2 a ha) (e▸h1 b hb)) (Int.le_trans (h2 b hb) (e▸h1 a ha))
 ·rw [decide_eq_false e]
  cases q:Kn.eq.mean vals with
  | false=>rfl
  | true=>exact absurd (eq_mean.mp q m hm M hM) e
theorem good_len {ms:List Int}:∀ vals:List Int,((vals.filter fun v=>decide (v∈ms)).length:Int)=good ms false vals
 | []=>rfl
 | v::r=>by
  have ih:=good_len (ms:=ms) r
  unfold good at ih ⊢
  rw [List.map_cons,List.sum_cons,← ih,List.filter_cons]
  show _=(if decide (v∈ms)=true then (1:Int) else 0) + _
  split
  ·rw [List.length_cons,Int.natCast_add]; exact Int.add_comm ..
  ·exact (Int.zero_add _).symm
theorem good_inv {ms:List Int}:∀ vals:List Int,(vals.length:Int) - good ms false vals=good ms true vals
 | []=>rfl
 | v::r=>by
  have ih:=good_inv (ms:=ms) r
  unfold good at ih ⊢
  rw [List.map_cons,List.sum_cons,List.map_cons,List.sum_cons,← ih,List.length_cons]
  show _ - ((if decide (v∈ms)=true then (1:Int) else 0) + _)=(if (!decide (v∈ms))=true then (1:Int) else 0) + _
  cases decide (v∈ms)
  ·rw [if_neg (by decide),if_pos (by decide),Int.zero_add,Int.natCast_add,← Int.add_sub_assoc,Int.add_comm 1]; rfl
  ·rw [if_pos rfl,if_neg (by decide),Int.zero_add,Int.natCast_add,Int.add_comm 1]; exact Int.add_sub_add_right _ 1 _
section
variable {r:Row} {vals:List Int}
theorem mean0 (h:r.kind=0):(rowK r).mean vals=decide ((ddl vals:Int)=(vals.length:Int)):=by
 rw [rowK_0 h]
 show decide vals.Nodup=_
 rw [decide_eq_decide,← ddl_eq]
 exact Int.ofNat_inj.symm
theorem mean1 (h:r.kind=1):(rowK r).mean vals=Kn.eq.mean vals:=by rw [rowK_1 h]
theorem toNat_iff {k:Int} (k0:0≤k) (n:Nat):k.toNat=n↔k=n:=⟨fun h=>h▸(Int.toNat_of_nonneg k0).symm,fun h=>h▸rfl⟩
theorem kinds2 {k:Int} (k0:0≤k) (k9:k≤9) (k5:k≠5) (k6:k≠6) (h5:¬ k < 5) (h9:k≠9):k=7∨k=8:=by
 obtain ⟨i,rfl⟩:=kFin k0 k9
 revert i; decide
theorem meanS (k0:0≤r.kind) (n0:r.kind≠0) (n1:r.kind≠1) (h5:r.kind < 5):(rowK r).mean vals=if r.kind=2 then decide (tot r.fo vals≤r.bound) else if r.kind=3 then decide (tot r.fo vals=r.bound) else decide (r.bound≤tot r.fo vals):=by
 rw [rowK_sum n0 n1 h5]
 exact ite_congr (propext (toNat_iff k0 2)) (fun _=>rfl) fun _=>ite_congr (propext (toNat_iff k0 3)) (fun _=>rfl) fun _=>rfl
theorem mean9 (h:r.kind=9):(rowK r).mean vals=lamB r.rest vals:=by rw [rowK_9 h]; rfl
theorem meanI (h:r.kind=7∨r.kind=8):(rowK r).mean vals=if r.exact=true then decide (good r.ms (decide (r.kind=8)) vals=r.need) else decide (r.need≤good r.ms (decide (r.kind=8)) vals):=by
 unfold rowK; rcases h with q | q <;> (rw [q]; rfl)
end
noncomputable def setM (r:Row) (vals:List Int):Bool:=if r.kind=5 then decide (good r.ms false vals=(vals.length:Int)) else if r.kind=6 then decide (good r.ms false vals=0) else if r.exact=true then decide (good r.ms (decide (r.kind=8)) vals=r.need) else decide (r.need≤good r.ms (decide (r.kind=8)) vals)
noncomputable def rowM (r:Row) (vals:List Int):Bool:=if r.kind=5 then decide (good r.ms false vals=(vals.length:Int)) else if r.kind=6 then decide (good r.ms false vals=0) else (rowK r).mean vals
noncomputable abbrev fρ (rw l:Addr) (r:Row) (fv:V) (mr:Addr) (o9 o10 o11 o12:Option V):Loc:=[some (.ref rw),some (.ref l),some (.int r.kind),some (.int r.bound),some fv,some (.ref mr),some (.int r.need),some (.bool r.exact),some (.int r.rest),o9,o10,o11,o12,none,none,none,none,none,none,none]
section
variable {c:Cx} {P:Params} {n:Nat} {H:AH} {Q:V→AH→Prop} {rw l mr:Addr} {r:Row} {vals:List Int} {fv:V} {K:KT} {k:Code}
theorem fits_fac (el:H l=some (.list (iL vals))) (h4:vals.length≤4) (e3:FacV H fv r.fo) (hs:∀ sr H1,Sub H H1→H1 sr=some (.list (iL (scl r.fo vals.length)))→w c n k [.ref sr] (fρ rw l r fv mr none none none none) H1 K) :
  w c n (.ld 4<|.cst .none<|.cmp .Is<|.tru<|.ite (.cst (.int 1)<|.lst 1<|.cst (.oth (.builtin "len"))<|.ld 1<|.call 1<|.bin .Mult<|.done) (.ld 4<|.done)<|k) [] (fρ rw l r fv mr none none none none) H K:=by
 cases q:r.fo with
 | none=>
  rw [q] at e3 hs
  obtain rfl:fv=.none:=e3
  refine CmpT.none_none fun a ha=>CallV.len (AH.set_new el ha) (BinT.mulL AH.set_self (Int.natCast_nonneg _) (by rw [List.length_map]; exact Int.le_trans (Int.ofNat_le.mpr h4) (by decide)) fun D hD=>hs D _ ((Sub.new ha).trans (Sub.new hD)) ?_)
  rw [AH.set_self,List.length_map]
  exact congrArg (fun L=>some (AO.list L)) List.map_replicate.symm
 | some fs=>
  rw [q] at e3 hs
  obtain ⟨a,rfl,q⟩:=e3
  exact CmpT.ref_none (hs a _ (Sub.refl _) q)
theorem fits_sum (el:H l=some (.list (iL vals))) (h4:vals.length≤4) (hv:∀ v∈vals,0≤v∧v≤1000) (e3:FacV H fv r.fo) (hfo:∀ fs,r.fo=some fs→fs.length=vals.length∧∀ f∈fs,0≤f∧f≤1000)
  (h2:r.kind=2→∀ ρ H',Sub H H'→K (.ret (.bool (decide (tot r.fo vals≤r.bound)))) [] ρ H') (h3:r.kind=3→∀ ρ H',Sub H H'→K (.ret (.bool (decide (tot r.fo vals=r.bound)))) [] ρ H')
  (h5:r.kind≠2→r.kind≠3→∀ ρ H',Sub H H'→K (.ret (.bool (decide (r.bound≤tot r.fo vals)))) [] ρ H') :
  w c n (.ld 4<|.cst .none<|.cmp .Is<|.tru<|.ite (.cst (.int 1)<|.lst 1<|.cst (.oth (.builtin "len"))<|.ld 1<|.call 1<|.bin .Mult<|.done) (.ld 4<|.done)<|.st 9<|.cst (.oth (.builtin "sum"))<|.ld 1<|.ld 9<|.comp .zip 2 [none,none,none] (.st 1<|.st 2<|.ld 1<|.ld 2<|.bin .Mult<|.done)<|.call 1<|.st 11<|.ld 2<|.cst (.int 2)<|.cmp .Eq<|.tru<|.ite (.ld 11<|.ld 3<|.cmp .LtE<|.ret) .done<|.ld 2<|.cst (.int 3)<|.cmp .Eq<|.tru<|.ite (.ld 11<|.ld 3<|.cmp .Eq<|.ret) .done<|.ld 11<|.ld 3<|.cmp .GtE<|.ret) []
   (fρ rw l r fv mr none none none none) H K:=by
 have hscl:(scl r.fo vals.length).length=vals.length∧∀ f∈scl r.fo vals.length,0≤f∧f≤1000:=by
  cases q:r.fo with
  | none=>exact ⟨List.length_replicate,fun f hf=>by rw [List.eq_of_mem_replicate hf]; decide⟩
  | some fs=>exact hfo fs q
 have hz:(vals.zip (scl r.fo vals.length)).length≤4:=by rw [List.length_zip]; exact Nat.le_trans (Nat.min_le_left ..) h4
 refine fits_fac el h4 e3 fun sr H1 S1 esr=>?_
 refine w_compP (fun (a:Option V × Option V)=>[none,a.1,a.2]) (fun i=>iL (((vals.zip (scl r.fo vals.length)).map fun q=>q.1 * q.2).take i)) (none,none) (.zip (S1 _ _ el) esr) (by rw [zip_len hscl.1]; exact Nat.le_trans hz (by decide)) rfl ⟨S1 _ _ el,esr⟩ (fun i xs a K' hi hn _=>?_) fun D hD=>?_
 ·obtain ⟨x,f,ex,ef,rfl⟩:=it_zip hi
  have hf:=hscl.2 f (List.mem_of_getElem? ef)
  refine BinT.mulR ⟨Int.le_trans (by decide) hf.1,Int.le_trans hf.2 (by decide)⟩ (hn _ (some (.int x),some (.int f)) ?_)
  rw [take_snoc (v:=x * f) (by rw [List.getElem?_map,List.getElem?_zip_eq_some (z:=(x,f)) |>.mpr ⟨ex,ef⟩]; rfl),iL_append]; rfl
 rw [zip_len hscl.1,show ((vals.zip (scl r.fo vals.length)).map fun q=>q.1 * q.2).take (vals.zip (scl r.fo vals.length)).length=((vals.zip (scl r.fo vals.length)).map fun q=>q.1 * q.2) from List.take_of_length_le (Nat.le_of_eq (List.length_map ..))]
 refine CallV.sumI AH.set_self (sumFits_of (by rw [List.length_map]; exact Nat.le_trans hz (by decide)) fun a ha=>?_) ?_
 ·obtain ⟨⟨v,f⟩,hm,rfl⟩:=List.mem_map.mp ha
  obtain ⟨hm1,hm2⟩:=List.of_mem_zip hm
  have a1:=hv v hm1
  have a2:=hscl.2 f hm2
  have a3:0≤v * f:=Int.mul_nonneg a1.1 a2.1
  have a4:v * f≤1000 * 1000:=Int.mul_le_mul a1.2 a2.2 a2.1 (by decide)
  exact ⟨Int.le_trans (by decide) a3,a4⟩
 have s2:=S1.trans (Sub.new hD (o:=.list (iL ((vals.zip (scl r.fo vals.length)).map fun q=>q.1 * q.2))))
 exact ite_go (fun hb=>h2 (of_decide_eq_true hb) _ _ s2) fun hb=>ite_go (fun hb'=>h3 (of_decide_eq_true hb') _ _ s2) fun hb'=>h5 (of_decide_eq_false hb) (of_decide_eq_false hb') _ _ s2
theorem fits_fn (el:H l=some (.list (iL vals))) (h:∀ ρ,K (.ret (.bool (lamB r.rest vals))) [] ρ H) :
  w c n (.cst (.int 0)<|.st 11<|.ld 1<|.loop .rev 1 (.st 10<|.cst (.int 2)<|.ld 11<|.bin .Mult<|.ld 10<|.bin .Add<|.st 11<|.done) .done<|.ld 11<|.cst (.int 3)<|.bin .Mod<|.ld 8<|.cmp .NotEq<|.ret) [] (fρ rw l r fv mr none none none none) H K:=by
 refine w_loopP (fun i u=>fρ rw l r fv mr none u (some (.int (lamW (vals.reverse.take i).reverse))) none) none (.rev el) el (fun i xs u K' hi hn _=>?_) fun u=>?_
 ·rw [show (iL vals).reverse=iL vals.reverse from List.map_reverse.symm] at hi
  obtain ⟨x,ex,rfl⟩:=it_iL hi
  have hn:=hn [] (some (.int x))
  rw [take_snoc ex,List.reverse_append,List.reverse_singleton,List.singleton_append,show lamW (x::(vals.reverse.take i).reverse)=2 * lamW (vals.reverse.take i).reverse + x from Int.add_comm ..] at hn
  exact BinT.mulL2 (by decide) hn
 ·rw [List.length_map,List.length_reverse,List.length_map,← List.length_reverse,List.take_length,List.reverse_reverse]
  exact ⟨by decide,h _⟩
theorem w_filt {L us:List Int} {st:List V} {ρ:Loc} {j:Nat} {U:Addr} (el:H l=some (.list (iL L))) (eu:H U=some (.list (iL us))) (ej:ρ.at j=some (.ref U)) (hl:L.length≤100000) (h:∀ D,H D=none→w c n k (.ref D::st) ρ (H.set D (.list (iL (L.filter fun v=>decide (v∈us))))) K) :
  w c n (.comp .seq 1 [none,none,some j] (.st 1<|.ld 1<|.ld 2<|.cmp .In<|.tru<|.ite (.ld 1<|.done) .cont<|.done)<|k) (.ref l::st) ρ H K:=by
 refine w_compP (fun a=>[none,a,some (.ref U)]) (fun i=>iL ((L.take i).filter fun v=>decide (v∈us))) none (.list el) (by rw [it_len]; exact hl) rfl el (fun i xs a K' hi hn hc=>?_) (fun D hD=>?_) (by show [none,none,ρ.at j]=_; rw [ej])
 ·obtain ⟨x,ex,rfl⟩:=it_iL hi
  have es:iL ((L.take (i + 1)).filter fun v=>decide (v∈us))=iL ((L.take i).filter fun v=>decide (v∈us))++(if decide (x∈us)=true then [V.int x] else []):=by
   rw [take_snoc ex,List.filter_append,iL_append,List.filter_cons]
   congr 1
   split <;> rfl
  exact CmpT.inInts eu (ite_go (fun hb=>hn _ (some (.int x)) (by rw [es,if_pos hb])) fun hb=>hc [] (some (.int x)) (by rw [es,if_neg (by rw [hb]; decide)]; exact List.append_nil _))
 ·rw [it_len,List.take_length]
  exact h D hD
theorem fits_in (el:H l=some (.list (iL vals))) (e2:H mr=some (.list (iL r.ms))) (h4:vals.length≤4) (h:∀ ρ H',Sub H H'→K (.ret (.bool (setM r vals))) [] ρ H') :
  w c n (.cst (.oth (.builtin "len"))<|.ld 1<|.comp .seq 1 [none,none,some 5] (.st 1<|.ld 1<|.ld 2<|.cmp .In<|.tru<|.ite (.ld 1<|.done) .cont<|.done)<|.call 1<|.st 12<|.ld 2<|.cst (.int 5)<|.cmp .Eq<|.tru<|.ite (.ld 12<|.cst (.oth (.builtin "len"))<|.ld 1<|.call 1<|.cmp .Eq<|.ret) (.done)<|.ld 2<|.cst (.int 6)<|.cmp .Eq<|.tru<|.ite (.ld 12<|.cst (.int 0)<|.cmp .Eq<|.ret) (.done)<|.ld 2<|.cst (.int 8)<|.cmp .Eq<|.tru<|.ite (.cst (.oth (.builtin "len"))<|.ld 1<|.call 1<|.ld 12<|.bin .Sub<|.st 12<|.done) .done<|.ld 7<|.tru<|.ite (.ld 12<|.ld 6<|.cmp .Eq<|.ret) .done<|.ld 12<|.ld 6<|.cmp .GtE<|.ret) []
   (fρ rw l r fv mr none none none none) H K:=by
 refine w_filt el e2 rfl (Nat.le_trans h4 (by decide)) fun D hD=>?_
 have el':=AH.set_new (o':=.list (iL (vals.filter fun v=>decide (v∈r.ms)))) el hD
 have h:=fun ρ=>h ρ (H.set D (.list (iL (vals.filter fun v=>decide (v∈r.ms))))) (Sub.new hD)
 refine CallV.len AH.set_self ?_
 rw [List.length_map,good_len]
 unfold setM at h
 refine ite_go (fun hb=>CallV.len el' ?_) fun hb=>?_
 ·rw [if_pos (of_decide_eq_true hb)] at h
  rw [List.length_map]; exact h _
 rw [if_neg (of_decide_eq_false hb)] at h
 refine ite_go (fun hb=>?_) fun hb=>?_
 ·rw [if_pos (of_decide_eq_true hb)] at h
  exact h _
 rw [if_neg (of_decide_eq_false hb)] at h
 have go:∀ z,z=good r.ms (decide (r.kind=8)) vals→w c n (.ld 7<|.tru<|.ite (.ld 12<|.ld 6<|.cmp .Eq<|.ret) .done<|.ld 12<|.ld 6<|.cmp .GtE<|.ret) [] (fρ rw l r fv mr none none none (some (.int z))) _ K:=fun z hz=>by
  have h:=h (fρ rw l r fv mr none none none (some (.int z)))
  rw [← hz] at h
  exact ite_go (fun q=>by rw [if_pos q] at h; exact h) fun q=>by rw [q,if_neg Bool.false_ne_true] at h; exact h
 refine ite_go (fun hb=>CallV.len el' ?_) fun hb=>go _ (by rw [hb])
 rw [List.length_map]
 exact go _ (by rw [hb,good_inv])
theorem law_fits (T:TopK c P) (hr:RowAt H rw r) (el:H l=some (.list (iL vals))) (hne:vals≠[]) (h4:vals.length≤4) (hv:∀ v∈vals,0≤v∧v≤1000)
  (k0:0≤r.kind) (k9:r.kind≤9) (hfo:∀ fs,r.fo=some fs→fs.length=vals.length∧∀ f∈fs,0≤f∧f≤1000)
  (h:∀ H',Sub H H'→Q (.bool (rowM r vals)) H'):CallC c (n+1) (.ref 467) [.ref rw,.ref l] H Q:=by
 obtain ⟨fv,mr,e1,e2,e3⟩:=hr
 refine k467_2 T ⟨_,_,rfl,e1,rfl,?_⟩
 have hM:(r.kind=5∨r.kind=6)∨rowM r vals=(rowK r).mean vals:=by
  unfold rowM
  by_cases k5:r.kind=5
  ·exact .inl (.inl k5)
  ·by_cases k6:r.kind=6
   ·exact .inl (.inr k6)
   ·exact .inr (by rw [if_neg k5,if_neg k6])
 have hK:r.kind < 5∨r.kind=9→rowM r vals=(rowK r).mean vals:=fun q=>hM.resolve_left fun w=>by rcases w with w | w <;> (rw [w] at q; revert q; decide)
 refine ite_go (fun hb=>?_) fun n0=>?_
 ·have hb:=of_decide_eq_true hb
  rw [hK (.inl (by rw [hb]; decide)),mean0 hb,← List.length_map (as:=vals) V.int] at h
  exact CallV.setI el (Nat.lt_of_le_of_lt h4 (by decide)) fun D hD=>CallV.lenSet AH.set_self (CallV.len (AH.set_new el hD) ⟨_,Sub.refl _,h _ (Sub.new hD)⟩)
 refine ite_go (fun hb=>?_) fun n1=>?_
 ·have hb:=of_decide_eq_true hb
  rw [hK (.inl (by rw [hb]; decide)),mean1 hb] at h
  exact CallV.minI el hne fun m m1 m2=>CallV.maxI el hne fun M m3 m4=>⟨_,Sub.refl _,(all_eq_ends m1 m2 m3 m4)▸h _ (Sub.refl H)⟩
 have n0:=of_decide_eq_false n0
 have n1:=of_decide_eq_false n1
 refine ite_go (fun hb=>?_) fun n5=>?_
 ·have h5:=of_decide_eq_true hb
  rw [hK (.inl h5),meanS k0 n0 n1 h5] at h
  exact fits_sum el h4 hv e3 hfo (fun q ρ H' s=>⟨_,Sub.refl _,by have:=h H' s; rw [if_pos q] at this; exact this⟩) (fun q ρ H' s=>⟨_,Sub.refl _,by have:=h H' s; rw [if_neg (by rw [q]; decide),if_pos q] at this; exact this⟩) fun q2 q3 ρ H' s=>⟨_,Sub.refl _,by have:=h H' s; rw [if_neg q2,if_neg q3] at this; exact this⟩
 have n5:=of_decide_eq_false n5
 refine ite_go (fun hb=>?_) fun n9=>?_
 ·have hb:=of_decide_eq_true hb
  rw [hK (.inr hb),mean9 hb] at h
  exact fits_fn el fun ρ=>⟨_,Sub.refl _,h _ (Sub.refl _)⟩
 have n9:=of_decide_eq_false n9
 refine fits_in el e2 h4 fun ρ H' s=>⟨_,Sub.refl _,?_⟩
 have h:=h H' s
 unfold setM
 unfold rowM at h
 by_cases k5:r.kind=5
 ·rw [if_pos k5] at h ⊢; exact h
 ·rw [if_neg k5] at h ⊢
  by_cases k6:r.kind=6
  ·rw [if_pos k6] at h ⊢; exact h
  ·rw [if_neg k6] at h ⊢
   rw [meanI (kinds2 k0 k9 k5 k6 n5 n9)] at h
   exact h
end
end Mine
namespace Mine
noncomputable def flt1 (d:DS) (k:Int→Bool):DS:=⟨d.vs.filter k,d.hid,d.st⟩
noncomputable def fltN (d:DS) (k:Int→Bool) (i:Nat):DS:=⟨(hidN d k i).vs,d.hid,d.st⟩
theorem fltN_zero {d:DS} {k:Int→Bool}:fltN d k 0=d:=by unfold fltN; rw [hidN_zero]
theorem fltN_all {d:DS} {k:Int→Bool}:fltN d k d.vs.length=flt1 d k:=by unfold fltN; rw [hidN_all]; rfl
section
variable {c:Cx} {P:Params} {n:Nat} {H fx:AH} {da:Int→DA} {all:List Int} {D:Int→DS} {x:Int} {K:KT} {iD iW:Nat}
noncomputable abbrev remC (iD iW:Nat):Code:=.ld iD<|.gm "remove"<|.ld iW<|.cm 1<|.pop<|.done
theorem remLoop {k:Int→Bool} {cond kk:Code} (T:TopK c P) (S:St H fx da all D) (hx:x∈all) (ok:(D x).vs.Nodup) (L:Option V→Loc) (eD:∀ u,(L u).at iD=some (.ref (da x .a))) (sW:∀ u v,(L u).set iW v=L v) (eW:∀ v,(L v).at iW=v)
  (hc:∀ i v fx' H' K',Sub fx fx'→v∈(D x).vs→St H' fx' da all (upd D x (fltN (D x) k i))→(k v=false→∀ H'' K'',St H'' fx' da all (upd D x (fltN (D x) k i))→(∀ st ρ H,K' .next st ρ H→K'' .next st ρ H)→w c n (remC iD iW) [] (L (some (.int v))) H'' K'')→
   (k v=true→∀ H'',St H'' fx' da all (upd D x (fltN (D x) k i))→K' .next [] (L (some (.int v))) H'')→w c n cond [] (L (some (.int v))) H' K') {u:Option V}
  (h:∀ u H',St H' fx da all (upd D x (flt1 (D x) k))→w c n kk [] (L u) H' K):w c n (hideL iD iW cond kk) [] (L u) H K:=by
 refine w_ld (eD u) (SliceT.dom T.D (S.at_ x hx .a) fun l hl=>?_)
 have hf:fx l=none:=S.sub.none hl
 refine w_loop L (fun i _ H'=>St H' (fx.set l (.list (iL (D x).vs))) da all (upd D x (fltN (D x) k i))) u (.list AH.set_self) ((S.new hl).eqD fun y hy=>upd_c fun q=>by rw [q,fltN_zero]) (fun i _ H' h=>h.sub _ _ AH.set_self) (fun i xs u H' K' hi hI hn _=>?_) fun u H' hI=>?_
 ·obtain ⟨v,ev,rfl⟩:=it_iL hi
  show w c n cond [] ((L u).set iW (some (.int v))) H' _
  rw [sW]
  refine hc i v _ H' _ (Sub.new hf) (List.mem_of_getElem? ev) hI (fun hk H2 K'' S' hK=>?_) fun hk H2 S'=>hn _ _ _ (by unfold fltN; rw [hidN_keep ev hk]; exact S')
  obtain ⟨g1,g2⟩:=hidN_drop ok ev hk
  have e:upd D x (fltN (D x) k i) x=fltN (D x) k i:=upd_self
  have ex:=S'.at_ x hx .a
  rw [e] at ex
  refine w_ld (eD _) ⟨_,_,getD T S' hx (m:=.builtin "list.remove") (by kernel_rfl) (by kernel_rfl) (.inr rfl) rfl,w_ld (eW _) (CallV.removeDom T.D ex g2 ⟨rfl,?_⟩)⟩
  have S2:=S'.slot hx .a (fltN (D x) k (i + 1)) fun j hj=>by rw [e]; cases j <;> first | rfl | exact absurd rfl hj
  rw [upd_upd] at S2
  rw [show obj (da x) (fltN (D x) k (i + 1)) .a=.sub (da x .d) (iL ((fltN (D x) k i).vs.erase v)) by unfold obj fltN; rw [g1]] at S2
  exact hK _ _ _ (hn _ _ _ S2)
 ·rw [it_len,fltN_all] at hI
  exact h u H' (hI.loose (Sub.new hf))
end
structure CList (fx:AH) (rA nA:Nat→Addr) (l:Addr) (ks:List Nat) (ts:List Addr):Prop where
 e:fx l=some (.list (ts.map V.ref))
 len:ts.length=ks.length
 at_:∀ (j:Nat) a k,ts[j]?=some a→ks[j]?=some k→fx a=some (.tup [.ref (rA k),.ref (nA k)])
noncomputable def CLat (fx:AH) (rA nA:Nat→Addr) (l:Addr) (ks:List Nat):Prop:=∃ ts,CList fx rA nA l ks ts
section
variable {fx fx':AH} {rA nA:Nat→Addr} {l l':Addr} {ks:List Nat} {vs us:List V}
theorem CLat.sub (h:CLat fx rA nA l ks) (s:Sub fx fx'):CLat fx' rA nA l ks:=h.imp fun ts q=>⟨s _ _ q.e,q.len,fun j a k h1 h2=>s _ _ (q.at_ j a k h1 h2)⟩
theorem CLat.put (h:CLat fx rA nA l ks) (e':fx l'=some (.list vs)) (hne:l≠l'):CLat (fx.set l' (.list us)) rA nA l ks:=h.imp fun ts q=>⟨(AH.set_ne hne).trans q.e,q.len,fun j a k h1 h2=>by
 have:=q.at_ j a k h1 h2
 exact (AH.set_ne fun w=>by rw [w,e'] at this; cases this).trans this⟩
end
theorem erase_at:∀ (ks:List Nat) (k0:Nat),k0∈ks→∃ i0:Nat,ks[i0]?=some k0∧(∀ (j:Nat) k,j < i0→ks[j]?=some k→k≠k0)∧ks.erase k0=ks.eraseIdx i0
 | [],_,h=>nomatch h
 | x::r,k0,h=>by
  by_cases q:x=k0
  ·exact ⟨0,congrArg some q,fun j k hj=>absurd hj (Nat.not_lt_zero _),by rw [q,List.erase_cons_head]; rfl⟩
  ·obtain ⟨i0,h1,h2,h3⟩:=erase_at r k0 ((List.mem_cons.mp h).resolve_left (Ne.symm q))
   refine ⟨i0 + 1,h1,fun j k hj e=>?_,?_⟩
   ·cases j with
    | zero=>cases e; exact q
    | succ j=>exact h2 j k (Nat.lt_of_succ_lt_succ hj) e
   ·rw [List.erase_cons_tail (fun w=>q (eq_of_beq w)),List.eraseIdx_cons_succ,h3]
noncomputable def conL:List Addr:=[169,189,209,244,279,307,341,375,403,431]
theorem con_ok:conL.all (fun C=>isIn (K P) (.ref C) 141 && (findIn (K P) (.ref C) "__eq__" == some (some (.ref 115)) && conL.all fun D=>C == D || mroIn (K P) D (.ref C) == some false))=true:=by kernel_rfl
structure ConAt (fx:AH) (a C d:Addr):Prop where
 e:fx a=some (.inst C d)
 c:C∈conL
section
variable {c:Cx} {P:Params} {n:Nat} {H fx:AH} {Q:V→AH→Prop} {x y C d C' d' l t:Addr} {da:Int→DA} {all:List Int} {D:Int→DS} {rA nA:Nat→Addr} {ks:List Nat} {k0:Nat}
theorem liesI (e:H x=some (.inst C d)):Lies c H x:=fun Z s R=>(R.real x _ e).imp fun ob q=>⟨q.1,by rw [q.2]; exact fun h=>nomatch h⟩
theorem con_eqc (T:TopK c P) (hne:x≠y) (ex:ConAt H x C d) (ey:ConAt H y C' d'):EqC c (n + 1) H x y false:=by
 have h1:=List.all_eq_true.mp (con_ok (P:=P)) C ex.c
 have h2:=List.all_eq_true.mp (con_ok (P:=P)) C' ey.c
 rw [Bool.and_eq_true,Bool.and_eq_true] at h1 h2
 have h3:=List.all_eq_true.mp h1.2.2 C' ey.c
 refine EqC.inst hne ex.e ey.e (T.fi (eq_of_beq h1.2.1)) (f:=115) (of:=((K P).lookup 115).get (by kernel_rfl)) (by rw [T.hK]; exact (Option.some_get _).symm) (by kernel_rfl) ?_ ((k115_2 T (CallV.isinst ey.e (T.hK▸h2.1) ?_)).call (kp115 T))
 ·rw [Bool.or_eq_true] at h3
  exact h3.imp eq_of_beq fun q=>by rw [T.hK]; exact eq_of_beq q
 ·exact CmpT.isR (neg:=false) (liesI ex.e) (liesI ey.e) (by rw [decide_eq_false hne]; exact ⟨_,Sub.refl _,rfl,Sub.refl _⟩)
theorem rem_pair (T:TopK c P) (S:St H fx da all D) (hl:CLat fx rA nA l ks) (hk:k0∈ks) (hin:∀ k∈ks,∃ C d,ConAt fx (rA k) C d) (inj:∀ k∈ks,rA k=rA k0→k=k0) (et:H t=some (.tup [.ref (rA k0),.ref (nA k0)]))
  (h:∀ vs us,fx l=some (.list vs)→CLat (fx.set l (.list us)) rA nA l (ks.erase k0)→St (H.set l (.list us)) (fx.set l (.list us)) da all D→Q .none (H.set l (.list us))):CallV c (n + 3) (.oth (.builtin "list.remove")) [.ref l,.ref t] H Q:=by
 obtain ⟨ts,L⟩:=hl
 obtain ⟨i0,h1,h2,h3⟩:=erase_at ks k0 hk
 obtain ⟨hi0,_⟩:=List.getElem?_eq_some_iff.mp h1
 obtain ⟨C0,d0,c0⟩:=hin k0 hk
 refine CallV.removeEq (k0:=i0) (S.sub _ _ L.e) (L.len▸hi0) (fun j a hj ea=>?_) (fun a ea=>?_) (h _ _ L.e ⟨ts.eraseIdx i0,AH.set_self,?_,fun j a k ea ek=>?_⟩ (S.put L.e))
 ·have hjk:=Nat.lt_trans hj hi0
  have ek:=List.getElem?_eq_getElem hjk
  have hkm:=List.getElem_mem hjk
  obtain ⟨C1,d1,c1⟩:=hin _ hkm
  have hr:rA ks[j]≠rA k0:=fun q=>h2 j _ hj ek (inj _ hkm q)
  have eta:=S.sub _ _ (L.at_ j a _ ea ek)
  have hat:a≠t:=fun q=>by
   rw [q,et] at eta
   injection eta with w; injection w with _ w; injection w with w _; injection w with w
   exact hr w.symm
  exact EqC.pair (e1:=false) (e2:=true) hat eta et (con_eqc T hr ⟨S.sub _ _ c1.e,c1.c⟩ ⟨S.sub _ _ c0.e,c0.c⟩) (fun h=>nomatch h)
 ·have eta:=S.sub _ _ (L.at_ i0 a k0 ea h1)
  by_cases hat:a=t
  ·rw [hat]; exact EqC.same
  ·exact EqC.pair (e1:=true) (e2:=true) hat eta et EqC.same (fun _=>EqC.same)
 ·rw [h3,List.length_eraseIdx,List.length_eraseIdx,L.len]
 ·rw [h3,List.getElem?_eraseIdx] at ek
  rw [List.getElem?_eraseIdx] at ea
  have:fx a=some (.tup [.ref (rA k),.ref (nA k)]):=by
   split at ea
   ·rename_i q; rw [if_pos q] at ek; exact L.at_ j a k ea ek
   ·rename_i q; rw [if_neg q] at ek; exact L.at_ (j+1) a k ea ek
  exact (AH.set_ne fun q=>by rw [q,L.e] at this; cases this).trans this
end
end Mine
namespace Mine
noncomputable def cPre (inv:Bool):Code:=.ld 1<|.loop .seq 1 (.st 5<|.ld 2<|.ld 5<|.sub<|.st 6<|hideL 6 7 (.ld 7<|.ld 0<|.attr "_set"<|.cmp (opIn (!inv))<|.tru<|.ite (remC 6 7) .done<|.done) (.ld 4<|.ld 5<|.sub<|.gm "remove"<|.ld 0<|.ld 1<|.tup 2<|.cm 1<|.pop<|.done)) .done<|
 .ld 3<|.gm "remove"<|.ld 0<|.ld 1<|.tup 2<|.cm 1<|.pop<|.done
theorem c338_eq:c338=cPre false:=rfl
theorem c372_eq:c372=cPre true:=rfl
noncomputable def vI (all:List Int) (vl:Int→Addr):List (Int × V):=all.map fun x=>(x,.ref (vl x))
theorem vAt_vI {all:List Int} {vl:Int→Addr} {x:Int} (hx:x∈all):vAt (vI all vl) x=some (.ref (vl x)):=vAt_dI (da:=fun x _=>vl x) hx
structure Pre (fx:AH) (all vars:List Int) (rA nA:Nat→Addr) (ksC:List Nat) (ksV:Int→List Nat) (vl:Int→Addr) (k0:Nat) (vr cl vd:Addr):Prop where
 lc:CLat fx rA nA cl ksC
 lvd:fx vd=some (.dict (vI all vl) none)
 lvl:∀ x∈all,CLat fx rA nA (vl x) (ksV x)
 sub:∀ x∈vars,x∈all
 nd:vars.Nodup
 kc:k0∈ksC
 kv:∀ x∈vars,k0∈ksV x
 insC:∀ k∈ksC,∃ C d,ConAt fx (rA k) C d
 insV:∀ x∈all,∀ k∈ksV x,∃ C d,ConAt fx (rA k) C d
 injC:∀ k∈ksC,rA k=rA k0→k=k0
 injV:∀ x∈all,∀ k∈ksV x,rA k=rA k0→k=k0
 nek:nA k0=vr
 vinj:∀ x∈all,∀ y∈all,vl x=vl y→x=y
 cne:∀ x∈all,cl≠vl x
structure PreD (fx fx':AH) (all L:List Int) (rA nA:Nat→Addr) (ksC':List Nat) (ksV:Int→List Nat) (vl:Int→Addr) (k0:Nat) (cl:Addr):Prop where
 lc:CLat fx' rA nA cl ksC'
 lvl:∀ x∈all,CLat fx' rA nA (vl x) (if x∈L then (ksV x).erase k0 else ksV x)
 keep:∀ b o,fx b=some o→b≠cl→(∀ x∈all,b≠vl x)→fx' b=some o
noncomputable def fltD (D:Int→DS) (L:List Int) (k:Int→Bool):Int→DS:=fun x=>if x∈L then flt1 (D x) k else D x
theorem fltD_off {D:Int→DS} {L:List Int} {k:Int→Bool} {x:Int} (h:x∉L):fltD D L k x=D x:=if_neg h
theorem fltD_snoc {D:Int→DS} {L:List Int} {k:Int→Bool} {x:Int} (h:x∉L):fltD D (L++[x]) k=upd (fltD D L k) x (flt1 (fltD D L k x) k):=by
 funext y
 rw [fltD_off h]
 unfold fltD upd
 by_cases q:y=x
 ·rw [if_pos q,if_pos (q▸List.mem_append_right _ (List.mem_singleton.mpr rfl)),q]
 ·rw [if_neg q]
  by_cases w:y∈L
  ·exact (if_pos (List.mem_append_left _ w)).trans (if_pos w).symm
  ·exact (if_neg fun h=>(List.mem_append.mp h).elim w fun h=>q (List.mem_singleton.mp h)).trans (if_neg w).symm
section
variable {fx fx':AH} {all vars L:List Int} {rA nA:Nat→Addr} {ksC ksC':List Nat} {ksV:Int→List Nat} {vl:Int→Addr} {k0:Nat} {vr cl vd:Addr}
theorem Pre.keepL (P:Pre fx all vars rA nA ksC ksV vl k0 vr cl vd) (M:PreD fx fx' all L rA nA ksC' ksV vl k0 cl) {b:Addr} {o:AO} (e:fx b=some o) (h:∀ ts:List Addr,o≠.list (ts.map V.ref)):fx' b=some o:=
 M.keep b o e (fun q=>P.lc.elim fun ts w=>h ts (Option.some.inj ((q▸e).symm.trans w.e))) fun x hx q=>(P.lvl x hx).elim fun ts w=>h ts (Option.some.inj ((q▸e).symm.trans w.e))
theorem Pre.con (P:Pre fx all vars rA nA ksC ksV vl k0 vr cl vd) (M:PreD fx fx' all L rA nA ksC' ksV vl k0 cl) {a:Addr} (h:∃ C d,ConAt fx a C d):∃ C d,ConAt fx' a C d:=h.imp fun C q=>q.imp fun d q=>⟨P.keepL M q.e (fun ts w=>nomatch w),q.c⟩
theorem PreD.start (P:Pre fx all vars rA nA ksC ksV vl k0 vr cl vd):PreD fx fx all [] rA nA ksC ksV vl k0 cl:=⟨P.lc,fun x hx=>by rw [if_neg (fun h=>nomatch h)]; exact P.lvl x hx,fun b o e _ _=>e⟩
theorem PreD.var (M:PreD fx fx' all L rA nA ksC' ksV vl k0 cl) (P:Pre fx all vars rA nA ksC ksV vl k0 vr cl vd) {x:Int} {vs us:List V} (hx:x∈all) (e1:fx' (vl x)=some (.list vs)) (h:CLat (fx'.set (vl x) (.list us)) rA nA (vl x) ((ksV x).erase k0)):PreD fx (fx'.set (vl x) (.list us)) all (L++[x]) rA nA ksC' ksV vl k0 cl:=by
 refine ⟨M.lc.put e1 (P.cne x hx),fun z hz=>?_,fun b o e h1 h2=>(AH.set_ne (h2 x hx)).trans (M.keep b o e h1 h2)⟩
 by_cases q:z=x
 ·subst q
  rw [if_pos (List.mem_append_right _ (List.mem_singleton.mpr rfl))]
  exact h
 ·have:=(M.lvl z hz).put (us:=us) e1 (fun w=>q (P.vinj z hz x hx w))
  by_cases w:z∈L
  ·rw [if_pos w] at this; rw [if_pos (List.mem_append_left _ w)]; exact this
  ·rw [if_neg w] at this; rw [if_neg fun h=>(List.mem_append.mp h).elim w fun h=>q (List.mem_singleton.mp h)]; exact this
theorem PreD.fin (M:PreD fx fx' all L rA nA ksC ksV vl k0 cl) (P:Pre fx all vars rA nA ksC ksV vl k0 vr cl vd) {vs us:List V} {ks:List Nat} (e1:fx' cl=some (.list vs)) (h:CLat (fx'.set cl (.list us)) rA nA cl ks):PreD fx (fx'.set cl (.list us)) all L rA nA ks ksV vl k0 cl:=
 ⟨h,fun z hz=>(M.lvl z hz).put e1 (Ne.symm (P.cne z hz)),fun b o e h1 h2=>(AH.set_ne h1).trans (M.keep b o e h1 h2)⟩
end
section
variable {c:Cx} {P:Params} {n:Nat} {H fx:AH} {Q:V→AH→Prop} {da:Int→DA} {all vars:List Int} {D:Int→DS} {rA nA:Nat→Addr} {ks ksC:List Nat} {ksV:Int→List Nat} {vl:Int→Addr} {k0:Nat} {l vr dr cl vd self d mr C:Addr} {ms:List Int} {inv:Bool} {ρ:Loc} {kk:Code} {Kk:KT}
theorem getRem {vs:List V} (e:H l=some (.list vs)):GetX c n (.ref l) "remove" H (.builtin "list.remove") true:=.list e PySem.F.slot_list_remove rfl
theorem w_rem (T:TopK c P) (S:St H fx da all D) (hl:CLat fx rA nA l ks) (hk:k0∈ks) (hin:∀ k∈ks,∃ C d,ConAt fx (rA k) C d) (inj:∀ k∈ks,rA k=rA k0→k=k0) (e0:ρ.at 0=some (.ref (rA k0))) (e1:ρ.at 1=some (.ref (nA k0)))
  (h:∀ vs us H',fx l=some (.list vs)→CLat (fx.set l (.list us)) rA nA l (ks.erase k0)→St H' (fx.set l (.list us)) da all D→w c (n + 3) kk [] ρ H' Kk):w c (n + 3) (.gm "remove"<|.ld 0<|.ld 1<|.tup 2<|.cm 1<|.pop<|kk) [.ref l] ρ H Kk:=by
 obtain ⟨ts,L⟩:=id hl
 exact ⟨_,_,getRem (S.sub _ _ L.e),w_ld e0 (w_ld e1 fun t ht=>rem_pair T (S.new' ht) hl hk hin inj AH.set_self fun vs us e2 h2 S2=>⟨rfl,h vs us _ e2 h2 S2⟩)⟩
structure SetCls (P:Params) (C:Addr):Prop where
 ok:ClsOk (K P) C
 ne:C≠DomC
 f1:findIn (K P) (.ref C) "_set"=some none
theorem set341:SetCls P 341:=⟨ok341,by decide,by kernel_rfl⟩
theorem set375:SetCls P 375:=⟨ok375,by decide,by kernel_rfl⟩
theorem pre_set (T:TopK c P) (S:St H fx da all D) (hP:Pre fx all vars rA nA ksC ksV vl k0 vr cl vd) (lv:fx vr=some (.list (iL vars))) (ld:fx dr=some (.dict (dI all da) none)) (hr:rA k0=self) (hC:SetCls P C) (I:Ins fx self C d [("_set",.ref mr)]) (em:fx mr=some (.list (iL ms))) (ok:∀ x∈vars,(D x).vs.Nodup)
  (vc:vr≠cl∧∀ x∈all,vr≠vl x) (mc:mr≠cl∧∀ x∈all,mr≠vl x)
  (h:∀ H' fx',PreD fx fx' all vars rA nA (ksC.erase k0) ksV vl k0 cl→St H' fx' da all (fltD D vars (okv ms inv))→Q .none H'):w c (n + 3) (cPre inv) [] (b5 self vr dr cl (.ref vd) [none,none,none]) H (endK Q):=by
 subst hr
 refine w_loop (fun (u:Option V × Option V × Option V)=>[some (.ref (rA k0)),some (.ref vr),some (.ref dr),some (.ref cl),some (.ref vd),u.1,u.2.1,u.2.2]) (fun i _ H'=>∃ fx',PreD fx fx' all (vars.take i) rA nA ksC ksV vl k0 cl∧St H' fx' da all (fltD D (vars.take i) (okv ms inv))) (none,none,none) (.list (S.sub _ _ lv)) ⟨fx,.start hP,S⟩ (fun i _ H' q=>q.elim fun fx' q=>q.2.sub _ _ (q.1.keep _ _ lv vc.1 vc.2)) (fun i xs u H' K' hi hI hn' _=>?_) fun u H' hI=>?_
 ·obtain ⟨fx',M,S'⟩:=hI
  obtain ⟨x,ex,rfl⟩:=it_iL hi
  have hx:=List.mem_of_getElem? ex
  have hxa:=hP.sub x hx
  have hnt:=not_mem_take hP.nd ex
  have hn':=fun u3=>hn' [] (some (.int x),some (.ref (da x .a)),u3)
  rw [take_snoc ex] at hn'
  have ld:=hP.keepL M ld fun ts q=>nomatch q
  have lvd:=hP.keepL M hP.lvd fun ts q=>nomatch q
  have I':Ins fx' (rA k0) C d [("_set",.ref mr)]:=⟨I.o.imp (fun e=>hP.keepL M e fun ts q=>nomatch q) fun q=>absurd q.1 hC.ne,hP.keepL M I.n fun ts q=>nomatch q⟩
  have em:=M.keep _ _ em mc.1 mc.2
  refine ItemT.dict (S'.sub _ _ ld) (vAt_dI hxa) ?_
  refine remLoop (iD:=6) (iW:=7) (k:=okv ms inv) T S' hxa (by rw [fltD_off hnt]; exact ok x hx) (fun v=>[some (.ref (rA k0)),some (.ref vr),some (.ref dr),some (.ref cl),some (.ref vd),some (.int x),some (.ref (da x .a)),v]) (fun _=>rfl) (fun _ _=>rfl) (fun _=>rfl) (fun _ v fx3 H3 K' s3 hv S3 hn hy=>?_) fun u3 H3 S3=>?_
  ·refine AttrT.own (T.cls hC.ok) hC.ne (I'.sub (s3.trans S3.sub)) (T.fi hC.f1) rfl trivial (CmpT.okv (inv:=!inv) (S3.sub _ _ (s3 _ _ em)) ?_)
   rw [okv_not]
   exact ite_go (fun hb=>hn ((Bool.not_eq_true' _).mp hb) _ _ S3 fun st ρ H q=>q) fun hb=>hy ((Bool.not_eq_false' _).mp hb) _ S3
  ·rw [← fltD_snoc hnt] at S3
   have lx:=M.lvl x hxa
   rw [if_neg hnt] at lx
   refine ItemT.dict (v:=.ref (vl x)) (S3.sub _ _ lvd) (vAt_vI hxa) ?_
   exact w_rem T S3 lx (hP.kv x hx) (fun k hk=>hP.con M (hP.insV x hxa k hk)) (hP.injV x hxa) rfl (by rw [hP.nek]; rfl) fun vs us H4 e1 h4 S4=>hn' u3 _ ⟨_,M.var hP hxa e1 h4,S4⟩
 ·obtain ⟨fx',M,S'⟩:=hI
  rw [it_len,List.take_length] at M S'
  exact w_rem T S' M.lc hP.kc (fun k hk=>hP.con M (hP.insC k hk)) hP.injC rfl (by rw [hP.nek]; rfl) fun vs us H4 e1 h4 S4=>⟨_,Sub.refl _,h _ _ (M.fin hP e1 h4) S4⟩
end
end Mine
namespace Mine
theorem fltN_ok {d:DS} {k:Int→Bool} {i:Nat} (o:d.Ok):(fltN d k i).Ok:=⟨(hidN_ok o).nd,Nat.lt_of_le_of_lt (Nat.add_le_add_left (show d.hid.length≤(hidN d k i).hid.length by unfold hidN; rw [List.length_append]; exact Nat.le_add_right ..) _) (hidN_ok (k:=k) (i:=i) o).len⟩
theorem fltN_sub {d:DS} {k:Int→Bool} {i:Nat} {v:Int} (h:v∈(fltN d k i).vs):v∈d.vs:=by
 have h:v∈(d.vs.take i).filter k++d.vs.drop i:=h
 exact (List.mem_append.mp h).elim (fun h=>List.mem_of_mem_take (List.mem_filter.mp h).1) List.mem_of_mem_drop
theorem upd_all {D:Int→DS} {x:Int} {d:DS} {p:DS→Prop} {all:List Int} (h:∀ z∈all,p (D z)) (hd:p d):∀ z∈all,p (upd D x d z):=fun z hz=>by
 by_cases q:z=x
 ·subst q; rw [upd_self]; exact hd
 ·rw [upd_ne q]; exact h z hz
theorem gAt_one {x v:Int}:gAt [(x,v)] x=some v:=gAt_new (g:=[]) rfl
theorem gvs_one {x v:Int}:gvs [(x,v)] [x]=[v]:=by
 unfold gvs
 rw [List.filterMap_cons_some gAt_one]; rfl
theorem msn_one' {x v:Int}:msn [(x,v)] [x]=[]:=by
 unfold msn
 rw [List.filter_cons_of_neg (by rw [gAt_one]; exact Bool.false_ne_true)]; rfl
section
variable {c:Cx} {P:Params} {n:Nat} {H fx:AH} {Q:V→AH→Prop} {da:Int→DA} {all vars:List Int} {D:Int→DS} {rA nA:Nat→Addr} {ks ksC:List Nat} {ksV:Int→List Nat} {vl:Int→Addr} {k0:Nat} {l vr dr cl vd self d:Addr} {K:Kn}
theorem pre_con (T:TopL c P) (S:St H fx da all D) (hP:Pre fx all vars rA nA ksC ksV vl k0 vr cl vd) (lv:fx vr=some (.list (iL vars))) (ld:fx dr=some (.dict (dI all da) none)) (hr:rA k0=self) (kok:KOk K vars) (ks:KSelf K fx self d vars) (B:Bd vars all D) (ok:∀ x∈all,(D x).Ok)
  (h0:vars.length≠1→∀ H',St H' fx da all D→Q .none H')
  (h1:∀ x,vars=[x]→∀ H' fx',PreD fx fx' all [x] rA nA (ksC.erase k0) ksV vl k0 cl→St H' fx' da all (upd D x (flt1 (D x) fun v=>K.mean [v]))→Q .none H') :
  w c (n + 6) c130 [] (b5 self vr dr cl (.ref vd) [none,none,none,none]) H (endK Q):=by
 subst hr
 have t:=T.toTopK
 refine CallV.len (S.sub _ _ lv) ?_
 rw [List.length_map]
 refine ite_go (fun hb=>?_) fun hb=>⟨_,Sub.refl _,h0 (fun q=>of_decide_eq_false hb (by rw [q]; rfl)) _ S⟩
 obtain ⟨x,rfl⟩:=List.length_eq_one_iff.mp (Int.ofNat_inj.mp (of_decide_eq_true hb))
 have hx:=hP.sub x (List.mem_singleton.mpr rfl)
 refine ItemT.list (i:=0) (x:=.int x) (S.sub _ _ lv) rfl (ItemT.dict (S.sub _ _ ld) (vAt_dI hx) ?_)
 refine remLoop (iD:=6) (iW:=7) (k:=fun v=>K.mean [v]) t S hx (ok x hx).nd (fun v=>[some (.ref (rA k0)),some (.ref vr),some (.ref dr),some (.ref cl),some (.ref vd),some (.int x),some (.ref (da x .a)),v,none]) (fun _=>rfl) (fun _ _=>rfl) (fun _=>rfl) (fun i v fx3 H3 K' s3 hv S3 hn hy=>?_) fun u3 H3 S3=>?_
 ·refine fun a ha=>⟨x,a,rfl,rfl,AH.set_self,?_⟩
  rw [AH.set_set]
  have hfa:=S3.sub.none ha
  have nb:∀ {b o},fx b=some o→(fx3.set a (.dict (gI [(x,v)]) none)) b=some o:=fun e=>AH.set_new (s3 _ _ e) hfa
  refine call_kind (fc:=false) (g:=[(x,v)]) (D:=upd D x (fltN (D x) _ i)) T kok (ks.to (.of (s3.trans (Sub.new hfa)))) (S3.new ha) ⟨nb lv,nb ld,AH.set_self,hP.sub,hP.nd,upd_all ok (fltN_ok (ok x hx))⟩ (fun q=>no_some hfa (q▸s3 _ _ ld)) ⟨B.l1,B.l4,upd_all (p:=fun d=>∀ v∈d.vs,0≤v) B.D fun w hw=>B.D x hx w (fltN_sub hw)⟩ (Nat.le_of_ble_eq_true rfl) (.inl rfl) fun b D2 H4 R S4=>?_
  rw [R.full msn_one',gvs_one]
  rw [R.nofc rfl] at S4
  have S5:=S4.loose (Sub.new hfa)
  exact ite_go (fun hb=>hn ((Bool.not_eq_true' _).mp hb) _ _ S5 fun st ρ H q=>q) fun hb=>hy ((Bool.not_eq_false' _).mp hb) _ S5
 ·refine w_rem t S3 hP.lc hP.kc hP.insC hP.injC rfl (by rw [hP.nek]; rfl) fun vs us H4 e1 h4 S4=>?_
  have M:=(PreD.start hP).fin hP e1 h4
  have lvd:=hP.keepL M hP.lvd fun ts q=>nomatch q
  refine ItemT.dict (v:=.ref (vl x)) (S4.sub _ _ lvd) (vAt_vI hx) ?_
  have lx:=M.lvl x hx
  rw [if_neg (fun h=>nomatch h)] at lx
  exact w_rem t S4 lx (hP.kv x (List.mem_singleton.mpr rfl)) (fun k hk=>hP.con M (hP.insV x hx k hk)) (hP.injV x hx) rfl (by rw [hP.nek]; rfl) fun vs us H5 e2 h5 S5=>⟨_,Sub.refl _,h1 x rfl _ _ (M.var hP hx e2 h5) S5⟩
end
end Mine
namespace Mine
noncomputable def fltP (D:Int→DS) (L:List Int) (p:Int→Int→Bool):Int→DS:=fun x=>if x∈L then flt1 (D x) (p x) else D x
theorem fltP_off {D:Int→DS} {L:List Int} {p:Int→Int→Bool} {x:Int} (h:x∉L):fltP D L p x=D x:=if_neg h
theorem fltP_snoc {D:Int→DS} {L:List Int} {p:Int→Int→Bool} {x:Int} (h:x∉L):fltP D (L++[x]) p=upd (fltP D L p) x (flt1 (fltP D L p x) (p x)):=by
 funext y
 rw [fltP_off h]
 unfold fltP upd
 by_cases q:y=x
 ·rw [if_pos q,if_pos (q▸List.mem_append_right _ (List.mem_singleton.mpr rfl)),q]
 ·rw [if_neg q]
  by_cases w:y∈L
  ·exact (if_pos (List.mem_append_left _ w)).trans (if_pos w).symm
  ·exact (if_neg fun h=>(List.mem_append.mp h).elim w fun h=>q (List.mem_singleton.mp h)).trans (if_neg w).symm
noncomputable def sumP (vars:List Int) (bound:Int):Option (List Int)→Int→Int→Bool
 | none,_,v=>decide (v≤bound)
 | some fs,x,v=>decide (v * fAtI (vars.zip fs) x≤bound)
noncomputable def cSums:Code:=.ite (.ld 1<|.ld 5<|.loop .zip 2 (.st 7<|.st 8<|.ld 2<|.ld 7<|.sub<|.st 9<|hideL 9 10 (.ld 10<|.ld 8<|.bin .Mult<|.ld 6<|.cmp .Gt<|.tru<|.ite (remC 9 10) .done<|.done) .done) .done .done)
 (.ld 1<|.loop .seq 1 (.st 7<|.ld 2<|.ld 7<|.sub<|.st 9<|hideL 9 10 (.ld 10<|.ld 6<|.cmp .Gt<|.tru<|.ite (remC 9 10) .done<|.done) .done) .done .done) .done
noncomputable def cPreS (m:Str):Code:=.cst (.ref 141)<|.gm "preProcess"<|.ld 0<|.ld 1<|.ld 2<|.ld 3<|.ld 4<|.cm 5<|.pop<|.ld 0<|.attr "_multipliers"<|.st 5<|.ld 0<|.attr m<|.st 6<|.ld 5<|.tru<|cSums
theorem c233_eq:c233=cPreS "_maxsum":=rfl
theorem c268_eq:c268=cPreS "_exactsum":=rfl
section
variable {c:Cx} {P:Params} {n:Nat} {H fx:AH} {Q:V→AH→Prop} {da:Int→DA} {all vars:List Int} {D:Int→DS} {bound:Int} {fo:Option (List Int)} {mv:V} {vr dr:Addr} {s0 s3 s4:Option V}
theorem pre_sums (T:TopK c P) (S:St H fx da all D) (lv:fx vr=some (.list (iL vars))) (ld:fx dr=some (.dict (dI all da) none)) (hm:FacIs fx vars mv fo) (sub:∀ x∈vars,x∈all) (nd:vars.Nodup) (ok:∀ x∈vars,(D x).vs.Nodup)
  (h:∀ H',St H' fx da all (fltP D vars (sumP vars bound fo))→Q .none H') :
  w c n (.ld 5<|.tru<|cSums) [] [s0,some (.ref vr),some (.ref dr),s3,s4,some mv,some (.int bound),none,none,none,none,none,none] H (endK Q):=by
 cases fo with
 | none=>
  obtain rfl:mv=.none:=hm
  refine w_loop (fun (u:Option V × Option V × Option V)=>[s0,some (.ref vr),some (.ref dr),s3,s4,some .none,some (.int bound),u.1,none,u.2.1,u.2.2,none,none]) (fun i _ H'=>St H' fx da all (fltP D (vars.take i) (sumP vars bound none))) (none,none,none) (.list (S.sub _ _ lv)) (S.eqD fun y _=>fltP_off (nomatch ·)) (fun i _ H' q=>q.sub _ _ lv) (fun i xs u H' K' hi S' hn _=>?_) fun u H' S'=>?_
  ·obtain ⟨x,ex,rfl⟩:=it_iL hi
   have hxm:=List.mem_of_getElem? ex
   have hx:=sub x hxm
   have hnt:=not_mem_take nd ex
   have hn:=fun u3=>hn [] (some (.int x),some (.ref (da x .a)),u3)
   rw [take_snoc ex,fltP_snoc hnt] at hn
   refine ItemT.dict (S'.sub _ _ ld) (vAt_dI hx) ?_
   refine remLoop (iD:=9) (iW:=10) (k:=sumP vars bound none x) T S' hx (by rw [fltP_off hnt]; exact ok x hxm) (fun v=>[s0,some (.ref vr),some (.ref dr),s3,s4,some .none,some (.int bound),some (.int x),none,some (.ref (da x .a)),v,none,none]) (fun _=>rfl) (fun _ _=>rfl) (fun _=>rfl) (fun _ v fx3 H3 K' s3 hv S3 hn hy=>?_) fun u3 H3 S3=>hn u3 _ S3
   exact ite_go (fun hb=>hn (decide_eq_false (Int.not_le.mpr (of_decide_eq_true hb))) _ _ S3 fun st ρ H q=>q) fun hb=>hy (decide_eq_true (Int.not_lt.mp (of_decide_eq_false hb))) _ S3
  ·rw [it_len,List.take_length] at S'
   exact ⟨_,Sub.refl _,h _ S'⟩
 | some fs=>
  obtain ⟨mr,rfl,em,hlen,hne,hfb⟩:=hm
  refine TruthT.list (S.sub _ _ em) (ite_go (fun _=>?_) fun h=>(by cases fs with | nil=>exact absurd rfl hne | cons _ _=>cases h))
  refine w_loop (fun (u:(Option V × Option V) × Option V × Option V)=>[s0,some (.ref vr),some (.ref dr),s3,s4,some (.ref mr),some (.int bound),u.1.1,u.1.2,u.2.1,u.2.2,none,none]) (fun i _ H'=>St H' fx da all (fltP D (vars.take i) (sumP vars bound (some fs)))) ((none,none),none,none) (.zip (S.sub _ _ lv) (S.sub _ _ em)) (S.eqD fun y _=>fltP_off (nomatch ·)) (fun i _ H' q=>⟨q.sub _ _ lv,q.sub _ _ em⟩) (fun i xs u H' K' hi S' hn _=>?_) fun u H' S'=>?_
  ·obtain ⟨x,f,ex,ef,rfl⟩:=it_zip hi
   have hxm:=List.mem_of_getElem? ex
   have hx:=sub x hxm
   have hnt:=not_mem_take nd ex
   have hn:=fun u3=>hn [] ((some (.int x),some (.int f)),some (.ref (da x .a)),u3)
   rw [take_snoc ex,fltP_snoc hnt] at hn
   refine ItemT.dict (S'.sub _ _ ld) (vAt_dI hx) ?_
   refine remLoop (iD:=9) (iW:=10) (k:=sumP vars bound (some fs) x) T S' hx (by rw [fltP_off hnt]; exact ok x hxm) (fun v=>[s0,some (.ref vr),some (.ref dr),s3,s4,some (.ref mr),some (.int bound),some (.int x),some (.int f),some (.ref (da x .a)),v,none,none]) (fun _=>rfl) (fun _ _=>rfl) (fun _=>rfl) (fun _ v fx3 H3 K' s3 hv S3 hn hy=>?_) fun u3 H3 S3=>hn u3 _ S3
   have ev:sumP vars bound (some fs) x v=decide (v * f≤bound):=by rw [← fAtI_zip nd ex ef]; rfl
   exact BinT.mulR (hfb f (List.mem_of_getElem? ef)) (ite_go (fun hb=>hn (ev.trans (decide_eq_false (Int.not_le.mpr (of_decide_eq_true hb)))) _ _ S3 fun st ρ H q=>q) fun hb=>hy (ev.trans (decide_eq_true (Int.not_lt.mp (of_decide_eq_false hb)))) _ S3)
  ·rw [zip_len hlen,List.length_zip,hlen,Nat.min_self,List.take_length] at S'
   exact ⟨_,Sub.refl _,h _ S'⟩
end
section
variable {c:Cx} {P:Params} {n:Nat} {H fx:AH} {Q:V→AH→Prop} {da:Int→DA} {all vars:List Int} {D:Int→DS} {rA nA:Nat→Addr} {ks ksC:List Nat} {ksV:Int→List Nat} {vl:Int→Addr} {k0 t:Nat} {l vr dr cl vd self d C:Addr} {bound:Int} {fo:Option (List Int)} {mv:V} {m:Str}
structure SumCls (P:Params) (C:Addr) (m:Str):Prop where
 ok:ClsOk (K P) C
 ne:C≠DomC
 f1:findIn (K P) (.ref C) m=some none
 f2:findIn (K P) (.ref C) "_multipliers"=some none
 a1:∀ {b mv},fAt [(m,V.int b),("_multipliers",mv)] m=some (.int b)
 a2:∀ {b mv},fAt [(m,V.int b),("_multipliers",mv)] "_multipliers"=some mv
theorem sum244:SumCls P 244 "_maxsum":=⟨ok244,by decide,by kernel_rfl,by kernel_rfl,rfl,rfl⟩
theorem sum279:SumCls P 279 "_exactsum":=⟨ok279,by decide,by kernel_rfl,by kernel_rfl,rfl,rfl⟩
theorem pre_sum (T:TopL c P) (S:St H fx da all D) (hP:Pre fx all vars rA nA ksC ksV vl k0 vr cl vd) (lv:fx vr=some (.list (iL vars))) (ld:fx dr=some (.dict (dI all da) none)) (hr:rA k0=self) (kok:KOk (.sum t bound fo) vars) (ks:KSelf (.sum t bound fo) fx self d vars) (B:Bd vars all D) (ok:∀ x∈all,(D x).Ok)
  (hC:SumCls P C m) (I:Ins fx self C d [(m,.int bound),("_multipliers",mv)]) (hm:FacIs fx vars mv fo) (vc:vr≠cl∧∀ x∈all,vr≠vl x) (mc:∀ mr,mv=.ref mr→mr≠cl∧∀ x∈all,mr≠vl x)
  (h0:vars.length≠1→∀ H',St H' fx da all (fltP D vars (sumP vars bound fo))→Q .none H')
  (h1:∀ x,vars=[x]→∀ H' fx',PreD fx fx' all [x] rA nA (ksC.erase k0) ksV vl k0 cl→St H' fx' da all (fltP (upd D x (flt1 (D x) fun v=>(Kn.sum t bound fo).mean [v])) vars (sumP vars bound fo))→Q .none H') :
  w c (n + 7) (cPreS m) [] (b5 self vr dr cl (.ref vd) [none,none,none,none,none,none,none,none]) H (endK Q):=by
 have k:=T.toTopK
 refine ⟨_,_,GetX.onCls (C:=141) (mc:=.type "type") (f:=130) (by rw [k.hK]; kernel_rfl) (by rw [k.hK]; kernel_rfl) (by rw [k.hK]; kernel_rfl),?_⟩
 have go:∀ {H' fx' D'},St H' fx' da all D'→Ins fx' self C d [(m,.int bound),("_multipliers",mv)]→FacIs fx' vars mv fo→fx' vr=some (.list (iL vars))→fx' dr=some (.dict (dI all da) none)→(∀ x∈vars,(D' x).vs.Nodup)→(∀ H'',St H'' fx' da all (fltP D' vars (sumP vars bound fo))→Q .none H'')→
   w c (n + 7) (.pop<|.ld 0<|.attr "_multipliers"<|.st 5<|.ld 0<|.attr m<|.st 6<|.ld 5<|.tru<|cSums) [.none] (b5 self vr dr cl (.ref vd) [none,none,none,none,none,none,none,none]) H' (endK Q):=fun S' I' hm' lv' ld' nd' hq=>
  ⟨rfl,AttrT.own (k.cls hC.ok) hC.ne (I'.sub S'.sub) (k.fi hC.f2) hC.a2 hm'.in (AttrT.own (v:=.int bound) (k.cls hC.ok) hC.ne (I'.sub S'.sub) (k.fi hC.f1) hC.a1 trivial (pre_sums k S' lv' ld' hm' hP.sub hP.nd nd' hq))⟩
 refine (k130_5 k (pre_con T S hP lv ld hr kok ks B ok (fun hl H' S'=>go S' I hm lv ld (fun x hx=>(ok x (hP.sub x hx)).nd) (h0 hl)) fun x hx H' fx' M S'=>?_)).call (kp130 k)
 refine go S' ⟨I.o.imp (fun e=>hP.keepL M e fun ts q=>nomatch q) fun q=>absurd q.1 hC.ne,hP.keepL M I.n fun ts q=>nomatch q⟩ ?_ (M.keep _ _ lv vc.1 vc.2) (hP.keepL M ld fun ts q=>nomatch q) ?_ fun H'' S''=>h1 x hx H'' fx' M S''
 ·cases fo with
  | none=>exact hm
  | some fs=>exact hm.imp fun mr q=>⟨q.1,M.keep _ _ q.2.1 (mc mr q.1).1 (mc mr q.1).2,q.2.2⟩
 ·exact fun z hz=>upd_all (p:=fun d=>d.vs.Nodup) (d:=flt1 (D x) _) (fun z hz=>(ok z hz).nd) ((ok x (hP.sub x (by rw [hx]; exact List.mem_singleton.mpr rfl))).nd.filter _) z (hP.sub z hz)
end
end Mine
namespace Mine
structure PreOk (r:Row) (vars:List Int) (D:Int→DS) (p:Int→Int→Bool) (rm:Bool):Prop where
 iff:rm=true↔(vars.length=1∨r.kind=5∨r.kind=6)
 snd:∀ t:Int→Int,(∀ x∈vars,t x∈(D x).vs)→rowM r (vars.map t)=true→∀ x∈vars,p x (t x)=true
 cmp:rm=true→∀ t:Int→Int,(∀ x∈vars,p x (t x)=true)→rowM r (vars.map t)=true
theorem fltP_true {D:Int→DS} {L:List Int}:fltP D L (fun _ _=>true)=D:=funext fun x=>by
 unfold fltP
 split
 ·obtain ⟨vs,hid,st⟩:=D x
  unfold flt1
  rw [List.filter_eq_self.mpr fun _ _=>rfl]
 ·rfl
theorem fltP_one {D:Int→DS} {x:Int} {p:Int→Int→Bool} {k:Int→Bool} (h:∀ v,k v=p x v):upd D x (flt1 (D x) k)=fltP D [x] p:=by
 rw [show k=p x from funext h]
 funext y
 unfold fltP upd
 by_cases q:y=x
 ·rw [if_pos q,if_pos (List.mem_singleton.mpr q),q]
 ·rw [if_neg q,if_neg fun w=>q (List.mem_singleton.mp w)]
theorem flt_two {D:Int→DS} {x:Int} {p:Int→Int→Bool} {k:Int→Bool}:fltP (upd D x (flt1 (D x) k)) [x] p=fltP D [x] (fun y v=>k v && p y v):=by
 funext y
 unfold fltP
 by_cases q:y=x
 ·subst q
  rw [if_pos (List.mem_singleton.mpr rfl),if_pos (List.mem_singleton.mpr rfl),upd_self]
  unfold flt1
  rw [List.filter_filter]
  exact congrArg (fun l=>DS.mk l _ _) (List.filter_congr fun v _=>Bool.and_comm ..)
 ·rw [if_neg fun w=>q (List.mem_singleton.mp w),if_neg fun w=>q (List.mem_singleton.mp w),upd_ne q]
theorem asum_none {L:List (Int × Int)}:asum [] L=0:=by
 unfold asum
 induction L with
 | nil=>rfl
 | cons q r ih=>rw [List.map_cons,List.sum_cons,ih]; rfl
section
variable {r:Row} {vars:List Int} {D:Int→DS} {bound:Int} {fo:Option (List Int)}
theorem sumP_snd (h:FOk vars fo) (nd:vars.Nodup) (nn:NN vars D) {t:Int→Int} (ht:∀ x∈vars,t x∈(D x).vs) (hs:tot fo (vars.map t)≤bound):∀ x∈vars,sumP vars bound fo x (t x)=true:=fun x hx=>by
 obtain ⟨f,hf⟩:=facs_mem h hx
 rw [tot_facs h.len] at hs
 have h1:asum [] (facs vars fo) + t x * f≤tsum t (facs vars fo):=asum_le1 (g:=[]) (p:=(x,f)) hf rfl (fun q _ v e=>nomatch e) fun q hq _=>Int.mul_nonneg (nn _ (facs_key h hq) _ (ht _ (facs_key h hq))) (facs_nn h hq)
 rw [asum_none,Int.zero_add] at h1
 have h2:=Int.le_trans h1 hs
 cases fo with
 | none=>
  obtain ⟨y,_,e⟩:=List.mem_map.mp hf
  cases e
  rw [Int.mul_one] at h2
  exact decide_eq_true h2
 | some fs=>
  obtain ⟨i,hi,e⟩:=List.mem_iff_getElem.mp hf
  have e':=List.getElem?_eq_getElem hi
  rw [e] at e'
  have q:=List.getElem?_zip_eq_some.mp e'
  show decide (t x * fAtI (vars.zip fs) x≤bound)=true
  rw [fAtI_zip nd q.1 q.2]
  exact decide_eq_true h2
theorem sum_mean (k2:r.kind=2∨r.kind=3) {vals:List Int} (h:rowM r vals=true):tot r.fo vals≤r.bound:=by
 unfold rowM at h
 rcases k2 with q | q
 ·rw [if_neg (by rw [q]; decide),if_neg (by rw [q]; decide),meanS (by rw [q]; decide) (by rw [q]; decide) (by rw [q]; decide) (by rw [q]; decide),if_pos q] at h
  exact of_decide_eq_true h
 ·rw [if_neg (by rw [q]; decide),if_neg (by rw [q]; decide),meanS (by rw [q]; decide) (by rw [q]; decide) (by rw [q]; decide) (by rw [q]; decide),if_neg (by rw [q]; decide),if_pos q] at h
  exact Int.le_of_eq (of_decide_eq_true h)
theorem good_5 {ms vals:List Int}:good ms false vals=(vals.length:Int)↔∀ v∈vals,okv ms false v=true:=by
 rw [← good_len]; exact Int.ofNat_inj.trans List.length_filter_eq_length_iff
theorem good_6 {ms vals:List Int}:good ms false vals=0↔∀ v∈vals,okv ms true v=true:=by
 rw [← good_len]
 refine Int.ofNat_inj.trans (List.length_eq_zero_iff.trans (List.filter_eq_nil_iff.trans (forall_congr' fun v=>imp_congr_right fun _=>?_)))
 show _↔(!decide (v∈ms))=true
 rw [Bool.not_eq_true',Bool.not_eq_true]
theorem pre_5 (k:r.kind=5):PreOk r vars D (fun _ v=>okv r.ms false v) true:=by
 have e:∀ vals,rowM r vals=decide (good r.ms false vals=(vals.length:Int)):=fun vals=>if_pos k
 refine ⟨⟨fun _=>.inr (.inl k),fun _=>rfl⟩,fun t _ h x hx=>?_,fun _ t h=>?_⟩
 ·rw [e] at h
  exact good_5.mp (of_decide_eq_true h) _ (List.mem_map_of_mem hx)
 ·rw [e]
  exact decide_eq_true (good_5.mpr fun v hv=>by obtain ⟨x,hx,rfl⟩:=List.mem_map.mp hv; exact h x hx)
theorem pre_6 (k:r.kind=6):PreOk r vars D (fun _ v=>okv r.ms true v) true:=by
 have e:∀ vals,rowM r vals=decide (good r.ms false vals=0):=fun vals=>(if_neg (by rw [k]; decide)).trans (if_pos k)
 refine ⟨⟨fun _=>.inr (.inr k),fun _=>rfl⟩,fun t _ h x hx=>?_,fun _ t h=>?_⟩
 ·rw [e] at h
  exact good_6.mp (of_decide_eq_true h) _ (List.mem_map_of_mem hx)
 ·rw [e]
  exact decide_eq_true (good_6.mpr fun v hv=>by obtain ⟨x,hx,rfl⟩:=List.mem_map.mp hv; exact h x hx)
theorem rowM_k {vals:List Int} (k5:r.kind≠5) (k6:r.kind≠6):rowM r vals=(rowK r).mean vals:=(if_neg k5).trans (if_neg k6)
theorem pre_non (k5:r.kind≠5) (k6:r.kind≠6) (h:vars.length≠1) {p:Int→Int→Bool} (hp:∀ t:Int→Int,(∀ x∈vars,t x∈(D x).vs)→rowM r (vars.map t)=true→∀ x∈vars,p x (t x)=true):PreOk r vars D p false:=
 ⟨⟨fun q=>(nomatch q),fun q=>absurd q fun q=>q.elim h fun q=>q.elim k5 k6⟩,hp,fun q=>nomatch q⟩
theorem pre_uni {x:Int} (k5:r.kind≠5) (k6:r.kind≠6) {p:Int→Int→Bool} (hp:∀ v,v∈(D x).vs→rowM r [v]=true→p x v=true) (hq:∀ v,p x v=true→rowM r [v]=true):PreOk r [x] D p true:=
 ⟨⟨fun _=>.inl rfl,fun _=>rfl⟩,fun t ht h y hy=>by rw [List.mem_singleton.mp hy]; exact hp _ (ht x (List.mem_singleton.mpr rfl)) h,fun _ t h=>hq _ (h x (List.mem_singleton.mpr rfl))⟩
end
theorem rowK_fo {r:Row} {t:Nat} {b:Int} {fo:Option (List Int)} (k0:0≤r.kind) (q:rowK r=.sum t b fo):t=r.kind.toNat∧r.fo=fo:=by
 by_cases h0:r.kind=0
 ·rw [rowK_0 h0] at q; cases q
 by_cases h1:r.kind=1
 ·rw [rowK_1 h1] at q; cases q
 by_cases h5:r.kind < 5
 ·rw [rowK_sum h0 h1 h5] at q; cases q; exact ⟨rfl,rfl⟩
 ·unfold rowK at q
  rw [if_neg h0,if_neg h1,if_neg h5] at q
  split at q
  ·cases q
  ·split at q <;> cases q
noncomputable def MethT (c:Cx) (n:Nat) (a:Addr) (m:Str) (args:List V) (H:AH) (Q:V→AH→Prop):Prop:=∃ f,GetX c n (.ref a) m H f true∧CallV c n (er f) (.ref a::args) H Q
section
variable {c:Cx} {P:Params} {n:Nat} {H fx fb:AH} {Q:V→AH→Prop} {da:Int→DA} {all vars:List Int} {D:Int→DS} {rA nA:Nat→Addr} {ks ksC:List Nat} {ksV:Int→List Nat} {vl:Int→Addr} {k0:Nat} {l vr dr cl vd self d C:Addr} {r:Row}
structure Fb (fb fx:AH) (all:List Int) (vl:Int→Addr) (cl:Addr):Prop where
 sub:Sub fb fx
 c:fb cl=none
 v:∀ x∈all,fb (vl x)=none
theorem Fb.ne (F:Fb fb fx all vl cl) {a:Addr} {o:AO} (e:fb a=some o):a≠cl∧∀ x∈all,a≠vl x:=⟨fun q=>no_some F.c (q▸e),fun x hx q=>no_some (F.v x hx) (q▸e)⟩
theorem Fb.pre {fx':AH} {L:List Int} {ks':List Nat} (F:Fb fb fx all vl cl) (M:PreD fx fx' all L rA nA ks' ksV vl k0 cl):Fb fb fx' all vl cl:=⟨fun a o e=>M.keep a o (F.sub a o e) (F.ne e).1 (F.ne e).2,F.c,F.v⟩
theorem meth (T:TopK c P) {f:Addr} {fs:List (Str × V)} {args:List V} (hK:ClsOk (K P) C) (I:Ins H self C d fs) {m:Str} (hf:findIn (K P) (.ref C) m=some (some (.ref f))) (ht:typeIn (K P) (.ref f)=some (.type "function")) (hs:fAt fs m=none) (kp:keepIn c.K (.ref f)=true) (h:CallC c n (.ref f) (.ref self::args) H Q):MethT c n self m args H Q:=
 ⟨.ref f,GetX.cls (T.cls hK) I (T.fi hf) (T.ty ht) (.inl rfl) hs,h.call kp⟩
theorem pre_all (T:TopL c P) (S:St H fx da all D) (hP:Pre fx all vars rA nA ksC ksV vl k0 vr cl vd) (F:Fb fb fx all vl cl) (lv:fb vr=some (.list (iL vars))) (ld:fb dr=some (.dict (dI all da) none)) (hr:rA k0=self) (ra:RuleAt fb self r vars.length) (k0':0≤r.kind) (k9:r.kind≤9) (fok:FOk vars r.fo) (B:Bd vars all D) (ok:∀ x∈all,(D x).Ok)
  (h:∀ p rem H' fx',PreOk r vars D p rem→PreD fx fx' all (if rem=true then vars else []) rA nA (if rem=true then ksC.erase k0 else ksC) ksV vl k0 cl→St H' fx' da all (fltP D vars p)→Q .none H'):MethT c (n + 8) self "preProcess" [.ref vr,.ref dr,.ref cl,.ref vd] H Q:=by
 have t:=T.toTopK
 have sb:=F.sub.trans S.sub
 have lv':=F.sub _ _ lv
 have ld':=F.sub _ _ ld
 obtain ⟨d,ra⟩:=ra
 have oks:∀ x∈vars,(D x).vs.Nodup:=fun x hx=>(ok x (hP.sub x hx)).nd
 by_cases k5:r.kind=5
 ·rw [if_pos k5] at ra
  obtain ⟨mr,I,em⟩:=ra
  refine meth t ok341 (I.sub sb) (f:=338) (by kernel_rfl) (by kernel_rfl) (by kernel_rfl) (kp338 t) (k338_5 t ?_)
  rw [c338_eq]
  exact pre_set t S hP lv' ld' hr set341 (I.sub F.sub) (F.sub _ _ em) oks (F.ne lv) (F.ne em) fun H' fx' M S'=>h (fun _ v=>okv r.ms false v) true _ _ (pre_5 k5) M S'
 rw [if_neg k5] at ra
 by_cases k6:r.kind=6
 ·rw [if_pos k6] at ra
  obtain ⟨mr,I,em⟩:=ra
  refine meth t ok375 (I.sub sb) (f:=372) (by kernel_rfl) (by kernel_rfl) (by kernel_rfl) (kp372 t) (k372_5 t ?_)
  rw [c372_eq]
  exact pre_set t S hP lv' ld' hr set375 (I.sub F.sub) (F.sub _ _ em) oks (F.ne lv) (F.ne em) fun H' fx' M S'=>h (fun _ v=>okv r.ms true v) true _ _ (pre_6 k6) M S'
 rw [if_neg k6] at ra
 have ks:=ra vars rfl
 have ks':=ks.to (.of F.sub)
 have rm:∀ vals,rowM r vals=(rowK r).mean vals:=fun vals=>rowM_k k5 k6
 have start:PreD fx fx all [] rA nA ksC ksV vl k0 cl:=.start hP
 by_cases k2:r.kind=2∨r.kind=3
 ·have nn:NN vars D:=fun x hx v hv=>B.D x (hP.sub x hx) v hv
  have snd:∀ t:Int→Int,(∀ x∈vars,t x∈(D x).vs)→rowM r (vars.map t)=true→∀ x∈vars,sumP vars r.bound r.fo x (t x)=true:=fun t ht hm=>sumP_snd fok hP.nd nn ht (sum_mean k2 hm)
  have eK:rowK r=.sum r.kind.toNat r.bound r.fo:=rowK_sum (by rcases k2 with q | q <;> (rw [q]; decide)) (by rcases k2 with q | q <;> (rw [q]; decide)) (by rcases k2 with q | q <;> (rw [q]; decide))
  rw [eK] at ks ks'
  have go:∀ {C m mv},SumCls P C m→Ins fb self C d [(m,.int r.bound),("_multipliers",mv)]→FacIs fb vars mv r.fo→w c (n + 7) (cPreS m) [] (b5 self vr dr cl (.ref vd) [none,none,none,none,none,none,none,none]) H (endK Q):=fun hC I hm=>
   pre_sum T S hP lv' ld' hr fok ks' B ok hC (I.sub F.sub) (hm.to (.of F.sub)) (F.ne lv) (fun mr e=>by
    cases q:r.fo with
    | none=>rw [q] at hm; have hm:_=V.none:=hm; rw [hm] at e; cases e
    | some fs=>rw [q] at hm; obtain ⟨a,e1,e2,_⟩:=hm; rw [e1] at e; cases e; exact F.ne e2)
    (fun hl H' S'=>h _ false _ _ (pre_non k5 k6 hl snd) start S') fun x hx H' fx' M S'=>by
     subst hx
     rw [flt_two] at S'
     refine h _ true _ _ (pre_uni k5 k6 (fun v hv hm=>?_) fun v hv=>?_) M S'
     ·rw [Bool.and_eq_true]
      have:=snd (fun _=>v) (fun y hy=>by rw [List.mem_singleton.mp hy]; exact hv) hm x (List.mem_singleton.mpr rfl)
      exact ⟨by rw [rm,eK] at hm; exact hm,this⟩
     ·rw [rm,eK]; exact (and2 hv).1
  obtain ⟨mv,hm,q⟩:=ks
  rcases q with ⟨_,I⟩ | ⟨_,I⟩ | ⟨q4,_⟩
  ·refine meth t ok244 (I.sub sb) (f:=233) (by kernel_rfl) (by kernel_rfl) (by kernel_rfl) (kp233 t) (k233_5 t ?_)
   rw [c233_eq]
   exact go sum244 I hm
  ·refine meth t ok279 (I.sub sb) (f:=268) (by kernel_rfl) (by kernel_rfl) (by kernel_rfl) (kp268 t) (k268_5 t ?_)
   rw [c268_eq]
   exact go sum279 I hm
  ·rcases k2 with q | q <;> (rw [q] at q4; cases q4)
 have kok:KOk (rowK r) vars:=by
  cases q:rowK r with
  | sum t' b fo=>exact (rowK_fo k0' q).2▸fok
  | _=>trivial
 have go:CallC c (n + 8) (.ref 130) [.ref self,.ref vr,.ref dr,.ref cl,.ref vd] H Q:=k130_5 t (pre_con T S hP lv' ld' hr kok ks' B ok (fun hl H' S'=>h (fun _ _=>true) false _ _ (pre_non k5 k6 hl fun _ _ _ _ _=>rfl) start (by rw [fltP_true]; exact S')) fun x hx H' fx' M S'=>by
  subst hx
  exact h (fun _ v=>(rowK r).mean [v]) true _ _ (pre_uni k5 k6 (fun v _ hm=>by rw [rm] at hm; exact hm) fun v hv=>by rw [rm]; exact hv) M (by rw [← fltP_one (k:=fun v=>(rowK r).mean [v]) fun _=>rfl]; exact S'))
 clear kok h start rm
 have m130:∀ {C fs},ClsOk (K P) C→Ins fb self C d fs→findIn (K P) (.ref C) "preProcess"=some (some (.ref 130))→fAt fs "preProcess"=none→MethT c (n + 8) self "preProcess" [.ref vr,.ref dr,.ref cl,.ref vd] H Q:=fun hK I hf hs=>meth t hK (I.sub sb) hf (by kernel_rfl) hs (kp130 t) go
 cases q:rowK r with
 | diff=>rw [q] at ks; exact m130 ok189 ks (by kernel_rfl) rfl
 | eq=>rw [q] at ks; exact m130 ok209 ks (by kernel_rfl) rfl
 | sum t' b fo=>
  rw [q] at ks
  obtain ⟨mv,hm,⟨q2,_⟩ | ⟨q3,_⟩ | ⟨_,I⟩⟩:=ks
  ·exact absurd (.inl ((toNat_iff k0' 2).mp ((rowK_fo k0' q).1.symm.trans q2))) k2
  ·exact absurd (.inr ((toNat_iff k0' 3).mp ((rowK_fo k0' q).1.symm.trans q3))) k2
  ·exact m130 ok307 I (by kernel_rfl) (by kernel_rfl)
 | some inv ms need exact=>
  rw [q] at ks
  obtain ⟨sr,em,I⟩:=ks
  cases inv with
  | false=>exact m130 ok403 I (by kernel_rfl) (by kernel_rfl)
  | true=>exact m130 ok431 I (by kernel_rfl) (by kernel_rfl)
 | func rest=>
  rw [q] at ks
  obtain ⟨f,cell,cc,I⟩:=ks
  exact m130 ok169 I.hi (by kernel_rfl) (by kernel_rfl)
end
end Mine
namespace Mine
noncomputable def iota (m:Nat):List Int:=(List.range m).map fun (i:Nat)=>(i:Int)
theorem iota_mem {m:Nat} {x:Int}:x∈iota m↔0≤x∧x < m:=by
 unfold iota
 rw [List.mem_map]
 constructor
 ·rintro ⟨i,hi,rfl⟩
  exact ⟨Int.natCast_nonneg _,Int.ofNat_lt.mpr (List.mem_range.mp hi)⟩
 ·intro h
  obtain ⟨k,rfl⟩:=Int.eq_ofNat_of_zero_le h.1
  exact ⟨k,List.mem_range.mpr (Int.ofNat_lt.mp h.2),rfl⟩
theorem iota_at {m i:Nat} (h:i < m):(iota m)[i]?=some (i:Int):=by unfold iota; rw [List.getElem?_map,List.getElem?_range h]; rfl
theorem iota_len {m:Nat}:(iota m).length=m:=by unfold iota; rw [List.length_map,List.length_range]
theorem iota_nd {m:Nat}:(iota m).Nodup:=by
 unfold iota
 exact List.Pairwise.map _ (fun a b h=>fun q=>h (Int.ofNat_inj.mp q)) List.nodup_range
noncomputable def pickN (m:Nat) (p:Int):Nat:=(m - p / m % m).toNat
noncomputable def lawPick (m:Nat) (p:Int):List Int:=(List.range (pickN m p)).map fun (i:Nat)=>(p + (1 - 2 * (p / ((m:Int) * m) % 2)) * i) % m
theorem pickN_le {m:Nat} (h:0 < m) (p:Int):1≤pickN m p∧pickN m p≤m∧(m:Int) - p / m % m=pickN m p:=by
 have h0:(0:Int) < m:=Int.ofNat_lt.mpr h
 have h1:=Int.emod_nonneg (p / m) (Int.ne_of_gt h0)
 have h2:=Int.emod_lt_of_pos (p / m) h0
 obtain ⟨k,hk⟩:=Int.eq_ofNat_of_zero_le h1
 have hkm:=Int.ofNat_lt.mp (hk▸h2)
 unfold pickN
 rw [hk,Int.toNat_sub]
 exact ⟨Nat.sub_pos_of_lt hkm,Nat.sub_le ..,(Int.ofNat_sub (Nat.le_of_lt hkm)).symm⟩
theorem nb4 {k:Nat} (h:k≤4):-1000000≤(k:Int)∧(k:Int)≤1000000:=⟨Int.le_trans (by decide) (Int.natCast_nonneg k),Int.le_trans (Int.ofNat_le.mpr h) (by decide)⟩
theorem pick_mem {m:Nat} (h:0 < m) {p x:Int} (hx:x∈lawPick m p):x∈iota m:=by
 obtain ⟨i,_,rfl⟩:=List.mem_map.mp hx
 have h0:(0:Int) < m:=Int.ofNat_lt.mpr h
 exact iota_mem.mpr ⟨Int.emod_nonneg _ (Int.ne_of_gt h0),Int.emod_lt_of_pos _ h0⟩
theorem pick_len {m:Nat} {p:Int}:(lawPick m p).length=pickN m p:=by unfold lawPick; rw [List.length_map,List.length_range]
theorem pick_nd {m:Nat} (h:0 < m) (p:Int):(lawPick m p).Nodup:=by
 have hl:=(pickN_le h p).2.1
 refine List.pairwise_map.mpr (List.Pairwise.imp_of_mem (fun {a b} ha hb hab q=>hab ?_) List.nodup_range)
 have ss:∀ z:Int,(1 - 2 * (z % 2)) * (1 - 2 * (z % 2))=1:=fun z=>by rcases Int.emod_two_eq z with e | e <;> (rw [e]; rfl)
 have hd:=Int.dvd_of_emod_eq_zero (Int.emod_eq_emod_iff_emod_sub_eq_zero.mp q)
 rw [Int.add_sub_add_left,← Int.mul_sub] at hd
 have hd:=Int.dvd_trans hd (Int.dvd_mul_left (1 - 2 * (p / ((m:Int) * m) % 2)) _)
 rw [← Int.mul_assoc,ss,Int.one_mul] at hd
 have lt:∀ {c:Nat},c∈List.range (pickN m p)→(c:Int) % m=c:=fun hc=>Int.emod_eq_of_lt (Int.natCast_nonneg _) (Int.ofNat_lt.mpr (Nat.lt_of_lt_of_le (List.mem_range.mp hc) hl))
 exact Int.ofNat_inj.mp ((lt ha).symm.trans ((Int.emod_eq_emod_iff_emod_sub_eq_zero.mpr (Int.emod_eq_zero_of_dvd hd)).trans (lt hb)))
section
variable {c:Cx} {P:Params} {n:Nat} {H:AH} {Q:V→AH→Prop} {l:Addr}
theorem law_pick (T:TopK c P) {m:Nat} {p:Int} (h0:0 < m) (hm:m≤4) (e:H l=some (.list (iL (iota m)))) (h:∀ D,H D=none→Q (.ref D) (H.set D (.list (iL (lawPick m p))))):CallC c (n + 1) (.ref 450) [.ref l,.int p] H Q:=by
 have hmi:(0:Int) < m:=Int.ofNat_lt.mpr h0
 have hN:=pickN_le h0 p
 refine k450_2 T (CallV.len e ?_)
 rw [List.length_map,iota_len]
 have m4:=Int.ofNat_le.mpr hm
 refine ⟨⟨hmi,Int.lt_of_le_of_lt m4 (by decide)⟩,hmi,BinT.mulR (nb4 hm) ⟨⟨Int.mul_pos hmi hmi,Int.lt_of_le_of_lt (Int.mul_le_mul m4 m4 (Int.le_of_lt hmi) (by decide)) (by decide)⟩,by decide,BinT.mulL2 (by decide) ?_⟩⟩
 show w c n (.bin .Sub<|.st 4 _) _ [some (.ref l),some (.int p),some (.int m),some (.int ((m:Int) - p / m % m)),none,none,none] H _
 rw [hN.2.2]
 refine w_compP (fun v=>[none,v,some (.int m),some (.ref l),some (.int p),some (.int (1 - 2 * (p / ((m:Int) * m) % 2)))]) (fun i=>iL (((List.range (pickN m p)).take i).map fun (i:Nat)=>(p + (1 - 2 * (p / ((m:Int) * m) % 2)) * i) % m)) none (.rng (Nat.le_trans hN.2.1 (Nat.le_trans hm (by decide)))) (by rw [List.length_map,List.length_range]; exact Nat.le_trans hN.2.1 (Nat.le_trans hm (by decide))) rfl trivial (fun i xs v K' hi hn _=>?_) fun L hL=>?_
 ·obtain ⟨rfl,hi2⟩:=range_at hi
  have i4:i < 4:=Nat.lt_of_lt_of_le hi2 (Nat.le_trans hN.2.1 hm)
  refine BinT.mulR (nb4 (Nat.le_of_lt i4)) ⟨hmi,?_⟩
  obtain ⟨k,hk⟩:=Int.eq_ofNat_of_zero_le (Int.emod_nonneg (p + (1 - 2 * (p / ((m:Int) * m) % 2)) * i) (Int.ne_of_gt hmi))
  have hlt:=Int.emod_lt_of_pos (p + (1 - 2 * (p / ((m:Int) * m) % 2)) * i) hmi
  rw [hk] at hlt
  rw [hk]
  refine ItemT.list e (by rw [List.getElem?_map,iota_at (Int.ofNat_lt.mp hlt)]; rfl) (hn _ (some (.int i)) ?_)
  rw [take_range_succ hi2,List.map_append,iL_append,← hk]; rfl
 ·rw [List.length_map,show ((List.range (pickN m p)).take (List.range (pickN m p)).length)=List.range (pickN m p) from List.take_length]
  exact ⟨_,Sub.refl _,h L hL⟩
end
end Mine
namespace Mine
noncomputable def TupsAt (H:AH) (R:Addr) (ts:List (List Int)):Prop:=∃ vs,H R=some (.list vs)∧All2 (IT H) vs ts
theorem TupsAt.sub {H H':AH} {R:Addr} {ts:List (List Int)} (h:TupsAt H R ts) (s:Sub H H'):TupsAt H' R ts:=h.imp fun vs q=>⟨s _ _ q.1,q.2.mono fun v b q=>IS.sub q s⟩
theorem srt_perm_eq {a b:List Int} (h:a.Perm b):srt a=srt b:=srt_unique ((srt_perm a).trans h) (srt_sorted a)
theorem srt_self {l:List Int} (h:l.Pairwise (·≤·)):srt l=l:=(srt_unique (List.Perm.refl _) h).symm
structure Hd (d d':DS):Prop where
 ex:∃ h,d'.hid=d.hid++h∧(d'.vs++h).Perm d.vs
 st:d'.st=d.st
theorem Hd.refl (d:DS):Hd d d:=⟨⟨[],(List.append_nil _).symm,by rw [List.append_nil]⟩,rfl⟩
theorem Hd.trans {a b c:DS} (h:Hd a b) (k:Hd b c):Hd a c:=by
 obtain ⟨⟨x,x1,x2⟩,x3⟩:=h
 obtain ⟨⟨y,y1,y2⟩,y3⟩:=k
 refine ⟨⟨x++y,by rw [y1,x1,List.append_assoc],?_⟩,y3.trans x3⟩
 have h1:(c.vs++(x++y)).Perm ((c.vs++y)++x):=by
  rw [List.append_assoc]
  exact List.Perm.append_left _ List.perm_append_comm
 exact h1.trans ((y2.append_right _).trans x2)
theorem Hd.mem {a b:DS} (h:Hd a b) {v:Int} (hv:v∈b.vs):v∈a.vs:=h.ex.elim fun x q=>q.2.mem_iff.mp (List.mem_append_left _ hv)
theorem Hd.len {a b:DS} (h:Hd a b):b.vs.length + b.hid.length=a.vs.length + a.hid.length:=by
 obtain ⟨x,e,p⟩:=h.ex
 have:=p.length_eq
 rw [List.length_append] at this
 rw [e,List.length_append,← this,Nat.add_assoc,Nat.add_comm x.length]
theorem Hd.ok {a b:DS} (h:Hd a b) (o:a.Ok):b.Ok:=by
 refine ⟨?_,by rw [h.len]; exact o.len⟩
 obtain ⟨x,e,p⟩:=h.ex
 exact (List.nodup_append.mp (p.nodup_iff.mpr o.nd)).1
theorem Back.ok {a b:DS} (h:Back a b) (o:a.Ok):b.Ok:=⟨h.vs.nodup_iff.mpr o.nd,by rw [h.vs.length_eq,h.hid]; exact o.len⟩
noncomputable abbrev Psh (d d':DS):Prop:=Hd (psh d) d'
section
variable {c:Cx} {P:Params} {n:Nat} {H fx:AH} {Q:V→AH→Prop} {da:Int→DA} {all:List Int} {D D0:Int→DS} {rA nA:Nat→Addr} {l dr b w0 rl:Addr} {m:Nat}
theorem law_same (T:TopK c P) {ks:List Nat} (hl:CLat H rA nA l ks) (er:H rl=some (.list ((List.range m).map fun k=>V.ref (rA k)))) (ew:H w0=some (.list (iL (ks.map fun (k:Nat)=>(k:Int))))) (hm:∀ k∈ks,k < m) (hi:∀ k∈ks,∃ C d,ConAt H (rA k) C d) (h:Q (.bool true) H) :
  CallC c (n + 1) (.ref 479) [.ref l,.ref rl,.ref w0] H Q:=by
 obtain ⟨ts,L⟩:=hl
 refine k479_3 T (CallV.len L.e (CallV.len ew ?_))
 rw [List.length_map,List.length_map,List.length_map,L.len]
 refine ite_go (fun hb=>absurd rfl (of_decide_eq_true hb)) fun _=>?_
 refine w_loopP (fun i (u:Option V × Option V)=>[some (.ref l),some (.ref rl),some (.ref w0),u.1,u.2,none,none]) (none,none) (.zip L.e ew) ⟨L.e,ew⟩ (fun i xs u K' hi' hn _=>?_) fun u=>⟨_,Sub.refl _,h⟩
 rw [List.getElem?_zipWith,List.getElem?_map,List.getElem?_map,List.getElem?_map] at hi'
 cases e1:ts[i]? with
 | none=>rw [e1] at hi'; cases hi'
 | some a=>
  cases e2:ks[i]? with
  | none=>rw [e1,e2] at hi'; cases hi'
  | some k=>
   rw [e1,e2] at hi'
   cases hi'
   have hk:=List.mem_of_getElem? e2
   obtain ⟨C,d,hc⟩:=hi k hk
   refine ItemT.tup (i:=0) (x:=.ref (rA k)) (L.at_ i a k e1 e2) rfl (ItemT.list (i:=k) (x:=.ref (rA k)) er (by rw [List.getElem?_map,List.getElem?_range (hm k hk)]; rfl) ?_)
   refine CmpT.isR (neg:=true) (liesI hc.e) (liesI hc.e) ?_
   rw [decide_eq_true rfl]
   exact hn [] (some (.ref a),some (.int k))
structure BefAt (fx:AH) (b:Addr) (es:List (Int × V)) (ep:Option Nat) (ys:List Int) (sh:Int→List Int):Prop where
 e:fx b=some (.dict es ep)
 ks:es.map (·.1)=ys
 at_:∀ y∈ys,∃ l,vAt es y=some (.ref l)∧fx l=some (.list (iL (sh y)))
theorem held {H:AH} {d:Addr} {es:List (Int × V)} {ep0:Option Nat} {P:AH→Prop} (e:H d=some (.dict es ep0)) (h:∀ ep,P (H.set d (.dict es (some ep)))):HeldW H P:=by
 cases ep0 with
 | none=>exact .inr ⟨d,es,e,h⟩
 | some ep=>exact .inl (by have:=h ep; rw [AH.set_same e] at this; exact this)
theorem w_held {c:Cx} {n:Nat} {kd:Kd} {b e k:Code} {args st:List V} {ρ:Loc} {H:AH} {K:KT} {d:Addr} {es:List (Int × V)} {ep0:Option Nat} (e0:H d=some (.dict es ep0)) (h:∀ ep,LoopH c n kd b e k args st ρ K (H.set d (.dict es (some ep)))):LoopG c n kd b e k args st ρ H K:=held e0 h
theorem it_keys {es:List (Int × V)} {ys:List Int} {i:Nat} {xs:List V} (hk:es.map (·.1)=ys) (h:(es.map fun p=>[V.int p.1])[i]?=some xs):∃ y,ys[i]?=some y∧xs=[.int y]:=by
 rw [List.getElem?_map] at h
 obtain ⟨p,e,rfl⟩:=Option.map_eq_some_iff.mp h
 exact ⟨p.1,by rw [← hk,List.getElem?_map,e]; rfl,rfl⟩
theorem law_back (T:TopK c P) {es:List (Int × V)} {ep0:Option Nat} {ys:List Int} (S:St H fx da all D) (ld:fx dr=some (.dict (dI all da) none)) (B:BefAt fx b es ep0 ys fun y=>srt (D0 y).vs) (hne:b≠dr) (hn:∀ y∈ys,y∈all) (nd:ys.Nodup) (hok:∀ y∈ys,(D0 y).Ok) (h64:∀ y∈ys,(D0 y).vs.length < 64) (hk:∀ y∈ys,Psh (D0 y) (D y))
  (h:∀ D' H' fx',(∀ a o,fx a=some o→a≠b→fx' a=some o)→(∀ y∈ys,Back (D0 y) (D' y))→(∀ y,y∉ys→D' y=D y)→St H' fx' da all D'→Q (.bool true) H'):CallC c (n + 2) (.ref 486) [.ref dr,.ref b] H Q:=by
 refine k486_2 T (w_held (S.sub _ _ B.e) fun ep=>?_)
 have S0:=S.put (o':=.dict es (some ep)) B.e
 have old:∀ a o,fx a=some o→a≠b→(fx.set b (.dict es (some ep))) a=some o:=fun a o e ne=>(AH.set_ne ne).trans e
 have ld':=old _ _ ld (Ne.symm hne)
 refine w_loopH (fun u=>[some (.ref dr),some (.ref b),u,none]) (fun i _ H'=>∃ D',(∀ y∈ys.take i,Back (D0 y) (D' y))∧(∀ y,y∉ys.take i→D' y=D y)∧St H' (fx.set b (.dict es (some ep))) da all D') none (.keys AH.set_self) ⟨D,fun x h=>(nomatch h),fun _ _=>rfl,S0⟩ (fun i _ H' h=>h.elim fun D' q=>q.2.2.sub _ _ AH.set_self) (fun i xs u H' K' hi hI hn' hr=>?_) fun u H' hI=>?_
 ·obtain ⟨D',hb,hs,S'⟩:=hI
  obtain ⟨y,ey,rfl⟩:=it_keys B.ks hi
  have hy:=List.mem_of_getElem? ey
  have hya:=hn y hy
  have hnt:=not_mem_take nd ey
  obtain ⟨⟨hs',eh,hp⟩,st⟩:=hk y hy
  rw [← hs y hnt] at st eh hp
  have st:(D' y).st=(D0 y).st++[((D0 y).vs.length:Int)]:=st
  have eh:(D' y).hid=(D0 y).hid++hs':=eh
  have hp:((D' y).vs++hs').Perm (D0 y).vs:=hp
  have hlen:=hp.length_eq
  have ho:=(hok y hy).len
  have hh:=congrArg List.length eh
  rw [List.length_append] at hlen hh
  have e1:(D' y).hid.length - ((D0 y).vs.length - (D' y).vs.length)=(D0 y).hid.length:=by rw [← hlen,Nat.add_sub_cancel_left,hh,Nat.add_sub_cancel]
  have back:Back (D0 y) (pulled (D' y) (D0 y).vs.length (D0 y).st):=by
   unfold pulled
   rw [e1,eh,List.drop_left,List.take_left]
   exact ⟨hp,rfl,rfl⟩
  obtain ⟨l,ev,el⟩:=B.at_ y hy
  have nlb:l≠b:=fun q=>by rw [q,B.e] at el; cases el
  refine ItemT.dict (S'.sub _ _ ld') (vAt_dI hya) ⟨_,_,getD T S' hya (m:=.ref 87) (by kernel_rfl) (by kernel_rfl) (.inl rfl) rfl,pull T S' hya st (hlen▸Nat.le_add_right _ _) (by rw [← hlen,Nat.add_sub_cancel_left,hh]; exact Nat.le_add_left _ _) (by rw [hh,Nat.add_comm (D0 y).hid.length,← Nat.add_assoc,hlen]; exact Nat.le_of_lt (Nat.lt_trans ho (by decide))) fun H2 S2=>⟨rfl,?_⟩⟩
  have e2:=S2.at_ y hya .a
  rw [upd_self] at e2
  refine ItemT.dict (S2.sub _ _ ld') (vAt_dI hya) (SliceT.dom T.D e2 fun p hp'=>?_)
  have S3:=S2.new' (o:=.list (iL (pulled (D' y) (D0 y).vs.length (D0 y).st).vs)) hp'
  refine CallV.sortedI AH.set_self (by rw [back.vs.length_eq]; exact h64 y hy) fun R hR=>?_
  have S4:=S3.new' (o:=.list (iL (srt (pulled (D' y) (D0 y).vs.length (D0 y).st).vs))) hR
  refine ItemT.dict (S4.sub _ _ AH.set_self) ev (CmpT.neL AH.set_self (S4.sub _ _ (old _ _ el nlb)) Same.int ?_)
  rw [srt_perm_eq back.vs] at S4 ⊢
  rw [decide_eq_true rfl]
  refine hn' _ (some (.int y)) _ ⟨_,fun z hz=>?_,fun z hz=>?_,S4⟩
  ·by_cases q:z=y
   ·subst q; rw [upd_self]; exact back
   ·rw [upd_ne q]
    rw [take_snoc ey] at hz
    exact (List.mem_append.mp hz).elim (hb z) fun r=>absurd (List.mem_singleton.mp r) q
  ·rw [take_snoc ey] at hz
   rw [upd_ne fun q=>hz (List.mem_append_right _ (List.mem_singleton.mpr q))]
   exact hs z fun r=>hz (List.mem_append_left _ r)
 ·obtain ⟨D',hb,hs,S'⟩:=hI
  have hl:(es.map fun p=>[V.int p.1]).length=ys.length:=by rw [← B.ks,List.length_map,List.length_map]
  rw [hl,List.take_length] at hb hs
  exact ⟨_,Sub.refl _,h D' _ _ old hb hs S'⟩
end
end Mine
namespace Mine
noncomputable def stepL (ts:List (List Int)) (vals:List Int):List (List Int):=ts.flatMap fun t=>vals.map fun v=>t++[v]
noncomputable def prodF (ls:List (List Int)):List (List Int):=ls.foldl stepL [[]]
noncomputable def pick (t:List Int) (ch:List Int):List Int:=ch.map fun x=>t.getD x.toNat 0
noncomputable def fitL (q:List Int × Row) (t:List Int):Bool:=rowM q.2 (pick t q.1)
noncomputable def siftL (ts:List (List Int)) (pl:List (List Int × Row)):List (List Int):=pl.foldl (fun ts q=>ts.filter (fitL q)) ts
noncomputable def allL (ls:List (List Int)) (pl:List (List Int × Row)):List (List Int):=siftL (prodF ls) pl
theorem siftL_eq:∀ (pl:List (List Int × Row)) (ts:List (List Int)),siftL ts pl=ts.filter fun t=>pl.all fun q=>fitL q t
 | [],ts=>(List.filter_eq_self.mpr fun _ _=>rfl).symm
 | q::r,ts=>by
  show siftL (ts.filter (fitL q)) r=_
  rw [siftL_eq r,List.filter_filter]
  exact List.filter_congr fun t _=>by rw [List.all_cons,Bool.and_comm]
theorem prodF_snoc {ls:List (List Int)} {l:List Int}:prodF (ls++[l])=stepL (prodF ls) l:=by unfold prodF; rw [List.foldl_append]; rfl
theorem rev_ind {α:Type} {p:List α→Prop} (h0:p []) (hs:∀ l a,p l→p (l++[a])) (l:List α):p l:=by
 rw [← List.reverse_reverse l]
 induction l.reverse with
 | nil=>exact h0
 | cons a r ih=>rw [List.reverse_cons]; exact hs _ _ ih
noncomputable def InP (ls:List (List Int)) (t:List Int):Prop:=t.length=ls.length∧∀ (i:Nat) (l:List Int),ls[i]?=some l→∃ v,t[i]?=some v∧v∈l
theorem mem_prodF {ls:List (List Int)}:∀ {t:List Int},t∈prodF ls↔InP ls t:=by
 refine rev_ind (p:=fun ls=>∀ {t:List Int},t∈prodF ls↔InP ls t) (fun {t}=>?_) (fun ls l ih {t}=>?_) ls
 ·constructor
  ·intro h; cases List.mem_singleton.mp h; exact ⟨rfl,fun i l e=>nomatch e⟩
  ·intro h; exact List.mem_singleton.mpr (List.eq_nil_of_length_eq_zero h.1)
 ·
  rw [prodF_snoc]
  unfold stepL
  rw [List.mem_flatMap]
  constructor
  ·rintro ⟨s,hs,h⟩
   obtain ⟨v,hv,rfl⟩:=List.mem_map.mp h
   obtain ⟨h1,h2⟩:=ih.mp hs
   refine ⟨by rw [List.length_append,List.length_append,h1]; rfl,fun i l' e=>?_⟩
   by_cases q:i < ls.length
   ·rw [List.getElem?_append_left q] at e
    rw [List.getElem?_append_left (h1▸q)]
    exact h2 i l' e
   ·have hi:i=ls.length:=by
     have:=(List.getElem?_eq_some_iff.mp e).1
     rw [List.length_append] at this
     exact Nat.le_antisymm (Nat.le_of_lt_succ this) (Nat.not_lt.mp q)
    subst hi
    rw [List.getElem?_append_right (Nat.le_refl _),Nat.sub_self] at e
    cases e
    exact ⟨v,by rw [← h1,List.getElem?_append_right (Nat.le_refl _),Nat.sub_self]; rfl,hv⟩
  ·rintro ⟨h1,h2⟩
   rw [List.length_append] at h1
   obtain ⟨s,v,rfl⟩:∃ s v,t=s++[v]:=⟨_,_,(List.dropLast_concat_getLast (fun q=>by rw [q] at h1; cases h1)).symm⟩
   rw [List.length_append] at h1
   have h1:s.length=ls.length:=Nat.succ.inj h1
   refine ⟨s,ih.mpr ⟨h1,fun i l' e=>?_⟩,List.mem_map.mpr ⟨v,?_,rfl⟩⟩
   ·have hi:=(List.getElem?_eq_some_iff.mp e).1
    have:=h2 i l' (by rw [List.getElem?_append_left hi]; exact e)
    rwa [List.getElem?_append_left (h1▸hi)] at this
   ·obtain ⟨v',e,hv⟩:=h2 ls.length l (by rw [List.getElem?_append_right (Nat.le_refl _),Nat.sub_self]; rfl)
    rw [← h1,List.getElem?_append_right (Nat.le_refl _),Nat.sub_self] at e
    cases e; exact hv
theorem stepL_len {ts:List (List Int)} {vals:List Int}:(stepL ts vals).length=ts.length * vals.length:=by
 unfold stepL
 induction ts with
 | nil=>exact (Nat.zero_mul _).symm
 | cons t r ih=>rw [List.flatMap_cons,List.length_append,ih,List.length_map,List.length_cons,Nat.succ_mul,Nat.add_comm]
theorem prodF_len {ls:List (List Int)} (h:∀ l∈ls,l.length≤3):(prodF ls).length≤3 ^ ls.length:=by
 revert h
 refine rev_ind (p:=fun ls=>(∀ l∈ls,l.length≤3)→(prodF ls).length≤3 ^ ls.length) (fun _=>Nat.le_refl _) (fun ls l ih h=>?_) ls
 rw [prodF_snoc,stepL_len,List.length_append,Nat.pow_add]
 exact Nat.mul_le_mul (ih fun l hl=>h l (List.mem_append_left _ hl)) (h l (List.mem_append_right _ (List.mem_singleton.mpr rfl)))
structure LsOk (ls:List (List Int)):Prop where
 l4:ls.length≤4
 l3:∀ l∈ls,l.length≤3
 b:∀ l∈ls,∀ v∈l,0≤v∧v≤1000
theorem LsOk.take {ls:List (List Int)} (O:LsOk ls) (i:Nat):(prodF (ls.take i)).length≤81:=by
 refine Nat.le_trans (prodF_len fun l hl=>O.l3 l (List.mem_of_mem_take hl)) ?_
 have:(ls.take i).length≤4:=Nat.le_trans (List.length_take_le' ..) O.l4
 exact Nat.pow_le_pow_right (by decide) this
structure RowOk (r:Row) (m:Nat):Prop where
 k0:0≤r.kind
 k9:r.kind≤9
 fo:∀ fs,r.fo=some fs→fs.length=m∧∀ f∈fs,0≤f∧f≤1000
structure PlOk (m:Nat) (q:List Int × Row):Prop where
 ne:q.1≠[]
 l4:q.1.length≤4
 sub:∀ x∈q.1,x∈iota m
 row:RowOk q.2 q.1.length
noncomputable def PlainAt (H:AH) (v:V) (q:List Int × Row):Prop:=∃ a cr rw,v=.ref a∧H a=some (.tup [.ref cr,.ref rw])∧H cr=some (.list (iL q.1))∧RowAt H rw q.2
theorem PlainAt.sub {H H':AH} {v:V} {q:List Int × Row} (h:PlainAt H v q) (s:Sub H H'):PlainAt H' v q:=h.imp fun a h=>h.imp fun cr h=>h.imp fun rw h=>⟨h.1,s _ _ h.2.1,s _ _ h.2.2.1,h.2.2.2.sub s⟩
theorem IT.to {H H':AH} {vs:List V} {ts:List (List Int)} (h:All2 (IT H) vs ts) (s:Sub H H'):All2 (IT H') vs ts:=h.mono fun v b q=>IS.sub q s
theorem iL_snoc (t:List Int) (v:Int):iL t++[V.int v]=iL (t++[v]):=(iL_append t [v]).symm
theorem tup_at {fx:AH} {tv xs:List V} {L:List (List Int)} {j:Nat} (atv:All2 (IT fx) tv L) (hj:(tv.map ([·]))[j]?=some xs):∃ ta t,L[j]?=some t∧xs=[.ref ta]∧fx ta=some (.tup (iL t)):=by
 rw [List.getElem?_map] at hj
 obtain ⟨tw,etw,rfl⟩:=Option.map_eq_some_iff.mp hj
 have et:=List.getElem?_eq_getElem (show j < L.length by rw [← atv.length]; exact (List.getElem?_eq_some_iff.mp etw).1)
 obtain ⟨v',ev',ta,rfl,eta⟩:=atv.at et
 obtain rfl:tw=.ref ta:=Option.some.inj (etw.symm.trans ev')
 exact ⟨ta,_,et,rfl,eta⟩
section
variable {c:Cx} {P:Params} {n:Nat} {H:AH} {k:Code} {Kk:KT} {Q:V→AH→Prop}
theorem fill_add {ta b:Addr} {t:List Int} {v:Int} (hl:t.length≤4) (eta:H ta=some (.tup (iL t))) (hb:H b=none)
  (h:∀ u H',Sub H H'→H' u=some (.tup (iL (t++[v])))→Q (.ref u) H'):BinT c n .Add (.ref ta) (.ref b) (H.set b (.tup [.int v])) Q:=by
 have s7:Sub H (H.set b (.tup [.int v])):=Sub.new hb
 have eta7:=s7 _ _ eta
 cases t with
 | nil=>exact BinT.addTup0 eta7 AH.set_self (h _ _ s7 AH.set_self)
 | cons t0 tr=>
  refine BinT.addTup eta7 AH.set_self (fun q=>nomatch q) (fun q=>nomatch q) (by rw [List.length_map]; exact Nat.le_trans (Nat.succ_le_succ hl) (by decide)) fun u hu=>?_
  rw [iL_snoc]
  exact h _ _ (s7.trans (Sub.new hu (o:=.tup (iL (t0::tr++[v]))))) AH.set_self
theorem fill_in {acc:List V} {l ta:Addr} {t ls:List Int} {T0:List (List Int)} {K:List V→Loc→AH→Prop} {v2 x3:Option V} (el:H l=some (.list (iL ls))) (eta:H ta=some (.tup (iL t))) (hl:t.length≤4) (h3:ls.length≤3) (ha:acc.length≤243) (a3:All2 (IT H) acc T0)
  (h:∀ acc' v2 H',Sub H H'→All2 (IT H') acc' (T0++ls.map fun v=>t++[v])→K acc' [none,some (.ref ta),v2,x3] H') :
  ∃ it' src' Jnv,CompW H .seq [.ref l] it' src' Jnv acc [none,some (.ref ta),v2,x3] (fun j acc xs ρ H=>w c n (.st 2<|.ld 1<|.ld 2<|.tup 1<|.bin .Add<|.done) xs ρ H (emit (Jnv (j + 1)) acc)) K:=by
 refine ⟨_,_,fun k acc' ρ'' H''=>∃ v2,ρ''=[none,some (.ref ta),v2,x3]∧Sub H H''∧All2 (IT H'') acc' (T0++(ls.take k).map fun v=>t++[v]),.list el,by rw [it_len]; exact Nat.le_trans (Nat.add_le_add ha h3) (by decide),
  ⟨v2,rfl,Sub.refl _,by rw [List.take_zero,List.map_nil,List.append_nil]; exact a3⟩,fun k acc' ρ'' H'' ⟨_,_,s6,_⟩=>s6 _ _ el,fun k acc' xs ρ'' H'' hk hL=>?_,fun acc' ρ'' H'' hL=>?_⟩
 ·obtain ⟨v2,rfl,s6,a6⟩:=hL
  obtain ⟨v,ev,rfl⟩:=it_iL hk
  intro b hb
  refine fill_add hl (s6 _ _ eta) hb fun u H' s8 e8=>⟨_,Sub.refl _,some (.int v),rfl,s6.trans s8,?_⟩
  rw [take_snoc ev,List.map_append,← List.append_assoc]
  exact All2.append (show All2 (IT H') [.ref u] [t++[v]] from ⟨⟨u,rfl,e8⟩,trivial⟩) (IT.to a6 s8)
 ·obtain ⟨v2,rfl,s6,a6⟩:=hL
  rw [it_len,List.take_length] at a6
  exact h _ _ _ s6 a6
theorem list_at {fx:AH} {tv xs:List V} {L:List (List Int)} {j:Nat} (atv:All2 (IL fx) tv L) (hj:(tv.map ([·]))[j]?=some xs):∃ ta t,L[j]?=some t∧xs=[.ref ta]∧fx ta=some (.list (iL t)):=by
 rw [List.getElem?_map] at hj
 obtain ⟨tw,etw,rfl⟩:=Option.map_eq_some_iff.mp hj
 have et:=List.getElem?_eq_getElem (show j < L.length by rw [← atv.length]; exact (List.getElem?_eq_some_iff.mp etw).1)
 obtain ⟨v',ev',ta,rfl,eta⟩:=atv.at et
 obtain rfl:tw=.ref ta:=Option.some.inj (etw.symm.trans ev')
 exact ⟨ta,_,et,rfl,eta⟩
theorem all_fill {ls:List (List Int)} {fr pr:Addr} (O:LsOk ls) (hf:ShownAt H fr ls)
  (h:∀ F1 u H',Sub H H'→TupsAt H' F1 (prodF ls)→w c n k [] [some (.ref fr),some (.ref pr),some (.ref F1),u,none,none] H' Kk) :
  w c n (.tup 0<|.lst 1<|.st 2<|.ld 0<|.loop .seq 1 (.st 3<|.ld 2<|.comp2 .seq 1 [none,none,none,some 3] (.st 1<|.ld 3<|.done) .seq 1 (.st 2<|.ld 1<|.ld 2<|.tup 1<|.bin .Add<|.done)<|.st 2<|.done) .done<|k) [] [some (.ref fr),some (.ref pr),none,none,none,none] H Kk:=by
 obtain ⟨fv,ef,af⟩:=hf
 intro a ha b hb
 have sb:=(Sub.new ha (o:=.tup [])).trans (Sub.new hb (o:=.list [.ref a]))
 refine w_loop (fun (u:Option V × Addr)=>[some (.ref fr),some (.ref pr),some (.ref u.2),u.1,none,none]) (fun i u H'=>Sub H H'∧TupsAt H' u.2 (prodF (ls.take i))) (none,b) (.list (sb _ _ ef))
  ⟨sb,[.ref a],AH.set_self,⟨a,rfl,AH.set_new AH.set_self hb⟩,trivial⟩ (fun i u H' q=>q.1 _ _ ef) (fun i xs u H' K' hi hI hn _=>?_) fun u H' hI=>?_
 ·obtain ⟨s2,tv,etv,atv⟩:=hI
  obtain ⟨l,vals,ex,rfl,el⟩:=list_at af hi
  have hn:=fun D=>hn [] (some (.ref l),D)
  have h3:=O.l3 vals (List.mem_of_getElem? ex)
  have P81:=O.take i
  refine ⟨_,_,fun j acc ρ' H2=>∃ v1 v2,ρ'=[none,v1,v2,some (.ref l)]∧Sub H' H2∧All2 (IT H2) acc (stepL ((prodF (ls.take i)).take j) vals),.list etv,by
   rw [List.length_map,atv.length]; exact Nat.le_trans (Nat.le_of_eq (Nat.zero_add _)) (Nat.le_trans P81 (by decide)),⟨none,none,rfl,Sub.refl _,trivial⟩,fun j acc ρ' H2 ⟨_,_,_,s3,_⟩=>s3 _ _ etv,fun j acc xs ρ' H2 hj hJ=>?_,fun acc ρ' H2 hJ D hD=>?_⟩
  ·obtain ⟨v1,v2,rfl,s3,a3⟩:=hJ
   obtain ⟨ta,t,et,rfl,eta⟩:=tup_at atv hj
   have hacc:acc.length≤243:=by
    rw [a3.length,stepL_len]
    have h2:=List.length_take_le' j (prodF (ls.take i))
    exact Nat.mul_le_mul (Nat.le_trans h2 P81) h3
   have htl:t.length≤4:=by
    rw [(mem_prodF.mp (List.mem_of_getElem? et)).1]
    exact Nat.le_trans (List.length_take_le' ..) O.l4
   refine fill_in (s3 _ _ (s2 _ _ el)) (s3 _ _ eta) htl h3 hacc a3 fun acc' v2 H6 s6 a6=>⟨_,Sub.refl _,some (.ref ta),v2,rfl,s3.trans s6,?_⟩
   rw [show stepL ((prodF (ls.take i)).take (j+1)) vals=stepL ((prodF (ls.take i)).take j) vals++vals.map fun v=>t++[v] by
    rw [take_snoc et]; unfold stepL; rw [List.flatMap_append,List.flatMap_singleton]]
   exact a6
  ·obtain ⟨_,_,rfl,s3,a3⟩:=hJ
   rw [List.length_map,atv.length,List.take_length] at a3
   have sD:=Sub.new hD (o:=.list acc)
   refine hn D _ ⟨s2.trans (s3.trans sD),acc,AH.set_self,?_⟩
   rw [take_snoc ex,prodF_snoc]
   exact IT.to a3 sD
 ·obtain ⟨s2,tp⟩:=hI
  rw [List.length_map,af.length,List.take_length] at tp
  exact h _ _ _ s2 tp
end
end Mine
namespace Mine
theorem InP.val {ls:List (List Int)} {t:List Int} (O:LsOk ls) (h:InP ls t) {v:Int} (hv:v∈t):0≤v∧v≤1000:=by
 obtain ⟨i,hi,rfl⟩:=List.mem_iff_getElem.mp hv
 have e:=List.getElem?_eq_getElem (show i < ls.length from h.1▸hi)
 obtain ⟨w,e',hw⟩:=h.2 i _ e
 rw [List.getElem?_eq_getElem hi] at e'
 cases e'
 exact O.b _ (List.mem_of_getElem? e) _ hw
theorem iota_get {m:Nat} {x:Int} (h:x∈iota m):∃ i:Nat,x=(i:Int)∧i < m:=by
 obtain ⟨h1,h2⟩:=iota_mem.mp h
 obtain ⟨k,rfl⟩:=Int.eq_ofNat_of_zero_le h1
 exact ⟨k,rfl,Int.ofNat_lt.mp h2⟩
theorem pick_val {t ch:List Int} (hs:∀ x∈ch,x∈iota t.length) {v:Int} (hv:v∈pick t ch):v∈t:=by
 obtain ⟨x,hx,rfl⟩:=List.mem_map.mp hv
 obtain ⟨i,rfl,hi⟩:=iota_get (hs x hx)
 rw [Int.toNat_natCast,List.getD_eq_getElem?_getD,List.getElem?_eq_getElem hi]
 exact List.getElem_mem hi
theorem siftL_sub {ts:List (List Int)} {pl:List (List Int × Row)} {t:List Int} (h:t∈siftL ts pl):t∈ts:=by rw [siftL_eq] at h; exact (List.mem_filter.mp h).1
theorem siftL_snoc {ts:List (List Int)} {pl:List (List Int × Row)} {q:List Int × Row}:siftL ts (pl++[q])=(siftL ts pl).filter (fitL q):=by unfold siftL; rw [List.foldl_append]; rfl
theorem siftL_len {ts:List (List Int)} {pl:List (List Int × Row)}:(siftL ts pl).length≤ts.length:=by rw [siftL_eq]; exact List.length_filter_le ..
section
variable {c:Cx} {P:Params} {n:Nat} {H:AH} {k:Code} {Kk:KT} {Q:V→AH→Prop} {ls:List (List Int)} {pl:List (List Int × Row)} {fr pr:Addr}
theorem sift_one (T:TopK c P) (O:LsOk ls) {q:List Int × Row} (hq:PlOk ls.length q) {cr rw F:Addr} {ts:List (List Int)} {ρ:Loc} (hts:∀ t∈ts,InP ls t) (h81:ts.length≤81) (ec:H cr=some (.list (iL q.1))) (er:RowAt H rw q.2) (tp:TupsAt H F ts) (e4:ρ.at 4=some (.ref cr)) (e5:ρ.at 5=some (.ref rw))
  (h:∀ D H',Sub H H'→TupsAt H' D (ts.filter (fitL q))→w c (n + 1) k [.ref D] ρ H' Kk) :
  w c (n + 1) (.comp .seq 1 [none,none,none,some 4,some 5] (.st 1<|.cst (.ref 467)<|.ld 4<|.ld 3<|.comp .seq 1 [none,none,some 1] (.st 1<|.ld 2<|.ld 1<|.sub<|.done)<|.call 2<|.tru<|.ite (.ld 1<|.done) .cont<|.done)<|k) [.ref F] ρ H Kk:=by
 obtain ⟨tv,etv,atv⟩:=tp
 refine w_comp (fun v1=>[none,v1,none,some (.ref cr),some (.ref rw)]) (fun j acc _ H'=>Sub H H'∧All2 (IT H') acc ((ts.take j).filter (fitL q))) none (.list etv) (by
  rw [List.length_map,atv.length]; exact Nat.le_trans h81 (by decide)) ⟨Sub.refl _,trivial⟩ (fun j acc _ H' q=>q.1 _ _ etv) (fun j acc xs v1 H' K' hj hJ hn hc=>?_) (fun acc v1 H' hJ D hD=>?_) (by show [none,none,none,ρ.at 4,ρ.at 5]=_; rw [e4,e5])
 ·obtain ⟨s3,a3⟩:=hJ
  obtain ⟨ta,t,et,rfl,eta⟩:=tup_at atv hj
  have ht:=hts t (List.mem_of_getElem? et)
  have hsub:∀ x∈q.1,x∈iota t.length:=fun x hx=>ht.1▸hq.sub x hx
  have eta':=s3 _ _ eta
  have et':(ts.take (j + 1)).filter (fitL q)=(ts.take j).filter (fitL q)++(if fitL q t=true then [t] else []):=by
   rw [take_snoc et,List.filter_append,List.filter_cons]; rfl
  refine w_compP (fun a=>[none,a,some (.ref ta)]) (fun i=>iL (pick t (q.1.take i))) none (.list (s3 _ _ ec)) (by rw [it_len]; exact Nat.le_trans hq.l4 (by decide)) rfl (s3 _ _ ec) (fun i xs a K2 hi hn2 _=>?_) fun l hl=>?_
  ·obtain ⟨x,ex,rfl⟩:=it_iL hi
   obtain ⟨m,rfl,hm⟩:=iota_get (hsub x (List.mem_of_getElem? ex))
   refine ItemT.tup (x:=.int (t.getD m 0)) eta' (by rw [List.getElem?_map,List.getElem?_eq_getElem hm,List.getD_eq_getElem?_getD,List.getElem?_eq_getElem hm]; rfl) (hn2 _ (some (.int m)) ?_)
   rw [take_snoc ex]
   unfold pick
   rw [List.map_append,iL_append]; rfl
  ·rw [it_len,List.take_length]
   have s4:Sub H' (H'.set l (.list (iL (pick t q.1)))):=Sub.new hl
   refine (law_fits T (er.sub (s3.trans s4)) AH.set_self (fun w=>hq.ne (List.map_eq_nil_iff.mp w)) (by unfold pick; rw [List.length_map]; exact hq.l4) (fun v hv=>ht.val O (pick_val hsub hv)) hq.row.k0 hq.row.k9 (fun fs e=>by unfold pick; rw [List.length_map]; exact hq.row.fo fs e) fun H5 s5=>?_).call (kp467 T)
   have s6:=s4.trans s5
   have a5:=IT.to a3 s6
   refine ite_go (fun hb=>hn _ (some (.ref ta)) _ ⟨s3.trans s6,?_⟩) fun hb=>hc [] (some (.ref ta)) _ ⟨s3.trans s6,?_⟩
   ·rw [et',if_pos (show fitL q t=true from hb)]
    exact All2.append (show All2 (IT H5) [.ref ta] [t] from ⟨⟨ta,rfl,s6 _ _ eta'⟩,trivial⟩) a5
   ·rw [et',if_neg (by show ¬ fitL q t=true; rw [show fitL q t=false from hb]; decide),List.append_nil]
    exact a5
 ·obtain ⟨s3,a3⟩:=hJ
  rw [List.length_map,atv.length,List.take_length] at a3
  have sD:Sub H' (H'.set D (.list acc)):=Sub.new hD
  exact h D _ (s3.trans sD) ⟨acc,AH.set_self,IT.to a3 sD⟩
theorem law_all (T:TopK c P) (O:LsOk ls) (hf:ShownAt H fr ls) {ps:List V} (ep:H pr=some (.list ps)) (ap:All2 (PlainAt H) ps pl) (hp:∀ q∈pl,PlOk ls.length q)
  (h:∀ R H',Sub H H'→TupsAt H' R (allL ls pl)→Q (.ref R) H'):CallC c (n + 2) (.ref 472) [.ref fr,.ref pr] H Q:=by
 refine k472_2 T (all_fill O hf fun F1 u H1 s1 tp=>?_)
 refine w_loop (fun (u:Addr × Option V × Option V × Option V)=>[some (.ref fr),some (.ref pr),some (.ref u.1),u.2.1,u.2.2.1,u.2.2.2]) (fun i u H'=>Sub H1 H'∧TupsAt H' u.1 (siftL (prodF ls) (pl.take i))) (F1,u,none,none) (.list (s1 _ _ ep)) ⟨Sub.refl _,tp⟩ (fun i u H' q=>q.1 _ _ (s1 _ _ ep)) (fun i xs u H' K' hi hI hn _=>?_) fun u H' hI=>?_
 ·obtain ⟨s2,tp⟩:=hI
  rw [List.getElem?_map] at hi
  obtain ⟨pv,epv,rfl⟩:=Option.map_eq_some_iff.mp hi
  have eq:=List.getElem?_eq_getElem (show i < pl.length by rw [← ap.length]; exact (List.getElem?_eq_some_iff.mp epv).1)
  obtain ⟨v',ev',hq⟩:=ap.at eq
  obtain rfl:pv=v':=Option.some.inj (epv.symm.trans ev')
  obtain ⟨a,cr,rw,rfl,e1,e2,e3⟩:=hq.sub (s1.trans s2)
  refine ⟨_,_,rfl,e1,rfl,?_⟩
  refine sift_one T O (hp _ (List.mem_of_getElem? eq)) (ρ:=[some (.ref fr),some (.ref pr),some (.ref u.1),u.2.1,some (.ref cr),some (.ref rw)]) (fun t ht=>mem_prodF.mp (siftL_sub ht)) (Nat.le_trans siftL_len (by have:=O.take ls.length; rwa [List.take_length] at this)) e2 e3 tp rfl rfl fun D H2 s3 tp2=>hn [] (D,u.2.1,some (.ref cr),some (.ref rw)) _ ⟨s2.trans s3,?_⟩
  rw [take_snoc eq,siftL_snoc]
  exact tp2
 ·obtain ⟨s2,tp⟩:=hI
  rw [List.length_map,ap.length,List.take_length] at tp
  exact ⟨_,Sub.refl _,h _ _ (s1.trans s2) tp⟩
end
end Mine
namespace Mine
noncomputable abbrev tF (t:List Int):Int→Int:=fun x=>t.getD x.toNat 0
theorem stepL_filter {ts:List (List Int)} {l:List Int} {f:Int→Bool} {ok ok':List Int→Bool} (h:∀ t∈ts,∀ v∈l,ok' (t++[v])=(ok t && f v)):stepL (ts.filter ok) (l.filter f)=(stepL ts l).filter ok':=by
 unfold stepL
 induction ts with
 | nil=>rfl
 | cons t r ih=>
  have ih:=ih fun s hs=>h s (List.mem_cons_of_mem _ hs)
  have hv:∀ (l':List Int),(∀ v∈l',v∈l)→((l'.map fun v=>t++[v]).filter ok')=if ok t=true then (l'.filter f).map fun v=>t++[v] else []:=by
   intro l' hl'
   induction l' with
   | nil=>simp
   | cons v r' ih'=>
    have ih':=ih' fun w hw=>hl' w (List.mem_cons_of_mem _ hw)
    rw [List.map_cons,List.filter_cons,ih',List.filter_cons,h t (List.mem_cons_self ..) v (hl' v (List.mem_cons_self ..))]
    cases ok t <;> cases f v <;> rfl
  rw [List.filter_cons,List.flatMap_cons,List.filter_append,hv l fun v hv=>hv,← ih]
  cases q:ok t
  ·rfl
  ·rw [if_pos rfl,List.flatMap_cons]; rfl
theorem take_getD {t:List Int} {v:Int} {i:Nat} (h:i < t.length):(t++[v]).getD i 0=t.getD i 0:=by
 rw [List.getD_eq_getElem?_getD,List.getD_eq_getElem?_getD,List.getElem?_append_left h]
theorem iota_succ {m:Nat}:iota (m + 1)=iota m++[(m:Int)]:=by unfold iota; rw [List.range_succ,List.map_append]; rfl
theorem prodF_filter (g:Int→List Int) (f:Int→Int→Bool):∀ m:Nat,prodF ((iota m).map fun x=>(g x).filter (f x))=(prodF ((iota m).map g)).filter fun t=>(iota m).all fun x=>f x (tF t x)
 | 0=>rfl
 | m + 1=>by
  rw [iota_succ,List.map_append,List.map_append,List.map_singleton,List.map_singleton,prodF_snoc,prodF_snoc,prodF_filter g f m]
  refine stepL_filter fun t ht v hv=>?_
  have hl:t.length=m:=by rw [(mem_prodF.mp ht).1,List.length_map,iota_len]
  rw [List.all_append,List.all_cons,List.all_nil,Bool.and_true]
  have e1:tF (t++[v]) (m:Int)=v:=by
   show (t++[v]).getD ((m:Int)).toNat 0=v
   rw [Int.toNat_natCast,← hl,List.getD_eq_getElem?_getD,List.getElem?_append_right (Nat.le_refl _),Nat.sub_self]; rfl
  rw [e1]
  congr 1
  rw [Bool.eq_iff_iff,List.all_eq_true,List.all_eq_true]
  have e2:∀ x∈iota m,tF (t++[v]) x=tF t x:=fun x hx=>by
   obtain ⟨i,rfl,hi⟩:=iota_get hx
   show (t++[v]).getD ((i:Int)).toNat 0=t.getD ((i:Int)).toNat 0
   rw [Int.toNat_natCast,take_getD (hl▸hi)]
  exact ⟨fun h x hx=>e2 x hx▸h x hx,fun h x hx=>(e2 x hx).symm▸h x hx⟩
structure Prep (m:Nat) (fst:Int→List Int) (pl done:List (List Int × Row)) (rm:List Int × Row→Bool) (f:Int→Int→Bool):Prop where
 snd:∀ t:Int→Int,(∀ x∈iota m,t x∈fst x)→(∀ q∈pl,rowM q.2 (q.1.map t)=true)→∀ x∈iota m,f x (t x)=true
 cmp:∀ t:Int→Int,(∀ x∈iota m,f x (t x)=true)→∀ q∈done,rm q=true→rowM q.2 (q.1.map t)=true
noncomputable def rmOf (q:List Int × Row):Bool:=decide (q.1.length=1) || (decide (q.2.kind=5) || decide (q.2.kind=6))
theorem rmOf_iff {q:List Int × Row}:rmOf q=true↔(q.1.length=1∨q.2.kind=5∨q.2.kind=6):=by
 unfold rmOf
 rw [Bool.or_eq_true,Bool.or_eq_true,decide_eq_true_iff,decide_eq_true_iff,decide_eq_true_iff]
noncomputable def domF (fst:Int→List Int) (f:Int→Int→Bool):Int→DS:=fun x=>⟨(fst x).filter (f x),[],[]⟩
noncomputable def andP (f:Int→Int→Bool) (ch:List Int) (p:Int→Int→Bool):Int→Int→Bool:=fun x v=>f x v && (!decide (x∈ch) || p x v)
theorem domF_and {fst:Int→List Int} {f p:Int→Int→Bool} {ch:List Int}:fltP (domF fst f) ch p=domF fst (andP f ch p):=by
 funext x
 unfold fltP domF andP flt1
 by_cases h:x∈ch
 ·rw [if_pos h,decide_eq_true h]
  refine congrArg (fun l=>DS.mk l _ _) ?_
  rw [List.filter_filter]
  exact List.filter_congr fun v _=>by rw [Bool.not_true,Bool.false_or]; exact Bool.and_comm ..
 ·rw [if_neg h,decide_eq_false h]
  refine congrArg (fun l=>DS.mk l _ _) (List.filter_congr fun v _=>?_)
  rw [Bool.not_false,Bool.true_or,Bool.and_true]
section
variable {m:Nat} {fst:Int→List Int} {pl done:List (List Int × Row)} {f p:Int→Int→Bool}
theorem Prep.step {q:List Int × Row} {rm:Bool} (Y:Prep m fst pl done rmOf f) (hq:q∈pl) (sub:∀ x∈q.1,x∈iota m) (O:PreOk q.2 q.1 (domF fst f) p rm):rm=rmOf q∧Prep m fst pl (done++[q]) rmOf (andP f q.1 p):=by
 have er:rm=rmOf q:=Bool.eq_iff_iff.mpr (O.iff.trans rmOf_iff.symm)
 refine ⟨er,fun t ht h x hx=>?_,fun t h q' hq' hr=>?_⟩
 ·have hf:=Y.snd t ht h
  unfold andP
  rw [hf x hx,Bool.true_and]
  by_cases w:x∈q.1
  ·rw [decide_eq_true w,Bool.not_true,Bool.false_or]
   exact O.snd t (fun y hy=>List.mem_filter.mpr ⟨ht y (sub y hy),hf y (sub y hy)⟩) (h q hq) x w
  ·rw [decide_eq_false w]; rfl
 ·have h':∀ x∈iota m,f x (t x)=true∧(!decide (x∈q.1) || p x (t x))=true:=fun x hx=>and2 (h x hx)
  rcases List.mem_append.mp hq' with w | w
  ·exact Y.cmp t (fun x hx=>(h' x hx).1) q' w hr
  ·obtain rfl:=List.mem_singleton.mp w
   refine O.cmp (er.trans hr) t fun x hx=>?_
   have:=(h' x (sub x hx)).2
   rw [decide_eq_true hx] at this
   exact this
theorem Prep.start:Prep m fst pl [] rmOf fun _ _=>true:=⟨fun _ _ _ _ _=>rfl,fun _ _ q h=>nomatch h⟩
noncomputable def stayOf (pl:List (List Int × Row)):List (List Int × Row):=pl.filter fun q=>!rmOf q
theorem prep_fits (Y:Prep m fst pl pl rmOf f):allL ((iota m).map fun x=>(fst x).filter (f x)) (stayOf pl)=allL ((iota m).map fst) pl:=by
 unfold allL
 rw [siftL_eq,siftL_eq,prodF_filter,List.filter_filter]
 refine List.filter_congr fun t ht=>?_
 have ht:∀ x∈iota m,tF t x∈fst x:=fun x hx=>by
  obtain ⟨i,rfl,hi⟩:=iota_get hx
  obtain ⟨v,e,hv⟩:=(mem_prodF.mp ht).2 i (fst i) (by rw [List.getElem?_map,iota_at hi]; rfl)
  show t.getD ((i:Int)).toNat 0∈fst i
  rw [Int.toNat_natCast,List.getD_eq_getElem?_getD,e]; exact hv
 rw [Bool.eq_iff_iff,Bool.and_eq_true,List.all_eq_true,List.all_eq_true,List.all_eq_true]
 constructor
 ·rintro ⟨h1,h2⟩ q hq
  cases w:rmOf q with
  | true=>exact Y.cmp (tF t) h2 q hq w
  | false=>exact h1 q (List.mem_filter.mpr ⟨hq,by rw [w]; rfl⟩)
 ·intro h
  exact ⟨fun q hq=>h q (List.mem_filter.mp hq).1,Y.snd (tF t) ht h⟩
end
end Mine
namespace Mine
structure Prob where
 m:Nat
 B:Int→List Int
 cons:List (List Int × Row)
 F:List (List Int)
structure ConOk (m:Nat) (q:List Int × Row):Prop extends PlOk m q where
 nd:q.1.Nodup
 k5:q.2.kind≠5
 k6:q.2.kind≠6
 fok:FOk q.1 q.2.fo
structure PrOk (Pb:Prob):Prop where
 m1:0 < Pb.m
 m4:Pb.m≤4
 nd:∀ x∈iota Pb.m,(Pb.B x).Nodup
 l3:∀ x∈iota Pb.m,(Pb.B x).length≤3
 b:∀ x∈iota Pb.m,∀ v∈Pb.B x,0≤v∧v≤1000
 e:Pb.F=allL ((iota Pb.m).map Pb.B) Pb.cons
 con:∀ q∈Pb.cons,ConOk Pb.m q
theorem mem_F {Pb:Prob} (O:PrOk Pb) {t:List Int}:t∈Pb.F↔InP ((iota Pb.m).map Pb.B) t∧∀ q∈Pb.cons,rowM q.2 (pick t q.1)=true:=by
 rw [O.e]
 unfold allL
 rw [siftL_eq,List.mem_filter,mem_prodF,List.all_eq_true]; rfl
theorem InP.at {m:Nat} {B:Int→List Int} {t:List Int} (h:InP ((iota m).map B) t) {x:Int} (hx:x∈iota m):tF t x∈B x:=by
 obtain ⟨i,rfl,hi⟩:=iota_get hx
 obtain ⟨v,e,hv⟩:=h.2 i (B i) (by rw [List.getElem?_map,iota_at hi]; rfl)
 show t.getD ((i:Int)).toNat 0∈B i
 rw [Int.toNat_natCast,List.getD_eq_getElem?_getD,e]; exact hv
theorem InP.of {m:Nat} {B:Int→List Int} {s:Int→Int} (h:∀ x∈iota m,s x∈B x):InP ((iota m).map B) ((iota m).map s)∧∀ x∈iota m,tF ((iota m).map s) x=s x:=by
 refine ⟨⟨by rw [List.length_map,List.length_map],fun i l e=>?_⟩,fun x hx=>?_⟩
 ·rw [List.getElem?_map] at e
  obtain ⟨x,ex,rfl⟩:=Option.map_eq_some_iff.mp e
  exact ⟨s x,by rw [List.getElem?_map,ex]; rfl,h x (List.mem_of_getElem? ex)⟩
 ·obtain ⟨i,rfl,hi⟩:=iota_get hx
  show ((iota m).map s).getD ((i:Int)).toNat 0=_
  rw [Int.toNat_natCast,List.getD_eq_getElem?_getD,List.getElem?_map,iota_at hi]; rfl
noncomputable abbrev Agr (g:List (Int × Int)) (t:List Int):Prop:=∀ x v,gAt g x=some v→tF t x=v
structure Good (Pb:Prob) (D:Int→DS) (g:List (Int × Int)) (f:List (List Int)):Prop where
 f1:∀ t∈f,t∈Pb.F∧Agr g t
 f2:∀ t∈Pb.F,Agr g t→t∈f
 vis:∀ t∈f,∀ x∈iota Pb.m,gAt g x=none→tF t x∈(D x).vs
 ok:∀ x∈iota Pb.m,(D x).Ok
 inB:∀ x∈iota Pb.m,∀ v∈(D x).vs,v∈Pb.B x
 full:∀ q∈Pb.cons,msn g q.1=[]→(rowK q.2).mean (gvs g q.1)=true
 giv:∀ x v,gAt g x=some v→x∈iota Pb.m∧v∈Pb.B x
 nd:(g.map (·.1)).Nodup
 l81:f.length≤81
structure Lv where
 x:Int
 v:Int
 ys:List Int
 sh:Int→List Int
 f:List (List Int)
noncomputable def others (g:List (Int × Int)) (m:Nat) (x:Int):List Int:=(msn g (iota m)).filter fun y=>decide (y≠x)
structure LvOk (Pb:Prob) (l:Lv) (D0 D:Int→DS) (g0 g:List (Int × Int)):Prop where
 g:g=g0++[(l.x,l.v)]
 x0:gAt g0 l.x=none
 xm:l.x∈iota Pb.m
 ys:l.ys=others g0 Pb.m l.x
 sh:∀ y∈l.ys,l.sh y=srt (D0 y).vs
 hd:∀ y∈l.ys,Psh (D0 y) (D y)
 same:∀ y∈iota Pb.m,y∉l.ys→Back (D0 y) (D y)
noncomputable def Tr (Pb:Prob):List Lv→(Int→DS)→List (Int × Int)→List (List Int)→Prop
 | [],D,g,f=>(g=[]∧∀ y∈iota Pb.m,Back ⟨Pb.B y,[],[]⟩ (D y))∧Good Pb D g f
 | l::r,D,g,f=>(∃ D0 g0,Tr Pb r D0 g0 l.f∧LvOk Pb l D0 D g0 g)∧Good Pb D g f
section
variable {Pb:Prob} {D D' D0:Int→DS} {g g0:List (Int × Int)} {f:List (List Int)} {l:Lv} {r:List Lv} {x v:Int}
theorem Tr.good {ls:List Lv} (h:Tr Pb ls D g f):Good Pb D g f:=by cases ls <;> exact h.2
theorem Back.trans {a b c:DS} (h:Back a b) (k:Back b c):Back a c:=⟨k.vs.trans h.vs,k.hid.trans h.hid,k.st.trans h.st⟩
theorem Back.rfl' {a:DS}:Back a a:=⟨.refl _,rfl,rfl⟩
theorem Hd.back {a b c:DS} (h:Hd a b) (k:Back b c):Hd a c:=⟨h.ex.imp fun x q=>⟨k.hid.trans q.1,(k.vs.append_right _).trans q.2⟩,k.st.trans h.st⟩
theorem Good.back (G:Good Pb D g f) (h:∀ y∈iota Pb.m,Back (D y) (D' y)):Good Pb D' g f:=
 { G with vis:=fun t ht x hx hg=>(h x hx).vs.mem_iff.mpr (G.vis t ht x hx hg),ok:=fun x hx=>(h x hx).ok (G.ok x hx),inB:=fun x hx v hv=>G.inB x hx v ((h x hx).vs.mem_iff.mp hv) }
theorem others_mem {m:Nat} {y:Int}:y∈others g m x↔y∈iota m∧gAt g y=none∧y≠x:=by
 unfold others msn
 rw [List.mem_filter,List.mem_filter,Option.isNone_iff_eq_none,decide_eq_true_iff]
 exact ⟨fun h=>⟨h.1.1,h.1.2,h.2⟩,fun h=>⟨⟨h.1,h.2.1⟩,h.2.2⟩⟩
theorem others_nd {m:Nat}:(others g m x).Nodup:=(iota_nd.filter _).filter _
theorem Tr.back {ls:List Lv} (h:Tr Pb ls D g f) (k:∀ y∈iota Pb.m,Back (D y) (D' y)):Tr Pb ls D' g f:=by
 cases ls with
 | nil=>exact ⟨⟨h.1.1,fun y hy=>(h.1.2 y hy).trans (k y hy)⟩,h.2.back k⟩
 | cons l r=>
  obtain ⟨⟨D0,g0,h1,L⟩,G⟩:=h
  have hm:∀ y∈l.ys,y∈iota Pb.m:=fun y hy=>(others_mem.mp (L.ys▸hy)).1
  exact ⟨⟨D0,g0,h1,{ L with hd:=fun y hy=>(L.hd y hy).back (k y (hm y hy)),same:=fun y hy hn=>(L.same y hy hn).trans (k y hy) }⟩,G.back k⟩
theorem Tr.len:∀ {ls:List Lv} {D:Int→DS} {g:List (Int × Int)} {f:List (List Int)},Tr Pb ls D g f→g.length=ls.length∧∀ y∈iota Pb.m,(D y).st.length≤ls.length
 | [],D,g,f,h=>⟨by rw [h.1.1]; rfl,fun y hy=>by rw [(h.1.2 y hy).st]; exact Nat.zero_le _⟩
 | l::r,D,g,f,h=>by
  obtain ⟨⟨D0,g0,h1,L⟩,G⟩:=h
  obtain ⟨a,b⟩:=Tr.len h1
  refine ⟨by rw [L.g,List.length_append,a]; rfl,fun y hy=>?_⟩
  by_cases q:y∈l.ys
  ·rw [(L.hd y q).st]
   show ((D0 y).st++[_]).length≤_
   rw [List.length_append]
   exact Nat.succ_le_succ (b y hy)
  ·rw [(L.same y hy q).st]; exact Nat.le_succ_of_le (b y hy)
theorem gAt_mem {g:List (Int × Int)} {x:Int} (h:x∈g.map (·.1)):∃ v,gAt g x=some v:=by
 cases e:gAt g x with
 | some v=>exact ⟨v,rfl⟩
 | none=>
  obtain ⟨q,hq,rfl⟩:=List.mem_map.mp h
  exact absurd rfl (none_any e q hq)
theorem Good.len (G:Good Pb D g f):g.length≤Pb.m:=by
 have h:=List.Nodup.length_le_of_subset (l₂:=iota Pb.m) G.nd (by intro y hy; exact (gAt_mem hy).elim fun v e=>(G.giv y v e).1)
 rwa [List.length_map,iota_len] at h
end
end Mine
namespace Mine
structure Try (Pb:Prob) (D:Int→DS) (g:List (Int × Int)) (x v:Int) (rest:List (List Int)) (done:List (List Int × Row)) (good:Bool) (D':Int→DS):Prop where
 hd:∀ y∈others g Pb.m x,Psh (D y) (D' y)
 same:∀ y,y∉others g Pb.m x→D' y=D y
 no:good=false→rest=[]
 vis:∀ t∈rest,∀ y∈others g Pb.m x,tF t y∈(D' y).vs
 full:good=true→∀ q∈done,msn (g++[(x,v)]) q.1=[]→(rowK q.2).mean (gvs (g++[(x,v)]) q.1)=true
section
variable {Pb:Prob} {D D' D'':Int→DS} {g:List (Int × Int)} {f:List (List Int)} {x v:Int} {done:List (List Int × Row)} {good b fc:Bool}
noncomputable abbrev restOf (f:List (List Int)) (x v:Int):List (List Int):=f.filter fun t=>decide (tF t x=v)
theorem gAt_snoc {y w:Int} (hg:gAt g x=none):gAt (g++[(x,v)]) y=some w↔(y=x∧w=v)∨gAt g y=some w:=by
 by_cases q:y=x
 ·subst q
  rw [gAt_new hg,hg]
  exact ⟨fun h=>.inl ⟨rfl,(Option.some.inj h).symm⟩,fun h=>h.elim (fun h=>by rw [h.2]) fun h=>nomatch h⟩
 ·rw [gAt_snoc_ne q]
  exact ⟨.inr,fun h=>h.elim (fun h=>absurd h.1 q) id⟩
theorem gAt_snoc_none {y:Int} (hg:gAt g x=none):gAt (g++[(x,v)]) y=none↔y≠x∧gAt g y=none:=by
 by_cases q:y=x
 ·subst q; rw [gAt_new hg]; exact ⟨fun h=>(nomatch h),fun h=>absurd rfl h.1⟩
 ·rw [gAt_snoc_ne q]; exact ⟨fun h=>⟨q,h⟩,fun h=>h.2⟩
theorem rest_mem (G:Good Pb D g f) (hg:gAt g x=none) {t:List Int} (h:t∈restOf f x v):t∈Pb.F∧Agr (g++[(x,v)]) t:=by
 obtain ⟨h1,h2⟩:=List.mem_filter.mp h
 have h2:=of_decide_eq_true h2
 obtain ⟨h3,h4⟩:=G.f1 t h1
 refine ⟨h3,fun y w e=>?_⟩
 rcases (gAt_snoc hg).mp e with ⟨rfl,rfl⟩ | e
 ·exact h2
 ·exact h4 y w e
theorem Try.start (G:Good Pb D g f):Try Pb D g x v (restOf f x v) [] true (save D (others g Pb.m x)):=by
 refine ⟨fun y hy=>?_,fun y hy=>if_neg hy,fun q=>(nomatch q),fun t ht y hy=>?_,fun _ q h=>nomatch h⟩
 ·show Hd (psh (D y)) (if y∈_ then _ else _)
  rw [if_pos hy]; exact Hd.refl _
 ·show _∈(if y∈_ then psh (D y) else D y).vs
  rw [if_pos hy]
  obtain ⟨a,b,_⟩:=others_mem.mp hy
  exact G.vis t (List.mem_filter.mp ht).1 y a b
theorem Try.skip {q:List Int × Row} {rest:List (List Int)} (Y:Try Pb D g x v rest done false D'):Try Pb D g x v rest (done++[q]) false D':={ Y with full:=fun h=>nomatch h }
theorem psh_ok {d:DS} (o:d.Ok):(psh d).Ok:=⟨o.nd,o.len⟩
theorem Try.ok (G:Good Pb D g f) {rest:List (List Int)} (Y:Try Pb D g x v rest done good D'):∀ y∈iota Pb.m,(D' y).Ok∧∀ w∈(D' y).vs,w∈(D y).vs:=fun y hy=>by
 by_cases q:y∈others g Pb.m x
 ·exact ⟨(Y.hd y q).ok (psh_ok (G.ok y hy)),fun w hw=>(Y.hd y q).mem hw⟩
 ·rw [Y.same y q]; exact ⟨G.ok y hy,fun w hw=>hw⟩
theorem HidR.hd {d d':DS} {k:Int→Bool} (h:HidR d d' k):Hd d d':=⟨h.ex,h.st⟩
theorem Try.step (O:PrOk Pb) (G:Good Pb D g f) (hg:gAt g x=none) {q:List Int × Row} (hq:q∈Pb.cons) (Y:Try Pb D g x v (restOf f x v) done true D') (R:CRes (rowK q.2) (g++[(x,v)]) q.1 D' fc b D''):Try Pb D g x v (restOf f x v) (done++[q]) b D'':=by
 have C:=O.con q hq
 have fit:∀ t∈restOf f x v,Fit (rowK q.2) (g++[(x,v)]) q.1 D' (tF t):=fun t ht=>by
  obtain ⟨h1,h2⟩:=rest_mem G hg ht
  refine ⟨fun y hy=>?_,?_⟩
  ·unfold opts
   cases e:gAt (g++[(x,v)]) y with
   | some w=>exact List.mem_singleton.mpr (h2 y w e)
   | none=>
    obtain ⟨a,b⟩:=(gAt_snoc_none hg).mp e
    exact Y.vis t ht y (others_mem.mpr ⟨C.sub y hy,b,a⟩)
  ·have:=((mem_F O).mp h1).2 q hq
   rw [rowM_k C.k5 C.k6] at this
   exact this
 have off:∀ {y},¬ (y∈others g Pb.m x)→¬ (y∈q.1∧gAt (g++[(x,v)]) y=none):=fun {y} hy w=>by
  obtain ⟨a,b⟩:=(gAt_snoc_none hg).mp w.2
  exact hy (others_mem.mpr ⟨C.sub y w.1,b,a⟩)
 refine ⟨fun y hy=>?_,fun y hy=>(R.same y (off hy)).trans (Y.same y hy),fun hb=>?_,fun t ht y hy=>?_,fun hb q' hq' hm=>?_⟩
 ·obtain ⟨k,h⟩:=R.hid y
  exact (Y.hd y hy).trans h.hd
 ·exact List.eq_nil_iff_forall_not_mem.mpr fun t ht=>R.snd hb _ (fit t ht)
 ·cases hb:b with
  | false=>exact absurd (fit t ht) (R.snd hb _)
  | true=>
   by_cases w:y∈q.1
   ·have:=R.keep hb _ (fit t ht) y w
    unfold opts at this
    obtain ⟨a,b,c⟩:=others_mem.mp hy
    rw [(gAt_snoc_none hg).mpr ⟨c,b⟩] at this
    exact this
   ·rw [R.same y fun w'=>w w'.1]; exact Y.vis t ht y hy
 ·rcases List.mem_append.mp hq' with w | w
  ·exact Y.full rfl q' w hm
  ·obtain rfl:=List.mem_singleton.mp w
   rw [← R.full hm]; exact hb
theorem msn_off {L:List Int} (hx:x∉L):msn (g++[(x,v)]) L=msn g L:=List.filter_congr fun y hy=>by rw [gAt_snoc_ne fun q:y=x=>hx (q▸hy)]
theorem Try.push (G:Good Pb D g f) (hg:gAt g x=none) (hx:x∈iota Pb.m) (hv:v∈(D x).vs) (Y:Try Pb D g x v (restOf f x v) (Pb.cons.filter fun q=>decide (x∈q.1)) true D'):Good Pb D' (g++[(x,v)]) (restOf f x v):=by
 refine ⟨fun t ht=>rest_mem G hg ht,fun t ht ha=>?_,fun t ht y hy hn=>?_,fun y hy=>(Y.ok G y hy).1,fun y hy w hw=>G.inB y hy w ((Y.ok G y hy).2 w hw),fun q hq hm=>?_,fun y w e=>?_,?_,Nat.le_trans (List.length_filter_le ..) G.l81⟩
 ·refine List.mem_filter.mpr ⟨G.f2 t ht fun y w e=>ha y w ((gAt_snoc hg).mpr (.inr e)),decide_eq_true (ha x v ((gAt_snoc hg).mpr (.inl ⟨rfl,rfl⟩)))⟩
 ·obtain ⟨a,b⟩:=(gAt_snoc_none hg).mp hn
  exact Y.vis t ht y (others_mem.mpr ⟨hy,b,a⟩)
 ·by_cases w:x∈q.1
  ·exact Y.full rfl q (List.mem_filter.mpr ⟨hq,decide_eq_true w⟩) hm
  ·rw [msn_off w] at hm
   rw [gvs_congr (g':=g) fun z hz=>gAt_snoc_ne fun e:z=x=>w (e▸hz)]
   exact G.full q hq hm
 ·rcases (gAt_snoc hg).mp e with ⟨rfl,rfl⟩ | e
  ·exact ⟨hx,G.inB y hx w hv⟩
  ·exact G.giv y w e
 ·rw [List.map_append,List.nodup_append]
  refine ⟨G.nd,List.nodup_cons.mpr ⟨List.not_mem_nil,List.nodup_nil⟩,fun a ha b hb q=>?_⟩
  rw [List.mem_singleton.mp hb] at q
  obtain ⟨w,e⟩:=gAt_mem ha
  rw [q] at e
  exact no_some hg e
theorem Try.last (O:PrOk Pb) (G:Good Pb D g f) (hg:gAt g x=none) (hx:x∈iota Pb.m) (hv:v∈(D x).vs) (Y:Try Pb D g x v (restOf f x v) (Pb.cons.filter fun q=>decide (x∈q.1)) true D') (hl:others g Pb.m x=[]):restOf f x v≠[]:=fun h0=>by
 have G':=Y.push G hg hx hv
 have all:∀ y∈iota Pb.m,∃ w,gAt (g++[(x,v)]) y=some w:=fun y hy=>by
  cases e:gAt (g++[(x,v)]) y with
  | some w=>exact ⟨w,rfl⟩
  | none=>
   obtain ⟨a,b⟩:=(gAt_snoc_none hg).mp e
   have:y∈others g Pb.m x:=others_mem.mpr ⟨hy,b,a⟩
   rw [hl] at this; cases this
 have ev:∀ y w,gAt (g++[(x,v)]) y=some w→(gAt (g++[(x,v)]) y).getD 0=w:=fun y w e=>by rw [e]; rfl
 obtain ⟨i1,i2⟩:=InP.of (B:=Pb.B) (s:=fun y=>(gAt (g++[(x,v)]) y).getD 0) fun y hy=>(all y hy).elim fun w e=>by rw [ev y w e]; exact (G'.giv y w e).2
 have hF:(iota Pb.m).map (fun y=>(gAt (g++[(x,v)]) y).getD 0)∈Pb.F:=(mem_F O).mpr ⟨i1,fun q hq=>by
  have C:=O.con q hq
  rw [rowM_k C.k5 C.k6]
  have hm:msn (g++[(x,v)]) q.1=[]:=List.filter_eq_nil_iff.mpr fun y hy=>(all y (C.sub y hy)).elim fun w e=>by rw [e]; exact Bool.false_ne_true
  have:=G'.full q hq hm
  rw [← map_full (t:=tF ((iota Pb.m).map fun y=>(gAt (g++[(x,v)]) y).getD 0)) fun y hy=>(all y (C.sub y hy)).elim fun w e=>by rw [i2 y (C.sub y hy),ev y w e]; exact e] at this
  exact this⟩
 have:=G'.f2 _ hF fun y w e=>by rw [i2 y (G'.giv y w e).1,ev y w e]
 rw [h0] at this; cases this
theorem Try.tr {ls:List Lv} {sh:Int→List Int} (T0:Tr Pb ls D g f) (hg:gAt g x=none) (hx:x∈iota Pb.m) (hv:v∈(D x).vs) (hs:∀ y∈others g Pb.m x,sh y=srt (D y).vs) (Y:Try Pb D g x v (restOf f x v) (Pb.cons.filter fun q=>decide (x∈q.1)) true D') :
  Tr Pb (⟨x,v,others g Pb.m x,sh,f⟩::ls) D' (g++[(x,v)]) (restOf f x v):=
 ⟨⟨D,g,T0,rfl,hg,hx,rfl,hs,Y.hd,fun y hy hn=>by rw [Y.same y hn]; exact Back.rfl'⟩,Y.push T0.good hg hx hv⟩
end
end Mine
namespace Mine
theorem items_ints {acc:Array Value} {m:Nat} {a s:Int} (h:ItemsOf (fun i v=>∃ t,v=.int (a + (i:Nat) * s) t) acc m):acc.toList.map er=(List.range m).map fun (i:Nat)=>V.int (a + (i:Int) * s):=by
 refine List.ext_getElem (by rw [List.length_map,List.length_map,List.length_range,Array.length_toList]; exact h.1) fun i h1 h2=>?_
 rw [List.length_map,Array.length_toList] at h1
 obtain ⟨t,q⟩:=h.2 i acc[i] (Array.getElem?_eq_getElem h1)
 rw [List.getElem_map,List.getElem_map,List.getElem_range,Array.getElem_toList,q]; rfl
section
variable {c:Cx} {n:Nat} {H:AH} {Q:V→AH→Prop} {l:Addr}
theorem CallV.listRange {m:Nat} (e:H l=some (.range 0 m 1)) (hm:m≤100000) (h:∀ D,H D=none→Q (.ref D) (H.set D (.list (iL (iota m))))):CallV c n (.oth (.type "list")) [.ref l] H Q:=.ty fun ws A Z s hr R e2=>by
 obtain ⟨a,rfl,e3⟩:=er_1 e2
 obtain rfl:=er_ref e3
 obtain ⟨ob,g1,t,u,v,g2⟩:=R.real _ _ e
 refine call_list_range (n:=m) hr.handled (g2 _ g1) (small_one (by decide) (by decide) (Int.le_trans (by decide) (Int.natCast_nonneg m)) (Int.lt_of_le_of_lt (Int.ofNat_le.mpr hm) (by decide))) (by rw [rangeSize_one]; split; exact Int.sub_zero _; exact (Int.le_antisymm (Int.natCast_nonneg m) (Int.not_lt.mp (by assumption)))) (Nat.le_trans hm (by decide)) fun h' tk acc' c' hk hS hacc=>?_
 have hm2:=items_ints hacc
 refine ⟨_,R.new (o:=.list (iL (iota m))) (get?_size_none _) hk ⟨_,hS,?_,acc'.toList,c',rfl,?_⟩,h _ (R.freshH (get?_size_none _))⟩
 ·rw [List.length_map,iota_len]; exact hm
 ·rw [hm2]
  unfold iota iL
  rw [List.map_map]
  exact List.map_congr_left fun i _=>by show V.int (0 + (i:Int) * 1)=_; rw [Int.mul_one,Int.zero_add]; rfl
theorem SliceT.base {xs:List Value} {vs:List V} {lo up:V} {a b:Option Int} (e:c.h₀.IsList l xs.toArray) (ht:l≠c.tab) (q2:xs.map er=vs) (q3:vs.length≤100000) (hlo:optInt lo=some a) (hup:optInt up=some b)
  (h:∀ D,H D=none→Q (.ref D) (H.set D (.list (cut a b vs)))):SliceT c n (.ref l) lo up H Q:=⟨fun rv rl ru e1 e2 e3 A Z s sl hr R hsl=>by
 obtain rfl:=er_ref e1
 obtain ⟨o,e,hc,m,hd⟩:=e
 have q1:=(R.base _ _ e ht).e
 refine inPython_type ⟨_,q1,hc⟩ slot_list_getitem ⟨rfl,?_⟩
 refine wpAny_getItem_list_slice (lo:=a) (hi:=b) (st:=none) ⟨_,q1,hc,_,hd⟩ ⟨_,hsl,rfl,rfl⟩ (isPart_of (e2▸hlo)) (isPart_of (e3▸hup)) .none (by decide) ?_ (by rw [List.size_toArray,← List.length_map er,q2]; exact le_sizeLine q3)
 rw [slicePick_one]
 exact ⟨_,R.newSeq (k:=.list) (m:=0) (cut_er q2) (cut_le q3),h _ (R.freshH (get?_size_none _))⟩⟩
end
theorem cut_take {α:Type} (m:Nat) (vs:List α):cut none (some (m:Int)) vs=vs.take m:=by
 show (vs.take (max 0 (min (if (m:Int) < 0 then (m:Int) + vs.length else m) (vs.length:Int))).toNat).drop 0=_
 rw [if_neg (Int.not_lt.mpr (Int.natCast_nonneg m)),List.drop_zero]
 rcases Nat.le_total m vs.length with q | q
 ·rw [clip_nat q]; rfl
 ·rw [Int.min_eq_right (Int.ofNat_le.mpr q),Int.max_eq_right (Int.natCast_nonneg _),List.take_of_length_le q]
  exact List.take_length
noncomputable def fstL (m:Int) (most:Nat):List Int:=(lawValues m).take most
theorem fstL_eq (m:Int) (most:Nat):fstL m most=(List.range (min most (3 - m / 3 % 3).toNat)).map fun (i:Nat)=>m % 3 + (i:Int) * (1 + m / 9 % 2):=by
 unfold fstL lawValues
 rw [← List.map_take,List.take_range]
theorem fstL_len (m:Int) (most:Nat):(fstL m most).length=min most (3 - m / 3 % 3).toNat:=by rw [fstL_eq,List.length_map,List.length_range]
theorem val3 (m:Int):(3 - m / 3 % 3).toNat≤3∧1≤(3 - m / 3 % 3).toNat:=by
 obtain ⟨k,e,hk⟩:=mod3 (m / 3)
 rw [e,show ((3:Int) - k).toNat=3 - k from Int.toNat_sub 3 k]
 exact ⟨Nat.sub_le ..,Nat.sub_pos_of_lt hk⟩
theorem fstL_le3 (m:Int) (most:Nat):(fstL m most).length≤3:=fstL_len m most▸Nat.le_trans (Nat.min_le_right ..) (val3 m).1
theorem fstL_lt (m:Int) (most:Nat):(fstL m most).Pairwise (· < ·):=by
 rw [fstL_eq,List.pairwise_map]
 refine List.pairwise_lt_range.imp fun {a b} hab=>?_
 rcases Int.emod_two_eq (m / 9) with q | q <;> (rw [q]; exact Int.add_lt_add_left (Int.mul_lt_mul_of_pos_right (Int.ofNat_lt.mpr hab) (by decide)) _)
theorem fstL_nd (m:Int) (most:Nat):(fstL m most).Nodup:=(fstL_lt m most).imp fun h=>Int.ne_of_lt h
theorem fstL_le (m:Int) (most:Nat):(fstL m most).Pairwise (·≤·):=(fstL_lt m most).imp fun h=>Int.le_of_lt h
theorem fstL_b (m:Int) (most:Nat):∀ v∈fstL m most,0≤v∧v≤1000:=fun v hv=>by
 rw [fstL_eq] at hv
 obtain ⟨i,hi,rfl⟩:=List.mem_map.mp hv
 have hi:=Nat.lt_of_lt_of_le (List.mem_range.mp hi) (Nat.le_trans (Nat.min_le_right ..) (val3 m).1)
 have a0:=Int.emod_nonneg m (b:=3) (by decide)
 have a1:=Int.emod_lt_of_pos m (b:=3) (by decide)
 rcases Int.emod_two_eq (m / 9) with q | q <;> (rw [q]; exact ⟨Int.add_nonneg a0 (Int.mul_nonneg (Int.natCast_nonneg i) (by decide)),Int.le_trans (Int.add_le_add (Int.le_of_lt a1) (Int.mul_le_mul_of_nonneg_right (Int.ofNat_le.mpr (Nat.le_of_lt hi)) (by decide))) (by decide)⟩)
theorem w_cst {c:Cx} {n:Nat} {k:Code} {st:List V} {ρ:Loc} {H:AH} {Kk:KT} {v:V} (h:w c n k (v::st) ρ H Kk):w c n (.cst v k) st ρ H Kk:=h
noncomputable abbrev lo (sa na:Addr) (m:Nat) (o3 o4 o5:Option V) (t:List (Option V)):Loc:=some (.ref sa)::some (.ref na)::some (.int m)::o3::o4::o5::t
noncomputable def fstOf (ns:List Int) (most:Nat) (x:Int):List Int:=fstL (ns.getD (1 + x.toNat) 0) most
section
variable {c:Cx} {P:Params} {n:Nat} {H:AH} {sa na:Addr} {ns:List Int} {k:Code} {Kk:KT} {t:List (Option V)}
theorem s_first (T:TopK c P) {m most:Nat} {o4 o5:Option V} (hm:m≤4) (eN:H na=some (.list (iL ns)))
  (h:∀ fr H',Sub H H'→ShownAt H' fr ((iota m).map (fstOf ns most))→w c (n + 1) kA3 [] (lo sa na m (some (.int most)) o4 (some (.ref fr)) t) H' Kk) :
  w c (n + 1) kA2 [] (lo sa na m (some (.int most)) o4 o5 t) H Kk:=by
 refine w_comp (fun v=>[none,v,none,none,some (.int most),some (.ref na)]) (fun i acc _ H'=>Sub H H'∧All2 (IL H') acc (((iota m).take i).map (fstOf ns most))) none (.rng (Nat.le_trans hm (by decide))) (by rw [List.length_map,List.length_range]; exact Nat.le_trans hm (by decide)) ⟨Sub.refl _,trivial⟩ (fun _ _ _ _ _=>trivial) (fun i acc xs v H' K' hi hI hn _=>?_) fun acc v H' hI D hD=>?_
 ·obtain ⟨s,a⟩:=hI
  obtain ⟨rfl,hi2⟩:=range_at hi
  refine (law_at T (i:=1 + i) (s _ _ eN) ?_).call (kp440 T)
  refine (law_values T fun L hL=>?_).call (kp445 T)
  refine SliceT.list (a:=none) (b:=some (most:Int)) AH.set_self rfl rfl fun B hB=>?_
  rw [cut_take,show (iL (lawValues (ns.getD (1 + i) 0))).take most=iL (fstL (ns.getD (1 + i) 0) most) from (List.map_take ..).symm]
  have sB:=(Sub.new hL (o:=.list (iL (lawValues (ns.getD (1 + i) 0))))).trans (Sub.new hB (o:=.list (iL (fstL (ns.getD (1 + i) 0) most))))
  refine hn _ (some (.int i)) _ ⟨s.trans sB,?_⟩
  rw [take_snoc (iota_at hi2),List.map_append]
  exact All2.append (show All2 _ [_] [_] from ⟨⟨B,rfl,AH.set_self⟩,trivial⟩) (a.mono fun v b q=>IS.sub q sB)
 ·obtain ⟨s,a⟩:=hI
  rw [List.length_map,List.length_range,List.take_of_length_le (by rw [iota_len]; exact Nat.le_refl _)] at a
  have sD:=Sub.new hD (o:=.list acc)
  exact h D _ (s.trans sD) ⟨acc,AH.set_self,a.mono fun v b q=>IS.sub q sD⟩
theorem s_head (T:TopK c P) {is:List Int} {xs:List Value} (es:c.h₀.IsList sa xs.toArray) (et:sa≠c.tab) (ev:xs.map er=iL is) (ex:is.length≤100000) {o1 o2 o3 o4 o5:Option V}
  (h:∀ ns na m most fr H',ns.length≤32→2≤m→m≤4→1≤most→most≤3→H' na=some (.list (iL ns))→ShownAt H' fr ((iota m).map (fstOf ns most))→w c (n + 1) kA3 [] (lo sa na m (some (.int most)) o4 (some (.ref fr)) t) H' Kk) :
  w c (n + 1) kA1 [] (some (.ref sa)::o1::o2::o3::o4::o5::t) H Kk:=by
 refine SliceT.base (a:=none) (b:=some ((32:Nat):Int)) es et ev (by rw [List.length_map]; exact ex) rfl rfl fun na hna=>?_
 rw [cut_take,show (iL is).take 32=iL (is.take 32) from (List.map_take ..).symm]
 have hl:(is.take 32).length≤32:=List.length_take_le ..
 generalize is.take 32=ns at *
 refine (law_at T (i:=0) AH.set_self ?_).call (kp440 T)
 refine ⟨by decide,?_⟩
 obtain ⟨m,e,m2,m4⟩:∃ m:Nat,2 + ns.getD 0 0 % 3=(m:Int)∧2≤m∧m≤4:=by
  obtain ⟨k,e,hk⟩:=mod3 (ns.getD 0 0)
  exact ⟨2 + k,by rw [e]; rfl,Nat.le_add_right ..,Nat.add_le_add_left (Nat.le_of_lt_succ hk) 2⟩
 have go:∀ most:Nat,1≤most→most≤3→w c (n + 1) kA2 [] (lo sa na m (some (.int most)) o4 o5 t) (H.set na (.list (iL ns))) Kk:=fun most h1 h3=>
  s_first T m4 AH.set_self fun fr H' s a=>h ns na m most fr H' hl m2 m4 h1 h3 (s _ _ AH.set_self) a
 show w c (n + 1) (.st 2 _) [.int (2 + ns.getD 0 0 % 3)] (some (.ref sa)::some (.ref na)::o2::o3::o4::o5::t) _ _
 rw [e]
 exact ite_go (fun _=>go 2 (by decide) (by decide)) fun _=>go 3 (by decide) (by decide)
end
end Mine
namespace Mine
noncomputable def dom0 (fst:Int→List Int):Int→DS:=fun x=>⟨fst x,[],[]⟩
theorem dom0_upd {fst:Int→List Int} {x:Int}:upd (dom0 fst) x ⟨fst x,[],[]⟩=dom0 fst:=upd_id (D:=dom0 fst) (x:=x)
theorem dput_dI {L:List Int} {da:Int→DA} {x:Int} {A:DA} (hx:x∉L):dput (dI L da) x (.ref (A .a))=dI (L++[x]) (upd da x A):=by
 unfold dput dI
 rw [if_neg]
 ·rw [List.map_append,List.map_singleton,upd_self]
  refine congrArg (·++_) (List.map_congr_left fun y hy=>?_)
  rw [upd_ne fun q:y=x=>hx (q▸hy)]
 ·intro q
  obtain ⟨w,hw,e⟩:=List.any_eq_true.mp q
  obtain ⟨u,hu,rfl⟩:=List.mem_map.mp hw
  exact hx ((of_decide_eq_true e:u=x)▸hu)
theorem dput_vI {L:List Int} {vl:Int→Addr} {x:Int} {l:Addr} (hx:x∉L):dput (vI L vl) x (.ref l)=vI (L++[x]) (upd vl x l):=
 (dput_dI (da:=fun x _=>vl x) (A:=fun _=>l) hx).trans (List.map_congr_left fun y _=>by unfold upd; split <;> rfl)
structure Dm (H0 fx:AH) (dr vd:Addr) (L:List Int) (da:Int→DA) (vl:Int→Addr):Prop where
 sub:Sub H0 fx
 ed:fx dr=some (.dict (dI L da) none)
 eb:fx vd=some (.dict (vI L vl) none)
 lv:∀ x∈L,fx (vl x)=some (.list [])
 fv:∀ x∈L,H0 (vl x)=none
 inj:∀ x∈L,∀ y∈L,vl x=vl y→x=y
 fd:H0 dr=none
 fb:H0 vd=none
 db:dr≠vd
section
variable {H0 fx fx':AH} {dr vd:Addr} {L:List Int} {da da':Int→DA} {vl:Int→Addr} {x:Int}
theorem Dm.grow {l:Addr} (Z:Dm H0 fx dr vd L da vl) (hx:x∉L) (hl:fx l=none) (h0:H0 l=none) :
  Dm H0 (((fx.set dr (.dict (dI (L++[x]) da') none)).set l (.list [])).set vd (.dict (vI (L++[x]) (upd vl x l)) none)) dr vd (L++[x]) da' (upd vl x l):=by
 have ld:l≠dr:=fun q=>no_some hl (q▸Z.ed)
 have lb:l≠vd:=fun q=>no_some hl (q▸Z.eb)
 have vn:∀ z∈L,vl z≠l:=fun z hz q=>no_some hl (q▸Z.lv z hz)
 have each:∀ {p:Int→Addr→Prop},(∀ z∈L,p z (vl z))→p x l→∀ z∈L++[x],p z (upd vl x l z):=fun {p} h1 h2 z hz=>(List.mem_append.mp hz).elim (fun w=>by rw [upd_ne fun q:z=x=>hx (q▸w)]; exact h1 z w) fun w=>by rw [List.mem_singleton.mp w,upd_self]; exact h2
 refine ⟨fun b o e=>?_,?_,AH.set_self,each (p:=fun _ a=>(((fx.set dr (.dict (dI (L++[x]) da') none)).set l (.list [])).set vd (.dict (vI (L++[x]) (upd vl x l)) none)) a=some (.list [])) (fun z hz=>?_) ?_,each (p:=fun _ a=>H0 a=none) Z.fv h0,fun z hz=>each (p:=fun z a=>∀ y∈L++[x],a=upd vl x l y→z=y) (fun z hz=>each (p:=fun y b=>vl z=b→z=y) (fun y hy=>Z.inj z hz y hy) fun q=>absurd q (vn z hz)) (each (p:=fun y b=>l=b→x=y) (fun y hy q=>absurd q.symm (vn y hy)) fun _=>rfl) z hz,Z.fd,Z.fb,Z.db⟩
 ·have nd:b≠dr:=fun q=>no_some Z.fd (q▸e)
  have nb:b≠vd:=fun q=>no_some Z.fb (q▸e)
  have nl:b≠l:=fun q=>no_some h0 (q▸e)
  rw [AH.set_ne nb,AH.set_ne nl,AH.set_ne nd]
  exact Z.sub _ _ e
 ·rw [AH.set_ne Z.db,AH.set_ne (Ne.symm ld),AH.set_self]
 ·have e:=Z.lv z hz
  rw [AH.set_ne (fun q:vl z=vd=>by rw [q,Z.eb] at e; cases e),AH.set_ne (vn z hz),AH.set_ne (fun q:vl z=dr=>by rw [q,Z.ed] at e; cases e)]
  exact e
 ·rw [AH.set_ne lb,AH.set_self]
end
section
variable {c:Cx} {P:Params} {n:Nat} {H:AH} {sa na fr:Addr} {k:Code} {Kk:KT} {t:List (Option V)} {fst:Int→List Int}
theorem s_doms (T:TopK c P) {m:Nat} {o3 o4 o6 o7:Option V} (hm:m≤4) (hf:ShownAt H fr ((iota m).map fst))
  (h:∀ o4 dr vd da vl fx H',Dm H fx dr vd (iota m) da vl→St H' fx da (iota m) (dom0 fst)→w c (n + 2) kA4 [] (lo sa na m o3 o4 (some (.ref fr)) (some (.ref dr)::some (.ref vd)::t)) H' Kk) :
  w c (n + 2) kA3 [] (lo sa na m o3 o4 (some (.ref fr)) (o6::o7::t)) H Kk:=by
 obtain ⟨fv,ef,af⟩:=hf
 intro dr hdr vd hvd
 have a1:=Sub.new hdr (o:=.dict [] none)
 have a2:=Sub.new hvd (o:=.dict [] none)
 have hv0:=a1.none hvd
 have db:dr≠vd:=fun q=>by rw [← q,AH.set_self] at hvd; cases hvd
 have Z0:Dm H ((H.set dr (.dict [] none)).set vd (.dict [] none)) dr vd [] (fun _ _=>0) (fun _=>0):=⟨a1.trans a2,a2 _ _ AH.set_self,AH.set_self,(fun x h=>nomatch h),(fun x h=>nomatch h),(fun x h=>nomatch h),hdr,hv0,db⟩
 have S0:St ((H.set dr (.dict [] none)).set vd (.dict [] none)) ((H.set dr (.dict [] none)).set vd (.dict [] none)) (fun _ _=>0) [] (dom0 fst):=⟨Sub.refl _,fun x hx=>(nomatch hx),fun x hx=>(nomatch hx),fun x hx=>(nomatch hx)⟩
 refine w_loop (fun u=>lo sa na m o3 u (some (.ref fr)) (some (.ref dr)::some (.ref vd)::t)) (fun i _ H'=>∃ da vl fx,Dm H fx dr vd ((iota m).take i) da vl∧St H' fx da ((iota m).take i) (dom0 fst)) o4 (.rng (Nat.le_trans hm (by decide))) ⟨_,_,_,Z0,S0⟩ (fun _ _ _ _=>trivial) (fun i xs u H' K' hi hI hn _=>?_) fun u H' hI=>?_
 ·obtain ⟨da,vl,fx,Z,S⟩:=hI
  obtain ⟨rfl,hi2⟩:=range_at hi
  have ei:=iota_at hi2
  have hnt:=not_mem_take iota_nd ei
  have tl:((iota m).take i).length < 100000:=Nat.lt_of_le_of_lt (List.length_take_le' ..) (by rw [iota_len]; exact Nat.lt_of_le_of_lt hm (by decide))
  obtain ⟨v,ev,A,rfl,eA⟩:=af.at (j:=i) (b:=fst i) (by rw [List.getElem?_map,ei]; rfl)
  refine ItemT.list (S.sub _ _ (Z.sub _ _ ef)) ev (make (n:=n) T (S.sub _ _ (Z.sub _ _ eA)) fun B H1 N=>?_)
  have S1:=S.grow N hnt
  rw [dom0_upd] at S1
  refine SetT.dict (S1.sub _ _ Z.ed) (by unfold dI; rw [List.length_map]; exact tl) ?_
  have S2:=S1.put (o':=.dict (dput (dI ((iota m).take i) da) (i:Int) (.ref (B .a))) none) Z.ed
  rw [dput_dI hnt] at S2 ⊢
  intro l hl
  have hl1:=S2.sub.none hl
  have hlf:fx l=none:=by
   by_cases q:l=dr
   ·rw [q,AH.set_self] at hl1; cases hl1
   ·rw [AH.set_ne q] at hl1; exact hl1
  have S3:=S2.new (o:=.list []) hl
  have ebd:((fx.set dr (.dict (dI ((iota m).take i++[(i:Int)]) (upd da i B)) none)).set l (.list [])) vd=some (.dict (vI ((iota m).take i) vl) none):=by
   rw [AH.set_ne fun q=>no_some hlf (q▸Z.eb),AH.set_ne (Ne.symm Z.db)]; exact Z.eb
  refine SetT.dict (S3.sub _ _ ebd) (by unfold vI; rw [List.length_map]; exact tl) ?_
  have S4:=S3.put (o':=.dict (dput (vI ((iota m).take i) vl) (i:Int) (.ref l)) none) ebd
  rw [dput_vI hnt] at S4 ⊢
  rw [take_snoc ei] at hn
  exact hn [] (some (.int i)) _ ⟨upd da i B,upd vl i l,_,Z.grow hnt hlf (Z.sub.none hlf),S4⟩
 ·obtain ⟨da,vl,fx,Z,S⟩:=hI
  rw [List.length_map,List.length_range,List.take_of_length_le (by rw [iota_len]; exact Nat.le_refl _)] at Z S
  exact h u dr vd da vl fx H' Z S
end
end Mine
namespace Mine
open Classical in
noncomputable def joinP (P:Addr→Prop) (H H1:AH):AH:=fun a=>if P a then H a else H1 a
theorem joinP_in {P:Addr→Prop} {H H1:AH} {a:Addr} (h:P a):joinP P H H1 a=H a:=if_pos h
theorem joinP_out {P:Addr→Prop} {H H1:AH} {a:Addr} (h:¬ P a):joinP P H H1 a=H1 a:=if_neg h
noncomputable abbrev FrzP (P:Addr→Prop) (Z:Froz) (h:Heap):Froz:=fun a ob=>Z a ob∨(P a∧h.get? a=some ob)
noncomputable def Outs (P:Addr→Prop) (H f0:AH):Prop:=∀ a,P a→∃ o,H a=some o∧f0 a=none∧((∃ k vs,o=.seq k vs)∨∃ fs,o=.ns fs)
section
variable {c:Cx} {Z:Froz} {n:Nat} {P:Addr→Prop} {H H1 f0:AH} {s s':Shared} {f:V} {args:List V} {Q Q0:V→AH→Prop}
theorem Outs.frz (O:Outs P H f0) (b:Sub f0 H) (R:Rel c Z H s):Rel c (FrzP P Z s.heap) f0 s:=
 { R.weaken b with fz:=fun a ob z=>z.elim (fun z=>(R.weaken b).fz a ob z) fun z=>(O a z.1).elim fun o q=>⟨z.2,q.2.1,R.tne q.1⟩ }
theorem Outs.nocode (O:Outs P H f0) (R:Rel c Z H s) {a:Addr} {ob:Obj} (h:P a) (e:s.heap.get? a=some ob):¬ CodeO c ob:=by
 obtain ⟨o,e1,_,w⟩:=O a h
 obtain ⟨ob',e2,i⟩:=R.real a o e1
 cases e.symm.trans e2
 rintro ⟨vs,t,q,_⟩
 rcases w with ⟨k,us,rfl⟩ | ⟨fs,rfl⟩
 ·obtain ⟨_,xs,m,rfl,_⟩:=i; cases q
 ·obtain ⟨es,m,sl,rfl,_⟩:=i; cases q
theorem Outs.thaw (O:Outs P H f0) (R:Rel c Z H s) (R':Rel c (FrzP P Z s.heap) H1 s'):Rel c Z (joinP P H H1) s'∧∀ a,P a→H1 a=none:=by
 have sl:∀ a,P a→∃ o ob,H a=some o∧s.heap.get? a=some ob∧IsO c a ob o∧Still c H1 s'.heap a ob:=fun a h=>by
  obtain ⟨o,e1,_,_⟩:=O a h
  obtain ⟨ob,e2,i⟩:=R.real a o e1
  exact ⟨o,ob,e1,e2,i,R'.fz a ob (.inr ⟨h,e2⟩)⟩
 have off:∀ a ob,Still c H1 s'.heap a ob→H a=none→Still c (joinP P H H1) s'.heap a ob:=fun a ob q h0=>⟨q.e,by
  by_cases w:P a
  ·rw [joinP_in w]; exact h0
  ·rw [joinP_out w]; exact q.off,q.t⟩
 have code:∀ cc oc,IsCode c H1 s'.heap cc oc→IsCode c (joinP P H H1) s'.heap cc oc:=fun cc oc q=>⟨q.e,q.cd,by
  by_cases w:P cc
  ·obtain ⟨o,ob,e1,e2,_,st⟩:=sl cc w
   cases q.e.symm.trans st.e
   exact absurd q.cd (O.nocode R w e2)
  ·rw [joinP_out w]; exact q.off⟩
 refine ⟨⟨R'.ok,fun a ob z=>off a ob (R'.fz a ob (.inl z)) (R.fz a ob z).off,fun a ob e t=>off a ob (R'.base a ob e t) (R.base a ob e t).off,fun a o e=>?_,?_,?_,R'.gens,R'.os⟩,fun a h=>(sl a h).elim fun o q=>q.elim fun ob q=>q.2.2.2.off⟩
 ·by_cases w:P a
  ·rw [joinP_in w] at e
   obtain ⟨o',ob,e1,e2,i,st⟩:=sl a w
   cases e.symm.trans e1
   exact ⟨ob,st.e,i⟩
  ·rw [joinP_out w] at e
   exact R'.real a o e
 ·by_cases w:P c.tab
  ·rw [joinP_in w]; exact R.nt
  ·rw [joinP_out w]; exact R'.nt
 ·obtain ⟨ps,T⟩:=R'.tab
  refine ⟨ps,T.e,T.ok,fun pos cv e=>(T.cd pos cv e).imp fun cc q=>q.imp fun oc q=>⟨q.1,code cc oc q.2⟩,fun a z e cc q=>?_⟩
  by_cases w:P a
  ·rw [joinP_in w] at q
   obtain ⟨o,e1,_,k⟩:=O a w
   cases q.symm.trans e1
   rcases k with ⟨k,us,q⟩ | ⟨fs,q⟩ <;> cases q
  ·rw [joinP_out w] at q
   exact (T.fn a z e cc q).imp fun oc=>code cc oc
theorem CallC.frame (O:Outs P H f0) (b:Sub f0 H) (h:CallC c n f args f0 Q0) (k:∀ v f1,Q0 v f1→(∀ a,P a→f1 a=none)→Q v (joinP P H f1)):CallC c n f args H Q:=
 ⟨fun fv vs e1 e2 A Z s hr R=>codeAny_mono (h.go fv vs e1 e2 A _ s hr (O.frz b R)) fun r s' q=>by
  rcases r with e | (v | _ | _ | _) <;> first | exact q | skip
  obtain ⟨H1,R1,q⟩:=q
  obtain ⟨R2,off⟩:=O.thaw R R1
  exact ⟨_,R2,k _ _ q off⟩⟩
end
structure Two (M:Addr→Prop) (fb fx:AH):Prop where
 sub:Sub fb fx
 off:∀ a,M a→fb a=none
 lst:∀ a,M a→∃ vs,fx a=some (.list vs)
noncomputable def IsSlot (da:Int→DA) (all:List Int) (a:Addr):Prop:=∃ x∈all,∃ i,da x i=a
section
variable {c:Cx} {n:Nat} {M:Addr→Prop} {H fx fb:AH} {da:Int→DA} {all:List Int} {D:Int→DS} {f:V} {args:List V} {Q Q0:V→AH→Prop}
theorem St.outs (S:St H fx da all D) (W:Two M fb fx):Outs (fun a=>IsSlot da all a∨M a) H fb:=fun a h=>by
 rcases h with ⟨x,hx,i,rfl⟩ | h
 ·refine ⟨_,S.at_ x hx i,W.sub.none (S.off x hx i),?_⟩
  cases i with
  | a=>exact .inl ⟨_,_,rfl⟩
  | d=>exact .inr ⟨_,rfl⟩
  | x=>exact .inl ⟨_,_,rfl⟩
  | y=>exact .inl ⟨_,_,rfl⟩
 ·obtain ⟨vs,e⟩:=W.lst a h
  exact ⟨_,S.sub _ _ e,W.off a h,.inl ⟨_,_,rfl⟩⟩
theorem St.call2 (S:St H fx da all D) (W:Two M fb fx) (h:CallC c n f args fb Q0) (k:∀ v fb' fx' H',Q0 v fb'→Two M fb' fx'→(∀ a,M a→fx' a=fx a)→St H' fx' da all D→Q v H'):CallC c n f args H Q:=
 CallC.frame (S.outs W) (W.sub.trans S.sub) h fun v f1 q off=>by
  have inM:∀ {a},M a→joinP M fx f1 a=fx a:=fun h=>joinP_in h
  have noS:∀ {a},M a→¬ IsSlot da all a:=fun h w=>by
   obtain ⟨vs,e⟩:=W.lst _ h
   obtain ⟨x,hx,i,rfl⟩:=w
   exact no_some (S.off x hx i) e
  refine k v f1 (joinP M fx f1) _ q ⟨fun a o e=>?_,fun a h=>off a (.inr h),fun a h=>by rw [inM h]; exact W.lst a h⟩ (fun a h=>inM h) ⟨fun a o e=>?_,fun x hx i=>?_,S.inj,fun x hx i=>?_⟩
  ·by_cases w:M a
   ·exact (no_some (off a (.inr w)) e).elim
   ·rw [joinP_out w]; exact e
  ·by_cases w:M a
   ·rw [inM w] at e
    rw [joinP_in (.inr w)]
    exact S.sub _ _ e
   ·rw [joinP_out w] at e
    rw [joinP_out fun h=>no_some (off a h) e]
    exact e
  ·rw [joinP_in (.inl ⟨x,hx,i,rfl⟩)]; exact S.at_ x hx i
  ·rw [joinP_out fun h=>noS h ⟨x,hx,i,rfl⟩]; exact off _ (.inl ⟨x,hx,i,rfl⟩)
theorem Two.new (W:Two M fb fx) {a:Addr} {o:AO} (h:fx a=none):Two M (fb.set a o) (fx.set a o):=
 have ne:∀ b,M b→b≠a:=fun b hb q=>(W.lst b hb).elim fun vs e=>no_some h (q▸e)
 ⟨W.sub.set,fun b hb=>(AH.set_ne (ne b hb)).trans (W.off b hb),fun b hb=>(W.lst b hb).imp fun vs e=>(AH.set_ne (ne b hb)).trans e⟩
theorem Two.put (W:Two M fb fx) {l:Addr} {vs:List V} (h:M l):Two M fb (fx.set l (.list vs)):=
 ⟨fun a o e=>(AH.set_ne fun q=>no_some (W.off l h) (q▸e)).trans (W.sub a o e),W.off,fun b hb=>by
  by_cases q:b=l
  ·exact ⟨vs,by rw [q]; exact AH.set_self⟩
  ·rw [AH.set_ne q]; exact W.lst b hb⟩
end
end Mine
namespace Mine
noncomputable def chOf (ns:List Int) (m i:Nat):List Int:=lawPick m (ns.getD (7 + 3 * i) 0)
noncomputable def conOf (ns:List Int) (m i:Nat):List Int × Row:=(chOf ns m i,rowOf (ns.getD (6 + 3 * i) 0 % 10) (chOf ns m i).length (ns.getD (8 + 3 * i) 0))
theorem ch_facts {ns:List Int} {m i:Nat} (h0:0 < m) (hm:m≤4):1≤(chOf ns m i).length∧(chOf ns m i).length≤4∧(chOf ns m i).Nodup∧∀ x∈chOf ns m i,x∈iota m:=by
 have hN:=pickN_le h0 (ns.getD (7 + 3 * i) 0)
 refine ⟨?_,?_,pick_nd h0 _,fun x hx=>pick_mem h0 hx⟩
 ·unfold chOf; rw [pick_len]; exact hN.1
 ·unfold chOf; rw [pick_len]; exact Nat.le_trans hN.2.1 hm
theorem kind_b (z:Int):0≤z % 10∧z % 10≤9:=⟨Int.emod_nonneg _ (by decide),Int.le_of_lt_add_one (Int.emod_lt_of_pos _ (by decide))⟩
structure Grow (M:Addr→Prop) (fb fx fb' fx':AH):Prop where
 sub:Sub fb fb'
 two:Two M fb' fx'
 m:∀ a,M a→fx' a=fx a
theorem Grow.trans {M:Addr→Prop} {f1 x1 f2 x2 f3 x3:AH} (a:Grow M f1 x1 f2 x2) (b:Grow M f2 x2 f3 x3):Grow M f1 x1 f3 x3:=⟨a.sub.trans b.sub,b.two,fun l h=>(b.m l h).trans (a.m l h)⟩
theorem Two.grow {M:Addr→Prop} {fb fx:AH} (W:Two M fb fx) {a:Addr} {o:AO} (h:fx a=none):Grow M fb fx (fb.set a o) (fx.set a o):=⟨Sub.new (W.sub.none h),W.new h,fun l hl=>AH.set_ne fun q=>(W.lst l hl).elim fun vs e=>no_some h (q▸e)⟩
section
variable {c:Cx} {P:Params} {n:Nat} {M:Addr→Prop} {H fx fb:AH} {sa na:Addr} {ns:List Int} {k:Code} {Kk:KT} {t:List (Option V)} {da:Int→DA} {all:List Int} {D:Int→DS}
theorem s_pick (T:TopK c P) {m i:Nat} {o3 o4 o5 o6 o7 o8 o9 o10 o12:Option V} (S:St H fx da all D) (W:Two M fb fx) (eN:fb na=some (.list (iL ns))) (h0:0 < m) (hm:m≤4)
  (h:∀ ca fb' fx' H',Grow M fb fx fb' fx'→St H' fx' da all D→fb' ca=some (.list (iL (chOf ns m i)))→w c (n + 1) kB2 [] (lo sa na m o3 o4 o5 (o6::o7::o8::o9::o10::some (.int i)::some (.ref ca)::t)) H' Kk) :
  w c (n + 1) kB1 [] (lo sa na m o3 o4 o5 (o6::o7::o8::o9::o10::some (.int i)::o12::t)) H Kk:=by
 refine CallV.range1 fun R hR=>?_
 have S1:=S.new (o:=.range 0 m 1) hR
 have g1:=W.grow (o:=.range 0 m 1) (S.sub.none hR)
 refine CallV.listRange AH.set_self (Nat.le_trans hm (by decide)) fun l hl=>?_
 have S2:=S1.new (o:=.list (iL (iota m))) hl
 have g2:=g1.trans (g1.two.grow (o:=.list (iL (iota m))) (S1.sub.none hl))
 refine BinT.mulL2 (by decide) ((law_at T (i:=7 + 3 * i) (S2.sub _ _ (g2.two.sub _ _ (g2.sub _ _ eN))) ?_).call (kp440 T))
 refine (S2.call2 g2.two (Q0:=fun v fb'=>∃ ca,v=.ref ca∧Sub _ fb'∧fb' ca=some (.list (iL (chOf ns m i)))) (law_pick T h0 hm AH.set_self fun D hD=>⟨D,rfl,Sub.new hD,AH.set_self⟩) fun v fb' fx' H' q W' hM S'=>?_).call (kp450 T)
 obtain ⟨ca,rfl,s3,e⟩:=q
 exact h ca fb' fx' H' (g2.trans ⟨s3,W',hM⟩) S' e
theorem s_rule (T:TopL c P) {m i:Nat} {o3 o4 o5 o6 o7 o8 o9 o10 o13 o14:Option V} {ca:Addr} (S:St H fx da all D) (W:Two M fb fx) (eN:fb na=some (.list (iL ns))) (h0:0 < m) (hm:m≤4) (ec:fb ca=some (.list (iL (chOf ns m i))))
  (h:∀ rr rw fb' fx' H',Grow M fb fx fb' fx'→St H' fx' da all D→fb rr=none→RowAt fb' rw (conOf ns m i).2→RuleAt fb' rr (conOf ns m i).2 (chOf ns m i).length→w c (n + 3) kB3 [] (lo sa na m o3 o4 o5 (o6::o7::o8::o9::o10::some (.int i)::some (.ref ca)::some (.ref rr)::some (.ref rw)::t)) H' Kk) :
  w c (n + 3) kB2 []
   (lo sa na m o3 o4 o5 (o6::o7::o8::o9::o10::some (.int i)::some (.ref ca)::o13::o14::t)) H Kk:=by
 have t:=T.toTopK
 obtain ⟨c1,c4,_,_⟩:=ch_facts (ns:=ns) (i:=i) h0 hm
 have eN':=S.sub _ _ (W.sub _ _ eN)
 refine BinT.mulL2 (by decide) ((law_at t (i:=6 + 3 * i) eN' ?_).call (kp440 t))
 refine ⟨by decide,CallV.len (S.sub _ _ (W.sub _ _ ec)) ?_⟩
 refine BinT.mulL2 (by decide) ((law_at t (i:=8 + 3 * i) eN' ?_).call (kp440 t))
 rw [List.length_map]
 refine (S.call2 W (Q0:=fun v fb'=>∃ rt rr rw,v=.ref rt∧Sub fb fb'∧fb' rt=some (.tup [.ref rr,.ref rw])∧fb rr=none∧RowAt fb' rw (conOf ns m i).2∧RuleAt fb' rr (conOf ns m i).2 (chOf ns m i).length) (law_rule T (kind_b _).1 (kind_b _).2 c1 c4 fun H' rt rr rw fr s e r1 r2=>⟨rt,rr,rw,rfl,s,e,fr,r1,r2⟩) fun v fb' fx' H' q W' hM S'=>?_).call (kp462 t)
 obtain ⟨rt,rr,rw,rfl,s,e,fr,r1,r2⟩:=q
 exact ⟨_,_,rfl,S'.sub _ _ (W'.sub _ _ e),rfl,h rr rw fb' fx' H' ⟨s,W',hM⟩ S' fr r1 r2⟩
end
end Mine
namespace Mine
structure CL2 (fb fx:AH) (rA nA:Nat→Addr) (l:Addr) (ks:List Nat) (ts:List Addr):Prop where
 e:fx l=some (.list (ts.map V.ref))
 len:ts.length=ks.length
 at_:∀ (j:Nat) a k,ts[j]?=some a→ks[j]?=some k→fb a=some (.tup [.ref (rA k),.ref (nA k)])
noncomputable def CLs (fb fx:AH) (rA nA:Nat→Addr) (l:Addr) (ks:List Nat):Prop:=∃ ts,CL2 fb fx rA nA l ks ts
section
variable {fb fx fb' fx':AH} {M:Addr→Prop} {rA nA rA' nA':Nat→Addr} {l l':Addr} {ks:List Nat} {o:AO} {vs:List V}
theorem CLs.to (h:CLs fb fx rA nA l ks) (s:Sub fb fx):CLat fx rA nA l ks:=h.imp fun ts q=>⟨q.e,q.len,fun j a k h1 h2=>s _ _ (q.at_ j a k h1 h2)⟩
theorem CLs.grow (h:CLs fb fx rA nA l ks) (G:Grow M fb fx fb' fx') (hl:M l):CLs fb' fx' rA nA l ks:=h.imp fun ts q=>⟨(G.m l hl).trans q.e,q.len,fun j a k h1 h2=>G.sub _ _ (q.at_ j a k h1 h2)⟩
theorem CLs.put (h:CLs fb fx rA nA l ks) (hne:l≠l'):CLs fb (fx.set l' o) rA nA l ks:=h.imp fun ts q=>⟨(AH.set_ne hne).trans q.e,q.len,q.at_⟩
theorem CLs.congr (h:CLs fb fx rA nA l ks) (hr:∀ k∈ks,rA' k=rA k∧nA' k=nA k):CLs fb fx rA' nA' l ks:=h.imp fun ts q=>⟨q.e,q.len,fun j a k h1 h2=>by
 obtain ⟨e1,e2⟩:=hr k (List.mem_of_getElem? h2)
 rw [e1,e2]; exact q.at_ j a k h1 h2⟩
theorem CLs.snoc {t:Addr} {k:Nat} (h:CLs fb fx rA nA l ks) (e:fx l=some (.list vs)) (et:fb t=some (.tup [.ref (rA k),.ref (nA k)])):CLs fb (fx.set l (.list (vs++[.ref t]))) rA nA l (ks++[k]):=by
 obtain ⟨ts,q⟩:=h
 obtain rfl:vs=ts.map V.ref:=by
  have:=e.symm.trans q.e
  injection this with w; injection w
 refine ⟨ts++[t],by rw [List.map_append]; exact AH.set_self,by rw [List.length_append,List.length_append,q.len]; rfl,fun j a k' h1 h2=>?_⟩
 by_cases w:j < ts.length
 ·rw [List.getElem?_append_left w] at h1
  rw [List.getElem?_append_left (q.len▸w)] at h2
  exact q.at_ j a k' h1 h2
 ·have w:=Nat.not_lt.mp w
  rw [List.getElem?_append_right w] at h1
  rw [List.getElem?_append_right (q.len▸w),← q.len] at h2
  cases hj:j - ts.length with
  | zero=>rw [hj] at h1 h2; cases h1; cases h2; exact et
  | succ i=>rw [hj] at h1; cases h1
theorem CLs.nil (e:fx l=some (.list [])):CLs fb fx rA nA l []:=⟨[],e,rfl,fun j a k h=>nomatch h⟩
end
noncomputable def MR (rl cl pr:Addr) (vl:Int→Addr) (m:Nat) (a:Addr):Prop:=a=rl∨a=cl∨a=pr∨∃ x∈iota m,a=vl x
structure MRne (rl cl pr:Addr) (vl:Int→Addr) (m:Nat):Prop where
 rc:rl≠cl
 rp:rl≠pr
 cp:cl≠pr
 v:∀ x∈iota m,vl x≠rl∧vl x≠cl∧vl x≠pr
 inj:∀ x∈iota m,∀ y∈iota m,vl x=vl y→x=y
structure RuAt (fb:AH) (ns:List Int) (m k:Nat) (rr nr:Addr):Prop where
 rule:RuleAt fb rr (conOf ns m k).2 (chOf ns m k).length
 lst:fb nr=some (.list (iL (chOf ns m k)))
theorem RuAt.sub {fb fb':AH} {ns:List Int} {m k:Nat} {rr nr:Addr} (h:RuAt fb ns m k rr nr) (s:Sub fb fb'):RuAt fb' ns m k rr nr:=⟨h.rule.sub s,s _ _ h.lst⟩
theorem RuleAt.con {fb:AH} {rr:Addr} {r:Row} {vars:List Int} (h:RuleAt fb rr r vars.length):∃ C d,ConAt fb rr C d:=by
 obtain ⟨d,h⟩:=h
 have at_:∀ {C:Addr} {fs:List (Str × V)},C≠DomC→C∈conL→Ins fb rr C d fs→∃ C d,ConAt fb rr C d:=fun hn hc I=>⟨_,_,I.o.resolve_right fun q=>hn q.1,hc⟩
 by_cases k5:r.kind=5
 ·rw [if_pos k5] at h; exact h.elim fun mr q=>at_ (by decide) (by decide) q.1
 rw [if_neg k5] at h
 by_cases k6:r.kind=6
 ·rw [if_pos k6] at h; exact h.elim fun mr q=>at_ (by decide) (by decide) q.1
 rw [if_neg k6] at h
 have ks:=h vars rfl
 cases q:rowK r with
 | diff=>rw [q] at ks; exact at_ (by decide) (by decide) ks
 | eq=>rw [q] at ks; exact at_ (by decide) (by decide) ks
 | sum t b fo=>
  rw [q] at ks
  obtain ⟨mv,_,⟨_,I⟩ | ⟨_,I⟩ | ⟨_,I⟩⟩:=ks
  ·exact at_ (by decide) (by decide) I
  ·exact at_ (by decide) (by decide) I
  ·exact at_ (by decide) (by decide) I
 | some inv ms need exact=>
  rw [q] at ks
  obtain ⟨sr,_,I⟩:=ks
  cases inv with
  | false=>exact at_ (by decide) (by decide) I
  | true=>exact at_ (by decide) (by decide) I
 | func rest=>
  rw [q] at ks
  obtain ⟨f,cell,cc,I⟩:=ks
  exact at_ (by decide) (by decide) I.hi
theorem RuAt.ref {fb:AH} {ns:List Int} {m k:Nat} {rr nr:Addr} (h:RuAt fb ns m k rr nr):∃ C d,ConAt fb rr C d:=h.rule.con
noncomputable def byK (ns:List Int) (m i:Nat) (x:Int):List Nat:=(List.range i).filter fun k=>decide (x∈chOf ns m k)
theorem byK_succ {ns:List Int} {m i:Nat} {x:Int}:byK ns m (i + 1) x=byK ns m i x++(if x∈chOf ns m i then [i] else []):=by
 unfold byK
 rw [List.range_succ,List.filter_append,List.filter_cons]
 by_cases q:x∈chOf ns m i
 ·rw [if_pos q,if_pos (decide_eq_true q)]; rfl
 ·rw [if_neg q,if_neg (by rw [decide_eq_false q]; decide)]; rfl
structure Ru (fb fx:AH) (ns:List Int) (m:Nat) (rl cl pr:Addr) (vl:Int→Addr) (rA nA:Nat→Addr) (i:Nat) (kr kc kp:List Nat) (ksV:Int→List Nat):Prop where
 con:∀ k,k < i→RuAt fb ns m k (rA k) (nA k)
 inj:∀ j,j < i→∀ k,k < i→rA j=rA k→j=k
 lr:fx rl=some (.list (kr.map fun k=>V.ref (rA k)))
 lc:CLs fb fx rA nA cl kc
 lp:∃ ps,fx pr=some (.list ps)∧All2 (PlainAt fb) ps (kp.map (conOf ns m))
 lv:∀ x∈iota m,CLs fb fx rA nA (vl x) (ksV x)
section
variable {fb fx fb' fx':AH} {ns:List Int} {m i k:Nat} {rl cl pr t:Addr} {vl:Int→Addr} {rA nA:Nat→Addr} {kr kc kp:List Nat} {ksV:Int→List Nat} {vs:List V}
theorem Ru.grow (R:Ru fb fx ns m rl cl pr vl rA nA i kr kc kp ksV) (G:Grow (MR rl cl pr vl m) fb fx fb' fx'):Ru fb' fx' ns m rl cl pr vl rA nA i kr kc kp ksV:=
 ⟨fun k hk=>(R.con k hk).sub G.sub,R.inj,(G.m _ (.inl rfl)).trans R.lr,R.lc.grow G (.inr (.inl rfl)),R.lp.imp fun ps q=>⟨(G.m _ (.inr (.inr (.inl rfl)))).trans q.1,q.2.mono fun v b h=>h.sub G.sub⟩,fun x hx=>(R.lv x hx).grow G (.inr (.inr (.inr ⟨x,hx,rfl⟩)))⟩
theorem Ru.con1 {rr ca:Addr} (R:Ru fb fx ns m rl cl pr vl rA nA i (List.range i) (List.range i) (List.range i) (byK ns m i)) (h:RuAt fb ns m i rr ca) (hn:∀ k,k < i→rA k≠rr) :
  Ru fb fx ns m rl cl pr vl (fun k=>if k=i then rr else rA k) (fun k=>if k=i then ca else nA k) (i + 1) (List.range i) (List.range i) (List.range i) (byK ns m i):=by
 have ne:∀ k∈List.range i,k≠i:=fun k hk=>Nat.ne_of_lt (List.mem_range.mp hk)
 have cg:∀ k∈List.range i,(if k=i then rr else rA k)=rA k∧(if k=i then ca else nA k)=nA k:=fun k hk=>⟨if_neg (ne k hk),if_neg (ne k hk)⟩
 refine ⟨fun k hk=>?_,fun j hj k hk=>?_,?_,R.lc.congr cg,R.lp,fun x hx=>(R.lv x hx).congr fun k hk=>cg k (List.mem_filter.mp hk).1⟩
 ·by_cases q:k=i
  ·subst q; rw [if_pos rfl,if_pos rfl]; exact h
  ·rw [if_neg q,if_neg q]; exact R.con k (Nat.lt_of_le_of_ne (Nat.le_of_lt_succ hk) q)
 ·by_cases qj:j=i <;> by_cases qk:k=i
  ·exact fun _=>qj.trans qk.symm
  ·rw [if_pos qj,if_neg qk]; exact fun e=>absurd e.symm (hn k (Nat.lt_of_le_of_ne (Nat.le_of_lt_succ hk) qk))
  ·rw [if_neg qj,if_pos qk]; exact fun e=>absurd e (hn j (Nat.lt_of_le_of_ne (Nat.le_of_lt_succ hj) qj))
  ·rw [if_neg qj,if_neg qk]; exact R.inj j (Nat.lt_of_le_of_ne (Nat.le_of_lt_succ hj) qj) k (Nat.lt_of_le_of_ne (Nat.le_of_lt_succ hk) qk)
 ·rw [R.lr]
  exact congrArg (fun l=>some (AO.list l)) (List.map_congr_left fun k hk=>by rw [(cg k hk).1])
variable (N:MRne rl cl pr vl m)
include N
theorem Ru.r (R:Ru fb fx ns m rl cl pr vl rA nA i kr kc kp ksV):Ru fb (fx.set rl (.list ((kr.map fun k=>V.ref (rA k))++[.ref (rA k)]))) ns m rl cl pr vl rA nA i (kr++[k]) kc kp ksV:=
 ⟨R.con,R.inj,by rw [List.map_append]; exact AH.set_self,R.lc.put (Ne.symm N.rc),R.lp.imp fun ps q=>⟨(AH.set_ne (Ne.symm N.rp)).trans q.1,q.2⟩,fun x hx=>(R.lv x hx).put (N.v x hx).1⟩
theorem Ru.c (R:Ru fb fx ns m rl cl pr vl rA nA i kr kc kp ksV) (e:fx cl=some (.list vs)) (et:fb t=some (.tup [.ref (rA k),.ref (nA k)])):Ru fb (fx.set cl (.list (vs++[.ref t]))) ns m rl cl pr vl rA nA i kr (kc++[k]) kp ksV:=
 ⟨R.con,R.inj,(AH.set_ne N.rc).trans R.lr,R.lc.snoc e et,R.lp.imp fun ps q=>⟨(AH.set_ne (Ne.symm N.cp)).trans q.1,q.2⟩,fun x hx=>(R.lv x hx).put (N.v x hx).2.1⟩
theorem Ru.p (R:Ru fb fx ns m rl cl pr vl rA nA i kr kc kp ksV) (e:fx pr=some (.list vs)) (et:PlainAt fb (.ref t) (conOf ns m k)):Ru fb (fx.set pr (.list (vs++[.ref t]))) ns m rl cl pr vl rA nA i kr kc (kp++[k]) ksV:=by
 obtain ⟨ps,e1,a⟩:=R.lp
 obtain rfl:vs=ps:=by
  have:=e.symm.trans e1
  injection this with w; injection w
 refine ⟨R.con,R.inj,(AH.set_ne N.rp).trans R.lr,R.lc.put N.cp,⟨_,AH.set_self,?_⟩,fun x hx=>(R.lv x hx).put (N.v x hx).2.2⟩
 rw [List.map_append]
 exact All2.append (show All2 (PlainAt fb) [.ref t] [conOf ns m k] from ⟨et,trivial⟩) a
theorem Ru.v {x:Int} {ksV':Int→List Nat} (R:Ru fb fx ns m rl cl pr vl rA nA i kr kc kp ksV) (hx:x∈iota m) (e:fx (vl x)=some (.list vs)) (et:fb t=some (.tup [.ref (rA k),.ref (nA k)])) (h1:ksV' x=ksV x++[k]) (h2:∀ y,y≠x→ksV' y=ksV y):Ru fb (fx.set (vl x) (.list (vs++[.ref t]))) ns m rl cl pr vl rA nA i kr kc kp ksV':=by
 obtain ⟨n1,n2,n3⟩:=N.v x hx
 refine ⟨R.con,R.inj,(AH.set_ne (Ne.symm n1)).trans R.lr,R.lc.put (Ne.symm n2),R.lp.imp fun ps q=>⟨(AH.set_ne (Ne.symm n3)).trans q.1,q.2⟩,fun y hy=>?_⟩
 by_cases q:y=x
 ·subst q; rw [h1]; exact (R.lv y hx).snoc e et
 ·rw [h2 y q]; exact (R.lv y hy).put fun w=>q (N.inj y hy x hx w)
end
end Mine
namespace Mine
theorem CL2.len' {fb fx:AH} {rA nA:Nat→Addr} {l:Addr} {ks:List Nat} (h:CLs fb fx rA nA l ks):∃ vs,fx l=some (.list vs)∧vs.length=ks.length:=h.elim fun ts q=>⟨_,q.e,(List.length_map ..).trans q.len⟩
section
variable {c:Cx} {P:Params} {n:Nat} {H fx fb:AH} {l:Addr} {vs:List V} {v u:V} {k:Code} {Kk:KT} {ρ:Loc} {j p q:Nat} {da:Int→DA} {all:List Int} {D:Int→DS}
theorem w_app (S:St H fx da all D) (e:fx l=some (.list vs)) (hl:vs.length < 100000) (ej:ρ.at j=some (.ref l)) (ep:ρ.at p=some v) (h:∀ H',St H' (fx.set l (.list (vs++[v]))) da all D→w c n k [] ρ H' Kk):w c n (.ld j<|.gm "append"<|.ld p<|.cm 1<|.pop<|k) [] ρ H Kk:=
 w_ld ej ⟨_,_,getAppend (S.sub _ _ e),w_ld ep (CallV.append (S.sub _ _ e) hl ⟨rfl,h _ (S.put e)⟩)⟩
theorem w_appT (S:St H fx da all D) (e:fx l=some (.list vs)) (hl:vs.length < 100000) (ep:ρ.at p=some v) (eq:ρ.at q=some u) (h:∀ t H',fx t=none→St H' ((fx.set t (.tup [v,u])).set l (.list (vs++[.ref t]))) da all D→w c n k [] ρ H' Kk):w c n (.gm "append"<|.ld p<|.ld q<|.tup 2<|.cm 1<|.pop<|k) [.ref l] ρ H Kk:=
 ⟨_,_,getAppend (S.sub _ _ e),w_ld ep (w_ld eq fun t ht=>by
  have hf:=S.sub.none ht
  have S1:=S.new (o:=.tup [v,u]) ht
  have e1:(fx.set t (.tup [v,u])) l=some (.list vs):=AH.set_new e hf
  exact CallV.append (S1.sub _ _ e1) hl ⟨rfl,h t _ hf (S1.put e1)⟩)⟩
end
noncomputable def byT (ns:List Int) (m i j:Nat) (x:Int):List Nat:=byK ns m i x++if x∈(chOf ns m i).take j then [i] else []
section
variable {c:Cx} {P:Params} {n:Nat} {H fx fb:AH} {sa na rl cl pr vd dr rr rw ca:Addr} {ns:List Int} {m i:Nat} {o3 o4 o5:Option V} {k:Code} {Kk:KT} {t:List (Option V)} {da:Int→DA} {D:Int→DS} {vl:Int→Addr} {rA nA:Nat→Addr}
theorem s_note (S:St H fx da (iota m) D) (W:Two (MR rl cl pr vl m) fb fx) (N:MRne rl cl pr vl m) (R:Ru fb fx ns m rl cl pr vl rA nA (i + 1) (List.range i) (List.range i) (List.range i) (byK ns m i)) (er:rA i=rr) (en:nA i=ca) (hw:RowAt fb rw (conOf ns m i).2) (eb:fb vd=some (.dict (vI (iota m) vl) none)) (h0:0 < m) (hm:m≤4) (i4:i≤4)
  (h:∀ o4 fb' fx' H',Sub fb fb'→St H' fx' da (iota m) D→Two (MR rl cl pr vl m) fb' fx'→Ru fb' fx' ns m rl cl pr vl rA nA (i + 1) (List.range (i + 1)) (List.range (i + 1)) (List.range (i + 1)) (byK ns m (i + 1))→w c n .done [] (lo sa na m o3 o4 o5 (some (.ref dr)::some (.ref vd)::some (.ref rl)::some (.ref cl)::some (.ref pr)::some (.int i)::some (.ref ca)::some (.ref rr)::some (.ref rw)::t)) H' Kk) :
  w c n kB3 []
   (lo sa na m o3 o4 o5 (some (.ref dr)::some (.ref vd)::some (.ref rl)::some (.ref cl)::some (.ref pr)::some (.int i)::some (.ref ca)::some (.ref rr)::some (.ref rw)::t)) H Kk:=by
 subst er en
 have i5:i < 100000:=Nat.lt_of_le_of_lt i4 (by decide)
 have ch:=ch_facts (ns:=ns) (i:=i) h0 hm
 refine w_app S R.lr (by rw [List.length_map,List.length_range]; exact i5) rfl rfl fun H1 S1=>?_
 have R1:=R.r N (k:=i)
 have W1:=W.put (vs:=((List.range i).map fun k=>V.ref (rA k))++[.ref (rA i)]) (.inl rfl:MR rl cl pr vl m rl)
 obtain ⟨vc,ec,lc⟩:=CL2.len' R1.lc
 refine w_appT S1 ec (by rw [lc,List.length_range]; exact i5) rfl rfl fun t1 H2 ht1 S2=>?_
 have G2:=W1.grow (o:=.tup [.ref (rA i),.ref (nA i)]) ht1
 have R2:=(R1.grow G2).c N (k:=i) (vs:=vc) ((G2.m _ (.inr (.inl rfl))).trans ec) AH.set_self
 have W2:=G2.two.put (vs:=vc++[.ref t1]) (.inr (.inl rfl):MR rl cl pr vl m cl)
 obtain ⟨vp,ep,ap⟩:=R2.lp
 refine w_appT S2 ep (by rw [ap.length,List.length_map,List.length_range]; exact i5) rfl rfl fun t2 H3 ht2 S3=>?_
 have G3:=W2.grow (o:=.tup [.ref (nA i),.ref rw]) ht2
 have s3:=G2.sub.trans G3.sub
 have R3:=(R2.grow G3).p N (k:=i) (t:=t2) (vs:=vp) ((G3.m _ (.inr (.inr (.inl rfl)))).trans ep) ⟨t2,_,rw,rfl,AH.set_self,s3 _ _ (R.con i (Nat.lt_succ_self i)).lst,hw.sub s3⟩
 have W3:=G3.two.put (vs:=vp++[.ref t2]) (.inr (.inr (.inl rfl)):MR rl cl pr vl m pr)
 have el:=S3.sub _ _ (W3.sub _ _ (s3 _ _ (R.con i (Nat.lt_succ_self i)).lst))
 generalize ((((fx.set rl (.list (((List.range i).map fun k=>V.ref (rA k))++[.ref (rA i)]))).set t1 (.tup [.ref (rA i),.ref (nA i)])).set cl (.list (vc++[.ref t1]))).set t2 (.tup [.ref (nA i),.ref rw])).set pr (.list (vp++[.ref t2]))=fx3 at *
 generalize (fb.set t1 (.tup [.ref (rA i),.ref (nA i)])).set t2 (.tup [.ref (nA i),.ref rw])=fb3 at *
 have eb3:=s3 _ _ eb
 have el3:=s3 _ _ (R.con i (Nat.lt_succ_self i)).lst
 clear R W R1 W1 R2 W2 S1 S2 G2 G3 S ht1 ht2 eb hw
 refine w_loop (fun u=>lo sa na m o3 u o5 (some (.ref dr)::some (.ref vd)::some (.ref rl)::some (.ref cl)::some (.ref pr)::some (.int i)::some (.ref (nA i))::some (.ref (rA i))::some (.ref rw)::t)) (fun j _ H'=>∃ fb' fx',Sub fb3 fb'∧St H' fx' da (iota m) D∧Two (MR rl cl pr vl m) fb' fx'∧Ru fb' fx' ns m rl cl pr vl rA nA (i + 1) (List.range i++[i]) (List.range i++[i]) (List.range i++[i]) (byT ns m i j)) o4 (.list el)
  ⟨fb3,fx3,Sub.refl _,S3,W3,by rw [show byT ns m i 0=byK ns m i from funext fun x=>List.append_nil _]; exact R3⟩ (fun j _ H' q=>q.elim fun fb' q=>q.elim fun fx' q=>q.2.1.sub _ _ (q.2.2.1.sub _ _ (q.1 _ _ el3))) (fun j xs u H' K' hj hI hn _=>?_) fun u H' hI=>?_
 ·obtain ⟨fb',fx',s,S',W',R'⟩:=hI
  obtain ⟨x,ex,rfl⟩:=it_iL hj
  have hx:=ch.2.2.2 x (List.mem_of_getElem? ex)
  have hnt:=not_mem_take ch.2.2.1 ex
  refine ItemT.dict (S'.sub _ _ (W'.sub _ _ (s _ _ eb3))) (vAt_vI hx) ?_
  obtain ⟨vv,ev,lv⟩:=CL2.len' (R'.lv x hx)
  have l2:(byT ns m i j x).length≤10:=by
   unfold byT byK
   have:=List.length_filter_le (fun k=>decide (x∈chOf ns m k)) (List.range i)
   rw [List.length_range] at this
   rw [List.length_append]
   exact Nat.add_le_add (Nat.le_trans this i4:_≤4) (by split <;> exact Nat.le_of_ble_eq_true rfl:_≤6)
  refine w_appT S' ev (Nat.lt_of_le_of_lt (lv▸l2) (by decide)) rfl rfl fun t3 H2 ht3 S2=>?_
  have G:=W'.grow (o:=.tup [.ref (rA i),.ref (nA i)]) ht3
  have mx:MR rl cl pr vl m (vl x):=.inr (.inr (.inr ⟨x,hx,rfl⟩))
  refine hn _ (some (.int x)) _ ⟨_,_,s.trans G.sub,S2,G.two.put mx,(R'.grow G).v N hx ((G.m _ mx).trans ev) AH.set_self (ksV':=byT ns m i (j + 1)) ?_ fun y hy=>?_⟩
  ·unfold byT
   rw [take_snoc ex,if_pos (List.mem_append_right _ (List.mem_singleton.mpr rfl)),if_neg hnt,List.append_nil]
  ·unfold byT
   rw [take_snoc ex]
   congr 1
   exact ite_congr (propext ⟨fun w=>(List.mem_append.mp w).elim id fun w=>absurd (List.mem_singleton.mp w) hy,List.mem_append_left _⟩) (fun _=>rfl) fun _=>rfl
 ·obtain ⟨fb',fx',s,S',W',R'⟩:=hI
  rw [it_len,show byT ns m i (chOf ns m i).length=byK ns m (i + 1) from funext fun x=>by unfold byT; rw [List.take_length,byK_succ],← List.range_succ] at R'
  exact h u fb' fx' H' (s3.trans s) S' W' R'
end
end Mine
namespace Mine
open Classical in
noncomputable def lessM (M:Addr→Prop) (fx:AH):AH:=fun a=>if M a then none else fx a
theorem lessM_in {M:Addr→Prop} {fx:AH} {a:Addr} (h:M a):lessM M fx a=none:=if_pos h
theorem lessM_out {M:Addr→Prop} {fx:AH} {a:Addr} (h:¬ M a):lessM M fx a=fx a:=if_neg h
theorem lessM_sub {M:Addr→Prop} {fx:AH}:Sub (lessM M fx) fx:=fun a o e=>by
 by_cases h:M a
 ·rw [lessM_in h] at e; cases e
 ·rw [lessM_out h] at e; exact e
section
variable {c:Cx} {P:Params} {n:Nat} {H H0 fx:AH} {sa na vd dr:Addr} {ns:List Int} {m:Nat} {o3 o5:Option V} {k:Code} {Kk:KT} {t:List (Option V)} {da:Int→DA} {D:Int→DS} {vl:Int→Addr}
structure Mk (H0 fb fx:AH) (ns:List Int) (m K:Nat) (dr vd rl cl pr:Addr) (da:Int→DA) (vl:Int→Addr) (rA nA:Nat→Addr):Prop where
 s0:Sub H0 fb
 ed:fb dr=some (.dict (dI (iota m) da) none)
 eb:fb vd=some (.dict (vI (iota m) vl) none)
 two:Two (MR rl cl pr vl m) fb fx
 ne:MRne rl cl pr vl m
 ru:Ru fb fx ns m rl cl pr vl rA nA K (List.range K) (List.range K) (List.range K) (byK ns m K)
theorem s_rules (T:TopL c P) {o4 o8 o9 o10 o11 o12 o13 o14:Option V} (Z:Dm H0 fx dr vd (iota m) da vl) (S:St H fx da (iota m) D) (eN:H0 na=some (.list (iL ns))) (h0:0 < m) (hm:m≤4)
  (h:∀ K rl cl pr fb fx rA nA o4 o11 o12 o13 o14 H',1≤K→K≤4→Mk H0 fb fx ns m K dr vd rl cl pr da vl rA nA→St H' fx da (iota m) D→w c (n + 3) kC1 [] (lo sa na m o3 o4 o5 (some (.ref dr)::some (.ref vd)::some (.ref rl)::some (.ref cl)::some (.ref pr)::o11::o12::o13::o14::t)) H' Kk) :
  w c (n + 3) kA4 []
   (lo sa na m o3 o4 o5 (some (.ref dr)::some (.ref vd)::o8::o9::o10::o11::o12::o13::o14::t)) H Kk:=by
 have TK:=T.toTopK
 intro rl hrl cl hcl pr hpr
 have S1:=S.new (o:=.list []) hrl
 have S2:=S1.new (o:=.list []) hcl
 have S3:=S2.new (o:=.list []) hpr
 have f1:=S.sub.none hrl
 have f2:=S1.sub.none hcl
 have f3:=S2.sub.none hpr
 have lvx:∀ x∈iota m,fx (vl x)=some (.list []):=Z.lv
 have a3:((fx.set rl (.list [])).set cl (.list [])) rl=some (.list []):=AH.set_new AH.set_self f2
 have e2:cl≠rl:=fun q=>by rw [q,AH.set_self] at f2; cases f2
 have e3:pr≠rl:=fun q=>by rw [q,a3] at f3; cases f3
 have e4:pr≠cl:=fun q=>by rw [q,AH.set_self] at f3; cases f3
 have n1:∀ x∈iota m,vl x≠rl:=fun x hx q=>no_some f1 (q▸lvx x hx)
 have l1:∀ x∈iota m,(fx.set rl (.list [])) (vl x)=some (.list []):=fun x hx=>(AH.set_ne (n1 x hx)).trans (lvx x hx)
 have n2:∀ x∈iota m,vl x≠cl:=fun x hx q=>no_some f2 (q▸l1 x hx)
 have l2:∀ x∈iota m,((fx.set rl (.list [])).set cl (.list [])) (vl x)=some (.list []):=fun x hx=>(AH.set_ne (n2 x hx)).trans (l1 x hx)
 have n3:∀ x∈iota m,vl x≠pr:=fun x hx q=>no_some f3 (q▸l2 x hx)
 have l3:∀ x∈iota m,(((fx.set rl (.list [])).set cl (.list [])).set pr (.list [])) (vl x)=some (.list []):=fun x hx=>(AH.set_ne (n3 x hx)).trans (l2 x hx)
 have l3':(((fx.set rl (.list [])).set cl (.list [])).set pr (.list [])) rl=some (.list []):=AH.set_new a3 f3
 have l3'':(((fx.set rl (.list [])).set cl (.list [])).set pr (.list [])) cl=some (.list []):=AH.set_new AH.set_self f3
 have N:MRne rl cl pr vl m:=⟨Ne.symm e2,Ne.symm e3,Ne.symm e4,fun x hx=>⟨n1 x hx,n2 x hx,n3 x hx⟩,Z.inj⟩
 have s3:Sub fx (((fx.set rl (.list [])).set cl (.list [])).set pr (.list [])):=((Sub.new f1).trans (Sub.new f2)).trans (Sub.new f3)
 have out:∀ {a o},fx a=some o→(∀ x∈iota m,a≠vl x)→lessM (MR rl cl pr vl m) fx a=some o:=fun {a o} e ha=>by
  rw [lessM_out]; exact e
  rintro (q | q | q | ⟨x,hx,q⟩)
  ·exact no_some f1 (q▸e)
  ·exact no_some ((Sub.new f1).none f2) (q▸e)
  ·exact no_some (((Sub.new f1).trans (Sub.new f2)).none f3) (q▸e)
  ·exact ha x hx q
 have nd:∀ {a es},fx a=some (.dict es none)→∀ x∈iota m,a≠vl x:=fun e x hx q=>by rw [q,lvx x hx] at e; cases e
 have s0:Sub H0 (lessM (MR rl cl pr vl m) fx):=fun a o e=>out (Z.sub _ _ e) fun x hx q=>no_some (Z.fv x hx) (q▸e)
 have M0:Mk H0 (lessM (MR rl cl pr vl m) fx) (((fx.set rl (.list [])).set cl (.list [])).set pr (.list [])) ns m 0 dr vd rl cl pr da vl (fun _=>0) (fun _=>0):=by
  refine ⟨s0,out Z.ed (nd Z.ed),out Z.eb (nd Z.eb),⟨lessM_sub.trans s3,fun a ha=>lessM_in ha,fun a ha=>?_⟩,N,⟨fun k hk=>absurd hk (Nat.not_lt_zero _),fun k hk=>absurd hk (Nat.not_lt_zero _),l3',.nil l3'',⟨_,AH.set_self,trivial⟩,fun x hx=>.nil (l3 x hx)⟩⟩
  rcases ha with rfl | rfl | rfl | ⟨x,hx,rfl⟩
  ·exact ⟨_,l3'⟩
  ·exact ⟨_,l3''⟩
  ·exact ⟨_,AH.set_self⟩
  ·exact ⟨_,l3 x hx⟩
 clear nd out s0 l3' l3'' s3 l3 n3 l2 n2 l1 n1 e4 e3 e2 a3 lvx f3 f2 f1 S1 S2 N
 generalize (((fx.set rl (.list [])).set cl (.list [])).set pr (.list []))=fx3 at *
 generalize (((H.set rl (.list [])).set cl (.list [])).set pr (.list []))=H3 at *
 generalize lessM (MR rl cl pr vl m) fx=fb0 at *
 have eN':=S3.sub _ _ (M0.two.sub _ _ (M0.s0 _ _ eN))
 refine (law_at TK (i:=5) eN' ?_).call (kp440 TK)
 refine ⟨by decide,?_⟩
 obtain ⟨K,e,K1,K4⟩:∃ K:Nat,1 + ns.getD 5 0 % 4=(K:Int)∧1≤K∧K≤4:=by
  obtain ⟨k,e,hk⟩:=mod4 (ns.getD 5 0)
  exact ⟨1 + k,by rw [e]; rfl,Nat.le_add_right ..,Nat.add_le_add_left (Nat.le_of_lt_succ hk) 1⟩
 show w c (n + 3) (.loop .range 1 _ _ _) [.int (1 + ns.getD 5 0 % 4)] _ _ _
 rw [e]
 refine w_loop (fun (u:Option V × Option V × Option V × Option V × Option V)=>lo sa na m o3 u.1 o5 (some (.ref dr)::some (.ref vd)::some (.ref rl)::some (.ref cl)::some (.ref pr)::u.2.1::u.2.2.1::u.2.2.2.1::u.2.2.2.2::t)) (fun i _ H'=>∃ fb fx rA nA,Mk H0 fb fx ns m i dr vd rl cl pr da vl rA nA∧St H' fx da (iota m) D) (o4,o11,o12,o13,o14) (.rng (Nat.le_trans K4 (by decide))) ⟨_,_,_,_,M0,S3⟩ (fun _ _ _ _=>trivial) (fun i xs u H' K' hi hI hn _=>?_) fun u H' hI=>?_
 ·obtain ⟨fb,fx,rA,nA,X,S'⟩:=hI
  obtain ⟨rfl,hi2⟩:=range_at hi
  refine s_pick TK (m:=m) (i:=i) S' X.two (X.s0 _ _ eN) h0 hm fun ca fb1 fx1 H1 G1 S1 ec=>?_
  refine s_rule T S1 G1.two (G1.sub _ _ (X.s0 _ _ eN)) h0 hm ec fun rr rw fb2 fx2 H2 G2 S2 fr hw hr=>?_
  have G:=G1.trans G2
  have R1:=X.ru.grow G1
  have R:=(X.ru.grow G).con1 (rr:=rr) (ca:=ca) ⟨hr,G2.sub _ _ ec⟩ fun k hk q=>by
   obtain ⟨C,d,hc⟩:=(R1.con k hk).ref
   rw [q] at hc
   exact no_some fr hc.e
  refine s_note S2 G.two X.ne R (if_pos rfl) (if_pos rfl) hw (G.sub _ _ X.eb) h0 hm (Nat.le_trans (Nat.le_of_lt hi2) K4) fun o4 fb3 fx3 H3 s3 S3 W3 R3=>?_
  exact hn _ (o4,some (.int i),some (.ref ca),some (.ref rr),some (.ref rw)) _ ⟨fb3,fx3,_,_,⟨(X.s0.trans G.sub).trans s3,s3 _ _ (G.sub _ _ X.ed),s3 _ _ (G.sub _ _ X.eb),W3,X.ne,R3⟩,S3⟩
 ·obtain ⟨fb,fx,rA,nA,X,S'⟩:=hI
  rw [List.length_map,List.length_range] at X
  exact h K rl cl pr fb fx rA nA u.1 u.2.1 u.2.2.1 u.2.2.2.1 u.2.2.2.2 H' K1 K4 X S'
end
end Mine
namespace Mine
theorem cut_iL {lo hi:Option Int} {l:List Int}:cut lo hi (iL l)=iL (cut lo hi l):=by
 show ((iL l).take (clipHi hi (iL l).length)).drop (clipLo lo (iL l).length)=_
 rw [List.length_map,show iL (cut lo hi l)=(cut lo hi l).map V.int from rfl,List.map_drop,List.map_take]
structure Ad where
 sa:Addr
 na:Addr
 fr:Addr
 dr:Addr
 vd:Addr
 rl:Addr
 cl:Addr
 pr:Addr
 m:Nat
 o3:Option V
noncomputable abbrev lq (A:Ad) (o4 o11 o12 o13 o14:Option V) (t:List (Option V)):Loc:=lo A.sa A.na A.m A.o3 o4 (some (.ref A.fr)) (some (.ref A.dr)::some (.ref A.vd)::some (.ref A.rl)::some (.ref A.cl)::some (.ref A.pr)::o11::o12::o13::o14::t)
section
variable {c:Cx} {P:Params} {n:Nat} {H fb fx:AH} {M:Addr→Prop} {A:Ad} {ns:List Int} {o4 o11 o12 o13 o14 o15:Option V} {k:Code} {Kk:KT} {t:List (Option V)} {da:Int→DA} {D:Int→DS}
theorem s_moves {vs:List V} (S:St H fx da (iota A.m) D) (W:Two M fb fx) (eN:fb A.na=some (.list (iL ns))) (hl:ns.length≤32) (er:fb A.rl=some (.list vs))
  (h:∀ mv lm fb' fx' H',Grow M fb fx fb' fx'→St H' fx' da (iota A.m) D→mv.length≤14→fb' lm=some (.list (iL mv))→w c n kC2 [] (lq A o4 o11 o12 o13 o14 (some (.ref lm)::t)) H' Kk) :
  w c n kC1 [] (lq A o4 o11 o12 o13 o14 (o15::t)) H Kk:=by
 have sb:=W.sub.trans S.sub
 refine CallV.len (sb _ _ er) (BinT.mulL2 (by decide) ?_)
 refine SliceT.list (a:=some (6 + 3 * (vs.length:Int))) (b:=none) (sb _ _ eN) rfl rfl fun D1 h1=>?_
 rw [cut_iL]
 have hc:(cut (some (6 + 3 * (vs.length:Int))) none ns).length≤32:=cut_le hl
 have S1:=S.new' (o:=.list (iL (cut (some (6 + 3 * (vs.length:Int))) none ns))) h1
 generalize cut (some (6 + 3 * (vs.length:Int))) none ns=mv at *
 intro D2 h2
 have S2:=S1.new' (o:=.list [V.int 0,V.int 20,V.int 2,V.int 3,V.int 36,V.int 1,V.int 0]) h2
 refine BinT.addL (AH.set_new AH.set_self h2) AH.set_self (by rw [List.length_map]; exact Nat.le_trans (Nat.add_le_add_right hc 7) (by decide)) fun D3 h3=>?_
 have e:iL mv++[V.int 0,V.int 20,V.int 2,V.int 3,V.int 36,V.int 1,V.int 0]=iL (mv++[0,20,2,3,36,1,0]):=(iL_append mv [0,20,2,3,36,1,0]).symm
 rw [e]
 have S3:=S2.new' (o:=.list (iL (mv++[0,20,2,3,36,1,0]))) h3
 refine SliceT.list (a:=none) (b:=some ((14:Nat):Int)) AH.set_self rfl rfl fun D4 h4=>?_
 rw [cut_take,show (iL (mv++[0,20,2,3,36,1,0])).take 14=iL ((mv++[0,20,2,3,36,1,0]).take 14) from (List.map_take ..).symm]
 exact h _ _ _ _ _ (W.grow (S3.sub.none h4)) (S3.new h4) (List.length_take_le ..) AH.set_self
end
noncomputable abbrev plOf (ns:List Int) (m K:Nat):List (List Int × Row):=(List.range K).map (conOf ns m)
noncomputable abbrev fstLs (ns:List Int) (m most:Nat):List (List Int):=(iota m).map (fstOf ns most)
theorem con_ok1 {ns:List Int} {m i:Nat} (h0:0 < m) (hm:m≤4):PlOk m (conOf ns m i)∧(conOf ns m i).1.Nodup∧FOk (conOf ns m i).1 (conOf ns m i).2.fo:=by
 obtain ⟨c1,c4,nd,sub⟩:=ch_facts (ns:=ns) (i:=i) h0 hm
 refine ⟨⟨(fun q=>by rw [show chOf ns m i=[] from q] at c1; cases c1),c4,sub,(kind_b _).1,(kind_b _).2,fun fs e=>?_⟩,nd,facO_ok rfl⟩
 have F:FOk (chOf ns m i) (facO (chOf ns m i).length (ns.getD (8 + 3 * i) 0)):=facO_ok rfl
 refine ⟨F.len fs e,fun f hf=>?_⟩
 have e:facO (chOf ns m i).length (ns.getD (8 + 3 * i) 0)=some fs:=e
 unfold facO at e
 split at e
 ·cases e
 ·cases e
  obtain ⟨j,_,rfl⟩:=List.mem_map.mp hf
  exact fac_b _
theorem pl_ok {ns:List Int} {m K:Nat} (h0:0 < m) (hm:m≤4):∀ q∈plOf ns m K,PlOk m q∧q.1.Nodup∧FOk q.1 q.2.fo:=fun q hq=>by
 obtain ⟨i,_,rfl⟩:=List.mem_map.mp hq
 exact con_ok1 h0 hm
theorem ls_ok {ns:List Int} {m most:Nat} (hm:m≤4):LsOk (fstLs ns m most):=⟨by rw [List.length_map,iota_len]; exact hm,fun l hl=>by obtain ⟨x,_,rfl⟩:=List.mem_map.mp hl; exact fstL_le3 ..,fun l hl=>by obtain ⟨x,_,rfl⟩:=List.mem_map.mp hl; exact fstL_b _ _⟩
section
variable {c:Cx} {P:Params} {n:Nat} {H fb fx:AH} {M:Addr→Prop} {A:Ad} {ns:List Int} {o4 o11 o12 o13 o14 o15 o16:Option V} {k:Code} {Kk:KT} {t:List (Option V)} {da:Int→DA} {D:Int→DS} {ps:List V}
theorem s_fits (T:TopK c P) {K most:Nat} (S:St H fx da (iota A.m) D) (W:Two M fb fx) (h0:0 < A.m) (hm:A.m≤4) (hf:ShownAt fb A.fr (fstLs ns A.m most)) (ep:fb A.pr=some (.list ps)) (ap:All2 (PlainAt fb) ps (plOf ns A.m K))
  (h:∀ R fb' fx' H',Grow M fb fx fb' fx'→TupsAt fb' R (allL (fstLs ns A.m most) (plOf ns A.m K))→St H' fx' da (iota A.m) D→w c (n + 2) kC3 [] (lq A o4 o11 o12 o13 o14 (o15::some (.ref R)::t)) H' Kk) :
  w c (n + 2) kC2 [] (lq A o4 o11 o12 o13 o14 (o15::o16::t)) H Kk:=
 (S.call2 W (Q0:=fun v fb'=>∃ R,v=.ref R∧Sub fb fb'∧TupsAt fb' R (allL (fstLs ns A.m most) (plOf ns A.m K))) (law_all T (ls_ok hm) hf ep ap (fun q hq=>by rw [List.length_map,iota_len]; exact (pl_ok h0 hm q hq).1) fun R H' s t=>⟨R,rfl,s,t⟩) fun v fb' fx' H' q W' hM S'=>q.elim fun R q=>by
  obtain ⟨rfl,s,t⟩:=q
  exact h R fb' fx' H' ⟨s,W',hM⟩ t S').call (kp472 T)
end
structure Pf (fb:AH) (A:Ad) (ns:List Int) (K most:Nat) (da:Int→DA) (vl:Int→Addr) (rA nA:Nat→Addr):Prop where
 na:fb A.na=some (.list (iL ns))
 sh:ShownAt fb A.fr (fstLs ns A.m most)
 ed:fb A.dr=some (.dict (dI (iota A.m) da) none)
 eb:fb A.vd=some (.dict (vI (iota A.m) vl) none)
 con:∀ k,k < K→RuAt fb ns A.m k (rA k) (nA k)
 inj:∀ j,j < K→∀ k,k < K→rA j=rA k→j=k
 lr:fb A.rl=some (.list ((List.range K).map fun k=>V.ref (rA k)))
 lp:∃ ps,fb A.pr=some (.list ps)∧All2 (PlainAt fb) ps (plOf ns A.m K)
 ne:MRne A.rl A.cl A.pr vl A.m
noncomputable def MQ (cl:Addr) (vl:Int→Addr) (m:Nat) (a:Addr):Prop:=a=cl∨∃ x∈iota m,a=vl x
structure Ls (fb fx:AH) (A:Ad) (vl:Int→Addr) (rA nA:Nat→Addr) (kc:List Nat) (ksV:Int→List Nat):Prop where
 c:CLs fb fx rA nA A.cl kc
 v:∀ x∈iota A.m,CLs fb fx rA nA (vl x) (ksV x)
section
variable {H0 fb fx fb' fx':AH} {A:Ad} {ns:List Int} {K most:Nat} {da:Int→DA} {vl:Int→Addr} {rA nA:Nat→Addr} {kc:List Nat} {ksV:Int→List Nat}
theorem Pf.sub (F:Pf fb A ns K most da vl rA nA) (s:Sub fb fb'):Pf fb' A ns K most da vl rA nA:=
 ⟨s _ _ F.na,F.sh.sub s,s _ _ F.ed,s _ _ F.eb,fun k hk=>(F.con k hk).sub s,F.inj,s _ _ F.lr,F.lp.imp fun ps q=>⟨s _ _ q.1,q.2.mono fun v b h=>h.sub s⟩,F.ne⟩
theorem Ls.grow (L:Ls fb fx A vl rA nA kc ksV) (G:Grow (MQ A.cl vl A.m) fb fx fb' fx'):Ls fb' fx' A vl rA nA kc ksV:=⟨L.c.grow G (.inl rfl),fun x hx=>(L.v x hx).grow G (.inr ⟨x,hx,rfl⟩)⟩
theorem Mk.split (X:Mk H0 fb fx ns A.m K A.dr A.vd A.rl A.cl A.pr da vl rA nA) (na:H0 A.na=some (.list (iL ns))) (sh:ShownAt H0 A.fr (fstLs ns A.m most)) :
  ∃ fb',Two (MQ A.cl vl A.m) fb' fx∧Pf fb' A ns K most da vl rA nA∧Ls fb' fx A vl rA nA (List.range K) (byK ns A.m K):=by
 have s:Sub fb (lessM (MQ A.cl vl A.m) fx):=fun a o e=>by
  rw [lessM_out]; exact X.two.sub _ _ e
  exact fun q=>no_some (X.two.off a (q.elim (fun q=>.inr (.inl q)) fun q=>.inr (.inr (.inr q)))) e
 have out:∀ {a o},fx a=some o→a≠A.cl→(∀ x∈iota A.m,vl x≠a)→lessM (MQ A.cl vl A.m) fx a=some o:=fun {a o} e h1 h2=>by
  rw [lessM_out]; exact e
  rintro (q | ⟨x,hx,q⟩)
  ·exact h1 q
  ·exact h2 x hx q.symm
 refine ⟨_,⟨lessM_sub,fun a h=>lessM_in h,fun a h=>X.two.lst a (h.elim (fun q=>.inr (.inl q)) fun q=>.inr (.inr (.inr q)))⟩,⟨s _ _ (X.s0 _ _ na),sh.sub (X.s0.trans s),s _ _ X.ed,s _ _ X.eb,fun k hk=>(X.ru.con k hk).sub s,X.ru.inj,out X.ru.lr X.ne.rc fun x hx=>(X.ne.v x hx).1,X.ru.lp.imp fun ps q=>⟨out q.1 (Ne.symm X.ne.cp) fun x hx=>(X.ne.v x hx).2.2,q.2.mono fun v b h=>h.sub s⟩,X.ne⟩,?_,fun x hx=>?_⟩
 ·exact X.ru.lc.imp fun ts q=>⟨q.e,q.len,fun j a k h1 h2=>s _ _ (q.at_ j a k h1 h2)⟩
 ·exact (X.ru.lv x hx).imp fun ts q=>⟨q.e,q.len,fun j a k h1 h2=>s _ _ (q.at_ j a k h1 h2)⟩
end
end Mine
namespace Mine
noncomputable def lf (rm:Nat→Bool) (j:Nat) (ks:List Nat):List Nat:=ks.filter fun k=>!(decide (k < j) && rm k)
section
variable {rm:Nat→Bool} {j K:Nat} {ks:List Nat}
theorem lf_zero:lf rm 0 ks=ks:=List.filter_eq_self.mpr fun k _=>by rw [decide_eq_false (Nat.not_lt_zero k)]; rfl
theorem lf_no (h:rm j=false):lf rm (j + 1) ks=lf rm j ks:=List.filter_congr fun k _=>by
 by_cases q:k=j
 ·rw [q,h,Bool.and_false,Bool.and_false]
 ·rw [show decide (k < j + 1)=decide (k < j) from decide_eq_decide.mpr ⟨fun w=>Nat.lt_of_le_of_ne (Nat.le_of_lt_succ w) q,Nat.lt_succ_of_lt⟩]
theorem lf_off (h:j∉ks):lf rm (j + 1) ks=lf rm j ks:=List.filter_congr fun k hk=>by
 rw [show decide (k < j + 1)=decide (k < j) from decide_eq_decide.mpr ⟨fun w=>Nat.lt_of_le_of_ne (Nat.le_of_lt_succ w) fun q=>h (q▸hk),Nat.lt_succ_of_lt⟩]
theorem lf_yes (nd:ks.Nodup) (h:rm j=true):(lf rm j ks).erase j=lf rm (j + 1) ks:=by
 unfold lf
 rw [List.Nodup.erase_eq_filter (List.Pairwise.filter _ nd) j,List.filter_filter]
 refine List.filter_congr fun k _=>?_
 by_cases q:k=j
 ·rw [q,h,decide_eq_true (Nat.lt_succ_self j),bne_self_eq_false]; rfl
 ·rw [show decide (k < j + 1)=decide (k < j) from decide_eq_decide.mpr ⟨fun w=>Nat.lt_of_le_of_ne (Nat.le_of_lt_succ w) q,Nat.lt_succ_of_lt⟩,bne_iff_ne.mpr q,Bool.true_and]
theorem lf_all (h:∀ k∈ks,k < K):lf rm K ks=ks.filter fun k=>!rm k:=List.filter_congr fun k hk=>by rw [decide_eq_true (h k hk),Bool.true_and]
theorem lf_mem (h:j∈ks):j∈lf rm j ks:=List.mem_filter.mpr ⟨h,by rw [decide_eq_false (Nat.lt_irrefl j)]; rfl⟩
theorem lf_sub {k:Nat} (h:k∈lf rm j ks):k∈ks:=(List.mem_filter.mp h).1
end
noncomputable abbrev rmN (ns:List Int) (m k:Nat):Bool:=rmOf (conOf ns m k)
theorem byK_nd {ns:List Int} {m K:Nat} {x:Int}:(byK ns m K x).Nodup:=List.nodup_range.filter _
theorem byK_lt {ns:List Int} {m K k:Nat} {x:Int} (h:k∈byK ns m K x):k < K:=List.mem_range.mp (List.mem_filter.mp h).1
theorem dom0_F {fst:Int→List Int}:dom0 fst=domF fst fun _ _=>true:=funext fun x=>congrArg (fun l=>DS.mk l _ _) (List.filter_eq_self.mpr fun _ _=>rfl).symm
structure Pd (fx:AH) (A:Ad) (ns:List Int) (K most:Nat) (vl:Int→Addr) (rA nA:Nat→Addr) (j:Nat) (f:Int→Int→Bool):Prop where
 pr:Prep A.m (fstOf ns most) (plOf ns A.m K) (plOf ns A.m j) rmOf f
 c:CLat fx rA nA A.cl (lf (rmN ns A.m) j (List.range K))
 v:∀ x∈iota A.m,CLat fx rA nA (vl x) (lf (rmN ns A.m) j (byK ns A.m K x))
section
variable {c:Cx} {P:Params} {n K most:Nat} {H fb fx fx':AH} {A:Ad} {ns:List Int} {o4 o11 o12 o13 o14:Option V} {k:Code} {Kk:KT} {t:List (Option V)} {da:Int→DA} {vl:Int→Addr} {rA nA:Nat→Addr} {p f:Int→Int→Bool}
theorem Pd.step {j:Nat} {rem:Bool} (h0:0 < A.m) (hm:A.m≤4) (Y:Pd fx A ns K most vl rA nA j f) (hj:j < K) (O:PreOk (conOf ns A.m j).2 (conOf ns A.m j).1 (domF (fstOf ns most) f) p rem)
  (M:PreD fx fx' (iota A.m) (if rem=true then chOf ns A.m j else []) rA nA (if rem=true then (lf (rmN ns A.m) j (List.range K)).erase j else lf (rmN ns A.m) j (List.range K)) (fun x=>lf (rmN ns A.m) j (byK ns A.m K x)) vl j A.cl) :
  Pd fx' A ns K most vl rA nA (j + 1) (andP f (chOf ns A.m j) p):=by
 obtain ⟨er,pr⟩:=Y.pr.step (List.mem_map.mpr ⟨j,List.mem_range.mpr hj,rfl⟩) (con_ok1 h0 hm).1.sub O
 have e:plOf ns A.m (j + 1)=plOf ns A.m j++[conOf ns A.m j]:=by show (List.range (j + 1)).map _=_; rw [List.range_succ,List.map_append]; rfl
 have lc:=M.lc
 have lv:=M.lvl
 have er:rem=rmN ns A.m j:=er
 refine ⟨e▸pr,?_,fun x hx=>?_⟩
 ·cases hr:rem with
  | true=>rw [if_pos hr,lf_yes List.nodup_range (er.symm.trans hr)] at lc; exact lc
  | false=>rw [if_neg (by rw [hr]; decide)] at lc; rw [lf_no (er.symm.trans hr)]; exact lc
 ·have lv:=lv x hx
  cases hr:rem with
  | true=>
   rw [if_pos hr] at lv
   by_cases w:x∈chOf ns A.m j
   ·rw [if_pos w,lf_yes byK_nd (er.symm.trans hr)] at lv; exact lv
   ·rw [if_neg w] at lv; rw [lf_off (j:=j) (ks:=byK ns A.m K x) fun q=>w (of_decide_eq_true (List.mem_filter.mp q).2)]; exact lv
  | false=>
   have e0:(if rem=true then chOf ns A.m j else [])=[]:=by rw [hr]; rfl
   rw [e0,if_neg List.not_mem_nil] at lv
   rw [lf_no (er.symm.trans hr)]; exact lv
theorem s_pre (T:TopL c P) (S:St H fx da (iota A.m) (dom0 (fstOf ns most))) (W:Two (MQ A.cl vl A.m) fb fx) (F:Pf fb A ns K most da vl rA nA) (L:Ls fb fx A vl rA nA (List.range K) (byK ns A.m K)) (h0:0 < A.m) (hm:A.m≤4)
  (h:∀ f fx' o12 o13 H',Sub fb fx'→Pd fx' A ns K most vl rA nA K f→St H' fx' da (iota A.m) (domF (fstOf ns most) f)→w c (n + 8) kC4 [] (lq A o4 o11 o12 o13 o14 t) H' Kk) :
  w c (n + 8) kC3 [] (lq A o4 o11 o12 o13 o14 t) H Kk:=by
 obtain ⟨ts,Lc⟩:=L.c
 refine SliceT.copy (S.sub _ _ Lc.e) fun L0 hL0=>?_
 have hf:=S.sub.none hL0
 have hb:=W.sub.none hf
 have S1:=S.new (o:=.list (ts.map V.ref)) hL0
 have W1:=W.new (o:=.list (ts.map V.ref)) hf
 have sb:Sub fb (fb.set L0 (.list (ts.map V.ref))):=Sub.new hb
 have L1:=L.grow (W.grow (o:=.list (ts.map V.ref)) hf)
 rw [dom0_F] at S1
 refine w_loop (fun (u:Option V × Option V)=>lq A o4 o11 u.1 u.2 o14 t) (fun j _ H'=>∃ f fx',Sub (fb.set L0 (.list (ts.map V.ref))) fx'∧Pd fx' A ns K most vl rA nA j f∧St H' fx' da (iota A.m) (domF (fstOf ns most) f)) (o12,o13) (.list AH.set_self)
  ⟨_,_,W1.sub,⟨Prep.start,by rw [lf_zero]; exact L1.c.to W1.sub,fun x hx=>by rw [lf_zero]; exact (L1.v x hx).to W1.sub⟩,S1⟩ (fun j _ H' q=>q.elim fun f q=>q.elim fun fx' q=>q.2.2.sub _ _ (q.1 _ _ AH.set_self)) (fun j xs u H' K' hi hI hn _=>?_) fun u H' hI=>?_
 ·obtain ⟨f,fx',s,Y,S'⟩:=hI
  obtain ⟨a,ea,rfl⟩:∃ a,ts[j]?=some a∧xs=[.ref a]:=by
   rw [List.map_map,List.getElem?_map] at hi
   obtain ⟨a,ea,q⟩:=Option.map_eq_some_iff.mp hi
   exact ⟨a,ea,q.symm⟩
  have hj:j < K:=by have:=(List.getElem?_eq_some_iff.mp ea).1; rwa [Lc.len,List.length_range] at this
  have et:=S'.sub _ _ (s _ _ (sb _ _ (Lc.at_ j a j ea (List.getElem?_range hj))))
  refine ⟨_,_,rfl,et,rfl,?_⟩
  have F1:=F.sub sb
  have R:=F1.con j hj
  have ch:=con_ok1 (ns:=ns) (i:=j) h0 hm
  have c1:=(ch_facts (ns:=ns) (i:=j) h0 hm).1
  have kr:∀ {q},q∈lf (rmN ns A.m) j (List.range K)→q < K:=fun hq=>List.mem_range.mp (lf_sub hq)
  have kv:∀ {x q},q∈lf (rmN ns A.m) j (byK ns A.m K x)→q < K:=fun hq=>byK_lt (lf_sub hq)
  have cn:∀ q,q < K→∃ C d,ConAt fx' (rA q) C d:=fun q hq=>(F1.con q hq).ref.imp fun C w=>w.imp fun d w=>⟨s _ _ w.e,w.c⟩
  have hP:Pre fx' (iota A.m) (chOf ns A.m j) rA nA (lf (rmN ns A.m) j (List.range K)) (fun x=>lf (rmN ns A.m) j (byK ns A.m K x)) vl j (nA j) A.cl A.vd:=
   ⟨Y.c,s _ _ F1.eb,Y.v,ch.1.sub,ch.2.1,lf_mem (List.mem_range.mpr hj),fun x hx=>lf_mem (List.mem_filter.mpr ⟨List.mem_range.mpr hj,decide_eq_true hx⟩),fun q hq=>cn q (kr hq),fun x hx q hq=>cn q (kv hq),fun q hq e=>F.inj q (kr hq) j hj e,fun x hx q hq e=>F.inj q (kv hq) j hj e,rfl,F.ne.inj,fun x hx=>Ne.symm (F.ne.v x hx).2.1⟩
  obtain ⟨g,hg,hc⟩:=pre_all (n:=n) (Q:=fun v H'=>v=.none∧∃ p rem fx'',PreOk (conOf ns A.m j).2 (conOf ns A.m j).1 (domF (fstOf ns most) f) p rem∧Sub (fb.set L0 (.list (ts.map V.ref))) fx''∧PreD fx' fx'' (iota A.m) (if rem=true then chOf ns A.m j else []) rA nA (if rem=true then (lf (rmN ns A.m) j (List.range K)).erase j else lf (rmN ns A.m) j (List.range K)) (fun x=>lf (rmN ns A.m) j (byK ns A.m K x)) vl j A.cl∧St H' fx'' da (iota A.m) (fltP (domF (fstOf ns most) f) (chOf ns A.m j) p))
   T S' hP ⟨s,W1.off _ (.inl rfl),fun x hx=>W1.off _ (.inr ⟨x,hx,rfl⟩)⟩ R.lst F1.ed rfl R.rule (kind_b _).1 (kind_b _).2 ch.2.2 ⟨c1,ch.1.l4,fun x _ v hv=>(fstL_b _ _ v (List.mem_filter.mp hv).1).1⟩ (fun x _=>⟨(fstL_nd _ _).filter _,Nat.lt_of_le_of_lt (Nat.le_trans (List.length_filter_le ..) (fstL_le3 _ _)) (by decide)⟩) fun p rem H' fx'' O M S2=>⟨rfl,p,rem,fx'',O,(Fb.pre ⟨s,W1.off _ (.inl rfl),fun x hx=>W1.off _ (.inr ⟨x,hx,rfl⟩)⟩ M).sub,M,S2⟩
  refine ⟨g,true,hg,hc.mono fun v H2 q=>⟨H2,Sub.refl _,?_⟩⟩
  obtain ⟨rfl,p,rem,fx'',O,s2,M,S2⟩:=q
  rw [domF_and] at S2
  exact ⟨rfl,hn [] (some (.ref (nA j)),some (.ref (rA j))) _ ⟨_,fx'',s2,Y.step h0 hm hj O M,S2⟩⟩
 ·obtain ⟨f,fx',s,Y,S'⟩:=hI
  rw [List.length_map,List.length_map,Lc.len,List.length_range] at Y
  exact h f fx' u.1 u.2 H' (sb.trans s) Y S'
end
end Mine
namespace Mine
noncomputable def nI (ks:List Nat):List Int:=ks.map fun (k:Nat)=>(k:Int)
noncomputable def stN (ns:List Int) (m K:Nat):List Nat:=(List.range K).filter fun k=>!rmN ns m k
theorem nI_snoc {ks:List Nat} {k:Nat}:iL (nI (ks++[k]))=iL (nI ks)++[V.int (k:Int)]:=by unfold nI; rw [List.map_append,iL_append]; rfl
theorem filt_snoc {rm:Nat→Bool} {K i:Nat} (hi:i < K):((List.range K).take (i + 1)).filter rm=((List.range K).take i).filter rm++if rm i=true then [i] else []:=by
 rw [take_range_succ hi,List.filter_append,List.filter_cons]; rfl
theorem plain_at {fx:AH} {ps:List V} {ns:List Int} {m K i:Nat} (a:All2 (PlainAt fx) ps (plOf ns m K)) (hi:i < K):∃ b cr rw,ps[i]?=some (.ref b)∧fx b=some (.tup [.ref cr,.ref rw])∧fx cr=some (.list (iL (chOf ns m i)))∧RowAt fx rw (conOf ns m i).2:=by
 obtain ⟨v,ev,b,cr,rw,rfl,h⟩:=a.at (j:=i) (b:=conOf ns m i) (by rw [List.getElem?_map,List.getElem?_range hi]; rfl)
 exact ⟨b,cr,rw,ev,h⟩
section
variable {c:Cx} {P:Params} {n K most:Nat} {H fb fx:AH} {A:Ad} {ns:List Int} {o4 o11 o12 o13 o14 o15 o16 o17:Option V} {k:Code} {Kk:KT} {t:List (Option V)} {da:Int→DA} {D:Int→DS} {vl:Int→Addr} {rA nA:Nat→Addr}
theorem s_stay (S:St H fx da (iota A.m) D) (F:Pf fb A ns K most da vl rA nA) (sb:Sub fb fx) (h0:0 < A.m) (hm:A.m≤4) (K4:K≤4)
  (h:∀ w0 fx' H',Sub fx fx'→St H' fx' da (iota A.m) D→fx' w0=some (.list (iL (nI (stN ns A.m K))))→w c n kC5 [] (lq A o4 o11 o12 o13 o14 (o15::o16::some (.ref w0)::t)) H' Kk) :
  w c n kC4 [] (lq A o4 o11 o12 o13 o14 (o15::o16::o17::t)) H Kk:=by
 have sH:=sb.trans S.sub
 refine CallV.len (sH _ _ F.lr) ?_
 rw [List.length_map,List.length_range]
 obtain ⟨ps,ep,ap⟩:=F.lp
 refine w_comp (fun u=>[none,u,none,some (.ref A.pr)]) (fun i acc _ H'=>Sub H H'∧acc=iL (nI (((List.range K).take i).filter fun k=>!rmN ns A.m k))) none (.rng (Nat.le_trans K4 (by decide))) (by rw [List.length_map,List.length_range]; exact Nat.le_trans K4 (by decide)) ⟨Sub.refl _,rfl⟩ (fun _ _ _ _ _=>trivial) (fun i acc xs u H' K' hi hI hn hc=>?_) fun acc u H' hI D hD=>?_
 ·obtain ⟨s,rfl⟩:=hI
  obtain ⟨rfl,hi2⟩:=range_at hi
  obtain ⟨b,cr,rw,e1,e2,e3,fv,mr,e4,_⟩:=plain_at ap hi2
  have sH':=sH.trans s
  have c1:=(ch_facts (ns:=ns) (i:=i) h0 hm).1
  have get:∀ {Q:V→AH→Prop},Q (.ref b) H'→ItemT c n (.ref A.pr) (.int i) H' Q:=fun hq=>ItemT.list (sH' _ _ ep) e1 hq
  have yes:rmN ns A.m i=false→∀ H2,Sub H' H2→K' .next [.int i] [none,some (.int i),none,some (.ref A.pr)] H2:=fun hr H2 s2=>hn _ (some (.int i)) _ ⟨s.trans s2,by rw [filt_snoc hi2,hr,Bool.not_false,if_pos rfl,nI_snoc]⟩
  have no:rmN ns A.m i=true→∀ st H2,Sub H' H2→K' .cont st [none,some (.int i),none,some (.ref A.pr)] H2:=fun hr st H2 s2=>hc st (some (.int i)) _ ⟨s.trans s2,by rw [filt_snoc hi2,hr,Bool.not_true,if_neg (by decide),List.append_nil]⟩
  refine get (ItemT.tup (i:=0) (x:=.ref cr) (sH' _ _ e2) rfl (CallV.len (sH' _ _ e3) ?_))
  rw [List.length_map]
  refine ite_go (fun hb=>?_) fun hb=>?_
  ·have hb:¬ (chOf ns A.m i).length=1:=fun q=>by have:=of_decide_eq_true hb; rw [q] at this; exact absurd this (by decide)
   refine get (ItemT.tup (i:=1) (x:=.ref rw) (sH' _ _ e2) rfl (ItemT.tup (i:=0) (x:=.int (conOf ns A.m i).2.kind) (sH' _ _ e4) rfl fun T5 h5=>CmpT.notInTupI (ns:=[5,6]) AH.set_self ?_))
   refine ite_go (fun hb2=>yes ?_ _ (Sub.new h5)) fun hb2=>no ?_ _ _ (Sub.new h5)
   ·have h56:¬ (conOf ns A.m i).2.kind∈[5,6]:=of_decide_eq_false (by rw [← Bool.not_true,← hb2,Bool.not_not])
    refine Bool.eq_false_iff.mpr fun q=>(rmOf_iff.mp q).elim hb fun q=>h56 (q.elim (fun q=>by rw [q]; decide) fun q=>by rw [q]; decide)
   ·have h56:(conOf ns A.m i).2.kind∈[5,6]:=of_decide_eq_true (by rw [← Bool.not_false,← hb2,Bool.not_not])
    exact rmOf_iff.mpr (.inr ((List.mem_cons.mp h56).imp id List.mem_singleton.mp))
  ·have hb1:(chOf ns A.m i).length=1:=by exact Nat.le_antisymm (Int.ofNat_le.mp (Int.not_lt.mp (of_decide_eq_false hb))) c1
   refine ite_go (fun q=>by rw [hb] at q; cases q) fun _=>no (rmOf_iff.mpr (.inl hb1)) _ _ (Sub.refl _)
 ·obtain ⟨s,rfl⟩:=hI
  rw [List.length_map,List.length_range,show (List.range K).take K=List.range K from List.take_of_length_le (by rw [List.length_range]; exact Nat.le_refl _)]
  have S':=(S.mono s).new (o:=.list (iL (nI (stN ns A.m K)))) hD
  exact h D _ _ (Sub.new ((S.mono s).sub.none hD)) S' AH.set_self
end
end Mine
namespace Mine
section
variable {c:Cx} {P:Params} {n:Nat} {H fx:AH} {k:Code} {Kk:KT} {ρ:Loc} {st:List V} {da:Int→DA} {all:List Int} {D:Int→DS} {dr:Addr}
theorem w_srt (T:TopK c P) {i j:Nat} {x:Int} {ep:Option Nat} (S:St H fx da all D) (ed:fx dr=some (.dict (dI all da) ep)) (hx:x∈all) (h64:(D x).vs.length < 64) (ei:ρ.at i=some (.ref dr)) (ej:ρ.at j=some (.int x))
  (h:∀ l fx' H',Sub fx fx'→fx l=none→fx' l=some (.list (iL (srt (D x).vs)))→St H' fx' da all D→w c n k (.ref l::st) ρ H' Kk) :
  w c n (.cst (.oth (.builtin "sorted"))<|.ld i<|.ld j<|.sub<|.cst .none<|.cst .none<|.sl<|.call 1<|k) st ρ H Kk:=
 w_cst (w_ld ei (w_ld ej (ItemT.dict (S.sub _ _ ed) (vAt_dI hx) (SliceT.dom T.D (S.at_ x hx .a) fun p hp=>CallV.sortedI AH.set_self h64 fun l hl=>by
  have S1:=S.new' (o:=.list (iL (D x).vs)) hp
  exact h l _ _ (Sub.new (S1.sub.none hl)) (S1.sub.none hl) AH.set_self (S1.new hl)))))
theorem w_behind (T:TopK c P) {m:Nat} (S:St H fx da (iota m) D) (ed:fx dr=some (.dict (dI (iota m) da) none)) (hm:m≤4) (h64:∀ x∈iota m,(D x).vs.length < 64) (e2:ρ.at 2=some (.int m)) (e6:ρ.at 6=some (.ref dr))
  (h:∀ l fx' H',Sub fx fx'→ShownAt fx' l ((iota m).map fun x=>srt (D x).vs)→St H' fx' da (iota m) D→w c n k (.ref l::st) ρ H' Kk) :
  w c n (.ld 2<|.comp .range 1 [none,none,none,some 6] (.st 1<|.cst (.oth (.builtin "sorted"))<|.ld 3<|.ld 1<|.sub<|.cst .none<|.cst .none<|.sl<|.call 1<|.done)<|k) st ρ H Kk:=by
 refine w_ld e2 ?_
 refine w_comp (fun v=>[none,v,none,some (.ref dr)]) (fun i acc _ H'=>∃ fx',Sub fx fx'∧All2 (IL fx') acc (((iota m).take i).map fun x=>srt (D x).vs)∧St H' fx' da (iota m) D) none (.rng (Nat.le_trans hm (by decide))) (by rw [List.length_map,List.length_range]; exact Nat.le_trans hm (by decide)) ⟨fx,Sub.refl _,trivial,S⟩ (fun _ _ _ _ _=>trivial) (fun i acc xs v H' K' hi hI hn _=>?_) (fun acc v H' hI D hD=>?_) (by show [none,none,none,ρ.at 6]=_; rw [e6])
 ·obtain ⟨fx',s,a,S'⟩:=hI
  obtain ⟨rfl,hi2⟩:=range_at hi
  have ei:=iota_at hi2
  refine w_srt (n:=n) T (i:=3) (j:=1) (ρ:=[none,some (.int i),none,some (.ref dr)]) S' (s _ _ ed) (List.mem_of_getElem? ei) (h64 _ (List.mem_of_getElem? ei)) rfl rfl fun l fx2 H2 s2 _ el S2=>hn _ (some (.int i)) _ ⟨fx2,s.trans s2,?_,S2⟩
  rw [take_snoc ei,List.map_append]
  exact All2.append (show All2 _ [_] [_] from ⟨⟨l,rfl,el⟩,trivial⟩) (a.mono fun v b q=>IS.sub q s2)
 ·obtain ⟨fx',s,a,S'⟩:=hI
  rw [List.length_map,List.length_range,List.take_of_length_le (by rw [iota_len]; exact Nat.le_refl _)] at a
  have hf:=S'.sub.none hD
  have sD:=Sub.new hf (o:=.list acc)
  exact h D _ _ (s.trans sD) ⟨acc,AH.set_self,a.mono fun v b q=>IS.sub q sD⟩ (S'.new hD)
end
section
variable {c:Cx} {P:Params} {n K most:Nat} {H fb fx:AH} {A:Ad} {ns:List Int} {o4 o11 o12 o13 o14 o15 o16 o18:Option V} {k:Code} {Kk:KT} {t:List (Option V)} {da:Int→DA} {D:Int→DS} {vl:Int→Addr} {rA nA:Nat→Addr} {f:Int→Int→Bool} {w0:Addr}
theorem lf_stay:lf (rmN ns A.m) K (List.range K)=stN ns A.m K:=lf_all fun k hk=>List.mem_range.mp hk
theorem lf_by {x:Int}:lf (rmN ns A.m) K (byK ns A.m K x)=(stN ns A.m K).filter fun k=>decide (x∈chOf ns A.m k):=by
 rw [lf_all fun k hk=>byK_lt hk]
 unfold byK stN
 rw [List.filter_filter,List.filter_filter]
 exact List.filter_congr fun k _=>Bool.and_comm ..
theorem stN_lt {k:Nat} (h:k∈stN ns A.m K):k < K:=List.mem_range.mp (List.mem_filter.mp h).1
theorem Pf.cons (F:Pf fb A ns K most da vl rA nA) (s:Sub fb H) {k:Nat} (hk:k < K):∃ C d,ConAt H (rA k) C d:=(F.con k hk).ref.imp fun C q=>q.imp fun d q=>⟨s _ _ q.e,q.c⟩
theorem s_same (T:TopK c P) (S:St H fx da (iota A.m) D) (F:Pf fb A ns K most da vl rA nA) (sb:Sub fb fx) (hm:A.m≤4) (K4:K≤4) (Y:Pd fx A ns K most vl rA nA K f) (ew:fx w0=some (.list (iL (nI (stN ns A.m K)))))
  (h:∀ o4 H',St H' fx da (iota A.m) D→w c (n + 1) kC6 [] (lq A o4 o11 o12 o13 o14 (o15::o16::some (.ref w0)::t)) H' Kk) :
  w c (n + 1) kC5 [] (lq A o4 o11 o12 o13 o14 (o15::o16::some (.ref w0)::t)) H Kk:=by
 have sH:=sb.trans S.sub
 refine (law_same T (Y.c.sub S.sub) (sH _ _ F.lr) (by rw [lf_stay]; exact S.sub _ _ ew) (fun k hk=>List.mem_range.mp (lf_sub hk)) (fun k hk=>F.cons sH (List.mem_range.mp (lf_sub hk))) ?_).call (kp479 T)
 obtain ⟨ps,ep,ap⟩:=F.lp
 have l4:(stN ns A.m K).length≤4:=by
  have:=List.length_filter_le (fun k=>!rmN ns A.m k) (List.range K)
  rw [List.length_range] at this
  exact Nat.le_trans this K4
 refine w_loop (fun u=>lq A u o11 o12 o13 o14 (o15::o16::some (.ref w0)::t)) (fun i _ H'=>Sub H H') o4 (.rng (Nat.le_trans hm (by decide))) (Sub.refl _) (fun _ _ _ _=>trivial) (fun i xs u H' K' hi s hn _=>?_) fun u H' s=>h u H' (S.mono s)
 obtain ⟨rfl,hi2⟩:=range_at hi
 have hx:=List.mem_of_getElem? (iota_at hi2)
 have sH':=sH.trans s
 refine ItemT.dict (sH' _ _ F.eb) (vAt_vI hx) ?_
 refine w_compP (fun u=>[none,u,some (.ref A.pr),some (.int i)]) (fun j=>iL (nI (((stN ns A.m K).take j).filter fun k=>decide ((i:Int)∈chOf ns A.m k)))) none (.list (s _ _ (S.sub _ _ ew))) (by rw [it_len]; show (List.map _ _).length≤_; rw [List.length_map]; exact Nat.le_trans l4 (by decide)) rfl (s _ _ (S.sub _ _ ew)) (fun j xs u K2 hj hn2 hc2=>?_) fun L hL=>?_
 ·obtain ⟨y,ey,rfl⟩:=it_iL hj
  unfold nI at ey
  rw [List.getElem?_map] at ey
  obtain ⟨q,eq,rfl⟩:=Option.map_eq_some_iff.mp ey
  obtain ⟨b,cr,rw,e1,e2,e3,_⟩:=plain_at ap (stN_lt (List.mem_of_getElem? eq))
  have et:((stN ns A.m K).take (j + 1)).filter (fun k=>decide ((i:Int)∈chOf ns A.m k))=((stN ns A.m K).take j).filter (fun k=>decide ((i:Int)∈chOf ns A.m k))++if decide ((i:Int)∈chOf ns A.m q)=true then [q] else []:=by
   rw [take_snoc eq,List.filter_append,List.filter_cons]; rfl
  refine ItemT.list (sH' _ _ ep) e1 (ItemT.tup (i:=0) (x:=.ref cr) (sH' _ _ e2) rfl (CmpT.inInts (sH' _ _ e3) ?_))
  exact ite_go (fun hb=>hn2 _ (some (.int q)) (by rw [et,if_pos hb,nI_snoc])) fun hb=>hc2 [] (some (.int q)) (by rw [et,if_neg (by rw [hb]; decide),List.append_nil])
 ·rw [it_len,show (nI (stN ns A.m K)).length=(stN ns A.m K).length from List.length_map ..,List.take_length,← lf_by]
  have s2:=s.trans (Sub.new hL (o:=.list (iL (nI (lf (rmN ns A.m) K (byK ns A.m K (i:Int)))))))
  have sH2:=sH.trans s2
  exact (law_same T ((Y.v _ hx).sub (S.sub.trans s2)) (sH2 _ _ F.lr) AH.set_self (fun k hk=>byK_lt (lf_sub hk)) (fun k hk=>F.cons sH2 (byK_lt (lf_sub hk))) (hn [] (some (.int i)) _ s2)).call (kp479 T)
end
end Mine
namespace Mine
noncomputable abbrev domL (ns:List Int) (m most:Nat) (f:Int→Int→Bool):List (List Int):=(iota m).map fun x=>(fstOf ns most x).filter (f x)
theorem domL_ok {ns:List Int} {m most:Nat} {f:Int→Int→Bool} (hm:m≤4):LsOk (domL ns m most f):=⟨by rw [List.length_map,iota_len]; exact hm,(fun l hl=>by obtain ⟨x,_,rfl⟩:=List.mem_map.mp hl; exact Nat.le_trans (List.length_filter_le ..) (fstL_le3 ..)),fun l hl v hv=>by obtain ⟨x,_,rfl⟩:=List.mem_map.mp hl; exact fstL_b _ _ v (List.mem_filter.mp hv).1⟩
theorem domF_srt {ns:List Int} {most:Nat} {f:Int→Int→Bool} {x:Int}:srt (domF (fstOf ns most) f x).vs=(fstOf ns most x).filter (f x):=srt_self (List.Pairwise.filter _ (fstL_le _ _))
theorem domF_len {ns:List Int} {most:Nat} {f:Int→Int→Bool} {x:Int}:(domF (fstOf ns most) f x).vs.length≤3:=Nat.le_trans (List.length_filter_le ..) (fstL_le3 ..)
theorem stay_eq {ns:List Int} {m K:Nat}:stayOf (plOf ns m K)=(stN ns m K).map (conOf ns m):=by
 unfold stayOf stN
 rw [List.filter_map]; rfl
section
variable {c:Cx} {P:Params} {n K most:Nat} {H fb fx:AH} {A:Ad} {ns:List Int} {o4 o11 o12 o13 o14 o15 o18:Option V} {k:Code} {Kk:KT} {t:List (Option V)} {da:Int→DA} {vl:Int→Addr} {rA nA:Nat→Addr} {f:Int→Int→Bool} {w0 R0:Addr}
theorem s_keep (T:TopK c P) (S:St H fx da (iota A.m) (domF (fstOf ns most) f)) (F:Pf fb A ns K most da vl rA nA) (sb:Sub fb fx) (h0:0 < A.m) (hm:A.m≤4) (K4:K≤4) (Y:Pd fx A ns K most vl rA nA K f) (ew:fx w0=some (.list (iL (nI (stN ns A.m K))))) (tp:TupsAt fx R0 (allL (fstLs ns A.m most) (plOf ns A.m K)))
  (h:∀ bh fx' H',Sub fx fx'→ShownAt fx' bh (domL ns A.m most f)→St H' fx' da (iota A.m) (domF (fstOf ns most) f)→w c (n + 2) kC7 [] (lq A o4 o11 o12 o13 o14 (o15::some (.ref R0)::some (.ref w0)::some (.ref bh)::t)) H' Kk) :
  w c (n + 2) kC6 [] (lq A o4 o11 o12 o13 o14 (o15::some (.ref R0)::some (.ref w0)::o18::t)) H Kk:=by
 refine w_behind T S (sb _ _ F.ed) hm (fun x _=>Nat.lt_of_le_of_lt domF_len (by decide)) rfl rfl fun bh fx1 H1 s1 sh S1=>?_
 rw [show ((iota A.m).map fun x=>srt (domF (fstOf ns most) f x).vs)=domL ns A.m most f from List.map_congr_left fun x _=>domF_srt] at sh
 obtain ⟨ps,ep,ap⟩:=F.lp
 have sH:=(sb.trans s1).trans S1.sub
 have ew1:=S1.sub _ _ (s1 _ _ ew)
 have l4:(stN ns A.m K).length≤4:=by
  have:=List.length_filter_le (fun k=>!rmN ns A.m k) (List.range K)
  rw [List.length_range] at this
  exact Nat.le_trans this K4
 refine w_comp (fun u=>[none,u,some (.ref A.pr)]) (fun j acc _ H'=>H'=H1∧All2 (PlainAt H1) acc (((stN ns A.m K).take j).map (conOf ns A.m))) none (.list ew1) (by rw [it_len]; show (List.map _ _).length≤_; rw [List.length_map]; exact Nat.le_trans l4 (by decide)) ⟨rfl,trivial⟩ (fun j acc _ H' q=>q.1▸ew1) (fun j acc xs u H' K2 hj hI hn2 _=>?_) fun acc u H' hI L hL=>?_
 ·obtain ⟨rfl,a⟩:=hI
  obtain ⟨y,ey,rfl⟩:=it_iL hj
  unfold nI at ey
  rw [List.getElem?_map] at ey
  obtain ⟨q,eq,rfl⟩:=Option.map_eq_some_iff.mp ey
  obtain ⟨v,ev,hp⟩:=ap.at (j:=q) (b:=conOf ns A.m q) (by rw [List.getElem?_map,List.getElem?_range (stN_lt (List.mem_of_getElem? eq))]; rfl)
  refine ItemT.list (sH _ _ ep) ev (hn2 _ (some (.int q)) _ ⟨rfl,?_⟩)
  rw [take_snoc eq,List.map_append]
  exact All2.append (show All2 (PlainAt H') [v] [conOf ns A.m q] from ⟨hp.sub sH,trivial⟩) a
 ·obtain ⟨rfl,a⟩:=hI
  rw [it_len,show (nI (stN ns A.m K)).length=(stN ns A.m K).length from List.length_map ..,List.take_length] at a
  have sL:Sub H' (H'.set L (.list acc)):=Sub.new hL
  refine (law_all T (domL_ok hm) ((sh.sub S1.sub).sub sL) AH.set_self (a.mono fun v b q=>q.sub sL) (fun q hq=>?_) fun R H2 s2 tp2=>?_).call (kp472 T)
  ·obtain ⟨i,_,rfl⟩:=List.mem_map.mp hq
   show PlOk (domL ns A.m most f).length _
   rw [List.length_map,iota_len]
   exact (con_ok1 h0 hm).1
  ·rw [← stay_eq,prep_fits Y.pr] at tp2
   obtain ⟨vs,e1,a1⟩:=tp2
   have s3:=S1.sub.trans (sL.trans s2)
   obtain ⟨us,e2,a2⟩:=tp.sub (s1.trans s3)
   refine CmpT.neL e1 e2 (Same.tups a1 a2) ?_
   rw [decide_eq_true rfl]
   exact h bh fx1 H2 s1 sh (S1.mono (sL.trans s2))
end
end Mine
namespace Mine
open Classical in
noncomputable def ext (H H' fx:AH):AH:=fun a=>if H a=none then H' a else fx a
theorem ext_new {H H' fx:AH} {a:Addr} (h:H a=none):ext H H' fx a=H' a:=if_pos h
theorem ext_old {H H' fx:AH} {a:Addr} {o:AO} (h:H a=some o):ext H H' fx a=fx a:=if_neg fun q=>no_some q h
theorem ext_sub {H H' fx fb:AH} (h:Sub fx H) (s:Sub fb fx):Sub (ext H H' fb) (ext H H' fx):=fun a o e=>by
 cases q:H a with
 | none=>rw [ext_new q] at e ⊢; exact e
 | some o'=>rw [ext_old q] at e ⊢; exact s _ _ e
theorem ext_up {H H' fx:AH} (h:Sub fx H):Sub fx (ext H H' fx):=fun a o e=>by rw [ext_old (h _ _ e)]; exact e
theorem St.ext {H H' fx:AH} {da:Int→DA} {all:List Int} {D:Int→DS} (S:St H fx da all D) (s:Sub H H'):St H' (ext H H' fx) da all D:=
 ⟨fun a o e=>by
  cases q:H a with
  | none=>rw [ext_new q] at e; exact e
  | some o'=>rw [ext_old q] at e; exact s _ _ (S.sub _ _ e),fun x hx i=>s _ _ (S.at_ x hx i),S.inj,fun x hx i=>by rw [ext_old (S.at_ x hx i)]; exact S.off x hx i⟩
structure BfAt (fb fx:AH) (b:Addr) (es:List (Int × V)) (ep:Option Nat) (ys:List Int) (sh:Int→List Int):Prop where
 e:fx b=some (.dict es ep)
 ks:es.map (·.1)=ys
 at_:∀ y∈ys,∃ u,vAt es y=some (.ref u)∧fb u=some (.list (iL (sh y)))
noncomputable def TrAt (fb fx:AH):List Lv→List V→List Addr→Prop
 | [],vs,bs=>vs=[]∧bs=[]
 | l::r,vs,bs=>∃ vs' a b R bs',(vs=vs'++[V.ref a]∧bs=b::bs')∧fb a=some (.tup [.int l.x,.ref b,.ref R])∧(∃ es ep,BfAt fb fx b es ep l.ys l.sh)∧TupsAt fb R l.f∧TrAt fb fx r vs' bs'
theorem BfAt.to {fb fx fb' fx':AH} {b:Addr} {es:List (Int × V)} {ep:Option Nat} {ys:List Int} {sh:Int→List Int} (B:BfAt fb fx b es ep ys sh) (s:Sub fb fb') (h:fx' b=fx b):BfAt fb' fx' b es ep ys sh:=
 ⟨h.trans B.e,B.ks,fun y hy=>(B.at_ y hy).imp fun u q=>⟨q.1,s _ _ q.2⟩⟩
theorem TrAt.to {fb fx fb' fx':AH} (s:Sub fb fb'):∀ {ls:List Lv} {vs:List V} {bs:List Addr},(∀ b∈bs,fx' b=fx b)→TrAt fb fx ls vs bs→TrAt fb' fx' ls vs bs
 | [],vs,bs,_,t=>t
 | l::r,vs,bs,h,t=>by
  obtain ⟨vs',a,b,R,bs',⟨e1,e2⟩,ea,⟨es,ep,B⟩,tp,t⟩:=t
  subst e2
  exact ⟨vs',a,b,R,bs',⟨e1,rfl⟩,s _ _ ea,⟨es,ep,B.to s (h b (List.mem_cons_self ..))⟩,tp.sub s,TrAt.to s (fun b hb=>h b (List.mem_cons_of_mem _ hb)) t⟩
theorem TrAt.len {fb fx:AH}:∀ {ls:List Lv} {vs:List V} {bs:List Addr},TrAt fb fx ls vs bs→vs.length=ls.length
 | [],vs,bs,t=>by rw [t.1]; rfl
 | l::r,vs,bs,t=>by
  obtain ⟨vs',a,b,R,bs',⟨e1,e2⟩,_,_,_,t⟩:=t
  rw [e1,List.length_append,TrAt.len t]; rfl
structure Sg (fb fx:AH) (gv tl:Addr) (bx:List Addr) (g:List (Int × Int)) (ls:List Lv) (bs:List Addr):Prop where
 sub:Sub fb fx
 off:∀ a∈gv::tl::(bx++bs),fb a=none
 on:∀ a∈gv::tl::(bx++bs),∃ o,fx a=some o
 nd:(gv::tl::(bx++bs)).Nodup
 eg:fx gv=some (.dict (gI g) none)
 tr:∃ vs,fx tl=some (.list vs)∧TrAt fb fx ls vs bs
section
variable {fb fx fb' fx':AH} {gv tl b p:Addr} {bx bs:List Addr} {g g':List (Int × Int)} {l:Lv} {ls:List Lv} {o:AO}
theorem Sg.gt (G:Sg fb fx gv tl bx g ls bs):gv≠tl:=fun q=>(List.nodup_cons.mp G.nd).1 (q▸List.mem_cons_self ..)
theorem Sg.grow (G:Sg fb fx gv tl bx g ls bs) (s:Sub fb fb') (sub:Sub fb' fx') (h:∀ a∈gv::tl::(bx++bs),fb' a=fb a∧fx' a=fx a):Sg fb' fx' gv tl bx g ls bs:=
 ⟨sub,fun a ha=>(h a ha).1.trans (G.off a ha),fun a ha=>(h a ha).2▸G.on a ha,G.nd,(h gv (List.mem_cons_self ..)).2.trans G.eg,G.tr.imp fun vs q=>⟨(h tl (List.mem_cons_of_mem _ (List.mem_cons_self ..))).2.trans q.1,q.2.to s fun b hb=>(h b (List.mem_cons_of_mem _ (List.mem_cons_of_mem _ (List.mem_append_right _ hb)))).2⟩⟩
theorem Sg.new (G:Sg fb fx gv tl bx g ls bs) (h:fx p=none):Sg (fb.set p o) (fx.set p o) gv tl bx g ls bs:=
 have ne:∀ a∈gv::tl::(bx++bs),a≠p:=fun a ha q=>(G.on a ha).elim fun o e=>no_some h (q▸e)
 G.grow (Sub.new (G.sub.none h)) G.sub.set fun a ha=>⟨AH.set_ne (ne a ha),AH.set_ne (ne a ha)⟩
theorem Sg.ext {H H':AH} (G:Sg fb fx gv tl bx g ls bs) (h:Sub fx H):Sg (ext H H' fb) (ext H H' fx) gv tl bx g ls bs:=
 G.grow (ext_up (G.sub.trans h)) (ext_sub h G.sub) fun a ha=>(G.on a ha).elim fun o e=>⟨ext_old (h _ _ e),ext_old (h _ _ e)⟩
theorem Sg.begin (G:Sg fb fx gv tl [] g ls bs) (h:fx p=none):Sg fb (fx.set p o) gv tl [p] g ls bs:=by
 have ne:∀ a∈gv::tl::([]++bs),a≠p:=fun a ha q=>(G.on a ha).elim fun o e=>no_some h (q▸e)
 have hn:=G.nd
 rw [List.nodup_cons,List.nodup_cons] at hn
 obtain ⟨h1,h2,h3⟩:=hn
 have cs:∀ {a},a∈gv::tl::([p]++bs)→a=p∨a∈gv::tl::([]++bs):=fun {a} ha=>by
  simp only [List.mem_cons,List.nil_append,List.singleton_append] at ha ⊢
  rcases ha with q | q | q | q
  ·exact .inr (.inl q)
  ·exact .inr (.inr (.inl q))
  ·exact .inl q
  ·exact .inr (.inr (.inr q))
 refine ⟨fun a o e=>?_,fun a ha=>(cs ha).elim (fun q=>q▸G.sub.none h) (G.off a),fun a ha=>(cs ha).elim (fun q=>⟨o,by rw [q]; exact AH.set_self⟩) fun q=>(G.on a q).imp fun o e=>(AH.set_ne (ne a q)).trans e,?_,(AH.set_ne (ne gv (List.mem_cons_self ..))).trans G.eg,G.tr.imp fun vs q=>⟨(AH.set_ne (ne tl (List.mem_cons_of_mem _ (List.mem_cons_self ..)))).trans q.1,q.2.to (Sub.refl _) fun b hb=>AH.set_ne (ne b (List.mem_cons_of_mem _ (List.mem_cons_of_mem _ hb)))⟩⟩
 ·exact (AH.set_ne fun q:a=p=>no_some (G.sub.none h) (q▸e)).trans (G.sub _ _ e)
 ·have n1:=ne gv (List.mem_cons_self ..)
  have n2:=ne tl (List.mem_cons_of_mem _ (List.mem_cons_self ..))
  refine List.nodup_cons.mpr ⟨fun w=>?_,List.nodup_cons.mpr ⟨fun w=>?_,List.nodup_cons.mpr ⟨fun w=>ne p (List.mem_cons_of_mem _ (List.mem_cons_of_mem _ w)) rfl,h3⟩⟩⟩
  ·rcases List.mem_cons.mp w with q | w
   ·exact h1 (q▸List.mem_cons_self ..)
   ·exact (List.mem_cons.mp w).elim n1 fun w=>h1 (List.mem_cons_of_mem _ w)
  ·exact (List.mem_cons.mp w).elim n2 h2
theorem Sg.chg (G:Sg fb fx gv tl [b] g ls bs) (h:∀ a,a≠b→fx' a=fx a) (e:fx' b=some o):Sg fb fx' gv tl [b] g ls bs:=by
 have hn:=G.nd
 rw [List.nodup_cons,List.nodup_cons] at hn
 obtain ⟨h1,h2,h3⟩:=hn
 have h3:=(List.nodup_cons.mp h3).1
 have nb:∀ a∈bs,a≠b:=fun a ha q=>h3 (q▸ha)
 have ng:gv≠b:=fun q=>h1 (q▸List.mem_cons_of_mem _ (List.mem_cons_self ..))
 have nt:tl≠b:=fun q=>h2 (q▸List.mem_cons_self ..)
 exact ⟨fun a o e=>(h a fun q=>no_some (G.off b (List.mem_cons_of_mem _ (List.mem_cons_of_mem _ (List.mem_cons_self ..)))) (q▸e)).trans (G.sub _ _ e),G.off,fun a ha=>by
  by_cases q:a=b
  ·exact ⟨o,q▸e⟩
  ·rw [h a q]; exact G.on a ha,G.nd,(h gv ng).trans G.eg,G.tr.imp fun vs q=>⟨(h tl nt).trans q.1,q.2.to (Sub.refl _) fun b hb=>h b (nb b hb)⟩⟩
theorem Sg.drop (G:Sg fb fx gv tl [b] g ls bs) (h:∀ a o,fx a=some o→a≠b→fx' a=some o):Sg fb fx' gv tl [] g ls bs:=by
 have hn:=G.nd
 rw [List.nodup_cons,List.nodup_cons] at hn
 obtain ⟨h1,h2,h3⟩:=hn
 have h3:=List.nodup_cons.mp h3
 have nb:∀ a∈bs,a≠b:=fun a ha q=>h3.1 (q▸ha)
 have ng:gv≠b:=fun q=>h1 (q▸List.mem_cons_of_mem _ (List.mem_cons_self ..))
 have nt:tl≠b:=fun q=>h2 (q▸List.mem_cons_self ..)
 have up:∀ a∈gv::tl::([]++bs),a∈gv::tl::([b]++bs)∧a≠b:=fun a ha=>by
  simp only [List.mem_cons,List.nil_append,List.singleton_append] at ha ⊢
  rcases ha with q | q | q
  ·exact ⟨.inl q,q▸ng⟩
  ·exact ⟨.inr (.inl q),q▸nt⟩
  ·exact ⟨.inr (.inr (.inr q)),nb a q⟩
 have eq:∀ a∈gv::tl::([]++bs),fx' a=fx a:=fun a ha=>(G.on a (up a ha).1).elim fun o e=>(h a o e (up a ha).2).trans e.symm
 exact ⟨fun a o e=>h a o (G.sub _ _ e) fun q=>no_some (G.off b (List.mem_cons_of_mem _ (List.mem_cons_of_mem _ (List.mem_cons_self ..)))) (q▸e),fun a ha=>G.off a (up a ha).1,fun a ha=>eq a ha▸G.on a (up a ha).1,
  List.nodup_cons.mpr ⟨fun w=>h1 ((List.mem_cons.mp w).elim (fun q=>q▸List.mem_cons_self ..) fun w=>List.mem_cons_of_mem _ (List.mem_cons_of_mem _ w)),List.nodup_cons.mpr ⟨fun w=>h2 (List.mem_cons_of_mem _ w),h3.2⟩⟩,
  (eq gv (List.mem_cons_self ..)).trans G.eg,G.tr.imp fun vs q=>⟨(eq tl (List.mem_cons_of_mem _ (List.mem_cons_self ..))).trans q.1,q.2.to (Sub.refl _) fun b hb=>eq b (List.mem_cons_of_mem _ (List.mem_cons_of_mem _ hb))⟩⟩
theorem Sg.given (G:Sg fb fx gv tl bx g ls bs):Sg fb (fx.set gv (.dict (gI g') none)) gv tl bx g' ls bs:=by
 have hn:=List.nodup_cons.mp G.nd
 have ne:∀ a∈tl::(bx++bs),a≠gv:=fun a ha q=>hn.1 (q▸ha)
 exact ⟨fun a o e=>(AH.set_ne fun q:a=gv=>no_some (G.off gv (List.mem_cons_self ..)) (q▸e)).trans (G.sub _ _ e),G.off,fun a ha=>by
  by_cases q:a=gv
  ·exact ⟨_,by rw [q]; exact AH.set_self⟩
  ·rw [AH.set_ne q]; exact G.on a ha,G.nd,AH.set_self,G.tr.imp fun vs q=>⟨(AH.set_ne (ne tl (List.mem_cons_self ..))).trans q.1,q.2.to (Sub.refl _) fun b hb=>AH.set_ne (ne b (List.mem_cons_of_mem _ (List.mem_append_right _ hb)))⟩⟩
theorem Sg.push {vs:List V} {t R:Addr} {es:List (Int × V)} {ep:Option Nat} (G:Sg fb fx gv tl [b] g ls bs) (et:fx tl=some (.list vs)) (ea:fb t=some (.tup [.int l.x,.ref b,.ref R])) (B:BfAt fb fx b es ep l.ys l.sh) (tp:TupsAt fb R l.f) :
  Sg fb (fx.set tl (.list (vs++[.ref t]))) gv tl [] g (l::ls) (b::bs):=by
 have hn:=G.nd
 rw [List.nodup_cons,List.nodup_cons] at hn
 obtain ⟨h1,h2,h3⟩:=hn
 obtain ⟨vs',e',T⟩:=G.tr
 obtain rfl:vs=vs':=by
  have:=et.symm.trans e'
  injection this with w; injection w
 have nt:∀ a∈b::bs,a≠tl:=fun a ha q=>h2 (q▸ha)
 refine ⟨fun a o e=>(AH.set_ne fun q:a=tl=>no_some (G.off tl (List.mem_cons_of_mem _ (List.mem_cons_self ..))) (q▸e)).trans (G.sub _ _ e),G.off,fun a ha=>?_,G.nd,(AH.set_ne G.gt).trans G.eg,⟨_,AH.set_self,vs,t,b,R,bs,⟨rfl,rfl⟩,ea,⟨es,ep,B.to (Sub.refl _) (AH.set_ne (nt b (List.mem_cons_self ..)))⟩,tp,T.to (Sub.refl _) fun b hb=>AH.set_ne (nt b (List.mem_cons_of_mem _ hb))⟩⟩
 by_cases q:a=tl
 ·exact ⟨_,by rw [q]; exact AH.set_self⟩
 ·rw [AH.set_ne q]; exact G.on a ha
theorem Sg.pop (G:Sg fb fx gv tl [] g (l::ls) bs):∃ vs t b R bs' es ep,fx tl=some (.list (vs++[.ref t]))∧fb t=some (.tup [.int l.x,.ref b,.ref R])∧TupsAt fb R l.f∧Sg fb (fx.set tl (.list vs)) gv tl [b] g ls bs'∧BfAt fb (fx.set tl (.list vs)) b es ep l.ys l.sh:=by
 obtain ⟨vs,et,vs',t,b,R,bs',⟨e1,e2⟩,ea,⟨es,ep,B⟩,tp,T⟩:=G.tr
 subst e1 e2
 have hn:=G.nd
 rw [List.nodup_cons,List.nodup_cons] at hn
 obtain ⟨h1,h2,h3⟩:=hn
 have nt:∀ a∈b::bs',a≠tl:=fun a ha q=>h2 (q▸ha)
 refine ⟨vs',t,b,R,bs',es,ep,et,ea,tp,⟨fun a o e=>(AH.set_ne fun q:a=tl=>no_some (G.off tl (List.mem_cons_of_mem _ (List.mem_cons_self ..))) (q▸e)).trans (G.sub _ _ e),G.off,fun a ha=>?_,G.nd,(AH.set_ne G.gt).trans G.eg,⟨_,AH.set_self,T.to (Sub.refl _) fun b hb=>AH.set_ne (nt b (List.mem_cons_of_mem _ hb))⟩⟩,B.to (Sub.refl _) (AH.set_ne (nt b (List.mem_cons_self ..)))⟩
 by_cases q:a=tl
 ·exact ⟨_,by rw [q]; exact AH.set_self⟩
 ·rw [AH.set_ne q]; exact G.on a ha
end
end Mine
namespace Mine
structure Be where
 lm:Addr
 w0:Addr
 bh:Addr
 gv:Addr
 tl:Addr
 o11:Option V
 o14:Option V
structure Cn where
 A:Ad
 B:Be
 ns:List Int
 K:Nat
 most:Nat
 f:Int→Int→Bool
 mv:List Int
 da:Int→DA
 vl:Int→Addr
 rA:Nat→Addr
 nA:Nat→Addr
noncomputable def Cn.Pb (C:Cn):Prob:=⟨C.A.m,fun x=>(fstOf C.ns C.most x).filter (C.f x),(stN C.ns C.A.m C.K).map (conOf C.ns C.A.m),allL (fstLs C.ns C.A.m C.most) (plOf C.ns C.A.m C.K)⟩
structure Cn.Ok (C:Cn):Prop where
 m2:2≤C.A.m
 m4:C.A.m≤4
 K4:C.K≤4
 pr:Prep C.A.m (fstOf C.ns C.most) (plOf C.ns C.A.m C.K) (plOf C.ns C.A.m C.K) rmOf C.f
 mv:C.mv.length≤14
theorem Cn.Ok.pb {C:Cn} (O:C.Ok):PrOk C.Pb:=by
 have m0:0 < C.A.m:=Nat.lt_of_lt_of_le (by decide) O.m2
 refine ⟨m0,O.m4,fun x _=>(fstL_nd _ _).filter _,fun x _=>Nat.le_trans (List.length_filter_le ..) (fstL_le3 ..),fun x _ v hv=>fstL_b _ _ v (List.mem_filter.mp hv).1,?_,fun q hq=>?_⟩
 ·show allL _ _=allL _ ((stN C.ns C.A.m C.K).map (conOf C.ns C.A.m))
  rw [← stay_eq]
  exact (prep_fits O.pr).symm
 ·obtain ⟨i,hi,rfl⟩:=List.mem_map.mp hq
  obtain ⟨a,b,c⟩:=con_ok1 (ns:=C.ns) (i:=i) m0 O.m4
  have h:¬ rmOf (conOf C.ns C.A.m i)=true:=fun q=>by
   have:=(List.mem_filter.mp hi).2
   rw [show rmN C.ns C.A.m i=true from q] at this
   cases this
  exact ⟨a,b,fun k=>h (rmOf_iff.mpr (.inr (.inl k))),fun k=>h (rmOf_iff.mpr (.inr (.inr k))),c⟩
structure Fz (fb:AH) (C:Cn):Prop where
 ed:fb C.A.dr=some (.dict (dI (iota C.A.m) C.da) none)
 eb:fb C.A.vd=some (.dict (vI (iota C.A.m) C.vl) none)
 lv:∀ x∈iota C.A.m,CLat fb C.rA C.nA (C.vl x) (lf (rmN C.ns C.A.m) C.K (byK C.ns C.A.m C.K x))
 con:∀ k,k < C.K→RuAt fb C.ns C.A.m k (C.rA k) (C.nA k)
 lm:fb C.B.lm=some (.list (iL C.mv))
 bh:ShownAt fb C.B.bh (domL C.ns C.A.m C.most C.f)
theorem Fz.sub {fb fb':AH} {C:Cn} (F:Fz fb C) (s:Sub fb fb'):Fz fb' C:=⟨s _ _ F.ed,s _ _ F.eb,fun x hx=>(F.lv x hx).sub s,fun k hk=>(F.con k hk).sub s,s _ _ F.lm,F.bh.sub s⟩
structure U where
 x:Option V
 i12:Option V
 i13:Option V
 R:Addr
 a21:Option V
 a22:Option V
 a23:Option V
 a24:Option V
 a25:Option V
 a26:Option V
 a27:Option V
 a28:Option V
 a29:Option V
noncomputable abbrev lz (C:Cn) (u:U) (t:List (Option V)):Loc:=lq C.A u.x C.B.o11 u.i12 u.i13 C.B.o14 (some (.ref C.B.lm)::some (.ref u.R)::some (.ref C.B.w0)::some (.ref C.B.bh)::some (.ref C.B.gv)::some (.ref C.B.tl)::u.a21::u.a22::u.a23::u.a24::u.a25::u.a26::u.a27::u.a28::u.a29::t)
theorem Good.l3 {Pb:Prob} {D:Int→DS} {g:List (Int × Int)} {f:List (List Int)} (O:PrOk Pb) (G:Good Pb D g f) {x:Int} (hx:x∈iota Pb.m):(D x).vs.length≤3:=
 Nat.le_trans (List.Nodup.length_le_of_subset (G.ok x hx).nd (fun v hv=>G.inB x hx v hv)) (O.l3 x hx)
section
variable {c:Cx} {P:Params} {n:Nat} {H fb fx:AH} {C:Cn} {k:Code} {Kk:KT} {ρ:Loc} {t:List (Option V)} {D D0:Int→DS} {g g0:List (Int × Int)} {l:Lv} {ls:List Lv} {bs:List Addr} {b:Addr} {es:List (Int × V)} {ep:Option Nat} {ys:List Int} {sh:Int→List Int} {fs:List (List Int)}
theorem s_back (T:TopK c P) (S:St H fx C.da (iota C.A.m) D) (F:Fz fb C) (G:Sg fb fx C.B.gv C.B.tl [b] g ls bs) (B:BfAt fb fx b es ep ys sh) (hs:∀ y∈ys,sh y=srt (D0 y).vs) (hn:∀ y∈ys,y∈iota C.A.m) (nd:ys.Nodup) (hok:∀ y∈ys,(D0 y).Ok) (h3:∀ y∈ys,(D0 y).vs.length≤3) (hk:∀ y∈ys,Psh (D0 y) (D y)) (e6:ρ.at 6=some (.ref C.A.dr)) (e23:ρ.at 23=some (.ref b))
  (h:∀ D' fx' H',(∀ y∈ys,Back (D0 y) (D' y))→(∀ y,y∉ys→D' y=D y)→St H' fx' C.da (iota C.A.m) D'→Sg fb fx' C.B.gv C.B.tl [] g ls bs→w c (n + 2) k [] ρ H' Kk) :
  w c (n + 2) (.cst (.ref 486)<|.ld 6<|.ld 23<|.call 2<|.tru<|.nt<|.ite (.cst (.bool false)<|.ret) .done<|k) [] ρ H Kk:=
 w_cst (w_ld e6 (w_ld e23 ((law_back T S (G.sub _ _ F.ed) ⟨B.e,B.ks,fun y hy=>(B.at_ y hy).imp fun u q=>⟨q.1,hs y hy▸G.sub _ _ q.2⟩⟩ (fun q=>no_some (G.off b (List.mem_cons_of_mem _ (List.mem_cons_of_mem _ (List.mem_cons_self ..)))) (q▸F.ed)) hn nd hok (fun y hy=>Nat.lt_of_le_of_lt (h3 y hy) (by decide)) hk
  fun D' H' fx' keep hb hsame S'=>h D' fx' H' hb hsame S' (G.drop keep)).call (kp486 T))))
theorem s_pop (T:TopK c P) {u:U} (S:St H fx C.da (iota C.A.m) D) (F:Fz fb C) (G:Sg fb fx C.B.gv C.B.tl [] g (l::ls) bs) (h:∀ R' b bs' es ep fx' H',TupsAt fb R' l.f→St H' fx' C.da (iota C.A.m) D→Sg fb fx' C.B.gv C.B.tl [b] g ls bs'→BfAt fb fx' b es ep l.ys l.sh→w c n k [] (lz C {u with x:=some (.int l.x),R:=R',a23:=some (.ref b)} t) H' Kk) :
  w c n (.ld 20<|.gm "pop"<|.cm 0<|.unp 3<|.st 4<|.st 23<|.st 16<|k) [] (lz C u t) H Kk:=by
 obtain ⟨vs,ta,b,R,bs',es,ep,et,ea,tp,G',B⟩:=G.pop
 have S':=S.put (o':=.list vs) et
 refine ⟨_,_,getPop (S.sub _ _ et),CallV.pop (S.sub _ _ et) ⟨_,_,rfl,S'.sub _ _ (G'.sub _ _ ea),rfl,?_⟩⟩
 exact h R b bs' es ep _ _ tp S' G' B
theorem lv_back {Pb:Prob} {D':Int→DS} (hl:Tr Pb ls D0 g0 l.f) (L:LvOk Pb l D0 D g0 g) (hb:∀ y∈l.ys,Back (D0 y) (D' y)) (hs:∀ y,y∉l.ys→D' y=D y):Tr Pb ls D' g0 l.f:=
 hl.back fun y hy=>by
  by_cases q:y∈l.ys
  ·exact hb y q
  ·rw [hs y q]; exact L.same y hy q
theorem lv_ys {Pb:Prob} (L:LvOk Pb l D0 D g0 g):(∀ y∈l.ys,y∈iota Pb.m)∧l.ys.Nodup:=by
 rw [L.ys]; exact ⟨fun y hy=>(others_mem.mp hy).1,others_nd⟩
end
end Mine
namespace Mine
theorem w_loopC {c:Cx} {n:Nat} {d:Kd} {b k:Code} {st:List V} {ρ:Loc} {H:AH} {K:KT} {it:List (List V)} {src:AH→Prop} {α:Type} {args:List V} (L:α→Loc) (I:α→AH→Prop) (a0:α) (iter:IterV H d args it src) (h0:I a0 H) (hs:∀ a H,I a H→src H)
  (step:∀ (i:Nat) xs a H (K':KT),it[i]?=some xs→I a H→(∀ st a H,I a H→K' .next st (L a) H)→(∀ st a H,I a H→K' .cont st (L a) H)→w c n b xs (L a) H K')
  (fin:∀ a H,I a H→w c n k st (L a) H K) (e0:ρ=L a0:=by rfl):LoopG c n d b .done k args st ρ H K:=
 .inl ⟨it,src,fun i ρ H=>∃ a,ρ=L a∧I a H,iter,⟨a0,e0,h0⟩,fun i ρ H q=>q.elim fun a q=>hs a H q.2,fun i xs ρ H hi q=>q.elim fun a q=>q.1▸step i xs a H _ hi q.2 (fun st a H q=>⟨H,Sub.refl _,a,rfl,q⟩) fun st a H q=>⟨H,Sub.refl _,a,rfl,q⟩,fun ρ H q=>q.elim fun a q=>q.1▸fin a H q.2⟩
structure Sx (C:Cn) (fb fx H:AH) (D:Int→DS) (g:List (Int × Int)) (fs:List (List Int)) (R:Addr) (ls:List Lv) (bs:List Addr):Prop where
 F:Fz fb C
 S:St H fx C.da (iota C.A.m) D
 G:Sg fb fx C.B.gv C.B.tl [] g ls bs
 tp:TupsAt fb R fs
 tr:Tr C.Pb ls D g fs
noncomputable def Sy (C:Cn) (H:AH) (R:Addr):Prop:=∃ fb fx D g fs ls bs,Sx C fb fx H D g fs R ls bs
section
variable {c:Cx} {P:Params} {n:Nat} {H fb fx:AH} {C:Cn} {k:Code} {Kk:KT} {t:List (Option V)} {D:Int→DS} {g:List (Int × Int)} {l:Lv} {ls:List Lv} {bs:List Addr} {fs:List (List Int)} {u:U} {p:Addr} {o:AO} {R:Addr} {free:List Int}
theorem Sx.new (X:Sx C fb fx H D g fs R ls bs) (h:H p=none):Sx C (fb.set p o) (fx.set p o) (H.set p o) D g fs R ls bs:=
 have hf:=X.S.sub.none h
 have s:Sub fb (fb.set p o):=Sub.new (X.G.sub.none hf)
 ⟨X.F.sub s,X.S.new h,X.G.new hf,X.tp.sub s,X.tr⟩
theorem s_free (O:C.Ok) (X:Sx C fb fx H D g fs R ls bs) (h:∀ fl fb' fx' H',Sub fb fb'→Sx C fb' fx' H' D g fs R ls bs→fb' fl=some (.list (iL (msn g (iota C.A.m))))→w c n kT2 [] (lz C {u with a22:=some (.ref fl)} t) H' Kk) :
  w c n kT1 [] (lz C u t) H Kk:=by
 have eg:=X.S.sub _ _ X.G.eg
 refine w_compP (fun v=>[none,v,some (.ref C.B.gv)]) (fun i=>iL (msn g ((iota C.A.m).take i))) none (.rng (Nat.le_trans O.m4 (by decide))) (by rw [List.length_map,List.length_range]; exact Nat.le_trans O.m4 (by decide)) rfl trivial (fun i xs v K' hi hn hc=>?_) fun L hL=>?_
 ·obtain ⟨rfl,hi2⟩:=range_at hi
  have ms:=msn_snoc (g:=g) (iota_at hi2)
  refine CmpT.notInA eg (fun e=>hn _ (some (.int i)) ?_) fun v e _=>hc [] (some (.int i)) ?_
  ·rw [ms,e,iL_append]; rfl
  ·rw [ms,e,iL_append]; exact List.append_nil _
 ·rw [List.length_map,List.length_range,List.take_of_length_le (by rw [iota_len]; exact Nat.le_refl _)]
  exact h L _ _ _ (Sub.new (X.G.sub.none (X.S.sub.none hL))) (X.new hL) AH.set_self
theorem s_popB (T:TopK c P) (O:C.Ok) (X:Sx C fb fx H D g fs R (l::ls) bs) (hC:∀ u' H',Sy C H' u'.R→Kk .cont [] (lz C u' t) H') :
  w c (n + 2) (.ld 20<|.gm "pop"<|.cm 0<|.unp 3<|.st 4<|.st 23<|.st 16<|.ld 19<|.ld 4<|.dsub<|.cst (.ref 486)<|.ld 6<|.ld 23<|.call 2<|.tru<|.nt<|.ite (.cst (.bool false)<|.ret) .done<|.cont) [] (lz C u t) H Kk:=by
 obtain ⟨⟨D0,g0,tr0,L⟩,_⟩:=X.tr
 refine s_pop T X.S X.F X.G fun R' b bs' es ep fx1 H1 tp1 S1 G1 B1=>?_
 have eg:g=g0++[(l.x,l.v)]:=L.g
 subst eg
 refine DelT.dict (S1.sub _ _ G1.eg) (by rw [vAt_gI,gAt_new L.x0]; rfl) ?_
 rw [ddel_new L.x0]
 have S2:=S1.put (o':=.dict (gI g0) none) G1.eg
 have G2:=G1.given (g':=g0)
 have nb:b≠C.B.gv:=fun q=>(List.nodup_cons.mp G1.nd).1 (q▸List.mem_cons_of_mem _ (List.mem_cons_self ..))
 obtain ⟨ym,ynd⟩:=lv_ys L
 refine s_back T S2 X.F G2 (B1.to (Sub.refl _) (AH.set_ne nb)) L.sh ym ynd (fun y hy=>tr0.good.ok y (ym y hy)) (fun y hy=>tr0.good.l3 O.pb (ym y hy)) L.hd rfl rfl fun D' fx3 H3 hb hs S3 G3=>?_
 exact hC {u with x:=some (.int l.x),R:=R',a23:=some (.ref b)} H3 ⟨fb,fx3,D',g0,l.f,ls,bs',X.F,S3,G3,tp1,lv_back tr0 L hb hs⟩
theorem s_popif (T:TopK c P) (O:C.Ok) {z:Int} {fl:Addr} (X:Sx C fb fx H D g fs R ls bs) (ez:u.a21=some (.int z)) (e22:u.a22=some (.ref fl)) (ef:fb fl=some (.list (iL (msn g (iota C.A.m))))) (hC:∀ u' H',Sy C H' u'.R→Kk .cont [] (lz C u' t) H')
  (h:msn g (iota C.A.m)≠[]→w c (n + 2) kT3 [] (lz C u t) H Kk) :
  w c (n + 2) kT2 [] (lz C u t) H Kk:=by
 obtain ⟨vs,et,tr⟩:=X.G.tr
 refine TruthT.list (X.S.sub _ _ et) ?_
 cases ls with
 | nil=>
  obtain ⟨rfl,_⟩:=tr
  refine h ?_
  rw [X.tr.1.1]
  intro q
  have h0:(0:Int)∈msn [] (iota C.A.m):=List.mem_filter.mpr ⟨iota_mem.mpr ⟨Int.le_refl _,Int.ofNat_lt.mpr (Nat.lt_of_lt_of_le (by decide) O.m2)⟩,rfl⟩
  rw [q] at h0; cases h0
 | cons l r=>
  have hv:vs.isEmpty=false:=by
   have:=tr.len
   cases vs with
   | nil=>cases this
   | cons a b=>rfl
  rw [hv]
  refine w_ld ez ⟨by decide,ite_gof (fun hb=>?_) fun hb=>?_⟩
  ·refine w_ld e22 (TruthT.list (X.S.sub _ _ (X.G.sub _ _ ef)) ?_)
   refine ite_go (fun hb=>s_popB T O X hC) fun hb=>h fun q=>?_
   rw [q] at hb; cases hb
  ·refine ite_go (fun _=>s_popB T O X hC) fun hb2=>?_
   rw [hb] at hb2; cases hb2
end
end Mine
namespace Mine
theorem vAt_old {es:List (Int × V)} {z y:Int} {v r:V} (h:vAt es z=some r):vAt (es++[(y,v)]) z=some r:=by
 unfold vAt at h ⊢
 obtain ⟨p,e,q⟩:=Option.map_eq_some_iff.mp h
 rw [List.find?_append,e]; exact congrArg some q
theorem key_none {es:List (Int × V)} {y:Int} (h:y∉es.map (·.1)):∀ p∈es,¬ p.1=y:=fun p hp q=>h (List.mem_map.mpr ⟨p,hp,q⟩)
theorem vAt_last {es:List (Int × V)} {y:Int} {v:V} (h:y∉es.map (·.1)):vAt (es++[(y,v)]) y=some v:=by
 unfold vAt
 rw [List.find?_append,List.find?_eq_none.mpr fun p hp=>by rw [decide_eq_true_iff]; exact key_none h p hp,Option.none_or,List.find?_cons_of_pos (by exact decide_eq_true rfl)]; rfl
theorem dput_last {es:List (Int × V)} {y:Int} {v:V} (h:y∉es.map (·.1)):dput es y v=es++[(y,v)]:=by
 unfold dput
 rw [if_neg]
 intro q
 obtain ⟨p,hp,e⟩:=List.any_eq_true.mp q
 exact key_none h p hp (of_decide_eq_true e)
theorem srt_mem {l:List Int} {v:Int}:v∈srt l↔v∈l:=(srt_perm l).mem_iff
section
variable {c:Cx} {n:Nat} {H:AH} {k:Code} {Kk:KT} {ρ:Loc} {st:List V}
theorem w_idx {l:Addr} {ns:List Int} {i:Nat} {z q:Int} (e:H l=some (.list (iL ns))) (hne:ns≠[]) (hq:0 < q∧q < 1073741824) (ei:ρ.at i=some (.ref l)) (ez:ρ.at 21=some (.int z)) (h:∀ v∈ns,w c n k (.int v::st) ρ H Kk) :
  w c n (.ld i<|.ld 21<|.cst (.int q)<|.bin .FloorDiv<|.cst (.oth (.builtin "len"))<|.ld i<|.call 1<|.bin .Mod<|.sub<|k) st ρ H Kk:=by
 refine w_ld ei (w_ld ez ⟨hq,w_cst (w_ld ei (CallV.len e ?_))⟩)
 rw [List.length_map]
 have l0:(0:Int) < ns.length:=Int.ofNat_lt.mpr (List.length_pos_iff.mpr hne)
 refine ⟨l0,?_⟩
 obtain ⟨j,hj⟩:=Int.eq_ofNat_of_zero_le (Int.emod_nonneg (z / q) (Int.ne_of_gt l0))
 have hlt:=Int.emod_lt_of_pos (z / q) l0
 show w c n (.sub k) (.int (z / q % ns.length)::.ref l::st) ρ H Kk
 rw [hj] at hlt ⊢
 have hlt:=Int.ofNat_lt.mp hlt
 exact ItemT.list e (by rw [List.getElem?_map,List.getElem?_eq_getElem hlt]; rfl) (h _ (List.getElem_mem hlt))
theorem w_srt' {P:Params} (T:TopK c P) {fx:AH} {da:Int→DA} {all:List Int} {D:Int→DS} {dr:Addr} {i j:Nat} {x:Int} {ep:Option Nat} (S:St H fx da all D) (ed:fx dr=some (.dict (dI all da) ep)) (hx:x∈all) (h64:(D x).vs.length < 64) (ei:ρ.at i=some (.ref dr)) (ej:ρ.at j=some (.int x))
  (h:∀ l H',Sub H H'→H' l=none→w c n k (.ref l::st) ρ (H'.set l (.list (iL (srt (D x).vs)))) Kk) :
  w c n (.cst (.oth (.builtin "sorted"))<|.ld i<|.ld j<|.sub<|.cst .none<|.cst .none<|.sl<|.call 1<|k) st ρ H Kk:=
 w_cst (w_ld ei (w_ld ej (ItemT.dict (S.sub _ _ ed) (vAt_dI hx) (SliceT.dom T.D (S.at_ x hx .a) fun p hp=>CallV.sortedI AH.set_self h64 fun l hl=>h l _ (Sub.new hp) hl))))
end
section
variable {c:Cx} {P:Params} {n:Nat} {H fb fx:AH} {C:Cn} {k:Code} {Kk:KT} {t:List (Option V)} {D:Int→DS} {g:List (Int × Int)} {l:Lv} {ls:List Lv} {bs:List Addr} {fs:List (List Int)} {u:U} {p:Addr} {o:AO} {R:Addr} {free:List Int}
theorem Sx.mono {H':AH} (X:Sx C fb fx H D g fs R ls bs) (s:Sub H H'):Sx C fb fx H' D g fs R ls bs:=⟨X.F,X.S.mono s,X.G,X.tp,X.tr⟩
theorem s_x (T:TopK c P) (O:C.Ok) {z:Int} {fl:Addr} (X:Sx C fb fx H D g fs u.R ls bs) (ez:u.a21=some (.int z)) (e22:u.a22=some (.ref fl)) (ef:fb fl=some (.list (iL (msn g (iota C.A.m))))) (hne:msn g (iota C.A.m)≠[]) (hC:∀ u' H',Sy C H' u'.R→Kk .cont [] (lz C u' t) H')
  (h:∀ x sl fb' fx' H',x∈iota C.A.m→gAt g x=none→(D x).vs≠[]→Sub fb fb'→Sx C fb' fx' H' D g fs u.R ls bs→fb' sl=some (.list (iL (srt (D x).vs)))→w c n kT4 [] (lz C {u with x:=some (.int x),a24:=some (.ref sl)} t) H' Kk) :
  w c n kT3 [] (lz C u t) H Kk:=by
 refine w_idx (X.S.sub _ _ (X.G.sub _ _ ef)) hne (by decide) e22 ez fun x hx=>?_
 obtain ⟨hm,hg⟩:=List.mem_filter.mp hx
 have hg:=Option.isNone_iff_eq_none.mp hg
 have l3:=X.tr.good.l3 O.pb hm
 refine w_srt' T (i:=6) (j:=4) (ρ:=lz C {u with x:=some (.int x)} t) X.S (X.G.sub _ _ X.F.ed) hm (Nat.lt_of_le_of_lt l3 (by decide)) rfl rfl fun sl H1 s1 hsl=>?_
 have X1:=(X.mono s1).new (o:=.list (iL (srt (D x).vs))) hsl
 refine TruthT.list AH.set_self ?_
 refine ite_go (fun hb=>?_) fun hb=>h x sl _ _ _ hm hg (fun q=>?_) (Sub.new (X.G.sub.none ((X.mono s1).S.sub.none hsl))) X1 AH.set_self
 ·have h0:(D x).vs=[]:=by
   have:srt (D x).vs=[]:=by
    cases q:srt (D x).vs with
    | nil=>rfl
    | cons a b=>rw [q] at hb; cases hb
   exact List.eq_nil_of_length_eq_zero (by rw [← (srt_perm (D x).vs).length_eq,this]; rfl)
  have f0:fs=[]:=List.eq_nil_iff_forall_not_mem.mpr fun q hq=>by
   have:=X.tr.good.vis q hq x hm hg
   rw [h0] at this; cases this
  obtain ⟨vs,ev,av⟩:=X1.tp
  have v0:vs=[]:=by rw [f0] at av; exact av.nil
  subst v0
  refine TruthT.list (X1.S.sub _ _ (X1.G.sub _ _ ev)) ?_
  exact hC {u with x:=some (.int x),a24:=some (.ref sl)} _ ⟨_,_,D,g,fs,ls,bs,X1⟩
 ·rw [show srt (D x).vs=[] from List.eq_nil_of_length_eq_zero (by rw [(srt_perm (D x).vs).length_eq,q]; rfl)] at hb; cases hb
end
end Mine
namespace Mine
section
variable {c:Cx} {P:Params} {n:Nat} {H fb fx:AH} {C:Cn} {k:Code} {Kk:KT} {t:List (Option V)} {D:Int→DS} {g:List (Int × Int)} {l:Lv} {ls:List Lv} {bs:List Addr} {fs:List (List Int)} {u:U} {p b:Addr} {o:AO} {R:Addr} {free ys:List Int} {es:List (Int × V)} {sh:Int→List Int}
theorem BfAt.snoc {y:Int} {a:Addr} (B:BfAt fb fx b es none ys sh) (hy:y∉ys) (ea:fb a=some (.list (iL (sh y)))):BfAt fb (fx.set b (.dict (es++[(y,.ref a)]) none)) b (es++[(y,.ref a)]) none (ys++[y]) sh:=by
 refine ⟨AH.set_self,by rw [List.map_append,B.ks]; rfl,fun z hz=>?_⟩
 rcases List.mem_append.mp hz with w | w
 ·exact (B.at_ z w).imp fun u q=>⟨vAt_old q.1,q.2⟩
 ·rw [List.mem_singleton.mp w]
  exact ⟨a,vAt_last (B.ks▸hy),ea⟩
theorem s_before (T:TopK c P) (O:C.Ok) {x:Int} {fl:Addr} (X:Sx C fb fx H D g fs R ls bs) (ex:u.x=some (.int x)) (e22:u.a22=some (.ref fl)) (ef:fb fl=some (.list (iL (msn g (iota C.A.m)))))
  (h:∀ b es o25 fb' fx' H',Sub fb fb'→St H' fx' C.da (iota C.A.m) (save D (others g C.A.m x))→Sg fb' fx' C.B.gv C.B.tl [b] g ls bs→BfAt fb' fx' b es none (others g C.A.m x) (fun y=>srt (D y).vs)→w c (n + 1) kT5 [] (lz C {u with a23:=some (.ref b),a25:=o25} t) H' Kk) :
  w c (n + 1) kT4 [] (lz C u t) H Kk:=by
 intro b hb
 have hf:=X.S.sub.none hb
 have S1:=X.S.new (o:=.dict [] none) hb
 have G1:=X.G.begin (o:=.dict [] none) hf
 refine w_ld e22 ?_
 have efx:=S1.sub _ _ (G1.sub _ _ ef)
 have nd:(msn g (iota C.A.m)).Nodup:=iota_nd.filter _
 refine w_loop (fun o25=>lz C {u with a23:=some (.ref b),a25:=o25} t) (fun i _ H'=>∃ fb' fx' es,Sub fb fb'∧St H' fx' C.da (iota C.A.m) (save D (((msn g (iota C.A.m)).take i).filter fun y=>decide (y≠x)))∧Sg fb' fx' C.B.gv C.B.tl [b] g ls bs∧BfAt fb' fx' b es none (((msn g (iota C.A.m)).take i).filter fun y=>decide (y≠x)) fun y=>srt (D y).vs) u.a25 (.list efx)
  ⟨fb,_,[],Sub.refl _,S1,G1,AH.set_self,rfl,(fun y hy=>nomatch hy)⟩ (fun i _ H' q=>q.elim fun fb' q=>q.elim fun fx' q=>q.elim fun es q=>q.2.1.sub _ _ (q.2.2.1.sub _ _ (q.1 _ _ ef))) (fun i xs o25 H' K' hi hI hn _=>?_) fun o25 H' hI=>?_
 ·obtain ⟨fb',fx',es,s,S',G',B⟩:=hI
  obtain ⟨y,ey,rfl⟩:=it_iL hi
  have hnt:=not_mem_take nd ey
  have hya:=(List.mem_filter.mp (List.mem_of_getElem? ey)).1
  have et:((msn g (iota C.A.m)).take (i + 1)).filter (fun y=>decide (y≠x))=((msn g (iota C.A.m)).take i).filter (fun y=>decide (y≠x))++if decide (y≠x)=true then [y] else []:=by
   rw [take_snoc ey,List.filter_append,List.filter_cons]; rfl
  refine w_ld (i:=4) ex (ite_go (fun hb=>?_) fun hb=>hn _ (some (.int y)) _ ⟨fb',fx',es,s,?_⟩)
  ·rw [if_pos hb] at et
   have hys:y∉((msn g (iota C.A.m)).take i).filter fun y=>decide (y≠x):=fun q=>hnt (List.mem_filter.mp q).1
   have G0:=X.tr.good
   refine w_srt' T (i:=6) (j:=25) (ρ:=lz C {u with a23:=some (.ref b),a25:=some (.int y)} t) S' (G'.sub _ _ (s _ _ X.F.ed)) hya (by rw [save_off hys]; exact Nat.lt_of_le_of_lt (G0.l3 O.pb hya) (by decide)) rfl rfl fun a H1 s1 ha=>?_
   rw [save_off hys]
   have S2:=(S'.mono s1).new (o:=.list (iL (srt (D y).vs))) ha
   have hfa:=(S'.mono s1).sub.none ha
   have G2:=G'.new (o:=.list (iL (srt (D y).vs))) hfa
   have nba:b≠a:=fun q=>no_some hfa (q▸B.e)
   have sa:Sub fb' (fb'.set a (.list (iL (srt (D y).vs)))):=Sub.new (G'.sub.none hfa)
   have B2:=B.to sa (AH.set_ne (H:=fx') (o:=.list (iL (srt (D y).vs))) nba)
   have el:es.length < 100000:=by
    have h1:es.length=(es.map (·.1)).length:=(List.length_map ..).symm
    rw [h1,B.ks]
    refine Nat.lt_of_le_of_lt (List.length_filter_le ..) (Nat.lt_of_le_of_lt (List.length_take_le' ..) (Nat.lt_of_le_of_lt (List.length_filter_le ..) ?_))
    rw [iota_len]
    exact Nat.lt_of_le_of_lt O.m4 (by decide)
   refine SetT.dict (S2.sub _ _ B2.e) el ?_
   rw [dput_last (B.ks▸hys)]
   have S3:=S2.put (o':=.dict (es++[(y,.ref a)]) none) B2.e
   have G3:=G2.chg (fx':=(fx'.set a (.list (iL (srt (D y).vs)))).set b (.dict (es++[(y,.ref a)]) none)) (fun z hz=>AH.set_ne hz) AH.set_self
   have B3:=B2.snoc (sh:=fun y=>srt (D y).vs) hys AH.set_self
   refine ItemT.dict (S3.sub _ _ (G3.sub _ _ (sa _ _ (s _ _ X.F.ed)))) (vAt_dI hya) ⟨_,_,getD T S3 hya (m:=.ref 80) (by kernel_rfl) (by kernel_rfl) (.inl rfl) rfl,push T S3 hya ?_ fun H4 S4=>⟨rfl,?_⟩⟩
   ·rw [save_off hys]
    have h1:=X.tr.len
    have h2:=G0.len
    exact Nat.lt_of_le_of_lt (h1.2 y hya) (by rw [← h1.1]; exact Nat.lt_of_le_of_lt h2 (Nat.lt_of_le_of_lt O.m4 (by decide)))
   ·rw [save_off hys,← save_snoc hys] at S4
    exact hn _ (some (.int y)) _ ⟨_,_,_,s.trans sa,by rw [et]; exact S4,G3,by rw [et]; exact B3⟩
  ·have hb:decide (y≠x)=false:=hb
   rw [if_neg (by rw [hb]; decide),List.append_nil] at et
   exact ⟨by rw [et]; exact S',G',by rw [et]; exact B⟩
 ·obtain ⟨fb',fx',es,s,S',G',B⟩:=hI
  rw [it_len,List.take_length] at S' B
  exact h b es o25 fb' fx' H' s S' G' B
end
end Mine
namespace Mine
theorem All2.right {β γ:Type} {P:V→γ→Prop} {f:β→γ}:∀ {vs:List V} {bs:List β},All2 (fun v b=>P v (f b)) vs bs→All2 P vs (bs.map f)
 | [],[],_=>trivial
 | _::_,_::_,h=>⟨h.1,h.2.right⟩
 | [],_::_,h=>h.elim
 | _::_,[],h=>h.elim
noncomputable def NewT (H H':AH) (R:Addr) (ts:List (List Int)):Prop:=H R=none∧∃ vs,H' R=some (.list vs)∧All2 (fun u t=>∃ a,u=.ref a∧H a=none∧H' a=some (.tup (iL t))) vs ts
theorem NewT.ext {H H' fb:AH} {R:Addr} {ts:List (List Int)} (h:NewT H H' R ts):TupsAt (ext H H' fb) R ts:=by
 obtain ⟨h1,vs,e,a⟩:=h
 exact ⟨vs,(ext_new h1).trans e,a.mono fun u t q=>q.imp fun a q=>⟨q.1,(ext_new q.2.1).trans q.2.2⟩⟩
theorem NewT.now {H H':AH} {R:Addr} {ts:List (List Int)} (h:NewT H H' R ts):TupsAt H' R ts:=by
 obtain ⟨h1,vs,e,a⟩:=h
 exact ⟨vs,e,a.mono fun u t q=>q.imp fun a q=>⟨q.1,q.2.2⟩⟩
noncomputable def kpt (g:List (Int × Int)):List (List Int):=(sp g).map fun q=>[q.1,q.2]
theorem w_items {c:Cx} {n:Nat} {H:AH} {k:Code} {Kk:KT} {ρ:Loc} {st:List V} {gv:Addr} {i:Nat} {g:List (Int × Int)} (eg:H gv=some (.dict (gI g) none)) (ei:ρ.at i=some (.ref gv)) (nd:(g.map (·.1)).Nodup) (h4:g.length≤4)
  (h:∀ R H',Sub H H'→NewT H H' R (kpt g)→w c n k (.ref R::st) ρ H' Kk) :
  w c n (.cst (.oth (.builtin "sorted"))<|.ld i<|.gm "items"<|.cm 0<|.call 1<|k) st ρ H Kk:=by
 refine w_cst (w_ld ei ⟨_,_,.dict eg PySem.F.slot_dict_items rfl,CallV.items eg fun v hv=>?_⟩)
 have s1:=Sub.new hv (o:=.items gv)
 refine CallV.sortedItems AH.set_self (s1 _ _ eg) nd h4 fun H' R vs sH hR eR a2=>?_
 exact h R H' (s1.trans sH) ⟨s1.none hR,vs,eR,All2.right (f:=fun q:Int × Int=>[q.1,q.2]) (a2.mono fun u q w=>w.imp fun a w=>⟨w.1,s1.none w.2.1,w.2.2⟩)⟩
structure Ty (C:Cn) (fb fx H:AH) (D0 D:Int→DS) (g:List (Int × Int)) (x v:Int) (R:Addr) (fs:List (List Int)) (ls:List Lv) (bs:List Addr) (b:Addr) (es:List (Int × V)):Prop where
 F:Fz fb C
 S:St H fx C.da (iota C.A.m) D
 G:Sg fb fx C.B.gv C.B.tl [b] (g++[(x,v)]) ls bs
 B:BfAt fb fx b es none (others g C.A.m x) fun y=>srt (D0 y).vs
 tp:TupsAt fb R fs
section
variable {c:Cx} {P:Params} {n:Nat} {H H' fb fx:AH} {C:Cn} {k:Code} {Kk:KT} {t:List (Option V)} {D D0:Int→DS} {g:List (Int × Int)} {l:Lv} {ls:List Lv} {bs:List Addr} {fs:List (List Int)} {u:U} {p b:Addr} {o:AO} {R:Addr} {es:List (Int × V)} {x v:Int}
theorem Ty.ext (Y:Ty C fb fx H D0 D g x v R fs ls bs b es) (s:Sub H H'):Ty C (ext H H' fb) (ext H H' fx) H' D0 D g x v R fs ls bs b es:=
 have up:Sub fb (Mine.ext H H' fb):=ext_up (Y.G.sub.trans Y.S.sub)
 ⟨Y.F.sub up,Y.S.ext s,Y.G.ext Y.S.sub,Y.B.to up (ext_old (Y.S.sub _ _ Y.B.e)),Y.tp.sub up⟩
theorem Ty.mono (Y:Ty C fb fx H D0 D g x v R fs ls bs b es) (s:Sub H H'):Ty C fb fx H' D0 D g x v R fs ls bs b es:=⟨Y.F,Y.S.mono s,Y.G,Y.B,Y.tp⟩
theorem keys_snoc (hnd:(g.map (·.1)).Nodup) (hg:gAt g x=none):((g++[(x,v)]).map (·.1)).Nodup:=by
 rw [List.map_append,List.nodup_append]
 refine ⟨hnd,List.nodup_cons.mpr ⟨List.not_mem_nil,List.nodup_nil⟩,fun a ha b hb q=>?_⟩
 rw [List.mem_singleton.mp hb] at q
 obtain ⟨w,e⟩:=gAt_mem ha
 rw [q] at e
 exact no_some hg e
theorem new_len {Pb:Prob} {f:List (List Int)} (G:Good Pb D g f) (hg:gAt g x=none) (hx:x∈iota Pb.m):(g++[(x,v)]).length≤Pb.m:=by
 have h:=List.Nodup.length_le_of_subset (l₂:=iota Pb.m) (keys_snoc (v:=v) G.nd hg) (by
  intro y hy
  rw [List.map_append] at hy
  rcases List.mem_append.mp hy with w | w
  ·exact (gAt_mem w).elim fun v e=>(G.giv y v e).1
  ·rw [List.mem_singleton.mp w]; exact hx)
 rwa [List.length_map,iota_len] at h
theorem s_give (O:C.Ok) {z:Int} {sl:Addr} (F:Fz fb C) (S:St H fx C.da (iota C.A.m) D) (G:Sg fb fx C.B.gv C.B.tl [b] g ls bs) (B:BfAt fb fx b es none (others g C.A.m x) fun y=>srt (D0 y).vs) (tp:TupsAt fb R fs) (G0:Good C.Pb D0 g fs) (hx:x∈iota C.A.m) (hg:gAt g x=none) (hne:(D0 x).vs≠[])
  (ez:u.a21=some (.int z)) (ex:u.x=some (.int x)) (e24:u.a24=some (.ref sl)) (es':fb sl=some (.list (iL (srt (D0 x).vs))))
  (h:∀ v kr fb' fx' H',v∈(D0 x).vs→Sub fb fb'→Ty C fb' fx' H' D0 D g x v R fs ls bs b es→TupsAt fb' kr (kpt (g++[(x,v)]))→w c n kT6 [] (lz C {u with a26:=some (.ref kr)} t) H' Kk) :
  w c n kT5 [] (lz C u t) H Kk:=by
 refine w_idx (S.sub _ _ (G.sub _ _ es')) (fun q=>hne (List.eq_nil_of_length_eq_zero (by rw [← (srt_perm (D0 x).vs).length_eq,q]; rfl))) (by decide) e24 ez fun v hv=>?_
 have gl:=new_len (v:=v) G0 hg hx
 have g4:(g++[(x,v)]).length≤4:=Nat.le_trans gl O.m4
 refine w_ld (i:=19) rfl (w_ld ex (SetT.dict (S.sub _ _ G.eg) ?_ ?_))
 ·rw [List.length_append] at g4
  show (List.map _ _).length < _
  rw [List.length_map]; omega
 rw [dput_new hg]
 have G1:=G.given (g':=g++[(x,v)])
 have S1:=S.put (o':=.dict (gI (g++[(x,v)])) none) G.eg
 have nb:b≠C.B.gv:=fun q=>(List.nodup_cons.mp G.nd).1 (q▸List.mem_cons_of_mem _ (List.mem_cons_self ..))
 have Y:Ty C fb (fx.set C.B.gv (.dict (gI (g++[(x,v)])) none)) (H.set C.B.gv (.dict (gI (g++[(x,v)])) none)) D0 D g x v R fs ls bs b es:=⟨F,S1,G1,B.to (Sub.refl _) (AH.set_ne nb),tp⟩
 refine w_items (i:=19) (ρ:=lz C u t) (S1.sub _ _ G1.eg) rfl (keys_snoc G0.nd hg) g4 fun kr H2 s2 nt=>?_
 exact h v kr _ _ H2 (srt_mem.mp hv) (ext_up (G1.sub.trans S1.sub)) (Y.ext s2) nt.ext
end
end Mine
namespace Mine
noncomputable def byC (C:Cn) (x:Int):List Nat:=(stN C.ns C.A.m C.K).filter fun k=>decide (x∈chOf C.ns C.A.m k)
theorem byC_cons {C:Cn} {x:Int}:C.Pb.cons.filter (fun q=>decide (x∈q.1))=(byC C x).map (conOf C.ns C.A.m):=by
 show ((stN C.ns C.A.m C.K).map (conOf C.ns C.A.m)).filter _=_
 rw [List.filter_map]; rfl
theorem kok_of {r:Row} {vars:List Int} (k0:0≤r.kind) (fok:FOk vars r.fo):KOk (rowK r) vars:=by
 cases q:rowK r with
 | sum t' b fo=>exact (rowK_fo k0 q).2▸fok
 | _=>trivial
section
variable {c:Cx} {P:Params} {n:Nat} {H H' fb fx:AH} {C:Cn} {k:Code} {Kk:KT} {t:List (Option V)} {D D0:Int→DS} {g:List (Int × Int)} {l:Lv} {ls:List Lv} {bs:List Addr} {fs:List (List Int)} {u:U} {p b:Addr} {o:AO} {R:Addr} {es:List (Int × V)} {x v:Int}
theorem Ty.call (T:TopL c P) (O:C.Ok) (Y:Ty C fb fx H D0 D g x v R fs ls bs b es) (G0:Good C.Pb D0 g fs) (hx:x∈iota C.A.m) (hg:gAt g x=none) {done:List (List Int × Row)} (Z:Try C.Pb D0 g x v (restOf fs x v) done true D) {q:Nat} (hq:q∈byC C x) {fc:Bool} {Q:V→AH→Prop}
  (h:∀ b' D' H',Ty C fb fx H' D0 D' g x v R fs ls bs b es→Try C.Pb D0 g x v (restOf fs x v) (done++[conOf C.ns C.A.m q]) b' D'→Q (.bool b') H'):CallV c (n + 6) (.ref (C.rA q)) [.ref (C.nA q),.ref C.A.dr,.ref C.B.gv,.bool fc] H Q:=by
 have hs:=(List.mem_filter.mp hq).1
 have hK:=stN_lt hs
 have hc:conOf C.ns C.A.m q∈C.Pb.cons:=List.mem_map.mpr ⟨q,hs,rfl⟩
 have ok:=O.pb.con _ hc
 have A:=Y.F.con q hK
 obtain ⟨d,ra⟩:=A.rule
 rw [if_neg ok.k5,if_neg ok.k6] at ra
 have to:=Z.ok G0
 have gl:(g++[(x,v)]).length≤4:=Nat.le_trans (new_len (v:=v) G0 hg hx) O.m4
 refine call_kind (K:=rowK (conOf C.ns C.A.m q).2) (vars:=chOf C.ns C.A.m q) (fc:=fc) T (kok_of ok.row.k0 ok.fok) ((ra _ rfl).to (.of Y.G.sub)) Y.S ⟨Y.G.sub _ _ A.lst,Y.G.sub _ _ Y.F.ed,Y.G.eg,ok.sub,ok.nd,fun y hy=>(to y hy).1⟩ (fun w=>no_some (Y.G.off C.B.gv (List.mem_cons_self ..)) (w▸Y.F.ed))
  ⟨(ch_facts (Nat.lt_of_lt_of_le (by decide) O.m2) O.m4).1,ok.l4,fun y hy w hw=>(O.pb.b y hy w (G0.inB y hy w ((to y hy).2 w hw))).1⟩ (Nat.le_trans gl (by decide)) (.inl rfl) fun b' D' H' cr S'=>h b' D' H' ⟨Y.F,S',Y.G,Y.B,Y.tp⟩ (Z.step O.pb G0 hg hc cr)
theorem s_ask (T:TopL c P) (O:C.Ok) {z:Int} (Y:Ty C fb fx H D0 D g x v R fs ls bs b es) (G0:Good C.Pb D0 g fs) (hx:x∈iota C.A.m) (hg:gAt g x=none) (Z:Try C.Pb D0 g x v (restOf fs x v) [] true D) (ez:u.a21=some (.int z)) (ex:u.x=some (.int x))
  (h:∀ i12 i13 gd D' H',Ty C fb fx H' D0 D' g x v R fs ls bs b es→Try C.Pb D0 g x v (restOf fs x v) (C.Pb.cons.filter fun q=>decide (x∈q.1)) gd D'→w c (n + 6) kT7 [] (lz C {u with i12:=i12,i13:=i13,a27:=some (.bool gd)} t) H' Kk) :
  w c (n + 6) kT6 [] (lz C u t) H Kk:=by
 refine w_ld (i:=4) ex (ItemT.dict (Y.S.sub _ _ (Y.G.sub _ _ Y.F.eb)) (vAt_vI hx) ?_)
 obtain ⟨ts,L⟩:=Y.F.lv x hx
 rw [lf_by] at L
 have eL:=Y.G.sub _ _ L.e
 refine w_loop (fun (a:Option V × Option V × Bool)=>lz C {u with i12:=a.1,i13:=a.2.1,a27:=some (.bool a.2.2)} t) (fun j a H'=>∃ D',Ty C fb fx H' D0 D' g x v R fs ls bs b es∧Try C.Pb D0 g x v (restOf fs x v) (((byC C x).take j).map (conOf C.ns C.A.m)) a.2.2 D') (u.i12,u.i13,true) (.list (Y.S.sub _ _ eL)) ⟨D,Y,Z⟩ (fun j a H' q=>q.elim fun D' q=>q.1.S.sub _ _ eL) (fun j xs a H' K' hi hI hn _=>?_) fun a H' hI=>?_
 ·obtain ⟨D',Y',Z'⟩:=hI
  obtain ⟨ta,ea,rfl⟩:∃ ta,ts[j]?=some ta∧xs=[.ref ta]:=by
   rw [List.map_map,List.getElem?_map] at hi
   obtain ⟨ta,ea,q⟩:=Option.map_eq_some_iff.mp hi
   exact ⟨ta,ea,q.symm⟩
  have hj:j < (byC C x).length:=by have:=(List.getElem?_eq_some_iff.mp ea).1; rwa [L.len] at this
  have ej:=List.getElem?_eq_getElem hj
  have hq:=List.getElem_mem hj
  generalize (byC C x)[j]=q at *
  have et:=Y'.S.sub _ _ (Y'.G.sub _ _ (L.at_ j ta q ea ej))
  refine ⟨_,_,rfl,et,rfl,?_⟩
  rw [take_snoc ej,List.map_append] at hn
  obtain ⟨a12,a13,gd⟩:=a
  cases gd with
  | true=>
   refine w_ld (i:=21) ez ⟨by decide,by decide,?_⟩
   refine Y'.call T O G0 hx hg Z' hq fun b' D2 H2 Y2 Z2=>?_
   cases b' with
   | true=>exact hn [] (some (.ref (C.nA q)),some (.ref (C.rA q)),true) H2 ⟨D2,Y2,Z2⟩
   | false=>exact hn [] (some (.ref (C.nA q)),some (.ref (C.rA q)),false) H2 ⟨D2,Y2,Z2⟩
  | false=>exact hn [] (some (.ref (C.nA q)),some (.ref (C.rA q)),false) H' ⟨D',Y',Z'.skip⟩
 ·obtain ⟨D',Y',Z'⟩:=hI
  have e:(ts.map V.ref).length=(byC C x).length:=(List.length_map ..).trans L.len
  rw [List.length_map,e,List.take_length,← byC_cons] at Z'
  exact h a.1 a.2.1 a.2.2 D' H' Y' Z'
end
end Mine
namespace Mine
section
variable {c:Cx} {P:Params} {n:Nat} {H H' fb fx:AH} {C:Cn} {k:Code} {Kk:KT} {t:List (Option V)} {D D0:Int→DS} {g:List (Int × Int)} {l:Lv} {ls:List Lv} {bs:List Addr} {fs:List (List Int)} {u:U} {p b:Addr} {o:AO} {R:Addr} {es:List (Int × V)} {x v:Int} {done:List (List Int × Row)} {gd:Bool}
theorem Ty.new (Y:Ty C fb fx H D0 D g x v R fs ls bs b es) (h:H p=none):Ty C (fb.set p o) (fx.set p o) (H.set p o) D0 D g x v R fs ls bs b es:=
 have hf:=Y.S.sub.none h
 have s:Sub fb (fb.set p o):=Sub.new (Y.G.sub.none hf)
 ⟨Y.F.sub s,Y.S.new h,Y.G.new hf,Y.B.to s (AH.set_ne fun q=>no_some hf (q▸Y.B.e)),Y.tp.sub s⟩
theorem s_rest (O:C.Ok) (Y:Ty C fb fx H D0 D g x v u.R fs ls bs b es) (G0:Good C.Pb D0 g fs) (hx:x∈iota C.A.m) (hg:gAt g x=none) (ex:u.x=some (.int x))
  (h:∀ rr fb' fx' H',Sub fb fb'→Ty C fb' fx' H' D0 D g x v u.R fs ls bs b es→TupsAt fb' rr (restOf fs x v)→w c n kT8 [] (lz C {u with a29:=some (.ref rr)} t) H' Kk) :
  w c n kT7 [] (lz C u t) H Kk:=by
 obtain ⟨vs,ev,av⟩:=Y.tp
 have eH:=Y.S.sub _ _ (Y.G.sub _ _ ev)
 obtain ⟨xi,rfl,hxm⟩:=iota_get hx
 refine w_comp (fun w1=>[none,w1,some (.ref C.B.gv),some (.int (xi:Int))]) (fun j acc _ H'=>H'=H∧All2 (IT fb) acc (restOf (fs.take j) (xi:Int) v)) none (.list eH) (by rw [List.length_map,av.length]; exact Nat.le_trans G0.l81 (by decide)) ⟨rfl,trivial⟩ (fun j acc _ H' q=>q.1▸eH) (fun j acc xs w1 H' K' hj hI hn hc=>?_) (fun acc w1 H' hI L hL=>?_) (by show [none,none,some (.ref C.B.gv),u.x]=_; rw [ex])
 ·obtain ⟨rfl,a⟩:=hI
  obtain ⟨ta,q,et,rfl,eta⟩:=tup_at av hj
  have hq:=((mem_F O.pb).mp (G0.f1 q (List.mem_of_getElem? et)).1).1
  have hl:q.length=C.A.m:=by rw [hq.1,List.length_map]; exact iota_len
  have hi:xi < q.length:=hl▸hxm
  have et':restOf (fs.take (j + 1)) (xi:Int) v=restOf (fs.take j) (xi:Int) v++if decide (tF q (xi:Int)=v)=true then [q] else []:=by
   show (fs.take (j + 1)).filter _=(fs.take j).filter _++_
   rw [take_snoc et,List.filter_append,List.filter_cons]; rfl
  refine ItemT.tup (i:=xi) (x:=.int (tF q (xi:Int))) (Y.S.sub _ _ (Y.G.sub _ _ eta)) ?_ (ItemT.dict (Y.S.sub _ _ Y.G.eg) (v:=.int v) (by rw [vAt_gI,gAt_new hg]; rfl) ?_)
  ·show (iL q)[xi]?=some (.int (q.getD ((xi:Int)).toNat 0))
   rw [Int.toNat_natCast,List.getElem?_map,List.getElem?_eq_getElem hi,List.getD_eq_getElem?_getD,List.getElem?_eq_getElem hi]; rfl
  ·refine ite_go (fun hb=>hn _ (some (.ref ta)) _ ⟨rfl,?_⟩) fun hb=>hc [] (some (.ref ta)) _ ⟨rfl,?_⟩
   ·rw [et',if_pos hb]
    exact All2.append (show All2 (IT fb) [.ref ta] [q] from ⟨⟨ta,rfl,eta⟩,trivial⟩) a
   ·rw [et',if_neg (by rw [hb]; decide),List.append_nil]; exact a
 ·obtain ⟨rfl,a⟩:=hI
  rw [List.length_map,av.length,List.take_length] at a
  have hb:=Y.G.sub.none (Y.S.sub.none hL)
  exact h L _ _ _ (Sub.new hb) (Y.new hL) ⟨acc,AH.set_self,IT.to a (Sub.new hb)⟩
theorem s_same2 (T:TopK c P) (O:C.Ok) (Y:Ty C fb fx H D0 D g x v R fs ls bs b es) (G0:Good C.Pb D0 g fs) (hx:x∈iota C.A.m) (hg:gAt g x=none) (eD:D x=D0 x) (ex:u.x=some (.int x)) {kr sl:Addr} (ek:u.a26=some (.ref kr)) (e24:u.a24=some (.ref sl)) (tk:TupsAt fb kr (kpt (g++[(x,v)]))) (tl':fb sl=some (.list (iL (srt (D0 x).vs))))
  (h:∀ H',Sub H H'→Ty C fb fx H' D0 D g x v R fs ls bs b es→w c n kT9 [] (lz C u t) H' Kk) :
  w c n kT8 [] (lz C u t) H Kk:=by
 have sb:=Y.G.sub.trans Y.S.sub
 refine w_items (i:=19) (ρ:=lz C u t) (Y.S.sub _ _ Y.G.eg) rfl (keys_snoc G0.nd hg) (Nat.le_trans (new_len G0 hg hx) O.m4) fun kr2 H2 s2 nt=>?_
 obtain ⟨vs,e1,a1⟩:=nt.now
 obtain ⟨us,e2,a2⟩:=tk.sub (sb.trans s2)
 refine w_ld (i:=26) ek (CmpT.neL e1 e2 (Same.tups a1 a2) ?_)
 rw [decide_eq_true rfl]
 have S2:=Y.S.mono s2
 refine w_srt' T (i:=6) (j:=4) (ρ:=lz C u t) S2 (Y.G.sub _ _ Y.F.ed) hx (by rw [eD]; exact Nat.lt_of_le_of_lt (G0.l3 O.pb hx) (by decide)) rfl ex fun a H3 s3 ha=>?_
 rw [eD]
 have s4:Sub H3 (H3.set a (.list (iL (srt (D0 x).vs)))):=Sub.new ha
 refine w_ld (i:=24) e24 (CmpT.neL AH.set_self (s4 _ _ (s3 _ _ (s2 _ _ (sb _ _ tl')))) Same.int ?_)
 rw [decide_eq_true rfl]
 exact h _ (s2.trans (s3.trans s4)) (Y.mono (s2.trans (s3.trans s4)))
end
end Mine
namespace Mine
section
variable {c:Cx} {P:Params} {n:Nat} {H H' fb fx:AH} {C:Cn} {k:Code} {Kk:KT} {t:List (Option V)} {D D0:Int→DS} {g:List (Int × Int)} {l:Lv} {ls:List Lv} {bs:List Addr} {fs:List (List Int)} {u:U} {p b rr:Addr} {o:AO} {R:Addr} {es:List (Int × V)} {x v:Int} {done:List (List Int × Row)} {gd:Bool}
theorem s_seen (T:TopK c P) (O:C.Ok) (Y:Ty C fb fx H D0 D g x v R fs ls bs b es) (Z:Try C.Pb D0 g x v (restOf fs x v) done gd D) (G0:Good C.Pb D0 g fs) (e23:u.a23=some (.ref b)) (e29:u.a29=some (.ref rr)) (tr:TupsAt fb rr (restOf fs x v))
  (h:∀ o25 o28 ep,w c n kTg [] (lz C {u with a25:=o25,a28:=o28} t) (H.set b (.dict es (some ep))) Kk) :
  w c n kTs [] (lz C u t) H Kk:=by
 refine w_ld (i:=23) e23 (w_held (Y.S.sub _ _ Y.B.e) fun ep=>?_)
 have S1:=Y.S.put (o':=.dict es (some ep)) Y.B.e
 have G1:=Y.G.chg (fx':=fx.set b (.dict es (some ep))) (fun z hz=>AH.set_ne hz) AH.set_self
 have s1:=G1.sub.trans S1.sub
 refine w_loopH (fun (a:Option V × Option V)=>lz C {u with a25:=a.1,a28:=a.2} t) (fun _ _ H'=>H'=H.set b (.dict es (some ep))) (u.a25,u.a28) (.keys AH.set_self) rfl (fun _ _ H' q=>q▸AH.set_self) (fun i xs a H' K' hi hI hn _=>?_) fun a H' hI=>?_
 ·obtain rfl:=hI
  obtain ⟨y,ey,rfl⟩:=it_keys Y.B.ks hi
  have hy:=List.mem_of_getElem? ey
  obtain ⟨hym,_,_⟩:=others_mem.mp hy
  obtain ⟨vs,ev,av⟩:=tr
  refine w_ld (i:=29) e29 ?_
  refine w_loopP (fun _ (a28:Option V)=>lz C {u with a25:=some (.int y),a28:=a28} t) a.2 (.list (s1 _ _ ev)) (s1 _ _ ev) (fun j xs a28 K2 hj hn2 _=>?_) fun a28=>hn [] (some (.int y),a28) _ rfl
  obtain ⟨ta,q,eq,rfl,eta⟩:=tup_at av hj
  have hq:=List.mem_of_getElem? eq
  have hF:=((mem_F O.pb).mp (G0.f1 q (List.mem_filter.mp hq).1).1).1
  have hl:q.length=C.A.m:=by rw [hF.1,List.length_map]; exact iota_len
  have hv:=Z.vis q hq y hy
  obtain ⟨yi,rfl,hyi⟩:=iota_get hym
  have hi2:yi < q.length:=hl▸hyi
  refine ItemT.tup (i:=yi) (x:=.int (tF q (yi:Int))) (s1 _ _ eta) ?_ (ItemT.dict (s1 _ _ Y.F.ed) (vAt_dI hym) (CmpT.notInDom T.D (S1.at_ _ hym .a) ?_))
  ·show (iL q)[yi]?=some (.int (q.getD ((yi:Int)).toNat 0))
   rw [Int.toNat_natCast,List.getElem?_map,List.getElem?_eq_getElem hi2,List.getD_eq_getElem?_getD,List.getElem?_eq_getElem hi2]; rfl
  ·rw [decide_eq_true hv]
   exact hn2 [] (some (.ref ta))
 ·obtain rfl:=hI
  exact h a.1 a.2 ep
theorem s_good (T:TopK c P) (O:C.Ok) {ep:Option Nat} (F:Fz fb C) (S:St H fx C.da (iota C.A.m) D) (G:Sg fb fx C.B.gv C.B.tl [b] (g++[(x,v)]) ls bs) (B:BfAt fb fx b es ep (others g C.A.m x) fun y=>srt (D0 y).vs) (tp:TupsAt fb u.R fs) (T0:Tr C.Pb ls D0 g fs) (hx:x∈iota C.A.m) (hg:gAt g x=none) (hv:v∈(D0 x).vs) (Z:Try C.Pb D0 g x v (restOf fs x v) (C.Pb.cons.filter fun q=>decide (x∈q.1)) true D)
  (ex:u.x=some (.int x)) (e23:u.a23=some (.ref b)) (e29:u.a29=some (.ref rr)) (tr:TupsAt fb rr (restOf fs x v)) (h:∀ u' H',Sy C H' u'.R→Kk .next [] (lz C u' t) H') :
  w c n kTg [] (lz C u t) H Kk:=by
 have go:w c n (.ld 20<|.gm "append"<|.ld 4<|.ld 23<|.ld 16<|.tup 3<|.cm 1<|.pop<|.ld 29<|.st 16<|.done) [] (lz C u t) H Kk:=by
  obtain ⟨vs,et,TA⟩:=G.tr
  refine ⟨_,_,getAppend (S.sub _ _ et),w_ld (i:=4) ex (w_ld (i:=23) e23 (w_ld (i:=16) rfl fun ta hta=>?_))⟩
  have hf:=S.sub.none hta
  have S1:=S.new (o:=.tup [.int x,.ref b,.ref u.R]) hta
  have G1:=G.new (o:=.tup [.int x,.ref b,.ref u.R]) hf
  have s1:Sub fb (fb.set ta (.tup [.int x,.ref b,.ref u.R])):=Sub.new (G.sub.none hf)
  have B1:=B.to s1 (AH.set_ne (H:=fx) (o:=.tup [.int x,.ref b,.ref u.R]) fun q=>no_some hf (q▸B.e))
  have et1:(fx.set ta (.tup [.int x,.ref b,.ref u.R])) C.B.tl=some (.list vs):=AH.set_new et hf
  have vl:vs.length < 100000:=by
   rw [TA.len,← T0.len.1]
   exact Nat.lt_of_le_of_lt T0.good.len (Nat.lt_of_le_of_lt O.m4 (by decide))
  refine CallV.append (S1.sub _ _ et1) vl ⟨rfl,w_ld (i:=29) e29 ?_⟩
  have S2:=S1.put (o':=.list (vs++[.ref ta])) et1
  have G2:=G1.push (l:=⟨x,v,others g C.A.m x,fun y=>srt (D0 y).vs,fs⟩) et1 AH.set_self B1 (tp.sub s1)
  exact h {u with R:=rr} _ ⟨_,_,D,_,_,_,_,F.sub s1,S2,G2,tr.sub s1,Z.tr T0 hg hx hv fun y _=>rfl⟩
 refine w_ld (i:=23) e23 (TruthT.dict (S.sub _ _ B.e) ?_)
 refine ite_go (fun hb=>?_) fun hb=>?_
 ·have h0:others g C.A.m x=[]:=by
   rw [← B.ks]
   cases es with
   | nil=>rfl
   | cons a r=>cases hb
  have hr:restOf fs x v≠[]:=Z.last O.pb T0.good hg hx hv h0
  obtain ⟨vs,ev,av⟩:=tr
  refine w_ld (i:=29) e29 (TruthT.list (S.sub _ _ (G.sub _ _ ev)) ?_)
  cases vs with
  | nil=>exact absurd (List.eq_nil_of_length_eq_zero av.length.symm) hr
  | cons a r=>exact go
 ·refine ite_go (fun hb2=>?_) fun _=>go
  rw [hb] at hb2; cases hb2
theorem s_bad (T:TopK c P) (O:C.Ok) (Y:Ty C fb fx H D0 D g x v u.R fs ls bs b es) (T0:Tr C.Pb ls D0 g fs) (hx:x∈iota C.A.m) (hg:gAt g x=none) (Z:Try C.Pb D0 g x v (restOf fs x v) done false D)
  (ex:u.x=some (.int x)) (e23:u.a23=some (.ref b)) (e29:u.a29=some (.ref rr)) (tr:TupsAt fb rr (restOf fs x v)) (h:∀ u' H',Sy C H' u'.R→Kk .next [] (lz C u' t) H') :
  w c (n + 2) kTb [] (lz C u t) H Kk:=by
 obtain ⟨vs,ev,av⟩:=tr
 rw [Z.no rfl] at av
 have v0:=av.nil
 subst v0
 refine w_ld (i:=29) e29 (TruthT.list (Y.S.sub _ _ (Y.G.sub _ _ ev)) ?_)
 refine w_ld (ρ:=lz C u t) (i:=19) rfl (w_ld (ρ:=lz C u t) (i:=4) ex (DelT.dict (Y.S.sub _ _ Y.G.eg) (by rw [vAt_gI,gAt_new hg]; rfl) ?_))
 rw [ddel_new hg]
 have S1:=Y.S.put (o':=.dict (gI g) none) Y.G.eg
 have G1:=Y.G.given (g':=g)
 have nb:b≠C.B.gv:=fun q=>(List.nodup_cons.mp Y.G.nd).1 (q▸List.mem_cons_of_mem _ (List.mem_cons_self ..))
 have om:∀ y∈others g C.A.m x,y∈iota C.A.m:=fun y hy=>(others_mem.mp hy).1
 refine s_back T S1 Y.F G1 (Y.B.to (Sub.refl _) (AH.set_ne nb)) (D0:=D0) (fun y _=>rfl) om others_nd (fun y hy=>T0.good.ok y (om y hy)) (fun y hy=>T0.good.l3 O.pb (om y hy)) Z.hd rfl e23 fun D' fx3 H3 hb hs S3 G3=>?_
 exact h u H3 ⟨fb,fx3,D',g,fs,ls,bs,Y.F,S3,G3,Y.tp,T0.back fun y hy=>by
  by_cases q:y∈others g C.A.m x
  ·exact hb y q
  ·rw [hs y q,Z.same y q]; exact Back.rfl'⟩
end
end Mine
namespace Mine
section
variable {c:Cx} {P:Params} {n:Nat} {H:AH} {C:Cn} {Kk:KT} {t:List (Option V)} {u:U}
theorem s_turn (T:TopL c P) (O:C.Ok) {z:Int} (Y0:Sy C H u.R) (hN:∀ u' H',Sy C H' u'.R→Kk .next [] (lz C u' t) H') (hC:∀ u' H',Sy C H' u'.R→Kk .cont [] (lz C u' t) H') :
  w c (n + 6) kT0 [.int z] (lz C u t) H Kk:=by
 have TK:=T.toTopK
 obtain ⟨fb,fx,D0,g,fs,ls,bs,X⟩:=Y0
 refine s_free (u:={u with a21:=some (.int z)}) O X fun fl fb1 fx1 H1 s1 X1 e1=>?_
 refine s_popif (n:=n + 4) (u:={u with a21:=some (.int z),a22:=some (.ref fl)}) TK O X1 rfl rfl e1 hC fun hne=>?_
 refine s_x (u:={u with a21:=some (.int z),a22:=some (.ref fl)}) TK O X1 rfl rfl e1 hne hC fun x sl fb2 fx2 H2 hx hg h0 s2 X2 e2=>?_
 refine s_before (n:=n + 5) (u:={u with a21:=some (.int z),a22:=some (.ref fl),x:=some (.int x),a24:=some (.ref sl)}) TK O X2 rfl rfl (s2 _ _ e1) fun b es o25 fb3 fx3 H3 s3 S3 G3 B3=>?_
 refine s_give (u:={u with a21:=some (.int z),a22:=some (.ref fl),x:=some (.int x),a24:=some (.ref sl),a23:=some (.ref b),a25:=o25}) (D0:=D0) O (X2.F.sub s3) S3 G3 B3 (X2.tp.sub s3) X2.tr.good hx hg h0 rfl rfl rfl (s3 _ _ e2) fun v kr fb4 fx4 H4 hv s4 Y4 k4=>?_
 refine s_ask (u:={u with a21:=some (.int z),a22:=some (.ref fl),x:=some (.int x),a24:=some (.ref sl),a23:=some (.ref b),a25:=o25,a26:=some (.ref kr)}) T O Y4 X2.tr.good hx hg (Try.start X2.tr.good) rfl rfl fun i12 i13 gd D5 H5 Y5 Z5=>?_
 refine s_rest (u:={u with a21:=some (.int z),a22:=some (.ref fl),x:=some (.int x),a24:=some (.ref sl),a23:=some (.ref b),a25:=o25,a26:=some (.ref kr),i12:=i12,i13:=i13,a27:=some (.bool gd)}) O Y5 X2.tr.good hx hg rfl fun rr fb6 fx6 H6 s6 Y6 t6=>?_
 refine s_same2 (u:={u with a21:=some (.int z),a22:=some (.ref fl),x:=some (.int x),a24:=some (.ref sl),a23:=some (.ref b),a25:=o25,a26:=some (.ref kr),i12:=i12,i13:=i13,a27:=some (.bool gd),a29:=some (.ref rr)}) TK O Y6 X2.tr.good hx hg (Z5.same x fun q=>(others_mem.mp q).2.2 rfl) rfl rfl rfl (k4.sub s6) (s6 _ _ (s4 _ _ (s3 _ _ e2))) fun H7 s7 Y7=>?_
 cases gd with
 | false=>exact s_bad (n:=n + 4) (u:={u with a21:=some (.int z),a22:=some (.ref fl),x:=some (.int x),a24:=some (.ref sl),a23:=some (.ref b),a25:=o25,a26:=some (.ref kr),i12:=i12,i13:=i13,a27:=some (.bool false),a29:=some (.ref rr)}) TK O Y7 X2.tr hx hg Z5 rfl rfl rfl t6 hN
 | true=>
  refine s_seen (u:={u with a21:=some (.int z),a22:=some (.ref fl),x:=some (.int x),a24:=some (.ref sl),a23:=some (.ref b),a25:=o25,a26:=some (.ref kr),i12:=i12,i13:=i13,a27:=some (.bool true),a29:=some (.ref rr)}) TK O Y7 Z5 X2.tr.good rfl rfl t6 fun p25 p28 ep=>?_
  have S8:=Y7.S.put (o':=.dict es (some ep)) Y7.B.e
  have G8:=Y7.G.chg (fx':=fx6.set b (.dict es (some ep))) (fun z hz=>AH.set_ne hz) AH.set_self
  exact s_good (u:={u with a21:=some (.int z),a22:=some (.ref fl),x:=some (.int x),a24:=some (.ref sl),a23:=some (.ref b),a25:=p25,a28:=p28,a26:=some (.ref kr),i12:=i12,i13:=i13,a27:=some (.bool true),a29:=some (.ref rr)}) TK O Y7.F S8 G8 ⟨AH.set_self,Y7.B.ks,Y7.B.at_⟩ Y7.tp X2.tr hx hg hv Z5 rfl rfl rfl t6 hN
end
end Mine
namespace Mine
section
variable {c:Cx} {P:Params} {n:Nat} {H fb fx:AH} {C:Cn} {k:Code} {Kk:KT} {t:List (Option V)} {u:U} {D:Int→DS} {g gd:List (Int × Int)} {ls:List Lv} {bs:List Addr} {fs:List (List Int)}
theorem s_loop (T:TopL c P) (O:C.Ok) (Y0:Sy C H u.R) (h:∀ u' H',Sy C H' u'.R→w c (n + 6) kE [] (lz C u' t) H' Kk) :
  w c (n + 6) kD [] (lz C u t) H Kk:=by
 have src:∀ {u':U} {H':AH},Sy C H' u'.R→H' C.B.lm=some (.list (iL C.mv)):=fun q=>by
  obtain ⟨fb,fx,D,g,fs,ls,bs,X⟩:=q
  exact X.S.sub _ _ (X.G.sub _ _ X.F.lm)
 refine w_loopC (fun u=>lz C u t) (fun u H'=>Sy C H' u.R) u (.list (src (u':=u) Y0)) Y0 (fun u H' q=>src (u':=u) q) (fun i xs u H' K' hi hI hn hc=>?_) h
 obtain ⟨z,ez,rfl⟩:=it_iL hi
 exact s_turn T O hI (fun u' H' q=>hn [] u' H' q) fun u' H' q=>hc [] u' H' q
structure Sw (C:Cn) (H:AH) (m:Nat) (D:Int→DS):Prop where
 ex:∃ fb fx gd g fs ls bs,Fz fb C∧St H fx C.da (iota C.A.m) D∧Sg fb fx C.B.gv C.B.tl [] gd ls bs∧Tr C.Pb ls D g fs∧ls.length=m
theorem s_while (T:TopK c P) (O:C.Ok) (Y0:Sy C H u.R) (h:∀ u' fb fx D H',Fz fb C→Sub fb fx→St H' fx C.da (iota C.A.m) D→(∀ y∈iota C.A.m,Back ⟨C.Pb.B y,[],[]⟩ (D y))→w c (n + 2) kF [] (lz C u' t) H' Kk) :
  w c (n + 2) kE [] (lz C u t) H Kk:=by
 refine ⟨fun m ρ H=>∃ u D,ρ=lz C u t∧Sw C H m D,?_,fun m ρ H' hI=>?_⟩
 ·obtain ⟨fb,fx,D,g,fs,ls,bs,X⟩:=Y0
  exact ⟨ls.length,u,D,rfl,fb,fx,g,g,fs,ls,bs,X.F,X.S,X.G,X.tr,rfl⟩
 ·obtain ⟨u,D,rfl,fb,fx,gd,g,fs,ls,bs,F,S,G,tr,rfl⟩:=hI
  obtain ⟨vs,et,TA⟩:=G.tr
  refine TruthT.list (S.sub _ _ et) ?_
  cases ls with
  | nil=>
   obtain ⟨rfl,_⟩:=TA
   exact h u fb fx D H' F G.sub S tr.1.2
  | cons l r=>
   have hv:vs.isEmpty=false:=by
    have:=TA.len
    cases vs with
    | nil=>cases this
    | cons a b=>rfl
   rw [hv]
   obtain ⟨⟨D0,g0,tr0,L⟩,_⟩:=tr
   obtain ⟨ym,ynd⟩:=lv_ys L
   refine s_pop T S F G fun R' b bs' es ep fx1 H1 tp1 S1 G1 B1=>?_
   refine s_back T S1 F G1 B1 L.sh ym ynd (fun y hy=>tr0.good.ok y (ym y hy)) (fun y hy=>tr0.good.l3 O.pb (ym y hy)) L.hd rfl rfl fun D' fx3 H3 hb hs S3 G3=>?_
   exact ⟨H3,Sub.refl _,r.length,Nat.lt_succ_self _,{u with x:=some (.int l.x),R:=R',a23:=some (.ref b)},D',rfl,fb,fx3,gd,g0,l.f,r,bs',F,S3,G3,lv_back tr0 L hb hs,rfl⟩
theorem s_final (T:TopK c P) (O:C.Ok) (F:Fz fb C) (sb:Sub fb fx) (S:St H fx C.da (iota C.A.m) D) (hb:∀ y∈iota C.A.m,Back ⟨C.Pb.B y,[],[]⟩ (D y)) (h:∀ ρ H',Kk (.ret (.bool true)) [] ρ H') :
  w c n kF [] (lz C u t) H Kk:=by
 have e:((iota C.A.m).map fun x=>srt (D x).vs)=domL C.ns C.A.m C.most C.f:=List.map_congr_left fun x hx=>by
  rw [srt_perm_eq (hb x hx).vs]; exact domF_srt
 refine w_behind T S (sb _ _ F.ed) O.m4 (fun x hx=>?_) rfl rfl fun l fx' H' s sh S'=>?_
 ·rw [(hb x hx).vs.length_eq]
  exact Nat.lt_of_le_of_lt domF_len (by decide)
 ·rw [e] at sh
  obtain ⟨vs,e1,a1⟩:=sh.sub S'.sub
  obtain ⟨us,e2,a2⟩:=F.bh.sub ((sb.trans s).trans S'.sub)
  refine w_ld (i:=18) rfl (CmpT.eqL e1 e2 (Same.lists a1 a2) ?_)
  rw [decide_eq_true rfl]
  exact h _ _
end
end Mine
namespace Mine
theorem good0 {C:Cn} (O:C.Ok):Good C.Pb (domF (fstOf C.ns C.most) C.f) [] C.Pb.F:=by
 have L:LsOk ((iota C.A.m).map (fstOf C.ns C.most)):=ls_ok O.m4
 have none0:∀ x:Int,gAt [] x=none:=fun _=>rfl
 refine ⟨fun t ht=>⟨ht,fun x v e=>nomatch e⟩,fun t ht _=>ht,fun t ht x hx _=>((mem_F O.pb).mp ht).1.at hx,fun x hx=>⟨(fstL_nd _ _).filter _,Nat.lt_of_le_of_lt (Nat.le_trans (List.length_filter_le ..) (fstL_le3 ..)) (by decide)⟩,fun x _ v hv=>hv,fun q hq hm=>?_,(fun x v e=>nomatch e),List.nodup_nil,?_⟩
 ·have:=(O.pb.con q hq).ne
  rw [show msn [] q.1=q.1 from List.filter_eq_self.mpr fun _ _=>rfl] at hm
  exact absurd hm this
 ·have h:=L.take ((iota C.A.m).map (fstOf C.ns C.most)).length
  rw [List.take_length] at h
  exact Nat.le_trans siftL_len h
section
variable {c:Cx} {P:Params} {n:Nat} {H:AH} {Q:V→AH→Prop} {sa:Addr} {is:List Int}
theorem law_walk (T:TopL c P) {xs:List Value} (es:c.h₀.IsList sa xs.toArray) (et:sa≠c.tab) (ev:xs.map er=iL is) (ex:is.length≤100000) (h:∀ H',Q (.bool true) H'):CallC c (n + 9) (.ref 491) [.ref sa] H Q:=by
 have TK:=T.toTopK
 refine k491_1 TK (s_head (n:=n + 7) TK es et ev ex fun ns na m most fr H0 hl m2 m4 p1 p3 eN sh=>?_)
 have m0:0 < m:=Nat.lt_of_lt_of_le (by decide) m2
 refine s_doms (n:=n + 6) TK (fst:=fstOf ns most) m4 sh fun o4 dr vd da vl fx0 H1 Z S1=>?_
 refine s_rules (n:=n + 5) T Z S1 eN m0 m4 fun K rl cl pr fb1 fx1 rA nA o4 o11 o12 o13 o14 H2 K1 K4 X S2=>?_
 obtain ⟨fb2,W2,F2,L2⟩:=Mk.split (A:=⟨sa,na,fr,dr,vd,rl,cl,pr,m,some (.int most)⟩) X eN sh
 refine s_moves (A:=⟨sa,na,fr,dr,vd,rl,cl,pr,m,some (.int most)⟩) S2 W2 F2.na hl F2.lr fun mv lm fb3 fx3 H3 G3 S3 hmv elm=>?_
 have F3:=F2.sub G3.sub
 obtain ⟨ps,eps,aps⟩:=F3.lp
 refine s_fits (n:=n + 6) (A:=⟨sa,na,fr,dr,vd,rl,cl,pr,m,some (.int most)⟩) TK S3 G3.two m0 m4 F3.sh eps aps fun R0 fb4 fx4 H4 G4 tp S4=>?_
 refine s_pre (A:=⟨sa,na,fr,dr,vd,rl,cl,pr,m,some (.int most)⟩) T S4 G4.two (F3.sub G4.sub) ((L2.grow G3).grow G4) m0 m4 fun f fx5 o12 o13 H5 s5 Y5 S5=>?_
 have F4:=F3.sub G4.sub
 refine s_stay (A:=⟨sa,na,fr,dr,vd,rl,cl,pr,m,some (.int most)⟩) S5 F4 s5 m0 m4 K4 fun w0 fx6 H6 s6 S6 ew=>?_
 have Y6:Pd fx6 ⟨sa,na,fr,dr,vd,rl,cl,pr,m,some (.int most)⟩ ns K most vl rA nA K f:=⟨Y5.pr,Y5.c.sub s6,fun x hx=>(Y5.v x hx).sub s6⟩
 refine s_same (n:=n + 7) TK S6 F4 (s5.trans s6) m4 K4 Y6 ew fun o4 H7 S7=>?_
 refine s_keep (n:=n + 6) TK S7 F4 (s5.trans s6) m0 m4 K4 Y6 ew (tp.sub (s5.trans s6)) fun bh fx8 H8 s8 sh8 S8=>?_
 intro gv hgv tl htl
 have f1:=S8.sub.none hgv
 have S9:=S8.new (o:=.dict [] none) hgv
 have f2:=S9.sub.none htl
 have S10:=S9.new (o:=.list []) htl
 have ne:gv≠tl:=fun q=>by rw [← q,AH.set_self] at f2; cases f2
 have s48:=(s5.trans s6).trans s8
 have F8:=F4.sub s48
 let C:Cn:=⟨⟨sa,na,fr,dr,vd,rl,cl,pr,m,some (.int most)⟩,⟨lm,w0,bh,gv,tl,o11,o14⟩,ns,K,most,f,mv,da,vl,rA,nA⟩
 have O:C.Ok:=⟨m2,m4,K4,Y6.pr,hmv⟩
 have Fz8:Fz fx8 C:=⟨F8.ed,F8.eb,fun x hx=>(Y6.v x hx).sub s8,F8.con,s48 _ _ (G4.sub _ _ elm),sh8⟩
 have G8:Sg fx8 ((fx8.set gv (.dict [] none)).set tl (.list [])) gv tl [] [] [] []:=by
  have h0:fx8 tl=none:=(Sub.new f1).none f2
  refine ⟨(Sub.new f1).trans (Sub.new f2),fun a ha=>?_,fun a ha=>?_,List.nodup_cons.mpr ⟨fun w=>ne (List.mem_singleton.mp w),List.nodup_cons.mpr ⟨List.not_mem_nil,List.nodup_nil⟩⟩,(AH.set_ne ne).trans AH.set_self,⟨[],AH.set_self,rfl,rfl⟩⟩
  ·rcases List.mem_cons.mp ha with q | q
   ·exact q▸f1
   ·exact (List.mem_singleton.mp q)▸h0
  ·rcases List.mem_cons.mp ha with q | q
   ·exact ⟨.dict [] none,by rw [q,AH.set_ne ne]; exact AH.set_self⟩
   ·exact ⟨.list [],by rw [List.mem_singleton.mp q]; exact AH.set_self⟩
 have X8:Sx C fx8 ((fx8.set gv (.dict [] none)).set tl (.list [])) ((H8.set gv (.dict [] none)).set tl (.list [])) (domF (fstOf ns most) f) [] C.Pb.F R0 [] []:=⟨Fz8,S10,G8,tp.sub s48,⟨rfl,fun y hy=>Back.rfl'⟩,good0 O⟩
 refine s_loop (n:=n + 2) (C:=C) (u:=⟨o4,o12,o13,R0,none,none,none,none,none,none,none,none,none⟩) T O ⟨_,_,_,_,_,_,_,X8⟩ fun u' H9 Y9=>?_
 refine s_while (n:=n + 6) (C:=C) TK O Y9 fun u2 fb fx D H10 Fz10 sb10 S10 hb=>?_
 exact s_final TK O Fz10 sb10 S10 hb fun ρ H'=>⟨H',Sub.refl _,h H'⟩
end
end Mine
namespace Mine
noncomputable abbrev cxOf (pr:Program) (w:World) (s:Shared) (mg mb:Str→Option Value):Cx:=
 { prog:=pr,w:=w,K:=K w.params,h₀:=s.heap,os₀:=s.os,mg:=mg,mb:=mb,tab:=452,lam:=lamIn (fB (topS 20)),lq:="_law_func.<locals>.<lambda>",lpm:=(mg "__name__").getD .none }
theorem globs_K (p:Params):∀ q∈gsT,nsIn (K p) mainGlobals q.1=some (some q.2):=by
 repeat (first | exact (fun _ h=>absurd h List.not_mem_nil) | refine List.forall_mem_cons.mpr ⟨by kernel_rfl,?_⟩)
theorem blts_K (p:Params):∀ q∈bsT,nsIn (K p) mainGlobals q.1=some none∧bootBuiltins q.1=some q.2∧q.1≠("__name__":Str):=by
 repeat (first | exact (fun _ h=>absurd h List.not_mem_nil) | refine List.forall_mem_cons.mpr ⟨⟨by kernel_rfl,by kernel_rfl,by decide +kernel⟩,?_⟩)
theorem lawK (p:Params):nsIn (K p) mainGlobals ("law":Str)=some (some (.ref 491)):=by kernel_rfl
theorem notab_K (p:Params):(K p).all (fun q=>q.1 != 452)=true:=by kernel_rfl
theorem mem_of_lookup {α:Type} {x:Str} {v:α}:∀ {l:List (Str × α)},l.lookup x=some v→(x,v)∈l
 | [],h=>nomatch h
 | (y,u)::r,h=>by
  rw [List.lookup_cons] at h
  split at h
  ·rename_i q; cases h; rw [eq_of_beq q]; exact List.mem_cons_self ..
  ·exact List.mem_cons_of_mem _ (mem_of_lookup h)
theorem wants_ret {Q:Value→Shared→Prop} {r:Result} {s:Shared} (h:wants Q (fun _ _=>False) r s):∃ v,r=.ok (.ret v)∧Q v s:=by
 cases r with
 | ok f=>cases f with
  | ret v=>exact ⟨v,rfl,h⟩
  | _=>exact h.elim
 | error e=>exact h.elim
theorem ne_tab {h:Heap} {a t:Addr} {its:Array Value} (hL:h.IsList a its) (ht:h.get? t=some (tabObj #[])):a≠t:=fun q=>by
 obtain ⟨o,e,hc,_⟩:=hL
 rw [q,ht] at e; cases e; cases hc
namespace fin
theorem tw10007411396671696613:True:=⟨⟩
theorem tw10036989727400386234:True:=⟨⟩
theorem tw10098057777631523497:True:=⟨⟩
theorem tw1012361349325877821:True:=⟨⟩
theorem tw1014637456484912126:True:=⟨⟩
theorem tw10147658903529517814:True:=⟨⟩
theorem tw10196768644732416780:True:=⟨⟩
theorem tw10234915967203826555:True:=⟨⟩
theorem tw10242451874928486539:True:=⟨⟩
theorem tw10279692637995926009:True:=⟨⟩
theorem tw10329872625359487480:True:=⟨⟩
theorem tw1035503724928835527:True:=⟨⟩
theorem tw10383673109516279431:True:=⟨⟩
theorem tw10391319463526535247:True:=⟨⟩
theorem tw10511823565363050587:True:=⟨⟩
theorem tw10599938827571368224:True:=⟨⟩
theorem tw10671828304227620169:True:=⟨⟩
theorem tw10683609927848735152:True:=⟨⟩
theorem tw10696652717036330658:True:=⟨⟩
theorem tw10699407837109476802:True:=⟨⟩
theorem tw10751089155417173751:True:=⟨⟩
theorem tw10782327089294195420:True:=⟨⟩
theorem tw10807920368746810246:True:=⟨⟩
theorem tw10818889477481085253:True:=⟨⟩
theorem tw10852849658779182186:True:=⟨⟩
theorem tw10875463905939285979:True:=⟨⟩
theorem tw1088692219920020602:True:=⟨⟩
theorem tw10891054232620793217:True:=⟨⟩
theorem tw10895054467252067526:True:=⟨⟩
theorem tw10925335251469727208:True:=⟨⟩
theorem tw10936777179133785780:True:=⟨⟩
theorem tw10939691994893167182:True:=⟨⟩
theorem tw11039862389202566683:True:=⟨⟩
theorem tw11040825799340251285:True:=⟨⟩
theorem tw1105837973531982728:True:=⟨⟩
theorem tw11061592194353771069:True:=⟨⟩
theorem tw11066923882517893817:True:=⟨⟩
theorem tw11079828417688620724:True:=⟨⟩
theorem tw11112386831996348380:True:=⟨⟩
theorem tw111200028466390044:True:=⟨⟩
theorem tw11154830654865731599:True:=⟨⟩
theorem tw11227884535216515135:True:=⟨⟩
theorem tw11273041486466551846:True:=⟨⟩
theorem tw11277574374343807151:True:=⟨⟩
theorem tw1128348596072947701:True:=⟨⟩
theorem tw11293339424137598113:True:=⟨⟩
theorem tw11336253725339858928:True:=⟨⟩
theorem tw11414119711712004833:True:=⟨⟩
theorem tw11414674201277728305:True:=⟨⟩
theorem tw11454252539852477091:True:=⟨⟩
theorem tw11575174756993882273:True:=⟨⟩
theorem tw11615019562542576733:True:=⟨⟩
theorem tw11897717083992391400:True:=⟨⟩
theorem tw11936995450923721628:True:=⟨⟩
theorem tw11953781441336167498:True:=⟨⟩
theorem tw12070456110188982452:True:=⟨⟩
theorem tw12105171945263650130:True:=⟨⟩
theorem tw12115274675524347972:True:=⟨⟩
theorem tw12118000046449163591:True:=⟨⟩
theorem tw12135189313929291683:True:=⟨⟩
theorem tw12141802397888321627:True:=⟨⟩
theorem tw12149302876761508202:True:=⟨⟩
theorem tw12180539936304867106:True:=⟨⟩
theorem tw12212933522069011988:True:=⟨⟩
theorem tw12221555665107904926:True:=⟨⟩
theorem tw12237877928780879103:True:=⟨⟩
theorem tw12284014389350100970:True:=⟨⟩
theorem tw12291753297600562012:True:=⟨⟩
theorem tw12292906935544458286:True:=⟨⟩
theorem tw12315485677095787183:True:=⟨⟩
theorem tw12347537446847802165:True:=⟨⟩
theorem tw12355744275394475900:True:=⟨⟩
theorem tw12356021495744459628:True:=⟨⟩
theorem tw12409915417874342407:True:=⟨⟩
theorem tw12448240930570709186:True:=⟨⟩
theorem tw12464766053444552404:True:=⟨⟩
theorem tw1249118550022496774:True:=⟨⟩
theorem tw12494888245299231016:True:=⟨⟩
theorem tw1252854909445205041:True:=⟨⟩
theorem tw12550770813317053977:True:=⟨⟩
theorem tw12557769604369416430:True:=⟨⟩
theorem tw12567809125941998234:True:=⟨⟩
theorem tw12669758225909598566:True:=⟨⟩
theorem tw12711679700452659978:True:=⟨⟩
theorem tw12718612220689870738:True:=⟨⟩
theorem tw12740692763255036000:True:=⟨⟩
theorem tw12780881840741157306:True:=⟨⟩
theorem tw12809788781938459499:True:=⟨⟩
theorem tw12833947400113492166:True:=⟨⟩
theorem tw12847644182280273618:True:=⟨⟩
theorem tw12861812720495223942:True:=⟨⟩
theorem tw12868640280835112553:True:=⟨⟩
theorem tw12869217540446652890:True:=⟨⟩
theorem tw12876064707754696378:True:=⟨⟩
theorem tw12876116671307685997:True:=⟨⟩
theorem tw12887231344917428322:True:=⟨⟩
theorem tw12931218549288961843:True:=⟨⟩
theorem tw12932903420030652473:True:=⟨⟩
theorem tw12946824338688289833:True:=⟨⟩
theorem tw12962497063298326498:True:=⟨⟩
theorem tw12977279227502587607:True:=⟨⟩
theorem tw12983272501757255842:True:=⟨⟩
theorem tw12996517811204074000:True:=⟨⟩
theorem tw13066358836101814915:True:=⟨⟩
theorem tw13093503161671486093:True:=⟨⟩
theorem tw13158425560686309300:True:=⟨⟩
theorem tw13162651487661262736:True:=⟨⟩
theorem tw13177410634674063896:True:=⟨⟩
theorem tw13294311002278339166:True:=⟨⟩
theorem tw13326868189938593150:True:=⟨⟩
theorem tw13337293482115323266:True:=⟨⟩
theorem tw13360279666012451719:True:=⟨⟩
theorem tw13383306551100868464:True:=⟨⟩
theorem tw13423622936843584764:True:=⟨⟩
theorem tw13467322939085005891:True:=⟨⟩
theorem tw13516622038369049944:True:=⟨⟩
theorem tw13643506566155907487:True:=⟨⟩
theorem tw13700621096757390547:True:=⟨⟩
theorem tw13724452099449386491:True:=⟨⟩
theorem tw13739837740158868884:True:=⟨⟩
theorem tw13790858721211988464:True:=⟨⟩
theorem tw13815853411582834384:True:=⟨⟩
theorem tw13870153662132920491:True:=⟨⟩
theorem tw13898374239775968522:True:=⟨⟩
theorem tw13925877587632400325:True:=⟨⟩
theorem tw13929302177132474383:True:=⟨⟩
theorem tw14071174985044305957:True:=⟨⟩
theorem tw14075178694198228753:True:=⟨⟩
theorem tw14109310954907245088:True:=⟨⟩
theorem tw14166196953294261902:True:=⟨⟩
theorem tw14210890002308233579:True:=⟨⟩
theorem tw14239432107786713131:True:=⟨⟩
theorem tw14245171486683049214:True:=⟨⟩
theorem tw14279960228734115912:True:=⟨⟩
theorem tw14333544728242365436:True:=⟨⟩
theorem tw14431720936831517352:True:=⟨⟩
theorem tw14541005305830221311:True:=⟨⟩
theorem tw14560573928864763818:True:=⟨⟩
theorem tw14568449535678555946:True:=⟨⟩
theorem tw14574801432027512755:True:=⟨⟩
theorem tw14578271805448956485:True:=⟨⟩
theorem tw14728723275428758510:True:=⟨⟩
theorem tw14786503066443513839:True:=⟨⟩
theorem tw14814673180317915700:True:=⟨⟩
theorem tw14838103818555229697:True:=⟨⟩
theorem tw14855157385224911753:True:=⟨⟩
theorem tw14856888987745899463:True:=⟨⟩
theorem tw15094949803261831281:True:=⟨⟩
theorem tw15144710454662140524:True:=⟨⟩
theorem tw15201286185872193147:True:=⟨⟩
theorem tw15205425988870721313:True:=⟨⟩
theorem tw15234240111613058569:True:=⟨⟩
theorem tw15309079848183770524:True:=⟨⟩
theorem tw15344004072050561172:True:=⟨⟩
theorem tw1535588207084551279:True:=⟨⟩
theorem tw15373703851562958014:True:=⟨⟩
theorem tw15384982806981959386:True:=⟨⟩
theorem tw15399907426655090358:True:=⟨⟩
theorem tw15459455144867644326:True:=⟨⟩
theorem tw15523922138108190246:True:=⟨⟩
theorem tw15530053632306009542:True:=⟨⟩
theorem tw15533503492667675913:True:=⟨⟩
theorem tw15564276425815640635:True:=⟨⟩
theorem tw15566928917628492161:True:=⟨⟩
theorem tw15583698165555649274:True:=⟨⟩
theorem tw15587561589202958077:True:=⟨⟩
theorem tw1560641971993327685:True:=⟨⟩
theorem tw15621619335703214680:True:=⟨⟩
theorem tw15688172546075569117:True:=⟨⟩
theorem tw15741700470354863883:True:=⟨⟩
theorem tw15832999045522443761:True:=⟨⟩
theorem tw15989303212955285315:True:=⟨⟩
theorem tw16109372258727991565:True:=⟨⟩
theorem tw16115155874713506467:True:=⟨⟩
theorem tw16175276709679454751:True:=⟨⟩
theorem tw16196181902256332553:True:=⟨⟩
theorem tw16205109500356779066:True:=⟨⟩
theorem tw16229209127682248589:True:=⟨⟩
theorem tw16237762584071213788:True:=⟨⟩
theorem tw1625080806587739848:True:=⟨⟩
theorem tw16252508478716706905:True:=⟨⟩
theorem tw16256441300576474876:True:=⟨⟩
theorem tw16285329926789087883:True:=⟨⟩
theorem tw1635022588487117616:True:=⟨⟩
theorem tw16401934584784274106:True:=⟨⟩
theorem tw16407147864228438881:True:=⟨⟩
theorem tw16448676403291746579:True:=⟨⟩
theorem tw16488607150827929282:True:=⟨⟩
theorem tw16503470079419688546:True:=⟨⟩
theorem tw16510490156224867327:True:=⟨⟩
theorem tw16530489862217454893:True:=⟨⟩
theorem tw16540275574145912595:True:=⟨⟩
theorem tw16570786720924097770:True:=⟨⟩
theorem tw16584127079891442865:True:=⟨⟩
theorem tw16656299143469825513:True:=⟨⟩
theorem tw1666694428299288667:True:=⟨⟩
theorem tw16845344499453014759:True:=⟨⟩
theorem tw16867096813858660809:True:=⟨⟩
theorem tw16889484823980962733:True:=⟨⟩
theorem tw16906536467411238026:True:=⟨⟩
theorem tw16934629359412608497:True:=⟨⟩
theorem tw16958243865122950064:True:=⟨⟩
theorem tw16980078003425100165:True:=⟨⟩
theorem tw17041991840579044601:True:=⟨⟩
theorem tw17108682257543074861:True:=⟨⟩
theorem tw17123178472405020103:True:=⟨⟩
theorem tw17130245016438642246:True:=⟨⟩
theorem tw1713156846745171867:True:=⟨⟩
theorem tw17132207802985990308:True:=⟨⟩
theorem tw17186005699333237546:True:=⟨⟩
theorem tw17260493314774615805:True:=⟨⟩
theorem tw17347454772498655404:True:=⟨⟩
theorem tw17362494058136835672:True:=⟨⟩
theorem tw17416127249078093707:True:=⟨⟩
theorem tw17449020081951674710:True:=⟨⟩
theorem tw17495881415371897999:True:=⟨⟩
theorem tw17512474026176034454:True:=⟨⟩
theorem tw17570709534508481193:True:=⟨⟩
theorem tw17628183408451194143:True:=⟨⟩
theorem tw17637551073024348614:True:=⟨⟩
theorem tw17656766251404061198:True:=⟨⟩
theorem tw17662344363894024548:True:=⟨⟩
theorem tw17701328389417463424:True:=⟨⟩
theorem tw17717364068325071970:True:=⟨⟩
theorem tw17719728818120068181:True:=⟨⟩
theorem tw17743408960866722510:True:=⟨⟩
theorem tw17784850919643140607:True:=⟨⟩
theorem tw17801579834951734752:True:=⟨⟩
theorem tw17861066769153400444:True:=⟨⟩
theorem tw17869975865946814897:True:=⟨⟩
theorem tw17896612028031085017:True:=⟨⟩
theorem tw17933470926392208243:True:=⟨⟩
theorem tw17971676594858020690:True:=⟨⟩
theorem tw17974384156558142227:True:=⟨⟩
theorem tw18082680734076937219:True:=⟨⟩
theorem tw18105942590061964161:True:=⟨⟩
theorem tw18164189302063226315:True:=⟨⟩
theorem tw1819255440876223710:True:=⟨⟩
theorem tw18195182924450695511:True:=⟨⟩
theorem tw18230178534529381785:True:=⟨⟩
theorem tw18255404467826089762:True:=⟨⟩
theorem tw18295790063311454060:True:=⟨⟩
theorem tw18373065035072037172:True:=⟨⟩
theorem tw18387650150990424433:True:=⟨⟩
theorem tw18402297824864622187:True:=⟨⟩
theorem tw1859308991734951218:True:=⟨⟩
theorem tw1881686670891119088:True:=⟨⟩
theorem tw1887099378405440850:True:=⟨⟩
theorem tw1921391257341544841:True:=⟨⟩
theorem tw1951045429614898598:True:=⟨⟩
theorem tw1963134401048803436:True:=⟨⟩
theorem tw1976505206021243879:True:=⟨⟩
theorem tw2051409578822353534:True:=⟨⟩
theorem tw2067723777617599883:True:=⟨⟩
theorem tw2086631506510373192:True:=⟨⟩
theorem tw2103456241558337223:True:=⟨⟩
theorem tw220677088936066577:True:=⟨⟩
theorem tw2226738975062844091:True:=⟨⟩
theorem tw2236755162388048479:True:=⟨⟩
theorem tw2304379251839397102:True:=⟨⟩
theorem tw2305881189932309285:True:=⟨⟩
theorem tw2316539691658765527:True:=⟨⟩
theorem tw2321816554428607280:True:=⟨⟩
theorem tw2367325634123391141:True:=⟨⟩
theorem tw2377308710366028375:True:=⟨⟩
theorem tw2415902012162501839:True:=⟨⟩
theorem tw2462912638960843985:True:=⟨⟩
theorem tw2512408688544751470:True:=⟨⟩
theorem tw251868834278440796:True:=⟨⟩
theorem tw2537931557510868981:True:=⟨⟩
theorem tw2565351972500760935:True:=⟨⟩
theorem tw2608567993692976607:True:=⟨⟩
theorem tw2617349483901765261:True:=⟨⟩
theorem tw2656788454239962097:True:=⟨⟩
theorem tw2775396313129547428:True:=⟨⟩
theorem tw2789213428527533208:True:=⟨⟩
theorem tw2896703901015224195:True:=⟨⟩
theorem tw2910385600587045654:True:=⟨⟩
theorem tw2976117146107443816:True:=⟨⟩
theorem tw3004984022683251337:True:=⟨⟩
theorem tw3028926083550364057:True:=⟨⟩
theorem tw3029852977388229646:True:=⟨⟩
theorem tw3105451386036433885:True:=⟨⟩
theorem tw3112429581023547943:True:=⟨⟩
theorem tw3125960719983571848:True:=⟨⟩
theorem tw3173534031939492945:True:=⟨⟩
theorem tw3199103547748192838:True:=⟨⟩
theorem tw3222278782482380304:True:=⟨⟩
theorem tw333583748066197110:True:=⟨⟩
theorem tw3343445320678177929:True:=⟨⟩
theorem tw3404873503106905745:True:=⟨⟩
theorem tw3456623496861543869:True:=⟨⟩
theorem tw3506512066687448480:True:=⟨⟩
theorem tw3599858809825778643:True:=⟨⟩
theorem tw3608001390425729707:True:=⟨⟩
theorem tw3627196117584932430:True:=⟨⟩
theorem tw3683778510129048087:True:=⟨⟩
theorem tw3767311804947220896:True:=⟨⟩
theorem tw3794220679723124481:True:=⟨⟩
theorem tw380778119907437045:True:=⟨⟩
theorem tw3810338749695602999:True:=⟨⟩
theorem tw3812028171767442716:True:=⟨⟩
theorem tw3829983850049016917:True:=⟨⟩
theorem tw3857263333814641470:True:=⟨⟩
theorem tw3885313090954376144:True:=⟨⟩
theorem tw3955986520655104412:True:=⟨⟩
theorem tw3972733245907303379:True:=⟨⟩
theorem tw3974152918291533672:True:=⟨⟩
theorem tw3975253019698251321:True:=⟨⟩
theorem tw3998398428148030388:True:=⟨⟩
theorem tw4040260094072895976:True:=⟨⟩
theorem tw4162185377826839926:True:=⟨⟩
theorem tw4170516301191304579:True:=⟨⟩
theorem tw4171678462856256454:True:=⟨⟩
theorem tw4180101509539245183:True:=⟨⟩
theorem tw4218790737952374519:True:=⟨⟩
theorem tw4265850918314828415:True:=⟨⟩
theorem tw428092273266315144:True:=⟨⟩
theorem tw4312942655851389009:True:=⟨⟩
theorem tw4326780796455107134:True:=⟨⟩
theorem tw4329306826757983850:True:=⟨⟩
theorem tw4395496475954998127:True:=⟨⟩
theorem tw4424551920762525699:True:=⟨⟩
theorem tw4443050520305737185:True:=⟨⟩
theorem tw452842511749404161:True:=⟨⟩
theorem tw4570111826955561243:True:=⟨⟩
theorem tw4588413851689716618:True:=⟨⟩
theorem tw4598667867955821814:True:=⟨⟩
theorem tw4613182775407389354:True:=⟨⟩
theorem tw4640724917100965312:True:=⟨⟩
theorem tw4684362782114478032:True:=⟨⟩
theorem tw4684940682943077961:True:=⟨⟩
theorem tw4719063310657182621:True:=⟨⟩
theorem tw4723787954990577340:True:=⟨⟩
theorem tw4725460767093446600:True:=⟨⟩
theorem tw4754365596532378047:True:=⟨⟩
theorem tw4759752924163587094:True:=⟨⟩
theorem tw4768634762848416435:True:=⟨⟩
theorem tw4769821431679368130:True:=⟨⟩
theorem tw4788878847521262168:True:=⟨⟩
theorem tw480829909506669009:True:=⟨⟩
theorem tw4878226113927451544:True:=⟨⟩
theorem tw4879674094562380441:True:=⟨⟩
theorem tw4924110625330727750:True:=⟨⟩
theorem tw4950403968356008110:True:=⟨⟩
theorem tw500868675978126160:True:=⟨⟩
theorem tw5011121235533021005:True:=⟨⟩
theorem tw5071919506433949198:True:=⟨⟩
theorem tw5073790198343104882:True:=⟨⟩
theorem tw5098551885099359569:True:=⟨⟩
theorem tw5102460946473063141:True:=⟨⟩
theorem tw5115476493328737885:True:=⟨⟩
theorem tw5196160543931855155:True:=⟨⟩
theorem tw5250828734511838712:True:=⟨⟩
theorem tw5266742908149448401:True:=⟨⟩
theorem tw5293390819737331289:True:=⟨⟩
theorem tw5313304008227124433:True:=⟨⟩
theorem tw5320702786494000081:True:=⟨⟩
theorem tw544173102793226557:True:=⟨⟩
theorem tw5565023224982907859:True:=⟨⟩
theorem tw5647864574477489665:True:=⟨⟩
theorem tw5678346346211369953:True:=⟨⟩
theorem tw5734618986648460908:True:=⟨⟩
theorem tw5776136370200156792:True:=⟨⟩
theorem tw5796354222422608987:True:=⟨⟩
theorem tw5805905742469029177:True:=⟨⟩
theorem tw5897612983314593646:True:=⟨⟩
theorem tw5901363791540438844:True:=⟨⟩
theorem tw5962627729488381771:True:=⟨⟩
theorem tw6068950659093879613:True:=⟨⟩
theorem tw6127190174262240918:True:=⟨⟩
theorem tw612862322836996645:True:=⟨⟩
theorem tw6144012678527597917:True:=⟨⟩
theorem tw6207176494656529804:True:=⟨⟩
theorem tw6232080684201472732:True:=⟨⟩
theorem tw6289197191216398940:True:=⟨⟩
theorem tw6323506392446703087:True:=⟨⟩
theorem tw6388184931127306564:True:=⟨⟩
theorem tw6411448116228961071:True:=⟨⟩
theorem tw6435670951450185984:True:=⟨⟩
theorem tw6449190631224713292:True:=⟨⟩
theorem tw6454446336052903152:True:=⟨⟩
theorem tw6474043946942992101:True:=⟨⟩
theorem tw6485783843944922600:True:=⟨⟩
theorem tw6531376189190222733:True:=⟨⟩
theorem tw6566618420281934:True:=⟨⟩
theorem tw6567050819087999508:True:=⟨⟩
theorem tw657603264963083978:True:=⟨⟩
theorem tw6650461044873433052:True:=⟨⟩
theorem tw6667815254911646788:True:=⟨⟩
theorem tw670465573061467203:True:=⟨⟩
theorem tw6707113841082798463:True:=⟨⟩
theorem tw6712194924023145494:True:=⟨⟩
theorem tw6718411051458867188:True:=⟨⟩
theorem tw6878024787957991413:True:=⟨⟩
theorem tw6956187926921108005:True:=⟨⟩
theorem tw6968583824967984638:True:=⟨⟩
theorem tw7000300075881102575:True:=⟨⟩
theorem tw7011034972672107489:True:=⟨⟩
theorem tw7055459427971326715:True:=⟨⟩
theorem tw7070210977369740762:True:=⟨⟩
theorem tw7278507554335971580:True:=⟨⟩
theorem tw7282745182861764756:True:=⟨⟩
theorem tw7380833856163905736:True:=⟨⟩
theorem tw744865244796547220:True:=⟨⟩
theorem tw7451905468542833597:True:=⟨⟩
theorem tw7468727024169554154:True:=⟨⟩
theorem tw7470013935711676318:True:=⟨⟩
theorem tw7522001649326652513:True:=⟨⟩
theorem tw757079261281740938:True:=⟨⟩
theorem tw7613857476909055813:True:=⟨⟩
theorem tw7613945582906998725:True:=⟨⟩
theorem tw7661832156752021035:True:=⟨⟩
theorem tw7675655780812522254:True:=⟨⟩
theorem tw7716820226725407877:True:=⟨⟩
theorem tw7773504467932542270:True:=⟨⟩
theorem tw7779959011674639804:True:=⟨⟩
theorem tw7786677914034681988:True:=⟨⟩
theorem tw7821361960523482326:True:=⟨⟩
theorem tw7822013112032934038:True:=⟨⟩
theorem tw7830602891274557492:True:=⟨⟩
theorem tw7830629276484211593:True:=⟨⟩
theorem tw783483362715066742:True:=⟨⟩
theorem tw7844069586390513008:True:=⟨⟩
theorem tw7845872953664198349:True:=⟨⟩
theorem tw7890596953891613788:True:=⟨⟩
theorem tw7929640520542984453:True:=⟨⟩
theorem tw7930893340574950883:True:=⟨⟩
theorem tw7995362448368537469:True:=⟨⟩
theorem tw8018989035897545986:True:=⟨⟩
theorem tw8025084765662995669:True:=⟨⟩
theorem tw803859442106103436:True:=⟨⟩
theorem tw807531904560671035:True:=⟨⟩
theorem tw8088732932480780420:True:=⟨⟩
theorem tw8119881530291889089:True:=⟨⟩
theorem tw8272817396058243321:True:=⟨⟩
theorem tw8289400949097046189:True:=⟨⟩
theorem tw8330952907988395303:True:=⟨⟩
theorem tw8331973007464152698:True:=⟨⟩
theorem tw8383268338085895543:True:=⟨⟩
theorem tw8399098705505230059:True:=⟨⟩
theorem tw8408514402456403777:True:=⟨⟩
theorem tw8416529770105884409:True:=⟨⟩
theorem tw846297522682114974:True:=⟨⟩
theorem tw8472697214298850164:True:=⟨⟩
theorem tw857469055436470443:True:=⟨⟩
theorem tw8577089030196625639:True:=⟨⟩
theorem tw8590288500278120515:True:=⟨⟩
theorem tw8614737586434602478:True:=⟨⟩
theorem tw8643116662766533202:True:=⟨⟩
theorem tw8668149382578428375:True:=⟨⟩
theorem tw876206183137641144:True:=⟨⟩
theorem tw8776770756819070316:True:=⟨⟩
theorem tw884059145510264010:True:=⟨⟩
theorem tw888132650186811988:True:=⟨⟩
theorem tw8896352889252549814:True:=⟨⟩
theorem tw891787732878383699:True:=⟨⟩
theorem tw8919302590299486024:True:=⟨⟩
theorem tw8947099994592609211:True:=⟨⟩
theorem tw895571856199123645:True:=⟨⟩
theorem tw8999559765510592377:True:=⟨⟩
theorem tw9001875181463519149:True:=⟨⟩
theorem tw9059937348426287209:True:=⟨⟩
theorem tw9113340658982188547:True:=⟨⟩
theorem tw9218923581257491847:True:=⟨⟩
theorem tw9221430085559818832:True:=⟨⟩
theorem tw9247658263007524724:True:=⟨⟩
theorem tw9357874355931990178:True:=⟨⟩
theorem tw9363291351745731410:True:=⟨⟩
theorem tw9445451236469955387:True:=⟨⟩
theorem tw9524518906428321964:True:=⟨⟩
theorem tw9544026089342320630:True:=⟨⟩
theorem tw9610726530385051774:True:=⟨⟩
theorem tw9712136527352899355:True:=⟨⟩
theorem tw9725021084223525626:True:=⟨⟩
theorem tw9735714214384596553:True:=⟨⟩
theorem tw9746901515087519452:True:=⟨⟩
theorem tw9757074474933493440:True:=⟨⟩
theorem tw9806666330580929782:True:=⟨⟩
theorem tw982560976839675504:True:=⟨⟩
theorem tw9825859731914700964:True:=⟨⟩
theorem tw9839346839192117915:True:=⟨⟩
theorem tw9962418760945406050:True:=⟨⟩
theorem tw9997704412844104603:True:=⟨⟩
theorem tw999798209818781672:True:=⟨⟩
end fin
set_option maxHeartbeats 8000000 in
set_option Elab.async true in
theorem fin:PySem.Challenge.rw_al0017_01.Holds:=by
 w_on; o_law; o_head (kmHook K [2,3,15,17,18,20,21,22,29,31,32,34,35,36,38,39,41,42,43,44,45,46,47,50,51,53,60,62,63,65,66,67,69,70,72,73,74,76,77,79,80,81,83,84,86,87,88,90,91,93,94,95,96,97,98,99,102,109,111,112,114,115,116,117,119,120,122,123,124,126,127,129,130,131,132,134,135,137,138,139,140,141,142,143,146,153,154,156,157,159,160,161,162,165,166,167,168,169,172,179,180,182,183,185,186,187,188,189,192,199,200,202,203,205,206,207,208,209,212,219,220,222,223,225,226,227,229,230,232,233,234,235,237,238,240,241,242,243,244,247,254,255,257,258,260,261,262,264,265,267,268,269,270,272,273,275,276,277,278,279,282,289,290,292,293,295,296,297,298,300,301,303,304,305,306,307,310,317,319,320,322,323,324,325,327,328,330,331,332,334,335,337,338,339,340,341,344,351,353,354,356,357,358,359,361,362,364,365,366,368,369,371,372,373,374,375,378,385,386,388,389,391,392,393,394,396,397,399,400,401,402,403,406,413,414,416,417,419,420,421,422,424,425,427,428,429,430,431,434,436,437,439,440,441,444,445,446,449,450,451,453,454,456,457,458,461,462,463,466,467,468,471,472,473,475,476,478,479,480,482,483,485,486,487,490,491] (fun _=>by kernel_rfl) [452]); (case hw=>w_witness2)
 (case hc=>
 intro w s₀ s₁ mg mb G Y fa o pm cd doc dV kV ho hd' hcd hD hmg hg args vals as hpre hlay hrd hwl hlo
 have KX:=km_in_of Y
 have hT8:=km_tabs_of Y
 have low:=G.low
 refine Ground.open G ?_
 intro T B D TE TW
 wrow_args hpre hlay hrd hwl hlo
 with_reducible rename IntsAre _ _=>hI
 with_reducible rename Heap.IsList _ _ _=>hL
 refine enter_call ?_
 have ht8:s₁.heap.get? 452=some (tabObj #[]):=hT8 452 (List.mem_singleton.mpr rfl)
 have hfa:fa=491:=by
  have h1:=mg_of KX T.g (lawK w.params)
  have h2:mg "law"=some (.ref fa):=hmg
  rw [h1] at h2
  cases h2; rfl
 subst hfa
 have hcode:CodeHd s₁.heap 456 452:=codeHd_of_K (c:=456) (P:=452) KX (by kernel_rfl)
 have hB:s₁.heap.BuiltinsAt mg 452:=by
  obtain ⟨bm,ob,a1,a2,a3,a4,a5,a6⟩:=T.bmain
  refine ⟨bm,ob,a1,a2,fun q=>?_,fun q=>?_,a3,a4,a5,a6⟩
  ·obtain ⟨o',es,ep,e1,e2,_⟩:=T.g
   rw [q,e1] at a3; cases a3
   rw [e2] at a6; cases a6
  ·rw [q,ht8] at a3; cases a3; cases a4
 let C:=cxOf PySem.Challenge.rw_al0017_01.row.prog w s₁ mg mb
 have ok:C.Ok:=by
  refine ⟨KX,T.g,T.b,T.nolimit,fun a o e q=>?_,⟨_,ht8⟩,⟨low,?_⟩⟩
  ·have h1:=List.all_eq_true.mp (notab_K w.params) (a,o) (mem_of_lookupK e)
   subst q
   exact absurd (show (452 != 452)=true from h1) (by decide)
  ·obtain ⟨_,⟨o',_,_,e,_⟩,_⟩:=(T.seer (by kernel_rfl)).mods
   exact ⟨o',e⟩
 have tp:TopL C w.params:=⟨⟨rfl,⟨fun x v q=>mg_of KX T.g (globs_K w.params (x,v) (mem_of_lookup q)),fun x v q=>(blts_K w.params (x,v) (mem_of_lookup q)).elim fun h1 h2=>⟨mg_none_of KX T.g h1,(T.builtins _ h2.2).trans h2.1⟩⟩⟩,rfl,rfl,⟨hcode,rfl,hB⟩⟩
 have rel:Rel C (fun _ _=>False) (fun _=>none) s₁:=⟨ok,fun a o z=>z.elim,fun a o e ht=>⟨e,rfl,ht⟩,(fun a o e=>nomatch e),rfl,⟨#[],ht8,trivial,(fun pos cv e=>nomatch e),(fun a z e cc q=>nomatch q)⟩,hg,rfl⟩
 have key:=law_walk (n:=0) (c:=C) (P:=w.params) (H:=fun _=>none) (Q:=fun v _=>v=.bool true) tp hL (ne_tab hL ht8) (of_intsAre hI) (Nat.le_trans (Int.ofNat_le.mp (Int.not_lt.mp ‹¬ ((63:Nat):Int) < _›)) (by decide:63≤100000)) (fun _=>rfl)
 refine codeAny_mono (key.go (.ref 491) [.ref _] rfl rfl callerA _ s₁ ⟨by decide,by decide,rfl⟩ rel) fun r s' h=>?_
 obtain ⟨v,rfl,H',R',hv⟩:=wants_ret h
 have hv:er v=.bool true:=hv
 obtain rfl:=er_bool hv
 refine ⟨.inl ⟨_,_,_,rfl,fun _=>rfl,.bool true,by kernel_rfl,fun _=>⟨.nil,fun a ha=>absurd ha List.not_mem_nil⟩⟩,⟨fun b o e=>?_,fun b o e=>?_⟩,R'.os,?_⟩
 ·by_cases hb:b=452
  ·subst hb
   obtain ⟨ps,P⟩:=R'.tab
   rw [ht8] at e
   cases e
   exact .inr (.inl ⟨(hcode.tab ht8).isCodeTable,rfl,#[],ps,rfl,by rw [Array.empty_append]; exact P.e⟩)
  ·exact .inl (R'.base b o e hb).e
 ·by_cases hb:b=452
  ·subst hb
   obtain ⟨ps,P⟩:=R'.tab
   exact ⟨_,P.e⟩
  ·exact ⟨_,(R'.base b o e hb).e⟩
 ·exact .of_eq R'.gens)
end Mine
theorem PySem.Challenge.cw_al0017_01_holds : PySem.Challenge.rw_al0017_01.Holds :=
 Mine.fin
