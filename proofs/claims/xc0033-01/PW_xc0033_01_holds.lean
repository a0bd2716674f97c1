import PyProof.Rows.All
import Wide.All
import OpenK.AllK
import Wide.FinOn
import PySem.Challenge.RW_xc0033_01
set_option Elab.async false
section
open PySem PySem.W PyProof.Rows
namespace Mine
theorem bc {P:Prop} (h:¬ P→False):P:=Classical.byContradiction h
theorem band {a b:Bool} (h:(a && b) = true):a = true∧b = true:=Bool.and_eq_true_iff.mp h
theorem none_some {α:Type _} {x:Option α} {a:α} {P:Prop} (h:x = Option.none) (h2:x = some a):P:=nomatch h.symm.trans h2
theorem some_eq {α:Type _} {x:Option α} {a b:α} (h:x = some a) (h2:x = some b):a = b:=Option.some.inj (h.symm.trans h2)
theorem bnd1 {M:Model} {A:Around} {α β:Type} {m:Sem α} {k:α→Sem β} {x:α} {s s':Shared} {Q:β→Shared→Prop} {E:Value→Shared→Prop} (h:∀ P:α→Shared→Prop,P x s'→wpAny M A m P E s) (h2:wpAny M A (k x) Q E s'):wpAny M A (m >>= k) Q E s:=wpAny_bind (h _ h2)
inductive D where
  | none
  | bool (b:Bool)
  | int (i:Int)
  | str (s:Str)
  | list (xs:List D)
  | tuple (xs:List D)
  | dict (es:List (Str × D))
  | obj (c:Str) (es:List (Str × D))
  | raw (v:Value)
  | loc (a:Addr) (d:D)
deriving Inhabited
structure Cx where
  prog:Program
  w:World
  h₀:Heap
  mg:Str→Option Value
  mb:Str→Option Value
  os₀:OsState
noncomputable abbrev sk (c:Cx):=strKind c.prog c.w
noncomputable def isObj (h:Heap) (C:Addr) (a dx:Addr) (m:Str→Option Value):Prop:=
  (∃ o,h.get? a = some o∧o.cls = .ref C∧o.dict = some dx∧∀ c,o.data ≠ .cls c)∧dx ≠ a∧h.Ns1 dx m∧h.ExactDictFk dx
theorem isObj.at {h h':Heap} {C a dx:Addr} {m:Str→Option Value} (x:isObj h C a dx m) (k:∀ o,h.get? a = some o→h'.get? a = some o) (k2:∀ o,h.get? dx = some o→h'.get? dx = some o):isObj h' C a dx m:=
  (by refine bc fun g=>?_;obtain ⟨⟨o,e,r⟩,hne,⟨od,es,ep,e1,r1⟩,hx⟩:=x;exact g (⟨⟨o,k _ e,r⟩,hne,⟨od,es,ep,k2 _ e1,r1⟩,hx.at k2⟩))
theorem isObj.inst {h:Heap} {C a dx:Addr} {m:Str→Option Value} (x:isObj h C a dx m):h.InstFk a C m:=
  (by refine bc fun g=>?_;obtain ⟨⟨o,e,ec,ed,en⟩,hne,hn,hx⟩:=x;exact g (⟨o,e,ec,en,.inr ⟨dx,ed,hne,hn,hx⟩⟩))
mutual
inductive Rep (c:Cx) (h:Heap) (Z:Addr→Prop):Value→D→Prop
  | raw {v:Value}:Rep c h Z v (.raw v)
  | loc {a:Addr} {d:D}:Rep c h Z (.ref a) d→Rep c h Z (.ref a) (.loc a d)
  | none:Rep c h Z .none .none
  | bool {b:Bool}:Rep c h Z (.bool b) (.bool b)
  | int {i:Int} {t:Tok}:Rep c h Z (.int i t) (.int i)
  | str {s:Str} {t:Tok}:Rep c h Z (.str s t) (.str s)
  | list {a:Addr} {vs:List Value} {ds:List D}:Z a→PlainL h a vs.toArray→Reps c h Z vs ds→Rep c h Z (.ref a) (.list ds)
  | tuple {a:Addr} {vs:List Value} {ds:List D}:Z a→h.IsTuple a vs.toArray→Reps c h Z vs ds→Rep c h Z (.ref a) (.tuple ds)
  | dict {a:Addr} {kvs:List (Str × Value)} {es:List (Str × D)}:Z a→(a == sysModules) = false→h.DictOf (sk c) a kvs →
      RepE c h Z kvs es→Rep c h Z (.ref a) (.dict es)
  | obj {a dx C:Addr} {n:Str} {kvs:List (Str × Value)} {es:List (Str × D)}:Z a→Z dx→c.mg n = some (.ref C) →
      isObj h C a dx (fun k=>kvs.lookup k)→RepE c h Z kvs es→Rep c h Z (.ref a) (.obj n es)
inductive Reps (c:Cx) (h:Heap) (Z:Addr→Prop):List Value→List D→Prop
  | nil:Reps c h Z [] []
  | cons {v:Value} {d:D} {vs:List Value} {ds:List D}:Rep c h Z v d→Reps c h Z vs ds→Reps c h Z (v :: vs) (d :: ds)
inductive RepE (c:Cx) (h:Heap) (Z:Addr→Prop):List (Str × Value)→List (Str × D)→Prop
  | nil:RepE c h Z [] []
  | cons {k:Str} {v:Value} {d:D} {vs:List (Str × Value)} {ds:List (Str × D)}:Rep c h Z v d→RepE c h Z vs ds→RepE c h Z ((k,v) :: vs) ((k,d) :: ds)
end
section ind
variable {c:Cx} {h:Heap} {Z:Addr→Prop}
theorem Reps.go {P:List Value→List D→Prop} (n:P [] []) (k:∀ {v d vs ds},Rep c h Z v d→Reps c h Z vs ds→P vs ds→P (v :: vs) (d :: ds)) {vs ds} (r:Reps c h Z vs ds):P vs ds:=
  Reps.rec (motive_1:=fun _ _ _=>True) (motive_2:=fun vs ds _=>P vs ds) (motive_3:=fun _ _ _=>True)
    trivial (fun _ _=>trivial) trivial trivial trivial trivial (fun _ _ _ _=>trivial) (fun _ _ _ _=>trivial) (fun _ _ _ _ _=>trivial) (fun _ _ _ _ _ _=>trivial) n (fun a b _ ih=>k a b ih) trivial (fun _ _ _ _=>trivial) r
theorem Reps.ind {vs:List Value} {ds:List D} (r:Reps c h Z vs ds) {P:List Value→List D→Prop} (n:P [] []) (k:∀ {v d vs ds},Rep c h Z v d→Reps c h Z vs ds→P vs ds→P (v :: vs) (d :: ds)):P vs ds:=Reps.go n k r
theorem RepE.go {P:List (Str × Value)→List (Str × D)→Prop} (n:P [] []) (k:∀ {x v d vs ds},Rep c h Z v d→RepE c h Z vs ds→P vs ds→P ((x,v) :: vs) ((x,d) :: ds)) {vs ds} (r:RepE c h Z vs ds):P vs ds:=
  RepE.rec (motive_1:=fun _ _ _=>True) (motive_2:=fun _ _ _=>True) (motive_3:=fun vs ds _=>P vs ds)
    trivial (fun _ _=>trivial) trivial trivial trivial trivial (fun _ _ _ _=>trivial) (fun _ _ _ _=>trivial) (fun _ _ _ _ _=>trivial) (fun _ _ _ _ _ _=>trivial) trivial (fun _ _ _ _=>trivial) n (fun a b _ ih=>k a b ih) r
theorem RepE.ind {vs:List (Str × Value)} {ds:List (Str × D)} (r:RepE c h Z vs ds) {P:List (Str × Value)→List (Str × D)→Prop} (n:P [] []) (k:∀ {x v d vs ds},Rep c h Z v d→RepE c h Z vs ds→P vs ds→P ((x,v) :: vs) ((x,d) :: ds)):P vs ds:=RepE.go n k r
end ind
section inv
variable (c:Cx) (h:Heap) (Z:Addr→Prop)
inductive InvI (i:Int):Value→Prop | mk {t:Tok}:InvI i (.int i t)
inductive InvS (s:Str):Value→Prop | mk {t:Tok}:InvS s (.str s t)
inductive InvB (b:Bool):Value→Prop | mk:InvB b (.bool b)
inductive InvN:Value→Prop | mk:InvN .none
inductive InvR (w:Value):Value→Prop | mk:InvR w w
inductive InvC (d:D):Value→Prop | mk {a:Addr}:Rep c h Z (.ref a) d→InvC d (.ref a)
inductive InvL (ds:List D):Value→Prop | mk {a:Addr} {vs:List Value}:Z a→PlainL h a vs.toArray→Reps c h Z vs ds→InvL ds (.ref a)
inductive InvT (ds:List D):Value→Prop | mk {a:Addr} {vs:List Value}:Z a→h.IsTuple a vs.toArray→Reps c h Z vs ds→InvT ds (.ref a)
inductive InvD (es:List (Str × D)):Value→Prop | mk {a:Addr} {kvs:List (Str × Value)}:Z a→(a == sysModules) = false→h.DictOf (sk c) a kvs→RepE c h Z kvs es→InvD es (.ref a)
inductive InvO (n:Str) (es:List (Str × D)):Value→Prop | mk {a dx C:Addr} {kvs:List (Str × Value)}:Z a→Z dx→c.mg n = some (.ref C)→isObj h C a dx (fun k=>kvs.lookup k)→RepE c h Z kvs es→InvO n es (.ref a)
inductive InvQ (d:D) (ds:List D):List Value→Prop | mk {v:Value} {vs:List Value}:Rep c h Z v d→Reps c h Z vs ds→InvQ d ds (v :: vs)
inductive InvE:List Value→Prop | mk:InvE []
variable {c:Cx} {h:Heap} {Z:Addr→Prop} {v:Value} {vs:List Value}
theorem Rep.inv {d:D} (r:Rep c h Z v d):(match d with
    | .none=>InvN v | .bool b=>InvB b v | .int i=>InvI i v | .str s=>InvS s v | .list ds=>InvL c h Z ds v | .tuple ds=>InvT c h Z ds v
    | .dict es=>InvD c h Z es v | .obj n es=>InvO c h Z n es v | .raw w=>InvR w v | .loc _ d=>InvC c h Z d v:Prop):=by
  cases r with
  | list a b e=>exact .mk a b e
  | tuple a b e=>exact .mk a b e
  | dict a b e f=>exact .mk a b e f
  | obj a b e f g=>exact .mk a b e f g
  | loc a=>exact .mk a
  | _=>exact .mk
theorem Rep.iI {i:Int} (r:Rep c h Z v (.int i)):InvI i v:=r.inv
theorem Rep.iS {s:Str} (r:Rep c h Z v (.str s)):InvS s v:=r.inv
theorem Rep.iB {b:Bool} (r:Rep c h Z v (.bool b)):InvB b v:=r.inv
theorem Rep.iN (r:Rep c h Z v .none):InvN v:=r.inv
theorem Rep.iR {w:Value} (r:Rep c h Z v (.raw w)):InvR w v:=r.inv
theorem Rep.iL {ds:List D} (r:Rep c h Z v (.list ds)):InvL c h Z ds v:=r.inv
theorem Rep.iT {ds:List D} (r:Rep c h Z v (.tuple ds)):InvT c h Z ds v:=r.inv
theorem Rep.iD {es:List (Str × D)} (r:Rep c h Z v (.dict es)):InvD c h Z es v:=r.inv
theorem Rep.iO {n:Str} {es:List (Str × D)} (r:Rep c h Z v (.obj n es)):InvO c h Z n es v:=r.inv
theorem Reps.iQ {d:D} {ds:List D} (r:Reps c h Z vs (d :: ds)):InvQ c h Z d ds vs:=by cases r with | cons a b=>exact .mk a b
theorem Reps.iE (r:Reps c h Z vs []):InvE vs:=by cases r;exact .mk
end inv
theorem plainL_at {h h':Heap} {a:Addr} {its:Array Value} (x:PlainL h a its) (hk:∀ o,h.get? a = some o→h'.get? a = some o):PlainL h' a its:=
  (by refine bc fun g=>?_;obtain ⟨o,n,e,r⟩:=x;exact g (⟨o,n,hk o e,r⟩))
section mono
variable {c:Cx} {h h':Heap} {Z Z':Addr→Prop}
theorem rep_mono (hk:∀ a o,Z a→h.get? a = some o→h'.get? a = some o) (hz:∀ a,Z a→Z' a) :
    ∀ {v d},Rep c h Z v d→Rep c h' Z' v d:=fun x=>
  Rep.rec (motive_1:=fun v d _=>Rep c h' Z' v d) (motive_2:=fun vs ds _=>Reps c h' Z' vs ds) (motive_3:=fun vs ds _=>RepE c h' Z' vs ds)
    .raw (fun _ ih=>.loc ih) .none .bool .int .str
    (fun z l _ ih=>.list (hz _ z) (plainL_at l fun o e=>hk _ o z e) ih)
    (fun z l _ ih=>.tuple (hz _ z) (l.at fun o e=>hk _ o z e) ih)
    (fun z s l _ ih=>.dict (hz _ z) s (l.at fun o e=>hk _ o z e) ih)
    (fun z z2 hc ho _ ih=>.obj (hz _ z) (hz _ z2) hc (ho.at (fun o e=>hk _ o z e) fun o e=>hk _ o z2 e) ih)
    .nil (fun _ _ a b=>.cons a b) .nil (fun _ _ a b=>.cons a b) x
theorem reps_mono (hk:∀ a o,Z a→h.get? a = some o→h'.get? a = some o) (hz:∀ a,Z a→Z' a) :
    ∀ {vs ds},Reps c h Z vs ds→Reps c h' Z' vs ds:=fun r=>r.ind (P:=Reps c h' Z') .nil fun a _ ih=>.cons (rep_mono hk hz a) ih
theorem repE_mono (hk:∀ a o,Z a→h.get? a = some o→h'.get? a = some o) (hz:∀ a,Z a→Z' a) :
    ∀ {vs ds},RepE c h Z vs ds→RepE c h' Z' vs ds:=fun r=>r.ind (P:=RepE c h' Z') .nil fun a _ ih=>.cons (rep_mono hk hz a) ih
end mono
structure Room (A:Around) (n:Nat):Prop where
  h:A.handled = none
  d:A.depth + n < 990
  u:A.units + 64 * n + 128 < cLine
theorem cu (a n k:Nat) (h:k≤64):a + k + 64 * n + 128≤a + 64 * (n + 1) + 128:=by lia
theorem Room.lt {A:Around} {n:Nat} (r:Room A n):A.depth < recursionLimit:=by exact Nat.lt_trans (Nat.lt_of_le_of_lt (Nat.le_add_right _ _) r.d) (Nat.le_of_ble_eq_true rfl)
theorem Room.in1 {A:Around} {n:Nat} (r:Room A (n + 1)):Room A.in1 n:=⟨r.h,by have:=r.d;skip;exact Nat.le_of_lt ‹_›,Nat.lt_of_le_of_lt (cu _ n 1 (Nat.le_of_ble_eq_true rfl)) r.u⟩
theorem Room.less {A:Around} {n m:Nat} (r:Room A n) (h:m≤n):Room A m:=⟨r.h,Nat.lt_of_le_of_lt (Nat.add_le_add_left h _) r.d,Nat.lt_of_le_of_lt (Nat.add_le_add_right (Nat.add_le_add_left (Nat.mul_le_mul_left 64 h) _) 128) r.u⟩
theorem Room.deeper {A:Around} {n:Nat} {env:Env} (r:Room A (n + 1)):Room (A.deeper env) n:=
  ⟨r.h,Nat.lt_of_le_of_lt (Nat.le_of_eq (Nat.add_right_comm ..)) r.d,Nat.lt_of_le_of_lt (cu _ n 3 (Nat.le_of_ble_eq_true rfl)) r.u⟩
noncomputable def noE:Value→Shared→Prop:=fun _ _=>False
noncomputable def no:Addr→Prop:=fun _=>False
structure Inv (c:Cx) (s:Shared) (Z:Addr→Prop):Prop where
  base:∀ b o,c.h₀.get? b = some o→s.heap.get? b = some o
  zb:∀ a o,c.h₀.get? a = some o→Z a
  za:∀ a,Z a→∃ o,s.heap.get? a = some o
  os:s.os = c.os₀
  bare:AllBare s.gens
structure Evo (W:Addr→Prop) (s:Shared) (Z:Addr→Prop) (s':Shared) (Z':Addr→Prop):Prop where
  keep:∀ b o,¬ W b→s.heap.get? b = some o→s'.heap.get? b = some o
  gens:∀ (i:Nat) (x:GenState),s.gens[i]? = some x→s'.gens[i]? = some x
  zmono:∀ a,Z a→Z' a
  znew:∀ a,Z' a→Z a∨W a∨s.heap.get? a = none
theorem Evo.refl {W:Addr→Prop} {s:Shared} {Z:Addr→Prop}:Evo W s Z s Z:=⟨fun _ _ _ e=>e,fun _ _ e=>e,fun _ e=>e,fun _ e=>.inl e⟩
theorem Evo.trans' {W W₁:Addr→Prop} {s s₁ s₂:Shared} {Z Z₁ Z₂:Addr→Prop} (a:Evo W s Z s₁ Z₁) (b:Evo W₁ s₁ Z₁ s₂ Z₂) (hw:∀ x,W₁ x→W x∨s.heap.get? x = none):Evo W s Z s₂ Z₂:=
  ⟨fun x o w e=>b.keep x o (fun q=>by
      rcases hw x q with q | q
      · exact w q
      · rw [e] at q;cases q) (a.keep x o w e),fun i x e=>b.gens i x (a.gens i x e),fun x e=>b.zmono x (a.zmono x e),
    fun x e=>by
      rcases b.znew x e with h | h | h
      · exact a.znew x h
      · exact .inr (hw x h)
      · by_cases hx:W x
        · exact .inr (.inl hx)
        · refine .inr (.inr ?_)
          induction q:s.heap.get? x with
          | none=>rfl
          | some o=>rw [a.keep x o hx q] at h;cases h⟩
theorem Evo.trans {W:Addr→Prop} {s s₁ s₂:Shared} {Z Z₁ Z₂:Addr→Prop} (a:Evo W s Z s₁ Z₁) (b:Evo W s₁ Z₁ s₂ Z₂):Evo W s Z s₂ Z₂:=a.trans' b fun _ h=>.inl h
theorem Evo.wider {W W':Addr→Prop} {s s':Shared} {Z Z':Addr→Prop} (a:Evo W s Z s' Z') (h:∀ x,W x→W' x):Evo W' s Z s' Z':=
  ⟨fun x o w e=>a.keep x o (fun q=>w (h x q)) e,a.gens,a.zmono,fun x e=>by
    rcases a.znew x e with q | q | q
    · exact .inl q
    · exact .inr (.inl (h x q))
    · exact .inr (.inr q)⟩
theorem Evo.rep {c:Cx} {W:Addr→Prop} {s s':Shared} {Z Z':Addr→Prop} (a:Evo W s Z s' Z') (hw:∀ x,W x→¬ Z x) {v:Value} {d:D} (r:Rep c s.heap Z v d):Rep c s'.heap Z' v d:=
  rep_mono (fun x o z e=>a.keep x o (fun q=>hw x q z) e) a.zmono r
theorem Evo.reps {c:Cx} {W:Addr→Prop} {s s':Shared} {Z Z':Addr→Prop} (a:Evo W s Z s' Z') (hw:∀ x,W x→¬ Z x) {v:List Value} {d:List D} (r:Reps c s.heap Z v d):Reps c s'.heap Z' v d:=
  reps_mono (fun x o z e=>a.keep x o (fun q=>hw x q z) e) a.zmono r
theorem Evo.repE {c:Cx} {W:Addr→Prop} {s s':Shared} {Z Z':Addr→Prop} (a:Evo W s Z s' Z') (hw:∀ x,W x→¬ Z x) {v:List (Str × Value)} {d:List (Str × D)} (r:RepE c s.heap Z v d):RepE c s'.heap Z' v d:=
  repE_mono (fun x o z e=>a.keep x o (fun q=>hw x q z) e) a.zmono r
theorem no_z {Z:Addr→Prop}:∀ x,no x→¬ Z x:=fun _ h=>h.elim
inductive Post (c:Cx) (s:Shared) (Z:Addr→Prop) (d:D) (v:Value) (s':Shared):Prop
  | mk (Z':Addr→Prop) (i:Inv c s' Z') (e:Evo no s Z s' Z') (r:Rep c s'.heap Z' v d):Post c s Z d v s'
inductive Sl where
  | val (d:D)
  | own (d:D)
deriving Inhabited
noncomputable def OwnRep (c:Cx) (h:Heap) (Z:Addr→Prop) (a:Addr):D→Prop
  | .list ds=>∃ vs:List Value,PlainL h a vs.toArray∧Reps c h Z vs ds
  | .dict es=>(a == sysModules) = false∧∃ kvs,h.DictOf (sk c) a kvs∧RepE c h Z kvs es
  | _=>False
noncomputable def SlRep (c:Cx) (h:Heap) (Z W:Addr→Prop) (v:Value):Sl→Prop
  | .val d=>Rep c h Z v d
  | .own d=>∃ a,v = .ref a∧W a∧OwnRep c h Z a d
noncomputable def HasVal (env:Env) (h:Heap) (x:Str) (k:NameKind) (v:Value):Prop:=
  match k with
  | .local=>∃ m,h.Ns env.locals m∧m x = some v
  | .cell | .free=>∃ a,env.cells.lookup x = some a∧h.IsCell a (some v)
  | _=>False
structure Fr (c:Cx) (sc:Scope) (env:Env) (ρ:List (Option Sl)) (s:Shared) (Z W:Addr→Prop):Prop where
  esc:env.scope = sc
  kind:sc.kind = .function
  glob:env.globals = mainGlobals
  bu:env.builtins = builtinsNs
  nodup:∀ (i j:Nat) (x:Str) (k k':NameKind),sc.names[i]? = some (x,k)→sc.names[j]? = some (x,k')→i = j
  ns:∃ m,s.heap.Ns env.locals m
  wl:W env.locals
  zw:∀ a,W a→¬ Z a
  wa:∀ a,W a→∃ o,s.heap.get? a = some o
  cell:∀ (i:Nat) (x:Str) (k:NameKind),sc.names[i]? = some (x,k)→(k = .cell∨k = .free)→∃ a ov,env.cells.lookup x = some a∧s.heap.IsCell a ov∧W a
  apart:∀ x y a,env.cells.lookup x = some a→env.cells.lookup y = some a→x = y
  lc:∀ x a,env.cells.lookup x = some a→a ≠ env.locals
  cw:∀ x a,env.cells.lookup x = some a→W a
  slot:∀ (i:Nat) (x:Str) (k:NameKind) (sl:Sl),sc.names[i]? = some (x,k)→ρ[i]? = some (some sl)→∃ v,HasVal env s.heap x k v∧SlRep c s.heap Z W v sl
  ownA:∀ (i j:Nat) (x y:Str) (k l:NameKind) (d e:D) (a b:Addr),sc.names[i]? = some (x,k)→sc.names[j]? = some (y,l)→i ≠ j→ρ[i]? = some (some (.own d))→ρ[j]? = some (some (.own e)) →
    HasVal env s.heap x k (.ref a)→HasVal env s.heap y l (.ref b)→a ≠ b
  ownL:∀ (i:Nat) (x:Str) (k:NameKind) (d:D) (a:Addr),sc.names[i]? = some (x,k)→ρ[i]? = some (some (.own d))→HasVal env s.heap x k (.ref a) →
    a ≠ env.locals∧∀ y b,env.cells.lookup y = some b→a ≠ b
theorem HasVal.keep {env:Env} {h h':Heap} {x:Str} {k:NameKind} {v:Value} (H:HasVal env h x k v) (hk:∀ b o,h.get? b = some o→h'.get? b = some o):HasVal env h' x k v:=by
  induction k<;>first | exact H.elim | skip
  · obtain ⟨m,hn,e⟩:=H;exact ⟨m,hn.keeps hk,e⟩
  · obtain ⟨a,e,hc⟩:=H;exact ⟨a,e,hc.keeps hk⟩
  · obtain ⟨a,e,hc⟩:=H;exact ⟨a,e,hc.keeps hk⟩
theorem HasVal.uniq {env:Env} {h:Heap} {x:Str} {k:NameKind} {v v':Value} (H:HasVal env h x k v) (H':HasVal env h x k v'):v = v':=by
  induction k<;>first | exact H.elim | skip
  · obtain ⟨m,⟨o,es,ep,h1,h2,h3,h4⟩,e⟩:=H
    obtain ⟨m',⟨o',es',ep',h1',h2',h3',h4'⟩,e'⟩:=H'
    rw [h1] at h1';cases h1'
    rw [h2] at h2';cases h2'
    have:=(h4 x).symm.trans (h4' x)
    rw [e,e'] at this;exact Option.some.inj this
  all_goals
    obtain ⟨a,e,o,ho,hd⟩:=H
    obtain ⟨a',e',o',ho',hd'⟩:=H'
    rw [e] at e';cases e'
    rw [ho] at ho';cases ho'
    rw [hd] at hd';cases hd';rfl
theorem OwnRep.mono {c:Cx} {h h':Heap} {Z Z':Addr→Prop} {a:Addr} {d:D} (x:OwnRep c h Z a d) (ha:∀ o,h.get? a = some o→h'.get? a = some o)
    (hk:∀ a o,Z a→h.get? a = some o→h'.get? a = some o) (hz:∀ a,Z a→Z' a):OwnRep c h' Z' a d:=by
  cases d<;>first | exact x.elim | skip
  · obtain ⟨vs,hl,r⟩:=x;exact ⟨vs,plainL_at hl ha,reps_mono hk hz r⟩
  · obtain ⟨hs,kvs,hl,r⟩:=x;exact ⟨hs,kvs,hl.at ha,repE_mono hk hz r⟩
theorem SlRep.mono {c:Cx} {h h':Heap} {Z Z' W:Addr→Prop} {v:Value} {sl:Sl} (x:SlRep c h Z W v sl) (hk:∀ a o,h.get? a = some o→h'.get? a = some o) (hz:∀ a,Z a→Z' a) :
    SlRep c h' Z' W v sl:=by
  induction sl with
  | val d=>exact rep_mono (fun a o _ e=>hk a o e) hz x
  | own d=>obtain ⟨a,rfl,hw,ho⟩:=x;exact ⟨a,rfl,hw,ho.mono (fun o e=>hk a o e) (fun a o _ e=>hk a o e) hz⟩
theorem Fr.grow {c:Cx} {sc:Scope} {env:Env} {ρ:List (Option Sl)} {s s':Shared} {Z Z' W:Addr→Prop} (F:Fr c sc env ρ s Z W) (e:Evo no s Z s' Z'):Fr c sc env ρ s' Z' W:=by
  have hk:∀ b o,s.heap.get? b = some o→s'.heap.get? b = some o:=fun b o=>e.keep b o id
  have back:∀ (i:Nat) (x:Str) (k:NameKind) (sl:Sl) (v:Value),sc.names[i]? = some (x,k)→ρ[i]? = some (some sl)→HasVal env s'.heap x k v→HasVal env s.heap x k v:=fun i x k sl v h1 h2 h3=>by
    obtain ⟨u,hu,_⟩:=F.slot i x k sl h1 h2
    rw [HasVal.uniq h3 (hu.keep hk)];exact hu
  refine ⟨F.esc,F.kind,F.glob,F.bu,F.nodup,?_,F.wl,?_,?_,?_,F.apart,F.lc,F.cw,?_,?_,?_⟩
  · obtain ⟨m,hm⟩:=F.ns;exact ⟨m,hm.keeps hk⟩
  · intro a hw hz
    rcases e.znew a hz with h | h | h
    · exact F.zw a hw h
    · exact h
    · obtain ⟨o,ho⟩:=F.wa a hw;rw [ho] at h;cases h
  · exact fun a hw=>(by refine bc fun g=>?_;obtain ⟨o,ho⟩:=F.wa a hw;exact g (⟨o,hk a o ho⟩))
  · intro i x k h1 h2
    obtain ⟨a,ov,h3,h4,h5⟩:=F.cell i x k h1 h2
    exact ⟨a,ov,h3,h4.keeps hk,h5⟩
  · intro i x k sl h1 h2
    obtain ⟨v,hv,r⟩:=F.slot i x k sl h1 h2
    exact ⟨v,hv.keep hk,r.mono hk e.zmono⟩
  · intro i j x y k l d e' a b h1 h2 h3 h4 h5 h6 h7
    exact F.ownA i j x y k l d e' a b h1 h2 h3 h4 h5 (back i x k _ _ h1 h4 h6) (back j y l _ _ h2 h5 h7)
  · intro i x k d a h1 h2 h3
    exact F.ownL i x k d a h1 h2 (back i x k _ _ h1 h2 h3)
noncomputable def EvE (c:Cx) (n:Nat) (sc:Scope) (ρ:List (Option Sl)) (e:Expr) (d:D):Prop:=
  ∀ A s Z W env,Room A n→Inv c s Z→Fr c sc env ρ s Z W→wpAny (model c.prog c.w) A (eval e env) (Post c s Z d) noE s
noncomputable def Gives (c:Cx) (A:Around) (t:Sem Value) (s:Shared) (Z:Addr→Prop) (d:D):Prop:=wpAny (model c.prog c.w) A t (Post c s Z d) noE s
section
variable {c:Cx} {A:Around} {s:Shared} {Z:Addr→Prop}
theorem Gives.then {t:Sem Value} {d:D} {α:Type} {k:Value→Sem α} {Q:α→Shared→Prop} (h:Gives c A t s Z d)
    (hk:∀ v s' Z',Inv c s' Z'→Evo no s Z s' Z'→Rep c s'.heap Z' v d→wpAny (model c.prog c.w) A (k v) Q noE s'):wpAny (model c.prog c.w) A (t >>= k) Q noE s:=
  wpAny_bind (wpAny_mono h ((by rintro v s' ⟨Z',a,b,r⟩;exact hk v s' Z' a b r)) fun _ _ x=>x.elim)
theorem Gives.to {t:Sem Value} {d:D} {Q:Value→Shared→Prop} (h:Gives c A t s Z d)
    (hk:∀ v s' Z',Inv c s' Z'→Evo no s Z s' Z'→Rep c s'.heap Z' v d→Q v s'):wpAny (model c.prog c.w) A t Q noE s:=
  wpAny_mono h ((by rintro v s' ⟨Z',a,b,r⟩;exact hk v s' Z' a b r)) fun _ _ x=>x.elim
theorem Post.trans {s₁:Shared} {Z₁:Addr→Prop} {d:D} (e:Evo no s Z s₁ Z₁) {v:Value} {s':Shared} (h:Post c s₁ Z₁ d v s'):Post c s Z d v s':=
  (by obtain ⟨Z',a,b,r⟩:=h;exact ⟨Z',a,e.trans b,r⟩)
theorem Gives.from {t:Sem Value} {d:D} {s₁:Shared} {Z₁:Addr→Prop} (h:Gives c A t s₁ Z₁ d) (e:Evo no s Z s₁ Z₁):wpAny (model c.prog c.w) A t (Post c s Z d) noE s₁:=
  wpAny_mono h (fun _ _ x=>x.trans e) fun _ _ x=>x
theorem Post.here {d:D} {v:Value} {tk:Nat} (I:Inv c s Z) (r:Rep c s.heap Z v d):Post c s Z d v { s with toks:=tk }:=
  ⟨Z,⟨I.base,I.zb,I.za,I.os,I.bare⟩,⟨fun _ _ _ e=>e,fun _ _ e=>e,fun _ e=>e,fun _ e=>.inl e⟩,r⟩
theorem Post.here' {d:D} {v:Value} (I:Inv c s Z) (r:Rep c s.heap Z v d):Post c s Z d v s:=Post.here (tk:=s.toks) I r
end
end Mine
end
section
open PySem PySem.W PyProof.Rows
namespace Mine
section
variable {c:Cx} {A:Around} {s:Shared} {Z:Addr→Prop}
noncomputable def Zadd (Z:Addr→Prop) (a:Addr):Addr→Prop:=fun x=>Z x∨x = a
theorem Inv.push (I:Inv c s Z) (o:Obj) (tk:Nat) (hf:o.isFreed = false:=by rfl):Inv c { s with heap:=s.heap.push o,toks:=tk } (Zadd Z s.heap.objs.size):=
  ⟨fun b o' e=>Heap.get?_push_of_some _ (I.base b o' e),fun a o h=>.inl (I.zb a o h),fun a h=>by
    rcases h with h | rfl
    · obtain ⟨o',e⟩:=I.za a h;exact ⟨o',Heap.get?_push_of_some _ e⟩
    · exact ⟨o,Heap.get?_push_size _ hf⟩,I.os,I.bare⟩
theorem Inv.push0 (I:Inv c s Z) (o:Obj) (tk:Nat):Inv c { s with heap:=s.heap.push o,toks:=tk } Z:=
  ⟨fun b o' e=>Heap.get?_push_of_some _ (I.base b o' e),I.zb,fun a h=>let ⟨o',e⟩:=I.za a h;⟨o',Heap.get?_push_of_some _ e⟩,I.os,I.bare⟩
theorem fresh_size (h:Heap):h.get? h.objs.size = none:=by
  induction q:h.get? h.objs.size with
  | none=>rfl
  | some o=>exact absurd (Heap.lt_size q) (Nat.lt_irrefl _)
theorem Evo.push (o:Obj) (tk:Nat):Evo no s Z { s with heap:=s.heap.push o,toks:=tk } (Zadd Z s.heap.objs.size):=
  ⟨fun b o' _ e=>Heap.get?_push_of_some _ e,fun _ _ e=>e,fun _ h=>.inl h,fun a h=>by
    rcases h with h | rfl
    · exact .inl h
    · exact .inr (.inr (fresh_size _))⟩
theorem Evo.push0 {W:Addr→Prop} (o:Obj) (tk:Nat):Evo W s Z { s with heap:=s.heap.push o,toks:=tk } Z:=
  ⟨fun b o' _ e=>Heap.get?_push_of_some _ e,fun _ _ e=>e,fun _ h=>h,fun a h=>.inl h⟩
theorem Reps.push {vs:List Value} {ds:List D} (r:Reps c s.heap Z vs ds) (o:Obj):Reps c (s.heap.push o) (Zadd Z s.heap.objs.size) vs ds:=
  reps_mono (fun _ _ _ e=>Heap.get?_push_of_some _ e) (fun _ h=>.inl h) r
theorem Post.newList {vs:List Value} {ds:List D} {n tk:Nat} (I:Inv c s Z) (r:Reps c s.heap Z vs ds) :
    Post c s Z (.list ds) (.ref s.heap.objs.size) { s with heap:=s.heap.push { cls:=.type "list",data:=.seq vs.toArray n },toks:=tk }:=
  ⟨_,I.push _ _,Evo.push _ _,.list (.inr rfl) ⟨_,n,Heap.get?_push_size _ rfl,rfl,rfl,rfl⟩ (r.push _)⟩
theorem Post.newTuple {vs:List Value} {ds:List D} {n tk:Nat} (I:Inv c s Z) (r:Reps c s.heap Z vs ds) :
    Post c s Z (.tuple ds) (.ref s.heap.objs.size) { s with heap:=s.heap.push { cls:=.type "tuple",data:=.seq vs.toArray n },toks:=tk }:=
  ⟨_,I.push _ _,Evo.push _ _,.tuple (.inr rfl) ⟨_,Heap.get?_push_size _ rfl,rfl,n,rfl⟩ (r.push _)⟩
theorem Reps.length {vs:List Value} {ds:List D} {h:Heap} (r:Reps c h Z vs ds):vs.length = ds.length:=r.ind (P:=fun vs ds=>vs.length = ds.length) rfl fun _ _ ih=>congrArg (· + 1) ih
theorem Reps.append {h:Heap} {vs ws:List Value} {ds es:List D} (r:Reps c h Z vs ds) (y:Reps c h Z ws es):Reps c h Z (vs ++ ws) (ds ++ es):=r.ind (P:=fun vs ds=>Reps c h Z (vs ++ ws) (ds ++ es)) y fun a _ ih=>.cons a ih
theorem Reps.get {h:Heap} {vs:List Value} {ds:List D} {i:Nat} {d:D} (r:Reps c h Z vs ds):ds[i]? = some d→∃ v,vs[i]? = some v∧Rep c h Z v d:=
  r.ind (P:=fun vs ds=>∀ i,ds[i]? = some d→∃ v,vs[i]? = some v∧Rep c h Z v d) (fun _ e=>none_some List.getElem?_nil e) (fun a _ ih i=>by
    induction i with
    | zero=>exact fun e=>⟨_,rfl,Option.some.inj e▸a⟩
    | succ i=>exact ih i) i
theorem Reps.take {h:Heap} {vs:List Value} {ds:List D} (k:Nat) (r:Reps c h Z vs ds):Reps c h Z (vs.take k) (ds.take k):=
  r.ind (P:=fun vs ds=>∀ k,Reps c h Z (vs.take k) (ds.take k)) (fun k=>by induction k<;>exact .nil) (fun a _ ih k=>by
    induction k with
    | zero=>exact .nil
    | succ k=>exact .cons a (ih k)) k
theorem Reps.drop {h:Heap} {vs:List Value} {ds:List D} (k:Nat) (r:Reps c h Z vs ds):Reps c h Z (vs.drop k) (ds.drop k):=
  r.ind (P:=fun vs ds=>∀ k,Reps c h Z (vs.drop k) (ds.drop k)) (fun k=>by induction k<;>exact .nil) (fun a b ih k=>by
    induction k with
    | zero=>exact .cons a b
    | succ k=>exact ih k) k
theorem Reps.set {h:Heap} {vs:List Value} {ds:List D} (k:Nat) {v:Value} {d:D} (r:Reps c h Z vs ds) (q:Rep c h Z v d):Reps c h Z (vs.set k v) (ds.set k d):=
  r.ind (P:=fun vs ds=>∀ k,Reps c h Z (vs.set k v) (ds.set k d)) (fun _=>.nil) (fun a b ih k=>by
    induction k with
    | zero=>exact .cons q b
    | succ k=>exact .cons a (ih k)) k
noncomputable def OpG (c:Cx) (n:Nat) (op:Operator) (a b d:D):Prop:=
  ∀ A s Z va vb,Room A n→Inv c s Z→Rep c s.heap Z va a→Rep c s.heap Z vb b→Gives c A (binaryOp op va vb) s Z d
variable {n:Nat}
theorem op_addI {a b:Int}:OpG c n .Add (.int a) (.int b) (.int (a + b)):=fun _ _ _ _ _ _ I ha hb=>by
  (replace ha:=ha.iI;induction ha);(replace hb:=hb.iI;induction hb);exact add_int (Post.here I .int)
theorem op_subI {a b:Int}:OpG c n .Sub (.int a) (.int b) (.int (a - b)):=fun _ _ _ _ _ _ I ha hb=>by
  (replace ha:=ha.iI;induction ha);(replace hb:=hb.iI;induction hb);exact sub_int (Post.here I .int)
theorem op_modI {a b:Int} (h:b ≠ 0):OpG c n .Mod (.int a) (.int b) (.int (a.fmod b)):=fun _ _ _ _ _ _ I ha hb=>by
  (replace ha:=ha.iI;induction ha);(replace hb:=hb.iI;induction hb);exact mod_int' h (Post.here I .int)
theorem op_divI {a b:Int} (h:b ≠ 0) (h2:Builtin.divisionGoesByPylong a b = false):OpG c n .FloorDiv (.int a) (.int b) (.int (a.fdiv b)):=fun _ _ _ _ _ _ I ha hb=>by
  (replace ha:=ha.iI;induction ha);(replace hb:=hb.iI;induction hb);exact floordiv_int h (Post.here I .int) (.inl h2)
theorem op_mulI {a b:Int} (h:IntMulOk a b):OpG c n .Mult (.int a) (.int b) (.int (a * b)):=fun _ _ _ _ _ _ I ha hb=>by
  (replace ha:=ha.iI;induction ha);(replace hb:=hb.iI;induction hb);exact PyProof.Rows.mul_int (Post.here I .int) h
theorem op_addS {a b:Str} (h:a.length + b.length≤sizeLine):OpG c n .Add (.str a) (.str b) (.str (a ++ b)):=fun _ _ _ _ _ _ I ha hb=>by
  (replace ha:=ha.iS;induction ha);(replace hb:=hb.iS;induction hb);exact PyProof.Rows.add_str (fun _ _=>Post.here I .str) h
theorem op_addL {xs ys:List D} (h:xs.length + ys.length≤sizeLine):OpG c n .Add (.list xs) (.list ys) (.list (xs ++ ys)):=fun A s Z _ _ _ I ha hb=>by
  replace ha:=ha.iL;induction ha with | mk z hl r=>?_
  replace hb:=hb.iL;induction hb with | mk z2 hb r2=>?_
  replace hl:=hl.isList
  replace hb:=hb.isList
  refine bc fun g=>?_;obtain ⟨⟨cls,dd,data,sl⟩,ho,hc,n,hd⟩:=id hl
  obtain ⟨⟨cls2,dd2,data2,sl2⟩,ho2,hc2,n2,hd2⟩:=id hb
  simp only at hc hd hc2 hd2
  subst hc hd hc2 hd2
  rename_i l vs b ws
  refine g ?_;refine concat_meets ⟨_,ho,rfl⟩ ⟨_,ho2,rfl⟩ noFill_list_add seq_list_add PySem.F.slot_list_add PySem.F.entry_list_add (PySem.F.args_list_add_2 _ _) (list_addW l b vs.toArray ws.toArray n n2 dd dd2 sl sl2 (by simpa [r.length,r2.length] using h)) ⟨ho,ho2,?_⟩
  rw [(by simp:vs.toArray ++ ws.toArray = (vs ++ ws).toArray)]
  exact Post.newList I (r.append r2)
end
end Mine
end
section
open PySem PySem.W PyProof.Rows
open AutoSeq1 (wpAny_loadPart')
open MeetsSeq MeetsSeq2 MeetsSeq3
namespace Mine
noncomputable def EqW (prog:Program) (w:World) (A:Around) (s:Shared) (y x:Value) (b:Bool):Prop:=
  ∀ (E:Value→Shared→Prop) (Q:Bool→Shared→Prop),Q b s→wpAny (model prog w) A (eqBool y x) Q E s
theorem EqW.of {prog:Program} {w:World} {A:Around} {s:Shared} {y x:Value} {b:Bool} (h:SeqAt.EqAt A s y x b):EqW prog w A s y x b:=fun E Q q=>h prog w E Q q
noncomputable def MeetW (prog:Program) (w:World) (A:Around) (t:Sem Fin) (R:Result→Shared→Prop) (s:Shared):Prop:=
  wpAny (model prog w) A.in1 t (fun fin s'=>match fin with | .done f=>R (.ok f) s' | .again c'=>c'.quiet = true∧codeAny (model prog w) A c' R s') (fun e s'=>R (.error e) s') s
section
variable {prog:Program} {w:World} {A:Around} {E:Value→Shared→Prop} {s:Shared}
theorem rich_W {T id:String} {op:CmpOp} {B:Builtin} {a b:Value} {Q:Value→Shared→Prop} (ha:s.TypeIs a T) (hb:s.TypeIs b T)
    (slot:Slot T (cmpInfo op).2.1 id) (entry:entryFor table id = some B) (args:argsOk id ⟨[a,b],[]⟩)
    (g:∀ R:Result→Shared→Prop,R = wants (fun v s'=>v ≠ .notImplemented∧Q v s') E→MeetW prog w A (B ⟨[a,b],[]⟩) R s) (hu:A.units < cLine) :
    wpAny (model prog w) A (richCompare op a b) Q E s:=
  wpAny_richCompare_same_room ha hb slot (wpAny_call (codeAny_call_builtin slot.plain entry (slot.check _ _ _ _ _ _ _ _ ha args (g _ rfl)))) hu
theorem listLoopW (ne:Bool) (l b:Addr) (items items2:Array Value) (n n2:Nat) (dd dd2:Option Addr) (sl sl2:Array (Option Value)) (hsz:items.size = items2.size) (e:Nat→Bool)
    (hl:s.heap.get? l = some { cls:=.type "list",dict:=dd,data:=.seq items n,slots:=sl }) (hb:s.heap.get? b = some { cls:=.type "list",dict:=dd2,data:=.seq items2 n2,slots:=sl2 })
    (he:∀ j (h1:j < items.size) (h2:j < items2.size),EqW prog w A.in1 s items[j] items2[j] (e j)) (R:Result→Shared→Prop) (k:Nat) :
    ∀ i:Nat,items.size - i = k→R (.ok (.ret (.bool (ne != ((List.range items.size).drop i).all e)))) s →
      MeetW prog w A (Builtin.«list.__eq__.loop» ⟨[.ref l,.ref b,rawInt i,rawInt (if ne then 3 else 2)],[]⟩) R s:=by
  induction k with
  | zero=>
    intro i hk h
    obtain ⟨hp,g,d,tk,os⟩:=s
    have hi1:items[((i:Nat):Int).toNat]? = none:=by simp;exact Nat.le_of_sub_eq_zero hk
    have hi2:items2[((i:Nat):Int).toNat]? = none:=by simp;exact hsz▸Nat.le_of_sub_eq_zero hk
    have hd:(List.range items.size).drop i = []:=by simp;exact Nat.le_of_sub_eq_zero hk
    rw [hd] at h
    unfold MeetW
    cases ne <;>
    · simp only [if_true,if_false,Bool.false_eq_true]
      wp_walk using wpAny_loadPart' hl,wpAny_loadPart' hb
      rw [hi1,hi2]
      wp_walk using wpAny_loadPart' hl,wpAny_loadPart' hb
      first
      | (show R (.ok (.ret (.bool (items.size != items2.size)))) _;rw [hsz];simpa using h)
      | (show R (.ok (.ret (.bool (items.size == items2.size)))) _;rw [hsz];simpa using h)
  | succ k ih=>
    intro i hk h
    obtain ⟨hp,g,d,tk,os⟩:=s
    have hlt:i < items.size:=Nat.lt_of_sub_eq_succ hk
    have hlt2:i < items2.size:=hsz▸hlt
    have hi1:items[((i:Nat):Int).toNat]? = some items[i]:=by simp [hlt]
    have hi2:items2[((i:Nat):Int).toNat]? = some items2[i]:=by simp [hlt2]
    have hd:(List.range items.size).drop i = i :: (List.range items.size).drop (i + 1):=by simp [List.drop_eq_getElem_cons,hlt]
    have hc:((i:Int) + 1) = ((i + 1:Nat):Int):=by push_cast;rfl
    rw [hd,List.all_cons] at h
    have ih':=ih (i + 1) (congrArg Nat.pred hk)
    unfold MeetW at ih' ⊢
    cases ne <;>
    · simp only [if_true,if_false,Bool.false_eq_true] at ih' ⊢
      wp_walk using wpAny_loadPart' hl,wpAny_loadPart' hb
      rw [hi1,hi2]
      refine wpAny_bind (he i hlt hlt2 _ _ ?_)
      cases hb':e i with
      | true=>
        rw [hb'] at h
        wp_walk
        rw [hc]
        exact ⟨plainId_quiet plain_eq_loop _,codeAny_builtin entry_eq_loop (by
          rw [Around.under_plainId plain_eq_loop _]
          exact ih' (by simpa using h))⟩
      | false=>
        rw [hb'] at h
        wp_walk using wpAny_loadPart' hl,wpAny_loadPart' hb
        rw [hi1,hi2]
        wp_walk
        simpa using h
theorem eqListW {l b:Addr} {items items2:Array Value} {e:Nat→Bool} {Q:Value→Shared→Prop} (hl:s.heap.IsList l items) (hb:s.heap.IsList b items2) (hsz:items.size = items2.size) (hu:A.units < cLine)
    (he:∀ j (h1:j < items.size) (h2:j < items2.size),EqW prog w A.in1 s items[j] items2[j] (e j)) (h:Q (.bool ((List.range items.size).all e)) s):wpAny (model prog w) A (richCompare .Eq (.ref l) (.ref b)) Q E s:=by
  obtain ⟨⟨cls,dd,data,sl⟩,ho,hc,n,hd⟩:=id hl
  obtain ⟨⟨cls2,dd2,data2,sl2⟩,ho2,hc2,n2,hd2⟩:=id hb
  simp only at hc hd hc2 hd2
  subst hc hd hc2 hd2
  refine rich_W (op:=.Eq) ⟨_,ho,rfl⟩ ⟨_,ho2,rfl⟩ F.slot_list_eq F.entry_list_eq (F.args_list_eq_2 _ _) (fun R hR=>?_) hu
  have key:=listLoopW false l b items items2 n n2 dd dd2 sl sl2 hsz e ho ho2 he R _ 0 rfl (by rw [hR];exact ⟨(fun x=>nomatch x),by simpa using h⟩)
  clear hl hb h hR
  obtain ⟨hp,g,d,tk,os⟩:=s
  have f3:=AutoSeq1.sub_list_list
  have hne:¬ (items.size != items2.size) = true:=by simp [hsz]
  unfold MeetW
  wp_walk using wpAny_loadPart' ho,wpAny_loadPart' ho2
  exact ⟨plainId_quiet plain_eq_loop _,codeAny_builtin entry_eq_loop (by
    rw [Around.under_plainId plain_eq_loop _]
    exact key)⟩
theorem neListW {l b:Addr} {items items2:Array Value} {e:Nat→Bool} {Q:Value→Shared→Prop} (hl:s.heap.IsList l items) (hb:s.heap.IsList b items2) (hsz:items.size = items2.size) (hu:A.units < cLine)
    (he:∀ j (h1:j < items.size) (h2:j < items2.size),EqW prog w A.in1 s items[j] items2[j] (e j)) (h:Q (.bool (!(List.range items.size).all e)) s):wpAny (model prog w) A (richCompare .NotEq (.ref l) (.ref b)) Q E s:=by
  obtain ⟨⟨cls,dd,data,sl⟩,ho,hc,n,hd⟩:=id hl
  obtain ⟨⟨cls2,dd2,data2,sl2⟩,ho2,hc2,n2,hd2⟩:=id hb
  simp only at hc hd hc2 hd2
  subst hc hd hc2 hd2
  refine rich_W (op:=.NotEq) ⟨_,ho,rfl⟩ ⟨_,ho2,rfl⟩ F.slot_list_ne F.entry_list_ne (F.args_list_ne_2 _ _) (fun R hR=>?_) hu
  have key:=listLoopW true l b items items2 n n2 dd dd2 sl sl2 hsz e ho ho2 he R _ 0 rfl (by rw [hR];exact ⟨(fun x=>nomatch x),by simpa using h⟩)
  clear hl hb h hR
  obtain ⟨hp,g,d,tk,os⟩:=s
  have f3:=AutoSeq1.sub_list_list
  have hne:¬ (items.size != items2.size) = true:=by simp [hsz]
  unfold MeetW
  wp_walk using wpAny_loadPart' ho,wpAny_loadPart' ho2
  exact ⟨plainId_quiet plain_eq_loop _,codeAny_builtin entry_eq_loop (by
    rw [Around.under_plainId plain_eq_loop _]
    exact key)⟩
theorem eqTupleW {l b:Addr} {items items2:Array Value} {e:Nat→Bool} {Q:Value→Shared→Prop} (hl:s.heap.IsTuple l items) (hb:s.heap.IsTuple b items2) (hu:A.units < cLine)
    (he:∀ j (h1:j < items.size) (h2:j < items2.size),EqW prog w A.in1 s items[j] items2[j] (e j))
    (h:Q (.bool ((List.range (min items.size items2.size)).all e && items.size == items2.size)) s):wpAny (model prog w) A (richCompare .Eq (.ref l) (.ref b)) Q E s:=by
  obtain ⟨⟨cls,dd,data,sl⟩,ho,hc,n,hd⟩:=id hl
  obtain ⟨⟨cls2,dd2,data2,sl2⟩,ho2,hc2,n2,hd2⟩:=id hb
  simp only at hc hd hc2 hd2
  subst hc hd hc2 hd2
  refine rich_W (op:=.Eq) ⟨_,ho,rfl⟩ ⟨_,ho2,rfl⟩ F.slot_tuple_eq F.entry_tuple_eq (F.args_tuple_eq_2 _ _) (fun R hR=>?_) hu
  have h':R (.ok (.ret (.bool ((List.range (min items.size items2.size)).all e && items.size == items2.size)))) s:=by rw [hR];exact ⟨(fun x=>nomatch x),h⟩
  clear hl hb h hR
  unfold MeetW
  refine wpAny_mono (Q:=fun fin s'=>∃ v,fin = .done (.ret v)∧R (.ok (.ret v)) s') ?_ (fun fin s' hf=>by obtain ⟨v,rfl,q⟩:=hf;exact q) fun _ _ x=>x
  obtain ⟨hp,g,d,tk,os⟩:=s
  have f2:=AutoSeq1.sub_tuple_tuple
  have hZ:(items.toList.zip items2.toList).length = min items.size items2.size:=by simp
  wp_walk using wpAny_loadPart' ho,wpAny_loadPart' ho2,wpAny_forIn_list _ (fun rest b s'=>b.1 = none∧s' = ⟨hp,g,d,tk,os⟩∧∃ i,rest = (items.toList.zip items2.toList).drop i ∧
      R (.ok (.ret (.bool (((List.range (min items.size items2.size)).drop i).all e && items.size == items2.size)))) ⟨hp,g,d,tk,os⟩) _
  case turn=>
    rintro ⟨y,x⟩ rest b s' ⟨hb',rfl,i,hz,hR⟩
    have hlt:i < (items.toList.zip items2.toList).length:=by
      rcases Nat.lt_or_ge i (items.toList.zip items2.toList).length with h' | h'
      · exact h'
      · (rw [List.drop_of_length_le h'] at hz;cases hz)
    have hm:i < min items.size items2.size:=hZ▸hlt
    have h1:i < items.size:=Nat.lt_of_lt_of_le hm (Nat.min_le_left _ _)
    have h2:i < items2.size:=Nat.lt_of_lt_of_le hm (Nat.min_le_right _ _)
    rw [List.drop_eq_getElem_cons hlt] at hz
    injection hz with hyx hrest
    have hy:y = items[i]:=by have:=congrArg Prod.fst hyx;simpa using this
    have hx:x = items2[i]:=by have:=congrArg Prod.snd hyx;simpa using this
    subst hy hx
    have hd:(List.range (min items.size items2.size)).drop i = i :: (List.range (min items.size items2.size)).drop (i + 1):=by simp [List.drop_eq_getElem_cons,hm]
    rw [hd,List.all_cons] at hR
    refine wpAny_bind (he i h1 h2 _ _ ?_)
    cases hy:e i with
    | true=>
      rw [hy] at hR
      wp_walk
      exact ⟨rfl,rfl,i + 1,hrest,by simpa using hR⟩
    | false=>
      rw [hy] at hR
      wp_walk
      exact ⟨_,rfl,by simpa using hR⟩
  case fin=>
    rintro ⟨b1,b2⟩ s' ⟨hb',rfl,i,hz,hR⟩
    simp only at hb'
    subst hb'
    have hge:min items.size items2.size≤i:=by
      rcases Nat.lt_or_ge i (items.toList.zip items2.toList).length with h' | h'
      · (rw [List.drop_eq_getElem_cons h'] at hz;cases hz)
      · exact hZ▸h'
    rw [List.drop_of_length_le (by simpa using hge)] at hR
    wp_walk
    exact ⟨_,rfl,by simpa [Builtin.Tuple.tupleCompareSizes] using hR⟩
  case h=>
    exact ⟨rfl,rfl,0,rfl,by simpa using h'⟩
theorem EqW.refs {l b:Addr} {k:Bool} (hne:l ≠ b) (h:∀ (E:Value→Shared→Prop) (Q:Value→Shared→Prop),Q (.bool k) s→wpAny (model prog w) A (richCompare .Eq (.ref l) (.ref b)) Q E s) :
    EqW prog w A s (.ref l) (.ref b) k:=fun E Q hq=>by
  unfold eqBool
  refine wpAny_holding ?_
  refine wpAny_ite_split (fun hab=>absurd (by have:=eq_of_beq hab;injection this) hne) (fun _=>?_)
  exact wpAny_bind (h E _ (wpAny_truthy_bool hq))
theorem EqW.self (v:Value):EqW prog w A s v v true:=EqW.of (SeqAt.EqAt.same v)
end
end Mine
end
section
open PySem PySem.W PyProof.Rows
namespace Mine
inductive Hits (prog:Program) (w:World) (A:Around) (s:Shared) (kb:List (Str × Value)):List (Str × Value)→Bool→Prop
  | nil:Hits prog w A s kb [] true
  | miss {k:Str} {v:Value} {r:List (Str × Value)}:valueAt kb k = none→Hits prog w A s kb ((k,v) :: r) false
  | hit {k:Str} {v y:Value} {r:List (Str × Value)} {e b:Bool}:valueAt kb k = some y→EqW prog w A s v y e→Hits prog w A s kb r b→Hits prog w A s kb ((k,v) :: r) (e && b)
section
variable {prog:Program} {w:World} {A:Around} {E:Value→Shared→Prop} {s:Shared}
theorem Hits.split {kb:List (Str × Value)} {k:Str} {v:Value} {r:List (Str × Value)} {b:Bool} (h:Hits prog w A s kb ((k,v) :: r) b) :
    (valueAt kb k = none∧b = false)∨∃ y e b',valueAt kb k = some y∧EqW prog w A s v y e∧Hits prog w A s kb r b'∧b = (e && b'):=by
  refine bc fun g=>?_;cases h with
  | miss h=>refine g ?_;exact .inl ⟨h,rfl⟩
  | hit a b c=>refine g ?_;exact .inr ⟨_,_,_,a,b,c,rfl⟩
theorem samePairsW {nm:String} {a b:Addr} {ka kb:List (Str × Value)} {r:Bool} {Q:Bool→Shared→Prop} (ha:(a == sysModules) = false) (hb:(b == sysModules) = false)
    (da:s.heap.DictOf (strKind prog w) a ka) (db:s.heap.DictOf (strKind prog w) b kb) (hits:ka.length = kb.length→Hits prog w A s kb ka r) (h:Q (ka.length == kb.length && r) s) :
    wpAny (model prog w) A (Builtin.Dict.samePairs nm a b) Q E s:=by
  refine bc fun g=>?_;obtain ⟨oa,es,ep,hoa,_,hda,hka,hpa,_⟩:=da
  obtain ⟨ob,es',ep',hob,_,hdb,hkb,hpb,_⟩:=db
  have hla:ka.length = es.size:=by rw [← hpa.length];exact Array.length_toList
  have hlb:kb.length = es'.size:=by rw [← hpb.length];exact Array.length_toList
  have found:∀ k,findBy (strKind prog w).is es' k = valueAt kb k:=fun k=>by
    rw [← hpb.find k]
    clear hlb hpb hkb hdb hob
    obtain ⟨l⟩:=es'
    simp [findBy]
  refine g ?_;rw [hla,hlb] at h
  delta Builtin.Dict.samePairs Builtin.Dict.showsAll
  rw [if_neg (show ¬ (a == sysModules) = true by rw [ha];exact Bool.false_ne_true),if_neg (show ¬ (b == sysModules) = true by rw [hb];exact Bool.false_ne_true)]
  refine wpAny_bind (wpAny_pure (wpAny_bind (wpAny_pure (wpAny_bind (wpAny_dictEntries hoa hda ?_)))))
  skip
  refine bnd1 (fun _ q=>wpAny_dictEntries hob hdb q) ?_
  by_cases hsz:es.size = es'.size
  · have hQ:Q r s:=by simpa [hsz] using h
    rw [if_neg (by rw [hsz];simp)]
    refine wpAny_bind (wpAny_dictEpoch hoa hda (wpAny_bind ?_))
    rw [Std.Legacy.Range.forIn_eq_forIn_range']
    skip
    refine wpAny_forIn_list _
      (fun rest q s'=>s' = s∧q = (none,())∧∃ i,rest = List.range' i (es.size - i)∧i≤es.size∧Hits prog w A s kb (ka.drop i) r)
      _ ?_ ?_ _ _ ⟨rfl,rfl,0,by simp,Nat.zero_le _,(hits (by rw [hla,hlb];exact hsz))⟩
    · rintro x rest q s' ⟨rfl,rfl,i,hr,_,hpre⟩
      have hlt:i < es.size:=Nat.lt_of_not_le fun h=>by rw [Nat.sub_eq_zero_of_le h] at hr;simp at hr
      rw [show es.size - i = (es.size - (i + 1)) + 1 from (Nat.succ_pred_eq_of_pos (Nat.sub_pos_of_lt hlt)).symm,List.range'_succ] at hr
      obtain ⟨rfl,hrest⟩:=List.cons.inj hr
      refine bnd1 (fun _ q=>wpAny_dictEntries hoa hda q) ?_
      refine Array.getElem?_eq_getElem hlt▸?_
      have hlt':x < ka.length:=by rw [hla];exact hlt
      refine bc fun g=>?_;obtain ⟨k,v,hkv⟩:∃ k v,ka[x] = (k,v):=⟨_,_,rfl⟩
      obtain ⟨hkey,hval⟩:=hpa.get? (i:=x) (e:=es[x]) (k:=k) (v:=v) (by rw [Array.getElem?_toList];exact Array.getElem?_eq_getElem hlt) (by rw [List.getElem?_eq_getElem hlt',hkv])
      obtain ⟨k',hk',hh⟩:=hka es[x] (Array.getElem_mem hlt)
      refine g ?_;rw [(strKind prog w).inj _ _ _ hk' hkey] at hh
      rw [show ka.drop x = (k,v) :: ka.drop (x + 1) by refine hkv▸?_;exact List.drop_eq_getElem_cons hlt'] at hpre
      refine (?_:wpAny _ _ (holding [es[x].key,es[x].val] _ >>= _) _ _ _)
      refine hh▸?_
      refine wpAny_bind (wpAny_holding (wpAny_bind (wpAny_dictFind_of hkey hob hdb hkb ?_)))
      induction hj:es'.findIdx? fun e=>(strKind prog w).is k e.key with
      | none=>
        have hn:valueAt kb k = none:=by rw [← found k,findBy_of_findIdx?,hj]
        refine bc fun g=>?_;rcases hpre.split with ⟨_,er⟩ | ⟨y,_,_,hy,_⟩
        · subst er
          refine g ?_;refine wpAny_pure ?_
          skip
          rw [if_pos (by decide)]
          exact wpAny_pure (wpAny_pure hQ)
        · refine g ?_;rw [hn] at hy;exact nomatch hy
      | some j=>
        refine bc fun g=>?_;obtain ⟨hjlt,_,_⟩:=Array.findIdx?_eq_some_iff_getElem.mp hj
        have hv':valueAt kb k = some es'[j].val:=by
          rw [← found k,findBy_of_findIdx?,hj]
          simp [Array.getElem?_eq_getElem hjlt]
        refine g ?_;refine bnd1 (fun _ q=>wpAny_dictEntries hob hdb q) ?_
        rw [Array.getElem?_eq_getElem hjlt]
        refine bc fun g=>?_;rcases hpre.split with ⟨hn,_⟩ | ⟨y,e,b',hy,he,hrr,er⟩
        · refine g ?_;rw [hv'] at hn;exact nomatch hn
        · refine g ?_;rw [← (Option.some.inj (hv'.symm.trans hy)),← hval] at he
          refine wpAny_holding (he _ _ ?_)
          induction e with
          | false=>
            rw [Bool.false_and] at er;subst er
            skip
            rw [if_pos (by decide)]
            exact wpAny_pure (wpAny_pure hQ)
          | true=>
            rw [Bool.true_and] at er
            rw [← er] at hrr
            skip
            rw [if_neg (by decide)]
            refine bnd1 (fun _ q=>wpAny_dictEpoch hoa hda q) ?_
            rw [if_neg (by simp)]
            exact wpAny_pure ⟨rfl,rfl,x + 1,hrest,hlt,hrr⟩
    · intro q s' q;refine bc fun g=>?_;obtain ⟨rfl,rfl,i,hr,hi,hpre⟩:=q;refine g ?_
      have hin:i = es.size:=Nat.le_antisymm hi (Nat.le_of_not_lt fun h=>by
        rw [show es.size - i = (es.size - (i + 1)) + 1 by lia,List.range'_succ] at hr;exact nomatch hr)
      refine wpAny_pure ?_
      rw [hin,← hla,List.drop_length] at hpre
      cases hpre
      exact hQ
  · rw [if_pos (by simpa using hsz)]
    rw [show (es.size == es'.size) = false by simpa using hsz,Bool.false_and] at h
    exact wpAny_bind (wpAny_rule (wpAny_pure h))
theorem eqDictW {a b:Addr} {ka kb:List (Str × Value)} {r:Bool} {Q:Value→Shared→Prop} (ha:(a == sysModules) = false) (hb:(b == sysModules) = false)
    (da:s.heap.DictOf (strKind prog w) a ka) (db:s.heap.DictOf (strKind prog w) b kb) (hu:A.units < cLine) (hits:ka.length = kb.length→Hits prog w A.in1 s kb ka r) (h:Q (.bool (ka.length == kb.length && r)) s) :
    wpAny (model prog w) A (richCompare .Eq (.ref a) (.ref b)) Q E s:=by
  refine wpAny_richCompare_same_room (op:=.Eq) da.typeIs db.typeIs PySem.F.slot_dict_eq (wpAny_call_entry PySem.F.slot_dict_eq da.typeIs PySem.F.entry_dict_eq ?_ (PySem.F.args_dict_eq_2 _ _)) hu
  skip
  refine wpAny_bind ?_
  delta Builtin.Dict.dictSlotArgs
  refine bnd1 (fun _ q=>wpAny_notOrdered_dict da.typeIs q) ?_
  skip
  refine wpAny_pure (wpAny_bind (wpAny_isInstance (T:="dict") db.typeIs PySem.F.sub_dict_dict ?_))
  simp only [Bool.not_true,Bool.false_eq_true,if_false]
  refine wpAny_bind (wpAny_pure (wpAny_bind (wpAny_pure (wpAny_bind (samePairsW ha hb da db hits ?_)))))
  exact wpAny_pure ⟨_,rfl,(fun x=>nomatch x),by simpa using h⟩
theorem neDictW {a b:Addr} {ka kb:List (Str × Value)} {r:Bool} {Q:Value→Shared→Prop} (ha:(a == sysModules) = false) (hb:(b == sysModules) = false)
    (da:s.heap.DictOf (strKind prog w) a ka) (db:s.heap.DictOf (strKind prog w) b kb) (hu:A.units < cLine) (hits:ka.length = kb.length→Hits prog w A.in1 s kb ka r) (h:Q (.bool (!(ka.length == kb.length && r))) s) :
    wpAny (model prog w) A (richCompare .NotEq (.ref a) (.ref b)) Q E s:=by
  refine wpAny_richCompare_same_room (op:=.NotEq) da.typeIs db.typeIs PySem.F.slot_dict_ne (wpAny_call_entry PySem.F.slot_dict_ne da.typeIs PySem.F.entry_dict_ne ?_ (PySem.F.args_dict_ne_2 _ _)) hu
  skip
  refine wpAny_bind ?_
  delta Builtin.Dict.dictSlotArgs
  refine bnd1 (fun _ q=>wpAny_notOrdered_dict da.typeIs q) ?_
  skip
  refine wpAny_pure (wpAny_bind (wpAny_isInstance (T:="dict") db.typeIs PySem.F.sub_dict_dict ?_))
  simp only [Bool.not_true,Bool.false_eq_true,if_false]
  refine wpAny_bind (wpAny_pure (wpAny_bind (wpAny_pure (wpAny_bind (samePairsW ha hb da db hits ?_)))))
  exact wpAny_pure ⟨_,rfl,(fun x=>nomatch x),by simpa using h⟩
end
noncomputable def eqvL (f:D→D→Option Bool):List D→List D→Option Bool
  | [],[]=>some true
  | x :: xs,y :: ys=>match f x y,eqvL f xs ys with
    | some a,some b=>some (a && b)
    | _,_=>none
  | _,_=>none
noncomputable def eqvE (f:D→D→Option Bool) (fs:List (Str × D)):List (Str × D)→Option Bool
  | []=>some true
  | (n,x) :: es=>match fs.find? fun g=>g.1 = n with
    | none=>some false
    | some g=>match f x g.2,eqvE f fs es with
      | some a,some b=>some (a && b)
      | _,_=>none
noncomputable def eqvF:Nat→D→D→Option Bool
  | 0,_,_=>none
  | k + 1,x,y=>match x with
    | .none=>match y with | .none=>some true | _=>none
    | .bool a=>match y with | .bool b=>some (a == b) | _=>none
    | .int a=>match y with | .int b=>some (a == b) | _=>none
    | .str a=>match y with | .str b=>some (a == b) | _=>none
    | .list xs=>match y with | .list ys=>if xs.length = ys.length then eqvL (eqvF k) xs ys else some false | _=>none
    | .tuple xs=>match y with | .tuple ys=>if xs.length = ys.length then eqvL (eqvF k) xs ys else none | _=>none
    | .dict es=>match y with | .dict fs=>if es.length = fs.length then eqvE (eqvF k) fs es else some false | _=>none
    | _=>none
section
variable {c:Cx} {h:Heap} {Z:Addr→Prop}
theorem RepE.keys {kvs:List (Str × Value)} {es:List (Str × D)} (r:RepE c h Z kvs es):kvs.map (·.1) = es.map (·.1):=r.ind (P:=fun kvs es=>kvs.map (·.1) = es.map (·.1)) rfl fun _ _ ih=>congrArg (_ :: ·) ih
theorem RepE.length {kvs:List (Str × Value)} {es:List (Str × D)} (r:RepE c h Z kvs es):kvs.length = es.length:=by simpa using congrArg List.length r.keys
theorem RepE.none {kvs:List (Str × Value)} {es:List (Str × D)} {k:Str} (r:RepE c h Z kvs es):(es.find? fun f=>f.1 = k) = Option.none→valueAt kvs k = Option.none:=
  r.ind (P:=fun kvs es=>(es.find? fun f=>f.1 = k) = Option.none→valueAt kvs k = Option.none) (fun _=>rfl) fun {x _ _ _ _} _ _ ih e=>by
    rw [List.find?_cons] at e
    delta valueAt
    rw [List.find?_cons]
    induction hk:decide (x = k) with
    | true=>simp only [hk] at e;exact nomatch e
    | false=>simp only [hk] at e ⊢;exact ih e
theorem RepE.some {kvs:List (Str × Value)} {es:List (Str × D)} {k:Str} {f:Str × D} (r:RepE c h Z kvs es):(es.find? fun f=>f.1 = k) = Option.some f→∃ v,valueAt kvs k = Option.some v∧Rep c h Z v f.2:=
  r.ind (P:=fun kvs es=>(es.find? fun f=>f.1 = k) = .some f→∃ v,valueAt kvs k = .some v∧Rep c h Z v f.2) (fun e=>none_some List.find?_nil e) fun {x v _ _ _} a _ ih e=>by
    rw [List.find?_cons] at e
    delta valueAt
    refine List.find?_cons▸?_
    induction hk:decide (x = k) with
    | true=>simp only [hk] at e ⊢;exact ⟨v,rfl,Option.some.inj e▸a⟩
    | false=>simp only [hk] at e ⊢;exact ih e
theorem valueAt_self {kvs:List (Str × Value)} (hn:(kvs.map (·.1)).Nodup) {k:Str} {v:Value} (hm:(k,v) ∈ kvs):valueAt kvs k = Option.some v:=by
  induction kvs with
  | nil=>cases hm
  | cons x r ih=>
    obtain ⟨k',v'⟩:=x
    rw [List.map_cons,List.nodup_cons] at hn
    delta valueAt
    rw [List.find?_cons]
    rcases List.mem_cons.mp hm with e | hm
    · cases e;simp
    · have:k' ≠ k:=by rintro rfl;exact hn.1 (List.mem_map.mpr ⟨_,hm,rfl⟩)
      simp only [this,decide_false]
      exact ih hn.2 hm
inductive EqV (k:Nat):D→D→Bool→Prop
  | none:EqV k .none .none true
  | bool {a b:Bool}:EqV k (.bool a) (.bool b) (a == b)
  | int {a b:Int}:EqV k (.int a) (.int b) (a == b)
  | str {a b:Str}:EqV k (.str a) (.str b) (a == b)
  | list {xs ys:List D} {b:Bool} (hl:xs.length = ys.length) (h:eqvL (eqvF k) xs ys = .some b):EqV k (.list xs) (.list ys) b
  | listN {xs ys:List D} (hl:¬ xs.length = ys.length):EqV k (.list xs) (.list ys) false
  | tuple {xs ys:List D} {b:Bool} (hl:xs.length = ys.length) (h:eqvL (eqvF k) xs ys = .some b):EqV k (.tuple xs) (.tuple ys) b
  | dict {es fs:List (Str × D)} {b:Bool} (hl:es.length = fs.length) (h:eqvE (eqvF k) fs es = .some b):EqV k (.dict es) (.dict fs) b
  | dictN {es fs:List (Str × D)} (hl:¬ es.length = fs.length):EqV k (.dict es) (.dict fs) false
theorem ifV {p:Prop} [Decidable p] {x y:Option Bool} {b:Bool} {P:Prop} (h:(if p then x else y) = .some b) (h1:p→x = .some b→P) (h2:¬ p→y = .some b→P):P:=
  if q:p then h1 q ((if_pos q).symm.trans h) else h2 q ((if_neg q).symm.trans h)
theorem eqvF_list {k:Nat} {xs ys:List D} (h:xs.length = ys.length):eqvF (k + 1) (.list xs) (.list ys) = eqvL (eqvF k) xs ys:=if_pos h
theorem eqvF_dict {k:Nat} {xs ys:List (Str × D)} (h:xs.length = ys.length):eqvF (k + 1) (.dict xs) (.dict ys) = eqvE (eqvF k) ys xs:=if_pos h
theorem noV {P:Prop} {b:Bool} (h:(none:Option Bool) = some b):P:=nomatch h
theorem eqvF_tup {k:Nat} {xs ys:List D} (h:xs.length = ys.length):eqvF (k + 1) (.tuple xs) (.tuple ys) = eqvL (eqvF k) xs ys:=if_pos h
theorem eqvF_ii {k:Nat} {a b:Int} (h:a = b):eqvF (k + 1) (.int a) (.int b) = some true:=h▸congrArg some (beq_self_eq_true a)
theorem eqvF_str {k:Nat} {a:Str}:eqvF (k + 1) (.str a) (.str a) = some true:=congrArg some (beq_self_eq_true a)
theorem eqvF_bool {k:Nat} {a:Bool}:eqvF (k + 1) (.bool a) (.bool a) = some true:=congrArg some (beq_self_eq_true a)
theorem eqvL_c {f:D→D→Option Bool} {x y:D} {xs ys:List D} (h1:f x y = some true) (h2:eqvL f xs ys = some true):eqvL f (x :: xs) (y :: ys) = some true:=by
  refine (?_:(match f x y,eqvL f xs ys with | .some a,.some b=>Option.some (a && b) | _,_=>none) = _)
  rw [h1,h2];rfl
theorem eqvE_c {f:D→D→Option Bool} {fs es:List (Str × D)} {n:Str} {x:D} {g:Str × D} (h:(fs.find? fun g=>g.1 = n) = .some g) (h1:f x g.2 = some true) (h2:eqvE f fs es = some true):eqvE f fs ((n,x) :: es) = some true:=by
  refine (?_:(match fs.find? fun g=>g.1 = n with | .none=>Option.some false | .some g=>match f x g.2,eqvE f fs es with | .some a,.some b=>Option.some (a && b) | _,_=>none) = _)
  rw [h]
  refine (?_:(match f x g.2,eqvE f fs es with | .some a,.some b=>Option.some (a && b) | _,_=>none) = _)
  rw [h1,h2];rfl
theorem eqV_of {k:Nat} {d e:D} {b:Bool} (h:eqvF (k + 1) d e = .some b):EqV k d e b:=by
  refine bc fun g=>?_
  cases d with
  | none=>cases e with | none=>cases h;exact g .none | _=>exact noV h
  | bool=>cases e with | bool=>cases h;exact g .bool | _=>exact noV h
  | int=>cases e with | int=>cases h;exact g .int | _=>exact noV h
  | str=>cases e with | str=>cases h;exact g .str | _=>exact noV h
  | list=>cases e with | list=>exact ifV h (fun p q=>g (.list p q)) fun p q=>by cases q;exact g (.listN p) | _=>exact noV h
  | tuple=>cases e with | tuple=>exact ifV h (fun p q=>g (.tuple p q)) fun _ q=>noV q | _=>exact noV h
  | dict=>cases e with | dict=>exact ifV h (fun p q=>g (.dict p q)) fun p q=>by cases q;exact g (.dictN p) | _=>exact noV h
  | _=>exact noV h
inductive ElV (f:D→D→Option Bool) (x:D) (xs:List D):List D→Bool→Prop
  | mk {y:D} {ys:List D} {p q:Bool} (hp:f x y = .some p) (hq:eqvL f xs ys = .some q):ElV f x xs (y :: ys) (p && q)
theorem elV_of {f:D→D→Option Bool} {x:D} {xs ys:List D} {b:Bool} (h:eqvL f (x :: xs) ys = .some b):ElV f x xs ys b:=by
  induction ys with
  | nil=>cases h
  | cons y ys=>
    change (match f x y,eqvL f xs ys with | .some a,.some b=>Option.some (a && b) | _,_=>none) = _ at h
    induction hp:f x y with
    | none=>(((rw [hp] at h;cases h)))
    | some p=>
      induction hq:eqvL f xs ys with
      | none=>rw [hp,hq] at h;cases h
      | some q=>rw [hp,hq] at h;cases h;exact .mk hp hq
theorem elV_nil {f:D→D→Option Bool} {ys:List D} {b:Bool} (h:eqvL f [] ys = .some b):ys = []∧b = true:=by
  induction ys with
  | nil=>cases h;exact ⟨rfl,rfl⟩
  | cons _ _=>cases h
inductive EeV (f:D→D→Option Bool) (fs:List (Str × D)) (n:Str) (x:D) (es:List (Str × D)):Bool→Prop
  | miss (h:(fs.find? fun g=>g.1 = n) = Option.none):EeV f fs n x es false
  | hit {g:Str × D} {p q:Bool} (h:(fs.find? fun g=>g.1 = n) = .some g) (hp:f x g.2 = .some p) (hq:eqvE f fs es = .some q):EeV f fs n x es (p && q)
theorem eeV_of {f:D→D→Option Bool} {fs:List (Str × D)} {n:Str} {x:D} {es:List (Str × D)} {b:Bool} (h:eqvE f fs ((n,x) :: es) = .some b):EeV f fs n x es b:=by
  unfold eqvE at h
  induction hf:fs.find? fun g=>g.1 = n with
  | none=>(((rw [hf] at h;cases h)));exact .miss hf
  | some g=>
    rw [hf] at h
    simp only at h
    induction hp:f x g.2 with
    | none=>(((rw [hp] at h;cases h)))
    | some p=>
      induction hq:eqvE f fs es with
      | none=>rw [hp,hq] at h;cases h
      | some q=>rw [hp,hq] at h;cases h;exact .hit hf hp hq
theorem same_seq {h:Heap} {a:Addr} {cl:Value} {xs ys:List Value} (l:∃ o,h.get? a = .some o∧o.cls = cl∧∃ n,o.data = .seq xs.toArray n) (l':∃ o,h.get? a = .some o∧o.cls = cl∧∃ n,o.data = .seq ys.toArray n):xs = ys:=by
  obtain ⟨o1,h1,_,n1,h2⟩:=l
  obtain ⟨o2,h3,_,n2,h4⟩:=l'
  (induction some_eq h1 h3)
  rw [h2] at h4;injection h4 with h4 _
  exact congrArg Array.toList h4
theorem pairs_inj {prog:Program} {w:World} {es:List DictEntry} {k1 k2:List (Str × Value)} (h:Pairs (strKind prog w) es k1):Pairs (strKind prog w) es k2→k1 = k2:=by
  induction h generalizing k2 with
  | nil=>intro h2;cases h2;rfl
  | cons a b c ih=>
    intro h2
    cases h2 with
    | cons a' b' c'=>rw [ih c',Prod.ext ((strKind prog w).inj _ _ _ a a') (b.symm.trans b')]
theorem same_dict {prog:Program} {w:World} {h:Heap} {a:Addr} {k1 k2:List (Str × Value)} (l:h.DictOf (strKind prog w) a k1) (l':h.DictOf (strKind prog w) a k2):k1 = k2:=by
  obtain ⟨o1,xs1,ep1,a1,a2,a3,a4,a5,a6⟩:=l
  obtain ⟨o2,xs2,ep2,b1,b2,b3,b4,b5,b6⟩:=l'
  (induction some_eq a1 b1)
  rw [a3] at b3;injection b3 with b3 _
  subst b3
  exact pairs_inj a5 b5
theorem eqv_same:∀ (k:Nat) {d e:D} {b:Bool} {v:Value},eqvF k d e = Option.some b→Rep c h Z v d→Rep c h Z v e→b = true:=by
  intro k
  induction k with
  | zero=>intro d e b v h1;cases h1
  | succ k ih=>
    have lists:∀ {xs ys:List D} {b:Bool} {vs:List Value},eqvL (eqvF k) xs ys = Option.some b→Reps c h Z vs xs→Reps c h Z vs ys→b = true:=by
      intro xs
      induction xs with
      | nil=>intro ys b vs h1 _ _;exact (elV_nil h1).2
      | cons x xs ihx=>
        intro ys b vs h1 r1 r2
        induction elV_of h1 with | mk hp hq=>?_
        induction r1.iQ with | mk a1 a2=>?_
        cases r2 with | cons b1 b2=>?_
        rw [ih hp a1 b1,ihx hq a2 b2];rfl
    have dicts:∀ {kvs₀:List (Str × Value)} {fs:List (Str × D)},RepE c h Z kvs₀ fs→(kvs₀.map (·.1)).Nodup→∀ {es:List (Str × D)} {b:Bool} {kvs:List (Str × Value)},(∀ x ∈ kvs,x ∈ kvs₀)→eqvE (eqvF k) fs es = Option.some b→RepE c h Z kvs es→b = true:=by
      intro kvs₀ fs r0 hn es
      induction es with
      | nil=>intro b kvs _ h1 _;cases h1;rfl
      | cons x es ihx=>
        intro b kvs hm h1 r1
        cases r1 with | cons a1 a2=>?_
        have hself:=valueAt_self hn (hm _ List.mem_cons_self)
        induction eeV_of h1 with
        | miss hf=>(exact none_some (r0.none hf) hself)
        | hit hf hp hq=>
          obtain ⟨v',hv',rv⟩:=r0.some hf
          (induction some_eq hself hv')
          rw [ih hp a1 rv,ihx (fun x hx=>hm x (List.mem_cons_of_mem _ hx)) hq a2];rfl
    intro d e b v h1 r1 r2
    induction eqV_of h1 with
    | none=>rfl
    | bool=>induction r1.iB;cases r2.iB;exact beq_self_eq_true _
    | int=>induction r1.iI;cases r2.iI;exact beq_self_eq_true _
    | str=>induction r1.iS;cases r2.iS;exact beq_self_eq_true _
    | list _ h=>
      induction r1.iL with | mk _ l1 rr1=>?_
      cases r2.iL with | mk _ l2 rr2=>?_
      induction same_seq l1.isList l2.isList
      exact lists h rr1 rr2
    | listN hl=>
      refine bc fun g=>?_;induction r1.iL with | mk _ l1 rr1=>?_
      refine bc fun g=>?_;cases r2.iL with | mk _ l2 rr2=>?_
      induction same_seq l1.isList l2.isList
      exact absurd (rr1.length.symm.trans rr2.length) hl
    | tuple _ h=>
      induction r1.iT with | mk _ l1 rr1=>?_
      cases r2.iT with | mk _ l2 rr2=>?_
      induction same_seq l1 l2
      exact lists h rr1 rr2
    | dict _ h=>
      induction r1.iD with | mk _ _ l1 rr1=>?_
      cases r2.iD with | mk _ _ l2 rr2=>?_
      induction same_dict l1 l2
      obtain ⟨_,_,_,_,_,_,_,_,hn⟩:=l1
      exact dicts rr2 hn (fun _ hx=>hx) h rr1
    | dictN hl=>
      refine bc fun g=>?_;induction r1.iD with | mk _ _ l1 rr1=>?_
      refine bc fun g=>?_;cases r2.iD with | mk _ _ l2 rr2=>?_
      induction same_dict l1 l2
      exact absurd (rr1.length.symm.trans rr2.length) hl
end
section
variable {c:Cx} {s:Shared} {Z:Addr→Prop}
theorem eqvL_els {A:Around} {f:D→D→Option Bool} (ih:∀ {d e:D} {b:Bool} {u v:Value},f d e = Option.some b→Rep c s.heap Z u d→Rep c s.heap Z v e→EqW c.prog c.w A s u v b) :
    ∀ {xs ys:List D} {b:Bool} {us vs:List Value},eqvL f xs ys = Option.some b→Reps c s.heap Z us xs→Reps c s.heap Z vs ys →
        ∃ e:Nat→Bool,(∀ j (h1:j < us.length) (h2:j < vs.length),EqW c.prog c.w A s us[j] vs[j] (e j))∧(List.range us.length).all e = b∧us.length = vs.length:=by
  intro xs
  induction xs with
  | nil=>
    intro ys b us vs h1 r1 r2
    obtain ⟨rfl,rfl⟩:=elV_nil h1
    induction r1.iE
    induction r2.iE
    exact ⟨fun _=>true,fun j h=>absurd h (Nat.not_lt_zero _),rfl,rfl⟩
  | cons x xs ihx=>
    intro ys b us vs h1 r1 r2
    induction elV_of h1 with | mk hp hq=>?_
    rename_i y ys p q
    induction r1.iQ with | mk a1 a2=>?_
    induction r2.iQ with | mk b1 b2=>?_
    obtain ⟨e,he,hall,hlen⟩:=ihx hq a2 b2
    refine ⟨fun j=>match j with | 0=>p | j + 1=>e j,?_,?_,congrArg (· + 1) hlen⟩
    · intro j hj1 hj2
      induction j with
      | zero=>exact ih hp a1 b1
      | succ j=>exact he j (Nat.lt_of_succ_lt_succ hj1) (Nat.lt_of_succ_lt_succ hj2)
    · rw [List.length_cons,List.range_succ_eq_map,List.all_cons,List.all_map]
      exact congrArg _ hall
theorem eqvE_hits {A:Around} {f:D→D→Option Bool} (ih:∀ {d e:D} {b:Bool} {u v:Value},f d e = Option.some b→Rep c s.heap Z u d→Rep c s.heap Z v e→EqW c.prog c.w A s u v b)
    {kvs₀:List (Str × Value)} {fs:List (Str × D)} (r0:RepE c s.heap Z kvs₀ fs):∀ {es:List (Str × D)} {b:Bool} {kvs:List (Str × Value)},eqvE f fs es = Option.some b→RepE c s.heap Z kvs es →
        Hits c.prog c.w A s kvs₀ kvs b:=by
  intro es
  induction es with
  | nil=>intro b kvs h1 r1;cases h1;cases r1;exact .nil
  | cons x es ihx=>
    intro b kvs h1 r1
    cases r1 with | cons a1 a2=>?_
    induction eeV_of h1 with
    | miss hf=>exact .miss (r0.none hf)
    | hit hf hp hq=>
      obtain ⟨v',hv',rv⟩:=r0.some hf
      exact .hit hv' (ih hp a1 rv) (ihx hq a2)
inductive CmpV (c:Cx) (A:Around) (s:Shared) (d:D):Value→Value→Bool→Prop
  | none (hd:d = .none):CmpV c A s d .none .none true
  | bool {a b:Bool}:CmpV c A s d (.bool a) (.bool b) (a == b)
  | int {a b:Int} {t u:Tok}:CmpV c A s d (.int a t) (.int b u) (a == b)
  | str {a b:Str} {t u:Tok}:CmpV c A s d (.str a t) (.str b u) (a == b)
  | list {l m:Addr} {xs ys:List Value} {e:Nat→Bool} (hl:s.heap.IsList l xs.toArray) (hm:s.heap.IsList m ys.toArray) (hs:xs.length = ys.length) (he:∀ j (h1:j < xs.length) (h2:j < ys.length),EqW c.prog c.w A.in1 s xs[j] ys[j] (e j)):CmpV c A s d (.ref l) (.ref m) ((List.range xs.length).all e)
  | listN {l m:Addr} {xs ys:List Value} (hl:s.heap.IsList l xs.toArray) (hm:s.heap.IsList m ys.toArray) (hs:(xs.toArray.size != ys.toArray.size) = true):CmpV c A s d (.ref l) (.ref m) false
  | tuple {l m:Addr} {xs ys:List Value} {e:Nat→Bool} (hd:∃ xs,d = .tuple xs) (hl:s.heap.IsTuple l xs.toArray) (hm:s.heap.IsTuple m ys.toArray) (hs:xs.length = ys.length) (he:∀ j (h1:j < xs.length) (h2:j < ys.length),EqW c.prog c.w A.in1 s xs[j] ys[j] (e j)):CmpV c A s d (.ref l) (.ref m) ((List.range xs.length).all e)
  | dict {a b:Addr} {ka kb:List (Str × Value)} {r q:Bool} (ha:(a == sysModules) = false) (hb:(b == sysModules) = false) (da:s.heap.DictOf (sk c) a ka) (db:s.heap.DictOf (sk c) b kb) (hits:ka.length = kb.length→Hits c.prog c.w A.in1 s kb ka r) (hq:(ka.length == kb.length && r) = q):CmpV c A s d (.ref a) (.ref b) q
theorem cmpV_of {k:Nat} {A:Around} (ih':∀ {d e:D} {b:Bool} {u v:Value},eqvF k d e = Option.some b→Rep c s.heap Z u d→Rep c s.heap Z v e→EqW c.prog c.w A.in1 s u v b) {d e:D} {b:Bool} {u v:Value} (h1:eqvF (k + 1) d e = Option.some b) (r1:Rep c s.heap Z u d) (r2:Rep c s.heap Z v e):CmpV c A s d u v b:=by
  induction eqV_of h1 with
  | none=>induction r1.iN;induction r2.iN;exact .none rfl
  | bool=>induction r1.iB;induction r2.iB;exact .bool
  | int=>induction r1.iI;induction r2.iI;exact .int
  | str=>induction r1.iS;induction r2.iS;exact .str
  | list _ h=>
    cases r1.iL with | mk _ l1 rr1=>?_
    cases r2.iL with | mk _ l2 rr2=>?_
    obtain ⟨e,he,rfl,hl2⟩:=eqvL_els ih' h rr1 rr2
    exact .list l1.isList l2.isList hl2 he
  | listN hl=>
    induction r1.iL with | mk _ l1 rr1=>?_
    induction r2.iL with | mk _ l2 rr2=>?_
    exact .listN l1.isList l2.isList (by rw [List.size_toArray,List.size_toArray];exact bne_iff_ne.mpr fun e=>hl (rr1.length.symm.trans (e.trans rr2.length)))
  | tuple _ h=>
    cases r1.iT with | mk _ l1 rr1=>?_
    cases r2.iT with | mk _ l2 rr2=>?_
    obtain ⟨e,he,rfl,hl2⟩:=eqvL_els ih' h rr1 rr2
    exact .tuple ⟨_,rfl⟩ l1 l2 hl2 he
  | dict hl h=>
    induction r1.iD with | mk _ s1 l1 rr1=>?_
    induction r2.iD with | mk _ s2 l2 rr2=>?_
    exact .dict s1 s2 l1 l2 (fun _=>eqvE_hits ih' rr2 h rr1) (by rw [rr1.length,rr2.length,hl,beq_self_eq_true,Bool.true_and])
  | dictN hl=>
    induction r1.iD with | mk _ s1 l1 rr1=>?_
    induction r2.iD with | mk _ s2 l2 rr2=>?_
    exact .dict (r:=true) s1 s2 l1 l2 (fun e=>absurd (rr1.length.symm.trans (e.trans rr2.length)) hl) (by rw [rr1.length,rr2.length,beq_eq_false_iff_ne.mpr hl];rfl)
section
variable {A:Around} {d:D} {E:Value→Shared→Prop} {u v:Value} {b:Bool}
theorem CmpV.eqW (hu0:A.units < cLine) (h:CmpV c A s d u v b) (huv:¬ u = v):EqW c.prog c.w A s u v b:=by
  induction h with
  | none=>exact absurd rfl huv
  | bool=>exact EqW.of (SeqAt.EqAt.bool_bool _ _)
  | int=>exact EqW.of (SeqAt.EqAt.int_int _ _ _ _)
  | str=>exact EqW.of (SeqAt.EqAt.str_str _ _ _ _)
  | list hl hm hs he=>exact EqW.refs (fun e=>huv (congrArg _ e)) fun E Q hq=>eqListW hl hm hs hu0 he hq
  | listN hl hm hs=>exact EqW.refs (fun e=>huv (congrArg _ e)) fun E Q hq=>SeqAt.RcAt.lists_lengths hl hm hs hu0 _ _ _ _ hq
  | tuple _ hl hm hs he=>exact EqW.refs (fun e=>huv (congrArg _ e)) fun E Q hq=>eqTupleW hl hm hu0 he (by rw [List.size_toArray,List.size_toArray,← hs,Nat.min_self,beq_self_eq_true,Bool.and_true];exact hq)
  | dict ha hb da db hits e=>exact EqW.refs (fun e=>huv (congrArg _ e)) fun E Q hq=>eqDictW ha hb da db hu0 hits (e▸hq)
theorem eqW_rep:∀ (k:Nat) {d e:D} {b:Bool} {u v:Value} {A:Around},A.units + k < cLine→eqvF k d e = Option.some b→Rep c s.heap Z u d→Rep c s.heap Z v e→EqW c.prog c.w A s u v b:=by
  intro k
  induction k with
  | zero=>intro d e b u v A _ h1;cases h1
  | succ k ih=>
    intro d e b u v A hu h1 r1 r2
    by_cases huv:u = v
    · subst huv
      rw [eqv_same _ h1 r1 r2];exact EqW.self u
    exact (cmpV_of (fun h1 h2 h3=>ih (show A.units + 1 + k < cLine by rw [Nat.add_assoc,Nat.add_comm 1];exact hu) h1 h2 h3) h1 r1 r2).eqW (Nat.lt_of_le_of_lt (Nat.le_add_right _ _) hu) huv
theorem cmpV_top {k:Nat} {e:D} (hu:A.units + k < cLine) (h1:eqvF k d e = Option.some b) (r1:Rep c s.heap Z u d) (r2:Rep c s.heap Z v e):CmpV c A s d u v b:=by
  induction k with
  | zero=>cases h1
  | succ k=>exact cmpV_of (fun h1 h2 h3=>eqW_rep k (show A.units + 1 + k < cLine by rw [Nat.add_assoc,Nat.add_comm 1];exact hu) h1 h2 h3) h1 r1 r2
theorem cmp_eq {k:Nat} {e:D} {Q:Value→Shared→Prop} (hu:A.units + k < cLine) (h1:eqvF k d e = Option.some b) (r1:Rep c s.heap Z u d) (r2:Rep c s.heap Z v e)
    (hq:Q (.bool b) s) (hn:d ≠ .none):wpAny (model c.prog c.w) A (compareOp .Eq u v) Q E s:=by
  have hu0:A.units < cLine:=Nat.lt_of_le_of_lt (Nat.le_add_right _ _) hu
  induction cmpV_top hu h1 r1 r2 with
  | none hd=>exact absurd hd hn
  | bool=>exact eq_bool hq
  | int=>exact eq_int hq
  | str=>exact PyProof.Rows.eq_str hq
  | list hl hm hs he=>exact eqListW hl hm hs hu0 he hq
  | listN hl hm hs=>exact SeqAt.RcAt.lists_lengths hl hm hs hu0 _ _ _ _ hq
  | tuple _ hl hm hs he=>exact eqTupleW hl hm hu0 he (by rw [List.size_toArray,List.size_toArray,← hs,Nat.min_self,beq_self_eq_true,Bool.and_true];exact hq)
  | dict ha hb da db hits e=>exact eqDictW ha hb da db hu0 hits (e▸hq)
theorem cmp_ne {k:Nat} {e:D} {Q:Value→Shared→Prop} (hu:A.units + k < cLine) (h1:eqvF k d e = Option.some b) (r1:Rep c s.heap Z u d) (r2:Rep c s.heap Z v e)
    (hq:Q (.bool (!b)) s) (ht:∀ xs,d ≠ .tuple xs) (hn:d ≠ .none):wpAny (model c.prog c.w) A (compareOp .NotEq u v) Q E s:=by
  have hu0:A.units < cLine:=Nat.lt_of_le_of_lt (Nat.le_add_right _ _) hu
  induction cmpV_top hu h1 r1 r2 with
  | none hd=>exact absurd hd hn
  | bool=>exact ne_bool hq
  | int=>exact ne_int hq
  | str=>exact SeqAt.RcNeAt.str_str _ _ _ _ _ _ _ _ hq
  | list hl hm hs he=>exact neListW hl hm hs hu0 he hq
  | listN hl hm hs=>exact SeqAt.RcNeAt.lists_lengths hl hm hs hu0 _ _ _ _ hq
  | tuple hd=>obtain ⟨_,hd⟩:=hd;exact absurd hd (ht _)
  | dict ha hb da db hits e=>exact neDictW ha hb da db hu0 hits (e▸hq)
end
end
end Mine
end
section
open PySem PySem.W PyProof.Rows
namespace Mine
section
variable {c:Cx} {n:Nat} {sc:Scope} {ρ:List (Option Sl)}
theorem ev_int {i:Int} {k:Nat} {pos:Pos}:EvE c n sc ρ (.Constant (.int i) k pos) (.int i):=fun _ _ _ _ _ _ I _=>
  wpAny_Constant_int (Post.here I .int)
theorem ev_str {x:Str} {k:Nat} {pos:Pos}:EvE c n sc ρ (.Constant (.str x) k pos) (.str x):=fun _ _ _ _ _ _ I _=>
  wpAny_Constant_str (Post.here I .str)
theorem ev_bool {b:Bool} {k:Nat} {pos:Pos}:EvE c n sc ρ (.Constant (.bool b) k pos) (.bool b):=fun _ _ _ _ _ _ I _=>
  wpAny_Constant_bool (Post.here' I .bool)
theorem ev_none {k:Nat} {pos:Pos}:EvE c n sc ρ (.Constant .none k pos) .none:=fun _ _ _ _ _ _ I _=>
  wpAny_Constant_none (Post.here' I .none)
theorem lookup_of_nodup:∀ {l:List (Str × NameKind)} {i:Nat} {x:Str} {k:NameKind},
    (∀ (i j:Nat) (x:Str) (k k':NameKind),l[i]? = some (x,k)→l[j]? = some (x,k')→i = j)→l[i]? = some (x,k)→l.lookup x = some k
  | [],i,x,k,_,h=>by simp at h
  | (y,k') :: r,0,x,k,_,h=>by
    simp at h
    obtain ⟨rfl,rfl⟩:=h
    simp
  | (y,k') :: r,i + 1,x,k,hn,h=>by
    have hne:(x == y) = false:=by
      rw [beq_eq_false_iff_ne]
      rintro rfl
      have:=hn 0 (i + 1) x k' k (by rfl) h
      lia
    rw [List.lookup_cons,hne]
    exact lookup_of_nodup (fun i j x k k' h1 h2=>by have:=hn (i + 1) (j + 1) x k k' (by exact h1) (by exact h2);lia) (by exact h)
theorem Fr.kindOf {env:Env} {s:Shared} {Z W:Addr→Prop} (F:Fr c sc env ρ s Z W) {i:Nat} {x:Str} {k:NameKind} (h:sc.names[i]? = some (x,k)):env.kindOf x = some k:=by
  delta Env.kindOf
  rw [F.esc]
  exact lookup_of_nodup F.nodup h
theorem load_has {M:Model} {A:Around} {E:Value→Shared→Prop} {s:Shared} {env:Env} {x:Str} {k:NameKind} {v:Value} {Q:Value→Shared→Prop} (hk:env.scope.kind = .function) (hx:env.kindOf x = some k) (hv:HasVal env s.heap x k v)
    (hcd:(x == ("__classdict__" : Str)) = false) (h:Q v s):wpAny M A (loadName env x) Q E s:=by
  induction k<;>first | exact hv.elim | skip
  · obtain ⟨m,hn,e⟩:=hv;exact wpAny_loadName_local hk hx hn e h
  · obtain ⟨a,e,hc⟩:=hv;exact wpAny_loadName_cell hk hx e hc h
  · obtain ⟨a,e,hc⟩:=hv;exact wpAny_loadName_free hk hx e hc h hcd
noncomputable def plainName (x:Str):Bool:=!(x == ("__debug__" : Str)) && !(x == ("__classdict__" : Str))
theorem ev_name (i:Nat) {x:Str} {k:NameKind} {d:D} {pos:Pos} (hx:sc.names[i]? = some (x,k)) (hρ:ρ[i]? = some (some (.val d))) (hp:plainName x = true:=by decide +kernel):EvE c n sc ρ (.Name x pos) d:=by
  intro A s Z W env _ I F
  obtain ⟨v,hv,r⟩:=F.slot i x k _ hx hρ
  simp only [plainName,Bool.and_eq_true,Bool.not_eq_true'] at hp
  exact wpAny_Name (load_has (F.esc▸F.kind) (F.kindOf hx) hv hp.2 (Post.here' I r)) hp.1
theorem ev_bin {l r:Expr} {op:Operator} {a b d:D} {pos:Pos} (hl:EvE c n sc ρ l a) (hr:EvE c n sc ρ r b) (ho:OpG c n op a b d):EvE c n sc ρ (.BinOp l op r pos) d:=by
  intro A s Z W env R I F
  refine wpAny_BinOp (Gives.to (hl A s Z W env R I F) fun va s₁ Z₁ I₁ e₁ r₁=>?_)
  refine Gives.to (hr A s₁ Z₁ W env R I₁ (F.grow e₁)) fun vb s₂ Z₂ I₂ e₂ r₂=>?_
  exact Gives.from (ho A s₂ Z₂ va vb R I₂ (e₂.rep no_z r₁) r₂) (e₁.trans e₂)
theorem ev_neg {x:Expr} {i:Int} {pos:Pos} (hx:EvE c n sc ρ x (.int i)):EvE c n sc ρ (.UnaryOp .USub x pos) (.int (-i)):=by
  intro A s Z W env R I F
  skip
  refine Gives.then (hx A s Z W env R I F) fun v s₁ Z₁ I₁ e₁ r₁=>?_
  replace r₁:=r₁.iI;induction r₁
  exact wpAny_bind (wpAny_standAt (wpAny_holding (neg_int (Post.trans e₁ (Post.here I₁ .int)))))
noncomputable def CmpG (c:Cx) (n:Nat) (op:CmpOp) (a b:D) (r:Bool):Prop:=
  ∀ A s Z va vb,Room A n→Inv c s Z→Rep c s.heap Z va a→Rep c s.heap Z vb b→Gives c A (compareOp op va vb) s Z (.bool r)
theorem ev_cmp {l r:Expr} {op:CmpOp} {a b:D} {q:Bool} {pos:Pos} (hl:EvE c n sc ρ l a) (hr:EvE c n sc ρ r b) (ho:CmpG c n op a b q) (hm:behindInMarks op r = false:=by with_unfolding_all rfl) :
    EvE c n sc ρ (.Compare l [op] [r] pos) (.bool q):=by
  intro A s Z W env R I F
  refine wpAny_Compare1 (Gives.to (hl A s Z W env R I F) fun va s₁ Z₁ I₁ e₁ r₁=>?_) hm
  refine Gives.to (hr A s₁ Z₁ W env R I₁ (F.grow e₁)) fun vb s₂ Z₂ I₂ e₂ r₂=>?_
  exact Gives.from (ho A s₂ Z₂ va vb R I₂ (e₂.rep no_z r₁) r₂) (e₁.trans e₂)
section cmps
variable {a b:Int}
theorem cm_lt:CmpG c n .Lt (.int a) (.int b) (decide (a < b)):=fun _ _ _ _ _ _ I ha hb=>by (replace ha:=ha.iI;induction ha);(replace hb:=hb.iI;induction hb);exact lt_int (Post.here' I .bool)
theorem cm_le:CmpG c n .LtE (.int a) (.int b) (decide (a≤b)):=fun _ _ _ _ _ _ I ha hb=>by (replace ha:=ha.iI;induction ha);(replace hb:=hb.iI;induction hb);exact le_int (Post.here' I .bool)
theorem cm_gt:CmpG c n .Gt (.int a) (.int b) (decide (b < a)):=fun _ _ _ _ _ _ I ha hb=>by (replace ha:=ha.iI;induction ha);(replace hb:=hb.iI;induction hb);exact gt_int (Post.here' I .bool)
theorem cm_ge:CmpG c n .GtE (.int a) (.int b) (decide (b≤a)):=fun _ _ _ _ _ _ I ha hb=>by (replace ha:=ha.iI;induction ha);(replace hb:=hb.iI;induction hb);exact ge_int (Post.here' I .bool)
end cmps
theorem Room.uk {A:Around} {n k:Nat} (R:Room A n) (hk:k≤60):A.units + k < cLine:=by have:=R.u;lia
theorem cm_eq (k:Nat) {d e:D} {b:Bool} (h:eqvF k d e = some b) (hk:k≤60:=by decide) (hn:d ≠ .none:=by intro h;nomatch h):CmpG c n .Eq d e b:=fun _ _ _ _ _ R I ha hb=>
  cmp_eq (R.uk hk) h ha hb (Post.here' I .bool) hn
theorem cm_ne (k:Nat) {d e:D} {b:Bool} (h:eqvF k d e = some b) (hk:k≤60:=by decide) (ht:∀ xs,d ≠ .tuple xs:=by intro _ h;nomatch h) (hn:d ≠ .none:=by intro h;nomatch h):CmpG c n .NotEq d e (!b):=fun _ _ _ _ _ R I ha hb=>
  cmp_ne (R.uk hk) h ha hb (Post.here' I .bool) ht hn
theorem cm_isB {a b:Bool}:CmpG c n .Is (.bool a) (.bool b) (a == b):=fun _ _ _ _ _ _ I ha hb=>by
  (replace ha:=ha.iB;induction ha);replace hb:=hb.iB;induction hb
  refine wpAny_is_plain (by rfl) ?_
  have:(Value.bool a == Value.bool b) = (a == b):=by induction a<;>induction b<;>decide
  rw [this];exact Post.here' I .bool
theorem cm_isNotB {a b:Bool}:CmpG c n .IsNot (.bool a) (.bool b) (a != b):=fun _ _ _ _ _ _ I ha hb=>by
  (replace ha:=ha.iB;induction ha);replace hb:=hb.iB;induction hb
  refine wpAny_isNot_plain (by rfl) ?_
  have:(Value.bool a != Value.bool b) = (a != b):=by induction a<;>induction b<;>decide
  ((have h2:(!(Value.bool a == Value.bool b)) = (a != b):=by induction a<;>induction b<;>decide);rw [h2];exact Post.here' I .bool)
inductive PostB (c:Cx) (s:Shared) (Z:Addr→Prop) (b:Bool) (r:Bool) (s':Shared):Prop
  | mk (h:r = b) (Z':Addr→Prop) (i:Inv c s' Z') (e:Evo no s Z s' Z'):PostB c s Z b r s'
noncomputable def EvT (c:Cx) (n:Nat) (sc:Scope) (ρ:List (Option Sl)) (e:Expr) (b:Bool):Prop:=
  ∀ A s Z W env,Room A n→Inv c s Z→Fr c sc env ρ s Z W→wpAny (model c.prog c.w) A (isTrue e env (eval e env)) (PostB c s Z b) noE s
theorem PostB.here {s:Shared} {Z:Addr→Prop} {b:Bool} {tk:Nat} (I:Inv c s Z):PostB c s Z b b { s with toks:=tk }:=
  ⟨rfl,Z,⟨I.base,I.zb,I.za,I.os,I.bare⟩,⟨fun _ _ _ e=>e,fun _ _ e=>e,fun _ e=>e,fun _ e=>.inl e⟩⟩
theorem PostB.trans {s s₁ s':Shared} {Z Z₁:Addr→Prop} {b r:Bool} (e:Evo no s Z s₁ Z₁) (h:PostB c s₁ Z₁ b r s'):PostB c s Z b r s':=
  (by refine bc fun g=>?_;obtain ⟨h0,Z',a,b⟩:=h;exact g (⟨h0,Z',a,e.trans b⟩))
noncomputable def TrG (c:Cx) (d:D) (b:Bool):Prop:=
  ∀ A s Z v,Inv c s Z→Rep c s.heap Z v d→wpAny (model c.prog c.w) A (truthy v) (PostB c s Z b) noE s
theorem tr_bool {b:Bool}:TrG c (.bool b) b:=fun _ _ _ _ I r=>by (replace r:=r.iB;induction r);exact wpAny_truthy_bool (PostB.here I)
theorem tr_int {i:Int}:TrG c (.int i) (i != 0):=fun _ _ _ _ I r=>by (replace r:=r.iI;induction r);exact PyProof.Rows.truthy_int (PostB.here I)
theorem tr_list {ds:List D} (h:(ds.length:Int) < 2 ^ 63:=by decide):TrG c (.list ds) (!ds.isEmpty):=fun _ _ _ _ I r=>by
  replace r:=r.iL;induction r with | mk z l rr=>?_
  replace l:=l.isList
  refine wpAny_truthy_list l (by simpa [rr.length] using h) ?_
  have e:(!(Array.isEmpty (List.toArray ‹List Value›))) = !ds.isEmpty:=by
    cases rr<;>rfl
  refine e▸?_;exact PostB.here I
noncomputable def valueTruth:Expr→Bool
  | .UnaryOp .Not _ _ | .BoolOp _ _ _ | .IfExp _ _ _ _ | .Compare _ _ _ _=>false
  | _=>true
theorem evT_value {e:Expr} {d:D} {b:Bool} (h:EvE c n sc ρ e d) (ht:TrG c d b) (he:valueTruth e = true:=by rfl):EvT c n sc ρ e b:=by
  intro A s Z W env R I F
  have:isTrue e env (eval e env) = (do let v ← eval e env;standAt e.pos;holding [v] (truthy v)):=by
    cases e<;>first | rfl | (cases he;done) | (rename_i op _ _;induction op<;>first | rfl | (cases he;done))
  refine this▸?_
  refine Gives.then (h A s Z W env R I F) fun v s₁ Z₁ I₁ e₁ r₁=>wpAny_bind (wpAny_standAt (wpAny_holding ?_))
  exact wpAny_mono (ht A s₁ Z₁ v I₁ r₁) (fun _ _ x=>x.trans e₁) fun _ _ x=>x
theorem evT_not {e:Expr} {b:Bool} {pos:Pos} (h:EvT c n sc ρ e b):EvT c n sc ρ (.UnaryOp .Not e pos) (!b):=by
  intro A s Z W env R I F
  skip
  refine wpAny_bind (wpAny_mono (h A s Z W env R I F) (?_) fun _ _ x=>x);rintro r s' ⟨h0,x1,x2,x3⟩;refine ?_
  subst h0;exact wpAny_pure ⟨rfl,x1,x2,x3⟩
theorem evT_cmp {l r:Expr} {op:CmpOp} {a b:D} {q:Bool} {pos:Pos} (hl:EvE c n sc ρ l a) (hr:EvE c n sc ρ r b) (ho:CmpG c n op a b q) (hm:behindInMarks op r = false:=by with_unfolding_all rfl) :
    EvT c n sc ρ (.Compare l [op] [r] pos) q:=by
  intro A s Z W env R I F
  refine wpAny_isTrue_Compare1 (Gives.to (hl A s Z W env R I F) fun va s₁ Z₁ I₁ e₁ r₁=>?_) hm
  refine Gives.to (hr A s₁ Z₁ W env R I₁ (F.grow e₁)) fun vb s₂ Z₂ I₂ e₂ r₂=>?_
  refine Gives.to (ho A s₂ Z₂ va vb R I₂ (e₂.rep no_z r₁) r₂) fun v s₃ Z₃ I₃ e₃ r₃=>?_
  replace r₃:=r₃.iB;induction r₃
  exact wpAny_truthy_bool (PostB.trans ((e₁.trans e₂).trans e₃) (PostB.here (tk:=s₃.toks) I₃))
theorem evT_and_nil {pos:Pos}:EvT c n sc ρ (.BoolOp .And [] pos) true:=fun _ _ _ _ _ _ I _=>wpAny_isTrue_BoolOp (wpAny_pure (PostB.here (tk:=_) I))
theorem all_of {A:Around} {s:Shared} {Z:Addr→Prop} {env:Env} {op:BoolOp} {es:List Expr} {pos:Pos} {b:Bool} (h:wpAny (model c.prog c.w) A (isTrue (.BoolOp op es pos) env (eval (.BoolOp op es pos) env)) (PostB c s Z b) noE s) :
    wpAny (model c.prog c.w) A (allTrue op es env) (PostB c s Z b) noE s:=h
theorem evT_and_t {e:Expr} {es:List Expr} {b:Bool} {pos:Pos} (h:EvT c n sc ρ e true) (hr:EvT c n sc ρ (.BoolOp .And es pos) b):EvT c n sc ρ (.BoolOp .And (e :: es) pos) b:=by
  intro A s Z W env R I F
  refine wpAny_isTrue_BoolOp (wpAny_allTrue_And_cons (wpAny_mono (h A s Z W env R I F) (?_) fun _ _ x=>x));rintro r s' ⟨h0,Z',I',e'⟩;refine ?_
  subst h0
  exact wpAny_mono (all_of (hr A s' Z' W env R I' (F.grow e'))) (fun _ _ x=>x.trans e') fun _ _ x=>x
theorem evT_and_f {e:Expr} {es:List Expr} {pos:Pos} (h:EvT c n sc ρ e false):EvT c n sc ρ (.BoolOp .And (e :: es) pos) false:=by
  intro A s Z W env R I F
  refine wpAny_isTrue_BoolOp (wpAny_allTrue_And_cons (wpAny_mono (h A s Z W env R I F) (?_) fun _ _ x=>x));rintro r s' ⟨h0,x1,x2,x3⟩;refine ?_
  subst h0;exact ⟨rfl,x1,x2,x3⟩
theorem evT_or_nil {pos:Pos}:EvT c n sc ρ (.BoolOp .Or [] pos) false:=fun _ _ _ _ _ _ I _=>wpAny_isTrue_BoolOp (wpAny_pure (PostB.here (tk:=_) I))
theorem evT_or_f {e:Expr} {es:List Expr} {b:Bool} {pos:Pos} (h:EvT c n sc ρ e false) (hr:EvT c n sc ρ (.BoolOp .Or es pos) b):EvT c n sc ρ (.BoolOp .Or (e :: es) pos) b:=by
  intro A s Z W env R I F
  refine wpAny_isTrue_BoolOp (wpAny_allTrue_Or_cons (wpAny_mono (h A s Z W env R I F) (?_) fun _ _ x=>x));rintro r s' ⟨h0,Z',I',e'⟩;refine ?_
  subst h0
  exact wpAny_mono (all_of (hr A s' Z' W env R I' (F.grow e'))) (fun _ _ x=>x.trans e') fun _ _ x=>x
theorem evT_and2 {e f:Expr} {a b:Bool} {pos:Pos} (h:EvT c n sc ρ e a) (hr:a = true→EvT c n sc ρ f b):EvT c n sc ρ (.BoolOp .And [e,f] pos) (a && b):=by
  induction a with
  | true=>rw [Bool.true_and];exact evT_and_t h (by induction b with
      | true=>exact evT_and_t (hr rfl) evT_and_nil
      | false=>exact evT_and_f (hr rfl))
  | false=>rw [Bool.false_and];exact evT_and_f h
end
end Mine
end
section
open PySem PySem.W PyProof.Rows
namespace Mine
section
variable {c:Cx} {n:Nat} {sc:Scope} {ρ:List (Option Sl)}
theorem subscripted_ops (slice:Expr) (o i:Value):∃ ops,subscripted slice false o i = operate ops (getItem o i):=by
  cases slice with
  | Slice l u st p=>induction st with
    | none=>exact ⟨_,rfl⟩
    | some _=>exact ⟨_,rfl⟩
  | _=>exact ⟨_,rfl⟩
noncomputable def SubG (c:Cx) (n:Nat) (o i d:D):Prop:=
  ∀ (value slice:Expr) A s Z vo vi,Room A n→Inv c s Z→Rep c s.heap Z vo o→Rep c s.heap Z vi i→Gives c A (subscriptTail value slice vo vi) s Z d
theorem ev_sub {value slice:Expr} {o i d:D} {pos:Pos} (ho:EvE c n sc ρ value o) (hi:EvE c n sc ρ slice i) (h:SubG c n o i d):EvE c n sc ρ (.Subscript value slice pos) d:=by
  intro A s Z W env R I F
  refine Subscript_ (Gives.to (ho A s Z W env R I F) fun vo s₁ Z₁ I₁ e₁ r₁=>?_)
  refine Gives.to (hi A s₁ Z₁ W env R I₁ (F.grow e₁)) fun vi s₂ Z₂ I₂ e₂ r₂=>?_
  exact Gives.from (h value slice A s₂ Z₂ vo vi R I₂ (e₂.rep no_z r₁) r₂) (e₁.trans e₂)
theorem tail_g {value slice:Expr} {A:Around} {E:Value→Shared→Prop} {s:Shared} {o i:Value} {T id:String} {Q:Value→Shared→Prop} (hT:s.TypeIs o T)
    (hl:typeLookup (.type T) "__getitem__" = pure (some (.builtin id))) (hg:wpAny (model c.prog c.w) A (getItem o i) Q E s):wpAny (model c.prog c.w) A (subscriptTail value slice o i) Q E s:=
  (by refine bc fun g=>?_;obtain ⟨_,e⟩:=subscripted_ops slice o i;exact g (tail_any hT hl hg e))
theorem seqIndex_bound {i:Int} {m j:Nat} (h:seqIndex? i m = some j) (hs:m < 2 ^ 60):-(2 ^ 63:Int)≤i∧i < 2 ^ 63:=by
  delta seqIndex? at h
  simp only at h
  by_cases h0:i < 0
  · simp only [h0,if_true] at h
    split at h
    · rename_i hb;simp only [Bool.and_eq_true,decide_eq_true_eq] at hb;lia
    · cases h
  · simp only [h0,if_false] at h
    split at h
    · rename_i hb;simp only [Bool.and_eq_true,decide_eq_true_eq] at hb;lia
    · cases h
theorem sub_list {ds:List D} {i:Int} {d:D} (j:Nat) (hj:seqIndex? i ds.length = some j) (hd:ds[j]? = some d) (hs:ds.length < 2 ^ 60):SubG c n (.list ds) (.int i) d:=by
  intro value slice A s Z vo vi R I r₁ r₂
  cases r₂ with | int=>?_
  replace r₁:=r₁.iL;induction r₁ with | mk z l rr=>?_
  replace l:=l.isList
  obtain ⟨v,hv,rv⟩:=rr.get hd
  refine tail_g l.typeIs slot_list_getitem.lookup ?_
  have hlen:=rr.length
  have hb':=seqIndex_bound hj hs
  delta seqIndex? at hj
  simp only at hj
  by_cases h0:i < 0
  · simp only [h0,if_true] at hj
    split at hj
    · rename_i hb
      simp only [Bool.and_eq_true,decide_eq_true_eq] at hb
      injection hj with hj
      refine wpAny_getItem_list_neg l h0 (by simp;lia) (by lia) (x:=v) ?_ (Post.here' I rv)
      simp only [List.size_toArray,List.getElem?_toArray,hlen,hj,hv]
    · cases hj
  · simp only [h0,if_false] at hj
    split at hj
    · rename_i hb
      simp only [Bool.and_eq_true,decide_eq_true_eq] at hb
      injection hj with hj
      refine wpAny_getItem_list l (by lia) (by lia) (x:=v) ?_ (Post.here' I rv)
      simp only [List.getElem?_toArray,hj,hv]
    · cases hj
theorem sub_tuple {ds:List D} {i:Int} {d:D} (j:Nat) (hj:seqIndex? i ds.length = some j) (hd:ds[j]? = some d) (hs:ds.length < 2 ^ 60):SubG c n (.tuple ds) (.int i) d:=by
  intro value slice A s Z vo vi R I r₁ r₂
  cases r₂ with | int=>?_
  replace r₁:=r₁.iT;induction r₁ with | mk z l rr=>?_
  obtain ⟨v,hv,rv⟩:=rr.get hd
  have hb:=seqIndex_bound hj hs
  exact tail_g (Heap.IsTuple.typeIs l) PyProof.Rows.slot_tuple_getitem.lookup (PyProof.Rows.getItem_tuple (x:=v) (j:=j) l hb.1 hb.2 (by simpa [rr.length] using hj) (by simpa using hv) (Post.here' I rv))
theorem sub_str {x:Str} {i:Int} (j:Nat) (ch:Nat) (hj:seqIndex? i x.length = some j) (hc:x.cps[j]? = some ch) (hs:x.length < 2 ^ 60):SubG c n (.str x) (.int i) (.str ⟨#[ch]⟩):=by
  intro value slice A s Z vo vi R I r₁ r₂
  cases r₂ with | int=>?_
  replace r₁:=r₁.iS;induction r₁ with | mk=>?_
  have hb:=seqIndex_bound hj hs
  exact tail_g (typeIs_str _ _ _) F.slot_str_getitem.lookup (PyProof.Rows.getItem_str (by simp;assumption) (by refine hj▸?_;exact hc) (Post.here I .str))
theorem sk_is (k:Str) (t:Tok):(sk c).is k (.str k t) = true:=by show (k == k) = true;simp
theorem sub_dict {es:List (Str × D)} {k:Str} {d:D} (h:(es.find? fun f=>f.1 = k) = some (k,d)):SubG c n (.dict es) (.str k) d:=by
  intro value slice A s Z vo vi R I r₁ r₂
  replace r₂:=r₂.iS;induction r₂ with | mk=>?_
  replace r₁:=r₁.iD;induction r₁ with | mk z hs l rr=>?_
  obtain ⟨v,hv,rv⟩:=rr.some h
  exact tail_g l.typeIs F.slot_dict_getitem.lookup (wpAny_getItem_of (knd:=sk c) (k:=k) (sk_is k _) (Heap.DictOf.mapOf l) hv (Post.here I rv))
noncomputable def loOf (v:Option Int) (m:Nat):Nat:=kms_lo v m
noncomputable def hiOf (v:Option Int) (m:Nat):Nat:=kms_hi v m
noncomputable def cutL {α:Type} (xs:List α) (l u:Option Int):List α:=(xs.drop (loOf l xs.length)).take (hiOf u xs.length - loOf l xs.length)
noncomputable def EvP (c:Cx) (n:Nat) (sc:Scope) (ρ:List (Option Sl)):Option Expr→Option Int→Prop
  | none,v=>v = none
  | some e,v=>∃ i,v = some i∧EvE c n sc ρ e (.int i)
theorem evP_none:EvP c n sc ρ none none:=rfl
theorem evP_some {e:Expr} {i:Int} (h:EvE c n sc ρ e (.int i)):EvP c n sc ρ (some e) (some i):=⟨i,rfl,h⟩
noncomputable def PartIs (v:Value) (i:Option Int):Prop:=(v = .none∧i = none)∨∃ j t,v = .int j t∧i = some j
theorem PartIs.part {v:Value} {i:Option Int} (h:PartIs v i):IsPart v i:=by
  rcases h with ⟨rfl,rfl⟩ | ⟨j,t,rfl,rfl⟩
  · exact .none
  · exact .int j t
theorem PartIs.value {v:Value} {i:Option Int} (h:PartIs v i):∃ p:Option (Int × Tok),v = partValue p∧p.map (·.1) = i:=by
  rcases h with ⟨rfl,rfl⟩ | ⟨j,t,rfl,rfl⟩
  · exact ⟨none,rfl,rfl⟩
  · exact ⟨some (j,t),rfl,rfl⟩
theorem EvP.go {o:Option Expr} {v:Option Int} (h:EvP c n sc ρ o v) {A:Around} {s:Shared} {Z W:Addr→Prop} {env:Env} (R:Room A n) (I:Inv c s Z) (F:Fr c sc env ρ s Z W) {Q:Value→Shared→Prop}
    (hq:∀ x s' Z',Inv c s' Z'→Evo no s Z s' Z'→PartIs x v→Q x s'):wpAny (model c.prog c.w) A (evalPart o env) Q noE s:=by
  induction o with
  | none=>subst h;exact wpAny_evalPart_none (hq _ s Z I Evo.refl (.inl ⟨rfl,rfl⟩))
  | some e=>
    obtain ⟨i,rfl,h⟩:=h
    refine wpAny_evalPart_some (Gives.to (h A s Z W env R I F) fun v s' Z' I' e' r=>?_)
    replace r:=r.iI;induction r
    exact hq _ s' Z' I' e' (.inr ⟨_,_,rfl,rfl⟩)
noncomputable def SliceG (c:Cx) (n:Nat) (o:D) (l u:Option Int) (d:D):Prop:=
  ∀ A s Z vo a x y,Room A n→Inv c s Z→Rep c s.heap Z vo o→s.heap.IsSliceOf a x y .none→PartIs x l→PartIs y u →
    ∀ (value slice:Expr),Gives c A (subscriptTail value slice vo (.ref a)) s Z d
theorem ev_slice {value:Expr} {lo hi:Option Expr} {p pos:Pos} {o d:D} {l u:Option Int} (ho:EvE c n sc ρ value o) (hl:EvP c n sc ρ lo l) (hu:EvP c n sc ρ hi u) (h:SliceG c n o l u d) :
    EvE c n sc ρ (.Subscript value (.Slice lo hi none p) pos) d:=by
  intro A s Z W env R I F
  refine Subscript_ (Gives.to (ho A s Z W env R I F) fun vo s₁ Z₁ I₁ e₁ r₁=>?_)
  have F₁:=F.grow e₁
  refine wpAny_Slice (hl.go R I₁ F₁ fun x s₂ Z₂ I₂ e₂ p₂=>?_)
  refine hu.go R I₂ (F₁.grow e₂) fun y s₃ Z₃ I₃ e₃ p₃=>?_
  refine wpAny_evalPart_none ?_
  have ep:Evo no s₃ Z₃ { s₃ with heap:=s₃.heap.push { cls:=.type "slice",data:=.fields #[x,y,.none] } } Z₃:=Evo.push0 _ s₃.toks
  have I₄:Inv c { s₃ with heap:=s₃.heap.push { cls:=.type "slice",data:=.fields #[x,y,.none] } } Z₃:=I₃.push0 _ s₃.toks
  exact Gives.from (h A _ Z₃ vo _ x y R I₄ (ep.rep no_z (e₃.rep no_z (e₂.rep no_z r₁))) (Heap.IsSliceOf.new ..) p₂ p₃ value _) (((e₁.trans e₂).trans e₃).trans ep)
theorem pick_cut (items:List Value) (l u:Option Int):slicePick items.toArray l u none = (cutL items l u).toArray:=by
  have:=kmk_pick_nat items.toArray (kms_bounds l u items.toArray.size)
  refine this▸?_
  rfl
theorem Reps.cut {h:Heap} {Z:Addr→Prop} {vs:List Value} {ds:List D} (r:Reps c h Z vs ds) (l u:Option Int):Reps c h Z (cutL vs l u) (cutL ds l u):=by
  delta cutL
  refine r.length▸?_
  exact (r.drop _).take _
theorem slice_list {ds:List D} {l u:Option Int} (hs:ds.length≤sizeLine):SliceG c n (.list ds) l u (.list (cutL ds l u)):=by
  intro A s Z vo a x y R I r sl px py value slice
  replace r:=r.iL;induction r with | mk z hl rr=>?_
  replace hl:=hl.isList
  refine tail_g (Heap.IsList.typeIs hl) slot_list_getitem.lookup (wpAny_getItem_list_slice hl sl px.part py.part .none (by decide) ?_ (by simpa [rr.length] using hs))
  rw [pick_cut]
  exact Post.newList (n:=0) (tk:=s.toks) I (rr.cut l u)
theorem slice_str {x:Str} {l u:Option Int} (hs:x.length≤sizeLine):SliceG c n (.str x) l u (.str (Txt.slice x l u)):=by
  intro A s Z vo a p q R I r sl px py value slice
  replace r:=r.iS;induction r with | mk=>?_
  refine bc fun g=>?_;obtain ⟨pl,rfl,el⟩:=px.value
  obtain ⟨pu,rfl,eu⟩:=py.value
  have sl':s.heap.IsSlice a pl pu none:=sl
  refine g ?_;refine tail_g (typeIs_str _ _ _) F.slot_str_getitem.lookup (wpAny_getItem_str_slice sl' (by decide) ?_)
  have key:(if ((1:Int) == 1 && (slicePicked x pl pu none).length == x.length) = true then x else ⟨((slicePicked x pl pu none).filterMap (x.cps[·]?)).toArray⟩) = Txt.slice x l u:=by
    delta Txt.slice slicePicked
    rw [el,eu];rfl
  delta sliceMade
  refine (?_:(if ((1:Int) == 1 && (slicePicked x pl pu none).length == x.length) = true then _ else _:Made).post _ _)
  split
  · rename_i hc
    rw [if_pos hc] at key
    skip
    refine key▸?_;exact Post.here' I .str
  · rename_i hc
    rw [if_neg hc] at key
    refine ⟨?_,?_⟩
    · rw [key];exact Nat.le_trans (Txt.slice_le x l u) hs
    · rw [key];exact Post.here I .str
end
end Mine
end
section
open PySem PySem.W PyProof.Rows
namespace Mine
structure Base (c:Cx):Prop where
  g:c.h₀.Ns mainGlobals c.mg
  b:c.h₀.Ns builtinsNs c.mb
  lim:c.h₀.NoLimit
noncomputable def Glob (c:Cx) (x:Str) (v:Value):Prop:=c.mg x = some v∨(c.mg x = none∧c.mb x = some v)
section
variable {c:Cx} {n:Nat} {sc:Scope} {ρ:List (Option Sl)}
theorem load_glob (B:Base c) {x:Str} {v:Value} (hg:Glob c x v) {A:Around} {s:Shared} {Z W:Addr→Prop} {env:Env} (I:Inv c s Z) (F:Fr c sc env ρ s Z W) {i:Nat} (hx:sc.names[i]? = some (x,.globalImplicit))
    {E:Value→Shared→Prop} {Q:Value→Shared→Prop} (h:Q v s):wpAny (model c.prog c.w) A (loadName env x) Q E s:=by
  have hk:env.scope.kind = .function:=F.esc▸F.kind
  have hx':=F.kindOf hx
  delta loadName
  simp only [Env.blockKind,hk,hx',ScopeKind.isAnnotationScope,Bool.false_and,Bool.false_eq_true,if_false]
  delta loadGlobal
  rw [F.glob,F.bu]
  refine wpAny_bind (wpAny_nsGet (B.g.keeps I.base) ?_)
  rcases hg with e | ⟨e,e2⟩
  · rw [e];exact wpAny_pure h
  · refine e▸?_
    refine wpAny_bind (wpAny_nsGet (B.b.keeps I.base) ?_)
    refine e2▸?_;exact wpAny_pure h
noncomputable def noStar:Expr→Bool
  | .Starred _ _=>false
  | _=>true
theorem starEach_cons {e:Expr} {es:List Expr} {env:Env} (h:noStar e = true):starEach (e :: es) env = (false,eval e env) :: starEach es env:=by
  cases e<;>first | rfl | (cases h;done)
inductive Posts (c:Cx) (s:Shared) (Z:Addr→Prop) (ds:List D) (vs:List Value) (s':Shared):Prop
  | mk (Z':Addr→Prop) (i:Inv c s' Z') (e:Evo no s Z s' Z') (r:Reps c s'.heap Z' vs ds):Posts c s Z ds vs s'
noncomputable def EvEs (c:Cx) (n:Nat) (sc:Scope) (ρ:List (Option Sl)) (es:List Expr) (ds:List D):Prop:=
  es.all noStar = true∧∀ A s Z W env pos,Room A n→Inv c s Z→Fr c sc env ρ s Z W→wpAny (model c.prog c.w) A (spliced (backTo pos (starEach es env))) (Posts c s Z ds) noE s
theorem evs_nil:EvEs c n sc ρ [] []:=⟨rfl,fun _ _ Z _ _ _ _ I _=>wpAny_pure ⟨Z,I,Evo.refl,.nil⟩⟩
theorem evs_cons {e:Expr} {es:List Expr} {d:D} {ds:List D} (h:EvE c n sc ρ e d) (hr:EvEs c n sc ρ es ds) (he:noStar e = true:=by rfl):EvEs c n sc ρ (e :: es) (d :: ds):=by
  refine ⟨by rw [List.all_cons,he,hr.1];rfl,fun A s Z W env pos R I F=>?_⟩
  rw [starEach_cons he]
  skip
  refine Gives.then (h A s Z W env R I F) fun v s₁ Z₁ I₁ e₁ r₁=>?_
  refine wpAny_bind (wpAny_pure (wpAny_bind (wpAny_holding (wpAny_mono (hr.2 A s₁ Z₁ W env pos R I₁ (F.grow e₁)) (?_) fun _ _ x=>x))));intro vs s₂ q;refine bc fun g=>?_;obtain ⟨Z₂,I₂,e₂,r₂⟩:=q;refine g (?_)
  exact wpAny_pure ⟨Z₂,I₂,e₁.trans e₂,.cons (e₂.rep no_z r₁) r₂⟩
theorem ev_list {es:List Expr} {ds:List D} {pos:Pos} (h:EvEs c n sc ρ es ds) (hs:ds.length≤sizeLine:=by first | decide | exact Nat.le_of_ble_eq_true rfl):EvE c n sc ρ (.List es pos) (.list ds):=by
  intro A s Z W env R I F
  refine wpAny_List (wpAny_mono (h.2 A s Z W env pos R I F) (?_) fun _ _ x=>x);intro vs s₁ q;refine bc fun g=>?_;obtain ⟨Z₁,I₁,e₁,r₁⟩:=q;refine g (⟨by rw [r₁.length];exact hs,?_⟩)
  exact Post.trans e₁ (Post.newList (n:=0) (tk:=s₁.toks) I₁ r₁)
theorem ev_tuple {es:List Expr} {ds:List D} {k:Nat} {pos:Pos} (h:EvEs c n sc ρ es ds) (hs:ds.length≤sizeLine:=by first | decide | exact Nat.le_of_ble_eq_true rfl):EvE c n sc ρ (.Tuple es k pos) (.tuple ds):=by
  intro A s Z W env R I F
  refine wpAny_Tuple (wpAny_mono (h.2 A s Z W env pos R I F) (?_) fun _ _ x=>x);intro vs s₁ q;refine bc fun g=>?_;obtain ⟨Z₁,I₁,e₁,r₁⟩:=q;refine g (⟨by rw [r₁.length];exact hs,?_⟩)
  exact Post.trans e₁ (Post.newTuple (n:=0) (tk:=s₁.toks) I₁ r₁)
noncomputable def CallV (c:Cx) (n:Nat) (f:Value) (args:List D) (d:D):Prop:=
  ∀ A s Z vs,Room A n→Inv c s Z→Reps c s.heap Z vs args→Gives c A (call f vs) s Z d
theorem backTo_plain {es:List Expr} {env:Env} {pos:Pos} (h:es.all noStar = true):(backTo pos (starEach es env)).any (·.1) = false:=by
  induction es with
  | nil=>rfl
  | cons e es ih=>
    rw [List.all_cons,Bool.and_eq_true] at h
    rw [starEach_cons h.1]
    refine (?_:(false || (backTo pos (starEach es env)).any (·.1)) = false)
    rw [ih h.2];rfl
theorem evalArgs_all {M:Model} {A:Around} {E:Value→Shared→Prop} {s:Shared} {f:Value} {es:List Expr} {env:Env} {pos:Pos} {Q:Args→Shared→Prop} (h:es.all noStar = true)
    (hq:wpAny M A (spliced (backTo pos (starEach es env))) (fun vs s'=>Q ⟨vs,[]⟩ s') E s):wpAny M A (evalArgs f true (backTo pos (starEach es env)) []) Q E s:=by
  induction es with
  | nil=>
    skip
    delta evalArgs
    skip
    refine wpAny_bind (wpAny_mono hq (fun vs s' h'=>?_) fun _ _ x=>x)
    refine wpAny_holding ?_
    exact wpAny_bind (wpAny_pure (wpAny_bind (wpAny_pure (wpAny_pure h'))))
  | cons e es=>
    rw [List.all_cons,Bool.and_eq_true] at h
    rw [starEach_cons h.1] at hq ⊢
    exact Calls.evalArgs_plain hq
noncomputable def Callee (c:Cx) (f:Value):Prop:=
  ∀ h:Heap,(∀ b o,c.h₀.get? b = some o→h.get? b = some o)→∃ k,(k = Keeper.frame∨k = Keeper.machine∨k = Keeper.boundFrame)∧Looks (model c.prog c.w) h (keeperOf f) k
theorem callee_builtin {id:String}:Callee c (.builtin id):=fun _ _=>⟨.machine,.inr (.inl rfl),.now⟩
theorem callee_type {T:String}:Callee c (.type T):=fun _ _=>⟨.machine,.inr (.inl rfl),.now⟩
theorem callee_fun {a:Addr} {o:Obj} {fd:FuncData} (ho:c.h₀.get? a = some o) (hd:o.data = .func fd):Callee c (.ref a):=fun h hk=>by
  refine ⟨.frame,.inl rfl,(Looks.ld (part:=none) (hk _ _ ho)).andThen ?_⟩
  refine hd▸?_;exact .now
theorem ev_call (B:Base c) (i:Nat) {x:Str} {f:Value} {es:List Expr} {ds:List D} {d:D} {p pos:Pos} (hx:sc.names[i]? = some (x,.globalImplicit)) (hg:Glob c x f) (hf:Callee c f) (ha:EvEs c n sc ρ es ds) (h:CallV c n f ds d)
    (hp:plainName x = true:=by decide +kernel):EvE c n sc ρ (.Call (.Name x p) es [] pos) d:=by
  intro A s Z W env R I F
  simp only [plainName,Bool.and_eq_true,Bool.not_eq_true'] at hp
  refine wpAny_Call_NameR (wpAny_Name (load_glob B hg I F hx ?_) hp.1)
  refine callWith_of (P:=fun h=>∀ b o,c.h₀.get? b = some o→h.get? b = some o) (by rw [backTo_plain ha.1];rfl) (fun h hk=>hf h hk) (evalArgs_all ha.1 (wpAny_mono (ha.2 A s Z W env pos R I F) (?_) fun _ _ x=>x));intro vs s₁ q;refine bc fun g=>?_;obtain ⟨Z₁,I₁,e₁,r₁⟩:=q;refine g (⟨I₁.base,?_⟩)
  exact Gives.from (h A s₁ Z₁ vs R I₁ r₁) e₁
end
end Mine
end
section
open PySem PySem.W PyProof.Rows
open Builtin.SmallTypes (nextOf)
namespace Mine
structure Stepped (c:Cx) (fp:List Addr) (s:Shared) (Z:Addr→Prop) (s':Shared) (Z':Addr→Prop):Prop where
  inv:Inv c s' Z'
  evo:Evo (· ∈ fp) s Z s' Z'
  off:∀ b ∈ fp,¬ Z' b
noncomputable abbrev StT:=List D→(Addr→Prop)→Heap→Prop
structure StOk (c:Cx) (fp:List Addr) (St:StT):Prop where
  frame:∀ xs Z Z' h h',St xs Z h→(∀ b ∈ fp,∀ o,h.get? b = some o→h'.get? b = some o)→(∀ a o,Z a→h.get? a = some o→h'.get? a = some o)→(∀ a,Z a→Z' a)→St xs Z' h'
  live:∀ xs Z h,St xs Z h→∀ b ∈ fp,∃ o,h.get? b = some o
inductive StopE (c:Cx) (fp:List Addr) (s:Shared) (Z:Addr→Prop) (e:Value) (s':Shared):Prop
  | mk (a:Addr) (he:e = .ref a) (ho:∃ o,s'.heap.get? a = some o∧o.cls = .type "StopIteration") (Z':Addr→Prop) (t:Stepped c fp s Z s' Z'):StopE c fp s Z e s'
structure Nx (c:Cx) (A:Around) (it:Addr) (fp:List Addr) (St:StT):Prop where
  ok:StOk c fp St
  self:it ∈ fp
  item:∀ x xs s Z,St (x :: xs) Z s.heap→Inv c s Z→(∀ b ∈ fp,¬ Z b)→wpAny (model c.prog c.w) A (nextOf (.ref it)) (fun v s'=>∃ Z',Stepped c fp s Z s' Z'∧St xs Z' s'.heap∧Rep c s'.heap Z' v x) noE s
  done:∀ s Z,St [] Z s.heap→Inv c s Z→(∀ b ∈ fp,¬ Z b)→wpAny (model c.prog c.w) A (nextOf (.ref it)) (fun _ _=>False) (StopE c fp s Z) s
structure IterP (c:Cx) (A:Around) (cm:Bool) (tgt:Expr) (it:Addr) (fp:List Addr) (St:StT):Prop where
  ok:StOk c fp St
  turn:∀ x xs s Z,St (x :: xs) Z s.heap→Inv c s Z→(∀ b ∈ fp,¬ Z b)→wpAny (model c.prog c.w) A (pyNext (.ref it)) (fun r s₁=>∃ v,r = some v∧wpAny (model c.prog c.w) A (letOwnedTupleGo tgt (.ref it) v)
    (fun _ s'=>∃ Z',Stepped c fp s Z s' Z'∧St xs Z' s'.heap∧Rep c s'.heap Z' v x) noE s₁) noE s
  done:∀ s Z,St [] Z s.heap→Inv c s Z→(∀ b ∈ fp,¬ Z b)→wpAny (model c.prog c.w) A (pyNext (.ref it)) (fun r s'=>r = none∧∃ Z',Stepped c fp s Z s' Z') noE s
  self:cm = true→∀ xs s Z (Q:Value→Shared→Prop),St xs Z s.heap→Inv c s Z→Q (.ref it) s→wpAny (model c.prog c.w) A (pyIter (.ref it)) Q noE s
section
variable {c:Cx} {A:Around}
noncomputable def ElsAt (c:Cx) (P:Nat→Value→Prop) (G:(Addr→Prop)→Heap→Prop) (el:List D):Prop:=∀ i v Z h,G Z h→P i v→∃ d,el[i]? = some d∧Rep c h Z v d
theorem evo_but {s:Shared} {Z:Addr→Prop} {fp:List Addr} {h':Heap} {tk:Nat} (hk:∀ b o,b ∉ fp→s.heap.get? b = some o→h'.get? b = some o):Evo (· ∈ fp) s Z { s with heap:=h',toks:=tk } Z:=
  ⟨fun b o w e=>hk b o w e,fun _ _ e=>e,fun _ h=>h,fun _ h=>.inl h⟩
theorem inv_but {s:Shared} {Z:Addr→Prop} {fp:List Addr} {h':Heap} {tk:Nat} (I:Inv c s Z) (hz:∀ b ∈ fp,¬ Z b) (hk:∀ b o,b ∉ fp→s.heap.get? b = some o→h'.get? b = some o) :
    Inv c { s with heap:=h',toks:=tk } Z:=
  ⟨fun b o e=>hk b o (fun hb=>hz b hb (I.zb b o e)) (I.base b o e),I.zb,fun a h=>by refine bc fun g=>?_;obtain ⟨o,e⟩:=I.za a h;exact g (⟨o,hk a o (fun hb=>hz a hb h) e⟩),I.os,I.bare⟩
theorem step_but {s:Shared} {Z:Addr→Prop} {fp:List Addr} {h':Heap} {tk:Nat} (I:Inv c s Z) (hz:∀ b ∈ fp,¬ Z b) (hk:∀ b o,b ∉ fp→s.heap.get? b = some o→h'.get? b = some o) :
    Stepped c fp s Z { s with heap:=h',toks:=tk } Z:=⟨inv_but I hz hk,evo_but hk,hz⟩
inductive StAt (el:List D) (G:(Addr→Prop)→Heap→Prop) (St:Nat→Heap→Prop) (n:Nat) (xs:List D) (Z:Addr→Prop) (h:Heap):Prop
  | mk (i:Nat) (l:i≤n) (x:xs = el.drop i) (t:St i h) (g:G Z h):StAt el G St n xs Z h
theorem nx_of_draws {it:Addr} {fp:List Addr} {n:Nat} {P:Nat→Value→Prop} {St:Nat→Heap→Prop} {G:(Addr→Prop)→Heap→Prop} {el:List D}
    (W:Draws c.prog c.w A it fp n P St) (hfp:∀ Z h,G Z h→∀ b ∈ fp,b = it∨Z b)
    (hG:∀ Z Z' h h',G Z h→(∀ a o,Z a→h.get? a = some o→h'.get? a = some o)→(∀ a,Z a→Z' a)→G Z' h')
    (hel:ElsAt c P G el) (hn:el.length = n):Nx c A it [it] (StAt el G St n) where
  ok:={
    frame:=fun xs Z Z' h h' ⟨i,hi,hx,st,g⟩ h1 h2 h3=>⟨i,hi,hx,W.frame i h h' st (fun b hb o e=>by
      rcases hfp Z h g b hb with rfl | hz
      · exact h1 b (by simp) o e
      · exact h2 b o hz e),hG Z Z' h h' g h2 h3⟩
    live:=fun xs Z h ⟨i,_,_,st,_⟩ b hb=>by rw [List.mem_singleton.mp hb];exact W.live i h st }
  self:=by simp
  item:=fun x xs s Z ⟨i,hi,hx,st,g⟩ I hz=>by
    have hlt:i < n:=by
      rcases Nat.lt_or_ge i n with h | h
      · exact h
      · (rw [List.drop_of_length_le (by lia)] at hx;cases hx)
    refine W.item i s _ _ hlt st fun v h' tk hP st' hs=>?_
    have hk:∀ b o,b ∉ [it]→s.heap.get? b = some o→h'.get? b = some o:=fun b o hb e=>(hs.2 b (by simpa using hb)).trans e
    have g':=hG Z Z _ h' g (fun a o z e=>hk a o (fun hb=>hz a hb z) e) fun _ h=>h
    refine bc fun g=>?_;obtain ⟨d,hd,r⟩:=hel i v Z h' g' hP
    have hx':el[i]? = some x:=by
      have:=congrArg (·[0]?) hx
      simpa using this.symm
    induction some_eq hx' hd
    refine g ?_;refine ⟨Z,step_but I hz hk,⟨i + 1,hlt,?_,st',g'⟩,r⟩
    have:=congrArg List.tail hx
    simpa using this
  done:=fun s Z ⟨i,hi,hx,st,g⟩ I hz=>by
    have:i = n:=by
      have:=congrArg List.length hx
      simp at this;lia
    subst this
    refine W.done s _ _ st fun h' e hs he=>?_
    exact ⟨e,rfl,he,Z,step_but (tk:=s.toks) I hz fun b o hb e=>hs b o (by simpa using hb) e⟩
end
end Mine
end
section
open PySem PySem.W PyProof.Rows
open Builtin.SmallTypes (nextOf)
namespace Mine
section
variable {c:Cx} {A:Around} {cm:Bool}
noncomputable def enumD:Int→List D→List D
  | _,[]=>[]
  | i,d :: ds=>.tuple [.int i,d] :: enumD (i + 1) ds
inductive EnSt (e it:Addr) (St:StT) (xs:List D) (Z:Addr→Prop) (h:Heap):Prop
  | mk (i:Int) (old:Value) (ds:List D) (a:IsEnum h e it i old) (b:St ds Z h) (x:xs = enumD i ds):EnSt e it St xs Z h
theorem Stepped.keepZ {fp:List Addr} {s s':Shared} {Z Z':Addr→Prop} (t:Stepped c fp s Z s' Z') (hz:∀ b ∈ fp,¬ Z b):∀ a o,Z a→s.heap.get? a = some o→s'.heap.get? a = some o:=fun a o z e=>t.evo.keep a o (fun hb=>hz a hb z) e
theorem Stepped.more {fp fp':List Addr} {s s₁:Shared} {Z Z₁:Addr→Prop} (t:Stepped c fp s Z s₁ Z₁) (hsub:∀ b ∈ fp,b ∈ fp') (hz:∀ b ∈ fp',¬ Z b) (hl:∀ b ∈ fp',∃ o,s.heap.get? b = some o)
    {h':Heap} {tk:Nat} (hk:∀ b o,b ∉ fp'→s₁.heap.get? b = some o→h'.get? b = some o) {T:Addr} (hT:s₁.heap.get? T = none) (hTo:∃ o,h'.get? T = some o) (hTf:T ∉ fp') :
    Stepped c fp' s Z { s₁ with heap:=h',toks:=tk } (Zadd Z₁ T):=by
  have off₁:∀ b ∈ fp',¬ Z₁ b:=fun b hb hz1=>by
    rcases t.evo.znew b hz1 with h | h | h
    · exact hz b hb h
    · exact t.off b h hz1
    · obtain ⟨o,ho⟩:=hl b hb;exact none_some h ho
  refine ⟨⟨fun b o e=>?_,fun a o e=>.inl (t.inv.zb a o e),fun a ha=>?_,t.inv.os,t.inv.bare⟩,⟨fun b o w e=>hk b o w (t.evo.keep b o (fun q=>w (hsub b q)) e),t.evo.gens,fun a h=>.inl (t.evo.zmono a h),fun a ha=>?_⟩,fun b hb ha=>?_⟩
  · exact hk b o (fun hb=>off₁ b hb (t.inv.zb b o e)) (t.inv.base b o e)
  · rcases ha with ha | rfl
    · obtain ⟨o,ho⟩:=t.inv.za a ha;exact ⟨o,hk a o (fun hb=>off₁ a hb ha) ho⟩
    · exact hTo
  · rcases ha with ha | rfl
    · rcases t.evo.znew a ha with h | h | h
      · exact .inl h
      · exact .inr (.inl (hsub a h))
      · exact .inr (.inr h)
    · refine .inr (.inr ?_)
      induction q:s.heap.get? a with
      | none=>rfl
      | some o=>
        by_cases ha:a ∈ fp
        · exact absurd (hsub a ha) hTf
        · exact none_some hT (t.evo.keep a o ha q)
  · rcases ha with ha | rfl
    · exact off₁ b hb ha
    · exact hTf hb
theorem iter_enum {it e:Addr} {fp:List Addr} {St:StT} {elts:List Expr} {k:Nat} {pos:Pos} (N:Nx c A.in1 it fp St) (hef:e ∉ fp):IterP c A cm (.Tuple elts k pos) e (e :: fp) (EnSt e it St) where
  ok:={
    frame:=fun xs Z Z' h h' ⟨i,old,ds,he,st,hx⟩ h1 h2 h3=>⟨i,old,ds,h1 e (by simp) _ he,N.ok.frame _ _ _ _ _ st (fun b hb=>h1 b (List.mem_cons_of_mem _ hb)) h2 h3,hx⟩
    live:=fun xs Z h ⟨i,old,ds,he,st,hx⟩ b hb=>by
      rcases List.mem_cons.mp hb with rfl | hb
      · exact ⟨_,he⟩
      · exact N.ok.live _ _ _ st b hb }
  turn:=fun x xs s Z ⟨i,old,ds,he,st,hx⟩ I hz=>by
    obtain ⟨d,ds,rfl⟩:∃ d ds',ds = d :: ds':=by
      induction ds with
      | nil=>cases hx
      | cons d ds=>exact ⟨d,ds,rfl⟩
    obtain ⟨rfl,rfl⟩:=List.cons.inj hx
    have hlive:∀ b ∈ e :: fp,∃ o,s.heap.get? b = some o:=fun b hb=>by
      rcases List.mem_cons.mp hb with rfl | hb
      · exact ⟨_,he⟩
      · exact N.ok.live _ _ _ st b hb
    have hT:s.TypeIs (.ref e) "enumerate":=⟨_,he,rfl⟩
    delta pyNext
    refine wpAny_bind (wpAny_attempt (wpAny_callSpecial?_slot (name:=Str.ofString "__next__") hT F.slot_enumerate_next
      (wpAny_call_entry F.slot_enumerate_next hT F.entry_enumerate_next ?_ (F.args_enumerate_next_1 _))))
    refine (?_:wpAny _ _ (field (.ref e) 2 >>= _) _ _ _)
    refine wpAny_bind (wpAny_field he rfl (x:=.ref it) rfl ?_)
    refine wpAny_bind (wpAny_mono (N.item d ds s Z st I fun b hb=>hz b (List.mem_cons_of_mem _ hb)) (fun v s₁ ⟨Z₁,t₁,st₁,r₁⟩=>?_) fun _ _ x=>x.elim)
    have he₁:IsEnum s₁.heap e it i old:=t₁.evo.keep e _ hef he
    have off₁:∀ b ∈ e :: fp,¬ Z₁ b:=fun b hb hz1=>by
      rcases t₁.evo.znew b hz1 with h | h | h
      · exact hz b hb h
      · exact t₁.off b h hz1
      · obtain ⟨o,ho⟩:=hlive b hb;exact none_some h ho
    obtain ⟨hp,g,dr,tk,os⟩:=s₁
    skip
    refine wpAny_bind (wpAny_field he₁ rfl (x:=rawInt i) rfl ?_)
    skip
    refine wpAny_bind (wpAny_field he₁ rfl (x:=.none) rfl ?_)
    skip
    refine wpAny_bind (wpAny_mkInt ?_)
    skip
    refine wpAny_bind (wpAny_setField_rec he₁ (by simp) fun h₂ he₂ hs₂=>?_)
    replace hs₂:Heap.SameBut e hp h₂:=hs₂
    replace he₂:IsEnum h₂ e it (i + 1) old:=he₂
    skip
    refine wpAny_bind (wpAny_setField_rec he₂ (by simp) fun h₃ he₃ hs₃=>?_)
    replace hs₃:Heap.SameBut e h₂ h₃:=hs₃
    replace he₃:IsEnum h₃ e it (i + 1) old:=he₃
    refine (?_:wpAny _ _ (newTuple [.int i tk,v] >>= _) _ _ ⟨h₃,g,dr,tk + 1,os⟩)
    refine wpAny_bind (wpAny_newTuple ?_)
    have hsz:h₃.objs.size = hp.objs.size:=by rw [hs₃.1,hs₂.1]
    have he₄:IsEnum (h₃.push { cls:=.type "tuple",data:=.seq #[.int i tk,v] }) e it (i + 1) old:=Heap.get?_push_of_some _ he₃
    generalize hh₄:h₃.push { cls:=.type "tuple",data:=.seq #[.int i tk,v] } = h₄ at he₄
    have ht₄:h₄.get? hp.objs.size = some { cls:=.type "tuple",data:=.seq #[.int i tk,v] }:=by rw [← hh₄,← hsz];exact Heap.get?_push_size _ rfl
    have hk₄:∀ b o,b ≠ e→hp.get? b = some o→h₄.get? b = some o:=fun b o hbe hb=>by
      rw [← hh₄];exact Heap.get?_push_of_some _ (hs₃.extBut b o hbe (hs₂.extBut b o hbe hb))
    skip
    refine hsz▸?_
    refine wpAny_bind ?_
    delta Builtin.SmallTypes.ownedTupleIsFree
    refine wpAny_bind (wpAny_field he₄ rfl (x:=.none) rfl (wpAny_pure ?_))
    skip
    refine wpAny_bind (wpAny_rule ?_)
    refine wpAny_bind (wpAny_field he₄ rfl (x:=old) rfl ?_)
    refine wpAny_bind (wpAny_setField_rec he₄ (by simp) fun h₅ he₅ hs₅=>?_)
    replace hs₅:Heap.SameBut e h₄ h₅:=hs₅
    replace he₅:IsEnum h₅ e it (i + 1) v:=he₅
    refine (?_:wpAny _ _ (Builtin.SmallTypes.ownedTupleHandOut (.ref e) (.ref hp.objs.size) >>= _) _ _ ⟨h₅,g,dr,tk + 1,os⟩)
    refine wpAny_bind ?_
    delta Builtin.SmallTypes.ownedTupleHandOut
    refine wpAny_bind (wpAny_setField_rec he₅ (by simp) fun h₆ he₆ hs₆=>?_)
    replace hs₆:Heap.SameBut e h₅ h₆:=hs₆
    replace he₆:IsEnumOut h₆ e it (i + 1) v hp.objs.size:=he₆
    refine wpAny_setField_rec he₆ (by simp) fun h₇ he₇ hs₇=>?_
    replace hs₇:Heap.SameBut e h₆ h₇:=hs₇
    replace he₇:IsEnumOut h₇ e it (i + 1) v hp.objs.size:=he₇
    refine wpAny_bind (wpAny_letGo (wpAny_pure ⟨_,rfl,?_⟩))
    refine wpAny_pure ⟨_,rfl,?_⟩
    refine wpAny_letOwnedTupleGo_enum he₇ fun h₈ he₈ hs₈=>?_
    have hk₈:∀ b o,b ≠ e→hp.get? b = some o→h₈.get? b = some o:=fun b o hbe hb=>
      hs₈.extBut b o hbe (hs₇.extBut b o hbe (hs₆.extBut b o hbe (hs₅.extBut b o hbe (hk₄ b o hbe hb))))
    have hTe:hp.objs.size ≠ e:=Nat.ne_of_gt (Heap.lt_size he₁)
    have ht₈:h₈.get? hp.objs.size = some { cls:=.type "tuple",data:=.seq #[.int i tk,v] }:=
      hs₈.extBut _ _ hTe (hs₇.extBut _ _ hTe (hs₆.extBut _ _ hTe (hs₅.extBut _ _ hTe ht₄)))
    have hTf:hp.objs.size ∉ e :: fp:=fun hb=>by
      rcases List.mem_cons.mp hb with h | h
      · exact hTe h
      · obtain ⟨o,ho⟩:=N.ok.live _ _ _ st₁ _ h
        exact absurd (Heap.lt_size ho) (Nat.lt_irrefl _)
    have T:=t₁.more (fp':=e :: fp) (h':=h₈) (tk:=tk + 1) (fun b hb=>List.mem_cons_of_mem _ hb) hz hlive (fun b o hb e'=>hk₈ b o (fun q=>hb (by simp [q])) e') (fresh_size _) ⟨_,ht₈⟩ hTf
    have hkz:∀ a o,Z₁ a→hp.get? a = some o→h₈.get? a = some o:=fun a o z e'=>hk₈ a o (fun q=>off₁ a (by simp [q]) z) e'
    refine ⟨_,T,⟨i + 1,v,ds,by exact he₈,N.ok.frame _ _ _ _ _ st₁ (fun b hb o e'=>hk₈ b o (fun q=>hef (q▸hb)) e') hkz (fun _ h=>.inl h),rfl⟩,?_⟩
    exact .tuple (.inr rfl) ⟨_,ht₈,rfl,0,rfl⟩ (.cons .int (.cons (rep_mono hkz (fun _ h=>.inl h) r₁) .nil))
  done:=fun s Z ⟨i,old,ds,he,st,hx⟩ I hz=>by
    obtain rfl:ds = []:=by
      induction ds with
      | nil=>rfl
      | cons d ds=>cases hx
    have hT:s.TypeIs (.ref e) "enumerate":=⟨_,he,rfl⟩
    delta pyNext
    refine wpAny_bind (wpAny_attempt (wpAny_callSpecial?_slot (name:=Str.ofString "__next__") hT F.slot_enumerate_next
      (wpAny_call_entry F.slot_enumerate_next hT F.entry_enumerate_next ?_ (F.args_enumerate_next_1 _))))
    refine (?_:wpAny _ _ (field (.ref e) 2 >>= _) _ _ _)
    refine wpAny_bind (wpAny_field he rfl (x:=.ref it) rfl ?_)
    refine wpAny_bind (wpAny_mono (N.done s Z st I fun b hb=>hz b (List.mem_cons_of_mem _ hb)) (fun _ _ x=>x.elim) fun ev s' hE=>?_)
    obtain ⟨a,rfl,⟨o,ho,hc⟩,Z',t⟩:=hE
    refine wpAny_bind (wpAny_isInstance (T:="StopIteration") (b:=true) ⟨o,ho,hc⟩ isSubtype_stop ?_)
    refine wpAny_pure ⟨rfl,Z',t.inv,t.evo.wider fun x hx=>List.mem_cons_of_mem _ hx,fun b hb hz'=>?_⟩
    rcases t.evo.znew b hz' with h | h | h
    · exact hz b hb h
    · exact t.off b h hz'
    · rcases List.mem_cons.mp hb with rfl | hb
      · exact none_some h he
      · obtain ⟨o,ho⟩:=N.ok.live _ _ _ st b hb;exact none_some h ho
  self:=(by rintro _ xs s Z Q ⟨i,old,ds,he,st,hx⟩ I hq;exact wpAny_pyIter_enum he hq)
end
end Mine
end
section
open PySem PySem.W PyProof.Rows
open Builtin.SmallTypes (nextOf)
namespace Mine
section
variable {c:Cx} {A:Around} {cm:Bool}
noncomputable def zipD (ds es:List D):List D:=(ds.zip es).map fun p=>.tuple [p.1,p.2]
noncomputable def IsZp (h:Heap) (z TI TO:Addr) (f0:Value) (b1:Bool):Prop:=
  h.get? z = some { cls:=.type "zip",dict:=none,data:=.fields #[f0,.bool b1,.bool false,.ref TI,.ref TO],slots:=#[] }
noncomputable def Handed (Z:Addr→Prop) (h:Heap) (f0:Value):Prop:=f0 = .none∨∃ (T:Addr) (o:Obj),f0 = rawInt (T:Nat)∧Z T∧h.get? T = some o
inductive ZpSt (z TI TO i1 i2:Addr) (S1 S2:StT) (xs:List D) (Z:Addr→Prop) (h:Heap):Prop
  | mk (f0:Value) (b1:Bool) (a b:Value) (ds es:List D) (p:IsZp h z TI TO f0 b1) (q:Handed Z h f0) (r:IsPair h TI (.ref i1) (.ref i2)) (t:IsPair h TO a b) (u:S1 ds Z h) (v:S2 es Z h) (x:xs = zipD ds es):ZpSt z TI TO i1 i2 S1 S2 xs Z h
structure ZipOff (z TI TO:Addr) (f1 f2:List Addr):Prop where
  zTI:z ≠ TI
  zTO:z ≠ TO
  II:TI ≠ TO
  z1:z ∉ f1
  z2:z ∉ f2
  TI1:TI ∉ f1
  TI2:TI ∉ f2
  TO1:TO ∉ f1
  TO2:TO ∉ f2
  f12:∀ b ∈ f1,b ∉ f2
noncomputable def zfp (z TI TO:Addr) (f1 f2:List Addr):List Addr:=z :: TI :: TO :: (f1 ++ f2)
variable {z TI TO i1 i2:Addr} {f1 f2:List Addr} {S1 S2:StT}
theorem mem_zfp {b:Addr}:b ∈ zfp z TI TO f1 f2 ↔ b = z∨b = TI∨b = TO∨b ∈ f1∨b ∈ f2:=by simp [zfp]
theorem zp_ok (N1:StOk c f1 S1) (N2:StOk c f2 S2):StOk c (zfp z TI TO f1 f2) (ZpSt z TI TO i1 i2 S1 S2) where
  frame:=fun xs Z Z' h h' ⟨f0,b1,a,b,ds,es,hz,hh,hI,hO,s1,s2,hx⟩ k1 k2 k3=>⟨f0,b1,a,b,ds,es,k1 z (by simp [mem_zfp]) _ hz,by
      rcases hh with rfl | ⟨T,o,rfl,zT,e⟩
      · exact .inl rfl
      · exact .inr ⟨T,o,rfl,k3 T zT,k2 T o zT e⟩,k1 TI (by simp [mem_zfp]) _ hI,k1 TO (by simp [mem_zfp]) _ hO,
    N1.frame _ _ _ _ _ s1 (fun b hb=>k1 b (by simp [mem_zfp,hb])) k2 k3,N2.frame _ _ _ _ _ s2 (fun b hb=>k1 b (by simp [mem_zfp,hb])) k2 k3,hx⟩
  live:=fun xs Z h ⟨f0,b1,a,b',ds,es,hz,hh,hI,hO,s1,s2,hx⟩ b hb=>by
    rcases mem_zfp.mp hb with rfl | rfl | rfl | hb | hb
    · exact ⟨_,hz⟩
    · exact ⟨_,hI⟩
    · exact ⟨_,hO⟩
    · exact N1.live _ _ _ s1 b hb
    · exact N2.live _ _ _ s2 b hb
theorem Stepped.then {fp fp' fp'':List Addr} {s s₁ s₂:Shared} {Z Z₁ Z₂:Addr→Prop} (a:Stepped c fp s Z s₁ Z₁) (b:Stepped c fp' s₁ Z₁ s₂ Z₂) (h1:∀ x ∈ fp,x ∈ fp'') (h2:∀ x ∈ fp',x ∈ fp'')
    (hz:∀ x ∈ fp'',¬ Z x) (hl:∀ x ∈ fp'',∃ o,s.heap.get? x = some o) (hl₁:∀ x ∈ fp'',∃ o,s₁.heap.get? x = some o):Stepped c fp'' s Z s₂ Z₂:=by
  refine ⟨b.inv,((a.evo.wider (W':=(· ∈ fp'')) h1).trans (b.evo.wider (W':=(· ∈ fp'')) h2)),fun x hx hx2=>?_⟩
  rcases b.evo.znew x hx2 with h | h | h
  · rcases a.evo.znew x h with h' | h' | h'
    · exact hz x hx h'
    · exact a.off x h' h
    · obtain ⟨o,ho⟩:=hl x hx;exact none_some h' ho
  · exact b.off x h hx2
  · obtain ⟨o,ho⟩:=hl₁ x hx;exact none_some h ho
theorem Stepped.wide {fp fp':List Addr} {s s₁:Shared} {Z Z₁:Addr→Prop} (a:Stepped c fp s Z s₁ Z₁) (h1:∀ x ∈ fp,x ∈ fp') (hz:∀ x ∈ fp',¬ Z x) (hl:∀ x ∈ fp',∃ o,s.heap.get? x = some o):Stepped c fp' s Z s₁ Z₁:=by
  refine ⟨a.inv,a.evo.wider h1,fun x hx hx2=>?_⟩
  rcases a.evo.znew x hx2 with h | h | h
  · exact hz x hx h
  · exact a.off x h hx2
  · obtain ⟨o,ho⟩:=hl x hx;exact none_some h ho
theorem Stepped.chg {fp:List Addr} {s:Shared} {Z:Addr→Prop} (I:Inv c s Z) (hz:∀ x ∈ fp,¬ Z x) {h':Heap} {tk:Nat} (hk:∀ b o,b ∉ fp→s.heap.get? b = some o→h'.get? b = some o):Stepped c fp s Z { s with heap:=h',toks:=tk } Z:=
  step_but I hz hk
theorem StOk.chg {fp:List Addr} {St:StT} (N:StOk c fp St) {xs:List D} {Z:Addr→Prop} {h h':Heap} {x:Addr} (st:St xs Z h) (hx:x ∉ fp) (hxz:¬ Z x) (hk:∀ b o,b ≠ x→h.get? b = some o→h'.get? b = some o):St xs Z h':=
  N.frame _ _ _ _ _ st (fun b hb o e=>hk b o (fun q=>hx (q▸hb)) e) (fun a o z e=>hk a o (fun q=>hxz (q▸z)) e) fun _ z=>z
theorem StOk.step {fp fp':List Addr} {St:StT} (N:StOk c fp St) {xs:List D} {Z Z':Addr→Prop} {s s':Shared} (st:St xs Z s.heap) (t:Stepped c fp' s Z s' Z') (hd:∀ b ∈ fp,b ∉ fp') (hz:∀ x ∈ fp',¬ Z x):St xs Z' s'.heap:=
  N.frame _ _ _ _ _ st (fun b hb o e=>t.evo.keep b o (hd b hb) e) (t.keepZ hz) t.evo.zmono
theorem zlive (N1:StOk c f1 S1) (N2:StOk c f2 S2) {h:Heap} {Z Z':Addr→Prop} {ds es:List D} {oz oI oO:Obj} (hz:h.get? z = some oz) (hI:h.get? TI = some oI) (hO:h.get? TO = some oO) (s1:S1 ds Z h) (s2:S2 es Z' h) :
    ∀ x ∈ zfp z TI TO f1 f2,∃ o,h.get? x = some o:=fun x hx=>by
  rcases mem_zfp.mp hx with rfl | rfl | rfl | hb | hb
  · exact ⟨_,hz⟩
  · exact ⟨_,hI⟩
  · exact ⟨_,hO⟩
  · exact N1.live _ _ _ s1 x hb
  · exact N2.live _ _ _ s2 x hb
theorem wpAny_loadIfAlive {M:Model} {A:Around} {E:Value→Shared→Prop} {s:Shared} {a:Addr} {Q:Option Obj→Shared→Prop} (h:Q (s.heap.get? a) s):wpAny M A (loadIfAlive a) Q E s:=fun _ _ _=>h
noncomputable def ZipDone (c:Cx) (z TI TO i1 i2:Addr) (f1 f2:List Addr) (S1 S2:StT) (d e:D) (ds es:List D) (s:Shared) (Z:Addr→Prop) (v:Value) (s':Shared):Prop:=
  ∃ T Z',v = .ref T∧Stepped c (zfp z TI TO f1 f2) s Z s' Z'∧ZpSt z TI TO i1 i2 S1 S2 (zipD ds es) Z' s'.heap∧Rep c s'.heap Z' v (.tuple [d,e])
theorem zip_body (O:ZipOff z TI TO f1 f2) (N1:Nx c A i1 f1 S1) (N2:Nx c A i2 f2 S2) {f0:Value} {b1:Bool} {a b:Value} {d e:D} {ds es:List D} {s:Shared} {Z:Addr→Prop}
    (hz:IsZp s.heap z TI TO f0 b1) (hh:Handed Z s.heap f0) (hI:IsPair s.heap TI (.ref i1) (.ref i2)) (hO:IsPair s.heap TO a b) (s1:S1 (d :: ds) Z s.heap) (s2:S2 (e :: es) Z s.heap)
    (I:Inv c s Z) (hzf:∀ x ∈ zfp z TI TO f1 f2,¬ Z x) :
    wpAny (model c.prog c.w) A (Builtin.«zip.__next__» ⟨[.ref z],[]⟩) (fun fin s'=>∃ v,fin = .done (.ret v)∧ZipDone c z TI TO i1 i2 f1 f2 S1 S2 d e ds es s Z v s') noE s:=by
  have hlive:∀ x ∈ zfp z TI TO f1 f2,∃ o,s.heap.get? x = some o:=zlive N1.ok N2.ok hz hI hO s1 s2
  have zZ:¬ Z z:=hzf z (by simp [mem_zfp])
  have f1Z:∀ x ∈ f1,¬ Z x:=fun x hx=>hzf x (by simp [mem_zfp,hx])
  refine (?_:wpAny _ _ (field (.ref z) 2 >>= _) _ _ _)
  refine wpAny_bind (wpAny_field hz rfl (x:=.bool false) rfl ?_)
  skip
  refine wpAny_bind (wpAny_field hz rfl (x:=.ref TI) rfl ?_)
  refine wpAny_bind (wpAny_seqItems hI rfl ?_)
  skip
  have sub1:∀ x ∈ f1,x ∈ zfp z TI TO f1 f2:=fun x hx=>by simp [mem_zfp,hx]
  have sub2:∀ x ∈ f2,x ∈ zfp z TI TO f1 f2:=fun x hx=>by simp [mem_zfp,hx]
  have zin:∀ x ∈ [z],x ∈ zfp z TI TO f1 f2:=fun x hx=>by simp [mem_zfp,List.mem_singleton.mp hx]
  rcases hh with rfl | ⟨T₀,o₀,rfl,zT,eT⟩
  · -- the owned tuple is free
    refine wpAny_bind ?_
    delta Builtin.SmallTypes.ownedTupleIsFree
    refine wpAny_bind (wpAny_field hz rfl (x:=.none) rfl (wpAny_pure ?_))
    skip
    refine wpAny_bind (wpAny_rule ?_)
    refine wpAny_bind (wpAny_field hz rfl (x:=.ref TO) rfl ?_)
    refine wpAny_bind (wpAny_setField_rec hz (by simp) fun h₁ hz₁ hs₁=>?_)
    replace hz₁:IsZp h₁ z TI TO .ellipsis b1:=hz₁
    have k₁:∀ b o,b ≠ z→s.heap.get? b = some o→h₁.get? b = some o:=fun b o hb e=>hs₁.extBut b o hb e
    have t₁:Stepped c [z] s Z { s with heap:=h₁ } Z:=Stepped.chg (tk:=s.toks) I (by simpa using zZ) fun b o hb e=>k₁ b o (by simpa using hb) e
    have s1₁:S1 (d :: ds) Z h₁:=N1.ok.chg s1 O.z1 zZ k₁
    have s2₁:S2 (e :: es) Z h₁:=N2.ok.chg s2 O.z2 zZ k₁
    have hO₁:IsPair h₁ TO a b:=k₁ _ _ O.zTO.symm hO
    have hI₁:IsPair h₁ TI (.ref i1) (.ref i2):=k₁ _ _ O.zTI.symm hI
    have live₁:=zlive (z:=z) (TI:=TI) (TO:=TO) N1.ok N2.ok hz₁ hI₁ hO₁ s1₁ s2₁
    refine wpAny_bind ?_
    simp only [List.zipIdx_cons,List.zipIdx_nil,List.forIn_cons,List.forIn_nil]
    refine wpAny_bind (wpAny_bind (wpAny_onRaise ?_))
    skip
    refine wpAny_bind (wpAny_mono (N1.item d ds { s with heap:=h₁ } Z s1₁ t₁.inv f1Z) (fun x s₂ ⟨Z₂,t₂,s1₂,r₂⟩=>wpAny_pure ?_) fun _ _ x=>x.elim)
    have hz₂:IsZp s₂.heap z TI TO .ellipsis b1:=t₂.evo.keep _ _ O.z1 hz₁
    have hI₂:IsPair s₂.heap TI (.ref i1) (.ref i2):=t₂.evo.keep _ _ O.TI1 hI₁
    have hO₂:IsPair s₂.heap TO a b:=t₂.evo.keep _ _ O.TO1 hO₁
    have s2₂:S2 (e :: es) Z₂ s₂.heap:=N2.ok.step s2₁ t₂ (fun x hx hx'=>O.f12 x hx' hx) f1Z
    have live₂:=zlive (z:=z) (TI:=TI) (TO:=TO) N1.ok N2.ok hz₂ hI₂ hO₂ s1₂ s2₂
    have T₂:=t₁.then t₂ zin sub1 hzf hlive live₁
    refine wpAny_bind (wpAny_seqItems hO₂ rfl ?_)
    refine wpAny_bind (wpAny_updateSeq_pair hO₂ fun h₃ hO₃ hs₃=>?_)
    replace hO₃:IsPair h₃ TO x b:=hO₃
    refine wpAny_bind (wpAny_letGo (wpAny_pure ?_))
    have OZ₂:¬ Z₂ TO:=T₂.off TO (by simp [mem_zfp])
    have k₃:∀ b o,b ≠ TO→s₂.heap.get? b = some o→h₃.get? b = some o:=fun b o hb e=>hs₃.extBut b o hb e
    have t₃:Stepped c [TO] s₂ Z₂ { s₂ with heap:=h₃ } Z₂:=Stepped.chg (tk:=s₂.toks) T₂.inv (by simpa using OZ₂) fun b o hb e=>k₃ b o (by simpa using hb) e
    have s1₃:S1 ds Z₂ h₃:=N1.ok.chg s1₂ O.TO1 OZ₂ k₃
    have s2₃:S2 (e :: es) Z₂ h₃:=N2.ok.chg s2₂ O.TO2 OZ₂ k₃
    have hz₃:IsZp h₃ z TI TO .ellipsis b1:=k₃ _ _ O.zTO hz₂
    have hI₃:IsPair h₃ TI (.ref i1) (.ref i2):=k₃ _ _ O.II hI₂
    have f2Z₂:∀ x ∈ f2,¬ Z₂ x:=fun x hx=>T₂.off x (sub2 x hx)
    refine wpAny_bind (wpAny_bind (wpAny_onRaise ?_))
    skip
    refine wpAny_bind (wpAny_mono (N2.item e es { s₂ with heap:=h₃ } Z₂ s2₃ t₃.inv f2Z₂) (fun y s₄ ⟨Z₄,t₄,s2₄,r₄⟩=>wpAny_pure ?_) fun _ _ x=>x.elim)
    have hz₄:IsZp s₄.heap z TI TO .ellipsis b1:=t₄.evo.keep _ _ O.z2 hz₃
    have hI₄:IsPair s₄.heap TI (.ref i1) (.ref i2):=t₄.evo.keep _ _ O.TI2 hI₃
    have hO₄:IsPair s₄.heap TO x b:=t₄.evo.keep _ _ O.TO2 hO₃
    have s1₄:S1 ds Z₄ s₄.heap:=N1.ok.step s1₃ t₄ O.f12 f2Z₂
    have T₄:=(T₂.then t₃ (fun _ h=>h) (fun x hx=>by simp [mem_zfp,List.mem_singleton.mp hx]) hzf hlive live₂).then t₄ (fun _ h=>h) sub2 hzf hlive (zlive (z:=z) (TI:=TI) (TO:=TO) N1.ok N2.ok hz₃ hI₃ hO₃ s1₃ s2₃)
    refine wpAny_bind (wpAny_seqItems hO₄ rfl ?_)
    refine wpAny_bind (wpAny_updateSeq_pair hO₄ fun h₅ hO₅ hs₅=>?_)
    replace hO₅:IsPair h₅ TO x y:=hO₅
    refine wpAny_bind (wpAny_letGo (wpAny_pure (wpAny_pure ?_)))
    have k₅:∀ b o,b ≠ TO→s₄.heap.get? b = some o→h₅.get? b = some o:=fun b o hb e=>hs₅.extBut b o hb e
    have hz₅:IsZp h₅ z TI TO .ellipsis b1:=k₅ _ _ O.zTO hz₄
    have hsz:h₅.objs.size = s₄.heap.objs.size:=hs₅.1
    refine wpAny_bind (wpAny_seqItems hO₅ rfl ?_)
    refine wpAny_bind (wpAny_newTuple ?_)
    skip
    refine wpAny_bind ?_
    delta Builtin.SmallTypes.ownedTupleHandOut
    have hz₆:IsZp (h₅.push { cls:=.type "tuple",data:=.seq #[x,y] }) z TI TO .ellipsis b1:=Heap.get?_push_of_some _ hz₅
    refine wpAny_bind (wpAny_setField_rec hz₆ (by simp) fun h₇ hz₇ hs₇=>?_)
    replace hz₇:IsZp h₇ z TI TO (rawInt h₅.objs.size) b1:=hz₇
    refine wpAny_setField_rec hz₇ (by simp) fun h₈ hz₈ hs₈=>?_
    replace hz₈:IsZp h₈ z TI TO (rawInt h₅.objs.size) false:=hz₈
    have up:∀ c o,c ≠ z→h₅.get? c = some o→h₈.get? c = some o:=fun c o c1 e=>hs₈.extBut _ _ c1 (hs₇.extBut _ _ c1 (Heap.get?_push_of_some _ e))
    have hzl:z < h₅.objs.size:=Heap.lt_size hz₅
    have hT₈:IsPair h₈ h₅.objs.size x y:=hs₈.extBut _ _ (Nat.ne_of_gt hzl) (hs₇.extBut _ _ (Nat.ne_of_gt hzl) (Heap.get?_push_size _ rfl))
    refine wpAny_pure ⟨_,rfl,?_⟩
    have hTn:s₄.heap.get? h₅.objs.size = none:=by rw [hsz];exact fresh_size _
    have hTf:h₅.objs.size ∉ zfp z TI TO f1 f2:=fun hb=>by obtain ⟨o,ho⟩:=(zlive (z:=z) (TI:=TI) (TO:=TO) N1.ok N2.ok hz₄ hI₄ hO₄ s1₄ s2₄) _ hb;exact none_some hTn ho
    have kk:∀ b o,b ∉ [z,TO]→s₄.heap.get? b = some o→h₈.get? b = some o:=fun b o hb e=>up b o (fun q=>hb (by simp [q])) (k₅ b o (fun q=>hb (by simp [q])) e)
    have TT:=T₄.more (fp':=zfp z TI TO f1 f2) (h':=h₈) (tk:=s₄.toks) (fun _ h=>h) hzf hlive (fun b o hb e=>kk b o (fun q=>by
      refine bc fun g=>?_;rcases List.mem_cons.mp q with rfl | q
      · refine g ?_;exact hb (by simp [mem_zfp])
      · refine g ?_;exact hb (by simp [mem_zfp,List.mem_singleton.mp q])) e) hTn ⟨_,hT₈⟩ hTf
    have kz:∀ a o,Z₄ a→s₄.heap.get? a = some o→h₈.get? a = some o:=fun a o za e=>kk a o (fun q=>by
      rcases List.mem_cons.mp q with rfl | q
      · exact T₄.off _ (by simp [mem_zfp]) za
      · exact T₄.off a (by simp [mem_zfp,List.mem_singleton.mp q]) za) e
    have fr:∀ {fp:List Addr},(∀ b ∈ fp,b ≠ z∧b ≠ TO)→∀ b ∈ fp,∀ o,s₄.heap.get? b = some o→h₈.get? b = some o:=fun hfp b hb o e=>kk b o (fun q=>by
      rcases List.mem_cons.mp q with q | q
      · exact (hfp b hb).1 q
      · exact (hfp b hb).2 (List.mem_singleton.mp q)) e
    refine ⟨h₅.objs.size,_,rfl,TT,⟨rawInt h₅.objs.size,false,x,y,ds,es,hz₈,.inr ⟨_,_,rfl,.inr rfl,hT₈⟩,up _ _ O.zTI.symm (k₅ _ _ O.II hI₄),up _ _ O.zTO.symm hO₅,
      N1.ok.frame _ _ _ _ _ s1₄ (fr fun b hb=>⟨fun q=>O.z1 (q▸hb),fun q=>O.TO1 (q▸hb)⟩) kz (fun _ h=>.inl h),
      N2.ok.frame _ _ _ _ _ s2₄ (fr fun b hb=>⟨fun q=>O.z2 (q▸hb),fun q=>O.TO2 (q▸hb)⟩) kz (fun _ h=>.inl h),rfl⟩,?_⟩
    exact .tuple (.inr rfl) ⟨_,hT₈,rfl,0,rfl⟩ (.cons (rep_mono kz (fun _ h=>.inl h) (rep_mono (t₄.keepZ f2Z₂) t₄.evo.zmono (rep_mono (fun b o zb e=>k₃ b o (fun q=>OZ₂ (q▸zb)) e) (fun _ h=>h) r₂))) (.cons (rep_mono kz (fun _ h=>.inl h) r₄) .nil))
  · -- the tuple handed out lives on
    refine wpAny_bind (wpAny_mono (Q:=fun r s'=>r = false∧∃ h₁ b1',s' = { s with heap:=h₁ }∧IsZp h₁ z TI TO (rawInt (T₀:Nat)) b1'∧∀ b o,b ≠ z→s.heap.get? b = some o→h₁.get? b = some o) ?_ (fun r s' hr=>?_) fun _ _ x=>x)
    · delta Builtin.SmallTypes.ownedTupleIsFree
      refine wpAny_bind (wpAny_field hz rfl (x:=rawInt (T₀:Nat)) rfl ?_)
      skip
      refine wpAny_bind (wpAny_loadIfAlive ?_)
      refine eT▸?_
      skip
      refine wpAny_bind (wpAny_field hz rfl (x:=.bool b1) rfl ?_)
      cases b1 with
      | true=>
        rw [if_neg (by decide)]
        exact wpAny_pure ⟨rfl,s.heap,true,rfl,hz,fun _ _ _ e=>e⟩
      | false=>
        rw [if_pos (by decide)]
        refine wpAny_bind (wpAny_setField_rec hz (by simp) fun h₁ hz₁ hs₁=>wpAny_pure ⟨rfl,h₁,true,rfl,hz₁,fun b o hb e=>hs₁.extBut b o hb e⟩)
    · refine bc fun g=>?_;obtain ⟨rfl,h₁,b1',rfl,hz₁,k₁⟩:=hr
      refine g ?_;skip
      have t₁:Stepped c [z] s Z { s with heap:=h₁ } Z:=Stepped.chg (tk:=s.toks) I (by simpa using zZ) fun b o hb e=>k₁ b o (by simpa using hb) e
      have s1₁:S1 (d :: ds) Z h₁:=N1.ok.chg s1 O.z1 zZ k₁
      have s2₁:S2 (e :: es) Z h₁:=N2.ok.chg s2 O.z2 zZ k₁
      have hO₁:IsPair h₁ TO a b:=k₁ _ _ O.zTO.symm hO
      have hI₁:IsPair h₁ TI (.ref i1) (.ref i2):=k₁ _ _ O.zTI.symm hI
      have live₁:=zlive (z:=z) (TI:=TI) (TO:=TO) N1.ok N2.ok hz₁ hI₁ hO₁ s1₁ s2₁
      refine wpAny_bind ?_
      simp only [List.forIn_toArray,List.forIn_cons,List.forIn_nil]
      refine wpAny_bind (wpAny_bind (wpAny_holding ?_))
      skip
      refine wpAny_bind (wpAny_mono (N1.item d ds { s with heap:=h₁ } Z s1₁ t₁.inv f1Z) (fun x s₂ ⟨Z₂,t₂,s1₂,r₂⟩=>wpAny_pure ?_) fun _ _ x=>x.elim)
      refine wpAny_pure ?_
      have hz₂:IsZp s₂.heap z TI TO (rawInt (T₀:Nat)) b1':=t₂.evo.keep _ _ O.z1 hz₁
      have hI₂:IsPair s₂.heap TI (.ref i1) (.ref i2):=t₂.evo.keep _ _ O.TI1 hI₁
      have hO₂:IsPair s₂.heap TO a b:=t₂.evo.keep _ _ O.TO1 hO₁
      have s2₂:S2 (e :: es) Z₂ s₂.heap:=N2.ok.step s2₁ t₂ (fun x hx hx'=>O.f12 x hx' hx) f1Z
      have T₂:=t₁.then t₂ zin sub1 hzf hlive live₁
      have f2Z₂:∀ x ∈ f2,¬ Z₂ x:=fun x hx=>T₂.off x (sub2 x hx)
      refine wpAny_bind (wpAny_bind (wpAny_holding ?_))
      skip
      refine wpAny_bind (wpAny_mono (N2.item e es s₂ Z₂ s2₂ T₂.inv f2Z₂) (?_) fun _ _ x=>x.elim);intro y s₄ q;refine bc fun g=>?_;obtain ⟨Z₄,t₄,s2₄,r₄⟩:=q;refine g ?_;refine wpAny_pure ?_
      refine wpAny_pure (wpAny_pure ?_)
      have hz₄:IsZp s₄.heap z TI TO (rawInt (T₀:Nat)) b1':=t₄.evo.keep _ _ O.z2 hz₂
      have hI₄:IsPair s₄.heap TI (.ref i1) (.ref i2):=t₄.evo.keep _ _ O.TI2 hI₂
      have hO₄:IsPair s₄.heap TO a b:=t₄.evo.keep _ _ O.TO2 hO₂
      have s1₄:S1 ds Z₄ s₄.heap:=N1.ok.step s1₂ t₄ O.f12 f2Z₂
      have T₄:=T₂.then t₄ (fun _ h=>h) sub2 hzf hlive (zlive (z:=z) (TI:=TI) (TO:=TO) N1.ok N2.ok hz₂ hI₂ hO₂ s1₂ s2₂)
      simp only []
      refine wpAny_bind (wpAny_newTuple (hsz:=by show 2≤sizeLine;decide) ?_)
      refine wpAny_pure ⟨_,rfl,?_⟩
      have hTn:s₄.heap.get? s₄.heap.objs.size = none:=fresh_size _
      have kk:∀ b o,s₄.heap.get? b = some o→(s₄.heap.push { cls:=.type "tuple",data:=.seq #[x,y] }).get? b = some o:=fun b o e=>Heap.get?_push_of_some _ e
      have hT₈:IsPair (s₄.heap.push { cls:=.type "tuple",data:=.seq #[x,y] }) s₄.heap.objs.size x y:=Heap.get?_push_size _ rfl
      have zT₄:Z₄ T₀:=T₄.evo.zmono T₀ zT
      obtain ⟨o₄,e₄⟩:=T₄.inv.za T₀ zT₄
      refine ⟨s₄.heap.objs.size,_,rfl,(T₄.more (fp':=zfp z TI TO f1 f2) (h':=s₄.heap.push { cls:=.type "tuple",data:=.seq #[x,y] }) (tk:=s₄.toks) (fun _ h=>h) hzf hlive (fun b o hb e=>kk b o e) hTn ⟨_,hT₈⟩ (fun hb=>by obtain ⟨o,ho⟩:=(zlive (z:=z) (TI:=TI) (TO:=TO) N1.ok N2.ok hz₄ hI₄ hO₄ s1₄ s2₄) _ hb;exact none_some hTn ho)),⟨rawInt (T₀:Nat),b1',a,b,ds,es,kk _ _ hz₄,.inr ⟨T₀,_,rfl,.inl zT₄,kk _ _ e₄⟩,kk _ _ hI₄,kk _ _ hO₄,
        N1.ok.frame _ _ _ _ _ s1₄ (fun b _ o e=>kk b o e) (fun a o _ e=>kk a o e) (fun _ h=>.inl h),
        N2.ok.frame _ _ _ _ _ s2₄ (fun b _ o e=>kk b o e) (fun a o _ e=>kk a o e) (fun _ h=>.inl h),rfl⟩,?_⟩
      exact .tuple (.inr rfl) ⟨_,hT₈,rfl,0,rfl⟩ (.cons (rep_mono (fun a o _ e=>kk a o e) (fun _ h=>.inl h) (rep_mono (t₄.keepZ f2Z₂) t₄.evo.zmono r₂)) (.cons (rep_mono (fun a o _ e=>kk a o e) (fun _ h=>.inl h) r₄) .nil))
theorem zip_end (O:ZipOff z TI TO f1 f2) (N1:Nx c A i1 f1 S1) (N2:Nx c A i2 f2 S2) {f0:Value} {b1:Bool} {a b:Value} {ds es:List D} {s:Shared} {Z:Addr→Prop}
    (hz:IsZp s.heap z TI TO f0 b1) (hh:Handed Z s.heap f0) (hI:IsPair s.heap TI (.ref i1) (.ref i2)) (hO:IsPair s.heap TO a b) (s1:S1 ds Z s.heap) (s2:S2 es Z s.heap)
    (I:Inv c s Z) (hzf:∀ x ∈ zfp z TI TO f1 f2,¬ Z x) (hend:zipD ds es = []) :
    wpAny (model c.prog c.w) A (Builtin.«zip.__next__» ⟨[.ref z],[]⟩) (fun _ _=>False) (StopE c (zfp z TI TO f1 f2) s Z) s:=by
  have hlive:∀ x ∈ zfp z TI TO f1 f2,∃ o,s.heap.get? x = some o:=zlive N1.ok N2.ok hz hI hO s1 s2
  have zZ:¬ Z z:=hzf z (by simp [mem_zfp])
  have f1Z:∀ x ∈ f1,¬ Z x:=fun x hx=>hzf x (by simp [mem_zfp,hx])
  refine (?_:wpAny _ _ (field (.ref z) 2 >>= _) _ _ _)
  refine wpAny_bind (wpAny_field hz rfl (x:=.bool false) rfl ?_)
  skip
  refine wpAny_bind (wpAny_field hz rfl (x:=.ref TI) rfl ?_)
  refine wpAny_bind (wpAny_seqItems hI rfl ?_)
  skip
  have sub1:∀ x ∈ f1,x ∈ zfp z TI TO f1 f2:=fun x hx=>by simp [mem_zfp,hx]
  have sub2:∀ x ∈ f2,x ∈ zfp z TI TO f1 f2:=fun x hx=>by simp [mem_zfp,hx]
  have zin:∀ x ∈ [z],x ∈ zfp z TI TO f1 f2:=fun x hx=>by simp [mem_zfp,List.mem_singleton.mp hx]
  have hend':ds = []∨es = []:=by
    cases ds with
    | nil=>exact .inl rfl
    | cons d ds=>induction es with
      | nil=>exact .inr rfl
      | cons e es=>simp [zipD] at hend
  have stopZ:∀ {fp:List Addr} {s₁ s₂:Shared} {Z₁:Addr→Prop} {ev:Value},Stepped c (zfp z TI TO f1 f2) s Z s₁ Z₁→(∀ x ∈ zfp z TI TO f1 f2,∃ o,s₁.heap.get? x = some o)→StopE c fp s₁ Z₁ ev s₂→(∀ x ∈ fp,x ∈ zfp z TI TO f1 f2) →
      (∃ f0 b1,IsZp s₂.heap z TI TO f0 b1)→wpAny (model c.prog c.w) A (setField (.ref z) 0 .none) (fun _ s'=>StopE c (zfp z TI TO f1 f2) s Z ev s') (StopE c (zfp z TI TO f1 f2) s Z) s₂:=by
    rintro fp s₁ s₂ Z₁ ev t₁ live₁ ⟨a,rfl,⟨o,ho,hc⟩,Z₂,t₂⟩ hsub ⟨f0,b1,hz₂⟩
    have T₂:=t₁.then t₂ (fun _ h=>h) hsub hzf hlive live₁
    refine wpAny_setField_rec hz₂ (by simp) fun h₃ _ hs₃=>?_
    refine ⟨a,rfl,⟨o,hs₃.extBut _ _ (fun q=>by cases q;induction some_eq hz₂ ho;simp at hc) ho,hc⟩,Z₂,?_⟩
    refine ⟨inv_but (fp:=[z]) (tk:=s₂.toks) T₂.inv (by simpa using T₂.off z (by simp [mem_zfp])) fun b o hb e=>hs₃.extBut b o (by simpa using hb) e,?_,T₂.off⟩
    exact T₂.evo.trans ((evo_but (fp:=[z]) (tk:=s₂.toks) fun b o hb e=>hs₃.extBut b o (by simpa using hb) e).wider zin)
  have stop0:∀ {fp:List Addr} {s₁ s₂:Shared} {Z₁:Addr→Prop} {ev:Value},Stepped c (zfp z TI TO f1 f2) s Z s₁ Z₁→(∀ x ∈ zfp z TI TO f1 f2,∃ o,s₁.heap.get? x = some o)→StopE c fp s₁ Z₁ ev s₂→(∀ x ∈ fp,x ∈ zfp z TI TO f1 f2) →
      StopE c (zfp z TI TO f1 f2) s Z ev s₂:=by
    rintro fp s₁ s₂ Z₁ ev t₁ live₁ ⟨a,rfl,hs,Z₂,t₂⟩ hsub
    exact ⟨a,rfl,hs,Z₂,t₁.then t₂ (fun _ h=>h) hsub hzf hlive live₁⟩
  refine bc fun g=>?_;rcases hh with rfl | ⟨T₀,o₀,rfl,zT,eT⟩
  · refine g ?_;refine wpAny_bind ?_
    delta Builtin.SmallTypes.ownedTupleIsFree
    refine wpAny_bind (wpAny_field hz rfl (x:=.none) rfl (wpAny_pure ?_))
    skip
    refine wpAny_bind (wpAny_rule ?_)
    refine wpAny_bind (wpAny_field hz rfl (x:=.ref TO) rfl ?_)
    refine wpAny_bind (wpAny_setField_rec hz (by simp) fun h₁ hz₁ hs₁=>?_)
    replace hz₁:IsZp h₁ z TI TO .ellipsis b1:=hz₁
    have k₁:∀ b o,b ≠ z→s.heap.get? b = some o→h₁.get? b = some o:=fun b o hb e=>hs₁.extBut b o hb e
    have t₁:Stepped c [z] s Z { s with heap:=h₁ } Z:=Stepped.chg (tk:=s.toks) I (by simpa using zZ) fun b o hb e=>k₁ b o (by simpa using hb) e
    have s1₁:S1 ds Z h₁:=N1.ok.chg s1 O.z1 zZ k₁
    have s2₁:S2 es Z h₁:=N2.ok.chg s2 O.z2 zZ k₁
    have hO₁:IsPair h₁ TO a b:=k₁ _ _ O.zTO.symm hO
    have hI₁:IsPair h₁ TI (.ref i1) (.ref i2):=k₁ _ _ O.zTI.symm hI
    have live₁:=zlive (z:=z) (TI:=TI) (TO:=TO) N1.ok N2.ok hz₁ hI₁ hO₁ s1₁ s2₁
    refine wpAny_bind ?_
    simp only [List.zipIdx_cons,List.zipIdx_nil,List.forIn_cons,List.forIn_nil]
    refine wpAny_bind (wpAny_bind (wpAny_onRaise ?_))
    skip
    refine bc fun g=>?_;cases ds with
    | nil=>
      refine g ?_;exact wpAny_bind (wpAny_mono (N1.done { s with heap:=h₁ } Z s1₁ t₁.inv f1Z) (fun _ _ x=>x.elim) fun ev s₂ hE=>stopZ (t₁.wide zin hzf hlive) live₁ hE sub1 (by
        obtain ⟨_,_,_,_,t₂⟩:=hE;exact ⟨_,_,t₂.evo.keep _ _ O.z1 hz₁⟩))
    | cons d ds=>
      obtain rfl:es = []:=hend'.resolve_left (by simp)
      refine g ?_;refine wpAny_bind (wpAny_mono (N1.item d ds { s with heap:=h₁ } Z s1₁ t₁.inv f1Z) (fun x s₂ ⟨Z₂,t₂,s1₂,r₂⟩=>wpAny_pure ?_) fun _ _ x=>x.elim)
      have hz₂:IsZp s₂.heap z TI TO .ellipsis b1:=t₂.evo.keep _ _ O.z1 hz₁
      have hI₂:IsPair s₂.heap TI (.ref i1) (.ref i2):=t₂.evo.keep _ _ O.TI1 hI₁
      have hO₂:IsPair s₂.heap TO a b:=t₂.evo.keep _ _ O.TO1 hO₁
      have s2₂:S2 [] Z₂ s₂.heap:=N2.ok.step s2₁ t₂ (fun x hx hx'=>O.f12 x hx' hx) f1Z
      have live₂:=zlive (z:=z) (TI:=TI) (TO:=TO) N1.ok N2.ok hz₂ hI₂ hO₂ s1₂ s2₂
      have T₂:=t₁.then t₂ zin sub1 hzf hlive live₁
      refine wpAny_bind (wpAny_seqItems hO₂ rfl ?_)
      refine wpAny_bind (wpAny_updateSeq_pair hO₂ fun h₃ hO₃ hs₃=>?_)
      replace hO₃:IsPair h₃ TO x b:=hO₃
      refine wpAny_bind (wpAny_letGo (wpAny_pure ?_))
      have OZ₂:¬ Z₂ TO:=T₂.off TO (by simp [mem_zfp])
      have k₃:∀ b o,b ≠ TO→s₂.heap.get? b = some o→h₃.get? b = some o:=fun b o hb e=>hs₃.extBut b o hb e
      have t₃:Stepped c [TO] s₂ Z₂ { s₂ with heap:=h₃ } Z₂:=Stepped.chg (tk:=s₂.toks) T₂.inv (by simpa using OZ₂) fun b o hb e=>k₃ b o (by simpa using hb) e
      have s2₃:S2 [] Z₂ h₃:=N2.ok.chg s2₂ O.TO2 OZ₂ k₃
      have hz₃:IsZp h₃ z TI TO .ellipsis b1:=k₃ _ _ O.zTO hz₂
      have hI₃:IsPair h₃ TI (.ref i1) (.ref i2):=k₃ _ _ O.II hI₂
      have live₃:=zlive (z:=z) (TI:=TI) (TO:=TO) N1.ok N2.ok hz₃ hI₃ hO₃ (N1.ok.chg s1₂ O.TO1 OZ₂ k₃) s2₃
      have T₃:=T₂.then t₃ (fun _ h=>h) (fun x hx=>by simp [mem_zfp,List.mem_singleton.mp hx]) hzf hlive live₂
      have f2Z₂:∀ x ∈ f2,¬ Z₂ x:=fun x hx=>T₂.off x (sub2 x hx)
      refine wpAny_bind (wpAny_bind (wpAny_onRaise ?_))
      skip
      exact wpAny_bind (wpAny_mono (N2.done { s₂ with heap:=h₃ } Z₂ s2₃ t₃.inv f2Z₂) (fun _ _ x=>x.elim) fun ev s₄ hE=>stopZ T₃ live₃ hE sub2 (by
        obtain ⟨_,_,_,_,t₄⟩:=hE;exact ⟨_,_,t₄.evo.keep _ _ O.z2 hz₃⟩))
  · refine g ?_;refine wpAny_bind (wpAny_mono (Q:=fun r s'=>r = false∧∃ h₁ b1',s' = { s with heap:=h₁ }∧IsZp h₁ z TI TO (rawInt (T₀:Nat)) b1'∧∀ b o,b ≠ z→s.heap.get? b = some o→h₁.get? b = some o) ?_ (fun r s' hr=>?_) fun _ _ x=>x)
    · delta Builtin.SmallTypes.ownedTupleIsFree
      refine wpAny_bind (wpAny_field hz rfl (x:=rawInt (T₀:Nat)) rfl ?_)
      skip
      refine wpAny_bind (wpAny_loadIfAlive ?_)
      refine eT▸?_
      skip
      refine wpAny_bind (wpAny_field hz rfl (x:=.bool b1) rfl ?_)
      induction b1 with
      | true=>
        rw [if_neg (by decide)]
        exact wpAny_pure ⟨rfl,s.heap,true,rfl,hz,fun _ _ _ e=>e⟩
      | false=>
        rw [if_pos (by decide)]
        refine wpAny_bind (wpAny_setField_rec hz (by simp) fun h₁ hz₁ hs₁=>wpAny_pure ⟨rfl,h₁,true,rfl,hz₁,fun b o hb e=>hs₁.extBut b o hb e⟩)
    · obtain ⟨rfl,h₁,b1',rfl,hz₁,k₁⟩:=hr
      skip
      have t₁:Stepped c [z] s Z { s with heap:=h₁ } Z:=Stepped.chg (tk:=s.toks) I (by simpa using zZ) fun b o hb e=>k₁ b o (by simpa using hb) e
      have s1₁:S1 ds Z h₁:=N1.ok.chg s1 O.z1 zZ k₁
      have s2₁:S2 es Z h₁:=N2.ok.chg s2 O.z2 zZ k₁
      have hO₁:IsPair h₁ TO a b:=k₁ _ _ O.zTO.symm hO
      have hI₁:IsPair h₁ TI (.ref i1) (.ref i2):=k₁ _ _ O.zTI.symm hI
      have live₁:=zlive (z:=z) (TI:=TI) (TO:=TO) N1.ok N2.ok hz₁ hI₁ hO₁ s1₁ s2₁
      refine wpAny_bind ?_
      simp only [List.forIn_toArray,List.forIn_cons,List.forIn_nil]
      refine wpAny_bind (wpAny_bind (wpAny_holding ?_))
      skip
      refine bc fun g=>?_;induction ds with
      | nil=>refine g ?_;exact wpAny_bind (wpAny_mono (N1.done { s with heap:=h₁ } Z s1₁ t₁.inv f1Z) (fun _ _ x=>x.elim) fun ev s₂ hE=>stop0 (t₁.wide zin hzf hlive) live₁ hE sub1)
      | cons d ds=>
        obtain rfl:es = []:=hend'.resolve_left (by simp)
        refine g ?_;refine wpAny_bind (wpAny_mono (N1.item d ds { s with heap:=h₁ } Z s1₁ t₁.inv f1Z) (fun x s₂ ⟨Z₂,t₂,s1₂,r₂⟩=>wpAny_pure ?_) fun _ _ x=>x.elim)
        refine wpAny_pure ?_
        have s2₂:S2 [] Z₂ s₂.heap:=N2.ok.step s2₁ t₂ (fun x hx hx'=>O.f12 x hx' hx) f1Z
        have T₂:=t₁.then t₂ zin sub1 hzf hlive live₁
        refine wpAny_bind (wpAny_bind (wpAny_holding ?_))
        skip
        exact wpAny_bind (wpAny_mono (N2.done s₂ Z₂ s2₂ T₂.inv (fun x hx=>T₂.off x (sub2 x hx))) (fun _ _ x=>x.elim) fun ev s₄ hE=>stop0 T₂ (zlive (z:=z) (TI:=TI) (TO:=TO) N1.ok N2.ok (t₂.evo.keep _ _ O.z1 hz₁) (t₂.evo.keep _ _ O.TI1 hI₁) (t₂.evo.keep _ _ O.TO1 hO₁) s1₂ s2₂) hE sub2)
theorem nx_zip (O:ZipOff z TI TO f1 f2) (N1:Nx c A.in1 i1 f1 S1) (N2:Nx c A.in1 i2 f2 S2):Nx c A z (zfp z TI TO f1 f2) (ZpSt z TI TO i1 i2 S1 S2) where
  ok:=zp_ok N1.ok N2.ok
  self:=by simp [mem_zfp]
  item:=fun x xs s Z ⟨f0,b1,a,b,ds,es,hz,hh,hI,hO,s1,s2,hx⟩ I hzf=>by
    have hT:s.TypeIs (.ref z) "zip":=⟨_,hz,rfl⟩
    refine bc fun g=>?_;cases ds with
    | nil=>refine g ?_;simp [zipD] at hx
    | cons d ds=>cases es with
      | nil=>refine g ?_;simp [zipD] at hx
      | cons e es=>
        obtain ⟨rfl,rfl⟩:x = .tuple [d,e]∧xs = zipD ds es:=by simpa [zipD] using hx
        refine g ?_;delta nextOf
        refine wpAny_bind (wpAny_callSpecial?_slot (name:=Str.ofString "__next__") hT F.slot_zip_next (wpAny_call_entry F.slot_zip_next hT F.entry_zip_next ?_ (F.args_zip_next_1 _)))
        refine wpAny_mono (zip_body O N1 N2 hz hh hI hO s1 s2 I hzf) ((by intro fin s' q;refine bc fun g=>?_;obtain ⟨v,hf,T,Z',hv,t,st,r⟩:=q;refine g ?_;exact ⟨v,hf,wpAny_pure ⟨Z',t,st,r⟩⟩)) fun _ _ x=>x
  done:=fun s Z ⟨f0,b1,a,b,ds,es,hz,hh,hI,hO,s1,s2,hx⟩ I hzf=>by
    have hT:s.TypeIs (.ref z) "zip":=⟨_,hz,rfl⟩
    delta nextOf
    refine wpAny_bind (wpAny_callSpecial?_slot (name:=Str.ofString "__next__") hT F.slot_zip_next (wpAny_call_entry F.slot_zip_next hT F.entry_zip_next ?_ (F.args_zip_next_1 _)))
    exact wpAny_mono (zip_end O N1 N2 hz hh hI hO s1 s2 I hzf hx.symm) (fun _ _ x=>x.elim) fun _ _ x=>x
theorem iter_zip {elts:List Expr} {k:Nat} {pos:Pos} (O:ZipOff z TI TO f1 f2) (N1:Nx c A.in1 i1 f1 S1) (N2:Nx c A.in1 i2 f2 S2):IterP c A cm (.Tuple elts k pos) z (zfp z TI TO f1 f2) (ZpSt z TI TO i1 i2 S1 S2) where
  ok:=zp_ok N1.ok N2.ok
  turn:=fun x xs s Z ⟨f0,b1,a,b,ds,es,hz,hh,hI,hO,s1,s2,hx⟩ I hzf=>by
    have hT:s.TypeIs (.ref z) "zip":=⟨_,hz,rfl⟩
    refine bc fun g=>?_;cases ds with
    | nil=>refine g ?_;simp [zipD] at hx
    | cons d ds=>cases es with
      | nil=>refine g ?_;simp [zipD] at hx
      | cons e es=>
        obtain ⟨rfl,rfl⟩:x = .tuple [d,e]∧xs = zipD ds es:=by simpa [zipD] using hx
        refine g ?_;delta pyNext
        refine wpAny_bind (wpAny_attempt (wpAny_callSpecial?_slot (name:=Str.ofString "__next__") hT F.slot_zip_next (wpAny_call_entry F.slot_zip_next hT F.entry_zip_next ?_ (F.args_zip_next_1 _))))
        refine wpAny_mono (zip_body O N1 N2 hz hh hI hO s1 s2 I hzf) (?_) fun _ _ x=>x.elim;intro fin s' q;refine bc fun g=>?_;obtain ⟨v,hf,T,Z',hv,t,st,r⟩:=q;refine g ?_;refine ⟨v,hf,wpAny_pure ⟨v,rfl,?_⟩⟩
        subst hv
        obtain ⟨f0',b1',a',b',ds',es',hz',hh',hI',hO',s1',s2',hx'⟩:=st
        delta letOwnedTupleGo
        refine wpAny_bind (wpAny_load hz' ?_)
        simp only
        by_cases hg:((["enumerate","zip","dict_itemiterator","dict_reverseitemiterator","odict_iterator","itertools.zip_longest","itertools.pairwise"]:List String).contains "zip" && (#[f0',.bool b1',.bool false,.ref TI,.ref TO]:Array Value)[0]? == some (rawInt (T:Nat))) = true
        · rw [if_pos hg]
          refine wpAny_bind (wpAny_rule ?_)
          skip
          refine wpAny_setField_rec hz' (by simp) fun h₂ hz₂ hs₂=>?_
          replace hz₂:IsZp h₂ z TI TO .none b1':=hz₂
          have k₂:∀ b o,b ≠ z→s'.heap.get? b = some o→h₂.get? b = some o:=fun b o hb e=>hs₂.extBut b o hb e
          have zZ':=t.off z (by simp [mem_zfp])
          have t₂:Stepped c [z] s' Z' { s' with heap:=h₂ } Z':=Stepped.chg (tk:=s'.toks) t.inv (by simpa using zZ') fun b o hb e=>k₂ b o (by simpa using hb) e
          exact ⟨Z',(t.then t₂ (fun _ h=>h) (fun x hx=>by simp [mem_zfp,List.mem_singleton.mp hx]) hzf (zlive N1.ok N2.ok hz hI hO s1 s2) (zlive (z:=z) (TI:=TI) (TO:=TO) N1.ok N2.ok hz' hI' hO' s1' s2')),⟨.none,b1',a',b',ds',es',hz₂,.inl rfl,k₂ _ _ O.zTI.symm hI',k₂ _ _ O.zTO.symm hO',N1.ok.chg s1' O.z1 zZ' k₂,N2.ok.chg s2' O.z2 zZ' k₂,hx'⟩,
            rep_mono (fun b o zb e=>k₂ b o (fun q=>zZ' (q▸zb)) e) (fun _ h=>h) r⟩
        · rw [if_neg hg]
          exact wpAny_pure ⟨Z',t,⟨f0',b1',a',b',ds',es',hz',hh',hI',hO',s1',s2',hx'⟩,r⟩
  done:=fun s Z ⟨f0,b1,a,b,ds,es,hz,hh,hI,hO,s1,s2,hx⟩ I hzf=>by
    have hT:s.TypeIs (.ref z) "zip":=⟨_,hz,rfl⟩
    delta pyNext
    refine wpAny_bind (wpAny_attempt (wpAny_callSpecial?_slot (name:=Str.ofString "__next__") hT F.slot_zip_next (wpAny_call_entry F.slot_zip_next hT F.entry_zip_next ?_ (F.args_zip_next_1 _))))
    refine wpAny_mono (zip_end O N1 N2 hz hh hI hO s1 s2 I hzf hx.symm) (fun _ _ x=>x.elim) ?_;rintro ev s' ⟨a,he,⟨o,ho,hc⟩,Z',t⟩;refine ?_
    subst he
    exact wpAny_bind (wpAny_isInstance (T:="StopIteration") (b:=true) ⟨o,ho,hc⟩ isSubtype_stop (wpAny_pure ⟨rfl,Z',t⟩))
  self:=fun _ xs s Z Q ⟨f0,b1,a,b,ds,es,hz,_,_,_,_,_,_⟩ I hq=>by
    have hT:s.TypeIs (.ref z) "zip":=⟨_,hz,rfl⟩
    refine wpAny_pyIter_slot hT F.slot_zip_iter (wpAny_call_entry F.slot_zip_iter hT F.entry_zip_iter ?_ (F.args_zip_iter_1 _))
    skip
    exact wpAny_pure ⟨_,rfl,"zip",_,hT,F.slot_zip_next.lookup,hq⟩
end
end Mine
end
section
open PySem PySem.W PyProof.Rows
open Builtin.SmallTypes (nextOf)
namespace Mine
section
variable {prog:Program} {w:World} {A:Around} {E:Value→Shared→Prop} {s:Shared}
theorem nextOf_tuple_item {it t:Addr} {i:Nat} {items} {x:Value} {Q:Value→Shared→Prop} (hit:s.heap.IsTupleIter it t i)
    (ht:s.heap.IsTuple t items) (hx:items[i]? = some x)
    (hQ:∀ h',h'.IsTupleIter it t (i + 1)→Heap.SameBut it s.heap h'→Q x { s with heap:=h' }) :
    wpAny (model prog w) A (nextOf (.ref it)) Q E s:=by
  refine bc fun g=>?_;obtain ⟨o,ho,hc,hd⟩:=id hit
  obtain ⟨ol,hol,_,nl,hdl⟩:=ht
  refine g ?_;delta nextOf
  refine wpAny_bind (wpAny_callSpecial?_slot (name:=Str.ofString "__next__") hit.typeIs F.slot_tuple_iterator_next
    (wpAny_call_entry F.slot_tuple_iterator_next hit.typeIs F.entry_tuple_iterator_next ?_ (F.args_tuple_iterator_next_1 _)))
  refine (?_:wpAny _ _ (field (.ref it) 0 >>= _) _ _ s)
  refine bnd1 (fun _ q=>wpAny_field ho hd (x:=.ref t) rfl q) ?_
  skip
  refine if_neg (show ¬ ((Value.ref t == Value.none) = true) from Bool.false_ne_true)▸?_
  skip
  refine bnd1 (fun _ q=>wpAny_field ho hd (x:=.int i 0) rfl q) ?_
  skip
  refine bnd1 (fun _ q=>wpAny_seqItems hol hdl q) ?_
  simp only [Int.toNat_natCast,hx]
  refine wpAny_bind (wpAny_setField ho hd (by simp) (wpAny_pure ⟨x,rfl,wpAny_pure (hQ _ ?_ (Heap.SameBut.update ..))⟩))
  exact ⟨_,Heap.get?_update_self _ ho (Obj.isFreed_of_fields (Obj.data_mapFields hd _)),(Obj.cls_mapFields ..).trans hc,by
    rw [Obj.data_mapFields hd];rfl⟩
theorem nextOf_tuple_end {it t:Addr} {i:Nat} {items} {Q:Value→Shared→Prop} (hh:A.handled = none)
    (hit:s.heap.IsTupleIter it t i) (ht:s.heap.IsTuple t items) (hx:items[i]? = none)
    (hE:∀ h' e,Heap.ExtBut it s.heap h'→(∃ o,h'.get? e = some o∧o.cls = .type "StopIteration")→E (.ref e) { s with heap:=h' }):wpAny (model prog w) A (nextOf (.ref it)) Q E s:=by
  refine bc fun g=>?_;obtain ⟨o,ho,hc,hd⟩:=id hit
  obtain ⟨ol,hol,_,nl,hdl⟩:=ht
  refine g ?_;delta nextOf
  refine wpAny_bind (wpAny_callSpecial?_slot (name:=Str.ofString "__next__") hit.typeIs F.slot_tuple_iterator_next
    (wpAny_call_entry F.slot_tuple_iterator_next hit.typeIs F.entry_tuple_iterator_next ?_ (F.args_tuple_iterator_next_1 _)))
  refine (?_:wpAny _ _ (field (.ref it) 0 >>= _) _ _ s)
  refine bnd1 (fun _ q=>wpAny_field ho hd (x:=.ref t) rfl q) ?_
  skip
  refine if_neg (show ¬ ((Value.ref t == Value.none) = true) from Bool.false_ne_true)▸?_
  skip
  refine bnd1 (fun _ q=>wpAny_field ho hd (x:=.int i 0) rfl q) ?_
  skip
  refine bnd1 (fun _ q=>wpAny_seqItems hol hdl q) ?_
  simp only [Int.toNat_natCast,hx]
  refine wpAny_bind (wpAny_rule (wpAny_bind (wpAny_setField ho hd (by simp) ?_)))
  skip
  refine wpAny_bind ?_
  simp only [newExc,newTuple]
  refine wpAny_bind (wpAny_newObj_type ?_ (by size_fits))
  refine wpAny_bind (m:=firstArgMember _ _) (wpAny_of_eq (a:=Value.none) (by rfl) ?_)
  refine wpAny_newObj_type ?_ (by size_fits)
  exact wpAny_raiseNew_none hh (hE _ _ (((Heap.SameBut.update ..).extBut.push _).push _) ⟨_,Heap.get?_push_size _ rfl,rfl⟩)
theorem draws_tuple (hh:A.handled = none) (it t:Addr) (hne:t ≠ it) (items:Array Value) :
    Draws prog w A it [it,t] items.size (fun i v=>items[i]? = some v) (fun i h=>h.IsTupleIter it t i∧h.IsTuple t items) where
  live:=fun _ _ st=>let ⟨o,ho,_⟩:=st.1;⟨o,ho⟩
  frame:=fun _ _ _ st hk=>⟨let ⟨o,ho,r⟩:=st.1;⟨o,hk it (by simp) o ho,r⟩,(by refine bc fun g=>?_;obtain ⟨o,ho,r⟩:=st.2;exact g (⟨o,hk t (by simp) o ho,r⟩))⟩
  item:=fun i s Q E hi st hQ=>by
    refine nextOf_tuple_item st.1 st.2 (x:=items[i]) (by simp [hi]) fun h' hit' hs'=>?_
    exact hQ _ h' s.toks (by simp [hi]) ⟨hit',st.2.extBut hs'.extBut hne⟩ hs'
  done:=fun s Q E st hE=>nextOf_tuple_end hh st.1 st.2 (by simp) hE
section
variable {K:Type} [DecidableEq K] {knd:PySem.KeyKind prog w K}
end
end
end Mine
end
section
open PySem PySem.W PyProof.Rows
open Builtin.SmallTypes (nextOf)
namespace Mine
structure MadeN (c:Cx) (it:Addr) (fp:List Addr) (St:StT) (xs:List D) (s:Shared) (Z:Addr→Prop) (s':Shared) (Z':Addr→Prop):Prop where
  nx:∀ A':Around,A'.handled = none→Nx c A' it fp St
  st:St xs Z' s'.heap
  inv:Inv c s' Z'
  evo:Evo no s Z s' Z'
  off:∀ b ∈ fp,¬ Z' b
  fresh:∀ b ∈ fp,s.heap.get? b = none
  next:∃ T r,s'.TypeIs (.ref it) T∧typeLookup (.type T) "__next__" = pure (some r)
structure MadeI (c:Cx) (cm:Bool) (tgt:Expr) (it:Addr) (fp:List Addr) (St:StT) (xs:List D) (s:Shared) (Z:Addr→Prop) (s':Shared) (Z':Addr→Prop):Prop where
  ip:∀ A':Around,A'.handled = none→IterP c A' cm tgt it fp St
  st:St xs Z' s'.heap
  inv:Inv c s' Z'
  evo:Evo no s Z s' Z'
  off:∀ b ∈ fp,¬ Z' b
  fresh:∀ b ∈ fp,s.heap.get? b = none
noncomputable def SrcD (c:Cx) (d:D) (xs:List D):Prop:=
  ∀ A s Z v,A.handled = none→Inv c s Z→Rep c s.heap Z v d→wpAny (model c.prog c.w) A (pyIter v) (fun x s'=>∃ it fp St Z',x = .ref it∧MadeN c it fp St xs s Z s' Z') noE s
noncomputable def IterD (c:Cx) (cm:Bool) (d:D) (tgt:Expr) (xs:List D):Prop:=
  ∀ A s Z v,A.handled = none→Inv c s Z→Rep c s.heap Z v d→wpAny (model c.prog c.w) A (pyIter v) (fun x s'=>∃ it fp St Z',x = .ref it∧MadeI c cm tgt it fp St xs s Z s' Z') noE s
section
variable {c:Cx} {A:Around} {cm:Bool}
theorem iter_of_walks {it:Addr} {fp:List Addr} {n:Nat} {P:Nat→Value→Prop} {St:Nat→Heap→Prop} {G:(Addr→Prop)→Heap→Prop} {el:List D} {tgt:Expr}
    (W:Walks c.prog c.w A it fp [it] n P St) (hfp:∀ Z h,G Z h→∀ b ∈ fp,b = it∨Z b)
    (hG:∀ Z Z' h h',G Z h→(∀ a o,Z a→h.get? a = some o→h'.get? a = some o)→(∀ a,Z a→Z' a)→G Z' h')
    (hel:ElsAt c P G el) (hn:el.length = n) (hlive:∀ i h,St i h→∃ o,h.get? it = some o)
    (hgo:∀ i v (s:Shared) (Q:Unit→Shared→Prop),St i s.heap→Q () s→wpAny (model c.prog c.w) A (letOwnedTupleGo tgt (.ref it) v) Q noE s):IterP c A cm tgt it [it] (StAt el G St n) where
  ok:={
    frame:=fun xs Z Z' h h' ⟨i,hi,hx,st,g⟩ h1 h2 h3=>⟨i,hi,hx,W.frame i h h' st (fun b hb o e=>by
      rcases hfp Z h g b hb with rfl | hz
      · exact h1 b (by simp) o e
      · exact h2 b o hz e),hG Z Z' h h' g h2 h3⟩
    live:=fun xs Z h ⟨i,_,_,st,_⟩ b hb=>by refine List.mem_singleton.mp hb▸?_;exact hlive i h st }
  turn:=fun x xs s Z ⟨i,hi,hx,st,g⟩ I hz=>by
    have hlt:i < n:=by
      rcases Nat.lt_or_ge i n with h | h
      · exact h
      · (rw [List.drop_of_length_le (by lia)] at hx;cases hx)
    refine W.item i s _ _ hlt st fun v h' tk hP st' hk=>⟨v,rfl,hgo _ v _ _ st' ?_⟩
    have g':=hG Z Z _ h' g (fun a o z e=>hk a o (fun hb=>hz a hb z) e) fun _ h=>h
    refine bc fun g=>?_;obtain ⟨d,hd,r⟩:=hel i v Z h' g' hP
    have hx':el[i]? = some x:=by
      have:=congrArg (·[0]?) hx
      simpa using this.symm
    induction some_eq hx' hd
    refine g ?_;refine ⟨Z,step_but I hz hk,⟨i + 1,hlt,?_,st',g'⟩,r⟩
    have:=congrArg List.tail hx
    simpa using this
  done:=fun s Z ⟨i,hi,hx,st,g⟩ I hz=>by
    have:i = n:=by
      have:=congrArg List.length hx
      simp at this;lia
    subst this
    exact W.done s _ _ st fun h' tk hk=>⟨rfl,Z,step_but I hz hk⟩
  self:=(by rintro _ xs s Z Q ⟨i,hi,hx,st,g⟩ I hq;exact W.self i s Q noE st hq)
theorem go_plain {tgt:Expr} {it:Addr} {v:Value} {s:Shared} {Q:Unit→Shared→Prop} {o:Obj} {T:String} (ho:s.heap.get? it = some o) (hc:o.cls = .type T)
    (hT:(["enumerate","zip","dict_itemiterator","dict_reverseitemiterator","odict_iterator","itertools.zip_longest","itertools.pairwise"]:List String).contains T = false) (hq:Q () s) :
    wpAny (model c.prog c.w) A (letOwnedTupleGo tgt (.ref it) v) Q noE s:=by
  have key:∀ a,v = .ref a→wpAny (model c.prog c.w) A (do
      let o ← load it
      match o.cls,o.data with
      | .type n,.fields vs=>
        if (["enumerate","zip","dict_itemiterator","dict_reverseitemiterator","odict_iterator","itertools.zip_longest","itertools.pairwise"]:List String).contains n && vs[0]? == some (rawInt a) then
          rule "for.unpacks-the-owned-tuple"
          updateField it 0 .none
      | _,_=>pure ()) Q noE s:=fun a _=>by
    refine wpAny_bind (wpAny_load ho ?_)
    refine hc▸?_
    induction o.data with
    | fields vs=>
      simp only [hT,Bool.false_and,Bool.false_eq_true,if_false]
      exact wpAny_pure hq
    | _=>exact wpAny_pure hq
  delta letOwnedTupleGo
  cases tgt<;>first | exact wpAny_pure hq | skip
  · induction v<;>first | exact wpAny_pure hq | exact key _ rfl
  · induction v<;>first | exact wpAny_pure hq | exact key _ rfl
theorem made_new {it:Addr} {St:StT} {xs:List D} {s:Shared} {Z:Addr→Prop} {o:Obj} {tk:Nat} (I:Inv c s Z) (hit:it = s.heap.objs.size) (_ho:o.isFreed = false:=by rfl) :
    Inv c { s with heap:=s.heap.push o,toks:=tk } Z∧Evo no s Z { s with heap:=s.heap.push o,toks:=tk } Z∧(∀ b ∈ [it],¬ Z b)∧∀ b ∈ [it],s.heap.get? b = none:=by
  subst hit
  refine ⟨I.push0 _ _,Evo.push0 _ _,fun b hb hz=>?_,fun b hb=>by rw [List.mem_singleton.mp hb];exact fresh_size _⟩
  rw [List.mem_singleton.mp hb] at hz
  obtain ⟨o',e⟩:=I.za _ hz
  (rw [fresh_size] at e;cases e)
noncomputable def GList (c:Cx) (a:Addr) (vs:List Value) (ds:List D):(Addr→Prop)→Heap→Prop:=fun Z h=>Z a∧Reps c h Z vs ds
theorem glist_mono {a:Addr} {vs:List Value} {ds:List D}:∀ Z Z' h h',GList c a vs ds Z h→(∀ a o,Z a→h.get? a = some o→h'.get? a = some o)→(∀ a,Z a→Z' a)→GList c a vs ds Z' h':=
  fun _ _ _ _ g h1 h2=>⟨h2 _ g.1,reps_mono h1 h2 g.2⟩
theorem glist_els {a:Addr} {vs:List Value} {ds:List D}:ElsAt c (fun i v=>vs.toArray[i]? = some v) (GList c a vs ds) ds:=fun i v Z h g hv=>by
  have hv':vs[i]? = some v:=by simpa using hv
  have hlt:i < vs.length:=by
    rcases Nat.lt_or_ge i vs.length with h | h
    · exact h
    · exact none_some (List.getElem?_eq_none h) hv'
  have hlt':i < ds.length:=g.2.length▸hlt
  refine ⟨ds[i],by simp [hlt'],?_⟩
  obtain ⟨u,hu,r⟩:=g.2.get (i:=i) (d:=ds[i]) (by simp [hlt'])
  induction some_eq hv' hu;exact r
theorem stAt0 {el:List D} {G:(Addr→Prop)→Heap→Prop} {St:Nat→Heap→Prop} {n:Nat} {Z:Addr→Prop} {h:Heap} (st:St 0 h) (g:G Z h):StAt el G St n el Z h:=⟨0,Nat.zero_le _,rfl,st,g⟩
theorem src_list {ds:List D}:SrcD c (.list ds) ds:=by
  intro A s Z v hh I r
  replace r:=r.iL;induction r with | mk z l rr=>?_
  replace l:=l.isList
  rename_i a vs
  refine wpAny_pyIter_list l ?_
  obtain ⟨I',e',off,fr⟩:=made_new (St:=fun _ _ _=>True) (xs:=ds) (o:={ cls:=.type "list_iterator",data:=.fields #[.ref a,.int 0 0] }) (tk:=s.toks) I rfl
  refine ⟨_,[s.heap.objs.size],StAt ds (GList c a vs ds) (fun i h=>h.IsListIter s.heap.objs.size a i∧h.IsList a vs.toArray) vs.toArray.size,Z,rfl,fun A' hA'=>?_,?_,I',e',off,fr,?_⟩
  · exact nx_of_draws (Draws.list hA' s.heap.objs.size a (fun q=>by obtain ⟨o,e⟩:=I.za a z;rw [q,fresh_size] at e;cases e) vs.toArray) (fun Z h g b hb=>by
      rcases List.mem_cons.mp hb with rfl | hb
      · exact .inl rfl
      · rw [List.mem_singleton.mp hb];exact .inr g.1) glist_mono glist_els (by simp [rr.length])
  · exact stAt0 ⟨⟨_,Heap.get?_push_size _ rfl,rfl,rfl⟩,l.push _⟩ ⟨z,e'.reps no_z rr⟩
  · exact ⟨"list_iterator",_,⟨_,Heap.get?_push_size _ rfl,rfl⟩,slot_listiter_next.lookup⟩
theorem iter_list {ds:List D} {tgt:Expr}:IterD c cm (.list ds) tgt ds:=by
  intro A s Z v hh I r
  replace r:=r.iL;induction r with | mk z l rr=>?_
  replace l:=l.isList
  rename_i a vs
  refine wpAny_pyIter_list l ?_
  obtain ⟨I',e',off,fr⟩:=made_new (St:=fun _ _ _=>True) (xs:=ds) (o:={ cls:=.type "list_iterator",data:=.fields #[.ref a,.int 0 0] }) (tk:=s.toks) I rfl
  refine ⟨_,[s.heap.objs.size],StAt ds (GList c a vs ds) (fun i h=>h.IsListIter s.heap.objs.size a i∧h.IsList a vs.toArray) vs.toArray.size,Z,rfl,fun A' hA'=>?_,?_,I',e',off,fr⟩
  · exact iter_of_walks (Walks.list hA' s.heap.objs.size a (fun q=>by obtain ⟨o,e⟩:=I.za a z;rw [q,fresh_size] at e;cases e) vs.toArray) (fun Z h g b hb=>by
      rcases List.mem_cons.mp hb with rfl | hb
      · exact .inl rfl
      · rw [List.mem_singleton.mp hb];exact .inr g.1) glist_mono glist_els (by simp [rr.length]) (fun i h st=>(by refine bc fun g=>?_;obtain ⟨o,ho,_⟩:=st.1;exact g (⟨o,ho⟩)))
      (fun i v s Q st hq=>(by refine bc fun g=>?_;obtain ⟨o,ho,hc,_⟩:=st.1;exact g (go_plain ho hc (by decide) hq)))
  · exact stAt0 ⟨⟨_,Heap.get?_push_size _ rfl,rfl,rfl⟩,l.push _⟩ ⟨z,e'.reps no_z rr⟩
theorem src_tuple {ds:List D}:SrcD c (.tuple ds) ds:=by
  intro A s Z v hh I r
  replace r:=r.iT;induction r with | mk z l rr=>?_
  rename_i a vs
  refine wpAny_pyIter_tuple l ?_
  refine bc fun g=>?_;obtain ⟨I',e',off,fr⟩:=made_new (St:=fun _ _ _=>True) (xs:=ds) (o:={ cls:=.type "tuple_iterator",data:=.fields #[.ref a,.int 0 0] }) (tk:=s.toks) I rfl
  refine g ?_;refine ⟨_,[s.heap.objs.size],StAt ds (GList c a vs ds) (fun i h=>h.IsTupleIter s.heap.objs.size a i∧h.IsTuple a vs.toArray) vs.toArray.size,Z,rfl,fun A' hA'=>?_,?_,I',e',off,fr,?_⟩
  · exact nx_of_draws (draws_tuple hA' s.heap.objs.size a (fun q=>by refine bc fun g=>?_;obtain ⟨o,e⟩:=I.za a z;refine g ?_;rw [q,fresh_size] at e;cases e) vs.toArray) (fun Z h g b hb=>by
      rcases List.mem_cons.mp hb with rfl | hb
      · exact .inl rfl
      · rw [List.mem_singleton.mp hb];exact .inr g.1) glist_mono glist_els (by simp [rr.length])
  · exact stAt0 ⟨⟨_,Heap.get?_push_size _ rfl,rfl,rfl⟩,Heap.IsTuple.push l _⟩ ⟨z,e'.reps no_z rr⟩
  · exact ⟨"tuple_iterator",_,⟨_,Heap.get?_push_size _ rfl,rfl⟩,F.slot_tuple_iterator_next.lookup⟩
theorem iter_tuple {ds:List D} {tgt:Expr}:IterD c cm (.tuple ds) tgt ds:=by
  intro A s Z v hh I r
  replace r:=r.iT;induction r with | mk z l rr=>?_
  rename_i a vs
  refine wpAny_pyIter_tuple l ?_
  refine bc fun g=>?_;obtain ⟨I',e',off,fr⟩:=made_new (St:=fun _ _ _=>True) (xs:=ds) (o:={ cls:=.type "tuple_iterator",data:=.fields #[.ref a,.int 0 0] }) (tk:=s.toks) I rfl
  refine g ?_;refine ⟨_,[s.heap.objs.size],StAt ds (GList c a vs ds) (fun i h=>h.IsTupleIter s.heap.objs.size a i∧h.IsTuple a vs.toArray) vs.toArray.size,Z,rfl,fun A' hA'=>?_,?_,I',e',off,fr⟩
  · exact iter_of_walks (Walks.tuple hA' s.heap.objs.size a (fun q=>by refine bc fun g=>?_;obtain ⟨o,e⟩:=I.za a z;refine g ?_;rw [q,fresh_size] at e;cases e) vs.toArray) (fun Z h g b hb=>by
      rcases List.mem_cons.mp hb with rfl | hb
      · exact .inl rfl
      · rw [List.mem_singleton.mp hb];exact .inr g.1) glist_mono glist_els (by simp [rr.length]) (fun i h st=>(by refine bc fun g=>?_;obtain ⟨o,ho,_⟩:=st.1;exact g (⟨o,ho⟩)))
      (fun i v s Q st hq=>(by refine bc fun g=>?_;obtain ⟨o,ho,hc,_⟩:=st.1;exact g (go_plain ho hc (by decide) hq)))
  · exact stAt0 ⟨⟨_,Heap.get?_push_size _ rfl,rfl,rfl⟩,Heap.IsTuple.push l _⟩ ⟨z,e'.reps no_z rr⟩
end
end Mine
end
section
open PySem PySem.W PyProof.Rows
open Builtin.SmallTypes (nextOf)
namespace Mine
section
variable {c:Cx} {cm:Bool}
noncomputable def signs (x:Str):List D:=x.cps.toList.map fun ch=>.str ⟨#[ch]⟩
theorem sign_els {x:Str}:ElsAt c (fun i v=>∃ ch u,x.cps[i]? = some ch∧v = .str ⟨#[ch]⟩ u) (fun _ _=>True) (signs x):=fun i v Z h _ ⟨ch,u,hc,hv⟩=>by
  subst hv
  exact ⟨.str ⟨#[ch]⟩,by delta signs;rw [List.getElem?_map,Array.getElem?_toList,hc];rfl,.str⟩
theorem strIter_cls {x:Str}:∃ r,typeLookup (.type (strIterType x)) "__next__" = pure (some r):=by
  delta strIterType
  split
  · exact ⟨_,F.slot_str_ascii_iterator_next.lookup⟩
  · exact ⟨_,F.slot_str_iterator_next.lookup⟩
theorem src_str {x:Str}:SrcD c (.str x) (signs x):=by
  intro A s Z v hh I r
  replace r:=r.iS;induction r with | mk=>?_
  rename_i t
  refine wpAny_pyIter_strU ?_
  obtain ⟨I',e',off,fr⟩:=made_new (St:=fun _ _ _=>True) (xs:=[]) (o:={ cls:=.type (strIterType x),data:=.fields #[.str x t,.int 0 0] }) (tk:=s.toks) I rfl
  refine ⟨_,[s.heap.objs.size],StAt (signs x) (fun _ _=>True) (fun i h=>h.IsStrIter s.heap.objs.size (strIterType x) x t i) x.cps.size,Z,rfl,fun A' hA'=>?_,?_,I',e',off,fr,?_⟩
  · refine nx_of_draws (fp:=[s.heap.objs.size]) (P:=fun i v=>∃ ch u,x.cps[i]? = some ch∧v = .str ⟨#[ch]⟩ u) ?_ (fun Z h g b hb=>.inl (List.mem_singleton.mp hb)) (fun _ _ _ _ _ _ _=>trivial) sign_els (by simp [signs])
    delta strIterType
    split
    · exact Draws.strAscii hA' _ x t
    · exact Draws.strWide hA' _ x t
  · exact stAt0 ⟨_,Heap.get?_push_size _ rfl,rfl,rfl⟩ trivial
  · obtain ⟨r,hr⟩:=strIter_cls (x:=x)
    exact ⟨_,r,⟨_,Heap.get?_push_size _ rfl,rfl⟩,hr⟩
theorem iter_str {x:Str} {tgt:Expr}:IterD c cm (.str x) tgt (signs x):=by
  intro A s Z v hh I r
  replace r:=r.iS;induction r with | mk=>?_
  rename_i t
  refine wpAny_pyIter_strU ?_
  obtain ⟨I',e',off,fr⟩:=made_new (St:=fun _ _ _=>True) (xs:=[]) (o:={ cls:=.type (strIterType x),data:=.fields #[.str x t,.int 0 0] }) (tk:=s.toks) I rfl
  refine ⟨_,[s.heap.objs.size],StAt (signs x) (fun _ _=>True) (fun i h=>h.IsStrIter s.heap.objs.size (strIterType x) x t i) x.cps.size,Z,rfl,fun A' hA'=>?_,?_,I',e',off,fr⟩
  · refine iter_of_walks (fp:=[s.heap.objs.size]) (P:=fun i v=>∃ ch u,x.cps[i]? = some ch∧v = .str ⟨#[ch]⟩ u) ?_ (fun Z h g b hb=>.inl (List.mem_singleton.mp hb)) (fun _ _ _ _ _ _ _=>trivial) sign_els (by simp [signs])
      (fun i h st=>(by refine bc fun g=>?_;obtain ⟨o,ho,_⟩:=st;exact g (⟨o,ho⟩))) (fun i v s Q st hq=>(by refine bc fun g=>?_;obtain ⟨o,ho,hc,_⟩:=st;exact g (go_plain ho hc (by delta strIterType;split<;>decide) hq)))
    delta strIterType
    split
    · exact Walks.strAscii hA' _ x t
    · exact Walks.strWide hA' _ x t
  · exact stAt0 ⟨_,Heap.get?_push_size _ rfl,rfl,rfl⟩ trivial
noncomputable def keysD (es:List (Str × D)):List D:=es.map fun e=>.str e.1
noncomputable def GDict (a:Addr):(Addr→Prop)→Heap→Prop:=fun Z _=>Z a
theorem gdict_mono {a:Addr}:∀ (Z Z':Addr→Prop) (h h':Heap),GDict a Z h→(∀ a o,Z a→h.get? a = some o→h'.get? a = some o)→(∀ a,Z a→Z' a)→GDict a Z' h':=fun _ _ _ _ g _ h2=>h2 _ g
theorem key_els {a:Addr} {kvs:List (Str × Value)} {es:List (Str × D)} (hk:kvs.map (·.1) = es.map (·.1)):ElsAt c (fun i v=>∃ k x,kvs[i]? = some (k,x)∧(sk c).is k v = true) (GDict a) (keysD es):=fun i v Z h _ ⟨k,x,hkx,hv⟩=>by
  obtain ⟨t,rfl⟩:=Value.isStrOf_shape hv
  refine ⟨.str k,?_,.str⟩
  have:=congrArg (·[i]?) hk
  simp only [List.getElem?_map,hkx] at this
  delta keysD
  rw [List.getElem?_map]
  induction he:es[i]? with
  | none=>(rw [he] at this;cases this)
  | some e=>
    rw [he] at this
    have:k = e.1:=by simpa using this
    rw [this];rfl
theorem dictAt_push {a:Addr} {kvs:List (Str × Value)} {ep:Nat} {h:Heap} (x:h.DictAt (sk c) a kvs ep) (o:Obj):(h.push o).DictAt (sk c) a kvs ep:=let ⟨o',es,ho,r⟩:=x;⟨o',es,Heap.get?_push_of_some _ ho,r⟩
theorem dictAt_of {a:Addr} {kvs:List (Str × Value)} {h:Heap} (x:h.DictOf (sk c) a kvs):∃ ep,h.DictAt (sk c) a kvs ep:=(by refine bc fun g=>?_;obtain ⟨o,es,ep,h1,h2,h3,h4⟩:=x;exact g (⟨ep,o,es,h1,h2,h3,h4⟩))
theorem iter_dict {es:List (Str × D)} {tgt:Expr}:IterD c cm (.dict es) tgt (keysD es):=by
  intro A s Z v hh I r
  replace r:=r.iD;induction r with | mk z hs l rr=>?_
  rename_i a kvs
  obtain ⟨ep,hm⟩:=dictAt_of l
  refine wpAny_pyIter_dict hs hm ?_
  obtain ⟨I',e',off,fr⟩:=made_new (St:=fun _ _ _=>True) (xs:=[]) (o:={ cls:=.type "dict_keyiterator",data:=.fields #[.ref a,.int 0 0,.int kvs.length 0,.int ep 0] }) (tk:=s.toks) I rfl
  refine ⟨_,[s.heap.objs.size],StAt (keysD es) (GDict a) (fun i h=>h.IsKeyIter s.heap.objs.size a i kvs.length ep∧h.DictAt (sk c) a kvs ep) kvs.length,Z,rfl,fun A' hA'=>?_,?_,I',e',off,fr⟩
  · exact iter_of_walks (Walks.dictKeys hA' s.heap.objs.size a (fun q=>by obtain ⟨o,e⟩:=I.za a z;rw [q,fresh_size] at e;cases e) kvs ep) (fun Z h g b hb=>by
      rcases List.mem_cons.mp hb with rfl | hb
      · exact .inl rfl
      · rw [List.mem_singleton.mp hb];exact .inr g) gdict_mono (key_els rr.keys) (by rw [rr.length];simp [keysD]) (fun i h st=>(by refine bc fun g=>?_;obtain ⟨o,ho,_⟩:=st.1;exact g (⟨o,ho⟩)))
      (fun i v s Q st hq=>(by refine bc fun g=>?_;obtain ⟨o,ho,hc,_⟩:=st.1;exact g (go_plain ho hc (by decide) hq)))
  · exact stAt0 ⟨⟨_,Heap.get?_push_size _ rfl,rfl,rfl⟩,dictAt_push hm _⟩ z
variable {n:Nat} {sc:Scope} {ρ:List (Option Sl)}
noncomputable def EvI (c:Cx) (cm:Bool) (n:Nat) (sc:Scope) (ρ:List (Option Sl)) (e tgt:Expr) (xs:List D):Prop:=
  (∀ env x,foldedSetIterable e env x = pure x)∧∀ A s Z W env,Room A n→Inv c s Z→Fr c sc env ρ s Z W →
    wpAny (model c.prog c.w) A (eval e env) (fun x s₁=>wpAny (model c.prog c.w) A (pyIter x) (fun it s₂=>∃ i fp St Z',it = .ref i∧MadeI c cm tgt i fp St xs s Z s₂ Z') noE s₁) noE s
noncomputable def EvN (c:Cx) (n:Nat) (sc:Scope) (ρ:List (Option Sl)) (e:Expr) (xs:List D):Prop:=
  noStar e = true∧∀ A s Z W env,Room A n→Inv c s Z→Fr c sc env ρ s Z W →
    wpAny (model c.prog c.w) A (eval e env) (fun v s₁=>(∀ b o,c.h₀.get? b = some o→s₁.heap.get? b = some o)∧∀ A',A'.handled = none→wpAny (model c.prog c.w) A' (pyIter v) (fun x s'=>∃ it fp St Z',x = .ref it∧MadeN c it fp St xs s Z s' Z') noE s₁) noE s
theorem Evo.back {s s₁:Shared} {Z Z₁:Addr→Prop} (e:Evo no s Z s₁ Z₁) {b:Addr} (h:s₁.heap.get? b = none):s.heap.get? b = none:=by
  induction q:s.heap.get? b with
  | none=>rfl
  | some o=>exact none_some h (e.keep b o id q)
theorem MadeN.from {it:Addr} {fp:List Addr} {St:StT} {xs:List D} {s s₁ s':Shared} {Z Z₁ Z':Addr→Prop} (m:MadeN c it fp St xs s₁ Z₁ s' Z') (e:Evo no s Z s₁ Z₁):MadeN c it fp St xs s Z s' Z':=
  ⟨m.nx,m.st,m.inv,e.trans m.evo,m.off,fun b hb=>e.back (m.fresh b hb),m.next⟩
theorem MadeI.from {tgt:Expr} {it:Addr} {fp:List Addr} {St:StT} {xs:List D} {s s₁ s':Shared} {Z Z₁ Z':Addr→Prop} (m:MadeI c cm tgt it fp St xs s₁ Z₁ s' Z') (e:Evo no s Z s₁ Z₁):MadeI c cm tgt it fp St xs s Z s' Z':=
  ⟨m.ip,m.st,m.inv,e.trans m.evo,m.off,fun b hb=>e.back (m.fresh b hb)⟩
theorem evi_val {e tgt:Expr} {d:D} {xs:List D} (h:EvE c n sc ρ e d) (hi:IterD c cm d tgt xs) (hs:∀ env x,foldedSetIterable e env x = pure x:=by intro _ _;rfl):EvI c cm n sc ρ e tgt xs:=by
  refine ⟨hs,fun A s Z W env R I F=>Gives.to (h A s Z W env R I F) fun v s₁ Z₁ I₁ e₁ r₁=>?_⟩
  exact wpAny_mono (hi A s₁ Z₁ v R.h I₁ r₁) ((by intro x s₂ q;refine bc fun g=>?_;obtain ⟨it,fp,St,Z₂,hx,m⟩:=q;refine g ?_;exact ⟨it,fp,St,Z₂,hx,m.from e₁⟩)) fun _ _ x=>x
theorem evn_val {e:Expr} {d:D} {xs:List D} (h:EvE c n sc ρ e d) (hi:SrcD c d xs) (he:noStar e = true:=by rfl):EvN c n sc ρ e xs:=by
  refine ⟨he,fun A s Z W env R I F=>Gives.to (h A s Z W env R I F) fun v s₁ Z₁ I₁ e₁ r₁=>⟨I₁.base,fun A' hA'=>?_⟩⟩
  exact wpAny_mono (hi A' s₁ Z₁ v hA' I₁ r₁) ((by intro x s₂ q;refine bc fun g=>?_;obtain ⟨it,fp,St,Z₂,hx,m⟩:=q;refine g ?_;exact ⟨it,fp,St,Z₂,hx,m.from e₁⟩)) fun _ _ x=>x
theorem wpAny_pure_all {M:Model} {A:Around} {α:Type} {a:α} {s:Shared} {Q:α→Shared→Prop} {E:Value→Shared→Prop} (h:∀ a,Q a s):wpAny M A (pure a) Q E s:=wpAny_pure (h a)
theorem call_enum {v:Value} {xs:List D} {s₀ s:Shared} {Z₀:Addr→Prop} {A:Around} (hh:A.handled = none)
    (hs:∀ A',A'.handled = none→wpAny (model c.prog c.w) A' (pyIter v) (fun x s'=>∃ it fp St Z',x = .ref it∧MadeN c it fp St xs s₀ Z₀ s' Z') noE s) {Q:Value→Shared→Prop}
    (hq:∀ it fp St Z' sm,MadeN c it fp St xs s₀ Z₀ sm Z'→Q (.ref sm.heap.objs.size) { sm with heap:=sm.heap.push { cls:=.type "enumerate",data:=.fields #[.none,.bool false,.ref it,rawInt 0,.none,.none] } }) :
    wpAny (model c.prog c.w) A (call (.type "enumerate") [v]) Q noE s:=by
  refine callType_newIn F.called_enumerate (by decide) (F.typeCall_enumerate_1 _) (F.newCall_enumerate_1 _) (fun obj=>F.args_object_init_2 obj _) F.entry_enumerate_new
    (S:=fun A' R s'=>s' = s∧A'.handled = none∧∀ it fp St Z' sm,MadeN c it fp St xs s₀ Z₀ sm Z'→R (.ok (.ret (.ref sm.heap.objs.size))) { sm with heap:=sm.heap.push { cls:=.type "enumerate",data:=.fields #[.none,.bool false,.ref it,rawInt 0,.none,.none] } })
    (MeetsIn.of_wp fun A' R s' h=>?_) ⟨rfl,hh,fun it fp St Z' sm m=>⟨⟨_,Heap.get?_push_size _ rfl,rfl⟩,hq it fp St Z' sm m⟩⟩
  obtain ⟨hs',hA',hR⟩:=h
  subst hs'
  have hi:=hs A'.in1 hA'
  clear hs hq
  have hsub:=sub_enumerate
  have mk:∀ {E':Value→Shared→Prop} {Q':Value→Shared→Prop},(∀ it fp St Z' sm,MadeN c it fp St xs s₀ Z₀ sm Z'→Q' (.ref it) sm)→wpAny (model c.prog c.w) A'.in1 (pyIter v) Q' E' s':=fun hq'=>
    wpAny_mono hi ((by rintro x s₂ ⟨it,fp,St,Z',hx,m⟩;exact by subst hx;exact hq' it fp St Z' s₂ m)) fun _ _ x=>x.elim
  clear hi
  obtain ⟨hp,g,d,tk,os⟩:=s'
  wp_walk
  refine wpAny_stack_any fun st=>wpAny_pure_all fun b=>?_
  cases b
  · wp_walk using mk
    intro it fp St Z' sm m
    wp_walk
    exact ⟨_,rfl,hR it fp St Z' sm m⟩
  · wp_walk using mk
    intro it fp St Z' sm m
    wp_walk
    exact ⟨_,rfl,hR it fp St Z' sm m⟩
end
end Mine
end
section
open PySem PySem.W PyProof.Rows
open Builtin.SmallTypes (nextOf)
namespace Mine
section
variable {c:Cx} {cm:Bool} {n:Nat} {sc:Scope} {ρ:List (Option Sl)}
theorem live_fresh {h:Heap} {fp:List Addr} (hl:∀ b ∈ fp,∃ o,h.get? b = some o) {e:Addr} (he:h.get? e = none):e ∉ fp:=fun hb=>by
  obtain ⟨o,ho⟩:=hl e hb;exact none_some he ho
theorem call_type_args (B:Base c) (i:Nat) {x:Str} {T:String} {es:List Expr} {p pos:Pos} (hx:sc.names[i]? = some (x,.globalImplicit)) (hg:Glob c x (.type T)) (hp:plainName x = true) (hst:es.all noStar = true)
    {A:Around} {s:Shared} {Z W:Addr→Prop} {env:Env} (I:Inv c s Z) (F:Fr c sc env ρ s Z W) {Q:Value→Shared→Prop}
    (h:wpAny (model c.prog c.w) A (spliced (backTo pos (starEach es env))) (fun vs s₁=>(∀ b o,c.h₀.get? b = some o→s₁.heap.get? b = some o)∧wpAny (model c.prog c.w) A (call (.type T) vs) Q noE s₁) noE s) :
    wpAny (model c.prog c.w) A (eval (.Call (.Name x p) es [] pos) env) Q noE s:=by
  simp only [plainName,Bool.and_eq_true,Bool.not_eq_true'] at hp
  refine wpAny_Call_NameR (wpAny_Name (load_glob B hg I F hx ?_) hp.1)
  exact callWith_of (P:=fun h=>∀ b o,c.h₀.get? b = some o→h.get? b = some o) (by rw [backTo_plain hst];rfl) (fun h hk=>callee_type h hk) (evalArgs_all hst h)
theorem enum_made {v:Value} {xs:List D} {s₀ s:Shared} {Z₀:Addr→Prop} {A:Around} {elts:List Expr} {k:Nat} {tp:Pos} (hh:A.handled = none)
    (hs:∀ A',A'.handled = none→wpAny (model c.prog c.w) A' (pyIter v) (fun x s'=>∃ it fp St Z',x = .ref it∧MadeN c it fp St xs s₀ Z₀ s' Z') noE s) :
    wpAny (model c.prog c.w) A (call (.type "enumerate") [v]) (fun x s₁=>wpAny (model c.prog c.w) A (pyIter x) (fun it s₂=>∃ i fp St Z',it = .ref i∧MadeI c cm (.Tuple elts k tp) i fp St (enumD 0 xs) s₀ Z₀ s₂ Z') noE s₁) noE s:=by
  refine call_enum hh hs fun it fp St Z' sm m=>?_
  have he:IsEnum (sm.heap.push { cls:=.type "enumerate",data:=.fields #[.none,.bool false,.ref it,rawInt 0,.none,.none] }) sm.heap.objs.size it 0 .none:=Heap.get?_push_size _ rfl
  have hf:sm.heap.get? sm.heap.objs.size = none:=fresh_size _
  refine wpAny_pyIter_enum he ⟨sm.heap.objs.size,sm.heap.objs.size :: fp,EnSt sm.heap.objs.size it St,Z',rfl,fun A' hA'=>iter_enum (m.nx A'.in1 hA') (live_fresh ((m.nx A hh).ok.live _ _ _ m.st) hf),?_,m.inv.push0 _ sm.toks,m.evo.trans (Evo.push0 _ sm.toks),fun b hb=>?_,fun b hb=>?_⟩
  · exact ⟨0,.none,xs,he,(m.nx A hh).ok.frame _ _ _ _ _ m.st (fun b _ o e=>Heap.get?_push_of_some _ e) (fun a o _ e=>Heap.get?_push_of_some _ e) (fun _ h=>h),rfl⟩
  · rcases List.mem_cons.mp hb with rfl | hb
    · exact fun hz=>by obtain ⟨o,e⟩:=m.inv.za _ hz;exact none_some hf e
    · exact m.off b hb
  · rcases List.mem_cons.mp hb with rfl | hb
    · exact m.evo.back hf
    · exact m.fresh b hb
theorem evi_enum (B:Base c) (i:Nat) {e:Expr} {xs:List D} {elts:List Expr} {k:Nat} {p pos tp:Pos} (hx:sc.names[i]? = some (Str.ofString "enumerate",NameKind.globalImplicit)) (hg:Glob c (Str.ofString "enumerate") (.type "enumerate")) (h:EvN c n sc ρ e xs) :
    EvI c cm n sc ρ (.Call (.Name (Str.ofString "enumerate") p) [e] [] pos) (.Tuple elts k tp) (enumD 0 xs):=by
  refine ⟨fun _ _=>rfl,fun A s Z W env R I F=>?_⟩
  refine call_type_args B i hx hg (by decide +kernel) (by rw [List.all_cons,h.1];rfl) I F ?_
  refine starEach_cons h.1▸?_
  refine Calls.spliced_cons (wpAny_mono (h.2 A s Z W env R I F) (fun v s₁ hv=>Calls.spliced_nil ⟨hv.1,enum_made R.h hv.2⟩) fun _ _ x=>x)
theorem call_zip {v₁ v₂:Value} {d₁ d₂:D} {xs ys:List D} {s:Shared} {Z:Addr→Prop} {A:Around} (hh:A.handled = none) (I:Inv c s Z) (r₁:Rep c s.heap Z v₁ d₁) (r₂:Rep c s.heap Z v₂ d₂) (h1:SrcD c d₁ xs) (h2:SrcD c d₂ ys) {Q:Value→Shared→Prop}
    (hq:∀ i₁ f₁ S₁ Z₁ s₁ i₂ f₂ S₂ Z₂ s₂,MadeN c i₁ f₁ S₁ xs s Z s₁ Z₁→MadeN c i₂ f₂ S₂ ys s₁ Z₁ s₂ Z₂ →
      Q (.ref (s₂.heap.objs.size + 2)) { s₂ with heap:=((s₂.heap.push { cls:=.type "tuple",data:=.seq #[.ref i₁,.ref i₂] }).push { cls:=.type "tuple",data:=.seq #[.none,.none] }).push { cls:=.type "zip",data:=.fields #[.none,.bool false,.bool false,.ref s₂.heap.objs.size,.ref (s₂.heap.objs.size + 1)] } }) :
    wpAny (model c.prog c.w) A (call (.type "zip") [v₁,v₂]) Q noE s:=by
  have q2:∀ s₂:Shared,∀ i₁ i₂:Addr,((s₂.heap.push { cls:=.type "tuple",data:=.seq #[.ref i₁,.ref i₂] }).push { cls:=.type "tuple",data:=.seq #[.none,.none] }).objs.size = s₂.heap.objs.size + 2:=fun s₂ i₁ i₂=>by rw [Heap.size_push,Heap.size_push]
  have q1:∀ s₂:Shared,∀ i₁ i₂:Addr,(s₂.heap.push { cls:=.type "tuple",data:=.seq #[.ref i₁,.ref i₂] }).objs.size = s₂.heap.objs.size + 1:=fun s₂ i₁ i₂=>by rw [Heap.size_push]
  refine callType_newIn F.called_zip (by decide) (F.typeCall_zip_2 _ _) (F.newCall_zip_2 _ _) (fun obj=>F.args_object_init_3 obj _ _) F.entry_zip_new
    (S:=fun A' R s'=>s' = s∧A'.handled = none∧∀ i₁ f₁ S₁ Z₁ s₁ i₂ f₂ S₂ Z₂ s₂,MadeN c i₁ f₁ S₁ xs s Z s₁ Z₁→MadeN c i₂ f₂ S₂ ys s₁ Z₁ s₂ Z₂ →
      R (.ok (.ret (.ref (((s₂.heap.push { cls:=.type "tuple",data:=.seq #[.ref i₁,.ref i₂] }).push { cls:=.type "tuple",data:=.seq #[.none,.none] }).objs.size)))) { s₂ with heap:=((s₂.heap.push { cls:=.type "tuple",data:=.seq #[.ref i₁,.ref i₂] }).push { cls:=.type "tuple",data:=.seq #[.none,.none] }).push { cls:=.type "zip",data:=.fields #[.none,.bool false,.bool false,.ref s₂.heap.objs.size,.ref (s₂.heap.push { cls:=.type "tuple",data:=.seq #[.ref i₁,.ref i₂] }).objs.size] } })
    (MeetsIn.of_wp fun A' R s' h=>?_) ⟨rfl,hh,fun i₁ f₁ S₁ Z₁ s₁ i₂ f₂ S₂ Z₂ s₂ m₁ m₂=>?_⟩
  · refine bc fun g=>?_;obtain ⟨hs',hA',hR⟩:=h
    subst hs'
    have mk1:∀ {E':Value→Shared→Prop} {Q':Value→Shared→Prop},(∀ i₁ f₁ S₁ Z₁ s₁,MadeN c i₁ f₁ S₁ xs s' Z s₁ Z₁→Q' (.ref i₁) s₁)→wpAny (model c.prog c.w) A'.in1 (pyIter v₁) Q' E' s':=fun hq'=>
      wpAny_mono (h1 A'.in1 s' Z v₁ hA' I r₁) ((by rintro x s₂ ⟨it,fp,St,Z',hx,m⟩;exact by subst hx;exact hq' it fp St Z' s₂ m)) fun _ _ x=>x.elim
    have mk2:∀ {s₁:Shared} {Z₁:Addr→Prop} {E':Value→Shared→Prop} {Q':Value→Shared→Prop},Inv c s₁ Z₁→Rep c s₁.heap Z₁ v₂ d₂→(∀ i₂ f₂ S₂ Z₂ s₂,MadeN c i₂ f₂ S₂ ys s₁ Z₁ s₂ Z₂→Q' (.ref i₂) s₂)→wpAny (model c.prog c.w) A'.in1 (pyIter v₂) Q' E' s₁:=fun I₁ rr hq'=>
      wpAny_mono (h2 A'.in1 _ _ v₂ hA' I₁ rr) ((by rintro x s₂ ⟨it,fp,St,Z',hx,m⟩;exact by subst hx;exact hq' it fp St Z' s₂ m)) fun _ _ x=>x.elim
    clear hq
    have hsub:=sub_zip
    refine g ?_;wp_walk using mk1
    intro i₁ f₁ S₁ Z₁ s₁ m₁
    wp_walk using mk2 m₁.inv (m₁.evo.rep no_z r₂)
    intro i₂ f₂ S₂ Z₂ s₂ m₂
    wp_walk
    exact ⟨_,rfl,hR i₁ f₁ S₁ Z₁ s₁ i₂ f₂ S₂ Z₂ s₂ m₁ m₂⟩
  · have:=hq i₁ f₁ S₁ Z₁ s₁ i₂ f₂ S₂ Z₂ s₂ m₁ m₂
    skip
    refine ⟨⟨_,Heap.get?_push_size _ rfl,rfl⟩,?_⟩
    rw [q2,q1];exact this
theorem zip_ready {xs ys:List D} {s s₁ s₂:Shared} {Z Z₁ Z₂:Addr→Prop} {i₁ i₂:Addr} {f₁ f₂:List Addr} {S₁ S₂:StT} (m₁:MadeN c i₁ f₁ S₁ xs s Z s₁ Z₁) (m₂:MadeN c i₂ f₂ S₂ ys s₁ Z₁ s₂ Z₂) {h':Heap}
    (hh':h' = ((s₂.heap.push { cls:=.type "tuple",data:=.seq #[.ref i₁,.ref i₂] }).push { cls:=.type "tuple",data:=.seq #[.none,.none] }).push { cls:=.type "zip",data:=.fields #[.none,.bool false,.bool false,.ref s₂.heap.objs.size,.ref (s₂.heap.objs.size + 1)] }) :
    ZipOff (s₂.heap.objs.size + 2) s₂.heap.objs.size (s₂.heap.objs.size + 1) f₁ f₂ ∧
    ZpSt (s₂.heap.objs.size + 2) s₂.heap.objs.size (s₂.heap.objs.size + 1) i₁ i₂ S₁ S₂ (zipD xs ys) Z₂ h' ∧
    Inv c { s₂ with heap:=h' } Z₂∧Evo no s Z { s₂ with heap:=h' } Z₂ ∧
    (∀ b ∈ zfp (s₂.heap.objs.size + 2) s₂.heap.objs.size (s₂.heap.objs.size + 1) f₁ f₂,¬ Z₂ b)∧(∀ b ∈ zfp (s₂.heap.objs.size + 2) s₂.heap.objs.size (s₂.heap.objs.size + 1) f₁ f₂,s.heap.get? b = none):=by
  have hn:({ handled:=none }:Around).handled = none:=rfl
  have live₁:∀ b ∈ f₁,∃ o,s₁.heap.get? b = some o:=(m₁.nx _ hn).ok.live _ _ _ m₁.st
  have live₂:∀ b ∈ f₂,∃ o,s₂.heap.get? b = some o:=(m₂.nx _ hn).ok.live _ _ _ m₂.st
  have live₁':∀ b ∈ f₁,∃ o,s₂.heap.get? b = some o:=fun b hb=>let ⟨o,e⟩:=live₁ b hb;⟨o,m₂.evo.keep b o id e⟩
  have up:∀ b o,s₂.heap.get? b = some o→h'.get? b = some o:=fun b o e=>by rw [hh'];exact Heap.get?_push_of_some _ (Heap.get?_push_of_some _ (Heap.get?_push_of_some _ e))
  have gTO:IsPair h' (s₂.heap.objs.size + 1) .none .none:=by
    have e:=Heap.get?_push_size (s₂.heap.push { cls:=.type "tuple",data:=.seq #[.ref i₁,.ref i₂] }) (o:={ cls:=.type "tuple",data:=.seq #[.none,.none] }) rfl
    rw [Heap.size_push] at e
    rw [hh'];exact Heap.get?_push_of_some _ e
  have gz:IsZp h' (s₂.heap.objs.size + 2) s₂.heap.objs.size (s₂.heap.objs.size + 1) .none false:=by
    have e:=Heap.get?_push_size ((s₂.heap.push { cls:=.type "tuple",data:=.seq #[.ref i₁,.ref i₂] }).push { cls:=.type "tuple",data:=.seq #[.none,.none] })
      (o:={ cls:=.type "zip",data:=.fields #[.none,.bool false,.bool false,.ref s₂.heap.objs.size,.ref (s₂.heap.objs.size + 1)] }) rfl
    rw [Heap.size_push,Heap.size_push] at e
    refine hh'▸?_;exact e
  have nz:∀ k,¬ Z₂ (s₂.heap.objs.size + k):=fun k hz=>by obtain ⟨o,e⟩:=m₂.inv.za _ hz;exact absurd (Heap.lt_size e) (Nat.not_lt.mpr (Nat.le_add_right _ k))
  have fr:∀ k,s.heap.get? (s₂.heap.objs.size + k) = none:=fun k=>m₁.evo.back (m₂.evo.back (by
    induction q:s₂.heap.get? (s₂.heap.objs.size + k) with
    | none=>rfl
    | some o=>exact absurd (Heap.lt_size q) (Nat.not_lt.mpr (Nat.le_add_right _ k))))
  have out:∀ {f:List Addr} (k:Nat),(∀ b ∈ f,∃ o,s₂.heap.get? b = some o)→s₂.heap.objs.size + k ∉ f:=fun k hl h=>absurd ((fun b ⟨o,e⟩=>Heap.lt_size e:∀ b,(∃ o,s₂.heap.get? b = some o)→b < s₂.heap.objs.size) _ (hl _ h)) (Nat.not_lt.mpr (Nat.le_add_right _ k))
  refine ⟨⟨Nat.ne_of_gt (Nat.lt_add_of_pos_right (by decide)),Nat.succ_ne_self _,(Nat.succ_ne_self _).symm,out 2 live₁',out 2 live₂,out 0 live₁',out 0 live₂,out 1 live₁',out 1 live₂,fun b h h2=>?_⟩,⟨.none,false,.none,.none,xs,ys,gz,.inl rfl,(by rw [hh'];exact Heap.get?_push_of_some _ (Heap.get?_push_of_some _ (Heap.get?_push_size _ rfl))),gTO,
    (m₁.nx _ hn).ok.frame _ _ _ _ _ ((m₁.nx _ hn).ok.frame _ _ _ _ _ m₁.st (fun b _ o e=>m₂.evo.keep b o id e) (fun a o _ e=>m₂.evo.keep a o id e) m₂.evo.zmono) (fun b _ o e=>up b o e) (fun a o _ e=>up a o e) (fun _ h=>h),(m₂.nx _ hn).ok.frame _ _ _ _ _ m₂.st (fun b _ o e=>up b o e) (fun a o _ e=>up a o e) (fun _ h=>h),rfl⟩,
    ⟨fun b o e=>up b o (m₂.inv.base b o e),m₂.inv.zb,fun a h=>let ⟨o,e⟩:=m₂.inv.za a h;⟨o,up a o e⟩,m₂.inv.os,m₂.inv.bare⟩,
    (m₁.evo.trans m₂.evo).trans ⟨fun b o _ e=>up b o e,fun _ _ e=>e,fun _ h=>h,fun _ h=>.inl h⟩,fun b hb=>?_,fun b hb=>?_⟩
  · have e:=m₂.fresh b h2
    obtain ⟨o,e'⟩:=live₁ b h
    exact none_some e e'
  · rcases mem_zfp.mp hb with rfl | rfl | rfl | hb | hb
    · exact nz 2
    · exact nz 0
    · exact nz 1
    · intro hz
      rcases m₂.evo.znew b hz with h | h | h
      · exact m₁.off b hb h
      · exact h
      · obtain ⟨o,e⟩:=live₁ b hb;exact none_some h e
    · exact m₂.off b hb
  · rcases mem_zfp.mp hb with rfl | rfl | rfl | hb | hb
    · exact fr 2
    · exact fr 0
    · exact fr 1
    · exact m₁.fresh b hb
    · exact m₁.evo.back (m₂.fresh b hb)
theorem evi_zip (B:Base c) (i:Nat) {e₁ e₂:Expr} {d₁ d₂:D} {xs ys:List D} {elts:List Expr} {k:Nat} {p pos tp:Pos} (hx:sc.names[i]? = some (Str.ofString "zip",NameKind.globalImplicit)) (hg:Glob c (Str.ofString "zip") (.type "zip"))
    (ha:EvEs c n sc ρ [e₁,e₂] [d₁,d₂]) (h1:SrcD c d₁ xs) (h2:SrcD c d₂ ys):EvI c cm n sc ρ (.Call (.Name (Str.ofString "zip") p) [e₁,e₂] [] pos) (.Tuple elts k tp) (zipD xs ys):=by
  refine ⟨fun _ _=>rfl,fun A s Z W env R I F=>?_⟩
  refine call_type_args B i hx hg (by decide +kernel) ha.1 I F (wpAny_mono (ha.2 A s Z W env pos R I F) (?_) fun _ _ x=>x);rintro vs s₁ ⟨Z₁,I₁,e₁,r⟩;refine ⟨I₁.base,?_⟩
  replace r:=r.iQ;induction r with | mk ra r=>?_
  replace r:=r.iQ;induction r with | mk rb r=>?_
  replace r:=r.iE;induction r
  refine call_zip R.h I₁ ra rb h1 h2 fun i₁ f₁ S₁ Z₂ s₂ i₂ f₂ S₂ Z₃ s₃ m₁ m₂=>?_
  refine bc fun g=>?_;obtain ⟨O,st,I',e',off,fr⟩:=zip_ready m₁ m₂ rfl
  refine g ?_;exact (iter_zip (cm:=true) (elts:=elts) (k:=k) (pos:=tp) O (m₁.nx A.in1 R.h) (m₂.nx A.in1 R.h)).self rfl _ _ _ _ st I' ⟨_,_,_,Z₃,rfl,(fun A' hA'=>iter_zip O (m₁.nx A'.in1 hA') (m₂.nx A'.in1 hA')),st,I',e₁.trans e',off,fun b hb=>e₁.back (fr b hb)⟩
noncomputable def rangeD (a:Int):Nat→List D
  | 0=>[]
  | m + 1=>.int a :: rangeD (a + 1) m
theorem rangeD_get (m:Nat):∀ (a:Int) (i:Nat),i < m→(rangeD a m)[i]? = some (.int (a + i)):=by
  induction m with
  | zero=>intro a i h;exact absurd ‹_› (Nat.not_lt_zero _)
  | succ m ih=>
    intro a i h
    induction i with
    | zero=>simp [rangeD]
    | succ i=>
      rw [rangeD,List.getElem?_cons_succ,ih _ _ (by lia)]
      congr 2;push_cast;lia
theorem rangeD_length (a:Int) (m:Nat):(rangeD a m).length = m:=by
  induction m generalizing a with
  | zero=>rfl
  | succ m ih=>rw [rangeD,List.length_cons,ih]
theorem range_size (a b:Int):Builtin.Range.rangeSize a b 1 = (((b - a).toNat:Nat):Int):=by
  rw [rangeSize_one];split<;>lia
theorem range_small {a b:Int} (ha:-(2 ^ 40) < a) (ha':a < 2 ^ 40) (hb:-(2 ^ 40) < b) (hb':b < 2 ^ 40):Builtin.Range.small a b 1 = true:=by
  delta Builtin.Range.small
  rw [range_size]
  simp only [Builtin.Range.rangeFitsLong]
  simp
  lia
theorem made_range {a b:Int} {r:Addr} {t u v:Tok} {tgt:Expr} {A:Around} {s:Shared} {Z:Addr→Prop} (hh:A.handled = none) (I:Inv c s Z) (hr:IsRange s.heap r a b 1 t u v) (hs:Builtin.Range.small a b 1 = true) :
    wpAny (model c.prog c.w) A (pyIter (.ref r)) (fun it s₂=>∃ i fp St Z',it = .ref i∧MadeI c cm tgt i fp St (rangeD a (b - a).toNat) s Z s₂ Z') noE s:=by
  refine wpAny_pyIter_range hr hs ?_
  refine bc fun g=>?_;obtain ⟨I',e',off,fr⟩:=made_new (St:=fun _ _ _=>True) (xs:=[]) (o:={ cls:=.type "range_iterator",data:=.fields #[rawInt a,rawInt (Builtin.Range.rangeSize a b 1),rawInt 1] }) (tk:=s.toks) I rfl
  refine g ?_;refine ⟨_,[s.heap.objs.size],StAt (rangeD a (b - a).toNat) (fun _ _=>True) (fun i h=>IsRangeIter h s.heap.objs.size (a + (i:Nat) * 1) ((((b - a).toNat:Nat):Int) - (i:Nat)) 1) (b - a).toNat,Z,rfl,fun A' hA'=>?_,?_,I',e',off,fr⟩
  · refine iter_of_walks (Walks.range hA' s.heap.objs.size a 1 (b - a).toNat).bound (fun Z h g b hb=>.inl (List.mem_singleton.mp hb)) (fun _ _ _ _ _ _ _=>trivial) (?_) (rangeD_length _ _)
      (fun i h st=>⟨_,st⟩) (fun i v s Q st hq=>go_plain st rfl (by decide) hq);rintro i v Z h _ ⟨hi,t,hv⟩;refine ?_
    subst hv
    exact ⟨_,rangeD_get _ _ _ hi,by rw [Int.mul_one];exact .int⟩
  · refine stAt0 ?_ trivial
    skip
    rw [range_size]
    simpa using Heap.get?_push_size s.heap (o:={ cls:=.type "range_iterator",data:=.fields #[rawInt a,rawInt (((b - a).toNat:Nat):Int),rawInt 1] }) rfl
theorem evi_range1 (B:Base c) (i:Nat) {e tgt:Expr} {b:Int} {p pos:Pos} (hx:sc.names[i]? = some (Str.ofString "range",NameKind.globalImplicit)) (hg:Glob c (Str.ofString "range") (.type "range"))
    (h:EvE c n sc ρ e (.int b)) (hb:-(2 ^ 40) < b) (hb':b < 2 ^ 40) (he:noStar e = true:=by rfl):EvI c cm n sc ρ (.Call (.Name (Str.ofString "range") p) [e] [] pos) tgt (rangeD 0 b.toNat):=by
  refine ⟨fun _ _=>rfl,fun A s Z W env R I F=>?_⟩
  have ha:=evs_cons h (evs_nil (c:=c) (n:=n) (sc:=sc) (ρ:=ρ)) he
  refine call_type_args B i hx hg (by decide +kernel) ha.1 I F (wpAny_mono (ha.2 A s Z W env pos R I F) (?_) fun _ _ x=>x);rintro vs s₁ ⟨Z₁,I₁,e₁,r⟩;refine ⟨I₁.base,?_⟩
  replace r:=r.iQ;induction r with | mk ra r=>?_
  replace r:=r.iE;induction r
  replace ra:=ra.iI;induction ra
  refine call_range_1 ?_
  refine wpAny_mono (made_range (cm:=cm) (tgt:=tgt) R.h (I₁.push0 _ (s₁.toks + 1 + 1)) (IsRange.new ..) (range_small (by decide) (by decide) hb hb')) (?_) fun _ _ x=>x;intro x s₂ q;refine bc fun g=>?_;obtain ⟨it,fp,St,Z₂,hx,m⟩:=q;refine g ?_;refine ⟨it,fp,St,Z₂,hx,?_⟩
  have:=m.from (e₁.trans (Evo.push0 _ _))
  rwa [Int.sub_zero] at this
theorem evi_range2 (B:Base c) (i:Nat) {e₁ e₂ tgt:Expr} {a b:Int} {p pos:Pos} (hx:sc.names[i]? = some (Str.ofString "range",NameKind.globalImplicit)) (hg:Glob c (Str.ofString "range") (.type "range"))
    (ha:EvEs c n sc ρ [e₁,e₂] [.int a,.int b]) (hla:-(2 ^ 40) < a) (hla':a < 2 ^ 40) (hb:-(2 ^ 40) < b) (hb':b < 2 ^ 40):EvI c cm n sc ρ (.Call (.Name (Str.ofString "range") p) [e₁,e₂] [] pos) tgt (rangeD a (b - a).toNat):=by
  refine ⟨fun _ _=>rfl,fun A s Z W env R I F=>?_⟩
  refine call_type_args B i hx hg (by decide +kernel) ha.1 I F (wpAny_mono (ha.2 A s Z W env pos R I F) (?_) fun _ _ x=>x);rintro vs s₁ ⟨Z₁,I₁,e₁,r⟩;refine ⟨I₁.base,?_⟩
  replace r:=r.iQ;induction r with | mk ra r=>?_
  replace r:=r.iQ;induction r with | mk rb r=>?_
  replace r:=r.iE;induction r
  replace ra:=ra.iI;induction ra
  replace rb:=rb.iI;induction rb
  refine call_range_2 ?_
  refine wpAny_mono (made_range (cm:=cm) (tgt:=tgt) R.h (I₁.push0 _ (s₁.toks + 1)) (IsRange.new ..) (range_small hla hla' hb hb')) (?_) fun _ _ x=>x;intro x s₂ q;refine bc fun g=>?_;obtain ⟨it,fp,St,Z₂,hx,m⟩:=q;refine g ?_;refine ⟨it,fp,St,Z₂,hx,?_⟩
  exact m.from (e₁.trans (Evo.push0 _ _))
end
end Mine
end
section
open PySem PySem.W PyProof.Rows
namespace Mine
section
variable {c:Cx} {cm:Bool} {n:Nat} {sc:Scope} {ρ:List (Option Sl)}
noncomputable def itemsD (es:List (Str × D)):List D:=es.map fun e=>.tuple [.str e.1,e.2]
noncomputable def valuesD (es:List (Str × D)):List D:=es.map (·.2)
theorem repE_get {h:Heap} {Z:Addr→Prop} {kvs:List (Str × Value)} {es:List (Str × D)} {i:Nat} {k:Str} {v:Value} (r:RepE c h Z kvs es):kvs[i]? = some (k,v)→∃ d,es[i]? = some (k,d)∧Rep c h Z v d:=
  r.ind (P:=fun kvs es=>∀ i:Nat,kvs[i]? = some (k,v)→∃ d,es[i]? = some (k,d)∧Rep c h Z v d) (fun _ e=>none_some List.getElem?_nil e) (fun a _ ih i=>by
    induction i with
    | zero=>exact fun e=>by cases e;exact ⟨_,rfl,a⟩
    | succ i=>exact ih i) i
inductive ItSt (c:Cx) (it d:Addr) (kvs:List (Str × Value)) (ep:Nat) (es:List (Str × D)) (xs:List D) (Z:Addr→Prop) (h:Heap):Prop
  | mk (i:Nat) (ok ov:Value) (l:i≤kvs.length) (t:IsItemIter h it d i kvs.length ep ok ov) (a:h.DictAt (sk c) d kvs ep) (z:Z d) (r:RepE c h Z kvs es) (e:xs = itemsD (es.drop i)):ItSt c it d kvs ep es xs Z h
theorem iter_items {A:Around} {it d:Addr} {kvs:List (Str × Value)} {ep:Nat} {es:List (Str × D)} {elts:List Expr} {k:Nat} {pos:Pos} (hh:A.handled = none) (hne:d ≠ it):IterP c A false (.Tuple elts k pos) it [it] (ItSt c it d kvs ep es) where
  ok:={
    frame:=fun xs Z Z' h h' ⟨i,ok,ov,hi,hit,hm,zd,rr,hx⟩ h1 h2 h3=>⟨i,ok,ov,hi,h1 it (by simp) _ hit,(by refine bc fun g=>?_;obtain ⟨o,es,ho,r⟩:=hm;exact g (⟨o,es,h2 d o zd ho,r⟩)),h3 _ zd,repE_mono h2 h3 rr,hx⟩
    live:=fun xs Z h ⟨i,ok,ov,hi,hit,_,_,_,_⟩ b hb=>by rw [List.mem_singleton.mp hb];exact ⟨_,hit⟩ }
  turn:=fun x xs s Z ⟨i,ok,ov,hi,hit,hm,zd,rr,hx⟩ I hz=>by
    have hlt:i < kvs.length:=by
      rcases Nat.lt_or_ge i kvs.length with h | h
      · exact h
      · (rw [List.drop_of_length_le (by refine rr.length▸?_;assumption)] at hx;cases hx)
    refine bc fun g=>?_;obtain ⟨kk,v,hkv⟩:∃ kk v,kvs[i]? = some (kk,v):=⟨kvs[i].1,kvs[i].2,by simp [hlt]⟩
    obtain ⟨dd,he,rv⟩:=repE_get rr hkv
    have hlt':i < es.length:=rr.length▸hlt
    have he':es.drop i = (kk,dd) :: es.drop (i + 1):=by
      rw [List.drop_eq_getElem_cons hlt']
      rw [List.getElem?_eq_getElem hlt'] at he
      rw [Option.some.inj he]
    rw [he'] at hx
    obtain ⟨rfl,rfl⟩:x = .tuple [.str kk,dd]∧xs = itemsD (es.drop (i + 1)):=by simpa [itemsD] using hx
    refine g ?_;refine wpAny_pyNext_items_item hit hm hkv fun key h' hkey ho hT hsz hk=>⟨_,rfl,?_⟩
    refine wpAny_letOwnedTupleGo_items ho fun h₂ hit₂ hs₂=>?_
    refine bc fun g=>?_;obtain ⟨t,rfl⟩:=Value.isStrOf_shape hkey
    have hiz:¬ Z it:=hz it (by simp)
    have hTi:s.heap.objs.size ≠ it:=Nat.ne_of_gt (Heap.lt_size hit)
    have k₂:∀ b o,b ∉ [it]→s.heap.get? b = some o→h₂.get? b = some o:=fun b o hb e=>hs₂.extBut b o (by simpa using hb) (hk b o (by simpa using hb) e)
    have hT₂:h₂.get? s.heap.objs.size = some { cls:=.type "tuple",data:=.seq #[.str kk t,v] }:=hs₂.extBut _ _ hTi hT
    have kz:∀ a o,Z a→s.heap.get? a = some o→h₂.get? a = some o:=fun a o za e=>k₂ a o (fun hb=>hz a hb za) e
    refine g ?_;refine ⟨_,((⟨I,Evo.refl,hz⟩:Stepped c [it] s Z s Z).more (fp':=[it]) (h':=h₂) (tk:=s.toks) (fun _ h=>h) hz (fun b hb=>by rw [List.mem_singleton.mp hb];exact ⟨_,hit⟩) k₂ (fresh_size _) ⟨_,hT₂⟩ (by simpa using hTi)),⟨i + 1,.str kk t,v,hlt,hit₂,?_,.inl zd,repE_mono kz (fun _ h=>.inl h) rr,rfl⟩,?_⟩
    · refine bc fun g=>?_;obtain ⟨o,es',ho',r⟩:=hm;refine g ?_;exact ⟨o,es',kz d o zd ho',r⟩
    · exact .tuple (.inr rfl) ⟨_,hT₂,rfl,0,rfl⟩ (.cons .str (.cons (rep_mono kz (fun _ h=>.inl h) rv) .nil))
  done:=fun s Z ⟨i,ok,ov,hi,hit,hm,zd,rr,hx⟩ I hz=>by
    have:kvs[i]? = none:=by
      have:=congrArg List.length hx
      simp [itemsD] at this
      rw [List.getElem?_eq_none];rw [rr.length];lia
    exact wpAny_pyNext_items_end hh hit hm this fun h' hs=>⟨rfl,Z,step_but (tk:=s.toks) I hz fun b o hb e=>hs b o (by simpa using hb) e⟩
  self:=fun h=>nomatch h
noncomputable def PlainB (o:Expr):Prop:=∀ name env,attributeBase o name env (eval o env) = eval o env
theorem evi_items {o:Expr} {es:List (Str × D)} {ap pos tp:Pos} {elts:List Expr} {k:Nat} (h:EvE c n sc ρ o (.dict es)) (hb:PlainB o:=by intro _ _;rfl) (hl:(ap.endLine == pos.line) = true:=by rfl) :
    EvI c false n sc ρ (.Call (.Attribute o (Str.ofString "items") ap) [] [] pos) (.Tuple elts k tp) (itemsD es):=by
  refine ⟨fun _ _=>rfl,fun A s Z W env R I F=>?_⟩
  refine wpAny_Call_method (T:="dict") (id:="dict.items") (hb _ _) rfl hl PySem.F.plainAttrs_dict PySem.F.slot_dict_items PySem.F.type_dict_items (Gives.to (h A s Z W env R I F) fun v s₁ Z₁ I₁ e₁ r₁=>?_)
  replace r₁:=r₁.iD;induction r₁ with | mk zd hs l rr=>?_
  rename_i d kvs
  refine ⟨l.typeIs,(Heap.DictOf.mapOf l).noDict,?_⟩
  skip
  refine method_meetsIn PySem.F.slot_dict_items PySem.F.entry_dict_items rfl (PySem.evalArgs_none ⟨rfl,l.typeIs,PySem.F.args_dict_items_1 _,_,meets_dict_items (sk c) d hs,⟨kvs,l⟩,?_⟩)
  obtain ⟨ep,hm⟩:=dictAt_of l
  have hd:d ≠ s₁.heap.objs.size:=fun q=>by obtain ⟨o,e⟩:=I₁.za d zd;rw [q,fresh_size] at e;cases e
  skip
  have I₂:=I₁.push0 { cls:=.type "dict_items",data:=.fields #[.ref d] } s₁.toks
  have e₂:Evo no s₁ Z₁ { s₁ with heap:=s₁.heap.push { cls:=.type "dict_items",data:=.fields #[.ref d] },toks:=s₁.toks } Z₁:=Evo.push0 _ _
  refine wpAny_pyIter_items (knd:=sk c) (d:=d) (kvs:=kvs) (ep:=ep) ⟨_,Heap.get?_push_size _ rfl,rfl,rfl⟩ (dictAt_push hm _) ?_
  generalize hH:s₁.heap.push { cls:=.type "dict_items",data:=.fields #[.ref d] } = H at I₂ e₂ ⊢
  refine bc fun g=>?_;obtain ⟨I',e',off,fr⟩:=made_new (St:=fun _ _ _=>True) (xs:=[]) (o:={ cls:=.type "dict_itemiterator",data:=.fields #[.none,.bool false,.ref d,.int 0 0,.int kvs.length 0,.int ep 0,.none,.none] }) (tk:=s₁.toks) I₂ rfl
  have m:MadeI c false (.Tuple elts k tp) H.objs.size [H.objs.size] (ItSt c H.objs.size d kvs ep es) (itemsD es) { s₁ with heap:=H,toks:=s₁.toks } Z₁
      { s₁ with heap:=H.push { cls:=.type "dict_itemiterator",data:=.fields #[.none,.bool false,.ref d,.int 0 0,.int kvs.length 0,.int ep 0,.none,.none] },toks:=s₁.toks } Z₁:=
    ⟨fun A' hA'=>iter_items hA' (fun q=>by obtain ⟨o,e⟩:=I₂.za d zd;rw [show Shared.heap _ = H from rfl,q,fresh_size] at e;cases e),⟨0,.none,.none,Nat.zero_le _,Heap.get?_push_size _ rfl,dictAt_push (by refine hH▸?_;exact dictAt_push hm _) _,zd,e'.repE no_z (e₂.repE no_z rr),rfl⟩,I',e',off,fr⟩
  refine g ?_;exact ⟨_,_,_,_,rfl,m.from (e₁.trans e₂)⟩
theorem val_els {a:Addr} {kvs:List (Str × Value)} {es:List (Str × D)}:ElsAt c (fun i v=>∃ k,kvs[i]? = some (k,v)) (fun Z h=>Z a∧RepE c h Z kvs es) (valuesD es):=fun i v Z h g ⟨k,hk⟩=>by
  obtain ⟨d,hd,r⟩:=repE_get g.2 hk
  exact ⟨d,by delta valuesD;rw [List.getElem?_map,hd];rfl,r⟩
theorem evi_values {o tgt:Expr} {es:List (Str × D)} {ap pos:Pos} (h:EvE c n sc ρ o (.dict es)) (hb:PlainB o:=by intro _ _;rfl) (hl:(ap.endLine == pos.line) = true:=by rfl) :
    EvI c cm n sc ρ (.Call (.Attribute o (Str.ofString "values") ap) [] [] pos) tgt (valuesD es):=by
  refine ⟨fun _ _=>rfl,fun A s Z W env R I F=>?_⟩
  refine wpAny_Call_method (T:="dict") (id:="dict.values") (hb _ _) rfl hl PySem.F.plainAttrs_dict PySem.F.slot_dict_values PySem.F.type_dict_values (Gives.to (h A s Z W env R I F) fun v s₁ Z₁ I₁ e₁ r₁=>?_)
  replace r₁:=r₁.iD;induction r₁ with | mk zd hs l rr=>?_
  rename_i d kvs
  refine ⟨l.typeIs,(Heap.DictOf.mapOf l).noDict,?_⟩
  skip
  refine method_meetsIn PySem.F.slot_dict_values PySem.F.entry_dict_values rfl (PySem.evalArgs_none ⟨rfl,l.typeIs,PySem.F.args_dict_values_1 _,_,meets_dict_values (sk c) d hs,⟨kvs,l⟩,?_⟩)
  refine bc fun g=>?_;obtain ⟨ep,hm⟩:=dictAt_of l
  refine g ?_;skip
  have I₂:=I₁.push0 { cls:=.type "dict_values",data:=.fields #[.ref d] } s₁.toks
  have e₂:Evo no s₁ Z₁ { s₁ with heap:=s₁.heap.push { cls:=.type "dict_values",data:=.fields #[.ref d] },toks:=s₁.toks } Z₁:=Evo.push0 _ _
  refine wpAny_pyIter_values (knd:=sk c) (d:=d) (kvs:=kvs) (ep:=ep) ⟨_,Heap.get?_push_size _ rfl,rfl,rfl⟩ (dictAt_push hm _) ?_
  generalize hH:s₁.heap.push { cls:=.type "dict_values",data:=.fields #[.ref d] } = H at I₂ e₂ ⊢
  refine bc fun g=>?_;obtain ⟨I',e',off,fr⟩:=made_new (St:=fun _ _ _=>True) (xs:=[]) (o:={ cls:=.type "dict_valueiterator",data:=.fields #[.ref d,.int 0 0,.int kvs.length 0,.int ep 0] }) (tk:=s₁.toks) I₂ rfl
  have m:MadeI c cm tgt H.objs.size [H.objs.size] (StAt (valuesD es) (fun Z h=>Z d∧RepE c h Z kvs es) (fun i h=>h.IsValIter H.objs.size d i kvs.length ep∧h.DictAt (sk c) d kvs ep) kvs.length) (valuesD es) { s₁ with heap:=H,toks:=s₁.toks } Z₁
      { s₁ with heap:=H.push { cls:=.type "dict_valueiterator",data:=.fields #[.ref d,.int 0 0,.int kvs.length 0,.int ep 0] },toks:=s₁.toks } Z₁:=
    ⟨fun A' hA'=>iter_of_walks (Walks.dictValues hA' H.objs.size d (fun q=>by obtain ⟨o,e⟩:=I₂.za d zd;rw [show Shared.heap _ = H from rfl,q,fresh_size] at e;cases e) kvs ep) (fun Z h g b hb=>by
        rcases List.mem_cons.mp hb with rfl | hb
        · exact .inl rfl
        · rw [List.mem_singleton.mp hb];exact .inr g.1) (fun _ _ _ _ g h1 h2=>⟨h2 _ g.1,repE_mono h1 h2 g.2⟩) (val_els (a:=d)) (by rw [rr.length];simp [valuesD]) (fun i h st=>(by refine bc fun g=>?_;obtain ⟨o,ho,_⟩:=st.1;exact g (⟨o,ho⟩)))
        (fun i v s Q st hq=>(by refine bc fun g=>?_;obtain ⟨o,ho,hc,_⟩:=st.1;exact g (go_plain ho hc (by decide) hq))),
      stAt0 ⟨⟨_,Heap.get?_push_size _ rfl,rfl,rfl⟩,dictAt_push (by refine hH▸?_;exact dictAt_push hm _) _⟩ ⟨zd,e'.repE no_z (e₂.repE no_z rr)⟩,I',e',off,fr⟩
  refine g ?_;exact ⟨_,_,_,_,rfl,m.from (e₁.trans e₂)⟩
end
end Mine
end
section
open PySem PySem.W PyProof.Rows
namespace Mine
section
variable {c:Cx} {n:Nat} {sc:Scope} {ρ:List (Option Sl)}
noncomputable def NewSl (c:Cx) (h:Heap) (Z W:Addr→Prop) (v:Value):Sl→Prop
  | .val d=>Rep c h Z v d
  | .own d=>∃ a,v = .ref a∧¬ W a∧¬ Z a∧(∃ o,h.get? a = some o)∧OwnRep c h Z a d
noncomputable def Wadd (W:Addr→Prop) (v:Value):Sl→Addr→Prop
  | .val _=>W
  | .own _=>fun a=>W a∨v = .ref a
theorem Wadd.old {W:Addr→Prop} {v:Value} {sl:Sl} {a:Addr} (h:W a):Wadd W v sl a:=by induction sl<;>first | exact h | exact .inl h
theorem inv_w {W:Addr→Prop} {s:Shared} {Z:Addr→Prop} {h':Heap} {tk:Nat} (I:Inv c s Z) (hz:∀ a,W a→¬ Z a) (hk:∀ b o,¬ W b→s.heap.get? b = some o→h'.get? b = some o):Inv c { s with heap:=h',toks:=tk } Z:=
  ⟨fun b o e=>hk b o (fun w=>hz b w (I.zb b o e)) (I.base b o e),I.zb,fun a h=>(by refine bc fun g=>?_;obtain ⟨o,e⟩:=I.za a h;exact g (⟨o,hk a o (fun w=>hz a w h) e⟩)),I.os,I.bare⟩
theorem evo_w {W:Addr→Prop} {s:Shared} {Z:Addr→Prop} {h':Heap} {tk:Nat} (hk:∀ b o,¬ W b→s.heap.get? b = some o→h'.get? b = some o):Evo W s Z { s with heap:=h',toks:=tk } Z:=
  ⟨hk,fun _ _ e=>e,fun _ h=>h,fun _ h=>.inl h⟩
theorem SlRep.chg {h h':Heap} {Z W W':Addr→Prop} {v:Value} {sl:Sl} {x:Addr} (r:SlRep c h Z W v sl) (hx:¬ Z x) (hk:∀ b o,b ≠ x→h.get? b = some o→h'.get? b = some o) (hw:∀ a,W a→W' a) (hv:∀ d,sl = .own d→v ≠ .ref x):SlRep c h' Z W' v sl:=by
  induction sl with
  | val d=>exact rep_mono (fun a o z e=>hk a o (fun q=>hx (q▸z)) e) (fun _ h=>h) r
  | own d=>
    obtain ⟨a,rfl,wa,ho⟩:=r
    exact ⟨a,rfl,hw a wa,ho.mono (fun o e=>hk a o (fun q=>hv d rfl (by exact q▸rfl)) e) (fun a o z e=>hk a o (fun q=>hx (q▸z)) e) fun _ h=>h⟩
noncomputable def Loc (sc:Scope) (env:Env) (N:Nat→Prop):Addr→Prop:=fun a=>a = env.locals∨∃ i x k,sc.names[i]? = some (x,k)∧N i∧env.cells.lookup x = some a
theorem Loc.w {s:Shared} {Z W:Addr→Prop} {env:Env} (F:Fr c sc env ρ s Z W) {N:Nat→Prop} {a:Addr} (h:Loc sc env N a):W a:=by
  rcases h with rfl | ⟨i,x,k,_,_,h⟩
  · exact F.wl
  · exact F.cw x a h
theorem Loc.z {s:Shared} {Z W:Addr→Prop} {env:Env} (F:Fr c sc env ρ s Z W) {N:Nat→Prop} {a:Addr} (h:Loc sc env N a):¬ Z a:=F.zw a (h.w F)
structure Stp (c:Cx) (sc:Scope) (env:Env) (ρ':List (Option Sl)) (X:Addr→Prop) (s:Shared) (Z W:Addr→Prop) (s':Shared) (Z' W':Addr→Prop):Prop where
  inv:Inv c s' Z'
  evo:Evo X s Z s' Z'
  fr:Fr c sc env ρ' s' Z' W'
  wnew:∀ a,W' a→W a∨s.heap.get? a = none
theorem Evo.gone {X:Addr→Prop} {s s':Shared} {Z Z':Addr→Prop} (e:Evo X s Z s' Z') {a:Addr} (hx:¬ X a) (h:s'.heap.get? a = none):s.heap.get? a = none:=by
  induction q:s.heap.get? a with
  | none=>rfl
  | some o=>exact none_some h (e.keep a o hx q)
theorem Stp.trans {env:Env} {ρ₁ ρ₂:List (Option Sl)} {X X₁:Addr→Prop} {s s₁ s₂:Shared} {Z W Z₁ W₁ Z₂ W₂:Addr→Prop} (a:Stp c sc env ρ₁ X s Z W s₁ Z₁ W₁) (b:Stp c sc env ρ₂ X₁ s₁ Z₁ W₁ s₂ Z₂ W₂) (hx:∀ x,X₁ x→X x∨s.heap.get? x = none)
    (hl:∀ x,X x→∃ o,s₁.heap.get? x = some o):Stp c sc env ρ₂ X s Z W s₂ Z₂ W₂:=
  ⟨b.inv,a.evo.trans' b.evo hx,b.fr,fun x h=>by
    rcases b.wnew x h with h | h
    · exact a.wnew x h
    · refine .inr (a.evo.gone (fun q=>?_) h)
      obtain ⟨o,e⟩:=hl x q
      exact none_some h e⟩
theorem store_slot {A:Around} {s:Shared} {Z W:Addr→Prop} {env:Env} (F:Fr c sc env ρ s Z W) {i:Nat} {x:Str} {k:NameKind} (hx:sc.names[i]? = some (x,k)) (hk:k = .local∨k = .cell) (hlen:i < ρ.length) {v:Value} {sl:Sl}
    (hsl:NewSl c s.heap Z W v sl) {Q:Unit→Shared→Prop}
    (h:∀ h' tk,(∀ b o,¬ Loc sc env (· = i) b→s.heap.get? b = some o→h'.get? b = some o)→Fr c sc env (ρ.set i (some sl)) { s with heap:=h',toks:=tk } Z (Wadd W v sl)→Q () { s with heap:=h',toks:=tk }) :
    wpAny (model c.prog c.w) A (storeName env x v) Q noE s:=by
  have hkf:env.scope.kind = .function:=F.esc▸F.kind
  have fin:∀ (a:Addr) (h':Heap) (tk:Nat),W a→(∀ b o,b ≠ a→s.heap.get? b = some o→h'.get? b = some o)→(∃ o,h'.get? a = some o)→(∃ m,h'.Ns env.locals m) →
      (∀ (j:Nat) (y:Str) (l:NameKind),sc.names[j]? = some (y,l)→(l = .cell∨l = .free)→∃ a' ov,env.cells.lookup y = some a'∧h'.IsCell a' ov∧W a') →
      HasVal env h' x k v→(∀ (j:Nat) (y:Str) (l:NameKind) (u:Value),sc.names[j]? = some (y,l)→j ≠ i→(HasVal env s.heap y l u ↔ HasVal env h' y l u)) →
      (a = env.locals∨∃ y,env.cells.lookup y = some a)→Loc sc env (· = i) a→Q () { s with heap:=h',toks:=tk }:=by
    intro a h' tk wa k' la hns hcell hv hoth hwho hloc
    have za:¬ Z a:=F.zw a wa
    have notOwn:∀ (j:Nat) (y:Str) (l:NameKind) (d:D) (u:Value),sc.names[j]? = some (y,l)→ρ[j]? = some (some (.own d))→HasVal env s.heap y l u→u ≠ .ref a:=by
      intro j y l d u h1 h2 h3 hu
      subst hu
      have:=F.ownL j y l d a h1 h2 h3
      rcases hwho with rfl | ⟨y',hy'⟩
      · exact this.1 rfl
      · exact this.2 y' a hy' rfl
    have newNe:∀ d b,sl = .own d→v = .ref b→b ≠ a:=fun d b h1 h2 hb=>by
      subst h1;obtain ⟨b',e,nw,_⟩:=hsl
      (rw [h2] at e;cases e);exact nw (hb▸wa)
    have setj:∀ j:Nat,(ρ.set i (some sl))[j]? = if j = i then some (some sl) else ρ[j]?:=fun j=>by
      rw [List.getElem?_set]
      by_cases hj:j = i
      · cases hj;simp [hlen]
      · rw [if_neg (Ne.symm hj),if_neg hj]
    refine h h' tk (fun b o wb e=>k' b o (fun q=>wb (q▸hloc)) e) ⟨F.esc,F.kind,F.glob,F.bu,F.nodup,hns,Wadd.old F.wl,?_,?_,?_,F.apart,F.lc,fun y b hb=>Wadd.old (F.cw y b hb),?_,?_,?_⟩
    · intro b hb
      refine bc fun g=>?_;cases sl with
      | val d=>refine g ?_;exact F.zw b hb
      | own d=>
        rcases hb with hb | hb
        · refine g ?_;exact F.zw b hb
        · obtain ⟨b',e,_,nz,_⟩:=hsl
          refine g ?_;(rw [hb] at e;cases e);exact nz
    · intro b hb
      have old:W b→∃ o,h'.get? b = some o:=fun hb=>by
        by_cases hba:b = a
        · exact hba▸la
        · obtain ⟨o,e⟩:=F.wa b hb;exact ⟨o,k' b o hba e⟩
      cases sl with
      | val d=>exact old hb
      | own d=>
        rcases hb with hb | hb
        · exact old hb
        · obtain ⟨b',e,_,nz,⟨o,eo⟩,_⟩:=id hsl
          (rw [hb] at e;cases e)
          exact ⟨o,k' _ o (newNe d _ rfl hb) eo⟩
    · intro j y l h1 h2
      refine bc fun g=>?_;obtain ⟨a',ov,e1,e2,e3⟩:=hcell j y l h1 h2
      refine g ?_;exact ⟨a',ov,e1,e2,Wadd.old e3⟩
    · intro j y l sl' h1 h2
      rw [setj] at h2
      by_cases hj:j = i
      · cases some_eq (if_pos hj) h2
        cases hj
        cases some_eq hx h1
        refine ⟨v,hv,?_⟩
        refine bc fun g=>?_;induction sl with
        | val d=>refine g ?_;exact rep_mono (fun b o z e=>k' b o (fun q=>za (q▸z)) e) (fun _ h=>h) hsl
        | own d=>
          obtain ⟨b,e,nw,nz,_,ho⟩:=id hsl
          refine g ?_;refine ⟨b,e,.inr e,ho.mono (fun o eo=>k' b o (newNe d b rfl e) eo) (fun b o z e=>k' b o (fun q=>za (q▸z)) e) fun _ h=>h⟩
      · rw [if_neg hj] at h2
        obtain ⟨u,hu,r⟩:=F.slot j y l sl' h1 h2
        exact ⟨u,(hoth j y l u h1 hj).mp hu,r.chg za k' (fun b hb=>Wadd.old hb) fun d hd=>notOwn j y l d u h1 (hd▸h2) hu⟩
    · intro j j' y y' l l' d d' b b' h1 h1' hjj h2 h2' h3 h3'
      rw [setj] at h2 h2'
      by_cases hj:j = i
      · cases some_eq (if_pos hj) h2
        have hj':j' ≠ i:=fun q=>hjj (hj.trans q.symm)
        rw [if_neg hj'] at h2'
        subst hj
        cases some_eq hx h1
        have e:=HasVal.uniq h3 hv
        obtain ⟨u,hu,b'',hb'',wb'',_⟩:=F.slot j' y' l' _ h1' h2'
        have e':=HasVal.uniq h3' ((hoth j' y' l' u h1' hj').mp hu)
        obtain ⟨b0,eb0,nw,_⟩:=hsl
        intro hbb
        rw [← e] at eb0;cases eb0
        rw [← e'] at hb'';cases hb''
        exact nw (hbb▸wb'')
      · rw [if_neg hj] at h2
        refine bc fun g=>?_;by_cases hj':j' = i
        · cases some_eq (if_pos hj') h2'
          subst hj'
          cases some_eq hx h1'
          have e:=HasVal.uniq h3' hv
          obtain ⟨u,hu,b'',hb'',wb'',_⟩:=F.slot j y l _ h1 h2
          have e':=HasVal.uniq h3 ((hoth j y l u h1 hj).mp hu)
          obtain ⟨b0,eb0,nw,_⟩:=hsl
          refine g ?_;intro hbb
          rw [← e] at eb0;cases eb0
          rw [← e'] at hb'';cases hb''
          exact nw (hbb▸wb'')
        · refine g ?_;rw [if_neg hj'] at h2'
          exact F.ownA j j' y y' l l' d d' b b' h1 h1' hjj h2 h2' ((hoth j y l _ h1 hj).mpr h3) ((hoth j' y' l' _ h1' hj').mpr h3')
    · intro j y l d b h1 h2 h3
      rw [setj] at h2
      refine bc fun g=>?_;by_cases hj:j = i
      · cases some_eq (if_pos hj) h2
        cases hj
        cases some_eq hx h1
        have e:=HasVal.uniq h3 hv
        obtain ⟨b0,eb0,nw,_⟩:=hsl
        rw [← e] at eb0;cases eb0
        refine g ?_;exact ⟨fun q=>nw (q▸F.wl),fun y' b' hy' q=>nw (q▸F.cw y' b' hy')⟩
      · rw [if_neg hj] at h2
        refine g ?_;exact F.ownL j y l d b h1 h2 ((hoth j y l _ h1 hj).mpr h3)
  refine bc fun g=>?_;rcases hk with rfl | rfl
  · -- a local
    obtain ⟨m,hm⟩:=F.ns
    refine g ?_;refine wpAny_storeName_local (F.kindOf hx) hm (fun h' hn hs=>?_) (by refine hkf▸?_;rfl)
    refine fin env.locals h' (s.toks + 1) F.wl (fun b o hb e=>hs.extBut b o hb e) ((by refine bc fun g=>?_;obtain ⟨o,_,_,e,_⟩:=hn;exact g (⟨o,e⟩))) ⟨_,hn⟩ (fun j y l h1 h2=>?_) ⟨_,hn,by simp⟩ (fun j y l u h1 hj=>?_) (.inl rfl) (.inl rfl)
    · obtain ⟨a',ov,e1,e2,e3⟩:=F.cell j y l h1 h2
      exact ⟨a',ov,e1,e2.sameBut hs (F.lc y a' e1),e3⟩
    · have hyx:y ≠ x:=fun q=>hj (F.nodup j i x l .local (by refine q▸?_;exact h1) hx)
      have samecell:∀ a',env.cells.lookup y = some a'→(s.heap.IsCell a' (some u) ↔ h'.IsCell a' (some u)):=fun a' e=>by
        have heq:h'.get? a' = s.heap.get? a':=hs.2 a' (F.lc y a' e)
        delta Heap.IsCell;rw [heq]
      induction l<;>first | exact Iff.rfl | skip
      · constructor
        · rintro ⟨m₁,hm₁,e⟩
          have:m₁ y = m y:=by
            obtain ⟨o,es,ep,a1,a2,a3,a4⟩:=hm
            obtain ⟨o',es',ep',b1,b2,b3,b4⟩:=hm₁
            cases some_eq a1 b1
            (rw [a2] at b2;cases b2)
            rw [← a4,← b4]
          exact ⟨_,hn,by simp only [hyx,if_false];rw [← this];exact e⟩
        · rintro ⟨m₁,hm₁,e⟩
          refine ⟨m,hm,?_⟩
          obtain ⟨o,es,ep,a1,a2,a3,a4⟩:=hn
          obtain ⟨o',es',ep',b1,b2,b3,b4⟩:=hm₁
          cases some_eq a1 b1
          (rw [a2] at b2;cases b2)
          have:=a4 y
          rw [b4 y,e] at this
          simpa [hyx] using this.symm
      all_goals
        constructor
        · rintro ⟨a',e,hc⟩;exact ⟨a',e,(samecell a' e).mp hc⟩
        · rintro ⟨a',e,hc⟩;exact ⟨a',e,(samecell a' e).mpr hc⟩
  · -- a cell
    obtain ⟨a,ov,ha,hc,wa⟩:=F.cell i x .cell hx (.inl rfl)
    refine g ?_;refine wpAny_storeName_cell hkf (F.kindOf hx) ha hc fun h' hc' hs=>?_
    have hal:=F.lc x a ha
    obtain ⟨m,hm⟩:=F.ns
    have oth:∀ y a',env.cells.lookup y = some a'→y ≠ x→a' ≠ a:=fun y a' e hy q=>hy (F.apart y x a (q▸e) ha)
    have key:=fin a h' s.toks wa (fun b o hb e=>hs.extBut b o hb e) ((by refine bc fun g=>?_;obtain ⟨o,e,_⟩:=hc';exact g (⟨o,e⟩))) ⟨m,(hm.sameBut hs hal.symm)⟩ (fun j y l h1 h2=>?_) ⟨a,ha,hc'⟩ (fun j y l u h1 hj=>?_) (.inr ⟨x,ha⟩) (.inr ⟨i,x,_,hx,rfl,ha⟩)
    · exact key
    · by_cases hy:y = x
      · cases hy;exact ⟨a,_,ha,hc',wa⟩
      · obtain ⟨a',ov',e1,e2,e3⟩:=F.cell j y l h1 h2
        exact ⟨a',ov',e1,e2.sameBut hs (oth y a' e1 hy),e3⟩
    · have samecell:∀ a',env.cells.lookup y = some a'→(s.heap.IsCell a' (some u) ↔ h'.IsCell a' (some u)):=fun a' e=>by
        delta Heap.IsCell;rw [(hs.2 a' (oth y a' e (fun q=>hj (F.nodup j i x l .cell (by refine q▸?_;exact h1) hx))))]
      have samens:∀ m₁:Str→Option Value,s.heap.Ns env.locals m₁ ↔ h'.Ns env.locals m₁:=fun m₁=>by
        delta Heap.Ns;rw [(hs.2 _ hal.symm)]
      induction l<;>first | exact Iff.rfl | skip
      · constructor
        · rintro ⟨m₁,hm₁,e⟩;exact ⟨m₁,(samens m₁).mp hm₁,e⟩
        · rintro ⟨m₁,hm₁,e⟩;exact ⟨m₁,(samens m₁).mpr hm₁,e⟩
      all_goals
        constructor
        · rintro ⟨a',e,hc⟩;exact ⟨a',e,(samecell a' e).mp hc⟩
        · rintro ⟨a',e,hc⟩;exact ⟨a',e,(samecell a' e).mpr hc⟩
end
end Mine
end
section
open PySem PySem.W PyProof.Rows
namespace Mine
section
variable {prog:Program} {w:World} {A:Around} {E:Value→Shared→Prop} {s:Shared}
end
section
variable {c:Cx} {n:Nat} {sc:Scope} {ρ:List (Option Sl)}
noncomputable def Asg (c:Cx) (n:Nat) (sc:Scope) (N:Nat→Prop) (tgt:Expr) (d:D) (ρ ρ':List (Option Sl)):Prop:=
  ∀ A s Z W env v,Room A n→Inv c s Z→Fr c sc env ρ s Z W→Rep c s.heap Z v d→wpAny (model c.prog c.w) A (assign tgt env v) (fun _ s'=>∃ Z' W',Stp c sc env ρ' (Loc sc env N) s Z W s' Z' W') noE s
noncomputable def AsgEs (c:Cx) (n:Nat) (sc:Scope) (N:Nat→Prop) (tgts:List Expr) (ds:List D) (ρ ρ':List (Option Sl)):Prop:=
  tgts.all noStar = true∧tgts.length = ds.length∧∀ A s Z W env vs,Room A n→Inv c s Z→Fr c sc env ρ s Z W→Reps c s.heap Z vs ds →
    wpAny (model c.prog c.w) A (assignInOrder ((assignEach tgts env).map (·.2)) vs) (fun _ s'=>∃ Z' W',Stp c sc env ρ' (Loc sc env N) s Z W s' Z' W') noE s
theorem Loc.mono {N N':Nat→Prop} {env:Env} (h:∀ i,N i→N' i) {a:Addr} (x:Loc sc env N a):Loc sc env N' a:=by
  rcases x with rfl | ⟨i,x,k,h1,h2,h3⟩
  · exact .inl rfl
  · exact .inr ⟨i,x,k,h1,h i h2,h3⟩
theorem stp_loc {N:Nat→Prop} {env:Env} {s:Shared} {Z W W':Addr→Prop} {ρ':List (Option Sl)} {h':Heap} {tk:Nat} (I:Inv c s Z) (F:Fr c sc env ρ s Z W) (hk:∀ b o,¬ Loc sc env N b→s.heap.get? b = some o→h'.get? b = some o)
    (F':Fr c sc env ρ' { s with heap:=h',toks:=tk } Z W') (hn:∀ a,W' a→W a∨s.heap.get? a = none):Stp c sc env ρ' (Loc sc env N) s Z W { s with heap:=h',toks:=tk } Z W':=
  ⟨inv_w (W:=Loc sc env N) I (fun _ h=>h.z F) hk,evo_w hk,F',hn⟩
theorem Stp.grow {env:Env} {s:Shared} {Z W:Addr→Prop} {s':Shared} {Z':Addr→Prop} {X:Addr→Prop} (I:Inv c s' Z') (e:Evo no s Z s' Z') (F:Fr c sc env ρ s Z W):Stp c sc env ρ X s Z W s' Z' W:=
  ⟨I,e.wider fun _ h=>h.elim,F.grow e,fun _ h=>.inl h⟩
theorem Fr.live {env:Env} {s:Shared} {Z W:Addr→Prop} (F:Fr c sc env ρ s Z W) {N:Nat→Prop}:∀ x,Loc sc env N x→∃ o,s.heap.get? x = some o:=fun x h=>F.wa x (h.w F)
theorem asg_name {N:Nat→Prop} (i:Nat) {x:Str} {k:NameKind} {d:D} {pos:Pos} (hx:sc.names[i]? = some (x,k)) (hN:N i) (hk:k = .local∨k = .cell:=by decide) (hl:i < ρ.length:=by first | decide | exact Nat.le_of_ble_eq_true rfl) :
    Asg c n sc N (.Name x pos) d ρ (ρ.set i (some (.val d))):=by
  intro A s Z W env v R I F r
  refine wpAny_assign_Name (store_slot F hx hk hl (sl:=.val d) r fun h' tk hk' F'=>?_)
  exact ⟨Z,W,stp_loc I F (fun b o hb=>hk' b o fun q=>hb (q.mono fun j hj=>hj▸hN)) F' fun _ h=>.inl h⟩
theorem asgs_nil {N:Nat→Prop}:AsgEs c n sc N [] [] ρ ρ:=⟨rfl,rfl,fun A s Z W env vs _ I F r=>by
  (replace r:=r.iE;induction r);exact wpAny_pure ⟨Z,W,Stp.grow I Evo.refl F⟩⟩
theorem assignEach_cons {e:Expr} {es:List Expr} {env:Env} (h:noStar e = true):assignEach (e :: es) env = (false,assign e env) :: assignEach es env:=by
  cases e<;>first | rfl | (cases h;done)
theorem asgs_cons {N:Nat→Prop} {t:Expr} {ts:List Expr} {d:D} {ds:List D} {ρ₁ ρ₂:List (Option Sl)} (h:Asg c n sc N t d ρ ρ₁) (hr:AsgEs c n sc N ts ds ρ₁ ρ₂) (he:noStar t = true:=by rfl):AsgEs c n sc N (t :: ts) (d :: ds) ρ ρ₂:=by
  refine ⟨by rw [List.all_cons,he,hr.1];rfl,by simp [hr.2.1],fun A s Z W env vs R I F r=>?_⟩
  replace r:=r.iQ;induction r with | mk rv rs=>?_
  rename_i v vs
  rw [assignEach_cons he]
  skip
  refine wpAny_bind (wpAny_holding (wpAny_mono (h A s Z W env v R I F rv) (?_) fun _ _ x=>x));intro _ s₁ q;refine bc fun g=>?_;obtain ⟨Z₁,W₁,S₁⟩:=q;refine g (?_)
  refine wpAny_mono (hr.2.2 A s₁ Z₁ W₁ env vs R S₁.inv S₁.fr (S₁.evo.reps (fun _ h=>h.z F) rs)) (?_) fun _ _ x=>x;intro _ s₂ q;refine bc fun g=>?_;obtain ⟨Z₂,W₂,S₂⟩:=q;refine g (?_)
  exact ⟨Z₂,W₂,S₁.trans S₂ (fun _ h=>.inl h) S₁.fr.live⟩
theorem assignEach_len {es:List Expr} {env:Env} (h:es.all noStar = true):(assignEach es env).length = es.length:=by
  induction es with
  | nil=>rfl
  | cons e es ih=>rw [assignEach_cons (band h).1];exact congrArg (· + 1) (ih (band h).2)
theorem assignEach_star {es:List Expr} {env:Env} (h:es.all noStar = true):(assignEach es env).findIdx? (·.1) = none:=by
  induction es with
  | nil=>rfl
  | cons e es ih=>rw [assignEach_cons (band h).1,List.findIdx?_cons,ih (band h).2];rfl
theorem asg_tuple {N:Nat→Prop} {ts:List Expr} {ds:List D} {ρ':List (Option Sl)} {k:Nat} {pos:Pos} (h:AsgEs c n sc N ts ds ρ ρ'):Asg c n sc N (.Tuple ts k pos) (.tuple ds) ρ ρ':=by
  intro A s Z W env v R I F r
  replace r:=r.iT;induction r with | mk z l rr=>?_
  rename_i a vs
  refine wpAny_assign_Tuple R.h l (by rw [assignEach_len h.1,h.2.1,← rr.length];rfl) (assignEach_star h.1) fun h' hk=>?_
  have hko:∀ b o,s.heap.get? b = some o→h'.get? b = some o:=fun b o e=>hk b o (fun q=>by rw [q,fresh_size] at e;cases e) e
  have e₁:Evo no s Z { s with heap:=h' } Z:=evo_w (tk:=s.toks) fun b o _ e=>hko b o e
  have I₁:Inv c { s with heap:=h' } Z:=inv_w (W:=no) (tk:=s.toks) I (fun _ h=>h.elim) fun b o _ e=>hko b o e
  refine wpAny_mono (h.2.2 A _ Z W env vs R I₁ (F.grow e₁) (by exact e₁.reps no_z rr)) (?_) fun _ _ x=>x;intro _ s₂ q;refine bc fun g=>?_;obtain ⟨Z₂,W₂,S₂⟩:=q;refine g (?_)
  exact ⟨Z₂,W₂,(Stp.grow (X:=Loc sc env N) I₁ e₁ F).trans S₂ (fun _ h=>.inl h) (F.grow e₁).live⟩
noncomputable def Lss (ρ' ρ:List (Option Sl)):Prop:=∀ (i:Nat) (sl:Sl),ρ'[i]? = some (some sl)→ρ[i]? = some (some sl)
theorem Fr.less {env:Env} {s:Shared} {Z W:Addr→Prop} {ρ':List (Option Sl)} (F:Fr c sc env ρ s Z W) (h:Lss ρ' ρ):Fr c sc env ρ' s Z W:=
  ⟨F.esc,F.kind,F.glob,F.bu,F.nodup,F.ns,F.wl,F.zw,F.wa,F.cell,F.apart,F.lc,F.cw,fun i x k sl h1 h2=>F.slot i x k sl h1 (h i sl h2),
    fun i j x y k l d e a b h1 h2 h3 h4 h5=>F.ownA i j x y k l d e a b h1 h2 h3 (h i _ h4) (h j _ h5),fun i x k d a h1 h2=>F.ownL i x k d a h1 (h i _ h2)⟩
theorem Lss.refl:Lss ρ ρ:=fun _ _ h=>h
theorem Lss.trans {ρ₁ ρ₂:List (Option Sl)} (a:Lss ρ₁ ρ₂) (b:Lss ρ₂ ρ):Lss ρ₁ ρ:=fun i sl h=>b i sl (a i sl h)
theorem Lss.set {i:Nat} {sl:Option Sl} (h:ρ[i]? = some none):Lss ρ (ρ.set i sl):=fun j sl' hj=>by
  rw [List.getElem?_set]
  by_cases e:i = j
  · induction e;cases some_eq h hj
  · rw [if_neg e];exact hj
end
end Mine
end
section
open PySem PySem.W PyProof.Rows
namespace Mine
theorem HasVal.at {env:Env} {h h':Heap} {x:Str} {k:NameKind} {v:Value} (H:HasVal env h x k v) (hl:∀ o,h.get? env.locals = some o→h'.get? env.locals = some o)
    (hc:∀ a o,env.cells.lookup x = some a→h.get? a = some o→h'.get? a = some o):HasVal env h' x k v:=by
  induction k<;>first | exact H.elim | skip
  · obtain ⟨m,hn,e⟩:=H;exact ⟨m,hn.at' hl,e⟩
  · obtain ⟨a,e,hk⟩:=H;exact ⟨a,e,let ⟨o,ho,hd⟩:=hk;⟨o,hc a o e ho,hd⟩⟩
  · obtain ⟨a,e,hk⟩:=H;exact ⟨a,e,let ⟨o,ho,hd⟩:=hk;⟨o,hc a o e ho,hd⟩⟩
section
variable {c:Cx} {n:Nat} {sc:Scope} {ρ:List (Option Sl)}
theorem Fr.apartX {env:Env} {s s':Shared} {Z Z' W X:Addr→Prop} (F:Fr c sc env ρ s Z W) (e:Evo X s Z s' Z') (hx:∀ a,X a→¬ W a) (hz:∀ a,X a→¬ Z a):Fr c sc env ρ s' Z' W:=by
  have hw:∀ a o,W a→s.heap.get? a = some o→s'.heap.get? a = some o:=fun a o h=>e.keep a o fun q=>hx a q h
  have hkz:∀ a o,Z a→s.heap.get? a = some o→s'.heap.get? a = some o:=fun a o h=>e.keep a o fun q=>hz a q h
  have keep:∀ (x:Str) (k:NameKind) (v:Value),HasVal env s.heap x k v→HasVal env s'.heap x k v:=fun x k v H=>H.at (fun o=>hw _ o F.wl) fun a o h=>hw a o (F.cw x a h)
  have back:∀ (i:Nat) (x:Str) (k:NameKind) (sl:Sl) (v:Value),sc.names[i]? = some (x,k)→ρ[i]? = some (some sl)→HasVal env s'.heap x k v→HasVal env s.heap x k v:=fun i x k sl v h1 h2 h3=>by
    obtain ⟨u,hu,_⟩:=F.slot i x k sl h1 h2
    refine HasVal.uniq h3 (keep x k u hu)▸?_;exact hu
  refine ⟨F.esc,F.kind,F.glob,F.bu,F.nodup,?_,F.wl,?_,?_,?_,F.apart,F.lc,F.cw,?_,?_,?_⟩
  · obtain ⟨m,hm⟩:=F.ns;exact ⟨m,hm.at' fun o=>hw _ o F.wl⟩
  · intro a ha hz'
    rcases e.znew a hz' with h | h | h
    · exact F.zw a ha h
    · exact hx a h ha
    · obtain ⟨o,ho⟩:=F.wa a ha;exact none_some h ho
  · exact fun a ha=>(by refine bc fun g=>?_;obtain ⟨o,ho⟩:=F.wa a ha;exact g (⟨o,hw a o ha ho⟩))
  · intro i x k h1 h2
    refine bc fun g=>?_;obtain ⟨a,ov,h3,⟨o,ho,hd⟩,h5⟩:=F.cell i x k h1 h2
    refine g ?_;exact ⟨a,ov,h3,⟨o,hw a o h5 ho,hd⟩,h5⟩
  · intro i x k sl h1 h2
    obtain ⟨v,hv,r⟩:=F.slot i x k sl h1 h2
    refine ⟨v,keep x k v hv,?_⟩
    induction sl with
    | val d=>exact rep_mono hkz e.zmono r
    | own d=>obtain ⟨a,rfl,ha,ho⟩:=r;exact ⟨a,rfl,ha,ho.mono (fun o=>hw a o ha) hkz e.zmono⟩
  · intro i j x y k l d e' a b h1 h2 h3 h4 h5 h6 h7
    exact F.ownA i j x y k l d e' a b h1 h2 h3 h4 h5 (back i x k _ _ h1 h4 h6) (back j y l _ _ h2 h5 h7)
  · intro i x k d a h1 h2 h3
    exact F.ownL i x k d a h1 h2 (back i x k _ _ h1 h2 h3)
noncomputable def IfsJ (c:Cx) (n:Nat) (sc:Scope) (ρ:List (Option Sl)) (ifs:List Expr) (b:Bool):Prop:=
  ∀ A s Z W env,Room A n→Inv c s Z→Fr c sc env ρ s Z W →
    wpAny (model c.prog c.w) A (forIn ifs true fun c r=>if r = true then do let ok ← isTrue c env (eval c env);pure (ForInStep.yield ok) else pure (ForInStep.yield r)) (PostB c s Z b) noE s
theorem ifs_nil:IfsJ c n sc ρ [] true:=fun _ _ _ _ _ _ I _=>wpAny_pure (PostB.here (tk:=_) I)
theorem forIn_false {A:Around} {env:Env} {s:Shared} {Q:Bool→Shared→Prop}:∀ (ifs:List Expr),Q false s →
    wpAny (model c.prog c.w) A (forIn ifs false fun c r=>if r = true then do let ok ← isTrue c env (eval c env);pure (ForInStep.yield ok) else pure (ForInStep.yield r)) Q noE s
  | [],h=>wpAny_pure h
  | e :: es,h=>by
    simp only [List.forIn_cons,Bool.false_eq_true,if_false]
    exact wpAny_bind (wpAny_pure (forIn_false es h))
theorem ifs_t {e:Expr} {es:List Expr} {b:Bool} (h:EvT c n sc ρ e true) (hr:IfsJ c n sc ρ es b):IfsJ c n sc ρ (e :: es) b:=by
  intro A s Z W env R I F
  simp only [List.forIn_cons,if_true]
  refine wpAny_bind (wpAny_bind (wpAny_mono (h A s Z W env R I F) (?_) fun _ _ x=>x));rintro r s' ⟨h0,Z',I',e'⟩;refine ?_
  subst h0
  exact wpAny_pure (wpAny_mono (hr A s' Z' W env R I' (F.grow e')) (fun _ _ x=>x.trans e') fun _ _ x=>x)
theorem ifs_f {e:Expr} {es:List Expr} (h:EvT c n sc ρ e false):IfsJ c n sc ρ (e :: es) false:=by
  intro A s Z W env R I F
  simp only [List.forIn_cons,if_true]
  refine wpAny_bind (wpAny_bind (wpAny_mono (h A s Z W env R I F) (?_) fun _ _ x=>x));rintro r s' ⟨h0,x1,x2,x3⟩;refine ?_
  subst h0
  exact wpAny_pure (forIn_false es ⟨rfl,x1,x2,x3⟩)
theorem ifs_one {e:Expr} {b:Bool} (h:EvT c n sc ρ e b):IfsJ c n sc ρ [e] b:=by
  induction b with
  | true=>exact ifs_t h ifs_nil
  | false=>exact ifs_f h
noncomputable def XAcc (sc:Scope) (env:Env) (N:Nat→Prop) (Da:Addr):Addr→Prop:=fun a=>Loc sc env N a∨a = Da
noncomputable def BodyJ (c:Cx) (n:Nat) (sc:Scope) (N:Nat→Prop) (body:Value→Env→Sem Unit) (ρ:List (Option Sl)) (a a':D):Prop:=
  ∀ A s Z W env Da,Room A n→Inv c s Z→Fr c sc env ρ s Z W→OwnRep c s.heap Z Da a→¬ Z Da→¬ W Da→(∃ o,s.heap.get? Da = some o) →
    wpAny (model c.prog c.w) A (body (.ref Da) env) (fun _ s'=>∃ Z' W',Stp c sc env ρ (XAcc sc env N Da) s Z W s' Z' W'∧OwnRep c s'.heap Z' Da a'∧¬ Z' Da) noE s
noncomputable def TurnJ (c:Cx) (n:Nat) (sc:Scope) (N:Nat→Prop) (tgt:Expr) (ifs:List Expr) (body:Value→Env→Sem Unit) (ρ:List (Option Sl)) (x a a':D):Prop:=
  ∃ ρx,Asg c n sc N tgt x ρ ρx∧Lss ρ ρx∧((IfsJ c n sc ρx ifs true∧BodyJ c n sc N body ρx a a')∨(IfsJ c n sc ρx ifs false∧a' = a))
inductive RunsT (T:D→D→D→Prop):List D→D→D→Prop
  | nil {a:D}:RunsT T [] a a
  | cons {x:D} {xs:List D} {a a₁ a':D}:T x a a₁→RunsT T xs a₁ a'→RunsT T (x :: xs) a a'
noncomputable def turnOf (tgt iter:Expr) (ifs:List Expr) (body:Value→Env→Sem Unit) (next:Sem Fin) (it acc:Value) (env:Env):Sem Fin:=do
  standAt iter.pos
  match ← pyNext it with
  | none=>pure (.done .next)
  | some v=>
    letOwnedTupleGo tgt it v
    assign tgt env v
    let mut ok:=true
    for c in ifs do
      if ok then ok ← isTrue c env (eval c env)
    if ok then body acc env
    next
theorem noted_no {M:Model} {A:Around} {E:Value→Shared→Prop} {α:Type} {t:Sem α} {Q:α→Shared→Prop} {s:Shared} (h:wpAny M A t Q noE s):wpAny M A t Q E s:=
  wpAny_mono h (fun _ _ x=>x) fun _ _ x=>x.elim
noncomputable def LoopR (c:Cx) (sc:Scope) (env:Env) (ρ:List (Option Sl)) (N:Nat→Prop) (fp:List Addr) (Da:Addr) (a':D) (s:Shared) (Z W:Addr→Prop):Result→Shared→Prop:=
  fun r s'=>r = .ok .next∧∃ Z' W',Stp c sc env ρ (fun b=>XAcc sc env N Da b∨b ∈ fp) s Z W s' Z' W'∧OwnRep c s'.heap Z' Da a'∧¬ Z' Da
noncomputable def FinP (M:Model) (A:Around) (R:Result→Shared→Prop):Fin→Shared→Prop:=fun fin s'=>match fin with
  | .done f=>R (.ok f) s'
  | .again c'=>c'.quiet = true∧codeAny M A c' R s'
theorem codeAny_turn {M:Model} {A:Around} {c:Code} {R:Result→Shared→Prop} {s:Shared} (h:wpAny M (A.under c) (M.den c) (FinP M A R) (fun e s'=>R (.error e) s') s):codeAny M A c R s:=
  codeAny_of_tree (wpAny_mono h (fun fin s' x=>by induction fin<;>exact x) fun _ _ x=>x)
theorem comp_loop {e:Expr} {k:Nat} {N:Nat→Prop} {tgt iter:Expr} {ifs:List Expr} {body:Value→Env→Sem Unit}
    (hq:∀ it acc env,(Code.compLoop e k it acc env).quiet = true)
    (hturn:∀ it Da env,compTurn e k it (.ref Da) env = turnOf tgt iter ifs body (again (.compLoop e k it (.ref Da) env)) it (.ref Da) env) (hge:∀ A it acc env,Around.under A (.compLoop e k it acc env) = A)
    (hden:∀ (M:Program) w it acc env,(model M w).den (.compLoop e k it acc env) = (compTurn e k it acc env).onRaise (fun x=>do noteFrame x env;theTreesLotGoes x)) :
    ∀ (xs:List D) (a a':D),RunsT (TurnJ c n sc N tgt ifs body ρ) xs a a'→∀ A s Z W env Da it fp St,Room A n→Inv c s Z→Fr c sc env ρ s Z W→OwnRep c s.heap Z Da a→¬ Z Da→¬ W Da→(∃ o,s.heap.get? Da = some o) →
      IterP c A true tgt it fp St→St xs Z s.heap→(∀ b ∈ fp,¬ Z b)→(∀ b ∈ fp,¬ W b)→Da ∉ fp →
      codeAny (model c.prog c.w) A (.compLoop e k (.ref it) (.ref Da) env) (LoopR c sc env ρ N fp Da a' s Z W) s:=by
  intro xs
  induction xs with
  | nil=>
    intro a a' h A s Z W env Da it fp St R I F ho hz hw hlive ip st hfz hfw hDf
    cases h
    refine codeAny_turn ?_
    rw [hge,hden]
    refine wpAny_noted ?_
    rw [hturn]
    refine noted_no ?_
    delta turnOf
    refine wpAny_bind (wpAny_standAt (wpAny_bind (wpAny_mono (ip.done s Z st I hfz) (fun r s₁ h₁=>?_) fun _ _ x=>x)))
    obtain ⟨rfl,Z₁,S⟩:=h₁
    refine wpAny_pure ⟨rfl,Z₁,W,?_,?_,?_⟩
    · exact ⟨S.inv,S.evo.wider fun _ h=>.inr h,F.apartX S.evo (fun b h=>hfw b h) (fun b h=>hfz b h),fun _ h=>.inl h⟩
    · exact ho.mono (fun o=>S.evo.keep Da o hDf) (fun b o z=>S.evo.keep b o fun q=>hfz b q z) S.evo.zmono
    · intro q
      rcases S.evo.znew Da q with h | h | h
      · exact hz h
      · exact hDf h
      · obtain ⟨o,e⟩:=hlive;exact none_some h e
  | cons x xs ih=>
    intro a a' h A s Z W env Da it fp St R I F ho hz hw hlive ip st hfz hfw hDf
    cases h with | cons ht hr=>?_
    rename_i a₁
    obtain ⟨ρx,hasg,hless,hbody⟩:=ht
    refine codeAny_turn ?_
    rw [hge,hden]
    refine wpAny_noted ?_
    rw [hturn]
    refine noted_no ?_
    delta turnOf
    have hflive:∀ b ∈ fp,∃ o,s.heap.get? b = some o:=ip.ok.live _ _ _ st
    refine wpAny_bind (wpAny_standAt (wpAny_bind (wpAny_mono (ip.turn x xs s Z st I hfz) (?_) fun _ _ x=>x)));rintro r s₀ ⟨v,hr0,hgo⟩;refine ?_
    subst hr0
    refine wpAny_bind (wpAny_mono hgo (?_) fun _ _ x=>x);rintro _ s₁ ⟨Z₁,S₁,st₁,rv⟩;refine ?_
    have F₁:=F.apartX S₁.evo (fun b h=>hfw b h) (fun b h=>hfz b h)
    have hz₁:¬ Z₁ Da:=fun q=>by
      rcases S₁.evo.znew Da q with h | h | h
      · exact hz h
      · exact hDf h
      · obtain ⟨o,e⟩:=hlive;exact none_some h e
    have hlive₁:∃ o,s₁.heap.get? Da = some o:=let ⟨o,e⟩:=hlive;⟨o,S₁.evo.keep Da o hDf e⟩
    refine wpAny_bind (wpAny_mono (hasg A s₁ Z₁ W env v R S₁.inv F₁ rv) (?_) fun _ _ x=>x);rintro _ s₂ ⟨Z₂,W₂,T₂⟩;refine ?_
    have liveX:∀ b,(XAcc sc env N Da b∨b ∈ fp)→∃ o,s.heap.get? b = some o:=fun b h=>by
      rcases h with (h | rfl) | h
      · exact F.live b h
      · exact hlive
      · exact hflive b h
    have finish:∀ s₃ Z₃ W₃ a₂,Stp c sc env ρ (fun b=>XAcc sc env N Da b∨b ∈ fp) s Z W s₃ Z₃ W₃→OwnRep c s₃.heap Z₃ Da a₂→¬ Z₃ Da→St xs Z₃ s₃.heap→a₂ = a₁→(∀ b ∈ fp,¬ Z₃ b)→(∃ o,s₃.heap.get? Da = some o) →
        wpAny (model c.prog c.w) A (again (.compLoop e k (.ref it) (.ref Da) env)) (FinP (model c.prog c.w) A (LoopR c sc env ρ N fp Da a' s Z W)) noE s₃:=by
      intro s₃ Z₃ W₃ a₂ T₃ ho₃ hz₃ st₃ ha hfz₃ hl₃
      subst ha
      have hnw:∀ b,(∃ o,s.heap.get? b = some o)→¬ W b→¬ W₃ b:=fun b ⟨o,e⟩ h q=>by
        rcases T₃.wnew b q with h' | h'
        · exact h h'
        · exact none_some h' e
      refine wpAny_pure ⟨hq _ _ _,?_⟩
      refine codeAny_mono (ih a₂ a' hr A s₃ Z₃ W₃ env Da it fp St R T₃.inv T₃.fr ho₃ hz₃ (hnw Da hlive hw) hl₃ ip st₃ hfz₃ (fun b hb=>hnw b (hflive b hb) (hfw b hb)) hDf) ?_;rintro r s' ⟨hr',Z',W',T',ho',hz'⟩;refine ?_
      refine ⟨hr',Z',W',T₃.trans T' (fun _ h=>.inl h) (fun b h=>?_),ho',hz'⟩
      rcases h with (h | rfl) | h
      · exact T₃.fr.live b h
      · exact hl₃
      · exact ip.ok.live _ _ _ st₃ b h
    have T₁₂:=(⟨S₁.inv,S₁.evo.wider fun _ h=>.inr h,F₁,fun _ h=>.inl h⟩:Stp c sc env ρ (fun b=>XAcc sc env N Da b∨b ∈ fp) s Z W s₁ Z₁ W).trans T₂ (fun b h=>.inl (.inl (.inl h))) (fun b h=>by
      rcases h with (h | rfl) | h
      · exact F₁.live b h
      · exact hlive₁
      · exact ip.ok.live _ _ _ st₁ b h)
    have notW₁:∀ b,b ∈ fp→¬ Loc sc env N b:=fun b hb h=>hfw b hb (h.w F₁)
    have frame₂:∀ (X:Addr→Prop) (s₃:Shared) (Z₃:Addr→Prop),Evo X s₂ Z₂ s₃ Z₃→(∀ b ∈ fp,¬ X b)→(∀ b,X b→¬ Z₂ b)→St xs Z₂ s₂.heap→St xs Z₃ s₃.heap:=fun X s₃ Z₃ e h1 h2 st=>ip.ok.frame _ _ _ _ _ st (fun b hb o=>e.keep b o (h1 b hb)) (fun b o z=>e.keep b o fun q=>h2 b q z) e.zmono
    have st₂:St xs Z₂ s₂.heap:=ip.ok.frame _ _ _ _ _ st₁ (fun b hb o=>T₂.evo.keep b o (notW₁ b hb)) (fun b o z=>T₂.evo.keep b o fun q=>q.z F₁ z) T₂.evo.zmono
    have hfz₂:∀ b ∈ fp,¬ Z₂ b:=fun b hb q=>by
      rcases T₂.evo.znew b q with h | h | h
      · exact S₁.off b hb h
      · exact notW₁ b hb h
      · obtain ⟨o,e⟩:=ip.ok.live _ _ _ st₁ b hb;exact none_some h e
    have hDL:¬ Loc sc env N Da:=fun h=>hw (h.w F₁)
    have ho₂:OwnRep c s₂.heap Z₂ Da a:=(ho.mono (fun o=>S₁.evo.keep Da o hDf) (fun b o z=>S₁.evo.keep b o fun q=>hfz b q z) S₁.evo.zmono).mono (fun o=>T₂.evo.keep Da o hDL) (fun b o z=>T₂.evo.keep b o fun q=>q.z F₁ z) T₂.evo.zmono
    have hl₂:∃ o,s₂.heap.get? Da = some o:=let ⟨o,e⟩:=hlive₁;⟨o,T₂.evo.keep Da o hDL e⟩
    have hz₂:¬ Z₂ Da:=fun q=>by
      rcases T₂.evo.znew Da q with h | h | h
      · exact hz₁ h
      · exact hDL h
      · obtain ⟨o,e⟩:=hlive₁;exact none_some h e
    have hnw₂:∀ b,(∃ o,s.heap.get? b = some o)→¬ W b→¬ W₂ b:=fun b ⟨o,e⟩ h q=>by
      rcases T₁₂.wnew b q with h' | h'
      · exact h h'
      · exact none_some h' e
    have afterIfs:∀ (b:Bool),IfsJ c n sc ρx ifs b→(∀ s₃ Z₃,Inv c s₃ Z₃→Evo no s₂ Z₂ s₃ Z₃→wpAny (model c.prog c.w) A (if b = true then (body (.ref Da) env >>= fun _=>again (.compLoop e k (.ref it) (.ref Da) env)) else again (.compLoop e k (.ref it) (.ref Da) env)) (FinP (model c.prog c.w) A (LoopR c sc env ρ N fp Da a' s Z W)) noE s₃) →
        wpAny (model c.prog c.w) A ((forIn ifs true fun c r=>if r = true then do let ok ← isTrue c env (eval c env);pure (ForInStep.yield ok) else pure (ForInStep.yield r)) >>= fun ok=>
          if ok = true then (body (.ref Da) env >>= fun _=>again (.compLoop e k (.ref it) (.ref Da) env)) else again (.compLoop e k (.ref it) (.ref Da) env)) (FinP (model c.prog c.w) A (LoopR c sc env ρ N fp Da a' s Z W)) noE s₂:=by
      intro b hb hk
      refine wpAny_bind (wpAny_mono (hb A s₂ Z₂ W₂ env R T₂.inv T₂.fr) (?_) fun _ _ x=>x);rintro r s₃ ⟨h0,Z₃,I₃,e₃⟩;refine ?_
      cases h0
      exact hk s₃ Z₃ I₃ e₃
    have liveX₂:∀ b,(XAcc sc env N Da b∨b ∈ fp)→∃ o,s₂.heap.get? b = some o:=fun b h=>by
      rcases h with (h | rfl) | h
      · exact T₂.fr.live b h
      · exact hl₂
      · exact ip.ok.live _ _ _ st₂ b h
    rcases hbody with ⟨hifs,hb⟩ | ⟨hifs,ha⟩
    · refine afterIfs true hifs fun s₃ Z₃ I₃ e₃=>?_
      have F₃:=T₂.fr.grow e₃
      have nz₃:∀ b,(∃ o,s₂.heap.get? b = some o)→¬ Z₂ b→¬ Z₃ b:=fun b ⟨o,e⟩ h q=>by
        rcases e₃.znew b q with h' | h' | h'
        · exact h h'
        · exact h'
        · exact none_some h' e
      simp only [if_true]
      refine wpAny_bind (wpAny_mono (hb A s₃ Z₃ W₂ env Da R I₃ F₃ (ho₂.mono (fun o=>e₃.keep Da o id) (fun b o _=>e₃.keep b o id) e₃.zmono) (nz₃ Da hl₂ hz₂) (hnw₂ Da hlive hw) (let ⟨o,e⟩:=hl₂;⟨o,e₃.keep Da o id e⟩)) (?_) fun _ _ x=>x);rintro _ s₄ ⟨Z₄,W₄,T₄,ho₄,hz₄⟩;refine ?_
      have T₃:Stp c sc env ρx (fun b=>XAcc sc env N Da b∨b ∈ fp) s Z W s₃ Z₃ W₂:=T₁₂.trans (Stp.grow (X:=no) I₃ e₃ T₂.fr) (fun _ h=>h.elim) liveX₂
      have T:=T₃.trans T₄ (fun b h=>.inl (.inl h)) (fun b h=>let ⟨o,e⟩:=liveX₂ b h;⟨o,e₃.keep b o id e⟩)
      have fpX:∀ b ∈ fp,¬ XAcc sc env N Da b:=fun b hb h=>by
        rcases h with h | rfl
        · exact notW₁ b hb h
        · exact hDf hb
      have xz:∀ b,XAcc sc env N Da b→¬ Z₃ b:=fun b h=>by
        rcases h with h | rfl
        · exact h.z F₃
        · exact nz₃ b hl₂ hz₂
      have st₃:=frame₂ no s₃ Z₃ e₃ (fun _ _ h=>h) (fun _ h=>h.elim) st₂
      refine finish s₄ Z₄ W₄ _ ⟨T.inv,T.evo,T.fr.less hless,T.wnew⟩ ho₄ hz₄ (ip.ok.frame _ _ _ _ _ st₃ (fun b hb o=>T₄.evo.keep b o (fpX b hb)) (fun b o z=>T₄.evo.keep b o fun q=>xz b q z) T₄.evo.zmono) rfl (fun b hb q=>?_) ?_
      · rcases T₄.evo.znew b q with h | h | h
        · exact nz₃ b (ip.ok.live _ _ _ st₂ b hb) (hfz₂ b hb) h
        · exact fpX b hb h
        · obtain ⟨o,e⟩:=ip.ok.live _ _ _ st₃ b hb;exact none_some h e
      · cases a₁<;>first | exact ho₄.elim | skip
        · obtain ⟨vs,⟨o,_,ho,_⟩,_⟩:=ho₄;exact ⟨o,ho⟩
        · obtain ⟨_,kvs,⟨o,es,ep,ho,_⟩,_⟩:=ho₄;exact ⟨o,ho⟩
    · refine afterIfs false hifs fun s₃ Z₃ I₃ e₃=>?_
      simp only [Bool.false_eq_true,if_false]
      have nz₃:∀ b,(∃ o,s₂.heap.get? b = some o)→¬ Z₂ b→¬ Z₃ b:=fun b ⟨o,e⟩ h q=>by
        rcases e₃.znew b q with h' | h' | h'
        · exact h h'
        · exact h'
        · exact none_some h' e
      have T₃:Stp c sc env ρx (fun b=>XAcc sc env N Da b∨b ∈ fp) s Z W s₃ Z₃ W₂:=T₁₂.trans (Stp.grow (X:=no) I₃ e₃ T₂.fr) (fun _ h=>h.elim) liveX₂
      refine finish s₃ Z₃ W₂ a ⟨T₃.inv,T₃.evo,T₃.fr.less hless,T₃.wnew⟩ (ho₂.mono (fun o=>e₃.keep Da o id) (fun b o _=>e₃.keep b o id) e₃.zmono) (nz₃ Da hl₂ hz₂) (frame₂ no s₃ Z₃ e₃ (fun _ _ h=>h) (fun _ h=>h.elim) st₂) ha.symm
        (fun b hb=>nz₃ b (ip.ok.live _ _ _ st₂ b hb) (hfz₂ b hb)) (let ⟨o,e⟩:=hl₂;⟨o,e₃.keep Da o id e⟩)
end
end Mine
end
section
open PySem PySem.W PyProof.Rows
namespace Mine
noncomputable def emitL (elt:Expr) (acc:Value) (env:Env):Sem Unit:=do let _ ← call (.builtin "list.append") [acc,← eval elt env]
noncomputable def emitD (k v:Expr) (acc:Value) (env:Env):Sem Unit:=do
  let kv ← eval k env
  let vv ← holding [kv] (eval v env)
  match acc with
  | .ref d=>do
    standAt { k.pos with endLine:=v.pos.endLine,endCol:=v.pos.endCol }
    holding [kv,vv] (dictSet d kv vv)
  | _=>unsupported "internal:dictcomp"
noncomputable def inner (e:Expr) (k:Nat) (iter:Expr) (acc:Value) (env:Env):Sem Unit:=do
  let x ← eval iter env
  standAt iter.pos
  let x ← foldedSetIterable iter env x
  let _ ← runOwn (.compStart e k (← holding [x] (pyIter x)) acc env) env
section
variable {tgt iter tgt' iter' elt kx vx:Expr} {ifs ifs':List Expr} {scope:Scope} {pos:Pos} {it acc:Value} {env:Env}
theorem turn_list1:compTurn (.ListComp elt [⟨tgt,iter,ifs,0⟩] scope pos) 0 it acc env = turnOf tgt iter ifs (emitL elt) (again (.compLoop (.ListComp elt [⟨tgt,iter,ifs,0⟩] scope pos) 0 it acc env)) it acc env:=by rfl
theorem turn_list2b:compTurn (.ListComp elt [⟨tgt,iter,ifs,0⟩,⟨tgt',iter',ifs',0⟩] scope pos) 1 it acc env = turnOf tgt' iter' ifs' (emitL elt) (again (.compLoop (.ListComp elt [⟨tgt,iter,ifs,0⟩,⟨tgt',iter',ifs',0⟩] scope pos) 1 it acc env)) it acc env:=by rfl
theorem turn_list2a:compTurn (.ListComp elt [⟨tgt,iter,ifs,0⟩,⟨tgt',iter',ifs',0⟩] scope pos) 0 it acc env =
    turnOf tgt iter ifs (inner (.ListComp elt [⟨tgt,iter,ifs,0⟩,⟨tgt',iter',ifs',0⟩] scope pos) 1 iter') (again (.compLoop (.ListComp elt [⟨tgt,iter,ifs,0⟩,⟨tgt',iter',ifs',0⟩] scope pos) 0 it acc env)) it acc env:=by
  delta compTurn turnOf inner
  simp only [bind_assoc]
  rfl
theorem turn_dict1 {d:Addr}:compTurn (.DictComp kx vx [⟨tgt,iter,ifs,0⟩] scope pos) 0 it (.ref d) env = turnOf tgt iter ifs (emitD kx vx) (again (.compLoop (.DictComp kx vx [⟨tgt,iter,ifs,0⟩] scope pos) 0 it (.ref d) env)) it (.ref d) env:=by rfl
end
end Mine
end
section
open PySem PySem.W PyProof.Rows
namespace Mine
theorem Base.low {c:Cx} (B:Base c) {s:Shared} {Z:Addr→Prop} (I:Inv c s Z):sysModules < s.heap.objs.size:=by
  obtain ⟨o,_,_,ho,_⟩:=B.g
  exact Nat.lt_of_le_of_lt (by decide) (Heap.lt_size (I.base _ _ ho))
theorem Base.notSys {c:Cx} (B:Base c) {s:Shared} {Z:Addr→Prop} (I:Inv c s Z) {a:Addr} (h:s.heap.objs.size≤a):(a == sysModules) = false:=by
  have:=B.low I
  rw [beq_eq_false_iff_ne]
  rintro rfl
  exact Nat.lt_irrefl _ (Nat.lt_of_lt_of_le this h)
noncomputable def storedD (es:List (Str × D)) (k:Str) (d:D):List (Str × D):=
  if es.any (fun e=>e.1 = k) then es.map (fun e=>if e.1 = k then (e.1,d) else e) else es ++ [(k,d)]
section
variable {c:Cx} {n:Nat} {sc:Scope} {ρ:List (Option Sl)}
theorem RepE.any {h:Heap} {Z:Addr→Prop} {k:Str} {kvs:List (Str × Value)} {es:List (Str × D)} (r:RepE c h Z kvs es):kvs.any (fun e=>e.1 = k) = es.any (fun e=>e.1 = k):=
  r.ind (P:=fun kvs es=>kvs.any (fun e=>e.1 = k) = es.any (fun e=>e.1 = k)) rfl fun _ _ ih=>congrArg (_ || ·) ih
theorem RepE.snoc {h:Heap} {Z:Addr→Prop} {k:Str} {v:Value} {d:D} {kvs:List (Str × Value)} {es:List (Str × D)} (r:RepE c h Z kvs es) (rv:Rep c h Z v d):RepE c h Z (kvs ++ [(k,v)]) (es ++ [(k,d)]):=
  r.ind (P:=fun kvs es=>RepE c h Z (kvs ++ [(k,v)]) (es ++ [(k,d)])) (.cons rv .nil) fun a _ ih=>.cons a ih
theorem RepE.put {h:Heap} {Z:Addr→Prop} {k:Str} {v:Value} {d:D} {kvs:List (Str × Value)} {es:List (Str × D)} (r:RepE c h Z kvs es) (rv:Rep c h Z v d) :
    RepE c h Z (kvs.map fun e=>if e.1 = k then (e.1,v) else e) (es.map fun e=>if e.1 = k then (e.1,d) else e):=
  r.ind (P:=fun kvs es=>RepE c h Z (kvs.map fun e=>if e.1 = k then (e.1,v) else e) (es.map fun e=>if e.1 = k then (e.1,d) else e)) .nil fun {x _ _ _ _} a _ ih=>by
    simp only [List.map_cons]
    by_cases hk:x = k
    · simp only [hk,if_true];exact .cons rv ih
    · simp only [hk,if_false];exact .cons a ih
theorem RepE.stored {h:Heap} {Z:Addr→Prop} {k:Str} {v:Value} {d:D} {kvs:List (Str × Value)} {es:List (Str × D)} (r:RepE c h Z kvs es) (rv:Rep c h Z v d):RepE c h Z (PySem.stored kvs k v) (storedD es k d):=by
  delta PySem.stored storedD
  rw [r.any]
  split
  · exact r.put rv
  · exact r.snoc rv
theorem RepE.len {h:Heap} {Z:Addr→Prop} {kvs:List (Str × Value)} {es:List (Str × D)} (r:RepE c h Z kvs es):kvs.length = es.length:=r.ind (P:=fun kvs es=>kvs.length = es.length) rfl fun _ _ ih=>congrArg (· + 1) ih
theorem one_obj {s:Shared} {Z:Addr→Prop} {a:Addr} {h':Heap} {tk:Nat} (I:Inv c s Z) (hz:¬ Z a) (hs:Heap.SameBut a s.heap h'):Inv c { s with heap:=h',toks:=tk } Z∧Evo (· = a) s Z { s with heap:=h',toks:=tk } Z:=
  ⟨inv_w (W:=(· = a)) I (fun _ e=>e▸hz) fun b o hb e=>hs.extBut b o hb e,evo_w fun b o hb e=>hs.extBut b o hb e⟩
theorem Fr.oneObj {env:Env} {s:Shared} {Z W:Addr→Prop} {a:Addr} {h':Heap} {tk:Nat} (F:Fr c sc env ρ s Z W) (hw:¬ W a) (hz:¬ Z a) (hs:Heap.SameBut a s.heap h'):Fr c sc env ρ { s with heap:=h',toks:=tk } Z W:=
  F.apartX (evo_w (W:=(· = a)) (tk:=tk) fun b o hb e=>hs.extBut b o hb e) (fun _ e=>e▸hw) fun _ e=>e▸hz
theorem body_emitL {N:Nat→Prop} {elt:Expr} {d:D} {ds:List D} (h:EvE c n sc ρ elt d) (hs:ds.length≤sizeLine):BodyJ c n sc N (emitL elt) ρ (.list ds) (.list (ds ++ [d])):=by
  intro A s Z W env Da R I F ho hz hw hl
  delta emitL
  refine Gives.then (h A s Z W env R I F) fun v s₁ Z₁ I₁ e₁ r₁=>?_
  refine bc fun g=>?_;obtain ⟨vs,hv,rr⟩:=ho
  have hz₁:¬ Z₁ Da:=fun q=>by
    rcases e₁.znew Da q with h | h | h
    · exact hz h
    · exact h
    · obtain ⟨o,e⟩:=hl;(exact none_some h e)
  refine g ?_;refine wpAny_bind (list_append_plainL (plainL_at hv fun o=>e₁.keep Da o id) (fun h' hl' hs'=>?_) (by rw [List.size_toArray,rr.length];exact hs))
  obtain ⟨I₂,e₂⟩:=one_obj (tk:=s₁.toks) I₁ hz₁ hs'
  refine wpAny_pure ⟨Z₁,W,⟨I₂,(e₁.wider fun _ h=>h.elim).trans' e₂ fun x hx=>.inl (.inr hx),(F.grow e₁).oneObj hw hz₁ hs',fun _ h=>.inl h⟩,⟨vs ++ [v],by simpa using hl',?_⟩,hz₁⟩
  exact (e₂.reps (fun _ e=>e▸hz₁) (e₁.reps no_z rr)).append (.cons (e₂.rep (fun _ e=>e▸hz₁) r₁) .nil)
theorem body_emitD {N:Nat→Prop} {kx vx:Expr} {k:Str} {d:D} {es:List (Str × D)} (hk:EvE c n sc ρ kx (.str k)) (hv:EvE c n sc ρ vx d) (hs:es.length≤sizeLine):BodyJ c n sc N (emitD kx vx) ρ (.dict es) (.dict (storedD es k d)):=by
  intro A s Z W env Da R I F ho hz hw hl
  delta emitD
  refine Gives.then (hk A s Z W env R I F) fun kv s₁ Z₁ I₁ e₁ r₁=>?_
  refine wpAny_bind (wpAny_holding (Gives.to (hv A s₁ Z₁ W env R I₁ (F.grow e₁)) fun v s₂ Z₂ I₂ e₂ r₂=>?_))
  obtain ⟨hsys,kvs,hd,rr⟩:=ho
  have e₁₂:=e₁.trans e₂
  have hz₂:¬ Z₂ Da:=fun q=>by
    rcases e₁₂.znew Da q with h | h | h
    · exact hz h
    · exact h
    · obtain ⟨o,e⟩:=hl;(exact none_some h e)
  refine wpAny_bind (wpAny_standAt (wpAny_holding ?_))
  ((replace r₁:=r₁.iS;induction r₁))
  refine wpAny_dictSet_pairs (knd:=sk c) (k:=k) (by show decide _ = true;simp) (hd.at fun o=>e₁₂.keep Da o id) (fun h' hd' hs'=>?_) (by rw [rr.len];exact hs)
  obtain ⟨I₃,e₃⟩:=one_obj (tk:=s₂.toks + 1) I₂ hz₂ hs'
  refine ⟨Z₂,W,⟨I₃,(e₁₂.wider fun _ h=>h.elim).trans' e₃ fun x hx=>.inl (.inr hx),(F.grow e₁₂).oneObj hw hz₂ hs',fun _ h=>.inl h⟩,⟨hsys,_,hd',?_⟩,hz₂⟩
  exact (e₃.repE (fun _ e=>e▸hz₂) (e₁₂.repE no_z rr)).stored (e₃.rep (fun _ e=>e▸hz₂) r₂)
theorem comp_start {e:Expr} {k:Nat} {g:Comprehension} (hg:(clausesOf e)[k]? = some g) (ha:(g.is_async != 0) = false) (hq:∀ it acc env,(Code.compLoop e k it acc env).quiet = true)
    (hge:∀ A it acc env,Around.under A (.compStart e k it acc env) = A)
    (hden:∀ (M:Program) w it acc env,(model M w).den (.compStart e k it acc env) = (compStart e k it acc env).onRaise (fun x=>do noteFrame x env;standAt theWindowsPlace))
    {A:Around} {it acc:Value} {env:Env} {R:Result→Shared→Prop} {s:Shared}
    (h0:codeAny (model c.prog c.w) A (.compLoop e k it acc env) R s)
    (h:wpAny (model c.prog c.w) A (pyIter it) (fun it' s'=>codeAny (model c.prog c.w) A (.compLoop e k it' acc env) R s') noE s) :
    codeAny (model c.prog c.w) A (.compStart e k it acc env) R s:=by
  refine codeAny_turn ?_
  rw [hge,hden]
  refine wpAny_notedAt ?_
  refine noted_no ?_
  delta compStart
  refine hg▸?_
  simp only [Option.elim,ha,Bool.false_eq_true,if_false]
  refine bnd1 (fun _ q=>wpAny_askSetting q) ?_
  split
  · exact wpAny_bind (wpAny_pure (wpAny_pure ⟨hq _ _ _,h0⟩))
  · refine bnd1 (fun _ q=>wpAny_rule q) ?_
    exact wpAny_bind (wpAny_standAt (wpAny_bind (wpAny_mono h (fun it' s' h'=>wpAny_pure ⟨hq _ _ _,h'⟩) fun _ _ x=>x)))
end
end Mine
end
section
open PySem PySem.W PyProof.Rows
namespace Mine
noncomputable def placeOk (sc:Scope) (p:Str × NameKind) (a:Option (Option Nat)) (b:Option NameKind):Bool:=
  b.any fun k=>a.any fun o=>o.elim (p.2 != .free && p.2 == k) fun j=>p.2 == .free && ((k == .cell || k == .free) && decide (sc.names[j]? = some (p.1,k)))
noncomputable def compOk (scope sc:Scope) (ix:List (Option Nat)) (ks:List NameKind):Bool:=
  scope.kind == .function && (ix.length == scope.names.length && (ks.length == scope.names.length && (decide ((scope.names.map (·.1)).Nodup) &&
  (List.range scope.names.length).all fun i=>(scope.names[i]?).all fun p=>placeOk sc p ix[i]? ks[i]?)))
theorem any_some {α:Type} {o:Option α} {f:α→Bool} (h:o.any f = true):∃ a,o = some a∧f a = true:=match o with
  | some a=>⟨a,rfl,h⟩
noncomputable def relS (scope:Scope) (ks:List NameKind):Scope:={ scope with names:=List.zipWith (fun p k=>(p.1,k)) scope.names ks }
noncomputable def capR (ρ:List (Option Sl)) (ix:List (Option Nat)):List (Option Sl):=ix.map fun j=>match j with | some j=>(ρ[j]?).join | none=>none
noncomputable def ownN (scope:Scope) (i:Nat):Prop:=∃ x k,scope.names[i]? = some (x,k)∧k ≠ .free
structure CompOk (scope sc:Scope) (ix:List (Option Nat)) (ks:List NameKind):Prop where
  kind:scope.kind = .function
  nodup:(scope.names.map (·.1)).Nodup
  il:ix.length = scope.names.length
  kl:ks.length = scope.names.length
  at':∀ (i:Nat) (x:Str) (k:NameKind),scope.names[i]? = some (x,k)→(k = .free∧∃ j kj,ix[i]? = some (some j)∧ks[i]? = some kj∧sc.names[j]? = some (x,kj)∧(kj = .cell∨kj = .free))∨(k ≠ .free∧ix[i]? = some none∧ks[i]? = some k)
theorem compOk_ok {scope sc:Scope} {ix:List (Option Nat)} {ks:List NameKind} (h:compOk scope sc ix ks = true):CompOk scope sc ix ks:=
  have h2:=(band h).2
  have h3:=(band h2).2
  have h4:=(band h3).2
  ⟨beq_iff_eq.mp (band h).1,of_decide_eq_true (band h4).1,beq_iff_eq.mp (band h2).1,beq_iff_eq.mp (band h3).1,fun i x k hx=>by
    refine bc fun g=>?_
    have t:=List.all_eq_true.mp (band h4).2 i (List.mem_range.mpr (List.getElem?_eq_some_iff.mp hx).1)
    rw [hx] at t
    obtain ⟨k',hk,t⟩:=any_some t
    obtain ⟨o,ho,t⟩:=any_some t
    induction o with
    | none=>exact g (.inr ⟨bne_iff_ne.mp (band t).1,ho,hk.trans (congrArg some (beq_iff_eq.mp (band t).2).symm)⟩)
    | some j=>
      have u:=band (band t).2
      exact g (.inl ⟨beq_iff_eq.mp (band t).1,j,k',ho,hk,of_decide_eq_true u.2,((Bool.or_eq_true ..).mp u.1).imp beq_iff_eq.mp beq_iff_eq.mp⟩)⟩
theorem relS_names {scope:Scope} {ks:List NameKind} {i:Nat} {x:Str} {k:NameKind}:(relS scope ks).names[i]? = some (x,k) ↔ ∃ k₀,scope.names[i]? = some (x,k₀)∧ks[i]? = some k:=by
  delta relS
  simp only [List.getElem?_zipWith]
  induction h1:scope.names[i]?<;>induction h2:ks[i]?<;>simp
  rename_i a b
  obtain ⟨y,ky⟩:=a
  simp
noncomputable def clFrom (env:Env):List (Str × NameKind)→List (Str × Addr)→List (Str × Addr)
  | [],acc=>acc
  | (x,k) :: r,acc=>clFrom env r (if k == .free then (match env.cells.lookup x with | some a=>(x,a) :: acc | none=>acc) else acc)
theorem closure_eq {env:Env} (f:Str × NameKind→List (Str × Addr)→Sem (ForInStep (List (Str × Addr))))
    (hf:∀ name kind cs,f (name,kind) cs = if kind == .free then (do let a ← cellOf env name;pure (.yield ((name,a) :: cs))) else pure (.yield cs)) :
    ∀ (names:List (Str × NameKind)) (acc:List (Str × Addr)),(∀ x ∈ names,x.2 = .free→∃ a,env.cells.lookup x.1 = some a)→forIn names acc f = pure (clFrom env names acc)
  | [],acc,_=>rfl
  | (x,k) :: r,acc,h=>by
    rw [List.forIn_cons,hf]
    dsimp only [clFrom]
    by_cases hk:(k == NameKind.free) = true
    · obtain ⟨a,ha⟩:=h (x,k) List.mem_cons_self (beq_iff_eq.mp hk)
      simp only at ha
      rw [if_pos hk,if_pos hk,ha]
      delta cellOf
      rw [ha]
      skip
      exact closure_eq f hf r _ fun y hy=>h y (List.mem_cons_of_mem _ hy)
    · rw [if_neg hk,if_neg hk]
      skip
      exact closure_eq f hf r _ fun y hy=>h y (List.mem_cons_of_mem _ hy)
theorem closureFor_eq {scope:Scope} {env:Env} (h:∀ x ∈ scope.names,x.2 = .free→∃ a,env.cells.lookup x.1 = some a):closureFor scope env = pure (clFrom env scope.names []):=by
  dsimp only [closureFor]
  rw [closure_eq _ (fun name kind cs=>?_) _ _ h]
  · rfl
  · induction hk:kind == NameKind.free<;>rfl
theorem clFrom_some {env:Env}:∀ {names:List (Str × NameKind)} {acc:List (Str × Addr)} {x:Str} {a:Addr},(clFrom env names acc).lookup x = some a→(∀ y b,acc.lookup y = some b→env.cells.lookup y = some b)→env.cells.lookup x = some a
  | [],acc,x,a,h,hacc=>hacc x a h
  | (y,k) :: r,acc,x,a,h,hacc=>by
    unfold clFrom at h
    refine clFrom_some h fun z b hz=>?_
    by_cases hk:(k == NameKind.free) = true
    · rw [if_pos hk] at hz
      induction hy:env.cells.lookup y with
      | none=>rw [hy] at hz;exact hacc z b hz
      | some a'=>
        rw [hy] at hz
        dsimp only [List.lookup_cons] at hz
        induction hzy:z == y with
        | true=>(((rw [hzy] at hz;cases hz)));rw [beq_iff_eq.mp hzy];exact hy
        | false=>rw [hzy] at hz;exact hacc z b hz
    · rw [if_neg hk] at hz;exact hacc z b hz
theorem clFrom_acc {env:Env}:∀ {names:List (Str × NameKind)} {acc:List (Str × Addr)} {x:Str} {a:Addr},acc.lookup x = some a→env.cells.lookup x = some a→(clFrom env names acc).lookup x = some a
  | [],acc,x,a,h,_=>h
  | (y,k) :: r,acc,x,a,h,he=>by
    unfold clFrom
    refine clFrom_acc ?_ he
    by_cases hk:(k == NameKind.free) = true
    · rw [if_pos hk]
      induction hy:env.cells.lookup y with
      | none=>exact h
      | some a'=>
        dsimp only [List.lookup_cons]
        induction hxy:x == y with
        | true=>
          rw [beq_iff_eq.mp hxy,hy] at he
          exact he
        | false=>exact h
    · rw [if_neg hk];exact h
theorem clFrom_mem {env:Env}:∀ {names:List (Str × NameKind)} {acc:List (Str × Addr)} {x:Str} {a:Addr},(x,NameKind.free) ∈ names→env.cells.lookup x = some a→(clFrom env names acc).lookup x = some a
  | (y,k) :: r,acc,x,a,h,he=>by
    rcases List.mem_cons.mp h with h | h
    · cases h
      dsimp only [clFrom]
      refine clFrom_acc ?_ he
      simp [he]
    · dsimp only [clFrom];exact clFrom_mem h he
theorem cellsFrom_app:∀ (names:List (Str × NameKind)) (n:Nat) (acc:List (Str × Addr)),cellsFrom n names acc = cellsFrom n names [] ++ acc
  | [],_,_=>rfl
  | (x,k) :: r,n,acc=>by
    dsimp only [cellsFrom]
    split
    · rw [cellsFrom_app r (n + 1) ((x,n) :: acc),cellsFrom_app r (n + 1) [(x,n)]];simp
    · exact cellsFrom_app r n acc
theorem cellsFrom_names:∀ (names:List (Str × NameKind)) (n:Nat) (x:Str) (a:Addr),(x,a) ∈ cellsFrom n names []→(x,NameKind.cell) ∈ names
  | (y,k) :: r,n,x,a,h=>by
    unfold cellsFrom at h
    split at h
    · rename_i hk
      rw [cellsFrom_app] at h
      rcases List.mem_append.mp h with h | h
      · exact List.mem_cons_of_mem _ (cellsFrom_names r _ x a h)
      · (((rw [List.mem_singleton] at h;cases h)));rw [beq_iff_eq.mp hk];exact List.mem_cons_self
    · exact List.mem_cons_of_mem _ (cellsFrom_names r _ x a h)
theorem cellsFrom_has:∀ (names:List (Str × NameKind)) (n:Nat) (x:Str),(x,NameKind.cell) ∈ names→∃ a,(x,a) ∈ cellsFrom n names []
  | (y,k) :: r,n,x,h=>by
    dsimp only [cellsFrom]
    rcases List.mem_cons.mp h with h | h
    · cases h
      rw [if_pos (by rfl),cellsFrom_app]
      exact ⟨n,List.mem_append_right _ List.mem_cons_self⟩
    · split
      · obtain ⟨a,ha⟩:=cellsFrom_has r (n + 1) x h
        rw [cellsFrom_app];exact ⟨a,List.mem_append_left _ ha⟩
      · exact cellsFrom_has r n x h
theorem lookup_app {α:Type}:∀ (l r:List (Str × α)) (x:Str),(l ++ r).lookup x = (match l.lookup x with | some a=>some a | none=>r.lookup x)
  | [],_,_=>rfl
  | (y,b) :: l,r,x=>by
    dsimp only [List.cons_append,List.lookup_cons]
    induction x == y with
    | true=>rfl
    | false=>exact lookup_app l r x
theorem lookup_none_of {α:Type}:∀ {l:List (Str × α)} {x:Str},(∀ a,(x,a) ∉ l)→l.lookup x = none
  | [],_,_=>rfl
  | (y,b) :: l,x,h=>by
    rw [List.lookup_cons]
    induction hxy:x == y with
    | true=>exact absurd (by rw [beq_iff_eq.mp hxy];exact List.mem_cons_self) (h b)
    | false=>exact lookup_none_of fun a ha=>h a (List.mem_cons_of_mem _ ha)
theorem lookup_of_mem {α:Type}:∀ {l:List (Str × α)} {x:Str} {a:α},(x,a) ∈ l→∃ b,l.lookup x = some b
  | (y,b) :: l,x,a,h=>by
    rw [List.lookup_cons]
    induction hxy:x == y with
    | true=>exact ⟨b,rfl⟩
    | false=>
      refine bc fun g=>?_;rcases List.mem_cons.mp h with h | h
      · cases h;simp at hxy
      · refine g ?_;exact lookup_of_mem h
section
variable {c:Cx} {n:Nat} {sc:Scope} {ρ:List (Option Sl)}
theorem relabel_eq {scope:Scope} {ix:List (Option Nat)} {ks:List NameKind} (O:CompOk scope sc ix ks) {env:Env} {s:Shared} {Z W:Addr→Prop} (F:Fr c sc env ρ s Z W):relabel scope env = relS scope ks:=by
  delta relabel relS
  congr 1
  refine List.ext_getElem? fun i=>?_
  rw [List.getElem?_map,List.getElem?_zipWith]
  induction hx:scope.names[i]? with
  | none=>rfl
  | some p=>
    refine bc fun g=>?_;obtain ⟨x,k⟩:=p
    rcases O.at' i x k hx with ⟨rfl,j,kj,h1,h2,h3,h4⟩ | ⟨hk,h1,h2⟩
    · refine g ?_;rw [h2]
      dsimp only [Option.map_some]
      rw [F.kindOf h3,F.esc,F.kind]
      rcases h4 with rfl | rfl<;>rfl
    · refine g ?_;rw [h2]
      dsimp only [Option.map_some]
      have:(k == NameKind.free) = false:=by rw [beq_eq_false_iff_ne];exact hk
      refine this▸?_;rfl
theorem compEnv_new {A:Around} {scope:Scope} {g:Addr} {cl:List (Str × Addr)} {q:Str} {env:Env} {s:Shared} {Q:Env→Shared→Prop}
    (h:Q (newEnv scope s.heap.objs.size g (cellsFrom (s.heap.objs.size + 1) scope.names cl) q none .none (some env) builtinsNs) { s with heap:=pushCells (s.heap.push { cls:=.type "dict",data:=.dict #[] }) scope.names }) :
    wpAny (model c.prog c.w) A (newFunctionEnv scope g cl [] q none .none (some env)) Q noE s:=by
  simp only [newFunctionEnv,Option.isSome_some,if_true]
  refine bnd1 (fun _ q=>wpAny_alloc q) ?_
  refine bnd1 (fun _ q=>wpAny_layCells _ (fun name kind cells=>by induction hkc:kind == NameKind.cell<;>rfl) _ _ _ _ q) ?_
  rw [show ({ s with heap:=s.heap.push { cls:=.type "dict",data:=.dict #[] } }:Shared).heap.objs.size = s.heap.objs.size + 1 from Heap.size_push ..]
  exact wpAny_bind (wpAny_pure (wpAny_pure h))
theorem comp_frame {scope:Scope} {ix:List (Option Nat)} {ks:List NameKind} (O:CompOk scope sc ix ks) {env:Env} {s:Shared} {Z W:Addr→Prop} (F:Fr c sc env ρ s Z W) (I:Inv c s Z) :
    let L:=s.heap.objs.size
    let h':=pushCells (s.heap.push { cls:=.type "dict",data:=.dict #[] }) scope.names
    let cenv:={ newEnv scope L env.globals (cellsFrom (L + 1) scope.names (clFrom env scope.names [])) env.qual none .none (some env) builtinsNs with scope:=relabel scope env }
    Inv c { s with heap:=h' } Z∧Evo no s Z { s with heap:=h' } Z∧(∃ W',Fr c (relS scope ks) cenv (capR ρ ix) { s with heap:=h' } Z W'∧(∀ a,W' a→W a∨s.heap.get? a = none))∧(∀ a,Loc (relS scope ks) cenv (ownN scope) a→s.heap.get? a = none):=by
  intro L h' cenv
  have hk:∀ b o,s.heap.get? b = some o→h'.get? b = some o:=fun b o e=>pushCells_keeps _ _ b o (Heap.get?_push_of_some _ e)
  have I':Inv c { s with heap:=h' } Z:=inv_w (W:=no) (tk:=s.toks) I (fun _ h=>h.elim) fun b o _ e=>hk b o e
  have e':Evo no s Z { s with heap:=h' } Z:=evo_w (tk:=s.toks) fun b o _ e=>hk b o e
  have ok:CellsOk h' (L + 1) (cellsFrom (L + 1) scope.names []):=by
    have:=cellsFrom_ok scope.names (s.heap.push { cls:=.type "dict",data:=.dict #[] }) (L + 1) [] ⟨fun _ _ hm=>(nomatch hm),List.Pairwise.nil⟩ (by rw [Heap.size_push];exact Nat.le_refl _)
    rw [Heap.size_push] at this;exact this
  have hge:∀ a,L≤a→s.heap.get? a = none:=fun a ha=>by
    induction q:s.heap.get? a with
    | none=>rfl
    | some o=>exact absurd (Heap.lt_size q) (Nat.not_lt.mpr ha)
  have cells_eq:cenv.cells = cellsFrom (L + 1) scope.names [] ++ clFrom env scope.names []:=cellsFrom_app _ _ _
  have lk:∀ x a,cenv.cells.lookup x = some a→(x,a) ∈ cellsFrom (L + 1) scope.names []∨env.cells.lookup x = some a:=fun x a h=>by
    rw [cells_eq,lookup_app] at h
    induction q:(cellsFrom (L + 1) scope.names []).lookup x with
    | some b=>(((rw [q] at h;cases h)));exact .inl ((fun x a h=>mem_of_lookup h:∀ x a,(cellsFrom (L + 1) scope.names []).lookup x = some a→(x,a) ∈ cellsFrom (L + 1) scope.names []) x _ q)
    | none=>rw [q] at h;exact .inr (clFrom_some h fun _ _ hh=>by cases hh)
  have uniq:∀ (i j:Nat) (x:Str) (k k':NameKind),scope.names[i]? = some (x,k)→scope.names[j]? = some (x,k')→i = j:=fun i j x k k' h1 h2=>by
    have hi:i < (scope.names.map (·.1)).length:=by
      rw [List.length_map]
      rcases Nat.lt_or_ge i scope.names.length with h | h
      · exact h
      · (exact none_some (List.getElem?_eq_none h) h1)
    exact (List.getElem?_inj hi O.nodup).mp (by rw [List.getElem?_map,List.getElem?_map,h1,h2];rfl)
  have freeLk:∀ (i:Nat) (x:Str) (a:Addr),scope.names[i]? = some (x,.free)→env.cells.lookup x = some a→cenv.cells.lookup x = some a:=fun i x a h1 h2=>by
    rw [cells_eq,lookup_app]
    have:(cellsFrom (L + 1) scope.names []).lookup x = none:=lookup_none_of fun b hb=>by
      obtain ⟨j,hj⟩:=List.getElem?_of_mem (cellsFrom_names _ _ _ _ hb)
      have:=uniq i j x _ _ h1 hj
      subst this
      (cases some_eq h1 hj)
    refine this▸?_
    exact clFrom_mem (List.mem_of_getElem? h1) h2
  have wlt:∀ a,W a→¬ (L≤a):=fun a ha hl=>by
    obtain ⟨o,e⟩:=F.wa a ha
    (exact none_some (hge a hl) e)
  have clt:∀ x a,env.cells.lookup x = some a→¬ (L≤a):=fun x a h=>wlt a (F.cw x a h)
  have nsL:h'.Ns L (fun _=>none):=(Heap.Ns.new s.heap (.type "dict")).keeps (pushCells_keeps _ _)
  have slotJ:∀ (i:Nat) (x:Str) (k:NameKind) (sl:Sl),(relS scope ks).names[i]? = some (x,k)→(capR ρ ix)[i]? = some (some sl)→∃ j kj,ix[i]? = some (some j)∧scope.names[i]? = some (x,.free)∧sc.names[j]? = some (x,kj)∧ρ[j]? = some (some sl)∧k = kj∧(kj = .cell∨kj = .free):=by
    intro i x k sl h1 h2
    refine bc fun g=>?_;obtain ⟨k₀,h3,h4⟩:=relS_names.mp h1
    refine g ?_;delta capR at h2
    rw [List.getElem?_map] at h2
    refine bc fun g=>?_;rcases O.at' i x k₀ h3 with ⟨rfl,j,kj,a1,a2,a3,a4⟩ | ⟨_,a1,a2⟩
    · refine g ?_;rw [a1] at h2
      rw [a2] at h4
      simp only [Option.map_some] at h2
      refine ⟨j,kj,a1,h3,a3,?_,(Option.some.inj h4).symm,a4⟩
      induction q:ρ[j]? with
      | none=>rw [q] at h2;simp at h2
      | some o=>rw [q] at h2;simp at h2;rw [h2]
    · refine g ?_;rw [a1] at h2;simp at h2
  have hv:∀ (i j:Nat) (x:Str) (kj:NameKind) (v:Value),scope.names[i]? = some (x,.free)→(kj = .cell∨kj = .free)→HasVal env s.heap x kj v→HasVal cenv h' x kj v:=fun i j x kj v h1 h2 h3=>by
    rcases h2 with rfl | rfl<;>(obtain ⟨a,e,hc⟩:=h3;exact ⟨a,freeLk i x a h1 e,hc.keeps hk⟩)
  have hb:∀ (i j:Nat) (x:Str) (kj:NameKind) (v:Value) (sl:Sl),scope.names[i]? = some (x,.free)→(kj = .cell∨kj = .free)→sc.names[j]? = some (x,kj)→ρ[j]? = some (some sl)→HasVal cenv h' x kj v→HasVal env s.heap x kj v:=fun i j x kj v sl h1 h2 h3 h4 h5=>by
    obtain ⟨u,hu,_⟩:=F.slot j x kj sl h3 h4
    rw [HasVal.uniq h5 (hv i j x kj u h1 h2 hu)];exact hu
  refine ⟨I',e',⟨fun a=>W a∨a = L∨∃ x,(x,a) ∈ cellsFrom (L + 1) scope.names [],?_,?_⟩,?_⟩
  · refine ⟨relabel_eq O F,O.kind,F.glob,F.bu,?_,⟨_,nsL⟩,.inr (.inl rfl),?_,?_,?_,?_,?_,?_,?_,?_,?_⟩
    · intro i j x k k' h1 h2
      obtain ⟨k₀,h3,_⟩:=relS_names.mp h1
      obtain ⟨k₁,h4,_⟩:=relS_names.mp h2
      exact uniq i j x _ _ h3 h4
    · rintro a (h | rfl | ⟨x,h⟩) hz
      · exact F.zw a h hz
      · obtain ⟨o,e⟩:=I.za _ hz;(exact none_some (hge _ (Nat.le_refl _)) e)
      · obtain ⟨o,e⟩:=I.za _ hz
        (exact none_some (hge a (Nat.le_of_lt (ok.empty x a h).2)) e)
    · rintro a (h | rfl | ⟨x,h⟩)
      · obtain ⟨o,e⟩:=F.wa a h;exact ⟨o,hk a o e⟩
      · obtain ⟨o,_,_,e,_⟩:=nsL;exact ⟨o,e⟩
      · obtain ⟨o,e,_⟩:=(ok.empty x a h).1;exact ⟨o,e⟩
    · intro i x k h1 h2
      refine bc fun g=>?_;obtain ⟨k₀,h3,h4⟩:=relS_names.mp h1
      rcases O.at' i x k₀ h3 with ⟨rfl,j,kj,a1,a2,a3,a4⟩ | ⟨hne,a1,a2⟩
      · obtain ⟨a,ov,b1,b2,b3⟩:=F.cell j x kj a3 a4
        refine g ?_;exact ⟨a,ov,freeLk i x a h3 b1,b2.keeps hk,.inl b3⟩
      · refine g ?_;(cases some_eq a2 h4)
        have hkc:k = .cell:=by
          rcases h2 with h | h
          · exact h
          · exact absurd h hne
        refine bc fun g=>?_;subst hkc
        obtain ⟨a₀,ha₀⟩:=cellsFrom_has scope.names (L + 1) x (List.mem_of_getElem? h3)
        obtain ⟨a,ha⟩:=lookup_of_mem ha₀
        have hm:=mem_of_lookup ha
        refine g ?_;refine ⟨a,none,?_,(ok.empty x a hm).1,.inr (.inr ⟨x,hm⟩)⟩
        rw [cells_eq,lookup_app,ha]
    · intro x y a h1 h2
      rcases lk x a h1 with p | p<;>rcases lk y a h2 with q | q
      · exact name_of_addr ok.apart p q
      · exact absurd (Nat.le_of_lt (ok.empty x a p).2) (clt y a q)
      · exact absurd (Nat.le_of_lt (ok.empty y a q).2) (clt x a p)
      · exact F.apart x y a p q
    · intro x a h
      rcases lk x a h with p | p
      · exact Nat.ne_of_gt (ok.empty x a p).2
      · rintro rfl;exact clt x _ p (Nat.le_refl _)
    · intro x a h
      rcases lk x a h with p | p
      · exact .inr (.inr ⟨x,p⟩)
      · exact .inl (F.cw x a p)
    · intro i x k sl h1 h2
      refine bc fun g=>?_;obtain ⟨j,kj,a1,a2,a3,a4,rfl,a5⟩:=slotJ i x k sl h1 h2
      obtain ⟨v,hv',r⟩:=F.slot j x k sl a3 a4
      refine g ?_;refine ⟨v,hv i j x k v a2 a5 hv',?_⟩
      induction sl with
      | val d=>exact rep_mono (fun a o _=>hk a o) (fun _ h=>h) r
      | own d=>obtain ⟨a,rfl,ha,ho⟩:=r;exact ⟨a,rfl,.inl ha,ho.mono (fun o=>hk a o) (fun a o _=>hk a o) fun _ h=>h⟩
    · intro i i' x y k k' d d' a b h1 h1' hne h2 h2' h3 h3'
      obtain ⟨j,kj,a1,a2,a3,a4,rfl,a5⟩:=slotJ i x k _ h1 h2
      obtain ⟨j',kj',b1,b2,b3,b4,rfl,b5⟩:=slotJ i' y k' _ h1' h2'
      have hj:j ≠ j':=by
        rintro rfl
        (cases some_eq a3 b3)
        exact hne (uniq i i' x _ _ a2 b2)
      exact F.ownA j j' x y _ _ d d' a b a3 b3 hj a4 b4 (hb i j x _ _ _ a2 a5 a3 a4 h3) (hb i' j' y _ _ _ b2 b5 b3 b4 h3')
    · intro i x k d a h1 h2 h3
      refine bc fun g=>?_;obtain ⟨j,kj,a1,a2,a3,a4,rfl,a5⟩:=slotJ i x k _ h1 h2
      have h3':=hb i j x _ _ _ a2 a5 a3 a4 h3
      have:=F.ownL j x _ d a a3 a4 h3'
      have ha:W a:=by
        obtain ⟨v,hv',a',e,wa,_⟩:=F.slot j x _ _ a3 a4
        have:=HasVal.uniq h3' hv'
        rw [← this] at e;cases e;exact wa
      refine g ?_;refine ⟨fun q=>wlt a ha (by rw [q];exact Nat.le_refl _),fun y b hy=>?_⟩
      rcases lk y b hy with p | p
      · rintro rfl;exact wlt a ha (Nat.le_of_lt (ok.empty y a p).2)
      · exact this.2 y b p
  · rintro a (h | rfl | ⟨x,h⟩)
    · exact .inl h
    · exact .inr (hge _ (Nat.le_refl _))
    · exact .inr (hge _ (Nat.le_of_lt (ok.empty x a h).2))
  · rintro a (rfl | ⟨i,x,k,h1,⟨x',k',h2,h3⟩,h4⟩)
    · exact hge _ (Nat.le_refl _)
    · obtain ⟨k₀,h5,h6⟩:=relS_names.mp h1
      (cases some_eq h2 h5)
      rcases lk x a h4 with p | p
      · exact hge _ (Nat.le_of_lt (ok.empty x a p).2)
      · rcases O.at' i x k' h2 with ⟨rfl,_⟩ | ⟨_,_,h7⟩
        · exact absurd rfl h3
        · -- own,and not a cell: no address of its own
          exfalso
          rw [cells_eq,lookup_app] at h4
          by_cases hc:k' = .cell
          · subst hc
            obtain ⟨a₀,ha₀⟩:=cellsFrom_has scope.names (L + 1) x (List.mem_of_getElem? h2)
            obtain ⟨a₁,ha₁⟩:=lookup_of_mem ha₀
            (((rw [ha₁] at h4;cases h4)))
            exact clt x _ p (Nat.le_of_lt (ok.empty x _ (mem_of_lookup ha₁)).2)
          · have:(cellsFrom (L + 1) scope.names []).lookup x = none:=lookup_none_of fun b hb=>by
              refine bc fun g=>?_;obtain ⟨j,hj⟩:=List.getElem?_of_mem (cellsFrom_names _ _ _ _ hb)
              have:=uniq i j x _ _ h2 hj
              subst this
              refine g ?_;(cases some_eq h2 hj);exact hc rfl
            rw [this] at h4
            simp only at h4
            have:∀ (names:List (Str × NameKind)) (acc:List (Str × Addr)),(clFrom env names acc).lookup x = some a→(x,NameKind.free) ∈ names∨acc.lookup x = some a:=by
              intro names
              induction names with
              | nil=>exact fun acc h=>.inr h
              | cons p r ih=>
                obtain ⟨y,k⟩:=p
                intro acc h
                skip
                rcases ih _ h with q | q
                · exact .inl (List.mem_cons_of_mem _ q)
                · by_cases hk':(k == NameKind.free) = true
                  · rw [if_pos hk'] at q
                    induction hy:env.cells.lookup y with
                    | none=>rw [hy] at q;exact .inr q
                    | some a'=>
                      rw [hy] at q
                      dsimp only [List.lookup_cons] at q
                      induction hxy:x == y with
                      | true=>left;rw [beq_iff_eq.mp hxy,beq_iff_eq.mp hk'];exact List.mem_cons_self
                      | false=>rw [hxy] at q;exact .inr q
                  · rw [if_neg hk'] at q;exact .inr q
            rcases this _ _ h4 with q | q
            · obtain ⟨j,hj⟩:=List.getElem?_of_mem q
              have:=uniq i j x _ _ h2 hj
              subst this
              (cases some_eq h2 hj);exact h3 rfl
            · cases q
end
end Mine
end
section
open PySem PySem.W PyProof.Rows
namespace Mine
inductive PostO (c:Cx) (s:Shared) (Z:Addr→Prop) (d:D) (v:Value) (s':Shared):Prop
  | mk (Z':Addr→Prop) (a:Addr) (hv:v = .ref a) (i:Inv c s' Z') (e:Evo no s Z s' Z') (o:OwnRep c s'.heap Z' a d) (z:¬ Z' a) (f:s.heap.get? a = none):PostO c s Z d v s'
noncomputable def EvO (c:Cx) (n:Nat) (sc:Scope) (ρ:List (Option Sl)) (e:Expr) (d:D):Prop:=
  ∀ A s Z W env,Room A n→Inv c s Z→Fr c sc env ρ s Z W→wpAny (model c.prog c.w) A (eval e env) (PostO c s Z d) noE s
section
variable {c:Cx} {n:Nat} {sc:Scope} {ρ:List (Option Sl)}
theorem OwnRep.live {h:Heap} {Z:Addr→Prop} {a:Addr} {d:D} (x:OwnRep c h Z a d):∃ o,h.get? a = some o:=by
  cases d<;>first | exact x.elim | skip
  · obtain ⟨vs,⟨o,_,ho,_⟩,_⟩:=x;exact ⟨o,ho⟩
  · obtain ⟨_,kvs,⟨o,es,ep,ho,_⟩,_⟩:=x;exact ⟨o,ho⟩
theorem OwnRep.frozen {h:Heap} {Z:Addr→Prop} {a:Addr} {d:D} (x:OwnRep c h Z a d):Rep c h (Zadd Z a) (.ref a) d:=by
  cases d<;>first | exact x.elim | skip
  · obtain ⟨vs,hl,r⟩:=x;exact .list (.inr rfl) hl (reps_mono (fun _ _ _ e=>e) (fun _ h=>.inl h) r)
  · obtain ⟨hs,kvs,hl,r⟩:=x;exact .dict (.inr rfl) hs hl (repE_mono (fun _ _ _ e=>e) (fun _ h=>.inl h) r)
theorem Inv.freeze {s:Shared} {Z:Addr→Prop} {a:Addr} (I:Inv c s Z) (h:∃ o,s.heap.get? a = some o):Inv c s (Zadd Z a):=
  ⟨I.base,fun a o e=>.inl (I.zb a o e),fun b hb=>by
    rcases hb with hb | rfl
    · exact I.za b hb
    · exact h,I.os,I.bare⟩
theorem PostO.post {s s':Shared} {Z:Addr→Prop} {d:D} {v:Value} (h:PostO c s Z d v s'):Post c s Z d v s':=by
  obtain ⟨Z',a,rfl,I,e,ho,hz,hf⟩:=h
  refine ⟨Zadd Z' a,I.freeze ho.live,⟨e.keep,e.gens,fun x h=>.inl (e.zmono x h),fun x h=>?_⟩,ho.frozen⟩
  rcases h with h | rfl
  · exact e.znew x h
  · exact .inr (.inr hf)
theorem EvO.ev {e:Expr} {d:D} (h:EvO c n sc ρ e d):EvE c n sc ρ e d:=fun A s Z W env R I F=>wpAny_mono (h A s Z W env R I F) (fun _ _ x=>x.post) fun _ _ x=>x
structure CompE (e:Expr) (k:Nat) (g:Comprehension):Prop where
  hg:(clausesOf e)[k]? = some g
  ha:(g.is_async != 0) = false
  hq:∀ it acc env,(Code.compLoop e k it acc env).quiet = true
  hgeL:∀ A it acc env,Around.under A (.compLoop e k it acc env) = A
  hdenL:∀ (M:Program) w it acc env,(model M w).den (.compLoop e k it acc env) = (compTurn e k it acc env).onRaise (fun x=>do noteFrame x env;theTreesLotGoes x)
  hgeS:∀ A it acc env,Around.under A (.compStart e k it acc env) = A
  hdenS:∀ (M:Program) w it acc env,(model M w).den (.compStart e k it acc env) = (compStart e k it acc env).onRaise (fun x=>do noteFrame x env;standAt theWindowsPlace)
noncomputable def LoopJ (c:Cx) (n:Nat) (sc:Scope) (N:Nat→Prop) (e:Expr) (k:Nat) (tgt:Expr) (ρ:List (Option Sl)) (xs:List D) (a a':D):Prop:=
  ∀ A s Z W env Da it fp St,Room A n→Inv c s Z→Fr c sc env ρ s Z W→OwnRep c s.heap Z Da a→¬ Z Da→¬ W Da→(∃ o,s.heap.get? Da = some o) →
      IterP c A true tgt it fp St→St xs Z s.heap→(∀ b ∈ fp,¬ Z b)→(∀ b ∈ fp,¬ W b)→Da ∉ fp →
      codeAny (model c.prog c.w) A (.compLoop e k (.ref it) (.ref Da) env) (LoopR c sc env ρ N fp Da a' s Z W) s
theorem start_loop {N:Nat→Prop} {e:Expr} {k:Nat} {g:Comprehension} (E:CompE e k g) {tgt:Expr} {xs:List D} {a a':D} (hl:LoopJ c n sc N e k tgt ρ xs a a') {A:Around} {s:Shared} {Z W:Addr→Prop} {env:Env} {Da it:Addr} {fp:List Addr} {St:StT}
    (R:Room A n) (I:Inv c s Z) (F:Fr c sc env ρ s Z W) (ho:OwnRep c s.heap Z Da a) (hz:¬ Z Da) (hw:¬ W Da) (ip:IterP c A true tgt it fp St) (st:St xs Z s.heap) (hfz:∀ b ∈ fp,¬ Z b) (hfw:∀ b ∈ fp,¬ W b) (hDf:Da ∉ fp) :
    codeAny (model c.prog c.w) A (.compStart e k (.ref it) (.ref Da) env) (LoopR c sc env ρ N fp Da a' s Z W) s:=by
  have h0:=hl A s Z W env Da it fp St R I F ho hz hw ho.live ip st hfz hfw hDf
  exact comp_start E.hg E.ha E.hq E.hgeS E.hdenS h0 (ip.self rfl xs s Z _ st I h0)
theorem body_inner {N:Nat→Prop} {e:Expr} {k:Nat} {g:Comprehension} (E:CompE e k g) {iter tgt:Expr} {xs:List D} {a a':D} (hi:EvI c true n sc ρ iter tgt xs) (hl:LoopJ c n sc N e k tgt ρ xs a a') :
    BodyJ c n sc N (inner e k iter) ρ a a':=by
  intro A s Z W env Da R I F ho hz hw hlive
  delta inner
  refine wpAny_bind (wpAny_mono (hi.2 A s Z W env R I F) (fun x s₁ h₁=>?_) fun _ _ x=>x)
  refine wpAny_bind (wpAny_standAt (wpAny_bind (wpAny_of_eq (hi.1 env x) (wpAny_bind (wpAny_holding (wpAny_mono h₁ (fun it s₂ h₂=>?_) fun _ _ x=>x))))))
  refine bc fun g=>?_;obtain ⟨i,fp,St,Z₂,rfl,M⟩:=h₂
  have F₂:=F.grow M.evo
  have dead:∀ b,(∃ o,s.heap.get? b = some o)→b ∉ fp:=(by rintro b ⟨o,e⟩ hb;exact by exact none_some (M.fresh b hb) e)
  have hz₂:¬ Z₂ Da:=fun q=>by
    rcases M.evo.znew Da q with h | h | h
    · exact hz h
    · exact h
    · obtain ⟨o,e⟩:=hlive;exact none_some h e
  have ho₂:OwnRep c s₂.heap Z₂ Da a:=ho.mono (fun o=>M.evo.keep Da o id) (fun b o _=>M.evo.keep b o id) M.evo.zmono
  refine g ?_;refine wpAny_bind (wpAny_runOwn (codeAny_mono (start_loop (A:=A) E hl R M.inv F₂ ho₂ hz₂ hw (M.ip A R.h) M.st M.off (fun b hb h=>dead b (F.wa b h) hb) (dead Da hlive)) fun r s' h=>?_))
  obtain ⟨rfl,Z',W',S,ho',hz'⟩:=h
  refine wpAny_pure ⟨Z',W',(Stp.grow (X:=XAcc sc env N Da) M.inv M.evo F).trans S (fun x hx=>?_) (fun x hx=>?_),ho',hz'⟩
  · rcases hx with h | h
    · exact .inl h
    · exact .inr (M.fresh x h)
  · rcases hx with h | rfl
    · exact F₂.live x h
    · exact ho₂.live
theorem comp_core {e:Expr} {g:Comprehension} {gs:List Comprehension} (E:CompE e 0 g) (hcl:clausesOf e = g :: gs) {scope:Scope} {ix:List (Option Nat)} {ks:List NameKind} (O:CompOk scope sc ix ks) {xs:List D} {T:String} {data:Data} {d₀ d:D}
    (hi:EvI c true n sc ρ g.iter g.target xs) (hsz:sizeOk data) (hd₀:∀ (s:Shared) Z,Inv c s Z→OwnRep c (s.heap.push { cls:=.type T,data }) Z s.heap.objs.size d₀)
    (hl:LoopJ c n (relS scope ks) (ownN scope) e 0 g.target (capR ρ ix) xs d₀ d) {A:Around} {s:Shared} {Z W:Addr→Prop} {env:Env} (R:Room A n) (I:Inv c s Z) (F:Fr c sc env ρ s Z W) {pos:Pos} {use:Option (Value→Sem Unit)} {Q:Value→Shared→Prop}
    (hk:∀ Da C s' Z' m,Inv c s' Z'→Evo no s Z s' Z'→OwnRep c s'.heap Z' Da d→¬ Z' Da→s.heap.get? Da = none→s.heap.get? C = none→¬ Z' C→C ≠ Da→s'.heap.Ns C m→compPost (model c.prog c.w) A noE use Q (.ref Da) C (.ok .next) s') :
    wpAny (model c.prog c.w) A (comprehension e scope env pos (newObj (.type T) data) false (eval g.iter env) use) Q noE s:=by
  have hfree:∀ x ∈ scope.names,x.2 = .free→∃ a,env.cells.lookup x.1 = some a:=fun x hx h=>by
    obtain ⟨i,hi⟩:=List.getElem?_of_mem hx
    obtain ⟨y,k⟩:=x
    simp only at h
    refine bc fun g=>?_;subst h
    rcases O.at' i y _ hi with ⟨_,j,kj,a1,a2,a3,a4⟩ | ⟨h,_⟩
    · obtain ⟨a,ov,b1,_⟩:=F.cell j y kj a3 a4;refine g ?_;exact ⟨a,b1⟩
    · exact absurd rfl h
  have uniq:∀ (i j:Nat) (x:Str) (k k':NameKind),scope.names[i]? = some (x,k)→scope.names[j]? = some (x,k')→i = j:=fun i j x k k' h1 h2=>by
    have hi:i < (scope.names.map (·.1)).length:=by
      rw [List.length_map]
      rcases Nat.lt_or_ge i scope.names.length with h | h
      · exact h
      · exact none_some (List.getElem?_eq_none h) h1
    exact (List.getElem?_inj hi O.nodup).mp (by rw [List.getElem?_map,List.getElem?_map,h1,h2];rfl)
  refine wpAny_comprehension_free (use:=use) (cl:=clFrom env scope.names []) hcl (hi.1 env) (closureFor_eq hfree) O.kind (fun x hx hloc=>?_) ?_
  · obtain ⟨i,hi⟩:=List.getElem?_of_mem hx
    obtain ⟨y,k⟩:=x
    simp only at hloc
    subst hloc
    exact lookup_of_nodup uniq hi
  · refine wpAny_mono (hi.2 A s Z W env R I F) (fun x s₁ h₁=>wpAny_mono h₁ (fun it s₂ h₂=>?_) fun _ _ x=>x) fun _ _ x=>x
    refine bc fun g=>?_;obtain ⟨i,fp,St,Z₂,rfl,M⟩:=h₂
    refine g ?_;refine wpAny_newObj_type ?_ hsz
    have e₃:Evo no s₂ Z₂ { s₂ with heap:=s₂.heap.push { cls:=.type T,data } } Z₂:=Evo.push0 _ s₂.toks
    have I₃:Inv c { s₂ with heap:=s₂.heap.push { cls:=.type T,data } } Z₂:=M.inv.push0 _ s₂.toks
    have ho₃:=hd₀ s₂ Z₂ M.inv
    generalize hs₃:({ s₂ with heap:=s₂.heap.push { cls:=.type T,data } }:Shared) = s₃ at e₃ I₃
    have hh₃:s₂.heap.push { cls:=.type T,data } = s₃.heap:=by rw [← hs₃]
    rw [hh₃] at ho₃
    generalize hDa:s₂.heap.objs.size = Da at ho₃
    have fDa₂:s₂.heap.get? Da = none:=by rw [← hDa];exact fresh_size _
    refine compEnv_new ?_
    obtain ⟨I₄,e₄,⟨W₄,F₄,hW₄⟩,hloc⟩:=comp_frame O ((F.grow M.evo).grow e₃) I₃
    generalize hs₄:({ s₃ with heap:=pushCells (s₃.heap.push { cls:=.type "dict",data:=.dict #[] }) scope.names }:Shared) = s₄ at I₄ e₄ F₄
    have e₂₄:=e₃.trans e₄
    have nW₄:∀ b,(∃ o,s₃.heap.get? b = some o)→¬ W b→¬ W₄ b:=fun b ⟨o,eo⟩ h q=>by
      rcases hW₄ b q with h' | h'
      · exact h h'
      · exact none_some h' eo
    have hDaf:Da ∉ fp:=fun hb=>by
      refine bc fun g=>?_;obtain ⟨o,e⟩:=(M.ip A R.h).ok.live _ _ _ M.st Da hb
      exact none_some fDa₂ e
    have fDa:s.heap.get? Da = none:=M.evo.back fDa₂
    refine codeAny_mono (start_loop (A:=A) E hl R I₄ F₄ (ho₃.mono (fun o=>e₄.keep Da o id) (fun b o _=>e₄.keep b o id) e₄.zmono) (fun q=>by obtain ⟨o,e⟩:=M.inv.za Da q;exact none_some fDa₂ e) (nW₄ Da ho₃.live (fun q=>by obtain ⟨o,e⟩:=F.wa Da q;exact none_some fDa e)) (M.ip A R.h) ((M.ip A R.h).ok.frame _ _ _ _ _ M.st (fun b _ o=>e₂₄.keep b o id) (fun b o _=>e₂₄.keep b o id) fun _ h=>h) M.off (fun b hb=>nW₄ b ((fun b hb=>let ⟨o,e⟩:=(M.ip A R.h).ok.live _ _ _ M.st b hb;⟨o,e₃.keep b o id e⟩:∀ b ∈ fp,∃ o,s₃.heap.get? b = some o) b hb) fun q=>(fun b ⟨o,e⟩ hb=>by exact none_some (M.fresh b hb) e:∀ b,(∃ o,s.heap.get? b = some o)→b ∉ fp) b (F.wa b q) hb) hDaf) fun r s' h=>?_
    obtain ⟨rfl,Z',W',S,ho',hz'⟩:=h
    obtain ⟨m,hm⟩:=S.fr.ns
    have fC:s₃.heap.get? s₃.heap.objs.size = none:=fresh_size _
    refine hk Da s₃.heap.objs.size s' Z' m S.inv ((M.evo.trans e₂₄).trans' S.evo fun x hx=>?_) ho' hz' fDa (M.evo.back (e₃.back fC)) (S.fr.zw _ S.fr.wl) (fun q=>?_) hm
    · rcases hx with (h | rfl) | h
      · exact .inr (M.evo.back (e₃.back (hloc x h)))
      · exact .inr fDa
      · exact .inr (M.fresh x h)
    · obtain ⟨o,e⟩:=ho₃.live
      rw [← q,fC] at e;cases e
theorem own_list₀ {s:Shared} {Z:Addr→Prop}:OwnRep c (s.heap.push { cls:=.type "list",data:=.seq ([]:List Value).toArray }) Z s.heap.objs.size (.list []):=
  ⟨[],⟨_,0,Heap.get?_push_size _ rfl,rfl,rfl,rfl⟩,.nil⟩
theorem own_dict₀ (B:Base c) {s:Shared} {Z:Addr→Prop} (I:Inv c s Z):OwnRep c (s.heap.push { cls:=.type "dict",data:=.dict #[] }) Z s.heap.objs.size (.dict []):=
  ⟨B.notSys I (Nat.le_refl _),[],Heap.DictOf.new _,.nil⟩
theorem compPost_val {A:Around} {s s':Shared} {Z Z':Addr→Prop} {Da C:Addr} {d:D} {m:Str→Option Value} (I:Inv c s' Z') (e:Evo no s Z s' Z') (ho:OwnRep c s'.heap Z' Da d) (hz:¬ Z' Da) (hf:s.heap.get? Da = none) (hC:s.heap.get? C = none) (hzC:¬ Z' C)
    (hne:C ≠ Da) (hm:s'.heap.Ns C m):compPost (model c.prog c.w) A noE none (PostO c s Z d) (.ref Da) C (.ok .next) s':=by
  refine ⟨m,hm,fun h' hs'=>?_⟩
  obtain ⟨I',e'⟩:=one_obj (tk:=s'.toks) I hzC hs'
  exact ⟨Z',Da,rfl,I',e.trans' e' (fun x hx=>.inr (hx▸hC)),ho.mono (fun o=>hs'.extBut Da o (Ne.symm hne)) (fun b o z=>hs'.extBut b o fun q=>hzC (q▸z)) (fun _ h=>h),hz,hf⟩
theorem eval_DictComp (kx vx gens scope pos) (env:Env):eval (.DictComp kx vx gens scope pos) env =
    comprehension (.DictComp kx vx gens scope pos) scope env (firstIterPos gens pos) newDict (firstAsync gens) (firstIter gens env):=by rfl
theorem ce_list1 {elt tgt iter:Expr} {ifs:List Expr} {scope:Scope} {pos:Pos}:CompE (.ListComp elt [⟨tgt,iter,ifs,0⟩] scope pos) 0 ⟨tgt,iter,ifs,0⟩:=
  ⟨rfl,rfl,fun _ _ _=>rfl,fun _ _ _ _=>rfl,fun _ _ _ _ _=>rfl,fun _ _ _ _=>rfl,fun _ _ _ _ _=>rfl⟩
theorem ce_list2 {elt tgt iter:Expr} {ifs:List Expr} {g:Comprehension} {scope:Scope} {pos:Pos}:CompE (.ListComp elt [⟨tgt,iter,ifs,0⟩,g] scope pos) 0 ⟨tgt,iter,ifs,0⟩:=
  ⟨rfl,rfl,fun _ _ _=>rfl,fun _ _ _ _=>rfl,fun _ _ _ _ _=>rfl,fun _ _ _ _=>rfl,fun _ _ _ _ _=>rfl⟩
theorem ce_list2b {elt tgt iter:Expr} {ifs:List Expr} {g:Comprehension} {scope:Scope} {pos:Pos}:CompE (.ListComp elt [g,⟨tgt,iter,ifs,0⟩] scope pos) 1 ⟨tgt,iter,ifs,0⟩:=
  ⟨rfl,rfl,fun _ _ _=>rfl,fun _ _ _ _=>rfl,fun _ _ _ _ _=>rfl,fun _ _ _ _=>rfl,fun _ _ _ _ _=>rfl⟩
theorem ce_dict1 {kx vx tgt iter:Expr} {ifs:List Expr} {scope:Scope} {pos:Pos}:CompE (.DictComp kx vx [⟨tgt,iter,ifs,0⟩] scope pos) 0 ⟨tgt,iter,ifs,0⟩:=
  ⟨rfl,rfl,fun _ _ _=>rfl,fun _ _ _ _=>rfl,fun _ _ _ _ _=>rfl,fun _ _ _ _=>rfl,fun _ _ _ _ _=>rfl⟩
section
variable {scope:Scope} {ix:List (Option Nat)} {ks:List NameKind} {elt kx vx tgt iter tgt' iter':Expr} {ifs ifs':List Expr} {pos:Pos} {xs:List D} {d:D}
theorem loop_list1 {N:Nat→Prop} {sc:Scope} {ρ:List (Option Sl)} {a a':D} (h:RunsT (TurnJ c n sc N tgt ifs (emitL elt) ρ) xs a a'):LoopJ c n sc N (.ListComp elt [⟨tgt,iter,ifs,0⟩] scope pos) 0 tgt ρ xs a a':=
  comp_loop ce_list1.hq (fun _ _ _=>turn_list1) ce_list1.hgeL ce_list1.hdenL xs a a' h
theorem loop_list2b {N:Nat→Prop} {sc:Scope} {ρ:List (Option Sl)} {a a':D} (h:RunsT (TurnJ c n sc N tgt' ifs' (emitL elt) ρ) xs a a'):LoopJ c n sc N (.ListComp elt [⟨tgt,iter,ifs,0⟩,⟨tgt',iter',ifs',0⟩] scope pos) 1 tgt' ρ xs a a':=
  comp_loop ce_list2b.hq (fun _ _ _=>turn_list2b) ce_list2b.hgeL ce_list2b.hdenL xs a a' h
theorem loop_list2 {N:Nat→Prop} {sc:Scope} {ρ:List (Option Sl)} {a a':D} (h:RunsT (TurnJ c n sc N tgt ifs (inner (.ListComp elt [⟨tgt,iter,ifs,0⟩,⟨tgt',iter',ifs',0⟩] scope pos) 1 iter') ρ) xs a a') :
    LoopJ c n sc N (.ListComp elt [⟨tgt,iter,ifs,0⟩,⟨tgt',iter',ifs',0⟩] scope pos) 0 tgt ρ xs a a':=
  comp_loop ce_list2.hq (fun _ _ _=>turn_list2a) ce_list2.hgeL ce_list2.hdenL xs a a' h
theorem loop_dict1 {N:Nat→Prop} {sc:Scope} {ρ:List (Option Sl)} {a a':D} (h:RunsT (TurnJ c n sc N tgt ifs (emitD kx vx) ρ) xs a a'):LoopJ c n sc N (.DictComp kx vx [⟨tgt,iter,ifs,0⟩] scope pos) 0 tgt ρ xs a a':=
  comp_loop ce_dict1.hq (fun _ _ _=>turn_dict1) ce_dict1.hgeL ce_dict1.hdenL xs a a' h
theorem evo_list1 (ix:List (Option Nat)) (ks:List NameKind) (hO:compOk scope sc ix ks = true) (hi:EvI c true n sc ρ iter tgt xs) (h:RunsT (TurnJ c n (relS scope ks) (ownN scope) tgt ifs (emitL elt) (capR ρ ix)) xs (.list []) d):EvO c n sc ρ (.ListComp elt [⟨tgt,iter,ifs,0⟩] scope pos) d:=
  fun A s Z W env R I F=>by
    rw [eval_ListComp]
    exact comp_core (g:=⟨tgt,iter,ifs,0⟩) (gs:=[]) ce_list1 rfl (compOk_ok hO) hi (by size_fits) (fun _ _ _=>own_list₀) (loop_list1 h) R I F fun Da C s' Z' m a b c d e f g h i=>compPost_val a b c d e f g h i
theorem evo_list2 (ix:List (Option Nat)) (ks:List NameKind) (hO:compOk scope sc ix ks = true) (hi:EvI c true n sc ρ iter tgt xs)
    (h:RunsT (TurnJ c n (relS scope ks) (ownN scope) tgt ifs (inner (.ListComp elt [⟨tgt,iter,ifs,0⟩,⟨tgt',iter',ifs',0⟩] scope pos) 1 iter') (capR ρ ix)) xs (.list []) d):EvO c n sc ρ (.ListComp elt [⟨tgt,iter,ifs,0⟩,⟨tgt',iter',ifs',0⟩] scope pos) d:=
  fun A s Z W env R I F=>by
    rw [eval_ListComp]
    exact comp_core (g:=⟨tgt,iter,ifs,0⟩) (gs:=[_]) ce_list2 rfl (compOk_ok hO) hi (by size_fits) (fun _ _ _=>own_list₀) (loop_list2 h) R I F fun Da C s' Z' m a b c d e f g h i=>compPost_val a b c d e f g h i
theorem evo_dict1 (B:Base c) (ix:List (Option Nat)) (ks:List NameKind) (hO:compOk scope sc ix ks = true) (hi:EvI c true n sc ρ iter tgt xs) (h:RunsT (TurnJ c n (relS scope ks) (ownN scope) tgt ifs (emitD kx vx) (capR ρ ix)) xs (.dict []) d):EvO c n sc ρ (.DictComp kx vx [⟨tgt,iter,ifs,0⟩] scope pos) d:=
  fun A s Z W env R I F=>by
    rw [eval_DictComp]
    exact comp_core (g:=⟨tgt,iter,ifs,0⟩) (gs:=[]) ce_dict1 rfl (compOk_ok hO) hi (by size_fits) (fun _ _ I=>own_dict₀ B I) (loop_dict1 h) R I F fun Da C s' Z' m a b c d e f g h i=>compPost_val a b c d e f g h i
end
end
end Mine
end
section
open PySem PySem.W PyProof.Rows
namespace Mine
section
variable {c:Cx} {n:Nat} {sc:Scope} {ρ:List (Option Sl)}
structure SStp (c:Cx) (sc:Scope) (env:Env) (ρ':List (Option Sl)) (s:Shared) (Z W:Addr→Prop) (s':Shared) (Z' W':Addr→Prop):Prop where
  inv:Inv c s' Z'
  evo:Evo W s Z s' Z'
  fr:Fr c sc env ρ' s' Z' W'
  wnew:∀ a,W' a→W a∨s.heap.get? a = none
  wl:∀ a,W a→∃ o,s'.heap.get? a = some o
theorem SStp.trans {env:Env} {ρ₁ ρ₂:List (Option Sl)} {s s₁ s₂:Shared} {Z W Z₁ W₁ Z₂ W₂:Addr→Prop} (a:SStp c sc env ρ₁ s Z W s₁ Z₁ W₁) (b:SStp c sc env ρ₂ s₁ Z₁ W₁ s₂ Z₂ W₂):SStp c sc env ρ₂ s Z W s₂ Z₂ W₂:=
  ⟨b.inv,a.evo.trans' b.evo a.wnew,b.fr,fun x h=>by
    rcases b.wnew x h with h | h
    · exact a.wnew x h
    · refine .inr (a.evo.gone (fun q=>?_) h)
      obtain ⟨o,e⟩:=a.wl x q
      rw [h] at e
      exact (nomatch e),fun x h=>by
    by_cases q:W₁ x
    · exact b.wl x q
    · obtain ⟨o,e⟩:=a.wl x h;exact ⟨o,b.evo.keep x o q e⟩⟩
theorem Stp.s {N:Nat→Prop} {env:Env} {ρ':List (Option Sl)} {s s':Shared} {Z W Z' W':Addr→Prop} (F:Fr c sc env ρ s Z W) (a:Stp c sc env ρ' (Loc sc env N) s Z W s' Z' W'):SStp c sc env ρ' s Z W s' Z' W':=
  ⟨a.inv,a.evo.wider fun x h=>h.w F,a.fr,a.wnew,fun x h=>by
    by_cases q:Loc sc env N x
    · exact a.fr.wa x (q.w a.fr)
    · obtain ⟨o,e⟩:=F.wa x h;exact ⟨o,a.evo.keep x o q e⟩⟩
theorem SStp.grow {env:Env} {s:Shared} {Z W:Addr→Prop} {s':Shared} {Z':Addr→Prop} (I:Inv c s' Z') (e:Evo no s Z s' Z') (F:Fr c sc env ρ s Z W):SStp c sc env ρ s Z W s' Z' W:=
  ⟨I,e.wider fun _ h=>h.elim,F.grow e,fun _ h=>.inl h,fun a h=>(by refine bc fun g=>?_;obtain ⟨o,e'⟩:=F.wa a h;exact g (⟨o,e.keep a o id e'⟩))⟩
theorem SStp.less {env:Env} {ρ₁ ρ₂:List (Option Sl)} {s s':Shared} {Z W Z' W':Addr→Prop} (a:SStp c sc env ρ₁ s Z W s' Z' W') (h:Lss ρ₂ ρ₁):SStp c sc env ρ₂ s Z W s' Z' W':=⟨a.inv,a.evo,a.fr.less h,a.wnew,a.wl⟩
noncomputable def AsgS (c:Cx) (n:Nat) (sc:Scope) (tgt:Expr) (d:D) (ρ ρ':List (Option Sl)):Prop:=
  ∀ A s Z W env v,Room A n→Inv c s Z→Fr c sc env ρ s Z W→Rep c s.heap Z v d→wpAny (model c.prog c.w) A (assign tgt env v) (fun _ s'=>∃ Z' W',SStp c sc env ρ' s Z W s' Z' W') noE s
noncomputable def AsgSs (c:Cx) (n:Nat) (sc:Scope) (tgts:List Expr) (ds:List D) (ρ ρ':List (Option Sl)):Prop:=
  tgts.all noStar = true∧tgts.length = ds.length∧∀ A s Z W env vs,Room A n→Inv c s Z→Fr c sc env ρ s Z W→Reps c s.heap Z vs ds →
    wpAny (model c.prog c.w) A (assignInOrder ((assignEach tgts env).map (·.2)) vs) (fun _ s'=>∃ Z' W',SStp c sc env ρ' s Z W s' Z' W') noE s
theorem Asg.s {N:Nat→Prop} {tgt:Expr} {d:D} {ρ':List (Option Sl)} (h:Asg c n sc N tgt d ρ ρ'):AsgS c n sc tgt d ρ ρ':=fun A s Z W env v R I F r=>
  wpAny_mono (h A s Z W env v R I F r) ((by rintro _ s' ⟨Z',W',S⟩;exact ⟨Z',W',S.s F⟩)) fun _ _ x=>x
theorem asgSs_nil:AsgSs c n sc [] [] ρ ρ:=⟨rfl,rfl,fun A s Z W env vs _ I F r=>by
  (((replace r:=r.iE;induction r)));exact wpAny_pure ⟨Z,W,SStp.grow I Evo.refl F⟩⟩
theorem asgSs_cons {t:Expr} {ts:List Expr} {d:D} {ds:List D} {ρ₁ ρ₂:List (Option Sl)} (h:AsgS c n sc t d ρ ρ₁) (hr:AsgSs c n sc ts ds ρ₁ ρ₂) (he:noStar t = true:=by rfl):AsgSs c n sc (t :: ts) (d :: ds) ρ ρ₂:=by
  refine ⟨by rw [List.all_cons,he,hr.1];rfl,by simp [hr.2.1],fun A s Z W env vs R I F r=>?_⟩
  replace r:=r.iQ;induction r with | mk rv rs=>?_
  rename_i v vs
  rw [assignEach_cons he]
  skip
  refine wpAny_bind (wpAny_holding (wpAny_mono (h A s Z W env v R I F rv) (?_) fun _ _ x=>x));rintro _ s₁ ⟨Z₁,W₁,S₁⟩;refine ?_
  refine wpAny_mono (hr.2.2 A s₁ Z₁ W₁ env vs R S₁.inv S₁.fr (S₁.evo.reps F.zw rs)) (?_) fun _ _ x=>x;rintro _ s₂ ⟨Z₂,W₂,S₂⟩;refine ?_
  exact ⟨Z₂,W₂,S₁.trans S₂⟩
theorem asgS_tuple {ts:List Expr} {ds:List D} {ρ':List (Option Sl)} {k:Nat} {pos:Pos} (h:AsgSs c n sc ts ds ρ ρ'):AsgS c n sc (.Tuple ts k pos) (.tuple ds) ρ ρ':=by
  intro A s Z W env v R I F r
  replace r:=r.iT;induction r with | mk z l rr=>?_
  rename_i a vs
  refine wpAny_assign_Tuple R.h l (by rw [assignEach_len h.1,h.2.1,← rr.length];rfl) (assignEach_star h.1) fun h' hk=>?_
  have hko:∀ b o,s.heap.get? b = some o→h'.get? b = some o:=fun b o e=>hk b o (fun q=>by rw [q,fresh_size] at e;cases e) e
  have e₁:Evo no s Z { s with heap:=h' } Z:=evo_w (tk:=s.toks) fun b o _ e=>hko b o e
  have I₁:Inv c { s with heap:=h' } Z:=inv_w (W:=no) (tk:=s.toks) I (fun _ h=>h.elim) fun b o _ e=>hko b o e
  refine wpAny_mono (h.2.2 A _ Z W env vs R I₁ (F.grow e₁) (by exact e₁.reps no_z rr)) (?_) fun _ _ x=>x;rintro _ s₂ ⟨Z₂,W₂,S₂⟩;refine ?_
  exact ⟨Z₂,W₂,(SStp.grow I₁ e₁ F).trans S₂⟩
inductive Out where
  | next | brk | cont
  | ret (d:D)
noncomputable def OutRep (c:Cx) (h:Heap) (Z:Addr→Prop):Flow→Out→Prop
  | .next,.next=>True
  | .brk,.brk=>True
  | .cont,.cont=>True
  | .ret v,.ret d=>Rep c h Z v d
  | _,_=>False
inductive SPost (c:Cx) (sc:Scope) (env:Env) (ρ':List (Option Sl)) (o:Out) (s:Shared) (Z W:Addr→Prop) (f:Flow) (s':Shared):Prop
  | mk (Z' W':Addr→Prop) (t:SStp c sc env ρ' s Z W s' Z' W') (r:OutRep c s'.heap Z' f o):SPost c sc env ρ' o s Z W f s'
noncomputable def Ex (c:Cx) (n:Nat) (sc:Scope) (st:Stmt) (ρ:List (Option Sl)) (o:Out) (ρ':List (Option Sl)):Prop:=
  ∀ A s Z W env,Room A n→Inv c s Z→Fr c sc env ρ s Z W→wpAny (model c.prog c.w) A (exec st env) (SPost c sc env ρ' o s Z W) noE s
noncomputable def Exs (c:Cx) (n:Nat) (sc:Scope) (sts:List Stmt) (ρ:List (Option Sl)) (o:Out) (ρ':List (Option Sl)):Prop:=
  ∀ A s Z W env,Room A n→Inv c s Z→Fr c sc env ρ s Z W→wpAny (model c.prog c.w) A (execs sts env) (SPost c sc env ρ' o s Z W) noE s
theorem SPost.trans {env:Env} {ρ₁ ρ₂:List (Option Sl)} {o:Out} {s s₁ s':Shared} {Z W Z₁ W₁:Addr→Prop} {f:Flow} (a:SStp c sc env ρ₁ s Z W s₁ Z₁ W₁) (h:SPost c sc env ρ₂ o s₁ Z₁ W₁ f s'):SPost c sc env ρ₂ o s Z W f s':=
  (by refine bc fun g=>?_;obtain ⟨Z',W',S,r⟩:=h;exact g (⟨Z',W',a.trans S,r⟩))
theorem exs_nil:Exs c n sc [] ρ .next ρ:=fun A s Z W env _ I F=>wpAny_execs_nil ⟨Z,W,SStp.grow I Evo.refl F,trivial⟩
theorem exs_cons {st:Stmt} {sts:List Stmt} {ρ₁ ρ₂:List (Option Sl)} {o:Out} (h:Ex c n sc st ρ .next ρ₁) (hr:Exs c n sc sts ρ₁ o ρ₂):Exs c n sc (st :: sts) ρ o ρ₂:=by
  intro A s Z W env R I F
  refine wpAny_execs_cons (wpAny_mono (h A s Z W env R I F) (?_) fun _ _ x=>x);rintro f s₁ ⟨Z₁,W₁,S₁,r₁⟩;refine ?_
  induction f<;>first | exact r₁.elim | skip
  exact wpAny_mono (hr A s₁ Z₁ W₁ env R S₁.inv S₁.fr) (fun f s' x=>x.trans S₁) fun _ _ x=>x
theorem exs_stop {st:Stmt} {sts:List Stmt} {ρ₁:List (Option Sl)} {o:Out} (h:Ex c n sc st ρ o ρ₁) (ho:o ≠ .next):Exs c n sc (st :: sts) ρ o ρ₁:=by
  intro A s Z W env R I F
  refine wpAny_execs_cons (wpAny_mono (h A s Z W env R I F) (?_) fun _ _ x=>x);rintro f s₁ ⟨Z₁,W₁,S₁,r₁⟩;refine ?_
  induction f<;>induction o<;>first | exact r₁.elim | exact absurd rfl ho | exact ⟨Z₁,W₁,S₁,r₁⟩
theorem exs_less {sts:List Stmt} {ρ₀ ρ₁ ρ₂:List (Option Sl)} {o:Out} (h:Exs c n sc sts ρ₀ o ρ₁) (h1:Lss ρ₀ ρ) (h2:Lss ρ₂ ρ₁):Exs c n sc sts ρ o ρ₂:=fun A s Z W env R I F=>
  wpAny_mono (h A s Z W env R I (F.less h1)) ((by rintro f s' ⟨Z',W',S,r⟩;exact ⟨Z',W',S.less h2,r⟩)) fun _ _ x=>x
theorem ex_less {st:Stmt} {ρ₀ ρ₁ ρ₂:List (Option Sl)} {o:Out} (h:Ex c n sc st ρ₀ o ρ₁) (h1:Lss ρ₀ ρ) (h2:Lss ρ₂ ρ₁):Ex c n sc st ρ o ρ₂:=fun A s Z W env R I F=>
  wpAny_mono (h A s Z W env R I (F.less h1)) ((by rintro f s' ⟨Z',W',S,r⟩;exact ⟨Z',W',S.less h2,r⟩)) fun _ _ x=>x
theorem ex_return {e:Expr} {d:D} {pos:Pos} (h:EvE c n sc ρ e d):Ex c n sc (.Return (some e) pos) ρ (.ret d) ρ:=fun A s Z W env R I F=>
  wpAny_Return_some (Gives.to (h A s Z W env R I F) fun v s₁ Z₁ I₁ e₁ r₁=>⟨Z₁,W,SStp.grow I₁ e₁ F,r₁⟩)
theorem ex_break {pos:Pos}:Ex c n sc (.Break pos) ρ .brk ρ:=fun A s Z W env _ I F=>by
  skip
  exact wpAny_bind (wpAny_standAt (wpAny_pure ⟨Z,W,SStp.grow I Evo.refl F,trivial⟩))
theorem ex_if {t:Expr} {body orelse:List Stmt} {pos:Pos} {b:Bool} {o:Out} {ρ':List (Option Sl)} (ht:EvT c n sc ρ t b) (h1:b = true→Exs c n sc body ρ o ρ') (h2:b = false→Exs c n sc orelse ρ o ρ') :
    Ex c n sc (.If t body orelse pos) ρ o ρ':=by
  intro A s Z W env R I F
  refine wpAny_If (wpAny_mono (ht A s Z W env R I F) (?_) fun _ _ x=>x);rintro r s₁ ⟨h0,Z₁,I₁,e₁⟩;refine ?_
  subst h0
  have S₁:=SStp.grow I₁ e₁ F
  induction r with
  | true=>exact wpAny_mono (h1 rfl A s₁ Z₁ W env R I₁ S₁.fr) (fun f s' x=>x.trans S₁) fun _ _ x=>x
  | false=>exact wpAny_mono (h2 rfl A s₁ Z₁ W env R I₁ S₁.fr) (fun f s' x=>x.trans S₁) fun _ _ x=>x
theorem ex_if_t {t:Expr} {body orelse:List Stmt} {pos:Pos} {o:Out} {ρ':List (Option Sl)} (ht:EvT c n sc ρ t true) (h1:Exs c n sc body ρ o ρ'):Ex c n sc (.If t body orelse pos) ρ o ρ':=ex_if ht (fun _=>h1) fun h=>by cases h
theorem ex_if_f {t:Expr} {body orelse:List Stmt} {pos:Pos} {o:Out} {ρ':List (Option Sl)} (ht:EvT c n sc ρ t false) (h1:Exs c n sc orelse ρ o ρ'):Ex c n sc (.If t body orelse pos) ρ o ρ':=ex_if ht (fun h=>by cases h) fun _=>h1
theorem ex_assign {tgt value:Expr} {d:D} {pos:Pos} {ρ':List (Option Sl)} (hv:EvE c n sc ρ value d) (ht:AsgS c n sc tgt d ρ ρ')
    (hs:∀ env,env.scope = sc→swapsWithSole [tgt] value pos.line env = pure false:=by intro _ _;rfl) (hw:∀ env,env.scope = sc→swappedStores [tgt] value env = pure none:=by intro _ _;rfl) (hn:noStar tgt = true:=by rfl):Ex c n sc (.Assign [tgt] value pos) ρ .next ρ':=by
  intro A s Z W env R I F
  rw [arm_exec_Assign]
  refine bnd1 (fun _ q=>wpAny_standAt q) ?_
  rw [hs env F.esc]
  refine bnd1 (fun _ q=>wpAny_pure q) ?_
  rw [if_neg (by decide)]
  refine Gives.then (hv A s Z W env R I F) fun v s₁ Z₁ I₁ e₁ r₁=>?_
  rw [hw env F.esc]
  refine bnd1 (fun _ q=>wpAny_pure q) ?_
  rw [assignEach_cons hn]
  skip
  have S₁:=SStp.grow I₁ e₁ F
  refine wpAny_bind (wpAny_mono (ht A s₁ Z₁ W env v R I₁ S₁.fr r₁) (?_) fun _ _ x=>x);rintro _ s₂ ⟨Z₂,W₂,S₂⟩;refine ?_
  exact wpAny_pure ⟨Z₂,W₂,S₁.trans S₂,trivial⟩
inductive AsgAll (c:Cx) (n:Nat) (sc:Scope) (d:D):List Expr→List (Option Sl)→List (Option Sl)→Prop
  | one {t:Expr} {ρ ρ':List (Option Sl)}:noStar t = true→AsgS c n sc t d ρ ρ'→AsgAll c n sc d [t] ρ ρ'
  | more {t u:Expr} {ts:List Expr} {ρ ρ₁ ρ':List (Option Sl)}:noStar t = true→AsgS c n sc t d ρ ρ₁→AsgAll c n sc d (u :: ts) ρ₁ ρ'→AsgAll c n sc d (t :: u :: ts) ρ ρ'
theorem AsgAll.go {d:D}:∀ {ts:List Expr} {ρ ρ':List (Option Sl)},AsgAll c n sc d ts ρ ρ'→∀ A s Z W env v,Room A n→Inv c s Z→Fr c sc env ρ s Z W→Rep c s.heap Z v d →
    wpAny (model c.prog c.w) A (assignAll v ((assignEach ts env).map (·.2))) (fun _ s'=>∃ Z' W',SStp c sc env ρ' s Z W s' Z' W') noE s:=by
  intro ts ρ ρ' H
  induction H with
  | one hn h=>
    intro A s Z W env v R I F r
    refine assignEach_cons hn▸?_
    exact h A s Z W env v R I F r
  | more hn h hr ih=>
    rename_i u ts _ _ _
    intro A s Z W env v R I F r
    have hu:∃ f fs,(assignEach (u :: ts) env).map (·.2) = f :: fs:=by
      cases u<;>exact ⟨_,_,rfl⟩
    refine assignEach_cons hn▸?_
    obtain ⟨f,fs,hf⟩:=hu
    simp only [List.map_cons]
    refine hf▸?_
    skip
    refine wpAny_bind (wpAny_holding (wpAny_mono (h A s Z W env v R I F r) (?_) fun _ _ x=>x));rintro _ s₁ ⟨Z₁,W₁,S₁⟩;refine ?_
    have:=ih A s₁ Z₁ W₁ env v R S₁.inv S₁.fr (S₁.evo.rep F.zw r)
    rw [hf] at this
    exact wpAny_mono this ((by rintro _ s₂ ⟨Z₂,W₂,S₂⟩;exact ⟨Z₂,W₂,S₁.trans S₂⟩)) fun _ _ x=>x
theorem ex_assign_all {ts:List Expr} {value:Expr} {d:D} {pos:Pos} {ρ':List (Option Sl)} (hv:EvE c n sc ρ value d) (ht:AsgAll c n sc d ts ρ ρ')
    (hs:∀ env,env.scope = sc→swapsWithSole ts value pos.line env = pure false:=by intro _ _;rfl) (hw:∀ env,env.scope = sc→swappedStores ts value env = pure none:=by intro _ _;rfl):Ex c n sc (.Assign ts value pos) ρ .next ρ':=by
  intro A s Z W env R I F
  rw [arm_exec_Assign]
  refine bnd1 (fun _ q=>wpAny_standAt q) ?_
  rw [hs env F.esc]
  refine bnd1 (fun _ q=>wpAny_pure q) ?_
  rw [if_neg (by decide)]
  refine Gives.then (hv A s Z W env R I F) fun v s₁ Z₁ I₁ e₁ r₁=>?_
  rw [hw env F.esc]
  refine bnd1 (fun _ q=>wpAny_pure q) ?_
  skip
  have S₁:=SStp.grow I₁ e₁ F
  refine wpAny_bind (wpAny_mono (ht.go A s₁ Z₁ W env v R I₁ S₁.fr r₁) (?_) fun _ _ x=>x);rintro _ s₂ ⟨Z₂,W₂,S₂⟩;refine ?_
  exact wpAny_pure ⟨Z₂,W₂,S₁.trans S₂,trivial⟩
theorem ex_assignO (i:Nat) {x:Str} {k:NameKind} {value:Expr} {d:D} {pos pos':Pos} (hx:sc.names[i]? = some (x,k)) (hv:EvO c n sc ρ value d) (hk:k = .local∨k = .cell:=by decide) (hl:i < ρ.length:=by first | decide | exact Nat.le_of_ble_eq_true rfl)
    (hs:∀ env,env.scope = sc→swapsWith value (some (.Name x pos')) pos.line env = pure false:=by intro _ _;rfl):Ex c n sc (.Assign [.Name x pos'] value pos) ρ .next (ρ.set i (some (.own d))):=by
  intro A s Z W env R I F
  refine wpAny_Assign_Name (wpAny_mono (hv A s Z W env R I F) (?_) fun _ _ x=>x) (hs env F.esc);rintro v s₁ ⟨Z₁,a,hva,I₁,e₁,ho,hz,hf⟩;refine ?_
  subst hva
  have S₁:=SStp.grow I₁ e₁ F
  refine store_slot S₁.fr hx hk hl (sl:=.own d) ⟨a,rfl,(fun q=>by obtain ⟨o,e⟩:=F.wa a q;(exact none_some hf e)),hz,ho.live,ho⟩ fun h' tk hk' F'=>?_
  refine ⟨Z₁,_,⟨inv_w (W:=Loc sc env (· = i)) I₁ (fun _ h=>h.z S₁.fr) hk',?_,F',?_,?_⟩,trivial⟩
  · exact (e₁.wider fun _ h=>h.elim).trans (evo_w (W:=W) fun b o hb e=>hk' b o (fun q=>hb (q.w S₁.fr)) e)
  · rintro b (hb | hb)
    · exact .inl hb
    · (cases hb);exact .inr hf
  · exact fun b hb=>F'.wa b (Wadd.old hb)
theorem Fr.freeze {env:Env} {s:Shared} {Z W:Addr→Prop} (I:Inv c s Z) (F:Fr c sc env ρ s Z W) {i:Nat} {x:Str} {k:NameKind} {d:D} (hx:sc.names[i]? = some (x,k)) (hρ:ρ[i]? = some (some (.own d))) :
    ∃ Z' W',SStp c sc env (ρ.set i (some (.val d))) s Z W s Z' W'∧∃ a,¬ Z a∧W a∧(∃ o,s.heap.get? a = some o)∧Z' = Zadd Z a:=by
  refine bc fun g=>?_;obtain ⟨v,hv,a,rfl,wa,ho⟩:=F.slot i x k _ hx hρ
  have hoL:=F.ownL i x k d a hx hρ hv
  have hlen:i < ρ.length:=by
    rcases Nat.lt_or_ge i ρ.length with h | h
    · exact h
    · (exact none_some (List.getElem?_eq_none h) hρ)
  have setj:∀ (j:Nat) (sl:Sl),(ρ.set i (some (.val d)))[j]? = some (some sl)→(j = i∧sl = .val d)∨(j ≠ i∧ρ[j]? = some (some sl)):=fun j sl h=>by
    rw [List.getElem?_set] at h
    by_cases q:i = j
    · rw [if_pos q,if_pos hlen] at h;cases h;exact .inl ⟨q.symm,rfl⟩
    · rw [if_neg q] at h;exact .inr ⟨Ne.symm q,h⟩
  have setO:∀ (j:Nat) (e:D),(ρ.set i (some (.val d)))[j]? = some (some (.own e))→j ≠ i∧ρ[j]? = some (some (.own e)):=fun j e h=>by
    rcases setj j _ h with ⟨_,h⟩ | h
    · cases h
    · exact h
  refine g ?_;refine ⟨Zadd Z a,fun b=>W b∧b ≠ a,⟨I.freeze ho.live,⟨fun _ _ _ e=>e,fun _ _ e=>e,fun _ h=>.inl h,fun b h=>?_⟩,?_,fun b h=>.inl h.1,fun b h=>F.wa b h⟩,a,F.zw a wa,wa,ho.live,rfl⟩
  · rcases h with h | rfl
    · exact .inl h
    · exact .inr (.inl wa)
  · refine ⟨F.esc,F.kind,F.glob,F.bu,F.nodup,F.ns,⟨F.wl,Ne.symm hoL.1⟩,?_,fun b h=>F.wa b h.1,?_,F.apart,F.lc,fun y b hy=>⟨F.cw y b hy,Ne.symm (hoL.2 y b hy)⟩,?_,?_,?_⟩
    · rintro b ⟨hb,hne⟩ (hz | rfl)
      · exact F.zw b hb hz
      · exact hne rfl
    · intro j y l h1 h2
      refine bc fun g=>?_;obtain ⟨b,ov,e1,e2,e3⟩:=F.cell j y l h1 h2
      refine g ?_;exact ⟨b,ov,e1,e2,e3,Ne.symm (hoL.2 y b e1)⟩
    · intro j y l sl h1 h2
      rcases setj j sl h2 with ⟨rfl,rfl⟩ | ⟨hj,h2⟩
      · (cases some_eq hx h1)
        exact ⟨_,hv,ho.frozen⟩
      · obtain ⟨u,hu,r⟩:=F.slot j y l sl h1 h2
        refine ⟨u,hu,?_⟩
        induction sl with
        | val e=>exact rep_mono (fun _ _ _ e=>e) (fun _ h=>.inl h) r
        | own e=>
          obtain ⟨b,rfl,wb,hb⟩:=r
          exact ⟨b,rfl,⟨wb,fun q=>F.ownA j i y x l k e d b a h1 hx hj h2 hρ hu hv q⟩,hb.mono (fun _ e=>e) (fun _ _ _ e=>e) fun _ h=>.inl h⟩
    · intro j j' y y' l l' e e' b b' h1 h1' hne h2 h2' h3 h3'
      exact F.ownA j j' y y' l l' e e' b b' h1 h1' hne (setO j e h2).2 (setO j' e' h2').2 h3 h3'
    · intro j y l e b h1 h2 h3
      exact F.ownL j y l e b h1 (setO j e h2).2 h3
theorem exs_freeze (i:Nat) {x:Str} {k:NameKind} {d:D} {sts:List Stmt} {o:Out} {ρ':List (Option Sl)} (hx:sc.names[i]? = some (x,k)) (hρ:ρ[i]? = some (some (.own d))) (h:Exs c n sc sts (ρ.set i (some (.val d))) o ρ'):Exs c n sc sts ρ o ρ':=by
  intro A s Z W env R I F
  refine bc fun g=>?_;obtain ⟨Z',W',S,_⟩:=F.freeze I hx hρ
  refine g ?_;exact wpAny_mono (h A s Z' W' env R S.inv S.fr) (fun f s' x=>x.trans S) fun _ _ x=>x
theorem Inv.thaw {s:Shared} {Z:Addr→Prop} {a:Addr} (I:Inv c s Z) (h:c.h₀.get? a = none):Inv c s (fun x=>Z x∧x ≠ a):=
  ⟨I.base,fun b o e=>⟨I.zb b o e,fun q=>by rw [q,h] at e;cases e⟩,fun b hb=>I.za b hb.1,I.os,I.bare⟩
theorem Evo.thaw {s s':Shared} {Z Z':Addr→Prop} {a:Addr} (e:Evo no s (Zadd Z a) s' Z') (hz:¬ Z a):Evo no s Z s' (fun x=>Z' x∧x ≠ a):=
  ⟨e.keep,e.gens,fun x h=>⟨e.zmono x (.inl h),fun q=>hz (q▸h)⟩,fun x h=>by
    rcases e.znew x h.1 with (q | q) | q | q
    · exact .inl q
    · exact absurd q h.2
    · exact q.elim
    · exact .inr (.inr q)⟩
noncomputable def flat:D→Bool
  | .none | .bool _ | .int _ | .str _=>true
  | _=>false
theorem Rep.flat {h h':Heap} {Z Z':Addr→Prop} {v:Value} {d:D} (r:Rep c h Z v d) (hf:flat d = true):Rep c h' Z' v d:=by
  cases r<;>first | exact .none | exact .bool | exact .int | exact .str | (cases hf;done)
theorem Inv.notBase {s:Shared} {Z:Addr→Prop} (I:Inv c s Z) {a:Addr} (hz:¬ Z a):c.h₀.get? a = none:=by
  induction q:c.h₀.get? a with
  | none=>rfl
  | some o=>exact absurd (I.zb a o q) hz
theorem ev_peek (i:Nat) {x:Str} {k:NameKind} {d r:D} {e:Expr} (hx:sc.names[i]? = some (x,k)) (hρ:ρ[i]? = some (some (.own d))) (h:EvE c n sc (ρ.set i (some (.val d))) e r) (hf:flat r = true:=by rfl):EvE c n sc ρ e r:=by
  intro A s Z W env R I F
  refine bc fun g=>?_;obtain ⟨Z',W',S,a,hz,_,_,rfl⟩:=F.freeze I hx hρ
  refine g ?_;refine wpAny_mono (h A s _ W' env R S.inv S.fr) (?_) fun _ _ x=>x;rintro v s' ⟨Z₁,I₁,e₁,r₁⟩;refine ?_
  exact ⟨_,I₁.thaw (I.notBase hz),e₁.thaw hz,r₁.flat hf⟩
theorem evT_peek (i:Nat) {x:Str} {k:NameKind} {d:D} {b:Bool} {e:Expr} (hx:sc.names[i]? = some (x,k)) (hρ:ρ[i]? = some (some (.own d))) (h:EvT c n sc (ρ.set i (some (.val d))) e b):EvT c n sc ρ e b:=by
  intro A s Z W env R I F
  refine bc fun g=>?_;obtain ⟨Z',W',S,a,hz,_,_,rfl⟩:=F.freeze I hx hρ
  refine g ?_;refine wpAny_mono (h A s _ W' env R S.inv S.fr) (?_) fun _ _ x=>x;rintro v s' ⟨h0,Z₁,I₁,e₁⟩;refine ?_
  exact ⟨h0,_,I₁.thaw (I.notBase hz),e₁.thaw hz⟩
noncomputable def flatO:D→Bool
  | .list ds=>ds.all flat
  | .dict es=>es.all fun e=>flat e.2
  | _=>false
theorem Reps.flat {h:Heap} {Z Z':Addr→Prop} {vs:List Value} {ds:List D} (r:Reps c h Z vs ds):ds.all Mine.flat = true→Reps c h Z' vs ds:=
  r.ind (P:=fun vs ds=>ds.all Mine.flat = true→Reps c h Z' vs ds) (fun _=>.nil) fun a _ ih hf=>.cons (a.flat (Bool.and_eq_true_iff.mp hf).1) (ih (Bool.and_eq_true_iff.mp hf).2)
theorem RepE.flat {h:Heap} {Z Z':Addr→Prop} {vs:List (Str × Value)} {ds:List (Str × D)} (r:RepE c h Z vs ds):ds.all (fun e=>Mine.flat e.2) = true→RepE c h Z' vs ds:=
  r.ind (P:=fun vs ds=>ds.all (fun e=>Mine.flat e.2) = true→RepE c h Z' vs ds) (fun _=>.nil) fun a _ ih hf=>.cons (a.flat (Bool.and_eq_true_iff.mp hf).1) (ih (Bool.and_eq_true_iff.mp hf).2)
theorem evo_peek (i:Nat) {x:Str} {k:NameKind} {d r:D} {e:Expr} (hx:sc.names[i]? = some (x,k)) (hρ:ρ[i]? = some (some (.own d))) (h:EvO c n sc (ρ.set i (some (.val d))) e r) (hf:flatO r = true):EvO c n sc ρ e r:=by
  intro A s Z W env R I F
  refine bc fun g=>?_;obtain ⟨Z',W',S,a,hz,_,_,rfl⟩:=F.freeze I hx hρ
  refine g ?_;refine wpAny_mono (h A s _ W' env R S.inv S.fr) (?_) fun _ _ x=>x;rintro v s' ⟨Z₁,b,hv,I₁,e₁,ho,hzb,hfr⟩;refine ?_
  refine ⟨_,b,hv,I₁.thaw (I.notBase hz),e₁.thaw hz,?_,fun q=>hzb q.1,hfr⟩
  cases r<;>first | exact ho.elim | skip
  · obtain ⟨vs,hl,rr⟩:=ho;exact ⟨vs,hl,rr.flat hf⟩
  · obtain ⟨hs,kvs,hl,rr⟩:=ho;exact ⟨hs,kvs,hl,rr.flat hf⟩
end
end Mine
end
section
open PySem PySem.W PyProof.Rows
namespace Mine
noncomputable def pureOf {α:Type}:Sem α→Option α
  | .pure a=>some a
  | _=>none
theorem pureOf_eq {α:Type} {t:Sem α} {a:α} (h:pureOf t = some a):t = pure a:=by
  induction t with
  | pure b=>exact congrArg Sem.pure (Option.some.inj h)
  | _=>exact nomatch h
noncomputable def envS (sc:Scope):Env:={ (default:Env) with scope:=sc }
theorem swap_eq {targets:List Expr} {value:Expr} {sc:Scope} {r:Option (List Str)} (h:pureOf (swappedStores targets value (envS sc)) = some r) (env:Env) (he:env.scope = sc):swappedStores targets value env = pure r:=by
  subst he
  have:swappedStores targets value env = swappedStores targets value (envS env.scope):=by rfl
  rw [this];exact pureOf_eq h
theorem swaps_eq {targets:List Expr} {value:Expr} {sc:Scope} {line:Nat} {r:Bool} (h:pureOf (swapsWithSole targets value line (envS sc)) = some r) (env:Env) (he:env.scope = sc):swapsWithSole targets value line env = pure r:=by
  subst he
  have:swapsWithSole targets value line env = swapsWithSole targets value line (envS env.scope):=by
    cases targets with
    | nil=>rfl
    | cons t ts=>induction ts with
      | cons _ _=>rfl
      | nil=>
        refine (?_:swapsWith _ _ _ _ = swapsWith _ _ _ _)
        delta swapsWith
        rfl
  rw [this];exact pureOf_eq h
end Mine
end
section
open PySem PySem.W PyProof.Rows
namespace Mine
section
variable {c:Cx} {n:Nat} {sc:Scope} {ρ:List (Option Sl)}
noncomputable def compTree (e:Expr) (env:Env) (use:Option (Value→Sem Unit)):Sem Value:=match e with
  | .ListComp _ gens scope pos=>comprehension e scope env (firstIterPos gens pos) (newList []) (firstAsync gens) (firstIter gens env) use
  | .DictComp _ _ gens scope pos=>comprehension e scope env (firstIterPos gens pos) newDict (firstAsync gens) (firstIter gens env) use
  | _=>pure .none
noncomputable def EvC (c:Cx) (n:Nat) (sc:Scope) (ρ:List (Option Sl)) (e:Expr) (d:D):Prop:=
  (∀ env use,evalThenUse e env use = (do let _ ← compTree e env (some use);pure ()))∧∀ A s Z W env use Q,Room A n→Inv c s Z→Fr c sc env ρ s Z W →
    (∀ Da C s' Z' m,Inv c s' Z'→Evo no s Z s' Z'→OwnRep c s'.heap Z' Da d→¬ Z' Da→s.heap.get? Da = none→s.heap.get? C = none→¬ Z' C→C ≠ Da→s'.heap.Ns C m→compPost (model c.prog c.w) A noE use Q (.ref Da) C (.ok .next) s') →
    wpAny (model c.prog c.w) A (compTree e env use) Q noE s
section
variable {scope:Scope} {elt kx vx tgt iter tgt' iter':Expr} {ifs ifs':List Expr} {pos:Pos} {xs:List D} {d:D}
theorem evc_list1 (ix:List (Option Nat)) (ks:List NameKind) (hO:compOk scope sc ix ks = true) (hi:EvI c true n sc ρ iter tgt xs) (h:RunsT (TurnJ c n (relS scope ks) (ownN scope) tgt ifs (emitL elt) (capR ρ ix)) xs (.list []) d):EvC c n sc ρ (.ListComp elt [⟨tgt,iter,ifs,0⟩] scope pos) d:=
  ⟨fun _ _=>rfl,fun A s Z W env use Q R I F hk=>comp_core (g:=⟨tgt,iter,ifs,0⟩) (gs:=[]) ce_list1 rfl (compOk_ok hO) hi (by size_fits) (fun _ _ _=>own_list₀) (loop_list1 h) R I F hk⟩
end
theorem ex_assignC (i:Nat) {x:Str} {value:Expr} {d:D} {pos pos':Pos} (hx:sc.names[i]? = some (x,.local)) (hv:EvC c n sc ρ value d) (hs:pureOf (swapsWithSole [.Name x pos'] value pos.line (envS sc)) = some true:=by decide +kernel) (hl:i < ρ.length:=by first | decide | exact Nat.le_of_ble_eq_true rfl) :
    Ex c n sc (.Assign [.Name x pos'] value pos) ρ .next (ρ.set i (some (.own d))):=by
  intro A s Z W env R I F
  rw [arm_exec_Assign,swaps_eq hs env F.esc]
  refine wpAny_bind (wpAny_standAt (wpAny_bind (wpAny_pure ?_)))
  rw [if_pos rfl,hv.1]
  refine wpAny_bind (wpAny_bind (hv.2 A s Z W env _ _ R I F fun Da C s' Z' m I' e' ho hz hf hC hzC hne hm=>?_))
  have S₁:=SStp.grow I' e' F
  have hwC:¬ W C:=fun q=>by obtain ⟨o,e⟩:=F.wa C q;exact none_some hC e
  skip
  refine wpAny_assign_Name (store_slot S₁.fr hx (.inl rfl) hl (sl:=.own d) ⟨Da,rfl,(fun q=>by obtain ⟨o,e⟩:=F.wa Da q;exact none_some hf e),hz,ho.live,ho⟩ fun h' tk hk' F'=>?_)
  refine ⟨m,hm.at' fun o=>hk' C o (fun q=>hwC (q.w S₁.fr)),fun h'' hs''=>?_⟩
  have e₂:Evo W s' Z' { s' with heap:=h',toks:=tk } Z':=evo_w (W:=W) fun b o hb e=>hk' b o (fun q=>hb (q.w S₁.fr)) e
  obtain ⟨I₃,e₃⟩:=one_obj (tk:=tk) (inv_w (W:=Loc sc env (· = i)) (tk:=tk) I' (fun _ h=>h.z S₁.fr) hk') hzC hs''
  have hwC':¬ Wadd W (.ref Da) (.own d) C:=fun q=>by
    rcases q with q | q
    · exact hwC q
    · cases q;exact hne rfl
  have F₃:=F'.oneObj (tk:=tk) hwC' hzC hs''
  refine wpAny_pure (wpAny_pure ⟨Z',_,⟨I₃,?_,F₃,?_,fun b hb=>F₃.wa b (Wadd.old hb)⟩,trivial⟩)
  · exact ((e'.wider fun _ h=>h.elim).trans e₂).trans' e₃ fun b hb=>.inr (hb▸hC)
  · rintro b (hb | hb)
    · exact .inl hb
    · cases hb;exact .inr hf
noncomputable def NewR (c:Cx) (s₀ s:Shared) (Z:Addr→Prop) (v:Value):Sl→Prop
  | .val d=>Rep c s.heap Z v d
  | .own d=>∃ a,v = .ref a∧¬ Z a∧s₀.heap.get? a = none∧OwnRep c s.heap Z a d
noncomputable def NeOwn (p q:Value × Sl):Prop:=∀ d d',p.2 = .own d→q.2 = .own d'→p.1 ≠ q.1
noncomputable def MixR (c:Cx) (s₀ s:Shared) (Z:Addr→Prop) (ps:List (Value × Sl)):Prop:=(∀ p ∈ ps,NewR c s₀ s Z p.1 p.2)∧ps.Pairwise NeOwn
theorem NewR.evo {s₀ s s':Shared} {Z Z':Addr→Prop} {v:Value} {sl:Sl} (x:NewR c s₀ s Z v sl) (e:Evo no s Z s' Z'):NewR c s₀ s' Z' v sl:=by
  induction sl with
  | val d=>exact e.rep no_z x
  | own d=>
    obtain ⟨a,rfl,hz,hf,ho⟩:=x
    refine ⟨a,rfl,fun q=>?_,hf,ho.mono (fun o=>e.keep a o id) (fun b o _=>e.keep b o id) e.zmono⟩
    rcases e.znew a q with h | h | h
    · exact hz h
    · exact h
    · obtain ⟨o,e'⟩:=ho.live;exact none_some h e'
theorem NewR.from {s₀ s₁ s:Shared} {Z₀ Z₁ Z:Addr→Prop} {v:Value} {sl:Sl} (x:NewR c s₁ s Z v sl) (e:Evo no s₀ Z₀ s₁ Z₁):NewR c s₀ s Z v sl:=by
  induction sl with
  | val d=>exact x
  | own d=>obtain ⟨a,rfl,hz,hf,ho⟩:=x;exact ⟨a,rfl,hz,e.back hf,ho⟩
noncomputable def EvMs (c:Cx) (n:Nat) (sc:Scope) (ρ:List (Option Sl)) (es:List Expr) (sls:List Sl):Prop:=
  es.all noStar = true∧∀ A s Z W env pos,Room A n→Inv c s Z→Fr c sc env ρ s Z W→wpAny (model c.prog c.w) A (spliced (backTo pos (starEach es env)))
    (fun vs s'=>∃ Z',Inv c s' Z'∧Evo no s Z s' Z'∧vs.length = sls.length∧MixR c s s' Z' (vs.zip sls)) noE s
theorem evms_nil:EvMs c n sc ρ [] []:=⟨rfl,fun _ _ Z _ _ _ _ I _=>wpAny_pure ⟨Z,I,Evo.refl,rfl,fun p h=>by simp at h,.nil⟩⟩
theorem evms_cons {e:Expr} {es:List Expr} {sl:Sl} {sls:List Sl} (hr:EvMs c n sc ρ es sls) (he:noStar e = true)
    (h:∀ A s Z W env,Room A n→Inv c s Z→Fr c sc env ρ s Z W→wpAny (model c.prog c.w) A (eval e env) (fun v s'=>∃ Z',Inv c s' Z'∧Evo no s Z s' Z'∧NewR c s s' Z' v sl) noE s):EvMs c n sc ρ (e :: es) (sl :: sls):=by
  refine ⟨by rw [List.all_cons,he,hr.1];rfl,fun A s Z W env pos R I F=>?_⟩
  refine starEach_cons he▸?_
  show wpAny _ A (do let v ← eval e env;let here ← (pure [v]:Sem (List Value));return here ++ (← holding here (spliced (backTo pos (starEach es env))))) _ _ s
  refine wpAny_bind (wpAny_mono (h A s Z W env R I F) (?_) fun _ _ x=>x);rintro v s₁ ⟨Z₁,I₁,e₁,r₁⟩;refine ?_
  refine wpAny_bind (wpAny_pure (wpAny_bind (wpAny_holding (wpAny_mono (hr.2 A s₁ Z₁ W env pos R I₁ (F.grow e₁)) (?_) fun _ _ x=>x))));rintro vs s₂ ⟨Z₂,I₂,e₂,hlen,hm,hp⟩;refine ?_
  refine wpAny_pure ⟨Z₂,I₂,e₁.trans e₂,by simp [hlen],?_,?_⟩
  · intro p hp'
    rcases List.mem_cons.mp hp' with rfl | hp'
    · exact r₁.evo e₂
    · exact (hm p hp').from e₁
  · refine List.pairwise_cons.mpr ⟨fun q hq d d' h1 h2 h3=>?_,hp⟩
    have hn:=hm q hq
    simp only at h1 h3
    subst h1
    obtain ⟨a,rfl,_,_,ho⟩:=r₁
    obtain ⟨u,sl'⟩:=q
    simp only at h2 h3 hn
    subst h2
    obtain ⟨b,hb,_,hf,_⟩:=hn
    rw [← h3] at hb;cases hb
    obtain ⟨o,e⟩:=ho.live
    exact none_some hf e
theorem evms_val {e:Expr} {es:List Expr} {d:D} {sls:List Sl} (h:EvE c n sc ρ e d) (hr:EvMs c n sc ρ es sls) (he:noStar e = true:=by rfl):EvMs c n sc ρ (e :: es) (.val d :: sls):=
  evms_cons hr he fun A s Z W env R I F=>wpAny_mono (h A s Z W env R I F) ((by rintro _ _ ⟨Z',a,b,r⟩;exact ⟨Z',a,b,r⟩)) fun _ _ x=>x
inductive Sets (sc:Scope):List Str→List Sl→List (Option Sl)→List (Option Sl)→Prop
  | nil {ρ:List (Option Sl)}:Sets sc [] [] ρ ρ
  | cons {x:Str} {xs:List Str} {sl:Sl} {sls:List Sl} {ρ ρ':List (Option Sl)} (i:Nat) (k:NameKind):sc.names[i]? = some (x,k)→(k = .local∨k = .cell)→i < ρ.length→Sets sc xs sls (ρ.set i (some sl)) ρ'→Sets sc (x :: xs) (sl :: sls) ρ ρ'
theorem sets_go {env:Env}:∀ {xs:List Str} {sls:List Sl} {ρ ρ':List (Option Sl)},Sets sc xs sls ρ ρ'→∀ (fs:List (Value→Sem Unit)) (A:Around),fs.length = xs.length →
    (∀ (j:Nat) (x:Str) f,xs[j]? = some x→fs[j]? = some f→∀ s v (Q:Unit→Shared→Prop),wpAny (model c.prog c.w) A (storeName env x v) Q noE s→wpAny (model c.prog c.w) A (f v) Q noE s) →
    ∀ s₀ s Z W vs,Inv c s Z→Fr c sc env ρ s Z W→vs.length = sls.length→MixR c s₀ s Z (vs.zip sls)→(∀ p ∈ vs.zip sls,∀ d a,p.2 = .own d→p.1 = .ref a→¬ W a)→(∀ a,W a→∃ o,s.heap.get? a = some o) →
    wpAny (model c.prog c.w) A (assignInOrder fs vs) (fun _ s'=>∃ W',Inv c s' Z∧Evo (Loc sc env fun _=>True) s Z s' Z∧Fr c sc env ρ' s' Z W'∧(∀ a,W' a→W a∨∃ p ∈ vs.zip sls,∃ d,p.2 = .own d∧p.1 = .ref a)∧∀ a,W a→W' a) noE s:=by
  intro xs sls ρ ρ' H
  induction H with
  | nil=>
    intro fs A hl _ s₀ s Z W vs I F hv _ _ _
    induction fs with
    | nil=>exact wpAny_pure ⟨W,I,Evo.refl,F,fun a h=>.inl h,fun _ h=>h⟩
    | cons _ _=>simp at hl
  | @cons x xs sl sls ρ ρ' i k hx hk hi hr ih=>
    intro fs A hl hf s₀ s Z W vs I F hv hm hw hwl
    cases fs with
    | nil=>simp at hl
    | cons f fs=>
      cases vs with
      | nil=>simp at hv
      | cons v vs=>
        skip
        obtain ⟨hm1,hm2⟩:=hm
        rw [List.zip_cons_cons] at hm1 hm2 hw
        obtain ⟨hp1,hp2⟩:=List.pairwise_cons.mp hm2
        have hn:=hm1 _ List.mem_cons_self
        have hnew:NewSl c s.heap Z W v sl:=by
          induction sl with
          | val d=>exact hn
          | own d=>
            obtain ⟨a,rfl,hz,hfr,ho⟩:=hn
            exact ⟨a,rfl,hw _ List.mem_cons_self d a rfl rfl,hz,ho.live,ho⟩
        refine wpAny_bind (wpAny_holding (hf 0 x f rfl rfl s v _ (store_slot F hx hk hi hnew fun h' tk hk' F'=>?_)))
        have e₀:Evo (Loc sc env fun _=>True) s Z { s with heap:=h',toks:=tk } Z:=evo_w (W:=Loc sc env fun _=>True) fun b o hb e=>hk' b o (fun q=>hb (q.mono fun _ _=>trivial)) e
        have e₁:Evo W s Z { s with heap:=h',toks:=tk } Z:=e₀.wider fun b h=>h.w F
        have hmem:∀ p ∈ vs.zip sls,p ∈ (v,sl) :: vs.zip sls:=fun p hp=>List.mem_cons_of_mem _ hp
        have hkeepN:∀ p ∈ vs.zip sls,NewR c s₀ { s with heap:=h',toks:=tk } Z p.1 p.2:=fun p hp=>by
          have:=hm1 p (hmem p hp)
          obtain ⟨u,sl'⟩:=p
          induction sl' with
          | val d=>exact e₁.rep F.zw this
          | own d=>
            obtain ⟨a,rfl,hz,hfr,ho⟩:=this
            exact ⟨a,rfl,hz,hfr,ho.mono (fun o=>e₁.keep a o (hw _ (hmem _ hp) d a rfl rfl)) (fun b o z=>e₁.keep b o fun q=>F.zw b q z) fun _ h=>h⟩
        refine wpAny_mono (ih fs A (by simpa using hl) (fun j y g h1 h2=>hf (j + 1) y g (by exact h1) (by exact h2)) s₀ _ Z _ vs (inv_w (W:=Loc sc env (· = i)) (tk:=tk) I (fun _ h=>h.z F) hk') F' (by simpa using hv) ⟨hkeepN,hp2⟩ (fun p hp d a h1 h2 q=>?_) (fun a ha=>F'.wa a ha)) (fun _ s' ⟨W',I',e',F'',hW',hW''⟩=>?_) fun _ _ x=>x
        · induction sl with
          | val d'=>exact hw p (hmem p hp) d a h1 h2 q
          | own d'=>
            rcases q with q | q
            · exact hw p (hmem p hp) d a h1 h2 q
            · exact hp1 p hp d' d rfl h1 (by rw [q,h2])
        · refine ⟨W',I',e₀.trans e',F'',fun a ha=>?_,fun a ha=>hW'' a (Wadd.old ha)⟩
          · rcases hW' a ha with h | ⟨p,hp,d,h1,h2⟩
            · induction sl with
              | val d=>exact .inl h
              | own d=>
                rcases h with h | h
                · exact .inl h
                · exact .inr ⟨_,List.mem_cons_self,d,rfl,h⟩
            · exact .inr ⟨p,hmem p hp,d,h1,h2⟩
theorem sets_end {env:Env} {s s₁ s':Shared} {Z Z₁ W W':Addr→Prop} {ρ':List (Option Sl)} {ps:List (Value × Sl)} (F:Fr c sc env ρ s Z W) (e:Evo no s Z s₁ Z₁) (hm:MixR c s s₁ Z₁ ps) (I':Inv c s' Z₁) (e':Evo (Loc sc env fun _=>True) s₁ Z₁ s' Z₁) (F':Fr c sc env ρ' s' Z₁ W')
    (h1:∀ a,W' a→W a∨∃ p ∈ ps,∃ d,p.2 = .own d∧p.1 = .ref a) (h2:∀ a,W a→W' a):SStp c sc env ρ' s Z W s' Z₁ W':=
  ⟨I',(e.wider fun _ h=>h.elim).trans (e'.wider fun b h=>h.w (F.grow e)),F',fun a ha=>by
    rcases h1 a ha with h | ⟨p,hp,d,hd,hv⟩
    · exact .inl h
    · have:=hm.1 p hp
      rw [hd,hv] at this
      obtain ⟨b,hb,_,hf,_⟩:=this
      cases hb;exact .inr hf,fun a ha=>F'.wa a (h2 a ha)⟩
theorem nameEs {env:Env}:∀ {xs:List Str} {ps:List Pos},xs.length = ps.length→(assignEach (List.zipWith (fun x p=>Expr.Name x p) xs ps) env).map (·.2) = List.zipWith (fun x p=>assign (.Name x p) env) xs ps
  | [],_,_=>rfl
  | _ :: _,[],h=>by simp at h
  | x :: xs,p :: ps,h=>by
    refine (?_:assign (.Name x p) env :: (assignEach (List.zipWith (fun x p=>Expr.Name x p) xs ps) env).map (·.2) = _)
    rw [nameEs (by simpa using h)];rfl
theorem nameEs_star:∀ {xs:List Str} {ps:List Pos},(List.zipWith (fun x p=>Expr.Name x p) xs ps).all noStar = true
  | [],_=>rfl
  | _ :: _,[]=>rfl
  | x :: xs,p :: ps=>by
    refine (?_:(noStar (.Name x p) && _) = true)
    rw [nameEs_star];rfl
theorem ex_mix {ts es:List Expr} {sls:List Sl} {xs:List Str} {ps:List Pos} {ρ':List (Option Sl)} {k k':Nat} {tpos vpos pos:Pos} (hts:ts = List.zipWith (fun x p=>Expr.Name x p) xs ps) (hlen:xs.length = ps.length) (hl2:xs.length = sls.length)
    (hv:EvMs c n sc ρ es sls) (hset:Sets sc xs sls ρ ρ') (hw:pureOf (swappedStores [.Tuple ts k tpos] (.Tuple es k' vpos) (envS sc)) = some none) (hsz:sls.length≤sizeLine:=by first | decide | exact Nat.le_of_ble_eq_true rfl):Ex c n sc (.Assign [.Tuple ts k tpos] (.Tuple es k' vpos) pos) ρ .next ρ':=by
  intro A s Z W env R I F
  refine Assign_Tuple (wpAny_Tuple (wpAny_mono (hv.2 A s Z W env vpos R I F) (?_) fun _ _ x=>x)) rfl (swap_eq hw env F.esc);rintro vs s₁ ⟨Z₁,I₁,e₁,hn,hm⟩;refine ⟨by rw [hn];exact hsz,?_⟩
  have e₂:Evo no s₁ Z₁ { s₁ with heap:=s₁.heap.push { cls:=.type "tuple",data:=.seq vs.toArray } } Z₁:=Evo.push0 _ s₁.toks
  have I₂:Inv c { s₁ with heap:=s₁.heap.push { cls:=.type "tuple",data:=.seq vs.toArray } } Z₁:=I₁.push0 _ s₁.toks
  have ht:(s₁.heap.push { cls:=.type "tuple",data:=.seq vs.toArray }).IsTuple s₁.heap.objs.size vs.toArray:=⟨_,Heap.get?_push_size _ rfl,rfl,0,rfl⟩
  generalize hs₂:({ s₁ with heap:=s₁.heap.push { cls:=.type "tuple",data:=.seq vs.toArray } }:Shared) = s₂ at e₂ I₂
  have hh:s₁.heap.push { cls:=.type "tuple",data:=.seq vs.toArray } = s₂.heap:=by rw [← hs₂]
  rw [hh] at ht
  subst hts
  refine wpAny_assign_Tuple R.h ht (by rw [assignEach_len nameEs_star,(by rw [List.length_zipWith,← hlen,Nat.min_self,hl2]:(List.zipWith (fun x p=>Expr.Name x p) xs ps).length = sls.length),← hn];rfl) (assignEach_star nameEs_star) fun h' hk=>?_
  have hko:∀ b o,s₂.heap.get? b = some o→h'.get? b = some o:=fun b o e=>hk b o (fun q=>by rw [q,fresh_size] at e;cases e) e
  have e₃:Evo no s₂ Z₁ { s₂ with heap:=h' } Z₁:=evo_w (tk:=s₂.toks) fun b o _ e=>hko b o e
  have I₃:Inv c { s₂ with heap:=h' } Z₁:=inv_w (W:=no) (tk:=s₂.toks) I₂ (fun _ h=>h.elim) fun b o _ e=>hko b o e
  generalize hs₃:({ s₂ with heap:=h' }:Shared) = s₃ at e₃ I₃
  have e₁₃:=e₁.trans (e₂.trans e₃)
  have hm₃:MixR c s s₃ Z₁ (vs.zip sls):=⟨fun p hp=>(hm.1 p hp).evo (e₂.trans e₃),hm.2⟩
  rw [nameEs hlen]
  have F₃:=F.grow e₁₃
  refine wpAny_mono (sets_go hset _ A (by rw [List.length_zipWith,← hlen,Nat.min_self]) (fun j x f h1 h2 s v Q h=>?_) s s₃ Z₁ W vs I₃ F₃ hn hm₃ (fun p hp d a h1 h2 q=>?_) F₃.wa) (fun _ s' ⟨W',I',e',F',h1,h2⟩=>?_) fun _ _ x=>x
  · rw [List.getElem?_zipWith,h1] at h2
    induction hp:ps[j]? with
    | none=>rw [hp] at h2;simp at h2
    | some p=>rw [hp] at h2;simp at h2;subst h2;exact wpAny_assign_Name h
  · have:=hm₃.1 p hp
    rw [h1,h2] at this
    obtain ⟨b,hb,_,hf,_⟩:=this
    cases hb
    obtain ⟨o,e⟩:=F.wa _ q
    exact none_some hf e
  · exact ⟨Z₁,W',sets_end F e₁₃ hm₃ I' e' F' h1 h2,trivial⟩
theorem pairwise_rev {ps:List (Value × Sl)} (h:ps.Pairwise NeOwn):ps.reverse.Pairwise NeOwn:=by
  rw [List.pairwise_reverse]
  exact h.imp fun {a b} h d d' h1 h2 q=>h d' d h2 h1 q.symm
theorem zip_rev {vs:List Value} {sls:List Sl} (h:vs.length = sls.length):vs.reverse.zip sls.reverse = (vs.zip sls).reverse:=by
  delta List.zip;exact (List.reverse_zipWith h).symm
theorem ex_swap {ts es:List Expr} {sls:List Sl} {xs:List Str} {ρ':List (Option Sl)} {k k':Nat} {tpos vpos pos:Pos} (hl2:xs.length = sls.length)
    (hv:EvMs c n sc ρ es sls) (hset:Sets sc xs.reverse sls.reverse ρ ρ') (hw:pureOf (swappedStores [.Tuple ts k tpos] (.Tuple es k' vpos) (envS sc)) = some (some xs)) (hsz:sls.length≤sizeLine:=by first | decide | exact Nat.le_of_ble_eq_true rfl):Ex c n sc (.Assign [.Tuple ts k tpos] (.Tuple es k' vpos) pos) ρ .next ρ':=by
  intro A s Z W env R I F
  refine Assign_Tuple_swapped (names:=xs) (wpAny_Tuple (wpAny_mono (hv.2 A s Z W env vpos R I F) (?_) fun _ _ x=>x)) rfl (swap_eq hw env F.esc);rintro vs s₁ ⟨Z₁,I₁,e₁,hn,hm⟩;refine ⟨by rw [hn];exact hsz,?_⟩
  have e₂:Evo no s₁ Z₁ { s₁ with heap:=s₁.heap.push { cls:=.type "tuple",data:=.seq vs.toArray } } Z₁:=Evo.push0 _ s₁.toks
  have I₂:Inv c { s₁ with heap:=s₁.heap.push { cls:=.type "tuple",data:=.seq vs.toArray } } Z₁:=I₁.push0 _ s₁.toks
  have ht:(s₁.heap.push { cls:=.type "tuple",data:=.seq vs.toArray }).IsTuple s₁.heap.objs.size vs.toArray:=⟨_,Heap.get?_push_size _ rfl,rfl,0,rfl⟩
  generalize hs₂:({ s₁ with heap:=s₁.heap.push { cls:=.type "tuple",data:=.seq vs.toArray } }:Shared) = s₂ at e₂ I₂
  have hh:s₁.heap.push { cls:=.type "tuple",data:=.seq vs.toArray } = s₂.heap:=by rw [← hs₂]
  rw [hh] at ht
  have hsz':xs.length = vs.toArray.size:=by rw [hl2,← hn];rfl
  refine hsz'▸?_
  refine wpAny_unpackItems_tuple R.h ht fun h' hk=>?_
  have hko:∀ b o,s₂.heap.get? b = some o→h'.get? b = some o:=fun b o e=>hk b o (fun q=>by rw [q,fresh_size] at e;cases e) e
  have e₃:Evo no s₂ Z₁ { s₂ with heap:=h' } Z₁:=evo_w (tk:=s₂.toks) fun b o _ e=>hko b o e
  have I₃:Inv c { s₂ with heap:=h' } Z₁:=inv_w (W:=no) (tk:=s₂.toks) I₂ (fun _ h=>h.elim) fun b o _ e=>hko b o e
  generalize hs₃:({ s₂ with heap:=h' }:Shared) = s₃ at e₃ I₃
  have e₁₃:=e₁.trans (e₂.trans e₃)
  have hm₃:MixR c s s₃ Z₁ (vs.reverse.zip sls.reverse):=by
    rw [zip_rev hn]
    exact ⟨fun p hp=>(hm.1 p (List.mem_reverse.mp hp)).evo (e₂.trans e₃),pairwise_rev hm.2⟩
  have F₃:=F.grow e₁₃
  refine (by rfl:(Array.toList vs.toArray).reverse = vs.reverse)▸?_
  refine wpAny_mono (sets_go hset _ A (by simp) (fun j x f h1 h2 s v Q h=>?_) s s₃ Z₁ W vs.reverse I₃ F₃ (by simpa using hn) hm₃ (fun p hp d a h1 h2 q=>?_) F₃.wa) (fun _ s' ⟨W',I',e',F',h1,h2⟩=>?_) fun _ _ x=>x
  · rw [List.getElem?_map,h1] at h2
    simp at h2;subst h2;exact wpAny_bindName h
  · have:=hm₃.1 p hp
    rw [h1,h2] at this
    obtain ⟨b,hb,_,hf,_⟩:=this
    cases hb
    obtain ⟨o,e⟩:=F.wa _ q
    exact none_some hf e
  · exact ⟨Z₁,W',sets_end F e₁₃ hm₃ I' e' F' h1 h2,trivial⟩
end
end Mine
end
section
open PySem PySem.W PyProof.Rows
namespace Mine
section
variable {c:Cx} {n:Nat} {sc:Scope} {ρ:List (Option Sl)}
theorem Fr.upd {env:Env} {s:Shared} {Z W:Addr→Prop} (I:Inv c s Z) (F:Fr c sc env ρ s Z W) {i:Nat} {x:Str} {k:NameKind} {d d':D} {a:Addr} (hx:sc.names[i]? = some (x,k)) (hρ:ρ[i]? = some (some (.own d))) (hv:HasVal env s.heap x k (.ref a))
    {h':Heap} {tk:Nat} (hs:Heap.SameBut a s.heap h') (ho:OwnRep c h' Z a d'):SStp c sc env (ρ.set i (some (.own d'))) s Z W { s with heap:=h',toks:=tk } Z W:=by
  refine bc fun g=>?_;obtain ⟨v,hv',a',rfl,wa,ho'⟩:=F.slot i x k _ hx hρ
  have:=HasVal.uniq hv hv'
  cases this
  have hz:¬ Z a:=F.zw a wa
  have hL:=F.ownL i x k d a hx hρ hv
  have hk:∀ b o,b ≠ a→s.heap.get? b = some o→h'.get? b = some o:=fun b o hb e=>hs.extBut b o hb e
  obtain ⟨I',e'⟩:=one_obj (tk:=tk) I hz hs
  have hlen:i < ρ.length:=by
    rcases Nat.lt_or_ge i ρ.length with h | h
    · exact h
    · (exact none_some (List.getElem?_eq_none h) hρ)
  have keepV:∀ (y:Str) (l:NameKind) (u:Value),HasVal env s.heap y l u→HasVal env h' y l u:=fun y l u H=>H.at (fun o=>hk _ o (Ne.symm hL.1)) fun b o hb=>hk b o (Ne.symm (hL.2 y b hb))
  have back:∀ (j:Nat) (y:Str) (l:NameKind) (sl:Sl) (u:Value),sc.names[j]? = some (y,l)→ρ[j]? = some (some sl)→HasVal env h' y l u→HasVal env s.heap y l u:=fun j y l sl u h1 h2 h3=>by
    obtain ⟨u',hu,_⟩:=F.slot j y l sl h1 h2
    refine HasVal.uniq h3 (keepV y l u' hu)▸?_;exact hu
  have setj:∀ (j:Nat) (sl:Sl),(ρ.set i (some (.own d')))[j]? = some (some sl)→(j = i∧sl = .own d')∨(j ≠ i∧ρ[j]? = some (some sl)):=fun j sl h=>by
    rw [List.getElem?_set] at h
    by_cases q:i = j
    · rw [if_pos q,if_pos hlen] at h;cases h;exact .inl ⟨q.symm,rfl⟩
    · rw [if_neg q] at h;exact .inr ⟨Ne.symm q,h⟩
  have toOld:∀ (j:Nat) (y:Str) (l:NameKind) (e:D) (b:Addr),sc.names[j]? = some (y,l)→(ρ.set i (some (.own d')))[j]? = some (some (.own e))→HasVal env h' y l (.ref b)→∃ e',ρ[j]? = some (some (.own e'))∧HasVal env s.heap y l (.ref b):=fun j y l e b h1 h2 h3=>by
    rcases setj j _ h2 with ⟨rfl,_⟩ | ⟨_,h⟩
    · exact ⟨d,hρ,back _ y l _ _ h1 hρ h3⟩
    · exact ⟨e,h,back j y l _ _ h1 h h3⟩
  have live:∀ b,W b→∃ o,h'.get? b = some o:=fun b hb=>by
    by_cases q:b = a
    · exact q▸ho.live
    · obtain ⟨o,e⟩:=F.wa b hb;exact ⟨o,hk b o q e⟩
  refine g ?_;refine ⟨I',e'.wider fun b hb=>hb▸wa,⟨F.esc,F.kind,F.glob,F.bu,F.nodup,?_,F.wl,F.zw,live,?_,F.apart,F.lc,F.cw,?_,?_,?_⟩,fun b h=>.inl h,live⟩
  · obtain ⟨m,hm⟩:=F.ns;exact ⟨m,hm.at' fun o=>hk _ o (Ne.symm hL.1)⟩
  · intro j y l h1 h2
    refine bc fun g=>?_;obtain ⟨b,ov,h3,⟨o,ho,hd⟩,h5⟩:=F.cell j y l h1 h2
    refine g ?_;exact ⟨b,ov,h3,⟨o,hk b o (Ne.symm (hL.2 y b h3)) ho,hd⟩,h5⟩
  · intro j y l sl h1 h2
    rcases setj j sl h2 with ⟨rfl,rfl⟩ | ⟨hj,h⟩
    · (cases some_eq hx h1)
      exact ⟨.ref a,keepV x k _ hv,a,rfl,wa,ho⟩
    · obtain ⟨u,hu,r⟩:=F.slot j y l sl h1 h
      refine ⟨u,keepV y l u hu,r.chg hz hk (fun _ h=>h) fun e he=>?_⟩
      subst he
      rintro rfl
      obtain ⟨b,hb,_⟩:=r
      exact F.ownA j i y x l k e d a a h1 hx hj h hρ hu hv rfl
  · intro j j' y y' l l' e e' b b' h1 h1' hne h2 h2' h3 h3'
    obtain ⟨e₁,h4,h5⟩:=toOld j y l e b h1 h2 h3
    obtain ⟨e₂,h4',h5'⟩:=toOld j' y' l' e' b' h1' h2' h3'
    exact F.ownA j j' y y' l l' e₁ e₂ b b' h1 h1' hne h4 h4' h5 h5'
  · intro j y l e b h1 h2 h3
    obtain ⟨e₁,h4,h5⟩:=toOld j y l e b h1 h2 h3
    exact F.ownL j y l e₁ b h1 h4 h5
theorem own_name {i:Nat} {x:Str} {k:NameKind} {d:D} {pos:Pos} {A:Around} {s:Shared} {Z W:Addr→Prop} {env:Env} (F:Fr c sc env ρ s Z W) (hx:sc.names[i]? = some (x,k)) (hρ:ρ[i]? = some (some (.own d))) (hp:plainName x = true) {E:Value→Shared→Prop} {Q:Value→Shared→Prop}
    (h:∀ a,HasVal env s.heap x k (.ref a)→W a→OwnRep c s.heap Z a d→Q (.ref a) s):wpAny (model c.prog c.w) A (eval (.Name x pos) env) Q E s:=by
  refine bc fun g=>?_;obtain ⟨v,hv,a,rfl,wa,ho⟩:=F.slot i x k _ hx hρ
  refine g ?_;simp only [plainName,Bool.and_eq_true,Bool.not_eq_true'] at hp
  exact wpAny_Name (load_has (F.esc▸F.kind) (F.kindOf hx) hv hp.2 (h a hv wa ho)) hp.1
theorem Reps.setAt {h:Heap} {Z:Addr→Prop} {v:Value} {d:D} (rv:Rep c h Z v d) {vs:List Value} {ds:List D} (i:Nat) (r:Reps c h Z vs ds):Reps c h Z (vs.set i v) (ds.set i d):=r.set i rv
theorem setItem_plain {prog:Program} {w:World} {A:Around} {E:Value→Shared→Prop} {s:Shared} {l:Addr} {items:Array Value} {k:Int} {t:Tok} {v:Value} {Q:Unit→Shared→Prop} (hl:PlainL s.heap l items) (h0:0≤k) (hfit:k < 2 ^ 63) (hn:k < items.size)
    (hQ:∀ h',PlainL h' l (items.setIfInBounds k.toNat v)→Heap.SameBut l s.heap h'→Q () { s with heap:=h' }):wpAny (model prog w) A (setItem (.ref l) (.int k t) v) Q E s:=by
  obtain ⟨o,ne,ho,hc,hdn,hd⟩:=id hl
  delta setItem
  try with_reducible refine wpAny_holding ?_
  skip
  refine bnd1 (fun _ q=>wpAny_sequenceKey hl.isList.typeIs (by decide) q) ?_
  refine wpAny_bind (wpAny_callSpecial?_slot (name:=Str.ofString "__setitem__") hl.isList.typeIs slot_list_setitem (wpAny_call_entry slot_list_setitem hl.isList.typeIs entry_list_setitem ?_ (args_list_setitem _ _ _)))
  refine (?_:wpAny _ _ (Builtin.List.listSubscript? (.int k t) >>= _) _ _ s)
  refine bnd1 (fun _ q=>wpAny_listSubscript_int (fitsIndex_of h0 hfit) q) ?_
  clear hfit
  obtain ⟨j,rfl⟩:=Int.eq_ofNat_of_zero_le h0
  skip
  refine wpAny_bind (wpAny_bind (wpAny_seqItemAt ho hd (wpAny_pure ?_)))
  refine (Array.getElem?_eq_getElem (by lia:j < items.size))▸?_
  skip
  obtain ⟨n',hd'⟩:=Obj.data_mapSeq hd (·.setIfInBounds j v)
  have hfin:PlainL (s.heap.update l (Obj.mapSeq (·.setIfInBounds j v))) l (items.setIfInBounds j v):=by
    refine ⟨_,n',Heap.get?_update_self _ ho (Obj.isFreed_of_seq hd'),(Obj.cls_mapSeq ..).trans hc,?_,hd'⟩
    obtain ⟨c,d,dt,sl⟩:=o
    simp only at hd
    subst hd
    exact hdn
  refine bnd1 (fun _ q=>wpAny_setSeqItemAt ho hd q) ?_
  exact wpAny_bind (wpAny_pure (wpAny_pure ⟨.none,rfl,wpAny_pure (hQ _ hfin (Heap.SameBut.update ..))⟩))
theorem asg_subL (i:Nat) {x:Str} {k:NameKind} {ds:List D} {idx:Expr} {j:Int} {d:D} {px pos:Pos} (hx:sc.names[i]? = some (x,k)) (hρ:ρ[i]? = some (some (.own (.list ds)))) (hi:EvE c n sc ρ idx (.int j)) (h0:0≤j) (hj:j < ds.length) (hfit:j < 2 ^ 63)
    (hp:plainName x = true:=by decide +kernel):AsgS c n sc (.Subscript (.Name x px) idx pos) d ρ (ρ.set i (some (.own (.list (ds.set j.toNat d))))):=by
  intro A s Z W env v R I F r
  rw [arm_assign_Subscript]
  refine wpAny_bind (wpAny_holding (own_name F hx hρ hp fun a hv wa ho=>?_))
  refine wpAny_bind (wpAny_holding (Gives.to (hi A s Z W env R I F) fun iv s₁ Z₁ I₁ e₁ r₁=>?_))
  ((replace r₁:=r₁.iI;induction r₁))
  refine bc fun g=>?_;obtain ⟨vs,hl,rr⟩:=ho
  have S₁:=SStp.grow I₁ e₁ F
  refine g ?_;refine wpAny_bind (wpAny_standAt (wpAny_bind (wpAny_holding (setItem_plain (plainL_at hl fun o=>e₁.keep a o id) h0 hfit (by rw [List.size_toArray,rr.length];exact hj) fun h' hl' hs'=>?_))))
  refine wpAny_release ⟨Z₁,W,S₁.trans (S₁.fr.upd (tk:=s₁.toks) I₁ hx hρ (hv.keep fun b o=>e₁.keep b o id) hs' (⟨vs.set j.toNat v,by simpa using hl',reps_mono (fun b o z=>hs'.extBut b o fun q=>(S₁.fr.zw a wa) (q▸z)) (fun _ h=>h) ((e₁.reps no_z rr).setAt (e₁.rep no_z r) _)⟩))⟩
theorem asg_subD (i:Nat) {x:Str} {k:NameKind} {es:List (Str × D)} {idx:Expr} {key:Str} {d:D} {px pos:Pos} (hx:sc.names[i]? = some (x,k)) (hρ:ρ[i]? = some (some (.own (.dict es)))) (hi:EvE c n sc ρ idx (.str key)) (hsz:es.length≤sizeLine)
    (hp:plainName x = true:=by decide +kernel):AsgS c n sc (.Subscript (.Name x px) idx pos) d ρ (ρ.set i (some (.own (.dict (storedD es key d))))):=by
  intro A s Z W env v R I F r
  rw [arm_assign_Subscript]
  refine wpAny_bind (wpAny_holding (own_name F hx hρ hp fun a hv wa ho=>?_))
  refine wpAny_bind (wpAny_holding (Gives.to (hi A s Z W env R I F) fun iv s₁ Z₁ I₁ e₁ r₁=>?_))
  ((replace r₁:=r₁.iS;induction r₁))
  refine bc fun g=>?_;obtain ⟨hsys,kvs,hl,rr⟩:=ho
  have S₁:=SStp.grow I₁ e₁ F
  refine g ?_;refine wpAny_bind (wpAny_standAt (wpAny_bind (wpAny_holding (wpAny_setItem_pairs (knd:=sk c) (k:=key) (by show decide _ = true;simp) (hl.at fun o=>e₁.keep a o id) (fun h' hl' hs'=>?_) (by rw [rr.len];exact hsz)))))
  refine wpAny_release ⟨Z₁,W,S₁.trans (S₁.fr.upd (tk:=s₁.toks + 1) I₁ hx hρ (hv.keep fun b o=>e₁.keep b o id) hs' (⟨hsys,_,hl',repE_mono (fun b o z=>hs'.extBut b o fun q=>(S₁.fr.zw a wa) (q▸z)) (fun _ h=>h) ((e₁.repE no_z rr).stored (e₁.rep no_z r))⟩))⟩
theorem ex_aug {op:Operator} (i:Nat) {x:Str} {k:NameKind} {value:Expr} {a b r:Int} {px pos:Pos} (hop:op = .Add∧r = a + b∨op = .Sub∧r = a - b) (hx:sc.names[i]? = some (x,k)) (hρ:ρ[i]? = some (some (.val (.int a)))) (hv:EvE c n sc ρ value (.int b)) (hk:k = .local∨k = .cell:=by decide)
    (hp:plainName x = true:=by decide +kernel):Ex c n sc (.AugAssign (.Name x px) op value pos) ρ .next (ρ.set i (some (.val (.int r)))):=by
  intro A s Z W env R I F
  obtain ⟨v,hval,rv⟩:=F.slot i x k _ hx hρ
  have hlen:i < ρ.length:=by
    rcases Nat.lt_or_ge i ρ.length with h | h
    · exact h
    · (exact none_some (List.getElem?_eq_none h) hρ)
  simp only [plainName,Bool.and_eq_true,Bool.not_eq_true'] at hp
  refine wpAny_AugAssign_Name (load_has (F.esc▸F.kind) (F.kindOf hx) hval hp.2 ?_)
  refine Gives.to (hv A s Z W env R I F) fun v₁ s₁ Z₁ I₁ e₁ r₁=>?_
  ((replace r₁:=r₁.iI;induction r₁))
  cases rv
  have S₁:=SStp.grow I₁ e₁ F
  have fin:∀ (t:Tok) tk,wpAny (model c.prog c.w) A (storeName env x (.int r t)) (fun _=>SPost c sc env (ρ.set i (some (.val (.int r)))) .next s Z W .next) noE { s₁ with toks:=tk }:=fun t tk=>by
    have I₂:Inv c { s₁ with toks:=tk } Z₁:=⟨I₁.base,I₁.zb,I₁.za,I₁.os,I₁.bare⟩
    have e₂:Evo no s₁ Z₁ { s₁ with toks:=tk } Z₁:=⟨fun _ _ _ e=>e,fun _ _ e=>e,fun _ h=>h,fun _ h=>.inl h⟩
    have S₂:=S₁.trans (SStp.grow I₂ e₂ S₁.fr)
    refine store_slot S₂.fr hx hk hlen (sl:=.val (.int r)) .int fun h' tk' hk' F'=>?_
    refine ⟨Z₁,W,S₂.trans (Stp.s S₂.fr (stp_loc (N:=(· = i)) I₂ S₂.fr hk' F' fun _ h=>.inl h)),trivial⟩
  rcases hop with ⟨rfl,rfl⟩ | ⟨rfl,rfl⟩
  · exact iadd_int (fin _ _)
  · exact isub_int (fin _ _)
theorem ex_augD (i:Nat) {x:Str} {k:NameKind} {es:List (Str × D)} {idx value:Expr} {key:Str} {a b:Int} {px spos pos:Pos} (hx:sc.names[i]? = some (x,k)) (hρ:ρ[i]? = some (some (.own (.dict es)))) (hi:EvE c n sc ρ idx (.str key)) (hin:(es.find? fun f=>f.1 = key) = some (key,.int a)) (hv:EvE c n sc ρ value (.int b))
    (hsz:es.length≤sizeLine) (hs:∀ ov iv new,augStore idx ov iv new = augStore (.Name Str.empty default) ov iv new:=by intros;rfl) (hp:plainName x = true:=by decide +kernel) :
    Ex c n sc (.AugAssign (.Subscript (.Name x px) idx spos) .Add value pos) ρ .next (ρ.set i (some (.own (.dict (storedD es key (.int (a + b))))))):=by
  intro A s Z W env R I F
  rw [arm_exec_AugAssign_3]
  refine wpAny_bind (wpAny_standAt (wpAny_bind (own_name F hx hρ hp fun ad hval wa ho=>?_)))
  refine wpAny_bind (wpAny_holding (Gives.to (hi A s Z W env R I F) fun iv s₁ Z₁ I₁ e₁ r₁=>?_))
  ((replace r₁:=r₁.iS;induction r₁))
  rename_i tkey
  refine bc fun g=>?_;obtain ⟨hsys,kvs,hl,rr⟩:=ho
  obtain ⟨va,hva,rva⟩:∃ va,valueAt kvs key = some va∧Rep c s.heap Z va (.int a):=rr.some hin
  cases rva
  refine g ?_;refine wpAny_bind (wpAny_holding (wpAny_bind (wpAny_standAt (wpAny_bind (wpAny_getItem_of (knd:=sk c) (k:=key) (by show decide _ = true;simp) (hl.at fun o=>e₁.keep ad o id).mapOf hva ?_)))))
  have I₁':Inv c { s₁ with toks:=s₁.toks + 1 } Z₁:=⟨I₁.base,I₁.zb,I₁.za,I₁.os,I₁.bare⟩
  have e₁':Evo no s Z { s₁ with toks:=s₁.toks + 1 } Z₁:=⟨e₁.keep,e₁.gens,e₁.zmono,e₁.znew⟩
  refine wpAny_bind (wpAny_holding (Gives.to (hv A _ Z₁ W env R I₁' (F.grow e₁')) fun v₂ s₂ Z₂ I₂ e₂ r₂=>?_))
  ((replace r₂:=r₂.iI;induction r₂))
  have e₁₂:=e₁'.trans e₂
  refine bnd1 (fun _ q=>wpAny_standAt q) ?_
  delta operate
  refine wpAny_bind (wpAny_holding (iadd_int ?_))
  refine wpAny_bind (wpAny_release (wpAny_pure ?_))
  refine bnd1 (fun _ q=>wpAny_standAt q) ?_
  have I₃:Inv c { s₂ with toks:=s₂.toks + 1 } Z₂:=⟨I₂.base,I₂.zb,I₂.za,I₂.os,I₂.bare⟩
  have e₃:Evo no s Z { s₂ with toks:=s₂.toks + 1 } Z₂:=⟨e₁₂.keep,e₁₂.gens,e₁₂.zmono,e₁₂.znew⟩
  have S₃:=SStp.grow I₃ e₃ F
  have key':wpAny (model c.prog c.w) A (do
      holding [.int (a + b) s₂.toks,.ref ad,.str key tkey] (setItem (.ref ad) (.str key tkey) (.int (a + b) s₂.toks))
      release [.int (a + b) s₂.toks,.ref ad,.str key tkey] []
      pure Flow.next) (SPost c sc env (ρ.set i (some (.own (.dict (storedD es key (.int (a + b))))))) .next s Z W) noE { s₂ with toks:=s₂.toks + 1 }:=by
    refine wpAny_bind (wpAny_holding (wpAny_setItem_pairs (knd:=sk c) (k:=key) (by show decide _ = true;simp) (hl.at fun o=>e₃.keep ad o id) (fun h' hl' hs'=>?_) (by rw [rr.len];exact hsz)))
    exact wpAny_bind (wpAny_release (wpAny_pure ⟨Z₂,W,S₃.trans (S₃.fr.upd (tk:=s₂.toks + 1 + 1) I₃ hx hρ (hval.keep fun b o=>e₃.keep b o id) hs' (⟨hsys,_,hl',repE_mono (fun b o z=>hs'.extBut b o fun q=>(S₃.fr.zw ad wa) (q▸z)) (fun _ h=>h) ((e₃.repE no_z rr).stored .int)⟩)),trivial⟩))
  rw [hs]
  exact key'
theorem ex_append (i:Nat) {x:Str} {k:NameKind} {ds:List D} {elt:Expr} {d:D} {px ap cpos pos:Pos} (hx:sc.names[i]? = some (x,k)) (hρ:ρ[i]? = some (some (.own (.list ds)))) (he:EvE c n sc ρ elt d) (hsz:ds.length≤sizeLine) (hn:noStar elt = true:=by rfl) (hline:(ap.endLine == cpos.line) = true:=by rfl)
    (hp:plainName x = true:=by decide +kernel):Ex c n sc (.Expr (.Call (.Attribute (.Name x px) (Str.ofString "append") ap) [elt] [] cpos) pos) ρ .next (ρ.set i (some (.own (.list (ds ++ [d]))))):=by
  intro A s Z W env R I F
  refine wpAny_Expr_any (wpAny_Call_append rfl (by rw [starEach_cons hn];rfl) hline (by rw [starEach_cons hn];rfl) (own_name F hx hρ hp fun a hval wa ho=>?_)) (by delta interactive;rw [F.esc,F.kind];rfl) rfl
  obtain ⟨vs,hl,rr⟩:=ho
  refine ⟨a,vs.toArray,rfl,hl,Gives.to (he A s Z W env R I F) fun v s₁ Z₁ I₁ e₁ r₁=>?_⟩
  have S₁:=SStp.grow I₁ e₁ F
  refine list_append_plainL (plainL_at hl fun o=>e₁.keep a o id) (fun h' hl' hs'=>?_) (by rw [List.size_toArray,rr.length];exact hsz)
  exact ⟨Z₁,W,S₁.trans (S₁.fr.upd (tk:=s₁.toks) I₁ hx hρ (hval.keep fun b o=>e₁.keep b o id) hs' (⟨vs ++ [v],by simpa using hl',reps_mono (fun b o z=>hs'.extBut b o fun q=>(S₁.fr.zw a wa) (q▸z)) (fun _ h=>h) ((e₁.reps no_z rr).append (.cons r₁ .nil))⟩)),trivial⟩
end
end Mine
end
section
open PySem PySem.W PyProof.Rows
namespace Mine
section
variable {c:Cx} {n:Nat} {sc:Scope} {ρ:List (Option Sl)}
structure LStp (c:Cx) (sc:Scope) (env:Env) (ρ':List (Option Sl)) (fp:List Addr) (s:Shared) (Z W:Addr→Prop) (s':Shared) (Z' W':Addr→Prop):Prop where
  inv:Inv c s' Z'
  evo:Evo (fun b=>W b∨b ∈ fp) s Z s' Z'
  fr:Fr c sc env ρ' s' Z' W'
  wnew:∀ a,W' a→W a∨s.heap.get? a = none
  wl:∀ a,W a→∃ o,s'.heap.get? a = some o
theorem SStp.l {env:Env} {ρ':List (Option Sl)} {fp:List Addr} {s s':Shared} {Z W Z' W':Addr→Prop} (a:SStp c sc env ρ' s Z W s' Z' W'):LStp c sc env ρ' fp s Z W s' Z' W':=⟨a.inv,a.evo.wider fun _ h=>.inl h,a.fr,a.wnew,a.wl⟩
theorem LStp.trans {env:Env} {ρ₁ ρ₂:List (Option Sl)} {fp:List Addr} {s s₁ s₂:Shared} {Z W Z₁ W₁ Z₂ W₂:Addr→Prop} (a:LStp c sc env ρ₁ fp s Z W s₁ Z₁ W₁) (b:LStp c sc env ρ₂ fp s₁ Z₁ W₁ s₂ Z₂ W₂) (hf:∀ b ∈ fp,∃ o,s₁.heap.get? b = some o) (hd:∀ b ∈ fp,¬ W b):LStp c sc env ρ₂ fp s Z W s₂ Z₂ W₂:=
  ⟨b.inv,a.evo.trans' b.evo fun x h=>by
    rcases h with h | h
    · rcases a.wnew x h with h | h
      · exact .inl (.inl h)
      · exact .inr h
    · exact .inl (.inr h),b.fr,fun x h=>by
    rcases b.wnew x h with h | h
    · exact a.wnew x h
    · refine .inr (a.evo.gone (fun q=>?_) h)
      rcases q with q | q
      · obtain ⟨o,e⟩:=a.wl x q
        rw [h] at e
        exact (nomatch e)
      · obtain ⟨o,e⟩:=hf x q
        rw [h] at e
        exact (nomatch e),fun x h=>by
    by_cases q:W₁ x
    · exact b.wl x q
    · obtain ⟨o,e⟩:=a.wl x h
      exact ⟨o,b.evo.keep x o (fun r=>by
        rcases r with r | r
        · exact q r
        · exact hd x r h) e⟩⟩
inductive LoopF (c:Cx) (n:Nat) (sc:Scope) (tgt:Expr) (body:List Stmt):List D→List (Option Sl)→Out→List (Option Sl)→Prop
  | nil {ρ:List (Option Sl)}:LoopF c n sc tgt body [] ρ .next ρ
  | step {x:D} {xs:List D} {ρ ρ₁ ρ₂ ρ':List (Option Sl)} {o₁ o:Out}:AsgS c n sc tgt x ρ ρ₁→Exs c n sc body ρ₁ o₁ ρ₂→(o₁ = .next∨o₁ = .cont)→LoopF c n sc tgt body xs ρ₂ o ρ'→LoopF c n sc tgt body (x :: xs) ρ o ρ'
  | brk {x:D} {xs:List D} {ρ ρ₁ ρ₂:List (Option Sl)}:AsgS c n sc tgt x ρ ρ₁→Exs c n sc body ρ₁ .brk ρ₂→LoopF c n sc tgt body (x :: xs) ρ .next ρ₂
  | ret {x:D} {xs:List D} {ρ ρ₁ ρ₂:List (Option Sl)} {d:D}:AsgS c n sc tgt x ρ ρ₁→Exs c n sc body ρ₁ (.ret d) ρ₂→LoopF c n sc tgt body (x :: xs) ρ (.ret d) ρ₂
noncomputable def ForR (c:Cx) (sc:Scope) (env:Env) (ρ':List (Option Sl)) (o:Out) (fp:List Addr) (s:Shared) (Z W:Addr→Prop):Result→Shared→Prop:=
  fun r s'=>∃ f Z' W',r = .ok f∧LStp c sc env ρ' fp s Z W s' Z' W'∧OutRep c s'.heap Z' f o
noncomputable def TurnE (c:Cx) (sc:Scope) (env:Env) (ρ₂:List (Option Sl)) (o₁:Out) (fp:List Addr) (St:StT) (xs:List D) (s:Shared) (Z W:Addr→Prop) (f:Flow) (s₃:Shared):Prop:=
  ∃ Z₃ W₃,LStp c sc env ρ₂ fp s Z W s₃ Z₃ W₃∧OutRep c s₃.heap Z₃ f o₁∧St xs Z₃ s₃.heap∧(∀ b ∈ fp,¬ Z₃ b)∧(∀ b ∈ fp,¬ W₃ b)
theorem for_turn {tgt:Expr} {body:List Stmt} {x:D} {xs:List D} {ρ ρ₁ ρ₂:List (Option Sl)} {o₁:Out} (ha:AsgS c n sc tgt x ρ ρ₁) (hb:Exs c n sc body ρ₁ o₁ ρ₂) {A:Around} {s:Shared} {Z W:Addr→Prop} {env:Env} {it:Addr} {fp:List Addr} {St:StT} (R:Room A n) (I:Inv c s Z)
    (F:Fr c sc env ρ s Z W) (ip:IterP c A false tgt it fp St) (st:St (x :: xs) Z s.heap) (hfz:∀ b ∈ fp,¬ Z b) (hfw:∀ b ∈ fp,¬ W b) :
    wpAny (model c.prog c.w) A (pyNext (.ref it)) (fun r s₀=>∃ v,r = some v∧wpAny (model c.prog c.w) A (letOwnedTupleGo tgt (.ref it) v) (fun _ s₁=>wpAny (model c.prog c.w) A (assign tgt env v) (fun _ s₂=>
      wpAny (model c.prog c.w) A (execs body env) (TurnE c sc env ρ₂ o₁ fp St xs s Z W) noE s₂) noE s₁) noE s₀) noE s:=by
  have hflive:∀ b ∈ fp,∃ o,s.heap.get? b = some o:=ip.ok.live _ _ _ st
  refine wpAny_mono (ip.turn x xs s Z st I hfz) (?_) fun _ _ x=>x;rintro r s₀ ⟨v,hr,hgo⟩;refine ⟨v,hr,?_⟩
  refine wpAny_mono hgo (?_) fun _ _ x=>x;intro _ s₁ q;refine bc fun g=>?_;obtain ⟨Z₁,S₁,st₁,rv⟩:=q;refine g ?_;refine ?_
  have F₁:=F.apartX S₁.evo (fun b h=>hfw b h) (fun b h=>hfz b h)
  have keep:∀ {ρa ρb:List (Option Sl)} {sa sb:Shared} {Za Zb Wa Wb:Addr→Prop},Fr c sc env ρa sa Za Wa→SStp c sc env ρb sa Za Wa sb Zb Wb→St xs Za sa.heap→(∀ b ∈ fp,¬ Za b)→(∀ b ∈ fp,¬ Wa b)→St xs Zb sb.heap∧(∀ b ∈ fp,¬ Zb b)∧(∀ b ∈ fp,¬ Wb b):=by
    intro ρa ρb sa sb Za Zb Wa Wb Fa S sta hz hw
    have live:=ip.ok.live _ _ _ sta
    refine ⟨ip.ok.frame _ _ _ _ _ sta (fun b hb o=>S.evo.keep b o (hw b hb)) (fun b o z=>S.evo.keep b o fun q=>Fa.zw b q z) S.evo.zmono,fun b hb q=>?_,fun b hb q=>?_⟩
    · rcases S.evo.znew b q with h | h | h
      · exact hz b hb h
      · exact hw b hb h
      · obtain ⟨o,e⟩:=live b hb;exact none_some h e
    · rcases S.wnew b q with h | h
      · exact hw b hb h
      · obtain ⟨o,e⟩:=live b hb;exact none_some h e
  refine wpAny_mono (ha A s₁ Z₁ W env v R S₁.inv F₁ rv) (?_) fun _ _ x=>x;rintro _ s₂ ⟨Z₂,W₂,S₂⟩;refine ?_
  obtain ⟨st₂,hz₂,hw₂⟩:=keep F₁ S₂ st₁ S₁.off hfw
  refine wpAny_mono (hb A s₂ Z₂ W₂ env R S₂.inv S₂.fr) (?_) fun _ _ x=>x;rintro f s₃ ⟨Z₃,W₃,S₃,r₃⟩;refine ?_
  obtain ⟨st₃,hz₃,hw₃⟩:=keep S₂.fr S₃ st₂ hz₂ hw₂
  exact ⟨Z₃,W₃,((⟨S₁.inv,S₁.evo.wider fun _ h=>.inr h,F₁,fun _ h=>.inl h,F₁.wa⟩:LStp c sc env ρ fp s Z W s₁ Z₁ W).trans S₂.l (ip.ok.live _ _ _ st₁) hfw).trans S₃.l (ip.ok.live _ _ _ st₂) hfw,r₃,st₃,hz₃,hw₃⟩
theorem for_loop {tgt:Expr} {body:List Stmt}:∀ {xs:List D} {ρ ρ':List (Option Sl)} {o:Out},LoopF c n sc tgt body xs ρ o ρ'→∀ A s Z W env it fp St,Room A n→Inv c s Z→Fr c sc env ρ s Z W→IterP c A false tgt it fp St→St xs Z s.heap→(∀ b ∈ fp,¬ Z b)→(∀ b ∈ fp,¬ W b) →
    codeAny (model c.prog c.w) A (.forLoop tgt (.ref it) body [] env) (ForR c sc env ρ' o fp s Z W) s:=by
  intro xs ρ ρ' o h
  induction h with
  | nil=>
    intro A s Z W env it fp St R I F ip st hfz hfw
    refine codeAny_turn ?_
    skip
    refine wpAny_noted (noted_no ?_)
    simp only [forTurn]
    refine wpAny_bind (wpAny_standAt (wpAny_bind (wpAny_onRaise (wpAny_mono (ip.done s Z st I hfz) (fun r s₁ h₁=>?_) fun _ _ h'=>h'.elim))))
    obtain ⟨rfl,Z₁,S⟩:=h₁
    refine wpAny_pure ⟨rfl,codeAny_block (wpAny_execs_nil ⟨.next,Z₁,W,rfl,⟨S.inv,S.evo.wider fun _ h=>.inr h,F.apartX S.evo (fun b h=>hfw b h) (fun b h=>hfz b h),fun _ h=>.inl h,fun a ha=>?_⟩,trivial⟩)⟩
    obtain ⟨o,e⟩:=F.wa a ha
    exact ⟨o,S.evo.keep a o (fun q=>hfw a q ha) e⟩
  | @step x xs ρ ρ₁ ρ₂ ρ' o₁ o ha hb ho hr ih=>
    intro A s Z W env it fp St R I F ip st hfz hfw
    refine codeAny_turn ?_
    skip
    refine wpAny_noted (noted_no ?_)
    simp only [forTurn]
    refine wpAny_bind (wpAny_standAt (wpAny_bind (wpAny_onRaise (wpAny_mono (for_turn ha hb R I F ip st hfz hfw) (?_) fun _ _ h'=>h'.elim))));rintro r s₀ ⟨v,hr,h₀⟩;refine ?_
    subst hr
    refine wpAny_bind (wpAny_mono h₀ (fun _ s₁ h₁=>wpAny_bind (wpAny_mono h₁ (fun _ s₂ h₂=>wpAny_bind (wpAny_mono h₂ (fun f s₃ h₃=>?_) fun _ _ x=>x)) fun _ _ x=>x)) fun _ _ x=>x)
    obtain ⟨Z₃,W₃,L,r₃,st₃,hz₃,hw₃⟩:=h₃
    have go:codeAny (model c.prog c.w) A (.forLoop tgt (.ref it) body [] env) (ForR c sc env ρ' o fp s Z W) s₃:=
      codeAny_mono (ih A s₃ Z₃ W₃ env it fp St R L.inv L.fr ip st₃ hz₃ hw₃) (by rintro r s' ⟨f,Z',W',hr,L',r'⟩;exact ⟨f,Z',W',hr,L.trans L' (ip.ok.live _ _ _ st₃) hfw,r'⟩)
    induction f with
    | next=>exact wpAny_pure ⟨rfl,go⟩
    | cont=>exact wpAny_pure ⟨rfl,go⟩
    | brk=>rcases ho with rfl | rfl<;>exact r₃.elim
    | ret v=>rcases ho with rfl | rfl<;>exact r₃.elim
  | brk ha hb=>
    intro A s Z W env it fp St R I F ip st hfz hfw
    refine codeAny_turn ?_
    skip
    refine wpAny_noted (noted_no ?_)
    simp only [forTurn]
    refine wpAny_bind (wpAny_standAt (wpAny_bind (wpAny_onRaise (wpAny_mono (for_turn ha hb R I F ip st hfz hfw) (?_) fun _ _ h'=>h'.elim))));rintro r s₀ ⟨v,hr,h₀⟩;refine ?_
    subst hr
    refine wpAny_bind (wpAny_mono h₀ (fun _ s₁ h₁=>wpAny_bind (wpAny_mono h₁ (fun _ s₂ h₂=>wpAny_bind (wpAny_mono h₂ (fun f s₃ h₃=>?_) fun _ _ x=>x)) fun _ _ x=>x)) fun _ _ x=>x)
    obtain ⟨Z₃,W₃,L,r₃,st₃,hz₃,hw₃⟩:=h₃
    induction f<;>first | exact r₃.elim | exact wpAny_pure ⟨.next,Z₃,W₃,rfl,L,trivial⟩
  | ret ha hb=>
    intro A s Z W env it fp St R I F ip st hfz hfw
    refine codeAny_turn ?_
    skip
    refine wpAny_noted (noted_no ?_)
    simp only [forTurn]
    refine wpAny_bind (wpAny_standAt (wpAny_bind (wpAny_onRaise (wpAny_mono (for_turn ha hb R I F ip st hfz hfw) (?_) fun _ _ h'=>h'.elim))));rintro r s₀ ⟨v,hr,h₀⟩;refine ?_
    subst hr
    refine wpAny_bind (wpAny_mono h₀ (fun _ s₁ h₁=>wpAny_bind (wpAny_mono h₁ (fun _ s₂ h₂=>wpAny_bind (wpAny_mono h₂ (fun f s₃ h₃=>?_) fun _ _ x=>x)) fun _ _ x=>x)) fun _ _ x=>x)
    obtain ⟨Z₃,W₃,L,r₃,st₃,hz₃,hw₃⟩:=h₃
    induction f<;>first | exact r₃.elim | exact wpAny_pure ⟨.ret _,Z₃,W₃,rfl,L,r₃⟩
theorem ex_for {tgt iter:Expr} {body:List Stmt} {xs:List D} {o:Out} {ρ':List (Option Sl)} {pos:Pos} (hi:EvI c false n sc ρ iter tgt xs) (h:LoopF c n sc tgt body xs ρ o ρ'):Ex c n sc (.For tgt iter body [] pos) ρ o ρ':=by
  intro A s Z W env R I F
  refine wpAny_For (wpAny_mono (hi.2 A s Z W env R I F) (fun x s₁ h₁=>wpAny_mono h₁ (fun it s₂ h₂=>?_) fun _ _ x=>x) fun _ _ x=>x) (hi.1 env)
  refine bc fun g=>?_;obtain ⟨i,fp,St,Z₂,rfl,M⟩:=h₂
  refine g ?_;refine codeAny_mono (for_loop h A s₂ Z₂ W env i fp St R M.inv (F.grow M.evo) (M.ip A R.h) M.st M.off (fun b hb q=>by obtain ⟨o,e⟩:=F.wa b q;exact none_some (M.fresh b hb) e)) ?_;rintro r s' ⟨f,Z',W',hr,L,r'⟩;refine ?_
  subst hr
  refine ⟨Z',W',⟨L.inv,(M.evo.wider fun _ h=>h.elim).trans' L.evo fun b hb=>?_,L.fr,fun a ha=>?_,L.wl⟩,r'⟩
  · rcases hb with h | h
    · exact .inl h
    · exact .inr (M.fresh b h)
  · rcases L.wnew a ha with h | h
    · exact .inl h
    · exact .inr (M.evo.back h)
end
end Mine
end
section
open PySem PySem.W PyProof.Rows
namespace Mine
section
variable {c:Cx} {n:Nat}
theorem fun_frame {scope:Scope} (hk:scope.kind = .function) (hnd:(scope.names.map (·.1)).Nodup) (hfree:∀ x ∈ scope.names,x.2 ≠ .free) {s:Shared} {Z:Addr→Prop} (I:Inv c s Z) {q:Str} {fn:Option Addr} {code:Value} {o₁:Obj} (ho₁:o₁ = { cls:=.type "frame",data:=.dict #[] }) :
    let L:=s.heap.objs.size
    let h':=pushCells (s.heap.push o₁) scope.names
    let env:=newEnv scope L mainGlobals (cellsFrom (L + 1) scope.names []) q fn code none builtinsNs
    Inv c { s with heap:=h' } Z∧Evo no s Z { s with heap:=h' } Z∧∃ W',Fr c scope env (List.replicate scope.names.length none) { s with heap:=h' } Z W'∧(∀ a,W' a→s.heap.get? a = none):=by
  intro L h' env
  subst ho₁
  have hkp:∀ b o,s.heap.get? b = some o→h'.get? b = some o:=fun b o e=>pushCells_keeps _ _ b o (Heap.get?_push_of_some _ e)
  have I':Inv c { s with heap:=h' } Z:=inv_w (W:=no) (tk:=s.toks) I (fun _ h=>h.elim) fun b o _ e=>hkp b o e
  have e':Evo no s Z { s with heap:=h' } Z:=evo_w (tk:=s.toks) fun b o _ e=>hkp b o e
  have ok:CellsOk h' (L + 1) (cellsFrom (L + 1) scope.names []):=by
    have:=cellsFrom_ok scope.names (s.heap.push { cls:=.type "frame",data:=.dict #[] }) (L + 1) [] ⟨fun _ _ hm=>(nomatch hm),List.Pairwise.nil⟩ (by rw [Heap.size_push];exact Nat.le_refl _)
    rw [Heap.size_push] at this;exact this
  have hge:∀ a,L≤a→s.heap.get? a = none:=fun a ha=>by
    induction q:s.heap.get? a with
    | none=>rfl
    | some o=>exact absurd (Heap.lt_size q) (Nat.not_lt.mpr ha)
  have nsL:h'.Ns L (fun _=>none):=(Heap.Ns.new s.heap (.type "frame")).keeps (pushCells_keeps _ _)
  have none':∀ (i:Nat) (sl:Sl),(List.replicate scope.names.length (none:Option Sl))[i]? = some (some sl)→False:=fun i sl h=>by
    rw [List.getElem?_replicate] at h
    split at h<;>cases h
  refine ⟨I',e',fun a=>a = L∨∃ x,(x,a) ∈ cellsFrom (L + 1) scope.names [],⟨rfl,hk,rfl,rfl,?_,⟨_,nsL⟩,.inl rfl,?_,?_,?_,?_,?_,?_,fun i x k sl _ h=>(none' i sl h).elim,fun i _ _ _ _ _ d _ _ _ _ _ _ h=>(none' i _ h).elim,fun i _ _ d _ _ h=>(none' i _ h).elim⟩,?_⟩
  · intro i j x k k' h1 h2
    have hi:i < (scope.names.map (·.1)).length:=by
      rw [List.length_map]
      rcases Nat.lt_or_ge i scope.names.length with h | h
      · exact h
      · (exact none_some (List.getElem?_eq_none h) h1)
    exact (List.getElem?_inj hi hnd).mp (by rw [List.getElem?_map,List.getElem?_map,h1,h2];rfl)
  · rintro a (rfl | ⟨x,h⟩) hz
    · obtain ⟨o,e⟩:=I.za _ hz;(exact none_some (hge _ (Nat.le_refl _)) e)
    · obtain ⟨o,e⟩:=I.za _ hz
      (exact none_some (hge a (Nat.le_of_lt (ok.empty x a h).2)) e)
  · rintro a (rfl | ⟨x,h⟩)
    · obtain ⟨o,_,_,e,_⟩:=nsL;exact ⟨o,e⟩
    · obtain ⟨o,e,_⟩:=(ok.empty x a h).1;exact ⟨o,e⟩
  · intro i x k h1 h2
    refine bc fun g=>?_;rcases h2 with rfl | rfl
    · obtain ⟨a₀,ha₀⟩:=cellsFrom_has scope.names (L + 1) x (List.mem_of_getElem? h1)
      obtain ⟨a,ha⟩:=lookup_of_mem ha₀
      have hm:=mem_of_lookup ha
      refine g ?_;exact ⟨a,none,ha,(ok.empty x a hm).1,.inr ⟨x,hm⟩⟩
    · exact absurd rfl (hfree _ (List.mem_of_getElem? h1))
  · intro x y a h1 h2
    exact name_of_addr ok.apart (mem_of_lookup h1) (mem_of_lookup h2)
  · exact fun x a h=>Nat.ne_of_gt (ok.empty x a (mem_of_lookup h)).2
  · exact fun x a h=>.inr ⟨x,mem_of_lookup h⟩
  · rintro a (rfl | ⟨x,h⟩)
    · exact hge _ (Nat.le_refl _)
    · exact hge _ (Nat.le_of_lt (ok.empty x a h).2)
theorem binds_go {scope:Scope} {env:Env} (f:Str × Value→PUnit→Sem (ForInStep PUnit)) (hf:∀ n v u,f (n,v) u = (do storeName env n v;pure (.yield ⟨⟩))) {A:Around} :
    ∀ {xs:List Str} {ds:List D} {ρ ρ':List (Option Sl)},Sets scope xs (ds.map .val) ρ ρ'→∀ s Z W vs (Q:PUnit→Shared→Prop),Inv c s Z→Fr c scope env ρ s Z W→Reps c s.heap Z vs ds →
      (∀ s',Inv c s' Z→Evo W s Z s' Z→Fr c scope env ρ' s' Z W→Q ⟨⟩ s')→wpAny (model c.prog c.w) A (forIn (xs.zip vs) ⟨⟩ f) Q noE s:=by
  intro xs
  induction xs with
  | nil=>
    intro ds ρ ρ' h s Z W vs Q I F r hq
    cases ds with
    | cons _ _=>cases h
    | nil=>
      cases h
      induction r.iE
      exact wpAny_pure (hq s I Evo.refl F)
  | cons x xs ih=>
    intro ds ρ ρ' h s Z W vs Q I F r hq
    cases ds with
    | nil=>cases h
    | cons d ds=>?_
    replace r:=r.iQ;induction r with | mk rv rs=>?_
    rename_i v vs
    cases h with | cons i k hx hk hi hr=>?_
    rw [List.zip_cons_cons,List.forIn_cons,hf]
    refine wpAny_bind (wpAny_bind (store_slot F hx hk hi (sl:=.val d) rv fun h' tk hk' F'=>wpAny_pure ?_))
    have e₁:Evo W s Z { s with heap:=h',toks:=tk } Z:=evo_w (W:=W) fun b o hb e=>hk' b o (fun q=>hb (q.w F)) e
    exact ih hr _ Z W vs Q (inv_w (W:=Loc scope env (· = i)) (tk:=tk) I (fun _ h=>h.z F) hk') F' (e₁.reps F.zw rs) fun s' I' e' F''=>hq s' I' (e₁.trans e') F''
structure FunOk (c:Cx) (a:Addr) (scope:Scope) (body:List Stmt) (ds:List D) (ρ₀:List (Option Sl)):Prop where
  ex:∃ o fd xs,c.h₀.get? a = some o∧o.data = .func fd∧fd.body = .stmts body∧fd.scope = scope∧fd.closure = []∧fd.globals = mainGlobals∧fd.builtins = builtinsNs∧c.h₀.CodeRec fd.code fd.qualname ∧
    (∀ vs:List Value,vs.length = ds.length→bindArgs fd ⟨vs,[]⟩ = pure (xs.zip vs))∧Sets scope xs (ds.map .val) (List.replicate scope.names.length none) ρ₀
  co:scope.isCoroutine = false
  gen:scope.isGenerator = false
  kind:scope.kind = .function
  nodup:(scope.names.map (·.1)).Nodup
  nofree:∀ x ∈ scope.names,x.2 ≠ .free
theorem call_fun' (B:Base c) {a:Addr} {scope:Scope} {body:List Stmt} {ds:List D} {ρ₀ ρ':List (Option Sl)} {o:Out} {d:D} (H:FunOk c a scope body ds ρ₀) (hb:Exs c n scope body ρ₀ o ρ') (ho:o = .ret d∨(o = .next∧d = .none)):CallV c (n + 1) (.ref a) ds d:=by
  intro A s Z vs R I r
  refine bc fun g=>?_;obtain ⟨ob,fd,xs,h1,h2,h3,h4,h5,h6,h7,h8,h9,h10⟩:=H.ex
  refine g ?_;refine wpAny_call (codeAny_call_function R.lt (I.base _ _ h1) h2 (h4▸H.co) (h4▸H.gen) h3 ((by refine bc fun g=>?_;obtain ⟨cd,oc,ws,t,e1,e2,e3⟩:=h8;exact g (⟨cd,oc,ws,t,e1,I.base _ _ e2,e3⟩))) ?_)
  rw [h9 vs r.length,h4,h5,h6,h7]
  refine wpAny_pure ?_
  refine noted_no ?_
  simp only [newFunctionEnv,Option.isSome_none,Bool.false_eq_true,if_false]
  refine bnd1 (fun _ q=>wpAny_alloc q) ?_
  refine bnd1 (fun _ q=>wpAny_layCells _ (fun name kind cells=>by induction hkc:kind == NameKind.cell<;>rfl) _ _ _ _ q) ?_
  rw [show ({ s with heap:=s.heap.push { cls:=.type "frame",data:=.dict #[] } }:Shared).heap.objs.size = s.heap.objs.size + 1 from Heap.size_push ..]
  refine bc fun g=>?_;obtain ⟨I₁,e₁,W₁,F₁,hW₁⟩:=fun_frame H.kind H.nodup H.nofree I (q:=fd.qualname ++ ".<locals>.") (fn:=some a) (code:=fd.code) rfl
  refine g ?_;refine wpAny_bind (binds_go _ (fun _ _ _=>rfl) h10 _ Z W₁ vs _ I₁ F₁ (e₁.reps no_z r) fun s₂ I₂ e₂ F₂=>wpAny_pure ⟨B.lim.keeps I₂.base,codeAny_func ?_⟩)
  refine noted_no (wpAny_mono (hb _ s₂ Z W₁ _ R.deeper I₂ F₂) (?_) fun _ _ x=>x);intro f s' q;refine bc fun g=>?_;obtain ⟨Z',W',S,rr⟩:=q;refine g (?_)
  have e:Evo no s Z s' Z':=(e₁.trans' e₂ fun x hx=>.inr (hW₁ x hx)).trans' S.evo fun x hx=>.inr (hW₁ x hx)
  rcases ho with rfl | ⟨rfl,rfl⟩
  · induction f<;>first | exact rr.elim | exact ⟨Z',S.inv,e,rr⟩
  · induction f<;>first | exact rr.elim | exact ⟨Z',S.inv,e,.none⟩
theorem call_fun (B:Base c) {a:Addr} {scope:Scope} {body:List Stmt} {ds:List D} {ρ₀ ρ':List (Option Sl)} {d:D} (H:FunOk c a scope body ds ρ₀) (hb:Exs c n scope body ρ₀ (.ret d) ρ'):CallV c (n + 1) (.ref a) ds d:=call_fun' B H hb (.inl rfl)
end
end Mine
end
section
open PySem PySem.W PyProof.Rows
namespace Mine
section
variable {c:Cx} {n:Nat} {sc:Scope} {ρ:List (Option Sl)}
theorem reps1 {h:Heap} {Z:Addr→Prop} {vs:List Value} {d:D} (r:Reps c h Z vs [d]):∃ v,vs = [v]∧Rep c h Z v d:=by
  replace r:=r.iQ;induction r with | mk a b=>cases b;exact ⟨_,rfl,a⟩
theorem reps2 {h:Heap} {Z:Addr→Prop} {vs:List Value} {d e:D} (r:Reps c h Z vs [d,e]):∃ v w,vs = [v,w]∧Rep c h Z v d∧Rep c h Z w e:=by
  replace r:=r.iQ;induction r with | mk a b=>obtain ⟨w,rfl,hw⟩:=reps1 b;exact ⟨_,w,rfl,a,hw⟩
theorem Post.grown {s:Shared} {Z:Addr→Prop} {d:D} {v:Value} {h':Heap} {tk:Nat} (I:Inv c s Z) (hk:∀ b o,s.heap.get? b = some o→h'.get? b = some o) (r:Rep c h' Z v d):Post c s Z d v { s with heap:=h',toks:=tk }:=
  ⟨Z,inv_w (W:=no) I (fun _ h=>h.elim) fun b o _ e=>hk b o e,evo_w fun b o _ e=>hk b o e,r⟩
theorem c_lenL {ds:List D} (h:(ds.length:Int) < 2 ^ 63):CallV c n (.builtin "len") [.list ds] (.int ds.length):=by
  intro A s Z vs R I r
  obtain ⟨v,rfl,q⟩:=reps1 r
  replace q:=q.iL;induction q with | mk z l rr=>?_
  refine Calls.call_len_list l.isList (by rw [List.size_toArray,rr.length];exact h) ?_
  rw [List.size_toArray,rr.length];exact Post.here I .int
theorem c_lenS {x:Str} (h:(x.length:Int) < 2 ^ 63):CallV c n (.builtin "len") [.str x] (.int x.length):=by
  intro A s Z vs R I r
  obtain ⟨v,rfl,q⟩:=reps1 r
  ((replace q:=q.iS;induction q))
  exact PySem.P.len_str (x:=x) (by lia) (Post.here I .int)
noncomputable def SumOk (ns:List Int):Prop:=∀ j,j < ns.length→InLong (ns.getD j 0)∧InLong ((ns.take (j + 1)).sum)
theorem c_sum {ns:List Int} (h:SumOk ns):CallV c n (.builtin "sum") [.list (ns.map .int)] (.int ns.sum):=by
  intro A s Z vs R I r
  obtain ⟨v,rfl,q⟩:=reps1 r
  replace q:=q.iL;induction q with | mk z l rr=>?_
  rename_i a ws
  have hl:=l.isList
  have hlt:a < s.heap.objs.size:=l.lt
  have hsz:ws.toArray.size = ns.length:=by rw [List.size_toArray,rr.length,List.length_map]
  refine call_sum_walk (wpAny_pyIter_list hl ?_)
  refine ⟨_,_,_,_,_,_,(fun i=>ns.getD i 0),rfl,Walks.list (A:=A.in1) R.h _ a (Nat.ne_of_lt hlt) ws.toArray,⟨⟨_,Heap.get?_push_size _ rfl,rfl,rfl⟩,hl.push _⟩,fun b hb=>?_,fun i v hv=>?_,fun j hj=>?_,fun h' tk t' hk=>?_⟩
  · skip
    rw [Heap.size_push]
    rcases List.mem_cons.mp hb with rfl | hb
    · exact Nat.lt_succ_self _
    · rw [List.mem_singleton.mp hb];exact Nat.lt_succ_of_lt hlt
  · have hv':ws[i]? = some v:=by simpa using hv
    have hi:i < ns.length:=by
      rcases Nat.lt_or_ge i ws.length with q | q
      · rw [rr.length,List.length_map] at q;exact q
      · (exact none_some (List.getElem?_eq_none q) hv')
    obtain ⟨u,hu,ru⟩:=rr.get (i:=i) (d:=.int ns[i]) (by simp [hi])
    (induction some_eq hv' hu)
    ((replace ru:=ru.iI;induction ru))
    rename_i t
    exact ⟨t,by simp [List.getD,hi]⟩
  · rw [hsz] at hj
    rw [preSum_getD]
    exact h j hj
  · rw [preSum_getD,hsz,List.take_length]
    exact Post.grown I (fun b o e=>hk b o (fun q=>by
      rw [List.mem_singleton.mp q,fresh_size] at e;cases e) (Heap.get?_push_of_some _ e)) .int
theorem c_max2 {a b:Int}:CallV c n (.builtin "max") [.int a,.int b] (.int (if b > a then b else a)):=by
  intro A s Z vs R I r
  obtain ⟨v,u,rfl,q1,q2⟩:=reps2 r
  (((replace q1:=q1.iI;induction q1)));((replace q2:=q2.iI;induction q2))
  refine max_two_ints R.h fun h' tk hk=>?_
  split
  · exact Post.grown I hk .int
  · exact Post.grown I hk .int
theorem ev_isi (B:Base c) (i j:Nat) {x y:Str} {e:Expr} {d:D} {T:String} {b:Bool} {p q pos:Pos} (hx:sc.names[i]? = some (x,.globalImplicit)) (hy:sc.names[j]? = some (y,.globalImplicit)) (hg:Glob c x (.builtin "isinstance")) (hg2:Glob c y (.type T)) (h:EvE c n sc ρ e d)
    (hc:∀ A s Z v,Inv c s Z→Rep c s.heap Z v d→Gives c A (call (.builtin "isinstance") [v,.type T]) s Z (.bool b)) (he:noStar e = true:=by rfl) (hp:plainName x = true:=by decide +kernel) (hp2:plainName y = true:=by decide +kernel):EvE c n sc ρ (.Call (.Name x p) [e,.Name y q] [] pos) (.bool b):=by
  intro A s Z W env R I F
  simp only [plainName,Bool.and_eq_true,Bool.not_eq_true'] at hp hp2
  refine wpAny_Call_NameR (wpAny_Name (load_glob B hg I F hx ?_) hp.1)
  have hall:[e,Expr.Name y q].all noStar = true:=by rw [List.all_cons,he];rfl
  refine callWith_of (P:=fun h=>∀ b o,c.h₀.get? b = some o→h.get? b = some o) (by rw [backTo_plain hall];rfl) (fun h hk=>callee_builtin h hk) (evalArgs_all hall ?_)
  rw [starEach_cons he]
  skip
  refine Gives.then (h A s Z W env R I F) fun v s₁ Z₁ I₁ e₁ r₁=>?_
  refine wpAny_bind (wpAny_pure (wpAny_bind (wpAny_holding ?_)))
  rw [starEach_cons rfl]
  skip
  refine wpAny_bind (wpAny_Name (load_glob B hg2 I₁ (F.grow e₁) hy ?_) hp2.1)
  refine wpAny_bind (wpAny_pure (wpAny_bind (wpAny_holding (wpAny_pure (wpAny_pure (wpAny_pure ⟨I₁.base,?_⟩))))))
  exact Gives.from (hc A s₁ Z₁ v I₁ r₁) e₁
theorem isi_int_int {A:Around} {s:Shared} {Z:Addr→Prop} {v:Value} {i:Int} (I:Inv c s Z) (r:Rep c s.heap Z v (.int i)):Gives c A (call (.builtin "isinstance") [v,.type "int"]) s Z (.bool true):=by
  (((replace r:=r.iI;induction r)));exact PySem.IsiPair.int_int (Post.here' I .bool)
theorem isi_int_tuple {A:Around} {s:Shared} {Z:Addr→Prop} {v:Value} {i:Int} (I:Inv c s Z) (r:Rep c s.heap Z v (.int i)):Gives c A (call (.builtin "isinstance") [v,.type "tuple"]) s Z (.bool false):=by
  (((replace r:=r.iI;induction r)));exact PySem.IsiPair.int_tuple (Post.here I .bool)
theorem c_intB {b:Bool}:CallV c n (.type "int") [.bool b] (.int (if b then 1 else 0)):=by
  intro A s Z vs R I r
  obtain ⟨v,rfl,q⟩:=reps1 r
  ((replace q:=q.iB;induction q))
  exact call_int_bool (Post.here I .int)
theorem c_tupleL {ds:List D} (h:ds.length≤sizeLine):CallV c n (.type "tuple") [.list ds] (.tuple ds):=by
  intro A s Z vs R I r
  obtain ⟨v,rfl,q⟩:=reps1 r
  replace q:=q.iL;induction q with | mk z l rr=>?_
  refine call_tuple_list l.isList (fun h' hk=>?_) (by rw [List.size_toArray,rr.length];exact h)
  have I':Inv c { s with heap:=h' } Z:=inv_w (W:=no) (tk:=s.toks) I (fun _ h=>h.elim) fun b o _ e=>hk b o e
  have e':Evo no s Z { s with heap:=h' } Z:=evo_w (tk:=s.toks) fun b o _ e=>hk b o e
  exact Post.trans e' (Post.newTuple (n:=0) (tk:=s.toks) I' (e'.reps no_z rr))
theorem po_listS {x:Str} (h:x.cps.size≤sizeLine) {A:Around} {s:Shared} {Z:Addr→Prop} {vs:List Value} (R:Room A n) (I:Inv c s Z) (r:Reps c s.heap Z vs [.str x]):wpAny (model c.prog c.w) A (call (.type "list") vs) (PostO c s Z (.list (signs x))) noE s:=by
  obtain ⟨v,rfl,q⟩:=reps1 r
  ((replace q:=q.iS;induction q))
  refine call_list_str R.h x _ (fun h' tk acc' c' hk hS hacc=>?_) h
  have I':Inv c { s with heap:=h',toks:=tk } Z:=inv_w (W:=no) (tk:=tk) I (fun _ h=>h.elim) fun b o _ e=>hk b o e
  have e':Evo no s Z { s with heap:=h',toks:=tk } Z:=evo_w (tk:=tk) fun b o _ e=>hk b o e
  have hreps:∀ (vs:List Value) (ds:List D),vs.length = ds.length→(∀ (j:Nat) (v:Value) (d:D),vs[j]? = some v→ds[j]? = some d→Rep c h' Z v d)→Reps c h' Z vs ds:=by
    intro vs
    induction vs with
    | nil=>intro ds hl _;induction ds with
      | nil=>exact .nil
      | cons _ _=>simp at hl
    | cons v vs ih=>intro ds hl hh;induction ds with
      | nil=>simp at hl
      | cons d ds=>exact .cons (hh 0 v d rfl rfl) (ih ds (by simpa using hl) fun j v d h1 h2=>hh (j + 1) v d (by exact h1) (by exact h2))
  have rr:Reps c h' Z acc'.toList (signs x):=by
    refine hreps _ _ (by simp [hacc.1,signs]) fun j v d h1 h2=>?_
    obtain ⟨ch,u,hc,rfl⟩:=hacc.2 j v (by simpa using h1)
    have:d = .str ⟨#[ch]⟩:=by simpa [signs,hc] using h2.symm
    subst this;exact .str
  have hd:c.h₀.get? s.heap.objs.size = none:=by
    induction q:c.h₀.get? s.heap.objs.size with
    | none=>rfl
    | some o=>have:=I.base _ _ q;(((rw [fresh_size] at this;cases this)))
  refine ⟨Z,s.heap.objs.size,rfl,I',e',⟨acc'.toList,⟨_,c',hS,rfl,rfl,by rfl⟩,rr⟩,(fun q=>by obtain ⟨o,e⟩:=I.za _ q;(((rw [fresh_size] at e;cases e)))),fresh_size _⟩
theorem c_listS {x:Str} (h:x.cps.size≤sizeLine):CallV c n (.type "list") [.str x] (.list (signs x)):=fun A s Z vs R I r=>wpAny_mono (po_listS h R I r) (fun _ _ x=>x.post) fun _ _ x=>x
end
end Mine
end
section
open PySem PySem.W PyProof.Rows
namespace Mine
section
variable {c:Cx} {n:Nat} {sc:Scope} {ρ:List (Option Sl)}
theorem ev_ifexp {t b o:Expr} {q:Bool} {d:D} {pos:Pos} (ht:EvT c n sc ρ t q) (h1:q = true→EvE c n sc ρ b d) (h2:q = false→EvE c n sc ρ o d):EvE c n sc ρ (.IfExp t b o pos) d:=by
  intro A s Z W env R I F
  refine wpAny_IfExp (wpAny_mono (ht A s Z W env R I F) (?_) fun _ _ x=>x);intro r s₁ q;refine bc fun g=>?_;obtain ⟨h0,Z₁,I₁,e₁⟩:=q;refine g (?_)
  subst h0
  induction r with
  | true=>exact Gives.from (h1 rfl A s₁ Z₁ W env R I₁ (F.grow e₁)) e₁
  | false=>exact Gives.from (h2 rfl A s₁ Z₁ W env R I₁ (F.grow e₁)) e₁
theorem cm_inS {x y:Str}:CmpG c n .In (.str y) (.str x) (Txt.contains x y):=fun _ _ _ _ _ _ I ha hb=>by (replace ha:=ha.iS;induction ha);(replace hb:=hb.iS;induction hb);exact PySem.P.in_str (Post.here' I .bool)
theorem cm_notInS {x y:Str}:CmpG c n .NotIn (.str y) (.str x) (!Txt.contains x y):=fun _ _ _ _ _ _ I ha hb=>by (replace ha:=ha.iS;induction ha);(replace hb:=hb.iS;induction hb);exact PySem.P.notIn_str (Post.here' I .bool)
theorem cm_inD {k:Str} {es:List (Str × D)}:CmpG c n .In (.str k) (.dict es) ((es.find? fun f=>f.1 = k).isSome):=fun _ _ _ _ _ _ I ha hb=>by
  replace ha:=ha.iS;induction ha
  replace hb:=hb.iD;induction hb with | mk z hs l rr=>?_
  refine wpAny_in_of (knd:=sk c) (k:=k) (sk_is k _) hs (Heap.DictOf.mapOf l) ?_
  induction q:es.find? fun f=>f.1 = k with
  | none=>rw [rr.none q];exact Post.here I .bool
  | some f=>obtain ⟨v,hv,_⟩:=rr.some q;refine hv▸?_;exact Post.here I .bool
noncomputable def isStrV (x:Str):Value→Bool
  | .str y _=>y == x
  | _=>false
noncomputable def isBoolV (x:Bool):Value→Bool
  | .bool y=>y == x
  | _=>false
theorem strs_any {h:Heap} {Z:Addr→Prop} {x:Str} {vs:List Value} {ys:List Str} (r:Reps c h Z vs (ys.map .str)):vs.any (isStrV x) = ys.any (· == x):=by
  induction ys generalizing vs with
  | nil=>induction r.iE;rfl
  | cons y ys ih=>
    induction r.iQ with | mk a b=>?_
    induction a.iS;rw [List.any_cons,List.any_cons,ih b];rfl
theorem strs_eq {A:Around} {s:Shared} {h:Heap} {Z:Addr→Prop} {x:Str} {t:Tok} {vs:List Value} {ys:List Str} (r:Reps c h Z vs (ys.map .str)):∀ y ∈ vs,SeqAt.EqAt A s y (.str x t) (isStrV x y):=by
  induction ys generalizing vs with
  | nil=>induction r.iE;exact fun _ h=>nomatch h
  | cons y ys ih=>
    induction r.iQ with | mk a b=>?_
    induction a.iS;exact List.forall_mem_cons.mpr ⟨SeqAt.EqAt.str_str _ _ _ _,ih b⟩
theorem bools_any {h:Heap} {Z:Addr→Prop} {x:Bool} {vs:List Value} {ys:List Bool} (r:Reps c h Z vs (ys.map .bool)):vs.any (isBoolV x) = ys.any (· == x):=by
  induction ys generalizing vs with
  | nil=>induction r.iE;rfl
  | cons y ys ih=>
    induction r.iQ with | mk a b=>?_
    induction a.iB;rw [List.any_cons,List.any_cons,ih b];rfl
theorem bools_eq {A:Around} {s:Shared} {h:Heap} {Z:Addr→Prop} {x:Bool} {vs:List Value} {ys:List Bool} (r:Reps c h Z vs (ys.map .bool)):∀ y ∈ vs,SeqAt.EqAt A s y (.bool x) (isBoolV x y):=by
  induction ys generalizing vs with
  | nil=>induction r.iE;exact fun _ h=>nomatch h
  | cons y ys ih=>
    induction r.iQ with | mk a b=>?_
    induction a.iB;exact List.forall_mem_cons.mpr ⟨SeqAt.EqAt.bool_bool _ _,ih b⟩
theorem cm_notInT {x:Str} {ys:List Str}:CmpG c n .NotIn (.str x) (.tuple (ys.map .str)) (!ys.any (· == x)):=fun _ _ _ _ _ _ I ha hb=>by
  replace ha:=ha.iS;induction ha
  replace hb:=hb.iT;induction hb with | mk z l rr=>?_
  refine SeqAt.notIn_tupleAt (isStrV x) l (fun y hy=>strs_eq rr y (by simpa using hy)) ?_
  rw [← Array.any_toList,strs_any rr];exact Post.here' I .bool
theorem cm_notInB {x:Bool} {ys:List Bool}:CmpG c n .NotIn (.bool x) (.list (ys.map .bool)) (!ys.any (· == x)):=fun _ _ _ _ _ _ I ha hb=>by
  replace ha:=ha.iB;induction ha
  replace hb:=hb.iL;induction hb with | mk z l rr=>?_
  refine SeqAt.notIn_listAt (isBoolV x) l.isList (fun y hy=>bools_eq rr y (by simpa using hy)) ?_
  rw [← Array.any_toList,bools_any rr];exact Post.here' I .bool
theorem cm_isNone {d:D} (hd:∀ v,d ≠ .raw v:=by exact fun _ h=>D.noConfusion h):CmpG c n .Is d .none (match d with | .none=>true | _=>false):=fun _ _ _ _ _ _ I ha hb=>by
  replace hb:=hb.iN;induction hb
  cases ha with
  | raw=>exact absurd rfl (hd _)
  | _=>refine wpAny_is_plain (by rfl) ?_;exact Post.here' I .bool
theorem cm_isBN {b:Bool}:CmpG c n .Is (.bool b) (.bool true) b:=fun A s Z va vb R I ha hb=>by
  have:=cm_isB (c:=c) (n:=n) (a:=b) (b:=true) A s Z va vb R I ha hb
  rwa [show (b == true) = b by induction b<;>rfl] at this
theorem op_mulS {x:Str} {k:Int} (h:MulOk x k):OpG c n .Mult (.str x) (.int k) (.str (Txt.mul x k)):=fun _ _ _ _ _ _ I ha hb=>by
  (replace ha:=ha.iS;induction ha);replace hb:=hb.iI;induction hb
  exact PySem.SB.mul h fun _ _=>Post.here I .str
theorem reps_flat {h:Heap} {Z:Addr→Prop} {vs:List Value} {ds:List D} (r:Reps c h Z vs ds):∀ k:Nat,Reps c h Z (List.replicate k vs).flatten (List.replicate k ds).flatten
  | 0=>.nil
  | k + 1=>by rw [List.replicate_succ,List.replicate_succ,List.flatten_cons,List.flatten_cons];exact r.append (reps_flat r k)
theorem ev_and2 {e f:Expr} {a b:Bool} {pos:Pos} (h:EvE c n sc ρ e (.bool a)) (hr:a = true→EvE c n sc ρ f (.bool b)):EvE c n sc ρ (.BoolOp .And [e,f] pos) (.bool (a && b)):=by
  intro A s Z W env R I F
  rw [arm_eval_BoolOp]
  skip
  refine Gives.then (h A s Z W env R I F) fun v s₁ Z₁ I₁ e₁ r₁=>?_
  replace r₁:=r₁.iB;induction r₁
  refine wpAny_bind (wpAny_standAt (wpAny_bind (wpAny_holding (wpAny_truthy_bool ?_))))
  induction a with
  | false=>exact wpAny_pure (Post.trans e₁ (Post.here' I₁ .bool))
  | true=>rw [Bool.true_and];exact Gives.from (hr rfl A s₁ Z₁ W env R I₁ (F.grow e₁)) e₁
end
end Mine
end
section
open PySem PySem.W PyProof.Rows
namespace Mine
section
variable {c:Cx} {n:Nat} {sc:Scope} {ρ:List (Option Sl)}
theorem PostO.newList {s:Shared} {Z:Addr→Prop} {vs:List Value} {ds:List D} {m tk:Nat} (I:Inv c s Z) (r:Reps c s.heap Z vs ds) :
    PostO c s Z (.list ds) (.ref s.heap.objs.size) { s with heap:=s.heap.push { cls:=.type "list",data:=.seq vs.toArray m },toks:=tk }:=by
  refine ⟨Z,s.heap.objs.size,rfl,I.push0 _ tk,Evo.push0 _ tk,⟨vs,⟨_,m,Heap.get?_push_size _ rfl,rfl,rfl,rfl⟩,reps_mono (fun _ _ _ e=>Heap.get?_push_of_some _ e) (fun _ h=>h) r⟩,fun q=>?_,fresh_size _⟩
  obtain ⟨o,e⟩:=I.za _ q;(rw [fresh_size] at e;cases e)
theorem PostO.trans {s s₁ s':Shared} {Z Z₁:Addr→Prop} {d:D} {v:Value} (e:Evo no s Z s₁ Z₁) (h:PostO c s₁ Z₁ d v s'):PostO c s Z d v s':=
  (by refine bc fun g=>?_;obtain ⟨Z',a,hv,I,e',ho,hz,hf⟩:=h;exact g (⟨Z',a,hv,I,e.trans e',ho,hz,e.back hf⟩))
theorem evo_list {es:List Expr} {ds:List D} {pos:Pos} (h:EvEs c n sc ρ es ds) (hs:ds.length≤sizeLine:=by first | decide | exact Nat.le_of_ble_eq_true rfl):EvO c n sc ρ (.List es pos) (.list ds):=by
  intro A s Z W env R I F
  refine wpAny_List (wpAny_mono (h.2 A s Z W env pos R I F) (?_) fun _ _ x=>x);rintro vs s₁ ⟨Z₁,I₁,e₁,r₁⟩;refine ⟨by rw [r₁.length];exact hs,?_⟩
  exact PostO.trans e₁ (PostO.newList (m:=0) (tk:=s₁.toks) I₁ r₁)
noncomputable def OpO (c:Cx) (n:Nat) (op:Operator) (a b d:D):Prop:=
  ∀ A s Z va vb,Room A n→Inv c s Z→Rep c s.heap Z va a→Rep c s.heap Z vb b→wpAny (model c.prog c.w) A (binaryOp op va vb) (PostO c s Z d) noE s
theorem evo_bin {l r:Expr} {op:Operator} {a b d:D} {pos:Pos} (hl:EvE c n sc ρ l a) (hr:EvE c n sc ρ r b) (ho:OpO c n op a b d):EvO c n sc ρ (.BinOp l op r pos) d:=by
  intro A s Z W env R I F
  refine wpAny_BinOp (Gives.to (hl A s Z W env R I F) fun va s₁ Z₁ I₁ e₁ r₁=>?_)
  refine Gives.to (hr A s₁ Z₁ W env R I₁ (F.grow e₁)) fun vb s₂ Z₂ I₂ e₂ r₂=>?_
  exact wpAny_mono (ho A s₂ Z₂ va vb R I₂ (e₂.rep no_z r₁) r₂) (fun _ _ x=>x.trans (e₁.trans e₂)) fun _ _ x=>x
theorem OpO.op {op:Operator} {a b d:D} (h:OpO c n op a b d):OpG c n op a b d:=fun A s Z va vb R I ra rb=>wpAny_mono (h A s Z va vb R I ra rb) (fun _ _ x=>x.post) fun _ _ x=>x
theorem oo_addL {xs ys:List D} (h:xs.length + ys.length≤sizeLine):OpO c n .Add (.list xs) (.list ys) (.list (xs ++ ys)):=fun A s Z _ _ _ I ha hb=>by
  replace ha:=ha.iL;induction ha with | mk z hl r=>?_
  replace hb:=hb.iL;induction hb with | mk z2 hb r2=>?_
  replace hl:=hl.isList
  replace hb:=hb.isList
  obtain ⟨⟨cls,dd,data,sl⟩,ho,hc,n,hd⟩:=id hl
  obtain ⟨⟨cls2,dd2,data2,sl2⟩,ho2,hc2,n2,hd2⟩:=id hb
  simp only at hc hd hc2 hd2
  refine bc fun g=>?_;subst hc hd hc2 hd2
  rename_i l vs b ws
  refine g ?_;refine concat_meets ⟨_,ho,rfl⟩ ⟨_,ho2,rfl⟩ noFill_list_add seq_list_add PySem.F.slot_list_add PySem.F.entry_list_add (PySem.F.args_list_add_2 _ _) (list_addW l b vs.toArray ws.toArray n n2 dd dd2 sl sl2 (by simpa [r.length,r2.length] using h)) ⟨ho,ho2,?_⟩
  rw [(by simp:vs.toArray ++ ws.toArray = (vs ++ ws).toArray)]
  exact PostO.newList I (r.append r2)
theorem oo_mulL {ds:List D} {x:Int} (hlo:-(2 ^ 63:Int)≤x) (hhi:x < 2 ^ 63) (hsz:ds.length * x.toNat≤256):OpO c n .Mult (.list ds) (.int x) (.list (List.replicate x.toNat ds).flatten):=fun A s Z _ _ _ I ha hb=>by
  replace ha:=ha.iL;induction ha with | mk z hl r=>?_
  replace hb:=hb.iI;induction hb
  rename_i l vs u
  replace hl:=hl.isList
  refine bc fun g=>?_;obtain ⟨⟨cls,d,data,sl⟩,ho,hcl,k,hd⟩:=id hl
  simp only at hcl hd
  subst hcl hd
  have hsz':vs.toArray.size * x.toNat≤256:=by rw [List.size_toArray,r.length];exact hsz
  have hsz2:vs.length * x.toNat≤256:=by rw [r.length];exact hsz
  refine g ?_;refine wpAny_binaryOp_repeat_ref (T:="list") (U:="int") (by decide) ⟨_,ho,rfl⟩ (fun s'=>typeIs_int s' x u) noFill_list_mul PySem.F.fills_int_mul PySem.F.slot_int_rmul repeat_list PySem.F.slot_int_index.lookup
    (call_meets PySem.F.slot_int_rmul (typeIs_int s x u) PySem.F.entry_int_rmul (PySem.F.args_int_rmul_2 _ _) (lm_int_rmul_list_any x u l vs.toArray k d sl)
      ⟨ho,rfl,⟨_,ho,rfl⟩,call_meets PySem.F.slot_list_mul ⟨_,ho,rfl⟩ PySem.F.entry_list_mul (PySem.F.args_list_mul_2 _ _)
        (lm_list_mul_any l vs.toArray k d sl x u (by simp [Builtin.List.listFitsIndex];lia) (by lia) (by simp [Builtin.List.listTooLong,sizeLine];lia))
        ⟨ho,?_⟩⟩)
  rw [listMul_foldl_if]
  exact PostO.newList I (reps_flat r x.toNat)
theorem evo_dict0 (B:Base c) {pos:Pos}:EvO c n sc ρ (.Dict [] [] pos) (.dict []):=by
  intro A s Z W env R I F
  refine wpAny_Dict_empty ⟨Z,s.heap.objs.size,rfl,I.push0 _ s.toks,Evo.push0 _ s.toks,own_dict₀ B I,fun q=>?_,fresh_size _⟩
  refine bc fun g=>?_;obtain ⟨o,e⟩:=I.za _ q;refine g ?_;(rw [fresh_size] at e;cases e)
inductive EvPs (c:Cx) (n:Nat) (sc:Scope) (ρ:List (Option Sl)):List (Option Expr)→List Expr→List (Str × D)→Prop
  | nil:EvPs c n sc ρ [] [] []
  | cons {k v:Expr} {ks:List (Option Expr)} {vs:List Expr} {key:Str} {d:D} {es:List (Str × D)}:EvE c n sc ρ k (.str key)→EvE c n sc ρ v d→EvPs c n sc ρ ks vs es→EvPs c n sc ρ (some k :: ks) (v :: vs) ((key,d) :: es)
theorem EvPs.len {ks:List (Option Expr)} {vs:List Expr} {es:List (Str × D)} (H:EvPs c n sc ρ ks vs es):ks.all (·.isSome) = true∧ks.length = vs.length∧ks.length = es.length:=by
  induction H with
  | nil=>exact ⟨rfl,rfl,rfl⟩
  | cons _ _ _ ih=>exact ⟨ih.1,congrArg (· + 1) ih.2.1,congrArg (· + 1) ih.2.2⟩
theorem EvPs.go {env:Env} {pos:Pos}:∀ {ks:List (Option Expr)} {vs:List Expr} {es:List (Str × D)},EvPs c n sc ρ ks vs es→∀ A s Z W,Room A n→Inv c s Z→Fr c sc env ρ s Z W →
    wpAny (model c.prog c.w) A (evalPairs (pairTrees ks vs env pos)) (fun ws s₁=>∃ kvs Z₁,Carries (sk c) ws kvs∧Inv c s₁ Z₁∧Evo no s Z s₁ Z₁∧RepE c s₁.heap Z₁ kvs es) noE s:=by
  intro ks vs es H
  induction H with
  | nil=>exact fun A s Z W R I F=>wpAny_pure ⟨[],Z,trivial,I,Evo.refl,.nil⟩
  | cons hk hv r ih=>
    rename_i k v ks vs key d es
    intro A s Z W R I F
    skip
    refine Gives.then (hk A s Z W env R I F) fun kv s₁ Z₁ I₁ e₁ r₁=>?_
    replace r₁:=r₁.iS;induction r₁
    refine wpAny_bind (wpAny_holding (Gives.then (hv A s₁ Z₁ W env R I₁ (F.grow e₁)) fun vv s₂ Z₂ I₂ e₂ r₂=>wpAny_bind (wpAny_standAt (wpAny_pure ?_))))
    have e₁₂:=e₁.trans e₂
    refine wpAny_bind (wpAny_holding (wpAny_mono (ih A s₂ Z₂ W R I₂ (F.grow e₁₂)) (?_) fun _ _ x=>x));intro ws s₃ q;refine bc fun g=>?_;obtain ⟨kvs,Z₃,hc,I₃,e₃,rr⟩:=q;refine g ?_;refine wpAny_pure ?_
    exact ⟨(_,vv) :: kvs,Z₃,⟨sk_is _ _,rfl,hc⟩,I₃,e₁₂.trans e₃,.cons (e₃.rep no_z r₂) rr⟩
noncomputable def mergedD (es more:List (Str × D)):List (Str × D):=more.foldl (fun acc kv=>storedD acc kv.1 kv.2) es
theorem RepE.merged {h:Heap} {Z:Addr→Prop} {kvs:List (Str × Value)} {es:List (Str × D)} (r:RepE c h Z kvs es):∀ {k₀:List (Str × Value)} {e₀:List (Str × D)},RepE c h Z k₀ e₀→RepE c h Z (PySem.merged k₀ kvs) (mergedD e₀ es):=
  r.ind (P:=fun kvs es=>∀ {k₀ e₀},RepE c h Z k₀ e₀→RepE c h Z (PySem.merged k₀ kvs) (mergedD e₀ es)) id fun a _ ih _ _ r₀=>ih (r₀.stored a)
theorem evo_dict (B:Base c) {keys:List (Option Expr)} {values:List Expr} {es:List (Str × D)} {pos:Pos} (h:EvPs c n sc ρ keys values es) (h0:keys ≠ []:=by simp) (hlen:keys.length≤15:=by first | decide | exact Nat.le_of_ble_eq_true rfl):EvO c n sc ρ (.Dict keys values pos) (.dict (mergedD [] es)):=by
  intro A s Z W env R I F
  obtain ⟨h1,h2,h3⟩:=h.len
  have I₁:Inv c { s with heap:=s.heap.push { cls:=.type "dict",data:=.dict #[] } } Z:=I.push0 _ s.toks
  have e₁:Evo no s Z { s with heap:=s.heap.push { cls:=.type "dict",data:=.dict #[] } } Z:=Evo.push0 _ s.toks
  have ho:=own_dict₀ B I
  have hz:¬ Z s.heap.objs.size:=fun q=>by obtain ⟨o,e⟩:=I.za _ q;(rw [fresh_size] at e;cases e)
  have hf:=fresh_size s.heap
  refine wpAny_Dict_walk (knd:=sk c) h1 h2 h0 hlen ?_
  generalize hs₁:({ s with heap:=s.heap.push { cls:=.type "dict",data:=.dict #[] } }:Shared) = s₁ at I₁ e₁
  rw [show s.heap.push { cls:=.type "dict",data:=.dict #[] } = s₁.heap by exact hs₁▸rfl] at ho
  refine bc fun g=>?_;obtain ⟨hsys,kv₀,hd₀,_⟩:=id ho
  refine g ?_;generalize hD:s.heap.objs.size = Da at ho hz hf hsys hd₀ ⊢
  refine wpAny_mono (h.go A s₁ Z W R I₁ (F.grow e₁)) (?_) fun _ _ x=>x;intro ws s₂ q;refine bc fun g=>?_;obtain ⟨kvs,Z₂,hc,I₂,e₂,rr⟩:=q;refine g ?_;refine ?_
  have hz₂:¬ Z₂ Da:=fun q=>by
    rcases e₂.znew Da q with h | h | h
    · exact hz h
    · exact h
    · obtain ⟨o,e⟩:=ho.live;exact none_some h e
  have hd₂:s₂.heap.DictOf (sk c) Da []:=by
    obtain ⟨_,kv,hd,r⟩:=ho
    cases r
    exact hd.at fun o=>e₂.keep Da o id
  refine ⟨kvs,hc,hd₂,fun h' hd' hs'=>?_⟩
  obtain ⟨I₃,e₃⟩:=one_obj (tk:=s₂.toks + ws.length) I₂ hz₂ hs'
  refine ⟨Z₂,Da,rfl,I₃,(e₁.trans e₂).trans' e₃ fun x hx=>.inr (hx▸hf),⟨hsys,_,hd',?_⟩,hz₂,hf⟩
  exact (e₃.repE (fun _ e=>e▸hz₂) rr).merged .nil
theorem ev_meth {o:Expr} {name:Str} {ap pos:Pos} {es:List Expr} {d₀ d:D} {ds:List D} {T id:String} (pa:PlainAttrs T) (slot:Slot T name id) (hty:typeOf (.builtin id) = pure (.type "method_descriptor"))
    (hT:∀ (s:Shared) Z v,Rep c s.heap Z v d₀→s.TypeIs v T∧(∀ a,v = .ref a→∃ ob,s.heap.get? a = some ob∧ob.dict = none))
    (ho:EvE c n sc ρ o d₀) (ha:EvEs c n sc ρ es ds) (h:CallV c n (.builtin id) (d₀ :: ds) d)
    (hfew:∀ env,((backTo pos (starEach es env)).all (fun x=>!x.1) && (backToKw pos (keywordEach [] env)).all (fun x=>x.1.isSome) && decide (es.length + ([]:List Keyword).length + (if ([]:List Keyword).isEmpty then 0 else 1) < 30)) = true:=by intro _;rfl)
    (hb:PlainB o:=by intro _ _;rfl) (hl:(ap.endLine == pos.line) = true:=by rfl):EvE c n sc ρ (.Call (.Attribute o name ap) es [] pos) d:=by
  intro A s Z W env R I F
  refine wpAny_Call_method (hb _ _) (hfew env) hl pa slot hty (Gives.to (ho A s Z W env R I F) fun v s₁ Z₁ I₁ e₁ r₁=>?_)
  obtain ⟨h1,h2⟩:=hT s₁ Z₁ v r₁
  refine ⟨h1,h2,?_⟩
  refine callWith_of (P:=fun h=>∀ b o,c.h₀.get? b = some o→h.get? b = some o) (by rw [backTo_plain ha.1];rfl) (fun h hk=>callee_builtin h hk) (evalArgs_all ha.1 (wpAny_mono (ha.2 A s₁ Z₁ W env pos R I₁ (F.grow e₁)) (?_) fun _ _ x=>x));rintro vs s₂ ⟨Z₂,I₂,e₂,r₂⟩;refine ⟨I₂.base,?_⟩
  exact Gives.from (h A s₂ Z₂ (v :: vs) R I₂ (.cons (e₂.rep no_z r₁) r₂)) (e₁.trans e₂)
theorem strT {x:Str} (s:Shared) (Z:Addr→Prop) (v:Value) (r:Rep c s.heap Z v (.str x)):s.TypeIs v "str"∧(∀ a,v = .ref a→∃ ob,s.heap.get? a = some ob∧ob.dict = none):=by
  (replace r:=r.iS;induction r);exact ⟨typeIs_str _ _ _,fun _ h=>nomatch h⟩
theorem listT {ds:List D} (s:Shared) (Z:Addr→Prop) (v:Value) (r:Rep c s.heap Z v (.list ds)):s.TypeIs v "list"∧(∀ a,v = .ref a→∃ ob,s.heap.get? a = some ob∧ob.dict = none):=by
  replace r:=r.iL;induction r with | mk z l rr=>?_
  exact ⟨l.isList.typeIs,fun a h=>by cases h;obtain ⟨o,_,e,_,hd,_⟩:=l;exact ⟨o,e,hd⟩⟩
theorem strs_vals {h:Heap} {Z:Addr→Prop}:∀ {vs:List Value} {ys:List Str},Reps c h Z vs (ys.map .str)→∃ l:List (Str × Tok),vs = strValues l∧l.map (·.1) = ys
  | _,[],.nil=>⟨[],rfl,rfl⟩
  | _,y :: ys,.cons a b=>by
    replace a:=a.iS;induction a
    obtain ⟨l,rfl,hl⟩:=strs_vals b
    exact ⟨(y,_) :: l,rfl,by simp [hl]⟩
theorem c_join {x:Str} {ys:List Str} (h:JoinOk x ys = true):CallV c n (.builtin "str.join") [.str x,.list (ys.map .str)] (.str (Txt.join x ys)):=by
  intro A s Z vs R I r
  obtain ⟨v,u,rfl,q1,q2⟩:=reps2 r
  replace q1:=q1.iS;induction q1
  replace q2:=q2.iL;induction q2 with | mk z l rr=>?_
  refine bc fun g=>?_;obtain ⟨ws,rfl,hw⟩:=strs_vals rr
  refine g ?_;exact PySem.SC.join l.isList hw h fun t' k=>Post.here I .str
theorem c_index {ys:List Bool} {x:Bool} {j:Nat} (hj:j < ys.length) (hx:ys[j]? = some x) (hno:∀ m,m < j→ys[m]? ≠ some x) (hsz:ys.length≤sizeLine):CallV c n (.builtin "list.index") [.list (ys.map .bool),.bool x] (.int j):=by
  intro A s Z vs R I r
  obtain ⟨v,u,rfl,q1,q2⟩:=reps2 r
  replace q2:=q2.iB;induction q2
  replace q1:=q1.iL;induction q1 with | mk z l rr=>?_
  rename_i a ws
  refine bc fun g=>?_;obtain ⟨⟨cls,dd,data,sl⟩,k,ho,hc,hdn,hd⟩:=id l
  simp only at hc hd hdn
  refine g ?_;refine bc fun g=>?_;subst hc hd hdn
  have hat:∀ (m:Nat) (hm:m < ws.toArray.size),isBoolV x ws.toArray[m] = ((ys[m]?).getD false == x)∧m < ys.length:=fun m hm=>by
    have hm':m < ys.length:=by have:=rr.length;rw [List.length_map] at this;simpa [this] using hm
    obtain ⟨w,hw,rw'⟩:=rr.get (i:=m) (d:=.bool ys[m]) (by simp [hm'])
    have:ws.toArray[m] = w:=by
      have h1:ws[m]? = some ws[m]:=List.getElem?_eq_getElem (by exact hm)
      rw [hw] at h1
      have:=Option.some.inj h1
      exact this.symm
    refine this▸?_
    cases rw'
    exact ⟨by simp [isBoolV,hm'],hm'⟩
  have hjw:j < ws.toArray.size:=by have:=rr.length;rw [List.length_map] at this;simpa [this] using hj
  refine g ?_;rw [sizeLine_eq] at hsz
  refine call_meets PySem.F.slot_list_index ⟨_,ho,rfl⟩ PySem.F.entry_list_index (PySem.F.args_list_index_2 _ _) (SeqAt.list_indexAt a ws.toArray k none sl (.bool x) (isBoolV x) j hjw (by lia) ?_ ?_) ⟨ho,fun y hy=>bools_eq rr y (by simpa using hy),Post.here I .int⟩
  · rw [(hat j hjw).1,hx];simp
  · intro m hm hlt
    rw [(hat m hm).1]
    have:=hno m hlt
    rw [List.getElem?_eq_getElem ((hat m hm).2)] at this ⊢
    simp only [Option.getD_some]
    rw [beq_eq_false_iff_ne]
    exact fun q=>this (by rw [q])
end
end Mine
end
section
open PySem PySem.W PyProof.Rows
open Sem (wp)
namespace Mine
noncomputable def SegG (M:Model) (A:Around) (Φ:End→Shared→Prop) (c:Code) (t:Sem Fin) (fs:List Frame) (s:Shared):Prop:=∀ Γ p,Γ.code = c→Γ.Woken A→∃ e s',Runs M Γ p t fs s e s'∧Φ e s'
section
variable {M:Model} {A:Around} {Φ:End→Shared→Prop} {c:Code} {fs:List Frame} {s:Shared}
theorem sg_wrap {α:Type} {m:Sem α} {K:α→Sem Fin} {H:Value→Sem Fin} {gd:Bool→Bool} {lv:List Value→List Value} (h:wpAny M (A.over c fs) m (fun a s'=>SegG M A Φ c (K a) fs s') noE s):SegG M A Φ c (m.wrap K H gd lv) fs s:=by
  rintro Γ p rfl hΓ
  exact runs_wrap_of_wp K H gd lv m (h (Γ.over fs) p (hΓ.over fs)) (fun a p' s' h'=>h' Γ p' rfl hΓ) fun x p' s' h'=>h'.elim
theorem sg_bind {α β:Type} {m:Sem α} {K:α→Sem β} {K':β→Sem Fin} {H':Value→Sem Fin} {gd:Bool→Bool} {lv:List Value→List Value} (h:wpAny M (A.over c fs) m (fun a s'=>SegG M A Φ c ((K a).wrap K' H' gd lv) fs s') noE s) :
    SegG M A Φ c ((m >>= K).wrap K' H' gd lv) fs s:=by
  rw [Sem.bind_eq_wrap',Sem.wrap_wrap];exact sg_wrap h
theorem sg_at {p':Pos} {k:Unit→Sem Fin} (h:SegG M A Φ c (k ()) fs s):SegG M A Φ c (.at p' k) fs s:=
  sg_wrap (m:=standAt p') (K:=k) (H:=.raise) (gd:=id) (lv:=id) (wpAny_standAt h)
theorem sg_point {l:List Value} {k:Unit→Sem Fin} (h:SegG M A Φ c (k ()) fs s):SegG M A Φ c (.point l k) fs s:=
  sg_wrap (m:=point) (K:=k) (H:=.raise) (gd:=id) (lv:=fun _=>l) (wpAny_point h)
theorem sg_call {c':Code} {h g l} {k:Result→Sem Fin} (hc:∀ p,SegG M A Φ c' (M.den c') (.ret k h g l c p [] :: fs) s):SegG M A Φ c (.call c' h g l k) fs s:=by
  rintro Γ p rfl hΓ
  obtain ⟨e,s',hr,he⟩:=hc p (Γ.goto c') p rfl (hΓ.goto c')
  exact ⟨e,s',runs_call_seg hr,he⟩
theorem sg_leaf {k h g l c₁ p₁ kp} (r:Result) (hk:SegG M A Φ c₁ (k r) fs s):SegG M A Φ c (leafOf r) (.ret k h g l c₁ p₁ kp :: fs) s:=by
  rintro Γ p rfl hΓ
  obtain ⟨e,s',hr,he⟩:=hk (Γ.goto c₁) p₁ rfl (hΓ.goto c₁)
  exact ⟨e,s',Runs.pop r hr,he⟩
theorem sg_again {c':Code} (hq:c'.quiet = true) (hc:SegG M A Φ c' (M.den c') fs s):SegG M A Φ c (.pure (.again c')) fs s:=by
  rintro Γ p rfl hΓ
  obtain ⟨e,s',hr,he⟩:=hc (Γ.goto c') p rfl (hΓ.goto c')
  exact ⟨e,s',Runs.head (c₁:=c') (fun _ _ x=>.again hq x) hr,he⟩
theorem sg_end (r:Result) (h:Φ (.ret r) s):SegG M A Φ c (leafOf r) [] s:=by
  rintro Γ p rfl _
  exact ⟨.ret r,s,Runs.leaf r,h⟩
theorem sg_yield {v g l} {k:Resume→Sem Fin} (hfs:splitAtGen fs = none) (h:∀ p,Φ (.susp v g l k c p fs) s):SegG M A Φ c (.yield v g l k) fs s:=by
  rintro Γ p rfl _
  exact ⟨_,s,Runs.yield' fs hfs,h p⟩
section
variable {env:Env} {K:Flow→Sem Fin} {H:Value→Sem Fin} {gd:Bool→Bool} {lv:List Value→List Value}
theorem sg_nil (h:SegG M A Φ c (K .next) fs s):SegG M A Φ c ((execs [] env).wrap K H gd lv) fs s:=h
theorem sg_cons {st:Stmt} {rest:List Stmt} (h:SegG M A Φ c ((exec st env).wrap (fun f=>match f with | .next=>(execs rest env).wrap K H gd lv | f=>K f) H gd lv) fs s) :
    SegG M A Φ c ((execs (st :: rest) env).wrap K H gd lv) fs s:=by rw [execs_cons_wrap];exact h
theorem sg_if {test:Expr} {body orelse:List Stmt} {pos:Pos} (h:wpAny M (A.over c fs) (isTrue test env (eval test env)) (fun b s'=>SegG M A Φ c ((if b = true then execs body env else execs orelse env).wrap K H gd lv) fs s') noE s) :
    SegG M A Φ c ((exec (.If test body orelse pos) env).wrap K H gd lv) fs s:=by
  rw [arm_exec_If]
  exact sg_bind (wpAny_standAt (sg_bind h))
theorem sg_exec {st:Stmt} (h:wpAny M (A.over c fs) (exec st env) (fun f s'=>SegG M A Φ c (K f) fs s') noE s):SegG M A Φ c ((exec st env).wrap K H gd lv) fs s:=sg_wrap h
end
end
noncomputable def GoOn (M:Model) (A:Around) (Φ:End→Shared→Prop) (gs:GenState) (s:Shared):Prop:=
  match gs with
  | .fresh c=>SegG M A Φ c (M.den c) [] s
  | .suspended k _ c _ fs _=>SegG M A Φ c (k (.send .none)) fs s
  | _=>False
section
variable {M:Model} {A:Around} {Φ:End→Shared→Prop} {c:Code} {fs:List Frame} {s:Shared} {env:Env} {K:Flow→Sem Fin} {H:Value→Sem Fin} {gd:Bool→Bool} {lv:List Value→List Value}
theorem sg_yieldStmt {e:Expr} {ypos pos:Pos} (hfs:splitAtGen fs = none) (hgd:gd false = false) (hfg:fs.any Frame.guarded = false) (hco:env.scope.isCoroutine = false) (hi:interactive env = false)
    (h:wpAny M (A.over c fs) (eval e env) (fun v s'=>∀ e',e'.quiet = true→e'.result = .yielded v→(∀ Φ' s'',SegG M A Φ' c (K .next) fs s''→GoOn M A Φ' e'.genState s'')→Φ e' s') noE s) :
    SegG M A Φ c ((exec (.Expr (.Yield (some e) ypos) pos) env).wrap K H gd lv) fs s:=by
  rw [exec_Expr env _ pos hi rfl]
  refine (?_:SegG M A Φ c (.at pos fun _=>((eval e env >>= fun v=>(standAt ypos >>= fun _=>yieldOut env v)) >>= fun x=>dropValue (.Yield (some e) ypos) pos x).wrap K H gd lv) fs s)
  simp only [(fun v=>by simp only [yieldOut,hco,Bool.false_eq_true,if_false]:∀ v,yieldOut env v = yieldValue v)]
  refine sg_at ?_
  rw [Sem.bind_eq_wrap',Sem.bind_eq_wrap',Sem.wrap_wrap,Sem.wrap_wrap]
  refine sg_wrap (wpAny_mono h (fun v s' h'=>?_) fun _ _ x=>x)
  refine sg_at (sg_yield hfs fun p=>?_)
  refine h' _ (by simp [End.quiet,hgd,hfg]) rfl fun Φ' s'' h2=>?_
  exact h2
end
section
variable {prog:Program} {w:World} {A:Around} {Φ:End→Shared→Prop} {s:Shared} {env:Env}
theorem sg_func {body:List Stmt} {fs:List Frame} (h:SegG (model prog w) A Φ (.func body env) ((execs body env).wrap (fun f=>.pure (.done (.ret (match f with | .ret v=>v | _=>.none)))) (fun e=>(leaving env e).wrap (fun _=>.raise e) .raise id id) id id) fs s) :
    SegG (model prog w) A Φ (.func body env) ((model prog w).den (.func body env)) fs s:=by
  skip
  refine sg_point ?_
  rw [Sem.onRaise_eq_wrap,Sem.bind_eq_wrap',Sem.wrap_wrap]
  rw [Sem.wrap_congr (execs body env) _ _ (K':=fun f=>.pure (.done (.ret (match f with | .ret v=>v | _=>.none)))) (H':=fun e=>(leaving env e).wrap (fun _=>.raise e) .raise id id) (fun f=>by induction f<;>rfl)
    (fun e=>by rw [Sem.bind_eq_wrap,Sem.wrap_wrap];rfl)]
  exact h
noncomputable def forFrame (env:Env) (c:Code) (K:Flow→Sem Fin) (H:Value→Sem Fin) (gd:Bool→Bool) (lv:List Value→List Value) (p:Pos):Frame:=
  .ret (fun r=>((match r with | .ok f=>(.pure f:Sem Flow) | .error e=>.raise e).onRaise fun (x:Value)=>do
        if (← field x 1) == Value.none then unsupported "frame.own-activation:exception-without-traceback"
        setFlight x env.frame).wrap K H gd lv) none (gd false) (lv []) c p []
theorem sg_for {c:Code} {fs:List Frame} {K:Flow→Sem Fin} {H:Value→Sem Fin} {gd:Bool→Bool} {lv:List Value→List Value} {tgt iter:Expr} {body orelse:List Stmt} {pos:Pos} (hs:∀ env x,foldedSetIterable iter env x = pure x)
    (h:wpAny (model prog w) (A.over c fs) (eval iter env) (fun x s₁=>wpAny (model prog w) (A.over c fs) (pyIter x) (fun it s₂=>∀ p,SegG (model prog w) A Φ (.forLoop tgt it body orelse env) ((model prog w).den (.forLoop tgt it body orelse env)) (forFrame env c K H gd lv p :: fs) s₂) noE s₁) noE s) :
    SegG (model prog w) A Φ c ((exec (.For tgt iter body orelse pos) env).wrap K H gd lv) fs s:=by
  rw [arm_exec_For]
  refine sg_bind (wpAny_standAt (sg_bind (wpAny_mono h (fun x s₁ h₁=>?_) fun _ _ x=>x)))
  refine sg_bind (wpAny_of_eq (hs env x) (sg_bind (wpAny_standAt (sg_bind (wpAny_holding (wpAny_mono h₁ (fun it s₂ h₂=>?_) fun _ _ x=>x))))))
  exact sg_call h₂
theorem sg_forTurn {tgt:Expr} {it:Value} {body:List Stmt} {fs:List Frame} (h:wpAny (model prog w) (A.over (.forLoop tgt it body [] env) fs) (pyNext it) (fun r s₁=>match r with
      | none=>SegG (model prog w) A Φ (.block [] env) ((model prog w).den (.block [] env)) fs s₁
      | some v=>wpAny (model prog w) (A.over (.forLoop tgt it body [] env) fs) (letOwnedTupleGo tgt it v) (fun _ s₂=>wpAny (model prog w) (A.over (.forLoop tgt it body [] env) fs) (assign tgt env v) (fun _ s₃=>
          SegG (model prog w) A Φ (.forLoop tgt it body [] env) ((execs body env).wrap (fun f=>match f with
            | .next | .cont=>.pure (.again (.forLoop tgt it body [] env))
            | .brk=>.pure (.done .next)
            | .ret v=>.pure (.done (.ret v))) (fun e=>(do noteFrame e env;theTreesLotGoes e:Sem Unit).wrap (fun _=>.raise e) .raise id id) id id) fs s₃) noE s₂) noE s₁) noE s) :
    SegG (model prog w) A Φ (.forLoop tgt it body [] env) ((model prog w).den (.forLoop tgt it body [] env)) fs s:=by
  show SegG _ A Φ _ ((forTurn tgt it body [] env).onRaise (fun x=>do noteFrame x env;theTreesLotGoes x)) fs s
  delta forTurn
  rw [Sem.onRaise_eq_wrap]
  refine sg_bind (wpAny_standAt (sg_bind (wpAny_onRaise (wpAny_mono h (fun r s₁ h₁=>?_) fun _ _ x=>x.elim))))
  induction r with
  | none=>exact sg_again rfl h₁
  | some v=>
    refine sg_bind (wpAny_mono h₁ (fun _ s₂ h₂=>sg_bind (wpAny_mono h₂ (fun _ s₃ h₃=>?_) fun _ _ x=>x)) fun _ _ x=>x)
    rw [Sem.bind_eq_wrap',Sem.wrap_wrap]
    rw [Sem.wrap_congr (execs body env) _ _ (K':=fun f=>match f with
            | .next | .cont=>.pure (.again (.forLoop tgt it body [] env))
            | .brk=>.pure (.done .next)
            | .ret v=>.pure (.done (.ret v))) (H':=(fun e=>(do noteFrame e env;theTreesLotGoes e:Sem Unit).wrap (fun _=>.raise e) .raise id id))
        (fun f=>by induction f<;>rfl)
        (fun e=>by exact Sem.bind_eq_wrap _ _)]
    exact h₃
end
end Mine
end
section
open PySem PySem.W PyProof.Rows
open Sem (wp)
namespace Mine
theorem resume_go {M:Model} {A:Around} {Φ:End→Shared→Prop} {E:Value→Shared→Prop} {s:Shared} {g:Nat} {gs:GenState} {l:List Value} {α:Type} {k:GenResult→Sem α} {Q:α→Shared→Prop} (hg:s.gens[g]? = some gs)
    (hgo:GoOn M A Φ gs (s.setGen g .running)) (hΦ:∀ e s₁,Φ e s₁→e.quiet = true∧wpAny M A (k e.result) Q E (s₁.setGen g e.genState)):wpAny M A (.resume g (.send .none) l k) Q E s:=by
  intro Γ p hΓ
  rw [Sem.wp_resume]
  have hB:∀ c,(Γ.wake c p).Woken A:=fun c=>hΓ.wake c p
  refine bc fun g=>?_;induction gs with
  | fresh c=>
    obtain ⟨e₁,s₁,hr,he⟩:=hgo (Γ.wake c p) p rfl (hB c)
    obtain ⟨hq,hk⟩:=hΦ e₁ s₁ he
    refine g ?_;exact ⟨_,_,by delta Wakes;refine hg▸?_;exact ⟨e₁,s₁,hr,hq,rfl,rfl⟩,hk Γ p hΓ⟩
  | suspended k₀ l₀ c₀ p₀ fs₀ cl=>
    obtain ⟨e₁,s₁,hr,he⟩:=hgo (Γ.wake c₀ p) p₀ rfl (hB c₀)
    obtain ⟨hq,hk⟩:=hΦ e₁ s₁ he
    refine g ?_;exact ⟨_,_,by delta Wakes;refine hg▸?_;exact ⟨e₁,s₁,hr,hq,rfl,rfl⟩,hk Γ p hΓ⟩
  | running=>refine g ?_;exact hgo.elim
  | finished=>refine g ?_;exact hgo.elim
section
variable {c:Cx}
noncomputable def GEnd (c:Cx) (A:Around):List D→Shared→(Addr→Prop)→(Addr→Prop)→End→Shared→Prop
  | [],s,Z,W,e,s₁=>e = .ret (.ok (.ret .none))∧∃ Z₁,Inv c s₁ Z₁∧Evo W s Z s₁ Z₁
  | y :: ys,s,Z,W,e,s₁=>e.quiet = true∧∃ v Z₁ W₁,e.result = .yielded v∧Inv c s₁ Z₁∧Evo W s Z s₁ Z₁∧Rep c s₁.heap Z₁ v y∧(∀ a,W₁ a→W a∨s.heap.get? a = none)∧(∀ a,W₁ a→¬ Z₁ a)∧(∀ a,W₁ a→∃ o,s₁.heap.get? a = some o) ∧
      ∀ s₂ Z₂,Inv c s₂ Z₂→(∀ b o,W₁ b→s₁.heap.get? b = some o→s₂.heap.get? b = some o)→(∀ b o,Z₁ b→s₁.heap.get? b = some o→s₂.heap.get? b = some o)→(∀ b,Z₁ b→Z₂ b)→(∀ b,W₁ b→¬ Z₂ b) →
        GoOn (model c.prog c.w) A (GEnd c A ys s₂ Z₂ W₁) e.genState s₂
noncomputable def GSt (c:Cx) (A:Around) (ys:List D) (Z W:Addr→Prop) (h:Heap) (gs:GenState):Prop:=
  ∀ s₂ Z₂,Inv c s₂ Z₂→(∀ b o,W b→h.get? b = some o→s₂.heap.get? b = some o)→(∀ b o,Z b→h.get? b = some o→s₂.heap.get? b = some o)→(∀ b,Z b→Z₂ b)→(∀ b,W b→¬ Z₂ b)→GoOn (model c.prog c.w) A (GEnd c A ys s₂ Z₂ W) gs s₂
theorem GSt.later {A:Around} {ys:List D} {Z Z' W:Addr→Prop} {h h':Heap} {gs:GenState} (x:GSt c A ys Z W h gs) (h1:∀ b o,W b→h.get? b = some o→h'.get? b = some o) (h2:∀ b o,Z b→h.get? b = some o→h'.get? b = some o) (h3:∀ b,Z b→Z' b)
    : GSt c A ys Z' W h' gs:=fun s₂ Z₂ I k1 k2 k3 k4=>x s₂ Z₂ I (fun b o w e=>k1 b o w (h1 b o w e)) (fun b o z e=>k2 b o (h3 b z) (h2 b o z e)) (fun b z=>k3 b (h3 b z)) k4
structure GEvo (g:Nat) (W:Addr→Prop) (s:Shared) (Z:Addr→Prop) (s':Shared) (Z':Addr→Prop):Prop where
  keep:∀ b o,¬ W b→s.heap.get? b = some o→s'.heap.get? b = some o
  gens:∀ (i:Nat) (x:GenState),i ≠ g→s.gens[i]? = some x→s'.gens[i]? = some x
  zmono:∀ a,Z a→Z' a
  znew:∀ a,Z' a→Z a∨W a∨s.heap.get? a = none
theorem inv_setGen {s:Shared} {Z:Addr→Prop} {g:Nat} {x:GenState} (I:Inv c s Z) (hx:x.bare = true):Inv c (s.setGen g x) Z:=
  ⟨I.base,I.zb,I.za,I.os,fun y hy=>by
    obtain ⟨i,hi,e⟩:=Array.mem_iff_getElem.mp (hy)
    have h2:(s.gens.setIfInBounds g x)[i]? = some y:=by refine e▸?_;exact Array.getElem?_eq_getElem hi
    rw [Array.getElem?_setIfInBounds] at h2
    split at h2
    · split at h2
      · cases h2;exact hx
      · cases h2
    · exact I.bare y (Array.mem_of_getElem? h2)⟩
theorem gens_other {s:Shared} {g i:Nat} {x:GenState} (hi:i ≠ g):(s.setGen g x).gens[i]? = s.gens[i]?:=by
  refine (?_:(s.gens.setIfInBounds g x)[i]? = _)
  rw [Array.getElem?_setIfInBounds,if_neg (Ne.symm hi)]
noncomputable def NextG (c:Cx) (A:Around) (g:Nat) (s:Shared) (Z W:Addr→Prop):List D→Option Value→Shared→Prop
  | [],r,s'=>r = none∧∃ Z',Inv c s' Z'∧GEvo g W s Z s' Z'
  | y :: ys,r,s'=>∃ v,r = some v∧∃ Z' W' gs',Inv c s' Z'∧GEvo g W s Z s' Z'∧Rep c s'.heap Z' v y∧(∀ a,W' a→W a∨s.heap.get? a = none)∧(∀ a,W' a→¬ Z' a)∧(∀ a,W' a→∃ o,s'.heap.get? a = some o)∧s'.gens[g]? = some gs'∧GSt c A ys Z' W' s'.heap gs'
theorem gen_next (B:Base c) {A:Around} {n:Nat} (R:Room A n) {a:Addr} {g:Nat} {s:Shared} {Z W:Addr→Prop} {gs:GenState} {ys:List D} (hg:s.heap.IsGen a g) (hgs:s.gens[g]? = some gs) (I:Inv c s Z) (hst:GSt c A.in1 ys Z W s.heap gs) (hW:∀ b,W b→¬ Z b) :
    wpAny (model c.prog c.w) A (pyNext (.ref a)) (NextG c A.in1 g s Z W ys) noE s:=by
  have hlt:g < s.gens.size:=by
    rcases Nat.lt_or_ge g s.gens.size with h | h
    · exact h
    · (exact none_some (Array.getElem?_eq_none h) hgs)
  have hgo:=hst (s.setGen g .running) Z (inv_setGen (g:=g) (x:=.running) I rfl) (fun _ _ _ e=>e) (fun _ _ _ e=>e) (fun _ h=>h) hW
  delta pyNext
  refine wpAny_bind (wpAny_attempt (wpAny_callSpecial?_slot (name:=Str.ofString "__next__") hg.typeIs slot_gen_next (wpAny_call_entry slot_gen_next hg.typeIs entry_gen_next ?_ (args_gen_next _))))
  refine (?_:wpAny _ A.in1 (Builtin.Generator.genWake (.ref a) (.send .none)) _ _ s)
  delta Builtin.Generator.genWake
  refine wpAny_bind (wpAny_holding (wpAny_genNumber hg (wpAny_bind (wpAny_genState hgs ?_))))
  have evo:∀ s₁ Z₁ (x:GenState),Evo W (s.setGen g .running) Z s₁ Z₁→GEvo g W s Z (s₁.setGen g x) Z₁:=fun s₁ Z₁ x e=>
    ⟨e.keep,fun i y hi h=>by rw [gens_other hi];exact e.gens i y (by rw [gens_other hi];exact h),e.zmono,e.znew⟩
  induction gs with
  | running=>exact hgo.elim
  | finished=>exact hgo.elim
  | _=>
    refine bnd1 (fun _ q=>wpAny_roomToWake (B.lim.keeps I.base) R.lt q) ?_
    skip
    refine resume_go hgs hgo fun e s₁ he=>?_
    induction ys with
    | nil=>
      obtain ⟨rfl,Z₁,I₁,e₁⟩:=he
      refine ⟨rfl,?_⟩
      refine (?_:wpAny _ A.in1 (newExc (.type "StopIteration") [] >>= _) _ _ _)
      refine wpAny_bind ?_
      simp only [newExc,newTuple]
      refine wpAny_bind (wpAny_newObj_type ?_ (by size_fits))
      refine wpAny_bind (m:=firstArgMember _ _) (wpAny_of_eq (a:=Value.none) (by rfl) ?_)
      refine wpAny_newObj_type ?_ (by size_fits)
      dsimp only [raiseNew]
      refine wpAny_bind (wpAny_bind (wpAny_handled ?_))
      rw [show A.in1.handled = none from R.h]
      refine wpAny_throw ?_
      refine bnd1 (fun _ q=>wpAny_isInstance (T:="StopIteration") (b:=true) ⟨_,Heap.get?_push_size _ rfl,rfl⟩ isSubtype_stop q) ?_
      refine wpAny_pure ⟨rfl,Z₁,?_,?_⟩
      · exact ((inv_setGen I₁ rfl).push0 _ s₁.toks).push0 _ s₁.toks
      · have:=evo s₁ Z₁ .finished e₁
        exact ⟨fun b o hb h=>Heap.get?_push_of_some _ (Heap.get?_push_of_some _ (this.keep b o hb h)),this.gens,this.zmono,this.znew⟩
    | cons y ys=>
      obtain ⟨hq,v,Z₁,W₁,hr,I₁,e₁,rv,hW1,hW2,hW3,hgo'⟩:=he
      refine ⟨hq,?_⟩
      rw [hr]
      refine wpAny_pure ⟨v,rfl,wpAny_pure ⟨v,rfl,Z₁,W₁,e.genState,inv_setGen I₁ (End.bare_of_quiet hq),evo s₁ Z₁ _ e₁,rv,hW1,hW2,hW3,?_,hgo'⟩⟩
      have hrun:(s.setGen g .running).gens[g]? = some .running:=by
        refine (?_:(s.gens.setIfInBounds g .running)[g]? = _)
        rw [Array.getElem?_setIfInBounds,if_pos rfl,if_pos hlt]
      have hlt₁:g < s₁.gens.size:=by
        rcases Nat.lt_or_ge g s₁.gens.size with h | h
        · exact h
        · (exact none_some (Array.getElem?_eq_none h) (e₁.gens g _ hrun))
      refine (?_:(s₁.gens.setIfInBounds g e.genState)[g]? = _)
      rw [Array.getElem?_setIfInBounds,if_pos rfl,if_pos hlt₁]
section
variable {n:Nat} {sc:Scope}
theorem GEvo.fr {g:Nat} {X:Addr→Prop} {env:Env} {ρ:List (Option Sl)} {s s':Shared} {Z Z' W:Addr→Prop} (F:Fr c sc env ρ s Z W) (e:GEvo g X s Z s' Z') (hx:∀ a,X a→¬ W a) (hz:∀ a,X a→¬ Z a):Fr c sc env ρ s' Z' W:=by
  have F₀:Fr c sc env ρ { s with gens:=#[] } Z W:=⟨F.esc,F.kind,F.glob,F.bu,F.nodup,F.ns,F.wl,F.zw,F.wa,F.cell,F.apart,F.lc,F.cw,F.slot,F.ownA,F.ownL⟩
  exact F₀.apartX (X:=X) (s':=s') ⟨e.keep,fun i x h=>by simp at h,e.zmono,e.znew⟩ hx hz
structure GL (c:Cx) (sc:Scope) (env:Env) (ρ':List (Option Sl)) (g:Nat) (s:Shared) (Z W Wg:Addr→Prop) (s':Shared) (Z' W':Addr→Prop):Prop where
  inv:Inv c s' Z'
  keep:∀ b o,¬ W b→¬ Wg b→s.heap.get? b = some o→s'.heap.get? b = some o
  gens:∀ (i:Nat) (x:GenState),i ≠ g→s.gens[i]? = some x→s'.gens[i]? = some x
  zmono:∀ a,Z a→Z' a
  znew:∀ a,Z' a→Z a∨W a∨Wg a∨s.heap.get? a = none
  fr:Fr c sc env ρ' s' Z' W'
  wnew:∀ a,W' a→W a∨Wg a∨s.heap.get? a = none
  wl:∀ a,W a→∃ o,s'.heap.get? a = some o
theorem SStp.gl {env:Env} {ρ':List (Option Sl)} {g:Nat} {s s':Shared} {Z W Z' W' Wg:Addr→Prop} (a:SStp c sc env ρ' s Z W s' Z' W'):GL c sc env ρ' g s Z W Wg s' Z' W':=
  ⟨a.inv,fun b o h1 _ e=>a.evo.keep b o h1 e,fun i x _ h=>a.evo.gens i x h,a.evo.zmono,fun x h=>by
    rcases a.evo.znew x h with h | h | h
    · exact .inl h
    · exact .inr (.inl h)
    · exact .inr (.inr (.inr h)),a.fr,fun x h=>by
    rcases a.wnew x h with h | h
    · exact .inl h
    · exact .inr (.inr h),a.wl⟩
theorem GL.trans {env:Env} {ρ₁ ρ₂:List (Option Sl)} {g:Nat} {s s₁ s₂:Shared} {Z W Wg Z₁ W₁ Wg₁ Z₂ W₂:Addr→Prop} (a:GL c sc env ρ₁ g s Z W Wg s₁ Z₁ W₁) (b:GL c sc env ρ₂ g s₁ Z₁ W₁ Wg₁ s₂ Z₂ W₂) (hg:∀ x,Wg₁ x→Wg x∨s.heap.get? x = none)
    (hd:∀ x,W x→¬ Wg x) (hwl:∀ x,W x→∃ o,s.heap.get? x = some o):GL c sc env ρ₂ g s Z W Wg s₂ Z₂ W₂:=by
  have gone:∀ x,s₁.heap.get? x = none→Wg x∨s.heap.get? x = none:=fun x h=>by
    induction q:s.heap.get? x with
    | none=>exact .inr rfl
    | some o=>
      by_cases h1:W x
      · obtain ⟨o',e⟩:=a.wl x h1;(exact none_some h e)
      · by_cases h2:Wg x
        · exact .inl h2
        · (exact none_some h (a.keep x o h1 h2 q))
  refine ⟨b.inv,fun x o h1 h2 e=>b.keep x o (fun q=>?_) (fun q=>?_) (a.keep x o h1 h2 e),fun i x hi e=>b.gens i x hi (a.gens i x hi e),fun x h=>b.zmono x (a.zmono x h),fun x h=>?_,b.fr,fun x h=>?_,fun x h=>?_⟩
  · rcases a.wnew x q with q | q | q
    · exact h1 q
    · exact h2 q
    · rw [e] at q;cases q
  · refine bc fun g=>?_;rcases hg x q with q | q
    · refine g ?_;exact h2 q
    · rw [e] at q;cases q
  · rcases b.znew x h with h | h | h | h
    · exact a.znew x h
    · exact .inr (a.wnew x h)
    · exact .inr (.inr (hg x h))
    · exact .inr (.inr (gone x h))
  · rcases b.wnew x h with h | h | h
    · exact a.wnew x h
    · exact .inr (hg x h)
    · exact .inr (gone x h)
  · by_cases q:W₁ x
    · exact b.wl x q
    · obtain ⟨o,e⟩:=a.wl x h
      refine ⟨o,b.keep x o q (fun r=>?_) e⟩
      rcases hg x r with r | r
      · exact hd x h r
      · obtain ⟨o',e'⟩:=hwl x h;(exact none_some r e')
noncomputable def ForRG (c:Cx) (sc:Scope) (env:Env) (ρ':List (Option Sl)) (o:Out) (g:Nat) (s:Shared) (Z W Wg:Addr→Prop):Result→Shared→Prop:=
  fun r s'=>∃ f Z' W',r = .ok f∧GL c sc env ρ' g s Z W Wg s' Z' W'∧OutRep c s'.heap Z' f o
theorem isGen_at {h h':Heap} {a:Addr} {g:Nat} (x:h.IsGen a g) (hk:∀ o,h.get? a = some o→h'.get? a = some o):h'.IsGen a g:=(by refine bc fun g=>?_;obtain ⟨o,nm,qn,ho,r⟩:=x;exact g (⟨o,nm,qn,hk o ho,r⟩))
structure GPre (c:Cx) (A:Around) (ys:List D) (a:Addr) (g:Nat) (s:Shared) (Z W Wg:Addr→Prop) (gs:GenState):Prop where
  isg:s.heap.IsGen a g
  gens:s.gens[g]? = some gs
  st:GSt c A.in1 ys Z Wg s.heap gs
  wz:∀ b,Wg b→¬ Z b
  ww:∀ b,Wg b→¬ W b
  wl:∀ b,Wg b→∃ o,s.heap.get? b = some o
  az:¬ Z a
  aw:¬ W a
  ag:¬ Wg a
theorem GPre.step {A:Around} {env:Env} {ρ' ρ:List (Option Sl)} {ys:List D} {a:Addr} {g:Nat} {s s':Shared} {Z W Wg Z' W':Addr→Prop} {gs:GenState} (P:GPre c A ys a g s Z W Wg gs) (F:Fr c sc env ρ s Z W) (S:SStp c sc env ρ' s Z W s' Z' W'):GPre c A ys a g s' Z' W' Wg gs:=by
  have la:∃ o,s.heap.get? a = some o:=(by refine bc fun g=>?_;obtain ⟨o,_,_,e,_⟩:=P.isg;exact g (⟨o,e⟩))
  have nz:∀ b,¬ Z b→¬ W b→(∃ o,s.heap.get? b = some o)→¬ Z' b:=fun b h1 h2 ⟨o,e⟩ q=>by
    rcases S.evo.znew b q with h | h | h
    · exact h1 h
    · exact h2 h
    · (exact none_some h e)
  have nw:∀ b,¬ W b→(∃ o,s.heap.get? b = some o)→¬ W' b:=fun b h2 ⟨o,e⟩ q=>by
    rcases S.wnew b q with h | h
    · exact h2 h
    · (exact none_some h e)
  exact ⟨isGen_at P.isg fun o=>S.evo.keep a o P.aw,S.evo.gens g gs P.gens,P.st.later (fun b o h=>S.evo.keep b o (P.ww b h)) (fun b o h=>S.evo.keep b o fun q=>F.zw b q h) S.evo.zmono,
    fun b h=>nz b (P.wz b h) (P.ww b h) (P.wl b h),fun b h=>nw b (P.ww b h) (P.wl b h),fun b h=>let ⟨o,e⟩:=P.wl b h;⟨o,S.evo.keep b o (P.ww b h) e⟩,nz a P.az P.aw la,nw a P.aw la,P.ag⟩
theorem for_gen (B:Base c) {tgt:Expr} {body:List Stmt}:∀ {xs:List D} {ρ ρ':List (Option Sl)} {o:Out},LoopF c n sc tgt body xs ρ o ρ'→∀ A s Z W Wg env a g gs,Room A n→Inv c s Z→Fr c sc env ρ s Z W→GPre c A xs a g s Z W Wg gs →
    codeAny (model c.prog c.w) A (.forLoop tgt (.ref a) body [] env) (ForRG c sc env ρ' o g s Z W Wg) s:=by
  intro xs ρ ρ' o h
  have turn:∀ {x:D} {xs:List D} {ρ ρ₁ ρ₂:List (Option Sl)} {o₁:Out},AsgS c n sc tgt x ρ ρ₁→Exs c n sc body ρ₁ o₁ ρ₂→∀ A s Z W Wg env a g gs,Room A n→Inv c s Z→Fr c sc env ρ s Z W→GPre c A (x :: xs) a g s Z W Wg gs →
      ∀ (R:Result→Shared→Prop),(∀ f s₃ Z₃ W₃ Wg' gs',GL c sc env ρ₂ g s Z W Wg s₃ Z₃ W₃→OutRep c s₃.heap Z₃ f o₁→GPre c A xs a g s₃ Z₃ W₃ Wg' gs'→(∀ y,Wg' y→Wg y∨s.heap.get? y = none) →
        (match f with | .next | .cont=>codeAny (model c.prog c.w) A (.forLoop tgt (.ref a) body [] env) R s₃ | .brk=>R (.ok .next) s₃ | .ret v=>R (.ok (.ret v)) s₃)) →
      codeAny (model c.prog c.w) A (.forLoop tgt (.ref a) body [] env) R s:=by
    intro x xs ρ ρ₁ ρ₂ o₁ ha hb A s Z W Wg env a g gs Rm I F P R hk
    refine codeAny_turn ?_
    show wpAny _ A ((forTurn tgt (.ref a) body [] env).onRaise (fun x=>do noteFrame x env;theTreesLotGoes x)) _ _ s
    refine wpAny_noted (noted_no ?_)
    simp only [forTurn]
    refine wpAny_bind (wpAny_standAt (wpAny_bind (wpAny_onRaise (wpAny_mono (gen_next B Rm P.isg P.gens I P.st P.wz) (fun r s₁ h₁=>?_) fun _ _ h'=>h'.elim))))
    obtain ⟨v,rfl,Z₁,Wg₁,gs₁,I₁,e₁,rv,hw1,hw2,hw3,hg1,hst1⟩:=h₁
    have F₁:=e₁.fr F P.ww P.wz
    have la:∃ o,s.heap.get? a = some o:=(by refine bc fun g=>?_;obtain ⟨o,_,_,e,_⟩:=P.isg;exact g (⟨o,e⟩))
    have notNew:∀ b,Wg₁ b→(∃ o,s.heap.get? b = some o)→Wg b:=fun b h ⟨o,e⟩=>by
      rcases hw1 b h with q | q
      · exact q
      · rw [e] at q;cases q
    have P₁:GPre c A xs a g s₁ Z₁ W Wg₁ gs₁:=by
      refine ⟨isGen_at P.isg fun o=>e₁.keep a o P.ag,hg1,hst1,hw2,fun b h q=>P.ww b (notNew b h (F.wa b q)) q,hw3,fun q=>?_,P.aw,fun q=>P.ag (notNew a q la)⟩
      rcases e₁.znew a q with h | h | h
      · exact P.az h
      · exact P.ag h
      · obtain ⟨o,e⟩:=la;(exact none_some h e)
    have L₁:GL c sc env ρ g s Z W Wg s₁ Z₁ W:=⟨I₁,fun b o _ h2 e=>e₁.keep b o h2 e,e₁.gens,e₁.zmono,fun x h=>by
      rcases e₁.znew x h with h | h | h
      · exact .inl h
      · exact .inr (.inr (.inl h))
      · exact .inr (.inr (.inr h)),F₁,fun _ h=>.inl h,F₁.wa⟩
    obtain ⟨og,_,_,hog,hcg,_⟩:=P₁.isg
    refine wpAny_bind (go_plain hog hcg (by decide) ?_)
    refine wpAny_bind (wpAny_mono (ha A s₁ Z₁ W env v Rm I₁ F₁ rv) (?_) fun _ _ x=>x);rintro _ s₂ ⟨Z₂,W₂,S₂⟩;refine ?_
    refine wpAny_bind (wpAny_mono (hb A s₂ Z₂ W₂ env Rm S₂.inv S₂.fr) (?_) fun _ _ x=>x);rintro f s₃ ⟨Z₃,W₃,S₃,r₃⟩;refine ?_
    have P₃:=(P₁.step F₁ S₂).step S₂.fr S₃
    have L:=L₁.trans ((S₂.trans S₃).gl (Wg:=Wg)) (fun x h=>.inl h) (fun x h q=>P.ww x q h) F.wa
    have fin:=hk f s₃ Z₃ W₃ Wg₁ gs₁ L r₃ P₃ hw1
    induction f with
    | next=>exact wpAny_pure ⟨rfl,fin⟩
    | cont=>exact wpAny_pure ⟨rfl,fin⟩
    | brk=>exact wpAny_pure fin
    | ret v=>exact wpAny_pure fin
  induction h with
  | nil=>
    intro A s Z W Wg env a g gs Rm I F P
    refine codeAny_turn ?_
    skip
    refine wpAny_noted (noted_no ?_)
    simp only [forTurn]
    refine wpAny_bind (wpAny_standAt (wpAny_bind (wpAny_onRaise (wpAny_mono (gen_next B Rm P.isg P.gens I P.st P.wz) (fun r s₁ h₁=>?_) fun _ _ h'=>h'.elim))))
    obtain ⟨rfl,Z₁,I₁,e₁⟩:=h₁
    have F₁:=e₁.fr F P.ww P.wz
    refine wpAny_pure ⟨rfl,codeAny_block (wpAny_execs_nil ⟨.next,Z₁,W,rfl,⟨I₁,fun b o _ h2 e=>e₁.keep b o h2 e,e₁.gens,e₁.zmono,fun x h=>?_,F₁,fun _ h=>.inl h,F₁.wa⟩,trivial⟩)⟩
    rcases e₁.znew x h with h | h | h
    · exact .inl h
    · exact .inr (.inr (.inl h))
    · exact .inr (.inr (.inr h))
  | step ha hb ho hr ih=>
    intro A s Z W Wg env a g gs Rm I F P
    refine turn ha hb A s Z W Wg env a g gs Rm I F P _ fun f s₃ Z₃ W₃ Wg' gs' L r₃ P₃ h1=>?_
    have go:=codeAny_mono (ih A s₃ Z₃ W₃ Wg' env a g gs' Rm L.inv L.fr P₃) (by rintro r s' ⟨f,Z',W',hr,L',r'⟩;exact (⟨f,Z',W',hr,L.trans L' h1 (fun x h q=>P.ww x q h) F.wa,r'⟩:ForRG c sc env _ _ g s Z W Wg r s'))
    induction f with
    | next=>exact go
    | cont=>exact go
    | brk=>rcases ho with rfl | rfl<;>exact r₃.elim
    | ret v=>rcases ho with rfl | rfl<;>exact r₃.elim
  | brk ha hb=>
    intro A s Z W Wg env a g gs Rm I F P
    refine turn ha hb A s Z W Wg env a g gs Rm I F P _ fun f s₃ Z₃ W₃ Wg' gs' L r₃ P₃ h1=>?_
    induction f<;>first | exact r₃.elim | exact ⟨.next,Z₃,W₃,rfl,L,trivial⟩
  | ret ha hb=>
    intro A s Z W Wg env a g gs Rm I F P
    refine turn ha hb A s Z W Wg env a g gs Rm I F P _ fun f s₃ Z₃ W₃ Wg' gs' L r₃ P₃ h1=>?_
    induction f<;>first | exact r₃.elim | exact ⟨.ret _,Z₃,W₃,rfl,L,r₃⟩
noncomputable def EvG (c:Cx) (n:Nat) (sc:Scope) (ρ:List (Option Sl)) (e:Expr) (ys:List D):Prop:=
  (∀ env x,foldedSetIterable e env x = pure x)∧∀ A s Z W env,Room A n→Inv c s Z→Fr c sc env ρ s Z W→wpAny (model c.prog c.w) A (eval e env) (fun x s₁=>∃ a g Z₁ Wg gs,x = .ref a∧Inv c s₁ Z₁∧Evo no s Z s₁ Z₁∧s₁.heap.IsGen a g∧s₁.gens[g]? = some gs∧s.gens[g]? = none ∧
    s.heap.get? a = none∧¬ Z₁ a∧¬ Wg a∧(∀ b,Wg b→s.heap.get? b = none∧¬ Z₁ b∧∃ o,s₁.heap.get? b = some o)∧GSt c A.in1 ys Z₁ Wg s₁.heap gs) noE s
theorem ex_forG (B:Base c) {tgt iter:Expr} {body:List Stmt} {xs:List D} {o:Out} {ρ ρ':List (Option Sl)} {pos:Pos} (hi:EvG c n sc ρ iter xs) (h:LoopF c n sc tgt body xs ρ o ρ'):Ex c n sc (.For tgt iter body [] pos) ρ o ρ':=by
  intro A s Z W env R I F
  refine wpAny_For (wpAny_mono (hi.2 A s Z W env R I F) (fun x s₁ h₁=>?_) fun _ _ x=>x) (hi.1 env)
  obtain ⟨a,g,Z₁,Wg,gs,rfl,I₁,e₁,hg,hgs,hgn,hfa,haz,hag,hWg,hst⟩:=h₁
  refine wpAny_pyIter_gen hg ?_
  have dead:∀ b,s.heap.get? b = none→¬ W b:=fun b hb q=>by obtain ⟨o,e⟩:=F.wa b q;(exact none_some hb e)
  refine codeAny_mono (for_gen B h A s₁ Z₁ W Wg env a g gs R I₁ (F.grow e₁) (⟨hg,hgs,hst,fun b h=>(hWg b h).2.1,fun b h=>dead b (hWg b h).1,fun b h=>(hWg b h).2.2,haz,dead a hfa,hag⟩)) ?_;rintro r s' ⟨f,Z',W',hr,L,r'⟩;refine ?_
  subst hr
  refine ⟨Z',W',⟨L.inv,⟨fun b o hb e=>L.keep b o hb (fun q=>by (exact none_some ((hWg b q).1) e)) (e₁.keep b o id e),fun i x h=>?_,fun b h=>L.zmono b (e₁.zmono b h),fun b h=>?_⟩,L.fr,fun b h=>?_,L.wl⟩,r'⟩
  · exact L.gens i x (fun q=>by rw [q,hgn] at h;cases h) (e₁.gens i x h)
  · rcases L.znew b h with h | h | h | h
    · rcases e₁.znew b h with h | h | h
      · exact .inl h
      · exact h.elim
      · exact .inr (.inr h)
    · exact .inr (.inl h)
    · exact .inr (.inr (hWg b h).1)
    · exact .inr (.inr (e₁.back h))
  · rcases L.wnew b h with h | h | h
    · exact .inl h
    · exact .inr (hWg b h).1
    · exact .inr (e₁.back h)
end
end
end Mine
end
section
open PySem PySem.W PyProof.Rows
namespace Mine
structure FRec where
  name:Str
  params:Arguments
  body:List Stmt
  scope:Scope
noncomputable def fRec:Stmt→FRec
  | .FunctionDef name args body _ _ _ scope _ _ _=>⟨name,args,body,scope⟩
  | _=>⟨Str.empty,default,[],default⟩
noncomputable def stmtAt (p:Program) (k:Nat):Stmt:=p.main.body.getD k (.Pass default)
theorem len1 {Q:List Value→Prop} (h:∀ v,Q [v]) (vs:List Value) (e:vs.length = 1):Q vs:=Exists.elim (List.length_eq_one_iff.mp e) fun v q=>q▸h v
theorem len2 {Q:List Value→Prop} (h:∀ v w,Q [v,w]) (vs:List Value) (e:vs.length = 2):Q vs:=by
  induction vs with
  | nil=>exact absurd e.symm (Nat.succ_ne_zero _)
  | cons v vs=>exact len1 (Q:=fun l=>Q (v :: l)) (h v) vs (Nat.succ.inj e)
theorem len3 {Q:List Value→Prop} (h:∀ u v w,Q [u,v,w]) (vs:List Value) (e:vs.length = 3):Q vs:=by
  induction vs with
  | nil=>exact absurd e.symm (Nat.succ_ne_zero _)
  | cons v vs=>exact len2 (Q:=fun l=>Q (v :: l)) (h v) vs (Nat.succ.inj e)
noncomputable def FunAt (c:Cx) (f:FRec) (a:Addr):Prop:=∃ o pm code doc,c.mg f.name = some (.ref a)∧c.h₀.get? a = some o∧o.data = .func (Calls.docDef f.name f.params f.body f.scope pm code doc)∧c.h₀.CodeRec code f.name
theorem FunAt.ok {c:Cx} {f:FRec} {a:Addr} {ds:List D} {ρ₀:List (Option Sl)} (h:FunAt c f a) (hb:∀ pm code doc (vs:List Value),vs.length = ds.length→bindArgs (Calls.docDef f.name f.params f.body f.scope pm code doc) ⟨vs,[]⟩ = pure ((f.params.args.map (·.arg)).zip vs))
    (hs:Sets f.scope (f.params.args.map (·.arg)) (ds.map .val) (List.replicate f.scope.names.length none) ρ₀) (co:f.scope.isCoroutine = false) (gen:f.scope.isGenerator = false) (kind:f.scope.kind = .function)
    (nodup:(f.scope.names.map (·.1)).Nodup) (nofree:∀ x ∈ f.scope.names,x.2 ≠ .free):FunOk c a f.scope f.body ds ρ₀:=
  (by refine bc fun g=>?_;obtain ⟨o,pm,code,doc,_,h2,h3,h4⟩:=h;exact g (⟨⟨o,_,_,h2,h3,rfl,rfl,rfl,rfl,rfl,h4,hb pm code doc,hs⟩,co,gen,kind,nodup,nofree⟩))
section
variable {c:Cx} {f:FRec} {a:Addr} {d₁ d₂ d₃:D} {ρ₀:List (Option Sl)}
theorem FunAt.ok1 (h:FunAt c f a) (hs:Sets f.scope (f.params.args.map (·.arg)) [.val d₁] (List.replicate f.scope.names.length none) ρ₀) (hb:∀ pm code doc v,bindArgs (Calls.docDef f.name f.params f.body f.scope pm code doc) ⟨[v],[]⟩ = pure ((f.params.args.map (·.arg)).zip [v]):=by intros;rfl)
    (co:f.scope.isCoroutine = false:=by rfl) (gen:f.scope.isGenerator = false:=by rfl) (kind:f.scope.kind = .function:=by rfl) (nodup:(f.scope.names.map (·.1)).Nodup:=by decide +kernel) (nofree:∀ x ∈ f.scope.names,x.2 ≠ .free:=by decide +kernel):FunOk c a f.scope f.body [d₁] ρ₀:=
  h.ok (fun pm code doc vs hv=>len1 (Q:=fun vs=>bindArgs (Calls.docDef f.name f.params f.body f.scope pm code doc) ⟨vs,[]⟩ = pure ((f.params.args.map (·.arg)).zip vs)) (hb pm code doc) vs hv) hs co gen kind nodup nofree
theorem FunAt.ok2 (h:FunAt c f a) (hs:Sets f.scope (f.params.args.map (·.arg)) [.val d₁,.val d₂] (List.replicate f.scope.names.length none) ρ₀) (hb:∀ pm code doc v w,bindArgs (Calls.docDef f.name f.params f.body f.scope pm code doc) ⟨[v,w],[]⟩ = pure ((f.params.args.map (·.arg)).zip [v,w]):=by intros;rfl)
    (co:f.scope.isCoroutine = false:=by rfl) (gen:f.scope.isGenerator = false:=by rfl) (kind:f.scope.kind = .function:=by rfl) (nodup:(f.scope.names.map (·.1)).Nodup:=by decide +kernel) (nofree:∀ x ∈ f.scope.names,x.2 ≠ .free:=by decide +kernel):FunOk c a f.scope f.body [d₁,d₂] ρ₀:=
  h.ok (fun pm code doc vs hv=>len2 (Q:=fun vs=>bindArgs (Calls.docDef f.name f.params f.body f.scope pm code doc) ⟨vs,[]⟩ = pure ((f.params.args.map (·.arg)).zip vs)) (hb pm code doc) vs hv) hs co gen kind nodup nofree
theorem FunAt.ok3 (h:FunAt c f a) (hs:Sets f.scope (f.params.args.map (·.arg)) [.val d₁,.val d₂,.val d₃] (List.replicate f.scope.names.length none) ρ₀) (hb:∀ pm code doc u v w,bindArgs (Calls.docDef f.name f.params f.body f.scope pm code doc) ⟨[u,v,w],[]⟩ = pure ((f.params.args.map (·.arg)).zip [u,v,w]):=by intros;rfl)
    (co:f.scope.isCoroutine = false:=by rfl) (gen:f.scope.isGenerator = false:=by rfl) (kind:f.scope.kind = .function:=by rfl) (nodup:(f.scope.names.map (·.1)).Nodup:=by decide +kernel) (nofree:∀ x ∈ f.scope.names,x.2 ≠ .free:=by decide +kernel):FunOk c a f.scope f.body [d₁,d₂,d₃] ρ₀:=
  h.ok (fun pm code doc vs hv=>len3 (Q:=fun vs=>bindArgs (Calls.docDef f.name f.params f.body f.scope pm code doc) ⟨vs,[]⟩ = pure ((f.params.args.map (·.arg)).zip vs)) (hb pm code doc) vs hv) hs co gen kind nodup nofree
end
noncomputable def ixOf:List (Str × NameKind)→Str→Option (Nat × NameKind)
  | [],_=>none
  | (n,k) :: r,x=>if n == x then some (0,k) else (ixOf r x).map fun p=>(p.1 + 1,p.2)
theorem ixOf_at:∀ {l:List (Str × NameKind)} {x:Str} {i:Nat} {k:NameKind},ixOf l x = some (i,k)→l[i]? = some (x,k)
  | [],_,_,_,h=>by simp [ixOf] at h
  | (n,k') :: r,x,i,k,h=>by
    unfold ixOf at h
    split at h
    · rename_i hn;cases h;refine beq_iff_eq.mp hn▸?_;rfl
    · induction q:ixOf r x with
      | none=>rw [q] at h;simp at h
      | some p=>
        rw [q] at h
        simp at h
        obtain ⟨h1,h2⟩:=h
        subst h1 h2
        simpa using ixOf_at q
section
variable {c:Cx} {n:Nat} {sc:Scope} {ρ:List (Option Sl)}
theorem ev_nm {i:Nat} {x:Str} {k:NameKind} {d:D} {pos:Pos} (hx:ixOf sc.names x = some (i,k)) (hρ:ρ[i]? = some (some (.val d))) (hp:plainName x = true:=by decide +kernel):EvE c n sc ρ (.Name x pos) d:=ev_name i (ixOf_at hx) hρ hp
theorem asg_nm {N:Nat→Prop} {i:Nat} {x:Str} {k:NameKind} {d:D} {pos:Pos} (hx:ixOf sc.names x = some (i,k)) (hN:N i) (hk:k = .local∨k = .cell:=by decide) (hl:Nat.ble (i + 1) ρ.length = true:=by rfl):Asg c n sc N (.Name x pos) d ρ (ρ.set i (some (.val d))):=asg_name i (ixOf_at hx) hN hk (Nat.le_of_ble_eq_true hl)
theorem asgS_nm {i:Nat} {x:Str} {k:NameKind} {d:D} {pos:Pos} (hx:ixOf sc.names x = some (i,k)) (hk:k = .local∨k = .cell:=by decide) (hl:Nat.ble (i + 1) ρ.length = true:=by rfl):AsgS c n sc (.Name x pos) d ρ (ρ.set i (some (.val d))):=(asg_name (N:=fun _=>True) i (ixOf_at hx) trivial hk (Nat.le_of_ble_eq_true hl)).s
theorem ex_aug_nm {op:Operator} {i:Nat} {x:Str} {k:NameKind} {value:Expr} {a b r:Int} {px pos:Pos} (hx:ixOf sc.names x = some (i,k)) (hρ:ρ[i]? = some (some (.val (.int a)))) (hv:EvE c n sc ρ value (.int b)) (hop:op = .Add∧r = a + b∨op = .Sub∧r = a - b) (hk:k = .local∨k = .cell:=by decide)
    (hp:plainName x = true:=by decide +kernel):Ex c n sc (.AugAssign (.Name x px) op value pos) ρ .next (ρ.set i (some (.val (.int r)))):=ex_aug i hop (ixOf_at hx) hρ hv hk hp
theorem ev_call_nm (B:Base c) {i:Nat} {x:Str} {f:Value} {es:List Expr} {ds:List D} {d:D} {p pos:Pos} (hx:ixOf sc.names x = some (i,.globalImplicit)) (hg:Glob c x f) (hf:Callee c f) (ha:EvEs c n sc ρ es ds) (h:CallV c n f ds d)
    (hp:plainName x = true:=by decide +kernel):EvE c n sc ρ (.Call (.Name x p) es [] pos) d:=ev_call B i (ixOf_at hx) hg hf ha h hp
theorem ev_isi_nm (B:Base c) {i j:Nat} {x y:Str} {e:Expr} {d:D} {T:String} {b:Bool} {p q pos:Pos} (hx:ixOf sc.names x = some (i,.globalImplicit)) (hy:ixOf sc.names y = some (j,.globalImplicit)) (hg:Glob c x (.builtin "isinstance")) (hg2:Glob c y (.type T)) (h:EvE c n sc ρ e d)
    (hc:∀ A s Z v,Inv c s Z→Rep c s.heap Z v d→Gives c A (call (.builtin "isinstance") [v,.type T]) s Z (.bool b)) (he:noStar e = true:=by rfl) (hp:plainName x = true:=by decide +kernel) (hp2:plainName y = true:=by decide +kernel):EvE c n sc ρ (.Call (.Name x p) [e,.Name y q] [] pos) (.bool b):=ev_isi B i j (ixOf_at hx) (ixOf_at hy) hg hg2 h hc he hp hp2
theorem cm_inDB {k:Str} {es:List (Str × D)} {r:Bool} (h:r = (es.find? fun f=>f.1 = k).isSome):CmpG c n .In (.str k) (.dict es) r:=h▸cm_inD
theorem Sets.nm {x:Str} {xs:List Str} {sl:Sl} {sls:List Sl} {ρ ρ':List (Option Sl)} {i:Nat} {k:NameKind} (hx:ixOf sc.names x = some (i,k)) (hk:k = .local∨k = .cell) (hl:Nat.ble (i + 1) ρ.length = true) (h:Sets sc xs sls (ρ.set i (some sl)) ρ'):Sets sc (x :: xs) (sl :: sls) ρ ρ':=.cons i k (ixOf_at hx) hk (Nat.le_of_ble_eq_true hl) h
end
theorem loop_fold {c:Cx} {n:Nat} {sc:Scope} {tgt:Expr} {body:List Stmt} {α β:Type} {emb:α→D} (f:β→α→β) (st:β→List (Option Sl)):∀ {l:List α} {b₀:β} {ρ:List (Option Sl)},ρ = st b₀ →
    (∀ b x,x ∈ l→∃ ρ₁ ρ₂,AsgS c n sc tgt (emb x) (st b) ρ₁∧Exs c n sc body ρ₁ .next ρ₂∧Lss (st (f b x)) ρ₂)→LoopF c n sc tgt body (l.map emb) ρ .next (st (l.foldl f b₀)):=by
  intro l
  induction l with
  | nil=>intro b₀ ρ h0 _;exact h0▸.nil
  | cons x l ih=>
    intro b₀ _ h0 h
    refine bc fun g=>?_;obtain ⟨ρ₁,ρ₂,h1,h2,h3⟩:=h b₀ x List.mem_cons_self
    subst h0
    refine g ?_;exact .step h1 (exs_less h2 Lss.refl h3) (.inl rfl) (ih rfl fun b y hy=>h b y (List.mem_cons_of_mem _ hy))
theorem loop_foldP {c:Cx} {n:Nat} {sc:Scope} {tgt:Expr} {body:List Stmt} {α β:Type} {emb:α→D} (f:β→α→β) (st:β→List (Option Sl)) (P:Nat→β→Prop):∀ {l:List α} (k:Nat) {b₀:β} {ρ:List (Option Sl)},ρ = st b₀→P k b₀ →
    (∀ j b x,x ∈ l→P j b→j < k + l.length→P (j + 1) (f b x)∧∃ ρ₁ ρ₂,AsgS c n sc tgt (emb x) (st b) ρ₁∧Exs c n sc body ρ₁ .next ρ₂∧Lss (st (f b x)) ρ₂)→P (k + l.length) (l.foldl f b₀)∧LoopF c n sc tgt body (l.map emb) ρ .next (st (l.foldl f b₀)):=by
  intro l
  induction l with
  | nil=>intro k b₀ ρ h0 hP _;exact ⟨hP,h0▸.nil⟩
  | cons x l ih=>
    intro k b₀ _ h0 hP h
    refine bc fun g=>?_;obtain ⟨hP1,ρ₁,ρ₂,h1,h2,h3⟩:=h k b₀ x List.mem_cons_self hP (by simp)
    subst h0
    obtain ⟨q1,q2⟩:=ih (k + 1) (b₀:=f b₀ x) rfl hP1 fun j b y hy hj hlt=>h j b y (List.mem_cons_of_mem _ hy) hj (by rw [List.length_cons];lia)
    refine g ?_;refine ⟨by rw [List.length_cons,show k + (l.length + 1) = k + 1 + l.length by lia];exact q1,.step h1 (exs_less h2 Lss.refl h3) (.inl rfl) q2⟩
theorem ex_for_fold {c:Cx} {n:Nat} {sc:Scope} {ρ:List (Option Sl)} {tgt iter:Expr} {body:List Stmt} {pos:Pos} {α β:Type} {xs:List D} {l:List α} {b₀:β} (hi:EvI c false n sc ρ iter tgt xs) (emb:α→D) (hx:xs = l.map emb) (f:β→α→β) (st:β→List (Option Sl)) (h0:ρ = st b₀)
    (h:∀ b x,x ∈ l→∃ ρ₁ ρ₂,AsgS c n sc tgt (emb x) (st b) ρ₁∧Exs c n sc body ρ₁ .next ρ₂∧Lss (st (f b x)) ρ₂):Ex c n sc (.For tgt iter body [] pos) ρ .next (st (l.foldl f b₀)):=by
  subst hx;exact ex_for hi (loop_fold f st h0 h)
theorem Lss.cons {a b:Option Sl} {ρ' ρ:List (Option Sl)} (h:a = Option.none∨a = b) (r:Lss ρ' ρ):Lss (a :: ρ') (b :: ρ):=fun i sl hi=>by
  induction i with
  | zero=>
    simp at hi ⊢
    rcases h with h | h
    · exact none_some h hi
    · refine h▸?_;exact hi
  | succ i=>exact r i sl (by exact hi)
theorem Lss.nil:Lss [] []:=fun i sl h=>by simp at h
section
variable {c:Cx} {n:Nat} {sc:Scope} {ρ ρ':List (Option Sl)} {A:Around} {s:Shared} {Z W:Addr→Prop} {env:Env}
theorem EvE.run {e:Expr} {d:D} (R:Room A n) (I:Inv c s Z) (F:Fr c sc env ρ s Z W) (h:EvE c n sc ρ e d):Gives c A (eval e env) s Z d:=h A s Z W env R I F
theorem EvT.run {e:Expr} {b:Bool} (R:Room A n) (I:Inv c s Z) (F:Fr c sc env ρ s Z W) (h:EvT c n sc ρ e b):wpAny (model c.prog c.w) A (isTrue e env (eval e env)) (PostB c s Z b) noE s:=h A s Z W env R I F
theorem Ex.run {st:Stmt} {o:Out} (R:Room A n) (I:Inv c s Z) (F:Fr c sc env ρ s Z W) (h:Ex c n sc st ρ o ρ'):wpAny (model c.prog c.w) A (exec st env) (SPost c sc env ρ' o s Z W) noE s:=h A s Z W env R I F
end
theorem FunAt.callee {c:Cx} {f:FRec} {a:Addr} (h:FunAt c f a):Callee c (.ref a):=(by refine bc fun g=>?_;obtain ⟨_,_,_,_,_,h2,h3,_⟩:=h;exact g (callee_fun h2 h3))
theorem FunAt.glob {c:Cx} {f:FRec} {a:Addr} (h:FunAt c f a):Glob c f.name (.ref a):=(by refine bc fun g=>?_;obtain ⟨_,_,_,_,h1,_⟩:=h;exact g (.inl h1))
end Mine
end
section
open PySem PySem.W PyProof.Rows
namespace Mine
section
variable {c:Cx} {n:Nat} {sc:Scope} {ρ:List (Option Sl)}
theorem Fr.rest {env:Env} {s s':Shared} {Z Z' W:Addr→Prop} (F:Fr c sc env ρ s Z W) (hw:∀ a o,W a→s.heap.get? a = some o→s'.heap.get? a = some o) (hkz:∀ a o,Z a→s.heap.get? a = some o→s'.heap.get? a = some o) (hm:∀ a,Z a→Z' a) (hoff:∀ a,W a→¬ Z' a):Fr c sc env ρ s' Z' W:=by
  have keep:∀ (x:Str) (k:NameKind) (v:Value),HasVal env s.heap x k v→HasVal env s'.heap x k v:=fun x k v H=>H.at (fun o=>hw _ o F.wl) fun a o h=>hw a o (F.cw x a h)
  have back:∀ (i:Nat) (x:Str) (k:NameKind) (sl:Sl) (v:Value),sc.names[i]? = some (x,k)→ρ[i]? = some (some sl)→HasVal env s'.heap x k v→HasVal env s.heap x k v:=fun i x k sl v h1 h2 h3=>by
    obtain ⟨u,hu,_⟩:=F.slot i x k sl h1 h2
    refine HasVal.uniq h3 (keep x k u hu)▸?_;exact hu
  refine ⟨F.esc,F.kind,F.glob,F.bu,F.nodup,?_,F.wl,hoff,fun a ha=>(by refine bc fun g=>?_;obtain ⟨o,ho⟩:=F.wa a ha;exact g (⟨o,hw a o ha ho⟩)),?_,F.apart,F.lc,F.cw,?_,?_,?_⟩
  · obtain ⟨m,hm⟩:=F.ns;exact ⟨m,hm.at' fun o=>hw _ o F.wl⟩
  · intro i x k h1 h2
    refine bc fun g=>?_;obtain ⟨a,ov,h3,⟨o,ho,hd⟩,h5⟩:=F.cell i x k h1 h2
    refine g ?_;exact ⟨a,ov,h3,⟨o,hw a o h5 ho,hd⟩,h5⟩
  · intro i x k sl h1 h2
    obtain ⟨v,hv,r⟩:=F.slot i x k sl h1 h2
    refine ⟨v,keep x k v hv,?_⟩
    induction sl with
    | val d=>exact rep_mono hkz hm r
    | own d=>obtain ⟨a,rfl,ha,ho⟩:=r;exact ⟨a,rfl,ha,ho.mono (fun o=>hw a o ha) hkz hm⟩
  · intro i j x y k l d e' a b h1 h2 h3 h4 h5 h6 h7
    exact F.ownA i j x y k l d e' a b h1 h2 h3 h4 h5 (back i x k _ _ h1 h4 h6) (back j y l _ _ h2 h5 h7)
  · intro i x k d a h1 h2 h3
    exact F.ownL i x k d a h1 h2 (back i x k _ _ h1 h2 h3)
theorem Evo.step' {s₀ s s':Shared} {Z₀ W₀ Z Z' X:Addr→Prop} (a:Evo W₀ s₀ Z₀ s Z) (e:Evo X s Z s' Z') (hx:∀ b,X b→W₀ b∨s₀.heap.get? b = none):Evo W₀ s₀ Z₀ s' Z':=a.trans' e hx
theorem room_func {A:Around} {body:List Stmt} {env:Env} (R:Room A (n + 1)):Room (A.over (.func body env) []) n:=
  ⟨R.h,by have:=R.d;show A.depth + 0 + 1 + n < 990;lia,by have:=R.u;show A.units + 0 + 3 + 64 * n + 128 < cLine;lia⟩
theorem room_for {A:Around} {body:List Stmt} {env env':Env} {tgt:Expr} {it:Value} {b o:List Stmt} {K:Flow→Sem Fin} {H:Value→Sem Fin} {gd:Bool→Bool} {lv:List Value→List Value} {p:Pos} (R:Room A (n + 1)):Room (A.over (.forLoop tgt it b o env') [forFrame env (.func body env) K H gd lv p]) n:=
  ⟨by show (marksOver _ _).1 = none;simp [marksOver,forFrame,Frame.marks,R.h,markOver],by have:=R.d;show A.depth + 1 + 0 + n < 990;lia,by have:=R.u;show A.units + 3 + 0 + 64 * n + 128 < cLine;lia⟩
end
end Mine
end
section
open PySem PySem.W PyProof.Rows
namespace Mine
structure ClassAt (c:Cx) (x:Str) (C N:Addr) (mN:Str→Option Value):Prop where
  g:c.mg x = some (.ref C)
  cls:ClsAt c.h₀ C N mN
  ga:mN "__getattribute__" = none
  gt:mN "__getattr__" = none
  sa:mN "__setattr__" = none
  keep:Callee c (.ref C)
noncomputable def MethAt (c:Cx) (mN:Str→Option Value) (f:FRec) (a:Addr):Prop:=
  ∃ o qual pm code doc,mN f.name = some (.ref a)∧c.h₀.get? a = some o∧o.cls = .type "function"∧o.data = .func (methDef f.name qual f.params f.body f.scope pm code doc)∧c.h₀.CodeRec code qual
noncomputable def ClsVal (c:Cx) (C:Addr) (x:Str) (v:Value):Prop:=
  ∀ (A:Around) (s:Shared) (Q:Value→Shared→Prop),(∀ b o,c.h₀.get? b = some o→s.heap.get? b = some o)→Q v { s with toks:=s.toks + 1 }→wpAny (model c.prog c.w) A (getAttr (.ref C) x true) Q noE s
noncomputable def isRaw:D→Bool
  | .raw _=>true
  | _=>false
theorem handed_rep {c:Cx} {h:Heap} {Z:Addr→Prop} {v:Value} {d:D} (r:Rep c h Z v d) (hd:isRaw d = false):handedOut v = pure v:=by
  cases r<;>first | rfl | (cases hd;done)
theorem repE_lookup {c:Cx} {h:Heap} {Z:Addr→Prop} {kvs:List (Str × Value)} {es:List (Str × D)} {k:Str} {d:D} (r:RepE c h Z kvs es):es.lookup k = some d→∃ v,kvs.lookup k = some v∧Rep c h Z v d:=
  r.ind (P:=fun kvs es=>es.lookup k = some d→∃ v,kvs.lookup k = some v∧Rep c h Z v d) (fun h=>none_some List.lookup_nil h) fun {x v _ _ _} r _ ih h=>by
    rw [List.lookup_cons] at h ⊢
    induction q:k == x with
    | true=>rw [q] at h;exact ⟨v,rfl,Option.some.inj h▸r⟩
    | false=>rw [q] at h;exact ih h
theorem repE_lookup_none {c:Cx} {h:Heap} {Z:Addr→Prop} {kvs:List (Str × Value)} {es:List (Str × D)} {k:Str} (r:RepE c h Z kvs es):es.lookup k = none→kvs.lookup k = none:=
  r.ind (P:=fun kvs es=>es.lookup k = none→kvs.lookup k = none) (fun _=>rfl) fun {x _ _ _ _} _ _ ih h=>by
    rw [List.lookup_cons] at h ⊢
    induction q:k == x with
    | true=>rw [q] at h;exact nomatch h
    | false=>rw [q] at h;exact ih h
section
variable {c:Cx} {n:Nat} {sc:Scope} {ρ:List (Option Sl)}
noncomputable def AttrG (c:Cx) (d:D) (x:Str) (e:D):Prop:=∀ A s Z v,Inv c s Z→Rep c s.heap Z v d→Gives c A (getAttr v x true) s Z e
theorem ev_attr {o:Expr} {x:Str} {d e:D} {pos:Pos} (h:EvE c n sc ρ o d) (ha:AttrG c d x e) (hb:PlainB o:=by intro _ _;rfl):EvE c n sc ρ (.Attribute o x pos) e:=by
  intro A s Z W env R I F
  simp only [arm_eval_Attribute,hb x env]
  refine Gives.then (h A s Z W env R I F) fun v s₁ Z₁ I₁ e₁ r₁=>?_
  refine wpAny_bind (wpAny_standAt ?_)
  refine wpAny_bind (wpAny_holding ?_)
  refine Gives.to (ha A s₁ Z₁ v I₁ r₁) fun u s₂ Z₂ I₂ e₂ r₂=>?_
  exact wpAny_bind (wpAny_letTemporaryGo (wpAny_pure (Post.trans (e₁.trans e₂) (Post.here' I₂ r₂))))
theorem at_obj {N:Str} {C Na:Addr} {mN:Str→Option Value} (K:ClassAt c N C Na mN) {es:List (Str × D)} {x:Str} {d:D} (h:es.lookup x = some d) (hx:mN x = none) (hB:typeLookup (.type "object") x = pure none:=by rw [typeLookup_type,builtinLookup_eq_fast];kernel_rfl) (hd:isRaw d = false:=by rfl) :
    AttrG c (.obj N es) x d:=by
  intro A s Z v I r
  replace r:=r.iO;induction r with | mk z z2 hg ho re=>?_
  refine bc fun g=>?_;cases some_eq hg (K.g)
  obtain ⟨u,hu,ru⟩:=repE_lookup re h
  obtain ⟨hh,g,dd',t,os⟩:=s
  obtain ⟨nm,q,bs,sn,sub,col,dd,k0,k1,k2,k3,k5,hC⟩:=K.cls.obj
  refine g ?_;exact load_attrFk (I.base _ _ hC) (K.cls.ns.keeps I.base) K.ga hx hB ho.inst hu (handed_rep ru hd) (Post.here I ru)
theorem at_cls {C:Addr} {x:Str} {v:Value} {d:D} (h:ClsVal c C x v) (hr:∀ h Z,Rep c h Z v d):AttrG c (.raw (.ref C)) x d:=by
  intro A s Z u I r
  replace r:=r.iR;induction r
  exact h A s _ I.base (Post.here I (hr _ _))
theorem ev_globR (B:Base c) {i:Nat} {x:Str} {v:Value} {pos:Pos} (hx:ixOf sc.names x = some (i,.globalImplicit)) (hg:Glob c x v) (hp:plainName x = true:=by decide +kernel):EvE c n sc ρ (.Name x pos) (.raw v):=by
  intro A s Z W env R I F
  simp only [plainName,Bool.and_eq_true,Bool.not_eq_true'] at hp
  exact wpAny_Name (load_glob B hg I F (ixOf_at hx) (Post.here' I .raw)) hp.1
noncomputable def MethG (c:Cx) (d:D) (x:Str) (f:Value):Prop:=∀ A s Z v (pl:Sem Bool) (Q:Value × List Value→Shared→Prop),Inv c s Z→Rep c s.heap Z v d→Q (f,[v]) s→wpAny (model c.prog c.w) A (getMethod v x pl) Q noE s
theorem mg_obj {N:Str} {C Na:Addr} {mN:Str→Option Value} (K:ClassAt c N C Na mN) {es:List (Str × D)} {x:Str} {f:FRec} {a:Addr} (M:MethAt c mN f a) (hx:f.name = x) (h:es.lookup x = none) (hB:typeLookup (.type "object") x = pure none:=by rw [typeLookup_type,builtinLookup_eq_fast];kernel_rfl) :
    MethG c (.obj N es) x (.ref a):=by
  intro A s Z v pl Q I r hq
  replace r:=r.iO;induction r with | mk z z2 hg ho re=>?_
  refine bc fun g=>?_;cases some_eq hg (K.g)
  obtain ⟨o,qual,pm,code,doc,h1,h2,h3,h4,h5⟩:=M
  obtain ⟨hh,g,dd',t,os⟩:=s
  obtain ⟨nm,q,bs,sn,sub,col,dd,k0,k1,k2,k3,k5,hC⟩:=K.cls.obj
  refine g ?_;exact method_ofFk (I.base _ _ hC) (K.cls.ns.keeps I.base) K.ga K.gt (hx▸h1) (I.base _ _ h2) h3 hB ho.inst (repE_lookup_none re h) hq
theorem MethAt.callee {mN:Str→Option Value} {f:FRec} {a:Addr} (h:MethAt c mN f a):Callee c (.ref a):=(by refine bc fun g=>?_;obtain ⟨_,_,_,_,_,_,h2,_,h3,_⟩:=h;exact g (callee_fun h2 h3))
theorem ev_methO {o:Expr} {name:Str} {ap pos:Pos} {es:List Expr} {d₀ d:D} {ds:List D} {f:Value} (ho:EvE c n sc ρ o d₀) (hm:MethG c d₀ name f) (hf:Callee c f) (ha:EvEs c n sc ρ es ds) (h:CallV c n f (d₀ :: ds) d)
    (hfew:∀ env,((backTo pos (starEach es env)).all (fun x=>!x.1) && (backToKw pos (keywordEach [] env)).all (fun x=>x.1.isSome) && decide (es.length + ([]:List Keyword).length + (if ([]:List Keyword).isEmpty then 0 else 1) < 30)) = true:=by intro _;rfl)
    (hb:PlainB o:=by intro _ _;rfl) (hl:(ap.endLine == pos.line) = true:=by rfl):EvE c n sc ρ (.Call (.Attribute o name ap) es [] pos) d:=by
  intro A s Z W env R I F
  simp only [arm_eval_Call,hb name env]
  refine Gives.then (ho A s Z W env R I F) fun v s₁ Z₁ I₁ e₁ r₁=>?_
  refine wpAny_bind (wpAny_standAt ?_)
  have hform:methodCallForm (es.length + ([]:List Keyword).length) (backTo pos (starEach es env)) (backToKw pos (keywordEach [] env)) = true:=hfew env
  delta methodCall
  refine hform▸?_
  refine wpAny_bind (wpAny_holding (hm A s₁ Z₁ v _ _ I₁ r₁ ?_))
  refine wpAny_bind (wpAny_of_eq (by delta methodCallPos;simp [hl]:methodCallPos true o env ap pos = pure pos) ?_)
  refine callWith_of (P:=fun h=>∀ b o,c.h₀.get? b = some o→h.get? b = some o) (by rw [backTo_plain ha.1];rfl) (fun h hk=>hf h hk) (evalArgs_all ha.1 (wpAny_mono (ha.2 A s₁ Z₁ W env pos R I₁ (F.grow e₁)) (?_) fun _ _ x=>x));rintro vs s₂ ⟨Z₂,I₂,e₂,r₂⟩;refine ⟨I₂.base,?_⟩
  exact Gives.from (h A s₂ Z₂ (v :: vs) R I₂ (.cons (e₂.rep no_z r₁) r₂)) (e₁.trans e₂)
theorem MethAt.ok {mN:Str→Option Value} {f:FRec} {a:Addr} {ds:List D} {ρ₀:List (Option Sl)} (h:MethAt c mN f a) (hb:∀ q pm code doc (vs:List Value),vs.length = ds.length→bindArgs (methDef f.name q f.params f.body f.scope pm code doc) ⟨vs,[]⟩ = pure ((f.params.args.map (·.arg)).zip vs))
    (hs:Sets f.scope (f.params.args.map (·.arg)) (ds.map .val) (List.replicate f.scope.names.length none) ρ₀) (co:f.scope.isCoroutine = false:=by rfl) (gen:f.scope.isGenerator = false:=by rfl) (kind:f.scope.kind = .function:=by rfl)
    (nodup:(f.scope.names.map (·.1)).Nodup:=by decide +kernel) (nofree:∀ x ∈ f.scope.names,x.2 ≠ .free:=by decide +kernel):FunOk c a f.scope f.body ds ρ₀:=
  (by refine bc fun g=>?_;obtain ⟨o,q,pm,code,doc,_,h2,_,h3,h4⟩:=h;exact g (⟨⟨o,_,_,h2,h3,rfl,rfl,rfl,rfl,rfl,h4,hb q pm code doc,hs⟩,co,gen,kind,nodup,nofree⟩))
theorem MethAt.ok1 {mN:Str→Option Value} {f:FRec} {a:Addr} {d₁:D} {ρ₀:List (Option Sl)} (h:MethAt c mN f a) (hs:Sets f.scope (f.params.args.map (·.arg)) [.val d₁] (List.replicate f.scope.names.length none) ρ₀) (hb:∀ q pm code doc v,bindArgs (methDef f.name q f.params f.body f.scope pm code doc) ⟨[v],[]⟩ = pure ((f.params.args.map (·.arg)).zip [v]):=by intros;rfl)
    (co:f.scope.isCoroutine = false:=by rfl) (gen:f.scope.isGenerator = false:=by rfl) (kind:f.scope.kind = .function:=by rfl) (nodup:(f.scope.names.map (·.1)).Nodup:=by decide +kernel) (nofree:∀ x ∈ f.scope.names,x.2 ≠ .free:=by decide +kernel):FunOk c a f.scope f.body [d₁] ρ₀:=
  h.ok (fun q pm code doc vs hv=>len1 (Q:=fun vs=>bindArgs (methDef f.name q f.params f.body f.scope pm code doc) ⟨vs,[]⟩ = pure ((f.params.args.map (·.arg)).zip vs)) (hb q pm code doc) vs hv) hs co gen kind nodup nofree
theorem MethAt.ok2 {mN:Str→Option Value} {f:FRec} {a:Addr} {d₁ d₂:D} {ρ₀:List (Option Sl)} (h:MethAt c mN f a) (hs:Sets f.scope (f.params.args.map (·.arg)) [.val d₁,.val d₂] (List.replicate f.scope.names.length none) ρ₀) (hb:∀ q pm code doc v w,bindArgs (methDef f.name q f.params f.body f.scope pm code doc) ⟨[v,w],[]⟩ = pure ((f.params.args.map (·.arg)).zip [v,w]):=by intros;rfl)
    (co:f.scope.isCoroutine = false:=by rfl) (gen:f.scope.isGenerator = false:=by rfl) (kind:f.scope.kind = .function:=by rfl) (nodup:(f.scope.names.map (·.1)).Nodup:=by decide +kernel) (nofree:∀ x ∈ f.scope.names,x.2 ≠ .free:=by decide +kernel):FunOk c a f.scope f.body [d₁,d₂] ρ₀:=
  h.ok (fun q pm code doc vs hv=>len2 (Q:=fun vs=>bindArgs (methDef f.name q f.params f.body f.scope pm code doc) ⟨vs,[]⟩ = pure ((f.params.args.map (·.arg)).zip vs)) (hb q pm code doc) vs hv) hs co gen kind nodup nofree
theorem MethAt.ok3 {mN:Str→Option Value} {f:FRec} {a:Addr} {d₁ d₂ d₃:D} {ρ₀:List (Option Sl)} (h:MethAt c mN f a) (hs:Sets f.scope (f.params.args.map (·.arg)) [.val d₁,.val d₂,.val d₃] (List.replicate f.scope.names.length none) ρ₀) (hb:∀ q pm code doc u v w,bindArgs (methDef f.name q f.params f.body f.scope pm code doc) ⟨[u,v,w],[]⟩ = pure ((f.params.args.map (·.arg)).zip [u,v,w]):=by intros;rfl)
    (co:f.scope.isCoroutine = false:=by rfl) (gen:f.scope.isGenerator = false:=by rfl) (kind:f.scope.kind = .function:=by rfl) (nodup:(f.scope.names.map (·.1)).Nodup:=by decide +kernel) (nofree:∀ x ∈ f.scope.names,x.2 ≠ .free:=by decide +kernel):FunOk c a f.scope f.body [d₁,d₂,d₃] ρ₀:=
  h.ok (fun q pm code doc vs hv=>len3 (Q:=fun vs=>bindArgs (methDef f.name q f.params f.body f.scope pm code doc) ⟨vs,[]⟩ = pure ((f.params.args.map (·.arg)).zip vs)) (hb q pm code doc) vs hv) hs co gen kind nodup nofree
end
end Mine
end
section
open PySem PySem.W PyProof.Rows
namespace Mine
noncomputable def flat0:D→Prop
  | .none | .bool _ | .int _ | .str _ | .raw _=>True
  | _=>False
noncomputable def flatD:D→Prop
  | .list xs | .tuple xs=>∀ x ∈ xs,flat0 x
  | .dict _ | .obj _ _ | .loc _ _=>False
  | _=>True
noncomputable def flatSl:Option Sl→Prop
  | some (.val d)=>flatD d
  | some (.own (.list xs))=>∀ x ∈ xs,flat0 x
  | some (.own _)=>False
  | none=>True
section
variable {c:Cx} {n:Nat} {sc:Scope}
theorem rep_flat0 {h:Heap} {Z Z':Addr→Prop} {v:Value} {d:D} (r:Rep c h Z v d) (hd:flat0 d):Rep c h Z' v d:=by
  cases r<;>first | exact hd.elim | constructor
theorem reps_flat0 {h:Heap} {Z Z':Addr→Prop} {vs:List Value} {ds:List D} (r:Reps c h Z vs ds):(∀ d ∈ ds,flat0 d)→Reps c h Z' vs ds:=
  r.ind (P:=fun vs ds=>(∀ d ∈ ds,flat0 d)→Reps c h Z' vs ds) (fun _=>.nil) fun r _ ih hd=>.cons (rep_flat0 r (hd _ List.mem_cons_self)) (ih fun d h=>hd d (List.mem_cons_of_mem _ h))
theorem rep_flat {h:Heap} {Z Z':Addr→Prop} {v:Value} {d:D} (r:Rep c h Z v d) (hd:flatD d) (hz:∀ a o,Z a→h.get? a = some o→(o.cls = .type "list"∨o.cls = .type "tuple")→Z' a):Rep c h Z' v d:=by
  cases r with
  | raw=>exact .raw
  | none=>exact .none
  | bool=>exact .bool
  | int=>exact .int
  | str=>exact .str
  | list z l rr=>obtain ⟨o,m,e,e1,e2⟩:=id l;exact .list (hz _ _ z e (.inl e1)) l (reps_flat0 rr hd)
  | tuple z l rr=>obtain ⟨o,e,e1,e2⟩:=id l;exact .tuple (hz _ _ z e (.inr e1)) l (reps_flat0 rr hd)
  | dict=>exact hd.elim
  | obj=>exact hd.elim
  | loc=>exact hd.elim
theorem slRep_flat {h:Heap} {Z Z' W:Addr→Prop} {v:Value} {sl:Sl} (r:SlRep c h Z W v sl) (hd:flatSl (some sl)) (hz:∀ a o,Z a→h.get? a = some o→(o.cls = .type "list"∨o.cls = .type "tuple")→Z' a):SlRep c h Z' W v sl:=by
  induction sl with
  | val d=>exact rep_flat r hd hz
  | own d=>
    obtain ⟨a,e,w,ho⟩:=r
    refine ⟨a,e,w,?_⟩
    cases d<;>first | exact hd.elim | skip
    obtain ⟨vs,l,rr⟩:=ho
    exact ⟨vs,l,reps_flat0 rr hd⟩
theorem Fr.zone {ρ:List (Option Sl)} {env:Env} {s:Shared} {Z Z' W:Addr→Prop} (F:Fr c sc env ρ s Z W) (hz:∀ a,W a→¬ Z' a)
    (hs:∀ (i:Nat) (x:Str) (k:NameKind) (sl:Sl) (v:Value),sc.names[i]? = some (x,k)→ρ[i]? = some (some sl)→SlRep c s.heap Z W v sl→SlRep c s.heap Z' W v sl):Fr c sc env ρ s Z' W:=
  ⟨F.esc,F.kind,F.glob,F.bu,F.nodup,F.ns,F.wl,hz,F.wa,F.cell,F.apart,F.lc,F.cw,fun i x k sl h1 h2=>(by refine bc fun g=>?_;obtain ⟨v,hv,r⟩:=F.slot i x k sl h1 h2;exact g (⟨v,hv,hs i x k sl v h1 h2 r⟩)),F.ownA,F.ownL⟩
theorem Fr.put {ρ:List (Option Sl)} {env:Env} {s:Shared} {Z W:Addr→Prop} {i:Nat} {d e:D} (F:Fr c sc env (ρ.set i (some (.val d))) s Z W) {x:Str} {k:NameKind} (hx:sc.names[i]? = some (x,k)) {v:Value} (hv:HasVal env s.heap x k v) (r:Rep c s.heap Z v e) :
    Fr c sc env (ρ.set i (some (.val e))) s Z W:=by
  have at':∀ (j:Nat) (sl:Sl),(ρ.set i (some (.val e)))[j]? = some (some sl)→(j = i∧sl = .val e)∨(j ≠ i∧(ρ.set i (some (.val d)))[j]? = some (some sl)):=fun j sl h=>by
    rw [List.getElem?_set] at h ⊢
    by_cases q:i = j
    · subst q
      rw [if_pos rfl] at h
      split at h
      · cases h;exact .inl ⟨rfl,rfl⟩
      · cases h
    · rw [if_neg q] at h;exact .inr ⟨Ne.symm q,by rw [if_neg q];exact h⟩
  have own':∀ (j:Nat) (t:D),(ρ.set i (some (.val e)))[j]? = some (some (.own t))→(ρ.set i (some (.val d)))[j]? = some (some (.own t)):=fun j t h=>by
    rcases at' j _ h with ⟨_,h⟩ | ⟨_,h⟩
    · cases h
    · exact h
  refine ⟨F.esc,F.kind,F.glob,F.bu,F.nodup,F.ns,F.wl,F.zw,F.wa,F.cell,F.apart,F.lc,F.cw,fun j y l sl h1 h2=>?_,fun j j' y y' l l' t t' a b h1 h2 h3 h4 h5=>F.ownA j j' y y' l l' t t' a b h1 h2 h3 (own' _ _ h4) (own' _ _ h5),fun j y l t a h1 h2=>F.ownL j y l t a h1 (own' _ _ h2)⟩
  rcases at' j sl h2 with ⟨rfl,rfl⟩ | ⟨hj,h⟩
  · (cases some_eq hx h1);exact ⟨v,hv,r⟩
  · exact F.slot j y l sl h1 h
structure Ob (c:Cx) (s:Shared) (Z W:Addr→Prop) (C x dx:Addr) (es:List (Str × D)):Prop where
  zx:¬ Z x
  zd:¬ Z dx
  wx:¬ W x
  wd:¬ W dx
  obj:∃ kvs,isObj s.heap C x dx (fun k=>kvs.lookup k)∧RepE c s.heap Z kvs es
structure IStp (c:Cx) (sc:Scope) (env:Env) (ρ':List (Option Sl)) (C x dx:Addr) (es':List (Str × D)) (s:Shared) (Z W:Addr→Prop) (s':Shared) (Z' W':Addr→Prop):Prop where
  inv:Inv c s' Z'
  ob:Ob c s' Z' W' C x dx es'
  fr:Fr c sc env ρ' s' Z' W'
  evo:Evo (fun a=>W a∨a = x∨a = dx) s Z s' Z'
  wnew:∀ a,W' a→W a∨s.heap.get? a = none
  wl:∀ a,W a→∃ o,s'.heap.get? a = some o
theorem Ob.live {s:Shared} {Z W:Addr→Prop} {C x dx:Addr} {es:List (Str × D)} (o:Ob c s Z W C x dx es):(∃ o,s.heap.get? x = some o)∧∃ o,s.heap.get? dx = some o:=by
  refine bc fun g=>?_;obtain ⟨kvs,⟨⟨o,e,_⟩,_,⟨od,_,_,e1,_⟩,_⟩,_⟩:=o.obj
  refine g ?_;exact ⟨⟨o,e⟩,⟨od,e1⟩⟩
theorem IStp.trans {env:Env} {ρ₁ ρ₂:List (Option Sl)} {C x dx:Addr} {es₁ es₂:List (Str × D)} {s s₁ s₂:Shared} {Z W Z₁ W₁ Z₂ W₂:Addr→Prop} (a:IStp c sc env ρ₁ C x dx es₁ s Z W s₁ Z₁ W₁) (b:IStp c sc env ρ₂ C x dx es₂ s₁ Z₁ W₁ s₂ Z₂ W₂):IStp c sc env ρ₂ C x dx es₂ s Z W s₂ Z₂ W₂:=by
  have gone:∀ y,s₁.heap.get? y = none→s.heap.get? y = none:=fun y h=>by
    refine a.evo.gone (fun q=>?_) h
    rcases q with q | rfl | rfl
    · obtain ⟨o,e⟩:=a.wl y q;(exact none_some h e)
    · obtain ⟨o,e⟩:=a.ob.live.1;(exact none_some h e)
    · obtain ⟨o,e⟩:=a.ob.live.2;(exact none_some h e)
  refine ⟨b.inv,b.ob,b.fr,a.evo.trans' b.evo fun y h=>?_,fun y h=>?_,fun y h=>?_⟩
  · rcases h with h | h
    · rcases a.wnew y h with h | h
      · exact .inl (.inl h)
      · exact .inr h
    · exact .inl (.inr h)
  · rcases b.wnew y h with h | h
    · exact a.wnew y h
    · exact .inr (gone y h)
  · obtain ⟨o,e⟩:=a.wl y h
    by_cases q:W₁ y
    · exact b.wl y q
    · by_cases q2:y = x∨y = dx
      · rcases q2 with rfl | rfl
        · exact b.ob.live.1
        · exact b.ob.live.2
      · exact ⟨o,b.evo.keep y o (fun z=>z.elim q q2) e⟩
noncomputable def ExI (c:Cx) (n:Nat) (sc:Scope) (N:Str) (C:Addr) (i:Nat) (es:List (Str × D)) (ρ:List (Option Sl)) (sts:List Stmt) (es':List (Str × D)) (ρ':List (Option Sl)):Prop:=
  ∀ A s Z W env x dx,Room A n→Inv c s Z→Ob c s Z W C x dx es→Fr c sc env (ρ.set i (some (.val (.raw (.ref x))))) s Z W →
    wpAny (model c.prog c.w) A (execs sts env) (fun f s'=>f = .next∧∃ Z' W',IStp c sc env (ρ'.set i (some (.val (.raw (.ref x))))) C x dx es' s Z W s' Z' W') noE s
variable {N:Str} {C Na:Addr} {mN:Str→Option Value} {i:Nat} {es es':List (Str × D)} {ρ ρ':List (Option Sl)}
theorem exI_nil:ExI c n sc N C i es ρ [] es ρ:=fun A s Z W env x dx R I O F=>wpAny_execs_nil ⟨rfl,Z,W,I,O,F,Evo.refl,fun _ h=>.inl h,fun a h=>F.wa a h⟩
theorem exI_mid (K:ClassAt c N C Na mN) {st:Stmt} {sts:List Stmt} {ρ₁:List (Option Sl)} {self:Str} {k:NameKind} (hi:sc.names[i]? = some (self,k)) (hl:i < ρ.length) (hl1:i < ρ₁.length)
    (h:∀ x,∃ ρ₂,Ex c n sc st (ρ.set i (some (.val (.loc x (.obj N es))))) .next ρ₂∧Lss (ρ₁.set i (some (.val (.loc x (.obj N es))))) ρ₂) (hf:∀ sl ∈ ρ₁,flatSl sl)
    (hr:ExI c n sc N C i es ρ₁ sts es' ρ'):ExI c n sc N C i es ρ (st :: sts) es' ρ':=by
  intro A s Z W env x dx R I O F
  obtain ⟨kvs,ho,hre⟩:=O.obj
  obtain ⟨ρ₂,hx,hless⟩:=h x
  have hZ:∀ a,W a→¬ (Z a∨a = x∨a = dx):=fun a w z=>by
    rcases z with z | rfl | rfl
    · exact F.zw a w z
    · exact O.wx w
    · exact O.wd w
  obtain ⟨v₀,hv₀,r₀⟩:=F.slot i self k (.val (.raw (.ref x))) hi (by rw [List.getElem?_set,if_pos rfl,if_pos hl])
  have hv₀':v₀ = .ref x:=by cases r₀;rfl
  subst hv₀'
  have I₂:Inv c s (fun a=>Z a∨a = x∨a = dx):=⟨I.base,fun a o e=>.inl (I.zb a o e),fun a h=>by
    rcases h with h | rfl | rfl
    · exact I.za a h
    · exact O.live.1
    · exact O.live.2,I.os,I.bare⟩
  refine wpAny_execs_cons (wpAny_mono (hx A s _ W env R I₂ ((F.zone hZ fun _ _ _ _ _ _ _ r=>r.mono (fun _ _ e=>e) fun _ h=>.inl h).put hi hv₀ (e:=.loc x (.obj N es)) (.loc (.obj (.inr (.inl rfl)) (.inr (.inr rfl)) K.g ho (repE_mono (fun _ _ _ e=>e) (fun _ h=>.inl h) hre))))) (?_) fun _ _ x=>x);rintro f s₁ ⟨Z₁,W₁,S,r⟩;refine ?_
  induction f<;>first | exact r.elim | skip
  have S':=S.less hless
  have zin:∀ a,Z a→Z₁ a∧a ≠ x∧a ≠ dx:=fun a z=>⟨S.evo.zmono a (.inl z),fun q=>O.zx (q▸z),fun q=>O.zd (q▸z)⟩
  have ho₁:=ho.at (fun o e=>S.evo.keep x o O.wx e) (fun o e=>S.evo.keep dx o O.wd e)
  obtain ⟨v₁,hv₁,r₁⟩:=S'.fr.slot i self k (.val (.loc x (.obj N es))) hi (by rw [List.getElem?_set,if_pos rfl,if_pos hl1])
  have hv₁':v₁ = .ref x:=by (cases r₁);rfl
  subst hv₁'
  have F₃:=S'.fr.put hi hv₁ (e:=.raw (.ref x)) .raw
  have F₄:Fr c sc env (ρ₁.set i (some (.val (.raw (.ref x))))) s₁ (fun a=>Z₁ a∧a ≠ x∧a ≠ dx) W₁:=F₃.zone (fun a w z=>F₃.zw a w z.1) fun j y l sl v h1 h2 r=>by
    have hfl:flatSl (some sl):=by
      rw [List.getElem?_set] at h2
      by_cases q:i = j
      · rw [if_pos q,if_pos hl1] at h2
        cases h2;exact trivial
      · rw [if_neg q] at h2
        exact hf _ (List.mem_of_getElem? h2)
    refine slRep_flat r hfl fun a o z e hc=>⟨z,?_,?_⟩
    · rintro rfl
      obtain ⟨⟨o',e',ec,_⟩,_⟩:=ho₁
      (induction some_eq e e')
      rw [ec] at hc
      rcases hc with hc | hc<;>cases hc
    · rintro rfl
      obtain ⟨_,_,_,⟨o',e',ec,_⟩⟩:=ho₁
      (induction some_eq e e')
      rw [ec] at hc
      rcases hc with hc | hc
      · injection hc with hc;exact absurd hc (by decide)
      · injection hc with hc;exact absurd hc (by decide)
  have S₁:IStp c sc env (ρ₁.set i (some (.val (.raw (.ref x))))) C x dx es s Z W s₁ (fun a=>Z₁ a∧a ≠ x∧a ≠ dx) W₁:=by
    refine ⟨⟨S.inv.base,fun a o e=>zin a (I.zb a o e),fun a h=>S.inv.za a h.1,S.inv.os,S.inv.bare⟩,⟨fun q=>q.2.1 rfl,fun q=>q.2.2 rfl,fun q=>S.fr.zw x q (S.evo.zmono x (.inr (.inl rfl))),fun q=>S.fr.zw dx q (S.evo.zmono dx (.inr (.inr rfl))),kvs,ho₁,?_⟩,F₄,⟨fun b o hb e=>S.evo.keep b o (fun q=>hb (.inl q)) e,S.evo.gens,zin,fun a h=>?_⟩,S.wnew,S.wl⟩
    · exact repE_mono (fun a o z e=>S.evo.keep a o (fun q=>F.zw a q z) e) zin hre
    · rcases S.evo.znew a h.1 with (q | q | q) | q | q
      · exact .inl q
      · exact absurd q h.2.1
      · exact absurd q h.2.2
      · exact .inr (.inl (.inl q))
      · exact .inr (.inr q)
  refine wpAny_mono (hr A s₁ _ W₁ env x dx R S₁.inv S₁.ob S₁.fr) (?_) fun _ _ x=>x;rintro f s₂ ⟨hf,Z₂,W₂,S₂⟩;refine ?_
  exact ⟨hf,Z₂,W₂,S₁.trans S₂⟩
theorem within_lookup:∀ (kvs:List (Str × Value)),Within (fun k=>kvs.lookup k) (kvs.map (·.1))
  | [],y,h=>absurd rfl h
  | (k,v) :: r,y,h=>by
    have h':((k,v) :: r).lookup y ≠ none:=h
    rw [List.lookup_cons] at h'
    induction q:y == k with
    | true=>rw [beq_iff_eq.mp q];exact List.mem_cons_self
    | false=>rw [q] at h';exact List.mem_cons_of_mem _ (within_lookup r y h')
theorem exI_store (K:ClassAt c N C Na mN) {self attr:Str} {p ap pos:Pos} {value:Expr} {d:D} {sts:List Stmt} (hi:ixOf sc.names self = some (i,.local)) (hl:i < ρ.length) (hv:∀ x,EvE c n sc (ρ.set i (some (.val (.raw (.ref x))))) value d) (hx:mN attr = none)
    (hsz:es.length≤15) (hr:ExI c n sc N C i ((attr,d) :: es) ρ sts es' ρ') (hB:typeLookup (.type "object") attr = pure none:=by rw [typeLookup_type,builtinLookup_eq_fast];kernel_rfl) (hp:plainName self = true:=by decide +kernel)
    (hs:∀ env,swapsWith value (some (.Attribute (.Name self p) attr ap)) pos.line env = pure false:=by intro _;rfl):ExI c n sc N C i es ρ (.Assign [.Attribute (.Name self p) attr ap] value pos :: sts) es' ρ':=by
  intro A s Z W env x dx R I O F
  refine wpAny_execs_cons (plainObj_wpAny_Assign_Attribute (Gives.to (hv x A s Z W env R I F) fun v s₁ Z₁ I₁ e₁ r₁=>?_) (hs env))
  have F₁:=F.grow e₁
  refine Gives.to ((ev_nm hi (by rw [List.getElem?_set,if_pos rfl,if_pos hl]) hp) A s₁ Z₁ W env R I₁ F₁) fun u s₂ Z₂ I₂ e₂ r₂=>?_
  have hu:u = .ref x:=by (((replace r₂:=r₂.iR;induction r₂)));rfl
  subst hu
  have e₁₂:=e₁.trans e₂
  obtain ⟨kvs,ho,hre⟩:=O.obj
  have ho₂:=ho.at (fun o e=>e₁₂.keep x o id e) (fun o e=>e₁₂.keep dx o id e)
  have nz:∀ a,(∃ o,s.heap.get? a = some o)→¬ Z a→¬ Z₂ a:=fun a hl hz h=>by
    rcases e₁₂.znew a h with q | q | q
    · exact hz q
    · exact q.elim
    · obtain ⟨o,e⟩:=hl;rw [e] at q;cases q
  have zx:=nz x O.live.1 O.zx
  have zd:=nz dx O.live.2 O.zd
  have re₂:=e₁₂.repE no_z hre
  obtain ⟨hh,g,dr,t,os⟩:=s₂
  obtain ⟨nm,q,bs,sn,sub,col,dd,k0,k1,k2,k3,k5,hC⟩:=K.cls.obj
  obtain ⟨⟨ox,hox,hcx,hdx,hncx⟩,hne,hns,hex⟩:=id ho₂
  refine store_attrFk PySem.F.store_object (I₂.base _ _ hC) (K.cls.ns.keeps I₂.base) K.sa hx hB (fun q=>zx (q▸I₂.zb _ _ hC)) ho₂.inst (fun h' tk' I' hk hsame=>?_) (within_lookup kvs) (by rw [List.length_map,re₂.len];exact Nat.le_trans hsz (by decide))
  have kk:∀ b o,b ≠ x→b ≠ dx→hh.get? b = some o→h'.get? b = some o:=fun b o h1 h2 e=>hk b o h1 (fun o₀ d' e₀ ed=>by
    obtain rfl:=Option.some.inj (hox.symm.trans e₀);obtain rfl:=Option.some.inj (hdx.symm.trans ed);exact h2) e
  have kX:∀ b o,¬ (b = x∨b = dx)→hh.get? b = some o→h'.get? b = some o:=fun b o h e=>kk b o (fun q=>h (.inl q)) (fun q=>h (.inr q)) e
  have obj':isObj h' C x dx (fun k=>((attr,v) :: kvs).lookup k):=by
    refine bc fun g=>?_;obtain ⟨o₁,e₁,c₁,dt₁,_,dk₁⟩:=hsame ox hox
    obtain ⟨o',e',_,_,hd'⟩:=I'
    obtain rfl:=Option.some.inj (e₁.symm.trans e')
    rcases hd' with ⟨hn0,_⟩ | ⟨d',hd',_,hns',hex'⟩
    · refine g ?_;(exact none_some hn0 (dk₁ dx hdx))
    · obtain rfl:=Option.some.inj ((dk₁ dx hdx).symm.trans hd')
      refine g ?_;refine ⟨⟨o₁,e₁,c₁.trans hcx,dk₁ _ hdx,fun c=>dt₁▸hncx c⟩,hne,?_,hex'⟩
      have:(fun k=>((attr,v) :: kvs).lookup k) = fun y=>if y = attr then some v else kvs.lookup y:=by
        funext y
        rw [List.lookup_cons]
        by_cases q:y = attr
        · cases q;simp
        · rw [if_neg q,beq_eq_false_iff_ne.mpr q]
      rw [this];exact hns'
  have hzX:∀ a,(a = x∨a = dx)→¬ Z₂ a:=fun a h=>by
    refine bc fun g=>?_;rcases h with rfl | rfl
    · refine g ?_;exact zx
    · refine g ?_;exact zd
  have hwX:∀ a,(a = x∨a = dx)→¬ W a:=fun a h=>by
    rcases h with rfl | rfl
    · exact O.wx
    · exact O.wd
  have e₃:Evo (fun a=>a = x∨a = dx) ⟨hh,g,dr,t,os⟩ Z₂ ⟨h',g,dr,tk',os⟩ Z₂:=evo_w (tk:=tk') kX
  have F₃:=(F₁.grow e₂).apartX e₃ hwX hzX
  have S₁:IStp c sc env (ρ.set i (some (.val (.raw (.ref x))))) C x dx ((attr,d) :: es) s Z W ⟨h',g,dr,tk',os⟩ Z₂ W:=by
    refine ⟨(inv_w (W:=fun a=>a = x∨a = dx) (tk:=tk') I₂ hzX kX),⟨zx,zd,O.wx,O.wd,(attr,v) :: kvs,obj',.cons (e₃.rep hzX (e₂.rep no_z r₁)) (e₃.repE hzX re₂)⟩,F₃,?_,fun a h=>.inl h,fun a h=>F₃.wa a h⟩
    exact (e₁₂.wider fun _ h=>h.elim).trans (e₃.wider fun _ h=>.inr h)
  refine wpAny_mono (hr A _ _ W env x dx R S₁.inv S₁.ob S₁.fr) (?_) fun _ _ x=>x;rintro f s₂ ⟨hf,Z₂,W₂,S₂⟩;refine ?_
  exact ⟨hf,Z₂,W₂,S₁.trans S₂⟩
theorem Room.make {A:Around} {vs:List Value} (r:Room A (n + 1)):Room (A.under (.builtin "type.__call__" ⟨.ref C :: vs,[]⟩)) n:=by
  have h1:=r.d
  have h2:=r.u
  refine ⟨r.h,by rw [depth_under_make];lia,?_⟩
  refine (?_:A.units + (Code.builtin "type.__call__" ⟨.ref C :: vs,[]⟩).cUnits + 64 * n + 128 < cLine)
  have:(Code.builtin "type.__call__" ⟨.ref C :: vs,[]⟩).cUnits≤60:=by
    refine (?_:1 + 3 * 0≤60)
    decide
  lia
theorem c_new (B:Base c) (K:ClassAt c N C Na mN) {f:FRec} {a:Addr} {args:List D} {ρ₀:List (Option Sl)} (M:MethAt c mN f a) (hn:f.name = "__init__")
    (H:∀ x,FunOk c a f.scope f.body (.raw (.ref x) :: args) (ρ₀.set i (some (.val (.raw (.ref x)))))) (hb:ExI c n f.scope N C i [] ρ₀ f.body es' ρ'):CallV c (n + 2) (.ref C) args (.obj N es'):=by
  intro A s Z vs R I r
  obtain ⟨of,qual,pm,code,doc,m1,m2,m3,m4,m5⟩:=M
  obtain ⟨hh,g,dr,t,os⟩:=s
  obtain ⟨nm,q,bs,sn,sub,col,dd,k0,k1,k2,k3,k5,hC⟩:=K.cls.obj
  refine wpAny_call_obj_initFk PySem.F.objNew (I.base _ _ hC) (K.cls.ns.keeps I.base) (hn▸m1) (I.base _ _ m2) m3 fun h' x dx Mk=>?_
  have I₀:Inv c ⟨h',g,dr,t,os⟩ Z:=inv_w (W:=no) (tk:=t) I (fun _ h=>h.elim) fun b o _ e=>Mk.keeps b o e
  have e₀:Evo no ⟨hh,g,dr,t,os⟩ Z ⟨h',g,dr,t,os⟩ Z:=evo_w (tk:=t) fun b o _ e=>Mk.keeps b o e
  have obj₀:isObj h' C x dx (fun k=>([]:List (Str × Value)).lookup k):=by
    refine bc fun g=>?_;obtain ⟨o,e,ec,en,hd⟩:=Mk.inst
    have ed:=Mk.dict o e
    rcases hd with ⟨q,_⟩ | ⟨d',q,hne,hns,hex⟩
    · rw [ed] at q;cases q
    · rw [ed] at q;cases q
      refine g ?_;exact ⟨⟨o,e,ec,ed,en⟩,hne,hns,hex⟩
  have R':Room (A.under (.builtin "type.__call__" ⟨.ref C :: vs,[]⟩)) (n + 1):=R.make
  obtain ⟨ob,fd,xs,h1,h2,h3,h4,h5,h6,h7,h8,h9,h10⟩:=(H x).ex
  have H:=H x
  refine wpAny_call (codeAny_call_function R'.lt (I₀.base _ _ h1) h2 (h4▸H.co) (h4▸H.gen) h3 ((by refine bc fun g=>?_;obtain ⟨cd,oc,ws,t,e1,e2,e3⟩:=h8;exact g (⟨cd,oc,ws,t,e1,I₀.base _ _ e2,e3⟩))) ?_)
  rw [h9 (.ref x :: vs) (by simp [r.length]),h4,h5,h6,h7]
  refine wpAny_pure ?_
  refine noted_no ?_
  simp only [newFunctionEnv,Option.isSome_none,Bool.false_eq_true,if_false]
  refine bnd1 (fun _ q=>wpAny_alloc q) ?_
  refine bnd1 (fun _ q=>wpAny_layCells _ (fun name kind cells=>by induction hkc:kind == NameKind.cell<;>rfl) _ _ _ _ q) ?_
  rw [show ({ (⟨h',g,dr,t,os⟩:Shared) with heap:=h'.push { cls:=.type "frame",data:=.dict #[] } }:Shared).heap.objs.size = h'.objs.size + 1 from Heap.size_push ..]
  obtain ⟨I₁,e₁,W₁,F₁,hW₁⟩:=fun_frame H.kind H.nodup H.nofree I₀ (q:=fd.qualname ++ ".<locals>.") (fn:=some a) (code:=fd.code) rfl
  refine wpAny_bind (binds_go _ (fun _ _ _=>rfl) h10 _ Z W₁ (.ref x :: vs) _ I₁ F₁ (.cons .raw ((e₀.trans e₁).reps no_z r)) fun s₂ I₂ e₂ F₂=>wpAny_pure ⟨B.lim.keeps I₂.base,codeAny_func ?_⟩)
  have wx:¬ W₁ x:=fun w=>by obtain ⟨o,e⟩:=((by refine bc fun g=>?_;obtain ⟨o,e,_⟩:=obj₀.1;exact g (⟨o,e⟩)):∃ o,h'.get? x = some o);have:=hW₁ x w;have:h'.get? x = none:=this;(exact none_some this e)
  have wd:¬ W₁ dx:=fun w=>by obtain ⟨o,e⟩:=((by refine bc fun g=>?_;obtain ⟨o,_,_,e,_⟩:=obj₀.2.2.1;exact g (⟨o,e⟩)):∃ o,h'.get? dx = some o);have:=hW₁ dx w;have:h'.get? dx = none:=this;(exact none_some this e)
  refine noted_no (wpAny_mono (hb _ s₂ Z W₁ _ x dx R'.deeper I₂ (⟨(fun z=>by obtain ⟨o,e⟩:=I.za x z;have e:hh.get? x = some o:=e;(exact none_some Mk.newX e)),(fun z=>by obtain ⟨o,e⟩:=I.za dx z;have e:hh.get? dx = some o:=e;(exact none_some Mk.newD e)),wx,wd,[],obj₀.at (fun o e=>e₂.keep x o wx (e₁.keep x o id e)) (fun o e=>e₂.keep dx o wd (e₁.keep dx o id e)),.nil⟩) F₂) (?_) fun _ _ x=>x);rintro f s' ⟨hf,Z',W',S⟩;refine ?_
  subst hf
  refine ⟨rfl,fun a=>Z' a∨a = x∨a = dx,⟨S.inv.base,fun a o e=>.inl (S.inv.zb a o e),fun a h=>?_,S.inv.os,S.inv.bare⟩,?_,?_⟩
  · refine bc fun g=>?_;rcases h with h | rfl | rfl
    · refine g ?_;exact S.inv.za a h
    · refine g ?_;exact S.ob.live.1
    · refine g ?_;exact S.ob.live.2
  · have hfr:∀ y,(W₁ y∨y = x∨y = dx)→no y∨hh.get? y = none:=fun y hy=>by
      refine bc fun g=>?_;rcases hy with hy | rfl | rfl
      · refine g ?_;exact .inr (e₀.back (hW₁ y hy))
      · refine g ?_;exact .inr Mk.newX
      · refine g ?_;exact .inr Mk.newD
    have eb:Evo no (⟨hh,g,dr,t,os⟩:Shared) Z s' Z':=((e₀.trans e₁).trans' e₂ fun y hy=>.inr (e₀.back (hW₁ y hy))).trans' S.evo hfr
    refine ⟨eb.keep,eb.gens,fun y h=>.inl (eb.zmono y h),fun y h=>?_⟩
    rcases h with h | rfl | rfl
    · exact eb.znew y h
    · exact .inr (.inr Mk.newX)
    · exact .inr (.inr Mk.newD)
  · obtain ⟨kvs,ho,hre⟩:=S.ob.obj
    exact .obj (.inr (.inl rfl)) (.inr (.inr rfl)) K.g ho (repE_mono (fun _ _ _ e=>e) (fun _ h=>.inl h) hre)
end
end Mine
end
section
open PySem PySem.W PyProof.Rows
namespace Mine
noncomputable def P1 (k:Nat):FRec:=fRec (stmtAt PySem.Challenge.pw_xc0033_01 k)
noncomputable def sgn (ch:Nat):D:=.str ⟨#[ch]⟩
noncomputable def escL:Int→Bool→List Nat→List D
  | i,esc,[]=>if esc then [.tuple [.int (i - 1),.str (Str.ofString "\\")]] else []
  | i,esc,ch :: r=>if esc then .tuple [.int i,.str (Str.ofString "\\" ++ ⟨#[ch]⟩)] :: escL (i + 1) false r
    else if (⟨#[ch]⟩:Str) == Str.ofString "\\" then escL (i + 1) true r else .tuple [.int i,sgn ch] :: escL (i + 1) false r
noncomputable def iR (x:Str) (p:Int) (e:Bool) (ch:Option Sl):List (Option Sl):=[some (.val (.str x)),some (.val (.int p)),some (.val (.bool e)),ch,none]
section
variable {c:Cx}
structure IterAt (c:Cx) (n:Nat) (A:Around) (x:Str) (env:Env) (i p:Int) (e:Bool) (ch:Option Sl) (s₀:Shared) (Z₀ W₀:Addr→Prop) (s:Shared) (Z W:Addr→Prop):Prop where
  inv:Inv c s Z
  fr:Fr c (P1 7).scope env (iR x p e ch) s Z W
  since:Evo W₀ s₀ Z₀ s Z
  sub:∀ b,W b→W₀ b∨s₀.heap.get? b = none
  pe:e = true→p = i - 1
noncomputable def loopStmt:Stmt:=(P1 7).body.getD 2 (.Pass default)
noncomputable def lTgt:Expr:=match loopStmt with | .For t _ _ _ _=>t | _=>.Name Str.empty default
noncomputable def lBody:List Stmt:=match loopStmt with | .For _ _ b _ _=>b | _=>[]
theorem iter_loop {n:Nat} {A:Around} {x:Str} {env:Env} {K:Flow→Sem Fin} {H:Value→Sem Fin} {fbody:List Stmt} {pp:Pos} (R:Room A (n + 1))
    (hend:∀ i p e ch s₀ Z₀ W₀ s Z W,IterAt c n A x env i p e ch s₀ Z₀ W₀ s Z W→SegG (model c.prog c.w) A (GEnd c A (escL i e []) s₀ Z₀ W₀) (.func fbody env) (K .next) [] s) :
    ∀ (r:List Nat) (i p:Int) (e:Bool) (ch:Option Sl) s₀ Z₀ W₀ s Z W it fp St,IterAt c n A x env i p e ch s₀ Z₀ W₀ s Z W→(∀ A':Around,A'.handled = none→IterP c A' false lTgt it fp St)→St (enumD i (r.map sgn)) Z s.heap→(∀ b ∈ fp,¬ Z b)→(∀ b ∈ fp,¬ W b)→(∀ b ∈ fp,W₀ b∨s₀.heap.get? b = none) →
      SegG (model c.prog c.w) A (GEnd c A (escL i e r) s₀ Z₀ W₀) (.forLoop lTgt (.ref it) lBody [] env) ((model c.prog c.w).den (.forLoop lTgt (.ref it) lBody [] env)) [forFrame env (.func fbody env) K H id id pp] s:=by
  intro r
  induction r with
  | nil=>
    intro i p e ch s₀ Z₀ W₀ s Z W it fp St hA hip st hfz hfw hfs
    have Rf:Room (A.over (.forLoop lTgt (.ref it) lBody [] env) [forFrame env (.func fbody env) K H id id pp]) n:=room_for R
    refine sg_forTurn (wpAny_mono ((hip _ Rf.h).done s Z st hA.inv hfz) (?_) fun _ _ x=>x);rintro r s₁ ⟨hr,Z₁,S⟩;refine ?_
    subst hr
    have F₁:=hA.fr.apartX S.evo (fun b h=>hfw b h) (fun b h=>hfz b h)
    skip
    refine sg_leaf (.ok .next) ?_
    exact hend i p e ch s₀ Z₀ W₀ s₁ Z₁ W ⟨S.inv,F₁,hA.since.step' S.evo hfs,hA.sub,hA.pe⟩
  | cons c0 r ih=>
    intro i p e ch s₀ Z₀ W₀ s Z W it fp St hA hip st hfz hfw hfs
    have Rf:Room (A.over (.forLoop lTgt (.ref it) lBody [] env) [forFrame env (.func fbody env) K H id id pp]) n:=room_for R
    refine sg_forTurn (wpAny_mono ((hip _ Rf.h).turn _ _ s Z st hA.inv hfz) (?_) fun _ _ x=>x);rintro rr s₁ ⟨v,hr,hgo⟩;refine ?_
    subst hr
    refine wpAny_mono hgo (?_) fun _ _ x=>x;rintro _ s₁ ⟨Z₁,S₁,st₁,rv⟩;refine ?_
    have F₁:=hA.fr.apartX S₁.evo (fun b h=>hfw b h) (fun b h=>hfz b h)
    have live₁:∀ b ∈ fp,∃ o,s₁.heap.get? b = some o:=(hip _ Rf.h).ok.live _ _ _ st₁
    have N₁:=hA.since.step' S₁.evo hfs
    refine wpAny_mono ((asgS_tuple (asgSs_cons (asgS_nm (by rfl)) (asgSs_cons (asgS_nm (by rfl)) asgSs_nil)):AsgS c n (P1 7).scope lTgt (.tuple [.int i,sgn c0]) (iR x p e ch) (iR x i e (some (.val (sgn c0))))) _ s₁ Z₁ W env v Rf S₁.inv F₁ rv) (?_) fun _ _ x=>x;rintro _ s₂ ⟨Z₂,W₂,S₂⟩;refine ?_
    have keep:∀ {ρa ρb:List (Option Sl)} {sa sb:Shared} {Za Zb Wa Wb:Addr→Prop},Fr c (P1 7).scope env ρa sa Za Wa→SStp c (P1 7).scope env ρb sa Za Wa sb Zb Wb→St (enumD (i + 1) (r.map sgn)) Za sa.heap→(∀ b ∈ fp,¬ Za b)→(∀ b ∈ fp,¬ Wa b) →
        St (enumD (i + 1) (r.map sgn)) Zb sb.heap∧(∀ b ∈ fp,¬ Zb b)∧(∀ b ∈ fp,¬ Wb b):=by
      intro ρa ρb sa sb Za Zb Wa Wb Fa S sta hz hw
      have live:=(hip _ Rf.h).ok.live _ _ _ sta
      refine ⟨(hip _ Rf.h).ok.frame _ _ _ _ _ sta (fun b hb o=>S.evo.keep b o (hw b hb)) (fun b o z=>S.evo.keep b o fun q=>Fa.zw b q z) S.evo.zmono,fun b hb q=>?_,fun b hb q=>?_⟩
      · rcases S.evo.znew b q with h | h | h
        · exact hz b hb h
        · exact hw b hb h
        · obtain ⟨o,e⟩:=live b hb;(exact none_some h e)
      · rcases S.wnew b q with h | h
        · exact hw b hb h
        · obtain ⟨o,e⟩:=live b hb;(exact none_some h e)
    obtain ⟨st₂,hz₂,hw₂⟩:=keep F₁ S₂ st₁ S₁.off hfw
    have sub₂:∀ b,W₂ b→W₀ b∨s₀.heap.get? b = none:=fun b hb=>by
      rcases S₂.wnew b hb with h | h
      · exact hA.sub b h
      · by_cases q:W₀ b
        · exact .inl q
        · exact .inr (N₁.gone q h)
    have again':∀ (e':Bool) (ρ':List (Option Sl)) s₀ Z₀ W₀ s Z W,ρ' = iR x i e' (some (.val (sgn c0)))→(e' = true→i = (i + 1) - 1)→Inv c s Z→Fr c (P1 7).scope env ρ' s Z W→Evo W₀ s₀ Z₀ s Z→(∀ b,W b→W₀ b∨s₀.heap.get? b = none)→St (enumD (i + 1) (r.map sgn)) Z s.heap→(∀ b ∈ fp,¬ Z b)→(∀ b ∈ fp,¬ W b)→(∀ b ∈ fp,W₀ b∨s₀.heap.get? b = none) →
        SegG (model c.prog c.w) A (GEnd c A (escL (i + 1) e' r) s₀ Z₀ W₀) (.forLoop lTgt (.ref it) lBody [] env) (.pure (.again (.forLoop lTgt (.ref it) lBody [] env))) [forFrame env (.func fbody env) K H id id pp] s:=by
      intro e' ρ' s₀ Z₀ W₀ s Z W hρ hp I F N hs st hz hw hf
      subst hρ
      exact sg_again rfl (ih (i + 1) i e' _ s₀ Z₀ W₀ s Z W it fp St ⟨I,F,N,hs,hp⟩ hip st hz hw hf)
    refine sg_cons (sg_if ?_)
    refine wpAny_mono ((evT_value (d:=.bool e) (b:=e) (ev_nm (by rfl) (by rfl)) tr_bool (by rfl):EvT c n (P1 7).scope (iR x i e (some (.val (sgn c0)))) _ e) _ s₂ Z₂ W₂ env Rf S₂.inv S₂.fr) (?_) fun _ _ x=>x;rintro b s₃ ⟨hb,Z₃,I₃,e₃⟩;refine ?_
    replace hb:=hb.symm
    induction hb
    have S₃:=SStp.grow I₃ e₃ S₂.fr
    obtain ⟨st₃,hz₃,hw₃⟩:=keep S₂.fr S₃ st₂ hz₂ hw₂
    have N₃:=(N₁.step' S₂.evo hA.sub).step' e₃ fun _ h=>h.elim
    have live₃:∀ b ∈ fp,∃ o,s₃.heap.get? b = some o:=(hip _ Rf.h).ok.live _ _ _ st₃
    have out:∀ {y:D} {v':Value} {sa:Shared} {Za:Addr→Prop} {ρa:List (Option Sl)} (e':End) (ys:List D),Inv c sa Za→Fr c (P1 7).scope env ρa sa Za W₂→Evo W₀ s₀ Z₀ sa Za→Rep c sa.heap Za v' y→St (enumD (i + 1) (r.map sgn)) Za sa.heap→(∀ b ∈ fp,¬ Za b)→e'.quiet = true→e'.result = .yielded v' →
        (∀ s₅ Z₅,Inv c s₅ Z₅→Fr c (P1 7).scope env ρa s₅ Z₅ W₂→St (enumD (i + 1) (r.map sgn)) Z₅ s₅.heap→(∀ b ∈ fp,¬ Z₅ b)→GoOn (model c.prog c.w) A (GEnd c A ys s₅ Z₅ (fun b=>W₂ b∨b ∈ fp)) e'.genState s₅)→GEnd c A (y :: ys) s₀ Z₀ W₀ e' sa:=by
      intro y v' sa Za ρa e' ys Ia Fa Na rv' sta hza hq hr hgo
      refine ⟨hq,v',Za,fun b=>W₂ b∨b ∈ fp,hr,Ia,Na,rv',fun b hb=>?_,fun b hb=>?_,fun b hb=>?_,fun s₅ Z₅ I₅ k1 k2 k3 k4=>?_⟩
      · rcases hb with h | h
        · exact sub₂ b h
        · exact hfs b h
      · rcases hb with h | h
        · exact Fa.zw b h
        · exact hza b h
      · rcases hb with h | h
        · exact Fa.wa b h
        · exact ((hip _ Rf.h).ok.live _ _ _ sta) b h
      · exact hgo s₅ Z₅ I₅ (Fa.rest (fun b o h=>k1 b o (.inl h)) k2 k3 fun b h=>k4 b (.inl h)) ((hip _ Rf.h).ok.frame _ _ _ _ _ sta (fun b hb o=>k1 b o (.inr hb)) k2 k3) fun b hb=>k4 b (.inr hb)
    have hsubF:∀ {Xs:Addr→Prop},(∀ b,W₂ b→(W₂ b∨b ∈ fp)∨Xs b):=fun b h=>.inl (.inl h)
    have hi':(P1 7).scope.isCoroutine = false:=rfl
    have hint:interactive env = false:=by delta interactive;rw [hA.fr.esc,hA.fr.kind];rfl
    have hco:env.scope.isCoroutine = false:=by rw [hA.fr.esc];rfl
    induction e with
    | true=>
      have hy:escL i true (c0 :: r) = .tuple [.int i,.str (Str.ofString "\\" ++ ⟨#[c0]⟩)] :: escL (i + 1) false r:=by rfl
      rw [hy]
      simp only [if_true]
      refine sg_cons (sg_yieldStmt rfl rfl rfl hco hint ?_)
      refine Gives.to (EvE.run (d:=.tuple [.int i,.str (Str.ofString "\\" ++ ⟨#[c0]⟩)]) Rf I₃ S₃.fr (ev_tuple (evs_cons (ev_nm (by rfl) (by rfl)) (evs_cons (ev_bin ev_str (ev_nm (by rfl) (by rfl)) (op_addS (Nat.le_of_ble_eq_true rfl))) evs_nil)))) fun v' s₄ Z₄ I₄ e₄ r₄=>?_
      intro e' hq hr hgo
      have S₄:=SStp.grow I₄ e₄ S₃.fr
      obtain ⟨st₄,hz₄,hw₄⟩:=keep S₃.fr S₄ st₃ hz₃ hw₃
      refine out e' _ I₄ S₄.fr (N₃.step' e₄ fun _ h=>h.elim) r₄ st₄ hz₄ hq hr fun s₅ Z₅ I₅ F₅ st₅ hz₅=>hgo _ s₅ ?_
      refine sg_cons (sg_exec ?_)
      refine wpAny_mono (Ex.run (o:=.next) Rf I₅ F₅ (ex_assign ev_bool (asgS_nm (by rfl)))) ?_ fun _ _ x=>x
      rintro f s₆ ⟨Z₆,W₆,S₆,r₆⟩
      induction f<;>first | exact r₆.elim | skip
      refine bc fun g=>?_;obtain ⟨st₆,hz₆,hw₆⟩:=keep F₅ S₆ st₅ hz₅ hw₃
      refine g ?_;refine sg_nil (again' false _ s₅ Z₅ _ s₆ Z₆ W₆ rfl (fun h=>by cases h) S₆.inv S₆.fr (S₆.evo.wider fun b h=>.inl h) (fun b hb=>?_) st₆ hz₆ hw₆ fun b hb=>.inl (.inr hb))
      rcases S₆.wnew b hb with h | h
      · exact .inl (.inl h)
      · exact .inr h
    | false=>
      simp only [Bool.false_eq_true,if_false]
      refine sg_cons (sg_if ?_)
      refine wpAny_mono (EvT.run (b:=((⟨#[c0]⟩:Str) == Str.ofString "\\")) Rf I₃ S₃.fr (evT_cmp (ev_nm (by rfl) (by rfl)) ev_str (cm_eq 1 rfl))) (?_) fun _ _ x=>x;rintro b s₄ ⟨hb,Z₄,I₄,e₄⟩;refine ?_
      have S₄:=SStp.grow I₄ e₄ S₃.fr
      refine bc fun g=>?_;obtain ⟨st₄,hz₄,hw₄⟩:=keep S₃.fr S₄ st₃ hz₃ hw₃
      have N₄:=N₃.step' e₄ fun _ h=>h.elim
      induction hq:((⟨#[c0]⟩:Str) == Str.ofString "\\") with
      | true=>
        have hy:escL i false (c0 :: r) = escL (i + 1) true r:=by simp [escL,hq]
        refine g ?_;rw [hy]
        rw [hq] at hb
        subst hb
        simp only [if_true]
        refine sg_cons (sg_exec ?_)
        refine wpAny_mono (Ex.run (o:=.next) Rf I₄ S₄.fr (ex_assign ev_bool (asgS_nm (by rfl)))) ?_ fun _ _ x=>x
        rintro f s₆ ⟨Z₆,W₆,S₆,r₆⟩
        induction f<;>first | exact r₆.elim | skip
        refine bc fun g=>?_;obtain ⟨st₆,hz₆,hw₆⟩:=keep S₄.fr S₆ st₄ hz₄ hw₄
        refine g ?_;refine sg_nil (again' true _ s₀ Z₀ W₀ s₆ Z₆ W₆ rfl (fun _=>by lia) S₆.inv S₆.fr (N₄.step' S₆.evo sub₂) (fun b hb=>?_) st₆ hz₆ hw₆ hfs)
        rcases S₆.wnew b hb with h | h
        · exact sub₂ b h
        · by_cases q:W₀ b
          · exact .inl q
          · exact .inr (N₄.gone q h)
      | false=>
        have hy:escL i false (c0 :: r) = .tuple [.int i,sgn c0] :: escL (i + 1) false r:=by simp [escL,hq]
        refine g ?_;rw [hy]
        rw [hq] at hb
        subst hb
        simp only [Bool.false_eq_true,if_false]
        refine sg_cons (sg_yieldStmt rfl rfl rfl hco hint ?_)
        refine Gives.to (EvE.run (d:=.tuple [.int i,sgn c0]) Rf I₄ S₄.fr (ev_tuple (evs_cons (ev_nm (by rfl) (by rfl)) (evs_cons (ev_nm (by rfl) (by rfl)) evs_nil)))) fun v' s₅ Z₅ I₅ e₅ r₅=>?_
        intro e' hq' hr hgo
        have S₅:=SStp.grow I₅ e₅ S₄.fr
        obtain ⟨st₅,hz₅,hw₅⟩:=keep S₄.fr S₅ st₄ hz₄ hw₄
        refine out e' _ I₅ S₅.fr (N₄.step' e₅ fun _ h=>h.elim) r₅ st₅ hz₅ hq' hr fun s₆ Z₆ I₆ F₆ st₆ hz₆=>hgo _ s₆ ?_
        refine sg_nil (sg_nil (again' false _ s₆ Z₆ _ s₆ Z₆ W₂ rfl (fun h=>by cases h) I₆ F₆ Evo.refl (fun b hb=>.inl (.inl hb)) st₆ hz₆ hw₅ fun b hb=>.inl (.inr hb)))
theorem evi_enum_nm (B:Base c) {cm:Bool} {n:Nat} {sc:Scope} {ρ:List (Option Sl)} {i:Nat} {e:Expr} {xs:List D} {elts:List Expr} {k:Nat} {p pos tp:Pos} (hx:ixOf sc.names (Str.ofString "enumerate") = some (i,NameKind.globalImplicit)) (hg:Glob c (Str.ofString "enumerate") (.type "enumerate")) (h:EvN c n sc ρ e xs) :
    EvI c cm n sc ρ (.Call (.Name (Str.ofString "enumerate") p) [e] [] pos) (.Tuple elts k tp) (enumD 0 xs):=evi_enum B i (ixOf_at hx) hg h
theorem EvI.run {cm:Bool} {n:Nat} {sc:Scope} {ρ:List (Option Sl)} {A:Around} {s:Shared} {Z W:Addr→Prop} {env:Env} {e:Expr} (tgt:Expr) {xs:List D} (R:Room A n) (I:Inv c s Z) (F:Fr c sc env ρ s Z W) (h:EvI c cm n sc ρ e tgt xs) :
    wpAny (model c.prog c.w) A (eval e env) (fun x s₁=>wpAny (model c.prog c.w) A (pyIter x) (fun it s₂=>∃ i fp St Z',it = .ref i∧MadeI c cm tgt i fp St xs s Z s₂ Z') noE s₁) noE s:=h.2 A s Z W env R I F
theorem iter_run (B:Base c) (hgE:Glob c (Str.ofString "enumerate") (.type "enumerate")) {n:Nat} {A:Around} {x:Str} {env:Env} {s:Shared} {Z W:Addr→Prop} (R:Room A (n + 2)) (I:Inv c s Z) (F:Fr c (P1 7).scope env [some (.val (.str x)),none,none,none,none] s Z W) :
    SegG (model c.prog c.w) A (GEnd c A (escL 0 false x.cps.toList) s Z W) (.func (P1 7).body env) ((model c.prog c.w).den (.func (P1 7).body env)) [] s:=by
  have Rf:Room (A.over (.func (P1 7).body env) []) (n + 1):=room_func R
  refine sg_func ?_
  refine sg_cons (sg_exec ?_)
  refine wpAny_mono (Ex.run (o:=.next) Rf I F (ex_assign ev_int (asgS_nm (by rfl)))) ?_ fun _ _ x=>x
  rintro f s₁ ⟨Z₁,W₁,S₁,r₁⟩
  induction f<;>first | exact r₁.elim | skip
  refine sg_cons (sg_exec ?_)
  refine wpAny_mono (Ex.run (o:=.next) Rf S₁.inv S₁.fr (ex_assign ev_bool (asgS_nm (by rfl)))) ?_ fun _ _ x=>x
  rintro f s₂ ⟨Z₂,W₂,S₂,r₂⟩
  induction f<;>first | exact r₂.elim | skip
  have S₁₂:=S₁.trans S₂
  refine sg_cons (sg_for (fun _ _=>rfl) ?_)
  refine wpAny_mono (EvI.run (cm:=false) lTgt (xs:=enumD 0 (signs x)) Rf S₂.inv S₂.fr (evi_enum_nm B (by rfl) hgE (evn_val (ev_nm (by rfl) (by rfl)) src_str))) (fun xv s₃ h₃=>wpAny_mono h₃ (fun it s₄ h₄=>?_) fun _ _ x=>x) fun _ _ x=>x
  refine bc fun g=>?_;obtain ⟨it',fp,St,Z₄,rfl,M⟩:=h₄
  refine g ?_;intro p
  refine iter_loop (n:=n) (x:=x) (fbody:=(P1 7).body) (R.less (by lia)) ?_ x.cps.toList 0 0 false none s Z W s₄ Z₄ W₂ it' fp St ⟨M.inv,(S₂.fr.grow M.evo),S₁₂.evo.step' M.evo (fun _ h=>h.elim),S₁₂.wnew,fun h=>by cases h⟩ M.ip M.st M.off (fun b hb q=>by obtain ⟨o,e⟩:=S₂.fr.wa b q;(exact none_some (M.fresh b hb) e)) fun b hb=>?_
  · -- behind the loop
    intro i p e ch s₀ Z₀ W₀ s₅ Z₅ W₅ hA
    have Rg:Room (A.over (.func (P1 7).body env) []) n:=room_func (R.less (by lia))
    refine sg_cons (sg_if ?_)
    refine wpAny_mono (EvT.run (b:=e) Rg hA.inv hA.fr (evT_value (d:=.bool e) (ev_nm (by rfl) (by rfl)) tr_bool (by rfl))) (?_) fun _ _ x=>x;rintro b s₆ ⟨hb,Z₆,I₆,e₆⟩;refine ?_
    replace hb:=hb.symm
    induction hb
    have F₆:=hA.fr.grow e₆
    have N₆:=hA.since.step' e₆ fun _ h=>h.elim
    induction e with
    | false=>
      simp only [Bool.false_eq_true,if_false]
      refine sg_nil (sg_nil (sg_end (.ok (.ret .none)) ⟨rfl,Z₆,I₆,N₆⟩))
    | true=>
      simp only [if_true]
      refine sg_cons (sg_yieldStmt rfl rfl rfl (by rw [F.esc];rfl) (by delta interactive;rw [F.esc,F.kind];rfl) ?_)
      refine Gives.to (EvE.run (d:=.tuple [.int (i - 1),.str (Str.ofString "\\")]) Rg I₆ F₆ (ev_tuple (evs_cons ((hA.pe rfl)▸ev_nm (by rfl) (by rfl)) (evs_cons ev_str evs_nil)))) fun v' s₇ Z₇ I₇ e₇ r₇=>?_
      intro e' hq hr hgo
      have F₇:=F₆.grow e₇
      refine ⟨hq,v',Z₇,W₅,hr,I₇,N₆.step' e₇ (fun _ h=>h.elim),r₇,hA.sub,F₇.zw,F₇.wa,fun s₈ Z₈ I₈ k1 k2 k3 k4=>hgo _ s₈ ?_⟩
      exact sg_nil (sg_nil (sg_end (.ok (.ret .none)) ⟨rfl,Z₈,I₈,Evo.refl⟩))
  · exact .inr (S₁₂.evo.gone (fun q=>by
      obtain ⟨o,e⟩:=S₁₂.wl b q
      (exact none_some (M.fresh b hb) e)) (M.fresh b hb))
theorem evg_iter (B:Base c) (hgE:Glob c (Str.ofString "enumerate") (.type "enumerate")) {n:Nat} {sc:Scope} {ρ:List (Option Sl)} {a:Addr} (h:FunAt c (P1 7) a) {i:Nat} {fx:Str} {e:Expr} {x:Str} {p pos:Pos} (hx:ixOf sc.names fx = some (i,.globalImplicit)) (hn:fx = (P1 7).name) (he:EvE c (n + 3) sc ρ e (.str x)) (hs:noStar e = true:=by rfl) (hp:plainName fx = true:=by decide +kernel) :
    EvG c (n + 3) sc ρ (.Call (.Name fx p) [e] [] pos) (escL 0 false x.cps.toList):=by
  refine ⟨fun _ _=>rfl,fun A s Z W env R I F=>?_⟩
  simp only [plainName,Bool.and_eq_true,Bool.not_eq_true'] at hp
  have ha:EvEs c (n + 3) sc ρ [e] [.str x]:=evs_cons he evs_nil hs
  refine wpAny_Call_NameR (wpAny_Name (load_glob B (hn▸h.glob) I F (ixOf_at hx) ?_) hp.1)
  refine callWith_of (P:=fun h=>∀ b o,c.h₀.get? b = some o→h.get? b = some o) (by rw [backTo_plain ha.1];rfl) (fun hh hk=>h.callee hh hk) (evalArgs_all ha.1 (wpAny_mono (ha.2 A s Z W env pos R I F) (?_) fun _ _ x=>x));rintro vs s₁ ⟨Z₁,I₁,e₁,r₁⟩;refine ⟨I₁.base,?_⟩
  refine bc fun g=>?_;obtain ⟨v,rfl,rv⟩:=reps1 r₁
  obtain ⟨ob,pm,code,doc,_,h2,h3,h4⟩:=h
  refine g ?_;refine wpAny_call (codeAny_call_generator R.lt (I₁.base _ _ h2) h3 rfl rfl rfl ((by refine bc fun g=>?_;obtain ⟨cd,oc,ws,t,e1,e2,e3⟩:=h4;exact g (⟨cd,oc,ws,t,e1,I₁.base _ _ e2,e3⟩))) ?_)
  refine noted_no ?_
  refine wpAny_of_eq (show bindArgs (Calls.docDef (P1 7).name (P1 7).params (P1 7).body (P1 7).scope pm code doc) ⟨[v],[]⟩ = pure (((P1 7).params.args.map (·.arg)).zip [v]) from rfl) ?_
  refine noted_no ?_
  skip
  simp only [newFunctionEnv,Option.isSome_none,Bool.false_eq_true,if_false]
  refine bnd1 (fun _ q=>wpAny_alloc q) ?_
  refine bnd1 (fun _ q=>wpAny_layCells _ (fun name kind cells=>by induction hkc:kind == NameKind.cell<;>rfl) _ _ _ _ q) ?_
  rw [show ({ s₁ with heap:=s₁.heap.push { cls:=.type "frame",data:=.dict #[] } }:Shared).heap.objs.size = s₁.heap.objs.size + 1 from Heap.size_push ..]
  refine bc fun g=>?_;obtain ⟨I₂,e₂,W₂,F₂,hW₂⟩:=fun_frame (scope:=(P1 7).scope) rfl (by decide +kernel) (by decide +kernel) I₁ (q:=(P1 7).name ++ ".<locals>.") (fn:=some a) (code:=code) rfl
  refine g ?_;refine wpAny_bind (binds_go _ (fun _ _ _=>rfl) (.nm (by rfl) (.inl rfl) (by rfl) .nil) _ Z₁ W₂ [v] _ I₂ F₂ (e₂.reps no_z (.cons rv .nil)) fun s₃ I₃ e₃ F₃=>wpAny_pure ⟨B.lim.keeps I₃.base,?_⟩)
  have e₁₃:Evo no s₁ Z₁ s₃ Z₁:=e₂.trans' e₃ fun b hb=>.inr (hW₂ b hb)
  generalize hso:({ cls:=.type "generator",data:=.fields #[.int s₃.gens.size 0,.str _ s₃.toks,.str _ (s₃.toks + 1)] }:Obj) = go
  have I₄:Inv c { s₃ with gens:=s₃.gens.push (.fresh (.func (P1 7).body (newEnv (P1 7).scope s₁.heap.objs.size mainGlobals (cellsFrom (s₁.heap.objs.size + 1) (P1 7).scope.names []) ((P1 7).name ++ ".<locals>.") (some a) code none builtinsNs))),toks:=s₃.toks + 1 + 1,heap:=s₃.heap.push go } Z₁:=
    ⟨fun b o e=>Heap.get?_push_of_some _ (I₃.base b o e),I₃.zb,fun b hb=>let ⟨o,e⟩:=I₃.za b hb;⟨o,Heap.get?_push_of_some _ e⟩,I₃.os,I₃.bare.push rfl⟩
  have gnone:∀ x,s.gens[s₃.gens.size]? = some x→False:=fun x hxx=>by
    have:=(e₁.trans e₁₃).gens _ _ hxx
    rw [Array.getElem?_eq_none (Nat.le_refl _)] at this;exact nomatch this
  refine ⟨s₃.heap.objs.size,s₃.gens.size,Z₁,W₂,_,rfl,I₄,?_,?_,Array.getElem?_push_size ..,?_,(e₁.trans e₁₃).back (fresh_size _),(fun q=>by obtain ⟨o,e⟩:=I₃.za _ q;(((rw [fresh_size] at e;cases e)))),fun q=>?_,fun b hb=>⟨e₁.back (hW₂ b hb),F₃.zw b hb,?_⟩,?_⟩
  · have e₁₃':=e₁.trans e₁₃
    exact ⟨fun b o hb e=>Heap.get?_push_of_some _ (e₁₃'.keep b o hb e),fun i y e=>by
      have:=e₁₃'.gens i y e
      skip
      rw [Array.getElem?_push]
      split
      · rename_i hi;rw [hi,Array.getElem?_eq_none (Nat.le_refl _)] at this;exact nomatch this
      · exact this,e₁₃'.zmono,e₁₃'.znew⟩
  · subst hso
    exact ⟨_,_,_,Heap.get?_push_size _ rfl,rfl,rfl,rfl⟩
  · induction q:s.gens[s₃.gens.size]? with
    | none=>rfl
    | some y=>exact (gnone y q).elim
  · obtain ⟨o,e⟩:=F₃.wa _ q;(((rw [fresh_size] at e;cases e)))
  · obtain ⟨o,e⟩:=F₃.wa b hb;exact ⟨o,Heap.get?_push_of_some _ e⟩
  · intro s₅ Z₅ I₅ k1 k2 k3 k4
    refine iter_run B hgE (R.in1) I₅ (F₃.rest (fun b o hb e=>k1 b o hb (Heap.get?_push_of_some _ e)) (fun b o hb e=>k2 b o hb (Heap.get?_push_of_some _ e)) k3 k4)
end
end Mine
end
section
open PySem PySem.W PyProof.Rows
namespace Mine
noncomputable def embP (p:Int × Str):D:=.tuple [.int p.1,.str p.2]
noncomputable def escP:Int→Bool→List Nat→List (Int × Str)
  | i,esc,[]=>if esc then [(i - 1,Str.ofString "\\")] else []
  | i,esc,ch :: r=>if esc then (i,Str.ofString "\\" ++ ⟨#[ch]⟩) :: escP (i + 1) false r
    else if (⟨#[ch]⟩:Str) == Str.ofString "\\" then escP (i + 1) true r else (i,⟨#[ch]⟩) :: escP (i + 1) false r
theorem escL_eq:∀ (r:List Nat) (i:Int) (e:Bool),escL i e r = (escP i e r).map embP
  | [],i,e=>by induction e<;>rfl
  | ch :: r,i,e=>by
    unfold escL escP
    induction e with
    | true=>simp [embP,escL_eq r]
    | false=>
      simp only [Bool.false_eq_true,if_false]
      split
      · exact escL_eq r _ _
      · simp [embP,escL_eq r,sgn]
theorem escP_len:∀ (r:List Nat) (i:Int) (e:Bool),(escP i e r).length≤r.length + 1
  | [],i,e=>by induction e<;>simp [escP]
  | ch :: r,i,e=>by
    dsimp only [escP]
    split
    · simpa using escP_len r _ _
    · split
      · have:=escP_len r (i + 1) true;simp;lia
      · simpa using escP_len r _ _
theorem cm_eqB {c:Cx} {n:Nat} (k:Nat) {d e:D} {b r:Bool} (h:eqvF k d e = some b) (hr:r = b) (hk:k≤60:=by decide) (hn:d ≠ .none:=by intro h;nomatch h):CmpG c n .Eq d e r:=hr▸cm_eq k h hk hn
theorem cm_neB {c:Cx} {n:Nat} (k:Nat) {d e:D} {b r:Bool} (h:eqvF k d e = some b) (hr:r = !b) (hk:k≤60:=by decide) (ht:∀ xs,d ≠ .tuple xs:=by intro _ h;nomatch h) (hn:d ≠ .none:=by intro h;nomatch h):CmpG c n .NotEq d e r:=hr▸cm_ne k h hk ht hn
theorem cm_ltB {c:Cx} {n:Nat} {a b:Int} {r:Bool} (h:r = decide (a < b)):CmpG c n .Lt (.int a) (.int b) r:=h▸cm_lt
noncomputable def qt:Str:=Str.ofString "\""
noncomputable def stripStep (x:Str) (b:Int × Option Int × List Str) (p:Int × Str):Int × Option Int × List Str:=
  if p.2 == qt then (match b.2.1 with
    | none=>(b.1,some p.1,b.2.2)
    | some o=>(p.1 + 1,none,if b.1 != o then b.2.2 ++ [Txt.slice x (some b.1) (some o)] else b.2.2))
  else b
noncomputable def opD:Option Int→D
  | none=>.none
  | some o=>.int o
theorem opD_raw:∀ (o:Option Int) (v:Value),opD o ≠ .raw v
  | none,_=>fun h=>nomatch h
  | some _,_=>fun h=>nomatch h
noncomputable def stR (x:Str) (b:Int × Option Int × List Str):List (Option Sl):=[some (.val (.str x)),some (.val (.int b.1)),some (.val (opD b.2.1)),some (.own (.list (b.2.2.map .str))),none,none,none,none]
noncomputable def stripSt (x:Str):Int × Option Int × List Str:=(escP 0 false x.cps.toList).foldl (stripStep x) (0,none,[])
noncomputable def stripParts (x:Str):List Str:=if (stripSt x).1 < x.length then (stripSt x).2.2 ++ [Txt.slice x (some (stripSt x).1) none] else (stripSt x).2.2
noncomputable def stripF (x:Str):Str:=if Txt.contains x qt then Txt.join (Str.ofString "") (stripParts x) else x
theorem stripStep_len (x:Str):∀ (l:List (Int × Str)) (b:Int × Option Int × List Str),(l.foldl (stripStep x) b).2.2.length≤b.2.2.length + l.length
  | [],b=>Nat.le_refl _
  | p :: l,b=>by
    have h:=stripStep_len x l (stripStep x b p)
    have h2:(stripStep x b p).2.2.length≤b.2.2.length + 1:=by
      obtain ⟨start,op,res⟩:=b
      delta stripStep
      split
      · induction op with
        | none=>simp
        | some o=>
          dsimp only
          split<;>simp
      · simp
    simp only [List.foldl_cons,List.length_cons]
    lia
section
variable {c:Cx}
theorem ev_join {n:Nat} {sc:Scope} {ρ:List (Option Sl)} {o e:Expr} {x:Str} {ys:List Str} {ap pos:Pos} (ho:EvE c n sc ρ o (.str x)) (he:EvE c n sc ρ e (.list (ys.map .str))) (hJ:JoinOk x ys = true) (hs:noStar e = true:=by rfl) (hb:PlainB o:=by intro _ _;rfl) (hl:(ap.endLine == pos.line) = true:=by rfl) :
    EvE c n sc ρ (.Call (.Attribute o (Str.ofString "join") ap) [e] [] pos) (.str (Txt.join x ys)):=by
  refine ev_meth (d₀:=.str x) (ds:=[.list (ys.map .str)]) (T:="str") (id:="str.join") PySem.F.plainAttrs_str PySem.F.slot_str_join PySem.F.type_str_join strT ho (evs_cons he evs_nil hs) (c_join hJ) (fun env=>?_) hb hl
  rw [starEach_cons hs];rfl
set_option maxRecDepth 100000 in
theorem s_strip (B:Base c) (hgE:Glob c (Str.ofString "enumerate") (.type "enumerate")) (hgL:Glob c (Str.ofString "len") (.builtin "len")) {n:Nat} {a ai:Addr} (h:FunAt c (P1 8) a) (hi:FunAt c (P1 7) ai) (x:Str) (hlen:x.length≤1000) (hJ:JoinOk (Str.ofString "") (stripParts x) = true) :
    CallV c (n + 3 + 1) (.ref a) [.str x] (.str (stripF x)):=by
  have H:FunOk c a (P1 8).scope (P1 8).body [.str x] [some (.val (.str x)),none,none,none,none,none,none,none]:=h.ok1 (.nm (by rfl) (.inl rfl) (by rfl) .nil)
  have hsl:x.length≤sizeLine:=Nat.le_trans hlen (Nat.le_of_ble_eq_true rfl)
  have hx63:(x.length:Int) < 2 ^ 63:=by lia
  induction hc:Txt.contains x qt with
  | false=>
    have e:stripF x = x:=by delta stripF;rw [hc];rfl
    rw [e]
    refine call_fun B H (ρ':=[some (.val (.str x)),none,none,none,none,none,none,none]) (exs_stop (ex_if_t ?_ (exs_stop (ex_return (ev_nm (by rfl) (by rfl))) (by simp))) (by simp))
    exact evT_cmp ev_str (ev_nm (by rfl) (by rfl)) (by have:=cm_notInS (c:=c) (n:=n + 3) (x:=x) (y:=qt);rw [hc] at this;exact this)
  | true=>
    have e:stripF x = Txt.join (Str.ofString "") (stripParts x):=by delta stripF;rw [hc];rfl
    rw [e]
    refine call_fun B H (ρ':=[some (.val (.str x)),some (.val (.int (stripSt x).1)),some (.val (opD (stripSt x).2.1)),some (.val (.list ((stripParts x).map .str))),none,none,none,none]) (exs_cons (ex_if_f ?_ exs_nil) ?_)
    · exact evT_cmp ev_str (ev_nm (by rfl) (by rfl)) (by have:=cm_notInS (c:=c) (n:=n + 3) (x:=x) (y:=qt);rw [hc] at this;exact this)
    refine exs_cons (ex_assign ev_int (asgS_nm (by rfl))) ?_
    refine exs_cons (ex_assign ev_none (asgS_nm (by rfl))) ?_
    refine exs_cons (ex_assignO 3 rfl (evo_list evs_nil)) ?_
    have hxl:x.cps.toList.length = x.length:=by rfl
    have hN:(escP 0 false x.cps.toList).length≤1001:=Nat.le_trans (escP_len _ _ _) (by lia)
    refine exs_cons (ex_forG B (evg_iter B hgE hi (by rfl) rfl (ev_nm (by rfl) (by rfl))) (o:=.next) (ρ':=stR x (stripSt x)) ?_) ?_
    · rw [escL_eq]
      refine (loop_foldP (stripStep x) (stR x) (fun k b=>b.2.2.length≤k) (l:=escP 0 false x.cps.toList) 0 (b₀:=(0,none,[])) rfl (Nat.le_refl _) fun j b p _ hj hlt=>?_).2
      obtain ⟨start,op,res⟩:=b
      obtain ⟨i,t⟩:=p
      simp only at hj
      induction hq:t == qt with
      | false=>
        have hf:stripStep x (start,op,res) (i,t) = (start,op,res):=by simp [stripStep,hq]
        rw [hf]
        refine ⟨by simp only;lia,_,_,asgS_tuple (asgSs_cons (asgS_nm (by rfl)) (asgSs_cons (asgS_nm (by rfl)) asgSs_nil)),exs_cons (ex_if_f (evT_cmp (ev_nm (by rfl) (by rfl)) ev_str (cm_eqB 1 (b:=t == qt) rfl hq.symm)) exs_nil) exs_nil,?_⟩
        exact .cons (.inr rfl) (.cons (.inr rfl) (.cons (.inr rfl) (.cons (.inr rfl) (.cons (.inl rfl) (.cons (.inl rfl) (.cons (.inl rfl) (.cons (.inl rfl) .nil)))))))
      | true=>
        induction op with
        | none=>
          have hf:stripStep x (start,none,res) (i,t) = (start,some i,res):=by simp [stripStep,hq]
          rw [hf]
          refine ⟨by simp only;lia,_,_,asgS_tuple (asgSs_cons (asgS_nm (by rfl)) (asgSs_cons (asgS_nm (by rfl)) asgSs_nil)),exs_cons (ex_if_t (evT_cmp (ev_nm (by rfl) (by rfl)) ev_str (cm_eqB 1 (b:=t == qt) rfl hq.symm)) (exs_cons (ex_if_t (evT_cmp (ev_nm (by rfl) (by rfl)) ev_none (cm_isNone (opD_raw _))) (exs_cons (ex_assign (ev_nm (by rfl) (by rfl)) (asgS_nm (by rfl))) exs_nil)) exs_nil)) exs_nil,?_⟩
          exact .cons (.inr rfl) (.cons (.inr rfl) (.cons (.inr rfl) (.cons (.inr rfl) (.cons (.inl rfl) (.cons (.inl rfl) (.cons (.inl rfl) (.cons (.inl rfl) .nil)))))))
        | some o=>
          induction hne:start != o with
          | false=>
            have hf:stripStep x (start,some o,res) (i,t) = (i + 1,none,res):=by simp [stripStep,hq,hne]
            rw [hf]
            refine ⟨by simp only;lia,_,_,asgS_tuple (asgSs_cons (asgS_nm (by rfl)) (asgSs_cons (asgS_nm (by rfl)) asgSs_nil)),exs_cons (ex_if_t (evT_cmp (ev_nm (by rfl) (by rfl)) ev_str (cm_eqB 1 (b:=t == qt) rfl hq.symm)) (exs_cons (ex_if_f (evT_cmp (ev_nm (by rfl) (by rfl)) ev_none (cm_isNone (opD_raw _)))
              (exs_cons (ex_if_f (evT_cmp (ev_nm (by rfl) (by rfl)) (ev_nm (by rfl) (by rfl)) (cm_neB 1 (b:=start == o) rfl hne.symm)) exs_nil) (exs_cons (ex_assign (ev_bin (ev_nm (by rfl) (by rfl)) ev_int op_addI) (asgS_nm (by rfl))) (exs_cons (ex_assign ev_none (asgS_nm (by rfl))) exs_nil)))) exs_nil)) exs_nil,?_⟩
            exact .cons (.inr rfl) (.cons (.inr rfl) (.cons (.inr rfl) (.cons (.inr rfl) (.cons (.inl rfl) (.cons (.inl rfl) (.cons (.inl rfl) (.cons (.inl rfl) .nil)))))))
          | true=>
            have hf:stripStep x (start,some o,res) (i,t) = (i + 1,none,res ++ [Txt.slice x (some start) (some o)]):=by simp [stripStep,hq,hne]
            rw [hf]
            refine ⟨by simp only [List.length_append,List.length_singleton];lia,_,_,asgS_tuple (asgSs_cons (asgS_nm (by rfl)) (asgSs_cons (asgS_nm (by rfl)) asgSs_nil)),exs_cons (ex_if_t (evT_cmp (ev_nm (by rfl) (by rfl)) ev_str (cm_eqB 1 (b:=t == qt) rfl hq.symm)) (exs_cons (ex_if_f (evT_cmp (ev_nm (by rfl) (by rfl)) ev_none (cm_isNone (opD_raw _)))
              (exs_cons (ex_if_t (evT_cmp (ev_nm (by rfl) (by rfl)) (ev_nm (by rfl) (by rfl)) (cm_neB 1 (b:=start == o) rfl hne.symm)) (exs_cons (ex_append 3 rfl (by rfl) (ev_slice (ev_nm (by rfl) (by rfl)) (evP_some (ev_nm (by rfl) (by rfl))) (evP_some (ev_nm (by rfl) (by rfl))) (slice_str hsl)) (by simpa using (Nat.le_trans (by lia:res.length≤1001) (Nat.le_of_ble_eq_true rfl)))) exs_nil)) (exs_cons (ex_assign (ev_bin (ev_nm (by rfl) (by rfl)) ev_int op_addI) (asgS_nm (by rfl))) (exs_cons (ex_assign ev_none (asgS_nm (by rfl))) exs_nil)))) exs_nil)) exs_nil,?_⟩
            refine .cons (.inr rfl) (.cons (.inr rfl) (.cons (.inr rfl) (.cons (.inr ?_) (.cons (.inl rfl) (.cons (.inl rfl) (.cons (.inl rfl) (.cons (.inl rfl) .nil)))))))
            simp
    · have hret:∀ (ps:List Str),JoinOk (Str.ofString "") ps = true→Exs c (n + 3) (P1 8).scope ((P1 8).body.drop 6) [some (.val (.str x)),some (.val (.int (stripSt x).1)),some (.val (opD (stripSt x).2.1)),some (.own (.list (ps.map .str))),none,none,none,none] (.ret (.str (Txt.join (Str.ofString "") ps)))
          [some (.val (.str x)),some (.val (.int (stripSt x).1)),some (.val (opD (stripSt x).2.1)),some (.val (.list (ps.map .str))),none,none,none,none]:=fun ps hps=>
        exs_freeze 3 rfl (by rfl) (exs_stop (ex_return (ev_join ev_str (ev_nm (by rfl) (by rfl)) hps)) (by simp))
      by_cases hlt:(stripSt x).1 < (x.length:Int)
      · have e:stripParts x = (stripSt x).2.2 ++ [Txt.slice x (some (stripSt x).1) none]:=if_pos hlt
        refine exs_cons (ex_if_t (evT_cmp (ev_nm (by rfl) (by rfl)) (ev_call_nm B (by rfl) hgL callee_builtin (evs_cons (ev_nm (by rfl) (by rfl)) evs_nil) (c_lenS hx63)) (cm_ltB (decide_eq_true hlt).symm))
          (exs_cons (ex_append 3 rfl (by rfl) (ev_slice (ev_nm (by rfl) (by rfl)) (evP_some (ev_nm (by rfl) (by rfl))) evP_none (slice_str hsl)) (by simpa using (Nat.le_trans (Nat.le_trans (stripStep_len x _ (0,none,[])) (by simpa using hN)) (Nat.le_of_ble_eq_true rfl):(stripSt x).2.2.length≤sizeLine))) exs_nil)) ?_
        have:=hret (stripParts x) hJ
        rw [e,List.map_append] at this ⊢
        exact this
      · have e:stripParts x = (stripSt x).2.2:=if_neg hlt
        refine exs_cons (ex_if_f (evT_cmp (ev_nm (by rfl) (by rfl)) (ev_call_nm B (by rfl) hgL callee_builtin (evs_cons (ev_nm (by rfl) (by rfl)) evs_nil) (c_lenS hx63)) (cm_ltB (decide_eq_false hlt).symm)) exs_nil) ?_
        have:=hret (stripParts x) hJ
        rw [e] at this ⊢
        exact this
end
end Mine
end
section
open PySem PySem.W PyProof.Rows
namespace Mine
noncomputable def lp:Str:=Str.ofString "("
noncomputable def rp:Str:=Str.ofString ")"
noncomputable def chk:List (Int × Str)→Int→Option Int
  | [],b=>some b
  | p :: l,b=>if p.2 == lp then chk l (b + 1) else if p.2 == rp then (if b - 1 < 0 then none else chk l (b - 1)) else chk l b
noncomputable def checkF (x:Str):Bool:=match chk (escP 0 false (stripF x).cps.toList) 0 with
  | none=>false
  | some b=>b == 0
noncomputable def ckR (y:Str) (b:Int):List (Option Sl):=[some (.val (.str y)),some (.val (.int b)),none,none,none,none]
noncomputable def lTgt':Expr:=match (P1 9).body.getD 2 (.Pass default) with | .For t _ _ _ _=>t | _=>.Name Str.empty default
noncomputable def lBody':List Stmt:=match (P1 9).body.getD 2 (.Pass default) with | .For _ _ b _ _=>b | _=>[]
section
variable {c:Cx}
theorem check_loop {n:Nat} {y:Str} {tgt:Expr} {body:List Stmt} (ht:∀ (b:Int) (p:Int × Str),AsgS c n (P1 9).scope tgt (embP p) (ckR y b) [some (.val (.str y)),some (.val (.int b)),some (.val (.int p.1)),some (.val (.str p.2)),none,none])
    (hb:∀ (b:Int) (p:Int × Str),(if p.2 == lp then Exs c n (P1 9).scope body [some (.val (.str y)),some (.val (.int b)),some (.val (.int p.1)),some (.val (.str p.2)),none,none] .next [some (.val (.str y)),some (.val (.int (b + 1))),some (.val (.int p.1)),some (.val (.str p.2)),none,none]
      else if p.2 == rp then (if b - 1 < 0 then Exs c n (P1 9).scope body [some (.val (.str y)),some (.val (.int b)),some (.val (.int p.1)),some (.val (.str p.2)),none,none] (.ret (.bool false)) [some (.val (.str y)),some (.val (.int (b - 1))),some (.val (.int p.1)),some (.val (.str p.2)),none,none]
        else Exs c n (P1 9).scope body [some (.val (.str y)),some (.val (.int b)),some (.val (.int p.1)),some (.val (.str p.2)),none,none] .next [some (.val (.str y)),some (.val (.int (b - 1))),some (.val (.int p.1)),some (.val (.str p.2)),none,none])
      else Exs c n (P1 9).scope body [some (.val (.str y)),some (.val (.int b)),some (.val (.int p.1)),some (.val (.str p.2)),none,none] .next [some (.val (.str y)),some (.val (.int b)),some (.val (.int p.1)),some (.val (.str p.2)),none,none])) :
    ∀ (l:List (Int × Str)) (b:Int),match chk l b with
      | none=>∃ ρ',LoopF c n (P1 9).scope tgt body (l.map embP) (ckR y b) (.ret (.bool false)) ρ'
      | some b'=>LoopF c n (P1 9).scope tgt body (l.map embP) (ckR y b) .next (ckR y b'):=by
  intro l
  induction l with
  | nil=>intro b;exact .nil
  | cons p l ih=>
    intro b
    have hless:∀ b',Lss (ckR y b') [some (.val (.str y)),some (.val (.int b')),some (.val (.int p.1)),some (.val (.str p.2)),none,none]:=fun b'=>.cons (.inr rfl) (.cons (.inr rfl) (.cons (.inl rfl) (.cons (.inl rfl) (.cons (.inl rfl) (.cons (.inl rfl) .nil)))))
    have h1:=hb b p
    dsimp only [chk]
    have go:∀ b',Exs c n (P1 9).scope body [some (.val (.str y)),some (.val (.int b)),some (.val (.int p.1)),some (.val (.str p.2)),none,none] .next [some (.val (.str y)),some (.val (.int b')),some (.val (.int p.1)),some (.val (.str p.2)),none,none] →
        (match chk l b' with
          | none=>∃ ρ',LoopF c n (P1 9).scope tgt body ((p :: l).map embP) (ckR y b) (.ret (.bool false)) ρ'
          | some b''=>LoopF c n (P1 9).scope tgt body ((p :: l).map embP) (ckR y b) .next (ckR y b'')):=fun b' h=>by
      have ih:=ih b'
      induction hc:chk l b' with
      | none=>rw [hc] at ih;obtain ⟨ρ',hl⟩:=ih;exact ⟨ρ',.step (ht b p) (exs_less h Lss.refl (hless b')) (.inl rfl) hl⟩
      | some b''=>simp only [hc] at ih;exact .step (ht b p) (exs_less h Lss.refl (hless b')) (.inl rfl) ih
    by_cases hq:(p.2 == lp) = true
    · rw [if_pos hq] at h1
      simp only [hq,if_true]
      exact go _ h1
    · rw [if_neg hq] at h1
      by_cases hq2:(p.2 == rp) = true
      · rw [if_pos hq2] at h1
        by_cases hlt:b - 1 < 0
        · rw [if_pos hlt] at h1
          simp only [hq,hq2,hlt,if_true,if_false,Bool.false_eq_true]
          exact ⟨_,.ret (ht b p) h1⟩
        · rw [if_neg hlt] at h1
          simp only [hq,hq2,hlt,if_true,if_false,Bool.false_eq_true]
          exact go _ h1
      · rw [if_neg hq2] at h1
        simp only [hq,hq2,if_false,Bool.false_eq_true]
        exact go _ h1
theorem call_funE (B:Base c) {n:Nat} {a:Addr} {scope:Scope} {body:List Stmt} {ds:List D} {ρ₀:List (Option Sl)} {d:D} (H:FunOk c a scope body ds ρ₀) (hb:∃ ρ',Exs c n scope body ρ₀ (.ret d) ρ'):CallV c (n + 1) (.ref a) ds d:=let ⟨_,h⟩:=hb;call_fun B H h
set_option maxRecDepth 100000 in
theorem s_check (B:Base c) (hgE:Glob c (Str.ofString "enumerate") (.type "enumerate")) (hgL:Glob c (Str.ofString "len") (.builtin "len")) {n:Nat} {a as ai:Addr} (h:FunAt c (P1 9) a) (hs:FunAt c (P1 8) as) (hi:FunAt c (P1 7) ai) (x:Str) (hlen:x.length≤1000) (hJ:JoinOk (Str.ofString "") (stripParts x) = true) :
    CallV c (n + 3 + 1 + 1) (.ref a) [.str x] (.bool (checkF x)):=by
  have hcall:=s_strip (n:=n) B hgE hgL hs hi x hlen hJ
  refine call_funE B (h.ok1 (.nm (by rfl) (.inl rfl) (by rfl) .nil)) ?_
  have hL:=check_loop (c:=c) (n:=n + 3 + 1) (y:=stripF x) (body:=lBody') (fun b p=>asgS_tuple (asgSs_cons (asgS_nm (by rfl)) (asgSs_cons (asgS_nm (by rfl)) asgSs_nil)):∀ (b:Int) (p:Int × Str),AsgS c (n + 3 + 1) (P1 9).scope lTgt' (embP p) (ckR (stripF x) b) [some (.val (.str (stripF x))),some (.val (.int b)),some (.val (.int p.1)),some (.val (.str p.2)),none,none]) (fun b p=>?_) (escP 0 false (stripF x).cps.toList) 0
  · have hfin:∀ {o:Out} {ρ':List (Option Sl)},LoopF c (n + 3 + 1) (P1 9).scope lTgt' lBody' ((escP 0 false (stripF x).cps.toList).map embP) (ckR (stripF x) 0) o ρ'→Ex c (n + 3 + 1) (P1 9).scope ((P1 9).body.getD 2 (.Pass default)) (ckR (stripF x) 0) o ρ':=fun hl=>
      ex_forG B (evg_iter (n:=n + 1) B hgE hi (by rfl) rfl (ev_nm (by rfl) (by rfl))) (by rw [escL_eq];exact hl)
    delta checkF
    induction hc:chk (escP 0 false (stripF x).cps.toList) 0 with
    | none=>
      rw [hc] at hL
      obtain ⟨ρ',hl⟩:=hL
      exact ⟨ρ',exs_cons (ex_assign (ev_call_nm B (by rfl) hs.glob hs.callee (evs_cons (ev_nm (by rfl) (by rfl)) evs_nil) hcall) (asgS_nm (by rfl))) (exs_cons (ex_assign ev_int (asgS_nm (by rfl))) (exs_stop (by exact hfin hl) (by simp)))⟩
    | some b=>
      rw [hc] at hL
      refine ⟨ckR (stripF x) b,exs_cons (ex_assign (ev_call_nm B (by rfl) hs.glob hs.callee (evs_cons (ev_nm (by rfl) (by rfl)) evs_nil) hcall) (asgS_nm (by rfl))) (exs_cons (ex_assign ev_int (asgS_nm (by rfl))) (exs_cons (by exact hfin hL) (exs_stop (ex_return (ev_cmp (ev_nm (by rfl) (by rfl)) ev_int (cm_eqB 1 (b:=b == 0) rfl rfl))) (by simp))))⟩
  · -- a turn
    induction hq:p.2 == lp with
    | true=>
      simp only [if_true]
      exact exs_cons (ex_if_t (evT_cmp (ev_nm (by rfl) (by rfl)) ev_str (cm_eqB 1 (b:=p.2 == lp) rfl hq.symm)) (exs_cons (ex_aug_nm (by rfl) (by rfl) ev_int (.inl ⟨rfl,rfl⟩)) exs_nil)) exs_nil
    | false=>
      simp only [Bool.false_eq_true,if_false]
      induction hq2:p.2 == rp with
      | false=>
        simp only [Bool.false_eq_true,if_false]
        exact exs_cons (ex_if_f (evT_cmp (ev_nm (by rfl) (by rfl)) ev_str (cm_eqB 1 (b:=p.2 == lp) rfl hq.symm)) (exs_cons (ex_if_f (evT_cmp (ev_nm (by rfl) (by rfl)) ev_str (cm_eqB 1 (b:=p.2 == rp) rfl hq2.symm)) exs_nil) exs_nil)) exs_nil
      | true=>
        simp only [if_true]
        by_cases hlt:b - 1 < 0
        · rw [if_pos hlt]
          exact exs_stop (ex_if_f (evT_cmp (ev_nm (by rfl) (by rfl)) ev_str (cm_eqB 1 (b:=p.2 == lp) rfl hq.symm)) (exs_stop (ex_if_t (evT_cmp (ev_nm (by rfl) (by rfl)) ev_str (cm_eqB 1 (b:=p.2 == rp) rfl hq2.symm)) (exs_cons (ex_aug_nm (by rfl) (by rfl) ev_int (.inr ⟨rfl,rfl⟩)) (exs_stop (ex_if_t (evT_cmp (ev_nm (by rfl) (by rfl)) ev_int (cm_ltB (decide_eq_true hlt).symm)) (exs_stop (ex_return ev_bool) (by simp))) (by simp)))) (by simp))) (by simp)
        · rw [if_neg hlt]
          exact exs_cons (ex_if_f (evT_cmp (ev_nm (by rfl) (by rfl)) ev_str (cm_eqB 1 (b:=p.2 == lp) rfl hq.symm)) (exs_cons (ex_if_t (evT_cmp (ev_nm (by rfl) (by rfl)) ev_str (cm_eqB 1 (b:=p.2 == rp) rfl hq2.symm)) (exs_cons (ex_aug_nm (by rfl) (by rfl) ev_int (.inr ⟨rfl,rfl⟩)) (exs_cons (ex_if_f (evT_cmp (ev_nm (by rfl) (by rfl)) ev_int (cm_ltB (decide_eq_false hlt).symm)) exs_nil) exs_nil))) exs_nil)) exs_nil
end
end Mine
end
section
open PySem PySem.W PyProof.Rows
namespace Mine
noncomputable def intE (l:List (Str × Int)):List (Str × D):=l.map fun p=>(p.1,.int p.2)
noncomputable def embC (p:Str × Int):D:=.tuple [.str p.1,.int p.2]
theorem items_int (l:List (Str × Int)):itemsD (intE l) = l.map embC:=by simp [itemsD,intE,embC]
noncomputable def putI (l:List (Str × Int)) (k:Str) (v:Int):List (Str × Int):=if l.any (fun e=>e.1 = k) then l.map (fun e=>if e.1 = k then (e.1,v) else e) else l ++ [(k,v)]
theorem putI_eq (l:List (Str × Int)) (k:Str) (v:Int):intE (putI l k v) = storedD (intE l) k (.int v):=by
  delta putI storedD
  rw [(by simp [intE,List.any_map,Function.comp_def]:(intE l).any (fun e=>e.1 = k) = l.any (fun e=>e.1 = k))]
  split
  · simp only [intE,List.map_map]
    congr 1
    funext e
    dsimp only [Function.comp_apply]
    split<;>rfl
  · simp [intE]
theorem putI_len (l:List (Str × Int)) (k:Str) (v:Int):(putI l k v).length≤l.length + 1:=by
  delta putI;split<;>simp
noncomputable def getI (l:List (Str × Int)) (k:Str):Option Int:=(l.find? fun e=>e.1 = k).map (·.2)
theorem getI_some {l:List (Str × Int)} {k:Str} {a:Int} (h:getI l k = some a):((intE l).find? fun f=>f.1 = k) = some (k,.int a):=by
  delta getI at h
  induction q:l.find? fun e=>e.1 = k with
  | none=>rw [q] at h;simp at h
  | some e=>
    rw [q] at h
    simp at h
    have:((intE l).find? fun f=>f.1 = k) = (l.find? fun e=>e.1 = k).map fun p=>(p.1,D.int p.2):=by delta intE;rw [List.find?_map];rfl
    rw [this,q]
    simp [(by have:=List.find?_some q;simpa using this),h]
theorem getI_none {l:List (Str × Int)} {k:Str} (h:getI l k = none):((intE l).find? fun f=>f.1 = k) = none:=by
  delta getI at h
  have:((intE l).find? fun f=>f.1 = k) = (l.find? fun e=>e.1 = k).map fun p=>(p.1,D.int p.2):=by delta intE;rw [List.find?_map];rfl
  rw [this]
  induction q:l.find? fun e=>e.1 = k with
  | none=>rfl
  | some e=>rw [q] at h;simp at h
noncomputable def addStep (m:List (Str × Int)) (p:Str × Int):List (Str × Int):=putI m p.1 (match getI m p.1 with | some a=>a + p.2 | none=>p.2)
noncomputable def addC (t s:List (Str × Int)):List (Str × Int):=s.foldl addStep (t.foldl (fun m p=>putI m p.1 p.2) [])
noncomputable def acR (t s m:List (Str × Int)):List (Option Sl):=[some (.val (.dict (intE t))),some (.val (.dict (intE s))),some (.own (.dict (intE m))),none,none,none,none,none]
section
variable {c:Cx}
set_option maxRecDepth 100000 in
theorem s_add_callers (B:Base c) (hgI:Glob c (Str.ofString "isinstance") (.builtin "isinstance")) (hgT:Glob c (Str.ofString "tuple") (.type "tuple")) {n:Nat} {a:Addr} (h:FunAt c (P1 4) a) (t s:List (Str × Int)) (ht:t.length + s.length≤10000) :
    CallV c (n + 1) (.ref a) [.dict (intE t),.dict (intE s)] (.dict (intE (addC t s))):=by
  have big:∀ {k:Nat},k≤10000→k≤sizeLine:=fun h=>Nat.le_trans h (Nat.le_of_ble_eq_true rfl)
  have hlen:∀ (m:List (Str × Int)),(intE m).length = m.length:=fun m=>by simp [intE]
  refine call_funE B (h.ok2 (.nm (by rfl) (.inl rfl) (by rfl) (.nm (by rfl) (.inl rfl) (by rfl) .nil))) ⟨[some (.val (.dict (intE t))),some (.val (.dict (intE s))),some (.val (.dict (intE (addC t s)))),none,none,none,none,none],?_⟩
  refine exs_cons (ex_assignO 2 rfl (evo_dict0 B)) ?_
  have L1:=fun (tgt:Expr) (body:List Stmt) (hb:∀ j m p,p ∈ t→(m:List (Str × Int)).length≤j→j < 0 + t.length→(putI m p.1 p.2).length≤j + 1∧∃ ρ₁ ρ₂,AsgS c n (P1 4).scope tgt (embC p) (acR t s m) ρ₁∧Exs c n (P1 4).scope body ρ₁ .next ρ₂∧Lss (acR t s (putI m p.1 p.2)) ρ₂)=>
    loop_foldP (emb:=embC) (fun m p=>putI m p.1 p.2) (acR t s) (fun j m=>m.length≤j) (l:=t) 0 (b₀:=[]) (ρ:=acR t s []) rfl (Nat.le_refl _) hb
  have hm1:(t.foldl (fun m p=>putI m p.1 p.2) ([]:List (Str × Int))).length≤t.length:=by
    have:∀ (l:List (Str × Int)) (m:List (Str × Int)),(l.foldl (fun m p=>putI m p.1 p.2) m).length≤m.length + l.length:=by
      intro l
      induction l with
      | nil=>exact fun m=>Nat.le_refl _
      | cons p l ih=>intro m;have:=ih (putI m p.1 p.2);have:=putI_len m p.1 p.2;simp only [List.foldl_cons,List.length_cons];lia
    simpa using this t []
  refine exs_cons (ex_for (evi_items (ev_nm (by rfl) (by rfl))) (o:=.next) (ρ':=acR t s (t.foldl (fun m p=>putI m p.1 p.2) [])) ?_) ?_
  · rw [items_int]
    refine (L1 _ _ fun j m p _ hj hlt=>⟨by have:=putI_len m p.1 p.2;lia,_,_,asgS_tuple (asgSs_cons (asgS_nm (by rfl)) (asgSs_cons (asgS_nm (by rfl)) asgSs_nil)),exs_cons (ex_assign (ev_nm (by rfl) (by rfl)) (asg_subD 2 rfl (by rfl) (ev_nm (by rfl) (by rfl)) (by rw [hlen];exact big (by lia)))) exs_nil,?_⟩).2
    delta acR
    rw [putI_eq]
    exact .cons (.inr rfl) (.cons (.inr rfl) (.cons (.inr rfl) (.cons (.inl rfl) (.cons (.inl rfl) (.cons (.inl rfl) (.cons (.inl rfl) (.cons (.inl rfl) .nil)))))))
  refine exs_cons (ex_for (evi_items (ev_nm (by rfl) (by rfl))) (o:=.next) (ρ':=acR t s (addC t s)) ?_) ?_
  · rw [items_int]
    refine (loop_foldP (emb:=embC) addStep (acR t s) (fun j m=>m.length≤t.length + j) (l:=s) 0 (b₀:=t.foldl (fun m p=>putI m p.1 p.2) []) rfl (by exact hm1) fun j m p _ hj hlt=>⟨by have:=putI_len m p.1 (match getI m p.1 with | some a=>a + p.2 | none=>p.2);delta addStep;lia,?_⟩).2
    have hsz:(intE m).length≤sizeLine:=by rw [hlen];exact big (by lia)
    induction hg:getI m p.1 with
    | none=>
      have e:addStep m p = putI m p.1 p.2:=by delta addStep;rw [hg]
      have hin:((intE m).find? fun f=>f.1 = p.1).isSome = false:=by rw [getI_none hg];rfl
      refine ⟨_,_,asgS_tuple (asgSs_cons (asgS_nm (by rfl)) (asgSs_cons (asgS_nm (by rfl)) asgSs_nil)),exs_cons (ex_if_f (evT_peek 2 rfl (by rfl) (evT_cmp (ev_nm (by rfl) (by rfl)) (ev_nm (by rfl) (by rfl)) (cm_inDB hin.symm)))
        (exs_cons (ex_assign (ev_nm (by rfl) (by rfl)) (asg_subD 2 rfl (by rfl) (ev_nm (by rfl) (by rfl)) hsz)) exs_nil)) exs_nil,?_⟩
      rw [e]
      delta acR
      rw [putI_eq]
      exact .cons (.inr rfl) (.cons (.inr rfl) (.cons (.inr rfl) (.cons (.inl rfl) (.cons (.inl rfl) (.cons (.inl rfl) (.cons (.inl rfl) (.cons (.inl rfl) .nil)))))))
    | some a=>
      have hin:((intE m).find? fun f=>f.1 = p.1).isSome = true:=by rw [getI_some hg];rfl
      refine ⟨_,_,asgS_tuple (asgSs_cons (asgS_nm (by rfl)) (asgSs_cons (asgS_nm (by rfl)) asgSs_nil)),exs_cons (ex_if_t (evT_peek 2 rfl (by rfl) (evT_cmp (ev_nm (by rfl) (by rfl)) (ev_nm (by rfl) (by rfl)) (cm_inDB hin.symm)))
        (exs_cons (ex_if_f (evT_value (ev_isi_nm B (by rfl) (by rfl) hgI hgT (ev_nm (by rfl) (by rfl)) (fun A s Z v I r=>isi_int_tuple I r)) tr_bool) (exs_cons (ex_augD 2 rfl (by rfl) (ev_nm (by rfl) (by rfl)) (getI_some hg) (ev_nm (by rfl) (by rfl)) hsz) exs_nil)) exs_nil)) exs_nil,?_⟩
      rw [(by delta addStep;rw [hg]:addStep m p = putI m p.1 (a + p.2))]
      delta acR
      rw [putI_eq]
      exact .cons (.inr rfl) (.cons (.inr rfl) (.cons (.inr rfl) (.cons (.inl rfl) (.cons (.inl rfl) (.cons (.inl rfl) (.cons (.inl rfl) (.cons (.inl rfl) .nil)))))))
  exact exs_freeze 2 rfl (by rfl) (exs_stop (ex_return (ev_nm (by rfl) (by rfl))) (by simp))
end
end Mine
end
section
open PySem PySem.W PyProof.Rows
namespace Mine
section
variable {c:Cx}
structure Bk where
  a:Int
  b:Int
  c:Int
  d:Int
  t:List (Str × Int)
noncomputable def bkD (x:Bk):D:=.tuple [.int x.a,.int x.b,.int x.c,.int x.d,.dict (intE x.t)]
noncomputable def addB (t s:Bk):Bk:=⟨s.a + t.a,s.b + t.b,s.c + t.c,s.d + t.d,addC t.t s.t⟩
set_option maxRecDepth 100000 in
theorem s_add_func_stats (B:Base c) (hgI:Glob c (Str.ofString "isinstance") (.builtin "isinstance")) (hgT:Glob c (Str.ofString "tuple") (.type "tuple")) {n:Nat} {a ac:Addr} (h:FunAt c (P1 3) a) (hc:FunAt c (P1 4) ac) (t s:Bk) (ht:t.t.length + s.t.length≤10000) :
    CallV c (n + 1 + 1) (.ref a) [bkD t,bkD s] (bkD (addB t s)):=by
  refine call_funE B (h.ok2 (.nm (by rfl) (.inl rfl) (by rfl) (.nm (by rfl) (.inl rfl) (by rfl) .nil))) ⟨[some (.val (bkD t)),some (.val (bkD s)),some (.val (.int s.a)),some (.val (.int s.b)),some (.val (.int s.c)),some (.val (.int s.d)),some (.val (.dict (intE s.t))),some (.val (.int t.a)),some (.val (.int t.b)),some (.val (.int t.c)),some (.val (.int t.d)),some (.val (.dict (intE t.t))),none],?_⟩
  refine exs_cons (ex_assign (ev_nm (by rfl) (by rfl)) (asgS_tuple (asgSs_cons (asgS_nm (by rfl)) (asgSs_cons (asgS_nm (by rfl)) (asgSs_cons (asgS_nm (by rfl)) (asgSs_cons (asgS_nm (by rfl)) (asgSs_cons (asgS_nm (by rfl)) asgSs_nil))))))) ?_
  refine exs_cons (ex_assign (ev_nm (by rfl) (by rfl)) (asgS_tuple (asgSs_cons (asgS_nm (by rfl)) (asgSs_cons (asgS_nm (by rfl)) (asgSs_cons (asgS_nm (by rfl)) (asgSs_cons (asgS_nm (by rfl)) (asgSs_cons (asgS_nm (by rfl)) asgSs_nil))))))) ?_
  refine exs_stop (ex_return (ev_tuple (evs_cons (ev_bin (ev_nm (by rfl) (by rfl)) (ev_nm (by rfl) (by rfl)) op_addI) (evs_cons (ev_bin (ev_nm (by rfl) (by rfl)) (ev_nm (by rfl) (by rfl)) op_addI) (evs_cons (ev_bin (ev_nm (by rfl) (by rfl)) (ev_nm (by rfl) (by rfl)) op_addI) (evs_cons (ev_bin (ev_nm (by rfl) (by rfl)) (ev_nm (by rfl) (by rfl)) op_addI)
    (evs_cons (ev_call_nm B (by rfl) hc.glob hc.callee (evs_cons (ev_nm (by rfl) (by rfl)) (evs_cons (ev_nm (by rfl) (by rfl)) evs_nil)) (s_add_callers (n:=n) B hgI hgT hc t.t s.t ht)) evs_nil))))))) (by simp)
end
end Mine
end
section
open PySem PySem.W PyProof.Rows
namespace Mine
section
variable {c:Cx} {n:Nat} {sc:Scope} {ρ:List (Option Sl)} {N:Nat→Prop} {tgt elt kx vx:Expr} {ifs:List Expr} {α:Type}
theorem runs_list {emb:α→D} (f:α→Option D):∀ {l:List α} {ds:List D},ds.length + l.length≤sizeLine →
    (∀ x ∈ l,∃ ρx,Asg c n sc N tgt (emb x) ρ ρx∧Lss ρ ρx∧(match f x with | some d=>IfsJ c n sc ρx ifs true∧EvE c n sc ρx elt d | none=>IfsJ c n sc ρx ifs false)) →
    RunsT (TurnJ c n sc N tgt ifs (emitL elt) ρ) (l.map emb) (.list ds) (.list (ds ++ l.filterMap f)):=by
  intro l
  induction l with
  | nil=>intro ds _ _;simp only [List.filterMap_nil,List.append_nil];exact .nil
  | cons x l ih=>
    intro ds hs h
    obtain ⟨ρx,h1,h2,h3⟩:=h x List.mem_cons_self
    have hs':ds.length + l.length + 1≤sizeLine:=by exact hs
    induction hf:f x with
    | none=>
      simp only [hf] at h3
      rw [List.filterMap_cons_none hf]
      exact .cons ⟨ρx,h1,h2,.inr ⟨h3,rfl⟩⟩ (ih (by exact Nat.le_of_lt ‹_›) fun y hy=>h y (List.mem_cons_of_mem _ hy))
    | some d=>
      simp only [hf] at h3
      rw [List.filterMap_cons_some hf]
      have ih:=ih (ds:=ds ++ [d]) (by simp only [List.length_append,List.length_singleton];lia) fun y hy=>h y (List.mem_cons_of_mem _ hy)
      simp only [List.append_assoc] at ih
      exact .cons ⟨ρx,h1,h2,.inl ⟨h3.1,body_emitL h3.2 (by lia)⟩⟩ ih
theorem runs_map {emb:α→D} (f:α→D) {l:List α} (hs:l.length≤sizeLine) (h:∀ x ∈ l,∃ ρx,Asg c n sc N tgt (emb x) ρ ρx∧Lss ρ ρx∧EvE c n sc ρx elt (f x)) :
    RunsT (TurnJ c n sc N tgt [] (emitL elt) ρ) (l.map emb) (.list []) (.list (l.map f)):=by
  have:=runs_list (c:=c) (n:=n) (sc:=sc) (ρ:=ρ) (N:=N) (tgt:=tgt) (elt:=elt) (ifs:=[]) (emb:=emb) (fun x=>some (f x)) (l:=l) (ds:=[]) (by simpa using hs) fun x hx=>by
    refine bc fun g=>?_;obtain ⟨ρx,h1,h2,h3⟩:=h x hx
    refine g ?_;exact ⟨ρx,h1,h2,ifs_nil,h3⟩
  simp only [List.nil_append] at this
  rw [show l.filterMap (fun x=>some (f x)) = l.map f by rw [← List.filterMap_eq_map];rfl] at this
  exact this
theorem runs_dict {emb:α→D} (f:α→Option (Str × D)):∀ {l:List α} {es:List (Str × D)},es.length + l.length≤sizeLine →
    (∀ x ∈ l,∃ ρx,Asg c n sc N tgt (emb x) ρ ρx∧Lss ρ ρx∧(match f x with | some p=>IfsJ c n sc ρx ifs true∧EvE c n sc ρx kx (.str p.1)∧EvE c n sc ρx vx p.2 | none=>IfsJ c n sc ρx ifs false)) →
    RunsT (TurnJ c n sc N tgt ifs (emitD kx vx) ρ) (l.map emb) (.dict es) (.dict (l.foldl (fun es x=>match f x with | some p=>storedD es p.1 p.2 | none=>es) es)):=by
  intro l
  induction l with
  | nil=>intro es _ _;exact .nil
  | cons x l ih=>
    intro es hs h
    obtain ⟨ρx,h1,h2,h3⟩:=h x List.mem_cons_self
    have hs':es.length + l.length + 1≤sizeLine:=by exact hs
    simp only [List.foldl_cons]
    induction hf:f x with
    | none=>
      simp only [hf] at h3
      exact .cons ⟨ρx,h1,h2,.inr ⟨h3,rfl⟩⟩ (ih (by exact Nat.le_of_lt ‹_›) fun y hy=>h y (List.mem_cons_of_mem _ hy))
    | some p=>
      simp only [hf] at h3
      have hl:(storedD es p.1 p.2).length≤es.length + 1:=by delta storedD;split<;>simp
      exact .cons ⟨ρx,h1,h2,.inl ⟨h3.1,body_emitD h3.2.1 h3.2.2 (by lia)⟩⟩ (ih (by lia) fun y hy=>h y (List.mem_cons_of_mem _ hy))
theorem runs_flat {emb:α→D} {body:Value→Env→Sem Unit} (f:α→List D) (K:Nat):∀ {l:List α} {ds:List D},ds.length + l.length * K≤sizeLine→(∀ x ∈ l,(f x).length≤K) →
    (∀ x ∈ l,∃ ρx,Asg c n sc N tgt (emb x) ρ ρx∧Lss ρ ρx∧IfsJ c n sc ρx ifs true∧∀ ds:List D,ds.length + K≤sizeLine→BodyJ c n sc N body ρx (.list ds) (.list (ds ++ f x))) →
    RunsT (TurnJ c n sc N tgt ifs body ρ) (l.map emb) (.list ds) (.list (ds ++ l.flatMap f)):=by
  intro l
  induction l with
  | nil=>intro ds _ _ _;simp only [List.flatMap_nil,List.append_nil];exact .nil
  | cons x l ih=>
    intro ds hs hK h
    obtain ⟨ρx,h1,h2,h3,h4⟩:=h x List.mem_cons_self
    have hk:=hK x List.mem_cons_self
    have hs':ds.length + l.length * K + K≤sizeLine:=by
      have e:(x :: l).length * K = l.length * K + K:=by simp only [List.length_cons,Nat.succ_mul]
      lia
    have ih:=ih (ds:=ds ++ f x) (by rw [List.length_append];lia) (fun y hy=>hK y (List.mem_cons_of_mem _ hy)) fun y hy=>h y (List.mem_cons_of_mem _ hy)
    rw [List.append_assoc] at ih
    rw [List.flatMap_cons]
    exact .cons ⟨ρx,h1,h2,.inl ⟨h3,(h4 ds (by have:=Nat.zero_le (l.length * K);lia))⟩⟩ ih
theorem evi_zip_nm (B:Base c) {cm:Bool} {i:Nat} {e₁ e₂:Expr} {d₁ d₂:D} {xs ys:List D} {elts:List Expr} {k:Nat} {p pos tp:Pos} (hx:ixOf sc.names (Str.ofString "zip") = some (i,NameKind.globalImplicit)) (hg:Glob c (Str.ofString "zip") (.type "zip"))
    (ha:EvEs c n sc ρ [e₁,e₂] [d₁,d₂]) (h1:SrcD c d₁ xs) (h2:SrcD c d₂ ys):EvI c cm n sc ρ (.Call (.Name (Str.ofString "zip") p) [e₁,e₂] [] pos) (.Tuple elts k tp) (zipD xs ys):=evi_zip B i (ixOf_at hx) hg ha h1 h2
theorem evi_range1_nm (B:Base c) {cm:Bool} {i:Nat} {e tgt:Expr} {b:Int} {p pos:Pos} (hx:ixOf sc.names (Str.ofString "range") = some (i,NameKind.globalImplicit)) (hg:Glob c (Str.ofString "range") (.type "range"))
    (h:EvE c n sc ρ e (.int b)) (hb:-(2 ^ 40) < b) (hb':b < 2 ^ 40) (he:noStar e = true:=by rfl):EvI c cm n sc ρ (.Call (.Name (Str.ofString "range") p) [e] [] pos) tgt (rangeD 0 b.toNat):=evi_range1 B i (ixOf_at hx) hg h hb hb' he
theorem evi_range2_nm (B:Base c) {cm:Bool} {i:Nat} {e₁ e₂ tgt:Expr} {a b:Int} {p pos:Pos} (hx:ixOf sc.names (Str.ofString "range") = some (i,NameKind.globalImplicit)) (hg:Glob c (Str.ofString "range") (.type "range"))
    (ha:EvEs c n sc ρ [e₁,e₂] [.int a,.int b]) (hla:-(2 ^ 40) < a) (hla':a < 2 ^ 40) (hb:-(2 ^ 40) < b) (hb':b < 2 ^ 40):EvI c cm n sc ρ (.Call (.Name (Str.ofString "range") p) [e₁,e₂] [] pos) tgt (rangeD a (b - a).toNat):=evi_range2 B i (ixOf_at hx) hg ha hla hla' hb hb'
end
end Mine
end
section
open PySem PySem.W PyProof.Rows
namespace Mine
noncomputable def enumL {α:Type}:Int→List α→List (Int × α)
  | _,[]=>[]
  | i,x :: l=>(i,x) :: enumL (i + 1) l
theorem enumD_map {α:Type} (f:α→D):∀ (l:List α) (i:Int),enumD i (l.map f) = (enumL i l).map fun p=>.tuple [.int p.1,f p.2]
  | [],_=>rfl
  | x :: l,i=>by simp only [List.map_cons,enumD,enumL,enumD_map f l (i + 1)]
theorem enumL_len {α:Type}:∀ (l:List α) (i:Int),(enumL i l).length = l.length
  | [],_=>rfl
  | x :: l,i=>by simp only [enumL,List.length_cons,enumL_len l]
theorem enumL_mem {α:Type}:∀ {l:List α} {i:Int} {p:Int × α},p ∈ enumL i l→p.2 ∈ l∧i≤p.1
  | [],_,_,h=>by cases h
  | x :: l,i,p,h=>by
    rcases List.mem_cons.mp h with rfl | h
    · exact ⟨List.mem_cons_self,by simp⟩
    · obtain ⟨h1,h2⟩:=enumL_mem h
      exact ⟨List.mem_cons_of_mem _ h1,by lia⟩
noncomputable def firstF (ns:List Int):List Int:=(cutL ns none (some 60)).map fun x=>x.fmod 1000000
noncomputable def partF (ns:List Int) (m:Nat) (place:Int):List Int:=(enumL 0 (firstF ns)).filterMap fun q=>if (q.1.fmod m == place) = true then some q.2 else none
noncomputable def cellsF (ns told:List Int):List Int:=(enumL 0 told).map fun p=>p.2 + (partF ns told.length p.1).sum
theorem cutL_map {α β:Type} (f:α→β) (l:List α) (a b:Option Int):cutL (l.map f) a b = (cutL l a b).map f:=by
  delta cutL;rw [List.length_map,List.map_take,List.map_drop]
theorem sumOk_of {l:List Int} (h:∀ x ∈ l,0≤x∧x < 1000000) (hl:l.length≤1000):SumOk l:=by
  have key:∀ (m:List Int),(∀ x ∈ m,0≤x∧x < 1000000)→0≤m.sum∧m.sum≤m.length * 1000000:=by
    intro m
    induction m with
    | nil=>intro _;simp
    | cons x m ih=>
      intro hm
      obtain ⟨h1,h2⟩:=hm x List.mem_cons_self
      obtain ⟨h3,h4⟩:=ih fun y hy=>hm y (List.mem_cons_of_mem _ hy)
      rw [List.sum_cons,List.length_cons]
      push_cast
      constructor<;>lia
  intro j hj
  obtain ⟨h1,h2⟩:=h _ (getD_mem hj)
  obtain ⟨h3,h4⟩:=key (l.take (j + 1)) fun x hx=>h x (List.mem_of_mem_take hx)
  have:(l.take (j + 1)).length≤1000:=Nat.le_trans (List.length_take_le' ..) hl
  constructor
  · constructor<;>lia
  · constructor
    · lia
    · have:((l.take (j + 1)).length:Int)≤1000:=by lia
      lia
section
variable {c:Cx}
theorem c_lenT {n:Nat} {ds:List D} (h:(ds.length:Int) < 2 ^ 63):CallV c n (.builtin "len") [.tuple ds] (.int ds.length):=by
  intro A s Z vs R I r
  obtain ⟨v,rfl,q⟩:=reps1 r
  replace q:=q.iT;induction q with | mk z l rr=>?_
  refine PyProof.Rows.len_tuple l (by rw [List.size_toArray,rr.length];exact h) ?_
  rw [List.size_toArray,rr.length];exact Post.here I .int
set_option maxRecDepth 100000 in
theorem s_cells (B:Base c) (hgE:Glob c (Str.ofString "enumerate") (.type "enumerate")) (hgS:Glob c (Str.ofString "sum") (.builtin "sum")) (hgL:Glob c (Str.ofString "len") (.builtin "len")) {n:Nat} {a:Addr} (h:FunAt c (P1 13) a) (ns told:List Int) (hn:ns.length≤63) (ht:told.length≤10) (ht0:told ≠ []) :
    CallV c (n + 1) (.ref a) [.list (ns.map .int),.tuple (told.map .int)] (.list ((cellsF ns told).map .int)):=by
  have big:∀ {k:Nat},k≤10000→k≤sizeLine:=fun h=>Nat.le_trans h (Nat.le_of_ble_eq_true rfl)
  have hcl:(cutL ns none (some 60)).length≤63:=by
    delta cutL
    rw [List.length_take,List.length_drop]
    lia
  have hfl:(firstF ns).length≤63:=by delta firstF;rw [List.length_map];exact hcl
  have hfb:∀ x ∈ firstF ns,0≤x∧x < 1000000:=fun x hx=>by
    obtain ⟨y,_,rfl⟩:=List.mem_map.mp hx
    exact ⟨Int.fmod_nonneg_of_pos _ (by decide),Int.fmod_lt_of_pos _ (by decide)⟩
  refine call_funE B (h.ok2 (.nm (by rfl) (.inl rfl) (by rfl) (.nm (by rfl) (.inr rfl) (by rfl) .nil))) ⟨[some (.val (.list (ns.map .int))),some (.val (.tuple (told.map .int))),some (.val (.list ((firstF ns).map .int))),none],?_⟩
  refine exs_cons (ex_assign (EvO.ev (evo_list1 (d:=.list ((firstF ns).map .int)) [none,none] [.local,.local] (by decide +kernel) (evi_val (ev_slice (ev_nm (by rfl) (by rfl)) evP_none (evP_some ev_int) (slice_list (big (by rw [List.length_map];lia)))) iter_list) ?_)) (asgS_nm (by rfl)) (swaps_eq (by decide +kernel))) ?_
  · rw [(cutL_map ..)]
    rw [(by delta firstF;rw [List.map_map];rfl:(firstF ns).map D.int = (cutL ns none (some 60)).map (fun x=>D.int (x.fmod 1000000)))]
    refine runs_map (emb:=D.int) _ (big (by lia)) fun x _=>?_
    exact ⟨_,asg_nm (by rfl) ⟨_,_,rfl,by decide⟩,Lss.set (by rfl),ev_bin (ev_nm (by rfl) (by rfl)) ev_int (op_modI (by decide))⟩
  refine exs_stop (ex_return (EvO.ev (evo_list1 (d:=.list ((cellsF ns told).map .int)) [none,none,none,none,none,some 2,some 1] [.local,.cell,.local,.globalImplicit,.globalImplicit,.cell,.cell] (by decide +kernel) (evi_enum_nm B (by rfl) hgE (evn_val (ev_nm (by rfl) (by rfl)) src_tuple)) ?_))) (by simp)
  rw [enumD_map]
  rw [(by delta cellsF;rw [List.map_map];rfl:(cellsF ns told).map D.int = (enumL 0 told).map (fun p=>D.int (p.2 + (partF ns told.length p.1).sum)))]
  refine runs_map (emb:=fun (p:Int × Int)=>.tuple [.int p.1,.int p.2]) _ (big (by rw [enumL_len];lia)) fun p hp=>?_
  have hpl:∀ x ∈ partF ns told.length p.1,0≤x∧x < 1000000:=fun x hx=>by
    delta partF at hx
    obtain ⟨q,hq,hqx⟩:=List.mem_filterMap.mp hx
    split at hqx
    · cases hqx;exact hfb _ (enumL_mem hq).1
    · cases hqx
  have hpn:(partF ns told.length p.1).length≤1000:=by
    delta partF
    exact Nat.le_trans (List.length_filterMap_le ..) (by rw [enumL_len];lia)
  refine ⟨_,asg_tuple (asgs_cons (asg_nm (by rfl) ⟨_,_,rfl,by decide⟩) (asgs_cons (asg_nm (by rfl) ⟨_,_,rfl,by decide⟩) asgs_nil)),(Lss.set (by rfl)).trans (Lss.set (by rfl)),?_⟩
  refine ev_bin (ev_nm (by rfl) (by rfl)) (ev_call_nm B (by rfl) hgS callee_builtin (evs_cons (EvO.ev (evo_list1 (d:=.list ((partF ns told.length p.1).map .int)) [none,none,none,none,some 1,some 6] [.local,.local,.local,.globalImplicit,.cell,.cell] (by decide +kernel) (evi_enum_nm B (by rfl) hgE (evn_val (ev_nm (by rfl) (by rfl)) src_list)) ?_)) evs_nil) (c_sum (sumOk_of hpl hpn))) op_addI
  rw [enumD_map]
  have e2:(partF ns told.length p.1).map D.int = (enumL 0 (firstF ns)).filterMap fun q=>if (q.1.fmod told.length == p.1) = true then some (D.int q.2) else none:=by
    delta partF
    rw [List.map_filterMap]
    congr 1
    funext q
    split<;>rfl
  rw [e2]
  refine runs_list (emb:=fun (p:Int × Int)=>.tuple [.int p.1,.int p.2]) (ds:=[]) _ (big (by rw [enumL_len,List.length_nil];lia)) fun q hq=>?_
  refine ⟨_,asg_tuple (asgs_cons (asg_nm (by rfl) ⟨_,_,rfl,by decide⟩) (asgs_cons (asg_nm (by rfl) ⟨_,_,rfl,by decide⟩) asgs_nil)),(Lss.set (by rfl)).trans (Lss.set (by rfl)),?_⟩
  have hlt:((told.map D.int).length:Int) < 2 ^ 63:=by rw [List.length_map];lia
  have hl0:((told.map D.int).length:Int) ≠ 0:=by
    rw [List.length_map]
    have:=List.length_pos_iff.mpr ht0
    lia
  have hb:((q.1.fmod ((told.map D.int).length:Int)) == p.1) = (q.1.fmod told.length == p.1):=by rw [List.length_map]
  induction hq2:(q.1.fmod told.length == p.1) with
  | true=>
    dsimp only [if_true]
    exact ⟨ifs_one (evT_cmp (ev_bin (ev_nm (by rfl) (by rfl)) (ev_call_nm B (by rfl) hgL callee_builtin (evs_cons (ev_nm (by rfl) (by rfl)) evs_nil) (c_lenT hlt)) (op_modI hl0)) (ev_nm (by rfl) (by rfl)) (cm_eqB 1 (b:=(q.1.fmod ((told.map D.int).length:Int)) == p.1) rfl (by rw [hb,hq2]))),ev_nm (by rfl) (by rfl)⟩
  | false=>
    dsimp only [Bool.false_eq_true,if_false]
    exact ifs_one (evT_cmp (ev_bin (ev_nm (by rfl) (by rfl)) (ev_call_nm B (by rfl) hgL callee_builtin (evs_cons (ev_nm (by rfl) (by rfl)) evs_nil) (c_lenT hlt)) (op_modI hl0)) (ev_nm (by rfl) (by rfl)) (cm_eqB 1 (b:=(q.1.fmod ((told.map D.int).length:Int)) == p.1) rfl (by rw [hb,hq2])))
end
end Mine
end
section
open PySem PySem.W PyProof.Rows
namespace Mine
theorem seqIx {i:Int} {m:Nat} (h0:0≤i) (h1:i < m):seqIndex? i m = some i.toNat:=by
  delta seqIndex?
  simp only [(Int.not_lt.mpr h0:¬ i < 0),if_false]
  rw [if_pos (by simp;lia)]
theorem getD_at {l:List Int} {i:Nat} (h:i < l.length):(l.map D.int)[i]? = some (.int (l.getD i 0)):=by
  rw [List.getElem?_map,List.getElem?_eq_getElem h]
  simp only [List.getD,List.getElem?_eq_getElem h,Option.map_some,Option.getD_some]
section
variable {c:Cx}
end
end Mine
end
section
open PySem PySem.W PyProof.Rows
namespace Mine
theorem zipD_map {α β:Type} (f:α→D) (g:β→D) (l:List α) (m:List β):zipD (l.map f) (m.map g) = (l.zip m).map fun p=>.tuple [f p.1,g p.2]:=by
  delta zipD
  rw [List.zip_map,List.map_map]
  rfl
section
variable {c:Cx}
end
end Mine
end
section
open PySem PySem.W PyProof.Rows
namespace Mine
noncomputable def clsBody:Stmt→List Stmt
  | .ClassDef _ _ _ body ..=>body
  | _=>[]
noncomputable def M1 (k j:Nat):FRec:=fRec ((clsBody (stmtAt PySem.Challenge.pw_xc0033_01 k)).getD j (.Pass default))
noncomputable def forTgt:Stmt→Expr
  | .For t _ _ _ _=>t
  | _=>default
noncomputable def forBody:Stmt→List Stmt
  | .For _ _ b _ _=>b
  | _=>[]
theorem cm_gtB {c:Cx} {n:Nat} {a b:Int} {r:Bool} (h:r = decide (b < a)):CmpG c n .Gt (.int a) (.int b) r:=h▸cm_gt
theorem cm_geB {c:Cx} {n:Nat} {a b:Int} {r:Bool} (h:r = decide (b≤a)):CmpG c n .GtE (.int a) (.int b) r:=h▸cm_ge
theorem cm_leB {c:Cx} {n:Nat} {a b:Int} {r:Bool} (h:r = decide (a≤b)):CmpG c n .LtE (.int a) (.int b) r:=h▸cm_le
structure TCls (c:Cx) (C Na:Addr) (mN:Str→Option Value) (ai ac:Addr):Prop where
  k:ClassAt c (Str.ofString "TupleComp") C Na mN
  i:MethAt c mN (M1 2 0) ai
  c:MethAt c mN (M1 2 1) ac
  n:mN (Str.ofString "comp_select_list") = none
noncomputable def tcObj (sel:D):D:=.obj (Str.ofString "TupleComp") [(Str.ofString "comp_select_list",sel)]
noncomputable def selD (way:Int):D:=.list [.tuple [.int 0,.int 1],.tuple [.int 1,.int way]]
noncomputable def cmp2 (way a0 a1 b0 b1:Int):Int:=if a0 < b0 then -1 else if b0 < a0 then 1 else if a1 < b1 then -way else if b1 < a1 then way else 0
section
variable {c:Cx} {C Na:Addr} {mN:Str→Option Value} {ai ac:Addr}
set_option maxRecDepth 100000 in
theorem s_tcNew (B:Base c) {n:Nat} (T:TCls c C Na mN ai ac) (sel:D) (hs:isRaw sel = false):CallV c (n + 2) (.ref C) [sel] (tcObj sel):=by
  refine c_new B T.k (i:=0) (ρ₀:=[none,some (.val sel)]) (ρ':=[none,some (.val sel)]) T.i (by decide +kernel) (fun x=>?_) ?_
  · exact T.i.ok2 (.nm (by rfl) (.inl rfl) (by rfl) (.nm (by rfl) (.inl rfl) (by rfl) .nil))
  · refine exI_store T.k (by rfl) (by simp) (fun x=>ev_nm (by rfl) (by rfl)) T.n (by decide) exI_nil
set_option maxRecDepth 100000 in
theorem s_tcCmp (B:Base c) {n:Nat} (T:TCls c C Na mN ai ac) (way a0 a1 b0 b1:Int) (ls rs:List D) (hl:ls.length≤1000) (hr:rs.length≤1000) :
    CallV c (n + 1) (.ref ac) [tcObj (selD way),.tuple (.int a0 :: .int a1 :: ls),.tuple (.int b0 :: .int b1 :: rs)] (.int (cmp2 way a0 a1 b0 b1)):=by
  have H:FunOk c ac (M1 2 1).scope (M1 2 1).body [tcObj (selD way),.tuple (.int a0 :: .int a1 :: ls),.tuple (.int b0 :: .int b1 :: rs)] [some (.val (tcObj (selD way))),some (.val (.tuple (.int a0 :: .int a1 :: ls))),some (.val (.tuple (.int b0 :: .int b1 :: rs))),none,none,none,none]:=
    T.c.ok3 (.nm (by rfl) (.inl rfl) (by rfl) (.nm (by rfl) (.inl rfl) (by rfl) (.nm (by rfl) (.inl rfl) (by rfl) .nil)))
  let st:Option Sl→Option Sl→Option Sl→Option Sl→List (Option Sl):=fun i d l r=>[some (.val (tcObj (selD way))),some (.val (.tuple (.int a0 :: .int a1 :: ls))),some (.val (.tuple (.int b0 :: .int b1 :: rs))),i,d,l,r]
  let I:Int→Option Sl:=fun i=>some (.val (.int i))
  have turn:∀ (j:Int) (k:Nat) (d x y:Int) (i0 d0 l0 r0:Option Sl),seqIndex? j (D.int a0 :: .int a1 :: ls).length = some k→seqIndex? j (D.int b0 :: .int b1 :: rs).length = some k→(D.int a0 :: .int a1 :: ls)[k]? = some (.int x)→(D.int b0 :: .int b1 :: rs)[k]? = some (.int y) →
      AsgS c n (M1 2 1).scope (forTgt ((M1 2 1).body.getD 0 (.Pass default))) (.tuple [.int j,.int d]) (st i0 d0 l0 r0) (st (I j) (I d) l0 r0) ∧
      Exs c n (M1 2 1).scope (forBody ((M1 2 1).body.getD 0 (.Pass default))) (st (I j) (I d) l0 r0) (if x < y then .ret (.int (-d)) else if y < x then .ret (.int d) else .next) (st (I j) (I d) (I x) (I y)):=by
    intro j k d x y i0 d0 l0 r0 h1 h2 h3 h4
    refine ⟨asgS_tuple (asgSs_cons (asgS_nm (by rfl)) (asgSs_cons (asgS_nm (by rfl)) asgSs_nil)),?_⟩
    refine exs_cons (ex_assign (ev_sub (ev_nm (by rfl) (by rfl)) (ev_nm (by rfl) (by rfl)) (sub_tuple _ h1 h3 (by simp;lia))) (asgS_nm (by rfl))) ?_
    refine exs_cons (ex_assign (ev_sub (ev_nm (by rfl) (by rfl)) (ev_nm (by rfl) (by rfl)) (sub_tuple _ h2 h4 (by simp;lia))) (asgS_nm (by rfl))) ?_
    by_cases q:x < y
    · rw [if_pos q]
      refine exs_stop (ex_if_t (evT_cmp (ev_nm (by rfl) (by rfl)) (ev_nm (by rfl) (by rfl)) (cm_ltB (decide_eq_true q).symm)) (exs_stop (ex_return (ev_neg (ev_nm (by rfl) (by rfl)))) (by simp))) (by simp)
    · rw [if_neg q]
      refine exs_cons (ex_if_f (evT_cmp (ev_nm (by rfl) (by rfl)) (ev_nm (by rfl) (by rfl)) (cm_ltB (decide_eq_false q).symm)) exs_nil) ?_
      by_cases q2:y < x
      · rw [if_pos q2]
        refine exs_stop (ex_if_t (evT_cmp (ev_nm (by rfl) (by rfl)) (ev_nm (by rfl) (by rfl)) (cm_gtB (decide_eq_true q2).symm)) (exs_stop (ex_return (ev_nm (by rfl) (by rfl))) (by simp))) (by simp)
      · rw [if_neg q2]
        exact exs_cons (ex_if_f (evT_cmp (ev_nm (by rfl) (by rfl)) (ev_nm (by rfl) (by rfl)) (cm_gtB (decide_eq_false q2).symm)) exs_nil) exs_nil
  obtain ⟨s1,t1⟩:=turn 0 0 1 a0 b0 none none none none (seqIx (by lia) (by simp;lia)) (seqIx (by lia) (by simp;lia)) rfl rfl
  delta cmp2
  by_cases q:a0 < b0
  · rw [if_pos q] at t1 ⊢
    exact call_funE B H ⟨_,exs_stop (ex_for (evi_val (ev_attr (ev_nm (by rfl) (by rfl)) (at_obj T.k (by rfl) T.n)) iter_list) (.ret s1 t1)) (by simp)⟩
  · rw [if_neg q] at t1 ⊢
    by_cases q2:b0 < a0
    · rw [if_pos q2] at t1 ⊢
      exact call_funE B H ⟨_,exs_stop (ex_for (evi_val (ev_attr (ev_nm (by rfl) (by rfl)) (at_obj T.k (by rfl) T.n)) iter_list) (.ret s1 t1)) (by simp)⟩
    · rw [if_neg q2] at t1 ⊢
      obtain ⟨s2,t2⟩:=turn 1 1 way a1 b1 (I 0) (I 1) (I a0) (I b0) (seqIx (by lia) (by simp;lia)) (seqIx (by lia) (by simp;lia)) rfl rfl
      by_cases q3:a1 < b1
      · rw [if_pos q3] at t2 ⊢
        exact call_funE B H ⟨_,exs_stop (ex_for (evi_val (ev_attr (ev_nm (by rfl) (by rfl)) (at_obj T.k (by rfl) T.n)) iter_list) (.step s1 t1 (.inl rfl) (.ret s2 t2))) (by simp)⟩
      · rw [if_neg q3] at t2 ⊢
        by_cases q4:b1 < a1
        · rw [if_pos q4] at t2 ⊢
          exact call_funE B H ⟨_,exs_stop (ex_for (evi_val (ev_attr (ev_nm (by rfl) (by rfl)) (at_obj T.k (by rfl) T.n)) iter_list) (.step s1 t1 (.inl rfl) (.ret s2 t2))) (by simp)⟩
        · rw [if_neg q4] at t2 ⊢
          exact call_funE B H ⟨_,exs_cons (ex_for (evi_val (ev_attr (ev_nm (by rfl) (by rfl)) (at_obj T.k (by rfl) T.n)) iter_list) (.step s1 t1 (.inl rfl) (.step s2 t2 (.inl rfl) .nil))) (exs_stop (ex_return ev_int) (by simp))⟩
end
end Mine
end
section
open PySem PySem.W PyProof.Rows
namespace Mine
theorem exI_freeze {c:Cx} {n:Nat} {sc:Scope} {N:Str} {C:Addr} {i:Nat} {es es':List (Str × D)} {ρ ρ':List (Option Sl)} (j:Nat) {y:Str} {k:NameKind} {d:D} {sts:List Stmt} (hx:sc.names[j]? = some (y,k)) (hj:j ≠ i) (hρ:ρ[j]? = some (some (.own d))) (h:ExI c n sc N C i es (ρ.set j (some (.val d))) sts es' ρ'):ExI c n sc N C i es ρ sts es' ρ':=by
  intro A s Z W env x dx R I O F
  refine bc fun g=>?_;obtain ⟨Z',W',S,a,hza,hwa,_,rfl⟩:=F.freeze I hx (d:=d) (by rw [List.getElem?_set,if_neg (Ne.symm hj)];exact hρ)
  rw [(List.set_comm _ _ (Ne.symm hj))] at S
  have gone:∀ b,W' b→W b∨s.heap.get? b = none:=S.wnew
  have wW:∀ b,(∃ o,s.heap.get? b = some o)→W' b→W b:=fun b hl w=>by
    rcases S.wnew b w with q | q
    · exact q
    · obtain ⟨o,e⟩:=hl;rw [e] at q;cases q
  obtain ⟨kvs,ho,hre⟩:=O.obj
  have S₁:IStp c sc env ((ρ.set j (some (.val d))).set i (some (.val (.raw (.ref x))))) C x dx es s Z W s (Zadd Z a) W':=by
    refine ⟨S.inv,⟨fun q=>?_,fun q=>?_,fun q=>O.wx (wW x O.live.1 q),fun q=>O.wd (wW dx O.live.2 q),kvs,ho,repE_mono (fun _ _ _ e=>e) (fun b hb=>S.evo.zmono b hb) hre⟩,S.fr,S.evo.wider fun _ h=>.inl h,S.wnew,S.wl⟩
    · rcases q with q | q
      · exact O.zx q
      · exact (fun q=>O.wx (q▸hwa):a ≠ x) q.symm
    · rcases q with q | q
      · exact O.zd q
      · exact (fun q=>O.wd (q▸hwa):a ≠ dx) q.symm
  refine g ?_;refine wpAny_mono (h A s _ W' env x dx R S₁.inv S₁.ob S₁.fr) (?_) fun _ _ x=>x;intro f s₂ q;refine bc fun g=>?_;obtain ⟨hf,Z₂,W₂,S₂⟩:=q;refine g (?_)
  exact ⟨hf,Z₂,W₂,S₁.trans S₂⟩
structure WCls (c:Cx) (C Na:Addr) (mN:Str→Option Value) (ai al ad ae:Addr):Prop where
  k:ClassAt c (Str.ofString "Whitespace") C Na mN
  i:MethAt c mN (M1 11 1) ai
  l:MethAt c mN (M1 11 2) al
  d:MethAt c mN (M1 11 3) ad
  e:MethAt c mN (M1 11 6) ae
  s:∃ t,ClsVal c C (Str.ofString "S") (.str (Str.ofString " ") t)
  t:∃ t,ClsVal c C (Str.ofString "T") (.str (Str.ofString "\t") t)
  raw:mN (Str.ofString "raw") = none
  n:mN (Str.ofString "n") = none
  nt:mN (Str.ofString "nt") = none
  norm:mN (Str.ofString "norm") = none
  sim:mN (Str.ofString "is_simple") = none
noncomputable def blk:Str:=Str.ofString " "
noncomputable def tab:Str:=Str.ofString "\t"
noncomputable def ch1 (ch:Nat):Str:=⟨#[ch]⟩
noncomputable def grown (cnt:List Int) (b:Int):List Int:=if (cnt.length:Int)≤b then cnt ++ List.replicate (b - cnt.length + 1).toNat 0 else cnt
noncomputable def bump (cnt:List Int) (b:Int):List Int:=(grown cnt b).set b.toNat ((grown cnt b).getD b.toNat 0 + 1)
noncomputable def wsL:List Nat→List Int→Int→Int→Int→List Int × Int × Int × Int
  | [],cnt,b,n,nt=>(cnt,b,n,nt)
  | ch :: r,cnt,b,n,nt=>if (ch1 ch == blk) = true then wsL r cnt (b + 1) (n + 1) nt else if (ch1 ch == tab) = true then wsL r (bump cnt b) 0 (n + 1) (nt + 1) else (cnt,b,n,nt)
structure Ws where
  raw:Str
  n:Int
  nt:Int
  cnt:List Int
  tr:Int
noncomputable def wsF (x:Str):Ws:=let p:=wsL x.cps.toList [] 0 0 0;⟨x,p.2.2.1,p.2.2.2,p.1,p.2.1⟩
noncomputable def wsD (w:Ws):D:=.obj (Str.ofString "Whitespace") [(Str.ofString "is_simple",.bool (decide ((w.cnt.length:Int)≤1))),(Str.ofString "norm",.tuple [.tuple (w.cnt.map .int),.int w.tr]),(Str.ofString "nt",.int w.nt),(Str.ofString "n",.int w.n),(Str.ofString "raw",.str w.raw)]
theorem grown_len (cnt:List Int) {b:Int} (hb:0≤b):b < (grown cnt b).length∧((grown cnt b).length:Int)≤max (cnt.length:Int) (b + 1):=by
  delta grown
  split
  · rw [List.length_append,List.length_replicate];lia
  · lia
theorem bump_len (cnt:List Int) (b:Int):(bump cnt b).length = (grown cnt b).length:=by simp [bump]
noncomputable def wsFor:Stmt:=(M1 11 1).body.getD 4 (.Pass default)
section
variable {c:Cx} {C Na:Addr} {mN:Str→Option Value} {ai al ad ae:Addr}
noncomputable def wsR (self:Option Sl) (x:Str) (cnt:List Int) (b n nt:Int) (ch:Option Sl):List (Option Sl):=
  [self,some (.val (.str x)),some (.val (.str blk)),some (.val (.str tab)),some (.own (.list (cnt.map .int))),some (.val (.int b)),some (.val (.int n)),some (.val (.int nt)),ch,none,none,none]
set_option maxRecDepth 100000 in
theorem ws_turn (B:Base c) (hgL:Glob c (Str.ofString "len") (.builtin "len")) {m:Nat} (self:Option Sl) (x:Str) (cnt:List Int) (b n nt:Int) (ch:Nat) (h0:Option Sl) (hb:0≤b) (hb2:b≤200) (hc:cnt.length≤201) :
    AsgS c m (M1 11 1).scope (forTgt wsFor) (sgn ch) (wsR self x cnt b n nt h0) (wsR self x cnt b n nt (some (.val (sgn ch)))) ∧
    Exs c m (M1 11 1).scope (forBody wsFor) (wsR self x cnt b n nt (some (.val (sgn ch)))) (if (ch1 ch == blk) = true then .next else if (ch1 ch == tab) = true then .next else .brk)
      (if (ch1 ch == blk) = true then wsR self x cnt (b + 1) (n + 1) nt (some (.val (sgn ch))) else if (ch1 ch == tab) = true then wsR self x (bump cnt b) 0 (n + 1) (nt + 1) (some (.val (sgn ch))) else wsR self x cnt b n nt (some (.val (sgn ch)))):=by
  refine ⟨?_,?_⟩
  · exact asgS_nm (i:=8) (k:=.local) (x:=Str.ofString "ch") (by rfl)
  by_cases q1:(ch1 ch == blk) = true
  · rw [if_pos q1,if_pos q1]
    refine exs_cons (ex_if_t (evT_cmp (ev_nm (by rfl) (by rfl)) (ev_nm (by rfl) (by rfl)) (cm_eqB 1 (b:=ch1 ch == blk) rfl q1.symm)) ?_) exs_nil
    exact exs_cons (ex_assign (ev_bin (ev_nm (by rfl) (by rfl)) ev_int op_addI) (asgS_nm (by rfl))) (exs_cons (ex_assign (ev_bin (ev_nm (by rfl) (by rfl)) ev_int op_addI) (asgS_nm (by rfl))) exs_nil)
  · rw [if_neg q1,if_neg q1]
    have q1':false = (ch1 ch == blk):=by simpa using q1
    by_cases q2:(ch1 ch == tab) = true
    · rw [if_pos q2,if_pos q2]
      refine exs_cons (ex_if_f (evT_cmp (ev_nm (by rfl) (by rfl)) (ev_nm (by rfl) (by rfl)) (cm_eqB 1 (b:=ch1 ch == blk) rfl q1')) (exs_cons (ex_if_t (evT_cmp (ev_nm (by rfl) (by rfl)) (ev_nm (by rfl) (by rfl)) (cm_eqB 1 (b:=ch1 ch == tab) rfl q2.symm)) ?_) exs_nil)) exs_nil
      refine exs_cons (ex_assign (ev_bin (ev_nm (by rfl) (by rfl)) ev_int op_addI) (asgS_nm (by rfl))) (exs_cons (ex_assign (ev_bin (ev_nm (by rfl) (by rfl)) ev_int op_addI) (asgS_nm (by rfl))) ?_)
      obtain ⟨g1,g2⟩:=grown_len cnt hb
      have hlen:EvE c m (M1 11 1).scope (wsR self x cnt b (n + 1) (nt + 1) (some (.val (sgn ch)))) (.Call (.Name (Str.ofString "len") default) [.Name (Str.ofString "count") default] [] default) (.int cnt.length):=by
        have:=ev_peek (c:=c) (n:=m) (sc:=(M1 11 1).scope) (ρ:=wsR self x cnt b (n + 1) (nt + 1) (some (.val (sgn ch)))) 4 rfl rfl (ev_call_nm B (p:=default) (pos:=default) (by rfl) hgL callee_builtin (evs_cons (ev_nm (x:=Str.ofString "count") (pos:=default) (by rfl) (by rfl)) evs_nil) (c_lenL (by rw [List.length_map];lia)))
        rw [List.length_map] at this;exact this
      have step2:∀ st,Ex c m (M1 11 1).scope st (wsR self x cnt b (n + 1) (nt + 1) (some (.val (sgn ch)))) .next (wsR self x (grown cnt b) b (n + 1) (nt + 1) (some (.val (sgn ch))))→True:=fun _ _=>trivial
      refine exs_cons (ρ₁:=wsR self x (grown cnt b) b (n + 1) (nt + 1) (some (.val (sgn ch)))) ?_ ?_
      · by_cases q3:(cnt.length:Int)≤b
        · have hg:grown cnt b = cnt ++ List.replicate (b - cnt.length + 1).toNat 0:=if_pos q3
          rw [hg]
          refine ex_if_t (evT_cmp (ev_nm (by rfl) (by rfl)) (ev_peek 4 rfl rfl (ev_call_nm B (by rfl) hgL callee_builtin (evs_cons (ev_nm (by rfl) (by rfl)) evs_nil) (c_lenL (by rw [List.length_map];lia)))) (cm_geB (by rw [List.length_map];exact (decide_eq_true q3).symm))) ?_
          refine exs_cons (ex_less (ex_assignO 4 (by rfl) (evo_peek 4 (by rfl) (by rfl) (evo_bin (ev_nm (by rfl) (by rfl)) (ev_bin (ev_list (evs_cons ev_int evs_nil)) (ev_bin (ev_bin (ev_nm (by rfl) (by rfl)) (ev_call_nm B (by rfl) hgL callee_builtin (evs_cons (ev_nm (by rfl) (by rfl)) evs_nil) (c_lenL (by rw [List.length_map];lia))) op_subI) ev_int op_addI) (oo_mulL (by rw [List.length_map];lia) (by rw [List.length_map];lia) (by rw [List.length_map];simp;lia)).op) (oo_addL ((fun h=>Nat.le_trans h (Nat.le_of_ble_eq_true rfl):∀ {k:Nat},k≤10000→k≤sizeLine) (by rw [List.length_map];simp;lia)))) ?_)) Lss.refl ?_) exs_nil
          · refine (?_:List.all _ flat = true)
            simp [flat]
          · skip
            refine .cons (.inr rfl) (.cons (.inr rfl) (.cons (.inr rfl) (.cons (.inr rfl) (.cons (.inr ?_) (.cons (.inr rfl) (.cons (.inr rfl) (.cons (.inr rfl) (.cons (.inr rfl) Lss.refl))))))))
            simp
        · have hg:grown cnt b = cnt:=if_neg q3
          rw [hg]
          exact ex_if_f (evT_cmp (ev_nm (by rfl) (by rfl)) (ev_peek 4 rfl rfl (ev_call_nm B (by rfl) hgL callee_builtin (evs_cons (ev_nm (by rfl) (by rfl)) evs_nil) (c_lenL (by rw [List.length_map];lia)))) (cm_geB (by rw [List.length_map];exact (decide_eq_false q3).symm))) exs_nil
      · have hgl:((grown cnt b).map D.int).length = (grown cnt b).length:=List.length_map _
        refine exs_cons (ρ₁:=wsR self x (bump cnt b) b (n + 1) (nt + 1) (some (.val (sgn ch)))) ?_ (exs_cons (ex_assign ev_int (asgS_nm (by rfl))) exs_nil)
        refine ex_less (ex_assign (ev_bin (ev_peek 4 (by rfl) (by rfl) (ev_sub (ev_nm (by rfl) (by rfl)) (ev_nm (by rfl) (by rfl)) (sub_list b.toNat (seqIx hb (by rw [hgl];exact g1)) (getD_at (by lia)) (by rw [hgl];lia)))) ev_int op_addI) (asg_subL 4 (by rfl) (by rfl) (ev_nm (by rfl) (by rfl)) hb (by rw [hgl];exact g1) (by lia))) Lss.refl ?_
        refine .cons (.inr rfl) (.cons (.inr rfl) (.cons (.inr rfl) (.cons (.inr rfl) (.cons (.inr ?_) (.cons (.inr rfl) (.cons (.inr rfl) (.cons (.inr rfl) (.cons (.inr rfl) Lss.refl))))))))
        simp [bump,List.map_set]
    · rw [if_neg q2,if_neg q2]
      exact exs_stop (ex_if_f (evT_cmp (ev_nm (by rfl) (by rfl)) (ev_nm (by rfl) (by rfl)) (cm_eqB 1 (b:=ch1 ch == blk) rfl q1')) (exs_stop (ex_if_f (evT_cmp (ev_nm (by rfl) (by rfl)) (ev_nm (by rfl) (by rfl)) (cm_eqB 1 (b:=ch1 ch == tab) rfl (by simpa using q2))) (exs_stop ex_break (by simp))) (by simp))) (by simp)
end
end Mine
end
section
open PySem PySem.W PyProof.Rows
namespace Mine
section
variable {c:Cx} {C Na:Addr} {mN:Str→Option Value} {ai al ad ae:Addr}
noncomputable def wsCh:List Nat→Option Sl→Option Sl
  | [],h=>h
  | ch :: r,_=>if (ch1 ch == blk) = true then wsCh r (some (.val (sgn ch))) else if (ch1 ch == tab) = true then wsCh r (some (.val (sgn ch))) else some (.val (sgn ch))
theorem iteV {α:Type} {p:Prop} [Decidable p] {a b:α} {P:α→Prop} (h1:P a) (h2:P b):P (if p then a else b):=by by_cases h:p;exact (if_pos h).symm▸h1;exact (if_neg h).symm▸h2
theorem wsCh_flat (r:List Nat) (h:Option Sl) (hh:flatSl h):flatSl (wsCh r h):=by
  induction r generalizing h with
  | nil=>exact hh
  | cons ch r ih=>
    refine (?_:flatSl (if (ch1 ch == blk) = true then wsCh r (some (.val (sgn ch))) else if (ch1 ch == tab) = true then wsCh r (some (.val (sgn ch))) else some (.val (sgn ch))))
    refine iteV (ih _ trivial) (iteV (ih _ trivial) trivial)
theorem flc {α:Type} {P:α→Prop} {a:α} {l:List α} (h:P a) (t:∀ x ∈ l,P x):∀ x ∈ a :: l,P x:=List.forall_mem_cons.mpr ⟨h,t⟩
theorem fln {α:Type} {P:α→Prop}:∀ x ∈ ([]:List α),P x:=fun _ h=>nomatch h
theorem ws_loop (B:Base c) (hgL:Glob c (Str.ofString "len") (.builtin "len")) {m:Nat} (self:Option Sl) (x:Str):∀ (r:List Nat) (cnt:List Int) (b n nt:Int) (h0:Option Sl),0≤b→b + r.length≤200→cnt.length≤201 →
    LoopF c m (M1 11 1).scope (forTgt wsFor) (forBody wsFor) (r.map sgn) (wsR self x cnt b n nt h0) .next (wsR self x (wsL r cnt b n nt).1 (wsL r cnt b n nt).2.1 (wsL r cnt b n nt).2.2.1 (wsL r cnt b n nt).2.2.2 (wsCh r h0))
  | [],cnt,b,n,nt,h0,_,_,_=>.nil
  | ch :: r,cnt,b,n,nt,h0,hb,hb2,hc=>by
    rw [List.length_cons] at hb2
    obtain ⟨t1,t2⟩:=ws_turn B hgL (m:=m) self x cnt b n nt ch h0 hb (by lia) hc
    unfold wsL wsCh
    by_cases q1:(ch1 ch == blk) = true
    · rw [if_pos q1] at t2
      rw [if_pos q1] at t2
      simp only [if_pos q1]
      exact .step t1 t2 (.inl rfl) (ws_loop B hgL (m:=m) self x r cnt (b + 1) (n + 1) nt (some (.val (sgn ch))) (by lia) (by lia) hc)
    · rw [if_neg q1] at t2
      rw [if_neg q1] at t2
      simp only [if_neg q1]
      by_cases q2:(ch1 ch == tab) = true
      · rw [if_pos q2] at t2
        rw [if_pos q2] at t2
        simp only [if_pos q2]
        have hg:=grown_len cnt hb
        exact .step t1 t2 (.inl rfl) (ws_loop B hgL (m:=m) self x r (bump cnt b) 0 (n + 1) (nt + 1) (some (.val (sgn ch))) (by lia) (by lia) (by rw [bump_len];lia))
      · rw [if_neg q2] at t2
        rw [if_neg q2] at t2
        simp only [if_neg q2]
        exact .brk t1 t2
theorem at_loc {a:Addr} {d e:D} {x:Str} (h:AttrG c d x e):AttrG c (.loc a d) x e:=fun A s Z v I r=>by
  cases r with | loc r=>exact h A s Z _ I r
theorem wsL_len:∀ (r:List Nat) (cnt:List Int) (b n nt:Int),0≤b→b + r.length≤200→cnt.length≤201→(wsL r cnt b n nt).1.length≤201
  | [],_,_,_,_,_,_,hc=>hc
  | ch :: r,cnt,b,n,nt,hb,hb2,hc=>by
    rw [List.length_cons] at hb2
    dsimp only [wsL]
    split
    · exact wsL_len r cnt _ _ _ (by lia) (by lia) hc
    · split
      · have hg:=grown_len cnt hb
        exact wsL_len r _ _ _ _ (by lia) (by lia) (by rw [bump_len];lia)
      · exact hc
set_option maxRecDepth 100000 in
theorem s_wsNew (B:Base c) (hgL:Glob c (Str.ofString "len") (.builtin "len")) (hgT:Glob c (Str.ofString "tuple") (.type "tuple")) (W:WCls c C Na mN ai al ad ae) {n:Nat} (x:Str) (hx:x.cps.size≤200):CallV c (n + 2) (.ref C) [.str x] (wsD (wsF x)):=by
  obtain ⟨tS,hS⟩:=W.s
  obtain ⟨tT,hT⟩:=W.t
  have hxl:x.cps.toList.length≤200:=by exact hx
  let h1:=wsCh x.cps.toList none
  have hlen:(wsF x).cnt.length≤201:=wsL_len x.cps.toList [] 0 0 0 (by lia) (by lia) (by simp)
  refine c_new B W.k (i:=0) (ρ₀:=[none,some (.val (.str x)),none,none,none,none,none,none,none,none,none,none]) (ρ':=(wsR none x (wsF x).cnt (wsF x).tr (wsF x).n (wsF x).nt h1).set 4 (some (.val (.list ((wsF x).cnt.map .int))))) W.i (by decide +kernel) (fun x=>?_) ?_
  · exact W.i.ok2 (.nm (by rfl) (.inl rfl) (by rfl) (.nm (by rfl) (.inl rfl) (by rfl) .nil))
  · refine exI_store W.k (by rfl) (Nat.le_of_ble_eq_true rfl) (fun x=>ev_nm (by rfl) (by rfl)) W.raw (by decide) ?_
    refine exI_mid W.k (ρ₁:=[none,some (.val (.str x)),some (.val (.str blk)),some (.val (.str tab)),none,none,none,none,none,none,none,none]) (by rfl) (Nat.le_of_ble_eq_true rfl) (Nat.le_of_ble_eq_true rfl) (fun y=>⟨_,ex_swap (xs:=[Str.ofString "S",Str.ofString "T"]) (sls:=[.val (.str blk),.val (.str tab)]) (by rfl) (evms_val (ev_attr (ev_globR B (by rfl) (.inl W.k.g)) (at_cls hS fun _ _=>.str)) (evms_val (ev_attr (ev_globR B (by rfl) (.inl W.k.g)) (at_cls hT fun _ _=>.str)) evms_nil)) (.nm (by rfl) (.inl rfl) (by rfl) (.nm (by rfl) (.inl rfl) (by rfl) .nil)) (by decide +kernel),by exact Lss.refl⟩) (by (repeat' refine flc ?_ ?_);all_goals first | exact True.intro | exact fln) ?_
    refine exI_mid W.k (ρ₁:=[none,some (.val (.str x)),some (.val (.str blk)),some (.val (.str tab)),some (.own (.list [])),none,none,none,none,none,none,none]) (by rfl) (Nat.le_of_ble_eq_true rfl) (Nat.le_of_ble_eq_true rfl) (fun y=>⟨_,ex_assignO 4 (by rfl) (evo_list evs_nil),by exact Lss.refl⟩) (by (repeat' refine flc ?_ ?_);all_goals first | exact True.intro | exact fln) ?_
    refine exI_mid W.k (ρ₁:=wsR none x [] 0 0 0 none) (by rfl) (Nat.le_of_ble_eq_true rfl) (Nat.le_of_ble_eq_true rfl) (fun y=>⟨_,ex_assign_all ev_int (.more rfl (asgS_nm (by rfl)) (.more rfl (asgS_nm (by rfl)) (.one rfl (asgS_nm (by rfl))))),by exact Lss.refl⟩) (by delta wsR;(repeat' refine flc ?_ ?_);all_goals first | exact True.intro | exact fln) ?_
    refine exI_mid W.k (ρ₁:=wsR none x (wsF x).cnt (wsF x).tr (wsF x).n (wsF x).nt h1) (by rfl) (Nat.le_of_ble_eq_true rfl) (Nat.le_of_ble_eq_true rfl) (fun y=>⟨_,ex_for (evi_val (ev_attr (ev_nm (by rfl) (by rfl)) (at_loc (at_obj W.k (by rfl) W.raw))) iter_str) ((fun y:Addr=>ws_loop B hgL (m:=n) (some (.val (.loc y (.obj (Str.ofString "Whitespace") [(Str.ofString "raw",.str x)])))) x x.cps.toList [] 0 0 0 none (by lia) (by lia) (by simp)) y),by exact Lss.refl⟩) ?_ ?_
    · delta wsR
      (repeat' refine flc ?_ ?_);all_goals first | exact True.intro | exact fln | exact wsCh_flat _ _ True.intro | exact fun d hd=>by obtain ⟨_,_,rfl⟩:=List.mem_map.mp hd;exact True.intro
    · refine exI_freeze 4 (by rfl) (by decide) (by rfl) ?_
      refine exI_store W.k (by rfl) (Nat.le_of_ble_eq_true rfl) (fun x=>ev_nm (by rfl) (by rfl)) W.n (Nat.le_of_ble_eq_true rfl) ?_
      refine exI_store W.k (by rfl) (Nat.le_of_ble_eq_true rfl) (fun x=>ev_nm (by rfl) (by rfl)) W.nt (Nat.le_of_ble_eq_true rfl) ?_
      refine exI_store W.k (by rfl) (Nat.le_of_ble_eq_true rfl) (fun x=>ev_tuple (evs_cons (ev_call_nm B (by rfl) hgT callee_type (evs_cons (ev_nm (by rfl) (by rfl)) evs_nil) (c_tupleL ((fun h=>Nat.le_trans h (Nat.le_of_ble_eq_true rfl):∀ {k:Nat},k≤10000→k≤sizeLine) (by rw [List.length_map];lia)))) (evs_cons (ev_nm (by rfl) (by rfl)) evs_nil))) W.norm (Nat.le_of_ble_eq_true rfl) ?_
      refine exI_store W.k (by rfl) (Nat.le_of_ble_eq_true rfl) (fun x=>ev_cmp (ev_call_nm B (by rfl) hgL callee_builtin (evs_cons (ev_nm (by rfl) (by rfl)) evs_nil) (c_lenL (by rw [List.length_map];lia))) ev_int (cm_leB (by rw [List.length_map]))) W.sim (Nat.le_of_ble_eq_true rfl) exI_nil
end
end Mine
end
section
open PySem PySem.W PyProof.Rows
namespace Mine
theorem intBits_small {i:Int} (h:i.natAbs < 2 ^ 64):Builtin.Int.intBits i≤64:=by
  delta Builtin.Int.intBits
  split
  · lia
  · next h0=>
    have:=(Nat.log2_lt (by intro q;apply h0;simp [Int.natAbs_eq_zero.mp q])).mpr h
    lia
theorem pylong_small {x y:Int} (h:y.natAbs < 2 ^ 64):Builtin.divisionGoesByPylong x y = false:=by
  have:(if (y == 0) = true then 0 else y.natAbs.log2 / 30 + 1)≤300:=by
    split
    · lia
    · next h0=>
      have:=(Nat.log2_lt (by intro q;apply h0;simp [Int.natAbs_eq_zero.mp q])).mpr h
      lia
  delta Builtin.divisionGoesByPylong
  simp only
  rw [show decide ((if (y == 0) = true then 0 else y.natAbs.log2 / 30 + 1) > 300) = false from decide_eq_false (by lia)]
  rfl
noncomputable def ilS (cnt:List Int) (ts:Int):Nat→Int→Int→Int
  | 0,_,il=>il
  | m + 1,i,il=>ilS cnt ts m (i + 1) (il + i.fdiv ts * cnt.getD i.toNat 0)
noncomputable def lvl (w:Ws) (ts:Int):Int:=w.tr + ts * (ilS w.cnt ts ((w.cnt.length:Int) - ts).toNat ts 0 + w.nt)
noncomputable def longest (w:Ws):Int:=if w.tr > (w.cnt.length:Int) - 1 then w.tr else (w.cnt.length:Int) - 1
section
variable {c:Cx} {C Na:Addr} {mN:Str→Option Value} {ai al ad ae:Addr}
set_option maxRecDepth 100000 in
theorem s_longest (B:Base c) (hgL:Glob c (Str.ofString "len") (.builtin "len")) (hgM:Glob c (Str.ofString "max") (.builtin "max")) (W:WCls c C Na mN ai al ad ae) {n:Nat} (w:Ws) (hl:w.cnt.length≤201):CallV c (n + 1) (.ref al) [wsD w] (.int (longest w)):=by
  refine call_funE B (W.l.ok1 (.nm (by rfl) (.inl rfl) (by rfl) .nil)) ⟨[some (.val (wsD w)),some (.val (.tuple (w.cnt.map .int))),some (.val (.int w.tr)),none,none],exs_cons (ex_assign (ev_attr (ev_nm (by rfl) (by rfl)) (at_obj W.k (by rfl) W.norm)) (asgS_tuple (asgSs_cons (asgS_nm (by rfl)) (asgSs_cons (asgS_nm (by rfl)) asgSs_nil)))) ?_⟩
  refine exs_stop (ex_return (ev_call_nm B (by rfl) hgM callee_builtin (evs_cons (ev_bin (ev_call_nm B (by rfl) hgL callee_builtin (evs_cons (ev_nm (by rfl) (by rfl)) evs_nil) (c_lenT (by rw [List.length_map];lia))) ev_int op_subI) (evs_cons (ev_nm (by rfl) (by rfl)) evs_nil)) ?_)) (by simp)
  have:=c_max2 (c:=c) (n:=n) (a:=(w.cnt.length:Int) - 1) (b:=w.tr)
  rw [List.length_map]
  exact this
noncomputable def ilR (w:Ws) (ts:Int) (il:Int) (i:Option Sl):List (Option Sl):=[some (.val (wsD w)),some (.val (.int ts)),some (.val (.tuple (w.cnt.map .int))),some (.val (.int w.tr)),some (.val (.int il)),i,none,none]
noncomputable def ilFor:Stmt:=(M1 11 3).body.getD 2 (.Pass default)
set_option maxRecDepth 100000 in
theorem il_loop (B:Base c) {m:Nat} (w:Ws) (hl:w.cnt.length≤201) (ts:Int) (h1:1≤ts) (h2:ts≤300):∀ (k:Nat) (i il:Int) (i0:Option Sl),0≤i→i + k≤w.cnt.length →
    ∃ i1,LoopF c m (M1 11 3).scope (forTgt ilFor) (forBody ilFor) (rangeD i k) (ilR w ts il i0) .next (ilR w ts (ilS w.cnt ts k i il) i1)
  | 0,i,il,i0,_,_=>⟨i0,.nil⟩
  | k + 1,i,il,i0,hi,hk=>by
    obtain ⟨i1,L⟩:=il_loop B (m:=m) w hl ts h1 h2 k (i + 1) (il + i.fdiv ts * w.cnt.getD i.toNat 0) (some (.val (.int i))) (by lia) (by lia)
    have hd:0≤i.fdiv ts:=Int.fdiv_nonneg hi (by lia)
    have hd2:i.fdiv ts≤i:=by
      rw [Int.fdiv_eq_ediv_of_nonneg _ (by lia)]
      exact Int.ediv_le_self _ hi
    refine ⟨i1,.step (ρ₁:=ilR w ts il (some (.val (.int i)))) (asgS_nm (i:=5) (k:=.local) (x:=Str.ofString "i") (by rfl)) ?_ (.inl rfl) L⟩
    refine exs_cons (ex_assign (ev_bin (ev_nm (by rfl) (by rfl)) (ev_bin (ev_bin (ev_nm (by rfl) (by rfl)) (ev_nm (by rfl) (by rfl)) (op_divI (by lia) (pylong_small (by lia)))) (ev_sub (ev_nm (by rfl) (by rfl)) (ev_nm (by rfl) (by rfl)) (sub_tuple i.toNat (seqIx hi (by rw [List.length_map];lia)) (getD_at (by lia)) (by rw [List.length_map];lia))) (op_mulI (IntMulOk.of_left (intBits_small (by lia))))) op_addI) (asgS_nm (by rfl))) exs_nil
set_option maxRecDepth 100000 in
theorem s_level (B:Base c) (hgL:Glob c (Str.ofString "len") (.builtin "len")) (hgR:Glob c (Str.ofString "range") (.type "range")) (W:WCls c C Na mN ai al ad ae) {n:Nat} (w:Ws) (hl:w.cnt.length≤201) (ts:Int) (h1:1≤ts) (h2:ts≤300):CallV c (n + 1) (.ref ad) [wsD w,.int ts] (.int (lvl w ts)):=by
  obtain ⟨i1,L⟩:∃ i1,LoopF c n (M1 11 3).scope (forTgt ilFor) (forBody ilFor) (rangeD ts ((w.cnt.length:Int) - ts).toNat) (ilR w ts 0 none) .next (ilR w ts (ilS w.cnt ts ((w.cnt.length:Int) - ts).toNat ts 0) i1):=by
    by_cases q:ts≤w.cnt.length
    · exact il_loop B w hl ts h1 h2 _ ts 0 none (by lia) (by lia)
    · rw [show ((w.cnt.length:Int) - ts).toNat = 0 by lia]
      exact ⟨none,.nil⟩
  refine call_funE B (W.d.ok2 (.nm (by rfl) (.inl rfl) (by rfl) (.nm (by rfl) (.inl rfl) (by rfl) .nil))) ⟨ilR w ts (ilS w.cnt ts ((w.cnt.length:Int) - ts).toNat ts 0) i1,?_⟩
  refine exs_cons (ex_assign (ev_attr (ev_nm (by rfl) (by rfl)) (at_obj W.k (by rfl) W.norm)) (asgS_tuple (asgSs_cons (asgS_nm (by rfl)) (asgSs_cons (asgS_nm (by rfl)) asgSs_nil)))) ?_
  refine exs_cons (ρ₁:=ilR w ts 0 none) (ex_assign ev_int (asgS_nm (i:=4) (k:=.local) (x:=Str.ofString "il") (by rfl))) ?_
  refine exs_cons (ρ₁:=ilR w ts (ilS w.cnt ts ((w.cnt.length:Int) - ts).toNat ts 0) i1) ?_ ?_
  · refine ex_for (evi_range2_nm B (by rfl) hgR (evs_cons (ev_nm (by rfl) (by rfl)) (evs_cons (ev_call_nm B (by rfl) hgL callee_builtin (evs_cons (ev_nm (by rfl) (by rfl)) evs_nil) (c_lenT (by rw [List.length_map];lia))) evs_nil)) (by lia) (by lia) (by lia) (by rw [List.length_map];lia)) ?_
    rw [List.length_map]
    exact L
  · exact exs_stop (ex_return (ev_bin (ev_nm (by rfl) (by rfl)) (ev_bin (ev_nm (by rfl) (by rfl)) (ev_bin (ev_nm (by rfl) (by rfl)) (ev_attr (ev_nm (by rfl) (by rfl)) (at_obj W.k (by rfl) W.nt)) op_addI) (op_mulI (IntMulOk.of_left (intBits_small (by lia))))) op_addI)) (by simp)
noncomputable def lessL (a b:Ws):Nat→Int→Bool
  | 0,_=>true
  | k + 1,ts=>if lvl a ts ≥ lvl b ts then false else lessL a b k (ts + 1)
noncomputable def simple (w:Ws):Bool:=decide ((w.cnt.length:Int)≤1)
noncomputable def maxTs (a b:Ws):Int:=(if longest b > longest a then longest b else longest a) + 1
noncomputable def lessF (a b:Ws):Bool:=if a.n ≥ b.n then false else if (simple a && simple b) = true then decide (a.nt≤b.nt) else lessL a b (maxTs a b + 1 - 2).toNat 2
noncomputable def lsR (a b:Ws) (i:Option Sl):List (Option Sl):=[some (.val (wsD a)),some (.val (wsD b)),some (.val (.int (maxTs a b))),i,none,none]
noncomputable def lsFor:Stmt:=(M1 11 6).body.getD 3 (.Pass default)
structure WOk (w:Ws):Prop where
  l:w.cnt.length≤201
  t0:0≤w.tr
  t:w.tr≤201
set_option maxRecDepth 100000 in
theorem ls_loop (B:Base c) (hgL:Glob c (Str.ofString "len") (.builtin "len")) (hgR:Glob c (Str.ofString "range") (.type "range")) (W:WCls c C Na mN ai al ad ae) {m:Nat} (a b:Ws) (ha:WOk a) (hb:WOk b):∀ (k:Nat) (ts:Int) (i0:Option Sl),1≤ts→ts + k≤300 →
    ∃ i1,LoopF c (m + 1) (M1 11 6).scope (forTgt lsFor) (forBody lsFor) (rangeD ts k) (lsR a b i0) (if lessL a b k ts = true then .next else .ret (.bool false)) (lsR a b i1):=by
  intro k
  induction k with
  | zero=>intro ts i0 _ _;exact ⟨i0,.nil⟩
  | succ k ih=>
    intro ts i0 h1 h2
    unfold lessL
    have T:AsgS c (m + 1) (M1 11 6).scope (forTgt lsFor) (.int ts) (lsR a b i0) (lsR a b (some (.val (.int ts)))):=asgS_nm (i:=3) (k:=.local) (x:=Str.ofString "ts") (by rfl)
    have M:∀ w,MethG c (wsD w) (Str.ofString "indent_level") (.ref ad):=fun w=>mg_obj W.k W.d (by rfl) (by rfl)
    by_cases q:lvl a ts ≥ lvl b ts
    · rw [if_pos q]
      exact ⟨_,.ret T (exs_stop (ex_if_t (evT_cmp (ev_methO (ev_nm (by rfl) (by rfl)) (M a) W.d.callee (evs_cons (ev_nm (by rfl) (by rfl)) evs_nil) (s_level B hgL hgR W a ha.l ts (by lia) (by lia))) (ev_methO (ev_nm (by rfl) (by rfl)) (M b) W.d.callee (evs_cons (ev_nm (by rfl) (by rfl)) evs_nil) (s_level B hgL hgR W b hb.l ts (by lia) (by lia))) (cm_geB (decide_eq_true q).symm)) (exs_stop (ex_return ev_bool) (by simp))) (by simp))⟩
    · rw [if_neg q]
      obtain ⟨i1,L⟩:=ih (ts + 1) (some (.val (.int ts))) (by lia) (by lia)
      exact ⟨i1,.step T (exs_cons (ex_if_f (evT_cmp (ev_methO (ev_nm (by rfl) (by rfl)) (M a) W.d.callee (evs_cons (ev_nm (by rfl) (by rfl)) evs_nil) (s_level B hgL hgR W a ha.l ts (by lia) (by lia))) (ev_methO (ev_nm (by rfl) (by rfl)) (M b) W.d.callee (evs_cons (ev_nm (by rfl) (by rfl)) evs_nil) (s_level B hgL hgR W b hb.l ts (by lia) (by lia))) (cm_geB (decide_eq_false q).symm)) exs_nil) exs_nil) (.inl rfl) L⟩
set_option maxRecDepth 100000 in
theorem s_less (B:Base c) (hgL:Glob c (Str.ofString "len") (.builtin "len")) (hgM:Glob c (Str.ofString "max") (.builtin "max")) (hgR:Glob c (Str.ofString "range") (.type "range")) (W:WCls c C Na mN ai al ad ae) {n:Nat} (a b:Ws) (ha:WOk a) (hb:WOk b):CallV c (n + 2) (.ref ae) [wsD a,wsD b] (.bool (lessF a b)):=by
  have M:∀ w,MethG c (wsD w) (Str.ofString "longest_run_of_spaces") (.ref al):=fun w=>mg_obj W.k W.l (by rfl) (by rfl)
  have la:longest a≤201:=by have:=ha.l;have:=ha.t;delta longest;split<;>lia
  have lb:longest b≤201:=by have:=hb.l;have:=hb.t;delta longest;split<;>lia
  have la0:0≤longest a:=by have:=ha.t0;delta longest;split<;>lia
  have lb0:0≤longest b:=by have:=hb.t0;delta longest;split<;>lia
  have hm:0≤maxTs a b∧maxTs a b≤202:=by delta maxTs;split<;>lia
  have hn:∀ {w:Ws} {ρ:List (Option Sl)} {e:Expr} {pos:Pos} {k:Nat},EvE c k (M1 11 6).scope ρ e (wsD w)→PlainB e→EvE c k (M1 11 6).scope ρ (.Attribute e (Str.ofString "n") pos) (.int w.n):=fun he hb=>ev_attr he (at_obj W.k (by rfl) W.n) hb
  refine call_funE B (W.e.ok2 (.nm (by rfl) (.inl rfl) (by rfl) (.nm (by rfl) (.inl rfl) (by rfl) .nil))) ?_
  delta lessF
  by_cases q1:a.n ≥ b.n
  · rw [if_pos q1]
    exact ⟨_,exs_stop (ex_if_t (evT_cmp (hn (ev_nm (by rfl) (by rfl)) fun _ _=>rfl) (hn (ev_nm (by rfl) (by rfl)) fun _ _=>rfl) (cm_geB (decide_eq_true q1).symm)) (exs_stop (ex_return ev_bool) (by simp))) (by simp)⟩
  · rw [if_neg q1]
    by_cases q2:(simple a && simple b) = true
    · rw [if_pos q2]
      refine ⟨_,exs_cons (ex_if_f (evT_cmp (hn (ev_nm (by rfl) (by rfl)) fun _ _=>rfl) (hn (ev_nm (by rfl) (by rfl)) fun _ _=>rfl) (cm_geB (decide_eq_false q1).symm)) exs_nil) (exs_stop (ex_if_t (q2▸evT_and2 (a:=simple a) (b:=simple b) (evT_value (ev_attr (ev_nm (by rfl) (by rfl)) (at_obj W.k (by rfl) W.sim)) tr_bool) (fun _=>evT_value (ev_attr (ev_nm (by rfl) (by rfl)) (at_obj W.k (by rfl) W.sim)) tr_bool)) (exs_stop (ex_return (ev_cmp (ev_attr (ev_nm (by rfl) (by rfl)) (at_obj W.k (by rfl) W.nt)) (ev_attr (ev_nm (by rfl) (by rfl)) (at_obj W.k (by rfl) W.nt)) (cm_leB rfl))) (by simp))) (by simp))⟩
    · rw [if_neg q2]
      have q2':(simple a && simple b) = false:=by simpa using q2
      obtain ⟨i1,L⟩:=ls_loop B hgL hgR W (m:=n) a b ha hb (maxTs a b + 1 - 2).toNat 2 none (by lia) (by lia)
      by_cases q3:lessL a b (maxTs a b + 1 - 2).toNat 2 = true
      · rw [if_pos q3] at L
        rw [q3]
        refine ⟨_,exs_cons (ex_if_f (evT_cmp (hn (ev_nm (by rfl) (by rfl)) fun _ _=>rfl) (hn (ev_nm (by rfl) (by rfl)) fun _ _=>rfl) (cm_geB (decide_eq_false q1).symm)) exs_nil) (exs_cons (ex_if_f (q2'▸evT_and2 (a:=simple a) (b:=simple b) (evT_value (ev_attr (ev_nm (by rfl) (by rfl)) (at_obj W.k (by rfl) W.sim)) tr_bool) (fun _=>evT_value (ev_attr (ev_nm (by rfl) (by rfl)) (at_obj W.k (by rfl) W.sim)) tr_bool)) exs_nil) (exs_cons (ρ₁:=lsR a b none) (ex_assign (ev_bin (ev_call_nm B (by rfl) hgM callee_builtin (evs_cons (ev_methO (ev_nm (by rfl) (by rfl)) (M a) W.l.callee evs_nil (s_longest B hgL hgM W a ha.l)) (evs_cons (ev_methO (ev_nm (by rfl) (by rfl)) (M b) W.l.callee evs_nil (s_longest B hgL hgM W b hb.l)) evs_nil)) c_max2) ev_int op_addI) (asgS_nm (i:=2) (k:=.local) (x:=Str.ofString "n") (by rfl))) (exs_cons (ex_for (evi_range2_nm B (by rfl) hgR (evs_cons ev_int (evs_cons (ev_bin (ev_nm (by rfl) (by rfl)) ev_int op_addI) evs_nil)) (by lia) (by lia) (by lia) (by lia)) L) (exs_stop (ex_return ev_bool) (by simp)))))⟩
      · rw [if_neg q3] at L
        rw [(by simpa using q3:lessL a b (maxTs a b + 1 - 2).toNat 2 = false)]
        refine ⟨_,exs_cons (ex_if_f (evT_cmp (hn (ev_nm (by rfl) (by rfl)) fun _ _=>rfl) (hn (ev_nm (by rfl) (by rfl)) fun _ _=>rfl) (cm_geB (decide_eq_false q1).symm)) exs_nil) (exs_cons (ex_if_f (q2'▸evT_and2 (a:=simple a) (b:=simple b) (evT_value (ev_attr (ev_nm (by rfl) (by rfl)) (at_obj W.k (by rfl) W.sim)) tr_bool) (fun _=>evT_value (ev_attr (ev_nm (by rfl) (by rfl)) (at_obj W.k (by rfl) W.sim)) tr_bool)) exs_nil) (exs_cons (ρ₁:=lsR a b none) (ex_assign (ev_bin (ev_call_nm B (by rfl) hgM callee_builtin (evs_cons (ev_methO (ev_nm (by rfl) (by rfl)) (M a) W.l.callee evs_nil (s_longest B hgL hgM W a ha.l)) (evs_cons (ev_methO (ev_nm (by rfl) (by rfl)) (M b) W.l.callee evs_nil (s_longest B hgL hgM W b hb.l)) evs_nil)) c_max2) ev_int op_addI) (asgS_nm (i:=2) (k:=.local) (x:=Str.ofString "n") (by rfl))) (exs_stop (ex_for (evi_range2_nm B (by rfl) hgR (evs_cons ev_int (evs_cons (ev_bin (ev_nm (by rfl) (by rfl)) ev_int op_addI) evs_nil)) (by lia) (by lia) (by lia) (by lia)) L) (by simp))))⟩
end
end Mine
end
section
open PySem PySem.W PyProof.Rows
namespace Mine
theorem wsL_tr:∀ (r:List Nat) (cnt:List Int) (b n nt:Int),0≤b→0≤(wsL r cnt b n nt).2.1∧(wsL r cnt b n nt).2.1≤b + r.length
  | [],_,_,_,_,hb=>by simpa [wsL] using hb
  | ch :: r,cnt,b,n,nt,hb=>by
    rw [List.length_cons]
    dsimp only [wsL]
    split
    · have:=wsL_tr r cnt (b + 1) (n + 1) nt (by lia);lia
    · split
      · have:=wsL_tr r (bump cnt b) 0 (n + 1) (nt + 1) (by lia);lia
      · simp only;lia
theorem wsF_ok {x:Str} (h:x.cps.size≤200):WOk (wsF x):=by
  have hx:x.cps.toList.length≤200:=by exact h
  refine ⟨wsL_len x.cps.toList [] 0 0 0 (by lia) (by lia) (by simp),(wsL_tr x.cps.toList [] 0 0 0 (by lia)).1,?_⟩
  have:=(wsL_tr x.cps.toList [] 0 0 0 (by lia)).2
  refine (?_:(wsL x.cps.toList [] 0 0 0).2.1≤201)
  lia
theorem mulOkS {x:Str} {k:Int} (hx:x.length≤1000) (h0:-1000≤k) (h1:k≤1000):MulOk x k:=by
  refine ⟨by simp;lia,fun h2 _=>?_,fun h2 _=>?_⟩
  · have:(1000:Int)≤(2 ^ 63 - 1) / k:=by
      apply Int.le_ediv_of_mul_le (by lia)
      lia
    lia
  · exact decide_eq_false (Nat.not_lt.mpr (Nat.le_trans (Nat.mul_le_mul hx (by lia):x.length * k.toNat≤1000 * 1000) (Nat.le_of_ble_eq_true rfl)))
section
variable {c:Cx} {C Na:Addr} {mN:Str→Option Value} {ai al ad ae:Addr}
end
end Mine
end
section
open PySem PySem.W PyProof.Rows
namespace Mine
noncomputable def falseAt (l:List Bool):Nat:=l.findIdx (· == false)
theorem cutL_drop {α:Type} (l:List α) (k:Int) (h:0≤k):cutL l (some k) none = l.drop k.toNat:=by
  delta cutL loOf hiOf
  have h1:kms_lo (some k) l.length = min k.toNat l.length:=by
    delta kms_lo
    simp only
    lia
  rw [h1,(by rfl:kms_hi none l.length = l.length)]
  rw [List.take_of_length_le (by rw [List.length_drop];exact Nat.le_refl _)]
  by_cases hk:k.toNat≤l.length
  · rw [Nat.min_eq_left hk]
  · rw [Nat.min_eq_right (by lia),List.drop_length,List.drop_of_length_le (by lia)]
section
variable {c:Cx}
noncomputable def boolsD (W:List (List Bool)):D:=.list (W.map fun r=>.list (r.map .bool))
end
end Mine
end
section
open PySem PySem.W PyProof.Rows
namespace Mine
section
variable {c:Cx} {n:Nat}
theorem argBest_le (bt:Nat→Nat→Bool):∀ k,argBest bt k≤k
  | 0=>Nat.le_refl _
  | k + 1=>by
    dsimp only [argBest]
    split
    · exact Nat.le_refl _
    · exact Nat.le_succ_of_le (argBest_le bt k)
end
end Mine
end
section
open PySem PySem.W PyProof.Rows
namespace Mine
noncomputable def rangeL (a:Int):Nat→List Int
  | 0=>[]
  | m + 1=>a :: rangeL (a + 1) m
theorem rangeD_map:∀ (m:Nat) (a:Int),rangeD a m = (rangeL a m).map .int
  | 0,_=>rfl
  | m + 1,a=>by rw [rangeD,rangeL,List.map_cons,rangeD_map m]
theorem rangeL_len:∀ (m:Nat) (a:Int),(rangeL a m).length = m
  | 0,_=>rfl
  | m + 1,a=>by rw [rangeL,List.length_cons,rangeL_len m]
theorem rangeL_mem:∀ {m:Nat} {a x:Int},x ∈ rangeL a m→a≤x∧x < a + m
  | 0,_,_,h=>by cases h
  | m + 1,a,x,h=>by
    rcases List.mem_cons.mp h with rfl | h
    · lia
    · have:=rangeL_mem h;lia
end Mine
end
section
open PySem PySem.W PyProof.Rows
namespace Mine
set_option pp.maxSteps 2000
theorem s_count_calls {c:Cx} {n:Nat} (B:Base c) {a:Addr} (h:FunAt c (P1 5) a) (l:List (Str × Int)):CallV c (n + 1) (.ref a) [.dict (intE l)] (.int ((l.map (·.2)).foldl (· + ·) 0)):=by
  have H:FunOk c a (P1 5).scope (P1 5).body [.dict (intE l)] [some (.val (.dict (intE l))),none,none]:=h.ok1 (.nm (by rfl) (.inl rfl) (by rfl) .nil)
  refine call_fun B H (ρ':=[some (.val (.dict (intE l))),some (.val (.int ((l.map (·.2)).foldl (· + ·) 0))),none]) ?_
  refine exs_cons (ex_assign ev_int (asgS_nm (by rfl))) ?_
  have hv:valuesD (intE l) = (l.map (·.2)).map .int:=by simp [valuesD,intE]
  refine exs_cons (ex_for_fold (evi_values (ev_nm (by rfl) (by rfl))) .int hv (· + ·) (fun b=>[some (.val (.dict (intE l))),some (.val (.int b)),none]) rfl fun b x _=>?_) ?_
  · exact ⟨_,_,asgS_nm (by rfl),exs_cons (ex_aug_nm (by rfl) (by rfl) (ev_nm (by rfl) (by rfl)) (.inl ⟨rfl,rfl⟩)) exs_nil,.cons (.inr rfl) (.cons (.inr rfl) (.cons (.inl rfl) .nil))⟩
  · exact exs_stop (ex_return (ev_nm (by rfl) (by rfl))) (by simp)
end Mine
end
section
open PySem PySem.W PyProof.Rows
namespace Mine
noncomputable def colStep (size b:Int) (ch:Nat):Int:=b + (if (⟨#[ch]⟩:Str) == blk then 1 else size - b.fmod size)
noncomputable def colF (x:Str) (size:Int):Int:=x.cps.toList.foldl (colStep size) 0
noncomputable def coR (x:Str) (size b:Int):List (Option Sl):=[some (.val (.str x)),some (.val (.int size)),some (.val (.int b)),none]
section
variable {c:Cx}
set_option maxRecDepth 100000 in
theorem s_column (B:Base c) {n:Nat} {a:Addr} (h:FunAt c (P1 14) a) (x:Str) (size:Int) (hs:size ≠ 0):CallV c (n + 1) (.ref a) [.str x,.int size] (.int (colF x size)):=by
  refine call_funE B (h.ok2 (.nm (by rfl) (.inl rfl) (by rfl) (.nm (by rfl) (.inl rfl) (by rfl) .nil))) ⟨coR x size (colF x size),?_⟩
  refine exs_cons (ex_assign ev_int (asgS_nm (by rfl))) ?_
  refine exs_cons (ex_for (evi_val (ev_nm (by rfl) (by rfl)) iter_str) (o:=.next) (ρ':=coR x size (colF x size)) ?_) (exs_stop (ex_return (ev_nm (by rfl) (by rfl))) (by simp))
  rw [(rfl:signs x = x.cps.toList.map sgn)]
  refine loop_fold (emb:=sgn) (colStep size) (coR x size) rfl fun b ch _=>?_
  induction hq:(⟨#[ch]⟩:Str) == blk with
  | true=>
    have e:colStep size b ch = b + 1:=by delta colStep;rw [hq];rfl
    rw [e]
    exact ⟨_,_,asgS_nm (by rfl),exs_cons (ex_aug_nm (by rfl) (by rfl) (ev_ifexp (q:=true) (d:=.int 1) (evT_cmp (ev_nm (by rfl) (by rfl)) ev_str (cm_eqB 1 (b:=(⟨#[ch]⟩:Str) == blk) rfl hq.symm)) (fun _=>ev_int) (fun h=>by cases h)) (.inl ⟨rfl,rfl⟩)) exs_nil,
      by exact .cons (.inr rfl) (.cons (.inr rfl) (.cons (.inr rfl) (.cons (.inl rfl) .nil)))⟩
  | false=>
    have e:colStep size b ch = b + (size - b.fmod size):=by delta colStep;rw [hq];rfl
    rw [e]
    exact ⟨_,_,asgS_nm (by rfl),exs_cons (ex_aug_nm (by rfl) (by rfl) (ev_ifexp (q:=false) (d:=.int (size - b.fmod size)) (evT_cmp (ev_nm (by rfl) (by rfl)) ev_str (cm_eqB 1 (b:=(⟨#[ch]⟩:Str) == blk) rfl hq.symm)) (fun h=>by cases h)
      (fun _=>ev_bin (ev_nm (by rfl) (by rfl)) (ev_bin (ev_nm (by rfl) (by rfl)) (ev_nm (by rfl) (by rfl)) (op_modI hs)) op_subI)) (.inl ⟨rfl,rfl⟩)) exs_nil,
      by exact .cons (.inr rfl) (.cons (.inr rfl) (.cons (.inr rfl) (.cons (.inl rfl) .nil)))⟩
end
end Mine
end
section
open PySem PySem.W PyProof.Rows
namespace Mine
noncomputable def relF {α:Type} (f:α→α→Bool) (l:List α) (d:α):List (List Bool):=(rangeL 0 l.length).map fun i=>(l.drop (i + 1).toNat).map (f (l.getD i.toNat d))
noncomputable def colsF (x:Str):List Int:=(rangeL 1 5).map (colF x)
noncomputable def geZ (p:Int × Int):Option Int:=if p.2≤p.1 then some 0 else none
noncomputable def lessC (a b:List Int):Bool:=((a.zip b).filterMap geZ).isEmpty
noncomputable def intsD (l:List Int):D:=.list (l.map .int)
theorem eqv_nil {k:Nat} (l:List D):eqvF (k + 1) (.list l) (.list []) = some l.isEmpty:=by cases l<;>rfl
theorem getX_at {α:Type} {f:α→D} {l:List α} {i:Nat} {d:α} (h:i < l.length):(l.map f)[i]? = some (f (l.getD i d)):=by
  rw [List.getElem?_map,List.getElem?_eq_getElem h,List.getD_eq_getElem?_getD,List.getElem?_eq_getElem h];rfl
theorem relD {α:Type} (f:α→α→Bool) (l:List α) (d:α):boolsD (relF f l d) = .list ((rangeL 0 l.length).map fun i=>D.list ((l.drop (i + 1).toNat).map fun x=>.bool (f (l.getD i.toNat d) x))):=by
  delta boolsD relF
  rw [List.map_map]
  congr 2
  funext i
  exact congrArg D.list (List.map_map ..)
section
variable {c:Cx}
set_option maxRecDepth 100000 in
theorem s_walked (B:Base c) (hgR:Glob c (Str.ofString "range") (.type "range")) (hgL:Glob c (Str.ofString "len") (.builtin "len")) (hgZ:Glob c (Str.ofString "zip") (.type "zip")) {n:Nat} {a ac:Addr} (h:FunAt c (P1 15) a) (hc:FunAt c (P1 14) ac) (leads:List Str) (hl:leads.length≤100) :
    CallV c (n + 2) (.ref a) [.list (leads.map .str)] (boolsD (relF lessC (leads.map colsF) [])):=by
  have big:∀ {k:Nat},k≤10000→k≤sizeLine:=fun h=>Nat.le_trans h (Nat.le_of_ble_eq_true rfl)
  have hrl:(leads.map colsF).length≤100:=by rw [List.length_map];exact hl
  refine call_funE B (h.ok1 (.nm (by rfl) (.inl rfl) (by rfl) .nil)) ⟨[some (.val (.list (leads.map .str))),some (.val (.list ((leads.map colsF).map intsD))),none,none],?_⟩
  refine exs_cons (ex_assign (EvO.ev (evo_list1 (d:=.list ((leads.map colsF).map intsD)) [none,none,none] [.local,.cell,.globalImplicit] (by decide +kernel) (evi_val (ev_nm (by rfl) (by rfl)) iter_list) ?_)) (asgS_nm (by rfl)) (swaps_eq (by decide +kernel))) ?_
  · rw [List.map_map]
    refine runs_map (emb:=D.str) _ (big (Nat.le_trans hl (by decide))) fun x _=>?_
    refine ⟨_,asg_nm (by rfl) ⟨_,_,rfl,by decide⟩,Lss.set (by rfl),?_⟩
    refine EvO.ev (evo_list1 (d:=intsD (colsF x)) [none,none,none,some 1] [.local,.local,.globalImplicit,.cell] (by decide +kernel) (evi_range2_nm B (by rfl) hgR (evs_cons ev_int (evs_cons ev_int evs_nil)) (by decide) (by decide) (by decide) (by decide)) ?_)
    refine (?_:RunsT _ (rangeD 1 5) _ (.list ((colsF x).map .int)))
    rw [rangeD_map]
    delta colsF
    rw [List.map_map]
    refine runs_map (emb:=D.int) _ (Nat.le_of_ble_eq_true rfl) fun i hi=>?_
    have hi1:=(rangeL_mem hi).1
    exact ⟨_,asg_nm (by rfl) ⟨_,_,rfl,by decide⟩,Lss.set (by rfl),ev_call_nm B (by rfl) hc.glob hc.callee (evs_cons (ev_nm (by rfl) (by rfl)) (evs_cons (ev_nm (by rfl) (by rfl)) evs_nil)) (s_column B hc x i (by lia))⟩
  refine exs_stop (ex_return (EvO.ev (evo_list1 (d:=boolsD (relF lessC (leads.map colsF) [])) [none,none,some 1] [.local,.cell,.cell] (by decide +kernel) (evi_range1_nm B (by rfl) hgR (ev_call_nm B (by rfl) hgL callee_builtin (evs_cons (ev_nm (by rfl) (by rfl)) evs_nil) (c_lenL (by rw [List.length_map];lia))) (by rw [List.length_map];lia) (by rw [List.length_map];lia)) ?_))) (by simp)
  rw [relD,List.length_map,Int.toNat_natCast,rangeD_map]
  refine runs_map (emb:=D.int) _ (big (by rw [rangeL_len];lia)) fun i hi=>?_
  obtain ⟨i0,i1⟩:=rangeL_mem hi
  have i1:i < ((leads.map colsF).length:Int):=by lia
  refine ⟨_,asg_nm (by rfl) ⟨_,_,rfl,by decide⟩,Lss.set (by rfl),?_⟩
  refine EvO.ev (evo_list1 (d:=.list (((leads.map colsF).drop (i + 1).toNat).map fun x=>.bool (lessC ((leads.map colsF).getD i.toNat []) x))) [none,none,none,some 1,some 2] [.local,.local,.globalImplicit,.cell,.cell] (by decide +kernel)
    (evi_val (ev_slice (ev_nm (by rfl) (by rfl)) (evP_some (ev_bin (ev_nm (by rfl) (by rfl)) ev_int op_addI)) evP_none (slice_list (big (by rw [List.length_map];lia)))) iter_list) ?_)
  rw [cutL_map,cutL_drop _ _ (by lia)]
  refine runs_map (emb:=intsD) _ (big (by rw [List.length_drop];lia)) fun x hx=>?_
  have hx5:x.length = 5:=by obtain ⟨y,_,rfl⟩:=List.mem_map.mp (List.mem_of_mem_drop hx);rfl
  refine ⟨_,asg_nm (by rfl) ⟨_,_,rfl,by decide⟩,Lss.set (by rfl),?_⟩
  generalize hA:(leads.map colsF).getD i.toNat [] = A
  have hg:((leads.map colsF).map intsD)[i.toNat]? = some (intsD A):=by rw [getX_at (d:=[]) ((Int.toNat_lt i0).mpr i1),hA]
  have e:lessC A x = (((A.zip x).filterMap geZ).map D.int).isEmpty:=(List.isEmpty_map ..).symm
  refine ev_cmp (EvO.ev (evo_list1 (d:=.list (((A.zip x).filterMap geZ).map .int)) [none,none,none] [.local,.local,.local] (by decide +kernel)
    (evi_zip_nm B (by rfl) hgZ (evs_cons (ev_sub (ev_nm (by rfl) (by rfl)) (ev_nm (by rfl) (by rfl)) (sub_list i.toNat (seqIx i0 (by rw [List.length_map];exact i1)) hg (by rw [List.length_map];lia))) (evs_cons (ev_nm (by rfl) (by rfl)) evs_nil)) src_list src_list) ?_)) (ev_list evs_nil) (cm_eqB 1 (eqv_nil _) e)
  rw [zipD_map,List.map_filterMap]
  refine runs_list (emb:=fun (p:Int × Int)=>.tuple [.int p.1,.int p.2]) (ds:=[]) (fun p=>(geZ p).map D.int) (big ?_) fun p _=>?_
  · rw [List.length_nil,Nat.zero_add,List.length_zip]
    exact Nat.le_trans (Nat.min_le_right _ _) (hx5▸Nat.le_of_ble_eq_true rfl)
  refine ⟨_,asg_tuple (asgs_cons (asg_nm (by rfl) ⟨_,_,rfl,by decide⟩) (asgs_cons (asg_nm (by rfl) ⟨_,_,rfl,by decide⟩) asgs_nil)),(Lss.set (by rfl)).trans (Lss.set (by rfl)),?_⟩
  by_cases q:p.2≤p.1
  · rw [show geZ p = some 0 from if_pos q]
    exact ⟨ifs_one (evT_cmp (ev_nm (by rfl) (by rfl)) (ev_nm (by rfl) (by rfl)) (cm_geB (decide_eq_true q).symm)),ev_int⟩
  · rw [show geZ p = none from if_neg q]
    exact ifs_one (evT_cmp (ev_nm (by rfl) (by rfl)) (ev_nm (by rfl) (by rfl)) (cm_geB (decide_eq_false q).symm))
end
end Mine
end
section
open PySem PySem.W PyProof.Rows
namespace Mine
noncomputable def endW:Str:=Str.ofString "x\t "
noncomputable def ws0:Ws:=⟨Str.empty,0,0,[],0⟩
noncomputable def rowsN (leads:List Str):List Ws:=leads.map fun x=>wsF (x ++ endW)
noncomputable def nanF (leads:List Str):List (List Bool):=relF lessF (rowsN leads) ws0
section
variable {c:Cx} {C Na:Addr} {mN:Str→Option Value} {ai al ad ae:Addr}
set_option maxRecDepth 100000 in
theorem s_nanny (B:Base c) (hgL:Glob c (Str.ofString "len") (.builtin "len")) (hgT:Glob c (Str.ofString "tuple") (.type "tuple")) (hgM:Glob c (Str.ofString "max") (.builtin "max")) (hgR:Glob c (Str.ofString "range") (.type "range")) (W:WCls c C Na mN ai al ad ae) {n:Nat} {a:Addr} (h:FunAt c (P1 16) a) (leads:List Str) (hl:leads.length≤100) (hx:∀ x ∈ leads,x.length≤190) :
    CallV c (n + 3) (.ref a) [.list (leads.map .str)] (boolsD (nanF leads)):=by
  have big:∀ {k:Nat},k≤10000→k≤sizeLine:=fun h=>Nat.le_trans h (Nat.le_of_ble_eq_true rfl)
  have hel:endW.length = 3:=by decide +kernel
  have hw:∀ x ∈ leads,(x ++ endW).length≤200:=fun x hm=>by
    rw [Str.length_append,hel];exact Nat.add_le_add_right (Nat.le_trans (hx x hm) (Nat.le_of_ble_eq_true rfl)) 3
  have hrl:(rowsN leads).length≤100:=by delta rowsN;rw [List.length_map];exact hl
  have hok:∀ r ∈ rowsN leads,WOk r:=fun r hr=>by
    obtain ⟨x,hm,rfl⟩:=List.mem_map.mp hr
    exact wsF_ok (hw x hm)
  refine call_funE B (h.ok1 (.nm (by rfl) (.inl rfl) (by rfl) .nil)) ⟨[some (.val (.list (leads.map .str))),some (.val (.list ((rowsN leads).map wsD))),none,none],?_⟩
  refine exs_cons (ex_assign (EvO.ev (evo_list1 (d:=.list ((rowsN leads).map wsD)) [none,none,none] [.local,.local,.globalImplicit] (by decide +kernel) (evi_val (ev_nm (by rfl) (by rfl)) iter_list) ?_)) (asgS_nm (by rfl)) (swaps_eq (by decide +kernel))) ?_
  · delta rowsN
    rw [List.map_map]
    refine runs_map (emb:=D.str) _ (big (Nat.le_trans hl (by decide))) fun x hm=>?_
    exact ⟨_,asg_nm (by rfl) ⟨_,_,rfl,by decide⟩,Lss.set (by rfl),ev_call_nm B (by rfl) (.inl W.k.g) W.k.keep (evs_cons (ev_bin (ev_nm (by rfl) (by rfl)) ev_str (op_addS (big (by rw [show Str.ofString "x\t " = endW from rfl,hel];have:=hx x hm;lia)))) evs_nil) (s_wsNew B hgL hgT W _ (hw x hm))⟩
  refine exs_stop (ex_return (EvO.ev (evo_list1 (d:=boolsD (nanF leads)) [none,none,some 1] [.local,.cell,.cell] (by decide +kernel) (evi_range1_nm B (by rfl) hgR (ev_call_nm B (by rfl) hgL callee_builtin (evs_cons (ev_nm (by rfl) (by rfl)) evs_nil) (c_lenL (by rw [List.length_map];lia))) (by rw [List.length_map];lia) (by rw [List.length_map];lia)) ?_))) (by simp)
  delta nanF
  rw [relD,List.length_map,Int.toNat_natCast,rangeD_map]
  refine runs_map (emb:=D.int) _ (big (by rw [rangeL_len];lia)) fun i hi=>?_
  obtain ⟨i0,i1⟩:=rangeL_mem hi
  have i1:i < ((rowsN leads).length:Int):=by lia
  have hi':=(Int.toNat_lt i0).mpr i1
  refine ⟨_,asg_nm (by rfl) ⟨_,_,rfl,by decide⟩,Lss.set (by rfl),?_⟩
  refine EvO.ev (evo_list1 (d:=.list (((rowsN leads).drop (i + 1).toNat).map fun x=>.bool (lessF ((rowsN leads).getD i.toNat ws0) x))) [none,none,some 1,some 2] [.local,.local,.cell,.cell] (by decide +kernel)
    (evi_val (ev_slice (ev_nm (by rfl) (by rfl)) (evP_some (ev_bin (ev_nm (by rfl) (by rfl)) ev_int op_addI)) evP_none (slice_list (big (by rw [List.length_map];lia)))) iter_list) ?_)
  rw [cutL_map,cutL_drop _ _ (by lia)]
  refine runs_map (emb:=wsD) _ (big (by rw [List.length_drop];lia)) fun x hx=>?_
  refine ⟨_,asg_nm (by rfl) ⟨_,_,rfl,by decide⟩,Lss.set (by rfl),?_⟩
  exact ev_methO (ev_sub (ev_nm (by rfl) (by rfl)) (ev_nm (by rfl) (by rfl)) (sub_list i.toNat (seqIx i0 (by rw [List.length_map];exact i1)) (getX_at (d:=ws0) hi') (by rw [List.length_map];lia))) (mg_obj W.k W.e (by rfl) (by rfl)) W.e.callee (evs_cons (ev_nm (by rfl) (by rfl)) evs_nil)
    (s_less B hgL hgM hgR W _ _ (hok _ (by rw [List.getD_eq_getElem?_getD,List.getElem?_eq_getElem hi'];exact List.getElem_mem hi')) (hok _ (List.mem_of_mem_drop hx)))
end
end Mine
end
section
open PySem PySem.W PyProof.Rows
namespace Mine
noncomputable def endsF (W:List (List Bool)):List Int:=(enumL 0 W).map fun p=>p.1 + 1 + (falseAt (p.2 ++ [false]):Int)
theorem falseAt_ok {l:List Bool} (hm:false ∈ l):falseAt l < l.length∧l[falseAt l]? = some false∧∀ m,m < falseAt l→l[m]? ≠ some false:=by
  have hlt:falseAt l < l.length:=List.findIdx_lt_length_of_exists ⟨false,hm,rfl⟩
  refine ⟨hlt,?_,fun m hmm q=>?_⟩
  · rw [List.getElem?_eq_getElem hlt]
    exact congrArg some (beq_iff_eq.mp (List.findIdx_getElem (xs:=l) (p:=(· == false)) (w:=hlt)))
  · rw [List.getElem?_eq_getElem (Nat.lt_trans hmm hlt)] at q
    exact absurd (beq_iff_eq.mpr (Option.some.inj q)) (Bool.eq_false_iff.mp (List.not_of_lt_findIdx (xs:=l) (p:=(· == false)) hmm))
section
variable {c:Cx}
set_option maxRecDepth 100000 in
theorem s_ends (B:Base c) (hgE:Glob c (Str.ofString "enumerate") (.type "enumerate")) {n:Nat} {a:Addr} (h:FunAt c (P1 17) a) (W:List (List Bool)) (hl:W.length≤100) (hr:∀ r ∈ W,r.length≤100) :
    CallV c (n + 1) (.ref a) [boolsD W] (intsD (endsF W)):=by
  have big:∀ {k:Nat},k≤10000→k≤sizeLine:=fun h=>Nat.le_trans h (Nat.le_of_ble_eq_true rfl)
  refine call_funE B (h.ok1 (.nm (by rfl) (.inl rfl) (by rfl) .nil)) ⟨[some (.val (boolsD W)),none],?_⟩
  refine exs_stop (ex_return (EvO.ev (evo_list1 (d:=intsD (endsF W)) [none,none,none] [.local,.local,.local] (by decide +kernel) (evi_enum_nm B (by rfl) hgE (evn_val (ev_nm (by rfl) (by rfl)) src_list)) ?_))) (by simp)
  delta intsD endsF
  rw [enumD_map,List.map_map]
  refine runs_map (emb:=fun (p:Int × List Bool)=>.tuple [.int p.1,.list (p.2.map .bool)]) _ (big (by rw [enumL_len];lia)) fun p hp=>?_
  have hp1:=hr _ (enumL_mem hp).1
  obtain ⟨f1,f2,f3⟩:=falseAt_ok (l:=p.2 ++ [false]) (List.mem_append_right _ List.mem_cons_self)
  refine ⟨_,asg_tuple (asgs_cons (asg_nm (by rfl) ⟨_,_,rfl,by decide⟩) (asgs_cons (asg_nm (by rfl) ⟨_,_,rfl,by decide⟩) asgs_nil)),(Lss.set (by rfl)).trans (Lss.set (by rfl)),?_⟩
  exact ev_bin (ev_bin (ev_nm (by rfl) (by rfl)) ev_int op_addI) (ev_meth PySem.F.plainAttrs_list PySem.F.slot_list_index PySem.F.type_list_index listT (d₀:=.list ((p.2 ++ [false]).map .bool))
    (by rw [List.map_append];exact ev_bin (ev_nm (by rfl) (by rfl)) (ev_list (evs_cons ev_bool evs_nil)) (op_addL (big (by rw [List.length_map];exact Nat.add_le_add (Nat.le_trans hp1 (Nat.le_of_ble_eq_true rfl):p.2.length≤9999) (Nat.le_refl 1))))) (evs_cons ev_bool evs_nil) (c_index f1 f2 f3 (big (by rw [List.length_append];exact Nat.add_le_add (Nat.le_trans hp1 (Nat.le_of_ble_eq_true rfl):p.2.length≤9999) (Nat.le_refl 1))))) op_addI
end
end Mine
end
section
open PySem PySem.W PyProof.Rows
namespace Mine
theorem slice_lt (x:Str) (i j:Nat) (h1:i≤j) (h2:j≤x.cps.toList.length):(Txt.slice x (some (i:Int)) (some (j:Int))).cps.toList = (x.cps.toList.drop i).take (j - i):=by
  rw [beq_iff_eq.mp (slice_closes (x:=x) (i:=i) (j:=j) ⟨by lia,by lia,by lia⟩)]
  skip
  rw [Int.toNat_natCast,show ((j:Int) - i).toNat = j - i from Int.toNat_sub j i]
theorem slice_lf (x:Str) (i:Nat) (h:i≤x.cps.toList.length):(Txt.slice x (some (i:Int)) none).cps.toList = x.cps.toList.drop i:=by
  have hl:x.length = x.cps.toList.length:=Array.length_toList.symm
  rw [slice_from_eq (x:=x) (i:=i) (b:=x.length) (by lia) (by lia) rfl]
  skip
  rw [Int.toNat_natCast,List.take_of_length_le (by rw [List.length_drop];lia)]
theorem join_chars:∀ ps:List Str,(Txt.join (Str.ofString "") ps).cps.toList = ps.flatMap (·.cps.toList):=by
  intro ps
  delta Txt.join
  rw [StrLaws.glued_eq_join]
  induction ps with
  | nil=>rfl
  | cons x ps ih=>
    induction ps with
    | nil=>simp [Str.join]
    | cons y r=>
      skip
      refine (?_:(x.cps ++ (Str.ofString "").cps ++ (Str.join (Str.ofString "") (y :: r)).cps).toList = _)
      rw [Array.toList_append,Array.toList_append,ih]
      simp [List.flatMap_cons,show (Str.ofString "").cps.toList = [] from by decide +kernel]
noncomputable def kpt:Bool→Option (List Nat)→List Nat→List Nat
  | _,none,[]=>[]
  | _,some q,[]=>q
  | e,none,c :: r=>if e then c :: kpt false none r else if c = 92 then c :: kpt true none r else if c = 34 then kpt false (some [34]) r else c :: kpt false none r
  | e,some q,c :: r=>if e then kpt false (some (q ++ [c])) r else if c = 92 then kpt true (some (q ++ [c])) r else if c = 34 then kpt false none r else kpt false (some (q ++ [c])) r
noncomputable def finP (x:Str) (b:Int × Option Int × List Str):List Str:=if b.1 < x.length then b.2.2 ++ [Txt.slice x (some b.1) none] else b.2.2
theorem one_eq (c k:Nat):((⟨#[c]⟩:Str) == ⟨#[k]⟩) = decide (c = k):=by
  rw [Bool.eq_iff_iff,beq_iff_eq,decide_eq_true_iff]
  simp
theorem bs_eq:Str.ofString "\\" = ⟨#[92]⟩:=by decide +kernel
theorem qt_eq:qt = ⟨#[34]⟩:=by decide +kernel
theorem lp_eq:lp = ⟨#[40]⟩:=by decide +kernel
theorem rp_eq:rp = ⟨#[41]⟩:=by decide +kernel
theorem two_ne (c k:Nat):((Str.ofString "\\" ++ ⟨#[c]⟩:Str) == ⟨#[k]⟩) = false:=by
  rw [bs_eq,beq_eq_false_iff_ne]
  intro h
  have:=congrArg Str.length h
  cases this
theorem step_no {x:Str} {b:Int × Option Int × List Str} {p:Int × Str} (h:(p.2 == qt) = false):stripStep x b p = b:=by
  delta stripStep
  refine h▸?_
  rfl
theorem step_qN {x:Str} {s i:Int} {ps:List Str}:stripStep x (s,none,ps) (i,⟨#[34]⟩) = (s,some i,ps):=by
  delta stripStep
  rw [show ((⟨#[34]⟩:Str) == qt) = true from by decide +kernel]
  rfl
theorem step_qS {x:Str} {s i o:Int} {ps:List Str}:stripStep x (s,some o,ps) (i,⟨#[34]⟩) = (i + 1,none,if s != o then ps ++ [Txt.slice x (some s) (some o)] else ps):=by
  delta stripStep
  rw [show ((⟨#[34]⟩:Str) == qt) = true from by decide +kernel]
  rfl
theorem take_drop_glue (l:List Nat) (s k:Nat) (h:s≤k):(l.take k).drop s ++ l.drop k = l.drop s:=by
  rw [List.drop_take,← List.drop_drop_of_le h]
  exact List.take_append_drop _ _
  where List.drop_drop_of_le {l:List Nat} {s k:Nat} (h:s≤k):(l.drop s).drop (k - s) = l.drop k:=by rw [List.drop_drop];congr 1;exact Nat.add_sub_of_le h
noncomputable def oI:Option Nat→Option Int
  | none=>none
  | some k=>some (k:Int)
noncomputable def outK (pre r:List Nat) (e:Bool) (s:Nat):Option Nat→List Nat
  | none=>pre.drop s ++ kpt e none r
  | some k=>(pre.take k).drop s ++ kpt e (some (pre.drop k)) r
theorem fin_go (x:Str) (s:Nat) (o:Option Int) (ps:List Str) (h:s≤x.cps.toList.length):(finP x ((s:Int),o,ps)).flatMap (·.cps.toList) = ps.flatMap (·.cps.toList) ++ x.cps.toList.drop s:=by
  have hl:x.length = x.cps.toList.length:=Array.length_toList.symm
  delta finP
  split
  · rw [List.flatMap_append,List.flatMap_cons,List.flatMap_nil,List.append_nil,slice_lf x s h]
  · rename_i q
    rw [List.drop_of_length_le (by simp only at q;lia),List.append_nil]
theorem strip_go (x:Str):∀ (r pre:List Nat) (e:Bool) (s:Nat) (o:Option Nat) (ps:List Str),x.cps.toList = pre ++ r→s≤pre.length→(∀ k,o = some k→s≤k∧k < pre.length) →
    (finP x ((escP (pre.length:Int) e r).foldl (stripStep x) ((s:Int),oI o,ps))).flatMap (·.cps.toList) = ps.flatMap (·.cps.toList) ++ outK pre r e s o:=by
  intro r
  induction r with
  | nil=>
    intro pre e s o ps hx hs ho
    rw [List.append_nil] at hx
    have h0:(escP (pre.length:Int) e []).foldl (stripStep x) ((s:Int),oI o,ps) = ((s:Int),oI o,ps):=by
      induction e with
      | false=>rfl
      | true=>exact step_no (x:=x) (b:=((s:Int),oI o,ps)) (p:=((pre.length:Int) - 1,Str.ofString "\\")) (show (Str.ofString "\\" == qt) = false by decide +kernel)
    rw [h0,fin_go x s _ ps (by rw [hx];exact hs),hx]
    induction o with
    | none=>simp [outK,kpt]
    | some k=>show _ ++ _ = _ ++ ((pre.take k).drop s ++ pre.drop k);rw [take_drop_glue pre s k (ho k rfl).1]
  | cons c r ih=>
    intro pre e s o ps hx hs ho
    have hx':x.cps.toList = (pre ++ [c]) ++ r:=by rw [hx];simp
    have hlen:((pre ++ [c]).length:Int) = (pre.length:Int) + 1:=by simp
    have hs':s≤(pre ++ [c]).length:=by simp;exact Nat.le_succ_of_le ‹_›
    have next:∀ e',(finP x ((escP ((pre.length:Int) + 1) e' r).foldl (stripStep x) ((s:Int),oI o,ps))).flatMap (·.cps.toList) = ps.flatMap (·.cps.toList) ++ outK (pre ++ [c]) r e' s o:=fun e'=>by
      have:=ih (pre ++ [c]) e' s o ps hx' hs' (fun k hk=>by have:=ho k hk;simp;lia)
      rwa [hlen] at this
    have e1:∀ e',(o = none→kpt e none (c :: r) = c :: kpt e' none r)→(∀ q,kpt e (some q) (c :: r) = kpt e' (some (q ++ [c])) r)→outK (pre ++ [c]) r e' s o = outK pre (c :: r) e s o:=fun e' h1 h2=>by
      induction o with
      | none=>simp only [outK];rw [h1 rfl,List.drop_append_of_le_length hs];simp
      | some k=>
        have:=ho k rfl
        simp only [outK]
        rw [h2,List.take_append_of_le_length (by lia),List.drop_append_of_le_length (by lia)]
    induction e with
    | true=>
      refine (?_:(finP x ((((pre.length:Int),(Str.ofString "\\" ++ ⟨#[c]⟩:Str)) :: escP ((pre.length:Int) + 1) false r).foldl _ _)).flatMap _ = _)
      rw [List.foldl_cons,step_no (by rw [qt_eq];exact two_ne c 34),next false,e1 false (fun _=>by rfl) (fun q=>by rfl)]
    | false=>
      by_cases h92:c = 92
      · have:escP (pre.length:Int) false (c :: r) = escP ((pre.length:Int) + 1) true r:=by simp [escP,bs_eq,h92]
        rw [this,next true,e1 true (fun _=>by simp [kpt,h92]) (fun q=>by simp [kpt,h92])]
      · have:escP (pre.length:Int) false (c :: r) = ((pre.length:Int),⟨#[c]⟩) :: escP ((pre.length:Int) + 1) false r:=by simp [escP,bs_eq,h92]
        rw [this,List.foldl_cons]
        by_cases h34:c = 34
        · subst h34
          induction o with
          | none=>
            rw [show oI none = none from rfl,step_qN]
            have:=ih (pre ++ [34]) false s (some pre.length) ps hx' hs' (fun k hk=>by cases hk;simp;assumption)
            rw [hlen] at this
            refine this.trans ?_
            simp only [outK]
            rw [List.take_append_of_le_length (Nat.le_refl _),List.take_length,List.drop_append_of_le_length (Nat.le_refl _),List.drop_length]
            rfl
          | some k=>
            obtain ⟨h1,h2⟩:=ho k rfl
            rw [show oI (some k) = some (k:Int) from rfl,step_qS]
            have:=ih (pre ++ [34]) false (pre.length + 1) none (if ((s:Int) != (k:Int)) = true then ps ++ [Txt.slice x (some (s:Int)) (some (k:Int))] else ps) hx' (by simp) (fun k hk=>by cases hk)
            rw [hlen] at this
            refine this.trans ?_
            simp only [outK]
            rw [List.drop_of_length_le (by simp)]
            rw [(by rfl:kpt false (some (pre.drop k)) (34 :: r) = kpt false none r),List.nil_append,← List.append_assoc]
            congr 1
            split
            · rw [List.flatMap_append,List.flatMap_cons,List.flatMap_nil,List.append_nil,slice_lt x s k h1 (by rw [hx];simp;lia),hx,List.drop_append_of_le_length hs,List.take_append_of_le_length (by rw [List.length_drop];lia),List.drop_take]
            · rename_i hq
              have:s = k:=Int.ofNat.inj (by simpa using hq:(s:Int) = k)
              subst this
              rw [List.drop_of_length_le (by rw [List.length_take];lia),List.append_nil]
        · rw [step_no (by rw [qt_eq];simpa using h34),next false,e1 false (fun _=>by simp [kpt,h92,h34]) (fun q=>by simp [kpt,h92,h34])]
theorem strip_parts (x:Str):(stripParts x).flatMap (·.cps.toList) = kpt false none x.cps.toList:=by
  have:=strip_go x x.cps.toList [] false 0 none [] rfl (Nat.le_refl _) (fun k hk=>by cases hk)
  refine (show (finP x (stripSt x)).flatMap (·.cps.toList) = _ from this).trans ?_
  rfl
theorem kpt_same:∀ (l:List Nat) (e:Bool),34 ∉ l→kpt e none l = l
  | [],_,_=>by induction ‹Bool›<;>rfl
  | c :: r,e,h=>by
    simp only [List.mem_cons,not_or] at h
    have:=fun e=>kpt_same r e h.2
    dsimp only [kpt]
    split
    · rw [this]
    · split
      · rw [this]
      · rw [if_neg (fun q=>h.1 q.symm),this]
theorem strip_chars (x:Str):(stripF x).cps.toList = kpt false none x.cps.toList:=by
  delta stripF
  split
  · rw [join_chars,strip_parts]
  · rename_i h
    have:Txt.contains x qt = decide (34 ∈ x.cps.toList):=by rw [qt_eq];exact StrLaws.found_one x 34
    rw [kpt_same _ _ (by rw [this] at h;simpa using h)]
noncomputable def cc (b:Option Int) (c:Nat):Option Int:=if c = 40 then b.map (· + 1) else if c = 41 then b.bind fun b=>if b - 1 < 0 then none else some (b - 1) else b
noncomputable def ct (s:Bool × Option Int) (c:Nat):Bool × Option Int:=if s.1 then (false,s.2) else if c = 92 then (true,s.2) else (false,cc s.2 c)
noncomputable def au (s:Bool × Option (Option Int) × Option Int) (c:Nat):Bool × Option (Option Int) × Option Int:=
  if s.1 then (false,s.2) else if c = 92 then (true,s.2) else if c = 34 then (match s.2.1 with | none=>(false,some s.2.2,s.2.2) | some b=>(false,none,b)) else (false,s.2.1,cc s.2.2 c)
theorem ct_t {s:Bool × Option Int} {c:Nat} (h:s.1 = true):ct s c = (false,s.2):=by delta ct;exact if_pos h
theorem ct_b {s:Bool × Option Int} (h:s.1 = false):ct s 92 = (true,s.2):=by delta ct;rw [h];rfl
theorem ct_o {s:Bool × Option Int} {c:Nat} (h:s.1 = false) (h2:¬ c = 92):ct s c = (false,cc s.2 c):=by delta ct;rw [h,if_neg (by decide),if_neg h2]
theorem ct_none:∀ (l:List Nat) (e:Bool),(l.foldl ct (e,none)).2 = none
  | [],_=>rfl
  | c :: l,e=>by
    rw [List.foldl_cons]
    have:∃ e',ct (e,none) c = (e',none):=by
      delta ct
      split
      · exact ⟨_,rfl⟩
      · split
        · exact ⟨_,rfl⟩
        · refine ⟨false,?_⟩
          delta cc
          split
          · rfl
          · split<;>rfl
    obtain ⟨e',h⟩:=this
    refine h▸?_
    exact ct_none l e'
theorem chk_ct:∀ (l:List Nat) (i:Int) (e:Bool) (b:Int),chk (escP i e l) b = (l.foldl ct (e,some b)).2:=by
  intro l
  induction l with
  | nil=>
    intro i e b
    induction e with
    | false=>rfl
    | true=>
      refine (?_:(if (Str.ofString "\\" == lp) = true then _ else if (Str.ofString "\\" == rp) = true then _ else _) = _)
      rw [lp_eq,rp_eq,bs_eq,one_eq,one_eq]
      rfl
  | cons c l ih=>
    intro i e b
    rw [List.foldl_cons]
    induction e with
    | true=>
      refine (?_:(if ((Str.ofString "\\" ++ ⟨#[c]⟩:Str) == lp) = true then _ else if ((Str.ofString "\\" ++ ⟨#[c]⟩:Str) == rp) = true then _ else _) = _)
      rw [lp_eq,rp_eq,two_ne,two_ne]
      exact ih _ _ _
    | false=>
      by_cases h92:c = 92
      · rw [show escP i false (c :: l) = escP (i + 1) true l by simp [escP,bs_eq,h92],ih,show ct (false,some b) c = (true,some b) by simp [ct,h92]]
      · rw [show escP i false (c :: l) = (i,⟨#[c]⟩) :: escP (i + 1) false l by simp [escP,bs_eq,h92],show ct (false,some b) c = (false,cc (some b) c) by simp [ct,h92]]
        refine (?_:(if ((⟨#[c]⟩:Str) == lp) = true then _ else if ((⟨#[c]⟩:Str) == rp) = true then _ else _) = _)
        rw [lp_eq,rp_eq,one_eq,one_eq]
        by_cases h40:c = 40
        · simp only [h40,cc,decide_true,if_true];exact ih _ _ _
        · by_cases h41:c = 41
          · simp only [h41,cc,decide_true,if_true]
            by_cases hb:b - 1 < 0
            · simp [hb,ct_none]
            · simp only [show (41:Nat) = 40 ↔ False by decide,decide_false,Bool.false_eq_true,if_false,hb,Option.bind_some];exact ih _ _ _
          · simp only [h40,h41,cc,decide_false,Bool.false_eq_true,if_false];exact ih _ _ _
theorem kpt_au:∀ (r:List Nat) (e:Bool),(∀ cur,((kpt e none r).foldl ct (e,cur)).2 = (r.foldl au (e,none,cur)).2.2) ∧
    ∀ q cur,(q.foldl ct (false,cur)).1 = e→((kpt e (some q) r).foldl ct (false,cur)).2 = (r.foldl au (e,some cur,(q.foldl ct (false,cur)).2)).2.2:=by
  intro r
  induction r with
  | nil=>intro e;exact ⟨fun _=>rfl,fun _ _ _=>rfl⟩
  | cons c r ih=>
    intro e
    have app:∀ (q:List Nat) cur,(q ++ [c]).foldl ct (false,cur) = ct (q.foldl ct (false,cur)) c:=fun q cur=>by rw [List.foldl_append];rfl
    induction e with
    | true=>
      refine ⟨fun cur=>?_,fun q cur hq=>?_⟩
      · exact (ih false).1 cur
      · have h:=app q cur
        have h2:=ct_t (c:=c) hq
        simp only [h2] at h
        have:=(ih false).2 (q ++ [c]) cur (by rw [h])
        rw [h] at this
        exact this
    | false=>
      by_cases h92:c = 92
      · subst h92
        refine ⟨fun cur=>(ih true).1 cur,fun q cur hq=>?_⟩
        have h:=app q cur
        simp only [(ct_b hq)] at h
        have:=(ih true).2 (q ++ [92]) cur (by rw [h])
        rw [h] at this
        exact this
      · by_cases h34:c = 34
        · subst h34
          refine ⟨fun cur=>?_,fun q cur hq=>?_⟩
          · exact (ih false).2 [34] cur rfl
          · exact (ih false).1 cur
        · have ha:∀ b cur,au (false,b,cur) c = (false,b,cc cur c):=fun b cur=>by simp [au,h92,h34]
          refine ⟨fun cur=>?_,fun q cur hq=>?_⟩
          · simp only [show kpt false none (c :: r) = c :: kpt false none r by simp [kpt,h92,h34],List.foldl_cons,List.foldl_cons,ha,show ct (false,cur) c = (false,cc cur c) by simp [ct,h92]]
            exact (ih false).1 _
          · have h:=app q cur
            simp only [(ct_o hq h92)] at h
            have:=(ih false).2 (q ++ [c]) cur (by rw [h])
            rw [h] at this
            simp only [show kpt false (some q) (c :: r) = kpt false (some (q ++ [c])) r by simp [kpt,h92,h34],List.foldl_cons,ha]
            exact this
noncomputable def okA (l:List Nat):Bool:=(l.foldl au (false,none,some 0)).2.2 == some 0
theorem check_au (x:Str):checkF x = okA x.cps.toList:=by
  delta checkF okA
  rw [chk_ct,strip_chars,(kpt_au x.cps.toList false).1]
  induction (x.cps.toList.foldl au (false,none,some 0)).2.2 with
  | none=>rfl
  | some b=>rw [Bool.eq_iff_iff];rfl
theorem kpt_len:∀ (l:List Nat) (e:Bool),(kpt e none l).length≤l.length∧∀ q,(kpt e (some q) l).length≤q.length + l.length
  | [],_=>⟨Nat.le_refl _,fun _=>Nat.le_refl _⟩
  | c :: l,e=>by
    have h:=fun e=>kpt_len l e
    refine ⟨?_,fun q=>?_⟩
    · dsimp only [kpt]
      split
      · have:=(h false).1;simp only [List.length_cons];lia
      · split
        · have:=(h true).1;simp only [List.length_cons];lia
        · split
          · have:=(h false).2 [34];simp only [List.length_cons,List.length_nil] at this ⊢;lia
          · have:=(h false).1;simp only [List.length_cons];lia
    · have k:=fun e=>(h e).2 (q ++ [c])
      dsimp only [kpt]
      simp only [List.length_append,List.length_cons,List.length_nil] at k ⊢
      split
      · have:=k false;lia
      · split
        · have:=k true;lia
        · split
          · have:=(h false).1;lia
          · have:=k false;lia
theorem joinOk_of {ps:List Str} (h1:(ps.flatMap (·.cps.toList)).length≤1000):JoinOk (Str.ofString "") ps = true:=by
  have h2:∀ (ps:List Str) (n:Nat),ps.foldl (fun a p=>a + p.length + (Str.ofString "").length) n = n + (ps.flatMap (·.cps.toList)).length:=by
    intro ps
    induction ps with
    | nil=>intro n;rfl
    | cons p ps ih=>
      intro n
      rw [List.foldl_cons,ih,List.flatMap_cons,List.length_append,show p.length = p.cps.toList.length from Array.length_toList.symm,show (Str.ofString "").length = 0 by decide +kernel,Nat.add_zero,Nat.add_assoc]
  delta JoinOk Builtin.Str.tooLong
  rw [List.foldl_toArray,h2]
  rw [Bool.not_eq_true',decide_eq_false_iff_not,Nat.not_lt,Nat.zero_add]
  exact Nat.le_trans h1 (Nat.le_of_ble_eq_true rfl)
theorem join_ok (x:Str) (h:x.length≤1000):JoinOk (Str.ofString "") (stripParts x) = true:=
  joinOk_of (by rw [strip_parts];exact Nat.le_trans (kpt_len _ _).1 (by simp only [Array.length_toList];exact h))
end Mine
end
section
open PySem PySem.W PyProof.Rows
namespace Mine
theorem enumL_lt {α:Type} {l:List α} {i:Int} {p:Int × α} (h:p ∈ enumL i l):p.1 < i + l.length:=by
  induction l generalizing i with
  | nil=>exact nomatch h
  | cons x l ih=>
    rw [List.length_cons]
    rcases List.mem_cons.mp h with rfl | h
    · exact Int.lt_add_of_pos_right _ (Int.natCast_pos.mpr (Nat.succ_pos _))
    · have:=ih h;lia
theorem sum_le {l:List Nat} {k:Nat} (h:∀ x ∈ l,x≤k):l.sum≤l.length * k:=by
  induction l with
  | nil=>exact Nat.zero_le _
  | cons x l ih=>
    rw [List.sum_cons,List.length_cons,Nat.succ_mul,Nat.add_comm]
    exact Nat.add_le_add (ih fun y hy=>h y (List.mem_cons_of_mem _ hy)) (h x List.mem_cons_self)
noncomputable def abc:Str:=Str.ofString "abcde"
noncomputable def lett (i:Int):Str:=⟨#[abc.cps.getD i.toNat 0]⟩
noncomputable def rpAt (i:Int) (e:Int):Option Str:=if e == i then some rp else none
noncomputable def tokF (ends:List Int) (dress:List Str):List (List Str):=(enumL 0 dress).map fun p=>ends.filterMap (rpAt p.1) ++ [p.2 ++ lp ++ lett p.1]
noncomputable def tokensF (ends:List Int) (dress:List Str):List Str:=(tokF ends dress).flatten ++ ends.filterMap (rpAt dress.length)
noncomputable def strsD (l:List Str):D:=.list (l.map .str)
section
variable {c:Cx}
set_option maxRecDepth 100000 in
theorem s_tokens (B:Base c) (hgE:Glob c (Str.ofString "enumerate") (.type "enumerate")) (hgL:Glob c (Str.ofString "len") (.builtin "len")) {n:Nat} {a:Addr} (h:FunAt c (P1 18) a) (ends:List Int) (dress:List Str) (he:ends.length≤10) (hd:dress.length≤5) (hx:∀ x ∈ dress,x.length≤100) :
    CallV c (n + 1) (.ref a) [intsD ends,strsD dress] (strsD (tokensF ends dress)):=by
  have big:∀ {k:Nat},k≤10000→k≤sizeLine:=fun h=>Nat.le_trans h (Nat.le_of_ble_eq_true rfl)
  have hfl:∀ i,(ends.filterMap (rpAt i)).length≤10:=fun i=>Nat.le_trans (List.length_filterMap_le ..) he
  have hll:∀ l ∈ tokF ends dress,l.length≤11:=fun l hl=>by
    obtain ⟨p,_,rfl⟩:=List.mem_map.mp hl
    rw [List.length_append];exact Nat.add_le_add_right (hfl _) 1
  have htl:(tokF ends dress).length≤5:=by delta tokF;rw [List.length_map,enumL_len];exact hd
  refine call_funE B (h.ok2 (.nm (by rfl) (.inr rfl) (by rfl) (.nm (by rfl) (.inr rfl) (by rfl) .nil))) ⟨[some (.val (intsD ends)),some (.val (strsD dress)),some (.val (.list ((tokF ends dress).map strsD))),none],?_⟩
  refine exs_cons (ex_assignC 2 (by rfl) (evc_list1 (d:=.list ((tokF ends dress).map strsD)) [none,none,none,some 0] [.local,.cell,.local,.cell] (by decide +kernel) (evi_enum_nm B (by rfl) hgE (evn_val (ev_nm (by rfl) (by rfl)) src_list)) ?_)) (exs_freeze 2 (by rfl) (by rfl) ?_)
  · delta tokF
    rw [enumD_map,List.map_map]
    refine runs_map (emb:=fun (p:Int × Str)=>.tuple [.int p.1,.str p.2]) _ (big (by rw [enumL_len];lia)) fun p hp=>?_
    obtain ⟨hp1,hp0⟩:=enumL_mem hp
    have hp2:=enumL_lt hp
    have hpx:=hx _ hp1
    have hlt:p.1.toNat < 5:=by lia
    refine ⟨_,asg_tuple (asgs_cons (asg_nm (by rfl) ⟨_,_,rfl,by decide⟩) (asgs_cons (asg_nm (by rfl) ⟨_,_,rfl,by decide⟩) asgs_nil)),(Lss.set (by rfl)).trans (Lss.set (by rfl)),?_⟩
    have e:strsD (ends.filterMap (rpAt p.1) ++ [p.2 ++ lp ++ lett p.1]) = .list ((ends.filterMap (rpAt p.1)).map .str ++ [.str (p.2 ++ lp ++ lett p.1)]):=by delta strsD;rw [List.map_append];rfl
    have hlp:lp.length = 1:=by decide +kernel
    have hab:(Str.ofString "abcde").length = 5:=by decide +kernel
    have hpl:(p.2 ++ lp).length = p.2.length + 1:=by rw [Str.length_append,hlp]
    refine (?_:EvE _ _ _ _ _ (strsD (ends.filterMap (rpAt p.1) ++ [p.2 ++ lp ++ lett p.1])))
    rw [e]
    refine ev_bin (EvO.ev (evo_list1 (d:=.list ((ends.filterMap (rpAt p.1)).map .str)) [none,none,some 1] [.local,.local,.cell] (by decide +kernel) (evi_val (ev_nm (by rfl) (by rfl)) iter_list) ?_)) (ev_list (evs_cons (ev_bin (ev_bin (ev_nm (by rfl) (by rfl)) ev_str (op_addS (big (by rw [show Str.ofString "(" = lp from rfl,hlp];lia))))
      (ev_sub ev_str (ev_nm (by rfl) (by rfl)) (sub_str p.1.toNat (abc.cps.getD p.1.toNat 0) (seqIx hp0 (by rw [hab];lia)) ?_ (Nat.le_of_ble_eq_true rfl))) (op_addS (big (by rw [show Str.ofString "(" = lp from rfl,hpl];exact Nat.le_trans (Nat.add_le_add_right (Nat.add_le_add_right hpx 1) _) (Nat.le_of_ble_eq_true rfl))))) evs_nil)) (op_addL (big (by rw [List.length_map];exact Nat.le_trans (Nat.add_le_add_right (hfl _) _) (Nat.le_of_ble_eq_true rfl))))
    · rw [List.map_filterMap]
      refine runs_list (emb:=D.int) (ds:=[]) (fun e=>(rpAt p.1 e).map D.str) (big (Nat.le_trans (Nat.le_of_eq (Nat.zero_add _)) (Nat.le_trans he (by decide)))) fun e _=>?_
      refine ⟨_,asg_nm (by rfl) ⟨_,_,rfl,by decide⟩,Lss.set (by rfl),?_⟩
      by_cases q:(e == p.1) = true
      · rw [show rpAt p.1 e = some rp from if_pos q]
        exact ⟨ifs_one (evT_cmp (ev_nm (by rfl) (by rfl)) (ev_nm (by rfl) (by rfl)) (cm_eqB 1 (b:=e == p.1) rfl q.symm)),ev_str⟩
      · rw [show rpAt p.1 e = none from if_neg q]
        exact ifs_one (evT_cmp (ev_nm (by rfl) (by rfl)) (ev_nm (by rfl) (by rfl)) (cm_eqB 1 (b:=e == p.1) rfl (Bool.eq_false_iff.mpr q).symm))
    · have:p.1.toNat < abc.cps.size:=hlt
      rw [show Str.ofString "abcde" = abc from rfl,Array.getD_eq_getD_getElem?,Array.getElem?_eq_getElem this];rfl
  have e:strsD (tokensF ends dress) = .list ((tokF ends dress).flatten.map .str ++ (ends.filterMap (rpAt dress.length)).map .str):=by delta strsD tokensF;rw [List.map_append]
  rw [e]
  have hfl2:(tokF ends dress).flatten.length≤55:=by
    rw [List.length_flatten]
    exact Nat.le_trans (sum_le (k:=11) (fun x hx=>by obtain ⟨l,hl,rfl⟩:=List.mem_map.mp hx;exact hll l hl)) (by rw [List.length_map];exact Nat.mul_le_mul_right 11 htl)
  refine exs_stop (ex_return (ev_bin (EvO.ev (evo_list2 (d:=.list ((tokF ends dress).flatten.map .str)) [none,none,none] [.local,.local,.local] (by decide +kernel) (evi_val (ev_nm (by rfl) (by rfl)) iter_list) ?_))
    (EvO.ev (evo_list1 (d:=.list ((ends.filterMap (rpAt dress.length)).map .str)) [none,none,none,some 1] [.local,.local,.globalImplicit,.cell] (by decide +kernel) (evi_val (ev_nm (by rfl) (by rfl)) iter_list) ?_)) (op_addL (big (by rw [List.length_map,List.length_map];exact Nat.le_trans (Nat.add_le_add hfl2 (hfl _)) (Nat.le_of_ble_eq_true rfl)))))) (by simp)
  · rw [(by rw [List.map_flatten,List.flatMap_def]:(tokF ends dress).flatten.map D.str = (tokF ends dress).flatMap fun l=>l.map D.str),← List.nil_append (List.flatMap _ _)]
    refine runs_flat (emb:=strsD) _ 11 (big (by rw [List.length_nil];lia)) (fun l hl=>by rw [List.length_map];exact hll l hl) fun l hl=>?_
    refine ⟨_,asg_nm (by rfl) ⟨_,_,rfl,by decide⟩,Lss.set (by rfl),ifs_nil,fun ds hds=>?_⟩
    refine body_inner ce_list2b (evi_val (ev_nm (by rfl) (by rfl)) iter_list) (loop_list2b ?_)
    refine Eq.mp (congrArg (fun z=>RunsT _ (l.map D.str) (.list ds) (.list (ds ++ z))) (by rw [← List.filterMap_eq_map];rfl:l.filterMap (fun m=>some (D.str m)) = l.map D.str)) ?_
    refine runs_list (emb:=D.str) _ (Nat.le_trans (Nat.add_le_add_left (hll l hl) _) hds) fun m _=>?_
    exact ⟨_,asg_nm (by rfl) ⟨_,_,rfl,by decide⟩,Lss.set (by rfl),ifs_nil,ev_nm (by rfl) (by rfl)⟩
  · rw [List.map_filterMap]
    refine runs_list (emb:=D.int) (ds:=[]) (fun e=>(rpAt dress.length e).map D.str) (big (Nat.le_trans (Nat.le_of_eq (Nat.zero_add _)) (Nat.le_trans he (by decide)))) fun e _=>?_
    refine ⟨_,asg_nm (by rfl) ⟨_,_,rfl,by decide⟩,Lss.set (by rfl),?_⟩
    have hL:∀ {ρ:List (Option Sl)} {q r p:Pos} {sc:Scope},True:=trivial
    by_cases q:(e == (dress.length:Int)) = true
    · rw [show rpAt dress.length e = some rp from if_pos q]
      exact ⟨ifs_one (evT_cmp (ev_nm (by rfl) (by rfl)) (ev_call_nm B (by rfl) hgL callee_builtin (evs_cons (ev_nm (by rfl) (by rfl)) evs_nil) (c_lenL (by rw [List.length_map];lia))) (cm_eqB 1 (b:=e == ((dress.map D.str).length:Int)) rfl (by rw [List.length_map];exact q.symm))),ev_str⟩
    · rw [show rpAt dress.length e = none from if_neg q]
      exact ifs_one (evT_cmp (ev_nm (by rfl) (by rfl)) (ev_call_nm B (by rfl) hgL callee_builtin (evs_cons (ev_nm (by rfl) (by rfl)) evs_nil) (c_lenL (by rw [List.length_map];lia))) (cm_eqB 1 (b:=e == ((dress.map D.str).length:Int)) rfl (by rw [List.length_map];exact (Bool.eq_false_iff.mpr q).symm)))
end
end Mine
end
section
open PySem PySem.W PyProof.Rows
namespace Mine
noncomputable def openedF (tk:List Str):List Int:=(enumL 0 tk).filterMap fun p=>if p.2 == rp then none else some p.1
noncomputable def saidAt (tk:List Str) (first last:Int):Bool:=checkF (Txt.join (Str.ofString "") ((tk.drop first.toNat).take (last + 1 - first).toNat))
noncomputable def seekF (tk:List Str) (first:Int):List Int→Int × Bool→Int × Bool
  | [],b=>b
  | l :: r,_=>if saidAt tk first l = true then (l,true) else seekF tk first r (l,false)
noncomputable def blockF (tk:List Str) (first:Int):Str:=
  let e:=seekF tk first (rangeL first (tk.length - first.toNat)) (0,false)
  Txt.join (Str.ofString "") ((enumL 0 (openedF tk)).filterMap fun p=>if e.2 = true∧first≤p.2∧p.2 < e.1 then some (lett p.1) else none)
noncomputable def refF (tk:List Str):List Bool:=[rp,Str.ofString ")(",Str.ofString "\"("].map fun e=>checkF (Txt.join (Str.ofString "") tk ++ e) == false
noncomputable def mailF (tk:List Str):List Str:=if false ∈ refF tk then [] else (openedF tk).map (blockF tk)
end Mine
end
section
open PySem PySem.W PyProof.Rows
namespace Mine
theorem cutL_mid {α:Type} (l:List α) (a b:Int) (h0:0≤a) (h1:a≤b) (h2:b≤l.length):cutL l (some a) (some b) = (l.drop a.toNat).take (b - a).toNat:=by
  delta cutL loOf hiOf
  have e1:kms_lo (some a) l.length = a.toNat:=by delta kms_lo;simp only;lia
  have e2:kms_hi (some b) l.length = b.toNat:=by delta kms_hi;simp only;lia
  rw [e1,e2]
  congr 1
  lia
theorem flat_sub {l m:List Str} (h:l.Sublist m):(l.flatMap (·.cps.toList)).length≤(m.flatMap (·.cps.toList)).length:=by
  induction h with
  | slnil=>exact Nat.le_refl _
  | cons a _ ih=>rw [List.flatMap_cons,List.length_append];exact Nat.le_trans ih (Nat.le_add_left _ _)
  | cons_cons a _ ih=>rw [List.flatMap_cons,List.flatMap_cons,List.length_append,List.length_append];exact Nat.add_le_add_left ih _
noncomputable def mlR (tk:List Str) (op:List Int) (bl:List Str) (f la sa:Option Sl):List (Option Sl):=[some (.val (strsD tk)),some (.val (intsD op)),some (.own (strsD bl)),f,la,sa,none,none,none,none,none]
noncomputable def mlFor:Stmt:=(P1 19).body.getD 2 (.Pass default)
noncomputable def mlIn:Stmt:=(forBody mlFor).getD 0 (.Pass default)
section
variable {c:Cx}
set_option maxRecDepth 100000 in
theorem ml_turn (B:Base c) (hgE:Glob c (Str.ofString "enumerate") (.type "enumerate")) (hgL:Glob c (Str.ofString "len") (.builtin "len")) {n:Nat} {ac as ai:Addr} (hc:FunAt c (P1 9) ac) (hs:FunAt c (P1 8) as) (hi:FunAt c (P1 7) ai)
    (tk:List Str) (op:List Int) (bl:List Str) (first l:Int) (sa:Option Sl) (h0:0≤first) (hl:first≤l) (hlt:l < tk.length) (hT:(tk.flatMap (·.cps.toList)).length≤900) (hn:tk.length≤100) :
    Exs c (n + 6) (P1 19).scope (forBody mlIn) (mlR tk op bl (some (.val (.int first))) (some (.val (.int l))) sa) (if saidAt tk first l = true then .brk else .next) (mlR tk op bl (some (.val (.int first))) (some (.val (.int l))) (some (.val (.bool (saidAt tk first l))))):=by
  have hcut:cutL (tk.map D.str) (some first) (some (l + 1)) = ((tk.drop first.toNat).take (l + 1 - first).toNat).map .str:=by
    rw [cutL_map,cutL_mid _ _ _ h0 (by lia) (by lia)]
  have hfl:(((tk.drop first.toNat).take (l + 1 - first).toNat).flatMap (·.cps.toList)).length≤900:=Nat.le_trans (flat_sub ((List.take_sublist ..).trans (List.drop_sublist ..))) hT
  have hJ:JoinOk (Str.ofString "") ((tk.drop first.toNat).take (l + 1 - first).toNat) = true:=joinOk_of (Nat.le_trans hfl (by decide))
  have hlen:(Txt.join (Str.ofString "") ((tk.drop first.toNat).take (l + 1 - first).toNat)).length≤1000:=by
    refine Nat.le_trans (Nat.le_of_eq ?_) (Nat.le_trans hfl (by decide))
    exact Array.length_toList.symm.trans (congrArg List.length (join_chars _))
  refine exs_cons (ex_assign (ev_call_nm B (by rfl) hc.glob hc.callee (evs_cons (ev_join ev_str (by rw [← hcut];exact ev_slice (ev_nm (by rfl) (by rfl)) (evP_some (ev_nm (by rfl) (by rfl))) (evP_some (ev_bin (ev_nm (by rfl) (by rfl)) ev_int op_addI)) (slice_list (by rw [List.length_map];exact Nat.le_trans hn (Nat.le_of_ble_eq_true rfl)))) hJ) evs_nil) (s_check (n:=n + 1) B hgE hgL hc hs hi _ hlen (join_ok _ hlen))) (asgS_nm (by rfl)) (swaps_eq (by decide +kernel))) ?_
  have hk:∀ q,saidAt tk first l = q→checkF (Txt.join (Str.ofString "") ((tk.drop first.toNat).take (l + 1 - first).toNat)) = q:=fun _ h=>h
  induction hq:saidAt tk first l with
  | true=>
    rw [hk _ hq]
    exact exs_stop (ex_if_t (evT_cmp (ev_nm (by rfl) (by rfl)) ev_bool (cm_isNotB (a:=true) (b:=false))) (exs_stop ex_break (by simp))) (by simp)
  | false=>
    rw [hk _ hq]
    exact exs_cons (ex_if_f (evT_cmp (ev_nm (by rfl) (by rfl)) ev_bool (cm_isNotB (a:=false) (b:=false))) exs_nil) exs_nil
end
end Mine
end
section
open PySem PySem.W PyProof.Rows
namespace Mine
section
variable {c:Cx} {n:Nat} {sc:Scope} {ρ:List (Option Sl)}
theorem evT_chain2 {a b d:Expr} {o₁ o₂:CmpOp} {x y z:D} {q r:Bool} {pos:Pos} (ha:EvE c n sc ρ a x) (hb:EvE c n sc ρ b y) (hd:q = true→EvE c n sc ρ d z) (h1:CmpG c n o₁ x y q) (h2:q = true→CmpG c n o₂ y z r) (hm:lastMarks [o₁,o₂] [b,d] = false:=by with_unfolding_all rfl) :
    EvT c n sc ρ (.Compare a [o₁,o₂] [b,d] pos) (q && r):=by
  intro A s Z W env R I F
  refine isTrue_chain (Gives.to (ha A s Z W env R I F) fun va s₁ Z₁ I₁ e₁ r₁=>?_) hm
  refine test_link (Gives.to (hb A s₁ Z₁ W env R I₁ (F.grow e₁)) fun vb s₂ Z₂ I₂ e₂ r₂=>?_)
  refine Gives.to (h1 A s₂ Z₂ va vb R I₂ (e₂.rep no_z r₁) r₂) fun vc s₃ Z₃ I₃ e₃ r₃=>?_
  replace r₃:=r₃.iB;induction r₃
  have e₁₃:=(e₁.trans e₂).trans e₃
  refine wpAny_truthy_bool ?_
  induction q with
  | false=>exact PostB.trans e₁₃ (PostB.here (tk:=s₃.toks) I₃)
  | true=>
    refine test_last (Gives.to (hd rfl A s₃ Z₃ W env R I₃ (F.grow e₁₃)) fun vd s₄ Z₄ I₄ e₄ r₄=>?_)
    refine Gives.to (h2 rfl A s₄ Z₄ vb vd R I₄ ((e₃.trans e₄).rep no_z r₂) r₄) fun v s₅ Z₅ I₅ e₅ r₅=>?_
    replace r₅:=r₅.iB;induction r₅
    exact wpAny_truthy_bool (PostB.trans ((e₁₃.trans e₄).trans e₅) (PostB.here (tk:=s₅.toks) I₅))
end
section
variable {c:Cx} {n:Nat} {sc scope:Scope} {ρ:List (Option Sl)} {elt tgt iter tgt' iter':Expr} {ifs ifs':List Expr} {pos:Pos} {xs:List D} {d:D}
theorem evc_list2 (ix:List (Option Nat)) (ks:List NameKind) (hO:compOk scope sc ix ks = true) (hi:EvI c true n sc ρ iter tgt xs)
    (h:RunsT (TurnJ c n (relS scope ks) (ownN scope) tgt ifs (inner (.ListComp elt [⟨tgt,iter,ifs,0⟩,⟨tgt',iter',ifs',0⟩] scope pos) 1 iter') (capR ρ ix)) xs (.list []) d):EvC c n sc ρ (.ListComp elt [⟨tgt,iter,ifs,0⟩,⟨tgt',iter',ifs',0⟩] scope pos) d:=
  ⟨fun _ _=>rfl,fun A s Z W env use Q R I F hk=>comp_core (g:=⟨tgt,iter,ifs,0⟩) (gs:=[_]) ce_list2 rfl (compOk_ok hO) hi (by size_fits) (fun _ _ _=>own_list₀) (loop_list2 h) R I F hk⟩
end
noncomputable def prD (p:Int × Int):D:=.tuple [.int p.1,.int p.2]
noncomputable def ltP (x y:Int × Int):Bool:=if x.1 == y.1 then (if x.2 == y.2 then false else decide (x.2 < y.2)) else decide (x.1 < y.1)
section
variable {prog:Program} {w:World} {A:Around} {E:Value→Shared→Prop} {s:Shared}
theorem lt_pair {a b:Addr} {x y:Int × Int} {t u t' u':Tok} {Q:Value→Shared→Prop} (ha:s.heap.IsTuple a #[.int x.1 t,.int x.2 u]) (hb:s.heap.IsTuple b #[.int y.1 t',.int y.2 u']) (hu:A.units < cLine) (h:Q (.bool (ltP x y)) s) :
    wpAny (model prog w) A (richCompare .Lt (.ref a) (.ref b)) Q E s:=by
  have hTa:=ha.typeIs
  have hTb:=hb.typeIs
  obtain ⟨oa,ea,ca,na,da⟩:=ha
  obtain ⟨ob,eb,cb,nb,db⟩:=hb
  refine wpAny_richCompare_same_room (op:=.Lt) hTa hTb F.slot_tuple_lt (wpAny_call_entry F.slot_tuple_lt hTa F.entry_tuple_lt ?_ (F.args_tuple_lt_2 _ _)) hu
  show wpAny _ _ (isInstance (.ref b) (.type "tuple") >>= _) _ _ s
  refine wpAny_bind (wpAny_isInstance hTb isSubtype_tuple_tuple ?_)
  simp only [Bool.not_true,Bool.false_eq_true,if_false]
  refine wpAny_bind (wpAny_tupleItemsOf ea da ?_)
  refine wpAny_bind (wpAny_tupleItemsOf eb db ?_)
  refine wpAny_bind ?_
  simp only [List.zip_cons_cons,List.zip_nil_right,List.forIn_cons,List.forIn_nil]
  refine wpAny_bind (wpAny_bind (wpAny_eqBool_int ?_))
  have lt:∀ {i j:Int} {p q:Tok} {R:Value→Shared→Prop} {E:Value→Shared→Prop},R (.bool (decide (i < j))) s→wpAny (model prog w) A.in1 (richCompare .Lt (.int i p) (.int j q)) R E s:=fun {i j p q R E} h=>richCompare_gives (op:=.Lt) (typeIs_int s _ p) (typeIs_int s _ q) F.slot_int_lt F.entry_int_lt (F.args_int_lt_2 _ _) (gives_int_lt _ _ p q) (fun x=>nomatch x) h
  delta ltP at h
  induction h1:x.1 == y.1 with
  | false=>
    rw [h1] at h
    exact wpAny_bind (wpAny_rule (wpAny_bind (lt (wpAny_bind (wpAny_pure (wpAny_pure (wpAny_pure (wpAny_pure ⟨_,rfl,(fun e=>nomatch e),h⟩))))))))
  | true=>
    rw [h1] at h
    refine wpAny_pure (wpAny_bind (wpAny_bind (wpAny_eqBool_int ?_)))
    induction h2:x.2 == y.2 with
    | false=>
      rw [h2] at h
      exact wpAny_bind (wpAny_rule (wpAny_bind (lt (wpAny_bind (wpAny_pure (wpAny_pure (wpAny_pure (wpAny_pure ⟨_,rfl,(fun e=>nomatch e),h⟩))))))))
    | true=>
      rw [h2] at h
      exact wpAny_pure (wpAny_pure (wpAny_pure ⟨_,rfl,(fun e=>nomatch e),h⟩))
end
section
variable {prog:Program} {w:World} {A:Around} {R:Result→Shared→Prop} {I:Addr} {fp wr:List Addr} {n:Nat} {P:Nat→Value→Prop} {St:Nat→Heap→Prop}
theorem min_left (W:Walks prog w A.in1 I fp wr n P St) (bt:Nat→Nat→Bool) (K:Heap→Prop) {S:Addr} (hS:S ∉ fp) (hK:∀ h h',K h→(∀ b o,b ∉ wr→b ≠ S→h.get? b = some o→h'.get? b = some o)→K h')
    (ask:∀ i j u v s Q E,K s.heap→P i u→P j v→Q (.bool (bt i j)) s→wpAny (model prog w) A.in1 (richCompare .Lt u v) Q E s) :
    ∀ (k j:Nat) (s:Shared) (vb:Value) (c:Nat),j + 1 + k = n→St (j + 1) s.heap→K s.heap→P (argBest bt j) vb→s.heap.get? S = some { cls:=.type "list",dict:=none,data:=.seq #[vb,vb] c,slots:=#[] } →
    (∀ v h' tk,P (argBest bt (n - 1)) v→(∀ b o,b ∉ wr→b ≠ S→s.heap.get? b = some o→h'.get? b = some o)→R (.ok (.ret v)) { s with heap:=h',toks:=tk }) →
    codeAny (model prog w) A (.builtin "min.loop" ⟨[.ref I,.none,.ref S],[]⟩) R s:=by
  have hw:S ∉ wr:=fun h=>hS (W.sub _ h)
  have nm:(toString "min" ++ toString ".loop" : String) = "min.loop":=by decide
  intro k
  induction k with
  | zero=>
    intro j s vb c hj st hk hb he hR
    refine codeAny_builtin F.entry_min_loop ?_
    rw [Around.under_plainId F.plain_min_loop _]
    refine (?_:wpAny _ A.in1 (seqItems? (.ref S) >>= _) _ _ s)
    refine wpAny_bind (wpAny_seqItems he rfl (wpAny_bind (wpAny_tryCatch (W.done s _ _ (hj▸st) fun h' tk kp=>?_))))
    refine (?_:wpAny _ A.in1 (updateSeq S (fun _=>#[]) >>= _) _ _ _)
    refine wpAny_bind (wpAny_updateSeq (kp S _ hw he) rfl (wpAny_bind (wpAny_letGo (wpAny_pure ?_))))
    exact hR vb _ tk (hj▸hb) fun b o q1 q2 e=>(Heap.get?_update_other _ _ (Ne.symm q2)).trans (kp b o q1 e)
  | succ k ih=>
    intro j s vb c hj st hk hb he hR
    have hlt:j + 1 < n:=by lia
    refine codeAny_builtin F.entry_min_loop ?_
    rw [Around.under_plainId F.plain_min_loop _]
    refine (?_:wpAny _ A.in1 (seqItems? (.ref S) >>= _) _ _ s)
    refine wpAny_bind (wpAny_seqItems he rfl (wpAny_bind (wpAny_tryCatch (W.item (j + 1) s _ _ hlt st fun v h' tk hP st' kp=>?_))))
    have he':=kp S _ hw he
    have hk':K h':=hK _ _ hk fun b o q1 _ e=>kp b o q1 e
    refine (?_:wpAny _ A.in1 (tryCatch (holding [v,v] (richCompare .Lt v vb >>= _)) _ >>= _) _ _ _)
    refine wpAny_bind (wpAny_tryCatch (wpAny_holding (wpAny_bind (ask (j + 1) (argBest bt j) v vb _ _ _ hk' hP hb (wpAny_bind (wpAny_holding (wpAny_truthy_bool (wpAny_bind (wpAny_letGo (wpAny_pure ?_))))))))))
    have eb:argBest bt (j + 1) = if bt (j + 1) (argBest bt j) = true then j + 1 else argBest bt j:=rfl
    induction q:bt (j + 1) (argBest bt j) with
    | true=>
      rw [q] at eb
      simp only [if_true]
      refine wpAny_bind (wpAny_updateSeq he' rfl (wpAny_bind (wpAny_letGo ?_)))
      rw [nm]
      refine wpAny_pure ⟨plainId_quiet F.plain_min_loop _,ih (j + 1) _ v _ (by lia) (W.frame _ _ _ st' fun b hf o e=>?_) (hK _ _ hk' fun b o _ q2 e=>(Heap.get?_update_other _ _ (Ne.symm q2)).trans e) (eb▸hP) (Heap.get?_update_self _ he' rfl) fun v' h'' tk'' hP' kp'=>?_⟩
      · exact (Heap.get?_update_other _ _ (fun h:S = b=>hS (h▸hf))).trans e
      · exact hR v' h'' tk'' hP' fun b o q1 q2 e=>kp' b o q1 q2 ((Heap.get?_update_other _ _ (Ne.symm q2)).trans (kp b o q1 e))
    | false=>
      rw [q] at eb
      simp only [Bool.false_eq_true,if_false]
      refine wpAny_bind (wpAny_letGo ?_)
      rw [nm]
      exact wpAny_pure ⟨plainId_quiet F.plain_min_loop _,ih (j + 1) _ vb c (by lia) st' hk' (eb▸hb) he' fun v' h'' tk'' hP' kp'=>hR v' h'' tk'' hP' fun b o q1 q2 e=>kp' b o q1 q2 (kp b o q1 e)⟩
theorem min_all (W:Walks prog w A.in1 I fp wr n P St) (bt:Nat→Nat→Bool) (K:Heap→Prop) {S:Addr} (hS:S ∉ fp) (hK:∀ h h',K h→(∀ b o,b ∉ wr→b ≠ S→h.get? b = some o→h'.get? b = some o)→K h')
    (ask:∀ i j u v s Q E,K s.heap→P i u→P j v→Q (.bool (bt i j)) s→wpAny (model prog w) A.in1 (richCompare .Lt u v) Q E s)
    {s:Shared} {c:Nat} (h0:0 < n) (st:St 0 s.heap) (hk:K s.heap) (he:s.heap.get? S = some { cls:=.type "list",dict:=none,data:=.seq #[] c,slots:=#[] })
    (hR:∀ v h' tk,P (argBest bt (n - 1)) v→(∀ b o,b ∉ wr→b ≠ S→s.heap.get? b = some o→h'.get? b = some o)→R (.ok (.ret v)) { s with heap:=h',toks:=tk }) :
    codeAny (model prog w) A (.builtin "min.loop" ⟨[.ref I,.none,.ref S],[]⟩) R s:=by
  have hw:S ∉ wr:=fun h=>hS (W.sub _ h)
  have nm:(toString "min" ++ toString ".loop" : String) = "min.loop":=by decide
  refine codeAny_builtin F.entry_min_loop ?_
  rw [Around.under_plainId F.plain_min_loop _]
  refine (?_:wpAny _ A.in1 (seqItems? (.ref S) >>= _) _ _ s)
  refine wpAny_bind (wpAny_seqItems he rfl (wpAny_bind (wpAny_tryCatch (W.item 0 s _ _ h0 st fun v h' tk hP st' kp=>?_))))
  have he':=kp S _ hw he
  refine (?_:wpAny _ A.in1 (updateSeq S (fun _=>#[v,v]) >>= _) _ _ _)
  refine wpAny_bind (wpAny_updateSeq he' rfl ?_)
  rw [nm]
  refine wpAny_pure ⟨plainId_quiet F.plain_min_loop _,min_left W bt K hS hK ask (n - 1) 0 _ v _ (by lia) (W.frame _ _ _ st' fun b hf o e=>?_) (hK _ _ hk fun b o q1 q2 e=>(Heap.get?_update_other _ _ (Ne.symm q2)).trans (kp b o q1 e)) hP (Heap.get?_update_self _ he' rfl) fun v' h'' tk'' hP' kp'=>?_⟩
  · exact (Heap.get?_update_other _ _ (fun h:S = b=>hS (h▸hf))).trans e
  · exact hR v' h'' tk'' hP' fun b o q1 q2 e=>kp' b o q1 q2 ((Heap.get?_update_other _ _ (Ne.symm q2)).trans (kp b o q1 e))
end
section
variable {c:Cx} {n:Nat}
noncomputable def ltA (ns:List (Int × Int)) (i j:Nat):Bool:=ltP (ns.getD i (0,0)) (ns.getD j (0,0))
theorem c_min2 {ns:List (Int × Int)} (hne:ns ≠ []):CallV c n (.builtin "min") [.list (ns.map prD)] (prD (ns.getD (argBest (ltA ns) (ns.length - 1)) (0,0))):=by
  intro A s Z vs R I r
  obtain ⟨v,rfl,q⟩:=reps1 r
  replace q:=q.iL;induction q with | mk z l rr=>?_
  rename_i a ws
  have hl:=l.isList
  have hlt:a < s.heap.objs.size:=l.lt
  have hwl:ws.length = ns.length:=rr.length.trans (List.length_map _)
  have hsz:ws.toArray.size = ns.length:=hwl
  have el:∀ i v,ws.toArray[i]? = some v→i < ns.length∧Rep c s.heap Z v (prD (ns.getD i (0,0))):=fun i v hv=>by
    have hv':ws[i]? = some v:=by simpa using hv
    have hi:i < ns.length:=by
      rcases Nat.lt_or_ge i ws.length with q | q
      · exact hwl▸q
      · exact none_some (List.getElem?_eq_none q) hv'
    obtain ⟨u,hu,ru⟩:=rr.get (i:=i) (d:=prD (ns.getD i (0,0))) (by rw [List.getElem?_map,List.getD_eq_getElem?_getD,List.getElem?_eq_getElem hi];rfl)
    induction some_eq hv' hu
    exact ⟨hi,ru⟩
  have nm:(toString "min" ++ toString ".loop" : String) = "min.loop":=by decide
  refine call_function_tree F.kind_min F.plain_min F.entry_min (F.args_min1 _) ?_
  refine (?_:wpAny _ A.in1 (Builtin.Builtins.bindParams "min" ["key","default"] 0 ⟨[],[]⟩ >>= _) _ _ s)
  refine wpAny_bind (wpAny_of_eq (show Builtin.Builtins.bindParams "min" ["key","default"] 0 ⟨[],[]⟩ = pure [none,none] from rfl) (wpAny_bind (wpAny_pure (wpAny_bind (wpAny_pyIter_list hl ?_)))))
  refine wpAny_bind (wpAny_newObj_type ?_)
  rw [nm]
  refine wpAny_pure ⟨plainId_quiet F.plain_min_loop _,min_all (Walks.list (A:=A.in1) R.h _ a (Nat.ne_of_lt hlt) ws.toArray) (ltA ns) (fun h=>∀ b o,Z b→s.heap.get? b = some o→h.get? b = some o) ?_ ?_ ?_ ?_ ?_ ?_ (Heap.get?_push_size _ rfl) ?_⟩
  · intro h
    rw [Heap.size_push] at h
    rcases List.mem_cons.mp h with h | h
    · exact Nat.succ_ne_self _ h
    · exact absurd (List.mem_singleton.mp h) (Nat.ne_of_gt (Nat.lt_succ_of_lt hlt))
  · refine fun h h' hk kp b o zb e=>kp b o (fun q=>Nat.ne_of_lt (Heap.lt_size e) (List.mem_singleton.mp q)) (fun q=>?_) (hk b o zb e)
    rw [Heap.size_push] at q
    exact absurd (Heap.lt_size e) (by rw [q];exact Nat.not_succ_lt_self)
  · intro i j u v s' Q E hk hu hv hq
    have pr:∀ {i:Nat} {v:Value},ws.toArray[i]? = some v→∃ b t u,v = .ref b∧s'.heap.IsTuple b #[.int (ns.getD i (0,0)).1 t,.int (ns.getD i (0,0)).2 u]:=fun {i v} h=>by
      have r:=(el i v h).2.iT
      induction r with | mk z ht q1=>?_
      induction q1.iQ with | mk a1 q2=>?_
      induction q2.iQ with | mk a2 q3=>?_
      induction q3.iE
      induction a1.iI
      induction a2.iI
      exact ⟨_,_,_,rfl,ht.at fun o e=>hk _ o z e⟩
    obtain ⟨b1,t1,u1,rfl,p1⟩:=pr hu
    obtain ⟨b2,t2,u2,rfl,p2⟩:=pr hv
    exact lt_pair p1 p2 (R.uk (k:=1) (by decide)) hq
  · exact hsz▸List.length_pos_iff.mpr hne
  · exact ⟨⟨_,Heap.get?_push_of_some _ (Heap.get?_push_size _ rfl),rfl,rfl⟩,(hl.push _).push _⟩
  · exact fun b o _ e=>Heap.get?_push_of_some _ (Heap.get?_push_of_some _ e)
  · intro v h' tk hP kp
    rw [hsz] at hP
    have hk:∀ b o,s.heap.get? b = some o→h'.get? b = some o:=fun b o e=>kp b o (fun q=>Nat.ne_of_lt (Heap.lt_size e) (List.mem_singleton.mp q)) (fun q=>by
      rw [Heap.size_push] at q
      exact absurd (Heap.lt_size e) (by rw [q];exact Nat.not_succ_lt_self)) (Heap.get?_push_of_some _ (Heap.get?_push_of_some _ e))
    exact Post.grown I hk (rep_mono (fun b o _ e=>hk b o e) (fun _ z=>z) (el _ v hP).2)
end
end Mine
end
section
open PySem PySem.W PyProof.Rows
namespace Mine
noncomputable def iS (i:Int):Option Sl:=some (.val (.int i))
noncomputable def bS (b:Bool):Option Sl:=some (.val (.bool b))
section
variable {c:Cx}
set_option maxRecDepth 100000 in
theorem ml_in (B:Base c) (hgE:Glob c (Str.ofString "enumerate") (.type "enumerate")) (hgL:Glob c (Str.ofString "len") (.builtin "len")) {n:Nat} {ac as ai:Addr} (hc:FunAt c (P1 9) ac) (hs:FunAt c (P1 8) as) (hi:FunAt c (P1 7) ai)
    (tk:List Str) (op:List Int) (bl:List Str) (first:Int) (h0:0≤first) (hT:(tk.flatMap (·.cps.toList)).length≤900) (hn:tk.length≤100) :
    ∀ (l:List Int) (b:Int × Bool) (la sa:Option Sl),(l = []→la = iS b.1∧sa = bS b.2)→(∀ x ∈ l,first≤x∧x < tk.length) →
      LoopF c (n + 6) (P1 19).scope (forTgt mlIn) (forBody mlIn) (l.map .int) (mlR tk op bl (iS first) la sa) .next (mlR tk op bl (iS first) (iS (seekF tk first l b).1) (bS (seekF tk first l b).2)):=by
  intro l
  induction l with
  | nil=>intro b la sa h _;rw [(h rfl).1,(h rfl).2];exact .nil
  | cons x l ih=>
    intro b la sa _ hx
    obtain ⟨x0,x1⟩:=hx x List.mem_cons_self
    have ht:=ml_turn (n:=n) B hgE hgL hc hs hi tk op bl first x sa h0 x0 x1 hT hn
    have ha:AsgS c (n + 6) (P1 19).scope (forTgt mlIn) (.int x) (mlR tk op bl (iS first) la sa) (mlR tk op bl (iS first) (iS x) sa):=asgS_nm (i:=4) (k:=.cell) (x:=Str.ofString "last") (by rfl)
    have e:seekF tk first (x :: l) b = if saidAt tk first x = true then (x,true) else seekF tk first l (x,false):=rfl
    induction hq:saidAt tk first x with
    | true=>
      rw [hq] at ht e
      rw [e]
      exact .brk ha ht
    | false=>
      rw [hq] at ht e
      rw [e]
      exact .step ha ht (.inl rfl) (ih (x,false) _ _ (fun _=>⟨rfl,rfl⟩) fun y hy=>hx y (List.mem_cons_of_mem _ hy))
theorem enumL_at {α:Type} {l:List α} {i:Int} {p:Int × α} (h:p ∈ enumL i l):i≤p.1:=(enumL_mem h).2
theorem abc_len:abc.length = 5:=by decide +kernel
theorem flat_one {l:List Str} {k:Nat} (h:∀ x ∈ l,x.cps.toList.length≤k):(l.flatMap (·.cps.toList)).length≤l.length * k:=by
  rw [List.flatMap_def,List.length_flatten,List.map_map]
  refine Nat.le_trans (sum_le (k:=k) fun x hx=>?_) (by rw [List.length_map];exact Nat.le_refl _)
  obtain ⟨y,hy,rfl⟩:=List.mem_map.mp hx
  exact h y hy
theorem ifs_oneB {c:Cx} {n:Nat} {sc:Scope} {ρ:List (Option Sl)} {e:Expr} {b r:Bool} (h:EvT c n sc ρ e b) (hr:b = r):IfsJ c n sc ρ [e] r:=hr▸ifs_one h
theorem abc_at {i:Int} (h0:0≤i) (h5:i < 5):abc.cps[i.toNat]? = some (abc.cps.getD i.toNat 0):=by
  have:i.toNat < abc.cps.size:=by have:abc.cps.size = 5:=abc_len;lia
  rw [Array.getD_eq_getD_getElem?,Array.getElem?_eq_getElem this];rfl
set_option maxRecDepth 100000 in
theorem ml_body (B:Base c) (hgE:Glob c (Str.ofString "enumerate") (.type "enumerate")) (hgL:Glob c (Str.ofString "len") (.builtin "len")) (hgR:Glob c (Str.ofString "range") (.type "range")) {n:Nat} {ac as ai:Addr} (hc:FunAt c (P1 9) ac) (hs:FunAt c (P1 8) as) (hi:FunAt c (P1 7) ai)
    (tk:List Str) (bl:List Str) (first:Int) (la sa:Option Sl) (h0:0≤first) (h1:first < tk.length) (hT:(tk.flatMap (·.cps.toList)).length≤900) (hn:tk.length≤100) (ho:(openedF tk).length≤5) (hb:bl.length≤100) :
    ∃ la' sa',Exs c (n + 6) (P1 19).scope (forBody mlFor) (mlR tk (openedF tk) bl (iS first) la sa) .next (mlR tk (openedF tk) (bl ++ [blockF tk first]) (iS first) la' sa'):=by
  have big:∀ {k:Nat},k≤10000→k≤sizeLine:=fun h=>Nat.le_trans h (Nat.le_of_ble_eq_true rfl)
  have hrl:((tk.length:Int) - first).toNat = tk.length - first.toNat:=by lia
  have hne:rangeL first (tk.length - first.toNat) ≠ []:=fun h=>by have:=congrArg List.length h;rw [rangeL_len] at this;simp only [List.length_nil] at this;lia
  generalize he:seekF tk first (rangeL first (tk.length - first.toNat)) (0,false) = e
  have hL:=ml_in (n:=n) B hgE hgL hc hs hi tk (openedF tk) bl first h0 hT hn (rangeL first (tk.length - first.toNat)) (0,false) la sa (fun h=>absurd h hne) fun x hx=>by have:=rangeL_mem hx;lia
  rw [he] at hL
  refine ⟨iS e.1,bS e.2,exs_cons (ρ₁:=mlR tk (openedF tk) bl (iS first) (iS e.1) (bS e.2)) ?_ (exs_cons (ex_less (ex_append 2 (by rfl) (by rfl) (d:=.str (blockF tk first)) ?_ (big (by rw [List.length_map];lia))) Lss.refl ?_) exs_nil)⟩
  · refine ex_for (evi_range2_nm B (by rfl) hgR (evs_cons (ev_nm (by rfl) (by rfl)) (evs_cons (ev_call_nm B (by rfl) hgL callee_builtin (evs_cons (ev_nm (by rfl) (by rfl)) evs_nil) (c_lenL (by rw [List.length_map];lia))) evs_nil)) (by lia) (by lia) (by rw [List.length_map];lia) (by rw [List.length_map];lia)) ?_
    rw [List.length_map,hrl,rangeD_map]
    exact hL
  · have hbl:∀ {k:Int × Int},k ∈ enumL 0 (openedF tk)→0≤k.1∧k.1 < 5:=fun h=>⟨enumL_at h,by have:=enumL_lt h;lia⟩
    have hbe:blockF tk first = Txt.join (Str.ofString "") ((enumL 0 (openedF tk)).filterMap fun p=>if e.2 = true∧first≤p.2∧p.2 < e.1 then some (lett p.1) else none):=by delta blockF;rw [he]
    rw [hbe]
    refine ev_join ev_str (EvO.ev (evo_list1 [none,none,none,some 3,some 4,some 5] [.local,.local,.local,.cell,.cell,.cell] (by decide +kernel) (evi_enum_nm B (by rfl) hgE (evn_val (ev_nm (by rfl) (by rfl)) src_list)) ?_)) (joinOk_of ?_)
    · rw [enumD_map,List.map_filterMap]
      refine runs_list (emb:=fun (p:Int × Int)=>.tuple [.int p.1,.int p.2]) (ds:=[]) _ (big (by rw [enumL_len,List.length_nil];lia)) fun p hp=>?_
      obtain ⟨p0,p5⟩:=hbl hp
      refine ⟨_,asg_tuple (asgs_cons (asg_nm (by rfl) ⟨_,_,rfl,by decide⟩) (asgs_cons (asg_nm (by rfl) ⟨_,_,rfl,by decide⟩) asgs_nil)),(Lss.set (by rfl)).trans (Lss.set (by rfl)),?_⟩
      have hv:(e.2 && (decide (first≤p.2) && decide (p.2 < e.1))) = decide (e.2 = true∧first≤p.2∧p.2 < e.1):=by rw [Bool.decide_and,Bool.decide_and,Bool.decide_eq_true]
      by_cases q:e.2 = true∧first≤p.2∧p.2 < e.1
      · rw [if_pos q]
        exact ⟨ifs_oneB (evT_and2 (evT_cmp (ev_nm (by rfl) (by rfl)) ev_bool cm_isBN) fun _=>evT_chain2 (ev_nm (by rfl) (by rfl)) (ev_nm (by rfl) (by rfl)) (fun _=>ev_nm (by rfl) (by rfl)) cm_le fun _=>cm_lt) (hv.trans (decide_eq_true q)),
          ev_sub ev_str (ev_nm (by rfl) (by rfl)) (sub_str p.1.toNat _ (seqIx p0 (by rw [show Str.ofString "abcde" = abc from rfl,abc_len];lia)) (abc_at p0 p5) (Nat.le_of_ble_eq_true rfl))⟩
      · rw [if_neg q]
        exact ifs_oneB (evT_and2 (evT_cmp (ev_nm (by rfl) (by rfl)) ev_bool cm_isBN) fun _=>evT_chain2 (ev_nm (by rfl) (by rfl)) (ev_nm (by rfl) (by rfl)) (fun _=>ev_nm (by rfl) (by rfl)) cm_le fun _=>cm_lt) (hv.trans (decide_eq_false q))
    · refine Nat.le_trans (flat_one (k:=1) fun x hx=>?_) (Nat.le_trans (Nat.mul_le_mul_right 1 (Nat.le_trans (List.length_filterMap_le ..) (by rw [enumL_len];exact ho))) (by decide))
      obtain ⟨p,_,hp⟩:=List.mem_filterMap.mp hx
      split at hp
      · cases hp;exact Nat.le_refl 1
      · cases hp
  · refine .cons (.inr rfl) (.cons (.inr rfl) (.cons (.inr ?_) (.cons (.inr rfl) (.cons (.inr rfl) (.cons (.inr rfl) Lss.refl)))))
    delta strsD
    rw [List.map_append];rfl
end
end Mine
end
section
open PySem PySem.W PyProof.Rows
namespace Mine
noncomputable def endsL:List Str:=[rp,Str.ofString ")(",Str.ofString "\"("]
theorem opened_mem {tk:List Str} {x:Int} (h:x ∈ openedF tk):0≤x∧x < tk.length:=by
  obtain ⟨p,hp,he⟩:=List.mem_filterMap.mp h
  split at he
  · cases he
  · cases he;exact ⟨enumL_at hp,by have:=enumL_lt hp;lia⟩
section
variable {c:Cx}
theorem ml_loop (B:Base c) (hgE:Glob c (Str.ofString "enumerate") (.type "enumerate")) (hgL:Glob c (Str.ofString "len") (.builtin "len")) (hgR:Glob c (Str.ofString "range") (.type "range")) {n:Nat} {ac as ai:Addr} (hc:FunAt c (P1 9) ac) (hs:FunAt c (P1 8) as) (hi:FunAt c (P1 7) ai)
    (tk:List Str) (hT:(tk.flatMap (·.cps.toList)).length≤900) (hn:tk.length≤100) (ho:(openedF tk).length≤5) :
    ∀ (l:List Int) (bl:List Str) (f la sa:Option Sl),(∀ x ∈ l,0≤x∧x < tk.length)→bl.length + l.length≤100 →
      ∃ f' la' sa',LoopF c (n + 6) (P1 19).scope (forTgt mlFor) (forBody mlFor) (l.map .int) (mlR tk (openedF tk) bl f la sa) .next (mlR tk (openedF tk) (bl ++ l.map (blockF tk)) f' la' sa'):=by
  intro l
  induction l with
  | nil=>intro bl f la sa _ _;exact ⟨f,la,sa,by rw [List.map_nil,List.map_nil,List.append_nil];exact .nil⟩
  | cons x l ih=>
    intro bl f la sa hx hb
    obtain ⟨x0,x1⟩:=hx x List.mem_cons_self
    rw [List.length_cons] at hb
    obtain ⟨la',sa',ht⟩:=ml_body (n:=n) B hgE hgL hgR hc hs hi tk bl x la sa x0 x1 hT hn ho (by lia)
    obtain ⟨f',la'',sa'',hr⟩:=ih (bl ++ [blockF tk x]) (iS x) la' sa' (fun y hy=>hx y (List.mem_cons_of_mem _ hy)) (by rw [List.length_append,List.length_singleton];lia)
    rw [List.append_assoc] at hr
    exact ⟨f',la'',sa'',.step (asgS_nm (i:=3) (k:=.cell) (x:=Str.ofString "first") (by rfl)) ht (.inl rfl) hr⟩
set_option maxRecDepth 100000 in
theorem s_mail (B:Base c) (hgE:Glob c (Str.ofString "enumerate") (.type "enumerate")) (hgL:Glob c (Str.ofString "len") (.builtin "len")) (hgR:Glob c (Str.ofString "range") (.type "range")) {n:Nat} {a ac as ai:Addr} (h:FunAt c (P1 19) a) (hc:FunAt c (P1 9) ac) (hs:FunAt c (P1 8) as) (hi:FunAt c (P1 7) ai)
    (tk:List Str) (hT:(tk.flatMap (·.cps.toList)).length≤900) (hn:tk.length≤100) (ho:(openedF tk).length≤5) :
    CallV c (n + 7) (.ref a) [strsD tk] (strsD (mailF tk)):=by
  have big:∀ {k:Nat},k≤10000→k≤sizeLine:=fun h=>Nat.le_trans h (Nat.le_of_ble_eq_true rfl)
  obtain ⟨f,la,sa,hL⟩:=ml_loop (n:=n) B hgE hgL hgR hc hs hi tk hT hn ho (openedF tk) [] none none none (fun x hx=>opened_mem hx) (by rw [List.length_nil];lia)
  refine call_funE B (h.ok1 (.nm (by rfl) (.inr rfl) (by rfl) .nil)) ⟨[some (.val (strsD tk)),some (.val (intsD (openedF tk))),some (.val (strsD ((openedF tk).map (blockF tk)))),f,la,sa,some (.val (.list ((refF tk).map .bool))),none,none,none,none],?_⟩
  refine exs_cons (ex_assignC 1 rfl (evc_list1 (d:=intsD (openedF tk)) [none,none,none] [.local,.local,.local] (by decide +kernel) (evi_enum_nm B (by rfl) hgE (evn_val (ev_nm (by rfl) (by rfl)) src_list)) ?_)) (exs_freeze 1 rfl (by rfl) ?_)
  · delta intsD openedF
    rw [enumD_map,List.map_filterMap]
    refine runs_list (emb:=fun (p:Int × Str)=>.tuple [.int p.1,.str p.2]) (ds:=[]) _ (big (by rw [enumL_len,List.length_nil];lia)) fun p hp=>?_
    refine ⟨_,asg_tuple (asgs_cons (asg_nm (by rfl) ⟨_,_,rfl,by decide⟩) (asgs_cons (asg_nm (by rfl) ⟨_,_,rfl,by decide⟩) asgs_nil)),(Lss.set (by rfl)).trans (Lss.set (by rfl)),?_⟩
    by_cases q:(p.2 == rp) = true
    · rw [if_pos q]
      exact ifs_oneB (evT_cmp (ev_nm (by rfl) (by rfl)) ev_str (cm_neB 1 (b:=p.2 == rp) rfl rfl)) (by rw [q];rfl)
    · rw [if_neg q]
      exact ⟨ifs_oneB (evT_cmp (ev_nm (by rfl) (by rfl)) ev_str (cm_neB 1 (b:=p.2 == rp) rfl rfl)) (by rw [Bool.eq_false_iff.mpr q];rfl),ev_nm (by rfl) (by rfl)⟩
  refine exs_cons (ex_assignO 2 rfl (evo_list (ds:=[]) evs_nil)) ?_
  refine exs_cons (ex_for (evi_val (ev_nm (by rfl) (by rfl)) iter_list) hL) (exs_freeze 2 rfl (by rfl) ?_)
  have hJ:JoinOk (Str.ofString "") tk = true:=joinOk_of (Nat.le_trans hT (by decide))
  have hjl:(Txt.join (Str.ofString "") tk).length≤900:=Nat.le_trans (Nat.le_of_eq (Array.length_toList.symm.trans (congrArg List.length (join_chars tk)))) hT
  refine exs_cons (ex_assignC 6 rfl (evc_list1 (d:=.list ((refF tk).map .bool)) [none,none,none,some 0] [.local,.local,.globalImplicit,.cell] (by decide +kernel) (evi_val (ev_tuple (ds:=endsL.map .str) (evs_cons ev_str (evs_cons ev_str (evs_cons ev_str evs_nil)))) iter_tuple) ?_)) (exs_freeze 6 rfl (by rfl) ?_)
  · delta refF
    rw [List.map_map]
    refine runs_map (emb:=D.str) _ (Nat.le_of_ble_eq_true rfl) fun e he=>?_
    have hel:e.length≤2:=by
      have:endsL.all (fun e=>decide (e.length≤2)) = true:=by decide +kernel
      exact of_decide_eq_true (List.all_eq_true.mp this e he)
    have hlen:(Txt.join (Str.ofString "") tk ++ e).length≤1000:=by rw [Str.length_append];lia
    exact ⟨_,asg_nm (by rfl) ⟨_,_,rfl,by decide⟩,Lss.set (by rfl),ev_cmp (ev_call_nm B (by rfl) hc.glob hc.callee (evs_cons (ev_bin (ev_join ev_str (ev_nm (by rfl) (by rfl)) hJ) (ev_nm (by rfl) (by rfl)) (op_addS (big (by lia)))) evs_nil) (s_check (n:=n + 1) B hgE hgL hc hs hi _ hlen (join_ok _ hlen))) ev_bool cm_isB⟩
  refine exs_stop (ex_return (ev_ifexp (q:=!(refF tk).any (· == false)) (evT_cmp ev_bool (ev_nm (by rfl) (by rfl)) cm_notInB) (fun q=>?_) fun q=>?_)) (by simp)
  · have:mailF tk = (openedF tk).map (blockF tk):=if_neg fun hm=>by
      rw [List.any_eq_true.mpr ⟨false,hm,rfl⟩] at q;cases q
    rw [this]
    exact ev_nm (by rfl) (by rfl)
  · have:mailF tk = []:=if_pos (by
      have q:(refF tk).any (· == false) = true:=by simpa using q
      obtain ⟨x,hx,e⟩:=List.any_eq_true.mp q
      exact beq_iff_eq.mp e▸hx)
    rw [this]
    exact ev_list evs_nil
end
end Mine
end
section
open PySem PySem.W PyProof.Rows
namespace Mine
theorem cutL_take {α:Type} (l:List α) (k:Int) (h:0≤k):cutL l none (some k) = l.take k.toNat:=by
  delta cutL loOf hiOf
  have h1:kms_lo none l.length = 0:=rfl
  have h2:kms_hi (some k) l.length = min k.toNat l.length:=by
    delta kms_hi
    simp only
    rw [if_neg (by lia)]
  rw [h1,h2,List.drop_zero,Nat.sub_zero]
  by_cases hk:k.toNat≤l.length
  · rw [Nat.min_eq_left hk]
  · rw [Nat.min_eq_right (by lia),List.take_length,List.take_of_length_le (by lia)]
theorem find_nodup {α:Type} (f:α→Str) (g:α→D):∀ {l:List α},(l.map f).Nodup→∀ {x:α},x ∈ l→((l.map fun r=>(f r,g r)).find? fun e=>e.1 = f x) = some (f x,g x)
  | [],_,_,h=>by cases h
  | y :: l,hn,x,h=>by
    rw [List.map_cons,List.nodup_cons] at hn
    rw [List.map_cons,List.find?_cons]
    by_cases q:f y = f x
    · rcases List.mem_cons.mp h with rfl | h
      · simp
      · exact absurd (q▸List.mem_map.mpr ⟨x,h,rfl⟩:f y ∈ l.map f) hn.1
    · rcases List.mem_cons.mp h with rfl | h
      · exact absurd rfl q
      · rw [show decide (f y = f x) = false from decide_eq_false q]
        exact find_nodup f g hn.2 h
section
variable {c:Cx} {C Na:Addr} {mN:Str→Option Value} {ai ac:Addr}
end
end Mine
end
section
open PySem PySem.W PyProof.Rows
namespace Mine
theorem fold_stored {α:Type} (f:α→Str × D):∀ (l:List α) (es:List (Str × D)),((es.map (·.1)) ++ l.map fun x=>(f x).1).Nodup→l.foldl (fun es x=>storedD es (f x).1 (f x).2) es = es ++ l.map f
  | [],es,_=>by simp
  | x :: l,es,h=>by
    have hx:es.any (fun e=>e.1 = (f x).1) = false:=by
      rw [List.any_eq_false]
      intro e he q
      rw [List.map_cons,List.nodup_append] at h
      exact h.2.2 e.1 (List.mem_map.mpr ⟨e,he,rfl⟩) (f x).1 List.mem_cons_self (by simpa using q)
    rw [List.foldl_cons,(by delta storedD;rw [if_neg (by rw [hx];simp)]:storedD es (f x).1 (f x).2 = es ++ [f x]),fold_stored f l (es ++ [f x]) (by rw [List.map_append];simpa using h)]
    simp
end Mine
end
section
open PySem PySem.W PyProof.Rows
namespace Mine
theorem eqvL_same {f:D→D→Option Bool} {l:List D} (h:∀ x ∈ l,f x x = some true):eqvL f l l = some true:=by
  induction l with
  | nil=>rfl
  | cons x l ih=>exact eqvL_c (h x List.mem_cons_self) (ih fun y hy=>h y (List.mem_cons_of_mem _ hy))
theorem eqvE_all {f:D→D→Option Bool} {fs es:List (Str × D)} (h:∀ e ∈ es,∃ g,(fs.find? fun g=>g.1 = e.1) = some g∧f e.2 g.2 = some true):eqvE f fs es = some true:=by
  induction es with
  | nil=>rfl
  | cons e es ih=>
    obtain ⟨g,h1,h2⟩:=h e List.mem_cons_self
    exact eqvE_c h1 h2 (ih fun y hy=>h y (List.mem_cons_of_mem _ hy))
section
variable {c:Cx} {aF aA aAc:Addr}
end
end Mine
end
section
open PySem PySem.W PyProof.Rows
namespace Mine
noncomputable abbrev Ms:=Fin 32
noncomputable def nm (m:Ms):Str:=⟨((([0,1,2,3,4]:List Nat).filter fun i=>m.val.testBit i).map (97 + ·)).toArray⟩
noncomputable def ls:List Ms:=[1,2,4,8,16]
theorem nm_inj:∀ a b:Ms,nm a = nm b→a = b:=by decide +kernel
theorem ls_abc:signs (Str.ofString "abcde") = ls.map fun m=>D.str (nm m):=by
  have:(Str.ofString "abcde").cps.toList.map (fun ch=>(⟨#[ch]⟩:Str)) = ls.map nm:=by decide +kernel
  refine (List.map_map (f:=fun ch=>(⟨#[ch]⟩:Str)) (g:=D.str)).symm.trans ?_
  rw [this,List.map_map];rfl
theorem ls_nd:ls.Nodup:=by decide
noncomputable def dcM (l:List Ms) (g:Ms→D):List (Str × D):=l.map fun r=>(nm r,g r)
theorem nm_nd {l:List Ms} (h:l.Nodup):(l.map nm).Nodup:=List.Pairwise.map nm (fun _ _ h e=>h (nm_inj _ _ e)) h
theorem dm_find {l:List Ms} {g:Ms→D} {x:Ms} (hn:l.Nodup) (hx:x ∈ l):((dcM l g).find? fun e=>e.1 = nm x) = some (nm x,g x):=find_nodup nm g (nm_nd hn) hx
theorem dm_fold (l:List Ms) (g:Ms→D) (hn:l.Nodup):D.dict (dcM l g) = .dict (l.foldl (fun es p=>match (some (nm p,g p):Option (Str × D)) with | some q=>storedD es q.1 q.2 | none=>es) []):=by
  have:=fold_stored (fun p:Ms=>(nm p,g p)) l [] (by exact nm_nd hn)
  simp only
  rw [this];rfl
theorem dm_new {l:List Ms} {g:Ms→D} {x:Ms} (h:x ∉ l):storedD (dcM l g) (nm x) (g x) = dcM (l ++ [x]) g:=by
  have:(dcM l g).any (fun e=>e.1 = nm x) = false:=by
    rw [List.any_eq_false]
    intro e he q
    obtain ⟨y,hy,rfl⟩:=List.mem_map.mp he
    exact h (nm_inj _ _ (of_decide_eq_true q)▸hy)
  delta storedD dcM at *
  rw [if_neg (by rw [this];simp),List.map_append];rfl
theorem dm_keys (l:List Ms) (g:Ms→D):keysD (dcM l g) = l.map fun m=>D.str (nm m):=List.map_map ..
theorem loop_grow {c:Cx} {n:Nat} {sc:Scope} {tgt:Expr} {body:List Stmt} {α:Type} {emb:α→D} (st:List α→List (Option Sl)):∀ {l done:List α} {ρ:List (Option Sl)},ρ = st done→(done ++ l).Nodup →
    (∀ done x,x ∉ done→(∃ r,done ++ x :: r = done ++ x :: r)→x ∈ l→done.length≤1000→∃ ρ₁ ρ₂,AsgS c n sc tgt (emb x) (st done) ρ₁∧Exs c n sc body ρ₁ .next ρ₂∧Lss (st (done ++ [x])) ρ₂)→(done ++ l).length≤1000→LoopF c n sc tgt body (l.map emb) ρ .next (st (done ++ l)):=by
  intro l
  induction l with
  | nil=>intro done ρ h0 _ _ _;rw [List.append_nil];exact h0▸.nil
  | cons x l ih=>
    intro done _ h0 hn h hl
    have hx:x ∉ done:=fun hm=>(List.nodup_append.mp hn).2.2 x hm x List.mem_cons_self rfl
    rw [List.length_append,List.length_cons] at hl
    obtain ⟨ρ₁,ρ₂,h1,h2,h3⟩:=h done x hx ⟨[],rfl⟩ List.mem_cons_self (by lia)
    subst h0
    rw [(by rw [List.append_assoc];rfl:done ++ x :: l = (done ++ [x]) ++ l)] at hn ⊢
    exact .step h1 (exs_less h2 Lss.refl h3) (.inl rfl) (ih rfl hn (fun d y q r hy=>h d y q r (List.mem_cons_of_mem _ hy)) (by rw [List.length_append,List.length_append,List.length_singleton];lia))
section
variable {c:Cx} {n:Nat} {sc:Scope} {ρ:List (Option Sl)} {N:Nat→Prop} {tgt elt kx vx:Expr} {ifs:List Expr}
theorem runs_filter {α:Type} {emb:α→D} (q:α→Bool) (f:α→D) {l:List α} (hs:l.length≤sizeLine)
    (h:∀ x ∈ l,∃ ρx,Asg c n sc N tgt (emb x) ρ ρx∧Lss ρ ρx∧IfsJ c n sc ρx ifs (q x)∧(q x = true→EvE c n sc ρx elt (f x))):RunsT (TurnJ c n sc N tgt ifs (emitL elt) ρ) (l.map emb) (.list []) (.list ((l.filter q).map f)):=by
  have e:(l.filter q).map f = l.filterMap fun y=>if q y = true then some (f y) else none:=by
    clear h hs
    induction l with
    | nil=>rfl
    | cons y l ih=>
      rw [List.filter_cons,List.filterMap_cons]
      by_cases hq:q y = true
      · rw [if_pos hq,if_pos hq,List.map_cons,ih]
      · rw [if_neg hq,if_neg hq,ih]
  rw [e]
  refine runs_list (ds:=[]) _ (by rw [List.length_nil,Nat.zero_add];exact hs) fun x hx=>?_
  obtain ⟨ρx,h1,h2,h3,h4⟩:=h x hx
  refine ⟨ρx,h1,h2,?_⟩
  by_cases hq:q x = true
  · rw [if_pos hq];exact ⟨hq▸h3,h4 hq⟩
  · rw [if_neg hq];exact Bool.eq_false_iff.mpr hq▸h3
theorem runs_dm (q:Ms→Bool) (g:Ms→D) {l:List Ms} (hn:l.Nodup) (hs:l.length≤sizeLine)
    (h:∀ x ∈ l,∃ ρx,Asg c n sc N tgt (.str (nm x)) ρ ρx∧Lss ρ ρx∧IfsJ c n sc ρx ifs (q x)∧(q x = true→EvE c n sc ρx kx (.str (nm x))∧EvE c n sc ρx vx (g x))):RunsT (TurnJ c n sc N tgt ifs (emitD kx vx) ρ) (l.map fun m=>.str (nm m)) (.dict []) (.dict (dcM (l.filter q) g)):=by
  have e:∀ (l:List Ms) (es:List (Str × D)),l.foldl (fun es x=>match (if q x = true then some (nm x,g x) else none:Option (Str × D)) with | some p=>storedD es p.1 p.2 | none=>es) es = (l.filter q).foldl (fun es p=>match (some (nm p,g p):Option (Str × D)) with | some q=>storedD es q.1 q.2 | none=>es) es:=by
    intro l
    induction l with
    | nil=>intro es;rfl
    | cons y l ih=>
      intro es
      rw [List.filter_cons,List.foldl_cons]
      by_cases hq:q y = true
      · rw [if_pos hq,if_pos hq,List.foldl_cons];exact ih _
      · rw [if_neg hq,if_neg hq];exact ih _
  rw [dm_fold _ _ (hn.sublist List.filter_sublist),← e]
  refine runs_dict (emb:=fun m=>D.str (nm m)) _ (by rw [List.length_nil,Nat.zero_add];exact hs) fun x hx=>?_
  obtain ⟨ρx,h1,h2,h3,h4⟩:=h x hx
  refine ⟨ρx,h1,h2,?_⟩
  by_cases hq:q x = true
  · rw [if_pos hq];exact ⟨hq▸h3,h4 hq⟩
  · rw [if_neg hq];exact Bool.eq_false_iff.mpr hq▸h3
end
theorem all_true (l:List Ms):l.filter (fun _=>true) = l:=List.filter_eq_self.mpr fun _ _=>rfl
noncomputable def inB (b:Str) (x:Ms):Bool:=Txt.contains b (nm x)
noncomputable def oth (b:Str) (x:Ms):List Ms:=ls.filter fun y=>inB b y != inB b x
noncomputable def newB (x:Ms) (p:Str × Int):Bk:=⟨if inB p.1 x then 1 else 0,(oth p.1 x).length,if inB p.1 x then p.2 else 0,p.2 * (oth p.1 x).length,(oth p.1 x).map fun y=>(nm y,p.2)⟩
noncomputable def ace:Str:=Str.ofString "ace"
noncomputable def stepB (x:Ms) (b:Bk) (p:Str × Int):Bk:=if inB ace x then addB b (newB x p) else addB (newB x p) b
noncomputable def bookF (pz:List (Str × Int)) (x:Ms):Bk:=pz.foldl (stepB x) ⟨0,0,0,0,[]⟩
theorem addC_len (t s:List (Str × Int)):(addC t s).length≤t.length + s.length:=by
  have g:∀ (f:List (Str × Int)→Str × Int→Int) (l m:List (Str × Int)),(l.foldl (fun m p=>putI m p.1 (f m p)) m).length≤m.length + l.length:=by
    intro f l
    induction l with
    | nil=>exact fun m=>Nat.le_refl _
    | cons p l ih=>intro m;have:=ih (putI m p.1 (f m p));have:=putI_len m p.1 (f m p);rw [List.foldl_cons,List.length_cons];lia
  have h1:=g (fun _ p=>p.2) t []
  have h2:=g (fun m p=>match getI m p.1 with | some a=>a + p.2 | none=>p.2) s (t.foldl (fun m p=>putI m p.1 p.2) [])
  exact Nat.le_trans h2 (Nat.add_le_add_right (Nat.le_trans h1 (Nat.le_of_eq (Nat.zero_add _))) _)
noncomputable def boR (bl sp:List D) (E:List Ms) (pz:List (Str × Int)) (x bk blk span oh ow nw:Option Sl):List (Option Sl):=
  [some (.val (.list bl)),some (.val (.list sp)),some (.own (.dict (dcM E fun x=>bkD (bookF pz x)))),x,bk,blk,span,oh,ow,nw,none,none,none,none]
noncomputable def boFor:Stmt:=(P1 20).body.getD 1 (.Pass default)
noncomputable def boIn:Stmt:=(forBody boFor).getD 1 (.Pass default)
section
variable {c:Cx}
noncomputable def zpD (p:Str × Int):D:=.tuple [.str p.1,.int p.2]
set_option maxRecDepth 100000 in
theorem bo_turn (B:Base c) (hgI:Glob c (Str.ofString "isinstance") (.builtin "isinstance")) (hgT:Glob c (Str.ofString "tuple") (.type "tuple")) (hgN:Glob c (Str.ofString "int") (.type "int")) (hgL:Glob c (Str.ofString "len") (.builtin "len")) {n:Nat} {af ac:Addr} (hf:FunAt c (P1 3) af) (hc:FunAt c (P1 4) ac)
    (bl sp:List D) (E:List Ms) (pz:List (Str × Int)) (x:Ms) (b:Bk) (p:Str × Int) (hb:b.t.length≤1000) (hp:p.2.natAbs≤1000) (v1 v2 v3 v4 v5:Option Sl) :
    ∃ ρ₁ ρ₂,AsgS c (n + 2) (P1 20).scope (forTgt boIn) (zpD p) (boR bl sp E pz (some (.val (.str (nm x)))) (some (.val (bkD b))) v1 v2 v3 v4 v5) ρ₁∧Exs c (n + 2) (P1 20).scope (forBody boIn) ρ₁ .next ρ₂ ∧
      Lss (boR bl sp E pz (some (.val (.str (nm x)))) (some (.val (bkD (stepB x b p)))) none none none none none) ρ₂:=by
  have big:∀ {k:Nat},k≤10000→k≤sizeLine:=fun h=>Nat.le_trans h (Nat.le_of_ble_eq_true rfl)
  have hol:(oth p.1 x).length≤5:=List.length_filter_le ..
  have hnl:(newB x p).t.length≤5:=by delta newB;rw [List.length_map];exact hol
  refine ⟨_,_,asgS_tuple (asgSs_cons (asgS_nm (by rfl)) (asgSs_cons (asgS_nm (by rfl)) asgSs_nil)),exs_cons (ex_assignC 7 (by rfl) (evc_list1 (d:=.list ((oth p.1 x).map fun m=>.str (nm m))) [none,none,some 5,some 3] [.local,.local,.cell,.cell] (by decide +kernel) (evi_val ev_str iter_str) ?_)) (exs_freeze 7 (by rfl) (by rfl)
    (exs_cons (ex_assign (ev_ifexp (d:=.int (newB x p).c) (evT_cmp (ev_nm (by rfl) (by rfl)) (ev_nm (by rfl) (by rfl)) cm_inS) (fun q=>?_) fun q=>?_) (asgS_nm (by rfl)))
    (exs_cons (ex_assign (d:=bkD (newB x p)) (ev_tuple (evs_cons (ev_call_nm B (by rfl) hgN callee_type (evs_cons (ev_cmp (ev_nm (by rfl) (by rfl)) (ev_nm (by rfl) (by rfl)) cm_inS) evs_nil) c_intB)
      (evs_cons (ev_call_nm B (by rfl) hgL callee_builtin (evs_cons (ev_nm (by rfl) (by rfl)) evs_nil) ?_) (evs_cons (ev_nm (by rfl) (by rfl)) (evs_cons (ev_bin (ev_nm (by rfl) (by rfl)) (ev_call_nm B (by rfl) hgL callee_builtin (evs_cons (ev_nm (by rfl) (by rfl)) evs_nil) ?_) (op_mulI (IntMulOk.of_left (intBits_small (by lia)))))
      (evs_cons (EvO.ev (evo_dict1 B [none,none,some 6] [.local,.local,.cell] (by decide +kernel) (evi_val (ev_nm (by rfl) (by rfl)) iter_list) ?_)) evs_nil)))))) (asgS_nm (by rfl)))
    (exs_cons (ex_assign (ev_ifexp (d:=bkD (stepB x b p)) (evT_cmp (ev_nm (by rfl) (by rfl)) ev_str cm_inS) (fun q=>?_) fun q=>?_) (asgS_nm (by rfl))) exs_nil)))),?_⟩
  · rw [ls_abc]
    exact runs_filter (emb:=fun m=>D.str (nm m)) (fun y=>inB p.1 y != inB p.1 x) _ (Nat.le_of_ble_eq_true rfl) fun y _=>⟨_,asg_nm (by rfl) ⟨_,_,rfl,by decide⟩,Lss.set (by rfl),ifs_one (evT_cmp (ev_cmp (ev_nm (by rfl) (by rfl)) (ev_nm (by rfl) (by rfl)) cm_inS) (ev_cmp (ev_nm (by rfl) (by rfl)) (ev_nm (by rfl) (by rfl)) cm_inS) (cm_neB 1 rfl rfl)),fun _=>ev_nm (by rfl) (by rfl)⟩
  · have e:(newB x p).c = p.2:=if_pos q
    rw [e];exact ev_nm (by rfl) (by rfl)
  · have e:(newB x p).c = 0:=if_neg (by rw [show inB p.1 x = false from q];decide)
    rw [e];exact ev_int
  · have:=c_lenL (c:=c) (n:=n + 2) (ds:=(oth p.1 x).map fun m=>.str (nm m)) (by rw [List.length_map];lia)
    rw [List.length_map] at this;exact this
  · have:=c_lenL (c:=c) (n:=n + 2) (ds:=(oth p.1 x).map fun m=>.str (nm m)) (by rw [List.length_map];lia)
    rw [List.length_map] at this;exact this
  · refine (?_:RunsT _ ((oth p.1 x).map fun m=>D.str (nm m)) (.dict []) (.dict (intE ((oth p.1 x).map fun y=>(nm y,p.2)))))
    have e:intE ((oth p.1 x).map fun y=>(nm y,p.2)) = dcM ((oth p.1 x).filter fun _=>true) fun _=>.int p.2:=by delta intE dcM;rw [List.map_map,all_true];rfl
    rw [e]
    exact runs_dm _ _ (ls_nd.sublist List.filter_sublist) (big (by lia)) fun y _=>⟨_,asg_nm (by rfl) ⟨_,_,rfl,by decide⟩,Lss.set (by rfl),ifs_nil,fun _=>⟨ev_nm (by rfl) (by rfl),ev_nm (by rfl) (by rfl)⟩⟩
  · have e:stepB x b p = addB b (newB x p):=if_pos q
    rw [e]
    exact ev_call_nm B (by rfl) hf.glob hf.callee (evs_cons (ev_nm (by rfl) (by rfl)) (evs_cons (ev_nm (by rfl) (by rfl)) evs_nil)) (s_add_func_stats (n:=n) B hgI hgT hf hc b (newB x p) (by lia))
  · have e:stepB x b p = addB (newB x p) b:=if_neg (by rw [show inB ace x = false from q];decide)
    rw [e]
    exact ev_call_nm B (by rfl) hf.glob hf.callee (evs_cons (ev_nm (by rfl) (by rfl)) (evs_cons (ev_nm (by rfl) (by rfl)) evs_nil)) (s_add_func_stats (n:=n) B hgI hgT hf hc (newB x p) b (by lia))
  · exact .cons (.inr rfl) (.cons (.inr rfl) (.cons (.inr rfl) (.cons (.inr rfl) (.cons (.inr rfl) (.cons (.inl rfl) (.cons (.inl rfl) (.cons (.inl rfl) (.cons (.inl rfl) (.cons (.inl rfl) Lss.refl)))))))))
end
end Mine
end
section
open PySem PySem.W PyProof.Rows
namespace Mine
theorem stepB_len (x:Ms) (b:Bk) (p:Str × Int):(stepB x b p).t.length≤b.t.length + 5:=by
  have hol:(oth p.1 x).length≤5:=List.length_filter_le ..
  have hnl:(newB x p).t.length≤5:=by delta newB;rw [List.length_map];exact hol
  delta stepB
  split
  · exact Nat.le_trans (addC_len b.t (newB x p).t) (Nat.add_le_add_left hnl _)
  · exact Nat.le_trans (addC_len (newB x p).t b.t) (by lia)
theorem cut1 {α:Type} (a:α) (l:List α):cutL (a :: l) (some 1) none = l:=by
  rw [(cutL_drop (a :: l) 1 (by decide):cutL (a :: l) (some 1) none = (a :: l).drop 1)];rfl
section
variable {c:Cx}
set_option maxRecDepth 100000 in
theorem s_books (B:Base c) (hgZ:Glob c (Str.ofString "zip") (.type "zip")) (hgI:Glob c (Str.ofString "isinstance") (.builtin "isinstance")) (hgT:Glob c (Str.ofString "tuple") (.type "tuple")) (hgN:Glob c (Str.ofString "int") (.type "int")) (hgL:Glob c (Str.ofString "len") (.builtin "len")) {n:Nat} {a af ac:Addr} (h:FunAt c (P1 20) a) (hf:FunAt c (P1 3) af) (hc:FunAt c (P1 4) ac)
    (b0:Str) (bl:List Str) (sp:List Int) (hb:bl.length≤10) (hs:sp.length≤10) (hv:∀ s ∈ sp,s.natAbs≤1000) :
    CallV c (n + 3) (.ref a) [strsD (b0 :: bl),intsD sp] (.dict (dcM ls fun x=>bkD (bookF (bl.zip sp) x))):=by
  have big:∀ {k:Nat},k≤10000→k≤sizeLine:=fun h=>Nat.le_trans h (Nat.le_of_ble_eq_true rfl)
  have hzl:(bl.zip sp).length≤10:=by rw [List.length_zip];lia
  let st:Option Sl→Option Sl→List Ms→List (Option Sl):=fun x bk E=>boR ((b0 :: bl).map .str) (sp.map .int) E (bl.zip sp) x bk none none none none none
  refine call_funE B (h.ok2 (.nm (by rfl) (.inl rfl) (by rfl) (.nm (by rfl) (.inl rfl) (by rfl) .nil))) ⟨boR ((b0 :: bl).map .str) (sp.map .int) ls (bl.zip sp) none none none none none none none |>.set 2 (some (.val (.dict (dcM ls fun x=>bkD (bookF (bl.zip sp) x))))),?_⟩
  refine exs_cons (ex_assignO 2 rfl (evo_dict0 B)) (exs_cons (ex_for (evi_val ev_str iter_str) (o:=.next) (ρ':=st none none ls) ?_) (exs_freeze 2 rfl (by rfl) (exs_stop (ex_return (ev_nm (by rfl) (by rfl))) (by simp))))
  rw [ls_abc]
  refine loop_grow (emb:=fun m=>D.str (nm m)) (st none none) (l:=ls) (done:=[]) rfl ls_nd (fun E x hx _ _ hE=>?_) (by decide)
  refine ⟨_,_,asgS_nm (by rfl),exs_cons (ex_assign (d:=bkD ⟨0,0,0,0,[]⟩) (ev_tuple (evs_cons ev_int (evs_cons ev_int (evs_cons ev_int (evs_cons ev_int (evs_cons (EvO.ev (evo_dict0 B)) evs_nil)))))) (asgS_nm (by rfl)))
    (exs_cons (ex_for (o:=.next) (ρ':=st (some (.val (.str (nm x)))) (some (.val (bkD (bookF (bl.zip sp) x)))) E) (evi_zip_nm B (by rfl) hgZ (evs_cons (ev_slice (ev_nm (by rfl) (by rfl)) (evP_some ev_int) evP_none (slice_list (big (by rw [List.length_map,List.length_cons];lia)))) (evs_cons (ev_nm (by rfl) (by rfl)) evs_nil)) src_list src_list) ?_)
    (exs_cons (ex_assign (ev_nm (by rfl) (by rfl)) (asg_subD 2 rfl (by rfl) (ev_nm (by rfl) (by rfl)) (big (by delta dcM;rw [List.length_map];lia)))) exs_nil)),?_⟩
  · rw [cutL_map,cut1,zipD_map]
    exact (loop_foldP (emb:=zpD) (stepB x) (fun b=>st (some (.val (.str (nm x)))) (some (.val (bkD b))) E) (fun j b=>b.t.length≤5 * j) (l:=bl.zip sp) 0 (b₀:=⟨0,0,0,0,[]⟩) (by rfl) (Nat.le_refl _) fun j b p hp hj hlt=>⟨by have:=stepB_len x b p;lia,bo_turn B hgI hgT hgN hgL hf hc _ _ E _ x b p (by lia) (hv _ (List.of_mem_zip hp).2) _ _ _ _ _⟩).2
  · rw [dm_new hx]
    exact .cons (.inr rfl) (.cons (.inr rfl) (.cons (.inr rfl) (.cons (.inl rfl) (.cons (.inl rfl) Lss.refl))))
end
end Mine
end
section
open PySem PySem.W PyProof.Rows
namespace Mine
theorem nm_beq (x y:Ms):(nm x == nm y) = (x == y):=by
  rw [Bool.eq_iff_iff,beq_iff_eq,beq_iff_eq]
  exact ⟨nm_inj x y,congrArg nm⟩
theorem sum_bd {k:Int} {l:List Int} (h:∀ x ∈ l,0≤x∧x≤k):0≤l.sum∧l.sum≤l.length * k:=by
  induction l with
  | nil=>exact ⟨Int.le_refl _,by rw [List.length_nil];simp⟩
  | cons x l ih=>
    have h1:=h x List.mem_cons_self
    have h2:=ih fun y hy=>h y (List.mem_cons_of_mem _ hy)
    rw [List.sum_cons,List.length_cons,Int.natCast_succ,Int.add_mul]
    exact ⟨Int.add_nonneg h1.1 h2.1,by lia⟩
noncomputable abbrev PZ:=List (Str × Int)
noncomputable def heldF (pz:PZ) (x:Ms):List Int:=(pz.filter fun p=>inB p.1 x).map (·.2)
noncomputable def apF (pz:PZ) (x y:Ms):List Int:=(pz.filter fun p=>inB p.1 y != inB p.1 x).map (·.2)
noncomputable def farL (x:Ms):List Ms:=ls.filter fun y=>!(y == x)
noncomputable def farF (pz:PZ) (x:Ms):D:=.dict (dcM (farL x) fun y=>.int (apF pz x y).sum)
noncomputable def dueB (pz:PZ) (x:Ms):D:=.tuple [.int (heldF pz x).length,.int (ls.map fun y=>((apF pz x y).length:Int)).sum,.int (heldF pz x).sum,.int ((farL x).map fun y=>(apF pz x y).sum).sum,farF pz x]
structure PzOk (pz:PZ):Prop where
  l:pz.length≤10
  v:∀ p ∈ pz,0≤p.2∧p.2≤1000
theorem PzOk.f {pz:PZ} (h:PzOk pz) (q:Str × Int→Bool):((pz.filter q).map (·.2)).length≤10∧∀ x ∈ (pz.filter q).map (·.2),0≤x∧x≤1000:=
  ⟨by rw [List.length_map];exact Nat.le_trans (List.length_filter_le ..) h.l,fun x hx=>by obtain ⟨p,hp,rfl⟩:=List.mem_map.mp hx;exact h.v p (List.mem_filter.mp hp).1⟩
theorem PzOk.s {pz:PZ} (h:PzOk pz) (q:Str × Int→Bool):0≤((pz.filter q).map (·.2)).sum∧((pz.filter q).map (·.2)).sum≤10000:=by
  obtain ⟨h1,h2⟩:=h.f q
  obtain ⟨h3,h4⟩:=sum_bd h2
  exact ⟨h3,by lia⟩
theorem sumOk1 {l:List Int} {k:Int} (h:∀ x ∈ l,0≤x∧x≤k) (hk:k < 1000000) (hl:l.length≤1000):SumOk l:=sumOk_of (fun x hx=>⟨(h x hx).1,Int.lt_of_le_of_lt (h x hx).2 hk⟩) hl
noncomputable def duR (bl sp:List D) (E:List Ms) (pz:PZ) (x held ap far:Option Sl):List (Option Sl):=
  [some (.val (.list bl)),some (.val (.list sp)),some (.own (.dict (dcM E (dueB pz)))),x,held,ap,far,none,none,none]
section
variable {c:Cx}
set_option maxRecDepth 100000 in
theorem s_duel (B:Base c) (hgZ:Glob c (Str.ofString "zip") (.type "zip")) (hgS:Glob c (Str.ofString "sum") (.builtin "sum")) (hgL:Glob c (Str.ofString "len") (.builtin "len")) {n:Nat} {a:Addr} (h:FunAt c (P1 21) a)
    (b0:Str) (bl:List Str) (sp:List Int) (hb:bl.length≤10) (hs:sp.length≤10) (hp:PzOk (bl.zip sp)) :
    CallV c (n + 1) (.ref a) [strsD (b0 :: bl),intsD sp] (.dict (dcM ls (dueB (bl.zip sp)))):=by
  have big:∀ {k:Nat},k≤10000→k≤sizeLine:=fun h=>Nat.le_trans h (Nat.le_of_ble_eq_true rfl)
  have hzl:=hp.l
  generalize hz:bl.zip sp = pz at hp hzl ⊢
  let st:List Ms→List (Option Sl):=fun E=>duR ((b0 :: bl).map .str) (sp.map .int) E pz none none none none
  refine call_funE B (h.ok2 (.nm (by rfl) (.inr rfl) (by rfl) (.nm (by rfl) (.inr rfl) (by rfl) .nil))) ⟨(st ls).set 2 (some (.val (.dict (dcM ls (dueB pz))))),?_⟩
  refine exs_cons (ex_assignO 2 rfl (evo_dict0 B)) (exs_cons (ex_for (evi_val ev_str iter_str) (o:=.next) (ρ':=st ls) ?_) (exs_freeze 2 rfl (by rfl) (exs_stop (ex_return (ev_nm (by rfl) (by rfl))) (by simp))))
  rw [ls_abc]
  have src:∀ {xs:List D},xs = zipD (cutL ((b0 :: bl).map .str) (some 1) none) (sp.map .int)→xs = pz.map zpD:=fun h=>by rw [h,cutL_map,cut1,zipD_map,hz];rfl
  refine loop_grow (emb:=fun m=>D.str (nm m)) st (l:=ls) (done:=[]) rfl ls_nd (fun E x hx _ _ hE=>?_) (by decide)
  refine ⟨_,_,asgS_nm (by rfl),exs_cons (ex_assignC 4 (by rfl) (evc_list1 (d:=.list ((heldF pz x).map .int)) [none,none,none,some 3] [.local,.local,.local,.cell] (by decide +kernel) (evi_zip_nm B (by rfl) hgZ (evs_cons (ev_slice (ev_nm (by rfl) (by rfl)) (evP_some ev_int) evP_none (slice_list (big (by rw [List.length_map,List.length_cons];lia)))) (evs_cons (ev_nm (by rfl) (by rfl)) evs_nil)) src_list src_list) ?_)) (exs_freeze 4 (by rfl) (by rfl)
    (exs_cons (ex_assign (EvO.ev (evo_dict1 B (d:=.dict (dcM (ls.filter fun _=>true) fun y=>intsD (apF pz x y))) [none,none,none,some 0,some 1,some 3] [.local,.cell,.globalImplicit,.cell,.cell,.cell] (by decide +kernel) (evi_val ev_str iter_str) ?_)) (asgS_nm (by rfl)) (swaps_eq (by decide +kernel)))
    (exs_cons (ex_assign (EvO.ev (evo_dict1 B (d:=farF pz x) [none,none,none,some 5,some 3] [.local,.local,.globalImplicit,.cell,.cell] (by decide +kernel) (evi_val ev_str iter_str) ?_)) (asgS_nm (by rfl)) (swaps_eq (by decide +kernel)))
    (exs_cons (ex_assign (d:=dueB pz x) (ev_tuple (evs_cons (ev_call_nm B (by rfl) hgL callee_builtin (evs_cons (ev_nm (by rfl) (by rfl)) evs_nil) ?_)
      (evs_cons (ev_call_nm B (by rfl) hgS callee_builtin (evs_cons (EvO.ev (evo_list1 (d:=.list ((ls.map fun y=>((apF pz x y).length:Int)).map .int)) [none,none,none,some 5] [.local,.local,.globalImplicit,.cell] (by decide +kernel) (evi_val (ev_nm (by rfl) (by rfl)) iter_dict) ?_)) evs_nil) (c_sum ?_))
      (evs_cons (ev_call_nm B (by rfl) hgS callee_builtin (evs_cons (ev_nm (by rfl) (by rfl)) evs_nil) (c_sum ?_))
      (evs_cons (ev_call_nm B (by rfl) hgS callee_builtin (evs_cons (EvO.ev (evo_list1 (d:=.list (((farL x).map fun y=>(apF pz x y).sum).map .int)) [none,none,some 6] [.local,.local,.cell] (by decide +kernel) (evi_val (ev_nm (by rfl) (by rfl)) iter_dict) ?_)) evs_nil) (c_sum ?_))
      (evs_cons (ev_nm (by rfl) (by rfl)) evs_nil)))))) (asg_subD 2 rfl (by rfl) (ev_nm (by rfl) (by rfl)) (big (by delta dcM;rw [List.length_map];lia)))) exs_nil)))),?_⟩
  · rw [src rfl]
    delta heldF
    rw [List.map_map]
    exact runs_filter (emb:=zpD) (fun p=>inB p.1 x) _ (big (by lia)) fun p _=>⟨_,asg_tuple (asgs_cons (asg_nm (by rfl) ⟨_,_,rfl,by decide⟩) (asgs_cons (asg_nm (by rfl) ⟨_,_,rfl,by decide⟩) asgs_nil)),(Lss.set (by rfl)).trans (Lss.set (by rfl)),ifs_one (evT_cmp (ev_nm (by rfl) (by rfl)) (ev_nm (by rfl) (by rfl)) cm_inS),fun _=>ev_nm (by rfl) (by rfl)⟩
  · rw [ls_abc]
    refine runs_dm (fun _=>true) _ ls_nd (Nat.le_of_ble_eq_true rfl) fun y _=>⟨_,asg_nm (by rfl) ⟨_,_,rfl,by decide⟩,Lss.set (by rfl),ifs_nil,fun _=>⟨ev_nm (by rfl) (by rfl),?_⟩⟩
    refine EvO.ev (evo_list1 (d:=.list ((apF pz x y).map .int)) [none,none,none,some 5,some 1] [.local,.local,.local,.cell,.cell] (by decide +kernel) (evi_zip_nm B (by rfl) hgZ (evs_cons (ev_slice (ev_nm (by rfl) (by rfl)) (evP_some ev_int) evP_none (slice_list (big (by rw [List.length_map,List.length_cons];lia)))) (evs_cons (ev_nm (by rfl) (by rfl)) evs_nil)) src_list src_list) ?_)
    rw [src rfl]
    delta apF
    rw [List.map_map]
    exact runs_filter (emb:=zpD) (fun p=>inB p.1 y != inB p.1 x) _ (big (by lia)) fun p _=>⟨_,asg_tuple (asgs_cons (asg_nm (by rfl) ⟨_,_,rfl,by decide⟩) (asgs_cons (asg_nm (by rfl) ⟨_,_,rfl,by decide⟩) asgs_nil)),(Lss.set (by rfl)).trans (Lss.set (by rfl)),ifs_one (evT_cmp (ev_cmp (ev_nm (by rfl) (by rfl)) (ev_nm (by rfl) (by rfl)) cm_inS) (ev_cmp (ev_nm (by rfl) (by rfl)) (ev_nm (by rfl) (by rfl)) cm_inS) (cm_neB 1 rfl rfl)),fun _=>ev_nm (by rfl) (by rfl)⟩
  · rw [ls_abc]
    refine runs_dm (fun y=>!(y == x)) _ ls_nd (Nat.le_of_ble_eq_true rfl) fun y hy=>⟨_,asg_nm (by rfl) ⟨_,_,rfl,by decide⟩,Lss.set (by rfl),ifs_oneB (evT_cmp (ev_nm (by rfl) (by rfl)) (ev_nm (by rfl) (by rfl)) (cm_neB 1 (b:=nm y == nm x) rfl rfl)) (by rw [nm_beq]),fun _=>⟨ev_nm (by rfl) (by rfl),?_⟩⟩
    obtain ⟨h1,h2⟩:=hp.f fun p=>inB p.1 y != inB p.1 x
    exact ev_call_nm B (by rfl) hgS callee_builtin (evs_cons (ev_sub (ev_nm (by rfl) (by rfl)) (ev_nm (by rfl) (by rfl)) (sub_dict (dm_find (ls_nd.sublist List.filter_sublist) (by rw [all_true];exact hy)))) evs_nil) (c_sum (sumOk1 h2 (by decide) (by lia)))
  · have:=c_lenL (c:=c) (n:=n) (ds:=(heldF pz x).map .int) (by rw [List.length_map];have:=(hp.f fun p=>inB p.1 x).1;delta heldF;lia)
    rw [List.length_map] at this;exact this
  · rw [dm_keys,all_true,List.map_map]
    refine runs_map (emb:=fun m=>D.str (nm m)) _ (Nat.le_of_ble_eq_true rfl) fun y hy=>⟨_,asg_nm (by rfl) ⟨_,_,rfl,by decide⟩,Lss.set (by rfl),?_⟩
    have:=c_lenL (c:=c) (n:=n) (ds:=(apF pz x y).map .int) (by rw [List.length_map];have:=(hp.f fun p=>inB p.1 y != inB p.1 x).1;delta apF;lia)
    rw [List.length_map] at this
    exact ev_call_nm B (by rfl) hgL callee_builtin (evs_cons (ev_sub (ev_nm (by rfl) (by rfl)) (ev_nm (by rfl) (by rfl)) (sub_dict (dm_find ls_nd hy))) evs_nil) this
  · refine sumOk1 (k:=10) (fun z hz=>?_) (by decide) (Nat.le_of_ble_eq_true rfl)
    obtain ⟨y,_,rfl⟩:=List.mem_map.mp hz
    have:=(hp.f fun p=>inB p.1 y != inB p.1 x).1
    delta apF
    exact ⟨Int.natCast_nonneg _,Int.ofNat_le.mpr this⟩
  · exact sumOk1 (hp.f fun p=>inB p.1 x).2 (by decide) (Nat.le_trans (hp.f fun p=>inB p.1 x).1 (by decide))
  · delta farF
    rw [dm_keys,List.map_map]
    refine runs_map (emb:=fun m=>D.str (nm m)) _ (big (Nat.le_trans (List.length_filter_le ..) (by decide))) fun y hy=>⟨_,asg_nm (by rfl) ⟨_,_,rfl,by decide⟩,Lss.set (by rfl),?_⟩
    exact ev_sub (ev_nm (by rfl) (by rfl)) (ev_nm (by rfl) (by rfl)) (sub_dict (dm_find (ls_nd.sublist List.filter_sublist) hy))
  · refine sumOk1 (k:=10000) (fun z hz=>?_) (by decide) (by rw [List.length_map];exact Nat.le_trans (List.length_filter_le ..) (by decide))
    obtain ⟨y,_,rfl⟩:=List.mem_map.mp hz
    exact hp.s fun p=>inB p.1 y != inB p.1 x
  · rw [dm_new hx]
    exact .cons (.inr rfl) (.cons (.inr rfl) (.cons (.inr rfl) (.cons (.inl rfl) (.cons (.inl rfl) (.cons (.inl rfl) (.cons (.inl rfl) Lss.refl))))))
end
end Mine
end
section
open PySem PySem.W PyProof.Rows
namespace Mine
theorem ltP_iff (x y:Int × Int):ltP x y = true ↔ x.1 < y.1∨x.1 = y.1∧x.2 < y.2:=by
  delta ltP
  by_cases h:x.1 = y.1
  · rw [if_pos (beq_iff_eq.mpr h)]
    by_cases h2:x.2 = y.2
    · rw [if_pos (beq_iff_eq.mpr h2)];exact ⟨fun h=>(nomatch h),fun q=>by lia⟩
    · rw [if_neg (fun q=>h2 (beq_iff_eq.mp q)),decide_eq_true_iff];exact ⟨fun q=>.inr ⟨h,q⟩,fun q=>by lia⟩
  · rw [if_neg (fun q=>h (beq_iff_eq.mp q)),decide_eq_true_iff];exact ⟨.inl,fun q=>by lia⟩
noncomputable def leP (x y:Int × Int):Prop:=x.1 < y.1∨x.1 = y.1∧x.2≤y.2
theorem leP_of {x y:Int × Int} (h:¬ ltP y x = true):leP x y:=by rw [ltP_iff] at h;delta leP;lia
theorem leP_trans {x y z:Int × Int} (h:leP x y) (k:leP y z):leP x z:=by delta leP at *;lia
theorem leP_anti {x y:Int × Int} (h:leP x y) (k:leP y x):x = y:=by delta leP at *;exact Prod.ext (by lia) (by lia)
theorem leP_self (x:Int × Int):leP x x:=.inr ⟨rfl,Int.le_refl _⟩
theorem leP_lt {x y:Int × Int} (h:ltP x y = true):leP x y:=by rw [ltP_iff] at h;delta leP;lia
theorem least_go {α:Type} (key:α→Int × Int):∀ (l:List α) (b:α),let r:=l.foldl (fun b x=>if ltP (key x) (key b) then x else b) b
    (r = b∨r ∈ l)∧leP (key r) (key b)∧∀ x ∈ l,leP (key r) (key x):=by
  intro l
  induction l with
  | nil=>intro b;exact ⟨.inl rfl,leP_self _,fun x h=>nomatch h⟩
  | cons y l ih=>
    intro b
    rw [List.foldl_cons]
    obtain ⟨h1,h2,h3⟩:=ih (if ltP (key y) (key b) then y else b)
    by_cases q:ltP (key y) (key b) = true
    · rw [if_pos q] at h1 h2 h3 ⊢
      refine ⟨.inr (h1.elim (fun e=>by rw [e];exact List.mem_cons_self) fun e=>List.mem_cons_of_mem _ e),leP_trans h2 (leP_lt q),fun x hx=>?_⟩
      rcases List.mem_cons.mp hx with rfl | hx
      · exact h2
      · exact h3 x hx
    · rw [if_neg q] at h1 h2 h3 ⊢
      refine ⟨h1.elim .inl fun e=>.inr (List.mem_cons_of_mem _ e),h2,fun x hx=>?_⟩
      rcases List.mem_cons.mp hx with rfl | hx
      · exact leP_trans h2 (leP_of q)
      · exact h3 x hx
theorem argBest_min (ns:List (Int × Int)):∀ k j,j≤k→leP (ns.getD (argBest (ltA ns) k) (0,0)) (ns.getD j (0,0)):=by
  intro k
  induction k with
  | zero=>intro j h;rw [Nat.le_zero.mp h];exact leP_self _
  | succ k ih=>
    intro j h
    have e:argBest (ltA ns) (k + 1) = if ltA ns (k + 1) (argBest (ltA ns) k) = true then k + 1 else argBest (ltA ns) k:=rfl
    rw [e]
    by_cases q:ltA ns (k + 1) (argBest (ltA ns) k) = true
    · rw [if_pos q]
      rcases Nat.lt_or_ge k j with h1 | h1
      · rw [Nat.le_antisymm h h1];exact leP_self _
      · exact leP_trans (leP_lt q) (ih j h1)
    · rw [if_neg q]
      rcases Nat.lt_or_ge k j with h1 | h1
      · rw [Nat.le_antisymm h h1];exact leP_of q
      · exact ih j h1
theorem argBest_eq {ns:List (Int × Int)} {b:Int × Int} (hb:b ∈ ns) (hm:∀ x ∈ ns,leP b x):ns.getD (argBest (ltA ns) (ns.length - 1)) (0,0) = b:=by
  obtain ⟨j,hj,e⟩:=List.getElem_of_mem hb
  have h0:argBest (ltA ns) (ns.length - 1) < ns.length:=Nat.lt_of_le_of_lt (argBest_le _ _) (by lia)
  have h1:=argBest_min ns (ns.length - 1) j (by lia)
  have g:∀ {i:Nat} (h:i < ns.length),ns.getD i (0,0) = ns[i]:=fun h=>by rw [List.getD_eq_getElem?_getD,List.getElem?_eq_getElem h];rfl
  rw [g hj,e] at h1
  refine leP_anti h1 ?_
  rw [g h0]
  exact hm _ (List.getElem_mem h0)
noncomputable def keyW (way:Int) (r:Int × Int):Int × Int:=(r.1,way * r.2)
theorem cmp2_key {way:Int} (hw:way = 1∨way = -1) (r b:Int × Int):cmp2 way r.1 r.2 b.1 b.2 = if ltP (keyW way r) (keyW way b) then -1 else if ltP (keyW way b) (keyW way r) then 1 else 0:=by
  have f:∀ {x y:Int × Int},¬ ltP x y = true→ltP x y = false:=fun h=>Bool.eq_false_iff.mpr h
  delta cmp2
  rcases hw with rfl | rfl
  · by_cases q1:ltP (keyW 1 r) (keyW 1 b) = true
    · rw [if_pos q1];rw [ltP_iff] at q1;delta keyW at q1;simp only at q1;split;rfl;split;lia;split;rfl;lia
    · rw [if_neg q1];rw [ltP_iff] at q1;delta keyW at q1
      by_cases q2:ltP (keyW 1 b) (keyW 1 r) = true
      · rw [if_pos q2];rw [ltP_iff] at q2;delta keyW at q2;simp only at q1 q2;split;lia;split;rfl;split;lia;split;rfl;lia
      · rw [if_neg q2];rw [ltP_iff] at q2;delta keyW at q2;simp only at q1 q2;split;lia;split;lia;split;lia;split;lia;rfl
  · by_cases q1:ltP (keyW (-1) r) (keyW (-1) b) = true
    · rw [if_pos q1];rw [ltP_iff] at q1;delta keyW at q1;simp only at q1;split;rfl;split;lia;split;lia;split;rfl;lia
    · rw [if_neg q1];rw [ltP_iff] at q1;delta keyW at q1
      by_cases q2:ltP (keyW (-1) b) (keyW (-1) r) = true
      · rw [if_pos q2];rw [ltP_iff] at q2;delta keyW at q2;simp only at q1 q2;split;lia;split;rfl;split;rfl;split;lia;lia
      · rw [if_neg q2];rw [ltP_iff] at q2;delta keyW at q2;simp only at q1 q2;split;lia;split;lia;split;lia;split;lia;rfl
theorem keyW_inj {way:Int} (hw:way = 1∨way = -1) {r b:Int × Int} (h:keyW way r = keyW way b):r = b:=by
  have h1:r.1 = b.1:=(congrArg Prod.fst h:(keyW way r).1 = (keyW way b).1)
  have h2:way * r.2 = way * b.2:=(congrArg Prod.snd h:(keyW way r).2 = (keyW way b).2)
  rcases hw with rfl | rfl<;>exact Prod.ext h1 (by lia)
noncomputable def bestF (way:Int):List (Int × Int)→Int × Int
  | []=>(0,0)
  | r :: rs=>rs.foldl (fun b x=>if cmp2 way x.1 x.2 b.1 b.2 < 0 then x else b) r
theorem cmp2_neg {way:Int} (hw:way = 1∨way = -1) (r b:Int × Int):(cmp2 way r.1 r.2 b.1 b.2 < 0) ↔ ltP (keyW way r) (keyW way b) = true:=by
  rw [cmp2_key hw]
  split
  · exact ⟨fun _=>‹_›,fun _=>by decide⟩
  · split
    · exact ⟨fun h=>absurd h (by decide),fun h=>absurd h ‹_›⟩
    · exact ⟨fun h=>absurd h (by decide),fun h=>absurd h ‹_›⟩
theorem bestF_ok {way:Int} (hw:way = 1∨way = -1) {rows:List (Int × Int)} (h0:rows ≠ []):bestF way rows ∈ rows∧∀ x ∈ rows,leP (keyW way (bestF way rows)) (keyW way x):=by
  induction rows with
  | nil=>exact absurd rfl h0
  | cons r rs=>
    have e:bestF way (r :: rs) = rs.foldl (fun b x=>if ltP (keyW way x) (keyW way b) then x else b) r:=by
      refine (?_:rs.foldl (fun b x=>if cmp2 way x.1 x.2 b.1 b.2 < 0 then x else b) r = _)
      congr 1
      funext b x
      by_cases q:ltP (keyW way x) (keyW way b) = true
      · rw [if_pos q,if_pos ((cmp2_neg hw x b).mpr q)]
      · rw [if_neg q,if_neg fun h=>q ((cmp2_neg hw x b).mp h)]
    rw [e]
    obtain ⟨h1,h2,h3⟩:=least_go (keyW way) rs r
    exact ⟨h1.elim (fun e=>by rw [e];exact List.mem_cons_self) fun e=>List.mem_cons_of_mem _ e,fun x hx=>(List.mem_cons.mp hx).elim (fun e=>by rw [e];exact h2) (h3 x)⟩
theorem told_ok {way:Int} (hw:way = 1∨way = -1) {r b:Int × Int} (h:leP (keyW way b) (keyW way r)):(cmp2 way r.1 r.2 b.1 b.2,cmp2 way b.1 b.2 r.1 r.2) = if r = b then (0,0) else (1,-1):=by
  rw [cmp2_key hw,cmp2_key hw]
  have n1:¬ ltP (keyW way r) (keyW way b) = true:=fun q=>by rw [ltP_iff] at q;delta leP at h;lia
  rw [if_neg n1,if_neg n1]
  by_cases e:r = b
  · subst e;rw [if_pos rfl,if_neg n1,if_neg n1]
  · have n2:ltP (keyW way b) (keyW way r) = true:=Decidable.byContradiction fun q=>e (keyW_inj hw (leP_anti (leP_of q) h))
    rw [if_neg e,if_pos n2,if_pos n2]
end Mine
end
section
open PySem PySem.W PyProof.Rows
namespace Mine
structure LvOk (live:List Ms) (ks:Ms→List Ms) (d:Ms→Ms→Int):Prop where
  nd:live.Nodup
  l2:2≤live.length
  l5:live.length≤5
  kp:∀ x ∈ live,(ks x).Perm (live.filter fun y=>!(y == x))
  bd:∀ x ∈ live,∀ y ∈ live,y ≠ x→0≤d x y∧d x y≤100000
noncomputable def tabM (l:List Ms) (f:Ms→Int):D:=.dict (dcM l fun y=>.int (f y))
noncomputable def farD (live:List Ms) (ks:Ms→List Ms) (d:Ms→Ms→Int):D:=.dict (dcM live fun x=>tabM (ks x) (d x))
noncomputable def sumF (live:List Ms) (d:Ms→Ms→Int) (x:Ms):Int:=((live.filter fun y=>!(y == x)).map (d x)).sum
noncomputable def pairsF:List Ms→List (Ms × Ms)
  | []=>[]
  | x :: l=>l.map (fun y=>(x,y)) ++ pairsF l
theorem pairs_eq:∀ (l pre:List Ms),(enumL (pre.length:Int) l).flatMap (fun p=>((pre ++ l).drop (p.1 + 1).toNat).map fun y=>(p.2,y)) = pairsF l:=by
  intro l
  induction l with
  | nil=>intro pre;rfl
  | cons x l ih=>
    intro pre
    have h:=ih (pre ++ [x])
    rw [List.length_append,List.append_assoc] at h
    refine (?_:(((pre ++ x :: l).drop ((pre.length:Int) + 1).toNat).map fun y=>(x,y)) ++ _ = _)
    rw [(by rw [show ((pre.length:Int) + 1).toNat = pre.length + 1 by lia,List.drop_append,List.drop_of_length_le (Nat.le_succ _),Nat.add_sub_cancel_left];rfl:(pre ++ x :: l).drop ((pre.length:Int) + 1).toNat = l)]
    exact congrArg _ h
noncomputable def rowF (live:List Ms) (d:Ms→Ms→Int) (p:Int × Ms × Ms):Int × Int:=((live.length - 2) * d p.2.1 p.2.2 - sumF live d p.2.1 - sumF live d p.2.2,p.1)
noncomputable def rowsF (live:List Ms) (d:Ms→Ms→Int):List (Int × Int):=(enumL 0 (pairsF live)).map (rowF live d)
noncomputable def namesD (l:List Ms):D:=.list (l.map fun m=>.str (nm m))
noncomputable def pairD (p:Ms × Ms):D:=.tuple [.str (nm p.1),.str (nm p.2)]
theorem tab_int (l:List Ms) (f:Ms→Int):tabM l f = .dict (intE (l.map fun y=>(nm y,f y))):=by delta tabM dcM intE;rw [List.map_map];rfl
theorem perm_sum {l m:List Int} (h:l.Perm m):l.sum = m.sum:=by
  induction h with
  | nil=>rfl
  | cons x _ ih=>rw [List.sum_cons,List.sum_cons,ih]
  | swap x y l=>rw [List.sum_cons,List.sum_cons,List.sum_cons,List.sum_cons];exact Int.add_left_comm ..
  | trans _ _ h1 h2=>exact h1.trans h2
theorem foldl_sum (l:List Int):∀ a:Int,l.foldl (· + ·) a = a + l.sum:=by
  induction l with
  | nil=>intro a;exact (Int.add_zero a).symm
  | cons x l ih=>intro a;rw [List.foldl_cons,ih,List.sum_cons,Int.add_assoc]
section
variable {c:Cx} {live:List Ms} {ks:Ms→List Ms} {d:Ms→Ms→Int}
theorem lv_calls (B:Base c) {n:Nat} {a:Addr} (h:FunAt c (P1 5) a) (L:LvOk live ks d) {x:Ms} (hx:x ∈ live):CallV c (n + 1) (.ref a) [tabM (ks x) (d x)] (.int (sumF live d x)):=by
  have:=s_count_calls (n:=n) B h ((ks x).map fun y=>(nm y,d x y))
  rw [← tab_int,List.map_map,foldl_sum,Int.zero_add] at this
  rwa [show sumF live d x = ((ks x).map fun y=>d x y).sum from (perm_sum ((L.kp x hx).map _)).symm]
theorem lv_nd (L:LvOk live ks d) {x:Ms} (hx:x ∈ live):(ks x).Nodup:=(L.kp x hx).nodup_iff.mpr (L.nd.sublist List.filter_sublist)
theorem lv_far (L:LvOk live ks d) {x y:Ms} (hx:x ∈ live) (hy:y ∈ live) (h:y ≠ x):((dcM (ks x) fun y=>D.int (d x y)).find? fun e=>e.1 = nm y) = some (nm y,.int (d x y)):=
  dm_find (lv_nd L hx) ((L.kp x hx).mem_iff.mpr (List.mem_filter.mpr ⟨hy,by rw [Bool.not_eq_true',beq_eq_false_iff_ne];exact h⟩))
theorem pairs_mem {p:Ms × Ms} (hn:live.Nodup) (h:p ∈ pairsF live):p.1 ∈ live∧p.2 ∈ live∧p.2 ≠ p.1:=by
  induction live with
  | nil=>exact nomatch h
  | cons x l ih=>
    rw [List.nodup_cons] at hn
    rcases List.mem_append.mp h with h | h
    · obtain ⟨y,hy,rfl⟩:=List.mem_map.mp h
      exact ⟨List.mem_cons_self,List.mem_cons_of_mem _ hy,fun e:y = x=>hn.1 (e▸hy)⟩
    · obtain ⟨h1,h2,h3⟩:=ih hn.2 h
      exact ⟨List.mem_cons_of_mem _ h1,List.mem_cons_of_mem _ h2,h3⟩
theorem pairs_len:∀ l:List Ms,l.length≤5→(pairsF l).length≤100:=by
  have h:∀ l:List Ms,(pairsF l).length≤l.length * l.length:=by
    intro l
    induction l with
    | nil=>exact Nat.le_refl _
    | cons x l ih=>
      refine (?_:(l.map (fun y=>(x,y)) ++ pairsF l).length≤(l.length + 1) * (l.length + 1))
      rw [List.length_append,List.length_map,Nat.add_mul,Nat.mul_add];lia
  exact fun l hl=>Nat.le_trans (h l) (Nat.le_trans (Nat.mul_le_mul hl hl) (by decide))
theorem runs_dm1 {n:Nat} {sc:Scope} {ρ:List (Option Sl)} {N:Nat→Prop} {tgt kx vx:Expr} (g:Ms→D) {l:List Ms} (hn:l.Nodup) (hs:l.length≤sizeLine)
    (h:∀ x ∈ l,∃ ρx,Asg c n sc N tgt (.str (nm x)) ρ ρx∧Lss ρ ρx∧EvE c n sc ρx kx (.str (nm x))∧EvE c n sc ρx vx (g x)):RunsT (TurnJ c n sc N tgt [] (emitD kx vx) ρ) (l.map fun m=>.str (nm m)) (.dict []) (.dict (dcM l g)):=
  by
    have:=runs_dm (fun _=>true) g hn hs fun x hx=>by obtain ⟨ρx,h1,h2,h3⟩:=h x hx;exact ⟨ρx,h1,h2,ifs_nil,fun _=>h3⟩
    rwa [all_true] at this
theorem runs_mapA {n:Nat} {sc:Scope} {ρ:List (Option Sl)} {N:Nat→Prop} {tgt elt:Expr} {α:Type} {emb:α→D} (f:α→D) {l:List α} {ds:List D} (hs:ds.length + l.length≤sizeLine) (h:∀ x ∈ l,∃ ρx,Asg c n sc N tgt (emb x) ρ ρx∧Lss ρ ρx∧EvE c n sc ρx elt (f x)) :
    RunsT (TurnJ c n sc N tgt [] (emitL elt) ρ) (l.map emb) (.list ds) (.list (ds ++ l.map f)):=by
  have:=runs_list (c:=c) (n:=n) (sc:=sc) (ρ:=ρ) (N:=N) (tgt:=tgt) (elt:=elt) (ifs:=[]) (emb:=emb) (fun x=>some (f x)) (l:=l) (ds:=ds) hs fun x hx=>by
    obtain ⟨ρx,h1,h2,h3⟩:=h x hx
    exact ⟨ρx,h1,h2,ifs_nil,h3⟩
  rwa [show l.filterMap (fun x=>some (f x)) = l.map f by rw [← List.filterMap_eq_map];rfl] at this
noncomputable def vsl (d:D):Option Sl:=some (.val d)
noncomputable def leR (live:List Ms) (ks:Ms→List Ms) (d:Ms→Ms→Int) (way:Int) (x sums y pairs rows order best row told good whole:Option Sl):List (Option Sl):=
  [vsl (farD live ks d),vsl (namesD live),vsl (.int way),x,sums,y,pairs,rows,order,best,row,told,good,whole,none,none,none]
noncomputable def sumsD (live:List Ms) (d:Ms→Ms→Int):D:=.dict (dcM live fun x=>.int (sumF live d x))
noncomputable def leS (k:Nat):Stmt:=(P1 22).body.getD k (.Pass default)
set_option maxRecDepth 100000 in
theorem le_1 (B:Base c) (hgE:Glob c (Str.ofString "enumerate") (.type "enumerate")) (hgL:Glob c (Str.ofString "len") (.builtin "len")) {n:Nat} {acc:Addr} (hcc:FunAt c (P1 5) acc) (L:LvOk live ks d) (way:Int) {sts:List Stmt} {o:Out} {ρ':List (Option Sl)}
    (hr:Exs c (n + 1) (P1 22).scope sts (leR live ks d way none (vsl (sumsD live d)) none (vsl (.list ((pairsF live).map pairD))) (vsl (.list ((rowsF live d).map prD))) none none none none none none) o ρ'):Exs c (n + 1) (P1 22).scope (leS 0 :: leS 1 :: leS 2 :: sts) (leR live ks d way none none none none none none none none none none none) o ρ':=by
  have big:∀ {k:Nat},k≤10000→k≤sizeLine:=fun h=>Nat.le_trans h (Nat.le_of_ble_eq_true rfl)
  have hl5:=L.l5
  refine exs_cons (ex_assign (EvO.ev (evo_dict1 B (d:=sumsD live d) [none,none,none,some 0] [.local,.local,.globalImplicit,.cell] (by decide +kernel) (evi_val (ev_nm (by rfl) (by rfl)) iter_list) ?_)) (asgS_nm (by rfl)) (swaps_eq (by decide +kernel)))
    (exs_cons (ex_assignC 6 (by rfl) (evc_list2 (d:=.list ((pairsF live).map pairD)) [none,none,none,none,some 1] [.local,.local,.local,.local,.cell] (by decide +kernel) (evi_enum_nm B (by rfl) hgE (evn_val (ev_nm (by rfl) (by rfl)) src_list)) ?_)) (exs_freeze 6 (by rfl) (by rfl)
    (exs_cons (ex_assignC 7 (by rfl) (evc_list1 (d:=.list ((rowsF live d).map prD)) [none,none,none,none,none,some 0,some 1,some 4] [.local,.local,.local,.local,.globalImplicit,.cell,.cell,.cell] (by decide +kernel) (evi_enum_nm B (by rfl) hgE (evn_val (ev_nm (by rfl) (by rfl)) src_list)) ?_)) (exs_freeze 7 (by rfl) (by rfl) (by exact hr)))))
  · refine runs_dm1 _ L.nd (big (by lia)) fun x hx=>⟨_,asg_nm (by rfl) ⟨_,_,rfl,by decide⟩,Lss.set (by rfl),ev_nm (by rfl) (by rfl),?_⟩
    exact ev_call_nm B (by rfl) hcc.glob hcc.callee (evs_cons (ev_sub (ev_nm (by rfl) (by rfl)) (ev_nm (by rfl) (by rfl)) (sub_dict (dm_find L.nd hx))) evs_nil) (lv_calls (n:=n) B hcc L hx)
  · rw [enumD_map,← pairs_eq live [],← List.nil_append (List.map _ _),List.map_flatMap]
    refine runs_flat (emb:=fun (p:Int × Ms)=>.tuple [.int p.1,.str (nm p.2)]) _ 5 (big (by rw [List.length_nil,enumL_len];lia)) (fun p _=>by rw [List.length_map,List.length_map];exact Nat.le_trans (by rw [List.length_drop];exact Nat.sub_le ..) hl5) fun p hp=>?_
    have hp0:=enumL_at hp
    refine ⟨_,asg_tuple (asgs_cons (asg_nm (by rfl) ⟨_,_,rfl,by decide⟩) (asgs_cons (asg_nm (by rfl) ⟨_,_,rfl,by decide⟩) asgs_nil)),(Lss.set (by rfl)).trans (Lss.set (by rfl)),ifs_nil,fun ds hds=>?_⟩
    refine body_inner ce_list2b (evi_val (ev_slice (ev_nm (by rfl) (by rfl)) (evP_some (ev_bin (ev_nm (by rfl) (by rfl)) ev_int op_addI)) evP_none (slice_list (big (by rw [List.length_map];lia)))) iter_list) (loop_list2b ?_)
    rw [cutL_map,cutL_drop _ _ (by lia),List.map_map]
    exact runs_mapA (emb:=fun m=>D.str (nm m)) _ (Nat.le_trans (Nat.add_le_add_left (Nat.le_trans (by rw [List.length_drop];exact Nat.sub_le ..) hl5) _) hds) fun y _=>⟨_,asg_nm (by rfl) ⟨_,_,rfl,by decide⟩,Lss.set (by rfl),ev_tuple (evs_cons (ev_nm (by rfl) (by rfl)) (evs_cons (ev_nm (by rfl) (by rfl)) evs_nil))⟩
  · delta rowsF
    rw [enumD_map,List.map_map]
    refine runs_map (emb:=fun (p:Int × Ms × Ms)=>.tuple [.int p.1,pairD p.2]) _ (big (by rw [enumL_len];exact Nat.le_trans (pairs_len live hl5) (by decide))) fun p hp=>?_
    obtain ⟨h1,h2,h3⟩:=pairs_mem L.nd (enumL_mem hp).1
    obtain ⟨b1,b2⟩:=L.bd _ h1 _ h2 h3
    refine ⟨_,asg_tuple (asgs_cons (asg_nm (by rfl) ⟨_,_,rfl,by decide⟩) (asgs_cons (asg_tuple (asgs_cons (asg_nm (by rfl) ⟨_,_,rfl,by decide⟩) (asgs_cons (asg_nm (by rfl) ⟨_,_,rfl,by decide⟩) asgs_nil))) asgs_nil)),((Lss.set (by rfl)).trans (Lss.set (by rfl))).trans (Lss.set (by rfl)),?_⟩
    have hll:(live.map fun m=>D.str (nm m)).length = live.length:=List.length_map _
    refine ev_tuple (evs_cons (ev_bin (ev_bin (ev_bin (ev_bin (ev_call_nm B (by rfl) hgL callee_builtin (evs_cons (ev_nm (by rfl) (by rfl)) evs_nil) (hll▸c_lenL (by rw [hll];lia))) ev_int op_subI) (ev_sub (ev_sub (ev_nm (by rfl) (by rfl)) (ev_nm (by rfl) (by rfl)) (sub_dict (dm_find L.nd h1))) (ev_nm (by rfl) (by rfl)) (sub_dict (lv_far L h1 h2 h3))) (op_mulI (IntMulOk.of_left (intBits_small (by lia)))))
      (ev_sub (ev_nm (by rfl) (by rfl)) (ev_nm (by rfl) (by rfl)) (sub_dict (dm_find L.nd h1))) op_subI) (ev_sub (ev_nm (by rfl) (by rfl)) (ev_nm (by rfl) (by rfl)) (sub_dict (dm_find L.nd h2))) op_subI) (evs_cons (ev_nm (by rfl) (by rfl)) evs_nil))
end
end Mine
end
section
open PySem PySem.W PyProof.Rows
namespace Mine
noncomputable def tD (R:List (Int × Int)) (b:Int × Int):D:=.list (R.map fun r=>prD (if r = b then (0,0) else (1,-1)))
theorem way_small {way:Int} (hw:way = 1∨way = -1):Builtin.Int.intBits way≤64:=by rcases hw with rfl | rfl<;>decide
theorem wk_ne {R:List (Int × Int)} (h:R ≠ []):∃ r rs,R = r :: rs:=by
  induction R with
  | nil=>exact absurd rfl h
  | cons r rs=>exact ⟨r,rs,rfl⟩
section
variable {c:Cx} {live:List Ms} {ks:Ms→List Ms} {d:Ms→Ms→Int} {C Na:Addr} {mN:Str→Option Value} {ai ac:Addr}
set_option maxRecDepth 100000 in
theorem le_2 (B:Base c) (T:TCls c C Na mN ai ac) {n:Nat} {way:Int} (hw:way = 1∨way = -1) (a4 a6:Option Sl) {R:List (Int × Int)} (h0:R ≠ []) (hl:R.length≤100) {sts:List Stmt} {o:Out} {ρ':List (Option Sl)}
    (hr:Exs c (n + 2) (P1 22).scope sts (leR live ks d way none a4 none a6 (vsl (.list (R.map prD))) (vsl (tcObj (selD way))) (vsl (prD (bestF way R))) none (vsl (tD R (bestF way R))) none none) o ρ'):Exs c (n + 2) (P1 22).scope (leS 3 :: leS 4 :: leS 5 :: sts) (leR live ks d way none a4 none a6 (vsl (.list (R.map prD))) none none none none none none) o ρ':=by
  have big:∀ {k:Nat},k≤10000→k≤sizeLine:=fun h=>Nat.le_trans h (Nat.le_of_ble_eq_true rfl)
  obtain ⟨hbm,hbl⟩:=bestF_ok hw h0
  obtain ⟨r,rs,rfl⟩:=wk_ne h0
  have hrl:((r :: rs).map prD).length≤100:=by rw [List.length_map];exact hl
  refine exs_cons (ex_mix (xs:=[Str.ofString "order",Str.ofString "best"]) (ps:=[_,_]) (sls:=[.val (tcObj (selD way)),.val (prD r)]) (by rfl) (by rfl) (by rfl) (evms_val (ev_call_nm B (by rfl) (.inl T.k.g) T.k.keep (evs_cons (ev_list (evs_cons (ev_tuple (evs_cons ev_int (evs_cons ev_int evs_nil))) (evs_cons (ev_tuple (evs_cons ev_int (evs_cons (ev_nm (by rfl) (by rfl)) evs_nil))) evs_nil))) evs_nil) (s_tcNew B T (selD way) rfl)) (evms_val (ev_sub (ev_nm (by rfl) (by rfl)) ev_int (sub_list 0 (seqIx (by decide) (by rw [List.length_map,List.length_cons];lia)) (by rfl) (by lia))) evms_nil)) (.nm (by rfl) (.inr rfl) (by rfl) (.nm (by rfl) (.inr rfl) (by rfl) .nil)) (by decide +kernel)) ?_
  have hc:cutL ((r :: rs).map prD) (some 1) none = rs.map prD:=by rw [cutL_map,cut1]
  refine exs_cons (ex_for (o:=.next) (ρ':=leR live ks d way none a4 none a6 (vsl (.list ((r :: rs).map prD))) (vsl (tcObj (selD way))) (vsl (prD (bestF way (r :: rs)))) none none none none) (evi_val (ev_slice (ev_nm (by rfl) (by rfl)) (evP_some ev_int) evP_none (slice_list (big (by lia)))) iter_list) ?_) (exs_cons (ex_assignC 11 (by rfl) (evc_list1 (d:=tD (r :: rs) (bestF way (r :: rs))) [none,none,some 9,some 8] [.local,.local,.cell,.cell] (by decide +kernel) (evi_val (ev_nm (by rfl) (by rfl)) iter_list) ?_)) (exs_freeze 11 (by rfl) (by rfl) (by exact hr)))
  · rw [hc]
    let st:Int × Int→List (Option Sl):=fun b=>leR live ks d way none a4 none a6 (vsl (.list ((r :: rs).map prD))) (vsl (tcObj (selD way))) (vsl (prD b)) none none none none
    let f:Int × Int→Int × Int→Int × Int:=fun b x=>if cmp2 way x.1 x.2 b.1 b.2 < 0 then x else b
    refine (?_:LoopF _ _ _ _ _ (rs.map prD) (st r) .next (st (rs.foldl f r)))
    refine loop_fold (emb:=prD) f st rfl fun b x _=>?_
    refine (?_:∃ ρ₁ ρ₂,_∧_∧Lss (st (if cmp2 way x.1 x.2 b.1 b.2 < 0 then x else b)) ρ₂)
    by_cases q:cmp2 way x.1 x.2 b.1 b.2 < 0
    · rw [if_pos q]
      exact ⟨_,_,asgS_nm (by rfl),exs_cons (ex_assign (ev_ifexp (q:=true) (evT_cmp (ev_methO (ev_nm (by rfl) (by rfl)) (mg_obj T.k T.c (by rfl) (by rfl)) T.c.callee (evs_cons (ev_nm (by rfl) (by rfl)) (evs_cons (ev_nm (by rfl) (by rfl)) evs_nil)) (s_tcCmp B T way _ _ _ _ _ _ (Nat.zero_le _) (Nat.zero_le _))) ev_int (cm_ltB (decide_eq_true q).symm)) (fun _=>ev_nm (by rfl) (by rfl)) (fun h=>nomatch h)) (asgS_nm (by rfl))) exs_nil,
        by exact .cons (.inr rfl) (.cons (.inr rfl) (.cons (.inr rfl) (.cons (.inr rfl) (.cons (.inr rfl) (.cons (.inr rfl) (.cons (.inr rfl) (.cons (.inr rfl) (.cons (.inr rfl) (.cons (.inr rfl) (.cons (.inl rfl) Lss.refl))))))))))⟩
    · rw [if_neg q]
      exact ⟨_,_,asgS_nm (by rfl),exs_cons (ex_assign (ev_ifexp (q:=false) (evT_cmp (ev_methO (ev_nm (by rfl) (by rfl)) (mg_obj T.k T.c (by rfl) (by rfl)) T.c.callee (evs_cons (ev_nm (by rfl) (by rfl)) (evs_cons (ev_nm (by rfl) (by rfl)) evs_nil)) (s_tcCmp B T way _ _ _ _ _ _ (Nat.zero_le _) (Nat.zero_le _))) ev_int (cm_ltB (decide_eq_false q).symm)) (fun h=>nomatch h) (fun _=>ev_nm (by rfl) (by rfl))) (asgS_nm (by rfl))) exs_nil,
        by exact .cons (.inr rfl) (.cons (.inr rfl) (.cons (.inr rfl) (.cons (.inr rfl) (.cons (.inr rfl) (.cons (.inr rfl) (.cons (.inr rfl) (.cons (.inr rfl) (.cons (.inr rfl) (.cons (.inr rfl) (.cons (.inl rfl) Lss.refl))))))))))⟩
  · refine runs_map (emb:=prD) _ (big (by rw [List.length_map] at hrl;lia)) fun x hx=>?_
    rw [← told_ok hw (hbl x hx)]
    exact ⟨_,asg_nm (by rfl) ⟨_,_,rfl,by decide⟩,Lss.set (by rfl),ev_tuple (evs_cons (ev_methO (ev_nm (by rfl) (by rfl)) (mg_obj T.k T.c (by rfl) (by rfl)) T.c.callee (evs_cons (ev_nm (by rfl) (by rfl)) (evs_cons (ev_nm (by rfl) (by rfl)) evs_nil)) (s_tcCmp B T way _ _ _ _ _ _ (Nat.zero_le _) (Nat.zero_le _)))
      (evs_cons (ev_methO (ev_nm (by rfl) (by rfl)) (mg_obj T.k T.c (by rfl) (by rfl)) T.c.callee (evs_cons (ev_nm (by rfl) (by rfl)) (evs_cons (ev_nm (by rfl) (by rfl)) evs_nil)) (s_tcCmp B T way _ _ _ _ _ _ (Nat.zero_le _) (Nat.zero_le _))) evs_nil))⟩
end
end Mine
end
section
open PySem PySem.W PyProof.Rows
namespace Mine
theorem pr_eq (r b:Int × Int):eqvF 2 (prD r) (prD b) = some (decide (r = b)):=by
  have:decide (r = b) = (r.1 == b.1 && (r.2 == b.2 && true)):=by
    rw [Bool.eq_iff_iff,decide_eq_true_iff,Bool.and_eq_true,Bool.and_eq_true,beq_iff_eq,beq_iff_eq]
    exact ⟨fun h=>h▸⟨rfl,rfl,rfl⟩,fun h=>Prod.ext h.1 h.2.1⟩
  rw [this];rfl
theorem pr_same (r:Int × Int):eqvF 2 (prD r) (prD r) = some true:=(pr_eq r r).trans (congrArg some (decide_eq_true rfl))
section
variable {c:Cx} {live:List Ms} {ks:Ms→List Ms} {d:Ms→Ms→Int}
theorem runs_mapI {n:Nat} {sc:Scope} {ρ:List (Option Sl)} {N:Nat→Prop} {tgt elt:Expr} {ifs:List Expr} {α:Type} {emb:α→D} (f:α→D) {l:List α} (hs:l.length≤sizeLine) (h:∀ x ∈ l,∃ ρx,Asg c n sc N tgt (emb x) ρ ρx∧Lss ρ ρx∧IfsJ c n sc ρx ifs true∧EvE c n sc ρx elt (f x)) :
    RunsT (TurnJ c n sc N tgt ifs (emitL elt) ρ) (l.map emb) (.list []) (.list (l.map f)):=by
  have:=runs_list (c:=c) (n:=n) (sc:=sc) (ρ:=ρ) (N:=N) (tgt:=tgt) (elt:=elt) (ifs:=ifs) (emb:=emb) (fun x=>some (f x)) (l:=l) (ds:=[]) (by rw [List.length_nil,Nat.zero_add];exact hs) h
  rwa [show l.filterMap (fun x=>some (f x)) = l.map f by rw [← List.filterMap_eq_map];rfl,List.nil_append] at this
set_option maxRecDepth 100000 in
theorem le_3 (B:Base c) (hgM:Glob c (Str.ofString "min") (.builtin "min")) (hgI:Glob c (Str.ofString "isinstance") (.builtin "isinstance")) (hgN:Glob c (Str.ofString "int") (.type "int")) (hgS:Glob c (Str.ofString "sum") (.builtin "sum")) {n:Nat} (L:LvOk live ks d) {way:Int} (hw:way = 1∨way = -1) (a6 a8:Option Sl) {R:List (Int × Int)} (h0:R ≠ []) (hl:R.length≤100) {sts:List Stmt} {o:Out} {ρ':List (Option Sl)}
    (hr:Exs c n (P1 22).scope sts (leR live ks d way none (vsl (sumsD live d)) none a6 (vsl (.list (R.map prD))) a8 (vsl (prD (bestF way R))) none (vsl (tD R (bestF way R))) (bS true) (bS true)) o ρ'):Exs c n (P1 22).scope (leS 6 :: leS 7 :: sts) (leR live ks d way none (vsl (sumsD live d)) none a6 (vsl (.list (R.map prD))) a8 (vsl (prD (bestF way R))) none (vsl (tD R (bestF way R))) none none) o ρ':=by
  have big:∀ {k:Nat},k≤10000→k≤sizeLine:=fun h=>Nat.le_trans h (Nat.le_of_ble_eq_true rfl)
  have hl5:=L.l5
  obtain ⟨hbm,hbl⟩:=bestF_ok hw h0
  generalize bestF way R = b at hbm hbl hr ⊢
  have hmin:prD ((R.map (keyW way)).getD (argBest (ltA (R.map (keyW way))) ((R.map (keyW way)).length - 1)) (0,0)) = prD (keyW way b):=by
    rw [argBest_eq (List.mem_map.mpr ⟨b,hbm,rfl⟩) fun x hx=>by obtain ⟨r,hr,rfl⟩:=List.mem_map.mp hx;exact hbl r hr]
  refine exs_cons (ex_assign (d:=.bool true) (ev_and2 (a:=true) (b:=true) (ev_cmp (ev_tuple (ds:=[.int b.1,.int (way * b.2)]) (evs_cons (ev_sub (ev_nm (by rfl) (by rfl)) ev_int (sub_tuple 0 (by rfl) (by rfl) (Nat.le_of_ble_eq_true rfl))) (evs_cons (ev_bin (ev_nm (by rfl) (by rfl)) (ev_sub (ev_nm (by rfl) (by rfl)) ev_int (sub_tuple 1 (by rfl) (by rfl) (Nat.le_of_ble_eq_true rfl))) (op_mulI (IntMulOk.of_left (way_small hw)))) evs_nil)))
      (ev_call_nm B (by rfl) hgM callee_builtin (evs_cons (EvO.ev (evo_list1 (d:=.list ((R.map (keyW way)).map prD)) [none,none,some 2] [.local,.local,.cell] (by decide +kernel) (evi_val (ev_nm (by rfl) (by rfl)) iter_list) ?_)) evs_nil) (c_min2 (fun h=>h0 (List.map_eq_nil_iff.mp h)))) (cm_eqB 2 (b:=true) (by rw [hmin];exact pr_same (keyW way b)) rfl))
    fun _=>ev_cmp (ev_nm (by rfl) (by rfl)) (EvO.ev (evo_list1 (d:=tD R b) [none,none,some 9] [.local,.local,.cell] (by decide +kernel) (evi_val (ev_nm (by rfl) (by rfl)) iter_list) ?_)) (cm_eqB 3 (b:=true) ((eqvF_list rfl).trans (eqvL_same fun x hx=>by obtain ⟨r,_,rfl⟩:=List.mem_map.mp hx;exact pr_same _)) rfl)) (asgS_nm (by rfl)))
    (exs_cons (ex_assign (d:=.bool true) (ev_cmp (EvO.ev (evo_list1 (d:=.list (live.map fun x=>.int (sumF live d x))) [none,none,none,none,some 4] [.local,.local,.globalImplicit,.globalImplicit,.cell] (by decide +kernel) (evi_val (ev_nm (by rfl) (by rfl)) iter_list) ?_))
      (EvO.ev (evo_list1 (d:=.list (live.map fun x=>.int (sumF live d x))) [none,none,none,some 0,some 1] [.local,.cell,.globalImplicit,.cell,.cell] (by decide +kernel) (evi_val (ev_nm (by rfl) (by rfl)) iter_list) ?_)) (cm_eqB 2 (b:=true) ((eqvF_list rfl).trans (eqvL_same fun x hx=>by obtain ⟨r,_,rfl⟩:=List.mem_map.mp hx;exact eqvF_ii rfl)) rfl)) (asgS_nm (by rfl))) (by exact hr))
  · rw [List.map_map]
    exact runs_map (emb:=prD) _ (big (by lia)) fun r _=>⟨_,asg_nm (by rfl) ⟨_,_,rfl,by decide⟩,Lss.set (by rfl),ev_tuple (evs_cons (ev_sub (ev_nm (by rfl) (by rfl)) ev_int (sub_tuple 0 (by rfl) (by rfl) (Nat.le_of_ble_eq_true rfl))) (evs_cons (ev_bin (ev_nm (by rfl) (by rfl)) (ev_sub (ev_nm (by rfl) (by rfl)) ev_int (sub_tuple 1 (by rfl) (by rfl) (Nat.le_of_ble_eq_true rfl))) (op_mulI (IntMulOk.of_left (way_small hw)))) evs_nil))⟩
  · refine runs_map (emb:=prD) _ (big (by lia)) fun r _=>⟨_,asg_nm (by rfl) ⟨_,_,rfl,by decide⟩,Lss.set (by rfl),?_⟩
    by_cases q:r = b
    · rw [if_pos q]
      exact ev_ifexp (q:=true) (evT_cmp (ev_nm (by rfl) (by rfl)) (ev_nm (by rfl) (by rfl)) (cm_eqB 2 (pr_eq r b) (decide_eq_true q).symm)) (fun _=>ev_tuple (evs_cons ev_int (evs_cons ev_int evs_nil))) (fun h=>nomatch h)
    · rw [if_neg q]
      exact ev_ifexp (q:=false) (evT_cmp (ev_nm (by rfl) (by rfl)) (ev_nm (by rfl) (by rfl)) (cm_eqB 2 (pr_eq r b) (decide_eq_false q).symm)) (fun h=>nomatch h) (fun _=>ev_tuple (evs_cons ev_int (evs_cons (ev_neg ev_int) evs_nil)))
  · exact runs_mapI (emb:=fun m=>D.str (nm m)) _ (big (by lia)) fun x hx=>⟨_,asg_nm (by rfl) ⟨_,_,rfl,by decide⟩,Lss.set (by rfl),ifs_one (evT_value (ev_isi_nm B (by rfl) (by rfl) hgI hgN (ev_sub (ev_nm (by rfl) (by rfl)) (ev_nm (by rfl) (by rfl)) (sub_dict (dm_find L.nd hx))) (fun A s Z v I r=>isi_int_int I r)) tr_bool),ev_sub (ev_nm (by rfl) (by rfl)) (ev_nm (by rfl) (by rfl)) (sub_dict (dm_find L.nd hx))⟩
  · refine runs_map (emb:=fun m=>D.str (nm m)) _ (big (by lia)) fun x hx=>⟨_,asg_nm (by rfl) ⟨_,_,rfl,by decide⟩,Lss.set (by rfl),ev_call_nm B (by rfl) hgS callee_builtin (evs_cons (EvO.ev (evo_list1 (d:=.list (((live.filter fun y=>!(y == x)).map (d x)).map .int)) [none,none,some 3,some 1] [.local,.local,.cell,.cell] (by decide +kernel) (evi_val (ev_nm (by rfl) (by rfl)) iter_list) ?_)) evs_nil) (c_sum (sumOk1 (k:=100000) (fun z hz=>?_) (by decide) ?_))⟩
    · rw [List.map_map]
      refine runs_filter (emb:=fun m=>D.str (nm m)) (fun y=>!(y == x)) _ (big (by lia)) fun y hy=>⟨_,asg_nm (by rfl) ⟨_,_,rfl,by decide⟩,Lss.set (by rfl),ifs_oneB (evT_cmp (ev_nm (by rfl) (by rfl)) (ev_nm (by rfl) (by rfl)) (cm_neB 1 (b:=nm y == nm x) rfl rfl)) (by rw [nm_beq]),fun q=>?_⟩
      have hne:y ≠ x:=by rwa [Bool.not_eq_true',beq_eq_false_iff_ne] at q
      exact ev_sub (ev_sub (ev_nm (by rfl) (by rfl)) (ev_nm (by rfl) (by rfl)) (sub_dict (dm_find L.nd hx))) (ev_nm (by rfl) (by rfl)) (sub_dict (lv_far L hx hy hne))
    · obtain ⟨y,hy,rfl⟩:=List.mem_map.mp hz
      obtain ⟨h1,h2⟩:=List.mem_filter.mp hy
      exact L.bd x hx y h1 (by rwa [Bool.not_eq_true',beq_eq_false_iff_ne] at h2)
    · rw [List.length_map];exact Nat.le_trans (List.length_filter_le ..) (by lia)
end
end Mine
end
section
open PySem PySem.W PyProof.Rows
namespace Mine
section
variable {c:Cx} {live:List Ms} {ks:Ms→List Ms} {d:Ms→Ms→Int} {C Na:Addr} {mN:Str→Option Value} {ai ac:Addr}
set_option maxRecDepth 100000 in
theorem s_least (B:Base c) (hgE:Glob c (Str.ofString "enumerate") (.type "enumerate")) (hgL:Glob c (Str.ofString "len") (.builtin "len")) (hgM:Glob c (Str.ofString "min") (.builtin "min")) (hgI:Glob c (Str.ofString "isinstance") (.builtin "isinstance")) (hgN:Glob c (Str.ofString "int") (.type "int")) (hgS:Glob c (Str.ofString "sum") (.builtin "sum"))
    (T:TCls c C Na mN ai ac) {n:Nat} {a acc:Addr} (h:FunAt c (P1 22) a) (hcc:FunAt c (P1 5) acc) (L:LvOk live ks d) {way:Int} (hw:way = 1∨way = -1) {x y:Ms} {k:Nat} (hk:(bestF way (rowsF live d)).2 = k) (hp:(pairsF live)[k]? = some (x,y)) :
    CallV c (n + 3) (.ref a) [farD live ks d,namesD live,.int way] (.tuple [.str (nm x),.str (nm y),.int (sumF live d x - sumF live d y),.bool true]):=by
  have hpl:=pairs_len live L.l5
  have hpm:=pairs_mem L.nd (List.mem_of_getElem? hp)
  have hkl:k < (pairsF live).length:=(List.getElem?_eq_some_iff.mp hp).1
  have hrl:(rowsF live d).length = (pairsF live).length:=by delta rowsF;rw [List.length_map,enumL_len]
  have h0:rowsF live d ≠ []:=fun e=>by rw [e] at hrl;rw [← hrl] at hkl;exact absurd hkl (Nat.not_lt_zero _)
  refine call_funE B (h.ok3 (.nm (by rfl) (.inr rfl) (by rfl) (.nm (by rfl) (.inr rfl) (by rfl) (.nm (by rfl) (.inr rfl) (by rfl) .nil))):FunOk c a (P1 22).scope (P1 22).body [farD live ks d,namesD live,.int way] (leR live ks d way none none none none none none none none none none none))
    ⟨_,le_1 (n:=n + 1) B hgE hgL hcc L way (le_2 (n:=n) B T hw _ _ h0 (by lia) (le_3 (n:=n + 2) B hgM hgI hgN hgS L hw _ _ h0 (by lia) (exs_cons (ex_assign (d:=pairD (x,y)) (ev_sub (ev_nm (i:=6) (k:=.local) (by rfl) (by rfl)) (ev_sub (ev_nm (i:=9) (k:=.cell) (by rfl) (by rfl)) ev_int (sub_tuple (d:=.int (bestF way (rowsF live d)).2) 1 (by rfl) (by rfl) (Nat.le_of_ble_eq_true rfl))) (sub_list k ?_ ?_ ?_)) (asgS_tuple (asgSs_cons (asgS_nm (by rfl)) (asgSs_cons (asgS_nm (by rfl)) asgSs_nil))))
    (exs_stop (ex_return (ev_tuple (evs_cons (ev_nm (by rfl) (by rfl)) (evs_cons (ev_nm (by rfl) (by rfl)) (evs_cons (ev_bin (ev_sub (ev_nm (by rfl) (by rfl)) (ev_nm (by rfl) (by rfl)) (sub_dict (dm_find L.nd hpm.1))) (ev_sub (ev_nm (by rfl) (by rfl)) (ev_nm (by rfl) (by rfl)) (sub_dict (dm_find L.nd hpm.2.1))) op_subI) (evs_cons (ev_and2 (a:=true) (b:=true) (ev_nm (by rfl) (by rfl)) fun _=>ev_nm (by rfl) (by rfl)) evs_nil)))))) (by simp)))))⟩
  · rw [hk,List.length_map];exact seqIx (Int.natCast_nonneg k) (Int.ofNat_lt.mpr hkl)
  · rw [List.getElem?_map,hp];rfl
  · rw [List.length_map];lia
end
end Mine
end
section
open PySem PySem.W PyProof.Rows
namespace Mine
noncomputable abbrev Tab:=List (Str × Int)
theorem getI_cons (p:Str × Int) (t:Tab) (k:Str):getI (p :: t) k = if p.1 = k then some p.2 else getI t k:=by
  delta getI
  rw [List.find?_cons]
  by_cases q:p.1 = k<;>simp [q]
theorem getI_put (t:Tab) (k x:Str) (v:Int):getI (putI t k v) x = if k = x then some v else getI t x:=by
  have happ:∀ l:Tab,(l.any fun e=>e.1 = k) = false→getI (l ++ [(k,v)]) x = if k = x then some v else getI l x:=by
    intro l
    induction l with
    | nil=>intro _;rw [List.nil_append,getI_cons]
    | cons e l ih=>
      intro h
      rw [List.any_cons,Bool.or_eq_false_iff] at h
      have h1:e.1 ≠ k:=of_decide_eq_false h.1
      rw [List.cons_append,getI_cons,getI_cons,ih h.2]
      by_cases q:e.1 = x
      · rw [if_pos q,if_neg fun r=>h1 (q.trans r.symm)];exact (if_pos q).symm
      · rw [if_neg q]
        by_cases r:k = x
        · rw [if_pos r,if_pos r]
        · rw [if_neg r,if_neg r];exact (if_neg q).symm
  have hmap:∀ l:Tab,(l.any fun e=>e.1 = k) = true→getI (l.map fun e=>if e.1 = k then (e.1,v) else e) x = if k = x then some v else getI l x:=by
    intro l
    induction l with
    | nil=>intro h;cases h
    | cons e l ih=>
      intro h
      rw [List.map_cons,getI_cons,getI_cons]
      by_cases q:e.1 = k
      · rw [if_pos q]
        by_cases r:k = x
        · rw [if_pos r];exact if_pos (q.trans r)
        · rw [if_neg r]
          refine (if_neg fun s=>r (q.symm.trans s)).trans (Eq.trans ?_ (if_neg fun s=>r (q.symm.trans s)).symm)
          by_cases hl:(l.any fun e=>e.1 = k) = true
          · rw [ih hl,if_neg r]
          · have:(l.map fun e=>if e.1 = k then (e.1,v) else e) = l:=(List.map_congr_left fun a ha=>if_neg fun e=>hl (List.any_eq_true.mpr ⟨a,ha,decide_eq_true e⟩)).trans (List.map_id l)
            rw [this]
      · rw [if_neg q]
        rw [List.any_cons,decide_eq_false q,Bool.false_or] at h
        rw [ih h]
        by_cases r:e.1 = x
        · rw [if_pos r,if_pos r,if_neg fun s=>q (r.trans s.symm)]
        · rw [if_neg r,if_neg r]
  delta putI
  split
  · next h=>exact hmap t h
  · next h=>exact happ t (Bool.eq_false_iff.mpr h)
theorem getI_no {t:Tab} {k:Str} (h:k ∉ t.map (·.1)):getI t k = none:=by
  induction t with
  | nil=>rfl
  | cons p t ih=>
    rw [List.map_cons,List.mem_cons,not_or] at h
    rw [getI_cons,if_neg fun e=>h.1 e.symm];exact ih h.2
theorem put_new {t:Tab} {k:Str} {v:Int} (h:k ∉ t.map (·.1)):putI t k v = t ++ [(k,v)]:=
  if_neg fun q=>by
    obtain ⟨e,he,r⟩:=List.any_eq_true.mp q
    exact h (List.mem_map.mpr ⟨e,he,of_decide_eq_true r⟩)
theorem fold_new (f:Tab→Str × Int→Int):∀ {s m:Tab},((m ++ s).map (·.1)).Nodup→(∀ m p,p ∈ s→p.1 ∉ m.map (·.1)→f m p = p.2)→s.foldl (fun m p=>putI m p.1 (f m p)) m = m ++ s:=by
  intro s
  induction s with
  | nil=>intro m _ _;rw [List.append_nil];rfl
  | cons p s ih=>
    intro m hn hf
    have hp:p.1 ∉ m.map (·.1):=fun hm=>by
      rw [List.map_append,List.nodup_append] at hn
      exact hn.2.2 _ hm _ List.mem_cons_self rfl
    have e:m ++ p :: s = (m ++ [p]) ++ s:=by rw [List.append_assoc];rfl
    rw [List.foldl_cons,hf m p List.mem_cons_self hp,put_new hp,e]
    exact ih (e▸hn) fun m q hq=>hf m q (List.mem_cons_of_mem _ hq)
theorem addC_base {t:Tab} (h:(t.map (·.1)).Nodup):t.foldl (fun m p=>putI m p.1 p.2) [] = t:=(fold_new (fun _ p=>p.2) (m:=[]) h fun _ _ _ _=>rfl).trans (List.nil_append t)
theorem addC_new {t s:Tab} (h:((t ++ s).map (·.1)).Nodup):addC t s = t ++ s:=by
  have ht:(t.map (·.1)).Nodup:=by rw [List.map_append,List.nodup_append] at h;exact h.1
  refine (?_:s.foldl (fun m p=>putI m p.1 _) (t.foldl (fun m p=>putI m p.1 p.2) []) = _)
  rw [addC_base ht]
  exact fold_new (fun m p=>match getI m p.1 with | some a=>a + p.2 | none=>p.2) h fun m p _ hp=>by rw [getI_no hp]
theorem addC_get {t s:Tab} (ht:(t.map (·.1)).Nodup) {k:Str} {a b:Int} (hs:(s.map (·.1)).Nodup) (h1:getI t k = some a) (h2:getI s k = some b):getI (addC t s) k = some (a + b):=by
  have step:∀ {m:Tab} {p:Str × Int},p.1 ≠ k→getI (addStep m p) k = getI m k:=fun h=>(getI_put ..).trans (if_neg h)
  have off:∀ {s m:Tab},k ∉ s.map (·.1)→getI (s.foldl addStep m) k = getI m k:=by
    intro s
    induction s with
    | nil=>intro m _;rfl
    | cons p s ih=>
      intro m h
      rw [List.map_cons,List.mem_cons,not_or] at h
      rw [List.foldl_cons,ih h.2,step fun e=>h.1 e.symm]
  have go:∀ {s m:Tab},(s.map (·.1)).Nodup→getI m k = some a→getI s k = some b→getI (s.foldl addStep m) k = some (a + b):=by
    intro s
    induction s with
    | nil=>intro m _ _ h;cases h
    | cons p s ih=>
      intro m hn hm hs
      rw [List.map_cons,List.nodup_cons] at hn
      rw [getI_cons] at hs
      rw [List.foldl_cons]
      by_cases q:p.1 = k
      · rw [if_pos q] at hs
        rw [off (q▸hn.1)]
        have e:addStep m p = putI m p.1 (a + p.2):=by delta addStep;rw [q,hm]
        rw [e,getI_put,if_pos q,← Option.some.inj hs]
      · rw [if_neg q] at hs
        exact ih hn.2 ((step q).trans hm) hs
  refine (?_:getI (s.foldl addStep (t.foldl (fun m p=>putI m p.1 p.2) [])) k = _)
  rw [addC_base ht]
  exact go hs h1 h2
theorem dict_new {es:List (Str × D)} (h:(es.map (·.1)).Nodup):mergedD [] es = es:=(fold_stored (fun p:Str × D=>p) es [] (by exact h)).trans (by rw [List.nil_append];exact List.map_id es)
noncomputable def lA:Str:=Str.ofString "a"
noncomputable def sideM (m:Ms):Ms:=if m.val.testBit 0 then ⟨31 - m.val,by lia⟩ else m
theorem side_ok:∀ m:Ms,(if Txt.contains (nm m) lA then Txt.join (Str.ofString "") ((ls.filter fun z=>!inB (nm m) z).map nm) else nm m) = nm (sideM m):=by decide +kernel
theorem new_ok:∀ x y:Ms,x &&& y = 0→Txt.join (Str.ofString "") ((ls.filter fun z=>inB (nm x ++ nm y) z).map nm) = nm (x ||| y):=by decide +kernel
theorem ls_join (q:Ms→Bool):JoinOk (Str.ofString "") ((ls.filter q).map nm) = true:=by
  refine joinOk_of (Nat.le_trans (flat_one (k:=1) fun x hx=>?_) (by rw [List.length_map];exact Nat.le_trans (Nat.mul_le_mul_right 1 (List.length_filter_le ..)) (by decide)))
  obtain ⟨y,hy,rfl⟩:=List.mem_map.mp hx
  exact (by decide +kernel:∀ y ∈ ls,(nm y).cps.toList.length≤1) y (List.mem_filter.mp hy).1
section
variable {c:Cx}
set_option maxRecDepth 100000 in
theorem s_side (B:Base c) {n:Nat} {a:Addr} (h:FunAt c (P1 23) a) (m:Ms):CallV c (n + 1) (.ref a) [.str (nm m)] (.str (nm (sideM m))):=by
  have hm:=side_ok m
  refine call_funE B (h.ok1 (.nm (by rfl) (.inr rfl) (by rfl) .nil)) ⟨[some (.val (.str (nm m)))],?_⟩
  refine exs_stop (ex_return (ev_ifexp (evT_cmp ev_str (ev_nm (by rfl) (by rfl)) cm_inS) (fun q=>?_) fun q=>?_)) (by simp)
  · replace hm:=(if_pos q).symm.trans hm
    rw [← hm]
    refine ev_join ev_str (EvO.ev (evo_list1 [none,none,some 0] [.local,.local,.cell] (by decide +kernel) (evi_val ev_str iter_str) ?_)) (ls_join _)
    rw [ls_abc,List.map_map]
    exact runs_filter (emb:=fun m=>D.str (nm m)) (fun z=>!inB (nm m) z) _ (Nat.le_of_ble_eq_true rfl) fun z _=>⟨_,asg_nm (by rfl) ⟨_,_,rfl,by decide⟩,Lss.set (by rfl),ifs_one (evT_cmp (ev_nm (by rfl) (by rfl)) (ev_nm (by rfl) (by rfl)) cm_notInS),fun _=>ev_nm (by rfl) (by rfl)⟩
  · replace hm:=(if_neg (by rw [show Txt.contains (nm m) lA = false from q];decide)).symm.trans hm
    rw [← hm];exact ev_nm (by rfl) (by rfl)
end
end Mine
end
section
open PySem PySem.W PyProof.Rows
namespace Mine
noncomputable def restF (live:List Ms) (x y:Ms):List Ms:=live.filter fun z=>!(x == z || (y == z || false))
noncomputable def ksN (rest:List Ms) (new z:Ms):List Ms:=if z = new then rest else (rest.filter fun w=>!(w == z)) ++ [new]
noncomputable abbrev Fnd:=List (Ms × Int)
noncomputable def fnT (l:Fnd):Tab:=l.map fun p=>(nm p.1,p.2)
structure Turn (way m:Int) (live:List Ms) (ks:Ms→List Ms) (d:Ms→Ms→Int) (fl:Fnd) (x y:Ms) (own:Int) (d':Ms→Ms→Int):Prop where
  L:LvOk live ks d
  m0:0 < m
  m3:m≤3
  k:∃ k:Nat,(bestF way (rowsF live d)).2 = k∧(pairsF live)[k]? = some (x,y)
  g:∃ g,sumF live d x - sumF live d y = m * g∧d x y + g = 2 * own
  n:∀ z ∈ restF live x y,d x z + d y z - d x y = 2 * d' (x ||| y) z∧d' z (x ||| y) = d' (x ||| y) z
  o:∀ z ∈ restF live x y,∀ w ∈ restF live x y,w ≠ z→d' z w = d z w
  z:x &&& y = 0
  nr:(x ||| y) ∉ restF live x y
  f:((fl ++ [(sideM x,own),(sideM y,d x y - own)]).map (·.1)).Nodup
  fn:fl.length≤100
theorem fn_nd {l:Fnd} (h:(l.map (·.1)).Nodup):((fnT l).map (·.1)).Nodup:=by
  delta fnT;rw [List.map_map]
  exact (List.map_map (f:=Prod.fst) (g:=nm) (l:=l))▸nm_nd h
theorem fnT_app (l m:Fnd):fnT (l ++ m) = fnT l ++ fnT m:=List.map_append
noncomputable def joR (far live way found many x y gap good two kept both rest own new near:Option Sl):List (Option Sl):=[far,live,way,found,many,x,y,gap,good,two,kept,both,rest,own,new,near,none,none,none]
noncomputable def joFor:Stmt:=(P1 24).body.getD 1 (.Pass default)
noncomputable def joS (k:Nat):Stmt:=(forBody joFor).getD k (.Pass default)
noncomputable def st0 (live:List Ms) (ks:Ms→List Ms) (d:Ms→Ms→Int) (way:Int) (fl:Fnd) (m:Option Sl):List (Option Sl):=
  joR (vsl (farD live ks d)) (vsl (namesD live)) (vsl (.int way)) (vsl (.dict (intE (fnT fl)))) m none none none none none none none none none none none
noncomputable def bothT (ks:Ms→List Ms) (d:Ms→Ms→Int) (x y:Ms):Tab:=addC ((ks x).map fun z=>(nm z,d x z)) ((ks y).map fun z=>(nm z,d y z))
section
variable {c:Cx} {live:List Ms} {ks:Ms→List Ms} {d d':Ms→Ms→Int} {way m own:Int} {fl:Fnd} {x y:Ms}
theorem rest_mem {z:Ms} (h:z ∈ restF live x y):z ∈ live∧z ≠ x∧z ≠ y:=by
  obtain ⟨h1,h2⟩:=List.mem_filter.mp h
  rw [Bool.not_eq_true',Bool.or_false,Bool.or_eq_false_iff,beq_eq_false_iff_ne,beq_eq_false_iff_ne] at h2
  exact ⟨h1,h2.1.symm,h2.2.symm⟩
theorem Turn.xy (t:Turn way m live ks d fl x y own d'):x ∈ live∧y ∈ live∧y ≠ x:=by
  obtain ⟨k,_,hp⟩:=t.k
  exact pairs_mem t.L.nd (List.mem_of_getElem? hp)
theorem tab_keys (l:List Ms) (f:Ms→Int):(l.map fun y=>(nm y,f y)).map (·.1) = l.map nm:=List.map_map ..
theorem tab_get {l:List Ms} {f:Ms→Int} {z:Ms} (h:z ∈ l):getI (l.map fun y=>(nm y,f y)) (nm z) = some (f z):=by
  induction l with
  | nil=>cases h
  | cons a l ih=>
    rw [List.map_cons,getI_cons]
    by_cases q:a = z
    · rw [if_pos (congrArg nm q),q]
    · rw [if_neg fun e=>q (nm_inj _ _ e)];exact ih ((List.mem_cons.mp h).resolve_left fun e=>q e.symm)
theorem lv_mem (L:LvOk live ks d) {z:Ms} (hx:x ∈ live) (hz:z ∈ live) (h:z ≠ x):z ∈ ks x:=(L.kp x hx).mem_iff.mpr (List.mem_filter.mpr ⟨hz,by rw [Bool.not_eq_true',beq_eq_false_iff_ne];exact h⟩)
theorem both_get (t:Turn way m live ks d fl x y own d') {z:Ms} (h:z ∈ restF live x y):((intE (bothT ks d x y)).find? fun e=>e.1 = nm z) = some (nm z,.int (d x z + d y z)):=by
  obtain ⟨hx,hy,_⟩:=t.xy
  obtain ⟨hz,zx,zy⟩:=rest_mem h
  exact getI_some (addC_get (by rw [tab_keys];exact nm_nd (lv_nd t.L hx)) (by rw [tab_keys];exact nm_nd (lv_nd t.L hy)) (tab_get (lv_mem t.L hx hz zx)) (tab_get (lv_mem t.L hy hz zy)))
theorem tab_same {l:List Ms} {f:Ms→Int} {k:Nat} (h:l.Nodup):eqvF (k + 2) (tabM l f) (tabM l f) = some true:=
  (eqvF_dict rfl).trans (eqvE_all fun e he=>by
    obtain ⟨z,hz,rfl⟩:=List.mem_map.mp he
    exact ⟨_,dm_find h hz,eqvF_ii rfl⟩)
end
end Mine
end
section
open PySem PySem.W PyProof.Rows
namespace Mine
structure JoC (c:Cx) (al aa acc as:Addr) (C Na:Addr) (mN:Str→Option Value) (ai ac:Addr):Prop where
  B:Base c
  e:Glob c (Str.ofString "enumerate") (.type "enumerate")
  l:Glob c (Str.ofString "len") (.builtin "len")
  m:Glob c (Str.ofString "min") (.builtin "min")
  i:Glob c (Str.ofString "isinstance") (.builtin "isinstance")
  n:Glob c (Str.ofString "int") (.type "int")
  s:Glob c (Str.ofString "sum") (.builtin "sum")
  t:Glob c (Str.ofString "tuple") (.type "tuple")
  T:TCls c C Na mN ai ac
  fl:FunAt c (P1 22) al
  fa:FunAt c (P1 4) aa
  fc:FunAt c (P1 5) acc
  fs:FunAt c (P1 23) as
section
variable {c:Cx} {al aa acc as C Na:Addr} {mN:Str→Option Value} {ai ac:Addr} {live:List Ms} {ks:Ms→List Ms} {d d':Ms→Ms→Int} {way m own:Int} {fl:Fnd} {x y:Ms}
noncomputable def keptD (ks:Ms→List Ms) (d:Ms→Ms→Int) (x y:Ms):D:=.list ([x,y].map fun w=>tabM (ks w) (d w))
noncomputable def gapF (live:List Ms) (d:Ms→Ms→Int) (x y:Ms):Int:=sumF live d x - sumF live d y
noncomputable def st1 (live:List Ms) (ks:Ms→List Ms) (d:Ms→Ms→Int) (way m:Int) (fl:Fnd) (x y:Ms) (own new near:Option Sl):List (Option Sl):=
  joR (vsl (farD live ks d)) (vsl (namesD live)) (vsl (.int way)) (vsl (.dict (intE (fnT fl)))) (iS m) (vsl (.str (nm x))) (vsl (.str (nm y))) (iS (gapF live d x y)) (bS true) (iS (d x y)) (vsl (keptD ks d x y)) (vsl (.dict (intE (bothT ks d x y)))) (vsl (namesD (restF live x y))) own new near
set_option maxRecDepth 100000 in
theorem jo_1 (J:JoC c al aa acc as C Na mN ai ac) {n:Nat} (hw:way = 1∨way = -1) (t:Turn way m live ks d fl x y own d') {sts:List Stmt} {o:Out} {ρ':List (Option Sl)}
    (hr:Exs c (n + 3) (P1 24).scope sts (st1 live ks d way m fl x y none none none) o ρ'):Exs c (n + 3) (P1 24).scope (joS 0 :: joS 1 :: joS 2 :: joS 3 :: sts) (st0 live ks d way fl (iS m)) o ρ':=by
  have big:∀ {k:Nat},k≤10000→k≤sizeLine:=fun h=>Nat.le_trans h (Nat.le_of_ble_eq_true rfl)
  have B:=J.B
  have L:=t.L
  have hl5:=L.l5
  obtain ⟨hx,hy,hyx⟩:=t.xy
  obtain ⟨k,hk,hp⟩:=t.k
  have kl:∀ {w},w ∈ live→(ks w).length≤5:=fun h=>Nat.le_trans (Nat.le_of_eq (L.kp _ h).length_eq) (Nat.le_trans (List.length_filter_le ..) hl5)
  refine exs_cons (ex_assign (ev_call_nm B (by rfl) J.fl.glob J.fl.callee (evs_cons (ev_nm (by rfl) (by rfl)) (evs_cons (ev_nm (by rfl) (by rfl)) (evs_cons (ev_nm (by rfl) (by rfl)) evs_nil))) (s_least (n:=n) B J.e J.l J.m J.i J.n J.s J.T J.fl J.fc L hw hk hp)) (asgS_tuple (asgSs_cons (asgS_nm (by rfl)) (asgSs_cons (asgS_nm (by rfl)) (asgSs_cons (asgS_nm (by rfl)) (asgSs_cons (asgS_nm (by rfl)) asgSs_nil))))))
    (exs_cons (ex_mix (xs:=[Str.ofString "two",Str.ofString "kept"]) (ps:=[_,_]) (sls:=[.val (.int (d x y)),.val (keptD ks d x y)]) (by rfl) (by rfl) (by rfl) (evms_val (ev_sub (ev_sub (ev_nm (by rfl) (by rfl)) (ev_nm (by rfl) (by rfl)) (sub_dict (dm_find L.nd hx))) (ev_nm (by rfl) (by rfl)) (sub_dict (lv_far L hx hy hyx))) (evms_val (EvO.ev (evo_list1 [none,none,some 0] [.local,.cell,.cell] (by decide +kernel) (evi_val (ev_tuple (ds:=[x,y].map fun w=>.str (nm w)) (evs_cons (ev_nm (by rfl) (by rfl)) (evs_cons (ev_nm (by rfl) (by rfl)) evs_nil))) iter_tuple) ?_)) evms_nil)) (.nm (by rfl) (.inr rfl) (by rfl) (.nm (by rfl) (.inl rfl) (by rfl) .nil)) (by decide +kernel))
    (exs_cons (ex_assign (d:=.dict (intE (bothT ks d x y))) (ev_call_nm B (by rfl) J.fa.glob J.fa.callee (evs_cons (ev_sub (ev_nm (by rfl) (by rfl)) (ev_nm (by rfl) (by rfl)) (sub_dict (dm_find L.nd hx))) (evs_cons (ev_sub (ev_nm (by rfl) (by rfl)) (ev_nm (by rfl) (by rfl)) (sub_dict (dm_find L.nd hy))) evs_nil)) ?_) (asgS_nm (by rfl)))
    (exs_cons (ex_assign (EvO.ev (evo_list1 (d:=namesD (restF live x y)) [none,none,some 5,some 6] [.local,.local,.cell,.cell] (by decide +kernel) (evi_val (ev_nm (by rfl) (by rfl)) iter_list) ?_)) (asgS_nm (by rfl)) (swaps_eq (by decide +kernel))) (by exact hr))))
  · refine runs_map (emb:=fun w=>D.str (nm w)) _ (Nat.le_of_ble_eq_true rfl) fun w hw=>⟨_,asg_nm (by rfl) ⟨_,_,rfl,by decide⟩,Lss.set (by rfl),?_⟩
    have hwl:w ∈ live:=by
      rcases List.mem_cons.mp hw with e | h
      · exact e▸hx
      · exact List.mem_singleton.mp h▸hy
    refine EvO.ev (evo_dict1 B [none,none,some 2,some 1] [.local,.local,.cell,.cell] (by decide +kernel) (evi_val (ev_sub (ev_nm (by rfl) (by rfl)) (ev_nm (by rfl) (by rfl)) (sub_dict (dm_find L.nd hwl))) iter_dict) ?_)
    rw [dm_keys]
    exact runs_dm1 _ (lv_nd L hwl) (big (Nat.le_trans (kl hwl) (by decide))) fun z hz=>⟨_,asg_nm (by rfl) ⟨_,_,rfl,by decide⟩,Lss.set (by rfl),ev_nm (by rfl) (by rfl),ev_sub (ev_sub (ev_nm (by rfl) (by rfl)) (ev_nm (by rfl) (by rfl)) (sub_dict (dm_find L.nd hwl))) (ev_nm (by rfl) (by rfl)) (sub_dict (dm_find (lv_nd L hwl) hz))⟩
  · have:=s_add_callers (n:=n + 2) B J.i J.t J.fa ((ks x).map fun z=>(nm z,d x z)) ((ks y).map fun z=>(nm z,d y z)) (by rw [List.length_map,List.length_map];have:=kl hx;have:=kl hy;lia)
    rw [← tab_int,← tab_int] at this
    exact this
  · refine runs_filter (emb:=fun m=>D.str (nm m)) (fun z=>!(x == z || (y == z || false))) _ (big (by lia)) fun z _=>⟨_,asg_nm (by rfl) ⟨_,_,rfl,by decide⟩,Lss.set (by rfl),ifs_oneB (evT_cmp (ev_nm (by rfl) (by rfl)) (ev_tuple (ds:=[nm x,nm y].map .str) (evs_cons (ev_nm (by rfl) (by rfl)) (evs_cons (ev_nm (by rfl) (by rfl)) evs_nil))) cm_notInT) ?_,fun _=>ev_nm (by rfl) (by rfl)⟩
    rw [← nm_beq x z,← nm_beq y z];rfl
end
end Mine
end
section
open PySem PySem.W PyProof.Rows
namespace Mine
theorem tr_int0 {c:Cx} {i:Int} (h:i = 0):TrG c (.int i) false:=h▸tr_int
theorem tr_nil {c:Cx} {ds:List D} (h:ds = []):TrG c (.list ds) false:=h▸tr_list
theorem ev_intB {c:Cx} {n:Nat} {sc:Scope} {ρ:List (Option Sl)} {e:Expr} {i j:Int} (h:EvE c n sc ρ e (.int i)) (hj:i = j):EvE c n sc ρ e (.int j):=hj▸h
theorem mul_fmod {a m g:Int} (h:a = m * g):a.fmod m = 0:=by rw [h];exact Int.mul_fmod_right ..
theorem mul_fdiv {a m g:Int} (h:a = m * g) (h0:m ≠ 0):a.fdiv m = g:=by rw [h];exact Int.mul_fdiv_cancel_left _ h0
section
variable {c:Cx} {al aa acc as C Na:Addr} {mN:Str→Option Value} {ai ac:Addr} {live:List Ms} {ks:Ms→List Ms} {d d':Ms→Ms→Int} {way m own:Int} {fl:Fnd} {x y:Ms}
set_option maxRecDepth 100000 in
theorem jo_2 (J:JoC c al aa acc as C Na mN ai ac) {n:Nat} (t:Turn way m live ks d fl x y own d') {sts:List Stmt} {o:Out} {ρ':List (Option Sl)}
    (hr:Exs c (n + 3) (P1 24).scope sts ((st1 live ks d way m fl x y (iS own) none none).set 3 (vsl (.dict (intE (fnT (fl ++ [(sideM x,own),(sideM y,d x y - own)])))))) o ρ'):Exs c (n + 3) (P1 24).scope (joS 4 :: joS 5 :: joS 6 :: sts) (st1 live ks d way m fl x y none none none) o ρ':=by
  have big:∀ {k:Nat},k≤10000→k≤sizeLine:=fun h=>Nat.le_trans h (Nat.le_of_ble_eq_true rfl)
  have B:=J.B
  have L:=t.L
  have hl5:=L.l5
  obtain ⟨hx,hy,hyx⟩:=t.xy
  obtain ⟨g,hg,ho⟩:=t.g
  have m0:=t.m0
  have m3:=t.m3
  have hm:m ≠ 0:=Int.ne_of_gt m0
  have hg:gapF live d x y = m * g:=hg
  have e1:(gapF live d x y).fdiv m = g:=mul_fdiv hg hm
  have hpy:Builtin.divisionGoesByPylong (gapF live d x y) m = false:=pylong_small (by lia)
  have hnx:fl.length≤100:=t.fn
  have rl:(restF live x y).length≤5:=Nat.le_trans (List.length_filter_le ..) hl5
  refine exs_cons (ex_if_f (evT_or_f (evT_not (b:=true) (evT_value (ev_nm (by rfl) (by rfl)) tr_bool)) (evT_or_f (evT_value (ev_bin (ev_nm (by rfl) (by rfl)) (ev_nm (by rfl) (by rfl)) (op_modI hm)) (tr_int0 (mul_fmod hg))) (evT_or_f (evT_value (ev_bin (ev_bin (ev_nm (by rfl) (by rfl)) (ev_bin (ev_nm (by rfl) (by rfl)) (ev_nm (by rfl) (by rfl)) (op_divI hm hpy)) op_addI) ev_int (op_modI (by decide))) (tr_int0 (mul_fmod (g:=own) (by rw [e1];exact ho))))
    (evT_or_f (evT_value (EvO.ev (evo_list1 (d:=.list (((restF live x y).filter fun _=>false).map fun z=>.str (nm z))) [none,none,some 11,some 9] [.local,.local,.cell,.cell] (by decide +kernel) (evi_val (ev_nm (by rfl) (by rfl)) iter_list) ?_)) (tr_nil (by rw [show (restF live x y).filter (fun _=>false) = [] from List.filter_eq_nil_iff.mpr fun _ _=>Bool.false_ne_true];rfl)))
    (evT_or_f (evT_cmp (ev_list (ds:=[x,y].map fun w=>tabM (ks w) (d w)) (evs_cons (ev_sub (ev_nm (by rfl) (by rfl)) (ev_nm (by rfl) (by rfl)) (sub_dict (dm_find L.nd hx))) (evs_cons (ev_sub (ev_nm (by rfl) (by rfl)) (ev_nm (by rfl) (by rfl)) (sub_dict (dm_find L.nd hy))) evs_nil))) (ev_nm (by rfl) (by rfl)) (cm_neB 3 (b:=true) ?_ rfl)) evT_or_nil))))) exs_nil)
    (exs_cons (ex_assign (d:=.int own) (ev_intB (ev_bin (ev_bin (ev_nm (by rfl) (by rfl)) (ev_bin (ev_nm (by rfl) (by rfl)) (ev_nm (by rfl) (by rfl)) (op_divI hm hpy)) op_addI) ev_int (op_divI (by decide) (pylong_small (by decide)))) (mul_fdiv (g:=own) (by rw [e1];exact ho) (by decide))) (asgS_nm (by rfl)))
    (exs_cons (ex_assign (d:=.dict (intE (fnT (fl ++ [(sideM x,own),(sideM y,d x y - own)])))) (ev_call_nm B (by rfl) J.fa.glob J.fa.callee (evs_cons (ev_nm (by rfl) (by rfl)) (evs_cons (EvO.ev (evo_dict B (.cons (ev_call_nm B (by rfl) J.fs.glob J.fs.callee (evs_cons (ev_nm (by rfl) (by rfl)) evs_nil) (s_side (n:=n + 2) B J.fs x)) (ev_nm (by rfl) (by rfl))
      (.cons (ev_call_nm B (by rfl) J.fs.glob J.fs.callee (evs_cons (ev_nm (by rfl) (by rfl)) evs_nil) (s_side (n:=n + 2) B J.fs y)) (ev_bin (ev_nm (by rfl) (by rfl)) (ev_nm (by rfl) (by rfl)) op_subI) .nil)))) evs_nil)) ?_) (asgS_nm (by rfl))) (by exact hr)))
  · exact runs_filter (emb:=fun m=>D.str (nm m)) (fun _=>false) _ (big (by lia)) fun z hz=>⟨_,asg_nm (by rfl) ⟨_,_,rfl,by decide⟩,Lss.set (by rfl),ifs_one (evT_value (ev_bin (ev_bin (ev_sub (ev_nm (by rfl) (by rfl)) (ev_nm (by rfl) (by rfl)) (sub_dict (both_get t hz))) (ev_nm (by rfl) (by rfl)) op_subI) ev_int (op_modI (by decide))) (tr_int0 (mul_fmod (t.n z hz).1))),fun h=>nomatch h⟩
  · refine (eqvF_list rfl).trans (eqvL_same fun e he=>?_)
    obtain ⟨w,hw,rfl⟩:=List.mem_map.mp he
    refine tab_same (k:=0) (lv_nd L ?_)
    rcases List.mem_cons.mp hw with e | h
    · exact e▸hx
    · exact List.mem_singleton.mp h▸hy
  · have hn:=t.f
    have e:mergedD [] [(nm (sideM x),D.int own),(nm (sideM y),D.int (d x y - own))] = intE (fnT [(sideM x,own),(sideM y,d x y - own)]):=dict_new (by
      have:=fn_nd hn
      rw [fnT_app,List.map_append,List.nodup_append] at this
      exact this.2.1)
    rw [e]
    have:=s_add_callers (n:=n + 2) B J.i J.t J.fa (fnT fl) (fnT [(sideM x,own),(sideM y,d x y - own)]) (by delta fnT;rw [List.length_map,List.length_map];exact Nat.le_trans (Nat.add_le_add_right hnx _) (Nat.le_of_ble_eq_true rfl))
    rwa [addC_new (by rw [← fnT_app];exact fn_nd hn),← fnT_app] at this
end
end Mine
end
section
open PySem PySem.W PyProof.Rows
namespace Mine
theorem swap1 {x:Str} {p:Pos} {value:Expr} {sc:Scope} {line:Nat} {r:Bool} (h:pureOf (swapsWithSole [.Name x p] value line (envS sc)) = some r) (env:Env) (he:env.scope = sc):swapsWith value (some (.Name x p)) line env = pure r:=swaps_eq h env he
section
variable {c:Cx} {al aa acc as C Na:Addr} {mN:Str→Option Value} {ai ac:Addr} {live:List Ms} {ks:Ms→List Ms} {d d':Ms→Ms→Int} {way m own:Int} {fl:Fnd} {x y:Ms}
theorem far_in (t:Turn way m live ks d fl x y own d') {z:Ms} (hz:z ∈ restF live x y):intE (addC (((restF live x y).filter fun w=>!(w == z)).map fun w=>(nm w,d z w)) [(nm (x ||| y),d' (x ||| y) z)]) = dcM (ksN (restF live x y) (x ||| y) z) fun w=>.int (d' z w):=by
  have hrn:(restF live x y).Nodup:=t.L.nd.sublist List.filter_sublist
  have hzn:z ≠ x ||| y:=fun e=>t.nr (e▸hz)
  have hn:(x ||| y) ∉ (restF live x y).filter fun w=>!(w == z):=fun h=>t.nr (List.mem_filter.mp h).1
  have e1:((restF live x y).filter fun w=>!(w == z)).map (fun w=>(nm w,d z w)) = ((restF live x y).filter fun w=>!(w == z)).map (fun w=>(nm w,d' z w)):=List.map_congr_left fun w hw=>by
    obtain ⟨h1,h2⟩:=List.mem_filter.mp hw
    rw [t.o z hz w h1 (by rwa [Bool.not_eq_true',beq_eq_false_iff_ne] at h2)]
  have e2:ksN (restF live x y) (x ||| y) z = ((restF live x y).filter fun w=>!(w == z)) ++ [x ||| y]:=if_neg hzn
  rw [e1,e2,← (t.n z hz).2,addC_new]
  · delta intE dcM
    rw [List.map_append,List.map_append,List.map_map];rfl
  · rw [List.map_append,tab_keys]
    exact (List.map_append▸nm_nd (List.nodup_append.mpr ⟨hrn.sublist List.filter_sublist,List.nodup_cons.mpr ⟨List.not_mem_nil,List.nodup_nil⟩,fun a ha b hb e=>hn (Eq.mp (congrArg (· ∈ _) (e.trans (List.mem_singleton.mp hb))) ha)⟩):(_ ++ [nm (x ||| y)]).Nodup)
set_option maxRecDepth 100000 in
theorem jo_3 (J:JoC c al aa acc as C Na mN ai ac) {n:Nat} (t:Turn way m live ks d fl x y own d') (fo:D) (a13:Option Sl) :
    ∃ ρ',Exs c (n + 3) (P1 24).scope [joS 7,joS 8,joS 9,joS 10,joS 11] ((st1 live ks d way m fl x y a13 none none).set 3 (vsl fo)) .next ρ' ∧
      Lss (joR (vsl (farD (restF live x y ++ [x ||| y]) (ksN (restF live x y) (x ||| y)) d')) (vsl (namesD (restF live x y ++ [x ||| y]))) (vsl (.int way)) (vsl fo) none none none none none none none none none none none none) ρ':=by
  have big:∀ {k:Nat},k≤10000→k≤sizeLine:=fun h=>Nat.le_trans h (Nat.le_of_ble_eq_true rfl)
  have B:=J.B
  have L:=t.L
  have hl5:=L.l5
  obtain ⟨hx,hy,hyx⟩:=t.xy
  have rl:(restF live x y).length≤5:=Nat.le_trans (List.length_filter_le ..) hl5
  have hrn:(restF live x y).Nodup:=L.nd.sublist List.filter_sublist
  have nl:∀ w:Ms,(nm w).length≤5:=by decide +kernel
  refine ⟨_,exs_cons (ex_assign (d:=.str (nm (x ||| y))) (by
      rw [← new_ok x y t.z]
      refine ev_join ev_str (EvO.ev (evo_list1 [none,none,some 5,some 6] [.local,.local,.cell,.cell] (by decide +kernel) (evi_val ev_str iter_str) ?_)) (ls_join _)
      rw [ls_abc,List.map_map]
      exact runs_filter (emb:=fun m=>D.str (nm m)) (fun z=>inB (nm x ++ nm y) z) _ (Nat.le_of_ble_eq_true rfl) fun z _=>⟨_,asg_nm (by rfl) ⟨_,_,rfl,by decide⟩,Lss.set (by rfl),ifs_one (evT_cmp (ev_nm (by rfl) (by rfl)) (ev_bin (ev_nm (by rfl) (by rfl)) (ev_nm (by rfl) (by rfl)) (op_addS (big (by have:=nl x;have:=nl y;lia)))) cm_inS),fun _=>ev_nm (by rfl) (by rfl)⟩) (asgS_nm (by rfl)))
    (exs_cons (ex_assign (EvO.ev (evo_dict1 B (d:=tabM (restF live x y) (d' (x ||| y))) [none,none,some 11,some 9] [.local,.local,.cell,.cell] (by decide +kernel) (evi_val (ev_nm (by rfl) (by rfl)) iter_list) ?_)) (asgS_nm (by rfl)) (swaps_eq (by decide +kernel)))
    (exs_cons (ex_assignO 0 (by rfl) (evo_dict1 B (d:=.dict (dcM (restF live x y) fun z=>tabM (ksN (restF live x y) (x ||| y) z) (d' z))) [none,none,none,some 0,some 15,some 14,some 12] [.local,.cell,.globalImplicit,.cell,.cell,.cell,.cell] (by decide +kernel) (evi_val (ev_nm (by rfl) (by rfl)) iter_list) ?_) (hs:=swap1 (by decide +kernel)))
    (exs_cons (ex_assign (ev_nm (by rfl) (by rfl)) (asg_subD 0 (by rfl) (by rfl) (ev_nm (by rfl) (by rfl)) (big (by delta dcM;rw [List.length_map];lia)))) (exs_freeze 0 (by rfl) (by rfl)
    (exs_cons (ex_assign (d:=namesD (restF live x y ++ [x ||| y])) ?_ (asgS_nm (by rfl))) exs_nil))))),?_⟩
  · exact runs_dm1 _ hrn (big (by lia)) fun z hz=>⟨_,asg_nm (by rfl) ⟨_,_,rfl,by decide⟩,Lss.set (by rfl),ev_nm (by rfl) (by rfl),ev_intB (ev_bin (ev_bin (ev_sub (ev_nm (by rfl) (by rfl)) (ev_nm (by rfl) (by rfl)) (sub_dict (both_get t hz))) (ev_nm (by rfl) (by rfl)) op_subI) ev_int (op_divI (by decide) (pylong_small (by decide)))) (mul_fdiv (t.n z hz).1 (by decide))⟩
  · refine runs_dm1 (fun z=>tabM (ksN (restF live x y) (x ||| y) z) (d' z)) hrn (big (by lia)) fun z hz=>⟨_,asg_nm (by rfl) ⟨_,_,rfl,by decide⟩,Lss.set (by rfl),ev_nm (by rfl) (by rfl),?_⟩
    obtain ⟨hzl,_,_⟩:=rest_mem hz
    have hc:=s_add_callers (n:=n + 2) B J.i J.t J.fa (((restF live x y).filter fun w=>!(w == z)).map fun w=>(nm w,d z w)) [(nm (x ||| y),d' (x ||| y) z)] (by rw [List.length_map];exact Nat.le_trans (Nat.add_le_add_right (Nat.le_trans (List.length_filter_le ..) rl) _) (Nat.le_of_ble_eq_true rfl))
    rw [far_in t hz,← tab_int] at hc
    refine ev_call_nm B (by rfl) J.fa.glob J.fa.callee (evs_cons (EvO.ev (evo_dict1 B [none,none,some 3,some 1] [.local,.local,.cell,.cell] (by decide +kernel) (evi_val (ev_nm (by rfl) (by rfl)) iter_list) ?_)) (evs_cons (EvO.ev (evo_dict B (.cons (ev_nm (by rfl) (by rfl)) (ev_sub (ev_nm (by rfl) (by rfl)) (ev_nm (by rfl) (by rfl)) (sub_dict (dm_find hrn hz))) .nil))) evs_nil)) hc
    refine runs_dm (fun w=>!(w == z)) _ hrn (big (by lia)) fun w hw=>⟨_,asg_nm (by rfl) ⟨_,_,rfl,by decide⟩,Lss.set (by rfl),ifs_oneB (evT_cmp (ev_nm (by rfl) (by rfl)) (ev_nm (by rfl) (by rfl)) (cm_neB 1 (b:=nm w == nm z) rfl rfl)) (by rw [nm_beq]),fun q=>⟨ev_nm (by rfl) (by rfl),?_⟩⟩
    exact ev_sub (ev_sub (ev_nm (by rfl) (by rfl)) (ev_nm (by rfl) (by rfl)) (sub_dict (dm_find L.nd hzl))) (ev_nm (by rfl) (by rfl)) (sub_dict (lv_far L hzl (rest_mem hw).1 (by rwa [Bool.not_eq_true',beq_eq_false_iff_ne] at q)))
  · have e:namesD (restF live x y ++ [x ||| y]) = .list ((restF live x y).map (fun m=>.str (nm m)) ++ [.str (nm (x ||| y))]):=by delta namesD;rw [List.map_append];rfl
    rw [e]
    exact ev_bin (ev_nm (by rfl) (by rfl)) (ev_list (evs_cons (ev_nm (by rfl) (by rfl)) evs_nil)) (op_addL (big (by rw [List.length_map];exact Nat.le_trans (Nat.add_le_add_right rl _) (Nat.le_of_ble_eq_true rfl))))
  · have e:storedD (dcM (restF live x y) fun z=>tabM (ksN (restF live x y) (x ||| y) z) (d' z)) (nm (x ||| y)) (tabM (restF live x y) (d' (x ||| y))) = dcM (restF live x y ++ [x ||| y]) fun z=>tabM (ksN (restF live x y) (x ||| y) z) (d' z):=by
      rw [← dm_new t.nr]
      congr 1
      exact congrArg (tabM · _) (if_pos rfl).symm
    rw [e]
    exact .cons (.inr rfl) (.cons (.inr rfl) (.cons (.inr rfl) (.cons (.inr rfl) (.cons (.inl rfl) (.cons (.inl rfl) (.cons (.inl rfl) (.cons (.inl rfl) (.cons (.inl rfl) (.cons (.inl rfl) (.cons (.inl rfl) (.cons (.inl rfl) (.cons (.inl rfl) (.cons (.inl rfl) (.cons (.inl rfl) (.cons (.inl rfl) Lss.refl)))))))))))))))
end
end Mine
end
section
open PySem PySem.W PyProof.Rows
namespace Mine
inductive Rnd (way:Int):List Int→List Ms→(Ms→List Ms)→(Ms→Ms→Int)→Fnd→Fnd→Prop
  | nil {a b:Ms} {ks:Ms→List Ms} {d:Ms→Ms→Int} {fl:Fnd}:LvOk [a,b] ks d→((fl ++ [(sideM a,d a b)]).map (·.1)).Nodup→fl.length≤100→Rnd way [] [a,b] ks d fl (fl ++ [(sideM a,d a b)])
  | cons {m:Int} {ms:List Int} {live:List Ms} {ks:Ms→List Ms} {d d':Ms→Ms→Int} {fl res:Fnd} {x y:Ms} {own:Int}:Turn way m live ks d fl x y own d' →
      Rnd way ms (restF live x y ++ [x ||| y]) (ksN (restF live x y) (x ||| y)) d' (fl ++ [(sideM x,own),(sideM y,d x y - own)]) res→Rnd way (m :: ms) live ks d fl res
section
variable {c:Cx} {al aa acc as C Na:Addr} {mN:Str→Option Value} {ai ac:Addr} {way:Int}
set_option maxRecDepth 100000 in
theorem jo_loop (J:JoC c al aa acc as C Na mN ai ac) {n:Nat} (hw:way = 1∨way = -1) {ms:List Int} {live:List Ms} {ks:Ms→List Ms} {d:Ms→Ms→Int} {fl res:Fnd} (R:Rnd way ms live ks d fl res) :
    ∃ a b ks' d' fl',(LvOk [a,b] ks' d'∧((fl' ++ [(sideM a,d' a b)]).map (·.1)).Nodup∧fl'.length≤100∧res = fl' ++ [(sideM a,d' a b)]) ∧
      LoopF c (n + 3) (P1 24).scope (forTgt joFor) (forBody joFor) (ms.map .int) (st0 live ks d way fl none) .next (st0 [a,b] ks' d' way fl' none):=by
  induction R with
  | nil h1 h2 h3=>exact ⟨_,_,_,_,_,⟨h1,h2,h3,rfl⟩,.nil⟩
  | @cons m ms live ks d d' fl res x y own t _ ih=>
    obtain ⟨a,b,ks',d'',fl',h,hl⟩:=ih
    obtain ⟨ρ',h3,hls⟩:=jo_3 (n:=n) J t (.dict (intE (fnT (fl ++ [(sideM x,own),(sideM y,d x y - own)])))) (iS own)
    exact ⟨a,b,ks',d'',fl',h,.step (asgS_nm (i:=4) (k:=.local) (x:=Str.ofString "many") (by rfl)) (exs_less (jo_1 J hw t (jo_2 J t h3)) Lss.refl hls) (.inl rfl) hl⟩
set_option maxRecDepth 100000 in
theorem s_joined (J:JoC c al aa acc as C Na mN ai ac) {n:Nat} {a:Addr} (h:FunAt c (P1 24) a) (hw:way = 1∨way = -1) {live:List Ms} {ks:Ms→List Ms} {d:Ms→Ms→Int} {res:Fnd} (R:Rnd way [3,2,1] live ks d [] res) :
    CallV c (n + 4) (.ref a) [farD live ks d,namesD live,.int way] (.dict (intE (fnT res))):=by
  have B:=J.B
  obtain ⟨p,q,ks',d',fl',⟨L,hn,hl,rfl⟩,hL⟩:=jo_loop (n:=n) J hw R
  have hpq:q ≠ p:=fun e=>by
    have:=L.nd
    rw [List.nodup_cons] at this
    exact this.1 (e▸List.mem_cons_self)
  have hc:=s_add_callers (n:=n + 2) B J.i J.t J.fa (fnT fl') (fnT [(sideM p,d' p q)]) (by delta fnT;rw [List.length_map,List.length_map];exact Nat.le_trans (Nat.add_le_add_right hl _) (Nat.le_of_ble_eq_true rfl))
  rw [addC_new (by rw [← fnT_app];exact fn_nd hn),← fnT_app] at hc
  refine call_funE B (h.ok3 (.nm (by rfl) (.inr rfl) (by rfl) (.nm (by rfl) (.inl rfl) (by rfl) (.nm (by rfl) (.inl rfl) (by rfl) .nil)))) ⟨_,exs_cons (ex_assign (d:=.dict []) (EvO.ev (evo_dict0 B)) (asgS_nm (by rfl))) (exs_cons (ex_for (evi_val (ev_tuple (ds:=[3,2,1].map .int) (evs_cons ev_int (evs_cons ev_int (evs_cons ev_int evs_nil)))) iter_tuple) (by exact hL)) (exs_stop (ex_return (ev_call_nm B (by rfl) J.fa.glob J.fa.callee (evs_cons (ev_nm (by rfl) (by rfl)) (evs_cons (EvO.ev (evo_dict B
    (.cons (ev_call_nm B (by rfl) J.fs.glob J.fs.callee (evs_cons (ev_sub (ev_nm (by rfl) (by rfl)) ev_int (sub_list (d:=.str (nm p)) 0 (by rfl) (by rfl) (Nat.le_of_ble_eq_true rfl))) evs_nil) (s_side (n:=n + 2) B J.fs p))
    (ev_sub (ev_sub (ev_nm (by rfl) (by rfl)) (ev_sub (ev_nm (by rfl) (by rfl)) ev_int (sub_list (d:=.str (nm p)) 0 (by rfl) (by rfl) (Nat.le_of_ble_eq_true rfl))) (sub_dict (dm_find L.nd List.mem_cons_self))) (ev_sub (ev_nm (by rfl) (by rfl)) ev_int (sub_list (d:=.str (nm q)) 1 (by rfl) (by rfl) (Nat.le_of_ble_eq_true rfl))) (sub_dict (lv_far L List.mem_cons_self (List.mem_cons_of_mem _ List.mem_cons_self) hpq))) .nil))) evs_nil)) hc)) (by simp)))⟩
end
end Mine
end
section
open PySem PySem.W PyProof.Rows
namespace Mine
noncomputable def lwR (a0 a1 a2 a3 a4 a5 a6 a7 a8 a9 a10 a11 a12 a13 a14 a15:Option Sl):List (Option Sl):=
  [a0,a1,a2,a3,a4,a5,a6,a7,a8,a9,a10,a11,a12,a13,a14,a15,none,none,none,none,none,none,none,none,none,none,none,none]
noncomputable def lwS (k:Nat):Stmt:=(P1 25).body.getD k (.Pass default)
noncomputable def told1:List Int:=[97254,243328,48602,291709,28]
noncomputable def signsL:List Str:=[Str.ofString "",Str.ofString " ",Str.ofString "\t"]
noncomputable def blankL:Str:=Str.ofString " \t"
noncomputable def pcsL:List Str:=[Str.ofString "",Str.ofString "\\)",Str.ofString "\")\"",Str.ofString "\\\"",Str.ofString "\"(\"",Str.ofString "\\\\",Str.ofString "\"\\\")\"",Str.ofString "\\("]
noncomputable def unitsL:List Str:=[Str.ofString " ",Str.ofString "\t",Str.ofString " \t",Str.ofString "  \t"]
noncomputable def dm (x k m:Int):Int:=(x.fdiv k).fmod m
noncomputable def spanF (x:Int):Int:=1 + dm x 54 900
noncomputable def signAt (x k:Int):Str:=signsL.getD (dm x k 3).toNat Str.empty
noncomputable def leadF (x:Int):Str:=⟨#[blankL.cps.getD (x.fmod 2).toNat 0]⟩ ++ signAt x 2 ++ signAt x 6 ++ signAt x 18
noncomputable def pcAt (x k:Int):Str:=pcsL.getD (dm x k 8).toNat Str.empty
noncomputable def wayF (x:Int):Int:=1 - (x.fmod 2) * 2
noncomputable def unitF (x:Int):Str:=unitsL.getD (dm x 2 4).toNat Str.empty
noncomputable def spansF (cs:List Int):List Int:=(cs.take 4).map spanF
noncomputable def leadsF (cs:List Int):List Str:=Str.ofString "" :: (cs.take 4).map leadF
noncomputable def dressF (cs:List Int):List Str:=pcAt (cs.getD 4 0) 8 :: (cs.take 4).map fun x=>pcAt x 48600
structure LawFns (c:Cx) (ad:Nat→Addr):Prop where
  f3:FunAt c (P1 3) (ad 3)
  f4:FunAt c (P1 4) (ad 4)
  f5:FunAt c (P1 5) (ad 5)
  f7:FunAt c (P1 7) (ad 7)
  f8:FunAt c (P1 8) (ad 8)
  f9:FunAt c (P1 9) (ad 9)
  f13:FunAt c (P1 13) (ad 13)
  f14:FunAt c (P1 14) (ad 14)
  f15:FunAt c (P1 15) (ad 15)
  f16:FunAt c (P1 16) (ad 16)
  f17:FunAt c (P1 17) (ad 17)
  f18:FunAt c (P1 18) (ad 18)
  f19:FunAt c (P1 19) (ad 19)
  f20:FunAt c (P1 20) (ad 20)
  f21:FunAt c (P1 21) (ad 21)
  f22:FunAt c (P1 22) (ad 22)
  f23:FunAt c (P1 23) (ad 23)
  f24:FunAt c (P1 24) (ad 24)
  f25:FunAt c (P1 25) (ad 25)
structure LawGl (c:Cx):Prop where
  enum:Glob c (Str.ofString "enumerate") (.type "enumerate")
  len:Glob c (Str.ofString "len") (.builtin "len")
  zip:Glob c (Str.ofString "zip") (.type "zip")
  range:Glob c (Str.ofString "range") (.type "range")
  min:Glob c (Str.ofString "min") (.builtin "min")
  max:Glob c (Str.ofString "max") (.builtin "max")
  list:Glob c (Str.ofString "list") (.type "list")
  tuple:Glob c (Str.ofString "tuple") (.type "tuple")
  int:Glob c (Str.ofString "int") (.type "int")
  isi:Glob c (Str.ofString "isinstance") (.builtin "isinstance")
  sum:Glob c (Str.ofString "sum") (.builtin "sum")
theorem fmod_at (x:Int) (k:Int) (hk:0 < k):0≤x.fmod k∧x.fmod k < k:=⟨Int.fmod_nonneg_of_pos x hk,Int.fmod_lt_of_pos x hk⟩
theorem getDS_at {l:List Str} {i:Nat} (h:i < l.length):(l.map D.str)[i]? = some (.str (l.getD i Str.empty)):=getX_at (f:=D.str) h
section
variable {c:Cx} {n:Nat} {sc:Scope} {ρ:List (Option Sl)}
theorem sub_strs {l:List Str} (i m:Int) (h:0≤i∧i < m) (hm:(l.length:Int) = m) (hl:l.length < 2 ^ 60):SubG c n (.list (l.map .str)) (.int i) (.str (l.getD i.toNat Str.empty)):=
  sub_list i.toNat (by rw [List.length_map];exact seqIx h.1 (by lia)) (getDS_at (by lia)) (by rw [List.length_map];exact hl)
theorem ev_dm {e:Expr} {x k m:Int} {a b p q:Pos} {i j:Nat} (h:EvE c n sc ρ e (.int x)) (hk:k ≠ 0) (hm:m ≠ 0) (hs:k.natAbs < 2 ^ 64):EvE c n sc ρ (.BinOp (.BinOp e .FloorDiv (.Constant (.int k) i a) p) .Mod (.Constant (.int m) j b) q) (.int (dm x k m)):=
  ev_bin (ev_bin h ev_int (op_divI hk (pylong_small hs))) ev_int (op_modI hm)
variable {ad:Nat→Addr}
theorem len_getD {l:List Str} {k:Nat} (h:∀ x ∈ l,x.length≤k) (i:Nat):(l.getD i Str.empty).length≤k:=by
  rw [List.getD_eq_getElem?_getD]
  by_cases hi:i < l.length
  · rw [List.getElem?_eq_getElem hi];exact h _ (List.getElem_mem hi)
  · rw [List.getElem?_eq_none (Nat.le_of_not_lt hi)];exact Nat.zero_le _
theorem sign_len (x k:Int):(signAt x k).length≤1:=len_getD (by decide +kernel) _
theorem lead_len (x:Int):(leadF x).length≤4:=by
  delta leadF
  rw [Str.length_append,Str.length_append,Str.length_append]
  have:=sign_len x 2
  have:=sign_len x 6
  have:=sign_len x 18
  have e:(⟨#[blankL.cps.getD (x.fmod 2).toNat 0]⟩:Str).length = 1:=rfl
  lia
theorem blank_at {i:Int} (h:0≤i∧i < 2):blankL.cps[i.toNat]? = some (blankL.cps.getD i.toNat 0):=by
  have hs:blankL.cps.size = 2:=by decide +kernel
  have:i.toNat < blankL.cps.size:=by lia
  rw [Array.getD_eq_getD_getElem?,Array.getElem?_eq_getElem this];rfl
set_option maxRecDepth 100000 in
theorem lw0 (B:Base c) (G:LawGl c) (F:LawFns c ad) (ns:List Int) (hn:ns.length≤63) :
    Ex c (n + 1) (P1 25).scope (lwS 0) (lwR (vsl (intsD ns)) none none none none none none none none none none none none none none none) .next (lwR (vsl (intsD ns)) (vsl (intsD (cellsF ns told1))) none none none none none none none none none none none none none none):=
  ex_assign (ev_call_nm B (by rfl) F.f13.glob F.f13.callee (evs_cons (ev_nm (i:=0) (k:=.local) (by rfl) (by rfl)) (evs_cons (ev_tuple (evs_cons ev_int (evs_cons ev_int (evs_cons ev_int (evs_cons ev_int (evs_cons ev_int evs_nil)))))) evs_nil)) (s_cells B G.enum G.sum G.len F.f13 ns told1 hn (by decide) (by decide))) (asgS_nm (i:=1) (k:=.local) (x:=Str.ofString "cells") (by rfl)) (hs:=swaps_eq (by decide +kernel)) (hw:=swap_eq (by decide +kernel))
theorem big {k:Nat} (h:k≤10000):k≤sizeLine:=Nat.le_trans h (Nat.le_of_ble_eq_true rfl)
section
variable {cs:List Int} (hcl:cs.length = 5) (a0:Option Sl)
include hcl
omit hcl in
theorem c4:cutL (cs.map D.int) none (some 4) = (cs.take 4).map .int:=by rw [cutL_map,cutL_take _ _ (by decide)];rfl
theorem hs4:(cs.map D.int).length≤sizeLine:=big (by rw [List.length_map,hcl];decide)
set_option maxRecDepth 100000 in
theorem lw1:Ex c n (P1 25).scope (lwS 1) (lwR a0 (vsl (intsD cs)) none none none none none none none none none none none none none none) .next (lwR a0 (vsl (intsD cs)) (vsl (strsD signsL)) (vsl (intsD (spansF cs))) none none none none none none none none none none none none):=by
  have ht4:(cs.take 4).length≤4:=List.length_take_le ..
  refine ex_mix (xs:=[Str.ofString "signs",Str.ofString "spans"]) (ps:=[_,_]) (sls:=[.val (strsD signsL),.val (intsD (spansF cs))]) (by rfl) (by rfl) (by rfl) (evms_val (ev_list (ds:=signsL.map .str) (evs_cons ev_str (evs_cons ev_str (evs_cons ev_str evs_nil)))) (evms_val (EvO.ev (evo_list1 [none,none] [.local,.local] (by decide +kernel) (evi_val (ev_slice (ev_nm (i:=1) (k:=.local) (by rfl) (by rfl)) evP_none (evP_some ev_int) (slice_list (hs4 hcl))) iter_list) ?_)) evms_nil)) (.nm (by rfl) (.inr rfl) (by rfl) (.nm (by rfl) (.inl rfl) (by rfl) .nil)) (by decide +kernel)
  rw [c4]
  delta spansF intsD
  rw [List.map_map]
  exact runs_map (emb:=D.int) _ (big (by lia)) fun x _=>⟨_,asg_nm (by rfl) ⟨_,_,rfl,by decide⟩,Lss.set (by rfl),ev_bin ev_int (ev_dm (ev_nm (by rfl) (by rfl)) (by decide) (by decide) (by decide)) op_addI⟩
set_option maxRecDepth 100000 in
theorem lw2 (a3:Option Sl):Ex c n (P1 25).scope (lwS 2) (lwR a0 (vsl (intsD cs)) (vsl (strsD signsL)) a3 none none none none none none none none none none none none) .next (lwR a0 (vsl (intsD cs)) (vsl (strsD signsL)) a3 (vsl (strsD (leadsF cs))) none none none none none none none none none none none):=by
  have ht4:(cs.take 4).length≤4:=List.length_take_le ..
  refine ex_assign (d:=strsD (leadsF cs)) (ev_bin (ev_list (ds:=[.str (Str.ofString "")]) (evs_cons ev_str evs_nil)) (EvO.ev (evo_list1 (d:=.list (((cs.take 4).map leadF).map .str)) [none,none,some 2] [.local,.local,.cell] (by decide +kernel) (evi_val (ev_slice (ev_nm (i:=1) (k:=.local) (by rfl) (by rfl)) evP_none (evP_some ev_int) (slice_list (hs4 hcl))) iter_list) ?_)) (op_addL (big ?_))) (asgS_nm (i:=4) (k:=.local) (by rfl)) (hs:=swaps_eq (by decide +kernel)) (hw:=swap_eq (by decide +kernel))
  · rw [c4,List.map_map]
    refine runs_map (emb:=D.int) _ (big (by lia)) fun x _=>⟨_,asg_nm (by rfl) ⟨_,_,rfl,by decide⟩,Lss.set (by rfl),?_⟩
    have m2:=fmod_at x 2 (by decide)
    have sg:∀ k,SubG c n (.list (signsL.map .str)) (.int (dm x k 3)) (.str (signAt x k)):=fun k=>sub_strs _ 3 (fmod_at _ 3 (by decide)) rfl (by decide)
    have s2:=sign_len x 2
    have s6:=sign_len x 6
    have s18:=sign_len x 18
    have e:(⟨#[blankL.cps.getD (x.fmod 2).toNat 0]⟩:Str).length = 1:=rfl
    exact ev_bin (ev_bin (ev_bin (ev_sub ev_str (ev_bin (ev_nm (by rfl) (by rfl)) ev_int (op_modI (by decide))) (sub_str (x.fmod 2).toNat _ (seqIx m2.1 (by exact m2.2)) (blank_at m2) (by decide))) (ev_sub (ev_nm (by rfl) (by rfl)) (ev_dm (ev_nm (by rfl) (by rfl)) (by decide) (by decide) (by decide)) (sg 2)) (op_addS (big (by lia))))
      (ev_sub (ev_nm (by rfl) (by rfl)) (ev_dm (ev_nm (by rfl) (by rfl)) (by decide) (by decide) (by decide)) (sg 6)) (op_addS (big (by rw [Str.length_append];lia)))) (ev_sub (ev_nm (by rfl) (by rfl)) (ev_dm (ev_nm (by rfl) (by rfl)) (by decide) (by decide) (by decide)) (sg 18)) (op_addS (big (by rw [Str.length_append,Str.length_append];lia)))
  · rw [List.length_map,List.length_map];exact Nat.le_trans (Nat.add_le_add_left ht4 _) (Nat.le_of_ble_eq_true rfl)
omit hcl in
set_option maxRecDepth 100000 in
theorem lw3 (a1 a2 a3 a4:Option Sl):Ex c n (P1 25).scope (lwS 3) (lwR a0 a1 a2 a3 a4 none none none none none none none none none none none) .next (lwR a0 a1 a2 a3 a4 (vsl (strsD pcsL)) none none none none none none none none none none):=
  ex_assign (ev_list (ds:=pcsL.map .str) (evs_cons ev_str (evs_cons ev_str (evs_cons ev_str (evs_cons ev_str (evs_cons ev_str (evs_cons ev_str (evs_cons ev_str (evs_cons ev_str evs_nil))))))))) (asgS_nm (i:=5) (k:=.cell) (x:=Str.ofString "pieces") (by rfl)) (hs:=swaps_eq (by decide +kernel)) (hw:=swap_eq (by decide +kernel))
set_option maxRecDepth 100000 in
theorem lw4 (a2 a3 a4:Option Sl):Ex c n (P1 25).scope (lwS 4) (lwR a0 (vsl (intsD cs)) a2 a3 a4 (vsl (strsD pcsL)) none none none none none none none none none none) .next (lwR a0 (vsl (intsD cs)) a2 a3 a4 (vsl (strsD pcsL)) (vsl (strsD (dressF cs))) none none none none none none none none none):=by
  have ht4:(cs.take 4).length≤4:=List.length_take_le ..
  refine ex_assign (d:=strsD (dressF cs)) (ev_bin (ev_list (ds:=[.str (pcAt (cs.getD 4 0) 8)]) (evs_cons (ev_sub (ev_nm (i:=5) (k:=.cell) (by rfl) (by rfl)) (ev_dm (ev_sub (ev_nm (i:=1) (k:=.local) (by rfl) (by rfl)) ev_int (sub_list (d:=.int (cs.getD 4 0)) 4 (by rw [List.length_map,hcl];rfl) (getD_at (by rw [hcl];decide)) (by rw [List.length_map,hcl];decide))) (by decide) (by decide) (by decide)) (sub_strs _ 8 (fmod_at _ 8 (by decide)) rfl (by decide))) evs_nil))
      (EvO.ev (evo_list1 (d:=.list (((cs.take 4).map fun x=>pcAt x 48600).map .str)) [none,none,some 5] [.local,.local,.cell] (by decide +kernel) (evi_val (ev_slice (ev_nm (i:=1) (k:=.local) (by rfl) (by rfl)) evP_none (evP_some ev_int) (slice_list (hs4 hcl))) iter_list) ?_)) (op_addL (big ?_))) (asgS_nm (i:=6) (k:=.local) (by rfl)) (hs:=swaps_eq (by decide +kernel)) (hw:=swap_eq (by decide +kernel))
  · rw [c4,List.map_map]
    exact runs_map (emb:=D.int) _ (big (by lia)) fun x _=>⟨_,asg_nm (by rfl) ⟨_,_,rfl,by decide⟩,Lss.set (by rfl),ev_sub (ev_nm (by rfl) (by rfl)) (ev_dm (ev_nm (by rfl) (by rfl)) (by decide) (by decide) (by decide)) (sub_strs _ 8 (fmod_at _ 8 (by decide)) rfl (by decide))⟩
  · rw [List.length_map,List.length_map];exact Nat.le_trans (Nat.add_le_add_left ht4 _) (Nat.le_of_ble_eq_true rfl)
end
end
end Mine
end
section
open PySem PySem.W PyProof.Rows
namespace Mine
theorem rel_len {α:Type} {k:Nat} (f:α→α→Bool) (l:List α) (d:α) (hl:l.length≤k):(relF f l d).length≤k∧∀ r ∈ relF f l d,r.length≤k:=by
  delta relF
  refine ⟨by rw [List.length_map,rangeL_len];exact hl,fun r hr=>?_⟩
  obtain ⟨i,_,rfl⟩:=List.mem_map.mp hr
  rw [List.length_map,List.length_drop];exact Nat.le_trans (Nat.sub_le ..) hl
theorem nan_len {k:Nat} (leads:List Str) (hl:leads.length≤k):(nanF leads).length≤k∧∀ r ∈ nanF leads,r.length≤k:=rel_len lessF (rowsN leads) ws0 (by delta rowsN;rw [List.length_map];exact hl)
noncomputable def blocksF (E:List Int):List Str:=(enumL 0 E).map fun p=>Txt.slice abc (some p.1) (some p.2)
theorem strs_same (l:List Str):eqvF 2 (strsD l) (strsD l) = some true:=(eqvF_list rfl).trans (eqvL_same fun x hx=>by obtain ⟨y,_,rfl⟩:=List.mem_map.mp hx;exact eqvF_str)
theorem bools_same (l:List (List Bool)):eqvF 3 (boolsD l) (boolsD l) = some true:=(eqvF_list rfl).trans (eqvL_same fun x hx=>by
  obtain ⟨y,_,rfl⟩:=List.mem_map.mp hx
  exact (eqvF_list rfl).trans (eqvL_same fun x hx=>by obtain ⟨y,_,rfl⟩:=List.mem_map.mp hx;exact eqvF_bool))
section
variable {c:Cx} {n:Nat} {ad:Nat→Addr} {C Na:Addr} {mN:Str→Option Value} {ai al ad' ae:Addr} (a0 a1 a2 a3 a5:Option Sl)
set_option maxRecDepth 100000 in
theorem lw5 (B:Base c) (G:LawGl c) (F:LawFns c ad) (W:WCls c C Na mN ai al ad' ae) (a6:Option Sl) (leads:List Str) (hl:leads.length≤100) (hx:∀ x ∈ leads,x.length≤190) (he:relF lessC (leads.map colsF) [] = nanF leads) :
    Ex c (n + 3) (P1 25).scope (lwS 5) (lwR a0 a1 a2 a3 (vsl (strsD leads)) a5 a6 none none none none none none none none none) .next (lwR a0 a1 a2 a3 (vsl (strsD leads)) a5 a6 (vsl (boolsD (nanF leads))) (vsl (boolsD (nanF leads))) none none none none none none none):=by
  have hw:=s_walked (n:=n + 1) B G.range G.len G.zip F.f15 F.f14 leads hl
  rw [he] at hw
  exact ex_swap (xs:=[Str.ofString "nanny",Str.ofString "walked"]) (sls:=[.val (boolsD (nanF leads)),.val (boolsD (nanF leads))]) (by rfl) (evms_val (ev_call_nm B (by rfl) F.f16.glob F.f16.callee (evs_cons (ev_nm (i:=4) (k:=.local) (by rfl) (by rfl)) evs_nil) (s_nanny (n:=n) B G.len G.tuple G.max G.range W F.f16 leads hl hx))
    (evms_val (ev_call_nm B (by rfl) F.f15.glob F.f15.callee (evs_cons (ev_nm (i:=4) (k:=.local) (by rfl) (by rfl)) evs_nil) hw) evms_nil)) (.nm (by rfl) (.inl rfl) (by rfl) (.nm (by rfl) (.inl rfl) (by rfl) .nil)) (by decide +kernel)
set_option maxRecDepth 100000 in
theorem lw6 (B:Base c) (G:LawGl c) (F:LawFns c ad) (a4 a8:Option Sl) (W:List (List Bool)) (dress:List Str) (hW:W.length≤10) (hr:∀ r ∈ W,r.length≤100) (hd:dress.length≤5) (hx:∀ x ∈ dress,x.length≤100)
    (hT:((tokensF (endsF W) dress).flatMap (·.cps.toList)).length≤900) (hn:(tokensF (endsF W) dress).length≤100) (ho:(openedF (tokensF (endsF W) dress)).length≤5) :
    Ex c (n + 7) (P1 25).scope (lwS 6) (lwR a0 a1 a2 a3 a4 a5 (vsl (strsD dress)) (vsl (boolsD W)) a8 none none none none none none none) .next (lwR a0 a1 a2 a3 a4 a5 (vsl (strsD dress)) (vsl (boolsD W)) a8 (vsl (strsD (mailF (tokensF (endsF W) dress)))) none none none none none none):=by
  have hel:(endsF W).length≤10:=by delta endsF;rw [List.length_map,enumL_len];exact hW
  exact ex_assign (ev_call_nm B (by rfl) F.f19.glob F.f19.callee (evs_cons (ev_call_nm B (by rfl) F.f18.glob F.f18.callee (evs_cons (ev_call_nm B (by rfl) F.f17.glob F.f17.callee (evs_cons (ev_nm (i:=7) (k:=.local) (by rfl) (by rfl)) evs_nil) (s_ends (n:=n + 6) B G.enum F.f17 W (Nat.le_trans hW (by decide)) hr)) (evs_cons (ev_nm (i:=6) (k:=.local) (by rfl) (by rfl)) evs_nil))
    (s_tokens (n:=n + 6) B G.enum G.len F.f18 (endsF W) dress hel hd hx)) evs_nil) (s_mail (n:=n) B G.enum G.len G.range F.f19 F.f9 F.f8 F.f7 _ hT hn ho)) (asgS_nm (i:=9) (k:=.local) (x:=Str.ofString "mail") (by rfl)) (hs:=swaps_eq (by decide +kernel)) (hw:=swap_eq (by decide +kernel))
set_option maxRecDepth 100000 in
theorem lw7 (B:Base c) (G:LawGl c) (F:LawFns c ad) (a4 a6 a7 a9:Option Sl) (W:List (List Bool)) (hW:W.length≤10) (hr:∀ r ∈ W,r.length≤100) :
    Ex c (n + 1) (P1 25).scope (lwS 7) (lwR a0 a1 a2 a3 a4 a5 a6 a7 (vsl (boolsD W)) a9 none none none none none none) .next (lwR a0 a1 a2 a3 a4 a5 a6 a7 (vsl (boolsD W)) a9 (some (.own (strsD (blocksF (endsF W))))) none none none none none):=by
  have hel:(endsF W).length≤10:=by delta endsF;rw [List.length_map,enumL_len];exact hW
  refine ex_assignC 10 rfl (evc_list1 (d:=strsD (blocksF (endsF W))) [none,none,none] [.local,.local,.local] (by decide +kernel) (evi_enum_nm B (by rfl) G.enum (evn_val (ev_call_nm B (by rfl) F.f17.glob F.f17.callee (evs_cons (ev_nm (i:=8) (k:=.local) (by rfl) (by rfl)) evs_nil) (s_ends (n:=n) B G.enum F.f17 W (Nat.le_trans hW (by decide)) hr)) src_list)) ?_)
  delta strsD blocksF
  rw [enumD_map,List.map_map]
  exact runs_map (emb:=fun (p:Int × Int)=>.tuple [.int p.1,.int p.2]) _ (big (by rw [enumL_len];lia)) fun p _=>⟨_,asg_tuple (asgs_cons (asg_nm (by rfl) ⟨_,_,rfl,by decide⟩) (asgs_cons (asg_nm (by rfl) ⟨_,_,rfl,by decide⟩) asgs_nil)),(Lss.set (by rfl)).trans (Lss.set (by rfl)),ev_slice ev_str (evP_some (ev_nm (by rfl) (by rfl))) (evP_some (ev_nm (by rfl) (by rfl))) (slice_str (Nat.le_of_ble_eq_true rfl))⟩
set_option maxRecDepth 100000 in
theorem lw8 (a4 a6:Option Sl) (W:List (List Bool)) (bl:List Str) (hW:W.length≤10) (hr:∀ r ∈ W,r.length≤10) :
    Ex c n (P1 25).scope (lwS 8) (lwR a0 a1 a2 a3 a4 a5 a6 (vsl (boolsD W)) (vsl (boolsD W)) (vsl (strsD bl)) (vsl (strsD bl)) none none none none none) .next (lwR a0 a1 a2 a3 a4 a5 a6 (vsl (boolsD W)) (vsl (boolsD W)) (vsl (strsD bl)) (vsl (strsD bl)) none none none none none):=by
  refine ex_if_f (evT_or_f (evT_cmp (ev_nm (i:=7) (k:=.local) (by rfl) (by rfl)) (ev_nm (i:=8) (k:=.local) (by rfl) (by rfl)) (cm_neB 3 (b:=true) (bools_same W) rfl)) (evT_or_f (evT_cmp (ev_nm (i:=9) (k:=.local) (by rfl) (by rfl)) (ev_nm (i:=10) (k:=.local) (by rfl) (by rfl)) (cm_neB 2 (b:=true) (strs_same bl) rfl))
    (evT_or_f (evT_value (EvO.ev (evo_list2 (d:=.list ([] ++ W.flatMap fun _=>[])) [none,none,none] [.local,.local,.local] (by decide +kernel) (evi_val (ev_nm (i:=7) (k:=.local) (by rfl) (by rfl)) iter_list) ?_)) (tr_nil (by rw [List.nil_append];exact List.flatMap_eq_nil_iff.mpr fun _ _=>rfl))) evT_or_nil))) exs_nil
  refine runs_flat (emb:=fun r:List Bool=>D.list (r.map .bool)) (fun _=>[]) 10 (big (by rw [List.length_nil];lia)) (fun r _=>Nat.zero_le _) fun r hm=>⟨_,asg_nm (by rfl) ⟨_,_,rfl,by decide⟩,Lss.set (by rfl),ifs_nil,fun ds hds=>?_⟩
  refine body_inner ce_list2b (evi_val (ev_nm (by rfl) (by rfl)) iter_list) (loop_list2b ?_)
  refine Eq.mp (congrArg (fun z=>RunsT _ (r.map D.bool) (.list ds) (.list (ds ++ z))) (List.filterMap_eq_nil_iff.mpr fun _ _=>rfl:r.filterMap (fun _=>(none:Option D)) = [])) ?_
  refine runs_list (emb:=D.bool) (fun _=>none) (Nat.le_trans (Nat.add_le_add_left (hr r hm) _) hds) fun b _=>⟨_,asg_nm (by rfl) ⟨_,_,rfl,by decide⟩,Lss.set (by rfl),ifs_oneB (evT_and2 (evT_cmp (ev_nm (by rfl) (by rfl)) ev_bool cm_isNotB) fun _=>evT_cmp (ev_nm (by rfl) (by rfl)) ev_bool cm_isNotB) (by induction b<;>rfl)⟩
end
end Mine
end
section
open PySem PySem.W PyProof.Rows
namespace Mine
theorem joC {c:Cx} {ad:Nat→Addr} (B:Base c) (G:LawGl c) (F:LawFns c ad) {C Na:Addr} {mN:Str→Option Value} {ai ac:Addr} (T:TCls c C Na mN ai ac):JoC c (ad 22) (ad 4) (ad 5) (ad 23) C Na mN ai ac:=
  ⟨B,G.enum,G.len,G.min,G.isi,G.int,G.sum,G.tuple,T,F.f22,F.f4,F.f5,F.f23⟩
noncomputable def nzM (K:List Ms) (v:Ms→Int):List Ms:=K.filter fun x=>!(v x == 0)
noncomputable def cntF (K:List Ms) (x:Ms):Int:=(K.filter fun s=>inB (nm s) x).length
noncomputable def againF (unit:Str) (K:List Ms):List Str:=ls.map fun x=>Txt.mul unit (cntF K x)
section
variable {c:Cx} {n:Nat} {ad:Nat→Addr} {C Na:Addr} {mN:Str→Option Value} {ai ac:Addr} (a0 a1 a2 a3 a4 a5 a6 a7 a8 a9 a10 a11:Option Sl)
set_option maxRecDepth 100000 in
theorem lw9 (B:Base c) (G:LawGl c) (F:LawFns c ad) (b0:Str) (bl:List Str) (sp:List Int) (hb:bl.length≤10) (hs:sp.length≤10) (hv:∀ s ∈ sp,s.natAbs≤1000) :
    Ex c (n + 3) (P1 25).scope (lwS 9) (lwR a0 a1 a2 (vsl (intsD sp)) a4 a5 a6 a7 a8 (vsl (strsD (b0 :: bl))) a10 none none none none none) .next (lwR a0 a1 a2 (vsl (intsD sp)) a4 a5 a6 a7 a8 (vsl (strsD (b0 :: bl))) a10 (vsl (.dict (dcM ls fun x=>bkD (bookF (bl.zip sp) x)))) none none none none):=
  ex_assign (ev_call_nm B (by rfl) F.f20.glob F.f20.callee (evs_cons (ev_nm (i:=9) (k:=.local) (by rfl) (by rfl)) (evs_cons (ev_nm (i:=3) (k:=.local) (by rfl) (by rfl)) evs_nil)) (s_books (n:=n) B G.zip G.isi G.tuple G.int G.len F.f20 F.f3 F.f4 b0 bl sp hb hs hv)) (asgS_nm (i:=11) (k:=.cell) (x:=Str.ofString "books") (by rfl)) (hs:=swaps_eq (by decide +kernel)) (hw:=swap_eq (by decide +kernel))
set_option maxRecDepth 100000 in
theorem lw10 (B:Base c) (G:LawGl c) (F:LawFns c ad) (b0:Str) (bl:List Str) (sp:List Int) (hb:bl.length≤10) (hs:sp.length≤10) (hp:PzOk (bl.zip sp)) (he:eqvF 6 (.dict (dcM ls fun x=>bkD (bookF (bl.zip sp) x))) (.dict (dcM ls (dueB (bl.zip sp)))) = some true) :
    Ex c (n + 1) (P1 25).scope (lwS 10) (lwR a0 a1 a2 (vsl (intsD sp)) a4 a5 a6 a7 a8 a9 (vsl (strsD (b0 :: bl))) (vsl (.dict (dcM ls fun x=>bkD (bookF (bl.zip sp) x)))) none none none none) .next (lwR a0 a1 a2 (vsl (intsD sp)) a4 a5 a6 a7 a8 a9 (vsl (strsD (b0 :: bl))) (vsl (.dict (dcM ls fun x=>bkD (bookF (bl.zip sp) x)))) none none none none):=
  ex_if_f (evT_cmp (ev_nm (i:=11) (k:=.cell) (by rfl) (by rfl)) (ev_call_nm B (by rfl) F.f21.glob F.f21.callee (evs_cons (ev_nm (i:=10) (k:=.local) (by rfl) (by rfl)) (evs_cons (ev_nm (i:=3) (k:=.local) (by rfl) (by rfl)) evs_nil)) (s_duel (n:=n) B G.zip G.sum G.len F.f21 b0 bl sp hb hs hp)) (cm_neB 6 (b:=true) he rfl)) exs_nil
set_option maxRecDepth 100000 in
theorem lw11 (B:Base c) (G:LawGl c) (F:LawFns c ad) (T:TCls c C Na mN ai ac) (cs:List Int) (hcl:cs.length = 5) (pz:PZ) (ks:Ms→List Ms) (d:Ms→Ms→Int) (ht:∀ x ∈ ls,(bookF pz x).t = (ks x).map fun y=>(nm y,d x y)) (K:List Ms) (v:Ms→Int) (R:Rnd (wayF (cs.getD 4 0)) [3,2,1] ls ks d [] (K.map fun x=>(x,v x))) :
    Ex c (n + 4) (P1 25).scope (lwS 11) (lwR a0 (vsl (intsD cs)) a2 a3 a4 a5 a6 a7 a8 a9 a10 (vsl (.dict (dcM ls fun x=>bkD (bookF pz x)))) none none none none) .next (lwR a0 (vsl (intsD cs)) a2 a3 a4 a5 a6 a7 a8 a9 a10 (vsl (.dict (dcM ls fun x=>bkD (bookF pz x)))) (vsl (tabM K v)) none none none):=by
  have m2:=fmod_at (cs.getD 4 0) 2 (by decide)
  have hw:wayF (cs.getD 4 0) = 1∨wayF (cs.getD 4 0) = -1:=by delta wayF;lia
  have hj:=s_joined (joC B G F T) (n:=n) F.f24 hw R
  have e:fnT (K.map fun x=>(x,v x)) = K.map fun x=>(nm x,v x):=List.map_map ..
  rw [e,← tab_int] at hj
  have hll:=c_listS (c:=c) (n:=n + 4) (x:=Str.ofString "abcde") (Nat.le_of_ble_eq_true rfl)
  rw [ls_abc] at hll
  refine ex_assign (ev_call_nm B (by rfl) F.f24.glob F.f24.callee (evs_cons (EvO.ev (evo_dict1 B (d:=farD ls ks d) [none,none,some 11] [.local,.local,.cell] (by decide +kernel) (evi_val (ev_nm (i:=11) (k:=.cell) (by rfl) (by rfl)) iter_dict) ?_)) (evs_cons (ev_call_nm B (by rfl) G.list callee_type (evs_cons ev_str evs_nil) hll)
    (evs_cons (ev_bin ev_int (ev_bin (ev_bin (ev_sub (ev_nm (i:=1) (k:=.local) (by rfl) (by rfl)) ev_int (sub_list (d:=.int (cs.getD 4 0)) 4 (by rw [List.length_map,hcl];rfl) (getD_at (by rw [hcl];decide)) (by rw [List.length_map,hcl];decide))) ev_int (op_modI (by decide))) ev_int (op_mulI (IntMulOk.of_left (intBits_small (by lia))))) op_subI) evs_nil))) hj) (asgS_nm (i:=12) (k:=.cell) (x:=Str.ofString "found") (by rfl)) (hs:=swaps_eq (by decide +kernel)) (hw:=swap_eq (by decide +kernel))
  rw [dm_keys]
  refine runs_dm1 _ ls_nd (Nat.le_of_ble_eq_true rfl) fun x hx=>⟨_,asg_nm (by rfl) ⟨_,_,rfl,by decide⟩,Lss.set (by rfl),ev_nm (by rfl) (by rfl),?_⟩
  rw [tab_int,← ht x hx]
  refine ev_sub (ev_sub (ev_nm (by rfl) (by rfl)) (ev_nm (by rfl) (by rfl)) (sub_dict (dm_find ls_nd hx))) ev_int ?_
  exact sub_tuple (d:=.dict (intE (bookF pz x).t)) 4 (by rfl) (by rfl) (Nat.le_of_ble_eq_true rfl)
set_option maxRecDepth 100000 in
theorem lw12 (B:Base c) (K:List Ms) (v:Ms→Int) (hK:K.Nodup) (hl:K.length≤100) :
    Ex c n (P1 25).scope (lwS 12) (lwR a0 a1 a2 a3 a4 a5 a6 a7 a8 a9 a10 a11 (vsl (tabM K v)) none none none) .next (lwR a0 a1 a2 a3 a4 a5 a6 a7 a8 a9 a10 a11 (vsl (tabM K v)) (vsl (tabM (nzM K v) v)) none none):=by
  refine ex_assign (EvO.ev (evo_dict1 B (d:=tabM (nzM K v) v) [none,none,some 12] [.local,.local,.cell] (by decide +kernel) (evi_val (ev_nm (i:=12) (k:=.cell) (by rfl) (by rfl)) iter_dict) ?_)) (asgS_nm (i:=13) (k:=.cell) (x:=Str.ofString "lengths") (by rfl)) (hs:=swaps_eq (by decide +kernel)) (hw:=swap_eq (by decide +kernel))
  rw [dm_keys]
  exact runs_dm (fun x=>!(v x == 0)) _ hK (big (by lia)) fun x hx=>⟨_,asg_nm (by rfl) ⟨_,_,rfl,by decide⟩,Lss.set (by rfl),ifs_one (evT_cmp (ev_sub (ev_nm (by rfl) (by rfl)) (ev_nm (by rfl) (by rfl)) (sub_dict (dm_find hK hx))) ev_int (cm_neB 1 rfl rfl)),fun _=>⟨ev_nm (by rfl) (by rfl),ev_sub (ev_nm (by rfl) (by rfl)) (ev_nm (by rfl) (by rfl)) (sub_dict (dm_find hK hx))⟩⟩
set_option maxRecDepth 100000 in
theorem lw13 (cs:List Int) (hcl:cs.length = 5) (a12 a13:Option Sl) :
    Ex c n (P1 25).scope (lwS 13) (lwR a0 (vsl (intsD cs)) a2 a3 a4 a5 a6 a7 a8 a9 a10 a11 a12 a13 none none) .next (lwR a0 (vsl (intsD cs)) a2 a3 a4 a5 a6 a7 a8 a9 a10 a11 a12 a13 (vsl (.str (unitF (cs.getD 4 0)))) none):=
  ex_assign (ev_sub (ev_list (ds:=unitsL.map .str) (evs_cons ev_str (evs_cons ev_str (evs_cons ev_str (evs_cons ev_str evs_nil))))) (ev_dm (ev_sub (ev_nm (i:=1) (k:=.local) (by rfl) (by rfl)) ev_int (sub_list (d:=.int (cs.getD 4 0)) 4 (by rw [List.length_map,hcl];rfl) (getD_at (by rw [hcl];decide)) (by rw [List.length_map,hcl];decide))) (by decide) (by decide) (by decide)) (sub_strs _ 4 (fmod_at _ 4 (by decide)) rfl (by decide))) (asgS_nm (i:=14) (k:=.cell) (x:=Str.ofString "unit") (by rfl)) (hs:=swaps_eq (by decide +kernel)) (hw:=swap_eq (by decide +kernel))
set_option maxRecDepth 100000 in
theorem lw14 (B:Base c) (G:LawGl c) (a12:Option Sl) (K:List Ms) (v:Ms→Int) (unit:Str) (hu:unit.length≤100) (hl:K.length≤100) :
    Ex c n (P1 25).scope (lwS 14) (lwR a0 a1 a2 a3 a4 a5 a6 a7 a8 a9 a10 a11 a12 (vsl (tabM K v)) (vsl (.str unit)) none) .next (lwR a0 a1 a2 a3 a4 a5 a6 a7 a8 a9 a10 a11 a12 (vsl (tabM K v)) (vsl (.str unit)) (some (.own (strsD (againF unit K))))):=by
  refine ex_assignC 15 rfl (evc_list1 (d:=strsD (againF unit K)) [none,none,none,some 13,some 14] [.local,.cell,.globalImplicit,.cell,.cell] (by decide +kernel) (evi_val ev_str iter_str) ?_)
  delta strsD againF
  rw [ls_abc,List.map_map]
  refine runs_map (emb:=fun m=>D.str (nm m)) _ (Nat.le_of_ble_eq_true rfl) fun x _=>⟨_,asg_nm (by rfl) ⟨_,_,rfl,by decide⟩,Lss.set (by rfl),?_⟩
  have hfl:(K.filter fun s=>inB (nm s) x).length≤100:=Nat.le_trans (List.length_filter_le ..) hl
  have hlen:=c_lenL (c:=c) (n:=n) (ds:=(K.filter fun s=>inB (nm s) x).map fun s=>.str (nm s)) (by rw [List.length_map];lia)
  rw [List.length_map] at hlen
  refine ev_bin (ev_nm (by rfl) (by rfl)) (ev_call_nm B (by rfl) G.len callee_builtin (evs_cons (EvO.ev (evo_list1 [none,none,some 1] [.local,.local,.cell] (by decide +kernel) (evi_val (ev_nm (by rfl) (by rfl)) iter_dict) ?_)) evs_nil) hlen) (op_mulS (mulOkS (by lia) (by lia) (by lia)))
  rw [dm_keys]
  exact runs_filter (emb:=fun m=>D.str (nm m)) (fun s=>inB (nm s) x) _ (big (by lia)) fun s _=>⟨_,asg_nm (by rfl) ⟨_,_,rfl,by decide⟩,Lss.set (by rfl),ifs_one (evT_cmp (ev_nm (by rfl) (by rfl)) (ev_nm (by rfl) (by rfl)) cm_inS),fun _=>ev_nm (by rfl) (by rfl)⟩
end
end Mine
end
section
open PySem PySem.W PyProof.Rows
namespace Mine
theorem ints_same (l:List Int):eqvF 2 (intsD l) (intsD l) = some true:=(eqvF_list rfl).trans (eqvL_same fun x hx=>by obtain ⟨y,_,rfl⟩:=List.mem_map.mp hx;exact eqvF_ii rfl)
structure LawOk (cs:List Int) (sh:List Ms) (ks:Ms→List Ms) (d:Ms→Ms→Int) (K:List Ms) (v:Ms→Int):Prop where
  he:relF lessC ((leadsF cs).map colsF) [] = nanF (leadsF cs)
  bl:blocksF (endsF (nanF (leadsF cs))) = abc :: sh.map nm
  ml:mailF (tokensF (endsF (nanF (leadsF cs))) (dressF cs)) = abc :: sh.map nm
  hT:((tokensF (endsF (nanF (leadsF cs))) (dressF cs)).flatMap (·.cps.toList)).length≤900
  hn:(tokensF (endsF (nanF (leadsF cs))) (dressF cs)).length≤100
  ho:(openedF (tokensF (endsF (nanF (leadsF cs))) (dressF cs))).length≤5
  sl:sh.length≤10
  bk:eqvF 6 (.dict (dcM ls fun x=>bkD (bookF ((sh.map nm).zip (spansF cs)) x))) (.dict (dcM ls (dueB ((sh.map nm).zip (spansF cs))))) = some true
  ht:∀ x ∈ ls,(bookF ((sh.map nm).zip (spansF cs)) x).t = (ks x).map fun y=>(nm y,d x y)
  R:Rnd (wayF (cs.getD 4 0)) [3,2,1] ls ks d [] (K.map fun x=>(x,v x))
  nK:K.Nodup
  lK:K.length≤100
  ag:endsF (nanF (againF (unitF (cs.getD 4 0)) (nzM K v))) = endsF (nanF (leadsF cs))
  al:∀ x ∈ againF (unitF (cs.getD 4 0)) (nzM K v),x.length≤190
  lg:eqvF 2 (tabM (nzM K v) v) (.dict (intE ((sh.map nm).zip (spansF cs)))) = some true
  pn:(((sh.map nm).zip (spansF cs)).map (·.1)).Nodup
section
variable {c:Cx} {n:Nat} {ad:Nat→Addr} {C Na:Addr} {mN:Str→Option Value} {ai ac:Addr} {C' Na':Addr} {mN':Str→Option Value} {ai' al' ad' ae':Addr}
set_option maxRecDepth 100000 in
theorem lw15 (B:Base c) (G:LawGl c) (F:LawFns c ad) (W:WCls c C' Na' mN' ai' al' ad' ae') (a0 a1 a2 a4 a5 a6 a8 a9 a11 a12 a14:Option Sl) (sp:List Int) (Wl:List (List Bool)) (b0:Str) (bl again:List Str) (K:List Ms) (v:Ms→Int) (hal:again.length≤10) (hax:∀ x ∈ again,x.length≤190) (hW:Wl.length≤100) (hr:∀ r ∈ Wl,r.length≤100)
    (ha:endsF (nanF again) = endsF Wl) (hb:bl.length≤10) (hn:((bl.zip sp).map (·.1)).Nodup) (hl:eqvF 2 (tabM K v) (.dict (intE (bl.zip sp))) = some true) :
    Ex c (n + 4) (P1 25).scope (lwS 15) (lwR a0 a1 a2 (vsl (intsD sp)) a4 a5 a6 (vsl (boolsD Wl)) a8 a9 (vsl (strsD (b0 :: bl))) a11 a12 (vsl (tabM K v)) a14 (vsl (strsD again))) (.ret (.bool true)) (lwR a0 a1 a2 (vsl (intsD sp)) a4 a5 a6 (vsl (boolsD Wl)) a8 a9 (vsl (strsD (b0 :: bl))) a11 a12 (vsl (tabM K v)) a14 (vsl (strsD again))):=by
  obtain ⟨h1,h2⟩:=nan_len (k:=100) again (Nat.le_trans hal (by decide))
  have hza:(bl.zip sp).length≤10:=by rw [List.length_zip];exact Nat.le_trans (Nat.min_le_left ..) hb
  refine ex_return (ev_and2 (a:=true) (b:=true) (ev_cmp (ev_call_nm B (by rfl) F.f17.glob F.f17.callee (evs_cons (ev_call_nm B (by rfl) F.f16.glob F.f16.callee (evs_cons (ev_nm (i:=15) (k:=.local) (by rfl) (by rfl)) evs_nil) (s_nanny (n:=n + 1) B G.len G.tuple G.max G.range W F.f16 again (Nat.le_trans hal (by decide)) hax)) evs_nil) (s_ends (n:=n + 3) B G.enum F.f17 _ h1 h2))
    (ev_call_nm B (by rfl) F.f17.glob F.f17.callee (evs_cons (ev_nm (i:=7) (k:=.local) (by rfl) (by rfl)) evs_nil) (s_ends (n:=n + 3) B G.enum F.f17 _ hW hr)) (cm_eqB 2 (b:=true) (by rw [ha];exact ints_same _) rfl)) fun _=>
    ev_cmp (ev_nm (i:=13) (k:=.cell) (by rfl) (by rfl)) (EvO.ev (evo_dict1 B (d:=.dict (intE (bl.zip sp))) [none,none,none] [.local,.local,.local] (by decide +kernel) (evi_zip_nm B (by rfl) G.zip (evs_cons (ev_slice (ev_nm (i:=10) (k:=.local) (by rfl) (by rfl)) (evP_some ev_int) evP_none (slice_list (big (by rw [List.length_map,List.length_cons];lia)))) (evs_cons (ev_nm (i:=3) (k:=.local) (by rfl) (by rfl)) evs_nil)) src_list src_list) ?_)) (cm_eqB 2 (b:=true) hl rfl))
  rw [cutL_map,cut1,zipD_map]
  have e:intE (bl.zip sp) = (bl.zip sp).foldl (fun es p=>match (some (p.1,D.int p.2):Option (Str × D)) with | some q=>storedD es q.1 q.2 | none=>es) []:=by
    have:=fold_stored (fun p:Str × Int=>(p.1,D.int p.2)) (bl.zip sp) [] (by exact hn)
    simp only
    rw [this];rfl
  rw [e]
  exact runs_dict (emb:=zpD) (l:=bl.zip sp) (es:=[]) (fun p=>some (p.1,D.int p.2)) (big (by rw [List.length_nil];lia)) fun p _=>⟨_,asg_tuple (asgs_cons (asg_nm (by rfl) ⟨_,_,rfl,by decide⟩) (asgs_cons (asg_nm (by rfl) ⟨_,_,rfl,by decide⟩) asgs_nil)),(Lss.set (by rfl)).trans (Lss.set (by rfl)),ifs_nil,ev_nm (by rfl) (by rfl),ev_nm (by rfl) (by rfl)⟩
set_option maxRecDepth 100000 in
set_option maxHeartbeats 4000000 in
theorem s_law (B:Base c) (G:LawGl c) (F:LawFns c ad) (T:TCls c C Na mN ai ac) (W:WCls c C' Na' mN' ai' al' ad' ae') (ns:List Int) (hn:ns.length≤63) {sh:List Ms} {ks:Ms→List Ms} {d:Ms→Ms→Int} {K:List Ms} {v:Ms→Int} (H:LawOk (cellsF ns told1) sh ks d K v) :
    CallV c (n + 8) (.ref (ad 25)) [intsD ns] (.bool true):=by
  have hcl:(cellsF ns told1).length = 5:=by delta cellsF;rw [List.length_map,enumL_len];rfl
  have h0:=lw0 (n:=n + 6) B G F ns hn
  generalize cellsF ns told1 = cs at H hcl h0
  have ht4:(cs.take 4).length≤4:=List.length_take_le ..
  have hll:(leadsF cs).length≤5:=by delta leadsF;rw [List.length_cons,List.length_map];lia
  have hlx:∀ x ∈ leadsF cs,x.length≤190:=fun x hx=>by
    rcases List.mem_cons.mp hx with e | h
    · rw [e];decide +kernel
    · obtain ⟨y,_,rfl⟩:=List.mem_map.mp h
      exact Nat.le_trans (lead_len y) (by decide)
  have hdl:(dressF cs).length≤5:=by delta dressF;rw [List.length_cons,List.length_map];lia
  have hdx:∀ x ∈ dressF cs,x.length≤100:=fun x hx=>by
    have pl:∀ x k,(pcAt x k).length≤100:=fun x k=>len_getD (by decide +kernel) _
    rcases List.mem_cons.mp hx with e | h
    · rw [e];exact pl _ _
    · obtain ⟨y,_,rfl⟩:=List.mem_map.mp h;exact pl _ _
  have hsl:(spansF cs).length≤10:=by delta spansF;rw [List.length_map];lia
  have hsv:∀ s ∈ spansF cs,0≤s∧s≤1000:=fun s hs=>by
    obtain ⟨y,_,rfl⟩:=List.mem_map.mp hs
    have:=fmod_at (y.fdiv 54) 900 (by decide)
    delta spanF dm;lia
  obtain ⟨w1,w2⟩:=nan_len (leadsF cs) hll
  obtain ⟨he,hbl,hml,hT,hn',ho,sl,bk,ht,R,nK,lK,ag,al,lg,pn⟩:=H
  have h5:=fun a2 a3 a5 a6=>lw5 (n:=n + 4) (vsl (intsD ns)) (vsl (intsD cs)) a2 a3 a5 B G F W a6 (leadsF cs) (Nat.le_trans hll (by decide)) hlx he
  generalize hWl:nanF (leadsF cs) = Wl at *
  have w1':Wl.length≤10:=Nat.le_trans w1 (by decide)
  have w2':∀ r ∈ Wl,r.length≤10:=fun r hr=>Nat.le_trans (w2 r hr) (by decide)
  have w2'':∀ r ∈ Wl,r.length≤100:=fun r hr=>Nat.le_trans (w2 r hr) (by decide)
  have h6:=fun a2 a3 a4 a5 a8=>lw6 (n:=n) (vsl (intsD ns)) (vsl (intsD cs)) a2 a3 a5 B G F a4 a8 Wl (dressF cs) w1' w2'' hdl hdx hT hn' ho
  rw [hml] at h6
  have h7:=fun a2 a3 a4 a5 a6 a7 a9=>lw7 (n:=n + 6) (vsl (intsD ns)) (vsl (intsD cs)) a2 a3 a5 B G F a4 a6 a7 a9 Wl w1' w2''
  rw [hbl] at h7
  have hbm:(sh.map nm).length≤10:=by rw [List.length_map];exact sl
  have hpz:PzOk ((sh.map nm).zip (spansF cs)):=⟨by rw [List.length_zip];exact Nat.le_trans (Nat.min_le_left ..) hbm,fun p hp=>hsv _ (List.of_mem_zip hp).2⟩
  have hlz:(nzM K v).length≤100:=Nat.le_trans (List.length_filter_le ..) lK
  have hul:(unitF (cs.getD 4 0)).length≤100:=len_getD (by decide +kernel) _
  exact call_funE B (F.f25.ok1 (.nm (by rfl) (.inl rfl) (by rfl) .nil):FunOk c (ad 25) (P1 25).scope (P1 25).body [intsD ns] (lwR (vsl (intsD ns)) none none none none none none none none none none none none none none none)) ⟨_,exs_cons h0 (exs_cons (lw1 (n:=n + 7) hcl _) (exs_cons (lw2 (n:=n + 7) hcl _ _) (exs_cons (lw3 (n:=n + 7) _ _ _ _ _) (exs_cons (lw4 (n:=n + 7) hcl _ _ _ _)
    (exs_cons (h5 _ _ _ _) (exs_cons (h6 _ _ _ _ _) (exs_cons (h7 _ _ _ _ _ _ _) (exs_freeze 10 (d:=strsD (abc :: sh.map nm)) rfl (by rfl) (exs_cons (lw8 (n:=n + 7) _ _ _ _ _ _ _ Wl (abc :: sh.map nm) w1' w2') (exs_cons (lw9 (n:=n + 4) _ _ _ _ _ _ _ _ _ B G F abc (sh.map nm) (spansF cs) hbm hsl fun s hs=>by have:=hsv s hs;lia) (exs_cons (lw10 (n:=n + 6) _ _ _ _ _ _ _ _ _ B G F abc (sh.map nm) (spansF cs) hbm hsl hpz bk)
    (exs_cons (lw11 (n:=n + 3) _ _ _ _ _ _ _ _ _ _ B G F T cs hcl _ ks d ht K v R) (exs_cons (lw12 (n:=n + 7) _ _ _ _ _ _ _ _ _ _ _ _ B K v nK lK) (exs_cons (lw13 (n:=n + 7) _ _ _ _ _ _ _ _ _ _ _ cs hcl _ _) (exs_cons (lw14 (n:=n + 7) _ _ _ _ _ _ _ _ _ _ _ _ B G _ (nzM K v) v (unitF (cs.getD 4 0)) hul hlz)
    (exs_freeze 15 (d:=strsD (againF (unitF (cs.getD 4 0)) (nzM K v))) rfl (by rfl) (exs_stop (lw15 (n:=n + 3) B G F W _ _ _ _ _ _ _ _ _ _ _ (spansF cs) Wl abc (sh.map nm) (againF (unitF (cs.getD 4 0)) (nzM K v)) (nzM K v) v (by delta againF;rw [List.length_map];decide) al (Nat.le_trans w1 (by decide)) w2'' ag hbm pn lg) (by simp))))))))))))))))))⟩
end
end Mine
end
section
open PySem PySem.W PyProof.Rows
namespace Mine
noncomputable abbrev Fm:=Nat→Int
noncomputable def ev (s f:Fm):Int:=f 0 * s 0 + f 1 * s 1 + f 2 * s 2 + f 3 * s 3
noncomputable abbrev Ds:=Nat→Ms→Ms→Int
noncomputable def dV (s:Fm) (D:Ds) (x y:Ms):Int:=ev s fun i=>D i x y
noncomputable def four:List Nat:=[0,1,2,3]
structure SOk (s:Fm):Prop where
  l:∀ i,1≤s i
  u:∀ i,s i≤900
theorem ev_add (s f g:Fm):ev s (fun i=>f i + g i) = ev s f + ev s g:=by delta ev;grind
theorem ev_sub' (s f g:Fm):ev s (fun i=>f i - g i) = ev s f - ev s g:=by delta ev;grind
theorem ev_mul (s f:Fm) (k:Int):ev s (fun i=>k * f i) = k * ev s f:=by delta ev;grind
theorem ev_zero (s:Fm):ev s (fun _=>0) = 0:=by delta ev;lia
theorem ev_sum {α:Type} (s:Fm) (F:α→Fm):∀ l:List α,(l.map fun y=>ev s (F y)).sum = ev s fun i=>(l.map fun y=>F y i).sum
  | []=>(ev_zero s).symm
  | y :: l=>by
    rw [List.map_cons,List.sum_cons,ev_sum s F l,← ev_add];rfl
theorem ev_nn {s:Fm} (h:SOk s) {f:Fm} (hf:∀ i ∈ four,0≤f i):0≤ev s f:=by
  have g:∀ i ∈ four,0≤f i * s i:=fun i hi=>Int.mul_nonneg (hf i hi) (Int.le_trans (by decide) (h.l i))
  have:=g 0 (by decide);have:=g 1 (by decide);have:=g 2 (by decide);have:=g 3 (by decide)
  delta ev;lia
theorem ev_le {s:Fm} (h:SOk s) {f g:Fm} (hf:∀ i ∈ four,f i≤g i):ev s f≤ev s g:=by
  have:=ev_nn h (f:=fun i=>g i - f i) fun i hi=>Int.sub_nonneg.mpr (hf i hi)
  rw [ev_sub'] at this;lia
theorem ev_pos {s:Fm} (h:SOk s) {f:Fm} (hf:∀ i ∈ four,0≤f i) {j:Nat} (hj:j ∈ four) (hp:0 < f j):0 < ev s f:=by
  have h2:0≤ev s fun i=>f i - if i = j then 1 else 0:=ev_nn h fun i hi=>by
    by_cases q:i = j
    · rw [if_pos q,q];lia
    · rw [if_neg q];have:=hf i hi;lia
  have h3:ev s (fun i=>if i = j then 1 else 0) = s j:=by
    have e:∀ j ∈ four,ev s (fun i=>if i = j then 1 else 0) = s j:=by
      intro j hj
      simp only [four,List.mem_cons,List.not_mem_nil,or_false] at hj
      rcases hj with rfl | rfl | rfl | rfl<;>(delta ev;simp)
    exact e j hj
  rw [ev_sub',h3] at h2
  have:=h.l j;lia
theorem ev_up {s:Fm} (h:SOk s) {f:Fm} {k:Int} (hf:∀ i ∈ four,f i≤k):ev s f≤k * (s 0 + s 1 + s 2 + s 3):=by
  have:=ev_le h (g:=fun _=>k) hf
  have e:ev s (fun _=>k) = k * (s 0 + s 1 + s 2 + s 3):=by delta ev;grind
  lia
end Mine
end
section
open PySem PySem.W PyProof.Rows
namespace Mine
noncomputable def sumV (D:Ds) (live:List Ms) (x:Ms):Fm:=fun i=>((live.filter fun y=>!(y == x)).map fun y=>D i x y).sum
noncomputable def rowV (D:Ds) (live:List Ms) (p:Ms × Ms):Fm:=fun i=>((live.length:Int) - 2) * D i p.1 p.2 - sumV D live p.1 i - sumV D live p.2 i
noncomputable def gapV (D:Ds) (live:List Ms) (x y:Ms):Fm:=fun i=>sumV D live x i - sumV D live y i
noncomputable def ownV (D:Ds) (live:List Ms) (m:Int) (x y:Ms):Fm:=fun i=>(D i x y + gapV D live x y i / m) / 2
noncomputable def nearV (D:Ds) (x y z:Ms):Fm:=fun i=>(D i x z + D i y z - D i x y) / 2
noncomputable def D1 (D:Ds) (x y:Ms):Ds:=fun i z w=>if z = x ||| y then nearV D x y w i else if w = x ||| y then nearV D x y z i else D i z w
noncomputable def beats (way:Int) (D:Ds) (live:List Ms) (P:List (Ms × Ms)) (k j:Nat):Bool:=
  let f:=rowV D live (P.getD j (0,0))
  let g:=rowV D live (P.getD k (0,0))
  (four.all fun i=>decide (f i≤g i)) && ((four.any fun i=>decide (f i < g i)) || decide (way * j < way * k))
noncomputable def lvB (live:List Ms) (D:Ds):Bool:=decide live.Nodup && decide (2≤live.length) && decide (live.length≤5) && live.all fun x=>live.all fun y=>y == x || four.all fun i=>decide (0≤D i x y) && decide (D i x y≤9)
noncomputable def turnB (m:Int) (live:List Ms) (D:Ds) (x y:Ms):Bool:=
  four.all (fun i=>decide (gapV D live x y i % m = 0) && decide ((D i x y + gapV D live x y i / m) % 2 = 0) && (restF live x y).all fun z=>decide ((D i x z + D i y z - D i x y) % 2 = 0)) && decide (x &&& y = 0) && decide ((x ||| y) ∉ restF live x y)
noncomputable abbrev FndV:=List (Ms × Fm)
noncomputable def unitB (sh:List Ms) (m:Ms) (f:Fm) (j:Nat):Bool:=decide (sh[j]? = some m) && four.all fun i=>decide (f i = if i = j then 1 else 0)
noncomputable def leafB (sh:List Ms) (fl:FndV):Bool:=
  decide (fl.map (·.1)).Nodup && decide (fl.length≤100) && (fl.all fun p=>(four.all fun i=>decide (p.2 i = 0)) || four.any (unitB sh p.1 p.2)) && decide (((fl.filter fun p=>four.any (unitB sh p.1 p.2)).map (·.1)).Perm sh)
noncomputable def njOk (way:Int) (sh:List Ms):List Int→List Ms→Ds→FndV→Bool
  | [],live,D,fl=>lvB live D && match live with
    | [a,b]=>leafB sh (fl ++ [(sideM a,fun i=>D i a b)])
    | _=>false
  | m :: ms,live,D,fl=>lvB live D && decide (0 < m) && decide (m≤3) && (List.range (pairsF live).length).all fun k=>
    ((List.range (pairsF live).length).any (beats way D live (pairsF live) k)) ||
      let x:=((pairsF live).getD k (0,0)).1
      let y:=((pairsF live).getD k (0,0)).2
      turnB m live D x y && njOk way sh ms (restF live x y ++ [x ||| y]) (D1 D x y) (fl ++ [(sideM x,ownV D live m x y),(sideM y,fun i=>D i x y - ownV D live m x y i)])
noncomputable def inM (b x:Ms):Bool:=b &&& x != 0
noncomputable def D0 (sh:List Ms):Ds:=fun i x y=>if inM (sh.getD i 0) x != inM (sh.getD i 0) y then 1 else 0
noncomputable def shapesL:List (List Ms):=[[2,4,8,16],[2,4,24,16],[2,12,8,16],[2,28,8,16],[2,28,24,16],[6,4,8,16],[6,4,24,16],[14,4,8,16],[14,12,8,16],[30,4,8,16],[30,4,24,16],[30,12,8,16],[30,28,8,16],[30,28,24,16]]
set_option maxRecDepth 100000
theorem nj_all:(shapesL.all fun sh=>njOk 1 sh [3,2,1] ls (D0 sh) [] && njOk (-1) sh [3,2,1] ls (D0 sh) []) = true:=by decide +kernel
end Mine
end
section
open PySem PySem.W PyProof.Rows
namespace Mine
noncomputable def evF (s:Fm) (l:FndV):Fnd:=l.map fun p=>(p.1,ev s p.2)
theorem evF_app (s:Fm) (l m:FndV):evF s (l ++ m) = evF s l ++ evF s m:=List.map_append
theorem evF_keys (s:Fm) (l:FndV):(evF s l).map (·.1) = l.map (·.1):=List.map_map ..
section
variable {s:Fm} {D:Ds} {live:List Ms} {ks:Ms→List Ms} {way:Int}
theorem lv_ok (hs:SOk s) (h:lvB live D = true) (hk:∀ x ∈ live,(ks x).Perm (live.filter fun y=>!(y == x))):LvOk live ks (dV s D):=by
  obtain ⟨h,h4⟩:=band h
  obtain ⟨h,h3⟩:=band h
  obtain ⟨h1,h2⟩:=band h
  refine ⟨of_decide_eq_true h1,of_decide_eq_true h2,of_decide_eq_true h3,hk,fun x hx y hy hne=>?_⟩
  have h5:=List.all_eq_true.mp (List.all_eq_true.mp h4 x hx) y hy
  rw [beq_eq_false_iff_ne.mpr hne,Bool.false_or] at h5
  have h6:∀ i ∈ four,0≤D i x y∧D i x y≤9:=fun i hi=>by
    obtain ⟨a,b⟩:=band (List.all_eq_true.mp h5 i hi)
    exact ⟨of_decide_eq_true a,of_decide_eq_true b⟩
  have hu:=ev_up hs (f:=fun i=>D i x y) (k:=9) fun i hi=>(h6 i hi).2
  have:=hs.u 0;have:=hs.u 1;have:=hs.u 2;have:=hs.u 3
  exact ⟨ev_nn hs fun i hi=>(h6 i hi).1,by delta dV;lia⟩
theorem sum_ev (x:Ms):sumF live (dV s D) x = ev s (sumV D live x):=ev_sum s (fun y i=>D i x y) _
theorem row_ev (i:Int) (p:Ms × Ms):rowF live (dV s D) (i,p) = (ev s (rowV D live p),i):=by
  have e:ev s (rowV D live p) = ((live.length:Int) - 2) * dV s D p.1 p.2 - ev s (sumV D live p.1) - ev s (sumV D live p.2):=by
    delta dV
    rw [← ev_mul,← ev_sub',← ev_sub'];rfl
  rw [e,← sum_ev,← sum_ev];rfl
theorem enumL_idx {α:Type}:∀ {l:List α} {a:Int} {p:Int × α},p ∈ enumL a l→∃ k:Nat,p.1 = a + k∧l[k]? = some p.2:=by
  intro l
  induction l with
  | nil=>intro a p h;exact nomatch h
  | cons x l ih=>
    intro a p h
    rcases List.mem_cons.mp h with rfl | h
    · exact ⟨0,(Int.add_zero a).symm,rfl⟩
    · obtain ⟨k,e,h⟩:=ih h
      exact ⟨k + 1,by rw [e];lia,h⟩
theorem enumL_has {α:Type}:∀ {l:List α} {a:Int} {k:Nat} {x:α},l[k]? = some x→(a + k,x) ∈ enumL a l:=by
  intro l
  induction l with
  | nil=>intro a k x h;exact none_some (List.getElem?_nil) h
  | cons y l ih=>
    intro a k x h
    induction k with
    | zero=>rw [← Option.some.inj h,show a + ((0:Nat):Int) = a from Int.add_zero a];exact List.mem_cons_self
    | succ k _=>
      have:=ih (a:=a + 1) (k:=k) h
      rw [(by lia:a + ((k + 1:Nat):Int) = a + 1 + k)]
      exact List.mem_cons_of_mem _ this
theorem getD_some {α:Type} {l:List α} {k:Nat} {x d:α} (h:l[k]? = some x):l.getD k d = x:=by rw [List.getD_eq_getElem?_getD,h];rfl
theorem best_at (hs:SOk s) (hw:way = 1∨way = -1) (h2:2≤live.length):∃ k,k < (pairsF live).length∧(bestF way (rowsF live (dV s D))).2 = k∧(pairsF live)[k]? = some ((pairsF live).getD k (0,0))∧∀ j,j < (pairsF live).length→beats way D live (pairsF live) k j = false:=by
  have h0:rowsF live (dV s D) ≠ []:=by
    obtain ⟨a,b,l,rfl⟩:∃ a b l,live = a :: b :: l:=by
      induction live with
      | nil=>exact absurd h2 (by decide)
      | cons a l ih=>induction l with
        | nil=>exact absurd h2 (Nat.not_succ_le_self 1)
        | cons b l _=>exact ⟨a,b,l,rfl⟩
    exact fun h=>nomatch h
  obtain ⟨hm,hl⟩:=bestF_ok hw h0
  generalize bestF way (rowsF live (dV s D)) = b at hm hl ⊢
  obtain ⟨⟨i,p⟩,hp,rfl⟩:=List.mem_map.mp hm
  obtain ⟨k,e,hk⟩:=enumL_idx hp
  have e:i = k:=e.trans (Int.zero_add _)
  subst e
  have hg:(pairsF live).getD k (0,0) = p:=getD_some hk
  refine ⟨k,(List.getElem?_eq_some_iff.mp hk).1,rfl,by rw [hg];exact hk,fun j hj=>Bool.eq_false_iff.mpr fun hb=>?_⟩
  have hj':(pairsF live)[j]? = some ((pairsF live).getD j (0,0)):=by rw [List.getElem?_eq_getElem hj,List.getD_eq_getElem?_getD,List.getElem?_eq_getElem hj];rfl
  have hr:=hl _ (List.mem_map.mpr ⟨_,enumL_has (a:=0) hj',rfl⟩)
  rw [row_ev,row_ev,Int.zero_add] at hr
  have hb:((four.all fun i=>decide (rowV D live ((pairsF live).getD j (0,0)) i≤rowV D live ((pairsF live).getD k (0,0)) i)) && ((four.any fun i=>decide (rowV D live ((pairsF live).getD j (0,0)) i < rowV D live ((pairsF live).getD k (0,0)) i)) || decide (way * j < way * k))) = true:=hb
  rw [hg] at hb
  obtain ⟨h1,h3⟩:=band hb
  generalize rowV D live ((pairsF live).getD j (0,0)) = f at *
  generalize rowV D live p = g at *
  have hr:ev s g < ev s f∨ev s g = ev s f∧way * k≤way * j:=hr
  have hle:=ev_le hs fun i hi=>of_decide_eq_true (List.all_eq_true.mp h1 i hi)
  rcases Bool.or_eq_true_iff.mp h3 with h3 | h3
  · obtain ⟨i,hi,h3⟩:=List.any_eq_true.mp h3
    have hlt:=ev_pos hs (f:=fun i=>g i - f i) (fun i hi=>Int.sub_nonneg.mpr (of_decide_eq_true (List.all_eq_true.mp h1 i hi))) hi (Int.sub_pos.mpr (of_decide_eq_true h3))
    rw [ev_sub'] at hlt
    lia
  · have h3:=of_decide_eq_true h3
    lia
end
end Mine
end
section
open PySem PySem.W PyProof.Rows
namespace Mine
theorem ev_congr {s f g:Fm} (h:∀ i ∈ four,f i = g i):ev s f = ev s g:=by
  delta ev;rw [h 0 (by decide),h 1 (by decide),h 2 (by decide),h 3 (by decide)]
theorem evF_len (s:Fm) (l:FndV):(evF s l).length = l.length:=List.length_map _
theorem half {a m:Int} (h:a % m = 0):a = m * (a / m):=(Int.mul_ediv_cancel_of_emod_eq_zero h).symm
theorem ksN_ok {rest:List Ms} {new:Ms} (hn:new ∉ rest):∀ x ∈ rest ++ [new],(ksN rest new x).Perm ((rest ++ [new]).filter fun y=>!(y == x)):=fun x hx=>by
  have e1:(rest ++ [new]).filter (fun y=>!(y == x)) = rest.filter (fun y=>!(y == x)) ++ [new].filter fun y=>!(y == x):=List.filter_append ..
  rw [e1]
  by_cases q:x = new
  · have e:ksN rest new x = rest:=if_pos q
    have e2:rest.filter (fun y=>!(y == x)) = rest:=List.filter_eq_self.mpr fun y hy=>by rw [Bool.not_eq_true',beq_eq_false_iff_ne];exact fun e=>hn (q▸e▸hy)
    have e3:[new].filter (fun y=>!(y == x)) = []:=List.filter_cons_of_neg (by rw [q,beq_self_eq_true];decide)
    rw [e,e2,e3,List.append_nil]
  · have e:ksN rest new x = rest.filter (fun y=>!(y == x)) ++ [new]:=if_neg q
    have e3:[new].filter (fun y=>!(y == x)) = [new]:=List.filter_cons_of_pos (by rw [beq_eq_false_iff_ne.mpr fun e=>q e.symm];rfl)
    rw [e,e3]
section
variable {s:Fm} {D:Ds} {live:List Ms} {ks:Ms→List Ms} {way m:Int} {x y:Ms}
theorem turn_ok (hL:LvOk live ks (dV s D)) (m0:0 < m) (m3:m≤3) (hk:∃ k:Nat,(bestF way (rowsF live (dV s D))).2 = k∧(pairsF live)[k]? = some (x,y)) (ht:turnB m live D x y = true) {fl:FndV} (hn:fl.length≤100)
    (hf:((fl ++ [(sideM x,ownV D live m x y),(sideM y,fun i=>D i x y - ownV D live m x y i)]).map (·.1)).Nodup):Turn way m live ks (dV s D) (evF s fl) x y (ev s (ownV D live m x y)) (dV s (D1 D x y)):=by
  obtain ⟨ht,hr⟩:=band ht
  obtain ⟨ht,hz⟩:=band ht
  have hz:=of_decide_eq_true hz
  have hr:=of_decide_eq_true hr
  have h4:∀ i ∈ four,gapV D live x y i % m = 0∧(D i x y + gapV D live x y i / m) % 2 = 0∧∀ z ∈ restF live x y,(D i x z + D i y z - D i x y) % 2 = 0:=fun i hi=>by
    obtain ⟨h,h3⟩:=band (List.all_eq_true.mp ht i hi)
    obtain ⟨h1,h2⟩:=band h
    exact ⟨of_decide_eq_true h1,of_decide_eq_true h2,fun z hz=>of_decide_eq_true (List.all_eq_true.mp h3 z hz)⟩
  have nw:∀ z,z ∈ restF live x y→z ≠ x ||| y:=fun z h e=>hr (e▸h)
  have d1:∀ z,dV s (D1 D x y) (x ||| y) z = ev s (nearV D x y z):=fun z=>ev_congr fun i _=>if_pos rfl
  refine ⟨hL,m0,m3,hk,⟨ev s fun i=>gapV D live x y i / m,?_,?_⟩,fun z h=>⟨?_,?_⟩,fun z hz w hw _=>ev_congr fun i _=>(if_neg (nw z hz)).trans (if_neg (nw w hw)),hz,hr,?_,?_⟩
  · rw [sum_ev,sum_ev,← ev_sub',← ev_mul]
    exact ev_congr fun i hi=>half (h4 i hi).1
  · refine (?_:ev s (fun i=>D i x y) + _ = _)
    rw [← ev_add,← ev_mul]
    exact ev_congr fun i hi=>half (h4 i hi).2.1
  · rw [d1]
    refine (?_:ev s (fun i=>D i x z) + ev s (fun i=>D i y z) - ev s (fun i=>D i x y) = _)
    rw [← ev_add,← ev_sub',← ev_mul]
    exact ev_congr fun i hi=>half ((h4 i hi).2.2 z h)
  · rw [d1]
    exact ev_congr fun i _=>(if_neg (nw z h)).trans (if_pos rfl)
  · rw [List.map_append] at hf ⊢
    rw [evF_keys];exact hf
  · rw [evF_len];exact hn
end
theorem nj_sound {s:Fm} (hs:SOk s) {way:Int} (hw:way = 1∨way = -1) {sh:List Ms}:∀ {ms:List Int} {live:List Ms} {D:Ds} {fl:FndV} {ks:Ms→List Ms},njOk way sh ms live D fl = true→(∀ x ∈ live,(ks x).Perm (live.filter fun y=>!(y == x))) →
    ∃ t:FndV,leafB sh (fl ++ t) = true∧Rnd way ms live ks (dV s D) (evF s fl) (evF s (fl ++ t)):=by
  intro ms
  induction ms with
  | nil=>
    intro live D fl ks h hk
    obtain ⟨h1,h2⟩:=band h
    have hL:=lv_ok hs h1 hk
    obtain ⟨a,b,rfl⟩:∃ a b,live = [a,b]:=by
      cases live with
      | nil=>exact nomatch h2
      | cons a l=>cases l with
        | nil=>exact nomatch h2
        | cons b l=>cases l with
          | nil=>exact ⟨a,b,rfl⟩
          | cons _ _=>exact nomatch h2
    have h2:leafB sh (fl ++ [(sideM a,fun i=>D i a b)]) = true:=h2
    refine ⟨_,h2,?_⟩
    obtain ⟨h3,_⟩:=band h2
    obtain ⟨h3,_⟩:=band h3
    obtain ⟨h3,h4⟩:=band h3
    have h3:=of_decide_eq_true h3
    have h4:=of_decide_eq_true h4
    rw [List.length_append] at h4
    rw [evF_app]
    refine .nil hL ?_ (by rw [evF_len];exact Nat.le_of_add_right_le h4)
    rw [List.map_append] at h3 ⊢
    rw [evF_keys];exact h3
  | cons m ms ih=>
    intro live D fl ks h hk
    obtain ⟨h,h4⟩:=band h
    obtain ⟨h,h3⟩:=band h
    obtain ⟨h1,h2⟩:=band h
    have hL:=lv_ok hs h1 hk
    obtain ⟨k,hkl,e,hp,hb⟩:=best_at hs hw hL.l2
    have h5:=List.all_eq_true.mp h4 k (List.mem_range.mpr hkl)
    have nb:(List.range (pairsF live).length).any (beats way D live (pairsF live) k) = false:=List.any_eq_false.mpr fun j hj=>by rw [hb j (List.mem_range.mp hj)];decide
    rw [nb,Bool.false_or] at h5
    generalize (pairsF live).getD k (0,0) = p at h5 hp
    obtain ⟨x,y⟩:=p
    obtain ⟨h6,h7⟩:=band h5
    obtain ⟨t,h8,h9⟩:=ih (ks:=ksN (restF live x y) (x ||| y)) h7 (ksN_ok (of_decide_eq_true (band h6).2))
    have h7:=(band (band (band h8).1).1).1
    have h10:=of_decide_eq_true (band (band (band h8).1).1).2
    rw [List.append_assoc] at h8 h9
    refine ⟨_,h8,.cons (turn_ok hL (of_decide_eq_true h2) (of_decide_eq_true h3) ⟨k,e,hp⟩ h6 ?_ ?_) ?_⟩
    · rw [List.length_append,List.length_append] at h10;lia
    · have:=of_decide_eq_true h7
      rw [List.map_append] at this
      exact (List.nodup_append.mp this).1
    · rw [evF_app,evF_app] at h9
      rw [evF_app]
      exact (ev_sub' s (fun i=>D i x y) (ownV D live m x y))▸h9
end Mine
end
section
open PySem PySem.W PyProof.Rows
namespace Mine
noncomputable def en (j:Nat):Fm:=fun i=>if i = j then 1 else 0
noncomputable def pzV (sh:List Ms):FndV:=sh.zip [en 0,en 1,en 2,en 3]
noncomputable def nmP (s:Fm) (p:Ms × Fm):Str × Int:=(nm p.1,ev s p.2)
noncomputable def evT (s:Fm) (t:FndV):Tab:=t.map (nmP s)
noncomputable def getV (l:FndV) (k:Ms):Option Fm:=(l.find? fun e=>e.1 = k).map (·.2)
noncomputable def putV (l:FndV) (k:Ms) (v:Fm):FndV:=if l.any (fun e=>e.1 = k) then l.map (fun e=>if e.1 = k then (e.1,v) else e) else l ++ [(k,v)]
noncomputable def addS (m:FndV) (p:Ms × Fm):FndV:=putV m p.1 (match getV m p.1 with | some a=>fun i=>a i + p.2 i | none=>p.2)
noncomputable def addT (t u:FndV):FndV:=u.foldl addS (t.foldl (fun m p=>putV m p.1 p.2) [])
structure BkV where
  a:Int
  b:Int
  c:Fm
  d:Fm
  t:FndV
noncomputable def evB (s:Fm) (b:BkV):Bk:=⟨b.a,b.b,ev s b.c,ev s b.d,evT s b.t⟩
noncomputable def addBV (t u:BkV):BkV:=⟨u.a + t.a,u.b + t.b,fun i=>u.c i + t.c i,fun i=>u.d i + t.d i,addT t.t u.t⟩
noncomputable def othV (b x:Ms):List Ms:=ls.filter fun y=>inM b y != inM b x
noncomputable def newV (x:Ms) (p:Ms × Fm):BkV:=⟨if inM p.1 x then 1 else 0,(othV p.1 x).length,if inM p.1 x then p.2 else fun _=>0,fun i=>(othV p.1 x).length * p.2 i,(othV p.1 x).map fun y=>(y,p.2)⟩
noncomputable def stepV (x:Ms) (b:BkV) (p:Ms × Fm):BkV:=if inM 21 x then addBV b (newV x p) else addBV (newV x p) b
noncomputable def bookV (l:FndV) (x:Ms):BkV:=l.foldl (stepV x) ⟨0,0,fun _=>0,fun _=>0,[]⟩
theorem inB_nm:∀ b:Ms,∀ x ∈ ls,inB (nm b) x = inM b x:=by decide +kernel
theorem ace_nm:ace = nm 21:=by decide +kernel
section
variable (s:Fm)
theorem getV_cons (p:Ms × Fm) (t:FndV) (k:Ms):getV (p :: t) k = if p.1 = k then some p.2 else getV t k:=by
  delta getV
  rw [List.find?_cons]
  by_cases q:p.1 = k<;>simp [q]
theorem getV_ev (t:FndV) (k:Ms):getI (evT s t) (nm k) = (getV t k).map (ev s):=by
  induction t with
  | nil=>rfl
  | cons p t ih=>
    refine (getI_cons ..).trans ?_
    rw [getV_cons]
    by_cases q:p.1 = k
    · rw [if_pos q];exact if_pos (congrArg nm q)
    · rw [if_neg q];exact (if_neg fun e=>q (nm_inj _ _ e)).trans ih
theorem putV_ev (t:FndV) (k:Ms) (v:Fm):putI (evT s t) (nm k) (ev s v) = evT s (putV t k v):=by
  have h1:(evT s t).any (fun e=>e.1 = nm k) = t.any fun e=>e.1 = k:=by
    delta evT
    rw [List.any_map]
    refine congrArg (fun f=>t.any f) (funext fun e=>?_)
    exact decide_eq_decide.mpr ⟨nm_inj _ _,congrArg nm⟩
  delta putI putV
  rw [h1]
  split
  · delta evT
    rw [List.map_map,List.map_map]
    refine List.map_congr_left fun e _=>?_
    by_cases q:e.1 = k
    · have e1:(if e.1 = k then (e.1,v) else e) = (e.1,v):=if_pos q
      refine (?_:_ = nmP s (if e.1 = k then (e.1,v) else e))
      rw [e1];exact if_pos (congrArg nm q)
    · have e1:(if e.1 = k then (e.1,v) else e) = e:=if_neg q
      refine (?_:_ = nmP s (if e.1 = k then (e.1,v) else e))
      rw [e1];exact if_neg fun r=>q (nm_inj _ _ r)
  · delta evT;rw [List.map_append];rfl
theorem fold_ev {f:Tab→Str × Int→Tab} {g:FndV→Ms × Fm→FndV} (h:∀ m p,f (evT s m) (nmP s p) = evT s (g m p)):∀ (u m:FndV),(evT s u).foldl f (evT s m) = evT s (u.foldl g m):=by
  intro u
  induction u with
  | nil=>intro m;rfl
  | cons p u ih=>intro m;refine (?_:(evT s u).foldl f (f (evT s m) (nmP s p)) = _);rw [h,ih];rfl
theorem addS_ev (m:FndV) (p:Ms × Fm):addStep (evT s m) (nmP s p) = evT s (addS m p):=by
  have h:=getV_ev s m p.1
  refine (?_:putI (evT s m) (nm p.1) (match getI (evT s m) (nm p.1) with | some a=>a + ev s p.2 | none=>ev s p.2) = evT s (putV m p.1 (match getV m p.1 with | some a=>fun i=>a i + p.2 i | none=>p.2)))
  rw [h]
  induction q:getV m p.1 with
  | none=>exact putV_ev s m p.1 p.2
  | some a=>
    refine (?_:putI (evT s m) (nm p.1) (ev s a + ev s p.2) = evT s (putV m p.1 fun i=>a i + p.2 i))
    rw [← ev_add];exact putV_ev s m p.1 _
theorem addT_ev (t u:FndV):addC (evT s t) (evT s u) = evT s (addT t u):=by
  have h:=fold_ev s (f:=fun m p=>putI m p.1 p.2) (g:=fun m p=>putV m p.1 p.2) (fun m p=>putV_ev s m p.1 p.2) t []
  refine (?_:(evT s u).foldl addStep ((evT s t).foldl (fun m p=>putI m p.1 p.2) (evT s [])) = _)
  rw [h];exact fold_ev s (addS_ev s) u _
theorem addB_ev (t u:BkV):addB (evB s t) (evB s u) = evB s (addBV t u):=by
  delta evB addB addBV
  dsimp only
  rw [addT_ev,ev_add,ev_add]
theorem oth_ev {x:Ms} (hx:x ∈ ls) (b:Ms):oth (nm b) x = othV b x:=List.filter_congr fun y hy=>by rw [inB_nm b x hx,inB_nm b y hy]
theorem new_ev {x:Ms} (hx:x ∈ ls) (p:Ms × Fm):newB x (nmP s p) = evB s (newV x p):=by
  have h1:inB (nmP s p).1 x = inM p.1 x:=inB_nm _ _ hx
  have h2:oth (nmP s p).1 x = othV p.1 x:=oth_ev hx _
  delta newB newV evB
  dsimp only
  rw [h1,h2,ev_mul,Int.mul_comm]
  congr 1
  · by_cases q:inM p.1 x = true
    · rw [if_pos q,if_pos q];rfl
    · rw [if_neg q,if_neg q];exact (ev_zero s).symm
  · delta evT;rw [List.map_map];rfl
theorem book_ev {x:Ms} (hx:x ∈ ls) (l:FndV):bookF (l.map (nmP s)) x = evB s (bookV l x):=by
  have h:∀ (l:FndV) (b:BkV),(l.map (nmP s)).foldl (stepB x) (evB s b) = evB s (l.foldl (stepV x) b):=by
    intro l
    induction l with
    | nil=>intro b;rfl
    | cons p l ih=>
      intro b
      refine (?_:(l.map (nmP s)).foldl (stepB x) (stepB x (evB s b) (nmP s p)) = evB s (l.foldl (stepV x) (stepV x b p)))
      have e:stepB x (evB s b) (nmP s p) = evB s (stepV x b p):=by
        delta stepB stepV
        rw [ace_nm,inB_nm 21 x hx,new_ev s hx,addB_ev,addB_ev]
        split<;>rfl
      rw [e,ih]
  have e0:(⟨0,0,0,0,[]⟩:Bk) = evB s ⟨0,0,fun _=>0,fun _=>0,[]⟩:=by
    delta evB;dsimp only;rw [ev_zero];rfl
  refine (?_:(l.map (nmP s)).foldl (stepB x) ⟨0,0,0,0,[]⟩ = _)
  rw [e0];exact h l _
end
end Mine
end
section
open PySem PySem.W PyProof.Rows
namespace Mine
noncomputable def sumE (l:List Fm):Fm:=fun i=>(l.map fun f=>f i).sum
noncomputable def heldV (l:FndV) (x:Ms):List Fm:=(l.filter fun p=>inM p.1 x).map (·.2)
noncomputable def apV (l:FndV) (x y:Ms):List Fm:=(l.filter fun p=>inM p.1 y != inM p.1 x).map (·.2)
noncomputable def dueV (l:FndV) (x:Ms):BkV:=⟨(heldV l x).length,(ls.map fun y=>((apV l x y).length:Int)).sum,sumE (heldV l x),sumE ((farL x).map fun y=>sumE (apV l x y)),(farL x).map fun y=>(y,sumE (apV l x y))⟩
noncomputable def sameV (f g:Fm):Bool:=four.all fun i=>decide (f i = g i)
noncomputable def bookB (sh:List Ms) (x:Ms):Bool:=
  let b:=bookV (pzV sh) x
  let e:=dueV (pzV sh) x
  decide (b.a = e.a) && decide (b.b = e.b) && sameV b.c e.c && sameV b.d e.d && decide (b.t.length = e.t.length) && decide ((b.t.map (·.1)).Perm (farL x)) && (b.t.all fun p=>sameV p.2 (sumE (apV (pzV sh) x p.1)) && sameV p.2 fun i=>D0 sh i x p.1)
set_option maxRecDepth 100000 in
theorem book_all:(shapesL.all fun sh=>ls.all (bookB sh)) = true:=by decide +kernel
theorem same_ev {s f g:Fm} (h:sameV f g = true):ev s f = ev s g:=ev_congr fun i hi=>of_decide_eq_true (List.all_eq_true.mp h i hi)
section
variable (s:Fm)
theorem part_ev (l:FndV) {q:Str × Int→Bool} {r:Ms × Fm→Bool} (h:∀ p,q (nmP s p) = r p):((l.map (nmP s)).filter q).map (·.2) = ((l.filter r).map (·.2)).map (ev s):=by
  rw [List.filter_map,List.map_map,List.map_map]
  rw [show q ∘ nmP s = r from funext h];rfl
theorem held_ev {x:Ms} (hx:x ∈ ls) (l:FndV):heldF (l.map (nmP s)) x = (heldV l x).map (ev s):=part_ev s l fun p=>inB_nm p.1 x hx
theorem ap_ev {x y:Ms} (hx:x ∈ ls) (hy:y ∈ ls) (l:FndV):apF (l.map (nmP s)) x y = (apV l x y).map (ev s):=part_ev s l fun p=>by rw [← inB_nm p.1 x hx,← inB_nm p.1 y hy];rfl
theorem sumE_ev (l:List Fm):(l.map (ev s)).sum = ev s (sumE l):=ev_sum s (fun f=>f) l
theorem far_sub {x y:Ms} (h:y ∈ farL x):y ∈ ls:=(List.mem_filter.mp h).1
theorem due_ev {x:Ms} (hx:x ∈ ls) (l:FndV):dueB (l.map (nmP s)) x = bkD (evB s (dueV l x)):=by
  have h1:=held_ev s hx l
  have h2:ls.map (fun y=>((apF (l.map (nmP s)) x y).length:Int)) = ls.map fun y=>((apV l x y).length:Int):=List.map_congr_left fun y hy=>by rw [ap_ev s hx hy,List.length_map]
  have h3:∀ y ∈ farL x,(apF (l.map (nmP s)) x y).sum = ev s (sumE (apV l x y)):=fun y hy=>by rw [ap_ev s hx (far_sub hy),sumE_ev]
  have h4:(farL x).map (fun y=>(apF (l.map (nmP s)) x y).sum) = ((farL x).map fun y=>sumE (apV l x y)).map (ev s):=by rw [List.map_map];exact List.map_congr_left h3
  have h5:farF (l.map (nmP s)) x = .dict (intE (evT s ((farL x).map fun y=>(y,sumE (apV l x y))))):=by
    delta farF dcM intE evT
    rw [List.map_map,List.map_map]
    exact congrArg D.dict (List.map_congr_left fun y hy=>congrArg (fun z=>(nm y,D.int z)) (h3 y hy))
  delta dueB
  rw [h1,h2,h4,h5,sumE_ev,sumE_ev,List.length_map];rfl
theorem bk_same {x y:BkV} (ha:x.a = y.a) (hb:x.b = y.b) (hc:ev s x.c = ev s y.c) (hd:ev s x.d = ev s y.d) (hl:x.t.length = y.t.length) (ht:∀ p ∈ x.t,((intE (evT s y.t)).find? fun e=>e.1 = nm p.1) = some (nm p.1,.int (ev s p.2))):eqvF 5 (bkD (evB s x)) (bkD (evB s y)) = some true:=by
  refine (eqvF_tup (by rfl)).trans (eqvL_c (eqvF_ii ha) (eqvL_c (eqvF_ii hb) (eqvL_c (eqvF_ii hc) (eqvL_c (eqvF_ii hd) (eqvL_c ?_ (by rfl))))))
  refine (eqvF_dict ?_).trans (eqvE_all fun e he=>?_)
  · delta intE evB evT;simp only [List.length_map];exact hl
  · obtain ⟨_,he',rfl⟩:=List.mem_map.mp he
    obtain ⟨p,hp,rfl⟩:=List.mem_map.mp he'
    exact ⟨_,ht p hp,eqvF_ii rfl⟩
theorem books_ok {sh:List Ms} (h:sh ∈ shapesL) {x:Ms} (hx:x ∈ ls):eqvF 5 (bkD (bookF ((pzV sh).map (nmP s)) x)) (dueB ((pzV sh).map (nmP s)) x) = some true∧(((bookV (pzV sh) x).t.map (·.1)).Perm (farL x)) ∧
    (bookF ((pzV sh).map (nmP s)) x).t = ((bookV (pzV sh) x).t.map (·.1)).map fun y=>(nm y,dV s (D0 sh) x y):=by
  have hB:=List.all_eq_true.mp (List.all_eq_true.mp book_all sh h) x hx
  obtain ⟨hB,h7⟩:=band hB
  obtain ⟨hB,h6⟩:=band hB
  obtain ⟨hB,h5⟩:=band hB
  obtain ⟨hB,h4⟩:=band hB
  obtain ⟨hB,h3⟩:=band hB
  obtain ⟨h1,h2⟩:=band hB
  have h6:=of_decide_eq_true h6
  have h7:=List.all_eq_true.mp h7
  rw [book_ev s hx,due_ev s hx]
  refine ⟨bk_same s (of_decide_eq_true h1) (of_decide_eq_true h2) (same_ev h3) (same_ev h4) (of_decide_eq_true h5) fun p hp=>?_,h6,?_⟩
  · have hm:p.1 ∈ farL x:=h6.mem_iff.mp (List.mem_map.mpr ⟨p,hp,rfl⟩)
    rw [same_ev (band (h7 p hp)).1]
    have e:intE (evT s (dueV (pzV sh) x).t) = dcM (farL x) fun y=>.int (ev s (sumE (apV (pzV sh) x y))):=by
      delta intE evT dueV dcM;dsimp only;rw [List.map_map,List.map_map];rfl
    rw [e]
    exact dm_find (ls_nd.sublist List.filter_sublist) hm
  · refine (?_:evT s _ = _)
    delta evT
    rw [List.map_map]
    exact List.map_congr_left fun p hp=>congrArg (Prod.mk (nm p.1)) (same_ev (band (h7 p hp)).2)
end
end Mine
end
section
open PySem PySem.W PyProof.Rows
namespace Mine
theorem getV_mem {l:FndV} (hn:(l.map (·.1)).Nodup) {p:Ms × Fm} (h:p ∈ l):getV l p.1 = some p.2:=by
  induction l with
  | nil=>exact nomatch h
  | cons q l ih=>
    rw [List.map_cons,List.nodup_cons] at hn
    rw [getV_cons]
    rcases List.mem_cons.mp h with rfl | h
    · exact if_pos rfl
    · rw [if_neg fun e:q.1 = p.1=>hn.1 (e▸List.mem_map.mpr ⟨p,h,rfl⟩)];exact ih hn.2 h
theorem en_ev (s:Fm) {j:Nat} (hj:j ∈ four):ev s (en j) = s j:=by
  simp only [four,List.mem_cons,List.not_mem_nil,or_false] at hj
  rcases hj with rfl | rfl | rfl | rfl<;>(delta ev en;simp)
theorem len4 {sh:List Ms} (h:sh.length = 4):∃ a b c d,sh = [a,b,c,d]:=by
  match sh,h with
  | [a,b,c,d],_=>exact ⟨a,b,c,d,rfl⟩
theorem pzV_at {sh:List Ms} (h:sh.length = 4) {j:Nat} {x:Ms} (hj:j ∈ four) (hx:sh[j]? = some x):(x,en j) ∈ pzV sh:=by
  obtain ⟨a,b,c,d,rfl⟩:=len4 h
  simp only [four,List.mem_cons,List.not_mem_nil,or_false] at hj
  rcases hj with rfl | rfl | rfl | rfl<;>(cases hx;simp [pzV])
theorem pzV_keys {sh:List Ms} (h:sh.length = 4):(pzV sh).map (·.1) = sh:=by
  obtain ⟨a,b,c,d,rfl⟩:=len4 h
  rfl
theorem leaf_ok {s:Fm} (hs:SOk s) {sh:List Ms} (hn:sh.Nodup) (h4:sh.length = 4) {res:FndV} (h:leafB sh res = true):∃ (K:List Ms) (v:Ms→Int),evF s res = K.map (fun x=>(x,v x))∧K.Nodup∧K.length≤100∧(nzM K v).Perm sh ∧
    eqvF 2 (tabM (nzM K v) v) (.dict (intE ((pzV sh).map (nmP s)))) = some true:=by
  obtain ⟨h,hp⟩:=band h
  obtain ⟨h,hu⟩:=band h
  obtain ⟨h1,h2⟩:=band h
  have h1:=of_decide_eq_true h1
  have h2:=of_decide_eq_true h2
  have hp:=of_decide_eq_true hp
  have hu:=List.all_eq_true.mp hu
  let v:Ms→Int:=fun x=>((getV res x).map (ev s)).getD 0
  have hv:∀ p ∈ res,v p.1 = ev s p.2:=fun p hm=>by
    refine (?_:((getV res p.1).map (ev s)).getD 0 = _)
    rw [getV_mem h1 hm];rfl
  have hq:∀ p ∈ res,(!(v p.1 == 0)) = four.any (unitB sh p.1 p.2)∧(four.any (unitB sh p.1 p.2) = true→∃ j ∈ four,sh[j]? = some p.1∧v p.1 = s j):=fun p hm=>by
    have key:four.any (unitB sh p.1 p.2) = true→∃ j ∈ four,sh[j]? = some p.1∧v p.1 = s j:=fun h=>by
      obtain ⟨j,hj,h⟩:=List.any_eq_true.mp h
      obtain ⟨ha,hb⟩:=band h
      refine ⟨j,hj,of_decide_eq_true ha,?_⟩
      rw [hv p hm,← en_ev s hj]
      exact ev_congr fun i hi=>of_decide_eq_true (List.all_eq_true.mp hb i hi)
    refine ⟨?_,key⟩
    induction q:four.any (unitB sh p.1 p.2) with
    | true=>
      obtain ⟨j,_,_,e⟩:=key q
      rw [e,beq_eq_false_iff_ne.mpr (Int.ne_of_gt (Int.lt_of_lt_of_le Int.zero_lt_one (hs.l j)))];rfl
    | false=>
      have h0:=hu p hm
      rw [q,Bool.or_false] at h0
      have e:ev s p.2 = 0:=(ev_congr fun i hi=>of_decide_eq_true (List.all_eq_true.mp h0 i hi)).trans (ev_zero s)
      rw [hv p hm,e];rfl
  have hnz:nzM (res.map (·.1)) v = (res.filter fun p=>four.any (unitB sh p.1 p.2)).map (·.1):=by
    delta nzM
    rw [List.filter_map]
    exact congrArg (List.map _) (List.filter_congr fun p hm=>(hq p hm).1)
  have hpm:(nzM (res.map (·.1)) v).Perm sh:=by rw [hnz];exact hp
  refine ⟨res.map (·.1),v,?_,h1,by rw [List.length_map];exact h2,hpm,?_⟩
  · delta evF;rw [List.map_map]
    exact List.map_congr_left fun p hm=>congrArg (Prod.mk p.1) (hv p hm).symm
  · have hpl:(pzV sh).length = sh.length:=(List.length_map _).symm.trans (congrArg List.length (pzV_keys h4))
    refine (eqvF_dict ?_).trans (eqvE_all fun e he=>?_)
    · delta dcM intE;rw [List.length_map,List.length_map,List.length_map,hpl];exact hpm.length_eq
    · obtain ⟨x,hx,rfl⟩:=List.mem_map.mp he
      rw [hnz] at hx
      obtain ⟨p,hpf,rfl⟩:=List.mem_map.mp hx
      obtain ⟨hm,ha⟩:=List.mem_filter.mp hpf
      obtain ⟨j,hj,e1,e2⟩:=(hq p hm).2 ha
      have hf:=find_nodup (fun p:Ms × Fm=>nm p.1) (fun p=>D.int (ev s p.2)) (l:=pzV sh) (by
        have:=nm_nd hn
        rw [← pzV_keys h4,List.map_map] at this
        exact this) (pzV_at h4 hj e1)
      refine ⟨_,by delta intE;rw [List.map_map];exact hf,eqvF_ii ?_⟩
      exact e2.trans (en_ev s hj).symm
end Mine
end
section
open PySem PySem.W PyProof.Rows
namespace Mine
noncomputable def extW (l:List (List Nat)):List (List Nat):=l.flatMap fun w=>[32 :: w,9 :: w]
noncomputable def leadU:List Str:=(extW [[]] ++ extW (extW [[]]) ++ extW (extW (extW [[]])) ++ extW (extW (extW (extW [[]])))).map fun l:List Nat=>⟨l.toArray⟩
noncomputable def leadE:Str:=Str.ofString ""
set_option maxRecDepth 100000 in
theorem less_all:((leadE :: leadU).all fun x=>leadU.all fun y=>lessF (wsF (x ++ endW)) (wsF (y ++ endW)) == lessC (colsF x) (colsF y)) = true:=by decide +kernel
theorem less_e:(leadU.all fun y=>lessC (colsF leadE) (colsF y)) = true:=by decide +kernel
noncomputable def leadM (a b c d:Int):Str:=⟨#[blankL.cps.getD a.toNat 0]⟩ ++ signsL.getD b.toNat Str.empty ++ signsL.getD c.toNat Str.empty ++ signsL.getD d.toNat Str.empty
theorem lead_all:((rangeL 0 2).all fun a=>(rangeL 0 3).all fun b=>(rangeL 0 3).all fun c=>(rangeL 0 3).all fun d=>decide (leadM a b c d ∈ leadU)) = true:=by decide +kernel
theorem rangeL_has {a x:Int} {m:Nat} (h:a≤x∧x < a + m):x ∈ rangeL a m:=by
  induction m generalizing a with
  | zero=>lia
  | succ m ih=>
    by_cases q:x = a
    · exact q▸List.mem_cons_self
    · exact List.mem_cons_of_mem _ (ih (by lia))
theorem mod_in (x:Int) (k:Nat) (hk:0 < (k:Int)):x.fmod k ∈ rangeL 0 k:=rangeL_has (by have:=fmod_at x k hk;lia)
theorem lead_in (x:Int):leadF x ∈ leadU:=by
  have h1:=List.all_eq_true.mp lead_all _ (mod_in x 2 (by decide))
  have h2:=List.all_eq_true.mp h1 _ (mod_in (x.fdiv 2) 3 (by decide))
  have h3:=List.all_eq_true.mp h2 _ (mod_in (x.fdiv 6) 3 (by decide))
  have h4:=List.all_eq_true.mp h3 _ (mod_in (x.fdiv 18) 3 (by decide))
  exact of_decide_eq_true h4
theorem lessC_cons (a b:Int) (x y:List Int):lessC (a :: x) (b :: y) = (decide (a < b) && lessC x y):=by
  delta lessC
  rw [List.zip_cons_cons,List.filterMap_cons]
  by_cases q:b≤a
  · rw [show geZ (a,b) = some 0 from if_pos q,decide_eq_false (Int.not_lt.mpr q)];rfl
  · rw [show geZ (a,b) = none from if_neg q,decide_eq_true (Int.not_le.mp q)];rfl
theorem lessC_trans:∀ {a b c:List Int},a.length = b.length→lessC a b = true→lessC b c = true→lessC a c = true:=by
  intro a
  induction a with
  | nil=>intro b c _ _ _;delta lessC;rw [List.zip_nil_left];rfl
  | cons x a ih=>
    intro b c hl h1 h2
    cases b with
    | nil=>exact absurd hl (Nat.succ_ne_zero _)
    | cons y b=>
      cases c with
      | nil=>delta lessC;rw [List.zip_nil_right];rfl
      | cons z c=>
        rw [lessC_cons] at h1 h2 ⊢
        obtain ⟨p1,p2⟩:=band h1
        obtain ⟨q1,q2⟩:=band h2
        rw [decide_eq_true (Int.lt_trans (of_decide_eq_true p1) (of_decide_eq_true q1)),ih (Nat.succ.inj hl) p2 q2];rfl
noncomputable def matB (a b c d e f g h i j:Bool):List (List Bool):=[[a,b,c,d],[e,f,g],[h,i],[j],[]]
theorem rel5 {α:Type} (f:α→α→Bool) (g:Str→α) (z:α) (p q r s t:Str):relF f ([p,q,r,s,t].map g) z = matB (f (g p) (g q)) (f (g p) (g r)) (f (g p) (g s)) (f (g p) (g t)) (f (g q) (g r)) (f (g q) (g s)) (f (g q) (g t)) (f (g r) (g s)) (f (g r) (g t)) (f (g s) (g t)):=rfl
noncomputable def shE:List (List Ms × List Int):=[([2,4,8,16],[5,2,3,4,5]),([2,4,24,16],[5,2,3,5,5]),([2,12,8,16],[5,2,4,4,5]),([2,28,8,16],[5,2,5,4,5]),([2,28,24,16],[5,2,5,5,5]),([6,4,8,16],[5,3,3,4,5]),([6,4,24,16],[5,3,3,5,5]),
  ([14,4,8,16],[5,4,3,4,5]),([14,12,8,16],[5,4,4,4,5]),([30,4,8,16],[5,5,3,4,5]),([30,4,24,16],[5,5,3,5,5]),([30,12,8,16],[5,5,4,4,5]),([30,28,8,16],[5,5,5,4,5]),([30,28,24,16],[5,5,5,5,5])]
theorem shE_shapes:shE.map (·.1) = shapesL:=rfl
theorem shape_all:∀ e f g h i j:Bool,(e && h→f)→(e && i→g)→(f && j→g)→(h && j→i)→endsF (matB true true true true e f g h i j) ∈ shE.map (·.2):=by decide +kernel
theorem leads_ok {q r s t:Str} (hq:q ∈ leadU) (hr:r ∈ leadU) (hs:s ∈ leadU) (ht:t ∈ leadU):relF lessC ([leadE,q,r,s,t].map colsF) [] = nanF [leadE,q,r,s,t]∧endsF (nanF [leadE,q,r,s,t]) ∈ shE.map (·.2):=by
  have L:∀ {x y:Str},x ∈ leadE :: leadU→y ∈ leadU→lessF (wsF (x ++ endW)) (wsF (y ++ endW)) = lessC (colsF x) (colsF y):=fun hx hy=>beq_iff_eq.mp (List.all_eq_true.mp (List.all_eq_true.mp less_all _ hx) _ hy)
  have E:∀ {y:Str},y ∈ leadU→lessC (colsF leadE) (colsF y) = true:=fun hy=>List.all_eq_true.mp less_e _ hy
  have m:∀ {x:Str},x ∈ leadU→x ∈ leadE :: leadU:=fun h=>List.mem_cons_of_mem _ h
  have e0:=List.mem_cons_self (a:=leadE) (l:=leadU)
  have en:nanF [leadE,q,r,s,t] = relF lessC ([leadE,q,r,s,t].map colsF) []:=by
    refine (rel5 lessF (fun x=>wsF (x ++ endW)) ws0 leadE q r s t).trans (Eq.trans ?_ (rel5 lessC colsF [] leadE q r s t).symm)
    rw [L e0 hq,L e0 hr,L e0 hs,L e0 ht,L (m hq) hr,L (m hq) hs,L (m hq) ht,L (m hr) hs,L (m hr) ht,L (m hs) ht]
  refine ⟨en.symm,?_⟩
  rw [en,rel5,E hq,E hr,E hs,E ht]
  have tr:∀ {x y z:Str},(lessC (colsF x) (colsF y) && lessC (colsF y) (colsF z)) = true→lessC (colsF x) (colsF z) = true:=fun h=>lessC_trans (by rfl) (band h).1 (band h).2
  exact shape_all _ _ _ _ _ _ tr tr tr tr
end Mine
end
section
open PySem PySem.W PyProof.Rows
namespace Mine
noncomputable def rpO (i:Int) (e:Int):Option (Option Int):=if e == i then some none else none
noncomputable def bone (E:List Int):List (Option Int):=((rangeL 0 5).map fun i=>E.filterMap (rpO i) ++ [some i]).flatten ++ E.filterMap (rpO 5)
noncomputable def fillT (dress:List Str):Option Int→Str
  | none=>rp
  | some i=>dress.getD i.toNat Str.empty ++ lp ++ lett i
theorem tok_bone (E:List Int) (a b c d e:Str):tokensF E [a,b,c,d,e] = (bone E).map (fillT [a,b,c,d,e]):=by
  have h:∀ i:Int,E.filterMap (rpAt i) = (E.filterMap (rpO i)).map (fillT [a,b,c,d,e]):=fun i=>by
    rw [List.map_filterMap]
    refine congrArg (fun f=>E.filterMap f) (funext fun x=>?_)
    delta rpAt rpO
    by_cases q:(x == i) = true
    · rw [if_pos q,if_pos q];rfl
    · rw [if_neg q,if_neg q];rfl
  delta bone
  rw [List.map_append,List.map_flatten,List.map_map,← h 5]
  delta tokensF
  refine congrArg (· ++ _) (congrArg List.flatten ?_)
  have e1:∀ i:Int,((fun l=>List.map (fillT [a,b,c,d,e]) l) ∘ fun i=>E.filterMap (rpO i) ++ [some i]) i = E.filterMap (rpAt i) ++ [fillT [a,b,c,d,e] (some i)]:=fun i=>by
    rw [h i];exact List.map_append
  rw [show (rangeL 0 5).map ((fun l=>List.map (fillT [a,b,c,d,e]) l) ∘ fun i=>E.filterMap (rpO i) ++ [some i]) = (rangeL 0 5).map fun i=>E.filterMap (rpAt i) ++ [fillT [a,b,c,d,e] (some i)] from List.map_congr_left fun i _=>e1 i]
  rfl
theorem pcs_chars:pcsL.map (·.cps.toList) = [[],[92,41],[34,41,34],[92,34],[34,40,34],[92,92],[34,92,34,41,34],[92,40]]:=by decide +kernel
theorem pc_au {p:Str} (h:p ∈ pcsL) (cur:Option Int):p.cps.toList.foldl au (false,none,cur) = (false,none,cur):=by
  have:p.cps.toList ∈ pcsL.map (·.cps.toList):=List.mem_map.mpr ⟨p,h,rfl⟩
  rw [pcs_chars] at this
  simp only [List.mem_cons,List.not_mem_nil,or_false] at this
  rcases this with e | e | e | e | e | e | e | e<;>rw [e]<;>rfl
theorem abc_codes (i:Nat):abc.cps.getD i 0 ≠ 92∧abc.cps.getD i 0 ≠ 34∧abc.cps.getD i 0 ≠ 40∧abc.cps.getD i 0 ≠ 41:=by
  by_cases h:i < 5
  · exact (by decide +kernel:∀ i:Fin 5,abc.cps.getD i.val 0 ≠ 92∧abc.cps.getD i.val 0 ≠ 34∧abc.cps.getD i.val 0 ≠ 40∧abc.cps.getD i.val 0 ≠ 41) ⟨i,h⟩
  · have e:abc.cps.getD i 0 = 0:=by
      rw [Array.getD_eq_getD_getElem?,Array.getElem?_eq_none (Nat.le_trans (Nat.le_of_eq abc_len) (Nat.le_of_not_lt h))];rfl
    rw [e];decide
noncomputable def gT:Option Int→Option Int→Option Int
  | none,cur=>cc cur 41
  | some _,cur=>cc cur 40
noncomputable def Good (dress:List Str):Prop:=∀ i,dress.getD i Str.empty ∈ pcsL
theorem open_chars (p:Str) (i:Int):(p ++ lp ++ lett i).cps.toList = p.cps.toList ++ [40,abc.cps.getD i.toNat 0]:=by
  refine (?_:((p.cps ++ lp.cps) ++ (lett i).cps).toList = _)
  rw [Array.toList_append,Array.toList_append,List.append_assoc,lp_eq];rfl
theorem fill_au {dress:List Str} (h:Good dress) (t cur:Option Int):(fillT dress t).cps.toList.foldl au (false,none,cur) = (false,none,gT t cur):=by
  induction t with
  | none=>refine (?_:rp.cps.toList.foldl au (false,none,cur) = _);rw [rp_eq];rfl
  | some i=>
    obtain ⟨n1,n2,n3,n4⟩:=abc_codes i.toNat
    refine (?_:(dress.getD i.toNat Str.empty ++ lp ++ lett i).cps.toList.foldl au (false,none,cur) = (false,none,cc cur 40))
    rw [open_chars,List.foldl_append,pc_au (h _)]
    have e:∀ cur,au (false,none,cur) (abc.cps.getD i.toNat 0) = (false,none,cur):=fun cur=>by
      delta au cc;dsimp only;rw [if_neg (by decide),if_neg n1,if_neg n2,if_neg n3,if_neg n4]
    refine (?_:au (au (false,none,cur) 40) (abc.cps.getD i.toNat 0) = _)
    exact e _
theorem fill_rp {dress:List Str} (t:Option Int):(fillT dress t == rp) = t.isNone:=by
  induction t with
  | none=>exact beq_self_eq_true rp
  | some i=>
    refine beq_eq_false_iff_ne.mpr fun h=>?_
    have h:=congrArg (fun x:Str=>x.cps.toList.getLast?) h
    dsimp only [fillT] at h
    rw [open_chars,rp_eq] at h
    rw [List.getLast?_append] at h
    exact (abc_codes i.toNat).2.2.2 (Option.some.inj h)
theorem fold_same {d₁ d₂:List Str} (h1:Good d₁) (h2:Good d₂):∀ (T:List (Option Int)) (cur:Option Int),∃ r,((T.map (fillT d₁)).flatMap (·.cps.toList)).foldl au (false,none,cur) = (false,none,r)∧((T.map (fillT d₂)).flatMap (·.cps.toList)).foldl au (false,none,cur) = (false,none,r):=by
  intro T
  induction T with
  | nil=>intro cur;exact ⟨cur,rfl,rfl⟩
  | cons t T ih=>
    intro cur
    rw [List.map_cons,List.map_cons,List.flatMap_cons,List.flatMap_cons,List.foldl_append,List.foldl_append,fill_au h1,fill_au h2]
    exact ih _
theorem check_same {d₁ d₂:List Str} (h1:Good d₁) (h2:Good d₂) (T:List (Option Int)) (e:Str):checkF (Txt.join (Str.ofString "") (T.map (fillT d₁)) ++ e) = checkF (Txt.join (Str.ofString "") (T.map (fillT d₂)) ++ e):=by
  obtain ⟨r,e1,e2⟩:=fold_same h1 h2 T (some 0)
  have ch:∀ d:List Str,(Txt.join (Str.ofString "") (T.map (fillT d)) ++ e).cps.toList = (T.map (fillT d)).flatMap (·.cps.toList) ++ e.cps.toList:=fun d=>by
    rw [← join_chars];exact Array.toList_append
  rw [check_au,check_au,ch,ch]
  delta okA
  rw [List.foldl_append,List.foldl_append,e1,e2]
end Mine
end
section
open PySem PySem.W PyProof.Rows
namespace Mine
theorem enumL_map {α β:Type} (f:α→β):∀ (l:List α) (i:Int),enumL i (l.map f) = (enumL i l).map fun p=>(p.1,f p.2)
  | [],_=>rfl
  | x :: l,i=>congrArg (List.cons (i,f x)) (enumL_map f l (i + 1))
theorem opened_bone (d:List Str) (T:List (Option Int)):openedF (T.map (fillT d)) = (enumL 0 T).filterMap fun p=>if p.2.isNone then none else some p.1:=by
  delta openedF
  rw [enumL_map,List.filterMap_map]
  refine congrArg (fun f=>(enumL 0 T).filterMap f) (funext fun p=>?_)
  refine (?_:(if fillT d p.2 == rp then none else some p.1) = _)
  rw [fill_rp]
section
variable {d₁ d₂:List Str} (h1:Good d₁) (h2:Good d₂) (T:List (Option Int))
include h1 h2
theorem said_same (f l:Int):saidAt (T.map (fillT d₁)) f l = saidAt (T.map (fillT d₂)) f l:=by
  have e:∀ x:Str,x ++ Str.ofString "" = x:=fun x=>by
    refine (?_:(⟨x.cps ++ (Str.ofString "").cps⟩:Str) = x)
    rw [show (Str.ofString "").cps = #[] from by decide +kernel,Array.append_empty]
  have:=check_same h1 h2 ((T.drop f.toNat).take (l + 1 - f).toNat) (Str.ofString "")
  rw [e,e] at this
  delta saidAt
  rw [← List.map_drop,← List.map_drop,← List.map_take,← List.map_take]
  exact this
theorem seek_same (f:Int):∀ (l:List Int) (b:Int × Bool),seekF (T.map (fillT d₁)) f l b = seekF (T.map (fillT d₂)) f l b:=by
  intro l
  induction l with
  | nil=>intro b;rfl
  | cons x l ih=>
    intro b
    refine (?_:(if saidAt (T.map (fillT d₁)) f x = true then (x,true) else seekF (T.map (fillT d₁)) f l (x,false)) = if saidAt (T.map (fillT d₂)) f x = true then (x,true) else seekF (T.map (fillT d₂)) f l (x,false))
    rw [said_same h1 h2,ih]
theorem block_same (f:Int):blockF (T.map (fillT d₁)) f = blockF (T.map (fillT d₂)) f:=by
  delta blockF
  rw [List.length_map,List.length_map,seek_same h1 h2,opened_bone,opened_bone]
theorem mail_same:mailF (T.map (fillT d₁)) = mailF (T.map (fillT d₂)):=by
  have e:refF (T.map (fillT d₁)) = refF (T.map (fillT d₂)):=List.map_congr_left fun x _=>by rw [check_same h1 h2 T x]
  delta mailF
  rw [e,opened_bone,opened_bone,show blockF (T.map (fillT d₁)) = blockF (T.map (fillT d₂)) from funext (block_same h1 h2 T)]
end
noncomputable def noD:List Str:=[Str.empty,Str.empty,Str.empty,Str.empty,Str.empty]
set_option maxRecDepth 100000 in
theorem mail_all:(shE.all fun p=>decide (blocksF p.2 = abc :: p.1.map nm) && decide (mailF ((bone p.2).map (fillT noD)) = abc :: p.1.map nm) && decide ((bone p.2).length≤50) && decide (((enumL 0 (bone p.2)).filterMap fun p=>if p.2.isNone then none else some p.1).length≤5)) = true:=by decide +kernel
set_option maxRecDepth 100000 in
theorem unit_all:(shE.all fun p=>unitsL.all fun u=>decide (endsF (nanF (againF u p.1)) = p.2) && (againF u p.1).all fun x=>decide (x.length≤190)) = true:=by decide +kernel
theorem sh_all:(shE.all fun p=>decide p.1.Nodup && decide (p.1.length = 4)) = true:=by decide +kernel
end Mine
end
section
open PySem PySem.W PyProof.Rows
namespace Mine
theorem getD_in {l:List Str} (h:Str.empty ∈ l) (i:Nat):l.getD i Str.empty ∈ l:=by
  rw [List.getD_eq_getElem?_getD]
  by_cases q:i < l.length
  · rw [List.getElem?_eq_getElem q];exact List.getElem_mem q
  · rw [List.getElem?_eq_none (Nat.le_of_not_lt q)];exact h
theorem pc_in (x k:Int):pcAt x k ∈ pcsL:=getD_in (by decide +kernel) _
theorem good_of {d:List Str} (h:∀ x ∈ d,x ∈ pcsL):Good d:=fun i=>by
  rw [List.getD_eq_getElem?_getD]
  by_cases q:i < d.length
  · rw [List.getElem?_eq_getElem q];exact h _ (List.getElem_mem q)
  · rw [List.getElem?_eq_none (Nat.le_of_not_lt q)];exact (by decide +kernel:Str.empty ∈ pcsL)
theorem unit_in (x:Int):unitF x ∈ unitsL:=by
  have h:=fmod_at (x.fdiv 2) 4 (by decide)
  have h4:(dm x 2 4).toNat < unitsL.length:=(Int.toNat_lt h.1).mpr h.2
  delta unitF
  rw [List.getD_eq_getElem?_getD,List.getElem?_eq_getElem h4];exact List.getElem_mem h4
theorem fill_len {d:List Str} (h:Good d) (t:Option Int):(fillT d t).cps.toList.length≤12:=by
  induction t with
  | none=>exact (by decide +kernel:rp.cps.toList.length≤12)
  | some i=>
    refine (?_:(d.getD i.toNat Str.empty ++ lp ++ lett i).cps.toList.length≤12)
    rw [open_chars,List.length_append]
    exact Nat.add_le_add_right (of_decide_eq_true (List.all_eq_true.mp (by decide +kernel:(pcsL.all fun p=>decide (p.cps.toList.length≤10)) = true) _ (h i.toNat))) 2
theorem again_perm {u:Str} {K L:List Ms} (h:K.Perm L):againF u K = againF u L:=List.map_congr_left fun x _=>by
  delta cntF;rw [(h.filter _).length_eq]
theorem span_ok (cs:List Int):SOk fun i=>spanF (cs.getD i 0):=
  ⟨fun i=>by have:=fmod_at ((cs.getD i 0).fdiv 54) 900 (by decide);delta spanF dm;lia,fun i=>by have:=fmod_at ((cs.getD i 0).fdiv 54) 900 (by decide);delta spanF dm;lia⟩
theorem pz_eq {sh:List Ms} (h:sh.length = 4) (s:Fm):(sh.map nm).zip [s 0,s 1,s 2,s 3] = (pzV sh).map (nmP s):=by
  obtain ⟨a,b,c,d,rfl⟩:=len4 h
  have e:∀ j ∈ four,∀ x,(nm x,s j) = nmP s (x,en j):=fun j hj x=>congrArg (Prod.mk (nm x)) (en_ev s hj).symm
  exact congr (congrArg List.cons (e 0 (by decide) a)) (congr (congrArg List.cons (e 1 (by decide) b)) (congr (congrArg List.cons (e 2 (by decide) c)) (congr (congrArg List.cons (e 3 (by decide) d)) rfl)))
theorem law_ok (cs:List Int) (hc:cs.length = 5):∃ sh ks d K v,LawOk cs sh ks d K v:=by
  obtain ⟨c0,c1,c2,c3,c4,rfl⟩:∃ c0 c1 c2 c3 c4,cs = [c0,c1,c2,c3,c4]:=by
    match cs,hc with
    | [a,b,c,d,e],_=>exact ⟨a,b,c,d,e,rfl⟩
  obtain ⟨he,hE⟩:=leads_ok (lead_in c0) (lead_in c1) (lead_in c2) (lead_in c3)
  obtain ⟨p,hp,e⟩:=List.mem_map.mp hE
  obtain ⟨h1,h2⟩:=band (List.all_eq_true.mp sh_all p hp)
  have hn:=of_decide_eq_true h1
  have h4:=of_decide_eq_true h2
  obtain ⟨h,m4⟩:=band (List.all_eq_true.mp mail_all p hp)
  obtain ⟨h,m3⟩:=band h
  obtain ⟨m1,m2⟩:=band h
  have hu:=List.all_eq_true.mp (List.all_eq_true.mp unit_all p hp) _ (unit_in c4)
  obtain ⟨u1,u2⟩:=band hu
  have hsh:p.1 ∈ shapesL:=shE_shapes▸List.mem_map.mpr ⟨p,hp,rfl⟩
  have hs:=span_ok [c0,c1,c2,c3,c4]
  generalize hsd:(fun i=>spanF ([c0,c1,c2,c3,c4].getD i 0):Fm) = s at hs
  have es:spansF [c0,c1,c2,c3,c4] = [s 0,s 1,s 2,s 3]:=by rw [← hsd];rfl
  have ez:(p.1.map nm).zip (spansF [c0,c1,c2,c3,c4]) = (pzV p.1).map (nmP s):=by rw [es,pz_eq h4]
  have hw:wayF c4 = 1∨wayF c4 = -1:=by have:=fmod_at c4 2 (by decide);delta wayF;lia
  have hj:njOk (wayF c4) p.1 [3,2,1] ls (D0 p.1) [] = true:=by
    obtain ⟨j1,j2⟩:=band (List.all_eq_true.mp nj_all _ hsh)
    rcases hw with w | w<;>rw [w]
    · exact j1
    · exact j2
  obtain ⟨t,hl,R⟩:=nj_sound hs hw (ks:=fun x=>(bookV (pzV p.1) x).t.map (·.1)) hj fun x hx=>(books_ok s hsh hx).2.1
  obtain ⟨K,v,k1,k2,k3,k4,k5⟩:=leaf_ok hs hn h4 hl
  rw [k1] at R
  have gd:Good (dressF [c0,c1,c2,c3,c4]):=good_of fun x hx=>by
    rcases List.mem_cons.mp hx with e | hx
    · rw [e];exact pc_in _ _
    · obtain ⟨y,_,rfl⟩:=List.mem_map.mp hx;exact pc_in _ _
  have gn:Good noD:=good_of (by decide +kernel)
  have eT:tokensF p.2 (dressF [c0,c1,c2,c3,c4]) = (bone p.2).map (fillT (dressF [c0,c1,c2,c3,c4])):=tok_bone p.2 _ _ _ _ _
  have eE:endsF (nanF (leadsF [c0,c1,c2,c3,c4])) = p.2:=e.symm
  have hbl:=of_decide_eq_true m3
  refine ⟨p.1,_,_,K,v,he,?_,?_,?_,?_,?_,by rw [h4];decide,?_,?_,R,k2,k3,?_,?_,by rw [ez];exact k5,?_⟩
  · rw [eE];exact of_decide_eq_true m1
  · rw [eE,eT,mail_same gd gn];exact of_decide_eq_true m2
  · rw [eE,eT]
    refine Nat.le_trans (flat_one (k:=12) fun x hx=>?_) (by rw [List.length_map];lia)
    obtain ⟨t,_,rfl⟩:=List.mem_map.mp hx
    exact fill_len gd t
  · rw [eE,eT,List.length_map];lia
  · rw [eE,eT,opened_bone];exact of_decide_eq_true m4
  · rw [ez]
    refine (eqvF_dict (by rfl)).trans (eqvE_all fun e he=>?_)
    obtain ⟨x,hx,rfl⟩:=List.mem_map.mp he
    exact ⟨_,dm_find ls_nd hx,(books_ok s hsh hx).1⟩
  · rw [ez];exact fun x hx=>(books_ok s hsh hx).2.2
  · rw [again_perm k4,eE];exact of_decide_eq_true u1
  · rw [again_perm k4];exact fun x hx=>of_decide_eq_true (List.all_eq_true.mp u2 x hx)
  · rw [ez,List.map_map]
    have:=nm_nd hn
    rw [← pzV_keys h4,List.map_map] at this
    exact this
end Mine
end
section
open PySem PySem.W PyProof.Rows
namespace Mine
noncomputable def ob2 (_:Params):Obj:=Obj.mk Value.none none (Data.dict #[]) #[]
noncomputable def ob3 (P:Params):Obj:=Obj.mk (Value.type "dict") none (Data.dict #[DictEntry.mk (PyData.keyHash P (Str.ofString "__name__")) (Value.str (Str.ofString "__name__") 165) (Value.str (Str.ofString "law_xc0033_01") 412),DictEntry.mk (PyData.keyHash P (Str.ofString "__doc__")) (Value.str (Str.ofString "__doc__") 166) Value.none,DictEntry.mk (PyData.keyHash P (Str.ofString "__package__")) (Value.str (Str.ofString "__package__") 167) Value.none,DictEntry.mk (PyData.keyHash P (Str.ofString "__loader__")) (Value.str (Str.ofString "__loader__") 168) (Value.builtin "__main__.__loader__#opaque"),DictEntry.mk (PyData.keyHash P (Str.ofString "__spec__")) (Value.str (Str.ofString "__spec__") 169) Value.none,DictEntry.mk (PyData.keyHash P (Str.ofString "__annotations__")) (Value.str (Str.ofString "__annotations__") 170) (Value.ref 6),DictEntry.mk (PyData.keyHash P (Str.ofString "__builtins__")) (Value.str (Str.ofString "__builtins__") 171) (Value.ref 4),DictEntry.mk (PyData.keyHash P (Str.ofString "__file__")) (Value.str (Str.ofString "__file__") 173) (Value.str (Str.ofString "/claim/cut.py") 172),DictEntry.mk (PyData.keyHash P (Str.ofString "__cached__")) (Value.str (Str.ofString "__cached__") 174) Value.none,DictEntry.mk (PyData.keyHash P (Str.ofString "_wall")) (Value.str (Str.ofString "_wall") 193) (Value.ref 21),DictEntry.mk (PyData.keyHash P (Str.ofString "TupleComp")) (Value.str (Str.ofString "TupleComp") 237) (Value.ref 45),DictEntry.mk (PyData.keyHash P (Str.ofString "add_func_stats")) (Value.str (Str.ofString "add_func_stats") 255) (Value.ref 56),DictEntry.mk (PyData.keyHash P (Str.ofString "add_callers")) (Value.str (Str.ofString "add_callers") 266) (Value.ref 63),DictEntry.mk (PyData.keyHash P (Str.ofString "count_calls")) (Value.str (Str.ofString "count_calls") 275) (Value.ref 70),DictEntry.mk (PyData.keyHash P (Str.ofString "_iter_escaped_chars")) (Value.str (Str.ofString "_iter_escaped_chars") 287) (Value.ref 77),DictEntry.mk (PyData.keyHash P (Str.ofString "_strip_quoted_realnames")) (Value.str (Str.ofString "_strip_quoted_realnames") 299) (Value.ref 84),DictEntry.mk (PyData.keyHash P (Str.ofString "_check_parenthesis")) (Value.str (Str.ofString "_check_parenthesis") 309) (Value.ref 91),DictEntry.mk (PyData.keyHash P (Str.ofString "Whitespace")) (Value.str (Str.ofString "Whitespace") 411) (Value.ref 153),DictEntry.mk (PyData.keyHash P (Str.ofString "_law_cells")) (Value.str (Str.ofString "_law_cells") 419) (Value.ref 162),DictEntry.mk (PyData.keyHash P (Str.ofString "_law_column")) (Value.str (Str.ofString "_law_column") 429) (Value.ref 169),DictEntry.mk (PyData.keyHash P (Str.ofString "_law_walked")) (Value.str (Str.ofString "_law_walked") 435) (Value.ref 174),DictEntry.mk (PyData.keyHash P (Str.ofString "_law_nanny")) (Value.str (Str.ofString "_law_nanny") 441) (Value.ref 179),DictEntry.mk (PyData.keyHash P (Str.ofString "_law_ends")) (Value.str (Str.ofString "_law_ends") 447) (Value.ref 184),DictEntry.mk (PyData.keyHash P (Str.ofString "_law_tokens")) (Value.str (Str.ofString "_law_tokens") 453) (Value.ref 189),DictEntry.mk (PyData.keyHash P (Str.ofString "_law_mail")) (Value.str (Str.ofString "_law_mail") 459) (Value.ref 194),DictEntry.mk (PyData.keyHash P (Str.ofString "_law_books")) (Value.str (Str.ofString "_law_books") 465) (Value.ref 199),DictEntry.mk (PyData.keyHash P (Str.ofString "_law_due")) (Value.str (Str.ofString "_law_due") 471) (Value.ref 204),DictEntry.mk (PyData.keyHash P (Str.ofString "_law_least")) (Value.str (Str.ofString "_law_least") 477) (Value.ref 209),DictEntry.mk (PyData.keyHash P (Str.ofString "_law_side")) (Value.str (Str.ofString "_law_side") 483) (Value.ref 214),DictEntry.mk (PyData.keyHash P (Str.ofString "_law_joined")) (Value.str (Str.ofString "_law_joined") 489) (Value.ref 219),DictEntry.mk (PyData.keyHash P (Str.ofString "law")) (Value.str (Str.ofString "law") 495) (Value.ref 224)] 31) #[]
noncomputable def ob34 (_:Params):Obj:=Obj.mk (Value.type "code") none (Data.fields #[Value.str (Str.ofString "__init__") 208,Value.str (Str.ofString "TupleComp.__init__") 209,Value.str (Str.ofString "/claim/cut.py") 210,Value.int 7 0,Value.int 2 0,Value.int 0 0,Value.int 0 0,Value.int 3 0,Value.ref 29,Value.bool true,Value.int 181 0,Value.ref 30,Value.none,Value.ref 31,Value.ref 32,Value.ref 33,Value.int 213 0,Value.int 7 0,Value.str (Str.ofString "/claim/cut.py") 214]) #[]
noncomputable def ob35 (_:Params):Obj:=Obj.mk (Value.type "function") none (Data.func (methDef (M1 2 0).name (Str.ofString "TupleComp.__init__") (M1 2 0).params (M1 2 0).body (M1 2 0).scope (Value.str (Str.ofString "cpy313.pstats") 194) (Value.ref 34) Value.none)) #[]
noncomputable def ob41 (_:Params):Obj:=Obj.mk (Value.type "code") none (Data.fields #[Value.str (Str.ofString "compare") 216,Value.str (Str.ofString "TupleComp.compare") 217,Value.str (Str.ofString "/claim/cut.py") 218,Value.int 10 0,Value.int 3 0,Value.int 0 0,Value.int 0 0,Value.int 3 0,Value.ref 36,Value.bool true,Value.int 181 0,Value.ref 37,Value.none,Value.ref 38,Value.ref 39,Value.ref 40,Value.int 226 0,Value.int 10 0,Value.str (Str.ofString "/claim/cut.py") 227]) #[]
noncomputable def ob42 (_:Params):Obj:=Obj.mk (Value.type "function") none (Data.func (methDef (M1 2 1).name (Str.ofString "TupleComp.compare") (M1 2 1).params (M1 2 1).body (M1 2 1).scope (Value.str (Str.ofString "cpy313.pstats") 194) (Value.ref 41) Value.none)) #[]
noncomputable def ob44 (P:Params):Obj:=Obj.mk (Value.type "dict") none (Data.dict #[DictEntry.mk (PyData.keyHash P (Str.ofString "__module__")) (Value.str (Str.ofString "__module__") 203) (Value.str (Str.ofString "cpy313.pstats") 194),DictEntry.mk (PyData.keyHash P (Str.ofString "__firstlineno__")) (Value.str (Str.ofString "__firstlineno__") 207) (Value.int 5 206),DictEntry.mk (PyData.keyHash P (Str.ofString "__init__")) (Value.str (Str.ofString "__init__") 215) (Value.ref 35),DictEntry.mk (PyData.keyHash P (Str.ofString "compare")) (Value.str (Str.ofString "compare") 228) (Value.ref 42),DictEntry.mk (PyData.keyHash P (Str.ofString "__static_attributes__")) (Value.str (Str.ofString "__static_attributes__") 230) (Value.ref 43),DictEntry.mk (PyData.keyHash P (Str.ofString "__dict__")) (Value.str (Str.ofString "__dict__") 232) (Value.ref 46),DictEntry.mk (PyData.keyHash P (Str.ofString "__weakref__")) (Value.str (Str.ofString "__weakref__") 234) (Value.ref 47),DictEntry.mk (PyData.keyHash P (Str.ofString "__doc__")) (Value.str (Str.ofString "__doc__") 235) Value.none] 4) #[]
noncomputable def ob45 (_:Params):Obj:=Obj.mk (Value.type "type") none (Data.cls (ClassData.mk (Str.ofString "TupleComp") [Value.type "object"] [Value.ref 45,Value.type "object"] 44 (Str.ofString "TupleComp") true [] [] false none false)) #[none,none,some (Value.str (Str.ofString "TupleComp") 196),some (Value.str (Str.ofString "TupleComp") 204),some (Value.builtin "object.__new__"),some (Value.bool true)]
noncomputable def ob107 (_:Params):Obj:=Obj.mk (Value.type "code") none (Data.fields #[Value.str (Str.ofString "__init__") 329,Value.str (Str.ofString "Whitespace.__init__") 330,Value.str (Str.ofString "/claim/cut.py") 331,Value.int 88 0,Value.int 2 0,Value.int 0 0,Value.int 0 0,Value.int 3 0,Value.ref 102,Value.bool true,Value.int 181 0,Value.ref 103,Value.none,Value.ref 104,Value.ref 105,Value.ref 106,Value.int 341 0,Value.int 88 0,Value.str (Str.ofString "/claim/cut.py") 342]) #[]
noncomputable def ob108 (_:Params):Obj:=Obj.mk (Value.type "function") none (Data.func (methDef (M1 11 1).name (Str.ofString "Whitespace.__init__") (M1 11 1).params (M1 11 1).body (M1 11 1).scope (Value.str (Str.ofString "cpy313.tabnanny") 310) (Value.ref 107) Value.none)) #[]
noncomputable def ob114 (_:Params):Obj:=Obj.mk (Value.type "code") none (Data.fields #[Value.str (Str.ofString "longest_run_of_spaces") 344,Value.str (Str.ofString "Whitespace.longest_run_of_spaces") 345,Value.str (Str.ofString "/claim/cut.py") 346,Value.int 111 0,Value.int 1 0,Value.int 0 0,Value.int 0 0,Value.int 3 0,Value.ref 109,Value.bool true,Value.int 181 0,Value.ref 110,Value.none,Value.ref 111,Value.ref 112,Value.ref 113,Value.int 350 0,Value.int 111 0,Value.str (Str.ofString "/claim/cut.py") 351]) #[]
noncomputable def ob115 (_:Params):Obj:=Obj.mk (Value.type "function") none (Data.func (methDef (M1 11 2).name (Str.ofString "Whitespace.longest_run_of_spaces") (M1 11 2).params (M1 11 2).body (M1 11 2).scope (Value.str (Str.ofString "cpy313.tabnanny") 310) (Value.ref 114) Value.none)) #[]
noncomputable def ob121 (_:Params):Obj:=Obj.mk (Value.type "code") none (Data.fields #[Value.str (Str.ofString "indent_level") 353,Value.str (Str.ofString "Whitespace.indent_level") 354,Value.str (Str.ofString "/claim/cut.py") 355,Value.int 115 0,Value.int 2 0,Value.int 0 0,Value.int 0 0,Value.int 3 0,Value.ref 116,Value.bool true,Value.int 181 0,Value.ref 117,Value.none,Value.ref 118,Value.ref 119,Value.ref 120,Value.int 362 0,Value.int 115 0,Value.str (Str.ofString "/claim/cut.py") 363]) #[]
noncomputable def ob122 (_:Params):Obj:=Obj.mk (Value.type "function") none (Data.func (methDef (M1 11 3).name (Str.ofString "Whitespace.indent_level") (M1 11 3).params (M1 11 3).body (M1 11 3).scope (Value.str (Str.ofString "cpy313.tabnanny") 310) (Value.ref 121) Value.none)) #[]
noncomputable def ob142 (_:Params):Obj:=Obj.mk (Value.type "code") none (Data.fields #[Value.str (Str.ofString "less") 381,Value.str (Str.ofString "Whitespace.less") 382,Value.str (Str.ofString "/claim/cut.py") 383,Value.int 128 0,Value.int 2 0,Value.int 0 0,Value.int 0 0,Value.int 3 0,Value.ref 137,Value.bool true,Value.int 181 0,Value.ref 138,Value.none,Value.ref 139,Value.ref 140,Value.ref 141,Value.int 388 0,Value.int 128 0,Value.str (Str.ofString "/claim/cut.py") 389]) #[]
noncomputable def ob143 (_:Params):Obj:=Obj.mk (Value.type "function") none (Data.func (methDef (M1 11 6).name (Str.ofString "Whitespace.less") (M1 11 6).params (M1 11 6).body (M1 11 6).scope (Value.str (Str.ofString "cpy313.tabnanny") 310) (Value.ref 142) Value.none)) #[]
noncomputable def ob152 (P:Params):Obj:=Obj.mk (Value.type "dict") none (Data.dict #[DictEntry.mk (PyData.keyHash P (Str.ofString "__module__")) (Value.str (Str.ofString "__module__") 319) (Value.str (Str.ofString "cpy313.tabnanny") 310),DictEntry.mk (PyData.keyHash P (Str.ofString "__firstlineno__")) (Value.str (Str.ofString "__firstlineno__") 323) (Value.int 85 322),DictEntry.mk (PyData.keyHash P (Str.ofString "S")) (Value.str (Str.ofString "S") 327) (Value.str (Str.ofString " ") 325),DictEntry.mk (PyData.keyHash P (Str.ofString "T")) (Value.str (Str.ofString "T") 328) (Value.str (Str.ofString "\t") 326),DictEntry.mk (PyData.keyHash P (Str.ofString "__init__")) (Value.str (Str.ofString "__init__") 343) (Value.ref 108),DictEntry.mk (PyData.keyHash P (Str.ofString "longest_run_of_spaces")) (Value.str (Str.ofString "longest_run_of_spaces") 352) (Value.ref 115),DictEntry.mk (PyData.keyHash P (Str.ofString "indent_level")) (Value.str (Str.ofString "indent_level") 364) (Value.ref 122),DictEntry.mk (PyData.keyHash P (Str.ofString "equal")) (Value.str (Str.ofString "equal") 372) (Value.ref 129),DictEntry.mk (PyData.keyHash P (Str.ofString "not_equal_witness")) (Value.str (Str.ofString "not_equal_witness") 380) (Value.ref 136),DictEntry.mk (PyData.keyHash P (Str.ofString "less")) (Value.str (Str.ofString "less") 390) (Value.ref 143),DictEntry.mk (PyData.keyHash P (Str.ofString "not_less_witness")) (Value.str (Str.ofString "not_less_witness") 398) (Value.ref 150),DictEntry.mk (PyData.keyHash P (Str.ofString "__static_attributes__")) (Value.str (Str.ofString "__static_attributes__") 404) (Value.ref 151),DictEntry.mk (PyData.keyHash P (Str.ofString "__dict__")) (Value.str (Str.ofString "__dict__") 406) (Value.ref 154),DictEntry.mk (PyData.keyHash P (Str.ofString "__weakref__")) (Value.str (Str.ofString "__weakref__") 408) (Value.ref 155),DictEntry.mk (PyData.keyHash P (Str.ofString "__doc__")) (Value.str (Str.ofString "__doc__") 409) Value.none] 4) #[]
noncomputable def ob153 (_:Params):Obj:=Obj.mk (Value.type "type") none (Data.cls (ClassData.mk (Str.ofString "Whitespace") [Value.type "object"] [Value.ref 153,Value.type "object"] 152 (Str.ofString "Whitespace") true [] [] false none false)) #[none,none,some (Value.str (Str.ofString "Whitespace") 312),some (Value.str (Str.ofString "Whitespace") 320),some (Value.builtin "object.__new__"),some (Value.bool true)]
noncomputable def Kf (P:Params):Frag:=[(2,ob2 P),(3,ob3 P),(34,ob34 P),(35,ob35 P),(41,ob41 P),(42,ob42 P),(44,ob44 P),(45,ob45 P),(107,ob107 P),(108,ob108 P),(114,ob114 P),(115,ob115 P),(121,ob121 P),(122,ob122 P),(142,ob142 P),(143,ob143 P),(152,ob152 P),(153,ob153 P)]
noncomputable def asK:List Addr:=[2,3,34,35,41,42,44,45,107,108,114,115,121,122,142,143,152,153]
theorem asK_eq (P:Params):asK = (Kf P).map (·.1):=rfl
noncomputable abbrev hkK:Hook:=kHook Kf asK asK_eq
noncomputable def vw:Program:={ PySem.Challenge.pw_xc0033_01 with main:={ PySem.Challenge.pw_xc0033_01.main with body:=[0,2,3,4,5,7,8,9,11,13,14,15,16,17,18,19,20,21,22,23,24,25].map (stmtAt PySem.Challenge.pw_xc0033_01) } }
noncomputable def looseL:List Str:=[Str.ofString "Whitespace"]
abbrev rwR:RowW:=PySem.Challenge.rw_xc0033_01.row.toRowW
noncomputable def posOfS:Stmt→Pos
  | .FunctionDef _ _ _ _ _ _ _ _ _ p=>p
  | _=>default
noncomputable def dLaw:DefRec:=⟨(P1 25).name,(P1 25).params,(P1 25).body,(P1 25).scope,posOfS (stmtAt PySem.Challenge.pw_xc0033_01 25)⟩
set_option maxRecDepth 100000
set_option maxHeartbeats 8000000
theorem h_said:PySem.Challenge.rw_xc0033_01.wellSaid = true:=by kernel_rfl
theorem h_left:LeftO rwR.prog vw looseL (fun s=>xlAt vw [] s && recOk (RowW.records rwR) s) (Hook.obs hkK) (Hook.val hkK) 2938:=by
  refine LeftO.of_split "special-get-raises" ?_
  intro w
  kernel_rfl
theorem h_ok:(chainsOk vw && opensWell rwR.prog && (frees rwR && PySem.Challenge.rw_xc0033_01.row.within.isEmpty)) = true:=by kernel_rfl
theorem h_bare:rwR.prog.bare:=⟨rfl,rfl,rfl,rfl,rfl,by decide +kernel⟩
theorem h_def:defOf vw PySem.Challenge.rw_xc0033_01.row.name = some (dLaw,[]):=by kernel_rfl
theorem h_the:rwR.prog.theDef PySem.Challenge.rw_xc0033_01.row.name = some (dLaw.params,dLaw.body,dLaw.scope):=by kernel_rfl
theorem h_kw:kwWritten? dLaw.params.kwonlyargs dLaw.params.kw_defaults = some []:=by kernel_rfl
theorem h_wit:rwR.promised:=by w_witness2
theorem head (walk:WalkO vw looseL (XL vw []) (Hook.says hkK) rwR dLaw [] fun f vs=>PySem.call f vs):PySem.Challenge.rw_xc0033_01.Holds:=
  holds_law h_said fun said=>holds_open (r:=PySem.Challenge.rw_xc0033_01.row) (q:=vw) (loose:=looseL) (Xt:=fun s=>xlAt vw [] s && recOk (RowW.records rwR) s) (XP:=XL vw []) (Yf:=Hook.obs hkK) (Ya:=Hook.val hkK) (YP:=Hook.says hkK) (N:=2938) h_left (Hook.of hkK) (Hook.keeps hkK)
    (fun s e=>xl_of s (Bool.and_eq_true_iff.mp e).1) XL.keeps h_def h_the h_kw (fun s e=>recFacts_of (Bool.and_eq_true_iff.mp e).2) rfl said h_ok h_bare h_wit walk
end Mine
end
section
open PySem PySem.W PyProof.Rows
namespace Mine
set_option maxRecDepth 100000
set_option maxHeartbeats 8000000
theorem ns_some_of {K:Frag} {h:Heap} {N:Addr} {mg:Str→Option Value} {n:Str} {v:Value} (X:K.In h) (G:h.Ns N mg) (e:nsIn K N n = some (some v)):mg n = some v:=by
  obtain ⟨o,es,ep,ho,hd,_,hf⟩:=G
  delta nsIn at e
  split at e
  · rename_i c d es' n' sl q
    have:=X _ _ q
    rw [ho] at this
    cases this
    cases hd
    split at e
    · rename_i e' h'
      rw [← hf]
      obtain ⟨l⟩:=es
      delta nsFind findBy
      rw [List.find?_toArray,h']
      exact Option.some.inj e
    · split at e<;>cases e
  · cases e
section
variable {c:Cx} (X:(Kf c.w.params).In c.h₀) (B:Base c)
include X
theorem k_meth {N:Addr} {mN:Str→Option Value} (G:c.h₀.Ns N mN) {f:FRec} {a:Addr} {qual:Str} {pm code doc:Value} (h1:nsIn (Kf c.w.params) N f.name = some (some (.ref a)))
    (h2:(Kf c.w.params).lookup a = some (Obj.mk (.type "function") none (.func (methDef f.name qual f.params f.body f.scope pm code doc)) #[])) (h3:codeIn (Kf c.w.params) code qual = true):MethAt c mN f a:=
  ⟨_,qual,pm,code,doc,ns_some_of X G h1,X _ _ h2,rfl,rfl,codeRec_of X h3⟩
theorem k_cls {N C:Addr} {x nm q:Str} {t1 t2:Tok} (hb:c.h₀.Ns mainGlobals c.mg) (hn:nsOkIn (Kf c.w.params) N = true) (h0:nsIn (Kf c.w.params) mainGlobals x = some (some (.ref C)))
    (h1:(Kf c.w.params).lookup C = some (excClassObj nm q C N [.type "object"] [.type "object"] true [] [] false none none none none (some (.str x t1)) (some (.str x t2)) (some (.bool true)) "object.__new__"))
    (h2:nsIn (Kf c.w.params) N "__getattribute__" = some none) (h3:nsIn (Kf c.w.params) N "__getattr__" = some none) (h4:nsIn (Kf c.w.params) N "__setattr__" = some none) (hk:keepIn (Kf c.w.params) (.ref C) = true) :
    ClassAt c x C N (c.h₀.nsMap N):=by
  have G:=Heap.Ns.of_isNs (isNs_of_in X hn)
  exact ⟨ns_some_of X hb h0,⟨⟨_,_,_,_,_,_,_,_,_,_,_,_,X _ _ h1⟩,G⟩,ns_none_of X G h2,ns_none_of X G h3,ns_none_of X G h4,fun h hk'=>keeps_K hk h fun a o e=>hk' _ _ (X a o e)⟩
end
theorem tcls {c:Cx} (X:(Kf c.w.params).In c.h₀) (B:Base c):∃ Na mN ai ac,TCls c 45 Na mN ai ac:=by
  have G:=Heap.Ns.of_isNs (isNs_of_in X (N:=44) (by kernel_rfl))
  exact ⟨44,_,35,42,k_cls X B.g (nm:="TupleComp") (q:="TupleComp") (t1:=196) (t2:=204) (by kernel_rfl) (by kernel_rfl) (by kernel_rfl) (by kernel_rfl) (by kernel_rfl) (by kernel_rfl) (by kernel_rfl),
    k_meth X G (qual:="TupleComp.__init__") (pm:=.str "cpy313.pstats" 194) (code:=.ref 34) (doc:=.none) (by kernel_rfl) (by kernel_rfl) (by kernel_rfl),
    k_meth X G (qual:="TupleComp.compare") (pm:=.str "cpy313.pstats" 194) (code:=.ref 41) (doc:=.none) (by kernel_rfl) (by kernel_rfl) (by kernel_rfl),ns_none_of X G (by kernel_rfl)⟩
theorem wcls {c:Cx} (X:(Kf c.w.params).In c.h₀) (B:Base c):∃ Na mN ai al ad ae,WCls c 153 Na mN ai al ad ae:=by
  have G:=Heap.Ns.of_isNs (isNs_of_in X (N:=152) (by kernel_rfl))
  have v:∀ (x y:Str) (t:Tok),readsIn (Kf c.w.params) 153 (.type "type") = true→findCls (Kf c.w.params) (.ref 153) (.type "type") x = some (.val (.str y t))→∃ t,ClsVal c 153 x (.str y t):=fun x y t h1 h2=>⟨t,fun A s Q hk hq=>cls_value (fun a o e=>hk _ _ (X a o e)) h1 h2 rfl hq⟩
  have hr:readsIn (Kf c.w.params) 153 (.type "type") = true:=by kernel_rfl
  exact ⟨152,_,108,115,122,143,k_cls X B.g (nm:="Whitespace") (q:="Whitespace") (t1:=312) (t2:=320) (by kernel_rfl) (by kernel_rfl) (by kernel_rfl) (by kernel_rfl) (by kernel_rfl) (by kernel_rfl) (by kernel_rfl),
    k_meth X G (qual:="Whitespace.__init__") (pm:=.str "cpy313.tabnanny" 310) (code:=.ref 107) (doc:=.none) (by kernel_rfl) (by kernel_rfl) (by kernel_rfl),
    k_meth X G (qual:="Whitespace.longest_run_of_spaces") (pm:=.str "cpy313.tabnanny" 310) (code:=.ref 114) (doc:=.none) (by kernel_rfl) (by kernel_rfl) (by kernel_rfl),
    k_meth X G (qual:="Whitespace.indent_level") (pm:=.str "cpy313.tabnanny" 310) (code:=.ref 121) (doc:=.none) (by kernel_rfl) (by kernel_rfl) (by kernel_rfl),
    k_meth X G (qual:="Whitespace.less") (pm:=.str "cpy313.tabnanny" 310) (code:=.ref 142) (doc:=.none) (by kernel_rfl) (by kernel_rfl) (by kernel_rfl),
    v _ _ 325 hr (by kernel_rfl),v _ _ 326 hr (by kernel_rfl),ns_none_of X G (by kernel_rfl),ns_none_of X G (by kernel_rfl),ns_none_of X G (by kernel_rfl),ns_none_of X G (by kernel_rfl),ns_none_of X G (by kernel_rfl)⟩
set_option maxRecDepth 100000
set_option maxHeartbeats 8000000
noncomputable def adF (c:Cx) (k:Nat):Addr:=match c.mg (P1 k).name with
  | some (.ref a)=>a
  | _=>0
section
variable {c:Cx} {lo:List Str} {mean:ExcName→Option Value} (T:Top vw lo mean c.mg c.mb c.h₀)
include T
theorem base_top:Base c:=⟨T.g,T.b,T.nolimit⟩
theorem fun_top (i k:Nat) (h:((recsOf vw)[i]?.map fun d=>(d.name,d.params,d.body,d.scope)) = some ((P1 k).name,(P1 k).params,(P1 k).body,(P1 k).scope)):FunAt c (P1 k) (adF c k):=by
  refine bc fun g=>?_;obtain ⟨d,hd,e⟩:=Option.map_eq_some_iff.mp h
  simp only [Prod.mk.injEq] at e
  obtain ⟨e1,e2,e3,e4⟩:=e
  obtain ⟨a,o,pm,code,doc,h1,h2,h3,h4⟩:=T.fn d (List.mem_of_getElem? hd)
  rw [e1] at h1 h4
  rw [e1,e2,e3,e4] at h3
  have:adF c k = a:=by delta adF;rw [h1]
  refine g ?_;rw [this]
  exact ⟨o,pm,code,doc,h1,h2,h3,h4⟩
theorem glob_top (X:(Kf c.w.params).In c.h₀) {x:Str} {v:Value} (h0:nsIn (Kf c.w.params) mainGlobals x = some none) (h1:bootBuiltins x = some v) (h2:x ≠ "__name__"):Glob c x v:=
  .inr ⟨ns_none_of X T.g h0,(T.builtins x h2).trans h1⟩
theorem fns_top:LawFns c (adF c):=
  ⟨fun_top T 1 3 (by kernel_rfl),fun_top T 2 4 (by kernel_rfl),fun_top T 3 5 (by kernel_rfl),fun_top T 4 7 (by kernel_rfl),fun_top T 5 8 (by kernel_rfl),fun_top T 6 9 (by kernel_rfl),fun_top T 7 13 (by kernel_rfl),fun_top T 8 14 (by kernel_rfl),fun_top T 9 15 (by kernel_rfl),fun_top T 10 16 (by kernel_rfl),fun_top T 11 17 (by kernel_rfl),fun_top T 12 18 (by kernel_rfl),fun_top T 13 19 (by kernel_rfl),fun_top T 14 20 (by kernel_rfl),fun_top T 15 21 (by kernel_rfl),fun_top T 16 22 (by kernel_rfl),fun_top T 17 23 (by kernel_rfl),fun_top T 18 24 (by kernel_rfl),fun_top T 19 25 (by kernel_rfl)⟩
theorem gl_top (X:(Kf c.w.params).In c.h₀):LawGl c:=
  ⟨glob_top T X (by kernel_rfl) (by kernel_rfl) (by decide +kernel),glob_top T X (by kernel_rfl) (by kernel_rfl) (by decide +kernel),glob_top T X (by kernel_rfl) (by kernel_rfl) (by decide +kernel),glob_top T X (by kernel_rfl) (by kernel_rfl) (by decide +kernel),glob_top T X (by kernel_rfl) (by kernel_rfl) (by decide +kernel),glob_top T X (by kernel_rfl) (by kernel_rfl) (by decide +kernel),glob_top T X (by kernel_rfl) (by kernel_rfl) (by decide +kernel),glob_top T X (by kernel_rfl) (by kernel_rfl) (by decide +kernel),glob_top T X (by kernel_rfl) (by kernel_rfl) (by decide +kernel),glob_top T X (by kernel_rfl) (by kernel_rfl) (by decide +kernel),glob_top T X (by kernel_rfl) (by kernel_rfl) (by decide +kernel)⟩
end
theorem reps_ints {c:Cx} {h:Heap} {Z:Addr→Prop} {vs:List Value} {ns:List Int} (I:IntsAre vs ns):Reps c h Z vs (ns.map .int):=by
  induction I with
  | nil=>exact .nil
  | cons _ _ _ ih=>exact .cons .int ih
theorem cw_of (L:∀ ns:List Int,∃ sh ks d K v,LawOk (cellsF ns told1) sh ks d K v):PySem.Challenge.rw_xc0033_01.Holds:=head (by
  w_on
  intro w s₀ s₁ mg mb G Y fa o pm cd doc dV kV ho hd hcd hD hmg hg args vals as hpre hlay hrd hwl hlo
  refine Ground.open G ?_
  intro T B D TE TW
  wrow_args hpre hlay hrd hwl hlo
  rename_i ns _ _ _ _ _ _ _ l vs _ hL _ w1 _ hI _ hcond _
  let c:Cx:=⟨rwR.prog,w,s₁.heap,mg,mb,s₁.os⟩
  have T':Top vw (looseW vw looseL) (ExcName.means s₀.heap) c.mg c.mb c.h₀:=T
  have X':(Kf c.w.params).In c.h₀:=(kIn_of Y)
  refine bc fun g=>?_;obtain ⟨Na,mN,ai,ac,TC⟩:=tcls X' (base_top T')
  obtain ⟨Na',mN',ai',al',ad',ae',WC⟩:=wcls X' (base_top T')
  obtain ⟨sh,ks,dd,K,v,LK⟩:=L ns
  have H:=s_law (n:=0) (base_top T') (gl_top T' X') (fns_top T') TC WC ns (by lia) LK
  have hf:adF c 25 = fa:=by
    refine (?_:(match mg (P1 25).name with | some (.ref a)=>a | _=>0) = fa)
    rw [show mg (P1 25).name = some (Value.ref fa) from hmg]
  have hP:PlainL s₁.heap l vs.toArray∧IntsAre vs ns:=by
    refine ⟨?_,hI⟩
    refine bc fun g=>?_;cases w1 with
    | list h0 _=>
      obtain ⟨o1,e1,e2,n1,e3⟩:=hL
      rw [h0] at e1
      cases e1
      simp only [Data.seq.injEq] at e3
      obtain ⟨e3,_⟩:=e3
      refine g ?_;exact ⟨_,0,h0,rfl,rfl,by rw [e3]⟩
  have r:Reps c s₁.heap (fun a=>∃ o,s₁.heap.get? a = some o) [.ref l] [intsD ns]:=by
    obtain ⟨o1,n1,h1,h2⟩:=hP.1
    exact .cons (.list ⟨_,h1⟩ ⟨o1,n1,h1,h2⟩ (reps_ints hI)) .nil
  rw [hf] at H
  refine g ?_;refine wpAny_mono (H callerA s₁ _ [.ref l] ⟨rfl,by decide,by decide +kernel⟩ (⟨fun _ _ e=>e,fun _ o e=>⟨o,e⟩,fun _ e=>e,rfl,.of_eq hg⟩) r) (?_) fun _ _ x=>x.elim;intro v s' q;refine bc fun g=>?_;obtain ⟨Z',I',E',r'⟩:=q;refine g (?_)
  cases r'
  exact ⟨.inl ⟨_,.bool true,[],rfl,fun _=>rfl,.bool true,by wrow_post,fun _=>⟨.nil,by simp⟩⟩,.of_keep fun b o e=>E'.keep b o id e,I'.os,I'.bare⟩)
end Mine
end
section
open PySem PySem.W PyProof.Rows
theorem PySem.Challenge.cw_xc0033_01_holds : PySem.Challenge.rw_xc0033_01.Holds :=
  Mine.cw_of fun ns=>Mine.law_ok _ (by delta Mine.cellsF;rw [List.length_map,Mine.enumL_len];rfl)
end
