import PyProof.Rows.All
import Wide.All
import OpenK.AllK
import Wide.FinOn
import PyProof.ZipIter
import Lean
import PySem.Challenge.RW_wz0003_01
open PySem PySem.W PySem.Calls PyProof.Rows
set_option Elab.async false
set_option maxRecDepth 10000
set_option tactic.hygienic false
set_option genSizeOf false
set_option genInjectivity false
set_option bootstrap.genMatcherCode false
set_option linter.unusedVariables false
set_option linter.unusedSimpArgs false
set_option linter.unusedSectionVars false
namespace Mine
local macro_rules | `(tactic| walk_at "m")=>`(tactic| (with_reducible repeat' (first | exact List.mem_cons_self | refine' List.mem_cons_of_mem _ ?_)))
section
set_option backward.match.sparseCases false
def sn (k:Lean.Name) (a:Array Lean.Syntax):Lean.Syntax:=.node .none k a
def sa (s:String):Lean.Syntax:=.atom .none s
def si (s:String) (n:Lean.Name):Lean.Syntax:=.ident .none s.toRawSubstring n []
def sq (a:Array Lean.Syntax):Lean.Syntax:=sn ``Lean.Parser.Tactic.tacticSeq #[sn ``Lean.Parser.Tactic.tacticSeq1Indented #[sn `null a]]
def sh:Lean.Syntax:=sn ``Lean.Parser.Term.hole #[sa "_"]
def se (f:Lean.Syntax) (x:Lean.Syntax):Lean.Syntax:=sn ``Lean.Parser.Tactic.exact #[sa "exact",sn ``Lean.Parser.Term.app #[f,sn `null #[x]]]
def sr:Lean.Syntax:=sn ``Lean.Parser.Tactic.tacticRfl #[sa "rfl"]
def kr:Lean.Syntax:=sq #[sn `tacticKernel_rfl #[sa "kernel_rfl"]]
def rf:Lean.Syntax:=sq #[sr]
def dk:Lean.Syntax:=sq #[sn ``Lean.Parser.Tactic.decide #[sa "decide",sn ``Lean.Parser.Tactic.optConfig #[sn `null #[sn ``Lean.Parser.Tactic.configItem #[sn ``Lean.Parser.Tactic.posConfigItem #[sa "+",si "kernel" `kernel]]]]]]
def i1:Lean.Syntax:=sq #[sn ``Lean.Parser.Tactic.intro #[sa "intro",sn `null #[sh]],sa ";",sr]
def i2:Lean.Syntax:=sq #[sn ``Lean.Parser.Tactic.intro #[sa "intro",sn `null #[sh,sh]],sa ";",sr]
def wu:Lean.Syntax:=sq #[sn ``Lean.Parser.Tactic.withUnfoldingAll #[sa "with_unfolding_all",sq #[sr]]]
def nb:Lean.Syntax:=sq #[se (si "Nat.le_of_ble_eq_true" `Nat.le_of_ble_eq_true) (si "rfl" `rfl)]
def ler:Lean.Syntax:=sq #[sn ``Lean.Parser.Tactic.first #[sa "first",sn `null #[sn `group #[sa "|",sq #[se (si "Nat.le_refl" `Nat.le_refl) sh]],sn `group #[sa "|",sq #[sn ``Lean.Parser.Tactic.omega #[sa "omega",sn ``Lean.Parser.Tactic.optConfig #[sn `null #[]]]]]]]]
structure Up (s s':Shared):Prop where
 h:s.heap.objs.size≤s'.heap.objs.size
 g:s.gens.size≤s'.gens.size
 t:s.toks≤s'.toks
theorem Up.refl (s:Shared):Up s s:=⟨Nat.le_refl _,Nat.le_refl _,Nat.le_refl _⟩
theorem Up.trans {a b c:Shared}(x:Up a b) (y:Up b c):Up a c:=⟨Nat.le_trans x.h y.h,Nat.le_trans x.g y.g,Nat.le_trans x.t y.t⟩
theorem Up.of {a b c:Shared}(y:Up b c) (x:Up a b):Up a c:=x.trans y
theorem Up.same {s s':Shared}(h:s'.heap.objs.size=s.heap.objs.size) (g:s'.gens.size=s.gens.size) (t:s'.toks=s.toks):Up s s':=⟨Nat.le_of_eq h.symm,Nat.le_of_eq g.symm,Nat.le_of_eq t.symm⟩
theorem up_setGen (s:Shared) (g:Nat) (x:GenState):Up s (s.setGen g x):=.same rfl (by simp[Shared.setGen]) rfl
theorem runs_up {M:Model}{Γ:Ctx}{p:Pos}{t:Sem Fin}{fs:List Frame}{s s':Shared}{e:End}(h:Runs M Γ p t fs s e s'):Up s s':=by
 induction h with
 | done | raise | yield=>exact .refl _
 | again _ _ ih | load _ _ ih | genState _ _ ih | resumeRunning _ _ ih | resumeFinished _ _ ih=>exact ih
 | rule _ ih | «at» _ ih | loadIfAlive _ ih | point _ ih | ask _ ih | handled _ ih | stack _ ih | thread _ ih | callSusp _ ih=>exact ih
 | update _ _ ih=>exact ih.of (.same (Heap.size_after_update ..) rfl rfl)
 | alloc _ ih=>exact ih.of ⟨by rw[Heap.size_push];exact Nat.le_succ _,Nat.le_refl _,Nat.le_refl _⟩
 | fresh _ ih=>exact ih.of ⟨Nat.le_refl _,Nat.le_refl _,Nat.le_succ _⟩
 | choose _ _ ih=>exact ih.of (.same rfl rfl rfl)
 | os _ ih=>exact ih.of (.same rfl rfl rfl)
 | newGen _ ih=>exact ih.of ⟨Nat.le_refl _,by rw[Array.size_push];exact Nat.le_succ _,Nat.le_refl _⟩
 | call _ _ i1 i2 | segRet _ _ i1 i2=>exact i1.trans i2
 | resumeFresh _ _ _ _ i1 i2 | resumeSuspended _ _ _ _ i1 i2=>exact(up_setGen _ _ _).trans (i1.trans ((up_setGen _ _ _).trans i2))
 | resumeJustStarted _ _ _ ih | segSuspOut _ _ ih=>exact ih
 | resumeThrowFresh _ _ ih=>exact(up_setGen _ _ _).trans ih
 | segGen _ _ i1 i2 | segSuspGen _ _ _ _ i1 i2=>exact i1.trans ((up_setGen _ _ _).trans i2)
theorem returns_up {M:Model}{Γ:Ctx}{p:Pos}{s s':Shared}{r:Result}(h:Returns M Γ p s r s'):Up s s':=runs_up h
theorem wakes_up {M:Model}{Γ:Ctx}{p:Pos}{g:Nat}{r:Resume}{s s':Shared}{res:GenResult}(h:Wakes M Γ p g r s res s'):Up s s':=
 runs_up ((Sem.runs_resume_iff _ _ (l:=[]) (k:=fun J=>.pure (.done (.ret .none)))).mpr ⟨_,_,h,.done⟩)
theorem wp_up {α:Type}(M:Model) (Γ:Ctx) (s₀:Shared) (t:Sem α):∀(Q:α→Pos→Shared→Prop) (E:Value→Pos→Shared→Prop) (p:Pos) (s:Shared),Up s₀ s→Sem.wp M Γ t Q E p s →
  Sem.wp M Γ t (fun a p' s'=>Up s₀ s'∧Q a p' s') (fun e p' s'=>Up s₀ s'∧E e p' s') p s:=by
 induction t with
 | pure a=>intro Q E p s hn h;exact⟨hn,h⟩
 | raise e=>intro Q E p s hn h;exact⟨hn,h⟩
 | unsupported _=>intro Q E p s _ h;exact h
 | finish _=>intro Q E p s _ h;exact h
 | rule _ k ih=>intro Q E p s hn h;exact ih () Q E p s hn h
 | «at» p' k ih=>intro Q E p s hn h;exact ih () Q E p' s hn h
 | load a _ k ih=>intro Q E p s hn h;obtain⟨o,ho,h⟩:=h;exact⟨o,ho,ih o Q E p s hn h⟩
 | update a _ f k ih=>intro Q E p s hn h;exact⟨h.1,ih () Q E p _ ⟨by simpa using hn.h,hn.g,hn.t⟩ h.2⟩
 | loadIfAlive a k ih=>intro Q E p s hn h;exact ih _ Q E p s hn h
 | point _ k ih=>intro Q E p s hn h;exact ih () Q E p s hn h
 | register _ _=>intro Q E p s _ h;exact h
 | alloc o k ih=>intro Q E p s hn h;exact ih _ Q E p _ ⟨by have:=hn.h;simp only[Heap.size_push];lia,hn.g,hn.t⟩ h
 | fresh k ih=>intro Q E p s hn h;exact ih _ Q E p _ ⟨hn.h,hn.g,Nat.le_succ_of_le hn.t⟩ h
 | ask k ih=>intro Q E p s hn h;exact ih _ Q E p s hn h
 | choose src m k ih=>intro Q E p s hn h;exact⟨h.1,ih _ Q E p _ ⟨hn.h,hn.g,hn.t⟩ h.2⟩
 | os q _ k ih=>intro Q E p s hn h;exact ih _ Q E p _ ⟨hn.h,hn.g,hn.t⟩ h
 | call c hd _ _ k ih=>intro Q E p s hn h;obtain⟨r,s',hr,h⟩:=h;exact⟨r,s',hr,ih r Q E p s' (hn.trans (returns_up hr)) h⟩
 | handled own k ih=>intro Q E p s hn h;exact ih _ Q E p s hn h
 | genState g k ih=>intro Q E p s hn h;obtain⟨st,hs,h⟩:=h;exact⟨st,hs,ih _ Q E p s hn h⟩
 | newGen c k ih=>intro Q E p s hn h;exact ih _ Q E p _ ⟨hn.h,by have:=hn.g;simp only[Array.size_push];lia,hn.t⟩ h
 | resume g r _ k ih=>intro Q E p s hn h;obtain⟨res,s',hw,h⟩:=h;exact⟨res,s',hw,ih res Q E p s' (hn.trans (wakes_up hw)) h⟩
 | yield _ _ _ _=>intro Q E p s _ h;exact h
 | stack k ih=>intro Q E p s hn h;exact ih _ Q E p s hn h
 | fork _ _=>intro Q E p s _ h;exact h
 | thread k ih=>intro Q E p s hn h;exact ih _ Q E p s hn h
 | await _ _ _ _ _=>intro Q E p s _ h;exact h
theorem sub_s {a b c:Nat}(h:a-b=c+1):a-(b+1)=c:=congrArg Nat.pred h
theorem lt_of_sub_s {a b c:Nat}(h:a-b=c+1):b<a:=Nat.lt_of_sub_pos (Nat.lt_of_lt_of_eq (Nat.succ_pos c) h.symm)
theorem three {r:Int}(h:0≤r∧r<3):r=0∨r=1∨r=2:=by lia
theorem tnl {i:Int}{n m:Nat}(e:n=m) (h0:0≤i) (h:i<(m:Int)):i.toNat<n:=by rw[e];exact(Int.toNat_lt h0).mpr h
theorem c62 {a:Nat}(h:a≤4096):(a:Int)<2^62:=Int.lt_of_le_of_lt (Int.ofNat_le.mpr h) (by decide)
inductive D where
 | none
 | bool (b:Bool)
 | int (i:Int)
 | str (s:Str)
 | bytes (b:Array UInt8)
 | list (xs:List D)
 | tuple (xs:List D)
 | dictS (ks:List Str) (vs:List D)
 | dictI (ks:List Int) (vs:List D)
 | cmp (keys:D)
 | ty (T:String)
 | rng (k:Nat)
noncomputable abbrev FZ:=Addr→Option Obj
set_option genInjectivity false in
structure Cx where
 prog:Program
 w:World
 hb:Heap
 mg:Str→Option Value
 mb:Str→Option Value
 K:Frag
 tc:Addr
 g:hb.Ns mainGlobals mg
 b:hb.Ns builtinsNs mb
 bi:∀x:Str,x≠"__name__"→mb x=bootBuiltins x
 nolimit:hb.NoLimit
 KX:K.In hb
noncomputable abbrev lObj (vs:List Value) (n:Nat):Obj:={ cls:=.type "list",data:=.seq vs.toArray n }
noncomputable abbrev tObj (vs:List Value) (n:Nat):Obj:={ cls:=.type "tuple",data:=.seq vs.toArray n }
noncomputable abbrev dObj (es:Array DictEntry) (n:Nat):Obj:={ cls:=.type "dict",data:=.dict es n }
structure DAt {p:Program} {w:World} {K:Type} [DecidableEq K] (knd:KeyKind p w K) (o:Option Obj) (a:Addr) (es:Array DictEntry) (n:Nat) (vs:List Value) (ks:List K):Prop where
 z:mainGlobals<a
 is:o=some (dObj es n)
 keys:KeysOf knd es
 pairs:Pairs knd es.toList (ks.zip vs)
 len:ks.length=vs.length
 nd:ks.Nodup
structure DPre {p:Program} {w:World} {K:Type} [DecidableEq K] (knd:KeyKind p w K) (o:Obj) (es:Array DictEntry) (n:Nat) (vs:List Value) (ks:List K):Prop where
 is:o=dObj es n
 keys:KeysOf knd es
 pairs:Pairs knd es.toList (ks.zip vs)
 len:ks.length=vs.length
 nd:ks.Nodup
section
variable {p:Program}{w:World}{K:Type}[DecidableEq K] {knd:KeyKind p w K}{o:Option Obj}{ob:Obj}{a:Addr}{es:Array DictEntry}{n:Nat}{vs:List Value}{ks:List K}
theorem DPre.at (h:DPre knd ob es n vs ks) (z:mainGlobals<a) (e:o=some ob):DAt knd o a es n vs ks:=⟨z,h.is▸e,h.keys,h.pairs,h.len,h.nd⟩
theorem DAt.pre (h:DAt knd o a es n vs ks):DPre knd (dObj es n) es n vs ks:=⟨rfl,h.keys,h.pairs,h.len,h.nd⟩
end
mutual
inductive R (C:Cx) (F:FZ):Value→D→Prop
 | none:R C F .none .none
 | bool (b):R C F (.bool b) (.bool b)
 | int (i t):R C F (.int i t) (.int i)
 | str (x t):R C F (.str x t) (.str x)
 | bytes (x t):R C F (.bytes x t) (.bytes x)
 | ty (T):R C F (.type T) (.ty T)
 | rng {a t u v k}:F a=some { cls:=.type "range",data:=.fields #[.int 0 t,.int (k:Nat) u,.int 1 v] }→R C F (.ref a) (.rng k)
 | list {a vs n ds}:F a=some (lObj vs n)→RA C F vs ds→R C F (.ref a) (.list ds)
 | tuple {a vs n ds}:F a=some (tObj vs n)→RA C F vs ds→R C F (.ref a) (.tuple ds)
 | dictS {a es n vs ks ds}:DAt (strKind C.prog C.w) (F a) a es n vs ks→RA C F vs ds→R C F (.ref a) (.dictS ks ds)
 | dictI {a es n vs ks ds}:DAt (intKind C.prog C.w) (F a) a es n vs ks→RA C F vs ds→R C F (.ref a) (.dictI ks ds)
 | cmp {x dx h t v n keys}:F x=some (instObj C.tc dx)→F dx=some (dObj #[⟨h,.str "comp_select_list" t,v⟩] n)→R C F v keys→R C F (.ref x) (.cmp keys)
inductive RA (C:Cx) (F:FZ):List Value→List D→Prop
 | nil:RA C F [] []
 | cons {v vs d ds}:R C F v d→RA C F vs ds→RA C F (v::vs) (d::ds)
end
noncomputable def FZ.Le (F F':FZ):Prop:=∀a o,F a=some o→F' a=some o
inductive SeqR (C:Cx) (F:FZ) (f:List Value→Nat→Obj) (v:Value) (ds:List D):Prop
 | mk (a:Addr) (vs:List Value) (n:Nat) (e:v=.ref a) (h:F a=some (f vs n)) (r:RA C F vs ds)
inductive DictR (C:Cx) (F:FZ) (G:Addr→Option Obj) {K:Type} [DecidableEq K] (knd:KeyKind C.prog C.w K) (v:Value) (ks:List K) (ds:List D):Prop
 | mk (a:Addr) (es:Array DictEntry) (n:Nat) (vs:List Value) (e:v=.ref a) (h:DAt knd (G a) a es n vs ks) (r:RA C F vs ds)
inductive CmpR (C:Cx) (F:FZ) (v:Value) (keys:D):Prop
 | mk (x dx:Addr) (n:Nat) (h:Int) (t:Tok) (w:Value) (e:v=.ref x) (hx:F x=some (instObj C.tc dx)) (hd:F dx=some (dObj #[⟨h,.str "comp_select_list" t,w⟩] n)) (r:R C F w keys)
noncomputable def RInv (C:Cx) (F:FZ) (v:Value):D→Prop
 | .none=>v=.none
 | .bool b=>v=.bool b
 | .int i=>∃t,v=.int i t
 | .str x=>∃t,v=.str x t
 | .bytes x=>∃t,v=.bytes x t
 | .ty T=>v=.type T
 | .rng k=>∃a t u w,v=.ref a∧F a=some { cls:=.type "range",data:=.fields #[.int 0 t,.int (k:Nat) u,.int 1 w] }
 | .list ds=>SeqR C F lObj v ds
 | .tuple ds=>SeqR C F tObj v ds
 | .dictS ks ds=>DictR C F F (strKind C.prog C.w) v ks ds
 | .dictI ks ds=>DictR C F F (intKind C.prog C.w) v ks ds
 | .cmp keys=>CmpR C F v keys
section
variable {C:Cx}{F:FZ}
theorem R.inv {v d} (h:R C F v d):RInv C F v d:=by
 cases h with
 | none=>exact rfl
 | bool=>exact rfl
 | int=>exact⟨_,rfl⟩
 | str=>exact⟨_,rfl⟩
 | bytes=>exact⟨_,rfl⟩
 | ty=>exact rfl
 | rng e=>exact⟨_,_,_,_,rfl,e⟩
 | list e r=>exact .mk _ _ _ rfl e r
 | tuple e r=>exact .mk _ _ _ rfl e r
 | dictS e r=>exact .mk _ _ _ _ rfl e r
 | dictI e r=>exact .mk _ _ _ _ rfl e r
 | cmp a b r=>exact .mk _ _ _ _ _ _ rfl a b r
theorem R.int_inv {v i} (h:R C F v (.int i)):∃t,v=.int i t:=h.inv
theorem R.str_inv {v i} (h:R C F v (.str i)):∃t,v=.str i t:=h.inv
theorem R.bool_inv {v i} (h:R C F v (.bool i)):v=.bool i:=h.inv
theorem R.none_inv {v} (h:R C F v .none):v=.none:=h.inv
theorem R.bytes_inv {v i} (h:R C F v (.bytes i)):∃t,v=.bytes i t:=h.inv
theorem R.list_inv {v ds} (h:R C F v (.list ds)):SeqR C F lObj v ds:=h.inv
theorem R.tuple_inv {v ds} (h:R C F v (.tuple ds)):SeqR C F tObj v ds:=h.inv
theorem R.dictS_inv {v ks ds} (h:R C F v (.dictS ks ds)):DictR C F F (strKind C.prog C.w) v ks ds:=h.inv
theorem R.dictI_inv {v ks ds} (h:R C F v (.dictI ks ds)):DictR C F F (intKind C.prog C.w) v ks ds:=h.inv
theorem R.cmp_inv {v keys} (h:R C F v (.cmp keys)):CmpR C F v keys:=h.inv
theorem DAt.to {p:Program}{w:World}{K:Type}[DecidableEq K] {knd:KeyKind p w K}{o o':Option Obj}{a:Addr}{es:Array DictEntry}{n:Nat}{vs:List Value}{ks:List K}(h:DAt knd o a es n vs ks) (k:∀x,o=some x→o'=some x):DAt knd o' a es n vs ks:=⟨h.z,k _ h.is,h.keys,h.pairs,h.len,h.nd⟩
noncomputable def RAInv (C:Cx) (F:FZ) (vs:List Value):List D→Prop
 | []=>vs=[]
 | d::ds=>∃v ws,vs=v::ws∧R C F v d∧RA C F ws ds
theorem RA.inv {vs ds} (h:RA C F vs ds):RAInv C F vs ds:=by
 cases h with
 | nil=>exact rfl
 | cons a r=>exact⟨_,_,rfl,a,r⟩
theorem RA.nil_inv {vs} (h:RA C F vs []):vs=[]:=h.inv
theorem RA.cons_inv {vs d ds} (h:RA C F vs (d::ds)):∃v ws,vs=v::ws∧R C F v d∧RA C F ws ds:=h.inv
theorem RA.one_inv {vs d} (h:RA C F vs [d]):∃v,vs=[v]∧R C F v d:=by
 obtain⟨v,ws,rfl,a,r⟩:=h.cons_inv
 exact⟨v,by rw[r.nil_inv],a⟩
theorem RA.two_inv {vs d e} (h:RA C F vs [d,e]):∃v w,vs=[v,w]∧R C F v d∧R C F w e:=by
 obtain⟨v,ws,rfl,a,r⟩:=h.cons_inv
 obtain⟨w,rfl,b⟩:=r.one_inv
 exact⟨v,w,rfl,a,b⟩
theorem RA.three_inv {vs d e f} (h:RA C F vs [d,e,f]):∃v w x,vs=[v,w,x]∧R C F v d∧R C F w e∧R C F x f:=by
 obtain⟨v,ws,rfl,a,r⟩:=h.cons_inv
 obtain⟨w,x,rfl,b⟩:=r.two_inv
 exact⟨v,w,x,rfl,a,b⟩
theorem RA.ind {P:List Value→List D→Prop}(h0:P [] []) (h1:∀v vs d ds,R C F v d→RA C F vs ds→P vs ds→P (v::vs) (d::ds)) {vs ds} (h:RA C F vs ds):P vs ds:=by
 induction ds generalizing vs with
 | nil=>rw[h.nil_inv];exact h0
 | cons d ds ih=>obtain⟨v,ws,e,a,r⟩:=h.cons_inv;rw[e];exact h1 v ws d ds a r (ih r)
theorem R.mono {F':FZ}(h:F.Le F') {v d} (r:R C F v d):R C F' v d:=
 R.rec (motive_1:=fun v d J=>R C F' v d) (motive_2:=fun vs ds J=>RA C F' vs ds) .none .bool .int .str .bytes .ty (fun e=>.rng (h _ _ e)) (fun e J ih=>.list (h _ _ e) ih) (fun e J ih=>.tuple (h _ _ e) ih)
  (fun e J ih=>.dictS (e.to (h _)) ih) (fun e J ih=>.dictI (e.to (h _)) ih) (fun e e' J ih=>.cmp (h _ _ e) (h _ _ e') ih) .nil (fun J J a b=>.cons a b) r
theorem RA.mono {F':FZ}(h:F.Le F') {vs ds} (r:RA C F vs ds):RA C F' vs ds:=RA.ind .nil (fun J J J J a J ih=>.cons (a.mono h) ih) r
theorem RA.length {vs ds} (r:RA C F vs ds):vs.length=ds.length:=RA.ind (P:=fun vs ds=>vs.length=ds.length) rfl (fun J J J J J J ih=>congrArg Nat.succ ih) r
theorem RA.append {vs ds ws es} (r:RA C F vs ds) (k:RA C F ws es):RA C F (vs++ws) (ds++es):=RA.ind (P:=fun vs ds=>RA C F (vs++ws) (ds++es)) k (fun J J J J a J ih=>.cons a ih) r
theorem RA.one {v d} (h:R C F v d):RA C F [v] [d]:=.cons h .nil
theorem RA.get? {vs ds} (r:RA C F vs ds) {i:Nat}{d} (h:ds[i]?=some d):∃v,vs[i]?=some v∧R C F v d:=by
 refine RA.ind (P:=fun vs ds=>∀(i:Nat) d,ds[i]?=some d→∃v,vs[i]?=some v∧R C F v d) (fun i d h=>by cases h) (fun v vs d ds a J ih i d' h=>?_) r i d h
 cases i with
 | zero=>cases h;exact⟨_,rfl,a⟩
 | succ i=>exact ih i d' h
theorem RA.get?' {vs ds} (r:RA C F vs ds) {i:Nat}{v} (h:vs[i]?=some v):∃d,ds[i]?=some d∧R C F v d:=by
 refine RA.ind (P:=fun vs ds=>∀(i:Nat) v,vs[i]?=some v→∃d,ds[i]?=some d∧R C F v d) (fun i d h=>by cases h) (fun v vs d ds a J ih i d' h=>?_) r i v h
 cases i with
 | zero=>cases h;exact⟨_,rfl,a⟩
 | succ i=>exact ih i d' h
theorem RA.reverse {vs ds} (r:RA C F vs ds):RA C F vs.reverse ds.reverse:=
 RA.ind (P:=fun vs ds=>RA C F vs.reverse ds.reverse) .nil (fun v vs d ds a J ih=>by rw[List.reverse_cons,List.reverse_cons];exact ih.append (.one a)) r
end
noncomputable def FZ.In (F:FZ) (h:Heap):Prop:=∀a o,F a=some o→h.get? a=some o
structure Ok (C:Cx) (F:FZ) (s:Shared):Prop where
 inn:F.In s.heap
 base:∀a o,C.hb.get? a=some o→F a=some o
 tok:1≤s.toks
structure Grow (F F':FZ) (s s':Shared):Prop where
 le:F.Le F'
 old:∀a:Nat,a<s.heap.objs.size→F' a=F a
 inn:F'.In s'.heap
 keep:∀b o,s.heap.get? b=some o→s'.heap.get? b=some o
 size:s.heap.objs.size≤s'.heap.objs.size
 os:s'.os=s.os
 gen:∀(i:Nat) x,s.gens[i]?=some x→s'.gens[i]?=some x
 gsize:s.gens.size≤s'.gens.size
 bare:AllBare s.gens→AllBare s'.gens
 tk:s.toks≤s'.toks
theorem Ok.grow {C:Cx}{F F':FZ}{s s':Shared}(k:Ok C F s) (g:Grow F F' s s'):Ok C F' s':=⟨g.inn,fun a o e=>g.le _ _ (k.base a o e),Nat.le_trans k.tok g.tk⟩
theorem Ok.keep {C:Cx}{F:FZ}{s:Shared}(k:Ok C F s):∀b o,C.hb.get? b=some o→s.heap.get? b=some o:=fun b o e=>k.inn _ _ (k.base b o e)
theorem FZ.Le.refl (F:FZ):F.Le F:=fun J J e=>e
theorem FZ.Le.trans {F F' F'':FZ}(h:F.Le F') (h':F'.Le F''):F.Le F'':=fun J J e=>h' _ _ (h _ _ e)
theorem FZ.In.none {F:FZ}{h:Heap}(i:F.In h) {a:Nat}(ha:h.objs.size≤a):F a=none:=by
 cases e:F a with
 | none=>rfl
 | some o=>exact absurd (Heap.lt_size (i a o e)) (Nat.not_lt.mpr ha)
namespace Grow
variable {F F' F'':FZ}{s s' s'':Shared}
theorem refl (i:F.In s.heap):Grow F F s s:=⟨.refl _,fun J J=>rfl,i,fun J J e=>e,Nat.le_refl _,rfl,fun J J e=>e,Nat.le_refl _,id,Nat.le_refl _⟩
theorem trans (a:Grow F F' s s') (b:Grow F' F'' s' s''):Grow F F'' s s'':=
 ⟨a.le.trans b.le,fun x hx=>(b.old x (Nat.lt_of_lt_of_le hx a.size)).trans (a.old x hx),b.inn,fun x o e=>b.keep x o (a.keep x o e),Nat.le_trans a.size b.size,
  b.os.trans a.os,fun i x e=>b.gen i x (a.gen i x e),Nat.le_trans a.gsize b.gsize,fun h=>b.bare (a.bare h),Nat.le_trans a.tk b.tk⟩
theorem same (i:F.In s.heap) {h':Heap}{tk:Nat}(k:∀b o,s.heap.get? b=some o→h'.get? b=some o) (hz:s.heap.objs.size≤h'.objs.size) (ht:autoParam (s.toks≤tk) ler):Grow F F s { s with heap:=h',toks:=tk }:=
 ⟨.refl _,fun J J=>rfl,fun a o e=>k a o (i a o e),k,hz,rfl,fun J J e=>e,Nat.le_refl _,id,ht⟩
theorem tok (i:F.In s.heap) {tk:Nat}(ht:autoParam (s.toks≤tk) ler):Grow F F s { s with toks:=tk }:=same i (fun J J e=>e) (Nat.le_refl _) ht
end Grow
noncomputable def FZ.add (F:FZ) (a:Addr) (o:Obj):FZ:=fun b=>if b=a then some o else F b
theorem FZ.add_self {F:FZ}{a:Addr}{o:Obj}:F.add a o a=some o:=by simp[FZ.add]
theorem FZ.le_add {F:FZ}{a:Addr}{o:Obj}(h:F a=none):F.Le (F.add a o):=fun b o' e=>by
 unfold FZ.add
 split
 ·rename_i hb;rw[hb,h] at e;cases e
 ·exact e
theorem Grow.freeze {F F':FZ}{s s':Shared}(g:Grow F F' s s') {a:Nat}{o:Obj}(ha:s.heap.objs.size≤a) (hF:F' a=none) (ho:s'.heap.get? a=some o):Grow F (F'.add a o) s s':=by
 refine⟨g.le.trans (FZ.le_add hF),fun x hx=>?_,fun b o' e=>?_,g.keep,g.size,g.os,g.gen,g.gsize,g.bare,g.tk⟩
 ·unfold FZ.add
  rw[if_neg (by rintro rfl;exact absurd hx (Nat.not_lt.mpr ha))]
  exact g.old x hx
 ·unfold FZ.add at e
  split at e
  ·rename_i hb;cases e;rw[hb];exact ho
  ·exact g.inn b o' e
structure Room (n:Nat) (A:Around):Prop where
 handled:A.handled=none
 depth:A.depth+n≤950
 units:A.units+100*n≤9000
theorem Room.mono {n m:Nat}{A:Around}(h:Room n A) (e:m≤n):Room m A:=⟨h.handled,by have:=h.depth;lia,by have:=h.units;lia⟩
theorem Room.deeper {n:Nat}{A:Around}(h:Room (n+1) A) (env:Env):Room n (A.deeper env):=⟨h.handled,by have:=h.depth;simp[Around.deeper];lia,by have:=h.units;simp[Around.deeper];lia⟩
theorem Room.lim {n:Nat}{A:Around}(h:Room n A):A.depth<recursionLimit:=by have:=h.depth;unfold recursionLimit;lia
theorem Room.u64 {n:Nat}{A:Around}(h:Room n A):A.units+64<cLine:=by have:=h.units;unfold cLine;lia
noncomputable abbrev Wp (C:Cx) {α:Type}(A:Around) (t:Sem α) (Q:α→Shared→Prop) (s:Shared):Prop:=wpAny (model C.prog C.w) A t Q (fun J J=>False) s
theorem Wp.any {C:Cx}{α:Type}{A:Around}{t:Sem α}{Q:α→Shared→Prop}{s:Shared}{E:Value→Shared→Prop}(h:Wp C A t Q s):wpAny (model C.prog C.w) A t Q E s:=wpAny_mono h (fun J J x=>x) fun J J x=>x.elim
theorem Wp.imp {C:Cx}{α:Type}{A:Around}{t:Sem α}{Q Q':α→Shared→Prop}{s:Shared}(h:Wp C A t Q s) (k:∀a s',Q a s'→Q' a s'):Wp C A t Q' s:=wpAny_mono h k fun J J x=>x
theorem Wp.bind {C:Cx}{α β:Type}{A:Around}{t:Sem α}{f:α→Sem β}{Q:β→Shared→Prop}{s:Shared}(h:Wp C A t (fun a s'=>Wp C A (f a) Q s') s):Wp C A (t>>=f) Q s:=wpAny_bind h
theorem Wp.up {C:Cx}{α:Type}{A:Around}{t:Sem α}{Q:α→Shared→Prop}{s:Shared}(h:Wp C A t (fun a s'=>Up s s'→Q a s') s):Wp C A t Q s:=
 fun Γ p hΓ=>Sem.wp_mono _ _ _ (fun a J s' x=>x.2 x.1) (fun J J J x=>x.2) _ _ (wp_up _ Γ s t _ _ p s (.refl _) (h Γ p hΓ))
noncomputable def Sm (C:Cx) (A:Around) (F:FZ) (s:Shared) (t:Sem Value) (d:D):Prop:=Wp C A t (fun v s'=>∃F',Grow F F' s s'∧R C F' v d) s
inductive Slot where
 | imm (d:D)
 | ml (a:Addr) (ds:List D)
 | mdS (a:Addr) (ks:List Str) (ds:List D)
 | mdI (a:Addr) (ks:List Int) (ds:List D)
noncomputable def Slot.addr:Slot→Option Addr
 | .imm _=>none
 | .ml a _ | .mdS a _ _ | .mdI a _ _=>some a
noncomputable abbrev Gm:=List (Str×Slot)
inductive SlotR (C:Cx) (F:FZ) (h:Heap):Value→Slot→Prop
 | imm {v d}:R C F v d→SlotR C F h v (.imm d)
 | ml {a vs n ds}:h.get? a=some (lObj vs n)→RA C F vs ds→SlotR C F h (.ref a) (.ml a ds)
 | mdS {a es n vs ks ds}:DAt (strKind C.prog C.w) (h.get? a) a es n vs ks→RA C F vs ds→SlotR C F h (.ref a) (.mdS a ks ds)
 | mdI {a es n vs ks ds}:DAt (intKind C.prog C.w) (h.get? a) a es n vs ks→RA C F vs ds→SlotR C F h (.ref a) (.mdI a ks ds)
noncomputable def SlotInv (C:Cx) (F:FZ) (h:Heap) (v:Value):Slot→Prop
 | .imm d=>R C F v d
 | .ml a ds=>v=.ref a∧∃vs n,h.get? a=some (lObj vs n)∧RA C F vs ds
 | .mdS a ks ds=>v=.ref a∧∃es n vs,DAt (strKind C.prog C.w) (h.get? a) a es n vs ks∧RA C F vs ds
 | .mdI a ks ds=>v=.ref a∧∃es n vs,DAt (intKind C.prog C.w) (h.get? a) a es n vs ks∧RA C F vs ds
theorem SlotR.inv {C:Cx}{F:FZ}{h:Heap}{v:Value}{sl:Slot}(x:SlotR C F h v sl):SlotInv C F h v sl:=by
 cases x with
 | imm r=>exact r
 | ml e r=>exact⟨rfl,_,_,e,r⟩
 | mdS e r=>exact⟨rfl,_,_,_,e,r⟩
 | mdI e r=>exact⟨rfl,_,_,_,e,r⟩
theorem SlotR.keep {C:Cx}{F F':FZ}{h h':Heap}{v:Value}{sl:Slot}(x:SlotR C F h v sl) (hF:F.Le F') (hk:∀a,sl.addr=some a→∀o,h.get? a=some o→h'.get? a=some o):SlotR C F' h' v sl:=by
 cases x with
 | imm r=>exact .imm (r.mono hF)
 | ml e r=>exact .ml (hk _ rfl _ e) (r.mono hF)
 | mdS e r=>exact .mdS (e.to (hk _ rfl)) (r.mono hF)
 | mdI e r=>exact .mdI (e.to (hk _ rfl)) (r.mono hF)
noncomputable def vis (sc:Scope) (x:Str):Bool:=match sc.names.lookup x with | some .local | some .cell | some .free=>true | _=>false
noncomputable def VarAt (env:Env) (h:Heap) (x:Str) (v:Value):Prop:=
 (env.kindOf x=some .local∧∃m,h.Ns env.locals m∧m x=some v) ∨
 ((env.kindOf x=some .cell∨env.kindOf x=some .free)∧∃c,env.cells.lookup x=some c∧h.IsCell c (some v))
theorem VarAt.keep {env:Env}{h h':Heap}{x:Str}{v:Value}(k:VarAt env h x v) (hk:∀b o,h.get? b=some o→h'.get? b=some o):VarAt env h' x v:=by
 rcases k with ⟨a,m,b,c⟩ | ⟨a,c,b,d⟩
 ·exact .inl ⟨a,m,b.keeps hk,c⟩
 ·exact .inr ⟨a,c,b,d.keeps hk⟩
structure EnvOk (C:Cx) (F:FZ) (s:Shared) (env:Env) (Γ:Gm):Prop where
 var:∀p∈Γ,vis env.scope p.1=true→∃v,VarAt env s.heap p.1 v∧SlotR C F s.heap v p.2
 low:∀x c,env.cells.lookup x=some c→∃o,s.heap.get? c=some o
theorem EnvOk.grow {C:Cx}{F F':FZ}{s s':Shared}{env:Env}{Γ:Gm}(h:EnvOk C F s env Γ) (g:Grow F F' s s'):EnvOk C F' s' env Γ:=⟨fun p hp hv=>
 let ⟨v,a,b⟩:=h.var p hp hv
 ⟨v,a.keep g.keep,b.keep g.le fun x J o e=>g.keep x o e⟩,fun x c e=>let ⟨o,ho⟩:=h.low x c e;⟨o,g.keep c o ho⟩⟩
theorem EnvOk.sub {C:Cx}{F:FZ}{s:Shared}{env:Env}{Γ Γ':Gm}(h:EnvOk C F s env Γ) (hs:∀p∈Γ',p∈Γ):EnvOk C F s env Γ':=⟨fun p hp=>h.var p (hs p hp),h.low⟩
structure gE (sc:Scope) (env:Env):Prop where
 scope:env.scope=sc
 kind:sc.kind=.function
 globals:env.globals=mainGlobals
 builtins:env.builtins=builtinsNs
 gen:sc.isCoroutine=false
 cells:∀x,(sc.names.lookup x=some .cell∨sc.names.lookup x=some .free)→∃c,env.cells.lookup x=some c
noncomputable def Ex (C:Cx) (n:Nat) (sc:Scope) (Γ:Gm) (e:Expr) (d:D):Prop:=
 ∀(env:Env) (A:Around) (F:FZ) (s:Shared),gE sc env→Room n A→Ok C F s→EnvOk C F s env Γ→Sm C A F s (eval e env) d
noncomputable def Tr (C:Cx) (n:Nat) (sc:Scope) (Γ:Gm) (e:Expr) (b:Bool):Prop:=
 ∀(env:Env) (A:Around) (F:FZ) (s:Shared),gE sc env→Room n A→Ok C F s→EnvOk C F s env Γ →
  Wp C A (isTrue e env (eval e env)) (fun r s'=>r=b∧∃F',Grow F F' s s') s
section
variable {C:Cx}{n:Nat}{sc:Scope}{Γ:Gm}
theorem Ex.eq {e:Expr}{d d':D}(h:Ex C n sc Γ e d) (e':d=d'):Ex C n sc Γ e d':=e'▸h
theorem Tr.eq {e:Expr}{d d':Bool}(h:Tr C n sc Γ e d) (e':d=d'):Tr C n sc Γ e d':=e'▸h
theorem loadName_var {env:Env}{A:Around}{s:Shared}{x:Str}{v:Value}{Q:Value→Shared→Prop}(hk:env.scope.kind=.function) (h:VarAt env s.heap x v) (q:Q v s) (hx:(x==("__classdict__":Str))=false):Wp C A (loadName env x) Q s:=by
 rcases h with ⟨a,m,b,c⟩ | ⟨a | a,c,b,d⟩
 ·exact wpAny_loadName_local hk a b c q
 ·exact wpAny_loadName_cell hk a b d q
 ·exact wpAny_loadName_free hk a b d q hx
theorem xv {x:Str}{pos:Pos}{d:D}(hm:(x,Slot.imm d)∈Γ) (hv:autoParam (vis sc x=true) dk) (hx:autoParam ((x==("__classdict__":Str))=false) dk) (hd:autoParam ((x==("__debug__":Str))=false) dk) :
  Ex C n sc Γ (.Name x pos) d:=by
 intro env A F s hE hR hO hV
 obtain⟨v,h1,h2⟩:=hV.var _ hm (by rw[hE.scope];exact hv)
 exact wpAny_Name (loadName_var (by rw[hE.scope];exact hE.kind) h1 ⟨F,.refl hO.inn,h2.inv⟩ hx) hd
theorem xi {i:Int}{k:Nat}{pos:Pos}:Ex C n sc Γ (.Constant (.int i) k pos) (.int i):=fun J J F J J J hO J=>wpAny_Constant_int ⟨F,.tok hO.inn,.int _ _⟩
theorem ex_str {x:Str}{k:Nat}{pos:Pos}:Ex C n sc Γ (.Constant (.str x) k pos) (.str x):=fun J J F J J J hO J=>Constant_str ⟨F,.tok hO.inn,.str _ _⟩
theorem ex_none {k:Nat}{pos:Pos}:Ex C n sc Γ (.Constant .none k pos) .none:=fun J J F J J J hO J=>wpAny_pure (a:=Value.none) ⟨F,.refl hO.inn,.none⟩
theorem ex_bool {b:Bool}{k:Nat}{pos:Pos}:Ex C n sc Γ (.Constant (.bool b) k pos) (.bool b):=fun J J F J J J hO J=>wpAny_pure (a:=Value.bool b) ⟨F,.refl hO.inn,.bool _⟩
theorem sm_two {A:Around}{F:FZ}{s:Shared}{e1 e2:Expr}{env:Env}{a b:D}{Q:Value→Value→Shared→Prop}
  (h1:Ex C n sc Γ e1 a) (h2:Ex C n sc Γ e2 b) (hE:gE sc env) (hR:Room n A) (hO:Ok C F s) (hV:EnvOk C F s env Γ)
  (k:∀va vb s' F',Grow F F' s s'→R C F' va a→R C F' vb b→Q va vb s'):Wp C A (eval e1 env) (fun va s₁=>Wp C A (eval e2 env) (fun vb s₂=>Q va vb s₂) s₁) s:=by
 refine(h1 env A F s hE hR hO hV).imp fun va s₁ hZ=>?_
 obtain⟨F₁,g₁,r₁⟩:=hZ
 refine(h2 env A F₁ s₁ hE hR (hO.grow g₁) (hV.grow g₁)).imp fun vb s₂ hZ=>?_
 obtain⟨F₂,g₂,r₂⟩:=hZ
 exact k va vb s₂ F₂ (g₁.trans g₂) (r₁.mono g₂.le) r₂
noncomputable def Op2 (C:Cx) (f:Value→Value→Sem Value) (a b d:D):Prop:=∀(A:Around) (F:FZ) (s:Shared) (va vb:Value),Room 0 A→Ok C F s→R C F va a→R C F vb b→Sm C A F s (f va vb) d
noncomputable def Op1 (C:Cx) (f:Value→Sem Value) (a d:D):Prop:=∀(A:Around) (F:FZ) (s:Shared) (va:Value),Room 0 A→Ok C F s→R C F va a→Sm C A F s (f va) d
theorem Sm.grow {A:Around}{F F₁:FZ}{s s₁:Shared}{t:Sem Value}{d:D}(h:Sm C A F₁ s₁ t d) (g:Grow F F₁ s s₁):Wp C A t (fun v s'=>∃F',Grow F F' s s'∧R C F' v d) s₁:=
 Wp.imp h fun _ _ ⟨F',g',r⟩=>⟨F',g.trans g',r⟩
theorem xb {l r:Expr}{op:Operator}{pos:Pos}{a b d:D}(h1:Ex C n sc Γ l a) (h2:Ex C n sc Γ r b) (h:Op2 C (binaryOp op) a b d):Ex C n sc Γ (.BinOp l op r pos) d:=by
 intro env A F s hE hR hO hV
 refine wpAny_BinOp (sm_two h1 h2 hE hR hO hV fun va vb s' F' g ra rb=>?_)
 exact(h A F' s' va vb (hR.mono (Nat.zero_le _)) (hO.grow g) ra rb).grow g
theorem ex_cmp {l r:Expr}{op:CmpOp}{pos:Pos}{a b d:D}(h1:Ex C n sc Γ l a) (h2:Ex C n sc Γ r b) (h:Op2 C (compareOp op) a b d) (hm:autoParam (behindInMarks op r=false) wu):Ex C n sc Γ (.Compare l [op] [r] pos) d:=by
 intro env A F s hE hR hO hV
 refine wpAny_Compare1 (sm_two h1 h2 hE hR hO hV fun va vb s' F' g ra rb=>?_) hm
 exact(h A F' s' va vb (hR.mono (Nat.zero_le _)) (hO.grow g) ra rb).grow g
theorem tC {l r:Expr}{op:CmpOp}{pos:Pos}{a b:D}{c:Bool}(h1:Ex C n sc Γ l a) (h2:Ex C n sc Γ r b) (h:Op2 C (compareOp op) a b (.bool c)) (hm:autoParam (behindInMarks op r=false) wu):Tr C n sc Γ (.Compare l [op] [r] pos) c:=by
 intro env A F s hE hR hO hV
 refine wpAny_isTrue_Compare1 (sm_two h1 h2 hE hR hO hV fun va vb s' F' g ra rb=>?_) hm
 refine(h A F' s' va vb (hR.mono (Nat.zero_le _)) (hO.grow g) ra rb).imp fun v s'' hZ=>?_
 obtain⟨F'',g'',r⟩:=hZ
 rw[r.bool_inv]
 exact wpAny_truthy_bool ⟨rfl,F'',g.trans g''⟩
theorem Tr.not {e:Expr}{pos:Pos}{b:Bool}(h:Tr C n sc Γ e b):Tr C n sc Γ (.UnaryOp .Not e pos) (!b):=by
 intro env A F s hE hR hO hV
 show Wp C A (isTrue e env (eval e env)>>=fun r=>pure (!r)) _ s
 exact Wp.bind ((h env A F s hE hR hO hV).imp fun r s' ⟨e1,g⟩=>wpAny_pure ⟨by rw[e1],g⟩)
theorem ex_if {t b o:Expr}{pos:Pos}{c:Bool}{d:D}(ht:Tr C n sc Γ t c) (hb:c=true→Ex C n sc Γ b d) (ho:c=false→Ex C n sc Γ o d):Ex C n sc Γ (.IfExp t b o pos) d:=by
 intro env A F s hE hR hO hV
 show Wp C A (isTrue t env (eval t env)>>=fun r=>if r=true then eval b env else eval o env) _ s
 refine Wp.bind ((ht env A F s hE hR hO hV).imp fun r s' hZ=>?_)
 obtain⟨e1,F',g⟩:=hZ
 subst e1
 cases r with
 | true=>exact(hb rfl env A F' s' hE hR (hO.grow g) (hV.grow g)).grow g
 | false=>exact(ho rfl env A F' s' hE hR (hO.grow g) (hV.grow g)).grow g
end
end
section
section
variable {C:Cx}
theorem smInt {A:Around}{F:FZ}{s:Shared}{i:Int}(hO:Ok C F s) (h:∀Q:Value→Shared→Prop,Q (.int i s.toks) { s with toks:=s.toks+1 }→Wp C A t Q s):Sm C A F s t (.int i):=h _ ⟨F,.tok hO.inn,.int _ _⟩
theorem smBool {A:Around}{F:FZ}{s:Shared}{t:Sem Value}{b:Bool}(hO:Ok C F s) (h:∀Q:Value→Shared→Prop,Q (.bool b) s→Wp C A t Q s):Sm C A F s t (.bool b):=h _ ⟨F,.refl hO.inn,.bool _⟩
theorem o_add_int {a b:Int}:Op2 C (binaryOp .Add) (.int a) (.int b) (.int (a+b)):=by
 intro A F s va vb _ hO ha hb;obtain⟨t,rfl⟩:=ha.int_inv;obtain⟨u,rfl⟩:=hb.int_inv
 exact smInt hO fun Q h=>wpAny_add_int h
theorem o_sub_int {a b:Int}:Op2 C (binaryOp .Sub) (.int a) (.int b) (.int (a-b)):=by
 intro A F s va vb _ hO ha hb;obtain⟨t,rfl⟩:=ha.int_inv;obtain⟨u,rfl⟩:=hb.int_inv
 exact smInt hO fun Q h=>SiftDown.sub_int h
theorem o_mul_int {a b:Int}(hm:IntMulOk a b):Op2 C (binaryOp .Mult) (.int a) (.int b) (.int (a*b)):=by
 intro A F s va vb _ hO ha hb;obtain⟨t,rfl⟩:=ha.int_inv;obtain⟨u,rfl⟩:=hb.int_inv
 exact smInt hO fun Q h=>P.mul_int h hm
theorem o_mod_int {a b:Int}(hb0:b≠0):Op2 C (binaryOp .Mod) (.int a) (.int b) (.int (a.fmod b)):=by
 intro A F s va vb _ hO ha hb;obtain⟨t,rfl⟩:=ha.int_inv;obtain⟨u,rfl⟩:=hb.int_inv
 exact smInt hO fun Q h=>mod_int hb0 h
theorem o_fdiv_int {a b:Int}(hb0:b≠0) (hb1:b.natAbs<1073741824):Op2 C (binaryOp .FloorDiv) (.int a) (.int b) (.int (a.fdiv b)):=by
 intro A F s va vb _ hO ha hb;obtain⟨t,rfl⟩:=ha.int_inv;obtain⟨u,rfl⟩:=hb.int_inv
 exact smInt hO fun Q h=>floordiv_int hb0 h (.inl (PyProof.noPylong_small hb1))
theorem o_pow_int {a b:Int}(hn:0≤b) (hsz:(Builtin.Int.intBits a:Int)*b≤2^27):Op2 C (binaryOp .Pow) (.int a) (.int b) (.int (a^b.toNat)):=by
 intro A F s va vb _ hO ha hb;obtain⟨t,rfl⟩:=ha.int_inv;obtain⟨u,rfl⟩:=hb.int_inv
 exact smInt hO fun Q h=>pow_int hn hsz h
theorem o_sub_bool {a b:Bool}:Op2 C (binaryOp .Sub) (.bool a) (.bool b) (.int (b2i a-b2i b)):=by
 intro A F s va vb _ hO ha hb;obtain rfl:=ha.bool_inv;obtain rfl:=hb.bool_inv
 exact smInt hO fun Q h=>sub_bool h
theorem o_neg_int {a:Int}:Op1 C (unaryOp .USub) (.int a) (.int (-a)):=by
 intro A F s va _ hO ha;obtain⟨t,rfl⟩:=ha.int_inv
 exact smInt hO fun Q h=>P.neg_int h
theorem o_add_str {x y:Str}(hsz:x.length+y.length≤sizeLine):Op2 C (binaryOp .Add) (.str x) (.str y) (.str (x++y)):=by
 intro A F s va vb _ hO ha hb;obtain⟨t,rfl⟩:=ha.str_inv;obtain⟨u,rfl⟩:=hb.str_inv
 exact Wp.up (add_str (fun t' tk up=>⟨F,.tok hO.inn up.t,.str _ _⟩) hsz)
theorem o_mul_str {x:Str}{n:Int}(h0:0<x.length) (h1:1≤n) (h2:n<2^24) (hsz:x.length*n.toNat≤2^24):Op2 C (binaryOp .Mult) (.str x) (.int n) (.str ⟨(List.replicate n.toNat x.cps).foldl (·++·) #[]⟩):=by
 intro A F s va vb _ hO ha hb;obtain⟨t,rfl⟩:=ha.str_inv;obtain⟨u,rfl⟩:=hb.int_inv
 refine P.mul_str ?_ ?_ ?_ ?_
 ·rw[Bool.or_eq_false_iff];constructor <;> (apply decide_eq_false;lia)
 ·intro _ _ hgt
  have h3:(x.length:Int)*n≤2^24:=by
   have e:((x.length*n.toNat:Nat):Int)=(x.length:Int)*n:=by rw[Int.natCast_mul,Int.toNat_of_nonneg (by lia)]
   rw[← e];exact_mod_cast hsz
  have h4:(x.length:Int)≤(2^63-1) / n:=by
   rw[Int.le_ediv_iff_mul_le (by lia)];exact Int.le_trans h3 (by decide)
  exact Int.not_le_of_gt hgt h4
 ·intro _ _;show decide (x.length*n.toNat>sizeLine)=false;apply decide_eq_false;unfold sizeLine;exact Nat.not_lt_of_le hsz
 ·rw[if_neg (Int.not_lt_of_ge h1)]
  by_cases hc:(n==1||x.length==0)=true
  ·rw[if_pos hc]
   refine⟨F,.refl hO.inn,?_⟩
   have e:(⟨(List.replicate n.toNat x.cps).foldl (·++·) #[]⟩:Str)=x:=by
    rcases Bool.or_eq_true_iff.mp hc with h | h
    ·have hn:n.toNat=1:=by have:=eq_of_beq h;lia
     rw[hn];simp
    ·exact absurd (eq_of_beq h) (Nat.ne_of_gt h0)
   rw[e];exact .str _ _
  ·rw[if_neg hc]
   refine⟨?_,F,.tok hO.inn,.str _ _⟩
   show Array.size (List.foldl (·++·) (#[]:Array Nat) (List.replicate n.toNat x.cps))≤sizeLine
   have:∀(k:Nat) (acc:Array Nat),((List.replicate k x.cps).foldl (·++·) acc).size=acc.size+k*x.cps.size:=by
    intro k
    induction k with
    | zero=>intro acc;simp
    | succ k ih=>intro acc;rw[List.replicate_succ,List.foldl_cons,ih,Array.size_append];rw[Nat.succ_mul];lia
   rw[this]
   have e2:x.cps.size=x.length:=rfl
   rw[e2,Nat.mul_comm];unfold sizeLine;simp only[List.size_toArray,List.length_nil,Nat.zero_add];exact hsz
theorem o_eq_int {a b:Int}:Op2 C (compareOp .Eq) (.int a) (.int b) (.bool (a==b)):=by
 intro A F s va vb _ hO ha hb;obtain⟨t,rfl⟩:=ha.int_inv;obtain⟨u,rfl⟩:=hb.int_inv
 exact smBool hO fun Q h=>eq_int h
theorem o_ne_int {a b:Int}:Op2 C (compareOp .NotEq) (.int a) (.int b) (.bool (a != b)):=by
 intro A F s va vb _ hO ha hb;obtain⟨t,rfl⟩:=ha.int_inv;obtain⟨u,rfl⟩:=hb.int_inv
 exact smBool hO fun Q h=>ne_int h
theorem o_lt_int {a b:Int}:Op2 C (compareOp .Lt) (.int a) (.int b) (.bool (decide (a<b))):=by
 intro A F s va vb _ hO ha hb;obtain⟨t,rfl⟩:=ha.int_inv;obtain⟨u,rfl⟩:=hb.int_inv
 exact smBool hO fun Q h=>lt_int h
theorem o_gt_int {a b:Int}:Op2 C (compareOp .Gt) (.int a) (.int b) (.bool (decide (b<a))):=by
 intro A F s va vb _ hO ha hb;obtain⟨t,rfl⟩:=ha.int_inv;obtain⟨u,rfl⟩:=hb.int_inv
 exact smBool hO fun Q h=>gt_int h
theorem o_le_int {a b:Int}:Op2 C (compareOp .LtE) (.int a) (.int b) (.bool (decide (a≤b))):=by
 intro A F s va vb _ hO ha hb;obtain⟨t,rfl⟩:=ha.int_inv;obtain⟨u,rfl⟩:=hb.int_inv
 exact smBool hO fun Q h=>le_int h
theorem o_lt_str {x y:Str}:Op2 C (compareOp .Lt) (.str x) (.str y) (.bool (decide (x.cps.toList<y.cps.toList))):=by
 intro A F s va vb _ hO ha hb;obtain⟨t,rfl⟩:=ha.str_inv;obtain⟨u,rfl⟩:=hb.str_inv
 exact smBool hO fun Q h=>lt_str h
theorem o_gt_str {x y:Str}:Op2 C (compareOp .Gt) (.str x) (.str y) (.bool (decide (y.cps.toList<x.cps.toList))):=by
 intro A F s va vb _ hO ha hb;obtain⟨t,rfl⟩:=ha.str_inv;obtain⟨u,rfl⟩:=hb.str_inv
 exact smBool hO fun Q h=>P.gt_str h
theorem o_eq_str {x y:Str}:Op2 C (compareOp .Eq) (.str x) (.str y) (.bool (decide (x=y))):=by
 intro A F s va vb _ hO ha hb;obtain⟨t,rfl⟩:=ha.str_inv;obtain⟨u,rfl⟩:=hb.str_inv
 refine smBool hO fun Q h=>eq_str ?_
 have e:(x==y)=decide (x=y):=by by_cases q:x=y <;> simp[q]
 rw[e];exact h
theorem grow_new {F:FZ}{s:Shared}{o:Obj}{tk:Nat}(i:F.In s.heap) (ho:o.isFreed=false) (ht:autoParam (s.toks≤tk) ler):Grow F (F.add s.heap.objs.size o) s { s with heap:=s.heap.push o,toks:=tk }:=
 (Grow.same (tk:=tk) i (fun J J e=>Heap.get?_push_of_some _ e) (by rw[Heap.size_push];exact Nat.le_succ _) ht).freeze (Nat.le_refl _) (i.none (Nat.le_refl _)) (Heap.get?_push_size _ ho)
theorem new_list {F:FZ}{s:Shared}{tk:Nat}(i:F.In s.heap) {vs:List Value}{ds:List D}{k:Nat}(r:RA C F vs ds) (ht:autoParam (s.toks≤tk) ler) :
  ∃F',Grow F F' s { s with heap:=s.heap.push (lObj vs k),toks:=tk }∧R C F' (.ref s.heap.objs.size) (.list ds):=
 ⟨_,grow_new i rfl ht,.list FZ.add_self (r.mono (FZ.le_add (i.none (Nat.le_refl _))))⟩
theorem new_tuple {F:FZ}{s:Shared}{tk:Nat}(i:F.In s.heap) {vs:List Value}{ds:List D}{k:Nat}(r:RA C F vs ds) (ht:autoParam (s.toks≤tk) ler) :
  ∃F',Grow F F' s { s with heap:=s.heap.push (tObj vs k),toks:=tk }∧R C F' (.ref s.heap.objs.size) (.tuple ds):=
 ⟨_,grow_new i rfl ht,.tuple FZ.add_self (r.mono (FZ.le_add (i.none (Nat.le_refl _))))⟩
theorem o_add_list {xs ys:List D}(hsz:xs.length+ys.length≤sizeLine):Op2 C (binaryOp .Add) (.list xs) (.list ys) (.list (xs++ys)):=by
 intro A F s va vb _ hO ha hb
 obtain⟨a,vs,n,rfl,ea,ra⟩:=ha.list_inv;obtain⟨b,ws,k,rfl,eb,rb⟩:=hb.list_inv
 have ho:=hO.inn _ _ ea;have ho2:=hO.inn _ _ eb
 have e:vs.toArray++ws.toArray=(vs++ws).toArray:=by simp
 refine concat_meets ⟨_,ho,rfl⟩ ⟨_,ho2,rfl⟩ noFill_list_add seq_list_add PySem.F.slot_list_add PySem.F.entry_list_add (PySem.F.args_list_add_2 _ _) (list_addW a b vs.toArray ws.toArray n k none none #[] #[] (by have:=ra.length;have:=rb.length;simp;lia)) ⟨ho,ho2,?_⟩
 rw[e]
 exact new_list hO.inn (ra.append rb)
theorem foldl_rep {α:Type}(its:Array α) (k:Nat) (acc:Array α):((List.replicate k its).foldl (fun x1 x2=>x1++x2) acc)=acc++(List.replicate k its.toList).flatten.toArray:=by
 induction k generalizing acc with
 | zero=>exact Array.append_empty.symm
 | succ k ih=>
  rw[List.replicate_succ,List.foldl_cons,ih,List.replicate_succ,List.flatten_cons,Array.append_assoc]
  exact congrArg (acc++·) (Array.toList_inj.mp (by rw[Array.toList_append]))
theorem RA.rep {F:FZ}{vs:List Value}{ds:List D}(r:RA C F vs ds):∀k:Nat,RA C F (List.replicate k vs).flatten (List.replicate k ds).flatten
 | 0=>.nil
 | k+1=>by simpa [List.replicate_succ] using r.append (RA.rep r k)
theorem o_mul_list {xs:List D}{i:Int}(h0:0≤i) (h1:i<2^63) (hsz:xs.length*i.toNat≤2^24):Op2 C (binaryOp .Mult) (.list xs) (.int i) (.list (List.replicate i.toNat xs).flatten):=by
 intro A F s va vb _ hO ha hb
 obtain⟨a,vs,n,rfl,ea,ra⟩:=ha.list_inv;obtain⟨u,rfl⟩:=hb.int_inv
 have hl:=hO.inn _ _ ea
 have hsz':vs.toArray.size*i.toNat≤2^24:=by have:=ra.length;simp only[List.size_toArray];rw[this];exact hsz
 refine wpAny_binaryOp_repeat_ref (T:="list") (U:="int") (by decide) ⟨_,hl,rfl⟩ (fun s'=>typeIs_int s' i u) noFill_list_mul PySem.F.fills_int_mul PySem.F.slot_int_rmul repeat_list PySem.F.slot_int_index.lookup
  (call_meets PySem.F.slot_int_rmul (typeIs_int s i u) PySem.F.entry_int_rmul (PySem.F.args_int_rmul_2 _ _) (int___rmul___int_list i u a vs.toArray n)
   ⟨hl,rfl,⟨_,hl,rfl⟩,call_meets PySem.F.slot_list_mul ⟨_,hl,rfl⟩ PySem.F.entry_list_mul (PySem.F.args_list_mul_2 _ _)
    (AutoListH.list___mul___list_int_3 a vs.toArray n i u (by simp[Builtin.List.listFitsIndex];omega) (Nat.not_lt_of_le (Nat.le_trans hsz' (by decide))) (by simp[Builtin.List.listTooLong,sizeLine];exact hsz'))
    ⟨hl,?_⟩⟩)
 rw[foldl_rep]
 by_cases he:vs=[]
 ·subst he
  cases ra
  have e1:(List.replicate i.toNat ([]:List D)).flatten=[]:=by simp
  rw[e1]
  have e2:(#[]++(List.replicate (if (List.toArray ([]:List Value)).isEmpty=true then 0 else i.toNat) (List.toArray ([]:List Value)).toList).flatten.toArray)=(List.toArray ([]:List Value)):=by simp
  rw[e2]
  exact new_list hO.inn .nil
 ·have e2:(#[]++(List.replicate (if vs.toArray.isEmpty=true then 0 else i.toNat) vs.toArray.toList).flatten.toArray)=((List.replicate i.toNat vs).flatten).toArray:=by
   rw[if_neg (by simp[he])];simp
  rw[e2]
  exact new_list hO.inn (ra.rep _)
theorem ints_are {F:FZ}{vs:List Value}{xs:List Int}(h:RA C F vs (xs.map D.int)):IntsAre vs xs:=by
 induction xs generalizing vs with
 | nil=>rw[h.nil_inv];exact .nil
 | cons x xs ih=>
  obtain⟨v,ws,rfl,a,r⟩:=h.cons_inv
  obtain⟨t,rfl⟩:=a.int_inv
  exact .cons _ _ (ih r)
theorem o_ne_ints {xs ys:List Int}:Op2 C (compareOp .NotEq) (.list (xs.map .int)) (.list (ys.map .int)) (.bool (!decide (xs=ys))):=by
 intro A F s va vb hR hO ha hb
 obtain⟨a,vs,n,rfl,ea,ra⟩:=ha.list_inv;obtain⟨b,ws,k,rfl,eb,rb⟩:=hb.list_inv
 exact smBool hO fun Q h=>ke_ne_ints ⟨_,hO.inn _ _ ea,rfl,_,rfl⟩ ⟨_,hO.inn _ _ eb,rfl,_,rfl⟩ (ints_are ra) (ints_are rb) hR.u64 h
end
end
section
set_option backward.match.sparseCases false
inductive Flat:Nat→D→Prop
 | none {m}:Flat m .none
 | bool {m b}:Flat m (.bool b)
 | int {m i}:Flat m (.int i)
 | str {m x}:Flat m (.str x)
 | list {m xs}:(∀d∈xs,Flat m d)→Flat (m+1) (.list xs)
 | tuple {m xs}:(∀d∈xs,Flat m d)→Flat (m+1) (.tuple xs)
inductive EqOk:Nat→D→Prop
 | none {m}:EqOk m .none
 | bool {m b}:EqOk m (.bool b)
 | int {m i}:EqOk m (.int i)
 | str {m x}:EqOk m (.str x)
 | list {m xs}:(∀d∈xs,EqOk m d)→EqOk (m+1) (.list xs)
 | tuple {m xs}:(∀d∈xs,EqOk m d)→EqOk (m+1) (.tuple xs)
 | dictS {m ks xs}:(∀d∈xs,Flat m d)→EqOk (m+1) (.dictS ks xs)
 | dictI {m ks xs}:(∀d∈xs,Flat m d)→EqOk (m+1) (.dictI ks xs)
theorem zip_fst {α β:Type}{ks:List α}{vs:List β}(h:ks.length=vs.length):(ks.zip vs).map (·.1)=ks:=List.map_fst_zip (Nat.le_of_eq h)
theorem valueAt_zip {K:Type}[DecidableEq K] {ks:List K}{vs:List Value}(hl:ks.length=vs.length) (hn:ks.Nodup) {i:Nat}{k:K}{v:Value}(h1:ks[i]?=some k) (h2:vs[i]?=some v):valueAt (ks.zip vs) k=some v:=by
 unfold valueAt
 clear hl
 induction ks generalizing vs i with
 | nil=>cases h1
 | cons k0 ks ih=>
  cases vs with
  | nil=>cases h2
  | cons v0 vs=>
   cases i with
   | zero=>cases h1;cases h2;rw[List.zip_cons_cons,List.find?_cons_of_pos (p:=fun kv:K×Value=>decide (kv.1=k)) (decide_eq_true rfl)];rfl
   | succ i=>
    obtain⟨h3,hn⟩:=List.nodup_cons.mp hn
    rw[List.zip_cons_cons,List.find?_cons_of_neg fun e=>h3 (by rw[show k0=k from of_decide_eq_true e];exact List.mem_of_getElem? h1)]
    exact ih hn h1 h2
theorem hits_same {K:Type}[DecidableEq K] {A:Around}{s:Shared}{kb kvs:List (K×Value)}(h:∀p∈kvs,∃y,valueAt kb p.1=some y∧SeqAt.EqAt A s p.2 y true):KeqHits A s kb kvs true:=by
 induction kvs with
 | nil=>exact .nil
 | cons p kvs ih=>
  obtain⟨y,h1,h2⟩:=h p (.head _)
  exact .hit h1 h2 (ih fun q hq=>h q (.tail _ hq))
section
variable {C:Cx}
theorem DAt.dictOf {K:Type}[DecidableEq K] {knd:KeyKind C.prog C.w K}{h:Heap}{a:Addr}{es:Array DictEntry}{n:Nat}{vs:List Value}{ks:List K}(x:DAt knd (h.get? a) a es n vs ks):h.DictOf knd a (ks.zip vs):=
 ⟨_,es,n,x.is,⟨rfl,rfl,rfl⟩,rfl,x.keys,x.pairs,by rw[zip_fst x.len];exact x.nd⟩
theorem DPre.dictOf {K:Type}[DecidableEq K] {knd:KeyKind C.prog C.w K}{h:Heap}{a:Addr}{o:Obj}{es:Array DictEntry}{n:Nat}{vs:List Value}{ks:List K}(x:DPre knd o es n vs ks) (e:h.get? a=some o):h.DictOf knd a (ks.zip vs):=
 ⟨_,es,n,e.trans (congrArg some x.is),⟨rfl,rfl,rfl⟩,rfl,x.keys,x.pairs,by rw[zip_fst x.len];exact x.nd⟩
noncomputable def EqIn (C:Cx) (A:Around) (s:Shared) (v w:Value) (b:Bool):Prop:=∀(E:Value→Shared→Prop) (Q:Bool→Shared→Prop),Q b s→wpAny (model C.prog C.w) A (eqBool v w) Q E s
noncomputable def RcIn (C:Cx) (A:Around) (op:CmpOp) (s:Shared) (v w:Value) (b:Bool):Prop:=∀(E:Value→Shared→Prop) (Q:Value→Shared→Prop),Q (.bool b) s→wpAny (model C.prog C.w) A (richCompare op v w) Q E s
theorem EqIn.same {A:Around}{s:Shared}(v:Value):EqIn C A s v v true:=fun E Q h=>SeqAt.EqAt.same v C.prog C.w E Q h
theorem EqIn.refs {A:Around}{s:Shared}{a b:Addr}{k:Bool}(hne:a≠b) (h:RcIn C A .Eq s (.ref a) (.ref b) k):EqIn C A s (.ref a) (.ref b) k:=fun E Q hq=>by
 unfold eqBool
 refine wpAny_holding ?_
 show wpAny _ _ (if (Value.ref a==Value.ref b)=true then _ else _) _ _ _
 rw[if_neg (by simpa using hne)]
 exact wpAny_bind (h E _ (wpAny_truthy_bool hq))
theorem EqIn.ints {A:Around}{s:Shared}{i j:Int}{t u:Tok}:EqIn C A s (.int i t) (.int j u) (decide (i=j)):=fun E Q hq=>wpAny_eqBool_int hq
noncomputable def lexLt:List Int→List Int→Bool
 | [],[]=>false
 | [],_::_=>true
 | _::_,[]=>false
 | a::x,b::y=>if a=b then lexLt x y else decide (a<b)
theorem lex_end {xs ys:List Int}{i:Nat}(h:xs[i]?=none∨ys[i]?=none) (h1:i≤xs.length) (h2:i≤ys.length):lexLt (xs.drop i) (ys.drop i)=decide (xs.length<ys.length):=by
 rcases h with h | h
 ·have h:=List.getElem?_eq_none_iff.mp h
  rw[List.drop_of_length_le h]
  cases hy:ys.drop i with
  | nil=>exact(decide_eq_false (Nat.not_lt.mpr (Nat.le_trans (List.drop_eq_nil_iff.mp hy) h1))).symm
  | cons y l=>exact(decide_eq_true (Nat.lt_of_le_of_lt h (Nat.lt_of_not_le fun q=>by rw[List.drop_of_length_le q] at hy;cases hy))).symm
 ·have h:=List.getElem?_eq_none_iff.mp h
  rw[List.drop_of_length_le h]
  cases xs.drop i <;> exact(decide_eq_false (Nat.not_lt.mpr (Nat.le_trans h h1))).symm
theorem drop_cons {α:Type}{xs:List α}{i:Nat}{x:α}(h:xs[i]?=some x):xs.drop i=x::xs.drop (i+1):=by
 obtain⟨hlt,rfl⟩:=List.getElem?_eq_some_iff.mp h
 exact List.drop_eq_getElem_cons hlt
theorem list_loop_eq {l b:Addr}{vs ws:List Value}{n k:Nat}(hlen:vs.length=ws.length) (m:Nat):∀i:Nat,vs.length-i=m→MeetsIn C.prog C.w (Builtin.«list.__eq__.loop» ⟨[.ref l,.ref b,rawInt i,rawInt 2],[]⟩)
  (fun A R s=>s.heap.get? l=some (lObj vs n)∧s.heap.get? b=some (lObj ws k)∧(∀(j:Nat) v w,vs[j]?=some v→ws[j]?=some w→EqIn C A.in1 s v w true)∧R (.ok (.ret (.bool true))) s):=by
 induction m with
 | zero=>
  intro i hi A R s h
  obtain⟨hp,g,d,tk,os⟩:=s;obtain⟨hl,hb,he,h⟩:=h
  wp_walk using AutoSeq1.wpAny_loadPart' hl,AutoSeq1.wpAny_loadPart' hb
  have hi1:vs.toArray[((i:Nat):Int).toNat]?=none:=by simp;exact Nat.le_of_sub_eq_zero hi
  have hi2:ws.toArray[((i:Nat):Int).toNat]?=none:=by simp;exact Nat.le_trans (Nat.le_of_eq hlen.symm) (Nat.le_of_sub_eq_zero hi)
  rw[hi1,hi2]
  wp_walk using AutoSeq1.wpAny_loadPart' hl,AutoSeq1.wpAny_loadPart' hb
  show R (.ok (.ret (.bool (vs.toArray.size==ws.toArray.size)))) _
  rw[show(vs.toArray.size==ws.toArray.size)=true by simp[hlen]]
  exact h
 | succ m ih=>
  intro i hi A R s h
  obtain⟨hp,g,d,tk,os⟩:=s;obtain⟨hl,hb,he,h⟩:=h
  wp_walk using AutoSeq1.wpAny_loadPart' hl,AutoSeq1.wpAny_loadPart' hb
  have h1:i<vs.length:=by exact Mine.lt_of_sub_s hi
  have h2:i<ws.length:=by exact Nat.lt_of_lt_of_eq h1 hlen
  have hi1:vs.toArray[((i:Nat):Int).toNat]?=some vs[i]:=by simp[h1]
  have hi2:ws.toArray[((i:Nat):Int).toNat]?=some ws[i]:=by simp[h2]
  have hc:((i:Int)+1)=((i+1:Nat):Int):=by push_cast;rfl
  rw[hi1,hi2]
  refine wpAny_bind (he i _ _ (by simp[h1]) (by simp[h2]) _ _ ?_)
  wp_walk
  rw[hc]
  exact⟨plainId_quiet PySem.MeetsSeq3.plain_eq_loop _,codeAny_builtin PySem.MeetsSeq3.entry_eq_loop (by
   rw[Around.under_plainId PySem.MeetsSeq3.plain_eq_loop _]
   exact ih (i+1) (Mine.sub_s hi) A R _ ⟨hl,hb,he,h⟩)⟩
theorem list_eq_all {l b:Addr}{vs ws:List Value}{n k:Nat}(hlen:vs.length=ws.length):MeetsIn C.prog C.w (Builtin.«list.__eq__» ⟨[.ref l,.ref b],[]⟩)
  (fun A R s=>s.heap.get? l=some (lObj vs n)∧s.heap.get? b=some (lObj ws k)∧(∀(j:Nat) v w,vs[j]?=some v→ws[j]?=some w→EqIn C A.in1 s v w true)∧R (.ok (.ret (.bool true))) s):=by
 intro A R s h
 obtain⟨hp,g,d,tk,os⟩:=s;obtain⟨hl,hb,he,h⟩:=h
 have f3:=AutoSeq1.sub_list_list
 have hne:¬(vs.toArray.size != ws.toArray.size)=true:=by simp[hlen]
 wp_walk using AutoSeq1.wpAny_loadPart' hl,AutoSeq1.wpAny_loadPart' hb
 exact⟨plainId_quiet PySem.MeetsSeq3.plain_eq_loop _,codeAny_builtin PySem.MeetsSeq3.entry_eq_loop (by
  rw[Around.under_plainId PySem.MeetsSeq3.plain_eq_loop _]
  exact list_loop_eq hlen _ 0 rfl A R _ ⟨hl,hb,he,h⟩)⟩
theorem tuple_eq_all {l b:Addr}{vs ws:List Value}{n k:Nat}(hlen:vs.length=ws.length):MeetsIn C.prog C.w (Builtin.«tuple.__eq__» ⟨[.ref l,.ref b],[]⟩)
  (fun A R s=>s.heap.get? l=some (tObj vs n)∧s.heap.get? b=some (tObj ws k)∧(∀(j:Nat) v w,vs[j]?=some v→ws[j]?=some w→EqIn C A.in1 s v w true)∧R (.ok (.ret (.bool true))) s):=
 .of_wp fun A R s h=>by
  obtain⟨hp,g,d,tk,os⟩:=s;obtain⟨hl,hb,he,h⟩:=h
  have f2:=AutoSeq1.sub_tuple_tuple
  wp_walk using AutoSeq1.wpAny_loadPart' hl,AutoSeq1.wpAny_loadPart' hb,wpAny_forIn_list _ (fun rest b s'=>b.1=none∧s'=⟨hp,g,d,tk,os⟩∧∀p∈rest,EqIn C A.in1 ⟨hp,g,d,tk,os⟩ p.1 p.2 true) _
  case turn=>
   rintro⟨y,x⟩ rest b s' ⟨hb',rfl,hz⟩
   refine wpAny_bind (hz (y,x) List.mem_cons_self _ _ ?_)
   wp_walk
   exact⟨rfl,rfl,fun p hp=>hz p (List.mem_cons_of_mem _ hp)⟩
  case fin=>
   rintro⟨b1,b2⟩ s' ⟨hb',rfl,hz⟩
   simp only at hb'
   subst hb'
   wp_walk
   exact⟨_,rfl,by simpa [Builtin.Tuple.tupleCompareSizes,hlen] using h⟩
  case h=>
   refine⟨rfl,rfl,fun p hp=>?_⟩
   obtain⟨j,hj⟩:=List.mem_iff_getElem?.mp hp
   obtain⟨h1,h2⟩:=List.getElem?_zip_eq_some.mp hj
   exact he j _ _ (by simpa using h1) (by simpa using h2)
theorem list_loop_lt {l b:Addr}{xs ys:List Int}{vs ws:List Value}{n k:Nat}(hv:IntsAre vs xs) (hw:IntsAre ws ys) (m:Nat):∀i:Nat,vs.length-i=m→i≤vs.length→i≤ws.length →
  MeetsIn C.prog C.w (Builtin.«list.__eq__.loop» ⟨[.ref l,.ref b,rawInt i,rawInt 0],[]⟩)
  (fun A R s=>s.heap.get? l=some (lObj vs n)∧s.heap.get? b=some (lObj ws k)∧R (.ok (.ret (.bool (lexLt (xs.drop i) (ys.drop i))))) s):=by
 have hlx:=hv.length;have hly:=hw.length
 have hlx0:∀{i:Nat},vs[i]?=none→xs[i]?=none:=by intro i;rw[List.getElem?_eq_none_iff,List.getElem?_eq_none_iff,hlx];exact id
 have hly0:∀{i:Nat},ws[i]?=none→ys[i]?=none:=by intro i;rw[List.getElem?_eq_none_iff,List.getElem?_eq_none_iff,hly];exact id
 have done:∀i:Nat,(vs[i]?=none∨ws[i]?=none)→i≤vs.length→i≤ws.length→MeetsIn C.prog C.w (Builtin.«list.__eq__.loop» ⟨[.ref l,.ref b,rawInt i,rawInt 0],[]⟩)
   (fun A R s=>s.heap.get? l=some (lObj vs n)∧s.heap.get? b=some (lObj ws k)∧R (.ok (.ret (.bool (lexLt (xs.drop i) (ys.drop i))))) s):=by
  intro i hn i1 i2 A R s h
  obtain⟨hp,g,d,tk,os⟩:=s;obtain⟨hl,hb,h⟩:=h
  wp_walk using AutoSeq1.wpAny_loadPart' hl,AutoSeq1.wpAny_loadPart' hb
  have e1:vs.toArray[((i:Nat):Int).toNat]?=vs[i]?:=by simp
  have e2:ws.toArray[((i:Nat):Int).toNat]?=ws[i]?:=by simp
  have fin:R (.ok (.ret (.bool (decide (vs.toArray.size<ws.toArray.size))))) ⟨hp,g,d,tk,os⟩:=by
   rw[lex_end (hn.imp hlx0 hly0) (Nat.le_trans i1 (Nat.le_of_eq hlx)) (Nat.le_trans i2 (Nat.le_of_eq hly)),← hlx,← hly] at h;exact h
  rcases hn with hn | hn
  ·rw[e1,hn]
   wp_walk using AutoSeq1.wpAny_loadPart' hl,AutoSeq1.wpAny_loadPart' hb
   exact fin
  ·rw[e1,e2,hn]
   cases vs[i]? <;> (wp_walk using AutoSeq1.wpAny_loadPart' hl,AutoSeq1.wpAny_loadPart' hb;exact fin)
 induction m with
 | zero=>exact fun i hi i1 i2=>done i (.inl (by simp;exact Nat.le_of_sub_eq_zero hi)) i1 i2
 | succ m ih=>
  intro i hi i1 i2
  by_cases hw2:ws[i]?=none
  ·exact done i (.inr hw2) i1 i2
  intro A R s h
  have h1:i<vs.length:=by exact Mine.lt_of_sub_s hi
  have h2:i<ws.length:=by simpa using hw2
  obtain⟨x,t,ex,ex'⟩:=hv.at i _ (List.getElem?_eq_getElem h1)
  obtain⟨y,u,ey,ey'⟩:=hw.at i _ (List.getElem?_eq_getElem h2)
  obtain⟨hp,g,d,tk,os⟩:=s;obtain⟨hl,hb,h⟩:=h
  rw[drop_cons ex',drop_cons ey'] at h
  wp_walk using AutoSeq1.wpAny_loadPart' hl,AutoSeq1.wpAny_loadPart' hb
  have hi1:vs.toArray[((i:Nat):Int).toNat]?=some (.int x t):=by rw[← ex];simp[h1]
  have hi2:ws.toArray[((i:Nat):Int).toNat]?=some (.int y u):=by rw[← ey];simp[h2]
  have hc:((i:Int)+1)=((i+1:Nat):Int):=by push_cast;rfl
  rw[hi1,hi2]
  refine wpAny_bind (EqIn.ints _ _ ?_)
  by_cases hxy:x=y
  ·rw[decide_eq_true hxy]
   wp_walk
   rw[hc]
   exact⟨plainId_quiet PySem.MeetsSeq3.plain_eq_loop _,codeAny_builtin PySem.MeetsSeq3.entry_eq_loop (by
    rw[Around.under_plainId PySem.MeetsSeq3.plain_eq_loop _]
    exact ih (i+1) (Mine.sub_s hi) (Nat.succ_le_of_lt h1) (Nat.succ_le_of_lt h2) A R _ ⟨hl,hb,by simpa [lexLt,hxy] using h⟩)⟩
  ·rw[decide_eq_false hxy]
   wp_walk using AutoSeq1.wpAny_loadPart' hl,AutoSeq1.wpAny_loadPart' hb
   rw[hi1,hi2]
   show wpAny _ _ (compareOp .Lt (.int x t) (.int y u)>>=fun v=>ret v) _ _ _
   refine wpAny_bind (lt_int (wpAny_pure ?_))
   have hyx:¬y=x:=fun e=>hxy e.symm
   simpa [lexLt,hxy,hyx] using h
theorem list_lt_all {l b:Addr}{xs ys:List Int}{vs ws:List Value}{n k:Nat}(hv:IntsAre vs xs) (hw:IntsAre ws ys) :
  MeetsIn C.prog C.w (Builtin.«list.__lt__» ⟨[.ref l,.ref b],[]⟩)
  (fun A R s=>s.heap.get? l=some (lObj vs n)∧s.heap.get? b=some (lObj ws k)∧R (.ok (.ret (.bool (lexLt (xs) (ys))))) s):=by
 intro A R s h
 obtain⟨hp,g,d,tk,os⟩:=s;obtain⟨hl,hb,h⟩:=h
 have f3:=AutoSeq1.sub_list_list
 wp_walk using AutoSeq1.wpAny_loadPart' hl,AutoSeq1.wpAny_loadPart' hb
 exact⟨plainId_quiet PySem.MeetsSeq3.plain_eq_loop _,codeAny_builtin PySem.MeetsSeq3.entry_eq_loop (by
  rw[Around.under_plainId PySem.MeetsSeq3.plain_eq_loop _]
  exact list_loop_lt hv hw _ 0 rfl (Nat.zero_le _) (Nat.zero_le _) A R _ ⟨hl,hb,by simpa using h⟩)⟩
theorem list_loop_gt {l b:Addr}{xs ys:List Int}{vs ws:List Value}{n k:Nat}(hv:IntsAre vs xs) (hw:IntsAre ws ys) (m:Nat):∀i:Nat,vs.length-i=m→i≤vs.length→i≤ws.length →
  MeetsIn C.prog C.w (Builtin.«list.__eq__.loop» ⟨[.ref l,.ref b,rawInt i,rawInt 4],[]⟩)
  (fun A R s=>s.heap.get? l=some (lObj vs n)∧s.heap.get? b=some (lObj ws k)∧R (.ok (.ret (.bool (lexLt (ys.drop i) (xs.drop i))))) s):=by
 have hlx:=hv.length;have hly:=hw.length
 have hlx0:∀{i:Nat},vs[i]?=none→xs[i]?=none:=by intro i;rw[List.getElem?_eq_none_iff,List.getElem?_eq_none_iff,hlx];exact id
 have hly0:∀{i:Nat},ws[i]?=none→ys[i]?=none:=by intro i;rw[List.getElem?_eq_none_iff,List.getElem?_eq_none_iff,hly];exact id
 have done:∀i:Nat,(vs[i]?=none∨ws[i]?=none)→i≤vs.length→i≤ws.length→MeetsIn C.prog C.w (Builtin.«list.__eq__.loop» ⟨[.ref l,.ref b,rawInt i,rawInt 4],[]⟩)
   (fun A R s=>s.heap.get? l=some (lObj vs n)∧s.heap.get? b=some (lObj ws k)∧R (.ok (.ret (.bool (lexLt (ys.drop i) (xs.drop i))))) s):=by
  intro i hn i1 i2 A R s h
  obtain⟨hp,g,d,tk,os⟩:=s;obtain⟨hl,hb,h⟩:=h
  wp_walk using AutoSeq1.wpAny_loadPart' hl,AutoSeq1.wpAny_loadPart' hb
  have e1:vs.toArray[((i:Nat):Int).toNat]?=vs[i]?:=by simp
  have e2:ws.toArray[((i:Nat):Int).toNat]?=ws[i]?:=by simp
  have fin:R (.ok (.ret (.bool (decide (vs.toArray.size>ws.toArray.size))))) ⟨hp,g,d,tk,os⟩:=by
   rw[lex_end (hn.symm.imp hly0 hlx0) (Nat.le_trans i2 (Nat.le_of_eq hly)) (Nat.le_trans i1 (Nat.le_of_eq hlx)),← hlx,← hly] at h;exact h
  rcases hn with hn | hn
  ·rw[e1,hn]
   wp_walk using AutoSeq1.wpAny_loadPart' hl,AutoSeq1.wpAny_loadPart' hb
   exact fin
  ·rw[e1,e2,hn]
   cases vs[i]? <;> (wp_walk using AutoSeq1.wpAny_loadPart' hl,AutoSeq1.wpAny_loadPart' hb;exact fin)
 induction m with
 | zero=>exact fun i hi i1 i2=>done i (.inl (by simp;exact Nat.le_of_sub_eq_zero hi)) i1 i2
 | succ m ih=>
  intro i hi i1 i2
  by_cases hw2:ws[i]?=none
  ·exact done i (.inr hw2) i1 i2
  intro A R s h
  have h1:i<vs.length:=by exact Mine.lt_of_sub_s hi
  have h2:i<ws.length:=by simpa using hw2
  obtain⟨x,t,ex,ex'⟩:=hv.at i _ (List.getElem?_eq_getElem h1)
  obtain⟨y,u,ey,ey'⟩:=hw.at i _ (List.getElem?_eq_getElem h2)
  obtain⟨hp,g,d,tk,os⟩:=s;obtain⟨hl,hb,h⟩:=h
  rw[drop_cons ex',drop_cons ey'] at h
  wp_walk using AutoSeq1.wpAny_loadPart' hl,AutoSeq1.wpAny_loadPart' hb
  have hi1:vs.toArray[((i:Nat):Int).toNat]?=some (.int x t):=by rw[← ex];simp[h1]
  have hi2:ws.toArray[((i:Nat):Int).toNat]?=some (.int y u):=by rw[← ey];simp[h2]
  have hc:((i:Int)+1)=((i+1:Nat):Int):=by push_cast;rfl
  rw[hi1,hi2]
  refine wpAny_bind (EqIn.ints _ _ ?_)
  by_cases hxy:x=y
  ·rw[decide_eq_true hxy]
   wp_walk
   rw[hc]
   exact⟨plainId_quiet PySem.MeetsSeq3.plain_eq_loop _,codeAny_builtin PySem.MeetsSeq3.entry_eq_loop (by
    rw[Around.under_plainId PySem.MeetsSeq3.plain_eq_loop _]
    exact ih (i+1) (Mine.sub_s hi) (Nat.succ_le_of_lt h1) (Nat.succ_le_of_lt h2) A R _ ⟨hl,hb,by simpa [lexLt,hxy] using h⟩)⟩
  ·rw[decide_eq_false hxy]
   wp_walk using AutoSeq1.wpAny_loadPart' hl,AutoSeq1.wpAny_loadPart' hb
   rw[hi1,hi2]
   show wpAny _ _ (compareOp .Gt (.int x t) (.int y u)>>=fun v=>ret v) _ _ _
   refine wpAny_bind (gt_int (wpAny_pure ?_))
   have hyx:¬y=x:=fun e=>hxy e.symm
   simpa [lexLt,hxy,hyx] using h
theorem list_gt_all {l b:Addr}{xs ys:List Int}{vs ws:List Value}{n k:Nat}(hv:IntsAre vs xs) (hw:IntsAre ws ys) :
  MeetsIn C.prog C.w (Builtin.«list.__gt__» ⟨[.ref l,.ref b],[]⟩)
  (fun A R s=>s.heap.get? l=some (lObj vs n)∧s.heap.get? b=some (lObj ws k)∧R (.ok (.ret (.bool (lexLt (ys) (xs))))) s):=by
 intro A R s h
 obtain⟨hp,g,d,tk,os⟩:=s;obtain⟨hl,hb,h⟩:=h
 have f3:=AutoSeq1.sub_list_list
 wp_walk using AutoSeq1.wpAny_loadPart' hl,AutoSeq1.wpAny_loadPart' hb
 exact⟨plainId_quiet PySem.MeetsSeq3.plain_eq_loop _,codeAny_builtin PySem.MeetsSeq3.entry_eq_loop (by
  rw[Around.under_plainId PySem.MeetsSeq3.plain_eq_loop _]
  exact list_loop_gt hv hw _ 0 rfl (Nat.zero_le _) (Nat.zero_le _) A R _ ⟨hl,hb,by simpa using h⟩)⟩
theorem all_true (n:Nat):((List.range n).all fun J=>true)=true:=by simp
theorem flat_at {P:Around→Shared→Value→Value→Prop}{m:Nat}{xs:List D}(ih:∀d∈xs,∀{A:Around}{s:Shared}{F:FZ}{v v':Value},Ok C F s→R C F v d→R C F v' d→A.units+m+1<cLine→P A s v v') {A:Around}{s:Shared}{F:FZ}{vs ws:List Value}(hO:Ok C F s) (ra:RA C F vs xs) (rb:RA C F ws xs)
  (hu:A.units+(m+1)+1<cLine) {i:Nat} {v w:Value} (h1:vs[i]?=some v) (h2:ws[i]?=some w):P A.in1 s v w:=by
 obtain⟨d,hd,rd⟩:=ra.get?' h1
 obtain⟨v',hv,rd'⟩:=rb.get? hd
 cases h2.symm.trans hv
 exact ih d (List.mem_of_getElem? hd) hO rd rd' (by simp only[Around.in1_units];lia)
theorem flat_same {m:Nat}{d:D}(h:Flat m d):∀{A:Around}{s:Shared}{F:FZ}{v v':Value},Ok C F s→R C F v d→R C F v' d→A.units+m+1<cLine→SeqAt.EqAt A s v v' true:=by
 induction h with
 | none=>intro A s F v v' hO r r' _;rw[r.none_inv,r'.none_inv];exact .same _
 | bool=>intro A s F v v' hO r r' _;rw[r.bool_inv,r'.bool_inv];exact .same _
 | int=>
  intro A s F v v' hO r r' _
  obtain⟨t,rfl⟩:=r.int_inv;obtain⟨u,rfl⟩:=r'.int_inv
  exact fun prog w E Q hq=>wpAny_eqBool_int (by rw[beq_self_eq_true];exact hq)
 | str=>
  intro A s F v v' hO r r' _
  obtain⟨t,rfl⟩:=r.str_inv;obtain⟨u,rfl⟩:=r'.str_inv
  exact fun prog w E Q hq=>wpAny_eqBool_str (by rw[decide_eq_true rfl];exact hq)
 | @list m xs _ ih=>
  intro A s F v v' hO r r' hu
  obtain⟨a,vs,n,rfl,ea,ra⟩:=r.list_inv;obtain⟨b,ws,k,rfl,eb,rb⟩:=r'.list_inv
  by_cases hab:a=b
  ·rw[hab];exact .same _
  ·have:=SeqAt.RcAt.lists (A:=A) (e:=fun J=>true) ⟨_,hO.inn _ _ ea,rfl,_,rfl⟩ ⟨_,hO.inn _ _ eb,rfl,_,rfl⟩ (ra.length.trans rb.length.symm) (Nat.lt_trans (Nat.lt_succ_of_le (Nat.le_add_right _ _)) hu) (fun j h1 h2=>flat_at ih hO ra rb hu (List.getElem?_eq_getElem h1) (List.getElem?_eq_getElem h2))
   rw[all_true] at this
   exact .of_refs hab this
 | @tuple m xs _ ih=>
  intro A s F v v' hO r r' hu
  obtain⟨a,vs,n,rfl,ea,ra⟩:=r.tuple_inv;obtain⟨b,ws,k,rfl,eb,rb⟩:=r'.tuple_inv
  by_cases hab:a=b
  ·rw[hab];exact .same _
  ·have:=SeqAt.RcAt.tuples (A:=A) (e:=fun J=>true) ⟨_,hO.inn _ _ ea,rfl,_,rfl⟩ ⟨_,hO.inn _ _ eb,rfl,_,rfl⟩ (Nat.lt_trans (Nat.lt_succ_of_le (Nat.le_add_right _ _)) hu) (fun j h1 h2=>flat_at ih hO ra rb hu (List.getElem?_eq_getElem h1) (List.getElem?_eq_getElem h2))
   rw[all_true,show(vs.toArray.size==ws.toArray.size)=true from beq_iff_eq.mpr (ra.length.trans rb.length.symm)] at this
   exact .of_refs hab this
theorem not_sys {x:Addr}(hx:mainGlobals<x):(x==sysModules)=false:=by
 have:sysModules<mainGlobals:=by decide
 simpa using Nat.ne_of_gt (Nat.lt_trans this hx)
noncomputable def Within {K:Type}(ks:List K) (xs:List D) (ls:List K) (ys:List D):Prop:=∀(i:Nat) k x,ks[i]?=some k→xs[i]?=some x→∃j:Nat,ls[j]?=some k∧ys[j]?=some x
theorem Within.refl {K:Type}{ks:List K}{xs:List D}:Within ks xs ks xs:=fun i J J hk hx=>⟨i,hk,hx⟩
theorem rc_dict {K:Type}[DecidableEq K] {knd:KeyKind C.prog C.w K}{A:Around}{s:Shared}{F:FZ}{a b:Addr}{es es':Array DictEntry}{n n' m:Nat}{vs ws:List Value}{ks ls:List K}{xs ys:List D}(hO:Ok C F s) (h1:DAt knd (F a) a es n vs ks) (h2:DAt knd (F b) b es' n' ws ls)
  (ra:RA C F vs xs) (rb:RA C F ws ys) (hw:Within ks xs ls ys) (hl:xs.length=ys.length) (h:∀d∈xs,Flat m d) (hu:A.units+(m+1)+1<cLine):RcIn C A .Eq s (.ref a) (.ref b) true:=fun E Q hq=>by
 refine keq_eq (not_sys h1.z) (not_sys h2.z) (h1.to (hO.inn _)).dictOf (h2.to (hO.inn _)).dictOf (Nat.lt_trans (Nat.lt_succ_of_le (Nat.le_add_right _ _)) hu) (r:=true) (fun J=>hits_same fun p hp=>?_) ?_
 ·obtain⟨i,hi⟩:=List.mem_iff_getElem?.mp hp
  obtain⟨hk,hv⟩:=List.getElem?_zip_eq_some.mp hi
  obtain⟨d,hd,rd⟩:=ra.get?' hv
  obtain⟨j,hj,hy⟩:=hw i _ d hk hd
  obtain⟨w,hwj,rw'⟩:=rb.get? hy
  exact⟨w,valueAt_zip h2.len h2.nd hj hwj,flat_same (h d (List.mem_of_getElem? hd)) hO rd rw' (by simp only[Around.in1_units];lia)⟩
 ·rw[show(ks.zip vs).length=(ls.zip ws).length by rw[List.length_zip,List.length_zip,h1.len,h2.len,ra.length,rb.length,hl],beq_self_eq_true];exact hq
theorem rc_list {A:Around}{s:Shared}{a b:Addr}{vs ws:List Value}{n k:Nat}(hl:s.heap.get? a=some (lObj vs n)) (hb:s.heap.get? b=some (lObj ws k)) (hlen:vs.length=ws.length) (hu:A.units<cLine)
  (he:∀(j:Nat) v w,vs[j]?=some v→ws[j]?=some w→EqIn C A.in1 s v w true):RcIn C A .Eq s (.ref a) (.ref b) true:=fun E Q hq=>
 wpAny_richCompare_same_room ⟨_,hl,rfl⟩ ⟨_,hb,rfl⟩ PySem.F.slot_list_eq (call_meetsIn PySem.F.slot_list_eq ⟨_,hl,rfl⟩ PySem.F.entry_list_eq (PySem.F.args_list_eq_2 _ _) (list_eq_all hlen) ⟨hl,hb,he,⟨(fun x=>nomatch x),hq⟩⟩) hu
theorem rc_tuple {A:Around}{s:Shared}{a b:Addr}{vs ws:List Value}{n k:Nat}(hl:s.heap.get? a=some (tObj vs n)) (hb:s.heap.get? b=some (tObj ws k)) (hlen:vs.length=ws.length) (hu:A.units<cLine)
  (he:∀(j:Nat) v w,vs[j]?=some v→ws[j]?=some w→EqIn C A.in1 s v w true):RcIn C A .Eq s (.ref a) (.ref b) true:=fun E Q hq=>
 wpAny_richCompare_same_room ⟨_,hl,rfl⟩ ⟨_,hb,rfl⟩ PySem.F.slot_tuple_eq (call_meetsIn PySem.F.slot_tuple_eq ⟨_,hl,rfl⟩ PySem.F.entry_tuple_eq (PySem.F.args_tuple_eq_2 _ _) (tuple_eq_all hlen) ⟨hl,hb,he,⟨(fun x=>nomatch x),hq⟩⟩) hu
theorem box_eq {A:Around}{s:Shared}{a b:Addr}(h:RcIn C A .Eq s (.ref a) (.ref b) true):EqIn C A s (.ref a) (.ref b) true:=by
 by_cases hab:a=b
 ·rw[hab];exact .same _
 ·exact .refs hab h
noncomputable def isBox:D→Bool
 | .list _ | .tuple _ | .dictS _ _ | .dictI _ _=>true
 | _=>false
theorem eq_both {m:Nat}{d:D}(h:EqOk m d):∀{A:Around}{s:Shared}{F:FZ}{v v':Value},Ok C F s→R C F v d→R C F v' d→A.units+m+1<cLine→(isBox d=true→RcIn C A .Eq s v v' true)∧EqIn C A s v v' true:=by
 have box:∀{A:Around} {s:Shared} {a b:Addr} {P:Prop},RcIn C A .Eq s (.ref a) (.ref b) true→(P→RcIn C A .Eq s (.ref a) (.ref b) true)∧EqIn C A s (.ref a) (.ref b) true:=fun h=>⟨fun J=>h,box_eq h⟩
 induction h with
 | none=>intro A s F v v' hO r r' _;rw[r.none_inv,r'.none_inv];exact⟨fun h=>(nomatch h),.same _⟩
 | bool=>intro A s F v v' hO r r' _;rw[r.bool_inv,r'.bool_inv];exact⟨fun h=>(nomatch h),.same _⟩
 | int=>
  intro A s F v v' hO r r' _
  obtain⟨t,rfl⟩:=r.int_inv;obtain⟨u,rfl⟩:=r'.int_inv
  exact⟨fun h=>(nomatch h),fun E Q hq=>wpAny_eqBool_int (by rw[beq_self_eq_true];exact hq)⟩
 | str=>
  intro A s F v v' hO r r' _
  obtain⟨t,rfl⟩:=r.str_inv;obtain⟨u,rfl⟩:=r'.str_inv
  exact⟨fun h=>(nomatch h),fun E Q hq=>wpAny_eqBool_str (by rw[decide_eq_true rfl];exact hq)⟩
 | list _ ih=>
  intro A s F v v' hO r r' hu
  obtain⟨a,vs,n,rfl,ea,ra⟩:=r.list_inv;obtain⟨b,ws,k,rfl,eb,rb⟩:=r'.list_inv
  exact box (rc_list (hO.inn _ _ ea) (hO.inn _ _ eb) (ra.length.trans rb.length.symm) (Nat.lt_trans (Nat.lt_succ_of_le (Nat.le_add_right _ _)) hu) fun J J J=>flat_at (fun d hd=>fun a b c e=>(ih d hd a b c e).2) hO ra rb hu)
 | tuple _ ih=>
  intro A s F v v' hO r r' hu
  obtain⟨a,vs,n,rfl,ea,ra⟩:=r.tuple_inv;obtain⟨b,ws,k,rfl,eb,rb⟩:=r'.tuple_inv
  exact box (rc_tuple (hO.inn _ _ ea) (hO.inn _ _ eb) (ra.length.trans rb.length.symm) (Nat.lt_trans (Nat.lt_succ_of_le (Nat.le_add_right _ _)) hu) fun J J J=>flat_at (fun d hd=>fun a b c e=>(ih d hd a b c e).2) hO ra rb hu)
 | dictS h=>
  intro A s F v v' hO r r' hu
  obtain⟨a,es,n,vs,rfl,h1,ra⟩:=r.dictS_inv;obtain⟨b,es',n',ws,rfl,h2,rb⟩:=r'.dictS_inv
  exact box (rc_dict hO h1 h2 ra rb .refl rfl h hu)
 | dictI h=>
  intro A s F v v' hO r r' hu
  obtain⟨a,es,n,vs,rfl,h1,ra⟩:=r.dictI_inv;obtain⟨b,es',n',ws,rfl,h2,rb⟩:=r'.dictI_inv
  exact box (rc_dict hO h1 h2 ra rb .refl rfl h hu)
theorem o_eq_same {d:D}{m:Nat}(hb:isBox d=true) (h:EqOk m d) (hd:m≤60):Op2 C (compareOp .Eq) d d (.bool true):=by
 intro A F s va vb hR hO r r'
 have hu:=hR.u64
 exact smBool hO fun Q hq=>(eq_both h hO r r' (by lia)).1 hb _ _ hq
theorem o_lt_ints {xs ys:List Int}:Op2 C (compareOp .Lt) (.list (xs.map .int)) (.list (ys.map .int)) (.bool (lexLt xs ys)):=by
 intro A F s va vb hR hO ha hb
 obtain⟨a,vs,n,rfl,ea,ra⟩:=ha.list_inv;obtain⟨b,ws,k,rfl,eb,rb⟩:=hb.list_inv
 have hl:=hO.inn _ _ ea;have hl':=hO.inn _ _ eb
 refine smBool hO fun Q h=>?_
 show Wp C A (richCompare .Lt (.ref a) (.ref b)) Q s
 exact wpAny_richCompare_same_room (op:=.Lt) ⟨_,hl,rfl⟩ ⟨_,hl',rfl⟩ PySem.F.slot_list_lt (call_meetsIn PySem.F.slot_list_lt ⟨_,hl,rfl⟩ PySem.F.entry_list_lt (PySem.F.args_list_lt_2 _ _) (list_lt_all (ints_are ra) (ints_are rb)) ⟨hl,hl',⟨(fun x=>nomatch x),h⟩⟩) (by have:=hR.u64;exact Nat.lt_of_le_of_lt (Nat.le_add_right _ _) this)
theorem o_gt_ints {xs ys:List Int}:Op2 C (compareOp .Gt) (.list (xs.map .int)) (.list (ys.map .int)) (.bool (lexLt ys xs)):=by
 intro A F s va vb hR hO ha hb
 obtain⟨a,vs,n,rfl,ea,ra⟩:=ha.list_inv;obtain⟨b,ws,k,rfl,eb,rb⟩:=hb.list_inv
 have hl:=hO.inn _ _ ea;have hl':=hO.inn _ _ eb
 refine smBool hO fun Q h=>?_
 show Wp C A (richCompare .Gt (.ref a) (.ref b)) Q s
 exact wpAny_richCompare_same_room (op:=.Gt) ⟨_,hl,rfl⟩ ⟨_,hl',rfl⟩ PySem.F.slot_list_gt (call_meetsIn PySem.F.slot_list_gt ⟨_,hl,rfl⟩ PySem.F.entry_list_gt (PySem.F.args_list_gt_2 _ _) (list_gt_all (ints_are ra) (ints_are rb)) ⟨hl,hl',⟨(fun x=>nomatch x),h⟩⟩) (by have:=hR.u64;exact Nat.lt_of_le_of_lt (Nat.le_add_right _ _) this)
theorem reads_ints {F:FZ}{s:Shared}(hO:Ok C F s) {v:Value}{xs:List Int}(r:R C F v (.list (xs.map .int))):∃as,Reads s.heap v (.list (xs.map .int)) as:=by
 obtain⟨a,vs,n,rfl,ea,ra⟩:=r.list_inv
 exact⟨_,reads_of_ints ⟨_,hO.inn _ _ ea,rfl,_,rfl⟩ (ints_are ra)⟩
theorem any_ints (xs:List Int) (i:Int):((xs.map PyData.int).any fun y=>PyData.eqv y (.int i))=decide (i∈xs):=by
 induction xs with
 | nil=>simp
 | cons x xs ih=>rw[List.map_cons,List.any_cons,ih];simp only[PyData.eqv];by_cases h:x=i <;> simp[h,eq_comm (a:=i)]
theorem canLay_ints:∀xs:List Int,PyData.canLayAll0 (xs.map PyData.int)=true
 | []=>rfl
 | _::xs=>by simp[PyData.canLayAll0,PyData.canLay0,canLay_ints xs]
theorem o_in_ints {i:Int}{xs:List Int}:Op2 C (compareOp .In) (.int i) (.list (xs.map .int)) (.bool (decide (i∈xs))):=by
 intro A F s va vb hR hO ha hb
 obtain⟨t,rfl⟩:=ha.int_inv
 obtain⟨as,rr⟩:=reads_ints hO hb
 refine smBool hO fun Q h=>SeqAt.in_list_reads rr (.int _ _) (canLay_ints _) rfl ?_ (by rw[any_ints];exact h)
 have:=hR.u64;simp only[PyData.depth];lia
theorem o_notin_ints {i:Int}{xs:List Int}:Op2 C (compareOp .NotIn) (.int i) (.list (xs.map .int)) (.bool (!decide (i∈xs))):=by
 intro A F s va vb hR hO ha hb
 obtain⟨t,rfl⟩:=ha.int_inv
 obtain⟨as,rr⟩:=reads_ints hO hb
 refine smBool hO fun Q h=>SeqAt.notIn_list_reads rr (.int _ _) (canLay_ints _) rfl ?_ (by rw[any_ints];exact h)
 have:=hR.u64;simp only[PyData.depth];lia
end
end
section
set_option backward.match.sparseCases false
noncomputable def notStar:Expr→Bool
 | .Starred ..=>false
 | _=>true
theorem starEach_cons {e:Expr}{es:List Expr}{env:Env}(h:notStar e=true):starEach (e::es) env=(false,eval e env)::starEach es env:=by
 cases e <;> first | rfl | cases h
inductive Exs (C:Cx) (n:Nat) (sc:Scope) (Γ:Gm):List Expr→List D→Prop
 | nil:Exs C n sc Γ [] []
 | cons {e es d ds}:Ex C n sc Γ e d→Exs C n sc Γ es ds→notStar e=true→Exs C n sc Γ (e::es) (d::ds)
section
variable {C:Cx}{n:Nat}{sc:Scope}{Γ:Gm}
theorem Exs.run {es:List Expr}{ds:List D}(h:Exs C n sc Γ es ds):∀{env:Env}{A:Around}{F:FZ}{s:Shared}{pos:Pos},gE sc env→Room n A→Ok C F s→EnvOk C F s env Γ →
  Wp C A (spliced (backTo pos (starEach es env))) (fun vs s'=>∃F',Grow F F' s s'∧RA C F' vs ds) s:=by
 induction h with
 | nil=>intro env A F s pos hE hR hO hV;exact spliced_nil ⟨F,.refl hO.inn,.nil⟩
 | cons h1 _ hs ih=>
  intro env A F s pos hE hR hO hV
  rw[starEach_cons hs]
  show Wp C A (spliced ((false,_)::backTo pos (starEach _ env))) _ s
  refine spliced_cons ((h1 env A F s hE hR hO hV).imp fun v s₁ hZ=>?_)
  obtain⟨F₁,g₁,r₁⟩:=hZ
  refine(ih hE hR (hO.grow g₁) (hV.grow g₁)).imp fun vs s₂ hZ=>?_
  obtain⟨F₂,g₂,r₂⟩:=hZ
  exact⟨F₂,g₁.trans g₂,.cons (r₁.mono g₂.le) r₂⟩
theorem ex_list {es:List Expr}{ds:List D}{pos:Pos}(h:Exs C n sc Γ es ds) (hz:autoParam (ds.length≤sizeLine) nb):Ex C n sc Γ (.List es pos) (.list ds):=by
 intro env A F s hE hR hO hV
 refine wpAny_List_spliced ((h.run hE hR hO hV).imp fun vs s₁ ⟨F₁,g,r⟩=>⟨by rw[r.length];exact hz,?_⟩)
 obtain⟨F',g',r'⟩:=new_list (tk:=s₁.toks) (k:=0) g.inn r
 exact⟨F',g.trans g',r'⟩
theorem ex_tuple {es:List Expr}{ds:List D}{x:_}{pos:Pos}(h:Exs C n sc Γ es ds) (hz:autoParam (ds.length≤sizeLine) nb):Ex C n sc Γ (.Tuple es x pos) (.tuple ds):=by
 intro env A F s hE hR hO hV
 refine wpAny_Tuple_spliced ((h.run hE hR hO hV).imp fun vs s₁ ⟨F₁,g,r⟩=>⟨by rw[r.length];exact hz,?_⟩)
 obtain⟨F',g',r'⟩:=new_tuple (tk:=s₁.toks) (k:=0) g.inn r
 exact⟨F',g.trans g',r'⟩
noncomputable def Calls (C:Cx) (n:Nat) (f:Value) (ds:List D) (d:D):Prop:=∀(A:Around) (F:FZ) (s:Shared) (vs:List Value),Room n A→Ok C F s→RA C F vs ds→Sm C A F s (call f vs) d
theorem Calls.lvl {m:Nat}{f:Value}{ds:List D}{d:D}(h:Calls C m f ds d) (hm:m≤n):Calls C n f ds d:=fun A F s vs hR=>h A F s vs (hR.mono hm)
theorem evalArgs_run {f:Value}{es:List Expr}{ds:List D}(h:Exs C n sc Γ es ds) {env:Env}{A:Around}{F:FZ}{s:Shared}{pos:Pos}(hE:gE sc env) (hR:Room n A) (hO:Ok C F s) (hV:EnvOk C F s env Γ) :
  Wp C A (evalArgs f true (backTo pos (starEach es env)) []) (fun a s'=>a.kw=[]∧∃F',Grow F F' s s'∧RA C F' a.pos ds) s:=by
 have h':=h.run (pos:=pos) hE hR hO hV
 cases h with
 | nil=>exact wpAny_pure (a:=(⟨[],[]⟩:Args)) ⟨rfl,F,.refl hO.inn,.nil⟩
 | cons h1 h2 hs=>
  rw[starEach_cons hs] at h' ⊢
  exact evalArgs_plain (h'.imp fun vs s' q=>⟨rfl,q⟩)
theorem any_backTo {es:List Expr}{ds:List D}(h:Exs C n sc Γ es ds) (env:Env) (pos:Pos):(backTo pos (starEach es env)).any (·.1)=false:=by
 induction h with
 | nil=>rfl
 | cons h1 _ hs ih=>rw[starEach_cons hs];simpa [backTo] using ih
noncomputable def Machine (f:Value):Prop:=∀a,f≠.ref a
theorem callWith_machine {pos:Pos}{f:Value}{first:List Value}{args:List (Bool×Sem Value)}{A:Around}{s:Shared}{Q:Value→Shared→Prop}(hf:Machine f) (hplain:args.any (·.1)=false)
  (h:Wp C A (evalArgs f true args []) (fun a s₁=>Wp C A (call f (first++a.pos) a.kw) Q s₁) s):Wp C A (callWith pos f first args []) Q s:=by
 unfold callWith
 refine wpAny_bind (wpAny_holding (h.imp fun a s₁ h₁=>wpAny_bind (wpAny_standAt ?_)))
 have e:(args.any (·.1)||([]:List (Option Str×Sem Value)).any (·.1.isNone))=false:=by rw[hplain];rfl
 rw[e]
 have hk:keeperOf f=pure .machine:=by
  unfold keeperOf
  cases f <;> first | rfl | exact absurd rfl (hf _)
 rw[hk]
 refine wpAny_bind (wpAny_pure ?_)
 exact wpAny_bind (Wp.imp h₁ fun r s₂ hr=>wpAny_bind (wpAny_holding (wpAny_point (wpAny_pure hr))))
theorem callWith_fn {pos:Pos}{a:Addr}{o:Obj}{fd:FuncData}{first:List Value}{args:List (Bool×Sem Value)}{A:Around}{s:Shared}{Q:Value→Shared→Prop}
  (h:Wp C A (evalArgs (.ref a) true args []) (fun x s₁=>(s₁.heap.get? a=some o∧o.data=.func fd)∧Wp C A (call (.ref a) (first++x.pos) x.kw) Q s₁) s):Wp C A (callWith pos (.ref a) first args []) Q s:=
 callWith_function h
theorem eval_Call_Name {x:Str}{p pos:Pos}{es:List Expr}{env:Env}:eval (.Call (.Name x p) es [] pos) env=(eval (.Name x p) env>>=fun f=>callWith pos f [] (backTo pos (starEach es env)) []):=rfl
noncomputable def isBuiltinName (sc:Scope) (x:Str):Bool:=sc.names.lookup x==some .globalImplicit&&x != ("__name__":Str)&&x != ("__debug__":Str)
theorem name_global {x:Str}{p:Pos}{v:Value}{env:Env}{A:Around}{F:FZ}{s:Shared}{Q:Value→Shared→Prop}(hE:gE sc env) (hO:Ok C F s) (hx:sc.names.lookup x=some .globalImplicit) (hv:C.mg x=some v) (q:Q v s)
  (hd:(x==("__debug__":Str))=false):Wp C A (eval (.Name x p) env) Q s:=
 Name_function_global (by rw[hE.scope];exact hE.kind) (by show env.scope.names.lookup x=_;rw[hE.scope];exact hx) (loadGlobal_global (by rw[hE.globals];exact C.g.keeps hO.keep) hv q) hd
theorem name_builtin {x:Str}{p:Pos}{v:Value}{env:Env}{A:Around}{F:FZ}{s:Shared}{Q:Value→Shared→Prop}(hE:gE sc env) (hO:Ok C F s) (hx:isBuiltinName sc x=true) (hm:C.mg x=none) (hv:bootBuiltins x=some v) (q:Q v s):Wp C A (eval (.Name x p) env) Q s:=by
 simp only[isBuiltinName,Bool.and_eq_true,bne_iff_ne,ne_eq] at hx
 refine Name_function_global (by rw[hE.scope];exact hE.kind) (by show env.scope.names.lookup x=_;rw[hE.scope];exact eq_of_beq hx.1.1)
  (loadGlobal_builtin (mb:=C.mb) (by rw[hE.globals];exact C.g.keeps hO.keep) hm (by rw[hE.builtins];exact C.b.keeps hO.keep) ((C.bi x hx.1.2).trans hv) q) (beq_eq_false_iff_ne.mpr hx.2)
theorem ex_global {x:Str}{p:Pos}{d:D}{v:Value}(hx:sc.names.lookup x=some .globalImplicit) (hv:C.mg x=some v) (hr:∀F,R C F v d) (hd:autoParam ((x==("__debug__":Str))=false) dk):Ex C n sc Γ (.Name x p) d:=
 fun env A F s hE hR hO hV=>name_global hE hO hx hv ⟨F,.refl hO.inn,hr F⟩ hd
theorem ex_builtin {x:Str}{p pos:Pos}{f:Value}{es:List Expr}{ds:List D}{d:D}(hb:bootBuiltins x=some f) (hg:C.mg x=none) (hf:Machine f) (args:Exs C n sc Γ es ds) (h:Calls C n f ds d) (hx:autoParam (isBuiltinName sc x=true) dk) :
  Ex C n sc Γ (.Call (.Name x p) es [] pos) d:=by
 intro env A F s hE hR hO hV
 rw[Sm,eval_Call_Name]
 refine Wp.bind (name_builtin hE hO hx hg hb (callWith_machine hf (any_backTo args env pos) ?_))
 refine(evalArgs_run args hE hR hO hV).imp fun a s₁ hZ=>?_
 obtain⟨e,F₁,g,r⟩:=hZ
 rw[e]
 exact(h A F₁ s₁ a.pos hR (hO.grow g) r).grow g
structure FnAt (C:Cx) (a:Addr) (P:Arguments) (body:List Stmt) (sc:Scope) (fd:FuncData):Prop where
 at_:∃o,C.hb.get? a=some o∧o.data=.func fd
 params:fd.params=P
 body:fd.body=.stmts body
 scope:fd.scope=sc
 globals:fd.globals=mainGlobals
 builtins:fd.builtins=builtinsNs
 closure:fd.closure=[]
 defaults:fd.defaults=.none
 kwdefaults:fd.kwdefaults=.none
 code:C.hb.CodeRec fd.code fd.qualname
noncomputable def Fn (C:Cx) (n:Nat) (x:Str) (ds:List D) (d:D):Prop:=∃a fd o,C.mg x=some (.ref a)∧C.hb.get? a=some o∧o.data=.func fd∧Calls C n (.ref a) ds d
theorem ex_call {m:Nat}{x:Str}{p pos:Pos}{es:List Expr}{ds:List D}{d:D}(args:Exs C n sc Γ es ds) (h:Fn C m x ds d) (hm:m≤n) (hx:autoParam (sc.names.lookup x=some .globalImplicit) dk) (hd:autoParam ((x==("__debug__":Str))=false) dk) :
  Ex C n sc Γ (.Call (.Name x p) es [] pos) d:=by
 intro env A F s hE hR hO hV
 obtain⟨a,fd,o,h1,h2,h3,h4⟩:=h
 rw[Sm,eval_Call_Name]
 refine Wp.bind (name_global hE hO hx h1 (callWith_fn (o:=o) (fd:=fd) ?_) hd)
 refine(evalArgs_run args hE hR hO hV).imp fun q s₁ hZ=>?_
 obtain⟨e,F₁,g,r⟩:=hZ
 rw[e]
 exact⟨⟨(hO.grow g).keep _ _ h2,h3⟩,(h4 A F₁ s₁ q.pos (hR.mono hm) (hO.grow g) r).grow g⟩
end
end
section
noncomputable def Own (sc:Scope) (env:Env) (b:Addr):Prop:=b=env.locals∨∃x,sc.names.lookup x=some .cell∧env.cells.lookup x=some b
structure EnvWf (sc:Scope) (env:Env) (F:FZ) (s:Shared):Prop where
 kind:env.scope.kind=.function
 kl:∀x,sc.names.lookup x=some .local→env.kindOf x=some .local
 kc:∀x,sc.names.lookup x=some .cell→env.kindOf x=some .cell
 ns:∃m,s.heap.Ns env.locals m
 nsF:F env.locals=none
 cell:∀x,sc.names.lookup x=some .cell→∃c v,env.cells.lookup x=some c∧s.heap.IsCell c v∧F c=none
 apart:∀x y c,sc.names.lookup x=some .cell→env.cells.lookup x=some c→env.cells.lookup y=some c→x=y
theorem cell_ne_ns {h:Heap}{c a:Addr}{v:Option Value}{m:Str→Option Value}(x:h.IsCell c v) (y:h.Ns a m):c≠a:=by
 rintro rfl
 obtain⟨o,ho,hd⟩:=x;obtain⟨o',es,ep,ho',hd',_⟩:=y
 rw[ho] at ho';cases ho';rw[hd] at hd';cases hd'
structure Stored (sc:Scope) (env:Env) (x:Str) (v:Value) (s s':Shared):Prop where
 at_:VarAt env s'.heap x v
 other:∀y w,y≠x→VarAt env s.heap y w→VarAt env s'.heap y w
 os:s'.os=s.os
 gens:s'.gens=s.gens
 size:s'.heap.objs.size=s.heap.objs.size
 keep:∀b,¬Own sc env b→s'.heap.get? b=s.heap.get? b
 live:∀b o,s.heap.get? b=some o→∃o',s'.heap.get? b=some o'
 tk:s.toks≤s'.toks
noncomputable def sto (sc:Scope) (x:Str):Bool:=sc.names.lookup x==some .local||sc.names.lookup x==some .cell
theorem storable_iff {sc:Scope}{x:Str}(h:sto sc x=true):sc.names.lookup x=some .local∨sc.names.lookup x=some .cell:=by
 simp only[sto,Bool.or_eq_true,beq_iff_eq] at h;exact h
theorem store_name {C:Cx}{A:Around}{F:FZ}{s:Shared}{sc:Scope}{env:Env}{x:Str}{v:Value}{Q:Unit→Shared→Prop}(W:EnvWf sc env F s) (hx:sto sc x=true)
  (q:∀s',Stored sc env x v s s'→EnvWf sc env F s'→Q () s'):Wp C A (storeName env x v) Q s:=by
 obtain⟨m,hns⟩:=W.ns
 rcases storable_iff hx with hl | hc
 ·refine wpAny_storeName_local (W.kl x hl) hns (fun h' hn hs=>q _ ?_ ?_) (by rw[W.kind];rfl)
  ·refine⟨.inl ⟨W.kl x hl,_,hn,by simp⟩,fun y w hy hv=>?_,rfl,rfl,hs.1,fun b hb=>hs.2 b fun e=>hb (.inl e),fun b o e=>?_,by first | exact Nat.le_refl _ | exact Nat.le_succ _⟩
   rcases hv with ⟨a,m',b,c⟩ | ⟨a,c,b,d⟩
   ·have e:m'=m:=by
     obtain⟨o,es,ep,ho,hd,_,hm⟩:=b;obtain⟨o',es',ep',ho',hd',_,hm'⟩:=hns
     rw[ho] at ho';cases ho';rw[hd] at hd';cases hd'
     funext z;rw[← hm z,← hm' z]
    exact .inl ⟨a,_,hn,by rw[if_neg hy,← e];exact c⟩
   ·exact .inr ⟨a,c,b,d.sameBut hs (cell_ne_ns d hns)⟩
   ·by_cases hb:b=env.locals
    ·subst hb;obtain⟨o',_,_,ho',_⟩:=hn;exact⟨o',ho'⟩
    ·exact⟨o,(hs.2 b hb).trans e⟩
  ·refine⟨W.kind,W.kl,W.kc,⟨_,hn⟩,W.nsF,fun y hy=>?_,W.apart⟩
   obtain⟨c,w,h1,h2,h3⟩:=W.cell y hy
   exact⟨c,w,h1,h2.sameBut hs (cell_ne_ns h2 hns),h3⟩
 ·obtain⟨c,w,h1,h2,h3⟩:=W.cell x hc
  have hne:=cell_ne_ns h2 hns
  refine wpAny_storeName_cell W.kind (W.kc x hc) h1 h2 fun h' hn hs=>q _ ?_ ?_
  ·refine⟨.inr ⟨.inl (W.kc x hc),c,h1,hn⟩,fun y w' hy hv=>?_,rfl,rfl,hs.1,fun b hb=>hs.2 b fun e=>hb (.inr ⟨x,hc,e▸h1⟩),fun b o e=>?_,by first | exact Nat.le_refl _ | exact Nat.le_succ _⟩
   rcases hv with ⟨a,m',b,e⟩ | ⟨a,c',b,d⟩
   ·exact .inl ⟨a,m',b.sameBut hs hne.symm,e⟩
   ·exact .inr ⟨a,c',b,d.sameBut hs fun e=>hy ((W.apart x y c hc h1 (e▸b)).symm)⟩
   ·by_cases hb:b=c
    ·subst hb;obtain⟨o',ho',_⟩:=hn;exact⟨o',ho'⟩
    ·exact⟨o,(hs.2 b hb).trans e⟩
  ·refine⟨W.kind,W.kl,W.kc,⟨_,hns.sameBut hs hne.symm⟩,W.nsF,fun y hy=>?_,W.apart⟩
   by_cases hyx:y=x
   ·subst hyx;exact⟨c,_,h1,hn,h3⟩
   ·obtain⟨c',w',k1,k2,k3⟩:=W.cell y hy
    exact⟨c',w',k1,k2.sameBut hs fun e=>hyx ((W.apart x y c hc h1 (e▸k1)).symm),k3⟩
theorem EnvWf.grow {sc:Scope}{env:Env}{F F':FZ}{s s':Shared}(W:EnvWf sc env F s) (g:Grow F F' s s'):EnvWf sc env F' s':=by
 obtain⟨m,hns⟩:=W.ns
 refine⟨W.kind,W.kl,W.kc,⟨m,hns.keeps g.keep⟩,(g.old _ hns.lt).trans W.nsF,fun x hx=>?_,W.apart⟩
 obtain⟨c,v,h1,h2,h3⟩:=W.cell x hx
 exact⟨c,v,h1,h2.keeps g.keep,(g.old _ h2.lt).trans h3⟩
theorem EnvWf.ownF {sc:Scope}{env:Env}{F:FZ}{s:Shared}(W:EnvWf sc env F s) {b:Addr}(h:Own sc env b):F b=none∧b<s.heap.objs.size:=by
 rcases h with rfl | ⟨x,hx,hc⟩
 ·obtain⟨m,hns⟩:=W.ns;exact⟨W.nsF,hns.lt⟩
 ·obtain⟨c,v,h1,h2,h3⟩:=W.cell x hx
  rw[hc] at h1;cases h1;exact⟨h3,h2.lt⟩
theorem Ok.stored {C:Cx}{F:FZ}{s s':Shared}{sc:Scope}{env:Env}{x:Str}{v:Value}(k:Ok C F s) (W:EnvWf sc env F s) (z:Stored sc env x v s s'):Ok C F s':=
 ⟨fun a o e=>(z.keep a fun h=>by have:=(W.ownF h).1;rw[e] at this;cases this).trans (k.inn a o e),k.base,Nat.le_trans k.tok z.tk⟩
theorem EnvOk.stored {C:Cx}{F:FZ}{s s':Shared}{sc:Scope}{env:Env}{x:Str}{v:Value}{d:D}{Γ Γ':Gm}(h:EnvOk C F s env Γ) (z:Stored sc env x v s s') (hr:R C F v d)
  (hs:∀p∈Γ',p∈Γ∧p.1≠x) (ho:∀p∈Γ',vis env.scope p.1=true→∀a,p.2.addr=some a→¬Own sc env a):EnvOk C F s' env ((x,.imm d)::Γ'):=by
 refine⟨fun p hp hv=>?_,fun y c e=>let ⟨o,ho⟩:=h.low y c e;z.live c o ho⟩
 rcases List.mem_cons.mp hp with rfl | hp
 ·exact⟨v,z.at_,.imm hr⟩
 ·obtain⟨w,a,b⟩:=h.var p (hs p hp).1 hv
  exact⟨w,z.other _ _ (hs p hp).2 a,b.keep (.refl _) fun a ha o e=>(z.keep a (ho p hp hv a ha)).trans e⟩
structure GrowX (ex exg:Nat→Prop) (F F':FZ) (s s':Shared):Prop where
 le:F.Le F'
 old:∀a:Nat,¬ex a→F' a=F a
 keep:∀(b:Nat) o,¬ex b→s.heap.get? b=some o→s'.heap.get? b=some o
 size:s.heap.objs.size≤s'.heap.objs.size
 os:s'.os=s.os
 gen:∀(i:Nat) x,¬exg i→s.gens[i]?=some x→s'.gens[i]?=some x
 gsize:s.gens.size≤s'.gens.size
 bare:AllBare s.gens→AllBare s'.gens
 tk:s.toks≤s'.toks
namespace GrowX
variable {ex exg ex' exg':Nat→Prop}{F F' F'':FZ}{s s' s'':Shared}
theorem refl:GrowX ex exg F F s s:=⟨.refl _,fun J J=>rfl,fun J J J e=>e,Nat.le_refl _,rfl,fun J J J e=>e,Nat.le_refl _,id,Nat.le_refl _⟩
theorem trans (a:GrowX ex exg F F' s s') (b:GrowX ex exg F' F'' s' s''):GrowX ex exg F F'' s s'':=
 ⟨a.le.trans b.le,fun x hx=>(b.old x hx).trans (a.old x hx),fun x o hx e=>b.keep x o hx (a.keep x o hx e),Nat.le_trans a.size b.size,b.os.trans a.os,
  fun i x hi e=>b.gen i x hi (a.gen i x hi e),Nat.le_trans a.gsize b.gsize,fun h=>b.bare (a.bare h),Nat.le_trans a.tk b.tk⟩
theorem weak (a:GrowX ex exg F F' s s') (h:∀b,ex b→ex' b) (hg:∀i,exg i→exg' i):GrowX ex' exg' F F' s s':=
 ⟨a.le,fun x hx=>a.old x fun q=>hx (h x q),fun b o hb e=>a.keep b o (fun q=>hb (h b q)) e,a.size,a.os,fun i x hi e=>a.gen i x (fun q=>hi (hg i q)) e,a.gsize,a.bare,a.tk⟩
theorem of (g:Grow F F' s s') (hb:∀b:Nat,s.heap.objs.size≤b→ex b):GrowX ex exg F F' s s':=
 ⟨g.le,fun a h=>g.old a (Nat.lt_of_not_le fun q=>h (hb a q)),fun b o J e=>g.keep b o e,g.size,g.os,fun i x J e=>g.gen i x e,g.gsize,g.bare,g.tk⟩
theorem stored {sc:Scope}{env:Env}{x:Str}{v:Value}(z:Stored sc env x v s s') (h:∀b:Nat,Own sc env b→ex b):GrowX ex exg F F s s':=
 ⟨.refl _,fun J J=>rfl,fun b o hb e=>(z.keep b fun q=>hb (h b q)).trans e,by rw[z.size];exact Nat.le_refl _,z.os,fun i x J e=>by rw[z.gens];exact e,by rw[z.gens];exact Nat.le_refl _,fun h=>by rw[z.gens];exact h,z.tk⟩
end GrowX
structure St (C:Cx) (sc:Scope) (ex exg:Nat→Prop) (env:Env) (Γ:Gm) (F:FZ) (s:Shared):Prop where
 ok:Ok C F s
 eok:EnvOk C F s env Γ
 wf:EnvWf sc env F s
 lo:∀b:Nat,Own sc env b→ex b
 own:∀p∈Γ,∀a:Nat,p.2.addr=some a→F a=none∧ex a∧a<s.heap.objs.size∧¬Own sc env a
 apart:Γ.Pairwise fun p q=>∀a,p.2.addr=some a→q.2.addr≠some a
 base:∀b:Nat,s.heap.objs.size≤b→ex b
 gbase:∀i:Nat,s.gens.size≤i→exg i
theorem St.grow {C:Cx}{sc:Scope}{ex exg:Nat→Prop}{env:Env}{Γ:Gm}{F F':FZ}{s s':Shared}(x:St C sc ex exg env Γ F s) (g:Grow F F' s s'):St C sc ex exg env Γ F' s':=
 ⟨x.ok.grow g,x.eok.grow g,x.wf.grow g,x.lo,fun p hp a ha=>let ⟨h1,h2,h3,h4⟩:=x.own p hp a ha;⟨(g.old a h3).trans h1,h2,Nat.lt_of_lt_of_le h3 g.size,h4⟩,x.apart,fun b h=>x.base b (Nat.le_trans g.size h),fun i h=>x.gbase i (Nat.le_trans g.gsize h)⟩
theorem St.sub {C:Cx}{sc:Scope}{ex exg:Nat→Prop}{env:Env}{Γ Γ':Gm}{F:FZ}{s:Shared}(x:St C sc ex exg env Γ F s) (h:Γ'.Sublist Γ):St C sc ex exg env Γ' F s:=
 ⟨x.ok,x.eok.sub fun p hp=>h.subset hp,x.wf,x.lo,fun p hp=>x.own p (h.subset hp),x.apart.sublist h,x.base,x.gbase⟩
theorem St.stored {C:Cx}{sc:Scope}{ex exg:Nat→Prop}{env:Env}{Γ Γ':Gm}{F:FZ}{s s':Shared}{x:Str}{v:Value}{d:D}(X:St C sc ex exg env Γ F s) (z:Stored sc env x v s s') (W':EnvWf sc env F s') (hr:R C F v d)
  (hs:Γ'.Sublist Γ) (hx:∀p∈Γ',p.1≠x):St C sc ex exg env ((x,.imm d)::Γ') F s':=
 ⟨X.ok.stored X.wf z,X.eok.stored z hr (fun p hp=>⟨hs.subset hp,hx p hp⟩) fun p hp J a ha=>(X.own p (hs.subset hp) a ha).2.2.2,W',X.lo,
  fun p hp a ha=>by
   rcases List.mem_cons.mp hp with rfl | hp
   ·cases ha
   ·rw[z.size];exact X.own p (hs.subset hp) a ha,
  List.pairwise_cons.mpr ⟨fun q J a ha=>(nomatch ha),X.apart.sublist hs⟩,by rw[z.size];exact X.base,by rw[z.gens];exact X.gbase⟩
inductive Out where
 | next (Γ:Gm)
 | ret (d:D)
noncomputable def OutR (C:Cx) (sc:Scope) (ex exg:Nat→Prop) (env:Env) (F:FZ) (s:Shared):Out→Flow→Shared→Prop
 | .next Γ,fl,s'=>fl=.next∧∃F',GrowX ex exg F F' s s'∧St C sc ex exg env Γ F' s'
 | .ret d,fl,s'=>∃v F',fl=.ret v∧GrowX ex exg F F' s s'∧Ok C F' s'∧R C F' v d
theorem OutR.up {C:Cx}{sc:Scope}{ex exg:Nat→Prop}{env:Env}{F F₁:FZ}{s s₁:Shared}(g:GrowX ex exg F F₁ s s₁) {o:Out}{fl:Flow}{s':Shared}(h:OutR C sc ex exg env F₁ s₁ o fl s'):OutR C sc ex exg env F s o fl s':=by
 cases o with
 | next Γ=>obtain⟨e,F',g',x⟩:=h;exact⟨e,F',g.trans g',x⟩
 | ret d=>obtain⟨v,F',e,g',x⟩:=h;exact⟨v,F',e,g.trans g',x⟩
noncomputable def Run (C:Cx) (n:Nat) (sc:Scope) (Γ:Gm) (body:List Stmt) (o:Out):Prop:=
 ∀(env:Env) (A:Around) (F:FZ) (s:Shared) (ex exg:Nat→Prop),gE sc env→Room n A→St C sc ex exg env Γ F s→Wp C A (execs body env) (OutR C sc ex exg env F s o) s
noncomputable def Step (C:Cx) (n:Nat) (sc:Scope) (Γ:Gm) (st:Stmt) (o:Out):Prop:=
 ∀(env:Env) (A:Around) (F:FZ) (s:Shared) (ex exg:Nat→Prop),gE sc env→Room n A→St C sc ex exg env Γ F s→Wp C A (exec st env) (OutR C sc ex exg env F s o) s
inductive Drop (x:Str):Gm→Gm→Prop
 | nil:Drop x [] []
 | skip {p Γ Γ'}:Drop x Γ Γ'→Drop x (p::Γ) Γ'
 | take {y sl Γ Γ'}:(y==x)=false→Drop x Γ Γ'→Drop x ((y,sl)::Γ) ((y,sl)::Γ')
theorem Drop.same {x:Str}{Γ:Gm}(h:(Γ.all fun p=>!(p.1==x))=true):Drop x Γ Γ:=by
 induction Γ with
 | nil=>exact .nil
 | cons p Γ ih=>
  obtain⟨h1,h2⟩:=Bool.and_eq_true_iff.mp ((List.all_cons ..).symm.trans h)
  exact .take (Bool.not_eq_true' _▸h1) (ih h2)
theorem Drop.sub {x:Str}{Γ Γ':Gm}(h:Drop x Γ Γ'):Γ'.Sublist Γ∧∀p∈Γ',p.1≠x:=by
 induction h with
 | nil=>exact⟨.slnil,fun J h=>nomatch h⟩
 | skip _ ih=>exact⟨ih.1.cons _,ih.2⟩
 | take h _ ih=>exact⟨ih.1.cons_cons _,fun q hq=>by
   rcases List.mem_cons.mp hq with rfl | hq
   ·exact fun e=>by dsimp only at e;rw[e,beq_self_eq_true] at h;cases h
   ·exact ih.2 q hq⟩
section
variable {C:Cx}{n:Nat}{sc:Scope}{Γ Γ':Gm}{o:Out}{rest:List Stmt}
theorem run_nil:Run C n sc Γ [] (.next Γ):=fun env A F s ex exg hE hR hX=>wpAny_execs_nil ⟨rfl,F,.refl,hX⟩
theorem run_nil' (h:Γ'.Sublist Γ):Run C n sc Γ [] (.next Γ'):=fun env A F s ex exg hE hR hX=>wpAny_execs_nil ⟨rfl,F,.refl,hX.sub h⟩
theorem run_ret {e:Expr}{pos:Pos}{d:D}(h:Ex C n sc Γ e d):Run C n sc Γ (.Return (some e) pos::rest) (.ret d):=by
 intro env A F s ex exg hE hR hX
 refine wpAny_execs_cons (wpAny_Return_some ((h env A F s hE hR hX.ok hX.eok).imp fun v s' hZ=>?_))
 obtain⟨F',g,r⟩:=hZ
 exact⟨v,F',rfl,.of g hX.base,hX.ok.grow g,r⟩
theorem rS {st:Stmt}(h:Step C n sc Γ st (.next Γ')) (k:Run C n sc Γ' rest o):Run C n sc Γ (st::rest) o:=by
 intro env A F s ex exg hE hR hX
 refine wpAny_execs_cons ((h env A F s ex exg hE hR hX).imp fun fl s' hq=>?_)
 obtain⟨rfl,F',g,x⟩:=hq
 exact(k env A F' s' ex exg hE hR x).imp fun J J q=>q.up g
theorem run_stepRet {st:Stmt}{d:D}(h:Step C n sc Γ st (.ret d)):Run C n sc Γ (st::rest) (.ret d):=by
 intro env A F s ex exg hE hR hX
 refine wpAny_execs_cons ((h env A F s ex exg hE hR hX).imp fun fl s' hq=>?_)
 obtain⟨v,F',rfl,x⟩:=hq
 exact⟨v,F',rfl,x⟩
theorem st_if {t:Expr}{b e:List Stmt}{pos:Pos}{c:Bool}(ht:Tr C n sc Γ t c) (hb:c=true→Run C n sc Γ b o) (he:c=false→Run C n sc Γ e o):Step C n sc Γ (.If t b e pos) o:=by
 intro env A F s ex exg hE hR hX
 refine wpAny_If ((ht env A F s hE hR hX.ok hX.eok).imp fun r s' hZ=>?_)
 obtain⟨e1,F',g⟩:=hZ
 subst e1
 have up:=GrowX.of (exg:=exg) g hX.base
 cases r with
 | true=>exact(hb rfl env A F' s' ex exg hE hR (hX.grow g)).imp fun J J q=>q.up up
 | false=>exact(he rfl env A F' s' ex exg hE hR (hX.grow g)).imp fun J J q=>q.up up
theorem sA {x:Str}{p pos:Pos}{e:Expr}{d:D}(h:Ex C n sc Γ e d) (hd:Drop x Γ Γ')
  (hw:autoParam (∀env,gE sc env→swapsWith e (some (.Name x p)) pos.line env=pure false) i2) (hst:autoParam (sto sc x=true) kr):Step C n sc Γ (.Assign [.Name x p] e pos) (.next ((x,.imm d)::Γ')):=by
 intro env A F s ex exg hE hR hX
 refine wpAny_Assign_Name ((h env A F s hE hR hX.ok hX.eok).imp fun v s₁ ⟨F₁,g,r⟩=>?_) (hw env hE)
 have X₁:=hX.grow g
 refine store_name X₁.wf hst fun s' z W'=>⟨rfl,F₁,(GrowX.of g hX.base).trans (.stored z hX.lo),X₁.stored z W' r hd.sub.1 hd.sub.2⟩
end
end
local macro_rules | `(tactic| walk_at "d")=>`(tactic| (repeat' (first | exact Drop.nil | refine' Drop.take (by decide +kernel) ?_ | refine' Drop.skip ?_)))
local macro_rules | `(tactic| walk_at "s")=>`(tactic| (with_reducible repeat' (first | exact List.Sublist.slnil | apply List.Sublist.cons_cons | apply List.Sublist.cons)))
section
structure Moves (F:FZ) (lo hi glo ghi:Nat) (s s':Shared):Prop where
 keep:∀(b:Nat) o,(b<lo∨hi≤b)→s.heap.get? b=some o→s'.heap.get? b=some o
 inn:F.In s.heap→F.In s'.heap
 os:s'.os=s.os
 gen:∀(i:Nat) x,(i<glo∨ghi≤i)→s.gens[i]?=some x→s'.gens[i]?=some x
 bare:AllBare s.gens→AllBare s'.gens
theorem Moves.refl {F:FZ}{lo hi glo ghi:Nat}{s:Shared}:Moves F lo hi glo ghi s s:=⟨fun J J J e=>e,id,rfl,fun J J J e=>e,id⟩
noncomputable def Unp (C:Cx) (F:FZ) (s:Shared) (v:Value) (row:List D):Prop:=∃T vs,v=.ref T∧s.heap.IsTuple T vs.toArray∧RA C F vs row
noncomputable def Left (klo hi glo ghi:Nat) (s s':Shared):Prop:=
 (∀(b:Nat) o,klo≤b→b<hi→s.heap.get? b=some o→s'.heap.get? b=some o)∧∀(i:Nat) x,glo≤i→i<ghi→s.gens[i]?=some x→s'.gens[i]?=some x
inductive Nxt (C:Cx) (A:Around) (tup:Bool) (it:Value) (F:FZ) (lo hi glo ghi:Nat) (S:Nat→Shared→Prop) (i:Nat) (s:Shared) (row:List D) (r:Option Value) (s₁:Shared):Prop
 | mk (v:Value) (e:r=some v) (p:tup=false→(∃d,row=[d]∧R C F v d)∧S (i+1) s₁∧Moves F lo hi glo ghi s s₁)
  (q:tup=true→∀elts x pos,Wp C A (letOwnedTupleGo (.Tuple elts x pos) it v) (fun J s₂=>Unp C F s₂ v row∧S (i+1) s₂∧Moves F lo hi glo ghi s s₂) s₁)
structure Src (C:Cx) (A:Around) (tup:Bool) (it:Value) (rows:List (List D)) (F:FZ) (klo lo hi glo ghi:Nat) (S:Nat→Shared→Prop):Prop where
 frame:∀i s s',S i s→Left klo hi glo ghi s s'→S i s'
 next:∀i s row,Ok C F s→S i s→rows[i]?=some row→hi≤s.heap.objs.size→ghi≤s.gens.size→Wp C A (pyNext it) (Nxt C A tup it F lo hi glo ghi S i s row) s
 done:∀s,Ok C F s→S rows.length s→hi≤s.heap.objs.size→ghi≤s.gens.size→Wp C A (pyNext it) (fun r s₁=>r=none∧Moves F lo hi glo ghi s s₁) s
 self:∀i s (Q:Value→Shared→Prop),Ok C F s→S i s→Q it s→Wp C A (pyIter it) Q s
inductive Iter (C:Cx) (A:Around) (tup:Bool) (rows:List (List D)) (F:FZ) (klo:Nat) (s:Shared) (it:Value) (s₂:Shared):Prop
 | mk (F':FZ) (S:Nat→Shared→Prop) (g:Grow F F' s s₂) (st:S 0 s₂) (src:Src C A tup it rows F' klo s.heap.objs.size s₂.heap.objs.size s.gens.size s₂.gens.size S)
noncomputable def It (C:Cx) (n:Nat) (sc:Scope) (Γ:Gm) (cm:Bool) (e:Expr) (tup:Bool) (rows:List (List D)):Prop:=
 ∀(env:Env) (A:Around) (F:FZ) (s:Shared),gE sc env→Room n A→Ok C F s→EnvOk C F s env Γ →
  Wp C A (eval e env) (fun x s₁=>Wp C A (pyIter x) (Iter C A tup rows F (if cm then 0 else s.heap.objs.size) s) s₁) s
theorem FZ.tuple_keep {C:Cx}{F:FZ}{s:Shared}(hi:F.In s.heap) {v:Value}{ds:List D}(r:R C F v (.tuple ds)):Unp C F s v ds:=by
 obtain⟨a,vs,n,rfl,ea,ra⟩:=r.tuple_inv
 exact⟨a,vs,rfl,⟨_,hi _ _ ea,rfl,_,rfl⟩,ra⟩
end
section
section
variable {C:Cx}{n:Nat}{sc:Scope}{Γ:Gm}
theorem ev_machine {x:Str}{p pos:Pos}{f:Value}{es:List Expr}{ds:List D}(hb:bootBuiltins x=some f) (hg:C.mg x=none) (hf:Machine f) (args:Exs C n sc Γ es ds) (hx:isBuiltinName sc x=true)
  {env:Env} {A:Around} {F:FZ} {s:Shared} {Q:Value→Shared→Prop} (hE:gE sc env) (hR:Room n A) (hO:Ok C F s) (hV:EnvOk C F s env Γ)
  (k:∀vs s' F',Grow F F' s s'→RA C F' vs ds→Wp C A (call f vs) Q s'):Wp C A (eval (.Call (.Name x p) es [] pos) env) Q s:=by
 rw[eval_Call_Name]
 refine Wp.bind (name_builtin hE hO hx hg hb (callWith_machine hf (any_backTo args env pos) ?_))
 refine(evalArgs_run args hE hR hO hV).imp fun a s₁ hZ=>?_
 obtain⟨e,F₁,g,r⟩:=hZ
 rw[e]
 exact k a.pos s₁ F₁ g r
noncomputable def SOf (F:FZ) (fp:List Addr) (St:Nat→Heap→Prop) (i:Nat) (s:Shared):Prop:=
 ∃h₁:Heap,F.In h₁∧St i h₁∧∀b∈fp,(∃o,F b=some o)∨∀o,h₁.get? b=some o→s.heap.get? b=some o
structure Foot (F:FZ) (klo lo hi:Nat) (fp wr:List Addr):Prop where
 wr:∀b:Nat,b∈wr→lo≤b∧b<hi∧F b=none
 fp:∀b:Nat,b∈fp→(∃o,F b=some o)∨(klo≤b∧b<hi)
theorem get?_lt {α:Type}{xs:List α}{i:Nat}{x:α}(h:xs[i]?=some x):i<xs.length:=(List.getElem?_eq_some_iff.mp h).1
theorem SOf.now {F:FZ}{fp:List Addr}{St:Nat→Heap→Prop}{i:Nat}{s:Shared}(hf:∀i h h',St i h→(∀b∈fp,∀o,h.get? b=some o→h'.get? b=some o)→St i h') (x:SOf F fp St i s) (q:F.In s.heap):St i s.heap:=by
 obtain⟨h₁,a,b,c⟩:=x
 refine hf i h₁ s.heap b fun d hd o e=>?_
 rcases c d hd with ⟨o',k⟩ | k
 ·have:=a d o' k;rw[e] at this;cases this;exact q d o k
 ·exact k o e
theorem SOf.start {F:FZ}{fp:List Addr}{St:Nat→Heap→Prop}{i:Nat}{s:Shared}(h:St i s.heap) (q:F.In s.heap):SOf F fp St i s:=⟨s.heap,q,h,fun J J=>.inr fun J e=>e⟩
theorem SOf.left {F:FZ}{klo lo hi glo ghi:Nat}{fp wr:List Addr}{St:Nat→Heap→Prop}{i:Nat}{s s':Shared}(ft:Foot F klo lo hi fp wr) (x:SOf F fp St i s) (l:Left klo hi glo ghi s s'):SOf F fp St i s':=by
 obtain⟨h₁,a,b,c⟩:=x
 refine⟨h₁,a,b,fun d hd=>?_⟩
 rcases ft.fp d hd with k | ⟨k1,k2⟩
 ·exact .inl k
 ·rcases c d hd with q | q
  ·exact .inl q
  ·exact .inr fun o e=>l.1 d o k1 k2 (q o e)
theorem moves_of {F:FZ}{klo lo hi glo ghi:Nat}{fp wr:List Addr}{s:Shared}{h':Heap}{tk:Nat}(ft:Foot F klo lo hi fp wr) (k:∀b o,b∉wr→s.heap.get? b=some o→h'.get? b=some o):Moves F lo hi glo ghi s { s with heap:=h',toks:=tk }:=
 ⟨fun b o hb e=>k b o (fun hm=>by obtain⟨h1,h2,_⟩:=ft.wr b hm;rcases hb with h | h <;> lia) e,fun q a o e=>k a o (fun hm=>by have:=(ft.wr a hm).2.2;rw[e] at this;cases this) (q a o e),rfl,fun J J J e=>e,id⟩
theorem src_walks {A:Around}{I:Addr}{fp wr:List Addr}{m:Nat}{P:Nat→Value→Prop}{St:Nat→Heap→Prop}(W:Walks C.prog C.w A I fp wr m P St) {F:FZ}{klo lo hi glo ghi:Nat}(ft:Foot F klo lo hi fp wr) {ds:List D}(hm:m=ds.length)
  (hP:∀(i:Nat) v d,P i v→ds[i]?=some d→R C F v d):Src C A false (.ref I) (ds.map fun d=>[d]) F klo lo hi glo ghi (SOf F fp St) where
 frame:=fun i s s' x l=>x.left ft l
 next:=fun i s row hO x hr J J=>by
  rw[List.getElem?_map] at hr
  obtain⟨d,hd,rfl⟩:=Option.map_eq_some_iff.mp hr
  have hlt:i<m:=by rw[hm];exact get?_lt hd
  refine W.item i s _ _ hlt (x.now W.frame hO.inn) fun v h' tk hv st k=>⟨v,rfl,fun J=>⟨⟨d,rfl,hP i v d hv hd⟩,?_,moves_of ft k⟩,fun h=>(nomatch h)⟩
  exact SOf.start st ((moves_of (glo:=glo) (ghi:=ghi) (tk:=tk) ft k).inn hO.inn)
 done:=fun s hO x J J=>by
  rw[List.length_map,← hm] at x
  exact W.done s _ _ (x.now W.frame hO.inn) fun h' tk k=>⟨rfl,moves_of ft k⟩
 self:=fun i s Q hO x q=>W.self i s Q _ (x.now W.frame hO.inn) q
theorem src_walksU {A:Around}{I:Addr}{fp wr:List Addr}{m:Nat}{P:Nat→Array Value→Prop}{St:Nat→Heap→Prop}{Mid:Nat→Addr→Heap→Prop}(W:WalksU C.prog C.w A I fp wr m P St Mid) {F:FZ}{klo lo hi glo ghi:Nat}(ft:Foot F klo lo hi fp wr) {rows:List (List D)}(hm:m=rows.length)
  (hP:∀(i:Nat) vals row,P i vals→rows[i]?=some row→RA C F vals.toList row):Src C A true (.ref I) rows F klo lo hi glo ghi (SOf F fp St) where
 frame:=fun i s s' x l=>x.left ft l
 next:=fun i s row hO x hr J J=>by
  have hlt:i<m:=by rw[hm];exact get?_lt hr
  refine W.item i s _ _ hlt (x.now W.frame hO.inn) fun T vals h' tk hv hT hM k=>⟨.ref T,rfl,fun h=>(nomatch h),fun J elts q pos=>?_⟩
  refine W.go elts q pos i T _ _ _ hM fun h'' st k'=>?_
  have mv:Moves F lo hi glo ghi s { s with heap:=h'',toks:=tk }:=moves_of ft fun b o hb e=>k' b o hb (k b o hb e)
  refine⟨⟨T,vals.toList,rfl,?_,hP i vals row hv hr⟩,SOf.start st (mv.inn hO.inn),mv⟩
  obtain⟨o,ho,r⟩:=hT
  exact⟨o,k' T o (W.apart i T h' hM) ho,by simpa using r⟩
 done:=fun s hO x J J=>by
  rw[← hm] at x
  exact W.done s _ _ (x.now W.frame hO.inn) fun h' tk k=>⟨rfl,moves_of ft k⟩
 self:=fun i s Q hO x q=>W.self i s Q _ (x.now W.frame hO.inn) q
theorem Grow.new {F F':FZ}{s s':Shared}(g:Grow F F' s s') (j:Nat):F' (s'.heap.objs.size+j)=none:=g.inn.none (Nat.le_add_right _ _)
theorem mem_offs {Z k b:Nat}{l:List Nat}(h:(l.all fun j=>decide (j<k))=true) (hb:b∈l.map (Z+·)):∃j,j<k∧b=Z+j:=by
 obtain⟨j,hj,e⟩:=List.mem_map.mp hb
 exact⟨j,of_decide_eq_true (List.all_eq_true.mp h j hj),e.symm⟩
theorem footO {F:FZ}{klo lo Z k:Nat}(wo fo:List Nat) {fz:List Addr}(h1:klo≤Z) (h2:lo≤Z) (hF:∀j:Nat,F (Z+j)=none) (hz:∀b∈fz,∃o,F b=some o) (hw:(wo.all fun j=>decide (j<k))=true) (hf:(fo.all fun j=>decide (j<k))=true) :
  Foot F klo lo (Z+k) (fo.map (Z+·)++fz) (wo.map (Z+·)):=by
 refine⟨fun b hb=>?_,fun b hb=>?_⟩
 ·obtain⟨j,hj,rfl⟩:=mem_offs hw hb
  exact⟨Nat.le_trans h2 (Nat.le_add_right _ _),Nat.add_lt_add_left hj _,hF j⟩
 ·rcases List.mem_append.mp hb with hb | hb
  ·obtain⟨j,hj,rfl⟩:=mem_offs hf hb
   exact .inr ⟨Nat.le_trans h1 (Nat.le_add_right _ _),Nat.add_lt_add_left hj _⟩
  ·exact .inl (hz b hb)
theorem it_from {A:Around}{I:Addr}{fp wr:List Addr}{m klo:Nat}{P:Nat→Array Value→Prop}{St:Nat→Heap→Prop}{Mid:Nat→Addr→Heap→Prop}(W:WalksU C.prog C.w A I fp wr m P St Mid) {F F₁:FZ}{s s':Shared}{rows:List (List D)}(g:Grow F F₁ s s') (ft:Foot F₁ klo s.heap.objs.size s'.heap.objs.size fp wr)
  (hm:m=rows.length) (hP:∀(i:Nat) vals row,P i vals→rows[i]?=some row→RA C F₁ vals.toList row) (base:St 0 s'.heap):Wp C A (pyIter (.ref I)) (Iter C A true rows F klo s) s':=
 W.self 0 _ _ _ base (.mk F₁ _ g (SOf.start base g.inn) (src_walksU W ft hm hP))
theorem src_tuples {A:Around}{I ax:Addr}{vs:List Value}{k:Nat}{F:FZ}{klo lo hi glo ghi:Nat}{rows:List (List D)}(hh:A.handled=none) (ft:Foot F klo lo hi [I,ax] [I]) (hne:ax≠I) (ra:RA C F vs (rows.map .tuple)) :
  Src C A true (.ref I) rows F klo lo hi glo ghi (SOf F [I,ax] (fun i h=>h.IsListIter I ax i∧h.IsList ax vs.toArray)):=by
 have hl:=ra.length
 rw[List.length_map] at hl
 have W:=Walks.list (prog:=C.prog) (w:=C.w) hh I ax hne vs.toArray
 have S:=src_walks (C:=C) (glo:=glo) (ghi:=ghi) W ft (ds:=rows.map .tuple) (by simp[hl]) (fun i v d hv hd=>by
  obtain⟨w,hw,hr⟩:=ra.get? hd
  have e:vs.toArray[i]?=vs[i]?:=by simp
  rw[e,hw] at hv;cases hv;exact hr)
 refine⟨S.frame,fun i s row hO x hr h1 h2=>?_,fun s hO x=>?_,S.self⟩
 ·refine(S.next i s [.tuple row] hO x (by simp[hr]) h1 h2).imp fun r s₁ ⟨v,e1,q,_⟩=>⟨v,e1,fun h=>(nomatch h),fun J elts y pos=>?_⟩
  obtain⟨⟨d,e2,hd⟩,st,mv⟩:=q rfl
  cases e2
  obtain⟨T,ws,rfl,hT,rw'⟩:=FZ.tuple_keep (C:=C) (F:=F) (s:=s₁) (mv.inn hO.inn) hd
  have st1:=st.now W.frame (mv.inn hO.inn)
  exact wpAny_letOwnedTupleGo_listiter st1.1 ⟨⟨T,ws,rfl,hT,rw'⟩,st,mv⟩
 ·refine S.done s hO (by simpa using x)
theorem foot1 {F:FZ}{klo lo hi I a:Nat}(h1:klo≤I) (h2:lo≤I) (h3:I<hi) (h4:F I=none) (ha:(∃o,F a=some o)∨(klo≤a∧a<hi)):Foot F klo lo hi [I,a] [I]:=
 ⟨fun b hb=>by rw[List.mem_singleton.mp hb];exact⟨h2,h3,h4⟩,fun b hb=>by
  rcases List.mem_cons.mp hb with rfl | hb
  ·exact .inr ⟨h1,h3⟩
  ·rw[List.mem_singleton.mp hb];exact ha⟩
theorem klo_le (cm:Bool) (z:Nat):(if cm=true then 0 else z)≤z:=by cases cm <;> simp
theorem iter_list {A:Around}{F₁ F:FZ}{s s₁:Shared}{a:Addr}{vs:List Value}{k:Nat}{ds:List D}{tup:Bool}{rows:List (List D)}{cm:Bool}(hR:Room n A) (g:Grow F F₁ s s₁) (ha:s₁.heap.get? a=some (lObj vs k)) (ra:RA C F₁ vs ds)
  (hf:(∃o,F₁ a=some o)∨cm=true) (hrow:if tup then ds=rows.map .tuple else rows=ds.map fun d=>[d]) :
  Wp C A (pyIter (.ref a)) (Iter C A tup rows F (if cm then 0 else s.heap.objs.size) s) s₁:=by
 have hI:F₁ s₁.heap.objs.size=none:=g.inn.none (Nat.le_refl _)
 have hlt:a<s₁.heap.objs.size:=Heap.lt_size ha
 have hne:a≠s₁.heap.objs.size:=Nat.ne_of_lt hlt
 refine wpAny_pyIter_list ⟨_,ha,rfl,_,rfl⟩ ?_
 have hsz:=g.size
 have hz:(s₁.heap.push { cls:=.type "list_iterator",data:=.fields #[.ref a,.int 0 0] }).objs.size=s₁.heap.objs.size+1:=Heap.size_push ..
 have ft:Foot F₁ (if cm=true then 0 else s.heap.objs.size) s.heap.objs.size (s₁.heap.objs.size+1) [s₁.heap.objs.size,a] [s₁.heap.objs.size]:=by
  refine foot1 (Nat.le_trans (klo_le cm _) hsz) hsz (Nat.lt_succ_self _) hI ?_
  rcases hf with h | h
  ·exact .inl h
  ·exact .inr ⟨by rw[h];exact Nat.zero_le _,Nat.lt_succ_of_lt hlt⟩
 refine⟨F₁,SOf F₁ [s₁.heap.objs.size,a] (fun i h=>h.IsListIter s₁.heap.objs.size a i∧h.IsList a vs.toArray),g.trans (.same g.inn (fun b o e=>Heap.get?_push_of_some _ e) (by rw[hz];exact Nat.le_succ _)),?_,?_⟩
 ·exact SOf.start ⟨⟨_,Heap.get?_push_size _ rfl,rfl,rfl⟩,⟨_,Heap.get?_push_of_some _ ha,rfl,_,rfl⟩⟩ fun b o e=>Heap.get?_push_of_some _ (g.inn b o e)
 ·show Src C A tup _ rows F₁ _ _ (Array.size _) _ _ _
  rw[hz]
  cases tup with
  | false=>
   simp only[Bool.false_eq_true,if_false] at hrow
   subst hrow
   refine src_walks (Walks.list hR.handled s₁.heap.objs.size a hne vs.toArray) ft (by simp[ra.length]) fun i v d hv hd=>?_
   obtain⟨w,hw,hr⟩:=ra.get? hd
   have e:vs.toArray[i]?=vs[i]?:=by simp
   rw[e,hw] at hv;cases hv;exact hr
  | true=>
   simp only[if_true] at hrow
   subst hrow
   exact src_tuples (k:=k) hR.handled ft hne ra
theorem it_list {e:Expr}{ds:List D}{cm:Bool}(h:Ex C n sc Γ e (.list ds)):It C n sc Γ cm e false (ds.map fun d=>[d]):=by
 intro env A F s hE hR hO hV
 refine(h env A F s hE hR hO hV).imp fun x s₁ hZ=>?_
 obtain⟨F₁,g,r⟩:=hZ
 obtain⟨a,vs,k,rfl,ea,ra⟩:=r.list_inv
 exact iter_list hR g (g.inn _ _ ea) ra (.inl ⟨_,ea⟩) rfl
theorem it_tuples {e:Expr}{rows:List (List D)}{cm:Bool}(h:Ex C n sc Γ e (.list (rows.map .tuple))):It C n sc Γ cm e true rows:=by
 intro env A F s hE hR hO hV
 refine(h env A F s hE hR hO hV).imp fun x s₁ hZ=>?_
 obtain⟨F₁,g,r⟩:=hZ
 obtain⟨a,vs,k,rfl,ea,ra⟩:=r.list_inv
 exact iter_list hR g (g.inn _ _ ea) ra (.inl ⟨_,ea⟩) rfl
noncomputable def rangeRows (k:Nat):List D:=(List.range k).map fun(i:Nat)=>D.int (i:Int)
theorem range_small {k:Nat}(h:k<2^60):Builtin.Range.small 0 k 1=true∧Builtin.Range.rangeSize 0 k 1=k:=by
 unfold Builtin.Range.small Builtin.Range.rangeSize Builtin.Range.rangeFitsLong
 rcases Nat.eq_zero_or_pos k with rfl | hp
 ·decide
 ·have e1:(0:Int)<k:=by lia
  simp only[show(1:Int)>0 from by decide,if_true,e1,Int.ediv_one,Int.sub_zero]
  refine⟨?_,by lia⟩
  simp only[Bool.and_eq_true,Bool.or_eq_true,decide_eq_true_eq]
  refine⟨⟨⟨⟨⟨by decide,by decide⟩,⟨by lia,by lia⟩⟩,⟨by decide,by decide⟩⟩,⟨by lia,by lia⟩⟩,.inr ⟨by lia,by lia⟩⟩
theorem it_range {x:Str}{p pos:Pos}{e:Expr}{k:Nat}{cm:Bool}(h:Ex C n sc Γ e (.int k)) (hk:k<2^60) (hb:bootBuiltins x=some (.type "range")) (hg:C.mg x=none) (hx:autoParam (isBuiltinName sc x=true) dk) (hs:autoParam (notStar e=true) rf) :
  It C n sc Γ cm (.Call (.Name x p) [e] [] pos) false ((rangeRows k).map fun d=>[d]):=by
 intro env A F s hE hR hO hV
 refine ev_machine hb hg (fun a=>by simp) (.cons h .nil hs) hx hE hR hO hV fun vs s₁ F₁ g r=>?_
 obtain⟨_,rfl,r1⟩:=r.one_inv
 obtain⟨t,rfl⟩:=r1.int_inv
 refine call_range_1 ?_
 obtain⟨q1,q2⟩:=range_small hk
 generalize hH:s₁.heap.push { cls:=.type "range",data:=.fields #[.int 0 s₁.toks,.int k t,.int 1 (s₁.toks+1)] }=H
 have hz:H.objs.size=s₁.heap.objs.size+1:=by rw[← hH];exact Heap.size_push ..
 have hget:H.get? s₁.heap.objs.size=some { cls:=.type "range",data:=.fields #[.int 0 s₁.toks,.int k t,.int 1 (s₁.toks+1)] }:=by rw[← hH];exact Heap.get?_push_size _ rfl
 have g2:Grow F F₁ s { s₁ with heap:=H,toks:=s₁.toks+1+1 }:=g.trans (.same g.inn (fun b o e=>by rw[← hH];exact Heap.get?_push_of_some _ e) (by rw[hz];exact Nat.le_succ _))
 have hI:F₁ H.objs.size=none:=g2.inn.none (Nat.le_refl _)
 have hsz:=g2.size
 refine wpAny_pyIter_range hget q1 ?_
 have hz2:(H.push { cls:=.type "range_iterator",data:=.fields #[rawInt 0,rawInt (Builtin.Range.rangeSize 0 k 1),rawInt 1] }).objs.size=H.objs.size+1:=Heap.size_push ..
 have ft:Foot F₁ (if cm=true then 0 else s.heap.objs.size) s.heap.objs.size (H.objs.size+1) [H.objs.size] [H.objs.size]:=
  ⟨fun b hb=>by rw[List.mem_singleton.mp hb];exact⟨hsz,Nat.lt_succ_self _,hI⟩,fun b hb=>by rw[List.mem_singleton.mp hb];exact .inr ⟨Nat.le_trans (klo_le cm _) hsz,Nat.lt_succ_self _⟩⟩
 refine⟨F₁,SOf F₁ [H.objs.size] (fun i h=>IsRangeIter h H.objs.size (0+(i:Nat)*1) ((k:Int)-(i:Nat)) 1),g2.trans (.same g2.inn (fun b o e=>Heap.get?_push_of_some _ e) (by rw[hz2];exact Nat.le_succ _)),?_,?_⟩
 ·refine SOf.start ?_ fun b o e=>Heap.get?_push_of_some _ (g2.inn b o e)
  rw[q2]
  have:=Heap.get?_push_size H (o:={ cls:=.type "range_iterator",data:=.fields #[rawInt 0,rawInt (k:Int),rawInt 1] }) rfl
  show IsRangeIter _ _ _ _ _
  simpa using this
 ·show Src C A false _ _ F₁ _ _ (Array.size _) _ _ _
  rw[hz2]
  refine src_walks (Walks.range hR.handled H.objs.size 0 1 k) ft (by simp[rangeRows]) fun i v d hv hd=>?_
  obtain⟨t,rfl⟩:=hv
  simp only[rangeRows,List.getElem?_map] at hd
  obtain⟨j,hj,rfl⟩:=Option.map_eq_some_iff.mp hd
  obtain⟨_,rfl⟩:=List.getElem?_eq_some_iff.mp hj
  simp only[List.getElem_range,Int.zero_add,Int.mul_one]
  exact .int _ _
noncomputable def enumRows:Nat→List D→List (List D)
 | _,[]=>[]
 | k,d::ds=>[.int k,d]::enumRows (k+1) ds
theorem enumRows_len (ds:List D) (k:Nat):(enumRows k ds).length=ds.length:=by
 induction ds generalizing k with
 | nil=>rfl
 | cons d ds ih=>exact congrArg (·+1) (ih (k+1))
theorem enumRows_get (ds:List D) (k i:Nat) (row:List D) (h:(enumRows k ds)[i]?=some row):∃d,ds[i]?=some d∧row=[.int ((k+i:Nat):Int),d]:=by
 induction ds generalizing k i with
 | nil=>exact nomatch h
 | cons d ds ih=>
  cases i with
  | zero=>exact⟨d,rfl,(Option.some.inj h).symm⟩
  | succ i=>
   obtain⟨d',h1,h2⟩:=ih (k+1) i h
   exact⟨d',h1,by rw[h2,Nat.add_right_comm];rfl⟩
theorem it_enum {x:Str}{p pos:Pos}{e:Expr}{ds:List D}{cm:Bool}(h:Ex C n sc Γ e (.list ds)) (hb:bootBuiltins x=some (.type "enumerate")) (hg:C.mg x=none) (hx:autoParam (isBuiltinName sc x=true) dk) (hs:autoParam (notStar e=true) rf) :
  It C n sc Γ cm (.Call (.Name x p) [e] [] pos) true (enumRows 0 ds):=by
 intro env A F s hE hR hO hV
 refine ev_machine hb hg (fun a=>by simp) (.cons h .nil hs) hx hE hR hO hV fun vs s₁ F₁ g r=>?_
 obtain⟨_,rfl,r1⟩:=r.one_inv
 obtain⟨a,vs,k,rfl,ea,ra⟩:=r1.list_inv
 have ha:=g.inn _ _ ea
 have hlt:a<s₁.heap.objs.size:=Heap.lt_size ha
 refine call_enumerate_list ⟨_,ha,rfl,_,rfl⟩ fun h' he hit hz hk=>?_
 have g2:Grow F F₁ s { s₁ with heap:=h' }:=g.trans (.same g.inn hk (by rw[hz];exact Nat.le_add_right _ 2))
 refine it_from (WalksT.enumerate hR.handled (s₁.heap.objs.size+1) s₁.heap.objs.size a (Nat.succ_ne_self _) (Nat.ne_of_lt (Nat.lt_succ_of_lt hlt)) (Nat.ne_of_lt hlt) vs.toArray).toU g2 (hz▸footO [1,0] [1,0] (fz:=[a]) (Nat.le_trans (klo_le cm _) g.size) g.size g.new (fun b hb=>by rw[List.mem_singleton.mp hb];exact⟨_,ea⟩) rfl rfl)
  (by rw[enumRows_len,← ra.length,List.size_toArray]) (fun i vals row hv hr=>?_) ⟨⟨_,he⟩,hit,⟨_,hk _ _ ha,rfl,_,rfl⟩⟩
 obtain⟨t,w,hw,rfl⟩:=hv
 obtain⟨d,hd,rfl⟩:=enumRows_get _ _ _ _ hr
 obtain⟨w',hw',hr'⟩:=ra.get? hd
 rw[List.getElem?_toArray,hw'] at hw;cases hw
 rw[Nat.zero_add]
 exact .cons (.int _ _) (.cons hr' .nil)
theorem zip_apart {Z a b:Nat}(h1:a<Z) (h2:b<Z):ZipApart (Z+4) (Z+2) (Z+3) Z (Z+1) a b:=by
 constructor <;> (intro (q:@Eq Nat _ _);lia)
theorem zipWith_at {α β γ:Type}{f:α→β→γ}{xs:List α}{ys:List β}{i:Nat}{r:γ}(h:(List.zipWith f xs ys)[i]?=some r):∃x y,xs[i]?=some x∧ys[i]?=some y∧r=f x y:=by
 obtain⟨x,y,hx,hy,e⟩:=List.getElem?_zipWith_eq_some.mp h
 exact⟨x,y,hx,hy,e.symm⟩
theorem it_zip {x:Str}{p pos:Pos}{e e':Expr}{ds es:List D}{cm:Bool}(h:Ex C n sc Γ e (.list ds)) (h':Ex C n sc Γ e' (.list es)) (hb:bootBuiltins x=some (.type "zip")) (hg:C.mg x=none) (hx:autoParam (isBuiltinName sc x=true) dk) (hs:autoParam (notStar e=true) rf) (hs':autoParam (notStar e'=true) rf) :
  It C n sc Γ cm (.Call (.Name x p) [e,e'] [] pos) true (List.zipWith (fun a b=>[a,b]) ds es):=by
 intro env A F s hE hR hO hV
 refine ev_machine hb hg (fun a=>by simp) (.cons h (.cons h' .nil hs') hs) hx hE hR hO hV fun vs s₁ F₁ g r=>?_
 obtain⟨_,_,rfl,r1,r2⟩:=r.two_inv
 obtain⟨a,vs,k,rfl,ea,ra⟩:=r1.list_inv
 obtain⟨b,ws,k',rfl,eb,rb⟩:=r2.list_inv
 have ha:=g.inn _ _ ea;have hb:=g.inn _ _ eb
 refine call_zip_2 ⟨_,ha,rfl,_,rfl⟩ ⟨_,hb,rfl,_,rfl⟩ fun H hz hTI hTO hi1 hi2 hsize hk=>?_
 have g2:Grow F F₁ s { s₁ with heap:=H }:=g.trans (.same g.inn hk (by rw[hsize];exact Nat.le_add_right _ 5))
 refine it_from (WalksT.zip2 hR.handled (s₁.heap.objs.size+4) (s₁.heap.objs.size+2) (s₁.heap.objs.size+3) s₁.heap.objs.size (s₁.heap.objs.size+1) a b (zip_apart (Heap.lt_size ha) (Heap.lt_size hb)) vs.toArray ws.toArray).toU g2
  (hsize▸footO [4,3,0,1] [4,2,3,0,1] (fz:=[a,b]) (Nat.le_trans (klo_le cm _) g.size) g.size g.new (fun c hc=>by rcases List.mem_cons.mp hc with rfl | hc;exact⟨_,ea⟩;rw[List.mem_singleton.mp hc];exact⟨_,eb⟩) rfl rfl)
  (by rw[List.length_zipWith,List.size_toArray,List.size_toArray,ra.length,rb.length]) (fun i vals row hv hr=>?_) ⟨hz,hTI,⟨_,_,hTO⟩,hi1,hi2,⟨_,hk _ _ ha,rfl,_,rfl⟩,⟨_,hk _ _ hb,rfl,_,rfl⟩⟩
 obtain⟨x,y,hx,hy,rfl⟩:=hv
 obtain⟨d,d',hd,hd',rfl⟩:=zipWith_at hr
 obtain⟨x',hx',h1⟩:=ra.get? hd
 obtain⟨y',hy',h2⟩:=rb.get? hd'
 rw[List.getElem?_toArray,hx'] at hx;cases hx
 rw[List.getElem?_toArray,hy'] at hy;cases hy
 exact .cons h1 (.cons h2 .nil)
end
end
section
set_option backward.match.sparseCases false
structure Chg (ex exg:Nat→Prop) (F F':FZ) (s s':Shared):Prop where
 le:F.Le F'
 old:∀a:Nat,a<s.heap.objs.size→F' a=F a
 inn:F'.In s'.heap
 keep:∀(b:Nat) o,¬ex b→s.heap.get? b=some o→s'.heap.get? b=some o
 size:s.heap.objs.size≤s'.heap.objs.size
 os:s'.os=s.os
 gen:∀(i:Nat) x,¬exg i→s.gens[i]?=some x→s'.gens[i]?=some x
 gsize:s.gens.size≤s'.gens.size
 bare:AllBare s.gens→AllBare s'.gens
 tk:s.toks≤s'.toks
noncomputable def exN:Nat→Prop:=fun J=>False
noncomputable def exR (lo hi:Nat):Nat→Prop:=fun b=>lo≤b∧b<hi
theorem gens_lt {s:Shared}{i:Nat}{x:GenState}(h:s.gens[i]?=some x):i<s.gens.size:=by
 rcases Nat.lt_or_ge i s.gens.size with h' | h'
 ·exact h'
 ·rw[Array.getElem?_eq_none h'] at h;cases h
theorem out_of {lo hi b:Nat}(h:¬(lo≤b∧b<hi)):b<lo∨hi≤b:=by
 rcases Nat.lt_or_ge b lo with q | q
 ·exact .inl q
 ·exact .inr (Nat.not_lt.mp fun r=>h ⟨q,r⟩)
theorem not_out {lo hi b:Nat}(h:b<lo∨hi≤b):¬exR lo hi b:=fun q=>h.elim (Nat.not_lt.mpr q.1) (Nat.not_le.mpr q.2)
namespace Chg
variable {ex exg ex' exg':Nat→Prop}{F F' F'':FZ}{s s' s'':Shared}
theorem of (g:Grow F F' s s'):Chg ex exg F F' s s':=⟨g.le,g.old,g.inn,fun b o J e=>g.keep b o e,g.size,g.os,fun i x J e=>g.gen i x e,g.gsize,g.bare,g.tk⟩
theorem trans (a:Chg ex exg F F' s s') (b:Chg ex' exg' F' F'' s' s'') (h:∀x,x<s.heap.objs.size→ex' x→ex x) (hg:∀i,i<s.gens.size→exg' i→exg i):Chg ex exg F F'' s s'':=
 ⟨a.le.trans b.le,fun x hx=>(b.old x (Nat.lt_of_lt_of_le hx a.size)).trans (a.old x hx),b.inn,fun x o hx e=>b.keep x o (fun q=>hx (h x (Heap.lt_size e) q)) (a.keep x o hx e),
  Nat.le_trans a.size b.size,b.os.trans a.os,fun i x hi e=>b.gen i x (fun q=>hi (hg i (gens_lt e) q)) (a.gen i x hi e),Nat.le_trans a.gsize b.gsize,fun h=>b.bare (a.bare h),Nat.le_trans a.tk b.tk⟩
theorem weak (a:Chg ex exg F F' s s') (h:∀x,x<s.heap.objs.size→ex x→ex' x) (hg:∀i,i<s.gens.size→exg i→exg' i):Chg ex' exg' F F' s s':=
 ⟨a.le,a.old,a.inn,fun x o hx e=>a.keep x o (fun q=>hx (h x (Heap.lt_size e) q)) e,a.size,a.os,fun i x hi e=>a.gen i x (fun q=>hi (hg i (gens_lt e) q)) e,a.gsize,a.bare,a.tk⟩
theorem grow (a:Chg ex exg F F' s s') (h:∀x,x<s.heap.objs.size→¬ex x) (hg:∀i,i<s.gens.size→¬exg i):Grow F F' s s':=
 ⟨a.le,a.old,a.inn,fun x o e=>a.keep x o (h x (Heap.lt_size e)) e,a.size,a.os,fun i x e=>a.gen i x (hg i (gens_lt e)) e,a.gsize,a.bare,a.tk⟩
theorem moves {lo hi glo ghi:Nat}(m:Moves F lo hi glo ghi s s') (i:F.In s.heap) (u:Up s s'):Chg (exR lo hi) (exR glo ghi) F F s s':=
 ⟨.refl _,fun J J=>rfl,m.inn i,fun b o hb e=>m.keep b o (out_of hb) e,u.h,m.os,fun i x hi e=>m.gen i x (out_of hi) e,u.g,m.bare,u.t⟩
theorem same (i:F.In s.heap) {h':Heap}{tk:Nat}{a:Nat}(ha:F a=none) (k:∀(b:Nat) o,b≠a→s.heap.get? b=some o→h'.get? b=some o) (hz:s.heap.objs.size≤h'.objs.size) (ht:autoParam (s.toks≤tk) ler):Chg (fun b=>b=a) exg F F s { s with heap:=h',toks:=tk }:=
 ⟨.refl _,fun J J=>rfl,fun b o e=>k b o (fun q=>by subst q;rw[ha] at e;cases e) (i b o e),fun b o hb e=>k b o hb e,hz,rfl,fun J J J e=>e,Nat.le_refl _,id,ht⟩
theorem stored {sc:Scope}{env:Env}{x:Str}{v:Value}(z:Stored sc env x v s s') (W:EnvWf sc env F s) (i:F.In s.heap):Chg (Own sc env) exg F F s s':=
 ⟨.refl _,fun J J=>rfl,fun a o e=>(z.keep a fun h=>by have:=(W.ownF h).1;rw[e] at this;cases this).trans (i a o e),fun b o hb e=>(z.keep b hb).trans e,
  by rw[z.size];exact Nat.le_refl _,z.os,fun i x J e=>by rw[z.gens];exact e,by rw[z.gens];exact Nat.le_refl _,fun h=>by rw[z.gens];exact h,z.tk⟩
end Chg
noncomputable def rel (sc csc:Scope):Scope:={ csc with names:=csc.names.map fun p=>(p.1,if (p.2==.free&&sc.kind==.function&&sc.names.lookup p.1==some .cell) then .cell else p.2) }
theorem relabel_eq {sc csc:Scope}{env:Env}(h:env.scope=sc):relabel csc env=rel sc csc:=by
 subst h
 unfold relabel rel
 congr 1
 apply List.map_congr_left
 intro p _
 obtain⟨n,k⟩:=p
 show(if _ then _ else _)=(n,if _ then _ else _)
 have e:env.kindOf n=List.lookup n env.scope.names:=rfl
 dsimp only
 rw[e]
 split <;> rfl
theorem lookup_map_snd {α β:Type}{g:Str→α→β}{l:List (Str×α)}{x:Str}:(l.map fun p=>(p.1,g p.1 p.2)).lookup x=(l.lookup x).map (g x):=by
 induction l with
 | nil=>rfl
 | cons p r ih=>
  rw[List.map_cons,List.lookup_cons,List.lookup_cons]
  cases h:x==p.1 with
  | true=>rw[eq_of_beq h];rfl
  | false=>exact ih
theorem rel_lookup {sc csc:Scope}{x:Str}:(rel sc csc).names.lookup x=(csc.names.lookup x).map fun k=>if (k==.free&&sc.kind==.function&&sc.names.lookup x==some .cell) then .cell else k:=
 lookup_map_snd (g:=fun n k=>if (k==NameKind.free&&sc.kind==.function&&sc.names.lookup n==some .cell) then .cell else k)
noncomputable def freeOf (cells:List (Str×Addr)):List (Str×NameKind)→List (Str×Addr)→List (Str×Addr)
 | [],acc=>acc
 | (n,k)::r,acc=>freeOf cells r (if k==.free then (n,(cells.lookup n).getD 0)::acc else acc)
theorem closure_go {env:Env}(f:Str×NameKind→List (Str×Addr)→Sem (ForInStep (List (Str×Addr))))
  (hf:∀n k acc,f (n,k) acc=if k==.free then (do let a ← cellOf env n;pure (.yield ((n,a)::acc))) else pure (.yield acc)) :
  ∀(names:List (Str×NameKind)) (acc:List (Str×Addr)),(∀p∈names,p.2=.free→∃c,env.cells.lookup p.1=some c)→forIn names acc f=pure (freeOf env.cells names acc):=by
 intro names
 induction names with
 | nil=>exact fun J J=>rfl
 | cons p r ih=>
  intro acc h
  have ih:=fun acc=>ih acc fun q hq=>h q (List.mem_cons_of_mem _ hq)
  rw[List.forIn_cons,hf]
  show _=pure (freeOf env.cells r (if p.2==.free then _ else acc))
  by_cases hk:(p.2==.free)=true
  ·obtain⟨c,hc⟩:=h p List.mem_cons_self (eq_of_beq hk)
   rw[if_pos hk,if_pos hk,cellOf,hc]
   exact ih _
  ·rw[if_neg hk,if_neg hk]
   exact ih _
theorem closureFor_eq {env:Env}{csc:Scope}(h:∀p∈csc.names,p.2=.free→∃c,env.cells.lookup p.1=some c):closureFor csc env=pure (freeOf env.cells csc.names []):=by
 unfold closureFor
 dsimp only
 rw[closure_go _ (fun n k acc=>by cases hk:k==NameKind.free <;> simp[hk]) csc.names [] h]
 rfl
theorem freeOf_other {cells:List (Str×Addr)}{x:Str}{names:List (Str×NameKind)}{acc:List (Str×Addr)}(h:∀p∈names,p.1=x→p.2≠.free):(freeOf cells names acc).lookup x=acc.lookup x:=by
 induction names generalizing acc with
 | nil=>rfl
 | cons p r ih=>
  refine(ih fun q hq=>h q (List.mem_cons_of_mem _ hq)).trans ?_
  by_cases hk:(p.2==.free)=true
  ·rw[if_pos hk,List.lookup_cons,show(x==p.1)=false from beq_eq_false_iff_ne.mpr fun e=>h p List.mem_cons_self e.symm (eq_of_beq hk)]
  ·rw[if_neg hk]
theorem freeOf_free {cells:List (Str×Addr)}{x:Str}{c:Addr}{names:List (Str×NameKind)}{acc:List (Str×Addr)}(hm:(x,NameKind.free)∈names) (hc:cells.lookup x=some c):(freeOf cells names acc).lookup x=some c:=by
 induction names generalizing acc with
 | nil=>cases hm
 | cons p r ih=>
  by_cases hr:(x,NameKind.free)∈r
  ·exact ih hr
  ·cases (List.mem_cons.mp hm).resolve_right hr
   show(freeOf cells r (if (NameKind.free==NameKind.free)=true then (x,(cells.lookup x).getD 0)::acc else acc)).lookup x=some c
   rw[freeOf_other fun q hq e f=>hr (by rw[← e,← f];exact hq),if_pos (by rfl),List.lookup_cons,beq_self_eq_true,hc];rfl
theorem freeOf_mem {cells:List (Str×Addr)}{x:Str}{c:Addr}{names:List (Str×NameKind)}{acc:List (Str×Addr)}(h:(freeOf cells names acc).lookup x=some c):acc.lookup x=some c∨(c=(cells.lookup x).getD 0∧(x,NameKind.free)∈names):=by
 induction names generalizing acc with
 | nil=>exact .inl h
 | cons p r ih=>
  rcases ih h with h' | ⟨h1,h2⟩
  ·by_cases hk:(p.2==.free)=true
   ·rw[if_pos hk,List.lookup_cons] at h'
    cases hx:x==p.1 with
    | true=>rw[hx] at h';cases h';rw[eq_of_beq hx,← eq_of_beq hk];exact .inr ⟨rfl,List.mem_cons_self⟩
    | false=>rw[hx] at h';exact .inl h'
   ·rw[if_neg hk] at h';exact .inl h'
  ·exact .inr ⟨h1,List.mem_cons_of_mem _ h2⟩
theorem cellsFrom_append (names:List (Str×NameKind)):∀(k:Nat) (acc:List (Str×Addr)),cellsFrom k names acc=cellsFrom k names []++acc:=by
 induction names with
 | nil=>exact fun J J=>rfl
 | cons p r ih=>
  intro k acc
  unfold cellsFrom
  split
  ·rw[ih (k+1) ((p.1,k)::acc),ih (k+1) [(p.1,k)],List.append_assoc];rfl
  ·exact ih k acc
theorem lookup_append_some {α:Type}{l l':List (Str×α)}{x:Str}{c:α}(h:l.lookup x=some c):(l++l').lookup x=some c:=by rw[List.lookup_append,h];rfl
theorem cellsFrom_other {x:Str}{names:List (Str×NameKind)}{k:Nat}{acc:List (Str×Addr)}(h:∀p∈names,p.1=x→p.2≠.cell):(cellsFrom k names acc).lookup x=acc.lookup x:=by
 induction names generalizing k acc with
 | nil=>rfl
 | cons p r ih=>
  have ih:=fun k acc=>ih (k:=k) (acc:=acc) fun q hq=>h q (List.mem_cons_of_mem _ hq)
  unfold cellsFrom
  by_cases hk:(p.2==.cell)=true
  ·rw[if_pos hk,ih,List.lookup_cons,show(x==p.1)=false from beq_eq_false_iff_ne.mpr fun e=>h p List.mem_cons_self e.symm (eq_of_beq hk)]
  ·rw[if_neg hk];exact ih _ _
theorem cellsFrom_cell {x:Str}{names:List (Str×NameKind)}{k:Nat}{acc:List (Str×Addr)}(hm:(x,NameKind.cell)∈names):∃c:Nat,(cellsFrom k names acc).lookup x=some c:=by
 induction names generalizing k acc with
 | nil=>cases hm
 | cons p r ih=>
  unfold cellsFrom
  by_cases hr:(x,NameKind.cell)∈r
  ·split <;> exact ih hr
  ·cases (List.mem_cons.mp hm).resolve_right hr
   rw[if_pos (by rfl),cellsFrom_other fun q hq e f=>hr (by rw[← e,← f];exact hq),List.lookup_cons,beq_self_eq_true]
   exact⟨_,rfl⟩
theorem pushCells_size:∀(names:List (Str×NameKind)) (h:Heap),h.objs.size≤(pushCells h names).objs.size
 | [],h=>Nat.le_refl _
 | (_,kd)::r,h=>by
  unfold pushCells
  split
  ·exact Nat.le_trans (by rw[Heap.size_push];exact Nat.le_succ _) (pushCells_size r _)
  ·exact pushCells_size r _
noncomputable def onceNames:List (Str×NameKind)→Bool
 | []=>true
 | (n,_)::r=>(r.all fun p=>p.1 != n)&&onceNames r
theorem once_lookup {names:List (Str×NameKind)}{n:Str}{k:NameKind}(h:onceNames names=true) (hm:(n,k)∈names):names.lookup n=some k:=by
 induction names with
 | nil=>cases hm
 | cons p r ih=>
  obtain⟨h1,h2⟩:=Bool.and_eq_true_iff.mp (show((r.all fun q=>q.1 != p.1)&&onceNames r)=true from h)
  rw[List.lookup_cons]
  rcases List.mem_cons.mp hm with e | hm
  ·rw[← e,beq_self_eq_true]
  ·rw[show(n==p.1)=false by simpa using List.all_eq_true.mp h1 _ hm];exact ih h2 hm
theorem once_mem {names:List (Str×NameKind)}{n:Str}{k:NameKind}(h:onceNames names=true) (hm:names.lookup n=some k):(n,k)∈names∧∀p∈names,p.1=n→p.2=k:=
 ⟨mem_of_lookup hm,fun p hp e=>by obtain⟨p1,p2⟩:=p;cases e;have:=once_lookup h hp;rw[hm] at this;cases this;rfl⟩
noncomputable def compOk (sc csc:Scope):Bool:=
 csc.kind==.function&&!csc.isCoroutine&&onceNames csc.names&&csc.names.all fun p=>p.2 != .free||(sc.names.lookup p.1==some .cell||sc.names.lookup p.1==some .free)
inductive Keep (csc:Scope):Gm→Gm→Prop
 | nil:Keep csc [] []
 | skip {y sl Γ Γ'}:sto csc y=true→Keep csc Γ Γ'→Keep csc ((y,sl)::Γ) Γ'
 | take {y sl Γ Γ'}:sto csc y=false→Keep csc Γ Γ'→Keep csc ((y,sl)::Γ) ((y,sl)::Γ')
theorem Keep.same {csc:Scope}{Γ:Gm}(h:(Γ.all fun p=>!sto csc p.1)=true):Keep csc Γ Γ:=by
 induction Γ with
 | nil=>exact .nil
 | cons p Γ ih=>
  obtain⟨h1,h2⟩:=Bool.and_eq_true_iff.mp ((List.all_cons ..).symm.trans h)
  exact .take (Bool.not_eq_true' _▸h1) (ih h2)
theorem Keep.sub {csc:Scope}{Γ Γ':Gm}(h:Keep csc Γ Γ'):Γ'.Sublist Γ∧∀p∈Γ',sto csc p.1=false:=by
 induction h with
 | nil=>exact⟨.slnil,fun J h=>nomatch h⟩
 | skip _ _ ih=>exact⟨ih.1.cons _,ih.2⟩
 | take h _ ih=>exact⟨ih.1.cons_cons _,fun q hq=>by
   rcases List.mem_cons.mp hq with rfl | hq
   ·exact h
   ·exact ih.2 q hq⟩
structure CS (C:Cx) (csc:Scope) (cenv:Env) (Γ:Gm) (D:Nat) (X:FZ→Obj→Prop) (F:FZ) (s:Shared):Prop where
 ok:Ok C F s
 eok:EnvOk C F s cenv Γ
 wf:EnvWf csc cenv F s
 acc:∃o,s.heap.get? D=some o∧X F o
 accF:F D=none
 accO:¬Own csc cenv D
 slot:∀p∈Γ,vis cenv.scope p.1=true→∀a:Nat,p.2.addr=some a→a≠D∧¬Own csc cenv a
noncomputable def exD (csc:Scope) (cenv:Env) (D:Nat):Nat→Prop:=fun b=>b=D∨Own csc cenv b
noncomputable def exL (csc:Scope) (cenv:Env) (D lo hi:Nat):Nat→Prop:=fun b=>b=D∨Own csc cenv b∨(lo≤b∧b<hi)
inductive Inn (C:Cx) (csc:Scope) (cenv:Env) (Γ:Gm) (D:Nat) (X:FZ→Obj→Prop) (ex exg:Nat→Prop) (F:FZ) (s s':Shared):Prop
 | mk (F':FZ) (ch:Chg ex exg F F' s s') (st:CS C csc cenv Γ D X F' s')
inductive Turn (P:Nat→Shared→Prop) (n k:Nat) (s:Shared):Prop
 | mk (i:Nat) (hi:i≤n) (hk:k=n-i) (h:P i s)
theorem Turn.next {P:Nat→Shared→Prop}{n i:Nat}{s:Shared}(hi:i<n) (h:P (i+1) s):∃m,m<n-i∧Turn P n m s:=⟨n-(i+1),Nat.sub_succ_lt_self _ _ hi,i+1,hi,rfl,h⟩
theorem SlotR.lt {C:Cx}{F:FZ}{h:Heap}{v:Value}{sl:Slot}(x:SlotR C F h v sl) {a:Nat}(ha:sl.addr=some a):a<h.objs.size:=by
 cases sl with
 | imm=>cases ha
 | ml=>cases ha;obtain⟨_,_,_,e,_⟩:=x.inv;exact Heap.lt_size e
 | mdS=>cases ha;obtain⟨_,_,_,_,e,_⟩:=x.inv;exact Heap.lt_size e.is
 | mdI=>cases ha;obtain⟨_,_,_,_,e,_⟩:=x.inv;exact Heap.lt_size e.is
noncomputable def XMono (X:FZ→Obj→Prop):Prop:=∀F F' o,F.Le F'→X F o→X F' o
noncomputable def RelA (cenv:Env) (Γ:Gm) (D b:Nat):Prop:=b=D∨b=cenv.locals∨(∃x,cenv.cells.lookup x=some b)∨∃p∈Γ,vis cenv.scope p.1=true∧p.2.addr=some b
theorem Own.rel {csc:Scope}{cenv:Env}{Γ:Gm}{D b:Nat}(h:Own csc cenv b):RelA cenv Γ D b:=by
 rcases h with h | ⟨x,_,h⟩
 ·exact .inr (.inl h)
 ·exact .inr (.inr (.inl ⟨x,h⟩))
theorem VarAt.keep' {env:Env}{h h':Heap}{x:Str}{v:Value}(k:VarAt env h x v) (hl:∀o,h.get? env.locals=some o→h'.get? env.locals=some o)
  (hc:∀y c,env.cells.lookup y=some c→∀o,h.get? c=some o→h'.get? c=some o):VarAt env h' x v:=by
 rcases k with ⟨a,m,b,c⟩ | ⟨a,c,b,o,ho,hd⟩
 ·exact .inl ⟨a,m,b.at' hl,c⟩
 ·exact .inr ⟨a,c,b,o,hc _ _ b o ho,hd⟩
theorem CS.chg {C:Cx}{csc:Scope}{cenv:Env}{Γ:Gm}{D:Nat}{X:FZ→Obj→Prop}{ex exg:Nat→Prop}{F F':FZ}{s s':Shared}(x:CS C csc cenv Γ D X F s) (hX:XMono X) (c:Chg ex exg F F' s s')
  (ho:∀b,RelA cenv Γ D b→¬ex b):CS C csc cenv Γ D X F' s':=by
 obtain⟨o,h1,h2⟩:=x.acc
 obtain⟨m,hns⟩:=x.wf.ns
 have kl:∀o,s.heap.get? cenv.locals=some o→s'.heap.get? cenv.locals=some o:=fun o e=>c.keep _ o (ho _ (.inr (.inl rfl))) e
 have kc:∀y a,cenv.cells.lookup y=some a→∀o,s.heap.get? a=some o→s'.heap.get? a=some o:=fun y a h o e=>c.keep _ o (ho _ (.inr (.inr (.inl ⟨y,h⟩)))) e
 refine⟨⟨c.inn,fun a o e=>c.le _ _ (x.ok.base a o e),Nat.le_trans x.ok.tok c.tk⟩,⟨fun p hp hv=>?_,fun y a e=>let ⟨o,ho⟩:=x.eok.low y a e;⟨o,kc y a e o ho⟩⟩,⟨x.wf.kind,x.wf.kl,x.wf.kc,⟨m,hns.at' kl⟩,(c.old _ hns.lt).trans x.wf.nsF,fun y hy=>?_,x.wf.apart⟩,
  ⟨o,c.keep D o (ho D (.inl rfl)) h1,hX _ _ _ c.le h2⟩,(c.old D (Heap.lt_size h1)).trans x.accF,x.accO,x.slot⟩
 ·obtain⟨v,h3,h4⟩:=x.eok.var p hp hv
  exact⟨v,h3.keep' kl kc,h4.keep c.le fun a ha o e=>c.keep a o (ho a (.inr (.inr (.inr ⟨p,hp,hv,ha⟩)))) e⟩
 ·obtain⟨a,v,h3,⟨o',h4,h5⟩,h6⟩:=x.wf.cell y hy
  exact⟨a,v,h3,⟨o',kc _ _ h3 o' h4,h5⟩,(c.old a (Heap.lt_size h4)).trans h6⟩
theorem CS.live {C:Cx}{csc:Scope}{cenv:Env}{Γ:Gm}{D:Nat}{X:FZ→Obj→Prop}{F:FZ}{s:Shared}(x:CS C csc cenv Γ D X F s) {b:Nat}(hb:RelA cenv Γ D b):b<s.heap.objs.size:=by
 rcases hb with h | h | ⟨y,h⟩ | ⟨q,hq,hv,ha⟩
 ·obtain⟨o,ho,_⟩:=x.acc;rw[h];exact Heap.lt_size ho
 ·obtain⟨m,hn⟩:=x.wf.ns;rw[h];exact hn.lt
 ·obtain⟨o,ho⟩:=x.eok.low _ _ h;exact Heap.lt_size ho
 ·obtain⟨v,_,h4⟩:=x.eok.var q hq hv;exact h4.lt ha
theorem CS.grow {C:Cx}{csc:Scope}{cenv:Env}{Γ:Gm}{D:Nat}{X:FZ→Obj→Prop}{F F':FZ}{s s':Shared}(x:CS C csc cenv Γ D X F s) (hX:XMono X) (g:Grow F F' s s'):CS C csc cenv Γ D X F' s':=
 x.chg (ex:=exN) (exg:=exN) hX (.of g) fun J J h=>h
theorem CS.sub {C:Cx}{csc:Scope}{cenv:Env}{Γ Γ':Gm}{D:Nat}{X:FZ→Obj→Prop}{F:FZ}{s:Shared}(x:CS C csc cenv Γ D X F s) (h:∀p∈Γ',p∈Γ):CS C csc cenv Γ' D X F s:=
 ⟨x.ok,x.eok.sub h,x.wf,x.acc,x.accF,x.accO,fun p hp=>x.slot p (h p hp)⟩
theorem CS.stored {C:Cx}{csc:Scope}{cenv:Env}{Γ:Gm}{D:Nat}{X:FZ→Obj→Prop}{F:FZ}{s s':Shared}{y:Str}{v:Value}{d:Mine.D}(x:CS C csc cenv Γ D X F s) (z:Stored csc cenv y v s s') (W':EnvWf csc cenv F s')
  (hr:R C F v d) (hy:∀p∈Γ,p.1≠y):CS C csc cenv ((y,.imm d)::Γ) D X F s':=by
 obtain⟨o,h1,h2⟩:=x.acc
 exact⟨x.ok.stored x.wf z,x.eok.stored z hr (fun p hp=>⟨hp,hy p hp⟩) fun p hp hv a ha=>(x.slot p hp hv a ha).2,W',⟨o,(z.keep D x.accO).trans h1,h2⟩,x.accF,x.accO,
  fun p hp hv a ha=>by
   rcases List.mem_cons.mp hp with rfl | hp
   ·cases ha
   ·exact x.slot p hp hv a ha⟩
noncomputable def bindsG:List Str→List D→Gm→Gm
 | x::xs,d::ds,Γ=>bindsG xs ds ((x,.imm d)::Γ)
 | _,_,Γ=>Γ
inductive Names:List Expr→List Str→Prop
 | nil:Names [] []
 | cons {x p es xs}:Names es xs→Names (.Name x p::es) (x::xs)
noncomputable def freshIn (x:Str) (Γ:Gm):Bool:=Γ.all fun q=>q.1 != x
theorem freshIn_ne {x:Str}{Γ:Gm}(h:freshIn x Γ=true):∀q∈Γ,q.1≠x:=fun q hq e=>by
 have:=List.all_eq_true.mp h q hq
 simp[e] at this
inductive BindT (csc:Scope):Expr→Bool→List D→Gm→Gm→Prop
 | name {x p d Γ}:sto csc x=true→freshIn x Γ=true→BindT csc (.Name x p) false [d] Γ ((x,.imm d)::Γ)
 | tup {es k p xs ds Γ}:Names es xs→xs.length=ds.length→(xs.all fun x=>sto csc x&&freshIn x Γ)=true→xs.Nodup→BindT csc (.Tuple es k p) true ds Γ (bindsG xs ds Γ)
inductive Setters (C:Cx) (env:Env):List (Value→Sem Unit)→List Str→Prop
 | nil:Setters C env [] []
 | cons {f x fs xs}:(∀(A:Around) v (Q:Unit→Shared→Prop) s,Wp C A (storeName env x v) Q s→Wp C A (f v) Q s)→Setters C env fs xs→Setters C env (f::fs) (x::xs)
theorem names_set {C:Cx}{env:Env}{es:List Expr}{xs:List Str}(h:Names es xs):Setters C env ((assignEach es env).map (·.2)) xs∧(assignEach es env).length=xs.length∧(assignEach es env).findIdx? (·.1)=none:=by
 induction h with
 | nil=>exact⟨.nil,rfl,rfl⟩
 | @cons x p es xs _ ih=>
  rw[show assignEach (.Name x p::es) env=(false,assign (.Name x p) env)::assignEach es env from rfl,List.findIdx?_cons,ih.2.2]
  exact⟨.cons (fun A v Q s h=>wpAny_assign_Name h) ih.1,congrArg Nat.succ ih.2.1,rfl⟩
theorem setters_bind {C:Cx}{env:Env}(xs:List Str):Setters C env (xs.map fun n=>bindName env n) xs:=by
 induction xs with
 | nil=>exact .nil
 | cons x xs ih=>exact .cons (fun A v Q s h=>wpAny_bindName h) ih
theorem set_all {C:Cx}{sc:Scope}{env:Env}{A:Around}{F:FZ}{P:Gm→Shared→Prop}(step:∀{x:Str}{v:Value}{d:Mine.D}{Γ:Gm}{s:Shared},sto sc x=true→freshIn x Γ=true→R C F v d→P Γ s→Wp C A (storeName env x v) (fun J s'=>P ((x,.imm d)::Γ) s') s)
  {fs:List (Value→Sem Unit)} {xs:List Str} (h:Setters C env fs xs):∀{vs:List Value} {ds:List Mine.D} {Γ:Gm} {s:Shared},RA C F vs ds→xs.length=ds.length→(xs.all fun x=>sto sc x&&freshIn x Γ)=true→xs.Nodup→P Γ s→Wp C A (assignInOrder fs vs) (fun J s'=>P (bindsG xs ds Γ) s') s:=by
 induction h with
 | nil=>exact fun J J J J hS=>assignInOrder_nil hS
 | @cons f x fs xs h1 _ ih=>
  intro vs ds Γ s hr hd ha hn hS
  cases ds with
  | nil=>cases hd
  | cons d ds=>
  obtain⟨v,vs,rfl,r1,r2⟩:=hr.cons_inv
  rw[List.all_cons,Bool.and_eq_true,Bool.and_eq_true] at ha
  obtain⟨n1,n2⟩:=List.nodup_cons.mp hn
  refine assignInOrder_cons (h1 A _ _ _ ((step ha.1.1 ha.1.2 r1 hS).imp fun J s₁ S₁=>ih r2 (Nat.succ.inj hd) (List.all_eq_true.mpr fun y hy=>?_) n2 S₁))
  obtain⟨y1,y2⟩:=Bool.and_eq_true_iff.mp (List.all_eq_true.mp ha.2 y hy)
  rw[y1,freshIn,List.all_cons,show(x != y)=true from bne_iff_ne.mpr fun e=>n1 (e▸hy)]
  exact y2
section
variable {C:Cx}{csc:Scope}{cenv:Env}{A:Around}{D:Nat}{X:FZ→Obj→Prop}
structure Kp (csc:Scope) (cenv:Env) (s s':Shared):Prop where
 keep:∀b o,¬Own csc cenv b→s.heap.get? b=some o→s'.heap.get? b=some o
 os:s'.os=s.os
 gens:s'.gens=s.gens
theorem CS.ext {Γ:Gm}{F:FZ}{s:Shared}(x:CS C csc cenv Γ D X F s) {h':Heap}{tk:Nat}(k:∀b o,s.heap.get? b=some o→h'.get? b=some o) (ht:autoParam (s.toks≤tk) ler):CS C csc cenv Γ D X F { s with heap:=h',toks:=tk }:=by
 obtain⟨o,h1,h2⟩:=x.acc
 obtain⟨m,hns⟩:=x.wf.ns
 refine⟨⟨fun a o e=>k a o (x.ok.inn a o e),x.ok.base,Nat.le_trans x.ok.tok ht⟩,⟨fun p hp hv=>?_,fun y a e=>let ⟨o,ho⟩:=x.eok.low y a e;⟨o,k _ _ ho⟩⟩,⟨x.wf.kind,x.wf.kl,x.wf.kc,⟨m,hns.keeps k⟩,x.wf.nsF,fun y hy=>?_,x.wf.apart⟩,⟨o,k _ _ h1,h2⟩,x.accF,x.accO,x.slot⟩
 ·obtain⟨v,h3,h4⟩:=x.eok.var p hp hv
  exact⟨v,h3.keep k,h4.keep (.refl _) fun a ha o e=>k a o e⟩
 ·obtain⟨a,v,h3,h4,h6⟩:=x.wf.cell y hy
  exact⟨a,v,h3,h4.keeps k,h6⟩
theorem bind_elim {tgt:Expr}{tup:Bool}{row:List Mine.D}{Γ Γ':Gm}{U:List Mine.D→Prop}{W:Mine.D→Prop}{P:Expr→Gm→Prop}(h:BindT csc tgt tup row Γ Γ') (hv:if tup then U row else ∃d,row=[d]∧W d)
  (h1:∀x p d,sto csc x=true→freshIn x Γ=true→W d→P (.Name x p) ((x,.imm d)::Γ)) (h2:∀es k p xs ds,Names es xs→xs.length=ds.length→(xs.all fun x=>sto csc x&&freshIn x Γ)=true→xs.Nodup→U ds→P (.Tuple es k p) (bindsG xs ds Γ)):P tgt Γ':=by
 cases h with
 | name a b=>obtain⟨d,e,w⟩:=hv;cases e;exact h1 _ _ _ a b w
 | tup a b c d=>exact h2 _ _ _ _ _ a b c d hv
theorem bind_run {tgt:Expr}{tup:Bool}{row:List Mine.D}{Γ Γ':Gm}(hb:BindT csc tgt tup row Γ Γ') {F:FZ}{s:Shared}{v:Value}(hh:A.handled=none) (hX:XMono X) (hS:CS C csc cenv Γ D X F s)
  (hv:if tup then Unp C F s v row else ∃d,row=[d]∧R C F v d):Wp C A (assign tgt cenv v) (fun J s'=>Chg (Own csc cenv) exN F F s s'∧CS C csc cenv Γ' D X F s') s:=by
 have fin:∀{Γ'':Gm} {s':Shared},Kp csc cenv s s'→CS C csc cenv Γ'' D X F s'→Up s s'→Chg (Own csc cenv) exN F F s s'∧CS C csc cenv Γ'' D X F s':=fun k S' u=>
  ⟨⟨.refl _,fun J J=>rfl,S'.ok.inn,fun b o hb e=>k.keep b o hb e,u.h,k.os,fun i x J e=>by rw[k.gens];exact e,u.g,fun h=>by rw[k.gens];exact h,u.t⟩,S'⟩
 refine Wp.up (bind_elim (P:=fun tgt Γ'=>Wp C A (assign tgt cenv v) (fun J s'=>Up s s'→Chg (Own csc cenv) exN F F s s'∧CS C csc cenv Γ' D X F s') s) hb hv (fun x p d h1 h2 hr=>?_) fun es k p xs ds h1 h2 h3 h4 hu=>?_)
 ·exact wpAny_assign_Name (store_name hS.wf h1 fun s₁ z W'=>fin ⟨fun b o hb e=>(z.keep b hb).trans e,z.os,z.gens⟩ (hS.stored z W' hr (freshIn_ne h2)))
 ·obtain⟨T,vs,rfl,hT,hr⟩:=hu
  obtain⟨h5,h6,h7⟩:=names_set (C:=C) (env:=cenv) h1
  refine wpAny_assign_Tuple hh hT (by rw[h6,h2,← hr.length];exact List.size_toArray.symm) h7 fun h' he=>?_
  have hk:∀b o,s.heap.get? b=some o→h'.get? b=some o:=fun b o e=>he b o (Nat.ne_of_lt (Heap.lt_size e)) e
  exact(set_all (P:=fun Γ s'=>Kp csc cenv s s'∧CS C csc cenv Γ D X F s') (fun k1 k2 r S=>(store_name S.2.wf k1 fun s₁ z W'=>⟨⟨fun b o hb e=>(z.keep b hb).trans (S.1.keep b o hb e),z.os.trans S.1.os,z.gens.trans S.1.gens⟩,S.2.stored z W' r (freshIn_ne k2)⟩))
   h5 (s:={ s with heap:=h' }) hr h2 h3 h4 ⟨⟨fun b o J e=>hk b o e,rfl,rfl⟩,hS.ext hk⟩).imp fun _ s' ⟨k,S'⟩=>fin k S'
end
end
local macro_rules | `(tactic| walk_at "k")=>`(tactic| (repeat' (first | exact Keep.nil | refine' Keep.take (by decide +kernel) ?_ | refine' Keep.skip (by decide +kernel) ?_)))
section
set_option backward.match.sparseCases false
noncomputable def loopTurn (g:Comprehension) (it:Value) (env:Env) (inner:Sem Fin) (k:Sem Fin):Sem Fin:=do
 standAt g.iter.pos
 match ← pyNext it with
 | none=>pure (.done .next)
 | some v=>
  letOwnedTupleGo g.target it v
  assign g.target env v
  let mut ok:=true
  for c in g.ifs do
   if ok then ok ← isTrue c env (eval c env)
  if ok then inner else k
noncomputable def Ifs (C:Cx) (n:Nat) (sc:Scope) (Γ:Gm):List Expr→Bool→Prop
 | [],b=>b=true
 | [c],b=>Tr C n sc Γ c b
 | _,_=>False
theorem ifs_run {C:Cx}{n:Nat}{sc:Scope}{Γ:Gm}{ifs:List Expr}{b:Bool}(h:Ifs C n sc Γ ifs b) {env:Env}{A:Around}{F:FZ}{s:Shared}(hE:gE sc env) (hR:Room n A) (hO:Ok C F s) (hV:EnvOk C F s env Γ) :
  Wp C A (forIn ifs true fun c r=>if r=true then do let ok ← isTrue c env (eval c env);pure (ForInStep.yield ok) else pure (ForInStep.yield r)) (fun r s'=>r=b∧∃F',Grow F F' s s') s:=by
 match ifs,h with
 | [],h=>exact wpAny_tests_nil ⟨h.symm,F,.refl hO.inn⟩
 | [c],h=>exact wpAny_tests_one (h env A F s hE hR hO hV)
theorem Src.up {C:Cx}{A:Around}{tup:Bool}{it:Value}{rows:List (List D)}{F F':FZ}{klo lo hi glo ghi:Nat}{S:Nat→Shared→Prop}(x:Src C A tup it rows F klo lo hi glo ghi S) (le:F.Le F') (old:∀a:Nat,lo≤a→a<hi→F' a=F a)
  (base:∀a o,C.hb.get? a=some o→F a=some o):Src C A tup it rows F' klo lo hi glo ghi S:=by
 have ok:∀{s},Ok C F' s→Ok C F s:=fun h=>⟨fun a o e=>h.inn a o (le _ _ e),base,h.tok⟩
 have mv:∀{s s'},Ok C F' s→Moves F lo hi glo ghi s s'→Moves F' lo hi glo ghi s s':=fun {s s'} h m=>⟨m.keep,fun q (a:Nat) o e=>by
  by_cases ha:lo≤a∧a<hi
  ·exact m.inn (ok h).inn a o ((old a ha.1 ha.2)▸e)
  ·exact m.keep a o (out_of ha) (q a o e),m.os,m.gen,m.bare⟩
 refine⟨x.frame,fun i s row hO st hr h1 h2=>(x.next i s row (ok hO) st hr h1 h2).imp fun r s₁ ⟨v,e,p,q⟩=>⟨v,e,fun ht=>?_,fun ht elts y pos=>?_⟩,fun s hO st h1 h2=>(x.done s (ok hO) st h1 h2).imp fun r s₁ ⟨e,m⟩=>⟨e,mv hO m⟩,fun i s Q hO st q=>x.self i s Q (ok hO) st q⟩
 ·obtain⟨⟨d,e1,e2⟩,st',m⟩:=p ht
  exact⟨⟨d,e1,e2.mono le⟩,st',mv hO m⟩
 ·refine(q ht elts y pos).imp fun _ s₂ ⟨⟨T,vs,e1,e2,e3⟩,st',m⟩=>⟨⟨T,vs,e1,e2,e3.mono le⟩,st',mv hO m⟩
theorem bindsG_sub:∀(xs:List Str) (ds:List D) (Γ:Gm),(∀p∈Γ,p∈bindsG xs ds Γ)∧∀p∈bindsG xs ds Γ,p∈Γ∨p.2.addr=none
 | [],ds,Γ=>⟨fun p h=>by cases ds <;> exact h,fun p h=>by cases ds <;> exact .inl h⟩
 | x::xs,[],Γ=>⟨fun p h=>h,fun p h=>.inl h⟩
 | x::xs,d::ds,Γ=>by
  obtain⟨h1,h2⟩:=bindsG_sub xs ds ((x,.imm d)::Γ)
  refine⟨fun p h=>h1 p (List.mem_cons_of_mem _ h),fun p h=>?_⟩
  rcases h2 p h with h | h
  ·rcases List.mem_cons.mp h with rfl | h
   ·exact .inr rfl
   ·exact .inl h
  ·exact .inr h
theorem BindT.sub {csc:Scope}{tgt:Expr}{tup:Bool}{row:List D}{Γ Γ':Gm}(h:BindT csc tgt tup row Γ Γ'):(∀p∈Γ,p∈Γ')∧∀p∈Γ',p∈Γ∨p.2.addr=none:=by
 cases h with
 | name h1 h2=>exact⟨fun p h=>List.mem_cons_of_mem _ h,fun p h=>by
   rcases List.mem_cons.mp h with rfl | h
   ·exact .inr rfl
   ·exact .inl h⟩
 | tup=>exact bindsG_sub _ _ _
theorem BindT.kind {csc:Scope}{tgt:Expr}{tup:Bool}{row:List D}{Γ Γ':Gm}(h:BindT csc tgt tup row Γ Γ'):(tup=false∧∀it v,letOwnedTupleGo tgt it v=pure ())∨(tup=true∧∃elts x p,tgt=.Tuple elts x p):=by
 cases h with
 | name=>exact .inl ⟨rfl,fun J J=>rfl⟩
 | tup=>exact .inr ⟨rfl,_,_,_,rfl⟩
section
variable {C:Cx}{n:Nat}{csc sc':Scope}{cenv:Env}{A:Around}{D:Nat}{α:Type}{X:α→FZ→Obj→Prop}{tup:Bool}{Γ:Gm}{F:FZ}{s:Shared}
theorem take_foldl {β:Type}{xs:List β}{i:Nat}{x:β}(h:xs[i]?=some x) (a₀:α) (step:α→β→α):(xs.take (i+1)).foldl step a₀=step ((xs.take i).foldl step a₀) x:=by
 rw[List.take_add_one,h,List.foldl_append];rfl
theorem Src.take {it:Value}{rows:List (List Mine.D)}{klo lo hi glo ghi:Nat}{S:Nat→Shared→Prop}(src:Src C A tup it rows F klo lo hi glo ghi S) {tgt:Expr}{row:List Mine.D}{Γ':Gm}(bt:BindT csc tgt tup row Γ Γ') {i:Nat}{Q:Option Value→Shared→Prop}{G:Value→Shared→Prop}
  (hO:Ok C F s) (st:S i s) (hr:rows[i]?=some row) (h1:hi≤s.heap.objs.size) (h2:ghi≤s.gens.size) (hQ:∀v s₁,Wp C A (letOwnedTupleGo tgt it v) (fun J s₂=>G v s₂) s₁→Q (some v) s₁)
  (k:∀v s₂,(if tup then Unp C F s₂ v row else ∃d,row=[d]∧R C F v d)→S (i+1) s₂→Moves F lo hi glo ghi s s₂→Up s s₂→G v s₂):Wp C A (pyNext it) Q s:=by
 refine Wp.up ((src.next i s row hO st hr h1 h2).imp fun r s₁ hZ up₁=>?_)
 obtain⟨v,e,p,q⟩:=hZ
 rw[e]
 refine hQ v s₁ ?_
 rcases bt.kind with ⟨e1,e2⟩ | ⟨e1,elts,x,ps,e2⟩
 ·obtain⟨h3,h4,h5⟩:=p e1
  rw[e2]
  exact wpAny_pure (a:=()) (k v s₁ (by rw[e1];exact h3) h4 h5 up₁)
 ·rw[e2]
  exact Wp.up ((q e1 _ _ _).imp fun _ s₂ ⟨h3,h4,h5⟩ up₂=>k v s₂ (by rw[e1];exact h3) h4 h5 (up₁.trans up₂))
theorem loop_run {c:Code}{g:Comprehension}{it:Value}{inner:Sem Fin}{β:Type}{xs:List β}{enc:β→List Mine.D}{Γ':β→Gm}{ok:β→Bool}{klo lo hi glo ghi:Nat}{S:Nat→Shared→Prop}
  (hden:(model C.prog C.w).den c=(loopTurn g it cenv inner (again c)).onRaise (fun x=>do noteFrame x cenv;theTreesLotGoes x)) (hund:A.under c=A) (hq:c.quiet=true)
  (hE:gE sc' cenv) (hR:Room n A) (hX:∀a,XMono (X a)) (a₀:α) (step:α→β→α)
  (hb:∀x∈xs,BindT csc g.target tup (enc x) Γ (Γ' x)) (hifs:∀x∈xs,Ifs C n sc' (Γ' x) g.ifs (ok x)) (hstep:∀x∈xs,ok x=false→∀a,step a x=a)
  (hin:∀x∈xs,ok x=true→∀a F s,(∃i,step a x=(xs.take i).foldl step a₀)→CS C csc cenv (Γ' x) D (X a) F s→Wp C A inner (fun fin s'=>fin=.again c∧Inn C csc cenv (Γ' x) D (X (step a x)) (exD csc cenv D) exN F s s') s)
  (hS:CS C csc cenv Γ D (X a₀) F s) (src:Src C A tup it (xs.map enc) F klo lo hi glo ghi S) (st:S 0 s) (hhi:hi≤s.heap.objs.size) (hghi:ghi≤s.gens.size)
  (hfar:∀b,RelA cenv Γ D b→b<lo∨hi≤b) (hown:∀b,exD csc cenv D b→b<klo∨hi≤b) :
  codeAny (model C.prog C.w) A c (fun r s'=>r=.ok .next∧Inn C csc cenv Γ D (X (xs.foldl step a₀)) (exL csc cenv D lo hi) (exR glo ghi) F s s') s:=by
 obtain⟨P,hP⟩:∃P:Nat→Shared→Prop,∀i s',P i s'↔Inn C csc cenv Γ D (X ((xs.take i).foldl step a₀)) (exL csc cenv D lo hi) (exR glo ghi) F s s'∧S i s':=⟨_,fun J J=>Iff.rfl⟩
 refine codeAny_loop hq (Turn P xs.length) ?_ xs.length (.mk 0 (Nat.zero_le _) rfl ((hP _ _).mpr ⟨.mk F (.of (.refl hS.ok.inn)) hS,st⟩))
 rintro _ s' ⟨i,hi',rfl,hp⟩
 obtain⟨⟨F₁,ch,hS'⟩,st'⟩:=(hP i s').mp hp
 have src':=src.up ch.le (fun a J ha=>ch.old a (Nat.lt_of_lt_of_le ha hhi)) hS.ok.base
 rw[hund,hden]
 refine wpAny_noted (Wp.any ?_)
 unfold loopTurn
 refine Wp.bind (wpAny_standAt (Wp.bind ?_))
 rcases Nat.lt_or_ge i xs.length with hlt | hge
 ·obtain⟨x,hx⟩:∃x,xs[i]?=some x:=⟨_,List.getElem?_eq_getElem hlt⟩
  have htake:=take_foldl hx a₀ step
  have hmem:=List.mem_of_getElem? hx
  have bt:=hb x hmem
  refine src'.take bt hS'.ok st' (by rw[List.getElem?_map,hx];rfl) (Nat.le_trans hhi ch.size) (Nat.le_trans hghi ch.gsize) (fun v s₁ h=>Wp.bind h) fun v s₂ hv st₂ mv up=>?_
  have ch₂:=Chg.moves mv hS'.ok.inn up
  refine Wp.bind ((bind_run bt hR.handled (hX _) (hS'.chg (hX _) ch₂ fun b hb'=>not_out (hfar b hb')) hv).imp fun _ s₃ hZ=>?_)
  obtain⟨ch₃,hS₃⟩:=hZ
  refine Wp.bind ((ifs_run (hifs x hmem) hE hR hS₃.ok hS₃.eok).imp fun r s₄ hZ=>?_)
  obtain⟨e,F₄,g₄⟩:=hZ
  have ch₄:Chg (exD csc cenv D) exN F₁ F₄ s₂ s₄:=(ch₃.trans (ex':=exN) (exg':=exN) (.of g₄) (fun J J h=>h.elim) fun J J h=>h.elim).weak (fun J J h=>.inr h) fun J J h=>h
  have fin:∀s₅,Inn C csc cenv (Γ' x) D (X (step ((xs.take i).foldl step a₀) x)) (exD csc cenv D) exN F₁ s₂ s₅→∃m,m<xs.length-i∧Turn P xs.length m s₅:=fun s₅ ⟨F₅,c₅,hS₅⟩=>by
   refine Turn.next hlt ((hP _ _).mpr ⟨.mk F₅ ((ch.trans ch₂ (fun b J h=>.inr (.inr h)) fun J J h=>h).trans c₅ (fun b J h=>h.imp id .inl) fun J J h=>h.elim) ?_,?_⟩)
   ·rw[htake];exact hS₅.sub bt.sub.1
   ·exact src.frame _ _ _ st₂ ⟨fun b o h1 h2 e=>c₅.keep b o (fun h=>(hown b h).elim (Nat.not_lt.mpr h1) (Nat.not_le.mpr h2)) e,fun j x J J e=>c₅.gen j x (fun h=>h) e⟩
  rw[e]
  cases hok:ok x with
  | false=>exact wpAny_pure ⟨rfl,fin s₄ (.mk F₄ ch₄ (by rw[hstep x hmem hok];exact hS₃.grow (hX _) g₄))⟩
  | true=>
   refine(hin x hmem hok _ F₄ s₄ ⟨i+1,htake.symm⟩ (hS₃.grow (hX _) g₄)).imp fun f s₅ hZ=>?_
   obtain⟨e,F₅,c₅,hS₅⟩:=hZ
   rw[e]
   exact⟨rfl,fin s₅ (.mk F₅ (ch₄.trans c₅ (fun J J h=>h) fun J J h=>h) hS₅)⟩
 ·rw[Nat.le_antisymm hi' hge] at hS' st'
  rw[List.take_length] at hS'
  refine Wp.up ((src'.done s' hS'.ok (by rw[List.length_map];exact st') (Nat.le_trans hhi ch.size) (Nat.le_trans hghi ch.gsize)).imp fun r s₁ hZ up=>?_)
  obtain⟨e,mv⟩:=hZ
  rw[e]
  have ch₂:=Chg.moves mv hS'.ok.inn up
  exact wpAny_pure ⟨rfl,.mk F₁ (ch.trans ch₂ (fun b J h=>.inr (.inr h)) fun J J h=>h) (hS'.chg (hX _) ch₂ fun b hb'=>not_out (hfar b hb'))⟩
end
end
section
noncomputable def cEnv (csc:Scope) (L:Addr) (cl:List (Str×Addr)) (env:Env):Env:=
 { scope:=relabel csc env,locals:=L,globals:=env.globals,cells:=cellsFrom (L+1) csc.names cl,qual:=env.qual,func:=none,code:=env.code,frame:=env.frame,builtins:=env.builtins }
theorem comp_env {C:Cx}{env:Env}{A:Around}{s:Shared}{csc:Scope}{cl:List (Str×Addr)}{Q:Env→Shared→Prop}
  (hQ:∀e:Env,{ e with scope:=relabel csc env }=cEnv csc s.heap.objs.size cl env→e.locals=s.heap.objs.size→Q e { s with heap:=pushCells (s.heap.push { cls:=.type "dict",data:=.dict #[] }) csc.names }) :
  Wp C A (newFunctionEnv csc env.globals cl [] env.qual none .none (some env)) Q s:=by
 simp only[newFunctionEnv,Option.isSome_some,if_true]
 refine wpAny_bind (wpAny_alloc ?_)
 refine wpAny_bind (wpAny_layCells _ (fun name kind cells=>by cases hkc:kind==NameKind.cell <;> simp[hkc]) _ _ _ _ ?_)
 rw[show({ s with heap:=s.heap.push { cls:=.type "dict",data:=.dict #[] } }:Shared).heap.objs.size=s.heap.objs.size+1 from Heap.size_push ..]
 exact wpAny_bind (wpAny_pure (wpAny_pure (hQ _ rfl rfl)))
structure Done {α:Type} (X:α→FZ→Obj→Prop) (a:α) (F F':FZ) (s s':Shared) (D cloc:Nat):Prop where
 g:Grow F F' s s'
 acc:∃o,s'.heap.get? D=some o∧X a F' o
 accF:F' D=none
 lo:s.heap.objs.size≤D
 ns:∃m,s'.heap.Ns cloc m
 nsF:F' cloc=none
 nlo:s.heap.objs.size≤cloc
 ne:D≠cloc
noncomputable def UseK (C:Cx) (A:Around) (use:Option (Value→Sem Unit)) (Q:Value→Shared→Prop) (D cloc:Nat) (s':Shared):Prop:=
 match use with
 | none=>∀h',Heap.SameBut cloc s'.heap h'→Q (.ref D) { s' with heap:=h' }
 | some u=>Wp C A (u (.ref D)) (fun J s''=>∃m,s''.heap.Ns cloc m∧∀h',Heap.SameBut cloc s''.heap h'→Q .none { s'' with heap:=h' }) s'
section
variable {C:Cx}{n:Nat}{sc csc:Scope}{Γ Γc:Gm}{α:Type}{X:α→FZ→Obj→Prop}{tup:Bool}
theorem compOk_inv (h:compOk sc csc=true):csc.kind=.function∧csc.isCoroutine=false∧onceNames csc.names=true∧∀p∈csc.names,p.2=.free→sc.names.lookup p.1=some .cell∨sc.names.lookup p.1=some .free:=by
 simp only[compOk,Bool.and_eq_true,Bool.not_eq_true',beq_iff_eq] at h
 obtain⟨⟨⟨h1,h2⟩,h3⟩,h4⟩:=h
 refine⟨h1,h2,h3,fun p hp hf=>?_⟩
 have:=List.all_eq_true.mp h4 p hp
 simpa [hf] using this
theorem cells_own {L:Nat}{cl:List (Str×Addr)}{x:Str}(honce:onceNames csc.names=true) (hx:csc.names.lookup x=some .cell):∃c:Nat,(x,c)∈cellsFrom L csc.names []∧(cellsFrom L csc.names cl).lookup x=some c:=by
 obtain⟨c,hc⟩:=cellsFrom_cell (k:=L) (acc:=[]) (once_mem honce hx).1
 exact⟨c,mem_of_lookup hc,by rw[cellsFrom_append];exact lookup_append_some hc⟩
theorem cells_free {L c:Nat}{ec:List (Str×Addr)}{x:Str}(honce:onceNames csc.names=true) (hx:csc.names.lookup x=some .free) (hc:ec.lookup x=some c):(cellsFrom L csc.names (freeOf ec csc.names [])).lookup x=some c:=by
 obtain⟨hm,hu⟩:=once_mem honce hx
 rw[cellsFrom_other fun p hp e q=>by cases (hu p hp e).symm.trans q]
 exact freeOf_free hm hc
theorem cells_any {L c:Nat}{ec:List (Str×Addr)}{x:Str}(hcells:∀p∈csc.names,p.2=.free→∃c,ec.lookup p.1=some c) (h:(cellsFrom L csc.names (freeOf ec csc.names [])).lookup x=some c):(x,c)∈cellsFrom L csc.names []∨ec.lookup x=some c:=by
 rw[cellsFrom_append,List.lookup_append] at h
 cases e:(cellsFrom L csc.names []).lookup x with
 | some c'=>rw[e] at h;cases h;exact .inl (mem_of_lookup e)
 | none=>
  rw[e] at h
  obtain⟨h1,h2⟩:=(freeOf_mem h).resolve_left fun h=>nomatch h
  obtain⟨c',hc'⟩:=hcells _ h2 rfl
  rw[h1]
  exact .inr (by rw[hc'];rfl)
theorem rel_free {x:Str}(hx:csc.names.lookup x=some .free):(rel sc csc).names.lookup x=some .cell∨(rel sc csc).names.lookup x=some .free:=by
 rw[rel_lookup,hx,Option.map_some]
 split
 ·exact .inl rfl
 ·exact .inr rfl
theorem rel_same {x:Str}{k:NameKind}(hk:(k==.free)=false) (hx:csc.names.lookup x=some k):(rel sc csc).names.lookup x=some k:=by
 rw[rel_lookup,hx,Option.map_some,hk];rfl
theorem rel_sees {x:Str}(h:(rel sc csc).names.lookup x=some .cell∨(rel sc csc).names.lookup x=some .free):csc.names.lookup x=some .cell∨csc.names.lookup x=some .free:=by
 cases hk:csc.names.lookup x with
 | none=>rw[rel_lookup,hk] at h;exact h.elim (fun h=>nomatch h) fun h=>nomatch h
 | some k=>
  cases hf:k==.free with
  | true=>rw[eq_of_beq hf];exact .inr rfl
  | false=>rw[rel_same hf hk] at h;exact h
theorem vis_free {x:Str}(hst:sto csc x=false) (hv:vis (rel sc csc) x=true):csc.names.lookup x=some .free:=by
 simp only[sto,Bool.or_eq_false_iff,beq_eq_false_iff_ne,ne_eq] at hst
 cases hk:csc.names.lookup x with
 | none=>rw[vis,rel_lookup,hk] at hv;cases hv
 | some k=>
  cases hf:k==.free with
  | true=>rw[eq_of_beq hf]
  | false=>
   rw[vis,rel_same hf hk] at hv
   rw[hk] at hst
   cases k <;> first | (cases hf;done) | exact absurd rfl hst.1 | exact absurd rfl hst.2 | cases hv
theorem rel_good {env:Env}{L:Addr}(hco:compOk sc csc=true) (hE:gE sc env):gE (rel sc csc) (cEnv csc L (freeOf env.cells csc.names []) env):=by
 obtain⟨hkind,hcor,honce,hfr⟩:=compOk_inv hco
 refine⟨relabel_eq hE.scope,hkind,hE.globals,hE.builtins,hcor,fun x hx=>?_⟩
 rcases rel_sees hx with h | h
 ·obtain⟨c,_,hc⟩:=cells_own (L:=L+1) (cl:=freeOf env.cells csc.names []) honce h;exact⟨c,hc⟩
 ·obtain⟨c,hc⟩:=hE.cells x (hfr _ (once_mem honce h).1 rfl);exact⟨c,cells_free honce h hc⟩
theorem comp_state {Y:FZ→Obj→Prop}{env:Env}{F F₁:FZ}{s s₂:Shared}{obj0:Obj}{P:Heap}(hco:compOk sc csc=true) (hE:gE sc env) (hkeep:Keep csc Γ Γc) (hV:EnvOk C F s env Γ) (g:Grow F F₁ s s₂) (hO:Ok C F₁ s₂) (keep:∀b o,s₂.heap.get? b=some o→P.get? b=some o)
  (hD:P.get? s₂.heap.objs.size=some obj0) (hY:Y F₁ obj0) (hns:∃m,P.Ns (s₂.heap.objs.size+1) m) (ck:CellsOk P (s₂.heap.objs.size+2) (cellsFrom (s₂.heap.objs.size+2) csc.names [])) :
  CS C csc (cEnv csc (s₂.heap.objs.size+1) (freeOf env.cells csc.names []) env) Γc s₂.heap.objs.size Y F₁ { s₂ with heap:=P } ∧
   (∀b:Nat,RelA (cEnv csc (s₂.heap.objs.size+1) (freeOf env.cells csc.names []) env) Γc s₂.heap.objs.size b→b<s.heap.objs.size∨s₂.heap.objs.size≤b)∧∀b:Nat,Own csc (cEnv csc (s₂.heap.objs.size+1) (freeOf env.cells csc.names []) env) b→s₂.heap.objs.size+1≤b:=by
 obtain⟨hkind,hcor,honce,hfr⟩:=compOk_inv hco
 have hcells:∀p∈csc.names,p.2=.free→∃c,env.cells.lookup p.1=some c:=fun p hp hf=>hE.cells p.1 (hfr p hp hf)
 generalize hc:cEnv csc (s₂.heap.objs.size+1) (freeOf env.cells csc.names []) env=cenv
 have hcs:cenv.scope=rel sc csc:=by rw[← hc];exact relabel_eq hE.scope
 have hl:cenv.locals=s₂.heap.objs.size+1:=by rw[← hc];rfl
 have own:∀x,csc.names.lookup x=some .cell→∃c:Nat,(x,c)∈cellsFrom (s₂.heap.objs.size+2) csc.names []∧cenv.cells.lookup x=some c:=fun x h=>by rw[← hc];exact cells_own honce h
 have any:∀(x:Str) (c:Nat),cenv.cells.lookup x=some c→(x,c)∈cellsFrom (s₂.heap.objs.size+2) csc.names []∨env.cells.lookup x=some c:=fun x c h=>by rw[← hc] at h;exact cells_any hcells h
 have low:∀(x:Str) (c:Nat),env.cells.lookup x=some c→c<s.heap.objs.size:=fun x c h=>by obtain⟨o,ho⟩:=hV.low x c h;exact Heap.lt_size ho
 have nF:∀a:Nat,s₂.heap.objs.size≤a→F₁ a=none:=fun a ha=>hO.inn.none ha
 have ownlo:∀b:Nat,Own csc cenv b→s₂.heap.objs.size+1≤b:=fun b hb=>by
  rcases hb with h | ⟨x,hx,h⟩
  ·exact Nat.le_of_eq (h.trans hl).symm
  ·obtain⟨c,h1,h2⟩:=own x hx
   cases h.symm.trans h2
   exact Nat.le_of_succ_le (ck.empty x _ h1).2
 have out:∀p∈Γc,vis cenv.scope p.1=true→csc.names.lookup p.1=some .free∧(env.kindOf p.1=some .cell∨env.kindOf p.1=some .free):=fun p hp hv=>by
  have hf:=vis_free (hkeep.sub.2 p hp) (hcs▸hv)
  refine⟨hf,?_⟩
  show env.scope.names.lookup p.1=_∨env.scope.names.lookup p.1=_
  rw[hE.scope];exact hfr _ (once_mem honce hf).1 rfl
 have seen:∀p∈Γc,vis cenv.scope p.1=true→vis env.scope p.1=true:=fun p hp hv=>by
  unfold vis
  rcases(out p hp hv).2 with h | h <;> rw[show List.lookup p.1 env.scope.names=_ from h]
 have slotlo:∀p∈Γc,vis cenv.scope p.1=true→∀a:Nat,p.2.addr=some a→a<s.heap.objs.size:=fun p hp hv a ha=>by
  obtain⟨v,_,h4⟩:=hV.var p (hkeep.sub.1.subset hp) (seen p hp hv)
  exact h4.lt ha
 have hsz:=g.size
 refine⟨⟨⟨fun a o e=>keep a o (hO.inn a o e),hO.base,hO.tok⟩,⟨fun p hp hv=>?_,fun x c h=>?_⟩,⟨by rw[hcs];exact hkind,fun x hx=>?_,fun x hx=>?_,by rw[hl];exact hns,by rw[hl];exact nF _ (Nat.le_succ _),fun x hx=>?_,fun x y c hx hc hy=>?_⟩,⟨obj0,hD,hY⟩,nF _ (Nat.le_refl _),
  fun h=>Nat.not_succ_le_self _ (ownlo _ h),fun p hp hv a ha=>?_⟩,fun b hb=>?_,ownlo⟩
 ·obtain⟨hf,hk⟩:=out p hp hv
  obtain⟨v,h3,h4⟩:=(hV.grow g).var p (hkeep.sub.1.subset hp) (seen p hp hv)
  refine⟨v,?_,h4.keep (.refl _) fun a J o e=>keep a o e⟩
  rcases h3 with ⟨h5,_⟩ | ⟨_,c,h5,h6⟩
  ·rw[h5] at hk;exact hk.elim (fun h=>nomatch h) fun h=>nomatch h
  ·refine .inr ⟨?_,c,by rw[← hc];exact cells_free honce hf h5,h6.keeps keep⟩
   show cenv.scope.names.lookup p.1=_∨cenv.scope.names.lookup p.1=_
   rw[hcs];exact rel_free hf
 ·rcases any x c h with h' | h'
  ·obtain⟨o,ho,_⟩:=(ck.empty x c h').1;exact⟨o,ho⟩
  ·obtain⟨o,ho⟩:=hV.low _ _ h';exact⟨o,keep _ _ (g.keep _ _ ho)⟩
 ·show cenv.scope.names.lookup x=_
  rw[hcs];exact rel_same rfl hx
 ·show cenv.scope.names.lookup x=_
  rw[hcs];exact rel_same rfl hx
 ·obtain⟨c,h1,h2⟩:=own x hx
  have:=ck.empty x _ h1
  exact⟨c,none,h2,this.1,nF c (Nat.le_trans (Nat.le_add_right _ 2) this.2)⟩
 ·obtain⟨c',h1,h2⟩:=own x hx
  cases hc.symm.trans h2
  rcases any y _ hy with h4 | h4
  ·exact name_of_addr ck.apart h1 h4
  ·exact absurd (Nat.le_trans (Nat.le_add_right _ 2) (ck.empty x _ h1).2) (Nat.not_le.mpr (Nat.lt_of_lt_of_le (low _ _ h4) hsz))
 ·have h1:@LT.lt Nat _ a s₂.heap.objs.size:=Nat.lt_of_lt_of_le (slotlo p hp hv a ha) hsz
  exact⟨Nat.ne_of_lt h1,fun h=>Nat.not_le.mpr h1 (Nat.le_of_succ_le (ownlo _ h))⟩
 ·rcases hb with h | h | ⟨x,h⟩ | ⟨p,hp,hv,ha⟩
  ·exact .inr (Nat.le_of_eq h.symm)
  ·exact .inr (Nat.le_of_succ_le (Nat.le_of_eq (h.trans hl).symm))
  ·rcases any x b h with h' | h'
   ·exact .inr (Nat.le_trans (Nat.le_add_right _ 2) (ck.empty x _ h').2)
   ·exact .inl (low _ _ h')
  ·exact .inl (slotlo p hp hv b ha)
theorem comp_core {e:Expr}{g:Comprehension}{rest:List Comprehension}{pos:Pos}{newAcc:Sem Value}{use:Option (Value→Sem Unit)}{inner:Value→Env→Nat→Sem Fin}{obj0:Obj}
  {β:Type} {xs:List β} {enc:β→List D} {Γ':β→Gm} {ok:β→Bool} (a₀:α) (step:α→β→α)
  (hcl:clausesOf e=g::rest) (hset:∀env x,foldedSetIterable g.iter env x=pure x) (hco:compOk sc csc=true) (hit:It C n sc Γ true g.iter tup (xs.map enc)) (hkeep:Keep csc Γ Γc)
  (hnew:∀(A:Around) (Q:Value→Shared→Prop) s,Q (.ref s.heap.objs.size) { s with heap:=s.heap.push obj0 }→Wp C A newAcc Q s) (hfree0:obj0.isFreed=false) (hX0:∀F,X a₀ F obj0) (hX:∀a,XMono (X a))
  (hstart:∀(A:Around) cenv it (D:Nat) (R:Result→Shared→Prop) s,codeAny (model C.prog C.w) A (.compLoop e 0 it (.ref D) cenv) R s →
   Wp C A (pyIter it) (fun it' s'=>codeAny (model C.prog C.w) A (.compLoop e 0 it' (.ref D) cenv) R s') s→codeAny (model C.prog C.w) A (.compStart e 0 it (.ref D) cenv) R s)
  (hden:∀it (D:Nat) cenv,(model C.prog C.w).den (.compLoop e 0 it (.ref D) cenv)=(loopTurn g it cenv (inner it cenv D) (again (.compLoop e 0 it (.ref D) cenv))).onRaise (fun x=>do noteFrame x cenv;theTreesLotGoes x))
  (hund:∀(A:Around) it (D:Nat) cenv,A.under (.compLoop e 0 it (.ref D) cenv)=A) (hq:∀it (D:Nat) cenv,(Code.compLoop e 0 it (.ref D) cenv).quiet=true)
  (hb:∀x∈xs,BindT csc g.target tup (enc x) Γc (Γ' x)) (hifs:∀x∈xs,Ifs C n (rel sc csc) (Γ' x) g.ifs (ok x)) (hstep:∀x∈xs,ok x=false→∀a,step a x=a)
  (hin:∀(A:Around) it cenv (D:Nat),gE (rel sc csc) cenv→Room n A→∀x∈xs,ok x=true→∀a F s,(∃i,step a x=(xs.take i).foldl step a₀)→CS C csc cenv (Γ' x) D (X a) F s →
   Wp C A (inner it cenv D) (fun fin s'=>fin=.again (.compLoop e 0 it (.ref D) cenv)∧Inn C csc cenv (Γ' x) D (X (step a x)) (exD csc cenv D) exN F s s') s)
  {env:Env} {A:Around} {F:FZ} {s:Shared} {Q:Value→Shared→Prop} (hE:gE sc env) (hR:Room n A) (hO:Ok C F s) (hV:EnvOk C F s env Γ)
  (k:∀(D cloc:Nat) F' s',Done X (xs.foldl step a₀) F F' s s' D cloc→UseK C A use Q D cloc s') :
  Wp C A (comprehension e csc env pos newAcc false (eval g.iter env) use) Q s:=by
 obtain⟨hkind,hcor,honce,hfr⟩:=compOk_inv hco
 have hcells:∀p∈csc.names,p.2=.free→∃c,env.cells.lookup p.1=some c:=fun p hp hf=>hE.cells p.1 (hfr p hp hf)
 refine wpAny_comprehension_free (use:=use) hcl (hset env) (closureFor_eq hcells) hkind (fun x hx hl=>once_lookup honce (by obtain⟨x1,x2⟩:=x;cases hl;exact hx)) ?_
 refine(hit env A F s hE hR hO hV).imp fun x s₁ h₁=>h₁.imp fun it s₂ hZ=>?_
 obtain⟨F₁,S,g₂,st,src⟩:=hZ
 simp only[if_true] at src
 refine hnew _ _ _ ?_
 have hz:(s₂.heap.push obj0).objs.size=s₂.heap.objs.size+1:=Heap.size_push ..
 refine comp_env fun cenv' hce hloc=>?_
 rw[hce]
 dsimp only at hce hloc ⊢
 rw[hloc,hz]
 have keep:∀b o,s₂.heap.get? b=some o→(pushCells ((s₂.heap.push obj0).push { cls:=.type "dict",data:=.dict #[] }) csc.names).get? b=some o:=fun b o e=>pushCells_keeps _ _ b o (Heap.get?_push_of_some _ (Heap.get?_push_of_some _ e))
 have hD:(pushCells ((s₂.heap.push obj0).push { cls:=.type "dict",data:=.dict #[] }) csc.names).get? s₂.heap.objs.size=some obj0:=pushCells_keeps _ _ _ _ (Heap.get?_push_of_some _ (Heap.get?_push_size _ hfree0))
 have hns:∃m,(pushCells ((s₂.heap.push obj0).push { cls:=.type "dict",data:=.dict #[] }) csc.names).Ns (s₂.heap.objs.size+1) m:=⟨_,hz▸(Heap.Ns.new (s₂.heap.push obj0) (.type "dict")).keeps (pushCells_keeps _ _)⟩
 have ck:=cellsFrom_ok csc.names ((s₂.heap.push obj0).push { cls:=.type "dict",data:=.dict #[] }) (s₂.heap.objs.size+2) [] ⟨fun J J hm=>(nomatch hm),List.Pairwise.nil⟩ (by rw[Heap.size_push,hz];exact Nat.le_refl _)
 rw[Heap.size_push,hz] at ck
 have hPz:s₂.heap.objs.size≤(pushCells ((s₂.heap.push obj0).push { cls:=.type "dict",data:=.dict #[] }) csc.names).objs.size:=Nat.le_trans (by rw[Heap.size_push,hz];exact Nat.le_add_right _ 2) (pushCells_size _ _)
 revert keep hD hns ck hPz
 generalize pushCells ((s₂.heap.push obj0).push { cls:=.type "dict",data:=.dict #[] }) csc.names=P
 intro keep hD hns ck hPz
 obtain⟨hS,hrel,ownlo⟩:=comp_state (Y:=X a₀) hco hE hkeep hV g₂ (hO.grow g₂) keep hD (hX0 _) hns ck
 have hGE:=rel_good (L:=s₂.heap.objs.size+1) hco hE
 revert hS hrel ownlo hGE
 generalize hcv:cEnv csc (s₂.heap.objs.size+1) (freeOf env.cells csc.names []) env=cenv
 intro hS hrel ownlo hGE
 have hcl0:cenv.locals=s₂.heap.objs.size+1:=by rw[← hcv];rfl
 have st':S 0 { s₂ with heap:=P }:=src.frame 0 s₂ _ st ⟨fun b o J J e=>keep b o e,fun J J J J e=>e⟩
 have run:=loop_run (s:={ s₂ with heap:=P }) (c:=.compLoop e 0 it (.ref s₂.heap.objs.size) cenv) (g:=g) (it:=it) (inner:=inner it cenv s₂.heap.objs.size) (hden _ _ _) (hund A _ _ _) (hq _ _ _) hGE hR hX a₀ step hb hifs hstep
  (hin A it cenv s₂.heap.objs.size hGE hR) hS src st' hPz (Nat.le_refl _) hrel fun b hb=>.inr (hb.elim (fun h=>Nat.le_of_eq h.symm) fun h=>Nat.le_of_succ_le (ownlo b h))
 have post:∀(r:Result) s',(r=.ok .next∧Inn C csc cenv Γc s₂.heap.objs.size (X (xs.foldl step a₀)) (exL csc cenv s₂.heap.objs.size s.heap.objs.size s₂.heap.objs.size) (exR s.gens.size s₂.gens.size) F₁ { s₂ with heap:=P } s') →
   compPost (model C.prog C.w) A (fun J J=>False) use Q (.ref s₂.heap.objs.size) (s₂.heap.objs.size+1) r s':=by
  rintro r s' ⟨rfl,F',ch,S'⟩
  have tot:Grow F F' s s':=by
   have c0:Chg (fun b=>s.heap.objs.size≤b) (fun i=>s.gens.size≤i) F F' s s':=by
    refine((Chg.of (ex:=fun b=>s.heap.objs.size≤b) (exg:=fun i=>s.gens.size≤i) g₂).trans (ex':=exN) (exg':=exN) (.of (.same g₂.inn keep hPz)) (fun J J h=>h.elim) fun J J h=>h.elim).trans ch (fun b J h=>?_) fun i J h=>h.1
    rcases h with h | h | h
    ·rw[h];exact g₂.size
    ·exact Nat.le_trans g₂.size (Nat.le_of_succ_le (ownlo b h))
    ·exact h.1
   exact c0.grow (fun b hb h=>absurd hb (Nat.not_lt.mpr h)) fun i hi h=>absurd hi (Nat.not_lt.mpr h)
  obtain⟨m,hn⟩:=S'.wf.ns
  have hnF:=S'.wf.nsF
  rw[hcl0] at hn hnF
  have kk:=k _ _ F' s' ⟨tot,S'.acc,S'.accF,g₂.size,⟨m,hn⟩,hnF,Nat.le_succ_of_le g₂.size,Nat.ne_of_lt (Nat.lt_succ_self _)⟩
  cases use with
  | none=>exact⟨m,hn,kk⟩
  | some u=>exact kk
 exact hstart A cenv it s₂.heap.objs.size _ _ (codeAny_mono run post) (src.self 0 _ _ hS.ok st' (codeAny_mono run post))
end
end
section
noncomputable def XL (C:Cx) (ds:List D) (F:FZ) (o:Obj):Prop:=∃vs k,o=lObj vs k∧RA C F vs ds
theorem XL.mono {C:Cx}(ds:List D):XMono (XL C ds):=fun F F' o h ⟨vs,k,e,r⟩=>⟨vs,k,e,r.mono h⟩
theorem XL.nocell {C:Cx}{ds:List D}:∀F o v,XL C ds F o→o.data≠.cell v:=fun F o v ⟨vs,k,e,r⟩ h=>by rw[e] at h;cases h
theorem Grow.but {F F':FZ}{s s':Shared}(g:Grow F F' s s') {c:Nat}(hn:F' c=none) (hc:s.heap.objs.size≤c) {h':Heap}(hs:Heap.SameBut c s'.heap h'):Grow F F' s { s' with heap:=h' }:=
 ⟨g.le,g.old,fun a o e=>hs.extBut a o (fun q=>by rw[q,hn] at e;cases e) (g.inn a o e),fun b o e=>hs.extBut b o (fun q=>by have:=Heap.lt_size e;rw[q] at this;exact absurd this (Nat.not_lt.mpr hc)) (g.keep b o e),
  by show _≤h'.objs.size;rw[hs.1];exact g.size,g.os,g.gen,g.gsize,g.bare,g.tk⟩
section
variable {C:Cx}{n:Nat}{sc csc:Scope}{Γ Γc:Gm}{tup:Bool}
theorem CS.accSet {cenv:Env}{D:Nat}{X X':FZ→Obj→Prop}{F:FZ}{s:Shared}(x:CS C csc cenv Γ D X F s) (hX:∀F o v,X F o→o.data≠.cell v) {h':Heap}{tk:Nat}(hs:Heap.SameBut D s.heap h') {o':Obj}(ho:h'.get? D=some o') (hx:X' F o') (ht:autoParam (s.toks≤tk) ler) :
  CS C csc cenv Γ D X' F { s with heap:=h',toks:=tk }:=by
 obtain⟨o,h1,h2⟩:=x.acc
 have hl:cenv.locals≠D:=fun e=>x.accO (.inl e.symm)
 have hcell:∀{c:Nat} {v},s.heap.IsCell c v→c≠D:=fun {c v} ⟨o₂,h3,h4⟩ e=>by rw[e,h1] at h3;cases h3;exact hX _ _ _ h2 h4
 refine⟨⟨fun a o e=>hs.extBut a o (fun q=>by rw[q,x.accF] at e;cases e) (x.ok.inn a o e),x.ok.base,Nat.le_trans x.ok.tok ht⟩,⟨fun p hp hv=>?_,fun y a e=>?_⟩,⟨x.wf.kind,x.wf.kl,x.wf.kc,?_,x.wf.nsF,fun y hy=>?_,x.wf.apart⟩,⟨o',ho,hx⟩,x.accF,x.accO,x.slot⟩
 ·obtain⟨v,h3,h4⟩:=x.eok.var p hp hv
  refine⟨v,?_,h4.keep (.refl _) fun a ha o e=>hs.extBut a o (x.slot p hp hv a ha).1 e⟩
  rcases h3 with ⟨a,m',b,c⟩ | ⟨a,c,b,d⟩
  ·exact .inl ⟨a,m',b.sameBut hs hl,c⟩
  ·exact .inr ⟨a,c,b,d.sameBut hs (hcell d)⟩
 ·obtain⟨o₂,h3⟩:=x.eok.low y a e
  by_cases q:a=D
  ·exact⟨o',by rw[q];exact ho⟩
  ·exact⟨o₂,hs.extBut a o₂ q h3⟩
 ·obtain⟨m,hn⟩:=x.wf.ns;exact⟨m,hn.sameBut hs hl⟩
 ·obtain⟨a,v,h3,h4,h6⟩:=x.wf.cell y hy
  exact⟨a,v,h3,h4.sameBut hs (hcell h4),h6⟩
theorem emit_run {sc':Scope}{elt:Expr}{d:D}(h:Ex C n sc' Γ elt d) {cenv:Env}{D:Nat}{A:Around}{F:FZ}{s:Shared}{a:List Mine.D}(hE:gE sc' cenv) (hR:Room n A) (hS:CS C csc cenv Γ D (XL C a) F s) (hz:a.length≤sizeLine) :
  Wp C A (do let _ ← call (.builtin "list.append") [.ref D,← eval elt cenv]) (fun J s'=>Inn C csc cenv Γ D (XL C (a++[d])) (exD csc cenv D) exN F s s') s:=by
 refine Wp.bind ((h cenv A F s hE hR hS.ok hS.eok).imp fun v s₁ hZ=>?_)
 obtain⟨F₁,g,r⟩:=hZ
 have S₁:=hS.grow (XL.mono _) g
 obtain⟨o,h1,vs,k,rfl,h2⟩:=S₁.acc
 refine Wp.bind (append_at (hsz:=by rw[List.size_toArray,h2.length];exact hz) h1 fun h' hs ho=>wpAny_pure ?_)
 exact .mk F₁ ((Chg.of (ex:=exD csc cenv D) (exg:=exN) g).trans (Chg.same (exg:=exN) S₁.ok.inn S₁.accF (fun b o hb e=>hs.extBut b o hb e) (Nat.le_of_eq hs.1.symm)) (fun J J h=>.inl h) (fun J J h=>h))
  (S₁.accSet XL.nocell hs ho ⟨vs++[v],k+1,by rw[List.push_toArray],h2.append (.one r)⟩)
theorem turn_1 (elt target iter:Expr) (ifs:List Expr) (scope:Scope) (pos:Pos) (it acc:Value) (env:Env) :
  compTurn (.ListComp elt [⟨target,iter,ifs,0⟩] scope pos) 0 it acc env=loopTurn ⟨target,iter,ifs,0⟩ it env ((do let _ ← call (.builtin "list.append") [acc,← eval elt env])>>=fun J=>again (.compLoop (.ListComp elt [⟨target,iter,ifs,0⟩] scope pos) 0 it acc env)) (again (.compLoop (.ListComp elt [⟨target,iter,ifs,0⟩] scope pos) 0 it acc env)):=by rfl
theorem turn_2a (elt t1 i1 t2 i2:Expr) (f1 f2:List Expr) (scope:Scope) (pos:Pos) (it acc:Value) (env:Env) :
  compTurn (.ListComp elt [⟨t1,i1,f1,0⟩,⟨t2,i2,f2,0⟩] scope pos) 0 it acc env=loopTurn ⟨t1,i1,f1,0⟩ it env
   (do
     let x ← eval i2 env
     standAt i2.pos
     let x ← foldedSetIterable i2 env x
     let y ← holding [x] (pyIter x)
     let _ ← runOwn (.compStart (.ListComp elt [⟨t1,i1,f1,0⟩,⟨t2,i2,f2,0⟩] scope pos) 1 y acc env) env
     again (.compLoop (.ListComp elt [⟨t1,i1,f1,0⟩,⟨t2,i2,f2,0⟩] scope pos) 0 it acc env))
   (again (.compLoop (.ListComp elt [⟨t1,i1,f1,0⟩,⟨t2,i2,f2,0⟩] scope pos) 0 it acc env)):=by rfl
theorem turn_2b (elt t1 i1 t2 i2:Expr) (f1 f2:List Expr) (scope:Scope) (pos:Pos) (it acc:Value) (env:Env) :
  compTurn (.ListComp elt [⟨t1,i1,f1,0⟩,⟨t2,i2,f2,0⟩] scope pos) 1 it acc env=loopTurn ⟨t2,i2,f2,0⟩ it env ((do let _ ← call (.builtin "list.append") [acc,← eval elt env])>>=fun J=>again (.compLoop (.ListComp elt [⟨t1,i1,f1,0⟩,⟨t2,i2,f2,0⟩] scope pos) 1 it acc env))
   (again (.compLoop (.ListComp elt [⟨t1,i1,f1,0⟩,⟨t2,i2,f2,0⟩] scope pos) 1 it acc env)):=by rfl
theorem foldl_filter {α β:Type}(ok:β→Bool) (f:β→α):∀(xs:List β) (a:List α),xs.foldl (fun a x=>if ok x then a++[f x] else a) a=a++(xs.filter ok).map f
 | [],a=>by simp
 | x::xs,a=>by
  rw[List.foldl_cons,foldl_filter ok f xs]
  by_cases h:ok x=true
  ·simp[h]
  ·simp[h]
theorem foldl_flat {α β:Type}(g:β→List α):∀(xs:List β) (a:List α),xs.foldl (fun a x=>a++g x) a=a++xs.flatMap g
 | [],a=>by simp
 | x::xs,a=>by rw[List.foldl_cons,foldl_flat g xs];simp
structure NewR (P:FZ→Obj→Prop) (F F':FZ) (s s':Shared) (D:Nat):Prop where
 g:Grow F F' s s'
 acc:∃o,s'.heap.get? D=some o∧P F' o
 accF:F' D=none
 lo:s.heap.objs.size≤D
noncomputable def Nw (C:Cx) (n:Nat) (sc:Scope) (Γ:Gm) (e:Expr) (P:FZ→Obj→Prop):Prop:=
 ∀(env:Env) (A:Around) (F:FZ) (s:Shared),gE sc env→Room n A→Ok C F s→EnvOk C F s env Γ→Wp C A (eval e env) (fun v s'=>∃D F',v=.ref D∧NewR P F F' s s' D) s
noncomputable def Cm (C:Cx) (n:Nat) (sc:Scope) (Γ:Gm) (e:Expr) (P:FZ→Obj→Prop):Prop:=
 ∀(env:Env) (A:Around) (F:FZ) (s:Shared),gE sc env→Room n A→Ok C F s→EnvOk C F s env Γ→∀(u:Value→Sem Unit) (Q:Shared→Prop),
  (∀(D cloc:Nat) F' s',NewR P F F' s s' D→(∃m,s'.heap.Ns cloc m)→F' cloc=none→s.heap.objs.size≤cloc→D≠cloc →
   Wp C A (u (.ref D)) (fun J s''=>∃m,s''.heap.Ns cloc m∧∀h',Heap.SameBut cloc s''.heap h'→Q { s'' with heap:=h' }) s')→Wp C A (evalThenUse e env u) (fun J s'=>Q s') s
theorem ex_of_nw {e:Expr}{ds:List D}(h:Nw C n sc Γ e (XL C ds)):Ex C n sc Γ e (.list ds):=by
 intro env A F s hE hR hO hV
 refine(h env A F s hE hR hO hV).imp fun v s' hZ=>?_
 obtain⟨D,F',e,r⟩:=hZ
 obtain⟨o,h1,vs,k,rfl,h2⟩:=r.acc
 rw[e]
 exact⟨F'.add D (lObj vs k),r.g.freeze r.lo r.accF h1,.list FZ.add_self (h2.mono (FZ.le_add r.accF))⟩
theorem newList_run {A:Around}{Q:Value→Shared→Prop}{s:Shared}(h:Q (.ref s.heap.objs.size) { s with heap:=s.heap.push (lObj [] 0) }):Wp C A (newList []) Q s:=wpAny_newObj_type h
theorem start_list {elt target iter ifs rest scope pos} {A:Around}{cenv:Env}{it acc:Value}{R:Result→Shared→Prop}{s:Shared}
  (h0:codeAny (model C.prog C.w) A (.compLoop (.ListComp elt (⟨target,iter,ifs,0⟩::rest) scope pos) 0 it acc cenv) R s)
  (h:Wp C A (pyIter it) (fun it' s'=>codeAny (model C.prog C.w) A (.compLoop (.ListComp elt (⟨target,iter,ifs,0⟩::rest) scope pos) 0 it' acc cenv) R s') s) :
  codeAny (model C.prog C.w) A (.compStart (.ListComp elt (⟨target,iter,ifs,0⟩::rest) scope pos) 0 it acc cenv) R s:=codeAny_compStart_list h0 h.any
theorem start_list1 {elt t1 i1 f1 t2 i2 f2 scope pos} {A:Around}{cenv:Env}{it acc:Value}{R:Result→Shared→Prop}{s:Shared}
  (h0:codeAny (model C.prog C.w) A (.compLoop (.ListComp elt [⟨t1,i1,f1,0⟩,⟨t2,i2,f2,0⟩] scope pos) 1 it acc cenv) R s)
  (h:Wp C A (pyIter it) (fun it' s'=>codeAny (model C.prog C.w) A (.compLoop (.ListComp elt [⟨t1,i1,f1,0⟩,⟨t2,i2,f2,0⟩] scope pos) 1 it' acc cenv) R s') s) :
  codeAny (model C.prog C.w) A (.compStart (.ListComp elt [⟨t1,i1,f1,0⟩,⟨t2,i2,f2,0⟩] scope pos) 1 it acc cenv) R s:=by
 refine codeAny_of_tree ?_
 show wpAny _ _ ((compStart (.ListComp elt [⟨t1,i1,f1,0⟩,⟨t2,i2,f2,0⟩] scope pos) 1 it acc cenv).onRaise (fun x=>do noteFrame x cenv;standAt theWindowsPlace)) _ _ s
 refine wpAny_notedAt ?_
 unfold compStart
 show wpAny _ _ (ask>>=_) _ _ s
 refine wpAny_bind (wpAny_askSetting (wpAny_ite ?_))
 split
 ·first
   | exact wpAny_bind (wpAny_pure (wpAny_pure (And.intro rfl h0)))
   | exact wpAny_pure (And.intro rfl h0)
 ·first
   | exact wpAny_bind (wpAny_rule (wpAny_bind (wpAny_standAt (wpAny_bind (wpAny_mono h.any (fun it' s' h'=>wpAny_pure (And.intro rfl h')) fun J J x=>x)))))
   | (refine wpAny_bind (wpAny_rule ?_);show wpAny _ _ (standAt i2.pos>>=_) _ _ s;exact wpAny_bind (wpAny_standAt (wpAny_bind (wpAny_mono h.any (fun it' s' h'=>wpAny_pure (And.intro rfl h')) fun J J x=>x))))
structure C1 (C:Cx) (n:Nat) (sc csc:Scope) (Γ Γc:Gm) (tup:Bool) (elt tgt iter:Expr) (ifs:List Expr) {β:Type} (xs:List β) (enc:β→List D) (Γ':β→Gm) (ok:β→Bool) (f:β→D):Prop where
 it:It C n sc Γ true iter tup (xs.map enc)
 bind:∀x∈xs,BindT csc tgt tup (enc x) Γc (Γ' x)
 ifs:∀x∈xs,Ifs C n (rel sc csc) (Γ' x) ifs (ok x)
 elt:∀x∈xs,ok x=true→Ex C n (rel sc csc) (Γ' x) elt (f x)
theorem comp1_core {elt tgt iter:Expr}{ifs:List Expr}{pos:Pos}{β:Type}{xs:List β}{enc:β→List D}{Γ':β→Gm}{ok:β→Bool}{f:β→D}{use:Option (Value→Sem Unit)}{p:Pos}
  (h:C1 C n sc csc Γ Γc tup elt tgt iter ifs xs enc Γ' ok f) (hco:compOk sc csc=true) (hkeep:Keep csc Γ Γc) (hset:∀env x,foldedSetIterable iter env x=pure x) (hz:xs.length≤4096)
  {env:Env} {A:Around} {F:FZ} {s:Shared} {Q:Value→Shared→Prop} (hE:gE sc env) (hR:Room n A) (hO:Ok C F s) (hV:EnvOk C F s env Γ)
  (k:∀(D cloc:Nat) F' s',Done (XL C) ((xs.filter ok).map f) F F' s s' D cloc→UseK C A use Q D cloc s') :
  Wp C A (comprehension (.ListComp elt [⟨tgt,iter,ifs,0⟩] csc pos) csc env p (newList []) false (eval iter env) use) Q s:=by
 have e0:xs.foldl (fun a x=>if ok x then a++[f x] else a) []=(xs.filter ok).map f:=by rw[foldl_filter];rfl
 refine comp_core (X:=XL C) (g:=⟨tgt,iter,ifs,0⟩) (obj0:=lObj [] 0) (inner:=fun it cenv D=>(do let _ ← call (.builtin "list.append") [.ref D,← eval elt cenv])>>=fun J=>again (.compLoop (.ListComp elt [⟨tgt,iter,ifs,0⟩] csc pos) 0 it (.ref D) cenv)) [] (fun a x=>if ok x then a++[f x] else a)
  rfl hset hco h.it hkeep (fun A Q s q=>newList_run q) rfl (fun F=>⟨[],0,rfl,.nil⟩) XL.mono (fun A cenv it D R s h0 h1=>start_list h0 h1)
  (fun it D cenv=>?_) (fun J J J J=>rfl) (fun J J J=>rfl) h.bind h.ifs (fun x hx e a=>by simp[e]) (fun A it cenv D hE' hR' x hx e a F s ⟨i,hi⟩ hS=>?_) hE hR hO hV (by rw[e0];exact k)
 ·show(compTurn (.ListComp elt [⟨tgt,iter,ifs,0⟩] csc pos) 0 it (.ref D) cenv).onRaise _=_
  rw[turn_1]
 ·have hl:a.length≤sizeLine:=by
   simp only[e,if_true] at hi
   rw[foldl_filter] at hi
   have:=congrArg List.length hi
   simp only[List.length_append,List.length_cons,List.length_nil,List.length_map] at this
   have h1:=List.length_filter_le ok (xs.take i)
   have h2:(xs.take i).length≤xs.length:=List.length_take_le' ..
   have h3:(4096:Nat)≤sizeLine:=by decide
   lia
  simp only[e,if_true]
  exact Wp.bind ((emit_run (h.elt x hx e) hE' hR' hS hl).imp fun J s' q=>wpAny_pure ⟨rfl,q⟩)
theorem nw_comp1 {elt tgt iter:Expr}{ifs:List Expr}{pos:Pos}{β:Type}{xs:List β}{enc:β→List D}{Γ':β→Gm}{ok:β→Bool}{f:β→D}
  (h:C1 C n sc csc Γ Γc tup elt tgt iter ifs xs enc Γ' ok f) (hco:compOk sc csc=true) (hkeep:Keep csc Γ Γc) (hz:xs.length≤4096) (hset:∀env x,foldedSetIterable iter env x=pure x) :
  Nw C n sc Γ (.ListComp elt [⟨tgt,iter,ifs,0⟩] csc pos) (XL C ((xs.filter ok).map f)):=by
 intro env A F s hE hR hO hV
 rw[eval_ListComp]
 refine comp1_core (use:=none) h hco hkeep hset hz hE hR hO hV fun D cloc F' s' dn h' hs=>?_
 obtain⟨o,h1,h2⟩:=dn.acc
 exact⟨D,F',rfl,dn.g.but dn.nsF dn.nlo hs,⟨o,hs.extBut _ _ dn.ne h1,h2⟩,dn.accF,dn.lo⟩
theorem cm_comp1 {elt tgt iter:Expr}{ifs:List Expr}{pos:Pos}{β:Type}{xs:List β}{enc:β→List D}{Γ':β→Gm}{ok:β→Bool}{f:β→D}
  (h:C1 C n sc csc Γ Γc tup elt tgt iter ifs xs enc Γ' ok f) (hco:compOk sc csc=true) (hkeep:Keep csc Γ Γc) (hz:xs.length≤4096) (hset:∀env x,foldedSetIterable iter env x=pure x) :
  Cm C n sc Γ (.ListComp elt [⟨tgt,iter,ifs,0⟩] csc pos) (XL C ((xs.filter ok).map f)):=by
 intro env A F s hE hR hO hV u Q k
 rw[arm_evalThenUse_ListComp]
 refine Wp.bind (comp1_core (use:=some u) h hco hkeep hset hz hE hR hO hV fun D cloc F' s' dn=>?_)
 refine(k D cloc F' s' ⟨dn.g,dn.acc,dn.accF,dn.lo⟩ dn.ns dn.nsF dn.nlo dn.ne).imp fun _ s'' ⟨m,hn,q⟩=>⟨m,hn,fun h' hs=>wpAny_pure (q h' hs)⟩
structure C2 (C:Cx) (n:Nat) (sc csc:Scope) (Γ Γc:Gm) (tup tup2:Bool) (elt tgt iter tgt2 iter2:Expr) (ifs2:List Expr) {β γ:Type} (xs:List β) (enc:β→List D) (Γ':β→Gm) (ys:β→List γ) (enc2:γ→List D)
  (Γ2:β→γ→Gm) (ok:β→γ→Bool) (f:β→γ→D):Prop where
 it:It C n sc Γ true iter tup (xs.map enc)
 bind:∀x∈xs,BindT csc tgt tup (enc x) Γc (Γ' x)
 it2:∀x∈xs,It C n (rel sc csc) (Γ' x) false iter2 tup2 ((ys x).map enc2)
 bind2:∀x∈xs,∀y∈ys x,BindT csc tgt2 tup2 (enc2 y) (Γ' x) (Γ2 x y)
 ifs:∀x∈xs,∀y∈ys x,Ifs C n (rel sc csc) (Γ2 x y) ifs2 (ok x y)
 elt:∀x∈xs,∀y∈ys x,ok x y=true→Ex C n (rel sc csc) (Γ2 x y) elt (f x y)
theorem comp2_core {elt tgt iter tgt2 iter2:Expr}{ifs2:List Expr}{pos:Pos}{tup2:Bool}{β γ:Type}{xs:List β}{enc:β→List D}{Γ':β→Gm}{ys:β→List γ}{enc2:γ→List D}{Γ2:β→γ→Gm}{ok:β→γ→Bool}{f:β→γ→D}{use:Option (Value→Sem Unit)}{p:Pos}
  (h:C2 C n sc csc Γ Γc tup tup2 elt tgt iter tgt2 iter2 ifs2 xs enc Γ' ys enc2 Γ2 ok f) (hco:compOk sc csc=true) (hkeep:Keep csc Γ Γc) (hset:∀env x,foldedSetIterable iter env x=pure x) (hset2:∀env x,foldedSetIterable iter2 env x=pure x)
  (hz:(xs.flatMap fun x=>((ys x).filter (ok x)).map (f x)).length≤4096)
  {env:Env} {A:Around} {F:FZ} {s:Shared} {Q:Value→Shared→Prop} (hE:gE sc env) (hR:Room n A) (hO:Ok C F s) (hV:EnvOk C F s env Γ)
  (k:∀(D cloc:Nat) F' s',Done (XL C) (xs.flatMap fun x=>((ys x).filter (ok x)).map (f x)) F F' s s' D cloc→UseK C A use Q D cloc s') :
  Wp C A (comprehension (.ListComp elt [⟨tgt,iter,[],0⟩,⟨tgt2,iter2,ifs2,0⟩] csc pos) csc env p (newList []) false (eval iter env) use) Q s:=by
 have e0:xs.foldl (fun a x=>a++((ys x).filter (ok x)).map (f x)) []=xs.flatMap fun x=>((ys x).filter (ok x)).map (f x):=by rw[foldl_flat];rfl
 refine comp_core (X:=XL C) (g:=⟨tgt,iter,[],0⟩) (ok:=fun J=>true) (obj0:=lObj [] 0) (inner:=fun it env D=>do
     let x ← eval iter2 env
     standAt iter2.pos
     let x ← foldedSetIterable iter2 env x
     let y ← holding [x] (pyIter x)
     let _ ← runOwn (.compStart (.ListComp elt [⟨tgt,iter,[],0⟩,⟨tgt2,iter2,ifs2,0⟩] csc pos) 1 y (.ref D) env) env
     again (.compLoop (.ListComp elt [⟨tgt,iter,[],0⟩,⟨tgt2,iter2,ifs2,0⟩] csc pos) 0 it (.ref D) env)) [] (fun a x=>a++((ys x).filter (ok x)).map (f x))
  rfl hset hco h.it hkeep (fun A Q s q=>newList_run q) rfl (fun F=>⟨[],0,rfl,.nil⟩) XL.mono (fun A cenv it D R s h0 h1=>start_list h0 h1)
  (fun it D cenv=>?_) (fun J J J J=>rfl) (fun J J J=>rfl) h.bind (fun x hx=>rfl) (fun x hx e a=>(nomatch e)) (fun A it cenv D hE' hR' x hx e a F s ⟨i,hi⟩ hS=>?_) hE hR hO hV (by rw[e0];exact k)
 ·show(compTurn (.ListComp elt [⟨tgt,iter,[],0⟩,⟨tgt2,iter2,ifs2,0⟩] csc pos) 0 it (.ref D) cenv).onRaise _=_
  rw[turn_2a]
 ·rw[foldl_flat] at hi
  have hlen:a.length+(((ys x).filter (ok x)).map (f x)).length≤4096:=by
   have h1:=congrArg List.length hi
   rw[List.length_append,List.length_append] at h1
   have h2:((xs.take i).flatMap fun x=>((ys x).filter (ok x)).map (f x)).length≤(xs.flatMap fun x=>((ys x).filter (ok x)).map (f x)).length:=by
    conv=>rhs;rw[← List.take_append_drop i xs,List.flatMap_append,List.length_append]
    exact Nat.le_add_right _ _
   simp only[List.length_nil] at h1
   lia
  have bt:=h.bind x hx
  refine Wp.bind ((h.it2 x hx cenv A F s hE' hR' hS.ok hS.eok).imp fun v s₁ h₁=>wpAny_bind (wpAny_standAt (wpAny_bind (wpAny_of_eq (hset2 cenv v) ?_))))
  refine Wp.bind (wpAny_holding (h₁.imp fun it2 s₂ hZ=>?_))
  obtain⟨F₂,S,g,st,src⟩:=hZ
  simp only[Bool.false_eq_true,if_false] at src
  have S₂:=hS.grow (XL.mono _) g
  have e1:(ys x).foldl (fun b y=>if ok x y then b++[f x y] else b) a=a++((ys x).filter (ok x)).map (f x):=foldl_filter _ _ _ _
  have run:=loop_run (n:=n) (c:=.compLoop (.ListComp elt [⟨tgt,iter,[],0⟩,⟨tgt2,iter2,ifs2,0⟩] csc pos) 1 it2 (.ref D) cenv) (g:=⟨tgt2,iter2,ifs2,0⟩) (it:=it2) (A:=A)
   (inner:=((do let _ ← call (.builtin "list.append") [.ref D,← eval elt cenv])>>=fun J=>again (.compLoop (.ListComp elt [⟨tgt,iter,[],0⟩,⟨tgt2,iter2,ifs2,0⟩] csc pos) 1 it2 (.ref D) cenv))) (X:=XL C) (ok:=ok x) (by
    show(compTurn (.ListComp elt [⟨tgt,iter,[],0⟩,⟨tgt2,iter2,ifs2,0⟩] csc pos) 1 it2 (.ref D) cenv).onRaise _=_
    rw[turn_2b]) rfl rfl hE' hR' XL.mono a (fun b y=>if ok x y then b++[f x y] else b) (h.bind2 x hx) (h.ifs x hx) (fun y hy e b=>by simp[e]) (fun y hy e b F' s' ⟨j,hj⟩ hS'=>by
     have hl:b.length≤sizeLine:=by
      simp only[e,if_true] at hj
      rw[foldl_filter] at hj
      have h1:=congrArg List.length hj
      simp only[List.length_append,List.length_cons,List.length_nil,List.length_map] at h1 hlen
      have h2:(((ys x).take j).filter (ok x)).length≤((ys x).filter (ok x)).length:=((List.take_sublist j (ys x)).filter (ok x)).length_le
      have h3:(4096:Nat)≤sizeLine:=by decide
      lia
     simp only[e,if_true]
     exact Wp.bind ((emit_run (h.elt x hx y hy e) hE' hR' hS' hl).imp fun J s' q=>wpAny_pure ⟨rfl,q⟩)) S₂ src st (Nat.le_refl _) (Nat.le_refl _) (fun b hb=>.inl (hS.live hb)) fun b hb=>.inl (hS.live (hb.elim .inl Own.rel))
  rw[e1] at run
  refine Wp.bind (wpAny_runOwn ?_)
  have post:∀(r:Result) s',(r=.ok .next∧Inn C csc cenv (Γ' x) D (XL C (a++((ys x).filter (ok x)).map (f x))) (exL csc cenv D s.heap.objs.size s₂.heap.objs.size) (exR s.gens.size s₂.gens.size) F₂ s₂ s') →
    (match r with | .ok _=>Wp C A (again (.compLoop (.ListComp elt [⟨tgt,iter,[],0⟩,⟨tgt2,iter2,ifs2,0⟩] csc pos) 0 it (.ref D) cenv)) (fun fin s'=>fin=.again (.compLoop (.ListComp elt [⟨tgt,iter,[],0⟩,⟨tgt2,iter2,ifs2,0⟩] csc pos) 0 it (.ref D) cenv)∧Inn C csc cenv (Γ' x) D (XL C (a++((ys x).filter (ok x)).map (f x))) (exD csc cenv D) exN F s s') s' | .error e=>cameBackBy (model C.prog C.w) A cenv (fun J J=>False) e s'):=by
   rintro r s' ⟨rfl,F',ch,S'⟩
   have g':Chg (fun b=>exD csc cenv D b∨s.heap.objs.size≤b) (fun i=>s.gens.size≤i) F F₂ s s₂:=.of g
   exact wpAny_pure ⟨rfl,.mk F' ((g'.trans ch (fun b J h=>h.elim (fun h=>.inl (.inl h)) fun h=>h.elim (fun h=>.inl (.inr h)) fun h=>.inr h.1) fun i J h=>h.1).weak (fun b hb h=>h.resolve_right (Nat.not_le.mpr hb)) fun i hi h=>absurd hi (Nat.not_lt.mpr h)) S'⟩
  exact start_list1 (codeAny_mono run post) (src.self 0 _ _ S₂.ok st (codeAny_mono run post))
theorem nw_comp2 {elt tgt iter tgt2 iter2:Expr}{ifs2:List Expr}{pos:Pos}{tup2:Bool}{β γ:Type}{xs:List β}{enc:β→List D}{Γ':β→Gm}{ys:β→List γ}{enc2:γ→List D}{Γ2:β→γ→Gm}{ok:β→γ→Bool}{f:β→γ→D}
  (h:C2 C n sc csc Γ Γc tup tup2 elt tgt iter tgt2 iter2 ifs2 xs enc Γ' ys enc2 Γ2 ok f) (hco:compOk sc csc=true) (hkeep:Keep csc Γ Γc)
  (hz:(xs.flatMap fun x=>((ys x).filter (ok x)).map (f x)).length≤4096) (hset:∀env x,foldedSetIterable iter env x=pure x) (hset2:∀env x,foldedSetIterable iter2 env x=pure x) :
  Nw C n sc Γ (.ListComp elt [⟨tgt,iter,[],0⟩,⟨tgt2,iter2,ifs2,0⟩] csc pos) (XL C (xs.flatMap fun x=>((ys x).filter (ok x)).map (f x))):=by
 intro env A F s hE hR hO hV
 rw[eval_ListComp]
 refine comp2_core (use:=none) h hco hkeep hset hset2 hz hE hR hO hV fun D cloc F' s' dn h' hs=>?_
 obtain⟨o,h1,h2⟩:=dn.acc
 exact⟨D,F',rfl,dn.g.but dn.nsF dn.nlo hs,⟨o,hs.extBut _ _ dn.ne h1,h2⟩,dn.accF,dn.lo⟩
theorem cm_comp2 {elt tgt iter tgt2 iter2:Expr}{ifs2:List Expr}{pos:Pos}{tup2:Bool}{β γ:Type}{xs:List β}{enc:β→List D}{Γ':β→Gm}{ys:β→List γ}{enc2:γ→List D}{Γ2:β→γ→Gm}{ok:β→γ→Bool}{f:β→γ→D}
  (h:C2 C n sc csc Γ Γc tup tup2 elt tgt iter tgt2 iter2 ifs2 xs enc Γ' ys enc2 Γ2 ok f) (hco:compOk sc csc=true) (hkeep:Keep csc Γ Γc)
  (hz:(xs.flatMap fun x=>((ys x).filter (ok x)).map (f x)).length≤4096) (hset:∀env x,foldedSetIterable iter env x=pure x) (hset2:∀env x,foldedSetIterable iter2 env x=pure x) :
  Cm C n sc Γ (.ListComp elt [⟨tgt,iter,[],0⟩,⟨tgt2,iter2,ifs2,0⟩] csc pos) (XL C (xs.flatMap fun x=>((ys x).filter (ok x)).map (f x))):=by
 intro env A F s hE hR hO hV u Q k
 rw[arm_evalThenUse_ListComp]
 refine Wp.bind (comp2_core (use:=some u) h hco hkeep hset hset2 hz hE hR hO hV fun D cloc F' s' dn=>?_)
 refine(k D cloc F' s' ⟨dn.g,dn.acc,dn.accF,dn.lo⟩ dn.ns dn.nsF dn.nlo dn.ne).imp fun _ s'' ⟨m,hn,q⟩=>⟨m,hn,fun h' hs=>wpAny_pure (q h' hs)⟩
end
end
section
inductive Kd where
 | l (ds:List D)
 | s (ks:List Str) (ds:List D)
 | i (ks:List Int) (ds:List D)
noncomputable def Kd.slot (a:Addr):Kd→Slot
 | .l ds=>.ml a ds
 | .s ks ds=>.mdS a ks ds
 | .i ks ds=>.mdI a ks ds
noncomputable def Kd.dat:Kd→D
 | .l ds=>.list ds
 | .s ks ds=>.dictS ks ds
 | .i ks ds=>.dictI ks ds
noncomputable def XD (C:Cx) {K:Type}[DecidableEq K] (knd:KeyKind C.prog C.w K) (ks:List K) (ds:List D) (F:FZ) (o:Obj):Prop:=∃es n vs,DPre knd o es n vs ks∧RA C F vs ds
theorem XD.mono {C:Cx}{K:Type}[DecidableEq K] {knd:KeyKind C.prog C.w K}{ks:List K}{ds:List D}:XMono (XD C knd ks ds):=fun F F' o h ⟨es,n,vs,a,r⟩=>⟨es,n,vs,a,r.mono h⟩
theorem XD.nocell {C:Cx}{K:Type}[DecidableEq K] {knd:KeyKind C.prog C.w K}{ks:List K}{ds:List D}:∀F o v,XD C knd ks ds F o→o.data≠.cell v:=fun F o v ⟨es,n,vs,a,r⟩ h=>by rw[a.is] at h;cases h
noncomputable def Kd.X (C:Cx):Kd→FZ→Obj→Prop
 | .l ds=>XL C ds
 | .s ks ds=>XD C (strKind C.prog C.w) ks ds
 | .i ks ds=>XD C (intKind C.prog C.w) ks ds
section
variable {C:Cx}{F F':FZ}{k:Kd}
theorem Kd.mono (k:Kd):XMono (k.X C):=by
 cases k with
 | l=>exact XL.mono _
 | s | i=>exact XD.mono
theorem Kd.nocell:∀F o v,k.X C F o→o.data≠.cell v:=by
 cases k with
 | l=>exact XL.nocell
 | s | i=>exact XD.nocell
theorem Kd.slotR {h:Heap}{a:Addr}{o:Obj}(hm:mainGlobals<a) (e:h.get? a=some o) (x:k.X C F o):SlotR C F h (.ref a) (k.slot a):=by
 cases k with
 | l=>obtain⟨vs,n,rfl,r⟩:=x;exact .ml e r
 | s=>obtain⟨es,n,vs,d,r⟩:=x;exact .mdS (d.at hm e) r
 | i=>obtain⟨es,n,vs,d,r⟩:=x;exact .mdI (d.at hm e) r
theorem Kd.frozen {a:Addr}{o:Obj}(hm:mainGlobals<a) (e:F a=some o) (x:k.X C F o):R C F (.ref a) k.dat:=by
 cases k with
 | l=>obtain⟨vs,n,rfl,r⟩:=x;exact .list e r
 | s=>obtain⟨es,n,vs,d,r⟩:=x;exact .dictS (d.at hm e) r
 | i=>obtain⟨es,n,vs,d,r⟩:=x;exact .dictI (d.at hm e) r
theorem Kd.inv {h:Heap}{a:Addr}{v:Value}(x:SlotR C F h v (k.slot a)):v=.ref a∧∃o,h.get? a=some o∧k.X C F o:=by
 cases k with
 | l=>obtain⟨e,vs,n,h,r⟩:=x.inv;exact⟨e,_,h,_,_,rfl,r⟩
 | s | i=>obtain⟨e,es,n,vs,h,r⟩:=x.inv;exact⟨e,_,h.is,_,_,_,h.pre,r⟩
theorem Kd.give {h:Heap}{a:Addr}{v:Value}{ob:Obj}(x:SlotR C F h v (k.slot a)) (hob:h.get? a=some ob) (hle:F.Le F') (hF:F' a=some ob):R C F' v k.dat:=by
 cases k with
 | l=>obtain⟨rfl,vs,n,e,r⟩:=x.inv;exact .list (hF.trans (hob.symm.trans e)) (r.mono hle)
 | s=>obtain⟨rfl,es,n,vs,e,r⟩:=x.inv;exact .dictS (e.to fun o ho=>hF.trans (hob.symm.trans ho)) (r.mono hle)
 | i=>obtain⟨rfl,es,n,vs,e,r⟩:=x.inv;exact .dictI (e.to fun o ho=>hF.trans (hob.symm.trans ho)) (r.mono hle)
theorem Kd.addr {a:Addr}:(k.slot a).addr=some a:=by cases k <;> rfl
theorem Ok.low {s:Shared}(h:Ok C F s):@LT.lt Nat _ mainGlobals s.heap.objs.size:=(C.g.keeps h.keep).lt
theorem ex_of_nwK {n:Nat}{sc:Scope}{Γ:Gm}{e:Expr}(h:Nw C n sc Γ e (k.X C)):Ex C n sc Γ e k.dat:=by
 intro env A F s hE hR hO hV
 refine(h env A F s hE hR hO hV).imp fun v s' hZ=>?_
 obtain⟨D,F',e,r⟩:=hZ
 obtain⟨o,h1,h2⟩:=r.acc
 rw[e]
 exact⟨F'.add D o,r.g.freeze r.lo r.accF h1,Kd.frozen (Nat.lt_of_lt_of_le hO.low r.lo) FZ.add_self (Kd.mono _ _ _ _ (FZ.le_add r.accF) h2)⟩
end
inductive Mut (x:Str) (sl sl':Slot):Gm→Gm→Prop
 | here {Γ}:Mut x sl sl' ((x,sl)::Γ) ((x,sl')::Γ)
 | there {p Γ Γ'}:Mut x sl sl' Γ Γ'→Mut x sl sl' (p::Γ) (p::Γ')
theorem Mut.mem {x:Str}{sl sl':Slot}{Γ Γ':Gm}(h:Mut x sl sl' Γ Γ'):(x,sl)∈Γ∧∀q∈Γ',q=(x,sl')∨q∈Γ:=by
 induction h with
 | here=>exact⟨List.mem_cons_self,fun q h=>(List.mem_cons.mp h).imp id (List.mem_cons_of_mem _)⟩
 | there _ ih=>exact⟨List.mem_cons_of_mem _ ih.1,fun q h=>by
   rcases List.mem_cons.mp h with rfl | h
   ·exact .inr List.mem_cons_self
   ·exact(ih.2 q h).imp id (List.mem_cons_of_mem _)⟩
theorem Mut.apart {x:Str}{sl sl':Slot}{a:Addr}{Γ Γ':Gm}(h:Mut x sl sl' Γ Γ') (ha:sl.addr=some a) (hp:Γ.Pairwise fun p q=>∀a,p.2.addr=some a→q.2.addr≠some a) :
  ∀q∈Γ',q=(x,sl')∨(q∈Γ∧q.2.addr≠some a):=by
 induction h with
 | here=>
  obtain⟨h1,h2⟩:=List.pairwise_cons.mp hp
  exact fun q hq=>(List.mem_cons.mp hq).imp id fun hq=>⟨List.mem_cons_of_mem _ hq,h1 q hq a ha⟩
 | there hm ih=>
  obtain⟨h1,h2⟩:=List.pairwise_cons.mp hp
  exact fun q hq=>by
   rcases List.mem_cons.mp hq with rfl | hq
   ·exact .inr ⟨List.mem_cons_self,fun e=>h1 _ hm.mem.1 a e ha⟩
   ·exact(ih h2 q hq).imp id fun⟨h3,h4⟩=>⟨List.mem_cons_of_mem _ h3,h4⟩
theorem Mut.pairwise {x:Str}{sl sl':Slot}{Γ Γ':Gm}(h:Mut x sl sl' Γ Γ') (ha:sl'.addr=sl.addr∨sl'.addr=none) (hp:Γ.Pairwise fun p q=>∀a,p.2.addr=some a→q.2.addr≠some a):Γ'.Pairwise fun p q=>∀a,p.2.addr=some a→q.2.addr≠some a:=by
 induction h with
 | here=>
  obtain⟨h1,h2⟩:=List.pairwise_cons.mp hp
  refine List.pairwise_cons.mpr ⟨fun q hq b hb=>?_,h2⟩
  dsimp only at hb
  rcases ha with h | h
  ·exact h1 q hq b (h▸hb)
  ·rw[h] at hb;cases hb
 | there hm ih=>
  obtain⟨h1,h2⟩:=List.pairwise_cons.mp hp
  refine List.pairwise_cons.mpr ⟨fun q hq b hb=>?_,ih h2⟩
  rcases hm.mem.2 q hq with rfl | hq'
  ·dsimp only
   rcases ha with h | h
   ·rw[h];exact h1 _ hm.mem.1 b hb
   ·rw[h];exact fun e=>nomatch e
  ·exact h1 q hq' b hb
section
variable {C:Cx}{n:Nat}{sc:Scope}{Γ Γ':Gm}{o:Out}{rest:List Stmt}{ex exg:Nat→Prop}{env:Env}{F:FZ}{s:Shared}
theorem St.mut {x:Str}{sl sl':Slot}{a:Nat}(X:St C sc ex exg env Γ F s) (hm:Mut x sl sl' Γ Γ') (ha:sl.addr=some a) (ha':sl'.addr=some a) {ob:Obj}(hob:s.heap.get? a=some ob) (hnc:∀v,ob.data≠.cell v)
  {h':Heap} {tk:Nat} (hs:Heap.SameBut a s.heap h') (hlive:∃ob',h'.get? a=some ob') (hr:∀v,SlotR C F s.heap v sl→SlotR C F h' v sl') (ht:autoParam (s.toks≤tk) ler):St C sc ex exg env Γ' F { s with heap:=h',toks:=tk }:=by
 obtain⟨hF,hex,hlt,hown⟩:=X.own _ hm.mem.1 a ha
 have hl:env.locals≠a:=fun e=>hown (.inl e.symm)
 have hcell:∀{c:Nat} {v},s.heap.IsCell c v→c≠a:=fun {c v} ⟨o₂,h3,h4⟩ e=>by rw[e,hob] at h3;cases h3;exact hnc _ h4
 have hvar:∀{y v},VarAt env s.heap y v→VarAt env h' y v:=fun {y v} h3=>by
  rcases h3 with ⟨a,m',b,c⟩ | ⟨a,c,b,d⟩
  ·exact .inl ⟨a,m',b.sameBut hs hl,c⟩
  ·exact .inr ⟨a,c,b,d.sameBut hs (hcell d)⟩
 refine⟨⟨fun b o e=>hs.extBut b o (fun q=>by rw[q,hF] at e;cases e) (X.ok.inn b o e),X.ok.base,Nat.le_trans X.ok.tok ht⟩,⟨fun p hp hv=>?_,fun y c e=>?_⟩,⟨X.wf.kind,X.wf.kl,X.wf.kc,?_,X.wf.nsF,fun y hy=>?_,X.wf.apart⟩,X.lo,fun p hp b hb=>?_,
  hm.pairwise (.inl (ha'.trans ha.symm)) X.apart,by show ∀b:Nat,h'.objs.size≤b→ex b;rw[hs.1];exact X.base,X.gbase⟩
 ·rcases hm.apart ha X.apart p hp with rfl | ⟨hp',hne⟩
  ·obtain⟨v,h3,h4⟩:=X.eok.var _ hm.mem.1 hv
   exact⟨v,hvar h3,hr v h4⟩
  ·obtain⟨v,h3,h4⟩:=X.eok.var p hp' hv
   exact⟨v,hvar h3,h4.keep (.refl _) fun b hb o e=>hs.extBut b o (fun q=>hne (q▸hb)) e⟩
 ·obtain⟨o₂,h3⟩:=X.eok.low y c e
  by_cases q:c=a
  ·obtain⟨o',ho'⟩:=hlive;exact⟨o',by rw[q];exact ho'⟩
  ·exact⟨o₂,hs.extBut c o₂ q h3⟩
 ·obtain⟨m,hn⟩:=X.wf.ns;exact⟨m,hn.sameBut hs hl⟩
 ·obtain⟨c,v,h3,h4,h6⟩:=X.wf.cell y hy
  exact⟨c,v,h3,h4.sameBut hs (hcell h4),h6⟩
 ·rcases hm.mem.2 p hp with rfl | hp'
  ·rw[ha'] at hb;cases hb
   exact⟨hF,hex,by show a<h'.objs.size;rw[hs.1];exact hlt,hown⟩
  ·obtain⟨h1,h2,h3,h4⟩:=X.own p hp' b hb
   exact⟨h1,h2,by show b<h'.objs.size;rw[hs.1];exact h3,h4⟩
theorem GrowX.mut {a:Nat}(hex:ex a) {h':Heap}{tk:Nat}(hs:Heap.SameBut a s.heap h') (ht:autoParam (s.toks≤tk) ler):GrowX ex exg F F s { s with heap:=h',toks:=tk }:=
 ⟨.refl _,fun J J=>rfl,fun b o hb e=>hs.extBut b o (fun q=>hb (by rw[q];exact hex)) e,Nat.le_of_eq hs.1.symm,rfl,fun J J J e=>e,Nat.le_refl _,id,ht⟩
theorem St.freeze {x:Str}{sl:Slot}{d:D}{a:Nat}(X:St C sc ex exg env Γ F s) (hm:Mut x sl (.imm d) Γ Γ') (ha:sl.addr=some a) {ob:Obj}(hob:s.heap.get? a=some ob)
  (hr:∀v,SlotR C F s.heap v sl→R C (F.add a ob) v d):GrowX ex exg F (F.add a ob) s s∧St C sc ex exg env Γ' (F.add a ob) s:=by
 obtain⟨hF,hex,hlt,hown⟩:=X.own _ hm.mem.1 a ha
 have hle:F.Le (F.add a ob):=FZ.le_add hF
 have hne:∀b:Nat,b≠a→F.add a ob b=F b:=fun b h=>by show(if b=a then some ob else F b)=F b;rw[if_neg h]
 refine⟨⟨hle,fun b hb=>hne b fun q=>hb (by rw[q];exact hex),fun J J J e=>e,Nat.le_refl _,rfl,fun J J J e=>e,Nat.le_refl _,id,Nat.le_refl _⟩,⟨fun b o e=>?_,fun b o e=>hle _ _ (X.ok.base b o e),X.ok.tok⟩,⟨fun p hp hv=>?_,X.eok.low⟩,
  ⟨X.wf.kind,X.wf.kl,X.wf.kc,X.wf.ns,(hne _ fun q=>hown (.inl q.symm)).trans X.wf.nsF,fun y hy=>?_,X.wf.apart⟩,X.lo,fun p hp b hb=>?_,hm.pairwise (.inr rfl) X.apart,X.base,X.gbase⟩
 ·by_cases q:b=a
  ·subst q;rw[FZ.add_self] at e;cases e;exact hob
  ·rw[hne b q] at e;exact X.ok.inn b o e
 ·rcases hm.apart ha X.apart p hp with rfl | ⟨hp',_⟩
  ·obtain⟨v,h3,h4⟩:=X.eok.var _ hm.mem.1 hv
   exact⟨v,h3,.imm (hr v h4)⟩
  ·obtain⟨v,h3,h4⟩:=X.eok.var p hp' hv
   exact⟨v,h3,h4.keep hle fun b J o e=>e⟩
 ·obtain⟨c,v,h3,h4,h6⟩:=X.wf.cell y hy
  exact⟨c,v,h3,h4,(hne c fun q=>hown (.inr ⟨y,hy,q▸h3⟩)).trans h6⟩
 ·rcases hm.apart ha X.apart p hp with rfl | ⟨hp',hn'⟩
  ·cases hb
  ·obtain⟨h1,h2,h3,h4⟩:=X.own p hp' b hb
   exact⟨(hne b fun q=>hn' (q▸hb)).trans h1,h2,h3,h4⟩
theorem run_freeze {x:Str}{k:Kd}{a:Addr}{body:List Stmt}(hm:Mut x (k.slot a) (.imm k.dat) Γ Γ') (hv:vis sc x=true) (h:Run C n sc Γ' body o):Run C n sc Γ body o:=by
 intro env A F s ex exg hE hR hX
 obtain⟨v,_,h2⟩:=hX.eok.var _ hm.mem.1 (by rw[hE.scope];exact hv)
 obtain⟨_,ob,h3,_⟩:=Kd.inv h2
 obtain⟨g,X'⟩:=hX.freeze hm Kd.addr h3 fun v hv'=>Kd.give hv' h3 (FZ.le_add (hX.own _ hm.mem.1 a Kd.addr).1) FZ.add_self
 exact(h env A _ s ex exg hE hR X').imp fun J J q=>q.up g
theorem run_freezeL {x:Str}{ds:List D}{a:Addr}{body:List Stmt}(hm:Mut x (.ml a ds) (.imm (.list ds)) Γ Γ') (h:Run C n sc Γ' body o) (hv:autoParam (vis sc x=true) kr):Run C n sc Γ body o:=run_freeze (k:=.l ds) hm hv h
theorem run_freezeS {x:Str}{ks:List Str}{ds:List D}{a:Addr}{body:List Stmt}(hm:Mut x (.mdS a ks ds) (.imm (.dictS ks ds)) Γ Γ') (h:Run C n sc Γ' body o) (hv:autoParam (vis sc x=true) kr):Run C n sc Γ body o:=run_freeze (k:=.s ks ds) hm hv h
theorem run_freezeI {x:Str}{ks:List Int}{ds:List D}{a:Addr}{body:List Stmt}(hm:Mut x (.mdI a ks ds) (.imm (.dictI ks ds)) Γ Γ') (h:Run C n sc Γ' body o) (hv:autoParam (vis sc x=true) kr):Run C n sc Γ body o:=run_freeze (k:=.i ks ds) hm hv h
theorem St.storedK {s':Shared}{x:Str}{a:Nat}{k:Kd}(X:St C sc ex exg env Γ F s) (z:Stored sc env x (.ref a) s s') (W':EnvWf sc env F s') (hs:Γ'.Sublist Γ) (hx:∀p∈Γ',p.1≠x)
  {ob:Obj} (hob:s.heap.get? a=some ob) (hk:k.X C F ob) (hm:mainGlobals<a) (hF:F a=none) (hex:ex a) (hown:¬Own sc env a) (hap:∀p∈Γ',p.2.addr≠some a):St C sc ex exg env ((x,k.slot a)::Γ') F s':=by
 have hob':s'.heap.get? a=some ob:=(z.keep a hown).trans hob
 refine⟨X.ok.stored X.wf z,⟨fun p hp hv=>?_,fun y c e=>let ⟨o,ho⟩:=X.eok.low y c e;z.live c o ho⟩,W',X.lo,fun p hp b hb=>?_,List.pairwise_cons.mpr ⟨fun q hq b hb e=>?_,X.apart.sublist hs⟩,by rw[z.size];exact X.base,by rw[z.gens];exact X.gbase⟩
 ·rcases List.mem_cons.mp hp with rfl | hp
  ·exact⟨_,z.at_,Kd.slotR hm hob' hk⟩
  ·obtain⟨w,h3,h4⟩:=X.eok.var p (hs.subset hp) hv
   exact⟨w,z.other _ _ (hx p hp) h3,h4.keep (.refl _) fun b hb o e=>(z.keep b (X.own p (hs.subset hp) b hb).2.2.2).trans e⟩
 ·rcases List.mem_cons.mp hp with rfl | hp
  ·rw[Kd.addr] at hb;cases hb
   exact⟨hF,hex,by rw[z.size];exact Heap.lt_size hob,hown⟩
  ·rw[z.size];exact X.own p (hs.subset hp) b hb
 ·rw[Kd.addr] at hb;cases hb;exact hap q hq e
theorem run_new {x:Str}{p pos:Pos}{e:Expr}{k:Kd}(h:Nw C n sc Γ e (k.X C)) (hd:Drop x Γ Γ') (kk:∀a,Run C n sc ((x,k.slot a)::Γ') rest o)
  (hw:∀env,gE sc env→swapsWith e (some (.Name x p)) pos.line env=pure false) (hst:sto sc x=true):Run C n sc Γ (.Assign [.Name x p] e pos::rest) o:=by
 intro env A F s ex exg hE hR hX
 refine wpAny_execs_cons (wpAny_Assign_Name ((h env A F s hE hR hX.ok hX.eok).imp fun v s₁ ⟨a,F₁,e1,r⟩=>?_) (hw env hE))
 subst e1
 obtain⟨ob,hob,hk⟩:=r.acc
 have X₁:=hX.grow r.g
 have hown:¬Own sc env a:=fun q=>by have:=(hX.wf.ownF q).2;exact absurd this (Nat.not_lt.mpr r.lo)
 refine store_name X₁.wf hst fun s' z W'=>?_
 have X':=X₁.storedK z W' hd.sub.1 hd.sub.2 hob hk (Nat.lt_of_lt_of_le hX.ok.low r.lo) r.accF (hX.base a r.lo) hown fun q hq e=>by
  have:=(hX.own q (hd.sub.1.subset hq) a e).2.2.1;exact absurd this (Nat.not_lt.mpr r.lo)
 exact(kk a env A F₁ s' ex exg hE hR X').imp fun J J q=>q.up ((GrowX.of r.g hX.base).trans (.stored z hX.lo))
theorem run_newL {x:Str}{p pos:Pos}{e:Expr}{ds:List D}(h:Nw C n sc Γ e (XL C ds)) (hd:Drop x Γ Γ') (kk:∀a,Run C n sc ((x,.ml a ds)::Γ') rest o)
  (hw:autoParam (∀env,gE sc env→swapsWith e (some (.Name x p)) pos.line env=pure false) i2) (hst:autoParam (sto sc x=true) kr):Run C n sc Γ (.Assign [.Name x p] e pos::rest) o:=run_new (k:=.l ds) h hd kk hw hst
theorem St.but {c:Nat}(X:St C sc ex exg env Γ F s) (hF:F c=none) (hown:¬Own sc env c) (hcell:∀x a,env.cells.lookup x=some a→a≠c) (hslot:∀p∈Γ,p.2.addr≠some c) {h':Heap}(hs:Heap.SameBut c s.heap h'):St C sc ex exg env Γ F { s with heap:=h' }:=by
 have hl:env.locals≠c:=fun e=>hown (.inl e.symm)
 refine⟨⟨fun b o e=>hs.extBut b o (fun q=>by rw[q,hF] at e;cases e) (X.ok.inn b o e),X.ok.base,X.ok.tok⟩,⟨fun p hp hv=>?_,fun y a e=>let ⟨o,ho⟩:=X.eok.low y a e;⟨o,hs.extBut a o (hcell y a e) ho⟩⟩,
  ⟨X.wf.kind,X.wf.kl,X.wf.kc,?_,X.wf.nsF,fun y hy=>?_,X.wf.apart⟩,X.lo,fun p hp b hb=>?_,X.apart,by show ∀b:Nat,h'.objs.size≤b→ex b;rw[hs.1];exact X.base,X.gbase⟩
 ·obtain⟨v,h3,h4⟩:=X.eok.var p hp hv
  refine⟨v,?_,h4.keep (.refl _) fun b hb o e=>hs.extBut b o (fun q=>hslot p hp (q▸hb)) e⟩
  rcases h3 with ⟨a,m',b,e⟩ | ⟨a,c',b,d⟩
  ·exact .inl ⟨a,m',b.sameBut hs hl,e⟩
  ·exact .inr ⟨a,c',b,d.sameBut hs (hcell _ _ b)⟩
 ·obtain⟨m,hn⟩:=X.wf.ns;exact⟨m,hn.sameBut hs hl⟩
 ·obtain⟨a,v,h3,h4,h6⟩:=X.wf.cell y hy
  exact⟨a,v,h3,h4.sameBut hs (hcell _ _ h3),h6⟩
 ·obtain⟨h1,h2,h3,h4⟩:=X.own p hp b hb
  exact⟨h1,h2,by show b<h'.objs.size;rw[hs.1];exact h3,h4⟩
theorem run_cmM {x:Str}{p pos:Pos}{e:Expr}{k:Kd}(h:Cm C n sc Γ e (k.X C)) (hd:Drop x Γ Γ') (kk:∀a,Run C n sc ((x,k.slot a)::Γ') rest o)
  (hw:∀env,gE sc env→swapsWith e (some (.Name x p)) pos.line env=pure true) (hst:sto sc x=true):Run C n sc Γ (.Assign [.Name x p] e pos::rest) o:=by
 intro env A F s ex exg hE hR hX
 refine wpAny_execs_cons ?_
 rw[exec_Assign_Name_used _ _ _ _ (hw env hE)]
 refine wpAny_bind (wpAny_standAt (Wp.bind (h env A F s hE hR hX.ok hX.eok _ _ fun a cloc F₁ s₁ r hns hcF hclo hne=>?_)))
 obtain⟨ob,hob,hk⟩:=r.acc
 have X₁:=hX.grow r.g
 have hown:∀b:Nat,s.heap.objs.size≤b→¬Own sc env b:=fun b hb q=>by have:=(hX.wf.ownF q).2;exact absurd this (Nat.not_lt.mpr hb)
 refine wpAny_assign_Name (store_name X₁.wf hst fun s' z W'=>?_)
 have hslot:∀b:Nat,s.heap.objs.size≤b→∀q∈Γ',q.2.addr≠some b:=fun b hb q hq e=>by
  have:=(hX.own q (hd.sub.1.subset hq) b e).2.2.1;exact absurd this (Nat.not_lt.mpr hb)
 have X':=X₁.storedK z W' hd.sub.1 hd.sub.2 hob hk (Nat.lt_of_lt_of_le hX.ok.low r.lo) r.accF (hX.base a r.lo) (hown a r.lo) (hslot a r.lo)
 obtain⟨m,hn⟩:=hns
 obtain⟨on,es,ep,hon,hrest⟩:=id hn
 refine⟨m,⟨on,es,ep,(z.keep cloc (hown cloc hclo)).trans hon,hrest⟩,fun h' hs=>wpAny_pure ?_⟩
 have X'':=X'.but hcF (hown cloc hclo) (fun y c e q=>by
  obtain⟨o,ho⟩:=hX.eok.low y c e
  have:=Heap.lt_size ho
  rw[q] at this
  exact absurd this (Nat.not_lt.mpr hclo)) (fun q hq=>by
   rcases List.mem_cons.mp hq with rfl | hq
   ·rw[Kd.addr];exact fun e=>hne (Option.some.inj e)
   ·exact hslot cloc hclo q hq) hs
 have g:GrowX ex exg F F₁ s { s' with heap:=h' }:=((GrowX.of r.g hX.base).trans (.stored z hX.lo)).trans (GrowX.mut (tk:=s'.toks) (hX.base cloc hclo) hs)
 exact(kk a env A F₁ _ ex exg hE hR X'').imp fun J J q=>q.up g
theorem run_cmL {x:Str}{p pos:Pos}{e:Expr}{ds:List D}(h:Cm C n sc Γ e (XL C ds)) (hd:Drop x Γ Γ') (kk:∀a,Run C n sc ((x,.ml a ds)::Γ') rest o)
  (hw:∀env,gE sc env→swapsWith e (some (.Name x p)) pos.line env=pure true) (hst:autoParam (sto sc x=true) kr):Run C n sc Γ (.Assign [.Name x p] e pos::rest) o:=run_cmM (k:=.l ds) h hd kk hw hst
theorem run_cm {x:Str}{p pos:Pos}{e:Expr}{ds:List D}(h:Cm C n sc Γ e (XL C ds)) (hd:Drop x Γ Γ') (kk:Run C n sc ((x,.imm (.list ds))::Γ') rest o)
  (hw:∀env,gE sc env→swapsWith e (some (.Name x p)) pos.line env=pure true) (hst:autoParam (sto sc x=true) kr) (hv:autoParam (vis sc x=true) kr):Run C n sc Γ (.Assign [.Name x p] e pos::rest) o:=
 run_cmL h hd (fun a=>run_freezeL .here kk hv) hw hst
theorem swaps_comp {elt:Expr}{gens:List Comprehension}{csc:Scope}{cp:Pos}{x:Str}{p:Pos}{line:Nat}(h1:sc.kind=.function) (h2:sc.names.lookup x=some .local) (h3:(p.line==cp.line&&!(csc.names.any fun q=>q.1==x&&(q.2==.local||q.2==.cell)))=true) :
  ∀env,gE sc env→swapsWith (.ListComp elt gens csc cp) (some (.Name x p)) line env=pure true:=fun env hE=>by
 unfold swapsWith
 show pure (env.blockKind==.function&&env.kindOf x==some .local&&p.line==cp.line&&!(csc.names.any fun(n,k)=>n==x&&(k==.local||k==.cell)))=_
 have e1:env.blockKind=.function:=by unfold Env.blockKind;rw[hE.scope,h1];rfl
 have e2:env.kindOf x=some .local:=by show env.scope.names.lookup x=_;rw[hE.scope];exact h2
 rw[e1,e2]
 simp only[Bool.and_eq_true] at h3
 rw[h3.1]
 show pure (true&&true&&true&&_)=_
 simpa using congrArg pure h3.2
end
end
local macro_rules | `(tactic| walk_at "u")=>`(tactic| (with_reducible repeat' (first | exact Mut.here | apply Mut.there)))
section
section
variable {C:Cx}{n:Nat}{sc:Scope}{Γ Γ':Gm}{o:Out}{rest:List Stmt}{ex exg ex' exg':Nat→Prop}{env:Env}{F:FZ}{s:Shared}{A:Around}
theorem bind_setters {fs:List (Value→Sem Unit)}{xs:List Str}(h:Setters C env fs xs) {vs:List Value}{ds:List D}(hr:RA C F vs ds) (hd:xs.length=ds.length) (ha:(xs.all fun x=>sto sc x&&freshIn x Γ)=true) (hn:xs.Nodup) (hS:St C sc ex exg env Γ F s) :
  Wp C A (assignInOrder fs vs) (fun J s'=>GrowX ex exg F F s s'∧St C sc ex exg env (bindsG xs ds Γ) F s') s:=
 set_all (P:=fun Γ s'=>GrowX ex exg F F s s'∧St C sc ex exg env Γ F s') (fun k1 k2 r S=>store_name S.2.wf k1 fun s₁ z W'=>⟨S.1.trans (.stored z S.2.lo),S.2.stored z W' r (List.Sublist.refl _) (freshIn_ne k2)⟩) h hr hd ha hn ⟨.refl,hS⟩
theorem unpack_run {T:Addr}{vs:List Value}{k:Nat}(hh:A.handled=none) (hT:s.heap.IsTuple T vs.toArray) (hk:k=vs.length) (hi:F.In s.heap):Wp C A (unpackItems (.ref T) k none) (fun items s'=>items=vs∧Grow F F s s') s:=by
 subst hk
 have e:vs.length=vs.toArray.size:=by simp
 rw[e]
 refine Wp.up (wpAny_unpackItems_tuple hh hT fun h' he up=>⟨by simp,?_⟩)
 exact .same (tk:=s.toks) hi (fun b o e=>he b o (Nat.ne_of_lt (Heap.lt_size e)) e) up.h
theorem bind_st {tgt:Expr}{tup:Bool}{row:List D}(hb:BindT sc tgt tup row Γ Γ') {v:Value}(hh:A.handled=none) (hS:St C sc ex exg env Γ F s)
  (hv:if tup then Unp C F s v row else ∃d,row=[d]∧R C F v d):Wp C A (assign tgt env v) (fun J s'=>GrowX ex exg F F s s'∧St C sc ex exg env Γ' F s') s:=by
 refine bind_elim (P:=fun tgt Γ'=>Wp C A (assign tgt env v) (fun J s'=>GrowX ex exg F F s s'∧St C sc ex exg env Γ' F s') s) hb hv (fun x p d h1 h2 hr=>?_) fun es k p xs ds h1 h2 h3 h4 hu=>?_
 ·exact wpAny_assign_Name (store_name hS.wf h1 fun s₁ z W'=>⟨.stored z hS.lo,hS.stored z W' hr (List.Sublist.refl _) (freshIn_ne h2)⟩)
 ·obtain⟨T,vs,rfl,hT,hr⟩:=hu
  obtain⟨h5,h6,h7⟩:=names_set (C:=C) (env:=env) h1
  rw[arm_assign_Tuple]
  refine wpAny_bind (wpAny_standAt ?_)
  unfold unpack
  rw[h7]
  refine Wp.bind (wpAny_holding ((unpack_run (F:=F) hh hT (by rw[h6,h2,hr.length]) hS.ok.inn).imp fun items s₁ hZ=>?_))
  obtain⟨e,g⟩:=hZ
  rw[e]
  exact(bind_setters h5 hr h2 h3 h4 (hS.grow g)).imp fun _ s' ⟨c,S'⟩=>⟨(GrowX.of g hS.base).trans c,S'⟩
theorem st_tuple {es:List Expr}{k:Nat}{tp pos:Pos}{e:Expr}{xs:List Str}{ds:List D}(he:Ex C n sc Γ e (.tuple ds)) (hn:Names es xs) (hl:xs.length=ds.length) (hd:Γ'.Sublist Γ) (hf:(xs.all fun x=>sto sc x&&freshIn x Γ')=true) (hnd:xs.Nodup)
  (hw:∀env,gE sc env→swappedStores [.Tuple es k tp] e env=pure none) (hs:∀env,swapsWithSole [.Tuple es k tp] e pos.line env=pure false):Step C n sc Γ (.Assign [.Tuple es k tp] e pos) (.next (bindsG xs ds Γ')):=by
 intro env A F s ex exg hE hR hX
 refine Assign_Tuple ((he env A F s hE hR hX.ok hX.eok).imp fun v s₁ ⟨F₁,g,r⟩=>?_) (hs env) (hw env hE)
 have X₁:=(hX.grow g).sub hd
 refine(bind_st (.tup hn hl hf hnd) hR.handled X₁ (by simpa using FZ.tuple_keep X₁.ok.inn r)).imp fun _ s' ⟨c,S'⟩=>⟨rfl,F₁,(GrowX.of g hX.base).trans c,S'⟩
theorem st_tupleS {es:List Expr}{k:Nat}{tp pos:Pos}{e:Expr}{xs:List Str}{ds:List D}(he:Ex C n sc Γ e (.tuple ds)) (hl:xs.length=ds.length) (hd:Γ'.Sublist Γ) (hf:(xs.reverse.all fun x=>sto sc x&&freshIn x Γ')=true) (hnd:xs.reverse.Nodup)
  (hw:∀env,gE sc env→swappedStores [.Tuple es k tp] e env=pure (some xs)) (hs:∀env,swapsWithSole [.Tuple es k tp] e pos.line env=pure false):Step C n sc Γ (.Assign [.Tuple es k tp] e pos) (.next (bindsG xs.reverse ds.reverse Γ')):=by
 intro env A F s ex exg hE hR hX
 refine Assign_Tuple_swapped ((he env A F s hE hR hX.ok hX.eok).imp fun v s₁ ⟨F₁,g,r⟩=>?_) (hs env) (hw env hE)
 have X₁:=(hX.grow g).sub hd
 obtain⟨T,vs,rfl,hT,hr⟩:=FZ.tuple_keep X₁.ok.inn r
 refine(unpack_run (F:=F₁) hR.handled hT (by rw[hl,hr.length]) X₁.ok.inn).imp fun items s₂ hZ=>?_
 obtain⟨e,g₂⟩:=hZ
 subst e
 have X₂:=X₁.grow g₂
 exact(bind_setters (setters_bind xs.reverse) hr.reverse (by simp[hl]) hf hnd X₂).imp fun _ s' ⟨c,S'⟩=>⟨rfl,F₁,((GrowX.of g hX.base).trans (GrowX.of g₂ X₁.base)).trans c,S'⟩
theorem St.weak (X:St C sc ex exg env Γ F s) (h:∀b,ex b→ex' b) (hg:∀i,exg i→exg' i):St C sc ex' exg' env Γ F s:=
 ⟨X.ok,X.eok,X.wf,fun b hb=>h b (X.lo b hb),fun p hp a ha=>let ⟨h1,h2,h3⟩:=X.own p hp a ha;⟨h1,h a h2,h3⟩,X.apart,fun b hb=>h b (X.base b hb),fun i hi=>hg i (X.gbase i hi)⟩
theorem St.moves {s':Shared}{lo hi glo ghi:Nat}(X:St C sc ex exg env Γ F s) (m:Moves F lo hi glo ghi s s') (u:Up s s') (hex:∀b,ex b→b<lo∨hi≤b) (hc:∀x (c:Nat),env.cells.lookup x=some c→c<lo∨hi≤c):St C sc ex exg env Γ F s':=by
 have kl:∀o,s.heap.get? env.locals=some o→s'.heap.get? env.locals=some o:=fun o e=>m.keep _ o (hex _ (X.lo _ (.inl rfl))) e
 have kc:∀y a,env.cells.lookup y=some a→∀o,s.heap.get? a=some o→s'.heap.get? a=some o:=fun y a h o e=>m.keep _ o (hc y a h) e
 refine⟨⟨m.inn X.ok.inn,X.ok.base,Nat.le_trans X.ok.tok u.t⟩,⟨fun p hp hv=>?_,fun y a e=>let ⟨o,ho⟩:=X.eok.low y a e;⟨o,kc y a e o ho⟩⟩,⟨X.wf.kind,X.wf.kl,X.wf.kc,?_,X.wf.nsF,fun y hy=>?_,X.wf.apart⟩,X.lo,fun p hp a ha=>?_,X.apart,
  fun b hb=>X.base b (Nat.le_trans u.h hb),fun i hi=>X.gbase i (Nat.le_trans u.g hi)⟩
 ·obtain⟨v,h3,h4⟩:=X.eok.var p hp hv
  exact⟨v,h3.keep' kl kc,h4.keep (.refl _) fun a ha o e=>m.keep a o (hex a (X.own p hp a ha).2.1) e⟩
 ·obtain⟨mm,hns⟩:=X.wf.ns;exact⟨mm,hns.at' kl⟩
 ·obtain⟨a,v,h3,⟨o',h4,h5⟩,h6⟩:=X.wf.cell y hy
  exact⟨a,v,h3,⟨o',kc _ _ h3 o' h4,h5⟩,h6⟩
 ·obtain⟨h1,h2,h3,h4⟩:=X.own p hp a ha
  exact⟨h1,h2,Nat.lt_of_lt_of_le h3 u.h,h4⟩
noncomputable def forOut {α β:Type}(step:α→β→α) (r:α→β→Option D):α→List β→α ⊕ D
 | a,[]=>.inl a
 | a,x::xs=>match r a x with
  | some d=>.inr d
  | none=>forOut step r (step a x) xs
theorem forOut_cons {α β:Type}{step:α→β→α}{r:α→β→Option D}{a:α}{x:β}{xs:List β}:forOut step r a (x::xs)=match r a x with
  | some d=>.inr d
  | none=>forOut step r (step a x) xs:=rfl
noncomputable def Out.of {α:Type}(I:α→Gm):α ⊕ D→Out
 | .inl a=>.next (I a)
 | .inr d=>.ret d
inductive ForI (C:Cx) (sc:Scope) (ex exg ex' exg':Nat→Prop) (env:Env) (Γ:Gm) (lo hi:Nat) (F:FZ) (s s':Shared):Prop
 | mk (F':FZ) (gx:GrowX ex exg F F' s s') (fr:∀a:Nat,lo≤a→a<hi→F' a=F a) (X:St C sc ex' exg' env Γ F' s')
theorem for_turns {tgt:Expr}{body:List Stmt}{tup:Bool}{α β:Type}{xs:List β}{enc:β→List D}(I:α→Gm) (a₀:α) (step:α→β→α) (r:α→β→Option D) {Γb:α→β→Gm}{lo hi glo ghi:Nat}{it:Value}{S:Nat→Shared→Prop}{R:Result→Shared→Prop}
  (hb:∀a x,x∈xs→BindT sc tgt tup (enc x) (I a) (Γb a x)) (hrun:∀i x,xs[i]?=some x→Run C n sc (Γb ((xs.take i).foldl step a₀) x) body (match r ((xs.take i).foldl step a₀) x with | some d=>.ret d | none=>.next (I ((xs.take (i+1)).foldl step a₀))))
  (hE:gE sc env) (hR:Room n A) (sub:∀b,ex' b→ex b) (subg:∀b,exg' b→exg b) (out:∀b,ex' b→b<lo∨hi≤b) (outg:∀b,exg' b→b<glo∨ghi≤b) (base:∀b:Nat,lo≤b→ex b) (baseg:∀b:Nat,glo≤b→exg b) (hcell:∀x (c:Nat),env.cells.lookup x=some c→c<lo∨hi≤c)
  (X:St C sc ex' exg' env (I a₀) F s) (src:Src C A tup it (xs.map enc) F lo lo hi glo ghi S) (st:S 0 s) (hhi:hi≤s.heap.objs.size) (hghi:ghi≤s.gens.size) (hRx:∀f s',OutR C sc ex exg env F s (Out.of I (forOut step r a₀ xs)) f s'→R (.ok f) s') :
  codeAny (model C.prog C.w) A (.forLoop tgt it body [] env) R s:=by
 obtain⟨P,hP⟩:∃P:Nat→Shared→Prop,∀i s',P i s'↔ForI C sc ex exg ex' exg' env (I ((xs.take i).foldl step a₀)) lo hi F s s'∧S i s'∧forOut step r a₀ xs=forOut step r ((xs.take i).foldl step a₀) (xs.drop i):=⟨_,fun J J=>Iff.rfl⟩
 refine codeAny_forLoop_any (Turn P xs.length) ?_ xs.length (.mk 0 (Nat.zero_le _) rfl ((hP _ _).mpr ⟨.mk F .refl (fun J J J=>rfl) X,st,rfl⟩))
 rintro _ s' ⟨i,hi',rfl,hp⟩
 obtain⟨⟨F₁,gx,fr,X'⟩,st',hfo⟩:=(hP i s').mp hp
 have src':=src.up gx.le fr X.ok.base
 have hmv:∀{s''},Moves F₁ lo hi glo ghi s' s''→Up s' s''→GrowX ex exg F₁ F₁ s' s'':=fun m u=>
  ⟨.refl _,fun J J=>rfl,fun b o hb e=>m.keep b o (.inl (Nat.lt_of_not_le fun q=>hb (base b q))) e,u.h,m.os,fun j x hj e=>m.gen j x (.inl (Nat.lt_of_not_le fun q=>hj (baseg j q))) e,u.g,m.bare,u.t⟩
 refine Wp.any ?_
 rcases Nat.lt_or_ge i xs.length with hlt | hge
 ·obtain⟨x,hx⟩:∃x,xs[i]?=some x:=⟨_,List.getElem?_eq_getElem hlt⟩
  have bt:=hb ((xs.take i).foldl step a₀) x (List.mem_of_getElem? hx)
  refine src'.take bt X'.ok st' (by rw[List.getElem?_map,hx];rfl) (Nat.le_trans hhi gx.size) (Nat.le_trans hghi gx.gsize) (fun v s₁ h=>Wp.any h) fun v s₄ hv st₄ mv up=>?_
  refine Wp.any ((bind_st bt hR.handled (X'.moves mv up out hcell) hv).imp fun _ s₅ ⟨g₅,X₅⟩=>Wp.any ((hrun i x hx env A F₁ s₅ ex' exg' hE hR X₅).imp fun f s₆ ho=>?_))
  have g0:=(gx.trans (hmv mv up)).trans (g₅.weak sub subg)
  rw[drop_cons hx,forOut_cons] at hfo
  cases hr:r ((xs.take i).foldl step a₀) x with
  | some d=>
   rw[hr] at ho hfo
   obtain⟨w,F₆,rfl,g₆,ok₆,r₆⟩:=ho
   exact hRx _ _ (by rw[hfo];exact⟨w,F₆,rfl,g0.trans (g₆.weak sub subg),ok₆,r₆⟩)
  | none=>
   rw[hr] at ho hfo
   obtain⟨rfl,F₆,g₆,X₆⟩:=ho
   have g₇:=g₅.trans g₆
   exact Turn.next hlt ((hP _ _).mpr ⟨.mk F₆ (g0.trans (g₆.weak sub subg)) (fun a h1 h2=>(g₆.old a fun q=>not_out (out a q) ⟨h1,h2⟩).trans (fr a h1 h2)) X₆,
    src.frame _ _ _ st₄ ⟨fun b o h1 h2 e=>g₇.keep b o (fun q=>not_out (out b q) ⟨h1,h2⟩) e,fun j y h1 h2 e=>g₇.gen j y (fun q=>not_out (outg j q) ⟨h1,h2⟩) e⟩,by rw[hfo,take_foldl hx]⟩)
 ·rw[Nat.le_antisymm hi' hge] at X' st' hfo
  rw[List.take_length] at X' hfo
  rw[List.drop_length] at hfo
  refine Wp.up ((src'.done s' X'.ok (by rw[List.length_map];exact st') (Nat.le_trans hhi gx.size) (Nat.le_trans hghi gx.gsize)).imp fun r s₃ hZ up=>?_)
  obtain⟨e,mv⟩:=hZ
  rw[e]
  exact wpAny_execs_nil (hRx _ _ (by rw[hfo];exact⟨rfl,F₁,gx.trans (hmv mv up),(X'.moves mv up out hcell).weak sub subg⟩))
theorem st_forR {tgt iter:Expr}{body:List Stmt}{pos:Pos}{tup:Bool}{α β:Type}{xs:List β}{enc:β→List D}(hit:It C n sc Γ false iter tup (xs.map enc)) (I:α→Gm) (a₀:α) (step:α→β→α) (r:α→β→Option D) {Γb:α→β→Gm}
  (h0:(I a₀).Sublist Γ) (hb:∀a x,x∈xs→BindT sc tgt tup (enc x) (I a) (Γb a x))
  (hrun:∀i x,xs[i]?=some x→Run C n sc (Γb ((xs.take i).foldl step a₀) x) body (match r ((xs.take i).foldl step a₀) x with | some d=>.ret d | none=>.next (I ((xs.take (i+1)).foldl step a₀))))
  (hset:∀env x,foldedSetIterable iter env x=pure x):Step C n sc Γ (.For tgt iter body [] pos) (Out.of I (forOut step r a₀ xs)):=by
 intro env A F s ex exg hE hR hX
 refine wpAny_For ((hit env A F s hE hR hX.ok hX.eok).imp fun v s₁ h₁=>h₁.imp fun it s₂ ⟨F₂,S,g,st,src⟩=>?_) (hset env)
 have X₂:=(hX.grow g).sub h0
 refine for_turns (ex:=ex) (exg:=exg) (ex':=fun b=>ex b∧(b<s.heap.objs.size∨s₂.heap.objs.size≤b)) (exg':=fun i=>exg i∧(i<s.gens.size∨s₂.gens.size≤i)) I a₀ step r hb hrun hE hR (fun b q=>q.1) (fun b q=>q.1) (fun b q=>q.2) (fun b q=>q.2) hX.base hX.gbase
  (fun x c h=>.inl (by obtain⟨o,ho⟩:=hX.eok.low x c h;exact Heap.lt_size ho)) ⟨X₂.ok,X₂.eok,X₂.wf,fun b hb=>⟨X₂.lo b hb,.inl (hX.wf.ownF hb).2⟩,fun p hp a ha=>?_,X₂.apart,fun b hb=>⟨X₂.base b hb,.inr hb⟩,fun i hi=>⟨X₂.gbase i hi,.inr hi⟩⟩ src st (Nat.le_refl _) (Nat.le_refl _) fun f s' h=>h.up (GrowX.of g hX.base)
 obtain⟨h1,h2,h3,h4⟩:=X₂.own p hp a ha
 exact⟨h1,⟨h2,.inl (hX.own p (h0.subset hp) a ha).2.2.1⟩,h3,h4⟩
theorem forOut_none {α β:Type}(step:α→β→α):∀(xs:List β) (a:α),forOut step (fun J J=>none) a xs=.inl (xs.foldl step a)
 | [],a=>rfl
 | x::xs,a=>forOut_none step xs (step a x)
theorem st_for {tgt iter:Expr}{body:List Stmt}{pos:Pos}{tup:Bool}{α β:Type}{xs:List β}{enc:β→List D}(hit:It C n sc Γ false iter tup (xs.map enc)) (I:α→Gm) (a₀:α) (step:α→β→α) {Γb:α→β→Gm}
  (h0:(I a₀).Sublist Γ) (hb:∀a x,x∈xs→BindT sc tgt tup (enc x) (I a) (Γb a x))
  (hrun:∀i x,xs[i]?=some x→Run C n sc (Γb ((xs.take i).foldl step a₀) x) body (.next (I (step ((xs.take i).foldl step a₀) x))))
  (hset:∀env x,foldedSetIterable iter env x=pure x):Step C n sc Γ (.For tgt iter body [] pos) (.next (I (xs.foldl step a₀))):=by
 have:=st_forR (pos:=pos) hit I a₀ step (fun J J=>none) h0 hb (fun i x hx=>by
  rw[take_foldl hx];exact hrun i x hx) hset
 rw[forOut_none] at this
 exact this
end
end
section
set_option backward.match.sparseCases false
inductive OwnK (C:Cx) (F:FZ) (h:Heap) (v:Value) (d:D):Prop
 | mk (k:Kd) (a:Addr) (o:Obj) (e:v=.ref a) (e':d=k.dat) (hm:mainGlobals<a) (ho:h.get? a=some o) (hx:k.X C F o)
noncomputable def HR (C:Cx) (F:FZ) (h:Heap) (v:Value) (d:D):Prop:=R C F v d∨OwnK C F h v d
section
variable {C:Cx}{n:Nat}{sc:Scope}{Γ:Gm}{F F':FZ}{hp hp':Heap}{v:Value}
theorem HR.keep {d:D}(x:HR C F hp v d) (hF:F.Le F') (hk:∀b o,hp.get? b=some o→hp'.get? b=some o):HR C F' hp' v d:=
 x.imp (fun x=>x.mono hF) fun⟨k,a,o,e,e',hm,ho,hx⟩=>⟨k,a,o,e,e',hm,hk a o ho,Kd.mono _ _ _ _ hF hx⟩
noncomputable def isOwnD:D→Bool
 | .list _ | .dictS _ _ | .dictI _ _=>true
 | _=>false
theorem HR.plain {d:D}(y:HR C F hp v d) (h:isOwnD d=false):R C F v d:=by
 refine y.resolve_right fun hZ=>?_
 obtain⟨k,a,o,e,e',_,_,_⟩:=hZ
 rw[e'] at h
 cases k <;> cases h
theorem HR.list {ds:List D}(x:HR C F hp v (.list ds)) (i:F.In hp):∃a vs k,v=.ref a∧hp.get? a=some (lObj vs k)∧RA C F vs ds:=by
 rcases x with x | ⟨k,a,o,e,e',hm,ho,hx⟩
 ·obtain⟨a,vs,k,rfl,e,r⟩:=x.list_inv
  exact⟨a,vs,k,rfl,i _ _ e,r⟩
 ·cases k with
  | l=>cases e';obtain⟨vs,k,rfl,r⟩:=hx;exact⟨a,vs,k,e,ho,r⟩
  | s | i=>cases e'
theorem HR.dictS {ks:List Str}{ds:List D}(x:HR C F hp v (.dictS ks ds)) (i:F.In hp):DictR C F hp.get? (strKind C.prog C.w) v ks ds:=by
 rcases x with x | ⟨k,a,o,e,e',hm,ho,hx⟩
 ·obtain⟨a,es,n,vs,e,h,r⟩:=x.dictS_inv;exact .mk a es n vs e (h.to (i _)) r
 ·cases k with
  | s=>cases e';obtain⟨es,n,vs,h,r⟩:=hx;exact .mk a es n vs e (h.at hm ho) r
  | l | i=>cases e'
theorem HR.dictI {ks:List Int}{ds:List D}(x:HR C F hp v (.dictI ks ds)) (i:F.In hp):DictR C F hp.get? (intKind C.prog C.w) v ks ds:=by
 rcases x with x | ⟨k,a,o,e,e',hm,ho,hx⟩
 ·obtain⟨a,es,n,vs,e,h,r⟩:=x.dictI_inv;exact .mk a es n vs e (h.to (i _)) r
 ·cases k with
  | i=>cases e';obtain⟨es,n,vs,h,r⟩:=hx;exact .mk a es n vs e (h.at hm ho) r
  | l | s=>cases e'
theorem HR.str {x:Str}(y:HR C F hp v (.str x)):R C F v (.str x):=y.plain rfl
theorem HR.tuple {ds:List D}(y:HR C F hp v (.tuple ds)):R C F v (.tuple ds):=y.plain rfl
theorem HR.bytes {x:Array UInt8}(y:HR C F hp v (.bytes x)):R C F v (.bytes x):=y.plain rfl
noncomputable def ExH (C:Cx) (n:Nat) (sc:Scope) (Γ:Gm) (e:Expr) (d:D):Prop:=
 ∀(env:Env) (A:Around) (F:FZ) (s:Shared),gE sc env→Room n A→Ok C F s→EnvOk C F s env Γ→Wp C A (eval e env) (fun v s'=>∃F',Grow F F' s s'∧HR C F' s'.heap v d) s
theorem Ex.h {e:Expr}{d:D}(x:Ex C n sc Γ e d):ExH C n sc Γ e d:=fun env A F s a b c k=>(x env A F s a b c k).imp fun _ _ ⟨F',g,r⟩=>⟨F',g,.inl r⟩
theorem exh_slot {x:Str}{p:Pos}{a:Addr}{k:Kd}(hm:(x,k.slot a)∈Γ) (hv:vis sc x=true) (hx:(x==("__classdict__":Str))=false) (hd:(x==("__debug__":Str))=false) (hz:∀{F h v},SlotR C F h v (k.slot a)→mainGlobals<a):ExH C n sc Γ (.Name x p) k.dat:=by
 intro env A F s hE hR hO hV
 obtain⟨v,h1,h2⟩:=hV.var _ hm (by rw[hE.scope];exact hv)
 obtain⟨e,o,h3,h4⟩:=Kd.inv h2
 exact wpAny_Name (loadName_var (by rw[hE.scope];exact hE.kind) h1 ⟨F,.refl hO.inn,.inr ⟨k,a,o,e,rfl,hz h2,h3,h4⟩⟩ hx) hd
theorem exh_ml {x:Str}{p:Pos}{a:Addr}{ds:List D}(hm:(x,Slot.ml a ds)∈Γ) (hv:autoParam (vis sc x=true) kr) (hx:autoParam ((x==("__classdict__":Str))=false) kr) (hd:autoParam ((x==("__debug__":Str))=false) kr) :
  ∀(env:Env) (A:Around) (F:FZ) (s:Shared),gE sc env→Room n A→Ok C F s→EnvOk C F s env Γ→Wp C A (eval (.Name x p) env) (fun v s'=>s'=s∧v=.ref a∧∃vs k,s.heap.get? a=some (lObj vs k)∧RA C F vs ds) s:=by
 intro env A F s hE hR hO hV
 obtain⟨v,h1,h2⟩:=hV.var _ hm (by rw[hE.scope];exact hv)
 exact wpAny_Name (loadName_var (by rw[hE.scope];exact hE.kind) h1 ⟨rfl,h2.inv⟩ hx) hd
theorem exh_mdS {x:Str}{p:Pos}{a:Addr}{ks:List Str}{ds:List D}(hm:(x,Slot.mdS a ks ds)∈Γ) (hv:autoParam (vis sc x=true) kr) (hx:autoParam ((x==("__classdict__":Str))=false) kr) (hd:autoParam ((x==("__debug__":Str))=false) kr) :
  ExH C n sc Γ (.Name x p) (.dictS ks ds):=exh_slot (k:=.s ks ds) hm hv hx hd fun x=>let ⟨_,_,_,_,h,_⟩:=x.inv;h.z
theorem exh_mdI {x:Str}{p:Pos}{a:Addr}{ks:List Int}{ds:List D}(hm:(x,Slot.mdI a ks ds)∈Γ) (hv:autoParam (vis sc x=true) kr) (hx:autoParam ((x==("__classdict__":Str))=false) kr) (hd:autoParam ((x==("__debug__":Str))=false) kr) :
  ExH C n sc Γ (.Name x p) (.dictI ks ds):=exh_slot (k:=.i ks ds) hm hv hx hd fun x=>let ⟨_,_,_,_,h,_⟩:=x.inv;h.z
theorem subscripted_eq {slice:Expr}{o i:Value}:∃l,subscripted slice false o i=operate l (getItem o i):=by
 cases slice with
 | Slice _ _ st _=>cases st <;> exact⟨_,rfl⟩
 | _=>exact⟨_,rfl⟩
theorem subscripted_any {A:Around}{slice:Expr}{o i:Value}{s:Shared}{Q:Value→Shared→Prop}(h:Wp C A (getItem o i) Q s):Wp C A (subscripted slice false o i) Q s:=by
 obtain⟨l,e⟩:=subscripted_eq (slice:=slice) (o:=o) (i:=i)
 rw[e];exact wpAny_operating h
theorem sub_tail {A:Around}{value slice:Expr}{o i:Value}{s:Shared}{T id:String}{Q:Value→Shared→Prop}(hT:s.TypeIs o T) (hl:typeLookup (.type T) "__getitem__"=pure (some (.builtin id))) (h:Wp C A (getItem o i) Q s):Wp C A (subscriptTail value slice o i) Q s:=by
 unfold subscriptTail
 refine wpAny_bind ?_
 rw[getitemInPython_of_ne hT.not_modules]
 refine wpAny_bind (wpAny_specialOf hT hl ?_)
 have fin:Wp C A (subscripted slice false o i) (fun r s₃=>Wp C A (letTemporaryGo value o r>>=fun J=>pure r) Q s₃) s:=(subscripted_any h).imp fun r s₃ q=>wpAny_bind (wpAny_letTemporaryGo (wpAny_pure q))
 first
  | exact wpAny_pure (wpAny_bind fin)
  | exact wpAny_bind (wpAny_pure (wpAny_bind fin))
  | exact wpAny_bind fin
noncomputable def Idx (C:Cx) (a b d:D):Prop:=∀(A:Around) (F:FZ) (s:Shared) (va vb:Value),Room 0 A→Ok C F s→HR C F s.heap va a→R C F vb b →
 (∃T id,s.TypeIs va T∧typeLookup (.type T) "__getitem__"=pure (some (.builtin id)))∧Sm C A F s (getItem va vb) d
theorem xs1 {o i:Expr}{pos:Pos}{a b d:D}(h1:ExH C n sc Γ o a) (h2:Ex C n sc Γ i b) (hi:Idx C a b d):Ex C n sc Γ (.Subscript o i pos) d:=by
 intro env A F s hE hR hO hV
 refine PyProof.Rows.Subscript_ ((h1 env A F s hE hR hO hV).imp fun va s₁ ⟨F₁,g₁,r₁⟩=>(h2 env A F₁ s₁ hE hR (hO.grow g₁) (hV.grow g₁)).imp fun vb s₂ hZ=>?_)
 obtain⟨F₂,g₂,r₂⟩:=hZ
 have hg:=g₁.trans g₂
 obtain⟨⟨T,id,hT,hl⟩,sm⟩:=hi A F₂ s₂ va vb (hR.mono (Nat.zero_le _)) (hO.grow hg) (r₁.keep g₂.le g₂.keep) r₂
 exact sub_tail hT hl (sm.grow hg)
theorem ex_sub_ml {x:Str}{p pos:Pos}{i:Expr}{a:Addr}{ds:List D}{k:Int}{d:D}(hm:(x,Slot.ml a ds)∈Γ) (h2:Ex C n sc Γ i (.int k)) (h0:0≤k) (hk:k<2^62) (hd:ds[k.toNat]?=some d)
  (hv:autoParam (vis sc x=true) kr) (hx:autoParam ((x==("__classdict__":Str))=false) kr) (hdd:autoParam ((x==("__debug__":Str))=false) kr):Ex C n sc Γ (.Subscript (.Name x p) i pos) d:=by
 intro env A F s hE hR hO hV
 refine PyProof.Rows.Subscript_ ((exh_ml hm hv hx hdd env A F s hE hR hO hV).imp fun va s₁ hZ=>?_)
 obtain⟨e1,e2,vs,kk,ho,hr⟩:=hZ
 subst e1;subst e2
 refine(h2 env A F s₁ hE hR hO hV).imp fun vb s₂ hZ=>?_
 obtain⟨F₂,g₂,r₂⟩:=hZ
 obtain⟨t,rfl⟩:=r₂.int_inv
 have ho₂:=g₂.keep _ _ ho
 obtain⟨w,hw,hrw⟩:=(hr.mono g₂.le).get? hd
 exact sub_tail (T:="list") ⟨_,ho₂,rfl⟩ list_getitem_lookup (wpAny_getItem_list (items:=vs.toArray) ⟨_,ho₂,rfl,_,rfl⟩ h0 (Int.lt_of_lt_of_le hk (by decide)) (by simpa using hw) ⟨F₂,g₂,hrw⟩)
theorem iL {ds:List D}{k:Int}{d:D}(h0:0≤k) (hk:k<2^62) (hd:ds[k.toNat]?=some d):Idx C (.list ds) (.int k) d:=by
 intro A F s va vb hR hO ha hb
 obtain⟨a,vs,kk,rfl,ho,hr⟩:=ha.list hO.inn
 obtain⟨t,rfl⟩:=hb.int_inv
 obtain⟨w,hw,hrw⟩:=hr.get? hd
 exact⟨⟨"list",_,⟨_,ho,rfl⟩,list_getitem_lookup⟩,wpAny_getItem_list (items:=vs.toArray) ⟨_,ho,rfl,_,rfl⟩ h0 (Int.lt_of_lt_of_le hk (by decide)) (by simpa using hw) ⟨F,.refl hO.inn,hrw⟩⟩
theorem idx_list_neg {ds:List D}{k:Int}{d:D}(h0:k<0) (hk:-(ds.length:Int)≤k) (hl:ds.length≤4096) (hd:ds[(k+ds.length).toNat]?=some d):Idx C (.list ds) (.int k) d:=by
 intro A F s va vb hR hO ha hb
 obtain⟨a,vs,kk,rfl,ho,hr⟩:=ha.list hO.inn
 obtain⟨t,rfl⟩:=hb.int_inv
 obtain⟨w,hw,hrw⟩:=hr.get? hd
 have hsz:(vs.toArray.size:Int)=ds.length:=by simp[hr.length]
 exact⟨⟨"list",_,⟨_,ho,rfl⟩,list_getitem_lookup⟩,wpAny_getItem_list_neg (items:=vs.toArray) ⟨_,ho,rfl,_,rfl⟩ h0 (by rw[hsz];exact hk) (by lia) (by rw[hsz];simpa using hw) ⟨F,.refl hO.inn,hrw⟩⟩
theorem idx_tuple {ds:List D}{k:Int}{d:D}(h0:0≤k) (hk:k<2^62) (hd:ds[k.toNat]?=some d):Idx C (.tuple ds) (.int k) d:=by
 intro A F s va vb hR hO ha hb
 obtain⟨a,vs,kk,rfl,ea,hr⟩:=ha.tuple.tuple_inv
 have ho:=hO.inn _ _ ea
 obtain⟨t,rfl⟩:=hb.int_inv
 obtain⟨w,hw,hrw⟩:=hr.get? hd
 have hlt:k.toNat<vs.length:=(List.getElem?_eq_some_iff.mp hw).1
 refine⟨⟨"tuple",_,⟨_,ho,rfl⟩,PySem.F.slot_tuple_getitem.lookup⟩,PyProof.Rows.getItem_tuple (items:=vs.toArray) (j:=k.toNat) ⟨_,ho,rfl,_,rfl⟩ (by lia) (Int.lt_of_lt_of_le hk (by decide)) ?_ (by simpa using hw) ⟨F,.refl hO.inn,hrw⟩⟩
 exact seqIndex_of h0 (by simp;lia)
theorem idx_str {x:Str}{k:Int}{c:Nat}(h0:0≤k) (hk:k<2^62) (hd:x.cps[k.toNat]?=some c):Idx C (.str x) (.int k) (.str ⟨#[c]⟩):=by
 intro A F s va vb hR hO ha hb
 obtain⟨u,rfl⟩:=ha.str.str_inv
 obtain⟨t,rfl⟩:=hb.int_inv
 have hlt:k.toNat<x.cps.size:=by
  rcases Nat.lt_or_ge k.toNat x.cps.size with h | h
  ·exact h
  ·rw[Array.getElem?_eq_none h] at hd;cases hd
 refine⟨⟨"str",_,typeIs_str s x u,PySem.F.slot_str_getitem.lookup⟩,P.getItem_str (c:=c) ?_ ?_ ⟨F,.tok hO.inn,.str _ _⟩⟩
 ·rw[Bool.or_eq_false_iff];constructor <;> (apply decide_eq_false;lia)
 ·rw[seqIndex_of h0 (by show k<(x.cps.size:Int);lia)];exact hd
theorem idx_dictI {ks:List Int}{ds:List D}{k:Int}{d:D}{j:Nat}(hk:ks[j]?=some k) (hd:ds[j]?=some d):Idx C (.dictI ks ds) (.int k) d:=by
 intro A F s va vb hR hO ha hb
 obtain⟨a,es,n,vs,rfl,h,hr⟩:=ha.dictI hO.inn
 obtain⟨t,rfl⟩:=hb.int_inv
 obtain⟨w,hw,hrw⟩:=hr.get? hd
 exact⟨⟨"dict",_,h.dictOf.typeIs,PySem.F.slot_dict_getitem.lookup⟩,wpAny_getItem_of (intKind_is _ _ _ _) h.dictOf.mapOf (valueAt_zip h.len h.nd hk hw) ⟨F,.tok hO.inn,hrw⟩⟩
noncomputable def PartOk (C:Cx) (n:Nat) (sc:Scope) (Γ:Gm):Option Expr→Option Int→Prop
 | none,i=>i=none
 | some e,i=>∃k,i=some k∧Ex C n sc Γ e (.int k)
theorem part_run {p:Option Expr}{i:Option Int}(h:PartOk C n sc Γ p i) {env:Env}{A:Around}{F:FZ}{s:Shared}(hE:gE sc env) (hR:Room n A) (hO:Ok C F s) (hV:EnvOk C F s env Γ) :
  Wp C A (evalPart p env) (fun v s'=>∃F',Grow F F' s s'∧IsPart v i) s:=by
 cases p with
 | none=>cases h;exact wpAny_pure (a:=Value.none) ⟨F,.refl hO.inn,.none⟩
 | some e=>
  obtain⟨k,rfl,h⟩:=h
  exact(h env A F s hE hR hO hV).imp fun v s' ⟨F',g,r⟩=>by obtain⟨t,rfl⟩:=r.int_inv;exact⟨F',g,.int _ _⟩
noncomputable def pickD {α:Type}(ds:List α) (lo hi st:Option Int):List α:=
 (sliceRange (sliceBounds lo hi st ds.length).1 (sliceBounds lo hi st ds.length).2.1 (sliceBounds lo hi st ds.length).2.2).filterMap (ds[·]?)
theorem RA.pick {vs:List Value}{ds:List D}(r:RA C F vs ds) (idx:List Nat):RA C F (idx.filterMap (vs.toArray[·]?)) (idx.filterMap (ds[·]?)):=by
 induction idx with
 | nil=>exact .nil
 | cons i idx ih=>
  rw[List.filterMap_cons,List.filterMap_cons,List.getElem?_toArray]
  cases hd:ds[i]? with
  | none=>rw[List.getElem?_eq_none_iff.mpr (r.length▸List.getElem?_eq_none_iff.mp hd)];exact ih
  | some d=>
   obtain⟨w,hw,hr⟩:=r.get? hd
   rw[hw];exact .cons hr ih
theorem ex_slice {value:Expr}{lower upper step:Option Expr}{p pos:Pos}{ds:List D}{lo hi st:Option Int}(h:Ex C n sc Γ value (.list ds)) (h1:PartOk C n sc Γ lower lo) (h2:PartOk C n sc Γ upper hi) (h3:PartOk C n sc Γ step st)
  (h0:st≠some 0) (hz:ds.length≤4096):Ex C n sc Γ (.Subscript value (.Slice lower upper step p) pos) (.list (pickD ds lo hi st)):=by
 intro env A F s hE hR hO hV
 refine PyProof.Rows.Subscript_ ((h env A F s hE hR hO hV).imp fun o s₁ hZ=>?_)
 obtain⟨F₁,g₁,r₁⟩:=hZ
 have O₁:=hO.grow g₁;have V₁:=hV.grow g₁
 refine wpAny_Slice ((part_run h1 hE hR O₁ V₁).imp fun vl s₂ hZ=>?_)
 obtain⟨F₂,g₂,pl⟩:=hZ
 have O₂:=O₁.grow g₂;have V₂:=V₁.grow g₂
 refine(part_run h2 hE hR O₂ V₂).imp fun vu s₃ hZ=>?_
 obtain⟨F₃,g₃,pu⟩:=hZ
 have O₃:=O₂.grow g₃;have V₃:=V₂.grow g₃
 refine(part_run h3 hE hR O₃ V₃).imp fun vs' s₄ hZ=>?_
 obtain⟨F₄,g₄,ps⟩:=hZ
 have O₄:=O₃.grow g₄
 have g:=((g₁.trans g₂).trans g₃).trans g₄
 obtain⟨a,vs,k,rfl,ea,ra⟩:=(r₁.mono ((g₂.trans g₃).trans g₄).le).list_inv
 have ho:=O₄.inn _ _ ea
 have ho':(s₄.heap.push { cls:=.type "slice",data:=.fields #[vl,vu,vs'] }).get? a=some (lObj vs k):=Heap.get?_push_of_some _ ho
 have h4096:(4096:Nat)≤sizeLine:=by decide
 have hzz:vs.toArray.size≤sizeLine:=by rw[List.size_toArray,ra.length];exact Nat.le_trans hz (by decide)
 refine sub_tail (T:="list") ⟨_,ho',rfl⟩ list_getitem_lookup ?_
 refine wpAny_getItem_list_slice (items:=vs.toArray) ⟨_,ho',rfl,_,rfl⟩ (Heap.IsSliceOf.new ..) pl pu ps h0 ?_ hzz
 have gp:Grow F₄ F₄ s₄ { s₄ with heap:=s₄.heap.push { cls:=.type "slice",data:=.fields #[vl,vu,vs'] } }:=.same (tk:=s₄.toks) O₄.inn (fun b o e=>Heap.get?_push_of_some _ e) (by rw[Heap.size_push];exact Nat.le_succ _)
 have er:RA C F₄ (slicePick vs.toArray lo hi st).toList (pickD ds lo hi st):=by
  unfold slicePick pickD
  have e:vs.toArray.size=ds.length:=by simp[ra.length]
  rw[e]
  simpa using ra.pick _
 obtain⟨F',g',r'⟩:=new_list (tk:=s₄.toks) (k:=0) gp.inn er
 refine⟨F',(g.trans gp).trans ?_,?_⟩
 ·simpa using g'
 ·simpa using r'
end
end
section
section
variable {C:Cx}{n:Nat}{sc:Scope}{Γ:Gm}{F:FZ}{A:Around}{s:Shared}
theorem sm_keep {t:Sem Value}{d:D}(hO:Ok C F s) (h:∀Q:Value→Shared→Prop,(∀v h' tk,(∀b o,s.heap.get? b=some o→h'.get? b=some o)→R C F v d→Q v { s with heap:=h',toks:=tk })→Wp C A t Q s):Sm C A F s t d:=
 Wp.up (h _ fun v h' tk hk r up=>⟨F,.same hO.inn hk up.h up.t,r⟩)
theorem c_len_list {ds:List D}(hl:ds.length≤4096):Calls C n (.builtin "len") [.list ds] (.int (ds.length:Nat)):=by
 intro A F s vs hR hO hr
 obtain⟨_,rfl,r1⟩:=hr.one_inv
 obtain⟨a,vs,k,rfl,ea,ra⟩:=r1.list_inv
 refine call_len_list (items:=vs.toArray) ⟨_,hO.inn _ _ ea,rfl,_,rfl⟩ (by have:=ra.length;simp;lia) ?_
 refine⟨F,.tok hO.inn,?_⟩
 have e:((vs.toArray.size:Nat):Int)=((ds.length:Nat):Int):=by simp[ra.length]
 rw[e];exact .int _ _
theorem c_len_str {x:Str}(hl:x.length≤2^40):Calls C n (.builtin "len") [.str x] (.int (x.length:Nat)):=by
 intro A F s vs hR hO hr
 obtain⟨_,rfl,r1⟩:=hr.one_inv
 obtain⟨t,rfl⟩:=r1.str_inv
 exact P.len_str (by lia) ⟨F,.tok hO.inn,.int _ _⟩
theorem ints_at {vs:List Value}{ns:List Int}(r:RA C F vs (ns.map .int)) {i:Nat}{v:Value}(h:vs.toArray[i]?=some v):∃t,v=.int (ns.getD i 0) t:=by
 have e:vs.toArray[i]?=vs[i]?:=by simp
 rw[e] at h
 obtain⟨d,hd,hr⟩:=r.get?' h
 rw[List.getElem?_map] at hd
 obtain⟨k,hk,rfl⟩:=Option.map_eq_some_iff.mp hd
 obtain⟨t,rfl⟩:=hr.int_inv
 exact⟨t,by rw[List.getD_eq_getElem?_getD,hk];rfl⟩
theorem iter_walk {l:Addr}{vs:List Value}{k:Nat}{Q:Value→Shared→Prop}(hh:A.handled=none) (hl:s.heap.get? l=some (lObj vs k))
  (h:∀(s₂:Shared) (I:Addr) (fp wr:List Addr) (St:Nat→Heap→Prop),Walks C.prog C.w A I fp wr vs.toArray.size (fun i v=>vs.toArray[i]?=some v) St→St 0 s₂.heap→(∀b∈fp,b<s₂.heap.objs.size)→s₂.toks=s.toks→(∃h₂,s₂={ s with heap:=h₂ }) →
   (∀h':Heap,(∀b o,b∉wr→s₂.heap.get? b=some o→h'.get? b=some o)→∀b o,s.heap.get? b=some o→h'.get? b=some o)→Q (.ref I) s₂):Wp C A (pyIter (.ref l)) Q s:=by
 have hlt:l<s.heap.objs.size:=Heap.lt_size hl
 have hne:l≠s.heap.objs.size:=Nat.ne_of_lt hlt
 refine wpAny_pyIter_list (items:=vs.toArray) ⟨_,hl,rfl,_,rfl⟩ (h _ _ _ _ _ (Walks.list hh s.heap.objs.size l hne vs.toArray) ⟨⟨_,Heap.get?_push_size _ rfl,rfl,rfl⟩,⟨_,Heap.get?_push_of_some _ hl,rfl,_,rfl⟩⟩ (fun b hb=>?_) rfl ⟨_,rfl⟩ fun h' hk b o e=>hk b o (fun hm=>?_) (Heap.get?_push_of_some _ e))
 ·show b<(s.heap.push _).objs.size
  rw[Heap.size_push]
  rcases List.mem_cons.mp hb with rfl | hb
  ·exact Nat.lt_succ_self _
  ·rw[List.mem_singleton.mp hb];exact Nat.lt_succ_of_lt hlt
 ·have:=Heap.lt_size e
  rw[List.mem_singleton.mp hm] at this
  exact Nat.lt_irrefl _ this
theorem preSum_take (ns:List Int):∀k,k≤ns.length→preSum (fun i=>ns.getD i 0) k=(ns.take k).sum
 | 0,_=>by simp[preSum]
 | k+1,h=>by
  rw[preSum,preSum_take ns k (Nat.le_of_succ_le h),List.take_add_one,List.sum_append]
  have:ns[k]?=some ns[k]:=List.getElem?_eq_getElem (Nat.lt_of_succ_le h)
  simp[List.getD_eq_getElem?_getD,this]
theorem c_sum {ns:List Int}:Calls C n (.builtin "sum") [.list (ns.map .int)] (.int ns.sum):=by
 intro A F s vs hR hO hr
 obtain⟨_,rfl,r1⟩:=hr.one_inv
 obtain⟨a,vs,k,rfl,ea,ra⟩:=r1.list_inv
 refine sm_keep hO fun Q hq=>call_sum_walkG ?_
 refine iter_walk (A:=A.in1) hR.handled (hO.inn _ _ ea) fun s₂ I fp wr St W st hfp htk ⟨h₂,e₂⟩ hk=>⟨I,fp,wr,_,_,St,fun i=>ns.getD i 0,rfl,W,st,hfp,fun i v h=>ints_at ra h,fun h' tk t' hk'=>?_⟩
 subst e₂
 have e:preSum (fun i=>ns.getD i 0) vs.toArray.size=ns.sum:=by
  have:=ra.length
  rw[List.length_map] at this
  rw[List.size_toArray,this,preSum_take ns _ (Nat.le_refl _),List.take_length]
 rw[e]
 exact hq _ h' tk (hk h' hk') (.int _ _)
theorem argBest_le (bt:Nat→Nat→Bool):∀k,argBest bt k≤k
 | 0=>Nat.le_refl _
 | k+1=>by rw[argBest];split;exact Nat.le_refl _;exact Nat.le_succ_of_le (argBest_le bt k)
theorem argBest_ge (val:Nat→Int) (k j:Nat) (h:j≤k):val j≤val (argBest (fun i j=>decide (val i>val j)) k):=by
 induction k with
 | zero=>rw[Nat.le_zero.mp h];exact Int.le_refl _
 | succ k ih=>
  have e:argBest (fun i j=>decide (val i>val j)) (k+1)=if decide (val (k+1)>val (argBest (fun i j=>decide (val i>val j)) k))=true then k+1 else argBest (fun i j=>decide (val i>val j)) k:=rfl
  rw[e]
  by_cases hc:val (k+1)>val (argBest (fun i j=>decide (val i>val j)) k)
  ·rw[if_pos (decide_eq_true hc)]
   rcases Nat.lt_or_eq_of_le h with hj | hj
   ·exact Int.le_of_lt (Int.lt_of_le_of_lt (ih (Nat.le_of_lt_succ hj)) hc)
   ·rw[hj];exact Int.le_refl _
  ·rw[if_neg (by rw[decide_eq_false hc];exact nofun)]
   rcases Nat.lt_or_eq_of_le h with hj | hj
   ·exact ih (Nat.le_of_lt_succ hj)
   ·rw[hj];exact Int.not_lt.mp hc
theorem c_max {ns:List Int}{M:Int}(hM:M∈ns) (hge:∀a∈ns,a≤M):Calls C n (.builtin "max") [.list (ns.map .int)] (.int M):=by
 intro A F s vs hR hO hr
 obtain⟨_,rfl,r1⟩:=hr.one_inv
 obtain⟨a,vs,k,rfl,ea,ra⟩:=r1.list_inv
 have hlen:=ra.length
 rw[List.length_map] at hlen
 have hpos:0<ns.length:=List.length_pos_of_mem hM
 refine sm_keep hO fun Q hq=>call_max_walk ?_
 refine iter_walk (A:=A.in1) hR.handled (hO.inn _ _ ea) fun s₂ I fp wr St W st hfp htk ⟨h₂,e₂⟩ hk=>⟨I,fp,wr,_,_,St,_,rfl,W,st,hfp,by simp;exact Nat.lt_of_lt_of_eq hpos hlen.symm,CmpOf.ints_gt (fun i=>ns.getD i 0) fun i v h=>ints_at ra h,fun v h' tk hP hk'=>?_⟩
 subst e₂
 obtain⟨t,rfl⟩:=ints_at ra hP
 have hb:=argBest_le (fun i j=>decide (ns.getD i 0>ns.getD j 0)) (vs.toArray.size-1)
 have hsz:vs.toArray.size=ns.length:=by simp[hlen]
 generalize hB:argBest (fun i j=>decide (ns.getD i 0>ns.getD j 0)) (vs.toArray.size-1)=B at hb ⊢
 have e:ns.getD B 0=M:=by
  have hBlt:B<ns.length:=by lia
  have h1:ns.getD B 0∈ns:=by rw[List.getD_eq_getElem?_getD,List.getElem?_eq_getElem hBlt];exact List.getElem_mem hBlt
  have h2:=hge _ h1
  obtain⟨j,hj,rfl⟩:=List.getElem_of_mem hM
  have h3:=argBest_ge (fun i=>ns.getD i 0) (vs.toArray.size-1) j (by lia)
  rw[hB] at h3
  have h4:ns.getD j 0=ns[j]:=by rw[List.getD_eq_getElem?_getD,List.getElem?_eq_getElem hj];rfl
  exact Int.le_antisymm h2 (Int.le_trans (Int.le_of_eq h4.symm) h3)
 rw[e]
 exact hq _ h' tk (hk h' hk') (.int _ _)
theorem cmp_strs {xs:List Str}{P:Nat→Value→Prop}(hP:∀i v,P i v→∃t,v=.str (xs.getD i ⟨#[]⟩) t):CmpOf C.prog C.w A .Gt P (fun i j=>decide ((xs.getD j ⟨#[]⟩).cps.toList<(xs.getD i ⟨#[]⟩).cps.toList)):=fun i j vi vj s Q E hi hj h=>by
 obtain⟨t,rfl⟩:=hP i vi hi
 obtain⟨u,rfl⟩:=hP j vj hj
 exact richCompare_gives (op:=.Gt) (typeIs_str s _ t) (typeIs_str s _ u) PySem.F.slot_str_gt PySem.F.entry_str_gt (PySem.F.args_str_gt_2 _ _) (gives_str_gt _ _ t u) (fun x=>nomatch x) h
theorem c_max_str {x y:Str}:Calls C n (.builtin "max") [.str x,.str y] (.str (if x.cps.toList<y.cps.toList then y else x)):=by
 intro A F s vs hR hO hr
 obtain⟨_,_,rfl,r1,r2⟩:=hr.two_inv
 obtain⟨t,rfl⟩:=r1.str_inv;obtain⟨u,rfl⟩:=r2.str_inv
 refine sm_keep hO fun Q hq=>call_max_two ?_
 have hT:(s.heap.push { cls:=.type "tuple",data:=.seq #[.str x t,.str y u] }).IsTuple s.heap.objs.size #[.str x t,.str y u]:=⟨_,Heap.get?_push_size _ rfl,rfl,0,rfl⟩
 refine wpAny_pyIter_tuple hT ?_
 have hsz:(s.heap.push { cls:=.type "tuple",data:=.seq #[.str x t,.str y u] }).objs.size=s.heap.objs.size+1:=Heap.size_push ..
 have hat:∀(i:Nat) v,(#[Value.str x t,Value.str y u]:Array Value)[i]?=some v→∃t,v=.str (([x,y]:List Str).getD i ⟨#[]⟩) t:=fun i v h=>by
  match i,h with
  | 0,h=>cases h;exact⟨t,rfl⟩
  | 1,h=>cases h;exact⟨u,rfl⟩
  | i+2,h=>simp at h
 refine⟨_,[_,s.heap.objs.size],[_],_,_,_,_,rfl,Walks.tuple (A:=A.in1) hR.handled _ s.heap.objs.size (by rw[hsz];exact Nat.ne_of_lt (Nat.lt_succ_self _)) #[.str x t,.str y u],
  ⟨⟨_,Heap.get?_push_size _ rfl,rfl,rfl⟩,hT.push _⟩,fun c hc=>?_,by simp,cmp_strs hat,fun v h' tk hP hk=>?_⟩
 ·show c<((s.heap.push _).push _).objs.size
  rw[Heap.size_push,hsz]
  rcases List.mem_cons.mp hc with rfl | hc
  ·rw[hsz];exact Nat.lt_succ_self _
  ·rw[List.mem_singleton.mp hc];exact Nat.lt_succ_of_lt (Nat.lt_succ_self _)
 ·have hold:∀c o,s.heap.get? c=some o→h'.get? c=some o:=fun c o e=>by
   refine hk c o (fun hm=>?_) (Heap.get?_push_of_some _ (Heap.get?_push_of_some _ e))
   have:=Heap.lt_size e;rw[List.mem_singleton.mp hm,hsz] at this;exact Nat.lt_irrefl _ (Nat.lt_of_succ_lt this)
  have e0:(#[Value.str x t,Value.str y u]:Array Value).size-1=1:=rfl
  rw[e0] at hP
  by_cases hb:x.cps.toList<y.cps.toList
  ·have e:argBest (fun i j=>decide ((([x,y]:List Str).getD j ⟨#[]⟩).cps.toList<(([x,y]:List Str).getD i ⟨#[]⟩).cps.toList)) 1=1:=by
    show(if decide (x.cps.toList<y.cps.toList)=true then 1 else 0)=1
    rw[if_pos (by simpa using hb)]
   rw[e] at hP
   cases hP
   exact hq _ h' tk hold (by rw[if_pos hb];exact .str _ _)
  ·have e:argBest (fun i j=>decide ((([x,y]:List Str).getD j ⟨#[]⟩).cps.toList<(([x,y]:List Str).getD i ⟨#[]⟩).cps.toList)) 1=0:=by
    show(if decide (x.cps.toList<y.cps.toList)=true then 1 else 0)=0
    rw[if_neg (by simpa using hb)]
   rw[e] at hP
   cases hP
   exact hq _ h' tk hold (by rw[if_neg hb];exact .str _ _)
theorem RA.of_at {vs:List Value}{ds:List D}(h:vs.length=ds.length) (k:∀(i:Nat) v,vs[i]?=some v→∃d,ds[i]?=some d∧R C F v d):RA C F vs ds:=by
 induction vs generalizing ds with
 | nil=>obtain rfl:=List.eq_nil_of_length_eq_zero h.symm;exact .nil
 | cons v vs ih=>
  cases ds with
  | nil=>cases h
  | cons d ds=>
   obtain⟨d',h1,h2⟩:=k 0 v rfl
   cases h1
   exact .cons h2 (ih (Nat.succ.inj h) fun i v hv=>k (i+1) v hv)
theorem c_range {k:Nat}:Calls C n (.type "range") [.int k] (.rng k):=by
 intro A F s vs hR hO hr
 obtain⟨_,rfl,r1⟩:=hr.one_inv
 obtain⟨t,rfl⟩:=r1.int_inv
 refine call_range_1 ?_
 have hn:=hO.inn.none (Nat.le_refl s.heap.objs.size)
 exact⟨F.add s.heap.objs.size _,(Grow.same hO.inn (fun b o e=>Heap.get?_push_of_some _ e) (by rw[Heap.size_push];exact Nat.le_succ _)).freeze (Nat.le_refl _) hn (Heap.get?_push_size _ rfl),.rng FZ.add_self⟩
theorem c_list_range {k:Nat}(hk:k≤4096):Calls C n (.type "list") [.rng k] (.list ((List.range k).map fun i=>.int (i:Nat))):=by
 intro A F s vs hR hO hr
 obtain⟨_,rfl,r1⟩:=hr.one_inv
 cases r1 with
 | @rng a t u v _ ea=>
 obtain⟨q1,q2⟩:=range_small (k:=k) (Nat.lt_of_le_of_lt hk (by decide))
 refine Wp.up (call_list_range (n:=k) hR.handled (hO.inn _ _ ea) q1 q2 (Nat.le_trans hk (by decide)) fun h' tk acc' c' hk hacc hit up=>?_)
 have hn:=hO.inn.none (Nat.le_refl s.heap.objs.size)
 have g:Grow F F s { s with heap:=h',toks:=tk }:=.same hO.inn hk up.h up.t
 refine⟨F.add s.heap.objs.size _,g.freeze (Nat.le_refl _) hn hacc,?_⟩
 have hl:lObj acc'.toList c'={ cls:=.type "list",dict:=none,data:=.seq acc' c',slots:=#[] }:=by simp[lObj]
 refine .list (vs:=acc'.toList) (n:=c') (by rw[hl];exact FZ.add_self) ?_
 obtain⟨h1,h2⟩:=hit
 refine RA.of_at (by rw[Array.length_toList,h1];simp) fun i v hv=>?_
 have hv':acc'[i]?=some v:=by simpa using hv
 obtain⟨t',rfl⟩:=h2 i v hv'
 have hi:i<k:=by
  rw[← h1]
  rcases Nat.lt_or_ge i acc'.size with h | h
  ·exact h
  ·rw[Array.getElem?_eq_none h] at hv';cases hv'
 refine⟨.int (i:Nat),by rw[List.getElem?_map,List.getElem?_range hi];rfl,?_⟩
 have e:(0:Int)+(i:Nat)*1=(i:Nat):=by lia
 rw[e];exact .int _ _
end
end
section
section
variable {C:Cx}{n:Nat}{sc:Scope}{Γ:Gm}
theorem tr_bool {e:Expr}{b:Bool}(h:Ex C n sc Γ e (.bool b)) (hd:autoParam (∀env m,isTrue e env m=(do let v ← m;standAt e.pos;holding [v] (truthy v))) i2):Tr C n sc Γ e b:=by
 intro env A F s hE hR hO hV
 rw[hd]
 refine Wp.bind ((h env A F s hE hR hO hV).imp fun v s' ⟨F',g,r⟩=>wpAny_bind (wpAny_standAt (wpAny_holding ?_)))
 rw[r.bool_inv]
 exact wpAny_truthy_bool ⟨rfl,F',g⟩
theorem tr_or {e1 e2:Expr}{pos:Pos}{b1 b2:Bool}(h1:Tr C n sc Γ e1 b1) (h2:b1=false→Tr C n sc Γ e2 b2):Tr C n sc Γ (.BoolOp .Or [e1,e2] pos) (b1||b2):=by
 intro env A F s hE hR hO hV
 refine wpAny_isTrue_BoolOp (wpAny_allTrue_Or_cons ((h1 env A F s hE hR hO hV).imp fun r s₁ hZ=>?_))
 obtain⟨e,F₁,g⟩:=hZ
 subst e
 cases r with
 | true=>exact⟨rfl,F₁,g⟩
 | false=>
  refine wpAny_allTrue_Or_cons ((h2 rfl env A F₁ s₁ hE hR (hO.grow g) (hV.grow g)).imp fun r s₂ hZ=>?_)
  obtain⟨e,F₂,g₂⟩:=hZ
  subst e
  cases r
  ·exact wpAny_allTrue_Or_nil ⟨rfl,F₂,g.trans g₂⟩
  ·exact⟨rfl,F₂,g.trans g₂⟩
theorem tr_and {e1 e2:Expr}{pos:Pos}{b1 b2:Bool}(h1:Tr C n sc Γ e1 b1) (h2:b1=true→Tr C n sc Γ e2 b2):Tr C n sc Γ (.BoolOp .And [e1,e2] pos) (b1&&b2):=by
 intro env A F s hE hR hO hV
 refine wpAny_isTrue_BoolOp (wpAny_allTrue_And_cons ((h1 env A F s hE hR hO hV).imp fun r s₁ hZ=>?_))
 obtain⟨e,F₁,g⟩:=hZ
 subst e
 cases r with
 | false=>exact⟨rfl,F₁,g⟩
 | true=>
  refine wpAny_allTrue_And_cons ((h2 rfl env A F₁ s₁ hE hR (hO.grow g) (hV.grow g)).imp fun r s₂ hZ=>?_)
  obtain⟨e,F₂,g₂⟩:=hZ
  subst e
  cases r
  ·exact⟨rfl,F₂,g.trans g₂⟩
  ·exact wpAny_allTrue_And_nil ⟨rfl,F₂,g.trans g₂⟩
inductive AllT (C:Cx) (n:Nat) (sc:Scope) (Γ:Gm):List Expr→Prop
 | one {e}:Ex C n sc Γ e (.bool true)→AllT C n sc Γ [e]
 | cons {e es}:Ex C n sc Γ e (.bool true)→AllT C n sc Γ es→AllT C n sc Γ (e::es)
theorem ex_and {es:List Expr}{pos:Pos}(h:AllT C n sc Γ es):Ex C n sc Γ (.BoolOp .And es pos) (.bool true):=by
 intro env A F s hE hR hO hV
 show Wp C A (boolOp pos .And (evalEach es env)) _ s
 induction h generalizing F s with
 | one h=>exact h env A F s hE hR hO hV
 | @cons e es h ht ih=>
  cases ht with
  | one h'=>
   show Wp C A (do let v ← eval e env;standAt pos;let t ← holding [v] (truthy v);match BoolOp.And,t with | .And,false | .Or,true=>pure v | _,_=>boolOp pos .And _) _ s
   refine Wp.bind ((h env A F s hE hR hO hV).imp fun v s₁ ⟨F₁,g,r⟩=>wpAny_bind (wpAny_standAt (wpAny_bind (wpAny_holding ?_))))
   rw[r.bool_inv]
   exact wpAny_truthy_bool ((ih F₁ s₁ (hO.grow g) (hV.grow g)).imp fun _ _ ⟨F',g',r'⟩=>⟨F',g.trans g',r'⟩)
  | cons h' h''=>
   show Wp C A (do let v ← eval e env;standAt pos;let t ← holding [v] (truthy v);match BoolOp.And,t with | .And,false | .Or,true=>pure v | _,_=>boolOp pos .And _) _ s
   refine Wp.bind ((h env A F s hE hR hO hV).imp fun v s₁ ⟨F₁,g,r⟩=>wpAny_bind (wpAny_standAt (wpAny_bind (wpAny_holding ?_))))
   rw[r.bool_inv]
   exact wpAny_truthy_bool ((ih F₁ s₁ (hO.grow g) (hV.grow g)).imp fun _ _ ⟨F',g',r'⟩=>⟨F',g.trans g',r'⟩)
theorem o_is_none:Op2 C (compareOp .Is) .none .none (.bool true):=fun A F s va vb J hO ha hb=>by
 rw[ha.none_inv,hb.none_inv]
 exact smBool hO fun Q h=>wpAny_bind (m:=isSame .none .none) (wpAny_pure (a:=true) (wpAny_pure h))
theorem o_is_int {i:Int}:Op2 C (compareOp .Is) (.int i) .none (.bool false):=fun A F s va vb J hO ha hb=>by
 obtain⟨t,rfl⟩:=ha.int_inv
 rw[hb.none_inv]
 exact smBool hO fun Q h=>wpAny_bind (m:=isSame (.int i t) .none) (wpAny_pure (a:=false) (wpAny_pure h))
theorem o_notin_str {x y:Str}{b:Bool}(hb:(Builtin.Str.occurrences x y 0 x.length 1).isEmpty=b):Op2 C (compareOp .NotIn) (.str y) (.str x) (.bool b):=fun A F s va vb J hO ha hb'=>by
 obtain⟨t,rfl⟩:=ha.str_inv;obtain⟨u,rfl⟩:=hb'.str_inv
 exact smBool hO fun Q h=>P.notIn_str (by rw[hb,Bool.not_not];exact h)
theorem strKind_inv {k:Str}{v:Value}(h:(PySem.strKind C.prog C.w).is k v=true):∃t,v=.str k t:=by
 cases v <;> first | (simp[PySem.strKind,Value.isStrOf] at h) | skip
 all_goals first | exact⟨_,by rw[h]⟩ | skip
theorem valueAt_none {K:Type}[DecidableEq K]:∀{ks:List K}{vs:List Value}{k:K},k∉ks→valueAt (ks.zip vs) k=none
 | [],_,_,_=>by simp[valueAt]
 | _::_,[],_,_=>by simp[valueAt]
 | k'::ks,v::vs,k,h=>by
  have h1:k'≠k:=fun e=>h (e▸List.mem_cons_self)
  have h2:=valueAt_none (ks:=ks) (vs:=vs) (k:=k) fun m=>h (List.mem_cons_of_mem _ m)
  simp only[valueAt,List.zip_cons_cons,List.find?_cons,h1,decide_false] at h2 ⊢
  exact h2
theorem valueAt_mem {K:Type}[DecidableEq K] {ks:List K}{vs:List Value}{k:K}(hl:ks.length=vs.length) (hn:ks.Nodup):(valueAt (ks.zip vs) k).isSome=decide (k∈ks):=by
 by_cases h:k∈ks
 ·obtain⟨i,hi,rfl⟩:=List.getElem_of_mem h
  rw[valueAt_zip hl hn (List.getElem?_eq_getElem hi) (List.getElem?_eq_getElem (Nat.lt_of_lt_of_eq hi hl:i<vs.length))]
  simp
 ·rw[valueAt_none h];simp[h]
theorem tr_inS {l r:Expr}{pos:Pos}{k:Str}{ks:List Str}{ds:List D}(h1:Ex C n sc Γ l (.str k)) (h2:ExH C n sc Γ r (.dictS ks ds)) (hm:autoParam (behindInMarks .In r=false) wu):Tr C n sc Γ (.Compare l [.In] [r] pos) (decide (k∈ks)):=by
 intro env A F s hE hR hO hV
 refine wpAny_isTrue_Compare1 ((h1 env A F s hE hR hO hV).imp fun va s₁ ⟨F₁,g₁,r₁⟩=>(h2 env A F₁ s₁ hE hR (hO.grow g₁) (hV.grow g₁)).imp fun vb s₂ ⟨F₂,g₂,r₂⟩=>?_) hm
 obtain⟨t,rfl⟩:=r₁.str_inv
 obtain⟨a,es,n',vs,rfl,h,hr⟩:=r₂.dictS (hO.grow (g₁.trans g₂)).inn
 refine wpAny_in_of (strKind_is _ _ _ _) (not_sys h.z) h.dictOf.mapOf ?_
 rw[valueAt_mem h.len h.nd]
 exact wpAny_truthy_bool ⟨rfl,F₂,(g₁.trans g₂).trans (.tok (hO.grow (g₁.trans g₂)).inn)⟩
theorem c_isinst_int {i:Int}:Calls C n (.builtin "isinstance") [.int i,.ty "int"] (.bool true):=by
 intro A F s vs hR hO hr
 cases hr with
 | cons r1 r2=>
 cases r2 with
 | cons r2 r3=>
 cases r3;cases r2
 obtain⟨t,rfl⟩:=r1.int_inv
 exact smBool hO fun Q h=>call_isinstance_yes (typeIs_int s i t) (by first | rfl | kernel_rfl) (by first | rfl | (rw[isSubtype_type];kernel_rfl)) h
end
end
section
set_option backward.match.sparseCases false
section
variable {C:Cx}{n:Nat}{sc:Scope}{Γ:Gm}
theorem c_isinst_tuple {i:Int}:Calls C n (.builtin "isinstance") [.int i,.ty "tuple"] (.bool false):=by
 intro A F s vs hR hO hr
 cases hr with
 | cons r1 r2=>
 cases r2 with
 | cons r2 r3=>
 cases r3;cases r2
 obtain⟨t,rfl⟩:=r1.int_inv
 exact call_isinstance (isinstance_false_int (by decide) (by first | rfl | kernel_rfl) (by first | rfl | (rw[isSubtype_type];kernel_rfl))) ⟨F,.tok hO.inn,.bool _⟩
theorem c_isinst_bool {i:Int}:Calls C n (.builtin "isinstance") [.int i,.ty "bool"] (.bool false):=by
 intro A F s vs hR hO hr
 cases hr with
 | cons r1 r2=>
 cases r2 with
 | cons r2 r3=>
 cases r3;cases r2
 obtain⟨t,rfl⟩:=r1.int_inv
 exact call_isinstance (isinstance_false_int (by decide) (by first | rfl | kernel_rfl) (by first | rfl | (rw[isSubtype_type];kernel_rfl))) ⟨F,.tok hO.inn,.bool _⟩
theorem ex_ty {x:Str}{p:Pos}{T:String}(hb:bootBuiltins x=some (.type T)) (hg:C.mg x=none) (hx:autoParam (isBuiltinName sc x=true) kr):Ex C n sc Γ (.Name x p) (.ty T):=by
 intro env A F s hE hR hO hV
 exact name_builtin hE hO hx hg hb ⟨F,.refl hO.inn,.ty T⟩
noncomputable def tyOf:D→String
 | .str _=>"str"
 | .bytes _=>"bytes"
 | .list _=>"list"
 | .tuple _=>"tuple"
 | .dictS ..=>"dict"
 | .dictI ..=>"dict"
 | _=>""
theorem obj_ty {s:Shared}{v:Value}{a:Addr}{ob:Obj}{T:String}(e:v=.ref a) (ho:s.heap.get? a=some ob) (hc:ob.cls=.type T) (hd:ob.dict=none):s.TypeIs v T∧∀b,v=.ref b→∃ob,s.heap.get? b=some ob∧ob.dict=none:=by
 rw[e];exact⟨⟨_,ho,hc⟩,fun J h=>by cases h;exact⟨_,ho,hd⟩⟩
theorem hr_type {F:FZ}{s:Shared}{v:Value}{d:D}(h:HR C F s.heap v d) (i:F.In s.heap) (hd:tyOf d≠""):s.TypeIs v (tyOf d)∧∀a,v=.ref a→∃ob,s.heap.get? a=some ob∧ob.dict=none:=by
 rcases h with h | ⟨k,a,o,e,e',hm,ho,hx⟩
 ·have h:=h.inv
  cases d with
  | str x=>obtain⟨t,e⟩:=h;rw[e];exact⟨typeIs_str s x t,fun J e=>nomatch e⟩
  | bytes x=>obtain⟨t,e⟩:=h;rw[e];exact⟨rfl,fun J e=>nomatch e⟩
  | list | tuple=>obtain⟨a,vs,n,e,ho,_⟩:=h;exact obj_ty e (i _ _ ho) rfl rfl
  | dictS | dictI=>obtain⟨a,es,n,vs,e,ho,_⟩:=h;exact obj_ty e (i _ _ ho.is) rfl rfl
  | _=>exact absurd rfl hd
 ·rw[e']
  cases k with
  | l=>obtain⟨vs,k,e2,r⟩:=hx;exact obj_ty e ho (by rw[e2];rfl) (by rw[e2])
  | s | i=>obtain⟨es,k,vs,h,_⟩:=hx;exact obj_ty e ho (by rw[h.is];rfl) (by rw[h.is])
theorem all_backTo {es:List Expr}{ds:List D}(h:Exs C n sc Γ es ds) (env:Env) (pos:Pos):(backTo pos (starEach es env)).all (fun x=>!x.1)=true:=by
 have:=any_backTo h env pos
 rw[List.all_eq_not_any_not]
 simpa using this
structure MId (T:String) (name:Str) (id:String):Prop where
 plain:PlainAttrs T
 slot:PySem.Slot T name id
 ty:typeOf (.builtin id)=pure (.type "method_descriptor")
theorem ex_meth_raw {o:Expr}{name:Str}{apos pos:Pos}{es:List Expr}{a:D}{ds:List D}{id:String}(h1:ExH C n sc Γ o a) (h2:Exs C n sc Γ es ds) (hid:MId (tyOf a) name id) (hT:tyOf a≠"")
  (hbase:∀env,attributeBase o name env (eval o env)=eval o env) (hline:(apos.endLine==pos.line)=true) (hlen:es.length<30)
  {env:Env} {A:Around} {F:FZ} {s:Shared} {Q:Value→Shared→Prop} (hE:gE sc env) (hR:Room n A) (hO:Ok C F s) (hV:EnvOk C F s env Γ)
  (k:∀va vs F' s',Grow F F' s s'→HR C F' s'.heap va a→RA C F' vs ds→Wp C A (call (.builtin id) (va::vs)) Q s'):Wp C A (eval (.Call (.Attribute o name apos) es [] pos) env) Q s:=by
 refine wpAny_Call_method_late (hbase env) ?_ hline rfl ((h1 env A F s hE hR hO hV).imp fun va s₁ ⟨F₁,g₁,r₁⟩=>?_)
 ·rw[all_backTo h2]
  exact decide_eq_true hlen
 ·have O₁:=hO.grow g₁
  obtain⟨hTy,hdict⟩:=hr_type r₁ O₁.inn hT
  refine⟨tyOf a,id,hid.plain,hid.slot,hid.ty,hTy,hdict,callWith_machine (fun J e=>nomatch e) (any_backTo h2 env pos) ?_⟩
  refine(evalArgs_run h2 hE hR O₁ (hV.grow g₁)).imp fun q s₂ hZ=>?_
  obtain⟨e,F₂,g₂,r₂⟩:=hZ
  rw[e]
  exact k va q.pos F₂ s₂ (g₁.trans g₂) (r₁.keep g₂.le g₂.keep) r₂
noncomputable def Meth (C:Cx) (n:Nat) (id:String) (a:D) (ds:List D) (d:D):Prop:=∀(A:Around) (F:FZ) (s:Shared) (va:Value) (vs:List Value),Room n A→Ok C F s→HR C F s.heap va a→RA C F vs ds→Sm C A F s (call (.builtin id) (va::vs)) d
theorem ex_meth {o:Expr}{name:Str}{apos pos:Pos}{es:List Expr}{a:D}{ds:List D}{id:String}{d:D}(h1:ExH C n sc Γ o a) (h2:Exs C n sc Γ es ds) (hid:MId (tyOf a) name id) (hm:Meth C n id a ds d) (hT:autoParam ((tyOf a=="")=false) kr)
  (hbase:autoParam (∀env,attributeBase o name env (eval o env)=eval o env) i1) (hline:autoParam ((apos.endLine==pos.line)=true) kr) (hlen:autoParam (es.length<30) nb):Ex C n sc Γ (.Call (.Attribute o name apos) es [] pos) d:=by
 intro env A F s hE hR hO hV
 exact ex_meth_raw h1 h2 hid (fun e=>absurd hT (by rw[e];decide)) hbase hline hlen hE hR hO hV fun va vs F' s' g r rs=>(hm A F' s' va vs hR (hO.grow g) r rs).grow g
theorem id_join {x:Str}:MId (tyOf (.str x)) "join" "str.join":=⟨PySem.F.plainAttrs_str,PySem.F.slot_str_join,PySem.F.type_str_join⟩
theorem id_split {x:Str}:MId (tyOf (.str x)) "split" "str.split":=⟨PySem.F.plainAttrs_str,PySem.F.slot_str_split,PySem.F.type_str_split⟩
theorem id_encode {x:Str}:MId (tyOf (.str x)) "encode" "str.encode":=⟨PySem.F.plainAttrs_str,PySem.F.slot_str_encode,PySem.F.type_str_encode⟩
theorem id_decode {x:Array UInt8}:MId (tyOf (.bytes x)) "decode" "bytes.decode":=⟨FB.plainAttrs_bytes,FB.slot_bytes_decode,FB.type_bytes_decode⟩
theorem id_get {ks:List Str}{ds:List D}:MId (tyOf (.dictS ks ds)) "get" "dict.get":=⟨PySem.F.plainAttrs_dict,PySem.F.slot_dict_get,PySem.F.type_dict_get⟩
theorem strs_val {F:FZ}{vs:List Value}{xs:List Str}(h:RA C F vs (xs.map .str)):∃l:List (Str×Tok),vs=strValues l∧l.map (·.1)=xs:=by
 induction xs generalizing vs with
 | nil=>rw[h.nil_inv];exact⟨[],rfl,rfl⟩
 | cons x xs ih=>
  obtain⟨v,ws,rfl,a,r⟩:=h.cons_inv
  obtain⟨t,rfl⟩:=a.str_inv
  obtain⟨l,rfl,h2⟩:=ih r
  exact⟨(x,t)::l,rfl,congrArg (x::·) h2⟩
theorem m_join {x:Str}{xs:List Str}(hok:JoinOk x xs=true):Meth C n "str.join" (.str x) [.list (xs.map .str)] (.str (Txt.join x xs)):=by
 intro A F s va vs hR hO ha hr
 obtain⟨t,rfl⟩:=ha.str.str_inv
 obtain⟨_,rfl,r1⟩:=hr.one_inv
 obtain⟨a,ws,k,rfl,ea,ra⟩:=r1.list_inv
 obtain⟨l,rfl,hl⟩:=strs_val ra
 exact Wp.up (SC.join ⟨_,hO.inn _ _ ea,rfl,_,rfl⟩ hl hok fun t' k up=>⟨F,.tok hO.inn up.t,.str _ _⟩)
theorem strsFrom_ra {F:FZ}:∀(xs:List Str) (t:Nat),RA C F (strsFrom t xs) (xs.map .str)
 | [],_=>.nil
 | x::xs,t=>.cons (.str x t) (strsFrom_ra xs (t+1))
theorem m_split {x y:Str}(hy:(y.length==0)=false) (hz:x.length≤4096) (hz2:(Builtin.Str.partsBetween x (Builtin.Str.occurrences x y 0 x.length (x.length+1)) y.length).length≤4096) :
  Meth C n "str.split" (.str x) [.str y] (.list ((Txt.split x y).map .str)):=by
 intro A F s va vs hR hO ha hr
 obtain⟨t,rfl⟩:=ha.str.str_inv
 obtain⟨_,rfl,r1⟩:=hr.one_inv
 obtain⟨u,rfl⟩:=r1.str_inv
 have h4:(4096:Nat)≤sizeLine:=by decide
 have one:∀(Q:Value→Shared→Prop),(∀F' v s',Grow F F' s s'→R C F' v (.list [.str x])→Q v s')→listOfItself x t A (wants Q fun J J=>False) s:=fun Q h=>by
  obtain⟨F',g,r⟩:=new_list (tk:=s.toks) (k:=0) hO.inn (RA.one (.str (C:=C) (F:=F) x t))
  exact h F' _ _ g r
 cases h1:(decide (x.length<y.length)||decide (Builtin.Str.strKind x<Builtin.Str.strKind y)) with
 | true=>
  have e:Txt.split x y=[x]:=by unfold Txt.split;rw[h1];rfl
  rw[e]
  exact call_meets PySem.F.slot_str_split (typeIs_str _ _ _) PySem.F.entry_str_split (PySem.F.args_str_split_2 _ _) (meets_str_split_cannot_occur x y t u h1) (one _ fun F' v s' g r=>⟨F',g,r⟩)
 | false=>
  cases hf:(Builtin.Str.occurrences x y 0 x.length (x.length+1)).isEmpty with
  | true=>
   have e:Txt.split x y=[x]:=by unfold Txt.split;rw[h1,hf];rfl
   rw[e]
   exact call_meets PySem.F.slot_str_split (typeIs_str _ _ _) PySem.F.entry_str_split (PySem.F.args_str_split_2 _ _) (meets_str_split_not_found x y t u h1 hy hf) (one _ fun F' v s' g r=>⟨F',g,r⟩)
  | false=>
   have e:Txt.split x y=Builtin.Str.partsBetween x (Builtin.Str.occurrences x y 0 x.length (x.length+1)) y.length:=by unfold Txt.split;rw[h1,hf];rfl
   rw[e]
   refine call_meets PySem.F.slot_str_split (typeIs_str _ _ _) PySem.F.entry_str_split (PySem.F.args_str_split_2 _ _) (meets_str_split_sep x y t u h1 hy hf (Nat.le_trans hz h4) (Nat.le_trans hz2 h4)) ?_
   obtain⟨F',g,r⟩:=new_list (tk:=s.toks+(Builtin.Str.partsBetween x (Builtin.Str.occurrences x y 0 x.length (x.length+1)) y.length).length) (k:=0) hO.inn (strsFrom_ra (C:=C) (F:=F) (Builtin.Str.partsBetween x (Builtin.Str.occurrences x y 0 x.length (x.length+1)) y.length) s.toks) (Nat.le_add_right _ _)
   exact⟨F',g,r⟩
noncomputable def splitMax (x y:Str) (k:Int):List Str:=
 if (decide (x.length<y.length)||decide (Builtin.Str.strKind x<Builtin.Str.strKind y))=true then [x]
 else if (Builtin.Str.occurrences x y 0 x.length (limitOf x k)).isEmpty=true then [x]
 else Builtin.Str.partsBetween x (Builtin.Str.occurrences x y 0 x.length (limitOf x k)) y.length
theorem m_splitMax {x y:Str}{k:Int}(hy:(y.length==0)=false) (hk:0≤k∧k<4096) (hz:x.length≤4096) (hz2:(Builtin.Str.partsBetween x (Builtin.Str.occurrences x y 0 x.length (limitOf x k)) y.length).length≤4096) :
  Meth C n "str.split" (.str x) [.str y,.int k] (.list ((splitMax x y k).map .str)):=by
 intro A F s va vs hR hO ha hr
 obtain⟨t,rfl⟩:=ha.str.str_inv
 obtain⟨_,_,rfl,r1,r2⟩:=hr.two_inv
 obtain⟨u,rfl⟩:=r1.str_inv
 obtain⟨v,rfl⟩:=r2.int_inv
 have hk':(decide (k< -(2^63:Int))||decide (k≥2^63))=false:=by
  rw[Bool.or_eq_false_iff];constructor <;> (apply decide_eq_false;lia)
 have h4:(4096:Nat)≤sizeLine:=by decide
 have one:∀(Q:Value→Shared→Prop),(∀F' v s',Grow F F' s s'→R C F' v (.list [.str x])→Q v s')→listOfItself x t A (wants Q fun J J=>False) s:=fun Q h=>by
  obtain⟨F',g,r⟩:=new_list (tk:=s.toks) (k:=0) hO.inn (RA.one (.str (C:=C) (F:=F) x t))
  exact h F' _ _ g r
 cases h1:(decide (x.length<y.length)||decide (Builtin.Str.strKind x<Builtin.Str.strKind y)) with
 | true=>
  have e:splitMax x y k=[x]:=by unfold splitMax;rw[h1];rfl
  rw[e]
  exact call_meets PySem.F.slot_str_split (typeIs_str _ _ _) PySem.F.entry_str_split (PySem.F.args_str_split_3 _ _ _) (meets_str_split_max_cannot_occur x y k t u v hk' h1) (one _ fun F' v s' g r=>⟨F',g,r⟩)
 | false=>
  cases hf:(Builtin.Str.occurrences x y 0 x.length (limitOf x k)).isEmpty with
  | true=>
   have e:splitMax x y k=[x]:=by unfold splitMax;rw[h1,hf];rfl
   rw[e]
   exact call_meets PySem.F.slot_str_split (typeIs_str _ _ _) PySem.F.entry_str_split (PySem.F.args_str_split_3 _ _ _) (meets_str_split_max_not_found x y k t u v hk' h1 hy hf) (one _ fun F' v s' g r=>⟨F',g,r⟩)
  | false=>
   have e:splitMax x y k=Builtin.Str.partsBetween x (Builtin.Str.occurrences x y 0 x.length (limitOf x k)) y.length:=by unfold splitMax;rw[h1,hf];rfl
   rw[e]
   refine call_meets PySem.F.slot_str_split (typeIs_str _ _ _) PySem.F.entry_str_split (PySem.F.args_str_split_3 _ _ _) (meets_str_split_sep_max x y k t u v hk' h1 hy hf (Nat.le_trans hz h4) (Nat.le_trans hz2 h4)) ?_
   obtain⟨F',g,r⟩:=new_list (tk:=s.toks+(Builtin.Str.partsBetween x (Builtin.Str.occurrences x y 0 x.length (limitOf x k)) y.length).length) (k:=0) hO.inn (strsFrom_ra (C:=C) (F:=F) (Builtin.Str.partsBetween x (Builtin.Str.occurrences x y 0 x.length (limitOf x k)) y.length) s.toks) (Nat.le_add_right _ _)
   exact⟨F',g,r⟩
theorem ex_replace {o:Expr}{apos pos p1 p2:Pos}{k1 k2:Nat}{x y z:Str}(h1:Ex C n sc Γ o (.str x)) (hyz:(y==z)=false) (hx:x.length≤4096) (hz:z.length≤14)
  (hbase:autoParam (∀env,attributeBase o "replace" env (eval o env)=eval o env) i1) (hline:autoParam ((apos.endLine==pos.line)=true) kr) :
  Ex C n sc Γ (.Call (.Attribute o "replace" apos) [.Constant (.str y) k1 p1,.Constant (.str z) k2 p2] [] pos) (.str (Txt.replace x y z)):=by
 intro env A F s hE hR hO hV
 refine wpAny_Call_method2_late (hbase env) hline rfl ((h1 env A F s hE hR hO hV).imp fun va s₁ hZ=>?_)
 obtain⟨F₁,g₁,r₁⟩:=hZ
 have O₁:=hO.grow g₁
 obtain⟨t,rfl⟩:=r₁.str_inv
 refine⟨"str","str.replace",PySem.F.plainAttrs_str,PySem.F.slot_str_replace,PySem.F.type_str_replace,typeIs_str _ _ _,fun J e=>(nomatch e),callWith_machine (fun J e=>nomatch e) rfl ?_⟩
 refine Calls.evalArgs_plain (Calls.spliced_cons (Calls.Constant_str (Calls.spliced_cons (Calls.Constant_str (Calls.spliced_nil ?_)))))
 have ht:=O₁.tok
 refine Wp.up (SC.replaceW (by show s₁.toks≠0;exact Nat.ne_of_gt (Nat.lt_of_succ_le ht)) (by show s₁.toks+1≠0;exact Nat.succ_ne_zero _) (by show s₁.toks≠s₁.toks+1;exact Nat.ne_of_lt (Nat.lt_succ_self _)) hyz (Nat.le_trans hx (by decide)) hz fun t' k up=>?_)
 exact⟨F₁,g₁.trans (.tok O₁.inn (by have:=up.t;simp only at this;exact Nat.le_of_succ_le (Nat.le_of_succ_le this))),.str _ _⟩
theorem m_get {ks:List Str}{ds:List D}{k:Str}{e:D}{d:D}(hd:(∃j:Nat,ks[j]?=some k∧ds[j]?=some d)∨(k∉ks∧d=e)):Meth C n "dict.get" (.dictS ks ds) [.str k,e] d:=by
 intro A F s va vs hR hO ha hr
 obtain⟨_,_,rfl,r1,r2⟩:=hr.two_inv
 obtain⟨t,rfl⟩:=r1.str_inv
 obtain⟨a,es,n',ws,rfl,h,hr⟩:=ha.dictS hO.inn
 have kd:=PySem.F.slot_dict_get
 refine call_meetsIn PySem.F.slot_dict_get h.dictOf.typeIs PySem.F.entry_dict_get (PySem.F.args_dict_get_3 _ _ _) (meets_dict_get_default (PySem.strKind C.prog C.w) a (strKind_is _ _ _ _) (not_sys h.z) _) ⟨_,h.dictOf.mapOf,?_⟩
 rcases hd with ⟨j,h1,h2⟩ | ⟨h1,rfl⟩
 ·obtain⟨w,hw,hrw⟩:=hr.get? h2
  rw[valueAt_zip h.len h.nd h1 hw]
  exact⟨F,.tok hO.inn,hrw⟩
 ·rw[valueAt_none h1]
  exact⟨F,.tok hO.inn,r2⟩
end
end
section
section
variable {C:Cx}{n:Nat}{sc:Scope}{Γ:Gm}
theorem DAt.dictAt {K:Type}[DecidableEq K] {knd:KeyKind C.prog C.w K}{h:Heap}{a:Addr}{es:Array DictEntry}{n:Nat}{vs:List Value}{ks:List K}(x:DAt knd (h.get? a) a es n vs ks):h.DictAt knd a (ks.zip vs) n:=
 ⟨_,es,x.is,⟨rfl,rfl,rfl⟩,rfl,x.keys,x.pairs,by rw[zip_fst x.len];exact x.nd⟩
theorem zip_get {α β:Type}{ks:List α}{vs:List β}{i:Nat}{k:α}{v:β}(h:(ks.zip vs)[i]?=some (k,v)):ks[i]?=some k∧vs[i]?=some v:=by
 rw[List.getElem?_zip_eq_some] at h;exact h
theorem it_values {o:Expr}{apos pos:Pos}{ks:List Str}{ds:List D}{cm:Bool}(h1:Ex C n sc Γ o (.dictS ks ds)) (hbase:autoParam (∀env,attributeBase o "values" env (eval o env)=eval o env) i1) (hline:autoParam ((apos.endLine==pos.line)=true) kr) :
  It C n sc Γ cm (.Call (.Attribute o "values" apos) [] [] pos) false (ds.map fun d=>[d]):=by
 intro env A F s hE hR hO hV
 refine wpAny_Call_method0_late (hbase env) hline ((h1 env A F s hE hR hO hV).imp fun va s₁ hZ=>?_)
 obtain⟨F₁,g,r⟩:=hZ
 have O₁:=hO.grow g
 obtain⟨a,es,ep,vs,rfl,hdt,ra⟩:=r.dictS_inv
 have ea:=hdt.is
 have hdt':=hdt.to (O₁.inn _)
 have hat:=hdt'.dictAt
 have hdo:=hdt'.dictOf
 refine⟨"dict","dict.values",PySem.F.plainAttrs_dict,PySem.F.slot_dict_values,PySem.F.type_dict_values,hdo.typeIs,fun b hb=>(by cases hb;exact⟨_,hdt'.is,rfl⟩),callWith_machine (fun J e=>nomatch e) rfl ?_⟩
 refine wpAny_pure (a:=(⟨[],[]⟩:Args)) ?_
 refine call_meetsIn PySem.F.slot_dict_values hdo.typeIs PySem.F.entry_dict_values (PySem.F.args_dict_values_1 _) (meets_dict_values (PySem.strKind C.prog C.w) a (not_sys hdt.z)) ⟨⟨_,hdo⟩,?_⟩
 generalize hH:s₁.heap.push { cls:=.type "dict_values",data:=.fields #[.ref a] }=H
 have hz:H.objs.size=s₁.heap.objs.size+1:=by rw[← hH];exact Heap.size_push ..
 have hview:H.IsValuesView s₁.heap.objs.size a:=⟨_,by rw[← hH];exact Heap.get?_push_size _ rfl,rfl,rfl⟩
 have hatH:H.DictAt (PySem.strKind C.prog C.w) a (ks.zip vs) ep:=by rw[← hH];exact hat.push _
 have g2:Grow F F₁ s { s₁ with heap:=H }:=g.trans (.same g.inn (fun b o e=>by rw[← hH];exact Heap.get?_push_of_some _ e) (by rw[hz];exact Nat.le_succ _))
 refine wpAny_pyIter_values (s:={ s₁ with heap:=H }) hview hatH ?_
 have hlt:a<s₁.heap.objs.size:=Heap.lt_size (O₁.inn _ _ ea)
 have hne:a≠H.objs.size:=Nat.ne_of_lt (by rw[hz];exact Nat.lt_succ_of_lt hlt)
 have hI:F₁ H.objs.size=none:=g2.inn.none (Nat.le_refl _)
 have hsz:=g2.size
 generalize hH2:H.push { cls:=.type "dict_valueiterator",data:=.fields #[.ref a,.int 0 0,.int (ks.zip vs).length 0,.int ep 0] }=H2
 have hz2:H2.objs.size=H.objs.size+1:=by rw[← hH2];exact Heap.size_push ..
 have g3:Grow F F₁ s { s₁ with heap:=H2 }:=g2.trans (.same (s:={ s₁ with heap:=H }) g2.inn (fun b o e=>by rw[← hH2];exact Heap.get?_push_of_some _ e) (by rw[hz2];exact Nat.le_succ _))
 have W:=Walks.dictValues (prog:=C.prog) (w:=C.w) (A:=A) (knd:=PySem.strKind C.prog C.w) hR.handled H.objs.size a hne (ks.zip vs) ep
 have ft:Foot F₁ (if cm=true then 0 else s.heap.objs.size) s.heap.objs.size (H.objs.size+1) [H.objs.size,a] [H.objs.size]:=
  foot1 (Nat.le_trans (klo_le cm _) hsz) hsz (Nat.lt_succ_self _) hI (.inl ⟨_,ea⟩)
 have key:=src_walks (C:=C) (glo:=s.gens.size) (ghi:=s₁.gens.size) W ft (ds:=ds) (by rw[List.length_zip,hdt.len,Nat.min_self,ra.length]) (fun i v d hv hd=>by
  obtain⟨k,hk⟩:=hv
  obtain⟨w',hw',hr'⟩:=ra.get? hd
  rw[(zip_get hk).2] at hw';cases hw';exact hr')
 rw[← hz2] at key
 refine⟨F₁,_,g3,?_,key⟩
 refine SOf.start (s:={ s₁ with heap:=H2 }) ⟨?_,?_⟩ g3.inn
 ·exact⟨_,by rw[← hH2];exact Heap.get?_push_size _ rfl,rfl,rfl⟩
 ·rw[← hH2];exact hatH.push _
theorem it_items {o:Expr}{apos pos:Pos}{ks:List Str}{ds:List D}{cm:Bool}(h1:Ex C n sc Γ o (.dictS ks ds)) (hbase:autoParam (∀env,attributeBase o "items" env (eval o env)=eval o env) i1) (hline:autoParam ((apos.endLine==pos.line)=true) kr) :
  It C n sc Γ cm (.Call (.Attribute o "items" apos) [] [] pos) true ((ks.zip ds).map fun p=>[.str p.1,p.2]):=by
 intro env A F s hE hR hO hV
 refine wpAny_Call_method0_late (hbase env) hline ((h1 env A F s hE hR hO hV).imp fun va s₁ hZ=>?_)
 obtain⟨F₁,g,r⟩:=hZ
 have O₁:=hO.grow g
 obtain⟨a,es,ep,vs,rfl,hdt,ra⟩:=r.dictS_inv
 have ea:=hdt.is
 have hdt':=hdt.to (O₁.inn _)
 have hat:=hdt'.dictAt
 have hdo:=hdt'.dictOf
 refine⟨"dict","dict.items",PySem.F.plainAttrs_dict,PySem.F.slot_dict_items,PySem.F.type_dict_items,hdo.typeIs,fun b hb=>(by cases hb;exact⟨_,hdt'.is,rfl⟩),callWith_machine (fun J e=>nomatch e) rfl ?_⟩
 refine wpAny_pure (a:=(⟨[],[]⟩:Args)) ?_
 refine call_meetsIn PySem.F.slot_dict_items hdo.typeIs PySem.F.entry_dict_items (PySem.F.args_dict_items_1 _) (meets_dict_items (PySem.strKind C.prog C.w) a (not_sys hdt.z)) ⟨⟨_,hdo⟩,?_⟩
 generalize hH:s₁.heap.push { cls:=.type "dict_items",data:=.fields #[.ref a] }=H
 have hz:H.objs.size=s₁.heap.objs.size+1:=by rw[← hH];exact Heap.size_push ..
 have hview:H.IsItemsView s₁.heap.objs.size a:=⟨_,by rw[← hH];exact Heap.get?_push_size _ rfl,rfl,rfl⟩
 have hatH:H.DictAt (PySem.strKind C.prog C.w) a (ks.zip vs) ep:=by rw[← hH];exact hat.push _
 have g2:Grow F F₁ s { s₁ with heap:=H }:=g.trans (.same g.inn (fun b o e=>by rw[← hH];exact Heap.get?_push_of_some _ e) (by rw[hz];exact Nat.le_succ _))
 refine wpAny_pyIter_items (s:={ s₁ with heap:=H }) hview hatH ?_
 have hlt:a<s₁.heap.objs.size:=Heap.lt_size (O₁.inn _ _ ea)
 have hne:a≠H.objs.size:=Nat.ne_of_lt (by rw[hz];exact Nat.lt_succ_of_lt hlt)
 have hI:F₁ H.objs.size=none:=g2.inn.none (Nat.le_refl _)
 have hsz:=g2.size
 generalize hH2:H.push { cls:=.type "dict_itemiterator",data:=.fields #[.none,.bool false,.ref a,.int 0 0,.int (ks.zip vs).length 0,.int ep 0,.none,.none] }=H2
 have hz2:H2.objs.size=H.objs.size+1:=by rw[← hH2];exact Heap.size_push ..
 have g3:Grow F F₁ s { s₁ with heap:=H2 }:=g2.trans (.same (s:={ s₁ with heap:=H }) g2.inn (fun b o e=>by rw[← hH2];exact Heap.get?_push_of_some _ e) (by rw[hz2];exact Nat.le_succ _))
 have ft:Foot F₁ (if cm=true then 0 else s.heap.objs.size) s.heap.objs.size H2.objs.size [H.objs.size,a] [H.objs.size]:=by
  rw[hz2];exact foot1 (Nat.le_trans (klo_le cm _) hsz) hsz (Nat.lt_succ_self _) hI (.inl ⟨_,ea⟩)
 let St:Nat→Heap→Prop:=fun i h=>(∃ok ov,IsItemIter h H.objs.size a i (ks.zip vs).length ep ok ov)∧h.DictAt (PySem.strKind C.prog C.w) a (ks.zip vs) ep
 have frame:∀i h h',St i h→(∀b∈[H.objs.size,a],∀o,h.get? b=some o→h'.get? b=some o)→St i h':=fun i h h' ⟨⟨ok,ov,h1⟩,h2⟩ hk=>
  ⟨⟨ok,ov,hk _ (by simp) _ h1⟩,h2.at fun o e=>hk a (by simp) o e⟩
 refine⟨F₁,SOf F₁ [H.objs.size,a] St,g3,SOf.start (s:={ s₁ with heap:=H2 }) ⟨⟨.none,.none,by rw[← hH2];exact Heap.get?_push_size _ rfl⟩,by rw[← hH2];exact hatH.push _⟩ g3.inn,?_⟩
 have hlen:(ks.zip ds).length=(ks.zip vs).length:=by simp[ra.length]
 refine⟨fun i s s' x l=>x.left ft l,fun i s' row hO' x hr J J=>?_,fun s' hO' x J J=>?_,fun i s' Q hO' x q=>?_⟩
 ·obtain⟨⟨ok,ov,hit⟩,hm⟩:=x.now frame hO'.inn
  rw[List.getElem?_map] at hr
  obtain⟨⟨k,d⟩,hkd,rfl⟩:=Option.map_eq_some_iff.mp hr
  obtain⟨hk,hd⟩:=zip_get hkd
  obtain⟨v,hv,hrv⟩:=ra.get? hd
  have hx:(ks.zip vs)[i]?=some (k,v):=List.getElem?_zip_eq_some.mpr ⟨hk,hv⟩
  refine wpAny_pyNext_items_item hit hm hx fun key h' hkey heo ht hz' hkp=>⟨_,rfl,fun h=>(nomatch h),fun J elts y ps=>?_⟩
  refine wpAny_letOwnedTupleGo_items (s:={ s' with heap:=h' }) heo fun h'' he hs=>?_
  obtain⟨t,rfl⟩:=strKind_inv hkey
  have hIlt:H.objs.size<s'.heap.objs.size:=Heap.lt_size hit
  have hk2:∀(b:Nat) o,b≠H.objs.size→s'.heap.get? b=some o→h''.get? b=some o:=fun b o hb e=>hs.extBut b o hb (hkp b o hb e)
  have mv:Moves F₁ s.heap.objs.size H2.objs.size s.gens.size s₁.gens.size s' { s' with heap:=h'' }:=moves_of (tk:=s'.toks) ft fun b o hb e=>hk2 b o (fun q=>hb (by simp[q])) e
  refine⟨⟨_,[.str k t,v],rfl,⟨_,hs.extBut _ _ (Nat.ne_of_gt hIlt) ht,rfl,_,rfl⟩,.cons (.str _ _) (.cons hrv .nil)⟩,?_,mv⟩
  exact SOf.start (s:={ s' with heap:=h'' }) ⟨⟨_,_,he⟩,hm.at fun o e=>hk2 a o hne e⟩ (mv.inn hO'.inn)
 ·obtain⟨⟨ok,ov,hit⟩,hm⟩:=x.now frame hO'.inn
  refine wpAny_pyNext_items_end hR.handled (kvs:=ks.zip vs) hit hm (by rw[List.length_map,hlen];simp) fun h' he=>⟨rfl,?_⟩
  exact moves_of (tk:=s'.toks) ft fun b o hb e=>he b o (fun q=>hb (by simp[q])) e
 ·obtain⟨⟨ok,ov,hit⟩,hm⟩:=x.now frame hO'.inn
  exact PySem.W.kcp_self hit q
end
section
variable {C:Cx}{n:Nat}{sc:Scope}{Γ Γ':Gm}
theorem setItem_exact {A:Around}{s:Shared}{l:Addr}{vs:List Value}{n:Nat}{k:Int}{t:Tok}{v:Value}{Q:Unit→Shared→Prop}(ho:s.heap.get? l=some (lObj vs n)) (h0:0≤k) (hfit:k<2^63) (hn:k<vs.length)
  (hQ:∀h' n',h'.get? l=some (lObj (vs.set k.toNat v) n')→Heap.SameBut l s.heap h'→Q () { s with heap:=h' }):Wp C A (setItem (.ref l) (.int k t) v) Q s:=by
 have hl:s.heap.IsList l vs.toArray:=⟨_,ho,rfl,_,rfl⟩
 have hd:(lObj vs n).data=.seq vs.toArray n:=rfl
 unfold setItem
 try with_reducible refine wpAny_holding ?_
 first | refine wpAny_bind (wpAny_pure ?_) | skip
 refine wpAny_bind (wpAny_sequenceKey hl.typeIs (by decide) ?_)
 refine wpAny_bind (wpAny_callSpecial?_slot (name:=Str.ofString "__setitem__") hl.typeIs slot_list_setitem
  (wpAny_call_entry slot_list_setitem hl.typeIs entry_list_setitem ?_ (args_list_setitem _ _ _)))
 show wpAny _ _ (Builtin.List.listSubscript? (.int k t)>>=_) _ _ s
 refine wpAny_bind (wpAny_listSubscript_int (fitsIndex_of h0 hfit) ?_)
 clear hfit
 obtain⟨j,rfl⟩:=Int.eq_ofNat_of_zero_le h0
 have hj:j<vs.toArray.size:=by simp;lia
 have hx':vs.toArray[j]?=some vs.toArray[j]:=Array.getElem?_eq_getElem hj
 show wpAny _ _ ((seqItemAt l j>>=fun r=>pure (r.map (j,·)))>>=_) _ _ s
 refine wpAny_bind (wpAny_bind (wpAny_seqItemAt ho hd (wpAny_pure ?_)))
 rw[hx']
 show wpAny _ _ (setSeqItemAt l j v>>=_) _ _ s
 have hgen:∀(its:Array Value) (f:Array Value→Array Value),∃n',Obj.mapSeq f { cls:=.type "list",data:=.seq its n }=({ cls:=.type "list",data:=.seq (f its) n' }:Obj):=fun its f=>⟨_,rfl⟩
 obtain⟨n',hn'⟩:=hgen vs.toArray (·.setIfInBounds j v)
 have hfin:(s.heap.update l (Obj.mapSeq (·.setIfInBounds j v))).get? l=some (lObj (vs.set j v) n'):=by
  rw[Heap.get?_update_self _ ho rfl]
  show some (Obj.mapSeq (·.setIfInBounds j v) { cls:=.type "list",data:=.seq vs.toArray n })=_
  rw[hn']
  simp[lObj]
 refine wpAny_bind (wpAny_setSeqItemAt ho hd ?_)
 first
  | exact wpAny_bind (wpAny_pure (wpAny_pure ⟨.none,rfl,wpAny_pure (hQ _ _ hfin (Heap.SameBut.update ..))⟩))
  | exact wpAny_pure ⟨.none,rfl,wpAny_pure (hQ _ _ hfin (Heap.SameBut.update ..))⟩
theorem RA.set {F:FZ}{v:Value}{d:D}(hv:R C F v d) {vs:List Value}{ds:List D}(k:Nat) (r:RA C F vs ds):RA C F (vs.set k v) (ds.set k d):=by
 refine RA.ind (P:=fun vs ds=>∀k,RA C F (vs.set k v) (ds.set k d)) (fun J=>.nil) (fun w vs e ds a r ih k=>?_) r k
 cases k with
 | zero=>exact .cons hv r
 | succ k=>exact .cons a (ih k)
theorem ml_new {F:FZ}{h h':Heap}{a:Addr}{ds ds':List D}{vs:List Value}{n:Nat}(ho:h'.get? a=some (lObj vs n)) (r:RA C F vs ds') (w:Value) (hw:SlotR C F h w (.ml a ds)):SlotR C F h' w (.ml a ds'):=by
 obtain⟨e,_⟩:=hw.inv;rw[e];exact .ml ho r
theorem not_interactive {env:Env}(hE:gE sc env):interactive env=false:=by
 unfold interactive;rw[hE.scope,hE.kind];rfl
theorem st_append {x:Str}{p apos pos epos:Pos}{e:Expr}{a:Addr}{ds:List D}{d:D}(he:Ex C n sc Γ e d) (hm:Mut x (.ml a ds) (.ml a (ds++[d])) Γ Γ') (hz:ds.length≤4096) (hs:autoParam (notStar e=true) rf)
  (hv:autoParam (vis sc x=true) kr) (hx:autoParam ((x==("__classdict__":Str))=false) kr) (hd:autoParam ((x==("__debug__":Str))=false) kr) (hline:autoParam ((apos.endLine==pos.line)=true) kr) :
  Step C n sc Γ (.Expr (.Call (.Attribute (.Name x p) "append" apos) [e] [] pos) epos) (.next Γ'):=by
 intro env A F s ex exg hE hR hX
 refine wpAny_Expr_any ?_ (not_interactive hE) rfl
 have htrees:backTo pos (starEach [e] env)=[(false,eval e env)]:=by rw[starEach_cons hs];rfl
 refine wpAny_Call_append rfl (by rw[htrees];rfl) hline htrees ((exh_ml hm.mem.1 hv hx hd env A F s hE hR hX.ok hX.eok).imp fun va s₁ hZ=>?_)
 obtain⟨e1,e2,vs,k,ho,hr⟩:=hZ
 subst e1;subst e2
 refine⟨a,vs.toArray,rfl,⟨_,k,ho,rfl,rfl,rfl⟩,(he env A F s₁ hE hR hX.ok hX.eok).imp fun v s₂ ⟨F₂,g,r⟩=>?_⟩
 have X₂:=hX.grow g
 have ho₂:=g.keep _ _ ho
 have h4:(4096:Nat)≤sizeLine:=by decide
 refine append_at (hsz:=by rw[List.size_toArray,hr.length];exact Nat.le_trans hz (by decide)) ho₂ fun h' hs' ho'=>?_
 have X₃:=X₂.mut (tk:=s₂.toks) hm rfl rfl ho₂ (fun v=>by simp) hs' ⟨_,ho'⟩ (ml_new (vs:=vs++[v]) (n:=k+1) (by rw[ho',List.push_toArray]) ((hr.mono g.le).append (.one r)))
 exact⟨rfl,F₂,(GrowX.of g hX.base).trans (GrowX.mut (tk:=s₂.toks) (X₂.own _ hm.mem.1 a rfl).2.1 hs'),X₃⟩
theorem st_setL {x:Str}{p tp pos:Pos}{i e:Expr}{a:Addr}{ds:List D}{k:Int}{d:D}(he:Ex C n sc Γ e d) (hi:Ex C n sc Γ i (.int k)) (hm:Mut x (.ml a ds) (.ml a (ds.set k.toNat d)) Γ Γ') (h0:0≤k) (hk:k<ds.length) (hl:ds.length≤4096)
  (hw:autoParam (∀env,swapsWith e (some (.Subscript (.Name x p) i tp)) pos.line env=pure false) i1) (hv:autoParam (vis sc x=true) kr) (hx:autoParam ((x==("__classdict__":Str))=false) kr) (hd:autoParam ((x==("__debug__":Str))=false) kr) :
  Step C n sc Γ (.Assign [.Subscript (.Name x p) i tp] e pos) (.next Γ'):=by
 intro env A F s ex exg hE hR hX
 refine wpAny_Assign_Subscript ((he env A F s hE hR hX.ok hX.eok).imp fun v s₁ ⟨F₁,g₁,r⟩=>?_) (hw env)
 have X₁:=hX.grow g₁
 refine(exh_ml hm.mem.1 hv hx hd env A F₁ s₁ hE hR X₁.ok X₁.eok).imp fun va s₂ hZ=>?_
 obtain⟨e1,e2,vs,kk,ho,hr⟩:=hZ
 subst e1;subst e2
 refine(hi env A F₁ s₂ hE hR X₁.ok X₁.eok).imp fun vi s₃ hZ=>?_
 obtain⟨F₃,g₃,r₃⟩:=hZ
 obtain⟨t,rfl⟩:=r₃.int_inv
 have X₃:=X₁.grow g₃
 have ho₃:=g₃.keep _ _ ho
 refine setItem_exact ho₃ h0 (by lia) (by rw[hr.length];exact hk) fun h' n' ho' hs'=>?_
 have X₄:=X₃.mut (tk:=s₃.toks) hm rfl rfl ho₃ (fun v=>by simp) hs' ⟨_,ho'⟩ (ml_new ho' (RA.set (r.mono g₃.le) _ (hr.mono g₃.le)))
 exact⟨rfl,F₃,(GrowX.of (g₁.trans g₃) hX.base).trans (GrowX.mut (tk:=s₃.toks) (X₃.own _ hm.mem.1 a rfl).2.1 hs'),X₄⟩
noncomputable def putK {K:Type}[DecidableEq K] (ks:List K) (k:K):List K:=if k∈ks then ks else ks++[k]
noncomputable def putV {K α:Type}[DecidableEq K] (ks:List K) (vs:List α) (k:K) (v:α):List α:=if k∈ks then List.zipWith (fun k' x=>if k'=k then v else x) ks vs else vs++[v]
theorem putK_nodup {K:Type}[DecidableEq K] {ks:List K}{k:K}(h:ks.Nodup):(putK ks k).Nodup:=by
 unfold putK
 split
 ·exact h
 ·rename_i hk
  rw[List.nodup_append]
  exact⟨h,by simp,fun a ha b hb e=>hk (by simp at hb;rw[← hb,← e];exact ha)⟩
theorem put_len {K α:Type}[DecidableEq K] {ks:List K}{vs:List α}{k:K}{v:α}(h:ks.length=vs.length):(putK ks k).length=(putV ks vs k v).length:=by
 unfold putK putV
 split
 ·simp[h]
 ·simp[h]
theorem stored_zip {K:Type}[DecidableEq K] {ks:List K}{vs:List Value}{k:K}{v:Value}(h:ks.length=vs.length):stored (ks.zip vs) k v=(putK ks k).zip (putV ks vs k v):=by
 have hany:((ks.zip vs).any fun kv=>decide (kv.1=k))=decide (k∈ks):=by
  rw[Bool.eq_iff_iff]
  simp only[List.any_eq_true,decide_eq_true_eq]
  constructor
  ·rintro⟨⟨a,b⟩,hm,rfl⟩;exact(List.of_mem_zip hm).1
  ·intro hk
   obtain⟨i,hi,rfl⟩:=List.getElem_of_mem hk
   exact⟨(ks[i],vs[i]'(Nat.lt_of_lt_of_eq hi h)),by rw[List.mem_iff_getElem];exact⟨i,by simp;lia,by simp⟩,rfl⟩
 unfold stored putK putV
 rw[hany]
 by_cases hk:k∈ks
 ·simp only[hk,decide_true,if_true]
  clear hany hk
  induction ks generalizing vs with
  | nil=>simp
  | cons k' ks ih=>
   cases vs with
   | nil=>simp at h
   | cons x vs=>
    simp only[List.zip_cons_cons,List.map_cons,List.zipWith_cons_cons,List.cons.injEq]
    refine⟨?_,ih (by simpa using h)⟩
    split <;> rfl
 ·simp only[hk,decide_false,Bool.false_eq_true,if_false]
  rw[List.zip_append h];rfl
theorem RA.putZ {K:Type}[DecidableEq K] {F:FZ}{v:Value}{d:D}(hv:R C F v d) {k:K}{ks:List K}{vs:List Value}{ds:List D}(r:RA C F vs ds):RA C F (List.zipWith (fun k' x=>if k'=k then v else x) ks vs) (List.zipWith (fun k' x=>if k'=k then d else x) ks ds):=by
 induction ks generalizing vs ds with
 | nil=>exact .nil
 | cons k' ks ih=>
  cases ds with
  | nil=>rw[r.nil_inv];exact .nil
  | cons e ds=>
   obtain⟨w,ws,rfl,a,r⟩:=r.cons_inv
   rw[List.zipWith_cons_cons,List.zipWith_cons_cons]
   refine .cons ?_ (ih r)
   by_cases h:k'=k
   ·rw[if_pos h,if_pos h];exact hv
   ·rw[if_neg h,if_neg h];exact a
theorem RA.put {K:Type}[DecidableEq K] {F:FZ}{v:Value}{d:D}(hv:R C F v d) {ks:List K}{k:K}{vs:List Value}{ds:List D}(r:RA C F vs ds):RA C F (putV ks vs k v) (putV ks ds k d):=by
 unfold putV
 split
 ·exact RA.putZ hv r
 ·exact r.append (.one hv)
theorem dict_exact {K:Type}[DecidableEq K] {knd:PySem.KeyKind C.prog C.w K}{h:Heap}{a:Addr}{kvs:List (K×Value)}(x:h.DictOf knd a kvs):∃es n,h.get? a=some (dObj es n)∧KeysOf knd es∧Pairs knd es.toList kvs:=by
 obtain⟨o,es,ep,ho,⟨hc1,hc2,hc3⟩,hd,hk,hp,_⟩:=x
 refine⟨es,ep,?_,hk,hp⟩
 rw[ho]
 obtain⟨c,dd,dt,sl⟩:=o
 dsimp only at hc1 hc2 hc3 hd
 subst hc1 hc2 hc3 hd
 rfl
theorem set_dict {K:Type}[DecidableEq K] {knd:KeyKind C.prog C.w K}{A:Around}{F:FZ}{s:Shared}{a:Addr}{es:Array DictEntry}{n:Nat}{vs:List Value}{ks:List K}{ds:List D}{k:K}{kv v:Value}{d:D}{Q:Unit→Shared→Prop}(h:DAt knd (s.heap.get? a) a es n vs ks) (ra:RA C F vs ds) (hk:knd.is k kv=true) (rv:R C F v d) (hl:ds.length≤4096)
  (q:∀h' ob,h'.get? a=some ob→XD C knd (putK ks k) (putV ks ds k d) F ob→Heap.SameBut a s.heap h'→Q () { s with heap:=h',toks:=s.toks+1 }):Wp C A (setItem (.ref a) kv v) Q s:=by
 have h4:(4096:Nat)≤sizeLine:=by decide
 refine wpAny_setItem_pairs hk h.dictOf (fun h' hm' hs'=>?_) (by rw[List.length_zip,h.len,Nat.min_self,ra.length];exact Nat.le_trans hl (by decide))
 rw[stored_zip h.len] at hm'
 obtain⟨es',n',ho',hk',hp'⟩:=dict_exact hm'
 exact q h' _ ho' ⟨es',n',_,⟨rfl,hk',hp',put_len h.len,putK_nodup h.nd⟩,RA.put rv ra⟩ hs'
theorem st_setK {x:Str}{p tp pos:Pos}{i e:Expr}{a:Addr}{kk kk':Kd}{dk d:D}(he:Ex C n sc Γ e d) (hi:Ex C n sc Γ i dk) (hm:Mut x (kk.slot a) (kk'.slot a) Γ Γ')
  (hset:∀{F:FZ} {s:Shared} {w:Value},SlotR C F s.heap w (kk.slot a)→w=.ref a∧mainGlobals<a∧∀{A:Around} {F':FZ} {s':Shared} {vi v:Value} {Q:Unit→Shared→Prop},Grow F F' s s'→R C F' vi dk→R C F' v d→(∀h' ob,h'.get? a=some ob→kk'.X C F' ob→Heap.SameBut a s'.heap h'→Q () { s' with heap:=h',toks:=s'.toks+1 })→Wp C A (setItem (.ref a) vi v) Q s')
  (hw:∀env,swapsWith e (some (.Subscript (.Name x p) i tp)) pos.line env=pure false) (hv:vis sc x=true) (hx:(x==("__classdict__":Str))=false) (hd:(x==("__debug__":Str))=false):Step C n sc Γ (.Assign [.Subscript (.Name x p) i tp] e pos) (.next Γ'):=by
 intro env A F s ex exg hE hR hX
 refine wpAny_Assign_Subscript ((he env A F s hE hR hX.ok hX.eok).imp fun v s₁ ⟨F₁,g₁,r⟩=>?_) (hw env)
 have X₁:=hX.grow g₁
 obtain⟨w,h1,h2⟩:=X₁.eok.var _ hm.mem.1 (by rw[hE.scope];exact hv)
 obtain⟨ew,hmg,hs⟩:=hset h2
 obtain⟨_,o,ho,hk⟩:=Kd.inv h2
 rw[ew] at h1
 refine wpAny_Name (loadName_var (by rw[hE.scope];exact hE.kind) h1 ((hi env A F₁ s₁ hE hR X₁.ok X₁.eok).imp fun vi s₃ ⟨F₃,g₃,r₃⟩=>?_) hx) hd
 have X₃:=X₁.grow g₃
 refine hs g₃ r₃ (r.mono g₃.le) fun h' ob ho' hk' hs'=>?_
 have X₄:=X₃.mut (tk:=s₃.toks+1) hm Kd.addr Kd.addr (g₃.keep _ _ ho) (fun v=>Kd.nocell _ _ v hk) hs' ⟨_,ho'⟩ fun w hw=>by obtain⟨e,_⟩:=Kd.inv hw;rw[e];exact Kd.slotR hmg ho' hk'
 exact⟨rfl,F₃,(GrowX.of (g₁.trans g₃) hX.base).trans (GrowX.mut (tk:=s₃.toks+1) (X₃.own _ hm.mem.1 a Kd.addr).2.1 hs'),X₄⟩
theorem st_setS {x:Str}{p tp pos:Pos}{i e:Expr}{a:Addr}{ks:List Str}{ds:List D}{k:Str}{d:D}(he:Ex C n sc Γ e d) (hi:Ex C n sc Γ i (.str k)) (hm:Mut x (.mdS a ks ds) (.mdS a (putK ks k) (putV ks ds k d)) Γ Γ') (hl:ds.length≤4096)
  (hw:autoParam (∀env,swapsWith e (some (.Subscript (.Name x p) i tp)) pos.line env=pure false) i1) (hv:autoParam (vis sc x=true) kr) (hx:autoParam ((x==("__classdict__":Str))=false) kr) (hd:autoParam ((x==("__debug__":Str))=false) kr) :
  Step C n sc Γ (.Assign [.Subscript (.Name x p) i tp] e pos) (.next Γ'):=by
 refine st_setK (kk:=.s ks ds) (kk':=.s (putK ks k) (putV ks ds k d)) he hi hm (fun {F s w} h=>?_) hw hv hx hd
 obtain⟨e,es,nn,vs,h,ra⟩:=h.inv
 exact⟨e,h.z,fun g r3 rv q=>by obtain⟨t,e⟩:=r3.str_inv;rw[e];exact set_dict (h.to (g.keep _)) (ra.mono g.le) (strKind_is _ _ _ _) rv hl q⟩
theorem st_setI {x:Str}{p tp pos:Pos}{i e:Expr}{a:Addr}{ks:List Int}{ds:List D}{k:Int}{d:D}(he:Ex C n sc Γ e d) (hi:Ex C n sc Γ i (.int k)) (hm:Mut x (.mdI a ks ds) (.mdI a (putK ks k) (putV ks ds k d)) Γ Γ') (hl:ds.length≤4096)
  (hw:autoParam (∀env,swapsWith e (some (.Subscript (.Name x p) i tp)) pos.line env=pure false) i1) (hv:autoParam (vis sc x=true) kr) (hx:autoParam ((x==("__classdict__":Str))=false) kr) (hd:autoParam ((x==("__debug__":Str))=false) kr) :
  Step C n sc Γ (.Assign [.Subscript (.Name x p) i tp] e pos) (.next Γ'):=by
 refine st_setK (kk:=.i ks ds) (kk':=.i (putK ks k) (putV ks ds k d)) he hi hm (fun {F s w} h=>?_) hw hv hx hd
 obtain⟨e,es,nn,vs,h,ra⟩:=h.inv
 exact⟨e,h.z,fun g r3 rv q=>by obtain⟨t,e⟩:=r3.int_inv;rw[e];exact set_dict (h.to (g.keep _)) (ra.mono g.le) (intKind_is _ _ _ _) rv hl q⟩
theorem nw_dict0S {pos:Pos}:Nw C n sc Γ (.Dict [] [] pos) ((Kd.s [] []).X C):=by
 intro env A F s hE hR hO hV
 refine wpAny_Dict_empty ?_
 obtain⟨es,k,ho,hk,hp⟩:=dict_exact (Heap.DictOf.new (knd:=PySem.strKind C.prog C.w) s.heap)
 exact⟨s.heap.objs.size,F,rfl,.same (tk:=s.toks) hO.inn (fun b o e=>Heap.get?_push_of_some _ e) (by rw[Heap.size_push];exact Nat.le_succ _),⟨_,ho,es,k,[],⟨rfl,hk,hp,rfl,List.nodup_nil⟩,.nil⟩,hO.inn.none (Nat.le_refl _),Nat.le_refl _⟩
theorem nw_dict0I {pos:Pos}:Nw C n sc Γ (.Dict [] [] pos) ((Kd.i [] []).X C):=by
 intro env A F s hE hR hO hV
 refine wpAny_Dict_empty ?_
 obtain⟨es,k,ho,hk,hp⟩:=dict_exact (Heap.DictOf.new (knd:=PySem.intKind C.prog C.w) s.heap)
 exact⟨s.heap.objs.size,F,rfl,.same (tk:=s.toks) hO.inn (fun b o e=>Heap.get?_push_of_some _ e) (by rw[Heap.size_push];exact Nat.le_succ _),⟨_,ho,es,k,[],⟨rfl,hk,hp,rfl,List.nodup_nil⟩,.nil⟩,hO.inn.none (Nat.le_refl _),Nat.le_refl _⟩
theorem ex_dict0 {pos:Pos}:Ex C n sc Γ (.Dict [] [] pos) (.dictS [] []):=ex_of_nwK (k:=.s [] []) nw_dict0S
theorem nw_list {es:List Expr}{ds:List D}{pos:Pos}(h:Exs C n sc Γ es ds) (hz:autoParam (ds.length≤sizeLine) nb):Nw C n sc Γ (.List es pos) (XL C ds):=by
 intro env A F s hE hR hO hV
 refine wpAny_List_spliced ((h.run hE hR hO hV).imp fun vs s₁ ⟨F₁,g,r⟩=>⟨by rw[r.length];exact hz,?_⟩)
 exact⟨s₁.heap.objs.size,F₁,rfl,g.trans (.same (tk:=s₁.toks) g.inn (fun b o e=>Heap.get?_push_of_some _ e) (by rw[Heap.size_push];exact Nat.le_succ _)),⟨_,Heap.get?_push_size _ rfl,vs,0,rfl,r⟩,g.inn.none (Nat.le_refl _),g.size⟩
theorem run_newS {x:Str}{p pos:Pos}{e:Expr}{ks:List Str}{ds:List D}{o:Out}{rest:List Stmt}(h:Nw C n sc Γ e ((Kd.s ks ds).X C)) (hd:Drop x Γ Γ') (kk:∀a,Run C n sc ((x,.mdS a ks ds)::Γ') rest o)
  (hw:autoParam (∀env,gE sc env→swapsWith e (some (.Name x p)) pos.line env=pure false) i2) (hst:autoParam (sto sc x=true) kr):Run C n sc Γ (.Assign [.Name x p] e pos::rest) o:=run_new (k:=.s ks ds) h hd kk hw hst
theorem run_newI {x:Str}{p pos:Pos}{e:Expr}{ks:List Int}{ds:List D}{o:Out}{rest:List Stmt}(h:Nw C n sc Γ e ((Kd.i ks ds).X C)) (hd:Drop x Γ Γ') (kk:∀a,Run C n sc ((x,.mdI a ks ds)::Γ') rest o)
  (hw:autoParam (∀env,gE sc env→swapsWith e (some (.Name x p)) pos.line env=pure false) i2) (hst:autoParam (sto sc x=true) kr):Run C n sc Γ (.Assign [.Name x p] e pos::rest) o:=run_new (k:=.i ks ds) h hd kk hw hst
theorem oi_add_int {a b:Int}:Op2 C (inplaceOp .Add) (.int a) (.int b) (.int (a+b)):=by
 intro A F s va vb _ hO ha hb;obtain⟨t,rfl⟩:=ha.int_inv;obtain⟨u,rfl⟩:=hb.int_inv
 exact smInt hO fun Q h=>iadd_int h
end
end
section
set_option backward.match.sparseCases false
theorem wpAny_up {M:Model}{α:Type}{A:Around}{t:Sem α}{Q:α→Shared→Prop}{E:Value→Shared→Prop}{s:Shared}(h:wpAny M A t (fun a s'=>Up s s'→Q a s') E s):wpAny M A t Q E s:=
 fun Γ p hΓ=>Sem.wp_mono _ _ _ (fun a J s' x=>x.2 x.1) (fun J J J x=>x.2) _ _ (wp_up _ Γ s t _ _ p s (.refl _) (h Γ p hΓ))
section
variable {kindOf:Str→Option NameKind}{x:Str}{binds:List (Str×Value)}{m:Str→Option Value}{w:Value}
theorem bindL_other (h:x∉binds.map (·.1)):bindL kindOf binds m x=m x:=by
 induction binds generalizing m with
 | nil=>rfl
 | cons p r ih=>
  have h1:x≠p.1:=fun e=>h (by rw[e];exact List.mem_cons_self)
  refine(ih fun hm=>h (List.mem_cons_of_mem _ hm)).trans ?_
  by_cases q:kindOf p.1=some .local
  ·rw[if_pos q];exact if_neg h1
  ·rw[if_neg q]
theorem bindL_at (hk:kindOf x=some .local) (hn:(binds.map (·.1)).Nodup) (hm:(x,w)∈binds):bindL kindOf binds m x=some w:=by
 induction binds generalizing m with
 | nil=>exact absurd hm List.not_mem_nil
 | cons p r ih=>
  obtain⟨n1,n2⟩:=List.nodup_cons.mp hn
  rcases List.mem_cons.mp hm with e | hm
  ·subst e
   refine(bindL_other n1).trans ?_
   rw[if_pos hk];exact if_pos rfl
  ·exact ih n2 hm
theorem bindC_other (h:x∉binds.map (·.1)):bindC kindOf binds m x=m x:=by
 induction binds generalizing m with
 | nil=>rfl
 | cons p r ih=>
  have h1:x≠p.1:=fun e=>h (by rw[e];exact List.mem_cons_self)
  refine(ih fun hm=>h (List.mem_cons_of_mem _ hm)).trans ?_
  by_cases q:kindOf p.1=some .local
  ·rw[if_pos q]
  ·rw[if_neg q];exact if_neg h1
theorem bindC_at (hk:kindOf x≠some .local) (hn:(binds.map (·.1)).Nodup) (hm:(x,w)∈binds):bindC kindOf binds m x=some w:=by
 induction binds generalizing m with
 | nil=>exact absurd hm List.not_mem_nil
 | cons p r ih=>
  obtain⟨n1,n2⟩:=List.nodup_cons.mp hn
  rcases List.mem_cons.mp hm with e | hm
  ·subst e
   refine(bindC_other n1).trans ?_
   rw[if_neg hk];exact if_pos rfl
  ·exact ih n2 hm
end
noncomputable def entryOk (sc:Scope) (xs:List Str):Bool:=
 sc.kind==.function&&!sc.isCoroutine&&!sc.isGenerator&&onceNames sc.names&&(sc.names.all fun p=>p.2 != .free)&&xs.all fun x=>sto sc x
theorem entryOk_inv {sc:Scope}{xs:List Str}(h:entryOk sc xs=true):sc.kind=.function∧sc.isCoroutine=false∧sc.isGenerator=false∧onceNames sc.names=true∧(∀x,sc.names.lookup x≠some .free)∧∀x∈xs,sto sc x=true:=by
 simp only[entryOk,Bool.and_eq_true,Bool.not_eq_true',beq_iff_eq] at h
 obtain⟨⟨⟨⟨⟨h1,h2⟩,h3⟩,h4⟩,h5⟩,h6⟩:=h
 refine⟨h1,h2,h3,h4,fun x hx=>?_,fun x hx=>List.all_eq_true.mp h6 x hx⟩
 have:=List.all_eq_true.mp h5 _ (mem_of_lookup hx)
 simp at this
noncomputable def argsG:List Str→List D→Gm
 | x::xs,d::ds=>(x,.imm d)::argsG xs ds
 | _,_=>[]
theorem argsG_mem {xs:List Str}{vs:List Value}{ds:List D}{C:Cx}{F:FZ}(r:RA C F vs ds) {p:Str×Mine.Slot}(hp:p∈argsG xs ds):∃v d,p.2=.imm d∧(p.1,v)∈xs.zip vs∧R C F v d:=by
 induction ds generalizing xs vs with
 | nil=>cases xs <;> exact absurd hp List.not_mem_nil
 | cons d ds ih=>
  cases xs with
  | nil=>exact absurd hp List.not_mem_nil
  | cons x xs=>
   obtain⟨v,ws,rfl,a,r⟩:=r.cons_inv
   rcases List.mem_cons.mp hp with rfl | hp
   ·exact⟨_,_,rfl,List.mem_cons_self,a⟩
   ·obtain⟨v,d,h1,h2,h3⟩:=ih r hp
    exact⟨v,d,h1,List.mem_cons_of_mem _ h2,h3⟩
theorem argsG_imm {xs:List Str}{ds:List D}{p:Str×Mine.Slot}(hp:p∈argsG xs ds):p.2.addr=none:=by
 induction ds generalizing xs with
 | nil=>cases xs <;> exact absurd hp List.not_mem_nil
 | cons d ds ih=>
  cases xs with
  | nil=>exact absurd hp List.not_mem_nil
  | cons x xs=>exact(List.mem_cons.mp hp).elim (fun e=>e▸rfl) ih
section
variable {C:Cx}{n:Nat}{sc:Scope}
theorem entry_St {F:FZ}{s s₁:Shared}{a:Addr}{fd:FuncData}{xs:List Str}{vs:List Value}{ds:List D}(hsc:fd.scope=sc) (hok:entryOk sc xs=true) (hnd:xs.Nodup) (hl:xs.length=vs.length) (hO:Ok C F s) (hr:RA C F vs ds)
  (x:InCallC s (callEnvC fd s.heap.objs.size a).locals (bindL (callEnvC fd s.heap.objs.size a).kindOf (xs.zip vs) fun J=>none) (callEnvC fd s.heap.objs.size a).cells (bindC (callEnvC fd s.heap.objs.size a).kindOf (xs.zip vs) fun J=>none) s₁) (up:Up s s₁) :
  St C sc (fun b=>s.heap.objs.size≤b) (fun i=>s.gens.size≤i) (callEnvC fd s.heap.objs.size a) (argsG xs ds) F s₁:=by
 obtain⟨hkind,hcor,hgen,honce,hfree,hst⟩:=entryOk_inv hok
 generalize hE:callEnvC fd s.heap.objs.size a=env at *
 have hL:env.locals=s.heap.objs.size:=by rw[← hE];rfl
 have hcells:env.cells=cellsFrom (s.heap.objs.size+1) sc.names []:=by rw[← hE,← hsc];rfl
 have hscope:env.scope=sc:=by rw[← hE,← hsc];rfl
 have hk:∀x,env.kindOf x=sc.names.lookup x:=fun x=>by show env.scope.names.lookup x=_;rw[hscope]
 have hF:∀b:Nat,s.heap.objs.size≤b→F b=none:=fun b hb=>hO.inn.none hb
 have hcell:∀y,sc.names.lookup y=some .cell→∃c:Nat,env.cells.lookup y=some c:=fun y hy=>by
  rw[hcells];exact cellsFrom_cell (once_mem honce hy).1
 have habove:∀y (c:Nat),env.cells.lookup y=some c→s.heap.objs.size<c:=fun y c hc=>by have:=x.above y c (mem_of_lookup hc);rw[hL] at this;exact this
 have hzip:((xs.zip vs).map (·.1)).Nodup:=by rw[zip_fst hl];exact hnd
 refine⟨⟨fun b o e=>x.toInCall.keep b o (hO.inn b o e),hO.base,Nat.le_trans hO.tok up.t⟩,⟨fun p hp hv=>?_,fun y c hc=>?_⟩,⟨by rw[hscope];exact hkind,fun y hy=>by rw[hk];exact hy,fun y hy=>by rw[hk];exact hy,⟨_,x.toInCall.ns⟩,by rw[hL];exact hF _ (Nat.le_refl _),fun y hy=>?_,fun y z c hy h1 h2=>name_of_addr x.apart (mem_of_lookup h1) (mem_of_lookup h2)⟩,
  fun b hb=>?_,fun p hp b hb=>(by rw[argsG_imm hp] at hb;cases hb),?_,fun b hb=>Nat.le_trans up.h hb,fun i hi=>Nat.le_trans up.g hi⟩
 ·obtain⟨v,d,h1,h2,h3⟩:=argsG_mem hr hp
  obtain⟨p1,p2⟩:=p
  dsimp only at h1 h2
  subst h1
  refine⟨v,?_,.imm h3⟩
  have hmem:p1∈xs:=(List.of_mem_zip h2).1
  rcases storable_iff (hst p1 hmem) with hl' | hc'
  ·exact .inl ⟨by rw[hk];exact hl',_,x.toInCall.ns,bindL_at (by rw[hk];exact hl') hzip h2⟩
  ·obtain⟨c,hc⟩:=hcell p1 hc'
   refine .inr ⟨.inl (by rw[hk];exact hc'),c,hc,?_⟩
   have:=x.cell p1 c hc
   rw[bindC_at (by rw[hk,hc'];intro e;cases e) hzip h2] at this
   exact this
 ·obtain⟨o,ho,_⟩:=x.cell y c hc;exact⟨o,ho⟩
 ·obtain⟨c,hc⟩:=hcell y hy
  exact⟨c,_,hc,x.cell y c hc,hF c (Nat.le_of_lt (habove y c hc))⟩
 ·rcases hb with h | ⟨y,hy,hc⟩
  ·rw[h,hL];exact Nat.le_refl _
  ·exact Nat.le_of_lt (habove y b hc)
 ·exact List.pairwise_iff_forall_sublist.mpr fun {p q} h b hb=>by
   have:=argsG_imm (h.subset List.mem_cons_self)
   rw[this] at hb;cases hb
theorem entry_Good {s:Shared}{a:Addr}{fd:FuncData}{xs:List Str}(hsc:fd.scope=sc) (hok:entryOk sc xs=true) (hg:fd.globals=mainGlobals) (hb:fd.builtins=builtinsNs):gE sc (callEnvC fd s.heap.objs.size a):=by
 obtain⟨hkind,hcor,hgen,honce,hfree,hst⟩:=entryOk_inv hok
 refine⟨hsc,hkind,hg,hb,hcor,fun x hx=>?_⟩
 rcases hx with hx | hx
 ·subst hsc
  obtain⟨c,hc⟩:=cellsFrom_cell (k:=s.heap.objs.size+1) (acc:=[]) (once_mem honce hx).1
  exact⟨c,hc⟩
 ·exact absurd hx (hfree x)
theorem calls_of_run {a:Addr}{P:Arguments}{body:List Stmt}{fd:FuncData}{xs:List Str}{ds:List D}{d:D}(hF:FnAt C a P body sc fd) (hok:entryOk sc xs=true) (hnd:xs.Nodup) (hl:xs.length=ds.length)
  (hbind:∀vs:List Value,vs.length=xs.length→bindArgs fd ⟨vs,[]⟩=pure (xs.zip vs)) (h:Run C n sc (argsG xs ds) body (.ret d)):Calls C (n+1) (.ref a) ds d:=by
 intro A F s vs hR hO hr
 obtain⟨hkind,hcor,hgen,honce,hfree,hst⟩:=entryOk_inv hok
 obtain⟨o,ho,hdata⟩:=hF.at_
 have hlen:xs.length=vs.length:=hl.trans hr.length.symm
 have hsc:=hF.scope
 refine wpAny_call (codeAny_call_function (body:=body) hR.lim (hO.keep _ _ ho) hdata (by rw[hsc];exact hcor) (by rw[hsc];exact hgen) hF.body (hF.code.keeps hO.keep) ?_)
 rw[hbind vs hlen.symm,hF.closure]
 refine wpAny_pure (wpAny_up (wpAny_newFunctionEnv_cells (by rw[hsc];exact hkind) (fun p hp=>?_) fun env he s' x up=>?_))
 ·rw[hsc]
  have hmem:p.1∈xs:=(List.of_mem_zip (a:=p.1) (b:=p.2) hp).1
  rcases storable_iff (hst p.1 hmem) with h1 | h1
  ·exact .inl h1
  ·obtain⟨c,hc⟩:=cellsFrom_cell (k:=s.heap.objs.size+1) (acc:=[]) (once_mem honce h1).1
   exact .inr ⟨h1,by rw[hc];rfl⟩
 ·subst he
  refine⟨(C.nolimit.keeps hO.keep).keeps x.toInCall.keep,codeAny_func ?_⟩
  have X:=entry_St (a:=a) hsc hok hnd hlen hO hr x up
  refine Wp.any ((h _ _ F s' _ _ (entry_Good (a:=a) (s:=s) hsc hok hF.globals hF.builtins) (hR.deeper _) X).imp fun f s'' hZ=>?_)
  obtain⟨v,F',e,g,ok',r⟩:=hZ
  subst e
  refine⟨F',⟨g.le,fun b hb=>g.old b (Nat.not_le.mpr hb),ok'.inn,fun b o e=>g.keep b o (Nat.not_le.mpr (Heap.lt_size e)) (x.toInCall.keep b o e),Nat.le_trans up.h g.size,?_,fun i y e=>?_,Nat.le_trans up.g g.gsize,fun hb=>?_,Nat.le_trans up.t g.tk⟩,r⟩
  ·obtain⟨h',tk,es⟩:=x.toInCall.same;rw[g.os,es]
  ·obtain⟨h',tk,es⟩:=x.toInCall.same
   exact g.gen i y (Nat.not_le.mpr (gens_lt e)) (by rw[es];exact e)
  ·obtain⟨h',tk,es⟩:=x.toInCall.same;exact g.bare (by rw[es];exact hb)
end
end
section
section
variable {C:Cx}{n:Nat}{sc:Scope}{Γ Γ':Gm}
theorem st_aug {x:Str}{np pos:Pos}{op:Operator}{e:Expr}{d0 d1 d2:D}(hm:(x,Slot.imm d0)∈Γ) (he:Ex C n sc Γ e d1) (h:Op2 C (inplaceOp op) d0 d1 d2) (hd:Drop x Γ Γ')
  (hv:autoParam (vis sc x=true) kr) (hx:autoParam ((x==("__classdict__":Str))=false) kr) (hst:autoParam (sto sc x=true) kr):Step C n sc Γ (.AugAssign (.Name x np) op e pos) (.next ((x,.imm d2)::Γ')):=by
 intro env A F s ex exg hE hR hX
 obtain⟨v,h1,h2⟩:=hX.eok.var _ hm (by rw[hE.scope];exact hv)
 have r0:R C F v d0:=h2.inv
 refine wpAny_AugAssign_Name (loadName_var (by rw[hE.scope];exact hE.kind) h1 ((he env A F s hE hR hX.ok hX.eok).imp fun w s₁ ⟨F₁,g,r⟩=>?_) hx)
 have X₁:=hX.grow g
 refine(h A F₁ s₁ v w (hR.mono (Nat.zero_le _)) X₁.ok (r0.mono g.le) r).imp fun u s₂ hZ=>?_
 obtain⟨F₂,g₂,r₂⟩:=hZ
 have X₂:=X₁.grow g₂
 exact store_name X₂.wf hst fun s' z W'=>⟨rfl,F₂,(GrowX.of (g.trans g₂) hX.base).trans (.stored z hX.lo),X₂.stored z W' r₂ hd.sub.1 hd.sub.2⟩
theorem st_augS {x y:Str}{p p2 tp pos:Pos}{op:Operator}{e:Expr}{a:Addr}{ks:List Str}{ds:List D}{k:Str}{j:Nat}{d0 d1 d2:D}(hm:Mut x (.mdS a ks ds) (.mdS a (putK ks k) (putV ks ds k d2)) Γ Γ') (hi:Ex C n sc Γ (.Name y p2) (.str k)) (hj:ks[j]?=some k) (hdj:ds[j]?=some d0)
  (he:Ex C n sc Γ e d1) (h:Op2 C (inplaceOp op) d0 d1 d2) (hl:ds.length≤4096)
  (hv:autoParam (vis sc x=true) kr) (hx:autoParam ((x==("__classdict__":Str))=false) kr) (hd:autoParam ((x==("__debug__":Str))=false) kr) :
  Step C n sc Γ (.AugAssign (.Subscript (.Name x p) (.Name y p2) tp) op e pos) (.next Γ'):=by
 intro env A F s ex exg hE hR hX
 obtain⟨w,h1,h2⟩:=hX.eok.var _ hm.mem.1 (by rw[hE.scope];exact hv)
 obtain⟨ew,es,nn,vs,hdt,ra⟩:=h2.inv
 rw[ew] at h1
 refine wpAny_AugAssign_Subscript (wpAny_Name (loadName_var (by rw[hE.scope];exact hE.kind) h1 ((hi env A F s hE hR hX.ok hX.eok).imp fun vi s₁ ⟨F₁,g₁,r₁⟩=>?_) hx) hd)
 obtain⟨t,rfl⟩:=r₁.str_inv
 have X₁:=hX.grow g₁
 have h₁:=hdt.to (g₁.keep a)
 obtain⟨w0,hw0,hr0⟩:=ra.get? hdj
 have O₁':Grow F₁ F₁ s₁ { s₁ with toks:=s₁.toks+1 }:=.tok X₁.ok.inn
 refine wpAny_getItem_of (strKind_is _ _ _ _) h₁.dictOf.mapOf (valueAt_zip hdt.len hdt.nd hj hw0) ?_
 have X₁':=X₁.grow O₁'
 refine(he env A F₁ _ hE hR X₁'.ok X₁'.eok).imp fun v s₂ hZ=>?_
 obtain⟨F₂,g₂,r₂⟩:=hZ
 have X₂:=X₁'.grow g₂
 refine(h A F₂ s₂ w0 v (hR.mono (Nat.zero_le _)) X₂.ok ((hr0.mono g₁.le).mono g₂.le) r₂).imp fun u s₃ hZ=>?_
 obtain⟨F₃,g₃,r₃⟩:=hZ
 have X₃:=X₂.grow g₃
 have g:=((g₁.trans O₁').trans g₂).trans g₃
 refine set_dict (hdt.to (g.keep a)) (ra.mono g.le) (strKind_is _ _ _ _) r₃ hl fun h' ob ho' hk' hs'=>?_
 have X₄:=X₃.mut (tk:=s₃.toks+1) hm rfl rfl (g.keep _ _ hdt.is) (fun v=>nofun) hs' ⟨_,ho'⟩ (fun w hw=>by obtain⟨e,_⟩:=hw.inv;rw[e];exact Kd.slotR (k:=.s _ _) hdt.z ho' hk')
 exact⟨rfl,F₃,(GrowX.of g hX.base).trans (GrowX.mut (tk:=s₃.toks+1) (X₃.own _ hm.mem.1 a rfl).2.1 hs'),X₄⟩
theorem ex_dict1 {k e:Expr}{pos:Pos}{x:Str}{d:D}(hk:Ex C n sc Γ k (.str x)) (he:Ex C n sc Γ e d):Ex C n sc Γ (.Dict [some k] [e] pos) (.dictS [x] [d]):=by
 intro env A F s hE hR hO hV
 refine wpAny_Dict_walk (knd:=PySem.strKind C.prog C.w) rfl rfl (by simp) (by simp) ?_
 have g0:Grow F F s { s with heap:=s.heap.push { cls:=.type "dict",data:=.dict #[] } }:=.same (tk:=s.toks) hO.inn (fun b o e=>Heap.get?_push_of_some _ e) (by rw[Heap.size_push];exact Nat.le_succ _)
 have hF:F s.heap.objs.size=none:=hO.inn.none (Nat.le_refl _)
 have hnew:({ s with heap:=s.heap.push { cls:=.type "dict",data:=.dict #[] } }:Shared).heap.DictOf (PySem.strKind C.prog C.w) s.heap.objs.size []:=Heap.DictOf.new s.heap
 show Wp C A (evalPairs [(eval k env,do let x ← eval e env;standAt pos;pure x)]) _ _
 unfold evalPairs
 refine Wp.bind ((hk env A F _ hE hR (hO.grow g0) (hV.grow g0)).imp fun vk s₁ hZ=>?_)
 obtain⟨F₁,g₁,r₁⟩:=hZ
 obtain⟨t,rfl⟩:=r₁.str_inv
 have O₁:=hO.grow (g0.trans g₁);have V₁:=hV.grow (g0.trans g₁)
 refine Wp.bind (wpAny_holding (Wp.bind ((he env A F₁ s₁ hE hR O₁ V₁).imp fun ve s₂ ⟨F₂,g₂,r₂⟩=>wpAny_bind (wpAny_standAt (wpAny_pure ?_)))))
 unfold evalPairs
 refine wpAny_bind (wpAny_holding (wpAny_pure (wpAny_pure ?_)))
 have g:=(g0.trans g₁).trans g₂
 have hd₂:s₂.heap.DictOf (PySem.strKind C.prog C.w) s.heap.objs.size []:=hnew.keep (g₁.trans g₂).keep
 refine⟨[(x,ve)],⟨strKind_is _ _ _ _,rfl,trivial⟩,hd₂,fun h' hm hs=>?_⟩
 obtain⟨es,m,ho,hk',hp⟩:=dict_exact hm
 have hF₂:F₂ s.heap.objs.size=none:=by
  have h1:=(g₁.trans g₂).old s.heap.objs.size (by show _<(s.heap.push _).objs.size;rw[Heap.size_push];exact Nat.lt_succ_self _)
  rw[h1];exact hF
 have e0:merged [] [(x,ve)]=[x].zip [ve]:=by simp[merged,stored]
 rw[e0] at hp
 have gg:Grow F F₂ s { s₂ with heap:=h',toks:=s₂.toks+1 }:=(g.but hF₂ (Nat.le_refl _) hs).trans (.tok (s:={ s₂ with heap:=h' }) (tk:=s₂.toks+1) (g.but hF₂ (Nat.le_refl _) hs).inn (Nat.le_succ _))
 exact⟨F₂.add s.heap.objs.size _,gg.freeze (Nat.le_refl _) hF₂ ho,.dictS ⟨hO.low,FZ.add_self,hk',hp,rfl,List.pairwise_singleton _ _⟩ (.one (r₂.mono (FZ.le_add hF₂)))⟩
theorem run_two {x y:Str}{px py pe1 pe2:Pos}{k1 k2:Nat}{tp ep pos:Pos}{o:Out}{rest:List Stmt}(hd:Drop y Γ Γ') (hfx:freshIn x Γ'=true) (hxy:(y==x)=false) (k:∀a,Run C n sc ((x,.ml a [])::(y,.imm (.list []))::Γ') rest o)
  (hw:∀env,gE sc env→swappedStores [.Tuple [.Name x px,.Name y py] k1 tp] (.Tuple [.List [] pe1,.List [] pe2] k2 ep) env=pure (some [x,y])) (hs:autoParam (∀env,swapsWithSole [.Tuple [.Name x px,.Name y py] k1 tp] (.Tuple [.List [] pe1,.List [] pe2] k2 ep) pos.line env=pure false) i1)
  (hsx:autoParam (sto sc x=true) kr) (hsy:autoParam (sto sc y=true) kr) :
  Run C n sc Γ (.Assign [.Tuple [.Name x px,.Name y py] k1 tp] (.Tuple [.List [] pe1,.List [] pe2] k2 ep) pos::rest) o:=by
 intro env A F s ex exg hE hR hX
 have nl:∀(s:Shared) (Q:Value→Shared→Prop) (p:Pos),Q (.ref s.heap.objs.size) { s with heap:=s.heap.push (lObj [] 0) }→Wp C A (eval (.List [] p) env) Q s:=fun s Q p h=>
  wpAny_List_spliced (Calls.spliced_nil ⟨Nat.zero_le _,h⟩)
 refine wpAny_execs_cons (Assign_Tuple_swapped ?_ (hs env) (hw env hE))
 refine wpAny_Tuple_spliced (Calls.spliced_cons (nl _ _ _ (Calls.spliced_cons (nl _ _ _ (Calls.spliced_nil ⟨by show 2≤sizeLine;decide,?_⟩)))))
 have z1:(s.heap.push (lObj [] 0)).objs.size=s.heap.objs.size+1:=Heap.size_push ..
 have z2:((s.heap.push (lObj [] 0)).push (lObj [] 0)).objs.size=s.heap.objs.size+2:=by rw[Heap.size_push,z1]
 dsimp only
 rw[z1,z2]
 generalize hH:((s.heap.push (lObj [] 0)).push (lObj [] 0)).push { cls:=.type "tuple",data:=.seq (List.toArray [Value.ref s.heap.objs.size,Value.ref (s.heap.objs.size+1)]) }=H
 have z3:H.objs.size=s.heap.objs.size+3:=by rw[← hH,Heap.size_push,z2]
 have o1:H.get? s.heap.objs.size=some (lObj [] 0):=by rw[← hH];exact Heap.get?_push_of_some _ (Heap.get?_push_of_some _ (Heap.get?_push_size _ rfl))
 have o2:H.get? (s.heap.objs.size+1)=some (lObj [] 0):=by rw[← hH,← z1];exact Heap.get?_push_of_some _ (Heap.get?_push_size _ rfl)
 have o3:H.get? (s.heap.objs.size+2)=some (tObj [.ref s.heap.objs.size,.ref (s.heap.objs.size+1)] 0):=by rw[← hH,← z2];exact Heap.get?_push_size _ rfl
 have keep:∀b o,s.heap.get? b=some o→H.get? b=some o:=fun b o e=>by rw[← hH];exact Heap.get?_push_of_some _ (Heap.get?_push_of_some _ (Heap.get?_push_of_some _ e))
 have nF:∀j:Nat,F (s.heap.objs.size+j)=none:=fun j=>hX.ok.inn.none (Nat.le_add_right _ _)
 have g0:Grow F F s { s with heap:=H }:=.same (tk:=s.toks) hX.ok.inn keep (Nat.le_of_succ_le (Nat.le_of_succ_le (Nat.le_of_succ_le (Nat.le_of_eq z3.symm))))
 have g1:Grow F (F.add (s.heap.objs.size+1) (lObj [] 0)) s { s with heap:=H }:=g0.freeze (Nat.le_succ _) (nF 1) o2
 have X₁:=hX.grow g1
 have hT:({ s with heap:=H }:Shared).heap.IsTuple (s.heap.objs.size+2) ([Value.ref s.heap.objs.size,.ref (s.heap.objs.size+1)]).toArray:=⟨_,o3,rfl,_,rfl⟩
 refine(unpack_run (F:=F.add (s.heap.objs.size+1) (lObj [] 0)) hR.handled hT rfl X₁.ok.inn).imp fun items s₂ hZ=>?_
 obtain⟨e,g₂⟩:=hZ
 subst e
 have X₂:=X₁.grow g₂
 show Wp C A (assignInOrder [fun n=>bindName env y n,fun n=>bindName env x n] [.ref (s.heap.objs.size+1),.ref s.heap.objs.size]) _ s₂
 refine assignInOrder_cons (wpAny_bindName (store_name X₂.wf hsy fun s₃ z₃ W₃=>?_))
 have X₃:=X₂.stored z₃ W₃ (.list (vs:=[]) FZ.add_self .nil) hd.sub.1 hd.sub.2
 refine assignInOrder_cons (wpAny_bindName (store_name X₃.wf hsx fun s₄ z₄ W₄=>assignInOrder_nil ?_))
 have hown:¬Own sc env s.heap.objs.size:=fun q=>Nat.lt_irrefl _ (hX.wf.ownF q).2
 have hF1:(F.add (s.heap.objs.size+1) (lObj [] 0)) s.heap.objs.size=none:=by
  show(if _ then _ else F _)=none
  rw[if_neg (Nat.ne_of_lt (Nat.lt_succ_self _))];exact nF 0
 have ho₃:s₃.heap.get? s.heap.objs.size=some (lObj [] 0):=(z₃.keep _ hown).trans (g₂.keep _ _ o1)
 have hslot:∀q∈Γ',q.2.addr≠some s.heap.objs.size:=fun q hq e=>Nat.lt_irrefl _ (hX.own q (hd.sub.1.subset hq) _ e).2.2.1
 have X₄:=X₃.storedK (k:=.l []) (Γ':=(y,.imm (.list []))::Γ') z₄ W₄ (List.Sublist.refl _) (fun q hq=>by
  rcases List.mem_cons.mp hq with rfl | hq
  ·exact fun e=>by dsimp only at e;rw[e,beq_self_eq_true] at hxy;cases hxy
  ·exact freshIn_ne hfx q hq) ho₃ ⟨[],0,rfl,.nil⟩ hX.ok.low hF1 (hX.base _ (Nat.le_refl _)) hown (fun q hq=>by
  rcases List.mem_cons.mp hq with rfl | hq
  ·exact fun e=>nomatch e
  ·exact hslot q hq)
 have gg:GrowX ex exg F (F.add (s.heap.objs.size+1) (lObj [] 0)) s s₄:=((GrowX.of (g1.trans g₂) hX.base).trans (.stored z₃ X₂.lo)).trans (.stored z₄ X₃.lo)
 exact(k _ env A _ s₄ ex exg hE hR X₄).imp fun J J q=>q.up gg
end
end
section
set_option backward.match.sparseCases false
structure FnT where
 params:Arguments
 body:List Stmt
 scope:Scope
noncomputable def fnT (k:Nat):FnT:=match PySem.Challenge.pw_wz0003_01.main.body.drop k with
 | .FunctionDef _ args body _ _ _ scope _ _ _::_=>⟨args,body,scope⟩
 | _=>⟨⟨[],[],none,[],[],none,[]⟩,[],⟨.function,[],false,false,[]⟩⟩
section
variable {C:Cx}{n:Nat}{sc:Scope}{Γ:Gm}{e:Expr}{cm:Bool}
end
theorem bt2 {csc:Scope}{x y:Str}{p q tp:Pos}{k:Nat}{d1 d2:D}{Γ:Gm}(h:(sto csc x&&sto csc y&&!(x==y))=true) (hx:freshIn x Γ=true) (hy:freshIn y Γ=true):BindT csc (.Tuple [.Name x p,.Name y q] k tp) true [d1,d2] Γ ((y,.imm d2)::(x,.imm d1)::Γ):=by
 simp only[Bool.and_eq_true,Bool.not_eq_true',beq_eq_false_iff_ne] at h
 exact .tup (xs:=[x,y]) (.cons (.cons .nil)) rfl (by simp[h.1.1,h.1.2,hx,hy]) (by simp[h.2])
theorem bt3 {csc:Scope}{x y z:Str}{p q r tp:Pos}{k:Nat}{d1 d2 d3:D}{Γ:Gm}(h:(sto csc x&&sto csc y&&sto csc z&&!(x==y)&&!(x==z)&&!(y==z))=true) (hx:freshIn x Γ=true) (hy:freshIn y Γ=true) (hz:freshIn z Γ=true) :
  BindT csc (.Tuple [.Name x p,.Name y q,.Name z r] k tp) true [d1,d2,d3] Γ ((z,.imm d3)::(y,.imm d2)::(x,.imm d1)::Γ):=by
 simp only[Bool.and_eq_true,Bool.not_eq_true',beq_eq_false_iff_ne] at h
 exact .tup (xs:=[x,y,z]) (.cons (.cons (.cons .nil))) rfl (by simp[h,hx,hy,hz]) (by simp[h])
section
variable {C:Cx}{n:Nat}{sc:Scope}{Γ:Gm}{e:Expr}{cm:Bool}
theorem It.map {β:Type}{xs:List β}{f:β→D}(h:It C n sc Γ cm e false ((xs.map f).map fun d=>[d])):It C n sc Γ cm e false (xs.map fun x=>[f x]):=by
 rw[List.map_map] at h;exact h
theorem foldl_sum (ns:List Int):ns.foldl (fun a x=>a+x) 0=ns.sum:=by
 have:∀(l:List Int) (a:Int),l.foldl (fun a x=>a+x) a=a+l.sum:=by
  intro l
  induction l with
  | nil=>intro a;simp
  | cons x l ih=>intro a;rw[List.foldl_cons,ih,List.sum_cons];lia
 rw[this];lia
theorem t_count_calls {ks:List Str}{ns:List Int}:Run C n (fnT 5).scope [("callers",.imm (.dictS ks (ns.map .int)))] (fnT 5).body (.ret (.int ns.sum)):=by
 refine rS (sA xi (by walk_at "d")) ?_
 refine rS (st_for (It.map (xs:=ns) (f:=.int) (it_values (xv (by walk_at "m")))) (fun a=>[("nc",.imm (.int a)),("callers",.imm (.dictS ks (ns.map .int)))]) 0 (fun a x=>a+x) (by walk_at "s") (fun a x hx=>.name (by kernel_rfl) (by kernel_rfl)) (fun i x hx=>?_) (by intro _ _;rfl)) ?_
 ·exact rS (st_aug (by walk_at "m") (xv (by walk_at "m")) oi_add_int (by walk_at "d")) (run_nil' (by walk_at "s"))
 ·rw[foldl_sum]
  exact run_ret (xv (by walk_at "m"))
end
end
section
noncomputable abbrev Tab:=List Str×List Int
noncomputable def Tab.ok (t:Tab):Prop:=t.1.length=t.2.length∧t.1.Nodup
noncomputable abbrev Tab.d (t:Tab):D:=.dictS t.1 (t.2.map .int)
noncomputable def Tab.put (t:Tab) (k:Str) (v:Int):Tab:=(putK t.1 k,putV t.1 t.2 k v)
noncomputable def Tab.at (t:Tab) (k:Str):Int:=(t.2[t.1.idxOf k]?).getD 0
noncomputable def Tab.add (t:Tab) (p:Str×Int):Tab:=if p.1∈t.1 then t.put p.1 (t.at p.1+p.2) else t.put p.1 p.2
noncomputable def addCallers (t s:Tab):Tab:=(s.1.zip s.2).foldl Tab.add ((t.1.zip t.2).foldl (fun a p=>a.put p.1 p.2) ([],[]))
theorem Tab.put_ok {t:Tab}{k:Str}{v:Int}(h:t.ok):(t.put k v).ok:=⟨put_len h.1,putK_nodup h.2⟩
theorem Tab.add_ok {t:Tab}{p:Str×Int}(h:t.ok):(t.add p).ok:=by unfold Tab.add;split <;> exact Tab.put_ok h
theorem foldl_ok {β:Type}{f:Tab→β→Tab}(hf:∀t p,t.ok→(f t p).ok):∀(l:List β) (t:Tab),t.ok→(l.foldl f t).ok
 | [],t,h=>h
 | p::l,t,h=>foldl_ok hf l (f t p) (hf t p h)
theorem putV_map {ks:List Str}{vs:List Int}{k:Str}{v:Int}:putV ks (vs.map D.int) k (.int v)=(putV ks vs k v).map .int:=by
 unfold putV
 split
 ·rw[List.zipWith_map_right,List.map_zipWith]
  congr 1
  funext a b
  split <;> rfl
 ·simp
theorem Tab.at_get {t:Tab}(h:t.ok) {k:Str}(hk:k∈t.1):t.1[t.1.idxOf k]?=some k∧(t.2.map D.int)[t.1.idxOf k]?=some (.int (t.at k)):=by
 have hlt:=List.idxOf_lt_length_of_mem hk
 have h2:t.1.idxOf k<t.2.length:=by rw[← h.1];exact hlt
 refine⟨by rw[List.getElem?_eq_getElem hlt,List.getElem_idxOf],?_⟩
 rw[List.getElem?_map]
 unfold Tab.at
 rw[List.getElem?_eq_getElem h2];rfl
theorem putV_len_le {K α:Type}[DecidableEq K] {ks:List K}{vs:List α}{k:K}{v:α}:(putV ks vs k v).length≤vs.length+1:=by
 unfold putV;split
 ·simp;exact Nat.le_succ_of_le (Nat.min_le_right _ _)
 ·simp
theorem foldl_len {β:Type}{f:Tab→β→Tab}(hf:∀t p,(f t p).2.length≤t.2.length+1):∀(l:List β) (t:Tab),(l.foldl f t).2.length≤t.2.length+l.length
 | [],t=>Nat.le_refl _
 | p::l,t=>by
  have:=foldl_len hf l (f t p)
  have:=hf t p
  simp only[List.foldl_cons,List.length_cons];lia
theorem add_len (t:Tab) (p:Str×Int):(t.add p).2.length≤t.2.length+1:=by unfold Tab.add;split <;> exact putV_len_le
section
variable {C:Cx}{n:Nat}{sc:Scope}{Γ:Gm}{e:Expr}{cm:Bool}
theorem It.tab {t:Tab}(h:It C n sc Γ cm e true ((t.1.zip (t.2.map D.int)).map fun p=>[.str p.1,p.2])):It C n sc Γ cm e true ((t.1.zip t.2).map fun p=>[.str p.1,.int p.2]):=by
 have:(t.1.zip (t.2.map D.int)).map (fun p=>[D.str p.1,p.2])=(t.1.zip t.2).map fun p=>[.str p.1,.int p.2]:=by
  rw[List.zip_map_right,List.map_map];rfl
 rw[this] at h;exact h
theorem t_add_callers {t s:Tab}(ht:t.ok) (hs:s.ok) (hl:t.2.length≤1000) (hl':s.2.length≤1000) (ht0:C.mg "isinstance"=none) (ht1:C.mg "tuple"=none):Run C n (fnT 4).scope [("target",.imm t.d),("source",.imm s.d)] (fnT 4).body (.ret (addCallers t s).d):=by
 refine run_newS (ks:=[]) (ds:=[]) nw_dict0S (Drop.same rfl) fun a=>?_
 have hz:∀{β:Type} (l:List β) (f:Tab→β→Tab) (t0:Tab) (i:Nat),t0.2.length≤2000→l.length≤1000→(∀t p,(f t p).2.length≤t.2.length+1)→(((l.take i).foldl f t0).2.map D.int).length≤4096:=fun l f t0 i h1 h2 hf=>by
  rw[List.length_map]
  have h3:=foldl_len hf (l.take i) t0
  have h4:(l.take i).length≤l.length:=List.length_take_le' ..
  lia
 refine rS (st_for (It.tab (t:=t) (it_items (xv (by walk_at "m")))) (fun(x:Tab)=>[("new_callers",.mdS a x.1 (x.2.map .int)),("target",.imm t.d),("source",.imm s.d)]) ([],[]) (fun x p=>x.put p.1 p.2) (List.Sublist.refl _) (fun a x hx=>bt2 (by decide +kernel) (by kernel_rfl) (by kernel_rfl)) (fun i x hx=>?_) (by intro _ _;rfl)) ?_
 ·refine rS (st_setS (xv (by walk_at "m")) (xv (by walk_at "m")) (by walk_at "u") (hz (t.1.zip t.2) (fun x p=>x.put p.1 p.2) ([],[]) i (by simp) (by simp;exact Nat.le_trans (Nat.min_le_right _ _) hl) fun J J=>putV_len_le)) (run_nil' ?_)
  simp only[Tab.put,putV_map]
  exact(by walk_at "s")
 have ok1:Tab.ok ((t.1.zip t.2).foldl (fun(x:Tab) p=>x.put p.1 p.2) ([],[])):=foldl_ok (fun t p h=>Tab.put_ok h) _ _ ⟨rfl,List.nodup_nil⟩
 have l1:=foldl_len (f:=fun(x:Tab) (p:Str×Int)=>x.put p.1 p.2) (fun J J=>putV_len_le) (t.1.zip t.2) ([],[])
 generalize hT:(t.1.zip t.2).foldl (fun(x:Tab) p=>x.put p.1 p.2) ([],[])=T at ok1 l1
 have hT2:T.2.length≤2000:=by simp at l1;lia
 refine rS (st_for (It.tab (t:=s) (it_items (xv (by walk_at "m")))) (fun(x:Tab)=>[("new_callers",.mdS a x.1 (x.2.map .int)),("target",.imm t.d),("source",.imm s.d)]) T Tab.add (by walk_at "s") (fun a x hx=>bt2 (by decide +kernel) (by kernel_rfl) (by kernel_rfl)) (fun i x hx=>?_) (by intro _ _;rfl)) ?_
 ·have ok2:Tab.ok (((s.1.zip s.2).take i).foldl Tab.add T):=foldl_ok (fun t p h=>Tab.add_ok h) _ _ ok1
  have l2:=hz (s.1.zip s.2) Tab.add T i hT2 (by simp;exact Nat.le_trans (Nat.min_le_right _ _) hl') add_len
  generalize ((s.1.zip s.2).take i).foldl Tab.add T=X at ok2 l2
  refine rS (Γ':=[("new_callers",.mdS a (X.add x).1 ((X.add x).2.map .int)),("target",.imm t.d),("source",.imm s.d)]) (st_if (tr_inS (xv (by walk_at "m")) (exh_mdS (by walk_at "m"))) (fun hc=>?_) fun hc=>?_) run_nil
  ·have hc':x.1∈X.1:=by simpa using hc
   obtain⟨h1,h2⟩:=Tab.at_get ok2 hc'
   refine rS (st_if (tr_bool (ex_builtin (f:=.builtin "isinstance") PyProof.Rows.Boot.isinstance ht0 (fun J e=>nomatch e) (.cons (xv (by walk_at "m")) (.cons (ex_ty PyProof.Rows.Boot.tuple ht1) .nil rfl) rfl) c_isinst_tuple)) (fun h=>(nomatch h)) fun J=>?_) run_nil
   refine rS (st_augS (by walk_at "u") (xv (by walk_at "m")) h1 h2 (xv (by walk_at "m")) oi_add_int l2) (run_nil' ?_)
   simp only[Tab.add,hc',if_true,Tab.put,putV_map]
   exact(by walk_at "s")
  ·have hc':¬x.1∈X.1:=by simpa using hc
   refine rS (st_setS (xv (by walk_at "m")) (xv (by walk_at "m")) (by walk_at "u") l2) (run_nil' ?_)
   simp only[Tab.add,hc',if_false,Tab.put,putV_map]
   exact(by walk_at "s")
 ·refine run_freezeS (by walk_at "u") ?_
  have e:(s.1.zip s.2).foldl Tab.add T=addCallers t s:=by rw[← hT];rfl
  rw[e]
  exact run_ret (xv (by walk_at "m"))
theorem t_add_func_stats {a b c d a' b' c' d':Int}{t s:Tab}(h:Fn C n "add_callers" [t.d,s.d] (addCallers t s).d) :
  Run C n (fnT 3).scope [("target",.imm (.tuple [.int a,.int b,.int c,.int d,t.d])),("source",.imm (.tuple [.int a',.int b',.int c',.int d',s.d]))] (fnT 3).body (.ret (.tuple [.int (a'+a),.int (b'+b),.int (c'+c),.int (d'+d),(addCallers t s).d])):=by
 refine rS (st_tuple (xs:=["cc","nc","tt","ct","callers"]) (xv (by walk_at "m")) (by repeat constructor) rfl (List.Sublist.refl _) (by kernel_rfl) (by decide +kernel) (by intro _ _;rfl) (by intro _;rfl)) ?_
 dsimp only[bindsG]
 refine rS (st_tuple (xs:=["t_cc","t_nc","t_tt","t_ct","t_callers"]) (xv (by walk_at "m")) (by repeat constructor) rfl (List.Sublist.refl _) (by kernel_rfl) (by decide +kernel) (by intro _ _;rfl) (by intro _;rfl)) ?_
 dsimp only[bindsG]
 refine run_ret (ex_tuple (.cons (xb (xv (by walk_at "m")) (xv (by walk_at "m")) o_add_int) (.cons (xb (xv (by walk_at "m")) (xv (by walk_at "m")) o_add_int) (.cons (xb (xv (by walk_at "m")) (xv (by walk_at "m")) o_add_int) (.cons (xb (xv (by walk_at "m")) (xv (by walk_at "m")) o_add_int) (.cons (ex_call (.cons (xv (by walk_at "m")) (.cons (xv (by walk_at "m")) .nil rfl) rfl) h (Nat.le_refl _)) .nil rfl) rfl) rfl) rfl) rfl))
end
end
section
open PySem.Sre (M Outcome)
noncomputable abbrev Sn:=PySem.Sre.Seen
theorem runFor_s {m:M}{n:Nat}:m.runFor (n+1)=if m.outcome.isSome=true then m else m.step.runFor n:=rfl
theorem runFor_done {m:M}(h:m.outcome.isSome=true) (n:Nat):m.runFor n=m:=by
 cases n with
 | zero=>rfl
 | succ n=>exact runFor_s.trans (if_pos h)
theorem runFor_add {m:M}(a b:Nat):m.runFor (a+b)=(m.runFor a).runFor b:=by
 induction a generalizing m with
 | zero=>rw[Nat.zero_add];rfl
 | succ a ih=>
  rw[Nat.add_right_comm,runFor_s,runFor_s]
  by_cases h:m.outcome.isSome=true
  ·rw[if_pos h,if_pos h,runFor_done h]
  ·rw[if_neg h,if_neg h];exact ih
noncomputable def Ends (m:M) (n:Nat) (r:Option (Nat×Nat)):Prop:=match r with
 | none=>(m.runFor n).outcome=some .failed
 | some (b,e)=>(m.runFor n).outcome=some .matched∧(m.runFor n).start=b∧(m.runFor n).handed=e
theorem Ends.some? {m:M}{n:Nat}{r:Option (Nat×Nat)}(h:Ends m n r):(m.runFor n).outcome.isSome=true:=by
 cases r with
 | none=>simp only[Ends] at h;rw[h];rfl
 | some p=>obtain⟨b,e⟩:=p;simp only[Ends] at h;rw[h.1];rfl
theorem Ends.more {m:M}{n k:Nat}{r:Option (Nat×Nat)}(h:Ends m n r) (hk:n≤k):Ends m k r:=by
 obtain⟨d,rfl⟩:=Nat.exists_eq_add_of_le hk
 have:m.runFor (n+d)=m.runFor n:=by rw[runFor_add,runFor_done h.some?]
 unfold Ends at h ⊢
 rw[this];exact h
theorem Ends.after {m:M}{n k:Nat}{r:Option (Nat×Nat)}(h:Ends (m.runFor k) n r):Ends m (k+n) r:=by
 unfold Ends at h ⊢;rw[runFor_add];exact h
noncomputable abbrev code1:Array Nat:=#[14,4,0,1,1,6,1,16,46,1]
noncomputable abbrev code3:Array Nat:=#[14,9,4,1,2,16,10,16,13,0,7,7,16,13,16,10,15,18,5,16,10,15,13,11,16,13,5,5,0,16,10,1,15,2,0,1]
noncomputable def q (code t:Array Nat) (s pc pos h:Nat) (om:Bool) (fr:List PySem.Sre.Frame) (w:Nat) (a:Option Bool) (seen:Sn) (o:Option PySem.Sre.Outcome):M:=
 { code:=code,text:=t,lim:=t.size,start:=s,lastStart:=t.size,pc:=pc,pos:=pos,handed:=h,outermost:=om,marks:=#[],frames:=fr,weight:=w,answer:=a,seen:=seen,outcome:=o }
noncomputable def f0 (pc s:Nat) (first:Bool):PySem.Sre.Frame:={ wait:=.nextStart,pc:=pc,pos:=s,outermost:=first }
theorem run_next {m m':M}(e:m.step=m') (ho:m.outcome=none) {n:Nat}:m.runFor (n+1)=m'.runFor n:=by
 rw[runFor_s,ho,if_neg (nofun),e]
theorem Ends.step {m m':M}{n:Nat}{r:Option (Nat×Nat)}(e:m.step=m') (ho:m.outcome=none) (h:Ends m' n r):Ends m (n+1) r:=by
 unfold Ends at h ⊢;rw[run_next e ho];exact h
theorem Ends.match' {m:M}{n s e:Nat}(h1:(m.runFor n).outcome=some .matched) (h2:(m.runFor n).start=s) (h3:(m.runFor n).handed=e):Ends m n (some (s,e)):=⟨h1,h2,h3⟩
section
variable {code t:Array Nat}{s pc pos h w:Nat}{om:Bool}{fr:List PySem.Sre.Frame}{seen:Sn}
theorem lit_yes (c:Nat) (e:(q code t s pc pos h om fr w none seen none).step=if t.size≤pos then q code t s pc pos h om fr w (some false) (seen.add 16) none else (t.getD pos 0==c).rec (q code t s pc pos h om fr w (some false) (seen.add 16) none) (q code t s (pc+2) (pos+1) h om fr w none (seen.add 16) none)) (hp:pos<t.size) (hc:t.getD pos 0=c) :
  (q code t s pc pos h om fr w none seen none).step=q code t s (pc+2) (pos+1) h om fr w none (seen.add 16) none:=by
 rw[e,if_neg (Nat.not_le.mpr hp),hc,beq_self_eq_true]
theorem lit_no (c:Nat) (e:(q code t s pc pos h om fr w none seen none).step=if t.size≤pos then q code t s pc pos h om fr w (some false) (seen.add 16) none else (t.getD pos 0==c).rec (q code t s pc pos h om fr w (some false) (seen.add 16) none) (q code t s (pc+2) (pos+1) h om fr w none (seen.add 16) none)) (hc:pos<t.size→(t.getD pos 0==c)=false) :
  (q code t s pc pos h om fr w none seen none).step=q code t s pc pos h om fr w (some false) (seen.add 16) none:=by
 by_cases hp:t.size≤pos
 ·rw[e,if_pos hp]
 ·rw[e,if_neg hp,hc (Nat.not_le.mp hp)]
end
noncomputable def m1 (t:Array Nat) (s:Nat) (seen:Sn) (first:Bool):M:=q code1 t s 5 s s first [f0 5 s first] 1 none seen none
noncomputable def lineAt (t:Array Nat) (s:Nat):Bool:=s==0||t.getD (s-1) 0==10
theorem m1_next {t:Array Nat}{s s0 pc pos h:Nat}{seen:Sn}{first om:Bool}(hs:s<t.size):(q code1 t s0 pc pos h om [f0 5 s first] 1 (some false) seen none).step=m1 t (s+1) seen false:=by
 show(if s<t.size then _ else _)=_
 rw[if_pos hs];rfl
theorem m1_stop {t:Array Nat}{s s0 pc pos h:Nat}{seen:Sn}{first om:Bool}(hs:¬s<t.size):Ends (q code1 t s0 pc pos h om [f0 5 s first] 1 (some false) seen none) 2 none:=by
 refine Ends.step (m':=q code1 t s0 5 s h first [] 0 (some false) seen none) ?_ rfl (rfl)
 show(if s<t.size then _ else _)=_
 rw[if_neg hs];rfl
theorem m1_at {t:Array Nat}{s:Nat}{seen:Sn}{first:Bool}:(m1 t s seen first).step=if lineAt t s=true then q code1 t s 7 s s first [f0 5 s first] 1 none ((seen.add 6).add 44) none else q code1 t s 5 s s first [f0 5 s first] 1 (some false) ((seen.add 6).add 44) none:=by kernel_rfl
theorem m1_suc {t:Array Nat}{s:Nat}{seen:Sn}{first:Bool}:(q code1 t s 9 (s+1) s first [f0 5 s first] 1 none seen none).step=q code1 t s 9 (s+1) (s+1) first [f0 5 s first] 1 (some true) (seen.add 1) none:=by cases first <;> kernel_rfl
theorem m1_off {t:Array Nat}{s:Nat}{seen:Sn}{first:Bool}(h:¬(lineAt t s=true∧t[s]?.getD 0=46)) (hs:s<t.size):∃seen' k,(m1 t s seen first).runFor k=m1 t (s+1) seen' false∧k≤3:=by
 by_cases hl:lineAt t s=true
 ·refine⟨((seen.add 6).add 44).add 16,3,?_,Nat.le_refl _⟩
  exact(run_next (m1_at.trans (if_pos hl)) rfl).trans ((run_next (lit_no 46 (by kernel_rfl) fun J=>beq_eq_false_iff_ne.mpr fun e=>h ⟨hl,by rw[← Array.getD_eq_getD_getElem?];exact e⟩) rfl).trans (run_next (m1_next hs) rfl))
 ·exact⟨(seen.add 6).add 44,2,(run_next (m1_at.trans (if_neg hl)) rfl).trans (run_next (m1_next hs) rfl),by decide⟩
theorem m1_on {t:Array Nat}{s:Nat}{seen:Sn}{first:Bool}(hl:lineAt t s=true) (h3:t[s]?.getD 0=46) (hs:s<t.size):Ends (m1 t s seen first) 5 (some (s,s+1)):=
 .step (m1_at.trans (if_pos hl)) rfl (.step (lit_yes 46 (by kernel_rfl) hs (by rw[Array.getD_eq_getD_getElem?,h3])) rfl (.step m1_suc rfl (.match' rfl rfl rfl)))
theorem m1_end {t:Array Nat}{s:Nat}{seen:Sn}{first:Bool}(h1:¬s<t.size) (h2:t.size≤s):Ends (m1 t s seen first) 4 none:=by
 by_cases hl:lineAt t s=true
 ·exact .step (m1_at.trans (if_pos hl)) rfl (.step (lit_no 46 (by kernel_rfl) fun h=>absurd h h1) rfl (m1_stop h1))
 ·exact .step (m1_at.trans (if_neg hl)) rfl ((m1_stop h1).more (by decide))
noncomputable def fnd (c:Nat→Prop) [DecidablePred c] (en:Nat→Nat):(fuel s:Nat)→Option (Nat×Nat)
 | 0,_=>none
 | f+1,s=>if c s then some (s,en s) else fnd c en f (s+1)
section
variable {c:Nat→Prop}[DecidablePred c] {en:Nat→Nat}{f s b e:Nat}
theorem fnd_yes (h:c s):fnd c en (f+1) s=some (s,en s):=if_pos h
theorem fnd_no (h:¬c s):fnd c en (f+1) s=fnd c en f (s+1):=if_neg h
theorem fnd_at (h:fnd c en f s=some (b,e)):s≤b∧b<s+f∧e=en b∧c b:=by
 induction f generalizing s with
 | zero=>cases h
 | succ f ih=>
  by_cases hc:c s
  ·rw[fnd_yes hc] at h
   cases h
   exact⟨Nat.le_refl _,Nat.lt_add_of_pos_right (Nat.succ_pos f),rfl,hc⟩
  ·rw[fnd_no hc] at h
   obtain⟨h1,h2,h3⟩:=ih h
   exact⟨Nat.le_of_succ_le h1,Nat.lt_of_lt_of_eq h2 (Nat.add_right_comm s 1 f),h3⟩
end
noncomputable abbrev find1 (t:Array Nat):(fuel s:Nat)→Option (Nat×Nat):=fnd (fun s=>lineAt t s=true∧t[s]?.getD 0=46) (·+1)
theorem m1_find {t:Array Nat}(f s:Nat) (seen:Sn) (first:Bool) (h:s+f=t.size):Ends (m1 t s seen first) (3*f+5) (find1 t f s):=by
 induction f generalizing s seen first with
 | zero=>
  have hs:t.size≤s:=Nat.le_of_eq h.symm
  exact(m1_end (Nat.not_lt_of_le hs) hs).more (by decide)
 | succ f ih=>
  have hs:s<t.size:=Nat.lt_of_lt_of_eq (Nat.lt_add_of_pos_right (Nat.succ_pos f)) h
  by_cases hc:lineAt t s=true∧t[s]?.getD 0=46
  ·rw[show find1 t (f+1) s=some (s,s+1) from if_pos hc];exact(m1_on hc.1 hc.2 hs).more (Nat.le_add_left 5 _)
  ·rw[show find1 t (f+1) s=find1 t f (s+1) from if_neg hc]
   obtain⟨seen',k,e,hk⟩:=m1_off (seen:=seen) (first:=first) hc hs
   have:=ih (s+1) seen' false ((Nat.add_right_comm s 1 f).trans h)
   rw[← e] at this
   exact this.after.more (by rw[Nat.mul_succ,Nat.add_right_comm,Nat.add_comm k];exact Nat.add_le_add_left hk _)
theorem forSearch_1 {t:Array Nat}{s:Nat}(h1:¬t.size<s) (h2:¬t.size-s<1):PySem.Sre.forSearch code1 t 0 s t.size false=m1 t s (({}:Sn).add 14) true:=by
 have e:PySem.Sre.forSearch code1 t 0 s t.size false=if s>t.size||t.size-s<1 then _ else M.attemptFrom { code:=code1,text:=t,lim:=t.size,start:=s,pc:=5,pos:=s,handed:=s,marks:=#[],seen:=({}:Sn).add 14,lastStart:=t.size } s true:=rfl
 rw[e,if_neg (by simp[h1];exact Nat.ne_of_gt (Nat.lt_of_succ_le (Nat.le_of_not_lt h2)))]
 rfl
theorem forSearch_1e {t:Array Nat}:Ends (PySem.Sre.forSearch code1 t 0 t.size t.size false) 4 none:=by
 have e:PySem.Sre.forSearch code1 t 0 t.size t.size false=if t.size>t.size||t.size-t.size<1 then (M.say { code:=code1,text:=t,lim:=t.size,start:=t.size,pc:=5,pos:=t.size,handed:=t.size,marks:=#[],seen:=({}:Sn).add 14 } false) else _:=rfl
 rw[e,if_pos (by simp)]
 rfl
theorem search1 {t:Array Nat}{s:Nat}(hs:s≤t.size):Ends (PySem.Sre.forSearch code1 t 0 s t.size false) (3*(t.size-s)+8) (find1 t (t.size-s) s):=by
 by_cases he:s=t.size
 ·subst he
  rw[Nat.sub_self]
  exact forSearch_1e.more (by decide)
 ·rw[forSearch_1 (Nat.not_lt_of_le hs) (by lia)]
  exact(m1_find _ s _ _ (Nat.add_sub_of_le hs)).more (Nat.add_le_add_left (by decide) _)
end
section
open PySem.Sre (M Outcome)
noncomputable def m3 (t:Array Nat) (s:Nat) (seen:Sn) (first:Bool):M:=q code3 t s 10 s s first [f0 10 s first] 1 none seen none
noncomputable def fB (pc s:Nat) (first:Bool):PySem.Sre.Frame:={ wait:=.nextBranch,pc:=pc,pos:=s,outermost:=first }
noncomputable def fN (s:Nat) (first:Bool):PySem.Sre.Frame:={ wait:=.lookNot,pc:=26,pos:=s,outermost:=first }
section
variable {t:Array Nat}{s:Nat}{seen:Sn}{first:Bool}
theorem m3_0:(m3 t s seen first).step=q code3 t s 12 s s first [fB 11 s first,f0 10 s first] 2 none (seen.add 7) none:=by kernel_rfl
theorem m3_1 {pos:Nat}:(q code3 t s 14 pos s first [fB 11 s first,f0 10 s first] 2 (some false) seen none).step=q code3 t s 19 s s first [fB 18 s first,f0 10 s first] 2 none seen none:=by kernel_rfl
theorem m3_1' {pos:Nat}:(q code3 t s 12 pos s first [fB 11 s first,f0 10 s first] 2 (some false) seen none).step=q code3 t s 19 s s first [fB 18 s first,f0 10 s first] 2 none seen none:=by kernel_rfl
theorem m3_2 {pos:Nat}:(q code3 t s 19 pos s first [fB 18 s first,f0 10 s first] 2 (some false) seen none).step=q code3 t s 24 s s first [fB 23 s first,f0 10 s first] 2 none seen none:=by kernel_rfl
theorem m3_3:(q code3 t s 26 (s+1) s first [fB 23 s first,f0 10 s first] 2 none seen none).step=q code3 t s 29 (s+1) (s+1) false [fN (s+1) first,fB 23 s first,f0 10 s first] 3 none (seen.add 5) none:=by kernel_rfl
theorem m3_4:(q code3 t s 29 (s+1) (s+1) false [fN (s+1) first,fB 23 s first,f0 10 s first] 3 (some false) seen none).step=q code3 t s 32 (s+1) (s+1) first [fB 23 s first,f0 10 s first] 2 none seen none:=by kernel_rfl
theorem m3_j {pos h k:Nat}:Ends (q code3 t s 32 pos h first [fB k s first,f0 10 s first] 2 none seen none) 5 (some (s,pos)):=by
 refine .step (m':=q code3 t s 35 pos h first [fB k s first,f0 10 s first] 2 none (seen.add 15) none) (by kernel_rfl) rfl (.step (m':=q code3 t s 35 pos pos first [fB k s first,f0 10 s first] 2 (some true) ((seen.add 15).add 1) none) ?_ rfl (.match' rfl rfl rfl))
 cases first <;> kernel_rfl
theorem m3_j1 {pos h k:Nat}:(q code3 t s 16 pos h first [fB k s first,f0 10 s first] 2 none seen none).step=q code3 t s 35 pos h first [fB k s first,f0 10 s first] 2 none (seen.add 15) none:=by kernel_rfl
theorem m3_j2 {pos h k:Nat}:(q code3 t s 21 pos h first [fB k s first,f0 10 s first] 2 none seen none).step=q code3 t s 35 pos h first [fB k s first,f0 10 s first] 2 none (seen.add 15) none:=by kernel_rfl
theorem m3_e {pos h k:Nat}:Ends (q code3 t s 35 pos h first [fB k s first,f0 10 s first] 2 none seen none) 4 (some (s,pos)):=by
 refine .step (m':=q code3 t s 35 pos pos first [fB k s first,f0 10 s first] 2 (some true) (seen.add 1) none) ?_ rfl (.match' rfl rfl rfl)
 cases first <;> kernel_rfl
theorem at_d {t:Array Nat}{i c:Nat}(hi:i<t.size) (h:t[i]=c):t.getD i 0=c:=by rw[Array.getD_eq_getD_getElem?,Array.getElem?_eq_getElem hi];exact h
theorem at_n {t:Array Nat}{i c:Nat}(h:∀hi:i<t.size,(t[i]==c)=false):i<t.size→(t.getD i 0==c)=false:=fun hi=>by rw[at_d hi rfl];exact h hi
theorem m3_lf (hs:s<t.size) (h:t[s]=10):Ends (m3 t s seen first) 14 (some (s,s+1)):=by
 refine Ends.more (n:=9) ?_ (by decide)
 refine .step m3_0 rfl (.step (lit_no 13 (by kernel_rfl) (at_n fun J=>by rw[h];rfl)) rfl (.step m3_1' rfl (.step (lit_yes 10 (by kernel_rfl) hs (at_d hs h)) rfl (.step m3_j2 rfl m3_e))))
theorem m3_crlf (hs:s<t.size) (h:t[s]=13) (hs':s+1<t.size) (h':t[s+1]=10):Ends (m3 t s seen first) 14 (some (s,s+2)):=by
 refine Ends.more (n:=8) ?_ (by decide)
 exact .step m3_0 rfl (.step (lit_yes 13 (by kernel_rfl) hs (at_d hs h)) rfl (.step (lit_yes 10 (by kernel_rfl) hs' (at_d hs' h')) rfl (.step m3_j1 rfl m3_e)))
theorem m3_cr (hs:s<t.size) (h:t[s]=13) (h':∀hi:s+1<t.size,(t[s+1]==10)=false):Ends (m3 t s seen first) 16 (some (s,s+1)):=by
 refine Ends.more (n:=15) ?_ (by decide)
 exact .step m3_0 rfl (.step (lit_yes 13 (by kernel_rfl) hs (at_d hs h)) rfl (.step (lit_no 10 (by kernel_rfl) (at_n h')) rfl (.step m3_1 rfl (.step (lit_no 10 (by kernel_rfl) (at_n fun J=>by rw[h];rfl)) rfl (.step m3_2 rfl
  (.step (lit_yes 13 (by kernel_rfl) hs (at_d hs h)) rfl (.step m3_3 rfl (.step (lit_no 10 (by kernel_rfl) (at_n h')) rfl (.step m3_4 rfl m3_j)))))))))
end
noncomputable def eolEnd (t:Array Nat) (s:Nat):Nat:=if t[s]?.getD 0=13∧t[s+1]?.getD 0=10 then s+2 else s+1
theorem m3_at {t:Array Nat}{s:Nat}{seen:Sn}{first:Bool}(hs:s<t.size) (h:t[s]?.getD 0=10∨t[s]?.getD 0=13):Ends (m3 t s seen first) 16 (some (s,eolEnd t s)):=by
 have e:t[s]?.getD 0=t[s]:=by simp[hs]
 unfold eolEnd
 rw[e] at h ⊢
 rcases h with h | h
 ·rw[if_neg (by rw[h];exact fun x=>nomatch x.1)]
  exact(m3_lf hs h).more (by decide)
 ·by_cases hs':s+1<t.size
  ·have e':t[s+1]?.getD 0=t[s+1]:=by simp[hs']
   rw[e']
   by_cases h':t[s+1]=10
   ·rw[if_pos ⟨h,h'⟩];exact(m3_crlf hs h hs' h').more (by decide)
   ·rw[if_neg fun x=>h' x.2];exact m3_cr hs h fun J=>by simp[h']
  ·have e':t[s+1]?.getD 0=0:=by simp[Nat.le_of_not_lt hs']
   rw[e',if_neg (by simp)]
   exact m3_cr hs h fun hi=>absurd hi hs'
noncomputable abbrev find3 (t:Array Nat):(fuel s:Nat)→Option (Nat×Nat):=fnd (fun s=>t[s]?.getD 0=10∨t[s]?.getD 0=13) (eolEnd t)
theorem set3 {c:Nat}{seen:Sn}:PySem.Sre.inSet code3 c code3.size 5 true seen=if (c==10)=true then .ok (true,seen.add 16) else if (c==13)=true then .ok (true,(seen.add 16).add 16) else .ok (false,((seen.add 16).add 16).add 0):=by kernel_rfl
theorem inSet3 {c:Nat}{seen:Sn}:∃seen',PySem.Sre.inSet code3 c code3.size 5 true seen=.ok (decide (c=10∨c=13),seen'):=by
 rw[set3]
 by_cases h1:c=10
 ·subst h1;exact⟨_,rfl⟩
 ·by_cases h2:c=13
  ·subst h2;exact⟨_,rfl⟩
  ·rw[if_neg (mt eq_of_beq h1),if_neg (mt eq_of_beq h2),decide_eq_false (not_or.mpr ⟨h1,h2⟩)];exact⟨_,rfl⟩
noncomputable def adm (r:Option (Nat×Nat)):Option Nat:=r.map (·.1)
section
variable {m:M}{k s b:Nat}{seen seen':Sn}{first:Bool}
theorem adm_end (h:s≥m.lim):m.admitted (k+1) s seen=.ok (none,seen):=if_pos h
theorem adm_yes (h:¬s≥m.lim) (e:PySem.Sre.inSet m.code (m.text.getD s 0) m.code.size 5 true seen=.ok (true,seen')):m.admitted (k+1) s seen=.ok (some s,seen'):=(if_neg h).trans (by rw[e])
theorem adm_no (h:¬s≥m.lim) (e:PySem.Sre.inSet m.code (m.text.getD s 0) m.code.size 5 true seen=.ok (false,seen')):m.admitted (k+1) s seen=m.admitted k (s+1) seen':=(if_neg h).trans (by rw[e])
theorem att_some (h:m.hasFirstSet=true) (e:m.admitted (m.lim+1-s) s m.seen=.ok (some b,seen)):m.attemptFrom s first={ m with mustAdvance:=false,seen:=seen }.attemptAt b first:=(if_neg (by rw[h];exact nofun)).trans (by rw[e])
theorem att_none (h:m.hasFirstSet=true) (e:m.admitted (m.lim+1-s) s m.seen=.ok (none,seen)):m.attemptFrom s first={ m with seen:=seen }.say false:=(if_neg (by rw[h];exact nofun)).trans (by rw[e])
end
theorem admitted3 {t:Array Nat}{m:M}(hc:m.code=code3) (ht:m.text=t) (hl:m.lim=t.size) (f s k:Nat) (seen:Sn) (h:s+f=t.size) (hk:f<k):∃seen',m.admitted k s seen=.ok (adm (find3 t f s),seen'):=by
 obtain⟨k,rfl⟩:=Nat.exists_eq_succ_of_ne_zero (Nat.ne_of_gt (Nat.lt_of_le_of_lt (Nat.zero_le f) hk))
 induction f generalizing s k seen with
 | zero=>exact⟨_,adm_end (s:=s) (by rw[hl];exact Nat.le_of_eq h.symm)⟩
 | succ f ih=>
  have hs:¬s≥m.lim:=by rw[hl];exact Nat.not_le_of_lt (Nat.lt_of_lt_of_eq (Nat.lt_add_of_pos_right (Nat.succ_pos f)) h)
  obtain⟨seen',e⟩:=inSet3 (c:=t.getD s 0) (seen:=seen)
  rw[← ht,Array.getD_eq_getD_getElem?,ht] at e
  have e':PySem.Sre.inSet m.code (m.text.getD s 0) m.code.size 5 true seen=.ok (decide (t[s]?.getD 0=10∨t[s]?.getD 0=13),seen'):=by rw[hc,ht,Array.getD_eq_getD_getElem?];exact e
  by_cases hd:t[s]?.getD 0=10∨t[s]?.getD 0=13
  ·rw[decide_eq_true hd] at e'
   rw[show find3 t (f+1) s=some (s,eolEnd t s) from if_pos hd];exact⟨_,adm_yes hs e'⟩
  ·rw[decide_eq_false hd] at e'
   rw[show find3 t (f+1) s=find3 t f (s+1) from if_neg hd,adm_no hs e']
   obtain⟨k,rfl⟩:=Nat.exists_eq_succ_of_ne_zero (Nat.ne_of_gt (Nat.lt_of_lt_of_le (Nat.succ_pos f) (Nat.le_of_lt_succ hk)))
   exact ih (s+1) seen' ((Nat.add_right_comm s 1 f).trans h) k (Nat.lt_of_succ_lt_succ hk)
noncomputable def mS (t:Array Nat) (s:Nat):M:={ code:=code3,text:=t,lim:=t.size,start:=s,pc:=10,pos:=s,handed:=s,marks:=#[],seen:=({}:Sn).add 14,lastStart:=t.size }
theorem search3 {t:Array Nat}{s:Nat}(hs:s≤t.size):Ends (PySem.Sre.forSearch code3 t 0 s t.size false) 16 (find3 t (t.size-s) s):=by
 have e:PySem.Sre.forSearch code3 t 0 s t.size false=if s>t.size||t.size-s<1 then (M.say { code:=code3,text:=t,lim:=t.size,start:=s,pc:=10,pos:=s,handed:=s,marks:=#[],seen:=({}:Sn).add 14 } false) else (mS t s).attemptFrom s true:=rfl
 rw[e]
 by_cases he:s=t.size
 ·subst he
  rw[Nat.sub_self,if_pos (by exact Bool.or_true _)]
  exact Ends.more (n:=4) rfl (by decide)
 ·have hlt:s<t.size:=Nat.lt_of_le_of_ne hs he
  rw[if_neg (by rw[decide_eq_false (Nat.not_lt_of_le hs),decide_eq_false (Nat.not_lt_of_le (Nat.sub_pos_of_lt hlt))];exact nofun)]
  obtain⟨seen',e2⟩:=admitted3 (t:=t) (m:=mS t s) rfl rfl rfl (t.size-s) s (t.size+1-s) (({}:Sn).add 14) (Nat.add_sub_cancel' hs) (by rw[Nat.succ_sub hs];exact Nat.lt_succ_self _)
  cases hf:find3 t (t.size-s) s with
  | none=>
   rw[hf] at e2
   rw[att_none rfl e2]
   exact Ends.more (n:=4) rfl (by decide)
  | some p=>
   obtain⟨b,e⟩:=p
   rw[hf] at e2
   obtain⟨h1,h2,rfl,h4⟩:=fnd_at hf
   rw[att_some rfl e2]
   exact m3_at (t:=t) (s:=b) (seen:=seen') (first:=true) (Nat.lt_of_lt_of_eq h2 (Nat.add_sub_cancel' hs)) h4
end
section
open PySem.Sre (M Outcome)
open Builtin.Re
section
variable {C:Cx}{A:Around}{s:Shared}
theorem drive {r:Option (Nat×Nat)}:∀(turns n:Nat) (m:M) (Q:M→Shared→Prop),Ends m n r→n≤4*turns→0<turns→(∀m',(∃k,m'=m.runFor k)→m'.outcome.isSome=true→Q m' s)→Wp C A (reDrive turns m) Q s:=by
 intro turns
 induction turns with
 | zero=>intro n m Q _ _ h;exact absurd h (Nat.lt_irrefl 0)
 | succ turns ih=>
  intro n m Q h hn _ k
  unfold reDrive
  show Wp C A (if (m.runFor reTurnSteps).outcome.isSome=true then _ else _) Q s
  by_cases ho:(m.runFor reTurnSteps).outcome.isSome=true
  ·rw[if_pos ho];exact wpAny_pure (k _ ⟨_,rfl⟩ ho)
  ·rw[if_neg ho]
   refine wpAny_bind (wpAny_rule ?_)
   have h4:¬n≤4:=fun hh=>ho (h.more (k:=reTurnSteps) hh).some?
   refine ih (n-4) _ Q ?_ (by lia) (by lia) fun m' ⟨j,e⟩ ho'=>k m' ⟨4+j,?_⟩ ho'
   ·obtain⟨d,hd⟩:=Nat.exists_eq_add_of_le (Nat.le_of_not_le h4)
    subst hd
    have e:4+d-4=d:=by exact Nat.add_sub_cancel_left _ _
    rw[e]
    unfold Ends at h ⊢
    rw[runFor_add] at h
    exact h
   ·rw[e,runFor_add];rfl
theorem ends_done {m:M}{n k:Nat}{r:Option (Nat×Nat)}(h:Ends m n r) (ho:(m.runFor k).outcome.isSome=true):m.runFor k=m.runFor n:=by
 rcases Nat.le_total k n with hk | hk
 ·obtain⟨d,rfl⟩:=Nat.exists_eq_add_of_le hk
  rw[runFor_add,runFor_done ho]
 ·obtain⟨d,rfl⟩:=Nat.exists_eq_add_of_le hk
  rw[runFor_add,runFor_done h.some?]
theorem rules {c:Nat→Bool}{g:Nat→String}{Q:PUnit→Shared→Prop}(h:Q ⟨⟩ s) (l:List Nat):Wp C A (forIn l PUnit.unit fun i J=>(if c i=true then (do rule (g i);pure (ForInStep.yield PUnit.unit)) else pure (ForInStep.yield PUnit.unit))) Q s:=by
 induction l with
 | nil=>exact wpAny_pure h
 | cons i l ih=>
  rw[List.forIn_cons]
  refine wpAny_bind ?_
  by_cases hc:c i=true
  ·rw[if_pos hc];exact wpAny_bind (wpAny_rule (wpAny_pure ih))
  ·rw[if_neg hc];exact wpAny_pure ih
theorem runToEnd {m:M}{n:Nat}{r:Option (Nat×Nat)}{Q:Option M→Shared→Prop}(h:Ends m n r) (hn:n≤2^60)
  (k:match r with | none=>Q none s | some (b,e)=>∀m',m'.start=b→m'.handed=e→Q (some m') s):Wp C A (reRunToEnd m) Q s:=by
 unfold reRunToEnd
 refine wpAny_bind (drive (r:=r) (2^64) n m _ h (Nat.le_trans hn (by decide)) (by decide) fun m' hZ ho=>?_)
 obtain⟨j,e⟩:=hZ
 subst e
 rw[ends_done h ho]
 refine wpAny_bind ?_
 refine rules (c:=fun i=>(m.runFor n).seen.has i) (g:=fun i=>PySem.Sre.names.getD i "") ?_ _
 unfold Ends at h
 cases r with
 | none=>simp only[h];exact wpAny_pure k
 | some p=>obtain⟨b,e⟩:=p;simp only[h.1];exact wpAny_pure (k _ h.2.1 h.2.2)
structure Pat (h:Heap) (a:Addr) (code:Array Nat) (kind:Nat):Prop where
 obj:∃(o:Obj) (v0 v1 v3 v4:Value) (t2 t6:Tok) (c:Addr),h.get? a=some o∧o.cls=.type "re.Pattern"∧o.dict=none∧o.data=.fields #[v0,v1,.int 0 t2,v3,v4,.ref c,.int kind t6] ∧
  ∃oc n,h.get? c=some oc∧oc.data=.seq (code.map fun k:Nat=>Value.int (k:Int) 0) n
theorem Pat.keep {h h':Heap}{a:Addr}{code:Array Nat}{kind:Nat}(p:Pat h a code kind) (k:∀b o,h.get? b=some o→h'.get? b=some o):Pat h' a code kind:=by
 obtain⟨o,v0,v1,v3,v4,t2,t6,c,h1,h1',h1'',h2,oc,n,h3,h4⟩:=p
 exact⟨o,v0,v1,v3,v4,t2,t6,c,k _ _ h1,h1',h1'',h2,oc,n,k _ _ h3,h4⟩
noncomputable def IsTxt (v:Value) (t:Array Nat) (kind:Nat):Prop:=(kind=0∧∃u,v=.str ⟨t⟩ u)∨(kind=1∧∃b u,v=.bytes b u∧t=b.map (·.toNat))
theorem textOf {v:Value}{t:Array Nat}{kind:Nat}{Q:Array Nat×Nat→Shared→Prop}(h:IsTxt v t kind) (q:Q (t,kind) s):Wp C A (reTextOf v) Q s:=by
 rcases h with ⟨rfl,u,rfl⟩ | ⟨rfl,b,u,rfl,rfl⟩
 ·exact wpAny_bind (wpAny_pure (wpAny_pure q))
 ·unfold reTextOf
  refine wpAny_bind (wpAny_pure ?_)
  show wpAny _ _ (Builtin.Bytes.bufferQuiet? "_sre" (.bytes b u)>>=_) _ _ s
  rw[KBy.quiet_eq]
  exact wpAny_pure q
theorem rawNats (code:Array Nat):((code.map fun k:Nat=>Value.int (k:Int) 0).map reRawOf).map (·.toNat)=code:=by
 rw[Array.map_map,Array.map_map]
 have:(((fun x:Int=>x.toNat)∘reRawOf)∘fun k:Nat=>Value.int (k:Int) 0)=id:=rfl
 rw[this,Array.map_id]
theorem wholeTarget {a:Addr}{v:Value}{code t:Array Nat}{kind:Nat}{Q:ReTarget→Shared→Prop}(p:Pat s.heap a code kind) (h:IsTxt v t kind)
  (q:Q { pattern:=.ref a,string:=v,code:=code,text:=t,kind:=kind,groups:=0,pos:=0,lim:=t.size } s):Wp C A (reWholeTarget (.ref a) v) Q s:=by
 obtain⟨o,v0,v1,v3,v4,t2,t6,c,h1,h1',h1'',h2,oc,n,h3,h4⟩:=p
 unfold reWholeTarget
 refine wpAny_bind (wpAny_fieldsOf h1 h2 (wpAny_bind (textOf h ?_)))
 have hk:kind=0∨kind=1:=by rcases h with ⟨e,_⟩ | ⟨e,_⟩ <;> simp[e]
 have hin:∀(Q':Unit→Shared→Prop),Q' () s→Wp C A (reNoCollectionInside v kind) Q' s:=fun Q' hq=>by
  unfold reNoCollectionInside
  rcases h with ⟨e,_⟩ | ⟨e,b,u,rfl,_⟩
  ·subst e;exact wpAny_pure hq
  ·subst e
   show wpAny _ _ (isInstance (.bytes b u) (.type "bytes")>>=_) _ _ s
   rw[KBy.isInstance_eq]
   exact wpAny_pure hq
 have hend:Wp C A (do
   reNoCollectionInside v kind
   pure { pattern:=.ref a,string:=v,code:=(← reRawItems (.ref c)).map (·.toNat),text:=t,kind:=kind,groups:=0,pos:=0,lim:=t.size }) Q s:=by
  refine wpAny_bind (hin _ ?_)
  unfold reRawItems
  refine wpAny_bind (wpAny_bind (wpAny_seqItems h3 h4 (wpAny_pure ?_)))
  show wpAny _ _ (pure _) _ _ s
  refine wpAny_pure ?_
  rw[Option.getD_some,rawNats]
  exact q
 rcases hk with rfl | rfl <;> exact hend
end
end
section
open Builtin Builtin.Re
theorem entry_sub_loop:entryFor table "re.Pattern.sub.loop"=some Builtin.«re.Pattern.sub.loop»:=entryFor_of_tree (by kernel_rfl)
theorem quiet_sub_loop (args:Args):(Code.builtin "re.Pattern.sub.loop" args).quiet=true:=Code.quiet_builtin args (by decide +kernel)
theorem entry_sub:entryFor table "re.Pattern.sub"=some Builtin.«re.Pattern.sub»:=entryFor_of_tree (by kernel_rfl)
theorem plainAttrs_pat:PlainAttrs "re.Pattern":=
 ⟨⟨"object.__getattribute__",by rw[typeLookup_type,builtinLookup_eq_fast];kernel_rfl,by decide +kernel⟩,by rw[typeLookup_type,builtinLookup_eq_fast];kernel_rfl⟩
theorem slot_sub:PySem.Slot "re.Pattern" "sub" "re.Pattern.sub":=
 .of (owner:="re.Pattern") (n:="sub") (by rw[typeLookup_type,builtinLookup_eq_fast];kernel_rfl) (by decide +kernel) (by decide +kernel) (by decide +kernel)
  (by first | exact .inl (by decide +kernel) | exact .inr (by decide +kernel)) (by rw[isSubtype_type];kernel_rfl)
theorem type_sub:typeOf (.builtin "re.Pattern.sub")=pure (.type "method_descriptor"):=by show builtinType _=_;rw[builtinType_eq_fast];kernel_rfl
theorem args_sub (a b c:Value):argsOk "re.Pattern.sub" ⟨[a,b,c],[]⟩:=by
 unfold argsOk
 have:Manifest.signature? "re.Pattern.sub"=none∨True:=Or.inr trivial
 kernel_rfl
theorem id_sub:MId "re.Pattern" "sub" "re.Pattern.sub":=⟨plainAttrs_pat,slot_sub,type_sub⟩
theorem named_sub (repl string:Value):reNamed "re.Pattern.sub" "sub" ["repl","string","count"] 2 [repl,string] []=pure [some repl,some string,none]:=by
 rfl
theorem nocall_str:typeLookup (.type "str") "__call__"=pure none:=by rw[typeLookup_type,builtinLookup_eq_fast];kernel_rfl
theorem nocall_bytes:typeLookup (.type "bytes") "__call__"=pure none:=by rw[typeLookup_type,builtinLookup_eq_fast];kernel_rfl
end
section
open Builtin Builtin.Re
noncomputable def cuts (find:Nat→Option (Nat×Nat)) (t r:Array Nat):(fuel p:Nat)→List (Array Nat)
 | 0,_=>[]
 | f+1,p=>match find p with
  | some (b,e)=>(if p<b then [t.extract p b] else [])++r::cuts find t r f e
  | none=>if p<t.size then [t.extract p t.size] else []
section
variable {find:Nat→Option (Nat×Nat)}{t r:Array Nat}{f p:Nat}
theorem sub_fuel {z p b e f:Nat}(h:z-p<f+1) (h1:p≤b) (h2:b<e) (h3:e≤z):z-e<f:=Nat.lt_of_lt_of_le (Nat.sub_lt_sub_left (Nat.lt_of_lt_of_le (Nat.lt_of_le_of_lt h1 h2) h3) (Nat.lt_of_le_of_lt h1 h2)) (Nat.le_of_lt_succ h)
theorem cuts_none (h:find p=none):cuts find t r (f+1) p=if p<t.size then [t.extract p t.size] else []:=by
 show(match find p with | some (b,e)=>_ | none=>_)=_
 rw[h]
theorem cuts_some {b e:Nat}(h:find p=some (b,e)):cuts find t r (f+1) p=(if p<b then [t.extract p b] else [])++r::cuts find t r f e:=by
 show(match find p with | some (b,e)=>_ | none=>_)=_
 rw[h]
end
noncomputable def flatA (ts:List (Array Nat)):Array Nat:=(ts.map Array.toList).flatten.toArray
inductive Txts (kind:Nat):List Value→List (Array Nat)→Prop
 | nil:Txts kind [] []
 | cons {v t vs ts}:IsTxt v t kind→Txts kind vs ts→Txts kind (v::vs) (t::ts)
theorem Txts.snoc {kind:Nat}{v:Value}{t:Array Nat}(h:IsTxt v t kind) {vs:List Value}{ts:List (Array Nat)}(h':Txts kind vs ts):Txts kind (vs++[v]) (ts++[t]):=by
 induction h' with
 | nil=>exact .cons h .nil
 | cons a _ ih=>exact .cons a ih
noncomputable def Joins (C:Cx) (kind:Nat):Prop:=∀(A:Around) (s:Shared) (P:Addr) (vs:List Value) (ts:List (Array Nat)) (j:Value) (c:Nat) (Q:Value→Shared→Prop),
 s.heap.get? P=some (lObj vs c)→Txts kind vs ts→IsTxt j #[] kind→vs.length≤9000→(flatA ts).size≤9000→(∀v k,IsTxt v (flatA ts) kind→Q v { s with toks:=k }) →
 Wp C A (call (.builtin (if kind==0 then "str.join" else "bytes.join")) [j,.ref P]) Q s
section
variable {C:Cx}{A:Around}
theorem slice_run {t:Array Nat}{kind b e:Nat}{s:Shared}{Q:Value→Shared→Prop}(hk:kind=0∨(kind=1∧∀x∈t,x<256)) (hz:t.size≤4096) (q:∀v k,IsTxt v (t.extract b e) kind→Q v { s with toks:=k }):Wp C A (reSlice t kind b e) Q s:=by
 have h4:(4096:Nat)≤sizeLine:=by decide
 have hs:(t.extract b e).size≤4096:=by rw[Array.size_extract];exact Nat.le_trans (Nat.sub_le _ _) (Nat.le_trans (Nat.min_le_right _ _) hz)
 rcases hk with rfl | ⟨rfl,hb⟩
 ·exact wpAny_mkStr (q _ _ (.inl ⟨rfl,_,rfl⟩)) (Nat.le_trans hs h4)
 ·refine wpAny_mkBytes (q _ _ (.inr ⟨rfl,_,_,rfl,?_⟩)) (by rw[Array.size_map];exact Nat.le_trans hs h4)
  rw[Array.map_map]
  have:∀x∈t.extract b e,((fun y:UInt8=>y.toNat)∘fun y:Nat=>y.toUInt8) x=x:=fun x hx=>by
   have h1:x<256:=hb x (by
    obtain⟨i,hi,rfl⟩:=Array.mem_iff_getElem.mp hx
    rw[Array.getElem_extract]
    exact Array.getElem_mem _)
   show(x.toUInt8).toNat=x
   simp[Nat.toUInt8,UInt8.toNat_ofNat',Nat.mod_eq_of_lt h1]
  conv=>lhs;rw[← Array.map_id (t.extract b e)]
  exact(Array.map_congr_left fun x hx=>(this x hx).symm)
theorem IsTxt.ne {v:Value}{t:Array Nat}{kind:Nat}(h:IsTxt v t kind):(v != .none)=true:=by
 rcases h with ⟨_,u,rfl⟩ | ⟨_,b,u,rfl,_⟩ <;> rfl
theorem turned {v:Value}{t:Array Nat}{kind:Nat}{s:Shared}{Q:Unit→Shared→Prop}(h:IsTxt v t kind) (q:Q () s):Wp C A (reLiteralCannotBeTurned v) Q s:=by
 rcases h with ⟨_,u,rfl⟩ | ⟨_,b,u,rfl,_⟩
 ·exact wpAny_bind (wpAny_pure (wpAny_pure q))
 ·unfold reLiteralCannotBeTurned
  refine wpAny_bind (wpAny_pure ?_)
  show wpAny _ _ (isInstance (.bytes b u) (.type "bytes")>>=_) _ _ s
  rw[KBy.isInstance_eq]
  exact wpAny_pure q
theorem push_at {P:Addr}{vs:List Value}{c:Nat}{x:Value}{s:Shared}{Q:Unit→Shared→Prop}{E:Value→Shared→Prop}(hP:s.heap.get? P=some (lObj vs c)) (hl:vs.length≤12000)
  (k:∀h',(∀b o,b≠P→s.heap.get? b=some o→h'.get? b=some o)→h'.get? P=some (lObj (vs++[x]) (c+1))→Q () { s with heap:=h' }):wpAny (model C.prog C.w) A (updateSeq P (·.push x)) Q E s:=by
 have h4:(20000:Nat)≤sizeLine:=by decide
 have e:Obj.mapSeq (·.push x) (lObj vs c)=lObj (vs++[x]) (c+1):=by rw[lObj,Obj.mapSeq_push_plain];simp
 have hz:vs.toArray.size≤sizeLine:=by rw[List.size_toArray];exact Nat.le_trans (Nat.le_trans hl (by decide)) h4
 refine wpAny_updateSeq hP rfl (k _ (fun b o hb ho=>(Heap.get?_update_other _ _ (fun h:P=b=>hb h.symm)).trans ho) ?_) hz
 rw[Heap.get?_update_self _ hP (by rw[e];rfl),e]
theorem cut_push {P:Addr}{vs:List Value}{ts:List (Array Nat)}{t:Array Nat}{c kind b e:Nat}{s:Shared}{rest:Sem PySem.Fin}{Q:PySem.Fin→Shared→Prop}{E:Value→Shared→Prop}(hk:kind=0∨(kind=1∧∀x∈t,x<256)) (hz:t.size≤4096)
  (hP:s.heap.get? P=some (lObj vs c)) (T:Txts kind vs ts) (hl:vs.length≤12000)
  (k:∀h' k' vs' c',(∀b o,b≠P→s.heap.get? b=some o→h'.get? b=some o)→h'.get? P=some (lObj vs' c')→Txts kind vs' (ts++if b<e then [t.extract b e] else [])→vs'.length≤vs.length+1→wpAny (model C.prog C.w) A rest Q E { s with heap:=h',toks:=k' }) :
  wpAny (model C.prog C.w) A (if b<e then (do let x ← reSlice t kind b e;updateSeq P (·.push x);rest) else rest) Q E s:=by
 by_cases hc:b<e
 ·rw[if_pos hc] at k ⊢
  refine wpAny_bind (Wp.any (slice_run hk hz fun v k1 hv=>?_))
  refine wpAny_bind (push_at (hP) hl fun h' hh ho=>?_)
  exact k h' k1 _ _ hh ho (T.snoc hv) (by simp)
 ·rw[if_neg hc] at k ⊢
  rw[List.append_nil] at k
  exact k s.heap s.toks vs c (fun J J J e=>e) hP T (Nat.le_succ _)
theorem sub_loop {R:Result→Shared→Prop}{pat P:Nat}{v r:Value}{code t rt:Array Nat}{kind:Nat}{h0:Heap}{find:Nat→Option (Nat×Nat)}(hpat:Pat h0 pat code kind) (hP0:h0.get? P=none)
  (hv:IsTxt v t kind) (hr:IsTxt r rt kind) (hz:t.size≤4096) (hb:kind=0∨(kind=1∧∀x∈t,x<256)) (hj:Joins C kind)
  (hfind:∀p,p≤t.size→∃n,n≤2^60∧Ends (PySem.Sre.forSearch code t 0 p t.size false) n (find p))
  (hin:∀p b e,p≤t.size→find p=some (b,e)→p≤b∧b<e∧e≤t.size) :
  ∀(fuel p:Nat) (s:Shared) (nn:Nat) (c:Nat) (vs:List Value) (ts:List (Array Nat)),t.size-p<fuel→p≤t.size→vs.length≤2*p →
   (∀b o,h0.get? b=some o→s.heap.get? b=some o)→s.heap.get? P=some (lObj vs c)→Txts kind vs ts→(flatA (ts++cuts find t rt fuel p)).size≤9000 →
   (∀h' u k,(∀b o,h0.get? b=some o→h'.get? b=some o)→IsTxt u (flatA (ts++cuts find t rt fuel p)) kind→R (.ok (.ret u)) { s with heap:=h',toks:=k }) →
   codeAny (model C.prog C.w) A (.builtin "re.Pattern.sub.loop" ⟨[.ref pat,v,r,rawInt 0,rawInt 0,rawInt nn,rawInt p,rawInt p,.bool false,.ref P,.bool false],[]⟩) R s:=by
 intro fuel
 induction fuel with
 | zero=>intro p s nn c vs ts hf;exact absurd hf (Nat.not_lt_zero _)
 | succ fuel ih=>
  intro p s nn c vs ts hf hp hl K hP hT hsz hR
  have h4:(20000:Nat)≤sizeLine:=by decide
  refine codeAny_builtin entry_sub_loop ?_
  show wpAny _ _ («re.Pattern.sub.loop» ⟨[.ref pat,v,r,.int 0 0,.int 0 0,.int nn 0,.int p 0,.int p 0,.bool false,.ref P,.bool false],[]⟩) _ _ s
  unfold «re.Pattern.sub.loop»
  change wpAny _ _ (reWholeTarget (.ref pat) v>>=_) _ _ _
  refine wpAny_bind (Wp.any (wholeTarget (hpat.keep K) hv ?_))
  dsimp only
  rw[if_pos (c:=((0:Int)==0)=true) rfl]
  refine wpAny_bind (Wp.any (turned hr ?_))
  obtain⟨n,hn,hE⟩:=hfind p hp
  refine wpAny_bind ?_
  rw[if_neg (c:=((0:Int) != 0&&decide ((nn:Int)≥0))=true) (by simp),Int.toNat_natCast]
  refine Wp.any (runToEnd hE hn ?_)
  cases hfp:find p with
  | none=>
   rw[cuts_none hfp] at hsz hR
   dsimp only
   refine cut_push hb hz hP hT (by lia) fun h' k' vs' c' K' hP' T' hl'=>?_
   have K1:∀b o,h0.get? b=some o→h'.get? b=some o:=fun b o ho=>K' b o (fun e=>by rw[e,hP0] at ho;cases ho) (K b o ho)
   refine wpAny_bind (Wp.any (slice_run hb hz fun j k2 hj2=>?_))
   have hj2':IsTxt j #[] kind:=by rw[show t.extract 0 0=#[] by simp] at hj2;exact hj2
   refine wpAny_bind (wpAny_seqItems (o:=lObj vs' c') hP' rfl ?_)
   rw[Option.getD_some]
   cases vs' with
   | nil=>
    rw[if_pos (c:=(#[]:Array Value).isEmpty=true) rfl]
    refine wpAny_bind (wpAny_pure ?_)
    rw[if_neg (fun h=>nomatch h)]
    refine wpAny_pure ?_
    refine hR h' _ _ K1 ?_
    generalize (ts++if p<t.size then [t.extract p] else [])=X at T'
    cases T'
    exact hj2'
   | cons x xs=>
    rw[if_neg (fun h=>nomatch h)]
    refine wpAny_bind (Wp.any (hj _ _ P (x::xs) _ j c' _ (hP') T' hj2' (by simp only[List.length_cons] at hl' ⊢;lia) hsz fun u k3 hu=>?_))
    rw[if_neg (fun h=>nomatch h)]
    exact wpAny_pure (hR h' u k3 K1 hu)
  | some q=>
   obtain⟨b,e⟩:=q
   rw[cuts_some hfp] at hsz hR
   dsimp only
   intro m' hm1 hm2
   subst hm1;subst hm2
   obtain⟨i1,i2,i3⟩:=hin p _ _ hp hfp
   refine cut_push hb hz hP hT (by lia) fun h' k' vs' c' K' hP' T' hl'=>?_
   rw[if_pos (c:=((0:Int)==0)=true) rfl]
   refine wpAny_bind (wpAny_pure ?_)
   rw[if_pos hr.ne]
   refine wpAny_bind (push_at hP' (by lia) fun h2 K2 hP2=>?_)
   have K1:∀b o,h0.get? b=some o→h2.get? b=some o:=fun b o ho=>by
    have hne:b≠P:=fun e=>by rw[e,hP0] at ho;cases ho
    exact K2 b o hne (K' b o hne (K b o ho))
   refine wpAny_pure ⟨quiet_sub_loop _,?_⟩
   have e1:(nn:Int)+1=((nn+1:Nat):Int):=by lia
   have e2:(m'.handed==m'.start)=false:=by simp;exact Nat.ne_of_gt i2
   rw[e1,e2]
   refine ih m'.handed _ (nn+1) (c'+1) _ _ (sub_fuel hf i1 i2 i3) i3 (by simp;lia) K1 hP2 (T'.snoc hr) ?_ fun h3 u k3 K3 hu=>?_
   ·simpa using hsz
   ·exact hR h3 u k3 K3 (by simpa using hu)
end
end
section
open Builtin Builtin.Re
theorem flatA_cons (t:Array Nat) (ts:List (Array Nat)):flatA (t::ts)=t++flatA ts:=by
 apply Array.ext'
 simp[flatA]
theorem flatA_append (ts us:List (Array Nat)):flatA (ts++us)=flatA ts++flatA us:=by
 apply Array.ext'
 simp[flatA]
theorem flatA_size (ts:List (Array Nat)):(flatA ts).size=(ts.map (·.size)).sum:=by
 induction ts with
 | nil=>rfl
 | cons t ts ih=>rw[flatA_cons,Array.size_append,ih];rfl
theorem glued_empty (parts:List Str):Builtin.Str.glued ⟨#[]⟩ parts=⟨flatA (parts.map (·.cps))⟩:=by
 have key:∀(l:List Str) (a:Array Nat),l.foldl (fun acc p=>acc++(#[]:Array Nat)++p.cps) a=a++flatA (l.map (·.cps)):=by
  intro l
  induction l with
  | nil=>intro a;simp[flatA]
  | cons p l ih=>intro a;rw[List.foldl_cons,ih,List.map_cons,flatA_cons];simp
 cases parts with
 | nil=>rfl
 | cons p l=>unfold Builtin.Str.glued;simp only[List.drop_succ_cons,List.drop_zero,List.headD_cons,key,List.map_cons,flatA_cons]
theorem txts_str:∀{vs:List Value}{ts:List (Array Nat)},Txts 0 vs ts→∃l:List (Str×Tok),vs=strValues l∧l.map (·.1)=ts.map fun t=>(⟨t⟩:Str)
 | _,_,.nil=>⟨[],rfl,rfl⟩
 | _,_,.cons h r=>by
  obtain⟨l,rfl,e⟩:=txts_str r
  rcases h with ⟨_,u,rfl⟩ | ⟨h,_⟩
  ·exact⟨(_,u)::l,rfl,by simp[e]⟩
  ·cases h
theorem joinOk_flat (ts:List (Array Nat)) (h:(flatA ts).size≤9000):JoinOk ⟨#[]⟩ (ts.map fun t=>(⟨t⟩:Str))=true:=by
 have key:∀(l:List (Array Nat)) (a:Nat),(l.map fun t=>(⟨t⟩:Str)).foldl (fun(n:Nat) (p:Str)=>n+p.length+(⟨#[]⟩:Str).length) a=a+(flatA l).size:=by
  intro l
  induction l with
  | nil=>intro a;rfl
  | cons p l ih=>intro a;rw[List.map_cons,List.foldl_cons,ih,flatA_cons,Array.size_append];show a+p.size+0+_=_;lia
 unfold JoinOk
 rw[List.foldl_toArray',key,Bool.not_eq_true']
 ·unfold Builtin.Str.tooLong
  rw[sizeLine_eq]
  exact decide_eq_false (Nat.not_lt_of_le (Nat.le_trans (Nat.add_le_add_left h _) (by decide)))
 ·rfl
theorem joins_str {C:Cx}:Joins C 0:=by
 intro A s P vs ts j c Q hP hT hj hl hsz k
 obtain⟨l,rfl,e⟩:=txts_str hT
 rcases hj with ⟨_,u,rfl⟩ | ⟨h,_⟩
 ·refine SC.join ⟨_,hP,rfl,_,rfl⟩ e (joinOk_flat ts hsz) fun t' k'=>k _ k' (.inl ⟨rfl,t',?_⟩)
  unfold Txt.join
  rw[glued_empty,List.map_map]
  have:((fun x:Str=>x.cps)∘fun t=>(⟨t⟩:Str))=_root_.id:=rfl
  rw[this,List.map_id]
 ·cases h
end
section
open Builtin Builtin.Re Builtin.Bytes
theorem quietTake {id:String}{b:Array UInt8}{t:Tok}:takeBufferQuiet? id (.bytes b t) 0=pure (some (b,none)):=by
 have h:takeBuffer? id (.bytes b t) 0=pure (some (b,none)):=by
  delta takeBuffer?
  rw[KBy.special_eq KBy.look_buffer,KBy.own_buffer]
  show(buffer? id (.bytes b t) false>>=fun x=>pure (Option.map (fun x=>(x,(none:Option Value))) x))=_
  rw[KBy.buffer_eq]
  rfl
 delta takeBufferQuiet?
 rw[h]
 rfl
theorem slot_bytes_join:PySem.Slot "bytes" "join" "bytes.join":=
 .of (owner:="bytes") (n:="join") (by rw[typeLookup_type,builtinLookup_eq_fast];kernel_rfl) (by decide +kernel) (by decide +kernel) (by decide +kernel)
  (by first | exact .inl (by decide +kernel) | exact .inr (by decide +kernel)) (by rw[isSubtype_type];kernel_rfl)
theorem entry_bytes_join:entryFor table "bytes.join"=some Builtin.«bytes.join»:=entryFor_of_tree (by kernel_rfl)
theorem args_bytes_join (a b:Value):argsOk "bytes.join" ⟨[a,b],[]⟩:=by
 unfold argsOk
 have:Manifest.signature? "bytes.join"=none∨True:=Or.inr trivial
 kernel_rfl
theorem forIn_list {C:Cx}{A:Around}{s:Shared}{β:Type}{f:Nat→β→Sem (ForInStep β)}{Q:β→Shared→Prop}(I:Nat→β→Prop) (n:Nat) (hs:∀j b,j<n→I j b→Wp C A (f j b) (fun r s'=>∃b',r=.yield b'∧I (j+1) b'∧s'=s) s) (q:∀b,I n b→Q b s) :
  ∀(m i:Nat) (b:β),i+m=n→I i b→Wp C A (forIn (List.range' i m 1) b f) Q s:=by
 intro m
 induction m with
 | zero=>intro i b e h;cases e;exact wpAny_pure (q b h)
 | succ m ih=>
  intro i b e h
  rw[List.range'_succ,List.forIn_cons]
  refine wpAny_bind ((hs i b (Nat.lt_of_lt_of_le (Nat.lt_add_of_pos_right (Nat.succ_pos m)) (Nat.le_of_eq e)) h).imp fun r s' hZ=>?_)
  obtain⟨b',e1,h',e2⟩:=hZ
  subst e1;subst e2
  exact ih (i+1) b' ((Nat.add_assoc i 1 m).trans ((congrArg (i+·) (Nat.add_comm 1 m)).trans e)) h'
theorem forIn_range {C:Cx}{A:Around}{s:Shared}{β:Type}{f:Nat→β→Sem (ForInStep β)}{Q:β→Shared→Prop}(I:Nat→β→Prop) (n:Nat) (b:β) (h:I 0 b)
  (hs:∀j b,j<n→I j b→Wp C A (f j b) (fun r s'=>∃b',r=.yield b'∧I (j+1) b'∧s'=s) s) (q:∀b,I n b→Q b s):Wp C A (forIn [:n] b f) Q s:=by
 rw[Std.Legacy.Range.forIn_eq_forIn_range']
 have e:Std.Legacy.Range.size [:n]=n:=by simp[Std.Legacy.Range.size]
 rw[e]
 exact forIn_list I n hs q n 0 b (Nat.zero_add n) h
theorem txts_bytes {vs:List Value}{ts:List (Array Nat)}(h:Txts 1 vs ts):∃l:List (Array UInt8×Tok),vs=l.map (fun p=>.bytes p.1 p.2)∧ts=l.map fun p=>p.1.map (·.toNat):=by
 induction h with
 | nil=>exact⟨[],rfl,rfl⟩
 | cons h r ih=>
  obtain⟨l,rfl,rfl⟩:=ih
  rcases h with ⟨h,_⟩ | ⟨_,b,u,rfl,rfl⟩
  ·cases h
  ·exact⟨(b,u)::l,rfl,rfl⟩
theorem joined_empty (l:List (Array UInt8)):joined #[] l=(l.map Array.toList).flatten.toArray:=by
 have key:∀(l:List (Array UInt8)) (k:Nat) (a:Array UInt8),(l.zipIdx k).foldl (fun out (p:Array UInt8×Nat)=>(if p.2>0 then out++#[] else out)++p.1) a=a++(l.map Array.toList).flatten.toArray:=by
  intro l
  induction l with
  | nil=>intro k a;simp
  | cons p l ih=>
   intro k a
   rw[List.zipIdx_cons,List.foldl_cons,ih]
   apply Array.ext'
   split <;> simp
 unfold joined
 exact(key l 0 #[]).trans (by simp)
theorem flat_bytes (l:List (Array UInt8)):((l.map Array.toList).flatten.toArray).map (fun x:UInt8=>x.toNat)=flatA (l.map fun b=>b.map (·.toNat)):=by
 induction l with
 | nil=>simp[flatA]
 | cons b l ih=>
  rw[List.map_cons (f:=fun b:Array UInt8=>b.map fun x=>x.toNat),flatA_cons,← ih]
  apply Array.ext'
  simp
theorem letGoNone {C:Cx}{A:Around}{s:Shared}{Q:Unit→Shared→Prop}{E:Value→Shared→Prop}(keep:List Value) (q:Q () s) (l:List (Value×Option Value)) (h:∀p∈l,p.2=none):wpAny (model C.prog C.w) A (joinLetGo l keep) Q E s:=by
 induction l with
 | nil=>exact wpAny_pure q
 | cons p l ih=>
  obtain⟨x,w⟩:=p
  obtain rfl:w=none:=h _ List.mem_cons_self
  exact wpAny_bind (m:=letGo (x::[]) (keep++l.flatMap fun(y,u)=>y::u.toList)) (wpAny_letGo (ih fun p hp=>h p (List.mem_cons_of_mem _ hp)))
theorem tk {α:Type}{L:List α}{i:Nat}(h:i<L.length):L.take (i+1)=L.take i++[L[i]]:=by
 rw[List.take_add_one,List.getElem?_eq_getElem h];rfl
noncomputable def Inv (L:List (Array UInt8×Tok)) (i:Nat) (r:Array (Array UInt8)×List (Value×Option Value)):Prop:=r.1=((L.take i).map (·.1)).toArray∧r.2=(L.take i).map fun p=>(Value.bytes p.1 p.2,(none:Option Value))
theorem Inv.next {L:List (Array UInt8×Tok)}{i:Nat}{r:Array (Array UInt8)×List (Value×Option Value)}(h:Inv L i r) (hi:i<L.length):Inv L (i+1) (r.1.push L[i].1,r.2++[(.bytes L[i].1 L[i].2,none)]):=by
 obtain⟨h1,h2⟩:=h
 unfold Inv
 rw[tk hi,h1,h2]
 simp only[List.map_append,List.map_cons,List.map_nil,List.push_toArray,and_self]
theorem Inv.heap {L:List (Array UInt8×Tok)}{i:Nat}{r:Array (Array UInt8)×List (Value×Option Value)}(h:Inv L i r):(r.2.any fun x=>x.1.onHeap)=false:=by
 rw[h.2,List.any_map]
 simp only[List.any_eq_false]
 intro x _ hx
 cases hx
theorem Inv.none {L:List (Array UInt8×Tok)}{i:Nat}{r:Array (Array UInt8)×List (Value×Option Value)}(h:Inv L i r):∀p∈r.2,p.2=none:=by
 rw[h.2];intro p hp;obtain⟨x,_,rfl⟩:=List.mem_map.mp hp;rfl
theorem Inv.end {L:List (Array UInt8×Tok)}{r:Array (Array UInt8)×List (Value×Option Value)}(h:Inv L L.length r):r.1=(L.map (·.1)).toArray:=by
 rw[h.1,List.take_length]
theorem Inv.text {L:List (Array UInt8×Tok)}{r:Array (Array UInt8)×List (Value×Option Value)}(h:Inv L L.length r):flatA (L.map fun p=>p.1.map (·.toNat))=(joined #[] r.1.toList).map (·.toNat):=by
 rw[h.end,joined_empty,flat_bytes,List.map_map];rfl
theorem Inv.size {L:List (Array UInt8×Tok)}{r:Array (Array UInt8)×List (Value×Option Value)}(h:Inv L L.length r) (hz:(flatA (L.map fun p=>p.1.map (·.toNat))).size≤9000):tooLong (Array.foldl (fun x1 x2=>x1+x2.size) ((#[]:Array UInt8).size*(r.1.size-1)) r.1)=false∧(joined #[] r.1.toList).size≤sizeLine:=by
 have h4:(20000:Nat)≤sizeLine:=by decide
 rw[h.text,Array.size_map] at hz
 refine⟨?_,by exact Nat.le_trans hz (by decide)⟩
 have key:∀(l:List (Array UInt8)) (a:Nat),l.foldl (fun x1 x2=>x1+x2.size) a=a+((l.map Array.toList).flatten).length:=by
  intro l
  induction l with
  | nil=>intro a;rfl
  | cons b l ih=>intro a;rw[List.foldl_cons,ih,List.map_cons,List.flatten_cons,List.length_append,Nat.add_assoc];rfl
 rw[joined_empty] at hz
 unfold tooLong
 rw[← Array.foldl_toList,key]
 simp only[List.size_toArray] at hz
 refine decide_eq_false ?_
 have e0:(#[]:Array UInt8).size=0:=rfl
 rw[e0,Nat.zero_mul]
 exact Nat.not_lt_of_le (Nat.le_trans (Nat.add_le_add_left hz _) (by decide))
theorem joins_bytes {C:Cx}:Joins C 1:=by
 intro A s P vs ts j c Q hP hT hj hl hsz k
 rcases hj with ⟨h,_⟩ | ⟨_,b,u,rfl,hb⟩
 ·cases h
 have hb':b=#[]:=by
  have:=congrArg Array.size hb
  simp at this
  exact Array.eq_empty_of_size_eq_zero (this.symm)
 subst hb'
 obtain⟨l,rfl,rfl⟩:=txts_bytes hT
 refine wpAny_call_entry (id:="bytes.join") slot_bytes_join (typeIs_bytes _ _ _) entry_bytes_join ?_ (args_bytes_join _ _)
 unfold «bytes.join» joinM
 refine wpAny_bind (wpAny_pure (a:=(Value.bytes #[] u,Value.ref P)) ?_)
 change wpAny _ _ (if (Kind.bytes==Kind.bytes)=true then _ else _) _ _ _
 rw[if_pos (c:=(Kind.bytes==Kind.bytes)=true) rfl]
 unfold joinItems
 refine wpAny_bind (wpAny_bind (wpAny_typeOf (T:="list") ⟨_,hP,rfl⟩ ?_))
 rw[if_pos (by rfl)]
 refine wpAny_pure ?_
 refine wpAny_bind (wpAny_seqItems (o:=lObj _ c) hP rfl ?_)
 change wpAny _ _ (if (Kind.bytes==Kind.bytes)=true then _ else _) _ _ _
 rw[if_pos (c:=(Kind.bytes==Kind.bytes)=true) rfl]
 rcases l with _ | ⟨p,_ | ⟨q,l⟩⟩
 ·change wpAny _ _ (forIn _ _ _>>=_) _ _ _
  refine wpAny_bind (forIn_range (C:=C) (Inv ([]:List (Array UInt8×Tok))) _ _ ⟨rfl,rfl⟩ (fun i r hi h=>?_) fun r h=>?_)
  ·exact absurd hi (Nat.not_lt_zero i)
  ·have hn:(([]:List (Array UInt8×Tok)).map fun p=>Value.bytes p.1 p.2).toArray.size=([]:List (Array UInt8×Tok)).length:=by simp
   rw[hn] at h
   obtain⟨z1,z2⟩:=h.size hsz
   refine wpAny_bind (wpAny_pure (a:=(#[]:Array UInt8)) ?_)
   change wpAny _ _ (if _ then _ else _) _ _ _
   rw[if_neg (by rw[z1];exact fun h=>nomatch h)]
   refine wpAny_bind (wpAny_mkBytes ?_ z2)
   refine wpAny_bind (wpAny_holding (wpAny_point ?_))
   exact wpAny_bind (letGoNone _ (wpAny_pure ⟨_,rfl,k _ _ (.inr ⟨rfl,_,_,rfl,h.text⟩)⟩) _ h.none)
 ·change wpAny _ _ (typeOf (Value.bytes p.1 p.2)>>=_) _ _ _
  refine wpAny_bind (wpAny_typeOf (typeIs_bytes _ _ _) ?_)
  rw[if_pos (by rfl)]
  refine wpAny_bind (wpAny_rule (wpAny_pure ⟨_,rfl,k _ s.toks (.inr ⟨rfl,_,_,rfl,?_⟩)⟩))
  rw[List.map_cons,flatA_cons]
  exact Array.append_empty
 ·change wpAny _ _ (forIn _ _ _>>=_) _ _ _
  generalize p::q::l=L at *
  refine wpAny_bind (forIn_range (C:=C) (Inv L) _ _ ⟨rfl,rfl⟩ (fun i r hi h=>?_) fun r h=>?_)
  ·have hi':i<L.length:=by simpa using hi
   have hx:(L.map fun p=>Value.bytes p.1 p.2).toArray.getD i .none=.bytes L[i].1 L[i].2:=by
    rw[Array.getD_eq_getD_getElem?,List.getElem?_toArray,List.getElem?_map,List.getElem?_eq_getElem hi'];rfl
   refine wpAny_bind (wpAny_seqItems (o:=lObj _ c) hP rfl ?_)
   change wpAny _ _ (if _ then _ else _) _ _ _
   rw[if_neg (by rw[h.heap];exact fun h=>nomatch h)]
   refine wpAny_bind (wpAny_holding ?_)
   rw[hx,quietTake]
   refine wpAny_pure ?_
   refine wpAny_bind (wpAny_seqItems (o:=lObj _ c) hP rfl ?_)
   change wpAny _ _ (if _ then _ else _) _ _ _
   rw[if_neg (by simp)]
   exact wpAny_pure ⟨_,rfl,h.next hi',rfl⟩
  ·have hn:(L.map fun p=>Value.bytes p.1 p.2).toArray.size=L.length:=by simp
   rw[hn] at h
   obtain⟨z1,z2⟩:=h.size hsz
   refine wpAny_bind (wpAny_pure (a:=(#[]:Array UInt8)) ?_)
   change wpAny _ _ (if _ then _ else _) _ _ _
   rw[if_neg (by rw[z1];exact fun h=>nomatch h)]
   refine wpAny_bind (wpAny_mkBytes ?_ z2)
   refine wpAny_bind (wpAny_holding (wpAny_point ?_))
   exact wpAny_bind (letGoNone _ (wpAny_pure ⟨_,rfl,k _ _ (.inr ⟨rfl,_,_,rfl,h.text⟩)⟩) _ h.none)
end
section
open Builtin Builtin.Re
noncomputable def TxtD (d:D) (t:Array Nat) (kind:Nat):Prop:=(kind=0∧d=.str ⟨t⟩)∨(kind=1∧∃b,d=.bytes b∧t=b.map (·.toNat))
section
variable {C:Cx}{n:Nat}{sc:Scope}{Γ:Gm}
theorem TxtD.is {F:FZ}{v:Value}{d:D}{t:Array Nat}{kind:Nat}(h:TxtD d t kind) (r:R C F v d):IsTxt v t kind:=by
 rcases h with ⟨rfl,rfl⟩ | ⟨rfl,b,rfl,rfl⟩
 ·obtain⟨u,rfl⟩:=r.str_inv;exact .inl ⟨rfl,u,rfl⟩
 ·obtain⟨u,rfl⟩:=r.bytes_inv;exact .inr ⟨rfl,b,u,rfl,rfl⟩
theorem toNat_inj {a b:Array UInt8}(h:a.map (fun x=>x.toNat)=b.map (fun x=>x.toNat)):a=b:=by
 apply Array.ext'
 have h':=congrArg Array.toList h
 simp only[Array.toList_map] at h'
 exact(List.map_inj_right fun x y e=>UInt8.toNat_inj.mp e).mp h'
theorem TxtD.of {F:FZ}{v:Value}{d:D}{t:Array Nat}{kind:Nat}(h:TxtD d t kind) (i:IsTxt v t kind):R C F v d:=by
 rcases h with ⟨rfl,rfl⟩ | ⟨rfl,b,rfl,e⟩
 ·rcases i with ⟨_,u,rfl⟩ | ⟨h,_⟩
  ·exact .str _ _
  ·cases h
 ·rcases i with ⟨h,_⟩ | ⟨_,b',u,rfl,e'⟩
  ·cases h
  ·rw[toNat_inj (e.symm.trans e')];exact .bytes _ _
theorem TxtD.small {d:D}{t:Array Nat}{kind:Nat}(h:TxtD d t kind):kind=0∨(kind=1∧∀x∈t,x<256):=by
 rcases h with ⟨rfl,_⟩ | ⟨rfl,b,_,rfl⟩
 ·exact .inl rfl
 ·refine .inr ⟨rfl,fun x hx=>?_⟩
  obtain⟨y,_,rfl⟩:=Array.mem_map.mp hx
  exact y.toNat_lt
theorem joins {kind:Nat}(h:kind=0∨kind=1):Joins C kind:=by
 rcases h with rfl | rfl
 ·exact joins_str
 ·exact joins_bytes
noncomputable def subs (find:Nat→Option (Nat×Nat)) (t r:Array Nat):Array Nat:=flatA (cuts find t r (t.size+1) 0)
theorem flat_piece {t:Array Nat}{p b:Nat}:flatA (if p<b then [t.extract p b] else [])=t.extract p b:=by
 by_cases h:p<b
 ·rw[if_pos h];exact(flatA_cons _ _).trans (Array.append_empty)
 ·rw[if_neg h];exact(Array.eq_empty_of_size_eq_zero (by rw[Array.size_extract];exact Nat.sub_eq_zero_of_le (Nat.le_trans (Nat.min_le_left _ _) (Nat.le_of_not_lt h)))).symm
theorem size_piece {t:Array Nat}{p b:Nat}(h:b≤t.size):(t.extract p b).size=b-p:=by rw[Array.size_extract,Nat.min_eq_left h]
theorem size_step {p i j u z e r X:Nat}(hr:r≤2) (he:e=p+i+j+1) (hz:z=e+u) (hX:X≤2*(z-e)):(p+i-p)+(r+X)≤2*(z-p):=by
 subst he;subst hz
 rw[Nat.add_sub_cancel_left] at hX
 have e1:p+i+j+1+u-p=i+(j+1)+u:=by
  rw[show p+i+j+1+u=p+(i+(j+1)+u) by rw[Nat.add_assoc p,Nat.add_assoc p,Nat.add_assoc p];rfl,Nat.add_sub_cancel_left]
 rw[Nat.add_sub_cancel_left,e1,Nat.mul_add,Nat.mul_add,← Nat.add_assoc]
 exact Nat.add_le_add (Nat.add_le_add (Nat.le_mul_of_pos_left i (by decide)) (Nat.le_trans hr (Nat.le_mul_of_pos_right 2 (Nat.succ_pos j)))) hX
theorem cuts_size {find:Nat→Option (Nat×Nat)}{t r:Array Nat}(hr:r.size≤2) (hin:∀p b e,p≤t.size→find p=some (b,e)→p≤b∧b<e∧e≤t.size) (f p:Nat) (h:p≤t.size):(flatA (cuts find t r f p)).size≤2*(t.size-p):=by
 induction f generalizing p with
 | zero=>exact Nat.zero_le _
 | succ f ih=>
  cases hf:find p with
  | none=>
   rw[cuts_none hf,flat_piece,size_piece (Nat.le_refl _)]
   exact Nat.le_mul_of_pos_left _ (by decide)
  | some q=>
   obtain⟨b,e⟩:=q
   obtain⟨h1,h2,h3⟩:=hin p b e h hf
   rw[cuts_some hf,flatA_append,flatA_cons,Array.size_append,Array.size_append,flat_piece,size_piece (Nat.le_trans (Nat.le_of_lt h2) h3)]
   obtain⟨i,rfl⟩:=Nat.exists_eq_add_of_le h1
   obtain⟨j,hj⟩:=Nat.exists_eq_add_of_lt h2
   obtain⟨u,hu⟩:=Nat.exists_eq_add_of_le h3
   exact size_step hr hj hu (ih e h3)
theorem m_sub {pat:Nat}{d rd out:D}{code t rt:Array Nat}{kind:Nat}{find:Nat→Option (Nat×Nat)}(hpat:Pat C.hb pat code kind) (hd:TxtD d t kind) (hrd:TxtD rd rt kind) (hout:TxtD out (subs find t rt) kind)
  (h92:92∉rt) (hrs:rt.size≤2) (hz:t.size≤4096)
  (hfind:∀p,p≤t.size→∃n,n≤2^60∧Ends (PySem.Sre.forSearch code t 0 p t.size false) n (find p))
  (hin:∀p b e,p≤t.size→find p=some (b,e)→p≤b∧b<e∧e≤t.size)
  {A:Around} {F:FZ} {s:Shared} {r v:Value} (hO:Ok C F s) (hr:R C F r rd) (hv:R C F v d):Sm C A F s (call (.builtin "re.Pattern.sub") [.ref pat,r,v]) out:=by
 have P0:=hpat.keep hO.keep
 have hR:=hrd.is hr
 have hV:=hd.is hv
 have hty:s.TypeIs (.ref pat) "re.Pattern":=by
  obtain⟨o,v0,v1,v3,v4,t2,t6,c,h1,h2,_⟩:=P0
  exact⟨o,h1,h2⟩
 refine Wp.up (wpAny_call (codeAny_call_builtin slot_sub.plain entry_sub (slot_sub.check _ _ _ _ _ _ _ _ hty (args_sub _ _ _) ?_)))
 unfold «re.Pattern.sub» reSubstitute
 change wpAny _ _ (reNamed "re.Pattern.sub" "sub" ["repl","string","count"] 2 [r,v] []>>=_) _ _ _
 refine wpAny_bind (wpAny_of_eq (named_sub r v) ?_)
 change wpAny _ _ (pure 0>>=_) _ _ _
 refine wpAny_bind (wpAny_pure ?_)
 have hcall:∀(Q:Option Value→Shared→Prop) (E:Value→Shared→Prop) (A:Around),Q none s→wpAny (model C.prog C.w) A (specialOf r "__call__") Q E s:=fun Q E A hq=>by
  rcases hR with ⟨_,u,rfl⟩ | ⟨_,b,u,rfl,_⟩
  ·exact wpAny_specialOf (typeIs_str _ _ _) nocall_str hq
  ·exact wpAny_specialOf (typeIs_bytes _ _ _) nocall_bytes hq
 refine wpAny_bind (hcall _ _ _ ?_)
 have hR2:=hR
 rcases hR2 with ⟨hk,u,rfl⟩ | ⟨hk,b,u,rfl,hb⟩
 case' inl=>
  change wpAny _ _ (asStr? (.str ⟨rt⟩ u)>>=_) _ _ _
  refine wpAny_bind (wpAny_pure ?_)
  change wpAny _ _ (pure (!rt.contains 92)>>=_) _ _ _
  refine wpAny_bind (wpAny_pure ?_)
  have hc:(!rt.contains 92)=true:=by simpa using h92
 case' inr=>
  change wpAny _ _ (asStr? (.bytes b u)>>=_) _ _ _
  refine wpAny_bind (wpAny_pure ?_)
  change wpAny _ _ (Builtin.Bytes.bufferQuiet? "re.Pattern.sub" (.bytes b u)>>=_) _ _ _
  rw[KBy.quiet_eq]
  refine wpAny_bind (wpAny_pure ?_)
  change wpAny _ _ (pure (!b.contains 92)>>=_) _ _ _
  refine wpAny_bind (wpAny_pure ?_)
  have hc:(!b.contains 92)=true:=by
   have:92∉b:=fun hm=>h92 (by rw[hb];exact Array.mem_map.mpr ⟨92,hm,rfl⟩)
   simpa using this
 all_goals
  change wpAny _ _ (if _ then _ else _) _ _ _
  rw[if_neg (fun h=>nomatch h),if_pos hc]
  refine wpAny_bind (wpAny_pure ?_)
  change wpAny _ _ (holding _ (reWholeTarget (.ref pat) v)>>=_) _ _ _
  refine wpAny_bind (wpAny_holding (Wp.any (wholeTarget P0 hV ?_)))
  change wpAny _ _ (if _ then _ else _) _ _ _
  rw[if_neg (fun h=>nomatch h)]
  refine wpAny_bind (wpAny_newList ?_)
  refine wpAny_pure ⟨quiet_sub_loop _,?_⟩
  have hnone:s.heap.get? s.heap.objs.size=none:=by
   cases hg:s.heap.get? s.heap.objs.size with
   | none=>rfl
   | some o=>exact absurd (Heap.lt_size hg) (Nat.lt_irrefl _)
  have hin2:=cuts_size (find:=find) (t:=t) (r:=rt) hrs hin (t.size+1) 0 (Nat.zero_le _)
  refine sub_loop (C:=C) (find:=find) (h0:=s.heap) (P:=s.heap.objs.size) P0 hnone hV hR hz hd.small (joins (by rcases hd with h | h;exact .inl h.1;exact .inr h.1)) hfind hin (t.size+1) 0 _ 0 0 [] [] (Nat.lt_succ_self _) (Nat.zero_le _) (by simp) (fun b o h=>Heap.get?_push_of_some _ h) (Heap.get?_push_size _ rfl) .nil ?_ fun h' u' k' K hu=>?_
  ·rw[List.nil_append];lia
  ·exact fun up=>⟨F,Grow.same hO.inn K up.h up.t,hout.of hu⟩
theorem ex_re {x:Str}{p apos pos:Pos}{e1 e2:Expr}{pat:Nat}{d rd out:D}{code t rt:Array Nat}{kind:Nat}{find:Nat→Option (Nat×Nat)}(hx:sc.names.lookup x=some .globalImplicit) (hv:C.mg x=some (.ref pat)) (hpat:Pat C.hb pat code kind)
  (h1:Ex C n sc Γ e1 rd) (h2:Ex C n sc Γ e2 d) (hs1:notStar e1=true) (hs2:notStar e2=true) (hd:TxtD d t kind) (hrd:TxtD rd rt kind) (hout:TxtD out (subs find t rt) kind)
  (h92:92∉rt) (hrs:rt.size≤2) (hz:t.size≤4096)
  (hfind:∀p,p≤t.size→∃n,n≤2^60∧Ends (PySem.Sre.forSearch code t 0 p t.size false) n (find p))
  (hin:∀p b e,p≤t.size→find p=some (b,e)→p≤b∧b<e∧e≤t.size)
  (hline:(apos.endLine==pos.line)=true) (hdb:(x==("__debug__":Str))=false) (hbase:∀env,attributeBase (.Name x p) "sub" env (eval (.Name x p) env)=eval (.Name x p) env):Ex C n sc Γ (.Call (.Attribute (.Name x p) "sub" apos) [e1,e2] [] pos) out:=by
 intro env A F s hE hR hO hV
 have args:Exs C n sc Γ [e1,e2] [rd,d]:=.cons h1 (.cons h2 .nil hs2) hs1
 have P0:=hpat.keep hO.keep
 have hty:∃o,s.heap.get? pat=some o∧o.cls=.type "re.Pattern"∧o.dict=none:=by
  obtain⟨o,v0,v1,v3,v4,t2,t6,c,h1,h2,h3,_⟩:=P0
  exact⟨o,h1,h2,h3⟩
 obtain⟨o,ho,hc,hdi⟩:=hty
 refine wpAny_Call_method_late (hbase env) ?_ hline rfl (name_global hE hO hx hv ?_ hdb)
 ·rw[all_backTo args];rfl
 ·refine⟨"re.Pattern",_,id_sub.plain,id_sub.slot,id_sub.ty,⟨o,ho,hc⟩,fun a e=>by cases e;exact⟨o,ho,hdi⟩,callWith_machine (fun J e=>nomatch e) (any_backTo args env pos) ?_⟩
  refine(evalArgs_run args hE hR hO hV).imp fun q s₂ hZ=>?_
  obtain⟨e,F₂,g₂,r₂⟩:=hZ
  rw[e]
  obtain⟨_,_,e2,a1,a2⟩:=r₂.two_inv
  rw[e2]
  exact(m_sub hpat hd hrd hout h92 hrs hz hfind hin (hO.grow g₂) a1 a2).grow g₂
noncomputable def fnd1 (t:Array Nat) (p:Nat):Option (Nat×Nat):=find1 t (t.size-p) p
noncomputable def fnd3 (t:Array Nat) (p:Nat):Option (Nat×Nat):=find3 t (t.size-p) p
noncomputable def dots (t:Array Nat):Array Nat:=subs (fnd1 t) t #[46,46]
noncomputable def eols (t:Array Nat):Array Nat:=subs (fnd3 t) t #[13,10]
theorem eolEnd_le {t:Array Nat}{b:Nat}(h:b<t.size):b<eolEnd t b∧eolEnd t b≤t.size:=by
 unfold eolEnd
 by_cases hc:t[b]?.getD 0=13∧t[b+1]?.getD 0=10
 ·rw[if_pos hc]
  refine⟨Nat.lt_add_of_pos_right (by decide),Nat.not_lt.mp fun h2=>?_⟩
  have e:=hc.2
  rw[Array.getElem?_eq_none (Nat.le_of_lt_succ h2)] at e
  cases e
 ·rw[if_neg hc];exact⟨Nat.lt_succ_self b,h⟩
theorem in1 {t:Array Nat}:∀p b e,p≤t.size→fnd1 t p=some (b,e)→p≤b∧b<e∧e≤t.size:=fun p b e hp h=>by
 obtain⟨h1,h2,rfl,_⟩:=fnd_at h
 rw[Nat.add_sub_cancel' hp] at h2
 exact⟨h1,Nat.lt_succ_self b,h2⟩
theorem in3 {t:Array Nat}:∀p b e,p≤t.size→fnd3 t p=some (b,e)→p≤b∧b<e∧e≤t.size:=fun p b e hp h=>by
 obtain⟨h1,h2,rfl,_⟩:=fnd_at h
 rw[Nat.add_sub_cancel' hp] at h2
 exact⟨h1,eolEnd_le h2⟩
theorem ends1 {t:Array Nat}(hz:t.size≤4096):∀p,p≤t.size→∃n,n≤2^60∧Ends (PySem.Sre.forSearch code1 t 0 p t.size false) n (fnd1 t p):=fun p hp=>⟨_,by lia,search1 hp⟩
theorem ends3 {t:Array Nat}:∀p,p≤t.size→∃n,n≤2^60∧Ends (PySem.Sre.forSearch code3 t 0 p t.size false) n (fnd3 t p):=fun p hp=>⟨_,by decide,search3 hp⟩
theorem dots_size {t:Array Nat}:(dots t).size≤2*t.size:=Nat.le_trans (cuts_size (find:=fnd1 t) (r:=#[46,46]) (by decide) in1 (t.size+1) 0 (Nat.zero_le _)) (Nat.le_refl _)
theorem eols_size {t:Array Nat}:(eols t).size≤2*t.size:=Nat.le_trans (cuts_size (find:=fnd3 t) (r:=#[13,10]) (by decide) in3 (t.size+1) 0 (Nat.zero_le _)) (Nat.le_refl _)
theorem ex_re1 {x:Str}{p apos pos:Pos}{e1 e2:Expr}{pat:Nat}{t:Array Nat}(hv:C.mg x=some (.ref pat)) (hpat:Pat C.hb pat code1 0) (h1:Ex C n sc Γ e1 (.str ⟨#[46,46]⟩)) (h2:Ex C n sc Γ e2 (.str ⟨t⟩)) (hz:t.size≤4096)
  (hx:autoParam (sc.names.lookup x=some .globalImplicit) kr) (hs1:autoParam (notStar e1=true) rf) (hs2:autoParam (notStar e2=true) rf) (hline:autoParam ((apos.endLine==pos.line)=true) kr) (hdb:autoParam ((x==("__debug__":Str))=false) kr)
  (hbase:autoParam (∀env,attributeBase (.Name x p) "sub" env (eval (.Name x p) env)=eval (.Name x p) env) i1):Ex C n sc Γ (.Call (.Attribute (.Name x p) "sub" apos) [e1,e2] [] pos) (.str ⟨dots t⟩):=
 ex_re hx hv hpat h1 h2 hs1 hs2 (.inl ⟨rfl,rfl⟩) (.inl ⟨rfl,rfl⟩) (.inl ⟨rfl,rfl⟩) (by simp) (by decide) hz (ends1 hz) in1 hline hdb hbase
theorem ex_re2 {x:Str}{p apos pos:Pos}{e1 e2:Expr}{pat:Nat}{t:Array UInt8}{out:Array UInt8}(hv:C.mg x=some (.ref pat)) (hpat:Pat C.hb pat code1 1) (h1:Ex C n sc Γ e1 (.bytes #[46,46])) (h2:Ex C n sc Γ e2 (.bytes t)) (hz:t.size≤4096) (ho:dots (t.map (·.toNat))=out.map (·.toNat))
  (hx:autoParam (sc.names.lookup x=some .globalImplicit) kr) (hs1:autoParam (notStar e1=true) rf) (hs2:autoParam (notStar e2=true) rf) (hline:autoParam ((apos.endLine==pos.line)=true) kr) (hdb:autoParam ((x==("__debug__":Str))=false) kr)
  (hbase:autoParam (∀env,attributeBase (.Name x p) "sub" env (eval (.Name x p) env)=eval (.Name x p) env) i1):Ex C n sc Γ (.Call (.Attribute (.Name x p) "sub" apos) [e1,e2] [] pos) (.bytes out):=
 ex_re hx hv hpat h1 h2 hs1 hs2 (rt:=#[46,46]) (.inr ⟨rfl,_,rfl,rfl⟩) (.inr ⟨rfl,_,rfl,by simp⟩) (.inr ⟨rfl,_,rfl,ho⟩) (by simp) (by decide) (by rw[Array.size_map];exact hz) (ends1 (by rw[Array.size_map];exact hz)) in1 hline hdb hbase
theorem ex_re3 {x:Str}{p apos pos:Pos}{e1 e2:Expr}{pat:Nat}{t:Array Nat}(hv:C.mg x=some (.ref pat)) (hpat:Pat C.hb pat code3 0) (h1:Ex C n sc Γ e1 (.str ⟨#[13,10]⟩)) (h2:Ex C n sc Γ e2 (.str ⟨t⟩)) (hz:t.size≤4096)
  (hx:autoParam (sc.names.lookup x=some .globalImplicit) kr) (hs1:autoParam (notStar e1=true) rf) (hs2:autoParam (notStar e2=true) rf) (hline:autoParam ((apos.endLine==pos.line)=true) kr) (hdb:autoParam ((x==("__debug__":Str))=false) kr)
  (hbase:autoParam (∀env,attributeBase (.Name x p) "sub" env (eval (.Name x p) env)=eval (.Name x p) env) i1):Ex C n sc Γ (.Call (.Attribute (.Name x p) "sub" apos) [e1,e2] [] pos) (.str ⟨eols t⟩):=
 ex_re hx hv hpat h1 h2 hs1 hs2 (.inl ⟨rfl,rfl⟩) (.inl ⟨rfl,rfl⟩) (.inl ⟨rfl,rfl⟩) (by simp) (by decide) hz ends3 in3 hline hdb hbase
end
end
section
open Builtin Builtin._codecs
theorem forIn_eqL {β:Type}{f:Nat→β→Sem (ForInStep β)}(I:Nat→β→Prop) (n m i:Nat) (b:β) (e:i+m=n) (h:I i b)
  (hs:∀j b,j<n→I j b→∃b',(f j b=pure (.yield b')∧I (j+1) b')∨(f j b=pure (.done b')∧I n b')):∃b',I n b'∧forIn (List.range' i m 1) b f=pure b':=by
 induction m generalizing i b with
 | zero=>cases e;exact⟨b,h,rfl⟩
 | succ m ih=>
  rw[List.range'_succ,List.forIn_cons]
  obtain⟨b',⟨e1,h1⟩ | ⟨e1,h1⟩⟩:=hs i b (Nat.lt_of_lt_of_eq (Nat.lt_succ_of_le (Nat.le_add_right _ _)) e) h
  ·rw[e1,pure_bind]
   exact ih (i+1) b' ((Nat.add_right_comm i 1 m).trans e) h1
  ·rw[e1,pure_bind]
   exact⟨b',h1,rfl⟩
theorem forIn_eq {β:Type}{f:Nat→β→Sem (ForInStep β)}(I:Nat→β→Prop) (n:Nat) (b:β) (h:I 0 b)
  (hs:∀j b,j<n→I j b→∃b',(f j b=pure (.yield b')∧I (j+1) b')∨(f j b=pure (.done b')∧I n b')):∃b',I n b'∧forIn [0:n] b f=pure b':=by
 rw[Std.Legacy.Range.forIn_eq_forIn_range']
 have e:Std.Legacy.Range.size [0:n]=n:=by simp[Std.Legacy.Range.size]
 rw[e]
 exact forIn_eqL I n n 0 b (by exact Nat.add_comm _ _) h hs
theorem forIn_use {β γ:Type}{f:Nat→β→Sem (ForInStep β)}{k:β→Sem γ}{r:Sem γ}(I:Nat→β→Prop) {n:Nat}{b:β}(h:I 0 b)
  (hs:∀j b,j<n→I j b→∃b',(f j b=pure (.yield b')∧I (j+1) b')∨(f j b=pure (.done b')∧I n b')) (q:∀b,I n b→k b=r):(forIn [0:n] b f>>=k)=r:=by
 obtain⟨b',h1,e⟩:=forIn_eq I n b h hs
 rw[e,pure_bind]
 exact q b' h1
noncomputable def Ascii (t:Array Nat):Prop:=∀x∈t,x<128
theorem decoder {b:Array UInt8}(h:∀x∈b,x.toNat<128) (hz:b.size≤9000) (id:String):runDecoder id utf8Decoder none true b 0 []=pure (b.map (·.toNat),b.size):=by
 unfold runDecoder
 have h4:(20000:Nat)≤sizeLine:=by decide
 refine forIn_use (fun j r=>r.1=j∧r.2.1=(b.map (·.toNat)).extract 0 j) ⟨rfl,by simp⟩ (fun j r hj ⟨h1,h2⟩=>?_) fun r ⟨h1,h2⟩=>?_
 ·obtain⟨p,out,st⟩:=r
  dsimp only at h1 h2
  subst h1;subst h2
  refine⟨(p+1,(b.map (·.toNat)).extract 0 p++#[b[p].toNat],st),.inl ⟨?_,rfl,?_⟩⟩
  ·dsimp only
   rw[if_neg (by rw[Array.size_extract,Array.size_map];exact Nat.not_lt_of_le (Nat.le_trans (Nat.min_le_right _ _) (Nat.le_trans hz (by decide)))),if_neg (by exact Nat.not_le_of_lt hj)]
   have hf:utf8Decoder.find true b p=.text [b[p].toNat] (p+1):=by
    have hu:Bytes.utf8At b p=(.char b[p].toNat,p+1):=by
     unfold Bytes.utf8At
     have e:b.getD p 0=b[p]:=by simp[hj]
     rw[e,if_pos (h _ (Array.getElem_mem hj))]
    unfold utf8Decoder
    dsimp only
    rw[hu]
    rfl
   rw[hf]
  ·dsimp only
   rw[Array.extract_succ_right (by exact Nat.zero_lt_succ _) (by simpa using hj)]
   simp
 ·obtain⟨p,out,st⟩:=r
  dsimp only at h1 h2 ⊢
  subst h1;subst h2
  have:(b.map (·.toNat)).extract 0 b.size=b.map (·.toNat):=by
   conv=>lhs;rw[show b.size=(b.map (·.toNat)).size by simp]
   exact Array.extract_size
  rw[this]
theorem utf8_ascii {c:Nat}(h:c<128):Str.utf8Of c=[c.toUInt8]∧Str.isSurrogate c=false:=by
 refine⟨by unfold Str.utf8Of;rw[if_pos (by exact h)],by unfold Str.isSurrogate;simp;omega⟩
theorem encoder {id:String}{self:Value}{x:Str}(h:Ascii x.cps) (hz:x.cps.size≤9000):encodeNarrow id utf8Codec none self x=pure (x.cps.map (·.toUInt8)):=by
 have h4:(20000:Nat)≤sizeLine:=by decide
 unfold encodeNarrow
 show(forIn [0:x.length] _ _>>=_)=_
 refine forIn_use (fun j r=>(j=0∧r.1=0∧r.2.1=#[]∧0<x.length)∨(r.1=x.cps.size∧r.2.1=x.cps.map (·.toUInt8))) ?_ (fun j r hj hI=>?_) fun r hI=>?_
 ·by_cases hx:0<x.length
  ·exact .inl ⟨rfl,rfl,rfl,hx⟩
  ·have:x.cps=#[]:=Array.eq_empty_of_size_eq_zero (by show x.length=0;exact Nat.le_antisymm (Nat.le_of_not_lt hx) (Nat.zero_le _))
   exact .inr ⟨by rw[this];rfl,by rw[this];simp⟩
 ·obtain⟨i,out,st⟩:=r
  rcases hI with ⟨h1,h2,h3,h5⟩ | ⟨h2,h3⟩
  ·dsimp only at h1 h2 h3
   subst h1;subst h2;subst h3
   refine⟨(x.cps.size,x.cps.map (·.toUInt8),st),.inl ⟨?_,.inr ⟨rfl,rfl⟩⟩⟩
   ·dsimp only
    have h5':0<x.cps.size:=h5
    rw[if_neg (by simp)]
    have e0:x.cps[0]?=some x.cps[0]:=by simp[h5']
    rw[e0]
    dsimp only
    have hb:utf8Codec.bad x.cps[0]=false:=(utf8_ascii (h _ (Array.getElem_mem h5'))).2
    rw[hb,if_pos (c:=(!false)=true) rfl]
    have hr:x.cps.extract 0=x.cps:=by simp
    have hn:Array.findIdx? utf8Codec.bad x.cps=none:=by
     rw[Array.findIdx?_eq_none_iff]
     intro y hy
     exact(utf8_ascii (h y hy)).2
    rw[hr,hn,Option.getD_none,Nat.zero_add]
    have hfold:Array.foldl (fun acc y=>acc++(utf8Codec.bytesOf y).toArray) #[] (x.cps.extract 0 x.cps.size)=x.cps.map (·.toUInt8):=by
     rw[Array.extract_size,← Array.foldl_toList]
     have key:∀(l:List Nat) (a:Array UInt8),(∀y∈l,y<128)→l.foldl (fun acc y=>acc++(utf8Codec.bytesOf y).toArray) a=a++(l.map (·.toUInt8)).toArray:=by
      intro l
      induction l with
      | nil=>intro a _;simp
      | cons y l ih=>
       intro a hl
       rw[List.foldl_cons,ih _ fun z hz=>hl z (by simp[hz])]
       have:utf8Codec.bytesOf y=[y.toUInt8]:=(utf8_ascii (hl y (by simp))).1
       rw[this]
       apply Array.ext'
       simp
     rw[key _ _ fun y hy=>h y (by simpa using hy)]
     apply Array.ext'
     simp
    rw[hfold]
  ·dsimp only at h2 h3
   subst h2;subst h3
   refine⟨(x.cps.size,x.cps.map (·.toUInt8),st),.inr ⟨?_,.inr ⟨rfl,rfl⟩⟩⟩
   ·dsimp only
    rw[if_neg (by simp;exact Nat.le_trans hz (by decide))]
    have e0:x.cps[x.cps.size]?=none:=by simp
    rw[e0]
 ·obtain⟨i,out,st⟩:=r
  rcases hI with ⟨h1,h2,h3,h5⟩ | ⟨h2,h3⟩
  ·lia
  ·dsimp only at h3 ⊢
   rw[h3]
section
variable {C:Cx}{n:Nat}{sc:Scope}{Γ:Gm}
theorem ex_bytes {x:List UInt8}{k:Nat}{pos:Pos}:Ex C n sc Γ (.Constant (.bytes x) k pos) (.bytes x.toArray):=fun J J F J J J hO J J J J=>⟨F,.tok hO.inn,.bytes _ _⟩
noncomputable def octets (t:Array Nat):Array UInt8:=t.map (·.toUInt8)
theorem octets_back {t:Array Nat}(h:Ascii t):(octets t).map (·.toNat)=t:=by
 unfold octets
 rw[Array.map_map]
 conv=>rhs;rw[← Array.map_id t]
 refine Array.map_congr_left fun x hx=>?_
 have:=h x hx
 show(x.toUInt8).toNat=x
 simp[Nat.toUInt8,UInt8.toNat_ofNat'];exact Nat.lt_of_lt_of_le this (by decide)
theorem m_encode {t:Array Nat}(h:Ascii t) (hz:t.size≤9000):Meth C n "str.encode" (.str ⟨t⟩) [] (.bytes (octets t)):=by
 intro A F s va vs hR hO ha hr
 obtain⟨u,rfl⟩:=ha.str.str_inv
 cases hr
 have h4:(20000:Nat)≤sizeLine:=by decide
 refine wpAny_call_entry PySem.F.slot_str_encode (typeIs_str _ _ _) PySem.F.entry_str_encode ?_ (PySem.F.args_str_encode_1 _)
 rw[encode_tree,encodeRoad_utf8,encoder h hz,pure_bind]
 exact wpAny_bind (wpAny_mkBytes (wpAny_pure ⟨_,rfl,F,.tok hO.inn,.bytes _ _⟩) (by rw[Array.size_map];exact Nat.le_trans hz (Nat.le_trans (by decide) h4)))
theorem m_decode {t:Array Nat}(h:Ascii t) (hz:t.size≤9000) (h0:0<t.size):Meth C n "bytes.decode" (.bytes (octets t)) [] (.str ⟨t⟩):=by
 intro A F s va vs hR hO ha hr
 obtain⟨u,rfl⟩:=ha.bytes.bytes_inv
 cases hr
 have hne:∃c cs,octets t=(c::cs:List UInt8).toArray:=by
  cases e:(octets t).toList with
  | nil=>have:=congrArg List.length e;rw[Array.length_toList] at this;simp[octets] at this;subst this;simp at h0
  | cons c cs=>exact⟨c,cs,by rw[← e]⟩
 obtain⟨c,cs,e⟩:=hne
 have hd:∀id,runDecoder id utf8Decoder none true (octets t) 0 []=pure (t,(octets t).size):=fun id=>by
  have:=decoder (b:=octets t) (fun x hx=>by
   obtain⟨y,hy,rfl⟩:=Array.mem_map.mp hx
   have:=h y hy
   simp[Nat.toUInt8,UInt8.toNat_ofNat'];lia) (by unfold octets;rw[Array.size_map];exact hz) id
  rw[octets_back h] at this
  exact this
 rw[e] at hd ⊢
 exact Wp.up (KBd.decode (x:=⟨t⟩) hd (by show t.size≤_;exact Nat.le_trans hz (by decide)) fun t' k up=>⟨F,.tok hO.inn up.t,.str _ _⟩)
end
end
section
structure Gl (C:Cx):Prop where
 re1:∃a:Nat,C.mg "_twin_re_1"=some (.ref a)∧Pat C.hb a code1 0
 re2:∃a:Nat,C.mg "_twin_re_2"=some (.ref a)∧Pat C.hb a code1 1
 re3:∃a:Nat,C.mg "_twin_re_3"=some (.ref a)∧Pat C.hb a code3 0
 crlf:∃t,C.mg "CRLF"=some (.str ⟨#[13,10]⟩ t)
 tick:∃t,C.mg "TICK"=some (.str ⟨#[39]⟩ t)
 free:∀x∈(["len","isinstance","tuple","int","bool","sum","max","range","list","enumerate","zip","sorted"]:List Str),C.mg x=none
section
variable {C:Cx}{n:Nat}{sc:Scope}{Γ:Gm}{e:Expr}{cm:Bool}
theorem Gl.none (G:Gl C) {x:Str}(h:(["len","isinstance","tuple","int","bool","sum","max","range","list","enumerate","zip","sorted"]:List Str).contains x=true):C.mg x=none:=G.free x (by simpa using h)
theorem ex_len (G:Gl C) {p pos:Pos}{ds:List D}(h:Ex C n sc Γ e (.list ds)) (hl:ds.length≤4096) (hs:autoParam (notStar e=true) rf) (hx:autoParam (isBuiltinName sc "len"=true) kr):Ex C n sc Γ (.Call (.Name "len" p) [e] [] pos) (.int (ds.length:Nat)):=
 ex_builtin (f:=.builtin "len") PyProof.Rows.Boot.len (G.none (by kernel_rfl)) (fun J e=>nomatch e) (.cons h .nil hs) (c_len_list hl) hx
theorem t_fix_eols (G:Gl C) {t:Array Nat}(hz:t.size≤4096):Run C n (fnT 20).scope [("data",.imm (.str ⟨t⟩))] (fnT 20).body (.ret (.str ⟨eols t⟩)):=by
 obtain⟨a,h1,h2⟩:=G.re3
 obtain⟨u,h3⟩:=G.crlf
 exact run_ret (ex_re3 h1 h2 (ex_global (by kernel_rfl) h3 (fun J=>.str _ _)) (xv (by walk_at "m")) hz)
theorem t_quotedata (G:Gl C) {t:Array Nat}(hz:t.size≤2048):Run C n (fnT 18).scope [("data",.imm (.str ⟨t⟩))] (fnT 18).body (.ret (.str ⟨dots (eols t)⟩)):=by
 obtain⟨a,h1,h2⟩:=G.re3
 obtain⟨b,h4,h5⟩:=G.re1
 obtain⟨u,h3⟩:=G.crlf
 have:=eols_size (t:=t)
 exact run_ret (ex_re1 h4 h5 ex_str (ex_re3 h1 h2 (ex_global (by kernel_rfl) h3 (fun J=>.str _ _)) (xv (by walk_at "m")) (Nat.le_trans hz (by decide))) (by lia))
theorem t_quote_periods (G:Gl C) {t:Array Nat}(ha:Ascii t) (ha':Ascii (dots t)) (hz:t.size≤4096):Run C n (fnT 19).scope [("bindata",.imm (.bytes (octets t)))] (fnT 19).body (.ret (.bytes (octets (dots t)))):=by
 obtain⟨a,h1,h2⟩:=G.re2
 exact run_ret (ex_re2 h1 h2 ex_bytes (xv (by walk_at "m")) (by unfold octets;rw[Array.size_map];exact hz) (by rw[octets_back ha,octets_back ha']))
noncomputable def decD (x:Str):D:=if (splitMax x ⟨#[39]⟩ 2).length≤2 then .tuple [.none,.none,.str x] else .list ((splitMax x ⟨#[39]⟩ 2).map .str)
theorem t_decode (G:Gl C) {x:Str}(hz:x.length≤4096) (hz2:(Builtin.Str.partsBetween x (Builtin.Str.occurrences x ⟨#[39]⟩ 0 x.length (limitOf x 2)) 1).length≤4096):Run C n (fnT 12).scope [("s",.imm (.str x))] (fnT 12).body (.ret (decD x)):=by
 obtain⟨u,h1⟩:=G.tick
 refine rS (sA (ex_meth (a:=.str x) (Ex.h (xv (by walk_at "m"))) (.cons (ex_global (by kernel_rfl) h1 (fun J=>.str _ _)) (.cons xi .nil rfl) rfl) id_split (m_splitMax rfl (by decide) hz hz2)) (by walk_at "d")) ?_
 have hl:(splitMax x ⟨#[39]⟩ 2).length≤4096:=by
  unfold splitMax
  split
  ·simp
  ·split
   ·simp
   ·exact hz2
 unfold decD
 split
 ·rename_i hc
  refine run_stepRet (st_if (tC (ex_len G (xv (by walk_at "m")) (by rw[List.length_map];exact hl)) xi o_le_int) (fun J=>run_ret (ex_tuple (.cons ex_none (.cons ex_none (.cons (xv (by walk_at "m")) .nil rfl) rfl) rfl))) fun h=>?_)
  simp at h;lia
 ·rename_i hc
  refine rS (st_if (tC (ex_len G (xv (by walk_at "m")) (by rw[List.length_map];exact hl)) xi o_le_int) (fun h=>?_) fun J=>run_nil) (run_ret (xv (by walk_at "m")))
  simp at h;lia
end
end
section
noncomputable def sent (t:Array Nat):Array Nat:=dots (eols t)
section
variable {C:Cx}{n:Nat}{sc:Scope}{Γ:Gm}{e:Expr}{cm:Bool}
theorem t_law_sent {t:Array Nat}{w:Bool}(hz:t.size≤2048) (h0:0<(sent t).size) (ha:Ascii (eols t)) (ha':Ascii (sent t))
  (f1:w=true→Fn C n "quotedata" [.str ⟨t⟩] (.str ⟨sent t⟩)) (f2:Fn C n "_fix_eols" [.str ⟨t⟩] (.str ⟨eols t⟩)) (f3:Fn C n "_quote_periods" [.bytes (octets (eols t))] (.bytes (octets (sent t)))) :
  Run C n (fnT 23).scope [("text",.imm (.str ⟨t⟩)),("whole",.imm (.bool w))] (fnT 23).body (.ret (.str ⟨sent t⟩)):=by
 have h1:=eols_size (t:=t)
 have h2:=dots_size (t:=eols t)
 have h3:(sent t).size=(dots (eols t)).size:=rfl
 refine run_ret (ex_if (tr_bool (xv (by walk_at "m"))) (fun h=>ex_call (.cons (xv (by walk_at "m")) .nil rfl) (f1 h) (Nat.le_refl _)) fun h=>?_)
 refine ex_meth (a:=.bytes (octets (sent t))) (Ex.h (ex_call (.cons (ex_meth (a:=.str ⟨eols t⟩) (Ex.h (ex_call (.cons (xv (by walk_at "m")) .nil rfl) f2 (Nat.le_refl _))) .nil id_encode (m_encode ha (by lia))) .nil rfl) f3 (Nat.le_refl _))) .nil id_decode (m_decode ha' (by lia) h0)
end
end
section
theorem range_pick {α:Type}(ds:List α) (a m:Nat):(List.range m).filterMap (fun k=>ds[a+k]?)=(ds.drop a).take m:=by
 induction m with
 | zero=>exact(List.take_zero).symm
 | succ m ih=>
  rw[List.range_succ,List.filterMap_append,ih,List.take_add_one,List.getElem?_drop]
  refine congrArg _ ?_
  cases h:ds[a+m]? <;> simp[h]
theorem pick_run {α:Type}{ds:List α}{lo hi:Option Int}{a b:Nat}(h:sliceBounds lo hi none ds.length=((a:Int),(b:Int),1)):pickD ds lo hi none=(ds.drop a).take (b-a):=by
 unfold pickD
 rw[h]
 simp only[sliceRange]
 rw[List.filterMap_map,← range_pick]
 by_cases hab:(a:Int)<b
 ·have e:(if (1:Int)>0 then (if (a:Int)<b then ((b:Int)-a+1-1) / 1 else 0) else (if (a:Int)>b then ((a:Int)-b-1-1) / (-1) else 0)).toNat=b-a:=by
   rw[if_pos (by decide),if_pos hab,Int.add_sub_cancel,Int.ediv_one];exact Int.toNat_sub b a
  rw[e]
  have:((fun x:Nat=>ds[x]?)∘fun k:Nat=>((a:Int)+1*(k:Int)).toNat)=fun k=>ds[a+k]?:=by
   funext k
   show ds[((a:Int)+1*(k:Int)).toNat]?=_
   rw[Int.one_mul];rfl
  rw[this]
 ·have e2:b-a=0:=Nat.sub_eq_zero_of_le (Int.ofNat_le.mp (Int.not_lt.mp hab))
  rw[if_pos (by decide),if_neg hab,e2];rfl
theorem clampN (k n:Nat):max (0:Int) (min (k:Int) (n:Int))=((min k n:Nat):Int):=by
 rcases Nat.le_total k n with h | h
 ·rw[Nat.min_eq_left h,Int.min_eq_left (Int.ofNat_le.mpr h),Int.max_eq_right (Int.natCast_nonneg k)]
 ·rw[Nat.min_eq_right h,Int.min_eq_right (Int.ofNat_le.mpr h),Int.max_eq_right (Int.natCast_nonneg n)]
theorem neg1 (n:Nat):-1+((n+1:Nat):Int)=(n:Int):=by
 show -1+((n:Int)+1)=n
 rw[Int.add_comm,Int.add_neg_cancel_right]
theorem sub_pred (n:Nat):n-(n-1)≤1:=by
 cases n with
 | zero=>exact Nat.zero_le _
 | succ n=>exact Nat.le_of_eq (Nat.add_sub_cancel_left (n:=n) (m:=1))
theorem clampL (n:Nat):max (0:Int) (min (-1+(n:Int)) (n:Int))=((n-1:Nat):Int):=by
 cases n with
 | zero=>rfl
 | succ n=>
  rw[neg1,clampN,Nat.min_eq_left (Nat.le_succ n)];rfl
theorem pick_take {α:Type}{ds:List α}{k:Nat}:pickD ds none (some (k:Int)) none=ds.take k:=by
 rw[pick_run (a:=0) (b:=min k ds.length)]
 ·simp[List.take_take]
 ·unfold sliceBounds
  simp only[Option.getD_none]
  rw[if_neg (show ¬((k:Int)<0) by exact Int.not_lt_of_ge (Int.natCast_nonneg _))]
  simp;exact clampN _ _
theorem pick_drop {α:Type}{ds:List α}{k:Nat}:pickD ds (some (k:Int)) none none=ds.drop k:=by
 rw[pick_run (a:=min k ds.length) (b:=ds.length)]
 ·by_cases h:k≤ds.length
  ·rw[Nat.min_eq_left h,List.take_of_length_le];simp
  ·rw[Nat.min_eq_right (Nat.le_of_lt (Nat.lt_of_not_le h)),List.drop_of_length_le (l:=ds) (i:=k) (Nat.le_of_lt (Nat.lt_of_not_le h))];simp
 ·unfold sliceBounds
  simp only[Option.getD_none]
  rw[if_neg (show ¬((k:Int)<0) by exact Int.not_lt_of_ge (Int.natCast_nonneg _))]
  simp;exact clampN _ _
theorem pick_last {α:Type}{ds:List α}:pickD ds (some (-1)) none none=ds.drop (ds.length-1):=by
 rw[pick_run (a:=ds.length-1) (b:=ds.length)]
 ·rw[List.take_of_length_le];simp
 ·unfold sliceBounds
  simp only[Option.getD_none]
  rw[if_pos (show(-1:Int)<0 by decide)]
  simp;exact clampL _
noncomputable abbrev nD (l:List Nat):D:=.list (l.map fun k=>.int (k:Nat))
structure Act where
 hand:Int
 cause:List Nat
 fin:Str
noncomputable abbrev Act.d (a:Act):D:=.tuple [.int a.hand,nD a.cause,.str a.fin]
noncomputable abbrev actsD (l:List Act):D:=.list (l.map Act.d)
theorem enumRows_map {α:Type}(f:α→D):∀(l:List α) (k:Nat),enumRows k (l.map f)=(l.zipIdx k).map fun p=>[.int (p.2:Nat),f p.1]
 | [],_=>rfl
 | a::l,k=>by rw[List.map_cons,enumRows,enumRows_map f l,List.zipIdx_cons,List.map_cons]
noncomputable def rootsF (acts:List Act) (i:Nat) (a:Act):List Nat:=
 let l:=(List.range i).filter fun k=>decide (((acts[k]?).map Act.hand).getD 0=a.hand)
 l.drop (l.length-1)++a.cause
noncomputable def knownF (pasts:List (List Nat)) (roots:List Nat):List Nat:=roots.flatMap fun r=>(pasts[r]?).getD []
noncomputable def pastF (pasts:List (List Nat)) (acts:List Act) (i:Nat) (a:Act):List Nat:=((List.range i).filter fun k=>decide (k∈knownF pasts (rootsF acts i a)))++[i]
noncomputable def pF (acts:List Act):List (List Nat):=(acts.zipIdx 0).foldl (fun ps p=>ps++[pastF ps acts p.2 p.1]) []
theorem mem_nats {k:Nat}{l:List Nat}:((k:Int)∈l.map fun k:Nat=>(k:Int))↔k∈l:=by
 rw[List.mem_map]
 constructor
 ·rintro⟨a,h,e⟩
  have:a=k:=by lia
  exact this▸h
 ·exact fun h=>⟨k,h,rfl⟩
section
variable {C:Cx}{n:Nat}{sc:Scope}{Γ:Gm}{e:Expr}{cm:Bool}
theorem ex_un {op:UnaryOp}{pos:Pos}{a d:D}(h1:Ex C n sc Γ e a) (h:Op1 C (unaryOp op) a d):Ex C n sc Γ (.UnaryOp op e pos) d:=by
 intro env A F s hE hR hO hV
 refine wpAny_UnaryOp ((h1 env A F s hE hR hO hV).imp fun v s₁ hZ=>?_)
 obtain⟨F₁,g,r⟩:=hZ
 exact(h A F₁ s₁ v (hR.mono (Nat.zero_le _)) (hO.grow g) r).grow g
theorem natsD_ints {l:List Nat}:nD l=.list ((l.map fun k:Nat=>(k:Int)).map .int):=by
 rw[List.map_map];rfl
theorem It.map2 {β:Type}{xs:List β}{f:β→D}(h:It C n sc Γ cm e false ((xs.map f).map fun d=>[d])):It C n sc Γ cm e false (xs.map fun x=>[f x]):=by
 rw[List.map_map] at h;exact h
theorem it_rangeN (G:Gl C) {p pos:Pos}{k:Nat}(h:Ex C n sc Γ e (.int (k:Nat))) (hk:k≤4096) (hx:autoParam (isBuiltinName sc "range"=true) kr) (hs:autoParam (notStar e=true) rf) :
  It C n sc Γ cm (.Call (.Name "range" p) [e] [] pos) false ((List.range k).map fun i=>[D.int (i:Nat)]):=by
 have:=it_range (cm:=cm) (pos:=pos) (p:=p) h (Nat.lt_of_le_of_lt hk (by decide)) PyProof.Rows.Boot.range (G.none (by kernel_rfl)) hx hs
 unfold rangeRows at this
 rw[List.map_map] at this
 exact this
theorem it_enumM (G:Gl C) {p pos:Pos}{α:Type}{f:α→D}{l:List α}(h:Ex C n sc Γ e (.list (l.map f))) (hx:autoParam (isBuiltinName sc "enumerate"=true) kr) (hs:autoParam (notStar e=true) rf) :
  It C n sc Γ cm (.Call (.Name "enumerate" p) [e] [] pos) true ((l.zipIdx 0).map fun p=>[.int (p.2:Nat),f p.1]):=by
 have:=it_enum (cm:=cm) (pos:=pos) (p:=p) h PyProof.Rows.Boot.enumerate (G.none (by kernel_rfl)) hx hs
 rw[enumRows_map] at this
 exact this
end
end
section
section
variable {C:Cx}{n:Nat}{sc csc:Scope}{Γ Γc:Gm}{e:Expr}{cm tup:Bool}
theorem lc1 {elt tgt iter:Expr}{ifs:List Expr}{pos:Pos}{β:Type}{xs:List β}{enc:β→List D}{Γ':β→Gm}{ok:β→Bool}{f:β→D}(hkeep:Keep csc Γ Γc)
  (it:It C n sc Γ true iter tup (xs.map enc)) (bind:∀x∈xs,BindT csc tgt tup (enc x) Γc (Γ' x)) (hi:∀x∈xs,Ifs C n (rel sc csc) (Γ' x) ifs (ok x)) (he:∀x∈xs,ok x=true→Ex C n (rel sc csc) (Γ' x) elt (f x))
  (hz:xs.length≤4096) (hco:autoParam (compOk sc csc=true) kr) (hset:autoParam (∀env x,foldedSetIterable iter env x=pure x) i2) :
  Nw C n sc Γ (.ListComp elt [⟨tgt,iter,ifs,0⟩] csc pos) (XL C ((xs.filter ok).map f)):=nw_comp1 ⟨it,bind,hi,he⟩ hco hkeep hz hset
theorem lm1 {elt tgt iter:Expr}{ifs:List Expr}{pos:Pos}{β:Type}{xs:List β}{enc:β→List D}{Γ':β→Gm}{ok:β→Bool}{f:β→D}(hkeep:Keep csc Γ Γc)
  (it:It C n sc Γ true iter tup (xs.map enc)) (bind:∀x∈xs,BindT csc tgt tup (enc x) Γc (Γ' x)) (hi:∀x∈xs,Ifs C n (rel sc csc) (Γ' x) ifs (ok x)) (he:∀x∈xs,ok x=true→Ex C n (rel sc csc) (Γ' x) elt (f x))
  (hz:xs.length≤4096) (hco:autoParam (compOk sc csc=true) kr) (hset:autoParam (∀env x,foldedSetIterable iter env x=pure x) i2) :
  Cm C n sc Γ (.ListComp elt [⟨tgt,iter,ifs,0⟩] csc pos) (XL C ((xs.filter ok).map f)):=cm_comp1 ⟨it,bind,hi,he⟩ hco hkeep hz hset
theorem lc2 {elt tgt iter tgt2 iter2:Expr}{ifs2:List Expr}{pos:Pos}{tup2:Bool}{β γ:Type}{xs:List β}{enc:β→List D}{Γ':β→Gm}{ys:β→List γ}{enc2:γ→List D}{Γ2:β→γ→Gm}{ok:β→γ→Bool}{f:β→γ→D}(hkeep:Keep csc Γ Γc)
  (it:It C n sc Γ true iter tup (xs.map enc)) (bind:∀x∈xs,BindT csc tgt tup (enc x) Γc (Γ' x)) (it2:∀x∈xs,It C n (rel sc csc) (Γ' x) false iter2 tup2 ((ys x).map enc2)) (bind2:∀x∈xs,∀y∈ys x,BindT csc tgt2 tup2 (enc2 y) (Γ' x) (Γ2 x y))
  (hi:∀x∈xs,∀y∈ys x,Ifs C n (rel sc csc) (Γ2 x y) ifs2 (ok x y)) (he:∀x∈xs,∀y∈ys x,ok x y=true→Ex C n (rel sc csc) (Γ2 x y) elt (f x y))
  (hz:(xs.flatMap fun x=>((ys x).filter (ok x)).map (f x)).length≤4096) (hco:autoParam (compOk sc csc=true) kr) (hset:autoParam (∀env x,foldedSetIterable iter env x=pure x) i2) (hset2:autoParam (∀env x,foldedSetIterable iter2 env x=pure x) i2) :
  Nw C n sc Γ (.ListComp elt [⟨tgt,iter,[],0⟩,⟨tgt2,iter2,ifs2,0⟩] csc pos) (XL C (xs.flatMap fun x=>((ys x).filter (ok x)).map (f x))):=nw_comp2 ⟨it,bind,it2,bind2,hi,he⟩ hco hkeep hz hset hset2
theorem lm2 {elt tgt iter tgt2 iter2:Expr}{ifs2:List Expr}{pos:Pos}{tup2:Bool}{β γ:Type}{xs:List β}{enc:β→List D}{Γ':β→Gm}{ys:β→List γ}{enc2:γ→List D}{Γ2:β→γ→Gm}{ok:β→γ→Bool}{f:β→γ→D}(hkeep:Keep csc Γ Γc)
  (it:It C n sc Γ true iter tup (xs.map enc)) (bind:∀x∈xs,BindT csc tgt tup (enc x) Γc (Γ' x)) (it2:∀x∈xs,It C n (rel sc csc) (Γ' x) false iter2 tup2 ((ys x).map enc2)) (bind2:∀x∈xs,∀y∈ys x,BindT csc tgt2 tup2 (enc2 y) (Γ' x) (Γ2 x y))
  (hi:∀x∈xs,∀y∈ys x,Ifs C n (rel sc csc) (Γ2 x y) ifs2 (ok x y)) (he:∀x∈xs,∀y∈ys x,ok x y=true→Ex C n (rel sc csc) (Γ2 x y) elt (f x y))
  (hz:(xs.flatMap fun x=>((ys x).filter (ok x)).map (f x)).length≤4096) (hco:autoParam (compOk sc csc=true) kr) (hset:autoParam (∀env x,foldedSetIterable iter env x=pure x) i2) (hset2:autoParam (∀env x,foldedSetIterable iter2 env x=pure x) i2) :
  Cm C n sc Γ (.ListComp elt [⟨tgt,iter,[],0⟩,⟨tgt2,iter2,ifs2,0⟩] csc pos) (XL C (xs.flatMap fun x=>((ys x).filter (ok x)).map (f x))):=cm_comp2 ⟨it,bind,it2,bind2,hi,he⟩ hco hkeep hz hset hset2
theorem swaps_cell {elt:Expr}{gens:List Comprehension}{cp:Pos}{x:Str}{p:Pos}{line:Nat}(h2:sc.names.lookup x=some .cell) :
  ∀env,gE sc env→swapsWith (.ListComp elt gens csc cp) (some (.Name x p)) line env=pure false:=fun env hE=>by
 unfold swapsWith
 show pure (env.blockKind==.function&&env.kindOf x==some .local&&p.line==cp.line&&!(csc.names.any fun(n,k)=>n==x&&(k==.local||k==.cell)))=_
 have e2:env.kindOf x=some .cell:=by show env.scope.names.lookup x=_;rw[hE.scope];exact h2
 rw[e2]
 have:(some NameKind.cell==some NameKind.local)=false:=rfl
 rw[this]
 simp
theorem run_nwc {rest:List Stmt}{o:Out}{Γ':Gm}{x:Str}{p pos cp:Pos}{elt:Expr}{gens:List Comprehension}{ds ds':List D}(h:Nw C n sc Γ (.ListComp elt gens csc cp) (XL C ds)) (e':ds=ds') (hd:Drop x Γ Γ') (kk:Run C n sc ((x,.imm (.list ds'))::Γ') rest o)
  (h2:autoParam (sc.names.lookup x=some .cell) kr) (hst:autoParam (sto sc x=true) kr) (hv:autoParam (vis sc x=true) kr):Run C n sc Γ (.Assign [.Name x p] (.ListComp elt gens csc cp) pos::rest) o:=by
 subst e'
 exact run_newL h hd (fun a=>run_freezeL .here kk hv) (swaps_cell h2) hst
theorem run_cmc {rest:List Stmt}{o:Out}{Γ':Gm}{x:Str}{p pos cp:Pos}{elt:Expr}{gens:List Comprehension}{ds ds':List D}(h:Cm C n sc Γ (.ListComp elt gens csc cp) (XL C ds)) (e':ds=ds') (hd:Drop x Γ Γ') (kk:Run C n sc ((x,.imm (.list ds'))::Γ') rest o)
  (h1:autoParam (sc.kind=.function) kr) (h2:autoParam (sc.names.lookup x=some .local) kr) (h3:autoParam ((p.line==cp.line&&!(csc.names.any fun q=>q.1==x&&(q.2==.local||q.2==.cell)))=true) kr) (hst:autoParam (sto sc x=true) kr) (hv:autoParam (vis sc x=true) kr):Run C n sc Γ (.Assign [.Name x p] (.ListComp elt gens csc cp) pos::rest) o:=by
 subst e'
 exact run_cm h hd kk (swaps_comp h1 h2 h3) hst hv
theorem act_at {acts:List Act}{k:Nat}(h:k<acts.length):(acts.map Act.d)[((k:Nat):Int).toNat]?=some (acts[k]).d:=by simp[h]
theorem pasts_inv (acts:List Act) (hl:acts.length≤64) (i:Nat):∀ps,ps=List.foldl (fun(ps:List (List Nat)) (p:Act×Nat)=>ps++[pastF ps acts p.2 p.1]) [] (List.take i (acts.zipIdx 0))→ps.length=min i acts.length∧∀l∈ps,l.length≤64:=by
 induction i with
 | zero=>rintro ps rfl;simp
 | succ i ih=>
  rintro ps rfl
  rw[List.take_add_one,List.foldl_append]
  obtain⟨h1,h2⟩:=ih _ rfl
  generalize List.foldl (fun(ps:List (List Nat)) (p:Act×Nat)=>ps++[pastF ps acts p.2 p.1]) [] (List.take i (acts.zipIdx 0))=ps at h1 h2
  cases h:(acts.zipIdx 0)[i]? with
  | none=>
   have:=List.getElem?_eq_none_iff.mp h
   rw[List.length_zipIdx] at this
   exact⟨by simp[h1];lia,by simpa using h2⟩
  | some p=>
   have hi:=(List.getElem?_eq_some_iff.mp h).1
   rw[List.length_zipIdx] at hi
   rw[List.getElem?_zipIdx] at h
   have hp:p.2=i:=by
    cases h':acts[i]? with
    | none=>rw[h'] at h;cases h
    | some b=>rw[h'] at h;cases h;exact Nat.zero_add i
   refine⟨by simp[h1];lia,fun l hl'=>?_⟩
   simp only[Option.toList,List.foldl_cons,List.foldl_nil,List.mem_append,List.mem_singleton] at hl'
   rcases hl' with h3 | rfl
   ·exact h2 l h3
   ·unfold pastF
    rw[List.length_append]
    have:=List.length_filter_le (fun k=>decide (k∈knownF ps (rootsF acts p.2 p.1))) (List.range p.2)
    rw[List.length_range] at this
    simp only[List.length_singleton]
    lia
theorem roots_lt {acts:List Act}{i:Nat}{a:Act}(hc:∀g∈a.cause,g<i):∀r∈rootsF acts i a,r<i:=fun r hr=>by
 unfold rootsF at hr
 rcases List.mem_append.mp hr with h | h
 ·have:=List.mem_of_mem_drop h
  simpa using (List.mem_filter.mp this).1
 ·exact hc r h
theorem roots_len {acts:List Act}{i:Nat}{a:Act}(hc:a.cause.length≤8):(rootsF acts i a).length≤9:=by
 unfold rootsF
 rw[List.length_append,List.length_drop]
 exact Nat.add_le_add (sub_pred _) hc
theorem flat_len {α β:Type}{f:α→List β}{m:Nat}:∀{l:List α},(∀x∈l,(f x).length≤m)→(l.flatMap f).length≤l.length*m
 | [],_=>by simp
 | a::l,h=>by
  have h1:=h a (by simp)
  have h2:=flat_len (l:=l) fun x hx=>h x (by simp[hx])
  rw[List.flatMap_cons,List.length_append,List.length_cons,Nat.succ_mul]
  lia
theorem t_law_pasts (G:Gl C) {acts:List Act}(hl:acts.length≤64) (hc:∀(i:Nat) (a:Act),acts[i]?=some a→a.cause.length≤8∧∀g∈a.cause,g<i):Run C n (fnT 25).scope [("acts",.imm (actsD acts))] (fnT 25).body (.ret (.list ((pF acts).map nD))):=by
 refine run_newL (ds:=[]) (nw_list .nil) (Drop.same rfl) fun a=>?_
 refine rS (st_for (it_enumM G (f:=Act.d) (l:=acts) (xv (by walk_at "m"))) (fun ps:List (List Nat)=>[("pasts",.ml a (ps.map nD)),("acts",.imm (actsD acts))]) [] (fun ps p=>ps++[pastF ps acts p.2 p.1]) (List.Sublist.refl _) (fun ps x hx=>bt2 (by decide +kernel) (by kernel_rfl) (by kernel_rfl)) (fun i x hx=>?_) (by intro _ _;rfl)) ?_
 ·generalize hP:List.foldl (fun(ps:List (List Nat)) (p:Act×Nat)=>ps++[pastF ps acts p.2 p.1]) [] (List.take i (acts.zipIdx 0))=ps
  obtain⟨hps,hps2⟩:=pasts_inv acts hl i ps hP.symm
  obtain⟨act,num⟩:=x
  have hnum:num=i∧acts[i]?=some act:=by
   rw[List.getElem?_zipIdx] at hx
   cases h:acts[i]? with
   | none=>rw[h] at hx;cases hx
   | some b=>rw[h] at hx;cases hx;exact⟨by exact Nat.add_comm _ _,rfl⟩
  obtain⟨rfl,hact⟩:=hnum
  have hi:num<acts.length:=(List.getElem?_eq_some_iff.mp hact).1
  obtain⟨hca,hcb⟩:=hc _ _ hact
  have hfl:∀p:Nat→Bool,((List.range num).filter p).length≤num:=fun p=>by
   have:=List.length_filter_le p (List.range num);rw[List.length_range] at this;exact this
  refine rS (sA (d:=nD (rootsF acts num act)) (Ex.eq (xb (ex_slice (ex_of_nw (lc1 (xs:=List.range num) (enc:=fun k=>[D.int (k:Nat)]) (ok:=fun k=>decide (((acts[k]?).map Act.hand).getD 0=act.hand)) (f:=fun k=>.int (k:Nat)) (Keep.same rfl) (it_rangeN G (xv (by walk_at "m")) (Nat.le_of_lt (Nat.lt_of_lt_of_le hi (Nat.le_trans hl (by decide))))) (fun k hk=>.name (by decide +kernel) (by kernel_rfl))
   (fun k hk=>?_) (fun k hk J=>(xv (by walk_at "m"))) (by simp;exact Nat.le_of_lt (Nat.lt_of_lt_of_le hi (Nat.le_trans hl (by decide)))))) ⟨_,rfl,ex_un xi o_neg_int⟩ rfl rfl (by simp) ?_) (xs1 (Ex.h (xv (by walk_at "m"))) xi (idx_tuple (d:=nD act.cause) (by decide) (by decide) rfl)) (o_add_list ?_)) ?_) (Drop.same rfl)) ?_
  ·have hk':k<acts.length:=by have:=List.mem_range.mp hk;exact Nat.lt_trans this hi
   refine Tr.eq (tC (xs1 (Ex.h (xs1 (Ex.h (xv (by walk_at "m"))) (xv (by walk_at "m")) (iL (d:=(acts[k]).d) (Int.natCast_nonneg _) (Mine.c62 (Nat.le_of_lt (Nat.lt_of_lt_of_le hk' (Nat.le_trans hl (by decide))))) (act_at hk')))) xi (idx_tuple (d:=.int (acts[k]).hand) (by decide) (by decide) rfl)) (xs1 (Ex.h (xv (by walk_at "m"))) xi (idx_tuple (d:=.int act.hand) (by decide) (by decide) rfl)) o_eq_int) ?_
   rw[List.getElem?_eq_getElem hk']
   simp only[Option.map_some,Option.getD_some]
   exact(Bool.eq_iff_iff.mpr (by simp))
  ·rw[List.length_map];have:=hfl fun k=>decide ((Option.map Act.hand acts[k]?).getD 0=act.hand);exact Nat.le_of_lt (Nat.lt_of_le_of_lt this (Nat.lt_of_lt_of_le hi (Nat.le_trans hl (by decide))))
  ·rw[pick_last,List.length_drop,List.length_map,List.length_map]
   have h4:(20000:Nat)≤sizeLine:=by decide
   exact Nat.le_trans (Nat.add_le_add (sub_pred _) hca) (Nat.le_trans (by decide) h4)
  ·rw[pick_last,List.length_map,← List.map_drop,← List.map_append]
   rfl
  ·have hr1:=roots_lt (acts:=acts) (i:=num) (a:=act) hcb
   have hr2:=roots_len (acts:=acts) (i:=num) (a:=act) hca
   have hat:∀r∈rootsF acts num act,∃l,ps[r]?=some l∧l.length≤64:=fun r hr=>by
    have h1:=hr1 r hr
    have h2:r<ps.length:=by rw[hps,Nat.min_eq_left (Nat.le_of_lt hi)];exact h1
    exact⟨ps[r],List.getElem?_eq_getElem h2,hps2 _ (List.getElem_mem h2)⟩
   have hkn:(knownF ps (rootsF acts num act)).length≤9*64:=by
    refine Nat.le_trans (flat_len (m:=64) fun r hr=>?_) (Nat.mul_le_mul_right _ hr2)
    obtain⟨l,h1,h2⟩:=hat r hr
    rw[h1];exact h2
   have hfm:((rootsF acts num act).flatMap fun r=>(((ps[r]?).getD []).filter fun J=>true).map fun k:Nat=>D.int (k:Nat))=(knownF ps (rootsF acts num act)).map fun k=>.int (k:Nat):=by
    unfold knownF
    rw[List.map_flatMap]
    congr 1
    funext r
    rw[List.filter_eq_self.mpr fun J J=>rfl]
   refine run_nwc (lc2 (xs:=rootsF acts num act) (enc:=fun k=>[D.int (k:Nat)]) (ys:=fun r=>(ps[r]?).getD []) (enc2:=fun k=>[D.int (k:Nat)]) (ok:=fun J J=>true) (f:=fun J k=>.int (k:Nat)) (Keep.same rfl) (It.map2 (it_list (xv (by walk_at "m")))) (fun r hr=>.name (by decide +kernel) (by kernel_rfl))
    (fun r hr=>It.map2 (it_list (Ex.eq (ex_sub_ml (by walk_at "m") (xv (by walk_at "m")) (Int.natCast_nonneg _) (by have:=hr1 r hr;exact Mine.c62 (Nat.le_of_lt (Nat.lt_trans this (Nat.lt_of_lt_of_le hi (Nat.le_trans hl (by decide)))))) (d:=nD ((ps[r]?).getD [])) (by
     obtain⟨l,h1,h2⟩:=hat r hr
     rw[Int.toNat_natCast,List.getElem?_map,h1];rfl)) rfl))) (fun r hr k hk=>.name (by decide +kernel) (by kernel_rfl)) (fun r hr k hk=>rfl) (fun r hr k hk J=>(xv (by walk_at "m"))) (by rw[hfm,List.length_map];exact Nat.le_trans hkn (by decide))) hfm (Drop.same rfl) ?_
   have hpl:(ps.map nD).length≤4096:=by rw[List.length_map];lia
   refine rS (st_append (d:=nD (pastF ps acts num act)) (Ex.eq (xb (ex_of_nw (lc1 (xs:=List.range num) (enc:=fun k=>[D.int (k:Nat)]) (ok:=fun k=>decide (k∈knownF ps (rootsF acts num act))) (f:=fun k=>.int (k:Nat)) (Keep.same rfl) (it_rangeN G (xv (by walk_at "m")) (Nat.le_of_lt (Nat.lt_of_lt_of_le hi (Nat.le_trans hl (by decide))))) (fun k hk=>.name (by decide +kernel) (by kernel_rfl))
    (fun k hk=>Tr.eq (tC (xv (by walk_at "m")) (Ex.eq (xv (by walk_at "m")) natsD_ints) o_in_ints) (decide_eq_decide.mpr mem_nats)) (fun k hk J=>(xv (by walk_at "m"))) (by simp;exact Nat.le_of_lt (Nat.lt_of_lt_of_le hi (Nat.le_trans hl (by decide)))))) (ex_list (.cons (xv (by walk_at "m")) .nil rfl)) (o_add_list ?_)) ?_) (by walk_at "u") hpl) (run_nil' ?_)
   ·have:=hfl fun k=>decide (k∈knownF ps (rootsF acts num act))
    have h4:(20000:Nat)≤sizeLine:=by decide
    rw[List.length_map];simp only[List.length_singleton];lia
   ·unfold pastF
    rw[nD,List.map_append];rfl
   ·simp only[List.map_append,List.map_cons,List.map_nil]
    exact(by walk_at "s")
 ·generalize hP:List.foldl (fun(ps:List (List Nat)) (p:Act×Nat)=>ps++[pastF ps acts p.2 p.1]) [] (acts.zipIdx 0)=ps
  have:pF acts=ps:=hP
  rw[this]
  refine run_freezeL (by walk_at "u") ?_
  exact run_ret (xv (by walk_at "m"))
end
end
section
noncomputable def cOf (acts:List Act) (k:Nat):List Nat:=((acts[k]?).map Act.cause).getD []
noncomputable def brk (give k:Nat):Str:=if k=give then ⟨#[40]⟩ else ⟨#[41]⟩
noncomputable def textL (acts:List Act) (line:List Nat) (give:Nat) (piece:Str):List Str:=(line.filter fun k=>decide (k=give∨give∈cOf acts k)).map fun k=>brk give k++piece
noncomputable def textF (acts:List Act) (line:List Nat) (give:Nat) (piece:Str):Str:=Txt.join ⟨#[]⟩ (textL acts line give piece)
theorem joinOk_small {xs:List Str}{m:Nat}(h:∀x∈xs,x.length≤m) (hm:xs.length*m≤9000):JoinOk ⟨#[]⟩ xs=true:=by
 have:=joinOk_flat (xs.map (·.cps)) (by
  rw[flatA_size,List.map_map]
  have:∀l:List Str,(∀x∈l,x.length≤m)→(l.map ((fun t:Array Nat=>t.size)∘fun x:Str=>x.cps)).sum≤l.length*m:=by
   intro l
   induction l with
   | nil=>intro _;simp
   | cons x l ih=>
    intro h
    have h1:x.cps.size≤m:=h x (by simp)
    have:=ih fun y hy=>h y (by simp[hy])
    simp only[List.map_cons,List.sum_cons,Function.comp,List.length_cons,Nat.succ_mul] at this ⊢
    omega
  exact Nat.le_trans (this xs h) hm)
 rw[List.map_map] at this
 have e:((fun t=>(⟨t⟩:Str))∘fun x:Str=>x.cps)=_root_.id:=rfl
 rw[e,List.map_id] at this
 exact this
section
variable {C:Cx}{n:Nat}{sc csc:Scope}{Γ Γc:Gm}{e:Expr}{cm tup:Bool}
theorem t_law_text {acts:List Act}{line:List Nat}{give:Nat}{piece:Str}(hline:∀k∈line,k<acts.length) (ha:acts.length≤64) (hl:line.length≤64) (hp:piece.length≤10) :
  Run C n (fnT 27).scope [("acts",.imm (actsD acts)),("line",.imm (nD line)),("give",.imm (.int (give:Nat))),("piece",.imm (.str piece))] (fnT 27).body (.ret (.str (textF acts line give piece))):=by
 have h4:(20000:Nat)≤sizeLine:=by decide
 have hx:∀x∈textL acts line give piece,x.length≤11:=fun x hx=>by
  obtain⟨k,_,rfl⟩:=List.mem_map.mp hx
  rw[strLen_append]
  unfold brk
  split
  ·show 1+_≤_;exact Nat.le_trans (Nat.add_le_add_left hp _) (by decide)
  ·show 1+_≤_;exact Nat.le_trans (Nat.add_le_add_left hp _) (by decide)
 have hlen:(textL acts line give piece).length≤64:=by
  unfold textL
  rw[List.length_map]
  exact Nat.le_trans (List.length_filter_le _ _) hl
 refine run_ret (ex_meth (a:=.str ⟨#[]⟩) (Ex.h ex_str) (.cons (Ex.eq (ex_of_nw (lc1 (xs:=line) (enc:=fun k=>[D.int (k:Nat)]) (ok:=fun k=>decide (k=give∨give∈cOf acts k)) (f:=fun k=>.str (brk give k++piece)) (Keep.same rfl) (It.map2 (it_list (xv (by walk_at "m")))) (fun k hk=>.name (by decide +kernel) (by kernel_rfl))
  (fun k hk=>?_) (fun k hk J=>xb (ex_if (tC (xv (by walk_at "m")) (xv (by walk_at "m")) o_eq_int) (fun h=>?_) fun h=>?_) (xv (by walk_at "m")) (o_add_str ?_)) (Nat.le_trans hl (by decide)))) ?_) .nil rfl) id_join (m_join (xs:=textL acts line give piece) (joinOk_small hx (by lia))))
 ·have hk':=hline k hk
  refine Tr.eq (tr_or (tC (xv (by walk_at "m")) (xv (by walk_at "m")) o_eq_int) fun J=>tC (xv (by walk_at "m")) (Ex.eq (xs1 (Ex.h (xs1 (Ex.h (xv (by walk_at "m"))) (xv (by walk_at "m")) (iL (d:=(acts[k]).d) (Int.natCast_nonneg _) (Mine.c62 (Nat.le_of_lt (Nat.lt_of_lt_of_le hk' (Nat.le_trans ha (by decide))))) (act_at hk')))) xi (idx_tuple (d:=nD (acts[k]).cause) (by decide) (by decide) rfl)) natsD_ints) o_in_ints) ?_
  unfold cOf
  rw[List.getElem?_eq_getElem hk']
  simp only[Option.map_some,Option.getD_some]
  refine Bool.eq_iff_iff.mpr ?_
  simp only[Bool.or_eq_true,beq_iff_eq,decide_eq_true_eq,mem_nats]
  exact or_congr (by lia) Iff.rfl
 ·have:k=give:=by simp at h;lia
  unfold brk
  rw[if_pos this]
  exact ex_str
 ·have:¬k=give:=by simp at h;lia
  unfold brk
  rw[if_neg this]
  exact ex_str
 ·unfold brk
  split
  ·show 1+piece.length≤_;exact Nat.le_trans (Nat.add_le_add_left hp _) (by decide)
  ·show 1+piece.length≤_;exact Nat.le_trans (Nat.add_le_add_left hp _) (by decide)
 ·unfold textL
  rw[List.map_map];rfl
end
end
section
noncomputable abbrev zD (l:List Int):D:=.list (l.map .int)
noncomputable def ownF (acts:List Act) (hand:Int):List Nat:=((acts.zipIdx 0).filter fun p=>decide (p.1.hand=hand)).map (·.2)
noncomputable def wAt (worth:List Int) (k:Nat):Int:=(worth[k]?).getD 0
noncomputable def sumW (worth:List Int) (l:List Nat):Int:=(l.map (wAt worth)).sum
noncomputable def knownB (pasts:List (List Nat)) (worth:List Int) (own:List Nat):List Int:=0::own.map fun k=>sumW worth ((pasts[k]?).getD [])
noncomputable def hOf (acts:List Act) (k:Nat):Int:=((acts[k]?).map Act.hand).getD 0
noncomputable def letter (h:Int):Str:=⟨#[97+h.toNat]⟩
noncomputable def rowB (acts:List Act) (worth:List Int) (known:List Int) (t:Tab) (n k:Nat):Tab:=
 (cOf acts k).foldl (fun t g=>t.put (letter (hOf acts g)) (t.at (letter (hOf acts g))+wAt known (n+1)-wAt known n-wAt worth k)) t
noncomputable def tableB (acts:List Act) (worth:List Int) (known:List Int) (own:List Nat):Tab:=
 (own.zipIdx 0).foldl (fun t p=>rowB acts worth known t p.2 p.1) ([],[])
noncomputable def takesF (acts:List Act) (own:List Nat):Nat:=(own.filter fun k=>decide (cOf acts k≠[])).length
noncomputable def bookD (acts:List Act) (pasts:List (List Nat)) (worth:List Int) (hand:Int):D:=
 let own:=ownF acts hand
 let known:=knownB pasts worth own
 let last:=wAt known (known.length-1)
 .tuple [.int (own.length:Nat),.int (takesF acts own:Nat),.int last,.int (last-sumW worth own),(tableB acts worth known own).d]
noncomputable def Good (m:Nat) (t:Tab):Prop:=t.ok∧t.2.length≤m
theorem Good.put {m:Nat}{t:Tab}{k:Str}{v:Int}(h:Good m t):Good (m+1) (t.put k v):=⟨Tab.put_ok h.1,Nat.le_trans putV_len_le (by have:=h.2;exact Nat.succ_le_succ this)⟩
theorem Good.fold {β:Type}{f:Tab→β→Tab}{c:Nat}(hf:∀m t x,Good m t→Good (m+c) (f t x)):∀(l:List β) {m:Nat}{t:Tab},Good m t→Good (m+c*l.length) (l.foldl f t)
 | [],m,t,h=>by simpa using h
 | x::l,m,t,h=>by
  have:=Good.fold hf l (hf m t x h)
  rw[List.length_cons,Nat.mul_succ,List.foldl_cons]
  have e:m+(c*l.length+c)=m+c+c*l.length:=by lia
  rw[e];exact this
theorem Good.mono {m k:Nat}{t:Tab}(h:Good m t) (hk:m≤k):Good k t:=⟨h.1,Nat.le_trans h.2 hk⟩
theorem rowB_good {acts:List Act}{worth known:List Int}{t:Tab}{n k m:Nat}(hc:(cOf acts k).length≤8) (h:Good m t):Good (m+8) (rowB acts worth known t n k):=
 (Good.fold (c:=1) (fun m t x h=>h.put) (cOf acts k) h).mono (by lia)
theorem at_none {t:Tab}(h:t.ok) {k:Str}(hk:k∉t.1):t.at k=0:=by
 have:t.1.idxOf k=t.1.length:=List.idxOf_eq_length hk
 unfold Tab.at
 rw[this,h.1];simp
theorem letter_at {h:Int}(h0:0≤h) (h1:h<3):(Str.ofString "abc").cps[h.toNat]?=some (97+h.toNat):=by
 rcases three ⟨h0,h1⟩ with rfl | rfl | rfl <;> rfl
theorem ownF_lt {acts:List Act}{hand:Int}:∀k∈ownF acts hand,k<acts.length:=fun k hk=>by
 obtain⟨p,hp,rfl⟩:=List.mem_map.mp hk
 have:=(List.mem_filter.mp hp).1
 have:=List.mem_zipIdx this
 exact Nat.lt_of_lt_of_eq this.2.1 (Nat.add_comm _ _)
theorem ownF_len {acts:List Act}{hand:Int}:(ownF acts hand).length≤acts.length:=by
 unfold ownF
 rw[List.length_map]
 exact Nat.le_trans (List.length_filter_le _ _) (by rw[List.length_zipIdx];exact Nat.le_refl _)
section
variable {C:Cx}{n:Nat}{sc csc:Scope}{Γ Γc:Gm}{e:Expr}{cm tup:Bool}
theorem ex_sum (G:Gl C) {p pos:Pos}{ns:List Int}(h:Ex C n sc Γ e (zD ns)) (hs:autoParam (notStar e=true) rf) (hx:autoParam (isBuiltinName sc "sum"=true) kr):Ex C n sc Γ (.Call (.Name "sum" p) [e] [] pos) (.int ns.sum):=
 ex_builtin (f:=.builtin "sum") PyProof.Rows.Boot.sum (G.none (by kernel_rfl)) (fun J e=>nomatch e) (.cons h .nil hs) c_sum hx
theorem w_at {worth:List Int}{k:Nat}(h:k<worth.length):(worth.map D.int)[((k:Nat):Int).toNat]?=some (.int (wAt worth k)):=by
 unfold wAt;simp[h]
theorem t_law_book (G:Gl C) {acts:List Act}{pasts:List (List Nat)}{worth:List Int}{hand:Int}(ha:acts.length≤64) (hp:pasts.length=acts.length) (hw:worth.length=acts.length)
  (hpl:∀l∈pasts,l.length≤64∧∀k∈l,k<acts.length) (hc:∀a∈acts,a.cause.length≤8∧(∀g∈a.cause,g<acts.length)∧0≤a.hand∧a.hand<3) :
  Run C n (fnT 26).scope [("acts",.imm (actsD acts)),("pasts",.imm (.list (pasts.map nD))),("worth",.imm (zD worth)),("hand",.imm (.int hand))] (fnT 26).body (.ret (bookD acts pasts worth hand)):=by
 refine run_cmc (ds':=(ownF acts hand).map fun k=>.int (k:Nat)) (lm1 (xs:=acts.zipIdx 0) (enc:=fun p=>[D.int (p.2:Nat),p.1.d]) (ok:=fun p=>decide (p.1.hand=hand)) (f:=fun p=>.int (p.2:Nat)) (Keep.same rfl) (it_enumM G (xv (by walk_at "m"))) (fun p hp=>bt2 (by decide +kernel) (by kernel_rfl) (by kernel_rfl))
  (fun p hp=>Tr.eq (tC (xs1 (Ex.h (xv (by walk_at "m"))) xi (idx_tuple (d:=.int p.1.hand) (by decide) (by decide) rfl)) (xv (by walk_at "m")) o_eq_int) (Bool.eq_iff_iff.mpr (by simp))) (fun p hp J=>(xv (by walk_at "m"))) (by rw[List.length_zipIdx];exact Nat.le_trans ha (by decide))) ?_ (Drop.same rfl) ?_
 ·unfold ownF
  rw[List.map_map];rfl
 have ho1:=ownF_lt (acts:=acts) (hand:=hand)
 have ho2:=ownF_len (acts:=acts) (hand:=hand)
 generalize hO:ownF acts hand=own at ho1 ho2
 have hat:∀k∈own,∃l,pasts[k]?=some l∧l.length≤64∧∀j∈l,j<acts.length:=fun k hk=>by
  have:=ho1 k hk
  have h2:k<pasts.length:=by exact Nat.lt_of_lt_of_eq this hp.symm
  exact⟨_,List.getElem?_eq_getElem h2,hpl _ (List.getElem_mem h2)⟩
 refine rS (sA (d:=zD (knownB pasts worth own)) (Ex.eq (xb (ex_list (.cons xi .nil rfl)) (ex_of_nw (lc1 (xs:=own) (enc:=fun k=>[D.int (k:Nat)]) (ok:=fun J=>true) (f:=fun k=>.int (sumW worth ((pasts[k]?).getD []))) (Keep.same rfl) (It.map2 (it_list (xv (by walk_at "m")))) (fun k hk=>.name (by decide +kernel) (by kernel_rfl)) (fun k hk=>rfl)
  (fun k hk J=>?_) (Nat.le_trans ho2 (Nat.le_trans ha (by decide))))) (o_add_list ?_)) ?_) (Drop.same rfl)) ?_
 ·obtain⟨l,h1,h2,h3⟩:=hat k hk
  have e1:(pasts.map nD)[((k:Nat):Int).toNat]?=some (nD l):=by rw[Int.toNat_natCast,List.getElem?_map,h1];rfl
  rw[h1]
  exact ex_sum G (Ex.eq (ex_of_nw (lc1 (xs:=l) (enc:=fun k=>[D.int (k:Nat)]) (ok:=fun J=>true) (f:=fun k=>.int (wAt worth k)) (Keep.same rfl) (It.map2 (it_list (Ex.eq (xs1 (Ex.h (xv (by walk_at "m"))) (xv (by walk_at "m")) (iL (Int.natCast_nonneg _) (by have:=ho1 k hk;exact Mine.c62 (Nat.le_of_lt (Nat.lt_of_lt_of_le this (Nat.le_trans ha (by decide))))) e1)) rfl))) (fun j hj=>.name (by decide +kernel) (by kernel_rfl)) (fun j hj=>rfl)
   (fun j hj J=>xs1 (Ex.h (xv (by walk_at "m"))) (xv (by walk_at "m")) (iL (Int.natCast_nonneg _) (by have:=h3 j hj;exact Mine.c62 (Nat.le_of_lt (Nat.lt_of_lt_of_le this (Nat.le_trans ha (by decide))))) (w_at (by have:=h3 j hj;exact Nat.lt_of_lt_of_eq this hw.symm)))) (Nat.le_trans h2 (by decide)))) (by rw[List.filter_eq_self.mpr fun J J=>rfl];unfold zD;rw[List.map_map];rfl))
 ·have h4:(20000:Nat)≤sizeLine:=by decide
  rw[List.length_map,List.filter_eq_self.mpr fun J J=>rfl]
  simp only[List.length_singleton]
  lia
 ·rw[List.filter_eq_self.mpr fun J J=>rfl]
  unfold knownB zD
  rw[List.map_cons,List.map_map];rfl
 ·refine run_newS (ks:=[]) (ds:=[]) nw_dict0S (Drop.same rfl) fun a=>?_
  have hkl:(knownB pasts worth own).length=own.length+1:=by unfold knownB;simp
  have hcause:∀k,(cOf acts k).length≤8∧(∀g∈cOf acts k,g<acts.length):=fun k=>by
   unfold cOf
   cases h:acts[k]? with
   | none=>simp
   | some x=>exact⟨(hc x (List.mem_of_getElem? h)).1,(hc x (List.mem_of_getElem? h)).2.1⟩
  generalize hK:knownB pasts worth own=known at hkl
  refine rS (st_for (it_enumM G (f:=fun k:Nat=>D.int (k:Nat)) (l:=own) (xv (by walk_at "m"))) (fun t:Tab=>[("table",.mdS a t.1 (t.2.map .int)),("known",.imm (zD known)),("own",.imm (.list (own.map fun k=>.int (k:Nat)))),("acts",.imm (actsD acts)),("pasts",.imm (.list (pasts.map nD))),("worth",.imm (zD worth)),("hand",.imm (.int hand))])
   ([],[]) (fun t p=>rowB acts worth known t p.2 p.1) (List.Sublist.refl _) (fun t p hp=>bt2 (by decide +kernel) (by kernel_rfl) (by kernel_rfl)) (fun i x hx=>?_) (by intro _ _;rfl)) ?_
  ·have hg:Good (8*i) (List.foldl (fun(t:Tab) (p:Nat×Nat)=>rowB acts worth known t p.2 p.1) ([],[]) (List.take i (own.zipIdx 0))):=
    ((Good.fold (c:=8) (fun m t (p:Nat×Nat) h=>rowB_good (hcause p.1).1 h) (List.take i (own.zipIdx 0)) (m:=0) (t:=([],[])) ⟨⟨rfl,List.nodup_nil⟩,Nat.le_refl _⟩)).mono (by rw[Nat.zero_add];exact Nat.mul_le_mul_left 8 (List.length_take_le i _))
   generalize List.foldl (fun(t:Tab) (p:Nat×Nat)=>rowB acts worth known t p.2 p.1) ([],[]) (List.take i (own.zipIdx 0))=t at hg
   obtain⟨k,m⟩:=x
   have hmk:m=i∧own[i]?=some k:=by
    rw[List.getElem?_zipIdx] at hx
    cases h:own[i]? with
    | none=>rw[h] at hx;cases hx
    | some b=>rw[h] at hx;cases hx;exact⟨by exact Nat.add_comm _ _,rfl⟩
   obtain⟨rfl,hk⟩:=hmk
   have hm:m<own.length:=(List.getElem?_eq_some_iff.mp hk).1
   have hk':k<acts.length:=ho1 k (List.mem_of_getElem? hk)
   have hce:(acts[k]).cause=cOf acts k:=by unfold cOf;rw[List.getElem?_eq_getElem hk'];rfl
   refine rS (st_for (xs:=cOf acts k) (enc:=fun g=>[D.int (g:Nat)]) (It.map2 (it_list (Ex.eq (xs1 (Ex.h (xs1 (Ex.h (xv (by walk_at "m"))) (xv (by walk_at "m")) (iL (d:=(acts[k]).d) (Int.natCast_nonneg _) (Mine.c62 (Nat.le_of_lt (Nat.lt_of_lt_of_le hk' (Nat.le_trans ha (by decide))))) (act_at hk')))) xi (idx_tuple (d:=nD (acts[k]).cause) (by decide) (by decide) rfl)) (by rw[hce])))) (fun t:Tab=>[("k",.imm (.int (k:Nat))),("n",.imm (.int (m:Nat))),("table",.mdS a t.1 (t.2.map .int)),("known",.imm (zD known)),("own",.imm (.list (own.map fun k=>.int (k:Nat)))),("acts",.imm (actsD acts)),("pasts",.imm (.list (pasts.map nD))),("worth",.imm (zD worth)),("hand",.imm (.int hand))])
    t (fun t g=>t.put (letter (hOf acts g)) (t.at (letter (hOf acts g))+wAt known (m+1)-wAt known m-wAt worth k)) (List.Sublist.refl _) (fun t g hg=>.name (by decide +kernel) (by kernel_rfl)) (fun j g hj=>?_) (by intro _ _;rfl)) (run_nil' ?_)
   ·have hg2:Good (8*m+j) (List.foldl (fun(t:Tab) g=>t.put (letter (hOf acts g)) (t.at (letter (hOf acts g))+wAt known (m+1)-wAt known m-wAt worth k)) t (List.take j (cOf acts k))):=
     (Good.fold (c:=1) (fun m t x h=>h.put) (List.take j (cOf acts k)) hg).mono (by rw[Nat.one_mul];exact Nat.add_le_add_left (List.length_take_le j _) _)
    generalize List.foldl (fun(t:Tab) g=>t.put (letter (hOf acts g)) (t.at (letter (hOf acts g))+wAt known (m+1)-wAt known m-wAt worth k)) t (List.take j (cOf acts k))=u at hg2
    have hgm:=List.mem_of_getElem? hj
    have hjl:=(List.getElem?_eq_some_iff.mp hj).1
    have hg':g<acts.length:=(hcause k).2 g hgm
    obtain⟨c1,c2,c3,c4⟩:=hc (acts[g]) (List.getElem_mem hg')
    have hh:hOf acts g=(acts[g]).hand:=by unfold hOf;rw[List.getElem?_eq_getElem hg'];rfl
    have hlen:(u.2.map D.int).length≤4096:=by rw[List.length_map];have:=hg2.2;have:=(hcause k).1;lia
    refine rS (sA (d:=.str (letter (hOf acts g))) (xs1 (Ex.h ex_str) (xs1 (Ex.h (xs1 (Ex.h (xv (by walk_at "m"))) (xv (by walk_at "m")) (iL (d:=(acts[g]).d) (Int.natCast_nonneg _) (Mine.c62 (Nat.le_of_lt (Nat.lt_of_lt_of_le hg' (Nat.le_trans ha (by decide))))) (act_at hg')))) xi (idx_tuple (d:=.int (acts[g]).hand) (by decide) (by decide) rfl)) (by rw[hh];exact idx_str c3 (Int.lt_of_lt_of_le c4 (by decide)) (letter_at c3 c4))) (Drop.same rfl)) ?_
    refine rS (st_setS (xb (xb (xb (ex_meth (a:=.dictS u.1 (u.2.map .int)) (exh_mdS (by walk_at "m")) (.cons (xv (by walk_at "m")) (.cons xi .nil rfl) rfl) id_get (m_get (d:=.int (u.at (letter (hOf acts g)))) ?_)) (xs1 (Ex.h (xv (by walk_at "m"))) (xb (xv (by walk_at "m")) xi o_add_int) (iL (d:=.int (wAt known (m+1))) (Int.add_nonneg (Int.natCast_nonneg _) (by decide)) (by lia) ?_)) o_add_int) (xs1 (Ex.h (xv (by walk_at "m"))) (xv (by walk_at "m")) (iL (Int.natCast_nonneg _) (Mine.c62 (Nat.le_of_lt (Nat.lt_of_lt_of_le hm (Nat.le_trans ho2 (Nat.le_trans ha (by decide)))))) (w_at (Nat.lt_of_lt_of_le hm (Nat.le_of_succ_le (Nat.le_of_eq hkl.symm)))))) o_sub_int) (xs1 (Ex.h (xv (by walk_at "m"))) (xv (by walk_at "m")) (iL (Int.natCast_nonneg _) (Mine.c62 (Nat.le_of_lt (Nat.lt_of_lt_of_le hk' (Nat.le_trans ha (by decide))))) (w_at (Nat.lt_of_lt_of_eq hk' hw.symm)))) o_sub_int) (xv (by walk_at "m")) (by walk_at "u") hlen) (run_nil' ?_)
    ·by_cases hin:letter (hOf acts g)∈u.1
     ·exact .inl ⟨_,Tab.at_get hg2.1 hin⟩
     ·exact .inr ⟨hin,by rw[at_none hg2.1 hin]⟩
    ·have:((m:Int)+1).toNat=((m+1:Nat):Int).toNat:=rfl
     rw[this]
     exact w_at (Nat.lt_of_lt_of_eq (Nat.lt_succ_of_le (Nat.succ_le_of_lt hm)) hkl.symm)
    ·simp only[Tab.put,putV_map]
     exact(by walk_at "s")
   ·simp only[rowB]
    exact(by walk_at "s")
  ·have hT:(own.zipIdx 0).foldl (fun t p=>rowB acts worth known t p.2 p.1) ([],[])=tableB acts worth known own:=rfl
   rw[hT]
   refine run_freezeS (ks:=(tableB acts worth known own).1) (ds:=(tableB acts worth known own).2.map .int) (by walk_at "u") ?_
   have hce:∀k (h:k<acts.length),(acts[k]).cause=cOf acts k:=fun k h=>by unfold cOf;rw[List.getElem?_eq_getElem h];rfl
   refine rS (sA (d:=.int (takesF acts own:Nat)) (Ex.eq (ex_len G (ex_of_nw (lc1 (xs:=own) (enc:=fun k=>[D.int (k:Nat)]) (ok:=fun k=>decide (cOf acts k≠[])) (f:=fun k=>.int (k:Nat)) (Keep.same rfl) (It.map2 (it_list (xv (by walk_at "m")))) (fun k hk=>.name (by decide +kernel) (by kernel_rfl)) (fun k hk=>?_) (fun k hk J=>(xv (by walk_at "m"))) (Nat.le_trans ho2 (Nat.le_trans ha (by decide))))) ?_) ?_) (Drop.same rfl)) ?_
   ·have hk':=ho1 k hk
    refine Tr.eq (tC (Ex.eq (xs1 (Ex.h (xs1 (Ex.h (xv (by walk_at "m"))) (xv (by walk_at "m")) (iL (d:=(acts[k]).d) (Int.natCast_nonneg _) (Mine.c62 (Nat.le_of_lt (Nat.lt_of_lt_of_le hk' (Nat.le_trans ha (by decide))))) (act_at hk')))) xi (idx_tuple (d:=nD (acts[k]).cause) (by decide) (by decide) rfl)) natsD_ints) (ex_list .nil) (o_ne_ints (ys:=[]))) ?_
    rw[hce k hk',← decide_not]
    refine decide_eq_decide.mpr ?_
    simp
   ·rw[List.length_map]
    have:=List.length_filter_le (fun k=>decide (cOf acts k≠[])) own
    exact Nat.le_trans this (Nat.le_trans ho2 (Nat.le_trans ha (by decide)))
   ·unfold takesF
    rw[List.length_map]
   ·have hb:bookD acts pasts worth hand=.tuple [.int (own.length:Nat),.int (takesF acts own:Nat),.int (wAt known (known.length-1)),.int (wAt known (known.length-1)-sumW worth own),(tableB acts worth known own).d]:=by
     unfold bookD;rw[hO];dsimp only;rw[hK]
    rw[hb]
    have hlast:(known.map D.int)[(((-1:Int))+((known.map D.int).length:Nat)).toNat]?=some (.int (wAt known (known.length-1))):=by
     rw[List.length_map]
     have:((-1:Int)+(known.length:Nat)).toNat=((known.length-1:Nat):Int).toNat:=by rw[hkl,neg1];rfl
     rw[this]
     exact w_at (Nat.sub_lt (by rw[hkl];exact Nat.succ_pos _) Nat.one_pos)
    refine run_ret (ex_tuple (.cons (Ex.eq (ex_len G (xv (by walk_at "m")) (by rw[List.length_map];exact Nat.le_trans ho2 (Nat.le_trans ha (by decide)))) (by rw[List.length_map])) (.cons (xv (by walk_at "m")) (.cons (xs1 (Ex.h (xv (by walk_at "m"))) (ex_un xi o_neg_int) (idx_list_neg (by decide) (by rw[List.length_map];lia) (by rw[List.length_map];lia) hlast)) (.cons (xb (xs1 (Ex.h (xv (by walk_at "m"))) (ex_un xi o_neg_int) (idx_list_neg (by decide) (by rw[List.length_map];lia) (by rw[List.length_map];lia) hlast))
     (ex_sum G (Ex.eq (ex_of_nw (lc1 (xs:=own) (enc:=fun k=>[D.int (k:Nat)]) (ok:=fun J=>true) (f:=fun k=>.int (wAt worth k)) (Keep.same rfl) (It.map2 (it_list (xv (by walk_at "m")))) (fun j hj=>.name (by decide +kernel) (by kernel_rfl)) (fun j hj=>rfl)
      (fun j hj J=>xs1 (Ex.h (xv (by walk_at "m"))) (xv (by walk_at "m")) (iL (Int.natCast_nonneg _) (by have:=ho1 j hj;exact Mine.c62 (Nat.le_of_lt (Nat.lt_of_lt_of_le this (Nat.le_trans ha (by decide))))) (w_at (by have:=ho1 j hj;exact Nat.lt_of_lt_of_eq this hw.symm)))) (Nat.le_trans ho2 (Nat.le_trans ha (by decide))))) (by rw[List.filter_eq_self.mpr fun J J=>rfl];unfold zD;rw[List.map_map];rfl))) o_sub_int) (.cons (xv (by walk_at "m")) .nil rfl) rfl) rfl) rfl) rfl))
end
end
section
noncomputable abbrev wayR (p:Int×Nat):List D:=[.int p.1,.int (p.2:Nat)]
noncomputable abbrev wayD (l:List (Int×Nat)):D:=.list ((l.map wayR).map .tuple)
noncomputable def endOf (r:Int):Str:=if r=0 then ⟨#[10]⟩ else if r=1 then ⟨#[13]⟩ else ⟨#[13,10]⟩
noncomputable def mineF (way:List (Int×Nat)) (hand:Int):List Nat:=(way.filter fun p=>decide (p.1=hand)).map (·.2)
noncomputable def causeF (cell:Int) (mine:List Nat):List Nat:=if cell.fmod 3=2∧mine≠[] then [(mine[((cell.fdiv 9).fmod mine.length).toNat]?).getD 0] else []
noncomputable def wayF (cell:Int) (i:Nat) (way:List (Int×Nat)) (cause:List Nat):List (Int×Nat):=
 let w:=way.filter fun p=>decide (p.2∉cause)
 if cell.fmod 3=1 then w++[((((cell.fdiv 3).fmod 3+1+(cell.fdiv 9).fmod 2).fmod 3),i)] else w
noncomputable def actF (cell:Int) (way:List (Int×Nat)):Act:=⟨(cell.fdiv 3).fmod 3,causeF cell (mineF way ((cell.fdiv 3).fmod 3)),endOf ((cell.fdiv 9).fmod 3)⟩
noncomputable def actStep (st:List Act×List (Int×Nat)) (p:Int×Nat):List Act×List (Int×Nat):=
 (st.1++[actF p.1 st.2],wayF p.1 p.2 st.2 (actF p.1 st.2).cause)
noncomputable def aOf (cells:List Int):List Act:=((cells.zipIdx 0).foldl actStep ([],[])).1
theorem act_len (l:List (Int×Nat)):∀(st:List Act×List (Int×Nat)),(l.foldl actStep st).1.length=st.1.length+l.length∧(l.foldl actStep st).2.length≤st.2.length+l.length:=by
 induction l with
 | nil=>intro st;simp
 | cons p l ih=>
  intro st
  obtain⟨h1,h2⟩:=ih (actStep st p)
  rw[List.foldl_cons]
  have h3:(actStep st p).1.length=st.1.length+1:=by unfold actStep;simp
  have h4:(actStep st p).2.length≤st.2.length+1:=by
   unfold actStep wayF
   have:=List.length_filter_le (fun q:Int×Nat=>decide (q.2∉(actF p.1 st.2).cause)) st.2
   dsimp only
   split
   ·rw[List.length_append];simp only[List.length_singleton];exact Nat.succ_le_succ this
   ·exact Nat.le_succ_of_le this
  rw[List.length_cons]
  exact⟨h1.trans (by rw[h3];exact Nat.add_right_comm _ 1 _),Nat.le_trans h2 (Nat.le_trans (Nat.add_le_add_right h4 _) (Nat.le_of_eq (Nat.add_right_comm _ 1 _)))⟩
theorem fmod_range (a:Int) {b:Int}(h:0<b):0≤a.fmod b∧a.fmod b<b:=⟨Int.fmod_nonneg_of_pos a h,Int.fmod_lt_of_pos a h⟩
section
variable {C:Cx}{n:Nat}{sc csc:Scope}{Γ Γc:Gm}{e:Expr}{cm tup:Bool}
theorem swap2 {ts:List Expr}{v:Expr}{r:Sem (Option (List Str))}(h:swappedStores ts v { (default:Env) with scope:=sc }=r):∀env,gE sc env→swappedStores ts v env=r:=fun env hE=>by
 have e:swappedStores ts v env=swappedStores ts v { (default:Env) with scope:=env.scope }:=rfl
 rw[e,hE.scope];exact h
theorem Run.perm {Γ':Gm}{body:List Stmt}{o:Out}(h:Run C n sc Γ' body o) (hp:Γ'.Perm Γ):Run C n sc Γ body o:=fun env A F s ex exg hE hR X=>h env A F s ex exg hE hR
 ⟨X.ok,X.eok.sub fun p q=>hp.subset q,X.wf,X.lo,fun p q=>X.own p (hp.subset q),(hp.pairwise_iff fun {x y} h a ha hb=>h a hb ha).mpr X.apart,X.base,X.gbase⟩
theorem run_cmo {rest:List Stmt}{o:Out}{Γ':Gm}{x:Str}{p pos cp:Pos}{elt:Expr}{gens:List Comprehension}{ds ds':List D}(h:Cm C n sc Γ (.ListComp elt gens csc cp) (XL C ds)) (e':ds=ds') (hd:Drop x Γ Γ') (kk:∀a,Run C n sc ((x,.ml a ds')::Γ') rest o)
  (h1:autoParam (sc.kind=.function) kr) (h2:autoParam (sc.names.lookup x=some .local) kr) (h3:autoParam ((p.line==cp.line&&!(csc.names.any fun q=>q.1==x&&(q.2==.local||q.2==.cell)))=true) kr) (hst:autoParam (sto sc x=true) kr):Run C n sc Γ (.Assign [.Name x p] (.ListComp elt gens csc cp) pos::rest) o:=by
 subst e'
 exact run_cmL h hd kk (swaps_comp h1 h2 h3) hst
theorem end_at (r:Int) (h:0≤r∧r<3):([D.str ⟨#[10]⟩,D.str ⟨#[13]⟩,D.str ⟨#[13,10]⟩]:List D)[r.toNat]?=some (.str (endOf r)):=by
 have:=three h
 rcases this with rfl | rfl | rfl <;> rfl
theorem t_law_acts (G:Gl C) {cells:List Int}(hl:cells.length≤64):Run C n (fnT 22).scope [("cells",.imm (zD cells))] (fnT 22).body (.ret (actsD (aOf cells))):=by
 refine run_two (Drop.same rfl) (by kernel_rfl) (by kernel_rfl) (fun a=>?_) (swap2 (by kernel_rfl))
 have hlen:=fun i=>act_len ((cells.zipIdx 0).take i) ([],[])
 refine Run.perm (Γ':=[("way",.imm (.list [])),("acts",.ml a []),("cells",.imm (zD cells))]) ?_ (.swap ..)
 refine rS (st_for (it_enumM G (f:=D.int) (l:=cells) (xv (by walk_at "m"))) (fun st:List Act×List (Int×Nat)=>[("way",.imm (wayD st.2)),("acts",.ml a (st.1.map Act.d)),("cells",.imm (zD cells))]) ([],[]) actStep (List.Sublist.refl _) (fun st p hp=>bt2 (by decide +kernel) (by kernel_rfl) (by kernel_rfl)) (fun i x hx=>?_) (by intro _ _;rfl)) ?_
 ·obtain⟨h1,h2⟩:=hlen i
  generalize List.foldl actStep ([],[]) (List.take i (cells.zipIdx 0))=st at h1 h2
  obtain⟨acts,way⟩:=st
  obtain⟨cell,m⟩:=x
  have hmi:m=i∧i<cells.length:=by
   rw[List.getElem?_zipIdx] at hx
   cases h:cells[i]? with
   | none=>rw[h] at hx;cases hx
   | some b=>rw[h] at hx;cases hx;exact⟨by exact Nat.add_comm _ _,(List.getElem?_eq_some_iff.mp h).1⟩
  obtain⟨rfl,hm⟩:=hmi
  have htl:=List.length_take_le m (cells.zipIdx 0)
  have ha:acts.length≤64:=by simp at h1;rw[h1];exact Nat.le_trans (Nat.min_le_right _ _) ‹cells.length≤64›
  have hw:way.length≤64:=by simp at h2;exact Nat.le_trans h2 (Nat.le_trans (Nat.min_le_right _ _) hl)
  have r3:=fmod_range (cell.fdiv 3) (b:=3) (by decide)
  have r9:=fmod_range (cell.fdiv 9) (b:=3) (by decide)
  generalize hA:actF cell way=act
  have hact1:act.hand=(cell.fdiv 3).fmod 3:=by rw[← hA];rfl
  have hact2:act.cause=causeF cell (mineF way act.hand):=by rw[← hA];rfl
  have hact3:act.fin=endOf ((cell.fdiv 9).fmod 3):=by rw[← hA];rfl
  have hst:actStep (acts,way) (cell,m)=(acts++[act],wayF cell m way act.cause):=by unfold actStep;rw[hA]
  rw[hst]
  refine rS (st_tuple (xs:=["hand","rest"]) (ds:=[.int act.hand,.int (cell.fdiv 9)]) (ex_tuple (.cons (by rw[hact1];exact xb (xb (xv (by walk_at "m")) xi (o_fdiv_int (by decide) (by decide))) xi (o_mod_int (by decide))) (.cons (xb (xv (by walk_at "m")) xi (o_fdiv_int (by decide) (by decide))) .nil rfl) rfl)) (by repeat constructor) rfl (List.Sublist.refl _) (by kernel_rfl) (by decide +kernel) (swap2 (by kernel_rfl)) (by intro _;rfl)) ?_
  dsimp only[bindsG]
  have hwr:∀p:Int×Nat→Bool,(way.filter p).length≤64:=fun p=>Nat.le_trans (List.length_filter_le _ _) hw
  refine run_cmc (ds':=(mineF way act.hand).map fun k=>.int (k:Nat)) (lm1 (xs:=way) (enc:=wayR) (ok:=fun p=>decide (p.1=act.hand)) (f:=fun p=>.int (p.2:Nat)) (Keep.same rfl) (it_tuples (xv (by walk_at "m"))) (fun p hp=>bt2 (by decide +kernel) (by kernel_rfl) (by kernel_rfl)) (fun p hp=>Tr.eq (tC (xv (by walk_at "m")) (xv (by walk_at "m")) o_eq_int) (Bool.eq_iff_iff.mpr (by simp))) (fun p hp J=>(xv (by walk_at "m"))) (Nat.le_trans hw (by decide))) (by unfold mineF;rw[List.map_map];rfl) (Drop.same rfl) ?_
  have hml:(mineF way act.hand).length≤64:=by unfold mineF;rw[List.length_map];exact hwr _
  refine rS (sA (d:=nD act.cause) (ex_if (c:=decide (cell.fmod 3=2∧mineF way act.hand≠[])) (Tr.eq (tr_and (tC (xb (xv (by walk_at "m")) xi (o_mod_int (by decide))) xi o_eq_int) fun J=>tC (Ex.eq (xv (by walk_at "m")) natsD_ints) (ex_list .nil) (o_ne_ints (ys:=[]))) ?_) (fun hc=>?_) fun hc=>?_) (Drop.same rfl)) ?_
  ·refine Bool.eq_iff_iff.mpr ?_
   simp
  ·have hc':cell.fmod 3=2∧mineF way act.hand≠[]:=by simpa using hc
   have hpos:0<(mineF way act.hand).length:=List.length_pos_iff.mpr hc'.2
   have hr:=fmod_range (cell.fdiv 9) (b:=((mineF way act.hand).length:Nat)) (Int.ofNat_lt.mpr ‹0<(mineF way act.hand).length›)
   have hlt:((cell.fdiv 9).fmod ((mineF way act.hand).length:Nat)).toNat<(mineF way act.hand).length:=(Int.toNat_lt hr.1).mpr hr.2
   rw[hact2,causeF,if_pos hc']
   refine ex_list (.cons (xs1 (Ex.h (xv (by walk_at "m"))) (xb (xv (by walk_at "m")) (ex_len G (xv (by walk_at "m")) (by rw[List.length_map];exact Nat.le_trans hml (by decide))) (o_mod_int (by rw[List.length_map];lia))) (iL (by rw[List.length_map];exact hr.1) (by rw[List.length_map];exact Int.lt_trans hr.2 (Mine.c62 (Nat.le_trans hml (by decide)))) ?_)) .nil rfl)
   rw[List.length_map,List.getElem?_map,List.getElem?_eq_getElem hlt];rfl
  ·have hc':¬(cell.fmod 3=2∧mineF way act.hand≠[]):=by simpa using hc
   rw[hact2,causeF,if_neg hc']
   exact ex_list .nil
  refine run_cmo (ds':=(way.filter fun p=>decide (p.2∉act.cause)).map fun p=>.tuple (wayR p)) (lm1 (xs:=way) (enc:=fun p=>[D.tuple (wayR p)]) (ok:=fun p=>decide (p.2∉act.cause)) (f:=fun p=>.tuple (wayR p)) (Keep.same rfl) (It.map2 (it_list (Ex.eq (xv (by walk_at "m")) (by rw[wayD,List.map_map];rfl)))) (fun p hp=>.name (by decide +kernel) (by kernel_rfl))
   (fun p hp=>Tr.eq (tC (xs1 (Ex.h (xv (by walk_at "m"))) xi (idx_tuple (d:=.int (p.2:Nat)) (by decide) (by decide) rfl)) (Ex.eq (xv (by walk_at "m")) natsD_ints) o_notin_ints) (by rw[← decide_not];exact decide_eq_decide.mpr (not_congr mem_nats))) (fun p hp J=>(xv (by walk_at "m"))) (Nat.le_trans hw (by decide))) rfl (by walk_at "d") fun b=>?_
  have hwf:((wayF cell m way act.cause).map fun p=>D.tuple (wayR p))=if cell.fmod 3=1 then ((way.filter fun p=>decide (p.2∉act.cause)).map fun p=>D.tuple (wayR p))++[D.tuple [.int ((act.hand+1+(cell.fdiv 9).fmod 2).fmod 3),.int (m:Nat)]] else (way.filter fun p=>decide (p.2∉act.cause)).map fun p=>D.tuple (wayR p):=by
   unfold wayF
   rw[hact1]
   dsimp only
   split <;> simp
  refine rS (Γ':=[("way",.ml b ((wayF cell m way act.cause).map fun p=>D.tuple (wayR p))),("cause",.imm (nD act.cause)),("rest",.imm (.int (cell.fdiv 9))),("hand",.imm (.int act.hand)),("number",.imm (.int (m:Nat))),("acts",.ml a (acts.map Act.d)),("cells",.imm (zD cells))])
   (st_if (tC (xb (xv (by walk_at "m")) xi (o_mod_int (by decide))) xi o_eq_int) (fun hc=>?_) fun hc=>?_) ?_
  ·have hc':cell.fmod 3=1:=by simpa using hc
   rw[hwf,if_pos hc']
   refine rS (st_append (ex_tuple (.cons (xb (xb (xb (xv (by walk_at "m")) xi o_add_int) (xb (xv (by walk_at "m")) xi (o_mod_int (by decide))) o_add_int) xi (o_mod_int (by decide))) (.cons (xv (by walk_at "m")) .nil rfl) rfl)) (by walk_at "u") (by rw[List.length_map];have:=hwr fun p=>decide (p.2∉act.cause);exact Nat.le_trans this (by decide))) (run_nil' (by walk_at "s"))
  ·have hc':¬cell.fmod 3=1:=by simpa using hc
   rw[hwf,if_neg hc']
   exact run_nil' (by walk_at "s")
  refine run_freezeL (by walk_at "u") ?_
  refine rS (st_append (d:=act.d) (ex_tuple (.cons (xv (by walk_at "m")) (.cons (xv (by walk_at "m")) (.cons (by rw[hact3];exact xs1 (Ex.h (ex_list (.cons ex_str (.cons ex_str (.cons ex_str .nil rfl) rfl) rfl))) (xb (xv (by walk_at "m")) xi (o_mod_int (by decide))) (iL r9.1 (Int.lt_of_lt_of_le r9.2 (by decide)) (end_at _ r9))) .nil rfl) rfl) rfl)) (by walk_at "u") (by rw[List.length_map];exact Nat.le_trans ha (by decide))) (run_nil' ?_)
  have e1:wayD (wayF cell m way act.cause)=.list ((wayF cell m way act.cause).map fun p=>D.tuple (wayR p)):=by rw[wayD,List.map_map];rfl
  have e2:(acts++[act]).map Act.d=acts.map Act.d++[act.d]:=by simp
  show List.Sublist [(_,Slot.imm (wayD (wayF cell m way act.cause))),(_,Slot.ml a ((acts++[act]).map Act.d)),_] _
  rw[e2,e1]
  exact(by walk_at "s")
 ·have e:aOf cells=(List.foldl actStep ([],[]) (cells.zipIdx 0)).1:=rfl
  rw[e]
  generalize (List.foldl actStep ([],[]) (cells.zipIdx 0))=st
  refine run_freezeL (by walk_at "u") ?_
  exact run_ret (xv (by walk_at "m"))
end
end
section
noncomputable abbrev IsTri (h:Heap) (T:Addr) (a b c:Value):Prop:=h.get? T=some { cls:=.type "tuple",data:=.seq #[a,b,c] }
section
variable {prog:Program}{w:World}{A:Around}{E:Value→Shared→Prop}{s:Shared}
theorem updateSeq_tri {T:Addr}{a b c x:Value}{k:Nat}{Q:Unit→Shared→Prop}(hT:IsTri s.heap T a b c)
  (h:∀h',h'.get? T=some { cls:=.type "tuple",data:=.seq ((#[a,b,c]:Array Value).setIfInBounds k x) }→Heap.SameBut T s.heap h'→Q () { s with heap:=h' }) :
  wpAny (model prog w) A (updateSeq T (·.setIfInBounds k x)) Q E s:=by
 refine wpAny_updateSeq hT rfl (h _ ?_ (Heap.SameBut.update ..))
 rw[Heap.get?_update_self _ hT rfl]
 simp[Obj.mapSeq]
theorem zip3_item {Z l1 l2 l3:Nat}{k:Nat}{xs ys zs:Array Value}{x y v a b c:Value}{Q:Value→Shared→Prop}(h1:l1<Z) (h2:l2<Z) (h3:l3<Z)
  (hz:IsZip s.heap (Z+5) (Z+3) (Z+4) .none) (hTI:IsTri s.heap (Z+3) (.ref Z) (.ref (Z+1)) (.ref (Z+2))) (hTO:IsTri s.heap (Z+4) a b c)
  (g1:s.heap.IsListIter Z l1 k) (g2:s.heap.IsListIter (Z+1) l2 k) (g3:s.heap.IsListIter (Z+2) l3 k) (hl1:s.heap.IsList l1 xs) (hl2:s.heap.IsList l2 ys) (hl3:s.heap.IsList l3 zs) (hx:xs[k]?=some x) (hy:ys[k]?=some y) (hv:zs[k]?=some v)
  (hQ:∀h',IsZip h' (Z+5) (Z+3) (Z+4) (rawInt s.heap.objs.size)→IsTri h' (Z+4) x y v→h'.IsListIter Z l1 (k+1)→h'.IsListIter (Z+1) l2 (k+1)→h'.IsListIter (Z+2) l3 (k+1)→IsTri h' s.heap.objs.size x y v→h'.objs.size=s.heap.objs.size+1 →
   (∀c o,c≠Z+5→c≠Z+4→c≠Z→c≠Z+1→c≠Z+2→s.heap.get? c=some o→h'.get? c=some o)→Q (.ref s.heap.objs.size) { s with heap:=h' }) :
  wpAny (model prog w) A (Builtin.«zip.__next__» ⟨[.ref (Z+5)],[]⟩) (fun fin s'=>∃v,fin=.done (.ret v)∧Q v s') E s:=by
 show wpAny _ _ (field (.ref (Z+5)) 2>>=_) _ _ _
 refine wpAny_bind (wpAny_field hz rfl (x:=.bool false) rfl ?_)
 show wpAny _ _ (field (.ref (Z+5)) 3>>=_) _ _ _
 refine wpAny_bind (wpAny_field hz rfl (x:=.ref (Z+3)) rfl ?_)
 refine wpAny_bind (wpAny_seqItems hTI rfl ?_)
 show wpAny _ _ (Builtin.SmallTypes.ownedTupleIsFree (.ref (Z+5))>>=_) _ _ _
 refine wpAny_bind ?_
 unfold Builtin.SmallTypes.ownedTupleIsFree
 refine wpAny_bind (wpAny_field hz rfl (x:=.none) rfl (wpAny_pure ?_))
 simp only[if_true]
 refine wpAny_bind (wpAny_rule ?_)
 refine wpAny_bind (wpAny_field hz rfl (x:=.ref (Z+4)) rfl ?_)
 refine wpAny_bind (wpAny_setField_rec hz (by simp) fun h₁ hz₁ hs₁=>?_)
 replace hz₁:IsZip h₁ (Z+5) (Z+3) (Z+4) .ellipsis:=hz₁
 refine wpAny_bind ?_
 simp only[List.zipIdx_cons,List.zipIdx_nil,List.forIn_cons,List.forIn_nil]
 refine wpAny_bind (wpAny_bind (wpAny_onRaise ?_))
 show wpAny _ _ (Builtin.SmallTypes.nextOf (.ref Z)>>=_) _ _ _
 refine wpAny_bind (wpAny_nextOf_list_item (g1.extBut hs₁.extBut (fun(q:@Eq Nat _ _)=>by lia)) (hl1.extBut hs₁.extBut (fun(q:@Eq Nat _ _)=>by exact Nat.not_lt_of_le (Nat.le_trans (Nat.le_add_right _ _) (Nat.le_of_eq q.symm)) h1)) hx fun h₂ g1₂ hs₂=>wpAny_pure ?_)
 have hTO₂:IsTri h₂ (Z+4) a b c:=hs₂.extBut _ _ (fun(q:@Eq Nat _ _)=>by lia) (hs₁.extBut _ _ (fun(q:@Eq Nat _ _)=>by exact absurd (Nat.add_left_cancel q) (by decide)) hTO)
 refine wpAny_bind (wpAny_seqItems hTO₂ rfl ?_)
 refine wpAny_bind (updateSeq_tri hTO₂ fun h₃ hTO₃ hs₃=>?_)
 replace hTO₃:IsTri h₃ (Z+4) x b c:=hTO₃
 refine wpAny_bind (wpAny_letGo (wpAny_pure ?_))
 refine wpAny_bind (wpAny_bind (wpAny_onRaise ?_))
 show wpAny _ _ (Builtin.SmallTypes.nextOf (.ref (Z+1))>>=_) _ _ _
 refine wpAny_bind (wpAny_nextOf_list_item (((g2.extBut hs₁.extBut (fun(q:@Eq Nat _ _)=>by exact absurd (Nat.add_left_cancel q) (by decide))).extBut hs₂.extBut (fun(q:@Eq Nat _ _)=>by lia)).extBut hs₃.extBut (fun(q:@Eq Nat _ _)=>by exact absurd (Nat.add_left_cancel q) (by decide))) (((hl2.extBut hs₁.extBut (fun(q:@Eq Nat _ _)=>by exact Nat.not_lt_of_le (Nat.le_trans (Nat.le_add_right _ _) (Nat.le_of_eq q.symm)) h2)).extBut hs₂.extBut (fun(q:@Eq Nat _ _)=>by exact Nat.not_lt_of_le (Nat.le_of_eq q.symm) h2)).extBut hs₃.extBut (fun(q:@Eq Nat _ _)=>by exact Nat.not_lt_of_le (Nat.le_trans (Nat.le_add_right _ _) (Nat.le_of_eq q.symm)) h2)) hy fun h₄ g2₄ hs₄=>wpAny_pure ?_)
 have hTO₄:IsTri h₄ (Z+4) x b c:=hs₄.extBut _ _ (fun(q:@Eq Nat _ _)=>by exact absurd (Nat.add_left_cancel q) (by decide)) hTO₃
 refine wpAny_bind (wpAny_seqItems hTO₄ rfl ?_)
 refine wpAny_bind (updateSeq_tri hTO₄ fun h₅ hTO₅ hs₅=>?_)
 replace hTO₅:IsTri h₅ (Z+4) x y c:=hTO₅
 refine wpAny_bind (wpAny_letGo (wpAny_pure ?_))
 refine wpAny_bind (wpAny_bind (wpAny_onRaise ?_))
 show wpAny _ _ (Builtin.SmallTypes.nextOf (.ref (Z+2))>>=_) _ _ _
 refine wpAny_bind (wpAny_nextOf_list_item (((((g3.extBut hs₁.extBut (fun(q:@Eq Nat _ _)=>by exact absurd (Nat.add_left_cancel q) (by decide))).extBut hs₂.extBut (fun(q:@Eq Nat _ _)=>by lia)).extBut hs₃.extBut (fun(q:@Eq Nat _ _)=>by exact absurd (Nat.add_left_cancel q) (by decide))).extBut hs₄.extBut (fun(q:@Eq Nat _ _)=>by exact absurd (Nat.add_left_cancel q) (by decide))).extBut hs₅.extBut (fun(q:@Eq Nat _ _)=>by exact absurd (Nat.add_left_cancel q) (by decide))) (((((hl3.extBut hs₁.extBut (fun(q:@Eq Nat _ _)=>by exact Nat.not_lt_of_le (Nat.le_trans (Nat.le_add_right _ _) (Nat.le_of_eq q.symm)) h3)).extBut hs₂.extBut (fun(q:@Eq Nat _ _)=>by exact Nat.not_lt_of_le (Nat.le_of_eq q.symm) h3)).extBut hs₃.extBut (fun(q:@Eq Nat _ _)=>by exact Nat.not_lt_of_le (Nat.le_trans (Nat.le_add_right _ _) (Nat.le_of_eq q.symm)) h3)).extBut hs₄.extBut (fun(q:@Eq Nat _ _)=>by exact Nat.not_lt_of_le (Nat.le_of_succ_le (Nat.le_of_eq q.symm)) h3)).extBut hs₅.extBut (fun(q:@Eq Nat _ _)=>by exact Nat.not_lt_of_le (Nat.le_trans (Nat.le_add_right _ _) (Nat.le_of_eq q.symm)) h3)) hv fun h₆ g3₆ hs₆=>wpAny_pure ?_)
 have hTO₆:IsTri h₆ (Z+4) x y c:=hs₆.extBut _ _ (fun(q:@Eq Nat _ _)=>by exact absurd (Nat.add_left_cancel q) (by decide)) hTO₅
 refine wpAny_bind (wpAny_seqItems hTO₆ rfl ?_)
 refine wpAny_bind (updateSeq_tri hTO₆ fun h₇ hTO₇ hs₇=>?_)
 replace hTO₇:IsTri h₇ (Z+4) x y v:=hTO₇
 refine wpAny_bind (wpAny_letGo (wpAny_pure (wpAny_pure ?_)))
 refine wpAny_bind (wpAny_seqItems hTO₇ rfl ?_)
 refine wpAny_bind (wpAny_newTuple ?_)
 have hsz:h₇.objs.size=s.heap.objs.size:=by rw[hs₇.1,hs₆.1,hs₅.1,hs₄.1,hs₃.1,hs₂.1,hs₁.1]
 have hz₇:IsZip h₇ (Z+5) (Z+3) (Z+4) .ellipsis:=hs₇.extBut _ _ (fun(q:@Eq Nat _ _)=>by exact absurd (Nat.add_left_cancel q) (by decide)) (hs₆.extBut _ _ (fun(q:@Eq Nat _ _)=>by exact absurd (Nat.add_left_cancel q) (by decide)) (hs₅.extBut _ _ (fun(q:@Eq Nat _ _)=>by exact absurd (Nat.add_left_cancel q) (by decide)) (hs₄.extBut _ _ (fun(q:@Eq Nat _ _)=>by exact absurd (Nat.add_left_cancel q) (by decide)) (hs₃.extBut _ _ (fun(q:@Eq Nat _ _)=>by exact absurd (Nat.add_left_cancel q) (by decide)) (hs₂.extBut _ _ (fun(q:@Eq Nat _ _)=>by lia) hz₁)))))
 have hk₇:∀c o,c≠Z+5→c≠Z+4→c≠Z→c≠Z+1→c≠Z+2→s.heap.get? c=some o→h₇.get? c=some o:=fun c o c1 c2 c3 c4 c5 e=>
  hs₇.extBut _ _ c2 (hs₆.extBut _ _ c5 (hs₅.extBut _ _ c2 (hs₄.extBut _ _ c4 (hs₃.extBut _ _ c2 (hs₂.extBut _ _ c3 (hs₁.extBut _ _ c1 e))))))
 have g1₇:h₇.IsListIter Z l1 (k+1):=(((((g1₂.extBut hs₃.extBut (fun(q:@Eq Nat _ _)=>by lia)).extBut hs₄.extBut (fun(q:@Eq Nat _ _)=>by lia)).extBut hs₅.extBut (fun(q:@Eq Nat _ _)=>by lia)).extBut hs₆.extBut (fun(q:@Eq Nat _ _)=>by lia)).extBut hs₇.extBut (fun(q:@Eq Nat _ _)=>by lia))
 have g2₇:h₇.IsListIter (Z+1) l2 (k+1):=(((g2₄.extBut hs₅.extBut (fun(q:@Eq Nat _ _)=>by exact absurd (Nat.add_left_cancel q) (by decide))).extBut hs₆.extBut (fun(q:@Eq Nat _ _)=>by exact absurd (Nat.add_left_cancel q) (by decide))).extBut hs₇.extBut (fun(q:@Eq Nat _ _)=>by exact absurd (Nat.add_left_cancel q) (by decide)))
 have g3₇:h₇.IsListIter (Z+2) l3 (k+1):=g3₆.extBut hs₇.extBut (fun(q:@Eq Nat _ _)=>by exact absurd (Nat.add_left_cancel q) (by decide))
 have hzlt:Z+5<h₇.objs.size:=Heap.lt_size hz₇
 have hzne:∀c:Nat,c≤Z+5→h₇.objs.size≠c:=fun c hc=>by exact Nat.ne_of_gt (Nat.lt_of_le_of_lt hc hzlt)
 show wpAny _ _ (Builtin.SmallTypes.ownedTupleHandOut (.ref (Z+5)) (.ref h₇.objs.size)>>=_) _ _ _
 refine wpAny_bind ?_
 unfold Builtin.SmallTypes.ownedTupleHandOut
 have hz₈:IsZip (h₇.push { cls:=.type "tuple",data:=.seq #[x,y,v] }) (Z+5) (Z+3) (Z+4) .ellipsis:=Heap.get?_push_of_some _ hz₇
 refine wpAny_bind (wpAny_setField_rec hz₈ (by simp) fun h₉ hz₉ hs₉=>?_)
 replace hz₉:IsZip h₉ (Z+5) (Z+3) (Z+4) (rawInt h₇.objs.size):=hz₉
 refine wpAny_setField_rec hz₉ (by simp) fun h₁₀ hz₁₀ hs₁₀=>?_
 replace hz₁₀:IsZip h₁₀ (Z+5) (Z+3) (Z+4) (rawInt h₇.objs.size):=hz₁₀
 have up:∀c o,c≠Z+5→h₇.get? c=some o→h₁₀.get? c=some o:=fun c o c1 e=>hs₁₀.extBut _ _ c1 (hs₉.extBut _ _ c1 (Heap.get?_push_of_some _ e))
 have hT₁₀:IsTri h₁₀ h₇.objs.size x y v:=hs₁₀.extBut _ _ (hzne _ (Nat.le_refl _)) (hs₉.extBut _ _ (hzne _ (Nat.le_refl _)) (Heap.get?_push_size _ rfl))
 have hz10:h₁₀.objs.size=h₇.objs.size+1:=by rw[hs₁₀.1,hs₉.1,Heap.size_push]
 rw[hsz] at hz₁₀ hT₁₀ hz10
 refine wpAny_pure ⟨_,rfl,?_⟩
 show Q (.ref h₇.objs.size) _
 rw[hsz]
 exact hQ h₁₀ hz₁₀ (up _ _ (fun(q:@Eq Nat _ _)=>by exact absurd (Nat.add_left_cancel q) (by decide)) hTO₇) (g1₇.at fun o e=>up _ o (fun(q:@Eq Nat _ _)=>by lia) e) (g2₇.at fun o e=>up _ o (fun(q:@Eq Nat _ _)=>by exact absurd (Nat.add_left_cancel q) (by decide)) e) (g3₇.at fun o e=>up _ o (fun(q:@Eq Nat _ _)=>by exact absurd (Nat.add_left_cancel q) (by decide)) e) hT₁₀ hz10 fun c o c1 c2 c3 c4 c5 e=>up c o c1 (hk₇ c o c1 c2 c3 c4 c5 e)
theorem zip3_end {Z l1:Nat}{k:Nat}{xs:Array Value}{a b c:Value}{Q:PySem.Fin→Shared→Prop}(hh:A.handled=none) (h1:l1<Z)
  (hz:IsZip s.heap (Z+5) (Z+3) (Z+4) .none) (hTI:IsTri s.heap (Z+3) (.ref Z) (.ref (Z+1)) (.ref (Z+2))) (hTO:IsTri s.heap (Z+4) a b c)
  (g1:s.heap.IsListIter Z l1 k) (hl1:s.heap.IsList l1 xs) (hx:xs[k]?=none)
  (hE:∀h' e,(∀c o,c≠Z+5→c≠Z→s.heap.get? c=some o→h'.get? c=some o)→(∃o,h'.get? e=some o∧o.cls=.type "StopIteration")→E (.ref e) { s with heap:=h' }) :
  wpAny (model prog w) A (Builtin.«zip.__next__» ⟨[.ref (Z+5)],[]⟩) Q E s:=by
 show wpAny _ _ (field (.ref (Z+5)) 2>>=_) _ _ _
 refine wpAny_bind (wpAny_field hz rfl (x:=.bool false) rfl ?_)
 show wpAny _ _ (field (.ref (Z+5)) 3>>=_) _ _ _
 refine wpAny_bind (wpAny_field hz rfl (x:=.ref (Z+3)) rfl ?_)
 refine wpAny_bind (wpAny_seqItems hTI rfl ?_)
 show wpAny _ _ (Builtin.SmallTypes.ownedTupleIsFree (.ref (Z+5))>>=_) _ _ _
 refine wpAny_bind ?_
 unfold Builtin.SmallTypes.ownedTupleIsFree
 refine wpAny_bind (wpAny_field hz rfl (x:=.none) rfl (wpAny_pure ?_))
 simp only[if_true]
 refine wpAny_bind (wpAny_rule ?_)
 refine wpAny_bind (wpAny_field hz rfl (x:=.ref (Z+4)) rfl ?_)
 refine wpAny_bind (wpAny_setField_rec hz (by simp) fun h₁ hz₁ hs₁=>?_)
 replace hz₁:IsZip h₁ (Z+5) (Z+3) (Z+4) .ellipsis:=hz₁
 refine wpAny_bind ?_
 simp only[List.zipIdx_cons,List.zipIdx_nil,List.forIn_cons,List.forIn_nil]
 refine wpAny_bind (wpAny_bind (wpAny_onRaise ?_))
 show wpAny _ _ (Builtin.SmallTypes.nextOf (.ref Z)>>=_) _ _ _
 refine wpAny_bind (wpAny_nextOf_list_end hh (g1.extBut hs₁.extBut (fun(q:@Eq Nat _ _)=>by lia)) (hl1.extBut hs₁.extBut (fun(q:@Eq Nat _ _)=>by exact Nat.not_lt_of_le (Nat.le_trans (Nat.le_add_right _ _) (Nat.le_of_eq q.symm)) h1)) hx fun h₂ e hs₂ he=>?_)
 obtain⟨oe,hoe,hce⟩:=he
 have hz₂:IsZip h₂ (Z+5) (Z+3) (Z+4) .ellipsis:=hs₂ _ _ (fun(q:@Eq Nat _ _)=>by lia) hz₁
 have hez:e≠Z+5:=fun x=>by subst x;rw[hz₂] at hoe;cases hoe;simp at hce
 exact wpAny_setField_rec hz₂ (by simp) fun h₃ J hs₃=>hE h₃ e (fun c o c1 c3 x=>hs₃.extBut _ _ c1 (hs₂ _ _ c3 (hs₁.extBut _ _ c1 x))) ⟨oe,hs₃.extBut _ _ hez hoe,hce⟩
theorem typeCall_zip_3 (a b c:Value):checkTypeCall "zip" ⟨[a,b,c],[]⟩=pure ():=by kernel_rfl
theorem newCall_zip_3 (a b c:Value):checkBuiltinCall "zip.__new__" ⟨[.type "zip",a,b,c],[]⟩=pure ():=by kernel_rfl
theorem args_object_init_4 (a b c d:Value):argsOk "object.__init__" ⟨[a,b,c,d],[]⟩:=by
 unfold argsOk;rw[signature?_of (id:="object.__init__") (n:=['_','_','t','i','n','i','_','_']) (o:=['t','c','e','j','b','o']) (by kernel_rfl) PySem.F.owner_object];kernel_rfl
theorem next3_item {Z l1 l2 l3:Nat}{k:Nat}{xs ys zs:Array Value}{x y v a b c:Value}{Q:Option Value→Shared→Prop}(h1:l1<Z) (h2:l2<Z) (h3:l3<Z)
  (hz:IsZip s.heap (Z+5) (Z+3) (Z+4) .none) (hTI:IsTri s.heap (Z+3) (.ref Z) (.ref (Z+1)) (.ref (Z+2))) (hTO:IsTri s.heap (Z+4) a b c)
  (g1:s.heap.IsListIter Z l1 k) (g2:s.heap.IsListIter (Z+1) l2 k) (g3:s.heap.IsListIter (Z+2) l3 k) (hl1:s.heap.IsList l1 xs) (hl2:s.heap.IsList l2 ys) (hl3:s.heap.IsList l3 zs) (hx:xs[k]?=some x) (hy:ys[k]?=some y) (hv:zs[k]?=some v)
  (hQ:∀h',IsZip h' (Z+5) (Z+3) (Z+4) (rawInt s.heap.objs.size)→IsTri h' (Z+4) x y v→h'.IsListIter Z l1 (k+1)→h'.IsListIter (Z+1) l2 (k+1)→h'.IsListIter (Z+2) l3 (k+1)→IsTri h' s.heap.objs.size x y v→h'.objs.size=s.heap.objs.size+1 →
   (∀c o,c≠Z+5→c≠Z+4→c≠Z→c≠Z+1→c≠Z+2→s.heap.get? c=some o→h'.get? c=some o)→Q (some (.ref s.heap.objs.size)) { s with heap:=h' }) :
  wpAny (model prog w) A (pyNext (.ref (Z+5))) Q E s:=by
 have hT:s.TypeIs (.ref (Z+5)) "zip":=⟨_,hz,rfl⟩
 unfold pyNext
 exact wpAny_bind (wpAny_attempt (wpAny_callSpecial?_slot (name:=Str.ofString "__next__") hT PySem.F.slot_zip_next
  (wpAny_call_entry PySem.F.slot_zip_next hT PySem.F.entry_zip_next
   (zip3_item h1 h2 h3 hz hTI hTO g1 g2 g3 hl1 hl2 hl3 hx hy hv fun h' a1 a2 a3 a4 a5 a6 a7 a8=>wpAny_pure (hQ h' a1 a2 a3 a4 a5 a6 a7 a8)) (PySem.F.args_zip_next_1 _))))
theorem next3_end {Z l1:Nat}{k:Nat}{xs:Array Value}{a b c:Value}{Q:Option Value→Shared→Prop}(hh:A.handled=none) (h1:l1<Z)
  (hz:IsZip s.heap (Z+5) (Z+3) (Z+4) .none) (hTI:IsTri s.heap (Z+3) (.ref Z) (.ref (Z+1)) (.ref (Z+2))) (hTO:IsTri s.heap (Z+4) a b c)
  (g1:s.heap.IsListIter Z l1 k) (hl1:s.heap.IsList l1 xs) (hx:xs[k]?=none)
  (hQ:∀h',(∀c o,c≠Z+5→c≠Z→s.heap.get? c=some o→h'.get? c=some o)→Q none { s with heap:=h' }):wpAny (model prog w) A (pyNext (.ref (Z+5))) Q E s:=by
 have hT:s.TypeIs (.ref (Z+5)) "zip":=⟨_,hz,rfl⟩
 unfold pyNext
 refine wpAny_bind (wpAny_attempt (wpAny_callSpecial?_slot (name:=Str.ofString "__next__") hT PySem.F.slot_zip_next
  (wpAny_call_entry PySem.F.slot_zip_next hT PySem.F.entry_zip_next (zip3_end hh h1 hz hTI hTO g1 hl1 hx fun h' e hk he=>?_) (PySem.F.args_zip_next_1 _))))
 obtain⟨o,ho,hc⟩:=he
 refine wpAny_bind (wpAny_isInstance (T:="StopIteration") (b:=true) ⟨o,ho,hc⟩ isSubtype_stop ?_)
 exact wpAny_pure (hQ _ hk)
end
noncomputable abbrev zh1 (h:Heap) (l1:Addr):Heap:=h.push { cls:=.type "list_iterator",data:=.fields #[.ref l1,.int 0 0] }
noncomputable abbrev zh2 (h:Heap) (l1 l2:Addr):Heap:=(zh1 h l1).push { cls:=.type "list_iterator",data:=.fields #[.ref l2,.int 0 0] }
noncomputable abbrev zh3 (h:Heap) (l1 l2 l3:Addr):Heap:=(zh2 h l1 l2).push { cls:=.type "list_iterator",data:=.fields #[.ref l3,.int 0 0] }
noncomputable abbrev zh4 (h:Heap) (l1 l2 l3:Addr):Heap:=(zh3 h l1 l2 l3).push { cls:=.type "tuple",data:=.seq #[.ref h.objs.size,.ref (zh1 h l1).objs.size,.ref (zh2 h l1 l2).objs.size] }
noncomputable abbrev zh5 (h:Heap) (l1 l2 l3:Addr):Heap:=(zh4 h l1 l2 l3).push { cls:=.type "tuple",data:=.seq #[.none,.none,.none] }
noncomputable abbrev zh6 (h:Heap) (l1 l2 l3:Addr):Heap:=(zh5 h l1 l2 l3).push { cls:=.type "zip",data:=.fields #[.none,.bool false,.bool false,.ref (zh3 h l1 l2 l3).objs.size,.ref (zh4 h l1 l2 l3).objs.size] }
theorem meets_zip_new3 (l1 l2 l3:Addr) (xs ys zs:Array Value) :
  Meets (Builtin.«zip.__new__» ⟨[.type "zip",.ref l1,.ref l2,.ref l3],[]⟩) (fun J R s=>s.heap.IsList l1 xs∧s.heap.IsList l2 ys∧s.heap.IsList l3 zs ∧
   R (.ok (.ret (.ref (zh5 s.heap l1 l2 l3).objs.size))) { s with heap:=zh6 s.heap l1 l2 l3 }):=
 .of_wp fun prog w A R s ⟨hl1,hl2,hl3,h⟩=>by
  unfold Builtin.«zip.__new__»
  have hn:Builtin.SmallTypes.newClass "zip" ⟨[.type "zip",.ref l1,.ref l2,.ref l3],[]⟩=pure (.type "zip",[.ref l1,.ref l2,.ref l3]):=by
   unfold Builtin.SmallTypes.newClass
   show(isType (.type "zip")>>=fun J=>_)=_
   have e1:isType (.type "zip")=pure true:=by kernel_rfl
   rw[e1,pure_bind]
   show(isSubtype (.type "zip") (.type "zip")>>=fun J=>_)=_
   rw[sub_zip,pure_bind]
   rfl
  rw[hn]
  refine wpAny_bind (wpAny_pure ?_)
  show wpAny _ _ (Builtin.SmallTypes.iterAll [.ref l1,.ref l2,.ref l3]>>=_) _ _ s
  refine wpAny_bind ?_
  unfold Builtin.SmallTypes.iterAll
  refine wpAny_bind ?_
  rw[List.forIn_cons]
  refine wpAny_bind (wpAny_bind (wpAny_holding (wpAny_pyIter_list hl1 (wpAny_pure ?_))))
  dsimp only
  rw[List.forIn_cons]
  refine wpAny_bind (wpAny_bind (wpAny_holding (wpAny_pyIter_list (Heap.IsList.push hl2 _) (wpAny_pure ?_))))
  dsimp only
  rw[List.forIn_cons]
  refine wpAny_bind (wpAny_bind (wpAny_holding (wpAny_pyIter_list (Heap.IsList.push (Heap.IsList.push hl3 _) _) (wpAny_pure ?_))))
  dsimp only
  rw[List.forIn_nil]
  refine wpAny_pure (wpAny_pure ?_)
  have hz3:3≤sizeLine:=by decide
  refine wpAny_bind (wpAny_newTuple (items:=[.ref s.heap.objs.size,.ref (zh1 s.heap l1).objs.size,.ref (zh2 s.heap l1 l2).objs.size]) ?_ (hz3))
  refine wpAny_bind (wpAny_newTuple (items:=[.none,.none,.none]) ?_ (hz3))
  refine wpAny_bind ?_
  refine wpAny_newObj_type (data:=.fields #[.none,.bool false,.bool false,.ref (zh3 s.heap l1 l2 l3).objs.size,.ref (zh4 s.heap l1 l2 l3).objs.size]) (wpAny_pure ?_)
  exact⟨_,rfl,h⟩
end
section
section
variable {prog:Program}{w:World}{A:Around}{E:Value→Shared→Prop}{s:Shared}
theorem call_zip_3 {l1 l2 l3:Addr}{xs ys zs:Array Value}{Q:Value→Shared→Prop}(hl1:s.heap.IsList l1 xs) (hl2:s.heap.IsList l2 ys) (hl3:s.heap.IsList l3 zs)
  (h:∀h',IsZip h' (s.heap.objs.size+5) (s.heap.objs.size+3) (s.heap.objs.size+4) .none→IsTri h' (s.heap.objs.size+3) (.ref s.heap.objs.size) (.ref (s.heap.objs.size+1)) (.ref (s.heap.objs.size+2)) →
   IsTri h' (s.heap.objs.size+4) .none .none .none→h'.IsListIter s.heap.objs.size l1 0→h'.IsListIter (s.heap.objs.size+1) l2 0→h'.IsListIter (s.heap.objs.size+2) l3 0→h'.objs.size=s.heap.objs.size+6 →
   (∀c o,s.heap.get? c=some o→h'.get? c=some o)→Q (.ref (s.heap.objs.size+5)) { s with heap:=h' }) :
  wpAny (model prog w) A (call (.type "zip") [.ref l1,.ref l2,.ref l3]) Q E s:=by
 refine callType_new PySem.F.called_zip (by decide) (typeCall_zip_3 _ _ _) (newCall_zip_3 _ _ _) (fun obj=>args_object_init_4 obj _ _ _) PySem.F.entry_zip_new
  (meets_zip_new3 l1 l2 l3 xs ys zs) ⟨hl1,hl2,hl3,?_⟩
 have z1:(zh1 s.heap l1).objs.size=s.heap.objs.size+1:=Heap.size_push ..
 have z2:(zh2 s.heap l1 l2).objs.size=s.heap.objs.size+2:=by rw[Heap.size_push,z1]
 have z3:(zh3 s.heap l1 l2 l3).objs.size=s.heap.objs.size+3:=by rw[Heap.size_push,z2]
 have z4:(zh4 s.heap l1 l2 l3).objs.size=s.heap.objs.size+4:=by rw[Heap.size_push,z3]
 have z5:(zh5 s.heap l1 l2 l3).objs.size=s.heap.objs.size+5:=by rw[Heap.size_push,z4]
 have z6:(zh6 s.heap l1 l2 l3).objs.size=s.heap.objs.size+6:=by rw[Heap.size_push,z5]
 have g6:(zh6 s.heap l1 l2 l3).get? (zh5 s.heap l1 l2 l3).objs.size=some _:=Heap.get?_push_size _ rfl
 have g5:(zh6 s.heap l1 l2 l3).get? (zh4 s.heap l1 l2 l3).objs.size=some _:=Heap.get?_push_of_some _ (Heap.get?_push_size _ rfl)
 have g4:(zh6 s.heap l1 l2 l3).get? (zh3 s.heap l1 l2 l3).objs.size=some _:=Heap.get?_push_of_some _ (Heap.get?_push_of_some _ (Heap.get?_push_size _ rfl))
 have g3:(zh6 s.heap l1 l2 l3).get? (zh2 s.heap l1 l2).objs.size=some _:=Heap.get?_push_of_some _ (Heap.get?_push_of_some _ (Heap.get?_push_of_some _ (Heap.get?_push_size _ rfl)))
 have g2:(zh6 s.heap l1 l2 l3).get? (zh1 s.heap l1).objs.size=some _:=Heap.get?_push_of_some _ (Heap.get?_push_of_some _ (Heap.get?_push_of_some _ (Heap.get?_push_of_some _ (Heap.get?_push_size _ rfl))))
 have g1:(zh6 s.heap l1 l2 l3).get? s.heap.objs.size=some _:=Heap.get?_push_of_some _ (Heap.get?_push_of_some _ (Heap.get?_push_of_some _ (Heap.get?_push_of_some _ (Heap.get?_push_of_some _ (Heap.get?_push_size _ rfl)))))
 show _∧_
 rw[z3,z4,z5] at g6
 rw[z1,z2,z3] at g4
 rw[z4] at g5
 rw[z2] at g3
 rw[z1] at g2
 rw[z5]
 exact⟨⟨_,g6,rfl⟩,h _ g6 g4 g5 ⟨_,g1,rfl,rfl⟩ ⟨_,g2,rfl,rfl⟩ ⟨_,g3,rfl,rfl⟩ z6 fun c o x=>
  Heap.get?_push_of_some _ (Heap.get?_push_of_some _ (Heap.get?_push_of_some _ (Heap.get?_push_of_some _ (Heap.get?_push_of_some _ (Heap.get?_push_of_some _ x)))))⟩
theorem WalksT.zip3 (hh:A.handled=none) (Z l1 l2 l3:Nat) (h1:l1<Z) (h2:l2<Z) (h3:l3<Z) (xs ys zs:Array Value) (hxy:xs.size≤ys.size) (hxz:xs.size≤zs.size) :
  WalksT prog w A (Z+5) [Z+5,Z+3,Z+4,Z,Z+1,Z+2,l1,l2,l3] [Z+5,Z+4,Z,Z+1,Z+2] xs.size
   (fun i vals=>∃x y v,xs[i]?=some x∧ys[i]?=some y∧zs[i]?=some v∧vals=#[x,y,v])
   (fun i h=>IsZip h (Z+5) (Z+3) (Z+4) .none∧IsTri h (Z+3) (.ref Z) (.ref (Z+1)) (.ref (Z+2))∧(∃a b c,IsTri h (Z+4) a b c)∧h.IsListIter Z l1 i∧h.IsListIter (Z+1) l2 i∧h.IsListIter (Z+2) l3 i∧h.IsList l1 xs∧h.IsList l2 ys∧h.IsList l3 zs)
   (fun i T h=>IsZip h (Z+5) (Z+3) (Z+4) (rawInt T)∧IsTri h (Z+3) (.ref Z) (.ref (Z+1)) (.ref (Z+2))∧(∃a b c,IsTri h (Z+4) a b c)∧h.IsListIter Z l1 (i+1)∧h.IsListIter (Z+1) l2 (i+1)∧h.IsListIter (Z+2) l3 (i+1)∧h.IsList l1 xs∧h.IsList l2 ys∧h.IsList l3 zs ∧
    T≠Z+5∧T≠Z+4∧T≠Z∧T≠Z+1∧T≠Z+2) where
 sub:=List.forall_mem_cons.mpr ⟨.head _,List.forall_mem_cons.mpr ⟨.tail _ (.tail _ (.head _)),List.forall_mem_cons.mpr ⟨.tail _ (.tail _ (.tail _ (.head _))),List.forall_mem_cons.mpr ⟨.tail _ (.tail _ (.tail _ (.tail _ (.head _)))),List.forall_mem_cons.mpr ⟨.tail _ (.tail _ (.tail _ (.tail _ (.tail _ (.head _))))),List.forall_mem_nil _⟩⟩⟩⟩⟩
 frame:=fun i h h' hst hk=>by
  obtain⟨hz,hTI,⟨a,b,c,hTO⟩,g1,g2,g3,hl1,hl2,hl3⟩:=hst
  exact⟨hk (Z+5) (.head _) _ hz,hk (Z+3) (.tail _ (.head _)) _ hTI,⟨a,b,c,hk (Z+4) (.tail _ (.tail _ (.head _))) _ hTO⟩,g1.at fun o e=>hk Z (.tail _ (.tail _ (.tail _ (.head _)))) o e,g2.at fun o e=>hk (Z+1) (.tail _ (.tail _ (.tail _ (.tail _ (.head _))))) o e,g3.at fun o e=>hk (Z+2) (.tail _ (.tail _ (.tail _ (.tail _ (.tail _ (.head _)))))) o e,
   hl1.at fun o e=>hk l1 (.tail _ (.tail _ (.tail _ (.tail _ (.tail _ (.tail _ (.head _))))))) o e,hl2.at fun o e=>hk l2 (.tail _ (.tail _ (.tail _ (.tail _ (.tail _ (.tail _ (.tail _ (.head _)))))))) o e,hl3.at fun o e=>hk l3 (.tail _ (.tail _ (.tail _ (.tail _ (.tail _ (.tail _ (.tail _ (.tail _ (.head _))))))))) o e⟩
 item:=fun i s Q E hi hst hQ=>by
  obtain⟨hz,hTI,⟨a,b,c,hTO⟩,g1,g2,g3,hl1,hl2,hl3⟩:=hst
  have hiy:i<ys.size:=Nat.lt_of_lt_of_le hi hxy
  have hiz:i<zs.size:=Nat.lt_of_lt_of_le hi hxz
  refine next3_item h1 h2 h3 hz hTI hTO g1 g2 g3 hl1 hl2 hl3 (Array.getElem?_eq_getElem hi) (Array.getElem?_eq_getElem hiy) (Array.getElem?_eq_getElem hiz) fun h' a1 a2 a3 a4 a5 a6 a7 hk=>?_
  have lt:∀{c o},s.heap.get? c=some o→s.heap.objs.size≠c:=fun e=>Nat.ne_of_gt (Heap.lt_size e)
  exact hQ s.heap.objs.size #[xs[i],ys[i],zs[i]] h' s.toks ⟨_,_,_,Array.getElem?_eq_getElem hi,Array.getElem?_eq_getElem hiy,Array.getElem?_eq_getElem hiz,rfl⟩ (Nat.le_refl _) ⟨_,a6,rfl,_,rfl⟩
   ⟨a1,hk _ _ (fun(q:@Eq Nat _ _)=>by exact absurd (Nat.add_left_cancel q) (by decide)) (fun(q:@Eq Nat _ _)=>by exact absurd (Nat.add_left_cancel q) (by decide)) (fun(q:@Eq Nat _ _)=>by lia) (fun(q:@Eq Nat _ _)=>by exact absurd (Nat.add_left_cancel q) (by decide)) (fun(q:@Eq Nat _ _)=>by exact absurd (Nat.add_left_cancel q) (by decide)) hTI,⟨_,_,_,a2⟩,a3,a4,a5,hl1.at fun o e=>hk _ o (fun(q:@Eq Nat _ _)=>by exact Nat.not_lt_of_le (Nat.le_trans (Nat.le_add_right _ _) (Nat.le_of_eq q.symm)) h1) (fun(q:@Eq Nat _ _)=>by exact Nat.not_lt_of_le (Nat.le_trans (Nat.le_add_right _ _) (Nat.le_of_eq q.symm)) h1) (fun(q:@Eq Nat _ _)=>by exact Nat.not_lt_of_le (Nat.le_of_eq q.symm) h1) (fun(q:@Eq Nat _ _)=>by exact Nat.not_lt_of_le (Nat.le_of_succ_le (Nat.le_of_eq q.symm)) h1) (fun(q:@Eq Nat _ _)=>by exact Nat.not_lt_of_le (Nat.le_of_succ_le (Nat.le_of_succ_le (Nat.le_of_eq q.symm))) h1) e,hl2.at fun o e=>hk _ o (fun(q:@Eq Nat _ _)=>by exact Nat.not_lt_of_le (Nat.le_trans (Nat.le_add_right _ _) (Nat.le_of_eq q.symm)) h2) (fun(q:@Eq Nat _ _)=>by exact Nat.not_lt_of_le (Nat.le_trans (Nat.le_add_right _ _) (Nat.le_of_eq q.symm)) h2) (fun(q:@Eq Nat _ _)=>by exact Nat.not_lt_of_le (Nat.le_of_eq q.symm) h2) (fun(q:@Eq Nat _ _)=>by exact Nat.not_lt_of_le (Nat.le_of_succ_le (Nat.le_of_eq q.symm)) h2) (fun(q:@Eq Nat _ _)=>by exact Nat.not_lt_of_le (Nat.le_of_succ_le (Nat.le_of_succ_le (Nat.le_of_eq q.symm))) h2) e,hl3.at fun o e=>hk _ o (fun(q:@Eq Nat _ _)=>by exact Nat.not_lt_of_le (Nat.le_trans (Nat.le_add_right _ _) (Nat.le_of_eq q.symm)) h3) (fun(q:@Eq Nat _ _)=>by exact Nat.not_lt_of_le (Nat.le_trans (Nat.le_add_right _ _) (Nat.le_of_eq q.symm)) h3) (fun(q:@Eq Nat _ _)=>by exact Nat.not_lt_of_le (Nat.le_of_eq q.symm) h3) (fun(q:@Eq Nat _ _)=>by exact Nat.not_lt_of_le (Nat.le_of_succ_le (Nat.le_of_eq q.symm)) h3) (fun(q:@Eq Nat _ _)=>by exact Nat.not_lt_of_le (Nat.le_of_succ_le (Nat.le_of_succ_le (Nat.le_of_eq q.symm))) h3) e,
    lt hz,lt hTO,(by obtain⟨_,e,_⟩:=g1;exact lt e),(by obtain⟨_,e,_⟩:=g2;exact lt e),(by obtain⟨_,e,_⟩:=g3;exact lt e)⟩
   fun c o hc e=>hk c o (List.ne_of_not_mem_cons hc) (List.ne_of_not_mem_cons (List.not_mem_of_not_mem_cons hc)) (List.ne_of_not_mem_cons (List.not_mem_of_not_mem_cons (List.not_mem_of_not_mem_cons hc))) (List.ne_of_not_mem_cons (List.not_mem_of_not_mem_cons (List.not_mem_of_not_mem_cons (List.not_mem_of_not_mem_cons hc)))) (List.ne_of_not_mem_cons (List.not_mem_of_not_mem_cons (List.not_mem_of_not_mem_cons (List.not_mem_of_not_mem_cons (List.not_mem_of_not_mem_cons hc))))) e
 go:=fun elts k pos i T s Q E hm hQ=>by
  obtain⟨hz,hTI,⟨a,b,c,hTO⟩,g1,g2,g3,hl1,hl2,hl3,_⟩:=hm
  refine wpAny_letOwnedTupleGo_zip hz fun h' hz' hs'=>hQ h' ⟨hz',hs'.extBut _ _ (fun(q:@Eq Nat _ _)=>by exact absurd (Nat.add_left_cancel q) (by decide)) hTI,⟨a,b,c,hs'.extBut _ _ (fun(q:@Eq Nat _ _)=>by exact absurd (Nat.add_left_cancel q) (by decide)) hTO⟩,g1.extBut hs'.extBut (fun(q:@Eq Nat _ _)=>by lia),g2.extBut hs'.extBut (fun(q:@Eq Nat _ _)=>by exact absurd (Nat.add_left_cancel q) (by decide)),g3.extBut hs'.extBut (fun(q:@Eq Nat _ _)=>by exact absurd (Nat.add_left_cancel q) (by decide)),
   hl1.extBut hs'.extBut (fun(q:@Eq Nat _ _)=>by exact Nat.not_lt_of_le (Nat.le_trans (Nat.le_add_right _ _) (Nat.le_of_eq q.symm)) h1),hl2.extBut hs'.extBut (fun(q:@Eq Nat _ _)=>by exact Nat.not_lt_of_le (Nat.le_trans (Nat.le_add_right _ _) (Nat.le_of_eq q.symm)) h2),hl3.extBut hs'.extBut (fun(q:@Eq Nat _ _)=>by exact Nat.not_lt_of_le (Nat.le_trans (Nat.le_add_right _ _) (Nat.le_of_eq q.symm)) h3)⟩ fun c o hc e=>hs'.extBut _ _ (List.ne_of_not_mem_cons hc) e
 apart:=fun i T h hm hT=>by
  obtain⟨_,_,_,_,_,_,_,_,_,t1,t2,t3,t4,t5⟩:=hm
  exact(List.mem_cons.mp hT).elim t1 fun hT=>(List.mem_cons.mp hT).elim t2 fun hT=>(List.mem_cons.mp hT).elim t3 fun hT=>(List.mem_cons.mp hT).elim t4 fun hT=>(List.mem_cons.mp hT).elim t5 List.not_mem_nil
 done:=fun s Q E hst hQ=>by
  obtain⟨hz,hTI,⟨a,b,c,hTO⟩,g1,g2,g3,hl1,hl2,hl3⟩:=hst
  exact next3_end hh h1 hz hTI hTO g1 hl1 (Array.getElem?_eq_none (Nat.le_refl _)) fun h' hk=>hQ h' s.toks fun c o hc e=>
   hk c o (List.ne_of_not_mem_cons hc) (List.ne_of_not_mem_cons (List.not_mem_of_not_mem_cons (List.not_mem_of_not_mem_cons hc))) e
 self:=fun i s Q E hst hQ=>wpAny_pyIter_zip hst.1 hQ
end
end
section
set_option backward.match.sparseCases false
section
variable {C:Cx}{n:Nat}{sc:Scope}{Γ:Gm}
noncomputable def zip3R:List D→List D→List D→List (List D)
 | a::as,b::bs,c::cs=>[a,b,c]::zip3R as bs cs
 | _,_,_=>[]
theorem zip3R_len (as bs cs:List D) (h1:as.length≤bs.length) (h2:as.length≤cs.length):(zip3R as bs cs).length=as.length:=by
 induction as generalizing bs cs with
 | nil=>rfl
 | cons a as ih=>
  cases bs with
  | nil=>exact nomatch h1
  | cons b bs=>
   cases cs with
   | nil=>exact nomatch h2
   | cons c cs=>exact congrArg (·+1) (ih bs cs (Nat.le_of_succ_le_succ h1) (Nat.le_of_succ_le_succ h2))
theorem zip3R_get (as bs cs:List D) (i:Nat) (row:List D) (h:(zip3R as bs cs)[i]?=some row):∃a b c,as[i]?=some a∧bs[i]?=some b∧cs[i]?=some c∧row=[a,b,c]:=by
 induction as generalizing bs cs i with
 | nil=>exact nomatch h
 | cons a as ih=>
  cases bs with
  | nil=>exact nomatch h
  | cons b bs=>
   cases cs with
   | nil=>exact nomatch h
   | cons c cs=>
    cases i with
    | zero=>exact⟨a,b,c,rfl,rfl,rfl,(Option.some.inj h).symm⟩
    | succ i=>exact ih bs cs i h
theorem it_zip3 {x:Str}{p pos:Pos}{e e' e'':Expr}{ds es fs:List D}{cm:Bool}(h:Ex C n sc Γ e (.list ds)) (h':Ex C n sc Γ e' (.list es)) (h'':Ex C n sc Γ e'' (.list fs)) (hde:ds.length≤es.length) (hdf:ds.length≤fs.length) (hb:bootBuiltins x=some (.type "zip")) (hg:C.mg x=none)
  (hx:autoParam (isBuiltinName sc x=true) dk) (hs:autoParam (notStar e=true) rf) (hs':autoParam (notStar e'=true) rf) (hs'':autoParam (notStar e''=true) rf) :
  It C n sc Γ cm (.Call (.Name x p) [e,e',e''] [] pos) true (zip3R ds es fs):=by
 intro env A F s hE hR hO hV
 refine ev_machine hb hg (fun a=>by simp) (.cons h (.cons h' (.cons h'' .nil hs'') hs') hs) hx hE hR hO hV fun vs s₁ F₁ g r=>?_
 obtain⟨_,_,_,rfl,r1,r2,r3⟩:=r.three_inv
 obtain⟨a,vs,k,rfl,ea,ra⟩:=r1.list_inv
 obtain⟨b,ws,k',rfl,eb,rb⟩:=r2.list_inv
 obtain⟨c,us,k'',rfl,ec,rc⟩:=r3.list_inv
 have ha:=g.inn _ _ ea;have hb:=g.inn _ _ eb;have hc:=g.inn _ _ ec
 refine call_zip_3 ⟨_,ha,rfl,_,rfl⟩ ⟨_,hb,rfl,_,rfl⟩ ⟨_,hc,rfl,_,rfl⟩ fun H hz hTI hTO hi1 hi2 hi3 hsize hk=>?_
 have g2:Grow F F₁ s { s₁ with heap:=H }:=g.trans (.same g.inn hk (by rw[hsize];exact Nat.le_add_right _ 6))
 refine it_from (WalksT.zip3 hR.handled s₁.heap.objs.size a b c (Heap.lt_size ha) (Heap.lt_size hb) (Heap.lt_size hc) vs.toArray ws.toArray us.toArray (by rw[List.size_toArray,List.size_toArray,ra.length,rb.length];exact hde) (by rw[List.size_toArray,List.size_toArray,ra.length,rc.length];exact hdf)).toU g2
  (hsize▸footO [5,4,0,1,2] [5,3,4,0,1,2] (fz:=[a,b,c]) (Nat.le_trans (klo_le cm _) g.size) g.size g.new (List.forall_mem_cons.mpr ⟨⟨_,ea⟩,List.forall_mem_cons.mpr ⟨⟨_,eb⟩,List.forall_mem_cons.mpr ⟨⟨_,ec⟩,List.forall_mem_nil _⟩⟩⟩) rfl rfl)
  (by rw[zip3R_len ds es fs hde hdf,List.size_toArray,ra.length]) (fun i vals row hv hr=>?_) ⟨hz,hTI,⟨_,_,_,hTO⟩,hi1,hi2,hi3,⟨_,hk _ _ ha,rfl,_,rfl⟩,⟨_,hk _ _ hb,rfl,_,rfl⟩,⟨_,hk _ _ hc,rfl,_,rfl⟩⟩
 obtain⟨x,y,v,hx,hy,hv,rfl⟩:=hv
 obtain⟨d1,d2,d3,hd,hd',hd'',rfl⟩:=zip3R_get _ _ _ _ _ hr
 obtain⟨w1,hw,h1⟩:=ra.get? hd
 obtain⟨w2,hw',h2⟩:=rb.get? hd'
 obtain⟨w3,hw'',h3⟩:=rc.get? hd''
 rw[List.getElem?_toArray,hw] at hx;cases hx
 rw[List.getElem?_toArray,hw'] at hy;cases hy
 rw[List.getElem?_toArray,hw''] at hv;cases hv
 exact .cons h1 (.cons h2 (.cons h3 .nil))
end
end
section
set_option backward.match.sparseCases false
noncomputable def mtT (k:Nat):FnT:=match PySem.Challenge.pw_wz0003_01.main.body.drop 2 with
 | .ClassDef _ _ _ body _ _ _ _ _ _ _::_=>(match body.drop k with
  | .FunctionDef _ args body _ _ _ scope _ _ _::_=>⟨args,body,scope⟩
  | _=>⟨⟨[],[],none,[],[],none,[]⟩,[],⟨.function,[],false,false,[]⟩⟩)
 | _=>⟨⟨[],[],none,[],[],none,[]⟩,[],⟨.function,[],false,false,[]⟩⟩
structure Kls (C:Cx):Prop where
 mg:C.mg "TupleComp"=some (.ref C.tc)
 plain:plainGet C.K C.tc "compare"=true
 hd:hasDictIn C.K C.tc=true
 attr:findIn C.K (.ref C.tc) "comp_select_list"=some none
 over:plainOver C.K C.tc=true
 sa:findIn C.K (.ref C.tc) "__setattr__"=some (some (.builtin "object.__setattr__"))
 makes:makesIn C.K C.tc=true
 keep:keepIn C.K (.ref C.tc)=true
 init:∃a fd,findIn C.K (.ref C.tc) "__init__"=some (some (.ref a))∧typeIn C.K (.ref a)=some (.type "function")∧FnAt C a (mtT 0).params (mtT 0).body (mtT 0).scope fd∧∀vs:List Value,vs.length=2→bindArgs fd ⟨vs,[]⟩=pure ((["self","comp_select_list"]:List Str).zip vs)
 cmp:∃a fd,findIn C.K (.ref C.tc) "compare"=some (some (.ref a))∧typeIn C.K (.ref a)=some (.type "function")∧FnAt C a (mtT 1).params (mtT 1).body (mtT 1).scope fd∧∀vs:List Value,vs.length=3→bindArgs fd ⟨vs,[]⟩=pure ((["self","left","right"]:List Str).zip vs)
theorem R.handed {C:Cx}{F:FZ}{v:Value}{d:D}(h:R C F v d):handedIn v=true:=by cases h <;> rfl
section
variable {C:Cx}{n:Nat}{sc:Scope}{Γ:Gm}
theorem Ok.KX {F:FZ}{s:Shared}(h:Ok C F s):C.K.In s.heap:=C.KX.keeps h.keep
theorem ex_attr (K:Kls C) {x:Str}{p pos:Pos}{keys:D}(h:Ex C n sc Γ (.Name x p) (.cmp keys)):Ex C n sc Γ (.Attribute (.Name x p) "comp_select_list" pos) keys:=by
 intro env A F s hE hR hO hV
 refine Attribute_name ((h env A F s hE hR hO hV).imp fun v s₁ hZ=>?_)
 obtain⟨F₁,g,r⟩:=hZ
 obtain⟨a,dx,k,hh,t,w,rfl,e1,e2,rw'⟩:=r.cmp_inv
 have O₁:=hO.grow g
 have I:InstAt s₁.heap a (instObj C.tc dx) C.tc (some (dObj #[⟨hh,.str "comp_select_list" t,w⟩] k)):=⟨O₁.inn _ _ e1,rfl,rfl,O₁.inn _ _ e2⟩
 refine get_value O₁.KX I (plainGet_of K.plain).1 (findObj_own K.hd K.attr rfl ?_) rw'.handed ⟨F₁,?_,rw'⟩
 ·kernel_rfl
 ·exact g.trans (.tok O₁.inn)
theorem ex_compare (K:Kls C) {m:Nat}{o e1 e2:Expr}{apos pos:Pos}{keys d1 d2 d:D}(h:Ex C n sc Γ o (.cmp keys)) (args:Exs C n sc Γ [e1,e2] [d1,d2])
  (hc:∀a,findIn C.K (.ref C.tc) "compare"=some (some (.ref a))→Calls C m (.ref a) [.cmp keys,d1,d2] d) (hm:m≤n)
  (hbase:autoParam (∀env,attributeBase o "compare" env (eval o env)=eval o env) i1) (hline:autoParam ((apos.endLine==pos.line)=true) kr):Ex C n sc Γ (.Call (.Attribute o "compare" apos) [e1,e2] [] pos) d:=by
 intro env A F s hE hR hO hV
 obtain⟨fa,fd,c1,c2,c3,-⟩:=K.cmp
 show Wp C A (eval _ env) _ s
 rw[arm_eval_Call,hbase]
 refine Wp.bind ((h env A F s hE hR hO hV).imp fun v s₁ hZ=>?_)
 obtain⟨F₁,g,r⟩:=hZ
 obtain⟨a,dx,k,hh,t,w,rfl,e1,e2,rw'⟩:=r.cmp_inv
 have O₁:=hO.grow g
 have I:InstAt s₁.heap a (instObj C.tc dx) C.tc (some (dObj #[⟨hh,.str "comp_select_list" t,w⟩] k)):=⟨O₁.inn _ _ e1,rfl,rfl,O₁.inn _ _ e2⟩
 refine wpAny_bind (wpAny_standAt ?_)
 have hform:∀l:List (Bool×Sem Value),l.all (fun x=>!x.1)=true→methodCallForm 2 l []=true:=fun l hl=>by unfold methodCallForm;rw[hl];rfl
 have hpos:∀env,methodCallPos true o env apos pos=pure pos:=fun env=>by unfold methodCallPos;simp[hline]
 unfold methodCall
 erw[hform _ (all_backTo args env pos)]
 refine wpAny_bind (wpAny_holding ?_)
 unfold calleeOf
 simp only[if_true]
 refine method_fn O₁.KX I (plainGet_of K.plain).1 (plainGet_of K.plain).2 c1 c2 ?_ ?_
 ·kernel_rfl
 ·refine wpAny_bind (wpAny_of_eq (hpos env) ?_)
  obtain⟨ob,ho,hdata⟩:=c3.at_
  refine callWith_fn (o:=ob) (fd:=fd) ?_
  refine(evalArgs_run args hE hR O₁ (hV.grow g)).imp fun q s₂ hZ=>?_
  obtain⟨e,F₂,g₂,r₂⟩:=hZ
  rw[e]
  refine⟨⟨(O₁.grow g₂).keep _ _ ho,hdata⟩,?_⟩
  exact(hc fa c1 A F₂ s₂ (.ref a::q.pos) (hR.mono hm) (O₁.grow g₂) (.cons (r.mono g₂.le) r₂)).grow (g.trans g₂)
end
end
section
section
variable {C:Cx}{n:Nat}{sc:Scope}{Γ:Gm}
theorem init_body:∃p1 p2 p3 p4,(mtT 0).body=[.Assign [.Attribute (.Name "self" p1) "comp_select_list" p2] (.Name "comp_select_list" p3) p4]:=⟨_,_,_,_,by with_unfolding_all rfl⟩
theorem init_scope:entryOk (mtT 0).scope ["self","comp_select_list"]=true:=by kernel_rfl
theorem room_under {n:Nat}{A:Around}{args:Args}(h:Room (n+2) A):Room n (A.under (.builtin "type.__call__" args)):=by
 have f0:(Code.builtin "type.__call__" args).frames=0:=by kernel_rfl
 have f1:(Code.builtin "type.__call__" args).isCaller=false:=by kernel_rfl
 have e1:(Code.builtin "type.__call__" args).weight≤2:=by
  unfold Code.weight
  rw[f0,f1]
  split <;> split <;> simp
 have e2:(Code.builtin "type.__call__" args).cUnits≤100:=by
  have:(Code.builtin "type.__call__" args).cUnits=1:=by kernel_rfl
  exact Nat.le_trans (Nat.le_of_eq this) (by decide)
 have h1:=h.depth
 have h2:=h.units
 exact⟨h.handled,by simp only[Around.under];lia,by simp only[Around.under];lia⟩
theorem c_new (K:Kls C) {keys:D}:Calls C (n+3) (.ref C.tc) [keys] (.cmp keys):=by
 intro A F s vs hR hO hr
 obtain⟨v,rfl,r1⟩:=hr.one_inv
 obtain⟨fa,fd,k1,k2,hF,kb⟩:=K.init
 obtain⟨p1,p2,p3,p4,hbody⟩:=init_body
 refine Wp.up (wpAny_call ?_)
 have X:=hO.KX
 have hmk:∀R,codeAny (model C.prog C.w) (A.under (.builtin "type.__call__" ⟨[.ref C.tc,v],[]⟩)) (.call (.ref fa) ⟨[.ref (s.heap.objs.size+1),v],[]⟩) (InitBack (s.heap.objs.size+1) R) ⟨(s.heap.push emptyDict).push (instObj C.tc s.heap.objs.size),s.gens,s.drawn,s.toks,s.os⟩ →
   codeAny (model C.prog C.w) A (.call (.ref C.tc) ⟨[v],[]⟩) R s:=fun R h=>by
  obtain⟨hp,g,d,t,os⟩:=s
  exact make_core (makes_of X K.makes) (looks_findIn X k1) (fun self=>bind_fn X self k2) (.inl rfl) h
 refine hmk _ ?_
 have hR1:Room (n+1) (A.under (.builtin "type.__call__" ⟨[.ref C.tc,v],[]⟩)):=room_under hR
 generalize A.under (.builtin "type.__call__" ⟨[.ref C.tc,v],[]⟩)=B at hR1
 have kp:∀b o,s.heap.get? b=some o→((s.heap.push emptyDict).push (instObj C.tc s.heap.objs.size)).get? b=some o:=fun b o e=>Heap.get?_push_of_some _ (Heap.get?_push_of_some _ e)
 have gx:((s.heap.push emptyDict).push (instObj C.tc s.heap.objs.size)).get? (s.heap.objs.size+1)=some (instObj C.tc s.heap.objs.size):=by heap_get
 have gd:((s.heap.push emptyDict).push (instObj C.tc s.heap.objs.size)).get? s.heap.objs.size=some emptyDict:=by heap_get
 have hsz:((s.heap.push emptyDict).push (instObj C.tc s.heap.objs.size)).objs.size=s.heap.objs.size+2:=by rw[Heap.size_push,Heap.size_push]
 generalize hH:(s.heap.push emptyDict).push (instObj C.tc s.heap.objs.size)=H at kp gx gd hsz
 obtain⟨o,ho,hdata⟩:=hF.at_
 obtain⟨hkind,hcor,hgen,honce,hfree,hst⟩:=entryOk_inv init_scope
 have hsc:=hF.scope
 refine codeAny_call_function (body:=(mtT 0).body) hR1.lim (kp _ _ (hO.keep _ _ ho)) hdata (by rw[hsc];exact hcor) (by rw[hsc];exact hgen) hF.body ((hF.code.keeps hO.keep).keeps kp) ?_
 rw[kb _ rfl,hF.closure]
 refine wpAny_pure (wpAny_newFunctionEnv_cells (by rw[hsc];exact hkind) (fun p hp=>?_) fun env he s' x=>?_)
 ·rw[hsc]
  left
  rcases List.mem_cons.mp hp with rfl | hp
  ·kernel_rfl
  ·rcases List.mem_cons.mp hp with rfl | hp
   ·kernel_rfl
   ·cases hp
 subst he
 have hL:(newEnv fd.scope H.objs.size fd.globals (cellsFrom (H.objs.size+1) fd.scope.names []) (fd.qualname++".<locals>.") (some fa) fd.code none fd.builtins).locals=H.objs.size:=rfl
 have hscope:(newEnv fd.scope H.objs.size fd.globals (cellsFrom (H.objs.size+1) fd.scope.names []) (fd.qualname++".<locals>.") (some fa) fd.code none fd.builtins).scope=(mtT 0).scope:=hsc
 dsimp only at x ⊢
 generalize newEnv fd.scope H.objs.size fd.globals (cellsFrom (H.objs.size+1) fd.scope.names []) (fd.qualname++".<locals>.") (some fa) fd.code none fd.builtins=env at x hL hscope ⊢
 have hkn:∀z,env.kindOf z=(mtT 0).scope.names.lookup z:=fun z=>by show env.scope.names.lookup z=_;rw[hscope]
 have n1:env.kindOf "self"=some .local:=by rw[hkn];kernel_rfl
 have n2:env.kindOf "comp_select_list"=some .local:=by rw[hkn];kernel_rfl
 have hkd:env.scope.kind=.function:=by rw[hscope];exact hkind
 have hnd:((([("self",.ref (s.heap.objs.size+1)),("comp_select_list",v)]:List (Str×Value))).map (·.1)).Nodup:=(by decide +kernel:(["self","comp_select_list"]:List Str).Nodup)
 refine⟨((C.nolimit.keeps hO.keep).keeps kp).keeps x.toInCall.keep,codeAny_func ?_⟩
 rw[hbody]
 have hns:=x.toInCall.ns
 have hkeep:=x.toInCall.keep
 obtain⟨h',tk,es⟩:=x.toInCall.same
 subst es
 dsimp only at hkeep hns
 refine wpAny_execs_cons (plainObj_wpAny_Assign_Attribute ?_)
 refine wpAny_Name (wpAny_loadName_local hkd n2 hns (bindL_at n2 hnd (.tail _ (.head _))) ?_) (by decide +kernel)
 refine wpAny_Name (wpAny_loadName_local hkd n1 hns (bindL_at n1 hnd (.head _)) ?_) (by decide +kernel)
 have X':C.K.In h':=(X.keeps kp).keeps hkeep
 have I:InstAt h' (s.heap.objs.size+1) (instObj C.tc s.heap.objs.size) C.tc (some emptyDict):=⟨hkeep _ _ gx,rfl,rfl,hkeep _ _ gd⟩
 have FR:Fr s.heap env.locals h' (bindL env.kindOf [("self",.ref (s.heap.objs.size+1)),("comp_select_list",v)] fun J=>none):=⟨hns,fun b o e=>hkeep _ _ (kp _ _ e),by rw[hL,hsz];exact Nat.le_add_right _ _⟩
 have hno:∀b:Nat,s.heap.objs.size≤b→s.heap.get? b=none:=fun b hb=>by
  cases e:s.heap.get? b with
  | none=>rfl
  | some o=>exact absurd (Heap.lt_size e) (Nat.not_lt.mpr hb)
 have NW:News s.heap env.locals h' ([(s.heap.objs.size+1,instObj C.tc s.heap.objs.size)]++(s.heap.objs.size,emptyDict)::[]):=fun p hp=>by
  rcases List.mem_cons.mp hp with rfl | hp
  ·exact⟨hkeep _ _ gx,by rw[hL,hsz];exact(fun(q:@Eq Nat _ _)=>by lia),hno _ (Nat.le_succ _)⟩
  ·rcases List.mem_cons.mp hp with rfl | hp
   ·exact⟨hkeep _ _ gd,by rw[hL,hsz];exact(fun(q:@Eq Nat _ _)=>by lia),hno _ (Nat.le_refl _)⟩
   ·cases hp
 refine set_plain X' I K.sa (osa_dict (od':=dObj #[⟨PyData.keyHash C.w.params "comp_select_list",.str "comp_select_list" (tk+1),v⟩] 1) FR NW X' I rfl K.over (by unfold takerIn;rw[K.attr];rfl) K.hd rfl ?_ ?_ rfl rfl (by simp) fun h'' FR' NW'=>?_)
 ·intro p hp
  rcases List.mem_cons.mp hp with rfl | hp
  ·exact(fun(q:@Eq Nat _ _)=>by lia)
  ·cases hp
 ·intro p hp;cases hp
 refine wpAny_execs_nil ⟨rfl,fun up=>?_⟩
 have q1:=(NW' _ (List.mem_cons_self)).1
 have q2:=(NW' _ (List.mem_cons_of_mem _ List.mem_cons_self)).1
 have g0:Grow F F s _:=⟨.refl _,fun J J=>rfl,fun a o e=>FR'.keep a o (hO.inn a o e),FR'.keep,up.h,rfl,fun J J e=>e,Nat.le_refl _,id,up.t⟩
 have f1:=hO.inn.none (a:=s.heap.objs.size) (Nat.le_refl _)
 have g1:=g0.freeze (a:=s.heap.objs.size) (Nat.le_refl _) f1 q2
 have g2:=g1.freeze (a:=s.heap.objs.size+1) (Nat.le_succ _) (by unfold FZ.add;rw[if_neg (fun(q:@Eq Nat _ _)=>by lia)];exact hO.inn.none (Nat.le_succ _)) q1
 refine⟨_,g2,.cmp (dx:=s.heap.objs.size) (h:=PyData.keyHash C.w.params "comp_select_list") (t:=tk+1) (n:=1) FZ.add_self ?_ (r1.mono g2.le)⟩
 exact FZ.le_add (by unfold FZ.add;rw[if_neg (fun(q:@Eq Nat _ _)=>by lia)];exact hO.inn.none (Nat.le_succ _)) _ _ FZ.add_self
theorem ex_new (K:Kls C) {m:Nat}{p pos:Pos}{e:Expr}{keys:D}(h:Ex C n sc Γ e keys) (hm:m+3≤n) (hs:autoParam (notStar e=true) rf) (hx:autoParam (sc.names.lookup ("TupleComp":Str)=some .globalImplicit) dk):Ex C n sc Γ (.Call (.Name "TupleComp" p) [e] [] pos) (.cmp keys):=by
 intro env A F s hE hR hO hV
 rw[Sm,eval_Call_Name]
 refine Wp.bind (name_global hE hO hx K.mg ?_ (by decide +kernel))
 have args:Exs C n sc Γ [e] [keys]:=.cons h .nil hs
 refine callWith_K (h₀:=s.heap) hO.KX K.keep ((args.run hE hR hO hV).imp fun vs s₁ ⟨F₁,g,r⟩=>?_) (starEach_cons hs) rfl
 have O₁:=hO.grow g
 exact⟨O₁.KX,(c_new K (n:=m) A F₁ s₁ _ (hR.mono hm) O₁ r).grow g⟩
end
end
section
noncomputable def cmpO {α:Type}(lt:α→α→Bool) (l r:Nat→α):List (Nat×Int)→Option Int
 | []=>none
 | p::ps=>if lt (l p.1) (r p.1) then some (-p.2) else if lt (r p.1) (l p.1) then some p.2 else cmpO lt l r ps
noncomputable def cmpF {α:Type}(lt:α→α→Bool) (l r:Nat→α) (ks:List (Nat×Int)):Int:=(cmpO lt l r ks).getD 0
noncomputable abbrev keyR (p:Nat×Int):List D:=[.int (p.1:Nat),.int p.2]
noncomputable abbrev keysD (ks:List (Nat×Int)):D:=.list ((ks.map keyR).map .tuple)
theorem forOut_cmp {α:Type}{lt:α→α→Bool}{l r:Nat→α}(ks:List (Nat×Int)):forOut (fun(a:Unit) (_:Nat×Int)=>a) (fun J p=>if lt (l p.1) (r p.1) then some (.int (-p.2)) else if lt (r p.1) (l p.1) then some (.int p.2) else none) () ks=match cmpO lt l r ks with
  | some i=>.inr (.int i)
  | none=>.inl ():=by
 induction ks with
 | nil=>rfl
 | cons p ps ih=>
  have e:cmpO lt l r (p::ps)=if lt (l p.1) (r p.1)=true then some (-p.2) else if lt (r p.1) (l p.1)=true then some p.2 else cmpO lt l r ps:=rfl
  rw[forOut_cons,e,ih]
  by_cases h1:lt (l p.1) (r p.1)=true
  ·rw[if_pos h1,if_pos h1]
  ·rw[if_neg h1,if_neg h1]
   by_cases h2:lt (r p.1) (l p.1)=true
   ·rw[if_pos h2,if_pos h2]
   ·rw[if_neg h2,if_neg h2]
section
variable {C:Cx}{n:Nat}{sc:Scope}{Γ:Gm}
theorem run_out {α:Type}{st:Stmt}{rest:List Stmt}{I:α→Gm}{o:α ⊕ D}{d:D}(h:Step C n sc Γ st (Out.of I o)) (k1:∀a,o=.inl a→Run C n sc (I a) rest (.ret d)) (k2:∀d',o=.inr d'→d'=d):Run C n sc Γ (st::rest) (.ret d):=by
 cases o with
 | inl a=>exact rS h (k1 a rfl)
 | inr d'=>rw[← k2 d' rfl];exact run_stepRet h
theorem t_compare (K:Kls C) {α:Type}{lt:α→α→Bool}{dec:α→D}(hlt:∀a b,Op2 C (compareOp .Lt) (dec a) (dec b) (.bool (lt a b))) (hgt:∀a b,Op2 C (compareOp .Gt) (dec a) (dec b) (.bool (lt b a)))
  {ks:List (Nat×Int)} {l r:Nat→α} {m m':List D} (hm:m.length≤64) (hm':m'.length≤64) (hl:∀p∈ks,m[p.1]?=some (dec (l p.1))) (hr:∀p∈ks,m'[p.1]?=some (dec (r p.1))) :
  Run C n (mtT 1).scope [("self",.imm (.cmp (keysD ks))),("left",.imm (.list m)),("right",.imm (.list m'))] (mtT 1).body (.ret (.int (cmpF lt l r ks))):=by
 refine run_out (st_forR (it_tuples (ex_attr K (xv (by walk_at "m")))) (fun J:Unit=>[("left",.imm (.list m)),("right",.imm (.list m'))]) () (fun(a:Unit) (_:Nat×Int)=>a) (fun J p=>if lt (l p.1) (r p.1) then some (.int (-p.2)) else if lt (r p.1) (l p.1) then some (.int p.2) else none) (xs:=ks) (enc:=keyR) (by walk_at "s") (fun a x hx=>bt2 (by decide +kernel) (by kernel_rfl) (by kernel_rfl)) (fun i x hx=>?_) (by intro _ _;rfl)) (fun a ha=>?_) (fun d hd=>?_)
 ·have hx':=List.mem_of_getElem? hx
  have h1:=hl x hx'
  have h2:=hr x hx'
  have i1:=(List.getElem?_eq_some_iff.mp h1).1
  have i2:=(List.getElem?_eq_some_iff.mp h2).1
  refine rS (sA (xs1 (Ex.h (xv (by walk_at "m"))) (xv (by walk_at "m")) (iL (d:=dec (l x.1)) (Int.natCast_nonneg _) (Mine.c62 (Nat.le_of_lt (Nat.lt_of_lt_of_le i1 (Nat.le_trans hm (by decide))))) h1)) (Drop.same rfl)) ?_
  refine rS (sA (xs1 (Ex.h (xv (by walk_at "m"))) (xv (by walk_at "m")) (iL (d:=dec (r x.1)) (Int.natCast_nonneg _) (Mine.c62 (Nat.le_of_lt (Nat.lt_of_lt_of_le i1 (Nat.le_trans hm (by decide))))) h2)) (Drop.same rfl)) ?_
  generalize hA:lt (l x.1) (r x.1)=A
  generalize hB:lt (r x.1) (l x.1)=B
  cases A with
  | true=>exact run_stepRet (st_if (c:=true) (Tr.eq (tC (xv (by walk_at "m")) (xv (by walk_at "m")) (hlt _ _)) hA) (fun J=>run_ret (ex_un (xv (by walk_at "m")) o_neg_int)) (fun h=>nomatch h))
  | false=>
   refine rS (st_if (c:=false) (Tr.eq (tC (xv (by walk_at "m")) (xv (by walk_at "m")) (hlt _ _)) hA) (fun h=>nomatch h) (fun J=>run_nil)) ?_
   cases B with
   | true=>exact run_stepRet (st_if (c:=true) (Tr.eq (tC (xv (by walk_at "m")) (xv (by walk_at "m")) (hgt _ _)) hB) (fun J=>run_ret (xv (by walk_at "m"))) (fun h=>nomatch h))
   | false=>
    refine rS (st_if (c:=false) (Tr.eq (tC (xv (by walk_at "m")) (xv (by walk_at "m")) (hgt _ _)) hB) (fun h=>nomatch h) (fun J=>run_nil)) (run_nil' (by walk_at "s"))
 ·rw[forOut_cmp] at ha
  unfold cmpF
  cases hc:cmpO lt l r ks with
  | none=>exact run_ret xi
  | some i=>rw[hc] at ha;cases ha
 ·rw[forOut_cmp] at hd
  unfold cmpF
  cases hc:cmpO lt l r ks with
  | none=>rw[hc] at hd;cases hd
  | some i=>rw[hc] at hd;cases hd;rfl
theorem ex_cmpF (K:Kls C) {k:Nat}{o e1 e2:Expr}{apos pos:Pos}{α:Type}{lt:α→α→Bool}{dec:α→D}(hlt:∀a b,Op2 C (compareOp .Lt) (dec a) (dec b) (.bool (lt a b))) (hgt:∀a b,Op2 C (compareOp .Gt) (dec a) (dec b) (.bool (lt b a)))
  {ks:List (Nat×Int)} {l r:Nat→α} {m m':List D} (hm:m.length≤64) (hm':m'.length≤64) (hl:∀p∈ks,m[p.1]?=some (dec (l p.1))) (hr:∀p∈ks,m'[p.1]?=some (dec (r p.1)))
  (h:Ex C n sc Γ o (.cmp (keysD ks))) (h1:Ex C n sc Γ e1 (.list m)) (h2:Ex C n sc Γ e2 (.list m')) (hn:k+1≤n) (hs:autoParam (notStar e1=true) rf) (hs':autoParam (notStar e2=true) rf)
  (hbase:autoParam (∀env,attributeBase o "compare" env (eval o env)=eval o env) i1) (hline:autoParam ((apos.endLine==pos.line)=true) kr) :
  Ex C n sc Γ (.Call (.Attribute o "compare" apos) [e1,e2] [] pos) (.int (cmpF lt l r ks)):=by
 refine ex_compare K h (.cons h1 (.cons h2 .nil hs') hs) (fun a ha=>?_) hn hbase hline
 obtain⟨fa,fd,c1,c2,c3,c4⟩:=K.cmp
 rw[c1] at ha
 cases ha
 exact calls_of_run (xs:=["self","left","right"]) c3 (by kernel_rfl) (by decide +kernel) rfl (fun vs hv=>c4 vs hv) (t_compare K hlt hgt hm hm' hl hr)
end
end
section
noncomputable def gk (rk:Value→Int) (a:Array Keyed) (i:Nat):Int:=match a[i]? with
 | some p=>rk p.1
 | none=>0
theorem gk_eq {rk:Value→Int}{a b:Array Keyed}{i j:Nat}(h:a[i]?=b[j]?):gk rk a i=gk rk b j:=by unfold gk;rw[h]
structure SB (κ:SortKind) (a₀:Array Keyed) (st:SortSt):Prop where
 perm:(arrOf st).Perm a₀
 kind:kindOf st=κ
 failed:failedOf st=none
 pend:pendingOf st=#[]
structure Ranks (C:Cx) (s:Shared) (κ:SortKind) (rk:Value→Int) (a₀:Array Keyed):Prop where
 nodup:(a₀.toList.map fun p=>rk p.1).Nodup
 cmp:∀x∈a₀.toList,∀y∈a₀.toList,∀(A:Around) (E:Value→Shared→Prop) (Q:Bool→Shared→Prop),A.units+64<cLine→Q (decide (rk x.1<rk y.1)) s→wpAny (model C.prog C.w) A (keyLt' κ x.1 y.1) Q E s
noncomputable def Inc (rk:Value→Int) (a:Array Keyed) (k:Nat):Prop:=∀i j,i<j→j<k→gk rk a i<gk rk a j
noncomputable def Dec (rk:Value→Int) (a:Array Keyed) (k:Nat):Prop:=∀i j,i<j→j<k→gk rk a j<gk rk a i
section
variable {C:Cx}{A:Around}{E:Value→Shared→Prop}{s:Shared}{κ:SortKind}{rk:Value→Int}{a₀:Array Keyed}
theorem SB.set {st:SortSt}(h:SB κ a₀ st) {xs:Array Keyed}(hp:xs.Perm (arrOf st)):SB κ a₀ (setArr st xs):=⟨hp.trans h.perm,h.kind,h.failed,h.pend⟩
theorem SB.size {st:SortSt}(h:SB κ a₀ st):(arrOf st).size=a₀.size:=h.perm.size_eq
theorem SB.mem {st:SortSt}(h:SB κ a₀ st) {i:Nat}(hi:i<a₀.size):∃p∈a₀.toList,(arrOf st)[i]?=some p:=by
 have hi':i<(arrOf st).size:=by rw[h.size];exact hi
 exact⟨(arrOf st)[i],(Array.perm_iff_toList_perm.mp h.perm).mem_iff.mp (by simp),getElem?_pos _ i hi'⟩
theorem SB.ne {st:SortSt}(h:SB κ a₀ st) (H:Ranks C s κ rk a₀) {i j:Nat}(hi:i<a₀.size) (hj:j<a₀.size) (e:gk rk (arrOf st) i=gk rk (arrOf st) j):i=j:=by
 have hp:=((Array.perm_iff_toList_perm.mp h.perm).map fun p:Keyed=>rk p.1).nodup_iff.mpr H.nodup
 have gi:∀k,k<a₀.size→((arrOf st).toList.map fun p:Keyed=>rk p.1)[k]?=some (gk rk (arrOf st) k):=fun k hk=>by
  obtain⟨p,-,e⟩:=h.mem hk
  rw[List.getElem?_map,Array.getElem?_toList,e]
  unfold gk;rw[e];rfl
 have hlen:((arrOf st).toList.map fun p:Keyed=>rk p.1).length=a₀.size:=by rw[List.length_map,Array.length_toList,h.size]
 have hpw:=List.pairwise_iff_getElem.mp hp
 have g':∀k (hk:k<a₀.size) (hk':k<((arrOf st).toList.map fun p:Keyed=>rk p.1).length),((arrOf st).toList.map fun p:Keyed=>rk p.1)[k]=gk rk (arrOf st) k:=fun k hk hk'=>by
  have:=gi k hk
  rw[List.getElem?_eq_getElem hk'] at this
  exact Option.some.inj this
 rcases Nat.lt_trichotomy i j with hlt | heq | hgt
 ·exact absurd ((g' i hi (Nat.lt_of_lt_of_eq hi hlen.symm)).trans (e.trans (g' j hj (Nat.lt_of_lt_of_eq hj hlen.symm)).symm)) (hpw i j (Nat.lt_of_lt_of_eq hi hlen.symm) (Nat.lt_of_lt_of_eq hj hlen.symm) hlt)
 ·exact heq
 ·exact absurd ((g' j hj (Nat.lt_of_lt_of_eq hj hlen.symm)).trans (e.symm.trans (g' i hi (Nat.lt_of_lt_of_eq hi hlen.symm)).symm)) (hpw j i (Nat.lt_of_lt_of_eq hj hlen.symm) (Nat.lt_of_lt_of_eq hi hlen.symm) hgt)
theorem s_lt {st:SortSt}{i j:Nat}{Q:Option Bool→SortSt→Prop}(hu:A.units+64<cLine) (H:Ranks C s κ rk a₀) (hB:SB κ a₀ st) (hi:i<a₀.size) (hj:j<a₀.size) (h:Q (some (decide (gk rk (arrOf st) i<gk rk (arrOf st) j))) st) :
  wpS (model C.prog C.w) A E s (ltAt' i j) Q st:=by
 obtain⟨p,mp,ep⟩:=hB.mem hi
 obtain⟨q,mq,eq⟩:=hB.mem hj
 have e1:gk rk (arrOf st) i=rk p.1:=by unfold gk;rw[ep]
 have e2:gk rk (arrOf st) j=rk q.1:=by unfold gk;rw[eq]
 rw[e1,e2] at h
 rw[ltAt'_eq]
 refine wpS_bind (wpS_get ?_)
 refine wpS_bind ?_
 rw[elem'_eq,ep]
 refine wpS_pure (wpS_bind ?_)
 rw[elem'_eq,eq]
 refine wpS_pure ?_
 rw[lt'_eq]
 refine wpS_bind (wpS_get ?_)
 rw[hB.kind]
 exact wpS_bind (wpS_lift (wpAny_attempt (H.cmp p mp q mq _ _ _ hu ⟨rfl,wpS_pure h⟩)))
theorem s_asc {st:SortSt}{a n:Nat}{Q:AscSt→SortSt→Prop}(hu:A.units+64<cLine) (H:Ranks C s κ rk a₀) (hB:SB κ a₀ st) (hn:n≤a₀.size) (ha:1≤a) (han:a≤n) (hs:Inc rk (arrOf st) a)
  (h:∀m,a≤m→m≤n→Inc rk (arrOf st) m→(m<n→gk rk (arrOf st) m<gk rk (arrOf st) (m-1))→Q (none,m) st):wpS (model C.prog C.w) A E s (ascLoop a n) Q st:=by
 unfold ascLoop
 refine wpS_forRange (fun x c st'=>st'=st∧c=(none,x)∧Inc rk (arrOf st) x) ?_ ?_ ⟨rfl,rfl,hs⟩
 ·rintro x c st' h1 h2 ⟨e1,e2,e3⟩
  subst e1;subst e2
  refine wpS_bind (s_lt hu H hB (by show x<_;exact Nat.lt_of_lt_of_le h2 hn) (by show x-1<_;exact Nat.lt_of_le_of_lt (Nat.sub_le _ _) (Nat.lt_of_lt_of_le h2 hn)) ?_)
  show wpS _ _ _ _ (if decide (gk rk (arrOf st') x<gk rk (arrOf st') (x-1))=true then _ else _) _ _
  by_cases hlt:gk rk (arrOf st') x<gk rk (arrOf st') (x-1)
  ·rw[if_pos (decide_eq_true hlt)]
   exact wpS_pure (h x h1 (Nat.le_of_lt h2) e3 fun J=>hlt)
  ·rw[if_neg (by simpa using hlt)]
   have hne:gk rk (arrOf st') (x-1)<gk rk (arrOf st') x:=by
    have:=fun e=>hB.ne H (i:=x-1) (j:=x) (Nat.lt_of_le_of_lt (Nat.sub_le _ _) (Nat.lt_of_lt_of_le h2 hn)) (Nat.lt_of_lt_of_le h2 hn) e
    exact(Int.lt_or_gt_of_ne fun e=>Nat.ne_of_lt (Nat.sub_lt (Nat.lt_of_lt_of_le ha h1) Nat.one_pos) (this e)).resolve_right hlt
   refine wpS_pure ⟨rfl,rfl,fun i j hij hj=>?_⟩
   by_cases hjx:j<x
   ·exact e3 i j hij hjx
   ·have:j=x:=by exact Nat.le_antisymm (Nat.le_of_lt_succ hj) (Nat.le_of_not_lt hjx)
    subst this
    by_cases hi:i=j-1
    ·subst hi;exact hne
    ·have:=e3 i (j-1) (Nat.lt_of_le_of_ne (Nat.le_pred_of_lt hij) hi) (Nat.sub_lt (Nat.lt_of_succ_le (Nat.le_trans ha h1)) (by decide));exact Int.lt_trans this hne
 ·rintro c st' ⟨e1,e2,e3⟩
  subst e1;subst e2
  have:max a n=n:=by exact Nat.max_eq_right han
  rw[this] at e3 ⊢
  exact h n han (Nat.le_refl _) e3 fun hh=>absurd hh (Nat.lt_irrefl _)
theorem s_desc {st:SortSt}{a n:Nat}{Q:DescSt→SortSt→Prop}(hu:A.units+64<cLine) (H:Ranks C s κ rk a₀) (hB:SB κ a₀ st) (hn:n≤a₀.size) (ha:1≤a) (han:a≤n) (hs:Dec rk (arrOf st) a)
  (h:∀m,a≤m→m≤n→Dec rk (arrOf st) m→Q (none,m,0) st):wpS (model C.prog C.w) A E s (descLoop a n) Q st:=by
 unfold descLoop
 refine wpS_forRange (fun x c st'=>st'=st∧c=(none,x,0)∧Dec rk (arrOf st) x) ?_ ?_ ⟨rfl,rfl,hs⟩
 ·rintro x c st' h1 h2 ⟨e1,e2,e3⟩
  subst e1;subst e2
  refine wpS_bind (s_lt hu H hB (by show x<_;exact Nat.lt_of_lt_of_le h2 hn) (by show x-1<_;exact Nat.lt_of_le_of_lt (Nat.sub_le _ _) (Nat.lt_of_lt_of_le h2 hn)) ?_)
  show wpS _ _ _ _ (if decide (gk rk (arrOf st') x<gk rk (arrOf st') (x-1))=true then _ else _) _ _
  by_cases hlt:gk rk (arrOf st') x<gk rk (arrOf st') (x-1)
  ·rw[if_pos (decide_eq_true hlt)]
   refine wpS_pure ⟨rfl,rfl,fun i j hij hj=>?_⟩
   by_cases hjx:j<x
   ·exact e3 i j hij hjx
   ·have:j=x:=by exact Nat.le_antisymm (Nat.le_of_lt_succ hj) (Nat.le_of_not_lt hjx)
    subst this
    by_cases hi:i=j-1
    ·subst hi;exact hlt
    ·have:=e3 i (j-1) (Nat.lt_of_le_of_ne (Nat.le_pred_of_lt hij) hi) (Nat.sub_lt (Nat.lt_of_succ_le (Nat.le_trans ha h1)) (by decide));exact Int.lt_trans hlt this
  ·rw[if_neg (by simpa using hlt)]
   have hne:gk rk (arrOf st') (x-1)<gk rk (arrOf st') x:=by
    have:=fun e=>hB.ne H (i:=x-1) (j:=x) (Nat.lt_of_le_of_lt (Nat.sub_le _ _) (Nat.lt_of_lt_of_le h2 hn)) (Nat.lt_of_lt_of_le h2 hn) e
    exact(Int.lt_or_gt_of_ne fun e=>Nat.ne_of_lt (Nat.sub_lt (Nat.lt_of_lt_of_le ha h1) Nat.one_pos) (this e)).resolve_right hlt
   refine wpS_bind (s_lt hu H hB (by show x-1<_;exact Nat.lt_of_le_of_lt (Nat.sub_le _ _) (Nat.lt_of_lt_of_le h2 hn)) (by show x<_;exact Nat.lt_of_lt_of_le h2 hn) ?_)
   show wpS _ _ _ _ (if decide (gk rk (arrOf st') (x-1)<gk rk (arrOf st') x)=true then _ else _) _ _
   rw[if_pos (decide_eq_true hne)]
   exact wpS_pure (h x h1 (Nat.le_of_lt h2) e3)
 ·rintro c st' ⟨e1,e2,e3⟩
  subst e1;subst e2
  have:max a n=n:=by exact Nat.max_eq_right han
  rw[this] at e3 ⊢
  exact h n han (Nat.le_refl _) e3
theorem s_count {st:SortSt}{n:Nat}{Q:Option Nat→SortSt→Prop}(hu:A.units+64<cLine) (H:Ranks C s κ rk a₀) (hB:SB κ a₀ st) (hn:n≤a₀.size) (h1:1≤n)
  (h:∀m st',SB κ a₀ st'→1≤m→m≤n→Inc rk (arrOf st') m→Q (some m) st'):wpS (model C.prog C.w) A E s (countRun' 0 n) Q st:=by
 rw[countRun0_eq]
 refine wpS_bind (s_asc hu H hB hn (Nat.le_refl 1) h1 (fun i j hij hj=>absurd (Nat.lt_of_lt_of_le hij (Nat.le_of_lt_succ hj)) (Nat.not_lt_zero i)) fun m hm1 hm2 hm3 hm4=>?_)
 dsimp only
 by_cases hmn:m=n
 ·rw[if_pos (by simpa using hmn)]
  exact wpS_pure (h m st hB hm1 hm2 hm3)
 ·rw[if_neg (by simpa using hmn)]
  by_cases hgt:m>1
  ·rw[if_pos hgt]
   refine wpS_bind (s_lt hu H hB (Nat.lt_of_succ_le (Nat.le_trans h1 hn)) (Nat.lt_of_le_of_lt (Nat.sub_le _ _) (Nat.lt_of_lt_of_le (Nat.lt_of_le_of_ne hm2 hmn) hn)) ?_)
   show wpS _ _ _ _ (if decide (gk rk (arrOf st) 0<gk rk (arrOf st) (m-1))=true then _ else _) _ _
   rw[if_pos (decide_eq_true (hm3 0 (m-1) (Nat.sub_pos_of_lt hgt) (Nat.sub_lt (Nat.lt_of_succ_le hm1) (by decide))))]
   exact wpS_pure (h m st hB hm1 hm2 hm3)
  ·rw[if_neg hgt]
   have e:m=1:=by exact Nat.le_antisymm (Nat.le_of_not_lt hgt) hm1
   subst e
   unfold descPart
   refine wpS_bind (wpS_lift (wpAny_rule ⟨rfl,?_⟩))
   have h10:=hm4 (Nat.lt_of_le_of_ne hm2 hmn)
   refine wpS_bind (s_desc hu H hB hn (by decide) (Nat.lt_of_le_of_ne hm2 hmn) (fun i j hij hj=>by
    have:i=0:=by exact Nat.le_antisymm (Nat.le_of_lt_succ (Nat.lt_of_lt_of_le hij (Nat.le_of_lt_succ hj))) (Nat.zero_le _)
    have:j=1:=by exact Nat.le_antisymm (Nat.le_of_lt_succ hj) (Nat.succ_le_of_lt (Nat.lt_of_le_of_lt (Nat.le_add_left _ _) hij))
    subst_vars;exact h10) fun k hk1 hk2 hk3=>?_)
   dsimp only
   rw[if_neg (by decide)]
   unfold tail3
   refine wpS_bind (wpS_reverse ?_)
   have hB':=hB.set (mirror_perm (arrOf st) 0 k ((k-0) / 2))
   have hsz:k≤(arrOf st).size:=by rw[hB.size];exact Nat.le_trans hk2 hn
   have hinc:Inc rk (arrOf (setArr st (mirror (arrOf st) 0 k ((k-0) / 2)))) k:=fun i j hij hj=>by
    have em:∀x,x<k→gk rk (mirror (arrOf st) 0 k ((k-0) / 2)) x=gk rk (arrOf st) (k-1-x):=fun x hx=>by
     refine gk_eq ?_
     rw[getElem?_mirror_all hsz,if_pos (⟨Nat.zero_le _,hx⟩)]
     congr 1;lia
    show gk rk (mirror (arrOf st) 0 k ((k-0) / 2)) i<gk rk (mirror (arrOf st) 0 k ((k-0) / 2)) j
    rw[em i (Nat.lt_trans hij hj),em j hj]
    exact hk3 _ _ (Nat.sub_lt_sub_left (Nat.lt_of_lt_of_le hij (Nat.le_pred_of_lt hj)) hij) (Nat.lt_of_le_of_lt (Nat.sub_le _ _) (Nat.sub_lt (Nat.zero_lt_of_lt hj) Nat.one_pos))
   refine wpS_bind (s_asc hu H hB' hn (Nat.le_of_succ_le hk1) hk2 hinc fun q hq1 hq2 hq3 J=>?_)
   exact wpS_pure (h q _ hB' (Nat.le_of_succ_le (Nat.le_trans hk1 hq1)) hq2 hq3)
end
end
section
section
variable {C:Cx}{A:Around}{E:Value→Shared→Prop}{s:Shared}{κ:SortKind}{rk:Value→Int}{a₀:Array Keyed}
structure Spot (rk:Value→Int) (a:Array Keyed) (k l r:Nat):Prop where
 lr:l≤r
 rk_:r≤k
 lo:∀i,i<l→gk rk a i<gk rk a k
 hi:∀i,r≤i→i<k→gk rk a k<gk rk a i
theorem s_move {st:SortSt}{k l:Nat}(hB:SB κ a₀ st) (hk:k<a₀.size) (hs:Inc rk (arrOf st) k) (hp:Spot rk (arrOf st) k l l):Inc rk (bubble (arrOf st) k (k-l)) (k+1):=by
 have hks:k<(arrOf st).size:=by rw[hB.size];exact hk
 have hlk:=hp.rk_
 have g:=getElem?_bubble hks (k-l) (Nat.sub_le _ _)
 rw[Nat.sub_sub_self hlk] at g
 have eL:gk rk (bubble (arrOf st) k (k-l)) l=gk rk (arrOf st) k:=gk_eq ((g l).trans (if_pos rfl))
 have eM:∀x,l<x→x≤k→gk rk (bubble (arrOf st) k (k-l)) x=gk rk (arrOf st) (x-1):=fun x h1 h2=>gk_eq ((g x).trans ((if_neg (Nat.ne_of_gt h1)).trans (if_pos ⟨h1,h2⟩)))
 have eO:∀x,x<l→gk rk (bubble (arrOf st) k (k-l)) x=gk rk (arrOf st) x:=fun x h1=>gk_eq ((g x).trans ((if_neg (Nat.ne_of_lt h1)).trans (if_neg fun q=>Nat.lt_asymm q.1 h1)))
 intro i j hij hj
 have hjk:=Nat.le_of_lt_succ hj
 have h1:j-1<k:=Nat.lt_of_lt_of_le (Nat.sub_lt (Nat.zero_lt_of_lt hij) Nat.one_pos) hjk
 rcases Nat.lt_trichotomy i l with q | q | q
 ·rw[eO i q]
  rcases Nat.lt_trichotomy j l with p | p | p
  ·rw[eO j p];exact hs _ _ hij (Nat.lt_of_lt_of_le p hlk)
  ·rw[p,eL];exact hp.lo _ q
  ·rw[eM j p hjk];exact hs _ _ (Nat.lt_of_lt_of_le q (Nat.le_pred_of_lt p)) h1
 ·have p:l<j:=Nat.lt_of_le_of_lt (Nat.le_of_eq q.symm) hij
  rw[q,eL,eM j p hjk];exact hp.hi _ (Nat.le_pred_of_lt p) h1
 ·have p:=Nat.lt_trans q hij
  rw[eM i q (Nat.le_of_lt (Nat.lt_of_lt_of_le hij hjk)),eM j p hjk]
  exact hs _ _ (Nat.sub_lt_sub_right (Nat.zero_lt_of_lt q) hij) h1
theorem mid {l r:Nat}(h:l<r):l≤(l+r) / 2∧(l+r) / 2<r:=⟨(Nat.le_div_iff_mul_le (by decide)).mpr (by rw[Nat.mul_two];exact Nat.add_le_add_left (Nat.le_of_lt h) l),(Nat.div_lt_iff_lt_mul (by decide)).mpr (by rw[Nat.mul_two];exact Nat.add_lt_add_right h r)⟩
theorem sub_half1 {l m r a b:Nat}(h1:m<r) (h2:l≤m) (h:r-l≤a-b):m-l≤a-(b+1):=Nat.le_pred_of_lt (Nat.lt_of_lt_of_le (Nat.sub_lt_sub_right h2 h1) h)
theorem sub_half2 {l m r a b:Nat}(h1:m<r) (h2:l≤m) (h:r-l≤a-b):r-(m+1)≤a-(b+1):=Nat.le_pred_of_lt (Nat.lt_of_lt_of_le (Nat.sub_lt_sub_left (Nat.lt_of_le_of_lt h2 h1) (Nat.lt_succ_of_le h2)) h)
theorem s_bin {st:SortSt}{n ok:Nat}{Q:Bool→SortSt→Prop}(hu:A.units+64<cLine) (H:Ranks C s κ rk a₀) (hB:SB κ a₀ st) (hn:n≤a₀.size) (hok:ok≤n) (hok1:1≤ok) (hs:Inc rk (arrOf st) ok)
  (h:∀st',SB κ a₀ st'→Inc rk (arrOf st') n→Q true st'):wpS (model C.prog C.w) A E s (binarySort' 0 n ok) Q st:=by
 rw[binarySort'_eq]
 simp only[Nat.zero_add]
 rw[show max ok 1=ok by exact Nat.max_eq_left hok1]
 refine wpS_bind (wpS_mono (wpS_forRange (fun k c st'=>c=(none,())∧SB κ a₀ st'∧Inc rk (arrOf st') k) (Q:=fun c st'=>c=(none,())∧SB κ a₀ st'∧Inc rk (arrOf st') n) ?_ ?_ ⟨rfl,hB,hs⟩) ?_)
 ·rintro k c st' h1 h2 ⟨e1,B,S⟩
  subst e1
  refine wpS_bind (wpS_mono (wpS_forRange (fun x c st2=>st2=st'∧∃l r,c=(none,l,r)∧Spot rk (arrOf st') k l r∧r-l≤k-x) (Q:=fun c st2=>st2=st'∧∃l,c=(none,l,l)∧Spot rk (arrOf st') k l l) ?_ ?_ ?_) ?_)
  ·rintro x c st2 _ hx ⟨e2,l,r,e3,P,hm⟩
   subst e2;subst e3
   dsimp only
   have hlr:=P.lr
   have hrk:=P.rk_
   by_cases hge:l≥r
   ·rw[if_pos hge]
    obtain rfl:l=r:=Nat.le_antisymm hlr hge
    exact wpS_pure ⟨rfl,l,rfl,P⟩
   ·rw[if_neg hge]
    have hmd:=mid (Nat.lt_of_not_le hge)
    generalize (l+r) / 2=m at hmd ⊢
    have hmk:m<k:=Nat.lt_of_lt_of_le hmd.2 hrk
    have hne:gk rk (arrOf st2) k≠gk rk (arrOf st2) m:=fun e=>Nat.ne_of_gt hmk (B.ne H (Nat.lt_of_lt_of_le h2 hn) (Nat.lt_trans hmk (Nat.lt_of_lt_of_le h2 hn)) e)
    refine wpS_bind (s_lt hu H B (Nat.lt_of_lt_of_le h2 hn) (Nat.lt_trans hmk (Nat.lt_of_lt_of_le h2 hn)) ?_)
    show wpS _ _ _ _ (if decide (gk rk (arrOf st2) k<gk rk (arrOf st2) m)=true then _ else _) _ _
    by_cases hless:gk rk (arrOf st2) k<gk rk (arrOf st2) m
    ·rw[if_pos (decide_eq_true hless)]
     refine wpS_pure ⟨rfl,l,m,rfl,⟨hmd.1,Nat.le_of_lt hmk,P.lo,fun i hi1 hi2=>?_⟩,sub_half1 hmd.2 hmd.1 hm⟩
     rcases Nat.lt_or_eq_of_le hi1 with q | q
     ·exact Int.lt_trans hless (S _ _ q hi2)
     ·rw[← q];exact hless
    ·rw[if_neg (by rw[decide_eq_false hless];exact nofun)]
     refine wpS_pure ⟨rfl,m+1,r,rfl,⟨hmd.2,hrk,fun i hi=>?_,P.hi⟩,sub_half2 hmd.2 hmd.1 hm⟩
     have hgt:gk rk (arrOf st2) m<gk rk (arrOf st2) k:=(Int.lt_or_gt_of_ne hne).resolve_left hless
     rcases Nat.lt_or_eq_of_le (Nat.le_of_lt_succ hi) with q | q
     ·exact Int.lt_trans (S _ _ q hmk) hgt
     ·rw[q];exact hgt
  ·rintro c st2 ⟨e2,l,r,e3,P,hm⟩
   obtain rfl:l=r:=Nat.le_antisymm P.lr (Nat.le_of_sub_eq_zero (Nat.le_zero.mp (Nat.le_trans hm (Nat.le_of_eq (Nat.sub_eq_zero_of_le (Nat.le_max_right 0 k))))))
   exact⟨e2,l,e3,P⟩
  ·exact⟨rfl,0,k,rfl,⟨by exact Nat.zero_le _,by exact Nat.le_refl _,fun i hi=>by lia,fun i hi1 hi2=>by lia⟩,by exact Nat.le_refl _⟩
  ·rintro c st2 ⟨e2,l,e3,P⟩
   subst e2;subst e3
   show wpS _ _ _ _ (moveDown' k l>>=fun J=>pure (ForInStep.yield (none,()))) _ _
   rw[moveDown'_eq]
   exact wpS_bind (wpS_modify (wpS_pure ⟨rfl,B.set (bubble_perm _ _ _),s_move B (by exact Nat.lt_of_lt_of_le h2 hn) S P⟩))
 ·rintro c st' ⟨e1,B,S⟩
  rw[show max ok n=n by exact Nat.max_eq_right hok] at S
  exact⟨e1,B,S⟩
 ·rintro c st' ⟨e1,B,S⟩
  subst e1
  exact wpS_pure (h st' B S)
theorem s_runs {st:SortSt}{Q:Unit→SortSt→Prop}(hu:A.units+64<cLine) (H:Ranks C s κ rk a₀) (hB:SB κ a₀ st) (h2:2≤a₀.size) (h64:a₀.size<64)
  (h:∀st',(arrOf st').Perm a₀→failedOf st'=none→Inc rk (arrOf st') a₀.size→Q () st'):wpS (model C.prog C.w) A E s sortRuns' Q st:=by
 have hmr:∀f,minRun' (f+1) a₀.size 0=a₀.size:=fun f=>by rw[minRun'_succ,if_pos h64];rfl
 obtain⟨f,hf⟩:∃f,a₀.size=f+1:=⟨a₀.size-1,(Nat.succ_pred_eq_of_pos (Nat.lt_of_lt_of_le (by decide) h2)).symm⟩
 rw[sortRuns'_eq]
 refine wpS_bind (wpS_get ?_)
 dsimp only
 have hmin:minRun' a₀.size a₀.size 0=a₀.size:=by
  have:=hmr f
  rw[← hf] at this;exact this
 rw[hB.size,hmin]
 refine wpS_bind (wpS_mono (wpS_forRange (fun x c st'=>(x=0∧c=(none,0)∧SB κ a₀ st')∨(0<x∧c=(none,a₀.size)∧(arrOf st').Perm a₀∧failedOf st'=none∧(pendingOf st').size≤1∧Inc rk (arrOf st') a₀.size))
  (Q:=fun c st'=>c=(none,a₀.size)∧(arrOf st').Perm a₀∧failedOf st'=none∧(pendingOf st').size≤1∧Inc rk (arrOf st') a₀.size) ?_ ?_ (.inl ⟨rfl,rfl,hB⟩)) ?_)
 ·intro x c st' _ hx hI
  rcases hI with ⟨e0,e1,B⟩ | ⟨e0,e1,R⟩
  ·subst e0;subst e1
   dsimp only
   rw[if_neg (by exact Nat.not_le_of_lt hx)]
   simp only[Nat.sub_zero,Nat.min_self,Nat.zero_add]
   have last:∀st3,SB κ a₀ st3→Inc rk (arrOf st3) a₀.size→∀(Q':ForInStep (Option Unit×Nat)→SortSt→Prop),(∀st4,(arrOf st4).Perm a₀∧failedOf st4=none∧(pendingOf st4).size≤1∧Inc rk (arrOf st4) a₀.size→Q' (.yield (none,a₀.size)) st4) →
     Q' (.yield (none,a₀.size)) (setPending st3 ((pendingOf st3).push (0,a₀.size,0))):=fun st3 B3 S3 Q' hQ=>hQ _ ⟨B3.perm,B3.failed,by show((pendingOf st3).push _).size≤1;rw[B3.pend];simp,S3⟩
   refine wpS_bind (s_count hu H B (Nat.le_refl _) (by exact Nat.succ_le_of_lt hx) fun m st2 B2 hm1 hm2 S2=>?_)
   dsimp only
   by_cases hlt:m<a₀.size
   ·rw[if_pos hlt]
    refine wpS_bind (wpS_lift (wpAny_rule ⟨rfl,?_⟩))
    refine wpS_bind (s_bin hu H B2 (Nat.le_refl _) hm2 hm1 S2 fun st3 B3 S3=>?_)
    simp only[Bool.not_true,Bool.false_eq_true,if_false]
    refine wpS_bind (wpS_get ?_)
    rw[show(pendingOf st3).back?=none by rw[B3.pend];rfl]
    dsimp only
    exact wpS_bind (wpS_modify (wpS_pure (.inr ⟨Nat.zero_lt_one,rfl,B3.perm,B3.failed,by show((pendingOf st3).push _).size≤1;rw[B3.pend];simp,S3⟩)))
   ·rw[if_neg hlt]
    have hm:m=a₀.size:=by exact Nat.le_antisymm hm2 (Nat.le_of_not_lt hlt)
    subst hm
    refine wpS_bind (wpS_get ?_)
    rw[show(pendingOf st2).back?=none by rw[B2.pend];rfl]
    dsimp only
    exact wpS_bind (wpS_modify (wpS_pure (.inr ⟨Nat.zero_lt_one,rfl,B2.perm,B2.failed,by show((pendingOf st2).push _).size≤1;rw[B2.pend];simp,S2⟩)))
  ·subst e1
   dsimp only
   rw[if_pos (Nat.le_refl _)]
   exact wpS_pure ⟨rfl,R⟩
 ·intro c st' hI
  rcases hI with ⟨e0,e1,B⟩ | ⟨e0,e1,R⟩
  ·exact absurd (Nat.le_trans h2 (Nat.le_trans (Nat.le_max_right 0 _) (Nat.le_of_eq e0))) (by decide)
  ·exact⟨e1,R⟩
 ·rintro c st' ⟨e1,R1,R2,R3,R4⟩
  subst e1
  dsimp only
  refine wpS_bind (wpS_mono (wpS_forRange (fun J c st2=>st2=st'∧c=(none,())) (Q:=fun c st2=>st2=st'∧c=(none,())) ?_ (fun J J hh=>hh) ⟨rfl,rfl⟩) ?_)
  ·rintro x c st2 _ _ ⟨e2,e3⟩
   subst e2;subst e3
   refine wpS_bind (wpS_get ?_)
   rw[if_pos R3]
   exact wpS_pure ⟨rfl,rfl⟩
  ·rintro c st2 ⟨e2,e3⟩
   subst e2;subst e3
   exact wpS_pure (h _ R1 R2 R4)
end
end
section
noncomputable abbrev tup2:SortKind:=tuples' true
theorem keyLt_tup (x y:Value):keyLt' tup2 x y=(do
  let xs ← Builtin.List.listItems x;let ys ← Builtin.List.listItems y
  for ((p,q),i) in (xs.toList.zip ys.toList).zipIdx do
   if !(← eqBool p q) then return ← oneLt' (true&&i==0) p q
  return xs.size<ys.size):=rfl
theorem first_tup (v:Value):firstOfTuple' v=(do
  if (← typeOf v) != .type "tuple" then return none
  return (← Builtin.List.listItems v)[0]?):=rfl
noncomputable def PairAt (h:Heap) (v:Value) (p:Int×Nat):Prop:=∃a n t u,v=.ref a∧h.get? a=some (tObj [.int p.1 t,.int (p.2:Nat) u] n)
inductive PairsAt (h:Heap):List Value→List (Int×Nat)→Prop
 | nil:PairsAt h [] []
 | cons {v p vs ps}:PairAt h v p→PairsAt h vs ps→PairsAt h (v::vs) (p::ps)
theorem PairsAt.len {h:Heap}{vs ps} (x:PairsAt h vs ps):vs.length=ps.length:=by
 induction x with
 | nil=>rfl
 | cons _ _ ih=>exact congrArg Nat.succ ih
noncomputable abbrev pairD (p:Int×Nat):D:=.tuple [.int p.1,.int (p.2:Nat)]
noncomputable def rnk (p:Int×Nat):Int:=p.1*64+p.2
section
variable {C:Cx}{n:Nat}{sc:Scope}{Γ:Gm}{A:Around}{E:Value→Shared→Prop}{s:Shared}
theorem oneLt_false {a b:Int}{t u:Tok}{Q:Bool→Shared→Prop}(h:Q (decide (a<b)) s):wpAny (model C.prog C.w) A (oneLt' false (.int a t) (.int b u)) Q E s:=by
 rw[oneLt'_eq]
 refine wpAny_bind (richCompare_gives (op:=.Lt) (typeIs_int s a t) (typeIs_int s b u) PySem.F.slot_int_lt PySem.F.entry_int_lt (PySem.F.args_int_lt_2 _ _) (gives_int_lt a b t u) (fun x=>nomatch x) ?_)
 exact wpAny_truthy_bool h
theorem keyLt_pair {v w:Value}{p q:Int×Nat}{Q:Bool→Shared→Prop}(hv:PairAt s.heap v p) (hw:PairAt s.heap w q) (hp:p.2<64) (hq:q.2<64) (h:Q (decide (rnk p<rnk q)) s) :
  wpAny (model C.prog C.w) A (keyLt' tup2 v w) Q E s:=by
 obtain⟨a,k,t,u,rfl,ha⟩:=hv
 obtain⟨b,k',t',u',rfl,hb⟩:=hw
 obtain⟨x,i⟩:=p
 obtain⟨y,j⟩:=q
 dsimp only at hp hq ha hb
 unfold rnk at h
 dsimp only at h
 rw[keyLt_tup]
 refine wpAny_bind (listItems_at ha rfl ?_)
 refine wpAny_bind (listItems_at hb rfl ?_)
 simp only[List.zip_cons_cons,List.zip_nil_left,List.zipIdx_cons,List.zipIdx_nil,List.forIn_cons,List.forIn_nil,bind_assoc]
 refine wpAny_bind (wpAny_eqBool_int ?_)
 by_cases hxy:x=y
 ·subst hxy
  simp only[beq_self_eq_true,Bool.not_true,Bool.false_eq_true,if_false,pure_bind,bind_assoc]
  refine wpAny_bind (wpAny_eqBool_int ?_)
  by_cases hij:(i:Int)=j
  ·simp only[hij,beq_self_eq_true,Bool.not_true,Bool.false_eq_true,if_false,pure_bind]
   refine wpAny_pure ?_
   have e1:decide (x*64+(i:Int)<x*64+(j:Int))=false:=decide_eq_false (by lia)
   rw[e1] at h
   simpa using h
  ·have e1:((i:Int)==j)=false:=beq_eq_false_iff_ne.mpr hij
   simp only[e1,Bool.not_false,if_true,bind_assoc]
   refine wpAny_bind (oneLt_false ?_)
   simp only[pure_bind]
   refine wpAny_pure ?_
   have e2:decide (x*64+(i:Int)<x*64+(j:Int))=decide ((i:Int)<j):=decide_eq_decide.mpr (by lia)
   rwa [e2] at h
 ·have e1:(x==y)=false:=beq_eq_false_iff_ne.mpr hxy
  simp only[e1,Bool.not_false,if_true,bind_assoc]
  refine wpAny_bind (oneLt_int ?_)
  simp only[pure_bind]
  refine wpAny_pure ?_
  have e2:decide (x*64+(i:Int)<y*64+(j:Int))=decide (x<y):=decide_eq_decide.mpr (by lia)
  rwa [e2] at h
theorem firsts_tup {vs:List Value}{ps:List (Int×Nat)}(hp:PairsAt s.heap vs ps):∀{Q:List (Option Value)→Shared→Prop},(∀fs:List Value,IntsAre fs (ps.map (·.1))→Q (fs.map some) s)→wpAny (model C.prog C.w) A (vs.mapM firstOfTuple') Q E s:=by
 induction hp with
 | nil=>intro Q h;rw[List.mapM_nil];exact wpAny_pure (h [] .nil)
 | @cons v p _ _ hv hr ih=>
  intro Q h
  rw[List.mapM_cons]
  obtain⟨a,k,t,u,rfl,ha⟩:=hv
  refine wpAny_bind ?_
  rw[first_tup]
  refine wpAny_bind (wpAny_typeOf (T:="tuple") ⟨_,ha,rfl⟩ ?_)
  rw[if_neg (by decide)]
  refine wpAny_bind (listItems_at ha rfl (wpAny_pure ?_))
  exact wpAny_bind (ih fun fs hf=>wpAny_pure (h (.int p.1 t::fs) (.cons _ _ hf)))
theorem kind_tup {vs:List Value}{ps:List (Int×Nat)}{Q:SortKind→Shared→Prop}(hv:PairsAt s.heap vs ps) (hl:2≤vs.length) (h:Q tup2 s):wpAny (model C.prog C.w) A (keyKind' vs.toArray) Q E s:=by
 rw[keyKind'_eq,List.mapM_toArray]
 have hps:vs.length=ps.length:=hv.len
 refine wpAny_bind ?_
 refine wpAny_map (firsts_tup hv fun fs hf=>?_)
 have hfl:fs.length=ps.length:=by have:=hf.length;simpa using this
 have h1:((fs.map some).toArray.all fun x=>x.isSome)=true:=by simp
 rw[if_pos h1]
 refine wpAny_bind (wpAny_rule ?_)
 have h2:((fs.map some).toArray.filterMap id)=fs.toArray:=by simp
 have h3:oneTypeOnly' fs.toArray=pure (some (.type "int")):=by
  rw[oneTypeOnly'_eq,List.mapM_toArray,mapM_typeOf_ints hf]
  simp only[map_pure,pure_bind]
  have h4:(List.map (fun J=>Value.type "int") fs).toArray[0]?=some (Value.type "int"):=by
   cases fs with
   | nil=>simp at hfl;lia
   | cons a r=>simp
  rw[h4]
  have h5:((List.map (fun J=>Value.type "int") fs).toArray.all fun x=>x==Value.type "int")=true:=by
   simp only[List.all_toArray,List.all_map,List.all_eq_true]
   intro _ _;rfl
  simp only[h5,if_true]
 rw[h2,h3]
 exact wpAny_bind (wpAny_pure (wpAny_pure h))
end
end
section
theorem PairsAt.keep {h h':Heap}{vs ps} (x:PairsAt h vs ps) (k:∀b o,o.cls=.type "tuple"→h.get? b=some o→h'.get? b=some o):PairsAt h' vs ps:=by
 induction x with
 | nil=>exact .nil
 | cons a _ ih=>obtain⟨a,n,t,u,e,g⟩:=a;exact .cons ⟨a,n,t,u,e,k _ _ rfl g⟩ ih
theorem PairsAt.mem {h:Heap}{vs ps} (x:PairsAt h vs ps) (v:Value) (hv:v∈vs):∃p∈ps,PairAt h v p:=by
 induction x with
 | nil=>cases hv
 | cons a _ ih=>
  rcases List.mem_cons.mp hv with e | hv
  ·exact⟨_,List.mem_cons_self,e▸a⟩
  ·obtain⟨p,hp,x⟩:=ih hv;exact⟨p,List.mem_cons_of_mem _ hp,x⟩
theorem PairAt.same {h:Heap}{v:Value}{p q:Int×Nat}(x:PairAt h v p) (y:PairAt h v q):p=q:=by
 obtain⟨a,n,t,u,rfl,g⟩:=x
 obtain⟨b,n',t',u',e,g'⟩:=y
 cases e
 rw[g] at g'
 simp only[Option.some.injEq,Obj.mk.injEq,Data.seq.injEq,true_and,and_true] at g'
 obtain⟨p1,p2⟩:=p
 obtain⟨q1,q2⟩:=q
 have g2:=congrArg Array.toList g'.1
 dsimp only at g2
 simp only[List.cons.injEq,Value.int.injEq] at g2
 rw[g2.1.1,Int.ofNat.inj g2.2.1.1]
open Classical in
noncomputable def pairOf (h:Heap) (v:Value):Int×Nat:=if x:∃p,PairAt h v p then x.choose else (0,0)
theorem pairOf_eq {h:Heap}{v:Value}{p:Int×Nat}(x:PairAt h v p):pairOf h v=p:=by
 unfold pairOf
 rw[dif_pos ⟨p,x⟩]
 exact(Exists.choose_spec (p:=fun p=>PairAt h v p) ⟨p,x⟩).same x
theorem PairsAt.map {h:Heap}{vs ps} (x:PairsAt h vs ps):vs.map (pairOf h)=ps:=by
 induction x with
 | nil=>rfl
 | cons a _ ih=>rw[List.map_cons,pairOf_eq a,ih]
section
variable {C:Cx}{n:Nat}{sc:Scope}{Γ:Gm}{A:Around}{E:Value→Shared→Prop}{s:Shared}
theorem ranks_of {vs:List Value}{ps:List (Int×Nat)}(hv:PairsAt s.heap vs ps) (hn:(ps.map rnk).Nodup) (h64:∀p∈ps,p.2<64):Ranks C s tup2 (fun v=>rnk (pairOf s.heap v)) (pairsOf vs):=by
 refine⟨?_,fun x hx y hy A E Q hu q=>?_⟩
 ·rw[pairsOf_toList]
  have:(vs.zip vs).map (fun p=>rnk (pairOf s.heap p.1))=ps.map rnk:=by
   have e:(vs.zip vs).map (fun p=>rnk (pairOf s.heap p.1))=(((vs.zip vs).map Prod.fst).map (pairOf s.heap)).map rnk:=by rw[List.map_map,List.map_map];rfl
   rw[e,List.map_fst_zip (Nat.le_refl _),hv.map]
  rw[this];exact hn
 ·rw[pairsOf_toList] at hx hy
  obtain⟨p,hp,x1⟩:=hv.mem _ (mem_zip_self hx).2
  obtain⟨p',hp',x2⟩:=hv.mem _ (mem_zip_self hy).2
  rw[pairOf_eq x1,pairOf_eq x2] at q
  exact keyLt_pair x1 x2 (h64 _ hp) (h64 _ hp') q
theorem sorted_is {h:Heap}{vs:List Value}{ps qs:List (Int×Nat)}(hv:PairsAt h vs ps) (hp:qs.Perm ps) (hs:qs.Pairwise fun a b=>rnk a<rnk b) {xs:Array Keyed}(hx:xs.Perm (pairsOf vs)) (hi:Inc (fun v=>rnk (pairOf h v)) xs (pairsOf vs).size) :
  (xs.map (·.2)).toList.Perm vs∧(xs.map (·.2)).toList.map (pairOf h)=qs:=by
 have hl:xs.toList.Perm (vs.zip vs):=by rw[← pairsOf_toList];exact Array.perm_iff_toList_perm.mp hx
 have h2:(xs.map (·.2)).toList.Perm vs:=by
  have:=hl.map Prod.snd
  rwa [List.map_snd_zip (Nat.le_refl _),← Array.toList_map] at this
 refine⟨h2,?_⟩
 have hperm:((xs.map (·.2)).toList.map (pairOf h)).Perm qs:=(h2.map (pairOf h)).trans (by rw[hv.map];exact hp.symm)
 refine List.Perm.eq_of_pairwise (le:=fun a b=>rnk a<rnk b) (fun a b J J h1 h2=>by lia) ?_ hs hperm
 rw[List.pairwise_iff_getElem]
 intro i j hi' hj' hij
 have hsz:xs.size=(pairsOf vs).size:=hx.size_eq
 have i1:i<xs.size:=by simpa using hi'
 have j1:j<xs.size:=by simpa using hj'
 have key:∀k (hk:k<xs.size),gk (fun v=>rnk (pairOf h v)) xs k=rnk (pairOf h xs[k].2):=fun k hk=>by
  have hm:xs[k]∈vs.zip vs:=hl.mem_iff.mp (by simp)
  unfold gk
  rw[getElem?_pos xs k hk,← (mem_zip_self hm).1]
 have:=hi i j hij (Nat.lt_of_lt_of_eq j1 hsz)
 rw[key i i1,key j j1] at this
 simpa using this
theorem sort_pairs {a:Addr}{vs:List Value}{ps qs:List (Int×Nat)}{k:Nat}{P:Fin→Shared→Prop}(ho:s.heap.get? a=some (seqObj "list" vs.toArray k)) (hv:PairsAt s.heap vs ps) (hp:qs.Perm ps)
  (hs:qs.Pairwise fun a b=>rnk a<rnk b) (h64:∀p∈ps,p.2<64) (hl:2≤vs.length∧vs.length<64) (hu:A.units+64<cLine)
  (h:∀out:Array Value,out.toList.Perm vs→out.toList.map (pairOf s.heap)=qs→P (.done (.ret .none)) { s with heap:=sortedHeap s.heap a vs out }):wpAny (model C.prog C.w) A (Builtin.«list.sort» ⟨[.ref a],[]⟩) P E s:=by
 have ha:a<s.heap.objs.size:=Heap.lt_size ho
 rw[list_sort_plain]
 refine wpAny_bind (listItems_at ho rfl (wpAny_bind (listUpdate_at ho rfl ?_)))
 have ho1:=get?_update_seq ho (fun J=>#[])
 generalize (if (#[]:Array Value).size==vs.toArray.size then k else k+1)=e1 at ho1
 refine wpAny_bind (seqEpoch_at ho1 rfl (wpAny_bind (wpAny_newTuple (wpAny_bind (wpAny_newList (wpAny_holding ?_))))))
 generalize hs6:({ s with heap:=((s.heap.update a (Obj.mapSeq fun J=>#[])).push (seqObj "tuple" vs.toArray 0)).push (seqObj "list" #[] 0) }:Shared)=s6
 have hH:s6.heap=((s.heap.update a (Obj.mapSeq fun J=>#[])).push (seqObj "tuple" vs.toArray 0)).push (seqObj "list" #[] 0):=by rw[← hs6]
 have keep:∀b o,b≠a→s.heap.get? b=some o→s6.heap.get? b=some o:=fun b o hb e=>by
  have hlt:=Heap.lt_size e
  rw[hH,Heap.get?_push_ne _ _ _ (by rw[size_push',Heap.size_update];exact Nat.ne_of_lt (Nat.lt_succ_of_lt hlt)),Heap.get?_push_ne _ _ _ (by rw[Heap.size_update];exact Nat.ne_of_lt hlt),Heap.get?_update_ne _ _ _ _ hb]
  exact e
 have ho6:s6.heap.get? a=some (seqObj "list" #[] e1):=by
  rw[hH,Heap.get?_push_ne _ _ _ (by rw[size_push',Heap.size_update];exact Nat.ne_of_lt (Nat.lt_succ_of_lt ha)),Heap.get?_push_ne _ _ _ (by rw[Heap.size_update];exact Nat.ne_of_lt ha)]
  exact ho1
 have hv6:PairsAt s6.heap vs ps:=hv.keep fun b o hc e=>keep b o (by
  rintro rfl
  rw[ho] at e;cases e;exact absurd hc (by simp)) e
 have hpair:∀v∈vs,pairOf s6.heap v=pairOf s.heap v:=fun v hvm=>by
  obtain⟨p,_,x⟩:=hv.mem v hvm
  have x6:PairAt s6.heap v p:=by
   obtain⟨b,n,t,u,e,g⟩:=x
   exact⟨b,n,t,u,e,keep b _ (by
    rintro rfl
    rw[ho] at g
    have hc:=congrArg (fun o:Option Obj=>o.map Obj.cls) g
    simp at hc) g⟩
  rw[pairOf_eq x,pairOf_eq x6]
 have hR:Ranks C s6 tup2 (fun v=>rnk (pairOf s6.heap v)) (pairsOf vs):=ranks_of hv6 ((hp.map rnk).nodup_iff.mp (List.pairwise_map.mpr (hs.imp fun hlt he=>by exact Int.not_lt_of_ge (Int.le_of_eq he.symm) hlt))) h64
 dsimp only
 have hsz:vs.toArray.size=vs.length:=by simp
 rw[if_neg (by exact Nat.not_lt_of_le hl.1),if_neg (by exact Nat.not_lt_of_le hl.1)]
 refine wpAny_bind (kind_tup hv6 hl.1 ?_)
 refine wpAny_bind (wpAny_mono (s_runs (κ:=tup2) hu hR (st:=SortSt.mk' tup2 (pairsOf vs) #[] 7 none) (Q:=fun J st'=>(arrOf st').Perm (pairsOf vs)∧failedOf st'=none∧Inc (fun v=>rnk (pairOf s6.heap v)) (arrOf st') (pairsOf vs).size)
  ⟨Array.Perm.refl _,rfl,rfl,rfl⟩ (by rw[pairsOf_size];exact hl.1) (by rw[pairsOf_size];exact hl.2) fun st' a1 a2 a3=>⟨a1,a2,a3⟩) ?_ fun J J e=>e)
 rintro⟨⟨⟩,st'⟩ s' ⟨rfl,q1,q2,q3⟩
 dsimp only
 refine wpAny_bind (seqEpoch_at ho6 rfl ?_)
 refine wpAny_bind (listUpdate_at ho6 rfl ?_ (hsz2:=by refine Nat.le_trans (Nat.le_of_eq ((Array.size_map ..).trans (q1.size_eq.trans (pairsOf_size _)))) ?_;rw[sizeLine_eq];exact Nat.le_of_lt (Nat.lt_of_lt_of_le hl.2 (by decide))))
 rw[q2]
 simp only[bne_self_eq_false,Bool.false_eq_true,if_false]
 refine wpAny_pure ?_
 obtain⟨r1,r2⟩:=sorted_is hv6 hp hs q1 q3
 have r3:((arrOf st').map (·.2)).toList.map (pairOf s.heap)=qs:=by
  rw[← r2]
  exact List.map_congr_left fun v hvm=>(hpair v (r1.mem_iff.mp hvm)).symm
 have:=h _ r1 r3
 unfold sortedHeap at this
 rw[← hH] at this
 rw[← hs6] at this ⊢
 exact this
end
end
section
section
variable {C:Cx}{n:Nat}{sc:Scope}{Γ:Gm}
theorem pairs_at {F:FZ}{s:Shared}(i:F.In s.heap) {vs:List Value}{ps:List (Int×Nat)}(h:RA C F vs (ps.map pairD)):PairsAt s.heap vs ps:=by
 induction ps generalizing vs with
 | nil=>rw[h.nil_inv];exact .nil
 | cons p ps ih=>
  obtain⟨v,vs,rfl,a,r⟩:=h.cons_inv
  obtain⟨b,ws,k,e1,e,ra⟩:=a.tuple_inv
  obtain⟨x,y,rfl,a1,a2⟩:=ra.two_inv
  obtain⟨t,rfl⟩:=a1.int_inv
  obtain⟨u,rfl⟩:=a2.int_inv
  exact .cons ⟨b,k,t,u,e1,i _ _ e⟩ (ih r)
theorem pairs_ra {F:FZ}{h:Heap}:∀{l:List Value},(∀v∈l,R C F v (pairD (pairOf h v)))→RA C F l ((l.map (pairOf h)).map pairD)
 | [],_=>.nil
 | v::l,hh=>.cons (hh v List.mem_cons_self) (pairs_ra fun u hu=>hh u (List.mem_cons_of_mem _ hu))
theorem pairs_mem {F:FZ}{s:Shared}(i:F.In s.heap) {vs:List Value}{ps:List (Int×Nat)}(h:RA C F vs (ps.map pairD)):∀v∈vs,R C F v (pairD (pairOf s.heap v)):=fun v hv=>by
 obtain⟨k,hk,rfl⟩:=List.getElem_of_mem hv
 obtain⟨d,hd,r⟩:=h.get?' (List.getElem?_eq_getElem hk)
 rw[List.getElem?_map] at hd
 obtain⟨p,hp,rfl⟩:=Option.map_eq_some_iff.mp hd
 have x:=pairs_at (vs:=[vs[k]]) (ps:=[p]) i (RA.one (C:=C) (F:=F) (v:=vs[k]) (d:=pairD p) r)
 cases x with
 | @cons _ _ p' _ x _=>rw[pairOf_eq x];exact r
theorem c_sorted_pairs {ps qs:List (Int×Nat)}(hp:qs.Perm ps) (hs:qs.Pairwise fun a b=>rnk a<rnk b) (h64:∀p∈ps,p.2<64) (hl:2≤ps.length∧ps.length<64):Calls C n (.builtin "sorted") [.list (ps.map pairD)] (.list (qs.map pairD)):=by
 intro A F s vs hR hO hr
 obtain⟨_,rfl,r1⟩:=hr.one_inv
 obtain⟨l,ws,k,rfl,el,ra⟩:=r1.list_inv
 have P:=pairs_at hO.inn ra
 have hlen:=P.len
 have hl':=hO.inn _ _ el
 have hIL:s.heap.IsList l ws.toArray:=⟨_,hl',rfl,_,rfl⟩
 refine Calls.call_function_entry kind_sorted plain_sorted entry_sorted (args_sorted1 _) ?_
 unfold Builtin.«sorted»
 refine wpAny_bind (m:=checkCount "sorted" 1 1 _) (wpAny_pure ?_)
 refine wpAny_bind (collect_list hIL ?_ (by rw[sizeLine_eq];exact Nat.le_of_lt (Nat.lt_of_le_of_lt (Nat.le_of_eq hlen) (Nat.lt_of_lt_of_le hl.2 (by decide)))))
 refine wpAny_bind (wpAny_newList ?_)
 have hsz:((s.heap.push (seqObj "list" #[] 0)).update s.heap.objs.size (Obj.mapSeq (·++ws.toArray))).objs.size=s.heap.objs.size+1:=by rw[Heap.size_update,size_push']
 generalize hH1:(s.heap.push (seqObj "list" #[] 0)).update s.heap.objs.size (Obj.mapSeq (·++ws.toArray))=H1 at hsz
 have k1:∀b o,s.heap.get? b=some o→H1.get? b=some o:=fun b o e=>by
  have hlt:=Heap.lt_size e
  rw[← hH1,Heap.get?_update_ne _ _ _ _ (Nat.ne_of_lt hlt),Heap.get?_push_ne _ _ _ (Nat.ne_of_lt hlt)];exact e
 have hoL:(H1.push (seqObj "list" ws.toArray 0)).get? (s.heap.objs.size+1)=some (seqObj "list" ws.toArray 0):=by rw[← hsz];exact Heap.get?_push_size _ rfl
 show wpAny _ _ _ _ _ { s with heap:=H1.push (seqObj "list" ws.toArray 0) }
 rw[hsz]
 have k2:∀b o,s.heap.get? b=some o→(H1.push (seqObj "list" ws.toArray 0)).get? b=some o:=fun b o e=>Heap.get?_push_of_some _ (k1 b o e)
 have P2:PairsAt (H1.push (seqObj "list" ws.toArray 0)) ws ps:=P.keep fun b o J e=>k2 b o e
 have hu:=hR.u64
 refine wpAny_bind (wpAny_holding (wpAny_call_entry slot_list_sort ⟨_,hoL,rfl⟩ entry_list_sort (sort_pairs (s:={ s with heap:=H1.push (seqObj "list" ws.toArray 0) }) hoL P2 hp hs h64 (by lia) ?_ fun out a1 a2=>⟨_,rfl,?_⟩) (args_list_sort _)))
 ·have h1:=hR.units
  unfold cLine
  simp only[Around.in1_units]
  lia
 ·refine wpAny_pure ⟨_,rfl,?_⟩
  have hall:sortedHeap (H1.push (seqObj "list" ws.toArray 0)) (s.heap.objs.size+1) ws out=sortedAll s.heap ws out:=by unfold sortedAll;rw[hH1]
  dsimp only
  rw[hall]
  obtain⟨e,he⟩:=sortedAll_at s.heap ws out
  have hmp:∀v∈ws,pairOf (H1.push (seqObj "list" ws.toArray 0)) v=pairOf s.heap v:=fun v hv=>by
   obtain⟨p,_,x⟩:=P.mem v hv
   have y:PairAt (H1.push (seqObj "list" ws.toArray 0)) v p:=by obtain⟨b,n,t,u,e,g⟩:=x;exact⟨b,n,t,u,e,k2 b _ g⟩
   rw[pairOf_eq x,pairOf_eq y]
  have q1:RA C F out.toList (qs.map pairD):=by
   rw[← a2]
   have:out.toList.map (pairOf (H1.push (seqObj "list" ws.toArray 0)))=out.toList.map (pairOf s.heap):=List.map_congr_left fun v hv=>hmp v (a1.mem_iff.mp hv)
   dsimp only
   rw[this]
   exact pairs_ra fun v hv=>pairs_mem hO.inn ra v (a1.mem_iff.mp hv)
  have hsz2:s.heap.objs.size≤(sortedAll s.heap ws out).objs.size:=Nat.le_trans (Nat.le_succ _) (Nat.le_of_lt (Heap.lt_size he))
  have g0:Grow F F s { s with heap:=sortedAll s.heap ws out }:=Grow.same hO.inn (fun b o e=>sortedAll_old e) hsz2
  have g1:=g0.freeze (a:=s.heap.objs.size+1) (o:=lObj out.toList e) (Nat.le_succ _) (hO.inn.none (Nat.le_succ _)) he
  exact⟨_,g1,.list FZ.add_self (q1.mono g1.le)⟩
theorem ints_ra {F:FZ}{vs:List Value}{ns:List Int}(h:IntsAre vs ns):RA C F vs (ns.map .int):=by
 induction h with
 | nil=>exact .nil
 | cons i t _ ih=>exact .cons (.int i t) ih
theorem c_sorted_ints {ns zs:List Int}(hp:zs.Perm ns) (hs:zs.Pairwise (·≤·)) (hl:ns.length<64):Calls C n (.builtin "sorted") [zD ns] (zD zs):=by
 intro A F s vs hR hO hr
 obtain⟨_,rfl,r1⟩:=hr.one_inv
 obtain⟨l,ws,k,rfl,el,ra⟩:=r1.list_inv
 have hIL:s.heap.IsList l ws.toArray:=⟨_,hO.inn _ _ el,rfl,_,rfl⟩
 have hlen:=ra.length
 rw[List.length_map] at hlen
 refine sorted_ints hIL (ints_are ra) (Nat.lt_of_le_of_lt (Nat.le_of_eq hlen) hl) fun out ns' a1 a2 a3=>?_
 have e:ns'=zs:=(a2.trans hp.symm).eq_of_pairwise (le:=fun a b:Int=>a≤b) (fun a b J J h1 h2=>Int.le_antisymm h1 h2) a3 hs
 subst e
 obtain⟨e,he⟩:=sortedAll_at s.heap ws out
 have hsz2:s.heap.objs.size≤(sortedAll s.heap ws out).objs.size:=Nat.le_trans (Nat.le_succ _) (Nat.le_of_lt (Heap.lt_size he))
 have g0:Grow F F s { s with heap:=sortedAll s.heap ws out }:=Grow.same hO.inn (fun b o e=>sortedAll_old e) hsz2
 have g1:=g0.freeze (a:=s.heap.objs.size+1) (o:=lObj out.toList e) (Nat.le_succ _) (hO.inn.none (Nat.le_succ _)) he
 exact⟨_,g1,.list FZ.add_self ((ints_ra a1).mono g1.le)⟩
end
end
section
noncomputable abbrev Sg (C:Cx) (A:Around) (c:Code) (t:Sem PySem.Fin) (fs:List Frame) (s:Shared) (P:End→Shared→Prop):Prop:=PySem.W.X.SegX (model C.prog C.w) A c t fs s P
section
variable {C:Cx}{A:Around}{c:Code}{fs:List Frame}{P:End→Shared→Prop}{s:Shared}{α:Type}
theorem g_wrap {m:Sem α}{K:α→Sem PySem.Fin}{H:Value→Sem PySem.Fin}{gd:Bool→Bool}{lv:List Value→List Value}(h:Wp C (A.over c fs) m (fun a s'=>Sg C A c (K a) fs s' P) s):Sg C A c (m.wrap K H gd lv) fs s P:=by
 rintro Γ p rfl hΓ
 obtain⟨e,s',hr,hq⟩:=runs_wrap_of_wp (Φ:=fun e s'=>e.quiet=true∧P e s') K H gd lv m (h (Γ.over fs) p (hΓ.over fs)) (fun a p' s' h'=>h' Γ p' rfl hΓ) (fun x p' s' h'=>h'.elim)
 exact⟨e,s',hr,hq⟩
theorem g_bind {m:Sem α}{K:α→Sem PySem.Fin}(h:Wp C (A.over c fs) m (fun a s'=>Sg C A c (K a) fs s' P) s):Sg C A c (m>>=K) fs s P:=by
 rw[Sem.bind_eq_wrap'];exact g_wrap h
theorem g_bindw {β:Type}{m:Sem α}{f:α→Sem β}{K:β→Sem PySem.Fin}{H:Value→Sem PySem.Fin}{gd:Bool→Bool}{lv:List Value→List Value}(h:Wp C (A.over c fs) m (fun a s'=>Sg C A c ((f a).wrap K H gd lv) fs s' P) s):Sg C A c ((m>>=f).wrap K H gd lv) fs s P:=by
 rw[Sem.bind_eq_wrap',Sem.wrap_wrap];exact g_wrap h
theorem g_call {c':Code}{hd:Option Value}{g:Bool}{l:List Value}{k:Result→Sem PySem.Fin}(h:∀p,Sg C A c' ((model C.prog C.w).den c') (.ret k hd g l c p []::fs) s P):Sg C A c (.call c' hd g l k) fs s P:=by
 rintro Γ p rfl hΓ
 obtain⟨e,s',hr,hq⟩:=h p (Γ.goto c') p rfl (hΓ.goto c')
 exact⟨e,s',runs_call_seg hr,hq⟩
theorem g_again {c':Code}(hq:c'.quiet=true) (h:Sg C A c' ((model C.prog C.w).den c') fs s P):Sg C A c (.pure (.again c')) fs s P:=by
 rintro Γ p rfl hΓ
 obtain⟨e,s',hr,hq'⟩:=h (Γ.goto c') p rfl (hΓ.goto c')
 exact⟨e,s',Runs.head (c₁:=c') (fun J J y=>.again hq y) hr,hq'⟩
theorem g_pop {f:Flow}{k:Result→Sem PySem.Fin}{hd:Option Value}{g:Bool}{l:List Value}{c₁:Code}{p₁:Pos}{kp:List Value}(h:Sg C A c₁ (k (.ok f)) fs s P):Sg C A c (.pure (.done f)) (.ret k hd g l c₁ p₁ kp::fs) s P:=by
 rintro Γ p rfl hΓ
 obtain⟨e,s',hr,hq⟩:=h (Γ.goto c₁) p₁ rfl (hΓ.goto c₁)
 exact⟨e,s',Runs.pop (.ok f) hr,hq⟩
theorem g_end {f:Flow}(h:P (.ret (.ok f)) s):Sg C A c (.pure (.done f)) [] s P:=by
 rintro Γ p rfl _
 exact⟨.ret (.ok f),s,Runs.leaf (.ok f),rfl,h⟩
theorem g_yield {v:Value}{g:Bool}{l:List Value}{k:Resume→Sem PySem.Fin}(hfs:splitAtGen fs=none) (hg:g=false) (hfg:fs.any Frame.guarded=false) (h:∀p,P (.susp v g l k c p fs) s):Sg C A c (.yield v g l k) fs s P:=by
 rintro Γ p rfl _
 exact⟨_,s,Runs.yield' fs hfs,by subst hg;simp[End.quiet,hfg],h p⟩
variable {env:Env}{K:Flow→Sem PySem.Fin}{H:Value→Sem PySem.Fin}{gd:Bool→Bool}{lv:List Value→List Value}
theorem g_nil (h:Sg C A c (K .next) fs s P):Sg C A c ((execs [] env).wrap K H gd lv) fs s P:=h
theorem g_cons {st:Stmt}{rest:List Stmt}(h:Sg C A c ((exec st env).wrap (fun f=>match f with | .next=>(execs rest env).wrap K H gd lv | f=>K f) H gd lv) fs s P):Sg C A c ((execs (st::rest) env).wrap K H gd lv) fs s P:=by
 rw[execs_cons_wrap];exact h
theorem g_step {st:Stmt}{rest:List Stmt}{Q:Shared→Prop}(h:Wp C (A.over c fs) (exec st env) (fun f s'=>f=.next∧Q s') s) (k:∀s',Q s'→Sg C A c ((execs rest env).wrap K H gd lv) fs s' P):Sg C A c ((execs (st::rest) env).wrap K H gd lv) fs s P:=by
 refine g_cons (g_wrap (h.imp fun f s' hZ=>?_))
 obtain⟨e,q⟩:=hZ
 subst e
 exact k s' q
theorem g_if {test:Expr}{body orelse:List Stmt}{pos:Pos}(h:Wp C (A.over c fs) (isTrue test env (eval test env)) (fun b s'=>Sg C A c ((execs (if b=true then body else orelse) env).wrap K H gd lv) fs s' P) s):Sg C A c ((exec (.If test body orelse pos) env).wrap K H gd lv) fs s P:=by
 rw[exec_If]
 refine g_bindw (wpAny_standAt (g_bindw (h.imp fun b s' q=>?_)))
 cases b <;> exact q
theorem g_yields {e:Expr}{ypos pos:Pos}(hfs:splitAtGen fs=none) (hgd:gd false=false) (hfg:fs.any Frame.guarded=false) (hco:env.scope.isCoroutine=false) (hi:interactive env=false)
  (h:Wp C (A.over c fs) (eval e env) (fun v s'=>∀p l k,k (.send .none)=K .next→P (.susp v false l k c p fs) s') s) :
  Sg C A c ((exec (.Expr (.Yield (some e) ypos) pos) env).wrap K H gd lv) fs s P:=by
 rw[exec_Expr env _ _ hi rfl]
 refine g_bindw (wpAny_standAt ?_)
 have ee:eval (.Yield (some e) ypos) env=(do let v ← eval e env;standAt ypos;yieldOut env v):=rfl
 rw[ee]
 have hy:∀v,yieldOut env v=yieldValue v:=fun v=>by simp only[yieldOut,hco,Bool.false_eq_true,if_false]
 simp only[hy,bind_assoc]
 refine g_bindw (h.imp fun v s' q=>?_)
 refine g_bindw (wpAny_standAt ?_)
 show Sg C A c (.yield v (gd false) (lv []) _) fs s' P
 rw[hgd]
 exact g_yield hfs rfl hfg fun p=>q p _ _ rfl
end
end
section
section
variable {C:Cx}{A:Around}{c:Code}{fs:List Frame}{P:End→Shared→Prop}{s:Shared}{env:Env}{K:Flow→Sem PySem.Fin}{H:Value→Sem PySem.Fin}{gd:Bool→Bool}{lv:List Value→List Value}
theorem g_func {body:List Stmt}(h:∀(K:Flow→Sem PySem.Fin) H gd lv,K .next=.pure (.done (.ret .none))→gd false=false→Sg C A (.func body env) ((execs body env).wrap K H gd lv) fs s P):Sg C A (.func body env) ((model C.prog C.w).den (.func body env)) fs s P:=by
 show Sg C A _ (point>>=fun J=>((execs body env).onRaise (leaving env))>>=fun f=>match f with | .ret v=>ret v | _=>ret .none) fs s P
 refine g_bind (wpAny_point ?_)
 rw[Sem.onRaise_eq_wrap,Sem.bind_eq_wrap',Sem.wrap_wrap]
 exact h _ _ _ _ rfl rfl
theorem g_for {tgt iter:Expr}{body orelse:List Stmt}{pos:Pos}(hs:∀x,foldedSetIterable iter env x=pure x)
  (h:Wp C (A.over c fs) (eval iter env) (fun x s₁=>Wp C (A.over c fs) (pyIter x) (fun it s₂=>∀p k l,(∀f,k (.ok f)=K f) →
   Sg C A (.forLoop tgt it body orelse env) ((model C.prog C.w).den (.forLoop tgt it body orelse env)) (.ret k none (gd false) l c p []::fs) s₂ P) s₁) s) :
  Sg C A c ((exec (.For tgt iter body orelse pos) env).wrap K H gd lv) fs s P:=by
 rw[exec_For]
 refine g_bindw (wpAny_standAt (g_bindw (h.imp fun x s₁ h₁=>?_)))
 refine g_bindw (wpAny_of_eq (hs x) (g_bindw (wpAny_standAt (g_bindw (wpAny_holding (Wp.imp h₁ fun it s₂ h₂=>?_))))))
 refine g_call fun p=>h₂ p _ _ fun f=>?_
 rfl
theorem g_turn {tgt:Expr}{it:Value}{body:List Stmt}
  (h:Wp C (A.over (.forLoop tgt it body [] env) fs) (pyNext it) (fun r s₁=>match r with
   | none=>Sg C A (.block [] env) (.pure (.done .next)) fs s₁ P
   | some v=>Wp C (A.over (.forLoop tgt it body [] env) fs) (letOwnedTupleGo tgt it v) (fun J s₂=>Wp C (A.over (.forLoop tgt it body [] env) fs) (assign tgt env v) (fun J s₃=>
     ∀(K:Flow→Sem PySem.Fin) H gd lv,K .next=.pure (.again (.forLoop tgt it body [] env))→gd false=false→Sg C A (.forLoop tgt it body [] env) ((execs body env).wrap K H gd lv) fs s₃ P) s₂) s₁) s) :
  Sg C A (.forLoop tgt it body [] env) ((model C.prog C.w).den (.forLoop tgt it body [] env)) fs s P:=by
 show Sg C A _ ((forTurn tgt it body [] env).onRaise (fun x=>do noteFrame x env;theTreesLotGoes x)) fs s P
 unfold forTurn
 rw[Sem.onRaise_eq_wrap]
 refine g_bindw (wpAny_standAt (g_bindw (wpAny_onRaise (wpAny_mono h (fun r s₁ h₁=>?_) fun J J e=>e.elim))))
 cases r with
 | none=>
  refine g_again rfl ?_
  exact h₁
 | some v=>
  refine g_bindw (Wp.imp h₁ fun J s₂ h₂=>g_bindw (Wp.imp h₂ fun J s₃ h₃=>?_))
  rw[Sem.bind_eq_wrap',Sem.wrap_wrap]
  exact h₃ _ _ _ _ rfl rfl
end
end
section
set_option backward.match.sparseCases false
section
variable {C:Cx}{A:Around}{s:Shared}
noncomputable def Woke (C:Cx) (A:Around) (gs:GenState) (s:Shared) (P:End→Shared→Prop):Prop:=match gs with
 | .fresh c=>Sg C A c ((model C.prog C.w).den c) [] s P
 | .suspended k _ c _ fs _=>Sg C A c (k (.send .none)) fs s P
 | _=>False
theorem g_resume {α:Type}{gs:GenState}{g:Nat}{l:List Value}{k:GenResult→Sem α}{Q:α→Shared→Prop}{E:Value→Shared→Prop}{P:End→Shared→Prop}(hgs:s.gens[g]?=some gs) (x:Woke C A gs (s.setGen g .running) P)
  (h:∀e s₁,e.quiet=true→P e s₁→wpAny (model C.prog C.w) A (k e.result) Q E (s₁.setGen g e.genState)):wpAny (model C.prog C.w) A (.resume g (.send .none) l k) Q E s:=by
 have y:∀c₀ t₀ fs₀,Sg C A c₀ t₀ fs₀ (s.setGen g .running) P→PySem.W.X.SegX (model C.prog C.w) A c₀ t₀ fs₀ (s.setGen g .running) (fun e s₁=>∀Γ p,Γ.In A→Sem.wp (model C.prog C.w) Γ (k e.result) (fun a J s'=>Q a s') (fun e J s'=>E e s') p (s₁.setGen g e.genState)):=fun c₀ t₀ fs₀ z Γ p hc hΓ=>by
  obtain⟨e,s',hr,hq,hp⟩:=z Γ p hc hΓ
  exact⟨e,s',hr,hq,fun Γ' p' hΓ'=>h e s' hq hp Γ' p' hΓ'⟩
 cases gs with
 | fresh c=>exact fun Γ p hΓ=>PySem.W.X.wake_any α C.prog C.w hgs (.inl ⟨rfl,rfl,rfl,rfl⟩) (fun Γ=>Γ.In A) (fun J h=>h) (y _ _ _ x) Γ p hΓ
 | suspended k₀ l₀ c₀ p₀ fs₀ cl=>exact fun Γ p hΓ=>PySem.W.X.wake_any α C.prog C.w hgs (.inr ⟨k₀,l₀,p₀,cl,rfl,rfl⟩) (fun Γ=>Γ.In A) (fun J h=>h) (y _ _ _ x) Γ p hΓ
 | running=>exact x.elim
 | finished=>exact x.elim
theorem g_next {a:Addr}{g:Nat}{gs:GenState}{P:End→Shared→Prop}{Q:Option Value→Shared→Prop}(hh:A.handled=none) (hl:s.heap.NoLimit) (hroom:A.depth<recursionLimit) (hg:s.heap.IsGen a g) (hgs:s.gens[g]?=some gs)
  (x:Woke C A.in1 gs (s.setGen g .running) P)
  (h:∀e s₁,e.quiet=true→P e s₁→(∃v b l k c p fs,e=.susp v b l k c p fs∧Q (some v) (s₁.setGen g e.genState)) ∨
   (e=.ret (.ok (.ret .none))∧∀h',(∀b o,s₁.heap.get? b=some o→h'.get? b=some o)→Q none { s₁.setGen g .finished with heap:=h' })):Wp C A (pyNext (.ref a)) Q s:=by
 unfold pyNext
 refine wpAny_bind (wpAny_attempt (wpAny_callSpecial?_slot (name:=Str.ofString "__next__") hg.typeIs slot_gen_next (wpAny_call_entry slot_gen_next hg.typeIs entry_gen_next ?_ (args_gen_next _))))
 show wpAny _ A.in1 (Builtin.Generator.genWake (.ref a) (.send .none)) _ _ s
 unfold Builtin.Generator.genWake
 refine wpAny_bind (wpAny_holding (wpAny_genNumber hg (wpAny_bind (wpAny_genState hgs ?_))))
 cases gs with
 | running=>exact x.elim
 | finished=>exact x.elim
 | _=>
  refine wpAny_bind (wpAny_roomToWake hl hroom ?_)
  show wpAny _ A.in1 (.resume g (.send .none) [] _) _ _ s
  refine g_resume hgs x fun e s₁ hq hp=>?_
  rcases h e s₁ hq hp with ⟨v,b,l,k,c,p,fs,rfl,q⟩ | ⟨rfl,q⟩
  ·exact wpAny_pure ⟨v,rfl,wpAny_pure q⟩
  ·show wpAny _ A.in1 (newExc (.type "StopIteration") []>>=_) _ _ _
   refine wpAny_bind ?_
   simp only[newExc,newTuple]
   refine wpAny_bind (wpAny_newObj_type ?_ (by size_fits))
   refine wpAny_bind (m:=firstArgMember _ _) (wpAny_of_eq (a:=Value.none) rfl ?_)
   refine wpAny_newObj_type ?_ (by size_fits)
   refine wpAny_bind (wpAny_bind (wpAny_handled ?_))
   rw[show A.in1.handled=none from hh]
   refine wpAny_throw (wpAny_bind (wpAny_isInstance (T:="StopIteration") (b:=true) ⟨_,Heap.get?_push_size _ rfl,rfl⟩ isSubtype_stop (wpAny_pure ?_)))
   exact q _ fun b o hb=>Heap.get?_push_of_some _ (Heap.get?_push_of_some _ hb)
end
end
section
theorem over_loop {A:Around}{tgt:Expr}{it:Value}{body b:List Stmt}{env:Env}{k:Result→Sem PySem.Fin}{l kp:List Value}{p:Pos}:A.over (.forLoop tgt it body [] env) [.ret k none false l (.func b env) p kp]=A.over (.func b env) []:=by kernel_rfl
theorem over_room {A:Around}{n:Nat}{b:List Stmt}{env:Env}(h:Room (n+1) A):Room n (A.over (.func b env) []):=by
 have h1:=h.depth
 have h2:=h.units
 have e1:(A.over (.func b env) []).depth=A.depth+1:=by kernel_rfl
 have e2:(A.over (.func b env) []).units=A.units+3:=by kernel_rfl
 exact⟨h.handled,by rw[e1];lia,by rw[e2];lia⟩
section
variable {C:Cx}{n:Nat}{sc:Scope}{Γ:Gm}{e:Expr}
theorem draws_str {A:Around}(hh:A.handled=none) (it:Addr) (x:Str) (t:Tok):Draws C.prog C.w A it [it] x.cps.size (fun i v=>∃c u,x.cps[i]?=some c∧v=.str ⟨#[c]⟩ u) (fun i h=>h.IsStrIter it (strIterType x) x t i):=by
 unfold strIterType
 split
 ·exact Draws.strAscii hh it x t
 ·exact Draws.strWide hh it x t
noncomputable abbrev chR (p:Nat×Nat):List D:=[.int (p.2:Nat),.str ⟨#[p.1]⟩]
theorem it_enumS (G:Gl C) {p pos:Pos}{x:Str}(h:Ex C n sc Γ e (.str x)) (hx:autoParam (isBuiltinName sc "enumerate"=true) kr) (hs:autoParam (notStar e=true) rf) :
  ∀(env:Env) (A:Around) (F:FZ) (s:Shared),gE sc env→Room n A→Ok C F s→EnvOk C F s env Γ→Wp C A (eval (.Call (.Name "enumerate" p) [e] [] pos) env) (fun x' s₁=>Wp C A (pyIter x') (fun it s₂=>∃F' S,Grow F F' s s₂∧S 0 s₂ ∧
   ∀glo ghi,Src C A true it ((x.cps.toList.zipIdx 0).map chR) F' s.heap.objs.size s.heap.objs.size s₂.heap.objs.size glo ghi S) s₁) s:=by
 intro env A F s hE hR hO hV
 refine ev_machine PyProof.Rows.Boot.enumerate (G.none (by kernel_rfl)) (fun a=>by simp) (.cons h .nil hs) hx hE hR hO hV fun vs s₁ F₁ g r=>?_
 obtain⟨_,rfl,r1⟩:=r.one_inv
 obtain⟨t,rfl⟩:=r1.str_inv
 refine call_enumerate_str fun h' he hit hz hk=>?_
 have g2:Grow F F₁ s { s₁ with heap:=h' }:=g.trans (.same g.inn hk (by rw[hz];exact Nat.le_add_right _ 2))
 have W:=(WalksT.enumerateD (draws_str (C:=C) (A:=A.in1) hR.handled s₁.heap.objs.size x t) (s₁.heap.objs.size+1) (Nat.succ_ne_self _) (by simp only[List.mem_singleton];exact Nat.succ_ne_self _) (by simp)).toU
 refine W.self 0 _ _ _ ⟨⟨_,he⟩,hit⟩ ⟨F₁,_,g2,SOf.start ⟨⟨_,he⟩,hit⟩ g2.inn,fun glo ghi=>src_walksU W (hz▸footO [1,0] [1,0] (fz:=[]) g.size g.size g.new (fun b hb=>by cases hb) rfl rfl) (by simp) fun i vals row hv hr=>?_⟩
 obtain⟨t',w,⟨c,u,hc,rfl⟩,rfl⟩:=hv
 rw[List.getElem?_map,List.getElem?_zipIdx] at hr
 rw[Array.getElem?_toList,hc] at hr
 simp only[Option.map_some,Option.some.injEq,Nat.zero_add] at hr
 subst hr
 exact .cons (.int _ _) (.cons (.str _ _) .nil)
end
end
section
set_option backward.match.sparseCases false
structure Later (C:Cx) (F:FZ) (lo hi:Nat) (s₁ s₂:Shared):Prop where
 ok:Ok C F s₂
 keep:∀(b:Nat) o,lo≤b→b<hi→s₁.heap.get? b=some o→s₂.heap.get? b=some o
 size:hi≤s₂.heap.objs.size
noncomputable def MovesG (F:FZ) (lo hi:Nat) (s₀ s₁:Shared):Prop:=Moves F lo hi 0 0 s₀ s₁∧∀o,s₀.heap.get? (lo+1:Nat)=some o→s₁.heap.get? (lo+1:Nat)=some o
noncomputable def PG (C:Cx) (A:Around) (F:FZ) (lo:Nat):Bool→Nat→List (List D)→Shared→End→Shared→Prop
 | fst,hi,[],s₀,e,s₁=>e=.ret (.ok (.ret .none))∧MovesG F lo hi s₀ s₁
 | fst,hi,r::rs,s₀,e,s₁=>∃v b l k c p fs,e=.susp v b l k c p fs∧Unp C F s₁ v r∧MovesG F lo hi s₀ s₁ ∧
   ∀s₂,Later C F lo (if fst then s₁.heap.objs.size else hi) s₁ s₂→Sg C A c (k (.send .none)) fs s₂ (PG C A F lo false (if fst then s₁.heap.objs.size else hi) rs s₂)
noncomputable def flat0:D→Bool
 | .int _ | .str _ | .bool _ | .none=>true
 | _=>false
theorem R.flat {C:Cx}{F F':FZ}{v:Value}{d:D}(h:R C F v d) (hd:flat0 d=true):R C F' v d:=by
 cases d with
 | int i=>obtain⟨t,rfl⟩:=h.int_inv;exact .int _ _
 | str x=>obtain⟨t,rfl⟩:=h.str_inv;exact .str _ _
 | bool b=>rw[h.bool_inv];exact .bool _
 | none=>rw[h.none_inv];exact .none
 | _=>exact nomatch hd
theorem RA.flat {C:Cx}{F F':FZ}{vs:List Value}{ds:List D}(r:RA C F vs ds) (h:ds.all flat0=true):RA C F' vs ds:=by
 induction ds generalizing vs with
 | nil=>rw[r.nil_inv];exact .nil
 | cons d ds ih=>
  rw[List.all_cons,Bool.and_eq_true] at h
  obtain⟨v,ws,rfl,a,r⟩:=r.cons_inv
  exact .cons (a.flat h.1) (ih r h.2)
noncomputable def escP:Bool→Nat→List (Nat×Nat)→List (Nat×Str)
 | esc,p,[]=>if esc then [(p,⟨#[92]⟩)] else []
 | true,p,q::ps=>(q.2,⟨#[92,q.1]⟩)::escP false q.2 ps
 | false,p,q::ps=>if q.1=92 then escP true q.2 ps else (q.2,⟨#[q.1]⟩)::escP false q.2 ps
noncomputable abbrev escD (r:Nat×Str):List D:=[.int (r.1:Nat),.str r.2]
noncomputable def exG (lo hi z:Nat):Nat→Prop:=fun b=>((b=lo∨lo+2≤b)∧b<hi)∨z≤b
noncomputable def exE (lo hi z le he:Nat):Nat→Prop:=fun b=>(((b=lo∨lo+2≤b)∧b<hi)∨z≤b)∧(b<le∨he≤b)
structure GI (C:Cx) (sc:Scope) (env:Env) (F₀ Fb:FZ) (lo:Nat) (fst:Bool) (hi:Nat) (s₀ s:Shared) (F:FZ):Prop where
 g:GrowX (exG lo hi s₀.heap.objs.size) (fun i=>s₀.gens.size≤i) Fb F s₀ s
 b0:F₀.Le Fb
 bnew:∀(a:Nat) o,Fb a=some o→F₀ a=some o∨(lo≤a∧a<hi)
 hs:lo+2≤hi∧hi≤s₀.heap.objs.size
 fst_:fst=true→hi=s₀.heap.objs.size∧Fb=F₀
 loc:env.locals=lo
structure Plain (sc:Scope) (env:Env):Prop where
 good:gE sc env
 cells:env.cells=[]
 nocell:∀x,sc.names.lookup x≠some .cell
section
variable {C:Cx}{n:Nat}{sc:Scope}{Γ:Gm}{A:Around}{env:Env}{F₀ Fb F:FZ}{lo hi:Nat}{fst:Bool}{s₀ s:Shared}
theorem GI.moves (I:GI C sc env F₀ Fb lo fst hi s₀ s F) (hO:Ok C F s):MovesG F₀ lo hi s₀ s:=by
 have hh:=I.hs
 refine⟨⟨fun b o hb e=>I.g.keep b o (fun q=>?_) e,fun J a o e=>hO.inn a o (I.g.le _ _ (I.b0 _ _ e)),I.g.os,fun i x J e=>I.g.gen i x (fun q=>absurd (gens_lt e) (Nat.not_lt.mpr q)) e,I.g.bare⟩,fun o e=>I.g.keep _ o (fun q=>?_) e⟩
 ·have:=Heap.lt_size e
  unfold exG at q
  have h2:b<s₀.heap.objs.size:=this
  lia
 ·have h2:lo+1<s₀.heap.objs.size:=Heap.lt_size e
  unfold exG at q
  lia
theorem GI.again {ex exg:Nat→Prop}(I:GI C sc env F₀ Fb lo fst hi s₀ s F) (P:Plain sc env) (X:St C sc ex exg env Γ F s) (hf:(Γ.all fun p=>match p.2 with | .imm d=>flat0 d | _=>false)=true) {s₂:Shared}(L:Later C F₀ lo (if fst then s.heap.objs.size else hi) s s₂) {le he:Nat}(hle:he≤(if fst then s.heap.objs.size else hi)) (hloc:¬(le≤env.locals∧env.locals<he)) :
  ∃Fb',GI C sc env F₀ Fb' lo false (if fst then s.heap.objs.size else hi) s₂ s₂ Fb'∧St C sc (exE lo (if fst then s.heap.objs.size else hi) s₂.heap.objs.size le he) (fun i=>s₂.gens.size≤i) env Γ Fb' s₂∧(Fb'=if fst then F else Fb):=by
 have hhi:hi≤(if fst=true then s.heap.objs.size else hi):=by
  split
  ·exact Nat.le_trans I.hs.2 I.g.size
  ·exact Nat.le_refl _
 generalize hH:(if fst=true then s.heap.objs.size else hi)=hi' at *
 have hFle:FZ.Le (if fst=true then F else Fb) F:=by
  split
  ·exact .refl _
  ·exact I.g.le
 have h0:F₀.Le (if fst=true then F else Fb):=by
  split
  ·exact I.b0.trans I.g.le
  ·exact I.b0
 have hnew:∀(a:Nat) o,(if fst=true then F else Fb) a=some o→F₀ a=some o∨(lo≤a∧a<hi'):=by
  intro a o e
  cases fst with
  | false=>simp only[Bool.false_eq_true,if_false] at e hH;subst hH;exact I.bnew a o e
  | true=>
   simp only[if_true] at e hH
   subst hH
   by_cases q:exG lo hi s₀.heap.objs.size a
   ·refine .inr ⟨?_,Heap.lt_size (X.ok.inn a o e)⟩
    unfold exG at q
    have:=I.hs
    lia
   ·rw[I.g.old a q] at e
    rcases I.bnew a o e with h | h
    ·exact .inl h
    ·exact .inr ⟨h.1,by exact Nat.lt_of_lt_of_le h.2 hhi⟩
 have hok:Ok C (if fst=true then F else Fb) s₂:=by
  refine⟨fun a o e=>?_,fun a o e=>h0 _ _ (L.ok.base a o e),L.ok.tok⟩
  rcases hnew a o e with h | h
  ·exact L.ok.inn a o h
  ·exact L.keep a o h.1 h.2 (X.ok.inn a o (hFle _ _ e))
 refine⟨if fst then F else Fb,?_,?_,rfl⟩
 ·exact⟨.refl,h0,hnew,⟨by have:=I.hs;exact Nat.le_trans this.1 hhi,L.size⟩,(fun h=>nomatch h),I.loc⟩
 ·have hlo:lo≤env.locals∧env.locals<hi':=by
   rw[I.loc]
   have h1:lo+2≤hi:=I.hs.1
   exact⟨Nat.le_refl _,Nat.lt_of_lt_of_le (Nat.lt_of_succ_le (Nat.le_of_succ_le h1)) hhi⟩
  have ns2:∀m,s.heap.Ns env.locals m→s₂.heap.Ns env.locals m:=fun m h=>by
   obtain⟨o,es,ep,ho,r⟩:=h
   exact⟨o,es,ep,L.keep _ o hlo.1 hlo.2 ho,r⟩
  have hk:∀x,env.kindOf x=sc.names.lookup x:=fun x=>by show env.scope.names.lookup x=_;rw[P.good.scope]
  refine⟨hok,⟨fun p hp hv=>?_,fun x c e=>by rw[P.cells] at e;cases e⟩,⟨X.wf.kind,X.wf.kl,X.wf.kc,?_,?_,fun x hx=>absurd hx (P.nocell x),X.wf.apart⟩,fun b hb=>?_,fun p hp a ha=>?_,X.apart,fun b hb=>⟨.inr hb,.inr (Nat.le_trans (Nat.le_trans hle L.size) hb)⟩,fun i hi=>hi⟩
  ·obtain⟨v,h1,h2⟩:=X.eok.var p hp hv
   have hfp:=List.all_eq_true.mp hf p hp
   obtain⟨x,sl⟩:=p
   cases h2 with
   | imm r=>
    refine⟨v,?_,.imm (r.flat hfp)⟩
    rcases h1 with ⟨a,m,b,c⟩ | ⟨a,c,b,d⟩
    ·exact .inl ⟨a,m,ns2 m b,c⟩
    ·rw[P.cells] at b;cases b
   | _=>cases hfp
  ·obtain⟨m,h⟩:=X.wf.ns;exact⟨m,ns2 m h⟩
  ·cases e:(if fst=true then F else Fb) env.locals with
   | none=>rfl
   | some o=>have:=hFle _ _ e;rw[X.wf.nsF] at this;cases this
  ·rcases hb with rfl | ⟨x,hx,_⟩
   ·refine⟨.inl ⟨.inl I.loc,hlo.2⟩,?_⟩
    rcases Nat.lt_or_ge env.locals le with h | h
    ·exact .inl h
    ·exact .inr (Nat.not_lt.mp fun q=>hloc ⟨h,q⟩)
   ·exact absurd hx (P.nocell x)
  ·have hfp:=List.all_eq_true.mp hf p hp
   obtain⟨x,sl⟩:=p
   cases sl with
   | imm d=>cases ha
   | _=>cases hfp
end
end
section
set_option backward.match.sparseCases false
theorem bsl:(Str.ofString "\\")=⟨#[92]⟩:=by decide +kernel
noncomputable def flatG (Γ:Gm):Bool:=Γ.all fun p=>match p.2 with | .imm d=>flat0 d | _=>false
section
variable {C:Cx}{n:Nat}{sc:Scope}{Γ:Gm}{A:Around}{env:Env}{F₀ Fb F F':FZ}{lo hi le he:Nat}{fst:Bool}{s₀ s s':Shared}{c:Code}{fs:List Frame}{K:Flow→Sem PySem.Fin}{H:Value→Sem PySem.Fin}{gd:Bool→Bool}{lv:List Value→List Value}
theorem GI.step (I:GI C sc env F₀ Fb lo fst hi s₀ s F) {ex exg:Nat→Prop}(g:GrowX ex exg F F' s s') (h:∀b,ex b→exG lo hi s₀.heap.objs.size b) (h':∀i,exg i→s₀.gens.size≤i):GI C sc env F₀ Fb lo fst hi s₀ s' F':=
 ⟨I.g.trans (g.weak h h'),I.b0,I.bnew,I.hs,I.fst_,I.loc⟩
theorem gi_yield {e:Expr}{yp pos:Pos}{row:List D}{rs:List (List D)}{ex:Nat→Prop}(P:Plain sc env) (I:GI C sc env F₀ Fb lo fst hi s₀ s F) (X:St C sc ex (fun i=>s₀.gens.size≤i) env Γ F s) (hex:∀b,ex b→exG lo hi s₀.heap.objs.size b)
  (he:Ex C n sc Γ e (.tuple row)) (hrow:row.all flat0=true) (hR:Room n (A.over c fs)) (hfs:splitAtGen fs=none) (hgd:gd false=false) (hfg:fs.any Frame.guarded=false) (hin:interactive env=false)
  (k:∀s₁ F₁,GI C sc env F₀ Fb lo fst hi s₀ s₁ F₁→GrowX ex (fun i=>s₀.gens.size≤i) F F₁ s s₁→St C sc ex (fun i=>s₀.gens.size≤i) env Γ F₁ s₁→∀s₂,Later C F₀ lo (if fst then s₁.heap.objs.size else hi) s₁ s₂ →
   Sg C A c (K .next) fs s₂ (PG C A F₀ lo false (if fst then s₁.heap.objs.size else hi) rs s₂)) :
  Sg C A c ((exec (.Expr (.Yield (some e) yp) pos) env).wrap K H gd lv) fs s (PG C A F₀ lo fst hi (row::rs) s₀):=by
 refine g_yields hfs hgd hfg (by rw[P.good.scope];exact P.good.gen) hin ((he env _ F s P.good hR X.ok X.eok).imp fun v s₁ hZ p l k' hk'=>?_)
 obtain⟨F₁,g,r⟩:=hZ
 have gx:=GrowX.of (exg:=fun i=>s₀.gens.size≤i) g X.base
 have I₁:=I.step gx hex (fun J h=>h)
 have X₁:=X.grow g
 obtain⟨T,vs,m,rfl,eT,rT⟩:=r.tuple_inv
 refine⟨.ref T,false,l,k',c,p,fs,rfl,⟨T,vs,rfl,⟨_,X₁.ok.inn _ _ eT,rfl,_,rfl⟩,rT.flat hrow⟩,I₁.moves X₁.ok,fun s₂ L=>?_⟩
 rw[hk']
 exact k s₁ F₁ I₁ gx X₁ s₂ L
theorem gi_tail {esc:Bool}{p:Nat}{q1 q2 q3 q4 q5 q6 q7:Pos}{k1 k2:Nat}{b:List Stmt}{ex:Nat→Prop}(P:Plain sc env) (I:GI C sc env F₀ Fb lo fst hi s₀ s F) (X:St C sc ex (fun i=>s₀.gens.size≤i) env [("escape",.imm (.bool esc)),("pos",.imm (.int (p:Nat)))] F s) (hex:∀b,ex b→exG lo hi s₀.heap.objs.size b)
  (hR:Room n (A.over (.func b env) [])) (hin:interactive env=false) (hK:K .next=.pure (.done (.ret .none))) (hgd:gd false=false) (hv:(vis sc "escape"&&vis sc "pos")=true) :
  Sg C A (.func b env) ((execs [.If (.Name "escape" q1) [.Expr (.Yield (some (.Tuple [.Name "pos" q2,.Constant (.str "\\") k1 q3] k2 q4)) q5) q6] [] q7] env).wrap K H gd lv) [] s (PG C A F₀ lo fst hi ((if esc then [(p,(⟨#[92]⟩:Str))] else []).map escD) s₀):=by
 rw[Bool.and_eq_true] at hv
 have te:Tr C n sc [("escape",.imm (.bool esc)),("pos",.imm (.int (p:Nat)))] (.Name "escape" q1) esc:=tr_bool (xv (.head _) hv.1)
 refine g_cons (g_if ((te env _ F s P.good hR X.ok X.eok).imp fun r s₁ hZ=>?_))
 obtain⟨e1,F₁,g⟩:=hZ
 subst e1
 have gx:=GrowX.of (exg:=fun i=>s₀.gens.size≤i) g X.base
 have I₁:=I.step gx hex (fun J h=>h)
 have X₁:=X.grow g
 cases r with
 | false=>
  refine g_nil ?_
  refine g_nil ?_
  rw[hK]
  exact g_end ⟨rfl,I₁.moves X₁.ok⟩
 | true=>
  refine g_cons (gi_yield (rs:=[]) P I₁ X₁ hex (ex_tuple (.cons (xv (.tail _ (.head _)) hv.2) (.cons (Ex.eq ex_str (congrArg D.str bsl)) .nil rfl) rfl)) rfl hR rfl hgd rfl hin fun s₂ F₂ I₂ gx₂ X₂ s₃ L=>?_)
  refine g_nil ?_
  refine g_nil ?_
  rw[hK]
  exact g_end ⟨rfl,.refl,fun J e=>e⟩
end
end
section
theorem St.flip {C:Cx}{sc:Scope}{ex exg:Nat→Prop}{env:Env}{x y:Str×Mine.Slot}{F:FZ}{s:Shared}(X:St C sc ex exg env [x,y] F s):St C sc ex exg env [y,x] F s:=
 have hp:∀p,p∈[y,x]→p∈[x,y]:=fun p hp=>by simp at hp ⊢;exact hp.symm
 ⟨X.ok,X.eok.sub hp,X.wf,X.lo,fun p q=>X.own p (hp p q),by
  have:=X.apart
  simp only[List.pairwise_cons,List.mem_singleton,forall_eq,List.Pairwise.nil,and_true,List.not_mem_nil,false_implies,implies_true] at this ⊢
  exact fun a h h'=>this a h' h,X.base,X.gbase⟩
section
variable {C:Cx}{n:Nat}{sc:Scope}{A:Around}{env:Env}{F₀ Fe:FZ}{lo le he:Nat}
theorem gen_loop {b:List Stmt}{kk:Result→Sem PySem.Fin}{l:List Value}{pf:Pos}{K0 K1:Flow→Sem PySem.Fin}{H1:Value→Sem PySem.Fin}{gd1:Bool→Bool}{lv1:List Value→List Value}{it:Value}{all:List (Nat×Nat)}{S:Nat→Shared→Prop}
  {p1 p2 p3 p4 p5 p6 p7 p8 p9 p10 p11 p12 p13 p14 p15 p16 p17 p18 p19 p20 p21 p22 p23 p24 p25 p26 p27 q1 q2 q3 q4 q5 q6 q7:Pos} {k1 k2 k3 k4 k5 k6 k7 j1 j2:Nat}
  (P:Plain sc env) (hin:interactive env=false) (hAO:Room n (A.over (.func b env) [])) (hkk:∀f,kk (.ok f)=K0 f)
  (hK0:K0 .next=(execs [.If (.Name "escape" q1) [.Expr (.Yield (some (.Tuple [.Name "pos" q2,.Constant (.str "\\") j1 q3] j2 q4)) q5) q6] [] q7] env).wrap K1 H1 gd1 lv1) (hK1:K1 .next=.pure (.done (.ret .none))) (hgd1:gd1 false=false)
  (hv:(vis sc "escape"&&vis sc "pos"&&vis sc "ch"&&sto sc "escape"&&sto sc "pos"&&sto sc "ch")=true)
  (src:Src C (A.over (.func b env) []) true it (all.map chR) Fe le le he 0 0 S) (hbase:∀a o,C.hb.get? a=some o→Fe a=some o) (hloc:¬(le≤env.locals∧env.locals<he)) (hlh:le≤he) :
  ∀(ps:List (Nat×Nat)) (j:Nat) (esc:Bool) (p:Nat) (fst:Bool) (hi:Nat) (s₀ s:Shared) (Fb F:FZ),j≤all.length→all.drop j=ps→GI C sc env F₀ Fb lo fst hi s₀ s F →
   St C sc (exE lo hi s₀.heap.objs.size le he) (fun i=>s₀.gens.size≤i) env [("escape",.imm (.bool esc)),("pos",.imm (.int (p:Nat)))] F s→S j s→Fe.Le F→(∀a:Nat,le≤a→a<he→F a=Fe a) →
   he≤s.heap.objs.size→(if fst then s₀.heap.objs.size≤le else lo+2≤le∧he≤hi∧Fe.Le Fb∧∀a:Nat,le≤a→a<he→Fb a=Fe a) →
   Sg C A (.forLoop (.Tuple [.Name "pos" p1,.Name "ch" p2] k1 p3) it [.If (.Name "escape" p4) [.Expr (.Yield (some (.Tuple [.Name "pos" p5,.BinOp (.Constant (.str "\\") k2 p6) .Add (.Name "ch" p7) p8] k3 p9)) p10) p11,.Assign [.Name "escape" p12] (.Constant (.bool false) k4 p13) p14]
     [.If (.Compare (.Name "ch" p15) [.Eq] [.Constant (.str "\\") k5 p16] p17) [.Assign [.Name "escape" p18] (.Constant (.bool true) k6 p19) p20] [.Expr (.Yield (some (.Tuple [.Name "pos" p21,.Name "ch" p22] k7 p23)) p24) p25] p26] p27] [] env)
    ((model C.prog C.w).den (.forLoop (.Tuple [.Name "pos" p1,.Name "ch" p2] k1 p3) it [.If (.Name "escape" p4) [.Expr (.Yield (some (.Tuple [.Name "pos" p5,.BinOp (.Constant (.str "\\") k2 p6) .Add (.Name "ch" p7) p8] k3 p9)) p10) p11,.Assign [.Name "escape" p12] (.Constant (.bool false) k4 p13) p14]
     [.If (.Compare (.Name "ch" p15) [.Eq] [.Constant (.str "\\") k5 p16] p17) [.Assign [.Name "escape" p18] (.Constant (.bool true) k6 p19) p20] [.Expr (.Yield (some (.Tuple [.Name "pos" p21,.Name "ch" p22] k7 p23)) p24) p25] p26] p27] [] env))
    [.ret kk none false l (.func b env) pf []] s (PG C A F₀ lo fst hi ((escP esc p ps).map escD) s₀):=by
 simp only[Bool.and_eq_true] at hv
 obtain⟨⟨⟨⟨⟨hv1,hv2⟩,hv3⟩,hv4⟩,hv5⟩,hv6⟩:=hv
 have hbt:∀{d1 d2:D} {esc:Bool} {p:Nat},BindT sc (.Tuple [.Name "pos" p1,.Name "ch" p2] k1 p3) true [d1,d2] [("escape",.imm (.bool esc))] [("ch",.imm d2),("pos",.imm d1),("escape",.imm (.bool esc))]:=fun {d1 d2 esc p}=>
  bt2 (by rw[hv5,hv6];decide +kernel) (by simp[freshIn];decide +kernel) (by simp[freshIn];decide +kernel)
 intro ps
 induction ps with
 | nil=>
  intro j esc p fst hi s₀ s Fb F hj hd I X st hFe hfo hsz hreg
  have hjl:j=all.length:=by
   have:=congrArg List.length hd
   rw[List.length_drop,List.length_nil] at this
   exact Nat.le_antisymm hj (Nat.le_of_sub_eq_zero this)
  subst hjl
  have src':=src.up hFe hfo hbase
  refine g_turn ?_
  rw[over_loop]
  refine Wp.up ((src'.done s X.ok (by rw[List.length_map];exact st) hsz (Nat.zero_le _)).imp fun r s₁ hZ up=>?_)
  obtain⟨e,mv⟩:=hZ
  subst e
  refine g_pop ?_
  rw[hkk,hK0]
  have X₁:=X.moves mv up (fun q h=>h.2) fun y c h=>by rw[P.cells] at h;cases h
  have g1:GrowX (exG lo hi s₀.heap.objs.size) (fun i=>s₀.gens.size≤i) F F s s₁:=⟨.refl _,fun J J=>rfl,fun q o hq e=>mv.keep q o (by
   refine Nat.lt_or_ge q le |>.imp id fun h=>Nat.not_lt.mp fun h'=>hq ?_
   cases fst with
   | true=>simp only[if_true] at hreg;exact .inr (Nat.le_trans hreg h)
   | false=>simp only[Bool.false_eq_true,if_false] at hreg;exact .inl ⟨.inr (Nat.le_trans hreg.1 h),Nat.lt_of_lt_of_le h' hreg.2.1⟩) e,up.h,mv.os,fun i x J e=>mv.gen i x (.inr (Nat.zero_le _)) e,up.g,mv.bare,up.t⟩
  have I₁:=I.step g1 (fun J h=>h) (fun J h=>h)
  have et:(escP esc p ([]:List (Nat×Nat))).map escD=(if esc then [(p,(⟨#[92]⟩:Str))] else []).map escD:=by cases esc <;> rfl
  rw[et]
  exact gi_tail P I₁ X₁ (fun q h=>h.1) hAO hin hK1 hgd1 (by rw[hv1,hv2];rfl)
 | cons q ps ih=>
  intro j esc p fst hi s₀ s Fb F hj hd I X st hFe hfo hsz hreg
  have hget:all[j]?=some q:=by
   have:=congrArg List.head? hd
   rw[List.head?_drop] at this;simpa using this
  have hjlt:j<all.length:=get?_lt hget
  have hdrop:all.drop (j+1)=ps:=by
   have:all.drop (j+1)=(all.drop j).tail:=by simp
   rw[this,hd];rfl
  have src':=src.up hFe hfo hbase
  have hrow:(all.map chR)[j]?=some (chR q):=by rw[List.getElem?_map,hget];rfl
  let OKs:Shared→FZ→Prop:=fun s F=>S (j+1) s∧Fe.Le F∧(∀a:Nat,le≤a→a<he→F a=Fe a)∧he≤s.heap.objs.size
  have okS:∀{lo hi z:Nat} {F F':FZ} {s s':Shared} {exg:Nat→Prop},OKs s F→GrowX (exE lo hi z le he) exg F F' s s'→OKs s' F':=fun {lo hi z F F' s s' exg} h g=>
   ⟨src.frame _ _ _ h.1 ⟨fun b o h1 h2 e=>g.keep b o (fun q=>by have:=q.2;lia) e,fun i x h1 h2=>absurd h2 (Nat.not_lt_zero _)⟩,h.2.1.trans g.le,fun a h1 h2=>(g.old a fun q=>by have:=q.2;lia).trans (h.2.2.1 a h1 h2),Nat.le_trans h.2.2.2 g.size⟩
  refine g_turn ?_
  rw[over_loop]
  refine Wp.up ((src'.next j s (chR q) X.ok st hrow hsz (Nat.zero_le _)).imp fun r s₁ hZ up1=>?_)
  obtain⟨v,e,_,go⟩:=hZ
  subst e
  refine Wp.up ((go rfl _ _ _).imp fun _ s₂ hZ up2=>?_)
  obtain⟨hu,st2,mv⟩:=hZ
  have up12:=up1.trans up2
  have X2:=X.moves mv up12 (fun q h=>h.2) fun y c h=>by rw[P.cells] at h;cases h
  have g2:GrowX (exG lo hi s₀.heap.objs.size) (fun i=>s₀.gens.size≤i) F F s s₂:=⟨.refl _,fun J J=>rfl,fun q o hq e=>mv.keep q o (by
   refine Nat.lt_or_ge q le |>.imp id fun h=>Nat.not_lt.mp fun h'=>hq ?_
   cases fst with
   | true=>simp only[if_true] at hreg;exact .inr (Nat.le_trans hreg h)
   | false=>simp only[Bool.false_eq_true,if_false] at hreg;exact .inl ⟨.inr (Nat.le_trans hreg.1 h),Nat.lt_of_lt_of_le h' hreg.2.1⟩) e,up12.h,mv.os,fun i x J e=>mv.gen i x (.inr (Nat.zero_le _)) e,up12.g,mv.bare,up12.t⟩
  have I2:=I.step g2 (fun J h=>h) (fun J h=>h)
  have ok2:OKs s₂ F:=⟨st2,hFe,hfo,Nat.le_trans hsz up12.h⟩
  refine(bind_st (hbt (d1:=.int (q.2:Nat)) (d2:=.str ⟨#[q.1]⟩) (esc:=esc) (p:=p)) hAO.handled (X2.sub (by walk_at "s")) (by simpa using hu)).imp fun _ s₃ hZ K H gd lv hK hgd=>?_
  obtain⟨g3,X3⟩:=hZ
  have I3:=I2.step g3 (fun J h=>h.1) (fun J h=>h)
  have ok3:=okS ok2 g3
  have again:∀(esc':Bool) (fst:Bool) (hi:Nat) (s₀ s:Shared) (Fb F:FZ),GI C sc env F₀ Fb lo fst hi s₀ s F→St C sc (exE lo hi s₀.heap.objs.size le he) (fun i=>s₀.gens.size≤i) env [("escape",.imm (.bool esc')),("pos",.imm (.int (q.2:Nat)))] F s→OKs s F →
    (if fst then s₀.heap.objs.size≤le else lo+2≤le∧he≤hi∧Fe.Le Fb∧∀a:Nat,le≤a→a<he→Fb a=Fe a)→∀X,Sg C A X (K .next) [.ret kk none false l (.func b env) pf []] s (PG C A F₀ lo fst hi ((escP esc' q.2 ps).map escD) s₀):=fun esc' fst hi s₀ s Fb F I X o hr Y=>by
   rw[hK]
   exact g_again rfl (ih (j+1) esc' q.2 fst hi s₀ s Fb F hjlt hdrop I X o.1 o.2.1 o.2.2.1 o.2.2.2 hr)
  have wake:∀{esc':Bool} {Γ':Gm} {s₁:Shared} {F₁:FZ},GI C sc env F₀ Fb lo fst hi s₀ s₁ F₁→St C sc (exE lo hi s₀.heap.objs.size le he) (fun i=>s₀.gens.size≤i) env Γ' F₁ s₁→flatG Γ'=true→OKs s₁ F₁→∀s₂,Later C F₀ lo (if fst then s₁.heap.objs.size else hi) s₁ s₂ →
    ∃Fb',GI C sc env F₀ Fb' lo false (if fst then s₁.heap.objs.size else hi) s₂ s₂ Fb'∧St C sc (exE lo (if fst then s₁.heap.objs.size else hi) s₂.heap.objs.size le he) (fun i=>s₂.gens.size≤i) env Γ' Fb' s₂∧OKs s₂ Fb' ∧
     (lo+2≤le∧he≤(if fst then s₁.heap.objs.size else hi)∧Fe.Le Fb'∧∀a:Nat,le≤a→a<he→Fb' a=Fe a):=fun {esc' Γ' s₁ F₁} I₁ X₁ hf o s₂ L=>by
   have r1:lo+2≤le∧he≤(if fst then s₁.heap.objs.size else hi):=by
    cases fst with
    | true=>simp only[if_true] at hreg ⊢;exact⟨Nat.le_trans (Nat.le_trans I.hs.1 I.hs.2) hreg,o.2.2.2⟩
    | false=>simp only[Bool.false_eq_true,if_false] at hreg ⊢;exact⟨hreg.1,hreg.2.1⟩
   obtain⟨Fb',I',X',e⟩:=I₁.again P X₁ hf L (le:=le) (he:=he) r1.2 hloc
   have r2:Fe.Le Fb'∧∀a:Nat,le≤a→a<he→Fb' a=Fe a:=by
    rw[e]
    cases fst with
    | true=>exact⟨o.2.1,o.2.2.1⟩
    | false=>simp only[Bool.false_eq_true,if_false] at hreg ⊢;exact hreg.2.2
   refine⟨Fb',I',X',⟨src.frame _ _ _ o.1 ⟨fun b o h1 h2 e=>L.keep b o (Nat.le_trans (Nat.le_trans (Nat.le_add_right lo 2) r1.1) h1) (Nat.lt_of_lt_of_le h2 r1.2) e,fun i x h1 h2=>absurd h2 (Nat.not_lt_zero _)⟩,r2.1,r2.2,Nat.le_trans r1.2 L.size⟩,r1.1,r1.2,r2⟩
  have te:∀{e1:Bool},Tr C n sc [("ch",.imm (.str ⟨#[q.1]⟩)),("pos",.imm (.int (q.2:Nat))),("escape",.imm (.bool e1))] (.Name "escape" p4) e1:=tr_bool (xv (.tail _ (.tail _ (.head _))) hv1)
  refine g_cons (g_if ((te env _ F s₃ P.good (by rw[over_loop];exact hAO) X3.ok X3.eok).imp fun r s₄ hZ=>?_))
  obtain⟨e1,F4,g4⟩:=hZ
  subst e1
  have gx4:=GrowX.of (exg:=fun i=>s₀.gens.size≤i) g4 X3.base
  have I4:=I3.step gx4 (fun J h=>h.1) (fun J h=>h)
  have X4:=X3.grow g4
  have ok4:=okS ok3 gx4
  cases r with
  | true=>
   refine g_cons (gi_yield (rs:=(escP false q.2 ps).map escD) P I4 X4 (fun J h=>h.1) (ex_tuple (.cons (xv (.tail _ (.head _)) hv2) (.cons (Ex.eq (xb (Ex.eq ex_str (congrArg D.str bsl)) (xv (.head _) hv3) (o_add_str (by show 1+1≤sizeLine;decide))) rfl) .nil rfl) rfl)) rfl (by rw[over_loop];exact hAO) rfl hgd rfl hin fun s₅ F5 I5 g5 X5 s₆ L=>?_)
   obtain⟨Fb6,I6,X6,ok6,r6⟩:=wake (esc':=true) I5 X5 rfl (okS ok4 g5) s₆ L
   have S6:Step C n sc [("ch",.imm (.str ⟨#[q.1]⟩)),("pos",.imm (.int (q.2:Nat))),("escape",.imm (.bool true))] (.Assign [.Name "escape" p12] (.Constant (.bool false) k4 p13) p14) (.next [("escape",.imm (.bool false)),("pos",.imm (.int (q.2:Nat)))]):=sA ex_bool (by walk_at "d") (by intro _ _;rfl) hv4
   refine g_step (Q:=fun s'=>∃F',GrowX (exE lo (if fst then s₅.heap.objs.size else hi) s₆.heap.objs.size le he) (fun i=>s₆.gens.size≤i) Fb6 F' s₆ s'∧St C sc (exE lo (if fst then s₅.heap.objs.size else hi) s₆.heap.objs.size le he) (fun i=>s₆.gens.size≤i) env [("escape",.imm (.bool false)),("pos",.imm (.int (q.2:Nat)))] F' s') (S6 env _ _ s₆ _ _ P.good (by rw[over_loop];exact hAO) X6) fun s₇ hZ=>?_
   obtain⟨F7,g7,X7⟩:=hZ
   refine g_nil (g_nil ?_)
   exact again false false _ s₆ s₇ Fb6 F7 (I6.step g7 (fun J h=>h.1) (fun J h=>h)) X7 (okS ok6 g7) (by simpa using r6) _
  | false=>
   have tc:Tr C n sc [("ch",.imm (.str ⟨#[q.1]⟩)),("pos",.imm (.int (q.2:Nat))),("escape",.imm (.bool false))] (.Compare (.Name "ch" p15) [.Eq] [.Constant (.str "\\") k5 p16] p17) (decide (q.1=92)):=Tr.eq (tC (xv (.head _) hv3) (Ex.eq ex_str (congrArg D.str bsl)) o_eq_str) (decide_eq_decide.mpr (by simp))
   refine g_cons (g_if ((tc env _ F4 s₄ P.good (by rw[over_loop];exact hAO) X4.ok X4.eok).imp fun r s₅ hZ=>?_))
   obtain⟨e2,F5,g5⟩:=hZ
   have gx5:=GrowX.of (exg:=fun i=>s₀.gens.size≤i) g5 X4.base
   have I5:=I4.step gx5 (fun J h=>h.1) (fun J h=>h)
   have X5:=X4.grow g5
   have ok5:=okS ok4 gx5
   cases r with
   | true=>
    have hc:q.1=92:=by simpa using e2.symm
    have ee:escP false p (q::ps)=escP true q.2 ps:=if_pos hc
    rw[ee]
    have S6:Step C n sc [("ch",.imm (.str ⟨#[q.1]⟩)),("pos",.imm (.int (q.2:Nat))),("escape",.imm (.bool false))] (.Assign [.Name "escape" p18] (.Constant (.bool true) k6 p19) p20) (.next [("escape",.imm (.bool true)),("pos",.imm (.int (q.2:Nat)))]):=sA ex_bool (by walk_at "d") (by intro _ _;rfl) hv4
    refine g_step (Q:=fun s'=>∃F',GrowX (exE lo hi s₀.heap.objs.size le he) (fun i=>s₀.gens.size≤i) F5 F' s₅ s'∧St C sc (exE lo hi s₀.heap.objs.size le he) (fun i=>s₀.gens.size≤i) env [("escape",.imm (.bool true)),("pos",.imm (.int (q.2:Nat)))] F' s') (S6 env _ _ s₅ _ _ P.good (by rw[over_loop];exact hAO) X5) fun s₇ hZ=>?_
    obtain⟨F7,g7,X7⟩:=hZ
    refine g_nil (g_nil (g_nil ?_))
    exact again true fst hi s₀ s₇ Fb F7 (I5.step g7 (fun J h=>h.1) (fun J h=>h)) X7 (okS ok5 g7) hreg _
   | false=>
    have hc:¬q.1=92:=by simpa using e2.symm
    have ee:escP false p (q::ps)=(q.2,(⟨#[q.1]⟩:Str))::escP false q.2 ps:=if_neg hc
    rw[ee]
    refine g_cons (gi_yield (rs:=(escP false q.2 ps).map escD) P I5 X5 (fun J h=>h.1) (ex_tuple (.cons (xv (.tail _ (.head _)) hv2) (.cons (xv (.head _) hv3) .nil rfl) rfl)) rfl (by rw[over_loop];exact hAO) rfl hgd rfl hin fun s₆ F6 I6 g6 X6 s₇ L=>?_)
    obtain⟨Fb7,I7,X7,ok7,r7⟩:=wake (esc':=false) I6 X6 rfl (okS ok5 g6) s₇ L
    refine g_nil (g_nil (g_nil ?_))
    exact again false false _ s₇ s₇ Fb7 Fb7 I7 (St.flip (X7.sub (by walk_at "s"))) ok7 (by simpa using r7) _
end
end
section
noncomputable def escRows (x:Str):List (Nat×Str):=escP false 0 (x.cps.toList.zipIdx 0)
section
variable {C:Cx}{n:Nat}{A:Around}{env:Env}{F:FZ}{lo hi:Nat}{s:Shared}
theorem gen_woke (G:Gl C) {x:Str}(P:Plain (fnT 8).scope env) (hin:interactive env=false) (hR:Room (n+1) A) (hO:Ok C F s) (hlo:lo+2≤hi) (hhi:hi=s.heap.objs.size) (hloc:env.locals=lo) (hns:∃m t,s.heap.Ns env.locals m∧m "addr"=some (.str x t)) (hF:F lo=none) :
  Woke C A (.fresh (.func (fnT 8).body env)) s (PG C A F lo true hi ((escRows x).map escD) s):=by
 have hk:∀x,env.kindOf x=(fnT 8).scope.names.lookup x:=fun x=>by show env.scope.names.lookup x=_;rw[P.good.scope]
 obtain⟨m,t,hm,hx⟩:=hns
 have hAO:=over_room (n:=n) (b:=(fnT 8).body) (env:=env) hR
 have I0:GI C (fnT 8).scope env F F lo true hi s s F:=⟨.refl,.refl _,fun a o e=>.inl e,⟨hlo,by rw[hhi];exact Nat.le_refl _⟩,fun J=>⟨hhi,rfl⟩,hloc⟩
 have X0:St C (fnT 8).scope (exG lo hi s.heap.objs.size) (fun i=>s.gens.size≤i) env [("addr",.imm (.str x))] F s:=by
  refine⟨hO,⟨fun p hp hv=>?_,fun x c e=>by rw[P.cells] at e;cases e⟩,⟨by rw[P.good.scope];exact P.good.kind,fun x h=>by rw[hk];exact h,fun x h=>by rw[hk];exact h,⟨m,hm⟩,by rw[hloc];exact hF,fun x hx=>absurd hx (P.nocell x),fun x y c hx=>absurd hx (P.nocell x)⟩,fun b hb=>?_,fun p hp a ha=>?_,?_,fun b hb=>.inr hb,fun i hi=>hi⟩
  ·rw[List.mem_singleton.mp hp]
   exact⟨_,.inl ⟨by rw[hk];kernel_rfl,m,hm,hx⟩,.imm (.str x t)⟩
  ·rcases hb with h | ⟨y,hy,_⟩
   ·exact .inl ⟨.inl (h.trans hloc),by rw[h,hloc];exact Nat.lt_of_lt_of_le (Nat.lt_add_of_pos_right (by decide)) hlo⟩
   ·exact absurd hy (P.nocell y)
  ·rw[List.mem_singleton.mp hp] at ha;cases ha
  ·exact List.pairwise_singleton ..
 refine g_func fun K1 H1 gd1 lv1 hK1 hgd1=>?_
 refine g_step (Q:=fun s'=>∃F',GrowX (exG lo hi s.heap.objs.size) (fun i=>s.gens.size≤i) F F' s s'∧St C (fnT 8).scope (exG lo hi s.heap.objs.size) (fun i=>s.gens.size≤i) env [("pos",.imm (.int 0)),("addr",.imm (.str x))] F' s') ((sA xi (Drop.same rfl) (by intro _ _;rfl):Step C n (fnT 8).scope [("addr",.imm (.str x))] _ (.next [("pos",.imm (.int 0)),("addr",.imm (.str x))])) env _ _ s _ _ P.good hAO X0) fun s₁ hZ=>?_
 obtain⟨F1,g1,X1⟩:=hZ
 have I1:=I0.step g1 (fun J h=>h) (fun J h=>h)
 refine g_step (Q:=fun s'=>∃F',GrowX (exG lo hi s.heap.objs.size) (fun i=>s.gens.size≤i) F1 F' s₁ s'∧St C (fnT 8).scope (exG lo hi s.heap.objs.size) (fun i=>s.gens.size≤i) env [("escape",.imm (.bool false)),("pos",.imm (.int 0)),("addr",.imm (.str x))] F' s') ((sA ex_bool (Drop.same rfl) (by intro _ _;rfl):Step C n (fnT 8).scope [("pos",.imm (.int 0)),("addr",.imm (.str x))] _ (.next [("escape",.imm (.bool false)),("pos",.imm (.int 0)),("addr",.imm (.str x))])) env _ _ s₁ _ _ P.good hAO X1) fun s₂ hZ=>?_
 obtain⟨F2,g2,X2⟩:=hZ
 have I2:=I1.step g2 (fun J h=>h) (fun J h=>h)
 refine g_cons (g_for (by intro _;rfl) ?_)
 refine(it_enumS G (x:=x) (n:=n) (sc:=(fnT 8).scope) (Γ:=[("escape",.imm (.bool false)),("pos",.imm (.int 0)),("addr",.imm (.str x))]) (xv (by walk_at "m")) (by kernel_rfl) rfl env _ _ s₂ P.good hAO X2.ok X2.eok).imp fun v s₃ h=>h.imp fun it s₄ ⟨F4,S,g4,st4,src⟩ p k l hkk=>?_
 have gx:=GrowX.of (exg:=fun i=>s.gens.size≤i) g4 X2.base
 have I4:=I2.step gx (fun J h=>h) (fun J h=>h)
 have X4:=(X2.grow g4).sub (Γ':=[("escape",.imm (.bool false)),("pos",.imm (.int 0))]) (by walk_at "s")
 have hsz2:s.heap.objs.size≤s₂.heap.objs.size:=Nat.le_trans g1.size g2.size
 have X4':St C (fnT 8).scope (exE lo hi s.heap.objs.size s₂.heap.objs.size s₄.heap.objs.size) (fun i=>s.gens.size≤i) env [("escape",.imm (.bool false)),("pos",.imm (.int 0))] F4 s₄:=by
  refine⟨X4.ok,X4.eok,X4.wf,fun b hb=>⟨X4.lo b hb,?_⟩,fun p hp a ha=>?_,X4.apart,fun b hb=>⟨X4.base b hb,.inr hb⟩,X4.gbase⟩
  ·rcases hb with h | ⟨y,hy,_⟩
   ·left
    rw[h,hloc]
    have:lo<s.heap.objs.size:=by exact Nat.lt_of_succ_lt (Nat.lt_of_lt_of_eq (Nat.lt_of_succ_le hlo) hhi)
    exact Nat.lt_of_lt_of_le this hsz2
   ·exact absurd hy (P.nocell y)
  ·simp only[List.mem_cons,List.not_mem_nil,or_false] at hp
   rcases hp with rfl | rfl <;> cases ha
 rw[hgd1]
 exact gen_loop (n:=n) (Fe:=F4) P hin hAO hkk rfl hK1 hgd1 (by kernel_rfl) (src 0 0) X4.ok.base (by rw[hloc];intro h;have h1:s₂.heap.objs.size≤lo:=h.1;lia) g4.size _ 0 false 0 true hi s s₄ F F4 (Nat.zero_le _) rfl I4 X4' st4 (.refl _) (fun J J J=>rfl) (Nat.le_refl _) (by simpa using hsz2)
end
end
section
theorem gens_setGen (s:Shared) (g:Nat) (x:GenState):(s.setGen g x).gens=s.gens.setIfInBounds g x:=rfl
theorem setGen_at {s:Shared}{g:Nat}{x y:GenState}(h:s.gens[g]?=some y):(s.setGen g x).gens[g]?=some x:=by
 rw[gens_setGen,Array.getElem?_setIfInBounds_self_of_lt (gens_lt h)]
theorem setGen_ne {s:Shared}{g i:Nat}{x:GenState}(h:i≠g):(s.setGen g x).gens[i]?=s.gens[i]?:=by
 rw[gens_setGen,Array.getElem?_setIfInBounds_ne (Ne.symm h)]
theorem setGen_bare {s:Shared}{g:Nat}{x:GenState}(h:AllBare s.gens) (hx:x.bare=true):AllBare (s.setGen g x).gens:=fun y hy=>by
 rw[gens_setGen] at hy
 rcases Array.mem_or_eq_of_mem_setIfInBounds hy with h' | rfl
 ·exact h y h'
 ·exact hx
noncomputable def GS (C:Cx) (A:Around) (F:FZ) (lo g:Nat) (rows:List (List D)) (hi i:Nat) (s:Shared):Prop:=
 ∃gs,s.gens[g]?=some gs∧gs.bare=true∧s.heap.IsGen (lo+1) g∧∀s',Later C F lo hi s s'→(i=0→hi=s'.heap.objs.size)→Woke C A.in1 gs s' (PG C A.in1 F lo (i==0) hi (rows.drop i) s')
section
variable {C:Cx}{n:Nat}{A:Around}{F:FZ}{lo hi g i:Nat}{rows:List (List D)}{s s':Shared}
theorem GS.left {glo ghi:Nat}(h:GS C A F lo g rows hi i s) (l:Left lo hi glo ghi s s') (hg:glo≤g∧g<ghi) (hh:lo+2≤hi):GS C A F lo g rows hi i s':=by
 obtain⟨gs,h1,h2,h3,h4⟩:=h
 refine⟨gs,l.2 g gs hg.1 hg.2 h1,h2,?_,fun s'' L hz=>h4 s'' ⟨L.ok,fun b o q1 q2 e=>L.keep b o q1 q2 (l.1 b o q1 q2 e),L.size⟩ hz⟩
 obtain⟨o,nm,qn,ho,r⟩:=h3
 exact⟨o,nm,qn,l.1 (lo+1) o (Nat.le_succ _) (Nat.lt_of_succ_le hh) ho,r⟩
theorem go_gen {elts:List Expr}{x:_}{pos:Pos}{a T:Addr}{Q:Unit→Shared→Prop}(h:s.heap.IsGen a g) (q:Q () s):Wp C A (letOwnedTupleGo (.Tuple elts x pos) (.ref a) (.ref T)) Q s:=by
 obtain⟨o,nm,qn,ho,hc,hd,hs⟩:=h
 unfold letOwnedTupleGo
 refine wpAny_bind (wpAny_load ho ?_)
 rw[hc,hd]
 dsimp only
 rw[if_neg (by rw[Bool.and_eq_true];exact fun q=>absurd q.1 (by decide))]
 exact wpAny_pure q
theorem later_run {gs y:GenState}(hO:Ok C F s) (hh:hi≤s.heap.objs.size):Later C F lo hi s (s.setGen g gs):=⟨⟨hO.inn,hO.base,hO.tok⟩,fun b o J J e=>e,hh⟩
theorem moves_gen {y gs:GenState}{s₁:Shared}(h0:s.gens[g]?=some y) (m:Moves F lo hi 0 0 (s.setGen g .running) s₁) (hb:gs.bare=true):Moves F lo hi g (g+1) s (s₁.setGen g gs):=by
 refine⟨m.keep,m.inn,m.os,fun j x hj e=>?_,fun h=>setGen_bare (m.bare (setGen_bare h rfl)) hb⟩
 have hne:j≠g:=by lia
 rw[setGen_ne hne]
 exact m.gen j x (.inr (Nat.zero_le _)) (by rw[setGen_ne hne];exact e)
theorem GS.next {row:List D}(hR:Room n A) (hO:Ok C F s) (h:GS C A F lo g rows hi i s) (hr:rows[i]?=some row) (hh:hi≤s.heap.objs.size) (h0:i=0→hi=s.heap.objs.size) (h2:lo+2≤hi) :
  Wp C A (pyNext (.ref (lo+1))) (fun r s₁=>∃T,r=some (.ref T)∧Unp C F s₁ (.ref T) row∧s₁.heap.IsGen (lo+1) g∧(∃hi',hi≤hi'∧hi'≤s₁.heap.objs.size∧(i≠0→hi'=hi)∧GS C A F lo g rows hi' (i+1) s₁)∧Moves F lo hi g (g+1) s s₁) s:=by
 obtain⟨gs,g1,g2,g3,g4⟩:=h
 have L:=later_run (lo:=lo) (g:=g) (gs:=.running) (y:=gs) hO hh
 have W:=g4 _ L h0
 have hd:rows.drop i=row::rows.drop (i+1):=by
  obtain⟨hlt,e⟩:=List.getElem?_eq_some_iff.mp hr
  rw[List.drop_eq_getElem_cons hlt,e]
 rw[hd] at W
 refine Wp.up (g_next hR.handled (C.nolimit.keeps hO.keep) hR.lim g3 g1 W fun e s₁ hq hp=>?_)
 obtain⟨v,b,l,k,c,p,fs,rfl,hu,⟨mv,kp⟩,cont⟩:=hp
 refine .inl ⟨v,b,l,k,c,p,fs,rfl,fun up=>?_⟩
 obtain⟨T,vs,rfl,hT,hvs⟩:=hu
 have hrun:s₁.gens[g]?=some .running:=mv.gen g _ (.inr (Nat.zero_le _)) (setGen_at g1)
 have hbare:(End.susp (Value.ref T) b l k c p fs).genState.bare=true:=End.bare_of_quiet hq
 have hG:s₁.heap.IsGen (lo+1) g:=by
  obtain⟨o,nm,qn,ho,r⟩:=g3
  exact⟨o,nm,qn,kp o ho,r⟩
 refine⟨T,rfl,⟨T,vs,rfl,hT,hvs⟩,hG,⟨if (i==0) then s₁.heap.objs.size else hi,?_,?_,fun hi0=>by simp[hi0],?_⟩,moves_gen g1 mv hbare⟩
 ·split
  ·exact Nat.le_trans hh up.h
  ·exact Nat.le_refl _
 ·split
  ·exact Nat.le_refl _
  ·exact Nat.le_trans hh up.h
 ·refine⟨_,setGen_at hrun,hbare,hG,fun s'' L' hz=>?_⟩
  have:=cont s'' ⟨L'.ok,L'.keep,L'.size⟩
  exact this
theorem GS.done (hR:Room n A) (hO:Ok C F s) (h:GS C A F lo g rows hi rows.length s) (hh:hi≤s.heap.objs.size) (h0:rows.length=0→hi=s.heap.objs.size) :
  Wp C A (pyNext (.ref (lo+1))) (fun r s₁=>r=none∧Moves F lo hi g (g+1) s s₁) s:=by
 obtain⟨gs,g1,g2,g3,g4⟩:=h
 have W:=g4 _ (later_run (lo:=lo) (g:=g) (gs:=.running) (y:=gs) hO hh) h0
 rw[List.drop_length] at W
 refine g_next hR.handled (C.nolimit.keeps hO.keep) hR.lim g3 g1 W fun e s₁ hq hp=>?_
 obtain⟨rfl,mv,kp⟩:=hp
 refine .inr ⟨rfl,fun h' k=>⟨rfl,?_⟩⟩
 have m:=moves_gen (gs:=.finished) g1 mv rfl
 exact⟨fun b o hb e=>k b o (m.keep b o hb e),fun q a o e=>k a o (m.inn q a o e),m.os,m.gen,m.bare⟩
end
end
section
noncomputable def GenFn (C:Cx):Prop:=∃a fd,C.mg "_iter_escaped_chars"=some (.ref a)∧FnAt C a (fnT 8).params (fnT 8).body (fnT 8).scope fd∧∀v,bindArgs fd ⟨[v],[]⟩=pure [(("addr":Str),v)]
section
variable {C:Cx}{n:Nat}{sc:Scope}{Γ:Gm}
theorem gen_make (G:Gl C) (GF:GenFn C) {p pos:Pos}{e:Expr}{x:Str}{env:Env}{A:Around}{F:FZ}{s:Shared}(he:Ex C n sc Γ e (.str x)) (hs:notStar e=true) (hx:sc.names.lookup ("_iter_escaped_chars":Str)=some .globalImplicit) (hE:gE sc env) (hR:Room (n+4) A) (hO:Ok C F s) (hV:EnvOk C F s env Γ) :
  Wp C A (eval (.Call (.Name "_iter_escaped_chars" p) [e] [] pos) env) (fun v s₁=>Wp C A (pyIter v) (fun it s₂=>∃F' lo g,it=.ref (lo+1:Nat)∧Grow F F' s s₂∧s.heap.objs.size≤lo∧s₂.heap.objs.size=lo+2∧s.gens.size≤g∧g<s₂.gens.size ∧
   GS C A F' lo g ((escRows x).map escD) s₂.heap.objs.size 0 s₂) s₁) s:=by
 obtain⟨a,fd,h1,hF,hb⟩:=GF
 obtain⟨o,ho,hdata⟩:=hF.at_
 rw[eval_Call_Name]
 refine Wp.bind (name_global hE hO hx h1 (callWith_fn (o:=o) (fd:=fd) ?_) (by decide +kernel))
 have args:Exs C n sc Γ [e] [.str x]:=.cons he .nil hs
 refine(evalArgs_run args hE (hR.mono (Nat.le_add_right _ _)) hO hV).imp fun q s₁ hZ=>?_
 obtain⟨eq,F₁,g1,r⟩:=hZ
 rw[eq]
 have O₁:=hO.grow g1
 refine⟨⟨O₁.keep _ _ ho,hdata⟩,?_⟩
 obtain⟨qp,qk⟩:=q
 obtain⟨_,rfl,r1⟩:=r.one_inv
 obtain⟨t,rfl⟩:=r1.str_inv
 have hsc:=hF.scope
 have hnames:((fnT 8).scope.names.all fun x=>x.2 != .cell&&x.2 != .free)=true:=by kernel_rfl
 refine Wp.up (wpAny_call (codeAny_call_generator (body:=(fnT 8).body) hR.lim (O₁.keep _ _ ho) hdata (by rw[hsc];kernel_rfl) (by rw[hsc];kernel_rfl) hF.body (hF.code.keeps O₁.keep) ?_))
 show wpAny _ _ (bindArgs fd ⟨[.str x t],[]⟩) _ _ _
 rw[hb,hF.closure]
 refine wpAny_pure (wpAny_newFunctionEnv (fun y hy=>?_) (fun y hy=>?_) (fun h' hns hsb=>?_) (by rw[hsc];kernel_rfl))
 ·rw[hsc] at hy
  have:=List.all_eq_true.mp hnames y hy
  simp only[Bool.and_eq_true,bne_iff_ne,ne_eq] at this
  exact this.1
 ·rw[List.mem_singleton.mp hy,hsc];kernel_rfl
 ·have hz:h'.objs.size=s₁.heap.objs.size+1:=by rw[hsb.1];exact Heap.size_push ..
  have kh:∀b o,s₁.heap.get? b=some o→h'.get? b=some o:=fun b o e=>by
   rw[hsb.2 b (Nat.ne_of_lt (Heap.lt_size e))]
   exact Heap.get?_push_of_some _ e
  refine⟨(C.nolimit.keeps O₁.keep).keeps kh,fun up=>?_⟩
  have kG:∀ob b o,s₁.heap.get? b=some o→(h'.push ob).get? b=some o:=fun ob b o e=>Heap.get?_push_of_some _ (kh b o e)
  dsimp only
  refine wpAny_pyIter_gen (g:=s₁.gens.size) ?_ ?_
  ·exact⟨_,_,_,Heap.get?_push_size _ rfl,rfl,rfl,rfl⟩
  ·have g2:Grow F₁ F₁ s₁ { s₁ with heap:=h'.push { cls:=.type "generator",data:=.fields #[.int s₁.gens.size 0,.str fd.name (s₁.toks+1),.str fd.qualname (s₁.toks+1+1)] },gens:=s₁.gens.push (.fresh (.func (fnT 8).body (newEnv fd.scope s₁.heap.objs.size fd.globals [] (fd.qualname++".<locals>.") (some a) fd.code none fd.builtins))),toks:=s₁.toks+1+1+1 }:=by
    refine⟨.refl _,fun J J=>rfl,fun b o e=>kG _ b o (O₁.inn b o e),kG _,?_,rfl,fun i y e=>?_,?_,fun hb=>hb.push rfl,by show s₁.toks≤s₁.toks+1+1+1;exact Nat.le_succ_of_le (Nat.le_add_right _ _)⟩
    ·rw[Heap.size_push,hz];exact Nat.le_of_succ_le (Nat.le_succ _)
    ·rw[Array.getElem?_push_lt (gens_lt e)]
     rw[Array.getElem?_eq_getElem (gens_lt e)] at e
     exact e
    ·rw[Array.size_push];exact Nat.le_succ _
   refine⟨F₁,s₁.heap.objs.size,s₁.gens.size,by rw[hz],g1.trans g2,g1.size,by rw[Heap.size_push,hz],g1.gsize,by rw[Array.size_push];exact Nat.lt_succ_self _,_,Array.getElem?_push_size,rfl,⟨_,_,_,by rw[← hz];exact Heap.get?_push_size _ rfl,rfl,rfl,rfl⟩,fun s' L h0=>?_⟩
   have hO':Ok C F₁ s':=L.ok
   have hhi:(h'.push ({ cls:=.type "generator",data:=.fields #[.int s₁.gens.size 0,.str fd.name (s₁.toks+1),.str fd.qualname (s₁.toks+1+1)] }:Obj)).objs.size=s₁.heap.objs.size+2:=by rw[Heap.size_push,hz]
   refine gen_woke (n:=n+1) G (x:=x) ⟨⟨hsc,by kernel_rfl,hF.globals,hF.builtins,by kernel_rfl,fun y hy=>?_⟩,rfl,fun y hy=>?_⟩ (by show(fd.scope.kind==_&&_)=false;rw[hsc];rfl) ?_ hO' (Nat.le_of_eq hhi.symm) (h0 rfl) rfl ⟨fun y=>[(("addr":Str),Value.str x t)].reverse.lookup y,t,?_,?_⟩ (O₁.inn.none (Nat.le_refl _))
   ·have hno:∀kd,(fnT 8).scope.names.lookup y=some kd→kd≠.cell∧kd≠.free:=fun kd hk=>by
     have:=List.all_eq_true.mp hnames _ (mem_of_lookup hk)
     simp only[Bool.and_eq_true,bne_iff_ne,ne_eq] at this
     exact this
    rcases hy with hy | hy
    ·exact absurd rfl (hno _ hy).1
    ·exact absurd rfl (hno _ hy).2
   ·have:=List.all_eq_true.mp hnames _ (mem_of_lookup hy)
    simp at this
   ·exact⟨hR.handled,by have:=hR.depth;simp only[Around.in1_depth];exact Nat.le_of_succ_le (Nat.le_of_succ_le this),by have:=hR.units;simp only[Around.in1_units];lia⟩
   ·obtain⟨o,es,ep,ho,r⟩:=hns
    exact⟨o,es,ep,L.keep _ o (Nat.le_refl _) (Nat.lt_of_lt_of_le (Nat.lt_add_of_pos_right (by decide)) (Nat.le_of_eq hhi.symm)) (Heap.get?_push_of_some _ ho),r⟩
   ·rfl
end
end
section
section
variable {C:Cx}{n:Nat}{sc:Scope}{Γ:Gm}
noncomputable def exH (ex:Nat→Prop) (lo hi:Nat):Nat→Prop:=fun b=>ex b∧(b<lo∨hi≤b)
structure GL (C:Cx) (sc:Scope) (A:Around) (ex exg:Nat→Prop) (env:Env) (F F₂:FZ) (lo g:Nat) (rows:List (List D)) (s:Shared) (Γ₀:Gm) (Γ:Gm) (hi i:Nat) (F':FZ) (s':Shared):Prop where
 gx:GrowX ex exg F F' s s'
 hlo:lo+2≤hi
 hhi:hi≤s'.heap.objs.size
 gs:GS C A F₂ lo g rows hi i s'
 X:St C sc (exH ex lo hi) (fun j=>exg j∧j≠g) env Γ F' s'
 le:F₂.Le F'
 fo:∀a:Nat,lo≤a→a<hi→F' a=F₂ a
 zero:i=0→hi=s'.heap.objs.size∧F'=F₂∧Γ=Γ₀
theorem st_forG (G:Gl C) (GF:GenFn C) {tgt e:Expr}{body:List Stmt}{p cp pos:Pos}{α:Type}{x:Str}(he:Ex C 0 sc Γ e (.str x)) (hs:notStar e=true) (hx:sc.names.lookup ("_iter_escaped_chars":Str)=some .globalImplicit) (hn:4≤n)
  (I:α→Gm) (a₀:α) (step:α→Nat×Str→α) (r:α→Nat×Str→Option D) {Γb:α→Nat×Str→Gm} (h0:(I a₀).Sublist Γ) (hb:∀a q,q∈escRows x→BindT sc tgt true (escD q) (I a) (Γb a q))
  (hrun:∀i q,(escRows x)[i]?=some q→Run C n sc (Γb (((escRows x).take i).foldl step a₀) q) body (match r (((escRows x).take i).foldl step a₀) q with | some d=>.ret d | none=>.next (I (((escRows x).take (i+1)).foldl step a₀)))) :
  Step C n sc Γ (.For tgt (.Call (.Name "_iter_escaped_chars" p) [e] [] cp) body [] pos) (Out.of I (forOut step r a₀ (escRows x))):=by
 intro env A F s ex exg hE hR hX
 generalize hxs:escRows x=xs at *
 refine wpAny_For ?_ (fun J=>rfl)
 refine(gen_make (n:=0) G GF he hs hx hE (hR.mono (hn)) hX.ok hX.eok).imp fun v s₁ h₁=>h₁.imp fun it s₂ hq=>?_
 obtain⟨F₂,lo,g,rfl,g2,hlo,hsz2,hg1,hg2,hGS⟩:=hq
 rw[hxs] at hGS
 have O₂:=hX.ok.grow g2
 have hbase:∀a o,C.hb.get? a=some o→F₂ a=some o:=O₂.base
 have X₂:=(hX.grow g2).sub h0
 have hcell:∀x (c:Nat),env.cells.lookup x=some c→c<s.heap.objs.size:=fun x c h=>by obtain⟨o,ho⟩:=hX.eok.low x c h;exact Heap.lt_size ho
 have hown:∀b:Nat,Own sc env b→b<lo:=fun b h=>Nat.lt_of_lt_of_le (hX.wf.ownF h).2 hlo
 have hslot:∀q∈I a₀,∀a:Nat,q.2.addr=some a→a<lo:=fun q hq a ha=>Nat.lt_of_lt_of_le (hX.own q (h0.subset hq) a ha).2.2.1 hlo
 have L0:GL C sc A ex exg env F F₂ lo g (xs.map escD) s (I a₀) (I a₀) s₂.heap.objs.size 0 F₂ s₂:=by
  refine⟨.of g2 hX.base,by exact Nat.le_of_eq hsz2.symm,Nat.le_refl _,hGS,⟨X₂.ok,X₂.eok,X₂.wf,fun b hb=>⟨X₂.lo b hb,.inl (hown b hb)⟩,fun q hq a ha=>?_,X₂.apart,fun b hb=>⟨X₂.base b hb,.inr hb⟩,fun j hj=>⟨X₂.gbase j hj,by exact Nat.ne_of_gt (Nat.lt_of_lt_of_le hg2 hj)⟩⟩,.refl _,fun J J J=>rfl,fun J=>⟨rfl,rfl,rfl⟩⟩
  obtain⟨h1,h2,h3,h4⟩:=X₂.own q hq a ha
  exact⟨h1,⟨h2,.inl (hslot q hq a ha)⟩,h3,h4⟩
 have main:codeAny (model C.prog C.w) A (.forLoop tgt (.ref (lo+1:Nat)) body [] env) (fun r' s'=>∃f,r'=.ok f∧OutR C sc ex exg env F s (Out.of I (forOut step r a₀ xs)) f s') s₂:=by
  refine codeAny_forLoop_any (fun k s'=>∃i hi F',i≤xs.length∧k=xs.length-i∧GL C sc A ex exg env F F₂ lo g (xs.map escD) s (I a₀) (I ((xs.take i).foldl step a₀)) hi i F' s'∧forOut step r a₀ xs=forOut step r ((xs.take i).foldl step a₀) (xs.drop i)) ?_ xs.length
   ⟨0,_,F₂,Nat.zero_le _,rfl,L0,rfl⟩
  rintro k s' ⟨i,hi,F₁,hi',rfl,L,hfo⟩
  have ok₂:Ok C F₂ s':=⟨fun a o e=>L.X.ok.inn a o (L.le _ _ e),hbase,L.X.ok.tok⟩
  have mvX:∀{s''},Moves F₂ lo hi g (g+1) s' s''→Moves F₁ lo hi g (g+1) s' s'':=fun {s''} m=>⟨m.keep,fun q (a:Nat) o e=>by
   by_cases ha:lo≤a∧a<hi
   ·exact m.inn ok₂.inn a o ((L.fo a ha.1 ha.2)▸e)
   ·exact m.keep a o (by lia) (q a o e),m.os,m.gen,m.bare⟩
  have hmv:∀{s''},Moves F₁ lo hi g (g+1) s' s''→Up s' s''→GrowX ex exg F₁ F₁ s' s'':=fun {s''} m u=>
   ⟨.refl _,fun J J=>rfl,fun b o hb e=>m.keep b o (.inl (Nat.lt_of_not_le fun q=>hb (hX.base b (Nat.le_trans hlo q)))) e,u.h,m.os,fun j x hj e=>m.gen j x (by
    have:j≠g:=fun q=>hj (hX.gbase j (Nat.le_trans hg1 (Nat.le_of_eq q.symm)))
    lia) e,u.g,m.bare,u.t⟩
  refine Wp.any ?_
  by_cases hlt:i<xs.length
  ·have hrow:xs[i]?=some xs[i]:=List.getElem?_eq_getElem hlt
   have hmem:xs[i]∈xs:=List.getElem_mem hlt
   have htake:(xs.take (i+1)).foldl step a₀=step ((xs.take i).foldl step a₀) xs[i]:=by
    rw[List.take_add_one,hrow,List.foldl_append];rfl
   have hdrop:xs.drop i=xs[i]::xs.drop (i+1):=List.drop_eq_getElem_cons hlt
   revert hmem htake hrow hdrop
   generalize xs[i]=q
   intro hrow hmem htake hdrop
   have hrow':(xs.map escD)[i]?=some (escD q):=by rw[List.getElem?_map,hrow];rfl
   have bt:=hb ((xs.take i).foldl step a₀) q hmem
   refine Wp.up ((GS.next hR ok₂ L.gs hrow' L.hhi (fun h=>(L.zero h).1) L.hlo).imp fun r' s₃ hZ up₁=>?_)
   obtain⟨T,e,hu,hG,⟨hi2,q1,q2,q3,gs3⟩,m⟩:=hZ
   subst e
   refine Wp.any ?_
   have mv:=mvX m
   have X₃:=L.X.moves mv up₁ (fun b h=>h.2) fun y c h=>.inl (Nat.lt_of_lt_of_le (hcell y c h) hlo)
   have X₄:St C sc (exH ex lo hi2) (fun j=>exg j∧j≠g) env (I ((xs.take i).foldl step a₀)) F₁ s₃:=by
    by_cases hi0:i=0
    ·obtain⟨z1,z2,z3⟩:=L.zero hi0
     refine⟨X₃.ok,X₃.eok,X₃.wf,fun b hb=>⟨(X₃.lo b hb).1,.inl (hown b hb)⟩,fun p hp a ha=>?_,X₃.apart,fun b hb=>⟨(X₃.base b hb).1,.inr (Nat.le_trans q2 hb)⟩,X₃.gbase⟩
     obtain⟨h1,h2,h3,h4⟩:=X₃.own p hp a ha
     exact⟨h1,⟨h2.1,.inl (hslot p (z3▸hp) a ha)⟩,h3,h4⟩
    ·rw[q3 hi0];exact X₃
   have fo4:∀a:Nat,lo≤a→a<hi2→F₁ a=F₂ a:=fun a h1 h2=>by
    by_cases hi0:i=0
    ·rw[(L.zero hi0).2.1]
    ·rw[q3 hi0] at h2;exact L.fo a h1 h2
   have go:Wp C A (letOwnedTupleGo tgt (.ref (lo+1:Nat)) (.ref T)) (fun J s₂'=>s₂'=s₃) s₃:=by
    generalize Γb ((xs.take i).foldl step a₀) q=Γ₂ at bt
    generalize escD q=row at bt
    cases bt with
    | tup h1 h2 h3 h4=>exact go_gen hG rfl
   refine go.imp fun J s₄ e4=>Wp.any ?_
   subst e4
   have hu':Unp C F₁ s₄ (.ref T) (escD q):=by
    obtain⟨T',vs,e1,e2,e3⟩:=hu
    exact⟨T',vs,e1,e2,e3.mono L.le⟩
   refine(bind_st bt hR.handled X₄ (by simpa using hu')).imp fun _ s₅ ⟨g₅,X₅⟩=>Wp.any ?_
   refine(hrun i q hrow env A F₁ s₅ _ _ hE hR X₅).imp fun f s₆ ho=>?_
   have sub:∀b,exH ex lo hi2 b→ex b:=fun b h=>h.1
   have subg:∀j,(exg j∧j≠g)→exg j:=fun b h=>h.1
   have g0:GrowX ex exg F F₁ s s₅:=(L.gx.trans (hmv mv up₁)).trans (g₅.weak sub subg)
   rw[hdrop,forOut_cons] at hfo
   cases hr:r ((xs.take i).foldl step a₀) q with
   | some d=>
    rw[hr] at ho hfo
    dsimp only at hfo
    rw[hfo]
    obtain⟨w,F₆,rfl,g₆,ok₆,r₆⟩:=ho
    exact⟨_,rfl,w,F₆,rfl,g0.trans (g₆.weak sub subg),ok₆,r₆⟩
   | none=>
    rw[hr] at ho hfo
    dsimp only at hfo
    obtain⟨rfl,F₆,g₆,X₆⟩:=ho
    have g₇:=g₅.trans g₆
    refine⟨xs.length-(i+1),by exact Nat.sub_lt_sub_left hlt (Nat.lt_succ_self _),i+1,hi2,F₆,hlt,rfl,⟨g0.trans (g₆.weak sub subg),Nat.le_trans L.hlo q1,Nat.le_trans q2 g₇.size,?_,X₆,L.le.trans g₇.le,fun a h1 h2=>?_,fun h=>absurd h (Nat.succ_ne_zero i)⟩,by rw[hfo,htake]⟩
    ·exact gs3.left (glo:=g) (ghi:=g+1) ⟨fun b o h1 h2 e=>g₇.keep b o (fun q=>by have:=q.2;lia) e,fun j y h1 h2 e=>g₇.gen j y (fun q=>q.2 (Nat.le_antisymm (Nat.le_of_lt_succ h2) h1)) e⟩ ⟨Nat.le_refl _,Nat.lt_succ_self _⟩ (Nat.le_trans L.hlo q1)
    ·rw[g₇.old a fun q=>by have:=q.2;lia]
     exact fo4 a h1 h2
  ·have hin':i=xs.length:=by exact Nat.le_antisymm hi' (Nat.le_of_not_lt hlt)
   subst hin'
   refine Wp.up ((GS.done (g:=g) hR ok₂ (by have:=L.gs;rwa [← List.length_map (f:=escD)] at this) L.hhi (fun h=>(L.zero (by rw[List.length_map] at h;exact h)).1)).imp fun r' s₃ hZ up=>?_)
   obtain⟨e,m⟩:=hZ
   subst e
   refine wpAny_execs_nil ⟨_,rfl,?_⟩
   rw[List.drop_length] at hfo
   rw[hfo,List.take_length]
   have mv:=mvX m
   have X₃:=L.X.moves mv up (fun b h=>h.2) fun y c h=>.inl (Nat.lt_of_lt_of_le (hcell y c h) hlo)
   rw[List.take_length] at X₃
   exact⟨rfl,F₁,L.gx.trans (hmv mv up),X₃.weak (fun b h=>h.1) fun b h=>h.1⟩
 refine codeAny_mono main fun r' s' hZ=>?_
 obtain⟨f,e,h⟩:=hZ
 subst e
 exact h
end
end
section
noncomputable def sliceS (x:Str) (lo hi:Option Int):Str:=if ((Builtin.Str.strSliceIndices lo hi 1 x.length).length==x.length)=true then x else ⟨((Builtin.Str.strSliceIndices lo hi 1 x.length).filterMap (x.cps[·]?)).toArray⟩
theorem sliceS_len (x:Str) (lo hi:Option Int):(sliceS x lo hi).length≤x.length:=by
 unfold sliceS
 split
 ·exact Nat.le_refl _
 ·have h1:=sliceIndices_le lo hi x.length
  have h2:=List.length_filterMap_le (x.cps[·]?) (Builtin.Str.strSliceIndices lo hi 1 x.length)
  show(((Builtin.Str.strSliceIndices lo hi 1 x.length).filterMap (x.cps[·]?)).toArray).size≤_
  rw[List.size_toArray]
  exact Nat.le_trans h2 h1
theorem isPart_of {v:Value}{i:Option Int}(h:IsPart v i):∃l:Option (Int×Tok),v=partValue l∧l.map (·.1)=i:=by
 cases h with
 | none=>exact⟨none,rfl,rfl⟩
 | int i t=>exact⟨some (i,t),rfl,rfl⟩
section
variable {C:Cx}{n:Nat}{sc:Scope}{Γ:Gm}
theorem ex_sliceS {value:Expr}{lower upper:Option Expr}{p pos:Pos}{x:Str}{lo hi:Option Int}(h:Ex C n sc Γ value (.str x)) (h1:PartOk C n sc Γ lower lo) (h2:PartOk C n sc Γ upper hi) (hz:x.length≤4096)
  (ht:autoParam (∀o r,letTemporaryGo value o r=pure ()) i2):Ex C n sc Γ (.Subscript value (.Slice lower upper none p) pos) (.str (sliceS x lo hi)):=by
 intro env A F s hE hR hO hV
 refine wpAny_Subscript_str_slice ((h env A F s hE hR hO hV).imp fun o s₁ ⟨F₁,g₁,r₁⟩=>?_) ht
 have O₁:=hO.grow g₁;have V₁:=hV.grow g₁
 refine(part_run h1 hE hR O₁ V₁).imp fun vl s₂ hZ=>?_
 obtain⟨F₂,g₂,pl⟩:=hZ
 have O₂:=O₁.grow g₂;have V₂:=V₁.grow g₂
 refine(part_run h2 hE hR O₂ V₂).imp fun vu s₃ hZ=>?_
 obtain⟨F₃,g₃,pu⟩:=hZ
 have g:=(g₁.trans g₂).trans g₃
 have O₃:=hO.grow g
 obtain⟨t,rfl⟩:=r₁.str_inv
 obtain⟨l,rfl,el⟩:=isPart_of pl
 obtain⟨u,rfl,eu⟩:=isPart_of pu
 have gp:∀tk,s₃.toks≤tk→Grow F₃ F₃ s₃ { s₃ with heap:=s₃.heap.push { cls:=.type "slice",data:=.fields #[partValue l,partValue u,.none] },toks:=tk }:=fun tk htk=>.same (tk:=tk) O₃.inn (fun b o e=>Heap.get?_push_of_some _ e) (by rw[Heap.size_push];exact Nat.le_succ _) htk
 refine⟨x,t,l,u,rfl,rfl,rfl,?_⟩
 have e1:slicePicked x l u none=Builtin.Str.strSliceIndices lo hi 1 x.length:=by unfold slicePicked;rw[el,eu];rfl
 unfold sliceMade sliceS
 rw[e1]
 have e2:((none:Option (Int×Tok)).map (·.1)).getD 1=1:=rfl
 by_cases hc:((Builtin.Str.strSliceIndices lo hi 1 x.length).length==x.length)=true
 ·rw[if_pos (by rw[hc];rfl),if_pos hc]
  exact⟨F₃,g.trans (gp s₃.toks (Nat.le_refl _)),.str _ _⟩
 ·rw[if_neg (by rw[Bool.not_eq_true] at hc;rw[hc];simp),if_neg hc]
  refine⟨?_,F₃,g.trans (gp (s₃.toks+1) (Nat.le_succ _)),.str _ _⟩
  have h1:=sliceIndices_le lo hi x.length
  have h2:=List.length_filterMap_le (x.cps[·]?) (Builtin.Str.strSliceIndices lo hi 1 x.length)
  have h3:(4096:Nat)≤sizeLine:=by decide
  show(((Builtin.Str.strSliceIndices lo hi 1 x.length).filterMap (x.cps[·]?)).toArray).size≤_
  rw[List.size_toArray]
  exact Nat.le_trans h2 (Nat.le_trans h1 (Nat.le_trans hz (by decide)))
noncomputable def optD:Option Nat→D
 | none=>.none
 | some k=>.int (k:Nat)
noncomputable abbrev StripSt:=Nat×Option Nat×List Str
noncomputable def stripStep (x:Str) (st:StripSt) (q:Nat×Str):StripSt:=
 if q.2=⟨#[34]⟩ then (match st.2.1 with
  | none=>(st.1,some q.1,st.2.2)
  | some o=>(q.1+1,none,if (st.1:Int)≠o then st.2.2++[sliceS x (some (st.1:Int)) (some (o:Int))] else st.2.2)) else st
noncomputable def stripF (x:Str):Str:=if (Builtin.Str.occurrences x ⟨#[34]⟩ 0 x.length 1).isEmpty=true then x else
 let st:=(escRows x).foldl (stripStep x) (0,none,[])
 Txt.join ⟨#[]⟩ (if (st.1:Int)<x.length then st.2.2++[sliceS x (some (st.1:Int)) none] else st.2.2)
theorem escP_len:∀(ps:List (Nat×Nat)) (esc:Bool) (p:Nat),(escP esc p ps).length≤ps.length+1
 | [],esc,p=>by cases esc <;> simp[escP]
 | q::ps,true,p=>by have:=escP_len ps false q.2;simp only[escP,List.length_cons];exact Nat.succ_le_succ this
 | q::ps,false,p=>by
  simp only[escP]
  split
  ·have:=escP_len ps true q.2;simp only[List.length_cons];exact Nat.le_succ_of_le this
  ·have:=escP_len ps false q.2;simp only[List.length_cons];exact Nat.succ_le_succ this
theorem escRows_len (x:Str):(escRows x).length≤x.length+1:=by
 have:=escP_len (x.cps.toList.zipIdx 0) false 0
 rw[List.length_zipIdx,Array.length_toList] at this
 exact this
theorem strip_step {x:Str}{q:Nat×Str}{st:StripSt}(h:∀y∈st.2.2,y.length≤x.length):(stripStep x st q).2.2.length≤st.2.2.length+1∧∀y∈(stripStep x st q).2.2,y.length≤x.length:=by
 unfold stripStep
 split
 ·split
  ·exact⟨Nat.le_succ _,h⟩
  ·split
   ·refine⟨Nat.le_of_eq List.length_append,fun y hy=>?_⟩
    rcases List.mem_append.mp hy with hy | hy
    ·exact h y hy
    ·rw[List.mem_singleton.mp hy];exact sliceS_len ..
   ·exact⟨Nat.le_succ _,h⟩
 ·exact⟨Nat.le_succ _,h⟩
theorem strip_res {x:Str}(l:List (Nat×Str)) (st:StripSt) (h:∀y∈st.2.2,y.length≤x.length):(l.foldl (stripStep x) st).2.2.length≤st.2.2.length+l.length∧∀y∈(l.foldl (stripStep x) st).2.2,y.length≤x.length:=by
 induction l generalizing st with
 | nil=>exact⟨Nat.le_refl _,h⟩
 | cons q l ih=>
  obtain⟨h1,h2⟩:=strip_step (q:=q) h
  obtain⟨h3,h4⟩:=ih (stripStep x st q) h2
  exact⟨Nat.le_trans h3 (Nat.le_trans (Nat.add_le_add_right h1 _) (Nat.le_of_eq (Nat.add_right_comm _ 1 _))),h4⟩
end
end
section
section
variable {C:Cx}{n:Nat}{sc:Scope}{Γ:Gm}{e:Expr}
theorem st_forG' (G:Gl C) (GF:GenFn C) {tgt e:Expr}{body:List Stmt}{p cp pos:Pos}{α:Type}{x:Str}(he:Ex C 0 sc Γ e (.str x)) (hn:4≤n)
  (I:α→Gm) (a₀:α) (step:α→Nat×Str→α) {Γb:α→Nat×Str→Gm} (h0:(I a₀).Sublist Γ) (hb:∀a q,q∈escRows x→BindT sc tgt true (escD q) (I a) (Γb a q))
  (hrun:∀i q,(escRows x)[i]?=some q→Run C n sc (Γb (((escRows x).take i).foldl step a₀) q) body (.next (I (step (((escRows x).take i).foldl step a₀) q))))
  (hs:autoParam (notStar e=true) rf) (hx:autoParam (sc.names.lookup ("_iter_escaped_chars":Str)=some .globalImplicit) dk) :
  Step C n sc Γ (.For tgt (.Call (.Name "_iter_escaped_chars" p) [e] [] cp) body [] pos) (.next (I ((escRows x).foldl step a₀))):=by
 have:=st_forG (pos:=pos) (p:=p) (cp:=cp) G GF he hs hx hn I a₀ step (fun J J=>none) h0 hb (fun i q hq=>by
  have htake:((escRows x).take (i+1)).foldl step a₀=step (((escRows x).take i).foldl step a₀) q:=by
   rw[List.take_add_one,hq,List.foldl_append];rfl
  rw[htake];exact hrun i q hq)
 rw[forOut_none] at this
 exact this
theorem ex_lenS (G:Gl C) {p pos:Pos}{x:Str}(h:Ex C n sc Γ e (.str x)) (hl:x.length≤4096) (hs:autoParam (notStar e=true) rf) (hx:autoParam (isBuiltinName sc "len"=true) kr):Ex C n sc Γ (.Call (.Name "len" p) [e] [] pos) (.int (x.length:Nat)):=
 ex_builtin (f:=.builtin "len") PyProof.Rows.Boot.len (G.none (by kernel_rfl)) (fun J e=>nomatch e) (.cons h .nil hs) (c_len_str (Nat.le_trans hl (by decide))) hx
theorem ex_opt {x:Str}{p:Pos}{o:Option Nat}{pos:Pos}{k:Nat}{q:Pos}(h:Ex C n sc Γ (.Name x p) (optD o)):Tr C n sc Γ (.Compare (.Name x p) [.Is] [.Constant .none k q] pos) o.isNone:=by
 cases o with
 | none=>exact tC h ex_none o_is_none
 | some i=>exact tC h ex_none o_is_int
theorem all_nil {P:Str×Mine.Slot→Prop}:∀p∈([]:Gm),P p:=fun J h=>nomatch h
theorem all_cons {P:Str×Mine.Slot→Prop}{q:Str×Mine.Slot}{l:Gm}(h:P q) (k:∀p∈l,P p):∀p∈q::l,P p:=fun p hp=>by
 rcases List.mem_cons.mp hp with rfl | hp
 ·exact h
 ·exact k p hp
noncomputable def distinctN:Gm→Bool
 | []=>true
 | p::l=>l.all (fun q=>!(p.1==q.1))&&distinctN l
theorem apart_all:∀{Γ:Gm},Γ.Pairwise (fun p q=>∀a,p.2.addr=some a→q.2.addr≠some a)→∀p∈Γ,∀q∈Γ,p.1≠q.1→∀a,p.2.addr=some a→q.2.addr≠some a
 | [],_,p,hp,_,_,_=>nomatch hp
 | x::l,h,p,hp,q,hq,hne=>by
  obtain⟨h1,h2⟩:=List.pairwise_cons.mp h
  rcases List.mem_cons.mp hp with rfl | hp'
  ·rcases List.mem_cons.mp hq with rfl | hq'
   ·exact absurd rfl hne
   ·exact h1 q hq'
  ·rcases List.mem_cons.mp hq with rfl | hq'
   ·exact fun a ha hb=>h1 p hp' a hb ha
   ·exact apart_all h2 p hp' q hq' hne
theorem St.pick {ex exg:Nat→Prop}{env:Env}{F:FZ}{s:Shared}{Γ':Gm}(X:St C sc ex exg env Γ F s) (hm:∀p∈Γ',p∈Γ) (hd:distinctN Γ'=true):St C sc ex exg env Γ' F s:=by
 have sym:∀p∈Γ,∀q∈Γ,p.1≠q.1→∀a,p.2.addr=some a→q.2.addr≠some a:=by
  have:=X.apart
  intro p hp q hq hne
  exact apart_all this p hp q hq hne
 refine⟨X.ok,X.eok.sub hm,X.wf,X.lo,fun p q=>X.own p (hm p q),?_,X.base,X.gbase⟩
 clear X
 induction Γ' with
 | nil=>exact .nil
 | cons p l ih=>
  simp only[distinctN,Bool.and_eq_true,List.all_eq_true,Bool.not_eq_true',beq_eq_false_iff_ne] at hd
  refine List.pairwise_cons.mpr ⟨fun q hq=>sym p (hm p List.mem_cons_self) q (hm q (List.mem_cons_of_mem _ hq)) (hd.1 q hq),ih (fun q hq=>hm q (List.mem_cons_of_mem _ hq)) hd.2⟩
theorem run_pick {Γ':Gm}(hm:∀p∈Γ',p∈Γ) (hd:distinctN Γ'=true):Run C n sc Γ [] (.next Γ'):=fun env A F s ex exg hE hR hX=>wpAny_execs_nil ⟨rfl,F,.refl,hX.pick hm hd⟩
theorem quot_eq:(Str.ofString "\"")=⟨#[34]⟩:=by decide +kernel
theorem ex_quot {k:Nat}{p:Pos}:Ex C n sc Γ (.Constant (.str "\"") k p) (.str ⟨#[34]⟩):=Ex.eq ex_str (congrArg D.str quot_eq)
set_option maxHeartbeats 1000000 in
theorem t_strip (G:Gl C) (GF:GenFn C) {x:Str}(hz:x.length≤64) (hn:4≤n):Run C n (fnT 9).scope [("addr",.imm (.str x))] (fnT 9).body (.ret (.str (stripF x))):=by
 generalize hc:(Builtin.Str.occurrences x ⟨#[34]⟩ 0 x.length 1).isEmpty=c
 have ht:∀{pos p1 p2:Pos} {k:Nat},Tr C n (fnT 9).scope [("addr",.imm (.str x))] (.Compare (.Constant (.str "\"") k p1) [.NotIn] [.Name "addr" p2] pos) c:=tC ex_quot (xv (by walk_at "m")) (o_notin_str hc)
 cases c with
 | true=>
  have e:stripF x=x:=by unfold stripF;rw[if_pos hc]
  rw[e]
  exact run_stepRet (st_if ht (fun J=>run_ret (xv (by walk_at "m"))) (fun h=>nomatch h))
 | false=>
  refine rS (st_if ht (fun h=>nomatch h) (fun J=>run_nil)) ?_
  refine rS (sA xi (Drop.same rfl)) ?_
  refine rS (sA ex_none (Drop.same rfl)) ?_
  refine run_newL (ds:=[]) (nw_list .nil) (Drop.same rfl) fun a=>?_
  have hlen:=escRows_len x
  have hst:=fun i=>strip_res (x:=x) ((escRows x).take i) (0,none,[]) (fun J h=>nomatch h)
  refine rS (st_forG' G GF (xv (by walk_at "m")) hn (fun st:StripSt=>[("result",.ml a (st.2.2.map .str)),("open_pos",.imm (optD st.2.1)),("start",.imm (.int (st.1:Nat))),("addr",.imm (.str x))]) (0,none,[]) (stripStep x) (List.Sublist.refl _) (fun st q hq=>bt2 (by decide +kernel) (by kernel_rfl) (by kernel_rfl)) (fun i q hq=>?_)) ?_
  ·obtain⟨h1,h2⟩:=hst i
   have htl:=List.length_take_le i (escRows x)
   have hil:=(List.getElem?_eq_some_iff.mp hq).1
   generalize List.foldl (stripStep x) (0,none,[]) (List.take i (escRows x))=st at h1 h2
   obtain⟨start,op,res⟩:=st
   have hres:res.length≤4096:=by simp at h1;lia
   obtain⟨pos,ch⟩:=q
   by_cases hch:ch=(⟨#[34]⟩:Str)
   ·refine rS (st_if (Tr.eq (tC (xv (by walk_at "m")) ex_quot o_eq_str) (decide_eq_true hch)) (fun J=>?_) (fun h=>nomatch h)) run_nil
    cases op with
    | none=>
     have e:stripStep x (start,none,res) (pos,ch)=(start,some pos,res):=by simp[stripStep,hch]
     rw[e]
     refine rS (st_if (ex_opt (o:=none) (xv (by walk_at "m"))) (fun J=>?_) (fun h=>nomatch h)) run_nil
     refine rS (sA (Ex.eq (d:=.int (pos:Nat)) (d':=optD (some pos)) (xv (by walk_at "m")) rfl) (by walk_at "d")) ?_
     dsimp only
     exact(run_pick (by with_reducible repeat' (first | exact all_nil | refine' all_cons (by walk_at "m") ?_)) (by kernel_rfl))
    | some o=>
     refine rS (st_if (ex_opt (o:=some o) (xv (by walk_at "m"))) (fun h=>nomatch h) (fun J=>?_)) run_nil
     by_cases hso:(start:Int)≠o
     ·have e:stripStep x (start,some o,res) (pos,ch)=(pos+1,none,res++[sliceS x (some (start:Int)) (some (o:Int))]):=by simp only[stripStep,hch,if_true];rw[if_pos hso]
      rw[e]
      refine rS (st_if (Tr.eq (tC (xv (by walk_at "m")) (Ex.eq (xv (d:=optD (some o)) (by walk_at "m")) (show _=D.int (o:Nat) from rfl)) (o_ne_int (a:=start) (b:=o))) (show _=true by simpa using hso)) (fun J=>rS (st_append (ex_sliceS (xv (by walk_at "m")) ⟨_,rfl,(xv (by walk_at "m"))⟩ ⟨_,rfl,Ex.eq (xv (d:=optD (some o)) (by walk_at "m")) (show _=D.int (o:Nat) from rfl)⟩ (Nat.le_trans hz (by decide))) (by walk_at "u") (by rw[List.length_map];exact hres)) run_nil) (fun h=>nomatch h)) ?_
      refine rS (sA (Ex.eq (d':=.int ((pos+1:Nat):Int)) (xb (xv (by walk_at "m")) xi o_add_int) rfl) (by walk_at "d")) ?_
      refine rS (sA (d:=optD none) ex_none (by walk_at "d")) ?_
      dsimp only
      rw[List.map_append,List.map_cons,List.map_nil]
      exact(run_pick (by with_reducible repeat' (first | exact all_nil | refine' all_cons (by walk_at "m") ?_)) (by kernel_rfl))
     ·have e:stripStep x (start,some o,res) (pos,ch)=(pos+1,none,res):=by
       simp only[stripStep,hch,if_true];rw[if_neg hso]
      rw[e]
      refine rS (st_if (Tr.eq (tC (xv (by walk_at "m")) (Ex.eq (xv (d:=optD (some o)) (by walk_at "m")) (show _=D.int (o:Nat) from rfl)) (o_ne_int (a:=start) (b:=o))) (show _=false by have:=Classical.not_not.mp hso;simpa using this)) (fun h=>nomatch h) (fun J=>run_nil)) ?_
      refine rS (sA (Ex.eq (d':=.int ((pos+1:Nat):Int)) (xb (xv (by walk_at "m")) xi o_add_int) rfl) (by walk_at "d")) ?_
      refine rS (sA (d:=optD none) ex_none (by walk_at "d")) ?_
      dsimp only
      exact(run_pick (by with_reducible repeat' (first | exact all_nil | refine' all_cons (by walk_at "m") ?_)) (by kernel_rfl))
   ·have e:stripStep x (start,op,res) (pos,ch)=(start,op,res):=by simp[stripStep,hch]
    rw[e]
    exact rS (st_if (Tr.eq (tC (xv (by walk_at "m")) ex_quot o_eq_str) (decide_eq_false hch)) (fun h=>nomatch h) (fun J=>run_nil)) (run_pick (by with_reducible repeat' (first | exact all_nil | refine' all_cons (by walk_at "m") ?_)) (by kernel_rfl))
  ·obtain⟨h1,h2⟩:=hst (escRows x).length
   rw[List.take_length] at h1 h2
   have e:stripF x=Txt.join ⟨#[]⟩ (if (((escRows x).foldl (stripStep x) (0,none,[])).1:Int)<x.length then ((escRows x).foldl (stripStep x) (0,none,[])).2.2++[sliceS x (some (((escRows x).foldl (stripStep x) (0,none,[])).1:Int)) none] else ((escRows x).foldl (stripStep x) (0,none,[])).2.2):=by unfold stripF;rw[hc];rfl
   rw[e]
   generalize List.foldl (stripStep x) (0,none,[]) (escRows x)=st at h1 h2
   obtain⟨start,op,res⟩:=st
   dsimp only at h1 h2
   have hres:res.length≤66:=by simp at h1;exact Nat.le_of_lt (Nat.lt_succ_of_le (Nat.le_trans h1 (Nat.le_trans hlen (Nat.succ_le_succ hz))))
   dsimp only
   have he:(Str.ofString "")=⟨#[]⟩:=by decide +kernel
   by_cases hs:(start:Int)<x.length
   ·rw[if_pos hs]
    refine rS (st_if (Tr.eq (tC (xv (by walk_at "m")) (ex_lenS G (xv (by walk_at "m")) (Nat.le_trans hz (by decide))) o_lt_int) (decide_eq_true hs)) (fun J=>rS (st_append (ex_sliceS (xv (by walk_at "m")) ⟨_,rfl,(xv (by walk_at "m"))⟩ rfl (Nat.le_trans hz (by decide))) (by walk_at "u") (by rw[List.length_map];exact Nat.le_trans hres (by decide))) run_nil) (fun h=>nomatch h)) ?_
    refine run_freezeL (by walk_at "u") ?_
    refine run_ret (ex_meth (a:=.str ⟨#[]⟩) (Ex.h (Ex.eq ex_str (congrArg D.str he))) (.cons (Ex.eq (d:=.list (res.map D.str++[D.str (sliceS x (some (start:Int)) none)])) (d':=.list ((res++[sliceS x (some (start:Int)) none]).map .str)) (xv (by walk_at "m")) (by rw[List.map_append];rfl)) .nil rfl) id_join (m_join (joinOk_small (m:=64) (fun y hy=>?_) ?_)))
    ·rcases List.mem_append.mp hy with hy | hy
     ·exact Nat.le_trans (h2 y hy) hz
     ·rw[List.mem_singleton.mp hy];exact Nat.le_trans (sliceS_len ..) hz
    ·simp only[List.length_append,List.length_singleton];lia
   ·rw[if_neg hs]
    refine rS (st_if (Tr.eq (tC (xv (by walk_at "m")) (ex_lenS G (xv (by walk_at "m")) (Nat.le_trans hz (by decide))) o_lt_int) (decide_eq_false hs)) (fun h=>nomatch h) (fun J=>run_nil)) ?_
    refine run_freezeL (by walk_at "u") ?_
    exact run_ret (ex_meth (a:=.str ⟨#[]⟩) (Ex.h (Ex.eq ex_str (congrArg D.str he))) (.cons (xv (by walk_at "m")) .nil rfl) id_join (m_join (joinOk_small (m:=64) (fun y hy=>Nat.le_trans (h2 y hy) hz) (by lia))))
end
end
section
noncomputable def chkStep (a:Int) (q:Nat×Str):Int:=if q.2=⟨#[40]⟩ then a+1 else if q.2=⟨#[41]⟩ then a-1 else a
noncomputable def chkR (a:Int) (q:Nat×Str):Option D:=if q.2=⟨#[41]⟩∧a-1<0 then some (.bool false) else none
noncomputable def checkF (x:Str):Bool:=match forOut chkStep chkR 0 (escRows (stripF x)) with
 | .inl a=>a==0
 | .inr _=>false
noncomputable def noMail:Str:=⟨#[40,39,39,44,32,39,39,41]⟩
noncomputable def validF (x:Str):Str:=if checkF x then x else noMail
theorem chk_out (l:List (Nat×Str)) (a:Int) (d:D) (h:forOut chkStep chkR a l=.inr d):d=.bool false:=by
 induction l generalizing a with
 | nil=>exact nomatch h
 | cons q l ih=>
  rw[forOut_cons] at h
  unfold chkR at h
  by_cases hc:q.2=⟨#[41]⟩∧a-1<0
  ·rw[if_pos hc] at h;cases h;rfl
  ·rw[if_neg hc] at h;exact ih _ h
theorem lpar_eq:(Str.ofString "(")=⟨#[40]⟩:=by decide +kernel
theorem rpar_eq:(Str.ofString ")")=⟨#[41]⟩:=by decide +kernel
theorem nomail_eq:(Str.ofString "('', '')")=noMail:=by decide +kernel
section
variable {C:Cx}{n:Nat}{sc:Scope}{Γ:Gm}{e:Expr}
theorem oi_sub_int {a b:Int}:Op2 C (inplaceOp .Sub) (.int a) (.int b) (.int (a-b)):=by
 intro A F s va vb _ hO ha hb;obtain⟨t,rfl⟩:=ha.int_inv;obtain⟨u,rfl⟩:=hb.int_inv
 exact smInt hO fun Q h=>PyProof.Rows.isub_int h
set_option maxHeartbeats 600000 in
theorem t_check (G:Gl C) (GF:GenFn C) {x:Str}{m:Nat}(hs:Fn C m "_strip_quoted_realnames" [.str x] (.str (stripF x))) (hm:m≤n) (hn:4≤n):Run C n (fnT 10).scope [("addr",.imm (.str x))] (fnT 10).body (.ret (.bool (checkF x))):=by
 refine rS (sA (ex_call (.cons (xv (by walk_at "m")) .nil rfl) hs hm) (by walk_at "d")) ?_
 refine rS (sA xi (Drop.same rfl)) ?_
 unfold checkF
 generalize hy:stripF x=y
 refine run_out (st_forG G GF (xv (by walk_at "m")) rfl (by decide +kernel) hn (fun a:Int=>[("opens",.imm (.int a)),("addr",.imm (.str y))]) 0 chkStep chkR (List.Sublist.refl _) (fun a q hq=>bt2 (by decide +kernel) (by kernel_rfl) (by kernel_rfl)) (fun i q hq=>?_)) (fun a ha=>?_) (fun d hd=>?_)
 ·have htake:((escRows y).take (i+1)).foldl chkStep 0=chkStep (((escRows y).take i).foldl chkStep 0) q:=by
   rw[List.take_add_one,hq,List.foldl_append];rfl
  rw[htake]
  generalize ((escRows y).take i).foldl chkStep 0=a
  obtain⟨pos,ch⟩:=q
  by_cases h1:ch=(⟨#[40]⟩:Str)
  ·have e1:chkStep a (pos,ch)=a+1:=by simp[chkStep,h1]
   have e2:chkR a (pos,ch)=none:=by simp[chkR,h1]
   rw[e1,e2]
   refine rS (st_if (Tr.eq (tC (xv (by walk_at "m")) (Ex.eq ex_str (congrArg D.str lpar_eq)) o_eq_str) (decide_eq_true h1)) (fun J=>rS (st_aug (by walk_at "m") xi oi_add_int (by walk_at "d")) run_nil) (fun h=>nomatch h)) ?_
   exact(run_pick (by with_reducible repeat' (first | exact all_nil | refine' all_cons (by walk_at "m") ?_)) (by kernel_rfl))
  ·by_cases h2:ch=(⟨#[41]⟩:Str)
   ·have e1:chkStep a (pos,ch)=a-1:=by simp[chkStep,h2]
    rw[e1]
    by_cases h3:a-1<0
    ·have e2:chkR a (pos,ch)=some (.bool false):=by simp[chkR,h2,h3]
     rw[e2]
     refine run_stepRet (st_if (Tr.eq (tC (xv (by walk_at "m")) (Ex.eq ex_str (congrArg D.str lpar_eq)) o_eq_str) (decide_eq_false h1)) (fun h=>nomatch h) (fun J=>?_))
     refine run_stepRet (st_if (Tr.eq (tC (xv (by walk_at "m")) (Ex.eq ex_str (congrArg D.str rpar_eq)) o_eq_str) (decide_eq_true h2)) (fun J=>?_) (fun h=>nomatch h))
     refine rS (st_aug (by walk_at "m") xi oi_sub_int (by walk_at "d")) ?_
     exact run_stepRet (st_if (Tr.eq (tC (xv (by walk_at "m")) xi o_lt_int) (decide_eq_true h3)) (fun J=>run_ret ex_bool) (fun h=>nomatch h))
    ·have e2:chkR a (pos,ch)=none:=by simp[chkR,h3]
     rw[e2]
     refine rS (st_if (Tr.eq (tC (xv (by walk_at "m")) (Ex.eq ex_str (congrArg D.str lpar_eq)) o_eq_str) (decide_eq_false h1)) (fun h=>nomatch h) (fun J=>rS (st_if (Tr.eq (tC (xv (by walk_at "m")) (Ex.eq ex_str (congrArg D.str rpar_eq)) o_eq_str) (decide_eq_true h2)) (fun J=>rS (st_aug (by walk_at "m") xi oi_sub_int (by walk_at "d")) (rS (st_if (Tr.eq (tC (xv (by walk_at "m")) xi o_lt_int) (decide_eq_false h3)) (fun h=>nomatch h) (fun J=>run_nil)) run_nil)) (fun h=>nomatch h)) run_nil)) ?_
     exact(run_pick (by with_reducible repeat' (first | exact all_nil | refine' all_cons (by walk_at "m") ?_)) (by kernel_rfl))
   ·have e1:chkStep a (pos,ch)=a:=by simp[chkStep,h1,h2]
    have e2:chkR a (pos,ch)=none:=by simp[chkR,h2]
    rw[e1,e2]
    refine rS (st_if (Tr.eq (tC (xv (by walk_at "m")) (Ex.eq ex_str (congrArg D.str lpar_eq)) o_eq_str) (decide_eq_false h1)) (fun h=>nomatch h) (fun J=>rS (st_if (Tr.eq (tC (xv (by walk_at "m")) (Ex.eq ex_str (congrArg D.str rpar_eq)) o_eq_str) (decide_eq_false h2)) (fun h=>nomatch h) (fun J=>run_nil)) run_nil)) ?_
    exact(run_pick (by with_reducible repeat' (first | exact all_nil | refine' all_cons (by walk_at "m") ?_)) (by kernel_rfl))
 ·rw[ha]
  exact run_ret (ex_cmp (xv (by walk_at "m")) xi o_eq_int)
 ·rw[hd,chk_out _ _ _ hd]
set_option maxHeartbeats 600000 in
theorem t_valid (G:Gl C) {xs:List Str}{m:Nat}(hl:xs.length≤64) (hc:∀x∈xs,Fn C m "_check_parenthesis" [.str x] (.bool (checkF x))) (hm:m≤n):Run C n (fnT 11).scope [("email_header_fields",.imm (.list (xs.map .str)))] (fnT 11).body (.ret (.list ((xs.map validF).map .str))):=by
 refine run_newL (ds:=[]) (nw_list .nil) (by walk_at "d") fun a=>?_
 refine rS (st_for (It.map2 (it_list (xv (by walk_at "m")))) (fun acc:List Str=>[("accepted_values",.ml a (acc.map .str)),("email_header_fields",.imm (.list (xs.map .str)))]) [] (fun acc x=>acc++[validF x]) (List.Sublist.refl _) (fun acc x hx=>.name (by decide +kernel) (by kernel_rfl)) (fun i x hx=>?_) (by intro _ _;rfl)) ?_
 ·have hlen:∀(l:List Str) (acc:List Str),(l.foldl (fun acc x=>acc++[validF x]) acc).length=acc.length+l.length:=by
   intro l
   induction l with
   | nil=>intro acc;rfl
   | cons y l ih=>intro acc;rw[List.foldl_cons,ih];simp only[List.length_append,List.length_cons,List.length_nil];exact Nat.add_right_comm _ _ _
  have hli:=hlen (xs.take i) []
  have htl:=List.length_take_le i xs
  have hil:=(List.getElem?_eq_some_iff.mp hx).1
  generalize (xs.take i).foldl (fun acc x=>acc++[validF x]) []=acc at hli
  have hF:=hc x (List.mem_of_getElem? hx)
  rw[List.map_append,List.map_cons,List.map_nil]
  cases hcx:checkF x with
  | true=>
   have e:validF x=x:=by unfold validF;rw[hcx];rfl
   rw[e]
   refine rS (st_if (c:=false) (Tr.eq (Tr.not (tr_bool (ex_call (.cons (xv (by walk_at "m")) .nil rfl) hF hm))) (by rw[hcx];rfl)) (fun h=>nomatch h) (fun J=>run_nil)) ?_
   refine rS (st_append (xv (by walk_at "m")) (by walk_at "u") (by rw[List.length_map];simp at hli;lia)) ?_
   exact(run_pick (by with_reducible repeat' (first | exact all_nil | refine' all_cons (by walk_at "m") ?_)) (by kernel_rfl))
  | false=>
   have e:validF x=noMail:=by unfold validF;rw[hcx];rfl
   rw[e]
   refine rS (st_if (c:=true) (Tr.eq (Tr.not (tr_bool (ex_call (.cons (xv (by walk_at "m")) .nil rfl) hF hm))) (by rw[hcx];rfl)) (fun J=>rS (sA (Ex.eq ex_str (congrArg D.str nomail_eq)) (by walk_at "d")) run_nil) (fun h=>nomatch h)) ?_
   refine rS (st_append (xv (by walk_at "m")) (by walk_at "u") (by rw[List.length_map];simp at hli;lia)) ?_
   exact(run_pick (by with_reducible repeat' (first | exact all_nil | refine' all_cons (by walk_at "m") ?_)) (by kernel_rfl))
 ·have e:∀(l:List Str) (acc:List Str),l.foldl (fun acc x=>acc++[validF x]) acc=acc++l.map validF:=by
   intro l
   induction l with
   | nil=>intro acc;simp
   | cons y l ih=>intro acc;rw[List.foldl_cons,ih];simp
  rw[e,List.nil_append]
  refine run_freezeL (by walk_at "u") ?_
  exact run_ret (xv (by walk_at "m"))
end
end
section
noncomputable def eolsB:Bool→List Nat→List Nat
 | _,[]=>[]
 | cr,c::l=>if c=10 then (if cr=true then eolsB false l else 13::10::eolsB false l) else if c=13 then 13::10::eolsB true l else c::eolsB false l
noncomputable abbrev eolsL (l:List Nat):List Nat:=eolsB false l
section
variable {cr:Bool}{c:Nat}{l:List Nat}
theorem eolsB_lf:eolsB cr (10::l)=if cr=true then eolsB false l else 13::10::eolsB false l:=rfl
theorem eolsB_no (h1:c≠10) (h2:c≠13):eolsB cr (c::l)=c::eolsB false l:=(if_neg h1).trans (if_neg h2)
theorem eolsB_same (h:∀c l',l=c::l'→c≠10):eolsB cr l=eolsB false l:=by
 cases l with
 | nil=>cases cr <;> rfl
 | cons c l=>exact(if_neg (h c l rfl)).trans (if_neg (h c l rfl)).symm
end
noncomputable def dotsL:Bool→List Nat→List Nat
 | _,[]=>[]
 | b,c::l=>if b=true∧c=46 then 46::46::dotsL false l else c::dotsL (c==10) l
theorem dropA {t:Array Nat}{s:Nat}(h:s<t.size):t.toList.drop s=t[s]?.getD 0::t.toList.drop (s+1):=by
 rw[List.drop_eq_getElem_cons (h),Array.getElem?_eq_getElem h];rfl
theorem drop_none {t:Array Nat}{s:Nat}(h:t.size≤s):t.toList.drop s=[]:=List.drop_eq_nil_iff.mpr h
theorem extract_list {t:Array Nat}{a b:Nat}:(t.extract a b).toList=(t.toList.drop a).take (b-a):=by simp[List.extract_eq_take_drop]
section
variable {t:Array Nat}{G:Nat→List Nat}{r:List Nat}
theorem fnd_list {c:Nat→Prop}[DecidablePred c] {en:Nat→Nat}(he:G t.size=[]) (hy:∀s,s<t.size→c s→G s=r++G (en s)) (hn:∀s,s<t.size→¬c s→G s=t[s]?.getD 0::G (s+1)) (f:Nat) :
  ∀s,s+f=t.size→(fnd c en f s=none→G s=t.toList.drop s)∧∀b e,fnd c en f s=some (b,e)→G s=(t.toList.drop s).take (b-s)++(r++G e):=by
 induction f with
 | zero=>
  intro s h
  have e:s=t.size:=h
  subst e
  exact⟨fun J=>he.trans (drop_none (Nat.le_refl _)).symm,fun b e q=>nomatch q⟩
 | succ f ih=>
  intro s h
  have hs:s<t.size:=Nat.lt_of_lt_of_eq (Nat.lt_add_of_pos_right (Nat.succ_pos f)) h
  by_cases hc:c s
  ·rw[fnd_yes hc]
   refine⟨fun q=>(nomatch q),fun b e q=>?_⟩
   cases q
   rw[Nat.sub_self];exact hy s hs hc
  ·rw[fnd_no hc,hn s hs hc,dropA hs]
   obtain⟨i1,i2⟩:=ih (s+1) ((Nat.add_right_comm s 1 f).trans h)
   refine⟨fun q=>congrArg _ (i1 q),fun b e q=>?_⟩
   have hb:s+1≤b:=(fnd_at q).1
   rw[i2 b e q,show b-s=(b-(s+1))+1 from(Nat.succ_pred_eq_of_pos (Nat.sub_pos_of_lt hb)).symm];rfl
theorem cuts_list {find:Nat→Option (Nat×Nat)}{q:Array Nat}(hin:∀p b e,p≤t.size→find p=some (b,e)→p≤b∧b<e∧e≤t.size)
  (hg:∀p,p≤t.size→(find p=none→G p=t.toList.drop p)∧∀b e,find p=some (b,e)→G p=(t.toList.drop p).take (b-p)++(q.toList++G e)) (f p:Nat) (hf:t.size-p<f) (hp:p≤t.size):(flatA (cuts find t q f p)).toList=G p:=by
 induction f generalizing p with
 | zero=>exact absurd hf (Nat.not_lt_zero _)
 | succ f ih=>
  cases hq:find p with
  | none=>rw[cuts_none hq,flat_piece,extract_list,(hg p hp).1 hq];exact List.take_of_length_le (by rw[List.length_drop];exact Nat.le_refl _)
  | some x=>
   obtain⟨b,e⟩:=x
   obtain⟨i1,i2,i3⟩:=hin p b e hp hq
   rw[cuts_some hq,flatA_append,flatA_cons,Array.toList_append,Array.toList_append,flat_piece,extract_list,ih e (sub_fuel hf i1 i2 i3) i3,(hg p hp).2 b e hq]
end
theorem eols_brk {t:Array Nat}{s:Nat}(hs:s<t.size) (hc:t[s]?.getD 0=10∨t[s]?.getD 0=13):eolsL (t.toList.drop s)=13::10::eolsL (t.toList.drop (eolEnd t s)):=by
 unfold eolEnd
 rw[dropA hs]
 rcases hc with hc | hc
 ·rw[if_neg (by rw[hc];exact fun x=>nomatch x.1),hc];rfl
 ·by_cases h2:t[s+1]?.getD 0=10
  ·have hlt:s+1<t.size:=Nat.not_le.mp fun h=>by rw[Array.getElem?_eq_none h] at h2;cases h2
   rw[if_pos ⟨hc,h2⟩,dropA hlt,hc,h2];rfl
  ·rw[if_neg (fun h=>h2 h.2),hc]
   refine congrArg (fun l=>13::10::l) (eolsB_same fun c l' hl=>?_)
   by_cases hlt:s+1<t.size
   ·rw[dropA hlt] at hl
    rw[← (List.cons.inj hl).1];exact h2
   ·rw[drop_none (Nat.le_of_not_lt hlt)] at hl;cases hl
theorem eols_list (t:Array Nat):(eols t).toList=eolsL t.toList:=
 cuts_list (q:=#[13,10]) (G:=fun p=>eolsL (t.toList.drop p)) in3 (fun p hp=>fnd_list (G:=fun p=>eolsL (t.toList.drop p)) (r:=[13,10]) (congrArg eolsL (drop_none (Nat.le_refl _))) (fun s=>eols_brk) (fun s hs hc=>by
  show eolsL _=_
  rw[dropA hs];exact eolsB_no (fun h=>hc (.inl h)) (fun h=>hc (.inr h))) (t.size-p) p (Nat.add_sub_cancel' hp)) (t.size+1) 0 (Nat.lt_succ_self _) (Nat.zero_le _)
theorem line_next {t:Array Nat}{s:Nat}:lineAt t (s+1)=(t[s]?.getD 0==10):=by
 unfold lineAt
 rw[Array.getD_eq_getD_getElem?];exact Bool.false_or _
theorem dots_list (t:Array Nat):(dots t).toList=dotsL true t.toList:=
 cuts_list (q:=#[46,46]) (G:=fun p=>dotsL (lineAt t p) (t.toList.drop p)) in1 (fun p hp=>fnd_list (G:=fun p=>dotsL (lineAt t p) (t.toList.drop p)) (r:=[46,46]) (by
  show dotsL _ _=_
  rw[drop_none (Nat.le_refl _)];rfl) (fun s hs hc=>by
  show dotsL _ _=_::_::dotsL _ _
  rw[dropA hs,line_next,hc.1,hc.2];rfl) (fun s hs hc=>by
  show dotsL _ _=_::dotsL _ _
  rw[dropA hs,line_next];exact if_neg hc) (t.size-p) p (Nat.add_sub_cancel' hp)) (t.size+1) 0 (Nat.lt_succ_self _) (Nat.zero_le _)
end
section
open Builtin Builtin.Str PySem.StrLaws
noncomputable def spl (y:List Nat):Nat→Nat→List Nat→List Nat→List (List Nat)
 | _,_,acc,[]=>[acc]
 | k+1,m,acc,_::l=>spl y k m acc l
 | 0,m,acc,c::l=>if 0<m∧y.isPrefixOf (c::l)=true then acc::spl y (y.length-1) (m-1) [] l else spl y 0 m (acc++[c]) l
noncomputable def occR (x y:Str) (m:Nat):Nat→Nat→Nat→Nat→List Nat
 | 0,_,_,_=>[]
 | n+1,i,free,cnt=>if ((cnt<m∧free≤i)∧i+y.length≤x.length)∧subAt x y i=true then i::occR x y m n (i+1) (i+y.length) (cnt+1) else occR x y m n (i+1) free cnt
section
variable {x y:Str}{m n i free cnt:Nat}
theorem occ_yes (h:((cnt<m∧free≤i)∧i+y.length≤x.length)∧subAt x y i=true):occR x y m (n+1) i free cnt=i::occR x y m n (i+1) (i+y.length) (cnt+1):=if_pos h
theorem occ_no (h:¬(((cnt<m∧free≤i)∧i+y.length≤x.length)∧subAt x y i=true)):occR x y m (n+1) i free cnt=occR x y m n (i+1) free cnt:=if_neg h
end
theorem occ_run (x y:Str) (m n i:Nat) (st:Array Nat×Nat):(forIn (List.range' i n) st (occBody x y x.length m)).run.fst.toList=st.fst.toList++occR x y m n i st.snd st.fst.size:=by
 induction n generalizing i st with
 | zero=>exact(List.append_nil _).symm
 | succ n ih=>
  rw[List.range'_succ,List.forIn_cons]
  unfold occBody
  by_cases h:((st.fst.size<m∧st.snd≤i)∧i+y.length≤x.length)∧subAt x y i=true
  ·rw[if_pos h,occ_yes h]
   have ih:=ih (i+1) (st.fst.push i,i+y.length)
   rw[Array.toList_push,Array.size_push,List.append_assoc] at ih
   exact ih
  ·rw[if_neg h,occ_no h];exact ih (i+1) (st.fst,st.snd)
theorem occ_list (x y:Str) (m:Nat):occurrences x y 0 x.length m=occR x y m (x.length+1) 0 0 0:=by
 rw[occ_eq,occ_run];simp
theorem subAt_iff {x y:Str}{i:Nat}:subAt x y i=true↔y.cps.toList.isPrefixOf (x.cps.toList.drop i)=true:=by
 unfold subAt
 rw[List.isPrefixOf_iff_prefix,beq_iff_eq]
 have e:(x.cps.extract i (i+y.length)).toList=(x.cps.toList.drop i).take y.length:=by rw[extract_list];congr 1;exact Nat.add_sub_cancel_left _ _
 constructor
 ·intro h
  have h2:=congrArg Array.toList h
  rw[e] at h2
  rw[← h2]
  exact List.take_prefix _ _
 ·intro h
  apply Array.ext'
  rw[e]
  have h3:=List.prefix_iff_eq_take.mp h
  rw[Array.length_toList] at h3
  exact h3.symm
theorem spl_nil {y:List Nat}{k m:Nat}{acc:List Nat}:spl y k m acc []=[acc]:=by cases k <;> rfl
theorem spl_yes {y:List Nat}{m c:Nat}{acc l:List Nat}(h:0<m∧y.isPrefixOf (c::l)=true):spl y 0 m acc (c::l)=acc::spl y (y.length-1) (m-1) [] l:=if_pos h
theorem spl_no {y:List Nat}{m c:Nat}{acc l:List Nat}(h:¬(0<m∧y.isPrefixOf (c::l)=true)):spl y 0 m acc (c::l)=spl y 0 m (acc++[c]) l:=if_neg h
theorem sub_list {x:Str}{a b:Nat}:(strSub x a b).cps.toList=(x.cps.toList.drop a).take (b-a):=extract_list
theorem take_end {l:List Nat}{free i:Nat}(h:l.length≤i):(l.drop free).take (i-free)=l.drop free:=List.take_of_length_le (by rw[List.length_drop];exact Nat.sub_le_sub_right h _)
theorem parts_list (x y:Str) (m:Nat) (hy:1≤y.length) (n:Nat):∀(i free cnt:Nat),i+n=x.length+1→free≤x.length →
  (partsFrom x y.length free (occR x y m n i free cnt)).map (·.cps.toList)=spl y.cps.toList (free-i) (m-cnt) ((x.cps.toList.drop free).take (i-free)) (x.cps.toList.drop i):=by
 have hwl:y.cps.toList.length=y.length:=Array.length_toList
 have hxl:x.cps.toList.length=x.length:=Array.length_toList
 induction n with
 | zero=>
  intro i free cnt h hf
  have hi:x.cps.toList.length≤i:=Nat.le_trans (Nat.le_of_eq hxl) (Nat.le_of_succ_le (Nat.le_of_eq h.symm))
  rw[List.drop_eq_nil_iff.mpr hi,spl_nil,take_end hi]
  exact congrArg (fun l=>[l]) (sub_list.trans (take_end (Nat.le_of_eq hxl)))
 | succ n ih=>
  intro i free cnt h hf
  have hn:(i+1)+n=x.length+1:=(Nat.add_right_comm i 1 n).trans h
  have ih1:=ih (i+1) free cnt hn hf
  by_cases hi:i<x.length
  ·have hi':i<x.cps.toList.length:=Nat.lt_of_lt_of_eq hi hxl.symm
   have hd:=List.drop_eq_getElem_cons hi'
   generalize hc:x.cps.toList[i]=c at hd
   by_cases hfi:free≤i
   ·rw[Nat.sub_eq_zero_of_le hfi,hd]
    by_cases hp:0<m-cnt∧y.cps.toList.isPrefixOf (c::x.cps.toList.drop (i+1))=true
    ·rw[spl_yes hp]
     rw[← hd] at hp
     have hle:i+y.length≤x.length:=by
      have:=(List.isPrefixOf_iff_prefix.mp hp.2).length_le
      rw[List.length_drop,hwl,hxl] at this
      rw[Nat.add_comm];exact Nat.add_le_of_le_sub (Nat.le_of_lt hi) this
     rw[occ_yes ⟨⟨⟨Nat.lt_of_sub_pos hp.1,hfi⟩,hle⟩,subAt_iff.mpr hp.2⟩]
     have ih:=ih (i+1) (i+y.length) (cnt+1) hn hle
     rw[Nat.sub_eq_zero_of_le (Nat.add_le_add_left hy i),Nat.add_sub_add_left] at ih
     rw[hwl]
     exact List.cons_eq_cons.mpr ⟨sub_list,ih⟩
    ·rw[spl_no hp,occ_no (fun hh=>hp ⟨Nat.sub_pos_of_lt hh.1.1.1,by rw[← hd];exact subAt_iff.mp hh.2⟩),ih1,Nat.sub_eq_zero_of_le (Nat.le_succ_of_le hfi),Nat.succ_sub hfi,List.take_add_one,List.getElem?_drop,Nat.add_sub_of_le hfi,List.getElem?_eq_getElem hi',hc];rfl
   ·have hlt:i<free:=Nat.lt_of_not_le hfi
    rw[occ_no (fun hh=>hfi hh.1.1.2),ih1,hd,Nat.sub_eq_zero_of_le hlt,Nat.sub_eq_zero_of_le (Nat.le_of_lt hlt),show free-i=(free-(i+1))+1 from(Nat.succ_pred_eq_of_pos (Nat.sub_pos_of_lt hlt)).symm]
    rfl
  ·have hi':x.cps.toList.length≤i:=Nat.le_trans (Nat.le_of_eq hxl) (Nat.le_of_not_lt hi)
   rw[occ_no (fun hh=>hi (Nat.lt_of_lt_of_le (Nat.lt_add_of_pos_right hy) hh.1.2)),ih1,List.drop_eq_nil_iff.mpr hi',List.drop_eq_nil_iff.mpr (Nat.le_succ_of_le hi'),spl_nil,spl_nil,take_end hi',take_end (Nat.le_succ_of_le hi')]
theorem between_list (x y:Str) (m:Nat) (hy:1≤y.length):(partsBetween x (occurrences x y 0 x.length m) y.length).map (·.cps.toList)=spl y.cps.toList 0 m [] x.cps.toList:=by
 rw[partsBetween_eq,occ_list,parts_list x y m hy _ _ _ _ (by exact Nat.add_comm _ _) (by exact Nat.zero_le _)]
 simp
end
section
open Builtin Builtin.Str PySem.StrLaws
noncomputable abbrev tl (x:Str):List Nat:=x.cps.toList
theorem str_ext {x y:Str}(h:tl x=tl y):x=y:=by
 obtain⟨a⟩:=x
 obtain⟨b⟩:=y
 exact congrArg Str.mk (Array.ext' h)
noncomputable def joinL (z:List Nat):List (List Nat)→List Nat
 | []=>[]
 | p::ps=>p++(ps.map (z++·)).flatten
theorem glued_list (z:Str) (parts:List Str):tl (glued z parts)=joinL (tl z) (parts.map tl):=by
 have main:∀(ps:List Str) (acc:Array Nat),(ps.foldl (fun acc p=>acc++z.cps++p.cps) acc).toList=acc.toList++((ps.map tl).map (tl z++·)).flatten:=by
  intro ps
  induction ps with
  | nil=>intro acc;simp
  | cons p ps ih=>intro acc;rw[List.foldl_cons,ih];simp
 cases parts with
 | nil=>rfl
 | cons p ps=>exact main ps p.cps
theorem join_list (z:Str) (parts:List Str):tl (Txt.join z parts)=joinL (tl z) (parts.map tl):=glued_list z parts
theorem parts_len (x y:Str):∀(cuts:List Nat) (a:Nat),(partsFrom x y.length a cuts).length=cuts.length+1
 | [],a=>rfl
 | c::r,a=>by simp[partsFrom,parts_len x y r]
theorem spl_whole {x y:Str}{m:Nat}(hy:1≤y.length) (h:(occurrences x y 0 x.length m).isEmpty=true):spl (tl y) 0 m [] (tl x)=[tl x]:=by
 rw[← between_list x y m hy,List.isEmpty_iff.mp h]
 show[tl (strSub x 0 x.length)]=_
 rw[sub_whole]
theorem split_list {x y:Str}(hy:1≤y.length) (hk:Builtin.Str.strKind y=1):(Txt.split x y).map tl=spl (tl y) 0 (x.length+1) [] (tl x):=by
 unfold Txt.split
 have hkx:1≤Builtin.Str.strKind x:=by unfold Builtin.Str.strKind;split <;> (try split) <;> decide
 by_cases h1:x.length<y.length
 ·rw[if_pos (by simp[h1])]
  refine(spl_whole hy ?_).symm
  rw[occ_list]
  have:∀n i f c,occR x y (x.length+1) n i f c=[]:=by
   intro n
   induction n with
   | zero=>intro i f c;rfl
   | succ n ih=>intro i f c;unfold occR;rw[if_neg (fun hh=>by have:=hh.1.2;exact Nat.not_lt_of_le (Nat.le_trans (Nat.le_add_left _ _) hh.1.2) h1)];exact ih _ _ _
  rw[this];rfl
 ·rw[if_neg (by simp[h1];exact Nat.le_trans (Nat.le_of_eq hk) hkx)]
  by_cases h2:(occurrences x y 0 x.length (x.length+1)).isEmpty=true
  ·rw[if_pos h2,spl_whole hy h2];rfl
  ·rw[if_neg h2];exact between_list x y _ hy
theorem splitMax_list {x y:Str}{k:Int}(hy:1≤y.length) (hk:Builtin.Str.strKind y=1):(splitMax x y k).map tl=spl (tl y) 0 (limitOf x k) [] (tl x):=by
 unfold splitMax
 have hkx:1≤Builtin.Str.strKind x:=by unfold Builtin.Str.strKind;split <;> (try split) <;> decide
 by_cases h1:x.length<y.length
 ·rw[if_pos (by simp[h1])]
  refine(spl_whole hy ?_).symm
  rw[occ_list]
  have:∀n i f c,occR x y (limitOf x k) n i f c=[]:=by
   intro n
   induction n with
   | zero=>intro i f c;rfl
   | succ n ih=>intro i f c;unfold occR;rw[if_neg (fun hh=>by have:=hh.1.2;exact Nat.not_lt_of_le (Nat.le_trans (Nat.le_add_left _ _) hh.1.2) h1)];exact ih _ _ _
  rw[this];rfl
 ·rw[if_neg (by simp[h1];exact Nat.le_trans (Nat.le_of_eq hk) hkx)]
  by_cases h2:(occurrences x y 0 x.length (limitOf x k)).isEmpty=true
  ·rw[if_pos h2,spl_whole hy h2];rfl
  ·rw[if_neg h2];exact between_list x y _ hy
theorem replace_list {x y z:Str}(hy:1≤y.length):tl (Txt.replace x y z)=joinL (tl z) (spl (tl y) 0 (x.length+1) [] (tl x)):=by
 unfold Txt.replace
 by_cases h2:(occurrences x y 0 x.length (x.length+1)).isEmpty=true
 ·rw[if_pos (by rw[h2];rfl),spl_whole hy h2]
  simp[joinL]
 ·have h3:(y.length==0)=false:=by simp;exact Nat.ne_of_gt (Nat.lt_of_succ_le hy)
  rw[if_neg (by rw[h3];simpa using h2),glued_list,← between_list x y _ hy]
theorem spl_cons (y:List Nat) (m:Nat) (acc:List Nat) (c:Nat) (l:List Nat):spl y 0 m acc (c::l)=if 0<m∧y.isPrefixOf (c::l)=true then acc::spl y (y.length-1) (m-1) [] l else spl y 0 m (acc++[c]) l:=rfl
theorem spl_block {y0:Nat}{ys:List Nat}(u:List Nat) {m:Nat}{acc l:List Nat}(h:∀c∈u,c≠y0):spl (y0::ys) 0 m acc (u++l)=spl (y0::ys) 0 m (acc++u) l:=by
 induction u generalizing acc with
 | nil=>rw[List.append_nil];rfl
 | cons c u ih=>
  have hp:(y0::ys).isPrefixOf (c::(u++l))=false:=by
   rw[List.isPrefixOf_cons₂,beq_false_of_ne (h c List.mem_cons_self).symm];rfl
  rw[List.cons_append,spl_no (by rw[hp];exact fun x=>nomatch x.2),ih fun d hd=>h d (List.mem_cons_of_mem _ hd),List.append_assoc];rfl
theorem spl_skip {y:List Nat}:∀(u:List Nat) {m:Nat}{acc l:List Nat},spl y u.length m acc (u++l)=spl y 0 m acc l
 | [],m,acc,l=>rfl
 | c::u,m,acc,l=>by
  show spl y u.length m acc (u++l)=_
  exact spl_skip u
theorem spl_hit {y0:Nat}{ys:List Nat}{m:Nat}{acc l:List Nat}:spl (y0::ys) 0 (m+1) acc (y0::ys++l)=acc::spl (y0::ys) 0 m [] l:=by
 rw[List.cons_append,spl_cons]
 rw[if_pos ⟨Nat.succ_pos _,by rw[← List.cons_append];exact List.isPrefixOf_iff_prefix.mpr (List.prefix_append _ _)⟩]
 have:=spl_skip (y:=y0::ys) ys (m:=m) (acc:=[]) (l:=l)
 simp only[List.length_cons,Nat.add_sub_cancel]
 exact congrArg _ this
theorem spl_end {y:List Nat}{m:Nat}{acc:List Nat}:spl y 0 m acc []=[acc]:=rfl
theorem spl_rest {y0:Nat}{ys:List Nat}{m:Nat}{acc:List Nat}(u:List Nat) (h:∀c∈u,c≠y0):spl (y0::ys) 0 m acc u=[acc++u]:=by
 have:=spl_block (ys:=ys) u (m:=m) (acc:=acc) (l:=[]) h
 rw[List.append_nil] at this
 rw[this,spl_end]
theorem spl_zero {y:List Nat}(l:List Nat) {acc:List Nat}:spl y 0 0 acc l=[acc++l]:=by
 induction l generalizing acc with
 | nil=>exact congrArg (fun l=>[l]) (List.append_nil acc).symm
 | cons c l ih=>rw[spl_no (fun h=>Nat.lt_irrefl 0 h.1),ih,List.append_assoc];rfl
end
section
open Builtin Builtin.Str PySem.StrLaws
noncomputable abbrev rep (n:Nat):List Nat:=List.replicate n 46
noncomputable def dotS (n:Nat):Str:=⟨(rep n).toArray⟩
theorem tl_dotS (n:Nat):tl (dotS n)=rep n:=rfl
theorem tl_append (x y:Str):tl (x++y)=tl x++tl y:=by
 show(x.cps++y.cps).toList=_;simp
theorem dotS_len (n:Nat):(dotS n).length=n:=by show(rep n).toArray.size=n;simp
noncomputable def EndL (e:List Nat):Prop:=e=[10]∨e=[13]∨e=[13,10]
theorem eols_block (u:List Nat) {l:List Nat}(h:∀c∈u,c≠10∧c≠13):eolsB false (u++l)=u++eolsB false l:=by
 induction u with
 | nil=>rfl
 | cons c u ih=>
  obtain⟨hc,hu⟩:=List.forall_mem_cons.mp h
  exact(eolsB_no hc.1 hc.2).trans (congrArg (c::·) (ih hu))
theorem eols_end {e l:List Nat}(he:EndL e) (h:∀c l',l=c::l'→c≠10):eolsB false (e++l)=13::10::eolsB false l:=by
 rcases he with rfl | rfl | rfl
 ·rfl
 ·exact congrArg (fun l=>13::10::l) (eolsB_same h)
 ·rfl
theorem dots_block (u:List Nat) {l:List Nat}(h:∀c∈u,c≠10):dotsL false (u++l)=u++dotsL false l:=by
 induction u with
 | nil=>rfl
 | cons c u ih=>
  obtain⟨hc,hu⟩:=List.forall_mem_cons.mp h
  have e:dotsL false (c::(u++l))=c::dotsL (c==10) (u++l):=if_neg fun x=>nomatch x.1
  rw[List.cons_append,e,beq_eq_false_iff_ne.mpr hc,ih hu];rfl
theorem dots_end {b:Bool}{l:List Nat}:dotsL b (13::10::l)=13::10::dotsL true l:=by cases b <;> rfl
theorem dots_first {l:List Nat}:dotsL true (46::l)=46::46::dotsL false l:=rfl
theorem dots_dash {l:List Nat}:dotsL true (45::l)=45::dotsL false l:=rfl
theorem rep_ne {n c:Nat}:∀d∈rep n,d=46:=fun d hd=>List.eq_of_mem_replicate hd
theorem dots_row {n:Nat}{l:List Nat}(hn:1≤n):dotsL true (rep n++l)=rep (n+1)++dotsL false l:=by
 obtain⟨m,rfl⟩:∃m,n=m+1:=⟨n-1,by lia⟩
 rw[show rep (m+1)=46::rep m from rfl,List.cons_append,dots_first,dots_block (rep m) fun c hc=>by rw[rep_ne (c:=0) c hc];decide]
 rfl
theorem dots_rowD {n:Nat}{l:List Nat}:dotsL true (45::rep n++l)=45::rep n++dotsL false l:=by
 rw[List.cons_append,dots_dash,dots_block (rep n) fun c hc=>by rw[rep_ne (c:=0) c hc];decide]
 rfl
theorem sent_list (t:Array Nat):(dots (eols t)).toList=dotsL true (eolsB false t.toList):=by rw[dots_list,eols_list]
theorem not10 {n:Nat}{l:List Nat}(hn:1≤n):∀c l',rep n++l=c::l'→c≠10:=fun c l' h=>by
 obtain⟨m,rfl⟩:∃m,n=m+1:=⟨n-1,by lia⟩
 rw[show rep (m+1)=46::rep m from rfl,List.cons_append] at h
 rw[← (List.cons.inj h).1];decide
theorem eols_39 {l:List Nat}:eolsB false (39::l)=39::eolsB false l:=rfl
theorem dots_39 {l:List Nat}:dotsL false (39::l)=39::dotsL false l:=rfl
theorem mail_sent {e:List Nat}(he:EndL e) {a b c:Nat}(ha:1≤a) (hb:1≤b) (hc:1≤c) :
  dotsL true (eolsB false (e++(rep a++39::(e++(rep b++39::(e++rep c))))))=[13,10]++(rep (a+1)++39::([13,10]++(rep (b+1)++39::([13,10]++rep (c+1))))):=by
 have br:∀n,∀d∈rep n,d≠10∧d≠13:=fun n d hd=>by rw[rep_ne (c:=0) d hd];decide
 rw[eols_end he (not10 ha),eols_block (rep a) (br a),eols_39,eols_end he (not10 hb),eols_block (rep b) (br b),
  eols_39,eols_end he (by have:=not10 (l:=[]) hc;rwa [List.append_nil] at this)]
 have hlast:eolsB false (rep c)=rep c:=by
  have:=eols_block (rep c) (l:=[]) (br c)
  rw[List.append_nil] at this
  exact this.trans (List.append_nil _)
 rw[hlast,dots_end,dots_row ha,dots_39,dots_end,dots_row hb,dots_39,dots_end]
 have:=dots_row (l:=[]) hc
 rw[List.append_nil] at this
 rw[this]
 exact congrArg (fun l=>13::10::(rep (a+1)++39::13::10::(rep (b+1)++39::13::10::l))) (List.append_nil (rep (c+1)))
noncomputable def sentRow (n:Nat):List Nat:=[13,10]++rep n
theorem mail_parts {m a b c:Nat}:spl [39] 0 (m+2) [] ([13,10]++(rep a++39::([13,10]++(rep b++39::([13,10]++rep c)))))=[sentRow a,sentRow b,sentRow c]:=by
 have ne:∀n,∀d∈sentRow n,d≠39:=fun n d hd=>by
  unfold sentRow at hd
  rcases List.mem_append.mp hd with h | h
  ·simp at h;lia
  ·rw[rep_ne (c:=0) d h];decide
 have e:[13,10]++(rep a++39::([13,10]++(rep b++39::([13,10]++rep c))))=sentRow a++([39]++(sentRow b++([39]++sentRow c))):=by simp[sentRow]
 rw[e,spl_block (sentRow a) (ne a),List.nil_append,spl_hit,spl_block (sentRow b) (ne b),List.nil_append,spl_hit,spl_rest (sentRow c) (ne c)]
 rfl
theorem row_taken {m n:Nat}(hn:1≤n):joinL [46] (spl [13,10,46,46] 0 (m+1) [] (sentRow (n+1)))=rep n:=by
 obtain⟨k,rfl⟩:∃k,n=k+1:=⟨n-1,by lia⟩
 have e:sentRow (k+1+1)=[13,10,46,46]++rep k:=rfl
 rw[e,spl_hit,spl_rest (rep k) fun c hc=>by rw[rep_ne (c:=0) c hc];decide]
 simp[joinL]
 rfl
end
section
open Builtin Builtin.Str PySem.StrLaws
noncomputable def rowL (b:Bool) (n:Nat):List Nat:=if b then rep n else 45::rep n
theorem rowL_mem {b:Bool}{n:Nat}:∀c∈rowL b n,c=45∨c=46:=fun c hc=>by
 cases b with
 | true=>exact .inr (rep_ne (c:=0) c hc)
 | false=>
  rcases List.mem_cons.mp (show c∈45::rep n from hc) with h | h
  ·exact .inl h
  ·exact .inr (rep_ne (c:=0) c h)
theorem rowL_not10 {b:Bool}{n:Nat}{l:List Nat}(hn:1≤n):∀c l',rowL b n++l=c::l'→c≠10:=fun c l' h=>by
 cases b with
 | true=>exact not10 hn c l' h
 | false=>rw[show rowL false n=45::rep n from rfl,List.cons_append] at h;rw[← (List.cons.inj h).1];decide
theorem eols_rowL {b:Bool}{n:Nat}{l:List Nat}:eolsB false (rowL b n++l)=rowL b n++eolsB false l:=eols_block _ fun c hc=>by
 rcases rowL_mem c hc with h | h <;> rw[h] <;> decide
theorem dots_rowL {b:Bool}{n:Nat}{l:List Nat}(hn:1≤n):dotsL true (rowL b n++l)=rowL b (n+b.toNat)++dotsL false l:=by
 cases b with
 | true=>exact dots_row hn
 | false=>exact dots_rowD
theorem text_sent {e:List Nat}(he:EndL e) {x y z:Bool}{a b c:Nat}(ha:1≤a) (hb:1≤b) (hc:1≤c) :
  dotsL true (eolsB false (rowL x a++(e++(rowL y b++(e++rowL z c)))))=rowL x (a+x.toNat)++([13,10]++(rowL y (b+y.toNat)++([13,10]++rowL z (c+z.toNat)))):=by
 have hlast:eolsB false (rowL z c)=rowL z c:=by
  have:=eols_rowL (b:=z) (n:=c) (l:=[])
  simpa [eolsB] using this
 have h1:=rowL_not10 (b:=z) (l:=[]) hc
 rw[List.append_nil] at h1
 rw[eols_rowL,eols_end he (rowL_not10 hb),eols_rowL,eols_end he h1,hlast,dots_rowL ha]
 have e2:∀l,dotsL false (13::10::l)=13::10::dotsL true l:=fun l=>dots_end
 rw[e2,dots_rowL hb,e2]
 have:=dots_rowL (b:=z) (l:=[]) hc
 rw[List.append_nil] at this
 rw[this]
 simp[dotsL]
theorem text_parts {m:Nat}{x y z:Bool}{a b c:Nat}:spl [13,10] 0 (m+2) [] (rowL x a++([13,10]++(rowL y b++([13,10]++rowL z c))))=[rowL x a,rowL y b,rowL z c]:=by
 have ne:∀{b n},∀d∈rowL b n,d≠13:=fun {b n} d hd=>by rcases rowL_mem d hd with h | h <;> rw[h] <;> decide
 rw[spl_block (rowL x a) ne,List.nil_append,spl_hit,spl_block (rowL y b) ne,List.nil_append,spl_hit,spl_rest (rowL z c) ne]
 rfl
theorem row_bare {m:Nat}{b:Bool}{n:Nat}:joinL [] (spl [45] 0 (m+1) [] (rowL b n))=rep n:=by
 cases b with
 | true=>
  rw[show rowL true n=rep n from rfl,spl_rest (rep n) fun c hc=>by rw[rep_ne (c:=0) c hc];decide]
  simp[joinL]
 | false=>
  rw[show rowL false n=[45]++rep n from rfl,spl_hit,spl_rest (rep n) fun c hc=>by rw[rep_ne (c:=0) c hc];decide]
  simp[joinL]
noncomputable def EndS (e:Str):Prop:=e=⟨#[10]⟩∨e=⟨#[13]⟩∨e=⟨#[13,10]⟩
theorem EndS.l {e:Str}(h:EndS e):EndL (tl e):=by
 rcases h with rfl | rfl | rfl
 ·exact .inl rfl
 ·exact .inr (.inl rfl)
 ·exact .inr (.inr rfl)
theorem EndS.len {e:Str}(h:EndS e):e.length≤2:=by rcases h with rfl | rfl | rfl <;> decide
theorem endS_endOf (r:Int):EndS (endOf r):=by
 unfold endOf
 split
 ·exact .inl rfl
 ·split
  ·exact .inr (.inl rfl)
  ·exact .inr (.inr rfl)
noncomputable def mailS (e:Str) (a b c:Nat):Str:=Txt.join ⟨#[39]⟩ [e++dotS a,e++dotS b,e++dotS c]
theorem mailS_tl (e:Str) (a b c:Nat):tl (mailS e a b c)=tl e++(rep a++39::(tl e++(rep b++39::(tl e++rep c)))):=by
 unfold mailS
 rw[join_list]
 simp[joinL,tl_append,tl_dotS]
 rfl
noncomputable def mailT (a b c:Nat):List Nat:=[13,10]++(rep (a+1)++39::([13,10]++(rep (b+1)++39::([13,10]++rep (c+1)))))
theorem mail_sentS {e:Str}(he:EndS e) {a b c:Nat}(ha:1≤a) (hb:1≤b) (hc:1≤c):(sent (mailS e a b c).cps).toList=mailT a b c:=by
 unfold sent
 rw[sent_list,show(mailS e a b c).cps.toList=_ from mailS_tl e a b c]
 exact mail_sent he.l ha hb hc
noncomputable def sentS (n:Nat):Str:=⟨(sentRow n).toArray⟩
theorem list_map_inj {l l':List Str}(h:l.map tl=l'.map tl):l=l':=by
 induction l generalizing l' with
 | nil=>cases l' with
  | nil=>rfl
  | cons _ _=>cases h
 | cons x l ih=>cases l' with
  | nil=>cases h
  | cons y l'=>
   rw[List.map_cons,List.map_cons] at h
   rw[str_ext (List.cons.inj h).1,ih (List.cons.inj h).2]
theorem mail_decode {t:Array Nat}{a b c:Nat}(ht:t.toList=mailT a b c):splitMax ⟨t⟩ ⟨#[39]⟩ 2=[sentS (a+1),sentS (b+1),sentS (c+1)]:=by
 apply list_map_inj
 rw[splitMax_list (by decide) (by decide +kernel)]
 show spl [39] 0 2 [] t.toList=_
 rw[ht]
 exact mail_parts (m:=0)
theorem part_taken {n:Nat}(hn:1≤n):Txt.replace (sentS (n+1)) ⟨#[13,10,46,46]⟩ ⟨#[46]⟩=dotS n:=by
 apply str_ext
 rw[replace_list (by decide)]
 exact row_taken hn
noncomputable def rowS (b:Bool) (n:Nat):Str:=⟨(rowL b n).toArray⟩
theorem rowS_true (n:Nat):rowS true n=dotS n:=rfl
theorem rowS_false (n:Nat):rowS false n=(⟨#[45]⟩:Str)++dotS n:=by
 apply str_ext
 rw[tl_append];rfl
noncomputable def textS (e:Str) (x y z:Bool) (a b c:Nat):Str:=Txt.join e [rowS x a,rowS y b,rowS z c]
theorem textS_tl (e:Str) (x y z:Bool) (a b c:Nat):tl (textS e x y z a b c)=rowL x a++(tl e++(rowL y b++(tl e++rowL z c))):=by
 unfold textS
 rw[join_list]
 simp[joinL,rowS]
theorem text_sentS {e:Str}(he:EndS e) {x y z:Bool}{a b c:Nat}(ha:1≤a) (hb:1≤b) (hc:1≤c):(sent (textS e x y z a b c).cps).toList=rowL x (a+x.toNat)++([13,10]++(rowL y (b+y.toNat)++([13,10]++rowL z (c+z.toNat)))):=by
 unfold sent
 rw[sent_list,show(textS e x y z a b c).cps.toList=_ from textS_tl e x y z a b c]
 exact text_sent he.l ha hb hc
theorem text_split {t:Array Nat}{x y z:Bool}{a b c:Nat}(ht:t.toList=rowL x a++([13,10]++(rowL y b++([13,10]++rowL z c)))):Txt.split ⟨t⟩ ⟨#[13,10]⟩=[rowS x a,rowS y b,rowS z c]:=by
 apply list_map_inj
 rw[split_list (by decide) (by decide +kernel)]
 show spl [13,10] 0 (t.size+1) [] t.toList=_
 obtain⟨m,hm⟩:∃m,t.size+1=m+2:=⟨t.size-1,by
  have:=congrArg List.length ht
  simp at this
  lia⟩
 rw[hm,ht]
 exact text_parts
theorem row_bareS (b:Bool) (n:Nat):Txt.replace (rowS b n) ⟨#[45]⟩ ⟨#[]⟩=dotS n:=by
 apply str_ext
 rw[replace_list (by decide)]
 exact row_bare
theorem dot_lt (a b:Nat):decide ((dotS a).cps.toList<(dotS b).cps.toList)=decide (a<b):=by
 refine decide_eq_decide.mpr ?_
 show rep a<rep b↔a<b
 induction a generalizing b with
 | zero=>
  cases b with
  | zero=>simp
  | succ b=>simp[List.replicate_succ]
 | succ a ih=>
  cases b with
  | zero=>simp[List.replicate_succ]
  | succ b=>
   rw[show rep (a+1)=46::rep a from rfl,show rep (b+1)=46::rep b from rfl,List.cons_lt_cons_iff]
   simp[ih]
end
section
set_option backward.match.sparseCases false
noncomputable abbrev T3:=Nat×Nat×Nat
noncomputable abbrev T3.l (r:T3):List Nat:=[r.1,r.2.1,r.2.2]
noncomputable abbrev rowsD (r:T3):D:=.list [.str (dotS r.1),.str (dotS r.2.1),.str (dotS r.2.2)]
noncomputable def T3.ok (m:Nat) (r:T3):Prop:=(1≤r.1∧r.1≤m)∧(1≤r.2.1∧r.2.1≤m)∧1≤r.2.2∧r.2.2≤m
noncomputable def T3.max (r s:T3):T3:=(Nat.max r.1 s.1,Nat.max r.2.1 s.2.1,Nat.max r.2.2 s.2.2)
noncomputable def T3.bump (r:T3) (h:Nat):T3:=(r.1+(h==0).toNat,r.2.1+(h==1).toNat,r.2.2+(h==2).toNat)
noncomputable abbrev Book:=Int×Int×Int×Int×Tab
noncomputable abbrev Book.d (b:Book):D:=.tuple [.int b.1,.int b.2.1,.int b.2.2.1,.int b.2.2.2.1,b.2.2.2.2.d]
noncomputable def addB (t s:Book):Book:=(s.1+t.1,s.2.1+t.2.1,s.2.2.1+t.2.2.1,s.2.2.2.1+t.2.2.2.1,addCallers t.2.2.2.2 s.2.2.2.2)
noncomputable def look (ls:List (Nat×T3)) (k:Nat):T3:=((ls.find? fun p=>p.1==k).map (·.2)).getD (1,1,1)
noncomputable def freshF (deeds:List Nat) (old new:Nat):List Nat:=(deeds.take (new-1)).drop (old-1)
noncomputable def freshA (acts:List Act) (r s:T3):List (List Nat):=[freshF (ownF acts 0) r.1 s.1,freshF (ownF acts 1) r.2.1 s.2.1,freshF (ownF acts 2) r.2.2 s.2.2]
noncomputable def newsF (acts:List Act) (worth:List Int) (r s:T3):Int:=sumW worth (freshA acts r s).flatten
noncomputable def takeStep (acts:List Act) (worth:List Int) (ls:List (Nat×T3)) (k:Nat) (p:T3×Book) (g:Nat):T3×Book:=
 (T3.max p.1 (look ls g),(1,1,wAt worth k+newsF acts worth p.1 (look ls g),newsF acts worth p.1 (look ls g),([letter (hOf acts g)],[newsF acts worth p.1 (look ls g)])))
theorem pick_nn {α:Type}{ds:List α}{i j:Nat}:pickD ds (some (i:Int)) (some (j:Int)) none=(ds.take j).drop i:=by
 rw[pick_run (a:=min i ds.length) (b:=min j ds.length)]
 ·rw[List.drop_take]
  rcases Nat.le_total i ds.length with hi | hi
  ·rw[Nat.min_eq_left hi]
   rcases Nat.le_total j ds.length with hj | hj
   ·rw[Nat.min_eq_left hj]
   ·rw[Nat.min_eq_right hj,List.take_of_length_le (Nat.le_of_eq List.length_drop),List.take_of_length_le (Nat.le_trans (Nat.le_of_eq List.length_drop) (Nat.sub_le_sub_right hj i))]
  ·rw[Nat.min_eq_right hi,List.drop_of_length_le (Nat.le_refl _),List.drop_of_length_le hi,List.take_nil,List.take_nil]
 ·unfold sliceBounds
  simp only[Option.getD_none]
  rw[if_neg (show ¬((i:Int)<0) by exact Int.not_lt_of_ge (Int.natCast_nonneg _)),if_neg (show ¬((j:Int)<0) by exact Int.not_lt_of_ge (Int.natCast_nonneg _))]
  simp;exact⟨clampN _ _,clampN _ _⟩
noncomputable def forBody:List Stmt→List Stmt
 | .For _ _ b _ _::_=>b
 | _=>[]
noncomputable def runBody:List Stmt:=forBody ((fnT 24).body.drop 4)
noncomputable def causeBody:List Stmt:=forBody (runBody.drop 2)
structure SentOk (t:Array Nat):Prop where
 size:t.size≤2048
 pos:0<(sent t).size
 a1:Ascii (eols t)
 a2:Ascii (sent t)
theorem T3.ok.mono {m k:Nat}{r:T3}(h:T3.ok m r) (hk:m≤k):T3.ok k r:=⟨⟨h.1.1,by have:=h.1.2;exact Nat.le_trans this hk⟩,⟨h.2.1.1,by have:=h.2.1.2;exact Nat.le_trans this hk⟩,h.2.2.1,by have:=h.2.2.2;exact Nat.le_trans this hk⟩
theorem T3.ok.max {m:Nat}{r s:T3}(h:T3.ok m r) (h':T3.ok m s):T3.ok m (T3.max r s):=by
 obtain⟨⟨a1,a2⟩,⟨b1,b2⟩,c1,c2⟩:=h
 obtain⟨⟨a3,a4⟩,⟨b3,b4⟩,c3,c4⟩:=h'
 refine⟨⟨Nat.le_trans a1 (Nat.le_max_left ..),Nat.max_le.mpr ⟨a2,a4⟩⟩,⟨Nat.le_trans b1 (Nat.le_max_left ..),Nat.max_le.mpr ⟨b2,b4⟩⟩,Nat.le_trans c1 (Nat.le_max_left ..),Nat.max_le.mpr ⟨c2,c4⟩⟩
theorem T3.ok.bump {m:Nat}{r:T3}(h:T3.ok m r) (k:Nat):T3.ok (m+1) (T3.bump r k):=by
 obtain⟨⟨a1,a2⟩,⟨b1,b2⟩,c1,c2⟩:=h
 have e:∀b:Bool,b.toNat≤1:=fun b=>by cases b <;> decide
 refine⟨⟨Nat.le_trans a1 (Nat.le_add_right ..),Nat.add_le_add a2 (e _)⟩,⟨Nat.le_trans b1 (Nat.le_add_right ..),Nat.add_le_add b2 (e _)⟩,Nat.le_trans c1 (Nat.le_add_right ..),Nat.add_le_add c2 (e _)⟩
end
section
noncomputable def Sg5 (c:Nat):Prop:=c=10∨c=13∨c=39∨c=45∨c=46
theorem two_mem {P:Nat→Prop}{a b:Nat}{l:List Nat}(ha:P a) (hb:P b) (h:∀c∈l,P c):∀c∈a::b::l,P c:=
 List.forall_mem_cons.mpr ⟨ha,List.forall_mem_cons.mpr ⟨hb,h⟩⟩
theorem eolsB_mem (l:List Nat) (b:Bool) (h:∀c∈l,Sg5 c):∀c∈eolsB b l,Sg5 c:=by
 induction l generalizing b with
 | nil=>cases b <;> exact fun c hc=>absurd hc List.not_mem_nil
 | cons x l ih=>
  obtain⟨hx,hl⟩:=List.forall_mem_cons.mp h
  have h10:Sg5 10:=.inl rfl
  have h13:Sg5 13:=.inr (.inl rfl)
  by_cases h1:x=10
  ·subst h1
   rw[eolsB_lf]
   cases b
   ·exact two_mem h13 h10 (ih _ hl)
   ·exact ih _ hl
  ·by_cases h2:x=13
   ·subst h2;exact two_mem h13 h10 (ih _ hl)
   ·rw[eolsB_no h1 h2];exact List.forall_mem_cons.mpr ⟨hx,ih _ hl⟩
theorem dotsL_mem (l:List Nat) (b:Bool) (h:∀c∈l,Sg5 c):∀c∈dotsL b l,Sg5 c:=by
 induction l generalizing b with
 | nil=>cases b <;> exact fun c hc=>absurd hc List.not_mem_nil
 | cons x l ih=>
  obtain⟨hx,hl⟩:=List.forall_mem_cons.mp h
  have h46:Sg5 46:=.inr (.inr (.inr (.inr rfl)))
  show ∀c∈(if b=true∧x=46 then 46::46::dotsL false l else x::dotsL (x==10) l),Sg5 c
  by_cases h1:b=true∧x=46
  ·rw[if_pos h1];exact two_mem h46 h46 (ih _ hl)
  ·rw[if_neg h1];exact List.forall_mem_cons.mpr ⟨hx,ih _ hl⟩
theorem sg5_lt {c:Nat}(h:Sg5 c):c<128:=by rcases h with rfl | rfl | rfl | rfl | rfl <;> decide
theorem sentOk_of {t:Array Nat}{x:Nat}{l:List Nat}(hz:t.size≤2048) (hm:∀c∈t.toList,Sg5 c) (hs:(sent t).toList=x::l):SentOk t:=by
 refine⟨hz,?_,fun c hc=>?_,fun c hc=>?_⟩
 ·have:=congrArg List.length hs
  rw[Array.length_toList] at this
  rw[this];exact Nat.succ_pos _
 ·exact sg5_lt (eolsB_mem t.toList false hm c (by have h:=Array.mem_toList_iff.mpr hc;rwa [eols_list] at h))
 ·have h:=Array.mem_toList_iff.mpr hc
  unfold sent at h
  rw[sent_list] at h
  exact sg5_lt (dotsL_mem _ _ (eolsB_mem t.toList false hm) c h)
theorem endL_mem {e:List Nat}(he:EndL e):∀c∈e,Sg5 c:=fun c hc=>by
 rcases he with rfl | rfl | rfl
 ·rw[List.mem_singleton.mp hc];exact .inl rfl
 ·rw[List.mem_singleton.mp hc];exact .inr (.inl rfl)
 ·rcases List.mem_cons.mp hc with rfl | hc
  ·exact .inr (.inl rfl)
  ·rw[List.mem_singleton.mp hc];exact .inl rfl
theorem endL_len {e:List Nat}(he:EndL e):e.length≤2:=by rcases he with rfl | rfl | rfl <;> decide
theorem rep_mem5 {n:Nat}:∀c∈rep n,Sg5 c:=fun c hc=>.inr (.inr (.inr (.inr (rep_ne (c:=0) c hc))))
theorem rowL_mem5 {b:Bool}{n:Nat}:∀c∈rowL b n,Sg5 c:=fun c hc=>by
 rcases rowL_mem c hc with h | h
 ·exact .inr (.inr (.inr (.inl h)))
 ·exact .inr (.inr (.inr (.inr h)))
theorem rowL_len {b:Bool}{n:Nat}:(rowL b n).length≤n+1:=by cases b <;> simp[rowL]
theorem mail_ok {e:Str}(he:EndS e) {a b c:Nat}(ha:1≤a∧a≤64) (hb:1≤b∧b≤64) (hc:1≤c∧c≤64):SentOk (mailS e a b c).cps:=by
 have ht:=mailS_tl e a b c
 have hel:=he.l
 refine sentOk_of (x:=13) ?_ ?_ (mail_sentS he ha.1 hb.1 hc.1)
 ·have:=congrArg List.length ht
  have h2:=endL_len hel
  simp only[List.length_append,List.length_cons,List.length_replicate,Array.length_toList] at this h2
  lia
 ·rw[show(mailS e a b c).cps.toList=_ from ht]
  intro x hx
  simp only[List.mem_append,List.mem_cons] at hx
  rcases hx with h | h | h | h | h | h | h | h
  ·exact endL_mem hel x h
  ·exact rep_mem5 x h
  ·exact .inr (.inr (.inl h))
  ·exact endL_mem hel x h
  ·exact rep_mem5 x h
  ·exact .inr (.inr (.inl h))
  ·exact endL_mem hel x h
  ·exact rep_mem5 x h
theorem text_ok {e:Str}(he:EndS e) {x y z:Bool}{a b c:Nat}(ha:1≤a∧a≤64) (hb:1≤b∧b≤64) (hc:1≤c∧c≤64):SentOk (textS e x y z a b c).cps:=by
 have ht:=textS_tl e x y z a b c
 have hel:=he.l
 have hs:=text_sentS he (x:=x) (y:=y) (z:=z) ha.1 hb.1 hc.1
 obtain⟨w,l,hw⟩:∃w l,(sent (textS e x y z a b c).cps).toList=w::l:=by
  rw[hs]
  cases h:rowL x (a+x.toNat) with
  | nil=>exact⟨_,_,rfl⟩
  | cons w l=>exact⟨_,_,rfl⟩
 refine sentOk_of ?_ ?_ hw
 ·have:=congrArg List.length ht
  have h2:=endL_len hel
  have h3:=rowL_len (b:=x) (n:=a)
  have h4:=rowL_len (b:=y) (n:=b)
  have h5:=rowL_len (b:=z) (n:=c)
  simp only[List.length_append,Array.length_toList] at this h2
  lia
 ·rw[show(textS e x y z a b c).cps.toList=_ from ht]
  intro w hw
  simp only[List.mem_append] at hw
  rcases hw with h | h | h | h | h
  ·exact rowL_mem5 w h
  ·exact endL_mem hel w h
  ·exact rowL_mem5 w h
  ·exact endL_mem hel w h
  ·exact rowL_mem5 w h
theorem crlfdd:(Str.ofString "\r\n..")=⟨#[13,10,46,46]⟩:=by decide +kernel
theorem dot1:(Str.ofString ".")=⟨#[46]⟩:=by decide +kernel
theorem crlf2:(Str.ofString "\r\n")=⟨#[13,10]⟩:=by decide +kernel
theorem dash1:(Str.ofString "-")=⟨#[45]⟩:=by decide +kernel
theorem tick1:(Str.ofString "'")=⟨#[39]⟩:=by decide +kernel
theorem empt:(Str.ofString "")=⟨#[]⟩:=by decide +kernel
theorem mail_decD {e:Str}(he:EndS e) {a b c:Nat}(ha:1≤a) (hb:1≤b) (hc:1≤c):decD ⟨sent (mailS e a b c).cps⟩=.list [.str (sentS (a+1)),.str (sentS (b+1)),.str (sentS (c+1))]:=by
 unfold decD
 rw[mail_decode (mail_sentS he ha hb hc)]
 rfl
theorem mail_sent_len {e:Str}(he:EndS e) {a b c:Nat}(ha:1≤a∧a≤64) (hb:1≤b∧b≤64) (hc:1≤c∧c≤64):(⟨sent (mailS e a b c).cps⟩:Str).length≤4096:=by
 show(sent (mailS e a b c).cps).size≤4096
 have:=congrArg List.length (mail_sentS he ha.1 hb.1 hc.1)
 unfold mailT at this
 simp only[List.length_append,List.length_cons,List.length_replicate,List.length_nil,Array.length_toList] at this
 lia
theorem sentS_len (n:Nat):(sentS n).length=n+2:=by
 show(sentRow n).toArray.size=_
 simp[sentRow]
end
section
noncomputable abbrev lettersK (ls:List (Nat×T3)):List Int:=ls.map fun p=>((p.1:Nat):Int)
noncomputable abbrev lettersV (ls:List (Nat×T3)):List D:=ls.map fun p=>rowsD p.2
noncomputable abbrev gmRun (al ab ao:Addr) (acts:List Act) (worth:List Int) (anew:Bool) (own:List T3) (books:List Book) (ls:List (Nat×T3)):Gm:=
 [("letters",.mdI al (lettersK ls) (lettersV ls)),("books",.ml ab (books.map Book.d)),("own",.ml ao (own.map fun r=>rowsD r)),("deeds",.imm (.list [nD (ownF acts 0),nD (ownF acts 1),nD (ownF acts 2)])),
  ("anew",.imm (.bool anew)),("worth",.imm (zD worth)),("acts",.imm (actsD acts))]
section
variable {C:Cx}{n:Nat}{sc csc:Scope}{Γ Γc:Gm}{e:Expr}{cm tup:Bool}
theorem dot_max (a b:Nat):(D.str (if (dotS a).cps.toList<(dotS b).cps.toList then dotS b else dotS a))=D.str (dotS (Nat.max a b)):=by
 have h:=dot_lt a b
 by_cases hc:a<b
 ·have:(dotS a).cps.toList<(dotS b).cps.toList:=by rw[decide_eq_true hc] at h;exact of_decide_eq_true h
  rw[if_pos this,show Nat.max a b=b from Nat.max_eq_right (Nat.le_of_lt hc)]
 ·have:¬(dotS a).cps.toList<(dotS b).cps.toList:=by rw[decide_eq_false hc] at h;exact of_decide_eq_false h
  rw[if_neg this,show Nat.max a b=a from Nat.max_eq_left (Nat.le_of_not_lt hc)]
set_option maxHeartbeats 1000000 in
theorem t_cause (G:Gl C) {m:Nat}{al ab ao:Addr}{acts:List Act}{worth:List Int}{anew:Bool}{own:List T3}{books:List Book}{ls:List (Nat×T3)}{fin:Str}{h:Int}{k g:Nat}{r:T3}{b:Book}
  (hfin:EndS fin) (hg:∃j:Nat,ls[j]?=some (g,look ls g)) (hr:T3.ok 64 r) (hs:T3.ok 64 (look ls g)) (hk:k<worth.length) (hw:worth.length≤64) (hga:g<acts.length) (haw:acts.length≤worth.length) (hh:∀g,g<acts.length→0≤hOf acts g∧hOf acts g<3)
  (hS:∀t,SentOk t→Fn C m "_law_sent" [.str ⟨t⟩,.bool anew] (.str ⟨sent t⟩)) (hD:∀x,x.length≤4096→Fn C m "decode_rfc2231" [.str x] (decD x)) (hm:m≤n) :
  Run C n (fnT 24).scope (("give",.imm (.int (g:Nat)))::("rows",.imm (rowsD r))::("entry",.imm b.d)::("end",.imm (.str fin))::("hand",.imm (.int h))::("k",.imm (.int (k:Nat)))::gmRun al ab ao acts worth anew own books ls) causeBody
   (.next (("rows",.imm (rowsD (takeStep acts worth ls k (r,b) g).1))::("entry",.imm (takeStep acts worth ls k (r,b) g).2.d)::("end",.imm (.str fin))::("hand",.imm (.int h))::("k",.imm (.int (k:Nat)))::gmRun al ab ao acts worth anew own books ls)):=by
 unfold takeStep
 dsimp only[T3.max]
 obtain⟨j,hj⟩:=hg
 generalize hlk:look ls g=s at *
 have hkj:(lettersK ls)[j]?=some (g:Int):=by rw[List.getElem?_map,hj];rfl
 have hvj:(lettersV ls)[j]?=some (rowsD s):=by rw[List.getElem?_map,hj];rfl
 obtain⟨⟨r1,r1'⟩,⟨r2,r2'⟩,r3,r3'⟩:=hr
 obtain⟨⟨s1,s1'⟩,⟨s2,s2'⟩,s3,s3'⟩:=hs
 obtain⟨ra,rb,rc⟩:=r
 obtain⟨sa,sb,sc'⟩:=s
 dsimp only at *
 have hel:=hfin.len
 refine rS (sA (d:=.str ⟨sent (mailS fin sa sb sc').cps⟩) (ex_call (m:=m) (ds:=[.str (mailS fin sa sb sc'),.bool anew]) (.cons (ex_meth (a:=.str ⟨#[39]⟩) (ds:=[.list ([fin++dotS sa,fin++dotS sb,fin++dotS sc'].map .str)]) (Ex.h (Ex.eq ex_str (congrArg D.str tick1)))
  (.cons (Ex.eq (ex_of_nw (lc1 (xs:=[sa,sb,sc']) (enc:=fun n=>[D.str (dotS n)]) (ok:=fun J=>true) (f:=fun n=>.str (fin++dotS n)) (Keep.same rfl) (It.map2 (it_list (xs1 (exh_mdI (by walk_at "m")) (xv (by walk_at "m")) (idx_dictI hkj hvj)))) (fun n hn=>.name (by decide +kernel) (by kernel_rfl)) (fun n hn=>rfl) (fun n hn J=>xb (xv (by walk_at "m")) (xv (by walk_at "m")) (o_add_str ?_)) (show 3≤4096 by decide))) rfl) .nil rfl) id_join (m_join ?_)) (.cons (xv (by walk_at "m")) .nil rfl) rfl) (hS _ (mail_ok hfin ⟨s1,s1'⟩ ⟨s2,s2'⟩ ⟨s3,s3'⟩)) hm) (Drop.same rfl)) ?_
 ·rw[dotS_len];have h4:(4096:Nat)≤sizeLine:=by decide
  simp only[List.mem_cons,List.not_mem_nil,or_false] at hn
  rcases hn with rfl | rfl | rfl <;> lia
 ·unfold JoinOk
  rw[PySem.StrLaws.joinFits (B:=66) (fun y hy=>?_) (by show 3*66+3*1≤_;decide)]
  ·rfl
  have hl:∀q,q≤64→(fin++dotS q).length≤66:=fun q hq=>by rw[strLen_append,dotS_len];exact Nat.le_trans (Nat.add_le_add hel hq) (by decide)
  simp only[List.mem_cons,List.not_mem_nil,or_false] at hy
  rcases hy with rfl | rfl | rfl
  ·exact hl _ s1'
  ·exact hl _ s2'
  ·exact hl _ s3'
 refine run_cmc (ds':=[.str (dotS sa),.str (dotS sb),.str (dotS sc')]) (lm1 (xs:=[sa,sb,sc']) (enc:=fun n=>[D.str (sentS (n+1))]) (ok:=fun J=>true) (f:=fun n=>.str (Txt.replace (sentS (n+1)) (Str.ofString "\r\n..") (Str.ofString "."))) (Keep.same rfl)
  (It.map2 (it_list (Ex.eq (ex_call (.cons (xv (by walk_at "m")) .nil rfl) (hD _ (mail_sent_len hfin ⟨s1,s1'⟩ ⟨s2,s2'⟩ ⟨s3,s3'⟩)) hm) (mail_decD hfin s1 s2 s3)))) (fun n hn=>.name (by decide +kernel) (by kernel_rfl)) (fun n hn=>rfl) (fun n hn J=>ex_replace (xv (by walk_at "m")) (by decide +kernel) ?_ (by decide +kernel)) (show 3≤4096 by decide)) ?_ (Drop.same rfl) ?_
 ·rw[sentS_len]
  simp only[List.mem_cons,List.not_mem_nil,or_false] at hn
  rcases hn with rfl | rfl | rfl <;> lia
 ·rw[crlfdd,dot1]
  simp only[List.filter_cons,if_true,List.filter_nil,List.map_cons,List.map_nil]
  rw[part_taken s1,part_taken s2,part_taken s3]
 refine run_cmc (ds':=(freshA acts (ra,rb,rc) (sa,sb,sc')).map nD) (lm1 (xs:=([(ownF acts 0,ra,sa),(ownF acts 1,rb,sb),(ownF acts 2,rc,sc')]:List (List Nat×Nat×Nat))) (enc:=fun q=>[nD q.1,.str (dotS q.2.1),.str (dotS q.2.2)]) (ok:=fun J=>true) (f:=fun q=>nD (freshF q.1 q.2.1 q.2.2)) (Keep.same rfl)
  (it_zip3 (ds:=[nD (ownF acts 0),nD (ownF acts 1),nD (ownF acts 2)]) (es:=[.str (dotS ra),.str (dotS rb),.str (dotS rc)]) (fs:=[.str (dotS sa),.str (dotS sb),.str (dotS sc')]) (xv (by walk_at "m")) (xv (by walk_at "m")) (xv (by walk_at "m")) (Nat.le_refl _) (Nat.le_refl _) PyProof.Rows.Boot.zip (G.none (by kernel_rfl)))
  (fun q hq=>bt3 (by decide +kernel) (by kernel_rfl) (by kernel_rfl) (by kernel_rfl)) (fun q hq=>rfl) (fun q hq J=>?_) (show 3≤4096 by decide)) rfl (Drop.same rfl) ?_
 ·have hq1:1≤q.2.1∧q.2.1≤64∧1≤q.2.2∧q.2.2≤64∧q.1.length≤64:=by
   have ho:∀h,(ownF acts h).length≤64:=fun h=>by have:=ownF_len (acts:=acts) (hand:=h);exact Nat.le_trans this (Nat.le_trans haw hw)
   simp only[List.mem_cons,List.not_mem_nil,or_false] at hq
   rcases hq with rfl | rfl | rfl
   ·exact⟨r1,r1',s1,s1',ho _⟩
   ·exact⟨r2,r2',s2,s2',ho _⟩
   ·exact⟨r3,r3',s3,s3',ho _⟩
  obtain⟨F,u,v⟩:=q
  dsimp only at hq1 ⊢
  have e1:∀w:Nat,1≤w→((dotS w).length:Int)-1=((w-1:Nat):Int):=fun w hw=>by rw[dotS_len];lia
  refine Ex.eq (ex_slice (ds:=F.map fun k=>D.int (k:Nat)) (lo:=some ((u-1:Nat):Int)) (hi:=some ((v-1:Nat):Int)) (st:=none) (xv (by walk_at "m")) ⟨_,rfl,Ex.eq (xb (ex_lenS G (xv (by walk_at "m")) (by rw[dotS_len];exact Nat.le_trans hq1.2.1 (by decide))) xi o_sub_int) (congrArg D.int (e1 u hq1.1))⟩ ⟨_,rfl,Ex.eq (xb (ex_lenS G (xv (by walk_at "m")) (by rw[dotS_len];exact Nat.le_trans hq1.2.2.2.1 (by decide))) xi o_sub_int) (congrArg D.int (e1 v hq1.2.2.1))⟩ rfl (by simp) (by rw[List.length_map];exact Nat.le_trans hq1.2.2.2.2 (by decide))) ?_
  rw[pick_nn]
  unfold freshF nD
  rw[List.map_drop,List.map_take]
 have hfl:∀l∈freshA acts (ra,rb,rc) (sa,sb,sc'),l.length≤64∧∀q∈l,q<worth.length:=fun l hl=>by
  have hf:∀hnd u v,(freshF (ownF acts hnd) u v).length≤64∧∀q∈freshF (ownF acts hnd) u v,q<worth.length:=fun hnd u v=>by
   have h1:=ownF_len (acts:=acts) (hand:=hnd)
   refine⟨?_,fun q hq=>?_⟩
   ·unfold freshF;rw[List.length_drop];exact Nat.le_trans (Nat.sub_le _ _) (Nat.le_trans (List.length_take_le' (v-1) (ownF acts hnd)) (Nat.le_trans h1 (Nat.le_trans haw ‹worth.length≤64›)))
   ·exact Nat.lt_of_lt_of_le (ownF_lt q (List.mem_of_mem_take (List.mem_of_mem_drop hq))) haw
  simp only[freshA,List.mem_cons,List.not_mem_nil,or_false] at hl
  rcases hl with rfl | rfl | rfl <;> exact hf _ _ _
 refine rS (sA (d:=.int (newsF acts worth (ra,rb,rc) (sa,sb,sc'))) (ex_sum G (Ex.eq (ex_of_nw (lc2 (xs:=freshA acts (ra,rb,rc) (sa,sb,sc')) (enc:=fun l=>[nD l]) (ys:=fun l=>l) (enc2:=fun q=>[D.int (q:Nat)]) (ok:=fun J J=>true) (f:=fun J q=>.int (wAt worth q)) (Keep.same rfl) (It.map2 (it_list (xv (by walk_at "m")))) (fun l hl=>.name (by decide +kernel) (by kernel_rfl))
  (fun l hl=>It.map2 (it_list (xv (by walk_at "m")))) (fun l hl q hq=>.name (by decide +kernel) (by kernel_rfl)) (fun l hl q hq=>rfl) (fun l hl q hq J=>xs1 (Ex.h (xv (by walk_at "m"))) (xv (by walk_at "m")) (iL (Int.natCast_nonneg _) (by have:=(hfl l hl).2 q hq;exact Mine.c62 (Nat.le_of_lt (Nat.lt_of_lt_of_le this (Nat.le_trans hw (by decide))))) (w_at ((hfl l hl).2 q hq)))) ?_)) ?_)) (Drop.same rfl)) ?_
 ·have e:∀l:List Nat,(l.filter fun J=>true)=l:=fun l=>List.filter_eq_self.mpr fun J J=>rfl
  have f1:=fun l hl=>(hfl l hl).1
  simp only[freshA,List.flatMap_cons,List.flatMap_nil,List.length_append,List.length_map,e,List.length_nil]
  have a1:=f1 _ (List.mem_cons_self ..)
  have a2:=f1 _ (List.mem_cons_of_mem _ (List.mem_cons_self ..))
  have a3:=f1 _ (List.mem_cons_of_mem _ (List.mem_cons_of_mem _ (List.mem_cons_self ..)))
  dsimp only at a1 a2 a3
  exact Nat.le_trans (Nat.add_le_add a1 (Nat.add_le_add a2 a3)) (by decide)
 ·have e:∀l:List Nat,(l.filter fun J=>true)=l:=fun l=>List.filter_eq_self.mpr fun J J=>rfl
  simp only[e]
  unfold zD
  rw[List.map_map,List.map_flatten,List.flatMap_def]
  congr 1
 refine run_cmc (ds':=[.str (dotS (Nat.max ra sa)),.str (dotS (Nat.max rb sb)),.str (dotS (Nat.max rc sc'))]) (lm1 (xs:=([(ra,sa),(rb,sb),(rc,sc')]:List (Nat×Nat))) (enc:=fun q=>[.str (dotS q.1),.str (dotS q.2)]) (ok:=fun J=>true) (f:=fun q=>.str (dotS (Nat.max q.1 q.2))) (Keep.same rfl)
  (it_zip (ds:=[.str (dotS ra),.str (dotS rb),.str (dotS rc)]) (es:=[.str (dotS sa),.str (dotS sb),.str (dotS sc')]) (xv (by walk_at "m")) (xv (by walk_at "m")) PyProof.Rows.Boot.zip (G.none (by kernel_rfl)))
  (fun q hq=>bt2 (by decide +kernel) (by kernel_rfl) (by kernel_rfl)) (fun q hq=>rfl) (fun q hq J=>Ex.eq (ex_builtin (f:=.builtin "max") PyProof.Rows.Boot.max (G.none (by kernel_rfl)) (fun J e=>nomatch e) (.cons (xv (by walk_at "m")) (.cons (xv (by walk_at "m")) .nil rfl) rfl) c_max_str) (dot_max q.1 q.2)) (show 3≤4096 by decide)) rfl (by walk_at "d") ?_
 obtain⟨h0,h3⟩:=hh g hga
 have hact:hOf acts g=(acts[g]).hand:=by unfold hOf;rw[List.getElem?_eq_getElem hga];rfl
 refine rS (sA (Ex.eq (d':=Book.d (1,1,wAt worth k+newsF acts worth (ra,rb,rc) (sa,sb,sc'),newsF acts worth (ra,rb,rc) (sa,sb,sc'),([letter (hOf acts g)],[newsF acts worth (ra,rb,rc) (sa,sb,sc')]))) (ex_tuple (.cons xi (.cons xi (.cons (xb (xs1 (Ex.h (xv (by walk_at "m"))) (xv (by walk_at "m")) (iL (Int.natCast_nonneg _) (Mine.c62 (Nat.le_of_lt (Nat.lt_of_lt_of_le hk (Nat.le_trans hw (by decide))))) (w_at hk))) (xv (by walk_at "m")) o_add_int) (.cons (xv (by walk_at "m")) (.cons (ex_dict1 (xs1 (Ex.h ex_str) (xs1 (Ex.h (xs1 (Ex.h (xv (by walk_at "m"))) (xv (by walk_at "m")) (iL (d:=(acts[g]).d) (Int.natCast_nonneg _) (Mine.c62 (Nat.le_of_lt (Nat.lt_of_lt_of_le hga (Nat.le_trans haw (Nat.le_trans hw (by decide)))))) (act_at hga)))) xi (idx_tuple (d:=.int (hOf acts g)) (by decide) (by decide) (by rw[hact];rfl))) (idx_str h0 (Int.lt_of_lt_of_le h3 (by decide)) (letter_at h0 h3))) (xv (by walk_at "m"))) .nil rfl) rfl) rfl) rfl) rfl)) rfl) (by walk_at "d")) ?_
 exact(run_pick (by with_reducible repeat' (first | exact all_nil | refine' all_cons (by walk_at "m") ?_)) (by kernel_rfl))
end
end
section
structure RSt where
 own:List T3
 books:List Book
 letters:List (Nat×T3)
theorem RSt.eqs {a a':List T3}{b b':List Book}{c c':List (Nat×T3)}(h1:a=a') (h2:b=b') (h3:c=c'):RSt.mk a b c=⟨a',b',c'⟩:=by rw[h1,h2,h3]
noncomputable abbrev noBook:Book:=(0,0,0,0,([],[]))
noncomputable def runStep (acts:List Act) (worth:List Int) (anew:Bool) (st:RSt) (k:Nat):RSt:=
 let h:=(hOf acts k).toNat
 let p:=(cOf acts k).foldl (takeStep acts worth st.letters k) ((st.own[h]?).getD (1,1,1),(1,0,wAt worth k,0,([],[])))
 let r:=T3.bump p.1 h
 let b:=(st.books[h]?).getD noBook
 ⟨st.own.set h r,st.books.set h (if anew then addB p.2 b else addB b p.2),st.letters++[(k,r)]⟩
noncomputable def runInit:RSt:=⟨[(1,1,1),(1,1,1),(1,1,1)],[noBook,noBook,noBook],[]⟩
noncomputable def runF (acts:List Act) (line:List Nat) (worth:List Int) (anew:Bool):RSt:=line.foldl (runStep acts worth anew) runInit
theorem putK_new {K:Type}[DecidableEq K] {ks:List K}{k:K}(h:k∉ks):putK ks k=ks++[k]:=if_neg h
theorem putV_new {K α:Type}[DecidableEq K] {ks:List K}{vs:List α}{k:K}{v:α}(h:k∉ks):putV ks vs k v=vs++[v]:=if_neg h
theorem between_len (x y:Str) (m:Nat):(Builtin.Str.partsBetween x (Builtin.Str.occurrences x y 0 x.length m) y.length).length≤m+1:=by
 rw[PySem.StrLaws.partsBetween_eq,parts_len]
 have:=PySem.StrLaws.occ_length_le x y 0 x.length m
 exact Nat.succ_le_succ this
section
variable {C:Cx}{n:Nat}{sc csc:Scope}{Γ Γc:Gm}{e:Expr}{cm tup:Bool}
theorem o_not_bool {b:Bool}:Op1 C (unaryOp .Not) (.bool b) (.bool (!b)):=fun A F s va J hO ha=>by
 rw[ha.bool_inv]
 exact wpAny_holding (wpAny_bind (wpAny_truthy_bool (wpAny_pure ⟨F,.refl hO.inn,.bool _⟩)))
theorem text_sent_small {e:Str}(he:EndS e) {x y z:Bool}{a b c:Nat}(ha:1≤a∧a≤64) (hb:1≤b∧b≤64) (hc:1≤c∧c≤64):(⟨sent (textS e x y z a b c).cps⟩:Str).length≤300:=by
 show(sent (textS e x y z a b c).cps).size≤300
 have:=congrArg List.length (text_sentS he (x:=x) (y:=y) (z:=z) ha.1 hb.1 hc.1)
 have h3:=rowL_len (b:=x) (n:=a+x.toNat)
 have h4:=rowL_len (b:=y) (n:=b+y.toNat)
 have h5:=rowL_len (b:=z) (n:=c+z.toNat)
 have e:∀b:Bool,b.toNat≤1:=fun b=>by cases b <;> decide
 have h6:=e x
 have h7:=e y
 have h8:=e z
 simp only[List.length_append,List.length_cons,List.length_nil,Array.length_toList] at this
 lia
theorem rowS_len {b:Bool}{n:Nat}:(rowS b n).length≤n+1:=by
 show(rowL b n).toArray.size≤_
 rw[List.size_toArray];exact rowL_len
theorem lettersK_add (ls:List (Nat×T3)) (k:Nat) (r:T3) (h:k∉ls.map (·.1)):putK (lettersK ls) (k:Int)=lettersK (ls++[(k,r)])∧∀d,d=rowsD r→putV (lettersK ls) (lettersV ls) (k:Int) d=lettersV (ls++[(k,r)]):=by
 have hn:(k:Int)∉lettersK ls:=fun hm=>by
  obtain⟨p,hp,e⟩:=List.mem_map.mp hm
  exact h (List.mem_map.mpr ⟨p,hp,Int.ofNat.inj e⟩)
 refine⟨by rw[putK_new hn];simp,fun d hd=>?_⟩
 rw[putV_new hn,hd];simp
structure ActsOk (acts:List Act) (worth:List Int):Prop where
 len:acts.length≤worth.length
 w:worth.length≤64
 fin:∀a∈acts,EndS a.fin
 hand:∀a∈acts,0≤a.hand∧a.hand<3
 cause:∀a∈acts,a.cause.length≤8∧∀g∈a.cause,g<acts.length
noncomputable def BookOk (m:Nat) (b:Book):Prop:=Good m b.2.2.2.2
theorem take_ok {acts:List Act}{worth:List Int}{ls:List (Nat×T3)}{k m:Nat}(hl:∀p∈ls,T3.ok m p.2) (hm:1≤m):∀(cs:List Nat) (p:T3×Book),T3.ok m p.1→BookOk 1 p.2→T3.ok m (cs.foldl (takeStep acts worth ls k) p).1∧BookOk 1 (cs.foldl (takeStep acts worth ls k) p).2
 | [],p,h,h'=>⟨h,h'⟩
 | g::cs,p,h,h'=>by
  have hlk:T3.ok m (look ls g):=by
   unfold look
   cases hf:ls.find? fun p=>p.1==g with
   | none=>exact⟨⟨Nat.le_refl _,hm⟩,⟨Nat.le_refl _,hm⟩,Nat.le_refl _,hm⟩
   | some q=>exact hl q (List.mem_of_find?_eq_some hf)
  refine take_ok hl hm cs _ (h.max hlk) ?_
  unfold takeStep
  exact⟨⟨rfl,List.nodup_cons.mpr ⟨(fun h=>nomatch h),List.nodup_nil⟩⟩,Nat.le_refl _⟩
theorem look_at {ls:List (Nat×T3)}{g:Nat}(h:g∈ls.map (·.1)):∃j:Nat,ls[j]?=some (g,look ls g):=by
 obtain⟨p,hp,rfl⟩:=List.mem_map.mp h
 unfold look
 cases hf:ls.find? fun q=>q.1==p.1 with
 | none=>exact absurd (List.find?_eq_none.mp hf p hp) (by simp)
 | some q=>
  obtain⟨j,hj,e⟩:=List.getElem_of_mem (List.mem_of_find?_eq_some hf)
  have:q.1=p.1:=by have:=List.find?_some hf;simpa using this
  exact⟨j,by rw[List.getElem?_eq_getElem hj,e,← this];rfl⟩
end
end
section
section
variable {C:Cx}{n:Nat}{sc csc:Scope}{Γ Γc:Gm}{e:Expr}{cm tup:Bool}
set_option maxHeartbeats 2000000 in
theorem t_step (G:Gl C) {m:Nat}{al ab ao:Addr}{acts:List Act}{worth:List Int}{anew:Bool}{st:RSt}{k i:Nat}
  (hA:ActsOk acts worth) (hk:k<acts.length) (hkn:k∉st.letters.map (·.1)) (hcs:∀g∈cOf acts k,g∈st.letters.map (·.1)) (hi:1≤i∧i≤60)
  (ho:st.own.length=3∧∀r∈st.own,T3.ok i r) (hb:st.books.length=3∧∀b∈st.books,BookOk (8*i) b) (hl:st.letters.length≤60∧∀p∈st.letters,T3.ok i p.2)
  (hS:∀t w,SentOk t→Fn C m "_law_sent" [.str ⟨t⟩,.bool w] (.str ⟨sent t⟩)) (hD:∀x,x.length≤4096→Fn C m "decode_rfc2231" [.str x] (decD x))
  (hB:∀t s:Book,BookOk 500 t→BookOk 500 s→Fn C m "add_func_stats" [t.d,s.d] (addB t s).d) (hm:m≤n) :
  Run C n (fnT 24).scope (("k",.imm (.int (k:Nat)))::gmRun al ab ao acts worth anew st.own st.books st.letters) runBody
   (.next (gmRun al ab ao acts worth anew (runStep acts worth anew st k).own (runStep acts worth anew st k).books (runStep acts worth anew st k).letters)):=by
 have hak:=hA.hand _ (List.getElem_mem hk)
 have hfin:=hA.fin _ (List.getElem_mem hk)
 have hck:cOf acts k=(acts[k]).cause:=by unfold cOf;rw[List.getElem?_eq_getElem hk];rfl
 have hhk:hOf acts k=(acts[k]).hand:=by unfold hOf;rw[List.getElem?_eq_getElem hk];rfl
 have hlen:=hA.len
 have hw64:=hA.w
 obtain⟨own,books,ls⟩:=st
 dsimp only at *
 unfold runStep
 dsimp only
 have hhand:∀g,g<acts.length→0≤hOf acts g∧hOf acts g<3:=fun g hg=>by
  have e:hOf acts g=(acts[g]).hand:=by unfold hOf;rw[List.getElem?_eq_getElem hg];rfl
  rw[e];exact hA.hand _ (List.getElem_mem hg)
 rw[hhk]
 generalize hH:(acts[k]).hand=h at *
 generalize hF:(acts[k]).fin=fin at *
 rw[hck] at hcs ⊢
 generalize hC:(acts[k]).cause=cause at *
 have hd:(acts[k]).d=.tuple [.int h,nD cause,.str fin]:=by rw[← hH,← hF,← hC]
 have hh3:h.toNat<3:=by lia
 obtain⟨r0,hr0⟩:∃r,own[h.toNat]?=some r:=⟨_,List.getElem?_eq_getElem (Nat.lt_of_lt_of_eq hh3 ho.1.symm)⟩
 obtain⟨b0,hb0⟩:∃r,books[h.toNat]?=some r:=⟨_,List.getElem?_eq_getElem (Nat.lt_of_lt_of_eq hh3 hb.1.symm)⟩
 have hr0ok:=ho.2 r0 (List.mem_of_getElem? hr0)
 have hb0ok:=hb.2 b0 (List.mem_of_getElem? hb0)
 rw[hr0,hb0]
 simp only[Option.getD_some]
 refine rS (st_tuple (xs:=["hand","cause","end"]) (ds:=[.int h,nD cause,.str fin]) (xs1 (Ex.h (xv (by walk_at "m"))) (xv (by walk_at "m")) (iL (d:=.tuple [.int h,nD cause,.str fin]) (Int.natCast_nonneg _) (Mine.c62 (Nat.le_of_lt (Nat.lt_of_lt_of_le hk (Nat.le_trans hlen (Nat.le_trans hw64 (by decide)))))) (by rw[← hd];exact act_at hk))) (by repeat constructor) rfl (List.Sublist.refl _) (by kernel_rfl) (by decide +kernel) (by intro _ _;rfl) (by intro _;rfl)) ?_
 dsimp only[bindsG]
 refine rS (st_tupleS (xs:=["rows","entry"]) (ds:=[rowsD r0,Book.d (1,0,wAt worth k,0,([],[]))]) (Ex.eq (ex_tuple (.cons (ex_sub_ml (d:=rowsD r0) (by walk_at "m") (xv (by walk_at "m")) (hak.1) (Int.lt_of_lt_of_le hak.2 (by decide)) (by rw[List.getElem?_map,hr0];rfl)) (.cons (ex_tuple (.cons xi (.cons xi (.cons (xs1 (Ex.h (xv (by walk_at "m"))) (xv (by walk_at "m")) (iL (Int.natCast_nonneg _) (Mine.c62 (Nat.le_of_lt (Nat.lt_of_lt_of_le hk (Nat.le_trans hlen (Nat.le_trans hw64 (by decide)))))) (w_at (Nat.lt_of_lt_of_le hk hlen)))) (.cons xi (.cons ex_dict0 .nil rfl) rfl) rfl) rfl) rfl)) .nil rfl) rfl)) rfl) rfl (List.Sublist.refl _) (by kernel_rfl) (by decide +kernel) (swap2 (by kernel_rfl)) (by intro _;rfl)) ?_
 simp only[bindsG,List.reverse_cons,List.reverse_nil,List.nil_append,List.cons_append]
 have hcl:=(hA.cause _ (List.getElem_mem hk))
 rw[hC] at hcl
 have hi1:1≤i:=hi.1
 have tk:=fun cs=>take_ok (acts:=acts) (worth:=worth) (k:=k) hl.2 hi1 cs (r0,(1,0,wAt worth k,0,([],[]))) hr0ok ⟨⟨rfl,List.nodup_nil⟩,Nat.zero_le _⟩
 refine rS (st_for (xs:=cause) (enc:=fun g=>[D.int (g:Nat)]) (It.map2 (it_list (xv (by walk_at "m")))) (fun p:T3×Book=>("rows",Mine.Slot.imm (rowsD p.1))::("entry",.imm p.2.d)::("end",.imm (.str fin))::("hand",.imm (.int h))::("k",.imm (.int (k:Nat)))::gmRun al ab ao acts worth anew own books ls) (r0,(1,0,wAt worth k,0,([],[])))
  (takeStep acts worth ls k) (by walk_at "s") (fun p g hg=>.name (by decide +kernel) (by kernel_rfl)) (fun j g hj=>?_) (by intro _ _;rfl)) ?_
 ·have hpj:=tk (cause.take j)
  generalize List.foldl (takeStep acts worth ls k) (r0,(1,0,wAt worth k,0,([],[]))) (List.take j cause)=p at hpj
  obtain⟨r,b⟩:=p
  have hgm:=List.mem_of_getElem? hj
  obtain⟨jj,hjj⟩:=look_at (hcs g hgm)
  exact t_cause G hfin ⟨jj,hjj⟩ (hpj.1.mono (Nat.le_trans hi.2 (by decide))) ((hl.2 _ (List.mem_of_getElem? hjj)).mono (Nat.le_trans hi.2 (by decide))) (Nat.lt_of_lt_of_le hk hlen) hw64 (hcl.2 g hgm) hlen hhand (fun t ht=>hS t anew ht) hD hm
 have hp:=tk cause
 generalize List.foldl (takeStep acts worth ls k) (r0,(1,0,wAt worth k,0,([],[]))) cause=p at hp
 obtain⟨⟨ra,rb,rc⟩,b⟩:=p
 obtain⟨hp1,hp2⟩:=hp
 have hp3:T3.ok 60 (ra,rb,rc):=hp1.mono hi.2
 obtain⟨⟨r1,r1'⟩,⟨r2,r2'⟩,r3,r3'⟩:=hp3
 dsimp only at r1 r1' r2 r2' r3 r3' hp2 ⊢
 have hel:=hfin.len
 have h4:(4096:Nat)≤sizeLine:=by decide
 refine rS (sA (d:=.str (textS fin (h.toNat==0) (h.toNat==1) (h.toNat==2) ra rb rc)) (Ex.eq (ex_meth (a:=.str fin) (ds:=[.list ([rowS (h.toNat==0) ra,rowS (h.toNat==1) rb,rowS (h.toNat==2) rc].map .str)]) (Ex.h (xv (by walk_at "m")))
  (.cons (Ex.eq (ex_of_nw (lc1 (xs:=[ra,rb,rc].zipIdx 0) (enc:=fun q=>[D.int (q.2:Nat),.str (dotS q.1)]) (ok:=fun J=>true) (f:=fun q=>.str (rowS (h.toNat==q.2) q.1)) (Keep.same rfl) (it_enumM G (f:=fun q=>.str (dotS q)) (l:=[ra,rb,rc]) (Ex.eq (d:=rowsD (ra,rb,rc)) (xv (by walk_at "m")) rfl)) (fun q hq=>bt2 (by decide +kernel) (by kernel_rfl) (by kernel_rfl)) (fun q hq=>rfl)
   (fun q hq J=>ex_if (c:=(h.toNat==q.2)) (Tr.eq (tC (xv (by walk_at "m")) (xv (by walk_at "m")) o_eq_int) ?_) (fun hc=>?_) (fun hc=>?_)) (show 3≤4096 by decide))) rfl) .nil rfl) id_join (m_join ?_)) rfl) (Drop.same rfl)) ?_
 ·refine Bool.eq_iff_iff.mpr ?_
  simp only[beq_iff_eq]
  lia
 ·rw[hc,rowS_true];exact(xv (by walk_at "m"))
 ·rw[hc,rowS_false]
  refine Ex.eq (xb (Ex.eq ex_str (congrArg D.str dash1)) (xv (by walk_at "m")) (o_add_str ?_)) rfl
  rw[dotS_len]
  simp only[List.zipIdx_cons,List.zipIdx_nil,List.mem_cons,List.not_mem_nil,or_false] at hq
  show 1+q.1≤_
  rcases hq with rfl | rfl | rfl
  ·show 1+ra≤_;exact Nat.le_trans (Nat.add_le_add_left r1' _) (by decide)
  ·show 1+rb≤_;exact Nat.le_trans (Nat.add_le_add_left r2' _) (by decide)
  ·show 1+rc≤_;exact Nat.le_trans (Nat.add_le_add_left r3' _) (by decide)
 ·unfold JoinOk
  rw[PySem.StrLaws.joinFits (B:=66) (fun y hy=>?_) (by show 3*66+3*fin.length≤_;lia)]
  ·rfl
  simp only[List.mem_cons,List.not_mem_nil,or_false] at hy
  rcases hy with rfl | rfl | rfl
  ·exact Nat.le_trans rowS_len (Nat.succ_le_of_lt (Nat.lt_of_le_of_lt r1' (by decide)))
  ·exact Nat.le_trans rowS_len (Nat.succ_le_of_lt (Nat.lt_of_le_of_lt r2' (by decide)))
  ·exact Nat.le_trans rowS_len (Nat.succ_le_of_lt (Nat.lt_of_le_of_lt r3' (by decide)))
 have hxyz:∀c:Nat,(h.toNat==c)=(h.toNat==c):=fun J=>rfl
 obtain⟨hK,hV⟩:=lettersK_add ls k (T3.bump (ra,rb,rc) h.toNat) hkn
 have htx:=text_ok hfin (x:=h.toNat==0) (y:=h.toNat==1) (z:=h.toNat==2) (a:=ra) (b:=rb) (c:=rc) ⟨r1,by exact Nat.le_trans r1' (by decide)⟩ ⟨r2,by exact Nat.le_trans r2' (by decide)⟩ ⟨r3,by exact Nat.le_trans r3' (by decide)⟩
 have hts:=text_sentS hfin (x:=h.toNat==0) (y:=h.toNat==1) (z:=h.toNat==2) (a:=ra) (b:=rb) (c:=rc) r1 r2 r3
 have htl:=text_sent_small hfin (x:=h.toNat==0) (y:=h.toNat==1) (z:=h.toNat==2) (a:=ra) (b:=rb) (c:=rc) ⟨r1,by exact Nat.le_trans r1' (by decide)⟩ ⟨r2,by exact Nat.le_trans r2' (by decide)⟩ ⟨r3,by exact Nat.le_trans r3' (by decide)⟩
 have hb2:∀b:Bool,b.toNat≤1:=fun b=>by cases b <;> decide
 have hspl:=text_split hts
 generalize textS fin (h.toNat==0) (h.toNat==1) (h.toNat==2) ra rb rc=tx at htx hts htl hspl
 have hzl:(lettersV ls).length≤4096:=by rw[List.length_map];exact Nat.le_trans hl.1 (by decide)
 have hsl:(Builtin.Str.partsBetween (⟨sent tx.cps⟩:Str) (Builtin.Str.occurrences ⟨sent tx.cps⟩ ⟨#[13,10]⟩ 0 (⟨sent tx.cps⟩:Str).length ((⟨sent tx.cps⟩:Str).length+1)) 2).length≤4096:=Nat.le_trans (between_len ⟨sent tx.cps⟩ ⟨#[13,10]⟩ _) (Nat.succ_le_of_lt (Nat.succ_lt_succ (Nat.lt_of_le_of_lt htl (by decide))))
 refine rS (st_setI (d:=rowsD (T3.bump (ra,rb,rc) h.toNat)) (Ex.eq (ex_of_nw (lc1 (xs:=([(h.toNat==0,ra+(h.toNat==0).toNat),(h.toNat==1,rb+(h.toNat==1).toNat),(h.toNat==2,rc+(h.toNat==2).toNat)]:List (Bool×Nat))) (enc:=fun q=>[D.str (rowS q.1 q.2)]) (ok:=fun J=>true) (f:=fun q=>.str (Txt.replace (rowS q.1 q.2) (Str.ofString "-") (Str.ofString ""))) (Keep.same rfl)
  (It.map2 (it_list (Ex.eq (ex_meth (a:=.str ⟨sent tx.cps⟩) (ds:=[.str ⟨#[13,10]⟩]) (Ex.h (ex_call (m:=m) (ds:=[.str tx,.bool (!anew)]) (.cons (xv (by walk_at "m")) (.cons (ex_un (xv (by walk_at "m")) o_not_bool) .nil rfl) rfl) (hS tx.cps (!anew) htx) hm)) (.cons (Ex.eq ex_str (congrArg D.str crlf2)) .nil rfl) id_split (m_split rfl (Nat.le_trans htl (by decide)) hsl)) (by rw[hspl];rfl))))
  (fun q hq=>.name (by decide +kernel) (by kernel_rfl)) (fun q hq=>rfl) (fun q hq J=>ex_replace (xv (by walk_at "m")) (by decide +kernel) ?_ (by decide +kernel)) (show 3≤4096 by decide))) ?_) (xv (by walk_at "m")) (by walk_at "u") hzl) ?_
 ·simp only[List.mem_cons,List.not_mem_nil,or_false] at hq
  have hc:∀u:Nat,u≤60→∀v:Bool,(rowS v (u+v.toNat)).length≤4096:=fun u hu v=>Nat.le_trans rowS_len (by have:=hb2 v;exact Nat.succ_le_of_lt (Nat.lt_of_le_of_lt (Nat.add_le_add hu this) (by decide)))
  rcases hq with rfl | rfl | rfl
  ·exact hc ra r1' _
  ·exact hc rb r2' _
  ·exact hc rc r3' _
 ·rw[dash1,empt]
  simp only[List.filter_cons,if_true,List.filter_nil,List.map_cons,List.map_nil,row_bareS]
  rfl
 rw[hK,hV _ rfl]
 generalize hR:T3.bump (ra,rb,rc) h.toNat=rr
 have e1:(lettersK (ls++[(k,rr)]))[ls.length]?=some (k:Int):=by simp
 have e2:(lettersV (ls++[(k,rr)]))[ls.length]?=some (rowsD rr):=by simp
 refine rS (st_setL (d:=rowsD rr) (xs1 (exh_mdI (by walk_at "m")) (xv (by walk_at "m")) (idx_dictI e1 e2)) (xv (by walk_at "m")) (by walk_at "u") hak.1 (by rw[List.length_map];lia) (by rw[List.length_map];exact Nat.le_trans (Nat.le_of_eq ho.1) (by decide))) ?_
 have hB1:BookOk 500 b:=hp2.mono (by decide)
 have hB2:BookOk 500 b0:=hb0ok.mono (by lia)
 have eo:(own.map fun r=>rowsD r).set h.toNat (rowsD rr)=(own.set h.toNat rr).map fun r=>rowsD r:=by rw[List.map_set]
 rw[eo]
 have ebk:(books.map Book.d)[h.toNat]?=some b0.d:=by rw[List.getElem?_map,hb0];rfl
 refine rS (st_setL (d:=Book.d (if anew=true then addB b b0 else addB b0 b)) (ex_if (c:=anew) (tr_bool (xv (by walk_at "m"))) (fun hc=>?_) (fun hc=>?_)) (xv (by walk_at "m")) (by walk_at "u") hak.1 (by rw[List.length_map];lia) (by rw[List.length_map];exact Nat.le_trans (Nat.le_of_eq hb.1) (by decide))) ?_
 ·rw[if_pos hc]
  exact ex_call (m:=m) (ds:=[b.d,b0.d]) (.cons (xv (by walk_at "m")) (.cons (ex_sub_ml (d:=b0.d) (by walk_at "m") (xv (by walk_at "m")) (hak.1) (Int.lt_of_lt_of_le hak.2 (by decide)) ebk) .nil rfl) rfl) (hB b b0 hB1 hB2) hm
 ·rw[if_neg (by rw[hc];decide)]
  exact ex_call (m:=m) (ds:=[b0.d,b.d]) (.cons (ex_sub_ml (d:=b0.d) (by walk_at "m") (xv (by walk_at "m")) (hak.1) (Int.lt_of_lt_of_le hak.2 (by decide)) ebk) (.cons (xv (by walk_at "m")) .nil rfl) rfl) (hB b0 b hB2 hB1) hm
 have eb:(books.map Book.d).set h.toNat (Book.d (if anew=true then addB b b0 else addB b0 b))=(books.set h.toNat (if anew=true then addB b b0 else addB b0 b)).map Book.d:=by rw[List.map_set]
 rw[eb]
 exact(run_pick (by with_reducible repeat' (first | exact all_nil | refine' all_cons (by walk_at "m") ?_)) (by kernel_rfl))
end
end
section
theorem good_add {m k:Nat}{t s:Tab}(h:Good m t) (h':Good k s):Good (m+k) (addCallers t s):=by
 have hz:∀t:Tab,(t.1.zip t.2).length≤t.2.length:=fun t=>by rw[List.length_zip];exact Nat.min_le_right _ _
 unfold addCallers
 have a1:Good m ((t.1.zip t.2).foldl (fun(a:Tab) p=>a.put p.1 p.2) ([],[])):=by
  refine⟨foldl_ok (fun t p h=>Tab.put_ok h) _ _ ⟨rfl,List.nodup_nil⟩,?_⟩
  have:=foldl_len (f:=fun(x:Tab) (p:Str×Int)=>x.put p.1 p.2) (fun J J=>putV_len_le) (t.1.zip t.2) ([],[])
  have h1:=hz t
  have h2:=h.2
  simp only[List.length_nil] at this
  lia
 generalize (t.1.zip t.2).foldl (fun(a:Tab) p=>a.put p.1 p.2) ([],[])=u at a1
 refine⟨foldl_ok (fun t p h=>Tab.add_ok h) _ _ a1.1,?_⟩
 have:=foldl_len add_len (s.1.zip s.2) u
 have h1:=hz s
 have h2:=h'.2
 have h3:=a1.2
 exact Nat.le_trans this (Nat.add_le_add h3 (Nat.le_trans h1 h2))
structure LineOk (acts:List Act) (line:List Nat):Prop where
 lt:∀k∈line,k<acts.length
 nodup:line.Nodup
 cause:∀i k,line[i]?=some k→∀g∈cOf acts k,g∈line.take i
 len:line.length≤50
structure RunInv (acts:List Act) (line:List Nat) (i:Nat) (st:RSt):Prop where
 own:st.own.length=3∧∀r∈st.own,T3.ok (i+1) r
 books:st.books.length=3∧∀b∈st.books,BookOk (8*(i+1)) b
 keys:st.letters.map (·.1)=line.take i
 letters:∀p∈st.letters,T3.ok (i+1) p.2
theorem mem_set {α:Type}{l:List α}{i:Nat}{x y:α}(h:y∈l.set i x):y∈l∨y=x:=List.mem_or_eq_of_mem_set h
theorem RunInv.step {acts:List Act}{worth:List Int}{line:List Nat}{anew:Bool}{i k:Nat}{st:RSt}(h:RunInv acts line i st) (hk:line[i]?=some k) (hh:0≤hOf acts k∧hOf acts k<3):RunInv acts line (i+1) (runStep acts worth anew st k):=by
 obtain⟨own,books,ls⟩:=st
 obtain⟨⟨h1,h2⟩,⟨h3,h4⟩,h5,h6⟩:=h
 dsimp only at *
 unfold runStep
 dsimp only
 have hlt:(hOf acts k).toNat<3:=by lia
 obtain⟨r0,hr0⟩:∃r,own[(hOf acts k).toNat]?=some r:=⟨_,List.getElem?_eq_getElem (Nat.lt_of_lt_of_eq hlt h1.symm)⟩
 obtain⟨b0,hb0⟩:∃r,books[(hOf acts k).toNat]?=some r:=⟨_,List.getElem?_eq_getElem (Nat.lt_of_lt_of_eq hlt h3.symm)⟩
 have hr0ok:=h2 r0 (List.mem_of_getElem? hr0)
 have hb0ok:=h4 b0 (List.mem_of_getElem? hb0)
 rw[hr0,hb0]
 simp only[Option.getD_some]
 have tk:=take_ok (acts:=acts) (worth:=worth) (k:=k) h6 (Nat.succ_le_succ (Nat.zero_le i)) (cOf acts k) (r0,(1,0,wAt worth k,0,([],[]))) hr0ok ⟨⟨rfl,List.nodup_nil⟩,Nat.zero_le _⟩
 generalize (cOf acts k).foldl (takeStep acts worth ls k) (r0,(1,0,wAt worth k,0,([],[])))=p at tk
 obtain⟨t1,t2⟩:=tk
 have hbump:=t1.bump (hOf acts k).toNat
 refine⟨⟨by rw[List.length_set];exact h1,fun r hr=>?_⟩,⟨by rw[List.length_set];exact h3,fun b hb=>?_⟩,?_,fun q hq=>?_⟩
 ·rcases mem_set hr with hr | rfl
  ·exact(h2 r hr).mono (Nat.le_succ _)
  ·exact hbump
 ·rcases mem_set hb with hb | rfl
  ·exact(h4 b hb).mono (Nat.le_add_right _ _)
  ·split
   ·exact(good_add t2 hb0ok).mono (by lia)
   ·exact(good_add hb0ok t2).mono (Nat.add_le_add_left (by decide) _)
 ·rw[List.map_append,h5,List.take_add_one,hk];rfl
 ·rcases List.mem_append.mp hq with hq | hq
  ·exact(h6 q hq).mono (Nat.le_succ _)
  ·rw[List.mem_singleton.mp hq];exact hbump
theorem RunInv.zero {acts:List Act}{line:List Nat}:RunInv acts line 0 runInit:=by
 refine⟨⟨rfl,fun r hr=>?_⟩,⟨rfl,fun b hb=>?_⟩,rfl,fun p hp=>nomatch hp⟩
 ·simp only[runInit,List.mem_cons,List.not_mem_nil,or_false,or_self] at hr
  rw[hr];exact⟨by decide,by decide,by decide⟩
 ·simp only[runInit,List.mem_cons,List.not_mem_nil,or_false,or_self] at hb
  rw[hb];exact⟨⟨rfl,List.nodup_nil⟩,Nat.zero_le _⟩
theorem runInv {acts:List Act}{worth:List Int}{line:List Nat}{anew:Bool}(hl:∀k∈line,0≤hOf acts k∧hOf acts k<3):∀i,i≤line.length→RunInv acts line i ((line.take i).foldl (runStep acts worth anew) runInit)
 | 0,_=>RunInv.zero
 | i+1,h=>by
  have ih:=runInv (worth:=worth) (anew:=anew) hl i (Nat.le_of_succ_le h)
  have hk:line[i]?=some line[i]:=List.getElem?_eq_getElem (Nat.lt_of_succ_le h)
  rw[List.take_add_one,hk,List.foldl_append]
  exact ih.step hk (hl _ (List.getElem_mem _))
noncomputable def RSt.d (st:RSt):D:=.tuple [.dictI (lettersK st.letters) (lettersV st.letters),.list (st.books.map Book.d)]
section
variable {C:Cx}{n:Nat}{sc csc:Scope}{Γ Γc:Gm}{e:Expr}{cm tup:Bool}
theorem ex_dot {k:Nat}{p:Pos}:Ex C n sc Γ (.Constant (.str ".") k p) (.str (dotS 1)):=Ex.eq ex_str (congrArg D.str (dot1.trans (by rfl)))
theorem ex_row1 {p1 p2 p3 q:Pos}{k1 k2 k3:Nat}:Ex C n sc Γ (.List [.Constant (.str ".") k1 p1,.Constant (.str ".") k2 p2,.Constant (.str ".") k3 p3] q) (rowsD (1,1,1)):=ex_list (.cons ex_dot (.cons ex_dot (.cons ex_dot .nil rfl) rfl) rfl)
theorem ex_book0 {p1 p2 p3 p4 p5 q:Pos}{k1 k2 k3 k4 x:Nat}:Ex C n sc Γ (.Tuple [.Constant (.int 0) k1 p1,.Constant (.int 0) k2 p2,.Constant (.int 0) k3 p3,.Constant (.int 0) k4 p4,.Dict [] [] p5] x q) noBook.d:=ex_tuple (.cons xi (.cons xi (.cons xi (.cons xi (.cons ex_dict0 .nil rfl) rfl) rfl) rfl) rfl)
theorem run_own_books {e1 e2 e3 f1 f2 f3:Expr}{q1 q2 q3 q4 q5 q6:Pos}{rest:List Stmt}{o:Out}{Γ1 Γ2:Gm}(g1:∀Γ,Ex C n sc Γ e1 (rowsD (1,1,1))) (g2:∀Γ,Ex C n sc Γ e2 (rowsD (1,1,1))) (g3:∀Γ,Ex C n sc Γ e3 (rowsD (1,1,1)))
  (b1:∀Γ,Ex C n sc Γ f1 noBook.d) (b2:∀Γ,Ex C n sc Γ f2 noBook.d) (b3:∀Γ,Ex C n sc Γ f3 noBook.d) (ne:(notStar e1&&notStar e2&&notStar e3&&notStar f1&&notStar f2&&notStar f3)=true)
  (h1:Drop "own" Γ Γ1) (h2:∀ao,Drop "books" (("own",.ml ao [rowsD (1,1,1),rowsD (1,1,1),rowsD (1,1,1)])::Γ1) (("own",.ml ao [rowsD (1,1,1),rowsD (1,1,1),rowsD (1,1,1)])::Γ2)) (s1:sto sc "own"=true) (s2:sto sc "books"=true)
  (kk:∀ao ab,Run C n sc (("books",.ml ab [noBook.d,noBook.d,noBook.d])::("own",.ml ao [rowsD (1,1,1),rowsD (1,1,1),rowsD (1,1,1)])::Γ2) rest o) :
  Run C n sc Γ (.Assign [.Name "own" q1] (.List [e1,e2,e3] q2) q3::.Assign [.Name "books" q4] (.List [f1,f2,f3] q5) q6::rest) o:=by
 simp only[Bool.and_eq_true] at ne
 obtain⟨⟨⟨⟨⟨n1,n2⟩,n3⟩,n4⟩,n5⟩,n6⟩:=ne
 exact run_newL (nw_list (.cons (g1 _) (.cons (g2 _) (.cons (g3 _) .nil n3) n2) n1)) h1 (fun ao=>run_newL (nw_list (.cons (b1 _) (.cons (b2 _) (.cons (b3 _) .nil n6) n5) n4)) (h2 ao) (fun ab=>kk ao ab) (fun J J=>rfl) s2) (fun J J=>rfl) s1
theorem Run.pick {Γ':Gm}{body:List Stmt}{o:Out}(h:Run C n sc Γ' body o) (hm:∀p∈Γ',p∈Γ) (hd:distinctN Γ'=true):Run C n sc Γ body o:=fun env A F s ex exg hE hR X=>h env A F s ex exg hE hR (X.pick hm hd)
noncomputable def RowE (e:Expr):Prop:=∃(p1 p2 p3 q:Pos) (k1 k2 k3:Nat),e=.List [.Constant (.str ".") k1 p1,.Constant (.str ".") k2 p2,.Constant (.str ".") k3 p3] q
noncomputable def BookE (e:Expr):Prop:=∃(p1 p2 p3 p4 p5 q:Pos) (k1 k2 k3 k4 x:Nat),e=.Tuple [.Constant (.int 0) k1 p1,.Constant (.int 0) k2 p2,.Constant (.int 0) k3 p3,.Constant (.int 0) k4 p4,.Dict [] [] p5] x q
theorem fn24_shape:∃(e1 e2 e3 f1 f2 f3:Expr) (q1 q2 q3 q4 q5 q6:Pos) (rest:List Stmt),(fnT 24).body=.Assign [.Name "own" q1] (.List [e1,e2,e3] q2) q3::.Assign [.Name "books" q4] (.List [f1,f2,f3] q5) q6::rest∧rest=(fnT 24).body.drop 2∧RowE e1∧RowE e2∧RowE e3∧BookE f1∧BookE f2∧BookE f3:=
 ⟨_,_,_,_,_,_,_,_,_,_,_,_,(fnT 24).body.drop 2,rfl,rfl,⟨_,_,_,_,_,_,_,rfl⟩,⟨_,_,_,_,_,_,_,rfl⟩,⟨_,_,_,_,_,_,_,rfl⟩,⟨_,_,_,_,_,_,_,_,_,_,_,rfl⟩,⟨_,_,_,_,_,_,_,_,_,_,_,rfl⟩,⟨_,_,_,_,_,_,_,_,_,_,_,rfl⟩⟩
theorem RowE.ex {e:Expr}(h:RowE e):(∀Γ,Ex C n sc Γ e (rowsD (1,1,1)))∧notStar e=true:=by
 obtain⟨p1,p2,p3,q,k1,k2,k3,rfl⟩:=h
 exact⟨fun J=>ex_row1,rfl⟩
theorem BookE.ex {e:Expr}(h:BookE e):(∀Γ,Ex C n sc Γ e noBook.d)∧notStar e=true:=by
 obtain⟨p1,p2,p3,p4,p5,q,k1,k2,k3,k4,x,rfl⟩:=h
 exact⟨fun J=>ex_book0,rfl⟩
structure RunB (C:Cx) (n k:Nat) (Γ:Gm) (d:D):Prop where
 run:Run C n (fnT k).scope Γ (fnT k).body (.ret d)
set_option maxHeartbeats 400000 in
theorem t_law_run (G:Gl C) {m:Nat}{acts:List Act}{worth:List Int}{anew:Bool}{line:List Nat}(hA:ActsOk acts worth) (hL:LineOk acts line)
  (hS:∀t w,SentOk t→Fn C m "_law_sent" [.str ⟨t⟩,.bool w] (.str ⟨sent t⟩)) (hD:∀x,x.length≤4096→Fn C m "decode_rfc2231" [.str x] (decD x))
  (hB:∀t s:Book,BookOk 500 t→BookOk 500 s→Fn C m "add_func_stats" [t.d,s.d] (addB t s).d) (hm:m≤n) :
  RunB C n 24 [("acts",.imm (actsD acts)),("line",.imm (nD line)),("worth",.imm (zD worth)),("anew",.imm (.bool anew))] (runF acts line worth anew).d:=by
 constructor
 have hw:=hA.w
 have hlen:=hA.len
 have hline:=hL.len
 have hhand:∀g,g<acts.length→0≤hOf acts g∧hOf acts g<3:=fun g hg=>by
  have e:hOf acts g=(acts[g]).hand:=by unfold hOf;rw[List.getElem?_eq_getElem hg];rfl
  rw[e];exact hA.hand _ (List.getElem_mem hg)
 obtain⟨e1,e2,e3,f1,f2,f3,q1,q2,q3,q4,q5,q6,rest,hbody,hrest,x1,x2,x3,y1,y2,y3⟩:=fn24_shape
 rw[hbody]
 have g1:=x1.ex (C:=C) (n:=n) (sc:=(fnT 24).scope)
 have g2:=x2.ex (C:=C) (n:=n) (sc:=(fnT 24).scope)
 have g3:=x3.ex (C:=C) (n:=n) (sc:=(fnT 24).scope)
 have g4:=y1.ex (C:=C) (n:=n) (sc:=(fnT 24).scope)
 have g5:=y2.ex (C:=C) (n:=n) (sc:=(fnT 24).scope)
 have g6:=y3.ex (C:=C) (n:=n) (sc:=(fnT 24).scope)
 refine run_own_books g1.1 g2.1 g3.1 g4.1 g5.1 g6.1 (by rw[g1.2,g2.2,g3.2,g4.2,g5.2,g6.2];rfl) (Drop.same rfl) (fun J=>(Drop.same rfl)) (by kernel_rfl) (by kernel_rfl) (fun ao ab=>?_)
 rw[hrest]
 refine run_cmc (ds':=[nD (ownF acts 0),nD (ownF acts 1),nD (ownF acts 2)]) (lm1 (xs:=List.range 3) (enc:=fun i=>[D.int (i:Nat)]) (ok:=fun J=>true) (f:=fun i=>nD (ownF acts (i:Nat))) (Keep.same rfl) (it_rangeN G (k:=3) xi (by decide)) (fun i hi=>.name (by decide +kernel) (by kernel_rfl)) (fun i hi=>rfl) (fun i hi J=>?_) (by decide)) rfl (Drop.same rfl) ?_
 ·exact Ex.eq (ex_of_nw (lc1 (xs:=acts.zipIdx 0) (enc:=fun p=>[D.int (p.2:Nat),p.1.d]) (ok:=fun p=>decide (p.1.hand=(i:Nat))) (f:=fun p=>.int (p.2:Nat)) (Keep.same rfl) (it_enumM G (xv (by walk_at "m"))) (fun p hp=>bt2 (by decide +kernel) (by kernel_rfl) (by kernel_rfl))
   (fun p hp=>Tr.eq (tC (xs1 (Ex.h (xv (by walk_at "m"))) xi (idx_tuple (d:=.int p.1.hand) (by decide) (by decide) rfl)) (xv (by walk_at "m")) o_eq_int) (Bool.eq_iff_iff.mpr (by simp))) (fun p hp J=>(xv (by walk_at "m"))) (by rw[List.length_zipIdx];exact Nat.le_trans hlen (Nat.le_trans hw (by decide))))) (by unfold ownF nD;rw[List.map_map];rfl)
 refine run_newI (ks:=[]) (ds:=[]) nw_dict0I (Drop.same rfl) fun al=>?_
 refine Run.pick (Γ':=[("letters",.mdI al [] []),("books",.ml ab [noBook.d,noBook.d,noBook.d]),("own",.ml ao [rowsD (1,1,1),rowsD (1,1,1),rowsD (1,1,1)]),("deeds",.imm (.list [nD (ownF acts 0),nD (ownF acts 1),nD (ownF acts 2)])),("anew",.imm (.bool anew)),("worth",.imm (zD worth)),("acts",.imm (actsD acts)),("line",.imm (nD line))]) ?_
  (by with_reducible repeat' (first | exact all_nil | refine' all_cons (by walk_at "m") ?_)) (by kernel_rfl)
 refine rS (st_for (xs:=line) (enc:=fun k=>[D.int (k:Nat)]) (It.map2 (it_list (xv (by walk_at "m")))) (fun st:RSt=>gmRun al ab ao acts worth anew st.own st.books st.letters) runInit (runStep acts worth anew) ?_ (fun st k hk=>.name (by decide +kernel) (by kernel_rfl)) (fun i k hk=>?_) (by intro _ _;rfl)) ?_
 ·exact(List.sublist_append_left (gmRun al ab ao acts worth anew runInit.own runInit.books runInit.letters) [("line",.imm (nD line))])
 ·have inv:=runInv (acts:=acts) (worth:=worth) (line:=line) (anew:=anew) (fun k hk=>hhand k (hL.lt k hk)) i (Nat.le_of_lt (List.getElem?_eq_some_iff.mp hk).1)
  have hil:=(List.getElem?_eq_some_iff.mp hk).1
  generalize (line.take i).foldl (runStep acts worth anew) runInit=st at inv
  have hkl:=hL.lt k (List.mem_of_getElem? hk)
  have hll:st.letters.length=i:=by
   have:=congrArg List.length inv.keys
   rw[List.length_map,List.length_take] at this
   exact Eq.trans this (Nat.min_eq_left (Nat.le_of_lt hil))
  refine t_step (i:=i+1) G hA hkl ?_ ?_ ⟨by exact Nat.le_add_left _ _,by exact Nat.succ_le_of_lt (Nat.lt_of_lt_of_le hil (Nat.le_trans hline (by decide)))⟩ inv.own inv.books ⟨by lia,inv.letters⟩ hS hD hB hm
  ·rw[inv.keys]
   intro hm
   obtain⟨j,hj,e⟩:=List.getElem_of_mem hm
   rw[List.getElem_take] at e
   rw[List.length_take] at hj
   exact(List.pairwise_iff_getElem.mp hL.nodup) j i (Nat.lt_of_lt_of_le hj (Nat.min_le_right _ _)) hil (Nat.lt_of_lt_of_le hj (Nat.min_le_left _ _)) (e.trans (List.getElem?_eq_some_iff.mp hk).2.symm)
  ·rw[inv.keys];exact hL.cause i k hk
 ·have e:line.foldl (runStep acts worth anew) runInit=runF acts line worth anew:=rfl
  rw[e]
  generalize runF acts line worth anew=st
  refine run_freezeI (by walk_at "u") (run_freezeL (by walk_at "u") ?_)
  exact run_ret (ex_tuple (.cons (xv (by walk_at "m")) (.cons (xv (by walk_at "m")) .nil rfl) rfl))
end
end
section
noncomputable abbrev XI (C:Cx) (a:List Int×List D):FZ→Obj→Prop:=(Kd.i a.1 a.2).X C
section
variable {C:Cx}{n:Nat}{sc csc:Scope}{Γ Γc:Gm}{tup:Bool}
theorem turn_d (kx vx target iter:Expr) (ifs:List Expr) (scope:Scope) (pos:Pos) (it:Value) (D:Addr) (env:Env) :
  compTurn (.DictComp kx vx [⟨target,iter,ifs,0⟩] scope pos) 0 it (.ref D) env=loopTurn ⟨target,iter,ifs,0⟩ it env
   ((do
    let kv ← eval kx env
    let vv ← holding [kv] (eval vx env)
    standAt { kx.pos with endLine:=vx.pos.endLine,endCol:=vx.pos.endCol }
    holding [kv,vv] (dictSet D kv vv))>>=fun J=>again (.compLoop (.DictComp kx vx [⟨target,iter,ifs,0⟩] scope pos) 0 it (.ref D) env)) (again (.compLoop (.DictComp kx vx [⟨target,iter,ifs,0⟩] scope pos) 0 it (.ref D) env)):=by rfl
theorem emit_dict {sc':Scope}{kx vx:Expr}{k:Int}{d:D}(hk:Ex C n sc' Γ kx (.int k)) (hv:Ex C n sc' Γ vx d) {cenv:Env}{D:Nat}{A:Around}{F:FZ}{s:Shared}{a:List Int×List Mine.D}(hE:gE sc' cenv) (hR:Room n A) (hS:CS C csc cenv Γ D (XI C a) F s) (hz:a.2.length≤4096) {p:Pos} :
  Wp C A (do
    let kv ← eval kx cenv
    let vv ← holding [kv] (eval vx cenv)
    standAt p
    holding [kv,vv] (dictSet D kv vv)) (fun J s'=>Inn C csc cenv Γ D (XI C (putK a.1 k,putV a.1 a.2 k d)) (exD csc cenv D) exN F s s') s:=by
 refine Wp.bind ((hk cenv A F s hE hR hS.ok hS.eok).imp fun kv s₁ hZ=>?_)
 obtain⟨F₁,g₁,r₁⟩:=hZ
 obtain⟨t,rfl⟩:=r₁.int_inv
 have S₁:=hS.grow (Kd.mono _) g₁
 refine Wp.bind (wpAny_holding ((hv cenv A F₁ s₁ hE hR S₁.ok S₁.eok).imp fun vv s₂ hZ=>?_))
 obtain⟨F₂,g₂,r₂⟩:=hZ
 have S₂:=S₁.grow (Kd.mono _) g₂
 obtain⟨o,h1,es,kk,vs,hd,ra⟩:=S₂.acc
 refine Wp.bind (wpAny_standAt (wpAny_holding ?_))
 have h4:(4096:Nat)≤sizeLine:=by decide
 refine wpAny_dictSet_pairs (intKind_is _ _ _ _) (hd.dictOf h1) (fun h' hm' hs=>?_) (by rw[List.length_zip,hd.len,Nat.min_self,ra.length];exact Nat.le_trans hz (by decide))
 rw[stored_zip hd.len] at hm'
 obtain⟨es',n',ho',hk',hp'⟩:=dict_exact hm'
 exact .mk F₂ ((Chg.of (ex:=exD csc cenv D) (exg:=exN) (g₁.trans g₂)).trans (Chg.same (tk:=s₂.toks+1) (exg:=exN) S₂.ok.inn S₂.accF (fun b o hb e=>hs.extBut b o hb e) (Nat.le_of_eq hs.1.symm) (Nat.le_succ _)) (fun J J h=>.inl h) (fun J J h=>h))
  (S₂.accSet (tk:=s₂.toks+1) Kd.nocell hs ho' ⟨es',n',_,⟨rfl,hk',hp',put_len hd.len,putK_nodup hd.nd⟩,RA.put r₂ ra⟩)
theorem nw_dictcomp {kx vx tgt iter:Expr}{ifs:List Expr}{pos:Pos}{β:Type}{xs:List β}{enc:β→List D}{Γ':β→Gm}{ok:β→Bool}{f:β→D}{kf:β→Int}
  (h:C1 C n sc csc Γ Γc tup vx tgt iter ifs xs enc Γ' ok f) (hkey:∀x∈xs,ok x=true→Ex C n (rel sc csc) (Γ' x) kx (.int (kf x))) (hco:compOk sc csc=true) (hkeep:Keep csc Γ Γc) (hz:xs.length≤4096) (hset:∀env x,foldedSetIterable iter env x=pure x) :
  Nw C n sc Γ (.DictComp kx vx [⟨tgt,iter,ifs,0⟩] csc pos) (XI C (xs.foldl (fun a x=>if ok x then (putK a.1 (kf x),putV a.1 a.2 (kf x) (f x)) else a) ([],[]))):=by
 intro env A F s hE hR hO hV
 rw[arm_eval_DictComp]
 have hlen:∀(l:List β) (a:List Int×List D),(l.foldl (fun a x=>if ok x then (putK a.1 (kf x),putV a.1 a.2 (kf x) (f x)) else a) a).2.length≤a.2.length+l.length:=by
  intro l
  induction l with
  | nil=>intro a;exact Nat.le_refl _
  | cons x l ih=>
   intro a
   rw[List.foldl_cons]
   refine Nat.le_trans (ih _) ?_
   split
   ·have:=putV_len_le (ks:=a.1) (vs:=a.2) (k:=kf x) (v:=f x)
    simp only[List.length_cons];lia
   ·simp only[List.length_cons];exact Nat.le_succ _
 refine comp_core (X:=XI C) (g:=⟨tgt,iter,ifs,0⟩) (obj0:=dObj #[] 0) (use:=none) (inner:=fun it cenv D=>(do
    let kv ← eval kx cenv
    let vv ← holding [kv] (eval vx cenv)
    standAt { kx.pos with endLine:=vx.pos.endLine,endCol:=vx.pos.endCol }
    holding [kv,vv] (dictSet D kv vv))>>=fun J=>again (.compLoop (.DictComp kx vx [⟨tgt,iter,ifs,0⟩] csc pos) 0 it (.ref D) cenv)) ([],[]) (fun a x=>if ok x then (putK a.1 (kf x),putV a.1 a.2 (kf x) (f x)) else a)
  rfl hset hco h.it hkeep (fun A Q s q=>wpAny_newObj_type q) rfl (fun F=>?_) (fun a=>Kd.mono _) (fun A cenv it D R s h0 h1=>codeAny_compStart_dict h0 h1.any)
  (fun it D cenv=>?_) (fun J J J J=>rfl) (fun J J J=>rfl) h.bind h.ifs (fun x hx e a=>by simp[e]) (fun A it cenv D hE' hR' x hx e a F s ⟨i,hi⟩ hS=>?_) hE hR hO hV fun D cloc F' s' dn h' hs=>?_
 ·obtain⟨es,k,ho,hk,hp⟩:=dict_exact (Heap.DictOf.new (knd:=PySem.intKind C.prog C.w) s.heap)
  have e:dObj es k=dObj #[] 0:=Option.some.inj (ho.symm.trans (Heap.get?_push_size _ rfl))
  exact⟨es,k,[],⟨e.symm,hk,hp,rfl,List.nodup_nil⟩,.nil⟩
 ·show(compTurn (.DictComp kx vx [⟨tgt,iter,ifs,0⟩] csc pos) 0 it (.ref D) cenv).onRaise _=_
  rw[turn_d]
 ·simp only[e,if_true] at hi ⊢
  have h1:=hlen (xs.take i) ([],[])
  have hb:a.2.length≤4096:=by
   have h2:(xs.take i).length≤xs.length:=List.length_take_le' ..
   have h3:a.2.length≤(putV a.1 a.2 (kf x) (f x)).length:=by
    obtain⟨o,_,es,kk,vs,hd,ra⟩:=hS.acc
    have c1:=hd.len
    have hl:=ra.length
    unfold putV;split
    ·rw[List.length_zipWith];lia
    ·simp
   rw[← hi] at h1
   simp only[List.length_nil] at h1
   lia
  exact Wp.bind ((emit_dict (hkey x hx e) (h.elt x hx e) hE' hR' hS hb).imp fun J s' q=>wpAny_pure ⟨rfl,q⟩)
 ·obtain⟨o,h1,h2⟩:=dn.acc
  exact⟨D,F',rfl,dn.g.but dn.nsF dn.nlo hs,⟨o,hs.extBut _ _ dn.ne h1,h2⟩,dn.accF,dn.lo⟩
theorem dict_rows {α β:Type}(kf:β→Int) (f:β→α) (xs:List β) (a:List Int×List α) (hl:a.1.length=a.2.length) (h:(a.1++xs.map kf).Nodup):xs.foldl (fun a x=>if (fun J=>true) x then (putK a.1 (kf x),putV a.1 a.2 (kf x) (f x)) else a) a=(a.1++xs.map kf,a.2++xs.map f):=by
 induction xs generalizing a with
 | nil=>exact(congr (congrArg Prod.mk (List.append_nil _)) (List.append_nil _)).symm
 | cons x xs ih=>
  have hn:kf x∉a.1:=fun hm=>(List.nodup_append.mp h).2.2 _ hm _ (List.mem_map.mpr ⟨x,List.mem_cons_self,rfl⟩) rfl
  rw[List.map_cons,List.append_cons] at h
  rw[List.map_cons,List.map_cons,List.append_cons,List.append_cons a.2]
  have e:(if (fun J:β=>true) x then (putK a.1 (kf x),putV a.1 a.2 (kf x) (f x)) else a)=(a.1++[kf x],a.2++[f x]):=by
   rw[putK_new hn,putV_new hn];rfl
  rw[List.foldl_cons,e]
  exact ih _ (by rw[List.length_append,List.length_append,hl];rfl) h
end
end
section
section
variable {C:Cx}
theorem o_eq_dictI {ks ls:List Int}{xs ys:List D}{m:Nat}(hw:Within ks xs ls ys) (hl:xs.length=ys.length) (h:∀d∈xs,Flat m d) (hd:m+1≤60):Op2 C (compareOp .Eq) (.dictI ks xs) (.dictI ls ys) (.bool true):=by
 intro A F s va vb hR hO r r'
 have hu:=hR.u64
 refine smBool hO fun Q hq=>?_
 obtain⟨a,es,n,vs,rfl,h1,ra⟩:=r.dictI_inv;obtain⟨b,es',n',ws,rfl,h2,rb⟩:=r'.dictI_inv
 exact rc_dict hO h1 h2 ra rb hw hl h (by lia) _ _ hq
structure TabSame (t s:Tab):Prop where
 len:t.2.length=s.2.length
 sub:∀(i:Nat) k x,t.1[i]?=some k→t.2[i]?=some x→∃j:Nat,s.1[j]?=some k∧s.2[j]?=some x
noncomputable def BookSame (b c:Book):Prop:=b.1=c.1∧b.2.1=c.2.1∧b.2.2.1=c.2.2.1∧b.2.2.2.1=c.2.2.2.1∧TabSame b.2.2.2.2 c.2.2.2.2
theorem flat_ints (l:List Int):∀d∈l.map D.int,Flat 0 d:=fun d hd=>by
 obtain⟨i,_,rfl⟩:=List.mem_map.mp hd
 exact .int
theorem tab_same {A:Around}{s:Shared}{F:FZ}{t u:Tab}{v w:Value}(hO:Ok C F s) (h:TabSame t u) (r:R C F v t.d) (r':R C F w u.d) (hu:A.units+2<cLine):EqIn C A s v w true:=by
 obtain⟨a,es,n,vs,rfl,h1,ra⟩:=r.dictS_inv;obtain⟨b,es',n',ws,rfl,h2,rb⟩:=r'.dictS_inv
 refine box_eq (rc_dict hO h1 h2 ra rb (fun i k x hk hx=>?_) (by rw[List.length_map,List.length_map,h.len]) (flat_ints _) (hu))
 rw[List.getElem?_map] at hx
 obtain⟨y,hy,e⟩:=Option.map_eq_some_iff.mp hx
 obtain⟨j,hj,hz⟩:=h.sub i k y hk hy
 exact⟨j,hj,by rw[List.getElem?_map,hz];exact congrArg some e⟩
theorem ints_eq {A:Around}{s:Shared}{F:FZ}{i j:Int}{v w:Value}(h:i=j) (r:R C F v (.int i)) (r':R C F w (.int j)):EqIn C A s v w true:=by
 obtain⟨t,rfl⟩:=r.int_inv;obtain⟨u,rfl⟩:=r'.int_inv
 have:=EqIn.ints (C:=C) (A:=A) (s:=s) (i:=i) (j:=j) (t:=t) (u:=u)
 rwa [decide_eq_true h] at this
theorem RA.five {F:FZ}{vs:List Value}{d1 d2 d3 d4 d5:D}(h:RA C F vs [d1,d2,d3,d4,d5]):∃v1 v2 v3 v4 v5,vs=[v1,v2,v3,v4,v5]∧R C F v1 d1∧R C F v2 d2∧R C F v3 d3∧R C F v4 d4∧R C F v5 d5:=by
 obtain⟨v1,vs,rfl,h1,h⟩:=h.cons_inv
 obtain⟨v2,vs,rfl,h2,h⟩:=h.cons_inv
 obtain⟨v3,v4,v5,rfl,h3,h4,h5⟩:=h.three_inv
 exact⟨_,_,_,_,_,rfl,h1,h2,h3,h4,h5⟩
theorem book_same {A:Around}{s:Shared}{F:FZ}{b c:Book}{v w:Value}(hO:Ok C F s) (h:BookSame b c) (r:R C F v b.d) (r':R C F w c.d) (hu:A.units+3<cLine):EqIn C A s v w true:=by
 obtain⟨x,vs,n,rfl,ea,ra⟩:=r.tuple_inv;obtain⟨y,ws,k,rfl,eb,rb⟩:=r'.tuple_inv
 by_cases hab:x=y
 ·rw[hab];exact .same _
 refine .refs hab (rc_tuple (hO.inn _ _ ea) (hO.inn _ _ eb) (ra.length.trans rb.length.symm) (Nat.lt_of_le_of_lt (Nat.le_add_right _ _) hu) ?_)
 obtain⟨h1,h2,h3,h4,h5⟩:=h
 obtain⟨v1,v2,v3,v4,v5,rfl,a1,a2,a3,a4,a5⟩:=ra.five
 obtain⟨w1,w2,w3,w4,w5,rfl,b1,b2,b3,b4,b5⟩:=rb.five
 intro j v w hv hw
 rcases j with _ | _ | _ | _ | _ | j
 ·cases hv;cases hw;exact ints_eq h1 a1 b1
 ·cases hv;cases hw;exact ints_eq h2 a2 b2
 ·cases hv;cases hw;exact ints_eq h3 a3 b3
 ·cases hv;cases hw;exact ints_eq h4 a4 b4
 ·cases hv;cases hw;exact tab_same hO h5 a5 b5 (by simp only[Around.in1_units];exact hu)
 ·cases hv
theorem o_eq_books {bs cs:List Book}(hl:bs.length=cs.length) (h:∀(i:Nat) b c,bs[i]?=some b→cs[i]?=some c→BookSame b c):Op2 C (compareOp .Eq) (.list (bs.map Book.d)) (.list (cs.map Book.d)) (.bool true):=by
 intro A F s va vb hR hO r r'
 have hu:=hR.u64
 have hc:64+1000≤cLine:=by decide
 refine smBool hO fun Q hq=>?_
 show Wp C A (richCompare .Eq va vb) Q s
 obtain⟨a,vs,n,rfl,ea,ra⟩:=r.list_inv;obtain⟨b,ws,k,rfl,eb,rb⟩:=r'.list_inv
 refine rc_list (hO.inn _ _ ea) (hO.inn _ _ eb) (by rw[ra.length,rb.length];simp[hl]) (Nat.lt_of_le_of_lt (Nat.le_add_right _ _) hu) (fun j v w hv hw=>?_) _ _ hq
 obtain⟨d,hd,rd⟩:=ra.get?' hv
 obtain⟨e,he,re⟩:=rb.get?' hw
 rw[List.getElem?_map] at hd he
 cases hb:bs[j]? with
 | none=>rw[hb] at hd;cases hd
 | some b'=>
 cases hc':cs[j]? with
 | none=>rw[hc'] at he;cases he
 | some c'=>
  rw[hb] at hd;rw[hc'] at he;cases hd;cases he
  exact book_same hO (h j _ _ hb hc') rd re (by simp only[Around.in1_units];exact Nat.lt_of_succ_le (Nat.succ_le_of_lt (Nat.lt_of_le_of_lt (Nat.add_le_add_right (Nat.le_add_right _ _) _) hu)))
end
end
section
theorem pickD_map {α β:Type}(f:α→β) (ds:List α) (lo hi st:Option Int):pickD (ds.map f) lo hi st=(pickD ds lo hi st).map f:=by
 unfold pickD
 rw[List.length_map,List.map_filterMap]
 congr 1
 funext i
 rw[List.getElem?_map]
theorem pickD_len {α:Type}(ds:List α) (lo hi st:Option Int):(pickD ds lo hi st).length≤ds.length:=by
 unfold pickD
 refine Nat.le_trans (List.length_filterMap_le _ _) (sliceRange_length_le _ _ _ _ (fun hc=>?_) fun hc=>?_)
 ·simp only[sliceBounds] at hc ⊢
  simp only[hc,if_true]
  constructor
  ·cases lo <;> (dsimp only;first | exact Int.natCast_nonneg _ | exact Int.le_refl _ | exact Int.max_le.mpr ⟨Int.natCast_nonneg _,Int.min_le_right _ _⟩ | omega)
  ·cases hi <;> (dsimp only;first | exact Int.natCast_nonneg _ | exact Int.le_refl _ | exact Int.max_le.mpr ⟨Int.natCast_nonneg _,Int.min_le_right _ _⟩ | omega)
 ·simp only[sliceBounds] at hc ⊢
  simp only[hc,if_false]
  constructor
  ·cases lo <;> (dsimp only;first | exact Int.natCast_nonneg _ | exact Int.le_refl _ | exact Int.max_le.mpr ⟨Int.natCast_nonneg _,Int.min_le_right _ _⟩ | omega)
  ·cases hi <;> (dsimp only;first | exact Int.natCast_nonneg _ | exact Int.le_refl _ | exact Int.max_le.mpr ⟨Int.natCast_nonneg _,Int.min_le_right _ _⟩ | omega)
theorem pickD_rev {α:Type}(ds:List α):pickD ds none none (some (-1))=ds.reverse:=by
 unfold pickD
 show((sliceRange ((ds.length:Int)-1) (-1) (-1)).filterMap (ds[·]?))=_
 rw[krv_sliceRange,List.filterMap_map]
 apply List.ext_getElem?
 have e:∀(m:Nat),m≤ds.length→(List.range m).filterMap ((fun x=>ds[x]?)∘fun k=>ds.length-1-k)=ds.reverse.take m:=by
  intro m
  induction m with
  | zero=>intro _;rfl
  | succ m ih=>
   intro h
   rw[List.range_succ,List.filterMap_append,ih (Nat.le_of_succ_le h),List.take_add_one,List.getElem?_reverse (Nat.lt_of_succ_le h)]
   simp only[List.filterMap_cons,List.filterMap_nil,Function.comp]
   cases ds[ds.length-1-m]? <;> rfl
 intro i
 rw[e _ (Nat.le_refl _),List.take_of_length_le (by simp)]
noncomputable def cellF (script:List Int) (b:Int) (k:Nat):Int:=b+((pickD (script.take 60) (some (k:Int)) none (some 8)).map fun x=>x.fmod 1000000000).sum
noncomputable def cellsF (script:List Int):List Int:=([1,6,5,4,10,22,26,44].zipIdx 0).map fun p=>cellF script p.1 p.2
noncomputable def worthF (script:List Int):List Int:=script.take 8++([3,-1,4,1,-5,9,2,6]:List Int).drop (script.take 8).length
theorem worth_len (script:List Int):(worthF script).length=8:=by
 unfold worthF
 simp only[List.length_append,List.length_drop,List.length_take,List.length_cons,List.length_nil]
 exact Nat.add_sub_of_le (Nat.min_le_left _ _)
theorem cells_len (script:List Int):(cellsF script).length=8:=rfl
inductive IntE:Expr→Int→Prop
 | pos {i k p}:IntE (.Constant (.int i) k p) i
 | neg {i k p q}:IntE (.UnaryOp .USub (.Constant (.int i) k p) q) (-i)
inductive IntsE:List Expr→List Int→Prop
 | nil:IntsE [] []
 | cons {e es i l}:IntE e i→IntsE es l→IntsE (e::es) (i::l)
noncomputable def Ints8E (e:Expr) (l:List Int):Prop:=∃(p:Pos) (es:List Expr),e=.List es p∧IntsE es l
section
variable {C:Cx}{n:Nat}{sc csc:Scope}{Γ Γc:Gm}{e:Expr}{cm tup:Bool}
theorem ints_exs {es:List Expr}{l:List Int}(h:IntsE es l):Exs C n sc Γ es (l.map .int):=by
 induction h with
 | nil=>exact .nil
 | cons h _ ih=>
  cases h with
  | pos=>exact .cons xi ih rfl
  | neg=>exact .cons (ex_un xi o_neg_int) ih rfl
theorem Ints8E.ex {e:Expr}{l:List Int}(h:Ints8E e l) (hl:l.length≤64):Ex C n sc Γ e (zD l):=by
 obtain⟨p,es,rfl,he⟩:=h
 exact ex_list (ints_exs he) (by rw[List.length_map];exact Nat.le_trans hl (by decide))
theorem fn28_1:∃(k:Nat) (p1 p2 p3 q:Pos) (es:List Expr) (rest:List Stmt),(fnT 28).body=.Assign [.Name "bases" q] (.List (.Constant (.int 1) k p1::es) p2) p3::rest∧rest=(fnT 28).body.drop 1∧Ints8E (.List es p2) [6,5,4,10,22,26,44]:=
 ⟨_,_,_,_,_,_,(fnT 28).body.drop 1,rfl,rfl,⟨_,_,rfl,by repeat' constructor⟩⟩
noncomputable def Sl8E (e:Expr):Prop:=∃(q1 q2 q3 q4:Pos) (k:Nat),e=.Subscript (.Name "script" q1) (.Slice none (some (.Constant (.int 8) k q2)) none q3) q4
theorem fn28_5:∃(e e' e2:Expr) (q p1 p2 p3 p4 p5 p:Pos) (rest:List Stmt),(fnT 28).body.drop 4=.Assign [.Name "worth" q] (.BinOp e .Add (.Subscript e' (.Slice (some (.Call (.Name "len" p1) [e2] [] p2)) none none p3) p4) p5) p::rest∧rest=(fnT 28).body.drop 5∧Sl8E e∧Sl8E e2∧Ints8E e' [3,-1,4,1,-5,9,2,6]:=
 ⟨_,_,_,_,_,_,_,_,_,_,(fnT 28).body.drop 5,rfl,rfl,⟨_,_,_,_,_,rfl⟩,⟨_,_,_,_,_,rfl⟩,⟨_,_,rfl,by repeat' constructor⟩⟩
theorem Sl8E.ex {e:Expr}{script:List Int}(h:Sl8E e) (hm:(("script":Str),Mine.Slot.imm (zD script))∈Γ) (hv:vis sc "script"=true) (hl:script.length≤63):Ex C n sc Γ e (zD (script.take 8))∧notStar e=true:=by
 obtain⟨q1,q2,q3,q4,k,rfl⟩:=h
 refine⟨Ex.eq (ex_slice (ds:=script.map .int) (lo:=none) (hi:=some 8) (st:=none) (xv hm hv) rfl ⟨_,rfl,xi⟩ rfl (by decide) (by rw[List.length_map];exact Nat.le_trans hl (by decide))) ?_,rfl⟩
 exact congrArg D.list ((pick_take (ds:=script.map D.int) (k:=8)).trans List.map_take.symm)
theorem law_1 (G:Gl C) {script:List Int}{o:Out}{m:Nat}(hl:script.length≤63) (hA:∀cells:List Int,cells.length=8→Fn C m "_law_acts" [zD cells] (actsD (aOf cells))) (hm:m≤n)
  (kk:Run C n (fnT 28).scope [("worth",.imm (zD (worthF script))),("acts",.imm (actsD (aOf (cellsF script)))),("total",.imm (.int (cellsF script).sum)),("cells",.imm (zD (cellsF script)))] ((fnT 28).body.drop 5) o) :
  Run C n (fnT 28).scope [("bases",.imm (zD [1,6,5,4,10,22,26,44])),("script",.imm (zD script))] ((fnT 28).body.drop 1) o:=by
 have hsl:∀k:Nat,(pickD (script.take 60) (some (k:Int)) none (some 8)).length≤4096:=fun k=>by
  have:=pickD_len (script.take 60) (some (k:Int)) none (some 8)
  have:=List.length_take_le 60 script
  lia
 refine run_nwc (ds':=(cellsF script).map .int) (lc1 (xs:=([1,6,5,4,10,22,26,44]:List Int).zipIdx 0) (enc:=fun p=>[D.int (p.2:Nat),.int p.1]) (ok:=fun J=>true) (f:=fun p=>.int (cellF script p.1 p.2)) (by walk_at "k") (it_enumM G (xv (by walk_at "m"))) (fun p hp=>bt2 (by decide +kernel) (by kernel_rfl) (by kernel_rfl))
  (fun p hp=>rfl) (fun p hp J=>?_) (by decide)) (by unfold cellsF;rw[List.filter_eq_self.mpr fun J J=>rfl,List.map_map];rfl) (Drop.same rfl) ?_
 ·refine xb (xv (by walk_at "m")) (ex_sum G (Ex.eq (ex_of_nw (lc1 (xs:=pickD (script.take 60) (some ((p.2:Nat):Int)) none (some 8)) (enc:=fun x=>[D.int x]) (ok:=fun J=>true) (f:=fun x=>.int (x.fmod 1000000000)) (by walk_at "k")
   (It.map2 (it_list (Ex.eq (ex_slice (lo:=some ((p.2:Nat):Int)) (hi:=none) (st:=some 8) (ex_slice (lo:=none) (hi:=some 60) (st:=none) (xv (by walk_at "m")) rfl ⟨_,rfl,xi⟩ rfl (by decide) (by rw[List.length_map];exact Nat.le_trans hl (by decide))) ⟨_,rfl,(xv (by walk_at "m"))⟩ rfl ⟨_,rfl,xi⟩ (by decide) ?_) ?_)))
   (fun x hx=>.name (by decide +kernel) (by kernel_rfl)) (fun x hx=>rfl) (fun x hx J=>xb (xv (by walk_at "m")) (xb xi xi (o_pow_int (by decide) (by decide))) (o_mod_int (by decide))) (hsl _))) ?_)) o_add_int
  ·have:=List.length_take_le 60 script
   have e:=pick_take (ds:=script.map D.int) (k:=60)
   have e':=congrArg List.length e
   rw[← List.map_take,List.length_map] at e'
   exact Nat.le_trans (Nat.le_of_eq e') (Nat.le_trans this (by decide))
  ·refine congrArg D.list ?_
   rw[show pickD (script.map D.int) none (some 60) none=(script.take 60).map D.int from(pick_take (ds:=script.map D.int) (k:=60)).trans List.map_take.symm,pickD_map]
  ·rw[List.filter_eq_self.mpr fun J J=>rfl];unfold zD;rw[List.map_map];rfl
 ·have hc:=cells_len script
  refine rS (sA (ex_sum G (xv (by walk_at "m"))) (Drop.same rfl)) ?_
  refine rS (sA (ex_call (.cons (xv (by walk_at "m")) .nil rfl) (hA _ hc) hm) (Drop.same rfl)) ?_
  obtain⟨e,e',e2,q,p1,p2,p3,p4,p5,p,rest,h1,h2,h3,h4,h5⟩:=fn28_5
  show Run C n (fnT 28).scope _ ((fnT 28).body.drop 4) o
  rw[h1]
  have hlen:(script.take 8).length≤8:=List.length_take_le 8 script
  have s1:=fun Γ h=>(h3.ex (C:=C) (n:=n) (sc:=(fnT 28).scope) (Γ:=Γ) (script:=script) h (by kernel_rfl) hl)
  have s2:=fun Γ h=>(h4.ex (C:=C) (n:=n) (sc:=(fnT 28).scope) (Γ:=Γ) (script:=script) h (by kernel_rfl) hl)
  have s3:=fun Γ=>(h5.ex (C:=C) (n:=n) (sc:=(fnT 28).scope) (Γ:=Γ) (by decide))
  have lw:([3,-1,4,1,-5,9,2,6]:List Int).length=8:=rfl
  generalize hW:([3,-1,4,1,-5,9,2,6]:List Int)=ws at s3 lw
  have ew:pickD (ws.map D.int) (some (((script.take 8).length:Nat):Int)) none none=(ws.drop (script.take 8).length).map .int:=pick_drop.trans List.map_drop.symm
  refine rS (sA (d:=zD (worthF script)) (Ex.eq (xb (s1 _ (by walk_at "m")).1 (Ex.eq (d':=.list ((ws.drop (script.take 8).length).map .int)) (ex_slice (ds:=ws.map .int) (lo:=some (((script.take 8).length:Nat):Int)) (hi:=none) (st:=none) (s3 _) ⟨_,rfl,Ex.eq (ex_len G (s2 _ (by walk_at "m")).1 ?_ (s2 [("script",.imm (zD script))] (by walk_at "m")).2) ?_⟩ rfl rfl (by decide) ?_) ?_) (o_add_list ?_)) ?_) (Drop.same rfl)) ?_
  ·rw[List.length_map];exact Nat.le_trans hlen (by decide)
  ·rw[List.length_map]
  ·rw[List.length_map,lw];decide
  ·exact congrArg D.list ew
  ·have:(16:Nat)≤sizeLine:=by decide
   rw[List.length_map,List.length_map,List.length_drop,lw];exact Nat.le_trans (Nat.add_le_add hlen (Nat.sub_le _ _)) (by decide)
  ·refine congrArg D.list ?_
   rw[← List.map_append,← hW];rfl
  ·rw[h2]
   exact kk.pick (by with_reducible repeat' (first | exact all_nil | refine' all_cons (by walk_at "m") ?_)) (by kernel_rfl)
end
end
section
noncomputable def T3.at (r:T3) (c:Nat):Nat:=(r.l[c]?).getD 0
noncomputable def T3.inc (r:T3):T3:=(r.1+1,r.2.1+1,r.2.2+1)
noncomputable def cntF (acts:List Act) (past:List Nat) (h:Int):Nat:=(past.filter fun k=>decide (hOf acts k=h)).length
noncomputable def vcF (acts:List Act) (past:List Nat):T3:=(cntF acts past 0,cntF acts past 1,cntF acts past 2)
noncomputable abbrev rowD (r:T3):D:=nD r.l
noncomputable abbrev natsLD (l:List (List Nat)):D:=.list (l.map nD)
noncomputable abbrev intsLD (l:List (List Int)):D:=.list (l.map zD)
noncomputable abbrev strsD (l:List Str):D:=.list (l.map .str)
noncomputable def colsF (b:Int):List (List Nat):=if b=0 then [[0,1,2],[1,2,0],[2,0,1]] else [[0,2,1],[1,0,2],[2,1,0]]
noncomputable def wayN (total:Int) (k:Nat):Int:=1-((total.fdiv (2^k)).fdiv 2).fmod 2*2
noncomputable def natLt (a b:Nat):Bool:=decide (a<b)
noncomputable def intLt (a b:Int):Bool:=decide (a<b)
noncomputable abbrev mk (c:List Nat) (w:Int):List (Nat×Int):=c.map fun i=>(i,w)
noncomputable def sF (c:List Nat) (w:Int) (vs:List T3):List (List Int):=vs.map fun x=>vs.map fun y=>cmpF natLt x.at y.at (mk c w)*w
noncomputable def scoresF (t:List (List Int)):List Int:=t.map List.sum
noncomputable def argsF (row:List Int):List (Int×Nat):=(row.zipIdx 0).mergeSort fun a b=>decide (rnk a≤rnk b)
noncomputable def lineF (row:List Int):List Nat:=(argsF row).map (·.2)
theorem zipIdx_snd {α:Type}:∀(l:List α) (k:Nat),(l.zipIdx k).map (·.2)=List.range' k l.length
 | [],k=>rfl
 | x::l,k=>by simp[zipIdx_snd l (k+1),List.range'_succ]
theorem args_perm (row:List Int):(argsF row).Perm (row.zipIdx 0):=List.mergeSort_perm _ _
theorem args_lt {row:List Int}(h:row.length<64):(argsF row).Pairwise fun a b=>rnk a<rnk b:=by
 have h1:(argsF row).Pairwise fun a b=>decide (rnk a≤rnk b)=true:=List.pairwise_mergeSort (le:=fun a b:Int×Nat=>decide (rnk a≤rnk b)) (fun a b c=>by simp only[decide_eq_true_eq];lia) (fun a b=>by simp only[Bool.or_eq_true,decide_eq_true_eq];lia) _
 have h2:((argsF row).map (·.2)).Nodup:=by
  refine(((args_perm row).map (·.2)).nodup_iff).mpr ?_
  rw[zipIdx_snd];exact List.nodup_range'
 have h3:(argsF row).Pairwise fun a b=>a.2≠b.2:=List.pairwise_map.mp h2
 have h4:∀p∈argsF row,p.2<64:=fun p hp=>by
  have hm:=(args_perm row).mem_iff.mp hp
  have hm2:p.2∈(row.zipIdx 0).map (·.2):=List.mem_map.mpr ⟨p,hm,rfl⟩
  rw[zipIdx_snd] at hm2
  have:=List.mem_range'_1.mp hm2
  lia
 refine(h1.and h3).imp_of_mem fun {a b} ha hb hZ=>?_
 obtain⟨x,y⟩:=hZ
 have:=h4 a ha
 have:=h4 b hb
 have hx:=of_decide_eq_true x
 unfold rnk at hx ⊢
 lia
theorem line_perm (row:List Int):(lineF row).Perm (List.range row.length):=by
 have:=(args_perm row).map (·.2)
 rw[zipIdx_snd,← List.range_eq_range'] at this
 exact this
theorem rep_mul:∀n:Nat,(List.replicate n (#[46]:Array Nat)).foldl (·++·) #[]=(rep n).toArray:=by
 have:∀(n:Nat) (a:Array Nat),(List.replicate n (#[46]:Array Nat)).foldl (·++·) a=a++(rep n).toArray:=by
  intro n
  induction n with
  | zero=>intro a;simp[rep]
  | succ n ih=>
   intro a
   rw[List.replicate_succ,List.foldl_cons,ih]
   apply Array.toList_inj.mp
   simp[rep,List.replicate_succ]
 intro n
 rw[this];simp
end
section
section
variable {C:Cx}{n:Nat}{sc csc:Scope}{Γ Γc:Gm}{e:Expr}{cm tup:Bool}
theorem it_zipM (G:Gl C) {p pos:Pos}{α β:Type}{f:α→D}{g:β→D}{xs:List α}{ys:List β}{e e':Expr}(h:Ex C n sc Γ e (.list (xs.map f))) (h':Ex C n sc Γ e' (.list (ys.map g))) (hx:autoParam (isBuiltinName sc "zip"=true) kr) (hs:autoParam (notStar e=true) rf) (hs':autoParam (notStar e'=true) rf) :
  It C n sc Γ cm (.Call (.Name "zip" p) [e,e'] [] pos) true ((xs.zip ys).map fun p=>[f p.1,g p.2]):=by
 have:=it_zip (cm:=cm) (p:=p) (pos:=pos) h h' PyProof.Rows.Boot.zip (G.none (by kernel_rfl)) hx hs hs'
 have e1:List.zipWith (fun a b=>[a,b]) (xs.map f) (ys.map g)=(xs.zip ys).map fun p=>[f p.1,g p.2]:=by
  rw[List.zipWith_map,List.zip,List.map_zipWith]
 rwa [e1] at this
theorem it_nats {l:List Nat}(h:Ex C n sc Γ e (nD l)):It C n sc Γ cm e false (l.map fun k=>[D.int (k:Nat)]):=It.map2 (it_list h)
theorem it_ints {l:List Int}(h:Ex C n sc Γ e (zD l)):It C n sc Γ cm e false (l.map fun k=>[D.int k]):=It.map2 (it_list h)
theorem it_of {α:Type}{f:α→D}{l:List α}(h:Ex C n sc Γ e (.list (l.map f))):It C n sc Γ cm e false (l.map fun k=>[f k]):=It.map2 (it_list h)
theorem fall {β:Type}{l:List β}{α:Type}{f:β→α}:(l.filter fun J=>true).map f=l.map f:=by rw[List.filter_eq_self.mpr fun J J=>rfl]
theorem ex_lcT {elt tgt iter:Expr}{pos:Pos}{β:Type}{xs:List β}{enc:β→List D}{Γ':β→Gm}{f:β→D}{ds:List D}(hkeep:Keep csc Γ Γc)
  (it:It C n sc Γ true iter tup (xs.map enc)) (bind:∀x∈xs,BindT csc tgt tup (enc x) Γc (Γ' x)) (he:∀x∈xs,Ex C n (rel sc csc) (Γ' x) elt (f x))
  (hz:xs.length≤4096) (hds:xs.map f=ds) (hco:autoParam (compOk sc csc=true) kr) (hset:autoParam (∀env x,foldedSetIterable iter env x=pure x) i2) :
  Ex C n sc Γ (.ListComp elt [⟨tgt,iter,[],0⟩] csc pos) (.list ds):=by
 subst hds
 exact Ex.eq (ex_of_nw (lc1 (ok:=fun J=>true) hkeep it bind (fun J J=>rfl) (fun x hx J=>he x hx) hz hco hset)) (congrArg D.list fall)
theorem nw_lcT {elt tgt iter:Expr}{pos:Pos}{β:Type}{xs:List β}{enc:β→List D}{Γ':β→Gm}{f:β→D}(hkeep:Keep csc Γ Γc)
  (it:It C n sc Γ true iter tup (xs.map enc)) (bind:∀x∈xs,BindT csc tgt tup (enc x) Γc (Γ' x)) (he:∀x∈xs,Ex C n (rel sc csc) (Γ' x) elt (f x))
  (hz:xs.length≤4096) (hco:autoParam (compOk sc csc=true) kr) (hset:autoParam (∀env x,foldedSetIterable iter env x=pure x) i2) :
  Nw C n sc Γ (.ListComp elt [⟨tgt,iter,[],0⟩] csc pos) (XL C (xs.map f)):=by
 have:=lc1 (ifs:=[]) (elt:=elt) (f:=f) (pos:=pos) (ok:=fun J=>true) hkeep it bind (fun J J=>rfl) (fun x hx J=>he x hx) hz hco hset
 rwa [fall] at this
theorem cm_lcT {elt tgt iter:Expr}{pos:Pos}{β:Type}{xs:List β}{enc:β→List D}{Γ':β→Gm}{f:β→D}(hkeep:Keep csc Γ Γc)
  (it:It C n sc Γ true iter tup (xs.map enc)) (bind:∀x∈xs,BindT csc tgt tup (enc x) Γc (Γ' x)) (he:∀x∈xs,Ex C n (rel sc csc) (Γ' x) elt (f x))
  (hz:xs.length≤4096) (hco:autoParam (compOk sc csc=true) kr) (hset:autoParam (∀env x,foldedSetIterable iter env x=pure x) i2) :
  Cm C n sc Γ (.ListComp elt [⟨tgt,iter,[],0⟩] csc pos) (XL C (xs.map f)):=by
 have:=lm1 (ifs:=[]) (elt:=elt) (f:=f) (pos:=pos) (ok:=fun J=>true) hkeep it bind (fun J J=>rfl) (fun x hx J=>he x hx) hz hco hset
 rwa [fall] at this
theorem ex_range8 (G:Gl C) {p1 p2 q1 q2 q3:Pos}{k:Nat}(h1:isBuiltinName sc "list"=true) (h2:isBuiltinName sc "range"=true):Ex C n sc Γ (.Call (.Name "list" p1) [.Call (.Name "range" p2) [.Constant (.int 8) k q1] [] q2] [] q3) (nD (List.range 8)):=
 ex_builtin (f:=.type "list") PyProof.Rows.Boot.list (G.none (by kernel_rfl)) (fun J e=>nomatch e) (.cons (ex_builtin (f:=.type "range") PyProof.Rows.Boot.range (G.none (by kernel_rfl)) (fun J e=>nomatch e) (.cons xi .nil rfl) (c_range (k:=8)) h2) .nil rfl) (c_list_range (k:=8) (by decide)) h1
theorem law_2 (G:Gl C) {acts:List Act}{worth cells:List Int}{total:Int}{o:Out}{m:Nat}(ha:acts.length=8) (hw:worth.length=8) (hm:m≤n) (hp:(pF acts).length=8) (hpl:∀l∈pF acts,l.length≤8∧∀k∈l,k<8)
  (hR:Fn C m "_law_run" [actsD acts,nD (List.range 8),zD worth,.bool false] (runF acts (List.range 8) worth false).d)
  (hP:Fn C m "_law_pasts" [actsD acts] (natsLD (pF acts)))
  (kk:Run C n (fnT 28).scope [("rows",.imm (.list (((pF acts).map (vcF acts)).map fun r=>rowsD r.inc))),("times",.imm (.list (((pF acts).map (vcF acts)).map rowD))),("pasts",.imm (natsLD (pF acts))),
   ("books",.imm (.list ((runF acts (List.range 8) worth false).books.map Book.d))),("letters",.imm (.dictI (lettersK (runF acts (List.range 8) worth false).letters) (lettersV (runF acts (List.range 8) worth false).letters))),
   ("worth",.imm (zD worth)),("acts",.imm (actsD acts)),("total",.imm (.int total)),("cells",.imm (zD cells))] ((fnT 28).body.drop 9) o) :
  Run C n (fnT 28).scope [("worth",.imm (zD worth)),("acts",.imm (actsD acts)),("total",.imm (.int total)),("cells",.imm (zD cells))] ((fnT 28).body.drop 5) o:=by
 generalize hst:runF acts (List.range 8) worth false=st at *
 refine rS (st_tuple (xs:=["letters","books"]) (ds:=[.dictI (lettersK st.letters) (lettersV st.letters),.list (st.books.map Book.d)]) (ex_call (.cons (xv (by walk_at "m")) (.cons (ex_range8 G (by kernel_rfl) (by kernel_rfl)) (.cons (xv (by walk_at "m")) (.cons ex_bool .nil rfl) rfl) rfl) rfl) hR hm) (by repeat constructor) rfl (List.Sublist.refl _) (by kernel_rfl) (by decide +kernel) (by intro _ _;rfl) (by intro _;rfl)) ?_
 dsimp only[bindsG]
 refine rS (sA (ex_call (.cons (xv (by walk_at "m")) .nil rfl) hP hm) (Drop.same rfl)) ?_
 generalize hpp:pF acts=pasts at *
 refine run_cmc (lm1 (xs:=pasts) (enc:=fun l=>[nD l]) (ok:=fun J=>true) (f:=fun l=>rowD (vcF acts l)) (Keep.same rfl) (it_of (xv (by walk_at "m"))) (fun l hl=>.name (by decide +kernel) (by kernel_rfl)) (fun J J=>rfl) (fun l hl J=>?_) (Nat.le_trans (Nat.le_of_eq hp) (by decide))) (ds':=(pasts.map (vcF acts)).map rowD) (by rw[fall,List.map_map];rfl) (Drop.same rfl) ?_
 ·refine ex_lcT (ds:=(vcF acts l).l.map fun k=>D.int (k:Nat)) (xs:=List.range 3) (enc:=fun i=>[D.int (i:Nat)]) (f:=fun i=>.int (cntF acts l (i:Nat):Nat)) (Keep.same rfl) (it_rangeN G (k:=3) xi (by decide)) (fun i hi=>.name (by decide +kernel) (by kernel_rfl)) (fun i hi=>?_) (by decide) rfl
  obtain⟨h1,h2⟩:=hpl l hl
  refine Ex.eq (ex_len G (ex_of_nw (lc1 (xs:=l) (enc:=fun k=>[D.int (k:Nat)]) (ok:=fun k=>decide (hOf acts k=(i:Nat))) (f:=fun k=>.int (k:Nat)) (Keep.same rfl) (it_nats (xv (by walk_at "m"))) (fun k hk=>.name (by decide +kernel) (by kernel_rfl)) (fun k hk=>?_) (fun k hk J=>(xv (by walk_at "m"))) (Nat.le_trans h1 (by decide)))) ?_) ?_
  ·have hk8:=h2 k hk
   have e1:hOf acts k=(acts[k]).hand:=by unfold hOf;rw[List.getElem?_eq_getElem (Nat.lt_of_lt_of_eq hk8 ha.symm)];rfl
   exact Tr.eq (tC (xs1 (Ex.h (xs1 (Ex.h (xv (by walk_at "m"))) (xv (by walk_at "m")) (iL (d:=(acts[k]).d) (Int.natCast_nonneg _) (Mine.c62 (Nat.le_of_lt (Nat.lt_of_lt_of_le hk8 (by decide)))) (act_at (Nat.lt_of_lt_of_eq hk8 ha.symm))))) xi (idx_tuple (d:=.int (acts[k]).hand) (by decide) (by decide) rfl)) (xv (by walk_at "m")) o_eq_int) (by rw[e1];exact Bool.eq_iff_iff.mpr (by simp))
  ·have:=List.length_filter_le (fun k=>decide (hOf acts k=(i:Nat))) l
   rw[List.length_map];exact Nat.le_trans this (Nat.le_trans h1 (by decide))
  ·rw[List.length_map];rfl
 have hvl:(pasts.map (vcF acts)).length=8:=by rw[List.length_map];exact hp
 have hv:∀r∈pasts.map (vcF acts),∀k∈r.l,k≤8:=fun r hr k hk=>by
  obtain⟨l,hl,rfl⟩:=List.mem_map.mp hr
  obtain⟨h1,h2⟩:=hpl l hl
  have hc:∀h,cntF acts l h≤8:=fun h=>Nat.le_trans (List.length_filter_le _ _) h1
  simp only[T3.l,vcF,List.mem_cons,List.not_mem_nil,or_false] at hk
  rcases hk with rfl | rfl | rfl <;> exact hc _
 generalize pasts.map (vcF acts)=vs at hvl hv kk
 refine run_nwc (nw_lcT (xs:=vs) (enc:=fun r=>[rowD r]) (f:=fun r=>rowsD r.inc) (Keep.same rfl) (it_of (xv (by walk_at "m"))) (fun r hr=>.name (by decide +kernel) (by kernel_rfl)) (fun r hr=>?_) (Nat.le_trans (Nat.le_of_eq hvl) (by decide))) rfl (Drop.same rfl) ?_
 ·refine ex_lcT (xs:=r.l) (enc:=fun k=>[D.int (k:Nat)]) (f:=fun k=>.str (dotS (k+1))) (Keep.same rfl) (it_nats (xv (by walk_at "m"))) (fun k hk=>.name (by decide +kernel) (by kernel_rfl)) (fun k hk=>?_) (show 3≤4096 by decide) rfl
  have h8:=hv r hr k hk
  refine Ex.eq (xb ex_dot (xb (xv (by walk_at "m")) xi o_add_int) (o_mul_str (n:=(k:Int)+1) (by decide) (by lia) (by lia) ?_)) ?_
  ·rw[dotS_len];lia
  ·rw[show((k:Int)+1).toNat=k+1 by lia]
   exact congrArg D.str (congrArg Str.mk (rep_mul (k+1)))
 exact kk
end
end
section
theorem cmpF_mem {α:Type}{lt:α→α→Bool}{l r:Nat→α}(ks:List (Nat×Int)):cmpF lt l r ks=0∨∃p∈ks,cmpF lt l r ks=p.2∨cmpF lt l r ks=-p.2:=by
 induction ks with
 | nil=>exact .inl rfl
 | cons p ks ih=>
  have e:cmpF lt l r (p::ks)=(if lt (l p.1) (r p.1)=true then some (-p.2) else if lt (r p.1) (l p.1)=true then some p.2 else cmpO lt l r ks).getD 0:=rfl
  rw[e]
  by_cases h1:lt (l p.1) (r p.1)=true
  ·rw[if_pos h1];exact .inr ⟨p,List.mem_cons_self,.inr rfl⟩
  ·rw[if_neg h1]
   by_cases h2:lt (r p.1) (l p.1)=true
   ·rw[if_pos h2];exact .inr ⟨p,List.mem_cons_self,.inl rfl⟩
   ·rw[if_neg h2];exact ih.imp id fun hZ=>hZ.imp fun q h=>⟨List.mem_cons_of_mem _ h.1,h.2⟩
theorem small_mul {a b:Int}(ha:-1≤a∧a≤1) (hb:-1≤b∧b≤1):IntMulOk a b:=mulOk_of_bits (m:=64) (n:=64) (PySem.intBits_le_64 (by lia) (Int.lt_of_le_of_lt ha.2 (by decide))) (PySem.intBits_le_64 (by lia) (Int.lt_of_le_of_lt hb.2 (by decide))) (by decide)
theorem cmpF_small {α:Type}{lt:α→α→Bool}{l r:Nat→α}{ks:List (Nat×Int)}(h:∀p∈ks,-1≤p.2∧p.2≤1):-1≤cmpF lt l r ks∧cmpF lt l r ks≤1:=by
 rcases cmpF_mem (lt:=lt) (l:=l) (r:=r) ks with e | ⟨p,hp,e | e⟩
 ·omega
 ·have:=h p hp;exact⟨Int.le_trans this.1 (Int.le_of_eq e.symm),Int.le_trans (Int.le_of_eq e) this.2⟩
 ·have:=h p hp;omega
theorem two {r:Int}(h:0≤r∧r<2):r=0∨r=1:=by lia
theorem pow3:∀i:Nat,i<3→((2:Int)^i=1∨(2:Int)^i=2∨(2:Int)^i=4):=by decide
theorem wayN_small (t:Int) (k:Nat):wayN t k=1∨wayN t k=-1:=by
 unfold wayN
 rcases two (fmod_range ((t.fdiv (2^k)).fdiv 2) (show(0:Int)<2 by decide)) with h | h <;> rw[h]
 ·exact .inl rfl
 ·exact .inr rfl
noncomputable def waysF (t:Int):List Int:=[wayN t 0,wayN t 1,wayN t 2]
noncomputable def ordF (t:Int):List (List Nat×Int):=(colsF (t.fmod 2)).zip (waysF t)
theorem cols_ok (b:Int):(colsF b).length=3∧∀c∈colsF b,c.length=3∧∀i∈c,i<3:=by unfold colsF;split <;> decide
theorem ways_ok {t:Int}:∀w∈waysF t,w=1∨w=-1:=fun w hw=>by
 simp only[waysF,List.mem_cons,List.not_mem_nil,or_false] at hw
 rcases hw with rfl | rfl | rfl <;> exact wayN_small _ _
theorem ord_ok {t:Int}:(ordF t).length=3∧∀p∈ordF t,(p.1.length=3∧∀i∈p.1,i<3)∧(p.2=1∨p.2=-1):=by
 refine⟨by unfold ordF;rw[List.length_zip,(cols_ok _).1];rfl,fun p hp=>⟨(cols_ok _).2 _ (List.of_mem_zip hp).1,ways_ok _ (List.of_mem_zip hp).2⟩⟩
section
variable {C:Cx}{n:Nat}{sc csc:Scope}{Γ Γc:Gm}{e:Expr}{cm tup:Bool}
theorem dots_lt (a b:Nat):Op2 C (compareOp .Lt) (.str (dotS a)) (.str (dotS b)) (.bool (natLt a b)):=by
 have:=o_lt_str (C:=C) (x:=dotS a) (y:=dotS b)
 rwa [dot_lt] at this
theorem dots_gt (a b:Nat):Op2 C (compareOp .Gt) (.str (dotS a)) (.str (dotS b)) (.bool (natLt b a)):=by
 have:=o_gt_str (C:=C) (x:=dotS a) (y:=dotS b)
 rwa [dot_lt] at this
theorem row_at {r:T3}{c:Nat}(h:c<3):([D.str (dotS r.1),.str (dotS r.2.1),.str (dotS r.2.2)]:List D)[c]?=some (.str (dotS (r.at c))):=by
 match c with
 | 0=>rfl
 | 1=>rfl
 | 2=>rfl
 | c+3=>exact absurd h (Nat.not_lt_of_le (Nat.le_add_left 3 c))
theorem law_3 (G:Gl C) (K:Kls C) {ws:List T3}{total:Int}{o:Out}{vT vP vB vL vW vA vC:D}(hws:ws.length=8) (hn:10≤n)
  (kk:Run C n (fnT 28).scope [("lines",.imm (natsLD ((ordF total).map fun p=>lineF (scoresF (sF p.1 p.2 ws))))),("scores",.imm (intsLD ((ordF total).map fun p=>scoresF (sF p.1 p.2 ws)))),("straight",.imm (.list ((ordF total).map fun p=>intsLD (sF p.1 p.2 ws)))),
   ("ways",.imm (zD (waysF total))),("columns",.imm (natsLD (colsF (total.fmod 2)))),
   ("rows",.imm (.list (ws.map rowsD))),("times",.imm vT),("pasts",.imm vP),("books",.imm vB),("letters",.imm vL),("worth",.imm vW),("acts",.imm vA),("total",.imm (.int total)),("cells",.imm vC)] ((fnT 28).body.drop 15) o) :
  Run C n (fnT 28).scope [("rows",.imm (.list (ws.map rowsD))),("times",.imm vT),("pasts",.imm vP),("books",.imm vB),("letters",.imm vL),("worth",.imm vW),("acts",.imm vA),("total",.imm (.int total)),("cells",.imm vC)] ((fnT 28).body.drop 9) o:=by
 have hr2:=fmod_range total (show(0:Int)<2 by decide)
 refine run_cmc (ds':=(colsF (total.fmod 2)).map nD) (cm_lcT (xs:=List.range 3) (enc:=fun i=>[D.int (i:Nat)]) (f:=fun k=>.list [.int (k:Nat),.int (((k:Int)+1+total.fmod 2).fmod 3),.int (((k:Int)+2-total.fmod 2).fmod 3)]) (Keep.same rfl) (it_rangeN G (k:=3) xi (by decide)) (fun i hi=>.name (by decide +kernel) (by kernel_rfl)) (fun i hi=>?_) (show 3≤4096 by decide)) ?_ (Drop.same rfl) ?_
 ·exact ex_list (.cons (xv (by walk_at "m")) (.cons (xb (xb (xb (xv (by walk_at "m")) xi o_add_int) (xb (xv (by walk_at "m")) xi (o_mod_int (by decide))) o_add_int) xi (o_mod_int (by decide))) (.cons (xb (xb (xb (xv (by walk_at "m")) xi o_add_int) (xb (xv (by walk_at "m")) xi (o_mod_int (by decide))) o_sub_int) xi (o_mod_int (by decide))) .nil rfl) rfl) rfl)
 ·rcases two hr2 with h | h <;> (rw[h];rfl)
 refine run_cmc (ds':=(waysF total).map .int) (cm_lcT (xs:=List.range 3) (enc:=fun i=>[D.int (i:Nat)]) (f:=fun k=>.int (wayN total k)) (Keep.same rfl) (it_rangeN G (k:=3) xi (by decide)) (fun i hi=>.name (by decide +kernel) (by kernel_rfl)) (fun i hi=>?_) (show 3≤4096 by decide)) rfl (Drop.same rfl) ?_
 ·have hi3:=List.mem_range.mp hi
  have hpow:(2:Int)^(i:Int).toNat=2^i:=rfl
  have hp3:=pow3 i hi3
  have hb2:=fmod_range ((total.fdiv (2^i)).fdiv 2) (show(0:Int)<2 by decide)
  refine xb xi (xb (xb (xb (xb (xv (by walk_at "m")) (Ex.eq (d':=.int (2^i)) (xb xi (xv (by walk_at "m")) (o_pow_int (Int.natCast_nonneg _) ?_)) rfl) (o_fdiv_int (by lia) (by lia))) xi (o_fdiv_int (by decide) (by decide))) xi (o_mod_int (by decide))) xi (o_mul_int (mulOk_of_bits (m:=64) (n:=64) (PySem.intBits_le_64 (by lia) (Int.lt_of_lt_of_le hb2.2 (by decide))) (PySem.intBits_le_64 (by decide) (by decide)) (by decide)))) o_sub_int
  show((2:Nat):Int)*(i:Int)≤2^27
  lia
 have hoz:(ordF total)=(colsF (total.fmod 2)).zip (waysF total):=rfl
 have hok:=ord_ok (t:=total)
 refine run_cmc (ds':=(ordF total).map fun p=>.cmp (keysD (mk p.1 p.2))) (cm_lcT (xs:=ordF total) (enc:=fun p=>[nD p.1,.int p.2]) (f:=fun p=>.cmp (keysD (mk p.1 p.2))) (Keep.same rfl) (by rw[hoz];exact it_zipM G (xv (by walk_at "m")) (xv (by walk_at "m"))) (fun p hp=>bt2 (by decide +kernel) (by kernel_rfl) (by kernel_rfl)) (fun p hp=>?_) (Nat.le_trans (Nat.le_of_eq hok.1) (by decide))) rfl (Drop.same rfl) ?_
 ·refine ex_new (m:=0) K (ex_lcT (xs:=p.1) (enc:=fun k=>[D.int (k:Nat)]) (f:=fun k=>.tuple [.int (k:Nat),.int p.2]) (Keep.same rfl) (it_nats (xv (by walk_at "m"))) (fun k hk=>.name (by decide +kernel) (by kernel_rfl)) (fun k hk=>ex_tuple (.cons (xv (by walk_at "m")) (.cons (xv (by walk_at "m")) .nil rfl) rfl)) (by have:=(hok.2 p hp).1.1;exact Nat.le_trans (Nat.le_of_eq this) (by decide)) (by unfold mk;rw[List.map_map,List.map_map];rfl)) (Nat.le_trans (Nat.le_add_left _ _) hn)
 have hzz:(ordF total).zip (waysF total)=(ordF total).map fun p=>(p,p.2):=by
  rw[hoz]
  have hlen:=(cols_ok (total.fmod 2)).1
  match hc:colsF (total.fmod 2),hlen with
  | [a,b,c],_=>rfl
 refine run_nwc (ds':=(ordF total).map fun p=>intsLD (sF p.1 p.2 ws)) (nw_lcT (xs:=(ordF total).zip (waysF total)) (enc:=fun q=>[.cmp (keysD (mk q.1.1 q.1.2)),.int q.2]) (f:=fun q=>intsLD (sF q.1.1 q.1.2 ws)) (Keep.same rfl) (it_zipM G (f:=fun p:List Nat×Int=>.cmp (keysD (mk p.1 p.2))) (g:=D.int) (xv (by walk_at "m")) (xv (by walk_at "m"))) (fun p hp=>bt2 (by decide +kernel) (by kernel_rfl) (by kernel_rfl)) (fun q hq=>?_) (by rw[hzz,List.length_map];exact Nat.le_trans (Nat.le_of_eq hok.1) (by decide))) (by rw[hzz,List.map_map];rfl) (Drop.same rfl) ?_
 ·obtain⟨p,hp,rfl⟩:∃p∈ordF total,q=(p,p.2):=by
   rw[hzz] at hq
   obtain⟨p,hp,rfl⟩:=List.mem_map.mp hq
   exact⟨p,hp,rfl⟩
  obtain⟨⟨h1,h2⟩,h3⟩:=hok.2 p hp
  have hk:∀q∈mk p.1 p.2,q.1<3∧-1≤q.2∧q.2≤1:=fun q hq=>by
   obtain⟨i,hi,rfl⟩:=List.mem_map.mp hq
   exact⟨h2 i hi,by dsimp only;lia,by dsimp only;lia⟩
  refine ex_lcT (xs:=ws) (enc:=fun r=>[rowsD r]) (f:=fun x=>zD (ws.map fun y=>cmpF natLt x.at y.at (mk p.1 p.2)*p.2)) (Keep.same rfl) (it_of (xv (by walk_at "m"))) (fun r hr=>.name (by decide +kernel) (by kernel_rfl)) (fun x hx=>?_) (Nat.le_trans (Nat.le_of_eq hws) (by decide)) (by unfold sF;rw[List.map_map];rfl)
  refine ex_lcT (xs:=ws) (enc:=fun r=>[rowsD r]) (f:=fun y=>.int (cmpF natLt x.at y.at (mk p.1 p.2)*p.2)) (Keep.same rfl) (it_of (xv (by walk_at "m"))) (fun r hr=>.name (by decide +kernel) (by kernel_rfl)) (fun y hy=>?_) (Nat.le_trans (Nat.le_of_eq hws) (by decide)) (by rw[List.map_map];rfl)
  exact xb (ex_cmpF (k:=1) K (dec:=fun n=>.str (dotS n)) dots_lt dots_gt (l:=x.at) (r:=y.at) (m:=[.str (dotS x.1),.str (dotS x.2.1),.str (dotS x.2.2)]) (m':=[.str (dotS y.1),.str (dotS y.2.1),.str (dotS y.2.2)]) (show 3≤64 by decide) (show 3≤64 by decide) (fun q hq=>row_at (hk q hq).1) (fun q hq=>row_at (hk q hq).1) (xv (by walk_at "m")) (xv (by walk_at "m")) (xv (by walk_at "m")) (Nat.le_trans (Nat.le_add_left _ _) hn)) (xv (by walk_at "m")) (o_mul_int (small_mul (cmpF_small fun q hq=>(hk q hq).2) (by lia)))
 generalize hor:ordF total=od at *
 refine run_cmc (ds':=(od.map fun p=>scoresF (sF p.1 p.2 ws)).map zD) (cm_lcT (xs:=od) (enc:=fun p=>[intsLD (sF p.1 p.2 ws)]) (f:=fun p=>zD (scoresF (sF p.1 p.2 ws))) (Keep.same rfl) (it_of (xv (by walk_at "m"))) (fun r hr=>.name (by decide +kernel) (by kernel_rfl)) (fun p hp=>?_) (Nat.le_trans (Nat.le_of_eq hok.1) (by decide))) (by rw[List.map_map];rfl) (Drop.same rfl) ?_
 ·exact ex_lcT (xs:=sF p.1 p.2 ws) (enc:=fun r=>[zD r]) (f:=fun r=>.int r.sum) (Keep.same rfl) (it_of (xv (by walk_at "m"))) (fun r hr=>.name (by decide +kernel) (by kernel_rfl)) (fun r hr=>ex_sum G (xv (by walk_at "m"))) (by unfold sF;rw[List.length_map];exact Nat.le_trans (Nat.le_of_eq hws) (by decide)) (by unfold scoresF;rw[List.map_map];rfl)
 have hsl:∀p:List Nat×Int,(scoresF (sF p.1 p.2 ws)).length=8:=fun p=>by unfold scoresF sF;rw[List.length_map,List.length_map];exact hws
 refine run_cmc (ds':=(od.map fun p=>lineF (scoresF (sF p.1 p.2 ws))).map nD) (cm_lcT (xs:=od.map fun p=>scoresF (sF p.1 p.2 ws)) (enc:=fun r=>[zD r]) (f:=fun r=>nD (lineF r)) (Keep.same rfl) (it_of (xv (by walk_at "m"))) (fun r hr=>.name (by decide +kernel) (by kernel_rfl)) (fun row hr=>?_) (by rw[List.length_map];exact Nat.le_trans (Nat.le_of_eq hok.1) (by decide))) (by rw[List.map_map,List.map_map];rfl) (Drop.same rfl) ?_
 ·obtain⟨p,hp,rfl⟩:=List.mem_map.mp hr
  have h8:=hsl p
  generalize scoresF (sF p.1 p.2 ws)=row at h8
  have hal:(argsF row).length=8:=by rw[(args_perm row).length_eq,List.length_zipIdx];exact h8
  refine ex_lcT (xs:=argsF row) (enc:=fun q=>[.int q.1,.int (q.2:Nat)]) (f:=fun q=>.int (q.2:Nat)) (Keep.same rfl) ?_ (fun q hq=>bt2 (by decide +kernel) (by kernel_rfl) (by kernel_rfl)) (fun q hq=>(xv (by walk_at "m"))) (Nat.le_trans (Nat.le_of_eq hal) (by decide)) ?_
  ·refine it_tuples (Ex.eq (d':=.list (((argsF row).map fun q=>[D.int q.1,.int (q.2:Nat)]).map .tuple)) (ex_builtin (f:=.builtin "sorted") PyProof.Rows.Boot.sorted (G.none (by kernel_rfl)) (fun J e=>nomatch e) (.cons ?_ .nil rfl) (c_sorted_pairs (args_perm row) (args_lt (Nat.lt_of_le_of_lt (Nat.le_of_eq h8) (by decide))) ?_ ?_) (by kernel_rfl)) (by rw[List.map_map];rfl))
   ·exact ex_lcT (xs:=row.zipIdx 0) (enc:=fun q=>[D.int (q.2:Nat),.int q.1]) (f:=pairD) (Keep.same rfl) (it_enumM G (xv (by walk_at "m"))) (fun q hq=>bt2 (by decide +kernel) (by kernel_rfl) (by kernel_rfl)) (fun q hq=>ex_tuple (.cons (xv (by walk_at "m")) (.cons (xv (by walk_at "m")) .nil rfl) rfl)) (by rw[List.length_zipIdx];exact Nat.le_trans (Nat.le_of_eq h8) (by decide)) rfl
   ·intro q hq
    have:=List.mem_zipIdx hq
    lia
   ·rw[List.length_zipIdx];lia
  ·unfold lineF;rw[List.map_map];rfl
 exact kk.pick (by with_reducible repeat' (first | exact all_nil | refine' all_cons (by walk_at "m") ?_)) (by kernel_rfl)
end
end
section
noncomputable def natAt (l:List Nat) (i:Nat):Nat:=(l[i]?).getD 0
noncomputable def intAt (l:List Int) (i:Nat):Int:=(l[i]?).getD 0
noncomputable def listAt (l:List (List Nat)) (i:Nat):List Nat:=(l[i]?).getD []
noncomputable def colT (total:Int):List Nat:=listAt (colsF (total.fmod 2)) (total.fmod 3).toNat
noncomputable def keysF (total:Int):List (Nat×Int):=[(natAt (colT total) 0,wayN total 1),(natAt (colT total) 1,-wayN total 1),(3,wayN total 2)]
noncomputable def figF (p:T3×Int):List Int:=p.1.l.map (fun k=>((k:Nat):Int))++[p.2]
noncomputable def figsF (vs:List T3) (worth:List Int):List (List Int):=(vs.zip worth).map figF
noncomputable def toldF (ks:List (Nat×Int)) (figs:List (List Int)):List (List Int):=figs.map fun x=>figs.map fun y=>cmpF intLt (intAt x) (intAt y) ks
noncomputable def keyedF (ks:List (Nat×Int)) (figs:List (List Int)):List (List Int):=figs.map fun r=>ks.map fun p=>intAt r p.1*p.2
theorem colT_ok (total:Int):(colT total).length=3∧(∀i∈colT total,i<3)∧(colsF (total.fmod 2))[(total.fmod 3).toNat]?=some (colT total):=by
 have h3:=fmod_range total (show(0:Int)<3 by decide)
 have hc:=cols_ok (total.fmod 2)
 have hlt:(total.fmod 3).toNat<(colsF (total.fmod 2)).length:=by exact Mine.tnl hc.1 h3.1 h3.2
 have e:(colsF (total.fmod 2))[(total.fmod 3).toNat]?=some (colT total):=by
  unfold colT listAt
  rw[List.getElem?_eq_getElem hlt];rfl
 have:=hc.2 _ (List.mem_of_getElem? e)
 exact⟨this.1,this.2,e⟩
theorem natAt_some {l:List Nat}{i:Nat}(h:i<l.length):l[i]?=some (natAt l i):=by unfold natAt;rw[List.getElem?_eq_getElem h];rfl
theorem intAt_some {l:List Int}{i:Nat}(h:i<l.length):l[i]?=some (intAt l i):=by unfold intAt;rw[List.getElem?_eq_getElem h];rfl
theorem listAt_some {l:List (List Nat)}{i:Nat}(h:i<l.length):l[i]?=some (listAt l i):=by unfold listAt;rw[List.getElem?_eq_getElem h];rfl
theorem keys_ok (total:Int):(keysF total).length=3∧∀p∈keysF total,p.1<4∧(p.2=1∨p.2=-1):=by
 obtain⟨h1,h2,_⟩:=colT_ok total
 have n0:=h2 _ (List.mem_of_getElem? (natAt_some (i:=0) (Nat.lt_of_succ_le (Nat.le_of_succ_le (Nat.le_of_succ_le (Nat.le_of_eq h1.symm))))))
 have n1:=h2 _ (List.mem_of_getElem? (natAt_some (i:=1) (Nat.lt_of_succ_le (Nat.le_of_succ_le (Nat.le_of_eq h1.symm)))))
 have w1:=wayN_small total 1
 have w2:=wayN_small total 2
 refine⟨rfl,fun p hp=>?_⟩
 simp only[keysF,List.mem_cons,List.not_mem_nil,or_false] at hp
 rcases hp with rfl | rfl | rfl
 ·exact⟨by dsimp only;exact Nat.lt_succ_of_lt n0,w1⟩
 ·exact⟨by dsimp only;exact Nat.lt_succ_of_lt n1,by dsimp only;lia⟩
 ·exact⟨by dsimp only;decide,w2⟩
section
variable {C:Cx}{n:Nat}{sc csc:Scope}{Γ Γc:Gm}{e:Expr}{cm tup:Bool}
theorem nat_at {l:List Nat}{i:Nat}(h:i<l.length):(l.map fun k=>D.int ((k:Nat):Int))[i]?=some (.int (natAt l i:Nat)):=by rw[List.getElem?_map,natAt_some h];rfl
theorem int_at {l:List Int}{i:Nat}(h:i<l.length):(l.map D.int)[i]?=some (.int (intAt l i)):=by rw[List.getElem?_map,intAt_some h];rfl
theorem list_at {l:List (List Nat)}{i:Nat}(h:i<l.length):(l.map nD)[i]?=some (nD (listAt l i)):=by rw[List.getElem?_map,listAt_some h];rfl
theorem law_4 (G:Gl C) (K:Kls C) {vs:List T3}{worth:List Int}{total:Int}{lns pasts:List (List Nat)}{o:Out}{vR vS vSt vB vL vA vCe:D}(hvs:vs.length=8) (hw:worth.length=8) (hb:∀x∈worth,Builtin.Int.intBits x≤2^20) (hv:∀r∈vs,∀k∈r.l,k≤8)
  (hl:lns.length=3) (hp:pasts.length=8) (hn:10≤n)
  (kk:Run C n (fnT 28).scope [("known",.imm (nD (listAt pasts ((total.fdiv 3).fmod 8).toNat))),("line",.imm (nD (listAt lns (total.fmod 3).toNat))),("keyed",.imm (intsLD (keyedF (keysF total) (figsF vs worth)))),("told",.imm (intsLD (toldF (keysF total) (figsF vs worth)))),
   ("lines",.imm (natsLD lns)),("scores",.imm vS),("straight",.imm vSt),("rows",.imm vR),("pasts",.imm (natsLD pasts)),("books",.imm vB),("letters",.imm vL),("worth",.imm (zD worth)),("acts",.imm vA),("total",.imm (.int total)),("cells",.imm vCe)] ((fnT 28).body.drop 20) o) :
  Run C n (fnT 28).scope [("lines",.imm (natsLD lns)),("scores",.imm vS),("straight",.imm vSt),("ways",.imm (zD (waysF total))),("columns",.imm (natsLD (colsF (total.fmod 2)))),("rows",.imm vR),("times",.imm (.list (vs.map rowD))),
   ("pasts",.imm (natsLD pasts)),("books",.imm vB),("letters",.imm vL),("worth",.imm (zD worth)),("acts",.imm vA),("total",.imm (.int total)),("cells",.imm vCe)] ((fnT 28).body.drop 15) o:=by
 have h3:=fmod_range total (show(0:Int)<3 by decide)
 have h8:=fmod_range (total.fdiv 3) (show(0:Int)<8 by decide)
 obtain⟨c1,c2,c3⟩:=colT_ok total
 have hk:=keys_ok total
 have ec:((colsF (total.fmod 2)).map nD)[(total.fmod 3).toNat]?=some (nD (colT total)):=by rw[List.getElem?_map,c3];rfl
 refine rS (sA (d:=keysD (keysF total)) (Ex.eq (ex_list (.cons (ex_tuple (.cons (xs1 (Ex.h (xs1 (Ex.h (xv (by walk_at "m"))) (xb (xv (by walk_at "m")) xi (o_mod_int (by decide))) (iL (d:=nD (colT total)) (h3.1) (Int.lt_of_lt_of_le h3.2 (by decide)) ec))) xi (iL (by decide) (by decide) (nat_at (i:=0) (Nat.lt_of_succ_le (Nat.le_of_succ_le (Nat.le_of_succ_le (Nat.le_of_eq c1.symm))))))) (.cons (xs1 (Ex.h (xv (by walk_at "m"))) xi (iL (d:=.int (wayN total 1)) (by decide) (by decide) rfl)) .nil rfl) rfl))
  (.cons (ex_tuple (.cons (xs1 (Ex.h (xs1 (Ex.h (xv (by walk_at "m"))) (xb (xv (by walk_at "m")) xi (o_mod_int (by decide))) (iL (d:=nD (colT total)) (h3.1) (Int.lt_of_lt_of_le h3.2 (by decide)) ec))) xi (iL (by decide) (by decide) (nat_at (i:=1) (Nat.lt_of_succ_le (Nat.le_of_succ_le (Nat.le_of_eq c1.symm)))))) (.cons (ex_un (xs1 (Ex.h (xv (by walk_at "m"))) xi (iL (d:=.int (wayN total 1)) (by decide) (by decide) rfl)) o_neg_int) .nil rfl) rfl))
   (.cons (ex_tuple (.cons xi (.cons (xs1 (Ex.h (xv (by walk_at "m"))) xi (iL (d:=.int (wayN total 2)) (by decide) (by decide) rfl)) .nil rfl) rfl)) .nil rfl) rfl) rfl)) rfl) (Drop.same rfl)) ?_
 generalize hks:keysF total=ks at *
 refine rS (st_tuple (xs:=["mixed","figures"]) (ds:=[.cmp (keysD ks),intsLD (figsF vs worth)]) (ex_tuple (.cons (ex_new (m:=0) K (xv (by walk_at "m")) (Nat.le_trans (Nat.le_add_left _ _) hn)) (.cons (ex_lcT (xs:=vs.zip worth) (enc:=fun p=>[rowD p.1,.int p.2]) (f:=fun p=>zD (figF p)) (Keep.same rfl) (it_zipM G (xv (by walk_at "m")) (xv (by walk_at "m"))) (fun p hp=>bt2 (by decide +kernel) (by kernel_rfl) (by kernel_rfl)) (fun p hp=>?_) (by rw[List.length_zip];lia) (by unfold figsF;rw[List.map_map];rfl)) .nil rfl) rfl)) (by repeat constructor) rfl (List.Sublist.refl _) (by kernel_rfl) (by decide +kernel) (swap2 (by kernel_rfl)) (by intro _;rfl)) ?_
 ·exact Ex.eq (xb (xv (by walk_at "m")) (ex_list (.cons (xv (by walk_at "m")) .nil rfl)) (o_add_list (xs:=p.1.l.map fun k=>.int (k:Nat)) (ys:=[.int p.2]) (show 4≤sizeLine by decide))) rfl
 dsimp only[bindsG]
 have hfl:(figsF vs worth).length=8:=by unfold figsF;rw[List.length_map,List.length_zip];lia
 have hfg:∀f∈figsF vs worth,f.length=4∧∀x∈f,Builtin.Int.intBits x≤2^20:=fun f hf=>by
  obtain⟨p,hp,rfl⟩:=List.mem_map.mp hf
  refine⟨rfl,fun x hx=>?_⟩
  unfold figF at hx
  rcases List.mem_append.mp hx with h | h
  ·obtain⟨k,hk',rfl⟩:=List.mem_map.mp h
   have:=hv _ (List.of_mem_zip hp).1 k hk'
   exact Nat.le_trans (PySem.intBits_le_64 (by lia) (by lia)) (by decide)
  ·rw[List.mem_singleton] at h;subst h;exact hb _ (List.of_mem_zip hp).2
 generalize figsF vs worth=figs at *
 refine run_cmc (ds':=(toldF ks figs).map zD) (cm_lcT (xs:=figs) (enc:=fun r=>[zD r]) (f:=fun x=>zD (figs.map fun y=>cmpF intLt (intAt x) (intAt y) ks)) (Keep.same rfl) (it_of (xv (by walk_at "m"))) (fun r hr=>.name (by decide +kernel) (by kernel_rfl)) (fun x hx=>?_) (Nat.le_trans (Nat.le_of_eq hfl) (by decide))) (by unfold toldF;rw[List.map_map];rfl) (Drop.same rfl) ?_
 ·refine ex_lcT (xs:=figs) (enc:=fun r=>[zD r]) (f:=fun y=>.int (cmpF intLt (intAt x) (intAt y) ks)) (Keep.same rfl) (it_of (xv (by walk_at "m"))) (fun r hr=>.name (by decide +kernel) (by kernel_rfl)) (fun y hy=>?_) (Nat.le_trans (Nat.le_of_eq hfl) (by decide)) (by rw[List.map_map];rfl)
  have hx4:=(hfg x hx).1
  have hy4:=(hfg y hy).1
  exact ex_cmpF (k:=1) K (lt:=intLt) (dec:=D.int) (fun a b=>o_lt_int) (fun a b=>o_gt_int) (l:=intAt x) (r:=intAt y) (m:=x.map .int) (m':=y.map .int) (by rw[List.length_map];exact Nat.le_trans (Nat.le_of_eq hx4) (by decide)) (by rw[List.length_map];exact Nat.le_trans (Nat.le_of_eq hy4) (by decide)) (fun q hq=>int_at (by have:=(hk.2 q hq).1;exact Nat.lt_of_lt_of_eq this hx4.symm)) (fun q hq=>int_at (by have:=(hk.2 q hq).1;exact Nat.lt_of_lt_of_eq this hy4.symm)) (xv (by walk_at "m")) (xv (by walk_at "m")) (xv (by walk_at "m")) (Nat.le_trans (Nat.le_add_left _ _) hn)
 refine run_nwc (ds':=(keyedF ks figs).map zD) (nw_lcT (xs:=figs) (enc:=fun r=>[zD r]) (f:=fun r=>zD (ks.map fun p=>intAt r p.1*p.2)) (Keep.same rfl) (it_of (xv (by walk_at "m"))) (fun r hr=>.name (by decide +kernel) (by kernel_rfl)) (fun r hr=>?_) (Nat.le_trans (Nat.le_of_eq hfl) (by decide))) (by unfold keyedF;rw[List.map_map];rfl) (Drop.same rfl) ?_
 ·refine ex_lcT (xs:=ks) (enc:=keyR) (f:=fun p=>.int (intAt r p.1*p.2)) (Keep.same rfl) (it_tuples (xv (by walk_at "m"))) (fun p hp=>bt2 (by decide +kernel) (by kernel_rfl) (by kernel_rfl)) (fun p hp=>?_) (Nat.le_trans (Nat.le_of_eq hk.1) (by decide)) (by rw[List.map_map];rfl)
  obtain⟨r4,rb⟩:=hfg r hr
  obtain⟨p4,pw⟩:=hk.2 p hp
  exact xb (xs1 (Ex.h (xv (by walk_at "m"))) (xv (by walk_at "m")) (iL (k:=(p.1:Nat)) (d:=.int (intAt r p.1)) (Int.natCast_nonneg _) (Mine.c62 (Nat.le_of_lt (Nat.lt_of_lt_of_le p4 (by decide)))) (int_at (by lia)))) (xv (by walk_at "m")) (o_mul_int (b:=p.2) (mulOk_of_bits (rb _ (List.mem_of_getElem? (intAt_some (Nat.lt_of_lt_of_eq p4 r4.symm)))) (n:=64) (PySem.intBits_le_64 (by lia) (by lia)) (by decide)))
 refine rS (st_tuple (xs:=["line","known"]) (ds:=[nD (listAt lns (total.fmod 3).toNat),nD (listAt pasts ((total.fdiv 3).fmod 8).toNat)]) (ex_tuple (.cons (xs1 (Ex.h (xv (by walk_at "m"))) (xb (xv (by walk_at "m")) xi (o_mod_int (by decide))) (iL (h3.1) (Int.lt_of_lt_of_le h3.2 (by decide)) (list_at (Mine.tnl hl h3.1 h3.2)))) (.cons (xs1 (Ex.h (xv (by walk_at "m"))) (xb (xb (xv (by walk_at "m")) xi (o_fdiv_int (by decide) (by decide))) xi (o_mod_int (by decide))) (iL (h8.1) (Int.lt_of_lt_of_le h8.2 (by decide)) (list_at (Mine.tnl hp h8.1 h8.2)))) .nil rfl) rfl)) (by repeat constructor) rfl (List.Sublist.refl _) (by kernel_rfl) (by decide +kernel) (swap2 (by kernel_rfl)) (by intro _;rfl)) ?_
 dsimp only[bindsG]
 exact kk.pick (by with_reducible repeat' (first | exact all_nil | refine' all_cons (by walk_at "m") ?_)) (by kernel_rfl)
end
end
section
noncomputable def line2F (line known:List Nat):List Nat:=(line.filter fun k=>decide (k∈known))++line.filter fun k=>!decide (k∈known)
noncomputable def givesF (cells:List Int):List Nat:=(List.range 8).filter fun k=>decide ((intAt cells k).fmod 3=1)
noncomputable def takenF (acts:List Act):List Nat:=acts.flatMap Act.cause
noncomputable def piecesL:List Str:=[⟨#[]⟩,⟨#[92,41]⟩,⟨#[34,40,34]⟩,⟨#[92,92]⟩,⟨#[92,34]⟩,⟨#[34,92,34,40,34]⟩]
noncomputable def pieceAt (total:Int) (k:Nat):Str:=(piecesL[(((k:Nat):Int)+total).fmod 6 |>.toNat]?).getD ⟨#[]⟩
noncomputable def onwardF (acts:List Act) (lns:List (List Nat)) (gives:List Nat) (total:Int):List Str:=lns.flatMap fun row=>gives.map fun k=>textF acts row k (pieceAt total k)
noncomputable def backF (acts:List Act) (line gives:List Nat) (total:Int):List Str:=gives.map fun k=>textF acts line.reverse k (pieceAt total k)
theorem gives_len (cells:List Int):(givesF cells).length≤8:=Nat.le_trans (List.length_filter_le _ _) (by rw[List.length_range];exact Nat.le_refl _)
theorem gives_lt {cells:List Int}:∀k∈givesF cells,k<8:=fun k hk=>List.mem_range.mp (List.mem_filter.mp hk).1
theorem piece_at (total:Int) (k:Nat):(piecesL.map D.str)[((((k:Nat):Int)+total).fmod 6).toNat]?=some (.str (pieceAt total k))∧(pieceAt total k).length≤5:=by
 have h:=fmod_range (((k:Nat):Int)+total) (show(0:Int)<6 by decide)
 unfold pieceAt
 generalize ((((k:Nat):Int)+total).fmod 6)=i at h
 obtain⟨j,rfl⟩:∃j:Nat,i=j:=⟨i.toNat,by lia⟩
 have hj:j<6:=by lia
 rw[Int.toNat_natCast]
 match j,hj with
 | 0,_=>exact⟨rfl,by decide⟩
 | 1,_=>exact⟨rfl,by decide⟩
 | 2,_=>exact⟨rfl,by decide⟩
 | 3,_=>exact⟨rfl,by decide⟩
 | 4,_=>exact⟨rfl,by decide⟩
 | 5,_=>exact⟨rfl,by decide⟩
inductive StrE:List Expr→List Str→Prop
 | nil:StrE [] []
 | cons {k p x es l}:StrE es l→StrE (.Constant (.str x) k p::es) (x::l)
noncomputable def StrsE (e:Expr) (l:List Str):Prop:=∃(p:Pos) (es:List Expr),e=.List es p∧StrE es l
theorem fn28_21:∃(e:Expr) (q p:Pos) (rest:List Stmt),(fnT 28).body.drop 21=.Assign [.Name "pieces" q] e p::rest∧rest=(fnT 28).body.drop 22∧StrsE e piecesL:=⟨_,_,_,(fnT 28).body.drop 22,rfl,rfl,⟨_,_,rfl,by repeat' constructor⟩⟩
section
variable {C:Cx}{n:Nat}{sc csc:Scope}{Γ Γc:Gm}{e:Expr}{cm tup:Bool}
theorem StrsE.ex {e:Expr}{l:List Str}(h:StrsE e l) (hl:l.length≤64):Ex C n sc Γ e (strsD l):=by
 obtain⟨p,es,rfl,he⟩:=h
 have key:Exs C n sc Γ es (l.map .str):=by
  clear hl
  induction he with
  | nil=>exact .nil
  | cons _ ih=>exact .cons ex_str ih rfl
 exact ex_list key (by rw[List.length_map];exact Nat.le_trans hl (by decide))
theorem law_5 (G:Gl C) {acts:List Act}{worth cells:List Int}{total:Int}{lns:List (List Nat)}{line known:List Nat}{books:List Book}{o:Out}{m:Nat}{vK vTo vS vSt vR vP vL:D}
  (hA:acts.length=8) (hc:cells.length=8) (hca:∀a∈acts,a.cause.length≤8) (hlns:lns.length=3∧∀l∈lns,l.length=8∧∀k∈l,k<8) (hline:line.length=8∧∀k∈line,k<8) (hbk:books.length=3) (hm:m≤n)
  (hR:Fn C m "_law_run" [actsD acts,nD (line2F line known),zD worth,.bool true] (runF acts (line2F line known) worth true).d)
  (hT:∀row k x,(∀j∈row,j<8)→row.length≤8→x.length≤10→Fn C m "_law_text" [actsD acts,nD row,.int (k:Nat),.str x] (.str (textF acts row k x)))
  (hV:Fn C m "_pre_parse_validation" [strsD (onwardF acts lns (givesF cells) total)] (strsD ((onwardF acts lns (givesF cells) total).map validF)))
  (hC:∀b∈books,Fn C m "count_calls" [b.2.2.2.2.d] (.int b.2.2.2.2.2.sum))
  (kk:Run C n (fnT 28).scope [("counts",.imm (zD (books.map fun b=>b.2.2.2.2.2.sum))),("kept",.imm (strsD ((onwardF acts lns (givesF cells) total).map validF))),("shown",.imm (strsD (onwardF acts lns (givesF cells) total))),("back",.imm (strsD (backF acts line (givesF cells) total))),("onward",.imm (strsD (onwardF acts lns (givesF cells) total))),
   ("taken",.imm (nD (takenF acts))),("gives",.imm (nD (givesF cells))),("again",.imm (runF acts (line2F line known) worth true).d),("keyed",.imm vK),("told",.imm vTo),
   ("scores",.imm vS),("straight",.imm vSt),("rows",.imm vR),("pasts",.imm vP),("books",.imm (.list (books.map Book.d))),("letters",.imm vL),("worth",.imm (zD worth)),("acts",.imm (actsD acts))] ((fnT 28).body.drop 28) o) :
  Run C n (fnT 28).scope [("known",.imm (nD known)),("line",.imm (nD line)),("keyed",.imm vK),("told",.imm vTo),
   ("lines",.imm (natsLD lns)),("scores",.imm vS),("straight",.imm vSt),("rows",.imm vR),("pasts",.imm vP),("books",.imm (.list (books.map Book.d))),("letters",.imm vL),("worth",.imm (zD worth)),("acts",.imm (actsD acts)),("total",.imm (.int total)),("cells",.imm (zD cells))] ((fnT 28).body.drop 20) o:=by
 have h64:(64:Nat)≤sizeLine:=by decide
 have hgl:=gives_len cells
 have hg8:=gives_lt (cells:=cells)
 refine rS (sA (d:=(runF acts (line2F line known) worth true).d) (ex_call (.cons (xv (by walk_at "m")) (.cons (Ex.eq (d':=nD (line2F line known)) (xb (ex_of_nw (lc1 (xs:=line) (enc:=fun k=>[D.int (k:Nat)]) (ok:=fun k=>decide (k∈known)) (f:=fun k=>.int (k:Nat)) (Keep.same rfl) (it_nats (xv (by walk_at "m"))) (fun k hk=>.name (by decide +kernel) (by kernel_rfl)) (fun k hk=>?_) (fun k hk J=>(xv (by walk_at "m"))) (Nat.le_trans (Nat.le_of_eq hline.1) (by decide))))
  (ex_of_nw (lc1 (xs:=line) (enc:=fun k=>[D.int (k:Nat)]) (ok:=fun k=>!decide (k∈known)) (f:=fun k=>.int (k:Nat)) (Keep.same rfl) (it_nats (xv (by walk_at "m"))) (fun k hk=>.name (by decide +kernel) (by kernel_rfl)) (fun k hk=>?_) (fun k hk J=>(xv (by walk_at "m"))) (Nat.le_trans (Nat.le_of_eq hline.1) (by decide)))) (o_add_list ?_)) ?_) (.cons (xv (by walk_at "m")) (.cons ex_bool .nil rfl) rfl) rfl) rfl) hR hm) (Drop.same rfl)) ?_
 ·exact Tr.eq (tC (xv (by walk_at "m")) (Ex.eq (xv (by walk_at "m")) natsD_ints) o_in_ints) (decide_eq_decide.mpr mem_nats)
 ·exact Tr.eq (tC (xv (by walk_at "m")) (Ex.eq (xv (by walk_at "m")) natsD_ints) o_notin_ints) (by rw[decide_eq_decide.mpr mem_nats])
 ·have h1:=List.length_filter_le (fun k=>decide (k∈known)) line
  have h2:=List.length_filter_le (fun k=>!decide (k∈known)) line
  rw[List.length_map,List.length_map];lia
 ·unfold line2F nD;rw[List.map_append]
 obtain⟨pe,q,p,rest,p1,p2,p3⟩:=fn28_21
 show Run C n (fnT 28).scope _ ((fnT 28).body.drop 21) o
 rw[p1]
 refine rS (sA (p3.ex (show 6≤64 by decide)) (Drop.same rfl) (fun J J=>by obtain⟨_,_,rfl,_⟩:=p3;rfl)) ?_
 rw[p2]
 refine run_nwc (ds':=(givesF cells).map fun k=>.int (k:Nat)) (lc1 (xs:=List.range 8) (enc:=fun i=>[D.int (i:Nat)]) (ok:=fun k=>decide ((intAt cells k).fmod 3=1)) (f:=fun k=>.int (k:Nat)) (Keep.same rfl) (it_rangeN G (k:=8) xi (by decide)) (fun i hi=>.name (by decide +kernel) (by kernel_rfl)) (fun i hi=>?_) (fun i hi J=>(xv (by walk_at "m"))) (show 8≤4096 by decide)) rfl (Drop.same rfl) ?_
 ·have hi8:=List.mem_range.mp hi
  exact Tr.eq (tC (xb (xs1 (Ex.h (xv (by walk_at "m"))) (xv (by walk_at "m")) (iL (Int.natCast_nonneg _) (Mine.c62 (Nat.le_of_lt (Nat.lt_of_lt_of_le hi8 (by decide)))) (int_at (by lia)))) xi (o_mod_int (by decide))) xi o_eq_int) (Bool.eq_iff_iff.mpr (by simp))
 have htl:(takenF acts).length≤4096:=by
  unfold takenF
  have:=flat_len (f:=Act.cause) (m:=8) hca
  lia
 refine run_nwc (ds':=(takenF acts).map fun k=>.int (k:Nat)) (lc2 (xs:=acts) (enc:=fun a=>[a.d]) (ys:=fun a=>a.cause) (enc2:=fun k=>[D.int (k:Nat)]) (ok:=fun J J=>true) (f:=fun J k=>.int (k:Nat)) (Keep.same rfl) (it_of (xv (by walk_at "m"))) (fun a ha=>.name (by decide +kernel) (by kernel_rfl))
  (fun a ha=>it_nats (xs1 (Ex.h (xv (by walk_at "m"))) xi (idx_tuple (d:=nD a.cause) (by decide) (by decide) rfl))) (fun a ha k hk=>.name (by decide +kernel) (by kernel_rfl)) (fun a ha k hk=>rfl) (fun a ha k hk J=>(xv (by walk_at "m"))) ?_) ?_ (Drop.same rfl) ?_
 ·have e:(acts.flatMap fun a=>(a.cause.filter fun J=>true).map fun k=>D.int (k:Nat)).length=(takenF acts).length:=by
   unfold takenF
   rw[List.length_flatMap,List.length_flatMap]
   congr 2;funext a;rw[fall,List.length_map]
  rw[e];exact htl
 ·unfold takenF
  rw[List.map_flatMap]
  congr 1;funext a;rw[fall]
 generalize hgi:givesF cells=gives at *
 have hon:(onwardF acts lns gives total).length≤24:=by
  unfold onwardF
  refine Nat.le_trans (flat_len (m:=8) fun row J=>by rw[List.length_map];exact hgl) (by lia)
 refine run_cmc (ds':=(onwardF acts lns gives total).map .str) (lm2 (xs:=lns) (enc:=fun r=>[nD r]) (ys:=fun J=>gives) (enc2:=fun k=>[D.int (k:Nat)]) (ok:=fun J J=>true) (f:=fun row k=>.str (textF acts row k (pieceAt total k))) (Keep.same rfl) (it_of (xv (by walk_at "m"))) (fun a ha=>.name (by decide +kernel) (by kernel_rfl))
  (fun a ha=>it_nats (xv (by walk_at "m"))) (fun a ha k hk=>.name (by decide +kernel) (by kernel_rfl)) (fun a ha k hk=>rfl) (fun row hr k hk J=>?_) ?_) ?_ (Drop.same rfl) ?_
 ·obtain⟨r1,r2⟩:=hlns.2 row hr
  obtain⟨q1,q2⟩:=piece_at total k
  have h6:=fmod_range (((k:Nat):Int)+total) (show(0:Int)<6 by decide)
  exact ex_call (.cons (xv (by walk_at "m")) (.cons (xv (by walk_at "m")) (.cons (xv (by walk_at "m")) (.cons (xs1 (Ex.h (xv (by walk_at "m"))) (xb (xb (xv (by walk_at "m")) (xv (by walk_at "m")) o_add_int) xi (o_mod_int (by decide))) (iL (h6.1) (Int.lt_of_lt_of_le h6.2 (by decide)) q1)) .nil rfl) rfl) rfl) rfl) (hT row k _ r2 (Nat.le_of_eq r1) (Nat.le_trans q2 (by decide))) hm
 ·have e:(lns.flatMap fun row=>(gives.filter fun J=>true).map fun k=>D.str (textF acts row k (pieceAt total k))).length=(onwardF acts lns gives total).length:=by
   unfold onwardF
   rw[List.length_flatMap,List.length_flatMap]
   congr 2;funext a;rw[fall,List.length_map,List.length_map]
  rw[e];exact Nat.le_trans hon (by decide)
 ·unfold onwardF
  rw[List.map_flatMap]
  congr 1;funext a;rw[fall,List.map_map];rfl
 refine run_cmc (ds':=(backF acts line gives total).map .str) (cm_lcT (xs:=gives) (enc:=fun k=>[D.int (k:Nat)]) (f:=fun k=>.str (textF acts line.reverse k (pieceAt total k))) (Keep.same rfl) (it_nats (xv (by walk_at "m"))) (fun k hk=>.name (by decide +kernel) (by kernel_rfl)) (fun k hk=>?_) (Nat.le_trans hgl (by decide))) (by unfold backF;rw[List.map_map];rfl) (Drop.same rfl) ?_
 ·obtain⟨q1,q2⟩:=piece_at total k
  have h6:=fmod_range (((k:Nat):Int)+total) (show(0:Int)<6 by decide)
  exact ex_call (.cons (xv (by walk_at "m")) (.cons (Ex.eq (d':=nD line.reverse) (ex_slice (lo:=none) (hi:=none) (st:=some (-1)) (xv (by walk_at "m")) rfl rfl ⟨_,rfl,ex_un xi o_neg_int⟩ (by decide) (by rw[List.length_map];exact Nat.le_trans (Nat.le_of_eq hline.1) (by decide))) (by rw[pickD_rev,← List.map_reverse])) (.cons (xv (by walk_at "m")) (.cons (xs1 (Ex.h (xv (by walk_at "m"))) (xb (xb (xv (by walk_at "m")) (xv (by walk_at "m")) o_add_int) xi (o_mod_int (by decide))) (iL (h6.1) (Int.lt_of_lt_of_le h6.2 (by decide)) q1)) .nil rfl) rfl) rfl) rfl)
   (hT line.reverse k _ (fun j hj=>hline.2 j (List.mem_reverse.mp hj)) (by rw[List.length_reverse];exact Nat.le_of_eq hline.1) (Nat.le_trans q2 (by decide))) hm
 generalize onwardF acts lns gives total=on at *
 refine rS (st_tupleS (xs:=["shown","kept"]) (ds:=[strsD on,strsD (on.map validF)]) (ex_tuple (.cons (Ex.eq (d':=strsD on) (ex_slice (lo:=none) (hi:=none) (st:=none) (xv (by walk_at "m")) rfl rfl rfl (by decide) (by rw[List.length_map];exact Nat.le_trans hon (by decide))) ?_) (.cons (ex_call (.cons (xv (by walk_at "m")) .nil rfl) hV hm) .nil rfl) rfl)) rfl (List.Sublist.refl _) (by kernel_rfl) (by decide +kernel) (swap2 (by kernel_rfl)) (by intro _;rfl)) ?_
 ·have:∀ds:List D,pickD ds none none none=ds:=fun ds=>by
   have:=pick_drop (ds:=ds) (k:=0)
   rw[List.drop_zero] at this
   exact this
  rw[this]
 simp only[bindsG,List.reverse_cons,List.reverse_nil,List.nil_append,List.cons_append]
 refine run_cmc (ds':=(books.map fun b=>b.2.2.2.2.2.sum).map .int) (cm_lcT (xs:=books) (enc:=fun b=>[b.d]) (f:=fun b=>.int b.2.2.2.2.2.sum) (Keep.same rfl) (it_of (xv (by walk_at "m"))) (fun k hk=>.name (by decide +kernel) (by kernel_rfl)) (fun b hb=>?_) (Nat.le_trans (Nat.le_of_eq hbk) (by decide))) (by rw[List.map_map];rfl) (Drop.same rfl) ?_
 ·exact ex_call (.cons (xs1 (Ex.h (xv (by walk_at "m"))) xi (idx_tuple (d:=b.2.2.2.2.d) (by decide) (by decide) rfl)) .nil rfl) (hC b hb) hm
 exact kk.pick (by with_reducible repeat' (first | exact all_nil | refine' all_cons (by walk_at "m") ?_)) (by kernel_rfl)
end
end
section
noncomputable abbrev T3.s (r:T3):List Str:=[dotS r.1,dotS r.2.1,dotS r.2.2]
noncomputable abbrev tickJ (l:List Str):Str:=Txt.join ⟨#[39]⟩ l
theorem ne39 {n:Nat}:∀d∈rep n,d≠39:=fun d hd=>by rw[rep_ne (c:=0) d hd];decide
theorem tickJ_tl (l:List Str):tl (tickJ l)=joinL [39] (l.map tl):=join_list _ _
theorem cut_of {x:Str}{l:List Str}(h:spl [39] 0 2 [] (tl x)=l.map tl):splitMax x ⟨#[39]⟩ 2=l:=by
 apply list_map_inj
 rw[splitMax_list (by decide) (by decide +kernel)]
 exact h
theorem tick_one (a:Nat):tickJ [dotS a]=dotS a:=by
 apply str_ext
 rw[tickJ_tl];simp[joinL]
theorem dec_1 (a:Nat):decD (tickJ [dotS a])=.tuple [.none,.none,.str (dotS a)]:=by
 rw[tick_one]
 unfold decD
 rw[cut_of (l:=[dotS a]) (by show spl [39] 0 2 [] (rep a)=_;rw[spl_rest (rep a) ne39];rfl)]
 rfl
theorem dec_2 (a b:Nat):decD (tickJ [dotS a,dotS b])=.tuple [.none,.none,.str (tickJ [dotS a,dotS b])]:=by
 unfold decD
 rw[cut_of (l:=[dotS a,dotS b]) (by
  rw[tickJ_tl]
  have e:joinL [39] ([dotS a,dotS b].map tl)=rep a++([39]++rep b):=by simp[joinL,tl_dotS]
  rw[e,spl_block (rep a) ne39,List.nil_append,spl_hit,spl_rest (rep b) ne39];rfl)]
 rfl
theorem dec_6 (a b:Nat) (l:List Str) (hl:l≠[]):decD (tickJ (dotS a::dotS b::l))=.list [.str (dotS a),.str (dotS b),.str (tickJ l)]:=by
 unfold decD
 rw[cut_of (l:=[dotS a,dotS b,tickJ l]) (by
  rw[tickJ_tl]
  have e:joinL [39] ((dotS a::dotS b::l).map tl)=rep a++([39]++(rep b++([39]++tl (tickJ l)))):=by
   rw[tickJ_tl]
   cases l with
   | nil=>exact absurd rfl hl
   | cons c l=>simp[joinL,tl_dotS]
  rw[e,spl_block (rep a) ne39,List.nil_append,spl_hit,spl_block (rep b) ne39,List.nil_append,spl_hit,spl_zero];rfl)]
 rfl
theorem tickJ_len:∀(l:List Str) {m:Nat},(∀x∈l,x.length≤m)→(tickJ l).length≤l.length*(m+1):=fun l m h=>by
 have e:(tickJ l).length=(joinL [39] (l.map tl)).length:=by rw[← tickJ_tl];rfl
 rw[e]
 cases l with
 | nil=>simp[joinL]
 | cons x l=>
  have hx:(tl x).length≤m:=h x List.mem_cons_self
  have:∀l:List Str,(∀x∈l,x.length≤m)→(((l.map tl).map fun q=>[39]++q).flatten).length≤l.length*(m+1):=by
   intro l
   induction l with
   | nil=>intro _;simp
   | cons y l ih=>
    intro h
    have hy:(tl y).length≤m:=h y List.mem_cons_self
    have:=ih fun z hz=>h z (List.mem_cons_of_mem _ hz)
    simp only[List.map_cons,List.flatten_cons,List.length_append,List.length_cons,List.length_nil,Nat.succ_mul] at this ⊢
    lia
  have:=this l fun z hz=>h z (List.mem_cons_of_mem _ hz)
  simp only[List.map_cons,joinL,List.length_append,List.length_cons,Nat.succ_mul] at this ⊢
  lia
theorem flat_rows (l:List T3):∀d∈l.map rowsD,Flat 1 d:=fun d hd=>by
 obtain⟨r,_,rfl⟩:=List.mem_map.mp hd
 refine .list fun d hd=>?_
 rcases List.mem_cons.mp hd with rfl | hd
 ·exact .str
 rcases List.mem_cons.mp hd with rfl | hd
 ·exact .str
 rw[List.mem_singleton.mp hd];exact .str
theorem eqOk_three {a b c:D}{m:Nat}(ha:EqOk m a) (hb:EqOk m b) (hc:EqOk m c):∀d∈[a,b,c],EqOk m d:=fun d hd=>by
 rcases List.mem_cons.mp hd with rfl | hd
 ·exact ha
 rcases List.mem_cons.mp hd with rfl | hd
 ·exact hb
 rw[List.mem_singleton.mp hd];exact hc
noncomputable def Ok60 (d:D):Prop:=∃m,m≤60∧EqOk m d
theorem eqOk_map {α:Type}{f:α→D}{l:List α}{m:Nat}(h:∀x∈l,EqOk m (f x)):EqOk (m+1) (.list (l.map f)):=.list fun d hd=>by obtain⟨x,hx,rfl⟩:=List.mem_map.mp hd;exact h x hx
theorem ok_ints (l:List Int):EqOk 1 (zD l):=eqOk_map fun J J=>.int
theorem ok_strs (l:List Str):EqOk 1 (strsD l):=eqOk_map fun J J=>.str
theorem ok_intsL (l:List (List Int)):EqOk 2 (intsLD l):=eqOk_map fun x J=>ok_ints x
section
variable {C:Cx}{n:Nat}{sc csc:Scope}{Γ Γc:Gm}{e:Expr}{cm tup:Bool}
theorem ex_same {l r:Expr}{pos:Pos}{d:D}(h1:Ex C n sc Γ l d) (h2:Ex C n sc Γ r d) (hb:isBox d=true) (h:Ok60 d) (hm:autoParam (behindInMarks .Eq r=false) wu):Ex C n sc Γ (.Compare l [.Eq] [r] pos) (.bool true):=let ⟨_,k,h⟩:=h;ex_cmp h1 h2 (o_eq_same hb h k) hm
theorem ok_le {d:D}{m:Nat}(h:EqOk m d) (hm:m≤60):Ok60 d:=⟨m,hm,h⟩
end
end
section
set_option backward.match.sparseCases false
structure Fin8 where
 ws:List T3
 sc:List (List Int)
 st:List (List (List Int))
 td:List (List Int)
 ky:List (List Int)
 ps:List (List Nat)
 ag:RSt
 ls:List (Nat×T3)
 bks:List Book
 cs:List Int
 on:List Str
 bk:List Str
 gives:List Nat
 taken:List Nat
 acts:List Act
 worth:List Int
noncomputable def cell3 (t:List (List Int)) (e f:Nat):Int:=intAt ((t[e]?).getD []) f
noncomputable abbrev up7:List Int:=[-7,-5,-3,-1,1,3,5,7]
structure Fin8.Ok (x:Fin8):Prop where
 ws:x.ws.length=8∧∀r∈x.ws,T3.ok 64 r
 ps:x.ps.length=8∧∀l∈x.ps,l.length≤8
 st:x.st.length=3∧∀t∈x.st,t.length=8∧∀r∈t,r.length=8
 sc:x.sc.length=3∧∀r∈x.sc,up7.Perm r
 ls:x.ls=(x.ws.zipIdx 0).map fun p=>(p.2,p.1)
 mx:∀e f,e<8→f<8→∃M,M∈x.st.map (cell3 · e f)∧(∀a∈x.st.map (cell3 · e f),a≤M)∧(decide (M≤0)=decide (e∈listAt x.ps f))
 td:x.td=x.ky.map fun a=>x.ky.map fun b=>b2i (lexLt b a)-b2i (lexLt a b)
 ky:x.ky.length=8
 cs:x.cs=x.bks.map fun b=>b.2.2.2.1
 bks:x.bks.length=3
 agL:Within (lettersK x.ag.letters) (lettersV x.ag.letters) (lettersK x.ls) (lettersV x.ls)∧x.ag.letters.length=x.ls.length
 agB:x.ag.books.length=x.bks.length∧∀(i:Nat) b c,x.ag.books[i]?=some b→x.bks[i]?=some c→BookSame b c
 on:x.on.length≤24∧x.gives.length≤8∧x.on.length=(x.gives++x.gives++x.gives).length
 kept:x.on.map validF=(x.on.zip (x.gives++x.gives++x.gives)).map fun p=>if p.2∈x.taken then p.1 else noMail
 back:x.bk.length≤8∧x.bk.map validF=List.replicate x.bk.length noMail
 books:x.bks.map Book.d=(List.range 3).map fun h=>bookD x.acts x.ps x.worth (h:Nat)
section
variable {C:Cx}{n:Nat}{sc csc:Scope}{Γ Γc:Gm}{e:Expr}{cm tup:Bool}
noncomputable abbrev gmEnd (x:Fin8):Gm:=[("counts",.imm (zD x.cs)),("kept",.imm (strsD (x.on.map validF))),("shown",.imm (strsD x.on)),("back",.imm (strsD x.bk)),("onward",.imm (strsD x.on)),
   ("taken",.imm (nD x.taken)),("gives",.imm (nD x.gives)),("again",.imm x.ag.d),("keyed",.imm (intsLD x.ky)),("told",.imm (intsLD x.td)),
   ("scores",.imm (intsLD x.sc)),("straight",.imm (.list (x.st.map intsLD))),("rows",.imm (.list (x.ws.map rowsD))),("pasts",.imm (natsLD x.ps)),("books",.imm (.list (x.bks.map Book.d))),("letters",.imm (.dictI (lettersK x.ls) (lettersV x.ls))),("worth",.imm (zD x.worth)),("acts",.imm (actsD x.acts))]
noncomputable def retE (k:Nat):List Expr:=match (fnT 28).body.drop 28 with
 | .Return (some (.BoolOp _ es _)) _::_=>es.drop k
 | _=>[]
noncomputable def headE:List Expr→Expr
 | e::_=>e
 | []=>.Constant .none 0 ⟨0,0,0,0⟩
theorem ex_dcT {kx vx tgt iter:Expr}{pos:Pos}{β:Type}{xs:List β}{enc:β→List D}{Γ':β→Gm}{f:β→D}{kf:β→Int}{ks:List Int}{ds:List D}(hkeep:Keep csc Γ Γc)
  (it:It C n sc Γ true iter tup (xs.map enc)) (bind:∀x∈xs,BindT csc tgt tup (enc x) Γc (Γ' x)) (hk:∀x∈xs,Ex C n (rel sc csc) (Γ' x) kx (.int (kf x))) (he:∀x∈xs,Ex C n (rel sc csc) (Γ' x) vx (f x))
  (hz:xs.length≤4096) (hn:(xs.map kf).Nodup) (h1:xs.map kf=ks) (h2:xs.map f=ds) (hco:autoParam (compOk sc csc=true) kr) (hset:autoParam (∀env x,foldedSetIterable iter env x=pure x) i2) :
  Ex C n sc Γ (.DictComp kx vx [⟨tgt,iter,[],0⟩] csc pos) (.dictI ks ds):=by
 subst h1 h2
 have key:=dict_rows kf f xs ([],[]) rfl (by simpa using hn)
 have r:=nw_dictcomp (pos:=pos) (ifs:=[]) (ok:=fun J=>true) (kf:=kf) ⟨it,bind,fun J J=>rfl,fun x hx J=>he x hx⟩ (fun x hx J=>hk x hx) hco hkeep hz hset
 rw[key] at r
 exact ex_of_nwK (k:=.i _ _) (by simpa using r)
theorem fin_1 (G:Gl C) {x:Fin8}(h:x.Ok):Ex C n (fnT 28).scope (gmEnd x) (headE (retE 0)) (.bool true):=by
 have hw:=h.ws.1
 refine ex_same (xv (by walk_at "m")) (ex_dcT (xs:=x.ws.zipIdx 0) (enc:=fun p=>[D.int (p.2:Nat),rowsD p.1]) (f:=fun p=>rowsD p.1) (kf:=fun p=>((p.2:Nat):Int)) (Keep.same rfl) (it_enumM G (xv (by walk_at "m"))) (fun p hp=>bt2 (by decide +kernel) (by kernel_rfl) (by kernel_rfl)) (fun p hp=>(xv (by walk_at "m"))) (fun p hp=>(xv (by walk_at "m"))) (by rw[List.length_zipIdx];exact Nat.le_trans (Nat.le_of_eq hw) (by decide)) ?_ ?_ ?_) rfl ?_
 ·rw[show(x.ws.zipIdx 0).map (fun p=>((p.2:Nat):Int))=((x.ws.zipIdx 0).map (·.2)).map (fun k:Nat=>(k:Int)) by rw[List.map_map];rfl,zipIdx_snd]
  have hn:(List.range' 0 x.ws.length).Nodup:=List.nodup_range'
  exact List.pairwise_map.mpr (hn.imp fun {a b} hab hh=>hab (by lia))
 ·unfold lettersK;rw[h.ls,List.map_map];rfl
 ·unfold lettersV;rw[h.ls,List.map_map];rfl
 ·have:=flat_rows (x.ls.map (·.2))
  rw[List.map_map] at this
  exact⟨2,by decide,.dictI this⟩
theorem fin_2s:∃(l e:Expr) (es:List Expr) (p1 p2 p3 p4:Pos) (k:Nat),headE (retE 1)=.Compare l [.Eq] [.BinOp (.List [e] p1) .Mult (.Constant (.int 3) k p2) p3] p4∧headE (retE 1)=.Compare l [.Eq] [.BinOp (.List [e] p1) .Mult (.Constant (.int 3) k p2) p3] p4∧Ints8E e up7:=⟨_,_,[],_,_,_,_,_,rfl,rfl,⟨_,_,rfl,by repeat' constructor⟩⟩
noncomputable def lhsE:Expr→Expr
 | .Compare l _ _ _=>l
 | e=>e
theorem fin_2 (G:Gl C) {x:Fin8}(h:x.Ok):Ex C n (fnT 28).scope (gmEnd x) (headE (retE 1)) (.bool true):=by
 obtain⟨l,e,es,p1,p2,p3,p4,k,h1,_,h3⟩:=fin_2s
 have hl:l=lhsE (headE (retE 1)):=by rw[h1];rfl
 have hx:=h3.ex (C:=C) (n:=n) (sc:=(fnT 28).scope) (Γ:=gmEnd x) (by decide)
 have hs:notStar e=true:=by obtain⟨_,_,rfl,_⟩:=h3;rfl
 have hL:Ex C n (fnT 28).scope (gmEnd x) l (intsLD (List.replicate 3 up7)):=by
  rw[hl]
  refine ex_lcT (xs:=x.sc) (enc:=fun r=>[zD r]) (f:=fun r=>zD up7) (Keep.same rfl) (it_of (xv (by walk_at "m"))) (fun r hr=>.name (by decide +kernel) (by kernel_rfl)) (fun r hr=>?_) (by have:=h.sc.1;exact Nat.le_trans (Nat.le_of_eq this) (by decide)) (by rw[List.map_const',h.sc.1];rfl)
  have hp:=h.sc.2 r hr
  exact ex_builtin (f:=.builtin "sorted") PyProof.Rows.Boot.sorted (G.none (by kernel_rfl)) (fun J e=>nomatch e) (.cons (xv (by walk_at "m")) .nil rfl) (c_sorted_ints (zs:=up7) hp (by decide) (by rw[← hp.length_eq];decide)) (by kernel_rfl)
 rw[h1]
 refine ex_same hL (Ex.eq (xb (ex_list (.cons hx .nil hs)) xi (o_mul_list (by decide) (by decide) (by decide))) rfl) rfl (ok_le (ok_intsL _) (by decide)) ?_
 rfl
end
end
section
theorem tick_ok {l:List Str}{m:Nat}(h:∀x∈l,x.length≤m) (hm:l.length*m+l.length*1≤4096):JoinOk ⟨#[39]⟩ l=true:=by
 unfold JoinOk
 have h4:(4096:Nat)≤sizeLine:=by decide
 rw[PySem.StrLaws.joinFits (B:=m) h (by show l.length*m+l.length*1≤_;exact Nat.le_trans hm (by decide))]
 rfl
theorem fnil {α:Type}(a:List α):(a.filter fun J=>false)=[]:=List.filter_eq_nil_iff.mpr fun J J h=>nomatch h
section
variable {C:Cx}{n:Nat}{sc csc:Scope}{Γ Γc:Gm}{e:Expr}{cm tup:Bool}
theorem fin_3 (G:Gl C) {x:Fin8}(h:x.Ok):Ex C n (fnT 28).scope (gmEnd x) (headE (retE 2)) (.bool true):=by
 obtain⟨hst,hst2⟩:=h.st
 refine ex_same (d:=.list ((List.range 8).map fun e=>.list (x.ps.map fun one=>.bool (decide (e∈one))))) (ex_lcT (xs:=List.range 8) (enc:=fun i=>[D.int (i:Nat)]) (f:=fun e=>.list (x.ps.map fun one=>.bool (decide (e∈one)))) (Keep.same rfl) (it_rangeN G (k:=8) xi (by decide)) (fun i hi=>.name (by decide +kernel) (by kernel_rfl)) (fun e he=>?_) (show 8≤4096 by decide) rfl)
  (ex_lcT (xs:=List.range 8) (enc:=fun i=>[D.int (i:Nat)]) (f:=fun e=>.list (x.ps.map fun one=>.bool (decide (e∈one)))) (Keep.same rfl) (it_rangeN G (k:=8) xi (by decide)) (fun i hi=>.name (by decide +kernel) (by kernel_rfl)) (fun e he=>?_) (show 8≤4096 by decide) rfl) rfl (ok_le (eqOk_map (m:=1) fun e J=>eqOk_map (m:=0) fun J J=>.bool) (by decide))
 ·have e8:=List.mem_range.mp he
  refine ex_lcT (xs:=List.range 8) (enc:=fun i=>[D.int (i:Nat)]) (f:=fun f=>.bool (decide (e∈listAt x.ps f))) (Keep.same rfl) (it_rangeN G (k:=8) xi (by decide)) (fun i hi=>.name (by decide +kernel) (by kernel_rfl)) (fun f hf=>?_) (show 8≤4096 by decide) ?_
  ·have f8:=List.mem_range.mp hf
   obtain⟨M,m1,m2,m3⟩:=h.mx e f e8 f8
   refine Ex.eq (ex_cmp (ex_builtin (f:=.builtin "max") PyProof.Rows.Boot.max (G.none (by kernel_rfl)) (fun J e=>nomatch e) (.cons (ex_lcT (xs:=x.st) (enc:=fun t=>[intsLD t]) (f:=fun t=>.int (cell3 t e f)) (Keep.same rfl) (it_of (xv (by walk_at "m"))) (fun t ht=>.name (by decide +kernel) (by kernel_rfl)) (fun t ht=>?_) (Nat.le_trans (Nat.le_of_eq hst) (by decide)) (by rw[show(fun t=>D.int (cell3 t e f))=D.int∘(cell3 · e f) from rfl,← List.map_map])) .nil rfl) (c_max m1 m2) (by kernel_rfl)) xi o_le_int) (congrArg D.bool m3)
   obtain⟨t1,t2⟩:=hst2 t ht
   have e1:(t.map zD)[((e:Nat):Int).toNat]?=some (zD ((t[e]?).getD [])):=by
    rw[Int.toNat_natCast,List.getElem?_map,List.getElem?_eq_getElem (Nat.lt_of_lt_of_eq e8 t1.symm)];rfl
   have e2:((t[e]?).getD []).length=8:=by
    rw[List.getElem?_eq_getElem (Nat.lt_of_lt_of_eq e8 t1.symm)];exact t2 _ (List.getElem_mem _)
   exact xs1 (Ex.h (xs1 (Ex.h (xv (by walk_at "m"))) (xv (by walk_at "m")) (iL (Int.natCast_nonneg _) (Mine.c62 (Nat.le_of_lt (Nat.lt_of_lt_of_le e8 (by decide)))) e1))) (xv (by walk_at "m")) (iL (k:=(f:Nat)) (d:=.int (cell3 t e f)) (Int.natCast_nonneg _) (Mine.c62 (Nat.le_of_lt (Nat.lt_of_lt_of_le f8 (by decide)))) (int_at (by lia)))
  ·have hp:=h.ps.1
   apply List.ext_getElem
   ·simp[hp]
   ·intro i i1 i2
    rw[List.length_map,List.length_range] at i1
    rw[List.getElem_map,List.getElem_map,List.getElem_range]
    unfold listAt
    rw[List.getElem?_eq_getElem (Nat.lt_of_lt_of_eq i1 hp.symm)];rfl
 ·exact ex_lcT (xs:=x.ps) (enc:=fun l=>[nD l]) (f:=fun one=>.bool (decide (e∈one))) (Keep.same rfl) (it_of (xv (by walk_at "m"))) (fun l hl=>.name (by decide +kernel) (by kernel_rfl)) (fun l hl=>Ex.eq (ex_cmp (xv (by walk_at "m")) (Ex.eq (xv (by walk_at "m")) natsD_ints) o_in_ints) (congrArg D.bool (decide_eq_decide.mpr mem_nats))) (by have:=h.ps.1;exact Nat.le_trans (Nat.le_of_eq this) (by decide)) rfl
theorem fin_4 (G:Gl C) {x:Fin8}(h:x.Ok):Ex C n (fnT 28).scope (gmEnd x) (headE (retE 3)) (.bool true):=by
 have hk:=h.ky
 refine ex_same (xv (by walk_at "m")) (ex_lcT (xs:=x.ky) (enc:=fun r=>[zD r]) (f:=fun a=>zD (x.ky.map fun b=>b2i (lexLt b a)-b2i (lexLt a b))) (Keep.same rfl) (it_of (xv (by walk_at "m"))) (fun i hi=>.name (by decide +kernel) (by kernel_rfl)) (fun a ha=>?_) (Nat.le_trans (Nat.le_of_eq hk) (by decide)) (by rw[h.td,List.map_map];rfl)) rfl (ok_le (ok_intsL _) (by decide))
 exact ex_lcT (xs:=x.ky) (enc:=fun r=>[zD r]) (f:=fun b=>.int (b2i (lexLt b a)-b2i (lexLt a b))) (Keep.same rfl) (it_of (xv (by walk_at "m"))) (fun i hi=>.name (by decide +kernel) (by kernel_rfl)) (fun b hb=>xb (ex_cmp (xv (by walk_at "m")) (xv (by walk_at "m")) o_gt_ints) (ex_cmp (xv (by walk_at "m")) (xv (by walk_at "m")) o_lt_ints) o_sub_bool) (Nat.le_trans (Nat.le_of_eq hk) (by decide)) (by rw[List.map_map];rfl)
theorem fin_5 (G:Gl C) {x:Fin8}(h:x.Ok):Ex C n (fnT 28).scope (gmEnd x) (headE (retE 4)) (.bool true):=by
 have hk:=h.ky
 have ht:x.td.length=8:=by rw[h.td,List.length_map];exact hk
 refine ex_same (d:=.list []) (Ex.eq (ex_of_nw (lc2 (xs:=x.td++[x.cs]) (enc:=fun r=>[zD r]) (ys:=fun r=>r) (enc2:=fun i=>[D.int i]) (ok:=fun J J=>false) (f:=fun J i=>.int i) (Keep.same rfl) (it_of (Ex.eq (xb (xv (by walk_at "m")) (ex_list (.cons (xv (by walk_at "m")) .nil rfl)) (o_add_list ?_)) (by rw[List.map_append];rfl))) (fun r hr=>.name (by decide +kernel) (by kernel_rfl))
  (fun r hr=>it_ints (xv (by walk_at "m"))) (fun r hr i hi=>.name (by decide +kernel) (by kernel_rfl)) (fun r hr i hi=>?_) (fun r hr i hi hf=>nomatch hf) ?_)) ?_) (ex_list .nil) rfl (ok_le (m:=1) (.list fun d hd=>nomatch hd) (by decide))
 ·have:(64:Nat)≤sizeLine:=by decide
  rw[List.length_map,ht];exact Nat.le_trans (show 8+1≤64 by decide) this
 ·exact Tr.eq (tr_or (tr_bool (ex_builtin (f:=.builtin "isinstance") PyProof.Rows.Boot.isinstance (G.none (by kernel_rfl)) (fun J e=>nomatch e) (.cons (xv (by walk_at "m")) (.cons (ex_ty (T:="bool") PyProof.Rows.Boot.bool (G.none (by kernel_rfl))) .nil rfl) rfl) c_isinst_bool (by kernel_rfl))) fun J=>Tr.not (tr_bool (ex_builtin (f:=.builtin "isinstance") PyProof.Rows.Boot.isinstance (G.none (by kernel_rfl)) (fun J e=>nomatch e) (.cons (xv (by walk_at "m")) (.cons (ex_ty (T:="int") PyProof.Rows.Boot.int (G.none (by kernel_rfl))) .nil rfl) rfl) c_isinst_int (by kernel_rfl)))) rfl
 ·simp[fnil]
  have:∀l:List (List Int),(l.map fun J=>0).sum=0:=fun l=>by induction l with
   | nil=>rfl
   | cons a l ih=>simpa using ih
  rw[this];exact Nat.zero_le _
 ·refine congrArg D.list ?_;simp[fnil]
end
end
section
section
variable {C:Cx}{n:Nat}{sc csc:Scope}{Γ Γc:Gm}{e:Expr}{cm tup:Bool}
noncomputable abbrev dueF (r:T3):List D:=[.tuple [.none,.none,.str (dotS r.1)],.tuple [.none,.none,.str (tickJ [dotS r.1,dotS r.2.1])],.list [.str (dotS r.1),.str (dotS r.2.1),.str (tickJ [dotS r.2.2,dotS r.1,dotS r.2.1,dotS r.2.2])]]
theorem due_eq (r:T3):([1,2,6]:List Nat).map (fun n=>decD (tickJ ((r.s++r.s).take n)))=dueF r:=by
 show[decD (tickJ [dotS r.1]),decD (tickJ [dotS r.1,dotS r.2.1]),decD (tickJ (dotS r.1::dotS r.2.1::[dotS r.2.2,dotS r.1,dotS r.2.1,dotS r.2.2]))]=_
 rw[dec_1,dec_2,dec_6 _ _ _ (by simp)]
theorem flat_same_len {α β γ:Type}{xs:List α}{f:α→List β}{g:α→List γ}(h:∀x,(f x).length=(g x).length):(xs.flatMap f).length=(xs.flatMap g).length:=by
 rw[List.length_flatMap,List.length_flatMap];congr 2;funext x;exact h x
theorem ex_list1 {pos:Pos}{d:D}(h:Ex C n sc Γ e d) (hs:notStar e=true):Ex C n sc Γ (.List [e] pos) (.list [d]):=ex_list (.cons h .nil hs)
set_option maxHeartbeats 4000000 in
theorem fin_6 (G:Gl C) {m:Nat}{x:Fin8}(h:x.Ok) (hD:∀y:Str,y.length≤4096→Fn C m "decode_rfc2231" [.str y] (decD y)) (hm:m≤n):Ex C n (fnT 28).scope (gmEnd x) (headE (retE 5)) (.bool true):=by
 obtain⟨hw,hok⟩:=h.ws
 have h64:(64:Nat)≤sizeLine:=by decide
 have hs:∀r∈x.ws,∀y∈r.s,y.length≤64:=fun r hr y hy=>by
  obtain⟨⟨_,a⟩,⟨_,b⟩,_,c⟩:=hok r hr
  simp only[List.mem_cons,List.not_mem_nil,or_false] at hy
  rcases hy with rfl | rfl | rfl <;> (rw[dotS_len];assumption)
 have l1:(x.ws.flatMap dueF).length≤4096:=by
  have:=flat_len (f:=dueF) (m:=3) (l:=x.ws) fun r J=>Nat.le_refl _
  lia
 refine ex_same (d:=.list (x.ws.flatMap dueF)) (Ex.eq (ex_of_nw (lc2 (xs:=x.ws) (enc:=fun r=>[rowsD r]) (ys:=fun J=>[1,2,6]) (enc2:=fun k=>[D.int ((k:Nat):Int)]) (ok:=fun J J=>true) (f:=fun r k=>decD (tickJ ((r.s++r.s).take k))) (Keep.same rfl) (it_of (xv (by walk_at "m"))) (fun r hr=>.name (by decide +kernel) (by kernel_rfl))
  (fun r hr=>it_nats (l:=[1,2,6]) (ex_list (.cons xi (.cons xi (.cons xi .nil rfl) rfl) rfl))) (fun r hr k hk=>.name (by decide +kernel) (by kernel_rfl)) (fun r hr k hk=>rfl) (fun r hr k hk J=>?_) ?_)) ?_)
  (Ex.eq (ex_of_nw (lc2 (xs:=x.ws) (enc:=fun r=>[rowsD r]) (ys:=dueF) (enc2:=fun d=>[d]) (ok:=fun J J=>true) (f:=fun J d=>d) (Keep.same rfl) (it_of (xv (by walk_at "m"))) (fun r hr=>.name (by decide +kernel) (by kernel_rfl)) (fun r hr=>it_list ?_) (fun r hr k hk=>.name (by decide +kernel) (by kernel_rfl)) (fun r hr k hk=>rfl) (fun r hr k hk J=>(xv (by walk_at "m"))) ?_)) ?_) rfl ?_
 ·have hl:(r.s++r.s).length=6:=rfl
  have htk:∀y∈(r.s++r.s).take k,y.length≤64:=fun y hy=>by
   rcases List.mem_append.mp (List.mem_of_mem_take hy) with q | q <;> exact hs r hr y q
  have htl:((r.s++r.s).take k).length≤6:=by rw[List.length_take];exact Nat.le_trans (Nat.min_le_right _ _) (Nat.le_of_eq hl)
  refine ex_call (.cons (ex_meth (a:=.str ⟨#[39]⟩) (ds:=[.list (((r.s++r.s).take k).map .str)]) (Ex.h (Ex.eq ex_str (congrArg D.str tick1))) (.cons (Ex.eq (ex_slice (ds:=(r.s++r.s).map .str) (lo:=none) (hi:=some (k:Nat)) (st:=none) (Ex.eq (xb (Ex.eq (d:=rowsD r) (d':=.list (r.s.map .str)) (xv (by walk_at "m")) rfl) xi (o_mul_list (xs:=r.s.map .str) (by decide) (by decide) (show 3*2≤2^24 by decide))) rfl) rfl ⟨_,rfl,(xv (by walk_at "m"))⟩ rfl (by decide) (show 6≤4096 by decide)) ?_) .nil rfl) id_join (m_join (tick_ok htk (by lia)))) .nil rfl) (hD _ ?_) hm
  ·rw[pick_take,List.map_take]
  ·have:=tickJ_len _ htk
   have h2:((r.s++r.s).take k).length*(64+1)≤6*65:=Nat.mul_le_mul htl (Nat.le_refl _)
   exact Nat.le_trans this (Nat.le_trans h2 (by decide))
 ·rw[flat_same_len (g:=dueF) fun r=>by rw[fall,due_eq]];exact l1
 ·refine congrArg D.list ?_
  congr 1;funext r;rw[fall,due_eq]
 ·have hss:=hs r hr
  refine ex_list (.cons ?_ (.cons ?_ (.cons ?_ .nil rfl) rfl) rfl)
  ·exact ex_tuple (.cons ex_none (.cons ex_none (.cons (xs1 (a:=rowsD r) (Ex.h (xv (by walk_at "m"))) xi (iL (d:=.str (dotS r.1)) (by decide) (by decide) rfl)) .nil rfl) rfl) rfl)
  ·refine ex_tuple (.cons ex_none (.cons ex_none (.cons ?_ .nil rfl) rfl) rfl)
   refine ex_meth (a:=.str ⟨#[39]⟩) (ds:=[.list ([dotS r.1,dotS r.2.1].map .str)]) (Ex.h (Ex.eq ex_str (congrArg D.str tick1))) (.cons ?_ .nil rfl) id_join (m_join (tick_ok (m:=64) ?_ (show 2*64+2*1≤4096 by decide)))
   ·exact Ex.eq (ex_slice (lo:=none) (hi:=some 2) (st:=none) (Ex.eq (d:=rowsD r) (d':=.list (r.s.map .str)) (xv (by walk_at "m")) rfl) rfl ⟨_,rfl,xi⟩ rfl (by decide) (show 3≤4096 by decide)) (congrArg D.list (pick_take (ds:=r.s.map D.str) (k:=2)))
   ·intro y hy
    simp only[List.mem_cons,List.not_mem_nil,or_false] at hy
    rcases hy with rfl | rfl <;> exact hss _ (by simp)
  ·refine Ex.eq (xb (a:=.list ([dotS r.1,dotS r.2.1].map .str)) (b:=.list [.str (tickJ [dotS r.2.2,dotS r.1,dotS r.2.1,dotS r.2.2])]) ?_ ?_ (o_add_list (Nat.le_trans (show 2+1≤64 by decide) h64))) rfl
   ·exact Ex.eq (ex_slice (lo:=none) (hi:=some 2) (st:=none) (Ex.eq (d:=rowsD r) (d':=.list (r.s.map .str)) (xv (by walk_at "m")) rfl) rfl ⟨_,rfl,xi⟩ rfl (by decide) (show 3≤4096 by decide)) (congrArg D.list (pick_take (ds:=r.s.map D.str) (k:=2)))
   ·refine ex_list1 ?_ (by kernel_rfl)
    refine ex_meth (a:=.str ⟨#[39]⟩) (ds:=[.list ([dotS r.2.2,dotS r.1,dotS r.2.1,dotS r.2.2].map .str)]) (Ex.h (Ex.eq ex_str (congrArg D.str tick1))) (.cons ?_ .nil rfl) id_join (m_join (tick_ok (m:=64) ?_ (show 4*64+4*1≤4096 by decide)))
    ·refine Ex.eq (xb (a:=.list ([dotS r.2.2].map .str)) (b:=.list (r.s.map .str)) ?_ (Ex.eq (d:=rowsD r) (d':=.list (r.s.map .str)) (xv (by walk_at "m")) rfl) (o_add_list (Nat.le_trans (show 1+3≤64 by decide) h64))) rfl
     exact Ex.eq (ex_slice (lo:=some 2) (hi:=none) (st:=none) (Ex.eq (d:=rowsD r) (d':=.list (r.s.map .str)) (xv (by walk_at "m")) rfl) ⟨_,rfl,xi⟩ rfl rfl (by decide) (show 3≤4096 by decide)) (congrArg D.list (pick_drop (ds:=r.s.map D.str) (k:=2)))
    ·intro y hy
     simp only[List.mem_cons,List.not_mem_nil,or_false] at hy
     rcases hy with rfl | rfl | rfl | rfl <;> exact hss _ (by simp)
 ·rw[flat_same_len (g:=dueF) fun r=>by rw[fall,List.length_map]];exact l1
 ·exact congrArg D.list (congrArg (fun f=>x.ws.flatMap f) (funext fun r=>by rw[fall];exact List.map_id' _))
 ·refine ok_le (m:=2) (.list fun d hd=>?_) (by decide)
  obtain⟨r,_,hr⟩:=List.mem_flatMap.mp hd
  simp only[dueF,List.mem_cons,List.not_mem_nil,or_false] at hr
  rcases hr with rfl | rfl | rfl
  ·exact .tuple (eqOk_three .none .none .str)
  ·exact .tuple (eqOk_three .none .none .str)
  ·exact .list (eqOk_three .str .str .str)
end
end
section
section
variable {C:Cx}{n:Nat}{sc csc:Scope}{Γ Γc:Gm}{e:Expr}{cm tup:Bool}
theorem fin_7 {x:Fin8}(h:x.Ok):Ex C n (fnT 28).scope (gmEnd x) (headE (retE 6)) (.bool true):=by
 obtain⟨h1,h2⟩:=h.agL
 have fr:=flat_rows (x.ag.letters.map (·.2))
 rw[List.map_map] at fr
 exact ex_cmp (xs1 (a:=x.ag.d) (Ex.h (xv (by walk_at "m"))) xi (idx_tuple (by decide) (by decide) rfl)) (xv (by walk_at "m")) (o_eq_dictI (ks:=lettersK x.ag.letters) (xs:=lettersV x.ag.letters) h1 (by unfold lettersV;rw[List.length_map,List.length_map];exact h2) fr (by decide))
theorem fin_8 {x:Fin8}(h:x.Ok):Ex C n (fnT 28).scope (gmEnd x) (headE (retE 7)) (.bool true):=by
 obtain⟨h1,h2⟩:=h.agB
 exact ex_cmp (xs1 (a:=x.ag.d) (Ex.h (xv (by walk_at "m"))) xi (idx_tuple (by decide) (by decide) rfl)) (xv (by walk_at "m")) (o_eq_books h1 h2)
theorem fin_9 (G:Gl C) {x:Fin8}(h:x.Ok):Ex C n (fnT 28).scope (gmEnd x) (headE (retE 8)) (.bool true):=by
 obtain⟨h1,h2,h3⟩:=h.on
 refine ex_same (xv (by walk_at "m")) (ex_lcT (xs:=x.on.zip (x.gives++x.gives++x.gives)) (enc:=fun p=>[.str p.1,.int (p.2:Nat)]) (f:=fun p=>.str (if p.2∈x.taken then p.1 else noMail)) (Keep.same rfl) (it_zipM G (f:=D.str) (g:=fun k:Nat=>D.int (k:Nat)) (xv (by walk_at "m")) (Ex.eq (xb (xv (by walk_at "m")) xi (o_mul_list (xs:=x.gives.map fun k=>.int (k:Nat)) (by decide) (by decide) ?_)) ?_)) (fun p hp=>bt2 (by decide +kernel) (by kernel_rfl) (by kernel_rfl)) (fun p hp=>?_) (by rw[List.length_zip];exact Nat.le_trans (Nat.min_le_left _ _) (Nat.le_trans h1 (by decide))) ?_) rfl (ok_le (ok_strs _) (by decide))
 ·rw[List.length_map]
  show x.gives.length*3≤_
  lia
 ·show D.list (_++(_++(_++[])))=_
  rw[List.append_nil,List.map_append,List.map_append,List.append_assoc]
 ·refine ex_if (c:=decide (p.2∈x.taken)) (Tr.eq (tC (xv (by walk_at "m")) (Ex.eq (xv (by walk_at "m")) natsD_ints) o_in_ints) (decide_eq_decide.mpr mem_nats)) (fun hc=>?_) (fun hc=>?_)
  ·exact Ex.eq (d:=.str p.1) (xv (by walk_at "m")) (by rw[if_pos (of_decide_eq_true hc)])
  ·exact Ex.eq (Ex.eq ex_str (congrArg D.str nomail_eq)) (by rw[if_neg (of_decide_eq_false hc)])
 ·rw[h.kept,List.map_map];rfl
theorem fin_10 {x:Fin8}:Ex C n (fnT 28).scope (gmEnd x) (headE (retE 9)) (.bool true):=ex_same (xv (by walk_at "m")) (xv (by walk_at "m")) rfl (ok_le (ok_strs _) (by decide))
theorem fin_11 (G:Gl C) {m:Nat}{x:Fin8}(h:x.Ok) (hV:Fn C m "_pre_parse_validation" [strsD x.bk] (strsD (x.bk.map validF))) (hm:m≤n):Ex C n (fnT 28).scope (gmEnd x) (headE (retE 10)) (.bool true):=by
 obtain⟨h1,h2⟩:=h.back
 refine ex_same (d:=strsD (List.replicate x.bk.length noMail)) (Ex.eq (ex_call (.cons (xv (by walk_at "m")) .nil rfl) hV hm) (by rw[h2])) (Ex.eq (xb (ex_list (.cons (Ex.eq ex_str (congrArg D.str nomail_eq)) .nil rfl)) (Ex.eq (ex_len G (xv (by walk_at "m")) (by rw[List.length_map];exact Nat.le_trans h1 (by decide))) (by rw[List.length_map])) (o_mul_list (Int.natCast_nonneg _) (by lia) ?_)) ?_) rfl (ok_le (ok_strs _) (by decide))
 ·rw[Int.toNat_natCast];show 1*x.bk.length≤_;lia
 ·rw[Int.toNat_natCast]
  have:∀k:Nat,(List.replicate k [D.str noMail]).flatten=List.replicate k (D.str noMail):=fun k=>by
   induction k with
   | zero=>rfl
   | succ k ih=>rw[List.replicate_succ,List.flatten_cons,ih];rfl
  rw[this,strsD,List.map_replicate]
theorem flat_eqOk (b:Book):EqOk 2 b.d:=by
 refine .tuple fun d hd=>?_
 rcases List.mem_cons.mp hd with rfl | hd
 ·exact .int
 rcases List.mem_cons.mp hd with rfl | hd
 ·exact .int
 rcases List.mem_cons.mp hd with rfl | hd
 ·exact .int
 rcases List.mem_cons.mp hd with rfl | hd
 ·exact .int
 rw[List.mem_singleton.mp hd]
 exact .dictS (flat_ints _)
theorem fin_12 (G:Gl C) {m:Nat}{x:Fin8}(h:x.Ok) (hB:∀k:Nat,k<3→Fn C m "_law_book" [actsD x.acts,natsLD x.ps,zD x.worth,.int (k:Nat)] (bookD x.acts x.ps x.worth (k:Nat))) (hm:m≤n):Ex C n (fnT 28).scope (gmEnd x) (headE (retE 11)) (.bool true):=by
 refine ex_same (xv (by walk_at "m")) (ex_lcT (xs:=List.range 3) (enc:=fun k=>[D.int (k:Nat)]) (f:=fun k=>bookD x.acts x.ps x.worth (k:Nat)) (Keep.same rfl) (it_rangeN G (k:=3) xi (by decide)) (fun p hp=>.name (by decide +kernel) (by kernel_rfl)) (fun k hk=>ex_call (.cons (xv (by walk_at "m")) (.cons (xv (by walk_at "m")) (.cons (xv (by walk_at "m")) (.cons (xv (by walk_at "m")) .nil rfl) rfl) rfl) rfl) (hB k (List.mem_range.mp hk)) hm) (show 3≤4096 by decide) h.books.symm) rfl (ok_le (eqOk_map fun b J=>flat_eqOk b) (by decide))
theorem fin_13 {x:Fin8}(h:x.Ok):Ex C n (fnT 28).scope (gmEnd x) (headE (retE 12)) (.bool true):=by
 have hb:=h.bks
 exact ex_same (xv (by walk_at "m")) (ex_lcT (xs:=x.bks) (enc:=fun b=>[b.d]) (f:=fun b=>.int b.2.2.2.1) (Keep.same rfl) (it_of (xv (by walk_at "m"))) (fun p hp=>.name (by decide +kernel) (by kernel_rfl)) (fun b hb=>xs1 (Ex.h (xv (by walk_at "m"))) xi (idx_tuple (d:=.int b.2.2.2.1) (by decide) (by decide) rfl)) (Nat.le_trans (Nat.le_of_eq hb) (by decide)) (by rw[h.cs,List.map_map];rfl)) rfl (ok_le (ok_ints _) (by decide))
theorem ret_shape:∃(e1 e2 e3 e4 e5 e6 e7 e8 e9 e10 e11 e12 e13:Expr) (p q:Pos),(fnT 28).body.drop 28=[.Return (some (.BoolOp .And [e1,e2,e3,e4,e5,e6,e7,e8,e9,e10,e11,e12,e13] p)) q]∧headE (retE 0)=e1∧headE (retE 1)=e2∧headE (retE 2)=e3∧headE (retE 3)=e4∧headE (retE 4)=e5∧headE (retE 5)=e6∧headE (retE 6)=e7∧headE (retE 7)=e8∧headE (retE 8)=e9∧headE (retE 9)=e10∧headE (retE 10)=e11∧headE (retE 11)=e12∧headE (retE 12)=e13:=
 ⟨_,_,_,_,_,_,_,_,_,_,_,_,_,_,_,rfl,rfl,rfl,rfl,rfl,rfl,rfl,rfl,rfl,rfl,rfl,rfl,rfl,rfl⟩
theorem law_6 (G:Gl C) {m:Nat}{x:Fin8}(h:x.Ok) (hm:m≤n) (hD:∀y:Str,y.length≤4096→Fn C m "decode_rfc2231" [.str y] (decD y)) (hV:Fn C m "_pre_parse_validation" [strsD x.bk] (strsD (x.bk.map validF)))
  (hB:∀k:Nat,k<3→Fn C m "_law_book" [actsD x.acts,natsLD x.ps,zD x.worth,.int (k:Nat)] (bookD x.acts x.ps x.worth (k:Nat))):Run C n (fnT 28).scope (gmEnd x) ((fnT 28).body.drop 28) (.ret (.bool true)):=by
 obtain⟨e1,e2,e3,e4,e5,e6,e7,e8,e9,e10,e11,e12,e13,p,q,h0,h1,h2,h3,h4,h5,h6,h7,h8,h9,h10,h11,h12,h13⟩:=ret_shape
 rw[h0]
 have a1:=fin_1 (C:=C) (n:=n) G h;have a2:=fin_2 (C:=C) (n:=n) G h;have a3:=fin_3 (C:=C) (n:=n) G h;have a4:=fin_4 (C:=C) (n:=n) G h;have a5:=fin_5 (C:=C) (n:=n) G h
 have a6:=fin_6 (C:=C) (n:=n) G h hD hm;have a7:=fin_7 (C:=C) (n:=n) h;have a8:=fin_8 (C:=C) (n:=n) h;have a9:=fin_9 (C:=C) (n:=n) G h;have a10:=fin_10 (C:=C) (n:=n) (x:=x)
 have a11:=fin_11 (C:=C) (n:=n) G h hV hm;have a12:=fin_12 (C:=C) (n:=n) G h hB hm;have a13:=fin_13 (C:=C) (n:=n) h
 rw[h1] at a1;rw[h2] at a2;rw[h3] at a3;rw[h4] at a4;rw[h5] at a5;rw[h6] at a6;rw[h7] at a7;rw[h8] at a8;rw[h9] at a9;rw[h10] at a10;rw[h11] at a11;rw[h12] at a12;rw[h13] at a13
 exact run_ret (ex_and (.cons a1 (.cons a2 (.cons a3 (.cons a4 (.cons a5 (.cons a6 (.cons a7 (.cons a8 (.cons a9 (.cons a10 (.cons a11 (.cons a12 (.one a13))))))))))))))
end
end
section
structure AInv (cells:List Int) (A:List Act) (w:List (Int×Nat)):Prop where
 hand:∀a∈A,0≤a.hand∧a.hand<3
 fin:∀a∈A,EndS a.fin
 one:∀a∈A,a.cause.length≤1
 lt:∀(k:Nat) (a:Act),A[k]?=some a→∀g∈a.cause,g<k∧(intAt cells g).fmod 3=1
 once:∀(j k:Nat) (a b:Act) (g:Nat),A[j]?=some a→A[k]?=some b→g∈a.cause→g∈b.cause→j=k
 way:∀p∈w,p.2<A.length∧(intAt cells p.2).fmod 3=1∧∀a∈A,p.2∉a.cause
theorem cause_mem {cell:Int}{mine:List Nat}{g:Nat}(h:g∈causeF cell mine):g∈mine:=by
 unfold causeF at h
 split at h
 ·rename_i hc
  rw[List.mem_singleton] at h
  subst h
  have hl:(0:Int)<mine.length:=by
   have:mine.length≠0:=fun e=>hc.2 (List.length_eq_zero_iff.mp e)
   omega
  have:=fmod_range (cell.fdiv 9) hl
  rw[List.getElem?_eq_getElem (by omega)]
  exact List.getElem_mem _
 ·cases h
theorem cause_one {cell:Int}{mine:List Nat}:(causeF cell mine).length≤1:=by unfold causeF;split <;> simp
theorem snoc_get {α:Type}{A:List α}{x a:α}{k:Nat}(h:(A++[x])[k]?=some a):A[k]?=some a∨(k=A.length∧a=x):=by
 rcases Nat.lt_trichotomy k A.length with hk | hk | hk
 ·rw[List.getElem?_append_left hk] at h;exact .inl h
 ·subst hk;simp at h;exact .inr ⟨rfl,h.symm⟩
 ·rw[List.getElem?_eq_none (by rw[List.length_append,List.length_singleton];exact Nat.succ_le_of_lt hk)] at h;cases h
theorem AInv.step {cells:List Int}{A:List Act}{w:List (Int×Nat)}(h:AInv cells A w):AInv cells (A++[actF (intAt cells A.length) w]) (wayF (intAt cells A.length) A.length w (actF (intAt cells A.length) w).cause):=by
 generalize hc:intAt cells A.length=cell
 have hcm:∀g∈(actF cell w).cause,∃t,(t,g)∈w:=fun g hg=>by
  obtain⟨p,hp,rfl⟩:=List.mem_map.mp (cause_mem hg)
  exact⟨p.1,(List.mem_filter.mp hp).1⟩
 refine⟨fun a ha=>?_,fun a ha=>?_,fun a ha=>?_,fun k a hk g hg=>?_,fun j k a b g hj hk hg hg'=>?_,fun p hp=>?_⟩
 ·rcases List.mem_append.mp ha with q | q
  ·exact h.hand a q
  ·rw[List.mem_singleton.mp q];exact fmod_range _ (by decide)
 ·rcases List.mem_append.mp ha with q | q
  ·exact h.fin a q
  ·rw[List.mem_singleton.mp q];exact endS_endOf _
 ·rcases List.mem_append.mp ha with q | q
  ·exact h.one a q
  ·rw[List.mem_singleton.mp q];exact cause_one
 ·rcases snoc_get hk with q | ⟨rfl,rfl⟩
  ·exact h.lt k a q g hg
  ·obtain⟨t,ht⟩:=hcm g hg
   obtain⟨a1,a2,_⟩:=h.way _ ht
   exact⟨a1,a2⟩
 ·rcases snoc_get hj with q | ⟨rfl,rfl⟩
  ·rcases snoc_get hk with q' | ⟨rfl,rfl⟩
   ·exact h.once j k a b g q q' hg hg'
   ·obtain⟨t,ht⟩:=hcm g hg'
    exact absurd hg ((h.way _ ht).2.2 a (List.mem_of_getElem? q))
  ·rcases snoc_get hk with q' | ⟨rfl,rfl⟩
   ·obtain⟨t,ht⟩:=hcm g hg
    exact absurd hg' ((h.way _ ht).2.2 b (List.mem_of_getElem? q'))
   ·rfl
 ·have key:∀p∈w.filter (fun p=>decide (p.2∉(actF cell w).cause)),p.2<(A++[actF cell w]).length∧(intAt cells p.2).fmod 3=1∧∀a∈A++[actF cell w],p.2∉a.cause:=fun p hp=>by
   obtain⟨q1,q2⟩:=List.mem_filter.mp hp
   obtain⟨a1,a2,a3⟩:=h.way p q1
   refine⟨by rw[List.length_append,List.length_singleton];exact Nat.lt_succ_of_lt a1,a2,fun a ha=>?_⟩
   rcases List.mem_append.mp ha with q | q
   ·exact a3 a q
   ·rw[List.mem_singleton.mp q];exact of_decide_eq_true q2
  unfold wayF at hp
  dsimp only at hp
  split at hp
  ·rename_i h1
   rcases List.mem_append.mp hp with q | q
   ·exact key p q
   ·rw[List.mem_singleton.mp q]
    refine⟨by rw[List.length_append,List.length_singleton];exact Nat.lt_succ_self _,by rw[hc];exact h1,fun a ha hm=>?_⟩
    rcases List.mem_append.mp ha with q' | q'
    ·obtain⟨k,hk⟩:=List.getElem?_of_mem q'
     have:=(h.lt k a hk _ hm).1
     have:=(List.getElem?_eq_some_iff.mp hk).1
     dsimp only at *
     lia
    ·rw[List.mem_singleton.mp q'] at hm
     obtain⟨t,ht⟩:=hcm _ hm
     have:=(h.way _ ht).1
     dsimp only at this
     exact Nat.lt_irrefl _ this
  ·exact key p hp
theorem acts_fold {cells:List Int}(l:List Int):∀(A:List Act) (w:List (Int×Nat)),AInv cells A w→cells.drop A.length=l→∃w',AInv cells ((l.zipIdx A.length).foldl actStep (A,w)).1 w'∧((l.zipIdx A.length).foldl actStep (A,w)).1.length=A.length+l.length:=by
 induction l with
 | nil=>exact fun A w h _=>⟨w,h,rfl⟩
 | cons c l ih=>
  intro A w h hd
  have hlt:A.length<cells.length:=Nat.lt_of_not_le fun q=>by rw[List.drop_eq_nil_iff.mpr q] at hd;cases hd
  have hd2:=List.drop_eq_getElem_cons hlt
  rw[hd] at hd2
  obtain⟨q1,q2⟩:=List.cons.inj hd2
  have hc:intAt cells A.length=c:=by unfold intAt;rw[List.getElem?_eq_getElem hlt];exact q1.symm
  have st:=h.step
  rw[hc] at st
  have hl:(A++[actF c w]).length=A.length+1:=List.length_append
  obtain⟨w',h1,h2⟩:=ih (A++[actF c w]) _ st (by rw[hl];exact q2.symm)
  rw[hl] at h1 h2
  exact⟨w',h1,h2.trans (Nat.add_right_comm _ 1 _)⟩
structure A8 (cells:List Int) (acts:List Act):Prop where
 len:acts.length=8
 inv:∃w,AInv cells acts w
theorem acts8 {cells:List Int}(h:cells.length=8):A8 cells (aOf cells):=by
 obtain⟨w,h1,h2⟩:=acts_fold (cells:=cells) cells [] [] ⟨fun a ha=>(nomatch ha),fun a ha=>(nomatch ha),fun a ha=>(nomatch ha),fun k a hk=>(by simp at hk),fun j k a b g hj=>(by simp at hj),fun p hp=>(nomatch hp)⟩ rfl
 exact⟨by rw[show(aOf cells).length=_ from h2,h];rfl,w,h1⟩
section
variable {cells:List Int}{acts:List Act}(H:A8 cells acts)
include H
theorem A8.hand {k:Nat}(hk:k<8):0≤hOf acts k∧hOf acts k<3:=by
 obtain⟨w,h⟩:=H.inv
 unfold hOf
 rw[List.getElem?_eq_getElem (by rw[H.len];exact hk)]
 exact h.hand _ (List.getElem_mem _)
theorem A8.cause {k g:Nat}(hg:g∈cOf acts k):g<k∧k<8∧(intAt cells g).fmod 3=1:=by
 obtain⟨w,h⟩:=H.inv
 unfold cOf at hg
 cases e:acts[k]? with
 | none=>rw[e] at hg;cases hg
 | some a=>
  rw[e] at hg
  obtain⟨a1,a2⟩:=h.lt k a e g hg
  have:=(List.getElem?_eq_some_iff.mp e).1
  exact⟨a1,by have:=H.len;lia,a2⟩
theorem A8.one (k:Nat):(cOf acts k).length≤1:=by
 obtain⟨w,h⟩:=H.inv
 unfold cOf
 cases e:acts[k]? with
 | none=>exact Nat.zero_le _
 | some a=>exact h.one a (List.mem_of_getElem? e)
theorem A8.once {j k g:Nat}(hj:g∈cOf acts j) (hk:g∈cOf acts k):j=k:=by
 obtain⟨w,h⟩:=H.inv
 unfold cOf at hj hk
 cases e:acts[j]? with
 | none=>rw[e] at hj;cases hj
 | some a=>
  cases e':acts[k]? with
  | none=>rw[e'] at hk;cases hk
  | some b=>
   rw[e] at hj;rw[e'] at hk
   exact h.once j k a b g e e' hj hk
theorem A8.ok {worth:List Int}(hw:worth.length=8):ActsOk acts worth:=by
 obtain⟨w,h⟩:=H.inv
 have hl:=H.len
 refine⟨by exact Nat.le_of_eq (Eq.trans hl hw.symm),by exact Nat.le_trans (Nat.le_of_eq hw) (by decide),h.fin,h.hand,fun a ha=>⟨Nat.le_trans (h.one a ha) (by decide),fun g hg=>?_⟩⟩
 obtain⟨k,hk⟩:=List.getElem?_of_mem ha
 have:=(h.lt k a hk g hg).1
 have:=(List.getElem?_eq_some_iff.mp hk).1
 lia
end
end
section
noncomputable abbrev pa (acts:List Act) (k:Nat):List Nat:=listAt (pF acts) k
noncomputable def prevs (acts:List Act) (k:Nat):List Nat:=((List.range k).filter fun j=>decide (hOf acts j=hOf acts k)).drop (((List.range k).filter fun j=>decide (hOf acts j=hOf acts k)).length-1)
noncomputable def rootsA (acts:List Act) (k:Nat):List Nat:=prevs acts k++cOf acts k
noncomputable def unA (acts:List Act) (k:Nat):List Nat:=(List.range k).filter fun j=>decide (j∈(rootsA acts k).flatMap (pa acts))
noncomputable def stepP (acts:List Act) (ps:List (List Nat)) (p:Act×Nat):List (List Nat):=ps++[pastF ps acts p.2 p.1]
noncomputable def partP (acts:List Act) (i:Nat):List (List Nat):=((acts.zipIdx 0).take i).foldl (stepP acts) []
theorem zip_at {acts:List Act}{i:Nat}(h:i<acts.length):(acts.zipIdx 0)[i]?=some (acts[i],i):=by
 rw[List.getElem?_zipIdx,List.getElem?_eq_getElem h];simp
theorem part_succ {acts:List Act}{i:Nat}(h:i<acts.length):partP acts (i+1)=partP acts i++[pastF (partP acts i) acts i acts[i]]:=by
 unfold partP
 rw[List.take_add_one,List.foldl_append,zip_at h];rfl
theorem part_len {acts:List Act}:∀{i:Nat},i≤acts.length→(partP acts i).length=i
 | 0,_=>rfl
 | i+1,h=>by rw[part_succ (Nat.lt_of_succ_le h),List.length_append,part_len (Nat.le_of_succ_le h)];rfl
theorem part_get {acts:List Act}{k:Nat}(hk:k<acts.length):∀{i:Nat},k<i→i≤acts.length→(partP acts i)[k]?=some (pastF (partP acts k) acts k acts[k])
 | i+1,h,hi=>by
  rw[part_succ (Nat.lt_of_succ_le hi)]
  by_cases e:k=i
  ·subst e
   rw[List.getElem?_append_right (by rw[part_len (Nat.le_of_lt hk)];exact Nat.le_refl _),part_len (Nat.le_of_lt hk)]
   simp
  ·rw[List.getElem?_append_left (by rw[part_len (Nat.le_of_succ_le hi)];lia)]
   exact part_get hk (by lia) (Nat.le_of_succ_le hi)
theorem part_all {acts:List Act}:pF acts=partP acts acts.length:=by
 unfold partP
 rw[List.take_of_length_le (by simp)];rfl
theorem pasts_len {acts:List Act}:(pF acts).length=acts.length:=by rw[part_all];exact part_len (Nat.le_refl _)
theorem part_pa {acts:List Act}{r k:Nat}(hr:r<k) (hk:k≤acts.length):((partP acts k)[r]?).getD []=pa acts r:=by
 unfold pa listAt
 rw[part_all,part_get (k:=r) (Nat.lt_of_lt_of_le hr hk) (Nat.lt_of_lt_of_le hr hk) (Nat.le_refl _),part_get (k:=r) (Nat.lt_of_lt_of_le hr hk) hr hk]
theorem prevs_mem {acts:List Act}{k p:Nat}(h:p∈prevs acts k):p<k∧hOf acts p=hOf acts k:=by
 have:=List.mem_filter.mp (List.mem_of_mem_drop h)
 exact⟨List.mem_range.mp this.1,of_decide_eq_true this.2⟩
theorem last_of {l:List Nat}(hs:l.Pairwise (·<·)) {j:Nat}(hj:j∈l):∃p,l.drop (l.length-1)=[p]∧j≤p:=by
 obtain⟨i,hi,rfl⟩:=List.getElem_of_mem hj
 have hl:l.length-1<l.length:=by exact Nat.sub_lt (Nat.lt_of_le_of_lt (Nat.le_add_left _ _) hi) (by decide)
 refine⟨l[l.length-1],?_,?_⟩
 ·rw[List.drop_eq_getElem_cons hl,List.drop_eq_nil_of_le (by omega)]
 ·by_cases e:i=l.length-1
  ·subst e;exact Nat.le_refl _
  ·exact Nat.le_of_lt (List.pairwise_iff_getElem.mp hs i (l.length-1) hi hl (by omega))
theorem prevs_last {acts:List Act}{k j:Nat}(hj:j<k) (hh:hOf acts j=hOf acts k):∃p,prevs acts k=[p]∧j≤p:=
 last_of (List.Pairwise.filter _ List.pairwise_lt_range) (List.mem_filter.mpr ⟨List.mem_range.mpr hj,decide_eq_true hh⟩)
section
variable {cells:List Int}{acts:List Act}(H:A8 cells acts)
include H
theorem A8.roots {k r:Nat}(h:r∈rootsA acts k):r<k:=by
 rcases List.mem_append.mp h with q | q
 ·exact(prevs_mem q).1
 ·exact(H.cause q).1
theorem A8.past {k:Nat}(hk:k<8):pa acts k=unA acts k++[k]:=by
 have hl:=H.len
 have hk':k<acts.length:=by exact Nat.lt_of_lt_of_eq hk hl.symm
 have e1:pa acts k=pastF (partP acts k) acts k acts[k]:=by
  unfold pa listAt
  rw[part_all,part_get hk' hk' (Nat.le_refl _)];rfl
 have e2:(acts[k]).hand=hOf acts k:=by unfold hOf;rw[List.getElem?_eq_getElem hk'];rfl
 have e3:(acts[k]).cause=cOf acts k:=by unfold cOf;rw[List.getElem?_eq_getElem hk'];rfl
 have e4:rootsF acts k acts[k]=rootsA acts k:=by
  unfold rootsF rootsA prevs
  dsimp only
  rw[e2,e3];rfl
 rw[e1]
 unfold pastF unA
 rw[e4]
 have e5:knownF (partP acts k) (rootsA acts k)=(rootsA acts k).flatMap (pa acts):=by
  unfold knownF
  rw[List.flatMap_def,List.flatMap_def]
  congr 1
  exact List.map_congr_left fun r hr=>part_pa (H.roots hr) (Nat.le_of_lt hk')
 rw[e5]
theorem A8.mem {j k:Nat}(hk:k<8):j∈pa acts k↔j=k∨(j<k∧∃r∈rootsA acts k,j∈pa acts r):=by
 rw[H.past hk]
 simp only[List.mem_append,List.mem_singleton,unA,List.mem_filter,List.mem_range,decide_eq_true_eq,List.mem_flatMap]
 exact Or.comm
theorem A8.self {k:Nat}(hk:k<8):k∈pa acts k:=(H.mem hk).mpr (.inl rfl)
theorem A8.le {j k:Nat}(hk:k<8) (h:j∈pa acts k):j≤k:=by
 rcases(H.mem hk).mp h with q | q <;> lia
theorem A8.own:∀{k:Nat},k<8→∀{j:Nat},j≤k→hOf acts j=hOf acts k→j∈pa acts k:=by
 intro k
 induction k using Nat.strongRecOn with
 | ind k ih=>
  intro hk j hj hh
  by_cases e:j=k
  ·rw[e];exact H.self hk
  ·obtain⟨p,hp,hjp⟩:=prevs_last (by lia) hh
   have hpm:p∈prevs acts k:=by rw[hp];exact List.mem_singleton.mpr rfl
   obtain⟨p1,p2⟩:=prevs_mem hpm
   exact(H.mem hk).mpr (.inr ⟨by exact Nat.lt_of_le_of_lt hjp p1,p,List.mem_append_left _ hpm,ih p p1 (Nat.lt_trans p1 hk) hjp (hh.trans p2.symm)⟩)
theorem A8.trans:∀{k:Nat},k<8→∀{j i:Nat},j∈pa acts k→i∈pa acts j→i∈pa acts k:=by
 intro k
 induction k using Nat.strongRecOn with
 | ind k ih=>
  intro hk j i hj hi
  rcases(H.mem hk).mp hj with rfl | ⟨h1,r,hr,h2⟩
  ·exact hi
  ·have:=H.le (Nat.lt_trans h1 hk) hi
   have hrk:=H.roots hr
   exact(H.mem hk).mpr (.inr ⟨by exact Nat.lt_of_le_of_lt this h1,r,hr,ih r hrk (Nat.lt_trans hrk hk) h2 hi⟩)
theorem A8.root {k r:Nat}(hk:k<8) (hr:r∈rootsA acts k):r∈pa acts k:=by
 have:=H.roots hr
 exact(H.mem hk).mpr (.inr ⟨this,r,hr,H.self (Nat.lt_trans this hk)⟩)
theorem A8.cause_past {k g:Nat}(hg:g∈cOf acts k):g∈pa acts k:=H.root (H.cause hg).2.1 (List.mem_append_right _ hg)
theorem A8.anti {j k:Nat}(hj:j<8) (hk:k<8) (h1:j∈pa acts k) (h2:k∈pa acts j):j=k:=by
 have:=H.le hk h1
 have:=H.le hj h2
 lia
theorem A8.bound:∀l∈pF acts,l.length≤8∧∀k∈l,k<8:=fun l hl=>by
 obtain⟨k,hk⟩:=List.getElem?_of_mem hl
 have hk8:k<8:=by have:=(List.getElem?_eq_some_iff.mp hk).1;rw[pasts_len,H.len] at this;exact this
 have e:l=pa acts k:=by unfold pa listAt;rw[hk];rfl
 rw[e]
 refine⟨?_,fun j hj=>by have:=H.le hk8 hj;exact Nat.lt_of_le_of_lt this hk8⟩
 rw[H.past hk8,List.length_append,List.length_singleton]
 have:=List.length_filter_le (fun j=>decide (j∈(rootsA acts k).flatMap (pa acts))) (List.range k)
 rw[List.length_range] at this
 unfold unA
 exact Nat.succ_le_of_lt (Nat.lt_of_le_of_lt this hk8)
end
end
section
theorem sorted_ext {l m:List Nat}(hl:l.Pairwise (·<·)) (hm:m.Pairwise (·<·)) (h:∀x,x∈l↔x∈m):l=m:=by
 induction l generalizing m with
 | nil=>exact(List.eq_nil_iff_forall_not_mem.mpr fun x hx=>absurd ((h x).mpr hx) List.not_mem_nil).symm
 | cons a l ih=>
  cases m with
  | nil=>exact absurd ((h a).mp List.mem_cons_self) List.not_mem_nil
  | cons b m=>
   obtain⟨l1,l2⟩:=List.pairwise_cons.mp hl
   obtain⟨m1,m2⟩:=List.pairwise_cons.mp hm
   obtain rfl:a=b:=(List.mem_cons.mp ((h a).mp List.mem_cons_self)).elim id fun q=>(List.mem_cons.mp ((h b).mpr List.mem_cons_self)).elim Eq.symm fun q'=>absurd (m1 a q) (Nat.lt_asymm (l1 b q'))
   rw[ih l2 m2 fun x=>⟨fun hx=>?_,fun hx=>?_⟩]
   ·exact(List.mem_cons.mp ((h x).mp (List.mem_cons_of_mem _ hx))).resolve_left fun q=>Nat.lt_irrefl x (Nat.lt_of_le_of_lt (Nat.le_of_eq q) (l1 x hx))
   ·exact(List.mem_cons.mp ((h x).mpr (List.mem_cons_of_mem _ hx))).resolve_left fun q=>Nat.lt_irrefl x (Nat.lt_of_le_of_lt (Nat.le_of_eq q) (m1 x hx))
theorem prefix_filter {α:Type}(q:α→Bool):∀{l:List α},l.Pairwise (fun x y=>q y=true→q x=true)→l.filter q=l.take (l.filter q).length
 | [],_=>rfl
 | x::l,h=>by
  obtain⟨h1,h2⟩:=List.pairwise_cons.mp h
  by_cases hx:q x=true
  ·rw[List.filter_cons_of_pos hx,List.length_cons,List.take_succ_cons,← prefix_filter q h2]
  ·have:l.filter q=[]:=List.filter_eq_nil_iff.mpr fun y hy hq=>hx (h1 y hy hq)
   rw[List.filter_cons_of_neg hx,this];rfl
theorem filter_or {α:Type}{q1 q2:α→Bool}{l:List α}{a b:Nat}(h1:l.filter q1=l.take a) (h2:l.filter q2=l.take b):l.filter (fun x=>q1 x||q2 x)=l.take (max a b):=by
 rcases Nat.le_total a b with h | h
 ·rw[Nat.max_eq_right h,← h2]
  refine List.filter_congr fun x hx=>?_
  cases e:q1 x with
  | false=>simp
  | true=>
   have:x∈l.filter q2:=by
    rw[h2]
    have:x∈l.take a:=by rw[← h1];exact List.mem_filter.mpr ⟨hx,e⟩
    have e2:l.take a=(l.take b).take a:=by rw[List.take_take,Nat.min_eq_left h]
    rw[e2] at this
    exact List.mem_of_mem_take this
   rw[(List.mem_filter.mp this).2];rfl
 ·rw[Nat.max_eq_left h,← h1]
  refine List.filter_congr fun x hx=>?_
  cases e:q2 x with
  | false=>simp
  | true=>
   have:x∈l.filter q1:=by
    rw[h1]
    have:x∈l.take b:=by rw[← h2];exact List.mem_filter.mpr ⟨hx,e⟩
    have e2:l.take b=(l.take a).take b:=by rw[List.take_take,Nat.min_eq_left h]
    rw[e2] at this
    exact List.mem_of_mem_take this
   rw[(List.mem_filter.mp this).2];rfl
theorem own_eq {acts:List Act}{h:Int}:ownF acts h=(List.range acts.length).filter fun k=>decide (hOf acts k=h):=by
 unfold ownF
 have e:(acts.zipIdx 0).filter (fun p=>decide (p.1.hand=h))=(acts.zipIdx 0).filter ((fun k=>decide (hOf acts k=h))∘fun p:Act×Nat=>p.2):=by
  refine List.filter_congr fun p hp=>?_
  obtain⟨a,k⟩:=p
  have:=List.mem_zipIdx hp
  have hk:k<acts.length:=by exact Nat.lt_of_lt_of_eq this.2.1 (Nat.add_comm _ _)
  have ha:hOf acts k=a.hand:=by
   unfold hOf
   rw[List.getElem?_eq_getElem hk,this.2.2]
   simp
  simp only[Function.comp,ha]
 rw[e,← List.filter_map,zipIdx_snd,← List.range_eq_range']
theorem own_sorted {acts:List Act}{h:Int}:(ownF acts h).Pairwise (·<·):=by rw[own_eq];exact List.Pairwise.filter _ List.pairwise_lt_range
theorem own_mem {acts:List Act}{h:Int}{k:Nat}:k∈ownF acts h↔k<acts.length∧hOf acts k=h:=by rw[own_eq];simp
noncomputable def vR (acts:List Act) (R:List Nat) (h:Int):Nat:=(R.map fun r=>cntF acts (pa acts r) h).foldr max 0
section
variable {cells:List Int}{acts:List Act}(H:A8 cells acts)
include H
theorem A8.sorted {k:Nat}(hk:k<8):(pa acts k).Pairwise (·<·):=by
 rw[H.past hk,List.pairwise_append]
 refine⟨List.Pairwise.filter _ List.pairwise_lt_range,List.pairwise_singleton _ _,fun a ha b hb=>?_⟩
 rw[List.mem_singleton.mp hb]
 exact List.mem_range.mp (List.mem_filter.mp ha).1
theorem A8.hands {k:Nat}(hk:k<8) (h:Int):(pa acts k).filter (fun j=>decide (hOf acts j=h))=(ownF acts h).filter fun j=>decide (j∈pa acts k):=by
 refine sorted_ext (List.Pairwise.filter _ (H.sorted hk)) (List.Pairwise.filter _ own_sorted) fun x=>?_
 simp only[List.mem_filter,decide_eq_true_eq,own_mem,H.len]
 refine⟨fun⟨a,b⟩=>⟨⟨by have:=H.le hk a;exact Nat.lt_of_le_of_lt this hk,b⟩,a⟩,fun⟨⟨_,b⟩,c⟩=>⟨c,b⟩⟩
theorem A8.take {k:Nat}(hk:k<8) (h:Int):(ownF acts h).filter (fun j=>decide (j∈pa acts k))=(ownF acts h).take (cntF acts (pa acts k) h):=by
 have:=prefix_filter (fun j=>decide (j∈pa acts k)) (l:=ownF acts h) (own_sorted.imp_of_mem fun {a b} ha hb hab=>by
  simp only[decide_eq_true_eq]
  intro hq
  have hb8:b<8:=by have:=(own_mem.mp hb).1;rw[H.len] at this;exact this
  exact H.trans hk hq (H.own hb8 (Nat.le_of_lt hab) ((own_mem.mp ha).2.trans (own_mem.mp hb).2.symm)))
 rw[this,← H.hands hk h];rfl
theorem A8.cnt_le {k:Nat}(hk:k<8) (h:Int):cntF acts (pa acts k) h≤(ownF acts h).length:=by
 unfold cntF
 rw[H.hands hk h]
 exact List.length_filter_le _ _
theorem A8.takes {R:List Nat}(hR:∀r∈R,r<8) (h:Int):(ownF acts h).filter (fun j=>decide (j∈R.flatMap (pa acts)))=(ownF acts h).take (vR acts R h)∧vR acts R h≤(ownF acts h).length:=by
 induction R with
 | nil=>exact⟨by simp[vR],Nat.zero_le _⟩
 | cons r R ih=>
  obtain⟨h1,h2⟩:=ih fun x hx=>hR x (List.mem_cons_of_mem _ hx)
  refine⟨?_,Nat.max_le.mpr ⟨H.cnt_le (hR r List.mem_cons_self) h,h2⟩⟩
  have e:(fun j=>decide (j∈(r::R).flatMap (pa acts)))=fun j=>decide (j∈pa acts r)||decide (j∈R.flatMap (pa acts)):=by
   funext j
   rw[List.flatMap_cons,← Bool.decide_or]
   exact decide_eq_decide.mpr List.mem_append
  rw[e,filter_or (H.take (hR r List.mem_cons_self) h) h1];rfl
theorem A8.un_mem {k j:Nat}(hk:k<8):j∈unA acts k↔j∈(rootsA acts k).flatMap (pa acts):=by
 unfold unA
 simp only[List.mem_filter,List.mem_range,decide_eq_true_eq,List.mem_flatMap]
 refine⟨fun h=>h.2,fun⟨r,hr,hj⟩=>⟨?_,r,hr,hj⟩⟩
 have h1:=H.roots hr
 have:=H.le (show r<8 by exact Nat.lt_trans h1 hk) hj
 exact Nat.lt_of_le_of_lt this h1
theorem A8.roots8 {k:Nat}(hk:k<8):∀r∈rootsA acts k,r<8:=fun r hr=>by have:=H.roots hr;exact Nat.lt_trans this hk
theorem A8.un {k:Nat}(hk:k<8) (h:Int):(unA acts k).filter (fun j=>decide (hOf acts j=h))=(ownF acts h).take (vR acts (rootsA acts k) h):=by
 rw[← (H.takes (H.roots8 hk) h).1]
 refine sorted_ext (List.Pairwise.filter _ (List.Pairwise.filter _ List.pairwise_lt_range)) (List.Pairwise.filter _ own_sorted) fun x=>?_
 simp only[List.mem_filter,decide_eq_true_eq,own_mem,H.len]
 refine⟨fun⟨a,b⟩=>⟨⟨?_,b⟩,(H.un_mem hk).mp a⟩,fun⟨⟨_,b⟩,c⟩=>⟨(H.un_mem hk).mpr c,b⟩⟩
 have:=List.mem_range.mp (List.mem_filter.mp a).1
 exact Nat.lt_trans this hk
theorem A8.cnt {k:Nat}(hk:k<8) (h:Int):cntF acts (pa acts k) h=vR acts (rootsA acts k) h+if hOf acts k=h then 1 else 0:=by
 unfold cntF
 rw[H.past hk,List.filter_append,List.length_append,H.un hk h,List.length_take,Nat.min_eq_left (H.takes (H.roots8 hk) h).2]
 congr 1
 by_cases e:hOf acts k=h
 ·simp[e]
 ·simp[e]
end
end
section
noncomputable def vec (acts:List Act) (R:List Nat):T3:=(vR acts R 0,vR acts R 1,vR acts R 2)
noncomputable abbrev rowK (acts:List Act) (k:Nat):T3:=(vcF acts (pa acts k)).inc
theorem vR_nil {acts:List Act}{h:Int}:vR acts [] h=0:=rfl
theorem vR_one {acts:List Act}{r:Nat}{h:Int}:vR acts [r] h=cntF acts (pa acts r) h:=by simp[vR]
theorem vR_append {acts:List Act}:∀{R S:List Nat}{h:Int},vR acts (R++S) h=max (vR acts R h) (vR acts S h)
 | [],S,h=>by simp[vR]
 | r::R,S,h=>by
  have:=vR_append (acts:=acts) (R:=R) (S:=S) (h:=h)
  unfold vR at this ⊢
  rw[List.cons_append,List.map_cons,List.foldr_cons,this,List.map_cons,List.foldr_cons,Nat.max_assoc]
theorem inc_max (a b:T3):T3.max a.inc b.inc=(T3.max a b).inc:=by
 simp only[T3.max,T3.inc,Prod.mk.injEq]
 refine⟨?_,?_,?_⟩ <;> (show max _ _=max _ _+1;lia)
theorem vec_one {acts:List Act}{r:Nat}:vec acts [r]=vcF acts (pa acts r):=by simp only[vec,vR_one];rfl
theorem vec_append {acts:List Act}{R S:List Nat}:vec acts (R++S)=T3.max (vec acts R) (vec acts S):=by simp only[vec,vR_append];rfl
theorem sum_append {w:List Int}{l m:List Nat}:sumW w (l++m)=sumW w l+sumW w m:=by unfold sumW;rw[List.map_append,List.sum_append]
theorem sum_one {w:List Int}{k:Nat}:sumW w [k]=wAt w k:=by unfold sumW;simp
theorem sum_take {w:List Int}{l:List Nat}{a b:Nat}:sumW w (l.take (max a b))=sumW w (l.take a)+sumW w ((l.take b).drop a):=by
 rcases Nat.le_total a b with h | h
 ·rw[Nat.max_eq_right h]
  have e:l.take b=(l.take b).take a++(l.take b).drop a:=(List.take_append_drop a _).symm
  have e2:(l.take b).take a=l.take a:=by rw[List.take_take,Nat.min_eq_left h]
  rw[e2] at e
  have:=congrArg (sumW w) e
  rwa [sum_append] at this
 ·rw[Nat.max_eq_left h]
  have e:(l.take b).drop a=[]:=List.drop_eq_nil_of_le (Nat.le_trans (by rw[List.length_take];exact Nat.min_le_left _ _) h)
  rw[e];simp[sumW]
theorem sumW_cons {w:List Int}{k:Nat}{l:List Nat}:sumW w (k::l)=wAt w k+sumW w l:=rfl
theorem sum_filter {acts:List Act}{w:List Int}{k:Nat}{l:List Nat}{i:Int}:sumW w ((k::l).filter fun j=>decide (hOf acts j=i))=(if hOf acts k=i then wAt w k else 0)+sumW w (l.filter fun j=>decide (hOf acts j=i)):=by
 by_cases q:hOf acts k=i
 ·rw[List.filter_cons_of_pos (p:=fun j=>decide (hOf acts j=i)) (a:=k) (decide_eq_true q),if_pos q];rfl
 ·rw[List.filter_cons_of_neg (p:=fun j=>decide (hOf acts j=i)) (a:=k) (by rw[decide_eq_false q];exact nofun),if_neg q,Int.zero_add]
theorem add_4 {a b c d k:Int}(h:d=a+b+c) (x y z:Int) (e:x+y+z=k):k+d=(x+a)+(y+b)+(z+c):=by lia
theorem sum_hands {acts:List Act}{w:List Int}{l:List Nat}(h:∀k∈l,0≤hOf acts k∧hOf acts k<3):sumW w l=sumW w (l.filter fun j=>decide (hOf acts j=0))+sumW w (l.filter fun j=>decide (hOf acts j=1))+sumW w (l.filter fun j=>decide (hOf acts j=2)):=by
 induction l with
 | nil=>rfl
 | cons k l ih=>
  have hk:=h k List.mem_cons_self
  rw[sumW_cons,sum_filter,sum_filter,sum_filter]
  refine add_4 (ih fun x hx=>h x (List.mem_cons_of_mem _ hx)) _ _ _ ?_
  rcases three hk with q | q | q <;> rw[q]
  ·exact(congrArg (·+0) (Int.add_zero (wAt w k))).trans (Int.add_zero _)
  ·exact(congrArg (·+0) (Int.zero_add (wAt w k))).trans (Int.add_zero _)
  ·exact Int.zero_add (wAt w k)
noncomputable def sumV (acts:List Act) (w:List Int) (v:T3):Int:=sumW w ((ownF acts 0).take v.1)+sumW w ((ownF acts 1).take v.2.1)+sumW w ((ownF acts 2).take v.2.2)
theorem news_max {acts:List Act}{w:List Int}{u v:T3}:sumV acts w (T3.max u v)=sumV acts w u+newsF acts w u.inc v.inc:=by
 have e:newsF acts w u.inc v.inc=sumW w (((ownF acts 0).take v.1).drop u.1)+(sumW w (((ownF acts 1).take v.2.1).drop u.2.1)+sumW w (((ownF acts 2).take v.2.2).drop u.2.2)):=by
  unfold newsF freshA freshF
  simp only[List.flatten_cons,List.flatten_nil,List.append_nil,T3.inc,Nat.add_sub_cancel]
  rw[sum_append,sum_append]
 rw[e]
 unfold sumV T3.max
 show sumW w ((ownF acts 0).take (max _ _))+sumW w ((ownF acts 1).take (max _ _))+sumW w ((ownF acts 2).take (max _ _))=_
 rw[sum_take,sum_take,sum_take]
 lia
noncomputable def sumPrev (acts:List Act) (w:List Int) (k:Nat):Int:=sumV acts w (vec acts (prevs acts k))
noncomputable def newsK (acts:List Act) (w:List Int) (k:Nat):Int:=sumW w (pa acts k)-sumPrev acts w k-wAt w k
section
variable {cells:List Int}{acts:List Act}(H:A8 cells acts)
include H
theorem A8.vc {k:Nat}(hk:k<8):vcF acts (pa acts k)=T3.bump (vec acts (rootsA acts k)) (hOf acts k).toNat:=by
 have hh:=H.hand hk
 unfold vcF T3.bump vec
 rw[H.cnt hk,H.cnt hk,H.cnt hk]
 rcases three hh with q | q | q <;> (rw[q];rfl)
theorem A8.sum_un {w:List Int}{k:Nat}(hk:k<8):sumW w (unA acts k)=sumV acts w (vec acts (rootsA acts k)):=by
 rw[sum_hands (acts:=acts) fun j hj=>H.hand (by have:=List.mem_range.mp (List.mem_filter.mp hj).1;exact Nat.lt_trans this hk),H.un hk,H.un hk,H.un hk];rfl
theorem A8.sum_pa {w:List Int}{k:Nat}(hk:k<8):sumW w (pa acts k)=sumV acts w (vcF acts (pa acts k)):=by
 rw[sum_hands (acts:=acts) fun j hj=>H.hand (by have:=H.le hk hj;exact Nat.lt_of_le_of_lt this hk),H.hands hk,H.hands hk,H.hands hk,H.take hk,H.take hk,H.take hk];rfl
theorem A8.sum_past {w:List Int}{k:Nat}(hk:k<8):sumW w (pa acts k)=sumV acts w (vec acts (rootsA acts k))+wAt w k:=by
 rw[← H.sum_un hk]
 have:=congrArg (sumW w) (H.past hk)
 rw[sum_append,sum_one] at this
 exact this
theorem A8.news_none {w:List Int}{k:Nat}(hk:k<8) (hc:cOf acts k=[]):newsK acts w k=0:=by
 have e:rootsA acts k=prevs acts k:=by unfold rootsA;rw[hc,List.append_nil]
 unfold newsK
 rw[H.sum_past hk,e]
 unfold sumPrev;lia
theorem A8.news_some {w:List Int}{k g:Nat}(hk:k<8) (hc:cOf acts k=[g]):newsK acts w k=newsF acts w (vec acts (prevs acts k)).inc (rowK acts g):=by
 have e:rootsA acts k=prevs acts k++[g]:=by unfold rootsA;rw[hc]
 unfold newsK
 rw[H.sum_past hk,e,vec_append,vec_one,news_max,show rowK acts g=(vcF acts (pa acts g)).inc from rfl]
 unfold sumPrev;lia
theorem A8.row {k:Nat}(hk:k<8):rowK acts k=T3.bump (vec acts (rootsA acts k)).inc (hOf acts k).toNat:=by
 unfold rowK
 rw[H.vc hk]
 simp only[T3.inc,T3.bump,Prod.mk.injEq]
 exact⟨Nat.add_right_comm _ _ _,⟨Nat.add_right_comm _ _ _,Nat.add_right_comm _ _ _⟩⟩
end
end
section
structure OrdOk (acts:List Act) (line:List Nat):Prop where
 perm:line.Perm (List.range 8)
 ord:line.Pairwise fun a b=>b∉pa acts a
noncomputable def entK (acts:List Act) (w:List Int) (k:Nat):Book:=
 match cOf acts k with
 | []=>(1,0,wAt w k,0,([],[]))
 | g::_=>(1,1,wAt w k+newsK acts w k,newsK acts w k,([letter (hOf acts g)],[newsK acts w k]))
noncomputable def combB (anew:Bool) (b e:Book):Book:=if anew then addB e b else addB b e
noncomputable def foldB (acts:List Act) (w:List Int) (anew:Bool) (l:List Nat):Book:=l.foldl (fun b k=>combB anew b (entK acts w k)) noBook
noncomputable def ofH (acts:List Act) (A:List Nat) (h:Int):List Nat:=A.filter fun j=>decide (hOf acts j=h)
noncomputable def lastH (acts:List Act) (A:List Nat) (h:Int):List Nat:=(ofH acts A h).drop ((ofH acts A h).length-1)
noncomputable def specR (acts:List Act) (w:List Int) (anew:Bool) (A:List Nat):RSt:=
 ⟨[(vec acts (lastH acts A 0)).inc,(vec acts (lastH acts A 1)).inc,(vec acts (lastH acts A 2)).inc],[foldB acts w anew (ofH acts A 0),foldB acts w anew (ofH acts A 1),foldB acts w anew (ofH acts A 2)],A.map fun k=>(k,rowK acts k)⟩
theorem look_row {acts:List Act}{g:Nat}:∀{A:List Nat},g∈A→look (A.map fun k=>(k,rowK acts k)) g=rowK acts g
 | a::A,h=>by
  unfold look
  rw[List.map_cons,List.find?_cons]
  by_cases e:a=g
  ·subst e;simp
  ·have:(a==g)=false:=by simpa using e
   rw[this]
   rcases List.mem_cons.mp h with q | q
   ·exact absurd q.symm e
   ·exact look_row q
theorem of_snoc {acts:List Act}{A:List Nat}{k:Nat}{h:Int}:ofH acts (A++[k]) h=ofH acts A h++if hOf acts k=h then [k] else []:=by
 unfold ofH
 rw[List.filter_append]
 congr 1
 by_cases e:hOf acts k=h <;> simp[e]
theorem last_snoc {acts:List Act}{A:List Nat}{k:Nat}{h:Int}:lastH acts (A++[k]) h=if hOf acts k=h then [k] else lastH acts A h:=by
 unfold lastH
 rw[of_snoc]
 by_cases e:hOf acts k=h
 ·rw[if_pos e,if_pos e,List.length_append,List.length_singleton,Nat.add_sub_cancel,List.drop_append_of_le_length (Nat.le_refl _),List.drop_length];rfl
 ·rw[if_neg e,if_neg e,List.append_nil]
theorem fold_snoc {acts:List Act}{w:List Int}{anew:Bool}{A:List Nat}{k:Nat}{h:Int}:foldB acts w anew (ofH acts (A++[k]) h)=if hOf acts k=h then combB anew (foldB acts w anew (ofH acts A h)) (entK acts w k) else foldB acts w anew (ofH acts A h):=by
 rw[of_snoc]
 by_cases e:hOf acts k=h
 ·rw[if_pos e,if_pos e];unfold foldB;rw[List.foldl_append];rfl
 ·rw[if_neg e,if_neg e,List.append_nil]
section
variable {cells:List Int}{acts:List Act}(H:A8 cells acts)
include H
theorem A8.split {A B:List Nat}{k:Nat}(ho:OrdOk acts (A++k::B)):k<8∧lastH acts A (hOf acts k)=prevs acts k∧∀g∈cOf acts k,g∈A:=by
 have hm:∀x,x∈A++k::B↔x<8:=fun x=>(ho.perm.mem_iff).trans List.mem_range
 have hk:k<8:=(hm k).mp (List.mem_append_right _ List.mem_cons_self)
 obtain⟨o1,o2,o3⟩:=List.pairwise_append.mp ho.ord
 have oB:=(List.pairwise_cons.mp o2).1
 have inA:∀x,x∈pa acts k→x≠k→x∈A:=fun x hx hne=>by
  have:=H.le hk hx
  rcases List.mem_append.mp ((hm x).mpr (Nat.lt_of_le_of_lt this hk)) with q | q
  ·exact q
  ·rcases List.mem_cons.mp q with q | q
   ·exact absurd q hne
   ·exact absurd hx (oB x q)
 refine⟨hk,?_,fun g hg=>inA g (H.cause_past hg) (by have:=(H.cause hg).1;exact Nat.ne_of_lt this)⟩
 have e:ofH acts A (hOf acts k)=(List.range k).filter fun j=>decide (hOf acts j=hOf acts k):=by
  refine sorted_ext ?_ (List.Pairwise.filter _ List.pairwise_lt_range) fun x=>?_
  ·refine(List.Pairwise.filter _ o1).imp_of_mem fun {a b} ha hb hab=>?_
   obtain⟨a1,a2⟩:=List.mem_filter.mp ha
   obtain⟨b1,b2⟩:=List.mem_filter.mp hb
   refine Nat.lt_of_not_le fun hle=>hab ?_
   exact H.own ((hm a).mp (List.mem_append_left _ a1)) hle ((of_decide_eq_true b2).trans (of_decide_eq_true a2).symm)
  ·unfold ofH
   simp only[List.mem_filter,decide_eq_true_eq,List.mem_range]
   refine⟨fun⟨a,b⟩=>⟨?_,b⟩,fun⟨a,b⟩=>⟨inA x (H.own hk (Nat.le_of_lt a) b) (Nat.ne_of_lt a),b⟩⟩
   have h1:=o3 x a k List.mem_cons_self
   refine Nat.lt_of_not_le fun hle=>h1 ?_
   exact H.own ((hm x).mp (List.mem_append_left _ a)) hle b.symm
 unfold lastH prevs
 rw[e]
theorem A8.stepR {w:List Int}{anew:Bool}{A B:List Nat}{k:Nat}(ho:OrdOk acts (A++k::B)):runStep acts w anew (specR acts w anew A) k=specR acts w anew (A++[k]):=by
 obtain⟨hk,h1,h2⟩:=H.split ho
 have hh:=H.hand hk
 have hr:rowK acts k=T3.bump (vec acts (rootsA acts k)).inc (hOf acts k).toNat:=H.row hk
 have own_at:((specR acts w anew A).own[(hOf acts k).toNat]?).getD (1,1,1)=(vec acts (prevs acts k)).inc:=by
  rw[← h1]
  unfold specR
  rcases(three hh) with q | q | q <;> (rw[q];rfl)
 have pp:(cOf acts k).foldl (takeStep acts w (specR acts w anew A).letters k) ((vec acts (prevs acts k)).inc,(1,0,wAt w k,0,([],[])))=((vec acts (rootsA acts k)).inc,entK acts w k):=by
  unfold entK rootsA
  have h1c:=H.one k
  match hc:cOf acts k,h1c with
  | [],_=>rw[List.append_nil];rfl
  | [g],_=>
   rw[hc] at h2
   have lk:look (specR acts w anew A).letters g=rowK acts g:=look_row (h2 g List.mem_cons_self)
   show takeStep acts w _ k _ g=_
   unfold takeStep
   dsimp only
   rw[lk,← H.news_some (w:=w) hk hc,vec_append,vec_one,← inc_max]
 unfold runStep
 dsimp only
 rw[own_at,pp]
 dsimp only
 rw[← hr]
 unfold specR
 refine RSt.eqs ?_ ?_ ?_
 ·rw[last_snoc,last_snoc,last_snoc]
  have e:rowK acts k=(vec acts [k]).inc:=by rw[vec_one]
  rcases(three hh) with q | q | q <;> (rw[q,e];rfl)
 ·rw[fold_snoc,fold_snoc,fold_snoc]
  rcases(three hh) with q | q | q <;> (rw[q];rfl)
 ·rw[List.map_append];rfl
theorem A8.runs {w:List Int}{anew:Bool}:∀(B A:List Nat),OrdOk acts (A++B)→B.foldl (runStep acts w anew) (specR acts w anew A)=specR acts w anew (A++B)
 | [],A,_=>by rw[List.append_nil];rfl
 | k::B,A,ho=>by
  rw[List.foldl_cons,H.stepR ho,A8.runs B (A++[k]) (by rw[List.append_assoc];exact ho),List.append_assoc];rfl
theorem A8.run {w:List Int}{anew:Bool}{line:List Nat}(ho:OrdOk acts line):runF acts line w anew=specR acts w anew line:=by
 have:=H.runs (w:=w) (anew:=anew) line [] ho
 exact this
theorem A8.line_ok {line:List Nat}(ho:OrdOk acts line):LineOk acts line:=by
 have hl:=ho.perm.length_eq
 rw[List.length_range] at hl
 refine⟨fun k hk=>?_,ho.perm.nodup_iff.mpr List.nodup_range,fun i k hi g hg=>?_,by exact Nat.le_trans (Nat.le_of_eq hl) (by decide)⟩
 ·rw[H.len];exact List.mem_range.mp (ho.perm.mem_iff.mp hk)
 ·have hlt:=(List.getElem?_eq_some_iff.mp hi).1
  have e:line=line.take i++k::line.drop (i+1):=by
   have:=(List.take_append_drop i line).symm
   rw[List.drop_eq_getElem_cons hlt,(List.getElem?_eq_some_iff.mp hi).2] at this
   exact this
  rw[e] at ho
  exact(H.split ho).2.2 g hg
theorem A8.ofH_line {line:List Nat}(ho:OrdOk acts line) (h:Int):ofH acts line h=ownF acts h:=by
 have hm:∀x,x∈line↔x<8:=fun x=>(ho.perm.mem_iff).trans List.mem_range
 refine sorted_ext ?_ own_sorted fun x=>?_
 ·refine(List.Pairwise.filter _ ho.ord).imp_of_mem fun {a b} ha hb hab=>?_
  obtain⟨a1,a2⟩:=List.mem_filter.mp ha
  obtain⟨b1,b2⟩:=List.mem_filter.mp hb
  refine Nat.lt_of_not_le fun hle=>hab ?_
  exact H.own ((hm a).mp a1) hle ((of_decide_eq_true b2).trans (of_decide_eq_true a2).symm)
 ·unfold ofH
  simp only[List.mem_filter,decide_eq_true_eq,own_mem,H.len,hm]
theorem A8.ord_range:OrdOk acts (List.range 8):=by
 refine⟨.refl _,(List.pairwise_lt_range (n:=8)).imp_of_mem fun {a b} ha hb hab hm=>?_⟩
 have:=H.le (List.mem_range.mp ha) hm
 exact Nat.not_lt_of_le this hab
theorem A8.ord_line2 {line:List Nat}(ho:OrdOk acts line) {m:Nat}(hm:m<8):OrdOk acts (line2F line (pa acts m)):=by
 have hx:∀x,x∈line↔x<8:=fun x=>(ho.perm.mem_iff).trans List.mem_range
 refine⟨(List.filter_append_perm (fun k=>decide (k∈pa acts m)) line).trans ho.perm,?_⟩
 unfold line2F
 rw[List.pairwise_append]
 refine⟨List.Pairwise.filter _ ho.ord,List.Pairwise.filter _ ho.ord,fun a ha b hb hab=>?_⟩
 obtain⟨a1,a2⟩:=List.mem_filter.mp ha
 obtain⟨b1,b2⟩:=List.mem_filter.mp hb
 have:=H.trans hm (of_decide_eq_true a2) hab
 simp[this] at b2
end
end
section
noncomputable def lexC:List Nat→T3→T3→Int
 | [],_,_=>0
 | i::c,x,y=>if x.at i<y.at i then -1 else if y.at i<x.at i then 1 else lexC c x y
section
variable {x y z:T3}{i:Nat}{c:List Nat}
theorem lex_lt (h:x.at i<y.at i):lexC (i::c) x y=-1:=if_pos h
theorem lex_gt (h:y.at i<x.at i):lexC (i::c) x y=1:=(if_neg (Nat.lt_asymm h)).trans (if_pos h)
theorem lex_eq (h:x.at i=y.at i):lexC (i::c) x y=lexC c x y:=(if_neg (Nat.not_lt_of_le (Nat.le_of_eq h.symm))).trans (if_neg (Nat.not_lt_of_le (Nat.le_of_eq h)))
theorem cmp_lex {w:Int}(hw:w=1∨w=-1) (c:List Nat):cmpF natLt x.at y.at (mk c w)*w=lexC c x y:=by
 induction c with
 | nil=>exact Int.zero_mul w
 | cons i c ih=>
  have e:∀b1 b2:Bool,natLt (x.at i) (y.at i)=b1→natLt (y.at i) (x.at i)=b2→cmpF natLt x.at y.at (mk (i::c) w)=(if b1=true then some (-w) else if b2=true then some w else cmpO natLt x.at y.at (mk c w)).getD 0:=fun b1 b2 h1 h2=>by rw[← h1,← h2];rfl
  rcases Nat.lt_trichotomy (x.at i) (y.at i) with h | h | h
  ·rw[e true _ (decide_eq_true h) rfl,lex_lt h]
   rcases hw with rfl | rfl <;> rfl
  ·rw[e false false (decide_eq_false (Nat.not_lt_of_le (Nat.le_of_eq h.symm))) (decide_eq_false (Nat.not_lt_of_le (Nat.le_of_eq h))),lex_eq h]
   exact ih
  ·rw[e false true (decide_eq_false (Nat.lt_asymm h)) (decide_eq_true h),lex_gt h]
   rcases hw with rfl | rfl <;> rfl
theorem lex_self (c:List Nat):lexC c x x=0:=by
 induction c with
 | nil=>rfl
 | cons i c ih=>exact(lex_eq rfl).trans ih
theorem lex_vals (c:List Nat):lexC c x y=-1∨lexC c x y=0∨lexC c x y=1:=by
 induction c with
 | nil=>exact .inr (.inl rfl)
 | cons i c ih=>
  rcases Nat.lt_trichotomy (x.at i) (y.at i) with h | h | h
  ·exact .inl (lex_lt h)
  ·rw[lex_eq h];exact ih
  ·exact .inr (.inr (lex_gt h))
theorem lex_neg (c:List Nat):lexC c y x=-lexC c x y:=by
 induction c with
 | nil=>rfl
 | cons i c ih=>
  rcases Nat.lt_trichotomy (x.at i) (y.at i) with h | h | h
  ·rw[lex_lt h,lex_gt h];rfl
  ·rw[lex_eq h,lex_eq h.symm];exact ih
  ·rw[lex_gt h,lex_lt h]
theorem lex_zero (h:lexC c x y=0):∀i∈c,x.at i=y.at i:=by
 induction c with
 | nil=>exact fun i hi=>absurd hi List.not_mem_nil
 | cons j c ih=>
  rcases Nat.lt_trichotomy (x.at j) (y.at j) with h1 | h1 | h1
  ·rw[lex_lt h1] at h;exact absurd h (by decide)
  ·rw[lex_eq h1] at h
   exact fun i hi=>(List.mem_cons.mp hi).elim (fun e=>e▸h1) (ih h i)
  ·rw[lex_gt h1] at h;exact absurd h (by decide)
theorem lex_trans (h:lexC c x y=-1) (h':lexC c y z≤0):lexC c x z=-1:=by
 induction c with
 | nil=>exact absurd h (show ¬(0:Int)=-1 by decide)
 | cons i c ih=>
  rcases Nat.lt_trichotomy (x.at i) (y.at i) with h1 | h1 | h1
  ·rcases Nat.lt_trichotomy (y.at i) (z.at i) with h2 | h2 | h2
   ·exact lex_lt (Nat.lt_trans h1 h2)
   ·exact lex_lt (Nat.lt_of_lt_of_eq h1 h2)
   ·rw[lex_gt h2] at h';exact absurd h' (by decide)
  ·rw[lex_eq h1] at h
   rcases Nat.lt_trichotomy (y.at i) (z.at i) with h2 | h2 | h2
   ·exact lex_lt (Nat.lt_of_le_of_lt (Nat.le_of_eq h1) h2)
   ·rw[lex_eq h2] at h'
    rw[lex_eq (h1.trans h2)];exact ih h h'
   ·rw[lex_gt h2] at h';exact absurd h' (by decide)
  ·rw[lex_gt h1] at h;exact absurd h (by decide)
theorem lex_mono (h:∀i,x.at i≤y.at i) (c:List Nat):lexC c x y≤0:=by
 induction c with
 | nil=>exact Int.le_refl _
 | cons i c ih=>
  rcases Nat.lt_or_eq_of_le (h i) with h1 | h1
  ·rw[lex_lt h1];decide
  ·rw[lex_eq h1];exact ih
theorem lex_le (h:lexC c x y≤0):lexC c x y=-1∨lexC c x y=0:=by
 rcases lex_vals (x:=x) (y:=y) c with q | q | q
 ·exact .inl q
 ·exact .inr q
 ·rw[q] at h;exact absurd h (by decide)
theorem lex_le_trans (h:lexC c x y≤0) (h':lexC c y z≤0):lexC c x z≤0:=by
 rcases lex_le h with q | q
 ·rw[lex_trans q h'];decide
 ·have hz:lexC c z x≤0∨lexC c x z≤0:=by
   rw[lex_neg (x:=x) (y:=z)]
   exact(Int.le_total 0 (lexC c x z)).imp Int.neg_nonpos_of_nonneg id
  refine hz.elim (fun h2=>?_) id
  rcases lex_le h2 with r | r
  ·have r2:=lex_trans r (Int.le_of_eq q)
   rw[lex_neg,r2] at h';exact absurd h' (by decide)
  ·rw[lex_neg,r];decide
end
theorem colsF_or {P:List (List Nat)→Prop}(h1:P [[0,1,2],[1,2,0],[2,0,1]]) (h2:P [[0,2,1],[1,0,2],[2,1,0]]) (b:Int):P (colsF b):=by
 unfold colsF
 by_cases h:b=0
 ·rw[if_pos h];exact h1
 ·rw[if_neg h];exact h2
theorem cols_all (b:Int):∀c∈colsF b,∀i,i<3→i∈c:=colsF_or (P:=fun l=>∀c∈l,∀i,i<3→i∈c) (by decide) (by decide) b
theorem cols_head (b:Int) (i:Nat) (hi:i<3):∃c r,c∈colsF b∧c=i::r:=by
 obtain⟨c,hc,e⟩:=colsF_or (P:=fun l=>∀i,i<3→∃c,c∈l∧i::c.tail=c) (by decide) (by decide) b i hi
 exact⟨c,c.tail,hc,e.symm⟩
theorem sum_le {α:Type}{f g:α→Int}{l:List α}(h:∀x∈l,f x≤g x):(l.map f).sum≤(l.map g).sum:=by
 induction l with
 | nil=>exact Int.le_refl _
 | cons b l ih=>exact Int.add_le_add (h b List.mem_cons_self) (ih fun y hy=>h y (List.mem_cons_of_mem _ hy))
theorem sum_lt {α:Type}{f g:α→Int}{l:List α}(h:∀x∈l,f x≤g x) {x:α}(hx:x∈l) (hlt:f x<g x):(l.map f).sum<(l.map g).sum:=by
 induction l with
 | nil=>exact absurd hx List.not_mem_nil
 | cons b l ih=>
  have h':∀y∈l,f y≤g y:=fun y hy=>h y (List.mem_cons_of_mem _ hy)
  rcases List.mem_cons.mp hx with e | q
  ·exact Int.add_lt_add_of_lt_of_le (e▸hlt) (sum_le h')
  ·exact Int.add_lt_add_of_le_of_lt (h b List.mem_cons_self) (ih h' q)
theorem sum_all {α:Type}{f:α→Int}{k:Int}{l:List α}(h:∀x∈l,f x=k):(l.map f).sum=l.length*k:=by
 induction l with
 | nil=>exact(Int.zero_mul k).symm
 | cons b l ih=>rw[List.map_cons,List.sum_cons,h b List.mem_cons_self,ih fun y hy=>h y (List.mem_cons_of_mem _ hy),List.length_cons,Int.natCast_succ,Int.add_mul,Int.one_mul,Int.add_comm]
theorem perm_sum {l m:List Int}(h:l.Perm m):l.sum=m.sum:=by
 induction h with
 | nil=>rfl
 | cons x _ ih=>rw[List.sum_cons,List.sum_cons,ih]
 | swap x y l=>exact Int.add_left_comm y x l.sum
 | trans _ _ a b=>exact a.trans b
noncomputable abbrev scoreC (c:List Nat) (l:List T3) (x:T3):Int:=(l.map fun y=>lexC c x y).sum
theorem score_lt {c:List Nat}{l:List T3}{x y:T3}(hy:y∈l) (h:lexC c x y=-1):scoreC c l x<scoreC c l y:=by
 refine sum_lt (fun z hz=>?_) hy (by rw[h,lex_self];decide)
 rcases lex_vals (x:=y) (y:=z) c with q | q | q
 ·rw[lex_trans h (by rw[q];decide),q];decide
 ·rw[lex_trans h (by rw[q];decide),q];decide
 ·rw[q];rcases lex_vals (x:=x) (y:=z) c with r | r | r <;> (rw[r];decide)
noncomputable def ups (p:Nat):Nat→List Int
 | 0=>[]
 | n+1=>((p:Int)*1+(0+(n:Int)*-1))::ups (p+1) n
theorem scores_of {c:List Nat}(s:List T3):∀p:List T3,(p++s).Pairwise (fun x y=>lexC c x y=-1)→s.map (scoreC c (p++s))=ups p.length s.length:=by
 induction s with
 | nil=>exact fun p _=>rfl
 | cons a s ih=>
  intro p h
  obtain⟨_,h2,h3⟩:=List.pairwise_append.mp h
  have ha:=(List.pairwise_cons.mp h2).1
  have hp:∀x∈p,lexC c a x=1:=fun x hx=>by rw[lex_neg,h3 x hx a List.mem_cons_self];rfl
  have e:scoreC c (p++a::s) a=(p.length:Int)*1+(0+(s.length:Int)*-1):=by
   show((p++a::s).map fun y=>lexC c a y).sum=_
   rw[List.map_append,List.sum_append,sum_all hp,List.map_cons,List.sum_cons,lex_self,sum_all ha]
  rw[List.map_cons,e]
  have:=ih (p++[a]) (by rw[List.append_assoc];exact h)
  rw[List.append_assoc,List.length_append] at this
  exact congrArg _ this
theorem scores_up {c:List Nat}{l:List T3}(hl:l.length=8) (hd:l.Pairwise fun x y=>lexC c x y≠0):up7.Perm (l.map (scoreC c l)):=by
 have hs:(l.mergeSort fun x y=>decide (lexC c x y≤0)).Pairwise fun x y=>decide (lexC c x y≤0)=true:=
  List.pairwise_mergeSort (le:=fun x y=>decide (lexC c x y≤0)) (fun a b d h1 h2=>decide_eq_true (lex_le_trans (of_decide_eq_true h1) (of_decide_eq_true h2)))
   (fun a b=>by
    rw[Bool.or_eq_true,lex_neg (x:=a) (y:=b)]
    exact(Int.le_total (lexC c a b) 0).imp decide_eq_true fun h=>decide_eq_true (Int.neg_nonpos_of_nonneg h)) l
 have hp:=List.mergeSort_perm l fun x y=>decide (lexC c x y≤0)
 generalize l.mergeSort (fun x y=>decide (lexC c x y≤0))=s at hs hp
 have hds:s.Pairwise fun x y=>lexC c x y≠0:=(hp.pairwise_iff (fun {a b} h e=>h (by rw[lex_neg,e];rfl))).mpr hd
 have hlt:s.Pairwise fun x y=>lexC c x y=-1:=(hs.and hds).imp fun {a b} h=>(lex_le (of_decide_eq_true h.1)).resolve_right h.2
 have hsc:scoreC c l=scoreC c s:=funext fun x=>(perm_sum (hp.map fun y=>lexC c x y)).symm
 rw[hsc]
 refine List.Perm.trans (.of_eq ?_) (hp.map (scoreC c s))
 have:=scores_of s [] hlt
 rw[hp.length_eq,hl] at this
 exact(show up7=ups 0 8 by decide).trans this.symm
end
section
noncomputable def wsK (acts:List Act):List T3:=((pF acts).map (vcF acts)).map T3.inc
theorem filter_len_le {α:Type}{p q:α→Bool}:∀{l:List α},(∀x∈l,p x=true→q x=true)→(l.filter p).length≤(l.filter q).length
 | [],_=>Nat.le_refl _
 | x::l,h=>by
  have ih:=filter_len_le (l:=l) fun y hy=>h y (List.mem_cons_of_mem _ hy)
  by_cases hp:p x=true
  ·rw[List.filter_cons_of_pos hp,List.filter_cons_of_pos (h x List.mem_cons_self hp),List.length_cons,List.length_cons];exact Nat.succ_le_succ ih
  ·rw[List.filter_cons_of_neg hp]
   by_cases hq:q x=true
   ·rw[List.filter_cons_of_pos hq,List.length_cons];exact Nat.le_succ_of_le ih
   ·rw[List.filter_cons_of_neg hq];exact ih
theorem row_at_cnt {acts:List Act}{k i:Nat}(hi:i<3):(rowK acts k).at i=cntF acts (pa acts k) (i:Nat)+1:=by
 match i,hi with
 | 0,_=>rfl
 | 1,_=>rfl
 | 2,_=>rfl
theorem row_at_big {r:T3}{i:Nat}(hi:¬i<3):r.at i=0:=by
 unfold T3.at
 rw[List.getElem?_eq_none (by show 3≤i;exact Nat.le_of_not_lt hi)];rfl
theorem straight_lex {c:List Nat}{w:Int}(hw:w=1∨w=-1) {ws:List T3}:sF c w ws=ws.map fun x=>ws.map fun y=>lexC c x y:=by
 unfold sF
 exact List.map_congr_left fun x J=>List.map_congr_left fun y J=>cmp_lex hw c
theorem scores_lex {c:List Nat}{w:Int}(hw:w=1∨w=-1) {ws:List T3}:scoresF (sF c w ws)=ws.map (scoreC c ws):=by
 rw[straight_lex hw]
 unfold scoresF
 rw[List.map_map];rfl
theorem max_of:∀(l:List Int),l≠[]→∃M,M∈l∧∀a∈l,a≤M
 | [a],_=>⟨a,List.mem_cons_self,fun b hb=>by rw[List.mem_singleton.mp hb];exact Int.le_refl _⟩
 | a::b::l,_=>by
  obtain⟨M,h1,h2⟩:=max_of (b::l) (by simp)
  by_cases h:a≤M
  ·exact⟨M,List.mem_cons_of_mem _ h1,fun x hx=>(List.mem_cons.mp hx).elim (fun e=>by rw[e];exact h) (h2 x)⟩
  ·exact⟨a,List.mem_cons_self,fun x hx=>(List.mem_cons.mp hx).elim (fun e=>by rw[e];exact Int.le_refl _) (fun q=>by have:=h2 x q;lia)⟩
section
variable {cells:List Int}{acts:List Act}(H:A8 cells acts)
include H
theorem A8.ws_len:(wsK acts).length=8:=by unfold wsK;rw[List.length_map,List.length_map,pasts_len,H.len]
theorem A8.ws_at {k:Nat}(hk:k<8):(wsK acts)[k]?=some (rowK acts k):=by
 unfold wsK rowK pa listAt
 rw[List.getElem?_map,List.getElem?_map,List.getElem?_eq_getElem (by rw[pasts_len,H.len];exact hk)];rfl
theorem A8.ws_eq:wsK acts=(List.range 8).map (rowK acts):=by
 apply List.ext_getElem?
 intro i
 by_cases hi:i<8
 ·rw[H.ws_at hi,List.getElem?_map,List.getElem?_range hi];rfl
 ·rw[List.getElem?_eq_none (by rw[H.ws_len];exact Nat.le_of_not_lt hi),List.getElem?_eq_none (by rw[List.length_map,List.length_range];exact Nat.le_of_not_lt hi)]
theorem A8.dom {e f:Nat}(he:e<8) (hf:f<8) (h:e∈pa acts f):∀i,(rowK acts e).at i≤(rowK acts f).at i:=fun i=>by
 by_cases hi:i<3
 ·rw[row_at_cnt hi,row_at_cnt hi]
  unfold cntF
  rw[H.hands he,H.hands hf]
  have:=filter_len_le (l:=ownF acts (i:Nat)) (p:=fun j=>decide (j∈pa acts e)) (q:=fun j=>decide (j∈pa acts f)) fun x J hx=>decide_eq_true (H.trans hf h (of_decide_eq_true hx))
  exact Nat.succ_le_succ this
 ·rw[row_at_big hi,row_at_big hi];exact Nat.le_refl _
theorem A8.strict {e f:Nat}(he:e<8) (hf:f<8) (h:e∉pa acts f):(rowK acts f).at (hOf acts e).toNat<(rowK acts e).at (hOf acts e).toNat:=by
 have hh:=H.hand he
 have hi:(hOf acts e).toNat<3:=by lia
 rw[row_at_cnt hi,row_at_cnt hi,show(((hOf acts e).toNat:Nat):Int)=hOf acts e by exact Int.toNat_of_nonneg hh.1]
 refine Nat.succ_lt_succ (Nat.lt_of_not_le fun hle=>h ?_)
 have h1:=H.take he (hOf acts e)
 have h2:=H.take hf (hOf acts e)
 have m1:e∈(ownF acts (hOf acts e)).filter fun j=>decide (j∈pa acts e):=List.mem_filter.mpr ⟨own_mem.mpr ⟨by rw[H.len];exact he,rfl⟩,decide_eq_true (H.self he)⟩
 rw[h1] at m1
 have e2:(ownF acts (hOf acts e)).take (cntF acts (pa acts e) (hOf acts e))=((ownF acts (hOf acts e)).take (cntF acts (pa acts f) (hOf acts e))).take (cntF acts (pa acts e) (hOf acts e)):=by rw[List.take_take,Nat.min_eq_left hle]
 rw[e2] at m1
 have m2:=List.mem_of_mem_take m1
 rw[← h2] at m2
 exact of_decide_eq_true (List.mem_filter.mp m2).2
theorem A8.distinct {b:Int}{c:List Nat}(hc:c∈colsF b) {e f:Nat}(he:e<8) (hf:f<8) (hne:e≠f):lexC c (rowK acts e) (rowK acts f)≠0:=fun h0=>by
 have hall:∀i,i<3→(rowK acts e).at i=(rowK acts f).at i:=fun i hi=>lex_zero h0 i (cols_all b c hc i hi)
 have h1:e∈pa acts f:=Decidable.byContradiction fun hn=>by
  have:=H.strict he hf hn
  have hh:=H.hand he
  rw[hall _ (by lia)] at this
  exact Nat.lt_irrefl _ this
 have h2:f∈pa acts e:=Decidable.byContradiction fun hn=>by
  have:=H.strict hf he hn
  have hh:=H.hand hf
  rw[hall _ (by lia)] at this
  exact Nat.lt_irrefl _ this
 exact hne (H.anti he hf h1 h2)
theorem A8.ws_pair {b:Int}{c:List Nat}(hc:c∈colsF b):(wsK acts).Pairwise fun x y=>lexC c x y≠0:=by
 rw[H.ws_eq,List.pairwise_map]
 exact(List.pairwise_lt_range (n:=8)).imp_of_mem fun {a d} ha hd h=>H.distinct hc (List.mem_range.mp ha) (List.mem_range.mp hd) (Nat.ne_of_lt h)
theorem A8.scores {b w:Int}{c:List Nat}(hc:c∈colsF b) (hw:w=1∨w=-1):up7.Perm (scoresF (sF c w (wsK acts))):=by
 rw[scores_lex hw]
 exact scores_up H.ws_len (H.ws_pair hc)
theorem A8.before {b:Int}{c:List Nat}(hc:c∈colsF b) {e f:Nat}(he:e<8) (hf:f<8) (h:e∈pa acts f) (hne:e≠f):lexC c (rowK acts e) (rowK acts f)=-1:=by
 have h1:=lex_mono (H.dom he hf h) c
 have h2:=H.distinct hc he hf hne
 rcases lex_vals (x:=rowK acts e) (y:=rowK acts f) c with q | q | q <;> lia
theorem A8.line {b w:Int}{c:List Nat}(hc:c∈colsF b) (hw:w=1∨w=-1):OrdOk acts (lineF (scoresF (sF c w (wsK acts)))):=by
 rw[scores_lex hw]
 have hl:((wsK acts).map (scoreC c (wsK acts))).length=8:=by rw[List.length_map];exact H.ws_len
 refine⟨by have:=line_perm ((wsK acts).map (scoreC c (wsK acts)));rwa [hl] at this,?_⟩
 have mem:∀p∈argsF ((wsK acts).map (scoreC c (wsK acts))),p.2<8∧p.1=scoreC c (wsK acts) (rowK acts p.2):=fun p hp=>by
  have h1:=(args_perm _).mem_iff.mp hp
  obtain⟨x,k⟩:=p
  have h2:=List.mem_zipIdx h1
  have hk:k<8:=by lia
  refine⟨hk,?_⟩
  rw[h2.2.2]
  simp only[Nat.sub_zero,List.getElem_map]
  have:=H.ws_at hk
  rw[List.getElem?_eq_getElem (by rw[H.ws_len];exact hk)] at this
  rw[Option.some.inj this]
 unfold lineF
 rw[List.pairwise_map]
 have hnd:((argsF ((wsK acts).map (scoreC c (wsK acts)))).map (·.2)).Nodup:=by
  have:=line_perm ((wsK acts).map (scoreC c (wsK acts)))
  exact this.nodup_iff.mpr List.nodup_range
 have hnd':(argsF ((wsK acts).map (scoreC c (wsK acts)))).Pairwise fun a b=>a.2≠b.2:=List.pairwise_map.mp hnd
 refine((args_lt (by rw[hl];decide)).and hnd').imp_of_mem fun {p q} hp hq hZ hm=>?_
 obtain⟨h1,h2⟩:=hZ
 obtain⟨p1,p2⟩:=mem p hp
 obtain⟨q1,q2⟩:=mem q hq
 have hlt:=score_lt (l:=wsK acts) (List.mem_of_getElem? (H.ws_at p1)) (H.before hc q1 p1 hm (fun e=>h2 e.symm))
 rw[← p2,← q2] at hlt
 unfold rnk at h1
 lia
theorem A8.max3 {t:Int}{e f:Nat}(he:e<8) (hf:f<8):∃M,M∈((ordF t).map fun p=>sF p.1 p.2 (wsK acts)).map (cell3 · e f)∧(∀a∈((ordF t).map fun p=>sF p.1 p.2 (wsK acts)).map (cell3 · e f),a≤M)∧(decide (M≤0)=decide (e∈pa acts f)):=by
 have hcell:∀p∈ordF t,cell3 (sF p.1 p.2 (wsK acts)) e f=lexC p.1 (rowK acts e) (rowK acts f):=fun p hp=>by
  rw[straight_lex (ord_ok.2 p hp).2]
  unfold cell3 intAt
  rw[List.getElem?_map,H.ws_at he]
  show(((wsK acts).map fun y=>lexC p.1 (rowK acts e) y)[f]?).getD 0=_
  rw[List.getElem?_map,H.ws_at hf];rfl
 have hmap:((ordF t).map fun p=>sF p.1 p.2 (wsK acts)).map (cell3 · e f)=(ordF t).map fun p=>lexC p.1 (rowK acts e) (rowK acts f):=by
  rw[List.map_map]
  exact List.map_congr_left hcell
 rw[hmap]
 obtain⟨M,h1,h2⟩:=max_of ((ordF t).map fun p=>lexC p.1 (rowK acts e) (rowK acts f)) (fun hn=>by
  have:=congrArg List.length hn
  rw[List.length_map,ord_ok.1] at this;cases this)
 refine⟨M,h1,h2,decide_eq_decide.mpr ⟨fun hM=>Decidable.byContradiction fun hn=>?_,fun hm=>?_⟩⟩
 ·have hh:=H.hand he
  obtain⟨c,r,hc,rfl⟩:=cols_head (t.fmod 2) (hOf acts e).toNat (by lia)
  obtain⟨i,hi⟩:=List.getElem?_of_mem hc
  have hi3:=(List.getElem?_eq_some_iff.mp hi).1
  have hz:∃w,((hOf acts e).toNat::r,w)∈ordF t:=by
   have hil:i<(waysF t).length:=by rw[(cols_ok (t.fmod 2)).1] at hi3;exact hi3
   exact⟨(waysF t)[i],List.mem_of_getElem? (List.getElem?_zip_eq_some.mpr ⟨hi,List.getElem?_eq_getElem hil⟩)⟩
  obtain⟨w,hw⟩:=hz
  have:=h2 _ (List.mem_map.mpr ⟨_,hw,rfl⟩)
  have hs:=H.strict he hf hn
  dsimp only at this
  rw[lex_gt hs] at this
  exact Int.not_le_of_gt (Int.lt_of_le_of_lt hM (by decide)) this
 ·obtain⟨p,hp,rfl⟩:=List.mem_map.mp h1
  exact lex_mono (H.dom he hf hm) _
end
end
section
noncomputable abbrev keyOf (ks:List (Nat×Int)) (r:List Int):List Int:=ks.map fun p=>intAt r p.1*p.2
section
variable {a b:Int}{x y:List Int}
theorem lexLt_lt (h:a<b):lexLt (a::x) (b::y)=true:=(if_neg (Int.ne_of_lt h)).trans (decide_eq_true h)
theorem lexLt_gt (h:b<a):lexLt (a::x) (b::y)=false:=(if_neg fun e=>Int.ne_of_lt h e.symm).trans (decide_eq_false (Int.lt_asymm h))
theorem lexLt_eq (h:a=b):lexLt (a::x) (b::y)=lexLt x y:=if_pos h
theorem b2i_at {w:Int}(hw:w=1∨w=-1) (h:a<b):b2i (lexLt (b*w::y) (a*w::x))-b2i (lexLt (a*w::x) (b*w::y))=-w:=by
 rcases hw with rfl | rfl
 ·rw[Int.mul_one,Int.mul_one,lexLt_lt h,lexLt_gt h];rfl
 ·rw[Int.mul_neg,Int.mul_neg,Int.mul_one,Int.mul_one,lexLt_lt (Int.neg_lt_neg h),lexLt_gt (Int.neg_lt_neg h)];rfl
end
theorem told_key {x y:List Int}{ks:List (Nat×Int)}(h:∀p∈ks,p.2=1∨p.2=-1):cmpF intLt (intAt x) (intAt y) ks=b2i (lexLt (keyOf ks y) (keyOf ks x))-b2i (lexLt (keyOf ks x) (keyOf ks y)):=by
 induction ks with
 | nil=>rfl
 | cons p ks ih=>
  have hp:=h p List.mem_cons_self
  obtain⟨i,w⟩:=p
  have e:∀b1 b2:Bool,intLt (intAt x i) (intAt y i)=b1→intLt (intAt y i) (intAt x i)=b2→cmpF intLt (intAt x) (intAt y) ((i,w)::ks)=(if b1=true then some (-w) else if b2=true then some w else cmpO intLt (intAt x) (intAt y) ks).getD 0:=fun b1 b2 h1 h2=>by rw[← h1,← h2];rfl
  rcases Int.lt_trichotomy (intAt x i) (intAt y i) with h1 | h1 | h1
  ·exact(e true _ (decide_eq_true h1) rfl).trans (b2i_at hp h1).symm
  ·refine(e false false (decide_eq_false (h1▸Int.lt_irrefl _)) (decide_eq_false (h1▸Int.lt_irrefl _))).trans ?_
   have e1:intAt x i*w=intAt y i*w:=congrArg (·*w) h1
   show _=b2i (lexLt (intAt y i*w::keyOf ks y) (intAt x i*w::keyOf ks x))-b2i (lexLt (intAt x i*w::keyOf ks x) (intAt y i*w::keyOf ks y))
   rw[lexLt_eq e1,lexLt_eq e1.symm]
   exact ih fun q hq=>h q (List.mem_cons_of_mem _ hq)
  ·refine(e false true (decide_eq_false (Int.lt_asymm h1)) (decide_eq_true h1)).trans ?_
   have:=b2i_at (x:=keyOf ks y) (y:=keyOf ks x) hp h1
   show w=b2i (lexLt (intAt y i*w::keyOf ks y) (intAt x i*w::keyOf ks x))-b2i (lexLt (intAt x i*w::keyOf ks x) (intAt y i*w::keyOf ks y))
   rw[← Int.neg_sub,this,Int.neg_neg]
theorem told_all {ks:List (Nat×Int)}(h:∀p∈ks,p.2=1∨p.2=-1) (figs:List (List Int)):toldF ks figs=(keyedF ks figs).map fun a=>(keyedF ks figs).map fun b=>b2i (lexLt b a)-b2i (lexLt a b):=by
 unfold toldF keyedF
 rw[List.map_map]
 refine List.map_congr_left fun x J=>?_
 show _=(figs.map fun r=>keyOf ks r).map _
 rw[List.map_map]
 exact List.map_congr_left fun y J=>told_key h
theorem joinE_len {l:List Str}{m:Nat}(h:∀x∈l,x.length≤m):(Txt.join ⟨#[]⟩ l).length≤l.length*m:=by
 have e:(Txt.join ⟨#[]⟩ l).length=(joinL [] (l.map tl)).length:=by
  have e0:tl (Txt.join ⟨#[]⟩ l)=joinL [] (l.map tl):=join_list ⟨#[]⟩ l
  rw[← e0];rfl
 rw[e]
 cases l with
 | nil=>simp[joinL]
 | cons x l=>
  have hx:(tl x).length≤m:=h x List.mem_cons_self
  have:∀l:List Str,(∀x∈l,x.length≤m)→(((l.map tl).map fun q=>[]++q).flatten).length≤l.length*m:=by
   intro l
   induction l with
   | nil=>intro _;simp
   | cons y l ih=>
    intro h
    have hy:(tl y).length≤m:=h y List.mem_cons_self
    have:=ih fun z hz=>h z (List.mem_cons_of_mem _ hz)
    simp only[List.map_cons,List.flatten_cons,List.length_append,List.length_cons,List.length_nil,Nat.succ_mul] at this ⊢
    lia
  have:=this l fun z hz=>h z (List.mem_cons_of_mem _ hz)
  simp only[List.map_cons,joinL,List.length_append,List.length_cons,Nat.succ_mul] at this ⊢
  lia
noncomputable def opnS (p:Str):Str:=(⟨#[40]⟩:Str)++p
noncomputable def clsS (p:Str):Str:=(⟨#[41]⟩:Str)++p
theorem txt_good (i:Fin 6):checkF (Txt.join ⟨#[]⟩ [opnS ((piecesL[i.val]?).getD ⟨#[]⟩),clsS ((piecesL[i.val]?).getD ⟨#[]⟩)])=true:=by revert i;decide +kernel
theorem txt_open (i:Fin 6):checkF (Txt.join ⟨#[]⟩ [opnS ((piecesL[i.val]?).getD ⟨#[]⟩)])=false:=by revert i;decide +kernel
theorem txt_back (i:Fin 6):checkF (Txt.join ⟨#[]⟩ [clsS ((piecesL[i.val]?).getD ⟨#[]⟩),opnS ((piecesL[i.val]?).getD ⟨#[]⟩)])=false:=by revert i;decide +kernel
theorem piece_fin (total:Int) (k:Nat):∃i:Fin 6,pieceAt total k=(piecesL[i.val]?).getD ⟨#[]⟩:=by
 have h:=fmod_range (((k:Nat):Int)+total) (show(0:Int)<6 by decide)
 exact⟨⟨((((k:Nat):Int)+total).fmod 6).toNat,by omega⟩,rfl⟩
section
variable {cells:List Int}{acts:List Act}(H:A8 cells acts)
include H
theorem A8.taken_iff {k:Nat}:k∈takenF acts↔∃t,t<8∧k∈cOf acts t:=by
 unfold takenF
 rw[List.mem_flatMap]
 refine⟨fun⟨a,ha,hk⟩=>?_,fun⟨t,ht,hk⟩=>?_⟩
 ·obtain⟨t,h⟩:=List.getElem?_of_mem ha
  have:=(List.getElem?_eq_some_iff.mp h).1
  exact⟨t,by have:=H.len;lia,by unfold cOf;rw[h];exact hk⟩
 ·unfold cOf at hk
  rw[List.getElem?_eq_getElem (by rw[H.len];exact ht)] at hk
  exact⟨_,List.getElem_mem _,hk⟩
theorem A8.text_not {line:List Nat}(ho:line.Perm (List.range 8)) {k:Nat}(hk:k<8) (hn:k∉takenF acts) (p:Str):textF acts line k p=Txt.join ⟨#[]⟩ [opnS p]:=by
 have e:line.filter (fun j=>decide (j=k∨k∈cOf acts j))=[k]:=by
  have hp:(line.filter fun j=>decide (j=k∨k∈cOf acts j)).Perm [k]:=by
   refine(List.perm_ext_iff_of_nodup ((ho.nodup_iff.mpr List.nodup_range).filter _) (by simp)).mpr fun x=>?_
   simp only[List.mem_filter,decide_eq_true_eq,List.mem_singleton,ho.mem_iff,List.mem_range]
   refine⟨fun⟨h1,h2⟩=>h2.elim id fun h=>absurd (H.taken_iff.mpr ⟨x,h1,h⟩) hn,fun h=>by subst h;exact⟨hk,.inl rfl⟩⟩
  exact List.perm_singleton.mp hp
 unfold textF textL
 rw[e]
 simp only[List.map_cons,List.map_nil,brk,if_true];rfl
theorem A8.text_two {line:List Nat}(ho:OrdOk acts line) {k t:Nat}(hk:k∈cOf acts t):line.filter (fun j=>decide (j=k∨k∈cOf acts j))=[k,t]:=by
 obtain⟨h1,h2,_⟩:=H.cause hk
 have hne:k≠t:=by exact Nat.ne_of_lt h1
 have hp:(line.filter fun j=>decide (j=k∨k∈cOf acts j)).Perm [k,t]:=by
  refine(List.perm_ext_iff_of_nodup ((ho.perm.nodup_iff.mpr List.nodup_range).filter _) (by simp[hne])).mpr fun x=>?_
  simp only[List.mem_filter,decide_eq_true_eq,List.mem_cons,List.not_mem_nil,or_false,ho.perm.mem_iff,List.mem_range]
  refine⟨fun⟨q1,q2⟩=>q2.elim .inl fun h=>.inr (H.once h hk),fun h=>?_⟩
  rcases h with rfl | rfl
  ·exact⟨by exact Nat.lt_trans h1 h2,.inl rfl⟩
  ·exact⟨h2,.inr hk⟩
 have hord:=List.Pairwise.filter (fun j=>decide (j=k∨k∈cOf acts j)) ho.ord
 generalize line.filter (fun j=>decide (j=k∨k∈cOf acts j))=f at hp hord
 have hl:=hp.length_eq
 match f,hl with
 | [a,b],_=>
  have ma:a∈[k,t]:=hp.mem_iff.mp List.mem_cons_self
  have mb:b∈[k,t]:=hp.mem_iff.mp (List.mem_cons_of_mem _ List.mem_cons_self)
  have hnd:a≠b:=by
   have:=hp.nodup_iff.mpr (by simp[hne])
   simpa using this
  have hab:b∉pa acts a:=(List.pairwise_cons.mp hord).1 b List.mem_cons_self
  simp only[List.mem_cons,List.not_mem_nil,or_false] at ma mb
  rcases ma with rfl | rfl
  ·rcases mb with rfl | rfl
   ·exact absurd rfl hnd
   ·rfl
  ·rcases mb with rfl | rfl
   ·exact absurd (H.cause_past hk) hab
   ·exact absurd rfl hnd
theorem A8.text_taken {line:List Nat}(ho:OrdOk acts line) {k t:Nat}(hk:k∈cOf acts t) (p:Str):textF acts line k p=Txt.join ⟨#[]⟩ [opnS p,clsS p]∧textF acts line.reverse k p=Txt.join ⟨#[]⟩ [clsS p,opnS p]:=by
 have e:=H.text_two ho hk
 have hne:t≠k:=by have:=(H.cause hk).1;exact Nat.ne_of_gt this
 refine⟨?_,?_⟩
 ·unfold textF textL
  rw[e]
  simp only[List.map_cons,List.map_nil,brk,if_true,hne,if_false];rfl
 ·unfold textF textL
  rw[List.filter_reverse,e]
  simp only[List.reverse_cons,List.reverse_nil,List.nil_append,List.cons_append,List.map_cons,List.map_nil,brk,if_true,hne,if_false];rfl
theorem A8.valid {line:List Nat}(ho:OrdOk acts line) {k:Nat}(hk:k<8) (total:Int):validF (textF acts line k (pieceAt total k))=if k∈takenF acts then textF acts line k (pieceAt total k) else noMail:=by
 obtain⟨i,hi⟩:=piece_fin total k
 unfold validF
 by_cases h:k∈takenF acts
 ·rw[if_pos h]
  obtain⟨t,_,hc⟩:=H.taken_iff.mp h
  rw[(H.text_taken ho hc _).1,hi,txt_good];rfl
 ·rw[if_neg h,H.text_not ho.perm hk h,hi,txt_open];rfl
theorem A8.valid_back {line:List Nat}(ho:OrdOk acts line) {k:Nat}(hk:k<8) (total:Int):validF (textF acts line.reverse k (pieceAt total k))=noMail:=by
 obtain⟨i,hi⟩:=piece_fin total k
 unfold validF
 by_cases h:k∈takenF acts
 ·obtain⟨t,_,hc⟩:=H.taken_iff.mp h
  rw[(H.text_taken ho hc _).2,hi,txt_back];rfl
 ·rw[H.text_not ((List.reverse_perm line).trans ho.perm) hk h,hi,txt_open];rfl
omit H in
theorem text_len8 {line:List Nat}(hl:line.length≤8) (k:Nat) (total:Int):(textF acts line k (pieceAt total k)).length≤48:=by
 have hp:=(piece_at total k).2
 have h1:∀x∈textL acts line k (pieceAt total k),x.length≤6:=fun x hx=>by
  obtain⟨j,_,rfl⟩:=List.mem_map.mp hx
  rw[strLen_append]
  unfold brk
  split
  ·show 1+_≤_;exact Nat.le_trans (Nat.add_le_add_left hp _) (by decide)
  ·show 1+_≤_;exact Nat.le_trans (Nat.add_le_add_left hp _) (by decide)
 have h2:(textL acts line k (pieceAt total k)).length≤8:=by
  unfold textL
  rw[List.length_map]
  exact Nat.le_trans (List.length_filter_le _ _) hl
 unfold textF
 have:=joinE_len h1
 have:=Nat.mul_le_mul h2 (Nat.le_refl 6)
 lia
end
end
section
theorem at_cons {k j:Str}{v:Int}{ks:List Str}{vs:List Int}:Tab.at (k::ks,v::vs) j=if j=k then v else Tab.at (ks,vs) j:=by
 unfold Tab.at
 by_cases h:j=k
 ·subst h;simp[List.idxOf_cons]
 ·rw[if_neg h,List.idxOf_cons]
  have:(k==j)=false:=by simpa using fun e:k=j=>h e.symm
  rw[this];simp
theorem zip_keep {k:Str}{v:Int}(l:List Str) (m:List Int) (hc:k∉l) (hm:l.length=m.length):List.zipWith (fun k' x=>if k'=k then v else x) l m=m:=by
 induction l generalizing m with
 | nil=>exact(List.eq_nil_of_length_eq_zero hm.symm).symm
 | cons c l ih=>
  cases m with
  | nil=>cases hm
  | cons d m=>
   have hck:¬c=k:=fun e=>hc (by rw[e];exact List.mem_cons_self)
   rw[List.zipWith_cons_cons,if_neg hck,ih m (fun q=>hc (List.mem_cons_of_mem _ q)) (Nat.succ.inj hm)]
theorem put_hit {k:Str}{b v:Int}{ks:List Str}{vs:List Int}(h:k∉ks) (hl:ks.length=vs.length):Tab.put (k::ks,b::vs) k v=(k::ks,v::vs):=by
 unfold Tab.put putK putV
 simp only[List.mem_cons,true_or,if_true,List.zipWith_cons_cons,Prod.mk.injEq,true_and,List.cons.injEq]
 exact zip_keep ks vs h hl
theorem put_miss {k a:Str}{b v:Int}{ks:List Str}{vs:List Int}(hk:¬k=a):Tab.put (a::ks,b::vs) k v=(a::(Tab.put (ks,vs) k v).1,b::(Tab.put (ks,vs) k v).2):=by
 have hk':¬a=k:=fun e=>hk e.symm
 unfold Tab.put putK putV
 by_cases hm:k∈ks
 ·simp[hm,hk,hk']
 ·simp[hm,hk,hk']
theorem put_at {t:Tab}(h:t.ok) (k j:Str) (v:Int):(t.put k v).at j=if j=k then v else t.at j:=by
 obtain⟨ks,vs⟩:=t
 obtain⟨hl,hn⟩:=h
 dsimp only at hl hn
 induction ks generalizing vs with
 | nil=>
  cases vs with
  | nil=>show Tab.at ([k],[v]) j=_;rw[at_cons]
  | cons _ _=>simp at hl
 | cons a ks ih=>
  cases vs with
  | nil=>simp at hl
  | cons b vs=>
   obtain⟨n1,n2⟩:=List.nodup_cons.mp hn
   have ih:=ih vs (by simpa using hl) n2
   by_cases hk:k=a
   ·subst hk
    rw[put_hit n1 (by simpa using hl),at_cons,at_cons]
    by_cases hj:j=k
    ·rw[if_pos hj,if_pos hj]
    ·rw[if_neg hj,if_neg hj,if_neg hj]
   ·rw[put_miss hk,at_cons,at_cons]
    by_cases hj:j=a
    ·rw[if_pos hj,if_pos hj,if_neg (fun e=>hk (e.symm.trans hj))]
    ·rw[if_neg hj,if_neg hj];exact ih
theorem put_mem {t:Tab}{k j:Str}{v:Int}:j∈(t.put k v).1↔j∈t.1∨j=k:=by
 show j∈putK t.1 k↔_
 unfold putK
 split
 ·rename_i h
  exact⟨.inl,fun q=>q.elim id fun e=>e▸h⟩
 ·simp
theorem put_sum {t:Tab}(h:t.ok) (k:Str) (v:Int):(t.put k v).2.sum=t.2.sum-t.at k+v:=by
 obtain⟨ks,vs⟩:=t
 obtain⟨hl,hn⟩:=h
 dsimp only at hl hn
 induction ks generalizing vs with
 | nil=>
  cases vs with
  | nil=>simp[Tab.put,putV,Tab.at]
  | cons _ _=>simp at hl
 | cons a ks ih=>
  cases vs with
  | nil=>simp at hl
  | cons b vs=>
   obtain⟨n1,n2⟩:=List.nodup_cons.mp hn
   have ih:=ih vs (by simpa using hl) n2
   by_cases hk:k=a
   ·subst hk
    rw[put_hit n1 (by simpa using hl),at_cons,if_pos rfl]
    simp only[List.sum_cons];lia
   ·rw[put_miss hk,at_cons,if_neg hk]
    simp only[List.sum_cons] at ih ⊢;rw[ih];lia
theorem add_put {t:Tab}(h:t.ok) (p:Str×Int):t.add p=t.put p.1 (t.at p.1+p.2):=by
 unfold Tab.add
 split
 ·rfl
 ·rename_i hn
  rw[at_none h hn,Int.zero_add]
theorem copy_tab (ks:List Str) (vs:List Int) (a:Tab) (ha:a.1.length=a.2.length) (h:ks.length=vs.length) (hn:(a.1++ks).Nodup):(ks.zip vs).foldl (fun(a:Tab) p=>a.put p.1 p.2) a=(a.1++ks,a.2++vs):=by
 induction ks generalizing vs a with
 | nil=>
  obtain rfl:=List.eq_nil_of_length_eq_zero h.symm
  exact(congr (congrArg Prod.mk (List.append_nil _)) (List.append_nil _)).symm
 | cons k ks ih=>
  cases vs with
  | nil=>cases h
  | cons v vs=>
   have hk:k∉a.1:=fun hm=>(List.nodup_append.mp hn).2.2 _ hm _ List.mem_cons_self rfl
   have e:a.put k v=(a.1++[k],a.2++[v]):=by unfold Tab.put;rw[putK_new hk,putV_new hk]
   rw[List.append_cons] at hn
   rw[List.append_cons,List.append_cons a.2,List.zip_cons_cons,List.foldl_cons]
   dsimp only
   rw[e]
   exact ih vs _ (by rw[List.length_append,List.length_append,ha];rfl) (Nat.succ.inj h) hn
theorem copy_ok {t:Tab}(h:t.ok):(t.1.zip t.2).foldl (fun(a:Tab) p=>a.put p.1 p.2) ([],[])=t:=by
 rw[copy_tab t.1 t.2 ([],[]) rfl h.1 (by simpa using h.2)];simp
theorem call_nil {t:Tab}(h:t.ok):addCallers t ([],[])=t:=by
 unfold addCallers
 rw[copy_ok h];rfl
theorem call_one {t:Tab}(h:t.ok) (l:Str) (v:Int):addCallers t ([l],[v])=t.put l (t.at l+v):=by
 unfold addCallers
 rw[copy_ok h]
 show t.add (l,v)=_
 rw[add_put h]
theorem call_sem {t s:Tab}(ht:t.ok) (hs:s.ok):(addCallers t s).ok∧∀j,(j∈(addCallers t s).1↔j∈t.1∨j∈s.1)∧(addCallers t s).at j=t.at j+s.at j:=by
 unfold addCallers
 rw[copy_ok ht]
 obtain⟨ks,vs⟩:=s
 obtain⟨hl,hn⟩:=hs
 dsimp only at hl hn ⊢
 induction ks generalizing vs t with
 | nil=>
  cases vs with
  | nil=>exact⟨ht,fun j=>⟨by simp,by simp[Tab.at]⟩⟩
  | cons _ _=>simp at hl
 | cons k ks ih=>
  cases vs with
  | nil=>simp at hl
  | cons v vs=>
   obtain⟨n1,n2⟩:=List.nodup_cons.mp hn
   rw[List.zip_cons_cons,List.foldl_cons,add_put ht]
   have hp:=Tab.put_ok (k:=k) (v:=t.at k+v) ht
   obtain⟨i1,i2⟩:=ih (t:=t.put k (t.at k+v)) hp vs (by simpa using hl) n2
   refine⟨i1,fun j=>?_⟩
   obtain⟨i3,i4⟩:=i2 j
   refine⟨?_,?_⟩
   ·rw[i3,put_mem,List.mem_cons,or_assoc]
   ·rw[i4,put_at ht,at_cons]
    by_cases hj:j=k
    ·subst hj
     have hz:Tab.at (ks,vs) j=0:=by
      have hok:Tab.ok (ks,vs):=⟨by simpa using hl,n2⟩
      exact at_none hok n1
     rw[if_pos rfl,if_pos rfl,hz];lia
    ·rw[if_neg hj,if_neg hj]
structure TabEq (t s:Tab):Prop where
 okt:t.ok
 oks:s.ok
 mem:∀j,j∈t.1↔j∈s.1
 at_:∀j,t.at j=s.at j
theorem idx_at {t:Tab}(h:t.ok) {k:Str}(hk:k∈t.1):t.1[t.1.idxOf k]?=some k∧t.2[t.1.idxOf k]?=some (t.at k):=by
 have hlt:=List.idxOf_lt_length_of_mem hk
 refine⟨by rw[List.getElem?_eq_getElem hlt,List.getElem_idxOf],?_⟩
 unfold Tab.at
 rw[List.getElem?_eq_getElem (by rw[← h.1];exact hlt)];rfl
theorem TabEq.same {t s:Tab}(h:TabEq t s):TabSame t s:=by
 have hp:t.1.Perm s.1:=(List.perm_ext_iff_of_nodup h.okt.2 h.oks.2).mpr h.mem
 refine⟨by rw[← h.okt.1,← h.oks.1,hp.length_eq],fun i k x hk hx=>?_⟩
 have hm:=List.mem_of_getElem? hk
 obtain⟨s1,s2⟩:=idx_at h.oks ((h.mem k).mp hm)
 refine⟨_,s1,?_⟩
 rw[s2,← h.at_ k]
 obtain⟨t1,t2⟩:=idx_at h.okt hm
 have hlt:=List.idxOf_lt_length_of_mem hm
 have hi:=(List.getElem?_eq_some_iff.mp hk).1
 have e:i=t.1.idxOf k:=by
  refine Decidable.byContradiction fun hne=>?_
  have q1:=(List.getElem?_eq_some_iff.mp hk).2
  have q2:=(List.getElem?_eq_some_iff.mp t1).2
  rcases Nat.lt_or_gt_of_ne hne with q | q
  ·exact(List.pairwise_iff_getElem.mp h.okt.2 _ _ hi hlt q) (q1.trans q2.symm)
  ·exact(List.pairwise_iff_getElem.mp h.okt.2 _ _ hlt hi q) (q2.trans q1.symm)
 rw[e,t2] at hx
 exact congrArg some (Option.some.inj hx)
end
section
theorem wAt_nat {l:List Int}{i:Nat}{x:Int}(h:l[i]?=some x):wAt l i=x:=by unfold wAt;rw[h];rfl
theorem ent_nil {acts:List Act}{w:List Int}{k:Nat}(h:cOf acts k=[]):entK acts w k=(1,0,wAt w k,0,([],[])):=by unfold entK;rw[h]
theorem ent_one {acts:List Act}{w:List Int}{k g:Nat}{l:List Nat}(h:cOf acts k=g::l):entK acts w k=(1,1,wAt w k+newsK acts w k,newsK acts w k,([letter (hOf acts g)],[newsK acts w k])):=by unfold entK;rw[h]
theorem ent_ok (acts:List Act) (w:List Int) (k:Nat):(entK acts w k).2.2.2.2.ok:=by
 cases h:cOf acts k with
 | nil=>rw[ent_nil h];exact⟨rfl,List.nodup_nil⟩
 | cons g l=>rw[ent_one h];exact⟨rfl,List.pairwise_singleton _ _⟩
theorem noBook_ok:(noBook).2.2.2.2.ok:=⟨rfl,List.nodup_nil⟩
structure BookEq (b c:Book):Prop where
 e1:b.1=c.1
 e2:b.2.1=c.2.1
 e3:b.2.2.1=c.2.2.1
 e4:b.2.2.2.1=c.2.2.2.1
 tab:TabEq b.2.2.2.2 c.2.2.2.2
theorem add_turn {a b c:Int}(h:b=c):b+a=a+c:=by rw[h,Int.add_comm]
theorem fold_eq {acts:List Act}{w:List Int}(l:List Nat):∀b c:Book,BookEq b c→BookEq (l.foldl (fun b k=>combB true b (entK acts w k)) b) (l.foldl (fun b k=>combB false b (entK acts w k)) c):=by
 induction l with
 | nil=>exact fun b c h=>h
 | cons k l ih=>
  intro b c h
  have he:=ent_ok acts w k
  obtain⟨a1,a2⟩:=call_sem he h.tab.okt
  obtain⟨b1,b2⟩:=call_sem h.tab.oks he
  refine ih _ _ ⟨add_turn h.e1,add_turn h.e2,add_turn h.e3,add_turn h.e4,⟨a1,b1,fun j=>?_,fun j=>?_⟩⟩
  ·exact(a2 j).1.trans ((or_congr_right (h.tab.mem j)).trans (Or.comm.trans (b2 j).1.symm))
  ·exact(a2 j).2.trans ((Int.add_comm _ _).trans ((congrArg (·+_) (h.tab.at_ j)).trans (b2 j).2.symm))
theorem book_eq {acts:List Act}{w:List Int}(l:List Nat):BookSame (foldB acts w true l) (foldB acts w false l):=by
 have h:=fold_eq (acts:=acts) (w:=w) l noBook noBook ⟨rfl,rfl,rfl,rfl,noBook_ok,noBook_ok,fun J=>Iff.rfl,fun J=>rfl⟩
 exact⟨h.e1,h.e2,h.e3,h.e4,h.tab.same⟩
theorem fold_sum {acts:List Act}{w:List Int}(l:List Nat):∀b:Book,b.2.2.2.2.ok→b.2.2.2.2.2.sum=b.2.2.2.1→(l.foldl (fun b k=>combB false b (entK acts w k)) b).2.2.2.2.2.sum=(l.foldl (fun b k=>combB false b (entK acts w k)) b).2.2.2.1:=by
 induction l with
 | nil=>exact fun b _ h=>h
 | cons k l ih=>
  intro b ho h
  refine ih _ (call_sem ho (ent_ok acts w k)).1 ?_
  show(addCallers b.2.2.2.2 (entK acts w k).2.2.2.2).2.sum=(entK acts w k).2.2.2.1+b.2.2.2.1
  cases hc:cOf acts k with
  | nil=>rw[ent_nil hc,call_nil ho,h];exact(Int.zero_add _).symm
  | cons g l=>rw[ent_one hc,call_one ho,put_sum ho,h];show _=newsK acts w k+_;lia
section
variable {cells:List Int}{acts:List Act}(H:A8 cells acts)
include H
theorem A8.own_split {A B:List Nat}{k:Nat}{h:Int}(e:ownF acts h=A++k::B):k<8∧hOf acts k=h∧prevs acts k=A.drop (A.length-1):=by
 have hm:∀x,x∈A++k::B↔x<8∧hOf acts x=h:=fun x=>by rw[← e,own_mem,H.len]
 obtain⟨hk,hh⟩:=(hm k).mp (List.mem_append_right _ List.mem_cons_self)
 have hs:(A++k::B).Pairwise (·<·):=by rw[← e];exact own_sorted
 obtain⟨s1,s2,s3⟩:=List.pairwise_append.mp hs
 refine⟨hk,hh,?_⟩
 have:A=(List.range k).filter fun j=>decide (hOf acts j=hOf acts k):=by
  refine sorted_ext s1 (List.Pairwise.filter _ List.pairwise_lt_range) fun x=>?_
  simp only[List.mem_filter,decide_eq_true_eq,List.mem_range]
  refine⟨fun hx=>⟨s3 x hx k List.mem_cons_self,((hm x).mp (List.mem_append_left _ hx)).2.trans hh.symm⟩,fun⟨h1,h2⟩=>?_⟩
  rcases List.mem_append.mp ((hm x).mpr ⟨by exact Nat.lt_trans h1 hk,h2.trans hh⟩) with q | q
  ·exact q
  ·rcases List.mem_cons.mp q with q | q
   ·lia
   ·have:=(List.pairwise_cons.mp s2).1 x q;lia
 unfold prevs
 rw[← this]
theorem A8.known_at {w:List Int}{A B:List Nat}{k:Nat}{h:Int}(e:ownF acts h=A++k::B):wAt (knownB (pF acts) w (ownF acts h)) (A.length+1)=sumW w (pa acts k)∧wAt (knownB (pF acts) w (ownF acts h)) A.length=sumPrev acts w k:=by
 obtain⟨hk,hh,hp⟩:=H.own_split e
 have kk:∀{A B:List Nat} {k:Nat},ownF acts h=A++k::B→wAt (knownB (pF acts) w (ownF acts h)) (A.length+1)=sumW w (pa acts k):=fun {A B k} e=>by
  refine wAt_nat ?_
  unfold knownB
  rw[List.getElem?_cons_succ,List.getElem?_map,e,List.getElem?_append_right (Nat.le_refl _),Nat.sub_self];rfl
 refine⟨kk e,?_⟩
 unfold sumPrev
 rw[hp]
 rcases List.eq_nil_or_concat A with rfl | ⟨A',p,rfl⟩
 ·rw[show([]:List Nat).length=0 from rfl]
  refine(wAt_nat (x:=0) rfl).trans ?_
  show 0=sumV acts w (vec acts [])
  simp[sumV,vec,vR_nil,sumW]
 ·have e2:ownF acts h=A'++p::(k::B):=by rw[e];simp
  rw[List.concat_eq_append,show(A'++[p]).length=A'.length+1 by simp,Nat.add_sub_cancel,List.drop_append_of_le_length (Nat.le_refl _),List.drop_length,List.nil_append,kk e2,vec_one,H.sum_pa (H.own_split e2).1]
omit H in
theorem takes_no {A:List Nat}{k:Nat}(h:cOf acts k=[]):takesF acts (A++[k])=takesF acts A:=by
 unfold takesF
 rw[List.filter_append,List.length_append,List.filter_cons_of_neg (by rw[decide_eq_false (not_not_intro h)];exact nofun)];rfl
omit H in
theorem takes_one {A l:List Nat}{k g:Nat}(h:cOf acts k=g::l):takesF acts (A++[k])=takesF acts A+1:=by
 unfold takesF
 rw[List.filter_append,List.length_append,List.filter_cons_of_pos (p:=fun k=>decide (cOf acts k≠[])) (a:=k) (decide_eq_true (by rw[h];exact nofun))];rfl
omit H in
theorem bk_eqs {a a' b b' c c' d d':Int}{t t':Tab}(h1:a=a') (h2:b=b') (h3:c=c') (h4:d=d') (h5:t=t'):(a,b,c,d,t)=(a',b',c',d',t'):=by rw[h1,h2,h3,h4,h5]
noncomputable def bkA (acts:List Act) (w K:List Int) (A:List Nat) (t:Tab):Book:=((A.length:Int),(takesF acts A:Int),wAt K A.length,wAt K A.length-sumW w A,t)
theorem A8.step_book {w:List Int}{A B:List Nat}{k:Nat}{h:Int}(e:ownF acts h=A++k::B) {t:Tab}(ho:t.ok) :
  combB false (bkA acts w (knownB (pF acts) w (ownF acts h)) A t) (entK acts w k)=bkA acts w (knownB (pF acts) w (ownF acts h)) (A++[k]) (rowB acts w (knownB (pF acts) w (ownF acts h)) t A.length k):=by
 obtain⟨k1,k2⟩:=H.known_at (w:=w) e
 have hk:=(H.own_split e).1
 have hn:newsK acts w k=sumW w (pa acts k)-sumPrev acts w k-wAt w k:=rfl
 generalize knownB (pF acts) w (ownF acts h)=K at k1 k2 ⊢
 have hs:sumW w (A++[k])=sumW w A+wAt w k:=by rw[sum_append,sum_one]
 have hl:(A++[k]).length=A.length+1:=List.length_append
 have h1:=H.one k
 unfold bkA
 rw[hl,hs,k1,k2]
 cases hc:cOf acts k with
 | nil=>
  have hz:=H.news_none (w:=w) hk hc
  have hr:rowB acts w K t A.length k=t:=by unfold rowB;rw[hc];rfl
  rw[ent_nil hc,takes_no hc,hr]
  exact bk_eqs (Int.add_comm 1 _) (Int.zero_add _) (by lia) (by lia) (call_nil ho)
 | cons g l=>
  rw[hc] at h1
  obtain rfl:l=[]:=List.eq_nil_of_length_eq_zero (Nat.le_zero.mp (Nat.le_of_succ_le_succ h1))
  have hr:rowB acts w K t A.length k=t.put (letter (hOf acts g)) (t.at (letter (hOf acts g))+newsK acts w k):=by
   unfold rowB
   rw[hc,List.foldl_cons,List.foldl_nil,k1,k2,hn]
   exact congrArg _ (by lia)
  rw[ent_one hc,takes_one hc,hr]
  exact bk_eqs (Int.add_comm 1 _) (Int.add_comm 1 _) (by lia) (by lia) (call_one ho _ _)
theorem A8.fold_book {w:List Int}{h:Int}(B:List Nat):∀(A:List Nat) (t:Tab),ownF acts h=A++B→t.ok →
  B.foldl (fun b k=>combB false b (entK acts w k)) (bkA acts w (knownB (pF acts) w (ownF acts h)) A t)=bkA acts w (knownB (pF acts) w (ownF acts h)) (ownF acts h) ((B.zipIdx A.length).foldl (fun t p=>rowB acts w (knownB (pF acts) w (ownF acts h)) t p.2 p.1) t):=by
 induction B with
 | nil=>
  intro A t e _
  rw[List.append_nil] at e
  rw[e];rfl
 | cons k B ih=>
  intro A t e ho
  have st:=H.step_book (w:=w) e ho
  have e5:addCallers t (entK acts w k).2.2.2.2=rowB acts w (knownB (pF acts) w (ownF acts h)) t A.length k:=congrArg (fun b:Book=>b.2.2.2.2) st
  have hok:=(call_sem ho (ent_ok acts w k)).1
  rw[e5] at hok
  have:=ih (A++[k]) _ (by rw[e,List.append_assoc];rfl) hok
  rw[List.length_append] at this
  exact(congrArg (fun b=>B.foldl (fun b k=>combB false b (entK acts w k)) b) st).trans this
theorem A8.book {w:List Int}(h:Int):(foldB acts w false (ownF acts h)).d=bookD acts (pF acts) w h:=by
 have:=H.fold_book (w:=w) (h:=h) (ownF acts h) [] ([],[]) rfl noBook_ok
 have e:foldB acts w false (ownF acts h)=bkA acts w (knownB (pF acts) w (ownF acts h)) (ownF acts h) _:=this
 rw[e]
 unfold bookD tableB
 dsimp only
 have hl:(knownB (pF acts) w (ownF acts h)).length-1=(ownF acts h).length:=by unfold knownB;simp
 rw[hl];rfl
end
end
section
noncomputable def lnsF (acts:List Act) (total:Int):List (List Nat):=(ordF total).map fun p=>lineF (scoresF (sF p.1 p.2 (wsK acts)))
noncomputable def lineT (acts:List Act) (total:Int):List Nat:=listAt (lnsF acts total) (total.fmod 3).toNat
noncomputable def knownT (acts:List Act) (total:Int):List Nat:=listAt (pF acts) ((total.fdiv 3).fmod 8).toNat
noncomputable def lawFin (cells worth:List Int):Fin8:=
 { ws:=wsK (aOf cells),sc:=(ordF cells.sum).map fun p=>scoresF (sF p.1 p.2 (wsK (aOf cells))),st:=(ordF cells.sum).map fun p=>sF p.1 p.2 (wsK (aOf cells)),td:=toldF (keysF cells.sum) (figsF ((pF (aOf cells)).map (vcF (aOf cells))) worth),ky:=keyedF (keysF cells.sum) (figsF ((pF (aOf cells)).map (vcF (aOf cells))) worth),ps:=pF (aOf cells),ag:=runF (aOf cells) (line2F (lineT (aOf cells) cells.sum) (knownT (aOf cells) cells.sum)) worth true,ls:=(runF (aOf cells) (List.range 8) worth false).letters,bks:=(runF (aOf cells) (List.range 8) worth false).books,cs:=(runF (aOf cells) (List.range 8) worth false).books.map fun b=>b.2.2.2.2.2.sum,on:=onwardF (aOf cells) (lnsF (aOf cells) cells.sum) (givesF cells) cells.sum,bk:=backF (aOf cells) (lineT (aOf cells) cells.sum) (givesF cells) cells.sum,gives:=givesF cells,taken:=takenF (aOf cells),acts:=aOf cells,worth:=worth }
theorem ord_cols {t:Int}{p:List Nat×Int}(h:p∈ordF t):p.1∈colsF (t.fmod 2)∧(p.2=1∨p.2=-1):=⟨(List.of_mem_zip h).1,(ord_ok.2 p h).2⟩
theorem zip_self {α β:Type}{f:α→β}:∀(l:List α),(l.map f).zip l=l.map fun k=>(f k,k)
 | []=>rfl
 | a::l=>by rw[List.map_cons,List.zip_cons_cons,zip_self l,List.map_cons]
section
variable {cells:List Int}{acts:List Act}(H:A8 cells acts)
include H
theorem A8.lns (t:Int):(lnsF acts t).length=3∧∀l∈lnsF acts t,OrdOk acts l:=by
 refine⟨by unfold lnsF;rw[List.length_map];exact ord_ok.1,fun l hl=>?_⟩
 obtain⟨p,hp,rfl⟩:=List.mem_map.mp hl
 exact H.line (ord_cols hp).1 (ord_cols hp).2
theorem A8.ln8 {l:List Nat}(h:OrdOk acts l):l.length=8∧∀k∈l,k<8:=⟨by rw[h.perm.length_eq,List.length_range],fun k hk=>List.mem_range.mp (h.perm.mem_iff.mp hk)⟩
theorem A8.lnT (t:Int):OrdOk acts (lineT acts t):=by
 obtain⟨h1,h2⟩:=H.lns t
 have h3:=fmod_range t (show(0:Int)<3 by decide)
 exact h2 _ (List.mem_of_getElem? (listAt_some (Mine.tnl h1 h3.1 h3.2)))
theorem A8.knT (t:Int):∃m,m<8∧knownT acts t=pa acts m:=⟨((t.fdiv 3).fmod 8).toNat,by have:=fmod_range (t.fdiv 3) (show(0:Int)<8 by decide);omega,rfl⟩
theorem A8.ln2 (t:Int):OrdOk acts (line2F (lineT acts t) (knownT acts t)):=by
 obtain⟨m,hm,e⟩:=H.knT t
 rw[e]
 exact H.ord_line2 (H.lnT t) hm
theorem A8.ws_ok:∀r∈wsK acts,T3.ok 64 r:=fun r hr=>by
 rw[H.ws_eq] at hr
 obtain⟨k,hk,rfl⟩:=List.mem_map.mp hr
 have hk8:=List.mem_range.mp hk
 have hc:∀h,cntF acts (pa acts k) h≤8:=fun h=>Nat.le_trans (List.length_filter_le _ _) (by
  have hk':k<(pF acts).length:=by rw[pasts_len,H.len];exact hk8
  exact(H.bound _ (List.mem_of_getElem? (listAt_some hk'))).1)
 have h0:=hc 0;have h1:=hc 1;have h2:=hc 2
 refine⟨⟨Nat.succ_le_succ (Nat.zero_le _),?_⟩,⟨Nat.succ_le_succ (Nat.zero_le _),?_⟩,Nat.succ_le_succ (Nat.zero_le _),?_⟩
 ·show cntF _ _ _+1≤64;exact Nat.succ_le_of_lt (Nat.lt_of_le_of_lt h0 (by decide))
 ·show cntF _ _ _+1≤64;exact Nat.succ_le_of_lt (Nat.lt_of_le_of_lt h1 (by decide))
 ·show cntF _ _ _+1≤64;exact Nat.succ_le_of_lt (Nat.lt_of_le_of_lt h2 (by decide))
theorem A8.letters:(wsK acts).zipIdx 0=(List.range 8).map fun k=>(rowK acts k,k):=by
 rw[H.ws_eq]
 apply List.ext_getElem?
 intro i
 rw[List.getElem?_zipIdx,List.getElem?_map,List.getElem?_map]
 by_cases hi:i<8
 ·rw[List.getElem?_range hi];simp
 ·rw[List.getElem?_eq_none (by rw[List.length_range];exact Nat.le_of_not_lt hi)];rfl
theorem A8.kept {line:List Nat}(ho:OrdOk acts line) {gives:List Nat}(hg:∀k∈gives,k<8) (total:Int):(gives.map fun k=>textF acts line k (pieceAt total k)).map validF=((gives.map fun k=>textF acts line k (pieceAt total k)).zip gives).map fun p=>if p.2∈takenF acts then p.1 else noMail:=by
 rw[zip_self,List.map_map,List.map_map]
 exact List.map_congr_left fun k hk=>H.valid ho (hg k hk) total
end
theorem lawFin_ok {cells worth:List Int}(hc:cells.length=8) (hw:worth.length=8):(lawFin cells worth).Ok:=by
 have H:=acts8 hc
 have hr1:=H.run (w:=worth) (anew:=false) H.ord_range
 have hr2:=H.run (w:=worth) (anew:=true) (H.ln2 cells.sum)
 have hk:=keys_ok cells.sum
 have hg8:=gives_lt (cells:=cells)
 have hof:∀h,ofH (aOf cells) (List.range 8) h=ownF (aOf cells) h:=H.ofH_line H.ord_range
 have hof2:∀h,ofH (aOf cells) (line2F (lineT (aOf cells) cells.sum) (knownT (aOf cells) cells.sum)) h=ownF (aOf cells) h:=H.ofH_line (H.ln2 cells.sum)
 have hfl:(figsF ((pF (aOf cells)).map (vcF (aOf cells))) worth).length=8:=by unfold figsF;rw[List.length_map,List.length_zip,List.length_map,pasts_len,H.len];exact Nat.min_eq_left (Nat.le_of_eq hw.symm)
 obtain⟨n1,n2⟩:=H.lns cells.sum
 have hlns:∃a b c,lnsF (aOf cells) cells.sum=[a,b,c]:=by
  match h:lnsF (aOf cells) cells.sum,n1 with
  | [a,b,c],_=>exact⟨a,b,c,rfl⟩
 obtain⟨la,lb,lc,hl3⟩:=hlns
 have hon:(lawFin cells worth).on=((givesF cells).map fun k=>textF (aOf cells) la k (pieceAt cells.sum k))++((givesF cells).map fun k=>textF (aOf cells) lb k (pieceAt cells.sum k))++(givesF cells).map fun k=>textF (aOf cells) lc k (pieceAt cells.sum k):=by
  show onwardF _ _ _ _=_
  unfold onwardF
  rw[hl3]
  simp
 rw[hl3] at n2
 have oa:=n2 la (by simp);have ob:=n2 lb (by simp);have oc:=n2 lc (by simp)
 have hgl:=gives_len cells
 constructor
 ·exact⟨H.ws_len,H.ws_ok⟩
 ·exact⟨by show(pF (aOf cells)).length=8;rw[pasts_len,H.len],fun l hl=>(H.bound l hl).1⟩
 ·refine⟨by show(List.map _ _).length=3;rw[List.length_map];exact ord_ok.1,fun t ht=>?_⟩
  obtain⟨p,_,rfl⟩:=List.mem_map.mp ht
  unfold sF
  refine⟨by rw[List.length_map];exact H.ws_len,fun r hr=>?_⟩
  obtain⟨x,_,rfl⟩:=List.mem_map.mp hr
  rw[List.length_map];exact H.ws_len
 ·refine⟨by show(List.map _ _).length=3;rw[List.length_map];exact ord_ok.1,fun r hr=>?_⟩
  obtain⟨p,hp,rfl⟩:=List.mem_map.mp hr
  exact H.scores (ord_cols hp).1 (ord_cols hp).2
 ·show(runF (aOf cells) (List.range 8) worth false).letters=((wsK (aOf cells)).zipIdx 0).map _
  rw[hr1,H.letters,List.map_map];rfl
 ·intro e f he hf
  exact H.max3 he hf
 ·exact told_all (fun p hp=>(hk.2 p hp).2) _
 ·show(keyedF _ _).length=8
  unfold keyedF;rw[List.length_map];exact hfl
 ·show(runF (aOf cells) (List.range 8) worth false).books.map _=(runF (aOf cells) (List.range 8) worth false).books.map _
  rw[hr1]
  refine List.map_congr_left fun b hb=>?_
  simp only[specR,List.mem_cons,List.not_mem_nil,or_false] at hb
  rcases hb with rfl | rfl | rfl <;> exact fold_sum _ noBook noBook_ok rfl
 ·show(runF (aOf cells) (List.range 8) worth false).books.length=3
  rw[hr1];rfl
 ·refine⟨fun i k x h1 h2=>?_,?_⟩
  ·change (lettersK (runF _ _ _ _).letters)[i]?=some k at h1
   change (lettersV (runF _ _ _ _).letters)[i]?=some x at h2
   rw[hr2] at h1 h2
   show ∃j:Nat,(lettersK (runF _ _ _ _).letters)[j]?=some k∧(lettersV (runF _ _ _ _).letters)[j]?=some x
   rw[hr1]
   simp only[specR,lettersK,lettersV,List.map_map,List.getElem?_map] at h1 h2 ⊢
   cases hq:(line2F (lineT (aOf cells) cells.sum) (knownT (aOf cells) cells.sum))[i]? with
   | none=>rw[hq] at h1;cases h1
   | some q=>
    rw[hq] at h1 h2
    have hq8:q<8:=(H.ln8 (H.ln2 cells.sum)).2 q (List.mem_of_getElem? hq)
    exact⟨q,by rw[List.getElem?_range hq8];exact h1,by rw[List.getElem?_range hq8];exact h2⟩
  ·show(runF _ _ _ _).letters.length=(runF _ _ _ _).letters.length
   rw[hr1,hr2]
   simp only[specR,List.length_map,List.length_range]
   exact(H.ln8 (H.ln2 cells.sum)).1
 ·have e1:(lawFin cells worth).ag.books=[foldB (aOf cells) worth true (ownF (aOf cells) 0),foldB (aOf cells) worth true (ownF (aOf cells) 1),foldB (aOf cells) worth true (ownF (aOf cells) 2)]:=by
   show(runF _ _ _ _).books=_
   rw[hr2];simp only[specR,hof2]
  have e2:(lawFin cells worth).bks=[foldB (aOf cells) worth false (ownF (aOf cells) 0),foldB (aOf cells) worth false (ownF (aOf cells) 1),foldB (aOf cells) worth false (ownF (aOf cells) 2)]:=by
   show(runF _ _ _ _).books=_
   rw[hr1];simp only[specR,hof]
  rw[e1,e2]
  refine⟨rfl,fun i b c hb hc'=>?_⟩
  match i with
  | 0=>cases hb;cases hc';exact book_eq _
  | 1=>cases hb;cases hc';exact book_eq _
  | 2=>cases hb;cases hc';exact book_eq _
  | i+3=>simp at hb
 ·refine⟨?_,hgl,?_⟩
  ·rw[hon];simp only[List.length_append,List.length_map];exact Nat.le_trans (Nat.add_le_add (Nat.add_le_add hgl hgl) hgl) (by decide)
  ·rw[hon];simp only[List.length_append,List.length_map];rfl
 ·rw[hon]
  show List.map validF _=(List.zip _ (givesF cells++givesF cells++givesF cells)).map fun p=>if p.2∈takenF (aOf cells) then p.1 else noMail
  rw[List.zip_append (by simp),List.zip_append (by simp),List.map_append,List.map_append,List.map_append,List.map_append,H.kept oa hg8,H.kept ob hg8,H.kept oc hg8]
 ·refine⟨by show(List.map _ _).length≤8;rw[List.length_map];exact hgl,?_⟩
  show((givesF cells).map fun k=>textF (aOf cells) (lineT (aOf cells) cells.sum).reverse k (pieceAt cells.sum k)).map validF=List.replicate ((givesF cells).map _).length noMail
  rw[List.map_map,List.length_map,← List.map_const']
  exact List.map_congr_left fun k hk=>H.valid_back (H.lnT _) (hg8 k hk) _
 ·show(runF (aOf cells) (List.range 8) worth false).books.map Book.d=(List.range 3).map fun h=>bookD (aOf cells) (pF (aOf cells)) worth (h:Nat)
  rw[hr1]
  simp only[specR,hof,List.map_cons,List.map_nil]
  rw[H.book,H.book,H.book];rfl
end
section
structure Df (C:Cx) (x:Str) (k:Nat) (xs:List Str):Prop where
 ex:∃a fd,C.mg x=some (.ref a)∧FnAt C a (fnT k).params (fnT k).body (fnT k).scope fd∧∀vs:List Value,vs.length=xs.length→bindArgs fd ⟨vs,[]⟩=pure (xs.zip vs)
structure Defs (C:Cx):Prop where
 stats:Df C "add_func_stats" 3 ["target","source"]
 callers:Df C "add_callers" 4 ["target","source"]
 count:Df C "count_calls" 5 ["callers"]
 strip:Df C "_strip_quoted_realnames" 9 ["addr"]
 check:Df C "_check_parenthesis" 10 ["addr"]
 valid:Df C "_pre_parse_validation" 11 ["email_header_fields"]
 decode:Df C "decode_rfc2231" 12 ["s"]
 quote:Df C "quotedata" 18 ["data"]
 periods:Df C "_quote_periods" 19 ["bindata"]
 fix:Df C "_fix_eols" 20 ["data"]
 acts:Df C "_law_acts" 22 ["cells"]
 sent:Df C "_law_sent" 23 ["text","whole"]
 run:Df C "_law_run" 24 ["acts","line","worth","anew"]
 pasts:Df C "_law_pasts" 25 ["acts"]
 book:Df C "_law_book" 26 ["acts","pasts","worth","hand"]
 text:Df C "_law_text" 27 ["acts","line","give","piece"]
section
variable {C:Cx}{n:Nat}
theorem Df.fn {x:Str}{k:Nat}{xs:List Str}{ds:List D}{d:D}{Γ:Gm}(h:Df C x k xs) (hr:Run C n (fnT k).scope Γ (fnT k).body (.ret d)) (hΓ:autoParam (argsG xs ds=Γ) rf) (hok:autoParam (entryOk (fnT k).scope xs=true) kr) (hnd:autoParam (xs.Nodup) dk) (hl:autoParam (xs.length=ds.length) rf):Fn C (n+1) x ds d:=by
 subst hΓ
 obtain⟨a,fd,h1,h2,h3⟩:=h.ex
 obtain⟨o,ho,hd⟩:=h2.at_
 exact⟨a,fd,o,h1,ho,hd,calls_of_run h2 hok hnd hl h3 hr⟩
theorem Df.fnB {x:Str}{k:Nat}{xs:List Str}{ds:List D}{d:D}{Γ:Gm}(h:Df C x k xs) (hr:RunB C n k Γ d) (hΓ:argsG xs ds=Γ) (hok:entryOk (fnT k).scope xs=true) (hnd:xs.Nodup) (hl:xs.length=ds.length):Fn C (n+1) x ds d:=h.fn hr.run hΓ hok hnd hl
end
end
section
section
variable {C:Cx}{n:Nat}
theorem Fn.lvl {m:Nat}{x:Str}{ds:List D}{d:D}(h:Fn C m x ds d) (hm:m≤n):Fn C n x ds d:=by
 obtain⟨a,fd,o,h1,h2,h3,h4⟩:=h
 exact⟨a,fd,o,h1,h2,h3,h4.lvl hm⟩
theorem f_decode (G:Gl C) (D':Defs C) (y:Str) (h:y.length≤4096):Fn C 1 "decode_rfc2231" [.str y] (decD y):=by
 refine Df.fn (n:=0) D'.decode (t_decode G h ?_)
 have h1:=between_len y ⟨#[39]⟩ (limitOf y 2)
 have h2:limitOf y 2≤4000:=by
  have:limitOf y 2=2:=rfl
  exact Nat.le_trans (Nat.le_of_eq this) (by decide)
 exact Nat.le_trans h1 (Nat.succ_le_of_lt (Nat.lt_of_le_of_lt h2 (by decide)))
theorem f_sent (G:Gl C) (D':Defs C) (t:Array Nat) (w:Bool) (h:SentOk t):Fn C 2 "_law_sent" [.str ⟨t⟩,.bool w] (.str ⟨sent t⟩):=by
 have hz:=h.size
 have hs:=eols_size (t:=t)
 refine Df.fn (n:=1) D'.sent (t_law_sent h.size h.pos h.a1 h.a2 (fun J=>Df.fn (n:=0) D'.quote (t_quotedata G h.size)) (Df.fn (n:=0) D'.fix (t_fix_eols G (Nat.le_trans hz (by decide)))) (Df.fn (n:=0) D'.periods (t_quote_periods G h.a1 h.a2 (by lia))))
theorem f_stats (G:Gl C) (D':Defs C) (t s:Book) (ht:BookOk 500 t) (hs:BookOk 500 s):Fn C 2 "add_func_stats" [t.d,s.d] (addB t s).d:=by
 obtain⟨t1,t2⟩:=ht
 obtain⟨s1,s2⟩:=hs
 exact Df.fn (n:=1) D'.stats (t_add_func_stats (Df.fn (n:=0) D'.callers (t_add_callers t1 s1 (Nat.le_trans t2 (by decide)) (Nat.le_trans s2 (by decide)) (G.none (by kernel_rfl)) (G.none (by kernel_rfl)))))
theorem f_run (G:Gl C) (D':Defs C) {acts:List Act}{worth:List Int}{anew:Bool}{line:List Nat}(hA:ActsOk acts worth) (hL:LineOk acts line):Fn C 3 "_law_run" [actsD acts,nD line,zD worth,.bool anew] (runF acts line worth anew).d:=by
 have h:=t_law_run (C:=C) (n:=2) (anew:=anew) G (m:=2) hA hL (fun t w h=>f_sent G D' t w h) (fun x h=>(f_decode G D' x h).lvl (by decide)) (fun t s ht hs=>f_stats G D' t s ht hs) (Nat.le_refl 2)
 exact Df.fnB (n:=2) D'.run h rfl (by kernel_rfl) (by decide +kernel) rfl
theorem f_valid (G:Gl C) (GF:GenFn C) (D':Defs C) {xs:List Str}(hl:xs.length≤64) (hx:∀x∈xs,x.length≤64):Fn C 7 "_pre_parse_validation" [strsD xs] (strsD (xs.map validF)):=
 Df.fn (n:=6) D'.valid (t_valid G (m:=6) hl (fun x hm=>Df.fn (n:=5) D'.check (t_check G GF (Df.fn (n:=4) D'.strip (t_strip G GF (hx x hm) (by decide))) (by decide) (by decide))) (by decide))
theorem worth_bits {script:List Int}(h:∀x∈script,Builtin.Int.intBits x≤2^20):∀x∈worthF script,Builtin.Int.intBits x≤2^20:=fun x hx=>by
 unfold worthF at hx
 rcases List.mem_append.mp hx with q | q
 ·exact h x (List.mem_of_mem_take q)
 ·have:∀y∈([3,-1,4,1,-5,9,2,6]:List Int),Builtin.Int.intBits y≤2^20:=by
   intro y hy
   have hb:-(2^64:Int)<y∧y<2^64:=by
    simp only[List.mem_cons,List.not_mem_nil,or_false] at hy
    rcases hy with rfl | rfl | rfl | rfl | rfl | rfl | rfl | rfl <;> decide
   exact Nat.le_trans (PySem.intBits_le_64 hb.1 hb.2) (by decide)
  exact this x (List.mem_of_mem_drop q)
set_option maxHeartbeats 1000000 in
theorem t_law (G:Gl C) (K:Kls C) (GF:GenFn C) (D':Defs C) {script:List Int}(hl:script.length≤63) (hb:∀x∈script,Builtin.Int.intBits x≤2^20) (hn:10≤n):Run C n (fnT 28).scope [("bases",.imm (zD [1,6,5,4,10,22,26,44])),("script",.imm (zD script))] ((fnT 28).body.drop 1) (.ret (.bool true)):=by
 have hc:=cells_len script
 have hw:=worth_len script
 have hwb:=worth_bits hb
 refine law_1 G (m:=7) hl (fun cells hc=>(Df.fn (n:=0) D'.acts (t_law_acts G (Nat.le_trans (Nat.le_of_eq hc) (by decide)))).lvl (by decide)) (Nat.le_trans (Nat.le_add_left _ _) hn) ?_
 generalize cellsF script=cells at hc
 generalize worthF script=worth at hw hwb
 have H:=acts8 hc
 have hok:=lawFin_ok hc hw
 have hp8:(pF (aOf cells)).length=8:=by rw[pasts_len,H.len]
 have hvl:((pF (aOf cells)).map (vcF (aOf cells))).length=8:=by rw[List.length_map];exact hp8
 have hv:∀r∈(pF (aOf cells)).map (vcF (aOf cells)),∀k∈r.l,k≤8:=fun r hr k hk=>by
  obtain⟨l,hl,rfl⟩:=List.mem_map.mp hr
  have h1:=(H.bound l hl).1
  have hcn:∀h,cntF (aOf cells) l h≤8:=fun h=>Nat.le_trans (List.length_filter_le _ _) h1
  simp only[T3.l,vcF,List.mem_cons,List.not_mem_nil,or_false] at hk
  rcases hk with rfl | rfl | rfl <;> exact hcn _
 have hca:∀a∈aOf cells,a.cause.length≤1∧(∀g∈a.cause,g<(aOf cells).length)∧0≤a.hand∧a.hand<3:=fun a ha=>by
  obtain⟨w,hi⟩:=H.inv
  refine⟨hi.one a ha,?_,hi.hand a ha⟩
  intro g hg
  obtain⟨k,hk⟩:=List.getElem?_of_mem ha
  have:=(hi.lt k a hk g hg).1
  have:=(List.getElem?_eq_some_iff.mp hk).1
  lia
 have hpast:Fn C 7 "_law_pasts" [actsD (aOf cells)] (natsLD (pF (aOf cells))):=(Df.fn (n:=0) D'.pasts (t_law_pasts G (by rw[H.len];decide) fun i a hi=>by
  obtain⟨w,hv⟩:=H.inv
  exact⟨Nat.le_trans (hv.one a (List.mem_of_getElem? hi)) (by decide),fun g hg=>(hv.lt i a hi g hg).1⟩)).lvl (by decide)
 obtain⟨n1,n2⟩:=H.lns cells.sum
 refine law_2 G (m:=7) H.len hw (Nat.le_trans (Nat.le_add_left _ _) hn) hp8 H.bound ((f_run G D' (H.ok hw) (H.line_ok H.ord_range)).lvl (by decide)) hpast ?_
 have e1:((pF (aOf cells)).map (vcF (aOf cells))).map (fun r=>rowsD r.inc)=(wsK (aOf cells)).map rowsD:=by unfold wsK;rw[List.map_map,List.map_map,List.map_map];rfl
 rw[e1]
 refine law_3 G K H.ws_len hn ?_
 refine law_4 G K hvl hw hwb hv (lns:=lnsF (aOf cells) cells.sum) n1 hp8 hn ?_
 have hon:∀x∈onwardF (aOf cells) (lnsF (aOf cells) cells.sum) (givesF cells) cells.sum,x.length≤64:=fun x hx=>by
  obtain⟨row,hr,hk⟩:=List.mem_flatMap.mp hx
  obtain⟨k,_,rfl⟩:=List.mem_map.mp hk
  have h8:=(H.ln8 (n2 row hr)).1
  exact Nat.le_trans (text_len8 (Nat.le_of_eq h8) _ _) (by decide)
 have hbk:∀x∈backF (aOf cells) (lineT (aOf cells) cells.sum) (givesF cells) cells.sum,x.length≤64:=fun x hx=>by
  obtain⟨k,_,rfl⟩:=List.mem_map.mp hx
  have h8:=(H.ln8 (H.lnT cells.sum)).1
  exact Nat.le_trans (text_len8 (by rw[List.length_reverse];exact Nat.le_of_eq h8) _ _) (by decide)
 refine law_5 G (m:=7) (books:=(runF (aOf cells) (List.range 8) worth false).books) H.len hc (fun a ha=>Nat.le_trans (hca a ha).1 (by decide)) ⟨n1,fun l hl=>H.ln8 (n2 l hl)⟩ (H.ln8 (H.lnT cells.sum)) hok.bks (Nat.le_trans (Nat.le_add_left _ _) hn) ((f_run G D' (H.ok hw) (H.line_ok (H.ln2 cells.sum))).lvl (by decide))
  (fun row k x h1 h2 h3=>(Df.fn (n:=0) D'.text (t_law_text (fun j hj=>by rw[H.len];exact h1 j hj) (by rw[H.len];decide) (Nat.le_trans h2 (by decide)) h3)).lvl (by decide))
  (f_valid G GF D' (Nat.le_trans hok.on.1 (by decide)) hon) (fun b J=>(Df.fn (n:=0) D'.count t_count_calls).lvl (by decide)) ?_
 have e2:(ordF cells.sum).map (fun p=>intsLD (sF p.1 p.2 (wsK (aOf cells))))=((ordF cells.sum).map fun p=>sF p.1 p.2 (wsK (aOf cells))).map intsLD:=by rw[List.map_map];rfl
 rw[e2]
 exact law_6 (m:=7) G (x:=lawFin cells worth) hok (Nat.le_trans (Nat.le_add_left _ _) hn) (fun y hy=>(f_decode G D' y hy).lvl (by decide)) (f_valid G GF D' (Nat.le_trans hok.back.1 (by decide)) hbk)
  (fun k hk=>(Df.fn (n:=0) D'.book (t_law_book G (by rw[H.len];decide) (hp8.trans H.len.symm) (hw.trans H.len.symm) (fun l hl=>⟨Nat.le_trans (H.bound l hl).1 (by decide),fun j hj=>by rw[H.len];exact(H.bound l hl).2 j hj⟩) (fun a ha=>⟨Nat.le_trans (hca a ha).1 (by decide),(hca a ha).2⟩))).lvl (by decide))
end
end
section
section
variable {C:Cx}{n:Nat}{sc:Scope}{Γ Γ':Gm}
theorem run_first {x:Str}{i:Int}{k:Nat}{p1 p2 p3 q:Pos}{es:List Expr}{ds:List D}{rest:List Stmt}{o:Out}(hes:Exs C n sc Γ es ds) (hz:ds.length+1≤64) (hd:Drop x Γ Γ') (hst:sto sc x=true)
  (hw:∀env,swapsWith (.List (.Constant (.int i) k p1::es) p2) (some (.Name x q)) p3.line env=pure false) (kk:Run C n sc ((x,.imm (.list (.int i::ds)))::Γ') rest o)
  {env:Env} {A:Around} {F:FZ} {s:Shared} {ex exg:Nat→Prop} (hE:gE sc env) (hR:Room n A) (hX:St C sc ex exg env Γ F { s with toks:=s.toks+1 }) :
  Wp C A (execs (.Assign [.Name x q] (.List (.Constant (.int i) k p1::es) p2) p3::rest) env) (OutR C sc ex exg env F { s with toks:=s.toks+1 } o) s:=by
 refine wpAny_execs_cons (wpAny_Assign_Name (wpAny_List_spliced ?_) (hw env))
 rw[starEach_cons rfl]
 show Wp C A (spliced ((false,eval (.Constant (.int i) k p1) env)::backTo p2 (starEach es env))) _ s
 refine spliced_cons (wpAny_Constant_int ?_)
 refine(hes.run hE hR hX.ok hX.eok).imp fun vs s₁ ⟨F₁,g,r⟩=>⟨?_,?_⟩
 ·have h64:(64:Nat)≤sizeLine:=by decide
  have:=r.length
  simp only[List.length_cons];lia
 ·obtain⟨F',g',r'⟩:=new_list (C:=C) (tk:=s₁.toks) (k:=0) g.inn (RA.cons (.int i s.toks) r)
  have X₁:=hX.grow (g.trans g')
  refine store_name X₁.wf hst fun s' z W'=>?_
  exact(kk env A F' s' ex exg hE hR (X₁.stored z W' r' hd.sub.1 hd.sub.2)).imp fun J J q=>q.up ((GrowX.of (g.trans g') hX.base).trans (.stored z hX.lo))
theorem call_first {a:Addr}{P:Arguments}{body:List Stmt}{fd:FuncData}{xs:List Str}{ds:List D}{d:D}(hF:FnAt C a P body sc fd) (hok:entryOk sc xs=true) (hnd:xs.Nodup) (hl:xs.length=ds.length)
  (hbind:∀vs:List Value,vs.length=xs.length→bindArgs fd ⟨vs,[]⟩=pure (xs.zip vs))
  (h:∀(env:Env) (A:Around) (F:FZ) (s:Shared) (ex exg:Nat→Prop),gE sc env→Room n A→St C sc ex exg env (argsG xs ds) F { s with toks:=s.toks+1 }→Wp C A (execs body env) (OutR C sc ex exg env F { s with toks:=s.toks+1 } (.ret d)) s)
  {A:Around} {F:FZ} {s:Shared} {vs:List Value} (hR:Room (n+1) A) (inn:F.In s.heap) (base:∀a o,C.hb.get? a=some o→F a=some o) (hr:RA C F vs ds) :
  Wp C A (call (.ref a) vs) (fun v s'=>∃F',Grow F F' { s with toks:=s.toks+1 } s'∧R C F' v d) s:=by
 have hO:Ok C F { s with toks:=s.toks+1 }:=⟨inn,base,Nat.le_add_left 1 s.toks⟩
 have keep:∀b o,C.hb.get? b=some o→s.heap.get? b=some o:=fun b o e=>inn _ _ (base b o e)
 obtain⟨hkind,hcor,hgen,honce,hfree,hst⟩:=entryOk_inv hok
 obtain⟨o,ho,hdata⟩:=hF.at_
 have hlen:xs.length=vs.length:=hl.trans hr.length.symm
 have hsc:=hF.scope
 refine wpAny_call (codeAny_call_function (body:=body) hR.lim (keep _ _ ho) hdata (by rw[hsc];exact hcor) (by rw[hsc];exact hgen) hF.body (hF.code.keeps keep) ?_)
 rw[hbind vs hlen.symm,hF.closure]
 refine wpAny_pure (wpAny_up (wpAny_newFunctionEnv_cells (by rw[hsc];exact hkind) (fun p hp=>?_) fun env he s' x up=>?_))
 ·rw[hsc]
  have hmem:p.1∈xs:=(List.of_mem_zip (a:=p.1) (b:=p.2) hp).1
  rcases storable_iff (hst p.1 hmem) with h1 | h1
  ·exact .inl h1
  ·obtain⟨c,hc⟩:=cellsFrom_cell (k:=s.heap.objs.size+1) (acc:=[]) (once_mem honce h1).1
   exact .inr ⟨h1,by rw[hc];rfl⟩
 ·subst he
  refine⟨(C.nolimit.keeps keep).keeps x.toInCall.keep,codeAny_func ?_⟩
  have X:=entry_St (a:=a) (s:={ s with toks:=s.toks+1 }) (s₁:={ s' with toks:=s'.toks+1 }) hsc hok hnd hlen hO hr
   ⟨⟨by obtain⟨h',tk,es⟩:=x.toInCall.same;exact⟨h',tk+1,by rw[es]⟩,x.toInCall.ns,x.toInCall.keep,x.toInCall.fresh⟩,x.cell,x.apart,x.above⟩ ⟨up.h,up.g,Nat.succ_le_succ up.t⟩
  refine Wp.any ((h _ _ F s' _ _ (entry_Good (a:=a) (s:=s) hsc hok hF.globals hF.builtins) (hR.deeper _) X).imp fun f s'' hZ=>?_)
  obtain⟨v,F',e,g,ok',r⟩:=hZ
  subst e
  refine⟨F',⟨g.le,fun b hb=>g.old b (Nat.not_le.mpr hb),ok'.inn,fun b o e=>g.keep b o (Nat.not_le.mpr (Heap.lt_size e)) (x.toInCall.keep b o e),Nat.le_trans up.h g.size,?_,fun i y e=>?_,Nat.le_trans up.g g.gsize,fun hb=>?_,Nat.le_trans (Nat.succ_le_succ up.t) g.tk⟩,r⟩
  ·obtain⟨h',tk,es⟩:=x.toInCall.same;rw[g.os,es]
  ·obtain⟨h',tk,es⟩:=x.toInCall.same
   exact g.gen i y (Nat.not_le.mpr (gens_lt e)) (by rw[es];exact e)
  ·obtain⟨h',tk,es⟩:=x.toInCall.same;exact g.bare (by rw[es];exact hb)
theorem call_law (G:Gl C) (K:Kls C) (GF:GenFn C) (D':Defs C) {a:Addr}{fd:FuncData}(hF:FnAt C a (fnT 28).params (fnT 28).body (fnT 28).scope fd) (hbind:∀vs:List Value,vs.length=1→bindArgs fd ⟨vs,[]⟩=pure ((["script"]:List Str).zip vs))
  {script:List Int} (hl:script.length≤63) (hb:∀x∈script,Builtin.Int.intBits x≤2^20) {A:Around} {F:FZ} {s:Shared} {vs:List Value} (hR:Room 11 A) (inn:F.In s.heap) (base:∀a o,C.hb.get? a=some o→F a=some o) (hr:RA C F vs [zD script]) :
  Wp C A (call (.ref a) vs) (fun v s'=>v=.bool true∧(∀b o,s.heap.get? b=some o→s'.heap.get? b=some o)∧s'.os=s.os∧(AllBare s.gens→AllBare s'.gens)) s:=by
 have hrun:=t_law (n:=10) G K GF D' hl hb (Nat.le_refl 10)
 refine(call_first (n:=10) (xs:=["script"]) (ds:=[zD script]) (d:=.bool true) hF (by kernel_rfl) (by decide +kernel) rfl hbind (fun env A F s ex exg hE hR' hX=>?_) hR inn base hr).imp fun v s' ⟨F',g,r⟩=>⟨r.bool_inv,g.keep,g.os,g.bare⟩
 obtain⟨k,p1,p2,p3,q,es,rest,h1,h2,h3⟩:=fn28_1
 obtain⟨p,es',he,hm⟩:=h3
 cases he
 rw[h1]
 rw[← h2] at hrun
 exact run_first (ints_exs hm) (by decide) (Drop.same rfl) (by kernel_rfl) (fun J=>rfl) hrun hE hR' hX
end
end
section
set_option backward.match.sparseCases false
noncomputable def objIn (K:Frag) (a:Addr):Obj:=(K.lookup a).getD default
noncomputable def fdIn (K:Frag) (a:Addr):FuncData:=match (objIn K a).data with
 | .func fd=>fd
 | _=>default
noncomputable abbrev fdKey (fd:FuncData):Arguments×FuncBody×Scope×Addr×Addr×List (Str×Addr)×Value×Value:=(fd.params,fd.body,fd.scope,fd.globals,fd.builtins,fd.closure,fd.defaults,fd.kwdefaults)
structure FdOk (K:Frag) (a:Addr) (f:FnT):Prop where
 fd:(K.lookup a).map Obj.data=some (.func (fdIn K a))
 key:fdKey (fdIn K a)=(f.params,.stmts f.body,f.scope,mainGlobals,builtinsNs,[],.none,.none)
 code:codeIn K (fdIn K a).code (fdIn K a).qualname=true
theorem FdOk.at {C:Cx}{a:Addr}{f:FnT}(h:FdOk C.K a f):FnAt C a f.params f.body f.scope (fdIn C.K a):=by
 obtain⟨h1,h2,h3⟩:=h
 simp only[Prod.mk.injEq] at h2
 obtain⟨a1,a2,a3,a4,a5,a6,a7,a8⟩:=h2
 refine⟨?_,a1,a2,a3,a4,a5,a6,a7,a8,codeRec_of C.KX h3⟩
 obtain⟨o,hl,hd⟩:=Option.map_eq_some_iff.mp h1
 exact⟨o,C.KX _ _ hl,hd⟩
theorem bind_of {fd:FuncData}{P:Arguments}(hp:fd.params=P) (hd:fd.defaults=.none) (hk:fd.kwdefaults=.none) {vs:List Value}{r:List (Str×Value)}
  (h:∀q:Str,bindArgs { (default:FuncData) with qualname:=q,params:=P,defaults:=.none,kwdefaults:=.none } ⟨vs,[]⟩=pure r):bindArgs fd ⟨vs,[]⟩=pure r:=by
 obtain⟨n,q,p,b,s,g,c,d,k,e,m,an,co,ct,bu⟩:=fd
 dsimp only at hp hd hk
 subst hp hd hk
 exact h q
theorem FdOk.bind {C:Cx}{a:Addr}{f:FnT}(h:FdOk C.K a f) {vs:List Value}{r:List (Str×Value)}(hb:∀q:Str,bindArgs { (default:FuncData) with qualname:=q,params:=f.params,defaults:=.none,kwdefaults:=.none } ⟨vs,[]⟩=pure r):bindArgs (fdIn C.K a) ⟨vs,[]⟩=pure r:=
 bind_of h.at.params h.at.defaults h.at.kwdefaults hb
theorem df_of {C:Cx}{x:Str}{k:Nat}{xs:List Str}{a:Addr}(hx:nsIn C.K mainGlobals x=some (some (.ref a))) (h:FdOk C.K a (fnT k))
  (hb:∀(q:Str) (vs:List Value),vs.length=xs.length→bindArgs { (default:FuncData) with qualname:=q,params:=(fnT k).params,defaults:=.none,kwdefaults:=.none } ⟨vs,[]⟩=pure (xs.zip vs)):Df C x k xs:=
 ⟨a,fdIn C.K a,mg_of C.KX C.g hx,h.at,fun vs hv=>h.bind fun q=>hb q vs hv⟩
theorem len1 {α:Type}{vs:List α}(h:vs.length=1):∃a,vs=[a]:=by
 cases vs with
 | nil=>cases h
 | cons a vs=>exact⟨a,by rw[List.eq_nil_of_length_eq_zero (Nat.succ.inj h)]⟩
theorem len2 {α:Type}{vs:List α}(h:vs.length=2):∃a b,vs=[a,b]:=by
 cases vs with
 | nil=>cases h
 | cons a vs=>obtain⟨b,rfl⟩:=len1 (Nat.succ.inj h);exact⟨a,b,rfl⟩
theorem len3 {α:Type}{vs:List α}(h:vs.length=3):∃a b c,vs=[a,b,c]:=by
 cases vs with
 | nil=>cases h
 | cons a vs=>obtain⟨b,c,rfl⟩:=len2 (Nat.succ.inj h);exact⟨a,b,c,rfl⟩
theorem len4 {α:Type}{vs:List α}(h:vs.length=4):∃a b c d,vs=[a,b,c,d]:=by
 cases vs with
 | nil=>cases h
 | cons a vs=>obtain⟨b,c,d,rfl⟩:=len3 (Nat.succ.inj h);exact⟨a,b,c,d,rfl⟩
theorem b1 {k:Nat}{x:Str}(h:∀(q:Str) (v:Value),bindArgs { (default:FuncData) with qualname:=q,params:=(fnT k).params,defaults:=.none,kwdefaults:=.none } ⟨[v],[]⟩=pure [(x,v)]):∀(q:Str) (vs:List Value),vs.length=([x]:List Str).length→bindArgs { (default:FuncData) with qualname:=q,params:=(fnT k).params,defaults:=.none,kwdefaults:=.none } ⟨vs,[]⟩=pure (([x]:List Str).zip vs):=fun q vs hv=>by obtain⟨v,rfl⟩:=len1 hv;exact h q v
theorem b2 {k:Nat}{x y:Str}(h:∀(q:Str) (v w:Value),bindArgs { (default:FuncData) with qualname:=q,params:=(fnT k).params,defaults:=.none,kwdefaults:=.none } ⟨[v,w],[]⟩=pure [(x,v),(y,w)]):∀(q:Str) (vs:List Value),vs.length=([x,y]:List Str).length→bindArgs { (default:FuncData) with qualname:=q,params:=(fnT k).params,defaults:=.none,kwdefaults:=.none } ⟨vs,[]⟩=pure (([x,y]:List Str).zip vs):=fun q vs hv=>by obtain⟨v,w,rfl⟩:=len2 hv;exact h q v w
theorem b4 {k:Nat}{x y z t:Str}(h:∀(q:Str) (a b c d:Value),bindArgs { (default:FuncData) with qualname:=q,params:=(fnT k).params,defaults:=.none,kwdefaults:=.none } ⟨[a,b,c,d],[]⟩=pure [(x,a),(y,b),(z,c),(t,d)]):∀(q:Str) (vs:List Value),vs.length=([x,y,z,t]:List Str).length→bindArgs { (default:FuncData) with qualname:=q,params:=(fnT k).params,defaults:=.none,kwdefaults:=.none } ⟨vs,[]⟩=pure (([x,y,z,t]:List Str).zip vs):=fun q vs hv=>by obtain⟨a,b,c,d,rfl⟩:=len4 hv;exact h q a b c d
structure KOk (K:Frag) (tc:Addr):Prop where
 names:nsIn K mainGlobals "add_func_stats"=some (some (.ref 66))∧nsIn K mainGlobals "add_callers"=some (some (.ref 73))∧nsIn K mainGlobals "count_calls"=some (some (.ref 80))∧nsIn K mainGlobals "_iter_escaped_chars"=some (some (.ref 87))∧nsIn K mainGlobals "_strip_quoted_realnames"=some (some (.ref 94)) ∧
  nsIn K mainGlobals "_check_parenthesis"=some (some (.ref 101))∧nsIn K mainGlobals "_pre_parse_validation"=some (some (.ref 108))∧nsIn K mainGlobals "decode_rfc2231"=some (some (.ref 115))∧nsIn K mainGlobals "quotedata"=some (some (.ref 137))∧nsIn K mainGlobals "_quote_periods"=some (some (.ref 144)) ∧
  nsIn K mainGlobals "_fix_eols"=some (some (.ref 151))∧nsIn K mainGlobals "_law_acts"=some (some (.ref 156))∧nsIn K mainGlobals "_law_sent"=some (some (.ref 163))∧nsIn K mainGlobals "_law_run"=some (some (.ref 168))∧nsIn K mainGlobals "_law_pasts"=some (some (.ref 173))∧nsIn K mainGlobals "_law_book"=some (some (.ref 178)) ∧
  nsIn K mainGlobals "_law_text"=some (some (.ref 183))∧nsIn K mainGlobals "law"=some (some (.ref 188))
 f3:FdOk K 66 (fnT 3)
 f4:FdOk K 73 (fnT 4)
 f5:FdOk K 80 (fnT 5)
 f8:FdOk K 87 (fnT 8)
 f9:FdOk K 94 (fnT 9)
 f10:FdOk K 101 (fnT 10)
 f11:FdOk K 108 (fnT 11)
 f12:FdOk K 115 (fnT 12)
 f18:FdOk K 137 (fnT 18)
 f19:FdOk K 144 (fnT 19)
 f20:FdOk K 151 (fnT 20)
 f22:FdOk K 156 (fnT 22)
 f23:FdOk K 163 (fnT 23)
 f24:FdOk K 168 (fnT 24)
 f25:FdOk K 173 (fnT 25)
 f26:FdOk K 178 (fnT 26)
 f27:FdOk K 183 (fnT 27)
 f28:FdOk K 188 (fnT 28)
 m0:FdOk K 45 (mtT 0)
 m1:FdOk K 52 (mtT 1)
 free:(["len","isinstance","tuple","int","bool","sum","max","range","list","enumerate","zip","sorted"]:List Str).map (nsIn K mainGlobals)=List.replicate 12 (some none)
 crlf:∃t,nsIn K mainGlobals "CRLF"=some (some (.str ⟨#[13,10]⟩ t))
 tick:∃t,nsIn K mainGlobals "TICK"=some (some (.str ⟨#[39]⟩ t))
 twins:nsIn K mainGlobals "_twin_re_1"=some (some (.ref 120))∧nsIn K mainGlobals "_twin_re_2"=some (some (.ref 125))∧nsIn K mainGlobals "_twin_re_3"=some (some (.ref 130))
 cls:nsIn K mainGlobals "TupleComp"=some (some (.ref tc))
 plain:plainGet K tc "compare"=true
 hd:hasDictIn K tc=true
 attr:findIn K (.ref tc) "comp_select_list"=some none
 over:plainOver K tc=true
 sa:findIn K (.ref tc) "__setattr__"=some (some (.builtin "object.__setattr__"))
 makes:makesIn K tc=true
 keep:keepIn K (.ref tc)=true
 init:findIn K (.ref tc) "__init__"=some (some (.ref 45))∧typeIn K (.ref 45)=some (.type "function")
 cmp:findIn K (.ref tc) "compare"=some (some (.ref 52))∧typeIn K (.ref 52)=some (.type "function")
section
variable {C:Cx}
theorem KOk.defs (h:KOk C.K C.tc):Defs C:=by
 obtain⟨n3,n4,n5,n8,n9,n10,n11,n12,n18,n19,n20,n22,n23,n24,n25,n26,n27,n28⟩:=h.names
 exact⟨df_of n3 h.f3 (b2 fun J J J=>rfl),df_of n4 h.f4 (b2 fun J J J=>rfl),df_of n5 h.f5 (b1 fun J J=>rfl),df_of n9 h.f9 (b1 fun J J=>rfl),df_of n10 h.f10 (b1 fun J J=>rfl),df_of n11 h.f11 (b1 fun J J=>rfl),df_of n12 h.f12 (b1 fun J J=>rfl),df_of n18 h.f18 (b1 fun J J=>rfl),df_of n19 h.f19 (b1 fun J J=>rfl),
  df_of n20 h.f20 (b1 fun J J=>rfl),df_of n22 h.f22 (b1 fun J J=>rfl),df_of n23 h.f23 (b2 fun J J J=>rfl),df_of n24 h.f24 (b4 fun J J J J J=>rfl),df_of n25 h.f25 (b1 fun J J=>rfl),df_of n26 h.f26 (b4 fun J J J J J=>rfl),df_of n27 h.f27 (b4 fun J J J J J=>rfl)⟩
theorem KOk.gen (h:KOk C.K C.tc):GenFn C:=by
 obtain⟨n3,n4,n5,n8,n9,n10,n11,n12,n18,n19,n20,n22,n23,n24,n25,n26,n27,n28⟩:=h.names
 exact⟨87,fdIn C.K 87,mg_of C.KX C.g n8,h.f8.at,fun v=>h.f8.bind fun q=>rfl⟩
theorem KOk.gl (h:KOk C.K C.tc) (p1:Pat C.hb 120 code1 0) (p2:Pat C.hb 125 code1 1) (p3:Pat C.hb 130 code3 0):Gl C:=by
 obtain⟨t,ht⟩:=h.crlf
 obtain⟨u,hu⟩:=h.tick
 obtain⟨w1,w2,w3⟩:=h.twins
 refine⟨⟨120,mg_of C.KX C.g w1,p1⟩,⟨125,mg_of C.KX C.g w2,p2⟩,⟨130,mg_of C.KX C.g w3,p3⟩,⟨t,mg_of C.KX C.g ht⟩,⟨u,mg_of C.KX C.g hu⟩,fun x hx=>mg_none_of C.KX C.g ?_⟩
 have hm:nsIn C.K mainGlobals x∈(["len","isinstance","tuple","int","bool","sum","max","range","list","enumerate","zip","sorted"]:List Str).map (nsIn C.K mainGlobals):=List.mem_map.mpr ⟨x,hx,rfl⟩
 rw[h.free] at hm
 exact List.eq_of_mem_replicate hm
theorem KOk.kls (h:KOk C.K C.tc):Kls C:=
 ⟨mg_of C.KX C.g h.cls,h.plain,h.hd,h.attr,h.over,h.sa,h.makes,h.keep,⟨45,fdIn C.K 45,h.init.1,h.init.2,h.m0.at,fun vs hv=>by obtain⟨a,b,rfl⟩:=len2 hv;exact h.m0.bind fun q=>rfl⟩,⟨52,fdIn C.K 52,h.cmp.1,h.cmp.2,h.m1.at,fun vs hv=>by obtain⟨a,b,c,rfl⟩:=len3 hv;exact h.m1.bind fun q=>rfl⟩⟩
noncomputable def WInv (P:Params) (h:Heap) (v:Value):WData→Prop
 | .int i=>∃t,v=.int i t
 | .list xs=>∃a vs,v=.ref a∧h.get? a=some { cls:=.type "list",data:=.seq vs.toArray }∧WellAll P h vs xs
 | _=>True
theorem winv {P:Params}{h:Heap}{v:Value}{d:WData}(w:Well P h v d):WInv P h v d:=by
 cases w <;> first | exact trivial | exact⟨_,rfl⟩ | exact⟨_,_,rfl,‹_›,‹_›⟩
noncomputable def WAInv (P:Params) (h:Heap) (vs:List Value):List WData→Prop
 | []=>vs=[]
 | d::ds=>∃v ws,vs=v::ws∧Well P h v d∧WellAll P h ws ds
theorem wainv {P:Params}{h:Heap}{vs:List Value}{ds:List WData}(w:WellAll P h vs ds):WAInv P h vs ds:=by
 cases w with
 | nil=>exact rfl
 | cons a b=>exact⟨_,_,rfl,a,b⟩
theorem ints_RA {P:Params}{h:Heap}{F:FZ}{ns:List Int}{vs:List Value}(w:WellAll P h vs (ofPys (ns.map .int))):RA C F vs (ns.map .int):=by
 induction ns generalizing vs with
 | nil=>rw[show vs=[] from wainv w];exact .nil
 | cons i ns ih=>
  obtain⟨v,ws,rfl,a,b⟩:=wainv w
  obtain⟨t,e⟩:∃t,v=.int i t:=winv a
  rw[e];exact .cons (.int _ _) (ih b)
theorem args_R {P:Params}{h:Heap}{l:Addr}{ns:List Int}(w:Well P h (.ref l) (ofPy (.list (ns.map .int)))) {F:FZ}(hF:∀a o,h.get? a=some o→F a=some o):R C F (.ref l) (zD ns):=by
 obtain⟨a,vs,e,hg,hw⟩:=winv w
 rw[e];exact .list (hF _ _ hg) (ints_RA hw)
end
end
section
theorem data1 (n:Nat):Data.seq #[Value.int 14 0,Value.int 4 0,Value.int 0 0,Value.int 1 0,Value.int 1 0,Value.int 6 0,Value.int 1 0,Value.int 16 0,Value.int 46 0,Value.int 1 0] n=Data.seq (code1.map fun k:Nat=>Value.int (k:Int) 0) n:=by simp[code1]
theorem data3 (n:Nat):Data.seq #[Value.int 14 0,Value.int 9 0,Value.int 4 0,Value.int 1 0,Value.int 2 0,Value.int 16 0,Value.int 10 0,Value.int 16 0,Value.int 13 0,Value.int 0 0,Value.int 7 0,Value.int 7 0,Value.int 16 0,Value.int 13 0,Value.int 16 0,Value.int 10 0,Value.int 15 0,Value.int 18 0,Value.int 5 0,Value.int 16 0,Value.int 10 0,Value.int 15 0,Value.int 13 0,Value.int 11 0,Value.int 16 0,Value.int 13 0,Value.int 5 0,Value.int 5 0,Value.int 0 0,Value.int 16 0,Value.int 10 0,Value.int 1 0,Value.int 15 0,Value.int 2 0,Value.int 0 0,Value.int 1 0] n=Data.seq (code3.map fun k:Nat=>Value.int (k:Int) 0) n:=by simp[code3]
theorem fa_of {K:Frag}{h:Heap}{mg:Str→Option Value}(KX:K.In h) (g:h.Ns mainGlobals mg) {fa:Addr}(hmg:mg "law"=some (.ref fa)) (hn:nsIn K mainGlobals "law"=some (some (.ref 188))):fa=188:=by
 have h3:=hmg.symm.trans (mg_of KX g hn)
 simpa using h3
theorem law_ends {p:Program}{w:World}{s₁:Shared}{mg mb:Str→Option Value}{K:Frag}{fa l:Addr}{ns:List Int}{c:ClaimW}{cl:Str→Option Addr}{mean:ExcName→Option Value}{args:List WData}
  (g:s₁.heap.Ns mainGlobals mg) (b:s₁.heap.Ns builtinsNs mb) (bi:∀x:Str,x≠"__name__"→mb x=bootBuiltins x) (nl:s₁.heap.NoLimit) (KX:K.In s₁.heap) (hk:KOk K 55) (p1:Pat s₁.heap 120 code1 0) (p2:Pat s₁.heap 125 code1 1) (p3:Pat s₁.heap 130 code3 0)
  (hfa:fa=188) (hL:(PyData.list (ns.map .int)).layable0=true) (hc:¬(63:Int)<ns.length) (w1:Well w.params s₁.heap (.ref l) (ofPy (.list (ns.map .int)))) (hg:s₁.gens=#[]) (hn:∀k,c.raises args k=false) (hp:c.post args (.bool true) args=true) :
  wpAny (model p w) callerA ((fun f vs=>call f vs) (Value.ref fa) [Value.ref l]) (fun v s'=>GoodWG c cl mean args s₁ (.ok (.ret v)) s') (fun e s'=>GoodWG c cl mean args s₁ (.error e) s') s₁:=by
 subst hfa
 have C:∃C:Cx,C.prog=p∧C.w=w∧C.hb=s₁.heap∧C.K=K∧C.tc=55∧C.mg=mg:=⟨{ prog:=p,w:=w,hb:=s₁.heap,mg:=mg,mb:=mb,K:=K,tc:=55,g:=g,b:=b,bi:=bi,nolimit:=nl,KX:=KX },rfl,rfl,rfl,rfl,rfl,rfl⟩
 obtain⟨C,e1,e2,e3,e4,e5,e6⟩:=C
 subst e1 e2
 rw[← e4,← e5] at hk
 rw[← e3] at p1 p2 p3
 have hF:=hk.f28.at
 refine Wp.any ((call_law (hk.gl p1 p2 p3) hk.kls hk.gen hk.defs hF (fun vs hv=>by obtain⟨a,rfl⟩:=len1 hv;exact hk.f28.bind fun q=>rfl) (script:=ns) (by lia) (fun x hx=>PyData.bits_item_of_ints hL hx) (F:=s₁.heap.get?) (s:=s₁) (vs:=[.ref l]) ?_ (fun J J e=>e) (by rw[e3];exact fun J J e=>e) (.one (args_R w1 fun J J e=>e))).imp fun v s' ⟨ev,keep,os,bare⟩=>?_)
 ·exact⟨rfl,by decide,by decide⟩
 ·subst ev
  exact⟨.inl ⟨.bool true,.bool true,[],rfl,hn,.bool true,hp,fun J=>⟨List.nodup_nil,fun a ha=>nomatch ha⟩⟩,.of_keep keep,os,bare (.of_eq hg)⟩
end
end Mine
set_option tactic.hygienic true in
set_option maxRecDepth 100000 in
set_option maxHeartbeats 8000000 in
theorem PySem.Challenge.cw_wz0003_01_holds : PySem.Challenge.rw_wz0003_01.Holds := by
 w_on;(refine holds_law (by kernel_rfl) fun said=>?_);k_head;(case hw=>w_witness2)
 k_fill
 intro w s₀ s₁ mg mb G Y fa o pm cd doc dV kV ho hd hcd hD hmg hg args vals as hpre hlay hrd hwl hlo
 have KX:=kIn_of Y
 refine Ground.open G ?_
 intro T B D TE TW
 wrow_args hpre hlay hrd hwl hlo
 rename_i ns hs hlay0 hL hr hl2 as1 as2 l vs as3 hIL ra w1 r0 hI hr' hc hc'
 clear hD hd hcd ho TE TW D B G
 refine Mine.law_ends T.g T.b T.builtins T.nolimit KX ?hk ⟨_,_,_,_,_,_,_,_,KX _ _ rfl,rfl,rfl,rfl,_,_,KX _ _ rfl,Mine.data1 _⟩ ⟨_,_,_,_,_,_,_,_,KX _ _ rfl,rfl,rfl,rfl,_,_,KX _ _ rfl,Mine.data1 _⟩ ⟨_,_,_,_,_,_,_,_,KX _ _ rfl,rfl,rfl,rfl,_,_,KX _ _ rfl,Mine.data3 _⟩ (Mine.fa_of KX T.g hmg (by kernel_rfl)) hL hc w1 hg (raisesW_false (by wrow_none_raised)) (by wrow_post)
 constructor
 ·exact⟨by kernel_rfl,by kernel_rfl,by kernel_rfl,by kernel_rfl,by kernel_rfl,by kernel_rfl,by kernel_rfl,by kernel_rfl,by kernel_rfl,by kernel_rfl,by kernel_rfl,by kernel_rfl,by kernel_rfl,by kernel_rfl,by kernel_rfl,by kernel_rfl,by kernel_rfl,by kernel_rfl⟩
 iterate 20 exact⟨by kernel_rfl,by kernel_rfl,by kernel_rfl⟩
 ·kernel_rfl
 ·exact⟨493,by kernel_rfl⟩
 ·exact⟨366,by kernel_rfl⟩
 ·exact⟨by kernel_rfl,by kernel_rfl,by kernel_rfl⟩
 ·kernel_rfl
 ·kernel_rfl
 ·kernel_rfl
 ·kernel_rfl
 ·kernel_rfl
 ·kernel_rfl
 ·kernel_rfl
 ·kernel_rfl
 ·exact⟨by kernel_rfl,by kernel_rfl⟩
 ·exact⟨by kernel_rfl,by kernel_rfl⟩
